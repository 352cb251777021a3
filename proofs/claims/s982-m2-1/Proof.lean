import JvmDerived
import JvmDerived.Pilot.@@N@@Statement
import JvmDerived.Pilot.@@N@@Code
set_option linter.unusedVariables false
set_option linter.unusedSimpArgs false
/- laws to paste: Road.backV (cut by pick.py; bodies as the Statement names them) -/
namespace Jvm.Pilot.@@N@@
namespace StrChars
open Jvm Sem ClassFile Op Lib Jvm.Stand Jvm.Free.XT Jvm.Free.ALB Jvm.Free.JM Jvm.Free
open Jvm.Lib.Cold (StaticIs)
/-- a char array whose places are chars -/
def Ch (a : Addr) (A : Cell) (U : State) : Prop := Arr .char a A U ∧ Typed .char A
theorem Ch.mv {a : Addr} {A : Cell} {U U' : State} (h : Ch a A U) (hal : U.vm.Alike U'.vm) (hh : U'.heap = U.heap) : Ch a A U' := ⟨h.1.mv hal hh, h.2⟩
theorem Ch.keep {a : Addr} {A : Cell} {U U' : State} (h : Ch a A U) (hal : U.vm.Alike U'.vm) (hk : U'.heap[a]? = some A) : Ch a A U' := ⟨h.1.keep hal hk, h.2⟩
/-- what place i of a char[]'s cell holds -/
def cv (A : Cell) (i : Nat) : Int32 := match A.slots[i]? with | some (.int x) => x | _ => 0
theorem Ch.get {a : Addr} {A : Cell} {U : State} (h : Ch a A U) {i : Nat} (hi : i < A.slots.size) : A.slots[i]? = some (.int (cv A i)) := by
  have e := Array.getElem?_eq_getElem hi
  have f := h.2 i _ e
  unfold cv; rw [e]
  generalize A.slots[i] = v at f
  cases v <;> simp [fits] at f ⊢
/-- the byte that i2b leaves of a char -/
def lo8 (x : Int32) : Int32 := x.toInt8.toInt32
theorem fits_lo8 (y : Int32) : fits .byte (.int (lo8 y)) = true := by
  have h1 := y.toInt8.le_toInt
  have h2 := y.toInt8.toInt_lt
  simp only [lo8, fits, Bool.and_eq_true, decide_eq_true_eq, Int32.le_iff_toInt_le, Int8.toInt_toInt32, show (-128 : Int32).toInt = -128 from by decide, show (127 : Int32).toInt = 127 from by decide]
  omega
/-- A' is A but that each place j of lo .. hi - 1 holds f j -/
def Laid (A A' : Cell) (lo hi : Nat) (f : Nat → Value) : Prop := A'.cls = A.cls ∧ A'.vm = A.vm ∧ A'.slots.size = A.slots.size ∧ ∀ i, A'.slots[i]? = if lo ≤ i ∧ i < hi then some (f i) else A.slots[i]?
theorem Laid.zero (A : Cell) (lo : Nat) (f : Nat → Value) : Laid A A lo (lo + 0) f := ⟨rfl, rfl, rfl, fun i => by rw [if_neg (by omega)]⟩
theorem Laid.step {A Ak : Cell} {lo k : Nat} {f : Nat → Value} {v : Value} (h : Laid A Ak lo k f) (hlo : lo ≤ k) (hk : k < Ak.slots.size) (hv : v = f k) : Laid A (Ak.setSlot k v) lo (k + 1) f := by
  refine ⟨h.1, h.2.1, by simpa [Cell.setSlot] using h.2.2.1, fun i => ?_⟩
  by_cases e : k = i
  · subst e; rw [Cell.slots_setSlot_self v hk, if_pos (by omega), hv]
  · rw [Cell.slots_setSlot_ne v e, h.2.2.2 i]
    by_cases q : lo ≤ i ∧ i < k
    · rw [if_pos q, if_pos (by omega)]
    · rw [if_neg q, if_neg (by omega)]
def U16 : String := "java/lang/StringUTF16"
namespace Cmp5
def yN : MethodName := ⟨"java/lang/StringUTF16", "compress", "([CI[BII)I"⟩
abbrev yB : ByteArray := jdk_52_method_21_code
theorem d0 : decode yB 0 = .ok (.iconst 0, 1) := by decide +kernel
theorem d1 : decode yB 1 = .ok (.istore 5, 2) := by decide +kernel
theorem d3 : decode yB 3 = .ok (.iload 5, 2) := by decide +kernel
theorem d5 : decode yB 5 = .ok (.iload 4, 2) := by decide +kernel
theorem d7 : decode yB 7 = .ok (.if_icmp (.ge) 37, 3) := by decide +kernel
theorem d10 : decode yB 10 = .ok (.aload_n 0, 1) := by decide +kernel
theorem d11 : decode yB 11 = .ok (.iload_n 1, 1) := by decide +kernel
theorem d12 : decode yB 12 = .ok (.caload, 1) := by decide +kernel
theorem d13 : decode yB 13 = .ok (.istore 6, 2) := by decide +kernel
theorem d15 : decode yB 15 = .ok (.iload 6, 2) := by decide +kernel
theorem d17 : decode yB 17 = .ok (.sipush 255, 3) := by decide +kernel
theorem d20 : decode yB 20 = .ok (.if_icmp (.le) 6, 3) := by decide +kernel
theorem d26 : decode yB 26 = .ok (.aload_n 2, 1) := by decide +kernel
theorem d27 : decode yB 27 = .ok (.iload_n 3, 1) := by decide +kernel
theorem d28 : decode yB 28 = .ok (.iload 6, 2) := by decide +kernel
theorem d30 : decode yB 30 = .ok (.i2b, 1) := by decide +kernel
theorem d31 : decode yB 31 = .ok (.bastore, 1) := by decide +kernel
theorem d32 : decode yB 32 = .ok (.iinc 1 1, 3) := by decide +kernel
theorem d35 : decode yB 35 = .ok (.iinc 3 1, 3) := by decide +kernel
theorem d38 : decode yB 38 = .ok (.iinc 5 1, 3) := by decide +kernel
theorem d41 : decode yB 41 = .ok (.goto (-38), 3) := by decide +kernel
theorem d44 : decode yB 44 = .ok (.iload 4, 2) := by decide +kernel
theorem d46 : decode yB 46 = .ok (.ireturn, 1) := by decide +kernel
def site : List Cond := []
def tab : Cond := tabOf yN yB 7 (some .int) site
def P (b : Addr) (A : Cell) (d : Addr) (B : Cell) (o q len : Nat) (args : Array Value) (s : State) : Prop := args = #[.ref b, .int (Int32.ofNat o), .ref d, .int (Int32.ofNat q), .int (Int32.ofNat len)] ∧ Ch b A s ∧ Arr .byte d B s ∧ b ≠ d ∧ o + len ≤ A.slots.size ∧ q + len ≤ B.slots.size ∧ ∀ i, i < len → ¬ 255 < cv A (o + i)
def E (b : Addr) (A : Cell) (d : Addr) (B : Cell) (o q len : Nat) (r : Option Value) (s u : State) : Prop := r = some (.int (Int32.ofNat len)) ∧ ∃ B', Put d B' s u ∧ Laid B B' q (q + len) (fun j => Value.int (lo8 (cv A (o + (j - q)))))
/-- no char of the range above 255: len; the places written hold each char's low byte -/
theorem law (l : Launch) (b : Addr) (A : Cell) (d : Addr) (B : Cell) (o q len : Nat) : Law l yN 5 5 0 0 yB 7 (some .int) site (P b A d B o q len) (E b A d B o q len) (copyLocs d q len) 0 0 := by
  refine Law.of_walk (plainFor_of_name (by decide +kernel)) (by decide +kernel) (by decide +kernel) (by decide) (fun _ _ h => by rw [h.1]; rfl) (fun _ U U' hal hh h => ⟨h.1, h.2.1.mv hal hh, h.2.2.1.mv hal hh, h.2.2.2⟩) (fun r U U' V V' h1 hal h2 h => ⟨h.1, h.2.elim fun B' q => ⟨B', q.1.mv h1 h2, q.2⟩⟩) ?_
  intro p e s m args below meth c s₁ X0 hexec hbytes hml hret hlk hnm hown hh0 W hP
  obtain ⟨rfl, hA, hB, hne, l1, l2, hp⟩ := hP
  have c1 : Steps p.tables e below (s₁.setTop (entryFrame m #[.ref b, .int (Int32.ofNat o), .ref d, .int (Int32.ofNat q), .int (Int32.ofNat len)] 7)) (s₁.setTop (mkF m 0 #[.val (.ref b), .val (.int (Int32.ofNat o)), .val (.ref d), .val (.int (Int32.ofNat q)), .val (.int (Int32.ofNat len)), .unset, .unset] [])) := entry rfl
  have hA0 := hA.1.mv X0.warmed.alike hh0
  have hB0 := hB.mv X0.warmed.alike hh0
  have a31 := hA.1.2.2.2
  have c2 : Steps p.tables e below (s₁.setTop (entryFrame m #[.ref b, .int (Int32.ofNat o), .ref d, .int (Int32.ofNat q), .int (Int32.ofNat len)] 7)) (s₁.setTop (mkF m 3 #[.val (.ref b), .val (.int (Int32.ofNat o)), .val (.ref d), .val (.int (Int32.ofNat q)), .val (.int (Int32.ofNat len)), .val (.int 0), .unset] [])) := c1.trans (by
    refine iconstV X0.here hexec rfl 0 (hb hbytes d0) (by decide) ?_
    refine XS.istore X0.here hexec rfl (hb hbytes d1) rfl rfl ?_
    exact Steps.refl _)
  have loop : ∀ (r i : Nat), i + r = len → ∀ (z : Slot), (z = .unset ∨ ∃ w, z = .val w ∧ w.category = 1) → ∀ (Tl : State) (Bk : Cell), Stand p l e { frames := 0, locals := 0, cells := 0, slots := 0 } s m #[.ref b, .int (Int32.ofNat o), .ref d, .int (Int32.ofNat q), .int (Int32.ofNat len)] below meth c Tl ([] ++ copyLocs d q i) 0 0 → Put d Bk s₁ Tl → Laid B Bk q (q + i) (fun j => Value.int (lo8 (cv A (o + (j - q))))) →
      Steps p.tables e below (s₁.setTop (entryFrame m #[.ref b, .int (Int32.ofNat o), .ref d, .int (Int32.ofNat q), .int (Int32.ofNat len)] 7)) (Tl.setTop (mkF m 3 #[.val (.ref b), .val (.int (Int32.ofNat (o + i))), .val (.ref d), .val (.int (Int32.ofNat (q + i))), .val (.int (Int32.ofNat len)), .val (.int (Int32.ofNat i)), z] [])) → ∃ (T' : State) (B' : Cell) (z' : Slot), Stand p l e { frames := 0, locals := 0, cells := 0, slots := 0 } s m #[.ref b, .int (Int32.ofNat o), .ref d, .int (Int32.ofNat q), .int (Int32.ofNat len)] below meth c T' ([] ++ copyLocs d q len) 0 0 ∧ Put d B' s₁ T' ∧ Laid B B' q (q + len) (fun j => Value.int (lo8 (cv A (o + (j - q))))) ∧
      Steps p.tables e below (s₁.setTop (entryFrame m #[.ref b, .int (Int32.ofNat o), .ref d, .int (Int32.ofNat q), .int (Int32.ofNat len)] 7)) (T'.setTop (mkF m 3 #[.val (.ref b), .val (.int (Int32.ofNat (o + len))), .val (.ref d), .val (.int (Int32.ofNat (q + len))), .val (.int (Int32.ofNat len)), .val (.int (Int32.ofNat len)), z'] [])) := by
    intro r
    induction r with
    | zero =>
      intro i hi z hz Tl Bk Xl pl fl cl
      have hil : i = len := by omega
      rw [hil] at Xl fl cl
      exact ⟨Tl, Bk, z, Xl, pl, fl, cl⟩
    | succ r ih =>
      intro i hi z hz Tl Bk Xl pl fl cl
      have all := X0.warmed.alike.symm.trans Xl.warmed.alike
      have hAl := hA0.keep all (pl.other hne hA0.1)
      have hBk := hB0.like all pl.1 fl.1 fl.2.1 fl.2.2.1
      have hlt : q + i < Bk.slots.size := by rw [fl.2.2.1]; omega
      have c3 : Steps p.tables e below (s₁.setTop (entryFrame m #[.ref b, .int (Int32.ofNat o), .ref d, .int (Int32.ofNat q), .int (Int32.ofNat len)] 7)) (Tl.setTop (mkF m 12 #[.val (.ref b), .val (.int (Int32.ofNat (o + i))), .val (.ref d), .val (.int (Int32.ofNat (q + i))), .val (.int (Int32.ofNat len)), .val (.int (Int32.ofNat i)), z] [.int (Int32.ofNat (o + i)), .ref b])) := cl.trans (by
        refine XS.iload Xl.here hexec rfl (hb hbytes d3) rfl ?_
        refine XS.iload Xl.here hexec rfl (hb hbytes d5) rfl ?_
        refine XS.icmpNo Xl.here hexec rfl (hb hbytes d7) rfl (ii_ge_f (lt32 (by omega) (by omega))) ?_
        refine XS.aloadN Xl.here hexec rfl (hb hbytes d10) rfl rfl ?_
        refine XS.iloadN Xl.here hexec rfl (hb hbytes d11) rfl ?_
        exact Steps.refl _)
      have c4 : Steps p.tables e below (s₁.setTop (entryFrame m #[.ref b, .int (Int32.ofNat o), .ref d, .int (Int32.ofNat q), .int (Int32.ofNat len)] 7)) (Tl.setTop (mkF m 13 #[.val (.ref b), .val (.int (Int32.ofNat (o + i))), .val (.ref d), .val (.int (Int32.ofNat (q + i))), .val (.int (Int32.ofNat len)), .val (.int (Int32.ofNat i)), z] [.int (cv A (o + i))])) := c3.trans (by
        refine Xl.aget hexec hAl rfl (hA.get (i := o + i) (by omega)) rfl rfl (hb hbytes d12) ?_
        exact Steps.refl _)
      have c5 : Steps p.tables e below (s₁.setTop (entryFrame m #[.ref b, .int (Int32.ofNat o), .ref d, .int (Int32.ofNat q), .int (Int32.ofNat len)] 7)) (Tl.setTop (mkF m 15 #[.val (.ref b), .val (.int (Int32.ofNat (o + i))), .val (.ref d), .val (.int (Int32.ofNat (q + i))), .val (.int (Int32.ofNat len)), .val (.int (Int32.ofNat i)), .val (.int (cv A (o + i)))] [])) := c4.trans (by
        refine XS.istoreS Xl.here hexec rfl (hb hbytes d13) rfl rfl hz ?_
        exact Steps.refl _)
      have c6 : Steps p.tables e below (s₁.setTop (entryFrame m #[.ref b, .int (Int32.ofNat o), .ref d, .int (Int32.ofNat q), .int (Int32.ofNat len)] 7)) (Tl.setTop (mkF m 31 #[.val (.ref b), .val (.int (Int32.ofNat (o + i))), .val (.ref d), .val (.int (Int32.ofNat (q + i))), .val (.int (Int32.ofNat len)), .val (.int (Int32.ofNat i)), .val (.int (cv A (o + i)))] [.int (lo8 (cv A (o + i))), .int (Int32.ofNat (q + i)), .ref d])) := c5.trans (by
        refine XS.iload Xl.here hexec rfl (hb hbytes d15) rfl ?_
        refine sipushV Xl.here hexec rfl 255 (hb hbytes d17) (by decide) ?_
        refine XS.icmpYes Xl.here hexec rfl (pc0 := 20) rfl (hb hbytes d20) rfl (ii_le_t (hp i (by omega))) (by decide) rfl ?_
        refine XS.aloadN Xl.here hexec rfl (hb hbytes d26) rfl rfl ?_
        refine XS.iloadN Xl.here hexec rfl (hb hbytes d27) rfl ?_
        refine XS.iload Xl.here hexec rfl (hb hbytes d28) rfl ?_
        refine i2b Xl.here hexec rfl (hb hbytes d30) rfl ?_
        exact Steps.refl _)
      obtain ⟨T7, X7, p7, st7⟩ := Xl.aput hexec hBk rfl hlt rfl (fits_lo8 (cv A (o + i))) (g := (mkF m 31 #[.val (.ref b), .val (.int (Int32.ofNat (o + i))), .val (.ref d), .val (.int (Int32.ofNat (q + i))), .val (.int (Int32.ofNat len)), .val (.int (Int32.ofNat i)), .val (.int (cv A (o + i)))] [.int (lo8 (cv A (o + i))), .int (Int32.ofNat (q + i)), .ref d])) rfl (rest := []) rfl (hb hbytes d31)
      have c8 : Steps p.tables e below (s₁.setTop (entryFrame m #[.ref b, .int (Int32.ofNat o), .ref d, .int (Int32.ofNat q), .int (Int32.ofNat len)] 7)) (T7.setTop (mkF m 32 #[.val (.ref b), .val (.int (Int32.ofNat (o + i))), .val (.ref d), .val (.int (Int32.ofNat (q + i))), .val (.int (Int32.ofNat len)), .val (.int (Int32.ofNat i)), .val (.int (cv A (o + i)))] [])) := c6.trans (st7 _ (Steps.refl _))
      have c9 : Steps p.tables e below (s₁.setTop (entryFrame m #[.ref b, .int (Int32.ofNat o), .ref d, .int (Int32.ofNat q), .int (Int32.ofNat len)] 7)) (T7.setTop (mkF m 3 #[.val (.ref b), .val (.int (Int32.ofNat (o + i) + 1)), .val (.ref d), .val (.int (Int32.ofNat (q + i) + 1)), .val (.int (Int32.ofNat len)), .val (.int (Int32.ofNat i + 1)), .val (.int (cv A (o + i)))] [])) := c8.trans (by
        refine iincV X7.here hexec rfl 1 (hb hbytes d32) (by decide) rfl rfl ?_
        refine iincV X7.here hexec rfl 1 (hb hbytes d35) (by decide) rfl rfl ?_
        refine iincV X7.here hexec rfl 1 (hb hbytes d38) (by decide) rfl rfl ?_
        refine XS.goto X7.here hexec rfl (pc0 := 41) rfl (hb hbytes d41) (by decide) rfl ?_
        exact Steps.refl _)
      have c10 : Steps p.tables e below (s₁.setTop (entryFrame m #[.ref b, .int (Int32.ofNat o), .ref d, .int (Int32.ofNat q), .int (Int32.ofNat len)] 7)) (T7.setTop (mkF m 3 #[.val (.ref b), .val (.int (Int32.ofNat (o + (i + 1)))), .val (.ref d), .val (.int (Int32.ofNat (q + (i + 1)))), .val (.int (Int32.ofNat len)), .val (.int (Int32.ofNat (i + 1))), .val (.int (cv A (o + i)))] [])) := by
        have := c9
        rw [succ32, succ32, succ32] at this
        exact this
      exact ih (i + 1) (by omega) _ (Or.inr ⟨_, rfl, rfl⟩) T7 _ (by rw [copyLocs_step, ← List.append_assoc]; exact X7) (pl.trans p7) (fl.step (by omega) hlt (by simp)) c10
  obtain ⟨T9, B9, z9, X9, p9, f9, g9⟩ := loop len 0 (by omega) .unset (Or.inl rfl) s₁ B (by simpa [copyLocs] using X0) ⟨hB0.1, fun _ _ => rfl, rfl⟩ (Laid.zero _ _ _) c2
  have c11 : Steps p.tables e below (s₁.setTop (entryFrame m #[.ref b, .int (Int32.ofNat o), .ref d, .int (Int32.ofNat q), .int (Int32.ofNat len)] 7)) (T9.setTop (mkF m 46 #[.val (.ref b), .val (.int (Int32.ofNat (o + len))), .val (.ref d), .val (.int (Int32.ofNat (q + len))), .val (.int (Int32.ofNat len)), .val (.int (Int32.ofNat len)), z9] [.int (Int32.ofNat len)])) := g9.trans (by
    refine XS.iload X9.here hexec rfl (hb hbytes d3) rfl ?_
    refine XS.iload X9.here hexec rfl (hb hbytes d5) rfl ?_
    refine XS.icmpYes X9.here hexec rfl (pc0 := 7) rfl (hb hbytes d7) rfl (ii_ge_t (nlt32 (by omega) (Nat.le_refl _))) (by decide) rfl ?_
    refine XS.iload X9.here hexec rfl (hb hbytes d44) rfl ?_
    exact Steps.refl _)
  exact ⟨T9, some (.int (Int32.ofNat len)), _, _, _, X9, by simp, rfl, rfl, (fun h => by cases h), ⟨rfl, B9, p9.from hh0, f9⟩, fun fs hl => c11.trans (X9.ireturnOut hexec hret rfl (Or.inl rfl) (hb hbytes d46) hl)⟩
end Cmp5
namespace Cmp3
def yN : MethodName := ⟨"java/lang/StringUTF16", "compress", "([CII)[B"⟩
abbrev yB : ByteArray := jdk_52_method_16_code
theorem d0 : decode yB 0 = .ok (.iload_n 2, 1) := by decide +kernel
theorem d1 : decode yB 1 = .ok (.newarray .byte, 2) := by decide +kernel
theorem d3 : decode yB 3 = .ok (.astore_n 3, 1) := by decide +kernel
theorem d4 : decode yB 4 = .ok (.aload_n 0, 1) := by decide +kernel
theorem d5 : decode yB 5 = .ok (.iload_n 1, 1) := by decide +kernel
theorem d6 : decode yB 6 = .ok (.aload_n 3, 1) := by decide +kernel
theorem d7 : decode yB 7 = .ok (.iconst 0, 1) := by decide +kernel
theorem d8 : decode yB 8 = .ok (.iload_n 2, 1) := by decide +kernel
theorem d9 : decode yB 9 = .ok (.invokestatic 115, 3) := by decide +kernel
theorem d12 : decode yB 12 = .ok (.istore 4, 2) := by decide +kernel
theorem d14 : decode yB 14 = .ok (.iload 4, 2) := by decide +kernel
theorem d16 : decode yB 16 = .ok (.iload_n 2, 1) := by decide +kernel
theorem d17 : decode yB 17 = .ok (.if_icmp (.eq) 40, 3) := by decide +kernel
theorem d57 : decode yB 57 = .ok (.aload_n 3, 1) := by decide +kernel
theorem d58 : decode yB 58 = .ok (.areturn, 1) := by decide +kernel
def site : List Cond := [.arrayClass .byte, Cmp5.tab] ++ staticW U16 115 Cmp5.yN
def tab : Cond := tabOf yN yB 6 (some (.array .byte)) site
def P (b : Addr) (A : Cell) (o len : Nat) (args : Array Value) (s : State) : Prop := args = #[.ref b, .int (Int32.ofNat o), .int (Int32.ofNat len)] ∧ Ch b A s ∧ o + len ≤ A.slots.size ∧ len ≤ 536870912 ∧ ∀ i, i < len → ¬ 255 < cv A (o + i)
def E (b : Addr) (A : Cell) (o len : Nat) (r : Option Value) (s u : State) : Prop := NewArr .byte "[B" len (fun j => .int (lo8 (cv A (o + j)))) r s u ∧ u.heap.size = s.heap.size + 1
/-- no char of the range above 255: a new byte[] of their low bytes -/
theorem law (l : Launch) (b : Addr) (A : Cell) (o len : Nat) : Law l yN 3 3 1 18 yB 6 (some (.array .byte)) site (P b A o len) (E b A o len) [] 1 len := by
  refine Law.of_walk (plainFor_of_name (by decide +kernel)) (by decide +kernel) (by decide +kernel) (by decide) (fun _ _ h => by rw [h.1]; rfl) (fun _ U U' hal hh h => ⟨h.1, h.2.1.mv hal hh, h.2.2⟩) (fun r U U' V V' h1 hal h2 h => ⟨NewArr.mv r U U' V V' h1 hal h2 h.1, by rw [h1, h2]; exact h.2⟩) ?_
  intro p e s m args below meth c s₁ X0 hexec hbytes hml hret hlk hnm hown hh0 W hP
  obtain ⟨rfl, hA, l1, l2, hp⟩ := hP
  have a31 := hA.1.2.2.2
  have c1 : Steps p.tables e below (s₁.setTop (entryFrame m #[.ref b, .int (Int32.ofNat o), .int (Int32.ofNat len)] 6)) (s₁.setTop (mkF m 0 #[.val (.ref b), .val (.int (Int32.ofNat o)), .val (.int (Int32.ofNat len)), .unset, .unset, .unset] [])) := entry rfl
  have c2 : Steps p.tables e below (s₁.setTop (entryFrame m #[.ref b, .int (Int32.ofNat o), .int (Int32.ofNat len)] 6)) (s₁.setTop (mkF m 1 #[.val (.ref b), .val (.int (Int32.ofNat o)), .val (.int (Int32.ofNat len)), .unset, .unset, .unset] [.int (Int32.ofNat len)])) := c1.trans (by
    refine XS.iloadN X0.here hexec rfl (hb hbytes d0) rfl ?_
    exact Steps.refl _)
  obtain ⟨T3, B3, X3, ba3, bs3, bv3, bh3, bf3, st3⟩ := X0.anew hexec (atype := .byte) (wk W (.arrayClass .byte)) rfl (by show len * 1 ≤ _; omega) (by omega) (g := (mkF m 1 #[.val (.ref b), .val (.int (Int32.ofNat o)), .val (.int (Int32.ofNat len)), .unset, .unset, .unset] [.int (Int32.ofNat len)])) rfl (hb hbytes d1) (rest := []) rfl (Nat.le_refl _) (by show 0 + len ≤ len; omega)
  rw [hh0] at ba3 st3
  have kp3 : XT.Kept s T3 := (XT.Kept.of_eq hh0).push bh3
  have hA3 := hA.keep X3.warmed.alike (kp3 _ _ hA.1.1)
  have hne : b ≠ s.heap.size := hA.1.ne
  have c4 : Steps p.tables e below (s₁.setTop (entryFrame m #[.ref b, .int (Int32.ofNat o), .int (Int32.ofNat len)] 6)) (T3.setTop (mkF m 3 #[.val (.ref b), .val (.int (Int32.ofNat o)), .val (.int (Int32.ofNat len)), .unset, .unset, .unset] [.ref s.heap.size])) := c2.trans (st3 _ (Steps.refl _))
  have c5 : Steps p.tables e below (s₁.setTop (entryFrame m #[.ref b, .int (Int32.ofNat o), .int (Int32.ofNat len)] 6)) (T3.setTop (mkF m 9 #[.val (.ref b), .val (.int (Int32.ofNat o)), .val (.int (Int32.ofNat len)), .val (.ref s.heap.size), .unset, .unset] [.int (Int32.ofNat len), .int 0, .ref s.heap.size, .int (Int32.ofNat o), .ref b])) := c4.trans (by
    refine XS.astoreN X3.here hexec rfl (hb hbytes d3) rfl rfl rfl ?_
    refine XS.aloadN X3.here hexec rfl (hb hbytes d4) rfl rfl ?_
    refine XS.iloadN X3.here hexec rfl (hb hbytes d5) rfl ?_
    refine XS.aloadN X3.here hexec rfl (hb hbytes d6) rfl rfl ?_
    refine iconstV X3.here hexec rfl 0 (hb hbytes d7) (by decide) ?_
    refine XS.iloadN X3.here hexec rfl (hb hbytes d8) rfl ?_
    exact Steps.refl _)
  obtain ⟨v6, T6, X6, E6, g6⟩ := X3.callS hexec (Cmp5.law l b A s.heap.size B3 o 0 len) hown (wks W (staticW U16 115 Cmp5.yN)) (wk W Cmp5.tab) (W := 0) (Nat.le_of_ble_eq_true rfl) (Nat.le_of_ble_eq_true rfl) (Nat.le_refl _) (by show 0 + len + 0 ≤ len; omega) (g := (mkF m 9 #[.val (.ref b), .val (.int (Int32.ofNat o)), .val (.int (Int32.ofNat len)), .val (.ref s.heap.size), .unset, .unset] [.int (Int32.ofNat len), .int (Int32.ofNat 0), .ref s.heap.size, .int (Int32.ofNat o), .ref b])) rfl (by rw [hml]; rfl) c5 (argsL := [.ref b, .int (Int32.ofNat o), .ref s.heap.size, .int (Int32.ofNat 0), .int (Int32.ofNat len)]) (rest := []) rfl rfl (by show 2 * 0 + 0 ≤ _; decide) (hb hbytes d9) (⟨rfl, hA3, ba3, hne, l1, by rw [bs3]; simp, hp⟩)
  obtain ⟨rfl, B6, p6, f6⟩ := E6
  have c7 : Steps p.tables e below (s₁.setTop (entryFrame m #[.ref b, .int (Int32.ofNat o), .int (Int32.ofNat len)] 6)) (T6.setTop (mkF m 12 #[.val (.ref b), .val (.int (Int32.ofNat o)), .val (.int (Int32.ofNat len)), .val (.ref s.heap.size), .unset, .unset] [.int (Int32.ofNat len)])) := g6
  have c8 : Steps p.tables e below (s₁.setTop (entryFrame m #[.ref b, .int (Int32.ofNat o), .int (Int32.ofNat len)] 6)) (T6.setTop (mkF m 58 #[.val (.ref b), .val (.int (Int32.ofNat o)), .val (.int (Int32.ofNat len)), .val (.ref s.heap.size), .val (.int (Int32.ofNat len)), .unset] [.ref s.heap.size])) := c7.trans (by
    refine XS.istore X6.here hexec rfl (hb hbytes d12) rfl rfl ?_
    refine XS.iload X6.here hexec rfl (hb hbytes d14) rfl ?_
    refine XS.iloadN X6.here hexec rfl (hb hbytes d16) rfl ?_
    refine XS.icmpYes X6.here hexec rfl (pc0 := 17) rfl (hb hbytes d17) rfl (ii_eq_t rfl) (by decide) rfl ?_
    refine XS.aloadN X6.here hexec rfl (hb hbytes d57) rfl rfl ?_
    exact Steps.refl _)
  have X8 := X6.wide (L' := []) (cells' := 1) (slots' := len) (fun x hx hlt => by
    simp only [List.nil_append, copyLocs, List.mem_map, List.mem_range] at hx
    obtain ⟨i, -, rfl⟩ := hx
    exact absurd hlt (Nat.lt_irrefl _)) (Nat.le_refl _) (by omega)
  exact ⟨T6, some (.ref s.heap.size), _, _, _, X8, rfl, rfl, rfl, (fun h => by cases h), ⟨⟨rfl, B6, ba3.like (X3.warmed.alike.symm.trans X6.warmed.alike) p6.1 f6.1 f6.2.1 f6.2.2.1, f6.2.1.trans bv3, by rw [X6.warmed.alike.findClass, f6.1]; exact bf3, by rw [f6.2.2.1, bs3]; simp, fun j hj => by rw [f6.2.2.2 j, if_pos (by omega)]; rfl, kp3.put p6 (Nat.le_refl _)⟩, by rw [p6.2.2, bh3, hh0]; simp⟩, fun fs hl => c8.trans (X8.areturnOut hexec rfl hret rfl (hb hbytes d58) hl)⟩
end Cmp3
namespace CodL
def yN : MethodName := ⟨"java/lang/StringUTF16", "coderFromArrayLen", "([BI)B"⟩
abbrev yB : ByteArray := jdk_52_method_15_code
theorem d0 : decode yB 0 = .ok (.iload_n 1, 1) := by decide +kernel
theorem d1 : decode yB 1 = .ok (.aload_n 0, 1) := by decide +kernel
theorem d2 : decode yB 2 = .ok (.arraylength, 1) := by decide +kernel
theorem d3 : decode yB 3 = .ok (.isub, 1) := by decide +kernel
theorem d4 : decode yB 4 = .ok (.bipush 31, 2) := by decide +kernel
theorem d6 : decode yB 6 = .ok (.iushr, 1) := by decide +kernel
theorem d7 : decode yB 7 = .ok (.i2b, 1) := by decide +kernel
theorem d8 : decode yB 8 = .ok (.ireturn, 1) := by decide +kernel
def site : List Cond := []
def tab : Cond := tabOf yN yB 2 (some .byte) site
def P (d : Addr) (B : Cell) (args : Array Value) (s : State) : Prop := args = #[.ref d, .int (Int32.ofNat B.slots.size)] ∧ Arr .byte d B s
def E (r : Option Value) (s u : State) : Prop := XT.PureE (some (.int 0)) r s u
/-- an array as long as the number of chars: LATIN1 -/
theorem law (l : Launch) (d : Addr) (B : Cell) : Law l yN 2 2 0 0 yB 2 (some .byte) site (P d B) E [] 0 0 := by
  refine Law.of_walk (plainFor_of_name (by decide +kernel)) (by decide +kernel) (by decide +kernel) (by decide) (fun _ _ h => by rw [h.1]; rfl) (fun _ U U' hal hh h => ⟨h.1, h.2.mv hal hh⟩) (fun r U U' V V' h1 hal h2 h => XT.PureE.mv r U U' V V' h1 hal h2 h) ?_
  intro p e s m args below meth c s₁ X0 hexec hbytes hml hret hlk hnm hown hh0 W hP
  obtain ⟨rfl, hB⟩ := hP
  have hB0 := hB.mv X0.warmed.alike hh0
  have c1 : Steps p.tables e below (s₁.setTop (entryFrame m #[.ref d, .int (Int32.ofNat B.slots.size)] 2)) (s₁.setTop (mkF m 0 #[.val (.ref d), .val (.int (Int32.ofNat B.slots.size))] [])) := entry rfl
  have c2 : Steps p.tables e below (s₁.setTop (entryFrame m #[.ref d, .int (Int32.ofNat B.slots.size)] 2)) (s₁.setTop (mkF m 2 #[.val (.ref d), .val (.int (Int32.ofNat B.slots.size))] [.ref d, .int (Int32.ofNat B.slots.size)])) := c1.trans (by
    refine XS.iloadN X0.here hexec rfl (hb hbytes d0) rfl ?_
    refine XS.aloadN X0.here hexec rfl (hb hbytes d1) rfl rfl ?_
    exact Steps.refl _)
  have c3 : Steps p.tables e below (s₁.setTop (entryFrame m #[.ref d, .int (Int32.ofNat B.slots.size)] 2)) (s₁.setTop (mkF m 8 #[.val (.ref d), .val (.int (Int32.ofNat B.slots.size))] [.int (lo8 (ushr (Int32.ofNat B.slots.size - Int32.ofNat B.slots.size) 31))])) := c2.trans (by
    refine X0.alen hexec hB0 rfl rfl (hb hbytes d2) ?_
    refine XS.isub X0.here hexec rfl (hb hbytes d3) rfl ?_
    refine bipushV X0.here hexec rfl 31 (hb hbytes d4) (by decide) ?_
    refine iushr X0.here hexec rfl (hb hbytes d6) rfl ?_
    refine i2b X0.here hexec rfl (hb hbytes d7) rfl ?_
    exact Steps.refl _)
  have e0 : lo8 (ushr (Int32.ofNat B.slots.size - Int32.ofNat B.slots.size) 31) = 0 := by rw [Int32.sub_self]; decide
  rw [e0] at c3
  exact ⟨s₁, some (.int 0), _, _, _, X0, rfl, rfl, rfl, (fun h => by cases h), ⟨rfl, hh0⟩, fun fs hl => c3.trans (X0.ireturnOut hexec hret rfl (Or.inr (Or.inr (Or.inl rfl))) (hb hbytes d8) hl)⟩
end CodL
/-- the String at a is Latin-1 over a new byte[] (the heap's one new cell): the low bytes of the len chars of A from o on; every cell but a is kept -/
def Got (a : Addr) (D : Cell) (fV fC : Field) (A : Cell) (o len : Nat) (r : Option Value) (s u : State) : Prop := r = none ∧ ∃ D' V : Cell, Blank "java/lang/String" a D' u ∧ Same D D' [fV.slot, fC.slot] ∧ D'.slots[fV.slot]? = some (.ref s.heap.size) ∧ D'.slots[fC.slot]? = some (.int 0) ∧ Arr .byte s.heap.size V u ∧ V.vm = .none ∧ u.vm.findClass "[B" = some V.cls ∧ V.slots.size = len ∧ (∀ j, j < len → V.slots[j]? = some (.int (lo8 (cv A (o + j))))) ∧ (∀ (y : Addr) (c : Cell), y ≠ a → s.heap[y]? = some c → u.heap[y]? = some c) ∧ u.heap.size = s.heap.size + 1
theorem Got.mv {a : Addr} {D A : Cell} {fV fC : Field} {o len : Nat} : ∀ r (U U' V V' : State), U'.heap = U.heap → V.vm.Alike V'.vm → V'.heap = V.heap → Got a D fV fC A o len r U V → Got a D fV fC A o len r U' V' :=
  fun r U U' V V' h1 hal h2 ⟨e0, D', X, a1, a2, a3, a4, a5, a6, a7, a8, a9, a10, a11⟩ => ⟨e0, D', X, a1.mv hal h2, a2, by rw [h1]; exact a3, a4, by rw [h1]; exact a5.mv hal h2, a6, by rw [hal.findClass]; exact a7, a8, a9, by rw [h1, h2]; exact a10, by rw [h1, h2]; exact a11⟩
namespace New4
def yN : MethodName := ⟨"java/lang/String", "<init>", "([CIILjava/lang/Void;)V"⟩
abbrev yB : ByteArray := jdk_42_method_149_code
theorem d0 : decode yB 0 = .ok (.aload_n 0, 1) := by decide +kernel
theorem d1 : decode yB 1 = .ok (.invokespecial 1, 3) := by decide +kernel
theorem d4 : decode yB 4 = .ok (.iload_n 3, 1) := by decide +kernel
theorem d5 : decode yB 5 = .ok (.ifCond (.ne) 22, 3) := by decide +kernel
theorem d27 : decode yB 27 = .ok (.getstatic 38, 3) := by decide +kernel
theorem d30 : decode yB 30 = .ok (.ifCond (.eq) 28, 3) := by decide +kernel
theorem d33 : decode yB 33 = .ok (.aload_n 1, 1) := by decide +kernel
theorem d34 : decode yB 34 = .ok (.iload_n 2, 1) := by decide +kernel
theorem d35 : decode yB 35 = .ok (.iload_n 3, 1) := by decide +kernel
theorem d36 : decode yB 36 = .ok (.invokestatic 177, 3) := by decide +kernel
theorem d39 : decode yB 39 = .ok (.astore 5, 2) := by decide +kernel
theorem d41 : decode yB 41 = .ok (.aload_n 0, 1) := by decide +kernel
theorem d42 : decode yB 42 = .ok (.aload 5, 2) := by decide +kernel
theorem d44 : decode yB 44 = .ok (.iload_n 3, 1) := by decide +kernel
theorem d45 : decode yB 45 = .ok (.invokestatic 47, 3) := by decide +kernel
theorem d48 : decode yB 48 = .ok (.putfield 15, 3) := by decide +kernel
theorem d51 : decode yB 51 = .ok (.aload_n 0, 1) := by decide +kernel
theorem d52 : decode yB 52 = .ok (.aload 5, 2) := by decide +kernel
theorem d54 : decode yB 54 = .ok (.putfield 9, 3) := by decide +kernel
theorem d57 : decode yB 57 = .ok (.return_, 1) := by decide +kernel
def site : List Cond := [.fieldLink "java/lang/String" 38 "java/lang/String" "COMPACT_STRINGS" "Z", Cmp3.tab, CodL.tab, .laysFinal "java/lang/String" "java/lang/String" "value" "[B", .fieldLink "java/lang/String" 9 "java/lang/String" "value" "[B", .laysFinal "java/lang/String" "java/lang/String" "coder" "B", .fieldLink "java/lang/String" 15 "java/lang/String" "coder" "B"] ++ objW "java/lang/String" 1 ++ staticW "java/lang/String" 177 Cmp3.yN ++ staticW "java/lang/String" 47 CodL.yN
def tab : Cond := tabOf yN yB 6 none site
def P (a : Addr) (D : Cell) (fV fC : Field) (b : Addr) (A : Cell) (z : Int32) (o len : Nat) (args : Array Value) (s : State) : Prop := args = #[.ref a, .ref b, .int (Int32.ofNat o), .int (Int32.ofNat len), .null] ∧ Blank "java/lang/String" a D s ∧ Found "java/lang/String" "value" "[B" fV s ∧ Found "java/lang/String" "coder" "B" fC s ∧ Ch b A s ∧ StaticIs s "java/lang/String" "COMPACT_STRINGS" "Z" (.int z) ∧ ¬ z = 0 ∧ 0 < len ∧ o + len ≤ A.slots.size ∧ len ≤ 536870912 ∧ ∀ i, i < len → ¬ 255 < cv A (o + i)
def E (a : Addr) (D : Cell) (fV fC : Field) (A : Cell) (o len : Nat) (r : Option Value) (s u : State) : Prop := Got a D fV fC A o len r s u
/-- len > 0, no char of the range above 255: a Latin-1 String of their low bytes -/
theorem law (l : Launch) (a : Addr) (D : Cell) (fV fC : Field) (b : Addr) (A : Cell) (z : Int32) (o len : Nat) : Law l yN 5 4 2 35 yB 6 none site (P a D fV fC b A z o len) (E a D fV fC A o len) [⟨a, fC.slot⟩, ⟨a, fV.slot⟩] 1 len := by
  refine Law.of_walk (plainFor_of_name (by decide +kernel)) (by decide +kernel) (by decide +kernel) (by decide) (fun _ _ h => by rw [h.1]; rfl) (fun _ U U' hal hh h => ⟨h.1, h.2.1.mv hal hh, h.2.2.1.al hal, h.2.2.2.1.al hal, h.2.2.2.2.1.mv hal hh, h.2.2.2.2.2.1.there hal hh, h.2.2.2.2.2.2⟩) (fun r U U' V V' h1 hal h2 h => Got.mv r U U' V V' h1 hal h2 h) ?_
  intro p e s m args below meth c s₁ X0 hexec hbytes hml hret hlk hnm hown hh0 W hP
  obtain ⟨rfl, hB, f1, f2, hA, s1, hz, l0, l1, l2, hp⟩ := hP
  have a31 := hA.1.2.2.2
  have c1 : Steps p.tables e below (s₁.setTop (entryFrame m #[.ref a, .ref b, .int (Int32.ofNat o), .int (Int32.ofNat len), .null] 6)) (s₁.setTop (mkF m 0 #[.val (.ref a), .val (.ref b), .val (.int (Int32.ofNat o)), .val (.int (Int32.ofNat len)), .val .null, .unset] [])) := entry rfl
  have c2 : Steps p.tables e below (s₁.setTop (entryFrame m #[.ref a, .ref b, .int (Int32.ofNat o), .int (Int32.ofNat len), .null] 6)) (s₁.setTop (mkF m 1 #[.val (.ref a), .val (.ref b), .val (.int (Int32.ofNat o)), .val (.int (Int32.ofNat len)), .val .null, .unset] [.ref a])) := c1.trans (by
    refine XS.aloadN X0.here hexec rfl (hb hbytes d0) rfl rfl ?_
    exact Steps.refl _)
  obtain ⟨T3, X3, q3, st3⟩ := X0.oinit hexec hown (wks W (objW "java/lang/String" 1)) (g := (mkF m 1 #[.val (.ref a), .val (.ref b), .val (.int (Int32.ofNat o)), .val (.int (Int32.ofNat len)), .val .null, .unset] [.ref a])) rfl (by rw [hml]; rfl) (rest := []) rfl (hb hbytes d1) (W := 0) (by show 2 * 0 + 0 ≤ _; decide) (Nat.le_of_ble_eq_true rfl) (Nat.le_of_ble_eq_true rfl)
  have hh3 := q3.trans hh0
  have c4 : Steps p.tables e below (s₁.setTop (entryFrame m #[.ref a, .ref b, .int (Int32.ofNat o), .int (Int32.ofNat len), .null] 6)) (T3.setTop (mkF m 27 #[.val (.ref a), .val (.ref b), .val (.int (Int32.ofNat o)), .val (.int (Int32.ofNat len)), .val .null, .unset] [])) := (c2.trans (st3 _ (Steps.refl _))).trans (by
    refine XS.iloadN X3.here hexec rfl (hb hbytes d4) rfl ?_
    refine XS.ifYes X3.here hexec rfl (pc0 := 5) rfl (hb hbytes d5) rfl (i0_ne_t (nz32 (by omega) l0)) (by decide) rfl ?_
    exact Steps.refl _)
  obtain ⟨T5, X5, q5, st5⟩ := X3.sget hexec hown (wk W (.fieldLink "java/lang/String" 38 "java/lang/String" "COMPACT_STRINGS" "Z")) s1 (fun _ _ h => by rw [hh3]; exact h) (g := (mkF m 27 #[.val (.ref a), .val (.ref b), .val (.int (Int32.ofNat o)), .val (.int (Int32.ofNat len)), .val .null, .unset] [])) rfl (hb hbytes d27)
  have hh5 := q5.trans hh3
  have c6 : Steps p.tables e below (s₁.setTop (entryFrame m #[.ref a, .ref b, .int (Int32.ofNat o), .int (Int32.ofNat len), .null] 6)) (T5.setTop (mkF m 30 #[.val (.ref a), .val (.ref b), .val (.int (Int32.ofNat o)), .val (.int (Int32.ofNat len)), .val .null, .unset] [.int z])) := c4.trans (st5 _ (Steps.refl _))
  have c7 : Steps p.tables e below (s₁.setTop (entryFrame m #[.ref a, .ref b, .int (Int32.ofNat o), .int (Int32.ofNat len), .null] 6)) (T5.setTop (mkF m 36 #[.val (.ref a), .val (.ref b), .val (.int (Int32.ofNat o)), .val (.int (Int32.ofNat len)), .val .null, .unset] [.int (Int32.ofNat len), .int (Int32.ofNat o), .ref b])) := c6.trans (by
    refine XS.ifNo X5.here hexec rfl (hb hbytes d30) rfl (i0_eq_f hz) ?_
    refine XS.aloadN X5.here hexec rfl (hb hbytes d33) rfl rfl ?_
    refine XS.iloadN X5.here hexec rfl (hb hbytes d34) rfl ?_
    refine XS.iloadN X5.here hexec rfl (hb hbytes d35) rfl ?_
    exact Steps.refl _)
  obtain ⟨v8, T8, X8, E8, g8⟩ := X5.callS hexec (Cmp3.law l b A o len) hown (wks W (staticW "java/lang/String" 177 Cmp3.yN)) (wk W Cmp3.tab) (W := 0) (Nat.le_of_ble_eq_true rfl) (Nat.le_of_ble_eq_true rfl) (Nat.le_refl _) (by show 0 + len ≤ len; omega) (g := (mkF m 36 #[.val (.ref a), .val (.ref b), .val (.int (Int32.ofNat o)), .val (.int (Int32.ofNat len)), .val .null, .unset] [.int (Int32.ofNat len), .int (Int32.ofNat o), .ref b])) rfl (by rw [hml]; rfl) c7 (argsL := [.ref b, .int (Int32.ofNat o), .int (Int32.ofNat len)]) (rest := []) rfl rfl (by show 2 * 0 + 0 ≤ _; decide) (hb hbytes d36) (⟨rfl, hA.mv X5.warmed.alike hh5, l1, l2, hp⟩)
  obtain ⟨e8, z8⟩ := E8
  obtain ⟨rfl, N, n1, n2, n3, n4, n5, n6⟩ := NewArr.mv _ T5 s _ _ hh5.symm (Vm.Alike.refl _) rfl e8
  rw [hh5] at z8
  have hB1 := hB.keep X8.warmed.alike (n6 _ _ hB.1)
  have hne : s.heap.size ≠ a := (Nat.ne_of_lt (Array.getElem?_eq_some_iff.mp hB.1).1).symm
  have c9 : Steps p.tables e below (s₁.setTop (entryFrame m #[.ref a, .ref b, .int (Int32.ofNat o), .int (Int32.ofNat len), .null] 6)) (T8.setTop (mkF m 39 #[.val (.ref a), .val (.ref b), .val (.int (Int32.ofNat o)), .val (.int (Int32.ofNat len)), .val .null, .unset] [.ref s.heap.size])) := g8
  have c10 : Steps p.tables e below (s₁.setTop (entryFrame m #[.ref a, .ref b, .int (Int32.ofNat o), .int (Int32.ofNat len), .null] 6)) (T8.setTop (mkF m 45 #[.val (.ref a), .val (.ref b), .val (.int (Int32.ofNat o)), .val (.int (Int32.ofNat len)), .val .null, .val (.ref s.heap.size)] [.int (Int32.ofNat N.slots.size), .ref s.heap.size, .ref a])) := by
    have hc : Steps p.tables e below (s₁.setTop (entryFrame m #[.ref a, .ref b, .int (Int32.ofNat o), .int (Int32.ofNat len), .null] 6)) (T8.setTop (mkF m 45 #[.val (.ref a), .val (.ref b), .val (.int (Int32.ofNat o)), .val (.int (Int32.ofNat len)), .val .null, .val (.ref s.heap.size)] [.int (Int32.ofNat len), .ref s.heap.size, .ref a])) := c9.trans (by
      refine XS.astore X8.here hexec rfl (hb hbytes d39) rfl rfl rfl ?_
      refine XS.aloadN X8.here hexec rfl (hb hbytes d41) rfl rfl ?_
      refine XS.aload X8.here hexec rfl (hb hbytes d42) rfl rfl ?_
      refine XS.iloadN X8.here hexec rfl (hb hbytes d44) rfl ?_
      exact Steps.refl _)
    rw [n4]; exact hc
  obtain ⟨v11, T11, X11, E11, g11⟩ := X8.callS hexec (CodL.law l s.heap.size N) hown (wks W (staticW "java/lang/String" 47 CodL.yN)) (wk W CodL.tab) (W := 1) (Nat.le_of_ble_eq_true rfl) (Nat.le_of_ble_eq_true rfl) (Nat.le_refl _) (by show 0 + len + 0 ≤ len; omega) (g := (mkF m 45 #[.val (.ref a), .val (.ref b), .val (.int (Int32.ofNat o)), .val (.int (Int32.ofNat len)), .val .null, .val (.ref s.heap.size)] [.int (Int32.ofNat N.slots.size), .ref s.heap.size, .ref a])) rfl (by rw [hml]; rfl) c10 (argsL := [.ref s.heap.size, .int (Int32.ofNat N.slots.size)]) (rest := [.ref a]) rfl rfl (by show 2 * 0 + (1 + 0) ≤ _; decide) (hb hbytes d45) (⟨rfl, n1⟩)
  obtain ⟨rfl, q11⟩ := E11
  have hB11 := hB1.mv (X8.warmed.alike.symm.trans X11.warmed.alike) q11
  have c12 : Steps p.tables e below (s₁.setTop (entryFrame m #[.ref a, .ref b, .int (Int32.ofNat o), .int (Int32.ofNat len), .null] 6)) (T11.setTop (mkF m 48 #[.val (.ref a), .val (.ref b), .val (.int (Int32.ofNat o)), .val (.int (Int32.ofNat len)), .val .null, .val (.ref s.heap.size)] [.int 0, .ref a])) := g11
  obtain ⟨T13, X13, p13, bl13, sl13, st13⟩ := X11.finit hexec hown (wk W (.fieldLink "java/lang/String" 15 "java/lang/String" "coder" "B")) (Or.inr ⟨_, (wk W (.laysFinal "java/lang/String" "java/lang/String" "coder" "B"))⟩) (Or.inl ⟨rfl, hnm⟩) f2 (Or.inl rfl) hB11 (t := .byte) (by decide +kernel) rfl (g := (mkF m 48 #[.val (.ref a), .val (.ref b), .val (.int (Int32.ofNat o)), .val (.int (Int32.ofNat len)), .val .null, .val (.ref s.heap.size)] [.int 0, .ref a])) rfl (rest := []) rfl (hb hbytes d48)
  have c14 : Steps p.tables e below (s₁.setTop (entryFrame m #[.ref a, .ref b, .int (Int32.ofNat o), .int (Int32.ofNat len), .null] 6)) (T13.setTop (mkF m 54 #[.val (.ref a), .val (.ref b), .val (.int (Int32.ofNat o)), .val (.int (Int32.ofNat len)), .val .null, .val (.ref s.heap.size)] [.ref s.heap.size, .ref a])) := (c12.trans (st13 _ (Steps.refl _))).trans (by
    refine XS.aloadN X13.here hexec rfl (hb hbytes d51) rfl rfl ?_
    refine XS.aload X13.here hexec rfl (hb hbytes d52) rfl rfl ?_
    exact Steps.refl _)
  obtain ⟨T15, X15, p15, bl15, sl15, st15⟩ := X13.finit hexec hown (wk W (.fieldLink "java/lang/String" 9 "java/lang/String" "value" "[B")) (Or.inr ⟨_, (wk W (.laysFinal "java/lang/String" "java/lang/String" "value" "[B"))⟩) (Or.inl ⟨rfl, hnm⟩) f1 (Or.inl rfl) bl13 (t := (.array .byte)) (by decide +kernel) rfl (g := (mkF m 54 #[.val (.ref a), .val (.ref b), .val (.int (Int32.ofNat o)), .val (.int (Int32.ofNat len)), .val .null, .val (.ref s.heap.size)] [.ref s.heap.size, .ref a])) rfl (rest := []) rfl (hb hbytes d54)
  have c16 : Steps p.tables e below (s₁.setTop (entryFrame m #[.ref a, .ref b, .int (Int32.ofNat o), .int (Int32.ofNat len), .null] 6)) (T15.setTop (mkF m 57 #[.val (.ref a), .val (.ref b), .val (.int (Int32.ofNat o)), .val (.int (Int32.ofNat len)), .val .null, .val (.ref s.heap.size)] [])) := c14.trans (st15 _ (Steps.refl _))
  have ap := apart (Or.inr ⟨_, (wk W (.laysFinal "java/lang/String" "java/lang/String" "value" "[B"))⟩) (Or.inr ⟨_, (wk W (.laysFinal "java/lang/String" "java/lang/String" "coder" "B"))⟩) f1 f2 (t₁ := .array .byte) (t₂ := .byte) (by decide +kernel) (by decide +kernel) (by decide)
  have al := X8.warmed.alike.symm.trans X15.warmed.alike
  have n7 : T11.heap[s.heap.size]? = some N := by rw [q11]; exact n1.1
  exact ⟨T15, none, _, _, _, X15, by simp, rfl, by omega, (fun _ => rfl), ⟨rfl, _, N, bl15, ((Same.refl D _).set _ (by simp)).set _ (by simp), sl15, (Cell.slots_setSlot_ne _ ap).trans sl13, n1.keep al (p15.other hne (p13.other hne n7)), n2, by rw [al.findClass]; exact n3, n4, n5, fun y c h1 h2 => p15.other h1 (p13.other h1 (by rw [q11]; exact n6 y c h2)), by rw [p15.2.2, p13.2.2, q11]; exact z8⟩, fun fs hl => c16.trans (X15.returnOut hexec hret (hb hbytes d57) hl)⟩
end New4
namespace New1
def yN : MethodName := ⟨"java/lang/String", "<init>", "([C)V"⟩
abbrev yB : ByteArray := jdk_42_method_3_code
theorem d0 : decode yB 0 = .ok (.aload_n 0, 1) := by decide +kernel
theorem d1 : decode yB 1 = .ok (.aload_n 1, 1) := by decide +kernel
theorem d2 : decode yB 2 = .ok (.iconst 0, 1) := by decide +kernel
theorem d3 : decode yB 3 = .ok (.aload_n 1, 1) := by decide +kernel
theorem d4 : decode yB 4 = .ok (.arraylength, 1) := by decide +kernel
theorem d5 : decode yB 5 = .ok (.aconst_null, 1) := by decide +kernel
theorem d6 : decode yB 6 = .ok (.invokespecial 27, 3) := by decide +kernel
theorem d9 : decode yB 9 = .ok (.return_, 1) := by decide +kernel
def site : List Cond := [New4.tab] ++ initW "java/lang/String" 27 New4.yN
def tab : Cond := tabOf yN yB 2 none site
def P (a : Addr) (D : Cell) (fV fC : Field) (b : Addr) (A : Cell) (z : Int32) (args : Array Value) (s : State) : Prop := args = #[.ref a, .ref b] ∧ Blank "java/lang/String" a D s ∧ Found "java/lang/String" "value" "[B" fV s ∧ Found "java/lang/String" "coder" "B" fC s ∧ Ch b A s ∧ StaticIs s "java/lang/String" "COMPACT_STRINGS" "Z" (.int z) ∧ ¬ z = 0 ∧ 0 < A.slots.size ∧ A.slots.size ≤ 536870912 ∧ ∀ i, i < A.slots.size → ¬ 255 < cv A i
def E (a : Addr) (D : Cell) (fV fC : Field) (A : Cell) (r : Option Value) (s u : State) : Prop := Got a D fV fC A 0 A.slots.size r s u
/-- new String(chars), not empty, no char above 255: a Latin-1 String of their low bytes -/
theorem law (l : Launch) (a : Addr) (D : Cell) (fV fC : Field) (b : Addr) (A : Cell) (z : Int32) : Law l yN 2 1 3 52 yB 2 none site (P a D fV fC b A z) (E a D fV fC A) [⟨a, fC.slot⟩, ⟨a, fV.slot⟩] 1 A.slots.size := by
  refine Law.of_walk (plainFor_of_name (by decide +kernel)) (by decide +kernel) (by decide +kernel) (by decide) (fun _ _ h => by rw [h.1]; rfl) (fun _ U U' hal hh h => ⟨h.1, h.2.1.mv hal hh, h.2.2.1.al hal, h.2.2.2.1.al hal, h.2.2.2.2.1.mv hal hh, h.2.2.2.2.2.1.there hal hh, h.2.2.2.2.2.2⟩) (fun r U U' V V' h1 hal h2 h => Got.mv r U U' V V' h1 hal h2 h) ?_
  intro p e s m args below meth c s₁ X0 hexec hbytes hml hret hlk hnm hown hh0 W hP
  obtain ⟨rfl, hB, f1, f2, hA, s1, hz, l0, l2, hp⟩ := hP
  have c1 : Steps p.tables e below (s₁.setTop (entryFrame m #[.ref a, .ref b] 2)) (s₁.setTop (mkF m 0 #[.val (.ref a), .val (.ref b)] [])) := entry rfl
  have c2 : Steps p.tables e below (s₁.setTop (entryFrame m #[.ref a, .ref b] 2)) (s₁.setTop (mkF m 6 #[.val (.ref a), .val (.ref b)] [.null, .int (Int32.ofNat A.slots.size), .int 0, .ref b, .ref a])) := c1.trans (by
    refine XS.aloadN X0.here hexec rfl (hb hbytes d0) rfl rfl ?_
    refine XS.aloadN X0.here hexec rfl (hb hbytes d1) rfl rfl ?_
    refine iconstV X0.here hexec rfl 0 (hb hbytes d2) (by decide) ?_
    refine XS.aloadN X0.here hexec rfl (hb hbytes d3) rfl rfl ?_
    refine X0.alen hexec (hA.1.mv X0.warmed.alike hh0) rfl rfl (hb hbytes d4) ?_
    refine XS.aconstNull X0.here hexec rfl (hb hbytes d5) ?_
    exact Steps.refl _)
  obtain ⟨v3, T3, X3, E3, g3⟩ := X0.callN hexec (New4.law l a D fV fC b A z 0 A.slots.size) rfl hown (wks W (initW "java/lang/String" 27 New4.yN)) (W New4.tab (by simp only [site, List.mem_cons, List.mem_append, true_or, or_true])) (W := 0) (Nat.le_of_ble_eq_true rfl) (Nat.le_of_ble_eq_true rfl) (Nat.le_refl _) (by show 0 + A.slots.size ≤ A.slots.size; omega) (g := (mkF m 6 #[.val (.ref a), .val (.ref b)] [.null, .int (Int32.ofNat A.slots.size), .int (Int32.ofNat 0), .ref b, .ref a])) rfl (by rw [hml]; rfl) c2 (argsL := [.ref b, .int (Int32.ofNat 0), .int (Int32.ofNat A.slots.size), .null]) (rest := []) rfl rfl (by show 2 * 0 + 0 ≤ _; decide) (hb hbytes d6) (⟨rfl, hB.mv X0.warmed.alike hh0, f1.al X0.warmed.alike, f2.al X0.warmed.alike, hA.mv X0.warmed.alike hh0, s1.there X0.warmed.alike hh0, hz, l0, by omega, l2, fun i hi => by rw [Nat.zero_add]; exact hp i hi⟩)
  have e0 := Got.mv _ s₁ s _ _ hh0.symm (Vm.Alike.refl _) rfl E3
  obtain rfl := e0.1
  have c4 : Steps p.tables e below (s₁.setTop (entryFrame m #[.ref a, .ref b] 2)) (T3.setTop (mkF m 9 #[.val (.ref a), .val (.ref b)] [])) := g3
  exact ⟨T3, none, _, _, _, X3, by simp, rfl, by omega, (fun _ => rfl), e0, fun fs hl => c4.trans (X3.returnOut hexec hret (hb hbytes d9) hl)⟩
theorem pays {l : Launch} {R : Room} {p : Program} {e : Env} {below : List Frame} {s : State} {sargs : Array Value} {len W : Nat} (a : Addr) (D : Cell) (fV fC : Field) (b : Addr) (A : Cell) (z : Int32) (htab : tab.before sargs s = true) (hfr : 4 ≤ R.frames) (hlo : W + 65 ≤ R.locals) :
    Back l R p e below s sargs yN len W (fun A₁ a₁ => A₁.cells + 1 ≤ R.cells ∧ A₁.slots + A.slots.size ≤ R.slots ∧ P a D fV fC b A z a₁ A₁.U) (fun A₁ _ v₁ B₁ => E a D fV fC A v₁ A₁.U B₁.U ∧ B₁.locs = A₁.locs ++ [⟨a, fC.slot⟩, ⟨a, fV.slot⟩] ∧ B₁.cells = A₁.cells + 1 ∧ B₁.slots = A₁.slots + A.slots.size) :=
  (law l a D fV fC b A z).pays htab hfr (by omega)
end New1
end StrChars
namespace StrChars.Road
open Jvm Sem ClassFile Op Lib Jvm.Stand Jvm.Free Jvm.Free.XT
open Jvm.Lib.Cold (StaticIs)
abbrev ST : String := "java/lang/String"
/-- every table word that New1's law asks, flat -/
abbrev words : List Jvm.Cond := [.code New1.yN New1.yB 2 none, .initialized ST, .methodLink ST 27 New4.yN, .instanceMethod New4.yN,
  .code New4.yN New4.yB 6 none, .fieldLink ST 38 ST "COMPACT_STRINGS" "Z", .laysFinal ST ST "value" "[B", .fieldLink ST 9 ST "value" "[B", .laysFinal ST ST "coder" "B", .fieldLink ST 15 ST "coder" "B",
  .methodLink ST 1 Lib.objectInit, .instanceMethod Lib.objectInit, .code Lib.objectInit ⟨#[0xb1]⟩ 1 none, .methodLink ST 177 Cmp3.yN, .static Cmp3.yN, .methodLink ST 47 CodL.yN, .static CodL.yN,
  .code Cmp3.yN Cmp3.yB 6 (some (.array .byte)), .initialized U16, .arrayClass .byte, .methodLink U16 115 Cmp5.yN, .static Cmp5.yN, .code Cmp5.yN Cmp5.yB 7 (some .int), .code CodL.yN CodL.yB 2 (some .byte)]
theorem tab_of {a : Array Value} {s : State} (h : ∀ w ∈ words, w.before a s = true) : New1.tab.before a s = true := by
  have h5 : Cmp5.tab.before a s = true := unparts (wk h (.code Cmp5.yN Cmp5.yB 7 (some .int))) (wks h (.initialized Cmp5.yN.cls :: Cmp5.site))
  have hc : CodL.tab.before a s = true := unparts (wk h (.code CodL.yN CodL.yB 2 (some .byte))) (wks h (.initialized CodL.yN.cls :: CodL.site))
  have q5 : ∀ w ∈ Cmp5.tab :: words, w.before a s = true := fun w hw => (List.mem_cons.mp hw).elim (fun e => e ▸ h5) (h w)
  have h3 : Cmp3.tab.before a s = true := unparts (wk q5 (.code Cmp3.yN Cmp3.yB 6 (some (.array .byte)))) (wks q5 (.initialized Cmp3.yN.cls :: Cmp3.site))
  have q3 : ∀ w ∈ Cmp3.tab :: CodL.tab :: words, w.before a s = true := fun w hw => (List.mem_cons.mp hw).elim (fun e => e ▸ h3) fun hw => (List.mem_cons.mp hw).elim (fun e => e ▸ hc) (h w)
  have h4 : New4.tab.before a s = true := unparts (wk q3 (.code New4.yN New4.yB 6 none)) (wks q3 (.initialized New4.yN.cls :: New4.site))
  have q4 : ∀ w ∈ New4.tab :: words, w.before a s = true := fun w hw => (List.mem_cons.mp hw).elim (fun e => e ▸ h4) (h w)
  exact unparts (wk q4 (.code New1.yN New1.yB 2 none)) (wks q4 (.initialized New1.yN.cls :: New1.site))
/-- the words ride from the start Z to the walk's own state -/
theorem moved {Z s : State} {a0 args : Array Value} (hZ : Z.Warmed39 s.vm) (hw : ∀ d ∈ words, d.before a0 Z = true) : ∀ d ∈ words, d.before args s = true := fun d hd => by
  have q := hw d hd
  have t : ∀ d ∈ words, d = .arrayClass .byte ∨ (d.onTables && d.keepsFace) = true := by decide +kernel
  rcases t d hd with rfl | t
  · exact RoadKit.mvA hZ q
  · exact RoadKit.mv hZ q t
/-- WHAT COMES BACK, over the tables of the start Z: h the heap at the call, h' behind it -/
def Q (Z : State) (x : Addr) (A : Cell) (h : Heap) (v : Option Value) (h' : Heap) (L : List Loc) : Prop := v = none ∧ (∀ y ∈ L, y.base = x) ∧ RoadKit.Keep h h' [x] ∧ h'.size = h.size + 1 ∧ RoadKit.Exa Z h' x ST ∧ RoadKit.Fld Z h' x ST "value" "[B" (.ref h.size) ∧ RoadKit.Fld Z h' x ST "coder" "B" (.int 0) ∧
  (∃ V : Cell, RoadKit.Arr Z h' h.size V .byte ∧ V.vm = .none ∧ Z.vm.findClass "[B" = some V.cls ∧ V.slots.size = A.slots.size ∧ ∀ j, j < A.slots.size → V.slots[j]? = some (.int (lo8 (cv A j)))) ∧
  ∀ (O n d : String) (w : Value), RoadKit.Fld Z h x O n d w → RoadKit.slotOf Z O n d ≠ RoadKit.slotOf Z ST "value" "[B" → RoadKit.slotOf Z O n d ≠ RoadKit.slotOf Z ST "coder" "B" → RoadKit.Fld Z h' x O n d w
/-- **new String(chars) AT A CALL, IN THE ROAD'S FORM**: for specialBack behind newO: x the fresh String, b the char[] with the cell A -/
theorem back {p : Program} {l : Launch} {e : Env} {R : Room} {s : State} {args : Array Value} {below : List Frame} {len W : Nat} {Z : State} {a0 : Array Value} {h : Heap} (hZ : Z.Warmed39 s.vm) (hw : ∀ d ∈ words, d.before a0 Z = true) {kI : Nat} (wi : (Jvm.Cond.instantiable ST kI).before a0 Z = true)
    {x b : Addr} {A : Cell} {z : Int32} {v0 c0 : Value} (E : RoadKit.Exa Z h x ST) (V : RoadKit.Fld Z h x ST "value" "[B" v0) (C : RoadKit.Fld Z h x ST "coder" "B" c0) (K : RoadKit.Arr Z h b A .char) (hty : Typed .char A) (S : RoadKit.Sta Z h ST "COMPACT_STRINGS" "Z" (.int z)) (hz : ¬ z = 0)
    (l0 : 0 < A.slots.size) (l2 : A.slots.size ≤ 536870912) (hp : ∀ i, i < A.slots.size → ¬ 255 < cv A i) (hfr : 4 ≤ R.frames) (hlo : W + 65 ≤ R.locals) :
    Back l R p e below s args New1.yN len W (fun P a => a = #[.ref x, .ref b] ∧ P.U.heap = h ∧ P.cells + 1 ≤ R.cells ∧ P.slots + A.slots.size ≤ R.slots)
      (fun P _ v B => ∃ L, Q Z x A h v B.U.heap L ∧ B.locs = P.locs ++ L ∧ B.cells = P.cells + 1 ∧ B.slots = P.slots + A.slots.size) := by
  intro m meth c P g ig mk a X hg hsize hdg hW hn hp'
  obtain ⟨rfl, rfl, r1, r2⟩ := hp'
  have al : Z.vm.Alike P.U.vm := hZ.alike.trans X.warmed.alike
  obtain ⟨D, cfV, kV, iV, fV, hD, gV, stV, knV, obV, asV, slV⟩ := id V
  obtain ⟨D', cfC, kC, iC, fC, hD', gC, stC, -, -, asC, slC⟩ := id C
  cases hD.symm.trans hD'
  obtain ⟨D2, kD, e1, e2, e3, e4, e5⟩ := id E
  cases hD.symm.trans e1
  obtain ⟨c2, k2, i1, i2, i3, -⟩ := Cond.instantiable_spec wi
  cases e2.symm.trans i1
  cases e3.symm.trans i2
  obtain ⟨kU, u1, u2⟩ := al.2.2 _ _ e3
  have hB : Blank ST x D P.U := ⟨hD, ⟨knV, fun q hq => by rw [hq] at obV; cases obV⟩, by rw [al.findClass]; exact e2, kU, u1, by rw [u2]; exact i3, by rw [u2]; exact e5 i3⟩
  have F1 : Found ST "value" "[B" fV P.U := ⟨SBG.found_only al ⟨cfV, kV, iV, gV⟩, stV⟩
  have F2 : Found ST "coder" "B" fC P.U := ⟨SBG.found_only al ⟨cfC, kC, iC, gC⟩, stC⟩
  have hA : Ch b A P.U := ⟨⟨K.1, State.isArrayOf_alike al K.2.1, K.2.2, by omega⟩, hty⟩
  have hS : StaticIs P.U ST "COMPACT_STRINGS" "Z" (.int z) := by
    obtain ⟨cfS, iS, kS, fS, st, cS, t1, t2, t3, t4, t5, t6, t7⟩ := S
    exact StaticIs.there (s := { Z with heap := P.U.heap }) ⟨cfS, iS, kS, fS, st, cS, t1, t2, t3, t4, t5, (fun q => by rw [q] at t6; cases t6), t7⟩ al rfl
  obtain ⟨v, B, X', ⟨⟨hv, E', V', q1, q2, q3, q4, q5, q6, q7, q8, q9, q10, q11⟩, hl, hc, hs⟩, st⟩ := New1.pays x D fV fC b A z (tab_of (moved hZ hw)) hfr hlo m meth c P g ig mk _ X hg hsize hdg hW hn ⟨r1, r2, rfl, hB, F1, F2, hA, hS, hz, l0, l2, hp⟩
  have al' : Z.vm.Alike B.U.vm := hZ.alike.trans X'.warmed.alike
  have hsz : E'.slots.size = D.slots.size := by
    obtain ⟨-, -, -, kB, w1, w2, w3⟩ := q1
    obtain ⟨kB', y1, y2⟩ := al'.2.2 _ _ e3
    rw [q2.2.1] at w1
    cases w1.symm.trans y1
    rw [w3, e5 i3, y2]
  refine ⟨v, B, X', ⟨_, ⟨hv, ?_, ⟨by omega, fun y cy hy hn' => q10 y cy (by simpa using hn') hy, fun y cy hy => ?_⟩, q11, ⟨E', _, q1.1, by rw [q2.2.1]; exact e2, by rw [q2.2.1]; exact e3, by rw [q2.1]; exact obV, fun _ => by rw [hsz]; exact e5 i3⟩,
    ⟨E', cfV, kV, iV, fV, q1.1, gV, stV, by rw [q2.1]; exact knV, by rw [q2.1]; exact obV, by rw [q2.2.1]; exact asV, q3⟩, ⟨E', cfC, kC, iC, fC, q1.1, gC, stC, by rw [q2.1]; exact knV, by rw [q2.1]; exact obV, by rw [q2.2.1]; exact asC, q4⟩,
    ⟨V', ⟨q5.1, State.isArrayOf_alike al'.symm q5.2.1, q5.2.2.1⟩, q6, by rw [← al'.findClass]; exact q7, q8, fun j hj => by have := q9 j hj; rwa [Nat.zero_add] at this⟩, fun O n d w F n1 n2 => ?_⟩, hl, hc, hs⟩, st⟩
  · intro y hy
    simp only [List.mem_cons, List.not_mem_nil, or_false] at hy
    rcases hy with rfl | rfl <;> rfl
  · by_cases q : y = x
    · subst q
      cases hD.symm.trans hy
      exact ⟨E', q1.1, q2.2.1, q2.1, hsz⟩
    · exact ⟨cy, q10 y cy q hy, rfl, rfl, rfl⟩
  · obtain ⟨D3, cf, k, i, f, g1, g2, g3, g4, g5, g6, g7⟩ := F
    cases hD.symm.trans g1
    simp only [RoadKit.slotOf, g2, gV, gC, Option.map_some, Option.getD_some] at n1 n2
    exact ⟨E', cf, k, i, f, q1.1, g2, g3, by rw [q2.1]; exact g4, by rw [q2.1]; exact g5, by rw [q2.2.1]; exact g6, by rw [q2.2.2 f.slot (by simp [n1, n2])]; exact g7⟩
end StrChars.Road
namespace StrChars.Road
open Jvm Sem ClassFile Op Lib Jvm.Stand Jvm.Free Jvm.Free.XT
/-- WHAT COMES BACK, the byte[] as a list of values -/
def QA (Z : State) (x : Addr) (zn : Int32) (cs : List Int32) (h : Heap) (v : Option Value) (h' : Heap) (L : List Loc) : Prop := v = none ∧ (∀ y ∈ L, y.base = x) ∧ RoadKit.Keep h h' [x] ∧ h'.size = h.size + 1 ∧ RoadKit.Exa Z h' x ST ∧ RoadKit.Fld Z h' x ST "value" "[B" (.ref h.size) ∧ RoadKit.Fld Z h' x ST "coder" "B" (.int 0) ∧
  (∃ kb, Z.vm.findClass "[B" = some kb ∧ RoadKit.Arv Z h' h.size kb .byte zn (cs.map fun c => .int (lo8 c)) (.int 0)) ∧
  ∀ (O n d : String) (w : Value), RoadKit.Fld Z h x O n d w → RoadKit.slotOf Z O n d ≠ RoadKit.slotOf Z ST "value" "[B" → RoadKit.slotOf Z O n d ≠ RoadKit.slotOf Z ST "coder" "B" → RoadKit.Fld Z h' x O n d w
/-- **new String(chars) AT A CALL, THE ARRAYS AS LISTS**: the char[] at b holds cs, not empty, no char above 255 -/
theorem backArv {p : Program} {l : Launch} {e : Env} {R : Room} {s : State} {args : Array Value} {below : List Frame} {len W : Nat} {Z : State} {a0 : Array Value} {h : Heap} (hZ : Z.Warmed39 s.vm) (hw : ∀ d ∈ words, d.before a0 Z = true) {kI : Nat} (wi : (Jvm.Cond.instantiable ST kI).before a0 Z = true)
    {x b : Addr} {k : ClassId} {zn z : Int32} {cs : List Int32} {dv v0 c0 : Value} (E : RoadKit.Exa Z h x ST) (V : RoadKit.Fld Z h x ST "value" "[B" v0) (C : RoadKit.Fld Z h x ST "coder" "B" c0) (K : RoadKit.Arv Z h b k .char zn (cs.map Value.int) dv) (S : RoadKit.Sta Z h ST "COMPACT_STRINGS" "Z" (.int z)) (hz : ¬ z = 0)
    (hlen : zn.toNatClampNeg = cs.length) (h0 : 0 < cs.length) (hbig : cs.length ≤ 536870912) (hall : ∀ c ∈ cs, ¬ 255 < c) (hfr : 4 ≤ R.frames) (hlo : W + 65 ≤ R.locals) :
    Back l R p e below s args New1.yN len W (fun P a => a = #[.ref x, .ref b] ∧ P.U.heap = h ∧ P.cells + 1 ≤ R.cells ∧ P.slots + cs.length ≤ R.slots)
      (fun P _ v B => ∃ L, QA Z x zn cs h v B.U.heap L ∧ B.locs = P.locs ++ L ∧ B.cells = P.cells + 1 ∧ B.slots = P.slots + cs.length) := by
  obtain ⟨A, K1, K2, K3, K4, K5, K6⟩ := K
  have e : A.slots.size = cs.length := K3.trans hlen
  have hat : ∀ (i : Nat) (hi : i < cs.length), A.slots[i]? = some (.int cs[i]) := fun i hi => by rw [K5 i (by omega)]; simp [List.getD_eq_getElem?_getD, hi]
  have hcv : ∀ (i : Nat) (hi : i < cs.length), cv A i = cs[i] := fun i hi => by unfold cv; rw [hat i hi]
  have hty : Typed .char A := fun i v hv => by
    have hi : i < A.slots.size := (Array.getElem?_eq_some_iff.mp hv).1
    have q := K5 i hi
    rw [hv] at q
    rw [Option.some.inj q]
    exact K6 i hi
  refine Back.mono (back hZ hw wi E V C K1 hty S hz (by omega) (by omega) (fun i hi => by rw [hcv i (by omega)]; exact hall _ (List.getElem_mem _)) hfr hlo) (fun P a hp => ⟨hp.1, hp.2.1, hp.2.2.1, by rw [e]; exact hp.2.2.2⟩) (fun P a v B hp hq => ?_)
  obtain ⟨L, ⟨q1, q2, q3, q4, q5, q6, q7, ⟨V', v1, v2, v3, v4, v5⟩, q9⟩, hl, hc, hs⟩ := hq
  refine ⟨L, ⟨q1, q2, q3, q4, q5, q6, q7, ⟨V'.cls, v3, V', v1, rfl, by rw [v4, e, hlen], K4, fun i hi => ?_, fun i hi => ?_⟩, q9⟩, hl, hc, by rw [hs, e]⟩
  · have hi' : i < cs.length := by omega
    rw [v5 i (by omega), hcv i hi']; simp [List.getD_eq_getElem?_getD, hi']
  · have hi' : i < cs.length := by omega
    simp only [List.getD_eq_getElem?_getD, List.getElem?_map, List.getElem?_eq_getElem hi', Option.map_some, Option.getD_some]
    exact fits_lo8 _
end StrChars.Road
namespace StrChars.Road
open Jvm Sem ClassFile Op Lib Jvm.Stand Jvm.Free Jvm.Free.XT
/-- WHAT COMES BACK, in the writer's own shape -/
def QV (Z : State) (x : Addr) (N : Int32) (bs : List Int32) (h : Heap) (n0 : Nat) (v : Option Value) (h' : Heap) (L : List Loc) : Prop := v = none ∧ RoadKit.Fr n0 L ∧ RoadKit.Keep h h' [x] ∧ RoadKit.Exa Z h' x ST ∧ RoadKit.Fld Z h' x ST "coder" "B" (.int 0) ∧
  ∃ (t : Addr) (kb : ClassId), n0 ≤ t ∧ h.size ≤ t ∧ ¬ t = x ∧ RoadKit.Fld Z h' x ST "value" "[B" (.ref t) ∧ RoadKit.Arv Z h' t kb .byte N (bs.map Value.int) (.int 0)
/-- **new String(chars) AT A CALL, FOR THE WRITER**: a char[] of n known ints, each 0 to 255 -/
theorem backV {p : Program} {l : Launch} {e : Env} {R : Room} {s : State} {args : Array Value} {below : List Frame} {len W : Nat} {Z : State} {a0 : Array Value} {h : Heap} (hZ : Z.Warmed39 s.vm) (hw : ∀ d ∈ words, d.before a0 Z = true) {kI : Nat} (wi : (Jvm.Cond.instantiable ST kI).before a0 Z = true)
    {x b : Addr} {kC : ClassId} {cs bs : List Int32} {d v0 c0 : Value} {z N : Int32} {n n0 : Nat} (hx0 : n0 ≤ x) (hh0 : n0 ≤ h.size) (E : RoadKit.Exa Z h x ST) (V : RoadKit.Fld Z h x ST "value" "[B" v0) (C : RoadKit.Fld Z h x ST "coder" "B" c0) (K : RoadKit.Arv Z h b kC .char N (cs.map Value.int) d) (S : RoadKit.Sta Z h ST "COMPACT_STRINGS" "Z" (.int z)) (hz : ¬ z = 0)
    (hn : cs.length = n) (hN : N = Int32.ofNat n) (l0 : 0 < n) (l2 : n ≤ 4000) (hp : ∀ c ∈ cs, ¬ c < 0 ∧ ¬ (255 : Int32) < c) (hb : bs = cs.map (fun c => c.toInt8.toInt32)) (hfr : 4 ≤ R.frames) (hlo : W + 65 ≤ R.locals) :
    Back l R p e below s args (⟨"java/lang/String", "<init>", "([C)V"⟩ : MethodName) len W (fun P a => a = #[.ref x, .ref b] ∧ P.U.heap = h ∧ P.cells + 1 ≤ R.cells ∧ P.slots + n ≤ R.slots)
      (fun P _ v B => ∃ L, QV Z x N bs h n0 v B.U.heap L ∧ B.locs = P.locs ++ L ∧ B.cells = P.cells + 1 ∧ B.slots = P.slots + n) := by
  subst hn hN hb
  refine Back.mono (backArv hZ hw wi E V C K S hz (n32 (by omega)) l0 (by omega) (fun c hc => (hp c hc).2) hfr hlo) (fun P a hp => hp) (fun P a v B hp hq => ?_)
  obtain ⟨L, ⟨q1, q2, q3, q4, q5, q6, q7, ⟨kb, v1, v2⟩, q9⟩, hl, hc, hs⟩ := hq
  exact ⟨L, ⟨q1, fun y hy => by rw [q2 y hy]; exact hx0, q3, q5, q7, h.size, kb, hh0, Nat.le_refl _, Nat.ne_of_gt E.lt, q6, by rw [List.map_map]; exact v2⟩, hl, hc, hs⟩
end StrChars.Road
end Jvm.Pilot.@@N@@
namespace Jvm.Pilot.@@N@@
open Jvm Jvm.ClassFile Sem Op Lib Jvm.Free Jvm.Stand Jvm.LawKit Jvm.RoadKit Bundle Jvm.Pilot.@@N@@.Jvm.D
def oc0 (tb : Tables) (e : Env) (below : List Frame) (P : State → Prop) (A : State) : Prop := ∃ t, Steps tb e below A t ∧ P t
theorem od8 {tb : Tables} {e : Env} {below : List Frame} {P : State → Prop} {A B : State} (h : ∀ t, Steps tb e below B t → Steps tb e below A t) (g : oc0 tb e below P B) : oc0 tb e below P A := by
  obtain ⟨t, h1, h2⟩ := g
  exact ⟨t, h t h1, h2⟩
theorem own_fin {tb : Tables} {e : Env} {below : List Frame} {A : State} {Qq : Outcome → State → Prop} (g : oc0 tb e below (fun t => ∃ o, t.status = .running ∧ Ended t below o ∧ Qq o t) A) : ∃ t o, Steps tb e below A t ∧ t.status = .running ∧ Ended t below o ∧ Qq o t := by
  obtain ⟨t, h1, o, h2, h3, h4⟩ := g
  exact ⟨t, o, h1, h2, h3, h4⟩
theorem og0 {tb : Tables} {e : Env} {below : List Frame} {P : State → Prop} {A t : State} (h : Steps tb e below A t) (q : P t) : oc0 tb e below P A := ⟨t, h, q⟩
def oc2 (l : Launch) (y : MethodName) (bytes : ByteArray) (maxL : Nat) (ret : Option FieldType) (ws : List Jvm.Cond) (rm : Room) (Z : State) (as : Array Value) (h0 : Heap) (Q : Option Value → Heap → List Loc → Prop) : Prop := MetFree l y (head1 (Jvm.Cond.code y bytes maxL ret :: ws) rm) (fun aR UR => aR = as ∧ Z.Warmed39 UR.vm ∧ UR.heap = h0) (fun _ _ _ _ _ => True) (fun _ UR oR UR' => ∃ vR LR, oR = .returned vR ∧ Q vR UR'.heap LR ∧ FrameEnd UR oR UR' LR rm.cells rm.slots)
theorem ob3 {l : Launch} {y : MethodName} {bytes : ByteArray} {maxL : Nat} {ret : Option FieldType} {ws : List Jvm.Cond} {rm : Room} {Z : State} {as : Array Value} {h0 : Heap} {Q : Option Value → Heap → List Loc → Prop} {own : String} {f : MethodId → JFrame} (ho : y.cls = own) (hx : plainFor y = true) (ef : ∀ m, entryFrame m as maxL = f m) (k : ∀ (p : Program) (e : Env) (s : State) (m : MethodId) (below : List Frame) (meth : Method) (c : Code) (s₁ : State), BodyLoose p l y (head1 (Jvm.Cond.code y bytes maxL ret :: ws) rm) bytes maxL ret e s m as below meth c s₁ → c.maxLocals = maxL → Z.Warmed39 s.vm → s.heap = h0 → p.tables.exec = Jvm.exec → c.code = bytes → s.vm.findClass own = some m.cls → Stand p l e rm s m as below meth c s₁ [] 0 0 → s₁.heap = h0 → oc0 p.tables e below (fun t => ∃ o, t.status = .running ∧ Ended t below o ∧ ∃ vR LR, o = .returned vR ∧ Q vR t.heap LR ∧ FrameEnd s o t LR rm.cells rm.slots) (s₁.setTop (f m))) : oc2 l y bytes maxL ret ws rm Z as h0 Q := by
  subst ho
  refine MetFree.of_bodySF hx hisR ?_
  intro p e s m args below meth c s₁ Bd hml hP hK
  obtain ⟨rfl, hZ, hh⟩ := hP
  exact own_fin (od8 (fun tT kK => castTop (ef m) kK) (k p e s m below meth c s₁ Bd hml hZ hh Bd.exec Bd.bytes (findClass_of_methodNamed Bd.named) (Stand.of_body Bd) (by rw [← hh, Bd.state]; rfl)))
def own_MH (l : Launch) (y : MethodName) (bytes : ByteArray) (maxL : Nat) (ret : Option FieldType) (ws : List Jvm.Cond) (rm : Room) (Z : State) (as : Array Value) (h0 : Heap) (Q : Option Value → Heap → List Loc → Prop) (EL : List (String × Nat)) : Prop := MetFree l y (head1 (Jvm.Cond.code y bytes maxL ret :: ws) rm) (fun aR UR => aR = as ∧ Z.Warmed39 UR.vm ∧ UR.heap = h0 ∧ CHv Z EL UR.vm h0) (fun _ _ _ _ _ => True) (fun _ UR oR UR' => ∃ vR LR, oR = .returned vR ∧ Q vR UR'.heap LR ∧ CHr Z EL UR.vm UR.heap UR'.vm UR'.heap ∧ ReturnedEndW UR oR UR' LR rm.cells rm.slots)
theorem own_bodyH {l : Launch} {y : MethodName} {bytes : ByteArray} {maxL : Nat} {ret : Option FieldType} {ws : List Jvm.Cond} {rm : Room} {Z : State} {as : Array Value} {h0 : Heap} {Q : Option Value → Heap → List Loc → Prop} {EL : List (String × Nat)} {own : String} {f : MethodId → JFrame} (ho : y.cls = own) (hx : plainFor y = true) (ef : ∀ m, entryFrame m as maxL = f m) (k : ∀ (p : Program) (e : Env) (s : State) (m : MethodId) (below : List Frame) (meth : Method) (c : Code) (s₁ : State), BodyLoose p l y (head1 (Jvm.Cond.code y bytes maxL ret :: ws) rm) bytes maxL ret e s m as below meth c s₁ → c.maxLocals = maxL → Z.Warmed39 s.vm → s.heap = h0 → p.tables.exec = Jvm.exec → c.code = bytes → s.vm.findClass own = some m.cls → Stand p l e rm s m as below meth c s₁ [] 0 0 → s₁.heap = h0 → s.Since s.vm h0.size → CHv Z EL s.vm h0 → oc0 p.tables e below (fun t => ∃ o, t.status = .running ∧ Ended t below o ∧ ∃ vR LR, o = .returned vR ∧ Q vR t.heap LR ∧ CHr Z EL s.vm s.heap t.vm t.heap ∧ ReturnedEndW s o t LR rm.cells rm.slots) (s₁.setTop (f m))) : own_MH l y bytes maxL ret ws rm Z as h0 Q EL := by
  subst ho
  refine MetFree.of_bodySF hx hisR ?_
  intro p e s m args below meth c s₁ Bd hml hP hK
  obtain ⟨rfl, hZ, hh, CH0⟩ := hP
  exact own_fin (od8 (fun tT kK => castTop (ef m) kK) (k p e s m below meth c s₁ Bd hml hZ hh Bd.exec Bd.bytes (findClass_of_methodNamed Bd.named) (Stand.of_body Bd) (by rw [← hh, Bd.state]; rfl) ((State.WarmedH.refl s).since _) CH0))
theorem oa5 {tb : Tables} {e : Env} {below : List Frame} {P : State → Prop} {T : State} {m : MethodId} (pc : Nat) (Ls : Array Slot) (st : List Value) (g : oc0 tb e below P (T.setTop (mkF m pc Ls st))) : oc0 tb e below P (T.setTop (mkF m pc Ls st)) := g
theorem oc4 {a b : Nat} (h : ¬ a = b) : a ≠ b := h
theorem own_ll {a b : Nat} (h : a < b) : a < b := h
theorem ob4 {meth : Method} {ft : FieldType} {v : Option Value} (h : meth.sig.returnType = some ft) : meth.sig.returnType = none → v = none := fun q => by
  rw [h] at q
  cases q
theorem od {a b : Int32} (h : a = b) : some (Value.int a) = some (Value.int b) := by rw [h]
theorem oa9 {p : Program} {l : Launch} {e : Env} {R : Room} {s : State} {m : MethodId} {args : Array Value} {below : List Frame} {meth : Method} {c : Code} {T : State} {locs : List Loc} {cells slots : Nat} {Q : Option Value → Heap → List Loc → Prop} {h : Heap} {v : Option Value} {A : State} {kc ks : Nat} (X : Stand p l e R s m args below meth c T locs cells slots) (hl : meth.locks = false) (hv : meth.sig.returnType = none → v = none) (last : ∀ fs, (∀ (f : JFrame) (acts : List Action), f.method = m → f.locked = none → f.entered = [] → (doReturn e (T.setTop f) acts v).1 = T.setFrames fs) → Steps p.tables e below A (T.setFrames fs)) (eT : T.heap = h) (hc : cells ≤ kc) (hs : slots ≤ ks) (q : Q v h locs) : oc0 p.tables e below (fun t => ∃ o, t.status = .running ∧ Ended t below o ∧ ∃ vR LR, o = .returned vR ∧ Q vR t.heap LR ∧ FrameEnd s o t LR kc ks) A := by
  subst eT
  obtain ⟨fs, hr, hrun, hended, hW, hsame⟩ := X.leave (v := v) hv hl
  exact ⟨T.setFrames fs, last fs hr, _, hrun, hended, _, _, rfl, q, ⟨_, rfl⟩, hW, hsame.mono hc hs⟩
theorem oa0 {Z : State} {a0 : Array Value} {tab : List Jvm.Cond} (hw : ∀ d ∈ tab, d.before a0 Z = true) (i : Nat) {d : Jvm.Cond} (h : tab[i]? = some d) : d.before a0 Z = true := hw d (List.mem_of_getElem? h)
theorem oa {tb : Tables} [Ours tb] {e : Env} {below : List Frame} {T : State} {m : MethodId} {c : Code} {P : State → Prop} {pc : Nat} {Ls : Array Slot} {st : List Value} {bc : ByteArray} (h : At T m c below) (hx : tb.exec = Jvm.exec) (hby : c.code = bc) {k : Fin 4} {v : Int32} (hd : decode bc pc = .ok (.iload_n k, 1)) (hl : Ls[k.val]? = some (.val (.int v))) (g : oc0 tb e below P (T.setTop (mkF m (pc + 1) Ls ((.int v) :: st)))) : oc0 tb e below P (T.setTop (mkF m pc Ls (st))) := od8 (fun t k => XS.iloadN h hx rfl (hb hby hd) hl k) g
theorem oa8 {tb : Tables} [Ours tb] {e : Env} {below : List Frame} {T : State} {m : MethodId} {c : Code} {P : State → Prop} {pc : Nat} {Ls : Array Slot} {st : List Value} {bc : ByteArray} (h : At T m c below) (hx : tb.exec = Jvm.exec) (hby : c.code = bc) {k : Nat} {v : Int32} (hd : decode bc pc = .ok (.iload k, 2)) (hl : Ls[k]? = some (.val (.int v))) (g : oc0 tb e below P (T.setTop (mkF m (pc + 2) Ls ((.int v) :: st)))) : oc0 tb e below P (T.setTop (mkF m pc Ls (st))) := od8 (fun t k => XS.iload h hx rfl (hb hby hd) hl k) g
theorem oa2 {tb : Tables} [Ours tb] {e : Env} {below : List Frame} {T : State} {m : MethodId} {c : Code} {P : State → Prop} {pc : Nat} {Ls : Array Slot} {st : List Value} {bc : ByteArray} (h : At T m c below) (hx : tb.exec = Jvm.exec) (hby : c.code = bc) {k : Fin 4} {v : Value} (hd : decode bc pc = .ok (.aload_n k, 1)) (hl : Ls[k.val]? = some (.val v)) (hv : v.isRef = true) (g : oc0 tb e below P (T.setTop (mkF m (pc + 1) Ls (v :: st)))) : oc0 tb e below P (T.setTop (mkF m pc Ls (st))) := od8 (fun t k => XS.aloadN h hx rfl (hb hby hd) hl hv k) g
theorem oc7 {tb : Tables} [Ours tb] {e : Env} {below : List Frame} {T : State} {m : MethodId} {c : Code} {P : State → Prop} {pc : Nat} {Ls : Array Slot} {st : List Value} {bc : ByteArray} (h : At T m c below) (hx : tb.exec = Jvm.exec) (hby : c.code = bc) {k : Nat} {v : Value} (hd : decode bc pc = .ok (.aload k, 2)) (hl : Ls[k]? = some (.val v)) (hv : v.isRef = true) (g : oc0 tb e below P (T.setTop (mkF m (pc + 2) Ls (v :: st)))) : oc0 tb e below P (T.setTop (mkF m pc Ls (st))) := od8 (fun t k => XS.aload h hx rfl (hb hby hd) hl hv k) g
theorem oa6 {tb : Tables} [Ours tb] {e : Env} {below : List Frame} {T : State} {m : MethodId} {c : Code} {P : State → Prop} {pc : Nat} {Ls : Array Slot} {st : List Value} {bc : ByteArray} (h : At T m c below) (hx : tb.exec = Jvm.exec) (hby : c.code = bc) {k : Fin 4} {x : Int32} {l' : Array Slot} (hd : decode bc pc = .ok (.istore_n k, 1)) (hl : storeLocals Ls k.val (.int x) = some l') (g : oc0 tb e below P (T.setTop (mkF m (pc + 1) l' (st)))) : oc0 tb e below P (T.setTop (mkF m pc Ls ((.int x) :: st))) := od8 (fun t k => XS.istoreN h hx rfl (hb hby hd) rfl hl k) g
theorem ob8 {tb : Tables} [Ours tb] {e : Env} {below : List Frame} {T : State} {m : MethodId} {c : Code} {P : State → Prop} {pc : Nat} {Ls : Array Slot} {st : List Value} {bc : ByteArray} (h : At T m c below) (hx : tb.exec = Jvm.exec) (hby : c.code = bc) {k : Nat} {x : Int32} {l' : Array Slot} (hd : decode bc pc = .ok (.istore k, 2)) (hl : storeLocals Ls k (.int x) = some l') (g : oc0 tb e below P (T.setTop (mkF m (pc + 2) l' (st)))) : oc0 tb e below P (T.setTop (mkF m pc Ls ((.int x) :: st))) := od8 (fun t k => XS.istore h hx rfl (hb hby hd) rfl hl k) g
theorem of8 {tb : Tables} [Ours tb] {e : Env} {below : List Frame} {T : State} {m : MethodId} {c : Code} {P : State → Prop} {pc : Nat} {Ls : Array Slot} {st : List Value} {bc : ByteArray} (h : At T m c below) (hx : tb.exec = Jvm.exec) (hby : c.code = bc) {k : Fin 4} {x : Value} {l' : Array Slot} (hd : decode bc pc = .ok (.astore_n k, 1)) (hv : x.isRef = true) (hl : storeLocals Ls k.val x = some l') (g : oc0 tb e below P (T.setTop (mkF m (pc + 1) l' (st)))) : oc0 tb e below P (T.setTop (mkF m pc Ls (x :: st))) := od8 (fun t k => XS.astoreN h hx rfl (hb hby hd) rfl hv hl k) g
theorem od5 {tb : Tables} [Ours tb] {e : Env} {below : List Frame} {T : State} {m : MethodId} {c : Code} {P : State → Prop} {pc : Nat} {Ls : Array Slot} {st : List Value} {bc : ByteArray} (h : At T m c below) (hx : tb.exec = Jvm.exec) (hby : c.code = bc) {k : Nat} {x : Value} {l' : Array Slot} (hd : decode bc pc = .ok (.astore k, 2)) (hv : x.isRef = true) (hl : storeLocals Ls k x = some l') (g : oc0 tb e below P (T.setTop (mkF m (pc + 2) l' (st)))) : oc0 tb e below P (T.setTop (mkF m pc Ls (x :: st))) := od8 (fun t k => XS.astore h hx rfl (hb hby hd) rfl hv hl k) g
theorem oa4 {tb : Tables} [Ours tb] {e : Env} {below : List Frame} {T : State} {m : MethodId} {c : Code} {P : State → Prop} {pc : Nat} {Ls : Array Slot} {st : List Value} {bc : ByteArray} (h : At T m c below) (hx : tb.exec = Jvm.exec) (hby : c.code = bc) {i : Int} {v : Int32} (hd : decode bc pc = .ok (.iconst i, 1)) (hv : Int32.ofInt i = v) (g : oc0 tb e below P (T.setTop (mkF m (pc + 1) Ls ((.int v) :: st)))) : oc0 tb e below P (T.setTop (mkF m pc Ls st)) := by
  subst hv
  exact od8 (fun t k => XS.iconst h hx rfl (hb hby hd) k) g
theorem od4 {tb : Tables} [Ours tb] {e : Env} {below : List Frame} {T : State} {m : MethodId} {c : Code} {P : State → Prop} {pc : Nat} {Ls : Array Slot} {st : List Value} {bc : ByteArray} (h : At T m c below) (hx : tb.exec = Jvm.exec) (hby : c.code = bc) {i : Int} {v : Int32} (hd : decode bc pc = .ok (.bipush i, 2)) (hv : (Int8.ofInt i).toInt32 = v) (g : oc0 tb e below P (T.setTop (mkF m (pc + 2) Ls ((.int v) :: st)))) : oc0 tb e below P (T.setTop (mkF m pc Ls st)) := by
  subst hv
  exact od8 (fun t k => XS.bipush h hx rfl (hb hby hd) k) g
theorem od0 {tb : Tables} [Ours tb] {e : Env} {below : List Frame} {T : State} {m : MethodId} {c : Code} {P : State → Prop} {pc : Nat} {Ls : Array Slot} {st : List Value} {bc : ByteArray} (h : At T m c below) (hx : tb.exec = Jvm.exec) (hby : c.code = bc) {i : Int} {v : Int32} (hd : decode bc pc = .ok (.sipush i, 3)) (hv : (Int16.ofInt i).toInt32 = v) (g : oc0 tb e below P (T.setTop (mkF m (pc + 3) Ls ((.int v) :: st)))) : oc0 tb e below P (T.setTop (mkF m pc Ls st)) := by
  subst hv
  exact od8 (fun t k => XS.sipush h hx rfl (hb hby hd) k) g
theorem of6 {tb : Tables} [Ours tb] {e : Env} {below : List Frame} {T : State} {m : MethodId} {c : Code} {P : State → Prop} {pc : Nat} {Ls : Array Slot} {st : List Value} {bc : ByteArray} (h : At T m c below) (hx : tb.exec = Jvm.exec) (hby : c.code = bc)  (hd : decode bc pc = .ok (.aconst_null, 1)) (g : oc0 tb e below P (T.setTop (mkF m (pc + 1) Ls (.null :: st)))) : oc0 tb e below P (T.setTop (mkF m pc Ls (st))) := od8 (fun t k => XS.aconstNull h hx rfl (hb hby hd)  k) g
theorem oc8 {tb : Tables} [Ours tb] {e : Env} {below : List Frame} {T : State} {m : MethodId} {c : Code} {P : State → Prop} {pc : Nat} {Ls : Array Slot} {st : List Value} {bc : ByteArray} (h : At T m c below) (hx : tb.exec = Jvm.exec) (hby : c.code = bc) {x y v : Int32} (hd : decode bc pc = .ok (.iadd, 1)) (hv : (x + y) = v) (g : oc0 tb e below P (T.setTop (mkF m (pc + 1) Ls ((.int v) :: st)))) : oc0 tb e below P (T.setTop (mkF m pc Ls ((.int y) :: (.int x) :: st))) := by
  subst hv
  exact od8 (fun t k => XS.iadd h hx rfl (hb hby hd) rfl k) g
theorem own_isub {tb : Tables} [Ours tb] {e : Env} {below : List Frame} {T : State} {m : MethodId} {c : Code} {P : State → Prop} {pc : Nat} {Ls : Array Slot} {st : List Value} {bc : ByteArray} (h : At T m c below) (hx : tb.exec = Jvm.exec) (hby : c.code = bc) {x y v : Int32} (hd : decode bc pc = .ok (.isub, 1)) (hv : (x - y) = v) (g : oc0 tb e below P (T.setTop (mkF m (pc + 1) Ls ((.int v) :: st)))) : oc0 tb e below P (T.setTop (mkF m pc Ls ((.int y) :: (.int x) :: st))) := by
  subst hv
  exact od8 (fun t k => XS.isub h hx rfl (hb hby hd) rfl k) g
theorem oe9 {tb : Tables} [Ours tb] {e : Env} {below : List Frame} {T : State} {m : MethodId} {c : Code} {P : State → Prop} {pc : Nat} {Ls : Array Slot} {st : List Value} {bc : ByteArray} (h : At T m c below) (hx : tb.exec = Jvm.exec) (hby : c.code = bc) {x y v : Int32} (hd : decode bc pc = .ok (.iand, 1)) (hv : (x &&& y) = v) (g : oc0 tb e below P (T.setTop (mkF m (pc + 1) Ls ((.int v) :: st)))) : oc0 tb e below P (T.setTop (mkF m pc Ls ((.int y) :: (.int x) :: st))) := by
  subst hv
  exact od8 (fun t k => XS.iand h hx rfl (hb hby hd) rfl k) g
theorem own_ior {tb : Tables} [Ours tb] {e : Env} {below : List Frame} {T : State} {m : MethodId} {c : Code} {P : State → Prop} {pc : Nat} {Ls : Array Slot} {st : List Value} {bc : ByteArray} (h : At T m c below) (hx : tb.exec = Jvm.exec) (hby : c.code = bc) {x y v : Int32} (hd : decode bc pc = .ok (.ior, 1)) (hv : (x ||| y) = v) (g : oc0 tb e below P (T.setTop (mkF m (pc + 1) Ls ((.int v) :: st)))) : oc0 tb e below P (T.setTop (mkF m pc Ls ((.int y) :: (.int x) :: st))) := by
  subst hv
  exact od8 (fun t k => XS.ior h hx rfl (hb hby hd) rfl k) g
theorem oe1 {tb : Tables} [Ours tb] {e : Env} {below : List Frame} {T : State} {m : MethodId} {c : Code} {P : State → Prop} {pc : Nat} {Ls : Array Slot} {st : List Value} {bc : ByteArray} (h : At T m c below) (hx : tb.exec = Jvm.exec) (hby : c.code = bc) {x y v : Int32} (hd : decode bc pc = .ok (.ishl, 1)) (hv : (x <<< (y &&& 31)) = v) (g : oc0 tb e below P (T.setTop (mkF m (pc + 1) Ls ((.int v) :: st)))) : oc0 tb e below P (T.setTop (mkF m pc Ls ((.int y) :: (.int x) :: st))) := by
  subst hv
  exact od8 (fun t k => XS.ishl h hx rfl (hb hby hd) rfl k) g
theorem oe2 {tb : Tables} [Ours tb] {e : Env} {below : List Frame} {T : State} {m : MethodId} {c : Code} {P : State → Prop} {pc : Nat} {Ls : Array Slot} {st : List Value} {bc : ByteArray} (h : At T m c below) (hx : tb.exec = Jvm.exec) (hby : c.code = bc) {x y v : Int32} (hd : decode bc pc = .ok (.ishr, 1)) (hv : (x >>> (y &&& 31)) = v) (g : oc0 tb e below P (T.setTop (mkF m (pc + 1) Ls ((.int v) :: st)))) : oc0 tb e below P (T.setTop (mkF m pc Ls ((.int y) :: (.int x) :: st))) := by
  subst hv
  exact od8 (fun t k => XS.ishr h hx rfl (hb hby hd) rfl k) g
theorem own_iushr {tb : Tables} [Ours tb] {e : Env} {below : List Frame} {T : State} {m : MethodId} {c : Code} {P : State → Prop} {pc : Nat} {Ls : Array Slot} {st : List Value} {bc : ByteArray} (h : At T m c below) (hx : tb.exec = Jvm.exec) (hby : c.code = bc) {x y v : Int32} (hd : decode bc pc = .ok (.iushr, 1)) (hv : ((x.toUInt32 >>> (y &&& 31).toUInt32).toInt32) = v) (g : oc0 tb e below P (T.setTop (mkF m (pc + 1) Ls ((.int v) :: st)))) : oc0 tb e below P (T.setTop (mkF m pc Ls ((.int y) :: (.int x) :: st))) := by
  subst hv
  exact od8 (fun t k => XS.iushr h hx rfl (hb hby hd) rfl k) g
theorem of5 {tb : Tables} [Ours tb] {e : Env} {below : List Frame} {T : State} {m : MethodId} {c : Code} {P : State → Prop} {pc : Nat} {Ls : Array Slot} {st : List Value} {bc : ByteArray} (h : At T m c below) (hx : tb.exec = Jvm.exec) (hby : c.code = bc) {x : Int32} {v : Int32} (hd : decode bc pc = .ok (.i2b, 1)) (hv : (x.toInt8.toInt32) = v) (g : oc0 tb e below P (T.setTop (mkF m (pc + 1) Ls ((.int v) :: st)))) : oc0 tb e below P (T.setTop (mkF m pc Ls ((.int x) :: st))) := by
  subst hv
  exact od8 (fun t k => XS.i2b h hx rfl (hb hby hd) rfl k) g
theorem own_i2c {tb : Tables} [Ours tb] {e : Env} {below : List Frame} {T : State} {m : MethodId} {c : Code} {P : State → Prop} {pc : Nat} {Ls : Array Slot} {st : List Value} {bc : ByteArray} (h : At T m c below) (hx : tb.exec = Jvm.exec) (hby : c.code = bc) {x : Int32} {v : Int32} (hd : decode bc pc = .ok (.i2c, 1)) (hv : (x.toUInt32.toUInt16.toUInt32.toInt32) = v) (g : oc0 tb e below P (T.setTop (mkF m (pc + 1) Ls ((.int v) :: st)))) : oc0 tb e below P (T.setTop (mkF m pc Ls ((.int x) :: st))) := by
  subst hv
  exact od8 (fun t k => XS.i2c h hx rfl (hb hby hd) rfl k) g
theorem of1 {tb : Tables} [Ours tb] {e : Env} {below : List Frame} {T : State} {m : MethodId} {c : Code} {P : State → Prop} {pc : Nat} {Ls : Array Slot} {st : List Value} {bc : ByteArray} (h : At T m c below) (hx : tb.exec = Jvm.exec) (hby : c.code = bc) {x : Value} (hd : decode bc pc = .ok (.dup, 1)) (hc : x.category = 1) (g : oc0 tb e below P (T.setTop (mkF m (pc + 1) Ls (x :: x :: st)))) : oc0 tb e below P (T.setTop (mkF m pc Ls (x :: st))) := od8 (fun t k => XS.dup h hx rfl (hb hby hd) rfl hc k) g
theorem own_pop {tb : Tables} [Ours tb] {e : Env} {below : List Frame} {T : State} {m : MethodId} {c : Code} {P : State → Prop} {pc : Nat} {Ls : Array Slot} {st : List Value} {bc : ByteArray} (h : At T m c below) (hx : tb.exec = Jvm.exec) (hby : c.code = bc) {x : Value} (hd : decode bc pc = .ok (.pop, 1)) (hc : x.category = 1) (g : oc0 tb e below P (T.setTop (mkF m (pc + 1) Ls (st)))) : oc0 tb e below P (T.setTop (mkF m pc Ls (x :: st))) := od8 (fun t k => XS.pop h hx rfl (hb hby hd) rfl hc k) g
theorem oc {tb : Tables} [Ours tb] {e : Env} {below : List Frame} {T : State} {m : MethodId} {c : Code} {P : State → Prop} {pc : Nat} {Ls : Array Slot} {st : List Value} {bc : ByteArray} (h : At T m c below) (hx : tb.exec = Jvm.exec) (hby : c.code = bc) {o : Int} {pc' : Nat} (hd : decode bc pc = .ok (.goto o, 3)) (ho : 0 ≤ (pc : Int) + o) (hp : ((pc : Int) + o).toNat = pc') (g : oc0 tb e below P (T.setTop (mkF m pc' Ls st))) : oc0 tb e below P (T.setTop (mkF m pc Ls st)) := od8 (fun t k => XS.goto h hx rfl (pc0 := pc) rfl (hb hby hd) ho hp k) g
theorem ob1 {tb : Tables} [Ours tb] {e : Env} {below : List Frame} {T : State} {m : MethodId} {c : Code} {P : State → Prop} {pc : Nat} {Ls : Array Slot} {st : List Value} {bc : ByteArray} (h : At T m c below) (hx : tb.exec = Jvm.exec) (hby : c.code = bc) {cd : ClassFile.Cond} {o : Int} {pc' : Nat} {x : Int32} (hd : decode bc pc = .ok (.ifCond cd o, 3)) (hc : ifCond.holds cd x = true) (ho : 0 ≤ (pc : Int) + o) (hp : ((pc : Int) + o).toNat = pc') (g : oc0 tb e below P (T.setTop (mkF m pc' Ls st))) : oc0 tb e below P (T.setTop (mkF m pc Ls ((.int x) :: st))) := od8 (fun t k => XS.ifYes h hx rfl (pc0 := pc) rfl (hb hby hd) rfl hc ho hp k) g
theorem ob7 {tb : Tables} [Ours tb] {e : Env} {below : List Frame} {T : State} {m : MethodId} {c : Code} {P : State → Prop} {pc : Nat} {Ls : Array Slot} {st : List Value} {bc : ByteArray} (h : At T m c below) (hx : tb.exec = Jvm.exec) (hby : c.code = bc) {cd : ClassFile.Cond} {o : Int} {x : Int32} (hd : decode bc pc = .ok (.ifCond cd o, 3)) (hc : ifCond.holds cd x = false) (g : oc0 tb e below P (T.setTop (mkF m (pc + 3) Ls st))) : oc0 tb e below P (T.setTop (mkF m pc Ls ((.int x) :: st))) := od8 (fun t k => XS.ifNo h hx rfl (hb hby hd) rfl hc k) g
theorem ob2 {tb : Tables} [Ours tb] {e : Env} {below : List Frame} {T : State} {m : MethodId} {c : Code} {P : State → Prop} {pc : Nat} {Ls : Array Slot} {st : List Value} {bc : ByteArray} (h : At T m c below) (hx : tb.exec = Jvm.exec) (hby : c.code = bc) {cd : ClassFile.Cond} {o : Int} {pc' : Nat} {x y : Int32} (hd : decode bc pc = .ok (.if_icmp cd o, 3)) (hc : if_icmp.holds cd x y = true) (ho : 0 ≤ (pc : Int) + o) (hp : ((pc : Int) + o).toNat = pc') (g : oc0 tb e below P (T.setTop (mkF m pc' Ls st))) : oc0 tb e below P (T.setTop (mkF m pc Ls ((.int y) :: (.int x) :: st))) := od8 (fun t k => XS.icmpYes h hx rfl (pc0 := pc) rfl (hb hby hd) rfl hc ho hp k) g
theorem oa7 {tb : Tables} [Ours tb] {e : Env} {below : List Frame} {T : State} {m : MethodId} {c : Code} {P : State → Prop} {pc : Nat} {Ls : Array Slot} {st : List Value} {bc : ByteArray} (h : At T m c below) (hx : tb.exec = Jvm.exec) (hby : c.code = bc) {cd : ClassFile.Cond} {o : Int} {x y : Int32} (hd : decode bc pc = .ok (.if_icmp cd o, 3)) (hc : if_icmp.holds cd x y = false) (g : oc0 tb e below P (T.setTop (mkF m (pc + 3) Ls st))) : oc0 tb e below P (T.setTop (mkF m pc Ls ((.int y) :: (.int x) :: st))) := od8 (fun t k => XS.icmpNo h hx rfl (hb hby hd) rfl hc k) g
theorem od2 {tb : Tables} [Ours tb] {e : Env} {below : List Frame} {T : State} {m : MethodId} {c : Code} {P : State → Prop} {pc : Nat} {Ls : Array Slot} {st : List Value} {bc : ByteArray} (h : At T m c below) (hx : tb.exec = Jvm.exec) (hby : c.code = bc) {k : Nat} {cst : Int} {x v : Int32} {l' : Array Slot} (hd : decode bc pc = .ok (.iinc k cst, 3)) (hl : Ls[k]? = some (.val (.int x))) (hv : (x + Int32.ofInt cst) = v) (hl' : storeLocals Ls k (.int v) = some l') (g : oc0 tb e below P (T.setTop (mkF m (pc + 3) l' st))) : oc0 tb e below P (T.setTop (mkF m pc Ls st)) := by
  subst hv
  exact od8 (fun t k => XS.iinc h hx rfl (hb hby hd) hl hl' k) g
section OwnGo
variable {p : Program} {l : Launch} {e : Env} {R : Room} {s : State} {m : MethodId} {args : Array Value} {below : List Frame} {meth : Method} {c : Code} {T : State} {locs : List Loc} {cells slots : Nat} {Z : State} {a0 : Array Value} {h : Heap} {P : State → Prop} {pc : Nat} {Ls : Array Slot} {st : List Value} {bc : ByteArray} {n0 : Nat}
theorem od3 (X : Stand p l e R s m args below meth c T locs cells slots) (hx : p.tables.exec = Jvm.exec) (hZ : Z.Warmed39 s.vm) {own R0 O n d host : String} {index : Nat} (hown : s.vm.findClass own = some m.cls) (w : (Cond.fieldLink own index R0 n d).before a0 Z = true ∨ (Cond.fieldLinkNest own index R0 n d host).before a0 Z = true) (via : Via Z R0 O n d) (eT : T.heap = h) {a : Addr} {v : Value} (F : Fld Z h a O n d v) (hby : c.code = bc) (hd : decode bc pc = .ok (.getfield index, 3)) (k : ∀ T', Stand p l e R s m args below meth c T' locs cells slots → T'.heap = h → oc0 p.tables e below P (T'.setTop (mkF m (pc + 3) Ls (v :: st)))) : oc0 p.tables e below P (T.setTop (mkF m pc Ls ((.ref a) :: st))) := by
  obtain ⟨T', X', e', sp⟩ := getF X hx hZ hown w via eT F (g := mkF m pc Ls ((.ref a) :: st)) rfl rfl (hb hby hd)
  exact od8 sp (k T' X' e')
theorem oc3 (X : Stand p l e R s m args below meth c T locs cells slots) (hx : p.tables.exec = Jvm.exec) (hZ : Z.Warmed39 s.vm) {own R0 O n d host : String} {index : Nat} (hown : s.vm.findClass own = some m.cls) (w : (Cond.fieldLink own index R0 n d).before a0 Z = true ∨ (Cond.fieldLinkNest own index R0 n d host).before a0 Z = true) (via : Via Z R0 O n d) (eT : T.heap = h) {v : Value} (F : Sta Z h O n d v) (hby : c.code = bc) (hd : decode bc pc = .ok (.getstatic index, 3)) (k : ∀ T', Stand p l e R s m args below meth c T' locs cells slots → T'.heap = h → oc0 p.tables e below P (T'.setTop (mkF m (pc + 3) Ls (v :: st)))) : oc0 p.tables e below P (T.setTop (mkF m pc Ls st)) := by
  obtain ⟨T', X', e', sp⟩ := getS2 X hx hZ hown w via eT F (g := mkF m pc Ls st) rfl (hb hby hd)
  exact od8 sp (k T' X' e')
theorem og8 (X : Stand p l e R s m args below meth c T locs cells slots) (hx : p.tables.exec = Jvm.exec) (hZ : Z.Warmed39 s.vm) {C : String} {kk : Nat} {ty : FieldType} {own R0 O n d host : String} {index : Nat} (hown : s.vm.findClass own = some m.cls) (w : (Cond.fieldLink own index R0 n d).before a0 Z = true ∨ (Cond.fieldLinkNest own index R0 n d host).before a0 Z = true) (via : Via Z R0 O n d) (eT : T.heap = h) {a : Addr} {v old : Value} (F : Fld Z h a O n d old) (E : Exa Z h a C) (L : (Cond.lays C O n d).before a0 Z = true ∨ ((Cond.laysFinal C O n d).before a0 Z = true ∧ own = O ∧ meth.name = "<init>")) (wi : (Cond.instantiable C kk).before a0 Z = true) (hty : parseFieldDescriptor d = some ty) (hn : narrow ty v = v) (hf : fits ty v = true) (hby : c.code = bc) (hd : decode bc pc = .ok (.putfield index, 3)) (N : Fr n0 locs) (ge : n0 ≤ a) (k : ∀ T' h' locs', Stand p l e R s m args below meth c T' locs' cells slots → T'.heap = h' → Fr n0 locs' → Wr h h' a (Jvm.RoadKit.slotOf Z O n d) v → Fld Z h' a O n d v → h.size ≤ h'.size → oc0 p.tables e below P (T'.setTop (mkF m (pc + 3) Ls st))) : oc0 p.tables e below P (T.setTop (mkF m pc Ls (v :: (.ref a) :: st))) := by
  obtain ⟨T', h', X', e', W, sp⟩ := putF X hx hZ hown w via eT F E L wi hty hn hf (g := mkF m pc Ls (v :: (.ref a) :: st)) rfl rfl (hb hby hd)
  exact od8 sp (k T' h' _ X' e' (Fr.snoc X' N ge) W (F.same W) (Keep.of_wr W).1)
theorem og2 (X : Stand p l e R s m args below meth c T locs cells slots) (hx : p.tables.exec = Jvm.exec) (hZ : Z.Warmed39 s.vm) {own R0 O n d C : String} {index kk : Nat} {ty : FieldType} (hown : s.vm.findClass own = some m.cls) (w : (Cond.fieldLink own index R0 n d).before a0 Z = true) (via : Via Z R0 O n d) (eT : T.heap = h) {a : Addr} {v v' old : Value} (F : Fld Z h a O n d old) (E : Exa Z h a C) (L : (Cond.lays C O n d).before a0 Z = true ∨ ((Cond.laysFinal C O n d).before a0 Z = true ∧ own = O ∧ meth.name = "<init>")) (wi : (Cond.instantiable C kk).before a0 Z = true) (hty : parseFieldDescriptor d = some ty) (hn : narrow ty v = v') (hf : fits ty v' = true) (hby : c.code = bc) (hd : decode bc pc = .ok (.putfield index, 3)) (N : Fr n0 locs) (ge : n0 ≤ a) (k : ∀ T' h' locs', Stand p l e R s m args below meth c T' locs' cells slots → T'.heap = h' → Fr n0 locs' → Wr h h' a (Jvm.RoadKit.slotOf Z O n d) v' → Fld Z h' a O n d v' → h.size ≤ h'.size → oc0 p.tables e below P (T'.setTop (mkF m (pc + 3) Ls st))) : oc0 p.tables e below P (T.setTop (mkF m pc Ls (v :: (.ref a) :: st))) := by
  obtain ⟨T', h', X', e', W, sp⟩ := putFN X hx hZ hown w via eT F E L wi hty hn hf (g := mkF m pc Ls (v :: (.ref a) :: st)) rfl rfl (hb hby hd)
  exact od8 sp (k T' h' _ X' e' (Fr.snoc X' N ge) W (F.same W) (Keep.of_wr W).1)
theorem own_newO (X : Stand p l e R s m args below meth c T locs cells slots) (hx : p.tables.exec = Jvm.exec) (hZ : Z.Warmed39 s.vm) {own C : String} {index n : Nat} (hown : s.vm.findClass own = some m.cls) (w : (Cond.classLink own index C).before a0 Z = true) (wi : (Cond.instantiable C n).before a0 Z = true) (wz : (Cond.initialized C).before a0 Z = true) (eT : T.heap = h) (hby : c.code = bc) (hd : decode bc pc = .ok (.new index, 3)) (hc : cells + 1 ≤ R.cells) (hl : slots + n ≤ R.slots) (k : ∀ T' h' b, Stand p l e R s m args below meth c T' locs (cells + 1) (slots + n) → T'.heap = h' → Ext h h' → b = h.size → Exa Z h' b C → (∀ {O nm d : String} {ty : FieldType}, Laid Z a0 C O nm d → parseFieldDescriptor d = some ty → Fld Z h' b O nm d (defaultValue ty)) → b < h'.size → oc0 p.tables e below P (T'.setTop (mkF m (pc + 3) Ls ((.ref b) :: st)))) : oc0 p.tables e below P (T.setTop (mkF m pc Ls st)) := by
  obtain ⟨T', h', X', e', E, A, D, -, sp⟩ := newO X hx hZ hown w wi wz eT (g := mkF m pc Ls st) rfl (hb hby hd) hc hl
  exact od8 sp (k T' h' _ X' e' E rfl A D A.lt)
theorem of3 (X : Stand p l e R s m args below meth c T locs cells slots) (hx : p.tables.exec = Jvm.exec) (hZ : Z.Warmed39 s.vm) {aty : ArrayType} (w : (Cond.arrayClass (newarray.typeOf aty)).before a0 Z = true) (eT : T.heap = h) (hby : c.code = bc) (hd : decode bc pc = .ok (.newarray aty, 2)) {n : Int32} (hn : ¬ n < 0) (cap : Nat) (hcap : n.toNatClampNeg ≤ cap) (hb8 : cap * 8 ≤ 536870912) (hc : cells + 1 ≤ R.cells) (hl : slots + cap ≤ R.slots) {ad : String} (had : "[" ++ (newarray.typeOf aty).toString = ad) (k : ∀ T' h' cA b, Stand p l e R s m args below meth c T' locs (cells + 1) (slots + cap) → T'.heap = h' → Ext h h' → b = h.size → Arv Z h' b cA (newarray.typeOf aty) n [] (defaultValue (newarray.typeOf aty)) → Exa Z h' b ad → b < h'.size → oc0 p.tables e below P (T'.setTop (mkF m (pc + 2) Ls ((.ref b) :: st)))) : oc0 p.tables e below P (T.setTop (mkF m pc Ls ((.int n) :: st))) := by
  obtain ⟨T', h', cA, X', e', E, A, C, sp⟩ := newPE X hx hZ w eT (g := mkF m pc Ls ((.int n) :: st)) rfl (hb hby hd) rfl hn (cap := cap) hcap hb8 hc hl had
  exact od8 sp (k T' h' cA _ X' e' E rfl (Arv.new A hn) C C.lt)
theorem oe3 (X : Stand p l e R s m args below meth c T locs cells slots) (hx : p.tables.exec = Jvm.exec) (hZ : Z.Warmed39 s.vm) (eT : T.heap = h) {a : Addr} {kc : ClassId} {z j : Int32} {x : Int32} {w : Value} {vs : List Value} {dv : Value} (V : Arv Z h a kc .char z vs dv) (hj : ¬ j < 0 ∧ j < z) (i : Nat) (hi : j.toNatClampNeg = i) (hl : i < vs.length) (hv : (.int (nar .char x)) = w) (hby : c.code = bc) (hd : decode bc pc = .ok (.castore, 1)) (N : Fr n0 locs) (ge : n0 ≤ a) (k : ∀ T' h' locs', Stand p l e R s m args below meth c T' locs' cells slots → T'.heap = h' → Fr n0 locs' → Wr h h' a i w → Arv Z h' a kc .char z (vs.set i w) dv → h.size ≤ h'.size → oc0 p.tables e below P (T'.setTop (mkF m (pc + 1) Ls st))) : oc0 p.tables e below P (T.setTop (mkF m pc Ls ((.int x) :: (.int j) :: (.ref a) :: st))) := by
  subst hv hi
  obtain ⟨cl, A, q, S, M, H, G⟩ := V
  obtain ⟨T', h', X', e', W, sp⟩ := stC X hx hZ eT A (j := j) (inb_of S hj) (g := mkF m pc Ls ((.int x) :: (.int j) :: (.ref a) :: st)) rfl rfl (hb hby hd)
  exact od8 sp (k T' h' _ X' e' (Fr.snoc X' N ge) W (Arv.set A q S M H G (fits_nar_char _) W _ rfl hl) (Keep.of_wr W).1)
theorem oe6 (X : Stand p l e R s m args below meth c T locs cells slots) (hx : p.tables.exec = Jvm.exec) (hZ : Z.Warmed39 s.vm) (eT : T.heap = h) {a : Addr} {kc : ClassId} {z j : Int32} {x : Int32} {w : Value} {vs : List Value} {dv : Value} (V : Arv Z h a kc .byte z vs dv) (hj : ¬ j < 0 ∧ j < z) (i : Nat) (hi : j.toNatClampNeg = i) (hl : i < vs.length) (hv : (.int (nar .byte x)) = w) (hby : c.code = bc) (hd : decode bc pc = .ok (.bastore, 1)) (N : Fr n0 locs) (ge : n0 ≤ a) (k : ∀ T' h' locs', Stand p l e R s m args below meth c T' locs' cells slots → T'.heap = h' → Fr n0 locs' → Wr h h' a i w → Arv Z h' a kc .byte z (vs.set i w) dv → h.size ≤ h'.size → oc0 p.tables e below P (T'.setTop (mkF m (pc + 1) Ls st))) : oc0 p.tables e below P (T.setTop (mkF m pc Ls ((.int x) :: (.int j) :: (.ref a) :: st))) := by
  subst hv hi
  obtain ⟨cl, A, q, S, M, H, G⟩ := V
  obtain ⟨T', h', X', e', W, sp⟩ := stB X hx hZ eT A (j := j) (inb_of S hj) (g := mkF m pc Ls ((.int x) :: (.int j) :: (.ref a) :: st)) rfl rfl (hb hby hd)
  exact od8 sp (k T' h' _ X' e' (Fr.snoc X' N ge) W (Arv.set A q S M H G (fits_nar_byte _) W _ rfl hl) (Keep.of_wr W).1)
theorem oc6 (X : Stand p l e R s m args below meth c T locs cells slots) (hx : p.tables.exec = Jvm.exec) (hZ : Z.Warmed39 s.vm) (eT : T.heap = h) {a : Addr} {kc : ClassId} {z j : Int32} {v : Value} {vs : List Value} {dv : Value} (V : Arv Z h a kc .char z vs dv) (hj : ¬ j < 0 ∧ j < z) (hv : vs.getD j.toNatClampNeg dv = v) (hby : c.code = bc) (hd : decode bc pc = .ok (.caload, 1)) (k : oc0 p.tables e below P (T.setTop (mkF m (pc + 1) Ls (v :: st)))) : oc0 p.tables e below P (T.setTop (mkF m pc Ls ((.int j) :: (.ref a) :: st))) := by
  obtain ⟨cl, A, q, S, M, H, G⟩ := V
  exact od8 (fun t q => X.caload hx (by rw [eT]; exact A.1) (State.isArrayOf_alike hZ.alike A.2.1) A.2.2 (inb_of S hj) (Has.at H (inb_of S hj) hv) (g := mkF m pc Ls ((.int j) :: (.ref a) :: st)) rfl rfl (hb hby hd) t q) k
theorem oe7 (X : Stand p l e R s m args below meth c T locs cells slots) (hx : p.tables.exec = Jvm.exec) (hZ : Z.Warmed39 s.vm) (eT : T.heap = h) {a : Addr} {kc : ClassId} {z j : Int32} {v : Value} {vs : List Value} {dv : Value} (V : Arv Z h a kc .byte z vs dv) (hj : ¬ j < 0 ∧ j < z) (hv : vs.getD j.toNatClampNeg dv = v) (hby : c.code = bc) (hd : decode bc pc = .ok (.baload, 1)) (k : oc0 p.tables e below P (T.setTop (mkF m (pc + 1) Ls (v :: st)))) : oc0 p.tables e below P (T.setTop (mkF m pc Ls ((.int j) :: (.ref a) :: st))) := by
  obtain ⟨cl, A, q, S, M, H, G⟩ := V
  exact od8 (fun t q => X.baloadBytes hx (by rw [eT]; exact A.1) (State.isArrayOf_alike hZ.alike A.2.1) A.2.2 (inb_of S hj) (Has.at H (inb_of S hj) hv) (g := mkF m pc Ls ((.int j) :: (.ref a) :: st)) rfl rfl (hb hby hd) t q) k
theorem oe (X : Stand p l e R s m args below meth c T locs cells slots) (hx : p.tables.exec = Jvm.exec) (hZ : Z.Warmed39 s.vm) (eT : T.heap = h) {a : Addr} {kc : ClassId} {ty : FieldType} {z : Int32} {vs : List Value} {dv : Value} (V : Arv Z h a kc ty z vs dv) (hby : c.code = bc) (hd : decode bc pc = .ok (.arraylength, 1)) (k : oc0 p.tables e below P (T.setTop (mkF m (pc + 1) Ls ((.int z) :: st)))) : oc0 p.tables e below P (T.setTop (mkF m pc Ls ((.ref a) :: st))) := by
  obtain ⟨cl, A, q, S, M, H, G⟩ := V
  refine od8 (fun t q => X.arraylength hx (by rw [eT]; exact A.1) (State.isArrayOf_alike hZ.alike A.2.1) (g := mkF m pc Ls ((.ref a) :: st)) rfl rfl (hb hby hd) t q) ?_
  rw [len_of S M]; exact k
theorem oc1 (X : Stand p l e R s m args below meth c T locs cells slots) (hx : p.tables.exec = Jvm.exec) (hZ : Z.Warmed39 s.vm) {own : String} {index : Nat} {v : Int32} (hown : s.vm.findClass own = some m.cls) (w : (Cond.constant own index v).before a0 Z = true) (hby : c.code = bc) (hd : decode bc pc = .ok (.ldc index, 2)) (k : oc0 p.tables e below P (T.setTop (mkF m (pc + 2) Ls ((.int v) :: st)))) : oc0 p.tables e below P (T.setTop (mkF m pc Ls st)) := by
  exact od8 (X.ldcInt hx hown (mvT hZ w) (g := mkF m pc Ls st) rfl (hb hby hd)) k
theorem og3 (X : Stand p l e R s m args below meth c T locs cells slots) (hx : p.tables.exec = Jvm.exec) (hZ : Z.Warmed39 s.vm) {own : String} {idx : Nat} (hown : s.vm.findClass own = some m.cls) (w1 : (Cond.methodLink own idx Lib.objectInit).before a0 Z = true) (w2 : (Cond.instanceMethod Lib.objectInit).before a0 Z = true) (w3 : (Cond.code Lib.objectInit ⟨#[0xb1]⟩ 1 none).before a0 Z = true) (eT : T.heap = h) (hsize : Ls.size = c.maxLocals) {a : Addr} (hby : c.code = bc) (hd : decode bc pc = .ok (.invokespecial idx, 3)) (hf : 1 ≤ R.frames) (W : Nat) (hW : 2 * 0 + (st.map fun v => v.category).sum ≤ W) (hl : W + 12 ≤ R.locals) (k : ∀ T', Stand p l e R s m args below meth c T' locs cells slots → T'.heap = h → oc0 p.tables e below P (T'.setTop (mkF m (pc + 3) Ls st))) : oc0 p.tables e below P (T.setTop (mkF m pc Ls ((.ref a) :: st))) := by
  obtain ⟨T', X', e', sp⟩ := initO X hx hZ hown w1 w2 w3 eT (g := mkF m pc Ls ((.ref a) :: st)) rfl hsize rfl (hb hby hd) hf (W := W) hW hl
  exact od8 sp (k T' X' e')
theorem own_callS (X : Stand p l e R s m args below meth c T locs cells slots) (hx : p.tables.exec = Jvm.exec) (hZ : Z.Warmed39 s.vm) {own : String} {index : Nat} {y : MethodName} {bytes : ByteArray} {maxL : Nat} {ret : Option FieldType} {rm : Room} {Qc : Option Value → Heap → List Loc → Prop} {as' : Array Value} (hown : s.vm.findClass own = some m.cls) (w1 : (Cond.methodLink own index y).before a0 Z = true) (w2 : (Cond.static y).before a0 Z = true) (w3 : (Cond.initialized y.cls).before a0 Z = true) (w4 : (Cond.code y bytes maxL ret).before a0 Z = true) (hy : y.cls ≠ "java/lang/invoke/MethodHandle" ∧ y.cls ≠ "java/lang/invoke/VarHandle") (hM : MetFree l y (head1 [Cond.code y bytes maxL ret] rm) (fun a U => a = as' ∧ Z.Warmed39 U.vm ∧ U.heap = h) (fun _ _ _ _ _ => True) (fun _ U o U' => ∃ v L, o = .returned v ∧ Qc v U'.heap L ∧ FrameEnd U o U' L rm.cells rm.slots)) (W : Nat) (hW : 2 * 0 + (st.map fun v => v.category).sum ≤ W) (hf : rm.frames + 1 ≤ R.frames) (hl : W + (maxL + 11) + rm.locals ≤ R.locals) (hsize : Ls.size = c.maxLocals) {argsL stk : List Value} (hlen : ∀ sig, parseMethodDescriptor y.desc = some sig → argsL.length = sig.parameters.length) (hstk : stk = argsL.reverse ++ st) (has : argsL.toArray = as') (hc : cells + rm.cells ≤ R.cells) (hs : slots + rm.slots ≤ R.slots) (eT : T.heap = h) (hby : c.code = bc) (hd : decode bc pc = .ok (.invokestatic index, 3)) (k : ∀ T' v L, Stand p l e R s m args below meth c T' (locs ++ L) (cells + rm.cells) (slots + rm.slots) → Qc v T'.heap L → oc0 p.tables e below P (T'.setTop (mkF m (pc + 3) Ls (v.toList ++ st)))) : oc0 p.tables e below P (T.setTop (mkF m pc Ls stk)) := by
  subst hstk
  obtain ⟨v, _, ⟨T', L', k', n'⟩, -, X', ⟨L, hQ, hl', hy', hz'⟩, sp⟩ := Jvm.LawKit.callS X hx hown (mvT hZ w1) (mvT hZ w2) (mvT hZ w3) (mvT hZ w4) hy (backOf (W := W) hM hZ w4 w3 hf hl) (g := mkF m pc Ls (argsL.reverse ++ st)) rfl hsize (argsL := argsL) (rest := st) hlen rfl hW (hb hby hd) (fun _ _ => ⟨has, eT, hc, hs⟩)
  dsimp only [Pt.U, Pt.locs, Pt.cells, Pt.slots] at X' hl' hy' hz' sp hQ
  subst hl' hy' hz'
  exact od8 sp (k T' v L X' hQ)
theorem of0 (X : Stand p l e R s m args below meth c T locs cells slots) (hx : p.tables.exec = Jvm.exec) (hZ : Z.Warmed39 s.vm) {own : String} {index : Nat} {y : MethodName} {bytes : ByteArray} {maxL : Nat} {rm : Room} {Qc : Option Value → Heap → List Loc → Prop} {as' : Array Value} (hy1 : y.name = "<init>") (hown : s.vm.findClass own = some m.cls) (w1 : (Cond.methodLink own index y).before a0 Z = true) (w2 : (Cond.instanceMethod y).before a0 Z = true) (w3 : (Cond.initialized y.cls).before a0 Z = true) (w4 : (Cond.code y bytes maxL none).before a0 Z = true) (hy : y.cls ≠ "java/lang/invoke/MethodHandle" ∧ y.cls ≠ "java/lang/invoke/VarHandle") (hM : MetFree l y (head1 [Cond.code y bytes maxL none] rm) (fun a U => a = as' ∧ Z.Warmed39 U.vm ∧ U.heap = h) (fun _ _ _ _ _ => True) (fun _ U o U' => ∃ v L, o = .returned v ∧ Qc v U'.heap L ∧ FrameEnd U o U' L rm.cells rm.slots)) (W : Nat) (hW : 2 * 0 + (st.map fun v => v.category).sum ≤ W) (hf : rm.frames + 1 ≤ R.frames) (hl : W + (maxL + 11) + rm.locals ≤ R.locals) (hsize : Ls.size = c.maxLocals) {argsL stk : List Value} {a : Addr} (hlen : ∀ sig, parseMethodDescriptor y.desc = some sig → argsL.length = sig.parameters.length) (hstk : stk = argsL.reverse ++ (.ref a) :: st) (has : ((.ref a) :: argsL).toArray = as') (hc : cells + rm.cells ≤ R.cells) (hs : slots + rm.slots ≤ R.slots) (eT : T.heap = h) (hby : c.code = bc) (hd : decode bc pc = .ok (.invokespecial index, 3)) (k : ∀ T' v L, Stand p l e R s m args below meth c T' (locs ++ L) (cells + rm.cells) (slots + rm.slots) → Qc v T'.heap L → oc0 p.tables e below P (T'.setTop (mkF m (pc + 3) Ls (v.toList ++ st)))) : oc0 p.tables e below P (T.setTop (mkF m pc Ls stk)) := by
  subst hstk
  obtain ⟨v, _, ⟨T', L', k', n'⟩, -, X', ⟨L, hQ, hl', hy', hz'⟩, sp⟩ := X.specialBack hx hy1 hown (mvT hZ w1) (mvT hZ w2) (mvT hZ w4) hy (backOf (W := W) hM hZ w4 w3 hf hl) (g := mkF m pc Ls (argsL.reverse ++ (.ref a) :: st)) rfl hsize (Steps.refl _) (a := a) (argsL := argsL) (rest := st) hlen rfl hW (hb hby hd) (fun _ _ => ⟨has, eT, hc, hs⟩)
  dsimp only [Pt.U, Pt.locs, Pt.cells, Pt.slots] at X' hl' hy' hz' sp hQ
  subst hl' hy' hz'
  exact od8 (fun t q => sp.trans q) (k T' v L X' hQ)
theorem own_virtual (X : Stand p l e R s m args below meth c T locs cells slots) (hx : p.tables.exec = Jvm.exec) (hZ : Z.Warmed39 s.vm) {own C : String} {index : Nat} {y z : MethodName} {bytes : ByteArray} {maxL : Nat} {ret : Option FieldType} {rm : Room} {Qc : Option Value → Heap → List Loc → Prop} {as' : Array Value} (hown : s.vm.findClass own = some m.cls) (w1 : (Cond.methodLink own index y).before a0 Z = true) (w2 : (Cond.declares y).before a0 Z = true) (nf : NotFace s y) (w5 : (Cond.selects C y z).before a0 Z = true) (w6 : (Cond.instanceMethod z).before a0 Z = true) (w3 : (Cond.initialized z.cls).before a0 Z = true) (w4 : (Cond.code z bytes maxL ret).before a0 Z = true) (hy : y.cls ≠ "java/lang/invoke/MethodHandle" ∧ y.cls ≠ "java/lang/invoke/VarHandle") (hM : MetFree l z (head1 [Cond.code z bytes maxL ret] rm) (fun a U => a = as' ∧ Z.Warmed39 U.vm ∧ U.heap = h) (fun _ _ _ _ _ => True) (fun _ U o U' => ∃ v L, o = .returned v ∧ Qc v U'.heap L ∧ FrameEnd U o U' L rm.cells rm.slots)) (W : Nat) (hW : 2 * 0 + (st.map fun v => v.category).sum ≤ W) (hf : rm.frames + 1 ≤ R.frames) (hl : W + (maxL + 11) + rm.locals ≤ R.locals) (hsize : Ls.size = c.maxLocals) {argsL stk : List Value} {a : Addr} (E : Exa Z h a C) (hlen : ∀ sig, parseMethodDescriptor y.desc = some sig → argsL.length = sig.parameters.length) (hstk : stk = argsL.reverse ++ (.ref a) :: st) (has : ((.ref a) :: argsL).toArray = as') (hc : cells + rm.cells ≤ R.cells) (hs : slots + rm.slots ≤ R.slots) (eT : T.heap = h) (hby : c.code = bc) (hd : decode bc pc = .ok (.invokevirtual index, 3)) (k : ∀ T' v L, Stand p l e R s m args below meth c T' (locs ++ L) (cells + rm.cells) (slots + rm.slots) → Qc v T'.heap L → oc0 p.tables e below P (T'.setTop (mkF m (pc + 3) Ls (v.toList ++ st)))) : oc0 p.tables e below P (T.setTop (mkF m pc Ls stk)) := by
  subst hstk
  obtain ⟨cq, kq, qa, qb, qc⟩ := isOf hZ eT E
  obtain ⟨v, _, ⟨T', L', k', n'⟩, -, X', ⟨L, hQ, hl', hy', hz'⟩, sp⟩ := X.virtualBack hx hown (mvT hZ w1) (mvT hZ w2) nf (mvT hZ w5) (mvT hZ w6) hy (backOf (W := W) hM hZ w4 w3 hf hl) qa qc (g := mkF m pc Ls (argsL.reverse ++ (.ref a) :: st)) rfl hsize (Steps.refl _) (argsL := argsL) (rest := st) hlen rfl hW (hb hby hd) (fun _ _ => ⟨has, eT, hc, hs⟩)
  dsimp only [Pt.U, Pt.locs, Pt.cells, Pt.slots] at X' hl' hy' hz' sp hQ
  subst hl' hy' hz'
  exact od8 (fun t q => sp.trans q) (k T' v L X' hQ)
theorem oa3 (X : Stand p l e R s m args below meth c T locs cells slots) (hx : p.tables.exec = Jvm.exec) (hZ : Z.Warmed39 s.vm) {own : String} {index : Nat} {y : MethodName} {bytes : ByteArray} {maxL : Nat} {ret : Option FieldType} {rm : Room} {Qc : Option Value → Heap → List Loc → Prop} {as' : Array Value} (hown : s.vm.findClass own = some m.cls) (w1 : (Cond.methodLink own index y).before a0 Z = true) (w2 : (Cond.static y).before a0 Z = true) (w3 : (Cond.initialized y.cls).before a0 Z = true) (w4 : (Cond.code y bytes maxL ret).before a0 Z = true) (hy : y.cls ≠ "java/lang/invoke/MethodHandle" ∧ y.cls ≠ "java/lang/invoke/VarHandle") (hM : MetFree l y (head1 [Cond.code y bytes maxL ret] rm) (fun a U => a = as' ∧ Z.Warmed39 U.vm ∧ U.heap = h) (fun _ _ _ _ _ => True) (fun _ U o U' => ∃ v L, o = .returned v ∧ Qc v U'.heap L ∧ FrameEnd U o U' L rm.cells rm.slots)) (W : Nat) {ML : Nat} (hml : c.maxLocals = ML) (hsz : Ls.size = ML) {argsL stk : List Value} (hlen : ∀ sig, parseMethodDescriptor y.desc = some sig → argsL.length = sig.parameters.length) (hstk : stk = argsL.reverse ++ st) (has : argsL.toArray = as') (eT : T.heap = h) (hby : c.code = bc) (hd : decode bc pc = .ok (.invokestatic index, 3)) (k : ∀ T' v L, Stand p l e R s m args below meth c T' (locs ++ L) (cells + rm.cells) (slots + rm.slots) → Qc v T'.heap L → oc0 p.tables e below P (T'.setTop (mkF m (pc + 3) Ls (v.toList ++ st)))) (hW : 2 * 0 + (st.map fun v => v.category).sum ≤ W := by exact Nat.le_of_eq rfl) (hf : rm.frames + 1 ≤ R.frames := by decide) (hl : W + (maxL + 11) + rm.locals ≤ R.locals := by decide) (hc : cells + rm.cells ≤ R.cells := by decide) (hs : slots + rm.slots ≤ R.slots := by decide) : oc0 p.tables e below P (T.setTop (mkF m pc Ls stk)) := own_callS X hx hZ hown w1 w2 w3 w4 hy hM W hW hf hl (by rw [hml]; exact hsz) (argsL := argsL) (st := st) hlen hstk has hc hs eT hby hd k
theorem ob6 (X : Stand p l e R s m args below meth c T locs cells slots) (hx : p.tables.exec = Jvm.exec) (hZ : Z.Warmed39 s.vm) {own C : String} {index : Nat} {y z : MethodName} {bytes : ByteArray} {maxL : Nat} {ret : Option FieldType} {rm : Room} {Qc : Option Value → Heap → List Loc → Prop} {as' : Array Value} (hown : s.vm.findClass own = some m.cls) (w1 : (Cond.methodLink own index y).before a0 Z = true) (w2 : (Cond.declares y).before a0 Z = true) (nf : NotFace s y) (w5 : (Cond.selects C y z).before a0 Z = true) (w6 : (Cond.instanceMethod z).before a0 Z = true) (w3 : (Cond.initialized z.cls).before a0 Z = true) (w4 : (Cond.code z bytes maxL ret).before a0 Z = true) (hy : y.cls ≠ "java/lang/invoke/MethodHandle" ∧ y.cls ≠ "java/lang/invoke/VarHandle") (hM : MetFree l z (head1 [Cond.code z bytes maxL ret] rm) (fun a U => a = as' ∧ Z.Warmed39 U.vm ∧ U.heap = h) (fun _ _ _ _ _ => True) (fun _ U o U' => ∃ v L, o = .returned v ∧ Qc v U'.heap L ∧ FrameEnd U o U' L rm.cells rm.slots)) (W : Nat) {ML : Nat} (hml : c.maxLocals = ML) (hsz : Ls.size = ML) {argsL stk : List Value} {a : Addr} (E : Exa Z h a C) (hlen : ∀ sig, parseMethodDescriptor y.desc = some sig → argsL.length = sig.parameters.length) (hstk : stk = argsL.reverse ++ (.ref a) :: st) (has : ((.ref a) :: argsL).toArray = as') (eT : T.heap = h) (hby : c.code = bc) (hd : decode bc pc = .ok (.invokevirtual index, 3)) (k : ∀ T' v L, Stand p l e R s m args below meth c T' (locs ++ L) (cells + rm.cells) (slots + rm.slots) → Qc v T'.heap L → oc0 p.tables e below P (T'.setTop (mkF m (pc + 3) Ls (v.toList ++ st)))) (hW : 2 * 0 + (st.map fun v => v.category).sum ≤ W := by exact Nat.le_of_eq rfl) (hf : rm.frames + 1 ≤ R.frames := by decide) (hl : W + (maxL + 11) + rm.locals ≤ R.locals := by decide) (hc : cells + rm.cells ≤ R.cells := by decide) (hs : slots + rm.slots ≤ R.slots := by decide) : oc0 p.tables e below P (T.setTop (mkF m pc Ls stk)) := own_virtual X hx hZ hown w1 w2 nf w5 w6 w3 w4 hy hM W hW hf hl (by rw [hml]; exact hsz) (argsL := argsL) (st := st) E hlen hstk has hc hs eT hby hd k
theorem own_specialB (X : Stand p l e R s m args below meth c T locs cells slots) (hx : p.tables.exec = Jvm.exec) (hZ : Z.Warmed39 s.vm) {own : String} {index : Nat} {y : MethodName} {bytes : ByteArray} {maxL W : Nat} (hy1 : y.name = "<init>") (hown : s.vm.findClass own = some m.cls) (w1 : (Cond.methodLink own index y).before a0 Z = true) (w2 : (Cond.instanceMethod y).before a0 Z = true) (w4 : (Cond.code y bytes maxL none).before a0 Z = true) (hy : y.cls ≠ "java/lang/invoke/MethodHandle" ∧ y.cls ≠ "java/lang/invoke/VarHandle") {Qc : Option Value → Heap → List Loc → Prop} {as' : Array Value} {kc ks : Nat} (hK : Back l R p e below s args y 3 W (fun A a => a = as' ∧ A.U.heap = h ∧ A.cells + kc ≤ R.cells ∧ A.slots + ks ≤ R.slots) (fun A _ v B => ∃ L, Qc v B.U.heap L ∧ B.locs = A.locs ++ L ∧ B.cells = A.cells + kc ∧ B.slots = A.slots + ks)) (hW : 2 * 0 + (st.map fun v => v.category).sum ≤ W) (hsize : Ls.size = c.maxLocals) {argsL stk : List Value} {a : Addr} (hlen : ∀ sig, parseMethodDescriptor y.desc = some sig → argsL.length = sig.parameters.length) (hstk : stk = argsL.reverse ++ (.ref a) :: st) (has : ((.ref a) :: argsL).toArray = as') (hc : cells + kc ≤ R.cells) (hs : slots + ks ≤ R.slots) (eT : T.heap = h) (hby : c.code = bc) (hd : decode bc pc = .ok (.invokespecial index, 3)) (k : ∀ T' v L, Stand p l e R s m args below meth c T' (locs ++ L) (cells + kc) (slots + ks) → Qc v T'.heap L → oc0 p.tables e below P (T'.setTop (mkF m (pc + 3) Ls (v.toList ++ st)))) : oc0 p.tables e below P (T.setTop (mkF m pc Ls stk)) := by
  subst hstk
  obtain ⟨v, _, ⟨T', L', k', n'⟩, -, X', ⟨L, hQ, hl', hy', hz'⟩, sp⟩ := X.specialBack hx hy1 hown (mvT hZ w1) (mvT hZ w2) (mvT hZ w4) hy hK (g := mkF m pc Ls (argsL.reverse ++ (.ref a) :: st)) rfl hsize (Steps.refl _) (a := a) (argsL := argsL) (rest := st) hlen rfl hW (hb hby hd) (fun _ _ => ⟨has, eT, hc, hs⟩)
  dsimp only [Pt.U, Pt.locs, Pt.cells, Pt.slots] at X' hl' hy' hz' sp hQ
  subst hl' hy' hz'
  exact od8 (fun t q => sp.trans q) (k T' v L X' hQ)
theorem own_ldcCH {vm0 : Vm} (X : Stand p l e R (s.setVm vm0) m args below meth c T locs cells slots) (hx : p.tables.exec = Jvm.exec) (hZ : Z.Warmed39 vm0) {own text : String} {index : Nat} {EL : List (String × Nat)} (hEL : EW Z a0 EL) (hown : vm0.findClass own = some m.cls) (w : (Cond.stringLink own index text).before a0 Z = true) (wS : ∀ a ∈ Bundle.stringAtoms, a.before a0 Z = true) (eT : T.heap = h) {k0 : Nat} (hS : s.Since vm0 k0) (hk : k0 ≤ h.size) (H : CHv Z EL vm0 h) (hmem : (own, index) ∈ EL) {vs : List Value} {z : Int32} (ht : (∀ c ∈ text.toList, c.toNat < 256) ∧ text.toList.map (fun c => Value.int (Jvm.Lit.byteI c.toNat.toUInt16)) = vs) (hz : ¬ z < 0) (hl : z.toNatClampNeg = vs.length) (hby : c.code = bc) (hd : decode bc pc = .ok (.ldc index, 2)) (n : Nat) (hn : 4 * text.toList.length ≤ n) (hbig : n ≤ 536870912) (hc : cells + 2 ≤ R.cells) (hl' : slots + (n + 4) ≤ R.slots) (k : ∀ a T' h' k1 vm1 b kb, Stand p l e R (s.setVm vm1) m args below meth c T' locs (cells + 2) (slots + (n + 4)) → T'.heap = h' → Ext h h' → s.Since vm1 k1 → k1 ≤ h'.size → Z.Warmed39 vm1 → vm1.findClass own = some m.cls → Exa Z h' a "java/lang/String" → Fld Z h' a "java/lang/String" "coder" "B" (.int 0) → Fld Z h' a "java/lang/String" "value" "[B" (.ref b) → Arv Z h' b kb .byte z vs (.int 0) → a < h'.size → b < h'.size → CHr Z EL vm0 h vm1 h' → (∀ x, Safe Z EL vm1 h' x → x ≠ a ∧ x ≠ b) → oc0 p.tables e below P (T'.setTop (mkF m (pc + 2) Ls ((.ref a) :: st)))) : oc0 p.tables e below P (T.setTop (mkF m pc Ls st)) := by
  obtain ⟨a, T', h', k1, b, kb, X', e', E, hS', hk', hZ', hown', q1, q2, q3, q4, q5, q6, q7, -, q8, sp⟩ := ldcCH X hx hZ hown w wS eT hS hk hEL hmem H ht hz hl (g := mkF m pc Ls st) rfl (hb hby hd) hn hbig hc hl'
  exact od8 sp (k a T' h' k1 T'.vm b kb X' e' E hS' hk' hZ' hown' q1 q2 q3 q4 q5 q6 q7 q8)
theorem own_specialH {vm0 : Vm} (X : Stand p l e R (s.setVm vm0) m args below meth c T locs cells slots) (hx : p.tables.exec = Jvm.exec) (hZ : Z.Warmed39 vm0) {EL : List (String × Nat)} (hEL : EW Z a0 EL) {own : String} {index : Nat} {y : MethodName} {bytes : ByteArray} {maxL : Nat} {rm : Room} {Qc : Option Value → Heap → List Loc → Prop} {as' : Array Value} (hy1 : y.name = "<init>") (hown : vm0.findClass own = some m.cls) (w1 : (Cond.methodLink own index y).before a0 Z = true) (w2 : (Cond.instanceMethod y).before a0 Z = true) (w3 : (Cond.initialized y.cls).before a0 Z = true) (w4 : (Cond.code y bytes maxL none).before a0 Z = true) (hy : y.cls ≠ "java/lang/invoke/MethodHandle" ∧ y.cls ≠ "java/lang/invoke/VarHandle") (hM : MetFree l y (head1 [Cond.code y bytes maxL none] rm) (fun a U => a = as' ∧ Z.Warmed39 U.vm ∧ U.heap = h ∧ CHv Z EL U.vm h) (fun _ _ _ _ _ => True) (fun _ U o U' => ∃ v L, o = .returned v ∧ Qc v U'.heap L ∧ CHr Z EL U.vm U.heap U'.vm U'.heap ∧ ReturnedEndW U o U' L rm.cells rm.slots)) (W : Nat) (hW : 2 * 0 + (st.map fun v => v.category).sum ≤ W) (hf : rm.frames + 1 ≤ R.frames) (hl : W + (maxL + 11) + rm.locals ≤ R.locals) (hsize : Ls.size = c.maxLocals) {argsL stk : List Value} {a : Addr} (hlen : ∀ sig, parseMethodDescriptor y.desc = some sig → argsL.length = sig.parameters.length) (hstk : stk = argsL.reverse ++ (.ref a) :: st) (has : ((.ref a) :: argsL).toArray = as') (hc : cells + rm.cells ≤ R.cells) (hs : slots + rm.slots ≤ R.slots) (eT : T.heap = h) (hby : c.code = bc) (H : CHv Z EL vm0 h) {k0 : Nat} (hS : s.Since vm0 k0) (hk : k0 ≤ h.size) (hd : decode bc pc = .ok (.invokespecial index, 3)) (k : ∀ T' v L vm1, Stand p l e R (s.setVm vm1) m args below meth c T' (locs ++ L) (cells + rm.cells) (slots + rm.slots) → s.Since vm1 T'.heap.size → Z.Warmed39 vm1 → vm1.findClass own = some m.cls → h.size ≤ T'.heap.size → CHr Z EL vm0 h vm1 T'.heap → Qc v T'.heap L → oc0 p.tables e below P (T'.setTop (mkF m (pc + 3) Ls (v.toList ++ st)))) : oc0 p.tables e below P (T.setTop (mkF m pc Ls stk)) := by
  subst hstk
  obtain ⟨v, _, ⟨T', L', k', n'⟩, -, X', h2', hg', ⟨L, hQ, hl', hy', hz', hC'⟩, sp⟩ := X.specialBackS hx hy1 hown (mvT (s := s.setVm vm0) hZ w1) (mvT (s := s.setVm vm0) hZ w2) (mvT (s := s.setVm vm0) hZ w4) hy (backOfSH (s := s) (W := W) hM hZ w4 w3 hf hl hEL H) (g := mkF m pc Ls (argsL.reverse ++ (.ref a) :: st)) rfl hsize (Steps.refl _) (a := a) (argsL := argsL) (rest := st) hlen rfl hW (hb hby hd) (fun _ _ => ⟨has, eT, hc, hs⟩)
  dsimp only [Pt.U, Pt.locs, Pt.cells, Pt.slots] at X' h2' hg' hl' hy' hz' hC' sp hQ
  subst hl' hy' hz'
  obtain ⟨r1, r2, r3, r4⟩ := rebS (Z := Z) (own := own) hS hk X' h2' (by rw [← eT]; exact hg') hZ hown
  exact od8 (fun t q => sp.trans q) (k T' v L _ r1 r2 r3 r4 (by rw [← eT]; exact hg') hC' hQ)
end OwnGo
theorem ob {Z : State} {h h' : Heap} {C n d : String} {v : Value} {ws : List Addr} (F : Sta Z h C n d v) (K : Keep h h' ws) (q : ∀ x ∈ ws, ∀ cell : Cell, h[x]? = some cell → cell.vm.isStatics = false) : Sta Z h' C n d v := by
  obtain ⟨cf, i, k, f, st, cell, h1, h2, h3, h4, h5, h6, h7⟩ := F
  refine ⟨cf, i, k, f, st, cell, h1, h2, h3, h4, K.2.1 st cell h5 fun hm => ?_, h6, h7⟩
  rw [q st hm cell h5] at h6; cases h6
theorem ob5 {Z : State} {h : Heap} {a : Addr} {C : String} (F : Exa Z h a C) : ∀ cell : Cell, h[a]? = some cell → cell.vm.isStatics = false := fun cell hc => by
  obtain ⟨c', k, h1, h2, h3, h4, h5⟩ := F
  cases h1.symm.trans hc; exact h4
theorem of2 {Z : State} {h : Heap} {a : Addr} {k : ClassId} {ty : FieldType} {n : Int32} {vs : List Value} {d : Value} (F : Arv Z h a k ty n vs d) : ∀ cell : Cell, h[a]? = some cell → cell.vm.isStatics = false := fun cell hc => by
  obtain ⟨c', A, -⟩ := F
  cases A.1.symm.trans hc; exact A.plain
theorem oe5 {Z : State} {EL : List (String × Nat)} {vm : Vm} {h : Heap} {x : Addr} (hal : Z.vm.Alike vm) (E : Exa Z h x "java/lang/String") (F : Fld Z h x "java/lang/String" "value" "[B" .null) : Safe Z EL vm h x := fun B => by
  obtain ⟨cell, k, e1, e2, e3, -, -⟩ := E
  have nm : ∀ {n : String} {c : ClassId}, vm.findClass n = some c → c = cell.cls → n = "java/lang/String" := fun {n c} f e => by
    subst e
    rw [hal.findClass] at f
    obtain ⟨k1, q1, q2⟩ := Vm.findClass_spec f
    obtain ⟨k2, q3, q4⟩ := Vm.findClass_spec e2
    cases q1.symm.trans q3
    exact q2.symm.trans q4
  obtain ⟨cl, c', k', i', f', g1, g2, -, -, -, -, g7⟩ := F
  obtain ⟨p, -, u, a, -, q, -, G, rfl | rfl⟩ := B
  · cases (show h[q.sa]? = some q.sC from G.ha).symm.trans g1
    obtain ⟨cS, ⟨⟨-, -, -, ⟨c1, k1, i1, f1, -⟩, -, -, -, v1, -⟩, -⟩, -⟩ := G
    obtain ⟨k3, h3, -⟩ := State.fieldFound?_setVm (s := Z) hal g2
    have e4 := (show (Wst Z vm h).fieldFound? _ _ _ = _ from h3).symm.trans f1
    simp only [Option.some.injEq, Prod.mk.injEq] at e4
    rw [← e4.2.2.2, g7] at v1
    simp at v1
  · cases (show h[q.sd]? = some q.SA from G.hd).symm.trans e1
    obtain ⟨cS, -, -, f, -⟩ := G
    exact absurd (nm f rfl) (by decide)
theorem own_ne_aa {Z : State} {h : Heap} {a b : Addr} {k k' : ClassId} {ty ty' : FieldType} {n n' : Int32} {vs vs' : List Value} {d d' : Value} (F : Arv Z h a k ty n vs d) (G : Arv Z h b k' ty' n' vs' d') (q : ty ≠ ty') : a ≠ b := by
  intro e
  subst e
  obtain ⟨c, A, -⟩ := F
  obtain ⟨c', B, -⟩ := G
  cases A.1.symm.trans B.1
  obtain ⟨-, k1, e1, comp, e2⟩ := A.2.1
  obtain ⟨-, k2, f1, comp', f2⟩ := B.2.1
  cases e1.symm.trans f1
  rw [e2] at f2
  cases f2
  exact q rfl
set_option maxRecDepth 65536
set_option maxHeartbeats 40000000
theorem own_narc (y : Int32) : nar .char ((y &&& (255 : Int32)).toUInt32.toUInt16.toUInt32.toInt32) = (y &&& (255 : Int32)) := by
  rw [i2c_mask]
  exact i2c_mask y
theorem own_c255 (y : Int32) : ¬ (y &&& (255 : Int32)) < 0 ∧ ¬ (255 : Int32) < (y &&& (255 : Int32)) := by
  have h := c_and y (255 : Int32) (by decide)
  have a : (255 : Int32).toInt = 255 := by decide
  have b : (0 : Int32).toInt = 0 := by decide
  rw [Int32.lt_iff_toInt_lt, Int32.lt_iff_toInt_lt, b]
  omega
theorem own_l0 {P : Int32 → Prop} : ∀ c ∈ ([] : List Int32), P c := fun _ h => nomatch h
theorem own_lS {P : Int32 → Prop} {y : Int32} {L : List Int32} (q : P y) (r : ∀ c ∈ L, P c) : ∀ c ∈ y :: L, P c := fun c h => (List.mem_cons.mp h).elim (fun e => e ▸ q) (r c)
theorem of4 (c : Int32) : nar .byte (c.toInt8.toInt32) = (c.toInt8.toInt32) := by
  show c.toInt8.toInt32.toInt8.toInt32 = c.toInt8.toInt32
  rw [Int8.toInt8_toInt32]
theorem og6 (c : Int32) (h0 : ¬ (c < (0 : Int32))) (h1 : ¬ ((255 : Int32) < c)) : ((c.toInt8.toInt32) &&& (255 : Int32)) = c := by
  have a : (255 : Int32).toInt = 255 := by decide
  have b : (0 : Int32).toInt = 0 := by decide
  rw [Int32.lt_iff_toInt_lt, b] at h0
  rw [Int32.lt_iff_toInt_lt, a] at h1
  have h2 := c_mask (c.toInt8.toInt32) 255 8 (by decide) (by decide)
  have h3 := c_i2b c
  have h4 : ((2 ^ 8 : Nat) : Int) = 256 := by decide
  rw [h4] at h2
  apply Int32.toInt_inj.mp
  omega
theorem own_nar8 (c : Int32) (h0 : ¬ (c < (0 : Int32))) (h1 : ¬ ((255 : Int32) < c)) : nar .char c = c := by
  have e := og6 c h0 h1
  have q := i2c_mask (c.toInt8.toInt32)
  rw [e] at q
  exact q
theorem own_chr8 (c : Int32) (h0 : ¬ (c < (0 : Int32))) (h1 : ¬ ((255 : Int32) < c)) : nar .char ((((c.toInt8.toInt32)) &&& (255 : Int32)).toUInt32.toUInt16.toUInt32.toInt32) = c := by
  rw [i2c_mask, og6 c h0 h1]
  exact own_nar8 c h0 h1
theorem own_and3 (x : Int32) : x &&& (3 : Int32) = (0 : Int32) ∨ x &&& (3 : Int32) = (1 : Int32) ∨ x &&& (3 : Int32) = (2 : Int32) ∨ x &&& (3 : Int32) = (3 : Int32) := by
  obtain ⟨h1, h2⟩ := c_and x 3 (by decide)
  have h3 : (3 : Int32).toInt = 3 := by decide
  rw [h3] at h2
  have h4 : (x &&& 3).toInt = 0 ∨ (x &&& 3).toInt = 1 ∨ (x &&& 3).toInt = 2 ∨ (x &&& 3).toInt = 3 := by omega
  rcases h4 with h | h | h | h
  · exact Or.inl (Int32.toInt_inj.mp (h.trans (by decide)))
  · exact Or.inr (Or.inl (Int32.toInt_inj.mp (h.trans (by decide))))
  · exact Or.inr (Or.inr (Or.inl (Int32.toInt_inj.mp (h.trans (by decide)))))
  · exact Or.inr (Or.inr (Or.inr (Int32.toInt_inj.mp (h.trans (by decide)))))
theorem own_eqI {args : Array Value} {first s : State} {o : Option Outcome} {idx : List Nat} {t : Term} {k : Int32} (h : (Cond.eq t (.int k)).value args first o s idx = some true) : t.eval args first o idx s = some (.int k) := by
  simp only [Cond.value, Term.eval] at h
  cases ht : t.eval args first o idx s with
  | none => simp [ht] at h
  | some x => cases x <;> simp [ht] at h ⊢ <;> exact h
def oa1 (x : Int32) : Int32 := if (((x.toUInt32 >>> ((16 : Int32) &&& 31).toUInt32).toInt32) &&& (1 : Int32)) = (0 : Int32) then nar .char ((x &&& (65535 : Int32)).toUInt32.toUInt16.toUInt32.toInt32) else nar .char (((55296 : Int32) ||| (x &&& (2047 : Int32))).toUInt32.toUInt16.toUInt32.toInt32)
theorem own_char16 (y : Int32) : ¬ (nar .char y < (0 : Int32)) ∧ ¬ ((65535 : Int32) < nar .char y) := by
  have h := c_i2c y
  have a : (65535 : Int32).toInt = 65535 := by decide
  have b : (0 : Int32).toInt = 0 := by decide
  rw [Int32.lt_iff_toInt_lt, Int32.lt_iff_toInt_lt, a, b]
  show ¬ y.toUInt32.toUInt16.toUInt32.toInt32.toInt < 0 ∧ ¬ 65535 < y.toUInt32.toUInt16.toUInt32.toInt32.toInt
  omega
theorem ob9 (x : Int32) : ¬ (oa1 x < (0 : Int32)) ∧ ¬ ((65535 : Int32) < oa1 x) := by
  unfold oa1
  split
  · exact own_char16 _
  · exact own_char16 _
theorem oe8 (c : Int32) (h0 : ¬ (c < (0 : Int32))) (h1 : ¬ ((65535 : Int32) < c)) : nar .char c = c := by
  have h := c_i2c c
  have a : (65535 : Int32).toInt = 65535 := by decide
  have b : (0 : Int32).toInt = 0 := by decide
  rw [Int32.lt_iff_toInt_lt, b] at h0
  rw [Int32.lt_iff_toInt_lt, a] at h1
  apply Int32.toInt_inj.mp
  show c.toUInt32.toUInt16.toUInt32.toInt32.toInt = _
  omega
def ob0 (c : Int32) : Int32 := if c = (9 : Int32) ∨ c = (10 : Int32) ∨ c = (13 : Int32) ∨ (¬ (c < (32 : Int32)) ∧ ¬ ((55295 : Int32) < c)) ∨ (¬ (c < (57344 : Int32)) ∧ ¬ ((65533 : Int32) < c)) then (1 : Int32) else (0 : Int32)
theorem of7 {c : Int32} (h : c = (9 : Int32) ∨ c = (10 : Int32) ∨ c = (13 : Int32) ∨ (¬ (c < (32 : Int32)) ∧ ¬ ((55295 : Int32) < c)) ∨ (¬ (c < (57344 : Int32)) ∧ ¬ ((65533 : Int32) < c))) : (1 : Int32) = ob0 c := (if_pos h).symm
theorem og1 {c : Int32} (h1 : ¬ (c = (9 : Int32))) (h2 : ¬ (c = (10 : Int32))) (h3 : ¬ (c = (13 : Int32))) (h4 : c < (32 : Int32) ∨ (55295 : Int32) < c) (h5 : c < (57344 : Int32) ∨ (65533 : Int32) < c) : (0 : Int32) = ob0 c := (if_neg (by
  rintro (h | h | h | ⟨h, h'⟩ | ⟨h, h'⟩)
  · exact h1 h
  · exact h2 h
  · exact h3 h
  · exact h4.elim h h'
  · exact h5.elim h h')).symm
def oc9 (c : Int32) : Int32 := if c < (55296 : Int32) ∨ (56319 : Int32) < c then (0 : Int32) else (1 : Int32)
def od7 (c : Int32) : Int32 := if c < (56320 : Int32) ∨ (57343 : Int32) < c then (0 : Int32) else (1 : Int32)
theorem own_hi0 {c : Int32} (h : c < (55296 : Int32) ∨ (56319 : Int32) < c) : (0 : Int32) = oc9 c := (if_pos h).symm
theorem own_hi1 {c : Int32} (h : ¬ (c < (55296 : Int32))) (h' : ¬ ((56319 : Int32) < c)) : (1 : Int32) = oc9 c := (if_neg (fun q => q.elim h h')).symm
theorem own_lo0 {c : Int32} (h : c < (56320 : Int32) ∨ (57343 : Int32) < c) : (0 : Int32) = od7 c := (if_pos h).symm
theorem own_lo1 {c : Int32} (h : ¬ (c < (56320 : Int32))) (h' : ¬ ((57343 : Int32) < c)) : (1 : Int32) = od7 c := (if_neg (fun q => q.elim h h')).symm
theorem own_56320 (c : Int32) : (¬ (c < (56320 : Int32)) → (56319 : Int32) < c) ∧ (c < (56320 : Int32) → ¬ ((56319 : Int32) < c)) := by
  have a : (56319 : Int32).toInt = 56319 := by decide
  have b : (56320 : Int32).toInt = 56320 := by decide
  rw [Int32.lt_iff_toInt_lt, Int32.lt_iff_toInt_lt, a, b]
  omega
theorem own_57344 (c : Int32) : (¬ (c < (57344 : Int32)) → (57343 : Int32) < c) ∧ (c < (57344 : Int32) → ¬ ((57343 : Int32) < c)) := by
  have a : (57343 : Int32).toInt = 57343 := by decide
  have b : (57344 : Int32).toInt = 57344 := by decide
  rw [Int32.lt_iff_toInt_lt, Int32.lt_iff_toInt_lt, a, b]
  omega
theorem of9 (c : Int32) (h1 : ¬ ((65535 : Int32) < c)) : c < (65536 : Int32) := by
  have a : (65535 : Int32).toInt = 65535 := by decide
  have b : (65536 : Int32).toInt = 65536 := by decide
  rw [Int32.lt_iff_toInt_lt, a] at h1
  rw [Int32.lt_iff_toInt_lt, b]
  omega
theorem own_le16 (c : Int32) (h1 : ¬ ((255 : Int32) < c)) : ¬ ((65535 : Int32) < c) := by
  have a : (65535 : Int32).toInt = 65535 := by decide
  have b : (255 : Int32).toInt = 255 := by decide
  rw [Int32.lt_iff_toInt_lt, b] at h1
  rw [Int32.lt_iff_toInt_lt, a]
  omega
def od1 (c d : Int32) : Bool := decide (oc9 c = (1 : Int32)) && decide (od7 d = (1 : Int32))
theorem own_hi01 (c : Int32) (h : ¬ (oc9 c = (0 : Int32))) : oc9 c = (1 : Int32) := by
  unfold oc9 at h ⊢
  split
  · rename_i q
    rw [if_pos q] at h
    exact absurd rfl h
  · rfl
theorem own_lo01 (c : Int32) (h : ¬ (od7 c = (0 : Int32))) : od7 c = (1 : Int32) := by
  unfold od7 at h ⊢
  split
  · rename_i q
    rw [if_pos q] at h
    exact absurd rfl h
  · rfl
theorem own_pX {c d : Int32} (hp : od1 c d = false) (h : ¬ (oc9 c = (0 : Int32))) (h' : ¬ (od7 d = (0 : Int32))) : False := by
  unfold od1 at hp
  rw [own_hi01 c h, own_lo01 d h'] at hp
  exact absurd hp (by decide)
theorem og4 {c d : Int32} (hp : od1 c d = true) : oc9 c = (1 : Int32) ∧ od7 d = (1 : Int32) := by
  unfold od1 at hp
  simpa using hp
theorem og {x : Int32} (h : x = (1 : Int32)) : ¬ (x = (0 : Int32)) := by
  rw [h]
  decide
theorem own_hiB {c : Int32} (h : oc9 c = (1 : Int32)) : 55296 ≤ c.toInt ∧ c.toInt ≤ 56319 := by
  unfold oc9 at h
  split at h
  · exact absurd h (by decide)
  · rename_i q
    have a : (55296 : Int32).toInt = 55296 := by decide
    have b : (56319 : Int32).toInt = 56319 := by decide
    rw [Int32.lt_iff_toInt_lt, Int32.lt_iff_toInt_lt, a, b] at q
    omega
theorem own_loB {c : Int32} (h : od7 c = (1 : Int32)) : 56320 ≤ c.toInt ∧ c.toInt ≤ 57343 := by
  unfold od7 at h
  split at h
  · exact absurd h (by decide)
  · rename_i q
    have a : (56320 : Int32).toInt = 56320 := by decide
    have b : (57343 : Int32).toInt = 57343 := by decide
    rw [Int32.lt_iff_toInt_lt, Int32.lt_iff_toInt_lt, a, b] at q
    omega
theorem own_pLat {c d : Int32} (h : ¬ ((255 : Int32) < c)) : od1 c d = false := by
  have e : oc9 c = (0 : Int32) := (own_hi0 (Or.inl (by
    have a : (255 : Int32).toInt = 255 := by decide
    have b : (55296 : Int32).toInt = 55296 := by decide
    rw [Int32.lt_iff_toInt_lt, a] at h
    rw [Int32.lt_iff_toInt_lt, b]
    omega))).symm
  unfold od1
  rw [e, show decide ((0 : Int32) = (1 : Int32)) = false from by decide]
  rfl
def oc5 (c d : Int32) : Int32 := (((c <<< ((10 : Int32) &&& 31)) + d) + (-56613888 : Int32))
theorem own_tcpB {c d : Int32} (hp : od1 c d = true) : 65536 ≤ (oc5 c d).toInt ∧ (oc5 c d).toInt ≤ 1114111 := by
  have h := og4 hp
  have h1 := own_hiB h.1
  have h2 := own_loB h.2
  have h3 := c_ishl c (10 : Int32) 10 (by decide)
  have h4 : ((2 ^ 10 : Nat) : Int) = 1024 := by decide
  rw [h4] at h3
  have h5 := Int32.le_toInt (c <<< ((10 : Int32) &&& 31))
  have h6 := Int32.toInt_lt (c <<< ((10 : Int32) &&& 31))
  have e1 : (c <<< ((10 : Int32) &&& 31)).toInt = c.toInt * 1024 := by omega
  have e2 : ((c <<< ((10 : Int32) &&& 31)) + d).toInt = c.toInt * 1024 + d.toInt := by
    rw [Int32.toInt_add, e1]
    exact Int.bmod_eq_of_le_mul_two (by omega) (by omega)
  have e3 : (-56613888 : Int32).toInt = -56613888 := by decide
  have e4 : (oc5 c d).toInt = c.toInt * 1024 + d.toInt - 56613888 := by
    show (((c <<< ((10 : Int32) &&& 31)) + d) + (-56613888 : Int32)).toInt = _
    rw [Int32.toInt_add, e2, e3]
    exact (Int.bmod_eq_of_le_mul_two (by omega) (by omega)).trans (by omega)
  omega
theorem own_tcpN {c d : Int32} (hp : od1 c d = true) : ¬ (oc5 c d = (9 : Int32)) ∧ ¬ (oc5 c d = (10 : Int32)) ∧ ¬ (oc5 c d = (13 : Int32)) ∧ ¬ (oc5 c d < (32 : Int32)) ∧ (55295 : Int32) < oc5 c d ∧ ¬ (oc5 c d < (57344 : Int32)) ∧ (65533 : Int32) < oc5 c d ∧ ¬ (oc5 c d < (65536 : Int32)) ∧ ¬ ((1114111 : Int32) < oc5 c d) := by
  have h := own_tcpB hp
  have k1 : (9 : Int32).toInt = 9 := by decide
  have k2 : (10 : Int32).toInt = 10 := by decide
  have k3 : (13 : Int32).toInt = 13 := by decide
  have k4 : (32 : Int32).toInt = 32 := by decide
  have k5 : (55295 : Int32).toInt = 55295 := by decide
  have k6 : (57344 : Int32).toInt = 57344 := by decide
  have k7 : (65533 : Int32).toInt = 65533 := by decide
  have k8 : (65536 : Int32).toInt = 65536 := by decide
  have k9 : (1114111 : Int32).toInt = 1114111 := by decide
  refine ⟨fun q => ?_, fun q => ?_, fun q => ?_, ?_, ?_, ?_, ?_, ?_, ?_⟩
  · rw [q, k1] at h; omega
  · rw [q, k2] at h; omega
  · rw [q, k3] at h; omega
  · rw [Int32.lt_iff_toInt_lt, k4]; omega
  · rw [Int32.lt_iff_toInt_lt, k5]; omega
  · rw [Int32.lt_iff_toInt_lt, k6]; omega
  · rw [Int32.lt_iff_toInt_lt, k7]; omega
  · rw [Int32.lt_iff_toInt_lt, k8]; omega
  · rw [Int32.lt_iff_toInt_lt, k9]; omega
theorem own_gc (c : Int32) (h0 : ¬ (c < (0 : Int32))) (h1 : ¬ ((65535 : Int32) < c)) : nar .char ((((((c >>> ((0 : Int32) &&& 31)).toInt8.toInt32) &&& (255 : Int32)) <<< ((0 : Int32) &&& 31)) ||| ((((c >>> ((8 : Int32) &&& 31)).toInt8.toInt32) &&& (255 : Int32)) <<< ((8 : Int32) &&& 31))).toUInt32.toUInt16.toUInt32.toInt32) = c := by
  have a : (65535 : Int32).toInt = 65535 := by decide
  have b : (0 : Int32).toInt = 0 := by decide
  rw [Int32.lt_iff_toInt_lt, b] at h0
  rw [Int32.lt_iff_toInt_lt, a] at h1
  have p0 : ((2 ^ 0 : Nat) : Int) = 1 := by decide
  have p8 : ((2 ^ 8 : Nat) : Int) = 256 := by decide
  have r0 := c_ishr c (0 : Int32) 0 (by decide)
  have r8 := c_ishr c (8 : Int32) 8 (by decide)
  rw [p0] at r0
  rw [p8] at r8
  have b0 := c_i2b (c >>> ((0 : Int32) &&& 31))
  have b8 := c_i2b (c >>> ((8 : Int32) &&& 31))
  have m0 := c_mask ((c >>> ((0 : Int32) &&& 31)).toInt8.toInt32) 255 8 (by decide) (by decide)
  have m8 := c_mask ((c >>> ((8 : Int32) &&& 31)).toInt8.toInt32) 255 8 (by decide) (by decide)
  rw [p8] at m0 m8
  generalize (((c >>> ((0 : Int32) &&& 31)).toInt8.toInt32) &&& (255 : Int32)) = u at m0 ⊢
  generalize (((c >>> ((8 : Int32) &&& 31)).toInt8.toInt32) &&& (255 : Int32)) = v at m8 ⊢
  have s0 := c_ishl u (0 : Int32) 0 (by decide)
  have s8 := c_ishl v (8 : Int32) 8 (by decide)
  rw [p0] at s0
  rw [p8] at s8
  have l0 := Int32.le_toInt (u <<< ((0 : Int32) &&& 31))
  have l1 := Int32.toInt_lt (u <<< ((0 : Int32) &&& 31))
  have l2 := Int32.le_toInt (v <<< ((8 : Int32) &&& 31))
  have l3 := Int32.toInt_lt (v <<< ((8 : Int32) &&& 31))
  have eu : u.toInt = c.toInt % 256 := by omega
  have ev : v.toInt = c.toInt / 256 := by omega
  have f0 : (u <<< ((0 : Int32) &&& 31)).toInt = u.toInt := by omega
  have f8 : (v <<< ((8 : Int32) &&& 31)).toInt = v.toInt * 256 := by omega
  have o := c_or' (u <<< ((0 : Int32) &&& 31)) (v <<< ((8 : Int32) &&& 31)) 8 (by decide) 256 (by decide) (by omega) (by omega) (by omega)
  have o1 := Int32.le_toInt ((u <<< ((0 : Int32) &&& 31)) ||| (v <<< ((8 : Int32) &&& 31)))
  have o2 := Int32.toInt_lt ((u <<< ((0 : Int32) &&& 31)) ||| (v <<< ((8 : Int32) &&& 31)))
  have eo : ((u <<< ((0 : Int32) &&& 31)) ||| (v <<< ((8 : Int32) &&& 31))) = c := by
    apply Int32.toInt_inj.mp
    omega
  rw [eo]
  have h0' : ¬ (c < (0 : Int32)) := by rw [Int32.lt_iff_toInt_lt, b]; exact h0
  have h1' : ¬ ((65535 : Int32) < c) := by rw [Int32.lt_iff_toInt_lt, a]; exact h1
  have e := oe8 c h0' h1'
  have e' : c.toUInt32.toUInt16.toUInt32.toInt32 = c := e
  rw [e']
  exact e
def oe0 (i : Int32) (c : Int32) : Int32 := if ob0 c = (0 : Int32) then i else (-1 : Int32)
def od9 (i j : Int32) (c d : Int32) : Int32 := if od1 c d = true then (-1 : Int32) else if ob0 c = (0 : Int32) then i else oe0 j d
def od6 (c d e : Int32) : Int32 := if od1 c d = true then oe0 (2 : Int32) e else if ob0 c = (0 : Int32) then (0 : Int32) else od9 (1 : Int32) (2 : Int32) d e
theorem own_ok01 (c : Int32) (h : ¬ (ob0 c = (0 : Int32))) : ob0 c = (1 : Int32) := by
  unfold ob0 at h ⊢
  split
  · rfl
  · rename_i q
    rw [if_neg q] at h
    exact absurd rfl h
theorem oe4 {b : Bool} (h : b = false) : ¬ (b = true) := by
  rw [h]
  decide
theorem ef_strE4 (m : MethodId) (x0 : Nat) (x1 : Nat) (x2 : Int32) (x3 : Int32) : entryFrame m #[(.ref x0), (.ref x1), (.int x2), (.int x3), .null] 6 = mkF m 0 #[.val (.ref x0), .val (.ref x1), .val (.int x2), .val (.int x3), .val .null, .unset] [] := by first | (simp [entryFrame, mkF, argsToLocals, Value.category]; done) | rfl
theorem pn_3 : plainName "java/lang/String" = true := by first | (simp [plainName, overriddenIn]; done) | decide +kernel
theorem own_EW {Z : State} {a0 : Array Value} (hw : ∀ d ∈ tables_1, d.before a0 Z = true) : EW Z a0 consts_1 := (EW.cons (oa0 hw 90 rfl) (by decide) EW.nil)
theorem d3_0 : decode jdk_42_method_149_code 0 = .ok (.aload_n 0, 1) := by decide +kernel
theorem d3_1 : decode jdk_42_method_149_code 1 = .ok (.invokespecial 1, 3) := by decide +kernel
theorem d3_4 : decode jdk_42_method_149_code 4 = .ok (.iload_n 3, 1) := by decide +kernel
theorem d3_5 : decode jdk_42_method_149_code 5 = .ok (.ifCond .ne 22, 3) := by decide +kernel
theorem d3_8 : decode jdk_42_method_149_code 8 = .ok (.aload_n 0, 1) := by decide +kernel
theorem d3_9 : decode jdk_42_method_149_code 9 = .ok (.ldc 7, 2) := by decide +kernel
theorem own_wS {Z : State} {a0 : Array Value} (hw : ∀ d ∈ tables_1, d.before a0 Z = true) : ∀ a ∈ Bundle.stringAtoms, a.before a0 Z = true := by
  intro a ha
  simp only [Bundle.stringAtoms, Bundle.sN, List.mem_cons, List.not_mem_nil, or_false] at ha
  rcases ha with rfl | rfl | rfl | rfl | rfl | rfl | rfl
  · exact oa0 hw 8 rfl
  · exact oa0 hw 7 rfl
  · exact oa0 hw 24 rfl
  · exact oa0 hw 34 rfl
  · exact oa0 hw 32 rfl
  · exact oa0 hw 91 rfl
  · exact oa0 hw 92 rfl
theorem d3_11 : decode jdk_42_method_149_code 11 = .ok (.getfield 9, 3) := by decide +kernel
theorem d3_14 : decode jdk_42_method_149_code 14 = .ok (.putfield 9, 3) := by decide +kernel
theorem d3_17 : decode jdk_42_method_149_code 17 = .ok (.aload_n 0, 1) := by decide +kernel
theorem d3_18 : decode jdk_42_method_149_code 18 = .ok (.ldc 7, 2) := by decide +kernel
theorem d3_20 : decode jdk_42_method_149_code 20 = .ok (.getfield 15, 3) := by decide +kernel
theorem d3_23 : decode jdk_42_method_149_code 23 = .ok (.putfield 15, 3) := by decide +kernel
theorem d3_26 : decode jdk_42_method_149_code 26 = .ok (.return_, 1) := by decide +kernel
def Q_strE4 (Z : State) (x : Nat) (b : Nat) (h0 : Heap) (n0 : Nat) (vR : Option Value) (hR : Heap) (LR : List Loc) : Prop := ∃ (t : Nat) (kb : ClassId), vR = none ∧ Fr n0 LR ∧ Keep h0 hR [x] ∧ (Exa Z hR x "java/lang/String") ∧ (Fld Z hR x "java/lang/String" "coder" "B" (.int 0)) ∧ (Fld Z hR x "java/lang/String" "value" "[B" (.ref t)) ∧ (Arv Z hR t kb .byte (0 : Int32) [] (.int 0))
theorem strE4 (l : Launch) (Z : State) (a0 : Array Value) (hw : ∀ d ∈ tables_1, d.before a0 Z = true) (ws : List Jvm.Cond) (x : Nat) (b : Nat) (h0 : Heap) (n0 : Nat) (Z0 : n0 ≤ h0.size) (E_x : Exa Z h0 x "java/lang/String") (Fv_x : Fld Z h0 x "java/lang/String" "value" "[B" .null) (Fc_x : Fld Z h0 x "java/lang/String" "coder" "B" (.int 0)) (g_x : n0 ≤ x) :
    own_MH l (⟨"java/lang/String", "<init>", "([CIILjava/lang/Void;)V"⟩ : MethodName) jdk_42_method_149_code 6 none ws ({ frames := 1, cells := 4, slots := 8, locals := 12 } : Room) Z #[(.ref x), (.ref b), (.int 0), (.int 0), .null] h0 (Q_strE4 Z x b h0 n0) consts_1 := by
  refine own_bodyH (own := "java/lang/String") rfl (plainFor_of_name pn_3) (fun m => ef_strE4 m x b (0 : Int32) (0 : Int32)) ?_
  intro p e s m below meth c s₁ Bd hml hZ hh hx hby hown X0 e0 hS0 CH0
  have N0 := Fr.nil n0
  have hk0 : h0.size ≤ h0.size := Nat.le_refl _
  have Y0 : Stand p l e ({ frames := 1, cells := 4, slots := 8, locals := 12 } : Room) (s.setVm s.vm) m #[(.ref x), (.ref b), (.int 0), (.int 0), .null] below meth c s₁ [] 0 0 := X0
  have hEL := own_EW hw
  have C0 := CHr.refl CH0
  have lt1 : h0.size > x := E_x.lt
  refine oa2 Y0.here hx hby d3_0 rfl rfl ?_
  refine og3 Y0 hx hZ hown (oa0 hw 16 rfl) (oa0 hw 17 rfl) (oa0 hw 18 rfl) e0 (by rw [hml]; rfl) hby d3_1 (by decide) 0 (Nat.le_of_eq rfl) (by decide) ?_
  intro T2 X2 e2
  refine oa X2.here hx hby d3_4 rfl ?_
  refine ob7 X2.here hx hby d3_5 ((if0 _ _).trans (teq (show (0 : Int32) = (0 : Int32) from (by decide))).2) ?_
  refine oa2 X2.here hx hby d3_8 rfl rfl ?_
  have own_wS0 : ∀ a ∈ Bundle.stringAtoms, a.before a0 Z = true := own_wS hw
  refine own_ldcCH X2 hx hZ hEL hown (oa0 hw 90 rfl) own_wS0 e2 hS0 (by omega) C0.1 (List.mem_of_getElem? (i := 0) rfl) (vs := []) (z := (0 : Int32)) ⟨by decide, by decide⟩ (by decide) (by decide) hby d3_9 0 (by decide) (by decide) (by decide) (by decide) ?_
  intro a3 T3 h3 kk3 vm3 b3 kb3 X3 e3 E3 hS3 hk3 hZ3 hown3 Ea3 Fc3 Fv3 Va3 la3 lb3 Cn3 ns3
  have z4 : h0.size ≤ h3.size := E3.1
  have C5 := C0.trans Cn3
  have f6 := (E_x.ext E3)
  have f7 := (Fv_x.ext E3)
  have nl3_x := ns3 x (oe5 hZ3.alike f6 f7)
  have lt8 : h3.size > a3 := la3
  have lt9 : h3.size > b3 := lb3
  refine od3 X3 hx hZ3 hown3 (host := "") (Or.inl (oa0 hw 33 rfl)) Via.refl e3 Fv3 hby d3_11 ?_
  intro T10 X10 e10
  refine og8 X10 hx hZ3 (ty := (.array .byte)) hown3 (host := "") (Or.inl (oa0 hw 33 rfl)) Via.refl e10 f7 f6 (Or.inr ⟨(oa0 hw 34 rfl), rfl, (name_of_methodNamed Bd.named Bd.method).1⟩) (oa0 hw 7 rfl) (by decide) rfl rfl hby d3_14 N0 g_x ?_
  intro T11 h11 lo11 X11 e11 N11 W11 F11 z11
  have C12 := C5.trans (CHr.wr W11 (oe5 hZ3.alike f6 f7) C5.1)
  refine oa2 X11.here hx hby d3_17 rfl rfl ?_
  refine own_ldcCH X11 hx hZ3 hEL hown3 (oa0 hw 90 rfl) own_wS0 e11 hS3 (by omega) C12.1 (List.mem_of_getElem? (i := 0) rfl) (vs := []) (z := (0 : Int32)) ⟨by decide, by decide⟩ (by decide) (by decide) hby d3_18 0 (by decide) (by decide) (by decide) (by decide) ?_
  intro a13 T13 h13 kk13 vm13 b13 kb13 X13 e13 E13 hS13 hk13 hZ13 hown13 Ea13 Fc13 Fv13 Va13 la13 lb13 Cn13 ns13
  have z14 : h11.size ≤ h13.size := E13.1
  have C15 := C12.trans Cn13
  have sf16 := (Cn13.safe (own_ll (by omega)) (Safe.wr W11 (oe5 hZ3.alike f6 f7) C5.1 (oe5 hZ3.alike f6 f7)))
  have nl13_x := ns13 x sf16
  have lt17 : h13.size > a13 := la13
  have lt18 : h13.size > b13 := lb13
  refine od3 X13 hx hZ13 hown13 (host := "") (Or.inl (oa0 hw 31 rfl)) Via.refl e13 Fc13 hby d3_20 ?_
  intro T19 X19 e19
  have f20 := ((f6.wr W11).ext E13)
  have f21 := (((Fc_x.ext E3).other W11 (Or.inr (slot_ne (Or.inr (oa0 hw 32 rfl)) (Or.inr (oa0 hw 34 rfl)) (by decide) (t := .byte) (t' := (.array .byte)) (by decide) (by decide)))).ext E13)
  refine og2 X19 hx hZ13 (ty := .byte) (v' := (.int 0)) hown13 (oa0 hw 31 rfl) Via.refl e19 f21 f20 (Or.inr ⟨(oa0 hw 32 rfl), rfl, (name_of_methodNamed Bd.named Bd.method).1⟩) (oa0 hw 7 rfl) (by decide) rfl rfl hby d3_23 N11 g_x ?_
  intro T22 h22 lo22 X22 e22 N22 W22 F22 z22
  have C23 := C15.trans (CHr.wr W22 sf16 C15.1)
  have K24 : Keep h0 h22 [x] := (((((Keep.refl h0 [x]).ext E3).wr W11 (Or.inl (List.mem_of_getElem? (i := 0) rfl))).ext E13).wr W22 (Or.inl (List.mem_of_getElem? (i := 0) rfl)))
  have f25 := (f20.wr W22)
  have f26 := ((F11.ext E13).other W22 (Or.inr (slot_ne (Or.inr (oa0 hw 34 rfl)) (Or.inr (oa0 hw 32 rfl)) (by decide) (t := (.array .byte)) (t' := .byte) (by decide) (by decide))))
  have f27 := (((Va3.other W11 (Ne.symm nl3_x.2)).ext E13).other W22 (Ne.symm nl3_x.2))
  obtain ⟨fs, hr, hrun, hended, hRW⟩ := X22.leaveW hS13 (by rw [e22]; omega) (v := none) (fun _ => rfl) Bd.notSynchronized
  have hCf : CHr Z consts_1 s.vm s.heap T22.vm T22.heap := by
    rw [hh, e22]
    exact C23.trans (CHv.at X22 hZ13 hEL C23.1)
  refine og0 (t := T22.setFrames fs) ?_ ⟨_, hrun, hended, _, _, rfl, ?_, hCf, hRW.1, hRW.2.1, hRW.2.2.1, hRW.2.2.2.mono (by decide) (by decide)⟩
  · exact X22.returnOut hx Bd.returns (hb hby d3_26) hr
  · show Q_strE4 Z _ _ h0 n0 _ T22.heap _
    rw [e22]
    exact ⟨b3, kb3, rfl, N22, K24, f25, F22, f26, f27⟩
theorem ef_strE1 (m : MethodId) (x0 : Nat) (x1 : Nat) : entryFrame m #[(.ref x0), (.ref x1)] 2 = mkF m 0 #[.val (.ref x0), .val (.ref x1)] [] := by first | (simp [entryFrame, mkF, argsToLocals, Value.category]; done) | rfl
theorem pn_2 : plainName "java/lang/String" = true := by first | (simp [plainName, overriddenIn]; done) | decide +kernel
theorem d2_0 : decode jdk_42_method_3_code 0 = .ok (.aload_n 0, 1) := by decide +kernel
theorem d2_1 : decode jdk_42_method_3_code 1 = .ok (.aload_n 1, 1) := by decide +kernel
theorem d2_2 : decode jdk_42_method_3_code 2 = .ok (.iconst 0, 1) := by decide +kernel
theorem d2_3 : decode jdk_42_method_3_code 3 = .ok (.aload_n 1, 1) := by decide +kernel
theorem d2_4 : decode jdk_42_method_3_code 4 = .ok (.arraylength, 1) := by decide +kernel
theorem d2_5 : decode jdk_42_method_3_code 5 = .ok (.aconst_null, 1) := by decide +kernel
theorem d2_6 : decode jdk_42_method_3_code 6 = .ok (.invokespecial 27, 3) := by decide +kernel
theorem pd_0 : parseMethodDescriptor "([CIILjava/lang/Void;)V" = some ⟨[(.array .char), .int, .int, (.object "java/lang/Void")], none⟩ := by decide +kernel
theorem d2_9 : decode jdk_42_method_3_code 9 = .ok (.return_, 1) := by decide +kernel
def Q_strE1 (Z : State) (x : Nat) (b : Nat) (kC : ClassId) (h0 : Heap) (n0 : Nat) (vR : Option Value) (hR : Heap) (LR : List Loc) : Prop := ∃ (t : Nat) (kb : ClassId), vR = none ∧ Fr n0 LR ∧ Keep h0 hR [x] ∧ (Exa Z hR x "java/lang/String") ∧ (Fld Z hR x "java/lang/String" "coder" "B" (.int 0)) ∧ (Fld Z hR x "java/lang/String" "value" "[B" (.ref t)) ∧ (Arv Z hR t kb .byte (0 : Int32) [] (.int 0))
theorem strE1 (l : Launch) (Z : State) (a0 : Array Value) (hw : ∀ d ∈ tables_1, d.before a0 Z = true) (ws : List Jvm.Cond) (x : Nat) (b : Nat) (kC : ClassId) (h0 : Heap) (n0 : Nat) (Z0 : n0 ≤ h0.size) (E_x : Exa Z h0 x "java/lang/String") (Fv_x : Fld Z h0 x "java/lang/String" "value" "[B" .null) (Fc_x : Fld Z h0 x "java/lang/String" "coder" "B" (.int 0)) (g_x : n0 ≤ x) (V_b : Arv Z h0 b kC .char (0 : Int32) [] (.int 0)) :
    own_MH l (⟨"java/lang/String", "<init>", "([C)V"⟩ : MethodName) jdk_42_method_3_code 2 none ws ({ frames := 2, cells := 4, slots := 8, locals := 29 } : Room) Z #[(.ref x), (.ref b)] h0 (Q_strE1 Z x b kC h0 n0) consts_1 := by
  refine own_bodyH (own := "java/lang/String") rfl (plainFor_of_name pn_2) (fun m => ef_strE1 m x b) ?_
  intro p e s m below meth c s₁ Bd hml hZ hh hx hby hown X0 e0 hS0 CH0
  have N0 := Fr.nil n0
  have hk0 : h0.size ≤ h0.size := Nat.le_refl _
  have Y0 : Stand p l e ({ frames := 2, cells := 4, slots := 8, locals := 29 } : Room) (s.setVm s.vm) m #[(.ref x), (.ref b)] below meth c s₁ [] 0 0 := X0
  have hEL := own_EW hw
  have C0 := CHr.refl CH0
  have lt1 : h0.size > x := E_x.lt
  have lt2 : h0.size > b := V_b.lt
  refine oa2 Y0.here hx hby d2_0 rfl rfl ?_
  refine oa2 Y0.here hx hby d2_1 rfl rfl ?_
  refine oa4 Y0.here hx hby d2_2 (v := (0 : Int32)) (by decide) ?_
  refine oa2 Y0.here hx hby d2_3 rfl rfl ?_
  refine oe Y0 hx hZ e0 V_b hby d2_4 ?_
  refine of6 Y0.here hx hby d2_5 ?_
  refine own_specialH Y0 hx hZ hEL rfl hown (oa0 hw 12 rfl) (oa0 hw 13 rfl) (oa0 hw 8 rfl) (oa0 hw 15 rfl) (by decide) (strE4 l Z a0 hw [] x b h0 n0 Z0 E_x Fv_x Fc_x g_x) 0 (Nat.le_of_eq rfl) (by decide) (by decide) (by rw [hml]; rfl) (argsL := [(.ref b), (.int 0), (.int 0), .null]) (st := []) (a := x) (lenOf pd_0 rfl) rfl rfl (by decide) (by decide) e0 hby C0.1 hS0 (by omega) d2_6 ?_
  intro T3 v3 L3 vm3 X3 hS3 hZ3 hown3 hg3 Cn3 hQ3
  obtain ⟨t_3, kb_3, rfl, Nq3, K3, P3_0, P3_1, P3_2, P3_3⟩ := hQ3
  have N3 := Fr.app N0 Nq3
  have z4 : h0.size ≤ T3.heap.size := K3.1
  have C5 := C0.trans Cn3
  have lt6 : T3.heap.size > x := P3_0.lt
  have lt7 : T3.heap.size > t_3 := P3_3.lt
  refine oa5 (T := T3) 9 #[.val (.ref x), .val (.ref b)] [] ?_
  have K8 : Keep h0 T3.heap [x] := ((Keep.refl h0 [x]).trans K3 (allS (P := fun xq_ => xq_ ∈ [x] ∨ h0.size ≤ xq_) (Or.inl (List.mem_of_getElem? (i := 0) rfl)) all0))
  obtain ⟨fs, hr, hrun, hended, hRW⟩ := X3.leaveW hS3 (by omega) (v := none) (fun _ => rfl) Bd.notSynchronized
  have hCf : CHr Z consts_1 s.vm s.heap T3.vm T3.heap := by
    rw [hh]
    exact C5.trans (CHv.at X3 hZ3 hEL C5.1)
  refine og0 (t := T3.setFrames fs) ?_ ⟨_, hrun, hended, _, _, rfl, ?_, hCf, hRW.1, hRW.2.1, hRW.2.2.1, hRW.2.2.2.mono (by decide) (by decide)⟩
  · exact X3.returnOut hx Bd.returns (hb hby d2_9) hr
  · show Q_strE1 Z _ _ _ h0 n0 _ T3.heap _
    exact ⟨t_3, kb_3, rfl, N3, K8, P3_0, P3_1, P3_2, P3_3⟩
theorem ef_ch_ (m : MethodId) (x0 : Int32) : entryFrame m #[(.int x0)] 1 = mkF m 0 #[.val (.int x0)] [] := by first | (simp [entryFrame, mkF, argsToLocals, Value.category]; done) | rfl
theorem pn_1 : plainName "com/example/sluice/sluice/MessageDisallowedCharacterPinLaw" = true := by first | (simp [plainName, overriddenIn]; done) | decide +kernel
theorem d1_0 : decode method_3_code 0 = .ok (.iload_n 0, 1) := by decide +kernel
theorem d1_1 : decode method_3_code 1 = .ok (.bipush 16, 2) := by decide +kernel
theorem d1_3 : decode method_3_code 3 = .ok (.iushr, 1) := by decide +kernel
theorem d1_4 : decode method_3_code 4 = .ok (.iconst 1, 1) := by decide +kernel
theorem d1_5 : decode method_3_code 5 = .ok (.iand, 1) := by decide +kernel
theorem d1_6 : decode method_3_code 6 = .ok (.ifCond .eq 13, 3) := by decide +kernel
theorem d1_19 : decode method_3_code 19 = .ok (.iload_n 0, 1) := by decide +kernel
theorem d1_20 : decode method_3_code 20 = .ok (.ldc 29, 2) := by decide +kernel
theorem d1_22 : decode method_3_code 22 = .ok (.iand, 1) := by decide +kernel
theorem d1_23 : decode method_3_code 23 = .ok (.i2c, 1) := by decide +kernel
theorem d1_24 : decode method_3_code 24 = .ok (.ireturn, 1) := by decide +kernel
theorem d1_9 : decode method_3_code 9 = .ok (.ldc 28, 2) := by decide +kernel
theorem d1_11 : decode method_3_code 11 = .ok (.iload_n 0, 1) := by decide +kernel
theorem d1_12 : decode method_3_code 12 = .ok (.sipush 2047, 3) := by decide +kernel
theorem d1_15 : decode method_3_code 15 = .ok (.iand, 1) := by decide +kernel
theorem d1_16 : decode method_3_code 16 = .ok (.ior, 1) := by decide +kernel
theorem d1_17 : decode method_3_code 17 = .ok (.i2c, 1) := by decide +kernel
theorem d1_18 : decode method_3_code 18 = .ok (.ireturn, 1) := by decide +kernel
def Q_ch_ (Z : State) (a1 : Int32) (h0 : Heap) (n0 : Nat) (vR : Option Value) (hR : Heap) (LR : List Loc) : Prop := vR = some (.int (oa1 a1)) ∧ Fr n0 LR ∧ hR = h0
theorem ch_ (l : Launch) (Z : State) (a0 : Array Value) (hw : ∀ d ∈ tables_1, d.before a0 Z = true) (ws : List Jvm.Cond) (a1 : Int32) (h0 : Heap) (n0 : Nat) (Z0 : n0 ≤ h0.size)  :
    oc2 l (⟨"com/example/sluice/sluice/MessageDisallowedCharacterPinLaw", "ch", "(I)C"⟩ : MethodName) method_3_code 1 (some .char) ws ({ frames := 0, cells := 0, slots := 0, locals := 0 } : Room) Z #[(.int a1)] h0 (Q_ch_ Z a1 h0 n0) := by
  refine ob3 (own := "com/example/sluice/sluice/MessageDisallowedCharacterPinLaw") rfl (plainFor_of_name pn_1) (fun m => ef_ch_ m a1) ?_
  intro p e s m below meth c s₁ Bd hml hZ hh hx hby hown X0 e0
  have N0 := Fr.nil n0
  refine oa X0.here hx hby d1_0 rfl ?_
  refine od4 X0.here hx hby d1_1 (v := (16 : Int32)) (by decide) ?_
  refine own_iushr X0.here hx hby d1_3 rfl ?_
  refine oa4 X0.here hx hby d1_4 (v := (1 : Int32)) (by decide) ?_
  refine oe9 X0.here hx hby d1_5 rfl ?_
  by_cases hc6_2 : (((a1.toUInt32 >>> ((16 : Int32) &&& 31).toUInt32).toInt32) &&& (1 : Int32)) = (0 : Int32)
  · refine ob1 X0.here hx hby (pc' := 19) d1_6 ((if0 _ _).trans (teq hc6_2).1) (by decide) (by decide) ?_
    refine oa X0.here hx hby d1_19 rfl ?_
    refine oc1 X0 hx hZ hown (oa0 hw 4 rfl) hby d1_20 ?_
    refine oe9 X0.here hx hby d1_22 rfl ?_
    refine own_i2c X0.here hx hby d1_23 rfl ?_
    refine oa9 X0 Bd.notSynchronized (v := some (.int (nar .char ((a1 &&& (65535 : Int32)).toUInt32.toUInt16.toUInt32.toInt32)))) (ob4 Bd.returns) (fun _ hr => retN X0 hx (t := .char) Bd.returns (by simp) (hb hby d1_24) hr) e0 (by decide) (by decide) ?_
    exact ⟨(od (if_pos hc6_2).symm), N0, rfl⟩
  · refine ob7 X0.here hx hby d1_6 ((if0 _ _).trans (feq hc6_2).1) ?_
    refine oc1 X0 hx hZ hown (oa0 hw 78 rfl) hby d1_9 ?_
    refine oa X0.here hx hby d1_11 rfl ?_
    refine od0 X0.here hx hby d1_12 (v := (2047 : Int32)) (by decide) ?_
    refine oe9 X0.here hx hby d1_15 rfl ?_
    refine own_ior X0.here hx hby d1_16 rfl ?_
    refine own_i2c X0.here hx hby d1_17 rfl ?_
    refine oa9 X0 Bd.notSynchronized (v := some (.int (nar .char (((55296 : Int32) ||| (a1 &&& (2047 : Int32))).toUInt32.toUInt16.toUInt32.toInt32)))) (ob4 Bd.returns) (fun _ hr => retN X0 hx (t := .char) Bd.returns (by simp) (hb hby d1_18) hr) e0 (by decide) (by decide) ?_
    exact ⟨(od (if_neg hc6_2).symm), N0, rfl⟩
theorem ef_isHigh_ (m : MethodId) (x0 : Int32) : entryFrame m #[(.int x0)] 1 = mkF m 0 #[.val (.int x0)] [] := by first | (simp [entryFrame, mkF, argsToLocals, Value.category]; done) | rfl
theorem pn_17 : plainName "com/example/sluice/sluice/MessageDisallowedCharacterPinLaw" = true := by first | (simp [plainName, overriddenIn]; done) | decide +kernel
theorem d17_0 : decode method_4_code 0 = .ok (.iload_n 0, 1) := by decide +kernel
theorem d17_1 : decode method_4_code 1 = .ok (.ldc 28, 2) := by decide +kernel
theorem d17_3 : decode method_4_code 3 = .ok (.if_icmp .lt 13, 3) := by decide +kernel
theorem d17_16 : decode method_4_code 16 = .ok (.iconst 0, 1) := by decide +kernel
theorem d17_17 : decode method_4_code 17 = .ok (.ireturn, 1) := by decide +kernel
theorem d17_6 : decode method_4_code 6 = .ok (.iload_n 0, 1) := by decide +kernel
theorem d17_7 : decode method_4_code 7 = .ok (.ldc 30, 2) := by decide +kernel
theorem d17_9 : decode method_4_code 9 = .ok (.if_icmp .gt 7, 3) := by decide +kernel
theorem d17_12 : decode method_4_code 12 = .ok (.iconst 1, 1) := by decide +kernel
theorem d17_13 : decode method_4_code 13 = .ok (.goto 4, 3) := by decide +kernel
def Q_isHigh_ (Z : State) (c_ : Int32) (h0 : Heap) (n0 : Nat) (vR : Option Value) (hR : Heap) (LR : List Loc) : Prop := vR = some (.int (oc9 c_)) ∧ Fr n0 LR ∧ hR = h0
theorem isHigh_ (l : Launch) (Z : State) (a0 : Array Value) (hw : ∀ d ∈ tables_1, d.before a0 Z = true) (ws : List Jvm.Cond) (c_ : Int32) (h0 : Heap) (n0 : Nat) (Z0 : n0 ≤ h0.size)  :
    oc2 l (⟨"com/example/sluice/sluice/MessageDisallowedCharacterPinLaw", "isHigh", "(C)Z"⟩ : MethodName) method_4_code 1 (some .boolean) ws ({ frames := 0, cells := 0, slots := 0, locals := 0 } : Room) Z #[(.int c_)] h0 (Q_isHigh_ Z c_ h0 n0) := by
  refine ob3 (own := "com/example/sluice/sluice/MessageDisallowedCharacterPinLaw") rfl (plainFor_of_name pn_17) (fun m => ef_isHigh_ m c_) ?_
  intro p e s m below meth c s₁ Bd hml hZ hh hx hby hown X0 e0
  have N0 := Fr.nil n0
  refine oa X0.here hx hby d17_0 rfl ?_
  refine oc1 X0 hx hZ hown (oa0 hw 78 rfl) hby d17_1 ?_
  by_cases hc3_1 : c_ < (55296 : Int32)
  · refine ob2 X0.here hx hby (pc' := 16) d17_3 (tlt hc3_1).1 (by decide) (by decide) ?_
    refine oa4 X0.here hx hby d17_16 (v := (0 : Int32)) (by decide) ?_
    refine oa9 X0 Bd.notSynchronized (v := some (.int 0)) (ob4 Bd.returns) (fun _ hr => retN X0 hx (t := .boolean) Bd.returns (by simp) (hb hby d17_17) hr) e0 (by decide) (by decide) ?_
    exact ⟨(od (own_hi0 (Or.inl hc3_1))), N0, rfl⟩
  · refine oa7 X0.here hx hby d17_3 (flt hc3_1).1 ?_
    refine oa X0.here hx hby d17_6 rfl ?_
    refine oc1 X0 hx hZ hown (oa0 hw 123 rfl) hby d17_7 ?_
    by_cases hc9_2 : (56319 : Int32) < c_
    · refine ob2 X0.here hx hby (pc' := 16) d17_9 (tlt hc9_2).2.2.1 (by decide) (by decide) ?_
      refine oa4 X0.here hx hby d17_16 (v := (0 : Int32)) (by decide) ?_
      refine oa9 X0 Bd.notSynchronized (v := some (.int 0)) (ob4 Bd.returns) (fun _ hr => retN X0 hx (t := .boolean) Bd.returns (by simp) (hb hby d17_17) hr) e0 (by decide) (by decide) ?_
      exact ⟨(od (own_hi0 (Or.inr hc9_2))), N0, rfl⟩
    · refine oa7 X0.here hx hby d17_9 (flt hc9_2).2.2.1 ?_
      refine oa4 X0.here hx hby d17_12 (v := (1 : Int32)) (by decide) ?_
      refine oc X0.here hx hby (pc' := 17) d17_13 (by decide) (by decide) ?_
      refine oa9 X0 Bd.notSynchronized (v := some (.int 1)) (ob4 Bd.returns) (fun _ hr => retN X0 hx (t := .boolean) Bd.returns (by simp) (hb hby d17_17) hr) e0 (by decide) (by decide) ?_
      exact ⟨(od (own_hi1 hc3_1 hc9_2)), N0, rfl⟩
theorem ef_isLow_ (m : MethodId) (x0 : Int32) : entryFrame m #[(.int x0)] 1 = mkF m 0 #[.val (.int x0)] [] := by first | (simp [entryFrame, mkF, argsToLocals, Value.category]; done) | rfl
theorem pn_29 : plainName "com/example/sluice/sluice/MessageDisallowedCharacterPinLaw" = true := by first | (simp [plainName, overriddenIn]; done) | decide +kernel
theorem d29_0 : decode method_5_code 0 = .ok (.iload_n 0, 1) := by decide +kernel
theorem d29_1 : decode method_5_code 1 = .ok (.ldc 31, 2) := by decide +kernel
theorem d29_3 : decode method_5_code 3 = .ok (.if_icmp .lt 13, 3) := by decide +kernel
theorem d29_16 : decode method_5_code 16 = .ok (.iconst 0, 1) := by decide +kernel
theorem d29_17 : decode method_5_code 17 = .ok (.ireturn, 1) := by decide +kernel
theorem d29_6 : decode method_5_code 6 = .ok (.iload_n 0, 1) := by decide +kernel
theorem d29_7 : decode method_5_code 7 = .ok (.ldc 32, 2) := by decide +kernel
theorem d29_9 : decode method_5_code 9 = .ok (.if_icmp .gt 7, 3) := by decide +kernel
theorem d29_12 : decode method_5_code 12 = .ok (.iconst 1, 1) := by decide +kernel
theorem d29_13 : decode method_5_code 13 = .ok (.goto 4, 3) := by decide +kernel
def Q_isLow_ (Z : State) (c_ : Int32) (h0 : Heap) (n0 : Nat) (vR : Option Value) (hR : Heap) (LR : List Loc) : Prop := vR = some (.int (od7 c_)) ∧ Fr n0 LR ∧ hR = h0
theorem isLow_ (l : Launch) (Z : State) (a0 : Array Value) (hw : ∀ d ∈ tables_1, d.before a0 Z = true) (ws : List Jvm.Cond) (c_ : Int32) (h0 : Heap) (n0 : Nat) (Z0 : n0 ≤ h0.size)  :
    oc2 l (⟨"com/example/sluice/sluice/MessageDisallowedCharacterPinLaw", "isLow", "(C)Z"⟩ : MethodName) method_5_code 1 (some .boolean) ws ({ frames := 0, cells := 0, slots := 0, locals := 0 } : Room) Z #[(.int c_)] h0 (Q_isLow_ Z c_ h0 n0) := by
  refine ob3 (own := "com/example/sluice/sluice/MessageDisallowedCharacterPinLaw") rfl (plainFor_of_name pn_29) (fun m => ef_isLow_ m c_) ?_
  intro p e s m below meth c s₁ Bd hml hZ hh hx hby hown X0 e0
  have N0 := Fr.nil n0
  refine oa X0.here hx hby d29_0 rfl ?_
  refine oc1 X0 hx hZ hown (oa0 hw 132 rfl) hby d29_1 ?_
  by_cases hc3_1 : c_ < (56320 : Int32)
  · refine ob2 X0.here hx hby (pc' := 16) d29_3 (tlt hc3_1).1 (by decide) (by decide) ?_
    refine oa4 X0.here hx hby d29_16 (v := (0 : Int32)) (by decide) ?_
    refine oa9 X0 Bd.notSynchronized (v := some (.int 0)) (ob4 Bd.returns) (fun _ hr => retN X0 hx (t := .boolean) Bd.returns (by simp) (hb hby d29_17) hr) e0 (by decide) (by decide) ?_
    exact ⟨(od (own_lo0 (Or.inl hc3_1))), N0, rfl⟩
  · refine oa7 X0.here hx hby d29_3 (flt hc3_1).1 ?_
    refine oa X0.here hx hby d29_6 rfl ?_
    refine oc1 X0 hx hZ hown (oa0 hw 139 rfl) hby d29_7 ?_
    by_cases hc9_2 : (57343 : Int32) < c_
    · refine ob2 X0.here hx hby (pc' := 16) d29_9 (tlt hc9_2).2.2.1 (by decide) (by decide) ?_
      refine oa4 X0.here hx hby d29_16 (v := (0 : Int32)) (by decide) ?_
      refine oa9 X0 Bd.notSynchronized (v := some (.int 0)) (ob4 Bd.returns) (fun _ hr => retN X0 hx (t := .boolean) Bd.returns (by simp) (hb hby d29_17) hr) e0 (by decide) (by decide) ?_
      exact ⟨(od (own_lo0 (Or.inr hc9_2))), N0, rfl⟩
    · refine oa7 X0.here hx hby d29_9 (flt hc9_2).2.2.1 ?_
      refine oa4 X0.here hx hby d29_12 (v := (1 : Int32)) (by decide) ?_
      refine oc X0.here hx hby (pc' := 17) d29_13 (by decide) (by decide) ?_
      refine oa9 X0 Bd.notSynchronized (v := some (.int 1)) (ob4 Bd.returns) (fun _ hr => retN X0 hx (t := .boolean) Bd.returns (by simp) (hb hby d29_17) hr) e0 (by decide) (by decide) ?_
      exact ⟨(od (own_lo1 hc3_1 hc9_2)), N0, rfl⟩
theorem ef_isHighS (m : MethodId) (x0 : Int32) : entryFrame m #[(.int x0)] 1 = mkF m 0 #[.val (.int x0)] [] := by first | (simp [entryFrame, mkF, argsToLocals, Value.category]; done) | rfl
theorem pn_27 : plainName "java/lang/Character" = true := by first | (simp [plainName, overriddenIn]; done) | decide +kernel
theorem d27_0 : decode jdk_89_method_14_code 0 = .ok (.iload_n 0, 1) := by decide +kernel
theorem d27_1 : decode jdk_89_method_14_code 1 = .ok (.ldc 75, 2) := by decide +kernel
theorem d27_3 : decode jdk_89_method_14_code 3 = .ok (.if_icmp .lt 13, 3) := by decide +kernel
theorem d27_16 : decode jdk_89_method_14_code 16 = .ok (.iconst 0, 1) := by decide +kernel
theorem d27_17 : decode jdk_89_method_14_code 17 = .ok (.ireturn, 1) := by decide +kernel
theorem d27_6 : decode jdk_89_method_14_code 6 = .ok (.iload_n 0, 1) := by decide +kernel
theorem d27_7 : decode jdk_89_method_14_code 7 = .ok (.ldc 76, 2) := by decide +kernel
theorem d27_9 : decode jdk_89_method_14_code 9 = .ok (.if_icmp .ge 7, 3) := by decide +kernel
theorem d27_12 : decode jdk_89_method_14_code 12 = .ok (.iconst 1, 1) := by decide +kernel
theorem d27_13 : decode jdk_89_method_14_code 13 = .ok (.goto 4, 3) := by decide +kernel
def Q_isHighS (Z : State) (c_ : Int32) (h0 : Heap) (n0 : Nat) (vR : Option Value) (hR : Heap) (LR : List Loc) : Prop := vR = some (.int (oc9 c_)) ∧ Fr n0 LR ∧ hR = h0
theorem isHighS (l : Launch) (Z : State) (a0 : Array Value) (hw : ∀ d ∈ tables_1, d.before a0 Z = true) (ws : List Jvm.Cond) (c_ : Int32) (h0 : Heap) (n0 : Nat) (Z0 : n0 ≤ h0.size)  :
    oc2 l (⟨"java/lang/Character", "isHighSurrogate", "(C)Z"⟩ : MethodName) jdk_89_method_14_code 1 (some .boolean) ws ({ frames := 0, cells := 0, slots := 0, locals := 0 } : Room) Z #[(.int c_)] h0 (Q_isHighS Z c_ h0 n0) := by
  refine ob3 (own := "java/lang/Character") rfl (plainFor_of_name pn_27) (fun m => ef_isHighS m c_) ?_
  intro p e s m below meth c s₁ Bd hml hZ hh hx hby hown X0 e0
  have N0 := Fr.nil n0
  refine oa X0.here hx hby d27_0 rfl ?_
  refine oc1 X0 hx hZ hown (oa0 hw 121 rfl) hby d27_1 ?_
  by_cases hc3_1 : c_ < (55296 : Int32)
  · refine ob2 X0.here hx hby (pc' := 16) d27_3 (tlt hc3_1).1 (by decide) (by decide) ?_
    refine oa4 X0.here hx hby d27_16 (v := (0 : Int32)) (by decide) ?_
    refine oa9 X0 Bd.notSynchronized (v := some (.int 0)) (ob4 Bd.returns) (fun _ hr => retN X0 hx (t := .boolean) Bd.returns (by simp) (hb hby d27_17) hr) e0 (by decide) (by decide) ?_
    exact ⟨(od (own_hi0 (Or.inl hc3_1))), N0, rfl⟩
  · refine oa7 X0.here hx hby d27_3 (flt hc3_1).1 ?_
    refine oa X0.here hx hby d27_6 rfl ?_
    refine oc1 X0 hx hZ hown (oa0 hw 122 rfl) hby d27_7 ?_
    by_cases hc9_2 : c_ < (56320 : Int32)
    · refine oa7 X0.here hx hby d27_9 (tlt hc9_2).2.1 ?_
      refine oa4 X0.here hx hby d27_12 (v := (1 : Int32)) (by decide) ?_
      refine oc X0.here hx hby (pc' := 17) d27_13 (by decide) (by decide) ?_
      refine oa9 X0 Bd.notSynchronized (v := some (.int 1)) (ob4 Bd.returns) (fun _ hr => retN X0 hx (t := .boolean) Bd.returns (by simp) (hb hby d27_17) hr) e0 (by decide) (by decide) ?_
      exact ⟨(od (own_hi1 hc3_1 ((own_56320 c_).2 hc9_2))), N0, rfl⟩
    · refine ob2 X0.here hx hby (pc' := 16) d27_9 (flt hc9_2).2.1 (by decide) (by decide) ?_
      refine oa4 X0.here hx hby d27_16 (v := (0 : Int32)) (by decide) ?_
      refine oa9 X0 Bd.notSynchronized (v := some (.int 0)) (ob4 Bd.returns) (fun _ hr => retN X0 hx (t := .boolean) Bd.returns (by simp) (hb hby d27_17) hr) e0 (by decide) (by decide) ?_
      exact ⟨(od (own_hi0 (Or.inr ((own_56320 c_).1 hc9_2)))), N0, rfl⟩
theorem ef_isLowS (m : MethodId) (x0 : Int32) : entryFrame m #[(.int x0)] 1 = mkF m 0 #[.val (.int x0)] [] := by first | (simp [entryFrame, mkF, argsToLocals, Value.category]; done) | rfl
theorem pn_28 : plainName "java/lang/Character" = true := by first | (simp [plainName, overriddenIn]; done) | decide +kernel
theorem d28_0 : decode jdk_89_method_15_code 0 = .ok (.iload_n 0, 1) := by decide +kernel
theorem d28_1 : decode jdk_89_method_15_code 1 = .ok (.ldc 76, 2) := by decide +kernel
theorem d28_3 : decode jdk_89_method_15_code 3 = .ok (.if_icmp .lt 13, 3) := by decide +kernel
theorem d28_16 : decode jdk_89_method_15_code 16 = .ok (.iconst 0, 1) := by decide +kernel
theorem d28_17 : decode jdk_89_method_15_code 17 = .ok (.ireturn, 1) := by decide +kernel
theorem d28_6 : decode jdk_89_method_15_code 6 = .ok (.iload_n 0, 1) := by decide +kernel
theorem d28_7 : decode jdk_89_method_15_code 7 = .ok (.ldc 77, 2) := by decide +kernel
theorem d28_9 : decode jdk_89_method_15_code 9 = .ok (.if_icmp .ge 7, 3) := by decide +kernel
theorem d28_12 : decode jdk_89_method_15_code 12 = .ok (.iconst 1, 1) := by decide +kernel
theorem d28_13 : decode jdk_89_method_15_code 13 = .ok (.goto 4, 3) := by decide +kernel
def Q_isLowS (Z : State) (c_ : Int32) (h0 : Heap) (n0 : Nat) (vR : Option Value) (hR : Heap) (LR : List Loc) : Prop := vR = some (.int (od7 c_)) ∧ Fr n0 LR ∧ hR = h0
theorem isLowS (l : Launch) (Z : State) (a0 : Array Value) (hw : ∀ d ∈ tables_1, d.before a0 Z = true) (ws : List Jvm.Cond) (c_ : Int32) (h0 : Heap) (n0 : Nat) (Z0 : n0 ≤ h0.size)  :
    oc2 l (⟨"java/lang/Character", "isLowSurrogate", "(C)Z"⟩ : MethodName) jdk_89_method_15_code 1 (some .boolean) ws ({ frames := 0, cells := 0, slots := 0, locals := 0 } : Room) Z #[(.int c_)] h0 (Q_isLowS Z c_ h0 n0) := by
  refine ob3 (own := "java/lang/Character") rfl (plainFor_of_name pn_28) (fun m => ef_isLowS m c_) ?_
  intro p e s m below meth c s₁ Bd hml hZ hh hx hby hown X0 e0
  have N0 := Fr.nil n0
  refine oa X0.here hx hby d28_0 rfl ?_
  refine oc1 X0 hx hZ hown (oa0 hw 122 rfl) hby d28_1 ?_
  by_cases hc3_1 : c_ < (56320 : Int32)
  · refine ob2 X0.here hx hby (pc' := 16) d28_3 (tlt hc3_1).1 (by decide) (by decide) ?_
    refine oa4 X0.here hx hby d28_16 (v := (0 : Int32)) (by decide) ?_
    refine oa9 X0 Bd.notSynchronized (v := some (.int 0)) (ob4 Bd.returns) (fun _ hr => retN X0 hx (t := .boolean) Bd.returns (by simp) (hb hby d28_17) hr) e0 (by decide) (by decide) ?_
    exact ⟨(od (own_lo0 (Or.inl hc3_1))), N0, rfl⟩
  · refine oa7 X0.here hx hby d28_3 (flt hc3_1).1 ?_
    refine oa X0.here hx hby d28_6 rfl ?_
    refine oc1 X0 hx hZ hown (oa0 hw 133 rfl) hby d28_7 ?_
    by_cases hc9_2 : c_ < (57344 : Int32)
    · refine oa7 X0.here hx hby d28_9 (tlt hc9_2).2.1 ?_
      refine oa4 X0.here hx hby d28_12 (v := (1 : Int32)) (by decide) ?_
      refine oc X0.here hx hby (pc' := 17) d28_13 (by decide) (by decide) ?_
      refine oa9 X0 Bd.notSynchronized (v := some (.int 1)) (ob4 Bd.returns) (fun _ hr => retN X0 hx (t := .boolean) Bd.returns (by simp) (hb hby d28_17) hr) e0 (by decide) (by decide) ?_
      exact ⟨(od (own_lo1 hc3_1 ((own_57344 c_).2 hc9_2))), N0, rfl⟩
    · refine ob2 X0.here hx hby (pc' := 16) d28_9 (flt hc9_2).2.1 (by decide) (by decide) ?_
      refine oa4 X0.here hx hby d28_16 (v := (0 : Int32)) (by decide) ?_
      refine oa9 X0 Bd.notSynchronized (v := some (.int 0)) (ob4 Bd.returns) (fun _ hr => retN X0 hx (t := .boolean) Bd.returns (by simp) (hb hby d28_17) hr) e0 (by decide) (by decide) ?_
      exact ⟨(od (own_lo0 (Or.inr ((own_57344 c_).1 hc9_2)))), N0, rfl⟩
theorem ef_bmpOk (m : MethodId) (x0 : Int32) : entryFrame m #[(.int x0)] 1 = mkF m 0 #[.val (.int x0)] [] := by first | (simp [entryFrame, mkF, argsToLocals, Value.category]; done) | rfl
theorem pn_18 : plainName "com/example/sluice/sluice/MessageDisallowedCharacterPinLaw" = true := by first | (simp [plainName, overriddenIn]; done) | decide +kernel
theorem d18_0 : decode method_6_code 0 = .ok (.iload_n 0, 1) := by decide +kernel
theorem d18_1 : decode method_6_code 1 = .ok (.bipush 9, 2) := by decide +kernel
theorem d18_3 : decode method_6_code 3 = .ok (.if_icmp .eq 39, 3) := by decide +kernel
theorem d18_42 : decode method_6_code 42 = .ok (.iconst 1, 1) := by decide +kernel
theorem d18_43 : decode method_6_code 43 = .ok (.goto 4, 3) := by decide +kernel
theorem d18_47 : decode method_6_code 47 = .ok (.ireturn, 1) := by decide +kernel
theorem d18_6 : decode method_6_code 6 = .ok (.iload_n 0, 1) := by decide +kernel
theorem d18_7 : decode method_6_code 7 = .ok (.bipush 10, 2) := by decide +kernel
theorem d18_9 : decode method_6_code 9 = .ok (.if_icmp .eq 33, 3) := by decide +kernel
theorem d18_12 : decode method_6_code 12 = .ok (.iload_n 0, 1) := by decide +kernel
theorem d18_13 : decode method_6_code 13 = .ok (.bipush 13, 2) := by decide +kernel
theorem d18_15 : decode method_6_code 15 = .ok (.if_icmp .eq 27, 3) := by decide +kernel
theorem d18_18 : decode method_6_code 18 = .ok (.iload_n 0, 1) := by decide +kernel
theorem d18_19 : decode method_6_code 19 = .ok (.bipush 32, 2) := by decide +kernel
theorem d18_21 : decode method_6_code 21 = .ok (.if_icmp .lt 9, 3) := by decide +kernel
theorem d18_30 : decode method_6_code 30 = .ok (.iload_n 0, 1) := by decide +kernel
theorem d18_31 : decode method_6_code 31 = .ok (.ldc 34, 2) := by decide +kernel
theorem d18_33 : decode method_6_code 33 = .ok (.if_icmp .lt 13, 3) := by decide +kernel
theorem d18_46 : decode method_6_code 46 = .ok (.iconst 0, 1) := by decide +kernel
theorem d18_36 : decode method_6_code 36 = .ok (.iload_n 0, 1) := by decide +kernel
theorem d18_37 : decode method_6_code 37 = .ok (.ldc 35, 2) := by decide +kernel
theorem d18_39 : decode method_6_code 39 = .ok (.if_icmp .gt 7, 3) := by decide +kernel
theorem d18_24 : decode method_6_code 24 = .ok (.iload_n 0, 1) := by decide +kernel
theorem d18_25 : decode method_6_code 25 = .ok (.ldc 33, 2) := by decide +kernel
theorem d18_27 : decode method_6_code 27 = .ok (.if_icmp .le 15, 3) := by decide +kernel
def Q_bmpOk (Z : State) (cc : Int32) (h0 : Heap) (n0 : Nat) (vR : Option Value) (hR : Heap) (LR : List Loc) : Prop := vR = some (.int (ob0 cc)) ∧ Fr n0 LR ∧ hR = h0
theorem bmpOk (l : Launch) (Z : State) (a0 : Array Value) (hw : ∀ d ∈ tables_1, d.before a0 Z = true) (ws : List Jvm.Cond) (cc : Int32) (h0 : Heap) (n0 : Nat) (Z0 : n0 ≤ h0.size)  :
    oc2 l (⟨"com/example/sluice/sluice/MessageDisallowedCharacterPinLaw", "bmpAllowed", "(C)Z"⟩ : MethodName) method_6_code 1 (some .boolean) ws ({ frames := 0, cells := 0, slots := 0, locals := 0 } : Room) Z #[(.int cc)] h0 (Q_bmpOk Z cc h0 n0) := by
  refine ob3 (own := "com/example/sluice/sluice/MessageDisallowedCharacterPinLaw") rfl (plainFor_of_name pn_18) (fun m => ef_bmpOk m cc) ?_
  intro p e s m below meth c s₁ Bd hml hZ hh hx hby hown X0 e0
  have N0 := Fr.nil n0
  refine oa X0.here hx hby d18_0 rfl ?_
  refine od4 X0.here hx hby d18_1 (v := (9 : Int32)) (by decide) ?_
  by_cases hc3_1 : cc = (9 : Int32)
  · refine ob2 X0.here hx hby (pc' := 42) d18_3 (teq hc3_1).1 (by decide) (by decide) ?_
    refine oa4 X0.here hx hby d18_42 (v := (1 : Int32)) (by decide) ?_
    refine oc X0.here hx hby (pc' := 47) d18_43 (by decide) (by decide) ?_
    refine oa9 X0 Bd.notSynchronized (v := some (.int 1)) (ob4 Bd.returns) (fun _ hr => retN X0 hx (t := .boolean) Bd.returns (by simp) (hb hby d18_47) hr) e0 (by decide) (by decide) ?_
    exact ⟨(od (of7 (Or.inl hc3_1))), N0, rfl⟩
  · refine oa7 X0.here hx hby d18_3 (feq hc3_1).1 ?_
    refine oa X0.here hx hby d18_6 rfl ?_
    refine od4 X0.here hx hby d18_7 (v := (10 : Int32)) (by decide) ?_
    by_cases hc9_2 : cc = (10 : Int32)
    · refine ob2 X0.here hx hby (pc' := 42) d18_9 (teq hc9_2).1 (by decide) (by decide) ?_
      refine oa4 X0.here hx hby d18_42 (v := (1 : Int32)) (by decide) ?_
      refine oc X0.here hx hby (pc' := 47) d18_43 (by decide) (by decide) ?_
      refine oa9 X0 Bd.notSynchronized (v := some (.int 1)) (ob4 Bd.returns) (fun _ hr => retN X0 hx (t := .boolean) Bd.returns (by simp) (hb hby d18_47) hr) e0 (by decide) (by decide) ?_
      exact ⟨(od (of7 (Or.inr (Or.inl hc9_2)))), N0, rfl⟩
    · refine oa7 X0.here hx hby d18_9 (feq hc9_2).1 ?_
      refine oa X0.here hx hby d18_12 rfl ?_
      refine od4 X0.here hx hby d18_13 (v := (13 : Int32)) (by decide) ?_
      by_cases hc15_3 : cc = (13 : Int32)
      · refine ob2 X0.here hx hby (pc' := 42) d18_15 (teq hc15_3).1 (by decide) (by decide) ?_
        refine oa4 X0.here hx hby d18_42 (v := (1 : Int32)) (by decide) ?_
        refine oc X0.here hx hby (pc' := 47) d18_43 (by decide) (by decide) ?_
        refine oa9 X0 Bd.notSynchronized (v := some (.int 1)) (ob4 Bd.returns) (fun _ hr => retN X0 hx (t := .boolean) Bd.returns (by simp) (hb hby d18_47) hr) e0 (by decide) (by decide) ?_
        exact ⟨(od (of7 (Or.inr (Or.inr (Or.inl hc15_3))))), N0, rfl⟩
      · refine oa7 X0.here hx hby d18_15 (feq hc15_3).1 ?_
        refine oa X0.here hx hby d18_18 rfl ?_
        refine od4 X0.here hx hby d18_19 (v := (32 : Int32)) (by decide) ?_
        by_cases hc21_4 : cc < (32 : Int32)
        · refine ob2 X0.here hx hby (pc' := 30) d18_21 (tlt hc21_4).1 (by decide) (by decide) ?_
          refine oa X0.here hx hby d18_30 rfl ?_
          refine oc1 X0 hx hZ hown (oa0 hw 82 rfl) hby d18_31 ?_
          by_cases hc33_5 : cc < (57344 : Int32)
          · refine ob2 X0.here hx hby (pc' := 46) d18_33 (tlt hc33_5).1 (by decide) (by decide) ?_
            refine oa4 X0.here hx hby d18_46 (v := (0 : Int32)) (by decide) ?_
            refine oa9 X0 Bd.notSynchronized (v := some (.int 0)) (ob4 Bd.returns) (fun _ hr => retN X0 hx (t := .boolean) Bd.returns (by simp) (hb hby d18_47) hr) e0 (by decide) (by decide) ?_
            exact ⟨(od (og1 hc3_1 hc9_2 hc15_3 (Or.inl hc21_4) (Or.inl hc33_5))), N0, rfl⟩
          · refine oa7 X0.here hx hby d18_33 (flt hc33_5).1 ?_
            refine oa X0.here hx hby d18_36 rfl ?_
            refine oc1 X0 hx hZ hown (oa0 hw 125 rfl) hby d18_37 ?_
            by_cases hc39_6 : (65533 : Int32) < cc
            · refine ob2 X0.here hx hby (pc' := 46) d18_39 (tlt hc39_6).2.2.1 (by decide) (by decide) ?_
              refine oa4 X0.here hx hby d18_46 (v := (0 : Int32)) (by decide) ?_
              refine oa9 X0 Bd.notSynchronized (v := some (.int 0)) (ob4 Bd.returns) (fun _ hr => retN X0 hx (t := .boolean) Bd.returns (by simp) (hb hby d18_47) hr) e0 (by decide) (by decide) ?_
              exact ⟨(od (og1 hc3_1 hc9_2 hc15_3 (Or.inl hc21_4) (Or.inr hc39_6))), N0, rfl⟩
            · refine oa7 X0.here hx hby d18_39 (flt hc39_6).2.2.1 ?_
              refine oa4 X0.here hx hby d18_42 (v := (1 : Int32)) (by decide) ?_
              refine oc X0.here hx hby (pc' := 47) d18_43 (by decide) (by decide) ?_
              refine oa9 X0 Bd.notSynchronized (v := some (.int 1)) (ob4 Bd.returns) (fun _ hr => retN X0 hx (t := .boolean) Bd.returns (by simp) (hb hby d18_47) hr) e0 (by decide) (by decide) ?_
              exact ⟨(od (of7 (Or.inr (Or.inr (Or.inr (Or.inr ⟨hc33_5, hc39_6⟩)))))), N0, rfl⟩
        · refine oa7 X0.here hx hby d18_21 (flt hc21_4).1 ?_
          refine oa X0.here hx hby d18_24 rfl ?_
          refine oc1 X0 hx hZ hown (oa0 hw 89 rfl) hby d18_25 ?_
          by_cases hc27_7 : (55295 : Int32) < cc
          · refine oa7 X0.here hx hby d18_27 (tlt hc27_7).2.2.2 ?_
            refine oa X0.here hx hby d18_30 rfl ?_
            refine oc1 X0 hx hZ hown (oa0 hw 82 rfl) hby d18_31 ?_
            by_cases hc33_8 : cc < (57344 : Int32)
            · refine ob2 X0.here hx hby (pc' := 46) d18_33 (tlt hc33_8).1 (by decide) (by decide) ?_
              refine oa4 X0.here hx hby d18_46 (v := (0 : Int32)) (by decide) ?_
              refine oa9 X0 Bd.notSynchronized (v := some (.int 0)) (ob4 Bd.returns) (fun _ hr => retN X0 hx (t := .boolean) Bd.returns (by simp) (hb hby d18_47) hr) e0 (by decide) (by decide) ?_
              exact ⟨(od (og1 hc3_1 hc9_2 hc15_3 (Or.inr hc27_7) (Or.inl hc33_8))), N0, rfl⟩
            · refine oa7 X0.here hx hby d18_33 (flt hc33_8).1 ?_
              refine oa X0.here hx hby d18_36 rfl ?_
              refine oc1 X0 hx hZ hown (oa0 hw 125 rfl) hby d18_37 ?_
              by_cases hc39_9 : (65533 : Int32) < cc
              · refine ob2 X0.here hx hby (pc' := 46) d18_39 (tlt hc39_9).2.2.1 (by decide) (by decide) ?_
                refine oa4 X0.here hx hby d18_46 (v := (0 : Int32)) (by decide) ?_
                refine oa9 X0 Bd.notSynchronized (v := some (.int 0)) (ob4 Bd.returns) (fun _ hr => retN X0 hx (t := .boolean) Bd.returns (by simp) (hb hby d18_47) hr) e0 (by decide) (by decide) ?_
                exact ⟨(od (og1 hc3_1 hc9_2 hc15_3 (Or.inr hc27_7) (Or.inr hc39_9))), N0, rfl⟩
              · refine oa7 X0.here hx hby d18_39 (flt hc39_9).2.2.1 ?_
                refine oa4 X0.here hx hby d18_42 (v := (1 : Int32)) (by decide) ?_
                refine oc X0.here hx hby (pc' := 47) d18_43 (by decide) (by decide) ?_
                refine oa9 X0 Bd.notSynchronized (v := some (.int 1)) (ob4 Bd.returns) (fun _ hr => retN X0 hx (t := .boolean) Bd.returns (by simp) (hb hby d18_47) hr) e0 (by decide) (by decide) ?_
                exact ⟨(od (of7 (Or.inr (Or.inr (Or.inr (Or.inr ⟨hc33_8, hc39_9⟩)))))), N0, rfl⟩
          · refine ob2 X0.here hx hby (pc' := 42) d18_27 (flt hc27_7).2.2.2 (by decide) (by decide) ?_
            refine oa4 X0.here hx hby d18_42 (v := (1 : Int32)) (by decide) ?_
            refine oc X0.here hx hby (pc' := 47) d18_43 (by decide) (by decide) ?_
            refine oa9 X0 Bd.notSynchronized (v := some (.int 1)) (ob4 Bd.returns) (fun _ hr => retN X0 hx (t := .boolean) Bd.returns (by simp) (hb hby d18_47) hr) e0 (by decide) (by decide) ?_
            exact ⟨(od (of7 (Or.inr (Or.inr (Or.inr (Or.inl ⟨hc21_4, hc27_7⟩)))))), N0, rfl⟩
theorem ef_expd_0 (m : MethodId) (x0 : Nat) (x1 : Int32) : entryFrame m #[(.ref x0), (.int x1)] 4 = mkF m 0 #[.val (.ref x0), .val (.int x1), .unset, .unset] [] := by first | (simp [entryFrame, mkF, argsToLocals, Value.category]; done) | rfl
theorem pn_15 : plainName "com/example/sluice/sluice/MessageDisallowedCharacterPinLaw" = true := by first | (simp [plainName, overriddenIn]; done) | decide +kernel
theorem d15_0 : decode method_8_code 0 = .ok (.iconst 0, 1) := by decide +kernel
theorem d15_1 : decode method_8_code 1 = .ok (.istore_n 2, 1) := by decide +kernel
theorem d15_2 : decode method_8_code 2 = .ok (.iload_n 2, 1) := by decide +kernel
theorem d15_3 : decode method_8_code 3 = .ok (.iload_n 1, 1) := by decide +kernel
theorem d15_4 : decode method_8_code 4 = .ok (.if_icmp .lt 5, 3) := by decide +kernel
theorem d15_7 : decode method_8_code 7 = .ok (.iconst (-1), 1) := by decide +kernel
theorem d15_8 : decode method_8_code 8 = .ok (.ireturn, 1) := by decide +kernel
def Q_expd_0 (Z : State) (sa : Nat) (ks : ClassId) (c0 : Int32) (c1 : Int32) (c2 : Int32) (h0 : Heap) (n0 : Nat) (vR : Option Value) (hR : Heap) (LR : List Loc) : Prop := vR = some (.int (-1)) ∧ Fr n0 LR ∧ hR = h0
theorem expd_0 (l : Launch) (Z : State) (a0 : Array Value) (hw : ∀ d ∈ tables_1, d.before a0 Z = true) (ws : List Jvm.Cond) (sa : Nat) (ks : ClassId) (c0 : Int32) (c1 : Int32) (c2 : Int32) (h0 : Heap) (n0 : Nat) (Z0 : n0 ≤ h0.size) (V_sa : Arv Z h0 sa ks .char (3 : Int32) [(.int c0), (.int c1), (.int c2)] (.int 0)) :
    oc2 l (⟨"com/example/sluice/sluice/MessageDisallowedCharacterPinLaw", "expected", "([CI)I"⟩ : MethodName) method_8_code 4 (some .int) ws ({ frames := 0, cells := 0, slots := 0, locals := 0 } : Room) Z #[(.ref sa), (.int 0)] h0 (Q_expd_0 Z sa ks c0 c1 c2 h0 n0) := by
  refine ob3 (own := "com/example/sluice/sluice/MessageDisallowedCharacterPinLaw") rfl (plainFor_of_name pn_15) (fun m => ef_expd_0 m sa (0 : Int32)) ?_
  intro p e s m below meth c s₁ Bd hml hZ hh hx hby hown X0 e0
  have N0 := Fr.nil n0
  have lt3 : h0.size > sa := V_sa.lt
  refine oa4 X0.here hx hby d15_0 (v := (0 : Int32)) (by decide) ?_
  refine oa6 X0.here hx hby d15_1 (l' := #[.val (.ref sa), .val (.int 0), .val (.int 0), .unset]) rfl ?_
  refine oa X0.here hx hby d15_2 rfl ?_
  refine oa X0.here hx hby d15_3 rfl ?_
  refine oa7 X0.here hx hby d15_4 (flt (show ¬ ((0 : Int32) < (0 : Int32)) from (by decide))).1 ?_
  refine oa4 X0.here hx hby d15_7 (v := (-1 : Int32)) (by decide) ?_
  refine oa9 X0 Bd.notSynchronized (v := some (.int (-1))) (ob4 Bd.returns) (fun _ hr => retOut X0 hx Bd.returns rfl (Or.inl ⟨rfl, Or.inl rfl, _, rfl⟩) (hb hby d15_8) hr) e0 (by decide) (by decide) ?_
  exact ⟨rfl, N0, rfl⟩
theorem ef_at_0_1_A (m : MethodId) (x0 : Nat) (x1 : Int32) (x2 : Int32) : entryFrame m #[(.ref x0), (.int x1), (.int x2)] 4 = mkF m 0 #[.val (.ref x0), .val (.int x1), .val (.int x2), .unset] [] := by first | (simp [entryFrame, mkF, argsToLocals, Value.category]; done) | rfl
theorem pn_16 : plainName "com/example/sluice/sluice/MessageDisallowedCharacterPinLaw" = true := by first | (simp [plainName, overriddenIn]; done) | decide +kernel
theorem d16_0 : decode method_7_code 0 = .ok (.aload_n 0, 1) := by decide +kernel
theorem d16_1 : decode method_7_code 1 = .ok (.iload_n 2, 1) := by decide +kernel
theorem d16_2 : decode method_7_code 2 = .ok (.caload, 1) := by decide +kernel
theorem d16_3 : decode method_7_code 3 = .ok (.istore_n 3, 1) := by decide +kernel
theorem d16_4 : decode method_7_code 4 = .ok (.iload_n 3, 1) := by decide +kernel
theorem d16_5 : decode method_7_code 5 = .ok (.invokestatic 36, 3) := by decide +kernel
theorem pd_1 : parseMethodDescriptor "(C)Z" = some ⟨[.char], some .boolean⟩ := by decide +kernel
theorem d16_8 : decode method_7_code 8 = .ok (.ifCond .eq 23, 3) := by decide +kernel
theorem d16_31 : decode method_7_code 31 = .ok (.iload_n 3, 1) := by decide +kernel
theorem d16_32 : decode method_7_code 32 = .ok (.invokestatic 43, 3) := by decide +kernel
theorem d16_35 : decode method_7_code 35 = .ok (.ifCond .eq 7, 3) := by decide +kernel
theorem d16_38 : decode method_7_code 38 = .ok (.iconst 1, 1) := by decide +kernel
theorem d16_39 : decode method_7_code 39 = .ok (.goto 4, 3) := by decide +kernel
theorem d16_43 : decode method_7_code 43 = .ok (.ireturn, 1) := by decide +kernel
theorem d16_11 : decode method_7_code 11 = .ok (.iload_n 2, 1) := by decide +kernel
theorem d16_12 : decode method_7_code 12 = .ok (.iconst 1, 1) := by decide +kernel
theorem d16_13 : decode method_7_code 13 = .ok (.iadd, 1) := by decide +kernel
theorem d16_14 : decode method_7_code 14 = .ok (.iload_n 1, 1) := by decide +kernel
theorem d16_15 : decode method_7_code 15 = .ok (.if_icmp .ge 16, 3) := by decide +kernel
def Q_at_0_1_A (Z : State) (sa : Nat) (ks : ClassId) (c0 : Int32) (c1 : Int32) (c2 : Int32) (h0 : Heap) (n0 : Nat) (vR : Option Value) (hR : Heap) (LR : List Loc) : Prop := vR = some (.int 1) ∧ Fr n0 LR ∧ hR = h0
theorem at_0_1_A (l : Launch) (Z : State) (a0 : Array Value) (hw : ∀ d ∈ tables_1, d.before a0 Z = true) (ws : List Jvm.Cond) (sa : Nat) (ks : ClassId) (c0 : Int32) (c1 : Int32) (c2 : Int32) (h0 : Heap) (n0 : Nat) (Z0 : n0 ≤ h0.size) (V_sa : Arv Z h0 sa ks .char (3 : Int32) [(.int c0), (.int c1), (.int c2)] (.int 0)) (hk : ¬ (ob0 c0 = (0 : Int32))) :
    oc2 l (⟨"com/example/sluice/sluice/MessageDisallowedCharacterPinLaw", "at", "([CII)I"⟩ : MethodName) method_7_code 4 (some .int) ws ({ frames := 1, cells := 0, slots := 0, locals := 12 } : Room) Z #[(.ref sa), (.int 1), (.int 0)] h0 (Q_at_0_1_A Z sa ks c0 c1 c2 h0 n0) := by
  refine ob3 (own := "com/example/sluice/sluice/MessageDisallowedCharacterPinLaw") rfl (plainFor_of_name pn_16) (fun m => ef_at_0_1_A m sa (1 : Int32) (0 : Int32)) ?_
  intro p e s m below meth c s₁ Bd hml hZ hh hx hby hown X0 e0
  have N0 := Fr.nil n0
  have lt3 : h0.size > sa := V_sa.lt
  refine oa2 X0.here hx hby d16_0 rfl rfl ?_
  refine oa X0.here hx hby d16_1 rfl ?_
  refine oc6 X0 hx hZ e0 V_sa ⟨by decide, by decide⟩ (v := (.int c0)) rfl hby d16_2 ?_
  refine oa6 X0.here hx hby d16_3 (l' := #[.val (.ref sa), .val (.int 1), .val (.int 0), .val (.int c0)]) rfl ?_
  refine oa X0.here hx hby d16_4 rfl ?_
  refine oa3 X0 hx hZ hown (oa0 hw 75 rfl) (oa0 hw 76 rfl) (oa0 hw 2 rfl) (oa0 hw 77 rfl) (by decide) (isHigh_ l Z a0 hw [] c0 h0 n0 Z0 ) 0 hml rfl (argsL := [(.int c0)]) (st := []) (lenOf pd_1 rfl) rfl rfl e0 hby d16_5 ?_
  intro T4 v4 L4 X4 hQ4
  obtain ⟨rfl, Nq4, eh4⟩ := hQ4
  have N4 := Fr.app N0 Nq4
  refine oa5 (T := T4) 8 #[.val (.ref sa), .val (.int 1), .val (.int 0), .val (.int c0)] [(.int (oc9 c0))] ?_
  by_cases hc8_5 : (oc9 c0) = (0 : Int32)
  · refine ob1 X4.here hx hby (pc' := 31) d16_8 ((if0 _ _).trans (teq hc8_5).1) (by decide) (by decide) ?_
    refine oa X4.here hx hby d16_31 rfl ?_
    refine oa3 X4 hx hZ hown (oa0 hw 79 rfl) (oa0 hw 80 rfl) (oa0 hw 2 rfl) (oa0 hw 81 rfl) (by decide) (bmpOk l Z a0 hw [] c0 h0 n0 Z0 ) 0 hml rfl (argsL := [(.int c0)]) (st := []) (lenOf pd_1 rfl) rfl rfl eh4 hby d16_32 ?_
    intro T6 v6 L6 X6 hQ6
    obtain ⟨rfl, Nq6, eh6⟩ := hQ6
    have N6 := Fr.app N4 Nq6
    refine oa5 (T := T6) 35 #[.val (.ref sa), .val (.int 1), .val (.int 0), .val (.int c0)] [(.int (ob0 c0))] ?_
    refine ob7 X6.here hx hby d16_35 ((if0 _ _).trans (feq hk).1) ?_
    refine oa4 X6.here hx hby d16_38 (v := (1 : Int32)) (by decide) ?_
    refine oc X6.here hx hby (pc' := 43) d16_39 (by decide) (by decide) ?_
    refine oa9 X6 Bd.notSynchronized (v := some (.int 1)) (ob4 Bd.returns) (fun _ hr => retOut X6 hx Bd.returns rfl (Or.inl ⟨rfl, Or.inl rfl, _, rfl⟩) (hb hby d16_43) hr) eh6 (by decide) (by decide) ?_
    exact ⟨rfl, N6, rfl⟩
  · refine ob7 X4.here hx hby d16_8 ((if0 _ _).trans (feq hc8_5).1) ?_
    refine oa X4.here hx hby d16_11 rfl ?_
    refine oa4 X4.here hx hby d16_12 (v := (1 : Int32)) (by decide) ?_
    refine oc8 X4.here hx hby d16_13 (v := (1 : Int32)) (by decide) ?_
    refine oa X4.here hx hby d16_14 rfl ?_
    refine ob2 X4.here hx hby (pc' := 31) d16_15 (flt (show ¬ ((1 : Int32) < (1 : Int32)) from (by decide))).2.1 (by decide) (by decide) ?_
    refine oa X4.here hx hby d16_31 rfl ?_
    refine oa3 X4 hx hZ hown (oa0 hw 79 rfl) (oa0 hw 80 rfl) (oa0 hw 2 rfl) (oa0 hw 81 rfl) (by decide) (bmpOk l Z a0 hw [] c0 h0 n0 Z0 ) 0 hml rfl (argsL := [(.int c0)]) (st := []) (lenOf pd_1 rfl) rfl rfl eh4 hby d16_32 ?_
    intro T7 v7 L7 X7 hQ7
    obtain ⟨rfl, Nq7, eh7⟩ := hQ7
    have N7 := Fr.app N4 Nq7
    refine oa5 (T := T7) 35 #[.val (.ref sa), .val (.int 1), .val (.int 0), .val (.int c0)] [(.int (ob0 c0))] ?_
    refine ob7 X7.here hx hby d16_35 ((if0 _ _).trans (feq hk).1) ?_
    refine oa4 X7.here hx hby d16_38 (v := (1 : Int32)) (by decide) ?_
    refine oc X7.here hx hby (pc' := 43) d16_39 (by decide) (by decide) ?_
    refine oa9 X7 Bd.notSynchronized (v := some (.int 1)) (ob4 Bd.returns) (fun _ hr => retOut X7 hx Bd.returns rfl (Or.inl ⟨rfl, Or.inl rfl, _, rfl⟩) (hb hby d16_43) hr) eh7 (by decide) (by decide) ?_
    exact ⟨rfl, N7, rfl⟩
theorem d16_42 : decode method_7_code 42 = .ok (.iconst (-1), 1) := by decide +kernel
def Q_at_0_1_D (Z : State) (sa : Nat) (ks : ClassId) (c0 : Int32) (c1 : Int32) (c2 : Int32) (h0 : Heap) (n0 : Nat) (vR : Option Value) (hR : Heap) (LR : List Loc) : Prop := vR = some (.int (-1)) ∧ Fr n0 LR ∧ hR = h0
theorem at_0_1_D (l : Launch) (Z : State) (a0 : Array Value) (hw : ∀ d ∈ tables_1, d.before a0 Z = true) (ws : List Jvm.Cond) (sa : Nat) (ks : ClassId) (c0 : Int32) (c1 : Int32) (c2 : Int32) (h0 : Heap) (n0 : Nat) (Z0 : n0 ≤ h0.size) (V_sa : Arv Z h0 sa ks .char (3 : Int32) [(.int c0), (.int c1), (.int c2)] (.int 0)) (hk : ob0 c0 = (0 : Int32)) :
    oc2 l (⟨"com/example/sluice/sluice/MessageDisallowedCharacterPinLaw", "at", "([CII)I"⟩ : MethodName) method_7_code 4 (some .int) ws ({ frames := 1, cells := 0, slots := 0, locals := 12 } : Room) Z #[(.ref sa), (.int 1), (.int 0)] h0 (Q_at_0_1_D Z sa ks c0 c1 c2 h0 n0) := by
  refine ob3 (own := "com/example/sluice/sluice/MessageDisallowedCharacterPinLaw") rfl (plainFor_of_name pn_16) (fun m => ef_at_0_1_A m sa (1 : Int32) (0 : Int32)) ?_
  intro p e s m below meth c s₁ Bd hml hZ hh hx hby hown X0 e0
  have N0 := Fr.nil n0
  have lt3 : h0.size > sa := V_sa.lt
  refine oa2 X0.here hx hby d16_0 rfl rfl ?_
  refine oa X0.here hx hby d16_1 rfl ?_
  refine oc6 X0 hx hZ e0 V_sa ⟨by decide, by decide⟩ (v := (.int c0)) rfl hby d16_2 ?_
  refine oa6 X0.here hx hby d16_3 (l' := #[.val (.ref sa), .val (.int 1), .val (.int 0), .val (.int c0)]) rfl ?_
  refine oa X0.here hx hby d16_4 rfl ?_
  refine oa3 X0 hx hZ hown (oa0 hw 75 rfl) (oa0 hw 76 rfl) (oa0 hw 2 rfl) (oa0 hw 77 rfl) (by decide) (isHigh_ l Z a0 hw [] c0 h0 n0 Z0 ) 0 hml rfl (argsL := [(.int c0)]) (st := []) (lenOf pd_1 rfl) rfl rfl e0 hby d16_5 ?_
  intro T4 v4 L4 X4 hQ4
  obtain ⟨rfl, Nq4, eh4⟩ := hQ4
  have N4 := Fr.app N0 Nq4
  refine oa5 (T := T4) 8 #[.val (.ref sa), .val (.int 1), .val (.int 0), .val (.int c0)] [(.int (oc9 c0))] ?_
  by_cases hc8_5 : (oc9 c0) = (0 : Int32)
  · refine ob1 X4.here hx hby (pc' := 31) d16_8 ((if0 _ _).trans (teq hc8_5).1) (by decide) (by decide) ?_
    refine oa X4.here hx hby d16_31 rfl ?_
    refine oa3 X4 hx hZ hown (oa0 hw 79 rfl) (oa0 hw 80 rfl) (oa0 hw 2 rfl) (oa0 hw 81 rfl) (by decide) (bmpOk l Z a0 hw [] c0 h0 n0 Z0 ) 0 hml rfl (argsL := [(.int c0)]) (st := []) (lenOf pd_1 rfl) rfl rfl eh4 hby d16_32 ?_
    intro T6 v6 L6 X6 hQ6
    obtain ⟨rfl, Nq6, eh6⟩ := hQ6
    have N6 := Fr.app N4 Nq6
    refine oa5 (T := T6) 35 #[.val (.ref sa), .val (.int 1), .val (.int 0), .val (.int c0)] [(.int (ob0 c0))] ?_
    refine ob1 X6.here hx hby (pc' := 42) d16_35 ((if0 _ _).trans (teq hk).1) (by decide) (by decide) ?_
    refine oa4 X6.here hx hby d16_42 (v := (-1 : Int32)) (by decide) ?_
    refine oa9 X6 Bd.notSynchronized (v := some (.int (-1))) (ob4 Bd.returns) (fun _ hr => retOut X6 hx Bd.returns rfl (Or.inl ⟨rfl, Or.inl rfl, _, rfl⟩) (hb hby d16_43) hr) eh6 (by decide) (by decide) ?_
    exact ⟨rfl, N6, rfl⟩
  · refine ob7 X4.here hx hby d16_8 ((if0 _ _).trans (feq hc8_5).1) ?_
    refine oa X4.here hx hby d16_11 rfl ?_
    refine oa4 X4.here hx hby d16_12 (v := (1 : Int32)) (by decide) ?_
    refine oc8 X4.here hx hby d16_13 (v := (1 : Int32)) (by decide) ?_
    refine oa X4.here hx hby d16_14 rfl ?_
    refine ob2 X4.here hx hby (pc' := 31) d16_15 (flt (show ¬ ((1 : Int32) < (1 : Int32)) from (by decide))).2.1 (by decide) (by decide) ?_
    refine oa X4.here hx hby d16_31 rfl ?_
    refine oa3 X4 hx hZ hown (oa0 hw 79 rfl) (oa0 hw 80 rfl) (oa0 hw 2 rfl) (oa0 hw 81 rfl) (by decide) (bmpOk l Z a0 hw [] c0 h0 n0 Z0 ) 0 hml rfl (argsL := [(.int c0)]) (st := []) (lenOf pd_1 rfl) rfl rfl eh4 hby d16_32 ?_
    intro T7 v7 L7 X7 hQ7
    obtain ⟨rfl, Nq7, eh7⟩ := hQ7
    have N7 := Fr.app N4 Nq7
    refine oa5 (T := T7) 35 #[.val (.ref sa), .val (.int 1), .val (.int 0), .val (.int c0)] [(.int (ob0 c0))] ?_
    refine ob1 X7.here hx hby (pc' := 42) d16_35 ((if0 _ _).trans (teq hk).1) (by decide) (by decide) ?_
    refine oa4 X7.here hx hby d16_42 (v := (-1 : Int32)) (by decide) ?_
    refine oa9 X7 Bd.notSynchronized (v := some (.int (-1))) (ob4 Bd.returns) (fun _ hr => retOut X7 hx Bd.returns rfl (Or.inl ⟨rfl, Or.inl rfl, _, rfl⟩) (hb hby d16_43) hr) eh7 (by decide) (by decide) ?_
    exact ⟨rfl, N7, rfl⟩
theorem d15_9 : decode method_8_code 9 = .ok (.aload_n 0, 1) := by decide +kernel
theorem d15_10 : decode method_8_code 10 = .ok (.iload_n 1, 1) := by decide +kernel
theorem d15_11 : decode method_8_code 11 = .ok (.iload_n 2, 1) := by decide +kernel
theorem d15_12 : decode method_8_code 12 = .ok (.invokestatic 46, 3) := by decide +kernel
theorem pd_2 : parseMethodDescriptor "([CII)I" = some ⟨[(.array .char), .int, .int], some .int⟩ := by decide +kernel
theorem d15_15 : decode method_8_code 15 = .ok (.istore_n 3, 1) := by decide +kernel
theorem d15_16 : decode method_8_code 16 = .ok (.iload_n 3, 1) := by decide +kernel
theorem d15_17 : decode method_8_code 17 = .ok (.ifCond .ge 5, 3) := by decide +kernel
theorem d15_20 : decode method_8_code 20 = .ok (.iload_n 2, 1) := by decide +kernel
theorem d15_21 : decode method_8_code 21 = .ok (.ireturn, 1) := by decide +kernel
theorem d15_22 : decode method_8_code 22 = .ok (.iload_n 2, 1) := by decide +kernel
theorem d15_23 : decode method_8_code 23 = .ok (.iload_n 3, 1) := by decide +kernel
theorem d15_24 : decode method_8_code 24 = .ok (.iadd, 1) := by decide +kernel
theorem d15_25 : decode method_8_code 25 = .ok (.istore_n 2, 1) := by decide +kernel
theorem d15_26 : decode method_8_code 26 = .ok (.iload_n 2, 1) := by decide +kernel
theorem d15_27 : decode method_8_code 27 = .ok (.iload_n 1, 1) := by decide +kernel
theorem d15_28 : decode method_8_code 28 = .ok (.if_icmp .lt 5, 3) := by decide +kernel
theorem d15_31 : decode method_8_code 31 = .ok (.iconst (-1), 1) := by decide +kernel
theorem d15_32 : decode method_8_code 32 = .ok (.ireturn, 1) := by decide +kernel
def Q_expd_1 (Z : State) (sa : Nat) (ks : ClassId) (c0 : Int32) (c1 : Int32) (c2 : Int32) (h0 : Heap) (n0 : Nat) (vR : Option Value) (hR : Heap) (LR : List Loc) : Prop := vR = some (.int (oe0 (0 : Int32) c0)) ∧ Fr n0 LR ∧ hR = h0
theorem expd_1 (l : Launch) (Z : State) (a0 : Array Value) (hw : ∀ d ∈ tables_1, d.before a0 Z = true) (ws : List Jvm.Cond) (sa : Nat) (ks : ClassId) (c0 : Int32) (c1 : Int32) (c2 : Int32) (h0 : Heap) (n0 : Nat) (Z0 : n0 ≤ h0.size) (V_sa : Arv Z h0 sa ks .char (3 : Int32) [(.int c0), (.int c1), (.int c2)] (.int 0)) :
    oc2 l (⟨"com/example/sluice/sluice/MessageDisallowedCharacterPinLaw", "expected", "([CI)I"⟩ : MethodName) method_8_code 4 (some .int) ws ({ frames := 2, cells := 0, slots := 0, locals := 27 } : Room) Z #[(.ref sa), (.int 1)] h0 (Q_expd_1 Z sa ks c0 c1 c2 h0 n0) := by
  refine ob3 (own := "com/example/sluice/sluice/MessageDisallowedCharacterPinLaw") rfl (plainFor_of_name pn_15) (fun m => ef_expd_0 m sa (1 : Int32)) ?_
  intro p e s m below meth c s₁ Bd hml hZ hh hx hby hown X0 e0
  have N0 := Fr.nil n0
  have lt3 : h0.size > sa := V_sa.lt
  refine oa4 X0.here hx hby d15_0 (v := (0 : Int32)) (by decide) ?_
  refine oa6 X0.here hx hby d15_1 (l' := #[.val (.ref sa), .val (.int 1), .val (.int 0), .unset]) rfl ?_
  refine oa X0.here hx hby d15_2 rfl ?_
  refine oa X0.here hx hby d15_3 rfl ?_
  refine ob2 X0.here hx hby (pc' := 9) d15_4 (tlt (show (0 : Int32) < (1 : Int32) from (by decide))).1 (by decide) (by decide) ?_
  refine oa2 X0.here hx hby d15_9 rfl rfl ?_
  refine oa X0.here hx hby d15_10 rfl ?_
  refine oa X0.here hx hby d15_11 rfl ?_
  refine oa5 (T := s₁) 12 #[.val (.ref sa), .val (.int 1), .val (.int 0), .unset] [(.int 0), (.int 1), (.ref sa)] ?_
  by_cases hk0 : ob0 c0 = (0 : Int32)
  · refine oa3 X0 hx hZ hown (oa0 hw 72 rfl) (oa0 hw 73 rfl) (oa0 hw 2 rfl) (oa0 hw 74 rfl) (by decide) (at_0_1_D l Z a0 hw [] sa ks c0 c1 c2 h0 n0 Z0 V_sa hk0) 0 hml rfl (argsL := [(.ref sa), (.int 1), (.int 0)]) (st := []) (lenOf pd_2 rfl) rfl rfl e0 hby d15_12 ?_
    intro T4 v4 L4 X4 hQ4
    obtain ⟨rfl, Nq4, eh4⟩ := hQ4
    have N4 := Fr.app N0 Nq4
    refine oa5 (T := T4) 15 #[.val (.ref sa), .val (.int 1), .val (.int 0), .unset] [(.int (-1))] ?_
    refine oa6 X4.here hx hby d15_15 (l' := #[.val (.ref sa), .val (.int 1), .val (.int 0), .val (.int (-1))]) rfl ?_
    refine oa X4.here hx hby d15_16 rfl ?_
    refine ob7 X4.here hx hby d15_17 ((if0 _ _).trans (tlt (show (-1 : Int32) < (0 : Int32) from (by decide))).2.1) ?_
    refine oa X4.here hx hby d15_20 rfl ?_
    refine oa9 X4 Bd.notSynchronized (v := some (.int 0)) (ob4 Bd.returns) (fun _ hr => retOut X4 hx Bd.returns rfl (Or.inl ⟨rfl, Or.inl rfl, _, rfl⟩) (hb hby d15_21) hr) eh4 (by decide) (by decide) ?_
    exact ⟨(od (by rw [oe0, if_pos hk0])), N4, rfl⟩
  · refine oa3 X0 hx hZ hown (oa0 hw 72 rfl) (oa0 hw 73 rfl) (oa0 hw 2 rfl) (oa0 hw 74 rfl) (by decide) (at_0_1_A l Z a0 hw [] sa ks c0 c1 c2 h0 n0 Z0 V_sa hk0) 0 hml rfl (argsL := [(.ref sa), (.int 1), (.int 0)]) (st := []) (lenOf pd_2 rfl) rfl rfl e0 hby d15_12 ?_
    intro T5 v5 L5 X5 hQ5
    obtain ⟨rfl, Nq5, eh5⟩ := hQ5
    have N5 := Fr.app N0 Nq5
    refine oa5 (T := T5) 15 #[.val (.ref sa), .val (.int 1), .val (.int 0), .unset] [(.int 1)] ?_
    refine oa6 X5.here hx hby d15_15 (l' := #[.val (.ref sa), .val (.int 1), .val (.int 0), .val (.int 1)]) rfl ?_
    refine oa X5.here hx hby d15_16 rfl ?_
    refine ob1 X5.here hx hby (pc' := 22) d15_17 ((if0 _ _).trans (flt (show ¬ ((1 : Int32) < (0 : Int32)) from (by decide))).2.1) (by decide) (by decide) ?_
    refine oa X5.here hx hby d15_22 rfl ?_
    refine oa X5.here hx hby d15_23 rfl ?_
    refine oc8 X5.here hx hby d15_24 (v := (1 : Int32)) (by decide) ?_
    refine oa6 X5.here hx hby d15_25 (l' := #[.val (.ref sa), .val (.int 1), .val (.int 1), .val (.int 1)]) rfl ?_
    refine oa X5.here hx hby d15_26 rfl ?_
    refine oa X5.here hx hby d15_27 rfl ?_
    refine oa7 X5.here hx hby d15_28 (flt (show ¬ ((1 : Int32) < (1 : Int32)) from (by decide))).1 ?_
    refine oa4 X5.here hx hby d15_31 (v := (-1 : Int32)) (by decide) ?_
    refine oa9 X5 Bd.notSynchronized (v := some (.int (-1))) (ob4 Bd.returns) (fun _ hr => retOut X5 hx Bd.returns rfl (Or.inl ⟨rfl, Or.inl rfl, _, rfl⟩) (hb hby d15_32) hr) eh5 (by decide) (by decide) ?_
    exact ⟨(od (by rw [oe0, if_neg hk0])), N5, rfl⟩
theorem d16_18 : decode method_7_code 18 = .ok (.aload_n 0, 1) := by decide +kernel
theorem d16_19 : decode method_7_code 19 = .ok (.iload_n 2, 1) := by decide +kernel
theorem d16_20 : decode method_7_code 20 = .ok (.iconst 1, 1) := by decide +kernel
theorem d16_21 : decode method_7_code 21 = .ok (.iadd, 1) := by decide +kernel
theorem d16_22 : decode method_7_code 22 = .ok (.caload, 1) := by decide +kernel
theorem d16_23 : decode method_7_code 23 = .ok (.invokestatic 40, 3) := by decide +kernel
theorem d16_26 : decode method_7_code 26 = .ok (.ifCond .eq 5, 3) := by decide +kernel
theorem d16_29 : decode method_7_code 29 = .ok (.iconst 2, 1) := by decide +kernel
theorem d16_30 : decode method_7_code 30 = .ok (.ireturn, 1) := by decide +kernel
def Q_at_0_2_P (Z : State) (sa : Nat) (ks : ClassId) (c0 : Int32) (c1 : Int32) (c2 : Int32) (h0 : Heap) (n0 : Nat) (vR : Option Value) (hR : Heap) (LR : List Loc) : Prop := vR = some (.int 2) ∧ Fr n0 LR ∧ hR = h0
theorem at_0_2_P (l : Launch) (Z : State) (a0 : Array Value) (hw : ∀ d ∈ tables_1, d.before a0 Z = true) (ws : List Jvm.Cond) (sa : Nat) (ks : ClassId) (c0 : Int32) (c1 : Int32) (c2 : Int32) (h0 : Heap) (n0 : Nat) (Z0 : n0 ≤ h0.size) (V_sa : Arv Z h0 sa ks .char (3 : Int32) [(.int c0), (.int c1), (.int c2)] (.int 0)) (hp : od1 c0 c1 = true) :
    oc2 l (⟨"com/example/sluice/sluice/MessageDisallowedCharacterPinLaw", "at", "([CII)I"⟩ : MethodName) method_7_code 4 (some .int) ws ({ frames := 1, cells := 0, slots := 0, locals := 12 } : Room) Z #[(.ref sa), (.int 2), (.int 0)] h0 (Q_at_0_2_P Z sa ks c0 c1 c2 h0 n0) := by
  refine ob3 (own := "com/example/sluice/sluice/MessageDisallowedCharacterPinLaw") rfl (plainFor_of_name pn_16) (fun m => ef_at_0_1_A m sa (2 : Int32) (0 : Int32)) ?_
  intro p e s m below meth c s₁ Bd hml hZ hh hx hby hown X0 e0
  have N0 := Fr.nil n0
  have lt3 : h0.size > sa := V_sa.lt
  refine oa2 X0.here hx hby d16_0 rfl rfl ?_
  refine oa X0.here hx hby d16_1 rfl ?_
  refine oc6 X0 hx hZ e0 V_sa ⟨by decide, by decide⟩ (v := (.int c0)) rfl hby d16_2 ?_
  refine oa6 X0.here hx hby d16_3 (l' := #[.val (.ref sa), .val (.int 2), .val (.int 0), .val (.int c0)]) rfl ?_
  refine oa X0.here hx hby d16_4 rfl ?_
  refine oa3 X0 hx hZ hown (oa0 hw 75 rfl) (oa0 hw 76 rfl) (oa0 hw 2 rfl) (oa0 hw 77 rfl) (by decide) (isHigh_ l Z a0 hw [] c0 h0 n0 Z0 ) 0 hml rfl (argsL := [(.int c0)]) (st := []) (lenOf pd_1 rfl) rfl rfl e0 hby d16_5 ?_
  intro T4 v4 L4 X4 hQ4
  obtain ⟨rfl, Nq4, eh4⟩ := hQ4
  have N4 := Fr.app N0 Nq4
  refine oa5 (T := T4) 8 #[.val (.ref sa), .val (.int 2), .val (.int 0), .val (.int c0)] [(.int (oc9 c0))] ?_
  refine ob7 X4.here hx hby d16_8 ((if0 _ _).trans (feq (show ¬ ((oc9 c0) = (0 : Int32)) from og (og4 hp).1)).1) ?_
  refine oa X4.here hx hby d16_11 rfl ?_
  refine oa4 X4.here hx hby d16_12 (v := (1 : Int32)) (by decide) ?_
  refine oc8 X4.here hx hby d16_13 (v := (1 : Int32)) (by decide) ?_
  refine oa X4.here hx hby d16_14 rfl ?_
  refine oa7 X4.here hx hby d16_15 (tlt (show (1 : Int32) < (2 : Int32) from (by decide))).2.1 ?_
  refine oa2 X4.here hx hby d16_18 rfl rfl ?_
  refine oa X4.here hx hby d16_19 rfl ?_
  refine oa4 X4.here hx hby d16_20 (v := (1 : Int32)) (by decide) ?_
  refine oc8 X4.here hx hby d16_21 (v := (1 : Int32)) (by decide) ?_
  refine oc6 X4 hx hZ eh4 V_sa ⟨by decide, by decide⟩ (v := (.int c1)) rfl hby d16_22 ?_
  refine oa3 X4 hx hZ hown (oa0 hw 129 rfl) (oa0 hw 130 rfl) (oa0 hw 2 rfl) (oa0 hw 131 rfl) (by decide) (isLow_ l Z a0 hw [] c1 h0 n0 Z0 ) 0 hml rfl (argsL := [(.int c1)]) (st := []) (lenOf pd_1 rfl) rfl rfl eh4 hby d16_23 ?_
  intro T5 v5 L5 X5 hQ5
  obtain ⟨rfl, Nq5, eh5⟩ := hQ5
  have N5 := Fr.app N4 Nq5
  refine oa5 (T := T5) 26 #[.val (.ref sa), .val (.int 2), .val (.int 0), .val (.int c0)] [(.int (od7 c1))] ?_
  refine ob7 X5.here hx hby d16_26 ((if0 _ _).trans (feq (show ¬ ((od7 c1) = (0 : Int32)) from og (og4 hp).2)).1) ?_
  refine oa4 X5.here hx hby d16_29 (v := (2 : Int32)) (by decide) ?_
  refine oa9 X5 Bd.notSynchronized (v := some (.int 2)) (ob4 Bd.returns) (fun _ hr => retOut X5 hx Bd.returns rfl (Or.inl ⟨rfl, Or.inl rfl, _, rfl⟩) (hb hby d16_30) hr) eh5 (by decide) (by decide) ?_
  exact ⟨rfl, N5, rfl⟩
def Q_at_0_2_A (Z : State) (sa : Nat) (ks : ClassId) (c0 : Int32) (c1 : Int32) (c2 : Int32) (h0 : Heap) (n0 : Nat) (vR : Option Value) (hR : Heap) (LR : List Loc) : Prop := vR = some (.int 1) ∧ Fr n0 LR ∧ hR = h0
theorem at_0_2_A (l : Launch) (Z : State) (a0 : Array Value) (hw : ∀ d ∈ tables_1, d.before a0 Z = true) (ws : List Jvm.Cond) (sa : Nat) (ks : ClassId) (c0 : Int32) (c1 : Int32) (c2 : Int32) (h0 : Heap) (n0 : Nat) (Z0 : n0 ≤ h0.size) (V_sa : Arv Z h0 sa ks .char (3 : Int32) [(.int c0), (.int c1), (.int c2)] (.int 0)) (hp : od1 c0 c1 = false) (hk : ¬ (ob0 c0 = (0 : Int32))) :
    oc2 l (⟨"com/example/sluice/sluice/MessageDisallowedCharacterPinLaw", "at", "([CII)I"⟩ : MethodName) method_7_code 4 (some .int) ws ({ frames := 1, cells := 0, slots := 0, locals := 12 } : Room) Z #[(.ref sa), (.int 2), (.int 0)] h0 (Q_at_0_2_A Z sa ks c0 c1 c2 h0 n0) := by
  refine ob3 (own := "com/example/sluice/sluice/MessageDisallowedCharacterPinLaw") rfl (plainFor_of_name pn_16) (fun m => ef_at_0_1_A m sa (2 : Int32) (0 : Int32)) ?_
  intro p e s m below meth c s₁ Bd hml hZ hh hx hby hown X0 e0
  have N0 := Fr.nil n0
  have lt3 : h0.size > sa := V_sa.lt
  refine oa2 X0.here hx hby d16_0 rfl rfl ?_
  refine oa X0.here hx hby d16_1 rfl ?_
  refine oc6 X0 hx hZ e0 V_sa ⟨by decide, by decide⟩ (v := (.int c0)) rfl hby d16_2 ?_
  refine oa6 X0.here hx hby d16_3 (l' := #[.val (.ref sa), .val (.int 2), .val (.int 0), .val (.int c0)]) rfl ?_
  refine oa X0.here hx hby d16_4 rfl ?_
  refine oa3 X0 hx hZ hown (oa0 hw 75 rfl) (oa0 hw 76 rfl) (oa0 hw 2 rfl) (oa0 hw 77 rfl) (by decide) (isHigh_ l Z a0 hw [] c0 h0 n0 Z0 ) 0 hml rfl (argsL := [(.int c0)]) (st := []) (lenOf pd_1 rfl) rfl rfl e0 hby d16_5 ?_
  intro T4 v4 L4 X4 hQ4
  obtain ⟨rfl, Nq4, eh4⟩ := hQ4
  have N4 := Fr.app N0 Nq4
  refine oa5 (T := T4) 8 #[.val (.ref sa), .val (.int 2), .val (.int 0), .val (.int c0)] [(.int (oc9 c0))] ?_
  by_cases hc8_5 : (oc9 c0) = (0 : Int32)
  · refine ob1 X4.here hx hby (pc' := 31) d16_8 ((if0 _ _).trans (teq hc8_5).1) (by decide) (by decide) ?_
    refine oa X4.here hx hby d16_31 rfl ?_
    refine oa3 X4 hx hZ hown (oa0 hw 79 rfl) (oa0 hw 80 rfl) (oa0 hw 2 rfl) (oa0 hw 81 rfl) (by decide) (bmpOk l Z a0 hw [] c0 h0 n0 Z0 ) 0 hml rfl (argsL := [(.int c0)]) (st := []) (lenOf pd_1 rfl) rfl rfl eh4 hby d16_32 ?_
    intro T6 v6 L6 X6 hQ6
    obtain ⟨rfl, Nq6, eh6⟩ := hQ6
    have N6 := Fr.app N4 Nq6
    refine oa5 (T := T6) 35 #[.val (.ref sa), .val (.int 2), .val (.int 0), .val (.int c0)] [(.int (ob0 c0))] ?_
    refine ob7 X6.here hx hby d16_35 ((if0 _ _).trans (feq hk).1) ?_
    refine oa4 X6.here hx hby d16_38 (v := (1 : Int32)) (by decide) ?_
    refine oc X6.here hx hby (pc' := 43) d16_39 (by decide) (by decide) ?_
    refine oa9 X6 Bd.notSynchronized (v := some (.int 1)) (ob4 Bd.returns) (fun _ hr => retOut X6 hx Bd.returns rfl (Or.inl ⟨rfl, Or.inl rfl, _, rfl⟩) (hb hby d16_43) hr) eh6 (by decide) (by decide) ?_
    exact ⟨rfl, N6, rfl⟩
  · refine ob7 X4.here hx hby d16_8 ((if0 _ _).trans (feq hc8_5).1) ?_
    refine oa X4.here hx hby d16_11 rfl ?_
    refine oa4 X4.here hx hby d16_12 (v := (1 : Int32)) (by decide) ?_
    refine oc8 X4.here hx hby d16_13 (v := (1 : Int32)) (by decide) ?_
    refine oa X4.here hx hby d16_14 rfl ?_
    refine oa7 X4.here hx hby d16_15 (tlt (show (1 : Int32) < (2 : Int32) from (by decide))).2.1 ?_
    refine oa2 X4.here hx hby d16_18 rfl rfl ?_
    refine oa X4.here hx hby d16_19 rfl ?_
    refine oa4 X4.here hx hby d16_20 (v := (1 : Int32)) (by decide) ?_
    refine oc8 X4.here hx hby d16_21 (v := (1 : Int32)) (by decide) ?_
    refine oc6 X4 hx hZ eh4 V_sa ⟨by decide, by decide⟩ (v := (.int c1)) rfl hby d16_22 ?_
    refine oa3 X4 hx hZ hown (oa0 hw 129 rfl) (oa0 hw 130 rfl) (oa0 hw 2 rfl) (oa0 hw 131 rfl) (by decide) (isLow_ l Z a0 hw [] c1 h0 n0 Z0 ) 0 hml rfl (argsL := [(.int c1)]) (st := []) (lenOf pd_1 rfl) rfl rfl eh4 hby d16_23 ?_
    intro T7 v7 L7 X7 hQ7
    obtain ⟨rfl, Nq7, eh7⟩ := hQ7
    have N7 := Fr.app N4 Nq7
    refine oa5 (T := T7) 26 #[.val (.ref sa), .val (.int 2), .val (.int 0), .val (.int c0)] [(.int (od7 c1))] ?_
    by_cases hc26_8 : (od7 c1) = (0 : Int32)
    · refine ob1 X7.here hx hby (pc' := 31) d16_26 ((if0 _ _).trans (teq hc26_8).1) (by decide) (by decide) ?_
      refine oa X7.here hx hby d16_31 rfl ?_
      refine oa3 X7 hx hZ hown (oa0 hw 79 rfl) (oa0 hw 80 rfl) (oa0 hw 2 rfl) (oa0 hw 81 rfl) (by decide) (bmpOk l Z a0 hw [] c0 h0 n0 Z0 ) 0 hml rfl (argsL := [(.int c0)]) (st := []) (lenOf pd_1 rfl) rfl rfl eh7 hby d16_32 ?_
      intro T9 v9 L9 X9 hQ9
      obtain ⟨rfl, Nq9, eh9⟩ := hQ9
      have N9 := Fr.app N7 Nq9
      refine oa5 (T := T9) 35 #[.val (.ref sa), .val (.int 2), .val (.int 0), .val (.int c0)] [(.int (ob0 c0))] ?_
      refine ob7 X9.here hx hby d16_35 ((if0 _ _).trans (feq hk).1) ?_
      refine oa4 X9.here hx hby d16_38 (v := (1 : Int32)) (by decide) ?_
      refine oc X9.here hx hby (pc' := 43) d16_39 (by decide) (by decide) ?_
      refine oa9 X9 Bd.notSynchronized (v := some (.int 1)) (ob4 Bd.returns) (fun _ hr => retOut X9 hx Bd.returns rfl (Or.inl ⟨rfl, Or.inl rfl, _, rfl⟩) (hb hby d16_43) hr) eh9 (by decide) (by decide) ?_
      exact ⟨rfl, N9, rfl⟩
    · refine ob7 X7.here hx hby d16_26 ((if0 _ _).trans (feq hc26_8).1) ?_
      exact (own_pX hp hc8_5 hc26_8).elim
def Q_at_0_2_D (Z : State) (sa : Nat) (ks : ClassId) (c0 : Int32) (c1 : Int32) (c2 : Int32) (h0 : Heap) (n0 : Nat) (vR : Option Value) (hR : Heap) (LR : List Loc) : Prop := vR = some (.int (-1)) ∧ Fr n0 LR ∧ hR = h0
theorem at_0_2_D (l : Launch) (Z : State) (a0 : Array Value) (hw : ∀ d ∈ tables_1, d.before a0 Z = true) (ws : List Jvm.Cond) (sa : Nat) (ks : ClassId) (c0 : Int32) (c1 : Int32) (c2 : Int32) (h0 : Heap) (n0 : Nat) (Z0 : n0 ≤ h0.size) (V_sa : Arv Z h0 sa ks .char (3 : Int32) [(.int c0), (.int c1), (.int c2)] (.int 0)) (hp : od1 c0 c1 = false) (hk : ob0 c0 = (0 : Int32)) :
    oc2 l (⟨"com/example/sluice/sluice/MessageDisallowedCharacterPinLaw", "at", "([CII)I"⟩ : MethodName) method_7_code 4 (some .int) ws ({ frames := 1, cells := 0, slots := 0, locals := 12 } : Room) Z #[(.ref sa), (.int 2), (.int 0)] h0 (Q_at_0_2_D Z sa ks c0 c1 c2 h0 n0) := by
  refine ob3 (own := "com/example/sluice/sluice/MessageDisallowedCharacterPinLaw") rfl (plainFor_of_name pn_16) (fun m => ef_at_0_1_A m sa (2 : Int32) (0 : Int32)) ?_
  intro p e s m below meth c s₁ Bd hml hZ hh hx hby hown X0 e0
  have N0 := Fr.nil n0
  have lt3 : h0.size > sa := V_sa.lt
  refine oa2 X0.here hx hby d16_0 rfl rfl ?_
  refine oa X0.here hx hby d16_1 rfl ?_
  refine oc6 X0 hx hZ e0 V_sa ⟨by decide, by decide⟩ (v := (.int c0)) rfl hby d16_2 ?_
  refine oa6 X0.here hx hby d16_3 (l' := #[.val (.ref sa), .val (.int 2), .val (.int 0), .val (.int c0)]) rfl ?_
  refine oa X0.here hx hby d16_4 rfl ?_
  refine oa3 X0 hx hZ hown (oa0 hw 75 rfl) (oa0 hw 76 rfl) (oa0 hw 2 rfl) (oa0 hw 77 rfl) (by decide) (isHigh_ l Z a0 hw [] c0 h0 n0 Z0 ) 0 hml rfl (argsL := [(.int c0)]) (st := []) (lenOf pd_1 rfl) rfl rfl e0 hby d16_5 ?_
  intro T4 v4 L4 X4 hQ4
  obtain ⟨rfl, Nq4, eh4⟩ := hQ4
  have N4 := Fr.app N0 Nq4
  refine oa5 (T := T4) 8 #[.val (.ref sa), .val (.int 2), .val (.int 0), .val (.int c0)] [(.int (oc9 c0))] ?_
  by_cases hc8_5 : (oc9 c0) = (0 : Int32)
  · refine ob1 X4.here hx hby (pc' := 31) d16_8 ((if0 _ _).trans (teq hc8_5).1) (by decide) (by decide) ?_
    refine oa X4.here hx hby d16_31 rfl ?_
    refine oa3 X4 hx hZ hown (oa0 hw 79 rfl) (oa0 hw 80 rfl) (oa0 hw 2 rfl) (oa0 hw 81 rfl) (by decide) (bmpOk l Z a0 hw [] c0 h0 n0 Z0 ) 0 hml rfl (argsL := [(.int c0)]) (st := []) (lenOf pd_1 rfl) rfl rfl eh4 hby d16_32 ?_
    intro T6 v6 L6 X6 hQ6
    obtain ⟨rfl, Nq6, eh6⟩ := hQ6
    have N6 := Fr.app N4 Nq6
    refine oa5 (T := T6) 35 #[.val (.ref sa), .val (.int 2), .val (.int 0), .val (.int c0)] [(.int (ob0 c0))] ?_
    refine ob1 X6.here hx hby (pc' := 42) d16_35 ((if0 _ _).trans (teq hk).1) (by decide) (by decide) ?_
    refine oa4 X6.here hx hby d16_42 (v := (-1 : Int32)) (by decide) ?_
    refine oa9 X6 Bd.notSynchronized (v := some (.int (-1))) (ob4 Bd.returns) (fun _ hr => retOut X6 hx Bd.returns rfl (Or.inl ⟨rfl, Or.inl rfl, _, rfl⟩) (hb hby d16_43) hr) eh6 (by decide) (by decide) ?_
    exact ⟨rfl, N6, rfl⟩
  · refine ob7 X4.here hx hby d16_8 ((if0 _ _).trans (feq hc8_5).1) ?_
    refine oa X4.here hx hby d16_11 rfl ?_
    refine oa4 X4.here hx hby d16_12 (v := (1 : Int32)) (by decide) ?_
    refine oc8 X4.here hx hby d16_13 (v := (1 : Int32)) (by decide) ?_
    refine oa X4.here hx hby d16_14 rfl ?_
    refine oa7 X4.here hx hby d16_15 (tlt (show (1 : Int32) < (2 : Int32) from (by decide))).2.1 ?_
    refine oa2 X4.here hx hby d16_18 rfl rfl ?_
    refine oa X4.here hx hby d16_19 rfl ?_
    refine oa4 X4.here hx hby d16_20 (v := (1 : Int32)) (by decide) ?_
    refine oc8 X4.here hx hby d16_21 (v := (1 : Int32)) (by decide) ?_
    refine oc6 X4 hx hZ eh4 V_sa ⟨by decide, by decide⟩ (v := (.int c1)) rfl hby d16_22 ?_
    refine oa3 X4 hx hZ hown (oa0 hw 129 rfl) (oa0 hw 130 rfl) (oa0 hw 2 rfl) (oa0 hw 131 rfl) (by decide) (isLow_ l Z a0 hw [] c1 h0 n0 Z0 ) 0 hml rfl (argsL := [(.int c1)]) (st := []) (lenOf pd_1 rfl) rfl rfl eh4 hby d16_23 ?_
    intro T7 v7 L7 X7 hQ7
    obtain ⟨rfl, Nq7, eh7⟩ := hQ7
    have N7 := Fr.app N4 Nq7
    refine oa5 (T := T7) 26 #[.val (.ref sa), .val (.int 2), .val (.int 0), .val (.int c0)] [(.int (od7 c1))] ?_
    by_cases hc26_8 : (od7 c1) = (0 : Int32)
    · refine ob1 X7.here hx hby (pc' := 31) d16_26 ((if0 _ _).trans (teq hc26_8).1) (by decide) (by decide) ?_
      refine oa X7.here hx hby d16_31 rfl ?_
      refine oa3 X7 hx hZ hown (oa0 hw 79 rfl) (oa0 hw 80 rfl) (oa0 hw 2 rfl) (oa0 hw 81 rfl) (by decide) (bmpOk l Z a0 hw [] c0 h0 n0 Z0 ) 0 hml rfl (argsL := [(.int c0)]) (st := []) (lenOf pd_1 rfl) rfl rfl eh7 hby d16_32 ?_
      intro T9 v9 L9 X9 hQ9
      obtain ⟨rfl, Nq9, eh9⟩ := hQ9
      have N9 := Fr.app N7 Nq9
      refine oa5 (T := T9) 35 #[.val (.ref sa), .val (.int 2), .val (.int 0), .val (.int c0)] [(.int (ob0 c0))] ?_
      refine ob1 X9.here hx hby (pc' := 42) d16_35 ((if0 _ _).trans (teq hk).1) (by decide) (by decide) ?_
      refine oa4 X9.here hx hby d16_42 (v := (-1 : Int32)) (by decide) ?_
      refine oa9 X9 Bd.notSynchronized (v := some (.int (-1))) (ob4 Bd.returns) (fun _ hr => retOut X9 hx Bd.returns rfl (Or.inl ⟨rfl, Or.inl rfl, _, rfl⟩) (hb hby d16_43) hr) eh9 (by decide) (by decide) ?_
      exact ⟨rfl, N9, rfl⟩
    · refine ob7 X7.here hx hby d16_26 ((if0 _ _).trans (feq hc26_8).1) ?_
      exact (own_pX hp hc8_5 hc26_8).elim
def Q_at_1_2_A (Z : State) (sa : Nat) (ks : ClassId) (c0 : Int32) (c1 : Int32) (c2 : Int32) (h0 : Heap) (n0 : Nat) (vR : Option Value) (hR : Heap) (LR : List Loc) : Prop := vR = some (.int 1) ∧ Fr n0 LR ∧ hR = h0
theorem at_1_2_A (l : Launch) (Z : State) (a0 : Array Value) (hw : ∀ d ∈ tables_1, d.before a0 Z = true) (ws : List Jvm.Cond) (sa : Nat) (ks : ClassId) (c0 : Int32) (c1 : Int32) (c2 : Int32) (h0 : Heap) (n0 : Nat) (Z0 : n0 ≤ h0.size) (V_sa : Arv Z h0 sa ks .char (3 : Int32) [(.int c0), (.int c1), (.int c2)] (.int 0)) (hk : ¬ (ob0 c1 = (0 : Int32))) :
    oc2 l (⟨"com/example/sluice/sluice/MessageDisallowedCharacterPinLaw", "at", "([CII)I"⟩ : MethodName) method_7_code 4 (some .int) ws ({ frames := 1, cells := 0, slots := 0, locals := 12 } : Room) Z #[(.ref sa), (.int 2), (.int 1)] h0 (Q_at_1_2_A Z sa ks c0 c1 c2 h0 n0) := by
  refine ob3 (own := "com/example/sluice/sluice/MessageDisallowedCharacterPinLaw") rfl (plainFor_of_name pn_16) (fun m => ef_at_0_1_A m sa (2 : Int32) (1 : Int32)) ?_
  intro p e s m below meth c s₁ Bd hml hZ hh hx hby hown X0 e0
  have N0 := Fr.nil n0
  have lt3 : h0.size > sa := V_sa.lt
  refine oa2 X0.here hx hby d16_0 rfl rfl ?_
  refine oa X0.here hx hby d16_1 rfl ?_
  refine oc6 X0 hx hZ e0 V_sa ⟨by decide, by decide⟩ (v := (.int c1)) rfl hby d16_2 ?_
  refine oa6 X0.here hx hby d16_3 (l' := #[.val (.ref sa), .val (.int 2), .val (.int 1), .val (.int c1)]) rfl ?_
  refine oa X0.here hx hby d16_4 rfl ?_
  refine oa3 X0 hx hZ hown (oa0 hw 75 rfl) (oa0 hw 76 rfl) (oa0 hw 2 rfl) (oa0 hw 77 rfl) (by decide) (isHigh_ l Z a0 hw [] c1 h0 n0 Z0 ) 0 hml rfl (argsL := [(.int c1)]) (st := []) (lenOf pd_1 rfl) rfl rfl e0 hby d16_5 ?_
  intro T4 v4 L4 X4 hQ4
  obtain ⟨rfl, Nq4, eh4⟩ := hQ4
  have N4 := Fr.app N0 Nq4
  refine oa5 (T := T4) 8 #[.val (.ref sa), .val (.int 2), .val (.int 1), .val (.int c1)] [(.int (oc9 c1))] ?_
  by_cases hc8_5 : (oc9 c1) = (0 : Int32)
  · refine ob1 X4.here hx hby (pc' := 31) d16_8 ((if0 _ _).trans (teq hc8_5).1) (by decide) (by decide) ?_
    refine oa X4.here hx hby d16_31 rfl ?_
    refine oa3 X4 hx hZ hown (oa0 hw 79 rfl) (oa0 hw 80 rfl) (oa0 hw 2 rfl) (oa0 hw 81 rfl) (by decide) (bmpOk l Z a0 hw [] c1 h0 n0 Z0 ) 0 hml rfl (argsL := [(.int c1)]) (st := []) (lenOf pd_1 rfl) rfl rfl eh4 hby d16_32 ?_
    intro T6 v6 L6 X6 hQ6
    obtain ⟨rfl, Nq6, eh6⟩ := hQ6
    have N6 := Fr.app N4 Nq6
    refine oa5 (T := T6) 35 #[.val (.ref sa), .val (.int 2), .val (.int 1), .val (.int c1)] [(.int (ob0 c1))] ?_
    refine ob7 X6.here hx hby d16_35 ((if0 _ _).trans (feq hk).1) ?_
    refine oa4 X6.here hx hby d16_38 (v := (1 : Int32)) (by decide) ?_
    refine oc X6.here hx hby (pc' := 43) d16_39 (by decide) (by decide) ?_
    refine oa9 X6 Bd.notSynchronized (v := some (.int 1)) (ob4 Bd.returns) (fun _ hr => retOut X6 hx Bd.returns rfl (Or.inl ⟨rfl, Or.inl rfl, _, rfl⟩) (hb hby d16_43) hr) eh6 (by decide) (by decide) ?_
    exact ⟨rfl, N6, rfl⟩
  · refine ob7 X4.here hx hby d16_8 ((if0 _ _).trans (feq hc8_5).1) ?_
    refine oa X4.here hx hby d16_11 rfl ?_
    refine oa4 X4.here hx hby d16_12 (v := (1 : Int32)) (by decide) ?_
    refine oc8 X4.here hx hby d16_13 (v := (2 : Int32)) (by decide) ?_
    refine oa X4.here hx hby d16_14 rfl ?_
    refine ob2 X4.here hx hby (pc' := 31) d16_15 (flt (show ¬ ((2 : Int32) < (2 : Int32)) from (by decide))).2.1 (by decide) (by decide) ?_
    refine oa X4.here hx hby d16_31 rfl ?_
    refine oa3 X4 hx hZ hown (oa0 hw 79 rfl) (oa0 hw 80 rfl) (oa0 hw 2 rfl) (oa0 hw 81 rfl) (by decide) (bmpOk l Z a0 hw [] c1 h0 n0 Z0 ) 0 hml rfl (argsL := [(.int c1)]) (st := []) (lenOf pd_1 rfl) rfl rfl eh4 hby d16_32 ?_
    intro T7 v7 L7 X7 hQ7
    obtain ⟨rfl, Nq7, eh7⟩ := hQ7
    have N7 := Fr.app N4 Nq7
    refine oa5 (T := T7) 35 #[.val (.ref sa), .val (.int 2), .val (.int 1), .val (.int c1)] [(.int (ob0 c1))] ?_
    refine ob7 X7.here hx hby d16_35 ((if0 _ _).trans (feq hk).1) ?_
    refine oa4 X7.here hx hby d16_38 (v := (1 : Int32)) (by decide) ?_
    refine oc X7.here hx hby (pc' := 43) d16_39 (by decide) (by decide) ?_
    refine oa9 X7 Bd.notSynchronized (v := some (.int 1)) (ob4 Bd.returns) (fun _ hr => retOut X7 hx Bd.returns rfl (Or.inl ⟨rfl, Or.inl rfl, _, rfl⟩) (hb hby d16_43) hr) eh7 (by decide) (by decide) ?_
    exact ⟨rfl, N7, rfl⟩
def Q_at_1_2_D (Z : State) (sa : Nat) (ks : ClassId) (c0 : Int32) (c1 : Int32) (c2 : Int32) (h0 : Heap) (n0 : Nat) (vR : Option Value) (hR : Heap) (LR : List Loc) : Prop := vR = some (.int (-1)) ∧ Fr n0 LR ∧ hR = h0
theorem at_1_2_D (l : Launch) (Z : State) (a0 : Array Value) (hw : ∀ d ∈ tables_1, d.before a0 Z = true) (ws : List Jvm.Cond) (sa : Nat) (ks : ClassId) (c0 : Int32) (c1 : Int32) (c2 : Int32) (h0 : Heap) (n0 : Nat) (Z0 : n0 ≤ h0.size) (V_sa : Arv Z h0 sa ks .char (3 : Int32) [(.int c0), (.int c1), (.int c2)] (.int 0)) (hk : ob0 c1 = (0 : Int32)) :
    oc2 l (⟨"com/example/sluice/sluice/MessageDisallowedCharacterPinLaw", "at", "([CII)I"⟩ : MethodName) method_7_code 4 (some .int) ws ({ frames := 1, cells := 0, slots := 0, locals := 12 } : Room) Z #[(.ref sa), (.int 2), (.int 1)] h0 (Q_at_1_2_D Z sa ks c0 c1 c2 h0 n0) := by
  refine ob3 (own := "com/example/sluice/sluice/MessageDisallowedCharacterPinLaw") rfl (plainFor_of_name pn_16) (fun m => ef_at_0_1_A m sa (2 : Int32) (1 : Int32)) ?_
  intro p e s m below meth c s₁ Bd hml hZ hh hx hby hown X0 e0
  have N0 := Fr.nil n0
  have lt3 : h0.size > sa := V_sa.lt
  refine oa2 X0.here hx hby d16_0 rfl rfl ?_
  refine oa X0.here hx hby d16_1 rfl ?_
  refine oc6 X0 hx hZ e0 V_sa ⟨by decide, by decide⟩ (v := (.int c1)) rfl hby d16_2 ?_
  refine oa6 X0.here hx hby d16_3 (l' := #[.val (.ref sa), .val (.int 2), .val (.int 1), .val (.int c1)]) rfl ?_
  refine oa X0.here hx hby d16_4 rfl ?_
  refine oa3 X0 hx hZ hown (oa0 hw 75 rfl) (oa0 hw 76 rfl) (oa0 hw 2 rfl) (oa0 hw 77 rfl) (by decide) (isHigh_ l Z a0 hw [] c1 h0 n0 Z0 ) 0 hml rfl (argsL := [(.int c1)]) (st := []) (lenOf pd_1 rfl) rfl rfl e0 hby d16_5 ?_
  intro T4 v4 L4 X4 hQ4
  obtain ⟨rfl, Nq4, eh4⟩ := hQ4
  have N4 := Fr.app N0 Nq4
  refine oa5 (T := T4) 8 #[.val (.ref sa), .val (.int 2), .val (.int 1), .val (.int c1)] [(.int (oc9 c1))] ?_
  by_cases hc8_5 : (oc9 c1) = (0 : Int32)
  · refine ob1 X4.here hx hby (pc' := 31) d16_8 ((if0 _ _).trans (teq hc8_5).1) (by decide) (by decide) ?_
    refine oa X4.here hx hby d16_31 rfl ?_
    refine oa3 X4 hx hZ hown (oa0 hw 79 rfl) (oa0 hw 80 rfl) (oa0 hw 2 rfl) (oa0 hw 81 rfl) (by decide) (bmpOk l Z a0 hw [] c1 h0 n0 Z0 ) 0 hml rfl (argsL := [(.int c1)]) (st := []) (lenOf pd_1 rfl) rfl rfl eh4 hby d16_32 ?_
    intro T6 v6 L6 X6 hQ6
    obtain ⟨rfl, Nq6, eh6⟩ := hQ6
    have N6 := Fr.app N4 Nq6
    refine oa5 (T := T6) 35 #[.val (.ref sa), .val (.int 2), .val (.int 1), .val (.int c1)] [(.int (ob0 c1))] ?_
    refine ob1 X6.here hx hby (pc' := 42) d16_35 ((if0 _ _).trans (teq hk).1) (by decide) (by decide) ?_
    refine oa4 X6.here hx hby d16_42 (v := (-1 : Int32)) (by decide) ?_
    refine oa9 X6 Bd.notSynchronized (v := some (.int (-1))) (ob4 Bd.returns) (fun _ hr => retOut X6 hx Bd.returns rfl (Or.inl ⟨rfl, Or.inl rfl, _, rfl⟩) (hb hby d16_43) hr) eh6 (by decide) (by decide) ?_
    exact ⟨rfl, N6, rfl⟩
  · refine ob7 X4.here hx hby d16_8 ((if0 _ _).trans (feq hc8_5).1) ?_
    refine oa X4.here hx hby d16_11 rfl ?_
    refine oa4 X4.here hx hby d16_12 (v := (1 : Int32)) (by decide) ?_
    refine oc8 X4.here hx hby d16_13 (v := (2 : Int32)) (by decide) ?_
    refine oa X4.here hx hby d16_14 rfl ?_
    refine ob2 X4.here hx hby (pc' := 31) d16_15 (flt (show ¬ ((2 : Int32) < (2 : Int32)) from (by decide))).2.1 (by decide) (by decide) ?_
    refine oa X4.here hx hby d16_31 rfl ?_
    refine oa3 X4 hx hZ hown (oa0 hw 79 rfl) (oa0 hw 80 rfl) (oa0 hw 2 rfl) (oa0 hw 81 rfl) (by decide) (bmpOk l Z a0 hw [] c1 h0 n0 Z0 ) 0 hml rfl (argsL := [(.int c1)]) (st := []) (lenOf pd_1 rfl) rfl rfl eh4 hby d16_32 ?_
    intro T7 v7 L7 X7 hQ7
    obtain ⟨rfl, Nq7, eh7⟩ := hQ7
    have N7 := Fr.app N4 Nq7
    refine oa5 (T := T7) 35 #[.val (.ref sa), .val (.int 2), .val (.int 1), .val (.int c1)] [(.int (ob0 c1))] ?_
    refine ob1 X7.here hx hby (pc' := 42) d16_35 ((if0 _ _).trans (teq hk).1) (by decide) (by decide) ?_
    refine oa4 X7.here hx hby d16_42 (v := (-1 : Int32)) (by decide) ?_
    refine oa9 X7 Bd.notSynchronized (v := some (.int (-1))) (ob4 Bd.returns) (fun _ hr => retOut X7 hx Bd.returns rfl (Or.inl ⟨rfl, Or.inl rfl, _, rfl⟩) (hb hby d16_43) hr) eh7 (by decide) (by decide) ?_
    exact ⟨rfl, N7, rfl⟩
theorem d15_33 : decode method_8_code 33 = .ok (.aload_n 0, 1) := by decide +kernel
theorem d15_34 : decode method_8_code 34 = .ok (.iload_n 1, 1) := by decide +kernel
theorem d15_35 : decode method_8_code 35 = .ok (.iload_n 2, 1) := by decide +kernel
theorem d15_36 : decode method_8_code 36 = .ok (.invokestatic 46, 3) := by decide +kernel
theorem d15_39 : decode method_8_code 39 = .ok (.istore_n 3, 1) := by decide +kernel
theorem d15_40 : decode method_8_code 40 = .ok (.iload_n 3, 1) := by decide +kernel
theorem d15_41 : decode method_8_code 41 = .ok (.ifCond .ge 5, 3) := by decide +kernel
theorem d15_44 : decode method_8_code 44 = .ok (.iload_n 2, 1) := by decide +kernel
theorem d15_45 : decode method_8_code 45 = .ok (.ireturn, 1) := by decide +kernel
theorem d15_46 : decode method_8_code 46 = .ok (.iload_n 2, 1) := by decide +kernel
theorem d15_47 : decode method_8_code 47 = .ok (.iload_n 3, 1) := by decide +kernel
theorem d15_48 : decode method_8_code 48 = .ok (.iadd, 1) := by decide +kernel
theorem d15_49 : decode method_8_code 49 = .ok (.istore_n 2, 1) := by decide +kernel
theorem d15_50 : decode method_8_code 50 = .ok (.iload_n 2, 1) := by decide +kernel
theorem d15_51 : decode method_8_code 51 = .ok (.iload_n 1, 1) := by decide +kernel
theorem d15_52 : decode method_8_code 52 = .ok (.if_icmp .lt 5, 3) := by decide +kernel
theorem d15_55 : decode method_8_code 55 = .ok (.iconst (-1), 1) := by decide +kernel
theorem d15_56 : decode method_8_code 56 = .ok (.ireturn, 1) := by decide +kernel
def Q_expd_2 (Z : State) (sa : Nat) (ks : ClassId) (c0 : Int32) (c1 : Int32) (c2 : Int32) (h0 : Heap) (n0 : Nat) (vR : Option Value) (hR : Heap) (LR : List Loc) : Prop := vR = some (.int (od9 (0 : Int32) (1 : Int32) c0 c1)) ∧ Fr n0 LR ∧ hR = h0
theorem expd_2 (l : Launch) (Z : State) (a0 : Array Value) (hw : ∀ d ∈ tables_1, d.before a0 Z = true) (ws : List Jvm.Cond) (sa : Nat) (ks : ClassId) (c0 : Int32) (c1 : Int32) (c2 : Int32) (h0 : Heap) (n0 : Nat) (Z0 : n0 ≤ h0.size) (V_sa : Arv Z h0 sa ks .char (3 : Int32) [(.int c0), (.int c1), (.int c2)] (.int 0)) :
    oc2 l (⟨"com/example/sluice/sluice/MessageDisallowedCharacterPinLaw", "expected", "([CI)I"⟩ : MethodName) method_8_code 4 (some .int) ws ({ frames := 2, cells := 0, slots := 0, locals := 27 } : Room) Z #[(.ref sa), (.int 2)] h0 (Q_expd_2 Z sa ks c0 c1 c2 h0 n0) := by
  refine ob3 (own := "com/example/sluice/sluice/MessageDisallowedCharacterPinLaw") rfl (plainFor_of_name pn_15) (fun m => ef_expd_0 m sa (2 : Int32)) ?_
  intro p e s m below meth c s₁ Bd hml hZ hh hx hby hown X0 e0
  have N0 := Fr.nil n0
  have lt3 : h0.size > sa := V_sa.lt
  refine oa4 X0.here hx hby d15_0 (v := (0 : Int32)) (by decide) ?_
  refine oa6 X0.here hx hby d15_1 (l' := #[.val (.ref sa), .val (.int 2), .val (.int 0), .unset]) rfl ?_
  refine oa X0.here hx hby d15_2 rfl ?_
  refine oa X0.here hx hby d15_3 rfl ?_
  refine ob2 X0.here hx hby (pc' := 9) d15_4 (tlt (show (0 : Int32) < (2 : Int32) from (by decide))).1 (by decide) (by decide) ?_
  refine oa2 X0.here hx hby d15_9 rfl rfl ?_
  refine oa X0.here hx hby d15_10 rfl ?_
  refine oa X0.here hx hby d15_11 rfl ?_
  refine oa5 (T := s₁) 12 #[.val (.ref sa), .val (.int 2), .val (.int 0), .unset] [(.int 0), (.int 2), (.ref sa)] ?_
  cases hp0 : od1 c0 c1
  · refine oa5 (T := s₁) 12 #[.val (.ref sa), .val (.int 2), .val (.int 0), .unset] [(.int 0), (.int 2), (.ref sa)] ?_
    by_cases hk0 : ob0 c0 = (0 : Int32)
    · refine oa3 X0 hx hZ hown (oa0 hw 72 rfl) (oa0 hw 73 rfl) (oa0 hw 2 rfl) (oa0 hw 74 rfl) (by decide) (at_0_2_D l Z a0 hw [] sa ks c0 c1 c2 h0 n0 Z0 V_sa hp0 hk0) 0 hml rfl (argsL := [(.ref sa), (.int 2), (.int 0)]) (st := []) (lenOf pd_2 rfl) rfl rfl e0 hby d15_12 ?_
      intro T4 v4 L4 X4 hQ4
      obtain ⟨rfl, Nq4, eh4⟩ := hQ4
      have N4 := Fr.app N0 Nq4
      refine oa5 (T := T4) 15 #[.val (.ref sa), .val (.int 2), .val (.int 0), .unset] [(.int (-1))] ?_
      refine oa6 X4.here hx hby d15_15 (l' := #[.val (.ref sa), .val (.int 2), .val (.int 0), .val (.int (-1))]) rfl ?_
      refine oa X4.here hx hby d15_16 rfl ?_
      refine ob7 X4.here hx hby d15_17 ((if0 _ _).trans (tlt (show (-1 : Int32) < (0 : Int32) from (by decide))).2.1) ?_
      refine oa X4.here hx hby d15_20 rfl ?_
      refine oa9 X4 Bd.notSynchronized (v := some (.int 0)) (ob4 Bd.returns) (fun _ hr => retOut X4 hx Bd.returns rfl (Or.inl ⟨rfl, Or.inl rfl, _, rfl⟩) (hb hby d15_21) hr) eh4 (by decide) (by decide) ?_
      exact ⟨(od (by rw [od9, if_neg (oe4 hp0), if_pos hk0])), N4, rfl⟩
    · refine oa3 X0 hx hZ hown (oa0 hw 72 rfl) (oa0 hw 73 rfl) (oa0 hw 2 rfl) (oa0 hw 74 rfl) (by decide) (at_0_2_A l Z a0 hw [] sa ks c0 c1 c2 h0 n0 Z0 V_sa hp0 hk0) 0 hml rfl (argsL := [(.ref sa), (.int 2), (.int 0)]) (st := []) (lenOf pd_2 rfl) rfl rfl e0 hby d15_12 ?_
      intro T5 v5 L5 X5 hQ5
      obtain ⟨rfl, Nq5, eh5⟩ := hQ5
      have N5 := Fr.app N0 Nq5
      refine oa5 (T := T5) 15 #[.val (.ref sa), .val (.int 2), .val (.int 0), .unset] [(.int 1)] ?_
      refine oa6 X5.here hx hby d15_15 (l' := #[.val (.ref sa), .val (.int 2), .val (.int 0), .val (.int 1)]) rfl ?_
      refine oa X5.here hx hby d15_16 rfl ?_
      refine ob1 X5.here hx hby (pc' := 22) d15_17 ((if0 _ _).trans (flt (show ¬ ((1 : Int32) < (0 : Int32)) from (by decide))).2.1) (by decide) (by decide) ?_
      refine oa X5.here hx hby d15_22 rfl ?_
      refine oa X5.here hx hby d15_23 rfl ?_
      refine oc8 X5.here hx hby d15_24 (v := (1 : Int32)) (by decide) ?_
      refine oa6 X5.here hx hby d15_25 (l' := #[.val (.ref sa), .val (.int 2), .val (.int 1), .val (.int 1)]) rfl ?_
      refine oa X5.here hx hby d15_26 rfl ?_
      refine oa X5.here hx hby d15_27 rfl ?_
      refine ob2 X5.here hx hby (pc' := 33) d15_28 (tlt (show (1 : Int32) < (2 : Int32) from (by decide))).1 (by decide) (by decide) ?_
      refine oa2 X5.here hx hby d15_33 rfl rfl ?_
      refine oa X5.here hx hby d15_34 rfl ?_
      refine oa X5.here hx hby d15_35 rfl ?_
      refine oa5 (T := T5) 36 #[.val (.ref sa), .val (.int 2), .val (.int 1), .val (.int 1)] [(.int 1), (.int 2), (.ref sa)] ?_
      by_cases hk1 : ob0 c1 = (0 : Int32)
      · refine oa3 X5 hx hZ hown (oa0 hw 72 rfl) (oa0 hw 73 rfl) (oa0 hw 2 rfl) (oa0 hw 74 rfl) (by decide) (at_1_2_D l Z a0 hw [] sa ks c0 c1 c2 h0 n0 Z0 V_sa hk1) 0 hml rfl (argsL := [(.ref sa), (.int 2), (.int 1)]) (st := []) (lenOf pd_2 rfl) rfl rfl eh5 hby d15_36 ?_
        intro T6 v6 L6 X6 hQ6
        obtain ⟨rfl, Nq6, eh6⟩ := hQ6
        have N6 := Fr.app N5 Nq6
        refine oa5 (T := T6) 39 #[.val (.ref sa), .val (.int 2), .val (.int 1), .val (.int 1)] [(.int (-1))] ?_
        refine oa6 X6.here hx hby d15_39 (l' := #[.val (.ref sa), .val (.int 2), .val (.int 1), .val (.int (-1))]) rfl ?_
        refine oa X6.here hx hby d15_40 rfl ?_
        refine ob7 X6.here hx hby d15_41 ((if0 _ _).trans (tlt (show (-1 : Int32) < (0 : Int32) from (by decide))).2.1) ?_
        refine oa X6.here hx hby d15_44 rfl ?_
        refine oa9 X6 Bd.notSynchronized (v := some (.int 1)) (ob4 Bd.returns) (fun _ hr => retOut X6 hx Bd.returns rfl (Or.inl ⟨rfl, Or.inl rfl, _, rfl⟩) (hb hby d15_45) hr) eh6 (by decide) (by decide) ?_
        exact ⟨(od (by rw [od9, if_neg (oe4 hp0), if_neg hk0, oe0, if_pos hk1])), N6, rfl⟩
      · refine oa3 X5 hx hZ hown (oa0 hw 72 rfl) (oa0 hw 73 rfl) (oa0 hw 2 rfl) (oa0 hw 74 rfl) (by decide) (at_1_2_A l Z a0 hw [] sa ks c0 c1 c2 h0 n0 Z0 V_sa hk1) 0 hml rfl (argsL := [(.ref sa), (.int 2), (.int 1)]) (st := []) (lenOf pd_2 rfl) rfl rfl eh5 hby d15_36 ?_
        intro T7 v7 L7 X7 hQ7
        obtain ⟨rfl, Nq7, eh7⟩ := hQ7
        have N7 := Fr.app N5 Nq7
        refine oa5 (T := T7) 39 #[.val (.ref sa), .val (.int 2), .val (.int 1), .val (.int 1)] [(.int 1)] ?_
        refine oa6 X7.here hx hby d15_39 (l' := #[.val (.ref sa), .val (.int 2), .val (.int 1), .val (.int 1)]) rfl ?_
        refine oa X7.here hx hby d15_40 rfl ?_
        refine ob1 X7.here hx hby (pc' := 46) d15_41 ((if0 _ _).trans (flt (show ¬ ((1 : Int32) < (0 : Int32)) from (by decide))).2.1) (by decide) (by decide) ?_
        refine oa X7.here hx hby d15_46 rfl ?_
        refine oa X7.here hx hby d15_47 rfl ?_
        refine oc8 X7.here hx hby d15_48 (v := (2 : Int32)) (by decide) ?_
        refine oa6 X7.here hx hby d15_49 (l' := #[.val (.ref sa), .val (.int 2), .val (.int 2), .val (.int 1)]) rfl ?_
        refine oa X7.here hx hby d15_50 rfl ?_
        refine oa X7.here hx hby d15_51 rfl ?_
        refine oa7 X7.here hx hby d15_52 (flt (show ¬ ((2 : Int32) < (2 : Int32)) from (by decide))).1 ?_
        refine oa4 X7.here hx hby d15_55 (v := (-1 : Int32)) (by decide) ?_
        refine oa9 X7 Bd.notSynchronized (v := some (.int (-1))) (ob4 Bd.returns) (fun _ hr => retOut X7 hx Bd.returns rfl (Or.inl ⟨rfl, Or.inl rfl, _, rfl⟩) (hb hby d15_56) hr) eh7 (by decide) (by decide) ?_
        exact ⟨(od (by rw [od9, if_neg (oe4 hp0), if_neg hk0, oe0, if_neg hk1])), N7, rfl⟩
  · refine oa3 X0 hx hZ hown (oa0 hw 72 rfl) (oa0 hw 73 rfl) (oa0 hw 2 rfl) (oa0 hw 74 rfl) (by decide) (at_0_2_P l Z a0 hw [] sa ks c0 c1 c2 h0 n0 Z0 V_sa hp0) 0 hml rfl (argsL := [(.ref sa), (.int 2), (.int 0)]) (st := []) (lenOf pd_2 rfl) rfl rfl e0 hby d15_12 ?_
    intro T8 v8 L8 X8 hQ8
    obtain ⟨rfl, Nq8, eh8⟩ := hQ8
    have N8 := Fr.app N0 Nq8
    refine oa5 (T := T8) 15 #[.val (.ref sa), .val (.int 2), .val (.int 0), .unset] [(.int 2)] ?_
    refine oa6 X8.here hx hby d15_15 (l' := #[.val (.ref sa), .val (.int 2), .val (.int 0), .val (.int 2)]) rfl ?_
    refine oa X8.here hx hby d15_16 rfl ?_
    refine ob1 X8.here hx hby (pc' := 22) d15_17 ((if0 _ _).trans (flt (show ¬ ((2 : Int32) < (0 : Int32)) from (by decide))).2.1) (by decide) (by decide) ?_
    refine oa X8.here hx hby d15_22 rfl ?_
    refine oa X8.here hx hby d15_23 rfl ?_
    refine oc8 X8.here hx hby d15_24 (v := (2 : Int32)) (by decide) ?_
    refine oa6 X8.here hx hby d15_25 (l' := #[.val (.ref sa), .val (.int 2), .val (.int 2), .val (.int 2)]) rfl ?_
    refine oa X8.here hx hby d15_26 rfl ?_
    refine oa X8.here hx hby d15_27 rfl ?_
    refine oa7 X8.here hx hby d15_28 (flt (show ¬ ((2 : Int32) < (2 : Int32)) from (by decide))).1 ?_
    refine oa4 X8.here hx hby d15_31 (v := (-1 : Int32)) (by decide) ?_
    refine oa9 X8 Bd.notSynchronized (v := some (.int (-1))) (ob4 Bd.returns) (fun _ hr => retOut X8 hx Bd.returns rfl (Or.inl ⟨rfl, Or.inl rfl, _, rfl⟩) (hb hby d15_32) hr) eh8 (by decide) (by decide) ?_
    exact ⟨(od (by rw [od9, if_pos hp0])), N8, rfl⟩
def Q_at_0_3_P (Z : State) (sa : Nat) (ks : ClassId) (c0 : Int32) (c1 : Int32) (c2 : Int32) (h0 : Heap) (n0 : Nat) (vR : Option Value) (hR : Heap) (LR : List Loc) : Prop := vR = some (.int 2) ∧ Fr n0 LR ∧ hR = h0
theorem at_0_3_P (l : Launch) (Z : State) (a0 : Array Value) (hw : ∀ d ∈ tables_1, d.before a0 Z = true) (ws : List Jvm.Cond) (sa : Nat) (ks : ClassId) (c0 : Int32) (c1 : Int32) (c2 : Int32) (h0 : Heap) (n0 : Nat) (Z0 : n0 ≤ h0.size) (V_sa : Arv Z h0 sa ks .char (3 : Int32) [(.int c0), (.int c1), (.int c2)] (.int 0)) (hp : od1 c0 c1 = true) :
    oc2 l (⟨"com/example/sluice/sluice/MessageDisallowedCharacterPinLaw", "at", "([CII)I"⟩ : MethodName) method_7_code 4 (some .int) ws ({ frames := 1, cells := 0, slots := 0, locals := 12 } : Room) Z #[(.ref sa), (.int 3), (.int 0)] h0 (Q_at_0_3_P Z sa ks c0 c1 c2 h0 n0) := by
  refine ob3 (own := "com/example/sluice/sluice/MessageDisallowedCharacterPinLaw") rfl (plainFor_of_name pn_16) (fun m => ef_at_0_1_A m sa (3 : Int32) (0 : Int32)) ?_
  intro p e s m below meth c s₁ Bd hml hZ hh hx hby hown X0 e0
  have N0 := Fr.nil n0
  have lt3 : h0.size > sa := V_sa.lt
  refine oa2 X0.here hx hby d16_0 rfl rfl ?_
  refine oa X0.here hx hby d16_1 rfl ?_
  refine oc6 X0 hx hZ e0 V_sa ⟨by decide, by decide⟩ (v := (.int c0)) rfl hby d16_2 ?_
  refine oa6 X0.here hx hby d16_3 (l' := #[.val (.ref sa), .val (.int 3), .val (.int 0), .val (.int c0)]) rfl ?_
  refine oa X0.here hx hby d16_4 rfl ?_
  refine oa3 X0 hx hZ hown (oa0 hw 75 rfl) (oa0 hw 76 rfl) (oa0 hw 2 rfl) (oa0 hw 77 rfl) (by decide) (isHigh_ l Z a0 hw [] c0 h0 n0 Z0 ) 0 hml rfl (argsL := [(.int c0)]) (st := []) (lenOf pd_1 rfl) rfl rfl e0 hby d16_5 ?_
  intro T4 v4 L4 X4 hQ4
  obtain ⟨rfl, Nq4, eh4⟩ := hQ4
  have N4 := Fr.app N0 Nq4
  refine oa5 (T := T4) 8 #[.val (.ref sa), .val (.int 3), .val (.int 0), .val (.int c0)] [(.int (oc9 c0))] ?_
  refine ob7 X4.here hx hby d16_8 ((if0 _ _).trans (feq (show ¬ ((oc9 c0) = (0 : Int32)) from og (og4 hp).1)).1) ?_
  refine oa X4.here hx hby d16_11 rfl ?_
  refine oa4 X4.here hx hby d16_12 (v := (1 : Int32)) (by decide) ?_
  refine oc8 X4.here hx hby d16_13 (v := (1 : Int32)) (by decide) ?_
  refine oa X4.here hx hby d16_14 rfl ?_
  refine oa7 X4.here hx hby d16_15 (tlt (show (1 : Int32) < (3 : Int32) from (by decide))).2.1 ?_
  refine oa2 X4.here hx hby d16_18 rfl rfl ?_
  refine oa X4.here hx hby d16_19 rfl ?_
  refine oa4 X4.here hx hby d16_20 (v := (1 : Int32)) (by decide) ?_
  refine oc8 X4.here hx hby d16_21 (v := (1 : Int32)) (by decide) ?_
  refine oc6 X4 hx hZ eh4 V_sa ⟨by decide, by decide⟩ (v := (.int c1)) rfl hby d16_22 ?_
  refine oa3 X4 hx hZ hown (oa0 hw 129 rfl) (oa0 hw 130 rfl) (oa0 hw 2 rfl) (oa0 hw 131 rfl) (by decide) (isLow_ l Z a0 hw [] c1 h0 n0 Z0 ) 0 hml rfl (argsL := [(.int c1)]) (st := []) (lenOf pd_1 rfl) rfl rfl eh4 hby d16_23 ?_
  intro T5 v5 L5 X5 hQ5
  obtain ⟨rfl, Nq5, eh5⟩ := hQ5
  have N5 := Fr.app N4 Nq5
  refine oa5 (T := T5) 26 #[.val (.ref sa), .val (.int 3), .val (.int 0), .val (.int c0)] [(.int (od7 c1))] ?_
  refine ob7 X5.here hx hby d16_26 ((if0 _ _).trans (feq (show ¬ ((od7 c1) = (0 : Int32)) from og (og4 hp).2)).1) ?_
  refine oa4 X5.here hx hby d16_29 (v := (2 : Int32)) (by decide) ?_
  refine oa9 X5 Bd.notSynchronized (v := some (.int 2)) (ob4 Bd.returns) (fun _ hr => retOut X5 hx Bd.returns rfl (Or.inl ⟨rfl, Or.inl rfl, _, rfl⟩) (hb hby d16_30) hr) eh5 (by decide) (by decide) ?_
  exact ⟨rfl, N5, rfl⟩
def Q_at_0_3_A (Z : State) (sa : Nat) (ks : ClassId) (c0 : Int32) (c1 : Int32) (c2 : Int32) (h0 : Heap) (n0 : Nat) (vR : Option Value) (hR : Heap) (LR : List Loc) : Prop := vR = some (.int 1) ∧ Fr n0 LR ∧ hR = h0
theorem at_0_3_A (l : Launch) (Z : State) (a0 : Array Value) (hw : ∀ d ∈ tables_1, d.before a0 Z = true) (ws : List Jvm.Cond) (sa : Nat) (ks : ClassId) (c0 : Int32) (c1 : Int32) (c2 : Int32) (h0 : Heap) (n0 : Nat) (Z0 : n0 ≤ h0.size) (V_sa : Arv Z h0 sa ks .char (3 : Int32) [(.int c0), (.int c1), (.int c2)] (.int 0)) (hp : od1 c0 c1 = false) (hk : ¬ (ob0 c0 = (0 : Int32))) :
    oc2 l (⟨"com/example/sluice/sluice/MessageDisallowedCharacterPinLaw", "at", "([CII)I"⟩ : MethodName) method_7_code 4 (some .int) ws ({ frames := 1, cells := 0, slots := 0, locals := 12 } : Room) Z #[(.ref sa), (.int 3), (.int 0)] h0 (Q_at_0_3_A Z sa ks c0 c1 c2 h0 n0) := by
  refine ob3 (own := "com/example/sluice/sluice/MessageDisallowedCharacterPinLaw") rfl (plainFor_of_name pn_16) (fun m => ef_at_0_1_A m sa (3 : Int32) (0 : Int32)) ?_
  intro p e s m below meth c s₁ Bd hml hZ hh hx hby hown X0 e0
  have N0 := Fr.nil n0
  have lt3 : h0.size > sa := V_sa.lt
  refine oa2 X0.here hx hby d16_0 rfl rfl ?_
  refine oa X0.here hx hby d16_1 rfl ?_
  refine oc6 X0 hx hZ e0 V_sa ⟨by decide, by decide⟩ (v := (.int c0)) rfl hby d16_2 ?_
  refine oa6 X0.here hx hby d16_3 (l' := #[.val (.ref sa), .val (.int 3), .val (.int 0), .val (.int c0)]) rfl ?_
  refine oa X0.here hx hby d16_4 rfl ?_
  refine oa3 X0 hx hZ hown (oa0 hw 75 rfl) (oa0 hw 76 rfl) (oa0 hw 2 rfl) (oa0 hw 77 rfl) (by decide) (isHigh_ l Z a0 hw [] c0 h0 n0 Z0 ) 0 hml rfl (argsL := [(.int c0)]) (st := []) (lenOf pd_1 rfl) rfl rfl e0 hby d16_5 ?_
  intro T4 v4 L4 X4 hQ4
  obtain ⟨rfl, Nq4, eh4⟩ := hQ4
  have N4 := Fr.app N0 Nq4
  refine oa5 (T := T4) 8 #[.val (.ref sa), .val (.int 3), .val (.int 0), .val (.int c0)] [(.int (oc9 c0))] ?_
  by_cases hc8_5 : (oc9 c0) = (0 : Int32)
  · refine ob1 X4.here hx hby (pc' := 31) d16_8 ((if0 _ _).trans (teq hc8_5).1) (by decide) (by decide) ?_
    refine oa X4.here hx hby d16_31 rfl ?_
    refine oa3 X4 hx hZ hown (oa0 hw 79 rfl) (oa0 hw 80 rfl) (oa0 hw 2 rfl) (oa0 hw 81 rfl) (by decide) (bmpOk l Z a0 hw [] c0 h0 n0 Z0 ) 0 hml rfl (argsL := [(.int c0)]) (st := []) (lenOf pd_1 rfl) rfl rfl eh4 hby d16_32 ?_
    intro T6 v6 L6 X6 hQ6
    obtain ⟨rfl, Nq6, eh6⟩ := hQ6
    have N6 := Fr.app N4 Nq6
    refine oa5 (T := T6) 35 #[.val (.ref sa), .val (.int 3), .val (.int 0), .val (.int c0)] [(.int (ob0 c0))] ?_
    refine ob7 X6.here hx hby d16_35 ((if0 _ _).trans (feq hk).1) ?_
    refine oa4 X6.here hx hby d16_38 (v := (1 : Int32)) (by decide) ?_
    refine oc X6.here hx hby (pc' := 43) d16_39 (by decide) (by decide) ?_
    refine oa9 X6 Bd.notSynchronized (v := some (.int 1)) (ob4 Bd.returns) (fun _ hr => retOut X6 hx Bd.returns rfl (Or.inl ⟨rfl, Or.inl rfl, _, rfl⟩) (hb hby d16_43) hr) eh6 (by decide) (by decide) ?_
    exact ⟨rfl, N6, rfl⟩
  · refine ob7 X4.here hx hby d16_8 ((if0 _ _).trans (feq hc8_5).1) ?_
    refine oa X4.here hx hby d16_11 rfl ?_
    refine oa4 X4.here hx hby d16_12 (v := (1 : Int32)) (by decide) ?_
    refine oc8 X4.here hx hby d16_13 (v := (1 : Int32)) (by decide) ?_
    refine oa X4.here hx hby d16_14 rfl ?_
    refine oa7 X4.here hx hby d16_15 (tlt (show (1 : Int32) < (3 : Int32) from (by decide))).2.1 ?_
    refine oa2 X4.here hx hby d16_18 rfl rfl ?_
    refine oa X4.here hx hby d16_19 rfl ?_
    refine oa4 X4.here hx hby d16_20 (v := (1 : Int32)) (by decide) ?_
    refine oc8 X4.here hx hby d16_21 (v := (1 : Int32)) (by decide) ?_
    refine oc6 X4 hx hZ eh4 V_sa ⟨by decide, by decide⟩ (v := (.int c1)) rfl hby d16_22 ?_
    refine oa3 X4 hx hZ hown (oa0 hw 129 rfl) (oa0 hw 130 rfl) (oa0 hw 2 rfl) (oa0 hw 131 rfl) (by decide) (isLow_ l Z a0 hw [] c1 h0 n0 Z0 ) 0 hml rfl (argsL := [(.int c1)]) (st := []) (lenOf pd_1 rfl) rfl rfl eh4 hby d16_23 ?_
    intro T7 v7 L7 X7 hQ7
    obtain ⟨rfl, Nq7, eh7⟩ := hQ7
    have N7 := Fr.app N4 Nq7
    refine oa5 (T := T7) 26 #[.val (.ref sa), .val (.int 3), .val (.int 0), .val (.int c0)] [(.int (od7 c1))] ?_
    by_cases hc26_8 : (od7 c1) = (0 : Int32)
    · refine ob1 X7.here hx hby (pc' := 31) d16_26 ((if0 _ _).trans (teq hc26_8).1) (by decide) (by decide) ?_
      refine oa X7.here hx hby d16_31 rfl ?_
      refine oa3 X7 hx hZ hown (oa0 hw 79 rfl) (oa0 hw 80 rfl) (oa0 hw 2 rfl) (oa0 hw 81 rfl) (by decide) (bmpOk l Z a0 hw [] c0 h0 n0 Z0 ) 0 hml rfl (argsL := [(.int c0)]) (st := []) (lenOf pd_1 rfl) rfl rfl eh7 hby d16_32 ?_
      intro T9 v9 L9 X9 hQ9
      obtain ⟨rfl, Nq9, eh9⟩ := hQ9
      have N9 := Fr.app N7 Nq9
      refine oa5 (T := T9) 35 #[.val (.ref sa), .val (.int 3), .val (.int 0), .val (.int c0)] [(.int (ob0 c0))] ?_
      refine ob7 X9.here hx hby d16_35 ((if0 _ _).trans (feq hk).1) ?_
      refine oa4 X9.here hx hby d16_38 (v := (1 : Int32)) (by decide) ?_
      refine oc X9.here hx hby (pc' := 43) d16_39 (by decide) (by decide) ?_
      refine oa9 X9 Bd.notSynchronized (v := some (.int 1)) (ob4 Bd.returns) (fun _ hr => retOut X9 hx Bd.returns rfl (Or.inl ⟨rfl, Or.inl rfl, _, rfl⟩) (hb hby d16_43) hr) eh9 (by decide) (by decide) ?_
      exact ⟨rfl, N9, rfl⟩
    · refine ob7 X7.here hx hby d16_26 ((if0 _ _).trans (feq hc26_8).1) ?_
      exact (own_pX hp hc8_5 hc26_8).elim
def Q_at_0_3_D (Z : State) (sa : Nat) (ks : ClassId) (c0 : Int32) (c1 : Int32) (c2 : Int32) (h0 : Heap) (n0 : Nat) (vR : Option Value) (hR : Heap) (LR : List Loc) : Prop := vR = some (.int (-1)) ∧ Fr n0 LR ∧ hR = h0
theorem at_0_3_D (l : Launch) (Z : State) (a0 : Array Value) (hw : ∀ d ∈ tables_1, d.before a0 Z = true) (ws : List Jvm.Cond) (sa : Nat) (ks : ClassId) (c0 : Int32) (c1 : Int32) (c2 : Int32) (h0 : Heap) (n0 : Nat) (Z0 : n0 ≤ h0.size) (V_sa : Arv Z h0 sa ks .char (3 : Int32) [(.int c0), (.int c1), (.int c2)] (.int 0)) (hp : od1 c0 c1 = false) (hk : ob0 c0 = (0 : Int32)) :
    oc2 l (⟨"com/example/sluice/sluice/MessageDisallowedCharacterPinLaw", "at", "([CII)I"⟩ : MethodName) method_7_code 4 (some .int) ws ({ frames := 1, cells := 0, slots := 0, locals := 12 } : Room) Z #[(.ref sa), (.int 3), (.int 0)] h0 (Q_at_0_3_D Z sa ks c0 c1 c2 h0 n0) := by
  refine ob3 (own := "com/example/sluice/sluice/MessageDisallowedCharacterPinLaw") rfl (plainFor_of_name pn_16) (fun m => ef_at_0_1_A m sa (3 : Int32) (0 : Int32)) ?_
  intro p e s m below meth c s₁ Bd hml hZ hh hx hby hown X0 e0
  have N0 := Fr.nil n0
  have lt3 : h0.size > sa := V_sa.lt
  refine oa2 X0.here hx hby d16_0 rfl rfl ?_
  refine oa X0.here hx hby d16_1 rfl ?_
  refine oc6 X0 hx hZ e0 V_sa ⟨by decide, by decide⟩ (v := (.int c0)) rfl hby d16_2 ?_
  refine oa6 X0.here hx hby d16_3 (l' := #[.val (.ref sa), .val (.int 3), .val (.int 0), .val (.int c0)]) rfl ?_
  refine oa X0.here hx hby d16_4 rfl ?_
  refine oa3 X0 hx hZ hown (oa0 hw 75 rfl) (oa0 hw 76 rfl) (oa0 hw 2 rfl) (oa0 hw 77 rfl) (by decide) (isHigh_ l Z a0 hw [] c0 h0 n0 Z0 ) 0 hml rfl (argsL := [(.int c0)]) (st := []) (lenOf pd_1 rfl) rfl rfl e0 hby d16_5 ?_
  intro T4 v4 L4 X4 hQ4
  obtain ⟨rfl, Nq4, eh4⟩ := hQ4
  have N4 := Fr.app N0 Nq4
  refine oa5 (T := T4) 8 #[.val (.ref sa), .val (.int 3), .val (.int 0), .val (.int c0)] [(.int (oc9 c0))] ?_
  by_cases hc8_5 : (oc9 c0) = (0 : Int32)
  · refine ob1 X4.here hx hby (pc' := 31) d16_8 ((if0 _ _).trans (teq hc8_5).1) (by decide) (by decide) ?_
    refine oa X4.here hx hby d16_31 rfl ?_
    refine oa3 X4 hx hZ hown (oa0 hw 79 rfl) (oa0 hw 80 rfl) (oa0 hw 2 rfl) (oa0 hw 81 rfl) (by decide) (bmpOk l Z a0 hw [] c0 h0 n0 Z0 ) 0 hml rfl (argsL := [(.int c0)]) (st := []) (lenOf pd_1 rfl) rfl rfl eh4 hby d16_32 ?_
    intro T6 v6 L6 X6 hQ6
    obtain ⟨rfl, Nq6, eh6⟩ := hQ6
    have N6 := Fr.app N4 Nq6
    refine oa5 (T := T6) 35 #[.val (.ref sa), .val (.int 3), .val (.int 0), .val (.int c0)] [(.int (ob0 c0))] ?_
    refine ob1 X6.here hx hby (pc' := 42) d16_35 ((if0 _ _).trans (teq hk).1) (by decide) (by decide) ?_
    refine oa4 X6.here hx hby d16_42 (v := (-1 : Int32)) (by decide) ?_
    refine oa9 X6 Bd.notSynchronized (v := some (.int (-1))) (ob4 Bd.returns) (fun _ hr => retOut X6 hx Bd.returns rfl (Or.inl ⟨rfl, Or.inl rfl, _, rfl⟩) (hb hby d16_43) hr) eh6 (by decide) (by decide) ?_
    exact ⟨rfl, N6, rfl⟩
  · refine ob7 X4.here hx hby d16_8 ((if0 _ _).trans (feq hc8_5).1) ?_
    refine oa X4.here hx hby d16_11 rfl ?_
    refine oa4 X4.here hx hby d16_12 (v := (1 : Int32)) (by decide) ?_
    refine oc8 X4.here hx hby d16_13 (v := (1 : Int32)) (by decide) ?_
    refine oa X4.here hx hby d16_14 rfl ?_
    refine oa7 X4.here hx hby d16_15 (tlt (show (1 : Int32) < (3 : Int32) from (by decide))).2.1 ?_
    refine oa2 X4.here hx hby d16_18 rfl rfl ?_
    refine oa X4.here hx hby d16_19 rfl ?_
    refine oa4 X4.here hx hby d16_20 (v := (1 : Int32)) (by decide) ?_
    refine oc8 X4.here hx hby d16_21 (v := (1 : Int32)) (by decide) ?_
    refine oc6 X4 hx hZ eh4 V_sa ⟨by decide, by decide⟩ (v := (.int c1)) rfl hby d16_22 ?_
    refine oa3 X4 hx hZ hown (oa0 hw 129 rfl) (oa0 hw 130 rfl) (oa0 hw 2 rfl) (oa0 hw 131 rfl) (by decide) (isLow_ l Z a0 hw [] c1 h0 n0 Z0 ) 0 hml rfl (argsL := [(.int c1)]) (st := []) (lenOf pd_1 rfl) rfl rfl eh4 hby d16_23 ?_
    intro T7 v7 L7 X7 hQ7
    obtain ⟨rfl, Nq7, eh7⟩ := hQ7
    have N7 := Fr.app N4 Nq7
    refine oa5 (T := T7) 26 #[.val (.ref sa), .val (.int 3), .val (.int 0), .val (.int c0)] [(.int (od7 c1))] ?_
    by_cases hc26_8 : (od7 c1) = (0 : Int32)
    · refine ob1 X7.here hx hby (pc' := 31) d16_26 ((if0 _ _).trans (teq hc26_8).1) (by decide) (by decide) ?_
      refine oa X7.here hx hby d16_31 rfl ?_
      refine oa3 X7 hx hZ hown (oa0 hw 79 rfl) (oa0 hw 80 rfl) (oa0 hw 2 rfl) (oa0 hw 81 rfl) (by decide) (bmpOk l Z a0 hw [] c0 h0 n0 Z0 ) 0 hml rfl (argsL := [(.int c0)]) (st := []) (lenOf pd_1 rfl) rfl rfl eh7 hby d16_32 ?_
      intro T9 v9 L9 X9 hQ9
      obtain ⟨rfl, Nq9, eh9⟩ := hQ9
      have N9 := Fr.app N7 Nq9
      refine oa5 (T := T9) 35 #[.val (.ref sa), .val (.int 3), .val (.int 0), .val (.int c0)] [(.int (ob0 c0))] ?_
      refine ob1 X9.here hx hby (pc' := 42) d16_35 ((if0 _ _).trans (teq hk).1) (by decide) (by decide) ?_
      refine oa4 X9.here hx hby d16_42 (v := (-1 : Int32)) (by decide) ?_
      refine oa9 X9 Bd.notSynchronized (v := some (.int (-1))) (ob4 Bd.returns) (fun _ hr => retOut X9 hx Bd.returns rfl (Or.inl ⟨rfl, Or.inl rfl, _, rfl⟩) (hb hby d16_43) hr) eh9 (by decide) (by decide) ?_
      exact ⟨rfl, N9, rfl⟩
    · refine ob7 X7.here hx hby d16_26 ((if0 _ _).trans (feq hc26_8).1) ?_
      exact (own_pX hp hc8_5 hc26_8).elim
def Q_at_1_3_P (Z : State) (sa : Nat) (ks : ClassId) (c0 : Int32) (c1 : Int32) (c2 : Int32) (h0 : Heap) (n0 : Nat) (vR : Option Value) (hR : Heap) (LR : List Loc) : Prop := vR = some (.int 2) ∧ Fr n0 LR ∧ hR = h0
theorem at_1_3_P (l : Launch) (Z : State) (a0 : Array Value) (hw : ∀ d ∈ tables_1, d.before a0 Z = true) (ws : List Jvm.Cond) (sa : Nat) (ks : ClassId) (c0 : Int32) (c1 : Int32) (c2 : Int32) (h0 : Heap) (n0 : Nat) (Z0 : n0 ≤ h0.size) (V_sa : Arv Z h0 sa ks .char (3 : Int32) [(.int c0), (.int c1), (.int c2)] (.int 0)) (hp : od1 c1 c2 = true) :
    oc2 l (⟨"com/example/sluice/sluice/MessageDisallowedCharacterPinLaw", "at", "([CII)I"⟩ : MethodName) method_7_code 4 (some .int) ws ({ frames := 1, cells := 0, slots := 0, locals := 12 } : Room) Z #[(.ref sa), (.int 3), (.int 1)] h0 (Q_at_1_3_P Z sa ks c0 c1 c2 h0 n0) := by
  refine ob3 (own := "com/example/sluice/sluice/MessageDisallowedCharacterPinLaw") rfl (plainFor_of_name pn_16) (fun m => ef_at_0_1_A m sa (3 : Int32) (1 : Int32)) ?_
  intro p e s m below meth c s₁ Bd hml hZ hh hx hby hown X0 e0
  have N0 := Fr.nil n0
  have lt3 : h0.size > sa := V_sa.lt
  refine oa2 X0.here hx hby d16_0 rfl rfl ?_
  refine oa X0.here hx hby d16_1 rfl ?_
  refine oc6 X0 hx hZ e0 V_sa ⟨by decide, by decide⟩ (v := (.int c1)) rfl hby d16_2 ?_
  refine oa6 X0.here hx hby d16_3 (l' := #[.val (.ref sa), .val (.int 3), .val (.int 1), .val (.int c1)]) rfl ?_
  refine oa X0.here hx hby d16_4 rfl ?_
  refine oa3 X0 hx hZ hown (oa0 hw 75 rfl) (oa0 hw 76 rfl) (oa0 hw 2 rfl) (oa0 hw 77 rfl) (by decide) (isHigh_ l Z a0 hw [] c1 h0 n0 Z0 ) 0 hml rfl (argsL := [(.int c1)]) (st := []) (lenOf pd_1 rfl) rfl rfl e0 hby d16_5 ?_
  intro T4 v4 L4 X4 hQ4
  obtain ⟨rfl, Nq4, eh4⟩ := hQ4
  have N4 := Fr.app N0 Nq4
  refine oa5 (T := T4) 8 #[.val (.ref sa), .val (.int 3), .val (.int 1), .val (.int c1)] [(.int (oc9 c1))] ?_
  refine ob7 X4.here hx hby d16_8 ((if0 _ _).trans (feq (show ¬ ((oc9 c1) = (0 : Int32)) from og (og4 hp).1)).1) ?_
  refine oa X4.here hx hby d16_11 rfl ?_
  refine oa4 X4.here hx hby d16_12 (v := (1 : Int32)) (by decide) ?_
  refine oc8 X4.here hx hby d16_13 (v := (2 : Int32)) (by decide) ?_
  refine oa X4.here hx hby d16_14 rfl ?_
  refine oa7 X4.here hx hby d16_15 (tlt (show (2 : Int32) < (3 : Int32) from (by decide))).2.1 ?_
  refine oa2 X4.here hx hby d16_18 rfl rfl ?_
  refine oa X4.here hx hby d16_19 rfl ?_
  refine oa4 X4.here hx hby d16_20 (v := (1 : Int32)) (by decide) ?_
  refine oc8 X4.here hx hby d16_21 (v := (2 : Int32)) (by decide) ?_
  refine oc6 X4 hx hZ eh4 V_sa ⟨by decide, by decide⟩ (v := (.int c2)) rfl hby d16_22 ?_
  refine oa3 X4 hx hZ hown (oa0 hw 129 rfl) (oa0 hw 130 rfl) (oa0 hw 2 rfl) (oa0 hw 131 rfl) (by decide) (isLow_ l Z a0 hw [] c2 h0 n0 Z0 ) 0 hml rfl (argsL := [(.int c2)]) (st := []) (lenOf pd_1 rfl) rfl rfl eh4 hby d16_23 ?_
  intro T5 v5 L5 X5 hQ5
  obtain ⟨rfl, Nq5, eh5⟩ := hQ5
  have N5 := Fr.app N4 Nq5
  refine oa5 (T := T5) 26 #[.val (.ref sa), .val (.int 3), .val (.int 1), .val (.int c1)] [(.int (od7 c2))] ?_
  refine ob7 X5.here hx hby d16_26 ((if0 _ _).trans (feq (show ¬ ((od7 c2) = (0 : Int32)) from og (og4 hp).2)).1) ?_
  refine oa4 X5.here hx hby d16_29 (v := (2 : Int32)) (by decide) ?_
  refine oa9 X5 Bd.notSynchronized (v := some (.int 2)) (ob4 Bd.returns) (fun _ hr => retOut X5 hx Bd.returns rfl (Or.inl ⟨rfl, Or.inl rfl, _, rfl⟩) (hb hby d16_30) hr) eh5 (by decide) (by decide) ?_
  exact ⟨rfl, N5, rfl⟩
def Q_at_1_3_A (Z : State) (sa : Nat) (ks : ClassId) (c0 : Int32) (c1 : Int32) (c2 : Int32) (h0 : Heap) (n0 : Nat) (vR : Option Value) (hR : Heap) (LR : List Loc) : Prop := vR = some (.int 1) ∧ Fr n0 LR ∧ hR = h0
theorem at_1_3_A (l : Launch) (Z : State) (a0 : Array Value) (hw : ∀ d ∈ tables_1, d.before a0 Z = true) (ws : List Jvm.Cond) (sa : Nat) (ks : ClassId) (c0 : Int32) (c1 : Int32) (c2 : Int32) (h0 : Heap) (n0 : Nat) (Z0 : n0 ≤ h0.size) (V_sa : Arv Z h0 sa ks .char (3 : Int32) [(.int c0), (.int c1), (.int c2)] (.int 0)) (hp : od1 c1 c2 = false) (hk : ¬ (ob0 c1 = (0 : Int32))) :
    oc2 l (⟨"com/example/sluice/sluice/MessageDisallowedCharacterPinLaw", "at", "([CII)I"⟩ : MethodName) method_7_code 4 (some .int) ws ({ frames := 1, cells := 0, slots := 0, locals := 12 } : Room) Z #[(.ref sa), (.int 3), (.int 1)] h0 (Q_at_1_3_A Z sa ks c0 c1 c2 h0 n0) := by
  refine ob3 (own := "com/example/sluice/sluice/MessageDisallowedCharacterPinLaw") rfl (plainFor_of_name pn_16) (fun m => ef_at_0_1_A m sa (3 : Int32) (1 : Int32)) ?_
  intro p e s m below meth c s₁ Bd hml hZ hh hx hby hown X0 e0
  have N0 := Fr.nil n0
  have lt3 : h0.size > sa := V_sa.lt
  refine oa2 X0.here hx hby d16_0 rfl rfl ?_
  refine oa X0.here hx hby d16_1 rfl ?_
  refine oc6 X0 hx hZ e0 V_sa ⟨by decide, by decide⟩ (v := (.int c1)) rfl hby d16_2 ?_
  refine oa6 X0.here hx hby d16_3 (l' := #[.val (.ref sa), .val (.int 3), .val (.int 1), .val (.int c1)]) rfl ?_
  refine oa X0.here hx hby d16_4 rfl ?_
  refine oa3 X0 hx hZ hown (oa0 hw 75 rfl) (oa0 hw 76 rfl) (oa0 hw 2 rfl) (oa0 hw 77 rfl) (by decide) (isHigh_ l Z a0 hw [] c1 h0 n0 Z0 ) 0 hml rfl (argsL := [(.int c1)]) (st := []) (lenOf pd_1 rfl) rfl rfl e0 hby d16_5 ?_
  intro T4 v4 L4 X4 hQ4
  obtain ⟨rfl, Nq4, eh4⟩ := hQ4
  have N4 := Fr.app N0 Nq4
  refine oa5 (T := T4) 8 #[.val (.ref sa), .val (.int 3), .val (.int 1), .val (.int c1)] [(.int (oc9 c1))] ?_
  by_cases hc8_5 : (oc9 c1) = (0 : Int32)
  · refine ob1 X4.here hx hby (pc' := 31) d16_8 ((if0 _ _).trans (teq hc8_5).1) (by decide) (by decide) ?_
    refine oa X4.here hx hby d16_31 rfl ?_
    refine oa3 X4 hx hZ hown (oa0 hw 79 rfl) (oa0 hw 80 rfl) (oa0 hw 2 rfl) (oa0 hw 81 rfl) (by decide) (bmpOk l Z a0 hw [] c1 h0 n0 Z0 ) 0 hml rfl (argsL := [(.int c1)]) (st := []) (lenOf pd_1 rfl) rfl rfl eh4 hby d16_32 ?_
    intro T6 v6 L6 X6 hQ6
    obtain ⟨rfl, Nq6, eh6⟩ := hQ6
    have N6 := Fr.app N4 Nq6
    refine oa5 (T := T6) 35 #[.val (.ref sa), .val (.int 3), .val (.int 1), .val (.int c1)] [(.int (ob0 c1))] ?_
    refine ob7 X6.here hx hby d16_35 ((if0 _ _).trans (feq hk).1) ?_
    refine oa4 X6.here hx hby d16_38 (v := (1 : Int32)) (by decide) ?_
    refine oc X6.here hx hby (pc' := 43) d16_39 (by decide) (by decide) ?_
    refine oa9 X6 Bd.notSynchronized (v := some (.int 1)) (ob4 Bd.returns) (fun _ hr => retOut X6 hx Bd.returns rfl (Or.inl ⟨rfl, Or.inl rfl, _, rfl⟩) (hb hby d16_43) hr) eh6 (by decide) (by decide) ?_
    exact ⟨rfl, N6, rfl⟩
  · refine ob7 X4.here hx hby d16_8 ((if0 _ _).trans (feq hc8_5).1) ?_
    refine oa X4.here hx hby d16_11 rfl ?_
    refine oa4 X4.here hx hby d16_12 (v := (1 : Int32)) (by decide) ?_
    refine oc8 X4.here hx hby d16_13 (v := (2 : Int32)) (by decide) ?_
    refine oa X4.here hx hby d16_14 rfl ?_
    refine oa7 X4.here hx hby d16_15 (tlt (show (2 : Int32) < (3 : Int32) from (by decide))).2.1 ?_
    refine oa2 X4.here hx hby d16_18 rfl rfl ?_
    refine oa X4.here hx hby d16_19 rfl ?_
    refine oa4 X4.here hx hby d16_20 (v := (1 : Int32)) (by decide) ?_
    refine oc8 X4.here hx hby d16_21 (v := (2 : Int32)) (by decide) ?_
    refine oc6 X4 hx hZ eh4 V_sa ⟨by decide, by decide⟩ (v := (.int c2)) rfl hby d16_22 ?_
    refine oa3 X4 hx hZ hown (oa0 hw 129 rfl) (oa0 hw 130 rfl) (oa0 hw 2 rfl) (oa0 hw 131 rfl) (by decide) (isLow_ l Z a0 hw [] c2 h0 n0 Z0 ) 0 hml rfl (argsL := [(.int c2)]) (st := []) (lenOf pd_1 rfl) rfl rfl eh4 hby d16_23 ?_
    intro T7 v7 L7 X7 hQ7
    obtain ⟨rfl, Nq7, eh7⟩ := hQ7
    have N7 := Fr.app N4 Nq7
    refine oa5 (T := T7) 26 #[.val (.ref sa), .val (.int 3), .val (.int 1), .val (.int c1)] [(.int (od7 c2))] ?_
    by_cases hc26_8 : (od7 c2) = (0 : Int32)
    · refine ob1 X7.here hx hby (pc' := 31) d16_26 ((if0 _ _).trans (teq hc26_8).1) (by decide) (by decide) ?_
      refine oa X7.here hx hby d16_31 rfl ?_
      refine oa3 X7 hx hZ hown (oa0 hw 79 rfl) (oa0 hw 80 rfl) (oa0 hw 2 rfl) (oa0 hw 81 rfl) (by decide) (bmpOk l Z a0 hw [] c1 h0 n0 Z0 ) 0 hml rfl (argsL := [(.int c1)]) (st := []) (lenOf pd_1 rfl) rfl rfl eh7 hby d16_32 ?_
      intro T9 v9 L9 X9 hQ9
      obtain ⟨rfl, Nq9, eh9⟩ := hQ9
      have N9 := Fr.app N7 Nq9
      refine oa5 (T := T9) 35 #[.val (.ref sa), .val (.int 3), .val (.int 1), .val (.int c1)] [(.int (ob0 c1))] ?_
      refine ob7 X9.here hx hby d16_35 ((if0 _ _).trans (feq hk).1) ?_
      refine oa4 X9.here hx hby d16_38 (v := (1 : Int32)) (by decide) ?_
      refine oc X9.here hx hby (pc' := 43) d16_39 (by decide) (by decide) ?_
      refine oa9 X9 Bd.notSynchronized (v := some (.int 1)) (ob4 Bd.returns) (fun _ hr => retOut X9 hx Bd.returns rfl (Or.inl ⟨rfl, Or.inl rfl, _, rfl⟩) (hb hby d16_43) hr) eh9 (by decide) (by decide) ?_
      exact ⟨rfl, N9, rfl⟩
    · refine ob7 X7.here hx hby d16_26 ((if0 _ _).trans (feq hc26_8).1) ?_
      exact (own_pX hp hc8_5 hc26_8).elim
def Q_at_1_3_D (Z : State) (sa : Nat) (ks : ClassId) (c0 : Int32) (c1 : Int32) (c2 : Int32) (h0 : Heap) (n0 : Nat) (vR : Option Value) (hR : Heap) (LR : List Loc) : Prop := vR = some (.int (-1)) ∧ Fr n0 LR ∧ hR = h0
theorem at_1_3_D (l : Launch) (Z : State) (a0 : Array Value) (hw : ∀ d ∈ tables_1, d.before a0 Z = true) (ws : List Jvm.Cond) (sa : Nat) (ks : ClassId) (c0 : Int32) (c1 : Int32) (c2 : Int32) (h0 : Heap) (n0 : Nat) (Z0 : n0 ≤ h0.size) (V_sa : Arv Z h0 sa ks .char (3 : Int32) [(.int c0), (.int c1), (.int c2)] (.int 0)) (hp : od1 c1 c2 = false) (hk : ob0 c1 = (0 : Int32)) :
    oc2 l (⟨"com/example/sluice/sluice/MessageDisallowedCharacterPinLaw", "at", "([CII)I"⟩ : MethodName) method_7_code 4 (some .int) ws ({ frames := 1, cells := 0, slots := 0, locals := 12 } : Room) Z #[(.ref sa), (.int 3), (.int 1)] h0 (Q_at_1_3_D Z sa ks c0 c1 c2 h0 n0) := by
  refine ob3 (own := "com/example/sluice/sluice/MessageDisallowedCharacterPinLaw") rfl (plainFor_of_name pn_16) (fun m => ef_at_0_1_A m sa (3 : Int32) (1 : Int32)) ?_
  intro p e s m below meth c s₁ Bd hml hZ hh hx hby hown X0 e0
  have N0 := Fr.nil n0
  have lt3 : h0.size > sa := V_sa.lt
  refine oa2 X0.here hx hby d16_0 rfl rfl ?_
  refine oa X0.here hx hby d16_1 rfl ?_
  refine oc6 X0 hx hZ e0 V_sa ⟨by decide, by decide⟩ (v := (.int c1)) rfl hby d16_2 ?_
  refine oa6 X0.here hx hby d16_3 (l' := #[.val (.ref sa), .val (.int 3), .val (.int 1), .val (.int c1)]) rfl ?_
  refine oa X0.here hx hby d16_4 rfl ?_
  refine oa3 X0 hx hZ hown (oa0 hw 75 rfl) (oa0 hw 76 rfl) (oa0 hw 2 rfl) (oa0 hw 77 rfl) (by decide) (isHigh_ l Z a0 hw [] c1 h0 n0 Z0 ) 0 hml rfl (argsL := [(.int c1)]) (st := []) (lenOf pd_1 rfl) rfl rfl e0 hby d16_5 ?_
  intro T4 v4 L4 X4 hQ4
  obtain ⟨rfl, Nq4, eh4⟩ := hQ4
  have N4 := Fr.app N0 Nq4
  refine oa5 (T := T4) 8 #[.val (.ref sa), .val (.int 3), .val (.int 1), .val (.int c1)] [(.int (oc9 c1))] ?_
  by_cases hc8_5 : (oc9 c1) = (0 : Int32)
  · refine ob1 X4.here hx hby (pc' := 31) d16_8 ((if0 _ _).trans (teq hc8_5).1) (by decide) (by decide) ?_
    refine oa X4.here hx hby d16_31 rfl ?_
    refine oa3 X4 hx hZ hown (oa0 hw 79 rfl) (oa0 hw 80 rfl) (oa0 hw 2 rfl) (oa0 hw 81 rfl) (by decide) (bmpOk l Z a0 hw [] c1 h0 n0 Z0 ) 0 hml rfl (argsL := [(.int c1)]) (st := []) (lenOf pd_1 rfl) rfl rfl eh4 hby d16_32 ?_
    intro T6 v6 L6 X6 hQ6
    obtain ⟨rfl, Nq6, eh6⟩ := hQ6
    have N6 := Fr.app N4 Nq6
    refine oa5 (T := T6) 35 #[.val (.ref sa), .val (.int 3), .val (.int 1), .val (.int c1)] [(.int (ob0 c1))] ?_
    refine ob1 X6.here hx hby (pc' := 42) d16_35 ((if0 _ _).trans (teq hk).1) (by decide) (by decide) ?_
    refine oa4 X6.here hx hby d16_42 (v := (-1 : Int32)) (by decide) ?_
    refine oa9 X6 Bd.notSynchronized (v := some (.int (-1))) (ob4 Bd.returns) (fun _ hr => retOut X6 hx Bd.returns rfl (Or.inl ⟨rfl, Or.inl rfl, _, rfl⟩) (hb hby d16_43) hr) eh6 (by decide) (by decide) ?_
    exact ⟨rfl, N6, rfl⟩
  · refine ob7 X4.here hx hby d16_8 ((if0 _ _).trans (feq hc8_5).1) ?_
    refine oa X4.here hx hby d16_11 rfl ?_
    refine oa4 X4.here hx hby d16_12 (v := (1 : Int32)) (by decide) ?_
    refine oc8 X4.here hx hby d16_13 (v := (2 : Int32)) (by decide) ?_
    refine oa X4.here hx hby d16_14 rfl ?_
    refine oa7 X4.here hx hby d16_15 (tlt (show (2 : Int32) < (3 : Int32) from (by decide))).2.1 ?_
    refine oa2 X4.here hx hby d16_18 rfl rfl ?_
    refine oa X4.here hx hby d16_19 rfl ?_
    refine oa4 X4.here hx hby d16_20 (v := (1 : Int32)) (by decide) ?_
    refine oc8 X4.here hx hby d16_21 (v := (2 : Int32)) (by decide) ?_
    refine oc6 X4 hx hZ eh4 V_sa ⟨by decide, by decide⟩ (v := (.int c2)) rfl hby d16_22 ?_
    refine oa3 X4 hx hZ hown (oa0 hw 129 rfl) (oa0 hw 130 rfl) (oa0 hw 2 rfl) (oa0 hw 131 rfl) (by decide) (isLow_ l Z a0 hw [] c2 h0 n0 Z0 ) 0 hml rfl (argsL := [(.int c2)]) (st := []) (lenOf pd_1 rfl) rfl rfl eh4 hby d16_23 ?_
    intro T7 v7 L7 X7 hQ7
    obtain ⟨rfl, Nq7, eh7⟩ := hQ7
    have N7 := Fr.app N4 Nq7
    refine oa5 (T := T7) 26 #[.val (.ref sa), .val (.int 3), .val (.int 1), .val (.int c1)] [(.int (od7 c2))] ?_
    by_cases hc26_8 : (od7 c2) = (0 : Int32)
    · refine ob1 X7.here hx hby (pc' := 31) d16_26 ((if0 _ _).trans (teq hc26_8).1) (by decide) (by decide) ?_
      refine oa X7.here hx hby d16_31 rfl ?_
      refine oa3 X7 hx hZ hown (oa0 hw 79 rfl) (oa0 hw 80 rfl) (oa0 hw 2 rfl) (oa0 hw 81 rfl) (by decide) (bmpOk l Z a0 hw [] c1 h0 n0 Z0 ) 0 hml rfl (argsL := [(.int c1)]) (st := []) (lenOf pd_1 rfl) rfl rfl eh7 hby d16_32 ?_
      intro T9 v9 L9 X9 hQ9
      obtain ⟨rfl, Nq9, eh9⟩ := hQ9
      have N9 := Fr.app N7 Nq9
      refine oa5 (T := T9) 35 #[.val (.ref sa), .val (.int 3), .val (.int 1), .val (.int c1)] [(.int (ob0 c1))] ?_
      refine ob1 X9.here hx hby (pc' := 42) d16_35 ((if0 _ _).trans (teq hk).1) (by decide) (by decide) ?_
      refine oa4 X9.here hx hby d16_42 (v := (-1 : Int32)) (by decide) ?_
      refine oa9 X9 Bd.notSynchronized (v := some (.int (-1))) (ob4 Bd.returns) (fun _ hr => retOut X9 hx Bd.returns rfl (Or.inl ⟨rfl, Or.inl rfl, _, rfl⟩) (hb hby d16_43) hr) eh9 (by decide) (by decide) ?_
      exact ⟨rfl, N9, rfl⟩
    · refine ob7 X7.here hx hby d16_26 ((if0 _ _).trans (feq hc26_8).1) ?_
      exact (own_pX hp hc8_5 hc26_8).elim
def Q_at_2_3_A (Z : State) (sa : Nat) (ks : ClassId) (c0 : Int32) (c1 : Int32) (c2 : Int32) (h0 : Heap) (n0 : Nat) (vR : Option Value) (hR : Heap) (LR : List Loc) : Prop := vR = some (.int 1) ∧ Fr n0 LR ∧ hR = h0
theorem at_2_3_A (l : Launch) (Z : State) (a0 : Array Value) (hw : ∀ d ∈ tables_1, d.before a0 Z = true) (ws : List Jvm.Cond) (sa : Nat) (ks : ClassId) (c0 : Int32) (c1 : Int32) (c2 : Int32) (h0 : Heap) (n0 : Nat) (Z0 : n0 ≤ h0.size) (V_sa : Arv Z h0 sa ks .char (3 : Int32) [(.int c0), (.int c1), (.int c2)] (.int 0)) (hk : ¬ (ob0 c2 = (0 : Int32))) :
    oc2 l (⟨"com/example/sluice/sluice/MessageDisallowedCharacterPinLaw", "at", "([CII)I"⟩ : MethodName) method_7_code 4 (some .int) ws ({ frames := 1, cells := 0, slots := 0, locals := 12 } : Room) Z #[(.ref sa), (.int 3), (.int 2)] h0 (Q_at_2_3_A Z sa ks c0 c1 c2 h0 n0) := by
  refine ob3 (own := "com/example/sluice/sluice/MessageDisallowedCharacterPinLaw") rfl (plainFor_of_name pn_16) (fun m => ef_at_0_1_A m sa (3 : Int32) (2 : Int32)) ?_
  intro p e s m below meth c s₁ Bd hml hZ hh hx hby hown X0 e0
  have N0 := Fr.nil n0
  have lt3 : h0.size > sa := V_sa.lt
  refine oa2 X0.here hx hby d16_0 rfl rfl ?_
  refine oa X0.here hx hby d16_1 rfl ?_
  refine oc6 X0 hx hZ e0 V_sa ⟨by decide, by decide⟩ (v := (.int c2)) rfl hby d16_2 ?_
  refine oa6 X0.here hx hby d16_3 (l' := #[.val (.ref sa), .val (.int 3), .val (.int 2), .val (.int c2)]) rfl ?_
  refine oa X0.here hx hby d16_4 rfl ?_
  refine oa3 X0 hx hZ hown (oa0 hw 75 rfl) (oa0 hw 76 rfl) (oa0 hw 2 rfl) (oa0 hw 77 rfl) (by decide) (isHigh_ l Z a0 hw [] c2 h0 n0 Z0 ) 0 hml rfl (argsL := [(.int c2)]) (st := []) (lenOf pd_1 rfl) rfl rfl e0 hby d16_5 ?_
  intro T4 v4 L4 X4 hQ4
  obtain ⟨rfl, Nq4, eh4⟩ := hQ4
  have N4 := Fr.app N0 Nq4
  refine oa5 (T := T4) 8 #[.val (.ref sa), .val (.int 3), .val (.int 2), .val (.int c2)] [(.int (oc9 c2))] ?_
  by_cases hc8_5 : (oc9 c2) = (0 : Int32)
  · refine ob1 X4.here hx hby (pc' := 31) d16_8 ((if0 _ _).trans (teq hc8_5).1) (by decide) (by decide) ?_
    refine oa X4.here hx hby d16_31 rfl ?_
    refine oa3 X4 hx hZ hown (oa0 hw 79 rfl) (oa0 hw 80 rfl) (oa0 hw 2 rfl) (oa0 hw 81 rfl) (by decide) (bmpOk l Z a0 hw [] c2 h0 n0 Z0 ) 0 hml rfl (argsL := [(.int c2)]) (st := []) (lenOf pd_1 rfl) rfl rfl eh4 hby d16_32 ?_
    intro T6 v6 L6 X6 hQ6
    obtain ⟨rfl, Nq6, eh6⟩ := hQ6
    have N6 := Fr.app N4 Nq6
    refine oa5 (T := T6) 35 #[.val (.ref sa), .val (.int 3), .val (.int 2), .val (.int c2)] [(.int (ob0 c2))] ?_
    refine ob7 X6.here hx hby d16_35 ((if0 _ _).trans (feq hk).1) ?_
    refine oa4 X6.here hx hby d16_38 (v := (1 : Int32)) (by decide) ?_
    refine oc X6.here hx hby (pc' := 43) d16_39 (by decide) (by decide) ?_
    refine oa9 X6 Bd.notSynchronized (v := some (.int 1)) (ob4 Bd.returns) (fun _ hr => retOut X6 hx Bd.returns rfl (Or.inl ⟨rfl, Or.inl rfl, _, rfl⟩) (hb hby d16_43) hr) eh6 (by decide) (by decide) ?_
    exact ⟨rfl, N6, rfl⟩
  · refine ob7 X4.here hx hby d16_8 ((if0 _ _).trans (feq hc8_5).1) ?_
    refine oa X4.here hx hby d16_11 rfl ?_
    refine oa4 X4.here hx hby d16_12 (v := (1 : Int32)) (by decide) ?_
    refine oc8 X4.here hx hby d16_13 (v := (3 : Int32)) (by decide) ?_
    refine oa X4.here hx hby d16_14 rfl ?_
    refine ob2 X4.here hx hby (pc' := 31) d16_15 (flt (show ¬ ((3 : Int32) < (3 : Int32)) from (by decide))).2.1 (by decide) (by decide) ?_
    refine oa X4.here hx hby d16_31 rfl ?_
    refine oa3 X4 hx hZ hown (oa0 hw 79 rfl) (oa0 hw 80 rfl) (oa0 hw 2 rfl) (oa0 hw 81 rfl) (by decide) (bmpOk l Z a0 hw [] c2 h0 n0 Z0 ) 0 hml rfl (argsL := [(.int c2)]) (st := []) (lenOf pd_1 rfl) rfl rfl eh4 hby d16_32 ?_
    intro T7 v7 L7 X7 hQ7
    obtain ⟨rfl, Nq7, eh7⟩ := hQ7
    have N7 := Fr.app N4 Nq7
    refine oa5 (T := T7) 35 #[.val (.ref sa), .val (.int 3), .val (.int 2), .val (.int c2)] [(.int (ob0 c2))] ?_
    refine ob7 X7.here hx hby d16_35 ((if0 _ _).trans (feq hk).1) ?_
    refine oa4 X7.here hx hby d16_38 (v := (1 : Int32)) (by decide) ?_
    refine oc X7.here hx hby (pc' := 43) d16_39 (by decide) (by decide) ?_
    refine oa9 X7 Bd.notSynchronized (v := some (.int 1)) (ob4 Bd.returns) (fun _ hr => retOut X7 hx Bd.returns rfl (Or.inl ⟨rfl, Or.inl rfl, _, rfl⟩) (hb hby d16_43) hr) eh7 (by decide) (by decide) ?_
    exact ⟨rfl, N7, rfl⟩
def Q_at_2_3_D (Z : State) (sa : Nat) (ks : ClassId) (c0 : Int32) (c1 : Int32) (c2 : Int32) (h0 : Heap) (n0 : Nat) (vR : Option Value) (hR : Heap) (LR : List Loc) : Prop := vR = some (.int (-1)) ∧ Fr n0 LR ∧ hR = h0
theorem at_2_3_D (l : Launch) (Z : State) (a0 : Array Value) (hw : ∀ d ∈ tables_1, d.before a0 Z = true) (ws : List Jvm.Cond) (sa : Nat) (ks : ClassId) (c0 : Int32) (c1 : Int32) (c2 : Int32) (h0 : Heap) (n0 : Nat) (Z0 : n0 ≤ h0.size) (V_sa : Arv Z h0 sa ks .char (3 : Int32) [(.int c0), (.int c1), (.int c2)] (.int 0)) (hk : ob0 c2 = (0 : Int32)) :
    oc2 l (⟨"com/example/sluice/sluice/MessageDisallowedCharacterPinLaw", "at", "([CII)I"⟩ : MethodName) method_7_code 4 (some .int) ws ({ frames := 1, cells := 0, slots := 0, locals := 12 } : Room) Z #[(.ref sa), (.int 3), (.int 2)] h0 (Q_at_2_3_D Z sa ks c0 c1 c2 h0 n0) := by
  refine ob3 (own := "com/example/sluice/sluice/MessageDisallowedCharacterPinLaw") rfl (plainFor_of_name pn_16) (fun m => ef_at_0_1_A m sa (3 : Int32) (2 : Int32)) ?_
  intro p e s m below meth c s₁ Bd hml hZ hh hx hby hown X0 e0
  have N0 := Fr.nil n0
  have lt3 : h0.size > sa := V_sa.lt
  refine oa2 X0.here hx hby d16_0 rfl rfl ?_
  refine oa X0.here hx hby d16_1 rfl ?_
  refine oc6 X0 hx hZ e0 V_sa ⟨by decide, by decide⟩ (v := (.int c2)) rfl hby d16_2 ?_
  refine oa6 X0.here hx hby d16_3 (l' := #[.val (.ref sa), .val (.int 3), .val (.int 2), .val (.int c2)]) rfl ?_
  refine oa X0.here hx hby d16_4 rfl ?_
  refine oa3 X0 hx hZ hown (oa0 hw 75 rfl) (oa0 hw 76 rfl) (oa0 hw 2 rfl) (oa0 hw 77 rfl) (by decide) (isHigh_ l Z a0 hw [] c2 h0 n0 Z0 ) 0 hml rfl (argsL := [(.int c2)]) (st := []) (lenOf pd_1 rfl) rfl rfl e0 hby d16_5 ?_
  intro T4 v4 L4 X4 hQ4
  obtain ⟨rfl, Nq4, eh4⟩ := hQ4
  have N4 := Fr.app N0 Nq4
  refine oa5 (T := T4) 8 #[.val (.ref sa), .val (.int 3), .val (.int 2), .val (.int c2)] [(.int (oc9 c2))] ?_
  by_cases hc8_5 : (oc9 c2) = (0 : Int32)
  · refine ob1 X4.here hx hby (pc' := 31) d16_8 ((if0 _ _).trans (teq hc8_5).1) (by decide) (by decide) ?_
    refine oa X4.here hx hby d16_31 rfl ?_
    refine oa3 X4 hx hZ hown (oa0 hw 79 rfl) (oa0 hw 80 rfl) (oa0 hw 2 rfl) (oa0 hw 81 rfl) (by decide) (bmpOk l Z a0 hw [] c2 h0 n0 Z0 ) 0 hml rfl (argsL := [(.int c2)]) (st := []) (lenOf pd_1 rfl) rfl rfl eh4 hby d16_32 ?_
    intro T6 v6 L6 X6 hQ6
    obtain ⟨rfl, Nq6, eh6⟩ := hQ6
    have N6 := Fr.app N4 Nq6
    refine oa5 (T := T6) 35 #[.val (.ref sa), .val (.int 3), .val (.int 2), .val (.int c2)] [(.int (ob0 c2))] ?_
    refine ob1 X6.here hx hby (pc' := 42) d16_35 ((if0 _ _).trans (teq hk).1) (by decide) (by decide) ?_
    refine oa4 X6.here hx hby d16_42 (v := (-1 : Int32)) (by decide) ?_
    refine oa9 X6 Bd.notSynchronized (v := some (.int (-1))) (ob4 Bd.returns) (fun _ hr => retOut X6 hx Bd.returns rfl (Or.inl ⟨rfl, Or.inl rfl, _, rfl⟩) (hb hby d16_43) hr) eh6 (by decide) (by decide) ?_
    exact ⟨rfl, N6, rfl⟩
  · refine ob7 X4.here hx hby d16_8 ((if0 _ _).trans (feq hc8_5).1) ?_
    refine oa X4.here hx hby d16_11 rfl ?_
    refine oa4 X4.here hx hby d16_12 (v := (1 : Int32)) (by decide) ?_
    refine oc8 X4.here hx hby d16_13 (v := (3 : Int32)) (by decide) ?_
    refine oa X4.here hx hby d16_14 rfl ?_
    refine ob2 X4.here hx hby (pc' := 31) d16_15 (flt (show ¬ ((3 : Int32) < (3 : Int32)) from (by decide))).2.1 (by decide) (by decide) ?_
    refine oa X4.here hx hby d16_31 rfl ?_
    refine oa3 X4 hx hZ hown (oa0 hw 79 rfl) (oa0 hw 80 rfl) (oa0 hw 2 rfl) (oa0 hw 81 rfl) (by decide) (bmpOk l Z a0 hw [] c2 h0 n0 Z0 ) 0 hml rfl (argsL := [(.int c2)]) (st := []) (lenOf pd_1 rfl) rfl rfl eh4 hby d16_32 ?_
    intro T7 v7 L7 X7 hQ7
    obtain ⟨rfl, Nq7, eh7⟩ := hQ7
    have N7 := Fr.app N4 Nq7
    refine oa5 (T := T7) 35 #[.val (.ref sa), .val (.int 3), .val (.int 2), .val (.int c2)] [(.int (ob0 c2))] ?_
    refine ob1 X7.here hx hby (pc' := 42) d16_35 ((if0 _ _).trans (teq hk).1) (by decide) (by decide) ?_
    refine oa4 X7.here hx hby d16_42 (v := (-1 : Int32)) (by decide) ?_
    refine oa9 X7 Bd.notSynchronized (v := some (.int (-1))) (ob4 Bd.returns) (fun _ hr => retOut X7 hx Bd.returns rfl (Or.inl ⟨rfl, Or.inl rfl, _, rfl⟩) (hb hby d16_43) hr) eh7 (by decide) (by decide) ?_
    exact ⟨rfl, N7, rfl⟩
theorem d15_57 : decode method_8_code 57 = .ok (.aload_n 0, 1) := by decide +kernel
theorem d15_58 : decode method_8_code 58 = .ok (.iload_n 1, 1) := by decide +kernel
theorem d15_59 : decode method_8_code 59 = .ok (.iload_n 2, 1) := by decide +kernel
theorem d15_60 : decode method_8_code 60 = .ok (.invokestatic 46, 3) := by decide +kernel
theorem d15_63 : decode method_8_code 63 = .ok (.istore_n 3, 1) := by decide +kernel
theorem d15_64 : decode method_8_code 64 = .ok (.iload_n 3, 1) := by decide +kernel
theorem d15_65 : decode method_8_code 65 = .ok (.ifCond .ge 5, 3) := by decide +kernel
theorem d15_68 : decode method_8_code 68 = .ok (.iload_n 2, 1) := by decide +kernel
theorem d15_69 : decode method_8_code 69 = .ok (.ireturn, 1) := by decide +kernel
theorem d15_70 : decode method_8_code 70 = .ok (.iconst (-1), 1) := by decide +kernel
theorem d15_71 : decode method_8_code 71 = .ok (.ireturn, 1) := by decide +kernel
def Q_expd_3 (Z : State) (sa : Nat) (ks : ClassId) (c0 : Int32) (c1 : Int32) (c2 : Int32) (h0 : Heap) (n0 : Nat) (vR : Option Value) (hR : Heap) (LR : List Loc) : Prop := vR = some (.int (od6 c0 c1 c2)) ∧ Fr n0 LR ∧ hR = h0
theorem expd_3 (l : Launch) (Z : State) (a0 : Array Value) (hw : ∀ d ∈ tables_1, d.before a0 Z = true) (ws : List Jvm.Cond) (sa : Nat) (ks : ClassId) (c0 : Int32) (c1 : Int32) (c2 : Int32) (h0 : Heap) (n0 : Nat) (Z0 : n0 ≤ h0.size) (V_sa : Arv Z h0 sa ks .char (3 : Int32) [(.int c0), (.int c1), (.int c2)] (.int 0)) :
    oc2 l (⟨"com/example/sluice/sluice/MessageDisallowedCharacterPinLaw", "expected", "([CI)I"⟩ : MethodName) method_8_code 4 (some .int) ws ({ frames := 2, cells := 0, slots := 0, locals := 27 } : Room) Z #[(.ref sa), (.int 3)] h0 (Q_expd_3 Z sa ks c0 c1 c2 h0 n0) := by
  refine ob3 (own := "com/example/sluice/sluice/MessageDisallowedCharacterPinLaw") rfl (plainFor_of_name pn_15) (fun m => ef_expd_0 m sa (3 : Int32)) ?_
  intro p e s m below meth c s₁ Bd hml hZ hh hx hby hown X0 e0
  have N0 := Fr.nil n0
  have lt3 : h0.size > sa := V_sa.lt
  refine oa4 X0.here hx hby d15_0 (v := (0 : Int32)) (by decide) ?_
  refine oa6 X0.here hx hby d15_1 (l' := #[.val (.ref sa), .val (.int 3), .val (.int 0), .unset]) rfl ?_
  refine oa X0.here hx hby d15_2 rfl ?_
  refine oa X0.here hx hby d15_3 rfl ?_
  refine ob2 X0.here hx hby (pc' := 9) d15_4 (tlt (show (0 : Int32) < (3 : Int32) from (by decide))).1 (by decide) (by decide) ?_
  refine oa2 X0.here hx hby d15_9 rfl rfl ?_
  refine oa X0.here hx hby d15_10 rfl ?_
  refine oa X0.here hx hby d15_11 rfl ?_
  refine oa5 (T := s₁) 12 #[.val (.ref sa), .val (.int 3), .val (.int 0), .unset] [(.int 0), (.int 3), (.ref sa)] ?_
  cases hp0 : od1 c0 c1
  · refine oa5 (T := s₁) 12 #[.val (.ref sa), .val (.int 3), .val (.int 0), .unset] [(.int 0), (.int 3), (.ref sa)] ?_
    by_cases hk0 : ob0 c0 = (0 : Int32)
    · refine oa3 X0 hx hZ hown (oa0 hw 72 rfl) (oa0 hw 73 rfl) (oa0 hw 2 rfl) (oa0 hw 74 rfl) (by decide) (at_0_3_D l Z a0 hw [] sa ks c0 c1 c2 h0 n0 Z0 V_sa hp0 hk0) 0 hml rfl (argsL := [(.ref sa), (.int 3), (.int 0)]) (st := []) (lenOf pd_2 rfl) rfl rfl e0 hby d15_12 ?_
      intro T4 v4 L4 X4 hQ4
      obtain ⟨rfl, Nq4, eh4⟩ := hQ4
      have N4 := Fr.app N0 Nq4
      refine oa5 (T := T4) 15 #[.val (.ref sa), .val (.int 3), .val (.int 0), .unset] [(.int (-1))] ?_
      refine oa6 X4.here hx hby d15_15 (l' := #[.val (.ref sa), .val (.int 3), .val (.int 0), .val (.int (-1))]) rfl ?_
      refine oa X4.here hx hby d15_16 rfl ?_
      refine ob7 X4.here hx hby d15_17 ((if0 _ _).trans (tlt (show (-1 : Int32) < (0 : Int32) from (by decide))).2.1) ?_
      refine oa X4.here hx hby d15_20 rfl ?_
      refine oa9 X4 Bd.notSynchronized (v := some (.int 0)) (ob4 Bd.returns) (fun _ hr => retOut X4 hx Bd.returns rfl (Or.inl ⟨rfl, Or.inl rfl, _, rfl⟩) (hb hby d15_21) hr) eh4 (by decide) (by decide) ?_
      exact ⟨(od (by rw [od6, if_neg (oe4 hp0), if_pos hk0])), N4, rfl⟩
    · refine oa3 X0 hx hZ hown (oa0 hw 72 rfl) (oa0 hw 73 rfl) (oa0 hw 2 rfl) (oa0 hw 74 rfl) (by decide) (at_0_3_A l Z a0 hw [] sa ks c0 c1 c2 h0 n0 Z0 V_sa hp0 hk0) 0 hml rfl (argsL := [(.ref sa), (.int 3), (.int 0)]) (st := []) (lenOf pd_2 rfl) rfl rfl e0 hby d15_12 ?_
      intro T5 v5 L5 X5 hQ5
      obtain ⟨rfl, Nq5, eh5⟩ := hQ5
      have N5 := Fr.app N0 Nq5
      refine oa5 (T := T5) 15 #[.val (.ref sa), .val (.int 3), .val (.int 0), .unset] [(.int 1)] ?_
      refine oa6 X5.here hx hby d15_15 (l' := #[.val (.ref sa), .val (.int 3), .val (.int 0), .val (.int 1)]) rfl ?_
      refine oa X5.here hx hby d15_16 rfl ?_
      refine ob1 X5.here hx hby (pc' := 22) d15_17 ((if0 _ _).trans (flt (show ¬ ((1 : Int32) < (0 : Int32)) from (by decide))).2.1) (by decide) (by decide) ?_
      refine oa X5.here hx hby d15_22 rfl ?_
      refine oa X5.here hx hby d15_23 rfl ?_
      refine oc8 X5.here hx hby d15_24 (v := (1 : Int32)) (by decide) ?_
      refine oa6 X5.here hx hby d15_25 (l' := #[.val (.ref sa), .val (.int 3), .val (.int 1), .val (.int 1)]) rfl ?_
      refine oa X5.here hx hby d15_26 rfl ?_
      refine oa X5.here hx hby d15_27 rfl ?_
      refine ob2 X5.here hx hby (pc' := 33) d15_28 (tlt (show (1 : Int32) < (3 : Int32) from (by decide))).1 (by decide) (by decide) ?_
      refine oa2 X5.here hx hby d15_33 rfl rfl ?_
      refine oa X5.here hx hby d15_34 rfl ?_
      refine oa X5.here hx hby d15_35 rfl ?_
      refine oa5 (T := T5) 36 #[.val (.ref sa), .val (.int 3), .val (.int 1), .val (.int 1)] [(.int 1), (.int 3), (.ref sa)] ?_
      cases hp1 : od1 c1 c2
      · refine oa5 (T := T5) 36 #[.val (.ref sa), .val (.int 3), .val (.int 1), .val (.int 1)] [(.int 1), (.int 3), (.ref sa)] ?_
        by_cases hk1 : ob0 c1 = (0 : Int32)
        · refine oa3 X5 hx hZ hown (oa0 hw 72 rfl) (oa0 hw 73 rfl) (oa0 hw 2 rfl) (oa0 hw 74 rfl) (by decide) (at_1_3_D l Z a0 hw [] sa ks c0 c1 c2 h0 n0 Z0 V_sa hp1 hk1) 0 hml rfl (argsL := [(.ref sa), (.int 3), (.int 1)]) (st := []) (lenOf pd_2 rfl) rfl rfl eh5 hby d15_36 ?_
          intro T6 v6 L6 X6 hQ6
          obtain ⟨rfl, Nq6, eh6⟩ := hQ6
          have N6 := Fr.app N5 Nq6
          refine oa5 (T := T6) 39 #[.val (.ref sa), .val (.int 3), .val (.int 1), .val (.int 1)] [(.int (-1))] ?_
          refine oa6 X6.here hx hby d15_39 (l' := #[.val (.ref sa), .val (.int 3), .val (.int 1), .val (.int (-1))]) rfl ?_
          refine oa X6.here hx hby d15_40 rfl ?_
          refine ob7 X6.here hx hby d15_41 ((if0 _ _).trans (tlt (show (-1 : Int32) < (0 : Int32) from (by decide))).2.1) ?_
          refine oa X6.here hx hby d15_44 rfl ?_
          refine oa9 X6 Bd.notSynchronized (v := some (.int 1)) (ob4 Bd.returns) (fun _ hr => retOut X6 hx Bd.returns rfl (Or.inl ⟨rfl, Or.inl rfl, _, rfl⟩) (hb hby d15_45) hr) eh6 (by decide) (by decide) ?_
          exact ⟨(od (by rw [od6, if_neg (oe4 hp0), if_neg hk0, od9, if_neg (oe4 hp1), if_pos hk1])), N6, rfl⟩
        · refine oa3 X5 hx hZ hown (oa0 hw 72 rfl) (oa0 hw 73 rfl) (oa0 hw 2 rfl) (oa0 hw 74 rfl) (by decide) (at_1_3_A l Z a0 hw [] sa ks c0 c1 c2 h0 n0 Z0 V_sa hp1 hk1) 0 hml rfl (argsL := [(.ref sa), (.int 3), (.int 1)]) (st := []) (lenOf pd_2 rfl) rfl rfl eh5 hby d15_36 ?_
          intro T7 v7 L7 X7 hQ7
          obtain ⟨rfl, Nq7, eh7⟩ := hQ7
          have N7 := Fr.app N5 Nq7
          refine oa5 (T := T7) 39 #[.val (.ref sa), .val (.int 3), .val (.int 1), .val (.int 1)] [(.int 1)] ?_
          refine oa6 X7.here hx hby d15_39 (l' := #[.val (.ref sa), .val (.int 3), .val (.int 1), .val (.int 1)]) rfl ?_
          refine oa X7.here hx hby d15_40 rfl ?_
          refine ob1 X7.here hx hby (pc' := 46) d15_41 ((if0 _ _).trans (flt (show ¬ ((1 : Int32) < (0 : Int32)) from (by decide))).2.1) (by decide) (by decide) ?_
          refine oa X7.here hx hby d15_46 rfl ?_
          refine oa X7.here hx hby d15_47 rfl ?_
          refine oc8 X7.here hx hby d15_48 (v := (2 : Int32)) (by decide) ?_
          refine oa6 X7.here hx hby d15_49 (l' := #[.val (.ref sa), .val (.int 3), .val (.int 2), .val (.int 1)]) rfl ?_
          refine oa X7.here hx hby d15_50 rfl ?_
          refine oa X7.here hx hby d15_51 rfl ?_
          refine ob2 X7.here hx hby (pc' := 57) d15_52 (tlt (show (2 : Int32) < (3 : Int32) from (by decide))).1 (by decide) (by decide) ?_
          refine oa2 X7.here hx hby d15_57 rfl rfl ?_
          refine oa X7.here hx hby d15_58 rfl ?_
          refine oa X7.here hx hby d15_59 rfl ?_
          refine oa5 (T := T7) 60 #[.val (.ref sa), .val (.int 3), .val (.int 2), .val (.int 1)] [(.int 2), (.int 3), (.ref sa)] ?_
          by_cases hk2 : ob0 c2 = (0 : Int32)
          · refine oa3 X7 hx hZ hown (oa0 hw 72 rfl) (oa0 hw 73 rfl) (oa0 hw 2 rfl) (oa0 hw 74 rfl) (by decide) (at_2_3_D l Z a0 hw [] sa ks c0 c1 c2 h0 n0 Z0 V_sa hk2) 0 hml rfl (argsL := [(.ref sa), (.int 3), (.int 2)]) (st := []) (lenOf pd_2 rfl) rfl rfl eh7 hby d15_60 ?_
            intro T8 v8 L8 X8 hQ8
            obtain ⟨rfl, Nq8, eh8⟩ := hQ8
            have N8 := Fr.app N7 Nq8
            refine oa5 (T := T8) 63 #[.val (.ref sa), .val (.int 3), .val (.int 2), .val (.int 1)] [(.int (-1))] ?_
            refine oa6 X8.here hx hby d15_63 (l' := #[.val (.ref sa), .val (.int 3), .val (.int 2), .val (.int (-1))]) rfl ?_
            refine oa X8.here hx hby d15_64 rfl ?_
            refine ob7 X8.here hx hby d15_65 ((if0 _ _).trans (tlt (show (-1 : Int32) < (0 : Int32) from (by decide))).2.1) ?_
            refine oa X8.here hx hby d15_68 rfl ?_
            refine oa9 X8 Bd.notSynchronized (v := some (.int 2)) (ob4 Bd.returns) (fun _ hr => retOut X8 hx Bd.returns rfl (Or.inl ⟨rfl, Or.inl rfl, _, rfl⟩) (hb hby d15_69) hr) eh8 (by decide) (by decide) ?_
            exact ⟨(od (by rw [od6, if_neg (oe4 hp0), if_neg hk0, od9, if_neg (oe4 hp1), if_neg hk1, oe0, if_pos hk2])), N8, rfl⟩
          · refine oa3 X7 hx hZ hown (oa0 hw 72 rfl) (oa0 hw 73 rfl) (oa0 hw 2 rfl) (oa0 hw 74 rfl) (by decide) (at_2_3_A l Z a0 hw [] sa ks c0 c1 c2 h0 n0 Z0 V_sa hk2) 0 hml rfl (argsL := [(.ref sa), (.int 3), (.int 2)]) (st := []) (lenOf pd_2 rfl) rfl rfl eh7 hby d15_60 ?_
            intro T9 v9 L9 X9 hQ9
            obtain ⟨rfl, Nq9, eh9⟩ := hQ9
            have N9 := Fr.app N7 Nq9
            refine oa5 (T := T9) 63 #[.val (.ref sa), .val (.int 3), .val (.int 2), .val (.int 1)] [(.int 1)] ?_
            refine oa6 X9.here hx hby d15_63 (l' := #[.val (.ref sa), .val (.int 3), .val (.int 2), .val (.int 1)]) rfl ?_
            refine oa X9.here hx hby d15_64 rfl ?_
            refine ob1 X9.here hx hby (pc' := 70) d15_65 ((if0 _ _).trans (flt (show ¬ ((1 : Int32) < (0 : Int32)) from (by decide))).2.1) (by decide) (by decide) ?_
            refine oa4 X9.here hx hby d15_70 (v := (-1 : Int32)) (by decide) ?_
            refine oa9 X9 Bd.notSynchronized (v := some (.int (-1))) (ob4 Bd.returns) (fun _ hr => retOut X9 hx Bd.returns rfl (Or.inl ⟨rfl, Or.inl rfl, _, rfl⟩) (hb hby d15_71) hr) eh9 (by decide) (by decide) ?_
            exact ⟨(od (by rw [od6, if_neg (oe4 hp0), if_neg hk0, od9, if_neg (oe4 hp1), if_neg hk1, oe0, if_neg hk2])), N9, rfl⟩
      · refine oa3 X5 hx hZ hown (oa0 hw 72 rfl) (oa0 hw 73 rfl) (oa0 hw 2 rfl) (oa0 hw 74 rfl) (by decide) (at_1_3_P l Z a0 hw [] sa ks c0 c1 c2 h0 n0 Z0 V_sa hp1) 0 hml rfl (argsL := [(.ref sa), (.int 3), (.int 1)]) (st := []) (lenOf pd_2 rfl) rfl rfl eh5 hby d15_36 ?_
        intro T10 v10 L10 X10 hQ10
        obtain ⟨rfl, Nq10, eh10⟩ := hQ10
        have N10 := Fr.app N5 Nq10
        refine oa5 (T := T10) 39 #[.val (.ref sa), .val (.int 3), .val (.int 1), .val (.int 1)] [(.int 2)] ?_
        refine oa6 X10.here hx hby d15_39 (l' := #[.val (.ref sa), .val (.int 3), .val (.int 1), .val (.int 2)]) rfl ?_
        refine oa X10.here hx hby d15_40 rfl ?_
        refine ob1 X10.here hx hby (pc' := 46) d15_41 ((if0 _ _).trans (flt (show ¬ ((2 : Int32) < (0 : Int32)) from (by decide))).2.1) (by decide) (by decide) ?_
        refine oa X10.here hx hby d15_46 rfl ?_
        refine oa X10.here hx hby d15_47 rfl ?_
        refine oc8 X10.here hx hby d15_48 (v := (3 : Int32)) (by decide) ?_
        refine oa6 X10.here hx hby d15_49 (l' := #[.val (.ref sa), .val (.int 3), .val (.int 3), .val (.int 2)]) rfl ?_
        refine oa X10.here hx hby d15_50 rfl ?_
        refine oa X10.here hx hby d15_51 rfl ?_
        refine oa7 X10.here hx hby d15_52 (flt (show ¬ ((3 : Int32) < (3 : Int32)) from (by decide))).1 ?_
        refine oa4 X10.here hx hby d15_55 (v := (-1 : Int32)) (by decide) ?_
        refine oa9 X10 Bd.notSynchronized (v := some (.int (-1))) (ob4 Bd.returns) (fun _ hr => retOut X10 hx Bd.returns rfl (Or.inl ⟨rfl, Or.inl rfl, _, rfl⟩) (hb hby d15_56) hr) eh10 (by decide) (by decide) ?_
        exact ⟨(od (by rw [od6, if_neg (oe4 hp0), if_neg hk0, od9, if_pos hp1])), N10, rfl⟩
  · refine oa3 X0 hx hZ hown (oa0 hw 72 rfl) (oa0 hw 73 rfl) (oa0 hw 2 rfl) (oa0 hw 74 rfl) (by decide) (at_0_3_P l Z a0 hw [] sa ks c0 c1 c2 h0 n0 Z0 V_sa hp0) 0 hml rfl (argsL := [(.ref sa), (.int 3), (.int 0)]) (st := []) (lenOf pd_2 rfl) rfl rfl e0 hby d15_12 ?_
    intro T11 v11 L11 X11 hQ11
    obtain ⟨rfl, Nq11, eh11⟩ := hQ11
    have N11 := Fr.app N0 Nq11
    refine oa5 (T := T11) 15 #[.val (.ref sa), .val (.int 3), .val (.int 0), .unset] [(.int 2)] ?_
    refine oa6 X11.here hx hby d15_15 (l' := #[.val (.ref sa), .val (.int 3), .val (.int 0), .val (.int 2)]) rfl ?_
    refine oa X11.here hx hby d15_16 rfl ?_
    refine ob1 X11.here hx hby (pc' := 22) d15_17 ((if0 _ _).trans (flt (show ¬ ((2 : Int32) < (0 : Int32)) from (by decide))).2.1) (by decide) (by decide) ?_
    refine oa X11.here hx hby d15_22 rfl ?_
    refine oa X11.here hx hby d15_23 rfl ?_
    refine oc8 X11.here hx hby d15_24 (v := (2 : Int32)) (by decide) ?_
    refine oa6 X11.here hx hby d15_25 (l' := #[.val (.ref sa), .val (.int 3), .val (.int 2), .val (.int 2)]) rfl ?_
    refine oa X11.here hx hby d15_26 rfl ?_
    refine oa X11.here hx hby d15_27 rfl ?_
    refine ob2 X11.here hx hby (pc' := 33) d15_28 (tlt (show (2 : Int32) < (3 : Int32) from (by decide))).1 (by decide) (by decide) ?_
    refine oa2 X11.here hx hby d15_33 rfl rfl ?_
    refine oa X11.here hx hby d15_34 rfl ?_
    refine oa X11.here hx hby d15_35 rfl ?_
    refine oa5 (T := T11) 36 #[.val (.ref sa), .val (.int 3), .val (.int 2), .val (.int 2)] [(.int 2), (.int 3), (.ref sa)] ?_
    by_cases hk2 : ob0 c2 = (0 : Int32)
    · refine oa3 X11 hx hZ hown (oa0 hw 72 rfl) (oa0 hw 73 rfl) (oa0 hw 2 rfl) (oa0 hw 74 rfl) (by decide) (at_2_3_D l Z a0 hw [] sa ks c0 c1 c2 h0 n0 Z0 V_sa hk2) 0 hml rfl (argsL := [(.ref sa), (.int 3), (.int 2)]) (st := []) (lenOf pd_2 rfl) rfl rfl eh11 hby d15_36 ?_
      intro T12 v12 L12 X12 hQ12
      obtain ⟨rfl, Nq12, eh12⟩ := hQ12
      have N12 := Fr.app N11 Nq12
      refine oa5 (T := T12) 39 #[.val (.ref sa), .val (.int 3), .val (.int 2), .val (.int 2)] [(.int (-1))] ?_
      refine oa6 X12.here hx hby d15_39 (l' := #[.val (.ref sa), .val (.int 3), .val (.int 2), .val (.int (-1))]) rfl ?_
      refine oa X12.here hx hby d15_40 rfl ?_
      refine ob7 X12.here hx hby d15_41 ((if0 _ _).trans (tlt (show (-1 : Int32) < (0 : Int32) from (by decide))).2.1) ?_
      refine oa X12.here hx hby d15_44 rfl ?_
      refine oa9 X12 Bd.notSynchronized (v := some (.int 2)) (ob4 Bd.returns) (fun _ hr => retOut X12 hx Bd.returns rfl (Or.inl ⟨rfl, Or.inl rfl, _, rfl⟩) (hb hby d15_45) hr) eh12 (by decide) (by decide) ?_
      exact ⟨(od (by rw [od6, if_pos hp0, oe0, if_pos hk2])), N12, rfl⟩
    · refine oa3 X11 hx hZ hown (oa0 hw 72 rfl) (oa0 hw 73 rfl) (oa0 hw 2 rfl) (oa0 hw 74 rfl) (by decide) (at_2_3_A l Z a0 hw [] sa ks c0 c1 c2 h0 n0 Z0 V_sa hk2) 0 hml rfl (argsL := [(.ref sa), (.int 3), (.int 2)]) (st := []) (lenOf pd_2 rfl) rfl rfl eh11 hby d15_36 ?_
      intro T13 v13 L13 X13 hQ13
      obtain ⟨rfl, Nq13, eh13⟩ := hQ13
      have N13 := Fr.app N11 Nq13
      refine oa5 (T := T13) 39 #[.val (.ref sa), .val (.int 3), .val (.int 2), .val (.int 2)] [(.int 1)] ?_
      refine oa6 X13.here hx hby d15_39 (l' := #[.val (.ref sa), .val (.int 3), .val (.int 2), .val (.int 1)]) rfl ?_
      refine oa X13.here hx hby d15_40 rfl ?_
      refine ob1 X13.here hx hby (pc' := 46) d15_41 ((if0 _ _).trans (flt (show ¬ ((1 : Int32) < (0 : Int32)) from (by decide))).2.1) (by decide) (by decide) ?_
      refine oa X13.here hx hby d15_46 rfl ?_
      refine oa X13.here hx hby d15_47 rfl ?_
      refine oc8 X13.here hx hby d15_48 (v := (3 : Int32)) (by decide) ?_
      refine oa6 X13.here hx hby d15_49 (l' := #[.val (.ref sa), .val (.int 3), .val (.int 3), .val (.int 1)]) rfl ?_
      refine oa X13.here hx hby d15_50 rfl ?_
      refine oa X13.here hx hby d15_51 rfl ?_
      refine oa7 X13.here hx hby d15_52 (flt (show ¬ ((3 : Int32) < (3 : Int32)) from (by decide))).1 ?_
      refine oa4 X13.here hx hby d15_55 (v := (-1 : Int32)) (by decide) ?_
      refine oa9 X13 Bd.notSynchronized (v := some (.int (-1))) (ob4 Bd.returns) (fun _ hr => retOut X13 hx Bd.returns rfl (Or.inl ⟨rfl, Or.inl rfl, _, rfl⟩) (hb hby d15_56) hr) eh13 (by decide) (by decide) ?_
      exact ⟨(od (by rw [od6, if_pos hp0, oe0, if_neg hk2])), N13, rfl⟩
theorem ef_strIsL (m : MethodId) (x0 : Nat) : entryFrame m #[(.ref x0)] 1 = mkF m 0 #[.val (.ref x0)] [] := by first | (simp [entryFrame, mkF, argsToLocals, Value.category]; done) | rfl
theorem pn_12 : plainName "java/lang/String" = true := by first | (simp [plainName, overriddenIn]; done) | decide +kernel
theorem d12_0 : decode jdk_42_method_154_code 0 = .ok (.getstatic 38, 3) := by decide +kernel
theorem d12_3 : decode jdk_42_method_154_code 3 = .ok (.ifCond .eq 14, 3) := by decide +kernel
theorem d12_6 : decode jdk_42_method_154_code 6 = .ok (.aload_n 0, 1) := by decide +kernel
theorem d12_7 : decode jdk_42_method_154_code 7 = .ok (.getfield 15, 3) := by decide +kernel
theorem d12_10 : decode jdk_42_method_154_code 10 = .ok (.ifCond .ne 7, 3) := by decide +kernel
theorem d12_13 : decode jdk_42_method_154_code 13 = .ok (.iconst 1, 1) := by decide +kernel
theorem d12_14 : decode jdk_42_method_154_code 14 = .ok (.goto 4, 3) := by decide +kernel
theorem d12_18 : decode jdk_42_method_154_code 18 = .ok (.ireturn, 1) := by decide +kernel
def Q_strIsL (Z : State) (x : Nat) (zc : Int32) (h0 : Heap) (n0 : Nat) (vR : Option Value) (hR : Heap) (LR : List Loc) : Prop := vR = some (.int 1) ∧ Fr n0 LR ∧ hR = h0
theorem strIsL (l : Launch) (Z : State) (a0 : Array Value) (hw : ∀ d ∈ tables_1, d.before a0 Z = true) (ws : List Jvm.Cond) (x : Nat) (zc : Int32) (h0 : Heap) (n0 : Nat) (Z0 : n0 ≤ h0.size) (Fc_x : Fld Z h0 x "java/lang/String" "coder" "B" (.int 0)) (S_C : Sta Z h0 "java/lang/String" "COMPACT_STRINGS" "Z" (.int zc)) (hz : ¬ (zc = (0 : Int32))) :
    oc2 l (⟨"java/lang/String", "isLatin1", "()Z"⟩ : MethodName) jdk_42_method_154_code 1 (some .boolean) ws ({ frames := 0, cells := 0, slots := 0, locals := 0 } : Room) Z #[(.ref x)] h0 (Q_strIsL Z x zc h0 n0) := by
  refine ob3 (own := "java/lang/String") rfl (plainFor_of_name pn_12) (fun m => ef_strIsL m x) ?_
  intro p e s m below meth c s₁ Bd hml hZ hh hx hby hown X0 e0
  have N0 := Fr.nil n0
  have lt1 : h0.size > x := Fc_x.lt
  refine oc3 X0 hx hZ hown (host := "") (Or.inl (oa0 hw 19 rfl)) Via.refl e0 S_C hby d12_0 ?_
  intro T2 X2 e2
  refine ob7 X2.here hx hby d12_3 ((if0 _ _).trans (feq hz).1) ?_
  refine oa2 X2.here hx hby d12_6 rfl rfl ?_
  refine od3 X2 hx hZ hown (host := "") (Or.inl (oa0 hw 31 rfl)) Via.refl e2 Fc_x hby d12_7 ?_
  intro T3 X3 e3
  refine ob7 X3.here hx hby d12_10 ((if0 _ _).trans (teq (show (0 : Int32) = (0 : Int32) from (by decide))).2) ?_
  refine oa4 X3.here hx hby d12_13 (v := (1 : Int32)) (by decide) ?_
  refine oc X3.here hx hby (pc' := 18) d12_14 (by decide) (by decide) ?_
  refine oa9 X3 Bd.notSynchronized (v := some (.int 1)) (ob4 Bd.returns) (fun _ hr => retN X3 hx (t := .boolean) Bd.returns (by simp) (hb hby d12_18) hr) e3 (by decide) (by decide) ?_
  exact ⟨rfl, N0, rfl⟩
theorem ef_preChk_0_1 (m : MethodId) (x0 : Int32) (x1 : Int32) (x2 : Value) (hx2 : x2.isRef = true) : entryFrame m #[(.int x0), (.int x1), x2] 3 = mkF m 0 #[.val (.int x0), .val (.int x1), .val x2] [] := by cases x2 <;> first | (cases hx2; done) | (simp [entryFrame, mkF, argsToLocals, Value.category]; done) | rfl
theorem pn_14 : plainName "jdk/internal/util/Preconditions" = true := by first | (simp [plainName, overriddenIn]; done) | decide +kernel
theorem d14_0 : decode jdk_41_method_11_code 0 = .ok (.iload_n 0, 1) := by decide +kernel
theorem d14_1 : decode jdk_41_method_11_code 1 = .ok (.ifCond .lt 8, 3) := by decide +kernel
theorem d14_4 : decode jdk_41_method_11_code 4 = .ok (.iload_n 0, 1) := by decide +kernel
theorem d14_5 : decode jdk_41_method_11_code 5 = .ok (.iload_n 1, 1) := by decide +kernel
theorem d14_6 : decode jdk_41_method_11_code 6 = .ok (.if_icmp .lt 10, 3) := by decide +kernel
theorem d14_16 : decode jdk_41_method_11_code 16 = .ok (.iload_n 0, 1) := by decide +kernel
theorem d14_17 : decode jdk_41_method_11_code 17 = .ok (.ireturn, 1) := by decide +kernel
def Q_preChk_0_1 (Z : State) (fm : Value) (h0 : Heap) (n0 : Nat) (vR : Option Value) (hR : Heap) (LR : List Loc) : Prop := vR = some (.int 0) ∧ Fr n0 LR ∧ hR = h0
theorem preChk_0_1 (l : Launch) (Z : State) (a0 : Array Value) (hw : ∀ d ∈ tables_1, d.before a0 Z = true) (ws : List Jvm.Cond) (fm : Value) (h0 : Heap) (n0 : Nat) (Z0 : n0 ≤ h0.size) (hfm : fm.isRef = true) :
    oc2 l (⟨"jdk/internal/util/Preconditions", "checkIndex", "(IILjava/util/function/BiFunction;)I"⟩ : MethodName) jdk_41_method_11_code 3 (some .int) ws ({ frames := 0, cells := 0, slots := 0, locals := 0 } : Room) Z #[(.int 0), (.int 1), fm] h0 (Q_preChk_0_1 Z fm h0 n0) := by
  refine ob3 (own := "jdk/internal/util/Preconditions") rfl (plainFor_of_name pn_14) (fun m => ef_preChk_0_1 m (0 : Int32) (1 : Int32) fm hfm) ?_
  intro p e s m below meth c s₁ Bd hml hZ hh hx hby hown X0 e0
  have N0 := Fr.nil n0
  refine oa X0.here hx hby d14_0 rfl ?_
  refine ob7 X0.here hx hby d14_1 ((if0 _ _).trans (flt (show ¬ ((0 : Int32) < (0 : Int32)) from (by decide))).1) ?_
  refine oa X0.here hx hby d14_4 rfl ?_
  refine oa X0.here hx hby d14_5 rfl ?_
  refine ob2 X0.here hx hby (pc' := 16) d14_6 (tlt (show (0 : Int32) < (1 : Int32) from (by decide))).1 (by decide) (by decide) ?_
  refine oa X0.here hx hby d14_16 rfl ?_
  refine oa9 X0 Bd.notSynchronized (v := some (.int 0)) (ob4 Bd.returns) (fun _ hr => retOut X0 hx Bd.returns rfl (Or.inl ⟨rfl, Or.inl rfl, _, rfl⟩) (hb hby d14_17) hr) e0 (by decide) (by decide) ?_
  exact ⟨rfl, N0, rfl⟩
theorem ef_strChk_0_1 (m : MethodId) (x0 : Int32) (x1 : Int32) : entryFrame m #[(.int x0), (.int x1)] 2 = mkF m 0 #[.val (.int x0), .val (.int x1)] [] := by first | (simp [entryFrame, mkF, argsToLocals, Value.category]; done) | rfl
theorem pn_13 : plainName "java/lang/String" = true := by first | (simp [plainName, overriddenIn]; done) | decide +kernel
theorem d13_0 : decode jdk_42_method_155_code 0 = .ok (.iload_n 0, 1) := by decide +kernel
theorem d13_1 : decode jdk_42_method_155_code 1 = .ok (.iload_n 1, 1) := by decide +kernel
theorem d13_2 : decode jdk_42_method_155_code 2 = .ok (.getstatic 1053, 3) := by decide +kernel
theorem d13_5 : decode jdk_42_method_155_code 5 = .ok (.invokestatic 1059, 3) := by decide +kernel
theorem pd_3 : parseMethodDescriptor "(IILjava/util/function/BiFunction;)I" = some ⟨[.int, .int, (.object "java/util/function/BiFunction")], some .int⟩ := by decide +kernel
theorem d13_8 : decode jdk_42_method_155_code 8 = .ok (.pop, 1) := by decide +kernel
theorem d13_9 : decode jdk_42_method_155_code 9 = .ok (.return_, 1) := by decide +kernel
def Q_strChk_0_1 (Z : State) (fm : Value) (h0 : Heap) (n0 : Nat) (vR : Option Value) (hR : Heap) (LR : List Loc) : Prop := vR = none ∧ Fr n0 LR ∧ hR = h0
theorem strChk_0_1 (l : Launch) (Z : State) (a0 : Array Value) (hw : ∀ d ∈ tables_1, d.before a0 Z = true) (ws : List Jvm.Cond) (fm : Value) (h0 : Heap) (n0 : Nat) (Z0 : n0 ≤ h0.size) (S_FM : Sta Z h0 "jdk/internal/util/Preconditions" "SIOOBE_FORMATTER" "Ljava/util/function/BiFunction;" fm) (hfm : fm.isRef = true) :
    oc2 l (⟨"java/lang/String", "checkIndex", "(II)V"⟩ : MethodName) jdk_42_method_155_code 2 none ws ({ frames := 1, cells := 0, slots := 0, locals := 14 } : Room) Z #[(.int 0), (.int 1)] h0 (Q_strChk_0_1 Z fm h0 n0) := by
  refine ob3 (own := "java/lang/String") rfl (plainFor_of_name pn_13) (fun m => ef_strChk_0_1 m (0 : Int32) (1 : Int32)) ?_
  intro p e s m below meth c s₁ Bd hml hZ hh hx hby hown X0 e0
  have N0 := Fr.nil n0
  refine oa X0.here hx hby d13_0 rfl ?_
  refine oa X0.here hx hby d13_1 rfl ?_
  refine oc3 X0 hx hZ hown (host := "") (Or.inl (oa0 hw 62 rfl)) Via.refl e0 S_FM hby d13_2 ?_
  intro T1 X1 e1
  refine oa3 X1 hx hZ hown (oa0 hw 64 rfl) (oa0 hw 65 rfl) (oa0 hw 63 rfl) (oa0 hw 66 rfl) (by decide) (preChk_0_1 l Z a0 hw [] fm h0 n0 Z0 hfm) 0 hml rfl (argsL := [(.int 0), (.int 1), fm]) (st := []) (lenOf pd_3 rfl) rfl rfl e1 hby d13_5 ?_
  intro T2 v2 L2 X2 hQ2
  obtain ⟨rfl, Nq2, eh2⟩ := hQ2
  have N2 := Fr.app N0 Nq2
  refine oa5 (T := T2) 8 #[.val (.int 0), .val (.int 1)] [(.int 0)] ?_
  refine own_pop X2.here hx hby d13_8 rfl ?_
  refine oa9 X2 Bd.notSynchronized (v := none) (fun _ => rfl) (fun _ hr => X2.returnOut hx Bd.returns (hb hby d13_9) hr) eh2 (by decide) (by decide) ?_
  exact ⟨rfl, N2, rfl⟩
theorem ef_cpL_0_1 (m : MethodId) (x0 : Nat) (x1 : Int32) : entryFrame m #[(.ref x0), (.int x1)] 3 = mkF m 0 #[.val (.ref x0), .val (.int x1), .unset] [] := by first | (simp [entryFrame, mkF, argsToLocals, Value.category]; done) | rfl
theorem pn_11 : plainName "java/lang/String" = true := by first | (simp [plainName, overriddenIn]; done) | decide +kernel
theorem d11_0 : decode jdk_42_method_57_code 0 = .ok (.aload_n 0, 1) := by decide +kernel
theorem d11_1 : decode jdk_42_method_57_code 1 = .ok (.invokevirtual 492, 3) := by decide +kernel
theorem pd_4 : parseMethodDescriptor "()Z" = some ⟨[], some .boolean⟩ := by decide +kernel
theorem d11_4 : decode jdk_42_method_57_code 4 = .ok (.ifCond .eq 23, 3) := by decide +kernel
theorem d11_7 : decode jdk_42_method_57_code 7 = .ok (.iload_n 1, 1) := by decide +kernel
theorem d11_8 : decode jdk_42_method_57_code 8 = .ok (.aload_n 0, 1) := by decide +kernel
theorem d11_9 : decode jdk_42_method_57_code 9 = .ok (.getfield 9, 3) := by decide +kernel
theorem d11_12 : decode jdk_42_method_57_code 12 = .ok (.arraylength, 1) := by decide +kernel
theorem d11_13 : decode jdk_42_method_57_code 13 = .ok (.invokestatic 499, 3) := by decide +kernel
theorem pd_5 : parseMethodDescriptor "(II)V" = some ⟨[.int, .int], none⟩ := by decide +kernel
theorem d11_16 : decode jdk_42_method_57_code 16 = .ok (.aload_n 0, 1) := by decide +kernel
theorem d11_17 : decode jdk_42_method_57_code 17 = .ok (.getfield 9, 3) := by decide +kernel
theorem d11_20 : decode jdk_42_method_57_code 20 = .ok (.iload_n 1, 1) := by decide +kernel
theorem d11_21 : decode jdk_42_method_57_code 21 = .ok (.baload, 1) := by decide +kernel
theorem d11_22 : decode jdk_42_method_57_code 22 = .ok (.sipush 255, 3) := by decide +kernel
theorem d11_25 : decode jdk_42_method_57_code 25 = .ok (.iand, 1) := by decide +kernel
theorem d11_26 : decode jdk_42_method_57_code 26 = .ok (.ireturn, 1) := by decide +kernel
def Q_cpL_0_1 (Z : State) (x : Nat) (t : Nat) (kb : ClassId) (zc : Int32) (fm : Value) (c0 : Int32) (h0 : Heap) (n0 : Nat) (vR : Option Value) (hR : Heap) (LR : List Loc) : Prop := vR = some (.int c0) ∧ Fr n0 LR ∧ hR = h0
theorem cpL_0_1 (l : Launch) (Z : State) (a0 : Array Value) (hw : ∀ d ∈ tables_1, d.before a0 Z = true) (ws : List Jvm.Cond) (x : Nat) (t : Nat) (kb : ClassId) (zc : Int32) (fm : Value) (c0 : Int32) (h0 : Heap) (n0 : Nat) (Z0 : n0 ≤ h0.size) (E_x : Exa Z h0 x "java/lang/String") (Fc_x : Fld Z h0 x "java/lang/String" "coder" "B" (.int 0)) (Fv_x : Fld Z h0 x "java/lang/String" "value" "[B" (.ref t)) (V_t : Arv Z h0 t kb .byte (1 : Int32) [(.int (c0.toInt8.toInt32))] (.int 0)) (S_C : Sta Z h0 "java/lang/String" "COMPACT_STRINGS" "Z" (.int zc)) (hz : ¬ (zc = (0 : Int32))) (S_FM : Sta Z h0 "jdk/internal/util/Preconditions" "SIOOBE_FORMATTER" "Ljava/util/function/BiFunction;" fm) (hfm : fm.isRef = true) (h0_c0 : ¬ (c0 < (0 : Int32))) (h1_c0 : ¬ ((255 : Int32) < c0)) :
    oc2 l (⟨"java/lang/String", "codePointAt", "(I)I"⟩ : MethodName) jdk_42_method_57_code 3 (some .int) ws ({ frames := 2, cells := 0, slots := 0, locals := 27 } : Room) Z #[(.ref x), (.int 0)] h0 (Q_cpL_0_1 Z x t kb zc fm c0 h0 n0) := by
  refine ob3 (own := "java/lang/String") rfl (plainFor_of_name pn_11) (fun m => ef_cpL_0_1 m x (0 : Int32)) ?_
  intro p e s m below meth c s₁ Bd hml hZ hh hx hby hown X0 e0
  have N0 := Fr.nil n0
  have lt1 : h0.size > x := E_x.lt
  have lt2 : h0.size > t := V_t.lt
  refine oa2 X0.here hx hby d11_0 rfl rfl ?_
  refine ob6 X0 hx hZ hown (oa0 hw 54 rfl) (oa0 hw 55 rfl) (notFace_of_selects (args := #[]) (mvT hZ (oa0 hw 57 rfl))) (oa0 hw 57 rfl) (oa0 hw 56 rfl) (oa0 hw 8 rfl) (oa0 hw 58 rfl) (by decide) (strIsL l Z a0 hw [] x zc h0 n0 Z0 Fc_x S_C hz) 0 hml rfl (argsL := []) (st := []) E_x (lenOf pd_4 rfl) rfl rfl e0 hby d11_1 ?_
  intro T3 v3 L3 X3 hQ3
  obtain ⟨rfl, Nq3, eh3⟩ := hQ3
  have N3 := Fr.app N0 Nq3
  refine oa5 (T := T3) 4 #[.val (.ref x), .val (.int 0), .unset] [(.int 1)] ?_
  refine ob7 X3.here hx hby d11_4 ((if0 _ _).trans (feq (show ¬ ((1 : Int32) = (0 : Int32)) from (by decide))).1) ?_
  refine oa X3.here hx hby d11_7 rfl ?_
  refine oa2 X3.here hx hby d11_8 rfl rfl ?_
  refine od3 X3 hx hZ hown (host := "") (Or.inl (oa0 hw 33 rfl)) Via.refl eh3 Fv_x hby d11_9 ?_
  intro T4 X4 e4
  refine oe X4 hx hZ e4 V_t hby d11_12 ?_
  refine oa3 X4 hx hZ hown (oa0 hw 59 rfl) (oa0 hw 60 rfl) (oa0 hw 8 rfl) (oa0 hw 61 rfl) (by decide) (strChk_0_1 l Z a0 hw [] fm h0 n0 Z0 S_FM hfm) 0 hml rfl (argsL := [(.int 0), (.int 1)]) (st := []) (lenOf pd_5 rfl) rfl rfl e4 hby d11_13 ?_
  intro T5 v5 L5 X5 hQ5
  obtain ⟨rfl, Nq5, eh5⟩ := hQ5
  have N5 := Fr.app N3 Nq5
  refine oa5 (T := T5) 16 #[.val (.ref x), .val (.int 0), .unset] [] ?_
  refine oa2 X5.here hx hby d11_16 rfl rfl ?_
  refine od3 X5 hx hZ hown (host := "") (Or.inl (oa0 hw 33 rfl)) Via.refl eh5 Fv_x hby d11_17 ?_
  intro T6 X6 e6
  refine oa X6.here hx hby d11_20 rfl ?_
  refine oe7 X6 hx hZ e6 V_t ⟨by decide, by decide⟩ (v := (.int (c0.toInt8.toInt32))) rfl hby d11_21 ?_
  refine od0 X6.here hx hby d11_22 (v := (255 : Int32)) (by decide) ?_
  refine oe9 X6.here hx hby d11_25 rfl ?_
  refine oa9 X6 Bd.notSynchronized (v := some (.int ((c0.toInt8.toInt32) &&& (255 : Int32)))) (ob4 Bd.returns) (fun _ hr => retOut X6 hx Bd.returns rfl (Or.inl ⟨rfl, Or.inl rfl, _, rfl⟩) (hb hby d11_26) hr) e6 (by decide) (by decide) ?_
  exact ⟨(od (og6 c0 h0_c0 h1_c0)), N5, rfl⟩
def Q_preChk_0_2 (Z : State) (fm : Value) (h0 : Heap) (n0 : Nat) (vR : Option Value) (hR : Heap) (LR : List Loc) : Prop := vR = some (.int 0) ∧ Fr n0 LR ∧ hR = h0
theorem preChk_0_2 (l : Launch) (Z : State) (a0 : Array Value) (hw : ∀ d ∈ tables_1, d.before a0 Z = true) (ws : List Jvm.Cond) (fm : Value) (h0 : Heap) (n0 : Nat) (Z0 : n0 ≤ h0.size) (hfm : fm.isRef = true) :
    oc2 l (⟨"jdk/internal/util/Preconditions", "checkIndex", "(IILjava/util/function/BiFunction;)I"⟩ : MethodName) jdk_41_method_11_code 3 (some .int) ws ({ frames := 0, cells := 0, slots := 0, locals := 0 } : Room) Z #[(.int 0), (.int 2), fm] h0 (Q_preChk_0_2 Z fm h0 n0) := by
  refine ob3 (own := "jdk/internal/util/Preconditions") rfl (plainFor_of_name pn_14) (fun m => ef_preChk_0_1 m (0 : Int32) (2 : Int32) fm hfm) ?_
  intro p e s m below meth c s₁ Bd hml hZ hh hx hby hown X0 e0
  have N0 := Fr.nil n0
  refine oa X0.here hx hby d14_0 rfl ?_
  refine ob7 X0.here hx hby d14_1 ((if0 _ _).trans (flt (show ¬ ((0 : Int32) < (0 : Int32)) from (by decide))).1) ?_
  refine oa X0.here hx hby d14_4 rfl ?_
  refine oa X0.here hx hby d14_5 rfl ?_
  refine ob2 X0.here hx hby (pc' := 16) d14_6 (tlt (show (0 : Int32) < (2 : Int32) from (by decide))).1 (by decide) (by decide) ?_
  refine oa X0.here hx hby d14_16 rfl ?_
  refine oa9 X0 Bd.notSynchronized (v := some (.int 0)) (ob4 Bd.returns) (fun _ hr => retOut X0 hx Bd.returns rfl (Or.inl ⟨rfl, Or.inl rfl, _, rfl⟩) (hb hby d14_17) hr) e0 (by decide) (by decide) ?_
  exact ⟨rfl, N0, rfl⟩
def Q_strChk_0_2 (Z : State) (fm : Value) (h0 : Heap) (n0 : Nat) (vR : Option Value) (hR : Heap) (LR : List Loc) : Prop := vR = none ∧ Fr n0 LR ∧ hR = h0
theorem strChk_0_2 (l : Launch) (Z : State) (a0 : Array Value) (hw : ∀ d ∈ tables_1, d.before a0 Z = true) (ws : List Jvm.Cond) (fm : Value) (h0 : Heap) (n0 : Nat) (Z0 : n0 ≤ h0.size) (S_FM : Sta Z h0 "jdk/internal/util/Preconditions" "SIOOBE_FORMATTER" "Ljava/util/function/BiFunction;" fm) (hfm : fm.isRef = true) :
    oc2 l (⟨"java/lang/String", "checkIndex", "(II)V"⟩ : MethodName) jdk_42_method_155_code 2 none ws ({ frames := 1, cells := 0, slots := 0, locals := 14 } : Room) Z #[(.int 0), (.int 2)] h0 (Q_strChk_0_2 Z fm h0 n0) := by
  refine ob3 (own := "java/lang/String") rfl (plainFor_of_name pn_13) (fun m => ef_strChk_0_1 m (0 : Int32) (2 : Int32)) ?_
  intro p e s m below meth c s₁ Bd hml hZ hh hx hby hown X0 e0
  have N0 := Fr.nil n0
  refine oa X0.here hx hby d13_0 rfl ?_
  refine oa X0.here hx hby d13_1 rfl ?_
  refine oc3 X0 hx hZ hown (host := "") (Or.inl (oa0 hw 62 rfl)) Via.refl e0 S_FM hby d13_2 ?_
  intro T1 X1 e1
  refine oa3 X1 hx hZ hown (oa0 hw 64 rfl) (oa0 hw 65 rfl) (oa0 hw 63 rfl) (oa0 hw 66 rfl) (by decide) (preChk_0_2 l Z a0 hw [] fm h0 n0 Z0 hfm) 0 hml rfl (argsL := [(.int 0), (.int 2), fm]) (st := []) (lenOf pd_3 rfl) rfl rfl e1 hby d13_5 ?_
  intro T2 v2 L2 X2 hQ2
  obtain ⟨rfl, Nq2, eh2⟩ := hQ2
  have N2 := Fr.app N0 Nq2
  refine oa5 (T := T2) 8 #[.val (.int 0), .val (.int 2)] [(.int 0)] ?_
  refine own_pop X2.here hx hby d13_8 rfl ?_
  refine oa9 X2 Bd.notSynchronized (v := none) (fun _ => rfl) (fun _ hr => X2.returnOut hx Bd.returns (hb hby d13_9) hr) eh2 (by decide) (by decide) ?_
  exact ⟨rfl, N2, rfl⟩
def Q_cpL_0_2 (Z : State) (x : Nat) (t : Nat) (kb : ClassId) (zc : Int32) (fm : Value) (c0 : Int32) (c1 : Int32) (h0 : Heap) (n0 : Nat) (vR : Option Value) (hR : Heap) (LR : List Loc) : Prop := vR = some (.int c0) ∧ Fr n0 LR ∧ hR = h0
theorem cpL_0_2 (l : Launch) (Z : State) (a0 : Array Value) (hw : ∀ d ∈ tables_1, d.before a0 Z = true) (ws : List Jvm.Cond) (x : Nat) (t : Nat) (kb : ClassId) (zc : Int32) (fm : Value) (c0 : Int32) (c1 : Int32) (h0 : Heap) (n0 : Nat) (Z0 : n0 ≤ h0.size) (E_x : Exa Z h0 x "java/lang/String") (Fc_x : Fld Z h0 x "java/lang/String" "coder" "B" (.int 0)) (Fv_x : Fld Z h0 x "java/lang/String" "value" "[B" (.ref t)) (V_t : Arv Z h0 t kb .byte (2 : Int32) [(.int (c0.toInt8.toInt32)), (.int (c1.toInt8.toInt32))] (.int 0)) (S_C : Sta Z h0 "java/lang/String" "COMPACT_STRINGS" "Z" (.int zc)) (hz : ¬ (zc = (0 : Int32))) (S_FM : Sta Z h0 "jdk/internal/util/Preconditions" "SIOOBE_FORMATTER" "Ljava/util/function/BiFunction;" fm) (hfm : fm.isRef = true) (h0_c0 : ¬ (c0 < (0 : Int32))) (h1_c0 : ¬ ((255 : Int32) < c0)) :
    oc2 l (⟨"java/lang/String", "codePointAt", "(I)I"⟩ : MethodName) jdk_42_method_57_code 3 (some .int) ws ({ frames := 2, cells := 0, slots := 0, locals := 27 } : Room) Z #[(.ref x), (.int 0)] h0 (Q_cpL_0_2 Z x t kb zc fm c0 c1 h0 n0) := by
  refine ob3 (own := "java/lang/String") rfl (plainFor_of_name pn_11) (fun m => ef_cpL_0_1 m x (0 : Int32)) ?_
  intro p e s m below meth c s₁ Bd hml hZ hh hx hby hown X0 e0
  have N0 := Fr.nil n0
  have lt2 : h0.size > x := E_x.lt
  have lt3 : h0.size > t := V_t.lt
  refine oa2 X0.here hx hby d11_0 rfl rfl ?_
  refine ob6 X0 hx hZ hown (oa0 hw 54 rfl) (oa0 hw 55 rfl) (notFace_of_selects (args := #[]) (mvT hZ (oa0 hw 57 rfl))) (oa0 hw 57 rfl) (oa0 hw 56 rfl) (oa0 hw 8 rfl) (oa0 hw 58 rfl) (by decide) (strIsL l Z a0 hw [] x zc h0 n0 Z0 Fc_x S_C hz) 0 hml rfl (argsL := []) (st := []) E_x (lenOf pd_4 rfl) rfl rfl e0 hby d11_1 ?_
  intro T4 v4 L4 X4 hQ4
  obtain ⟨rfl, Nq4, eh4⟩ := hQ4
  have N4 := Fr.app N0 Nq4
  refine oa5 (T := T4) 4 #[.val (.ref x), .val (.int 0), .unset] [(.int 1)] ?_
  refine ob7 X4.here hx hby d11_4 ((if0 _ _).trans (feq (show ¬ ((1 : Int32) = (0 : Int32)) from (by decide))).1) ?_
  refine oa X4.here hx hby d11_7 rfl ?_
  refine oa2 X4.here hx hby d11_8 rfl rfl ?_
  refine od3 X4 hx hZ hown (host := "") (Or.inl (oa0 hw 33 rfl)) Via.refl eh4 Fv_x hby d11_9 ?_
  intro T5 X5 e5
  refine oe X5 hx hZ e5 V_t hby d11_12 ?_
  refine oa3 X5 hx hZ hown (oa0 hw 59 rfl) (oa0 hw 60 rfl) (oa0 hw 8 rfl) (oa0 hw 61 rfl) (by decide) (strChk_0_2 l Z a0 hw [] fm h0 n0 Z0 S_FM hfm) 0 hml rfl (argsL := [(.int 0), (.int 2)]) (st := []) (lenOf pd_5 rfl) rfl rfl e5 hby d11_13 ?_
  intro T6 v6 L6 X6 hQ6
  obtain ⟨rfl, Nq6, eh6⟩ := hQ6
  have N6 := Fr.app N4 Nq6
  refine oa5 (T := T6) 16 #[.val (.ref x), .val (.int 0), .unset] [] ?_
  refine oa2 X6.here hx hby d11_16 rfl rfl ?_
  refine od3 X6 hx hZ hown (host := "") (Or.inl (oa0 hw 33 rfl)) Via.refl eh6 Fv_x hby d11_17 ?_
  intro T7 X7 e7
  refine oa X7.here hx hby d11_20 rfl ?_
  refine oe7 X7 hx hZ e7 V_t ⟨by decide, by decide⟩ (v := (.int (c0.toInt8.toInt32))) rfl hby d11_21 ?_
  refine od0 X7.here hx hby d11_22 (v := (255 : Int32)) (by decide) ?_
  refine oe9 X7.here hx hby d11_25 rfl ?_
  refine oa9 X7 Bd.notSynchronized (v := some (.int ((c0.toInt8.toInt32) &&& (255 : Int32)))) (ob4 Bd.returns) (fun _ hr => retOut X7 hx Bd.returns rfl (Or.inl ⟨rfl, Or.inl rfl, _, rfl⟩) (hb hby d11_26) hr) e7 (by decide) (by decide) ?_
  exact ⟨(od (og6 c0 h0_c0 h1_c0)), N6, rfl⟩
def Q_preChk_1_2 (Z : State) (fm : Value) (h0 : Heap) (n0 : Nat) (vR : Option Value) (hR : Heap) (LR : List Loc) : Prop := vR = some (.int 1) ∧ Fr n0 LR ∧ hR = h0
theorem preChk_1_2 (l : Launch) (Z : State) (a0 : Array Value) (hw : ∀ d ∈ tables_1, d.before a0 Z = true) (ws : List Jvm.Cond) (fm : Value) (h0 : Heap) (n0 : Nat) (Z0 : n0 ≤ h0.size) (hfm : fm.isRef = true) :
    oc2 l (⟨"jdk/internal/util/Preconditions", "checkIndex", "(IILjava/util/function/BiFunction;)I"⟩ : MethodName) jdk_41_method_11_code 3 (some .int) ws ({ frames := 0, cells := 0, slots := 0, locals := 0 } : Room) Z #[(.int 1), (.int 2), fm] h0 (Q_preChk_1_2 Z fm h0 n0) := by
  refine ob3 (own := "jdk/internal/util/Preconditions") rfl (plainFor_of_name pn_14) (fun m => ef_preChk_0_1 m (1 : Int32) (2 : Int32) fm hfm) ?_
  intro p e s m below meth c s₁ Bd hml hZ hh hx hby hown X0 e0
  have N0 := Fr.nil n0
  refine oa X0.here hx hby d14_0 rfl ?_
  refine ob7 X0.here hx hby d14_1 ((if0 _ _).trans (flt (show ¬ ((1 : Int32) < (0 : Int32)) from (by decide))).1) ?_
  refine oa X0.here hx hby d14_4 rfl ?_
  refine oa X0.here hx hby d14_5 rfl ?_
  refine ob2 X0.here hx hby (pc' := 16) d14_6 (tlt (show (1 : Int32) < (2 : Int32) from (by decide))).1 (by decide) (by decide) ?_
  refine oa X0.here hx hby d14_16 rfl ?_
  refine oa9 X0 Bd.notSynchronized (v := some (.int 1)) (ob4 Bd.returns) (fun _ hr => retOut X0 hx Bd.returns rfl (Or.inl ⟨rfl, Or.inl rfl, _, rfl⟩) (hb hby d14_17) hr) e0 (by decide) (by decide) ?_
  exact ⟨rfl, N0, rfl⟩
def Q_strChk_1_2 (Z : State) (fm : Value) (h0 : Heap) (n0 : Nat) (vR : Option Value) (hR : Heap) (LR : List Loc) : Prop := vR = none ∧ Fr n0 LR ∧ hR = h0
theorem strChk_1_2 (l : Launch) (Z : State) (a0 : Array Value) (hw : ∀ d ∈ tables_1, d.before a0 Z = true) (ws : List Jvm.Cond) (fm : Value) (h0 : Heap) (n0 : Nat) (Z0 : n0 ≤ h0.size) (S_FM : Sta Z h0 "jdk/internal/util/Preconditions" "SIOOBE_FORMATTER" "Ljava/util/function/BiFunction;" fm) (hfm : fm.isRef = true) :
    oc2 l (⟨"java/lang/String", "checkIndex", "(II)V"⟩ : MethodName) jdk_42_method_155_code 2 none ws ({ frames := 1, cells := 0, slots := 0, locals := 14 } : Room) Z #[(.int 1), (.int 2)] h0 (Q_strChk_1_2 Z fm h0 n0) := by
  refine ob3 (own := "java/lang/String") rfl (plainFor_of_name pn_13) (fun m => ef_strChk_0_1 m (1 : Int32) (2 : Int32)) ?_
  intro p e s m below meth c s₁ Bd hml hZ hh hx hby hown X0 e0
  have N0 := Fr.nil n0
  refine oa X0.here hx hby d13_0 rfl ?_
  refine oa X0.here hx hby d13_1 rfl ?_
  refine oc3 X0 hx hZ hown (host := "") (Or.inl (oa0 hw 62 rfl)) Via.refl e0 S_FM hby d13_2 ?_
  intro T1 X1 e1
  refine oa3 X1 hx hZ hown (oa0 hw 64 rfl) (oa0 hw 65 rfl) (oa0 hw 63 rfl) (oa0 hw 66 rfl) (by decide) (preChk_1_2 l Z a0 hw [] fm h0 n0 Z0 hfm) 0 hml rfl (argsL := [(.int 1), (.int 2), fm]) (st := []) (lenOf pd_3 rfl) rfl rfl e1 hby d13_5 ?_
  intro T2 v2 L2 X2 hQ2
  obtain ⟨rfl, Nq2, eh2⟩ := hQ2
  have N2 := Fr.app N0 Nq2
  refine oa5 (T := T2) 8 #[.val (.int 1), .val (.int 2)] [(.int 1)] ?_
  refine own_pop X2.here hx hby d13_8 rfl ?_
  refine oa9 X2 Bd.notSynchronized (v := none) (fun _ => rfl) (fun _ hr => X2.returnOut hx Bd.returns (hb hby d13_9) hr) eh2 (by decide) (by decide) ?_
  exact ⟨rfl, N2, rfl⟩
def Q_cpL_1_2 (Z : State) (x : Nat) (t : Nat) (kb : ClassId) (zc : Int32) (fm : Value) (c0 : Int32) (c1 : Int32) (h0 : Heap) (n0 : Nat) (vR : Option Value) (hR : Heap) (LR : List Loc) : Prop := vR = some (.int c1) ∧ Fr n0 LR ∧ hR = h0
theorem cpL_1_2 (l : Launch) (Z : State) (a0 : Array Value) (hw : ∀ d ∈ tables_1, d.before a0 Z = true) (ws : List Jvm.Cond) (x : Nat) (t : Nat) (kb : ClassId) (zc : Int32) (fm : Value) (c0 : Int32) (c1 : Int32) (h0 : Heap) (n0 : Nat) (Z0 : n0 ≤ h0.size) (E_x : Exa Z h0 x "java/lang/String") (Fc_x : Fld Z h0 x "java/lang/String" "coder" "B" (.int 0)) (Fv_x : Fld Z h0 x "java/lang/String" "value" "[B" (.ref t)) (V_t : Arv Z h0 t kb .byte (2 : Int32) [(.int (c0.toInt8.toInt32)), (.int (c1.toInt8.toInt32))] (.int 0)) (S_C : Sta Z h0 "java/lang/String" "COMPACT_STRINGS" "Z" (.int zc)) (hz : ¬ (zc = (0 : Int32))) (S_FM : Sta Z h0 "jdk/internal/util/Preconditions" "SIOOBE_FORMATTER" "Ljava/util/function/BiFunction;" fm) (hfm : fm.isRef = true) (h0_c1 : ¬ (c1 < (0 : Int32))) (h1_c1 : ¬ ((255 : Int32) < c1)) :
    oc2 l (⟨"java/lang/String", "codePointAt", "(I)I"⟩ : MethodName) jdk_42_method_57_code 3 (some .int) ws ({ frames := 2, cells := 0, slots := 0, locals := 27 } : Room) Z #[(.ref x), (.int 1)] h0 (Q_cpL_1_2 Z x t kb zc fm c0 c1 h0 n0) := by
  refine ob3 (own := "java/lang/String") rfl (plainFor_of_name pn_11) (fun m => ef_cpL_0_1 m x (1 : Int32)) ?_
  intro p e s m below meth c s₁ Bd hml hZ hh hx hby hown X0 e0
  have N0 := Fr.nil n0
  have lt2 : h0.size > x := E_x.lt
  have lt3 : h0.size > t := V_t.lt
  refine oa2 X0.here hx hby d11_0 rfl rfl ?_
  refine ob6 X0 hx hZ hown (oa0 hw 54 rfl) (oa0 hw 55 rfl) (notFace_of_selects (args := #[]) (mvT hZ (oa0 hw 57 rfl))) (oa0 hw 57 rfl) (oa0 hw 56 rfl) (oa0 hw 8 rfl) (oa0 hw 58 rfl) (by decide) (strIsL l Z a0 hw [] x zc h0 n0 Z0 Fc_x S_C hz) 0 hml rfl (argsL := []) (st := []) E_x (lenOf pd_4 rfl) rfl rfl e0 hby d11_1 ?_
  intro T4 v4 L4 X4 hQ4
  obtain ⟨rfl, Nq4, eh4⟩ := hQ4
  have N4 := Fr.app N0 Nq4
  refine oa5 (T := T4) 4 #[.val (.ref x), .val (.int 1), .unset] [(.int 1)] ?_
  refine ob7 X4.here hx hby d11_4 ((if0 _ _).trans (feq (show ¬ ((1 : Int32) = (0 : Int32)) from (by decide))).1) ?_
  refine oa X4.here hx hby d11_7 rfl ?_
  refine oa2 X4.here hx hby d11_8 rfl rfl ?_
  refine od3 X4 hx hZ hown (host := "") (Or.inl (oa0 hw 33 rfl)) Via.refl eh4 Fv_x hby d11_9 ?_
  intro T5 X5 e5
  refine oe X5 hx hZ e5 V_t hby d11_12 ?_
  refine oa3 X5 hx hZ hown (oa0 hw 59 rfl) (oa0 hw 60 rfl) (oa0 hw 8 rfl) (oa0 hw 61 rfl) (by decide) (strChk_1_2 l Z a0 hw [] fm h0 n0 Z0 S_FM hfm) 0 hml rfl (argsL := [(.int 1), (.int 2)]) (st := []) (lenOf pd_5 rfl) rfl rfl e5 hby d11_13 ?_
  intro T6 v6 L6 X6 hQ6
  obtain ⟨rfl, Nq6, eh6⟩ := hQ6
  have N6 := Fr.app N4 Nq6
  refine oa5 (T := T6) 16 #[.val (.ref x), .val (.int 1), .unset] [] ?_
  refine oa2 X6.here hx hby d11_16 rfl rfl ?_
  refine od3 X6 hx hZ hown (host := "") (Or.inl (oa0 hw 33 rfl)) Via.refl eh6 Fv_x hby d11_17 ?_
  intro T7 X7 e7
  refine oa X7.here hx hby d11_20 rfl ?_
  refine oe7 X7 hx hZ e7 V_t ⟨by decide, by decide⟩ (v := (.int (c1.toInt8.toInt32))) rfl hby d11_21 ?_
  refine od0 X7.here hx hby d11_22 (v := (255 : Int32)) (by decide) ?_
  refine oe9 X7.here hx hby d11_25 rfl ?_
  refine oa9 X7 Bd.notSynchronized (v := some (.int ((c1.toInt8.toInt32) &&& (255 : Int32)))) (ob4 Bd.returns) (fun _ hr => retOut X7 hx Bd.returns rfl (Or.inl ⟨rfl, Or.inl rfl, _, rfl⟩) (hb hby d11_26) hr) e7 (by decide) (by decide) ?_
  exact ⟨(od (og6 c1 h0_c1 h1_c1)), N6, rfl⟩
def Q_preChk_0_3 (Z : State) (fm : Value) (h0 : Heap) (n0 : Nat) (vR : Option Value) (hR : Heap) (LR : List Loc) : Prop := vR = some (.int 0) ∧ Fr n0 LR ∧ hR = h0
theorem preChk_0_3 (l : Launch) (Z : State) (a0 : Array Value) (hw : ∀ d ∈ tables_1, d.before a0 Z = true) (ws : List Jvm.Cond) (fm : Value) (h0 : Heap) (n0 : Nat) (Z0 : n0 ≤ h0.size) (hfm : fm.isRef = true) :
    oc2 l (⟨"jdk/internal/util/Preconditions", "checkIndex", "(IILjava/util/function/BiFunction;)I"⟩ : MethodName) jdk_41_method_11_code 3 (some .int) ws ({ frames := 0, cells := 0, slots := 0, locals := 0 } : Room) Z #[(.int 0), (.int 3), fm] h0 (Q_preChk_0_3 Z fm h0 n0) := by
  refine ob3 (own := "jdk/internal/util/Preconditions") rfl (plainFor_of_name pn_14) (fun m => ef_preChk_0_1 m (0 : Int32) (3 : Int32) fm hfm) ?_
  intro p e s m below meth c s₁ Bd hml hZ hh hx hby hown X0 e0
  have N0 := Fr.nil n0
  refine oa X0.here hx hby d14_0 rfl ?_
  refine ob7 X0.here hx hby d14_1 ((if0 _ _).trans (flt (show ¬ ((0 : Int32) < (0 : Int32)) from (by decide))).1) ?_
  refine oa X0.here hx hby d14_4 rfl ?_
  refine oa X0.here hx hby d14_5 rfl ?_
  refine ob2 X0.here hx hby (pc' := 16) d14_6 (tlt (show (0 : Int32) < (3 : Int32) from (by decide))).1 (by decide) (by decide) ?_
  refine oa X0.here hx hby d14_16 rfl ?_
  refine oa9 X0 Bd.notSynchronized (v := some (.int 0)) (ob4 Bd.returns) (fun _ hr => retOut X0 hx Bd.returns rfl (Or.inl ⟨rfl, Or.inl rfl, _, rfl⟩) (hb hby d14_17) hr) e0 (by decide) (by decide) ?_
  exact ⟨rfl, N0, rfl⟩
def Q_strChk_0_3 (Z : State) (fm : Value) (h0 : Heap) (n0 : Nat) (vR : Option Value) (hR : Heap) (LR : List Loc) : Prop := vR = none ∧ Fr n0 LR ∧ hR = h0
theorem strChk_0_3 (l : Launch) (Z : State) (a0 : Array Value) (hw : ∀ d ∈ tables_1, d.before a0 Z = true) (ws : List Jvm.Cond) (fm : Value) (h0 : Heap) (n0 : Nat) (Z0 : n0 ≤ h0.size) (S_FM : Sta Z h0 "jdk/internal/util/Preconditions" "SIOOBE_FORMATTER" "Ljava/util/function/BiFunction;" fm) (hfm : fm.isRef = true) :
    oc2 l (⟨"java/lang/String", "checkIndex", "(II)V"⟩ : MethodName) jdk_42_method_155_code 2 none ws ({ frames := 1, cells := 0, slots := 0, locals := 14 } : Room) Z #[(.int 0), (.int 3)] h0 (Q_strChk_0_3 Z fm h0 n0) := by
  refine ob3 (own := "java/lang/String") rfl (plainFor_of_name pn_13) (fun m => ef_strChk_0_1 m (0 : Int32) (3 : Int32)) ?_
  intro p e s m below meth c s₁ Bd hml hZ hh hx hby hown X0 e0
  have N0 := Fr.nil n0
  refine oa X0.here hx hby d13_0 rfl ?_
  refine oa X0.here hx hby d13_1 rfl ?_
  refine oc3 X0 hx hZ hown (host := "") (Or.inl (oa0 hw 62 rfl)) Via.refl e0 S_FM hby d13_2 ?_
  intro T1 X1 e1
  refine oa3 X1 hx hZ hown (oa0 hw 64 rfl) (oa0 hw 65 rfl) (oa0 hw 63 rfl) (oa0 hw 66 rfl) (by decide) (preChk_0_3 l Z a0 hw [] fm h0 n0 Z0 hfm) 0 hml rfl (argsL := [(.int 0), (.int 3), fm]) (st := []) (lenOf pd_3 rfl) rfl rfl e1 hby d13_5 ?_
  intro T2 v2 L2 X2 hQ2
  obtain ⟨rfl, Nq2, eh2⟩ := hQ2
  have N2 := Fr.app N0 Nq2
  refine oa5 (T := T2) 8 #[.val (.int 0), .val (.int 3)] [(.int 0)] ?_
  refine own_pop X2.here hx hby d13_8 rfl ?_
  refine oa9 X2 Bd.notSynchronized (v := none) (fun _ => rfl) (fun _ hr => X2.returnOut hx Bd.returns (hb hby d13_9) hr) eh2 (by decide) (by decide) ?_
  exact ⟨rfl, N2, rfl⟩
def Q_cpL_0_3 (Z : State) (x : Nat) (t : Nat) (kb : ClassId) (zc : Int32) (fm : Value) (c0 : Int32) (c1 : Int32) (c2 : Int32) (h0 : Heap) (n0 : Nat) (vR : Option Value) (hR : Heap) (LR : List Loc) : Prop := vR = some (.int c0) ∧ Fr n0 LR ∧ hR = h0
theorem cpL_0_3 (l : Launch) (Z : State) (a0 : Array Value) (hw : ∀ d ∈ tables_1, d.before a0 Z = true) (ws : List Jvm.Cond) (x : Nat) (t : Nat) (kb : ClassId) (zc : Int32) (fm : Value) (c0 : Int32) (c1 : Int32) (c2 : Int32) (h0 : Heap) (n0 : Nat) (Z0 : n0 ≤ h0.size) (E_x : Exa Z h0 x "java/lang/String") (Fc_x : Fld Z h0 x "java/lang/String" "coder" "B" (.int 0)) (Fv_x : Fld Z h0 x "java/lang/String" "value" "[B" (.ref t)) (V_t : Arv Z h0 t kb .byte (3 : Int32) [(.int (c0.toInt8.toInt32)), (.int (c1.toInt8.toInt32)), (.int (c2.toInt8.toInt32))] (.int 0)) (S_C : Sta Z h0 "java/lang/String" "COMPACT_STRINGS" "Z" (.int zc)) (hz : ¬ (zc = (0 : Int32))) (S_FM : Sta Z h0 "jdk/internal/util/Preconditions" "SIOOBE_FORMATTER" "Ljava/util/function/BiFunction;" fm) (hfm : fm.isRef = true) (h0_c0 : ¬ (c0 < (0 : Int32))) (h1_c0 : ¬ ((255 : Int32) < c0)) :
    oc2 l (⟨"java/lang/String", "codePointAt", "(I)I"⟩ : MethodName) jdk_42_method_57_code 3 (some .int) ws ({ frames := 2, cells := 0, slots := 0, locals := 27 } : Room) Z #[(.ref x), (.int 0)] h0 (Q_cpL_0_3 Z x t kb zc fm c0 c1 c2 h0 n0) := by
  refine ob3 (own := "java/lang/String") rfl (plainFor_of_name pn_11) (fun m => ef_cpL_0_1 m x (0 : Int32)) ?_
  intro p e s m below meth c s₁ Bd hml hZ hh hx hby hown X0 e0
  have N0 := Fr.nil n0
  have lt3 : h0.size > x := E_x.lt
  have lt4 : h0.size > t := V_t.lt
  refine oa2 X0.here hx hby d11_0 rfl rfl ?_
  refine ob6 X0 hx hZ hown (oa0 hw 54 rfl) (oa0 hw 55 rfl) (notFace_of_selects (args := #[]) (mvT hZ (oa0 hw 57 rfl))) (oa0 hw 57 rfl) (oa0 hw 56 rfl) (oa0 hw 8 rfl) (oa0 hw 58 rfl) (by decide) (strIsL l Z a0 hw [] x zc h0 n0 Z0 Fc_x S_C hz) 0 hml rfl (argsL := []) (st := []) E_x (lenOf pd_4 rfl) rfl rfl e0 hby d11_1 ?_
  intro T5 v5 L5 X5 hQ5
  obtain ⟨rfl, Nq5, eh5⟩ := hQ5
  have N5 := Fr.app N0 Nq5
  refine oa5 (T := T5) 4 #[.val (.ref x), .val (.int 0), .unset] [(.int 1)] ?_
  refine ob7 X5.here hx hby d11_4 ((if0 _ _).trans (feq (show ¬ ((1 : Int32) = (0 : Int32)) from (by decide))).1) ?_
  refine oa X5.here hx hby d11_7 rfl ?_
  refine oa2 X5.here hx hby d11_8 rfl rfl ?_
  refine od3 X5 hx hZ hown (host := "") (Or.inl (oa0 hw 33 rfl)) Via.refl eh5 Fv_x hby d11_9 ?_
  intro T6 X6 e6
  refine oe X6 hx hZ e6 V_t hby d11_12 ?_
  refine oa3 X6 hx hZ hown (oa0 hw 59 rfl) (oa0 hw 60 rfl) (oa0 hw 8 rfl) (oa0 hw 61 rfl) (by decide) (strChk_0_3 l Z a0 hw [] fm h0 n0 Z0 S_FM hfm) 0 hml rfl (argsL := [(.int 0), (.int 3)]) (st := []) (lenOf pd_5 rfl) rfl rfl e6 hby d11_13 ?_
  intro T7 v7 L7 X7 hQ7
  obtain ⟨rfl, Nq7, eh7⟩ := hQ7
  have N7 := Fr.app N5 Nq7
  refine oa5 (T := T7) 16 #[.val (.ref x), .val (.int 0), .unset] [] ?_
  refine oa2 X7.here hx hby d11_16 rfl rfl ?_
  refine od3 X7 hx hZ hown (host := "") (Or.inl (oa0 hw 33 rfl)) Via.refl eh7 Fv_x hby d11_17 ?_
  intro T8 X8 e8
  refine oa X8.here hx hby d11_20 rfl ?_
  refine oe7 X8 hx hZ e8 V_t ⟨by decide, by decide⟩ (v := (.int (c0.toInt8.toInt32))) rfl hby d11_21 ?_
  refine od0 X8.here hx hby d11_22 (v := (255 : Int32)) (by decide) ?_
  refine oe9 X8.here hx hby d11_25 rfl ?_
  refine oa9 X8 Bd.notSynchronized (v := some (.int ((c0.toInt8.toInt32) &&& (255 : Int32)))) (ob4 Bd.returns) (fun _ hr => retOut X8 hx Bd.returns rfl (Or.inl ⟨rfl, Or.inl rfl, _, rfl⟩) (hb hby d11_26) hr) e8 (by decide) (by decide) ?_
  exact ⟨(od (og6 c0 h0_c0 h1_c0)), N7, rfl⟩
def Q_preChk_1_3 (Z : State) (fm : Value) (h0 : Heap) (n0 : Nat) (vR : Option Value) (hR : Heap) (LR : List Loc) : Prop := vR = some (.int 1) ∧ Fr n0 LR ∧ hR = h0
theorem preChk_1_3 (l : Launch) (Z : State) (a0 : Array Value) (hw : ∀ d ∈ tables_1, d.before a0 Z = true) (ws : List Jvm.Cond) (fm : Value) (h0 : Heap) (n0 : Nat) (Z0 : n0 ≤ h0.size) (hfm : fm.isRef = true) :
    oc2 l (⟨"jdk/internal/util/Preconditions", "checkIndex", "(IILjava/util/function/BiFunction;)I"⟩ : MethodName) jdk_41_method_11_code 3 (some .int) ws ({ frames := 0, cells := 0, slots := 0, locals := 0 } : Room) Z #[(.int 1), (.int 3), fm] h0 (Q_preChk_1_3 Z fm h0 n0) := by
  refine ob3 (own := "jdk/internal/util/Preconditions") rfl (plainFor_of_name pn_14) (fun m => ef_preChk_0_1 m (1 : Int32) (3 : Int32) fm hfm) ?_
  intro p e s m below meth c s₁ Bd hml hZ hh hx hby hown X0 e0
  have N0 := Fr.nil n0
  refine oa X0.here hx hby d14_0 rfl ?_
  refine ob7 X0.here hx hby d14_1 ((if0 _ _).trans (flt (show ¬ ((1 : Int32) < (0 : Int32)) from (by decide))).1) ?_
  refine oa X0.here hx hby d14_4 rfl ?_
  refine oa X0.here hx hby d14_5 rfl ?_
  refine ob2 X0.here hx hby (pc' := 16) d14_6 (tlt (show (1 : Int32) < (3 : Int32) from (by decide))).1 (by decide) (by decide) ?_
  refine oa X0.here hx hby d14_16 rfl ?_
  refine oa9 X0 Bd.notSynchronized (v := some (.int 1)) (ob4 Bd.returns) (fun _ hr => retOut X0 hx Bd.returns rfl (Or.inl ⟨rfl, Or.inl rfl, _, rfl⟩) (hb hby d14_17) hr) e0 (by decide) (by decide) ?_
  exact ⟨rfl, N0, rfl⟩
def Q_strChk_1_3 (Z : State) (fm : Value) (h0 : Heap) (n0 : Nat) (vR : Option Value) (hR : Heap) (LR : List Loc) : Prop := vR = none ∧ Fr n0 LR ∧ hR = h0
theorem strChk_1_3 (l : Launch) (Z : State) (a0 : Array Value) (hw : ∀ d ∈ tables_1, d.before a0 Z = true) (ws : List Jvm.Cond) (fm : Value) (h0 : Heap) (n0 : Nat) (Z0 : n0 ≤ h0.size) (S_FM : Sta Z h0 "jdk/internal/util/Preconditions" "SIOOBE_FORMATTER" "Ljava/util/function/BiFunction;" fm) (hfm : fm.isRef = true) :
    oc2 l (⟨"java/lang/String", "checkIndex", "(II)V"⟩ : MethodName) jdk_42_method_155_code 2 none ws ({ frames := 1, cells := 0, slots := 0, locals := 14 } : Room) Z #[(.int 1), (.int 3)] h0 (Q_strChk_1_3 Z fm h0 n0) := by
  refine ob3 (own := "java/lang/String") rfl (plainFor_of_name pn_13) (fun m => ef_strChk_0_1 m (1 : Int32) (3 : Int32)) ?_
  intro p e s m below meth c s₁ Bd hml hZ hh hx hby hown X0 e0
  have N0 := Fr.nil n0
  refine oa X0.here hx hby d13_0 rfl ?_
  refine oa X0.here hx hby d13_1 rfl ?_
  refine oc3 X0 hx hZ hown (host := "") (Or.inl (oa0 hw 62 rfl)) Via.refl e0 S_FM hby d13_2 ?_
  intro T1 X1 e1
  refine oa3 X1 hx hZ hown (oa0 hw 64 rfl) (oa0 hw 65 rfl) (oa0 hw 63 rfl) (oa0 hw 66 rfl) (by decide) (preChk_1_3 l Z a0 hw [] fm h0 n0 Z0 hfm) 0 hml rfl (argsL := [(.int 1), (.int 3), fm]) (st := []) (lenOf pd_3 rfl) rfl rfl e1 hby d13_5 ?_
  intro T2 v2 L2 X2 hQ2
  obtain ⟨rfl, Nq2, eh2⟩ := hQ2
  have N2 := Fr.app N0 Nq2
  refine oa5 (T := T2) 8 #[.val (.int 1), .val (.int 3)] [(.int 1)] ?_
  refine own_pop X2.here hx hby d13_8 rfl ?_
  refine oa9 X2 Bd.notSynchronized (v := none) (fun _ => rfl) (fun _ hr => X2.returnOut hx Bd.returns (hb hby d13_9) hr) eh2 (by decide) (by decide) ?_
  exact ⟨rfl, N2, rfl⟩
def Q_cpL_1_3 (Z : State) (x : Nat) (t : Nat) (kb : ClassId) (zc : Int32) (fm : Value) (c0 : Int32) (c1 : Int32) (c2 : Int32) (h0 : Heap) (n0 : Nat) (vR : Option Value) (hR : Heap) (LR : List Loc) : Prop := vR = some (.int c1) ∧ Fr n0 LR ∧ hR = h0
theorem cpL_1_3 (l : Launch) (Z : State) (a0 : Array Value) (hw : ∀ d ∈ tables_1, d.before a0 Z = true) (ws : List Jvm.Cond) (x : Nat) (t : Nat) (kb : ClassId) (zc : Int32) (fm : Value) (c0 : Int32) (c1 : Int32) (c2 : Int32) (h0 : Heap) (n0 : Nat) (Z0 : n0 ≤ h0.size) (E_x : Exa Z h0 x "java/lang/String") (Fc_x : Fld Z h0 x "java/lang/String" "coder" "B" (.int 0)) (Fv_x : Fld Z h0 x "java/lang/String" "value" "[B" (.ref t)) (V_t : Arv Z h0 t kb .byte (3 : Int32) [(.int (c0.toInt8.toInt32)), (.int (c1.toInt8.toInt32)), (.int (c2.toInt8.toInt32))] (.int 0)) (S_C : Sta Z h0 "java/lang/String" "COMPACT_STRINGS" "Z" (.int zc)) (hz : ¬ (zc = (0 : Int32))) (S_FM : Sta Z h0 "jdk/internal/util/Preconditions" "SIOOBE_FORMATTER" "Ljava/util/function/BiFunction;" fm) (hfm : fm.isRef = true) (h0_c1 : ¬ (c1 < (0 : Int32))) (h1_c1 : ¬ ((255 : Int32) < c1)) :
    oc2 l (⟨"java/lang/String", "codePointAt", "(I)I"⟩ : MethodName) jdk_42_method_57_code 3 (some .int) ws ({ frames := 2, cells := 0, slots := 0, locals := 27 } : Room) Z #[(.ref x), (.int 1)] h0 (Q_cpL_1_3 Z x t kb zc fm c0 c1 c2 h0 n0) := by
  refine ob3 (own := "java/lang/String") rfl (plainFor_of_name pn_11) (fun m => ef_cpL_0_1 m x (1 : Int32)) ?_
  intro p e s m below meth c s₁ Bd hml hZ hh hx hby hown X0 e0
  have N0 := Fr.nil n0
  have lt3 : h0.size > x := E_x.lt
  have lt4 : h0.size > t := V_t.lt
  refine oa2 X0.here hx hby d11_0 rfl rfl ?_
  refine ob6 X0 hx hZ hown (oa0 hw 54 rfl) (oa0 hw 55 rfl) (notFace_of_selects (args := #[]) (mvT hZ (oa0 hw 57 rfl))) (oa0 hw 57 rfl) (oa0 hw 56 rfl) (oa0 hw 8 rfl) (oa0 hw 58 rfl) (by decide) (strIsL l Z a0 hw [] x zc h0 n0 Z0 Fc_x S_C hz) 0 hml rfl (argsL := []) (st := []) E_x (lenOf pd_4 rfl) rfl rfl e0 hby d11_1 ?_
  intro T5 v5 L5 X5 hQ5
  obtain ⟨rfl, Nq5, eh5⟩ := hQ5
  have N5 := Fr.app N0 Nq5
  refine oa5 (T := T5) 4 #[.val (.ref x), .val (.int 1), .unset] [(.int 1)] ?_
  refine ob7 X5.here hx hby d11_4 ((if0 _ _).trans (feq (show ¬ ((1 : Int32) = (0 : Int32)) from (by decide))).1) ?_
  refine oa X5.here hx hby d11_7 rfl ?_
  refine oa2 X5.here hx hby d11_8 rfl rfl ?_
  refine od3 X5 hx hZ hown (host := "") (Or.inl (oa0 hw 33 rfl)) Via.refl eh5 Fv_x hby d11_9 ?_
  intro T6 X6 e6
  refine oe X6 hx hZ e6 V_t hby d11_12 ?_
  refine oa3 X6 hx hZ hown (oa0 hw 59 rfl) (oa0 hw 60 rfl) (oa0 hw 8 rfl) (oa0 hw 61 rfl) (by decide) (strChk_1_3 l Z a0 hw [] fm h0 n0 Z0 S_FM hfm) 0 hml rfl (argsL := [(.int 1), (.int 3)]) (st := []) (lenOf pd_5 rfl) rfl rfl e6 hby d11_13 ?_
  intro T7 v7 L7 X7 hQ7
  obtain ⟨rfl, Nq7, eh7⟩ := hQ7
  have N7 := Fr.app N5 Nq7
  refine oa5 (T := T7) 16 #[.val (.ref x), .val (.int 1), .unset] [] ?_
  refine oa2 X7.here hx hby d11_16 rfl rfl ?_
  refine od3 X7 hx hZ hown (host := "") (Or.inl (oa0 hw 33 rfl)) Via.refl eh7 Fv_x hby d11_17 ?_
  intro T8 X8 e8
  refine oa X8.here hx hby d11_20 rfl ?_
  refine oe7 X8 hx hZ e8 V_t ⟨by decide, by decide⟩ (v := (.int (c1.toInt8.toInt32))) rfl hby d11_21 ?_
  refine od0 X8.here hx hby d11_22 (v := (255 : Int32)) (by decide) ?_
  refine oe9 X8.here hx hby d11_25 rfl ?_
  refine oa9 X8 Bd.notSynchronized (v := some (.int ((c1.toInt8.toInt32) &&& (255 : Int32)))) (ob4 Bd.returns) (fun _ hr => retOut X8 hx Bd.returns rfl (Or.inl ⟨rfl, Or.inl rfl, _, rfl⟩) (hb hby d11_26) hr) e8 (by decide) (by decide) ?_
  exact ⟨(od (og6 c1 h0_c1 h1_c1)), N7, rfl⟩
def Q_preChk_2_3 (Z : State) (fm : Value) (h0 : Heap) (n0 : Nat) (vR : Option Value) (hR : Heap) (LR : List Loc) : Prop := vR = some (.int 2) ∧ Fr n0 LR ∧ hR = h0
theorem preChk_2_3 (l : Launch) (Z : State) (a0 : Array Value) (hw : ∀ d ∈ tables_1, d.before a0 Z = true) (ws : List Jvm.Cond) (fm : Value) (h0 : Heap) (n0 : Nat) (Z0 : n0 ≤ h0.size) (hfm : fm.isRef = true) :
    oc2 l (⟨"jdk/internal/util/Preconditions", "checkIndex", "(IILjava/util/function/BiFunction;)I"⟩ : MethodName) jdk_41_method_11_code 3 (some .int) ws ({ frames := 0, cells := 0, slots := 0, locals := 0 } : Room) Z #[(.int 2), (.int 3), fm] h0 (Q_preChk_2_3 Z fm h0 n0) := by
  refine ob3 (own := "jdk/internal/util/Preconditions") rfl (plainFor_of_name pn_14) (fun m => ef_preChk_0_1 m (2 : Int32) (3 : Int32) fm hfm) ?_
  intro p e s m below meth c s₁ Bd hml hZ hh hx hby hown X0 e0
  have N0 := Fr.nil n0
  refine oa X0.here hx hby d14_0 rfl ?_
  refine ob7 X0.here hx hby d14_1 ((if0 _ _).trans (flt (show ¬ ((2 : Int32) < (0 : Int32)) from (by decide))).1) ?_
  refine oa X0.here hx hby d14_4 rfl ?_
  refine oa X0.here hx hby d14_5 rfl ?_
  refine ob2 X0.here hx hby (pc' := 16) d14_6 (tlt (show (2 : Int32) < (3 : Int32) from (by decide))).1 (by decide) (by decide) ?_
  refine oa X0.here hx hby d14_16 rfl ?_
  refine oa9 X0 Bd.notSynchronized (v := some (.int 2)) (ob4 Bd.returns) (fun _ hr => retOut X0 hx Bd.returns rfl (Or.inl ⟨rfl, Or.inl rfl, _, rfl⟩) (hb hby d14_17) hr) e0 (by decide) (by decide) ?_
  exact ⟨rfl, N0, rfl⟩
def Q_strChk_2_3 (Z : State) (fm : Value) (h0 : Heap) (n0 : Nat) (vR : Option Value) (hR : Heap) (LR : List Loc) : Prop := vR = none ∧ Fr n0 LR ∧ hR = h0
theorem strChk_2_3 (l : Launch) (Z : State) (a0 : Array Value) (hw : ∀ d ∈ tables_1, d.before a0 Z = true) (ws : List Jvm.Cond) (fm : Value) (h0 : Heap) (n0 : Nat) (Z0 : n0 ≤ h0.size) (S_FM : Sta Z h0 "jdk/internal/util/Preconditions" "SIOOBE_FORMATTER" "Ljava/util/function/BiFunction;" fm) (hfm : fm.isRef = true) :
    oc2 l (⟨"java/lang/String", "checkIndex", "(II)V"⟩ : MethodName) jdk_42_method_155_code 2 none ws ({ frames := 1, cells := 0, slots := 0, locals := 14 } : Room) Z #[(.int 2), (.int 3)] h0 (Q_strChk_2_3 Z fm h0 n0) := by
  refine ob3 (own := "java/lang/String") rfl (plainFor_of_name pn_13) (fun m => ef_strChk_0_1 m (2 : Int32) (3 : Int32)) ?_
  intro p e s m below meth c s₁ Bd hml hZ hh hx hby hown X0 e0
  have N0 := Fr.nil n0
  refine oa X0.here hx hby d13_0 rfl ?_
  refine oa X0.here hx hby d13_1 rfl ?_
  refine oc3 X0 hx hZ hown (host := "") (Or.inl (oa0 hw 62 rfl)) Via.refl e0 S_FM hby d13_2 ?_
  intro T1 X1 e1
  refine oa3 X1 hx hZ hown (oa0 hw 64 rfl) (oa0 hw 65 rfl) (oa0 hw 63 rfl) (oa0 hw 66 rfl) (by decide) (preChk_2_3 l Z a0 hw [] fm h0 n0 Z0 hfm) 0 hml rfl (argsL := [(.int 2), (.int 3), fm]) (st := []) (lenOf pd_3 rfl) rfl rfl e1 hby d13_5 ?_
  intro T2 v2 L2 X2 hQ2
  obtain ⟨rfl, Nq2, eh2⟩ := hQ2
  have N2 := Fr.app N0 Nq2
  refine oa5 (T := T2) 8 #[.val (.int 2), .val (.int 3)] [(.int 2)] ?_
  refine own_pop X2.here hx hby d13_8 rfl ?_
  refine oa9 X2 Bd.notSynchronized (v := none) (fun _ => rfl) (fun _ hr => X2.returnOut hx Bd.returns (hb hby d13_9) hr) eh2 (by decide) (by decide) ?_
  exact ⟨rfl, N2, rfl⟩
def Q_cpL_2_3 (Z : State) (x : Nat) (t : Nat) (kb : ClassId) (zc : Int32) (fm : Value) (c0 : Int32) (c1 : Int32) (c2 : Int32) (h0 : Heap) (n0 : Nat) (vR : Option Value) (hR : Heap) (LR : List Loc) : Prop := vR = some (.int c2) ∧ Fr n0 LR ∧ hR = h0
theorem cpL_2_3 (l : Launch) (Z : State) (a0 : Array Value) (hw : ∀ d ∈ tables_1, d.before a0 Z = true) (ws : List Jvm.Cond) (x : Nat) (t : Nat) (kb : ClassId) (zc : Int32) (fm : Value) (c0 : Int32) (c1 : Int32) (c2 : Int32) (h0 : Heap) (n0 : Nat) (Z0 : n0 ≤ h0.size) (E_x : Exa Z h0 x "java/lang/String") (Fc_x : Fld Z h0 x "java/lang/String" "coder" "B" (.int 0)) (Fv_x : Fld Z h0 x "java/lang/String" "value" "[B" (.ref t)) (V_t : Arv Z h0 t kb .byte (3 : Int32) [(.int (c0.toInt8.toInt32)), (.int (c1.toInt8.toInt32)), (.int (c2.toInt8.toInt32))] (.int 0)) (S_C : Sta Z h0 "java/lang/String" "COMPACT_STRINGS" "Z" (.int zc)) (hz : ¬ (zc = (0 : Int32))) (S_FM : Sta Z h0 "jdk/internal/util/Preconditions" "SIOOBE_FORMATTER" "Ljava/util/function/BiFunction;" fm) (hfm : fm.isRef = true) (h0_c2 : ¬ (c2 < (0 : Int32))) (h1_c2 : ¬ ((255 : Int32) < c2)) :
    oc2 l (⟨"java/lang/String", "codePointAt", "(I)I"⟩ : MethodName) jdk_42_method_57_code 3 (some .int) ws ({ frames := 2, cells := 0, slots := 0, locals := 27 } : Room) Z #[(.ref x), (.int 2)] h0 (Q_cpL_2_3 Z x t kb zc fm c0 c1 c2 h0 n0) := by
  refine ob3 (own := "java/lang/String") rfl (plainFor_of_name pn_11) (fun m => ef_cpL_0_1 m x (2 : Int32)) ?_
  intro p e s m below meth c s₁ Bd hml hZ hh hx hby hown X0 e0
  have N0 := Fr.nil n0
  have lt3 : h0.size > x := E_x.lt
  have lt4 : h0.size > t := V_t.lt
  refine oa2 X0.here hx hby d11_0 rfl rfl ?_
  refine ob6 X0 hx hZ hown (oa0 hw 54 rfl) (oa0 hw 55 rfl) (notFace_of_selects (args := #[]) (mvT hZ (oa0 hw 57 rfl))) (oa0 hw 57 rfl) (oa0 hw 56 rfl) (oa0 hw 8 rfl) (oa0 hw 58 rfl) (by decide) (strIsL l Z a0 hw [] x zc h0 n0 Z0 Fc_x S_C hz) 0 hml rfl (argsL := []) (st := []) E_x (lenOf pd_4 rfl) rfl rfl e0 hby d11_1 ?_
  intro T5 v5 L5 X5 hQ5
  obtain ⟨rfl, Nq5, eh5⟩ := hQ5
  have N5 := Fr.app N0 Nq5
  refine oa5 (T := T5) 4 #[.val (.ref x), .val (.int 2), .unset] [(.int 1)] ?_
  refine ob7 X5.here hx hby d11_4 ((if0 _ _).trans (feq (show ¬ ((1 : Int32) = (0 : Int32)) from (by decide))).1) ?_
  refine oa X5.here hx hby d11_7 rfl ?_
  refine oa2 X5.here hx hby d11_8 rfl rfl ?_
  refine od3 X5 hx hZ hown (host := "") (Or.inl (oa0 hw 33 rfl)) Via.refl eh5 Fv_x hby d11_9 ?_
  intro T6 X6 e6
  refine oe X6 hx hZ e6 V_t hby d11_12 ?_
  refine oa3 X6 hx hZ hown (oa0 hw 59 rfl) (oa0 hw 60 rfl) (oa0 hw 8 rfl) (oa0 hw 61 rfl) (by decide) (strChk_2_3 l Z a0 hw [] fm h0 n0 Z0 S_FM hfm) 0 hml rfl (argsL := [(.int 2), (.int 3)]) (st := []) (lenOf pd_5 rfl) rfl rfl e6 hby d11_13 ?_
  intro T7 v7 L7 X7 hQ7
  obtain ⟨rfl, Nq7, eh7⟩ := hQ7
  have N7 := Fr.app N5 Nq7
  refine oa5 (T := T7) 16 #[.val (.ref x), .val (.int 2), .unset] [] ?_
  refine oa2 X7.here hx hby d11_16 rfl rfl ?_
  refine od3 X7 hx hZ hown (host := "") (Or.inl (oa0 hw 33 rfl)) Via.refl eh7 Fv_x hby d11_17 ?_
  intro T8 X8 e8
  refine oa X8.here hx hby d11_20 rfl ?_
  refine oe7 X8 hx hZ e8 V_t ⟨by decide, by decide⟩ (v := (.int (c2.toInt8.toInt32))) rfl hby d11_21 ?_
  refine od0 X8.here hx hby d11_22 (v := (255 : Int32)) (by decide) ?_
  refine oe9 X8.here hx hby d11_25 rfl ?_
  refine oa9 X8 Bd.notSynchronized (v := some (.int ((c2.toInt8.toInt32) &&& (255 : Int32)))) (ob4 Bd.returns) (fun _ hr => retOut X8 hx Bd.returns rfl (Or.inl ⟨rfl, Or.inl rfl, _, rfl⟩) (hb hby d11_26) hr) e8 (by decide) (by decide) ?_
  exact ⟨(od (og6 c2 h0_c2 h1_c2)), N7, rfl⟩
theorem ef_cc1 (m : MethodId) (x0 : Int32) : entryFrame m #[(.int x0)] 1 = mkF m 0 #[.val (.int x0)] [] := by first | (simp [entryFrame, mkF, argsToLocals, Value.category]; done) | rfl
theorem pn_19 : plainName "java/lang/Character" = true := by first | (simp [plainName, overriddenIn]; done) | decide +kernel
theorem d19_0 : decode jdk_89_method_18_code 0 = .ok (.iload_n 0, 1) := by decide +kernel
theorem d19_1 : decode jdk_89_method_18_code 1 = .ok (.ldc 73, 2) := by decide +kernel
theorem d19_3 : decode jdk_89_method_18_code 3 = .ok (.if_icmp .lt 7, 3) := by decide +kernel
theorem d19_10 : decode jdk_89_method_18_code 10 = .ok (.iconst 1, 1) := by decide +kernel
theorem d19_11 : decode jdk_89_method_18_code 11 = .ok (.ireturn, 1) := by decide +kernel
def Q_cc1 (Z : State) (cp : Int32) (h0 : Heap) (n0 : Nat) (vR : Option Value) (hR : Heap) (LR : List Loc) : Prop := vR = some (.int 1) ∧ Fr n0 LR ∧ hR = h0
theorem cc1 (l : Launch) (Z : State) (a0 : Array Value) (hw : ∀ d ∈ tables_1, d.before a0 Z = true) (ws : List Jvm.Cond) (cp : Int32) (h0 : Heap) (n0 : Nat) (Z0 : n0 ≤ h0.size) (hcp : cp < (65536 : Int32)) :
    oc2 l (⟨"java/lang/Character", "charCount", "(I)I"⟩ : MethodName) jdk_89_method_18_code 1 (some .int) ws ({ frames := 0, cells := 0, slots := 0, locals := 0 } : Room) Z #[(.int cp)] h0 (Q_cc1 Z cp h0 n0) := by
  refine ob3 (own := "java/lang/Character") rfl (plainFor_of_name pn_19) (fun m => ef_cc1 m cp) ?_
  intro p e s m below meth c s₁ Bd hml hZ hh hx hby hown X0 e0
  have N0 := Fr.nil n0
  refine oa X0.here hx hby d19_0 rfl ?_
  refine oc1 X0 hx hZ hown (oa0 hw 88 rfl) hby d19_1 ?_
  refine ob2 X0.here hx hby (pc' := 10) d19_3 (tlt hcp).1 (by decide) (by decide) ?_
  refine oa4 X0.here hx hby d19_10 (v := (1 : Int32)) (by decide) ?_
  refine oa9 X0 Bd.notSynchronized (v := some (.int 1)) (ob4 Bd.returns) (fun _ hr => retOut X0 hx Bd.returns rfl (Or.inl ⟨rfl, Or.inl rfl, _, rfl⟩) (hb hby d19_11) hr) e0 (by decide) (by decide) ?_
  exact ⟨rfl, N0, rfl⟩
theorem d19_6 : decode jdk_89_method_18_code 6 = .ok (.iconst 2, 1) := by decide +kernel
theorem d19_7 : decode jdk_89_method_18_code 7 = .ok (.goto 4, 3) := by decide +kernel
def Q_cc2 (Z : State) (cp : Int32) (h0 : Heap) (n0 : Nat) (vR : Option Value) (hR : Heap) (LR : List Loc) : Prop := vR = some (.int 2) ∧ Fr n0 LR ∧ hR = h0
theorem cc2 (l : Launch) (Z : State) (a0 : Array Value) (hw : ∀ d ∈ tables_1, d.before a0 Z = true) (ws : List Jvm.Cond) (cp : Int32) (h0 : Heap) (n0 : Nat) (Z0 : n0 ≤ h0.size) (hcp : ¬ (cp < (65536 : Int32))) :
    oc2 l (⟨"java/lang/Character", "charCount", "(I)I"⟩ : MethodName) jdk_89_method_18_code 1 (some .int) ws ({ frames := 0, cells := 0, slots := 0, locals := 0 } : Room) Z #[(.int cp)] h0 (Q_cc2 Z cp h0 n0) := by
  refine ob3 (own := "java/lang/Character") rfl (plainFor_of_name pn_19) (fun m => ef_cc1 m cp) ?_
  intro p e s m below meth c s₁ Bd hml hZ hh hx hby hown X0 e0
  have N0 := Fr.nil n0
  refine oa X0.here hx hby d19_0 rfl ?_
  refine oc1 X0 hx hZ hown (oa0 hw 88 rfl) hby d19_1 ?_
  refine oa7 X0.here hx hby d19_3 (flt hcp).1 ?_
  refine oa4 X0.here hx hby d19_6 (v := (2 : Int32)) (by decide) ?_
  refine oc X0.here hx hby (pc' := 11) d19_7 (by decide) (by decide) ?_
  refine oa9 X0 Bd.notSynchronized (v := some (.int 2)) (ob4 Bd.returns) (fun _ hr => retOut X0 hx Bd.returns rfl (Or.inl ⟨rfl, Or.inl rfl, _, rfl⟩) (hb hby d19_11) hr) e0 (by decide) (by decide) ?_
  exact ⟨rfl, N0, rfl⟩
theorem ef_toCP (m : MethodId) (x0 : Int32) (x1 : Int32) : entryFrame m #[(.int x0), (.int x1)] 2 = mkF m 0 #[.val (.int x0), .val (.int x1)] [] := by first | (simp [entryFrame, mkF, argsToLocals, Value.category]; done) | rfl
theorem pn_30 : plainName "java/lang/Character" = true := by first | (simp [plainName, overriddenIn]; done) | decide +kernel
theorem d30_0 : decode jdk_89_method_19_code 0 = .ok (.iload_n 0, 1) := by decide +kernel
theorem d30_1 : decode jdk_89_method_19_code 1 = .ok (.bipush 10, 2) := by decide +kernel
theorem d30_3 : decode jdk_89_method_19_code 3 = .ok (.ishl, 1) := by decide +kernel
theorem d30_4 : decode jdk_89_method_19_code 4 = .ok (.iload_n 1, 1) := by decide +kernel
theorem d30_5 : decode jdk_89_method_19_code 5 = .ok (.iadd, 1) := by decide +kernel
theorem d30_6 : decode jdk_89_method_19_code 6 = .ok (.ldc 85, 2) := by decide +kernel
theorem d30_8 : decode jdk_89_method_19_code 8 = .ok (.iadd, 1) := by decide +kernel
theorem d30_9 : decode jdk_89_method_19_code 9 = .ok (.ireturn, 1) := by decide +kernel
def Q_toCP (Z : State) (ca : Int32) (cb : Int32) (h0 : Heap) (n0 : Nat) (vR : Option Value) (hR : Heap) (LR : List Loc) : Prop := vR = some (.int (oc5 ca cb)) ∧ Fr n0 LR ∧ hR = h0
theorem toCP (l : Launch) (Z : State) (a0 : Array Value) (hw : ∀ d ∈ tables_1, d.before a0 Z = true) (ws : List Jvm.Cond) (ca : Int32) (cb : Int32) (h0 : Heap) (n0 : Nat) (Z0 : n0 ≤ h0.size)  :
    oc2 l (⟨"java/lang/Character", "toCodePoint", "(CC)I"⟩ : MethodName) jdk_89_method_19_code 2 (some .int) ws ({ frames := 0, cells := 0, slots := 0, locals := 0 } : Room) Z #[(.int ca), (.int cb)] h0 (Q_toCP Z ca cb h0 n0) := by
  refine ob3 (own := "java/lang/Character") rfl (plainFor_of_name pn_30) (fun m => ef_toCP m ca cb) ?_
  intro p e s m below meth c s₁ Bd hml hZ hh hx hby hown X0 e0
  have N0 := Fr.nil n0
  refine oa X0.here hx hby d30_0 rfl ?_
  refine od4 X0.here hx hby d30_1 (v := (10 : Int32)) (by decide) ?_
  refine oe1 X0.here hx hby d30_3 rfl ?_
  refine oa X0.here hx hby d30_4 rfl ?_
  refine oc8 X0.here hx hby d30_5 rfl ?_
  refine oc1 X0 hx hZ hown (oa0 hw 137 rfl) hby d30_6 ?_
  refine oc8 X0.here hx hby d30_8 rfl ?_
  refine oa9 X0 Bd.notSynchronized (v := some (.int (((ca <<< ((10 : Int32) &&& 31)) + cb) + (-56613888 : Int32)))) (ob4 Bd.returns) (fun _ hr => retOut X0 hx Bd.returns rfl (Or.inl ⟨rfl, Or.inl rfl, _, rfl⟩) (hb hby d30_9) hr) e0 (by decide) (by decide) ?_
  exact ⟨rfl, N0, rfl⟩
theorem ef_coderU (m : MethodId) (x0 : Nat) : entryFrame m #[(.ref x0)] 1 = mkF m 0 #[.val (.ref x0)] [] := by first | (simp [entryFrame, mkF, argsToLocals, Value.category]; done) | rfl
theorem pn_10 : plainName "java/lang/String" = true := by first | (simp [plainName, overriddenIn]; done) | decide +kernel
theorem d10_0 : decode jdk_42_method_152_code 0 = .ok (.getstatic 38, 3) := by decide +kernel
theorem d10_3 : decode jdk_42_method_152_code 3 = .ok (.ifCond .eq 10, 3) := by decide +kernel
theorem d10_6 : decode jdk_42_method_152_code 6 = .ok (.aload_n 0, 1) := by decide +kernel
theorem d10_7 : decode jdk_42_method_152_code 7 = .ok (.getfield 15, 3) := by decide +kernel
theorem d10_10 : decode jdk_42_method_152_code 10 = .ok (.goto 4, 3) := by decide +kernel
theorem d10_14 : decode jdk_42_method_152_code 14 = .ok (.ireturn, 1) := by decide +kernel
def Q_coderU (Z : State) (x : Nat) (zc : Int32) (h0 : Heap) (n0 : Nat) (vR : Option Value) (hR : Heap) (LR : List Loc) : Prop := vR = some (.int 1) ∧ Fr n0 LR ∧ hR = h0
theorem coderU (l : Launch) (Z : State) (a0 : Array Value) (hw : ∀ d ∈ tables_1, d.before a0 Z = true) (ws : List Jvm.Cond) (x : Nat) (zc : Int32) (h0 : Heap) (n0 : Nat) (Z0 : n0 ≤ h0.size) (Fc_x : Fld Z h0 x "java/lang/String" "coder" "B" (.int 1)) (S_C : Sta Z h0 "java/lang/String" "COMPACT_STRINGS" "Z" (.int zc)) (hz : ¬ (zc = (0 : Int32))) :
    oc2 l (⟨"java/lang/String", "coder", "()B"⟩ : MethodName) jdk_42_method_152_code 1 (some .byte) ws ({ frames := 0, cells := 0, slots := 0, locals := 0 } : Room) Z #[(.ref x)] h0 (Q_coderU Z x zc h0 n0) := by
  refine ob3 (own := "java/lang/String") rfl (plainFor_of_name pn_10) (fun m => ef_coderU m x) ?_
  intro p e s m below meth c s₁ Bd hml hZ hh hx hby hown X0 e0
  have N0 := Fr.nil n0
  have lt1 : h0.size > x := Fc_x.lt
  refine oc3 X0 hx hZ hown (host := "") (Or.inl (oa0 hw 19 rfl)) Via.refl e0 S_C hby d10_0 ?_
  intro T2 X2 e2
  refine ob7 X2.here hx hby d10_3 ((if0 _ _).trans (feq hz).1) ?_
  refine oa2 X2.here hx hby d10_6 rfl rfl ?_
  refine od3 X2 hx hZ hown (host := "") (Or.inl (oa0 hw 31 rfl)) Via.refl e2 Fc_x hby d10_7 ?_
  intro T3 X3 e3
  refine oc X3.here hx hby (pc' := 14) d10_10 (by decide) (by decide) ?_
  refine oa9 X3 Bd.notSynchronized (v := some (.int 1)) (ob4 Bd.returns) (fun _ hr => retN X3 hx (t := .byte) Bd.returns (by simp) (hb hby d10_14) hr) e3 (by decide) (by decide) ?_
  exact ⟨rfl, N0, rfl⟩
theorem d12_17 : decode jdk_42_method_154_code 17 = .ok (.iconst 0, 1) := by decide +kernel
def Q_isLatU (Z : State) (x : Nat) (zc : Int32) (h0 : Heap) (n0 : Nat) (vR : Option Value) (hR : Heap) (LR : List Loc) : Prop := vR = some (.int 0) ∧ Fr n0 LR ∧ hR = h0
theorem isLatU (l : Launch) (Z : State) (a0 : Array Value) (hw : ∀ d ∈ tables_1, d.before a0 Z = true) (ws : List Jvm.Cond) (x : Nat) (zc : Int32) (h0 : Heap) (n0 : Nat) (Z0 : n0 ≤ h0.size) (Fc_x : Fld Z h0 x "java/lang/String" "coder" "B" (.int 1)) (S_C : Sta Z h0 "java/lang/String" "COMPACT_STRINGS" "Z" (.int zc)) (hz : ¬ (zc = (0 : Int32))) :
    oc2 l (⟨"java/lang/String", "isLatin1", "()Z"⟩ : MethodName) jdk_42_method_154_code 1 (some .boolean) ws ({ frames := 0, cells := 0, slots := 0, locals := 0 } : Room) Z #[(.ref x)] h0 (Q_isLatU Z x zc h0 n0) := by
  refine ob3 (own := "java/lang/String") rfl (plainFor_of_name pn_12) (fun m => ef_strIsL m x) ?_
  intro p e s m below meth c s₁ Bd hml hZ hh hx hby hown X0 e0
  have N0 := Fr.nil n0
  have lt1 : h0.size > x := Fc_x.lt
  refine oc3 X0 hx hZ hown (host := "") (Or.inl (oa0 hw 19 rfl)) Via.refl e0 S_C hby d12_0 ?_
  intro T2 X2 e2
  refine ob7 X2.here hx hby d12_3 ((if0 _ _).trans (feq hz).1) ?_
  refine oa2 X2.here hx hby d12_6 rfl rfl ?_
  refine od3 X2 hx hZ hown (host := "") (Or.inl (oa0 hw 31 rfl)) Via.refl e2 Fc_x hby d12_7 ?_
  intro T3 X3 e3
  refine ob1 X3.here hx hby (pc' := 17) d12_10 ((if0 _ _).trans (feq (show ¬ ((1 : Int32) = (0 : Int32)) from (by decide))).2) (by decide) (by decide) ?_
  refine oa4 X3.here hx hby d12_17 (v := (0 : Int32)) (by decide) ?_
  refine oa9 X3 Bd.notSynchronized (v := some (.int 0)) (ob4 Bd.returns) (fun _ hr => retN X3 hx (t := .boolean) Bd.returns (by simp) (hb hby d12_18) hr) e3 (by decide) (by decide) ?_
  exact ⟨rfl, N0, rfl⟩
theorem ef_lenU_1 (m : MethodId) (x0 : Nat) : entryFrame m #[(.ref x0)] 1 = mkF m 0 #[.val (.ref x0)] [] := by first | (simp [entryFrame, mkF, argsToLocals, Value.category]; done) | rfl
theorem pn_9 : plainName "java/lang/String" = true := by first | (simp [plainName, overriddenIn]; done) | decide +kernel
theorem d9_0 : decode jdk_42_method_54_code 0 = .ok (.aload_n 0, 1) := by decide +kernel
theorem d9_1 : decode jdk_42_method_54_code 1 = .ok (.getfield 9, 3) := by decide +kernel
theorem d9_4 : decode jdk_42_method_54_code 4 = .ok (.arraylength, 1) := by decide +kernel
theorem d9_5 : decode jdk_42_method_54_code 5 = .ok (.aload_n 0, 1) := by decide +kernel
theorem d9_6 : decode jdk_42_method_54_code 6 = .ok (.invokevirtual 335, 3) := by decide +kernel
theorem pd_6 : parseMethodDescriptor "()B" = some ⟨[], some .byte⟩ := by decide +kernel
theorem d9_9 : decode jdk_42_method_54_code 9 = .ok (.ishr, 1) := by decide +kernel
theorem d9_10 : decode jdk_42_method_54_code 10 = .ok (.ireturn, 1) := by decide +kernel
def Q_lenU_1 (Z : State) (x : Nat) (t : Nat) (kb : ClassId) (zc : Int32) (c0 : Int32) (h0 : Heap) (n0 : Nat) (vR : Option Value) (hR : Heap) (LR : List Loc) : Prop := vR = some (.int 1) ∧ Fr n0 LR ∧ hR = h0
theorem lenU_1 (l : Launch) (Z : State) (a0 : Array Value) (hw : ∀ d ∈ tables_1, d.before a0 Z = true) (ws : List Jvm.Cond) (x : Nat) (t : Nat) (kb : ClassId) (zc : Int32) (c0 : Int32) (h0 : Heap) (n0 : Nat) (Z0 : n0 ≤ h0.size) (E_x : Exa Z h0 x "java/lang/String") (Fc_x : Fld Z h0 x "java/lang/String" "coder" "B" (.int 1)) (Fv_x : Fld Z h0 x "java/lang/String" "value" "[B" (.ref t)) (V_t : Arv Z h0 t kb .byte (2 : Int32) [(.int ((c0 >>> ((0 : Int32) &&& 31)).toInt8.toInt32)), (.int ((c0 >>> ((8 : Int32) &&& 31)).toInt8.toInt32))] (.int 0)) (S_C : Sta Z h0 "java/lang/String" "COMPACT_STRINGS" "Z" (.int zc)) (hz : ¬ (zc = (0 : Int32))) :
    oc2 l (⟨"java/lang/String", "length", "()I"⟩ : MethodName) jdk_42_method_54_code 1 (some .int) ws ({ frames := 1, cells := 0, slots := 0, locals := 13 } : Room) Z #[(.ref x)] h0 (Q_lenU_1 Z x t kb zc c0 h0 n0) := by
  refine ob3 (own := "java/lang/String") rfl (plainFor_of_name pn_9) (fun m => ef_lenU_1 m x) ?_
  intro p e s m below meth c s₁ Bd hml hZ hh hx hby hown X0 e0
  have N0 := Fr.nil n0
  have lt1 : h0.size > x := E_x.lt
  have lt2 : h0.size > t := V_t.lt
  refine oa2 X0.here hx hby d9_0 rfl rfl ?_
  refine od3 X0 hx hZ hown (host := "") (Or.inl (oa0 hw 33 rfl)) Via.refl e0 Fv_x hby d9_1 ?_
  intro T3 X3 e3
  refine oe X3 hx hZ e3 V_t hby d9_4 ?_
  refine oa2 X3.here hx hby d9_5 rfl rfl ?_
  refine ob6 X3 hx hZ hown (oa0 hw 44 rfl) (oa0 hw 45 rfl) (notFace_of_selects (args := #[]) (mvT hZ (oa0 hw 47 rfl))) (oa0 hw 47 rfl) (oa0 hw 46 rfl) (oa0 hw 8 rfl) (oa0 hw 48 rfl) (by decide) (coderU l Z a0 hw [] x zc h0 n0 Z0 Fc_x S_C hz) 1 hml rfl (argsL := []) (st := [(.int 2)]) E_x (lenOf pd_6 rfl) rfl rfl e3 hby d9_6 ?_
  intro T4 v4 L4 X4 hQ4
  obtain ⟨rfl, Nq4, eh4⟩ := hQ4
  have N4 := Fr.app N0 Nq4
  refine oa5 (T := T4) 9 #[.val (.ref x)] [(.int 1), (.int 2)] ?_
  refine oe2 X4.here hx hby d9_9 (v := (1 : Int32)) (by decide) ?_
  refine oa9 X4 Bd.notSynchronized (v := some (.int 1)) (ob4 Bd.returns) (fun _ hr => retOut X4 hx Bd.returns rfl (Or.inl ⟨rfl, Or.inl rfl, _, rfl⟩) (hb hby d9_10) hr) eh4 (by decide) (by decide) ?_
  exact ⟨rfl, N4, rfl⟩
def Q_lenU_2 (Z : State) (x : Nat) (t : Nat) (kb : ClassId) (zc : Int32) (c0 : Int32) (c1 : Int32) (h0 : Heap) (n0 : Nat) (vR : Option Value) (hR : Heap) (LR : List Loc) : Prop := vR = some (.int 2) ∧ Fr n0 LR ∧ hR = h0
theorem lenU_2 (l : Launch) (Z : State) (a0 : Array Value) (hw : ∀ d ∈ tables_1, d.before a0 Z = true) (ws : List Jvm.Cond) (x : Nat) (t : Nat) (kb : ClassId) (zc : Int32) (c0 : Int32) (c1 : Int32) (h0 : Heap) (n0 : Nat) (Z0 : n0 ≤ h0.size) (E_x : Exa Z h0 x "java/lang/String") (Fc_x : Fld Z h0 x "java/lang/String" "coder" "B" (.int 1)) (Fv_x : Fld Z h0 x "java/lang/String" "value" "[B" (.ref t)) (V_t : Arv Z h0 t kb .byte (4 : Int32) [(.int ((c0 >>> ((0 : Int32) &&& 31)).toInt8.toInt32)), (.int ((c0 >>> ((8 : Int32) &&& 31)).toInt8.toInt32)), (.int ((c1 >>> ((0 : Int32) &&& 31)).toInt8.toInt32)), (.int ((c1 >>> ((8 : Int32) &&& 31)).toInt8.toInt32))] (.int 0)) (S_C : Sta Z h0 "java/lang/String" "COMPACT_STRINGS" "Z" (.int zc)) (hz : ¬ (zc = (0 : Int32))) :
    oc2 l (⟨"java/lang/String", "length", "()I"⟩ : MethodName) jdk_42_method_54_code 1 (some .int) ws ({ frames := 1, cells := 0, slots := 0, locals := 13 } : Room) Z #[(.ref x)] h0 (Q_lenU_2 Z x t kb zc c0 c1 h0 n0) := by
  refine ob3 (own := "java/lang/String") rfl (plainFor_of_name pn_9) (fun m => ef_lenU_1 m x) ?_
  intro p e s m below meth c s₁ Bd hml hZ hh hx hby hown X0 e0
  have N0 := Fr.nil n0
  have lt2 : h0.size > x := E_x.lt
  have lt3 : h0.size > t := V_t.lt
  refine oa2 X0.here hx hby d9_0 rfl rfl ?_
  refine od3 X0 hx hZ hown (host := "") (Or.inl (oa0 hw 33 rfl)) Via.refl e0 Fv_x hby d9_1 ?_
  intro T4 X4 e4
  refine oe X4 hx hZ e4 V_t hby d9_4 ?_
  refine oa2 X4.here hx hby d9_5 rfl rfl ?_
  refine ob6 X4 hx hZ hown (oa0 hw 44 rfl) (oa0 hw 45 rfl) (notFace_of_selects (args := #[]) (mvT hZ (oa0 hw 47 rfl))) (oa0 hw 47 rfl) (oa0 hw 46 rfl) (oa0 hw 8 rfl) (oa0 hw 48 rfl) (by decide) (coderU l Z a0 hw [] x zc h0 n0 Z0 Fc_x S_C hz) 1 hml rfl (argsL := []) (st := [(.int 4)]) E_x (lenOf pd_6 rfl) rfl rfl e4 hby d9_6 ?_
  intro T5 v5 L5 X5 hQ5
  obtain ⟨rfl, Nq5, eh5⟩ := hQ5
  have N5 := Fr.app N0 Nq5
  refine oa5 (T := T5) 9 #[.val (.ref x)] [(.int 1), (.int 4)] ?_
  refine oe2 X5.here hx hby d9_9 (v := (2 : Int32)) (by decide) ?_
  refine oa9 X5 Bd.notSynchronized (v := some (.int 2)) (ob4 Bd.returns) (fun _ hr => retOut X5 hx Bd.returns rfl (Or.inl ⟨rfl, Or.inl rfl, _, rfl⟩) (hb hby d9_10) hr) eh5 (by decide) (by decide) ?_
  exact ⟨rfl, N5, rfl⟩
def Q_lenU_3 (Z : State) (x : Nat) (t : Nat) (kb : ClassId) (zc : Int32) (c0 : Int32) (c1 : Int32) (c2 : Int32) (h0 : Heap) (n0 : Nat) (vR : Option Value) (hR : Heap) (LR : List Loc) : Prop := vR = some (.int 3) ∧ Fr n0 LR ∧ hR = h0
theorem lenU_3 (l : Launch) (Z : State) (a0 : Array Value) (hw : ∀ d ∈ tables_1, d.before a0 Z = true) (ws : List Jvm.Cond) (x : Nat) (t : Nat) (kb : ClassId) (zc : Int32) (c0 : Int32) (c1 : Int32) (c2 : Int32) (h0 : Heap) (n0 : Nat) (Z0 : n0 ≤ h0.size) (E_x : Exa Z h0 x "java/lang/String") (Fc_x : Fld Z h0 x "java/lang/String" "coder" "B" (.int 1)) (Fv_x : Fld Z h0 x "java/lang/String" "value" "[B" (.ref t)) (V_t : Arv Z h0 t kb .byte (6 : Int32) [(.int ((c0 >>> ((0 : Int32) &&& 31)).toInt8.toInt32)), (.int ((c0 >>> ((8 : Int32) &&& 31)).toInt8.toInt32)), (.int ((c1 >>> ((0 : Int32) &&& 31)).toInt8.toInt32)), (.int ((c1 >>> ((8 : Int32) &&& 31)).toInt8.toInt32)), (.int ((c2 >>> ((0 : Int32) &&& 31)).toInt8.toInt32)), (.int ((c2 >>> ((8 : Int32) &&& 31)).toInt8.toInt32))] (.int 0)) (S_C : Sta Z h0 "java/lang/String" "COMPACT_STRINGS" "Z" (.int zc)) (hz : ¬ (zc = (0 : Int32))) :
    oc2 l (⟨"java/lang/String", "length", "()I"⟩ : MethodName) jdk_42_method_54_code 1 (some .int) ws ({ frames := 1, cells := 0, slots := 0, locals := 13 } : Room) Z #[(.ref x)] h0 (Q_lenU_3 Z x t kb zc c0 c1 c2 h0 n0) := by
  refine ob3 (own := "java/lang/String") rfl (plainFor_of_name pn_9) (fun m => ef_lenU_1 m x) ?_
  intro p e s m below meth c s₁ Bd hml hZ hh hx hby hown X0 e0
  have N0 := Fr.nil n0
  have lt3 : h0.size > x := E_x.lt
  have lt4 : h0.size > t := V_t.lt
  refine oa2 X0.here hx hby d9_0 rfl rfl ?_
  refine od3 X0 hx hZ hown (host := "") (Or.inl (oa0 hw 33 rfl)) Via.refl e0 Fv_x hby d9_1 ?_
  intro T5 X5 e5
  refine oe X5 hx hZ e5 V_t hby d9_4 ?_
  refine oa2 X5.here hx hby d9_5 rfl rfl ?_
  refine ob6 X5 hx hZ hown (oa0 hw 44 rfl) (oa0 hw 45 rfl) (notFace_of_selects (args := #[]) (mvT hZ (oa0 hw 47 rfl))) (oa0 hw 47 rfl) (oa0 hw 46 rfl) (oa0 hw 8 rfl) (oa0 hw 48 rfl) (by decide) (coderU l Z a0 hw [] x zc h0 n0 Z0 Fc_x S_C hz) 1 hml rfl (argsL := []) (st := [(.int 6)]) E_x (lenOf pd_6 rfl) rfl rfl e5 hby d9_6 ?_
  intro T6 v6 L6 X6 hQ6
  obtain ⟨rfl, Nq6, eh6⟩ := hQ6
  have N6 := Fr.app N0 Nq6
  refine oa5 (T := T6) 9 #[.val (.ref x)] [(.int 1), (.int 6)] ?_
  refine oe2 X6.here hx hby d9_9 (v := (3 : Int32)) (by decide) ?_
  refine oa9 X6 Bd.notSynchronized (v := some (.int 3)) (ob4 Bd.returns) (fun _ hr => retOut X6 hx Bd.returns rfl (Or.inl ⟨rfl, Or.inl rfl, _, rfl⟩) (hb hby d9_10) hr) eh6 (by decide) (by decide) ?_
  exact ⟨rfl, N6, rfl⟩
theorem ef_getCh_0_1 (m : MethodId) (x0 : Nat) (x1 : Int32) : entryFrame m #[(.ref x0), (.int x1)] 2 = mkF m 0 #[.val (.ref x0), .val (.int x1)] [] := by first | (simp [entryFrame, mkF, argsToLocals, Value.category]; done) | rfl
theorem pn_24 : plainName "java/lang/StringUTF16" = true := by first | (simp [plainName, overriddenIn]; done) | decide +kernel
theorem d24_0 : decode jdk_52_method_5_code 0 = .ok (.getstatic 44, 3) := by decide +kernel
theorem d24_3 : decode jdk_52_method_5_code 3 = .ok (.ifCond .ne 25, 3) := by decide +kernel
theorem d24_28 : decode jdk_52_method_5_code 28 = .ok (.iload_n 1, 1) := by decide +kernel
theorem d24_29 : decode jdk_52_method_5_code 29 = .ok (.iconst 1, 1) := by decide +kernel
theorem d24_30 : decode jdk_52_method_5_code 30 = .ok (.ishl, 1) := by decide +kernel
theorem d24_31 : decode jdk_52_method_5_code 31 = .ok (.istore_n 1, 1) := by decide +kernel
theorem d24_32 : decode jdk_52_method_5_code 32 = .ok (.aload_n 0, 1) := by decide +kernel
theorem d24_33 : decode jdk_52_method_5_code 33 = .ok (.iload_n 1, 1) := by decide +kernel
theorem d24_34 : decode jdk_52_method_5_code 34 = .ok (.iinc 1 1, 3) := by decide +kernel
theorem d24_37 : decode jdk_52_method_5_code 37 = .ok (.baload, 1) := by decide +kernel
theorem d24_38 : decode jdk_52_method_5_code 38 = .ok (.sipush 255, 3) := by decide +kernel
theorem d24_41 : decode jdk_52_method_5_code 41 = .ok (.iand, 1) := by decide +kernel
theorem d24_42 : decode jdk_52_method_5_code 42 = .ok (.getstatic 59, 3) := by decide +kernel
theorem d24_45 : decode jdk_52_method_5_code 45 = .ok (.ishl, 1) := by decide +kernel
theorem d24_46 : decode jdk_52_method_5_code 46 = .ok (.aload_n 0, 1) := by decide +kernel
theorem d24_47 : decode jdk_52_method_5_code 47 = .ok (.iload_n 1, 1) := by decide +kernel
theorem d24_48 : decode jdk_52_method_5_code 48 = .ok (.baload, 1) := by decide +kernel
theorem d24_49 : decode jdk_52_method_5_code 49 = .ok (.sipush 255, 3) := by decide +kernel
theorem d24_52 : decode jdk_52_method_5_code 52 = .ok (.iand, 1) := by decide +kernel
theorem d24_53 : decode jdk_52_method_5_code 53 = .ok (.getstatic 63, 3) := by decide +kernel
theorem d24_56 : decode jdk_52_method_5_code 56 = .ok (.ishl, 1) := by decide +kernel
theorem d24_57 : decode jdk_52_method_5_code 57 = .ok (.ior, 1) := by decide +kernel
theorem d24_58 : decode jdk_52_method_5_code 58 = .ok (.i2c, 1) := by decide +kernel
theorem d24_59 : decode jdk_52_method_5_code 59 = .ok (.ireturn, 1) := by decide +kernel
def Q_getCh_0_1 (Z : State) (t : Nat) (kb : ClassId) (c0 : Int32) (h0 : Heap) (n0 : Nat) (vR : Option Value) (hR : Heap) (LR : List Loc) : Prop := vR = some (.int c0) ∧ Fr n0 LR ∧ hR = h0
theorem getCh_0_1 (l : Launch) (Z : State) (a0 : Array Value) (hw : ∀ d ∈ tables_1, d.before a0 Z = true) (ws : List Jvm.Cond) (t : Nat) (kb : ClassId) (c0 : Int32) (h0 : Heap) (n0 : Nat) (Z0 : n0 ≤ h0.size) (V_t : Arv Z h0 t kb .byte (2 : Int32) [(.int ((c0 >>> ((0 : Int32) &&& 31)).toInt8.toInt32)), (.int ((c0 >>> ((8 : Int32) &&& 31)).toInt8.toInt32))] (.int 0)) (S_AD : Sta Z h0 "java/lang/StringUTF16" "$assertionsDisabled" "Z" (.int 1)) (S_HI : Sta Z h0 "java/lang/StringUTF16" "HI_BYTE_SHIFT" "I" (.int 0)) (S_LO : Sta Z h0 "java/lang/StringUTF16" "LO_BYTE_SHIFT" "I" (.int 8)) (h0_c0 : ¬ (c0 < (0 : Int32))) (h1_c0 : ¬ ((65535 : Int32) < c0)) :
    oc2 l (⟨"java/lang/StringUTF16", "getChar", "([BI)C"⟩ : MethodName) jdk_52_method_5_code 2 (some .char) ws ({ frames := 0, cells := 0, slots := 0, locals := 0 } : Room) Z #[(.ref t), (.int 0)] h0 (Q_getCh_0_1 Z t kb c0 h0 n0) := by
  refine ob3 (own := "java/lang/StringUTF16") rfl (plainFor_of_name pn_24) (fun m => ef_getCh_0_1 m t (0 : Int32)) ?_
  intro p e s m below meth c s₁ Bd hml hZ hh hx hby hown X0 e0
  have N0 := Fr.nil n0
  have lt1 : h0.size > t := V_t.lt
  refine oc3 X0 hx hZ hown (host := "") (Or.inl (oa0 hw 106 rfl)) Via.refl e0 S_AD hby d24_0 ?_
  intro T2 X2 e2
  refine ob1 X2.here hx hby (pc' := 28) d24_3 ((if0 _ _).trans (feq (show ¬ ((1 : Int32) = (0 : Int32)) from (by decide))).2) (by decide) (by decide) ?_
  refine oa X2.here hx hby d24_28 rfl ?_
  refine oa4 X2.here hx hby d24_29 (v := (1 : Int32)) (by decide) ?_
  refine oe1 X2.here hx hby d24_30 (v := (0 : Int32)) (by decide) ?_
  refine oa6 X2.here hx hby d24_31 (l' := #[.val (.ref t), .val (.int 0)]) rfl ?_
  refine oa2 X2.here hx hby d24_32 rfl rfl ?_
  refine oa X2.here hx hby d24_33 rfl ?_
  refine od2 X2.here hx hby d24_34 rfl (v := (1 : Int32)) (by decide) (l' := #[.val (.ref t), .val (.int 1)]) rfl ?_
  refine oe7 X2 hx hZ e2 V_t ⟨by decide, by decide⟩ (v := (.int ((c0 >>> ((0 : Int32) &&& 31)).toInt8.toInt32))) rfl hby d24_37 ?_
  refine od0 X2.here hx hby d24_38 (v := (255 : Int32)) (by decide) ?_
  refine oe9 X2.here hx hby d24_41 rfl ?_
  refine oc3 X2 hx hZ hown (host := "") (Or.inl (oa0 hw 107 rfl)) Via.refl e2 S_HI hby d24_42 ?_
  intro T3 X3 e3
  refine oe1 X3.here hx hby d24_45 rfl ?_
  refine oa2 X3.here hx hby d24_46 rfl rfl ?_
  refine oa X3.here hx hby d24_47 rfl ?_
  refine oe7 X3 hx hZ e3 V_t ⟨by decide, by decide⟩ (v := (.int ((c0 >>> ((8 : Int32) &&& 31)).toInt8.toInt32))) rfl hby d24_48 ?_
  refine od0 X3.here hx hby d24_49 (v := (255 : Int32)) (by decide) ?_
  refine oe9 X3.here hx hby d24_52 rfl ?_
  refine oc3 X3 hx hZ hown (host := "") (Or.inl (oa0 hw 108 rfl)) Via.refl e3 S_LO hby d24_53 ?_
  intro T4 X4 e4
  refine oe1 X4.here hx hby d24_56 rfl ?_
  refine own_ior X4.here hx hby d24_57 rfl ?_
  refine own_i2c X4.here hx hby d24_58 rfl ?_
  refine oa9 X4 Bd.notSynchronized (v := some (.int (nar .char ((((((c0 >>> ((0 : Int32) &&& 31)).toInt8.toInt32) &&& (255 : Int32)) <<< ((0 : Int32) &&& 31)) ||| ((((c0 >>> ((8 : Int32) &&& 31)).toInt8.toInt32) &&& (255 : Int32)) <<< ((8 : Int32) &&& 31))).toUInt32.toUInt16.toUInt32.toInt32)))) (ob4 Bd.returns) (fun _ hr => retN X4 hx (t := .char) Bd.returns (by simp) (hb hby d24_59) hr) e4 (by decide) (by decide) ?_
  exact ⟨(od (own_gc c0 h0_c0 h1_c0)), N0, rfl⟩
theorem ef_cpU4_0_1_S (m : MethodId) (x0 : Nat) (x1 : Int32) (x2 : Int32) (x3 : Int32) : entryFrame m #[(.ref x0), (.int x1), (.int x2), (.int x3)] 6 = mkF m 0 #[.val (.ref x0), .val (.int x1), .val (.int x2), .val (.int x3), .unset, .unset] [] := by first | (simp [entryFrame, mkF, argsToLocals, Value.category]; done) | rfl
theorem pn_26 : plainName "java/lang/StringUTF16" = true := by first | (simp [plainName, overriddenIn]; done) | decide +kernel
theorem d26_0 : decode jdk_52_method_7_code 0 = .ok (.getstatic 44, 3) := by decide +kernel
theorem d26_3 : decode jdk_52_method_7_code 3 = .ok (.ifCond .ne 16, 3) := by decide +kernel
theorem d26_19 : decode jdk_52_method_7_code 19 = .ok (.iload_n 3, 1) := by decide +kernel
theorem d26_20 : decode jdk_52_method_7_code 20 = .ok (.ifCond .eq 8, 3) := by decide +kernel
theorem d26_28 : decode jdk_52_method_7_code 28 = .ok (.aload_n 0, 1) := by decide +kernel
theorem d26_29 : decode jdk_52_method_7_code 29 = .ok (.iload_n 1, 1) := by decide +kernel
theorem d26_30 : decode jdk_52_method_7_code 30 = .ok (.invokestatic 71, 3) := by decide +kernel
theorem pd_7 : parseMethodDescriptor "([BI)C" = some ⟨[(.array .byte), .int], some .char⟩ := by decide +kernel
theorem d26_33 : decode jdk_52_method_7_code 33 = .ok (.istore 4, 2) := by decide +kernel
theorem d26_35 : decode jdk_52_method_7_code 35 = .ok (.iload 4, 2) := by decide +kernel
theorem d26_37 : decode jdk_52_method_7_code 37 = .ok (.invokestatic 75, 3) := by decide +kernel
theorem d26_40 : decode jdk_52_method_7_code 40 = .ok (.ifCond .eq 43, 3) := by decide +kernel
theorem d26_83 : decode jdk_52_method_7_code 83 = .ok (.iload 4, 2) := by decide +kernel
theorem d26_85 : decode jdk_52_method_7_code 85 = .ok (.ireturn, 1) := by decide +kernel
theorem d26_43 : decode jdk_52_method_7_code 43 = .ok (.iinc 1 1, 3) := by decide +kernel
theorem d26_46 : decode jdk_52_method_7_code 46 = .ok (.iload_n 1, 1) := by decide +kernel
theorem d26_47 : decode jdk_52_method_7_code 47 = .ok (.iload_n 2, 1) := by decide +kernel
theorem d26_48 : decode jdk_52_method_7_code 48 = .ok (.if_icmp .ge 35, 3) := by decide +kernel
def Q_cpU4_0_1_S (Z : State) (t : Nat) (kb : ClassId) (c0 : Int32) (h0 : Heap) (n0 : Nat) (vR : Option Value) (hR : Heap) (LR : List Loc) : Prop := vR = some (.int c0) ∧ Fr n0 LR ∧ hR = h0
theorem cpU4_0_1_S (l : Launch) (Z : State) (a0 : Array Value) (hw : ∀ d ∈ tables_1, d.before a0 Z = true) (ws : List Jvm.Cond) (t : Nat) (kb : ClassId) (c0 : Int32) (h0 : Heap) (n0 : Nat) (Z0 : n0 ≤ h0.size) (V_t : Arv Z h0 t kb .byte (2 : Int32) [(.int ((c0 >>> ((0 : Int32) &&& 31)).toInt8.toInt32)), (.int ((c0 >>> ((8 : Int32) &&& 31)).toInt8.toInt32))] (.int 0)) (S_AD : Sta Z h0 "java/lang/StringUTF16" "$assertionsDisabled" "Z" (.int 1)) (S_HI : Sta Z h0 "java/lang/StringUTF16" "HI_BYTE_SHIFT" "I" (.int 0)) (S_LO : Sta Z h0 "java/lang/StringUTF16" "LO_BYTE_SHIFT" "I" (.int 8)) (h0_c0 : ¬ (c0 < (0 : Int32))) (h1_c0 : ¬ ((65535 : Int32) < c0)) :
    oc2 l (⟨"java/lang/StringUTF16", "codePointAt", "([BIIZ)I"⟩ : MethodName) jdk_52_method_7_code 6 (some .int) ws ({ frames := 1, cells := 0, slots := 0, locals := 13 } : Room) Z #[(.ref t), (.int 0), (.int 1), (.int 0)] h0 (Q_cpU4_0_1_S Z t kb c0 h0 n0) := by
  refine ob3 (own := "java/lang/StringUTF16") rfl (plainFor_of_name pn_26) (fun m => ef_cpU4_0_1_S m t (0 : Int32) (1 : Int32) (0 : Int32)) ?_
  intro p e s m below meth c s₁ Bd hml hZ hh hx hby hown X0 e0
  have N0 := Fr.nil n0
  have lt1 : h0.size > t := V_t.lt
  refine oc3 X0 hx hZ hown (host := "") (Or.inl (oa0 hw 106 rfl)) Via.refl e0 S_AD hby d26_0 ?_
  intro T2 X2 e2
  refine ob1 X2.here hx hby (pc' := 19) d26_3 ((if0 _ _).trans (feq (show ¬ ((1 : Int32) = (0 : Int32)) from (by decide))).2) (by decide) (by decide) ?_
  refine oa X2.here hx hby d26_19 rfl ?_
  refine ob1 X2.here hx hby (pc' := 28) d26_20 ((if0 _ _).trans (teq (show (0 : Int32) = (0 : Int32) from (by decide))).1) (by decide) (by decide) ?_
  refine oa2 X2.here hx hby d26_28 rfl rfl ?_
  refine oa X2.here hx hby d26_29 rfl ?_
  refine oa3 X2 hx hZ hown (oa0 hw 109 rfl) (oa0 hw 110 rfl) (oa0 hw 22 rfl) (oa0 hw 111 rfl) (by decide) (getCh_0_1 l Z a0 hw [] t kb c0 h0 n0 Z0 V_t S_AD S_HI S_LO h0_c0 h1_c0) 0 hml rfl (argsL := [(.ref t), (.int 0)]) (st := []) (lenOf pd_7 rfl) rfl rfl e2 hby d26_30 ?_
  intro T3 v3 L3 X3 hQ3
  obtain ⟨rfl, Nq3, eh3⟩ := hQ3
  have N3 := Fr.app N0 Nq3
  refine oa5 (T := T3) 33 #[.val (.ref t), .val (.int 0), .val (.int 1), .val (.int 0), .unset, .unset] [(.int c0)] ?_
  refine ob8 X3.here hx hby d26_33 (l' := #[.val (.ref t), .val (.int 0), .val (.int 1), .val (.int 0), .val (.int c0), .unset]) rfl ?_
  refine oa8 X3.here hx hby d26_35 rfl ?_
  refine oa3 X3 hx hZ hown (oa0 hw 118 rfl) (oa0 hw 119 rfl) (oa0 hw 86 rfl) (oa0 hw 120 rfl) (by decide) (isHighS l Z a0 hw [] c0 h0 n0 Z0 ) 0 hml rfl (argsL := [(.int c0)]) (st := []) (lenOf pd_1 rfl) rfl rfl eh3 hby d26_37 ?_
  intro T4 v4 L4 X4 hQ4
  obtain ⟨rfl, Nq4, eh4⟩ := hQ4
  have N4 := Fr.app N3 Nq4
  refine oa5 (T := T4) 40 #[.val (.ref t), .val (.int 0), .val (.int 1), .val (.int 0), .val (.int c0), .unset] [(.int (oc9 c0))] ?_
  by_cases hc40_5 : (oc9 c0) = (0 : Int32)
  · refine ob1 X4.here hx hby (pc' := 83) d26_40 ((if0 _ _).trans (teq hc40_5).1) (by decide) (by decide) ?_
    refine oa8 X4.here hx hby d26_83 rfl ?_
    refine oa9 X4 Bd.notSynchronized (v := some (.int c0)) (ob4 Bd.returns) (fun _ hr => retOut X4 hx Bd.returns rfl (Or.inl ⟨rfl, Or.inl rfl, _, rfl⟩) (hb hby d26_85) hr) eh4 (by decide) (by decide) ?_
    exact ⟨rfl, N4, rfl⟩
  · refine ob7 X4.here hx hby d26_40 ((if0 _ _).trans (feq hc40_5).1) ?_
    refine od2 X4.here hx hby d26_43 rfl (v := (1 : Int32)) (by decide) (l' := #[.val (.ref t), .val (.int 1), .val (.int 1), .val (.int 0), .val (.int c0), .unset]) rfl ?_
    refine oa X4.here hx hby d26_46 rfl ?_
    refine oa X4.here hx hby d26_47 rfl ?_
    refine ob2 X4.here hx hby (pc' := 83) d26_48 (flt (show ¬ ((1 : Int32) < (1 : Int32)) from (by decide))).2.1 (by decide) (by decide) ?_
    refine oa8 X4.here hx hby d26_83 rfl ?_
    refine oa9 X4 Bd.notSynchronized (v := some (.int c0)) (ob4 Bd.returns) (fun _ hr => retOut X4 hx Bd.returns rfl (Or.inl ⟨rfl, Or.inl rfl, _, rfl⟩) (hb hby d26_85) hr) eh4 (by decide) (by decide) ?_
    exact ⟨rfl, N4, rfl⟩
theorem ef_cpU3_0_1_S (m : MethodId) (x0 : Nat) (x1 : Int32) (x2 : Int32) : entryFrame m #[(.ref x0), (.int x1), (.int x2)] 3 = mkF m 0 #[.val (.ref x0), .val (.int x1), .val (.int x2)] [] := by first | (simp [entryFrame, mkF, argsToLocals, Value.category]; done) | rfl
theorem pn_25 : plainName "java/lang/StringUTF16" = true := by first | (simp [plainName, overriddenIn]; done) | decide +kernel
theorem d25_0 : decode jdk_52_method_8_code 0 = .ok (.aload_n 0, 1) := by decide +kernel
theorem d25_1 : decode jdk_52_method_8_code 1 = .ok (.iload_n 1, 1) := by decide +kernel
theorem d25_2 : decode jdk_52_method_8_code 2 = .ok (.iload_n 2, 1) := by decide +kernel
theorem d25_3 : decode jdk_52_method_8_code 3 = .ok (.iconst 0, 1) := by decide +kernel
theorem d25_4 : decode jdk_52_method_8_code 4 = .ok (.invokestatic 88, 3) := by decide +kernel
theorem pd_8 : parseMethodDescriptor "([BIIZ)I" = some ⟨[(.array .byte), .int, .int, .boolean], some .int⟩ := by decide +kernel
theorem d25_7 : decode jdk_52_method_8_code 7 = .ok (.ireturn, 1) := by decide +kernel
def Q_cpU3_0_1_S (Z : State) (t : Nat) (kb : ClassId) (c0 : Int32) (h0 : Heap) (n0 : Nat) (vR : Option Value) (hR : Heap) (LR : List Loc) : Prop := vR = some (.int c0) ∧ Fr n0 LR ∧ hR = h0
theorem cpU3_0_1_S (l : Launch) (Z : State) (a0 : Array Value) (hw : ∀ d ∈ tables_1, d.before a0 Z = true) (ws : List Jvm.Cond) (t : Nat) (kb : ClassId) (c0 : Int32) (h0 : Heap) (n0 : Nat) (Z0 : n0 ≤ h0.size) (V_t : Arv Z h0 t kb .byte (2 : Int32) [(.int ((c0 >>> ((0 : Int32) &&& 31)).toInt8.toInt32)), (.int ((c0 >>> ((8 : Int32) &&& 31)).toInt8.toInt32))] (.int 0)) (S_AD : Sta Z h0 "java/lang/StringUTF16" "$assertionsDisabled" "Z" (.int 1)) (S_HI : Sta Z h0 "java/lang/StringUTF16" "HI_BYTE_SHIFT" "I" (.int 0)) (S_LO : Sta Z h0 "java/lang/StringUTF16" "LO_BYTE_SHIFT" "I" (.int 8)) (h0_c0 : ¬ (c0 < (0 : Int32))) (h1_c0 : ¬ ((65535 : Int32) < c0)) :
    oc2 l (⟨"java/lang/StringUTF16", "codePointAt", "([BII)I"⟩ : MethodName) jdk_52_method_8_code 3 (some .int) ws ({ frames := 2, cells := 0, slots := 0, locals := 30 } : Room) Z #[(.ref t), (.int 0), (.int 1)] h0 (Q_cpU3_0_1_S Z t kb c0 h0 n0) := by
  refine ob3 (own := "java/lang/StringUTF16") rfl (plainFor_of_name pn_25) (fun m => ef_cpU3_0_1_S m t (0 : Int32) (1 : Int32)) ?_
  intro p e s m below meth c s₁ Bd hml hZ hh hx hby hown X0 e0
  have N0 := Fr.nil n0
  have lt1 : h0.size > t := V_t.lt
  refine oa2 X0.here hx hby d25_0 rfl rfl ?_
  refine oa X0.here hx hby d25_1 rfl ?_
  refine oa X0.here hx hby d25_2 rfl ?_
  refine oa4 X0.here hx hby d25_3 (v := (0 : Int32)) (by decide) ?_
  refine oa3 X0 hx hZ hown (oa0 hw 115 rfl) (oa0 hw 116 rfl) (oa0 hw 22 rfl) (oa0 hw 117 rfl) (by decide) (cpU4_0_1_S l Z a0 hw [] t kb c0 h0 n0 Z0 V_t S_AD S_HI S_LO h0_c0 h1_c0) 0 hml rfl (argsL := [(.ref t), (.int 0), (.int 1), (.int 0)]) (st := []) (lenOf pd_8 rfl) rfl rfl e0 hby d25_4 ?_
  intro T2 v2 L2 X2 hQ2
  obtain ⟨rfl, Nq2, eh2⟩ := hQ2
  have N2 := Fr.app N0 Nq2
  refine oa5 (T := T2) 7 #[.val (.ref t), .val (.int 0), .val (.int 1)] [(.int c0)] ?_
  refine oa9 X2 Bd.notSynchronized (v := some (.int c0)) (ob4 Bd.returns) (fun _ hr => retOut X2 hx Bd.returns rfl (Or.inl ⟨rfl, Or.inl rfl, _, rfl⟩) (hb hby d25_7) hr) eh2 (by decide) (by decide) ?_
  exact ⟨rfl, N2, rfl⟩
theorem d11_27 : decode jdk_42_method_57_code 27 = .ok (.aload_n 0, 1) := by decide +kernel
theorem d11_28 : decode jdk_42_method_57_code 28 = .ok (.getfield 9, 3) := by decide +kernel
theorem d11_31 : decode jdk_42_method_57_code 31 = .ok (.arraylength, 1) := by decide +kernel
theorem d11_32 : decode jdk_42_method_57_code 32 = .ok (.iconst 1, 1) := by decide +kernel
theorem d11_33 : decode jdk_42_method_57_code 33 = .ok (.ishr, 1) := by decide +kernel
theorem d11_34 : decode jdk_42_method_57_code 34 = .ok (.istore_n 2, 1) := by decide +kernel
theorem d11_35 : decode jdk_42_method_57_code 35 = .ok (.iload_n 1, 1) := by decide +kernel
theorem d11_36 : decode jdk_42_method_57_code 36 = .ok (.iload_n 2, 1) := by decide +kernel
theorem d11_37 : decode jdk_42_method_57_code 37 = .ok (.invokestatic 499, 3) := by decide +kernel
theorem d11_40 : decode jdk_42_method_57_code 40 = .ok (.aload_n 0, 1) := by decide +kernel
theorem d11_41 : decode jdk_42_method_57_code 41 = .ok (.getfield 9, 3) := by decide +kernel
theorem d11_44 : decode jdk_42_method_57_code 44 = .ok (.iload_n 1, 1) := by decide +kernel
theorem d11_45 : decode jdk_42_method_57_code 45 = .ok (.iload_n 2, 1) := by decide +kernel
theorem d11_46 : decode jdk_42_method_57_code 46 = .ok (.invokestatic 502, 3) := by decide +kernel
theorem pd_9 : parseMethodDescriptor "([BII)I" = some ⟨[(.array .byte), .int, .int], some .int⟩ := by decide +kernel
theorem d11_49 : decode jdk_42_method_57_code 49 = .ok (.ireturn, 1) := by decide +kernel
def Q_cpU_0_1_S (Z : State) (x : Nat) (t : Nat) (kb : ClassId) (zc : Int32) (fm : Value) (c0 : Int32) (h0 : Heap) (n0 : Nat) (vR : Option Value) (hR : Heap) (LR : List Loc) : Prop := vR = some (.int c0) ∧ Fr n0 LR ∧ hR = h0
theorem cpU_0_1_S (l : Launch) (Z : State) (a0 : Array Value) (hw : ∀ d ∈ tables_1, d.before a0 Z = true) (ws : List Jvm.Cond) (x : Nat) (t : Nat) (kb : ClassId) (zc : Int32) (fm : Value) (c0 : Int32) (h0 : Heap) (n0 : Nat) (Z0 : n0 ≤ h0.size) (E_x : Exa Z h0 x "java/lang/String") (Fc_x : Fld Z h0 x "java/lang/String" "coder" "B" (.int 1)) (Fv_x : Fld Z h0 x "java/lang/String" "value" "[B" (.ref t)) (V_t : Arv Z h0 t kb .byte (2 : Int32) [(.int ((c0 >>> ((0 : Int32) &&& 31)).toInt8.toInt32)), (.int ((c0 >>> ((8 : Int32) &&& 31)).toInt8.toInt32))] (.int 0)) (S_C : Sta Z h0 "java/lang/String" "COMPACT_STRINGS" "Z" (.int zc)) (hz : ¬ (zc = (0 : Int32))) (S_FM : Sta Z h0 "jdk/internal/util/Preconditions" "SIOOBE_FORMATTER" "Ljava/util/function/BiFunction;" fm) (hfm : fm.isRef = true) (S_AD : Sta Z h0 "java/lang/StringUTF16" "$assertionsDisabled" "Z" (.int 1)) (S_HI : Sta Z h0 "java/lang/StringUTF16" "HI_BYTE_SHIFT" "I" (.int 0)) (S_LO : Sta Z h0 "java/lang/StringUTF16" "LO_BYTE_SHIFT" "I" (.int 8)) (h0_c0 : ¬ (c0 < (0 : Int32))) (h1_c0 : ¬ ((65535 : Int32) < c0)) :
    oc2 l (⟨"java/lang/String", "codePointAt", "(I)I"⟩ : MethodName) jdk_42_method_57_code 3 (some .int) ws ({ frames := 3, cells := 0, slots := 0, locals := 44 } : Room) Z #[(.ref x), (.int 0)] h0 (Q_cpU_0_1_S Z x t kb zc fm c0 h0 n0) := by
  refine ob3 (own := "java/lang/String") rfl (plainFor_of_name pn_11) (fun m => ef_cpL_0_1 m x (0 : Int32)) ?_
  intro p e s m below meth c s₁ Bd hml hZ hh hx hby hown X0 e0
  have N0 := Fr.nil n0
  have lt1 : h0.size > x := E_x.lt
  have lt2 : h0.size > t := V_t.lt
  refine oa2 X0.here hx hby d11_0 rfl rfl ?_
  refine ob6 X0 hx hZ hown (oa0 hw 54 rfl) (oa0 hw 55 rfl) (notFace_of_selects (args := #[]) (mvT hZ (oa0 hw 57 rfl))) (oa0 hw 57 rfl) (oa0 hw 56 rfl) (oa0 hw 8 rfl) (oa0 hw 58 rfl) (by decide) (isLatU l Z a0 hw [] x zc h0 n0 Z0 Fc_x S_C hz) 0 hml rfl (argsL := []) (st := []) E_x (lenOf pd_4 rfl) rfl rfl e0 hby d11_1 ?_
  intro T3 v3 L3 X3 hQ3
  obtain ⟨rfl, Nq3, eh3⟩ := hQ3
  have N3 := Fr.app N0 Nq3
  refine oa5 (T := T3) 4 #[.val (.ref x), .val (.int 0), .unset] [(.int 0)] ?_
  refine ob1 X3.here hx hby (pc' := 27) d11_4 ((if0 _ _).trans (teq (show (0 : Int32) = (0 : Int32) from (by decide))).1) (by decide) (by decide) ?_
  refine oa2 X3.here hx hby d11_27 rfl rfl ?_
  refine od3 X3 hx hZ hown (host := "") (Or.inl (oa0 hw 33 rfl)) Via.refl eh3 Fv_x hby d11_28 ?_
  intro T4 X4 e4
  refine oe X4 hx hZ e4 V_t hby d11_31 ?_
  refine oa4 X4.here hx hby d11_32 (v := (1 : Int32)) (by decide) ?_
  refine oe2 X4.here hx hby d11_33 (v := (1 : Int32)) (by decide) ?_
  refine oa6 X4.here hx hby d11_34 (l' := #[.val (.ref x), .val (.int 0), .val (.int 1)]) rfl ?_
  refine oa X4.here hx hby d11_35 rfl ?_
  refine oa X4.here hx hby d11_36 rfl ?_
  refine oa3 X4 hx hZ hown (oa0 hw 59 rfl) (oa0 hw 60 rfl) (oa0 hw 8 rfl) (oa0 hw 61 rfl) (by decide) (strChk_0_1 l Z a0 hw [] fm h0 n0 Z0 S_FM hfm) 0 hml rfl (argsL := [(.int 0), (.int 1)]) (st := []) (lenOf pd_5 rfl) rfl rfl e4 hby d11_37 ?_
  intro T5 v5 L5 X5 hQ5
  obtain ⟨rfl, Nq5, eh5⟩ := hQ5
  have N5 := Fr.app N3 Nq5
  refine oa5 (T := T5) 40 #[.val (.ref x), .val (.int 0), .val (.int 1)] [] ?_
  refine oa2 X5.here hx hby d11_40 rfl rfl ?_
  refine od3 X5 hx hZ hown (host := "") (Or.inl (oa0 hw 33 rfl)) Via.refl eh5 Fv_x hby d11_41 ?_
  intro T6 X6 e6
  refine oa X6.here hx hby d11_44 rfl ?_
  refine oa X6.here hx hby d11_45 rfl ?_
  refine oa3 X6 hx hZ hown (oa0 hw 112 rfl) (oa0 hw 113 rfl) (oa0 hw 22 rfl) (oa0 hw 114 rfl) (by decide) (cpU3_0_1_S l Z a0 hw [] t kb c0 h0 n0 Z0 V_t S_AD S_HI S_LO h0_c0 h1_c0) 0 hml rfl (argsL := [(.ref t), (.int 0), (.int 1)]) (st := []) (lenOf pd_9 rfl) rfl rfl e6 hby d11_46 ?_
  intro T7 v7 L7 X7 hQ7
  obtain ⟨rfl, Nq7, eh7⟩ := hQ7
  have N7 := Fr.app N5 Nq7
  refine oa5 (T := T7) 49 #[.val (.ref x), .val (.int 0), .val (.int 1)] [(.int c0)] ?_
  refine oa9 X7 Bd.notSynchronized (v := some (.int c0)) (ob4 Bd.returns) (fun _ hr => retOut X7 hx Bd.returns rfl (Or.inl ⟨rfl, Or.inl rfl, _, rfl⟩) (hb hby d11_49) hr) eh7 (by decide) (by decide) ?_
  exact ⟨rfl, N7, rfl⟩
def Q_getCh_0_2 (Z : State) (t : Nat) (kb : ClassId) (c0 : Int32) (c1 : Int32) (h0 : Heap) (n0 : Nat) (vR : Option Value) (hR : Heap) (LR : List Loc) : Prop := vR = some (.int c0) ∧ Fr n0 LR ∧ hR = h0
theorem getCh_0_2 (l : Launch) (Z : State) (a0 : Array Value) (hw : ∀ d ∈ tables_1, d.before a0 Z = true) (ws : List Jvm.Cond) (t : Nat) (kb : ClassId) (c0 : Int32) (c1 : Int32) (h0 : Heap) (n0 : Nat) (Z0 : n0 ≤ h0.size) (V_t : Arv Z h0 t kb .byte (4 : Int32) [(.int ((c0 >>> ((0 : Int32) &&& 31)).toInt8.toInt32)), (.int ((c0 >>> ((8 : Int32) &&& 31)).toInt8.toInt32)), (.int ((c1 >>> ((0 : Int32) &&& 31)).toInt8.toInt32)), (.int ((c1 >>> ((8 : Int32) &&& 31)).toInt8.toInt32))] (.int 0)) (S_AD : Sta Z h0 "java/lang/StringUTF16" "$assertionsDisabled" "Z" (.int 1)) (S_HI : Sta Z h0 "java/lang/StringUTF16" "HI_BYTE_SHIFT" "I" (.int 0)) (S_LO : Sta Z h0 "java/lang/StringUTF16" "LO_BYTE_SHIFT" "I" (.int 8)) (h0_c0 : ¬ (c0 < (0 : Int32))) (h1_c0 : ¬ ((65535 : Int32) < c0)) :
    oc2 l (⟨"java/lang/StringUTF16", "getChar", "([BI)C"⟩ : MethodName) jdk_52_method_5_code 2 (some .char) ws ({ frames := 0, cells := 0, slots := 0, locals := 0 } : Room) Z #[(.ref t), (.int 0)] h0 (Q_getCh_0_2 Z t kb c0 c1 h0 n0) := by
  refine ob3 (own := "java/lang/StringUTF16") rfl (plainFor_of_name pn_24) (fun m => ef_getCh_0_1 m t (0 : Int32)) ?_
  intro p e s m below meth c s₁ Bd hml hZ hh hx hby hown X0 e0
  have N0 := Fr.nil n0
  have lt2 : h0.size > t := V_t.lt
  refine oc3 X0 hx hZ hown (host := "") (Or.inl (oa0 hw 106 rfl)) Via.refl e0 S_AD hby d24_0 ?_
  intro T3 X3 e3
  refine ob1 X3.here hx hby (pc' := 28) d24_3 ((if0 _ _).trans (feq (show ¬ ((1 : Int32) = (0 : Int32)) from (by decide))).2) (by decide) (by decide) ?_
  refine oa X3.here hx hby d24_28 rfl ?_
  refine oa4 X3.here hx hby d24_29 (v := (1 : Int32)) (by decide) ?_
  refine oe1 X3.here hx hby d24_30 (v := (0 : Int32)) (by decide) ?_
  refine oa6 X3.here hx hby d24_31 (l' := #[.val (.ref t), .val (.int 0)]) rfl ?_
  refine oa2 X3.here hx hby d24_32 rfl rfl ?_
  refine oa X3.here hx hby d24_33 rfl ?_
  refine od2 X3.here hx hby d24_34 rfl (v := (1 : Int32)) (by decide) (l' := #[.val (.ref t), .val (.int 1)]) rfl ?_
  refine oe7 X3 hx hZ e3 V_t ⟨by decide, by decide⟩ (v := (.int ((c0 >>> ((0 : Int32) &&& 31)).toInt8.toInt32))) rfl hby d24_37 ?_
  refine od0 X3.here hx hby d24_38 (v := (255 : Int32)) (by decide) ?_
  refine oe9 X3.here hx hby d24_41 rfl ?_
  refine oc3 X3 hx hZ hown (host := "") (Or.inl (oa0 hw 107 rfl)) Via.refl e3 S_HI hby d24_42 ?_
  intro T4 X4 e4
  refine oe1 X4.here hx hby d24_45 rfl ?_
  refine oa2 X4.here hx hby d24_46 rfl rfl ?_
  refine oa X4.here hx hby d24_47 rfl ?_
  refine oe7 X4 hx hZ e4 V_t ⟨by decide, by decide⟩ (v := (.int ((c0 >>> ((8 : Int32) &&& 31)).toInt8.toInt32))) rfl hby d24_48 ?_
  refine od0 X4.here hx hby d24_49 (v := (255 : Int32)) (by decide) ?_
  refine oe9 X4.here hx hby d24_52 rfl ?_
  refine oc3 X4 hx hZ hown (host := "") (Or.inl (oa0 hw 108 rfl)) Via.refl e4 S_LO hby d24_53 ?_
  intro T5 X5 e5
  refine oe1 X5.here hx hby d24_56 rfl ?_
  refine own_ior X5.here hx hby d24_57 rfl ?_
  refine own_i2c X5.here hx hby d24_58 rfl ?_
  refine oa9 X5 Bd.notSynchronized (v := some (.int (nar .char ((((((c0 >>> ((0 : Int32) &&& 31)).toInt8.toInt32) &&& (255 : Int32)) <<< ((0 : Int32) &&& 31)) ||| ((((c0 >>> ((8 : Int32) &&& 31)).toInt8.toInt32) &&& (255 : Int32)) <<< ((8 : Int32) &&& 31))).toUInt32.toUInt16.toUInt32.toInt32)))) (ob4 Bd.returns) (fun _ hr => retN X5 hx (t := .char) Bd.returns (by simp) (hb hby d24_59) hr) e5 (by decide) (by decide) ?_
  exact ⟨(od (own_gc c0 h0_c0 h1_c0)), N0, rfl⟩
def Q_getCh_1_2 (Z : State) (t : Nat) (kb : ClassId) (c0 : Int32) (c1 : Int32) (h0 : Heap) (n0 : Nat) (vR : Option Value) (hR : Heap) (LR : List Loc) : Prop := vR = some (.int c1) ∧ Fr n0 LR ∧ hR = h0
theorem getCh_1_2 (l : Launch) (Z : State) (a0 : Array Value) (hw : ∀ d ∈ tables_1, d.before a0 Z = true) (ws : List Jvm.Cond) (t : Nat) (kb : ClassId) (c0 : Int32) (c1 : Int32) (h0 : Heap) (n0 : Nat) (Z0 : n0 ≤ h0.size) (V_t : Arv Z h0 t kb .byte (4 : Int32) [(.int ((c0 >>> ((0 : Int32) &&& 31)).toInt8.toInt32)), (.int ((c0 >>> ((8 : Int32) &&& 31)).toInt8.toInt32)), (.int ((c1 >>> ((0 : Int32) &&& 31)).toInt8.toInt32)), (.int ((c1 >>> ((8 : Int32) &&& 31)).toInt8.toInt32))] (.int 0)) (S_AD : Sta Z h0 "java/lang/StringUTF16" "$assertionsDisabled" "Z" (.int 1)) (S_HI : Sta Z h0 "java/lang/StringUTF16" "HI_BYTE_SHIFT" "I" (.int 0)) (S_LO : Sta Z h0 "java/lang/StringUTF16" "LO_BYTE_SHIFT" "I" (.int 8)) (h0_c1 : ¬ (c1 < (0 : Int32))) (h1_c1 : ¬ ((65535 : Int32) < c1)) :
    oc2 l (⟨"java/lang/StringUTF16", "getChar", "([BI)C"⟩ : MethodName) jdk_52_method_5_code 2 (some .char) ws ({ frames := 0, cells := 0, slots := 0, locals := 0 } : Room) Z #[(.ref t), (.int 1)] h0 (Q_getCh_1_2 Z t kb c0 c1 h0 n0) := by
  refine ob3 (own := "java/lang/StringUTF16") rfl (plainFor_of_name pn_24) (fun m => ef_getCh_0_1 m t (1 : Int32)) ?_
  intro p e s m below meth c s₁ Bd hml hZ hh hx hby hown X0 e0
  have N0 := Fr.nil n0
  have lt2 : h0.size > t := V_t.lt
  refine oc3 X0 hx hZ hown (host := "") (Or.inl (oa0 hw 106 rfl)) Via.refl e0 S_AD hby d24_0 ?_
  intro T3 X3 e3
  refine ob1 X3.here hx hby (pc' := 28) d24_3 ((if0 _ _).trans (feq (show ¬ ((1 : Int32) = (0 : Int32)) from (by decide))).2) (by decide) (by decide) ?_
  refine oa X3.here hx hby d24_28 rfl ?_
  refine oa4 X3.here hx hby d24_29 (v := (1 : Int32)) (by decide) ?_
  refine oe1 X3.here hx hby d24_30 (v := (2 : Int32)) (by decide) ?_
  refine oa6 X3.here hx hby d24_31 (l' := #[.val (.ref t), .val (.int 2)]) rfl ?_
  refine oa2 X3.here hx hby d24_32 rfl rfl ?_
  refine oa X3.here hx hby d24_33 rfl ?_
  refine od2 X3.here hx hby d24_34 rfl (v := (3 : Int32)) (by decide) (l' := #[.val (.ref t), .val (.int 3)]) rfl ?_
  refine oe7 X3 hx hZ e3 V_t ⟨by decide, by decide⟩ (v := (.int ((c1 >>> ((0 : Int32) &&& 31)).toInt8.toInt32))) rfl hby d24_37 ?_
  refine od0 X3.here hx hby d24_38 (v := (255 : Int32)) (by decide) ?_
  refine oe9 X3.here hx hby d24_41 rfl ?_
  refine oc3 X3 hx hZ hown (host := "") (Or.inl (oa0 hw 107 rfl)) Via.refl e3 S_HI hby d24_42 ?_
  intro T4 X4 e4
  refine oe1 X4.here hx hby d24_45 rfl ?_
  refine oa2 X4.here hx hby d24_46 rfl rfl ?_
  refine oa X4.here hx hby d24_47 rfl ?_
  refine oe7 X4 hx hZ e4 V_t ⟨by decide, by decide⟩ (v := (.int ((c1 >>> ((8 : Int32) &&& 31)).toInt8.toInt32))) rfl hby d24_48 ?_
  refine od0 X4.here hx hby d24_49 (v := (255 : Int32)) (by decide) ?_
  refine oe9 X4.here hx hby d24_52 rfl ?_
  refine oc3 X4 hx hZ hown (host := "") (Or.inl (oa0 hw 108 rfl)) Via.refl e4 S_LO hby d24_53 ?_
  intro T5 X5 e5
  refine oe1 X5.here hx hby d24_56 rfl ?_
  refine own_ior X5.here hx hby d24_57 rfl ?_
  refine own_i2c X5.here hx hby d24_58 rfl ?_
  refine oa9 X5 Bd.notSynchronized (v := some (.int (nar .char ((((((c1 >>> ((0 : Int32) &&& 31)).toInt8.toInt32) &&& (255 : Int32)) <<< ((0 : Int32) &&& 31)) ||| ((((c1 >>> ((8 : Int32) &&& 31)).toInt8.toInt32) &&& (255 : Int32)) <<< ((8 : Int32) &&& 31))).toUInt32.toUInt16.toUInt32.toInt32)))) (ob4 Bd.returns) (fun _ hr => retN X5 hx (t := .char) Bd.returns (by simp) (hb hby d24_59) hr) e5 (by decide) (by decide) ?_
  exact ⟨(od (own_gc c1 h0_c1 h1_c1)), N0, rfl⟩
theorem d26_51 : decode jdk_52_method_7_code 51 = .ok (.iload_n 3, 1) := by decide +kernel
theorem d26_52 : decode jdk_52_method_7_code 52 = .ok (.ifCond .eq 8, 3) := by decide +kernel
theorem d26_60 : decode jdk_52_method_7_code 60 = .ok (.aload_n 0, 1) := by decide +kernel
theorem d26_61 : decode jdk_52_method_7_code 61 = .ok (.iload_n 1, 1) := by decide +kernel
theorem d26_62 : decode jdk_52_method_7_code 62 = .ok (.invokestatic 71, 3) := by decide +kernel
theorem d26_65 : decode jdk_52_method_7_code 65 = .ok (.istore 5, 2) := by decide +kernel
theorem d26_67 : decode jdk_52_method_7_code 67 = .ok (.iload 5, 2) := by decide +kernel
theorem d26_69 : decode jdk_52_method_7_code 69 = .ok (.invokestatic 81, 3) := by decide +kernel
theorem d26_72 : decode jdk_52_method_7_code 72 = .ok (.ifCond .eq 11, 3) := by decide +kernel
theorem d26_75 : decode jdk_52_method_7_code 75 = .ok (.iload 4, 2) := by decide +kernel
theorem d26_77 : decode jdk_52_method_7_code 77 = .ok (.iload 5, 2) := by decide +kernel
theorem d26_79 : decode jdk_52_method_7_code 79 = .ok (.invokestatic 84, 3) := by decide +kernel
theorem pd_10 : parseMethodDescriptor "(CC)I" = some ⟨[.char, .char], some .int⟩ := by decide +kernel
theorem d26_82 : decode jdk_52_method_7_code 82 = .ok (.ireturn, 1) := by decide +kernel
def Q_cpU4_0_2_P (Z : State) (t : Nat) (kb : ClassId) (c0 : Int32) (c1 : Int32) (h0 : Heap) (n0 : Nat) (vR : Option Value) (hR : Heap) (LR : List Loc) : Prop := vR = some (.int (oc5 c0 c1)) ∧ Fr n0 LR ∧ hR = h0
theorem cpU4_0_2_P (l : Launch) (Z : State) (a0 : Array Value) (hw : ∀ d ∈ tables_1, d.before a0 Z = true) (ws : List Jvm.Cond) (t : Nat) (kb : ClassId) (c0 : Int32) (c1 : Int32) (h0 : Heap) (n0 : Nat) (Z0 : n0 ≤ h0.size) (V_t : Arv Z h0 t kb .byte (4 : Int32) [(.int ((c0 >>> ((0 : Int32) &&& 31)).toInt8.toInt32)), (.int ((c0 >>> ((8 : Int32) &&& 31)).toInt8.toInt32)), (.int ((c1 >>> ((0 : Int32) &&& 31)).toInt8.toInt32)), (.int ((c1 >>> ((8 : Int32) &&& 31)).toInt8.toInt32))] (.int 0)) (S_AD : Sta Z h0 "java/lang/StringUTF16" "$assertionsDisabled" "Z" (.int 1)) (S_HI : Sta Z h0 "java/lang/StringUTF16" "HI_BYTE_SHIFT" "I" (.int 0)) (S_LO : Sta Z h0 "java/lang/StringUTF16" "LO_BYTE_SHIFT" "I" (.int 8)) (hp : od1 c0 c1 = true) (h0_c0 : ¬ (c0 < (0 : Int32))) (h1_c0 : ¬ ((65535 : Int32) < c0)) (h0_c1 : ¬ (c1 < (0 : Int32))) (h1_c1 : ¬ ((65535 : Int32) < c1)) :
    oc2 l (⟨"java/lang/StringUTF16", "codePointAt", "([BIIZ)I"⟩ : MethodName) jdk_52_method_7_code 6 (some .int) ws ({ frames := 1, cells := 0, slots := 0, locals := 13 } : Room) Z #[(.ref t), (.int 0), (.int 2), (.int 0)] h0 (Q_cpU4_0_2_P Z t kb c0 c1 h0 n0) := by
  refine ob3 (own := "java/lang/StringUTF16") rfl (plainFor_of_name pn_26) (fun m => ef_cpU4_0_1_S m t (0 : Int32) (2 : Int32) (0 : Int32)) ?_
  intro p e s m below meth c s₁ Bd hml hZ hh hx hby hown X0 e0
  have N0 := Fr.nil n0
  have lt2 : h0.size > t := V_t.lt
  refine oc3 X0 hx hZ hown (host := "") (Or.inl (oa0 hw 106 rfl)) Via.refl e0 S_AD hby d26_0 ?_
  intro T3 X3 e3
  refine ob1 X3.here hx hby (pc' := 19) d26_3 ((if0 _ _).trans (feq (show ¬ ((1 : Int32) = (0 : Int32)) from (by decide))).2) (by decide) (by decide) ?_
  refine oa X3.here hx hby d26_19 rfl ?_
  refine ob1 X3.here hx hby (pc' := 28) d26_20 ((if0 _ _).trans (teq (show (0 : Int32) = (0 : Int32) from (by decide))).1) (by decide) (by decide) ?_
  refine oa2 X3.here hx hby d26_28 rfl rfl ?_
  refine oa X3.here hx hby d26_29 rfl ?_
  refine oa3 X3 hx hZ hown (oa0 hw 109 rfl) (oa0 hw 110 rfl) (oa0 hw 22 rfl) (oa0 hw 111 rfl) (by decide) (getCh_0_2 l Z a0 hw [] t kb c0 c1 h0 n0 Z0 V_t S_AD S_HI S_LO h0_c0 h1_c0) 0 hml rfl (argsL := [(.ref t), (.int 0)]) (st := []) (lenOf pd_7 rfl) rfl rfl e3 hby d26_30 ?_
  intro T4 v4 L4 X4 hQ4
  obtain ⟨rfl, Nq4, eh4⟩ := hQ4
  have N4 := Fr.app N0 Nq4
  refine oa5 (T := T4) 33 #[.val (.ref t), .val (.int 0), .val (.int 2), .val (.int 0), .unset, .unset] [(.int c0)] ?_
  refine ob8 X4.here hx hby d26_33 (l' := #[.val (.ref t), .val (.int 0), .val (.int 2), .val (.int 0), .val (.int c0), .unset]) rfl ?_
  refine oa8 X4.here hx hby d26_35 rfl ?_
  refine oa3 X4 hx hZ hown (oa0 hw 118 rfl) (oa0 hw 119 rfl) (oa0 hw 86 rfl) (oa0 hw 120 rfl) (by decide) (isHighS l Z a0 hw [] c0 h0 n0 Z0 ) 0 hml rfl (argsL := [(.int c0)]) (st := []) (lenOf pd_1 rfl) rfl rfl eh4 hby d26_37 ?_
  intro T5 v5 L5 X5 hQ5
  obtain ⟨rfl, Nq5, eh5⟩ := hQ5
  have N5 := Fr.app N4 Nq5
  refine oa5 (T := T5) 40 #[.val (.ref t), .val (.int 0), .val (.int 2), .val (.int 0), .val (.int c0), .unset] [(.int (oc9 c0))] ?_
  refine ob7 X5.here hx hby d26_40 ((if0 _ _).trans (feq (show ¬ ((oc9 c0) = (0 : Int32)) from og (og4 hp).1)).1) ?_
  refine od2 X5.here hx hby d26_43 rfl (v := (1 : Int32)) (by decide) (l' := #[.val (.ref t), .val (.int 1), .val (.int 2), .val (.int 0), .val (.int c0), .unset]) rfl ?_
  refine oa X5.here hx hby d26_46 rfl ?_
  refine oa X5.here hx hby d26_47 rfl ?_
  refine oa7 X5.here hx hby d26_48 (tlt (show (1 : Int32) < (2 : Int32) from (by decide))).2.1 ?_
  refine oa X5.here hx hby d26_51 rfl ?_
  refine ob1 X5.here hx hby (pc' := 60) d26_52 ((if0 _ _).trans (teq (show (0 : Int32) = (0 : Int32) from (by decide))).1) (by decide) (by decide) ?_
  refine oa2 X5.here hx hby d26_60 rfl rfl ?_
  refine oa X5.here hx hby d26_61 rfl ?_
  refine oa3 X5 hx hZ hown (oa0 hw 109 rfl) (oa0 hw 110 rfl) (oa0 hw 22 rfl) (oa0 hw 111 rfl) (by decide) (getCh_1_2 l Z a0 hw [] t kb c0 c1 h0 n0 Z0 V_t S_AD S_HI S_LO h0_c1 h1_c1) 0 hml rfl (argsL := [(.ref t), (.int 1)]) (st := []) (lenOf pd_7 rfl) rfl rfl eh5 hby d26_62 ?_
  intro T6 v6 L6 X6 hQ6
  obtain ⟨rfl, Nq6, eh6⟩ := hQ6
  have N6 := Fr.app N5 Nq6
  refine oa5 (T := T6) 65 #[.val (.ref t), .val (.int 1), .val (.int 2), .val (.int 0), .val (.int c0), .unset] [(.int c1)] ?_
  refine ob8 X6.here hx hby d26_65 (l' := #[.val (.ref t), .val (.int 1), .val (.int 2), .val (.int 0), .val (.int c0), .val (.int c1)]) rfl ?_
  refine oa8 X6.here hx hby d26_67 rfl ?_
  refine oa3 X6 hx hZ hown (oa0 hw 126 rfl) (oa0 hw 127 rfl) (oa0 hw 86 rfl) (oa0 hw 128 rfl) (by decide) (isLowS l Z a0 hw [] c1 h0 n0 Z0 ) 0 hml rfl (argsL := [(.int c1)]) (st := []) (lenOf pd_1 rfl) rfl rfl eh6 hby d26_69 ?_
  intro T7 v7 L7 X7 hQ7
  obtain ⟨rfl, Nq7, eh7⟩ := hQ7
  have N7 := Fr.app N6 Nq7
  refine oa5 (T := T7) 72 #[.val (.ref t), .val (.int 1), .val (.int 2), .val (.int 0), .val (.int c0), .val (.int c1)] [(.int (od7 c1))] ?_
  refine ob7 X7.here hx hby d26_72 ((if0 _ _).trans (feq (show ¬ ((od7 c1) = (0 : Int32)) from og (og4 hp).2)).1) ?_
  refine oa8 X7.here hx hby d26_75 rfl ?_
  refine oa8 X7.here hx hby d26_77 rfl ?_
  refine oa3 X7 hx hZ hown (oa0 hw 134 rfl) (oa0 hw 135 rfl) (oa0 hw 86 rfl) (oa0 hw 136 rfl) (by decide) (toCP l Z a0 hw [] c0 c1 h0 n0 Z0 ) 0 hml rfl (argsL := [(.int c0), (.int c1)]) (st := []) (lenOf pd_10 rfl) rfl rfl eh7 hby d26_79 ?_
  intro T8 v8 L8 X8 hQ8
  obtain ⟨rfl, Nq8, eh8⟩ := hQ8
  have N8 := Fr.app N7 Nq8
  refine oa5 (T := T8) 82 #[.val (.ref t), .val (.int 1), .val (.int 2), .val (.int 0), .val (.int c0), .val (.int c1)] [(.int (oc5 c0 c1))] ?_
  refine oa9 X8 Bd.notSynchronized (v := some (.int (oc5 c0 c1))) (ob4 Bd.returns) (fun _ hr => retOut X8 hx Bd.returns rfl (Or.inl ⟨rfl, Or.inl rfl, _, rfl⟩) (hb hby d26_82) hr) eh8 (by decide) (by decide) ?_
  exact ⟨rfl, N8, rfl⟩
def Q_cpU3_0_2_P (Z : State) (t : Nat) (kb : ClassId) (c0 : Int32) (c1 : Int32) (h0 : Heap) (n0 : Nat) (vR : Option Value) (hR : Heap) (LR : List Loc) : Prop := vR = some (.int (oc5 c0 c1)) ∧ Fr n0 LR ∧ hR = h0
theorem cpU3_0_2_P (l : Launch) (Z : State) (a0 : Array Value) (hw : ∀ d ∈ tables_1, d.before a0 Z = true) (ws : List Jvm.Cond) (t : Nat) (kb : ClassId) (c0 : Int32) (c1 : Int32) (h0 : Heap) (n0 : Nat) (Z0 : n0 ≤ h0.size) (V_t : Arv Z h0 t kb .byte (4 : Int32) [(.int ((c0 >>> ((0 : Int32) &&& 31)).toInt8.toInt32)), (.int ((c0 >>> ((8 : Int32) &&& 31)).toInt8.toInt32)), (.int ((c1 >>> ((0 : Int32) &&& 31)).toInt8.toInt32)), (.int ((c1 >>> ((8 : Int32) &&& 31)).toInt8.toInt32))] (.int 0)) (S_AD : Sta Z h0 "java/lang/StringUTF16" "$assertionsDisabled" "Z" (.int 1)) (S_HI : Sta Z h0 "java/lang/StringUTF16" "HI_BYTE_SHIFT" "I" (.int 0)) (S_LO : Sta Z h0 "java/lang/StringUTF16" "LO_BYTE_SHIFT" "I" (.int 8)) (hp : od1 c0 c1 = true) (h0_c0 : ¬ (c0 < (0 : Int32))) (h1_c0 : ¬ ((65535 : Int32) < c0)) (h0_c1 : ¬ (c1 < (0 : Int32))) (h1_c1 : ¬ ((65535 : Int32) < c1)) :
    oc2 l (⟨"java/lang/StringUTF16", "codePointAt", "([BII)I"⟩ : MethodName) jdk_52_method_8_code 3 (some .int) ws ({ frames := 2, cells := 0, slots := 0, locals := 30 } : Room) Z #[(.ref t), (.int 0), (.int 2)] h0 (Q_cpU3_0_2_P Z t kb c0 c1 h0 n0) := by
  refine ob3 (own := "java/lang/StringUTF16") rfl (plainFor_of_name pn_25) (fun m => ef_cpU3_0_1_S m t (0 : Int32) (2 : Int32)) ?_
  intro p e s m below meth c s₁ Bd hml hZ hh hx hby hown X0 e0
  have N0 := Fr.nil n0
  have lt2 : h0.size > t := V_t.lt
  refine oa2 X0.here hx hby d25_0 rfl rfl ?_
  refine oa X0.here hx hby d25_1 rfl ?_
  refine oa X0.here hx hby d25_2 rfl ?_
  refine oa4 X0.here hx hby d25_3 (v := (0 : Int32)) (by decide) ?_
  refine oa3 X0 hx hZ hown (oa0 hw 115 rfl) (oa0 hw 116 rfl) (oa0 hw 22 rfl) (oa0 hw 117 rfl) (by decide) (cpU4_0_2_P l Z a0 hw [] t kb c0 c1 h0 n0 Z0 V_t S_AD S_HI S_LO hp h0_c0 h1_c0 h0_c1 h1_c1) 0 hml rfl (argsL := [(.ref t), (.int 0), (.int 2), (.int 0)]) (st := []) (lenOf pd_8 rfl) rfl rfl e0 hby d25_4 ?_
  intro T3 v3 L3 X3 hQ3
  obtain ⟨rfl, Nq3, eh3⟩ := hQ3
  have N3 := Fr.app N0 Nq3
  refine oa5 (T := T3) 7 #[.val (.ref t), .val (.int 0), .val (.int 2)] [(.int (oc5 c0 c1))] ?_
  refine oa9 X3 Bd.notSynchronized (v := some (.int (oc5 c0 c1))) (ob4 Bd.returns) (fun _ hr => retOut X3 hx Bd.returns rfl (Or.inl ⟨rfl, Or.inl rfl, _, rfl⟩) (hb hby d25_7) hr) eh3 (by decide) (by decide) ?_
  exact ⟨rfl, N3, rfl⟩
def Q_cpU_0_2_P (Z : State) (x : Nat) (t : Nat) (kb : ClassId) (zc : Int32) (fm : Value) (c0 : Int32) (c1 : Int32) (h0 : Heap) (n0 : Nat) (vR : Option Value) (hR : Heap) (LR : List Loc) : Prop := vR = some (.int (oc5 c0 c1)) ∧ Fr n0 LR ∧ hR = h0
theorem cpU_0_2_P (l : Launch) (Z : State) (a0 : Array Value) (hw : ∀ d ∈ tables_1, d.before a0 Z = true) (ws : List Jvm.Cond) (x : Nat) (t : Nat) (kb : ClassId) (zc : Int32) (fm : Value) (c0 : Int32) (c1 : Int32) (h0 : Heap) (n0 : Nat) (Z0 : n0 ≤ h0.size) (E_x : Exa Z h0 x "java/lang/String") (Fc_x : Fld Z h0 x "java/lang/String" "coder" "B" (.int 1)) (Fv_x : Fld Z h0 x "java/lang/String" "value" "[B" (.ref t)) (V_t : Arv Z h0 t kb .byte (4 : Int32) [(.int ((c0 >>> ((0 : Int32) &&& 31)).toInt8.toInt32)), (.int ((c0 >>> ((8 : Int32) &&& 31)).toInt8.toInt32)), (.int ((c1 >>> ((0 : Int32) &&& 31)).toInt8.toInt32)), (.int ((c1 >>> ((8 : Int32) &&& 31)).toInt8.toInt32))] (.int 0)) (S_C : Sta Z h0 "java/lang/String" "COMPACT_STRINGS" "Z" (.int zc)) (hz : ¬ (zc = (0 : Int32))) (S_FM : Sta Z h0 "jdk/internal/util/Preconditions" "SIOOBE_FORMATTER" "Ljava/util/function/BiFunction;" fm) (hfm : fm.isRef = true) (S_AD : Sta Z h0 "java/lang/StringUTF16" "$assertionsDisabled" "Z" (.int 1)) (S_HI : Sta Z h0 "java/lang/StringUTF16" "HI_BYTE_SHIFT" "I" (.int 0)) (S_LO : Sta Z h0 "java/lang/StringUTF16" "LO_BYTE_SHIFT" "I" (.int 8)) (hp : od1 c0 c1 = true) (h0_c0 : ¬ (c0 < (0 : Int32))) (h1_c0 : ¬ ((65535 : Int32) < c0)) (h0_c1 : ¬ (c1 < (0 : Int32))) (h1_c1 : ¬ ((65535 : Int32) < c1)) :
    oc2 l (⟨"java/lang/String", "codePointAt", "(I)I"⟩ : MethodName) jdk_42_method_57_code 3 (some .int) ws ({ frames := 3, cells := 0, slots := 0, locals := 44 } : Room) Z #[(.ref x), (.int 0)] h0 (Q_cpU_0_2_P Z x t kb zc fm c0 c1 h0 n0) := by
  refine ob3 (own := "java/lang/String") rfl (plainFor_of_name pn_11) (fun m => ef_cpL_0_1 m x (0 : Int32)) ?_
  intro p e s m below meth c s₁ Bd hml hZ hh hx hby hown X0 e0
  have N0 := Fr.nil n0
  have lt2 : h0.size > x := E_x.lt
  have lt3 : h0.size > t := V_t.lt
  refine oa2 X0.here hx hby d11_0 rfl rfl ?_
  refine ob6 X0 hx hZ hown (oa0 hw 54 rfl) (oa0 hw 55 rfl) (notFace_of_selects (args := #[]) (mvT hZ (oa0 hw 57 rfl))) (oa0 hw 57 rfl) (oa0 hw 56 rfl) (oa0 hw 8 rfl) (oa0 hw 58 rfl) (by decide) (isLatU l Z a0 hw [] x zc h0 n0 Z0 Fc_x S_C hz) 0 hml rfl (argsL := []) (st := []) E_x (lenOf pd_4 rfl) rfl rfl e0 hby d11_1 ?_
  intro T4 v4 L4 X4 hQ4
  obtain ⟨rfl, Nq4, eh4⟩ := hQ4
  have N4 := Fr.app N0 Nq4
  refine oa5 (T := T4) 4 #[.val (.ref x), .val (.int 0), .unset] [(.int 0)] ?_
  refine ob1 X4.here hx hby (pc' := 27) d11_4 ((if0 _ _).trans (teq (show (0 : Int32) = (0 : Int32) from (by decide))).1) (by decide) (by decide) ?_
  refine oa2 X4.here hx hby d11_27 rfl rfl ?_
  refine od3 X4 hx hZ hown (host := "") (Or.inl (oa0 hw 33 rfl)) Via.refl eh4 Fv_x hby d11_28 ?_
  intro T5 X5 e5
  refine oe X5 hx hZ e5 V_t hby d11_31 ?_
  refine oa4 X5.here hx hby d11_32 (v := (1 : Int32)) (by decide) ?_
  refine oe2 X5.here hx hby d11_33 (v := (2 : Int32)) (by decide) ?_
  refine oa6 X5.here hx hby d11_34 (l' := #[.val (.ref x), .val (.int 0), .val (.int 2)]) rfl ?_
  refine oa X5.here hx hby d11_35 rfl ?_
  refine oa X5.here hx hby d11_36 rfl ?_
  refine oa3 X5 hx hZ hown (oa0 hw 59 rfl) (oa0 hw 60 rfl) (oa0 hw 8 rfl) (oa0 hw 61 rfl) (by decide) (strChk_0_2 l Z a0 hw [] fm h0 n0 Z0 S_FM hfm) 0 hml rfl (argsL := [(.int 0), (.int 2)]) (st := []) (lenOf pd_5 rfl) rfl rfl e5 hby d11_37 ?_
  intro T6 v6 L6 X6 hQ6
  obtain ⟨rfl, Nq6, eh6⟩ := hQ6
  have N6 := Fr.app N4 Nq6
  refine oa5 (T := T6) 40 #[.val (.ref x), .val (.int 0), .val (.int 2)] [] ?_
  refine oa2 X6.here hx hby d11_40 rfl rfl ?_
  refine od3 X6 hx hZ hown (host := "") (Or.inl (oa0 hw 33 rfl)) Via.refl eh6 Fv_x hby d11_41 ?_
  intro T7 X7 e7
  refine oa X7.here hx hby d11_44 rfl ?_
  refine oa X7.here hx hby d11_45 rfl ?_
  refine oa3 X7 hx hZ hown (oa0 hw 112 rfl) (oa0 hw 113 rfl) (oa0 hw 22 rfl) (oa0 hw 114 rfl) (by decide) (cpU3_0_2_P l Z a0 hw [] t kb c0 c1 h0 n0 Z0 V_t S_AD S_HI S_LO hp h0_c0 h1_c0 h0_c1 h1_c1) 0 hml rfl (argsL := [(.ref t), (.int 0), (.int 2)]) (st := []) (lenOf pd_9 rfl) rfl rfl e7 hby d11_46 ?_
  intro T8 v8 L8 X8 hQ8
  obtain ⟨rfl, Nq8, eh8⟩ := hQ8
  have N8 := Fr.app N6 Nq8
  refine oa5 (T := T8) 49 #[.val (.ref x), .val (.int 0), .val (.int 2)] [(.int (oc5 c0 c1))] ?_
  refine oa9 X8 Bd.notSynchronized (v := some (.int (oc5 c0 c1))) (ob4 Bd.returns) (fun _ hr => retOut X8 hx Bd.returns rfl (Or.inl ⟨rfl, Or.inl rfl, _, rfl⟩) (hb hby d11_49) hr) eh8 (by decide) (by decide) ?_
  exact ⟨rfl, N8, rfl⟩
def Q_cpU4_0_2_S (Z : State) (t : Nat) (kb : ClassId) (c0 : Int32) (c1 : Int32) (h0 : Heap) (n0 : Nat) (vR : Option Value) (hR : Heap) (LR : List Loc) : Prop := vR = some (.int c0) ∧ Fr n0 LR ∧ hR = h0
theorem cpU4_0_2_S (l : Launch) (Z : State) (a0 : Array Value) (hw : ∀ d ∈ tables_1, d.before a0 Z = true) (ws : List Jvm.Cond) (t : Nat) (kb : ClassId) (c0 : Int32) (c1 : Int32) (h0 : Heap) (n0 : Nat) (Z0 : n0 ≤ h0.size) (V_t : Arv Z h0 t kb .byte (4 : Int32) [(.int ((c0 >>> ((0 : Int32) &&& 31)).toInt8.toInt32)), (.int ((c0 >>> ((8 : Int32) &&& 31)).toInt8.toInt32)), (.int ((c1 >>> ((0 : Int32) &&& 31)).toInt8.toInt32)), (.int ((c1 >>> ((8 : Int32) &&& 31)).toInt8.toInt32))] (.int 0)) (S_AD : Sta Z h0 "java/lang/StringUTF16" "$assertionsDisabled" "Z" (.int 1)) (S_HI : Sta Z h0 "java/lang/StringUTF16" "HI_BYTE_SHIFT" "I" (.int 0)) (S_LO : Sta Z h0 "java/lang/StringUTF16" "LO_BYTE_SHIFT" "I" (.int 8)) (hp : od1 c0 c1 = false) (h0_c0 : ¬ (c0 < (0 : Int32))) (h1_c0 : ¬ ((65535 : Int32) < c0)) (h0_c1 : ¬ (c1 < (0 : Int32))) (h1_c1 : ¬ ((65535 : Int32) < c1)) :
    oc2 l (⟨"java/lang/StringUTF16", "codePointAt", "([BIIZ)I"⟩ : MethodName) jdk_52_method_7_code 6 (some .int) ws ({ frames := 1, cells := 0, slots := 0, locals := 13 } : Room) Z #[(.ref t), (.int 0), (.int 2), (.int 0)] h0 (Q_cpU4_0_2_S Z t kb c0 c1 h0 n0) := by
  refine ob3 (own := "java/lang/StringUTF16") rfl (plainFor_of_name pn_26) (fun m => ef_cpU4_0_1_S m t (0 : Int32) (2 : Int32) (0 : Int32)) ?_
  intro p e s m below meth c s₁ Bd hml hZ hh hx hby hown X0 e0
  have N0 := Fr.nil n0
  have lt2 : h0.size > t := V_t.lt
  refine oc3 X0 hx hZ hown (host := "") (Or.inl (oa0 hw 106 rfl)) Via.refl e0 S_AD hby d26_0 ?_
  intro T3 X3 e3
  refine ob1 X3.here hx hby (pc' := 19) d26_3 ((if0 _ _).trans (feq (show ¬ ((1 : Int32) = (0 : Int32)) from (by decide))).2) (by decide) (by decide) ?_
  refine oa X3.here hx hby d26_19 rfl ?_
  refine ob1 X3.here hx hby (pc' := 28) d26_20 ((if0 _ _).trans (teq (show (0 : Int32) = (0 : Int32) from (by decide))).1) (by decide) (by decide) ?_
  refine oa2 X3.here hx hby d26_28 rfl rfl ?_
  refine oa X3.here hx hby d26_29 rfl ?_
  refine oa3 X3 hx hZ hown (oa0 hw 109 rfl) (oa0 hw 110 rfl) (oa0 hw 22 rfl) (oa0 hw 111 rfl) (by decide) (getCh_0_2 l Z a0 hw [] t kb c0 c1 h0 n0 Z0 V_t S_AD S_HI S_LO h0_c0 h1_c0) 0 hml rfl (argsL := [(.ref t), (.int 0)]) (st := []) (lenOf pd_7 rfl) rfl rfl e3 hby d26_30 ?_
  intro T4 v4 L4 X4 hQ4
  obtain ⟨rfl, Nq4, eh4⟩ := hQ4
  have N4 := Fr.app N0 Nq4
  refine oa5 (T := T4) 33 #[.val (.ref t), .val (.int 0), .val (.int 2), .val (.int 0), .unset, .unset] [(.int c0)] ?_
  refine ob8 X4.here hx hby d26_33 (l' := #[.val (.ref t), .val (.int 0), .val (.int 2), .val (.int 0), .val (.int c0), .unset]) rfl ?_
  refine oa8 X4.here hx hby d26_35 rfl ?_
  refine oa3 X4 hx hZ hown (oa0 hw 118 rfl) (oa0 hw 119 rfl) (oa0 hw 86 rfl) (oa0 hw 120 rfl) (by decide) (isHighS l Z a0 hw [] c0 h0 n0 Z0 ) 0 hml rfl (argsL := [(.int c0)]) (st := []) (lenOf pd_1 rfl) rfl rfl eh4 hby d26_37 ?_
  intro T5 v5 L5 X5 hQ5
  obtain ⟨rfl, Nq5, eh5⟩ := hQ5
  have N5 := Fr.app N4 Nq5
  refine oa5 (T := T5) 40 #[.val (.ref t), .val (.int 0), .val (.int 2), .val (.int 0), .val (.int c0), .unset] [(.int (oc9 c0))] ?_
  by_cases hc40_6 : (oc9 c0) = (0 : Int32)
  · refine ob1 X5.here hx hby (pc' := 83) d26_40 ((if0 _ _).trans (teq hc40_6).1) (by decide) (by decide) ?_
    refine oa8 X5.here hx hby d26_83 rfl ?_
    refine oa9 X5 Bd.notSynchronized (v := some (.int c0)) (ob4 Bd.returns) (fun _ hr => retOut X5 hx Bd.returns rfl (Or.inl ⟨rfl, Or.inl rfl, _, rfl⟩) (hb hby d26_85) hr) eh5 (by decide) (by decide) ?_
    exact ⟨rfl, N5, rfl⟩
  · refine ob7 X5.here hx hby d26_40 ((if0 _ _).trans (feq hc40_6).1) ?_
    refine od2 X5.here hx hby d26_43 rfl (v := (1 : Int32)) (by decide) (l' := #[.val (.ref t), .val (.int 1), .val (.int 2), .val (.int 0), .val (.int c0), .unset]) rfl ?_
    refine oa X5.here hx hby d26_46 rfl ?_
    refine oa X5.here hx hby d26_47 rfl ?_
    refine oa7 X5.here hx hby d26_48 (tlt (show (1 : Int32) < (2 : Int32) from (by decide))).2.1 ?_
    refine oa X5.here hx hby d26_51 rfl ?_
    refine ob1 X5.here hx hby (pc' := 60) d26_52 ((if0 _ _).trans (teq (show (0 : Int32) = (0 : Int32) from (by decide))).1) (by decide) (by decide) ?_
    refine oa2 X5.here hx hby d26_60 rfl rfl ?_
    refine oa X5.here hx hby d26_61 rfl ?_
    refine oa3 X5 hx hZ hown (oa0 hw 109 rfl) (oa0 hw 110 rfl) (oa0 hw 22 rfl) (oa0 hw 111 rfl) (by decide) (getCh_1_2 l Z a0 hw [] t kb c0 c1 h0 n0 Z0 V_t S_AD S_HI S_LO h0_c1 h1_c1) 0 hml rfl (argsL := [(.ref t), (.int 1)]) (st := []) (lenOf pd_7 rfl) rfl rfl eh5 hby d26_62 ?_
    intro T7 v7 L7 X7 hQ7
    obtain ⟨rfl, Nq7, eh7⟩ := hQ7
    have N7 := Fr.app N5 Nq7
    refine oa5 (T := T7) 65 #[.val (.ref t), .val (.int 1), .val (.int 2), .val (.int 0), .val (.int c0), .unset] [(.int c1)] ?_
    refine ob8 X7.here hx hby d26_65 (l' := #[.val (.ref t), .val (.int 1), .val (.int 2), .val (.int 0), .val (.int c0), .val (.int c1)]) rfl ?_
    refine oa8 X7.here hx hby d26_67 rfl ?_
    refine oa3 X7 hx hZ hown (oa0 hw 126 rfl) (oa0 hw 127 rfl) (oa0 hw 86 rfl) (oa0 hw 128 rfl) (by decide) (isLowS l Z a0 hw [] c1 h0 n0 Z0 ) 0 hml rfl (argsL := [(.int c1)]) (st := []) (lenOf pd_1 rfl) rfl rfl eh7 hby d26_69 ?_
    intro T8 v8 L8 X8 hQ8
    obtain ⟨rfl, Nq8, eh8⟩ := hQ8
    have N8 := Fr.app N7 Nq8
    refine oa5 (T := T8) 72 #[.val (.ref t), .val (.int 1), .val (.int 2), .val (.int 0), .val (.int c0), .val (.int c1)] [(.int (od7 c1))] ?_
    by_cases hc72_9 : (od7 c1) = (0 : Int32)
    · refine ob1 X8.here hx hby (pc' := 83) d26_72 ((if0 _ _).trans (teq hc72_9).1) (by decide) (by decide) ?_
      refine oa8 X8.here hx hby d26_83 rfl ?_
      refine oa9 X8 Bd.notSynchronized (v := some (.int c0)) (ob4 Bd.returns) (fun _ hr => retOut X8 hx Bd.returns rfl (Or.inl ⟨rfl, Or.inl rfl, _, rfl⟩) (hb hby d26_85) hr) eh8 (by decide) (by decide) ?_
      exact ⟨rfl, N8, rfl⟩
    · refine ob7 X8.here hx hby d26_72 ((if0 _ _).trans (feq hc72_9).1) ?_
      exact (own_pX hp hc40_6 hc72_9).elim
def Q_cpU3_0_2_S (Z : State) (t : Nat) (kb : ClassId) (c0 : Int32) (c1 : Int32) (h0 : Heap) (n0 : Nat) (vR : Option Value) (hR : Heap) (LR : List Loc) : Prop := vR = some (.int c0) ∧ Fr n0 LR ∧ hR = h0
theorem cpU3_0_2_S (l : Launch) (Z : State) (a0 : Array Value) (hw : ∀ d ∈ tables_1, d.before a0 Z = true) (ws : List Jvm.Cond) (t : Nat) (kb : ClassId) (c0 : Int32) (c1 : Int32) (h0 : Heap) (n0 : Nat) (Z0 : n0 ≤ h0.size) (V_t : Arv Z h0 t kb .byte (4 : Int32) [(.int ((c0 >>> ((0 : Int32) &&& 31)).toInt8.toInt32)), (.int ((c0 >>> ((8 : Int32) &&& 31)).toInt8.toInt32)), (.int ((c1 >>> ((0 : Int32) &&& 31)).toInt8.toInt32)), (.int ((c1 >>> ((8 : Int32) &&& 31)).toInt8.toInt32))] (.int 0)) (S_AD : Sta Z h0 "java/lang/StringUTF16" "$assertionsDisabled" "Z" (.int 1)) (S_HI : Sta Z h0 "java/lang/StringUTF16" "HI_BYTE_SHIFT" "I" (.int 0)) (S_LO : Sta Z h0 "java/lang/StringUTF16" "LO_BYTE_SHIFT" "I" (.int 8)) (hp : od1 c0 c1 = false) (h0_c0 : ¬ (c0 < (0 : Int32))) (h1_c0 : ¬ ((65535 : Int32) < c0)) (h0_c1 : ¬ (c1 < (0 : Int32))) (h1_c1 : ¬ ((65535 : Int32) < c1)) :
    oc2 l (⟨"java/lang/StringUTF16", "codePointAt", "([BII)I"⟩ : MethodName) jdk_52_method_8_code 3 (some .int) ws ({ frames := 2, cells := 0, slots := 0, locals := 30 } : Room) Z #[(.ref t), (.int 0), (.int 2)] h0 (Q_cpU3_0_2_S Z t kb c0 c1 h0 n0) := by
  refine ob3 (own := "java/lang/StringUTF16") rfl (plainFor_of_name pn_25) (fun m => ef_cpU3_0_1_S m t (0 : Int32) (2 : Int32)) ?_
  intro p e s m below meth c s₁ Bd hml hZ hh hx hby hown X0 e0
  have N0 := Fr.nil n0
  have lt2 : h0.size > t := V_t.lt
  refine oa2 X0.here hx hby d25_0 rfl rfl ?_
  refine oa X0.here hx hby d25_1 rfl ?_
  refine oa X0.here hx hby d25_2 rfl ?_
  refine oa4 X0.here hx hby d25_3 (v := (0 : Int32)) (by decide) ?_
  refine oa3 X0 hx hZ hown (oa0 hw 115 rfl) (oa0 hw 116 rfl) (oa0 hw 22 rfl) (oa0 hw 117 rfl) (by decide) (cpU4_0_2_S l Z a0 hw [] t kb c0 c1 h0 n0 Z0 V_t S_AD S_HI S_LO hp h0_c0 h1_c0 h0_c1 h1_c1) 0 hml rfl (argsL := [(.ref t), (.int 0), (.int 2), (.int 0)]) (st := []) (lenOf pd_8 rfl) rfl rfl e0 hby d25_4 ?_
  intro T3 v3 L3 X3 hQ3
  obtain ⟨rfl, Nq3, eh3⟩ := hQ3
  have N3 := Fr.app N0 Nq3
  refine oa5 (T := T3) 7 #[.val (.ref t), .val (.int 0), .val (.int 2)] [(.int c0)] ?_
  refine oa9 X3 Bd.notSynchronized (v := some (.int c0)) (ob4 Bd.returns) (fun _ hr => retOut X3 hx Bd.returns rfl (Or.inl ⟨rfl, Or.inl rfl, _, rfl⟩) (hb hby d25_7) hr) eh3 (by decide) (by decide) ?_
  exact ⟨rfl, N3, rfl⟩
def Q_cpU_0_2_S (Z : State) (x : Nat) (t : Nat) (kb : ClassId) (zc : Int32) (fm : Value) (c0 : Int32) (c1 : Int32) (h0 : Heap) (n0 : Nat) (vR : Option Value) (hR : Heap) (LR : List Loc) : Prop := vR = some (.int c0) ∧ Fr n0 LR ∧ hR = h0
theorem cpU_0_2_S (l : Launch) (Z : State) (a0 : Array Value) (hw : ∀ d ∈ tables_1, d.before a0 Z = true) (ws : List Jvm.Cond) (x : Nat) (t : Nat) (kb : ClassId) (zc : Int32) (fm : Value) (c0 : Int32) (c1 : Int32) (h0 : Heap) (n0 : Nat) (Z0 : n0 ≤ h0.size) (E_x : Exa Z h0 x "java/lang/String") (Fc_x : Fld Z h0 x "java/lang/String" "coder" "B" (.int 1)) (Fv_x : Fld Z h0 x "java/lang/String" "value" "[B" (.ref t)) (V_t : Arv Z h0 t kb .byte (4 : Int32) [(.int ((c0 >>> ((0 : Int32) &&& 31)).toInt8.toInt32)), (.int ((c0 >>> ((8 : Int32) &&& 31)).toInt8.toInt32)), (.int ((c1 >>> ((0 : Int32) &&& 31)).toInt8.toInt32)), (.int ((c1 >>> ((8 : Int32) &&& 31)).toInt8.toInt32))] (.int 0)) (S_C : Sta Z h0 "java/lang/String" "COMPACT_STRINGS" "Z" (.int zc)) (hz : ¬ (zc = (0 : Int32))) (S_FM : Sta Z h0 "jdk/internal/util/Preconditions" "SIOOBE_FORMATTER" "Ljava/util/function/BiFunction;" fm) (hfm : fm.isRef = true) (S_AD : Sta Z h0 "java/lang/StringUTF16" "$assertionsDisabled" "Z" (.int 1)) (S_HI : Sta Z h0 "java/lang/StringUTF16" "HI_BYTE_SHIFT" "I" (.int 0)) (S_LO : Sta Z h0 "java/lang/StringUTF16" "LO_BYTE_SHIFT" "I" (.int 8)) (hp : od1 c0 c1 = false) (h0_c0 : ¬ (c0 < (0 : Int32))) (h1_c0 : ¬ ((65535 : Int32) < c0)) (h0_c1 : ¬ (c1 < (0 : Int32))) (h1_c1 : ¬ ((65535 : Int32) < c1)) :
    oc2 l (⟨"java/lang/String", "codePointAt", "(I)I"⟩ : MethodName) jdk_42_method_57_code 3 (some .int) ws ({ frames := 3, cells := 0, slots := 0, locals := 44 } : Room) Z #[(.ref x), (.int 0)] h0 (Q_cpU_0_2_S Z x t kb zc fm c0 c1 h0 n0) := by
  refine ob3 (own := "java/lang/String") rfl (plainFor_of_name pn_11) (fun m => ef_cpL_0_1 m x (0 : Int32)) ?_
  intro p e s m below meth c s₁ Bd hml hZ hh hx hby hown X0 e0
  have N0 := Fr.nil n0
  have lt2 : h0.size > x := E_x.lt
  have lt3 : h0.size > t := V_t.lt
  refine oa2 X0.here hx hby d11_0 rfl rfl ?_
  refine ob6 X0 hx hZ hown (oa0 hw 54 rfl) (oa0 hw 55 rfl) (notFace_of_selects (args := #[]) (mvT hZ (oa0 hw 57 rfl))) (oa0 hw 57 rfl) (oa0 hw 56 rfl) (oa0 hw 8 rfl) (oa0 hw 58 rfl) (by decide) (isLatU l Z a0 hw [] x zc h0 n0 Z0 Fc_x S_C hz) 0 hml rfl (argsL := []) (st := []) E_x (lenOf pd_4 rfl) rfl rfl e0 hby d11_1 ?_
  intro T4 v4 L4 X4 hQ4
  obtain ⟨rfl, Nq4, eh4⟩ := hQ4
  have N4 := Fr.app N0 Nq4
  refine oa5 (T := T4) 4 #[.val (.ref x), .val (.int 0), .unset] [(.int 0)] ?_
  refine ob1 X4.here hx hby (pc' := 27) d11_4 ((if0 _ _).trans (teq (show (0 : Int32) = (0 : Int32) from (by decide))).1) (by decide) (by decide) ?_
  refine oa2 X4.here hx hby d11_27 rfl rfl ?_
  refine od3 X4 hx hZ hown (host := "") (Or.inl (oa0 hw 33 rfl)) Via.refl eh4 Fv_x hby d11_28 ?_
  intro T5 X5 e5
  refine oe X5 hx hZ e5 V_t hby d11_31 ?_
  refine oa4 X5.here hx hby d11_32 (v := (1 : Int32)) (by decide) ?_
  refine oe2 X5.here hx hby d11_33 (v := (2 : Int32)) (by decide) ?_
  refine oa6 X5.here hx hby d11_34 (l' := #[.val (.ref x), .val (.int 0), .val (.int 2)]) rfl ?_
  refine oa X5.here hx hby d11_35 rfl ?_
  refine oa X5.here hx hby d11_36 rfl ?_
  refine oa3 X5 hx hZ hown (oa0 hw 59 rfl) (oa0 hw 60 rfl) (oa0 hw 8 rfl) (oa0 hw 61 rfl) (by decide) (strChk_0_2 l Z a0 hw [] fm h0 n0 Z0 S_FM hfm) 0 hml rfl (argsL := [(.int 0), (.int 2)]) (st := []) (lenOf pd_5 rfl) rfl rfl e5 hby d11_37 ?_
  intro T6 v6 L6 X6 hQ6
  obtain ⟨rfl, Nq6, eh6⟩ := hQ6
  have N6 := Fr.app N4 Nq6
  refine oa5 (T := T6) 40 #[.val (.ref x), .val (.int 0), .val (.int 2)] [] ?_
  refine oa2 X6.here hx hby d11_40 rfl rfl ?_
  refine od3 X6 hx hZ hown (host := "") (Or.inl (oa0 hw 33 rfl)) Via.refl eh6 Fv_x hby d11_41 ?_
  intro T7 X7 e7
  refine oa X7.here hx hby d11_44 rfl ?_
  refine oa X7.here hx hby d11_45 rfl ?_
  refine oa3 X7 hx hZ hown (oa0 hw 112 rfl) (oa0 hw 113 rfl) (oa0 hw 22 rfl) (oa0 hw 114 rfl) (by decide) (cpU3_0_2_S l Z a0 hw [] t kb c0 c1 h0 n0 Z0 V_t S_AD S_HI S_LO hp h0_c0 h1_c0 h0_c1 h1_c1) 0 hml rfl (argsL := [(.ref t), (.int 0), (.int 2)]) (st := []) (lenOf pd_9 rfl) rfl rfl e7 hby d11_46 ?_
  intro T8 v8 L8 X8 hQ8
  obtain ⟨rfl, Nq8, eh8⟩ := hQ8
  have N8 := Fr.app N6 Nq8
  refine oa5 (T := T8) 49 #[.val (.ref x), .val (.int 0), .val (.int 2)] [(.int c0)] ?_
  refine oa9 X8 Bd.notSynchronized (v := some (.int c0)) (ob4 Bd.returns) (fun _ hr => retOut X8 hx Bd.returns rfl (Or.inl ⟨rfl, Or.inl rfl, _, rfl⟩) (hb hby d11_49) hr) eh8 (by decide) (by decide) ?_
  exact ⟨rfl, N8, rfl⟩
def Q_cpU4_1_2_S (Z : State) (t : Nat) (kb : ClassId) (c0 : Int32) (c1 : Int32) (h0 : Heap) (n0 : Nat) (vR : Option Value) (hR : Heap) (LR : List Loc) : Prop := vR = some (.int c1) ∧ Fr n0 LR ∧ hR = h0
theorem cpU4_1_2_S (l : Launch) (Z : State) (a0 : Array Value) (hw : ∀ d ∈ tables_1, d.before a0 Z = true) (ws : List Jvm.Cond) (t : Nat) (kb : ClassId) (c0 : Int32) (c1 : Int32) (h0 : Heap) (n0 : Nat) (Z0 : n0 ≤ h0.size) (V_t : Arv Z h0 t kb .byte (4 : Int32) [(.int ((c0 >>> ((0 : Int32) &&& 31)).toInt8.toInt32)), (.int ((c0 >>> ((8 : Int32) &&& 31)).toInt8.toInt32)), (.int ((c1 >>> ((0 : Int32) &&& 31)).toInt8.toInt32)), (.int ((c1 >>> ((8 : Int32) &&& 31)).toInt8.toInt32))] (.int 0)) (S_AD : Sta Z h0 "java/lang/StringUTF16" "$assertionsDisabled" "Z" (.int 1)) (S_HI : Sta Z h0 "java/lang/StringUTF16" "HI_BYTE_SHIFT" "I" (.int 0)) (S_LO : Sta Z h0 "java/lang/StringUTF16" "LO_BYTE_SHIFT" "I" (.int 8)) (h0_c1 : ¬ (c1 < (0 : Int32))) (h1_c1 : ¬ ((65535 : Int32) < c1)) :
    oc2 l (⟨"java/lang/StringUTF16", "codePointAt", "([BIIZ)I"⟩ : MethodName) jdk_52_method_7_code 6 (some .int) ws ({ frames := 1, cells := 0, slots := 0, locals := 13 } : Room) Z #[(.ref t), (.int 1), (.int 2), (.int 0)] h0 (Q_cpU4_1_2_S Z t kb c0 c1 h0 n0) := by
  refine ob3 (own := "java/lang/StringUTF16") rfl (plainFor_of_name pn_26) (fun m => ef_cpU4_0_1_S m t (1 : Int32) (2 : Int32) (0 : Int32)) ?_
  intro p e s m below meth c s₁ Bd hml hZ hh hx hby hown X0 e0
  have N0 := Fr.nil n0
  have lt2 : h0.size > t := V_t.lt
  refine oc3 X0 hx hZ hown (host := "") (Or.inl (oa0 hw 106 rfl)) Via.refl e0 S_AD hby d26_0 ?_
  intro T3 X3 e3
  refine ob1 X3.here hx hby (pc' := 19) d26_3 ((if0 _ _).trans (feq (show ¬ ((1 : Int32) = (0 : Int32)) from (by decide))).2) (by decide) (by decide) ?_
  refine oa X3.here hx hby d26_19 rfl ?_
  refine ob1 X3.here hx hby (pc' := 28) d26_20 ((if0 _ _).trans (teq (show (0 : Int32) = (0 : Int32) from (by decide))).1) (by decide) (by decide) ?_
  refine oa2 X3.here hx hby d26_28 rfl rfl ?_
  refine oa X3.here hx hby d26_29 rfl ?_
  refine oa3 X3 hx hZ hown (oa0 hw 109 rfl) (oa0 hw 110 rfl) (oa0 hw 22 rfl) (oa0 hw 111 rfl) (by decide) (getCh_1_2 l Z a0 hw [] t kb c0 c1 h0 n0 Z0 V_t S_AD S_HI S_LO h0_c1 h1_c1) 0 hml rfl (argsL := [(.ref t), (.int 1)]) (st := []) (lenOf pd_7 rfl) rfl rfl e3 hby d26_30 ?_
  intro T4 v4 L4 X4 hQ4
  obtain ⟨rfl, Nq4, eh4⟩ := hQ4
  have N4 := Fr.app N0 Nq4
  refine oa5 (T := T4) 33 #[.val (.ref t), .val (.int 1), .val (.int 2), .val (.int 0), .unset, .unset] [(.int c1)] ?_
  refine ob8 X4.here hx hby d26_33 (l' := #[.val (.ref t), .val (.int 1), .val (.int 2), .val (.int 0), .val (.int c1), .unset]) rfl ?_
  refine oa8 X4.here hx hby d26_35 rfl ?_
  refine oa3 X4 hx hZ hown (oa0 hw 118 rfl) (oa0 hw 119 rfl) (oa0 hw 86 rfl) (oa0 hw 120 rfl) (by decide) (isHighS l Z a0 hw [] c1 h0 n0 Z0 ) 0 hml rfl (argsL := [(.int c1)]) (st := []) (lenOf pd_1 rfl) rfl rfl eh4 hby d26_37 ?_
  intro T5 v5 L5 X5 hQ5
  obtain ⟨rfl, Nq5, eh5⟩ := hQ5
  have N5 := Fr.app N4 Nq5
  refine oa5 (T := T5) 40 #[.val (.ref t), .val (.int 1), .val (.int 2), .val (.int 0), .val (.int c1), .unset] [(.int (oc9 c1))] ?_
  by_cases hc40_6 : (oc9 c1) = (0 : Int32)
  · refine ob1 X5.here hx hby (pc' := 83) d26_40 ((if0 _ _).trans (teq hc40_6).1) (by decide) (by decide) ?_
    refine oa8 X5.here hx hby d26_83 rfl ?_
    refine oa9 X5 Bd.notSynchronized (v := some (.int c1)) (ob4 Bd.returns) (fun _ hr => retOut X5 hx Bd.returns rfl (Or.inl ⟨rfl, Or.inl rfl, _, rfl⟩) (hb hby d26_85) hr) eh5 (by decide) (by decide) ?_
    exact ⟨rfl, N5, rfl⟩
  · refine ob7 X5.here hx hby d26_40 ((if0 _ _).trans (feq hc40_6).1) ?_
    refine od2 X5.here hx hby d26_43 rfl (v := (2 : Int32)) (by decide) (l' := #[.val (.ref t), .val (.int 2), .val (.int 2), .val (.int 0), .val (.int c1), .unset]) rfl ?_
    refine oa X5.here hx hby d26_46 rfl ?_
    refine oa X5.here hx hby d26_47 rfl ?_
    refine ob2 X5.here hx hby (pc' := 83) d26_48 (flt (show ¬ ((2 : Int32) < (2 : Int32)) from (by decide))).2.1 (by decide) (by decide) ?_
    refine oa8 X5.here hx hby d26_83 rfl ?_
    refine oa9 X5 Bd.notSynchronized (v := some (.int c1)) (ob4 Bd.returns) (fun _ hr => retOut X5 hx Bd.returns rfl (Or.inl ⟨rfl, Or.inl rfl, _, rfl⟩) (hb hby d26_85) hr) eh5 (by decide) (by decide) ?_
    exact ⟨rfl, N5, rfl⟩
def Q_cpU3_1_2_S (Z : State) (t : Nat) (kb : ClassId) (c0 : Int32) (c1 : Int32) (h0 : Heap) (n0 : Nat) (vR : Option Value) (hR : Heap) (LR : List Loc) : Prop := vR = some (.int c1) ∧ Fr n0 LR ∧ hR = h0
theorem cpU3_1_2_S (l : Launch) (Z : State) (a0 : Array Value) (hw : ∀ d ∈ tables_1, d.before a0 Z = true) (ws : List Jvm.Cond) (t : Nat) (kb : ClassId) (c0 : Int32) (c1 : Int32) (h0 : Heap) (n0 : Nat) (Z0 : n0 ≤ h0.size) (V_t : Arv Z h0 t kb .byte (4 : Int32) [(.int ((c0 >>> ((0 : Int32) &&& 31)).toInt8.toInt32)), (.int ((c0 >>> ((8 : Int32) &&& 31)).toInt8.toInt32)), (.int ((c1 >>> ((0 : Int32) &&& 31)).toInt8.toInt32)), (.int ((c1 >>> ((8 : Int32) &&& 31)).toInt8.toInt32))] (.int 0)) (S_AD : Sta Z h0 "java/lang/StringUTF16" "$assertionsDisabled" "Z" (.int 1)) (S_HI : Sta Z h0 "java/lang/StringUTF16" "HI_BYTE_SHIFT" "I" (.int 0)) (S_LO : Sta Z h0 "java/lang/StringUTF16" "LO_BYTE_SHIFT" "I" (.int 8)) (h0_c1 : ¬ (c1 < (0 : Int32))) (h1_c1 : ¬ ((65535 : Int32) < c1)) :
    oc2 l (⟨"java/lang/StringUTF16", "codePointAt", "([BII)I"⟩ : MethodName) jdk_52_method_8_code 3 (some .int) ws ({ frames := 2, cells := 0, slots := 0, locals := 30 } : Room) Z #[(.ref t), (.int 1), (.int 2)] h0 (Q_cpU3_1_2_S Z t kb c0 c1 h0 n0) := by
  refine ob3 (own := "java/lang/StringUTF16") rfl (plainFor_of_name pn_25) (fun m => ef_cpU3_0_1_S m t (1 : Int32) (2 : Int32)) ?_
  intro p e s m below meth c s₁ Bd hml hZ hh hx hby hown X0 e0
  have N0 := Fr.nil n0
  have lt2 : h0.size > t := V_t.lt
  refine oa2 X0.here hx hby d25_0 rfl rfl ?_
  refine oa X0.here hx hby d25_1 rfl ?_
  refine oa X0.here hx hby d25_2 rfl ?_
  refine oa4 X0.here hx hby d25_3 (v := (0 : Int32)) (by decide) ?_
  refine oa3 X0 hx hZ hown (oa0 hw 115 rfl) (oa0 hw 116 rfl) (oa0 hw 22 rfl) (oa0 hw 117 rfl) (by decide) (cpU4_1_2_S l Z a0 hw [] t kb c0 c1 h0 n0 Z0 V_t S_AD S_HI S_LO h0_c1 h1_c1) 0 hml rfl (argsL := [(.ref t), (.int 1), (.int 2), (.int 0)]) (st := []) (lenOf pd_8 rfl) rfl rfl e0 hby d25_4 ?_
  intro T3 v3 L3 X3 hQ3
  obtain ⟨rfl, Nq3, eh3⟩ := hQ3
  have N3 := Fr.app N0 Nq3
  refine oa5 (T := T3) 7 #[.val (.ref t), .val (.int 1), .val (.int 2)] [(.int c1)] ?_
  refine oa9 X3 Bd.notSynchronized (v := some (.int c1)) (ob4 Bd.returns) (fun _ hr => retOut X3 hx Bd.returns rfl (Or.inl ⟨rfl, Or.inl rfl, _, rfl⟩) (hb hby d25_7) hr) eh3 (by decide) (by decide) ?_
  exact ⟨rfl, N3, rfl⟩
def Q_cpU_1_2_S (Z : State) (x : Nat) (t : Nat) (kb : ClassId) (zc : Int32) (fm : Value) (c0 : Int32) (c1 : Int32) (h0 : Heap) (n0 : Nat) (vR : Option Value) (hR : Heap) (LR : List Loc) : Prop := vR = some (.int c1) ∧ Fr n0 LR ∧ hR = h0
theorem cpU_1_2_S (l : Launch) (Z : State) (a0 : Array Value) (hw : ∀ d ∈ tables_1, d.before a0 Z = true) (ws : List Jvm.Cond) (x : Nat) (t : Nat) (kb : ClassId) (zc : Int32) (fm : Value) (c0 : Int32) (c1 : Int32) (h0 : Heap) (n0 : Nat) (Z0 : n0 ≤ h0.size) (E_x : Exa Z h0 x "java/lang/String") (Fc_x : Fld Z h0 x "java/lang/String" "coder" "B" (.int 1)) (Fv_x : Fld Z h0 x "java/lang/String" "value" "[B" (.ref t)) (V_t : Arv Z h0 t kb .byte (4 : Int32) [(.int ((c0 >>> ((0 : Int32) &&& 31)).toInt8.toInt32)), (.int ((c0 >>> ((8 : Int32) &&& 31)).toInt8.toInt32)), (.int ((c1 >>> ((0 : Int32) &&& 31)).toInt8.toInt32)), (.int ((c1 >>> ((8 : Int32) &&& 31)).toInt8.toInt32))] (.int 0)) (S_C : Sta Z h0 "java/lang/String" "COMPACT_STRINGS" "Z" (.int zc)) (hz : ¬ (zc = (0 : Int32))) (S_FM : Sta Z h0 "jdk/internal/util/Preconditions" "SIOOBE_FORMATTER" "Ljava/util/function/BiFunction;" fm) (hfm : fm.isRef = true) (S_AD : Sta Z h0 "java/lang/StringUTF16" "$assertionsDisabled" "Z" (.int 1)) (S_HI : Sta Z h0 "java/lang/StringUTF16" "HI_BYTE_SHIFT" "I" (.int 0)) (S_LO : Sta Z h0 "java/lang/StringUTF16" "LO_BYTE_SHIFT" "I" (.int 8)) (h0_c1 : ¬ (c1 < (0 : Int32))) (h1_c1 : ¬ ((65535 : Int32) < c1)) :
    oc2 l (⟨"java/lang/String", "codePointAt", "(I)I"⟩ : MethodName) jdk_42_method_57_code 3 (some .int) ws ({ frames := 3, cells := 0, slots := 0, locals := 44 } : Room) Z #[(.ref x), (.int 1)] h0 (Q_cpU_1_2_S Z x t kb zc fm c0 c1 h0 n0) := by
  refine ob3 (own := "java/lang/String") rfl (plainFor_of_name pn_11) (fun m => ef_cpL_0_1 m x (1 : Int32)) ?_
  intro p e s m below meth c s₁ Bd hml hZ hh hx hby hown X0 e0
  have N0 := Fr.nil n0
  have lt2 : h0.size > x := E_x.lt
  have lt3 : h0.size > t := V_t.lt
  refine oa2 X0.here hx hby d11_0 rfl rfl ?_
  refine ob6 X0 hx hZ hown (oa0 hw 54 rfl) (oa0 hw 55 rfl) (notFace_of_selects (args := #[]) (mvT hZ (oa0 hw 57 rfl))) (oa0 hw 57 rfl) (oa0 hw 56 rfl) (oa0 hw 8 rfl) (oa0 hw 58 rfl) (by decide) (isLatU l Z a0 hw [] x zc h0 n0 Z0 Fc_x S_C hz) 0 hml rfl (argsL := []) (st := []) E_x (lenOf pd_4 rfl) rfl rfl e0 hby d11_1 ?_
  intro T4 v4 L4 X4 hQ4
  obtain ⟨rfl, Nq4, eh4⟩ := hQ4
  have N4 := Fr.app N0 Nq4
  refine oa5 (T := T4) 4 #[.val (.ref x), .val (.int 1), .unset] [(.int 0)] ?_
  refine ob1 X4.here hx hby (pc' := 27) d11_4 ((if0 _ _).trans (teq (show (0 : Int32) = (0 : Int32) from (by decide))).1) (by decide) (by decide) ?_
  refine oa2 X4.here hx hby d11_27 rfl rfl ?_
  refine od3 X4 hx hZ hown (host := "") (Or.inl (oa0 hw 33 rfl)) Via.refl eh4 Fv_x hby d11_28 ?_
  intro T5 X5 e5
  refine oe X5 hx hZ e5 V_t hby d11_31 ?_
  refine oa4 X5.here hx hby d11_32 (v := (1 : Int32)) (by decide) ?_
  refine oe2 X5.here hx hby d11_33 (v := (2 : Int32)) (by decide) ?_
  refine oa6 X5.here hx hby d11_34 (l' := #[.val (.ref x), .val (.int 1), .val (.int 2)]) rfl ?_
  refine oa X5.here hx hby d11_35 rfl ?_
  refine oa X5.here hx hby d11_36 rfl ?_
  refine oa3 X5 hx hZ hown (oa0 hw 59 rfl) (oa0 hw 60 rfl) (oa0 hw 8 rfl) (oa0 hw 61 rfl) (by decide) (strChk_1_2 l Z a0 hw [] fm h0 n0 Z0 S_FM hfm) 0 hml rfl (argsL := [(.int 1), (.int 2)]) (st := []) (lenOf pd_5 rfl) rfl rfl e5 hby d11_37 ?_
  intro T6 v6 L6 X6 hQ6
  obtain ⟨rfl, Nq6, eh6⟩ := hQ6
  have N6 := Fr.app N4 Nq6
  refine oa5 (T := T6) 40 #[.val (.ref x), .val (.int 1), .val (.int 2)] [] ?_
  refine oa2 X6.here hx hby d11_40 rfl rfl ?_
  refine od3 X6 hx hZ hown (host := "") (Or.inl (oa0 hw 33 rfl)) Via.refl eh6 Fv_x hby d11_41 ?_
  intro T7 X7 e7
  refine oa X7.here hx hby d11_44 rfl ?_
  refine oa X7.here hx hby d11_45 rfl ?_
  refine oa3 X7 hx hZ hown (oa0 hw 112 rfl) (oa0 hw 113 rfl) (oa0 hw 22 rfl) (oa0 hw 114 rfl) (by decide) (cpU3_1_2_S l Z a0 hw [] t kb c0 c1 h0 n0 Z0 V_t S_AD S_HI S_LO h0_c1 h1_c1) 0 hml rfl (argsL := [(.ref t), (.int 1), (.int 2)]) (st := []) (lenOf pd_9 rfl) rfl rfl e7 hby d11_46 ?_
  intro T8 v8 L8 X8 hQ8
  obtain ⟨rfl, Nq8, eh8⟩ := hQ8
  have N8 := Fr.app N6 Nq8
  refine oa5 (T := T8) 49 #[.val (.ref x), .val (.int 1), .val (.int 2)] [(.int c1)] ?_
  refine oa9 X8 Bd.notSynchronized (v := some (.int c1)) (ob4 Bd.returns) (fun _ hr => retOut X8 hx Bd.returns rfl (Or.inl ⟨rfl, Or.inl rfl, _, rfl⟩) (hb hby d11_49) hr) eh8 (by decide) (by decide) ?_
  exact ⟨rfl, N8, rfl⟩
def Q_getCh_0_3 (Z : State) (t : Nat) (kb : ClassId) (c0 : Int32) (c1 : Int32) (c2 : Int32) (h0 : Heap) (n0 : Nat) (vR : Option Value) (hR : Heap) (LR : List Loc) : Prop := vR = some (.int c0) ∧ Fr n0 LR ∧ hR = h0
theorem getCh_0_3 (l : Launch) (Z : State) (a0 : Array Value) (hw : ∀ d ∈ tables_1, d.before a0 Z = true) (ws : List Jvm.Cond) (t : Nat) (kb : ClassId) (c0 : Int32) (c1 : Int32) (c2 : Int32) (h0 : Heap) (n0 : Nat) (Z0 : n0 ≤ h0.size) (V_t : Arv Z h0 t kb .byte (6 : Int32) [(.int ((c0 >>> ((0 : Int32) &&& 31)).toInt8.toInt32)), (.int ((c0 >>> ((8 : Int32) &&& 31)).toInt8.toInt32)), (.int ((c1 >>> ((0 : Int32) &&& 31)).toInt8.toInt32)), (.int ((c1 >>> ((8 : Int32) &&& 31)).toInt8.toInt32)), (.int ((c2 >>> ((0 : Int32) &&& 31)).toInt8.toInt32)), (.int ((c2 >>> ((8 : Int32) &&& 31)).toInt8.toInt32))] (.int 0)) (S_AD : Sta Z h0 "java/lang/StringUTF16" "$assertionsDisabled" "Z" (.int 1)) (S_HI : Sta Z h0 "java/lang/StringUTF16" "HI_BYTE_SHIFT" "I" (.int 0)) (S_LO : Sta Z h0 "java/lang/StringUTF16" "LO_BYTE_SHIFT" "I" (.int 8)) (h0_c0 : ¬ (c0 < (0 : Int32))) (h1_c0 : ¬ ((65535 : Int32) < c0)) :
    oc2 l (⟨"java/lang/StringUTF16", "getChar", "([BI)C"⟩ : MethodName) jdk_52_method_5_code 2 (some .char) ws ({ frames := 0, cells := 0, slots := 0, locals := 0 } : Room) Z #[(.ref t), (.int 0)] h0 (Q_getCh_0_3 Z t kb c0 c1 c2 h0 n0) := by
  refine ob3 (own := "java/lang/StringUTF16") rfl (plainFor_of_name pn_24) (fun m => ef_getCh_0_1 m t (0 : Int32)) ?_
  intro p e s m below meth c s₁ Bd hml hZ hh hx hby hown X0 e0
  have N0 := Fr.nil n0
  have lt3 : h0.size > t := V_t.lt
  refine oc3 X0 hx hZ hown (host := "") (Or.inl (oa0 hw 106 rfl)) Via.refl e0 S_AD hby d24_0 ?_
  intro T4 X4 e4
  refine ob1 X4.here hx hby (pc' := 28) d24_3 ((if0 _ _).trans (feq (show ¬ ((1 : Int32) = (0 : Int32)) from (by decide))).2) (by decide) (by decide) ?_
  refine oa X4.here hx hby d24_28 rfl ?_
  refine oa4 X4.here hx hby d24_29 (v := (1 : Int32)) (by decide) ?_
  refine oe1 X4.here hx hby d24_30 (v := (0 : Int32)) (by decide) ?_
  refine oa6 X4.here hx hby d24_31 (l' := #[.val (.ref t), .val (.int 0)]) rfl ?_
  refine oa2 X4.here hx hby d24_32 rfl rfl ?_
  refine oa X4.here hx hby d24_33 rfl ?_
  refine od2 X4.here hx hby d24_34 rfl (v := (1 : Int32)) (by decide) (l' := #[.val (.ref t), .val (.int 1)]) rfl ?_
  refine oe7 X4 hx hZ e4 V_t ⟨by decide, by decide⟩ (v := (.int ((c0 >>> ((0 : Int32) &&& 31)).toInt8.toInt32))) rfl hby d24_37 ?_
  refine od0 X4.here hx hby d24_38 (v := (255 : Int32)) (by decide) ?_
  refine oe9 X4.here hx hby d24_41 rfl ?_
  refine oc3 X4 hx hZ hown (host := "") (Or.inl (oa0 hw 107 rfl)) Via.refl e4 S_HI hby d24_42 ?_
  intro T5 X5 e5
  refine oe1 X5.here hx hby d24_45 rfl ?_
  refine oa2 X5.here hx hby d24_46 rfl rfl ?_
  refine oa X5.here hx hby d24_47 rfl ?_
  refine oe7 X5 hx hZ e5 V_t ⟨by decide, by decide⟩ (v := (.int ((c0 >>> ((8 : Int32) &&& 31)).toInt8.toInt32))) rfl hby d24_48 ?_
  refine od0 X5.here hx hby d24_49 (v := (255 : Int32)) (by decide) ?_
  refine oe9 X5.here hx hby d24_52 rfl ?_
  refine oc3 X5 hx hZ hown (host := "") (Or.inl (oa0 hw 108 rfl)) Via.refl e5 S_LO hby d24_53 ?_
  intro T6 X6 e6
  refine oe1 X6.here hx hby d24_56 rfl ?_
  refine own_ior X6.here hx hby d24_57 rfl ?_
  refine own_i2c X6.here hx hby d24_58 rfl ?_
  refine oa9 X6 Bd.notSynchronized (v := some (.int (nar .char ((((((c0 >>> ((0 : Int32) &&& 31)).toInt8.toInt32) &&& (255 : Int32)) <<< ((0 : Int32) &&& 31)) ||| ((((c0 >>> ((8 : Int32) &&& 31)).toInt8.toInt32) &&& (255 : Int32)) <<< ((8 : Int32) &&& 31))).toUInt32.toUInt16.toUInt32.toInt32)))) (ob4 Bd.returns) (fun _ hr => retN X6 hx (t := .char) Bd.returns (by simp) (hb hby d24_59) hr) e6 (by decide) (by decide) ?_
  exact ⟨(od (own_gc c0 h0_c0 h1_c0)), N0, rfl⟩
def Q_getCh_1_3 (Z : State) (t : Nat) (kb : ClassId) (c0 : Int32) (c1 : Int32) (c2 : Int32) (h0 : Heap) (n0 : Nat) (vR : Option Value) (hR : Heap) (LR : List Loc) : Prop := vR = some (.int c1) ∧ Fr n0 LR ∧ hR = h0
theorem getCh_1_3 (l : Launch) (Z : State) (a0 : Array Value) (hw : ∀ d ∈ tables_1, d.before a0 Z = true) (ws : List Jvm.Cond) (t : Nat) (kb : ClassId) (c0 : Int32) (c1 : Int32) (c2 : Int32) (h0 : Heap) (n0 : Nat) (Z0 : n0 ≤ h0.size) (V_t : Arv Z h0 t kb .byte (6 : Int32) [(.int ((c0 >>> ((0 : Int32) &&& 31)).toInt8.toInt32)), (.int ((c0 >>> ((8 : Int32) &&& 31)).toInt8.toInt32)), (.int ((c1 >>> ((0 : Int32) &&& 31)).toInt8.toInt32)), (.int ((c1 >>> ((8 : Int32) &&& 31)).toInt8.toInt32)), (.int ((c2 >>> ((0 : Int32) &&& 31)).toInt8.toInt32)), (.int ((c2 >>> ((8 : Int32) &&& 31)).toInt8.toInt32))] (.int 0)) (S_AD : Sta Z h0 "java/lang/StringUTF16" "$assertionsDisabled" "Z" (.int 1)) (S_HI : Sta Z h0 "java/lang/StringUTF16" "HI_BYTE_SHIFT" "I" (.int 0)) (S_LO : Sta Z h0 "java/lang/StringUTF16" "LO_BYTE_SHIFT" "I" (.int 8)) (h0_c1 : ¬ (c1 < (0 : Int32))) (h1_c1 : ¬ ((65535 : Int32) < c1)) :
    oc2 l (⟨"java/lang/StringUTF16", "getChar", "([BI)C"⟩ : MethodName) jdk_52_method_5_code 2 (some .char) ws ({ frames := 0, cells := 0, slots := 0, locals := 0 } : Room) Z #[(.ref t), (.int 1)] h0 (Q_getCh_1_3 Z t kb c0 c1 c2 h0 n0) := by
  refine ob3 (own := "java/lang/StringUTF16") rfl (plainFor_of_name pn_24) (fun m => ef_getCh_0_1 m t (1 : Int32)) ?_
  intro p e s m below meth c s₁ Bd hml hZ hh hx hby hown X0 e0
  have N0 := Fr.nil n0
  have lt3 : h0.size > t := V_t.lt
  refine oc3 X0 hx hZ hown (host := "") (Or.inl (oa0 hw 106 rfl)) Via.refl e0 S_AD hby d24_0 ?_
  intro T4 X4 e4
  refine ob1 X4.here hx hby (pc' := 28) d24_3 ((if0 _ _).trans (feq (show ¬ ((1 : Int32) = (0 : Int32)) from (by decide))).2) (by decide) (by decide) ?_
  refine oa X4.here hx hby d24_28 rfl ?_
  refine oa4 X4.here hx hby d24_29 (v := (1 : Int32)) (by decide) ?_
  refine oe1 X4.here hx hby d24_30 (v := (2 : Int32)) (by decide) ?_
  refine oa6 X4.here hx hby d24_31 (l' := #[.val (.ref t), .val (.int 2)]) rfl ?_
  refine oa2 X4.here hx hby d24_32 rfl rfl ?_
  refine oa X4.here hx hby d24_33 rfl ?_
  refine od2 X4.here hx hby d24_34 rfl (v := (3 : Int32)) (by decide) (l' := #[.val (.ref t), .val (.int 3)]) rfl ?_
  refine oe7 X4 hx hZ e4 V_t ⟨by decide, by decide⟩ (v := (.int ((c1 >>> ((0 : Int32) &&& 31)).toInt8.toInt32))) rfl hby d24_37 ?_
  refine od0 X4.here hx hby d24_38 (v := (255 : Int32)) (by decide) ?_
  refine oe9 X4.here hx hby d24_41 rfl ?_
  refine oc3 X4 hx hZ hown (host := "") (Or.inl (oa0 hw 107 rfl)) Via.refl e4 S_HI hby d24_42 ?_
  intro T5 X5 e5
  refine oe1 X5.here hx hby d24_45 rfl ?_
  refine oa2 X5.here hx hby d24_46 rfl rfl ?_
  refine oa X5.here hx hby d24_47 rfl ?_
  refine oe7 X5 hx hZ e5 V_t ⟨by decide, by decide⟩ (v := (.int ((c1 >>> ((8 : Int32) &&& 31)).toInt8.toInt32))) rfl hby d24_48 ?_
  refine od0 X5.here hx hby d24_49 (v := (255 : Int32)) (by decide) ?_
  refine oe9 X5.here hx hby d24_52 rfl ?_
  refine oc3 X5 hx hZ hown (host := "") (Or.inl (oa0 hw 108 rfl)) Via.refl e5 S_LO hby d24_53 ?_
  intro T6 X6 e6
  refine oe1 X6.here hx hby d24_56 rfl ?_
  refine own_ior X6.here hx hby d24_57 rfl ?_
  refine own_i2c X6.here hx hby d24_58 rfl ?_
  refine oa9 X6 Bd.notSynchronized (v := some (.int (nar .char ((((((c1 >>> ((0 : Int32) &&& 31)).toInt8.toInt32) &&& (255 : Int32)) <<< ((0 : Int32) &&& 31)) ||| ((((c1 >>> ((8 : Int32) &&& 31)).toInt8.toInt32) &&& (255 : Int32)) <<< ((8 : Int32) &&& 31))).toUInt32.toUInt16.toUInt32.toInt32)))) (ob4 Bd.returns) (fun _ hr => retN X6 hx (t := .char) Bd.returns (by simp) (hb hby d24_59) hr) e6 (by decide) (by decide) ?_
  exact ⟨(od (own_gc c1 h0_c1 h1_c1)), N0, rfl⟩
def Q_cpU4_0_3_P (Z : State) (t : Nat) (kb : ClassId) (c0 : Int32) (c1 : Int32) (c2 : Int32) (h0 : Heap) (n0 : Nat) (vR : Option Value) (hR : Heap) (LR : List Loc) : Prop := vR = some (.int (oc5 c0 c1)) ∧ Fr n0 LR ∧ hR = h0
theorem cpU4_0_3_P (l : Launch) (Z : State) (a0 : Array Value) (hw : ∀ d ∈ tables_1, d.before a0 Z = true) (ws : List Jvm.Cond) (t : Nat) (kb : ClassId) (c0 : Int32) (c1 : Int32) (c2 : Int32) (h0 : Heap) (n0 : Nat) (Z0 : n0 ≤ h0.size) (V_t : Arv Z h0 t kb .byte (6 : Int32) [(.int ((c0 >>> ((0 : Int32) &&& 31)).toInt8.toInt32)), (.int ((c0 >>> ((8 : Int32) &&& 31)).toInt8.toInt32)), (.int ((c1 >>> ((0 : Int32) &&& 31)).toInt8.toInt32)), (.int ((c1 >>> ((8 : Int32) &&& 31)).toInt8.toInt32)), (.int ((c2 >>> ((0 : Int32) &&& 31)).toInt8.toInt32)), (.int ((c2 >>> ((8 : Int32) &&& 31)).toInt8.toInt32))] (.int 0)) (S_AD : Sta Z h0 "java/lang/StringUTF16" "$assertionsDisabled" "Z" (.int 1)) (S_HI : Sta Z h0 "java/lang/StringUTF16" "HI_BYTE_SHIFT" "I" (.int 0)) (S_LO : Sta Z h0 "java/lang/StringUTF16" "LO_BYTE_SHIFT" "I" (.int 8)) (hp : od1 c0 c1 = true) (h0_c0 : ¬ (c0 < (0 : Int32))) (h1_c0 : ¬ ((65535 : Int32) < c0)) (h0_c1 : ¬ (c1 < (0 : Int32))) (h1_c1 : ¬ ((65535 : Int32) < c1)) :
    oc2 l (⟨"java/lang/StringUTF16", "codePointAt", "([BIIZ)I"⟩ : MethodName) jdk_52_method_7_code 6 (some .int) ws ({ frames := 1, cells := 0, slots := 0, locals := 13 } : Room) Z #[(.ref t), (.int 0), (.int 3), (.int 0)] h0 (Q_cpU4_0_3_P Z t kb c0 c1 c2 h0 n0) := by
  refine ob3 (own := "java/lang/StringUTF16") rfl (plainFor_of_name pn_26) (fun m => ef_cpU4_0_1_S m t (0 : Int32) (3 : Int32) (0 : Int32)) ?_
  intro p e s m below meth c s₁ Bd hml hZ hh hx hby hown X0 e0
  have N0 := Fr.nil n0
  have lt3 : h0.size > t := V_t.lt
  refine oc3 X0 hx hZ hown (host := "") (Or.inl (oa0 hw 106 rfl)) Via.refl e0 S_AD hby d26_0 ?_
  intro T4 X4 e4
  refine ob1 X4.here hx hby (pc' := 19) d26_3 ((if0 _ _).trans (feq (show ¬ ((1 : Int32) = (0 : Int32)) from (by decide))).2) (by decide) (by decide) ?_
  refine oa X4.here hx hby d26_19 rfl ?_
  refine ob1 X4.here hx hby (pc' := 28) d26_20 ((if0 _ _).trans (teq (show (0 : Int32) = (0 : Int32) from (by decide))).1) (by decide) (by decide) ?_
  refine oa2 X4.here hx hby d26_28 rfl rfl ?_
  refine oa X4.here hx hby d26_29 rfl ?_
  refine oa3 X4 hx hZ hown (oa0 hw 109 rfl) (oa0 hw 110 rfl) (oa0 hw 22 rfl) (oa0 hw 111 rfl) (by decide) (getCh_0_3 l Z a0 hw [] t kb c0 c1 c2 h0 n0 Z0 V_t S_AD S_HI S_LO h0_c0 h1_c0) 0 hml rfl (argsL := [(.ref t), (.int 0)]) (st := []) (lenOf pd_7 rfl) rfl rfl e4 hby d26_30 ?_
  intro T5 v5 L5 X5 hQ5
  obtain ⟨rfl, Nq5, eh5⟩ := hQ5
  have N5 := Fr.app N0 Nq5
  refine oa5 (T := T5) 33 #[.val (.ref t), .val (.int 0), .val (.int 3), .val (.int 0), .unset, .unset] [(.int c0)] ?_
  refine ob8 X5.here hx hby d26_33 (l' := #[.val (.ref t), .val (.int 0), .val (.int 3), .val (.int 0), .val (.int c0), .unset]) rfl ?_
  refine oa8 X5.here hx hby d26_35 rfl ?_
  refine oa3 X5 hx hZ hown (oa0 hw 118 rfl) (oa0 hw 119 rfl) (oa0 hw 86 rfl) (oa0 hw 120 rfl) (by decide) (isHighS l Z a0 hw [] c0 h0 n0 Z0 ) 0 hml rfl (argsL := [(.int c0)]) (st := []) (lenOf pd_1 rfl) rfl rfl eh5 hby d26_37 ?_
  intro T6 v6 L6 X6 hQ6
  obtain ⟨rfl, Nq6, eh6⟩ := hQ6
  have N6 := Fr.app N5 Nq6
  refine oa5 (T := T6) 40 #[.val (.ref t), .val (.int 0), .val (.int 3), .val (.int 0), .val (.int c0), .unset] [(.int (oc9 c0))] ?_
  refine ob7 X6.here hx hby d26_40 ((if0 _ _).trans (feq (show ¬ ((oc9 c0) = (0 : Int32)) from og (og4 hp).1)).1) ?_
  refine od2 X6.here hx hby d26_43 rfl (v := (1 : Int32)) (by decide) (l' := #[.val (.ref t), .val (.int 1), .val (.int 3), .val (.int 0), .val (.int c0), .unset]) rfl ?_
  refine oa X6.here hx hby d26_46 rfl ?_
  refine oa X6.here hx hby d26_47 rfl ?_
  refine oa7 X6.here hx hby d26_48 (tlt (show (1 : Int32) < (3 : Int32) from (by decide))).2.1 ?_
  refine oa X6.here hx hby d26_51 rfl ?_
  refine ob1 X6.here hx hby (pc' := 60) d26_52 ((if0 _ _).trans (teq (show (0 : Int32) = (0 : Int32) from (by decide))).1) (by decide) (by decide) ?_
  refine oa2 X6.here hx hby d26_60 rfl rfl ?_
  refine oa X6.here hx hby d26_61 rfl ?_
  refine oa3 X6 hx hZ hown (oa0 hw 109 rfl) (oa0 hw 110 rfl) (oa0 hw 22 rfl) (oa0 hw 111 rfl) (by decide) (getCh_1_3 l Z a0 hw [] t kb c0 c1 c2 h0 n0 Z0 V_t S_AD S_HI S_LO h0_c1 h1_c1) 0 hml rfl (argsL := [(.ref t), (.int 1)]) (st := []) (lenOf pd_7 rfl) rfl rfl eh6 hby d26_62 ?_
  intro T7 v7 L7 X7 hQ7
  obtain ⟨rfl, Nq7, eh7⟩ := hQ7
  have N7 := Fr.app N6 Nq7
  refine oa5 (T := T7) 65 #[.val (.ref t), .val (.int 1), .val (.int 3), .val (.int 0), .val (.int c0), .unset] [(.int c1)] ?_
  refine ob8 X7.here hx hby d26_65 (l' := #[.val (.ref t), .val (.int 1), .val (.int 3), .val (.int 0), .val (.int c0), .val (.int c1)]) rfl ?_
  refine oa8 X7.here hx hby d26_67 rfl ?_
  refine oa3 X7 hx hZ hown (oa0 hw 126 rfl) (oa0 hw 127 rfl) (oa0 hw 86 rfl) (oa0 hw 128 rfl) (by decide) (isLowS l Z a0 hw [] c1 h0 n0 Z0 ) 0 hml rfl (argsL := [(.int c1)]) (st := []) (lenOf pd_1 rfl) rfl rfl eh7 hby d26_69 ?_
  intro T8 v8 L8 X8 hQ8
  obtain ⟨rfl, Nq8, eh8⟩ := hQ8
  have N8 := Fr.app N7 Nq8
  refine oa5 (T := T8) 72 #[.val (.ref t), .val (.int 1), .val (.int 3), .val (.int 0), .val (.int c0), .val (.int c1)] [(.int (od7 c1))] ?_
  refine ob7 X8.here hx hby d26_72 ((if0 _ _).trans (feq (show ¬ ((od7 c1) = (0 : Int32)) from og (og4 hp).2)).1) ?_
  refine oa8 X8.here hx hby d26_75 rfl ?_
  refine oa8 X8.here hx hby d26_77 rfl ?_
  refine oa3 X8 hx hZ hown (oa0 hw 134 rfl) (oa0 hw 135 rfl) (oa0 hw 86 rfl) (oa0 hw 136 rfl) (by decide) (toCP l Z a0 hw [] c0 c1 h0 n0 Z0 ) 0 hml rfl (argsL := [(.int c0), (.int c1)]) (st := []) (lenOf pd_10 rfl) rfl rfl eh8 hby d26_79 ?_
  intro T9 v9 L9 X9 hQ9
  obtain ⟨rfl, Nq9, eh9⟩ := hQ9
  have N9 := Fr.app N8 Nq9
  refine oa5 (T := T9) 82 #[.val (.ref t), .val (.int 1), .val (.int 3), .val (.int 0), .val (.int c0), .val (.int c1)] [(.int (oc5 c0 c1))] ?_
  refine oa9 X9 Bd.notSynchronized (v := some (.int (oc5 c0 c1))) (ob4 Bd.returns) (fun _ hr => retOut X9 hx Bd.returns rfl (Or.inl ⟨rfl, Or.inl rfl, _, rfl⟩) (hb hby d26_82) hr) eh9 (by decide) (by decide) ?_
  exact ⟨rfl, N9, rfl⟩
def Q_cpU3_0_3_P (Z : State) (t : Nat) (kb : ClassId) (c0 : Int32) (c1 : Int32) (c2 : Int32) (h0 : Heap) (n0 : Nat) (vR : Option Value) (hR : Heap) (LR : List Loc) : Prop := vR = some (.int (oc5 c0 c1)) ∧ Fr n0 LR ∧ hR = h0
theorem cpU3_0_3_P (l : Launch) (Z : State) (a0 : Array Value) (hw : ∀ d ∈ tables_1, d.before a0 Z = true) (ws : List Jvm.Cond) (t : Nat) (kb : ClassId) (c0 : Int32) (c1 : Int32) (c2 : Int32) (h0 : Heap) (n0 : Nat) (Z0 : n0 ≤ h0.size) (V_t : Arv Z h0 t kb .byte (6 : Int32) [(.int ((c0 >>> ((0 : Int32) &&& 31)).toInt8.toInt32)), (.int ((c0 >>> ((8 : Int32) &&& 31)).toInt8.toInt32)), (.int ((c1 >>> ((0 : Int32) &&& 31)).toInt8.toInt32)), (.int ((c1 >>> ((8 : Int32) &&& 31)).toInt8.toInt32)), (.int ((c2 >>> ((0 : Int32) &&& 31)).toInt8.toInt32)), (.int ((c2 >>> ((8 : Int32) &&& 31)).toInt8.toInt32))] (.int 0)) (S_AD : Sta Z h0 "java/lang/StringUTF16" "$assertionsDisabled" "Z" (.int 1)) (S_HI : Sta Z h0 "java/lang/StringUTF16" "HI_BYTE_SHIFT" "I" (.int 0)) (S_LO : Sta Z h0 "java/lang/StringUTF16" "LO_BYTE_SHIFT" "I" (.int 8)) (hp : od1 c0 c1 = true) (h0_c0 : ¬ (c0 < (0 : Int32))) (h1_c0 : ¬ ((65535 : Int32) < c0)) (h0_c1 : ¬ (c1 < (0 : Int32))) (h1_c1 : ¬ ((65535 : Int32) < c1)) :
    oc2 l (⟨"java/lang/StringUTF16", "codePointAt", "([BII)I"⟩ : MethodName) jdk_52_method_8_code 3 (some .int) ws ({ frames := 2, cells := 0, slots := 0, locals := 30 } : Room) Z #[(.ref t), (.int 0), (.int 3)] h0 (Q_cpU3_0_3_P Z t kb c0 c1 c2 h0 n0) := by
  refine ob3 (own := "java/lang/StringUTF16") rfl (plainFor_of_name pn_25) (fun m => ef_cpU3_0_1_S m t (0 : Int32) (3 : Int32)) ?_
  intro p e s m below meth c s₁ Bd hml hZ hh hx hby hown X0 e0
  have N0 := Fr.nil n0
  have lt3 : h0.size > t := V_t.lt
  refine oa2 X0.here hx hby d25_0 rfl rfl ?_
  refine oa X0.here hx hby d25_1 rfl ?_
  refine oa X0.here hx hby d25_2 rfl ?_
  refine oa4 X0.here hx hby d25_3 (v := (0 : Int32)) (by decide) ?_
  refine oa3 X0 hx hZ hown (oa0 hw 115 rfl) (oa0 hw 116 rfl) (oa0 hw 22 rfl) (oa0 hw 117 rfl) (by decide) (cpU4_0_3_P l Z a0 hw [] t kb c0 c1 c2 h0 n0 Z0 V_t S_AD S_HI S_LO hp h0_c0 h1_c0 h0_c1 h1_c1) 0 hml rfl (argsL := [(.ref t), (.int 0), (.int 3), (.int 0)]) (st := []) (lenOf pd_8 rfl) rfl rfl e0 hby d25_4 ?_
  intro T4 v4 L4 X4 hQ4
  obtain ⟨rfl, Nq4, eh4⟩ := hQ4
  have N4 := Fr.app N0 Nq4
  refine oa5 (T := T4) 7 #[.val (.ref t), .val (.int 0), .val (.int 3)] [(.int (oc5 c0 c1))] ?_
  refine oa9 X4 Bd.notSynchronized (v := some (.int (oc5 c0 c1))) (ob4 Bd.returns) (fun _ hr => retOut X4 hx Bd.returns rfl (Or.inl ⟨rfl, Or.inl rfl, _, rfl⟩) (hb hby d25_7) hr) eh4 (by decide) (by decide) ?_
  exact ⟨rfl, N4, rfl⟩
def Q_cpU_0_3_P (Z : State) (x : Nat) (t : Nat) (kb : ClassId) (zc : Int32) (fm : Value) (c0 : Int32) (c1 : Int32) (c2 : Int32) (h0 : Heap) (n0 : Nat) (vR : Option Value) (hR : Heap) (LR : List Loc) : Prop := vR = some (.int (oc5 c0 c1)) ∧ Fr n0 LR ∧ hR = h0
theorem cpU_0_3_P (l : Launch) (Z : State) (a0 : Array Value) (hw : ∀ d ∈ tables_1, d.before a0 Z = true) (ws : List Jvm.Cond) (x : Nat) (t : Nat) (kb : ClassId) (zc : Int32) (fm : Value) (c0 : Int32) (c1 : Int32) (c2 : Int32) (h0 : Heap) (n0 : Nat) (Z0 : n0 ≤ h0.size) (E_x : Exa Z h0 x "java/lang/String") (Fc_x : Fld Z h0 x "java/lang/String" "coder" "B" (.int 1)) (Fv_x : Fld Z h0 x "java/lang/String" "value" "[B" (.ref t)) (V_t : Arv Z h0 t kb .byte (6 : Int32) [(.int ((c0 >>> ((0 : Int32) &&& 31)).toInt8.toInt32)), (.int ((c0 >>> ((8 : Int32) &&& 31)).toInt8.toInt32)), (.int ((c1 >>> ((0 : Int32) &&& 31)).toInt8.toInt32)), (.int ((c1 >>> ((8 : Int32) &&& 31)).toInt8.toInt32)), (.int ((c2 >>> ((0 : Int32) &&& 31)).toInt8.toInt32)), (.int ((c2 >>> ((8 : Int32) &&& 31)).toInt8.toInt32))] (.int 0)) (S_C : Sta Z h0 "java/lang/String" "COMPACT_STRINGS" "Z" (.int zc)) (hz : ¬ (zc = (0 : Int32))) (S_FM : Sta Z h0 "jdk/internal/util/Preconditions" "SIOOBE_FORMATTER" "Ljava/util/function/BiFunction;" fm) (hfm : fm.isRef = true) (S_AD : Sta Z h0 "java/lang/StringUTF16" "$assertionsDisabled" "Z" (.int 1)) (S_HI : Sta Z h0 "java/lang/StringUTF16" "HI_BYTE_SHIFT" "I" (.int 0)) (S_LO : Sta Z h0 "java/lang/StringUTF16" "LO_BYTE_SHIFT" "I" (.int 8)) (hp : od1 c0 c1 = true) (h0_c0 : ¬ (c0 < (0 : Int32))) (h1_c0 : ¬ ((65535 : Int32) < c0)) (h0_c1 : ¬ (c1 < (0 : Int32))) (h1_c1 : ¬ ((65535 : Int32) < c1)) :
    oc2 l (⟨"java/lang/String", "codePointAt", "(I)I"⟩ : MethodName) jdk_42_method_57_code 3 (some .int) ws ({ frames := 3, cells := 0, slots := 0, locals := 44 } : Room) Z #[(.ref x), (.int 0)] h0 (Q_cpU_0_3_P Z x t kb zc fm c0 c1 c2 h0 n0) := by
  refine ob3 (own := "java/lang/String") rfl (plainFor_of_name pn_11) (fun m => ef_cpL_0_1 m x (0 : Int32)) ?_
  intro p e s m below meth c s₁ Bd hml hZ hh hx hby hown X0 e0
  have N0 := Fr.nil n0
  have lt3 : h0.size > x := E_x.lt
  have lt4 : h0.size > t := V_t.lt
  refine oa2 X0.here hx hby d11_0 rfl rfl ?_
  refine ob6 X0 hx hZ hown (oa0 hw 54 rfl) (oa0 hw 55 rfl) (notFace_of_selects (args := #[]) (mvT hZ (oa0 hw 57 rfl))) (oa0 hw 57 rfl) (oa0 hw 56 rfl) (oa0 hw 8 rfl) (oa0 hw 58 rfl) (by decide) (isLatU l Z a0 hw [] x zc h0 n0 Z0 Fc_x S_C hz) 0 hml rfl (argsL := []) (st := []) E_x (lenOf pd_4 rfl) rfl rfl e0 hby d11_1 ?_
  intro T5 v5 L5 X5 hQ5
  obtain ⟨rfl, Nq5, eh5⟩ := hQ5
  have N5 := Fr.app N0 Nq5
  refine oa5 (T := T5) 4 #[.val (.ref x), .val (.int 0), .unset] [(.int 0)] ?_
  refine ob1 X5.here hx hby (pc' := 27) d11_4 ((if0 _ _).trans (teq (show (0 : Int32) = (0 : Int32) from (by decide))).1) (by decide) (by decide) ?_
  refine oa2 X5.here hx hby d11_27 rfl rfl ?_
  refine od3 X5 hx hZ hown (host := "") (Or.inl (oa0 hw 33 rfl)) Via.refl eh5 Fv_x hby d11_28 ?_
  intro T6 X6 e6
  refine oe X6 hx hZ e6 V_t hby d11_31 ?_
  refine oa4 X6.here hx hby d11_32 (v := (1 : Int32)) (by decide) ?_
  refine oe2 X6.here hx hby d11_33 (v := (3 : Int32)) (by decide) ?_
  refine oa6 X6.here hx hby d11_34 (l' := #[.val (.ref x), .val (.int 0), .val (.int 3)]) rfl ?_
  refine oa X6.here hx hby d11_35 rfl ?_
  refine oa X6.here hx hby d11_36 rfl ?_
  refine oa3 X6 hx hZ hown (oa0 hw 59 rfl) (oa0 hw 60 rfl) (oa0 hw 8 rfl) (oa0 hw 61 rfl) (by decide) (strChk_0_3 l Z a0 hw [] fm h0 n0 Z0 S_FM hfm) 0 hml rfl (argsL := [(.int 0), (.int 3)]) (st := []) (lenOf pd_5 rfl) rfl rfl e6 hby d11_37 ?_
  intro T7 v7 L7 X7 hQ7
  obtain ⟨rfl, Nq7, eh7⟩ := hQ7
  have N7 := Fr.app N5 Nq7
  refine oa5 (T := T7) 40 #[.val (.ref x), .val (.int 0), .val (.int 3)] [] ?_
  refine oa2 X7.here hx hby d11_40 rfl rfl ?_
  refine od3 X7 hx hZ hown (host := "") (Or.inl (oa0 hw 33 rfl)) Via.refl eh7 Fv_x hby d11_41 ?_
  intro T8 X8 e8
  refine oa X8.here hx hby d11_44 rfl ?_
  refine oa X8.here hx hby d11_45 rfl ?_
  refine oa3 X8 hx hZ hown (oa0 hw 112 rfl) (oa0 hw 113 rfl) (oa0 hw 22 rfl) (oa0 hw 114 rfl) (by decide) (cpU3_0_3_P l Z a0 hw [] t kb c0 c1 c2 h0 n0 Z0 V_t S_AD S_HI S_LO hp h0_c0 h1_c0 h0_c1 h1_c1) 0 hml rfl (argsL := [(.ref t), (.int 0), (.int 3)]) (st := []) (lenOf pd_9 rfl) rfl rfl e8 hby d11_46 ?_
  intro T9 v9 L9 X9 hQ9
  obtain ⟨rfl, Nq9, eh9⟩ := hQ9
  have N9 := Fr.app N7 Nq9
  refine oa5 (T := T9) 49 #[.val (.ref x), .val (.int 0), .val (.int 3)] [(.int (oc5 c0 c1))] ?_
  refine oa9 X9 Bd.notSynchronized (v := some (.int (oc5 c0 c1))) (ob4 Bd.returns) (fun _ hr => retOut X9 hx Bd.returns rfl (Or.inl ⟨rfl, Or.inl rfl, _, rfl⟩) (hb hby d11_49) hr) eh9 (by decide) (by decide) ?_
  exact ⟨rfl, N9, rfl⟩
def Q_cpU4_0_3_S (Z : State) (t : Nat) (kb : ClassId) (c0 : Int32) (c1 : Int32) (c2 : Int32) (h0 : Heap) (n0 : Nat) (vR : Option Value) (hR : Heap) (LR : List Loc) : Prop := vR = some (.int c0) ∧ Fr n0 LR ∧ hR = h0
theorem cpU4_0_3_S (l : Launch) (Z : State) (a0 : Array Value) (hw : ∀ d ∈ tables_1, d.before a0 Z = true) (ws : List Jvm.Cond) (t : Nat) (kb : ClassId) (c0 : Int32) (c1 : Int32) (c2 : Int32) (h0 : Heap) (n0 : Nat) (Z0 : n0 ≤ h0.size) (V_t : Arv Z h0 t kb .byte (6 : Int32) [(.int ((c0 >>> ((0 : Int32) &&& 31)).toInt8.toInt32)), (.int ((c0 >>> ((8 : Int32) &&& 31)).toInt8.toInt32)), (.int ((c1 >>> ((0 : Int32) &&& 31)).toInt8.toInt32)), (.int ((c1 >>> ((8 : Int32) &&& 31)).toInt8.toInt32)), (.int ((c2 >>> ((0 : Int32) &&& 31)).toInt8.toInt32)), (.int ((c2 >>> ((8 : Int32) &&& 31)).toInt8.toInt32))] (.int 0)) (S_AD : Sta Z h0 "java/lang/StringUTF16" "$assertionsDisabled" "Z" (.int 1)) (S_HI : Sta Z h0 "java/lang/StringUTF16" "HI_BYTE_SHIFT" "I" (.int 0)) (S_LO : Sta Z h0 "java/lang/StringUTF16" "LO_BYTE_SHIFT" "I" (.int 8)) (hp : od1 c0 c1 = false) (h0_c0 : ¬ (c0 < (0 : Int32))) (h1_c0 : ¬ ((65535 : Int32) < c0)) (h0_c1 : ¬ (c1 < (0 : Int32))) (h1_c1 : ¬ ((65535 : Int32) < c1)) :
    oc2 l (⟨"java/lang/StringUTF16", "codePointAt", "([BIIZ)I"⟩ : MethodName) jdk_52_method_7_code 6 (some .int) ws ({ frames := 1, cells := 0, slots := 0, locals := 13 } : Room) Z #[(.ref t), (.int 0), (.int 3), (.int 0)] h0 (Q_cpU4_0_3_S Z t kb c0 c1 c2 h0 n0) := by
  refine ob3 (own := "java/lang/StringUTF16") rfl (plainFor_of_name pn_26) (fun m => ef_cpU4_0_1_S m t (0 : Int32) (3 : Int32) (0 : Int32)) ?_
  intro p e s m below meth c s₁ Bd hml hZ hh hx hby hown X0 e0
  have N0 := Fr.nil n0
  have lt3 : h0.size > t := V_t.lt
  refine oc3 X0 hx hZ hown (host := "") (Or.inl (oa0 hw 106 rfl)) Via.refl e0 S_AD hby d26_0 ?_
  intro T4 X4 e4
  refine ob1 X4.here hx hby (pc' := 19) d26_3 ((if0 _ _).trans (feq (show ¬ ((1 : Int32) = (0 : Int32)) from (by decide))).2) (by decide) (by decide) ?_
  refine oa X4.here hx hby d26_19 rfl ?_
  refine ob1 X4.here hx hby (pc' := 28) d26_20 ((if0 _ _).trans (teq (show (0 : Int32) = (0 : Int32) from (by decide))).1) (by decide) (by decide) ?_
  refine oa2 X4.here hx hby d26_28 rfl rfl ?_
  refine oa X4.here hx hby d26_29 rfl ?_
  refine oa3 X4 hx hZ hown (oa0 hw 109 rfl) (oa0 hw 110 rfl) (oa0 hw 22 rfl) (oa0 hw 111 rfl) (by decide) (getCh_0_3 l Z a0 hw [] t kb c0 c1 c2 h0 n0 Z0 V_t S_AD S_HI S_LO h0_c0 h1_c0) 0 hml rfl (argsL := [(.ref t), (.int 0)]) (st := []) (lenOf pd_7 rfl) rfl rfl e4 hby d26_30 ?_
  intro T5 v5 L5 X5 hQ5
  obtain ⟨rfl, Nq5, eh5⟩ := hQ5
  have N5 := Fr.app N0 Nq5
  refine oa5 (T := T5) 33 #[.val (.ref t), .val (.int 0), .val (.int 3), .val (.int 0), .unset, .unset] [(.int c0)] ?_
  refine ob8 X5.here hx hby d26_33 (l' := #[.val (.ref t), .val (.int 0), .val (.int 3), .val (.int 0), .val (.int c0), .unset]) rfl ?_
  refine oa8 X5.here hx hby d26_35 rfl ?_
  refine oa3 X5 hx hZ hown (oa0 hw 118 rfl) (oa0 hw 119 rfl) (oa0 hw 86 rfl) (oa0 hw 120 rfl) (by decide) (isHighS l Z a0 hw [] c0 h0 n0 Z0 ) 0 hml rfl (argsL := [(.int c0)]) (st := []) (lenOf pd_1 rfl) rfl rfl eh5 hby d26_37 ?_
  intro T6 v6 L6 X6 hQ6
  obtain ⟨rfl, Nq6, eh6⟩ := hQ6
  have N6 := Fr.app N5 Nq6
  refine oa5 (T := T6) 40 #[.val (.ref t), .val (.int 0), .val (.int 3), .val (.int 0), .val (.int c0), .unset] [(.int (oc9 c0))] ?_
  by_cases hc40_7 : (oc9 c0) = (0 : Int32)
  · refine ob1 X6.here hx hby (pc' := 83) d26_40 ((if0 _ _).trans (teq hc40_7).1) (by decide) (by decide) ?_
    refine oa8 X6.here hx hby d26_83 rfl ?_
    refine oa9 X6 Bd.notSynchronized (v := some (.int c0)) (ob4 Bd.returns) (fun _ hr => retOut X6 hx Bd.returns rfl (Or.inl ⟨rfl, Or.inl rfl, _, rfl⟩) (hb hby d26_85) hr) eh6 (by decide) (by decide) ?_
    exact ⟨rfl, N6, rfl⟩
  · refine ob7 X6.here hx hby d26_40 ((if0 _ _).trans (feq hc40_7).1) ?_
    refine od2 X6.here hx hby d26_43 rfl (v := (1 : Int32)) (by decide) (l' := #[.val (.ref t), .val (.int 1), .val (.int 3), .val (.int 0), .val (.int c0), .unset]) rfl ?_
    refine oa X6.here hx hby d26_46 rfl ?_
    refine oa X6.here hx hby d26_47 rfl ?_
    refine oa7 X6.here hx hby d26_48 (tlt (show (1 : Int32) < (3 : Int32) from (by decide))).2.1 ?_
    refine oa X6.here hx hby d26_51 rfl ?_
    refine ob1 X6.here hx hby (pc' := 60) d26_52 ((if0 _ _).trans (teq (show (0 : Int32) = (0 : Int32) from (by decide))).1) (by decide) (by decide) ?_
    refine oa2 X6.here hx hby d26_60 rfl rfl ?_
    refine oa X6.here hx hby d26_61 rfl ?_
    refine oa3 X6 hx hZ hown (oa0 hw 109 rfl) (oa0 hw 110 rfl) (oa0 hw 22 rfl) (oa0 hw 111 rfl) (by decide) (getCh_1_3 l Z a0 hw [] t kb c0 c1 c2 h0 n0 Z0 V_t S_AD S_HI S_LO h0_c1 h1_c1) 0 hml rfl (argsL := [(.ref t), (.int 1)]) (st := []) (lenOf pd_7 rfl) rfl rfl eh6 hby d26_62 ?_
    intro T8 v8 L8 X8 hQ8
    obtain ⟨rfl, Nq8, eh8⟩ := hQ8
    have N8 := Fr.app N6 Nq8
    refine oa5 (T := T8) 65 #[.val (.ref t), .val (.int 1), .val (.int 3), .val (.int 0), .val (.int c0), .unset] [(.int c1)] ?_
    refine ob8 X8.here hx hby d26_65 (l' := #[.val (.ref t), .val (.int 1), .val (.int 3), .val (.int 0), .val (.int c0), .val (.int c1)]) rfl ?_
    refine oa8 X8.here hx hby d26_67 rfl ?_
    refine oa3 X8 hx hZ hown (oa0 hw 126 rfl) (oa0 hw 127 rfl) (oa0 hw 86 rfl) (oa0 hw 128 rfl) (by decide) (isLowS l Z a0 hw [] c1 h0 n0 Z0 ) 0 hml rfl (argsL := [(.int c1)]) (st := []) (lenOf pd_1 rfl) rfl rfl eh8 hby d26_69 ?_
    intro T9 v9 L9 X9 hQ9
    obtain ⟨rfl, Nq9, eh9⟩ := hQ9
    have N9 := Fr.app N8 Nq9
    refine oa5 (T := T9) 72 #[.val (.ref t), .val (.int 1), .val (.int 3), .val (.int 0), .val (.int c0), .val (.int c1)] [(.int (od7 c1))] ?_
    by_cases hc72_10 : (od7 c1) = (0 : Int32)
    · refine ob1 X9.here hx hby (pc' := 83) d26_72 ((if0 _ _).trans (teq hc72_10).1) (by decide) (by decide) ?_
      refine oa8 X9.here hx hby d26_83 rfl ?_
      refine oa9 X9 Bd.notSynchronized (v := some (.int c0)) (ob4 Bd.returns) (fun _ hr => retOut X9 hx Bd.returns rfl (Or.inl ⟨rfl, Or.inl rfl, _, rfl⟩) (hb hby d26_85) hr) eh9 (by decide) (by decide) ?_
      exact ⟨rfl, N9, rfl⟩
    · refine ob7 X9.here hx hby d26_72 ((if0 _ _).trans (feq hc72_10).1) ?_
      exact (own_pX hp hc40_7 hc72_10).elim
def Q_cpU3_0_3_S (Z : State) (t : Nat) (kb : ClassId) (c0 : Int32) (c1 : Int32) (c2 : Int32) (h0 : Heap) (n0 : Nat) (vR : Option Value) (hR : Heap) (LR : List Loc) : Prop := vR = some (.int c0) ∧ Fr n0 LR ∧ hR = h0
theorem cpU3_0_3_S (l : Launch) (Z : State) (a0 : Array Value) (hw : ∀ d ∈ tables_1, d.before a0 Z = true) (ws : List Jvm.Cond) (t : Nat) (kb : ClassId) (c0 : Int32) (c1 : Int32) (c2 : Int32) (h0 : Heap) (n0 : Nat) (Z0 : n0 ≤ h0.size) (V_t : Arv Z h0 t kb .byte (6 : Int32) [(.int ((c0 >>> ((0 : Int32) &&& 31)).toInt8.toInt32)), (.int ((c0 >>> ((8 : Int32) &&& 31)).toInt8.toInt32)), (.int ((c1 >>> ((0 : Int32) &&& 31)).toInt8.toInt32)), (.int ((c1 >>> ((8 : Int32) &&& 31)).toInt8.toInt32)), (.int ((c2 >>> ((0 : Int32) &&& 31)).toInt8.toInt32)), (.int ((c2 >>> ((8 : Int32) &&& 31)).toInt8.toInt32))] (.int 0)) (S_AD : Sta Z h0 "java/lang/StringUTF16" "$assertionsDisabled" "Z" (.int 1)) (S_HI : Sta Z h0 "java/lang/StringUTF16" "HI_BYTE_SHIFT" "I" (.int 0)) (S_LO : Sta Z h0 "java/lang/StringUTF16" "LO_BYTE_SHIFT" "I" (.int 8)) (hp : od1 c0 c1 = false) (h0_c0 : ¬ (c0 < (0 : Int32))) (h1_c0 : ¬ ((65535 : Int32) < c0)) (h0_c1 : ¬ (c1 < (0 : Int32))) (h1_c1 : ¬ ((65535 : Int32) < c1)) :
    oc2 l (⟨"java/lang/StringUTF16", "codePointAt", "([BII)I"⟩ : MethodName) jdk_52_method_8_code 3 (some .int) ws ({ frames := 2, cells := 0, slots := 0, locals := 30 } : Room) Z #[(.ref t), (.int 0), (.int 3)] h0 (Q_cpU3_0_3_S Z t kb c0 c1 c2 h0 n0) := by
  refine ob3 (own := "java/lang/StringUTF16") rfl (plainFor_of_name pn_25) (fun m => ef_cpU3_0_1_S m t (0 : Int32) (3 : Int32)) ?_
  intro p e s m below meth c s₁ Bd hml hZ hh hx hby hown X0 e0
  have N0 := Fr.nil n0
  have lt3 : h0.size > t := V_t.lt
  refine oa2 X0.here hx hby d25_0 rfl rfl ?_
  refine oa X0.here hx hby d25_1 rfl ?_
  refine oa X0.here hx hby d25_2 rfl ?_
  refine oa4 X0.here hx hby d25_3 (v := (0 : Int32)) (by decide) ?_
  refine oa3 X0 hx hZ hown (oa0 hw 115 rfl) (oa0 hw 116 rfl) (oa0 hw 22 rfl) (oa0 hw 117 rfl) (by decide) (cpU4_0_3_S l Z a0 hw [] t kb c0 c1 c2 h0 n0 Z0 V_t S_AD S_HI S_LO hp h0_c0 h1_c0 h0_c1 h1_c1) 0 hml rfl (argsL := [(.ref t), (.int 0), (.int 3), (.int 0)]) (st := []) (lenOf pd_8 rfl) rfl rfl e0 hby d25_4 ?_
  intro T4 v4 L4 X4 hQ4
  obtain ⟨rfl, Nq4, eh4⟩ := hQ4
  have N4 := Fr.app N0 Nq4
  refine oa5 (T := T4) 7 #[.val (.ref t), .val (.int 0), .val (.int 3)] [(.int c0)] ?_
  refine oa9 X4 Bd.notSynchronized (v := some (.int c0)) (ob4 Bd.returns) (fun _ hr => retOut X4 hx Bd.returns rfl (Or.inl ⟨rfl, Or.inl rfl, _, rfl⟩) (hb hby d25_7) hr) eh4 (by decide) (by decide) ?_
  exact ⟨rfl, N4, rfl⟩
def Q_cpU_0_3_S (Z : State) (x : Nat) (t : Nat) (kb : ClassId) (zc : Int32) (fm : Value) (c0 : Int32) (c1 : Int32) (c2 : Int32) (h0 : Heap) (n0 : Nat) (vR : Option Value) (hR : Heap) (LR : List Loc) : Prop := vR = some (.int c0) ∧ Fr n0 LR ∧ hR = h0
theorem cpU_0_3_S (l : Launch) (Z : State) (a0 : Array Value) (hw : ∀ d ∈ tables_1, d.before a0 Z = true) (ws : List Jvm.Cond) (x : Nat) (t : Nat) (kb : ClassId) (zc : Int32) (fm : Value) (c0 : Int32) (c1 : Int32) (c2 : Int32) (h0 : Heap) (n0 : Nat) (Z0 : n0 ≤ h0.size) (E_x : Exa Z h0 x "java/lang/String") (Fc_x : Fld Z h0 x "java/lang/String" "coder" "B" (.int 1)) (Fv_x : Fld Z h0 x "java/lang/String" "value" "[B" (.ref t)) (V_t : Arv Z h0 t kb .byte (6 : Int32) [(.int ((c0 >>> ((0 : Int32) &&& 31)).toInt8.toInt32)), (.int ((c0 >>> ((8 : Int32) &&& 31)).toInt8.toInt32)), (.int ((c1 >>> ((0 : Int32) &&& 31)).toInt8.toInt32)), (.int ((c1 >>> ((8 : Int32) &&& 31)).toInt8.toInt32)), (.int ((c2 >>> ((0 : Int32) &&& 31)).toInt8.toInt32)), (.int ((c2 >>> ((8 : Int32) &&& 31)).toInt8.toInt32))] (.int 0)) (S_C : Sta Z h0 "java/lang/String" "COMPACT_STRINGS" "Z" (.int zc)) (hz : ¬ (zc = (0 : Int32))) (S_FM : Sta Z h0 "jdk/internal/util/Preconditions" "SIOOBE_FORMATTER" "Ljava/util/function/BiFunction;" fm) (hfm : fm.isRef = true) (S_AD : Sta Z h0 "java/lang/StringUTF16" "$assertionsDisabled" "Z" (.int 1)) (S_HI : Sta Z h0 "java/lang/StringUTF16" "HI_BYTE_SHIFT" "I" (.int 0)) (S_LO : Sta Z h0 "java/lang/StringUTF16" "LO_BYTE_SHIFT" "I" (.int 8)) (hp : od1 c0 c1 = false) (h0_c0 : ¬ (c0 < (0 : Int32))) (h1_c0 : ¬ ((65535 : Int32) < c0)) (h0_c1 : ¬ (c1 < (0 : Int32))) (h1_c1 : ¬ ((65535 : Int32) < c1)) :
    oc2 l (⟨"java/lang/String", "codePointAt", "(I)I"⟩ : MethodName) jdk_42_method_57_code 3 (some .int) ws ({ frames := 3, cells := 0, slots := 0, locals := 44 } : Room) Z #[(.ref x), (.int 0)] h0 (Q_cpU_0_3_S Z x t kb zc fm c0 c1 c2 h0 n0) := by
  refine ob3 (own := "java/lang/String") rfl (plainFor_of_name pn_11) (fun m => ef_cpL_0_1 m x (0 : Int32)) ?_
  intro p e s m below meth c s₁ Bd hml hZ hh hx hby hown X0 e0
  have N0 := Fr.nil n0
  have lt3 : h0.size > x := E_x.lt
  have lt4 : h0.size > t := V_t.lt
  refine oa2 X0.here hx hby d11_0 rfl rfl ?_
  refine ob6 X0 hx hZ hown (oa0 hw 54 rfl) (oa0 hw 55 rfl) (notFace_of_selects (args := #[]) (mvT hZ (oa0 hw 57 rfl))) (oa0 hw 57 rfl) (oa0 hw 56 rfl) (oa0 hw 8 rfl) (oa0 hw 58 rfl) (by decide) (isLatU l Z a0 hw [] x zc h0 n0 Z0 Fc_x S_C hz) 0 hml rfl (argsL := []) (st := []) E_x (lenOf pd_4 rfl) rfl rfl e0 hby d11_1 ?_
  intro T5 v5 L5 X5 hQ5
  obtain ⟨rfl, Nq5, eh5⟩ := hQ5
  have N5 := Fr.app N0 Nq5
  refine oa5 (T := T5) 4 #[.val (.ref x), .val (.int 0), .unset] [(.int 0)] ?_
  refine ob1 X5.here hx hby (pc' := 27) d11_4 ((if0 _ _).trans (teq (show (0 : Int32) = (0 : Int32) from (by decide))).1) (by decide) (by decide) ?_
  refine oa2 X5.here hx hby d11_27 rfl rfl ?_
  refine od3 X5 hx hZ hown (host := "") (Or.inl (oa0 hw 33 rfl)) Via.refl eh5 Fv_x hby d11_28 ?_
  intro T6 X6 e6
  refine oe X6 hx hZ e6 V_t hby d11_31 ?_
  refine oa4 X6.here hx hby d11_32 (v := (1 : Int32)) (by decide) ?_
  refine oe2 X6.here hx hby d11_33 (v := (3 : Int32)) (by decide) ?_
  refine oa6 X6.here hx hby d11_34 (l' := #[.val (.ref x), .val (.int 0), .val (.int 3)]) rfl ?_
  refine oa X6.here hx hby d11_35 rfl ?_
  refine oa X6.here hx hby d11_36 rfl ?_
  refine oa3 X6 hx hZ hown (oa0 hw 59 rfl) (oa0 hw 60 rfl) (oa0 hw 8 rfl) (oa0 hw 61 rfl) (by decide) (strChk_0_3 l Z a0 hw [] fm h0 n0 Z0 S_FM hfm) 0 hml rfl (argsL := [(.int 0), (.int 3)]) (st := []) (lenOf pd_5 rfl) rfl rfl e6 hby d11_37 ?_
  intro T7 v7 L7 X7 hQ7
  obtain ⟨rfl, Nq7, eh7⟩ := hQ7
  have N7 := Fr.app N5 Nq7
  refine oa5 (T := T7) 40 #[.val (.ref x), .val (.int 0), .val (.int 3)] [] ?_
  refine oa2 X7.here hx hby d11_40 rfl rfl ?_
  refine od3 X7 hx hZ hown (host := "") (Or.inl (oa0 hw 33 rfl)) Via.refl eh7 Fv_x hby d11_41 ?_
  intro T8 X8 e8
  refine oa X8.here hx hby d11_44 rfl ?_
  refine oa X8.here hx hby d11_45 rfl ?_
  refine oa3 X8 hx hZ hown (oa0 hw 112 rfl) (oa0 hw 113 rfl) (oa0 hw 22 rfl) (oa0 hw 114 rfl) (by decide) (cpU3_0_3_S l Z a0 hw [] t kb c0 c1 c2 h0 n0 Z0 V_t S_AD S_HI S_LO hp h0_c0 h1_c0 h0_c1 h1_c1) 0 hml rfl (argsL := [(.ref t), (.int 0), (.int 3)]) (st := []) (lenOf pd_9 rfl) rfl rfl e8 hby d11_46 ?_
  intro T9 v9 L9 X9 hQ9
  obtain ⟨rfl, Nq9, eh9⟩ := hQ9
  have N9 := Fr.app N7 Nq9
  refine oa5 (T := T9) 49 #[.val (.ref x), .val (.int 0), .val (.int 3)] [(.int c0)] ?_
  refine oa9 X9 Bd.notSynchronized (v := some (.int c0)) (ob4 Bd.returns) (fun _ hr => retOut X9 hx Bd.returns rfl (Or.inl ⟨rfl, Or.inl rfl, _, rfl⟩) (hb hby d11_49) hr) eh9 (by decide) (by decide) ?_
  exact ⟨rfl, N9, rfl⟩
def Q_getCh_2_3 (Z : State) (t : Nat) (kb : ClassId) (c0 : Int32) (c1 : Int32) (c2 : Int32) (h0 : Heap) (n0 : Nat) (vR : Option Value) (hR : Heap) (LR : List Loc) : Prop := vR = some (.int c2) ∧ Fr n0 LR ∧ hR = h0
theorem getCh_2_3 (l : Launch) (Z : State) (a0 : Array Value) (hw : ∀ d ∈ tables_1, d.before a0 Z = true) (ws : List Jvm.Cond) (t : Nat) (kb : ClassId) (c0 : Int32) (c1 : Int32) (c2 : Int32) (h0 : Heap) (n0 : Nat) (Z0 : n0 ≤ h0.size) (V_t : Arv Z h0 t kb .byte (6 : Int32) [(.int ((c0 >>> ((0 : Int32) &&& 31)).toInt8.toInt32)), (.int ((c0 >>> ((8 : Int32) &&& 31)).toInt8.toInt32)), (.int ((c1 >>> ((0 : Int32) &&& 31)).toInt8.toInt32)), (.int ((c1 >>> ((8 : Int32) &&& 31)).toInt8.toInt32)), (.int ((c2 >>> ((0 : Int32) &&& 31)).toInt8.toInt32)), (.int ((c2 >>> ((8 : Int32) &&& 31)).toInt8.toInt32))] (.int 0)) (S_AD : Sta Z h0 "java/lang/StringUTF16" "$assertionsDisabled" "Z" (.int 1)) (S_HI : Sta Z h0 "java/lang/StringUTF16" "HI_BYTE_SHIFT" "I" (.int 0)) (S_LO : Sta Z h0 "java/lang/StringUTF16" "LO_BYTE_SHIFT" "I" (.int 8)) (h0_c2 : ¬ (c2 < (0 : Int32))) (h1_c2 : ¬ ((65535 : Int32) < c2)) :
    oc2 l (⟨"java/lang/StringUTF16", "getChar", "([BI)C"⟩ : MethodName) jdk_52_method_5_code 2 (some .char) ws ({ frames := 0, cells := 0, slots := 0, locals := 0 } : Room) Z #[(.ref t), (.int 2)] h0 (Q_getCh_2_3 Z t kb c0 c1 c2 h0 n0) := by
  refine ob3 (own := "java/lang/StringUTF16") rfl (plainFor_of_name pn_24) (fun m => ef_getCh_0_1 m t (2 : Int32)) ?_
  intro p e s m below meth c s₁ Bd hml hZ hh hx hby hown X0 e0
  have N0 := Fr.nil n0
  have lt3 : h0.size > t := V_t.lt
  refine oc3 X0 hx hZ hown (host := "") (Or.inl (oa0 hw 106 rfl)) Via.refl e0 S_AD hby d24_0 ?_
  intro T4 X4 e4
  refine ob1 X4.here hx hby (pc' := 28) d24_3 ((if0 _ _).trans (feq (show ¬ ((1 : Int32) = (0 : Int32)) from (by decide))).2) (by decide) (by decide) ?_
  refine oa X4.here hx hby d24_28 rfl ?_
  refine oa4 X4.here hx hby d24_29 (v := (1 : Int32)) (by decide) ?_
  refine oe1 X4.here hx hby d24_30 (v := (4 : Int32)) (by decide) ?_
  refine oa6 X4.here hx hby d24_31 (l' := #[.val (.ref t), .val (.int 4)]) rfl ?_
  refine oa2 X4.here hx hby d24_32 rfl rfl ?_
  refine oa X4.here hx hby d24_33 rfl ?_
  refine od2 X4.here hx hby d24_34 rfl (v := (5 : Int32)) (by decide) (l' := #[.val (.ref t), .val (.int 5)]) rfl ?_
  refine oe7 X4 hx hZ e4 V_t ⟨by decide, by decide⟩ (v := (.int ((c2 >>> ((0 : Int32) &&& 31)).toInt8.toInt32))) rfl hby d24_37 ?_
  refine od0 X4.here hx hby d24_38 (v := (255 : Int32)) (by decide) ?_
  refine oe9 X4.here hx hby d24_41 rfl ?_
  refine oc3 X4 hx hZ hown (host := "") (Or.inl (oa0 hw 107 rfl)) Via.refl e4 S_HI hby d24_42 ?_
  intro T5 X5 e5
  refine oe1 X5.here hx hby d24_45 rfl ?_
  refine oa2 X5.here hx hby d24_46 rfl rfl ?_
  refine oa X5.here hx hby d24_47 rfl ?_
  refine oe7 X5 hx hZ e5 V_t ⟨by decide, by decide⟩ (v := (.int ((c2 >>> ((8 : Int32) &&& 31)).toInt8.toInt32))) rfl hby d24_48 ?_
  refine od0 X5.here hx hby d24_49 (v := (255 : Int32)) (by decide) ?_
  refine oe9 X5.here hx hby d24_52 rfl ?_
  refine oc3 X5 hx hZ hown (host := "") (Or.inl (oa0 hw 108 rfl)) Via.refl e5 S_LO hby d24_53 ?_
  intro T6 X6 e6
  refine oe1 X6.here hx hby d24_56 rfl ?_
  refine own_ior X6.here hx hby d24_57 rfl ?_
  refine own_i2c X6.here hx hby d24_58 rfl ?_
  refine oa9 X6 Bd.notSynchronized (v := some (.int (nar .char ((((((c2 >>> ((0 : Int32) &&& 31)).toInt8.toInt32) &&& (255 : Int32)) <<< ((0 : Int32) &&& 31)) ||| ((((c2 >>> ((8 : Int32) &&& 31)).toInt8.toInt32) &&& (255 : Int32)) <<< ((8 : Int32) &&& 31))).toUInt32.toUInt16.toUInt32.toInt32)))) (ob4 Bd.returns) (fun _ hr => retN X6 hx (t := .char) Bd.returns (by simp) (hb hby d24_59) hr) e6 (by decide) (by decide) ?_
  exact ⟨(od (own_gc c2 h0_c2 h1_c2)), N0, rfl⟩
def Q_cpU4_1_3_P (Z : State) (t : Nat) (kb : ClassId) (c0 : Int32) (c1 : Int32) (c2 : Int32) (h0 : Heap) (n0 : Nat) (vR : Option Value) (hR : Heap) (LR : List Loc) : Prop := vR = some (.int (oc5 c1 c2)) ∧ Fr n0 LR ∧ hR = h0
theorem cpU4_1_3_P (l : Launch) (Z : State) (a0 : Array Value) (hw : ∀ d ∈ tables_1, d.before a0 Z = true) (ws : List Jvm.Cond) (t : Nat) (kb : ClassId) (c0 : Int32) (c1 : Int32) (c2 : Int32) (h0 : Heap) (n0 : Nat) (Z0 : n0 ≤ h0.size) (V_t : Arv Z h0 t kb .byte (6 : Int32) [(.int ((c0 >>> ((0 : Int32) &&& 31)).toInt8.toInt32)), (.int ((c0 >>> ((8 : Int32) &&& 31)).toInt8.toInt32)), (.int ((c1 >>> ((0 : Int32) &&& 31)).toInt8.toInt32)), (.int ((c1 >>> ((8 : Int32) &&& 31)).toInt8.toInt32)), (.int ((c2 >>> ((0 : Int32) &&& 31)).toInt8.toInt32)), (.int ((c2 >>> ((8 : Int32) &&& 31)).toInt8.toInt32))] (.int 0)) (S_AD : Sta Z h0 "java/lang/StringUTF16" "$assertionsDisabled" "Z" (.int 1)) (S_HI : Sta Z h0 "java/lang/StringUTF16" "HI_BYTE_SHIFT" "I" (.int 0)) (S_LO : Sta Z h0 "java/lang/StringUTF16" "LO_BYTE_SHIFT" "I" (.int 8)) (hp : od1 c1 c2 = true) (h0_c1 : ¬ (c1 < (0 : Int32))) (h1_c1 : ¬ ((65535 : Int32) < c1)) (h0_c2 : ¬ (c2 < (0 : Int32))) (h1_c2 : ¬ ((65535 : Int32) < c2)) :
    oc2 l (⟨"java/lang/StringUTF16", "codePointAt", "([BIIZ)I"⟩ : MethodName) jdk_52_method_7_code 6 (some .int) ws ({ frames := 1, cells := 0, slots := 0, locals := 13 } : Room) Z #[(.ref t), (.int 1), (.int 3), (.int 0)] h0 (Q_cpU4_1_3_P Z t kb c0 c1 c2 h0 n0) := by
  refine ob3 (own := "java/lang/StringUTF16") rfl (plainFor_of_name pn_26) (fun m => ef_cpU4_0_1_S m t (1 : Int32) (3 : Int32) (0 : Int32)) ?_
  intro p e s m below meth c s₁ Bd hml hZ hh hx hby hown X0 e0
  have N0 := Fr.nil n0
  have lt3 : h0.size > t := V_t.lt
  refine oc3 X0 hx hZ hown (host := "") (Or.inl (oa0 hw 106 rfl)) Via.refl e0 S_AD hby d26_0 ?_
  intro T4 X4 e4
  refine ob1 X4.here hx hby (pc' := 19) d26_3 ((if0 _ _).trans (feq (show ¬ ((1 : Int32) = (0 : Int32)) from (by decide))).2) (by decide) (by decide) ?_
  refine oa X4.here hx hby d26_19 rfl ?_
  refine ob1 X4.here hx hby (pc' := 28) d26_20 ((if0 _ _).trans (teq (show (0 : Int32) = (0 : Int32) from (by decide))).1) (by decide) (by decide) ?_
  refine oa2 X4.here hx hby d26_28 rfl rfl ?_
  refine oa X4.here hx hby d26_29 rfl ?_
  refine oa3 X4 hx hZ hown (oa0 hw 109 rfl) (oa0 hw 110 rfl) (oa0 hw 22 rfl) (oa0 hw 111 rfl) (by decide) (getCh_1_3 l Z a0 hw [] t kb c0 c1 c2 h0 n0 Z0 V_t S_AD S_HI S_LO h0_c1 h1_c1) 0 hml rfl (argsL := [(.ref t), (.int 1)]) (st := []) (lenOf pd_7 rfl) rfl rfl e4 hby d26_30 ?_
  intro T5 v5 L5 X5 hQ5
  obtain ⟨rfl, Nq5, eh5⟩ := hQ5
  have N5 := Fr.app N0 Nq5
  refine oa5 (T := T5) 33 #[.val (.ref t), .val (.int 1), .val (.int 3), .val (.int 0), .unset, .unset] [(.int c1)] ?_
  refine ob8 X5.here hx hby d26_33 (l' := #[.val (.ref t), .val (.int 1), .val (.int 3), .val (.int 0), .val (.int c1), .unset]) rfl ?_
  refine oa8 X5.here hx hby d26_35 rfl ?_
  refine oa3 X5 hx hZ hown (oa0 hw 118 rfl) (oa0 hw 119 rfl) (oa0 hw 86 rfl) (oa0 hw 120 rfl) (by decide) (isHighS l Z a0 hw [] c1 h0 n0 Z0 ) 0 hml rfl (argsL := [(.int c1)]) (st := []) (lenOf pd_1 rfl) rfl rfl eh5 hby d26_37 ?_
  intro T6 v6 L6 X6 hQ6
  obtain ⟨rfl, Nq6, eh6⟩ := hQ6
  have N6 := Fr.app N5 Nq6
  refine oa5 (T := T6) 40 #[.val (.ref t), .val (.int 1), .val (.int 3), .val (.int 0), .val (.int c1), .unset] [(.int (oc9 c1))] ?_
  refine ob7 X6.here hx hby d26_40 ((if0 _ _).trans (feq (show ¬ ((oc9 c1) = (0 : Int32)) from og (og4 hp).1)).1) ?_
  refine od2 X6.here hx hby d26_43 rfl (v := (2 : Int32)) (by decide) (l' := #[.val (.ref t), .val (.int 2), .val (.int 3), .val (.int 0), .val (.int c1), .unset]) rfl ?_
  refine oa X6.here hx hby d26_46 rfl ?_
  refine oa X6.here hx hby d26_47 rfl ?_
  refine oa7 X6.here hx hby d26_48 (tlt (show (2 : Int32) < (3 : Int32) from (by decide))).2.1 ?_
  refine oa X6.here hx hby d26_51 rfl ?_
  refine ob1 X6.here hx hby (pc' := 60) d26_52 ((if0 _ _).trans (teq (show (0 : Int32) = (0 : Int32) from (by decide))).1) (by decide) (by decide) ?_
  refine oa2 X6.here hx hby d26_60 rfl rfl ?_
  refine oa X6.here hx hby d26_61 rfl ?_
  refine oa3 X6 hx hZ hown (oa0 hw 109 rfl) (oa0 hw 110 rfl) (oa0 hw 22 rfl) (oa0 hw 111 rfl) (by decide) (getCh_2_3 l Z a0 hw [] t kb c0 c1 c2 h0 n0 Z0 V_t S_AD S_HI S_LO h0_c2 h1_c2) 0 hml rfl (argsL := [(.ref t), (.int 2)]) (st := []) (lenOf pd_7 rfl) rfl rfl eh6 hby d26_62 ?_
  intro T7 v7 L7 X7 hQ7
  obtain ⟨rfl, Nq7, eh7⟩ := hQ7
  have N7 := Fr.app N6 Nq7
  refine oa5 (T := T7) 65 #[.val (.ref t), .val (.int 2), .val (.int 3), .val (.int 0), .val (.int c1), .unset] [(.int c2)] ?_
  refine ob8 X7.here hx hby d26_65 (l' := #[.val (.ref t), .val (.int 2), .val (.int 3), .val (.int 0), .val (.int c1), .val (.int c2)]) rfl ?_
  refine oa8 X7.here hx hby d26_67 rfl ?_
  refine oa3 X7 hx hZ hown (oa0 hw 126 rfl) (oa0 hw 127 rfl) (oa0 hw 86 rfl) (oa0 hw 128 rfl) (by decide) (isLowS l Z a0 hw [] c2 h0 n0 Z0 ) 0 hml rfl (argsL := [(.int c2)]) (st := []) (lenOf pd_1 rfl) rfl rfl eh7 hby d26_69 ?_
  intro T8 v8 L8 X8 hQ8
  obtain ⟨rfl, Nq8, eh8⟩ := hQ8
  have N8 := Fr.app N7 Nq8
  refine oa5 (T := T8) 72 #[.val (.ref t), .val (.int 2), .val (.int 3), .val (.int 0), .val (.int c1), .val (.int c2)] [(.int (od7 c2))] ?_
  refine ob7 X8.here hx hby d26_72 ((if0 _ _).trans (feq (show ¬ ((od7 c2) = (0 : Int32)) from og (og4 hp).2)).1) ?_
  refine oa8 X8.here hx hby d26_75 rfl ?_
  refine oa8 X8.here hx hby d26_77 rfl ?_
  refine oa3 X8 hx hZ hown (oa0 hw 134 rfl) (oa0 hw 135 rfl) (oa0 hw 86 rfl) (oa0 hw 136 rfl) (by decide) (toCP l Z a0 hw [] c1 c2 h0 n0 Z0 ) 0 hml rfl (argsL := [(.int c1), (.int c2)]) (st := []) (lenOf pd_10 rfl) rfl rfl eh8 hby d26_79 ?_
  intro T9 v9 L9 X9 hQ9
  obtain ⟨rfl, Nq9, eh9⟩ := hQ9
  have N9 := Fr.app N8 Nq9
  refine oa5 (T := T9) 82 #[.val (.ref t), .val (.int 2), .val (.int 3), .val (.int 0), .val (.int c1), .val (.int c2)] [(.int (oc5 c1 c2))] ?_
  refine oa9 X9 Bd.notSynchronized (v := some (.int (oc5 c1 c2))) (ob4 Bd.returns) (fun _ hr => retOut X9 hx Bd.returns rfl (Or.inl ⟨rfl, Or.inl rfl, _, rfl⟩) (hb hby d26_82) hr) eh9 (by decide) (by decide) ?_
  exact ⟨rfl, N9, rfl⟩
def Q_cpU3_1_3_P (Z : State) (t : Nat) (kb : ClassId) (c0 : Int32) (c1 : Int32) (c2 : Int32) (h0 : Heap) (n0 : Nat) (vR : Option Value) (hR : Heap) (LR : List Loc) : Prop := vR = some (.int (oc5 c1 c2)) ∧ Fr n0 LR ∧ hR = h0
theorem cpU3_1_3_P (l : Launch) (Z : State) (a0 : Array Value) (hw : ∀ d ∈ tables_1, d.before a0 Z = true) (ws : List Jvm.Cond) (t : Nat) (kb : ClassId) (c0 : Int32) (c1 : Int32) (c2 : Int32) (h0 : Heap) (n0 : Nat) (Z0 : n0 ≤ h0.size) (V_t : Arv Z h0 t kb .byte (6 : Int32) [(.int ((c0 >>> ((0 : Int32) &&& 31)).toInt8.toInt32)), (.int ((c0 >>> ((8 : Int32) &&& 31)).toInt8.toInt32)), (.int ((c1 >>> ((0 : Int32) &&& 31)).toInt8.toInt32)), (.int ((c1 >>> ((8 : Int32) &&& 31)).toInt8.toInt32)), (.int ((c2 >>> ((0 : Int32) &&& 31)).toInt8.toInt32)), (.int ((c2 >>> ((8 : Int32) &&& 31)).toInt8.toInt32))] (.int 0)) (S_AD : Sta Z h0 "java/lang/StringUTF16" "$assertionsDisabled" "Z" (.int 1)) (S_HI : Sta Z h0 "java/lang/StringUTF16" "HI_BYTE_SHIFT" "I" (.int 0)) (S_LO : Sta Z h0 "java/lang/StringUTF16" "LO_BYTE_SHIFT" "I" (.int 8)) (hp : od1 c1 c2 = true) (h0_c1 : ¬ (c1 < (0 : Int32))) (h1_c1 : ¬ ((65535 : Int32) < c1)) (h0_c2 : ¬ (c2 < (0 : Int32))) (h1_c2 : ¬ ((65535 : Int32) < c2)) :
    oc2 l (⟨"java/lang/StringUTF16", "codePointAt", "([BII)I"⟩ : MethodName) jdk_52_method_8_code 3 (some .int) ws ({ frames := 2, cells := 0, slots := 0, locals := 30 } : Room) Z #[(.ref t), (.int 1), (.int 3)] h0 (Q_cpU3_1_3_P Z t kb c0 c1 c2 h0 n0) := by
  refine ob3 (own := "java/lang/StringUTF16") rfl (plainFor_of_name pn_25) (fun m => ef_cpU3_0_1_S m t (1 : Int32) (3 : Int32)) ?_
  intro p e s m below meth c s₁ Bd hml hZ hh hx hby hown X0 e0
  have N0 := Fr.nil n0
  have lt3 : h0.size > t := V_t.lt
  refine oa2 X0.here hx hby d25_0 rfl rfl ?_
  refine oa X0.here hx hby d25_1 rfl ?_
  refine oa X0.here hx hby d25_2 rfl ?_
  refine oa4 X0.here hx hby d25_3 (v := (0 : Int32)) (by decide) ?_
  refine oa3 X0 hx hZ hown (oa0 hw 115 rfl) (oa0 hw 116 rfl) (oa0 hw 22 rfl) (oa0 hw 117 rfl) (by decide) (cpU4_1_3_P l Z a0 hw [] t kb c0 c1 c2 h0 n0 Z0 V_t S_AD S_HI S_LO hp h0_c1 h1_c1 h0_c2 h1_c2) 0 hml rfl (argsL := [(.ref t), (.int 1), (.int 3), (.int 0)]) (st := []) (lenOf pd_8 rfl) rfl rfl e0 hby d25_4 ?_
  intro T4 v4 L4 X4 hQ4
  obtain ⟨rfl, Nq4, eh4⟩ := hQ4
  have N4 := Fr.app N0 Nq4
  refine oa5 (T := T4) 7 #[.val (.ref t), .val (.int 1), .val (.int 3)] [(.int (oc5 c1 c2))] ?_
  refine oa9 X4 Bd.notSynchronized (v := some (.int (oc5 c1 c2))) (ob4 Bd.returns) (fun _ hr => retOut X4 hx Bd.returns rfl (Or.inl ⟨rfl, Or.inl rfl, _, rfl⟩) (hb hby d25_7) hr) eh4 (by decide) (by decide) ?_
  exact ⟨rfl, N4, rfl⟩
def Q_cpU_1_3_P (Z : State) (x : Nat) (t : Nat) (kb : ClassId) (zc : Int32) (fm : Value) (c0 : Int32) (c1 : Int32) (c2 : Int32) (h0 : Heap) (n0 : Nat) (vR : Option Value) (hR : Heap) (LR : List Loc) : Prop := vR = some (.int (oc5 c1 c2)) ∧ Fr n0 LR ∧ hR = h0
theorem cpU_1_3_P (l : Launch) (Z : State) (a0 : Array Value) (hw : ∀ d ∈ tables_1, d.before a0 Z = true) (ws : List Jvm.Cond) (x : Nat) (t : Nat) (kb : ClassId) (zc : Int32) (fm : Value) (c0 : Int32) (c1 : Int32) (c2 : Int32) (h0 : Heap) (n0 : Nat) (Z0 : n0 ≤ h0.size) (E_x : Exa Z h0 x "java/lang/String") (Fc_x : Fld Z h0 x "java/lang/String" "coder" "B" (.int 1)) (Fv_x : Fld Z h0 x "java/lang/String" "value" "[B" (.ref t)) (V_t : Arv Z h0 t kb .byte (6 : Int32) [(.int ((c0 >>> ((0 : Int32) &&& 31)).toInt8.toInt32)), (.int ((c0 >>> ((8 : Int32) &&& 31)).toInt8.toInt32)), (.int ((c1 >>> ((0 : Int32) &&& 31)).toInt8.toInt32)), (.int ((c1 >>> ((8 : Int32) &&& 31)).toInt8.toInt32)), (.int ((c2 >>> ((0 : Int32) &&& 31)).toInt8.toInt32)), (.int ((c2 >>> ((8 : Int32) &&& 31)).toInt8.toInt32))] (.int 0)) (S_C : Sta Z h0 "java/lang/String" "COMPACT_STRINGS" "Z" (.int zc)) (hz : ¬ (zc = (0 : Int32))) (S_FM : Sta Z h0 "jdk/internal/util/Preconditions" "SIOOBE_FORMATTER" "Ljava/util/function/BiFunction;" fm) (hfm : fm.isRef = true) (S_AD : Sta Z h0 "java/lang/StringUTF16" "$assertionsDisabled" "Z" (.int 1)) (S_HI : Sta Z h0 "java/lang/StringUTF16" "HI_BYTE_SHIFT" "I" (.int 0)) (S_LO : Sta Z h0 "java/lang/StringUTF16" "LO_BYTE_SHIFT" "I" (.int 8)) (hp : od1 c1 c2 = true) (h0_c1 : ¬ (c1 < (0 : Int32))) (h1_c1 : ¬ ((65535 : Int32) < c1)) (h0_c2 : ¬ (c2 < (0 : Int32))) (h1_c2 : ¬ ((65535 : Int32) < c2)) :
    oc2 l (⟨"java/lang/String", "codePointAt", "(I)I"⟩ : MethodName) jdk_42_method_57_code 3 (some .int) ws ({ frames := 3, cells := 0, slots := 0, locals := 44 } : Room) Z #[(.ref x), (.int 1)] h0 (Q_cpU_1_3_P Z x t kb zc fm c0 c1 c2 h0 n0) := by
  refine ob3 (own := "java/lang/String") rfl (plainFor_of_name pn_11) (fun m => ef_cpL_0_1 m x (1 : Int32)) ?_
  intro p e s m below meth c s₁ Bd hml hZ hh hx hby hown X0 e0
  have N0 := Fr.nil n0
  have lt3 : h0.size > x := E_x.lt
  have lt4 : h0.size > t := V_t.lt
  refine oa2 X0.here hx hby d11_0 rfl rfl ?_
  refine ob6 X0 hx hZ hown (oa0 hw 54 rfl) (oa0 hw 55 rfl) (notFace_of_selects (args := #[]) (mvT hZ (oa0 hw 57 rfl))) (oa0 hw 57 rfl) (oa0 hw 56 rfl) (oa0 hw 8 rfl) (oa0 hw 58 rfl) (by decide) (isLatU l Z a0 hw [] x zc h0 n0 Z0 Fc_x S_C hz) 0 hml rfl (argsL := []) (st := []) E_x (lenOf pd_4 rfl) rfl rfl e0 hby d11_1 ?_
  intro T5 v5 L5 X5 hQ5
  obtain ⟨rfl, Nq5, eh5⟩ := hQ5
  have N5 := Fr.app N0 Nq5
  refine oa5 (T := T5) 4 #[.val (.ref x), .val (.int 1), .unset] [(.int 0)] ?_
  refine ob1 X5.here hx hby (pc' := 27) d11_4 ((if0 _ _).trans (teq (show (0 : Int32) = (0 : Int32) from (by decide))).1) (by decide) (by decide) ?_
  refine oa2 X5.here hx hby d11_27 rfl rfl ?_
  refine od3 X5 hx hZ hown (host := "") (Or.inl (oa0 hw 33 rfl)) Via.refl eh5 Fv_x hby d11_28 ?_
  intro T6 X6 e6
  refine oe X6 hx hZ e6 V_t hby d11_31 ?_
  refine oa4 X6.here hx hby d11_32 (v := (1 : Int32)) (by decide) ?_
  refine oe2 X6.here hx hby d11_33 (v := (3 : Int32)) (by decide) ?_
  refine oa6 X6.here hx hby d11_34 (l' := #[.val (.ref x), .val (.int 1), .val (.int 3)]) rfl ?_
  refine oa X6.here hx hby d11_35 rfl ?_
  refine oa X6.here hx hby d11_36 rfl ?_
  refine oa3 X6 hx hZ hown (oa0 hw 59 rfl) (oa0 hw 60 rfl) (oa0 hw 8 rfl) (oa0 hw 61 rfl) (by decide) (strChk_1_3 l Z a0 hw [] fm h0 n0 Z0 S_FM hfm) 0 hml rfl (argsL := [(.int 1), (.int 3)]) (st := []) (lenOf pd_5 rfl) rfl rfl e6 hby d11_37 ?_
  intro T7 v7 L7 X7 hQ7
  obtain ⟨rfl, Nq7, eh7⟩ := hQ7
  have N7 := Fr.app N5 Nq7
  refine oa5 (T := T7) 40 #[.val (.ref x), .val (.int 1), .val (.int 3)] [] ?_
  refine oa2 X7.here hx hby d11_40 rfl rfl ?_
  refine od3 X7 hx hZ hown (host := "") (Or.inl (oa0 hw 33 rfl)) Via.refl eh7 Fv_x hby d11_41 ?_
  intro T8 X8 e8
  refine oa X8.here hx hby d11_44 rfl ?_
  refine oa X8.here hx hby d11_45 rfl ?_
  refine oa3 X8 hx hZ hown (oa0 hw 112 rfl) (oa0 hw 113 rfl) (oa0 hw 22 rfl) (oa0 hw 114 rfl) (by decide) (cpU3_1_3_P l Z a0 hw [] t kb c0 c1 c2 h0 n0 Z0 V_t S_AD S_HI S_LO hp h0_c1 h1_c1 h0_c2 h1_c2) 0 hml rfl (argsL := [(.ref t), (.int 1), (.int 3)]) (st := []) (lenOf pd_9 rfl) rfl rfl e8 hby d11_46 ?_
  intro T9 v9 L9 X9 hQ9
  obtain ⟨rfl, Nq9, eh9⟩ := hQ9
  have N9 := Fr.app N7 Nq9
  refine oa5 (T := T9) 49 #[.val (.ref x), .val (.int 1), .val (.int 3)] [(.int (oc5 c1 c2))] ?_
  refine oa9 X9 Bd.notSynchronized (v := some (.int (oc5 c1 c2))) (ob4 Bd.returns) (fun _ hr => retOut X9 hx Bd.returns rfl (Or.inl ⟨rfl, Or.inl rfl, _, rfl⟩) (hb hby d11_49) hr) eh9 (by decide) (by decide) ?_
  exact ⟨rfl, N9, rfl⟩
def Q_cpU4_1_3_S (Z : State) (t : Nat) (kb : ClassId) (c0 : Int32) (c1 : Int32) (c2 : Int32) (h0 : Heap) (n0 : Nat) (vR : Option Value) (hR : Heap) (LR : List Loc) : Prop := vR = some (.int c1) ∧ Fr n0 LR ∧ hR = h0
theorem cpU4_1_3_S (l : Launch) (Z : State) (a0 : Array Value) (hw : ∀ d ∈ tables_1, d.before a0 Z = true) (ws : List Jvm.Cond) (t : Nat) (kb : ClassId) (c0 : Int32) (c1 : Int32) (c2 : Int32) (h0 : Heap) (n0 : Nat) (Z0 : n0 ≤ h0.size) (V_t : Arv Z h0 t kb .byte (6 : Int32) [(.int ((c0 >>> ((0 : Int32) &&& 31)).toInt8.toInt32)), (.int ((c0 >>> ((8 : Int32) &&& 31)).toInt8.toInt32)), (.int ((c1 >>> ((0 : Int32) &&& 31)).toInt8.toInt32)), (.int ((c1 >>> ((8 : Int32) &&& 31)).toInt8.toInt32)), (.int ((c2 >>> ((0 : Int32) &&& 31)).toInt8.toInt32)), (.int ((c2 >>> ((8 : Int32) &&& 31)).toInt8.toInt32))] (.int 0)) (S_AD : Sta Z h0 "java/lang/StringUTF16" "$assertionsDisabled" "Z" (.int 1)) (S_HI : Sta Z h0 "java/lang/StringUTF16" "HI_BYTE_SHIFT" "I" (.int 0)) (S_LO : Sta Z h0 "java/lang/StringUTF16" "LO_BYTE_SHIFT" "I" (.int 8)) (hp : od1 c1 c2 = false) (h0_c1 : ¬ (c1 < (0 : Int32))) (h1_c1 : ¬ ((65535 : Int32) < c1)) (h0_c2 : ¬ (c2 < (0 : Int32))) (h1_c2 : ¬ ((65535 : Int32) < c2)) :
    oc2 l (⟨"java/lang/StringUTF16", "codePointAt", "([BIIZ)I"⟩ : MethodName) jdk_52_method_7_code 6 (some .int) ws ({ frames := 1, cells := 0, slots := 0, locals := 13 } : Room) Z #[(.ref t), (.int 1), (.int 3), (.int 0)] h0 (Q_cpU4_1_3_S Z t kb c0 c1 c2 h0 n0) := by
  refine ob3 (own := "java/lang/StringUTF16") rfl (plainFor_of_name pn_26) (fun m => ef_cpU4_0_1_S m t (1 : Int32) (3 : Int32) (0 : Int32)) ?_
  intro p e s m below meth c s₁ Bd hml hZ hh hx hby hown X0 e0
  have N0 := Fr.nil n0
  have lt3 : h0.size > t := V_t.lt
  refine oc3 X0 hx hZ hown (host := "") (Or.inl (oa0 hw 106 rfl)) Via.refl e0 S_AD hby d26_0 ?_
  intro T4 X4 e4
  refine ob1 X4.here hx hby (pc' := 19) d26_3 ((if0 _ _).trans (feq (show ¬ ((1 : Int32) = (0 : Int32)) from (by decide))).2) (by decide) (by decide) ?_
  refine oa X4.here hx hby d26_19 rfl ?_
  refine ob1 X4.here hx hby (pc' := 28) d26_20 ((if0 _ _).trans (teq (show (0 : Int32) = (0 : Int32) from (by decide))).1) (by decide) (by decide) ?_
  refine oa2 X4.here hx hby d26_28 rfl rfl ?_
  refine oa X4.here hx hby d26_29 rfl ?_
  refine oa3 X4 hx hZ hown (oa0 hw 109 rfl) (oa0 hw 110 rfl) (oa0 hw 22 rfl) (oa0 hw 111 rfl) (by decide) (getCh_1_3 l Z a0 hw [] t kb c0 c1 c2 h0 n0 Z0 V_t S_AD S_HI S_LO h0_c1 h1_c1) 0 hml rfl (argsL := [(.ref t), (.int 1)]) (st := []) (lenOf pd_7 rfl) rfl rfl e4 hby d26_30 ?_
  intro T5 v5 L5 X5 hQ5
  obtain ⟨rfl, Nq5, eh5⟩ := hQ5
  have N5 := Fr.app N0 Nq5
  refine oa5 (T := T5) 33 #[.val (.ref t), .val (.int 1), .val (.int 3), .val (.int 0), .unset, .unset] [(.int c1)] ?_
  refine ob8 X5.here hx hby d26_33 (l' := #[.val (.ref t), .val (.int 1), .val (.int 3), .val (.int 0), .val (.int c1), .unset]) rfl ?_
  refine oa8 X5.here hx hby d26_35 rfl ?_
  refine oa3 X5 hx hZ hown (oa0 hw 118 rfl) (oa0 hw 119 rfl) (oa0 hw 86 rfl) (oa0 hw 120 rfl) (by decide) (isHighS l Z a0 hw [] c1 h0 n0 Z0 ) 0 hml rfl (argsL := [(.int c1)]) (st := []) (lenOf pd_1 rfl) rfl rfl eh5 hby d26_37 ?_
  intro T6 v6 L6 X6 hQ6
  obtain ⟨rfl, Nq6, eh6⟩ := hQ6
  have N6 := Fr.app N5 Nq6
  refine oa5 (T := T6) 40 #[.val (.ref t), .val (.int 1), .val (.int 3), .val (.int 0), .val (.int c1), .unset] [(.int (oc9 c1))] ?_
  by_cases hc40_7 : (oc9 c1) = (0 : Int32)
  · refine ob1 X6.here hx hby (pc' := 83) d26_40 ((if0 _ _).trans (teq hc40_7).1) (by decide) (by decide) ?_
    refine oa8 X6.here hx hby d26_83 rfl ?_
    refine oa9 X6 Bd.notSynchronized (v := some (.int c1)) (ob4 Bd.returns) (fun _ hr => retOut X6 hx Bd.returns rfl (Or.inl ⟨rfl, Or.inl rfl, _, rfl⟩) (hb hby d26_85) hr) eh6 (by decide) (by decide) ?_
    exact ⟨rfl, N6, rfl⟩
  · refine ob7 X6.here hx hby d26_40 ((if0 _ _).trans (feq hc40_7).1) ?_
    refine od2 X6.here hx hby d26_43 rfl (v := (2 : Int32)) (by decide) (l' := #[.val (.ref t), .val (.int 2), .val (.int 3), .val (.int 0), .val (.int c1), .unset]) rfl ?_
    refine oa X6.here hx hby d26_46 rfl ?_
    refine oa X6.here hx hby d26_47 rfl ?_
    refine oa7 X6.here hx hby d26_48 (tlt (show (2 : Int32) < (3 : Int32) from (by decide))).2.1 ?_
    refine oa X6.here hx hby d26_51 rfl ?_
    refine ob1 X6.here hx hby (pc' := 60) d26_52 ((if0 _ _).trans (teq (show (0 : Int32) = (0 : Int32) from (by decide))).1) (by decide) (by decide) ?_
    refine oa2 X6.here hx hby d26_60 rfl rfl ?_
    refine oa X6.here hx hby d26_61 rfl ?_
    refine oa3 X6 hx hZ hown (oa0 hw 109 rfl) (oa0 hw 110 rfl) (oa0 hw 22 rfl) (oa0 hw 111 rfl) (by decide) (getCh_2_3 l Z a0 hw [] t kb c0 c1 c2 h0 n0 Z0 V_t S_AD S_HI S_LO h0_c2 h1_c2) 0 hml rfl (argsL := [(.ref t), (.int 2)]) (st := []) (lenOf pd_7 rfl) rfl rfl eh6 hby d26_62 ?_
    intro T8 v8 L8 X8 hQ8
    obtain ⟨rfl, Nq8, eh8⟩ := hQ8
    have N8 := Fr.app N6 Nq8
    refine oa5 (T := T8) 65 #[.val (.ref t), .val (.int 2), .val (.int 3), .val (.int 0), .val (.int c1), .unset] [(.int c2)] ?_
    refine ob8 X8.here hx hby d26_65 (l' := #[.val (.ref t), .val (.int 2), .val (.int 3), .val (.int 0), .val (.int c1), .val (.int c2)]) rfl ?_
    refine oa8 X8.here hx hby d26_67 rfl ?_
    refine oa3 X8 hx hZ hown (oa0 hw 126 rfl) (oa0 hw 127 rfl) (oa0 hw 86 rfl) (oa0 hw 128 rfl) (by decide) (isLowS l Z a0 hw [] c2 h0 n0 Z0 ) 0 hml rfl (argsL := [(.int c2)]) (st := []) (lenOf pd_1 rfl) rfl rfl eh8 hby d26_69 ?_
    intro T9 v9 L9 X9 hQ9
    obtain ⟨rfl, Nq9, eh9⟩ := hQ9
    have N9 := Fr.app N8 Nq9
    refine oa5 (T := T9) 72 #[.val (.ref t), .val (.int 2), .val (.int 3), .val (.int 0), .val (.int c1), .val (.int c2)] [(.int (od7 c2))] ?_
    by_cases hc72_10 : (od7 c2) = (0 : Int32)
    · refine ob1 X9.here hx hby (pc' := 83) d26_72 ((if0 _ _).trans (teq hc72_10).1) (by decide) (by decide) ?_
      refine oa8 X9.here hx hby d26_83 rfl ?_
      refine oa9 X9 Bd.notSynchronized (v := some (.int c1)) (ob4 Bd.returns) (fun _ hr => retOut X9 hx Bd.returns rfl (Or.inl ⟨rfl, Or.inl rfl, _, rfl⟩) (hb hby d26_85) hr) eh9 (by decide) (by decide) ?_
      exact ⟨rfl, N9, rfl⟩
    · refine ob7 X9.here hx hby d26_72 ((if0 _ _).trans (feq hc72_10).1) ?_
      exact (own_pX hp hc40_7 hc72_10).elim
def Q_cpU3_1_3_S (Z : State) (t : Nat) (kb : ClassId) (c0 : Int32) (c1 : Int32) (c2 : Int32) (h0 : Heap) (n0 : Nat) (vR : Option Value) (hR : Heap) (LR : List Loc) : Prop := vR = some (.int c1) ∧ Fr n0 LR ∧ hR = h0
theorem cpU3_1_3_S (l : Launch) (Z : State) (a0 : Array Value) (hw : ∀ d ∈ tables_1, d.before a0 Z = true) (ws : List Jvm.Cond) (t : Nat) (kb : ClassId) (c0 : Int32) (c1 : Int32) (c2 : Int32) (h0 : Heap) (n0 : Nat) (Z0 : n0 ≤ h0.size) (V_t : Arv Z h0 t kb .byte (6 : Int32) [(.int ((c0 >>> ((0 : Int32) &&& 31)).toInt8.toInt32)), (.int ((c0 >>> ((8 : Int32) &&& 31)).toInt8.toInt32)), (.int ((c1 >>> ((0 : Int32) &&& 31)).toInt8.toInt32)), (.int ((c1 >>> ((8 : Int32) &&& 31)).toInt8.toInt32)), (.int ((c2 >>> ((0 : Int32) &&& 31)).toInt8.toInt32)), (.int ((c2 >>> ((8 : Int32) &&& 31)).toInt8.toInt32))] (.int 0)) (S_AD : Sta Z h0 "java/lang/StringUTF16" "$assertionsDisabled" "Z" (.int 1)) (S_HI : Sta Z h0 "java/lang/StringUTF16" "HI_BYTE_SHIFT" "I" (.int 0)) (S_LO : Sta Z h0 "java/lang/StringUTF16" "LO_BYTE_SHIFT" "I" (.int 8)) (hp : od1 c1 c2 = false) (h0_c1 : ¬ (c1 < (0 : Int32))) (h1_c1 : ¬ ((65535 : Int32) < c1)) (h0_c2 : ¬ (c2 < (0 : Int32))) (h1_c2 : ¬ ((65535 : Int32) < c2)) :
    oc2 l (⟨"java/lang/StringUTF16", "codePointAt", "([BII)I"⟩ : MethodName) jdk_52_method_8_code 3 (some .int) ws ({ frames := 2, cells := 0, slots := 0, locals := 30 } : Room) Z #[(.ref t), (.int 1), (.int 3)] h0 (Q_cpU3_1_3_S Z t kb c0 c1 c2 h0 n0) := by
  refine ob3 (own := "java/lang/StringUTF16") rfl (plainFor_of_name pn_25) (fun m => ef_cpU3_0_1_S m t (1 : Int32) (3 : Int32)) ?_
  intro p e s m below meth c s₁ Bd hml hZ hh hx hby hown X0 e0
  have N0 := Fr.nil n0
  have lt3 : h0.size > t := V_t.lt
  refine oa2 X0.here hx hby d25_0 rfl rfl ?_
  refine oa X0.here hx hby d25_1 rfl ?_
  refine oa X0.here hx hby d25_2 rfl ?_
  refine oa4 X0.here hx hby d25_3 (v := (0 : Int32)) (by decide) ?_
  refine oa3 X0 hx hZ hown (oa0 hw 115 rfl) (oa0 hw 116 rfl) (oa0 hw 22 rfl) (oa0 hw 117 rfl) (by decide) (cpU4_1_3_S l Z a0 hw [] t kb c0 c1 c2 h0 n0 Z0 V_t S_AD S_HI S_LO hp h0_c1 h1_c1 h0_c2 h1_c2) 0 hml rfl (argsL := [(.ref t), (.int 1), (.int 3), (.int 0)]) (st := []) (lenOf pd_8 rfl) rfl rfl e0 hby d25_4 ?_
  intro T4 v4 L4 X4 hQ4
  obtain ⟨rfl, Nq4, eh4⟩ := hQ4
  have N4 := Fr.app N0 Nq4
  refine oa5 (T := T4) 7 #[.val (.ref t), .val (.int 1), .val (.int 3)] [(.int c1)] ?_
  refine oa9 X4 Bd.notSynchronized (v := some (.int c1)) (ob4 Bd.returns) (fun _ hr => retOut X4 hx Bd.returns rfl (Or.inl ⟨rfl, Or.inl rfl, _, rfl⟩) (hb hby d25_7) hr) eh4 (by decide) (by decide) ?_
  exact ⟨rfl, N4, rfl⟩
def Q_cpU_1_3_S (Z : State) (x : Nat) (t : Nat) (kb : ClassId) (zc : Int32) (fm : Value) (c0 : Int32) (c1 : Int32) (c2 : Int32) (h0 : Heap) (n0 : Nat) (vR : Option Value) (hR : Heap) (LR : List Loc) : Prop := vR = some (.int c1) ∧ Fr n0 LR ∧ hR = h0
theorem cpU_1_3_S (l : Launch) (Z : State) (a0 : Array Value) (hw : ∀ d ∈ tables_1, d.before a0 Z = true) (ws : List Jvm.Cond) (x : Nat) (t : Nat) (kb : ClassId) (zc : Int32) (fm : Value) (c0 : Int32) (c1 : Int32) (c2 : Int32) (h0 : Heap) (n0 : Nat) (Z0 : n0 ≤ h0.size) (E_x : Exa Z h0 x "java/lang/String") (Fc_x : Fld Z h0 x "java/lang/String" "coder" "B" (.int 1)) (Fv_x : Fld Z h0 x "java/lang/String" "value" "[B" (.ref t)) (V_t : Arv Z h0 t kb .byte (6 : Int32) [(.int ((c0 >>> ((0 : Int32) &&& 31)).toInt8.toInt32)), (.int ((c0 >>> ((8 : Int32) &&& 31)).toInt8.toInt32)), (.int ((c1 >>> ((0 : Int32) &&& 31)).toInt8.toInt32)), (.int ((c1 >>> ((8 : Int32) &&& 31)).toInt8.toInt32)), (.int ((c2 >>> ((0 : Int32) &&& 31)).toInt8.toInt32)), (.int ((c2 >>> ((8 : Int32) &&& 31)).toInt8.toInt32))] (.int 0)) (S_C : Sta Z h0 "java/lang/String" "COMPACT_STRINGS" "Z" (.int zc)) (hz : ¬ (zc = (0 : Int32))) (S_FM : Sta Z h0 "jdk/internal/util/Preconditions" "SIOOBE_FORMATTER" "Ljava/util/function/BiFunction;" fm) (hfm : fm.isRef = true) (S_AD : Sta Z h0 "java/lang/StringUTF16" "$assertionsDisabled" "Z" (.int 1)) (S_HI : Sta Z h0 "java/lang/StringUTF16" "HI_BYTE_SHIFT" "I" (.int 0)) (S_LO : Sta Z h0 "java/lang/StringUTF16" "LO_BYTE_SHIFT" "I" (.int 8)) (hp : od1 c1 c2 = false) (h0_c1 : ¬ (c1 < (0 : Int32))) (h1_c1 : ¬ ((65535 : Int32) < c1)) (h0_c2 : ¬ (c2 < (0 : Int32))) (h1_c2 : ¬ ((65535 : Int32) < c2)) :
    oc2 l (⟨"java/lang/String", "codePointAt", "(I)I"⟩ : MethodName) jdk_42_method_57_code 3 (some .int) ws ({ frames := 3, cells := 0, slots := 0, locals := 44 } : Room) Z #[(.ref x), (.int 1)] h0 (Q_cpU_1_3_S Z x t kb zc fm c0 c1 c2 h0 n0) := by
  refine ob3 (own := "java/lang/String") rfl (plainFor_of_name pn_11) (fun m => ef_cpL_0_1 m x (1 : Int32)) ?_
  intro p e s m below meth c s₁ Bd hml hZ hh hx hby hown X0 e0
  have N0 := Fr.nil n0
  have lt3 : h0.size > x := E_x.lt
  have lt4 : h0.size > t := V_t.lt
  refine oa2 X0.here hx hby d11_0 rfl rfl ?_
  refine ob6 X0 hx hZ hown (oa0 hw 54 rfl) (oa0 hw 55 rfl) (notFace_of_selects (args := #[]) (mvT hZ (oa0 hw 57 rfl))) (oa0 hw 57 rfl) (oa0 hw 56 rfl) (oa0 hw 8 rfl) (oa0 hw 58 rfl) (by decide) (isLatU l Z a0 hw [] x zc h0 n0 Z0 Fc_x S_C hz) 0 hml rfl (argsL := []) (st := []) E_x (lenOf pd_4 rfl) rfl rfl e0 hby d11_1 ?_
  intro T5 v5 L5 X5 hQ5
  obtain ⟨rfl, Nq5, eh5⟩ := hQ5
  have N5 := Fr.app N0 Nq5
  refine oa5 (T := T5) 4 #[.val (.ref x), .val (.int 1), .unset] [(.int 0)] ?_
  refine ob1 X5.here hx hby (pc' := 27) d11_4 ((if0 _ _).trans (teq (show (0 : Int32) = (0 : Int32) from (by decide))).1) (by decide) (by decide) ?_
  refine oa2 X5.here hx hby d11_27 rfl rfl ?_
  refine od3 X5 hx hZ hown (host := "") (Or.inl (oa0 hw 33 rfl)) Via.refl eh5 Fv_x hby d11_28 ?_
  intro T6 X6 e6
  refine oe X6 hx hZ e6 V_t hby d11_31 ?_
  refine oa4 X6.here hx hby d11_32 (v := (1 : Int32)) (by decide) ?_
  refine oe2 X6.here hx hby d11_33 (v := (3 : Int32)) (by decide) ?_
  refine oa6 X6.here hx hby d11_34 (l' := #[.val (.ref x), .val (.int 1), .val (.int 3)]) rfl ?_
  refine oa X6.here hx hby d11_35 rfl ?_
  refine oa X6.here hx hby d11_36 rfl ?_
  refine oa3 X6 hx hZ hown (oa0 hw 59 rfl) (oa0 hw 60 rfl) (oa0 hw 8 rfl) (oa0 hw 61 rfl) (by decide) (strChk_1_3 l Z a0 hw [] fm h0 n0 Z0 S_FM hfm) 0 hml rfl (argsL := [(.int 1), (.int 3)]) (st := []) (lenOf pd_5 rfl) rfl rfl e6 hby d11_37 ?_
  intro T7 v7 L7 X7 hQ7
  obtain ⟨rfl, Nq7, eh7⟩ := hQ7
  have N7 := Fr.app N5 Nq7
  refine oa5 (T := T7) 40 #[.val (.ref x), .val (.int 1), .val (.int 3)] [] ?_
  refine oa2 X7.here hx hby d11_40 rfl rfl ?_
  refine od3 X7 hx hZ hown (host := "") (Or.inl (oa0 hw 33 rfl)) Via.refl eh7 Fv_x hby d11_41 ?_
  intro T8 X8 e8
  refine oa X8.here hx hby d11_44 rfl ?_
  refine oa X8.here hx hby d11_45 rfl ?_
  refine oa3 X8 hx hZ hown (oa0 hw 112 rfl) (oa0 hw 113 rfl) (oa0 hw 22 rfl) (oa0 hw 114 rfl) (by decide) (cpU3_1_3_S l Z a0 hw [] t kb c0 c1 c2 h0 n0 Z0 V_t S_AD S_HI S_LO hp h0_c1 h1_c1 h0_c2 h1_c2) 0 hml rfl (argsL := [(.ref t), (.int 1), (.int 3)]) (st := []) (lenOf pd_9 rfl) rfl rfl e8 hby d11_46 ?_
  intro T9 v9 L9 X9 hQ9
  obtain ⟨rfl, Nq9, eh9⟩ := hQ9
  have N9 := Fr.app N7 Nq9
  refine oa5 (T := T9) 49 #[.val (.ref x), .val (.int 1), .val (.int 3)] [(.int c1)] ?_
  refine oa9 X9 Bd.notSynchronized (v := some (.int c1)) (ob4 Bd.returns) (fun _ hr => retOut X9 hx Bd.returns rfl (Or.inl ⟨rfl, Or.inl rfl, _, rfl⟩) (hb hby d11_49) hr) eh9 (by decide) (by decide) ?_
  exact ⟨rfl, N9, rfl⟩
def Q_cpU4_2_3_S (Z : State) (t : Nat) (kb : ClassId) (c0 : Int32) (c1 : Int32) (c2 : Int32) (h0 : Heap) (n0 : Nat) (vR : Option Value) (hR : Heap) (LR : List Loc) : Prop := vR = some (.int c2) ∧ Fr n0 LR ∧ hR = h0
theorem cpU4_2_3_S (l : Launch) (Z : State) (a0 : Array Value) (hw : ∀ d ∈ tables_1, d.before a0 Z = true) (ws : List Jvm.Cond) (t : Nat) (kb : ClassId) (c0 : Int32) (c1 : Int32) (c2 : Int32) (h0 : Heap) (n0 : Nat) (Z0 : n0 ≤ h0.size) (V_t : Arv Z h0 t kb .byte (6 : Int32) [(.int ((c0 >>> ((0 : Int32) &&& 31)).toInt8.toInt32)), (.int ((c0 >>> ((8 : Int32) &&& 31)).toInt8.toInt32)), (.int ((c1 >>> ((0 : Int32) &&& 31)).toInt8.toInt32)), (.int ((c1 >>> ((8 : Int32) &&& 31)).toInt8.toInt32)), (.int ((c2 >>> ((0 : Int32) &&& 31)).toInt8.toInt32)), (.int ((c2 >>> ((8 : Int32) &&& 31)).toInt8.toInt32))] (.int 0)) (S_AD : Sta Z h0 "java/lang/StringUTF16" "$assertionsDisabled" "Z" (.int 1)) (S_HI : Sta Z h0 "java/lang/StringUTF16" "HI_BYTE_SHIFT" "I" (.int 0)) (S_LO : Sta Z h0 "java/lang/StringUTF16" "LO_BYTE_SHIFT" "I" (.int 8)) (h0_c2 : ¬ (c2 < (0 : Int32))) (h1_c2 : ¬ ((65535 : Int32) < c2)) :
    oc2 l (⟨"java/lang/StringUTF16", "codePointAt", "([BIIZ)I"⟩ : MethodName) jdk_52_method_7_code 6 (some .int) ws ({ frames := 1, cells := 0, slots := 0, locals := 13 } : Room) Z #[(.ref t), (.int 2), (.int 3), (.int 0)] h0 (Q_cpU4_2_3_S Z t kb c0 c1 c2 h0 n0) := by
  refine ob3 (own := "java/lang/StringUTF16") rfl (plainFor_of_name pn_26) (fun m => ef_cpU4_0_1_S m t (2 : Int32) (3 : Int32) (0 : Int32)) ?_
  intro p e s m below meth c s₁ Bd hml hZ hh hx hby hown X0 e0
  have N0 := Fr.nil n0
  have lt3 : h0.size > t := V_t.lt
  refine oc3 X0 hx hZ hown (host := "") (Or.inl (oa0 hw 106 rfl)) Via.refl e0 S_AD hby d26_0 ?_
  intro T4 X4 e4
  refine ob1 X4.here hx hby (pc' := 19) d26_3 ((if0 _ _).trans (feq (show ¬ ((1 : Int32) = (0 : Int32)) from (by decide))).2) (by decide) (by decide) ?_
  refine oa X4.here hx hby d26_19 rfl ?_
  refine ob1 X4.here hx hby (pc' := 28) d26_20 ((if0 _ _).trans (teq (show (0 : Int32) = (0 : Int32) from (by decide))).1) (by decide) (by decide) ?_
  refine oa2 X4.here hx hby d26_28 rfl rfl ?_
  refine oa X4.here hx hby d26_29 rfl ?_
  refine oa3 X4 hx hZ hown (oa0 hw 109 rfl) (oa0 hw 110 rfl) (oa0 hw 22 rfl) (oa0 hw 111 rfl) (by decide) (getCh_2_3 l Z a0 hw [] t kb c0 c1 c2 h0 n0 Z0 V_t S_AD S_HI S_LO h0_c2 h1_c2) 0 hml rfl (argsL := [(.ref t), (.int 2)]) (st := []) (lenOf pd_7 rfl) rfl rfl e4 hby d26_30 ?_
  intro T5 v5 L5 X5 hQ5
  obtain ⟨rfl, Nq5, eh5⟩ := hQ5
  have N5 := Fr.app N0 Nq5
  refine oa5 (T := T5) 33 #[.val (.ref t), .val (.int 2), .val (.int 3), .val (.int 0), .unset, .unset] [(.int c2)] ?_
  refine ob8 X5.here hx hby d26_33 (l' := #[.val (.ref t), .val (.int 2), .val (.int 3), .val (.int 0), .val (.int c2), .unset]) rfl ?_
  refine oa8 X5.here hx hby d26_35 rfl ?_
  refine oa3 X5 hx hZ hown (oa0 hw 118 rfl) (oa0 hw 119 rfl) (oa0 hw 86 rfl) (oa0 hw 120 rfl) (by decide) (isHighS l Z a0 hw [] c2 h0 n0 Z0 ) 0 hml rfl (argsL := [(.int c2)]) (st := []) (lenOf pd_1 rfl) rfl rfl eh5 hby d26_37 ?_
  intro T6 v6 L6 X6 hQ6
  obtain ⟨rfl, Nq6, eh6⟩ := hQ6
  have N6 := Fr.app N5 Nq6
  refine oa5 (T := T6) 40 #[.val (.ref t), .val (.int 2), .val (.int 3), .val (.int 0), .val (.int c2), .unset] [(.int (oc9 c2))] ?_
  by_cases hc40_7 : (oc9 c2) = (0 : Int32)
  · refine ob1 X6.here hx hby (pc' := 83) d26_40 ((if0 _ _).trans (teq hc40_7).1) (by decide) (by decide) ?_
    refine oa8 X6.here hx hby d26_83 rfl ?_
    refine oa9 X6 Bd.notSynchronized (v := some (.int c2)) (ob4 Bd.returns) (fun _ hr => retOut X6 hx Bd.returns rfl (Or.inl ⟨rfl, Or.inl rfl, _, rfl⟩) (hb hby d26_85) hr) eh6 (by decide) (by decide) ?_
    exact ⟨rfl, N6, rfl⟩
  · refine ob7 X6.here hx hby d26_40 ((if0 _ _).trans (feq hc40_7).1) ?_
    refine od2 X6.here hx hby d26_43 rfl (v := (3 : Int32)) (by decide) (l' := #[.val (.ref t), .val (.int 3), .val (.int 3), .val (.int 0), .val (.int c2), .unset]) rfl ?_
    refine oa X6.here hx hby d26_46 rfl ?_
    refine oa X6.here hx hby d26_47 rfl ?_
    refine ob2 X6.here hx hby (pc' := 83) d26_48 (flt (show ¬ ((3 : Int32) < (3 : Int32)) from (by decide))).2.1 (by decide) (by decide) ?_
    refine oa8 X6.here hx hby d26_83 rfl ?_
    refine oa9 X6 Bd.notSynchronized (v := some (.int c2)) (ob4 Bd.returns) (fun _ hr => retOut X6 hx Bd.returns rfl (Or.inl ⟨rfl, Or.inl rfl, _, rfl⟩) (hb hby d26_85) hr) eh6 (by decide) (by decide) ?_
    exact ⟨rfl, N6, rfl⟩
def Q_cpU3_2_3_S (Z : State) (t : Nat) (kb : ClassId) (c0 : Int32) (c1 : Int32) (c2 : Int32) (h0 : Heap) (n0 : Nat) (vR : Option Value) (hR : Heap) (LR : List Loc) : Prop := vR = some (.int c2) ∧ Fr n0 LR ∧ hR = h0
theorem cpU3_2_3_S (l : Launch) (Z : State) (a0 : Array Value) (hw : ∀ d ∈ tables_1, d.before a0 Z = true) (ws : List Jvm.Cond) (t : Nat) (kb : ClassId) (c0 : Int32) (c1 : Int32) (c2 : Int32) (h0 : Heap) (n0 : Nat) (Z0 : n0 ≤ h0.size) (V_t : Arv Z h0 t kb .byte (6 : Int32) [(.int ((c0 >>> ((0 : Int32) &&& 31)).toInt8.toInt32)), (.int ((c0 >>> ((8 : Int32) &&& 31)).toInt8.toInt32)), (.int ((c1 >>> ((0 : Int32) &&& 31)).toInt8.toInt32)), (.int ((c1 >>> ((8 : Int32) &&& 31)).toInt8.toInt32)), (.int ((c2 >>> ((0 : Int32) &&& 31)).toInt8.toInt32)), (.int ((c2 >>> ((8 : Int32) &&& 31)).toInt8.toInt32))] (.int 0)) (S_AD : Sta Z h0 "java/lang/StringUTF16" "$assertionsDisabled" "Z" (.int 1)) (S_HI : Sta Z h0 "java/lang/StringUTF16" "HI_BYTE_SHIFT" "I" (.int 0)) (S_LO : Sta Z h0 "java/lang/StringUTF16" "LO_BYTE_SHIFT" "I" (.int 8)) (h0_c2 : ¬ (c2 < (0 : Int32))) (h1_c2 : ¬ ((65535 : Int32) < c2)) :
    oc2 l (⟨"java/lang/StringUTF16", "codePointAt", "([BII)I"⟩ : MethodName) jdk_52_method_8_code 3 (some .int) ws ({ frames := 2, cells := 0, slots := 0, locals := 30 } : Room) Z #[(.ref t), (.int 2), (.int 3)] h0 (Q_cpU3_2_3_S Z t kb c0 c1 c2 h0 n0) := by
  refine ob3 (own := "java/lang/StringUTF16") rfl (plainFor_of_name pn_25) (fun m => ef_cpU3_0_1_S m t (2 : Int32) (3 : Int32)) ?_
  intro p e s m below meth c s₁ Bd hml hZ hh hx hby hown X0 e0
  have N0 := Fr.nil n0
  have lt3 : h0.size > t := V_t.lt
  refine oa2 X0.here hx hby d25_0 rfl rfl ?_
  refine oa X0.here hx hby d25_1 rfl ?_
  refine oa X0.here hx hby d25_2 rfl ?_
  refine oa4 X0.here hx hby d25_3 (v := (0 : Int32)) (by decide) ?_
  refine oa3 X0 hx hZ hown (oa0 hw 115 rfl) (oa0 hw 116 rfl) (oa0 hw 22 rfl) (oa0 hw 117 rfl) (by decide) (cpU4_2_3_S l Z a0 hw [] t kb c0 c1 c2 h0 n0 Z0 V_t S_AD S_HI S_LO h0_c2 h1_c2) 0 hml rfl (argsL := [(.ref t), (.int 2), (.int 3), (.int 0)]) (st := []) (lenOf pd_8 rfl) rfl rfl e0 hby d25_4 ?_
  intro T4 v4 L4 X4 hQ4
  obtain ⟨rfl, Nq4, eh4⟩ := hQ4
  have N4 := Fr.app N0 Nq4
  refine oa5 (T := T4) 7 #[.val (.ref t), .val (.int 2), .val (.int 3)] [(.int c2)] ?_
  refine oa9 X4 Bd.notSynchronized (v := some (.int c2)) (ob4 Bd.returns) (fun _ hr => retOut X4 hx Bd.returns rfl (Or.inl ⟨rfl, Or.inl rfl, _, rfl⟩) (hb hby d25_7) hr) eh4 (by decide) (by decide) ?_
  exact ⟨rfl, N4, rfl⟩
def Q_cpU_2_3_S (Z : State) (x : Nat) (t : Nat) (kb : ClassId) (zc : Int32) (fm : Value) (c0 : Int32) (c1 : Int32) (c2 : Int32) (h0 : Heap) (n0 : Nat) (vR : Option Value) (hR : Heap) (LR : List Loc) : Prop := vR = some (.int c2) ∧ Fr n0 LR ∧ hR = h0
theorem cpU_2_3_S (l : Launch) (Z : State) (a0 : Array Value) (hw : ∀ d ∈ tables_1, d.before a0 Z = true) (ws : List Jvm.Cond) (x : Nat) (t : Nat) (kb : ClassId) (zc : Int32) (fm : Value) (c0 : Int32) (c1 : Int32) (c2 : Int32) (h0 : Heap) (n0 : Nat) (Z0 : n0 ≤ h0.size) (E_x : Exa Z h0 x "java/lang/String") (Fc_x : Fld Z h0 x "java/lang/String" "coder" "B" (.int 1)) (Fv_x : Fld Z h0 x "java/lang/String" "value" "[B" (.ref t)) (V_t : Arv Z h0 t kb .byte (6 : Int32) [(.int ((c0 >>> ((0 : Int32) &&& 31)).toInt8.toInt32)), (.int ((c0 >>> ((8 : Int32) &&& 31)).toInt8.toInt32)), (.int ((c1 >>> ((0 : Int32) &&& 31)).toInt8.toInt32)), (.int ((c1 >>> ((8 : Int32) &&& 31)).toInt8.toInt32)), (.int ((c2 >>> ((0 : Int32) &&& 31)).toInt8.toInt32)), (.int ((c2 >>> ((8 : Int32) &&& 31)).toInt8.toInt32))] (.int 0)) (S_C : Sta Z h0 "java/lang/String" "COMPACT_STRINGS" "Z" (.int zc)) (hz : ¬ (zc = (0 : Int32))) (S_FM : Sta Z h0 "jdk/internal/util/Preconditions" "SIOOBE_FORMATTER" "Ljava/util/function/BiFunction;" fm) (hfm : fm.isRef = true) (S_AD : Sta Z h0 "java/lang/StringUTF16" "$assertionsDisabled" "Z" (.int 1)) (S_HI : Sta Z h0 "java/lang/StringUTF16" "HI_BYTE_SHIFT" "I" (.int 0)) (S_LO : Sta Z h0 "java/lang/StringUTF16" "LO_BYTE_SHIFT" "I" (.int 8)) (h0_c2 : ¬ (c2 < (0 : Int32))) (h1_c2 : ¬ ((65535 : Int32) < c2)) :
    oc2 l (⟨"java/lang/String", "codePointAt", "(I)I"⟩ : MethodName) jdk_42_method_57_code 3 (some .int) ws ({ frames := 3, cells := 0, slots := 0, locals := 44 } : Room) Z #[(.ref x), (.int 2)] h0 (Q_cpU_2_3_S Z x t kb zc fm c0 c1 c2 h0 n0) := by
  refine ob3 (own := "java/lang/String") rfl (plainFor_of_name pn_11) (fun m => ef_cpL_0_1 m x (2 : Int32)) ?_
  intro p e s m below meth c s₁ Bd hml hZ hh hx hby hown X0 e0
  have N0 := Fr.nil n0
  have lt3 : h0.size > x := E_x.lt
  have lt4 : h0.size > t := V_t.lt
  refine oa2 X0.here hx hby d11_0 rfl rfl ?_
  refine ob6 X0 hx hZ hown (oa0 hw 54 rfl) (oa0 hw 55 rfl) (notFace_of_selects (args := #[]) (mvT hZ (oa0 hw 57 rfl))) (oa0 hw 57 rfl) (oa0 hw 56 rfl) (oa0 hw 8 rfl) (oa0 hw 58 rfl) (by decide) (isLatU l Z a0 hw [] x zc h0 n0 Z0 Fc_x S_C hz) 0 hml rfl (argsL := []) (st := []) E_x (lenOf pd_4 rfl) rfl rfl e0 hby d11_1 ?_
  intro T5 v5 L5 X5 hQ5
  obtain ⟨rfl, Nq5, eh5⟩ := hQ5
  have N5 := Fr.app N0 Nq5
  refine oa5 (T := T5) 4 #[.val (.ref x), .val (.int 2), .unset] [(.int 0)] ?_
  refine ob1 X5.here hx hby (pc' := 27) d11_4 ((if0 _ _).trans (teq (show (0 : Int32) = (0 : Int32) from (by decide))).1) (by decide) (by decide) ?_
  refine oa2 X5.here hx hby d11_27 rfl rfl ?_
  refine od3 X5 hx hZ hown (host := "") (Or.inl (oa0 hw 33 rfl)) Via.refl eh5 Fv_x hby d11_28 ?_
  intro T6 X6 e6
  refine oe X6 hx hZ e6 V_t hby d11_31 ?_
  refine oa4 X6.here hx hby d11_32 (v := (1 : Int32)) (by decide) ?_
  refine oe2 X6.here hx hby d11_33 (v := (3 : Int32)) (by decide) ?_
  refine oa6 X6.here hx hby d11_34 (l' := #[.val (.ref x), .val (.int 2), .val (.int 3)]) rfl ?_
  refine oa X6.here hx hby d11_35 rfl ?_
  refine oa X6.here hx hby d11_36 rfl ?_
  refine oa3 X6 hx hZ hown (oa0 hw 59 rfl) (oa0 hw 60 rfl) (oa0 hw 8 rfl) (oa0 hw 61 rfl) (by decide) (strChk_2_3 l Z a0 hw [] fm h0 n0 Z0 S_FM hfm) 0 hml rfl (argsL := [(.int 2), (.int 3)]) (st := []) (lenOf pd_5 rfl) rfl rfl e6 hby d11_37 ?_
  intro T7 v7 L7 X7 hQ7
  obtain ⟨rfl, Nq7, eh7⟩ := hQ7
  have N7 := Fr.app N5 Nq7
  refine oa5 (T := T7) 40 #[.val (.ref x), .val (.int 2), .val (.int 3)] [] ?_
  refine oa2 X7.here hx hby d11_40 rfl rfl ?_
  refine od3 X7 hx hZ hown (host := "") (Or.inl (oa0 hw 33 rfl)) Via.refl eh7 Fv_x hby d11_41 ?_
  intro T8 X8 e8
  refine oa X8.here hx hby d11_44 rfl ?_
  refine oa X8.here hx hby d11_45 rfl ?_
  refine oa3 X8 hx hZ hown (oa0 hw 112 rfl) (oa0 hw 113 rfl) (oa0 hw 22 rfl) (oa0 hw 114 rfl) (by decide) (cpU3_2_3_S l Z a0 hw [] t kb c0 c1 c2 h0 n0 Z0 V_t S_AD S_HI S_LO h0_c2 h1_c2) 0 hml rfl (argsL := [(.ref t), (.int 2), (.int 3)]) (st := []) (lenOf pd_9 rfl) rfl rfl e8 hby d11_46 ?_
  intro T9 v9 L9 X9 hQ9
  obtain ⟨rfl, Nq9, eh9⟩ := hQ9
  have N9 := Fr.app N7 Nq9
  refine oa5 (T := T9) 49 #[.val (.ref x), .val (.int 2), .val (.int 3)] [(.int c2)] ?_
  refine oa9 X9 Bd.notSynchronized (v := some (.int c2)) (ob4 Bd.returns) (fun _ hr => retOut X9 hx Bd.returns rfl (Or.inl ⟨rfl, Or.inl rfl, _, rfl⟩) (hb hby d11_49) hr) eh9 (by decide) (by decide) ?_
  exact ⟨rfl, N9, rfl⟩
theorem d8_16 : decode prog_5_method_12_code 16 = .ok (.iload_n 2, 1) := by decide +kernel
theorem d8_17 : decode prog_5_method_12_code 17 = .ok (.bipush 9, 2) := by decide +kernel
theorem d8_19 : decode prog_5_method_12_code 19 = .ok (.if_icmp .eq 51, 3) := by decide +kernel
theorem d8_70 : decode prog_5_method_12_code 70 = .ok (.iconst 1, 1) := by decide +kernel
theorem d8_71 : decode prog_5_method_12_code 71 = .ok (.goto 4, 3) := by decide +kernel
theorem d8_75 : decode prog_5_method_12_code 75 = .ok (.istore_n 3, 1) := by decide +kernel
theorem d8_22 : decode prog_5_method_12_code 22 = .ok (.iload_n 2, 1) := by decide +kernel
theorem d8_23 : decode prog_5_method_12_code 23 = .ok (.bipush 10, 2) := by decide +kernel
theorem d8_25 : decode prog_5_method_12_code 25 = .ok (.if_icmp .eq 45, 3) := by decide +kernel
theorem d8_28 : decode prog_5_method_12_code 28 = .ok (.iload_n 2, 1) := by decide +kernel
theorem d8_29 : decode prog_5_method_12_code 29 = .ok (.bipush 13, 2) := by decide +kernel
theorem d8_31 : decode prog_5_method_12_code 31 = .ok (.if_icmp .eq 39, 3) := by decide +kernel
theorem d8_34 : decode prog_5_method_12_code 34 = .ok (.iload_n 2, 1) := by decide +kernel
theorem d8_35 : decode prog_5_method_12_code 35 = .ok (.bipush 32, 2) := by decide +kernel
theorem d8_37 : decode prog_5_method_12_code 37 = .ok (.if_icmp .lt 9, 3) := by decide +kernel
theorem d8_46 : decode prog_5_method_12_code 46 = .ok (.iload_n 2, 1) := by decide +kernel
theorem d8_47 : decode prog_5_method_12_code 47 = .ok (.ldc 88, 2) := by decide +kernel
theorem d8_49 : decode prog_5_method_12_code 49 = .ok (.if_icmp .lt 9, 3) := by decide +kernel
theorem d8_58 : decode prog_5_method_12_code 58 = .ok (.iload_n 2, 1) := by decide +kernel
theorem d8_59 : decode prog_5_method_12_code 59 = .ok (.ldc 90, 2) := by decide +kernel
theorem d8_61 : decode prog_5_method_12_code 61 = .ok (.if_icmp .lt 13, 3) := by decide +kernel
theorem d8_74 : decode prog_5_method_12_code 74 = .ok (.iconst 0, 1) := by decide +kernel
theorem d8_52 : decode prog_5_method_12_code 52 = .ok (.iload_n 2, 1) := by decide +kernel
theorem d8_53 : decode prog_5_method_12_code 53 = .ok (.ldc 89, 2) := by decide +kernel
theorem d8_55 : decode prog_5_method_12_code 55 = .ok (.if_icmp .le 15, 3) := by decide +kernel
theorem d8_40 : decode prog_5_method_12_code 40 = .ok (.iload_n 2, 1) := by decide +kernel
theorem d8_41 : decode prog_5_method_12_code 41 = .ok (.ldc 87, 2) := by decide +kernel
theorem d8_43 : decode prog_5_method_12_code 43 = .ok (.if_icmp .le 27, 3) := by decide +kernel
theorem og7 {p : Program} {l : Launch} {e : Env} {R : Room} {s : State} {m : MethodId} {args : Array Value} {below : List Frame} {meth : Method} {c : Code} {T : State} {lo : List Loc} {ce sl : Nat} {P : State → Prop} {Z : State} {a0 : Array Value} (hw : ∀ d ∈ tables_1, d.before a0 Z = true) (X : Stand p l e R s m args below meth c T lo ce sl) (hx : p.tables.exec = Jvm.exec) (hZ : Z.Warmed39 s.vm) (hown : s.vm.findClass "com/example/sluice/sluice/Message" = some m.cls) (hby : c.code = prog_5_method_12_code) (r1 : Slot) (r2 : Slot) (ch : Int32) (l16 : ch < (65536 : Int32)) (k : oc0 p.tables e below P (T.setTop (mkF m 76 #[r1, r2, .val (.int ch), .val (.int (ob0 ch))] []))) : oc0 p.tables e below P (T.setTop (mkF m 16 #[r1, r2, .val (.int ch), .unset] [])) := by
  refine oa X.here hx hby d8_16 rfl ?_
  refine od4 X.here hx hby d8_17 (v := (9 : Int32)) (by decide) ?_
  by_cases hc19_3 : ch = (9 : Int32)
  · refine ob2 X.here hx hby (pc' := 70) d8_19 (teq hc19_3).1 (by decide) (by decide) ?_
    refine oa4 X.here hx hby d8_70 (v := (1 : Int32)) (by decide) ?_
    refine oc X.here hx hby (pc' := 75) d8_71 (by decide) (by decide) ?_
    refine oa6 X.here hx hby d8_75 (l' := #[r1, r2, .val (.int ch), .val (.int 1)]) rfl ?_
    refine oa5 (T := T) 76 #[r1, r2, .val (.int ch), .val (.int 1)] [] ?_
    rw [show #[r1, r2, .val (.int ch), .val (.int 1)] = #[r1, r2, .val (.int ch), .val (.int (ob0 ch))] from by rw [← (of7 (Or.inl hc19_3))]]
    exact k
  · refine oa7 X.here hx hby d8_19 (feq hc19_3).1 ?_
    refine oa X.here hx hby d8_22 rfl ?_
    refine od4 X.here hx hby d8_23 (v := (10 : Int32)) (by decide) ?_
    by_cases hc25_4 : ch = (10 : Int32)
    · refine ob2 X.here hx hby (pc' := 70) d8_25 (teq hc25_4).1 (by decide) (by decide) ?_
      refine oa4 X.here hx hby d8_70 (v := (1 : Int32)) (by decide) ?_
      refine oc X.here hx hby (pc' := 75) d8_71 (by decide) (by decide) ?_
      refine oa6 X.here hx hby d8_75 (l' := #[r1, r2, .val (.int ch), .val (.int 1)]) rfl ?_
      refine oa5 (T := T) 76 #[r1, r2, .val (.int ch), .val (.int 1)] [] ?_
      rw [show #[r1, r2, .val (.int ch), .val (.int 1)] = #[r1, r2, .val (.int ch), .val (.int (ob0 ch))] from by rw [← (of7 (Or.inr (Or.inl hc25_4)))]]
      exact k
    · refine oa7 X.here hx hby d8_25 (feq hc25_4).1 ?_
      refine oa X.here hx hby d8_28 rfl ?_
      refine od4 X.here hx hby d8_29 (v := (13 : Int32)) (by decide) ?_
      by_cases hc31_5 : ch = (13 : Int32)
      · refine ob2 X.here hx hby (pc' := 70) d8_31 (teq hc31_5).1 (by decide) (by decide) ?_
        refine oa4 X.here hx hby d8_70 (v := (1 : Int32)) (by decide) ?_
        refine oc X.here hx hby (pc' := 75) d8_71 (by decide) (by decide) ?_
        refine oa6 X.here hx hby d8_75 (l' := #[r1, r2, .val (.int ch), .val (.int 1)]) rfl ?_
        refine oa5 (T := T) 76 #[r1, r2, .val (.int ch), .val (.int 1)] [] ?_
        rw [show #[r1, r2, .val (.int ch), .val (.int 1)] = #[r1, r2, .val (.int ch), .val (.int (ob0 ch))] from by rw [← (of7 (Or.inr (Or.inr (Or.inl hc31_5))))]]
        exact k
      · refine oa7 X.here hx hby d8_31 (feq hc31_5).1 ?_
        refine oa X.here hx hby d8_34 rfl ?_
        refine od4 X.here hx hby d8_35 (v := (32 : Int32)) (by decide) ?_
        by_cases hc37_6 : ch < (32 : Int32)
        · refine ob2 X.here hx hby (pc' := 46) d8_37 (tlt hc37_6).1 (by decide) (by decide) ?_
          refine oa X.here hx hby d8_46 rfl ?_
          refine oc1 X hx hZ hown (oa0 hw 67 rfl) hby d8_47 ?_
          by_cases hc49_7 : ch < (57344 : Int32)
          · refine ob2 X.here hx hby (pc' := 58) d8_49 (tlt hc49_7).1 (by decide) (by decide) ?_
            refine oa X.here hx hby d8_58 rfl ?_
            refine oc1 X hx hZ hown (oa0 hw 68 rfl) hby d8_59 ?_
            refine ob2 X.here hx hby (pc' := 74) d8_61 (tlt l16).1 (by decide) (by decide) ?_
            refine oa4 X.here hx hby d8_74 (v := (0 : Int32)) (by decide) ?_
            refine oa6 X.here hx hby d8_75 (l' := #[r1, r2, .val (.int ch), .val (.int 0)]) rfl ?_
            refine oa5 (T := T) 76 #[r1, r2, .val (.int ch), .val (.int 0)] [] ?_
            rw [show #[r1, r2, .val (.int ch), .val (.int 0)] = #[r1, r2, .val (.int ch), .val (.int (ob0 ch))] from by rw [← (og1 hc19_3 hc25_4 hc31_5 (Or.inl hc37_6) (Or.inl hc49_7))]]
            exact k
          · refine oa7 X.here hx hby d8_49 (flt hc49_7).1 ?_
            refine oa X.here hx hby d8_52 rfl ?_
            refine oc1 X hx hZ hown (oa0 hw 124 rfl) hby d8_53 ?_
            by_cases hc55_8 : (65533 : Int32) < ch
            · refine oa7 X.here hx hby d8_55 (tlt hc55_8).2.2.2 ?_
              refine oa X.here hx hby d8_58 rfl ?_
              refine oc1 X hx hZ hown (oa0 hw 68 rfl) hby d8_59 ?_
              refine ob2 X.here hx hby (pc' := 74) d8_61 (tlt l16).1 (by decide) (by decide) ?_
              refine oa4 X.here hx hby d8_74 (v := (0 : Int32)) (by decide) ?_
              refine oa6 X.here hx hby d8_75 (l' := #[r1, r2, .val (.int ch), .val (.int 0)]) rfl ?_
              refine oa5 (T := T) 76 #[r1, r2, .val (.int ch), .val (.int 0)] [] ?_
              rw [show #[r1, r2, .val (.int ch), .val (.int 0)] = #[r1, r2, .val (.int ch), .val (.int (ob0 ch))] from by rw [← (og1 hc19_3 hc25_4 hc31_5 (Or.inl hc37_6) (Or.inr hc55_8))]]
              exact k
            · refine ob2 X.here hx hby (pc' := 70) d8_55 (flt hc55_8).2.2.2 (by decide) (by decide) ?_
              refine oa4 X.here hx hby d8_70 (v := (1 : Int32)) (by decide) ?_
              refine oc X.here hx hby (pc' := 75) d8_71 (by decide) (by decide) ?_
              refine oa6 X.here hx hby d8_75 (l' := #[r1, r2, .val (.int ch), .val (.int 1)]) rfl ?_
              refine oa5 (T := T) 76 #[r1, r2, .val (.int ch), .val (.int 1)] [] ?_
              rw [show #[r1, r2, .val (.int ch), .val (.int 1)] = #[r1, r2, .val (.int ch), .val (.int (ob0 ch))] from by rw [← (of7 (Or.inr (Or.inr (Or.inr (Or.inr ⟨hc49_7, hc55_8⟩)))))]]
              exact k
        · refine oa7 X.here hx hby d8_37 (flt hc37_6).1 ?_
          refine oa X.here hx hby d8_40 rfl ?_
          refine oc1 X hx hZ hown (oa0 hw 83 rfl) hby d8_41 ?_
          by_cases hc43_9 : (55295 : Int32) < ch
          · refine oa7 X.here hx hby d8_43 (tlt hc43_9).2.2.2 ?_
            refine oa X.here hx hby d8_46 rfl ?_
            refine oc1 X hx hZ hown (oa0 hw 67 rfl) hby d8_47 ?_
            by_cases hc49_10 : ch < (57344 : Int32)
            · refine ob2 X.here hx hby (pc' := 58) d8_49 (tlt hc49_10).1 (by decide) (by decide) ?_
              refine oa X.here hx hby d8_58 rfl ?_
              refine oc1 X hx hZ hown (oa0 hw 68 rfl) hby d8_59 ?_
              refine ob2 X.here hx hby (pc' := 74) d8_61 (tlt l16).1 (by decide) (by decide) ?_
              refine oa4 X.here hx hby d8_74 (v := (0 : Int32)) (by decide) ?_
              refine oa6 X.here hx hby d8_75 (l' := #[r1, r2, .val (.int ch), .val (.int 0)]) rfl ?_
              refine oa5 (T := T) 76 #[r1, r2, .val (.int ch), .val (.int 0)] [] ?_
              rw [show #[r1, r2, .val (.int ch), .val (.int 0)] = #[r1, r2, .val (.int ch), .val (.int (ob0 ch))] from by rw [← (og1 hc19_3 hc25_4 hc31_5 (Or.inr hc43_9) (Or.inl hc49_10))]]
              exact k
            · refine oa7 X.here hx hby d8_49 (flt hc49_10).1 ?_
              refine oa X.here hx hby d8_52 rfl ?_
              refine oc1 X hx hZ hown (oa0 hw 124 rfl) hby d8_53 ?_
              by_cases hc55_11 : (65533 : Int32) < ch
              · refine oa7 X.here hx hby d8_55 (tlt hc55_11).2.2.2 ?_
                refine oa X.here hx hby d8_58 rfl ?_
                refine oc1 X hx hZ hown (oa0 hw 68 rfl) hby d8_59 ?_
                refine ob2 X.here hx hby (pc' := 74) d8_61 (tlt l16).1 (by decide) (by decide) ?_
                refine oa4 X.here hx hby d8_74 (v := (0 : Int32)) (by decide) ?_
                refine oa6 X.here hx hby d8_75 (l' := #[r1, r2, .val (.int ch), .val (.int 0)]) rfl ?_
                refine oa5 (T := T) 76 #[r1, r2, .val (.int ch), .val (.int 0)] [] ?_
                rw [show #[r1, r2, .val (.int ch), .val (.int 0)] = #[r1, r2, .val (.int ch), .val (.int (ob0 ch))] from by rw [← (og1 hc19_3 hc25_4 hc31_5 (Or.inr hc43_9) (Or.inr hc55_11))]]
                exact k
              · refine ob2 X.here hx hby (pc' := 70) d8_55 (flt hc55_11).2.2.2 (by decide) (by decide) ?_
                refine oa4 X.here hx hby d8_70 (v := (1 : Int32)) (by decide) ?_
                refine oc X.here hx hby (pc' := 75) d8_71 (by decide) (by decide) ?_
                refine oa6 X.here hx hby d8_75 (l' := #[r1, r2, .val (.int ch), .val (.int 1)]) rfl ?_
                refine oa5 (T := T) 76 #[r1, r2, .val (.int ch), .val (.int 1)] [] ?_
                rw [show #[r1, r2, .val (.int ch), .val (.int 1)] = #[r1, r2, .val (.int ch), .val (.int (ob0 ch))] from by rw [← (of7 (Or.inr (Or.inr (Or.inr (Or.inr ⟨hc49_10, hc55_11⟩)))))]]
                exact k
          · refine ob2 X.here hx hby (pc' := 70) d8_43 (flt hc43_9).2.2.2 (by decide) (by decide) ?_
            refine oa4 X.here hx hby d8_70 (v := (1 : Int32)) (by decide) ?_
            refine oc X.here hx hby (pc' := 75) d8_71 (by decide) (by decide) ?_
            refine oa6 X.here hx hby d8_75 (l' := #[r1, r2, .val (.int ch), .val (.int 1)]) rfl ?_
            refine oa5 (T := T) 76 #[r1, r2, .val (.int ch), .val (.int 1)] [] ?_
            rw [show #[r1, r2, .val (.int ch), .val (.int 1)] = #[r1, r2, .val (.int ch), .val (.int (ob0 ch))] from by rw [← (of7 (Or.inr (Or.inr (Or.inr (Or.inl ⟨hc37_6, hc43_9⟩)))))]]
            exact k
theorem og5 {p : Program} {l : Launch} {e : Env} {R : Room} {s : State} {m : MethodId} {args : Array Value} {below : List Frame} {meth : Method} {c : Code} {T : State} {lo : List Loc} {ce sl : Nat} {P : State → Prop} {Z : State} {a0 : Array Value} (hw : ∀ d ∈ tables_1, d.before a0 Z = true) (X : Stand p l e R s m args below meth c T lo ce sl) (hx : p.tables.exec = Jvm.exec) (hZ : Z.Warmed39 s.vm) (hown : s.vm.findClass "com/example/sluice/sluice/Message" = some m.cls) (hby : c.code = prog_5_method_12_code) (r1 : Slot) (r2 : Slot) (ch : Int32) (r4 : Int32) (l16 : ch < (65536 : Int32)) (k : oc0 p.tables e below P (T.setTop (mkF m 76 #[r1, r2, .val (.int ch), .val (.int (ob0 ch))] []))) : oc0 p.tables e below P (T.setTop (mkF m 16 #[r1, r2, .val (.int ch), .val (.int r4)] [])) := by
  refine oa X.here hx hby d8_16 rfl ?_
  refine od4 X.here hx hby d8_17 (v := (9 : Int32)) (by decide) ?_
  by_cases hc19_3 : ch = (9 : Int32)
  · refine ob2 X.here hx hby (pc' := 70) d8_19 (teq hc19_3).1 (by decide) (by decide) ?_
    refine oa4 X.here hx hby d8_70 (v := (1 : Int32)) (by decide) ?_
    refine oc X.here hx hby (pc' := 75) d8_71 (by decide) (by decide) ?_
    refine oa6 X.here hx hby d8_75 (l' := #[r1, r2, .val (.int ch), .val (.int 1)]) rfl ?_
    refine oa5 (T := T) 76 #[r1, r2, .val (.int ch), .val (.int 1)] [] ?_
    rw [show #[r1, r2, .val (.int ch), .val (.int 1)] = #[r1, r2, .val (.int ch), .val (.int (ob0 ch))] from by rw [← (of7 (Or.inl hc19_3))]]
    exact k
  · refine oa7 X.here hx hby d8_19 (feq hc19_3).1 ?_
    refine oa X.here hx hby d8_22 rfl ?_
    refine od4 X.here hx hby d8_23 (v := (10 : Int32)) (by decide) ?_
    by_cases hc25_5 : ch = (10 : Int32)
    · refine ob2 X.here hx hby (pc' := 70) d8_25 (teq hc25_5).1 (by decide) (by decide) ?_
      refine oa4 X.here hx hby d8_70 (v := (1 : Int32)) (by decide) ?_
      refine oc X.here hx hby (pc' := 75) d8_71 (by decide) (by decide) ?_
      refine oa6 X.here hx hby d8_75 (l' := #[r1, r2, .val (.int ch), .val (.int 1)]) rfl ?_
      refine oa5 (T := T) 76 #[r1, r2, .val (.int ch), .val (.int 1)] [] ?_
      rw [show #[r1, r2, .val (.int ch), .val (.int 1)] = #[r1, r2, .val (.int ch), .val (.int (ob0 ch))] from by rw [← (of7 (Or.inr (Or.inl hc25_5)))]]
      exact k
    · refine oa7 X.here hx hby d8_25 (feq hc25_5).1 ?_
      refine oa X.here hx hby d8_28 rfl ?_
      refine od4 X.here hx hby d8_29 (v := (13 : Int32)) (by decide) ?_
      by_cases hc31_6 : ch = (13 : Int32)
      · refine ob2 X.here hx hby (pc' := 70) d8_31 (teq hc31_6).1 (by decide) (by decide) ?_
        refine oa4 X.here hx hby d8_70 (v := (1 : Int32)) (by decide) ?_
        refine oc X.here hx hby (pc' := 75) d8_71 (by decide) (by decide) ?_
        refine oa6 X.here hx hby d8_75 (l' := #[r1, r2, .val (.int ch), .val (.int 1)]) rfl ?_
        refine oa5 (T := T) 76 #[r1, r2, .val (.int ch), .val (.int 1)] [] ?_
        rw [show #[r1, r2, .val (.int ch), .val (.int 1)] = #[r1, r2, .val (.int ch), .val (.int (ob0 ch))] from by rw [← (of7 (Or.inr (Or.inr (Or.inl hc31_6))))]]
        exact k
      · refine oa7 X.here hx hby d8_31 (feq hc31_6).1 ?_
        refine oa X.here hx hby d8_34 rfl ?_
        refine od4 X.here hx hby d8_35 (v := (32 : Int32)) (by decide) ?_
        by_cases hc37_7 : ch < (32 : Int32)
        · refine ob2 X.here hx hby (pc' := 46) d8_37 (tlt hc37_7).1 (by decide) (by decide) ?_
          refine oa X.here hx hby d8_46 rfl ?_
          refine oc1 X hx hZ hown (oa0 hw 67 rfl) hby d8_47 ?_
          by_cases hc49_8 : ch < (57344 : Int32)
          · refine ob2 X.here hx hby (pc' := 58) d8_49 (tlt hc49_8).1 (by decide) (by decide) ?_
            refine oa X.here hx hby d8_58 rfl ?_
            refine oc1 X hx hZ hown (oa0 hw 68 rfl) hby d8_59 ?_
            refine ob2 X.here hx hby (pc' := 74) d8_61 (tlt l16).1 (by decide) (by decide) ?_
            refine oa4 X.here hx hby d8_74 (v := (0 : Int32)) (by decide) ?_
            refine oa6 X.here hx hby d8_75 (l' := #[r1, r2, .val (.int ch), .val (.int 0)]) rfl ?_
            refine oa5 (T := T) 76 #[r1, r2, .val (.int ch), .val (.int 0)] [] ?_
            rw [show #[r1, r2, .val (.int ch), .val (.int 0)] = #[r1, r2, .val (.int ch), .val (.int (ob0 ch))] from by rw [← (og1 hc19_3 hc25_5 hc31_6 (Or.inl hc37_7) (Or.inl hc49_8))]]
            exact k
          · refine oa7 X.here hx hby d8_49 (flt hc49_8).1 ?_
            refine oa X.here hx hby d8_52 rfl ?_
            refine oc1 X hx hZ hown (oa0 hw 124 rfl) hby d8_53 ?_
            by_cases hc55_9 : (65533 : Int32) < ch
            · refine oa7 X.here hx hby d8_55 (tlt hc55_9).2.2.2 ?_
              refine oa X.here hx hby d8_58 rfl ?_
              refine oc1 X hx hZ hown (oa0 hw 68 rfl) hby d8_59 ?_
              refine ob2 X.here hx hby (pc' := 74) d8_61 (tlt l16).1 (by decide) (by decide) ?_
              refine oa4 X.here hx hby d8_74 (v := (0 : Int32)) (by decide) ?_
              refine oa6 X.here hx hby d8_75 (l' := #[r1, r2, .val (.int ch), .val (.int 0)]) rfl ?_
              refine oa5 (T := T) 76 #[r1, r2, .val (.int ch), .val (.int 0)] [] ?_
              rw [show #[r1, r2, .val (.int ch), .val (.int 0)] = #[r1, r2, .val (.int ch), .val (.int (ob0 ch))] from by rw [← (og1 hc19_3 hc25_5 hc31_6 (Or.inl hc37_7) (Or.inr hc55_9))]]
              exact k
            · refine ob2 X.here hx hby (pc' := 70) d8_55 (flt hc55_9).2.2.2 (by decide) (by decide) ?_
              refine oa4 X.here hx hby d8_70 (v := (1 : Int32)) (by decide) ?_
              refine oc X.here hx hby (pc' := 75) d8_71 (by decide) (by decide) ?_
              refine oa6 X.here hx hby d8_75 (l' := #[r1, r2, .val (.int ch), .val (.int 1)]) rfl ?_
              refine oa5 (T := T) 76 #[r1, r2, .val (.int ch), .val (.int 1)] [] ?_
              rw [show #[r1, r2, .val (.int ch), .val (.int 1)] = #[r1, r2, .val (.int ch), .val (.int (ob0 ch))] from by rw [← (of7 (Or.inr (Or.inr (Or.inr (Or.inr ⟨hc49_8, hc55_9⟩)))))]]
              exact k
        · refine oa7 X.here hx hby d8_37 (flt hc37_7).1 ?_
          refine oa X.here hx hby d8_40 rfl ?_
          refine oc1 X hx hZ hown (oa0 hw 83 rfl) hby d8_41 ?_
          by_cases hc43_10 : (55295 : Int32) < ch
          · refine oa7 X.here hx hby d8_43 (tlt hc43_10).2.2.2 ?_
            refine oa X.here hx hby d8_46 rfl ?_
            refine oc1 X hx hZ hown (oa0 hw 67 rfl) hby d8_47 ?_
            by_cases hc49_11 : ch < (57344 : Int32)
            · refine ob2 X.here hx hby (pc' := 58) d8_49 (tlt hc49_11).1 (by decide) (by decide) ?_
              refine oa X.here hx hby d8_58 rfl ?_
              refine oc1 X hx hZ hown (oa0 hw 68 rfl) hby d8_59 ?_
              refine ob2 X.here hx hby (pc' := 74) d8_61 (tlt l16).1 (by decide) (by decide) ?_
              refine oa4 X.here hx hby d8_74 (v := (0 : Int32)) (by decide) ?_
              refine oa6 X.here hx hby d8_75 (l' := #[r1, r2, .val (.int ch), .val (.int 0)]) rfl ?_
              refine oa5 (T := T) 76 #[r1, r2, .val (.int ch), .val (.int 0)] [] ?_
              rw [show #[r1, r2, .val (.int ch), .val (.int 0)] = #[r1, r2, .val (.int ch), .val (.int (ob0 ch))] from by rw [← (og1 hc19_3 hc25_5 hc31_6 (Or.inr hc43_10) (Or.inl hc49_11))]]
              exact k
            · refine oa7 X.here hx hby d8_49 (flt hc49_11).1 ?_
              refine oa X.here hx hby d8_52 rfl ?_
              refine oc1 X hx hZ hown (oa0 hw 124 rfl) hby d8_53 ?_
              by_cases hc55_12 : (65533 : Int32) < ch
              · refine oa7 X.here hx hby d8_55 (tlt hc55_12).2.2.2 ?_
                refine oa X.here hx hby d8_58 rfl ?_
                refine oc1 X hx hZ hown (oa0 hw 68 rfl) hby d8_59 ?_
                refine ob2 X.here hx hby (pc' := 74) d8_61 (tlt l16).1 (by decide) (by decide) ?_
                refine oa4 X.here hx hby d8_74 (v := (0 : Int32)) (by decide) ?_
                refine oa6 X.here hx hby d8_75 (l' := #[r1, r2, .val (.int ch), .val (.int 0)]) rfl ?_
                refine oa5 (T := T) 76 #[r1, r2, .val (.int ch), .val (.int 0)] [] ?_
                rw [show #[r1, r2, .val (.int ch), .val (.int 0)] = #[r1, r2, .val (.int ch), .val (.int (ob0 ch))] from by rw [← (og1 hc19_3 hc25_5 hc31_6 (Or.inr hc43_10) (Or.inr hc55_12))]]
                exact k
              · refine ob2 X.here hx hby (pc' := 70) d8_55 (flt hc55_12).2.2.2 (by decide) (by decide) ?_
                refine oa4 X.here hx hby d8_70 (v := (1 : Int32)) (by decide) ?_
                refine oc X.here hx hby (pc' := 75) d8_71 (by decide) (by decide) ?_
                refine oa6 X.here hx hby d8_75 (l' := #[r1, r2, .val (.int ch), .val (.int 1)]) rfl ?_
                refine oa5 (T := T) 76 #[r1, r2, .val (.int ch), .val (.int 1)] [] ?_
                rw [show #[r1, r2, .val (.int ch), .val (.int 1)] = #[r1, r2, .val (.int ch), .val (.int (ob0 ch))] from by rw [← (of7 (Or.inr (Or.inr (Or.inr (Or.inr ⟨hc49_11, hc55_12⟩)))))]]
                exact k
          · refine ob2 X.here hx hby (pc' := 70) d8_43 (flt hc43_10).2.2.2 (by decide) (by decide) ?_
            refine oa4 X.here hx hby d8_70 (v := (1 : Int32)) (by decide) ?_
            refine oc X.here hx hby (pc' := 75) d8_71 (by decide) (by decide) ?_
            refine oa6 X.here hx hby d8_75 (l' := #[r1, r2, .val (.int ch), .val (.int 1)]) rfl ?_
            refine oa5 (T := T) 76 #[r1, r2, .val (.int ch), .val (.int 1)] [] ?_
            rw [show #[r1, r2, .val (.int ch), .val (.int 1)] = #[r1, r2, .val (.int ch), .val (.int (ob0 ch))] from by rw [← (of7 (Or.inr (Or.inr (Or.inr (Or.inl ⟨hc37_7, hc43_10⟩)))))]]
            exact k
def Q_strCoder (Z : State) (x : Nat) (zc : Int32) (h0 : Heap) (n0 : Nat) (vR : Option Value) (hR : Heap) (LR : List Loc) : Prop := vR = some (.int 0) ∧ Fr n0 LR ∧ hR = h0
theorem strCoder (l : Launch) (Z : State) (a0 : Array Value) (hw : ∀ d ∈ tables_1, d.before a0 Z = true) (ws : List Jvm.Cond) (x : Nat) (zc : Int32) (h0 : Heap) (n0 : Nat) (Z0 : n0 ≤ h0.size) (Fc_x : Fld Z h0 x "java/lang/String" "coder" "B" (.int 0)) (S_C : Sta Z h0 "java/lang/String" "COMPACT_STRINGS" "Z" (.int zc)) (hz : ¬ (zc = (0 : Int32))) :
    oc2 l (⟨"java/lang/String", "coder", "()B"⟩ : MethodName) jdk_42_method_152_code 1 (some .byte) ws ({ frames := 0, cells := 0, slots := 0, locals := 0 } : Room) Z #[(.ref x)] h0 (Q_strCoder Z x zc h0 n0) := by
  refine ob3 (own := "java/lang/String") rfl (plainFor_of_name pn_10) (fun m => ef_coderU m x) ?_
  intro p e s m below meth c s₁ Bd hml hZ hh hx hby hown X0 e0
  have N0 := Fr.nil n0
  have lt1 : h0.size > x := Fc_x.lt
  refine oc3 X0 hx hZ hown (host := "") (Or.inl (oa0 hw 19 rfl)) Via.refl e0 S_C hby d10_0 ?_
  intro T2 X2 e2
  refine ob7 X2.here hx hby d10_3 ((if0 _ _).trans (feq hz).1) ?_
  refine oa2 X2.here hx hby d10_6 rfl rfl ?_
  refine od3 X2 hx hZ hown (host := "") (Or.inl (oa0 hw 31 rfl)) Via.refl e2 Fc_x hby d10_7 ?_
  intro T3 X3 e3
  refine oc X3.here hx hby (pc' := 14) d10_10 (by decide) (by decide) ?_
  refine oa9 X3 Bd.notSynchronized (v := some (.int 0)) (ob4 Bd.returns) (fun _ hr => retN X3 hx (t := .byte) Bd.returns (by simp) (hb hby d10_14) hr) e3 (by decide) (by decide) ?_
  exact ⟨rfl, N0, rfl⟩
def Q_strLen_0 (Z : State) (x : Nat) (t : Nat) (kb : ClassId) (zc : Int32) (vs_ : List Value) (h0 : Heap) (n0 : Nat) (vR : Option Value) (hR : Heap) (LR : List Loc) : Prop := vR = some (.int 0) ∧ Fr n0 LR ∧ hR = h0
theorem strLen_0 (l : Launch) (Z : State) (a0 : Array Value) (hw : ∀ d ∈ tables_1, d.before a0 Z = true) (ws : List Jvm.Cond) (x : Nat) (t : Nat) (kb : ClassId) (zc : Int32) (vs_ : List Value) (h0 : Heap) (n0 : Nat) (Z0 : n0 ≤ h0.size) (E_x : Exa Z h0 x "java/lang/String") (Fc_x : Fld Z h0 x "java/lang/String" "coder" "B" (.int 0)) (Fv_x : Fld Z h0 x "java/lang/String" "value" "[B" (.ref t)) (V_t : Arv Z h0 t kb .byte (0 : Int32) vs_ (.int 0)) (S_C : Sta Z h0 "java/lang/String" "COMPACT_STRINGS" "Z" (.int zc)) (hz : ¬ (zc = (0 : Int32))) :
    oc2 l (⟨"java/lang/String", "length", "()I"⟩ : MethodName) jdk_42_method_54_code 1 (some .int) ws ({ frames := 1, cells := 0, slots := 0, locals := 13 } : Room) Z #[(.ref x)] h0 (Q_strLen_0 Z x t kb zc vs_ h0 n0) := by
  refine ob3 (own := "java/lang/String") rfl (plainFor_of_name pn_9) (fun m => ef_lenU_1 m x) ?_
  intro p e s m below meth c s₁ Bd hml hZ hh hx hby hown X0 e0
  have N0 := Fr.nil n0
  have lt1 : h0.size > x := E_x.lt
  have lt2 : h0.size > t := V_t.lt
  refine oa2 X0.here hx hby d9_0 rfl rfl ?_
  refine od3 X0 hx hZ hown (host := "") (Or.inl (oa0 hw 33 rfl)) Via.refl e0 Fv_x hby d9_1 ?_
  intro T3 X3 e3
  refine oe X3 hx hZ e3 V_t hby d9_4 ?_
  refine oa2 X3.here hx hby d9_5 rfl rfl ?_
  refine ob6 X3 hx hZ hown (oa0 hw 44 rfl) (oa0 hw 45 rfl) (notFace_of_selects (args := #[]) (mvT hZ (oa0 hw 47 rfl))) (oa0 hw 47 rfl) (oa0 hw 46 rfl) (oa0 hw 8 rfl) (oa0 hw 48 rfl) (by decide) (strCoder l Z a0 hw [] x zc h0 n0 Z0 Fc_x S_C hz) 1 hml rfl (argsL := []) (st := [(.int 0)]) E_x (lenOf pd_6 rfl) rfl rfl e3 hby d9_6 ?_
  intro T4 v4 L4 X4 hQ4
  obtain ⟨rfl, Nq4, eh4⟩ := hQ4
  have N4 := Fr.app N0 Nq4
  refine oa5 (T := T4) 9 #[.val (.ref x)] [(.int 0), (.int 0)] ?_
  refine oe2 X4.here hx hby d9_9 (v := (0 : Int32)) (by decide) ?_
  refine oa9 X4 Bd.notSynchronized (v := some (.int 0)) (ob4 Bd.returns) (fun _ hr => retOut X4 hx Bd.returns rfl (Or.inl ⟨rfl, Or.inl rfl, _, rfl⟩) (hb hby d9_10) hr) eh4 (by decide) (by decide) ?_
  exact ⟨rfl, N4, rfl⟩
def Q_strLen_1 (Z : State) (x : Nat) (t : Nat) (kb : ClassId) (zc : Int32) (vs_ : List Value) (h0 : Heap) (n0 : Nat) (vR : Option Value) (hR : Heap) (LR : List Loc) : Prop := vR = some (.int 1) ∧ Fr n0 LR ∧ hR = h0
theorem strLen_1 (l : Launch) (Z : State) (a0 : Array Value) (hw : ∀ d ∈ tables_1, d.before a0 Z = true) (ws : List Jvm.Cond) (x : Nat) (t : Nat) (kb : ClassId) (zc : Int32) (vs_ : List Value) (h0 : Heap) (n0 : Nat) (Z0 : n0 ≤ h0.size) (E_x : Exa Z h0 x "java/lang/String") (Fc_x : Fld Z h0 x "java/lang/String" "coder" "B" (.int 0)) (Fv_x : Fld Z h0 x "java/lang/String" "value" "[B" (.ref t)) (V_t : Arv Z h0 t kb .byte (1 : Int32) vs_ (.int 0)) (S_C : Sta Z h0 "java/lang/String" "COMPACT_STRINGS" "Z" (.int zc)) (hz : ¬ (zc = (0 : Int32))) :
    oc2 l (⟨"java/lang/String", "length", "()I"⟩ : MethodName) jdk_42_method_54_code 1 (some .int) ws ({ frames := 1, cells := 0, slots := 0, locals := 13 } : Room) Z #[(.ref x)] h0 (Q_strLen_1 Z x t kb zc vs_ h0 n0) := by
  refine ob3 (own := "java/lang/String") rfl (plainFor_of_name pn_9) (fun m => ef_lenU_1 m x) ?_
  intro p e s m below meth c s₁ Bd hml hZ hh hx hby hown X0 e0
  have N0 := Fr.nil n0
  have lt1 : h0.size > x := E_x.lt
  have lt2 : h0.size > t := V_t.lt
  refine oa2 X0.here hx hby d9_0 rfl rfl ?_
  refine od3 X0 hx hZ hown (host := "") (Or.inl (oa0 hw 33 rfl)) Via.refl e0 Fv_x hby d9_1 ?_
  intro T3 X3 e3
  refine oe X3 hx hZ e3 V_t hby d9_4 ?_
  refine oa2 X3.here hx hby d9_5 rfl rfl ?_
  refine ob6 X3 hx hZ hown (oa0 hw 44 rfl) (oa0 hw 45 rfl) (notFace_of_selects (args := #[]) (mvT hZ (oa0 hw 47 rfl))) (oa0 hw 47 rfl) (oa0 hw 46 rfl) (oa0 hw 8 rfl) (oa0 hw 48 rfl) (by decide) (strCoder l Z a0 hw [] x zc h0 n0 Z0 Fc_x S_C hz) 1 hml rfl (argsL := []) (st := [(.int 1)]) E_x (lenOf pd_6 rfl) rfl rfl e3 hby d9_6 ?_
  intro T4 v4 L4 X4 hQ4
  obtain ⟨rfl, Nq4, eh4⟩ := hQ4
  have N4 := Fr.app N0 Nq4
  refine oa5 (T := T4) 9 #[.val (.ref x)] [(.int 0), (.int 1)] ?_
  refine oe2 X4.here hx hby d9_9 (v := (1 : Int32)) (by decide) ?_
  refine oa9 X4 Bd.notSynchronized (v := some (.int 1)) (ob4 Bd.returns) (fun _ hr => retOut X4 hx Bd.returns rfl (Or.inl ⟨rfl, Or.inl rfl, _, rfl⟩) (hb hby d9_10) hr) eh4 (by decide) (by decide) ?_
  exact ⟨rfl, N4, rfl⟩
def Q_strLen_2 (Z : State) (x : Nat) (t : Nat) (kb : ClassId) (zc : Int32) (vs_ : List Value) (h0 : Heap) (n0 : Nat) (vR : Option Value) (hR : Heap) (LR : List Loc) : Prop := vR = some (.int 2) ∧ Fr n0 LR ∧ hR = h0
theorem strLen_2 (l : Launch) (Z : State) (a0 : Array Value) (hw : ∀ d ∈ tables_1, d.before a0 Z = true) (ws : List Jvm.Cond) (x : Nat) (t : Nat) (kb : ClassId) (zc : Int32) (vs_ : List Value) (h0 : Heap) (n0 : Nat) (Z0 : n0 ≤ h0.size) (E_x : Exa Z h0 x "java/lang/String") (Fc_x : Fld Z h0 x "java/lang/String" "coder" "B" (.int 0)) (Fv_x : Fld Z h0 x "java/lang/String" "value" "[B" (.ref t)) (V_t : Arv Z h0 t kb .byte (2 : Int32) vs_ (.int 0)) (S_C : Sta Z h0 "java/lang/String" "COMPACT_STRINGS" "Z" (.int zc)) (hz : ¬ (zc = (0 : Int32))) :
    oc2 l (⟨"java/lang/String", "length", "()I"⟩ : MethodName) jdk_42_method_54_code 1 (some .int) ws ({ frames := 1, cells := 0, slots := 0, locals := 13 } : Room) Z #[(.ref x)] h0 (Q_strLen_2 Z x t kb zc vs_ h0 n0) := by
  refine ob3 (own := "java/lang/String") rfl (plainFor_of_name pn_9) (fun m => ef_lenU_1 m x) ?_
  intro p e s m below meth c s₁ Bd hml hZ hh hx hby hown X0 e0
  have N0 := Fr.nil n0
  have lt1 : h0.size > x := E_x.lt
  have lt2 : h0.size > t := V_t.lt
  refine oa2 X0.here hx hby d9_0 rfl rfl ?_
  refine od3 X0 hx hZ hown (host := "") (Or.inl (oa0 hw 33 rfl)) Via.refl e0 Fv_x hby d9_1 ?_
  intro T3 X3 e3
  refine oe X3 hx hZ e3 V_t hby d9_4 ?_
  refine oa2 X3.here hx hby d9_5 rfl rfl ?_
  refine ob6 X3 hx hZ hown (oa0 hw 44 rfl) (oa0 hw 45 rfl) (notFace_of_selects (args := #[]) (mvT hZ (oa0 hw 47 rfl))) (oa0 hw 47 rfl) (oa0 hw 46 rfl) (oa0 hw 8 rfl) (oa0 hw 48 rfl) (by decide) (strCoder l Z a0 hw [] x zc h0 n0 Z0 Fc_x S_C hz) 1 hml rfl (argsL := []) (st := [(.int 2)]) E_x (lenOf pd_6 rfl) rfl rfl e3 hby d9_6 ?_
  intro T4 v4 L4 X4 hQ4
  obtain ⟨rfl, Nq4, eh4⟩ := hQ4
  have N4 := Fr.app N0 Nq4
  refine oa5 (T := T4) 9 #[.val (.ref x)] [(.int 0), (.int 2)] ?_
  refine oe2 X4.here hx hby d9_9 (v := (2 : Int32)) (by decide) ?_
  refine oa9 X4 Bd.notSynchronized (v := some (.int 2)) (ob4 Bd.returns) (fun _ hr => retOut X4 hx Bd.returns rfl (Or.inl ⟨rfl, Or.inl rfl, _, rfl⟩) (hb hby d9_10) hr) eh4 (by decide) (by decide) ?_
  exact ⟨rfl, N4, rfl⟩
def Q_strLen_3 (Z : State) (x : Nat) (t : Nat) (kb : ClassId) (zc : Int32) (vs_ : List Value) (h0 : Heap) (n0 : Nat) (vR : Option Value) (hR : Heap) (LR : List Loc) : Prop := vR = some (.int 3) ∧ Fr n0 LR ∧ hR = h0
theorem strLen_3 (l : Launch) (Z : State) (a0 : Array Value) (hw : ∀ d ∈ tables_1, d.before a0 Z = true) (ws : List Jvm.Cond) (x : Nat) (t : Nat) (kb : ClassId) (zc : Int32) (vs_ : List Value) (h0 : Heap) (n0 : Nat) (Z0 : n0 ≤ h0.size) (E_x : Exa Z h0 x "java/lang/String") (Fc_x : Fld Z h0 x "java/lang/String" "coder" "B" (.int 0)) (Fv_x : Fld Z h0 x "java/lang/String" "value" "[B" (.ref t)) (V_t : Arv Z h0 t kb .byte (3 : Int32) vs_ (.int 0)) (S_C : Sta Z h0 "java/lang/String" "COMPACT_STRINGS" "Z" (.int zc)) (hz : ¬ (zc = (0 : Int32))) :
    oc2 l (⟨"java/lang/String", "length", "()I"⟩ : MethodName) jdk_42_method_54_code 1 (some .int) ws ({ frames := 1, cells := 0, slots := 0, locals := 13 } : Room) Z #[(.ref x)] h0 (Q_strLen_3 Z x t kb zc vs_ h0 n0) := by
  refine ob3 (own := "java/lang/String") rfl (plainFor_of_name pn_9) (fun m => ef_lenU_1 m x) ?_
  intro p e s m below meth c s₁ Bd hml hZ hh hx hby hown X0 e0
  have N0 := Fr.nil n0
  have lt1 : h0.size > x := E_x.lt
  have lt2 : h0.size > t := V_t.lt
  refine oa2 X0.here hx hby d9_0 rfl rfl ?_
  refine od3 X0 hx hZ hown (host := "") (Or.inl (oa0 hw 33 rfl)) Via.refl e0 Fv_x hby d9_1 ?_
  intro T3 X3 e3
  refine oe X3 hx hZ e3 V_t hby d9_4 ?_
  refine oa2 X3.here hx hby d9_5 rfl rfl ?_
  refine ob6 X3 hx hZ hown (oa0 hw 44 rfl) (oa0 hw 45 rfl) (notFace_of_selects (args := #[]) (mvT hZ (oa0 hw 47 rfl))) (oa0 hw 47 rfl) (oa0 hw 46 rfl) (oa0 hw 8 rfl) (oa0 hw 48 rfl) (by decide) (strCoder l Z a0 hw [] x zc h0 n0 Z0 Fc_x S_C hz) 1 hml rfl (argsL := []) (st := [(.int 3)]) E_x (lenOf pd_6 rfl) rfl rfl e3 hby d9_6 ?_
  intro T4 v4 L4 X4 hQ4
  obtain ⟨rfl, Nq4, eh4⟩ := hQ4
  have N4 := Fr.app N0 Nq4
  refine oa5 (T := T4) 9 #[.val (.ref x)] [(.int 0), (.int 3)] ?_
  refine oe2 X4.here hx hby d9_9 (v := (3 : Int32)) (by decide) ?_
  refine oa9 X4 Bd.notSynchronized (v := some (.int 3)) (ob4 Bd.returns) (fun _ hr => retOut X4 hx Bd.returns rfl (Or.inl ⟨rfl, Or.inl rfl, _, rfl⟩) (hb hby d9_10) hr) eh4 (by decide) (by decide) ?_
  exact ⟨rfl, N4, rfl⟩
theorem ef_dis_l_0 (m : MethodId) (x0 : Nat) : entryFrame m #[(.ref x0)] 4 = mkF m 0 #[.val (.ref x0), .unset, .unset, .unset] [] := by first | (simp [entryFrame, mkF, argsToLocals, Value.category]; done) | rfl
theorem pn_8 : plainName "com/example/sluice/sluice/Message" = true := by first | (simp [plainName, overriddenIn]; done) | decide +kernel
theorem d8_0 : decode prog_5_method_12_code 0 = .ok (.iconst 0, 1) := by decide +kernel
theorem d8_1 : decode prog_5_method_12_code 1 = .ok (.istore_n 1, 1) := by decide +kernel
theorem d8_2 : decode prog_5_method_12_code 2 = .ok (.iload_n 1, 1) := by decide +kernel
theorem d8_3 : decode prog_5_method_12_code 3 = .ok (.aload_n 0, 1) := by decide +kernel
theorem d8_4 : decode prog_5_method_12_code 4 = .ok (.invokevirtual 80, 3) := by decide +kernel
theorem pd_11 : parseMethodDescriptor "()I" = some ⟨[], some .int⟩ := by decide +kernel
theorem d8_7 : decode prog_5_method_12_code 7 = .ok (.if_icmp .ge 85, 3) := by decide +kernel
theorem d8_92 : decode prog_5_method_12_code 92 = .ok (.iconst (-1), 1) := by decide +kernel
theorem d8_93 : decode prog_5_method_12_code 93 = .ok (.ireturn, 1) := by decide +kernel
def Q_dis_l_0 (Z : State) (x : Nat) (t : Nat) (kb : ClassId) (zc : Int32) (fm : Value) (h0 : Heap) (n0 : Nat) (vR : Option Value) (hR : Heap) (LR : List Loc) : Prop := vR = some (.int (-1)) ∧ Fr n0 LR ∧ hR = h0
theorem dis_l_0 (l : Launch) (Z : State) (a0 : Array Value) (hw : ∀ d ∈ tables_1, d.before a0 Z = true) (ws : List Jvm.Cond) (x : Nat) (t : Nat) (kb : ClassId) (zc : Int32) (fm : Value) (h0 : Heap) (n0 : Nat) (Z0 : n0 ≤ h0.size) (E_x : Exa Z h0 x "java/lang/String") (Fc_x : Fld Z h0 x "java/lang/String" "coder" "B" (.int 0)) (Fv_x : Fld Z h0 x "java/lang/String" "value" "[B" (.ref t)) (V_t : Arv Z h0 t kb .byte (0 : Int32) [] (.int 0)) (S_C : Sta Z h0 "java/lang/String" "COMPACT_STRINGS" "Z" (.int zc)) (hz : ¬ (zc = (0 : Int32))) (S_FM : Sta Z h0 "jdk/internal/util/Preconditions" "SIOOBE_FORMATTER" "Ljava/util/function/BiFunction;" fm) (hfm : fm.isRef = true) :
    oc2 l (⟨"com/example/sluice/sluice/Message", "disallowedCharacter", "(Ljava/lang/String;)I"⟩ : MethodName) prog_5_method_12_code 4 (some .int) ws ({ frames := 2, cells := 0, slots := 0, locals := 26 } : Room) Z #[(.ref x)] h0 (Q_dis_l_0 Z x t kb zc fm h0 n0) := by
  refine ob3 (own := "com/example/sluice/sluice/Message") rfl (plainFor_of_name pn_8) (fun m => ef_dis_l_0 m x) ?_
  intro p e s m below meth c s₁ Bd hml hZ hh hx hby hown X0 e0
  have N0 := Fr.nil n0
  have lt1 : h0.size > x := E_x.lt
  have lt2 : h0.size > t := V_t.lt
  refine oa4 X0.here hx hby d8_0 (v := (0 : Int32)) (by decide) ?_
  refine oa6 X0.here hx hby d8_1 (l' := #[.val (.ref x), .val (.int 0), .unset, .unset]) rfl ?_
  refine oa X0.here hx hby d8_2 rfl ?_
  refine oa2 X0.here hx hby d8_3 rfl rfl ?_
  refine ob6 X0 hx hZ hown (oa0 hw 39 rfl) (oa0 hw 40 rfl) (notFace_of_selects (args := #[]) (mvT hZ (oa0 hw 42 rfl))) (oa0 hw 42 rfl) (oa0 hw 41 rfl) (oa0 hw 8 rfl) (oa0 hw 43 rfl) (by decide) (strLen_0 l Z a0 hw [] x t kb zc ([]) h0 n0 Z0 E_x Fc_x Fv_x V_t S_C hz) 1 hml rfl (argsL := []) (st := [(.int 0)]) E_x (lenOf pd_11 rfl) rfl rfl e0 hby d8_4 ?_
  intro T3 v3 L3 X3 hQ3
  obtain ⟨rfl, Nq3, eh3⟩ := hQ3
  have N3 := Fr.app N0 Nq3
  refine oa5 (T := T3) 7 #[.val (.ref x), .val (.int 0), .unset, .unset] [(.int 0), (.int 0)] ?_
  refine ob2 X3.here hx hby (pc' := 92) d8_7 (flt (show ¬ ((0 : Int32) < (0 : Int32)) from (by decide))).2.1 (by decide) (by decide) ?_
  refine oa4 X3.here hx hby d8_92 (v := (-1 : Int32)) (by decide) ?_
  refine oa9 X3 Bd.notSynchronized (v := some (.int (-1))) (ob4 Bd.returns) (fun _ hr => retOut X3 hx Bd.returns rfl (Or.inl ⟨rfl, Or.inl rfl, _, rfl⟩) (hb hby d8_93) hr) eh3 (by decide) (by decide) ?_
  exact ⟨rfl, N3, rfl⟩
theorem d8_10 : decode prog_5_method_12_code 10 = .ok (.aload_n 0, 1) := by decide +kernel
theorem d8_11 : decode prog_5_method_12_code 11 = .ok (.iload_n 1, 1) := by decide +kernel
theorem d8_12 : decode prog_5_method_12_code 12 = .ok (.invokevirtual 83, 3) := by decide +kernel
theorem pd_12 : parseMethodDescriptor "(I)I" = some ⟨[.int], some .int⟩ := by decide +kernel
theorem d8_15 : decode prog_5_method_12_code 15 = .ok (.istore_n 2, 1) := by decide +kernel
theorem d8_76 : decode prog_5_method_12_code 76 = .ok (.iload_n 3, 1) := by decide +kernel
theorem d8_77 : decode prog_5_method_12_code 77 = .ok (.ifCond .ne 5, 3) := by decide +kernel
theorem d8_80 : decode prog_5_method_12_code 80 = .ok (.iload_n 1, 1) := by decide +kernel
theorem d8_81 : decode prog_5_method_12_code 81 = .ok (.ireturn, 1) := by decide +kernel
theorem d8_82 : decode prog_5_method_12_code 82 = .ok (.iload_n 1, 1) := by decide +kernel
theorem d8_83 : decode prog_5_method_12_code 83 = .ok (.iload_n 2, 1) := by decide +kernel
theorem d8_84 : decode prog_5_method_12_code 84 = .ok (.invokestatic 92, 3) := by decide +kernel
theorem d8_87 : decode prog_5_method_12_code 87 = .ok (.iadd, 1) := by decide +kernel
theorem d8_88 : decode prog_5_method_12_code 88 = .ok (.istore_n 1, 1) := by decide +kernel
theorem d8_89 : decode prog_5_method_12_code 89 = .ok (.goto (-87), 3) := by decide +kernel
def Q_dis_l_1 (Z : State) (x : Nat) (t : Nat) (kb : ClassId) (zc : Int32) (fm : Value) (c0 : Int32) (h0 : Heap) (n0 : Nat) (vR : Option Value) (hR : Heap) (LR : List Loc) : Prop := vR = some (.int (oe0 (0 : Int32) c0)) ∧ Fr n0 LR ∧ hR = h0
theorem dis_l_1 (l : Launch) (Z : State) (a0 : Array Value) (hw : ∀ d ∈ tables_1, d.before a0 Z = true) (ws : List Jvm.Cond) (x : Nat) (t : Nat) (kb : ClassId) (zc : Int32) (fm : Value) (c0 : Int32) (h0 : Heap) (n0 : Nat) (Z0 : n0 ≤ h0.size) (E_x : Exa Z h0 x "java/lang/String") (Fc_x : Fld Z h0 x "java/lang/String" "coder" "B" (.int 0)) (Fv_x : Fld Z h0 x "java/lang/String" "value" "[B" (.ref t)) (V_t : Arv Z h0 t kb .byte (1 : Int32) [(.int (c0.toInt8.toInt32))] (.int 0)) (S_C : Sta Z h0 "java/lang/String" "COMPACT_STRINGS" "Z" (.int zc)) (hz : ¬ (zc = (0 : Int32))) (S_FM : Sta Z h0 "jdk/internal/util/Preconditions" "SIOOBE_FORMATTER" "Ljava/util/function/BiFunction;" fm) (hfm : fm.isRef = true) (h0_c0 : ¬ (c0 < (0 : Int32))) (h1_c0 : ¬ ((255 : Int32) < c0)) :
    oc2 l (⟨"com/example/sluice/sluice/Message", "disallowedCharacter", "(Ljava/lang/String;)I"⟩ : MethodName) prog_5_method_12_code 4 (some .int) ws ({ frames := 3, cells := 0, slots := 0, locals := 41 } : Room) Z #[(.ref x)] h0 (Q_dis_l_1 Z x t kb zc fm c0 h0 n0) := by
  refine ob3 (own := "com/example/sluice/sluice/Message") rfl (plainFor_of_name pn_8) (fun m => ef_dis_l_0 m x) ?_
  intro p e s m below meth c s₁ Bd hml hZ hh hx hby hown X0 e0
  have N0 := Fr.nil n0
  have lt1 : h0.size > x := E_x.lt
  have lt2 : h0.size > t := V_t.lt
  refine oa4 X0.here hx hby d8_0 (v := (0 : Int32)) (by decide) ?_
  refine oa6 X0.here hx hby d8_1 (l' := #[.val (.ref x), .val (.int 0), .unset, .unset]) rfl ?_
  refine oa X0.here hx hby d8_2 rfl ?_
  refine oa2 X0.here hx hby d8_3 rfl rfl ?_
  refine ob6 X0 hx hZ hown (oa0 hw 39 rfl) (oa0 hw 40 rfl) (notFace_of_selects (args := #[]) (mvT hZ (oa0 hw 42 rfl))) (oa0 hw 42 rfl) (oa0 hw 41 rfl) (oa0 hw 8 rfl) (oa0 hw 43 rfl) (by decide) (strLen_1 l Z a0 hw [] x t kb zc ([(.int (c0.toInt8.toInt32))]) h0 n0 Z0 E_x Fc_x Fv_x V_t S_C hz) 1 hml rfl (argsL := []) (st := [(.int 0)]) E_x (lenOf pd_11 rfl) rfl rfl e0 hby d8_4 ?_
  intro T3 v3 L3 X3 hQ3
  obtain ⟨rfl, Nq3, eh3⟩ := hQ3
  have N3 := Fr.app N0 Nq3
  refine oa5 (T := T3) 7 #[.val (.ref x), .val (.int 0), .unset, .unset] [(.int 1), (.int 0)] ?_
  refine oa7 X3.here hx hby d8_7 (tlt (show (0 : Int32) < (1 : Int32) from (by decide))).2.1 ?_
  refine oa2 X3.here hx hby d8_10 rfl rfl ?_
  refine oa X3.here hx hby d8_11 rfl ?_
  refine ob6 X3 hx hZ hown (oa0 hw 49 rfl) (oa0 hw 50 rfl) (notFace_of_selects (args := #[]) (mvT hZ (oa0 hw 52 rfl))) (oa0 hw 52 rfl) (oa0 hw 51 rfl) (oa0 hw 8 rfl) (oa0 hw 53 rfl) (by decide) (cpL_0_1 l Z a0 hw [] x t kb zc fm c0 h0 n0 Z0 E_x Fc_x Fv_x V_t S_C hz S_FM hfm h0_c0 h1_c0) 0 hml rfl (argsL := [(.int 0)]) (st := []) E_x (lenOf pd_12 rfl) rfl rfl eh3 hby d8_12 ?_
  intro T4 v4 L4 X4 hQ4
  obtain ⟨rfl, Nq4, eh4⟩ := hQ4
  have N4 := Fr.app N3 Nq4
  refine oa5 (T := T4) 15 #[.val (.ref x), .val (.int 0), .unset, .unset] [(.int c0)] ?_
  refine oa6 X4.here hx hby d8_15 (l' := #[.val (.ref x), .val (.int 0), .val (.int c0), .unset]) rfl ?_
  refine oa5 (T := T4) 16 #[.val (.ref x), .val (.int 0), .val (.int c0), .unset] [] ?_
  have l16_0 : c0 < (65536 : Int32) := of9 c0 (own_le16 c0 h1_c0)
  refine og7 hw X4 hx hZ hown hby (.val (.ref x)) (.val (.int 0)) c0 l16_0 ?_
  refine oa X4.here hx hby d8_76 rfl ?_
  refine oa5 (T := T4) 77 #[.val (.ref x), .val (.int 0), .val (.int c0), .val (.int (ob0 c0))] [(.int (ob0 c0))] ?_
  by_cases hk0 : (ob0 c0) = (0 : Int32)
  · refine ob7 X4.here hx hby d8_77 ((if0 _ _).trans (teq hk0).2) ?_
    refine oa X4.here hx hby d8_80 rfl ?_
    refine oa9 X4 Bd.notSynchronized (v := some (.int 0)) (ob4 Bd.returns) (fun _ hr => retOut X4 hx Bd.returns rfl (Or.inl ⟨rfl, Or.inl rfl, _, rfl⟩) (hb hby d8_81) hr) eh4 (by decide) (by decide) ?_
    exact ⟨(od (by rw [oe0, if_pos hk0])), N4, rfl⟩
  · refine ob1 X4.here hx hby (pc' := 82) d8_77 ((if0 _ _).trans (feq hk0).2) (by decide) (by decide) ?_
    refine oa X4.here hx hby d8_82 rfl ?_
    refine oa X4.here hx hby d8_83 rfl ?_
    refine oa3 X4 hx hZ hown (oa0 hw 84 rfl) (oa0 hw 85 rfl) (oa0 hw 86 rfl) (oa0 hw 87 rfl) (by decide) (cc1 l Z a0 hw [] c0 h0 n0 Z0 l16_0) 1 hml rfl (argsL := [(.int c0)]) (st := [(.int 0)]) (lenOf pd_12 rfl) rfl rfl eh4 hby d8_84 ?_
    intro T5 v5 L5 X5 hQ5
    obtain ⟨rfl, Nq5, eh5⟩ := hQ5
    have N5 := Fr.app N4 Nq5
    refine oa5 (T := T5) 87 #[.val (.ref x), .val (.int 0), .val (.int c0), .val (.int (ob0 c0))] [(.int 1), (.int 0)] ?_
    refine oc8 X5.here hx hby d8_87 (v := (1 : Int32)) (by decide) ?_
    refine oa6 X5.here hx hby d8_88 (l' := #[.val (.ref x), .val (.int 1), .val (.int c0), .val (.int (ob0 c0))]) rfl ?_
    refine oc X5.here hx hby (pc' := 2) d8_89 (by decide) (by decide) ?_
    refine oa X5.here hx hby d8_2 rfl ?_
    refine oa2 X5.here hx hby d8_3 rfl rfl ?_
    refine ob6 X5 hx hZ hown (oa0 hw 39 rfl) (oa0 hw 40 rfl) (notFace_of_selects (args := #[]) (mvT hZ (oa0 hw 42 rfl))) (oa0 hw 42 rfl) (oa0 hw 41 rfl) (oa0 hw 8 rfl) (oa0 hw 43 rfl) (by decide) (strLen_1 l Z a0 hw [] x t kb zc ([(.int (c0.toInt8.toInt32))]) h0 n0 Z0 E_x Fc_x Fv_x V_t S_C hz) 1 hml rfl (argsL := []) (st := [(.int 1)]) E_x (lenOf pd_11 rfl) rfl rfl eh5 hby d8_4 ?_
    intro T6 v6 L6 X6 hQ6
    obtain ⟨rfl, Nq6, eh6⟩ := hQ6
    have N6 := Fr.app N5 Nq6
    refine oa5 (T := T6) 7 #[.val (.ref x), .val (.int 1), .val (.int c0), .val (.int (ob0 c0))] [(.int 1), (.int 1)] ?_
    refine ob2 X6.here hx hby (pc' := 92) d8_7 (flt (show ¬ ((1 : Int32) < (1 : Int32)) from (by decide))).2.1 (by decide) (by decide) ?_
    refine oa4 X6.here hx hby d8_92 (v := (-1 : Int32)) (by decide) ?_
    refine oa9 X6 Bd.notSynchronized (v := some (.int (-1))) (ob4 Bd.returns) (fun _ hr => retOut X6 hx Bd.returns rfl (Or.inl ⟨rfl, Or.inl rfl, _, rfl⟩) (hb hby d8_93) hr) eh6 (by decide) (by decide) ?_
    exact ⟨(od (by rw [oe0, if_neg hk0])), N6, rfl⟩
def Q_dis_u_1 (Z : State) (x : Nat) (t : Nat) (kb : ClassId) (zc : Int32) (fm : Value) (c0 : Int32) (h0 : Heap) (n0 : Nat) (vR : Option Value) (hR : Heap) (LR : List Loc) : Prop := vR = some (.int (oe0 (0 : Int32) c0)) ∧ Fr n0 LR ∧ hR = h0
theorem dis_u_1 (l : Launch) (Z : State) (a0 : Array Value) (hw : ∀ d ∈ tables_1, d.before a0 Z = true) (ws : List Jvm.Cond) (x : Nat) (t : Nat) (kb : ClassId) (zc : Int32) (fm : Value) (c0 : Int32) (h0 : Heap) (n0 : Nat) (Z0 : n0 ≤ h0.size) (E_x : Exa Z h0 x "java/lang/String") (Fc_x : Fld Z h0 x "java/lang/String" "coder" "B" (.int 1)) (Fv_x : Fld Z h0 x "java/lang/String" "value" "[B" (.ref t)) (V_t : Arv Z h0 t kb .byte (2 : Int32) [(.int ((c0 >>> ((0 : Int32) &&& 31)).toInt8.toInt32)), (.int ((c0 >>> ((8 : Int32) &&& 31)).toInt8.toInt32))] (.int 0)) (S_C : Sta Z h0 "java/lang/String" "COMPACT_STRINGS" "Z" (.int zc)) (hz : ¬ (zc = (0 : Int32))) (S_FM : Sta Z h0 "jdk/internal/util/Preconditions" "SIOOBE_FORMATTER" "Ljava/util/function/BiFunction;" fm) (hfm : fm.isRef = true) (S_AD : Sta Z h0 "java/lang/StringUTF16" "$assertionsDisabled" "Z" (.int 1)) (S_HI : Sta Z h0 "java/lang/StringUTF16" "HI_BYTE_SHIFT" "I" (.int 0)) (S_LO : Sta Z h0 "java/lang/StringUTF16" "LO_BYTE_SHIFT" "I" (.int 8)) (h0_c0 : ¬ (c0 < (0 : Int32))) (h1_c0 : ¬ ((65535 : Int32) < c0)) :
    oc2 l (⟨"com/example/sluice/sluice/Message", "disallowedCharacter", "(Ljava/lang/String;)I"⟩ : MethodName) prog_5_method_12_code 4 (some .int) ws ({ frames := 4, cells := 0, slots := 0, locals := 58 } : Room) Z #[(.ref x)] h0 (Q_dis_u_1 Z x t kb zc fm c0 h0 n0) := by
  refine ob3 (own := "com/example/sluice/sluice/Message") rfl (plainFor_of_name pn_8) (fun m => ef_dis_l_0 m x) ?_
  intro p e s m below meth c s₁ Bd hml hZ hh hx hby hown X0 e0
  have N0 := Fr.nil n0
  have lt1 : h0.size > x := E_x.lt
  have lt2 : h0.size > t := V_t.lt
  refine oa4 X0.here hx hby d8_0 (v := (0 : Int32)) (by decide) ?_
  refine oa6 X0.here hx hby d8_1 (l' := #[.val (.ref x), .val (.int 0), .unset, .unset]) rfl ?_
  refine oa X0.here hx hby d8_2 rfl ?_
  refine oa2 X0.here hx hby d8_3 rfl rfl ?_
  refine ob6 X0 hx hZ hown (oa0 hw 39 rfl) (oa0 hw 40 rfl) (notFace_of_selects (args := #[]) (mvT hZ (oa0 hw 42 rfl))) (oa0 hw 42 rfl) (oa0 hw 41 rfl) (oa0 hw 8 rfl) (oa0 hw 43 rfl) (by decide) (lenU_1 l Z a0 hw [] x t kb zc c0 h0 n0 Z0 E_x Fc_x Fv_x V_t S_C hz) 1 hml rfl (argsL := []) (st := [(.int 0)]) E_x (lenOf pd_11 rfl) rfl rfl e0 hby d8_4 ?_
  intro T3 v3 L3 X3 hQ3
  obtain ⟨rfl, Nq3, eh3⟩ := hQ3
  have N3 := Fr.app N0 Nq3
  refine oa5 (T := T3) 7 #[.val (.ref x), .val (.int 0), .unset, .unset] [(.int 1), (.int 0)] ?_
  refine oa7 X3.here hx hby d8_7 (tlt (show (0 : Int32) < (1 : Int32) from (by decide))).2.1 ?_
  refine oa2 X3.here hx hby d8_10 rfl rfl ?_
  refine oa X3.here hx hby d8_11 rfl ?_
  refine ob6 X3 hx hZ hown (oa0 hw 49 rfl) (oa0 hw 50 rfl) (notFace_of_selects (args := #[]) (mvT hZ (oa0 hw 52 rfl))) (oa0 hw 52 rfl) (oa0 hw 51 rfl) (oa0 hw 8 rfl) (oa0 hw 53 rfl) (by decide) (cpU_0_1_S l Z a0 hw [] x t kb zc fm c0 h0 n0 Z0 E_x Fc_x Fv_x V_t S_C hz S_FM hfm S_AD S_HI S_LO h0_c0 h1_c0) 0 hml rfl (argsL := [(.int 0)]) (st := []) E_x (lenOf pd_12 rfl) rfl rfl eh3 hby d8_12 ?_
  intro T4 v4 L4 X4 hQ4
  obtain ⟨rfl, Nq4, eh4⟩ := hQ4
  have N4 := Fr.app N3 Nq4
  refine oa5 (T := T4) 15 #[.val (.ref x), .val (.int 0), .unset, .unset] [(.int c0)] ?_
  refine oa6 X4.here hx hby d8_15 (l' := #[.val (.ref x), .val (.int 0), .val (.int c0), .unset]) rfl ?_
  refine oa5 (T := T4) 16 #[.val (.ref x), .val (.int 0), .val (.int c0), .unset] [] ?_
  have l16_0 : c0 < (65536 : Int32) := of9 c0 h1_c0
  refine og7 hw X4 hx hZ hown hby (.val (.ref x)) (.val (.int 0)) c0 l16_0 ?_
  refine oa X4.here hx hby d8_76 rfl ?_
  refine oa5 (T := T4) 77 #[.val (.ref x), .val (.int 0), .val (.int c0), .val (.int (ob0 c0))] [(.int (ob0 c0))] ?_
  by_cases hk0 : (ob0 c0) = (0 : Int32)
  · refine ob7 X4.here hx hby d8_77 ((if0 _ _).trans (teq hk0).2) ?_
    refine oa X4.here hx hby d8_80 rfl ?_
    refine oa9 X4 Bd.notSynchronized (v := some (.int 0)) (ob4 Bd.returns) (fun _ hr => retOut X4 hx Bd.returns rfl (Or.inl ⟨rfl, Or.inl rfl, _, rfl⟩) (hb hby d8_81) hr) eh4 (by decide) (by decide) ?_
    exact ⟨(od (by rw [oe0, if_pos hk0])), N4, rfl⟩
  · refine ob1 X4.here hx hby (pc' := 82) d8_77 ((if0 _ _).trans (feq hk0).2) (by decide) (by decide) ?_
    refine oa X4.here hx hby d8_82 rfl ?_
    refine oa X4.here hx hby d8_83 rfl ?_
    refine oa3 X4 hx hZ hown (oa0 hw 84 rfl) (oa0 hw 85 rfl) (oa0 hw 86 rfl) (oa0 hw 87 rfl) (by decide) (cc1 l Z a0 hw [] c0 h0 n0 Z0 l16_0) 1 hml rfl (argsL := [(.int c0)]) (st := [(.int 0)]) (lenOf pd_12 rfl) rfl rfl eh4 hby d8_84 ?_
    intro T5 v5 L5 X5 hQ5
    obtain ⟨rfl, Nq5, eh5⟩ := hQ5
    have N5 := Fr.app N4 Nq5
    refine oa5 (T := T5) 87 #[.val (.ref x), .val (.int 0), .val (.int c0), .val (.int (ob0 c0))] [(.int 1), (.int 0)] ?_
    refine oc8 X5.here hx hby d8_87 (v := (1 : Int32)) (by decide) ?_
    refine oa6 X5.here hx hby d8_88 (l' := #[.val (.ref x), .val (.int 1), .val (.int c0), .val (.int (ob0 c0))]) rfl ?_
    refine oc X5.here hx hby (pc' := 2) d8_89 (by decide) (by decide) ?_
    refine oa X5.here hx hby d8_2 rfl ?_
    refine oa2 X5.here hx hby d8_3 rfl rfl ?_
    refine ob6 X5 hx hZ hown (oa0 hw 39 rfl) (oa0 hw 40 rfl) (notFace_of_selects (args := #[]) (mvT hZ (oa0 hw 42 rfl))) (oa0 hw 42 rfl) (oa0 hw 41 rfl) (oa0 hw 8 rfl) (oa0 hw 43 rfl) (by decide) (lenU_1 l Z a0 hw [] x t kb zc c0 h0 n0 Z0 E_x Fc_x Fv_x V_t S_C hz) 1 hml rfl (argsL := []) (st := [(.int 1)]) E_x (lenOf pd_11 rfl) rfl rfl eh5 hby d8_4 ?_
    intro T6 v6 L6 X6 hQ6
    obtain ⟨rfl, Nq6, eh6⟩ := hQ6
    have N6 := Fr.app N5 Nq6
    refine oa5 (T := T6) 7 #[.val (.ref x), .val (.int 1), .val (.int c0), .val (.int (ob0 c0))] [(.int 1), (.int 1)] ?_
    refine ob2 X6.here hx hby (pc' := 92) d8_7 (flt (show ¬ ((1 : Int32) < (1 : Int32)) from (by decide))).2.1 (by decide) (by decide) ?_
    refine oa4 X6.here hx hby d8_92 (v := (-1 : Int32)) (by decide) ?_
    refine oa9 X6 Bd.notSynchronized (v := some (.int (-1))) (ob4 Bd.returns) (fun _ hr => retOut X6 hx Bd.returns rfl (Or.inl ⟨rfl, Or.inl rfl, _, rfl⟩) (hb hby d8_93) hr) eh6 (by decide) (by decide) ?_
    exact ⟨(od (by rw [oe0, if_neg hk0])), N6, rfl⟩
def Q_dis_l_2 (Z : State) (x : Nat) (t : Nat) (kb : ClassId) (zc : Int32) (fm : Value) (c0 : Int32) (c1 : Int32) (h0 : Heap) (n0 : Nat) (vR : Option Value) (hR : Heap) (LR : List Loc) : Prop := vR = some (.int (od9 (0 : Int32) (1 : Int32) c0 c1)) ∧ Fr n0 LR ∧ hR = h0
theorem dis_l_2 (l : Launch) (Z : State) (a0 : Array Value) (hw : ∀ d ∈ tables_1, d.before a0 Z = true) (ws : List Jvm.Cond) (x : Nat) (t : Nat) (kb : ClassId) (zc : Int32) (fm : Value) (c0 : Int32) (c1 : Int32) (h0 : Heap) (n0 : Nat) (Z0 : n0 ≤ h0.size) (E_x : Exa Z h0 x "java/lang/String") (Fc_x : Fld Z h0 x "java/lang/String" "coder" "B" (.int 0)) (Fv_x : Fld Z h0 x "java/lang/String" "value" "[B" (.ref t)) (V_t : Arv Z h0 t kb .byte (2 : Int32) [(.int (c0.toInt8.toInt32)), (.int (c1.toInt8.toInt32))] (.int 0)) (S_C : Sta Z h0 "java/lang/String" "COMPACT_STRINGS" "Z" (.int zc)) (hz : ¬ (zc = (0 : Int32))) (S_FM : Sta Z h0 "jdk/internal/util/Preconditions" "SIOOBE_FORMATTER" "Ljava/util/function/BiFunction;" fm) (hfm : fm.isRef = true) (h0_c0 : ¬ (c0 < (0 : Int32))) (h1_c0 : ¬ ((255 : Int32) < c0)) (h0_c1 : ¬ (c1 < (0 : Int32))) (h1_c1 : ¬ ((255 : Int32) < c1)) :
    oc2 l (⟨"com/example/sluice/sluice/Message", "disallowedCharacter", "(Ljava/lang/String;)I"⟩ : MethodName) prog_5_method_12_code 4 (some .int) ws ({ frames := 3, cells := 0, slots := 0, locals := 41 } : Room) Z #[(.ref x)] h0 (Q_dis_l_2 Z x t kb zc fm c0 c1 h0 n0) := by
  refine ob3 (own := "com/example/sluice/sluice/Message") rfl (plainFor_of_name pn_8) (fun m => ef_dis_l_0 m x) ?_
  intro p e s m below meth c s₁ Bd hml hZ hh hx hby hown X0 e0
  have N0 := Fr.nil n0
  have lt2 : h0.size > x := E_x.lt
  have lt3 : h0.size > t := V_t.lt
  refine oa4 X0.here hx hby d8_0 (v := (0 : Int32)) (by decide) ?_
  refine oa6 X0.here hx hby d8_1 (l' := #[.val (.ref x), .val (.int 0), .unset, .unset]) rfl ?_
  refine oa X0.here hx hby d8_2 rfl ?_
  refine oa2 X0.here hx hby d8_3 rfl rfl ?_
  refine ob6 X0 hx hZ hown (oa0 hw 39 rfl) (oa0 hw 40 rfl) (notFace_of_selects (args := #[]) (mvT hZ (oa0 hw 42 rfl))) (oa0 hw 42 rfl) (oa0 hw 41 rfl) (oa0 hw 8 rfl) (oa0 hw 43 rfl) (by decide) (strLen_2 l Z a0 hw [] x t kb zc ([(.int (c0.toInt8.toInt32)), (.int (c1.toInt8.toInt32))]) h0 n0 Z0 E_x Fc_x Fv_x V_t S_C hz) 1 hml rfl (argsL := []) (st := [(.int 0)]) E_x (lenOf pd_11 rfl) rfl rfl e0 hby d8_4 ?_
  intro T4 v4 L4 X4 hQ4
  obtain ⟨rfl, Nq4, eh4⟩ := hQ4
  have N4 := Fr.app N0 Nq4
  refine oa5 (T := T4) 7 #[.val (.ref x), .val (.int 0), .unset, .unset] [(.int 2), (.int 0)] ?_
  refine oa7 X4.here hx hby d8_7 (tlt (show (0 : Int32) < (2 : Int32) from (by decide))).2.1 ?_
  refine oa2 X4.here hx hby d8_10 rfl rfl ?_
  refine oa X4.here hx hby d8_11 rfl ?_
  refine oa5 (T := T4) 12 #[.val (.ref x), .val (.int 0), .unset, .unset] [(.int 0), (.ref x)] ?_
  have hp0 : od1 c0 c1 = false := own_pLat h1_c0
  refine ob6 X4 hx hZ hown (oa0 hw 49 rfl) (oa0 hw 50 rfl) (notFace_of_selects (args := #[]) (mvT hZ (oa0 hw 52 rfl))) (oa0 hw 52 rfl) (oa0 hw 51 rfl) (oa0 hw 8 rfl) (oa0 hw 53 rfl) (by decide) (cpL_0_2 l Z a0 hw [] x t kb zc fm c0 c1 h0 n0 Z0 E_x Fc_x Fv_x V_t S_C hz S_FM hfm h0_c0 h1_c0) 0 hml rfl (argsL := [(.int 0)]) (st := []) E_x (lenOf pd_12 rfl) rfl rfl eh4 hby d8_12 ?_
  intro T5 v5 L5 X5 hQ5
  obtain ⟨rfl, Nq5, eh5⟩ := hQ5
  have N5 := Fr.app N4 Nq5
  refine oa5 (T := T5) 15 #[.val (.ref x), .val (.int 0), .unset, .unset] [(.int c0)] ?_
  refine oa6 X5.here hx hby d8_15 (l' := #[.val (.ref x), .val (.int 0), .val (.int c0), .unset]) rfl ?_
  refine oa5 (T := T5) 16 #[.val (.ref x), .val (.int 0), .val (.int c0), .unset] [] ?_
  have l16_0 : c0 < (65536 : Int32) := of9 c0 (own_le16 c0 h1_c0)
  refine og7 hw X5 hx hZ hown hby (.val (.ref x)) (.val (.int 0)) c0 l16_0 ?_
  refine oa X5.here hx hby d8_76 rfl ?_
  refine oa5 (T := T5) 77 #[.val (.ref x), .val (.int 0), .val (.int c0), .val (.int (ob0 c0))] [(.int (ob0 c0))] ?_
  by_cases hk0 : (ob0 c0) = (0 : Int32)
  · refine ob7 X5.here hx hby d8_77 ((if0 _ _).trans (teq hk0).2) ?_
    refine oa X5.here hx hby d8_80 rfl ?_
    refine oa9 X5 Bd.notSynchronized (v := some (.int 0)) (ob4 Bd.returns) (fun _ hr => retOut X5 hx Bd.returns rfl (Or.inl ⟨rfl, Or.inl rfl, _, rfl⟩) (hb hby d8_81) hr) eh5 (by decide) (by decide) ?_
    exact ⟨(od (by rw [od9, if_neg (oe4 hp0), if_pos hk0])), N5, rfl⟩
  · refine ob1 X5.here hx hby (pc' := 82) d8_77 ((if0 _ _).trans (feq hk0).2) (by decide) (by decide) ?_
    refine oa X5.here hx hby d8_82 rfl ?_
    refine oa X5.here hx hby d8_83 rfl ?_
    refine oa3 X5 hx hZ hown (oa0 hw 84 rfl) (oa0 hw 85 rfl) (oa0 hw 86 rfl) (oa0 hw 87 rfl) (by decide) (cc1 l Z a0 hw [] c0 h0 n0 Z0 l16_0) 1 hml rfl (argsL := [(.int c0)]) (st := [(.int 0)]) (lenOf pd_12 rfl) rfl rfl eh5 hby d8_84 ?_
    intro T6 v6 L6 X6 hQ6
    obtain ⟨rfl, Nq6, eh6⟩ := hQ6
    have N6 := Fr.app N5 Nq6
    refine oa5 (T := T6) 87 #[.val (.ref x), .val (.int 0), .val (.int c0), .val (.int (ob0 c0))] [(.int 1), (.int 0)] ?_
    refine oc8 X6.here hx hby d8_87 (v := (1 : Int32)) (by decide) ?_
    refine oa6 X6.here hx hby d8_88 (l' := #[.val (.ref x), .val (.int 1), .val (.int c0), .val (.int (ob0 c0))]) rfl ?_
    refine oc X6.here hx hby (pc' := 2) d8_89 (by decide) (by decide) ?_
    refine oa X6.here hx hby d8_2 rfl ?_
    refine oa2 X6.here hx hby d8_3 rfl rfl ?_
    refine ob6 X6 hx hZ hown (oa0 hw 39 rfl) (oa0 hw 40 rfl) (notFace_of_selects (args := #[]) (mvT hZ (oa0 hw 42 rfl))) (oa0 hw 42 rfl) (oa0 hw 41 rfl) (oa0 hw 8 rfl) (oa0 hw 43 rfl) (by decide) (strLen_2 l Z a0 hw [] x t kb zc ([(.int (c0.toInt8.toInt32)), (.int (c1.toInt8.toInt32))]) h0 n0 Z0 E_x Fc_x Fv_x V_t S_C hz) 1 hml rfl (argsL := []) (st := [(.int 1)]) E_x (lenOf pd_11 rfl) rfl rfl eh6 hby d8_4 ?_
    intro T7 v7 L7 X7 hQ7
    obtain ⟨rfl, Nq7, eh7⟩ := hQ7
    have N7 := Fr.app N6 Nq7
    refine oa5 (T := T7) 7 #[.val (.ref x), .val (.int 1), .val (.int c0), .val (.int (ob0 c0))] [(.int 2), (.int 1)] ?_
    refine oa7 X7.here hx hby d8_7 (tlt (show (1 : Int32) < (2 : Int32) from (by decide))).2.1 ?_
    refine oa2 X7.here hx hby d8_10 rfl rfl ?_
    refine oa X7.here hx hby d8_11 rfl ?_
    refine ob6 X7 hx hZ hown (oa0 hw 49 rfl) (oa0 hw 50 rfl) (notFace_of_selects (args := #[]) (mvT hZ (oa0 hw 52 rfl))) (oa0 hw 52 rfl) (oa0 hw 51 rfl) (oa0 hw 8 rfl) (oa0 hw 53 rfl) (by decide) (cpL_1_2 l Z a0 hw [] x t kb zc fm c0 c1 h0 n0 Z0 E_x Fc_x Fv_x V_t S_C hz S_FM hfm h0_c1 h1_c1) 0 hml rfl (argsL := [(.int 1)]) (st := []) E_x (lenOf pd_12 rfl) rfl rfl eh7 hby d8_12 ?_
    intro T8 v8 L8 X8 hQ8
    obtain ⟨rfl, Nq8, eh8⟩ := hQ8
    have N8 := Fr.app N7 Nq8
    refine oa5 (T := T8) 15 #[.val (.ref x), .val (.int 1), .val (.int c0), .val (.int (ob0 c0))] [(.int c1)] ?_
    refine oa6 X8.here hx hby d8_15 (l' := #[.val (.ref x), .val (.int 1), .val (.int c1), .val (.int (ob0 c0))]) rfl ?_
    refine oa5 (T := T8) 16 #[.val (.ref x), .val (.int 1), .val (.int c1), .val (.int (ob0 c0))] [] ?_
    have l16_1 : c1 < (65536 : Int32) := of9 c1 (own_le16 c1 h1_c1)
    refine og5 hw X8 hx hZ hown hby (.val (.ref x)) (.val (.int 1)) c1 (ob0 c0) l16_1 ?_
    refine oa X8.here hx hby d8_76 rfl ?_
    refine oa5 (T := T8) 77 #[.val (.ref x), .val (.int 1), .val (.int c1), .val (.int (ob0 c1))] [(.int (ob0 c1))] ?_
    by_cases hk1 : (ob0 c1) = (0 : Int32)
    · refine ob7 X8.here hx hby d8_77 ((if0 _ _).trans (teq hk1).2) ?_
      refine oa X8.here hx hby d8_80 rfl ?_
      refine oa9 X8 Bd.notSynchronized (v := some (.int 1)) (ob4 Bd.returns) (fun _ hr => retOut X8 hx Bd.returns rfl (Or.inl ⟨rfl, Or.inl rfl, _, rfl⟩) (hb hby d8_81) hr) eh8 (by decide) (by decide) ?_
      exact ⟨(od (by rw [od9, if_neg (oe4 hp0), if_neg hk0, oe0, if_pos hk1])), N8, rfl⟩
    · refine ob1 X8.here hx hby (pc' := 82) d8_77 ((if0 _ _).trans (feq hk1).2) (by decide) (by decide) ?_
      refine oa X8.here hx hby d8_82 rfl ?_
      refine oa X8.here hx hby d8_83 rfl ?_
      refine oa3 X8 hx hZ hown (oa0 hw 84 rfl) (oa0 hw 85 rfl) (oa0 hw 86 rfl) (oa0 hw 87 rfl) (by decide) (cc1 l Z a0 hw [] c1 h0 n0 Z0 l16_1) 1 hml rfl (argsL := [(.int c1)]) (st := [(.int 1)]) (lenOf pd_12 rfl) rfl rfl eh8 hby d8_84 ?_
      intro T9 v9 L9 X9 hQ9
      obtain ⟨rfl, Nq9, eh9⟩ := hQ9
      have N9 := Fr.app N8 Nq9
      refine oa5 (T := T9) 87 #[.val (.ref x), .val (.int 1), .val (.int c1), .val (.int (ob0 c1))] [(.int 1), (.int 1)] ?_
      refine oc8 X9.here hx hby d8_87 (v := (2 : Int32)) (by decide) ?_
      refine oa6 X9.here hx hby d8_88 (l' := #[.val (.ref x), .val (.int 2), .val (.int c1), .val (.int (ob0 c1))]) rfl ?_
      refine oc X9.here hx hby (pc' := 2) d8_89 (by decide) (by decide) ?_
      refine oa X9.here hx hby d8_2 rfl ?_
      refine oa2 X9.here hx hby d8_3 rfl rfl ?_
      refine ob6 X9 hx hZ hown (oa0 hw 39 rfl) (oa0 hw 40 rfl) (notFace_of_selects (args := #[]) (mvT hZ (oa0 hw 42 rfl))) (oa0 hw 42 rfl) (oa0 hw 41 rfl) (oa0 hw 8 rfl) (oa0 hw 43 rfl) (by decide) (strLen_2 l Z a0 hw [] x t kb zc ([(.int (c0.toInt8.toInt32)), (.int (c1.toInt8.toInt32))]) h0 n0 Z0 E_x Fc_x Fv_x V_t S_C hz) 1 hml rfl (argsL := []) (st := [(.int 2)]) E_x (lenOf pd_11 rfl) rfl rfl eh9 hby d8_4 ?_
      intro T10 v10 L10 X10 hQ10
      obtain ⟨rfl, Nq10, eh10⟩ := hQ10
      have N10 := Fr.app N9 Nq10
      refine oa5 (T := T10) 7 #[.val (.ref x), .val (.int 2), .val (.int c1), .val (.int (ob0 c1))] [(.int 2), (.int 2)] ?_
      refine ob2 X10.here hx hby (pc' := 92) d8_7 (flt (show ¬ ((2 : Int32) < (2 : Int32)) from (by decide))).2.1 (by decide) (by decide) ?_
      refine oa4 X10.here hx hby d8_92 (v := (-1 : Int32)) (by decide) ?_
      refine oa9 X10 Bd.notSynchronized (v := some (.int (-1))) (ob4 Bd.returns) (fun _ hr => retOut X10 hx Bd.returns rfl (Or.inl ⟨rfl, Or.inl rfl, _, rfl⟩) (hb hby d8_93) hr) eh10 (by decide) (by decide) ?_
      exact ⟨(od (by rw [od9, if_neg (oe4 hp0), if_neg hk0, oe0, if_neg hk1])), N10, rfl⟩
theorem d8_64 : decode prog_5_method_12_code 64 = .ok (.iload_n 2, 1) := by decide +kernel
theorem d8_65 : decode prog_5_method_12_code 65 = .ok (.ldc 91, 2) := by decide +kernel
theorem d8_67 : decode prog_5_method_12_code 67 = .ok (.if_icmp .gt 7, 3) := by decide +kernel
def Q_dis_u_2 (Z : State) (x : Nat) (t : Nat) (kb : ClassId) (zc : Int32) (fm : Value) (c0 : Int32) (c1 : Int32) (h0 : Heap) (n0 : Nat) (vR : Option Value) (hR : Heap) (LR : List Loc) : Prop := vR = some (.int (od9 (0 : Int32) (1 : Int32) c0 c1)) ∧ Fr n0 LR ∧ hR = h0
theorem dis_u_2 (l : Launch) (Z : State) (a0 : Array Value) (hw : ∀ d ∈ tables_1, d.before a0 Z = true) (ws : List Jvm.Cond) (x : Nat) (t : Nat) (kb : ClassId) (zc : Int32) (fm : Value) (c0 : Int32) (c1 : Int32) (h0 : Heap) (n0 : Nat) (Z0 : n0 ≤ h0.size) (E_x : Exa Z h0 x "java/lang/String") (Fc_x : Fld Z h0 x "java/lang/String" "coder" "B" (.int 1)) (Fv_x : Fld Z h0 x "java/lang/String" "value" "[B" (.ref t)) (V_t : Arv Z h0 t kb .byte (4 : Int32) [(.int ((c0 >>> ((0 : Int32) &&& 31)).toInt8.toInt32)), (.int ((c0 >>> ((8 : Int32) &&& 31)).toInt8.toInt32)), (.int ((c1 >>> ((0 : Int32) &&& 31)).toInt8.toInt32)), (.int ((c1 >>> ((8 : Int32) &&& 31)).toInt8.toInt32))] (.int 0)) (S_C : Sta Z h0 "java/lang/String" "COMPACT_STRINGS" "Z" (.int zc)) (hz : ¬ (zc = (0 : Int32))) (S_FM : Sta Z h0 "jdk/internal/util/Preconditions" "SIOOBE_FORMATTER" "Ljava/util/function/BiFunction;" fm) (hfm : fm.isRef = true) (S_AD : Sta Z h0 "java/lang/StringUTF16" "$assertionsDisabled" "Z" (.int 1)) (S_HI : Sta Z h0 "java/lang/StringUTF16" "HI_BYTE_SHIFT" "I" (.int 0)) (S_LO : Sta Z h0 "java/lang/StringUTF16" "LO_BYTE_SHIFT" "I" (.int 8)) (h0_c0 : ¬ (c0 < (0 : Int32))) (h1_c0 : ¬ ((65535 : Int32) < c0)) (h0_c1 : ¬ (c1 < (0 : Int32))) (h1_c1 : ¬ ((65535 : Int32) < c1)) :
    oc2 l (⟨"com/example/sluice/sluice/Message", "disallowedCharacter", "(Ljava/lang/String;)I"⟩ : MethodName) prog_5_method_12_code 4 (some .int) ws ({ frames := 4, cells := 0, slots := 0, locals := 58 } : Room) Z #[(.ref x)] h0 (Q_dis_u_2 Z x t kb zc fm c0 c1 h0 n0) := by
  refine ob3 (own := "com/example/sluice/sluice/Message") rfl (plainFor_of_name pn_8) (fun m => ef_dis_l_0 m x) ?_
  intro p e s m below meth c s₁ Bd hml hZ hh hx hby hown X0 e0
  have N0 := Fr.nil n0
  have lt2 : h0.size > x := E_x.lt
  have lt3 : h0.size > t := V_t.lt
  refine oa4 X0.here hx hby d8_0 (v := (0 : Int32)) (by decide) ?_
  refine oa6 X0.here hx hby d8_1 (l' := #[.val (.ref x), .val (.int 0), .unset, .unset]) rfl ?_
  refine oa X0.here hx hby d8_2 rfl ?_
  refine oa2 X0.here hx hby d8_3 rfl rfl ?_
  refine ob6 X0 hx hZ hown (oa0 hw 39 rfl) (oa0 hw 40 rfl) (notFace_of_selects (args := #[]) (mvT hZ (oa0 hw 42 rfl))) (oa0 hw 42 rfl) (oa0 hw 41 rfl) (oa0 hw 8 rfl) (oa0 hw 43 rfl) (by decide) (lenU_2 l Z a0 hw [] x t kb zc c0 c1 h0 n0 Z0 E_x Fc_x Fv_x V_t S_C hz) 1 hml rfl (argsL := []) (st := [(.int 0)]) E_x (lenOf pd_11 rfl) rfl rfl e0 hby d8_4 ?_
  intro T4 v4 L4 X4 hQ4
  obtain ⟨rfl, Nq4, eh4⟩ := hQ4
  have N4 := Fr.app N0 Nq4
  refine oa5 (T := T4) 7 #[.val (.ref x), .val (.int 0), .unset, .unset] [(.int 2), (.int 0)] ?_
  refine oa7 X4.here hx hby d8_7 (tlt (show (0 : Int32) < (2 : Int32) from (by decide))).2.1 ?_
  refine oa2 X4.here hx hby d8_10 rfl rfl ?_
  refine oa X4.here hx hby d8_11 rfl ?_
  refine oa5 (T := T4) 12 #[.val (.ref x), .val (.int 0), .unset, .unset] [(.int 0), (.ref x)] ?_
  cases hp0 : od1 c0 c1
  · refine ob6 X4 hx hZ hown (oa0 hw 49 rfl) (oa0 hw 50 rfl) (notFace_of_selects (args := #[]) (mvT hZ (oa0 hw 52 rfl))) (oa0 hw 52 rfl) (oa0 hw 51 rfl) (oa0 hw 8 rfl) (oa0 hw 53 rfl) (by decide) (cpU_0_2_S l Z a0 hw [] x t kb zc fm c0 c1 h0 n0 Z0 E_x Fc_x Fv_x V_t S_C hz S_FM hfm S_AD S_HI S_LO hp0 h0_c0 h1_c0 h0_c1 h1_c1) 0 hml rfl (argsL := [(.int 0)]) (st := []) E_x (lenOf pd_12 rfl) rfl rfl eh4 hby d8_12 ?_
    intro T5 v5 L5 X5 hQ5
    obtain ⟨rfl, Nq5, eh5⟩ := hQ5
    have N5 := Fr.app N4 Nq5
    refine oa5 (T := T5) 15 #[.val (.ref x), .val (.int 0), .unset, .unset] [(.int c0)] ?_
    refine oa6 X5.here hx hby d8_15 (l' := #[.val (.ref x), .val (.int 0), .val (.int c0), .unset]) rfl ?_
    refine oa5 (T := T5) 16 #[.val (.ref x), .val (.int 0), .val (.int c0), .unset] [] ?_
    have l16_0 : c0 < (65536 : Int32) := of9 c0 h1_c0
    refine og7 hw X5 hx hZ hown hby (.val (.ref x)) (.val (.int 0)) c0 l16_0 ?_
    refine oa X5.here hx hby d8_76 rfl ?_
    refine oa5 (T := T5) 77 #[.val (.ref x), .val (.int 0), .val (.int c0), .val (.int (ob0 c0))] [(.int (ob0 c0))] ?_
    by_cases hk0 : (ob0 c0) = (0 : Int32)
    · refine ob7 X5.here hx hby d8_77 ((if0 _ _).trans (teq hk0).2) ?_
      refine oa X5.here hx hby d8_80 rfl ?_
      refine oa9 X5 Bd.notSynchronized (v := some (.int 0)) (ob4 Bd.returns) (fun _ hr => retOut X5 hx Bd.returns rfl (Or.inl ⟨rfl, Or.inl rfl, _, rfl⟩) (hb hby d8_81) hr) eh5 (by decide) (by decide) ?_
      exact ⟨(od (by rw [od9, if_neg (oe4 hp0), if_pos hk0])), N5, rfl⟩
    · refine ob1 X5.here hx hby (pc' := 82) d8_77 ((if0 _ _).trans (feq hk0).2) (by decide) (by decide) ?_
      refine oa X5.here hx hby d8_82 rfl ?_
      refine oa X5.here hx hby d8_83 rfl ?_
      refine oa3 X5 hx hZ hown (oa0 hw 84 rfl) (oa0 hw 85 rfl) (oa0 hw 86 rfl) (oa0 hw 87 rfl) (by decide) (cc1 l Z a0 hw [] c0 h0 n0 Z0 l16_0) 1 hml rfl (argsL := [(.int c0)]) (st := [(.int 0)]) (lenOf pd_12 rfl) rfl rfl eh5 hby d8_84 ?_
      intro T6 v6 L6 X6 hQ6
      obtain ⟨rfl, Nq6, eh6⟩ := hQ6
      have N6 := Fr.app N5 Nq6
      refine oa5 (T := T6) 87 #[.val (.ref x), .val (.int 0), .val (.int c0), .val (.int (ob0 c0))] [(.int 1), (.int 0)] ?_
      refine oc8 X6.here hx hby d8_87 (v := (1 : Int32)) (by decide) ?_
      refine oa6 X6.here hx hby d8_88 (l' := #[.val (.ref x), .val (.int 1), .val (.int c0), .val (.int (ob0 c0))]) rfl ?_
      refine oc X6.here hx hby (pc' := 2) d8_89 (by decide) (by decide) ?_
      refine oa X6.here hx hby d8_2 rfl ?_
      refine oa2 X6.here hx hby d8_3 rfl rfl ?_
      refine ob6 X6 hx hZ hown (oa0 hw 39 rfl) (oa0 hw 40 rfl) (notFace_of_selects (args := #[]) (mvT hZ (oa0 hw 42 rfl))) (oa0 hw 42 rfl) (oa0 hw 41 rfl) (oa0 hw 8 rfl) (oa0 hw 43 rfl) (by decide) (lenU_2 l Z a0 hw [] x t kb zc c0 c1 h0 n0 Z0 E_x Fc_x Fv_x V_t S_C hz) 1 hml rfl (argsL := []) (st := [(.int 1)]) E_x (lenOf pd_11 rfl) rfl rfl eh6 hby d8_4 ?_
      intro T7 v7 L7 X7 hQ7
      obtain ⟨rfl, Nq7, eh7⟩ := hQ7
      have N7 := Fr.app N6 Nq7
      refine oa5 (T := T7) 7 #[.val (.ref x), .val (.int 1), .val (.int c0), .val (.int (ob0 c0))] [(.int 2), (.int 1)] ?_
      refine oa7 X7.here hx hby d8_7 (tlt (show (1 : Int32) < (2 : Int32) from (by decide))).2.1 ?_
      refine oa2 X7.here hx hby d8_10 rfl rfl ?_
      refine oa X7.here hx hby d8_11 rfl ?_
      refine ob6 X7 hx hZ hown (oa0 hw 49 rfl) (oa0 hw 50 rfl) (notFace_of_selects (args := #[]) (mvT hZ (oa0 hw 52 rfl))) (oa0 hw 52 rfl) (oa0 hw 51 rfl) (oa0 hw 8 rfl) (oa0 hw 53 rfl) (by decide) (cpU_1_2_S l Z a0 hw [] x t kb zc fm c0 c1 h0 n0 Z0 E_x Fc_x Fv_x V_t S_C hz S_FM hfm S_AD S_HI S_LO h0_c1 h1_c1) 0 hml rfl (argsL := [(.int 1)]) (st := []) E_x (lenOf pd_12 rfl) rfl rfl eh7 hby d8_12 ?_
      intro T8 v8 L8 X8 hQ8
      obtain ⟨rfl, Nq8, eh8⟩ := hQ8
      have N8 := Fr.app N7 Nq8
      refine oa5 (T := T8) 15 #[.val (.ref x), .val (.int 1), .val (.int c0), .val (.int (ob0 c0))] [(.int c1)] ?_
      refine oa6 X8.here hx hby d8_15 (l' := #[.val (.ref x), .val (.int 1), .val (.int c1), .val (.int (ob0 c0))]) rfl ?_
      refine oa5 (T := T8) 16 #[.val (.ref x), .val (.int 1), .val (.int c1), .val (.int (ob0 c0))] [] ?_
      have l16_1 : c1 < (65536 : Int32) := of9 c1 h1_c1
      refine og5 hw X8 hx hZ hown hby (.val (.ref x)) (.val (.int 1)) c1 (ob0 c0) l16_1 ?_
      refine oa X8.here hx hby d8_76 rfl ?_
      refine oa5 (T := T8) 77 #[.val (.ref x), .val (.int 1), .val (.int c1), .val (.int (ob0 c1))] [(.int (ob0 c1))] ?_
      by_cases hk1 : (ob0 c1) = (0 : Int32)
      · refine ob7 X8.here hx hby d8_77 ((if0 _ _).trans (teq hk1).2) ?_
        refine oa X8.here hx hby d8_80 rfl ?_
        refine oa9 X8 Bd.notSynchronized (v := some (.int 1)) (ob4 Bd.returns) (fun _ hr => retOut X8 hx Bd.returns rfl (Or.inl ⟨rfl, Or.inl rfl, _, rfl⟩) (hb hby d8_81) hr) eh8 (by decide) (by decide) ?_
        exact ⟨(od (by rw [od9, if_neg (oe4 hp0), if_neg hk0, oe0, if_pos hk1])), N8, rfl⟩
      · refine ob1 X8.here hx hby (pc' := 82) d8_77 ((if0 _ _).trans (feq hk1).2) (by decide) (by decide) ?_
        refine oa X8.here hx hby d8_82 rfl ?_
        refine oa X8.here hx hby d8_83 rfl ?_
        refine oa3 X8 hx hZ hown (oa0 hw 84 rfl) (oa0 hw 85 rfl) (oa0 hw 86 rfl) (oa0 hw 87 rfl) (by decide) (cc1 l Z a0 hw [] c1 h0 n0 Z0 l16_1) 1 hml rfl (argsL := [(.int c1)]) (st := [(.int 1)]) (lenOf pd_12 rfl) rfl rfl eh8 hby d8_84 ?_
        intro T9 v9 L9 X9 hQ9
        obtain ⟨rfl, Nq9, eh9⟩ := hQ9
        have N9 := Fr.app N8 Nq9
        refine oa5 (T := T9) 87 #[.val (.ref x), .val (.int 1), .val (.int c1), .val (.int (ob0 c1))] [(.int 1), (.int 1)] ?_
        refine oc8 X9.here hx hby d8_87 (v := (2 : Int32)) (by decide) ?_
        refine oa6 X9.here hx hby d8_88 (l' := #[.val (.ref x), .val (.int 2), .val (.int c1), .val (.int (ob0 c1))]) rfl ?_
        refine oc X9.here hx hby (pc' := 2) d8_89 (by decide) (by decide) ?_
        refine oa X9.here hx hby d8_2 rfl ?_
        refine oa2 X9.here hx hby d8_3 rfl rfl ?_
        refine ob6 X9 hx hZ hown (oa0 hw 39 rfl) (oa0 hw 40 rfl) (notFace_of_selects (args := #[]) (mvT hZ (oa0 hw 42 rfl))) (oa0 hw 42 rfl) (oa0 hw 41 rfl) (oa0 hw 8 rfl) (oa0 hw 43 rfl) (by decide) (lenU_2 l Z a0 hw [] x t kb zc c0 c1 h0 n0 Z0 E_x Fc_x Fv_x V_t S_C hz) 1 hml rfl (argsL := []) (st := [(.int 2)]) E_x (lenOf pd_11 rfl) rfl rfl eh9 hby d8_4 ?_
        intro T10 v10 L10 X10 hQ10
        obtain ⟨rfl, Nq10, eh10⟩ := hQ10
        have N10 := Fr.app N9 Nq10
        refine oa5 (T := T10) 7 #[.val (.ref x), .val (.int 2), .val (.int c1), .val (.int (ob0 c1))] [(.int 2), (.int 2)] ?_
        refine ob2 X10.here hx hby (pc' := 92) d8_7 (flt (show ¬ ((2 : Int32) < (2 : Int32)) from (by decide))).2.1 (by decide) (by decide) ?_
        refine oa4 X10.here hx hby d8_92 (v := (-1 : Int32)) (by decide) ?_
        refine oa9 X10 Bd.notSynchronized (v := some (.int (-1))) (ob4 Bd.returns) (fun _ hr => retOut X10 hx Bd.returns rfl (Or.inl ⟨rfl, Or.inl rfl, _, rfl⟩) (hb hby d8_93) hr) eh10 (by decide) (by decide) ?_
        exact ⟨(od (by rw [od9, if_neg (oe4 hp0), if_neg hk0, oe0, if_neg hk1])), N10, rfl⟩
  · refine ob6 X4 hx hZ hown (oa0 hw 49 rfl) (oa0 hw 50 rfl) (notFace_of_selects (args := #[]) (mvT hZ (oa0 hw 52 rfl))) (oa0 hw 52 rfl) (oa0 hw 51 rfl) (oa0 hw 8 rfl) (oa0 hw 53 rfl) (by decide) (cpU_0_2_P l Z a0 hw [] x t kb zc fm c0 c1 h0 n0 Z0 E_x Fc_x Fv_x V_t S_C hz S_FM hfm S_AD S_HI S_LO hp0 h0_c0 h1_c0 h0_c1 h1_c1) 0 hml rfl (argsL := [(.int 0)]) (st := []) E_x (lenOf pd_12 rfl) rfl rfl eh4 hby d8_12 ?_
    intro T11 v11 L11 X11 hQ11
    obtain ⟨rfl, Nq11, eh11⟩ := hQ11
    have N11 := Fr.app N4 Nq11
    refine oa5 (T := T11) 15 #[.val (.ref x), .val (.int 0), .unset, .unset] [(.int (oc5 c0 c1))] ?_
    refine oa6 X11.here hx hby d8_15 (l' := #[.val (.ref x), .val (.int 0), .val (.int (oc5 c0 c1)), .unset]) rfl ?_
    refine oa5 (T := T11) 16 #[.val (.ref x), .val (.int 0), .val (.int (oc5 c0 c1)), .unset] [] ?_
    obtain ⟨q0_0, q0_1, q0_2, q0_3, q0_4, q0_5, q0_6, q0_7, q0_8⟩ := own_tcpN hp0
    refine oa X11.here hx hby d8_16 rfl ?_
    refine od4 X11.here hx hby d8_17 (v := (9 : Int32)) (by decide) ?_
    refine oa7 X11.here hx hby d8_19 (feq q0_0).1 ?_
    refine oa X11.here hx hby d8_22 rfl ?_
    refine od4 X11.here hx hby d8_23 (v := (10 : Int32)) (by decide) ?_
    refine oa7 X11.here hx hby d8_25 (feq q0_1).1 ?_
    refine oa X11.here hx hby d8_28 rfl ?_
    refine od4 X11.here hx hby d8_29 (v := (13 : Int32)) (by decide) ?_
    refine oa7 X11.here hx hby d8_31 (feq q0_2).1 ?_
    refine oa X11.here hx hby d8_34 rfl ?_
    refine od4 X11.here hx hby d8_35 (v := (32 : Int32)) (by decide) ?_
    refine oa7 X11.here hx hby d8_37 (flt q0_3).1 ?_
    refine oa X11.here hx hby d8_40 rfl ?_
    refine oc1 X11 hx hZ hown (oa0 hw 83 rfl) hby d8_41 ?_
    refine oa7 X11.here hx hby d8_43 (tlt q0_4).2.2.2 ?_
    refine oa X11.here hx hby d8_46 rfl ?_
    refine oc1 X11 hx hZ hown (oa0 hw 67 rfl) hby d8_47 ?_
    refine oa7 X11.here hx hby d8_49 (flt q0_5).1 ?_
    refine oa X11.here hx hby d8_52 rfl ?_
    refine oc1 X11 hx hZ hown (oa0 hw 124 rfl) hby d8_53 ?_
    refine oa7 X11.here hx hby d8_55 (tlt q0_6).2.2.2 ?_
    refine oa X11.here hx hby d8_58 rfl ?_
    refine oc1 X11 hx hZ hown (oa0 hw 68 rfl) hby d8_59 ?_
    refine oa7 X11.here hx hby d8_61 (flt q0_7).1 ?_
    refine oa X11.here hx hby d8_64 rfl ?_
    refine oc1 X11 hx hZ hown (oa0 hw 138 rfl) hby d8_65 ?_
    refine oa7 X11.here hx hby d8_67 (flt q0_8).2.2.1 ?_
    refine oa4 X11.here hx hby d8_70 (v := (1 : Int32)) (by decide) ?_
    refine oc X11.here hx hby (pc' := 75) d8_71 (by decide) (by decide) ?_
    refine oa6 X11.here hx hby d8_75 (l' := #[.val (.ref x), .val (.int 0), .val (.int (oc5 c0 c1)), .val (.int 1)]) rfl ?_
    refine oa X11.here hx hby d8_76 rfl ?_
    refine ob1 X11.here hx hby (pc' := 82) d8_77 ((if0 _ _).trans (feq (show ¬ ((1 : Int32) = (0 : Int32)) from (by decide))).2) (by decide) (by decide) ?_
    refine oa X11.here hx hby d8_82 rfl ?_
    refine oa X11.here hx hby d8_83 rfl ?_
    refine oa3 X11 hx hZ hown (oa0 hw 84 rfl) (oa0 hw 85 rfl) (oa0 hw 86 rfl) (oa0 hw 87 rfl) (by decide) (cc2 l Z a0 hw [] (oc5 c0 c1) h0 n0 Z0 q0_7) 1 hml rfl (argsL := [(.int (oc5 c0 c1))]) (st := [(.int 0)]) (lenOf pd_12 rfl) rfl rfl eh11 hby d8_84 ?_
    intro T12 v12 L12 X12 hQ12
    obtain ⟨rfl, Nq12, eh12⟩ := hQ12
    have N12 := Fr.app N11 Nq12
    refine oa5 (T := T12) 87 #[.val (.ref x), .val (.int 0), .val (.int (oc5 c0 c1)), .val (.int 1)] [(.int 2), (.int 0)] ?_
    refine oc8 X12.here hx hby d8_87 (v := (2 : Int32)) (by decide) ?_
    refine oa6 X12.here hx hby d8_88 (l' := #[.val (.ref x), .val (.int 2), .val (.int (oc5 c0 c1)), .val (.int 1)]) rfl ?_
    refine oc X12.here hx hby (pc' := 2) d8_89 (by decide) (by decide) ?_
    refine oa X12.here hx hby d8_2 rfl ?_
    refine oa2 X12.here hx hby d8_3 rfl rfl ?_
    refine ob6 X12 hx hZ hown (oa0 hw 39 rfl) (oa0 hw 40 rfl) (notFace_of_selects (args := #[]) (mvT hZ (oa0 hw 42 rfl))) (oa0 hw 42 rfl) (oa0 hw 41 rfl) (oa0 hw 8 rfl) (oa0 hw 43 rfl) (by decide) (lenU_2 l Z a0 hw [] x t kb zc c0 c1 h0 n0 Z0 E_x Fc_x Fv_x V_t S_C hz) 1 hml rfl (argsL := []) (st := [(.int 2)]) E_x (lenOf pd_11 rfl) rfl rfl eh12 hby d8_4 ?_
    intro T13 v13 L13 X13 hQ13
    obtain ⟨rfl, Nq13, eh13⟩ := hQ13
    have N13 := Fr.app N12 Nq13
    refine oa5 (T := T13) 7 #[.val (.ref x), .val (.int 2), .val (.int (oc5 c0 c1)), .val (.int 1)] [(.int 2), (.int 2)] ?_
    refine ob2 X13.here hx hby (pc' := 92) d8_7 (flt (show ¬ ((2 : Int32) < (2 : Int32)) from (by decide))).2.1 (by decide) (by decide) ?_
    refine oa4 X13.here hx hby d8_92 (v := (-1 : Int32)) (by decide) ?_
    refine oa9 X13 Bd.notSynchronized (v := some (.int (-1))) (ob4 Bd.returns) (fun _ hr => retOut X13 hx Bd.returns rfl (Or.inl ⟨rfl, Or.inl rfl, _, rfl⟩) (hb hby d8_93) hr) eh13 (by decide) (by decide) ?_
    exact ⟨(od (by rw [od9, if_pos hp0])), N13, rfl⟩
def Q_dis_l_3 (Z : State) (x : Nat) (t : Nat) (kb : ClassId) (zc : Int32) (fm : Value) (c0 : Int32) (c1 : Int32) (c2 : Int32) (h0 : Heap) (n0 : Nat) (vR : Option Value) (hR : Heap) (LR : List Loc) : Prop := vR = some (.int (od6 c0 c1 c2)) ∧ Fr n0 LR ∧ hR = h0
theorem dis_l_3 (l : Launch) (Z : State) (a0 : Array Value) (hw : ∀ d ∈ tables_1, d.before a0 Z = true) (ws : List Jvm.Cond) (x : Nat) (t : Nat) (kb : ClassId) (zc : Int32) (fm : Value) (c0 : Int32) (c1 : Int32) (c2 : Int32) (h0 : Heap) (n0 : Nat) (Z0 : n0 ≤ h0.size) (E_x : Exa Z h0 x "java/lang/String") (Fc_x : Fld Z h0 x "java/lang/String" "coder" "B" (.int 0)) (Fv_x : Fld Z h0 x "java/lang/String" "value" "[B" (.ref t)) (V_t : Arv Z h0 t kb .byte (3 : Int32) [(.int (c0.toInt8.toInt32)), (.int (c1.toInt8.toInt32)), (.int (c2.toInt8.toInt32))] (.int 0)) (S_C : Sta Z h0 "java/lang/String" "COMPACT_STRINGS" "Z" (.int zc)) (hz : ¬ (zc = (0 : Int32))) (S_FM : Sta Z h0 "jdk/internal/util/Preconditions" "SIOOBE_FORMATTER" "Ljava/util/function/BiFunction;" fm) (hfm : fm.isRef = true) (h0_c0 : ¬ (c0 < (0 : Int32))) (h1_c0 : ¬ ((255 : Int32) < c0)) (h0_c1 : ¬ (c1 < (0 : Int32))) (h1_c1 : ¬ ((255 : Int32) < c1)) (h0_c2 : ¬ (c2 < (0 : Int32))) (h1_c2 : ¬ ((255 : Int32) < c2)) :
    oc2 l (⟨"com/example/sluice/sluice/Message", "disallowedCharacter", "(Ljava/lang/String;)I"⟩ : MethodName) prog_5_method_12_code 4 (some .int) ws ({ frames := 3, cells := 0, slots := 0, locals := 41 } : Room) Z #[(.ref x)] h0 (Q_dis_l_3 Z x t kb zc fm c0 c1 c2 h0 n0) := by
  refine ob3 (own := "com/example/sluice/sluice/Message") rfl (plainFor_of_name pn_8) (fun m => ef_dis_l_0 m x) ?_
  intro p e s m below meth c s₁ Bd hml hZ hh hx hby hown X0 e0
  have N0 := Fr.nil n0
  have lt3 : h0.size > x := E_x.lt
  have lt4 : h0.size > t := V_t.lt
  refine oa4 X0.here hx hby d8_0 (v := (0 : Int32)) (by decide) ?_
  refine oa6 X0.here hx hby d8_1 (l' := #[.val (.ref x), .val (.int 0), .unset, .unset]) rfl ?_
  refine oa X0.here hx hby d8_2 rfl ?_
  refine oa2 X0.here hx hby d8_3 rfl rfl ?_
  refine ob6 X0 hx hZ hown (oa0 hw 39 rfl) (oa0 hw 40 rfl) (notFace_of_selects (args := #[]) (mvT hZ (oa0 hw 42 rfl))) (oa0 hw 42 rfl) (oa0 hw 41 rfl) (oa0 hw 8 rfl) (oa0 hw 43 rfl) (by decide) (strLen_3 l Z a0 hw [] x t kb zc ([(.int (c0.toInt8.toInt32)), (.int (c1.toInt8.toInt32)), (.int (c2.toInt8.toInt32))]) h0 n0 Z0 E_x Fc_x Fv_x V_t S_C hz) 1 hml rfl (argsL := []) (st := [(.int 0)]) E_x (lenOf pd_11 rfl) rfl rfl e0 hby d8_4 ?_
  intro T5 v5 L5 X5 hQ5
  obtain ⟨rfl, Nq5, eh5⟩ := hQ5
  have N5 := Fr.app N0 Nq5
  refine oa5 (T := T5) 7 #[.val (.ref x), .val (.int 0), .unset, .unset] [(.int 3), (.int 0)] ?_
  refine oa7 X5.here hx hby d8_7 (tlt (show (0 : Int32) < (3 : Int32) from (by decide))).2.1 ?_
  refine oa2 X5.here hx hby d8_10 rfl rfl ?_
  refine oa X5.here hx hby d8_11 rfl ?_
  refine oa5 (T := T5) 12 #[.val (.ref x), .val (.int 0), .unset, .unset] [(.int 0), (.ref x)] ?_
  have hp0 : od1 c0 c1 = false := own_pLat h1_c0
  refine ob6 X5 hx hZ hown (oa0 hw 49 rfl) (oa0 hw 50 rfl) (notFace_of_selects (args := #[]) (mvT hZ (oa0 hw 52 rfl))) (oa0 hw 52 rfl) (oa0 hw 51 rfl) (oa0 hw 8 rfl) (oa0 hw 53 rfl) (by decide) (cpL_0_3 l Z a0 hw [] x t kb zc fm c0 c1 c2 h0 n0 Z0 E_x Fc_x Fv_x V_t S_C hz S_FM hfm h0_c0 h1_c0) 0 hml rfl (argsL := [(.int 0)]) (st := []) E_x (lenOf pd_12 rfl) rfl rfl eh5 hby d8_12 ?_
  intro T6 v6 L6 X6 hQ6
  obtain ⟨rfl, Nq6, eh6⟩ := hQ6
  have N6 := Fr.app N5 Nq6
  refine oa5 (T := T6) 15 #[.val (.ref x), .val (.int 0), .unset, .unset] [(.int c0)] ?_
  refine oa6 X6.here hx hby d8_15 (l' := #[.val (.ref x), .val (.int 0), .val (.int c0), .unset]) rfl ?_
  refine oa5 (T := T6) 16 #[.val (.ref x), .val (.int 0), .val (.int c0), .unset] [] ?_
  have l16_0 : c0 < (65536 : Int32) := of9 c0 (own_le16 c0 h1_c0)
  refine og7 hw X6 hx hZ hown hby (.val (.ref x)) (.val (.int 0)) c0 l16_0 ?_
  refine oa X6.here hx hby d8_76 rfl ?_
  refine oa5 (T := T6) 77 #[.val (.ref x), .val (.int 0), .val (.int c0), .val (.int (ob0 c0))] [(.int (ob0 c0))] ?_
  by_cases hk0 : (ob0 c0) = (0 : Int32)
  · refine ob7 X6.here hx hby d8_77 ((if0 _ _).trans (teq hk0).2) ?_
    refine oa X6.here hx hby d8_80 rfl ?_
    refine oa9 X6 Bd.notSynchronized (v := some (.int 0)) (ob4 Bd.returns) (fun _ hr => retOut X6 hx Bd.returns rfl (Or.inl ⟨rfl, Or.inl rfl, _, rfl⟩) (hb hby d8_81) hr) eh6 (by decide) (by decide) ?_
    exact ⟨(od (by rw [od6, if_neg (oe4 hp0), if_pos hk0])), N6, rfl⟩
  · refine ob1 X6.here hx hby (pc' := 82) d8_77 ((if0 _ _).trans (feq hk0).2) (by decide) (by decide) ?_
    refine oa X6.here hx hby d8_82 rfl ?_
    refine oa X6.here hx hby d8_83 rfl ?_
    refine oa3 X6 hx hZ hown (oa0 hw 84 rfl) (oa0 hw 85 rfl) (oa0 hw 86 rfl) (oa0 hw 87 rfl) (by decide) (cc1 l Z a0 hw [] c0 h0 n0 Z0 l16_0) 1 hml rfl (argsL := [(.int c0)]) (st := [(.int 0)]) (lenOf pd_12 rfl) rfl rfl eh6 hby d8_84 ?_
    intro T7 v7 L7 X7 hQ7
    obtain ⟨rfl, Nq7, eh7⟩ := hQ7
    have N7 := Fr.app N6 Nq7
    refine oa5 (T := T7) 87 #[.val (.ref x), .val (.int 0), .val (.int c0), .val (.int (ob0 c0))] [(.int 1), (.int 0)] ?_
    refine oc8 X7.here hx hby d8_87 (v := (1 : Int32)) (by decide) ?_
    refine oa6 X7.here hx hby d8_88 (l' := #[.val (.ref x), .val (.int 1), .val (.int c0), .val (.int (ob0 c0))]) rfl ?_
    refine oc X7.here hx hby (pc' := 2) d8_89 (by decide) (by decide) ?_
    refine oa X7.here hx hby d8_2 rfl ?_
    refine oa2 X7.here hx hby d8_3 rfl rfl ?_
    refine ob6 X7 hx hZ hown (oa0 hw 39 rfl) (oa0 hw 40 rfl) (notFace_of_selects (args := #[]) (mvT hZ (oa0 hw 42 rfl))) (oa0 hw 42 rfl) (oa0 hw 41 rfl) (oa0 hw 8 rfl) (oa0 hw 43 rfl) (by decide) (strLen_3 l Z a0 hw [] x t kb zc ([(.int (c0.toInt8.toInt32)), (.int (c1.toInt8.toInt32)), (.int (c2.toInt8.toInt32))]) h0 n0 Z0 E_x Fc_x Fv_x V_t S_C hz) 1 hml rfl (argsL := []) (st := [(.int 1)]) E_x (lenOf pd_11 rfl) rfl rfl eh7 hby d8_4 ?_
    intro T8 v8 L8 X8 hQ8
    obtain ⟨rfl, Nq8, eh8⟩ := hQ8
    have N8 := Fr.app N7 Nq8
    refine oa5 (T := T8) 7 #[.val (.ref x), .val (.int 1), .val (.int c0), .val (.int (ob0 c0))] [(.int 3), (.int 1)] ?_
    refine oa7 X8.here hx hby d8_7 (tlt (show (1 : Int32) < (3 : Int32) from (by decide))).2.1 ?_
    refine oa2 X8.here hx hby d8_10 rfl rfl ?_
    refine oa X8.here hx hby d8_11 rfl ?_
    refine oa5 (T := T8) 12 #[.val (.ref x), .val (.int 1), .val (.int c0), .val (.int (ob0 c0))] [(.int 1), (.ref x)] ?_
    have hp1 : od1 c1 c2 = false := own_pLat h1_c1
    refine ob6 X8 hx hZ hown (oa0 hw 49 rfl) (oa0 hw 50 rfl) (notFace_of_selects (args := #[]) (mvT hZ (oa0 hw 52 rfl))) (oa0 hw 52 rfl) (oa0 hw 51 rfl) (oa0 hw 8 rfl) (oa0 hw 53 rfl) (by decide) (cpL_1_3 l Z a0 hw [] x t kb zc fm c0 c1 c2 h0 n0 Z0 E_x Fc_x Fv_x V_t S_C hz S_FM hfm h0_c1 h1_c1) 0 hml rfl (argsL := [(.int 1)]) (st := []) E_x (lenOf pd_12 rfl) rfl rfl eh8 hby d8_12 ?_
    intro T9 v9 L9 X9 hQ9
    obtain ⟨rfl, Nq9, eh9⟩ := hQ9
    have N9 := Fr.app N8 Nq9
    refine oa5 (T := T9) 15 #[.val (.ref x), .val (.int 1), .val (.int c0), .val (.int (ob0 c0))] [(.int c1)] ?_
    refine oa6 X9.here hx hby d8_15 (l' := #[.val (.ref x), .val (.int 1), .val (.int c1), .val (.int (ob0 c0))]) rfl ?_
    refine oa5 (T := T9) 16 #[.val (.ref x), .val (.int 1), .val (.int c1), .val (.int (ob0 c0))] [] ?_
    have l16_1 : c1 < (65536 : Int32) := of9 c1 (own_le16 c1 h1_c1)
    refine og5 hw X9 hx hZ hown hby (.val (.ref x)) (.val (.int 1)) c1 (ob0 c0) l16_1 ?_
    refine oa X9.here hx hby d8_76 rfl ?_
    refine oa5 (T := T9) 77 #[.val (.ref x), .val (.int 1), .val (.int c1), .val (.int (ob0 c1))] [(.int (ob0 c1))] ?_
    by_cases hk1 : (ob0 c1) = (0 : Int32)
    · refine ob7 X9.here hx hby d8_77 ((if0 _ _).trans (teq hk1).2) ?_
      refine oa X9.here hx hby d8_80 rfl ?_
      refine oa9 X9 Bd.notSynchronized (v := some (.int 1)) (ob4 Bd.returns) (fun _ hr => retOut X9 hx Bd.returns rfl (Or.inl ⟨rfl, Or.inl rfl, _, rfl⟩) (hb hby d8_81) hr) eh9 (by decide) (by decide) ?_
      exact ⟨(od (by rw [od6, if_neg (oe4 hp0), if_neg hk0, od9, if_neg (oe4 hp1), if_pos hk1])), N9, rfl⟩
    · refine ob1 X9.here hx hby (pc' := 82) d8_77 ((if0 _ _).trans (feq hk1).2) (by decide) (by decide) ?_
      refine oa X9.here hx hby d8_82 rfl ?_
      refine oa X9.here hx hby d8_83 rfl ?_
      refine oa3 X9 hx hZ hown (oa0 hw 84 rfl) (oa0 hw 85 rfl) (oa0 hw 86 rfl) (oa0 hw 87 rfl) (by decide) (cc1 l Z a0 hw [] c1 h0 n0 Z0 l16_1) 1 hml rfl (argsL := [(.int c1)]) (st := [(.int 1)]) (lenOf pd_12 rfl) rfl rfl eh9 hby d8_84 ?_
      intro T10 v10 L10 X10 hQ10
      obtain ⟨rfl, Nq10, eh10⟩ := hQ10
      have N10 := Fr.app N9 Nq10
      refine oa5 (T := T10) 87 #[.val (.ref x), .val (.int 1), .val (.int c1), .val (.int (ob0 c1))] [(.int 1), (.int 1)] ?_
      refine oc8 X10.here hx hby d8_87 (v := (2 : Int32)) (by decide) ?_
      refine oa6 X10.here hx hby d8_88 (l' := #[.val (.ref x), .val (.int 2), .val (.int c1), .val (.int (ob0 c1))]) rfl ?_
      refine oc X10.here hx hby (pc' := 2) d8_89 (by decide) (by decide) ?_
      refine oa X10.here hx hby d8_2 rfl ?_
      refine oa2 X10.here hx hby d8_3 rfl rfl ?_
      refine ob6 X10 hx hZ hown (oa0 hw 39 rfl) (oa0 hw 40 rfl) (notFace_of_selects (args := #[]) (mvT hZ (oa0 hw 42 rfl))) (oa0 hw 42 rfl) (oa0 hw 41 rfl) (oa0 hw 8 rfl) (oa0 hw 43 rfl) (by decide) (strLen_3 l Z a0 hw [] x t kb zc ([(.int (c0.toInt8.toInt32)), (.int (c1.toInt8.toInt32)), (.int (c2.toInt8.toInt32))]) h0 n0 Z0 E_x Fc_x Fv_x V_t S_C hz) 1 hml rfl (argsL := []) (st := [(.int 2)]) E_x (lenOf pd_11 rfl) rfl rfl eh10 hby d8_4 ?_
      intro T11 v11 L11 X11 hQ11
      obtain ⟨rfl, Nq11, eh11⟩ := hQ11
      have N11 := Fr.app N10 Nq11
      refine oa5 (T := T11) 7 #[.val (.ref x), .val (.int 2), .val (.int c1), .val (.int (ob0 c1))] [(.int 3), (.int 2)] ?_
      refine oa7 X11.here hx hby d8_7 (tlt (show (2 : Int32) < (3 : Int32) from (by decide))).2.1 ?_
      refine oa2 X11.here hx hby d8_10 rfl rfl ?_
      refine oa X11.here hx hby d8_11 rfl ?_
      refine ob6 X11 hx hZ hown (oa0 hw 49 rfl) (oa0 hw 50 rfl) (notFace_of_selects (args := #[]) (mvT hZ (oa0 hw 52 rfl))) (oa0 hw 52 rfl) (oa0 hw 51 rfl) (oa0 hw 8 rfl) (oa0 hw 53 rfl) (by decide) (cpL_2_3 l Z a0 hw [] x t kb zc fm c0 c1 c2 h0 n0 Z0 E_x Fc_x Fv_x V_t S_C hz S_FM hfm h0_c2 h1_c2) 0 hml rfl (argsL := [(.int 2)]) (st := []) E_x (lenOf pd_12 rfl) rfl rfl eh11 hby d8_12 ?_
      intro T12 v12 L12 X12 hQ12
      obtain ⟨rfl, Nq12, eh12⟩ := hQ12
      have N12 := Fr.app N11 Nq12
      refine oa5 (T := T12) 15 #[.val (.ref x), .val (.int 2), .val (.int c1), .val (.int (ob0 c1))] [(.int c2)] ?_
      refine oa6 X12.here hx hby d8_15 (l' := #[.val (.ref x), .val (.int 2), .val (.int c2), .val (.int (ob0 c1))]) rfl ?_
      refine oa5 (T := T12) 16 #[.val (.ref x), .val (.int 2), .val (.int c2), .val (.int (ob0 c1))] [] ?_
      have l16_2 : c2 < (65536 : Int32) := of9 c2 (own_le16 c2 h1_c2)
      refine og5 hw X12 hx hZ hown hby (.val (.ref x)) (.val (.int 2)) c2 (ob0 c1) l16_2 ?_
      refine oa X12.here hx hby d8_76 rfl ?_
      refine oa5 (T := T12) 77 #[.val (.ref x), .val (.int 2), .val (.int c2), .val (.int (ob0 c2))] [(.int (ob0 c2))] ?_
      by_cases hk2 : (ob0 c2) = (0 : Int32)
      · refine ob7 X12.here hx hby d8_77 ((if0 _ _).trans (teq hk2).2) ?_
        refine oa X12.here hx hby d8_80 rfl ?_
        refine oa9 X12 Bd.notSynchronized (v := some (.int 2)) (ob4 Bd.returns) (fun _ hr => retOut X12 hx Bd.returns rfl (Or.inl ⟨rfl, Or.inl rfl, _, rfl⟩) (hb hby d8_81) hr) eh12 (by decide) (by decide) ?_
        exact ⟨(od (by rw [od6, if_neg (oe4 hp0), if_neg hk0, od9, if_neg (oe4 hp1), if_neg hk1, oe0, if_pos hk2])), N12, rfl⟩
      · refine ob1 X12.here hx hby (pc' := 82) d8_77 ((if0 _ _).trans (feq hk2).2) (by decide) (by decide) ?_
        refine oa X12.here hx hby d8_82 rfl ?_
        refine oa X12.here hx hby d8_83 rfl ?_
        refine oa3 X12 hx hZ hown (oa0 hw 84 rfl) (oa0 hw 85 rfl) (oa0 hw 86 rfl) (oa0 hw 87 rfl) (by decide) (cc1 l Z a0 hw [] c2 h0 n0 Z0 l16_2) 1 hml rfl (argsL := [(.int c2)]) (st := [(.int 2)]) (lenOf pd_12 rfl) rfl rfl eh12 hby d8_84 ?_
        intro T13 v13 L13 X13 hQ13
        obtain ⟨rfl, Nq13, eh13⟩ := hQ13
        have N13 := Fr.app N12 Nq13
        refine oa5 (T := T13) 87 #[.val (.ref x), .val (.int 2), .val (.int c2), .val (.int (ob0 c2))] [(.int 1), (.int 2)] ?_
        refine oc8 X13.here hx hby d8_87 (v := (3 : Int32)) (by decide) ?_
        refine oa6 X13.here hx hby d8_88 (l' := #[.val (.ref x), .val (.int 3), .val (.int c2), .val (.int (ob0 c2))]) rfl ?_
        refine oc X13.here hx hby (pc' := 2) d8_89 (by decide) (by decide) ?_
        refine oa X13.here hx hby d8_2 rfl ?_
        refine oa2 X13.here hx hby d8_3 rfl rfl ?_
        refine ob6 X13 hx hZ hown (oa0 hw 39 rfl) (oa0 hw 40 rfl) (notFace_of_selects (args := #[]) (mvT hZ (oa0 hw 42 rfl))) (oa0 hw 42 rfl) (oa0 hw 41 rfl) (oa0 hw 8 rfl) (oa0 hw 43 rfl) (by decide) (strLen_3 l Z a0 hw [] x t kb zc ([(.int (c0.toInt8.toInt32)), (.int (c1.toInt8.toInt32)), (.int (c2.toInt8.toInt32))]) h0 n0 Z0 E_x Fc_x Fv_x V_t S_C hz) 1 hml rfl (argsL := []) (st := [(.int 3)]) E_x (lenOf pd_11 rfl) rfl rfl eh13 hby d8_4 ?_
        intro T14 v14 L14 X14 hQ14
        obtain ⟨rfl, Nq14, eh14⟩ := hQ14
        have N14 := Fr.app N13 Nq14
        refine oa5 (T := T14) 7 #[.val (.ref x), .val (.int 3), .val (.int c2), .val (.int (ob0 c2))] [(.int 3), (.int 3)] ?_
        refine ob2 X14.here hx hby (pc' := 92) d8_7 (flt (show ¬ ((3 : Int32) < (3 : Int32)) from (by decide))).2.1 (by decide) (by decide) ?_
        refine oa4 X14.here hx hby d8_92 (v := (-1 : Int32)) (by decide) ?_
        refine oa9 X14 Bd.notSynchronized (v := some (.int (-1))) (ob4 Bd.returns) (fun _ hr => retOut X14 hx Bd.returns rfl (Or.inl ⟨rfl, Or.inl rfl, _, rfl⟩) (hb hby d8_93) hr) eh14 (by decide) (by decide) ?_
        exact ⟨(od (by rw [od6, if_neg (oe4 hp0), if_neg hk0, od9, if_neg (oe4 hp1), if_neg hk1, oe0, if_neg hk2])), N14, rfl⟩
def Q_dis_u_3 (Z : State) (x : Nat) (t : Nat) (kb : ClassId) (zc : Int32) (fm : Value) (c0 : Int32) (c1 : Int32) (c2 : Int32) (h0 : Heap) (n0 : Nat) (vR : Option Value) (hR : Heap) (LR : List Loc) : Prop := vR = some (.int (od6 c0 c1 c2)) ∧ Fr n0 LR ∧ hR = h0
theorem dis_u_3 (l : Launch) (Z : State) (a0 : Array Value) (hw : ∀ d ∈ tables_1, d.before a0 Z = true) (ws : List Jvm.Cond) (x : Nat) (t : Nat) (kb : ClassId) (zc : Int32) (fm : Value) (c0 : Int32) (c1 : Int32) (c2 : Int32) (h0 : Heap) (n0 : Nat) (Z0 : n0 ≤ h0.size) (E_x : Exa Z h0 x "java/lang/String") (Fc_x : Fld Z h0 x "java/lang/String" "coder" "B" (.int 1)) (Fv_x : Fld Z h0 x "java/lang/String" "value" "[B" (.ref t)) (V_t : Arv Z h0 t kb .byte (6 : Int32) [(.int ((c0 >>> ((0 : Int32) &&& 31)).toInt8.toInt32)), (.int ((c0 >>> ((8 : Int32) &&& 31)).toInt8.toInt32)), (.int ((c1 >>> ((0 : Int32) &&& 31)).toInt8.toInt32)), (.int ((c1 >>> ((8 : Int32) &&& 31)).toInt8.toInt32)), (.int ((c2 >>> ((0 : Int32) &&& 31)).toInt8.toInt32)), (.int ((c2 >>> ((8 : Int32) &&& 31)).toInt8.toInt32))] (.int 0)) (S_C : Sta Z h0 "java/lang/String" "COMPACT_STRINGS" "Z" (.int zc)) (hz : ¬ (zc = (0 : Int32))) (S_FM : Sta Z h0 "jdk/internal/util/Preconditions" "SIOOBE_FORMATTER" "Ljava/util/function/BiFunction;" fm) (hfm : fm.isRef = true) (S_AD : Sta Z h0 "java/lang/StringUTF16" "$assertionsDisabled" "Z" (.int 1)) (S_HI : Sta Z h0 "java/lang/StringUTF16" "HI_BYTE_SHIFT" "I" (.int 0)) (S_LO : Sta Z h0 "java/lang/StringUTF16" "LO_BYTE_SHIFT" "I" (.int 8)) (h0_c0 : ¬ (c0 < (0 : Int32))) (h1_c0 : ¬ ((65535 : Int32) < c0)) (h0_c1 : ¬ (c1 < (0 : Int32))) (h1_c1 : ¬ ((65535 : Int32) < c1)) (h0_c2 : ¬ (c2 < (0 : Int32))) (h1_c2 : ¬ ((65535 : Int32) < c2)) :
    oc2 l (⟨"com/example/sluice/sluice/Message", "disallowedCharacter", "(Ljava/lang/String;)I"⟩ : MethodName) prog_5_method_12_code 4 (some .int) ws ({ frames := 4, cells := 0, slots := 0, locals := 58 } : Room) Z #[(.ref x)] h0 (Q_dis_u_3 Z x t kb zc fm c0 c1 c2 h0 n0) := by
  refine ob3 (own := "com/example/sluice/sluice/Message") rfl (plainFor_of_name pn_8) (fun m => ef_dis_l_0 m x) ?_
  intro p e s m below meth c s₁ Bd hml hZ hh hx hby hown X0 e0
  have N0 := Fr.nil n0
  have lt3 : h0.size > x := E_x.lt
  have lt4 : h0.size > t := V_t.lt
  refine oa4 X0.here hx hby d8_0 (v := (0 : Int32)) (by decide) ?_
  refine oa6 X0.here hx hby d8_1 (l' := #[.val (.ref x), .val (.int 0), .unset, .unset]) rfl ?_
  refine oa X0.here hx hby d8_2 rfl ?_
  refine oa2 X0.here hx hby d8_3 rfl rfl ?_
  refine ob6 X0 hx hZ hown (oa0 hw 39 rfl) (oa0 hw 40 rfl) (notFace_of_selects (args := #[]) (mvT hZ (oa0 hw 42 rfl))) (oa0 hw 42 rfl) (oa0 hw 41 rfl) (oa0 hw 8 rfl) (oa0 hw 43 rfl) (by decide) (lenU_3 l Z a0 hw [] x t kb zc c0 c1 c2 h0 n0 Z0 E_x Fc_x Fv_x V_t S_C hz) 1 hml rfl (argsL := []) (st := [(.int 0)]) E_x (lenOf pd_11 rfl) rfl rfl e0 hby d8_4 ?_
  intro T5 v5 L5 X5 hQ5
  obtain ⟨rfl, Nq5, eh5⟩ := hQ5
  have N5 := Fr.app N0 Nq5
  refine oa5 (T := T5) 7 #[.val (.ref x), .val (.int 0), .unset, .unset] [(.int 3), (.int 0)] ?_
  refine oa7 X5.here hx hby d8_7 (tlt (show (0 : Int32) < (3 : Int32) from (by decide))).2.1 ?_
  refine oa2 X5.here hx hby d8_10 rfl rfl ?_
  refine oa X5.here hx hby d8_11 rfl ?_
  refine oa5 (T := T5) 12 #[.val (.ref x), .val (.int 0), .unset, .unset] [(.int 0), (.ref x)] ?_
  cases hp0 : od1 c0 c1
  · refine ob6 X5 hx hZ hown (oa0 hw 49 rfl) (oa0 hw 50 rfl) (notFace_of_selects (args := #[]) (mvT hZ (oa0 hw 52 rfl))) (oa0 hw 52 rfl) (oa0 hw 51 rfl) (oa0 hw 8 rfl) (oa0 hw 53 rfl) (by decide) (cpU_0_3_S l Z a0 hw [] x t kb zc fm c0 c1 c2 h0 n0 Z0 E_x Fc_x Fv_x V_t S_C hz S_FM hfm S_AD S_HI S_LO hp0 h0_c0 h1_c0 h0_c1 h1_c1) 0 hml rfl (argsL := [(.int 0)]) (st := []) E_x (lenOf pd_12 rfl) rfl rfl eh5 hby d8_12 ?_
    intro T6 v6 L6 X6 hQ6
    obtain ⟨rfl, Nq6, eh6⟩ := hQ6
    have N6 := Fr.app N5 Nq6
    refine oa5 (T := T6) 15 #[.val (.ref x), .val (.int 0), .unset, .unset] [(.int c0)] ?_
    refine oa6 X6.here hx hby d8_15 (l' := #[.val (.ref x), .val (.int 0), .val (.int c0), .unset]) rfl ?_
    refine oa5 (T := T6) 16 #[.val (.ref x), .val (.int 0), .val (.int c0), .unset] [] ?_
    have l16_0 : c0 < (65536 : Int32) := of9 c0 h1_c0
    refine og7 hw X6 hx hZ hown hby (.val (.ref x)) (.val (.int 0)) c0 l16_0 ?_
    refine oa X6.here hx hby d8_76 rfl ?_
    refine oa5 (T := T6) 77 #[.val (.ref x), .val (.int 0), .val (.int c0), .val (.int (ob0 c0))] [(.int (ob0 c0))] ?_
    by_cases hk0 : (ob0 c0) = (0 : Int32)
    · refine ob7 X6.here hx hby d8_77 ((if0 _ _).trans (teq hk0).2) ?_
      refine oa X6.here hx hby d8_80 rfl ?_
      refine oa9 X6 Bd.notSynchronized (v := some (.int 0)) (ob4 Bd.returns) (fun _ hr => retOut X6 hx Bd.returns rfl (Or.inl ⟨rfl, Or.inl rfl, _, rfl⟩) (hb hby d8_81) hr) eh6 (by decide) (by decide) ?_
      exact ⟨(od (by rw [od6, if_neg (oe4 hp0), if_pos hk0])), N6, rfl⟩
    · refine ob1 X6.here hx hby (pc' := 82) d8_77 ((if0 _ _).trans (feq hk0).2) (by decide) (by decide) ?_
      refine oa X6.here hx hby d8_82 rfl ?_
      refine oa X6.here hx hby d8_83 rfl ?_
      refine oa3 X6 hx hZ hown (oa0 hw 84 rfl) (oa0 hw 85 rfl) (oa0 hw 86 rfl) (oa0 hw 87 rfl) (by decide) (cc1 l Z a0 hw [] c0 h0 n0 Z0 l16_0) 1 hml rfl (argsL := [(.int c0)]) (st := [(.int 0)]) (lenOf pd_12 rfl) rfl rfl eh6 hby d8_84 ?_
      intro T7 v7 L7 X7 hQ7
      obtain ⟨rfl, Nq7, eh7⟩ := hQ7
      have N7 := Fr.app N6 Nq7
      refine oa5 (T := T7) 87 #[.val (.ref x), .val (.int 0), .val (.int c0), .val (.int (ob0 c0))] [(.int 1), (.int 0)] ?_
      refine oc8 X7.here hx hby d8_87 (v := (1 : Int32)) (by decide) ?_
      refine oa6 X7.here hx hby d8_88 (l' := #[.val (.ref x), .val (.int 1), .val (.int c0), .val (.int (ob0 c0))]) rfl ?_
      refine oc X7.here hx hby (pc' := 2) d8_89 (by decide) (by decide) ?_
      refine oa X7.here hx hby d8_2 rfl ?_
      refine oa2 X7.here hx hby d8_3 rfl rfl ?_
      refine ob6 X7 hx hZ hown (oa0 hw 39 rfl) (oa0 hw 40 rfl) (notFace_of_selects (args := #[]) (mvT hZ (oa0 hw 42 rfl))) (oa0 hw 42 rfl) (oa0 hw 41 rfl) (oa0 hw 8 rfl) (oa0 hw 43 rfl) (by decide) (lenU_3 l Z a0 hw [] x t kb zc c0 c1 c2 h0 n0 Z0 E_x Fc_x Fv_x V_t S_C hz) 1 hml rfl (argsL := []) (st := [(.int 1)]) E_x (lenOf pd_11 rfl) rfl rfl eh7 hby d8_4 ?_
      intro T8 v8 L8 X8 hQ8
      obtain ⟨rfl, Nq8, eh8⟩ := hQ8
      have N8 := Fr.app N7 Nq8
      refine oa5 (T := T8) 7 #[.val (.ref x), .val (.int 1), .val (.int c0), .val (.int (ob0 c0))] [(.int 3), (.int 1)] ?_
      refine oa7 X8.here hx hby d8_7 (tlt (show (1 : Int32) < (3 : Int32) from (by decide))).2.1 ?_
      refine oa2 X8.here hx hby d8_10 rfl rfl ?_
      refine oa X8.here hx hby d8_11 rfl ?_
      refine oa5 (T := T8) 12 #[.val (.ref x), .val (.int 1), .val (.int c0), .val (.int (ob0 c0))] [(.int 1), (.ref x)] ?_
      cases hp1 : od1 c1 c2
      · refine ob6 X8 hx hZ hown (oa0 hw 49 rfl) (oa0 hw 50 rfl) (notFace_of_selects (args := #[]) (mvT hZ (oa0 hw 52 rfl))) (oa0 hw 52 rfl) (oa0 hw 51 rfl) (oa0 hw 8 rfl) (oa0 hw 53 rfl) (by decide) (cpU_1_3_S l Z a0 hw [] x t kb zc fm c0 c1 c2 h0 n0 Z0 E_x Fc_x Fv_x V_t S_C hz S_FM hfm S_AD S_HI S_LO hp1 h0_c1 h1_c1 h0_c2 h1_c2) 0 hml rfl (argsL := [(.int 1)]) (st := []) E_x (lenOf pd_12 rfl) rfl rfl eh8 hby d8_12 ?_
        intro T9 v9 L9 X9 hQ9
        obtain ⟨rfl, Nq9, eh9⟩ := hQ9
        have N9 := Fr.app N8 Nq9
        refine oa5 (T := T9) 15 #[.val (.ref x), .val (.int 1), .val (.int c0), .val (.int (ob0 c0))] [(.int c1)] ?_
        refine oa6 X9.here hx hby d8_15 (l' := #[.val (.ref x), .val (.int 1), .val (.int c1), .val (.int (ob0 c0))]) rfl ?_
        refine oa5 (T := T9) 16 #[.val (.ref x), .val (.int 1), .val (.int c1), .val (.int (ob0 c0))] [] ?_
        have l16_1 : c1 < (65536 : Int32) := of9 c1 h1_c1
        refine og5 hw X9 hx hZ hown hby (.val (.ref x)) (.val (.int 1)) c1 (ob0 c0) l16_1 ?_
        refine oa X9.here hx hby d8_76 rfl ?_
        refine oa5 (T := T9) 77 #[.val (.ref x), .val (.int 1), .val (.int c1), .val (.int (ob0 c1))] [(.int (ob0 c1))] ?_
        by_cases hk1 : (ob0 c1) = (0 : Int32)
        · refine ob7 X9.here hx hby d8_77 ((if0 _ _).trans (teq hk1).2) ?_
          refine oa X9.here hx hby d8_80 rfl ?_
          refine oa9 X9 Bd.notSynchronized (v := some (.int 1)) (ob4 Bd.returns) (fun _ hr => retOut X9 hx Bd.returns rfl (Or.inl ⟨rfl, Or.inl rfl, _, rfl⟩) (hb hby d8_81) hr) eh9 (by decide) (by decide) ?_
          exact ⟨(od (by rw [od6, if_neg (oe4 hp0), if_neg hk0, od9, if_neg (oe4 hp1), if_pos hk1])), N9, rfl⟩
        · refine ob1 X9.here hx hby (pc' := 82) d8_77 ((if0 _ _).trans (feq hk1).2) (by decide) (by decide) ?_
          refine oa X9.here hx hby d8_82 rfl ?_
          refine oa X9.here hx hby d8_83 rfl ?_
          refine oa3 X9 hx hZ hown (oa0 hw 84 rfl) (oa0 hw 85 rfl) (oa0 hw 86 rfl) (oa0 hw 87 rfl) (by decide) (cc1 l Z a0 hw [] c1 h0 n0 Z0 l16_1) 1 hml rfl (argsL := [(.int c1)]) (st := [(.int 1)]) (lenOf pd_12 rfl) rfl rfl eh9 hby d8_84 ?_
          intro T10 v10 L10 X10 hQ10
          obtain ⟨rfl, Nq10, eh10⟩ := hQ10
          have N10 := Fr.app N9 Nq10
          refine oa5 (T := T10) 87 #[.val (.ref x), .val (.int 1), .val (.int c1), .val (.int (ob0 c1))] [(.int 1), (.int 1)] ?_
          refine oc8 X10.here hx hby d8_87 (v := (2 : Int32)) (by decide) ?_
          refine oa6 X10.here hx hby d8_88 (l' := #[.val (.ref x), .val (.int 2), .val (.int c1), .val (.int (ob0 c1))]) rfl ?_
          refine oc X10.here hx hby (pc' := 2) d8_89 (by decide) (by decide) ?_
          refine oa X10.here hx hby d8_2 rfl ?_
          refine oa2 X10.here hx hby d8_3 rfl rfl ?_
          refine ob6 X10 hx hZ hown (oa0 hw 39 rfl) (oa0 hw 40 rfl) (notFace_of_selects (args := #[]) (mvT hZ (oa0 hw 42 rfl))) (oa0 hw 42 rfl) (oa0 hw 41 rfl) (oa0 hw 8 rfl) (oa0 hw 43 rfl) (by decide) (lenU_3 l Z a0 hw [] x t kb zc c0 c1 c2 h0 n0 Z0 E_x Fc_x Fv_x V_t S_C hz) 1 hml rfl (argsL := []) (st := [(.int 2)]) E_x (lenOf pd_11 rfl) rfl rfl eh10 hby d8_4 ?_
          intro T11 v11 L11 X11 hQ11
          obtain ⟨rfl, Nq11, eh11⟩ := hQ11
          have N11 := Fr.app N10 Nq11
          refine oa5 (T := T11) 7 #[.val (.ref x), .val (.int 2), .val (.int c1), .val (.int (ob0 c1))] [(.int 3), (.int 2)] ?_
          refine oa7 X11.here hx hby d8_7 (tlt (show (2 : Int32) < (3 : Int32) from (by decide))).2.1 ?_
          refine oa2 X11.here hx hby d8_10 rfl rfl ?_
          refine oa X11.here hx hby d8_11 rfl ?_
          refine ob6 X11 hx hZ hown (oa0 hw 49 rfl) (oa0 hw 50 rfl) (notFace_of_selects (args := #[]) (mvT hZ (oa0 hw 52 rfl))) (oa0 hw 52 rfl) (oa0 hw 51 rfl) (oa0 hw 8 rfl) (oa0 hw 53 rfl) (by decide) (cpU_2_3_S l Z a0 hw [] x t kb zc fm c0 c1 c2 h0 n0 Z0 E_x Fc_x Fv_x V_t S_C hz S_FM hfm S_AD S_HI S_LO h0_c2 h1_c2) 0 hml rfl (argsL := [(.int 2)]) (st := []) E_x (lenOf pd_12 rfl) rfl rfl eh11 hby d8_12 ?_
          intro T12 v12 L12 X12 hQ12
          obtain ⟨rfl, Nq12, eh12⟩ := hQ12
          have N12 := Fr.app N11 Nq12
          refine oa5 (T := T12) 15 #[.val (.ref x), .val (.int 2), .val (.int c1), .val (.int (ob0 c1))] [(.int c2)] ?_
          refine oa6 X12.here hx hby d8_15 (l' := #[.val (.ref x), .val (.int 2), .val (.int c2), .val (.int (ob0 c1))]) rfl ?_
          refine oa5 (T := T12) 16 #[.val (.ref x), .val (.int 2), .val (.int c2), .val (.int (ob0 c1))] [] ?_
          have l16_2 : c2 < (65536 : Int32) := of9 c2 h1_c2
          refine og5 hw X12 hx hZ hown hby (.val (.ref x)) (.val (.int 2)) c2 (ob0 c1) l16_2 ?_
          refine oa X12.here hx hby d8_76 rfl ?_
          refine oa5 (T := T12) 77 #[.val (.ref x), .val (.int 2), .val (.int c2), .val (.int (ob0 c2))] [(.int (ob0 c2))] ?_
          by_cases hk2 : (ob0 c2) = (0 : Int32)
          · refine ob7 X12.here hx hby d8_77 ((if0 _ _).trans (teq hk2).2) ?_
            refine oa X12.here hx hby d8_80 rfl ?_
            refine oa9 X12 Bd.notSynchronized (v := some (.int 2)) (ob4 Bd.returns) (fun _ hr => retOut X12 hx Bd.returns rfl (Or.inl ⟨rfl, Or.inl rfl, _, rfl⟩) (hb hby d8_81) hr) eh12 (by decide) (by decide) ?_
            exact ⟨(od (by rw [od6, if_neg (oe4 hp0), if_neg hk0, od9, if_neg (oe4 hp1), if_neg hk1, oe0, if_pos hk2])), N12, rfl⟩
          · refine ob1 X12.here hx hby (pc' := 82) d8_77 ((if0 _ _).trans (feq hk2).2) (by decide) (by decide) ?_
            refine oa X12.here hx hby d8_82 rfl ?_
            refine oa X12.here hx hby d8_83 rfl ?_
            refine oa3 X12 hx hZ hown (oa0 hw 84 rfl) (oa0 hw 85 rfl) (oa0 hw 86 rfl) (oa0 hw 87 rfl) (by decide) (cc1 l Z a0 hw [] c2 h0 n0 Z0 l16_2) 1 hml rfl (argsL := [(.int c2)]) (st := [(.int 2)]) (lenOf pd_12 rfl) rfl rfl eh12 hby d8_84 ?_
            intro T13 v13 L13 X13 hQ13
            obtain ⟨rfl, Nq13, eh13⟩ := hQ13
            have N13 := Fr.app N12 Nq13
            refine oa5 (T := T13) 87 #[.val (.ref x), .val (.int 2), .val (.int c2), .val (.int (ob0 c2))] [(.int 1), (.int 2)] ?_
            refine oc8 X13.here hx hby d8_87 (v := (3 : Int32)) (by decide) ?_
            refine oa6 X13.here hx hby d8_88 (l' := #[.val (.ref x), .val (.int 3), .val (.int c2), .val (.int (ob0 c2))]) rfl ?_
            refine oc X13.here hx hby (pc' := 2) d8_89 (by decide) (by decide) ?_
            refine oa X13.here hx hby d8_2 rfl ?_
            refine oa2 X13.here hx hby d8_3 rfl rfl ?_
            refine ob6 X13 hx hZ hown (oa0 hw 39 rfl) (oa0 hw 40 rfl) (notFace_of_selects (args := #[]) (mvT hZ (oa0 hw 42 rfl))) (oa0 hw 42 rfl) (oa0 hw 41 rfl) (oa0 hw 8 rfl) (oa0 hw 43 rfl) (by decide) (lenU_3 l Z a0 hw [] x t kb zc c0 c1 c2 h0 n0 Z0 E_x Fc_x Fv_x V_t S_C hz) 1 hml rfl (argsL := []) (st := [(.int 3)]) E_x (lenOf pd_11 rfl) rfl rfl eh13 hby d8_4 ?_
            intro T14 v14 L14 X14 hQ14
            obtain ⟨rfl, Nq14, eh14⟩ := hQ14
            have N14 := Fr.app N13 Nq14
            refine oa5 (T := T14) 7 #[.val (.ref x), .val (.int 3), .val (.int c2), .val (.int (ob0 c2))] [(.int 3), (.int 3)] ?_
            refine ob2 X14.here hx hby (pc' := 92) d8_7 (flt (show ¬ ((3 : Int32) < (3 : Int32)) from (by decide))).2.1 (by decide) (by decide) ?_
            refine oa4 X14.here hx hby d8_92 (v := (-1 : Int32)) (by decide) ?_
            refine oa9 X14 Bd.notSynchronized (v := some (.int (-1))) (ob4 Bd.returns) (fun _ hr => retOut X14 hx Bd.returns rfl (Or.inl ⟨rfl, Or.inl rfl, _, rfl⟩) (hb hby d8_93) hr) eh14 (by decide) (by decide) ?_
            exact ⟨(od (by rw [od6, if_neg (oe4 hp0), if_neg hk0, od9, if_neg (oe4 hp1), if_neg hk1, oe0, if_neg hk2])), N14, rfl⟩
      · refine ob6 X8 hx hZ hown (oa0 hw 49 rfl) (oa0 hw 50 rfl) (notFace_of_selects (args := #[]) (mvT hZ (oa0 hw 52 rfl))) (oa0 hw 52 rfl) (oa0 hw 51 rfl) (oa0 hw 8 rfl) (oa0 hw 53 rfl) (by decide) (cpU_1_3_P l Z a0 hw [] x t kb zc fm c0 c1 c2 h0 n0 Z0 E_x Fc_x Fv_x V_t S_C hz S_FM hfm S_AD S_HI S_LO hp1 h0_c1 h1_c1 h0_c2 h1_c2) 0 hml rfl (argsL := [(.int 1)]) (st := []) E_x (lenOf pd_12 rfl) rfl rfl eh8 hby d8_12 ?_
        intro T15 v15 L15 X15 hQ15
        obtain ⟨rfl, Nq15, eh15⟩ := hQ15
        have N15 := Fr.app N8 Nq15
        refine oa5 (T := T15) 15 #[.val (.ref x), .val (.int 1), .val (.int c0), .val (.int (ob0 c0))] [(.int (oc5 c1 c2))] ?_
        refine oa6 X15.here hx hby d8_15 (l' := #[.val (.ref x), .val (.int 1), .val (.int (oc5 c1 c2)), .val (.int (ob0 c0))]) rfl ?_
        refine oa5 (T := T15) 16 #[.val (.ref x), .val (.int 1), .val (.int (oc5 c1 c2)), .val (.int (ob0 c0))] [] ?_
        obtain ⟨q1_0, q1_1, q1_2, q1_3, q1_4, q1_5, q1_6, q1_7, q1_8⟩ := own_tcpN hp1
        refine oa X15.here hx hby d8_16 rfl ?_
        refine od4 X15.here hx hby d8_17 (v := (9 : Int32)) (by decide) ?_
        refine oa7 X15.here hx hby d8_19 (feq q1_0).1 ?_
        refine oa X15.here hx hby d8_22 rfl ?_
        refine od4 X15.here hx hby d8_23 (v := (10 : Int32)) (by decide) ?_
        refine oa7 X15.here hx hby d8_25 (feq q1_1).1 ?_
        refine oa X15.here hx hby d8_28 rfl ?_
        refine od4 X15.here hx hby d8_29 (v := (13 : Int32)) (by decide) ?_
        refine oa7 X15.here hx hby d8_31 (feq q1_2).1 ?_
        refine oa X15.here hx hby d8_34 rfl ?_
        refine od4 X15.here hx hby d8_35 (v := (32 : Int32)) (by decide) ?_
        refine oa7 X15.here hx hby d8_37 (flt q1_3).1 ?_
        refine oa X15.here hx hby d8_40 rfl ?_
        refine oc1 X15 hx hZ hown (oa0 hw 83 rfl) hby d8_41 ?_
        refine oa7 X15.here hx hby d8_43 (tlt q1_4).2.2.2 ?_
        refine oa X15.here hx hby d8_46 rfl ?_
        refine oc1 X15 hx hZ hown (oa0 hw 67 rfl) hby d8_47 ?_
        refine oa7 X15.here hx hby d8_49 (flt q1_5).1 ?_
        refine oa X15.here hx hby d8_52 rfl ?_
        refine oc1 X15 hx hZ hown (oa0 hw 124 rfl) hby d8_53 ?_
        refine oa7 X15.here hx hby d8_55 (tlt q1_6).2.2.2 ?_
        refine oa X15.here hx hby d8_58 rfl ?_
        refine oc1 X15 hx hZ hown (oa0 hw 68 rfl) hby d8_59 ?_
        refine oa7 X15.here hx hby d8_61 (flt q1_7).1 ?_
        refine oa X15.here hx hby d8_64 rfl ?_
        refine oc1 X15 hx hZ hown (oa0 hw 138 rfl) hby d8_65 ?_
        refine oa7 X15.here hx hby d8_67 (flt q1_8).2.2.1 ?_
        refine oa4 X15.here hx hby d8_70 (v := (1 : Int32)) (by decide) ?_
        refine oc X15.here hx hby (pc' := 75) d8_71 (by decide) (by decide) ?_
        refine oa6 X15.here hx hby d8_75 (l' := #[.val (.ref x), .val (.int 1), .val (.int (oc5 c1 c2)), .val (.int 1)]) rfl ?_
        refine oa X15.here hx hby d8_76 rfl ?_
        refine ob1 X15.here hx hby (pc' := 82) d8_77 ((if0 _ _).trans (feq (show ¬ ((1 : Int32) = (0 : Int32)) from (by decide))).2) (by decide) (by decide) ?_
        refine oa X15.here hx hby d8_82 rfl ?_
        refine oa X15.here hx hby d8_83 rfl ?_
        refine oa3 X15 hx hZ hown (oa0 hw 84 rfl) (oa0 hw 85 rfl) (oa0 hw 86 rfl) (oa0 hw 87 rfl) (by decide) (cc2 l Z a0 hw [] (oc5 c1 c2) h0 n0 Z0 q1_7) 1 hml rfl (argsL := [(.int (oc5 c1 c2))]) (st := [(.int 1)]) (lenOf pd_12 rfl) rfl rfl eh15 hby d8_84 ?_
        intro T16 v16 L16 X16 hQ16
        obtain ⟨rfl, Nq16, eh16⟩ := hQ16
        have N16 := Fr.app N15 Nq16
        refine oa5 (T := T16) 87 #[.val (.ref x), .val (.int 1), .val (.int (oc5 c1 c2)), .val (.int 1)] [(.int 2), (.int 1)] ?_
        refine oc8 X16.here hx hby d8_87 (v := (3 : Int32)) (by decide) ?_
        refine oa6 X16.here hx hby d8_88 (l' := #[.val (.ref x), .val (.int 3), .val (.int (oc5 c1 c2)), .val (.int 1)]) rfl ?_
        refine oc X16.here hx hby (pc' := 2) d8_89 (by decide) (by decide) ?_
        refine oa X16.here hx hby d8_2 rfl ?_
        refine oa2 X16.here hx hby d8_3 rfl rfl ?_
        refine ob6 X16 hx hZ hown (oa0 hw 39 rfl) (oa0 hw 40 rfl) (notFace_of_selects (args := #[]) (mvT hZ (oa0 hw 42 rfl))) (oa0 hw 42 rfl) (oa0 hw 41 rfl) (oa0 hw 8 rfl) (oa0 hw 43 rfl) (by decide) (lenU_3 l Z a0 hw [] x t kb zc c0 c1 c2 h0 n0 Z0 E_x Fc_x Fv_x V_t S_C hz) 1 hml rfl (argsL := []) (st := [(.int 3)]) E_x (lenOf pd_11 rfl) rfl rfl eh16 hby d8_4 ?_
        intro T17 v17 L17 X17 hQ17
        obtain ⟨rfl, Nq17, eh17⟩ := hQ17
        have N17 := Fr.app N16 Nq17
        refine oa5 (T := T17) 7 #[.val (.ref x), .val (.int 3), .val (.int (oc5 c1 c2)), .val (.int 1)] [(.int 3), (.int 3)] ?_
        refine ob2 X17.here hx hby (pc' := 92) d8_7 (flt (show ¬ ((3 : Int32) < (3 : Int32)) from (by decide))).2.1 (by decide) (by decide) ?_
        refine oa4 X17.here hx hby d8_92 (v := (-1 : Int32)) (by decide) ?_
        refine oa9 X17 Bd.notSynchronized (v := some (.int (-1))) (ob4 Bd.returns) (fun _ hr => retOut X17 hx Bd.returns rfl (Or.inl ⟨rfl, Or.inl rfl, _, rfl⟩) (hb hby d8_93) hr) eh17 (by decide) (by decide) ?_
        exact ⟨(od (by rw [od6, if_neg (oe4 hp0), if_neg hk0, od9, if_pos hp1])), N17, rfl⟩
  · refine ob6 X5 hx hZ hown (oa0 hw 49 rfl) (oa0 hw 50 rfl) (notFace_of_selects (args := #[]) (mvT hZ (oa0 hw 52 rfl))) (oa0 hw 52 rfl) (oa0 hw 51 rfl) (oa0 hw 8 rfl) (oa0 hw 53 rfl) (by decide) (cpU_0_3_P l Z a0 hw [] x t kb zc fm c0 c1 c2 h0 n0 Z0 E_x Fc_x Fv_x V_t S_C hz S_FM hfm S_AD S_HI S_LO hp0 h0_c0 h1_c0 h0_c1 h1_c1) 0 hml rfl (argsL := [(.int 0)]) (st := []) E_x (lenOf pd_12 rfl) rfl rfl eh5 hby d8_12 ?_
    intro T18 v18 L18 X18 hQ18
    obtain ⟨rfl, Nq18, eh18⟩ := hQ18
    have N18 := Fr.app N5 Nq18
    refine oa5 (T := T18) 15 #[.val (.ref x), .val (.int 0), .unset, .unset] [(.int (oc5 c0 c1))] ?_
    refine oa6 X18.here hx hby d8_15 (l' := #[.val (.ref x), .val (.int 0), .val (.int (oc5 c0 c1)), .unset]) rfl ?_
    refine oa5 (T := T18) 16 #[.val (.ref x), .val (.int 0), .val (.int (oc5 c0 c1)), .unset] [] ?_
    obtain ⟨q0_0, q0_1, q0_2, q0_3, q0_4, q0_5, q0_6, q0_7, q0_8⟩ := own_tcpN hp0
    refine oa X18.here hx hby d8_16 rfl ?_
    refine od4 X18.here hx hby d8_17 (v := (9 : Int32)) (by decide) ?_
    refine oa7 X18.here hx hby d8_19 (feq q0_0).1 ?_
    refine oa X18.here hx hby d8_22 rfl ?_
    refine od4 X18.here hx hby d8_23 (v := (10 : Int32)) (by decide) ?_
    refine oa7 X18.here hx hby d8_25 (feq q0_1).1 ?_
    refine oa X18.here hx hby d8_28 rfl ?_
    refine od4 X18.here hx hby d8_29 (v := (13 : Int32)) (by decide) ?_
    refine oa7 X18.here hx hby d8_31 (feq q0_2).1 ?_
    refine oa X18.here hx hby d8_34 rfl ?_
    refine od4 X18.here hx hby d8_35 (v := (32 : Int32)) (by decide) ?_
    refine oa7 X18.here hx hby d8_37 (flt q0_3).1 ?_
    refine oa X18.here hx hby d8_40 rfl ?_
    refine oc1 X18 hx hZ hown (oa0 hw 83 rfl) hby d8_41 ?_
    refine oa7 X18.here hx hby d8_43 (tlt q0_4).2.2.2 ?_
    refine oa X18.here hx hby d8_46 rfl ?_
    refine oc1 X18 hx hZ hown (oa0 hw 67 rfl) hby d8_47 ?_
    refine oa7 X18.here hx hby d8_49 (flt q0_5).1 ?_
    refine oa X18.here hx hby d8_52 rfl ?_
    refine oc1 X18 hx hZ hown (oa0 hw 124 rfl) hby d8_53 ?_
    refine oa7 X18.here hx hby d8_55 (tlt q0_6).2.2.2 ?_
    refine oa X18.here hx hby d8_58 rfl ?_
    refine oc1 X18 hx hZ hown (oa0 hw 68 rfl) hby d8_59 ?_
    refine oa7 X18.here hx hby d8_61 (flt q0_7).1 ?_
    refine oa X18.here hx hby d8_64 rfl ?_
    refine oc1 X18 hx hZ hown (oa0 hw 138 rfl) hby d8_65 ?_
    refine oa7 X18.here hx hby d8_67 (flt q0_8).2.2.1 ?_
    refine oa4 X18.here hx hby d8_70 (v := (1 : Int32)) (by decide) ?_
    refine oc X18.here hx hby (pc' := 75) d8_71 (by decide) (by decide) ?_
    refine oa6 X18.here hx hby d8_75 (l' := #[.val (.ref x), .val (.int 0), .val (.int (oc5 c0 c1)), .val (.int 1)]) rfl ?_
    refine oa X18.here hx hby d8_76 rfl ?_
    refine ob1 X18.here hx hby (pc' := 82) d8_77 ((if0 _ _).trans (feq (show ¬ ((1 : Int32) = (0 : Int32)) from (by decide))).2) (by decide) (by decide) ?_
    refine oa X18.here hx hby d8_82 rfl ?_
    refine oa X18.here hx hby d8_83 rfl ?_
    refine oa3 X18 hx hZ hown (oa0 hw 84 rfl) (oa0 hw 85 rfl) (oa0 hw 86 rfl) (oa0 hw 87 rfl) (by decide) (cc2 l Z a0 hw [] (oc5 c0 c1) h0 n0 Z0 q0_7) 1 hml rfl (argsL := [(.int (oc5 c0 c1))]) (st := [(.int 0)]) (lenOf pd_12 rfl) rfl rfl eh18 hby d8_84 ?_
    intro T19 v19 L19 X19 hQ19
    obtain ⟨rfl, Nq19, eh19⟩ := hQ19
    have N19 := Fr.app N18 Nq19
    refine oa5 (T := T19) 87 #[.val (.ref x), .val (.int 0), .val (.int (oc5 c0 c1)), .val (.int 1)] [(.int 2), (.int 0)] ?_
    refine oc8 X19.here hx hby d8_87 (v := (2 : Int32)) (by decide) ?_
    refine oa6 X19.here hx hby d8_88 (l' := #[.val (.ref x), .val (.int 2), .val (.int (oc5 c0 c1)), .val (.int 1)]) rfl ?_
    refine oc X19.here hx hby (pc' := 2) d8_89 (by decide) (by decide) ?_
    refine oa X19.here hx hby d8_2 rfl ?_
    refine oa2 X19.here hx hby d8_3 rfl rfl ?_
    refine ob6 X19 hx hZ hown (oa0 hw 39 rfl) (oa0 hw 40 rfl) (notFace_of_selects (args := #[]) (mvT hZ (oa0 hw 42 rfl))) (oa0 hw 42 rfl) (oa0 hw 41 rfl) (oa0 hw 8 rfl) (oa0 hw 43 rfl) (by decide) (lenU_3 l Z a0 hw [] x t kb zc c0 c1 c2 h0 n0 Z0 E_x Fc_x Fv_x V_t S_C hz) 1 hml rfl (argsL := []) (st := [(.int 2)]) E_x (lenOf pd_11 rfl) rfl rfl eh19 hby d8_4 ?_
    intro T20 v20 L20 X20 hQ20
    obtain ⟨rfl, Nq20, eh20⟩ := hQ20
    have N20 := Fr.app N19 Nq20
    refine oa5 (T := T20) 7 #[.val (.ref x), .val (.int 2), .val (.int (oc5 c0 c1)), .val (.int 1)] [(.int 3), (.int 2)] ?_
    refine oa7 X20.here hx hby d8_7 (tlt (show (2 : Int32) < (3 : Int32) from (by decide))).2.1 ?_
    refine oa2 X20.here hx hby d8_10 rfl rfl ?_
    refine oa X20.here hx hby d8_11 rfl ?_
    refine ob6 X20 hx hZ hown (oa0 hw 49 rfl) (oa0 hw 50 rfl) (notFace_of_selects (args := #[]) (mvT hZ (oa0 hw 52 rfl))) (oa0 hw 52 rfl) (oa0 hw 51 rfl) (oa0 hw 8 rfl) (oa0 hw 53 rfl) (by decide) (cpU_2_3_S l Z a0 hw [] x t kb zc fm c0 c1 c2 h0 n0 Z0 E_x Fc_x Fv_x V_t S_C hz S_FM hfm S_AD S_HI S_LO h0_c2 h1_c2) 0 hml rfl (argsL := [(.int 2)]) (st := []) E_x (lenOf pd_12 rfl) rfl rfl eh20 hby d8_12 ?_
    intro T21 v21 L21 X21 hQ21
    obtain ⟨rfl, Nq21, eh21⟩ := hQ21
    have N21 := Fr.app N20 Nq21
    refine oa5 (T := T21) 15 #[.val (.ref x), .val (.int 2), .val (.int (oc5 c0 c1)), .val (.int 1)] [(.int c2)] ?_
    refine oa6 X21.here hx hby d8_15 (l' := #[.val (.ref x), .val (.int 2), .val (.int c2), .val (.int 1)]) rfl ?_
    refine oa5 (T := T21) 16 #[.val (.ref x), .val (.int 2), .val (.int c2), .val (.int 1)] [] ?_
    have l16_2 : c2 < (65536 : Int32) := of9 c2 h1_c2
    refine og5 hw X21 hx hZ hown hby (.val (.ref x)) (.val (.int 2)) c2 (1 : Int32) l16_2 ?_
    refine oa X21.here hx hby d8_76 rfl ?_
    refine oa5 (T := T21) 77 #[.val (.ref x), .val (.int 2), .val (.int c2), .val (.int (ob0 c2))] [(.int (ob0 c2))] ?_
    by_cases hk2 : (ob0 c2) = (0 : Int32)
    · refine ob7 X21.here hx hby d8_77 ((if0 _ _).trans (teq hk2).2) ?_
      refine oa X21.here hx hby d8_80 rfl ?_
      refine oa9 X21 Bd.notSynchronized (v := some (.int 2)) (ob4 Bd.returns) (fun _ hr => retOut X21 hx Bd.returns rfl (Or.inl ⟨rfl, Or.inl rfl, _, rfl⟩) (hb hby d8_81) hr) eh21 (by decide) (by decide) ?_
      exact ⟨(od (by rw [od6, if_pos hp0, oe0, if_pos hk2])), N21, rfl⟩
    · refine ob1 X21.here hx hby (pc' := 82) d8_77 ((if0 _ _).trans (feq hk2).2) (by decide) (by decide) ?_
      refine oa X21.here hx hby d8_82 rfl ?_
      refine oa X21.here hx hby d8_83 rfl ?_
      refine oa3 X21 hx hZ hown (oa0 hw 84 rfl) (oa0 hw 85 rfl) (oa0 hw 86 rfl) (oa0 hw 87 rfl) (by decide) (cc1 l Z a0 hw [] c2 h0 n0 Z0 l16_2) 1 hml rfl (argsL := [(.int c2)]) (st := [(.int 2)]) (lenOf pd_12 rfl) rfl rfl eh21 hby d8_84 ?_
      intro T22 v22 L22 X22 hQ22
      obtain ⟨rfl, Nq22, eh22⟩ := hQ22
      have N22 := Fr.app N21 Nq22
      refine oa5 (T := T22) 87 #[.val (.ref x), .val (.int 2), .val (.int c2), .val (.int (ob0 c2))] [(.int 1), (.int 2)] ?_
      refine oc8 X22.here hx hby d8_87 (v := (3 : Int32)) (by decide) ?_
      refine oa6 X22.here hx hby d8_88 (l' := #[.val (.ref x), .val (.int 3), .val (.int c2), .val (.int (ob0 c2))]) rfl ?_
      refine oc X22.here hx hby (pc' := 2) d8_89 (by decide) (by decide) ?_
      refine oa X22.here hx hby d8_2 rfl ?_
      refine oa2 X22.here hx hby d8_3 rfl rfl ?_
      refine ob6 X22 hx hZ hown (oa0 hw 39 rfl) (oa0 hw 40 rfl) (notFace_of_selects (args := #[]) (mvT hZ (oa0 hw 42 rfl))) (oa0 hw 42 rfl) (oa0 hw 41 rfl) (oa0 hw 8 rfl) (oa0 hw 43 rfl) (by decide) (lenU_3 l Z a0 hw [] x t kb zc c0 c1 c2 h0 n0 Z0 E_x Fc_x Fv_x V_t S_C hz) 1 hml rfl (argsL := []) (st := [(.int 3)]) E_x (lenOf pd_11 rfl) rfl rfl eh22 hby d8_4 ?_
      intro T23 v23 L23 X23 hQ23
      obtain ⟨rfl, Nq23, eh23⟩ := hQ23
      have N23 := Fr.app N22 Nq23
      refine oa5 (T := T23) 7 #[.val (.ref x), .val (.int 3), .val (.int c2), .val (.int (ob0 c2))] [(.int 3), (.int 3)] ?_
      refine ob2 X23.here hx hby (pc' := 92) d8_7 (flt (show ¬ ((3 : Int32) < (3 : Int32)) from (by decide))).2.1 (by decide) (by decide) ?_
      refine oa4 X23.here hx hby d8_92 (v := (-1 : Int32)) (by decide) ?_
      refine oa9 X23 Bd.notSynchronized (v := some (.int (-1))) (ob4 Bd.returns) (fun _ hr => retOut X23 hx Bd.returns rfl (Or.inl ⟨rfl, Or.inl rfl, _, rfl⟩) (hb hby d8_93) hr) eh23 (by decide) (by decide) ?_
      exact ⟨(od (by rw [od6, if_pos hp0, oe0, if_neg hk2])), N23, rfl⟩
theorem ef_nbLen_1 (m : MethodId) (x0 : Int32) : entryFrame m #[(.int x0)] 1 = mkF m 0 #[.val (.int x0)] [] := by first | (simp [entryFrame, mkF, argsToLocals, Value.category]; done) | rfl
theorem pn_22 : plainName "java/lang/StringUTF16" = true := by first | (simp [plainName, overriddenIn]; done) | decide +kernel
theorem d22_0 : decode jdk_52_method_3_code 0 = .ok (.iload_n 0, 1) := by decide +kernel
theorem d22_1 : decode jdk_52_method_3_code 1 = .ok (.ifCond .ge 11, 3) := by decide +kernel
theorem d22_12 : decode jdk_52_method_3_code 12 = .ok (.iload_n 0, 1) := by decide +kernel
theorem d22_13 : decode jdk_52_method_3_code 13 = .ok (.ldc 20, 2) := by decide +kernel
theorem d22_15 : decode jdk_52_method_3_code 15 = .ok (.if_icmp .lt 40, 3) := by decide +kernel
theorem d22_55 : decode jdk_52_method_3_code 55 = .ok (.iload_n 0, 1) := by decide +kernel
theorem d22_56 : decode jdk_52_method_3_code 56 = .ok (.iconst 1, 1) := by decide +kernel
theorem d22_57 : decode jdk_52_method_3_code 57 = .ok (.ishl, 1) := by decide +kernel
theorem d22_58 : decode jdk_52_method_3_code 58 = .ok (.ireturn, 1) := by decide +kernel
def Q_nbLen_1 (Z : State)  (h0 : Heap) (n0 : Nat) (vR : Option Value) (hR : Heap) (LR : List Loc) : Prop := vR = some (.int 2) ∧ Fr n0 LR ∧ hR = h0
theorem nbLen_1 (l : Launch) (Z : State) (a0 : Array Value) (hw : ∀ d ∈ tables_1, d.before a0 Z = true) (ws : List Jvm.Cond)  (h0 : Heap) (n0 : Nat) (Z0 : n0 ≤ h0.size)  :
    oc2 l (⟨"java/lang/StringUTF16", "newBytesLength", "(I)I"⟩ : MethodName) jdk_52_method_3_code 1 (some .int) ws ({ frames := 0, cells := 0, slots := 0, locals := 0 } : Room) Z #[(.int 1)] h0 (Q_nbLen_1 Z  h0 n0) := by
  refine ob3 (own := "java/lang/StringUTF16") rfl (plainFor_of_name pn_22) (fun m => ef_nbLen_1 m (1 : Int32)) ?_
  intro p e s m below meth c s₁ Bd hml hZ hh hx hby hown X0 e0
  have N0 := Fr.nil n0
  refine oa X0.here hx hby d22_0 rfl ?_
  refine ob1 X0.here hx hby (pc' := 12) d22_1 ((if0 _ _).trans (flt (show ¬ ((1 : Int32) < (0 : Int32)) from (by decide))).2.1) (by decide) (by decide) ?_
  refine oa X0.here hx hby d22_12 rfl ?_
  refine oc1 X0 hx hZ hown (oa0 hw 102 rfl) hby d22_13 ?_
  refine ob2 X0.here hx hby (pc' := 55) d22_15 (tlt (show (1 : Int32) < (1073741823 : Int32) from (by decide))).1 (by decide) (by decide) ?_
  refine oa X0.here hx hby d22_55 rfl ?_
  refine oa4 X0.here hx hby d22_56 (v := (1 : Int32)) (by decide) ?_
  refine oe1 X0.here hx hby d22_57 (v := (2 : Int32)) (by decide) ?_
  refine oa9 X0 Bd.notSynchronized (v := some (.int 2)) (ob4 Bd.returns) (fun _ hr => retOut X0 hx Bd.returns rfl (Or.inl ⟨rfl, Or.inl rfl, _, rfl⟩) (hb hby d22_58) hr) e0 (by decide) (by decide) ?_
  exact ⟨rfl, N0, rfl⟩
def Q_nbLen_2 (Z : State)  (h0 : Heap) (n0 : Nat) (vR : Option Value) (hR : Heap) (LR : List Loc) : Prop := vR = some (.int 4) ∧ Fr n0 LR ∧ hR = h0
theorem nbLen_2 (l : Launch) (Z : State) (a0 : Array Value) (hw : ∀ d ∈ tables_1, d.before a0 Z = true) (ws : List Jvm.Cond)  (h0 : Heap) (n0 : Nat) (Z0 : n0 ≤ h0.size)  :
    oc2 l (⟨"java/lang/StringUTF16", "newBytesLength", "(I)I"⟩ : MethodName) jdk_52_method_3_code 1 (some .int) ws ({ frames := 0, cells := 0, slots := 0, locals := 0 } : Room) Z #[(.int 2)] h0 (Q_nbLen_2 Z  h0 n0) := by
  refine ob3 (own := "java/lang/StringUTF16") rfl (plainFor_of_name pn_22) (fun m => ef_nbLen_1 m (2 : Int32)) ?_
  intro p e s m below meth c s₁ Bd hml hZ hh hx hby hown X0 e0
  have N0 := Fr.nil n0
  refine oa X0.here hx hby d22_0 rfl ?_
  refine ob1 X0.here hx hby (pc' := 12) d22_1 ((if0 _ _).trans (flt (show ¬ ((2 : Int32) < (0 : Int32)) from (by decide))).2.1) (by decide) (by decide) ?_
  refine oa X0.here hx hby d22_12 rfl ?_
  refine oc1 X0 hx hZ hown (oa0 hw 102 rfl) hby d22_13 ?_
  refine ob2 X0.here hx hby (pc' := 55) d22_15 (tlt (show (2 : Int32) < (1073741823 : Int32) from (by decide))).1 (by decide) (by decide) ?_
  refine oa X0.here hx hby d22_55 rfl ?_
  refine oa4 X0.here hx hby d22_56 (v := (1 : Int32)) (by decide) ?_
  refine oe1 X0.here hx hby d22_57 (v := (4 : Int32)) (by decide) ?_
  refine oa9 X0 Bd.notSynchronized (v := some (.int 4)) (ob4 Bd.returns) (fun _ hr => retOut X0 hx Bd.returns rfl (Or.inl ⟨rfl, Or.inl rfl, _, rfl⟩) (hb hby d22_58) hr) e0 (by decide) (by decide) ?_
  exact ⟨rfl, N0, rfl⟩
def Q_nbLen_3 (Z : State)  (h0 : Heap) (n0 : Nat) (vR : Option Value) (hR : Heap) (LR : List Loc) : Prop := vR = some (.int 6) ∧ Fr n0 LR ∧ hR = h0
theorem nbLen_3 (l : Launch) (Z : State) (a0 : Array Value) (hw : ∀ d ∈ tables_1, d.before a0 Z = true) (ws : List Jvm.Cond)  (h0 : Heap) (n0 : Nat) (Z0 : n0 ≤ h0.size)  :
    oc2 l (⟨"java/lang/StringUTF16", "newBytesLength", "(I)I"⟩ : MethodName) jdk_52_method_3_code 1 (some .int) ws ({ frames := 0, cells := 0, slots := 0, locals := 0 } : Room) Z #[(.int 3)] h0 (Q_nbLen_3 Z  h0 n0) := by
  refine ob3 (own := "java/lang/StringUTF16") rfl (plainFor_of_name pn_22) (fun m => ef_nbLen_1 m (3 : Int32)) ?_
  intro p e s m below meth c s₁ Bd hml hZ hh hx hby hown X0 e0
  have N0 := Fr.nil n0
  refine oa X0.here hx hby d22_0 rfl ?_
  refine ob1 X0.here hx hby (pc' := 12) d22_1 ((if0 _ _).trans (flt (show ¬ ((3 : Int32) < (0 : Int32)) from (by decide))).2.1) (by decide) (by decide) ?_
  refine oa X0.here hx hby d22_12 rfl ?_
  refine oc1 X0 hx hZ hown (oa0 hw 102 rfl) hby d22_13 ?_
  refine ob2 X0.here hx hby (pc' := 55) d22_15 (tlt (show (3 : Int32) < (1073741823 : Int32) from (by decide))).1 (by decide) (by decide) ?_
  refine oa X0.here hx hby d22_55 rfl ?_
  refine oa4 X0.here hx hby d22_56 (v := (1 : Int32)) (by decide) ?_
  refine oe1 X0.here hx hby d22_57 (v := (6 : Int32)) (by decide) ?_
  refine oa9 X0 Bd.notSynchronized (v := some (.int 6)) (ob4 Bd.returns) (fun _ hr => retOut X0 hx Bd.returns rfl (Or.inl ⟨rfl, Or.inl rfl, _, rfl⟩) (hb hby d22_58) hr) e0 (by decide) (by decide) ?_
  exact ⟨rfl, N0, rfl⟩
theorem ef_nbFor_1 (m : MethodId) (x0 : Int32) : entryFrame m #[(.int x0)] 1 = mkF m 0 #[.val (.int x0)] [] := by first | (simp [entryFrame, mkF, argsToLocals, Value.category]; done) | rfl
theorem pn_21 : plainName "java/lang/StringUTF16" = true := by first | (simp [plainName, overriddenIn]; done) | decide +kernel
theorem d21_0 : decode jdk_52_method_2_code 0 = .ok (.iload_n 0, 1) := by decide +kernel
theorem d21_1 : decode jdk_52_method_2_code 1 = .ok (.invokestatic 11, 3) := by decide +kernel
theorem d21_4 : decode jdk_52_method_2_code 4 = .ok (.newarray .byte, 2) := by decide +kernel
theorem d21_6 : decode jdk_52_method_2_code 6 = .ok (.areturn, 1) := by decide +kernel
def Q_nbFor_1 (Z : State)  (h0 : Heap) (n0 : Nat) (vR : Option Value) (hR : Heap) (LR : List Loc) : Prop := ∃ (t : Nat) (kb : ClassId), vR = some (.ref t) ∧ Fr n0 LR ∧ Keep h0 hR [] ∧ h0.size ≤ t ∧ (Arv Z hR t kb .byte (2 : Int32) [(.int 0), (.int 0)] (.int 0))
theorem nbFor_1 (l : Launch) (Z : State) (a0 : Array Value) (hw : ∀ d ∈ tables_1, d.before a0 Z = true) (ws : List Jvm.Cond)  (h0 : Heap) (n0 : Nat) (Z0 : n0 ≤ h0.size)  :
    oc2 l (⟨"java/lang/StringUTF16", "newBytesFor", "(I)[B"⟩ : MethodName) jdk_52_method_2_code 1 (some (.array .byte)) ws ({ frames := 1, cells := 1, slots := 2, locals := 12 } : Room) Z #[(.int 1)] h0 (Q_nbFor_1 Z  h0 n0) := by
  refine ob3 (own := "java/lang/StringUTF16") rfl (plainFor_of_name pn_21) (fun m => ef_nbFor_1 m (1 : Int32)) ?_
  intro p e s m below meth c s₁ Bd hml hZ hh hx hby hown X0 e0
  have N0 := Fr.nil n0
  refine oa X0.here hx hby d21_0 rfl ?_
  refine oa3 X0 hx hZ hown (oa0 hw 99 rfl) (oa0 hw 100 rfl) (oa0 hw 22 rfl) (oa0 hw 101 rfl) (by decide) (nbLen_1 l Z a0 hw []  h0 n0 Z0 ) 0 hml rfl (argsL := [(.int 1)]) (st := []) (lenOf pd_12 rfl) rfl rfl e0 hby d21_1 ?_
  intro T1 v1 L1 X1 hQ1
  obtain ⟨rfl, Nq1, eh1⟩ := hQ1
  have N1 := Fr.app N0 Nq1
  refine oa5 (T := T1) 4 #[.val (.int 1)] [(.int 2)] ?_
  refine of3 X1 hx hZ (aty := .byte) (oa0 hw 24 rfl) eh1 hby d21_4 (by decide) 2 (by decide) (by decide) (by decide) (by decide) (ad := "[B") (by decide) ?_
  intro T2 h2 k2 b2 X2 e2 E2 g2 V2 C2 lt2
  have z3 : h0.size ≤ h2.size := E2.1
  have V4 : Arv Z h2 b2 k2 .byte (2 : Int32) [(.int 0), (.int 0)] (.int 0) := V2.pad (pad_rep [] (.int 0) 2)
  have K5 : Keep h0 h2 [] := ((Keep.refl h0 []).ext E2)
  refine oa9 X2 Bd.notSynchronized (v := some (.ref b2)) (ob4 Bd.returns) (fun _ hr => retOut X2 hx Bd.returns rfl (Or.inr (Or.inr (Or.inr (Or.inr ⟨rfl, rfl, rfl⟩)))) (hb hby d21_6) hr) e2 (by decide) (by decide) ?_
  exact ⟨b2, k2, rfl, N1, K5, (by omega), V4⟩
def Q_nbFor_2 (Z : State)  (h0 : Heap) (n0 : Nat) (vR : Option Value) (hR : Heap) (LR : List Loc) : Prop := ∃ (t : Nat) (kb : ClassId), vR = some (.ref t) ∧ Fr n0 LR ∧ Keep h0 hR [] ∧ h0.size ≤ t ∧ (Arv Z hR t kb .byte (4 : Int32) [(.int 0), (.int 0), (.int 0), (.int 0)] (.int 0))
theorem nbFor_2 (l : Launch) (Z : State) (a0 : Array Value) (hw : ∀ d ∈ tables_1, d.before a0 Z = true) (ws : List Jvm.Cond)  (h0 : Heap) (n0 : Nat) (Z0 : n0 ≤ h0.size)  :
    oc2 l (⟨"java/lang/StringUTF16", "newBytesFor", "(I)[B"⟩ : MethodName) jdk_52_method_2_code 1 (some (.array .byte)) ws ({ frames := 1, cells := 1, slots := 4, locals := 12 } : Room) Z #[(.int 2)] h0 (Q_nbFor_2 Z  h0 n0) := by
  refine ob3 (own := "java/lang/StringUTF16") rfl (plainFor_of_name pn_21) (fun m => ef_nbFor_1 m (2 : Int32)) ?_
  intro p e s m below meth c s₁ Bd hml hZ hh hx hby hown X0 e0
  have N0 := Fr.nil n0
  refine oa X0.here hx hby d21_0 rfl ?_
  refine oa3 X0 hx hZ hown (oa0 hw 99 rfl) (oa0 hw 100 rfl) (oa0 hw 22 rfl) (oa0 hw 101 rfl) (by decide) (nbLen_2 l Z a0 hw []  h0 n0 Z0 ) 0 hml rfl (argsL := [(.int 2)]) (st := []) (lenOf pd_12 rfl) rfl rfl e0 hby d21_1 ?_
  intro T1 v1 L1 X1 hQ1
  obtain ⟨rfl, Nq1, eh1⟩ := hQ1
  have N1 := Fr.app N0 Nq1
  refine oa5 (T := T1) 4 #[.val (.int 2)] [(.int 4)] ?_
  refine of3 X1 hx hZ (aty := .byte) (oa0 hw 24 rfl) eh1 hby d21_4 (by decide) 4 (by decide) (by decide) (by decide) (by decide) (ad := "[B") (by decide) ?_
  intro T2 h2 k2 b2 X2 e2 E2 g2 V2 C2 lt2
  have z3 : h0.size ≤ h2.size := E2.1
  have V4 : Arv Z h2 b2 k2 .byte (4 : Int32) [(.int 0), (.int 0), (.int 0), (.int 0)] (.int 0) := V2.pad (pad_rep [] (.int 0) 4)
  have K5 : Keep h0 h2 [] := ((Keep.refl h0 []).ext E2)
  refine oa9 X2 Bd.notSynchronized (v := some (.ref b2)) (ob4 Bd.returns) (fun _ hr => retOut X2 hx Bd.returns rfl (Or.inr (Or.inr (Or.inr (Or.inr ⟨rfl, rfl, rfl⟩)))) (hb hby d21_6) hr) e2 (by decide) (by decide) ?_
  exact ⟨b2, k2, rfl, N1, K5, (by omega), V4⟩
def Q_nbFor_3 (Z : State)  (h0 : Heap) (n0 : Nat) (vR : Option Value) (hR : Heap) (LR : List Loc) : Prop := ∃ (t : Nat) (kb : ClassId), vR = some (.ref t) ∧ Fr n0 LR ∧ Keep h0 hR [] ∧ h0.size ≤ t ∧ (Arv Z hR t kb .byte (6 : Int32) [(.int 0), (.int 0), (.int 0), (.int 0), (.int 0), (.int 0)] (.int 0))
theorem nbFor_3 (l : Launch) (Z : State) (a0 : Array Value) (hw : ∀ d ∈ tables_1, d.before a0 Z = true) (ws : List Jvm.Cond)  (h0 : Heap) (n0 : Nat) (Z0 : n0 ≤ h0.size)  :
    oc2 l (⟨"java/lang/StringUTF16", "newBytesFor", "(I)[B"⟩ : MethodName) jdk_52_method_2_code 1 (some (.array .byte)) ws ({ frames := 1, cells := 1, slots := 6, locals := 12 } : Room) Z #[(.int 3)] h0 (Q_nbFor_3 Z  h0 n0) := by
  refine ob3 (own := "java/lang/StringUTF16") rfl (plainFor_of_name pn_21) (fun m => ef_nbFor_1 m (3 : Int32)) ?_
  intro p e s m below meth c s₁ Bd hml hZ hh hx hby hown X0 e0
  have N0 := Fr.nil n0
  refine oa X0.here hx hby d21_0 rfl ?_
  refine oa3 X0 hx hZ hown (oa0 hw 99 rfl) (oa0 hw 100 rfl) (oa0 hw 22 rfl) (oa0 hw 101 rfl) (by decide) (nbLen_3 l Z a0 hw []  h0 n0 Z0 ) 0 hml rfl (argsL := [(.int 3)]) (st := []) (lenOf pd_12 rfl) rfl rfl e0 hby d21_1 ?_
  intro T1 v1 L1 X1 hQ1
  obtain ⟨rfl, Nq1, eh1⟩ := hQ1
  have N1 := Fr.app N0 Nq1
  refine oa5 (T := T1) 4 #[.val (.int 3)] [(.int 6)] ?_
  refine of3 X1 hx hZ (aty := .byte) (oa0 hw 24 rfl) eh1 hby d21_4 (by decide) 6 (by decide) (by decide) (by decide) (by decide) (ad := "[B") (by decide) ?_
  intro T2 h2 k2 b2 X2 e2 E2 g2 V2 C2 lt2
  have z3 : h0.size ≤ h2.size := E2.1
  have V4 : Arv Z h2 b2 k2 .byte (6 : Int32) [(.int 0), (.int 0), (.int 0), (.int 0), (.int 0), (.int 0)] (.int 0) := V2.pad (pad_rep [] (.int 0) 6)
  have K5 : Keep h0 h2 [] := ((Keep.refl h0 []).ext E2)
  refine oa9 X2 Bd.notSynchronized (v := some (.ref b2)) (ob4 Bd.returns) (fun _ hr => retOut X2 hx Bd.returns rfl (Or.inr (Or.inr (Or.inr (Or.inr ⟨rfl, rfl, rfl⟩)))) (hb hby d21_6) hr) e2 (by decide) (by decide) ?_
  exact ⟨b2, k2, rfl, N1, K5, (by omega), V4⟩
theorem ef_putCh_0_1 (m : MethodId) (x0 : Nat) (x1 : Int32) (x2 : Int32) : entryFrame m #[(.ref x0), (.int x1), (.int x2)] 3 = mkF m 0 #[.val (.ref x0), .val (.int x1), .val (.int x2)] [] := by first | (simp [entryFrame, mkF, argsToLocals, Value.category]; done) | rfl
theorem pn_23 : plainName "java/lang/StringUTF16" = true := by first | (simp [plainName, overriddenIn]; done) | decide +kernel
theorem d23_0 : decode jdk_52_method_4_code 0 = .ok (.getstatic 44, 3) := by decide +kernel
theorem d23_3 : decode jdk_52_method_4_code 3 = .ok (.ifCond .ne 25, 3) := by decide +kernel
theorem d23_28 : decode jdk_52_method_4_code 28 = .ok (.iload_n 1, 1) := by decide +kernel
theorem d23_29 : decode jdk_52_method_4_code 29 = .ok (.iconst 1, 1) := by decide +kernel
theorem d23_30 : decode jdk_52_method_4_code 30 = .ok (.ishl, 1) := by decide +kernel
theorem d23_31 : decode jdk_52_method_4_code 31 = .ok (.istore_n 1, 1) := by decide +kernel
theorem d23_32 : decode jdk_52_method_4_code 32 = .ok (.aload_n 0, 1) := by decide +kernel
theorem d23_33 : decode jdk_52_method_4_code 33 = .ok (.iload_n 1, 1) := by decide +kernel
theorem d23_34 : decode jdk_52_method_4_code 34 = .ok (.iinc 1 1, 3) := by decide +kernel
theorem d23_37 : decode jdk_52_method_4_code 37 = .ok (.iload_n 2, 1) := by decide +kernel
theorem d23_38 : decode jdk_52_method_4_code 38 = .ok (.getstatic 59, 3) := by decide +kernel
theorem d23_41 : decode jdk_52_method_4_code 41 = .ok (.ishr, 1) := by decide +kernel
theorem d23_42 : decode jdk_52_method_4_code 42 = .ok (.i2b, 1) := by decide +kernel
theorem d23_43 : decode jdk_52_method_4_code 43 = .ok (.bastore, 1) := by decide +kernel
theorem d23_44 : decode jdk_52_method_4_code 44 = .ok (.aload_n 0, 1) := by decide +kernel
theorem d23_45 : decode jdk_52_method_4_code 45 = .ok (.iload_n 1, 1) := by decide +kernel
theorem d23_46 : decode jdk_52_method_4_code 46 = .ok (.iload_n 2, 1) := by decide +kernel
theorem d23_47 : decode jdk_52_method_4_code 47 = .ok (.getstatic 63, 3) := by decide +kernel
theorem d23_50 : decode jdk_52_method_4_code 50 = .ok (.ishr, 1) := by decide +kernel
theorem d23_51 : decode jdk_52_method_4_code 51 = .ok (.i2b, 1) := by decide +kernel
theorem d23_52 : decode jdk_52_method_4_code 52 = .ok (.bastore, 1) := by decide +kernel
theorem d23_53 : decode jdk_52_method_4_code 53 = .ok (.return_, 1) := by decide +kernel
def Q_putCh_0_1 (Z : State) (t : Nat) (kb : ClassId) (c0 : Int32) (h0 : Heap) (n0 : Nat) (vR : Option Value) (hR : Heap) (LR : List Loc) : Prop := vR = none ∧ Fr n0 LR ∧ Keep h0 hR [t] ∧ (Arv Z hR t kb .byte (2 : Int32) [(.int ((c0 >>> ((0 : Int32) &&& 31)).toInt8.toInt32)), (.int ((c0 >>> ((8 : Int32) &&& 31)).toInt8.toInt32))] (.int 0))
theorem putCh_0_1 (l : Launch) (Z : State) (a0 : Array Value) (hw : ∀ d ∈ tables_1, d.before a0 Z = true) (ws : List Jvm.Cond) (t : Nat) (kb : ClassId) (c0 : Int32) (h0 : Heap) (n0 : Nat) (Z0 : n0 ≤ h0.size) (V_t : Arv Z h0 t kb .byte (2 : Int32) [(.int 0), (.int 0)] (.int 0)) (g_t : n0 ≤ t) (S_AD : Sta Z h0 "java/lang/StringUTF16" "$assertionsDisabled" "Z" (.int 1)) (S_HI : Sta Z h0 "java/lang/StringUTF16" "HI_BYTE_SHIFT" "I" (.int 0)) (S_LO : Sta Z h0 "java/lang/StringUTF16" "LO_BYTE_SHIFT" "I" (.int 8)) :
    oc2 l (⟨"java/lang/StringUTF16", "putChar", "([BII)V"⟩ : MethodName) jdk_52_method_4_code 3 none ws ({ frames := 0, cells := 0, slots := 0, locals := 0 } : Room) Z #[(.ref t), (.int 0), (.int c0)] h0 (Q_putCh_0_1 Z t kb c0 h0 n0) := by
  refine ob3 (own := "java/lang/StringUTF16") rfl (plainFor_of_name pn_23) (fun m => ef_putCh_0_1 m t (0 : Int32) c0) ?_
  intro p e s m below meth c s₁ Bd hml hZ hh hx hby hown X0 e0
  have N0 := Fr.nil n0
  have lt1 : h0.size > t := V_t.lt
  refine oc3 X0 hx hZ hown (host := "") (Or.inl (oa0 hw 106 rfl)) Via.refl e0 S_AD hby d23_0 ?_
  intro T2 X2 e2
  refine ob1 X2.here hx hby (pc' := 28) d23_3 ((if0 _ _).trans (feq (show ¬ ((1 : Int32) = (0 : Int32)) from (by decide))).2) (by decide) (by decide) ?_
  refine oa X2.here hx hby d23_28 rfl ?_
  refine oa4 X2.here hx hby d23_29 (v := (1 : Int32)) (by decide) ?_
  refine oe1 X2.here hx hby d23_30 (v := (0 : Int32)) (by decide) ?_
  refine oa6 X2.here hx hby d23_31 (l' := #[.val (.ref t), .val (.int 0), .val (.int c0)]) rfl ?_
  refine oa2 X2.here hx hby d23_32 rfl rfl ?_
  refine oa X2.here hx hby d23_33 rfl ?_
  refine od2 X2.here hx hby d23_34 rfl (v := (1 : Int32)) (by decide) (l' := #[.val (.ref t), .val (.int 1), .val (.int c0)]) rfl ?_
  refine oa X2.here hx hby d23_37 rfl ?_
  refine oc3 X2 hx hZ hown (host := "") (Or.inl (oa0 hw 107 rfl)) Via.refl e2 S_HI hby d23_38 ?_
  intro T3 X3 e3
  refine oe2 X3.here hx hby d23_41 rfl ?_
  refine of5 X3.here hx hby d23_42 rfl ?_
  refine oe6 X3 hx hZ e3 V_t ⟨by decide, by decide⟩ 0 (by decide) (Nat.le_of_ble_eq_true rfl) (w := (.int ((c0 >>> ((0 : Int32) &&& 31)).toInt8.toInt32))) (congrArg Value.int (of4 (c0 >>> ((0 : Int32) &&& 31)))) hby d23_43 N0 g_t ?_
  intro T4 h4 lo4 X4 e4 N4 W4 V4 z4
  have V5 : Arv Z h4 t kb .byte (2 : Int32) [(.int ((c0 >>> ((0 : Int32) &&& 31)).toInt8.toInt32)), (.int 0)] (.int 0) := V4
  refine oa2 X4.here hx hby d23_44 rfl rfl ?_
  refine oa X4.here hx hby d23_45 rfl ?_
  refine oa X4.here hx hby d23_46 rfl ?_
  have f6 := (S_LO.wr W4)
  refine oc3 X4 hx hZ hown (host := "") (Or.inl (oa0 hw 108 rfl)) Via.refl e4 f6 hby d23_47 ?_
  intro T7 X7 e7
  refine oe2 X7.here hx hby d23_50 rfl ?_
  refine of5 X7.here hx hby d23_51 rfl ?_
  refine oe6 X7 hx hZ e7 V5 ⟨by decide, by decide⟩ 1 (by decide) (Nat.le_of_ble_eq_true rfl) (w := (.int ((c0 >>> ((8 : Int32) &&& 31)).toInt8.toInt32))) (congrArg Value.int (of4 (c0 >>> ((8 : Int32) &&& 31)))) hby d23_52 N4 g_t ?_
  intro T8 h8 lo8 X8 e8 N8 W8 V8 z8
  have V9 : Arv Z h8 t kb .byte (2 : Int32) [(.int ((c0 >>> ((0 : Int32) &&& 31)).toInt8.toInt32)), (.int ((c0 >>> ((8 : Int32) &&& 31)).toInt8.toInt32))] (.int 0) := V8
  have K10 : Keep h0 h8 [t] := (((Keep.refl h0 [t]).wr W4 (Or.inl (List.mem_of_getElem? (i := 0) rfl))).wr W8 (Or.inl (List.mem_of_getElem? (i := 0) rfl)))
  refine oa9 X8 Bd.notSynchronized (v := none) (fun _ => rfl) (fun _ hr => X8.returnOut hx Bd.returns (hb hby d23_53) hr) e8 (by decide) (by decide) ?_
  exact ⟨rfl, N8, K10, V9⟩
theorem ef_toB_1 (m : MethodId) (x0 : Nat) (x1 : Int32) (x2 : Int32) : entryFrame m #[(.ref x0), (.int x1), (.int x2)] 5 = mkF m 0 #[.val (.ref x0), .val (.int x1), .val (.int x2), .unset, .unset] [] := by first | (simp [entryFrame, mkF, argsToLocals, Value.category]; done) | rfl
theorem pn_20 : plainName "java/lang/StringUTF16" = true := by first | (simp [plainName, overriddenIn]; done) | decide +kernel
theorem d20_0 : decode jdk_52_method_14_code 0 = .ok (.iload_n 2, 1) := by decide +kernel
theorem d20_1 : decode jdk_52_method_14_code 1 = .ok (.invokestatic 107, 3) := by decide +kernel
theorem pd_13 : parseMethodDescriptor "(I)[B" = some ⟨[.int], some (.array .byte)⟩ := by decide +kernel
theorem d20_4 : decode jdk_52_method_14_code 4 = .ok (.astore_n 3, 1) := by decide +kernel
theorem d20_5 : decode jdk_52_method_14_code 5 = .ok (.iconst 0, 1) := by decide +kernel
theorem d20_6 : decode jdk_52_method_14_code 6 = .ok (.istore 4, 2) := by decide +kernel
theorem d20_8 : decode jdk_52_method_14_code 8 = .ok (.iload 4, 2) := by decide +kernel
theorem d20_10 : decode jdk_52_method_14_code 10 = .ok (.iload_n 2, 1) := by decide +kernel
theorem d20_11 : decode jdk_52_method_14_code 11 = .ok (.if_icmp .ge 21, 3) := by decide +kernel
theorem d20_14 : decode jdk_52_method_14_code 14 = .ok (.aload_n 3, 1) := by decide +kernel
theorem d20_15 : decode jdk_52_method_14_code 15 = .ok (.iload 4, 2) := by decide +kernel
theorem d20_17 : decode jdk_52_method_14_code 17 = .ok (.aload_n 0, 1) := by decide +kernel
theorem d20_18 : decode jdk_52_method_14_code 18 = .ok (.iload_n 1, 1) := by decide +kernel
theorem d20_19 : decode jdk_52_method_14_code 19 = .ok (.caload, 1) := by decide +kernel
theorem d20_20 : decode jdk_52_method_14_code 20 = .ok (.invokestatic 111, 3) := by decide +kernel
theorem pd_14 : parseMethodDescriptor "([BII)V" = some ⟨[(.array .byte), .int, .int], none⟩ := by decide +kernel
theorem d20_23 : decode jdk_52_method_14_code 23 = .ok (.iinc 1 1, 3) := by decide +kernel
theorem d20_26 : decode jdk_52_method_14_code 26 = .ok (.iinc 4 1, 3) := by decide +kernel
theorem d20_29 : decode jdk_52_method_14_code 29 = .ok (.goto (-21), 3) := by decide +kernel
theorem d20_32 : decode jdk_52_method_14_code 32 = .ok (.aload_n 3, 1) := by decide +kernel
theorem d20_33 : decode jdk_52_method_14_code 33 = .ok (.areturn, 1) := by decide +kernel
def Q_toB_1 (Z : State) (b : Nat) (kC : ClassId) (c0 : Int32) (h0 : Heap) (n0 : Nat) (vR : Option Value) (hR : Heap) (LR : List Loc) : Prop := ∃ (t : Nat) (kb : ClassId), vR = some (.ref t) ∧ Fr n0 LR ∧ Keep h0 hR [] ∧ h0.size ≤ t ∧ (Arv Z hR t kb .byte (2 : Int32) [(.int ((c0 >>> ((0 : Int32) &&& 31)).toInt8.toInt32)), (.int ((c0 >>> ((8 : Int32) &&& 31)).toInt8.toInt32))] (.int 0))
theorem toB_1 (l : Launch) (Z : State) (a0 : Array Value) (hw : ∀ d ∈ tables_1, d.before a0 Z = true) (ws : List Jvm.Cond) (b : Nat) (kC : ClassId) (c0 : Int32) (h0 : Heap) (n0 : Nat) (Z0 : n0 ≤ h0.size) (V_b : Arv Z h0 b kC .char (1 : Int32) [(.int c0)] (.int 0)) (S_AD : Sta Z h0 "java/lang/StringUTF16" "$assertionsDisabled" "Z" (.int 1)) (S_HI : Sta Z h0 "java/lang/StringUTF16" "HI_BYTE_SHIFT" "I" (.int 0)) (S_LO : Sta Z h0 "java/lang/StringUTF16" "LO_BYTE_SHIFT" "I" (.int 8)) :
    oc2 l (⟨"java/lang/StringUTF16", "toBytes", "([CII)[B"⟩ : MethodName) jdk_52_method_14_code 5 (some (.array .byte)) ws ({ frames := 2, cells := 1, slots := 2, locals := 24 } : Room) Z #[(.ref b), (.int 0), (.int 1)] h0 (Q_toB_1 Z b kC c0 h0 n0) := by
  refine ob3 (own := "java/lang/StringUTF16") rfl (plainFor_of_name pn_20) (fun m => ef_toB_1 m b (0 : Int32) (1 : Int32)) ?_
  intro p e s m below meth c s₁ Bd hml hZ hh hx hby hown X0 e0
  have N0 := Fr.nil n0
  have lt1 : h0.size > b := V_b.lt
  refine oa X0.here hx hby d20_0 rfl ?_
  refine oa3 X0 hx hZ hown (oa0 hw 96 rfl) (oa0 hw 97 rfl) (oa0 hw 22 rfl) (oa0 hw 98 rfl) (by decide) (nbFor_1 l Z a0 hw []  h0 n0 Z0 ) 0 hml rfl (argsL := [(.int 1)]) (st := []) (lenOf pd_13 rfl) rfl rfl e0 hby d20_1 ?_
  intro T2 v2 L2 X2 hQ2
  obtain ⟨t_2, kb_2, rfl, Nq2, K2, P2_0, P2_1⟩ := hQ2
  have N2 := Fr.app N0 Nq2
  have z3 : h0.size ≤ T2.heap.size := K2.1
  have lt4 : T2.heap.size > t_2 := P2_1.lt
  refine oa5 (T := T2) 4 #[.val (.ref b), .val (.int 0), .val (.int 1), .unset, .unset] [(.ref t_2)] ?_
  refine of8 X2.here hx hby d20_4 rfl (l' := #[.val (.ref b), .val (.int 0), .val (.int 1), .val (.ref t_2), .unset]) rfl ?_
  refine oa4 X2.here hx hby d20_5 (v := (0 : Int32)) (by decide) ?_
  refine ob8 X2.here hx hby d20_6 (l' := #[.val (.ref b), .val (.int 0), .val (.int 1), .val (.ref t_2), .val (.int 0)]) rfl ?_
  refine oa8 X2.here hx hby d20_8 rfl ?_
  refine oa X2.here hx hby d20_10 rfl ?_
  refine oa7 X2.here hx hby d20_11 (tlt (show (0 : Int32) < (1 : Int32) from (by decide))).2.1 ?_
  refine oa2 X2.here hx hby d20_14 rfl rfl ?_
  refine oa8 X2.here hx hby d20_15 rfl ?_
  refine oa2 X2.here hx hby d20_17 rfl rfl ?_
  refine oa X2.here hx hby d20_18 rfl ?_
  have f5 := (V_b.keep K2 nin0)
  refine oc6 X2 hx hZ rfl f5 ⟨by decide, by decide⟩ (v := (.int c0)) rfl hby d20_19 ?_
  have f6 := (ob S_AD K2 all0)
  have f7 := (ob S_HI K2 all0)
  have f8 := (ob S_LO K2 all0)
  have z10 : n0 ≤ T2.heap.size := by omega
  refine oa3 X2 hx hZ hown (oa0 hw 103 rfl) (oa0 hw 104 rfl) (oa0 hw 22 rfl) (oa0 hw 105 rfl) (by decide) (putCh_0_1 l Z a0 hw [] t_2 kb_2 c0 T2.heap n0 z10 P2_1 (by omega) f6 f7 f8) 0 hml rfl (argsL := [(.ref t_2), (.int 0), (.int c0)]) (st := []) (lenOf pd_14 rfl) rfl rfl rfl hby d20_20 ?_
  intro T9 v9 L9 X9 hQ9
  obtain ⟨rfl, Nq9, K9, P9_0⟩ := hQ9
  have N9 := Fr.app N2 Nq9
  have z11 : T2.heap.size ≤ T9.heap.size := K9.1
  have lt12 : T9.heap.size > t_2 := P9_0.lt
  refine oa5 (T := T9) 23 #[.val (.ref b), .val (.int 0), .val (.int 1), .val (.ref t_2), .val (.int 0)] [] ?_
  refine od2 X9.here hx hby d20_23 rfl (v := (1 : Int32)) (by decide) (l' := #[.val (.ref b), .val (.int 1), .val (.int 1), .val (.ref t_2), .val (.int 0)]) rfl ?_
  refine od2 X9.here hx hby d20_26 rfl (v := (1 : Int32)) (by decide) (l' := #[.val (.ref b), .val (.int 1), .val (.int 1), .val (.ref t_2), .val (.int 1)]) rfl ?_
  refine oc X9.here hx hby (pc' := 8) d20_29 (by decide) (by decide) ?_
  refine oa8 X9.here hx hby d20_8 rfl ?_
  refine oa X9.here hx hby d20_10 rfl ?_
  refine ob2 X9.here hx hby (pc' := 32) d20_11 (flt (show ¬ ((1 : Int32) < (1 : Int32)) from (by decide))).2.1 (by decide) (by decide) ?_
  refine oa2 X9.here hx hby d20_32 rfl rfl ?_
  have K13 : Keep h0 T9.heap [] := (((Keep.refl h0 []).trans K2 all0).trans K9 (allS (P := fun xq_ => xq_ ∈ [] ∨ h0.size ≤ xq_) (Or.inr (by omega)) all0))
  refine oa9 X9 Bd.notSynchronized (v := some (.ref t_2)) (ob4 Bd.returns) (fun _ hr => retOut X9 hx Bd.returns rfl (Or.inr (Or.inr (Or.inr (Or.inr ⟨rfl, rfl, rfl⟩)))) (hb hby d20_33) hr) rfl (by decide) (by decide) ?_
  exact ⟨t_2, kb_2, rfl, N9, K13, (by omega), P9_0⟩
def Q_putCh_0_2 (Z : State) (t : Nat) (kb : ClassId) (c0 : Int32) (h0 : Heap) (n0 : Nat) (vR : Option Value) (hR : Heap) (LR : List Loc) : Prop := vR = none ∧ Fr n0 LR ∧ Keep h0 hR [t] ∧ (Arv Z hR t kb .byte (4 : Int32) [(.int ((c0 >>> ((0 : Int32) &&& 31)).toInt8.toInt32)), (.int ((c0 >>> ((8 : Int32) &&& 31)).toInt8.toInt32)), (.int 0), (.int 0)] (.int 0))
theorem putCh_0_2 (l : Launch) (Z : State) (a0 : Array Value) (hw : ∀ d ∈ tables_1, d.before a0 Z = true) (ws : List Jvm.Cond) (t : Nat) (kb : ClassId) (c0 : Int32) (h0 : Heap) (n0 : Nat) (Z0 : n0 ≤ h0.size) (V_t : Arv Z h0 t kb .byte (4 : Int32) [(.int 0), (.int 0), (.int 0), (.int 0)] (.int 0)) (g_t : n0 ≤ t) (S_AD : Sta Z h0 "java/lang/StringUTF16" "$assertionsDisabled" "Z" (.int 1)) (S_HI : Sta Z h0 "java/lang/StringUTF16" "HI_BYTE_SHIFT" "I" (.int 0)) (S_LO : Sta Z h0 "java/lang/StringUTF16" "LO_BYTE_SHIFT" "I" (.int 8)) :
    oc2 l (⟨"java/lang/StringUTF16", "putChar", "([BII)V"⟩ : MethodName) jdk_52_method_4_code 3 none ws ({ frames := 0, cells := 0, slots := 0, locals := 0 } : Room) Z #[(.ref t), (.int 0), (.int c0)] h0 (Q_putCh_0_2 Z t kb c0 h0 n0) := by
  refine ob3 (own := "java/lang/StringUTF16") rfl (plainFor_of_name pn_23) (fun m => ef_putCh_0_1 m t (0 : Int32) c0) ?_
  intro p e s m below meth c s₁ Bd hml hZ hh hx hby hown X0 e0
  have N0 := Fr.nil n0
  have lt1 : h0.size > t := V_t.lt
  refine oc3 X0 hx hZ hown (host := "") (Or.inl (oa0 hw 106 rfl)) Via.refl e0 S_AD hby d23_0 ?_
  intro T2 X2 e2
  refine ob1 X2.here hx hby (pc' := 28) d23_3 ((if0 _ _).trans (feq (show ¬ ((1 : Int32) = (0 : Int32)) from (by decide))).2) (by decide) (by decide) ?_
  refine oa X2.here hx hby d23_28 rfl ?_
  refine oa4 X2.here hx hby d23_29 (v := (1 : Int32)) (by decide) ?_
  refine oe1 X2.here hx hby d23_30 (v := (0 : Int32)) (by decide) ?_
  refine oa6 X2.here hx hby d23_31 (l' := #[.val (.ref t), .val (.int 0), .val (.int c0)]) rfl ?_
  refine oa2 X2.here hx hby d23_32 rfl rfl ?_
  refine oa X2.here hx hby d23_33 rfl ?_
  refine od2 X2.here hx hby d23_34 rfl (v := (1 : Int32)) (by decide) (l' := #[.val (.ref t), .val (.int 1), .val (.int c0)]) rfl ?_
  refine oa X2.here hx hby d23_37 rfl ?_
  refine oc3 X2 hx hZ hown (host := "") (Or.inl (oa0 hw 107 rfl)) Via.refl e2 S_HI hby d23_38 ?_
  intro T3 X3 e3
  refine oe2 X3.here hx hby d23_41 rfl ?_
  refine of5 X3.here hx hby d23_42 rfl ?_
  refine oe6 X3 hx hZ e3 V_t ⟨by decide, by decide⟩ 0 (by decide) (Nat.le_of_ble_eq_true rfl) (w := (.int ((c0 >>> ((0 : Int32) &&& 31)).toInt8.toInt32))) (congrArg Value.int (of4 (c0 >>> ((0 : Int32) &&& 31)))) hby d23_43 N0 g_t ?_
  intro T4 h4 lo4 X4 e4 N4 W4 V4 z4
  have V5 : Arv Z h4 t kb .byte (4 : Int32) [(.int ((c0 >>> ((0 : Int32) &&& 31)).toInt8.toInt32)), (.int 0), (.int 0), (.int 0)] (.int 0) := V4
  refine oa2 X4.here hx hby d23_44 rfl rfl ?_
  refine oa X4.here hx hby d23_45 rfl ?_
  refine oa X4.here hx hby d23_46 rfl ?_
  have f6 := (S_LO.wr W4)
  refine oc3 X4 hx hZ hown (host := "") (Or.inl (oa0 hw 108 rfl)) Via.refl e4 f6 hby d23_47 ?_
  intro T7 X7 e7
  refine oe2 X7.here hx hby d23_50 rfl ?_
  refine of5 X7.here hx hby d23_51 rfl ?_
  refine oe6 X7 hx hZ e7 V5 ⟨by decide, by decide⟩ 1 (by decide) (Nat.le_of_ble_eq_true rfl) (w := (.int ((c0 >>> ((8 : Int32) &&& 31)).toInt8.toInt32))) (congrArg Value.int (of4 (c0 >>> ((8 : Int32) &&& 31)))) hby d23_52 N4 g_t ?_
  intro T8 h8 lo8 X8 e8 N8 W8 V8 z8
  have V9 : Arv Z h8 t kb .byte (4 : Int32) [(.int ((c0 >>> ((0 : Int32) &&& 31)).toInt8.toInt32)), (.int ((c0 >>> ((8 : Int32) &&& 31)).toInt8.toInt32)), (.int 0), (.int 0)] (.int 0) := V8
  have K10 : Keep h0 h8 [t] := (((Keep.refl h0 [t]).wr W4 (Or.inl (List.mem_of_getElem? (i := 0) rfl))).wr W8 (Or.inl (List.mem_of_getElem? (i := 0) rfl)))
  refine oa9 X8 Bd.notSynchronized (v := none) (fun _ => rfl) (fun _ hr => X8.returnOut hx Bd.returns (hb hby d23_53) hr) e8 (by decide) (by decide) ?_
  exact ⟨rfl, N8, K10, V9⟩
def Q_putCh_1_2 (Z : State) (t : Nat) (kb : ClassId) (c0 : Int32) (c1 : Int32) (h0 : Heap) (n0 : Nat) (vR : Option Value) (hR : Heap) (LR : List Loc) : Prop := vR = none ∧ Fr n0 LR ∧ Keep h0 hR [t] ∧ (Arv Z hR t kb .byte (4 : Int32) [(.int ((c0 >>> ((0 : Int32) &&& 31)).toInt8.toInt32)), (.int ((c0 >>> ((8 : Int32) &&& 31)).toInt8.toInt32)), (.int ((c1 >>> ((0 : Int32) &&& 31)).toInt8.toInt32)), (.int ((c1 >>> ((8 : Int32) &&& 31)).toInt8.toInt32))] (.int 0))
theorem putCh_1_2 (l : Launch) (Z : State) (a0 : Array Value) (hw : ∀ d ∈ tables_1, d.before a0 Z = true) (ws : List Jvm.Cond) (t : Nat) (kb : ClassId) (c0 : Int32) (c1 : Int32) (h0 : Heap) (n0 : Nat) (Z0 : n0 ≤ h0.size) (V_t : Arv Z h0 t kb .byte (4 : Int32) [(.int ((c0 >>> ((0 : Int32) &&& 31)).toInt8.toInt32)), (.int ((c0 >>> ((8 : Int32) &&& 31)).toInt8.toInt32)), (.int 0), (.int 0)] (.int 0)) (g_t : n0 ≤ t) (S_AD : Sta Z h0 "java/lang/StringUTF16" "$assertionsDisabled" "Z" (.int 1)) (S_HI : Sta Z h0 "java/lang/StringUTF16" "HI_BYTE_SHIFT" "I" (.int 0)) (S_LO : Sta Z h0 "java/lang/StringUTF16" "LO_BYTE_SHIFT" "I" (.int 8)) :
    oc2 l (⟨"java/lang/StringUTF16", "putChar", "([BII)V"⟩ : MethodName) jdk_52_method_4_code 3 none ws ({ frames := 0, cells := 0, slots := 0, locals := 0 } : Room) Z #[(.ref t), (.int 1), (.int c1)] h0 (Q_putCh_1_2 Z t kb c0 c1 h0 n0) := by
  refine ob3 (own := "java/lang/StringUTF16") rfl (plainFor_of_name pn_23) (fun m => ef_putCh_0_1 m t (1 : Int32) c1) ?_
  intro p e s m below meth c s₁ Bd hml hZ hh hx hby hown X0 e0
  have N0 := Fr.nil n0
  have lt2 : h0.size > t := V_t.lt
  refine oc3 X0 hx hZ hown (host := "") (Or.inl (oa0 hw 106 rfl)) Via.refl e0 S_AD hby d23_0 ?_
  intro T3 X3 e3
  refine ob1 X3.here hx hby (pc' := 28) d23_3 ((if0 _ _).trans (feq (show ¬ ((1 : Int32) = (0 : Int32)) from (by decide))).2) (by decide) (by decide) ?_
  refine oa X3.here hx hby d23_28 rfl ?_
  refine oa4 X3.here hx hby d23_29 (v := (1 : Int32)) (by decide) ?_
  refine oe1 X3.here hx hby d23_30 (v := (2 : Int32)) (by decide) ?_
  refine oa6 X3.here hx hby d23_31 (l' := #[.val (.ref t), .val (.int 2), .val (.int c1)]) rfl ?_
  refine oa2 X3.here hx hby d23_32 rfl rfl ?_
  refine oa X3.here hx hby d23_33 rfl ?_
  refine od2 X3.here hx hby d23_34 rfl (v := (3 : Int32)) (by decide) (l' := #[.val (.ref t), .val (.int 3), .val (.int c1)]) rfl ?_
  refine oa X3.here hx hby d23_37 rfl ?_
  refine oc3 X3 hx hZ hown (host := "") (Or.inl (oa0 hw 107 rfl)) Via.refl e3 S_HI hby d23_38 ?_
  intro T4 X4 e4
  refine oe2 X4.here hx hby d23_41 rfl ?_
  refine of5 X4.here hx hby d23_42 rfl ?_
  refine oe6 X4 hx hZ e4 V_t ⟨by decide, by decide⟩ 2 (by decide) (Nat.le_of_ble_eq_true rfl) (w := (.int ((c1 >>> ((0 : Int32) &&& 31)).toInt8.toInt32))) (congrArg Value.int (of4 (c1 >>> ((0 : Int32) &&& 31)))) hby d23_43 N0 g_t ?_
  intro T5 h5 lo5 X5 e5 N5 W5 V5 z5
  have V6 : Arv Z h5 t kb .byte (4 : Int32) [(.int ((c0 >>> ((0 : Int32) &&& 31)).toInt8.toInt32)), (.int ((c0 >>> ((8 : Int32) &&& 31)).toInt8.toInt32)), (.int ((c1 >>> ((0 : Int32) &&& 31)).toInt8.toInt32)), (.int 0)] (.int 0) := V5
  refine oa2 X5.here hx hby d23_44 rfl rfl ?_
  refine oa X5.here hx hby d23_45 rfl ?_
  refine oa X5.here hx hby d23_46 rfl ?_
  have f7 := (S_LO.wr W5)
  refine oc3 X5 hx hZ hown (host := "") (Or.inl (oa0 hw 108 rfl)) Via.refl e5 f7 hby d23_47 ?_
  intro T8 X8 e8
  refine oe2 X8.here hx hby d23_50 rfl ?_
  refine of5 X8.here hx hby d23_51 rfl ?_
  refine oe6 X8 hx hZ e8 V6 ⟨by decide, by decide⟩ 3 (by decide) (Nat.le_of_ble_eq_true rfl) (w := (.int ((c1 >>> ((8 : Int32) &&& 31)).toInt8.toInt32))) (congrArg Value.int (of4 (c1 >>> ((8 : Int32) &&& 31)))) hby d23_52 N5 g_t ?_
  intro T9 h9 lo9 X9 e9 N9 W9 V9 z9
  have V10 : Arv Z h9 t kb .byte (4 : Int32) [(.int ((c0 >>> ((0 : Int32) &&& 31)).toInt8.toInt32)), (.int ((c0 >>> ((8 : Int32) &&& 31)).toInt8.toInt32)), (.int ((c1 >>> ((0 : Int32) &&& 31)).toInt8.toInt32)), (.int ((c1 >>> ((8 : Int32) &&& 31)).toInt8.toInt32))] (.int 0) := V9
  have K11 : Keep h0 h9 [t] := (((Keep.refl h0 [t]).wr W5 (Or.inl (List.mem_of_getElem? (i := 0) rfl))).wr W9 (Or.inl (List.mem_of_getElem? (i := 0) rfl)))
  refine oa9 X9 Bd.notSynchronized (v := none) (fun _ => rfl) (fun _ hr => X9.returnOut hx Bd.returns (hb hby d23_53) hr) e9 (by decide) (by decide) ?_
  exact ⟨rfl, N9, K11, V10⟩
def Q_toB_2 (Z : State) (b : Nat) (kC : ClassId) (c0 : Int32) (c1 : Int32) (h0 : Heap) (n0 : Nat) (vR : Option Value) (hR : Heap) (LR : List Loc) : Prop := ∃ (t : Nat) (kb : ClassId), vR = some (.ref t) ∧ Fr n0 LR ∧ Keep h0 hR [] ∧ h0.size ≤ t ∧ (Arv Z hR t kb .byte (4 : Int32) [(.int ((c0 >>> ((0 : Int32) &&& 31)).toInt8.toInt32)), (.int ((c0 >>> ((8 : Int32) &&& 31)).toInt8.toInt32)), (.int ((c1 >>> ((0 : Int32) &&& 31)).toInt8.toInt32)), (.int ((c1 >>> ((8 : Int32) &&& 31)).toInt8.toInt32))] (.int 0))
theorem toB_2 (l : Launch) (Z : State) (a0 : Array Value) (hw : ∀ d ∈ tables_1, d.before a0 Z = true) (ws : List Jvm.Cond) (b : Nat) (kC : ClassId) (c0 : Int32) (c1 : Int32) (h0 : Heap) (n0 : Nat) (Z0 : n0 ≤ h0.size) (V_b : Arv Z h0 b kC .char (2 : Int32) [(.int c0), (.int c1)] (.int 0)) (S_AD : Sta Z h0 "java/lang/StringUTF16" "$assertionsDisabled" "Z" (.int 1)) (S_HI : Sta Z h0 "java/lang/StringUTF16" "HI_BYTE_SHIFT" "I" (.int 0)) (S_LO : Sta Z h0 "java/lang/StringUTF16" "LO_BYTE_SHIFT" "I" (.int 8)) :
    oc2 l (⟨"java/lang/StringUTF16", "toBytes", "([CII)[B"⟩ : MethodName) jdk_52_method_14_code 5 (some (.array .byte)) ws ({ frames := 2, cells := 1, slots := 4, locals := 24 } : Room) Z #[(.ref b), (.int 0), (.int 2)] h0 (Q_toB_2 Z b kC c0 c1 h0 n0) := by
  refine ob3 (own := "java/lang/StringUTF16") rfl (plainFor_of_name pn_20) (fun m => ef_toB_1 m b (0 : Int32) (2 : Int32)) ?_
  intro p e s m below meth c s₁ Bd hml hZ hh hx hby hown X0 e0
  have N0 := Fr.nil n0
  have lt2 : h0.size > b := V_b.lt
  refine oa X0.here hx hby d20_0 rfl ?_
  refine oa3 X0 hx hZ hown (oa0 hw 96 rfl) (oa0 hw 97 rfl) (oa0 hw 22 rfl) (oa0 hw 98 rfl) (by decide) (nbFor_2 l Z a0 hw []  h0 n0 Z0 ) 0 hml rfl (argsL := [(.int 2)]) (st := []) (lenOf pd_13 rfl) rfl rfl e0 hby d20_1 ?_
  intro T3 v3 L3 X3 hQ3
  obtain ⟨t_3, kb_3, rfl, Nq3, K3, P3_0, P3_1⟩ := hQ3
  have N3 := Fr.app N0 Nq3
  have z4 : h0.size ≤ T3.heap.size := K3.1
  have lt5 : T3.heap.size > t_3 := P3_1.lt
  refine oa5 (T := T3) 4 #[.val (.ref b), .val (.int 0), .val (.int 2), .unset, .unset] [(.ref t_3)] ?_
  refine of8 X3.here hx hby d20_4 rfl (l' := #[.val (.ref b), .val (.int 0), .val (.int 2), .val (.ref t_3), .unset]) rfl ?_
  refine oa4 X3.here hx hby d20_5 (v := (0 : Int32)) (by decide) ?_
  refine ob8 X3.here hx hby d20_6 (l' := #[.val (.ref b), .val (.int 0), .val (.int 2), .val (.ref t_3), .val (.int 0)]) rfl ?_
  refine oa8 X3.here hx hby d20_8 rfl ?_
  refine oa X3.here hx hby d20_10 rfl ?_
  refine oa7 X3.here hx hby d20_11 (tlt (show (0 : Int32) < (2 : Int32) from (by decide))).2.1 ?_
  refine oa2 X3.here hx hby d20_14 rfl rfl ?_
  refine oa8 X3.here hx hby d20_15 rfl ?_
  refine oa2 X3.here hx hby d20_17 rfl rfl ?_
  refine oa X3.here hx hby d20_18 rfl ?_
  have f6 := (V_b.keep K3 nin0)
  refine oc6 X3 hx hZ rfl f6 ⟨by decide, by decide⟩ (v := (.int c0)) rfl hby d20_19 ?_
  have f7 := (ob S_AD K3 all0)
  have f8 := (ob S_HI K3 all0)
  have f9 := (ob S_LO K3 all0)
  have z11 : n0 ≤ T3.heap.size := by omega
  refine oa3 X3 hx hZ hown (oa0 hw 103 rfl) (oa0 hw 104 rfl) (oa0 hw 22 rfl) (oa0 hw 105 rfl) (by decide) (putCh_0_2 l Z a0 hw [] t_3 kb_3 c0 T3.heap n0 z11 P3_1 (by omega) f7 f8 f9) 0 hml rfl (argsL := [(.ref t_3), (.int 0), (.int c0)]) (st := []) (lenOf pd_14 rfl) rfl rfl rfl hby d20_20 ?_
  intro T10 v10 L10 X10 hQ10
  obtain ⟨rfl, Nq10, K10, P10_0⟩ := hQ10
  have N10 := Fr.app N3 Nq10
  have z12 : T3.heap.size ≤ T10.heap.size := K10.1
  have lt13 : T10.heap.size > t_3 := P10_0.lt
  refine oa5 (T := T10) 23 #[.val (.ref b), .val (.int 0), .val (.int 2), .val (.ref t_3), .val (.int 0)] [] ?_
  refine od2 X10.here hx hby d20_23 rfl (v := (1 : Int32)) (by decide) (l' := #[.val (.ref b), .val (.int 1), .val (.int 2), .val (.ref t_3), .val (.int 0)]) rfl ?_
  refine od2 X10.here hx hby d20_26 rfl (v := (1 : Int32)) (by decide) (l' := #[.val (.ref b), .val (.int 1), .val (.int 2), .val (.ref t_3), .val (.int 1)]) rfl ?_
  refine oc X10.here hx hby (pc' := 8) d20_29 (by decide) (by decide) ?_
  refine oa8 X10.here hx hby d20_8 rfl ?_
  refine oa X10.here hx hby d20_10 rfl ?_
  refine oa7 X10.here hx hby d20_11 (tlt (show (1 : Int32) < (2 : Int32) from (by decide))).2.1 ?_
  refine oa2 X10.here hx hby d20_14 rfl rfl ?_
  refine oa8 X10.here hx hby d20_15 rfl ?_
  refine oa2 X10.here hx hby d20_17 rfl rfl ?_
  refine oa X10.here hx hby d20_18 rfl ?_
  have f14 := (f6.keep K10 (ninS (oc4 (by omega)) nin0))
  refine oc6 X10 hx hZ rfl f14 ⟨by decide, by decide⟩ (v := (.int c1)) rfl hby d20_19 ?_
  have f15 := (ob f7 K10 (allS (of2 P3_1) all0))
  have f16 := (ob f8 K10 (allS (of2 P3_1) all0))
  have f17 := (ob f9 K10 (allS (of2 P3_1) all0))
  have z19 : n0 ≤ T10.heap.size := by omega
  refine oa3 X10 hx hZ hown (oa0 hw 103 rfl) (oa0 hw 104 rfl) (oa0 hw 22 rfl) (oa0 hw 105 rfl) (by decide) (putCh_1_2 l Z a0 hw [] t_3 kb_3 c0 c1 T10.heap n0 z19 P10_0 (by omega) f15 f16 f17) 0 hml rfl (argsL := [(.ref t_3), (.int 1), (.int c1)]) (st := []) (lenOf pd_14 rfl) rfl rfl rfl hby d20_20 ?_
  intro T18 v18 L18 X18 hQ18
  obtain ⟨rfl, Nq18, K18, P18_0⟩ := hQ18
  have N18 := Fr.app N10 Nq18
  have z20 : T10.heap.size ≤ T18.heap.size := K18.1
  have lt21 : T18.heap.size > t_3 := P18_0.lt
  refine oa5 (T := T18) 23 #[.val (.ref b), .val (.int 1), .val (.int 2), .val (.ref t_3), .val (.int 1)] [] ?_
  refine od2 X18.here hx hby d20_23 rfl (v := (2 : Int32)) (by decide) (l' := #[.val (.ref b), .val (.int 2), .val (.int 2), .val (.ref t_3), .val (.int 1)]) rfl ?_
  refine od2 X18.here hx hby d20_26 rfl (v := (2 : Int32)) (by decide) (l' := #[.val (.ref b), .val (.int 2), .val (.int 2), .val (.ref t_3), .val (.int 2)]) rfl ?_
  refine oc X18.here hx hby (pc' := 8) d20_29 (by decide) (by decide) ?_
  refine oa8 X18.here hx hby d20_8 rfl ?_
  refine oa X18.here hx hby d20_10 rfl ?_
  refine ob2 X18.here hx hby (pc' := 32) d20_11 (flt (show ¬ ((2 : Int32) < (2 : Int32)) from (by decide))).2.1 (by decide) (by decide) ?_
  refine oa2 X18.here hx hby d20_32 rfl rfl ?_
  have K22 : Keep h0 T18.heap [] := ((((Keep.refl h0 []).trans K3 all0).trans K10 (allS (P := fun xq_ => xq_ ∈ [] ∨ h0.size ≤ xq_) (Or.inr (by omega)) all0)).trans K18 (allS (P := fun xq_ => xq_ ∈ [] ∨ h0.size ≤ xq_) (Or.inr (by omega)) all0))
  refine oa9 X18 Bd.notSynchronized (v := some (.ref t_3)) (ob4 Bd.returns) (fun _ hr => retOut X18 hx Bd.returns rfl (Or.inr (Or.inr (Or.inr (Or.inr ⟨rfl, rfl, rfl⟩)))) (hb hby d20_33) hr) rfl (by decide) (by decide) ?_
  exact ⟨t_3, kb_3, rfl, N18, K22, (by omega), P18_0⟩
def Q_putCh_0_3 (Z : State) (t : Nat) (kb : ClassId) (c0 : Int32) (h0 : Heap) (n0 : Nat) (vR : Option Value) (hR : Heap) (LR : List Loc) : Prop := vR = none ∧ Fr n0 LR ∧ Keep h0 hR [t] ∧ (Arv Z hR t kb .byte (6 : Int32) [(.int ((c0 >>> ((0 : Int32) &&& 31)).toInt8.toInt32)), (.int ((c0 >>> ((8 : Int32) &&& 31)).toInt8.toInt32)), (.int 0), (.int 0), (.int 0), (.int 0)] (.int 0))
theorem putCh_0_3 (l : Launch) (Z : State) (a0 : Array Value) (hw : ∀ d ∈ tables_1, d.before a0 Z = true) (ws : List Jvm.Cond) (t : Nat) (kb : ClassId) (c0 : Int32) (h0 : Heap) (n0 : Nat) (Z0 : n0 ≤ h0.size) (V_t : Arv Z h0 t kb .byte (6 : Int32) [(.int 0), (.int 0), (.int 0), (.int 0), (.int 0), (.int 0)] (.int 0)) (g_t : n0 ≤ t) (S_AD : Sta Z h0 "java/lang/StringUTF16" "$assertionsDisabled" "Z" (.int 1)) (S_HI : Sta Z h0 "java/lang/StringUTF16" "HI_BYTE_SHIFT" "I" (.int 0)) (S_LO : Sta Z h0 "java/lang/StringUTF16" "LO_BYTE_SHIFT" "I" (.int 8)) :
    oc2 l (⟨"java/lang/StringUTF16", "putChar", "([BII)V"⟩ : MethodName) jdk_52_method_4_code 3 none ws ({ frames := 0, cells := 0, slots := 0, locals := 0 } : Room) Z #[(.ref t), (.int 0), (.int c0)] h0 (Q_putCh_0_3 Z t kb c0 h0 n0) := by
  refine ob3 (own := "java/lang/StringUTF16") rfl (plainFor_of_name pn_23) (fun m => ef_putCh_0_1 m t (0 : Int32) c0) ?_
  intro p e s m below meth c s₁ Bd hml hZ hh hx hby hown X0 e0
  have N0 := Fr.nil n0
  have lt1 : h0.size > t := V_t.lt
  refine oc3 X0 hx hZ hown (host := "") (Or.inl (oa0 hw 106 rfl)) Via.refl e0 S_AD hby d23_0 ?_
  intro T2 X2 e2
  refine ob1 X2.here hx hby (pc' := 28) d23_3 ((if0 _ _).trans (feq (show ¬ ((1 : Int32) = (0 : Int32)) from (by decide))).2) (by decide) (by decide) ?_
  refine oa X2.here hx hby d23_28 rfl ?_
  refine oa4 X2.here hx hby d23_29 (v := (1 : Int32)) (by decide) ?_
  refine oe1 X2.here hx hby d23_30 (v := (0 : Int32)) (by decide) ?_
  refine oa6 X2.here hx hby d23_31 (l' := #[.val (.ref t), .val (.int 0), .val (.int c0)]) rfl ?_
  refine oa2 X2.here hx hby d23_32 rfl rfl ?_
  refine oa X2.here hx hby d23_33 rfl ?_
  refine od2 X2.here hx hby d23_34 rfl (v := (1 : Int32)) (by decide) (l' := #[.val (.ref t), .val (.int 1), .val (.int c0)]) rfl ?_
  refine oa X2.here hx hby d23_37 rfl ?_
  refine oc3 X2 hx hZ hown (host := "") (Or.inl (oa0 hw 107 rfl)) Via.refl e2 S_HI hby d23_38 ?_
  intro T3 X3 e3
  refine oe2 X3.here hx hby d23_41 rfl ?_
  refine of5 X3.here hx hby d23_42 rfl ?_
  refine oe6 X3 hx hZ e3 V_t ⟨by decide, by decide⟩ 0 (by decide) (Nat.le_of_ble_eq_true rfl) (w := (.int ((c0 >>> ((0 : Int32) &&& 31)).toInt8.toInt32))) (congrArg Value.int (of4 (c0 >>> ((0 : Int32) &&& 31)))) hby d23_43 N0 g_t ?_
  intro T4 h4 lo4 X4 e4 N4 W4 V4 z4
  have V5 : Arv Z h4 t kb .byte (6 : Int32) [(.int ((c0 >>> ((0 : Int32) &&& 31)).toInt8.toInt32)), (.int 0), (.int 0), (.int 0), (.int 0), (.int 0)] (.int 0) := V4
  refine oa2 X4.here hx hby d23_44 rfl rfl ?_
  refine oa X4.here hx hby d23_45 rfl ?_
  refine oa X4.here hx hby d23_46 rfl ?_
  have f6 := (S_LO.wr W4)
  refine oc3 X4 hx hZ hown (host := "") (Or.inl (oa0 hw 108 rfl)) Via.refl e4 f6 hby d23_47 ?_
  intro T7 X7 e7
  refine oe2 X7.here hx hby d23_50 rfl ?_
  refine of5 X7.here hx hby d23_51 rfl ?_
  refine oe6 X7 hx hZ e7 V5 ⟨by decide, by decide⟩ 1 (by decide) (Nat.le_of_ble_eq_true rfl) (w := (.int ((c0 >>> ((8 : Int32) &&& 31)).toInt8.toInt32))) (congrArg Value.int (of4 (c0 >>> ((8 : Int32) &&& 31)))) hby d23_52 N4 g_t ?_
  intro T8 h8 lo8 X8 e8 N8 W8 V8 z8
  have V9 : Arv Z h8 t kb .byte (6 : Int32) [(.int ((c0 >>> ((0 : Int32) &&& 31)).toInt8.toInt32)), (.int ((c0 >>> ((8 : Int32) &&& 31)).toInt8.toInt32)), (.int 0), (.int 0), (.int 0), (.int 0)] (.int 0) := V8
  have K10 : Keep h0 h8 [t] := (((Keep.refl h0 [t]).wr W4 (Or.inl (List.mem_of_getElem? (i := 0) rfl))).wr W8 (Or.inl (List.mem_of_getElem? (i := 0) rfl)))
  refine oa9 X8 Bd.notSynchronized (v := none) (fun _ => rfl) (fun _ hr => X8.returnOut hx Bd.returns (hb hby d23_53) hr) e8 (by decide) (by decide) ?_
  exact ⟨rfl, N8, K10, V9⟩
def Q_putCh_1_3 (Z : State) (t : Nat) (kb : ClassId) (c0 : Int32) (c1 : Int32) (h0 : Heap) (n0 : Nat) (vR : Option Value) (hR : Heap) (LR : List Loc) : Prop := vR = none ∧ Fr n0 LR ∧ Keep h0 hR [t] ∧ (Arv Z hR t kb .byte (6 : Int32) [(.int ((c0 >>> ((0 : Int32) &&& 31)).toInt8.toInt32)), (.int ((c0 >>> ((8 : Int32) &&& 31)).toInt8.toInt32)), (.int ((c1 >>> ((0 : Int32) &&& 31)).toInt8.toInt32)), (.int ((c1 >>> ((8 : Int32) &&& 31)).toInt8.toInt32)), (.int 0), (.int 0)] (.int 0))
theorem putCh_1_3 (l : Launch) (Z : State) (a0 : Array Value) (hw : ∀ d ∈ tables_1, d.before a0 Z = true) (ws : List Jvm.Cond) (t : Nat) (kb : ClassId) (c0 : Int32) (c1 : Int32) (h0 : Heap) (n0 : Nat) (Z0 : n0 ≤ h0.size) (V_t : Arv Z h0 t kb .byte (6 : Int32) [(.int ((c0 >>> ((0 : Int32) &&& 31)).toInt8.toInt32)), (.int ((c0 >>> ((8 : Int32) &&& 31)).toInt8.toInt32)), (.int 0), (.int 0), (.int 0), (.int 0)] (.int 0)) (g_t : n0 ≤ t) (S_AD : Sta Z h0 "java/lang/StringUTF16" "$assertionsDisabled" "Z" (.int 1)) (S_HI : Sta Z h0 "java/lang/StringUTF16" "HI_BYTE_SHIFT" "I" (.int 0)) (S_LO : Sta Z h0 "java/lang/StringUTF16" "LO_BYTE_SHIFT" "I" (.int 8)) :
    oc2 l (⟨"java/lang/StringUTF16", "putChar", "([BII)V"⟩ : MethodName) jdk_52_method_4_code 3 none ws ({ frames := 0, cells := 0, slots := 0, locals := 0 } : Room) Z #[(.ref t), (.int 1), (.int c1)] h0 (Q_putCh_1_3 Z t kb c0 c1 h0 n0) := by
  refine ob3 (own := "java/lang/StringUTF16") rfl (plainFor_of_name pn_23) (fun m => ef_putCh_0_1 m t (1 : Int32) c1) ?_
  intro p e s m below meth c s₁ Bd hml hZ hh hx hby hown X0 e0
  have N0 := Fr.nil n0
  have lt2 : h0.size > t := V_t.lt
  refine oc3 X0 hx hZ hown (host := "") (Or.inl (oa0 hw 106 rfl)) Via.refl e0 S_AD hby d23_0 ?_
  intro T3 X3 e3
  refine ob1 X3.here hx hby (pc' := 28) d23_3 ((if0 _ _).trans (feq (show ¬ ((1 : Int32) = (0 : Int32)) from (by decide))).2) (by decide) (by decide) ?_
  refine oa X3.here hx hby d23_28 rfl ?_
  refine oa4 X3.here hx hby d23_29 (v := (1 : Int32)) (by decide) ?_
  refine oe1 X3.here hx hby d23_30 (v := (2 : Int32)) (by decide) ?_
  refine oa6 X3.here hx hby d23_31 (l' := #[.val (.ref t), .val (.int 2), .val (.int c1)]) rfl ?_
  refine oa2 X3.here hx hby d23_32 rfl rfl ?_
  refine oa X3.here hx hby d23_33 rfl ?_
  refine od2 X3.here hx hby d23_34 rfl (v := (3 : Int32)) (by decide) (l' := #[.val (.ref t), .val (.int 3), .val (.int c1)]) rfl ?_
  refine oa X3.here hx hby d23_37 rfl ?_
  refine oc3 X3 hx hZ hown (host := "") (Or.inl (oa0 hw 107 rfl)) Via.refl e3 S_HI hby d23_38 ?_
  intro T4 X4 e4
  refine oe2 X4.here hx hby d23_41 rfl ?_
  refine of5 X4.here hx hby d23_42 rfl ?_
  refine oe6 X4 hx hZ e4 V_t ⟨by decide, by decide⟩ 2 (by decide) (Nat.le_of_ble_eq_true rfl) (w := (.int ((c1 >>> ((0 : Int32) &&& 31)).toInt8.toInt32))) (congrArg Value.int (of4 (c1 >>> ((0 : Int32) &&& 31)))) hby d23_43 N0 g_t ?_
  intro T5 h5 lo5 X5 e5 N5 W5 V5 z5
  have V6 : Arv Z h5 t kb .byte (6 : Int32) [(.int ((c0 >>> ((0 : Int32) &&& 31)).toInt8.toInt32)), (.int ((c0 >>> ((8 : Int32) &&& 31)).toInt8.toInt32)), (.int ((c1 >>> ((0 : Int32) &&& 31)).toInt8.toInt32)), (.int 0), (.int 0), (.int 0)] (.int 0) := V5
  refine oa2 X5.here hx hby d23_44 rfl rfl ?_
  refine oa X5.here hx hby d23_45 rfl ?_
  refine oa X5.here hx hby d23_46 rfl ?_
  have f7 := (S_LO.wr W5)
  refine oc3 X5 hx hZ hown (host := "") (Or.inl (oa0 hw 108 rfl)) Via.refl e5 f7 hby d23_47 ?_
  intro T8 X8 e8
  refine oe2 X8.here hx hby d23_50 rfl ?_
  refine of5 X8.here hx hby d23_51 rfl ?_
  refine oe6 X8 hx hZ e8 V6 ⟨by decide, by decide⟩ 3 (by decide) (Nat.le_of_ble_eq_true rfl) (w := (.int ((c1 >>> ((8 : Int32) &&& 31)).toInt8.toInt32))) (congrArg Value.int (of4 (c1 >>> ((8 : Int32) &&& 31)))) hby d23_52 N5 g_t ?_
  intro T9 h9 lo9 X9 e9 N9 W9 V9 z9
  have V10 : Arv Z h9 t kb .byte (6 : Int32) [(.int ((c0 >>> ((0 : Int32) &&& 31)).toInt8.toInt32)), (.int ((c0 >>> ((8 : Int32) &&& 31)).toInt8.toInt32)), (.int ((c1 >>> ((0 : Int32) &&& 31)).toInt8.toInt32)), (.int ((c1 >>> ((8 : Int32) &&& 31)).toInt8.toInt32)), (.int 0), (.int 0)] (.int 0) := V9
  have K11 : Keep h0 h9 [t] := (((Keep.refl h0 [t]).wr W5 (Or.inl (List.mem_of_getElem? (i := 0) rfl))).wr W9 (Or.inl (List.mem_of_getElem? (i := 0) rfl)))
  refine oa9 X9 Bd.notSynchronized (v := none) (fun _ => rfl) (fun _ hr => X9.returnOut hx Bd.returns (hb hby d23_53) hr) e9 (by decide) (by decide) ?_
  exact ⟨rfl, N9, K11, V10⟩
def Q_putCh_2_3 (Z : State) (t : Nat) (kb : ClassId) (c0 : Int32) (c1 : Int32) (c2 : Int32) (h0 : Heap) (n0 : Nat) (vR : Option Value) (hR : Heap) (LR : List Loc) : Prop := vR = none ∧ Fr n0 LR ∧ Keep h0 hR [t] ∧ (Arv Z hR t kb .byte (6 : Int32) [(.int ((c0 >>> ((0 : Int32) &&& 31)).toInt8.toInt32)), (.int ((c0 >>> ((8 : Int32) &&& 31)).toInt8.toInt32)), (.int ((c1 >>> ((0 : Int32) &&& 31)).toInt8.toInt32)), (.int ((c1 >>> ((8 : Int32) &&& 31)).toInt8.toInt32)), (.int ((c2 >>> ((0 : Int32) &&& 31)).toInt8.toInt32)), (.int ((c2 >>> ((8 : Int32) &&& 31)).toInt8.toInt32))] (.int 0))
theorem putCh_2_3 (l : Launch) (Z : State) (a0 : Array Value) (hw : ∀ d ∈ tables_1, d.before a0 Z = true) (ws : List Jvm.Cond) (t : Nat) (kb : ClassId) (c0 : Int32) (c1 : Int32) (c2 : Int32) (h0 : Heap) (n0 : Nat) (Z0 : n0 ≤ h0.size) (V_t : Arv Z h0 t kb .byte (6 : Int32) [(.int ((c0 >>> ((0 : Int32) &&& 31)).toInt8.toInt32)), (.int ((c0 >>> ((8 : Int32) &&& 31)).toInt8.toInt32)), (.int ((c1 >>> ((0 : Int32) &&& 31)).toInt8.toInt32)), (.int ((c1 >>> ((8 : Int32) &&& 31)).toInt8.toInt32)), (.int 0), (.int 0)] (.int 0)) (g_t : n0 ≤ t) (S_AD : Sta Z h0 "java/lang/StringUTF16" "$assertionsDisabled" "Z" (.int 1)) (S_HI : Sta Z h0 "java/lang/StringUTF16" "HI_BYTE_SHIFT" "I" (.int 0)) (S_LO : Sta Z h0 "java/lang/StringUTF16" "LO_BYTE_SHIFT" "I" (.int 8)) :
    oc2 l (⟨"java/lang/StringUTF16", "putChar", "([BII)V"⟩ : MethodName) jdk_52_method_4_code 3 none ws ({ frames := 0, cells := 0, slots := 0, locals := 0 } : Room) Z #[(.ref t), (.int 2), (.int c2)] h0 (Q_putCh_2_3 Z t kb c0 c1 c2 h0 n0) := by
  refine ob3 (own := "java/lang/StringUTF16") rfl (plainFor_of_name pn_23) (fun m => ef_putCh_0_1 m t (2 : Int32) c2) ?_
  intro p e s m below meth c s₁ Bd hml hZ hh hx hby hown X0 e0
  have N0 := Fr.nil n0
  have lt3 : h0.size > t := V_t.lt
  refine oc3 X0 hx hZ hown (host := "") (Or.inl (oa0 hw 106 rfl)) Via.refl e0 S_AD hby d23_0 ?_
  intro T4 X4 e4
  refine ob1 X4.here hx hby (pc' := 28) d23_3 ((if0 _ _).trans (feq (show ¬ ((1 : Int32) = (0 : Int32)) from (by decide))).2) (by decide) (by decide) ?_
  refine oa X4.here hx hby d23_28 rfl ?_
  refine oa4 X4.here hx hby d23_29 (v := (1 : Int32)) (by decide) ?_
  refine oe1 X4.here hx hby d23_30 (v := (4 : Int32)) (by decide) ?_
  refine oa6 X4.here hx hby d23_31 (l' := #[.val (.ref t), .val (.int 4), .val (.int c2)]) rfl ?_
  refine oa2 X4.here hx hby d23_32 rfl rfl ?_
  refine oa X4.here hx hby d23_33 rfl ?_
  refine od2 X4.here hx hby d23_34 rfl (v := (5 : Int32)) (by decide) (l' := #[.val (.ref t), .val (.int 5), .val (.int c2)]) rfl ?_
  refine oa X4.here hx hby d23_37 rfl ?_
  refine oc3 X4 hx hZ hown (host := "") (Or.inl (oa0 hw 107 rfl)) Via.refl e4 S_HI hby d23_38 ?_
  intro T5 X5 e5
  refine oe2 X5.here hx hby d23_41 rfl ?_
  refine of5 X5.here hx hby d23_42 rfl ?_
  refine oe6 X5 hx hZ e5 V_t ⟨by decide, by decide⟩ 4 (by decide) (Nat.le_of_ble_eq_true rfl) (w := (.int ((c2 >>> ((0 : Int32) &&& 31)).toInt8.toInt32))) (congrArg Value.int (of4 (c2 >>> ((0 : Int32) &&& 31)))) hby d23_43 N0 g_t ?_
  intro T6 h6 lo6 X6 e6 N6 W6 V6 z6
  have V7 : Arv Z h6 t kb .byte (6 : Int32) [(.int ((c0 >>> ((0 : Int32) &&& 31)).toInt8.toInt32)), (.int ((c0 >>> ((8 : Int32) &&& 31)).toInt8.toInt32)), (.int ((c1 >>> ((0 : Int32) &&& 31)).toInt8.toInt32)), (.int ((c1 >>> ((8 : Int32) &&& 31)).toInt8.toInt32)), (.int ((c2 >>> ((0 : Int32) &&& 31)).toInt8.toInt32)), (.int 0)] (.int 0) := V6
  refine oa2 X6.here hx hby d23_44 rfl rfl ?_
  refine oa X6.here hx hby d23_45 rfl ?_
  refine oa X6.here hx hby d23_46 rfl ?_
  have f8 := (S_LO.wr W6)
  refine oc3 X6 hx hZ hown (host := "") (Or.inl (oa0 hw 108 rfl)) Via.refl e6 f8 hby d23_47 ?_
  intro T9 X9 e9
  refine oe2 X9.here hx hby d23_50 rfl ?_
  refine of5 X9.here hx hby d23_51 rfl ?_
  refine oe6 X9 hx hZ e9 V7 ⟨by decide, by decide⟩ 5 (by decide) (Nat.le_of_ble_eq_true rfl) (w := (.int ((c2 >>> ((8 : Int32) &&& 31)).toInt8.toInt32))) (congrArg Value.int (of4 (c2 >>> ((8 : Int32) &&& 31)))) hby d23_52 N6 g_t ?_
  intro T10 h10 lo10 X10 e10 N10 W10 V10 z10
  have V11 : Arv Z h10 t kb .byte (6 : Int32) [(.int ((c0 >>> ((0 : Int32) &&& 31)).toInt8.toInt32)), (.int ((c0 >>> ((8 : Int32) &&& 31)).toInt8.toInt32)), (.int ((c1 >>> ((0 : Int32) &&& 31)).toInt8.toInt32)), (.int ((c1 >>> ((8 : Int32) &&& 31)).toInt8.toInt32)), (.int ((c2 >>> ((0 : Int32) &&& 31)).toInt8.toInt32)), (.int ((c2 >>> ((8 : Int32) &&& 31)).toInt8.toInt32))] (.int 0) := V10
  have K12 : Keep h0 h10 [t] := (((Keep.refl h0 [t]).wr W6 (Or.inl (List.mem_of_getElem? (i := 0) rfl))).wr W10 (Or.inl (List.mem_of_getElem? (i := 0) rfl)))
  refine oa9 X10 Bd.notSynchronized (v := none) (fun _ => rfl) (fun _ hr => X10.returnOut hx Bd.returns (hb hby d23_53) hr) e10 (by decide) (by decide) ?_
  exact ⟨rfl, N10, K12, V11⟩
def Q_toB_3 (Z : State) (b : Nat) (kC : ClassId) (c0 : Int32) (c1 : Int32) (c2 : Int32) (h0 : Heap) (n0 : Nat) (vR : Option Value) (hR : Heap) (LR : List Loc) : Prop := ∃ (t : Nat) (kb : ClassId), vR = some (.ref t) ∧ Fr n0 LR ∧ Keep h0 hR [] ∧ h0.size ≤ t ∧ (Arv Z hR t kb .byte (6 : Int32) [(.int ((c0 >>> ((0 : Int32) &&& 31)).toInt8.toInt32)), (.int ((c0 >>> ((8 : Int32) &&& 31)).toInt8.toInt32)), (.int ((c1 >>> ((0 : Int32) &&& 31)).toInt8.toInt32)), (.int ((c1 >>> ((8 : Int32) &&& 31)).toInt8.toInt32)), (.int ((c2 >>> ((0 : Int32) &&& 31)).toInt8.toInt32)), (.int ((c2 >>> ((8 : Int32) &&& 31)).toInt8.toInt32))] (.int 0))
theorem toB_3 (l : Launch) (Z : State) (a0 : Array Value) (hw : ∀ d ∈ tables_1, d.before a0 Z = true) (ws : List Jvm.Cond) (b : Nat) (kC : ClassId) (c0 : Int32) (c1 : Int32) (c2 : Int32) (h0 : Heap) (n0 : Nat) (Z0 : n0 ≤ h0.size) (V_b : Arv Z h0 b kC .char (3 : Int32) [(.int c0), (.int c1), (.int c2)] (.int 0)) (S_AD : Sta Z h0 "java/lang/StringUTF16" "$assertionsDisabled" "Z" (.int 1)) (S_HI : Sta Z h0 "java/lang/StringUTF16" "HI_BYTE_SHIFT" "I" (.int 0)) (S_LO : Sta Z h0 "java/lang/StringUTF16" "LO_BYTE_SHIFT" "I" (.int 8)) :
    oc2 l (⟨"java/lang/StringUTF16", "toBytes", "([CII)[B"⟩ : MethodName) jdk_52_method_14_code 5 (some (.array .byte)) ws ({ frames := 2, cells := 1, slots := 6, locals := 24 } : Room) Z #[(.ref b), (.int 0), (.int 3)] h0 (Q_toB_3 Z b kC c0 c1 c2 h0 n0) := by
  refine ob3 (own := "java/lang/StringUTF16") rfl (plainFor_of_name pn_20) (fun m => ef_toB_1 m b (0 : Int32) (3 : Int32)) ?_
  intro p e s m below meth c s₁ Bd hml hZ hh hx hby hown X0 e0
  have N0 := Fr.nil n0
  have lt3 : h0.size > b := V_b.lt
  refine oa X0.here hx hby d20_0 rfl ?_
  refine oa3 X0 hx hZ hown (oa0 hw 96 rfl) (oa0 hw 97 rfl) (oa0 hw 22 rfl) (oa0 hw 98 rfl) (by decide) (nbFor_3 l Z a0 hw []  h0 n0 Z0 ) 0 hml rfl (argsL := [(.int 3)]) (st := []) (lenOf pd_13 rfl) rfl rfl e0 hby d20_1 ?_
  intro T4 v4 L4 X4 hQ4
  obtain ⟨t_4, kb_4, rfl, Nq4, K4, P4_0, P4_1⟩ := hQ4
  have N4 := Fr.app N0 Nq4
  have z5 : h0.size ≤ T4.heap.size := K4.1
  have lt6 : T4.heap.size > t_4 := P4_1.lt
  refine oa5 (T := T4) 4 #[.val (.ref b), .val (.int 0), .val (.int 3), .unset, .unset] [(.ref t_4)] ?_
  refine of8 X4.here hx hby d20_4 rfl (l' := #[.val (.ref b), .val (.int 0), .val (.int 3), .val (.ref t_4), .unset]) rfl ?_
  refine oa4 X4.here hx hby d20_5 (v := (0 : Int32)) (by decide) ?_
  refine ob8 X4.here hx hby d20_6 (l' := #[.val (.ref b), .val (.int 0), .val (.int 3), .val (.ref t_4), .val (.int 0)]) rfl ?_
  refine oa8 X4.here hx hby d20_8 rfl ?_
  refine oa X4.here hx hby d20_10 rfl ?_
  refine oa7 X4.here hx hby d20_11 (tlt (show (0 : Int32) < (3 : Int32) from (by decide))).2.1 ?_
  refine oa2 X4.here hx hby d20_14 rfl rfl ?_
  refine oa8 X4.here hx hby d20_15 rfl ?_
  refine oa2 X4.here hx hby d20_17 rfl rfl ?_
  refine oa X4.here hx hby d20_18 rfl ?_
  have f7 := (V_b.keep K4 nin0)
  refine oc6 X4 hx hZ rfl f7 ⟨by decide, by decide⟩ (v := (.int c0)) rfl hby d20_19 ?_
  have f8 := (ob S_AD K4 all0)
  have f9 := (ob S_HI K4 all0)
  have f10 := (ob S_LO K4 all0)
  have z12 : n0 ≤ T4.heap.size := by omega
  refine oa3 X4 hx hZ hown (oa0 hw 103 rfl) (oa0 hw 104 rfl) (oa0 hw 22 rfl) (oa0 hw 105 rfl) (by decide) (putCh_0_3 l Z a0 hw [] t_4 kb_4 c0 T4.heap n0 z12 P4_1 (by omega) f8 f9 f10) 0 hml rfl (argsL := [(.ref t_4), (.int 0), (.int c0)]) (st := []) (lenOf pd_14 rfl) rfl rfl rfl hby d20_20 ?_
  intro T11 v11 L11 X11 hQ11
  obtain ⟨rfl, Nq11, K11, P11_0⟩ := hQ11
  have N11 := Fr.app N4 Nq11
  have z13 : T4.heap.size ≤ T11.heap.size := K11.1
  have lt14 : T11.heap.size > t_4 := P11_0.lt
  refine oa5 (T := T11) 23 #[.val (.ref b), .val (.int 0), .val (.int 3), .val (.ref t_4), .val (.int 0)] [] ?_
  refine od2 X11.here hx hby d20_23 rfl (v := (1 : Int32)) (by decide) (l' := #[.val (.ref b), .val (.int 1), .val (.int 3), .val (.ref t_4), .val (.int 0)]) rfl ?_
  refine od2 X11.here hx hby d20_26 rfl (v := (1 : Int32)) (by decide) (l' := #[.val (.ref b), .val (.int 1), .val (.int 3), .val (.ref t_4), .val (.int 1)]) rfl ?_
  refine oc X11.here hx hby (pc' := 8) d20_29 (by decide) (by decide) ?_
  refine oa8 X11.here hx hby d20_8 rfl ?_
  refine oa X11.here hx hby d20_10 rfl ?_
  refine oa7 X11.here hx hby d20_11 (tlt (show (1 : Int32) < (3 : Int32) from (by decide))).2.1 ?_
  refine oa2 X11.here hx hby d20_14 rfl rfl ?_
  refine oa8 X11.here hx hby d20_15 rfl ?_
  refine oa2 X11.here hx hby d20_17 rfl rfl ?_
  refine oa X11.here hx hby d20_18 rfl ?_
  have f15 := (f7.keep K11 (ninS (oc4 (by omega)) nin0))
  refine oc6 X11 hx hZ rfl f15 ⟨by decide, by decide⟩ (v := (.int c1)) rfl hby d20_19 ?_
  have f16 := (ob f8 K11 (allS (of2 P4_1) all0))
  have f17 := (ob f9 K11 (allS (of2 P4_1) all0))
  have f18 := (ob f10 K11 (allS (of2 P4_1) all0))
  have z20 : n0 ≤ T11.heap.size := by omega
  refine oa3 X11 hx hZ hown (oa0 hw 103 rfl) (oa0 hw 104 rfl) (oa0 hw 22 rfl) (oa0 hw 105 rfl) (by decide) (putCh_1_3 l Z a0 hw [] t_4 kb_4 c0 c1 T11.heap n0 z20 P11_0 (by omega) f16 f17 f18) 0 hml rfl (argsL := [(.ref t_4), (.int 1), (.int c1)]) (st := []) (lenOf pd_14 rfl) rfl rfl rfl hby d20_20 ?_
  intro T19 v19 L19 X19 hQ19
  obtain ⟨rfl, Nq19, K19, P19_0⟩ := hQ19
  have N19 := Fr.app N11 Nq19
  have z21 : T11.heap.size ≤ T19.heap.size := K19.1
  have lt22 : T19.heap.size > t_4 := P19_0.lt
  refine oa5 (T := T19) 23 #[.val (.ref b), .val (.int 1), .val (.int 3), .val (.ref t_4), .val (.int 1)] [] ?_
  refine od2 X19.here hx hby d20_23 rfl (v := (2 : Int32)) (by decide) (l' := #[.val (.ref b), .val (.int 2), .val (.int 3), .val (.ref t_4), .val (.int 1)]) rfl ?_
  refine od2 X19.here hx hby d20_26 rfl (v := (2 : Int32)) (by decide) (l' := #[.val (.ref b), .val (.int 2), .val (.int 3), .val (.ref t_4), .val (.int 2)]) rfl ?_
  refine oc X19.here hx hby (pc' := 8) d20_29 (by decide) (by decide) ?_
  refine oa8 X19.here hx hby d20_8 rfl ?_
  refine oa X19.here hx hby d20_10 rfl ?_
  refine oa7 X19.here hx hby d20_11 (tlt (show (2 : Int32) < (3 : Int32) from (by decide))).2.1 ?_
  refine oa2 X19.here hx hby d20_14 rfl rfl ?_
  refine oa8 X19.here hx hby d20_15 rfl ?_
  refine oa2 X19.here hx hby d20_17 rfl rfl ?_
  refine oa X19.here hx hby d20_18 rfl ?_
  have f23 := (f15.keep K19 (ninS (oc4 (by omega)) nin0))
  refine oc6 X19 hx hZ rfl f23 ⟨by decide, by decide⟩ (v := (.int c2)) rfl hby d20_19 ?_
  have f24 := (ob f16 K19 (allS (of2 P11_0) all0))
  have f25 := (ob f17 K19 (allS (of2 P11_0) all0))
  have f26 := (ob f18 K19 (allS (of2 P11_0) all0))
  have z28 : n0 ≤ T19.heap.size := by omega
  refine oa3 X19 hx hZ hown (oa0 hw 103 rfl) (oa0 hw 104 rfl) (oa0 hw 22 rfl) (oa0 hw 105 rfl) (by decide) (putCh_2_3 l Z a0 hw [] t_4 kb_4 c0 c1 c2 T19.heap n0 z28 P19_0 (by omega) f24 f25 f26) 0 hml rfl (argsL := [(.ref t_4), (.int 2), (.int c2)]) (st := []) (lenOf pd_14 rfl) rfl rfl rfl hby d20_20 ?_
  intro T27 v27 L27 X27 hQ27
  obtain ⟨rfl, Nq27, K27, P27_0⟩ := hQ27
  have N27 := Fr.app N19 Nq27
  have z29 : T19.heap.size ≤ T27.heap.size := K27.1
  have lt30 : T27.heap.size > t_4 := P27_0.lt
  refine oa5 (T := T27) 23 #[.val (.ref b), .val (.int 2), .val (.int 3), .val (.ref t_4), .val (.int 2)] [] ?_
  refine od2 X27.here hx hby d20_23 rfl (v := (3 : Int32)) (by decide) (l' := #[.val (.ref b), .val (.int 3), .val (.int 3), .val (.ref t_4), .val (.int 2)]) rfl ?_
  refine od2 X27.here hx hby d20_26 rfl (v := (3 : Int32)) (by decide) (l' := #[.val (.ref b), .val (.int 3), .val (.int 3), .val (.ref t_4), .val (.int 3)]) rfl ?_
  refine oc X27.here hx hby (pc' := 8) d20_29 (by decide) (by decide) ?_
  refine oa8 X27.here hx hby d20_8 rfl ?_
  refine oa X27.here hx hby d20_10 rfl ?_
  refine ob2 X27.here hx hby (pc' := 32) d20_11 (flt (show ¬ ((3 : Int32) < (3 : Int32)) from (by decide))).2.1 (by decide) (by decide) ?_
  refine oa2 X27.here hx hby d20_32 rfl rfl ?_
  have K31 : Keep h0 T27.heap [] := (((((Keep.refl h0 []).trans K4 all0).trans K11 (allS (P := fun xq_ => xq_ ∈ [] ∨ h0.size ≤ xq_) (Or.inr (by omega)) all0)).trans K19 (allS (P := fun xq_ => xq_ ∈ [] ∨ h0.size ≤ xq_) (Or.inr (by omega)) all0)).trans K27 (allS (P := fun xq_ => xq_ ∈ [] ∨ h0.size ≤ xq_) (Or.inr (by omega)) all0))
  refine oa9 X27 Bd.notSynchronized (v := some (.ref t_4)) (ob4 Bd.returns) (fun _ hr => retOut X27 hx Bd.returns rfl (Or.inr (Or.inr (Or.inr (Or.inr ⟨rfl, rfl, rfl⟩)))) (hb hby d20_33) hr) rfl (by decide) (by decide) ?_
  exact ⟨t_4, kb_4, rfl, N27, K31, (by omega), P27_0⟩
theorem ef_cfl_1 (m : MethodId) (x0 : Nat) (x1 : Int32) : entryFrame m #[(.ref x0), (.int x1)] 2 = mkF m 0 #[.val (.ref x0), .val (.int x1)] [] := by first | (simp [entryFrame, mkF, argsToLocals, Value.category]; done) | rfl
theorem pn_7 : plainName "java/lang/StringUTF16" = true := by first | (simp [plainName, overriddenIn]; done) | decide +kernel
theorem d7_0 : decode jdk_52_method_15_code 0 = .ok (.iload_n 1, 1) := by decide +kernel
theorem d7_1 : decode jdk_52_method_15_code 1 = .ok (.aload_n 0, 1) := by decide +kernel
theorem d7_2 : decode jdk_52_method_15_code 2 = .ok (.arraylength, 1) := by decide +kernel
theorem d7_3 : decode jdk_52_method_15_code 3 = .ok (.isub, 1) := by decide +kernel
theorem d7_4 : decode jdk_52_method_15_code 4 = .ok (.bipush 31, 2) := by decide +kernel
theorem d7_6 : decode jdk_52_method_15_code 6 = .ok (.iushr, 1) := by decide +kernel
theorem d7_7 : decode jdk_52_method_15_code 7 = .ok (.i2b, 1) := by decide +kernel
theorem d7_8 : decode jdk_52_method_15_code 8 = .ok (.ireturn, 1) := by decide +kernel
def Q_cfl_1 (Z : State) (t : Nat) (kb : ClassId) (c0 : Int32) (h0 : Heap) (n0 : Nat) (vR : Option Value) (hR : Heap) (LR : List Loc) : Prop := vR = some (.int 1) ∧ Fr n0 LR ∧ hR = h0
theorem cfl_1 (l : Launch) (Z : State) (a0 : Array Value) (hw : ∀ d ∈ tables_1, d.before a0 Z = true) (ws : List Jvm.Cond) (t : Nat) (kb : ClassId) (c0 : Int32) (h0 : Heap) (n0 : Nat) (Z0 : n0 ≤ h0.size) (V_t : Arv Z h0 t kb .byte (2 : Int32) [(.int ((c0 >>> ((0 : Int32) &&& 31)).toInt8.toInt32)), (.int ((c0 >>> ((8 : Int32) &&& 31)).toInt8.toInt32))] (.int 0)) :
    oc2 l (⟨"java/lang/StringUTF16", "coderFromArrayLen", "([BI)B"⟩ : MethodName) jdk_52_method_15_code 2 (some .byte) ws ({ frames := 0, cells := 0, slots := 0, locals := 0 } : Room) Z #[(.ref t), (.int 1)] h0 (Q_cfl_1 Z t kb c0 h0 n0) := by
  refine ob3 (own := "java/lang/StringUTF16") rfl (plainFor_of_name pn_7) (fun m => ef_cfl_1 m t (1 : Int32)) ?_
  intro p e s m below meth c s₁ Bd hml hZ hh hx hby hown X0 e0
  have N0 := Fr.nil n0
  have lt1 : h0.size > t := V_t.lt
  refine oa X0.here hx hby d7_0 rfl ?_
  refine oa2 X0.here hx hby d7_1 rfl rfl ?_
  refine oe X0 hx hZ e0 V_t hby d7_2 ?_
  refine own_isub X0.here hx hby d7_3 (v := (-1 : Int32)) (by decide) ?_
  refine od4 X0.here hx hby d7_4 (v := (31 : Int32)) (by decide) ?_
  refine own_iushr X0.here hx hby d7_6 (v := (1 : Int32)) (by decide) ?_
  refine of5 X0.here hx hby d7_7 (v := (1 : Int32)) (by decide) ?_
  refine oa9 X0 Bd.notSynchronized (v := some (.int 1)) (ob4 Bd.returns) (fun _ hr => retN X0 hx (t := .byte) Bd.returns (by simp) (hb hby d7_8) hr) e0 (by decide) (by decide) ?_
  exact ⟨rfl, N0, rfl⟩
def Q_cfl_2 (Z : State) (t : Nat) (kb : ClassId) (c0 : Int32) (c1 : Int32) (h0 : Heap) (n0 : Nat) (vR : Option Value) (hR : Heap) (LR : List Loc) : Prop := vR = some (.int 1) ∧ Fr n0 LR ∧ hR = h0
theorem cfl_2 (l : Launch) (Z : State) (a0 : Array Value) (hw : ∀ d ∈ tables_1, d.before a0 Z = true) (ws : List Jvm.Cond) (t : Nat) (kb : ClassId) (c0 : Int32) (c1 : Int32) (h0 : Heap) (n0 : Nat) (Z0 : n0 ≤ h0.size) (V_t : Arv Z h0 t kb .byte (4 : Int32) [(.int ((c0 >>> ((0 : Int32) &&& 31)).toInt8.toInt32)), (.int ((c0 >>> ((8 : Int32) &&& 31)).toInt8.toInt32)), (.int ((c1 >>> ((0 : Int32) &&& 31)).toInt8.toInt32)), (.int ((c1 >>> ((8 : Int32) &&& 31)).toInt8.toInt32))] (.int 0)) :
    oc2 l (⟨"java/lang/StringUTF16", "coderFromArrayLen", "([BI)B"⟩ : MethodName) jdk_52_method_15_code 2 (some .byte) ws ({ frames := 0, cells := 0, slots := 0, locals := 0 } : Room) Z #[(.ref t), (.int 2)] h0 (Q_cfl_2 Z t kb c0 c1 h0 n0) := by
  refine ob3 (own := "java/lang/StringUTF16") rfl (plainFor_of_name pn_7) (fun m => ef_cfl_1 m t (2 : Int32)) ?_
  intro p e s m below meth c s₁ Bd hml hZ hh hx hby hown X0 e0
  have N0 := Fr.nil n0
  have lt2 : h0.size > t := V_t.lt
  refine oa X0.here hx hby d7_0 rfl ?_
  refine oa2 X0.here hx hby d7_1 rfl rfl ?_
  refine oe X0 hx hZ e0 V_t hby d7_2 ?_
  refine own_isub X0.here hx hby d7_3 (v := (-2 : Int32)) (by decide) ?_
  refine od4 X0.here hx hby d7_4 (v := (31 : Int32)) (by decide) ?_
  refine own_iushr X0.here hx hby d7_6 (v := (1 : Int32)) (by decide) ?_
  refine of5 X0.here hx hby d7_7 (v := (1 : Int32)) (by decide) ?_
  refine oa9 X0 Bd.notSynchronized (v := some (.int 1)) (ob4 Bd.returns) (fun _ hr => retN X0 hx (t := .byte) Bd.returns (by simp) (hb hby d7_8) hr) e0 (by decide) (by decide) ?_
  exact ⟨rfl, N0, rfl⟩
def Q_cfl_3 (Z : State) (t : Nat) (kb : ClassId) (c0 : Int32) (c1 : Int32) (c2 : Int32) (h0 : Heap) (n0 : Nat) (vR : Option Value) (hR : Heap) (LR : List Loc) : Prop := vR = some (.int 1) ∧ Fr n0 LR ∧ hR = h0
theorem cfl_3 (l : Launch) (Z : State) (a0 : Array Value) (hw : ∀ d ∈ tables_1, d.before a0 Z = true) (ws : List Jvm.Cond) (t : Nat) (kb : ClassId) (c0 : Int32) (c1 : Int32) (c2 : Int32) (h0 : Heap) (n0 : Nat) (Z0 : n0 ≤ h0.size) (V_t : Arv Z h0 t kb .byte (6 : Int32) [(.int ((c0 >>> ((0 : Int32) &&& 31)).toInt8.toInt32)), (.int ((c0 >>> ((8 : Int32) &&& 31)).toInt8.toInt32)), (.int ((c1 >>> ((0 : Int32) &&& 31)).toInt8.toInt32)), (.int ((c1 >>> ((8 : Int32) &&& 31)).toInt8.toInt32)), (.int ((c2 >>> ((0 : Int32) &&& 31)).toInt8.toInt32)), (.int ((c2 >>> ((8 : Int32) &&& 31)).toInt8.toInt32))] (.int 0)) :
    oc2 l (⟨"java/lang/StringUTF16", "coderFromArrayLen", "([BI)B"⟩ : MethodName) jdk_52_method_15_code 2 (some .byte) ws ({ frames := 0, cells := 0, slots := 0, locals := 0 } : Room) Z #[(.ref t), (.int 3)] h0 (Q_cfl_3 Z t kb c0 c1 c2 h0 n0) := by
  refine ob3 (own := "java/lang/StringUTF16") rfl (plainFor_of_name pn_7) (fun m => ef_cfl_1 m t (3 : Int32)) ?_
  intro p e s m below meth c s₁ Bd hml hZ hh hx hby hown X0 e0
  have N0 := Fr.nil n0
  have lt3 : h0.size > t := V_t.lt
  refine oa X0.here hx hby d7_0 rfl ?_
  refine oa2 X0.here hx hby d7_1 rfl rfl ?_
  refine oe X0 hx hZ e0 V_t hby d7_2 ?_
  refine own_isub X0.here hx hby d7_3 (v := (-3 : Int32)) (by decide) ?_
  refine od4 X0.here hx hby d7_4 (v := (31 : Int32)) (by decide) ?_
  refine own_iushr X0.here hx hby d7_6 (v := (1 : Int32)) (by decide) ?_
  refine of5 X0.here hx hby d7_7 (v := (1 : Int32)) (by decide) ?_
  refine oa9 X0 Bd.notSynchronized (v := some (.int 1)) (ob4 Bd.returns) (fun _ hr => retN X0 hx (t := .byte) Bd.returns (by simp) (hb hby d7_8) hr) e0 (by decide) (by decide) ?_
  exact ⟨rfl, N0, rfl⟩
theorem ef_cmp2_1_0 (m : MethodId) (x0 : Nat) (x1 : Int32) (x2 : Nat) (x3 : Int32) (x4 : Int32) : entryFrame m #[(.ref x0), (.int x1), (.ref x2), (.int x3), (.int x4)] 7 = mkF m 0 #[.val (.ref x0), .val (.int x1), .val (.ref x2), .val (.int x3), .val (.int x4), .unset, .unset] [] := by first | (simp [entryFrame, mkF, argsToLocals, Value.category]; done) | rfl
theorem pn_6 : plainName "java/lang/StringUTF16" = true := by first | (simp [plainName, overriddenIn]; done) | decide +kernel
theorem d6_0 : decode jdk_52_method_21_code 0 = .ok (.iconst 0, 1) := by decide +kernel
theorem d6_1 : decode jdk_52_method_21_code 1 = .ok (.istore 5, 2) := by decide +kernel
theorem d6_3 : decode jdk_52_method_21_code 3 = .ok (.iload 5, 2) := by decide +kernel
theorem d6_5 : decode jdk_52_method_21_code 5 = .ok (.iload 4, 2) := by decide +kernel
theorem d6_7 : decode jdk_52_method_21_code 7 = .ok (.if_icmp .ge 37, 3) := by decide +kernel
theorem d6_10 : decode jdk_52_method_21_code 10 = .ok (.aload_n 0, 1) := by decide +kernel
theorem d6_11 : decode jdk_52_method_21_code 11 = .ok (.iload_n 1, 1) := by decide +kernel
theorem d6_12 : decode jdk_52_method_21_code 12 = .ok (.caload, 1) := by decide +kernel
theorem d6_13 : decode jdk_52_method_21_code 13 = .ok (.istore 6, 2) := by decide +kernel
theorem d6_15 : decode jdk_52_method_21_code 15 = .ok (.iload 6, 2) := by decide +kernel
theorem d6_17 : decode jdk_52_method_21_code 17 = .ok (.sipush 255, 3) := by decide +kernel
theorem d6_20 : decode jdk_52_method_21_code 20 = .ok (.if_icmp .le 6, 3) := by decide +kernel
theorem d6_23 : decode jdk_52_method_21_code 23 = .ok (.iload 5, 2) := by decide +kernel
theorem d6_25 : decode jdk_52_method_21_code 25 = .ok (.ireturn, 1) := by decide +kernel
def Q_cmp2_1_0 (Z : State) (b : Nat) (t : Nat) (kC : ClassId) (kb : ClassId) (c0 : Int32) (h0 : Heap) (n0 : Nat) (vR : Option Value) (hR : Heap) (LR : List Loc) : Prop := vR = some (.int 0) ∧ Fr n0 LR ∧ Keep h0 hR [t]
theorem cmp2_1_0 (l : Launch) (Z : State) (a0 : Array Value) (hw : ∀ d ∈ tables_1, d.before a0 Z = true) (ws : List Jvm.Cond) (b : Nat) (t : Nat) (kC : ClassId) (kb : ClassId) (c0 : Int32) (h0 : Heap) (n0 : Nat) (Z0 : n0 ≤ h0.size) (V_b : Arv Z h0 b kC .char (1 : Int32) [(.int c0)] (.int 0)) (V_t : Arv Z h0 t kb .byte (1 : Int32) [(.int 0)] (.int 0)) (g_t : n0 ≤ t) (g_ : (255 : Int32) < c0) :
    oc2 l (⟨"java/lang/StringUTF16", "compress", "([CI[BII)I"⟩ : MethodName) jdk_52_method_21_code 7 (some .int) ws ({ frames := 0, cells := 0, slots := 0, locals := 0 } : Room) Z #[(.ref b), (.int 0), (.ref t), (.int 0), (.int 1)] h0 (Q_cmp2_1_0 Z b t kC kb c0 h0 n0) := by
  refine ob3 (own := "java/lang/StringUTF16") rfl (plainFor_of_name pn_6) (fun m => ef_cmp2_1_0 m b (0 : Int32) t (0 : Int32) (1 : Int32)) ?_
  intro p e s m below meth c s₁ Bd hml hZ hh hx hby hown X0 e0
  have N0 := Fr.nil n0
  have lt1 : h0.size > b := V_b.lt
  have lt2 : h0.size > t := V_t.lt
  refine oa4 X0.here hx hby d6_0 (v := (0 : Int32)) (by decide) ?_
  refine ob8 X0.here hx hby d6_1 (l' := #[.val (.ref b), .val (.int 0), .val (.ref t), .val (.int 0), .val (.int 1), .val (.int 0), .unset]) rfl ?_
  refine oa8 X0.here hx hby d6_3 rfl ?_
  refine oa8 X0.here hx hby d6_5 rfl ?_
  refine oa7 X0.here hx hby d6_7 (tlt (show (0 : Int32) < (1 : Int32) from (by decide))).2.1 ?_
  refine oa2 X0.here hx hby d6_10 rfl rfl ?_
  refine oa X0.here hx hby d6_11 rfl ?_
  refine oc6 X0 hx hZ e0 V_b ⟨by decide, by decide⟩ (v := (.int c0)) rfl hby d6_12 ?_
  refine ob8 X0.here hx hby d6_13 (l' := #[.val (.ref b), .val (.int 0), .val (.ref t), .val (.int 0), .val (.int 1), .val (.int 0), .val (.int c0)]) rfl ?_
  refine oa8 X0.here hx hby d6_15 rfl ?_
  refine od0 X0.here hx hby d6_17 (v := (255 : Int32)) (by decide) ?_
  refine oa7 X0.here hx hby d6_20 (tlt g_).2.2.2 ?_
  refine oa8 X0.here hx hby d6_23 rfl ?_
  have K3 : Keep h0 h0 [t] := (Keep.refl h0 [t])
  refine oa9 X0 Bd.notSynchronized (v := some (.int 0)) (ob4 Bd.returns) (fun _ hr => retOut X0 hx Bd.returns rfl (Or.inl ⟨rfl, Or.inl rfl, _, rfl⟩) (hb hby d6_25) hr) e0 (by decide) (by decide) ?_
  exact ⟨rfl, N0, K3⟩
theorem ef_cmpr_1_0 (m : MethodId) (x0 : Nat) (x1 : Int32) (x2 : Int32) : entryFrame m #[(.ref x0), (.int x1), (.int x2)] 6 = mkF m 0 #[.val (.ref x0), .val (.int x1), .val (.int x2), .unset, .unset, .unset] [] := by first | (simp [entryFrame, mkF, argsToLocals, Value.category]; done) | rfl
theorem pn_5 : plainName "java/lang/StringUTF16" = true := by first | (simp [plainName, overriddenIn]; done) | decide +kernel
theorem d5_0 : decode jdk_52_method_16_code 0 = .ok (.iload_n 2, 1) := by decide +kernel
theorem d5_1 : decode jdk_52_method_16_code 1 = .ok (.newarray .byte, 2) := by decide +kernel
theorem d5_3 : decode jdk_52_method_16_code 3 = .ok (.astore_n 3, 1) := by decide +kernel
theorem d5_4 : decode jdk_52_method_16_code 4 = .ok (.aload_n 0, 1) := by decide +kernel
theorem d5_5 : decode jdk_52_method_16_code 5 = .ok (.iload_n 1, 1) := by decide +kernel
theorem d5_6 : decode jdk_52_method_16_code 6 = .ok (.aload_n 3, 1) := by decide +kernel
theorem d5_7 : decode jdk_52_method_16_code 7 = .ok (.iconst 0, 1) := by decide +kernel
theorem d5_8 : decode jdk_52_method_16_code 8 = .ok (.iload_n 2, 1) := by decide +kernel
theorem d5_9 : decode jdk_52_method_16_code 9 = .ok (.invokestatic 115, 3) := by decide +kernel
theorem pd_15 : parseMethodDescriptor "([CI[BII)I" = some ⟨[(.array .char), .int, (.array .byte), .int, .int], some .int⟩ := by decide +kernel
theorem d5_12 : decode jdk_52_method_16_code 12 = .ok (.istore 4, 2) := by decide +kernel
theorem d5_14 : decode jdk_52_method_16_code 14 = .ok (.iload 4, 2) := by decide +kernel
theorem d5_16 : decode jdk_52_method_16_code 16 = .ok (.iload_n 2, 1) := by decide +kernel
theorem d5_17 : decode jdk_52_method_16_code 17 = .ok (.if_icmp .eq 40, 3) := by decide +kernel
theorem d5_20 : decode jdk_52_method_16_code 20 = .ok (.aload_n 0, 1) := by decide +kernel
theorem d5_21 : decode jdk_52_method_16_code 21 = .ok (.iload_n 1, 1) := by decide +kernel
theorem d5_22 : decode jdk_52_method_16_code 22 = .ok (.iload_n 2, 1) := by decide +kernel
theorem d5_23 : decode jdk_52_method_16_code 23 = .ok (.invokestatic 119, 3) := by decide +kernel
theorem pd_16 : parseMethodDescriptor "([CII)[B" = some ⟨[(.array .char), .int, .int], some (.array .byte)⟩ := by decide +kernel
theorem d5_26 : decode jdk_52_method_16_code 26 = .ok (.astore 5, 2) := by decide +kernel
theorem d5_28 : decode jdk_52_method_16_code 28 = .ok (.aload 5, 2) := by decide +kernel
theorem d5_30 : decode jdk_52_method_16_code 30 = .ok (.iload 4, 2) := by decide +kernel
theorem d5_32 : decode jdk_52_method_16_code 32 = .ok (.invokestatic 71, 3) := by decide +kernel
theorem d5_35 : decode jdk_52_method_16_code 35 = .ok (.sipush 255, 3) := by decide +kernel
theorem d5_38 : decode jdk_52_method_16_code 38 = .ok (.if_icmp .gt 16, 3) := by decide +kernel
theorem d5_54 : decode jdk_52_method_16_code 54 = .ok (.aload 5, 2) := by decide +kernel
theorem d5_56 : decode jdk_52_method_16_code 56 = .ok (.areturn, 1) := by decide +kernel
def Q_cmpr_1_0 (Z : State) (b : Nat) (kC : ClassId) (c0 : Int32) (h0 : Heap) (n0 : Nat) (vR : Option Value) (hR : Heap) (LR : List Loc) : Prop := ∃ (t : Nat) (kb : ClassId), vR = some (.ref t) ∧ Fr n0 LR ∧ Keep h0 hR [] ∧ h0.size ≤ t ∧ (Arv Z hR t kb .byte (2 : Int32) [(.int ((c0 >>> ((0 : Int32) &&& 31)).toInt8.toInt32)), (.int ((c0 >>> ((8 : Int32) &&& 31)).toInt8.toInt32))] (.int 0))
theorem cmpr_1_0 (l : Launch) (Z : State) (a0 : Array Value) (hw : ∀ d ∈ tables_1, d.before a0 Z = true) (ws : List Jvm.Cond) (b : Nat) (kC : ClassId) (c0 : Int32) (h0 : Heap) (n0 : Nat) (Z0 : n0 ≤ h0.size) (V_b : Arv Z h0 b kC .char (1 : Int32) [(.int c0)] (.int 0)) (S_AD : Sta Z h0 "java/lang/StringUTF16" "$assertionsDisabled" "Z" (.int 1)) (S_HI : Sta Z h0 "java/lang/StringUTF16" "HI_BYTE_SHIFT" "I" (.int 0)) (S_LO : Sta Z h0 "java/lang/StringUTF16" "LO_BYTE_SHIFT" "I" (.int 8)) (g_ : (255 : Int32) < c0) (h0_c0 : ¬ (c0 < (0 : Int32))) (h1_c0 : ¬ ((65535 : Int32) < c0)) :
    oc2 l (⟨"java/lang/StringUTF16", "compress", "([CII)[B"⟩ : MethodName) jdk_52_method_16_code 6 (some (.array .byte)) ws ({ frames := 3, cells := 2, slots := 3, locals := 40 } : Room) Z #[(.ref b), (.int 0), (.int 1)] h0 (Q_cmpr_1_0 Z b kC c0 h0 n0) := by
  refine ob3 (own := "java/lang/StringUTF16") rfl (plainFor_of_name pn_5) (fun m => ef_cmpr_1_0 m b (0 : Int32) (1 : Int32)) ?_
  intro p e s m below meth c s₁ Bd hml hZ hh hx hby hown X0 e0
  have N0 := Fr.nil n0
  have lt1 : h0.size > b := V_b.lt
  refine oa X0.here hx hby d5_0 rfl ?_
  refine of3 X0 hx hZ (aty := .byte) (oa0 hw 24 rfl) e0 hby d5_1 (by decide) 1 (by decide) (by decide) (by decide) (by decide) (ad := "[B") (by decide) ?_
  intro T2 h2 k2 b2 X2 e2 E2 g2 V2 C2 lt2
  have z3 : h0.size ≤ h2.size := E2.1
  have V4 : Arv Z h2 b2 k2 .byte (1 : Int32) [(.int 0)] (.int 0) := V2.pad (pad_rep [] (.int 0) 1)
  refine of8 X2.here hx hby d5_3 rfl (l' := #[.val (.ref b), .val (.int 0), .val (.int 1), .val (.ref b2), .unset, .unset]) rfl ?_
  refine oa2 X2.here hx hby d5_4 rfl rfl ?_
  refine oa X2.here hx hby d5_5 rfl ?_
  refine oa2 X2.here hx hby d5_6 rfl rfl ?_
  refine oa4 X2.here hx hby d5_7 (v := (0 : Int32)) (by decide) ?_
  refine oa X2.here hx hby d5_8 rfl ?_
  have f5 := (V_b.ext E2)
  have z7 : n0 ≤ h2.size := by omega
  refine oa3 X2 hx hZ hown (oa0 hw 25 rfl) (oa0 hw 26 rfl) (oa0 hw 22 rfl) (oa0 hw 27 rfl) (by decide) (cmp2_1_0 l Z a0 hw [] b b2 kC k2 c0 h2 n0 z7 f5 V4 (by omega) g_) 0 hml rfl (argsL := [(.ref b), (.int 0), (.ref b2), (.int 0), (.int 1)]) (st := []) (lenOf pd_15 rfl) rfl rfl e2 hby d5_9 ?_
  intro T6 v6 L6 X6 hQ6
  obtain ⟨rfl, Nq6, K6⟩ := hQ6
  have N6 := Fr.app N0 Nq6
  have z8 : h2.size ≤ T6.heap.size := K6.1
  refine oa5 (T := T6) 12 #[.val (.ref b), .val (.int 0), .val (.int 1), .val (.ref b2), .unset, .unset] [(.int 0)] ?_
  refine ob8 X6.here hx hby d5_12 (l' := #[.val (.ref b), .val (.int 0), .val (.int 1), .val (.ref b2), .val (.int 0), .unset]) rfl ?_
  refine oa8 X6.here hx hby d5_14 rfl ?_
  refine oa X6.here hx hby d5_16 rfl ?_
  refine oa7 X6.here hx hby d5_17 (feq (show ¬ ((0 : Int32) = (1 : Int32)) from (by decide))).1 ?_
  refine oa2 X6.here hx hby d5_20 rfl rfl ?_
  refine oa X6.here hx hby d5_21 rfl ?_
  refine oa X6.here hx hby d5_22 rfl ?_
  have f9 := (f5.keep K6 (ninS (oc4 (by omega)) nin0))
  have f10 := (ob (S_AD.ext E2) K6 (allS (ob5 C2) all0))
  have f11 := (ob (S_HI.ext E2) K6 (allS (ob5 C2) all0))
  have f12 := (ob (S_LO.ext E2) K6 (allS (ob5 C2) all0))
  have z14 : n0 ≤ T6.heap.size := by omega
  refine oa3 X6 hx hZ hown (oa0 hw 93 rfl) (oa0 hw 94 rfl) (oa0 hw 22 rfl) (oa0 hw 95 rfl) (by decide) (toB_1 l Z a0 hw [] b kC c0 T6.heap n0 z14 f9 f10 f11 f12) 0 hml rfl (argsL := [(.ref b), (.int 0), (.int 1)]) (st := []) (lenOf pd_16 rfl) rfl rfl rfl hby d5_23 ?_
  intro T13 v13 L13 X13 hQ13
  obtain ⟨t_13, kb_13, rfl, Nq13, K13, P13_0, P13_1⟩ := hQ13
  have N13 := Fr.app N6 Nq13
  have z15 : T6.heap.size ≤ T13.heap.size := K13.1
  have lt16 : T13.heap.size > t_13 := P13_1.lt
  refine oa5 (T := T13) 26 #[.val (.ref b), .val (.int 0), .val (.int 1), .val (.ref b2), .val (.int 0), .unset] [(.ref t_13)] ?_
  refine od5 X13.here hx hby d5_26 rfl (l' := #[.val (.ref b), .val (.int 0), .val (.int 1), .val (.ref b2), .val (.int 0), .val (.ref t_13)]) rfl ?_
  refine oc7 X13.here hx hby d5_28 rfl rfl ?_
  refine oa8 X13.here hx hby d5_30 rfl ?_
  have f17 := (ob f10 K13 all0)
  have f18 := (ob f11 K13 all0)
  have f19 := (ob f12 K13 all0)
  have z21 : n0 ≤ T13.heap.size := by omega
  refine oa3 X13 hx hZ hown (oa0 hw 109 rfl) (oa0 hw 110 rfl) (oa0 hw 22 rfl) (oa0 hw 111 rfl) (by decide) (getCh_0_1 l Z a0 hw [] t_13 kb_13 c0 T13.heap n0 z21 P13_1 f17 f18 f19 h0_c0 h1_c0) 0 hml rfl (argsL := [(.ref t_13), (.int 0)]) (st := []) (lenOf pd_7 rfl) rfl rfl rfl hby d5_32 ?_
  intro T20 v20 L20 X20 hQ20
  obtain ⟨rfl, Nq20, eh20⟩ := hQ20
  have N20 := Fr.app N13 Nq20
  refine oa5 (T := T20) 35 #[.val (.ref b), .val (.int 0), .val (.int 1), .val (.ref b2), .val (.int 0), .val (.ref t_13)] [(.int c0)] ?_
  refine od0 X20.here hx hby d5_35 (v := (255 : Int32)) (by decide) ?_
  refine ob2 X20.here hx hby (pc' := 54) d5_38 (tlt g_).2.2.1 (by decide) (by decide) ?_
  refine oc7 X20.here hx hby d5_54 rfl rfl ?_
  have K22 : Keep h0 T13.heap [] := ((((Keep.refl h0 []).ext E2).trans K6 (allS (P := fun xq_ => xq_ ∈ [] ∨ h0.size ≤ xq_) (Or.inr (by omega)) all0)).trans K13 all0)
  refine oa9 X20 Bd.notSynchronized (v := some (.ref t_13)) (ob4 Bd.returns) (fun _ hr => retOut X20 hx Bd.returns rfl (Or.inr (Or.inr (Or.inr (Or.inr ⟨rfl, rfl, rfl⟩)))) (hb hby d5_56) hr) eh20 (by decide) (by decide) ?_
  exact ⟨t_13, kb_13, rfl, N20, K22, (by omega), P13_1⟩
theorem d3_27 : decode jdk_42_method_149_code 27 = .ok (.getstatic 38, 3) := by decide +kernel
theorem d3_30 : decode jdk_42_method_149_code 30 = .ok (.ifCond .eq 28, 3) := by decide +kernel
theorem d3_33 : decode jdk_42_method_149_code 33 = .ok (.aload_n 1, 1) := by decide +kernel
theorem d3_34 : decode jdk_42_method_149_code 34 = .ok (.iload_n 2, 1) := by decide +kernel
theorem d3_35 : decode jdk_42_method_149_code 35 = .ok (.iload_n 3, 1) := by decide +kernel
theorem d3_36 : decode jdk_42_method_149_code 36 = .ok (.invokestatic 177, 3) := by decide +kernel
theorem d3_39 : decode jdk_42_method_149_code 39 = .ok (.astore 5, 2) := by decide +kernel
theorem d3_41 : decode jdk_42_method_149_code 41 = .ok (.aload_n 0, 1) := by decide +kernel
theorem d3_42 : decode jdk_42_method_149_code 42 = .ok (.aload 5, 2) := by decide +kernel
theorem d3_44 : decode jdk_42_method_149_code 44 = .ok (.iload_n 3, 1) := by decide +kernel
theorem d3_45 : decode jdk_42_method_149_code 45 = .ok (.invokestatic 47, 3) := by decide +kernel
theorem pd_17 : parseMethodDescriptor "([BI)B" = some ⟨[(.array .byte), .int], some .byte⟩ := by decide +kernel
theorem d3_48 : decode jdk_42_method_149_code 48 = .ok (.putfield 15, 3) := by decide +kernel
theorem d3_51 : decode jdk_42_method_149_code 51 = .ok (.aload_n 0, 1) := by decide +kernel
theorem d3_52 : decode jdk_42_method_149_code 52 = .ok (.aload 5, 2) := by decide +kernel
theorem d3_54 : decode jdk_42_method_149_code 54 = .ok (.putfield 9, 3) := by decide +kernel
theorem d3_57 : decode jdk_42_method_149_code 57 = .ok (.return_, 1) := by decide +kernel
def Q_sU4_1_0 (Z : State) (x : Nat) (b : Nat) (kC : ClassId) (zc : Int32) (c0 : Int32) (h0 : Heap) (n0 : Nat) (vR : Option Value) (hR : Heap) (LR : List Loc) : Prop := ∃ (t : Nat) (kb : ClassId), vR = none ∧ Fr n0 LR ∧ Keep h0 hR [x] ∧ h0.size ≤ t ∧ (Exa Z hR x "java/lang/String") ∧ (Fld Z hR x "java/lang/String" "coder" "B" (.int 1)) ∧ (Fld Z hR x "java/lang/String" "value" "[B" (.ref t)) ∧ (Arv Z hR t kb .byte (2 : Int32) [(.int ((c0 >>> ((0 : Int32) &&& 31)).toInt8.toInt32)), (.int ((c0 >>> ((8 : Int32) &&& 31)).toInt8.toInt32))] (.int 0))
theorem sU4_1_0 (l : Launch) (Z : State) (a0 : Array Value) (hw : ∀ d ∈ tables_1, d.before a0 Z = true) (ws : List Jvm.Cond) (x : Nat) (b : Nat) (kC : ClassId) (zc : Int32) (c0 : Int32) (h0 : Heap) (n0 : Nat) (Z0 : n0 ≤ h0.size) (E_x : Exa Z h0 x "java/lang/String") (g_x : n0 ≤ x) (Fv_x : Fld Z h0 x "java/lang/String" "value" "[B" .null) (Fc_x : Fld Z h0 x "java/lang/String" "coder" "B" (.int 0)) (V_b : Arv Z h0 b kC .char (1 : Int32) [(.int c0)] (.int 0)) (S_C : Sta Z h0 "java/lang/String" "COMPACT_STRINGS" "Z" (.int zc)) (hz : ¬ (zc = (0 : Int32))) (S_AD : Sta Z h0 "java/lang/StringUTF16" "$assertionsDisabled" "Z" (.int 1)) (S_HI : Sta Z h0 "java/lang/StringUTF16" "HI_BYTE_SHIFT" "I" (.int 0)) (S_LO : Sta Z h0 "java/lang/StringUTF16" "LO_BYTE_SHIFT" "I" (.int 8)) (g_ : (255 : Int32) < c0) (h0_c0 : ¬ (c0 < (0 : Int32))) (h1_c0 : ¬ ((65535 : Int32) < c0)) :
    oc2 l (⟨"java/lang/String", "<init>", "([CIILjava/lang/Void;)V"⟩ : MethodName) jdk_42_method_149_code 6 none ws ({ frames := 4, cells := 2, slots := 3, locals := 57 } : Room) Z #[(.ref x), (.ref b), (.int 0), (.int 1), .null] h0 (Q_sU4_1_0 Z x b kC zc c0 h0 n0) := by
  refine ob3 (own := "java/lang/String") rfl (plainFor_of_name pn_3) (fun m => ef_strE4 m x b (0 : Int32) (1 : Int32)) ?_
  intro p e s m below meth c s₁ Bd hml hZ hh hx hby hown X0 e0
  have N0 := Fr.nil n0
  have lt1 : h0.size > x := E_x.lt
  have lt2 : h0.size > b := V_b.lt
  refine oa2 X0.here hx hby d3_0 rfl rfl ?_
  refine og3 X0 hx hZ hown (oa0 hw 16 rfl) (oa0 hw 17 rfl) (oa0 hw 18 rfl) e0 (by rw [hml]; rfl) hby d3_1 (by decide) 0 (Nat.le_of_eq rfl) (by decide) ?_
  intro T3 X3 e3
  refine oa X3.here hx hby d3_4 rfl ?_
  refine ob1 X3.here hx hby (pc' := 27) d3_5 ((if0 _ _).trans (feq (show ¬ ((1 : Int32) = (0 : Int32)) from (by decide))).2) (by decide) (by decide) ?_
  refine oc3 X3 hx hZ hown (host := "") (Or.inl (oa0 hw 19 rfl)) Via.refl e3 S_C hby d3_27 ?_
  intro T4 X4 e4
  refine ob7 X4.here hx hby d3_30 ((if0 _ _).trans (feq hz).1) ?_
  refine oa2 X4.here hx hby d3_33 rfl rfl ?_
  refine oa X4.here hx hby d3_34 rfl ?_
  refine oa X4.here hx hby d3_35 rfl ?_
  refine oa3 X4 hx hZ hown (oa0 hw 20 rfl) (oa0 hw 21 rfl) (oa0 hw 22 rfl) (oa0 hw 23 rfl) (by decide) (cmpr_1_0 l Z a0 hw [] b kC c0 h0 n0 Z0 V_b S_AD S_HI S_LO g_ h0_c0 h1_c0) 0 hml rfl (argsL := [(.ref b), (.int 0), (.int 1)]) (st := []) (lenOf pd_16 rfl) rfl rfl e4 hby d3_36 ?_
  intro T5 v5 L5 X5 hQ5
  obtain ⟨t_5, kb_5, rfl, Nq5, K5, P5_0, P5_1⟩ := hQ5
  have N5 := Fr.app N0 Nq5
  have z6 : h0.size ≤ T5.heap.size := K5.1
  have lt7 : T5.heap.size > t_5 := P5_1.lt
  refine oa5 (T := T5) 39 #[.val (.ref x), .val (.ref b), .val (.int 0), .val (.int 1), .val .null, .unset] [(.ref t_5)] ?_
  refine od5 X5.here hx hby d3_39 rfl (l' := #[.val (.ref x), .val (.ref b), .val (.int 0), .val (.int 1), .val .null, .val (.ref t_5)]) rfl ?_
  refine oa2 X5.here hx hby d3_41 rfl rfl ?_
  refine oc7 X5.here hx hby d3_42 rfl rfl ?_
  refine oa X5.here hx hby d3_44 rfl ?_
  have z9 : n0 ≤ T5.heap.size := by omega
  refine oa3 X5 hx hZ hown (oa0 hw 28 rfl) (oa0 hw 29 rfl) (oa0 hw 22 rfl) (oa0 hw 30 rfl) (by decide) (cfl_1 l Z a0 hw [] t_5 kb_5 c0 T5.heap n0 z9 P5_1) 1 hml rfl (argsL := [(.ref t_5), (.int 1)]) (st := [(.ref x)]) (lenOf pd_17 rfl) rfl rfl rfl hby d3_45 ?_
  intro T8 v8 L8 X8 hQ8
  obtain ⟨rfl, Nq8, eh8⟩ := hQ8
  have N8 := Fr.app N5 Nq8
  refine oa5 (T := T8) 48 #[.val (.ref x), .val (.ref b), .val (.int 0), .val (.int 1), .val .null, .val (.ref t_5)] [(.int 1), (.ref x)] ?_
  have f10 := (E_x.keep K5)
  have f11 := (Fc_x.keep K5 nin0)
  refine og2 X8 hx hZ (ty := .byte) (v' := (.int 1)) hown (oa0 hw 31 rfl) Via.refl eh8 f11 f10 (Or.inr ⟨(oa0 hw 32 rfl), rfl, (name_of_methodNamed Bd.named Bd.method).1⟩) (oa0 hw 7 rfl) (by decide) rfl rfl hby d3_48 N8 g_x ?_
  intro T12 h12 lo12 X12 e12 N12 W12 F12 z12
  refine oa2 X12.here hx hby d3_51 rfl rfl ?_
  refine oc7 X12.here hx hby d3_52 rfl rfl ?_
  have f13 := (f10.wr W12)
  have f14 := ((Fv_x.keep K5 nin0).other W12 (Or.inr (slot_ne (Or.inr (oa0 hw 34 rfl)) (Or.inr (oa0 hw 32 rfl)) (by decide) (t := (.array .byte)) (t' := .byte) (by decide) (by decide))))
  refine og8 X12 hx hZ (ty := (.array .byte)) hown (host := "") (Or.inl (oa0 hw 33 rfl)) Via.refl e12 f14 f13 (Or.inr ⟨(oa0 hw 34 rfl), rfl, (name_of_methodNamed Bd.named Bd.method).1⟩) (oa0 hw 7 rfl) (by decide) rfl rfl hby d3_54 N12 g_x ?_
  intro T15 h15 lo15 X15 e15 N15 W15 F15 z15
  have K16 : Keep h0 h15 [x] := ((((Keep.refl h0 [x]).trans K5 all0).wr W12 (Or.inl (List.mem_of_getElem? (i := 0) rfl))).wr W15 (Or.inl (List.mem_of_getElem? (i := 0) rfl)))
  have f17 := (f13.wr W15)
  have f18 := (F12.other W15 (Or.inr (slot_ne (Or.inr (oa0 hw 32 rfl)) (Or.inr (oa0 hw 34 rfl)) (by decide) (t := .byte) (t' := (.array .byte)) (by decide) (by decide))))
  have f19 := ((P5_1.other W12 (oc4 (by omega))).other W15 (oc4 (by omega)))
  refine oa9 X15 Bd.notSynchronized (v := none) (fun _ => rfl) (fun _ hr => X15.returnOut hx Bd.returns (hb hby d3_57) hr) e15 (by decide) (by decide) ?_
  exact ⟨t_5, kb_5, rfl, N15, K16, (by omega), f17, f18, F15, f19⟩
def Q_sU1_1_0 (Z : State) (x : Nat) (b : Nat) (kC : ClassId) (zc : Int32) (c0 : Int32) (h0 : Heap) (n0 : Nat) (vR : Option Value) (hR : Heap) (LR : List Loc) : Prop := ∃ (t : Nat) (kb : ClassId), vR = none ∧ Fr n0 LR ∧ Keep h0 hR [x] ∧ h0.size ≤ t ∧ (Exa Z hR x "java/lang/String") ∧ (Fld Z hR x "java/lang/String" "coder" "B" (.int 1)) ∧ (Fld Z hR x "java/lang/String" "value" "[B" (.ref t)) ∧ (Arv Z hR t kb .byte (2 : Int32) [(.int ((c0 >>> ((0 : Int32) &&& 31)).toInt8.toInt32)), (.int ((c0 >>> ((8 : Int32) &&& 31)).toInt8.toInt32))] (.int 0))
theorem sU1_1_0 (l : Launch) (Z : State) (a0 : Array Value) (hw : ∀ d ∈ tables_1, d.before a0 Z = true) (ws : List Jvm.Cond) (x : Nat) (b : Nat) (kC : ClassId) (zc : Int32) (c0 : Int32) (h0 : Heap) (n0 : Nat) (Z0 : n0 ≤ h0.size) (E_x : Exa Z h0 x "java/lang/String") (g_x : n0 ≤ x) (Fv_x : Fld Z h0 x "java/lang/String" "value" "[B" .null) (Fc_x : Fld Z h0 x "java/lang/String" "coder" "B" (.int 0)) (V_b : Arv Z h0 b kC .char (1 : Int32) [(.int c0)] (.int 0)) (S_C : Sta Z h0 "java/lang/String" "COMPACT_STRINGS" "Z" (.int zc)) (hz : ¬ (zc = (0 : Int32))) (S_AD : Sta Z h0 "java/lang/StringUTF16" "$assertionsDisabled" "Z" (.int 1)) (S_HI : Sta Z h0 "java/lang/StringUTF16" "HI_BYTE_SHIFT" "I" (.int 0)) (S_LO : Sta Z h0 "java/lang/StringUTF16" "LO_BYTE_SHIFT" "I" (.int 8)) (g_ : (255 : Int32) < c0) (h0_c0 : ¬ (c0 < (0 : Int32))) (h1_c0 : ¬ ((65535 : Int32) < c0)) :
    oc2 l (⟨"java/lang/String", "<init>", "([C)V"⟩ : MethodName) jdk_42_method_3_code 2 none ws ({ frames := 5, cells := 2, slots := 3, locals := 74 } : Room) Z #[(.ref x), (.ref b)] h0 (Q_sU1_1_0 Z x b kC zc c0 h0 n0) := by
  refine ob3 (own := "java/lang/String") rfl (plainFor_of_name pn_2) (fun m => ef_strE1 m x b) ?_
  intro p e s m below meth c s₁ Bd hml hZ hh hx hby hown X0 e0
  have N0 := Fr.nil n0
  have lt1 : h0.size > x := E_x.lt
  have lt2 : h0.size > b := V_b.lt
  refine oa2 X0.here hx hby d2_0 rfl rfl ?_
  refine oa2 X0.here hx hby d2_1 rfl rfl ?_
  refine oa4 X0.here hx hby d2_2 (v := (0 : Int32)) (by decide) ?_
  refine oa2 X0.here hx hby d2_3 rfl rfl ?_
  refine oe X0 hx hZ e0 V_b hby d2_4 ?_
  refine of6 X0.here hx hby d2_5 ?_
  refine of0 X0 hx hZ rfl hown (oa0 hw 12 rfl) (oa0 hw 13 rfl) (oa0 hw 8 rfl) (oa0 hw 15 rfl) (by decide) (sU4_1_0 l Z a0 hw [] x b kC zc c0 h0 n0 Z0 E_x g_x Fv_x Fc_x V_b S_C hz S_AD S_HI S_LO g_ h0_c0 h1_c0) 0 (Nat.le_of_eq rfl) (by decide) (by decide) (by rw [hml]; rfl) (argsL := [(.ref b), (.int 0), (.int 1), .null]) (st := []) (a := x) (lenOf pd_0 rfl) rfl rfl (by decide) (by decide) e0 hby d2_6 ?_
  intro T3 v3 L3 X3 hQ3
  obtain ⟨t_3, kb_3, rfl, Nq3, K3, P3_0, P3_1, P3_2, P3_3, P3_4⟩ := hQ3
  have N3 := Fr.app N0 Nq3
  have z4 : h0.size ≤ T3.heap.size := K3.1
  have lt5 : T3.heap.size > x := P3_1.lt
  have lt6 : T3.heap.size > t_3 := P3_4.lt
  refine oa5 (T := T3) 9 #[.val (.ref x), .val (.ref b)] [] ?_
  have K7 : Keep h0 T3.heap [x] := ((Keep.refl h0 [x]).trans K3 (allS (P := fun xq_ => xq_ ∈ [x] ∨ h0.size ≤ xq_) (Or.inl (List.mem_of_getElem? (i := 0) rfl)) all0))
  refine oa9 X3 Bd.notSynchronized (v := none) (fun _ => rfl) (fun _ hr => X3.returnOut hx Bd.returns (hb hby d2_9) hr) rfl (by decide) (by decide) ?_
  exact ⟨t_3, kb_3, rfl, N3, K7, (by omega), P3_1, P3_2, P3_3, P3_4⟩
def Q_cmp2_2_0 (Z : State) (b : Nat) (t : Nat) (kC : ClassId) (kb : ClassId) (c0 : Int32) (c1 : Int32) (h0 : Heap) (n0 : Nat) (vR : Option Value) (hR : Heap) (LR : List Loc) : Prop := vR = some (.int 0) ∧ Fr n0 LR ∧ Keep h0 hR [t]
theorem cmp2_2_0 (l : Launch) (Z : State) (a0 : Array Value) (hw : ∀ d ∈ tables_1, d.before a0 Z = true) (ws : List Jvm.Cond) (b : Nat) (t : Nat) (kC : ClassId) (kb : ClassId) (c0 : Int32) (c1 : Int32) (h0 : Heap) (n0 : Nat) (Z0 : n0 ≤ h0.size) (V_b : Arv Z h0 b kC .char (2 : Int32) [(.int c0), (.int c1)] (.int 0)) (V_t : Arv Z h0 t kb .byte (2 : Int32) [(.int 0), (.int 0)] (.int 0)) (g_t : n0 ≤ t) (g_ : (255 : Int32) < c0) :
    oc2 l (⟨"java/lang/StringUTF16", "compress", "([CI[BII)I"⟩ : MethodName) jdk_52_method_21_code 7 (some .int) ws ({ frames := 0, cells := 0, slots := 0, locals := 0 } : Room) Z #[(.ref b), (.int 0), (.ref t), (.int 0), (.int 2)] h0 (Q_cmp2_2_0 Z b t kC kb c0 c1 h0 n0) := by
  refine ob3 (own := "java/lang/StringUTF16") rfl (plainFor_of_name pn_6) (fun m => ef_cmp2_1_0 m b (0 : Int32) t (0 : Int32) (2 : Int32)) ?_
  intro p e s m below meth c s₁ Bd hml hZ hh hx hby hown X0 e0
  have N0 := Fr.nil n0
  have lt2 : h0.size > b := V_b.lt
  have lt3 : h0.size > t := V_t.lt
  refine oa4 X0.here hx hby d6_0 (v := (0 : Int32)) (by decide) ?_
  refine ob8 X0.here hx hby d6_1 (l' := #[.val (.ref b), .val (.int 0), .val (.ref t), .val (.int 0), .val (.int 2), .val (.int 0), .unset]) rfl ?_
  refine oa8 X0.here hx hby d6_3 rfl ?_
  refine oa8 X0.here hx hby d6_5 rfl ?_
  refine oa7 X0.here hx hby d6_7 (tlt (show (0 : Int32) < (2 : Int32) from (by decide))).2.1 ?_
  refine oa2 X0.here hx hby d6_10 rfl rfl ?_
  refine oa X0.here hx hby d6_11 rfl ?_
  refine oc6 X0 hx hZ e0 V_b ⟨by decide, by decide⟩ (v := (.int c0)) rfl hby d6_12 ?_
  refine ob8 X0.here hx hby d6_13 (l' := #[.val (.ref b), .val (.int 0), .val (.ref t), .val (.int 0), .val (.int 2), .val (.int 0), .val (.int c0)]) rfl ?_
  refine oa8 X0.here hx hby d6_15 rfl ?_
  refine od0 X0.here hx hby d6_17 (v := (255 : Int32)) (by decide) ?_
  refine oa7 X0.here hx hby d6_20 (tlt g_).2.2.2 ?_
  refine oa8 X0.here hx hby d6_23 rfl ?_
  have K4 : Keep h0 h0 [t] := (Keep.refl h0 [t])
  refine oa9 X0 Bd.notSynchronized (v := some (.int 0)) (ob4 Bd.returns) (fun _ hr => retOut X0 hx Bd.returns rfl (Or.inl ⟨rfl, Or.inl rfl, _, rfl⟩) (hb hby d6_25) hr) e0 (by decide) (by decide) ?_
  exact ⟨rfl, N0, K4⟩
def Q_cmpr_2_0 (Z : State) (b : Nat) (kC : ClassId) (c0 : Int32) (c1 : Int32) (h0 : Heap) (n0 : Nat) (vR : Option Value) (hR : Heap) (LR : List Loc) : Prop := ∃ (t : Nat) (kb : ClassId), vR = some (.ref t) ∧ Fr n0 LR ∧ Keep h0 hR [] ∧ h0.size ≤ t ∧ (Arv Z hR t kb .byte (4 : Int32) [(.int ((c0 >>> ((0 : Int32) &&& 31)).toInt8.toInt32)), (.int ((c0 >>> ((8 : Int32) &&& 31)).toInt8.toInt32)), (.int ((c1 >>> ((0 : Int32) &&& 31)).toInt8.toInt32)), (.int ((c1 >>> ((8 : Int32) &&& 31)).toInt8.toInt32))] (.int 0))
theorem cmpr_2_0 (l : Launch) (Z : State) (a0 : Array Value) (hw : ∀ d ∈ tables_1, d.before a0 Z = true) (ws : List Jvm.Cond) (b : Nat) (kC : ClassId) (c0 : Int32) (c1 : Int32) (h0 : Heap) (n0 : Nat) (Z0 : n0 ≤ h0.size) (V_b : Arv Z h0 b kC .char (2 : Int32) [(.int c0), (.int c1)] (.int 0)) (S_AD : Sta Z h0 "java/lang/StringUTF16" "$assertionsDisabled" "Z" (.int 1)) (S_HI : Sta Z h0 "java/lang/StringUTF16" "HI_BYTE_SHIFT" "I" (.int 0)) (S_LO : Sta Z h0 "java/lang/StringUTF16" "LO_BYTE_SHIFT" "I" (.int 8)) (g_ : (255 : Int32) < c0) (h0_c0 : ¬ (c0 < (0 : Int32))) (h1_c0 : ¬ ((65535 : Int32) < c0)) :
    oc2 l (⟨"java/lang/StringUTF16", "compress", "([CII)[B"⟩ : MethodName) jdk_52_method_16_code 6 (some (.array .byte)) ws ({ frames := 3, cells := 2, slots := 6, locals := 40 } : Room) Z #[(.ref b), (.int 0), (.int 2)] h0 (Q_cmpr_2_0 Z b kC c0 c1 h0 n0) := by
  refine ob3 (own := "java/lang/StringUTF16") rfl (plainFor_of_name pn_5) (fun m => ef_cmpr_1_0 m b (0 : Int32) (2 : Int32)) ?_
  intro p e s m below meth c s₁ Bd hml hZ hh hx hby hown X0 e0
  have N0 := Fr.nil n0
  have lt2 : h0.size > b := V_b.lt
  refine oa X0.here hx hby d5_0 rfl ?_
  refine of3 X0 hx hZ (aty := .byte) (oa0 hw 24 rfl) e0 hby d5_1 (by decide) 2 (by decide) (by decide) (by decide) (by decide) (ad := "[B") (by decide) ?_
  intro T3 h3 k3 b3 X3 e3 E3 g3 V3 C3 lt3
  have z4 : h0.size ≤ h3.size := E3.1
  have V5 : Arv Z h3 b3 k3 .byte (2 : Int32) [(.int 0), (.int 0)] (.int 0) := V3.pad (pad_rep [] (.int 0) 2)
  refine of8 X3.here hx hby d5_3 rfl (l' := #[.val (.ref b), .val (.int 0), .val (.int 2), .val (.ref b3), .unset, .unset]) rfl ?_
  refine oa2 X3.here hx hby d5_4 rfl rfl ?_
  refine oa X3.here hx hby d5_5 rfl ?_
  refine oa2 X3.here hx hby d5_6 rfl rfl ?_
  refine oa4 X3.here hx hby d5_7 (v := (0 : Int32)) (by decide) ?_
  refine oa X3.here hx hby d5_8 rfl ?_
  have f6 := (V_b.ext E3)
  have z8 : n0 ≤ h3.size := by omega
  refine oa3 X3 hx hZ hown (oa0 hw 25 rfl) (oa0 hw 26 rfl) (oa0 hw 22 rfl) (oa0 hw 27 rfl) (by decide) (cmp2_2_0 l Z a0 hw [] b b3 kC k3 c0 c1 h3 n0 z8 f6 V5 (by omega) g_) 0 hml rfl (argsL := [(.ref b), (.int 0), (.ref b3), (.int 0), (.int 2)]) (st := []) (lenOf pd_15 rfl) rfl rfl e3 hby d5_9 ?_
  intro T7 v7 L7 X7 hQ7
  obtain ⟨rfl, Nq7, K7⟩ := hQ7
  have N7 := Fr.app N0 Nq7
  have z9 : h3.size ≤ T7.heap.size := K7.1
  refine oa5 (T := T7) 12 #[.val (.ref b), .val (.int 0), .val (.int 2), .val (.ref b3), .unset, .unset] [(.int 0)] ?_
  refine ob8 X7.here hx hby d5_12 (l' := #[.val (.ref b), .val (.int 0), .val (.int 2), .val (.ref b3), .val (.int 0), .unset]) rfl ?_
  refine oa8 X7.here hx hby d5_14 rfl ?_
  refine oa X7.here hx hby d5_16 rfl ?_
  refine oa7 X7.here hx hby d5_17 (feq (show ¬ ((0 : Int32) = (2 : Int32)) from (by decide))).1 ?_
  refine oa2 X7.here hx hby d5_20 rfl rfl ?_
  refine oa X7.here hx hby d5_21 rfl ?_
  refine oa X7.here hx hby d5_22 rfl ?_
  have f10 := (f6.keep K7 (ninS (oc4 (by omega)) nin0))
  have f11 := (ob (S_AD.ext E3) K7 (allS (ob5 C3) all0))
  have f12 := (ob (S_HI.ext E3) K7 (allS (ob5 C3) all0))
  have f13 := (ob (S_LO.ext E3) K7 (allS (ob5 C3) all0))
  have z15 : n0 ≤ T7.heap.size := by omega
  refine oa3 X7 hx hZ hown (oa0 hw 93 rfl) (oa0 hw 94 rfl) (oa0 hw 22 rfl) (oa0 hw 95 rfl) (by decide) (toB_2 l Z a0 hw [] b kC c0 c1 T7.heap n0 z15 f10 f11 f12 f13) 0 hml rfl (argsL := [(.ref b), (.int 0), (.int 2)]) (st := []) (lenOf pd_16 rfl) rfl rfl rfl hby d5_23 ?_
  intro T14 v14 L14 X14 hQ14
  obtain ⟨t_14, kb_14, rfl, Nq14, K14, P14_0, P14_1⟩ := hQ14
  have N14 := Fr.app N7 Nq14
  have z16 : T7.heap.size ≤ T14.heap.size := K14.1
  have lt17 : T14.heap.size > t_14 := P14_1.lt
  refine oa5 (T := T14) 26 #[.val (.ref b), .val (.int 0), .val (.int 2), .val (.ref b3), .val (.int 0), .unset] [(.ref t_14)] ?_
  refine od5 X14.here hx hby d5_26 rfl (l' := #[.val (.ref b), .val (.int 0), .val (.int 2), .val (.ref b3), .val (.int 0), .val (.ref t_14)]) rfl ?_
  refine oc7 X14.here hx hby d5_28 rfl rfl ?_
  refine oa8 X14.here hx hby d5_30 rfl ?_
  have f18 := (ob f11 K14 all0)
  have f19 := (ob f12 K14 all0)
  have f20 := (ob f13 K14 all0)
  have z22 : n0 ≤ T14.heap.size := by omega
  refine oa3 X14 hx hZ hown (oa0 hw 109 rfl) (oa0 hw 110 rfl) (oa0 hw 22 rfl) (oa0 hw 111 rfl) (by decide) (getCh_0_2 l Z a0 hw [] t_14 kb_14 c0 c1 T14.heap n0 z22 P14_1 f18 f19 f20 h0_c0 h1_c0) 0 hml rfl (argsL := [(.ref t_14), (.int 0)]) (st := []) (lenOf pd_7 rfl) rfl rfl rfl hby d5_32 ?_
  intro T21 v21 L21 X21 hQ21
  obtain ⟨rfl, Nq21, eh21⟩ := hQ21
  have N21 := Fr.app N14 Nq21
  refine oa5 (T := T21) 35 #[.val (.ref b), .val (.int 0), .val (.int 2), .val (.ref b3), .val (.int 0), .val (.ref t_14)] [(.int c0)] ?_
  refine od0 X21.here hx hby d5_35 (v := (255 : Int32)) (by decide) ?_
  refine ob2 X21.here hx hby (pc' := 54) d5_38 (tlt g_).2.2.1 (by decide) (by decide) ?_
  refine oc7 X21.here hx hby d5_54 rfl rfl ?_
  have K23 : Keep h0 T14.heap [] := ((((Keep.refl h0 []).ext E3).trans K7 (allS (P := fun xq_ => xq_ ∈ [] ∨ h0.size ≤ xq_) (Or.inr (by omega)) all0)).trans K14 all0)
  refine oa9 X21 Bd.notSynchronized (v := some (.ref t_14)) (ob4 Bd.returns) (fun _ hr => retOut X21 hx Bd.returns rfl (Or.inr (Or.inr (Or.inr (Or.inr ⟨rfl, rfl, rfl⟩)))) (hb hby d5_56) hr) eh21 (by decide) (by decide) ?_
  exact ⟨t_14, kb_14, rfl, N21, K23, (by omega), P14_1⟩
def Q_sU4_2_0 (Z : State) (x : Nat) (b : Nat) (kC : ClassId) (zc : Int32) (c0 : Int32) (c1 : Int32) (h0 : Heap) (n0 : Nat) (vR : Option Value) (hR : Heap) (LR : List Loc) : Prop := ∃ (t : Nat) (kb : ClassId), vR = none ∧ Fr n0 LR ∧ Keep h0 hR [x] ∧ h0.size ≤ t ∧ (Exa Z hR x "java/lang/String") ∧ (Fld Z hR x "java/lang/String" "coder" "B" (.int 1)) ∧ (Fld Z hR x "java/lang/String" "value" "[B" (.ref t)) ∧ (Arv Z hR t kb .byte (4 : Int32) [(.int ((c0 >>> ((0 : Int32) &&& 31)).toInt8.toInt32)), (.int ((c0 >>> ((8 : Int32) &&& 31)).toInt8.toInt32)), (.int ((c1 >>> ((0 : Int32) &&& 31)).toInt8.toInt32)), (.int ((c1 >>> ((8 : Int32) &&& 31)).toInt8.toInt32))] (.int 0))
theorem sU4_2_0 (l : Launch) (Z : State) (a0 : Array Value) (hw : ∀ d ∈ tables_1, d.before a0 Z = true) (ws : List Jvm.Cond) (x : Nat) (b : Nat) (kC : ClassId) (zc : Int32) (c0 : Int32) (c1 : Int32) (h0 : Heap) (n0 : Nat) (Z0 : n0 ≤ h0.size) (E_x : Exa Z h0 x "java/lang/String") (g_x : n0 ≤ x) (Fv_x : Fld Z h0 x "java/lang/String" "value" "[B" .null) (Fc_x : Fld Z h0 x "java/lang/String" "coder" "B" (.int 0)) (V_b : Arv Z h0 b kC .char (2 : Int32) [(.int c0), (.int c1)] (.int 0)) (S_C : Sta Z h0 "java/lang/String" "COMPACT_STRINGS" "Z" (.int zc)) (hz : ¬ (zc = (0 : Int32))) (S_AD : Sta Z h0 "java/lang/StringUTF16" "$assertionsDisabled" "Z" (.int 1)) (S_HI : Sta Z h0 "java/lang/StringUTF16" "HI_BYTE_SHIFT" "I" (.int 0)) (S_LO : Sta Z h0 "java/lang/StringUTF16" "LO_BYTE_SHIFT" "I" (.int 8)) (g_ : (255 : Int32) < c0) (h0_c0 : ¬ (c0 < (0 : Int32))) (h1_c0 : ¬ ((65535 : Int32) < c0)) :
    oc2 l (⟨"java/lang/String", "<init>", "([CIILjava/lang/Void;)V"⟩ : MethodName) jdk_42_method_149_code 6 none ws ({ frames := 4, cells := 2, slots := 6, locals := 57 } : Room) Z #[(.ref x), (.ref b), (.int 0), (.int 2), .null] h0 (Q_sU4_2_0 Z x b kC zc c0 c1 h0 n0) := by
  refine ob3 (own := "java/lang/String") rfl (plainFor_of_name pn_3) (fun m => ef_strE4 m x b (0 : Int32) (2 : Int32)) ?_
  intro p e s m below meth c s₁ Bd hml hZ hh hx hby hown X0 e0
  have N0 := Fr.nil n0
  have lt2 : h0.size > x := E_x.lt
  have lt3 : h0.size > b := V_b.lt
  refine oa2 X0.here hx hby d3_0 rfl rfl ?_
  refine og3 X0 hx hZ hown (oa0 hw 16 rfl) (oa0 hw 17 rfl) (oa0 hw 18 rfl) e0 (by rw [hml]; rfl) hby d3_1 (by decide) 0 (Nat.le_of_eq rfl) (by decide) ?_
  intro T4 X4 e4
  refine oa X4.here hx hby d3_4 rfl ?_
  refine ob1 X4.here hx hby (pc' := 27) d3_5 ((if0 _ _).trans (feq (show ¬ ((2 : Int32) = (0 : Int32)) from (by decide))).2) (by decide) (by decide) ?_
  refine oc3 X4 hx hZ hown (host := "") (Or.inl (oa0 hw 19 rfl)) Via.refl e4 S_C hby d3_27 ?_
  intro T5 X5 e5
  refine ob7 X5.here hx hby d3_30 ((if0 _ _).trans (feq hz).1) ?_
  refine oa2 X5.here hx hby d3_33 rfl rfl ?_
  refine oa X5.here hx hby d3_34 rfl ?_
  refine oa X5.here hx hby d3_35 rfl ?_
  refine oa3 X5 hx hZ hown (oa0 hw 20 rfl) (oa0 hw 21 rfl) (oa0 hw 22 rfl) (oa0 hw 23 rfl) (by decide) (cmpr_2_0 l Z a0 hw [] b kC c0 c1 h0 n0 Z0 V_b S_AD S_HI S_LO g_ h0_c0 h1_c0) 0 hml rfl (argsL := [(.ref b), (.int 0), (.int 2)]) (st := []) (lenOf pd_16 rfl) rfl rfl e5 hby d3_36 ?_
  intro T6 v6 L6 X6 hQ6
  obtain ⟨t_6, kb_6, rfl, Nq6, K6, P6_0, P6_1⟩ := hQ6
  have N6 := Fr.app N0 Nq6
  have z7 : h0.size ≤ T6.heap.size := K6.1
  have lt8 : T6.heap.size > t_6 := P6_1.lt
  refine oa5 (T := T6) 39 #[.val (.ref x), .val (.ref b), .val (.int 0), .val (.int 2), .val .null, .unset] [(.ref t_6)] ?_
  refine od5 X6.here hx hby d3_39 rfl (l' := #[.val (.ref x), .val (.ref b), .val (.int 0), .val (.int 2), .val .null, .val (.ref t_6)]) rfl ?_
  refine oa2 X6.here hx hby d3_41 rfl rfl ?_
  refine oc7 X6.here hx hby d3_42 rfl rfl ?_
  refine oa X6.here hx hby d3_44 rfl ?_
  have z10 : n0 ≤ T6.heap.size := by omega
  refine oa3 X6 hx hZ hown (oa0 hw 28 rfl) (oa0 hw 29 rfl) (oa0 hw 22 rfl) (oa0 hw 30 rfl) (by decide) (cfl_2 l Z a0 hw [] t_6 kb_6 c0 c1 T6.heap n0 z10 P6_1) 1 hml rfl (argsL := [(.ref t_6), (.int 2)]) (st := [(.ref x)]) (lenOf pd_17 rfl) rfl rfl rfl hby d3_45 ?_
  intro T9 v9 L9 X9 hQ9
  obtain ⟨rfl, Nq9, eh9⟩ := hQ9
  have N9 := Fr.app N6 Nq9
  refine oa5 (T := T9) 48 #[.val (.ref x), .val (.ref b), .val (.int 0), .val (.int 2), .val .null, .val (.ref t_6)] [(.int 1), (.ref x)] ?_
  have f11 := (E_x.keep K6)
  have f12 := (Fc_x.keep K6 nin0)
  refine og2 X9 hx hZ (ty := .byte) (v' := (.int 1)) hown (oa0 hw 31 rfl) Via.refl eh9 f12 f11 (Or.inr ⟨(oa0 hw 32 rfl), rfl, (name_of_methodNamed Bd.named Bd.method).1⟩) (oa0 hw 7 rfl) (by decide) rfl rfl hby d3_48 N9 g_x ?_
  intro T13 h13 lo13 X13 e13 N13 W13 F13 z13
  refine oa2 X13.here hx hby d3_51 rfl rfl ?_
  refine oc7 X13.here hx hby d3_52 rfl rfl ?_
  have f14 := (f11.wr W13)
  have f15 := ((Fv_x.keep K6 nin0).other W13 (Or.inr (slot_ne (Or.inr (oa0 hw 34 rfl)) (Or.inr (oa0 hw 32 rfl)) (by decide) (t := (.array .byte)) (t' := .byte) (by decide) (by decide))))
  refine og8 X13 hx hZ (ty := (.array .byte)) hown (host := "") (Or.inl (oa0 hw 33 rfl)) Via.refl e13 f15 f14 (Or.inr ⟨(oa0 hw 34 rfl), rfl, (name_of_methodNamed Bd.named Bd.method).1⟩) (oa0 hw 7 rfl) (by decide) rfl rfl hby d3_54 N13 g_x ?_
  intro T16 h16 lo16 X16 e16 N16 W16 F16 z16
  have K17 : Keep h0 h16 [x] := ((((Keep.refl h0 [x]).trans K6 all0).wr W13 (Or.inl (List.mem_of_getElem? (i := 0) rfl))).wr W16 (Or.inl (List.mem_of_getElem? (i := 0) rfl)))
  have f18 := (f14.wr W16)
  have f19 := (F13.other W16 (Or.inr (slot_ne (Or.inr (oa0 hw 32 rfl)) (Or.inr (oa0 hw 34 rfl)) (by decide) (t := .byte) (t' := (.array .byte)) (by decide) (by decide))))
  have f20 := ((P6_1.other W13 (oc4 (by omega))).other W16 (oc4 (by omega)))
  refine oa9 X16 Bd.notSynchronized (v := none) (fun _ => rfl) (fun _ hr => X16.returnOut hx Bd.returns (hb hby d3_57) hr) e16 (by decide) (by decide) ?_
  exact ⟨t_6, kb_6, rfl, N16, K17, (by omega), f18, f19, F16, f20⟩
def Q_sU1_2_0 (Z : State) (x : Nat) (b : Nat) (kC : ClassId) (zc : Int32) (c0 : Int32) (c1 : Int32) (h0 : Heap) (n0 : Nat) (vR : Option Value) (hR : Heap) (LR : List Loc) : Prop := ∃ (t : Nat) (kb : ClassId), vR = none ∧ Fr n0 LR ∧ Keep h0 hR [x] ∧ h0.size ≤ t ∧ (Exa Z hR x "java/lang/String") ∧ (Fld Z hR x "java/lang/String" "coder" "B" (.int 1)) ∧ (Fld Z hR x "java/lang/String" "value" "[B" (.ref t)) ∧ (Arv Z hR t kb .byte (4 : Int32) [(.int ((c0 >>> ((0 : Int32) &&& 31)).toInt8.toInt32)), (.int ((c0 >>> ((8 : Int32) &&& 31)).toInt8.toInt32)), (.int ((c1 >>> ((0 : Int32) &&& 31)).toInt8.toInt32)), (.int ((c1 >>> ((8 : Int32) &&& 31)).toInt8.toInt32))] (.int 0))
theorem sU1_2_0 (l : Launch) (Z : State) (a0 : Array Value) (hw : ∀ d ∈ tables_1, d.before a0 Z = true) (ws : List Jvm.Cond) (x : Nat) (b : Nat) (kC : ClassId) (zc : Int32) (c0 : Int32) (c1 : Int32) (h0 : Heap) (n0 : Nat) (Z0 : n0 ≤ h0.size) (E_x : Exa Z h0 x "java/lang/String") (g_x : n0 ≤ x) (Fv_x : Fld Z h0 x "java/lang/String" "value" "[B" .null) (Fc_x : Fld Z h0 x "java/lang/String" "coder" "B" (.int 0)) (V_b : Arv Z h0 b kC .char (2 : Int32) [(.int c0), (.int c1)] (.int 0)) (S_C : Sta Z h0 "java/lang/String" "COMPACT_STRINGS" "Z" (.int zc)) (hz : ¬ (zc = (0 : Int32))) (S_AD : Sta Z h0 "java/lang/StringUTF16" "$assertionsDisabled" "Z" (.int 1)) (S_HI : Sta Z h0 "java/lang/StringUTF16" "HI_BYTE_SHIFT" "I" (.int 0)) (S_LO : Sta Z h0 "java/lang/StringUTF16" "LO_BYTE_SHIFT" "I" (.int 8)) (g_ : (255 : Int32) < c0) (h0_c0 : ¬ (c0 < (0 : Int32))) (h1_c0 : ¬ ((65535 : Int32) < c0)) :
    oc2 l (⟨"java/lang/String", "<init>", "([C)V"⟩ : MethodName) jdk_42_method_3_code 2 none ws ({ frames := 5, cells := 2, slots := 6, locals := 74 } : Room) Z #[(.ref x), (.ref b)] h0 (Q_sU1_2_0 Z x b kC zc c0 c1 h0 n0) := by
  refine ob3 (own := "java/lang/String") rfl (plainFor_of_name pn_2) (fun m => ef_strE1 m x b) ?_
  intro p e s m below meth c s₁ Bd hml hZ hh hx hby hown X0 e0
  have N0 := Fr.nil n0
  have lt2 : h0.size > x := E_x.lt
  have lt3 : h0.size > b := V_b.lt
  refine oa2 X0.here hx hby d2_0 rfl rfl ?_
  refine oa2 X0.here hx hby d2_1 rfl rfl ?_
  refine oa4 X0.here hx hby d2_2 (v := (0 : Int32)) (by decide) ?_
  refine oa2 X0.here hx hby d2_3 rfl rfl ?_
  refine oe X0 hx hZ e0 V_b hby d2_4 ?_
  refine of6 X0.here hx hby d2_5 ?_
  refine of0 X0 hx hZ rfl hown (oa0 hw 12 rfl) (oa0 hw 13 rfl) (oa0 hw 8 rfl) (oa0 hw 15 rfl) (by decide) (sU4_2_0 l Z a0 hw [] x b kC zc c0 c1 h0 n0 Z0 E_x g_x Fv_x Fc_x V_b S_C hz S_AD S_HI S_LO g_ h0_c0 h1_c0) 0 (Nat.le_of_eq rfl) (by decide) (by decide) (by rw [hml]; rfl) (argsL := [(.ref b), (.int 0), (.int 2), .null]) (st := []) (a := x) (lenOf pd_0 rfl) rfl rfl (by decide) (by decide) e0 hby d2_6 ?_
  intro T4 v4 L4 X4 hQ4
  obtain ⟨t_4, kb_4, rfl, Nq4, K4, P4_0, P4_1, P4_2, P4_3, P4_4⟩ := hQ4
  have N4 := Fr.app N0 Nq4
  have z5 : h0.size ≤ T4.heap.size := K4.1
  have lt6 : T4.heap.size > x := P4_1.lt
  have lt7 : T4.heap.size > t_4 := P4_4.lt
  refine oa5 (T := T4) 9 #[.val (.ref x), .val (.ref b)] [] ?_
  have K8 : Keep h0 T4.heap [x] := ((Keep.refl h0 [x]).trans K4 (allS (P := fun xq_ => xq_ ∈ [x] ∨ h0.size ≤ xq_) (Or.inl (List.mem_of_getElem? (i := 0) rfl)) all0))
  refine oa9 X4 Bd.notSynchronized (v := none) (fun _ => rfl) (fun _ hr => X4.returnOut hx Bd.returns (hb hby d2_9) hr) rfl (by decide) (by decide) ?_
  exact ⟨t_4, kb_4, rfl, N4, K8, (by omega), P4_1, P4_2, P4_3, P4_4⟩
theorem d6_26 : decode jdk_52_method_21_code 26 = .ok (.aload_n 2, 1) := by decide +kernel
theorem d6_27 : decode jdk_52_method_21_code 27 = .ok (.iload_n 3, 1) := by decide +kernel
theorem d6_28 : decode jdk_52_method_21_code 28 = .ok (.iload 6, 2) := by decide +kernel
theorem d6_30 : decode jdk_52_method_21_code 30 = .ok (.i2b, 1) := by decide +kernel
theorem d6_31 : decode jdk_52_method_21_code 31 = .ok (.bastore, 1) := by decide +kernel
theorem d6_32 : decode jdk_52_method_21_code 32 = .ok (.iinc 1 1, 3) := by decide +kernel
theorem d6_35 : decode jdk_52_method_21_code 35 = .ok (.iinc 3 1, 3) := by decide +kernel
theorem d6_38 : decode jdk_52_method_21_code 38 = .ok (.iinc 5 1, 3) := by decide +kernel
theorem d6_41 : decode jdk_52_method_21_code 41 = .ok (.goto (-38), 3) := by decide +kernel
def Q_cmp2_2_1 (Z : State) (b : Nat) (t : Nat) (kC : ClassId) (kb : ClassId) (c0 : Int32) (c1 : Int32) (h0 : Heap) (n0 : Nat) (vR : Option Value) (hR : Heap) (LR : List Loc) : Prop := vR = some (.int 1) ∧ Fr n0 LR ∧ Keep h0 hR [t]
theorem cmp2_2_1 (l : Launch) (Z : State) (a0 : Array Value) (hw : ∀ d ∈ tables_1, d.before a0 Z = true) (ws : List Jvm.Cond) (b : Nat) (t : Nat) (kC : ClassId) (kb : ClassId) (c0 : Int32) (c1 : Int32) (h0 : Heap) (n0 : Nat) (Z0 : n0 ≤ h0.size) (V_b : Arv Z h0 b kC .char (2 : Int32) [(.int c0), (.int c1)] (.int 0)) (V_t : Arv Z h0 t kb .byte (2 : Int32) [(.int 0), (.int 0)] (.int 0)) (g_t : n0 ≤ t) (l_c0 : ¬ ((255 : Int32) < c0)) (g_ : (255 : Int32) < c1) :
    oc2 l (⟨"java/lang/StringUTF16", "compress", "([CI[BII)I"⟩ : MethodName) jdk_52_method_21_code 7 (some .int) ws ({ frames := 0, cells := 0, slots := 0, locals := 0 } : Room) Z #[(.ref b), (.int 0), (.ref t), (.int 0), (.int 2)] h0 (Q_cmp2_2_1 Z b t kC kb c0 c1 h0 n0) := by
  refine ob3 (own := "java/lang/StringUTF16") rfl (plainFor_of_name pn_6) (fun m => ef_cmp2_1_0 m b (0 : Int32) t (0 : Int32) (2 : Int32)) ?_
  intro p e s m below meth c s₁ Bd hml hZ hh hx hby hown X0 e0
  have N0 := Fr.nil n0
  have lt2 : h0.size > b := V_b.lt
  have lt3 : h0.size > t := V_t.lt
  refine oa4 X0.here hx hby d6_0 (v := (0 : Int32)) (by decide) ?_
  refine ob8 X0.here hx hby d6_1 (l' := #[.val (.ref b), .val (.int 0), .val (.ref t), .val (.int 0), .val (.int 2), .val (.int 0), .unset]) rfl ?_
  refine oa8 X0.here hx hby d6_3 rfl ?_
  refine oa8 X0.here hx hby d6_5 rfl ?_
  refine oa7 X0.here hx hby d6_7 (tlt (show (0 : Int32) < (2 : Int32) from (by decide))).2.1 ?_
  refine oa2 X0.here hx hby d6_10 rfl rfl ?_
  refine oa X0.here hx hby d6_11 rfl ?_
  refine oc6 X0 hx hZ e0 V_b ⟨by decide, by decide⟩ (v := (.int c0)) rfl hby d6_12 ?_
  refine ob8 X0.here hx hby d6_13 (l' := #[.val (.ref b), .val (.int 0), .val (.ref t), .val (.int 0), .val (.int 2), .val (.int 0), .val (.int c0)]) rfl ?_
  refine oa8 X0.here hx hby d6_15 rfl ?_
  refine od0 X0.here hx hby d6_17 (v := (255 : Int32)) (by decide) ?_
  refine ob2 X0.here hx hby (pc' := 26) d6_20 (flt l_c0).2.2.2 (by decide) (by decide) ?_
  refine oa2 X0.here hx hby d6_26 rfl rfl ?_
  refine oa X0.here hx hby d6_27 rfl ?_
  refine oa8 X0.here hx hby d6_28 rfl ?_
  refine of5 X0.here hx hby d6_30 rfl ?_
  refine oe6 X0 hx hZ e0 V_t ⟨by decide, by decide⟩ 0 (by decide) (Nat.le_of_ble_eq_true rfl) (w := (.int (c0.toInt8.toInt32))) (congrArg Value.int (of4 c0)) hby d6_31 N0 g_t ?_
  intro T4 h4 lo4 X4 e4 N4 W4 V4 z4
  have V5 : Arv Z h4 t kb .byte (2 : Int32) [(.int (c0.toInt8.toInt32)), (.int 0)] (.int 0) := V4
  refine od2 X4.here hx hby d6_32 rfl (v := (1 : Int32)) (by decide) (l' := #[.val (.ref b), .val (.int 1), .val (.ref t), .val (.int 0), .val (.int 2), .val (.int 0), .val (.int c0)]) rfl ?_
  refine od2 X4.here hx hby d6_35 rfl (v := (1 : Int32)) (by decide) (l' := #[.val (.ref b), .val (.int 1), .val (.ref t), .val (.int 1), .val (.int 2), .val (.int 0), .val (.int c0)]) rfl ?_
  refine od2 X4.here hx hby d6_38 rfl (v := (1 : Int32)) (by decide) (l' := #[.val (.ref b), .val (.int 1), .val (.ref t), .val (.int 1), .val (.int 2), .val (.int 1), .val (.int c0)]) rfl ?_
  refine oc X4.here hx hby (pc' := 3) d6_41 (by decide) (by decide) ?_
  refine oa8 X4.here hx hby d6_3 rfl ?_
  refine oa8 X4.here hx hby d6_5 rfl ?_
  refine oa7 X4.here hx hby d6_7 (tlt (show (1 : Int32) < (2 : Int32) from (by decide))).2.1 ?_
  refine oa2 X4.here hx hby d6_10 rfl rfl ?_
  refine oa X4.here hx hby d6_11 rfl ?_
  have f6 := (V_b.other W4 (own_ne_aa V_b V_t (by decide)))
  refine oc6 X4 hx hZ e4 f6 ⟨by decide, by decide⟩ (v := (.int c1)) rfl hby d6_12 ?_
  refine ob8 X4.here hx hby d6_13 (l' := #[.val (.ref b), .val (.int 1), .val (.ref t), .val (.int 1), .val (.int 2), .val (.int 1), .val (.int c1)]) rfl ?_
  refine oa8 X4.here hx hby d6_15 rfl ?_
  refine od0 X4.here hx hby d6_17 (v := (255 : Int32)) (by decide) ?_
  refine oa7 X4.here hx hby d6_20 (tlt g_).2.2.2 ?_
  refine oa8 X4.here hx hby d6_23 rfl ?_
  have K7 : Keep h0 h4 [t] := ((Keep.refl h0 [t]).wr W4 (Or.inl (List.mem_of_getElem? (i := 0) rfl)))
  refine oa9 X4 Bd.notSynchronized (v := some (.int 1)) (ob4 Bd.returns) (fun _ hr => retOut X4 hx Bd.returns rfl (Or.inl ⟨rfl, Or.inl rfl, _, rfl⟩) (hb hby d6_25) hr) e4 (by decide) (by decide) ?_
  exact ⟨rfl, N4, K7⟩
def Q_cmpr_2_1 (Z : State) (b : Nat) (kC : ClassId) (c0 : Int32) (c1 : Int32) (h0 : Heap) (n0 : Nat) (vR : Option Value) (hR : Heap) (LR : List Loc) : Prop := ∃ (t : Nat) (kb : ClassId), vR = some (.ref t) ∧ Fr n0 LR ∧ Keep h0 hR [] ∧ h0.size ≤ t ∧ (Arv Z hR t kb .byte (4 : Int32) [(.int ((c0 >>> ((0 : Int32) &&& 31)).toInt8.toInt32)), (.int ((c0 >>> ((8 : Int32) &&& 31)).toInt8.toInt32)), (.int ((c1 >>> ((0 : Int32) &&& 31)).toInt8.toInt32)), (.int ((c1 >>> ((8 : Int32) &&& 31)).toInt8.toInt32))] (.int 0))
theorem cmpr_2_1 (l : Launch) (Z : State) (a0 : Array Value) (hw : ∀ d ∈ tables_1, d.before a0 Z = true) (ws : List Jvm.Cond) (b : Nat) (kC : ClassId) (c0 : Int32) (c1 : Int32) (h0 : Heap) (n0 : Nat) (Z0 : n0 ≤ h0.size) (V_b : Arv Z h0 b kC .char (2 : Int32) [(.int c0), (.int c1)] (.int 0)) (S_AD : Sta Z h0 "java/lang/StringUTF16" "$assertionsDisabled" "Z" (.int 1)) (S_HI : Sta Z h0 "java/lang/StringUTF16" "HI_BYTE_SHIFT" "I" (.int 0)) (S_LO : Sta Z h0 "java/lang/StringUTF16" "LO_BYTE_SHIFT" "I" (.int 8)) (l_c0 : ¬ ((255 : Int32) < c0)) (g_ : (255 : Int32) < c1) (h0_c1 : ¬ (c1 < (0 : Int32))) (h1_c1 : ¬ ((65535 : Int32) < c1)) :
    oc2 l (⟨"java/lang/StringUTF16", "compress", "([CII)[B"⟩ : MethodName) jdk_52_method_16_code 6 (some (.array .byte)) ws ({ frames := 3, cells := 2, slots := 6, locals := 40 } : Room) Z #[(.ref b), (.int 0), (.int 2)] h0 (Q_cmpr_2_1 Z b kC c0 c1 h0 n0) := by
  refine ob3 (own := "java/lang/StringUTF16") rfl (plainFor_of_name pn_5) (fun m => ef_cmpr_1_0 m b (0 : Int32) (2 : Int32)) ?_
  intro p e s m below meth c s₁ Bd hml hZ hh hx hby hown X0 e0
  have N0 := Fr.nil n0
  have lt2 : h0.size > b := V_b.lt
  refine oa X0.here hx hby d5_0 rfl ?_
  refine of3 X0 hx hZ (aty := .byte) (oa0 hw 24 rfl) e0 hby d5_1 (by decide) 2 (by decide) (by decide) (by decide) (by decide) (ad := "[B") (by decide) ?_
  intro T3 h3 k3 b3 X3 e3 E3 g3 V3 C3 lt3
  have z4 : h0.size ≤ h3.size := E3.1
  have V5 : Arv Z h3 b3 k3 .byte (2 : Int32) [(.int 0), (.int 0)] (.int 0) := V3.pad (pad_rep [] (.int 0) 2)
  refine of8 X3.here hx hby d5_3 rfl (l' := #[.val (.ref b), .val (.int 0), .val (.int 2), .val (.ref b3), .unset, .unset]) rfl ?_
  refine oa2 X3.here hx hby d5_4 rfl rfl ?_
  refine oa X3.here hx hby d5_5 rfl ?_
  refine oa2 X3.here hx hby d5_6 rfl rfl ?_
  refine oa4 X3.here hx hby d5_7 (v := (0 : Int32)) (by decide) ?_
  refine oa X3.here hx hby d5_8 rfl ?_
  have f6 := (V_b.ext E3)
  have z8 : n0 ≤ h3.size := by omega
  refine oa3 X3 hx hZ hown (oa0 hw 25 rfl) (oa0 hw 26 rfl) (oa0 hw 22 rfl) (oa0 hw 27 rfl) (by decide) (cmp2_2_1 l Z a0 hw [] b b3 kC k3 c0 c1 h3 n0 z8 f6 V5 (by omega) l_c0 g_) 0 hml rfl (argsL := [(.ref b), (.int 0), (.ref b3), (.int 0), (.int 2)]) (st := []) (lenOf pd_15 rfl) rfl rfl e3 hby d5_9 ?_
  intro T7 v7 L7 X7 hQ7
  obtain ⟨rfl, Nq7, K7⟩ := hQ7
  have N7 := Fr.app N0 Nq7
  have z9 : h3.size ≤ T7.heap.size := K7.1
  refine oa5 (T := T7) 12 #[.val (.ref b), .val (.int 0), .val (.int 2), .val (.ref b3), .unset, .unset] [(.int 1)] ?_
  refine ob8 X7.here hx hby d5_12 (l' := #[.val (.ref b), .val (.int 0), .val (.int 2), .val (.ref b3), .val (.int 1), .unset]) rfl ?_
  refine oa8 X7.here hx hby d5_14 rfl ?_
  refine oa X7.here hx hby d5_16 rfl ?_
  refine oa7 X7.here hx hby d5_17 (feq (show ¬ ((1 : Int32) = (2 : Int32)) from (by decide))).1 ?_
  refine oa2 X7.here hx hby d5_20 rfl rfl ?_
  refine oa X7.here hx hby d5_21 rfl ?_
  refine oa X7.here hx hby d5_22 rfl ?_
  have f10 := (f6.keep K7 (ninS (oc4 (by omega)) nin0))
  have f11 := (ob (S_AD.ext E3) K7 (allS (ob5 C3) all0))
  have f12 := (ob (S_HI.ext E3) K7 (allS (ob5 C3) all0))
  have f13 := (ob (S_LO.ext E3) K7 (allS (ob5 C3) all0))
  have z15 : n0 ≤ T7.heap.size := by omega
  refine oa3 X7 hx hZ hown (oa0 hw 93 rfl) (oa0 hw 94 rfl) (oa0 hw 22 rfl) (oa0 hw 95 rfl) (by decide) (toB_2 l Z a0 hw [] b kC c0 c1 T7.heap n0 z15 f10 f11 f12 f13) 0 hml rfl (argsL := [(.ref b), (.int 0), (.int 2)]) (st := []) (lenOf pd_16 rfl) rfl rfl rfl hby d5_23 ?_
  intro T14 v14 L14 X14 hQ14
  obtain ⟨t_14, kb_14, rfl, Nq14, K14, P14_0, P14_1⟩ := hQ14
  have N14 := Fr.app N7 Nq14
  have z16 : T7.heap.size ≤ T14.heap.size := K14.1
  have lt17 : T14.heap.size > t_14 := P14_1.lt
  refine oa5 (T := T14) 26 #[.val (.ref b), .val (.int 0), .val (.int 2), .val (.ref b3), .val (.int 1), .unset] [(.ref t_14)] ?_
  refine od5 X14.here hx hby d5_26 rfl (l' := #[.val (.ref b), .val (.int 0), .val (.int 2), .val (.ref b3), .val (.int 1), .val (.ref t_14)]) rfl ?_
  refine oc7 X14.here hx hby d5_28 rfl rfl ?_
  refine oa8 X14.here hx hby d5_30 rfl ?_
  have f18 := (ob f11 K14 all0)
  have f19 := (ob f12 K14 all0)
  have f20 := (ob f13 K14 all0)
  have z22 : n0 ≤ T14.heap.size := by omega
  refine oa3 X14 hx hZ hown (oa0 hw 109 rfl) (oa0 hw 110 rfl) (oa0 hw 22 rfl) (oa0 hw 111 rfl) (by decide) (getCh_1_2 l Z a0 hw [] t_14 kb_14 c0 c1 T14.heap n0 z22 P14_1 f18 f19 f20 h0_c1 h1_c1) 0 hml rfl (argsL := [(.ref t_14), (.int 1)]) (st := []) (lenOf pd_7 rfl) rfl rfl rfl hby d5_32 ?_
  intro T21 v21 L21 X21 hQ21
  obtain ⟨rfl, Nq21, eh21⟩ := hQ21
  have N21 := Fr.app N14 Nq21
  refine oa5 (T := T21) 35 #[.val (.ref b), .val (.int 0), .val (.int 2), .val (.ref b3), .val (.int 1), .val (.ref t_14)] [(.int c1)] ?_
  refine od0 X21.here hx hby d5_35 (v := (255 : Int32)) (by decide) ?_
  refine ob2 X21.here hx hby (pc' := 54) d5_38 (tlt g_).2.2.1 (by decide) (by decide) ?_
  refine oc7 X21.here hx hby d5_54 rfl rfl ?_
  have K23 : Keep h0 T14.heap [] := ((((Keep.refl h0 []).ext E3).trans K7 (allS (P := fun xq_ => xq_ ∈ [] ∨ h0.size ≤ xq_) (Or.inr (by omega)) all0)).trans K14 all0)
  refine oa9 X21 Bd.notSynchronized (v := some (.ref t_14)) (ob4 Bd.returns) (fun _ hr => retOut X21 hx Bd.returns rfl (Or.inr (Or.inr (Or.inr (Or.inr ⟨rfl, rfl, rfl⟩)))) (hb hby d5_56) hr) eh21 (by decide) (by decide) ?_
  exact ⟨t_14, kb_14, rfl, N21, K23, (by omega), P14_1⟩
def Q_sU4_2_1 (Z : State) (x : Nat) (b : Nat) (kC : ClassId) (zc : Int32) (c0 : Int32) (c1 : Int32) (h0 : Heap) (n0 : Nat) (vR : Option Value) (hR : Heap) (LR : List Loc) : Prop := ∃ (t : Nat) (kb : ClassId), vR = none ∧ Fr n0 LR ∧ Keep h0 hR [x] ∧ h0.size ≤ t ∧ (Exa Z hR x "java/lang/String") ∧ (Fld Z hR x "java/lang/String" "coder" "B" (.int 1)) ∧ (Fld Z hR x "java/lang/String" "value" "[B" (.ref t)) ∧ (Arv Z hR t kb .byte (4 : Int32) [(.int ((c0 >>> ((0 : Int32) &&& 31)).toInt8.toInt32)), (.int ((c0 >>> ((8 : Int32) &&& 31)).toInt8.toInt32)), (.int ((c1 >>> ((0 : Int32) &&& 31)).toInt8.toInt32)), (.int ((c1 >>> ((8 : Int32) &&& 31)).toInt8.toInt32))] (.int 0))
theorem sU4_2_1 (l : Launch) (Z : State) (a0 : Array Value) (hw : ∀ d ∈ tables_1, d.before a0 Z = true) (ws : List Jvm.Cond) (x : Nat) (b : Nat) (kC : ClassId) (zc : Int32) (c0 : Int32) (c1 : Int32) (h0 : Heap) (n0 : Nat) (Z0 : n0 ≤ h0.size) (E_x : Exa Z h0 x "java/lang/String") (g_x : n0 ≤ x) (Fv_x : Fld Z h0 x "java/lang/String" "value" "[B" .null) (Fc_x : Fld Z h0 x "java/lang/String" "coder" "B" (.int 0)) (V_b : Arv Z h0 b kC .char (2 : Int32) [(.int c0), (.int c1)] (.int 0)) (S_C : Sta Z h0 "java/lang/String" "COMPACT_STRINGS" "Z" (.int zc)) (hz : ¬ (zc = (0 : Int32))) (S_AD : Sta Z h0 "java/lang/StringUTF16" "$assertionsDisabled" "Z" (.int 1)) (S_HI : Sta Z h0 "java/lang/StringUTF16" "HI_BYTE_SHIFT" "I" (.int 0)) (S_LO : Sta Z h0 "java/lang/StringUTF16" "LO_BYTE_SHIFT" "I" (.int 8)) (l_c0 : ¬ ((255 : Int32) < c0)) (g_ : (255 : Int32) < c1) (h0_c1 : ¬ (c1 < (0 : Int32))) (h1_c1 : ¬ ((65535 : Int32) < c1)) :
    oc2 l (⟨"java/lang/String", "<init>", "([CIILjava/lang/Void;)V"⟩ : MethodName) jdk_42_method_149_code 6 none ws ({ frames := 4, cells := 2, slots := 6, locals := 57 } : Room) Z #[(.ref x), (.ref b), (.int 0), (.int 2), .null] h0 (Q_sU4_2_1 Z x b kC zc c0 c1 h0 n0) := by
  refine ob3 (own := "java/lang/String") rfl (plainFor_of_name pn_3) (fun m => ef_strE4 m x b (0 : Int32) (2 : Int32)) ?_
  intro p e s m below meth c s₁ Bd hml hZ hh hx hby hown X0 e0
  have N0 := Fr.nil n0
  have lt2 : h0.size > x := E_x.lt
  have lt3 : h0.size > b := V_b.lt
  refine oa2 X0.here hx hby d3_0 rfl rfl ?_
  refine og3 X0 hx hZ hown (oa0 hw 16 rfl) (oa0 hw 17 rfl) (oa0 hw 18 rfl) e0 (by rw [hml]; rfl) hby d3_1 (by decide) 0 (Nat.le_of_eq rfl) (by decide) ?_
  intro T4 X4 e4
  refine oa X4.here hx hby d3_4 rfl ?_
  refine ob1 X4.here hx hby (pc' := 27) d3_5 ((if0 _ _).trans (feq (show ¬ ((2 : Int32) = (0 : Int32)) from (by decide))).2) (by decide) (by decide) ?_
  refine oc3 X4 hx hZ hown (host := "") (Or.inl (oa0 hw 19 rfl)) Via.refl e4 S_C hby d3_27 ?_
  intro T5 X5 e5
  refine ob7 X5.here hx hby d3_30 ((if0 _ _).trans (feq hz).1) ?_
  refine oa2 X5.here hx hby d3_33 rfl rfl ?_
  refine oa X5.here hx hby d3_34 rfl ?_
  refine oa X5.here hx hby d3_35 rfl ?_
  refine oa3 X5 hx hZ hown (oa0 hw 20 rfl) (oa0 hw 21 rfl) (oa0 hw 22 rfl) (oa0 hw 23 rfl) (by decide) (cmpr_2_1 l Z a0 hw [] b kC c0 c1 h0 n0 Z0 V_b S_AD S_HI S_LO l_c0 g_ h0_c1 h1_c1) 0 hml rfl (argsL := [(.ref b), (.int 0), (.int 2)]) (st := []) (lenOf pd_16 rfl) rfl rfl e5 hby d3_36 ?_
  intro T6 v6 L6 X6 hQ6
  obtain ⟨t_6, kb_6, rfl, Nq6, K6, P6_0, P6_1⟩ := hQ6
  have N6 := Fr.app N0 Nq6
  have z7 : h0.size ≤ T6.heap.size := K6.1
  have lt8 : T6.heap.size > t_6 := P6_1.lt
  refine oa5 (T := T6) 39 #[.val (.ref x), .val (.ref b), .val (.int 0), .val (.int 2), .val .null, .unset] [(.ref t_6)] ?_
  refine od5 X6.here hx hby d3_39 rfl (l' := #[.val (.ref x), .val (.ref b), .val (.int 0), .val (.int 2), .val .null, .val (.ref t_6)]) rfl ?_
  refine oa2 X6.here hx hby d3_41 rfl rfl ?_
  refine oc7 X6.here hx hby d3_42 rfl rfl ?_
  refine oa X6.here hx hby d3_44 rfl ?_
  have z10 : n0 ≤ T6.heap.size := by omega
  refine oa3 X6 hx hZ hown (oa0 hw 28 rfl) (oa0 hw 29 rfl) (oa0 hw 22 rfl) (oa0 hw 30 rfl) (by decide) (cfl_2 l Z a0 hw [] t_6 kb_6 c0 c1 T6.heap n0 z10 P6_1) 1 hml rfl (argsL := [(.ref t_6), (.int 2)]) (st := [(.ref x)]) (lenOf pd_17 rfl) rfl rfl rfl hby d3_45 ?_
  intro T9 v9 L9 X9 hQ9
  obtain ⟨rfl, Nq9, eh9⟩ := hQ9
  have N9 := Fr.app N6 Nq9
  refine oa5 (T := T9) 48 #[.val (.ref x), .val (.ref b), .val (.int 0), .val (.int 2), .val .null, .val (.ref t_6)] [(.int 1), (.ref x)] ?_
  have f11 := (E_x.keep K6)
  have f12 := (Fc_x.keep K6 nin0)
  refine og2 X9 hx hZ (ty := .byte) (v' := (.int 1)) hown (oa0 hw 31 rfl) Via.refl eh9 f12 f11 (Or.inr ⟨(oa0 hw 32 rfl), rfl, (name_of_methodNamed Bd.named Bd.method).1⟩) (oa0 hw 7 rfl) (by decide) rfl rfl hby d3_48 N9 g_x ?_
  intro T13 h13 lo13 X13 e13 N13 W13 F13 z13
  refine oa2 X13.here hx hby d3_51 rfl rfl ?_
  refine oc7 X13.here hx hby d3_52 rfl rfl ?_
  have f14 := (f11.wr W13)
  have f15 := ((Fv_x.keep K6 nin0).other W13 (Or.inr (slot_ne (Or.inr (oa0 hw 34 rfl)) (Or.inr (oa0 hw 32 rfl)) (by decide) (t := (.array .byte)) (t' := .byte) (by decide) (by decide))))
  refine og8 X13 hx hZ (ty := (.array .byte)) hown (host := "") (Or.inl (oa0 hw 33 rfl)) Via.refl e13 f15 f14 (Or.inr ⟨(oa0 hw 34 rfl), rfl, (name_of_methodNamed Bd.named Bd.method).1⟩) (oa0 hw 7 rfl) (by decide) rfl rfl hby d3_54 N13 g_x ?_
  intro T16 h16 lo16 X16 e16 N16 W16 F16 z16
  have K17 : Keep h0 h16 [x] := ((((Keep.refl h0 [x]).trans K6 all0).wr W13 (Or.inl (List.mem_of_getElem? (i := 0) rfl))).wr W16 (Or.inl (List.mem_of_getElem? (i := 0) rfl)))
  have f18 := (f14.wr W16)
  have f19 := (F13.other W16 (Or.inr (slot_ne (Or.inr (oa0 hw 32 rfl)) (Or.inr (oa0 hw 34 rfl)) (by decide) (t := .byte) (t' := (.array .byte)) (by decide) (by decide))))
  have f20 := ((P6_1.other W13 (oc4 (by omega))).other W16 (oc4 (by omega)))
  refine oa9 X16 Bd.notSynchronized (v := none) (fun _ => rfl) (fun _ hr => X16.returnOut hx Bd.returns (hb hby d3_57) hr) e16 (by decide) (by decide) ?_
  exact ⟨t_6, kb_6, rfl, N16, K17, (by omega), f18, f19, F16, f20⟩
def Q_sU1_2_1 (Z : State) (x : Nat) (b : Nat) (kC : ClassId) (zc : Int32) (c0 : Int32) (c1 : Int32) (h0 : Heap) (n0 : Nat) (vR : Option Value) (hR : Heap) (LR : List Loc) : Prop := ∃ (t : Nat) (kb : ClassId), vR = none ∧ Fr n0 LR ∧ Keep h0 hR [x] ∧ h0.size ≤ t ∧ (Exa Z hR x "java/lang/String") ∧ (Fld Z hR x "java/lang/String" "coder" "B" (.int 1)) ∧ (Fld Z hR x "java/lang/String" "value" "[B" (.ref t)) ∧ (Arv Z hR t kb .byte (4 : Int32) [(.int ((c0 >>> ((0 : Int32) &&& 31)).toInt8.toInt32)), (.int ((c0 >>> ((8 : Int32) &&& 31)).toInt8.toInt32)), (.int ((c1 >>> ((0 : Int32) &&& 31)).toInt8.toInt32)), (.int ((c1 >>> ((8 : Int32) &&& 31)).toInt8.toInt32))] (.int 0))
theorem sU1_2_1 (l : Launch) (Z : State) (a0 : Array Value) (hw : ∀ d ∈ tables_1, d.before a0 Z = true) (ws : List Jvm.Cond) (x : Nat) (b : Nat) (kC : ClassId) (zc : Int32) (c0 : Int32) (c1 : Int32) (h0 : Heap) (n0 : Nat) (Z0 : n0 ≤ h0.size) (E_x : Exa Z h0 x "java/lang/String") (g_x : n0 ≤ x) (Fv_x : Fld Z h0 x "java/lang/String" "value" "[B" .null) (Fc_x : Fld Z h0 x "java/lang/String" "coder" "B" (.int 0)) (V_b : Arv Z h0 b kC .char (2 : Int32) [(.int c0), (.int c1)] (.int 0)) (S_C : Sta Z h0 "java/lang/String" "COMPACT_STRINGS" "Z" (.int zc)) (hz : ¬ (zc = (0 : Int32))) (S_AD : Sta Z h0 "java/lang/StringUTF16" "$assertionsDisabled" "Z" (.int 1)) (S_HI : Sta Z h0 "java/lang/StringUTF16" "HI_BYTE_SHIFT" "I" (.int 0)) (S_LO : Sta Z h0 "java/lang/StringUTF16" "LO_BYTE_SHIFT" "I" (.int 8)) (l_c0 : ¬ ((255 : Int32) < c0)) (g_ : (255 : Int32) < c1) (h0_c1 : ¬ (c1 < (0 : Int32))) (h1_c1 : ¬ ((65535 : Int32) < c1)) :
    oc2 l (⟨"java/lang/String", "<init>", "([C)V"⟩ : MethodName) jdk_42_method_3_code 2 none ws ({ frames := 5, cells := 2, slots := 6, locals := 74 } : Room) Z #[(.ref x), (.ref b)] h0 (Q_sU1_2_1 Z x b kC zc c0 c1 h0 n0) := by
  refine ob3 (own := "java/lang/String") rfl (plainFor_of_name pn_2) (fun m => ef_strE1 m x b) ?_
  intro p e s m below meth c s₁ Bd hml hZ hh hx hby hown X0 e0
  have N0 := Fr.nil n0
  have lt2 : h0.size > x := E_x.lt
  have lt3 : h0.size > b := V_b.lt
  refine oa2 X0.here hx hby d2_0 rfl rfl ?_
  refine oa2 X0.here hx hby d2_1 rfl rfl ?_
  refine oa4 X0.here hx hby d2_2 (v := (0 : Int32)) (by decide) ?_
  refine oa2 X0.here hx hby d2_3 rfl rfl ?_
  refine oe X0 hx hZ e0 V_b hby d2_4 ?_
  refine of6 X0.here hx hby d2_5 ?_
  refine of0 X0 hx hZ rfl hown (oa0 hw 12 rfl) (oa0 hw 13 rfl) (oa0 hw 8 rfl) (oa0 hw 15 rfl) (by decide) (sU4_2_1 l Z a0 hw [] x b kC zc c0 c1 h0 n0 Z0 E_x g_x Fv_x Fc_x V_b S_C hz S_AD S_HI S_LO l_c0 g_ h0_c1 h1_c1) 0 (Nat.le_of_eq rfl) (by decide) (by decide) (by rw [hml]; rfl) (argsL := [(.ref b), (.int 0), (.int 2), .null]) (st := []) (a := x) (lenOf pd_0 rfl) rfl rfl (by decide) (by decide) e0 hby d2_6 ?_
  intro T4 v4 L4 X4 hQ4
  obtain ⟨t_4, kb_4, rfl, Nq4, K4, P4_0, P4_1, P4_2, P4_3, P4_4⟩ := hQ4
  have N4 := Fr.app N0 Nq4
  have z5 : h0.size ≤ T4.heap.size := K4.1
  have lt6 : T4.heap.size > x := P4_1.lt
  have lt7 : T4.heap.size > t_4 := P4_4.lt
  refine oa5 (T := T4) 9 #[.val (.ref x), .val (.ref b)] [] ?_
  have K8 : Keep h0 T4.heap [x] := ((Keep.refl h0 [x]).trans K4 (allS (P := fun xq_ => xq_ ∈ [x] ∨ h0.size ≤ xq_) (Or.inl (List.mem_of_getElem? (i := 0) rfl)) all0))
  refine oa9 X4 Bd.notSynchronized (v := none) (fun _ => rfl) (fun _ hr => X4.returnOut hx Bd.returns (hb hby d2_9) hr) rfl (by decide) (by decide) ?_
  exact ⟨t_4, kb_4, rfl, N4, K8, (by omega), P4_1, P4_2, P4_3, P4_4⟩
def Q_cmp2_3_0 (Z : State) (b : Nat) (t : Nat) (kC : ClassId) (kb : ClassId) (c0 : Int32) (c1 : Int32) (c2 : Int32) (h0 : Heap) (n0 : Nat) (vR : Option Value) (hR : Heap) (LR : List Loc) : Prop := vR = some (.int 0) ∧ Fr n0 LR ∧ Keep h0 hR [t]
theorem cmp2_3_0 (l : Launch) (Z : State) (a0 : Array Value) (hw : ∀ d ∈ tables_1, d.before a0 Z = true) (ws : List Jvm.Cond) (b : Nat) (t : Nat) (kC : ClassId) (kb : ClassId) (c0 : Int32) (c1 : Int32) (c2 : Int32) (h0 : Heap) (n0 : Nat) (Z0 : n0 ≤ h0.size) (V_b : Arv Z h0 b kC .char (3 : Int32) [(.int c0), (.int c1), (.int c2)] (.int 0)) (V_t : Arv Z h0 t kb .byte (3 : Int32) [(.int 0), (.int 0), (.int 0)] (.int 0)) (g_t : n0 ≤ t) (g_ : (255 : Int32) < c0) :
    oc2 l (⟨"java/lang/StringUTF16", "compress", "([CI[BII)I"⟩ : MethodName) jdk_52_method_21_code 7 (some .int) ws ({ frames := 0, cells := 0, slots := 0, locals := 0 } : Room) Z #[(.ref b), (.int 0), (.ref t), (.int 0), (.int 3)] h0 (Q_cmp2_3_0 Z b t kC kb c0 c1 c2 h0 n0) := by
  refine ob3 (own := "java/lang/StringUTF16") rfl (plainFor_of_name pn_6) (fun m => ef_cmp2_1_0 m b (0 : Int32) t (0 : Int32) (3 : Int32)) ?_
  intro p e s m below meth c s₁ Bd hml hZ hh hx hby hown X0 e0
  have N0 := Fr.nil n0
  have lt3 : h0.size > b := V_b.lt
  have lt4 : h0.size > t := V_t.lt
  refine oa4 X0.here hx hby d6_0 (v := (0 : Int32)) (by decide) ?_
  refine ob8 X0.here hx hby d6_1 (l' := #[.val (.ref b), .val (.int 0), .val (.ref t), .val (.int 0), .val (.int 3), .val (.int 0), .unset]) rfl ?_
  refine oa8 X0.here hx hby d6_3 rfl ?_
  refine oa8 X0.here hx hby d6_5 rfl ?_
  refine oa7 X0.here hx hby d6_7 (tlt (show (0 : Int32) < (3 : Int32) from (by decide))).2.1 ?_
  refine oa2 X0.here hx hby d6_10 rfl rfl ?_
  refine oa X0.here hx hby d6_11 rfl ?_
  refine oc6 X0 hx hZ e0 V_b ⟨by decide, by decide⟩ (v := (.int c0)) rfl hby d6_12 ?_
  refine ob8 X0.here hx hby d6_13 (l' := #[.val (.ref b), .val (.int 0), .val (.ref t), .val (.int 0), .val (.int 3), .val (.int 0), .val (.int c0)]) rfl ?_
  refine oa8 X0.here hx hby d6_15 rfl ?_
  refine od0 X0.here hx hby d6_17 (v := (255 : Int32)) (by decide) ?_
  refine oa7 X0.here hx hby d6_20 (tlt g_).2.2.2 ?_
  refine oa8 X0.here hx hby d6_23 rfl ?_
  have K5 : Keep h0 h0 [t] := (Keep.refl h0 [t])
  refine oa9 X0 Bd.notSynchronized (v := some (.int 0)) (ob4 Bd.returns) (fun _ hr => retOut X0 hx Bd.returns rfl (Or.inl ⟨rfl, Or.inl rfl, _, rfl⟩) (hb hby d6_25) hr) e0 (by decide) (by decide) ?_
  exact ⟨rfl, N0, K5⟩
def Q_cmpr_3_0 (Z : State) (b : Nat) (kC : ClassId) (c0 : Int32) (c1 : Int32) (c2 : Int32) (h0 : Heap) (n0 : Nat) (vR : Option Value) (hR : Heap) (LR : List Loc) : Prop := ∃ (t : Nat) (kb : ClassId), vR = some (.ref t) ∧ Fr n0 LR ∧ Keep h0 hR [] ∧ h0.size ≤ t ∧ (Arv Z hR t kb .byte (6 : Int32) [(.int ((c0 >>> ((0 : Int32) &&& 31)).toInt8.toInt32)), (.int ((c0 >>> ((8 : Int32) &&& 31)).toInt8.toInt32)), (.int ((c1 >>> ((0 : Int32) &&& 31)).toInt8.toInt32)), (.int ((c1 >>> ((8 : Int32) &&& 31)).toInt8.toInt32)), (.int ((c2 >>> ((0 : Int32) &&& 31)).toInt8.toInt32)), (.int ((c2 >>> ((8 : Int32) &&& 31)).toInt8.toInt32))] (.int 0))
theorem cmpr_3_0 (l : Launch) (Z : State) (a0 : Array Value) (hw : ∀ d ∈ tables_1, d.before a0 Z = true) (ws : List Jvm.Cond) (b : Nat) (kC : ClassId) (c0 : Int32) (c1 : Int32) (c2 : Int32) (h0 : Heap) (n0 : Nat) (Z0 : n0 ≤ h0.size) (V_b : Arv Z h0 b kC .char (3 : Int32) [(.int c0), (.int c1), (.int c2)] (.int 0)) (S_AD : Sta Z h0 "java/lang/StringUTF16" "$assertionsDisabled" "Z" (.int 1)) (S_HI : Sta Z h0 "java/lang/StringUTF16" "HI_BYTE_SHIFT" "I" (.int 0)) (S_LO : Sta Z h0 "java/lang/StringUTF16" "LO_BYTE_SHIFT" "I" (.int 8)) (g_ : (255 : Int32) < c0) (h0_c0 : ¬ (c0 < (0 : Int32))) (h1_c0 : ¬ ((65535 : Int32) < c0)) :
    oc2 l (⟨"java/lang/StringUTF16", "compress", "([CII)[B"⟩ : MethodName) jdk_52_method_16_code 6 (some (.array .byte)) ws ({ frames := 3, cells := 2, slots := 9, locals := 40 } : Room) Z #[(.ref b), (.int 0), (.int 3)] h0 (Q_cmpr_3_0 Z b kC c0 c1 c2 h0 n0) := by
  refine ob3 (own := "java/lang/StringUTF16") rfl (plainFor_of_name pn_5) (fun m => ef_cmpr_1_0 m b (0 : Int32) (3 : Int32)) ?_
  intro p e s m below meth c s₁ Bd hml hZ hh hx hby hown X0 e0
  have N0 := Fr.nil n0
  have lt3 : h0.size > b := V_b.lt
  refine oa X0.here hx hby d5_0 rfl ?_
  refine of3 X0 hx hZ (aty := .byte) (oa0 hw 24 rfl) e0 hby d5_1 (by decide) 3 (by decide) (by decide) (by decide) (by decide) (ad := "[B") (by decide) ?_
  intro T4 h4 k4 b4 X4 e4 E4 g4 V4 C4 lt4
  have z5 : h0.size ≤ h4.size := E4.1
  have V6 : Arv Z h4 b4 k4 .byte (3 : Int32) [(.int 0), (.int 0), (.int 0)] (.int 0) := V4.pad (pad_rep [] (.int 0) 3)
  refine of8 X4.here hx hby d5_3 rfl (l' := #[.val (.ref b), .val (.int 0), .val (.int 3), .val (.ref b4), .unset, .unset]) rfl ?_
  refine oa2 X4.here hx hby d5_4 rfl rfl ?_
  refine oa X4.here hx hby d5_5 rfl ?_
  refine oa2 X4.here hx hby d5_6 rfl rfl ?_
  refine oa4 X4.here hx hby d5_7 (v := (0 : Int32)) (by decide) ?_
  refine oa X4.here hx hby d5_8 rfl ?_
  have f7 := (V_b.ext E4)
  have z9 : n0 ≤ h4.size := by omega
  refine oa3 X4 hx hZ hown (oa0 hw 25 rfl) (oa0 hw 26 rfl) (oa0 hw 22 rfl) (oa0 hw 27 rfl) (by decide) (cmp2_3_0 l Z a0 hw [] b b4 kC k4 c0 c1 c2 h4 n0 z9 f7 V6 (by omega) g_) 0 hml rfl (argsL := [(.ref b), (.int 0), (.ref b4), (.int 0), (.int 3)]) (st := []) (lenOf pd_15 rfl) rfl rfl e4 hby d5_9 ?_
  intro T8 v8 L8 X8 hQ8
  obtain ⟨rfl, Nq8, K8⟩ := hQ8
  have N8 := Fr.app N0 Nq8
  have z10 : h4.size ≤ T8.heap.size := K8.1
  refine oa5 (T := T8) 12 #[.val (.ref b), .val (.int 0), .val (.int 3), .val (.ref b4), .unset, .unset] [(.int 0)] ?_
  refine ob8 X8.here hx hby d5_12 (l' := #[.val (.ref b), .val (.int 0), .val (.int 3), .val (.ref b4), .val (.int 0), .unset]) rfl ?_
  refine oa8 X8.here hx hby d5_14 rfl ?_
  refine oa X8.here hx hby d5_16 rfl ?_
  refine oa7 X8.here hx hby d5_17 (feq (show ¬ ((0 : Int32) = (3 : Int32)) from (by decide))).1 ?_
  refine oa2 X8.here hx hby d5_20 rfl rfl ?_
  refine oa X8.here hx hby d5_21 rfl ?_
  refine oa X8.here hx hby d5_22 rfl ?_
  have f11 := (f7.keep K8 (ninS (oc4 (by omega)) nin0))
  have f12 := (ob (S_AD.ext E4) K8 (allS (ob5 C4) all0))
  have f13 := (ob (S_HI.ext E4) K8 (allS (ob5 C4) all0))
  have f14 := (ob (S_LO.ext E4) K8 (allS (ob5 C4) all0))
  have z16 : n0 ≤ T8.heap.size := by omega
  refine oa3 X8 hx hZ hown (oa0 hw 93 rfl) (oa0 hw 94 rfl) (oa0 hw 22 rfl) (oa0 hw 95 rfl) (by decide) (toB_3 l Z a0 hw [] b kC c0 c1 c2 T8.heap n0 z16 f11 f12 f13 f14) 0 hml rfl (argsL := [(.ref b), (.int 0), (.int 3)]) (st := []) (lenOf pd_16 rfl) rfl rfl rfl hby d5_23 ?_
  intro T15 v15 L15 X15 hQ15
  obtain ⟨t_15, kb_15, rfl, Nq15, K15, P15_0, P15_1⟩ := hQ15
  have N15 := Fr.app N8 Nq15
  have z17 : T8.heap.size ≤ T15.heap.size := K15.1
  have lt18 : T15.heap.size > t_15 := P15_1.lt
  refine oa5 (T := T15) 26 #[.val (.ref b), .val (.int 0), .val (.int 3), .val (.ref b4), .val (.int 0), .unset] [(.ref t_15)] ?_
  refine od5 X15.here hx hby d5_26 rfl (l' := #[.val (.ref b), .val (.int 0), .val (.int 3), .val (.ref b4), .val (.int 0), .val (.ref t_15)]) rfl ?_
  refine oc7 X15.here hx hby d5_28 rfl rfl ?_
  refine oa8 X15.here hx hby d5_30 rfl ?_
  have f19 := (ob f12 K15 all0)
  have f20 := (ob f13 K15 all0)
  have f21 := (ob f14 K15 all0)
  have z23 : n0 ≤ T15.heap.size := by omega
  refine oa3 X15 hx hZ hown (oa0 hw 109 rfl) (oa0 hw 110 rfl) (oa0 hw 22 rfl) (oa0 hw 111 rfl) (by decide) (getCh_0_3 l Z a0 hw [] t_15 kb_15 c0 c1 c2 T15.heap n0 z23 P15_1 f19 f20 f21 h0_c0 h1_c0) 0 hml rfl (argsL := [(.ref t_15), (.int 0)]) (st := []) (lenOf pd_7 rfl) rfl rfl rfl hby d5_32 ?_
  intro T22 v22 L22 X22 hQ22
  obtain ⟨rfl, Nq22, eh22⟩ := hQ22
  have N22 := Fr.app N15 Nq22
  refine oa5 (T := T22) 35 #[.val (.ref b), .val (.int 0), .val (.int 3), .val (.ref b4), .val (.int 0), .val (.ref t_15)] [(.int c0)] ?_
  refine od0 X22.here hx hby d5_35 (v := (255 : Int32)) (by decide) ?_
  refine ob2 X22.here hx hby (pc' := 54) d5_38 (tlt g_).2.2.1 (by decide) (by decide) ?_
  refine oc7 X22.here hx hby d5_54 rfl rfl ?_
  have K24 : Keep h0 T15.heap [] := ((((Keep.refl h0 []).ext E4).trans K8 (allS (P := fun xq_ => xq_ ∈ [] ∨ h0.size ≤ xq_) (Or.inr (by omega)) all0)).trans K15 all0)
  refine oa9 X22 Bd.notSynchronized (v := some (.ref t_15)) (ob4 Bd.returns) (fun _ hr => retOut X22 hx Bd.returns rfl (Or.inr (Or.inr (Or.inr (Or.inr ⟨rfl, rfl, rfl⟩)))) (hb hby d5_56) hr) eh22 (by decide) (by decide) ?_
  exact ⟨t_15, kb_15, rfl, N22, K24, (by omega), P15_1⟩
def Q_sU4_3_0 (Z : State) (x : Nat) (b : Nat) (kC : ClassId) (zc : Int32) (c0 : Int32) (c1 : Int32) (c2 : Int32) (h0 : Heap) (n0 : Nat) (vR : Option Value) (hR : Heap) (LR : List Loc) : Prop := ∃ (t : Nat) (kb : ClassId), vR = none ∧ Fr n0 LR ∧ Keep h0 hR [x] ∧ h0.size ≤ t ∧ (Exa Z hR x "java/lang/String") ∧ (Fld Z hR x "java/lang/String" "coder" "B" (.int 1)) ∧ (Fld Z hR x "java/lang/String" "value" "[B" (.ref t)) ∧ (Arv Z hR t kb .byte (6 : Int32) [(.int ((c0 >>> ((0 : Int32) &&& 31)).toInt8.toInt32)), (.int ((c0 >>> ((8 : Int32) &&& 31)).toInt8.toInt32)), (.int ((c1 >>> ((0 : Int32) &&& 31)).toInt8.toInt32)), (.int ((c1 >>> ((8 : Int32) &&& 31)).toInt8.toInt32)), (.int ((c2 >>> ((0 : Int32) &&& 31)).toInt8.toInt32)), (.int ((c2 >>> ((8 : Int32) &&& 31)).toInt8.toInt32))] (.int 0))
theorem sU4_3_0 (l : Launch) (Z : State) (a0 : Array Value) (hw : ∀ d ∈ tables_1, d.before a0 Z = true) (ws : List Jvm.Cond) (x : Nat) (b : Nat) (kC : ClassId) (zc : Int32) (c0 : Int32) (c1 : Int32) (c2 : Int32) (h0 : Heap) (n0 : Nat) (Z0 : n0 ≤ h0.size) (E_x : Exa Z h0 x "java/lang/String") (g_x : n0 ≤ x) (Fv_x : Fld Z h0 x "java/lang/String" "value" "[B" .null) (Fc_x : Fld Z h0 x "java/lang/String" "coder" "B" (.int 0)) (V_b : Arv Z h0 b kC .char (3 : Int32) [(.int c0), (.int c1), (.int c2)] (.int 0)) (S_C : Sta Z h0 "java/lang/String" "COMPACT_STRINGS" "Z" (.int zc)) (hz : ¬ (zc = (0 : Int32))) (S_AD : Sta Z h0 "java/lang/StringUTF16" "$assertionsDisabled" "Z" (.int 1)) (S_HI : Sta Z h0 "java/lang/StringUTF16" "HI_BYTE_SHIFT" "I" (.int 0)) (S_LO : Sta Z h0 "java/lang/StringUTF16" "LO_BYTE_SHIFT" "I" (.int 8)) (g_ : (255 : Int32) < c0) (h0_c0 : ¬ (c0 < (0 : Int32))) (h1_c0 : ¬ ((65535 : Int32) < c0)) :
    oc2 l (⟨"java/lang/String", "<init>", "([CIILjava/lang/Void;)V"⟩ : MethodName) jdk_42_method_149_code 6 none ws ({ frames := 4, cells := 2, slots := 9, locals := 57 } : Room) Z #[(.ref x), (.ref b), (.int 0), (.int 3), .null] h0 (Q_sU4_3_0 Z x b kC zc c0 c1 c2 h0 n0) := by
  refine ob3 (own := "java/lang/String") rfl (plainFor_of_name pn_3) (fun m => ef_strE4 m x b (0 : Int32) (3 : Int32)) ?_
  intro p e s m below meth c s₁ Bd hml hZ hh hx hby hown X0 e0
  have N0 := Fr.nil n0
  have lt3 : h0.size > x := E_x.lt
  have lt4 : h0.size > b := V_b.lt
  refine oa2 X0.here hx hby d3_0 rfl rfl ?_
  refine og3 X0 hx hZ hown (oa0 hw 16 rfl) (oa0 hw 17 rfl) (oa0 hw 18 rfl) e0 (by rw [hml]; rfl) hby d3_1 (by decide) 0 (Nat.le_of_eq rfl) (by decide) ?_
  intro T5 X5 e5
  refine oa X5.here hx hby d3_4 rfl ?_
  refine ob1 X5.here hx hby (pc' := 27) d3_5 ((if0 _ _).trans (feq (show ¬ ((3 : Int32) = (0 : Int32)) from (by decide))).2) (by decide) (by decide) ?_
  refine oc3 X5 hx hZ hown (host := "") (Or.inl (oa0 hw 19 rfl)) Via.refl e5 S_C hby d3_27 ?_
  intro T6 X6 e6
  refine ob7 X6.here hx hby d3_30 ((if0 _ _).trans (feq hz).1) ?_
  refine oa2 X6.here hx hby d3_33 rfl rfl ?_
  refine oa X6.here hx hby d3_34 rfl ?_
  refine oa X6.here hx hby d3_35 rfl ?_
  refine oa3 X6 hx hZ hown (oa0 hw 20 rfl) (oa0 hw 21 rfl) (oa0 hw 22 rfl) (oa0 hw 23 rfl) (by decide) (cmpr_3_0 l Z a0 hw [] b kC c0 c1 c2 h0 n0 Z0 V_b S_AD S_HI S_LO g_ h0_c0 h1_c0) 0 hml rfl (argsL := [(.ref b), (.int 0), (.int 3)]) (st := []) (lenOf pd_16 rfl) rfl rfl e6 hby d3_36 ?_
  intro T7 v7 L7 X7 hQ7
  obtain ⟨t_7, kb_7, rfl, Nq7, K7, P7_0, P7_1⟩ := hQ7
  have N7 := Fr.app N0 Nq7
  have z8 : h0.size ≤ T7.heap.size := K7.1
  have lt9 : T7.heap.size > t_7 := P7_1.lt
  refine oa5 (T := T7) 39 #[.val (.ref x), .val (.ref b), .val (.int 0), .val (.int 3), .val .null, .unset] [(.ref t_7)] ?_
  refine od5 X7.here hx hby d3_39 rfl (l' := #[.val (.ref x), .val (.ref b), .val (.int 0), .val (.int 3), .val .null, .val (.ref t_7)]) rfl ?_
  refine oa2 X7.here hx hby d3_41 rfl rfl ?_
  refine oc7 X7.here hx hby d3_42 rfl rfl ?_
  refine oa X7.here hx hby d3_44 rfl ?_
  have z11 : n0 ≤ T7.heap.size := by omega
  refine oa3 X7 hx hZ hown (oa0 hw 28 rfl) (oa0 hw 29 rfl) (oa0 hw 22 rfl) (oa0 hw 30 rfl) (by decide) (cfl_3 l Z a0 hw [] t_7 kb_7 c0 c1 c2 T7.heap n0 z11 P7_1) 1 hml rfl (argsL := [(.ref t_7), (.int 3)]) (st := [(.ref x)]) (lenOf pd_17 rfl) rfl rfl rfl hby d3_45 ?_
  intro T10 v10 L10 X10 hQ10
  obtain ⟨rfl, Nq10, eh10⟩ := hQ10
  have N10 := Fr.app N7 Nq10
  refine oa5 (T := T10) 48 #[.val (.ref x), .val (.ref b), .val (.int 0), .val (.int 3), .val .null, .val (.ref t_7)] [(.int 1), (.ref x)] ?_
  have f12 := (E_x.keep K7)
  have f13 := (Fc_x.keep K7 nin0)
  refine og2 X10 hx hZ (ty := .byte) (v' := (.int 1)) hown (oa0 hw 31 rfl) Via.refl eh10 f13 f12 (Or.inr ⟨(oa0 hw 32 rfl), rfl, (name_of_methodNamed Bd.named Bd.method).1⟩) (oa0 hw 7 rfl) (by decide) rfl rfl hby d3_48 N10 g_x ?_
  intro T14 h14 lo14 X14 e14 N14 W14 F14 z14
  refine oa2 X14.here hx hby d3_51 rfl rfl ?_
  refine oc7 X14.here hx hby d3_52 rfl rfl ?_
  have f15 := (f12.wr W14)
  have f16 := ((Fv_x.keep K7 nin0).other W14 (Or.inr (slot_ne (Or.inr (oa0 hw 34 rfl)) (Or.inr (oa0 hw 32 rfl)) (by decide) (t := (.array .byte)) (t' := .byte) (by decide) (by decide))))
  refine og8 X14 hx hZ (ty := (.array .byte)) hown (host := "") (Or.inl (oa0 hw 33 rfl)) Via.refl e14 f16 f15 (Or.inr ⟨(oa0 hw 34 rfl), rfl, (name_of_methodNamed Bd.named Bd.method).1⟩) (oa0 hw 7 rfl) (by decide) rfl rfl hby d3_54 N14 g_x ?_
  intro T17 h17 lo17 X17 e17 N17 W17 F17 z17
  have K18 : Keep h0 h17 [x] := ((((Keep.refl h0 [x]).trans K7 all0).wr W14 (Or.inl (List.mem_of_getElem? (i := 0) rfl))).wr W17 (Or.inl (List.mem_of_getElem? (i := 0) rfl)))
  have f19 := (f15.wr W17)
  have f20 := (F14.other W17 (Or.inr (slot_ne (Or.inr (oa0 hw 32 rfl)) (Or.inr (oa0 hw 34 rfl)) (by decide) (t := .byte) (t' := (.array .byte)) (by decide) (by decide))))
  have f21 := ((P7_1.other W14 (oc4 (by omega))).other W17 (oc4 (by omega)))
  refine oa9 X17 Bd.notSynchronized (v := none) (fun _ => rfl) (fun _ hr => X17.returnOut hx Bd.returns (hb hby d3_57) hr) e17 (by decide) (by decide) ?_
  exact ⟨t_7, kb_7, rfl, N17, K18, (by omega), f19, f20, F17, f21⟩
def Q_sU1_3_0 (Z : State) (x : Nat) (b : Nat) (kC : ClassId) (zc : Int32) (c0 : Int32) (c1 : Int32) (c2 : Int32) (h0 : Heap) (n0 : Nat) (vR : Option Value) (hR : Heap) (LR : List Loc) : Prop := ∃ (t : Nat) (kb : ClassId), vR = none ∧ Fr n0 LR ∧ Keep h0 hR [x] ∧ h0.size ≤ t ∧ (Exa Z hR x "java/lang/String") ∧ (Fld Z hR x "java/lang/String" "coder" "B" (.int 1)) ∧ (Fld Z hR x "java/lang/String" "value" "[B" (.ref t)) ∧ (Arv Z hR t kb .byte (6 : Int32) [(.int ((c0 >>> ((0 : Int32) &&& 31)).toInt8.toInt32)), (.int ((c0 >>> ((8 : Int32) &&& 31)).toInt8.toInt32)), (.int ((c1 >>> ((0 : Int32) &&& 31)).toInt8.toInt32)), (.int ((c1 >>> ((8 : Int32) &&& 31)).toInt8.toInt32)), (.int ((c2 >>> ((0 : Int32) &&& 31)).toInt8.toInt32)), (.int ((c2 >>> ((8 : Int32) &&& 31)).toInt8.toInt32))] (.int 0))
theorem sU1_3_0 (l : Launch) (Z : State) (a0 : Array Value) (hw : ∀ d ∈ tables_1, d.before a0 Z = true) (ws : List Jvm.Cond) (x : Nat) (b : Nat) (kC : ClassId) (zc : Int32) (c0 : Int32) (c1 : Int32) (c2 : Int32) (h0 : Heap) (n0 : Nat) (Z0 : n0 ≤ h0.size) (E_x : Exa Z h0 x "java/lang/String") (g_x : n0 ≤ x) (Fv_x : Fld Z h0 x "java/lang/String" "value" "[B" .null) (Fc_x : Fld Z h0 x "java/lang/String" "coder" "B" (.int 0)) (V_b : Arv Z h0 b kC .char (3 : Int32) [(.int c0), (.int c1), (.int c2)] (.int 0)) (S_C : Sta Z h0 "java/lang/String" "COMPACT_STRINGS" "Z" (.int zc)) (hz : ¬ (zc = (0 : Int32))) (S_AD : Sta Z h0 "java/lang/StringUTF16" "$assertionsDisabled" "Z" (.int 1)) (S_HI : Sta Z h0 "java/lang/StringUTF16" "HI_BYTE_SHIFT" "I" (.int 0)) (S_LO : Sta Z h0 "java/lang/StringUTF16" "LO_BYTE_SHIFT" "I" (.int 8)) (g_ : (255 : Int32) < c0) (h0_c0 : ¬ (c0 < (0 : Int32))) (h1_c0 : ¬ ((65535 : Int32) < c0)) :
    oc2 l (⟨"java/lang/String", "<init>", "([C)V"⟩ : MethodName) jdk_42_method_3_code 2 none ws ({ frames := 5, cells := 2, slots := 9, locals := 74 } : Room) Z #[(.ref x), (.ref b)] h0 (Q_sU1_3_0 Z x b kC zc c0 c1 c2 h0 n0) := by
  refine ob3 (own := "java/lang/String") rfl (plainFor_of_name pn_2) (fun m => ef_strE1 m x b) ?_
  intro p e s m below meth c s₁ Bd hml hZ hh hx hby hown X0 e0
  have N0 := Fr.nil n0
  have lt3 : h0.size > x := E_x.lt
  have lt4 : h0.size > b := V_b.lt
  refine oa2 X0.here hx hby d2_0 rfl rfl ?_
  refine oa2 X0.here hx hby d2_1 rfl rfl ?_
  refine oa4 X0.here hx hby d2_2 (v := (0 : Int32)) (by decide) ?_
  refine oa2 X0.here hx hby d2_3 rfl rfl ?_
  refine oe X0 hx hZ e0 V_b hby d2_4 ?_
  refine of6 X0.here hx hby d2_5 ?_
  refine of0 X0 hx hZ rfl hown (oa0 hw 12 rfl) (oa0 hw 13 rfl) (oa0 hw 8 rfl) (oa0 hw 15 rfl) (by decide) (sU4_3_0 l Z a0 hw [] x b kC zc c0 c1 c2 h0 n0 Z0 E_x g_x Fv_x Fc_x V_b S_C hz S_AD S_HI S_LO g_ h0_c0 h1_c0) 0 (Nat.le_of_eq rfl) (by decide) (by decide) (by rw [hml]; rfl) (argsL := [(.ref b), (.int 0), (.int 3), .null]) (st := []) (a := x) (lenOf pd_0 rfl) rfl rfl (by decide) (by decide) e0 hby d2_6 ?_
  intro T5 v5 L5 X5 hQ5
  obtain ⟨t_5, kb_5, rfl, Nq5, K5, P5_0, P5_1, P5_2, P5_3, P5_4⟩ := hQ5
  have N5 := Fr.app N0 Nq5
  have z6 : h0.size ≤ T5.heap.size := K5.1
  have lt7 : T5.heap.size > x := P5_1.lt
  have lt8 : T5.heap.size > t_5 := P5_4.lt
  refine oa5 (T := T5) 9 #[.val (.ref x), .val (.ref b)] [] ?_
  have K9 : Keep h0 T5.heap [x] := ((Keep.refl h0 [x]).trans K5 (allS (P := fun xq_ => xq_ ∈ [x] ∨ h0.size ≤ xq_) (Or.inl (List.mem_of_getElem? (i := 0) rfl)) all0))
  refine oa9 X5 Bd.notSynchronized (v := none) (fun _ => rfl) (fun _ hr => X5.returnOut hx Bd.returns (hb hby d2_9) hr) rfl (by decide) (by decide) ?_
  exact ⟨t_5, kb_5, rfl, N5, K9, (by omega), P5_1, P5_2, P5_3, P5_4⟩
def Q_cmp2_3_1 (Z : State) (b : Nat) (t : Nat) (kC : ClassId) (kb : ClassId) (c0 : Int32) (c1 : Int32) (c2 : Int32) (h0 : Heap) (n0 : Nat) (vR : Option Value) (hR : Heap) (LR : List Loc) : Prop := vR = some (.int 1) ∧ Fr n0 LR ∧ Keep h0 hR [t]
theorem cmp2_3_1 (l : Launch) (Z : State) (a0 : Array Value) (hw : ∀ d ∈ tables_1, d.before a0 Z = true) (ws : List Jvm.Cond) (b : Nat) (t : Nat) (kC : ClassId) (kb : ClassId) (c0 : Int32) (c1 : Int32) (c2 : Int32) (h0 : Heap) (n0 : Nat) (Z0 : n0 ≤ h0.size) (V_b : Arv Z h0 b kC .char (3 : Int32) [(.int c0), (.int c1), (.int c2)] (.int 0)) (V_t : Arv Z h0 t kb .byte (3 : Int32) [(.int 0), (.int 0), (.int 0)] (.int 0)) (g_t : n0 ≤ t) (l_c0 : ¬ ((255 : Int32) < c0)) (g_ : (255 : Int32) < c1) :
    oc2 l (⟨"java/lang/StringUTF16", "compress", "([CI[BII)I"⟩ : MethodName) jdk_52_method_21_code 7 (some .int) ws ({ frames := 0, cells := 0, slots := 0, locals := 0 } : Room) Z #[(.ref b), (.int 0), (.ref t), (.int 0), (.int 3)] h0 (Q_cmp2_3_1 Z b t kC kb c0 c1 c2 h0 n0) := by
  refine ob3 (own := "java/lang/StringUTF16") rfl (plainFor_of_name pn_6) (fun m => ef_cmp2_1_0 m b (0 : Int32) t (0 : Int32) (3 : Int32)) ?_
  intro p e s m below meth c s₁ Bd hml hZ hh hx hby hown X0 e0
  have N0 := Fr.nil n0
  have lt3 : h0.size > b := V_b.lt
  have lt4 : h0.size > t := V_t.lt
  refine oa4 X0.here hx hby d6_0 (v := (0 : Int32)) (by decide) ?_
  refine ob8 X0.here hx hby d6_1 (l' := #[.val (.ref b), .val (.int 0), .val (.ref t), .val (.int 0), .val (.int 3), .val (.int 0), .unset]) rfl ?_
  refine oa8 X0.here hx hby d6_3 rfl ?_
  refine oa8 X0.here hx hby d6_5 rfl ?_
  refine oa7 X0.here hx hby d6_7 (tlt (show (0 : Int32) < (3 : Int32) from (by decide))).2.1 ?_
  refine oa2 X0.here hx hby d6_10 rfl rfl ?_
  refine oa X0.here hx hby d6_11 rfl ?_
  refine oc6 X0 hx hZ e0 V_b ⟨by decide, by decide⟩ (v := (.int c0)) rfl hby d6_12 ?_
  refine ob8 X0.here hx hby d6_13 (l' := #[.val (.ref b), .val (.int 0), .val (.ref t), .val (.int 0), .val (.int 3), .val (.int 0), .val (.int c0)]) rfl ?_
  refine oa8 X0.here hx hby d6_15 rfl ?_
  refine od0 X0.here hx hby d6_17 (v := (255 : Int32)) (by decide) ?_
  refine ob2 X0.here hx hby (pc' := 26) d6_20 (flt l_c0).2.2.2 (by decide) (by decide) ?_
  refine oa2 X0.here hx hby d6_26 rfl rfl ?_
  refine oa X0.here hx hby d6_27 rfl ?_
  refine oa8 X0.here hx hby d6_28 rfl ?_
  refine of5 X0.here hx hby d6_30 rfl ?_
  refine oe6 X0 hx hZ e0 V_t ⟨by decide, by decide⟩ 0 (by decide) (Nat.le_of_ble_eq_true rfl) (w := (.int (c0.toInt8.toInt32))) (congrArg Value.int (of4 c0)) hby d6_31 N0 g_t ?_
  intro T5 h5 lo5 X5 e5 N5 W5 V5 z5
  have V6 : Arv Z h5 t kb .byte (3 : Int32) [(.int (c0.toInt8.toInt32)), (.int 0), (.int 0)] (.int 0) := V5
  refine od2 X5.here hx hby d6_32 rfl (v := (1 : Int32)) (by decide) (l' := #[.val (.ref b), .val (.int 1), .val (.ref t), .val (.int 0), .val (.int 3), .val (.int 0), .val (.int c0)]) rfl ?_
  refine od2 X5.here hx hby d6_35 rfl (v := (1 : Int32)) (by decide) (l' := #[.val (.ref b), .val (.int 1), .val (.ref t), .val (.int 1), .val (.int 3), .val (.int 0), .val (.int c0)]) rfl ?_
  refine od2 X5.here hx hby d6_38 rfl (v := (1 : Int32)) (by decide) (l' := #[.val (.ref b), .val (.int 1), .val (.ref t), .val (.int 1), .val (.int 3), .val (.int 1), .val (.int c0)]) rfl ?_
  refine oc X5.here hx hby (pc' := 3) d6_41 (by decide) (by decide) ?_
  refine oa8 X5.here hx hby d6_3 rfl ?_
  refine oa8 X5.here hx hby d6_5 rfl ?_
  refine oa7 X5.here hx hby d6_7 (tlt (show (1 : Int32) < (3 : Int32) from (by decide))).2.1 ?_
  refine oa2 X5.here hx hby d6_10 rfl rfl ?_
  refine oa X5.here hx hby d6_11 rfl ?_
  have f7 := (V_b.other W5 (own_ne_aa V_b V_t (by decide)))
  refine oc6 X5 hx hZ e5 f7 ⟨by decide, by decide⟩ (v := (.int c1)) rfl hby d6_12 ?_
  refine ob8 X5.here hx hby d6_13 (l' := #[.val (.ref b), .val (.int 1), .val (.ref t), .val (.int 1), .val (.int 3), .val (.int 1), .val (.int c1)]) rfl ?_
  refine oa8 X5.here hx hby d6_15 rfl ?_
  refine od0 X5.here hx hby d6_17 (v := (255 : Int32)) (by decide) ?_
  refine oa7 X5.here hx hby d6_20 (tlt g_).2.2.2 ?_
  refine oa8 X5.here hx hby d6_23 rfl ?_
  have K8 : Keep h0 h5 [t] := ((Keep.refl h0 [t]).wr W5 (Or.inl (List.mem_of_getElem? (i := 0) rfl)))
  refine oa9 X5 Bd.notSynchronized (v := some (.int 1)) (ob4 Bd.returns) (fun _ hr => retOut X5 hx Bd.returns rfl (Or.inl ⟨rfl, Or.inl rfl, _, rfl⟩) (hb hby d6_25) hr) e5 (by decide) (by decide) ?_
  exact ⟨rfl, N5, K8⟩
def Q_cmpr_3_1 (Z : State) (b : Nat) (kC : ClassId) (c0 : Int32) (c1 : Int32) (c2 : Int32) (h0 : Heap) (n0 : Nat) (vR : Option Value) (hR : Heap) (LR : List Loc) : Prop := ∃ (t : Nat) (kb : ClassId), vR = some (.ref t) ∧ Fr n0 LR ∧ Keep h0 hR [] ∧ h0.size ≤ t ∧ (Arv Z hR t kb .byte (6 : Int32) [(.int ((c0 >>> ((0 : Int32) &&& 31)).toInt8.toInt32)), (.int ((c0 >>> ((8 : Int32) &&& 31)).toInt8.toInt32)), (.int ((c1 >>> ((0 : Int32) &&& 31)).toInt8.toInt32)), (.int ((c1 >>> ((8 : Int32) &&& 31)).toInt8.toInt32)), (.int ((c2 >>> ((0 : Int32) &&& 31)).toInt8.toInt32)), (.int ((c2 >>> ((8 : Int32) &&& 31)).toInt8.toInt32))] (.int 0))
theorem cmpr_3_1 (l : Launch) (Z : State) (a0 : Array Value) (hw : ∀ d ∈ tables_1, d.before a0 Z = true) (ws : List Jvm.Cond) (b : Nat) (kC : ClassId) (c0 : Int32) (c1 : Int32) (c2 : Int32) (h0 : Heap) (n0 : Nat) (Z0 : n0 ≤ h0.size) (V_b : Arv Z h0 b kC .char (3 : Int32) [(.int c0), (.int c1), (.int c2)] (.int 0)) (S_AD : Sta Z h0 "java/lang/StringUTF16" "$assertionsDisabled" "Z" (.int 1)) (S_HI : Sta Z h0 "java/lang/StringUTF16" "HI_BYTE_SHIFT" "I" (.int 0)) (S_LO : Sta Z h0 "java/lang/StringUTF16" "LO_BYTE_SHIFT" "I" (.int 8)) (l_c0 : ¬ ((255 : Int32) < c0)) (g_ : (255 : Int32) < c1) (h0_c1 : ¬ (c1 < (0 : Int32))) (h1_c1 : ¬ ((65535 : Int32) < c1)) :
    oc2 l (⟨"java/lang/StringUTF16", "compress", "([CII)[B"⟩ : MethodName) jdk_52_method_16_code 6 (some (.array .byte)) ws ({ frames := 3, cells := 2, slots := 9, locals := 40 } : Room) Z #[(.ref b), (.int 0), (.int 3)] h0 (Q_cmpr_3_1 Z b kC c0 c1 c2 h0 n0) := by
  refine ob3 (own := "java/lang/StringUTF16") rfl (plainFor_of_name pn_5) (fun m => ef_cmpr_1_0 m b (0 : Int32) (3 : Int32)) ?_
  intro p e s m below meth c s₁ Bd hml hZ hh hx hby hown X0 e0
  have N0 := Fr.nil n0
  have lt3 : h0.size > b := V_b.lt
  refine oa X0.here hx hby d5_0 rfl ?_
  refine of3 X0 hx hZ (aty := .byte) (oa0 hw 24 rfl) e0 hby d5_1 (by decide) 3 (by decide) (by decide) (by decide) (by decide) (ad := "[B") (by decide) ?_
  intro T4 h4 k4 b4 X4 e4 E4 g4 V4 C4 lt4
  have z5 : h0.size ≤ h4.size := E4.1
  have V6 : Arv Z h4 b4 k4 .byte (3 : Int32) [(.int 0), (.int 0), (.int 0)] (.int 0) := V4.pad (pad_rep [] (.int 0) 3)
  refine of8 X4.here hx hby d5_3 rfl (l' := #[.val (.ref b), .val (.int 0), .val (.int 3), .val (.ref b4), .unset, .unset]) rfl ?_
  refine oa2 X4.here hx hby d5_4 rfl rfl ?_
  refine oa X4.here hx hby d5_5 rfl ?_
  refine oa2 X4.here hx hby d5_6 rfl rfl ?_
  refine oa4 X4.here hx hby d5_7 (v := (0 : Int32)) (by decide) ?_
  refine oa X4.here hx hby d5_8 rfl ?_
  have f7 := (V_b.ext E4)
  have z9 : n0 ≤ h4.size := by omega
  refine oa3 X4 hx hZ hown (oa0 hw 25 rfl) (oa0 hw 26 rfl) (oa0 hw 22 rfl) (oa0 hw 27 rfl) (by decide) (cmp2_3_1 l Z a0 hw [] b b4 kC k4 c0 c1 c2 h4 n0 z9 f7 V6 (by omega) l_c0 g_) 0 hml rfl (argsL := [(.ref b), (.int 0), (.ref b4), (.int 0), (.int 3)]) (st := []) (lenOf pd_15 rfl) rfl rfl e4 hby d5_9 ?_
  intro T8 v8 L8 X8 hQ8
  obtain ⟨rfl, Nq8, K8⟩ := hQ8
  have N8 := Fr.app N0 Nq8
  have z10 : h4.size ≤ T8.heap.size := K8.1
  refine oa5 (T := T8) 12 #[.val (.ref b), .val (.int 0), .val (.int 3), .val (.ref b4), .unset, .unset] [(.int 1)] ?_
  refine ob8 X8.here hx hby d5_12 (l' := #[.val (.ref b), .val (.int 0), .val (.int 3), .val (.ref b4), .val (.int 1), .unset]) rfl ?_
  refine oa8 X8.here hx hby d5_14 rfl ?_
  refine oa X8.here hx hby d5_16 rfl ?_
  refine oa7 X8.here hx hby d5_17 (feq (show ¬ ((1 : Int32) = (3 : Int32)) from (by decide))).1 ?_
  refine oa2 X8.here hx hby d5_20 rfl rfl ?_
  refine oa X8.here hx hby d5_21 rfl ?_
  refine oa X8.here hx hby d5_22 rfl ?_
  have f11 := (f7.keep K8 (ninS (oc4 (by omega)) nin0))
  have f12 := (ob (S_AD.ext E4) K8 (allS (ob5 C4) all0))
  have f13 := (ob (S_HI.ext E4) K8 (allS (ob5 C4) all0))
  have f14 := (ob (S_LO.ext E4) K8 (allS (ob5 C4) all0))
  have z16 : n0 ≤ T8.heap.size := by omega
  refine oa3 X8 hx hZ hown (oa0 hw 93 rfl) (oa0 hw 94 rfl) (oa0 hw 22 rfl) (oa0 hw 95 rfl) (by decide) (toB_3 l Z a0 hw [] b kC c0 c1 c2 T8.heap n0 z16 f11 f12 f13 f14) 0 hml rfl (argsL := [(.ref b), (.int 0), (.int 3)]) (st := []) (lenOf pd_16 rfl) rfl rfl rfl hby d5_23 ?_
  intro T15 v15 L15 X15 hQ15
  obtain ⟨t_15, kb_15, rfl, Nq15, K15, P15_0, P15_1⟩ := hQ15
  have N15 := Fr.app N8 Nq15
  have z17 : T8.heap.size ≤ T15.heap.size := K15.1
  have lt18 : T15.heap.size > t_15 := P15_1.lt
  refine oa5 (T := T15) 26 #[.val (.ref b), .val (.int 0), .val (.int 3), .val (.ref b4), .val (.int 1), .unset] [(.ref t_15)] ?_
  refine od5 X15.here hx hby d5_26 rfl (l' := #[.val (.ref b), .val (.int 0), .val (.int 3), .val (.ref b4), .val (.int 1), .val (.ref t_15)]) rfl ?_
  refine oc7 X15.here hx hby d5_28 rfl rfl ?_
  refine oa8 X15.here hx hby d5_30 rfl ?_
  have f19 := (ob f12 K15 all0)
  have f20 := (ob f13 K15 all0)
  have f21 := (ob f14 K15 all0)
  have z23 : n0 ≤ T15.heap.size := by omega
  refine oa3 X15 hx hZ hown (oa0 hw 109 rfl) (oa0 hw 110 rfl) (oa0 hw 22 rfl) (oa0 hw 111 rfl) (by decide) (getCh_1_3 l Z a0 hw [] t_15 kb_15 c0 c1 c2 T15.heap n0 z23 P15_1 f19 f20 f21 h0_c1 h1_c1) 0 hml rfl (argsL := [(.ref t_15), (.int 1)]) (st := []) (lenOf pd_7 rfl) rfl rfl rfl hby d5_32 ?_
  intro T22 v22 L22 X22 hQ22
  obtain ⟨rfl, Nq22, eh22⟩ := hQ22
  have N22 := Fr.app N15 Nq22
  refine oa5 (T := T22) 35 #[.val (.ref b), .val (.int 0), .val (.int 3), .val (.ref b4), .val (.int 1), .val (.ref t_15)] [(.int c1)] ?_
  refine od0 X22.here hx hby d5_35 (v := (255 : Int32)) (by decide) ?_
  refine ob2 X22.here hx hby (pc' := 54) d5_38 (tlt g_).2.2.1 (by decide) (by decide) ?_
  refine oc7 X22.here hx hby d5_54 rfl rfl ?_
  have K24 : Keep h0 T15.heap [] := ((((Keep.refl h0 []).ext E4).trans K8 (allS (P := fun xq_ => xq_ ∈ [] ∨ h0.size ≤ xq_) (Or.inr (by omega)) all0)).trans K15 all0)
  refine oa9 X22 Bd.notSynchronized (v := some (.ref t_15)) (ob4 Bd.returns) (fun _ hr => retOut X22 hx Bd.returns rfl (Or.inr (Or.inr (Or.inr (Or.inr ⟨rfl, rfl, rfl⟩)))) (hb hby d5_56) hr) eh22 (by decide) (by decide) ?_
  exact ⟨t_15, kb_15, rfl, N22, K24, (by omega), P15_1⟩
def Q_sU4_3_1 (Z : State) (x : Nat) (b : Nat) (kC : ClassId) (zc : Int32) (c0 : Int32) (c1 : Int32) (c2 : Int32) (h0 : Heap) (n0 : Nat) (vR : Option Value) (hR : Heap) (LR : List Loc) : Prop := ∃ (t : Nat) (kb : ClassId), vR = none ∧ Fr n0 LR ∧ Keep h0 hR [x] ∧ h0.size ≤ t ∧ (Exa Z hR x "java/lang/String") ∧ (Fld Z hR x "java/lang/String" "coder" "B" (.int 1)) ∧ (Fld Z hR x "java/lang/String" "value" "[B" (.ref t)) ∧ (Arv Z hR t kb .byte (6 : Int32) [(.int ((c0 >>> ((0 : Int32) &&& 31)).toInt8.toInt32)), (.int ((c0 >>> ((8 : Int32) &&& 31)).toInt8.toInt32)), (.int ((c1 >>> ((0 : Int32) &&& 31)).toInt8.toInt32)), (.int ((c1 >>> ((8 : Int32) &&& 31)).toInt8.toInt32)), (.int ((c2 >>> ((0 : Int32) &&& 31)).toInt8.toInt32)), (.int ((c2 >>> ((8 : Int32) &&& 31)).toInt8.toInt32))] (.int 0))
theorem sU4_3_1 (l : Launch) (Z : State) (a0 : Array Value) (hw : ∀ d ∈ tables_1, d.before a0 Z = true) (ws : List Jvm.Cond) (x : Nat) (b : Nat) (kC : ClassId) (zc : Int32) (c0 : Int32) (c1 : Int32) (c2 : Int32) (h0 : Heap) (n0 : Nat) (Z0 : n0 ≤ h0.size) (E_x : Exa Z h0 x "java/lang/String") (g_x : n0 ≤ x) (Fv_x : Fld Z h0 x "java/lang/String" "value" "[B" .null) (Fc_x : Fld Z h0 x "java/lang/String" "coder" "B" (.int 0)) (V_b : Arv Z h0 b kC .char (3 : Int32) [(.int c0), (.int c1), (.int c2)] (.int 0)) (S_C : Sta Z h0 "java/lang/String" "COMPACT_STRINGS" "Z" (.int zc)) (hz : ¬ (zc = (0 : Int32))) (S_AD : Sta Z h0 "java/lang/StringUTF16" "$assertionsDisabled" "Z" (.int 1)) (S_HI : Sta Z h0 "java/lang/StringUTF16" "HI_BYTE_SHIFT" "I" (.int 0)) (S_LO : Sta Z h0 "java/lang/StringUTF16" "LO_BYTE_SHIFT" "I" (.int 8)) (l_c0 : ¬ ((255 : Int32) < c0)) (g_ : (255 : Int32) < c1) (h0_c1 : ¬ (c1 < (0 : Int32))) (h1_c1 : ¬ ((65535 : Int32) < c1)) :
    oc2 l (⟨"java/lang/String", "<init>", "([CIILjava/lang/Void;)V"⟩ : MethodName) jdk_42_method_149_code 6 none ws ({ frames := 4, cells := 2, slots := 9, locals := 57 } : Room) Z #[(.ref x), (.ref b), (.int 0), (.int 3), .null] h0 (Q_sU4_3_1 Z x b kC zc c0 c1 c2 h0 n0) := by
  refine ob3 (own := "java/lang/String") rfl (plainFor_of_name pn_3) (fun m => ef_strE4 m x b (0 : Int32) (3 : Int32)) ?_
  intro p e s m below meth c s₁ Bd hml hZ hh hx hby hown X0 e0
  have N0 := Fr.nil n0
  have lt3 : h0.size > x := E_x.lt
  have lt4 : h0.size > b := V_b.lt
  refine oa2 X0.here hx hby d3_0 rfl rfl ?_
  refine og3 X0 hx hZ hown (oa0 hw 16 rfl) (oa0 hw 17 rfl) (oa0 hw 18 rfl) e0 (by rw [hml]; rfl) hby d3_1 (by decide) 0 (Nat.le_of_eq rfl) (by decide) ?_
  intro T5 X5 e5
  refine oa X5.here hx hby d3_4 rfl ?_
  refine ob1 X5.here hx hby (pc' := 27) d3_5 ((if0 _ _).trans (feq (show ¬ ((3 : Int32) = (0 : Int32)) from (by decide))).2) (by decide) (by decide) ?_
  refine oc3 X5 hx hZ hown (host := "") (Or.inl (oa0 hw 19 rfl)) Via.refl e5 S_C hby d3_27 ?_
  intro T6 X6 e6
  refine ob7 X6.here hx hby d3_30 ((if0 _ _).trans (feq hz).1) ?_
  refine oa2 X6.here hx hby d3_33 rfl rfl ?_
  refine oa X6.here hx hby d3_34 rfl ?_
  refine oa X6.here hx hby d3_35 rfl ?_
  refine oa3 X6 hx hZ hown (oa0 hw 20 rfl) (oa0 hw 21 rfl) (oa0 hw 22 rfl) (oa0 hw 23 rfl) (by decide) (cmpr_3_1 l Z a0 hw [] b kC c0 c1 c2 h0 n0 Z0 V_b S_AD S_HI S_LO l_c0 g_ h0_c1 h1_c1) 0 hml rfl (argsL := [(.ref b), (.int 0), (.int 3)]) (st := []) (lenOf pd_16 rfl) rfl rfl e6 hby d3_36 ?_
  intro T7 v7 L7 X7 hQ7
  obtain ⟨t_7, kb_7, rfl, Nq7, K7, P7_0, P7_1⟩ := hQ7
  have N7 := Fr.app N0 Nq7
  have z8 : h0.size ≤ T7.heap.size := K7.1
  have lt9 : T7.heap.size > t_7 := P7_1.lt
  refine oa5 (T := T7) 39 #[.val (.ref x), .val (.ref b), .val (.int 0), .val (.int 3), .val .null, .unset] [(.ref t_7)] ?_
  refine od5 X7.here hx hby d3_39 rfl (l' := #[.val (.ref x), .val (.ref b), .val (.int 0), .val (.int 3), .val .null, .val (.ref t_7)]) rfl ?_
  refine oa2 X7.here hx hby d3_41 rfl rfl ?_
  refine oc7 X7.here hx hby d3_42 rfl rfl ?_
  refine oa X7.here hx hby d3_44 rfl ?_
  have z11 : n0 ≤ T7.heap.size := by omega
  refine oa3 X7 hx hZ hown (oa0 hw 28 rfl) (oa0 hw 29 rfl) (oa0 hw 22 rfl) (oa0 hw 30 rfl) (by decide) (cfl_3 l Z a0 hw [] t_7 kb_7 c0 c1 c2 T7.heap n0 z11 P7_1) 1 hml rfl (argsL := [(.ref t_7), (.int 3)]) (st := [(.ref x)]) (lenOf pd_17 rfl) rfl rfl rfl hby d3_45 ?_
  intro T10 v10 L10 X10 hQ10
  obtain ⟨rfl, Nq10, eh10⟩ := hQ10
  have N10 := Fr.app N7 Nq10
  refine oa5 (T := T10) 48 #[.val (.ref x), .val (.ref b), .val (.int 0), .val (.int 3), .val .null, .val (.ref t_7)] [(.int 1), (.ref x)] ?_
  have f12 := (E_x.keep K7)
  have f13 := (Fc_x.keep K7 nin0)
  refine og2 X10 hx hZ (ty := .byte) (v' := (.int 1)) hown (oa0 hw 31 rfl) Via.refl eh10 f13 f12 (Or.inr ⟨(oa0 hw 32 rfl), rfl, (name_of_methodNamed Bd.named Bd.method).1⟩) (oa0 hw 7 rfl) (by decide) rfl rfl hby d3_48 N10 g_x ?_
  intro T14 h14 lo14 X14 e14 N14 W14 F14 z14
  refine oa2 X14.here hx hby d3_51 rfl rfl ?_
  refine oc7 X14.here hx hby d3_52 rfl rfl ?_
  have f15 := (f12.wr W14)
  have f16 := ((Fv_x.keep K7 nin0).other W14 (Or.inr (slot_ne (Or.inr (oa0 hw 34 rfl)) (Or.inr (oa0 hw 32 rfl)) (by decide) (t := (.array .byte)) (t' := .byte) (by decide) (by decide))))
  refine og8 X14 hx hZ (ty := (.array .byte)) hown (host := "") (Or.inl (oa0 hw 33 rfl)) Via.refl e14 f16 f15 (Or.inr ⟨(oa0 hw 34 rfl), rfl, (name_of_methodNamed Bd.named Bd.method).1⟩) (oa0 hw 7 rfl) (by decide) rfl rfl hby d3_54 N14 g_x ?_
  intro T17 h17 lo17 X17 e17 N17 W17 F17 z17
  have K18 : Keep h0 h17 [x] := ((((Keep.refl h0 [x]).trans K7 all0).wr W14 (Or.inl (List.mem_of_getElem? (i := 0) rfl))).wr W17 (Or.inl (List.mem_of_getElem? (i := 0) rfl)))
  have f19 := (f15.wr W17)
  have f20 := (F14.other W17 (Or.inr (slot_ne (Or.inr (oa0 hw 32 rfl)) (Or.inr (oa0 hw 34 rfl)) (by decide) (t := .byte) (t' := (.array .byte)) (by decide) (by decide))))
  have f21 := ((P7_1.other W14 (oc4 (by omega))).other W17 (oc4 (by omega)))
  refine oa9 X17 Bd.notSynchronized (v := none) (fun _ => rfl) (fun _ hr => X17.returnOut hx Bd.returns (hb hby d3_57) hr) e17 (by decide) (by decide) ?_
  exact ⟨t_7, kb_7, rfl, N17, K18, (by omega), f19, f20, F17, f21⟩
def Q_sU1_3_1 (Z : State) (x : Nat) (b : Nat) (kC : ClassId) (zc : Int32) (c0 : Int32) (c1 : Int32) (c2 : Int32) (h0 : Heap) (n0 : Nat) (vR : Option Value) (hR : Heap) (LR : List Loc) : Prop := ∃ (t : Nat) (kb : ClassId), vR = none ∧ Fr n0 LR ∧ Keep h0 hR [x] ∧ h0.size ≤ t ∧ (Exa Z hR x "java/lang/String") ∧ (Fld Z hR x "java/lang/String" "coder" "B" (.int 1)) ∧ (Fld Z hR x "java/lang/String" "value" "[B" (.ref t)) ∧ (Arv Z hR t kb .byte (6 : Int32) [(.int ((c0 >>> ((0 : Int32) &&& 31)).toInt8.toInt32)), (.int ((c0 >>> ((8 : Int32) &&& 31)).toInt8.toInt32)), (.int ((c1 >>> ((0 : Int32) &&& 31)).toInt8.toInt32)), (.int ((c1 >>> ((8 : Int32) &&& 31)).toInt8.toInt32)), (.int ((c2 >>> ((0 : Int32) &&& 31)).toInt8.toInt32)), (.int ((c2 >>> ((8 : Int32) &&& 31)).toInt8.toInt32))] (.int 0))
theorem sU1_3_1 (l : Launch) (Z : State) (a0 : Array Value) (hw : ∀ d ∈ tables_1, d.before a0 Z = true) (ws : List Jvm.Cond) (x : Nat) (b : Nat) (kC : ClassId) (zc : Int32) (c0 : Int32) (c1 : Int32) (c2 : Int32) (h0 : Heap) (n0 : Nat) (Z0 : n0 ≤ h0.size) (E_x : Exa Z h0 x "java/lang/String") (g_x : n0 ≤ x) (Fv_x : Fld Z h0 x "java/lang/String" "value" "[B" .null) (Fc_x : Fld Z h0 x "java/lang/String" "coder" "B" (.int 0)) (V_b : Arv Z h0 b kC .char (3 : Int32) [(.int c0), (.int c1), (.int c2)] (.int 0)) (S_C : Sta Z h0 "java/lang/String" "COMPACT_STRINGS" "Z" (.int zc)) (hz : ¬ (zc = (0 : Int32))) (S_AD : Sta Z h0 "java/lang/StringUTF16" "$assertionsDisabled" "Z" (.int 1)) (S_HI : Sta Z h0 "java/lang/StringUTF16" "HI_BYTE_SHIFT" "I" (.int 0)) (S_LO : Sta Z h0 "java/lang/StringUTF16" "LO_BYTE_SHIFT" "I" (.int 8)) (l_c0 : ¬ ((255 : Int32) < c0)) (g_ : (255 : Int32) < c1) (h0_c1 : ¬ (c1 < (0 : Int32))) (h1_c1 : ¬ ((65535 : Int32) < c1)) :
    oc2 l (⟨"java/lang/String", "<init>", "([C)V"⟩ : MethodName) jdk_42_method_3_code 2 none ws ({ frames := 5, cells := 2, slots := 9, locals := 74 } : Room) Z #[(.ref x), (.ref b)] h0 (Q_sU1_3_1 Z x b kC zc c0 c1 c2 h0 n0) := by
  refine ob3 (own := "java/lang/String") rfl (plainFor_of_name pn_2) (fun m => ef_strE1 m x b) ?_
  intro p e s m below meth c s₁ Bd hml hZ hh hx hby hown X0 e0
  have N0 := Fr.nil n0
  have lt3 : h0.size > x := E_x.lt
  have lt4 : h0.size > b := V_b.lt
  refine oa2 X0.here hx hby d2_0 rfl rfl ?_
  refine oa2 X0.here hx hby d2_1 rfl rfl ?_
  refine oa4 X0.here hx hby d2_2 (v := (0 : Int32)) (by decide) ?_
  refine oa2 X0.here hx hby d2_3 rfl rfl ?_
  refine oe X0 hx hZ e0 V_b hby d2_4 ?_
  refine of6 X0.here hx hby d2_5 ?_
  refine of0 X0 hx hZ rfl hown (oa0 hw 12 rfl) (oa0 hw 13 rfl) (oa0 hw 8 rfl) (oa0 hw 15 rfl) (by decide) (sU4_3_1 l Z a0 hw [] x b kC zc c0 c1 c2 h0 n0 Z0 E_x g_x Fv_x Fc_x V_b S_C hz S_AD S_HI S_LO l_c0 g_ h0_c1 h1_c1) 0 (Nat.le_of_eq rfl) (by decide) (by decide) (by rw [hml]; rfl) (argsL := [(.ref b), (.int 0), (.int 3), .null]) (st := []) (a := x) (lenOf pd_0 rfl) rfl rfl (by decide) (by decide) e0 hby d2_6 ?_
  intro T5 v5 L5 X5 hQ5
  obtain ⟨t_5, kb_5, rfl, Nq5, K5, P5_0, P5_1, P5_2, P5_3, P5_4⟩ := hQ5
  have N5 := Fr.app N0 Nq5
  have z6 : h0.size ≤ T5.heap.size := K5.1
  have lt7 : T5.heap.size > x := P5_1.lt
  have lt8 : T5.heap.size > t_5 := P5_4.lt
  refine oa5 (T := T5) 9 #[.val (.ref x), .val (.ref b)] [] ?_
  have K9 : Keep h0 T5.heap [x] := ((Keep.refl h0 [x]).trans K5 (allS (P := fun xq_ => xq_ ∈ [x] ∨ h0.size ≤ xq_) (Or.inl (List.mem_of_getElem? (i := 0) rfl)) all0))
  refine oa9 X5 Bd.notSynchronized (v := none) (fun _ => rfl) (fun _ hr => X5.returnOut hx Bd.returns (hb hby d2_9) hr) rfl (by decide) (by decide) ?_
  exact ⟨t_5, kb_5, rfl, N5, K9, (by omega), P5_1, P5_2, P5_3, P5_4⟩
def Q_cmp2_3_2 (Z : State) (b : Nat) (t : Nat) (kC : ClassId) (kb : ClassId) (c0 : Int32) (c1 : Int32) (c2 : Int32) (h0 : Heap) (n0 : Nat) (vR : Option Value) (hR : Heap) (LR : List Loc) : Prop := vR = some (.int 2) ∧ Fr n0 LR ∧ Keep h0 hR [t]
theorem cmp2_3_2 (l : Launch) (Z : State) (a0 : Array Value) (hw : ∀ d ∈ tables_1, d.before a0 Z = true) (ws : List Jvm.Cond) (b : Nat) (t : Nat) (kC : ClassId) (kb : ClassId) (c0 : Int32) (c1 : Int32) (c2 : Int32) (h0 : Heap) (n0 : Nat) (Z0 : n0 ≤ h0.size) (V_b : Arv Z h0 b kC .char (3 : Int32) [(.int c0), (.int c1), (.int c2)] (.int 0)) (V_t : Arv Z h0 t kb .byte (3 : Int32) [(.int 0), (.int 0), (.int 0)] (.int 0)) (g_t : n0 ≤ t) (l_c0 : ¬ ((255 : Int32) < c0)) (l_c1 : ¬ ((255 : Int32) < c1)) (g_ : (255 : Int32) < c2) :
    oc2 l (⟨"java/lang/StringUTF16", "compress", "([CI[BII)I"⟩ : MethodName) jdk_52_method_21_code 7 (some .int) ws ({ frames := 0, cells := 0, slots := 0, locals := 0 } : Room) Z #[(.ref b), (.int 0), (.ref t), (.int 0), (.int 3)] h0 (Q_cmp2_3_2 Z b t kC kb c0 c1 c2 h0 n0) := by
  refine ob3 (own := "java/lang/StringUTF16") rfl (plainFor_of_name pn_6) (fun m => ef_cmp2_1_0 m b (0 : Int32) t (0 : Int32) (3 : Int32)) ?_
  intro p e s m below meth c s₁ Bd hml hZ hh hx hby hown X0 e0
  have N0 := Fr.nil n0
  have lt3 : h0.size > b := V_b.lt
  have lt4 : h0.size > t := V_t.lt
  refine oa4 X0.here hx hby d6_0 (v := (0 : Int32)) (by decide) ?_
  refine ob8 X0.here hx hby d6_1 (l' := #[.val (.ref b), .val (.int 0), .val (.ref t), .val (.int 0), .val (.int 3), .val (.int 0), .unset]) rfl ?_
  refine oa8 X0.here hx hby d6_3 rfl ?_
  refine oa8 X0.here hx hby d6_5 rfl ?_
  refine oa7 X0.here hx hby d6_7 (tlt (show (0 : Int32) < (3 : Int32) from (by decide))).2.1 ?_
  refine oa2 X0.here hx hby d6_10 rfl rfl ?_
  refine oa X0.here hx hby d6_11 rfl ?_
  refine oc6 X0 hx hZ e0 V_b ⟨by decide, by decide⟩ (v := (.int c0)) rfl hby d6_12 ?_
  refine ob8 X0.here hx hby d6_13 (l' := #[.val (.ref b), .val (.int 0), .val (.ref t), .val (.int 0), .val (.int 3), .val (.int 0), .val (.int c0)]) rfl ?_
  refine oa8 X0.here hx hby d6_15 rfl ?_
  refine od0 X0.here hx hby d6_17 (v := (255 : Int32)) (by decide) ?_
  refine ob2 X0.here hx hby (pc' := 26) d6_20 (flt l_c0).2.2.2 (by decide) (by decide) ?_
  refine oa2 X0.here hx hby d6_26 rfl rfl ?_
  refine oa X0.here hx hby d6_27 rfl ?_
  refine oa8 X0.here hx hby d6_28 rfl ?_
  refine of5 X0.here hx hby d6_30 rfl ?_
  refine oe6 X0 hx hZ e0 V_t ⟨by decide, by decide⟩ 0 (by decide) (Nat.le_of_ble_eq_true rfl) (w := (.int (c0.toInt8.toInt32))) (congrArg Value.int (of4 c0)) hby d6_31 N0 g_t ?_
  intro T5 h5 lo5 X5 e5 N5 W5 V5 z5
  have V6 : Arv Z h5 t kb .byte (3 : Int32) [(.int (c0.toInt8.toInt32)), (.int 0), (.int 0)] (.int 0) := V5
  refine od2 X5.here hx hby d6_32 rfl (v := (1 : Int32)) (by decide) (l' := #[.val (.ref b), .val (.int 1), .val (.ref t), .val (.int 0), .val (.int 3), .val (.int 0), .val (.int c0)]) rfl ?_
  refine od2 X5.here hx hby d6_35 rfl (v := (1 : Int32)) (by decide) (l' := #[.val (.ref b), .val (.int 1), .val (.ref t), .val (.int 1), .val (.int 3), .val (.int 0), .val (.int c0)]) rfl ?_
  refine od2 X5.here hx hby d6_38 rfl (v := (1 : Int32)) (by decide) (l' := #[.val (.ref b), .val (.int 1), .val (.ref t), .val (.int 1), .val (.int 3), .val (.int 1), .val (.int c0)]) rfl ?_
  refine oc X5.here hx hby (pc' := 3) d6_41 (by decide) (by decide) ?_
  refine oa8 X5.here hx hby d6_3 rfl ?_
  refine oa8 X5.here hx hby d6_5 rfl ?_
  refine oa7 X5.here hx hby d6_7 (tlt (show (1 : Int32) < (3 : Int32) from (by decide))).2.1 ?_
  refine oa2 X5.here hx hby d6_10 rfl rfl ?_
  refine oa X5.here hx hby d6_11 rfl ?_
  have f7 := (V_b.other W5 (own_ne_aa V_b V_t (by decide)))
  refine oc6 X5 hx hZ e5 f7 ⟨by decide, by decide⟩ (v := (.int c1)) rfl hby d6_12 ?_
  refine ob8 X5.here hx hby d6_13 (l' := #[.val (.ref b), .val (.int 1), .val (.ref t), .val (.int 1), .val (.int 3), .val (.int 1), .val (.int c1)]) rfl ?_
  refine oa8 X5.here hx hby d6_15 rfl ?_
  refine od0 X5.here hx hby d6_17 (v := (255 : Int32)) (by decide) ?_
  refine ob2 X5.here hx hby (pc' := 26) d6_20 (flt l_c1).2.2.2 (by decide) (by decide) ?_
  refine oa2 X5.here hx hby d6_26 rfl rfl ?_
  refine oa X5.here hx hby d6_27 rfl ?_
  refine oa8 X5.here hx hby d6_28 rfl ?_
  refine of5 X5.here hx hby d6_30 rfl ?_
  refine oe6 X5 hx hZ e5 V6 ⟨by decide, by decide⟩ 1 (by decide) (Nat.le_of_ble_eq_true rfl) (w := (.int (c1.toInt8.toInt32))) (congrArg Value.int (of4 c1)) hby d6_31 N5 g_t ?_
  intro T8 h8 lo8 X8 e8 N8 W8 V8 z8
  have V9 : Arv Z h8 t kb .byte (3 : Int32) [(.int (c0.toInt8.toInt32)), (.int (c1.toInt8.toInt32)), (.int 0)] (.int 0) := V8
  refine od2 X8.here hx hby d6_32 rfl (v := (2 : Int32)) (by decide) (l' := #[.val (.ref b), .val (.int 2), .val (.ref t), .val (.int 1), .val (.int 3), .val (.int 1), .val (.int c1)]) rfl ?_
  refine od2 X8.here hx hby d6_35 rfl (v := (2 : Int32)) (by decide) (l' := #[.val (.ref b), .val (.int 2), .val (.ref t), .val (.int 2), .val (.int 3), .val (.int 1), .val (.int c1)]) rfl ?_
  refine od2 X8.here hx hby d6_38 rfl (v := (2 : Int32)) (by decide) (l' := #[.val (.ref b), .val (.int 2), .val (.ref t), .val (.int 2), .val (.int 3), .val (.int 2), .val (.int c1)]) rfl ?_
  refine oc X8.here hx hby (pc' := 3) d6_41 (by decide) (by decide) ?_
  refine oa8 X8.here hx hby d6_3 rfl ?_
  refine oa8 X8.here hx hby d6_5 rfl ?_
  refine oa7 X8.here hx hby d6_7 (tlt (show (2 : Int32) < (3 : Int32) from (by decide))).2.1 ?_
  refine oa2 X8.here hx hby d6_10 rfl rfl ?_
  refine oa X8.here hx hby d6_11 rfl ?_
  have f10 := (f7.other W8 (own_ne_aa V_b V_t (by decide)))
  refine oc6 X8 hx hZ e8 f10 ⟨by decide, by decide⟩ (v := (.int c2)) rfl hby d6_12 ?_
  refine ob8 X8.here hx hby d6_13 (l' := #[.val (.ref b), .val (.int 2), .val (.ref t), .val (.int 2), .val (.int 3), .val (.int 2), .val (.int c2)]) rfl ?_
  refine oa8 X8.here hx hby d6_15 rfl ?_
  refine od0 X8.here hx hby d6_17 (v := (255 : Int32)) (by decide) ?_
  refine oa7 X8.here hx hby d6_20 (tlt g_).2.2.2 ?_
  refine oa8 X8.here hx hby d6_23 rfl ?_
  have K11 : Keep h0 h8 [t] := (((Keep.refl h0 [t]).wr W5 (Or.inl (List.mem_of_getElem? (i := 0) rfl))).wr W8 (Or.inl (List.mem_of_getElem? (i := 0) rfl)))
  refine oa9 X8 Bd.notSynchronized (v := some (.int 2)) (ob4 Bd.returns) (fun _ hr => retOut X8 hx Bd.returns rfl (Or.inl ⟨rfl, Or.inl rfl, _, rfl⟩) (hb hby d6_25) hr) e8 (by decide) (by decide) ?_
  exact ⟨rfl, N8, K11⟩
def Q_cmpr_3_2 (Z : State) (b : Nat) (kC : ClassId) (c0 : Int32) (c1 : Int32) (c2 : Int32) (h0 : Heap) (n0 : Nat) (vR : Option Value) (hR : Heap) (LR : List Loc) : Prop := ∃ (t : Nat) (kb : ClassId), vR = some (.ref t) ∧ Fr n0 LR ∧ Keep h0 hR [] ∧ h0.size ≤ t ∧ (Arv Z hR t kb .byte (6 : Int32) [(.int ((c0 >>> ((0 : Int32) &&& 31)).toInt8.toInt32)), (.int ((c0 >>> ((8 : Int32) &&& 31)).toInt8.toInt32)), (.int ((c1 >>> ((0 : Int32) &&& 31)).toInt8.toInt32)), (.int ((c1 >>> ((8 : Int32) &&& 31)).toInt8.toInt32)), (.int ((c2 >>> ((0 : Int32) &&& 31)).toInt8.toInt32)), (.int ((c2 >>> ((8 : Int32) &&& 31)).toInt8.toInt32))] (.int 0))
theorem cmpr_3_2 (l : Launch) (Z : State) (a0 : Array Value) (hw : ∀ d ∈ tables_1, d.before a0 Z = true) (ws : List Jvm.Cond) (b : Nat) (kC : ClassId) (c0 : Int32) (c1 : Int32) (c2 : Int32) (h0 : Heap) (n0 : Nat) (Z0 : n0 ≤ h0.size) (V_b : Arv Z h0 b kC .char (3 : Int32) [(.int c0), (.int c1), (.int c2)] (.int 0)) (S_AD : Sta Z h0 "java/lang/StringUTF16" "$assertionsDisabled" "Z" (.int 1)) (S_HI : Sta Z h0 "java/lang/StringUTF16" "HI_BYTE_SHIFT" "I" (.int 0)) (S_LO : Sta Z h0 "java/lang/StringUTF16" "LO_BYTE_SHIFT" "I" (.int 8)) (l_c0 : ¬ ((255 : Int32) < c0)) (l_c1 : ¬ ((255 : Int32) < c1)) (g_ : (255 : Int32) < c2) (h0_c2 : ¬ (c2 < (0 : Int32))) (h1_c2 : ¬ ((65535 : Int32) < c2)) :
    oc2 l (⟨"java/lang/StringUTF16", "compress", "([CII)[B"⟩ : MethodName) jdk_52_method_16_code 6 (some (.array .byte)) ws ({ frames := 3, cells := 2, slots := 9, locals := 40 } : Room) Z #[(.ref b), (.int 0), (.int 3)] h0 (Q_cmpr_3_2 Z b kC c0 c1 c2 h0 n0) := by
  refine ob3 (own := "java/lang/StringUTF16") rfl (plainFor_of_name pn_5) (fun m => ef_cmpr_1_0 m b (0 : Int32) (3 : Int32)) ?_
  intro p e s m below meth c s₁ Bd hml hZ hh hx hby hown X0 e0
  have N0 := Fr.nil n0
  have lt3 : h0.size > b := V_b.lt
  refine oa X0.here hx hby d5_0 rfl ?_
  refine of3 X0 hx hZ (aty := .byte) (oa0 hw 24 rfl) e0 hby d5_1 (by decide) 3 (by decide) (by decide) (by decide) (by decide) (ad := "[B") (by decide) ?_
  intro T4 h4 k4 b4 X4 e4 E4 g4 V4 C4 lt4
  have z5 : h0.size ≤ h4.size := E4.1
  have V6 : Arv Z h4 b4 k4 .byte (3 : Int32) [(.int 0), (.int 0), (.int 0)] (.int 0) := V4.pad (pad_rep [] (.int 0) 3)
  refine of8 X4.here hx hby d5_3 rfl (l' := #[.val (.ref b), .val (.int 0), .val (.int 3), .val (.ref b4), .unset, .unset]) rfl ?_
  refine oa2 X4.here hx hby d5_4 rfl rfl ?_
  refine oa X4.here hx hby d5_5 rfl ?_
  refine oa2 X4.here hx hby d5_6 rfl rfl ?_
  refine oa4 X4.here hx hby d5_7 (v := (0 : Int32)) (by decide) ?_
  refine oa X4.here hx hby d5_8 rfl ?_
  have f7 := (V_b.ext E4)
  have z9 : n0 ≤ h4.size := by omega
  refine oa3 X4 hx hZ hown (oa0 hw 25 rfl) (oa0 hw 26 rfl) (oa0 hw 22 rfl) (oa0 hw 27 rfl) (by decide) (cmp2_3_2 l Z a0 hw [] b b4 kC k4 c0 c1 c2 h4 n0 z9 f7 V6 (by omega) l_c0 l_c1 g_) 0 hml rfl (argsL := [(.ref b), (.int 0), (.ref b4), (.int 0), (.int 3)]) (st := []) (lenOf pd_15 rfl) rfl rfl e4 hby d5_9 ?_
  intro T8 v8 L8 X8 hQ8
  obtain ⟨rfl, Nq8, K8⟩ := hQ8
  have N8 := Fr.app N0 Nq8
  have z10 : h4.size ≤ T8.heap.size := K8.1
  refine oa5 (T := T8) 12 #[.val (.ref b), .val (.int 0), .val (.int 3), .val (.ref b4), .unset, .unset] [(.int 2)] ?_
  refine ob8 X8.here hx hby d5_12 (l' := #[.val (.ref b), .val (.int 0), .val (.int 3), .val (.ref b4), .val (.int 2), .unset]) rfl ?_
  refine oa8 X8.here hx hby d5_14 rfl ?_
  refine oa X8.here hx hby d5_16 rfl ?_
  refine oa7 X8.here hx hby d5_17 (feq (show ¬ ((2 : Int32) = (3 : Int32)) from (by decide))).1 ?_
  refine oa2 X8.here hx hby d5_20 rfl rfl ?_
  refine oa X8.here hx hby d5_21 rfl ?_
  refine oa X8.here hx hby d5_22 rfl ?_
  have f11 := (f7.keep K8 (ninS (oc4 (by omega)) nin0))
  have f12 := (ob (S_AD.ext E4) K8 (allS (ob5 C4) all0))
  have f13 := (ob (S_HI.ext E4) K8 (allS (ob5 C4) all0))
  have f14 := (ob (S_LO.ext E4) K8 (allS (ob5 C4) all0))
  have z16 : n0 ≤ T8.heap.size := by omega
  refine oa3 X8 hx hZ hown (oa0 hw 93 rfl) (oa0 hw 94 rfl) (oa0 hw 22 rfl) (oa0 hw 95 rfl) (by decide) (toB_3 l Z a0 hw [] b kC c0 c1 c2 T8.heap n0 z16 f11 f12 f13 f14) 0 hml rfl (argsL := [(.ref b), (.int 0), (.int 3)]) (st := []) (lenOf pd_16 rfl) rfl rfl rfl hby d5_23 ?_
  intro T15 v15 L15 X15 hQ15
  obtain ⟨t_15, kb_15, rfl, Nq15, K15, P15_0, P15_1⟩ := hQ15
  have N15 := Fr.app N8 Nq15
  have z17 : T8.heap.size ≤ T15.heap.size := K15.1
  have lt18 : T15.heap.size > t_15 := P15_1.lt
  refine oa5 (T := T15) 26 #[.val (.ref b), .val (.int 0), .val (.int 3), .val (.ref b4), .val (.int 2), .unset] [(.ref t_15)] ?_
  refine od5 X15.here hx hby d5_26 rfl (l' := #[.val (.ref b), .val (.int 0), .val (.int 3), .val (.ref b4), .val (.int 2), .val (.ref t_15)]) rfl ?_
  refine oc7 X15.here hx hby d5_28 rfl rfl ?_
  refine oa8 X15.here hx hby d5_30 rfl ?_
  have f19 := (ob f12 K15 all0)
  have f20 := (ob f13 K15 all0)
  have f21 := (ob f14 K15 all0)
  have z23 : n0 ≤ T15.heap.size := by omega
  refine oa3 X15 hx hZ hown (oa0 hw 109 rfl) (oa0 hw 110 rfl) (oa0 hw 22 rfl) (oa0 hw 111 rfl) (by decide) (getCh_2_3 l Z a0 hw [] t_15 kb_15 c0 c1 c2 T15.heap n0 z23 P15_1 f19 f20 f21 h0_c2 h1_c2) 0 hml rfl (argsL := [(.ref t_15), (.int 2)]) (st := []) (lenOf pd_7 rfl) rfl rfl rfl hby d5_32 ?_
  intro T22 v22 L22 X22 hQ22
  obtain ⟨rfl, Nq22, eh22⟩ := hQ22
  have N22 := Fr.app N15 Nq22
  refine oa5 (T := T22) 35 #[.val (.ref b), .val (.int 0), .val (.int 3), .val (.ref b4), .val (.int 2), .val (.ref t_15)] [(.int c2)] ?_
  refine od0 X22.here hx hby d5_35 (v := (255 : Int32)) (by decide) ?_
  refine ob2 X22.here hx hby (pc' := 54) d5_38 (tlt g_).2.2.1 (by decide) (by decide) ?_
  refine oc7 X22.here hx hby d5_54 rfl rfl ?_
  have K24 : Keep h0 T15.heap [] := ((((Keep.refl h0 []).ext E4).trans K8 (allS (P := fun xq_ => xq_ ∈ [] ∨ h0.size ≤ xq_) (Or.inr (by omega)) all0)).trans K15 all0)
  refine oa9 X22 Bd.notSynchronized (v := some (.ref t_15)) (ob4 Bd.returns) (fun _ hr => retOut X22 hx Bd.returns rfl (Or.inr (Or.inr (Or.inr (Or.inr ⟨rfl, rfl, rfl⟩)))) (hb hby d5_56) hr) eh22 (by decide) (by decide) ?_
  exact ⟨t_15, kb_15, rfl, N22, K24, (by omega), P15_1⟩
def Q_sU4_3_2 (Z : State) (x : Nat) (b : Nat) (kC : ClassId) (zc : Int32) (c0 : Int32) (c1 : Int32) (c2 : Int32) (h0 : Heap) (n0 : Nat) (vR : Option Value) (hR : Heap) (LR : List Loc) : Prop := ∃ (t : Nat) (kb : ClassId), vR = none ∧ Fr n0 LR ∧ Keep h0 hR [x] ∧ h0.size ≤ t ∧ (Exa Z hR x "java/lang/String") ∧ (Fld Z hR x "java/lang/String" "coder" "B" (.int 1)) ∧ (Fld Z hR x "java/lang/String" "value" "[B" (.ref t)) ∧ (Arv Z hR t kb .byte (6 : Int32) [(.int ((c0 >>> ((0 : Int32) &&& 31)).toInt8.toInt32)), (.int ((c0 >>> ((8 : Int32) &&& 31)).toInt8.toInt32)), (.int ((c1 >>> ((0 : Int32) &&& 31)).toInt8.toInt32)), (.int ((c1 >>> ((8 : Int32) &&& 31)).toInt8.toInt32)), (.int ((c2 >>> ((0 : Int32) &&& 31)).toInt8.toInt32)), (.int ((c2 >>> ((8 : Int32) &&& 31)).toInt8.toInt32))] (.int 0))
theorem sU4_3_2 (l : Launch) (Z : State) (a0 : Array Value) (hw : ∀ d ∈ tables_1, d.before a0 Z = true) (ws : List Jvm.Cond) (x : Nat) (b : Nat) (kC : ClassId) (zc : Int32) (c0 : Int32) (c1 : Int32) (c2 : Int32) (h0 : Heap) (n0 : Nat) (Z0 : n0 ≤ h0.size) (E_x : Exa Z h0 x "java/lang/String") (g_x : n0 ≤ x) (Fv_x : Fld Z h0 x "java/lang/String" "value" "[B" .null) (Fc_x : Fld Z h0 x "java/lang/String" "coder" "B" (.int 0)) (V_b : Arv Z h0 b kC .char (3 : Int32) [(.int c0), (.int c1), (.int c2)] (.int 0)) (S_C : Sta Z h0 "java/lang/String" "COMPACT_STRINGS" "Z" (.int zc)) (hz : ¬ (zc = (0 : Int32))) (S_AD : Sta Z h0 "java/lang/StringUTF16" "$assertionsDisabled" "Z" (.int 1)) (S_HI : Sta Z h0 "java/lang/StringUTF16" "HI_BYTE_SHIFT" "I" (.int 0)) (S_LO : Sta Z h0 "java/lang/StringUTF16" "LO_BYTE_SHIFT" "I" (.int 8)) (l_c0 : ¬ ((255 : Int32) < c0)) (l_c1 : ¬ ((255 : Int32) < c1)) (g_ : (255 : Int32) < c2) (h0_c2 : ¬ (c2 < (0 : Int32))) (h1_c2 : ¬ ((65535 : Int32) < c2)) :
    oc2 l (⟨"java/lang/String", "<init>", "([CIILjava/lang/Void;)V"⟩ : MethodName) jdk_42_method_149_code 6 none ws ({ frames := 4, cells := 2, slots := 9, locals := 57 } : Room) Z #[(.ref x), (.ref b), (.int 0), (.int 3), .null] h0 (Q_sU4_3_2 Z x b kC zc c0 c1 c2 h0 n0) := by
  refine ob3 (own := "java/lang/String") rfl (plainFor_of_name pn_3) (fun m => ef_strE4 m x b (0 : Int32) (3 : Int32)) ?_
  intro p e s m below meth c s₁ Bd hml hZ hh hx hby hown X0 e0
  have N0 := Fr.nil n0
  have lt3 : h0.size > x := E_x.lt
  have lt4 : h0.size > b := V_b.lt
  refine oa2 X0.here hx hby d3_0 rfl rfl ?_
  refine og3 X0 hx hZ hown (oa0 hw 16 rfl) (oa0 hw 17 rfl) (oa0 hw 18 rfl) e0 (by rw [hml]; rfl) hby d3_1 (by decide) 0 (Nat.le_of_eq rfl) (by decide) ?_
  intro T5 X5 e5
  refine oa X5.here hx hby d3_4 rfl ?_
  refine ob1 X5.here hx hby (pc' := 27) d3_5 ((if0 _ _).trans (feq (show ¬ ((3 : Int32) = (0 : Int32)) from (by decide))).2) (by decide) (by decide) ?_
  refine oc3 X5 hx hZ hown (host := "") (Or.inl (oa0 hw 19 rfl)) Via.refl e5 S_C hby d3_27 ?_
  intro T6 X6 e6
  refine ob7 X6.here hx hby d3_30 ((if0 _ _).trans (feq hz).1) ?_
  refine oa2 X6.here hx hby d3_33 rfl rfl ?_
  refine oa X6.here hx hby d3_34 rfl ?_
  refine oa X6.here hx hby d3_35 rfl ?_
  refine oa3 X6 hx hZ hown (oa0 hw 20 rfl) (oa0 hw 21 rfl) (oa0 hw 22 rfl) (oa0 hw 23 rfl) (by decide) (cmpr_3_2 l Z a0 hw [] b kC c0 c1 c2 h0 n0 Z0 V_b S_AD S_HI S_LO l_c0 l_c1 g_ h0_c2 h1_c2) 0 hml rfl (argsL := [(.ref b), (.int 0), (.int 3)]) (st := []) (lenOf pd_16 rfl) rfl rfl e6 hby d3_36 ?_
  intro T7 v7 L7 X7 hQ7
  obtain ⟨t_7, kb_7, rfl, Nq7, K7, P7_0, P7_1⟩ := hQ7
  have N7 := Fr.app N0 Nq7
  have z8 : h0.size ≤ T7.heap.size := K7.1
  have lt9 : T7.heap.size > t_7 := P7_1.lt
  refine oa5 (T := T7) 39 #[.val (.ref x), .val (.ref b), .val (.int 0), .val (.int 3), .val .null, .unset] [(.ref t_7)] ?_
  refine od5 X7.here hx hby d3_39 rfl (l' := #[.val (.ref x), .val (.ref b), .val (.int 0), .val (.int 3), .val .null, .val (.ref t_7)]) rfl ?_
  refine oa2 X7.here hx hby d3_41 rfl rfl ?_
  refine oc7 X7.here hx hby d3_42 rfl rfl ?_
  refine oa X7.here hx hby d3_44 rfl ?_
  have z11 : n0 ≤ T7.heap.size := by omega
  refine oa3 X7 hx hZ hown (oa0 hw 28 rfl) (oa0 hw 29 rfl) (oa0 hw 22 rfl) (oa0 hw 30 rfl) (by decide) (cfl_3 l Z a0 hw [] t_7 kb_7 c0 c1 c2 T7.heap n0 z11 P7_1) 1 hml rfl (argsL := [(.ref t_7), (.int 3)]) (st := [(.ref x)]) (lenOf pd_17 rfl) rfl rfl rfl hby d3_45 ?_
  intro T10 v10 L10 X10 hQ10
  obtain ⟨rfl, Nq10, eh10⟩ := hQ10
  have N10 := Fr.app N7 Nq10
  refine oa5 (T := T10) 48 #[.val (.ref x), .val (.ref b), .val (.int 0), .val (.int 3), .val .null, .val (.ref t_7)] [(.int 1), (.ref x)] ?_
  have f12 := (E_x.keep K7)
  have f13 := (Fc_x.keep K7 nin0)
  refine og2 X10 hx hZ (ty := .byte) (v' := (.int 1)) hown (oa0 hw 31 rfl) Via.refl eh10 f13 f12 (Or.inr ⟨(oa0 hw 32 rfl), rfl, (name_of_methodNamed Bd.named Bd.method).1⟩) (oa0 hw 7 rfl) (by decide) rfl rfl hby d3_48 N10 g_x ?_
  intro T14 h14 lo14 X14 e14 N14 W14 F14 z14
  refine oa2 X14.here hx hby d3_51 rfl rfl ?_
  refine oc7 X14.here hx hby d3_52 rfl rfl ?_
  have f15 := (f12.wr W14)
  have f16 := ((Fv_x.keep K7 nin0).other W14 (Or.inr (slot_ne (Or.inr (oa0 hw 34 rfl)) (Or.inr (oa0 hw 32 rfl)) (by decide) (t := (.array .byte)) (t' := .byte) (by decide) (by decide))))
  refine og8 X14 hx hZ (ty := (.array .byte)) hown (host := "") (Or.inl (oa0 hw 33 rfl)) Via.refl e14 f16 f15 (Or.inr ⟨(oa0 hw 34 rfl), rfl, (name_of_methodNamed Bd.named Bd.method).1⟩) (oa0 hw 7 rfl) (by decide) rfl rfl hby d3_54 N14 g_x ?_
  intro T17 h17 lo17 X17 e17 N17 W17 F17 z17
  have K18 : Keep h0 h17 [x] := ((((Keep.refl h0 [x]).trans K7 all0).wr W14 (Or.inl (List.mem_of_getElem? (i := 0) rfl))).wr W17 (Or.inl (List.mem_of_getElem? (i := 0) rfl)))
  have f19 := (f15.wr W17)
  have f20 := (F14.other W17 (Or.inr (slot_ne (Or.inr (oa0 hw 32 rfl)) (Or.inr (oa0 hw 34 rfl)) (by decide) (t := .byte) (t' := (.array .byte)) (by decide) (by decide))))
  have f21 := ((P7_1.other W14 (oc4 (by omega))).other W17 (oc4 (by omega)))
  refine oa9 X17 Bd.notSynchronized (v := none) (fun _ => rfl) (fun _ hr => X17.returnOut hx Bd.returns (hb hby d3_57) hr) e17 (by decide) (by decide) ?_
  exact ⟨t_7, kb_7, rfl, N17, K18, (by omega), f19, f20, F17, f21⟩
def Q_sU1_3_2 (Z : State) (x : Nat) (b : Nat) (kC : ClassId) (zc : Int32) (c0 : Int32) (c1 : Int32) (c2 : Int32) (h0 : Heap) (n0 : Nat) (vR : Option Value) (hR : Heap) (LR : List Loc) : Prop := ∃ (t : Nat) (kb : ClassId), vR = none ∧ Fr n0 LR ∧ Keep h0 hR [x] ∧ h0.size ≤ t ∧ (Exa Z hR x "java/lang/String") ∧ (Fld Z hR x "java/lang/String" "coder" "B" (.int 1)) ∧ (Fld Z hR x "java/lang/String" "value" "[B" (.ref t)) ∧ (Arv Z hR t kb .byte (6 : Int32) [(.int ((c0 >>> ((0 : Int32) &&& 31)).toInt8.toInt32)), (.int ((c0 >>> ((8 : Int32) &&& 31)).toInt8.toInt32)), (.int ((c1 >>> ((0 : Int32) &&& 31)).toInt8.toInt32)), (.int ((c1 >>> ((8 : Int32) &&& 31)).toInt8.toInt32)), (.int ((c2 >>> ((0 : Int32) &&& 31)).toInt8.toInt32)), (.int ((c2 >>> ((8 : Int32) &&& 31)).toInt8.toInt32))] (.int 0))
theorem sU1_3_2 (l : Launch) (Z : State) (a0 : Array Value) (hw : ∀ d ∈ tables_1, d.before a0 Z = true) (ws : List Jvm.Cond) (x : Nat) (b : Nat) (kC : ClassId) (zc : Int32) (c0 : Int32) (c1 : Int32) (c2 : Int32) (h0 : Heap) (n0 : Nat) (Z0 : n0 ≤ h0.size) (E_x : Exa Z h0 x "java/lang/String") (g_x : n0 ≤ x) (Fv_x : Fld Z h0 x "java/lang/String" "value" "[B" .null) (Fc_x : Fld Z h0 x "java/lang/String" "coder" "B" (.int 0)) (V_b : Arv Z h0 b kC .char (3 : Int32) [(.int c0), (.int c1), (.int c2)] (.int 0)) (S_C : Sta Z h0 "java/lang/String" "COMPACT_STRINGS" "Z" (.int zc)) (hz : ¬ (zc = (0 : Int32))) (S_AD : Sta Z h0 "java/lang/StringUTF16" "$assertionsDisabled" "Z" (.int 1)) (S_HI : Sta Z h0 "java/lang/StringUTF16" "HI_BYTE_SHIFT" "I" (.int 0)) (S_LO : Sta Z h0 "java/lang/StringUTF16" "LO_BYTE_SHIFT" "I" (.int 8)) (l_c0 : ¬ ((255 : Int32) < c0)) (l_c1 : ¬ ((255 : Int32) < c1)) (g_ : (255 : Int32) < c2) (h0_c2 : ¬ (c2 < (0 : Int32))) (h1_c2 : ¬ ((65535 : Int32) < c2)) :
    oc2 l (⟨"java/lang/String", "<init>", "([C)V"⟩ : MethodName) jdk_42_method_3_code 2 none ws ({ frames := 5, cells := 2, slots := 9, locals := 74 } : Room) Z #[(.ref x), (.ref b)] h0 (Q_sU1_3_2 Z x b kC zc c0 c1 c2 h0 n0) := by
  refine ob3 (own := "java/lang/String") rfl (plainFor_of_name pn_2) (fun m => ef_strE1 m x b) ?_
  intro p e s m below meth c s₁ Bd hml hZ hh hx hby hown X0 e0
  have N0 := Fr.nil n0
  have lt3 : h0.size > x := E_x.lt
  have lt4 : h0.size > b := V_b.lt
  refine oa2 X0.here hx hby d2_0 rfl rfl ?_
  refine oa2 X0.here hx hby d2_1 rfl rfl ?_
  refine oa4 X0.here hx hby d2_2 (v := (0 : Int32)) (by decide) ?_
  refine oa2 X0.here hx hby d2_3 rfl rfl ?_
  refine oe X0 hx hZ e0 V_b hby d2_4 ?_
  refine of6 X0.here hx hby d2_5 ?_
  refine of0 X0 hx hZ rfl hown (oa0 hw 12 rfl) (oa0 hw 13 rfl) (oa0 hw 8 rfl) (oa0 hw 15 rfl) (by decide) (sU4_3_2 l Z a0 hw [] x b kC zc c0 c1 c2 h0 n0 Z0 E_x g_x Fv_x Fc_x V_b S_C hz S_AD S_HI S_LO l_c0 l_c1 g_ h0_c2 h1_c2) 0 (Nat.le_of_eq rfl) (by decide) (by decide) (by rw [hml]; rfl) (argsL := [(.ref b), (.int 0), (.int 3), .null]) (st := []) (a := x) (lenOf pd_0 rfl) rfl rfl (by decide) (by decide) e0 hby d2_6 ?_
  intro T5 v5 L5 X5 hQ5
  obtain ⟨t_5, kb_5, rfl, Nq5, K5, P5_0, P5_1, P5_2, P5_3, P5_4⟩ := hQ5
  have N5 := Fr.app N0 Nq5
  have z6 : h0.size ≤ T5.heap.size := K5.1
  have lt7 : T5.heap.size > x := P5_1.lt
  have lt8 : T5.heap.size > t_5 := P5_4.lt
  refine oa5 (T := T5) 9 #[.val (.ref x), .val (.ref b)] [] ?_
  have K9 : Keep h0 T5.heap [x] := ((Keep.refl h0 [x]).trans K5 (allS (P := fun xq_ => xq_ ∈ [x] ∨ h0.size ≤ xq_) (Or.inl (List.mem_of_getElem? (i := 0) rfl)) all0))
  refine oa9 X5 Bd.notSynchronized (v := none) (fun _ => rfl) (fun _ hr => X5.returnOut hx Bd.returns (hb hby d2_9) hr) rfl (by decide) (by decide) ?_
  exact ⟨t_5, kb_5, rfl, N5, K9, (by omega), P5_1, P5_2, P5_3, P5_4⟩
theorem ef_rm0 (m : MethodId) (x0 : Int32) (x1 : Int32) (x2 : Int32) (x3 : Int32) : entryFrame m #[(.int x0), (.int x1), (.int x2), (.int x3)] maxLocals = mkF m 0 #[.val (.int x0), .val (.int x1), .val (.int x2), .val (.int x3), .unset, .unset, .unset, .unset, .unset, .unset, .unset] [] := by first | (simp [entryFrame, mkF, argsToLocals, Value.category, maxLocals]; done) | rfl
theorem pn_0 : plainName "com/example/sluice/sluice/MessageDisallowedCharacterPinLaw" = true := by first | (simp [plainName, overriddenIn]; done) | decide +kernel
theorem pd_18 : parseMethodDescriptor "(I)C" = some ⟨[.int], some .char⟩ := by decide +kernel
theorem pd_19 : parseMethodDescriptor "([C)V" = some ⟨[(.array .char)], none⟩ := by decide +kernel
theorem pd_20 : parseMethodDescriptor "(Ljava/lang/String;)I" = some ⟨[(.object "java/lang/String")], some .int⟩ := by decide +kernel
theorem pd_21 : parseMethodDescriptor "([CI)I" = some ⟨[(.array .char), .int], some .int⟩ := by decide +kernel
def Q_rm0 (Z : State) (p1 : Int32) (p2 : Int32) (p3 : Int32) (p4 : Int32) (zc : Int32) (fm : Value) (h0 : Heap) (n0 : Nat) (vR : Option Value) (hR : Heap) (LR : List Loc) : Prop := vR = some (.int 1) ∧ Fr n0 LR ∧ True
theorem rm0 (l : Launch) (Z : State) (a0 : Array Value) (hw : ∀ d ∈ tables_1, d.before a0 Z = true) (ws : List Jvm.Cond) (p1 : Int32) (p2 : Int32) (p3 : Int32) (p4 : Int32) (zc : Int32) (fm : Value) (h0 : Heap) (n0 : Nat) (Z0 : n0 ≤ h0.size) (S_C : Sta Z h0 "java/lang/String" "COMPACT_STRINGS" "Z" (.int zc)) (hz : ¬ (zc = (0 : Int32))) (S_FM : Sta Z h0 "jdk/internal/util/Preconditions" "SIOOBE_FORMATTER" "Ljava/util/function/BiFunction;" fm) (hfm : fm.isRef = true) (S_AD : Sta Z h0 "java/lang/StringUTF16" "$assertionsDisabled" "Z" (.int 1)) (S_HI : Sta Z h0 "java/lang/StringUTF16" "HI_BYTE_SHIFT" "I" (.int 0)) (S_LO : Sta Z h0 "java/lang/StringUTF16" "LO_BYTE_SHIFT" "I" (.int 8)) :
    own_MH l x code maxLocals ret ws room_1 Z #[(.int p1), (.int p2), (.int p3), (.int p4)] h0 (Q_rm0 Z p1 p2 p3 p4 zc fm h0 n0) consts_1 := by
  refine own_bodyH (own := "com/example/sluice/sluice/MessageDisallowedCharacterPinLaw") rfl (plainFor_of_name pn_0) (fun m => ef_rm0 m p1 p2 p3 p4) ?_
  intro p e s m below meth c s₁ Bd hml hZ hh hx hby hown X0 e0 hS0 CH0
  have N0 := Fr.nil n0
  have hk0 : h0.size ≤ h0.size := Nat.le_refl _
  have Y0 : Stand p l e room_1 (s.setVm s.vm) m #[(.int p1), (.int p2), (.int p3), (.int p4)] below meth c s₁ [] 0 0 := X0
  have hEL := own_EW hw
  have C0 := CHr.refl CH0
  refine oa Y0.here hx hby at_0 rfl ?_
  refine oa4 Y0.here hx hby at_1 (v := (3 : Int32)) (by decide) ?_
  refine oe9 Y0.here hx hby at_2 rfl ?_
  refine oa5 (T := s₁) 3 #[.val (.int p1), .val (.int p2), .val (.int p3), .val (.int p4), .unset, .unset, .unset, .unset, .unset, .unset, .unset] [(.int (p4 &&& (3 : Int32)))] ?_
  rcases own_and3 p4 with hk | hk | hk | hk
  · rw [hk]
    refine ob8 Y0.here hx hby at_3 (l' := #[.val (.int p1), .val (.int p2), .val (.int p3), .val (.int p4), .val (.int 0), .unset, .unset, .unset, .unset, .unset, .unset]) rfl ?_
    refine oa Y0.here hx hby at_5 rfl ?_
    refine oa3 Y0 hx hZ hown (oa0 hw 0 rfl) (oa0 hw 1 rfl) (oa0 hw 2 rfl) (oa0 hw 3 rfl) (by decide) (ch_ l Z a0 hw [] p1 h0 n0 Z0 ) 0 hml rfl (argsL := [(.int p1)]) (st := []) (lenOf pd_18 rfl) rfl rfl e0 hby at_6 ?_
    intro T5 v5 L5 X5 hQ5
    obtain ⟨rfl, Nq5, eh5⟩ := hQ5
    have N5 := Fr.app N0 Nq5
    refine oa5 (T := T5) 9 #[.val (.int p1), .val (.int p2), .val (.int p3), .val (.int p4), .val (.int 0), .unset, .unset, .unset, .unset, .unset, .unset] [(.int (oa1 p1))] ?_
    refine ob8 X5.here hx hby at_9 (l' := #[.val (.int p1), .val (.int p2), .val (.int p3), .val (.int p4), .val (.int 0), .val (.int (oa1 p1)), .unset, .unset, .unset, .unset, .unset]) rfl ?_
    refine oa X5.here hx hby at_11 rfl ?_
    refine oa3 X5 hx hZ hown (oa0 hw 0 rfl) (oa0 hw 1 rfl) (oa0 hw 2 rfl) (oa0 hw 3 rfl) (by decide) (ch_ l Z a0 hw [] p2 h0 n0 Z0 ) 0 hml rfl (argsL := [(.int p2)]) (st := []) (lenOf pd_18 rfl) rfl rfl eh5 hby at_12 ?_
    intro T6 v6 L6 X6 hQ6
    obtain ⟨rfl, Nq6, eh6⟩ := hQ6
    have N6 := Fr.app N5 Nq6
    refine oa5 (T := T6) 15 #[.val (.int p1), .val (.int p2), .val (.int p3), .val (.int p4), .val (.int 0), .val (.int (oa1 p1)), .unset, .unset, .unset, .unset, .unset] [(.int (oa1 p2))] ?_
    refine ob8 X6.here hx hby at_15 (l' := #[.val (.int p1), .val (.int p2), .val (.int p3), .val (.int p4), .val (.int 0), .val (.int (oa1 p1)), .val (.int (oa1 p2)), .unset, .unset, .unset, .unset]) rfl ?_
    refine oa X6.here hx hby at_17 rfl ?_
    refine oa3 X6 hx hZ hown (oa0 hw 0 rfl) (oa0 hw 1 rfl) (oa0 hw 2 rfl) (oa0 hw 3 rfl) (by decide) (ch_ l Z a0 hw [] p3 h0 n0 Z0 ) 0 hml rfl (argsL := [(.int p3)]) (st := []) (lenOf pd_18 rfl) rfl rfl eh6 hby at_18 ?_
    intro T7 v7 L7 X7 hQ7
    obtain ⟨rfl, Nq7, eh7⟩ := hQ7
    have N7 := Fr.app N6 Nq7
    refine oa5 (T := T7) 21 #[.val (.int p1), .val (.int p2), .val (.int p3), .val (.int p4), .val (.int 0), .val (.int (oa1 p1)), .val (.int (oa1 p2)), .unset, .unset, .unset, .unset] [(.int (oa1 p3))] ?_
    refine ob8 X7.here hx hby at_21 (l' := #[.val (.int p1), .val (.int p2), .val (.int p3), .val (.int p4), .val (.int 0), .val (.int (oa1 p1)), .val (.int (oa1 p2)), .val (.int (oa1 p3)), .unset, .unset, .unset]) rfl ?_
    refine oa4 X7.here hx hby at_23 (v := (3 : Int32)) (by decide) ?_
    refine of3 X7 hx hZ (aty := .char) (oa0 hw 5 rfl) eh7 hby at_24 (by decide) 3 (by decide) (by decide) (by decide) (by decide) (ad := "[C") (by decide) ?_
    intro T8 h8 k8 b8 X8 e8 E8 g8 V8 C8 lt8
    have z9 : h0.size ≤ h8.size := E8.1
    have C10 := C0.trans (CHr.ext E8 C0.1)
    have V11 : Arv Z h8 b8 k8 .char (3 : Int32) [(.int 0), (.int 0), (.int 0)] (.int 0) := V8.pad (pad_rep [] (.int 0) 3)
    refine of1 X8.here hx hby at_26 rfl ?_
    refine oa4 X8.here hx hby at_27 (v := (0 : Int32)) (by decide) ?_
    refine oa8 X8.here hx hby at_28 rfl ?_
    refine oe3 X8 hx hZ e8 V11 ⟨by decide, by decide⟩ 0 (by decide) (Nat.le_of_ble_eq_true rfl) (w := (.int (oa1 p1))) (congrArg Value.int (oe8 (oa1 p1) (ob9 p1).1 (ob9 p1).2)) hby at_30 N7 (by omega) ?_
    intro T12 h12 lo12 X12 e12 N12 W12 V12 z12
    have V13 : Arv Z h12 b8 k8 .char (3 : Int32) [(.int (oa1 p1)), (.int 0), (.int 0)] (.int 0) := V12
    have C14 := C10.trans (CHr.wr W12 (Safe.exa hZ.alike C8 (by decide) (by decide)) C10.1)
    refine of1 X12.here hx hby at_31 rfl ?_
    refine oa4 X12.here hx hby at_32 (v := (1 : Int32)) (by decide) ?_
    refine oa8 X12.here hx hby at_33 rfl ?_
    refine oe3 X12 hx hZ e12 V13 ⟨by decide, by decide⟩ 1 (by decide) (Nat.le_of_ble_eq_true rfl) (w := (.int (oa1 p2))) (congrArg Value.int (oe8 (oa1 p2) (ob9 p2).1 (ob9 p2).2)) hby at_35 N12 (by omega) ?_
    intro T15 h15 lo15 X15 e15 N15 W15 V15 z15
    have V16 : Arv Z h15 b8 k8 .char (3 : Int32) [(.int (oa1 p1)), (.int (oa1 p2)), (.int 0)] (.int 0) := V15
    have f17 := (C8.wr W12)
    have C18 := C14.trans (CHr.wr W15 (Safe.exa hZ.alike f17 (by decide) (by decide)) C14.1)
    refine of1 X15.here hx hby at_36 rfl ?_
    refine oa4 X15.here hx hby at_37 (v := (2 : Int32)) (by decide) ?_
    refine oa8 X15.here hx hby at_38 rfl ?_
    refine oe3 X15 hx hZ e15 V16 ⟨by decide, by decide⟩ 2 (by decide) (Nat.le_of_ble_eq_true rfl) (w := (.int (oa1 p3))) (congrArg Value.int (oe8 (oa1 p3) (ob9 p3).1 (ob9 p3).2)) hby at_40 N15 (by omega) ?_
    intro T19 h19 lo19 X19 e19 N19 W19 V19 z19
    have V20 : Arv Z h19 b8 k8 .char (3 : Int32) [(.int (oa1 p1)), (.int (oa1 p2)), (.int (oa1 p3))] (.int 0) := V19
    have f21 := (f17.wr W15)
    have C22 := C18.trans (CHr.wr W19 (Safe.exa hZ.alike f21 (by decide) (by decide)) C18.1)
    refine od5 X19.here hx hby at_41 rfl (l' := #[.val (.int p1), .val (.int p2), .val (.int p3), .val (.int p4), .val (.int 0), .val (.int (oa1 p1)), .val (.int (oa1 p2)), .val (.int (oa1 p3)), .val (.ref b8), .unset, .unset]) rfl ?_
    refine oa8 X19.here hx hby at_43 rfl ?_
    refine ob7 X19.here hx hby at_45 ((if0 _ _).trans (teq (show (0 : Int32) = (0 : Int32) from (by decide))).2) ?_
    refine own_newO X19 hx hZ hown (oa0 hw 6 rfl) (oa0 hw 7 rfl) (oa0 hw 8 rfl) e19 hby at_48 (by decide) (by decide) ?_
    intro T23 h23 b23 X23 e23 E23 g23 A23 D23 lt23
    have z24 : h19.size ≤ h23.size := E23.1
    have C25 := C22.trans (CHr.ext E23 C22.1)
    have F26 : Fld Z h23 b23 "java/lang/String" "coder" "B" (.int 0) := D23 (Or.inr (oa0 hw 32 rfl)) (ty := .byte) (by decide)
    have F27 : Fld Z h23 b23 "java/lang/String" "value" "[B" .null := D23 (Or.inr (oa0 hw 34 rfl)) (ty := (.array .byte)) (by decide)
    refine of1 X23.here hx hby at_51 rfl ?_
    refine oa4 X23.here hx hby at_52 (v := (0 : Int32)) (by decide) ?_
    refine of3 X23 hx hZ (aty := .char) (oa0 hw 5 rfl) e23 hby at_53 (by decide) 0 (by decide) (by decide) (by decide) (by decide) (ad := "[C") (by decide) ?_
    intro T28 h28 k28 b28 X28 e28 E28 g28 V28 C28 lt28
    have z29 : h23.size ≤ h28.size := E28.1
    have C30 := C25.trans (CHr.ext E28 C25.1)
    have V31 : Arv Z h28 b28 k28 .char (0 : Int32) [] (.int 0) := V28
    have f32 := (A23.ext E28)
    have f33 := (F27.ext E28)
    have f34 := (F26.ext E28)
    have z36 : n0 ≤ h28.size := by omega
    refine own_specialH X28 hx hZ hEL rfl hown (oa0 hw 9 rfl) (oa0 hw 10 rfl) (oa0 hw 8 rfl) (oa0 hw 11 rfl) (by decide) (strE1 l Z a0 hw [] b23 b28 k28 h28 n0 z36 f32 f33 f34 (by omega) V31) 1 (Nat.le_of_eq rfl) (by decide) (by decide) (by rw [hml]; rfl) (argsL := [(.ref b28)]) (st := [(.ref b23)]) (a := b23) (lenOf pd_19 rfl) rfl rfl (by decide) (by decide) e28 hby C30.1 hS0 (by omega) at_55 ?_
    intro T35 v35 L35 vm35 X35 hS35 hZ35 hown35 hg35 Cn35 hQ35
    obtain ⟨t_35, kb_35, rfl, Nq35, K35, P35_0, P35_1, P35_2, P35_3⟩ := hQ35
    have N35 := Fr.app N19 Nq35
    have z37 : h28.size ≤ T35.heap.size := K35.1
    have C38 := C30.trans Cn35
    have lt39 : T35.heap.size > b23 := P35_0.lt
    have lt40 : T35.heap.size > t_35 := P35_3.lt
    refine oa5 (T := T35) 58 #[.val (.int p1), .val (.int p2), .val (.int p3), .val (.int p4), .val (.int 0), .val (.int (oa1 p1)), .val (.int (oa1 p2)), .val (.int (oa1 p3)), .val (.ref b8), .unset, .unset] [(.ref b23)] ?_
    refine od5 X35.here hx hby at_58 rfl (l' := #[.val (.int p1), .val (.int p2), .val (.int p3), .val (.int p4), .val (.int 0), .val (.int (oa1 p1)), .val (.int (oa1 p2)), .val (.int (oa1 p3)), .val (.ref b8), .val (.ref b23), .unset]) rfl ?_
    refine oc X35.here hx hby (pc' := 147) at_60 (by decide) (by decide) ?_
    refine oc7 X35.here hx hby at_147 rfl rfl ?_
    have f41 := (ob ((((((S_C.ext E8).wr W12).wr W15).wr W19).ext E23).ext E28) K35 (allS (ob5 f32) all0))
    have f42 := (ob ((((((S_FM.ext E8).wr W12).wr W15).wr W19).ext E23).ext E28) K35 (allS (ob5 f32) all0))
    have z44 : n0 ≤ T35.heap.size := by omega
    refine oa3 X35 hx hZ35 hown35 (oa0 hw 35 rfl) (oa0 hw 36 rfl) (oa0 hw 37 rfl) (oa0 hw 38 rfl) (by decide) (dis_l_0 l Z a0 hw [] b23 t_35 kb_35 zc fm T35.heap n0 z44 P35_0 P35_1 P35_2 P35_3 f41 hz f42 hfm) 0 hml rfl (argsL := [(.ref b23)]) (st := []) (lenOf pd_20 rfl) rfl rfl rfl hby at_149 ?_
    intro T43 v43 L43 X43 hQ43
    obtain ⟨rfl, Nq43, eh43⟩ := hQ43
    have N43 := Fr.app N35 Nq43
    refine oa5 (T := T43) 152 #[.val (.int p1), .val (.int p2), .val (.int p3), .val (.int p4), .val (.int 0), .val (.int (oa1 p1)), .val (.int (oa1 p2)), .val (.int (oa1 p3)), .val (.ref b8), .val (.ref b23), .unset] [(.int (-1))] ?_
    refine ob8 X43.here hx hby at_152 (l' := #[.val (.int p1), .val (.int p2), .val (.int p3), .val (.int p4), .val (.int 0), .val (.int (oa1 p1)), .val (.int (oa1 p2)), .val (.int (oa1 p3)), .val (.ref b8), .val (.ref b23), .val (.int (-1))]) rfl ?_
    refine oa8 X43.here hx hby at_154 rfl ?_
    refine oc7 X43.here hx hby at_156 rfl rfl ?_
    refine oa8 X43.here hx hby at_158 rfl ?_
    have f45 := (((V20.ext E23).ext E28).keep K35 (ninS (oc4 (by omega)) nin0))
    refine oa3 X43 hx hZ35 hown35 (oa0 hw 69 rfl) (oa0 hw 70 rfl) (oa0 hw 2 rfl) (oa0 hw 71 rfl) (by decide) (expd_0 l Z a0 hw [] b8 k8 (oa1 p1) (oa1 p2) (oa1 p3) T35.heap n0 z44 f45) 1 hml rfl (argsL := [(.ref b8), (.int 0)]) (st := [(.int (-1))]) (lenOf pd_21 rfl) rfl rfl eh43 hby at_160 ?_
    intro T46 v46 L46 X46 hQ46
    obtain ⟨rfl, Nq46, eh46⟩ := hQ46
    have N46 := Fr.app N43 Nq46
    refine oa5 (T := T46) 163 #[.val (.int p1), .val (.int p2), .val (.int p3), .val (.int p4), .val (.int 0), .val (.int (oa1 p1)), .val (.int (oa1 p2)), .val (.int (oa1 p3)), .val (.ref b8), .val (.ref b23), .val (.int (-1))] [(.int (-1)), (.int (-1))] ?_
    refine oa7 X46.here hx hby at_163 (teq (show (-1 : Int32) = (-1 : Int32) from (by decide))).2 ?_
    refine oa4 X46.here hx hby at_166 (v := (1 : Int32)) (by decide) ?_
    refine oc X46.here hx hby (pc' := 171) at_167 (by decide) (by decide) ?_
    obtain ⟨fs, hr, hrun, hended, hRW⟩ := X46.leaveW hS35 (by rw [eh46]; omega) (v := some (.int 1)) (fun h => by rw [Bd.returns] at h; cases h) Bd.notSynchronized
    have hCf : CHr Z consts_1 s.vm s.heap T46.vm T46.heap := by
      rw [hh, eh46]
      exact C38.trans (CHv.at X46 hZ35 hEL C38.1)
    refine og0 (t := T46.setFrames fs) ?_ ⟨_, hrun, hended, _, _, rfl, ?_, hCf, hRW.1, hRW.2.1, hRW.2.2.1, hRW.2.2.2.mono (by decide) (by decide)⟩
    · exact retN X46 hx (t := .boolean) Bd.returns (by simp) (hb hby at_171) hr
    · show Q_rm0 Z _ _ _ _ _ _ h0 n0 _ T46.heap _
      rw [eh46]
      exact ⟨rfl, N46, trivial⟩
  · rw [hk]
    refine ob8 Y0.here hx hby at_3 (l' := #[.val (.int p1), .val (.int p2), .val (.int p3), .val (.int p4), .val (.int 1), .unset, .unset, .unset, .unset, .unset, .unset]) rfl ?_
    refine oa Y0.here hx hby at_5 rfl ?_
    refine oa3 Y0 hx hZ hown (oa0 hw 0 rfl) (oa0 hw 1 rfl) (oa0 hw 2 rfl) (oa0 hw 3 rfl) (by decide) (ch_ l Z a0 hw [] p1 h0 n0 Z0 ) 0 hml rfl (argsL := [(.int p1)]) (st := []) (lenOf pd_18 rfl) rfl rfl e0 hby at_6 ?_
    intro T47 v47 L47 X47 hQ47
    obtain ⟨rfl, Nq47, eh47⟩ := hQ47
    have N47 := Fr.app N0 Nq47
    refine oa5 (T := T47) 9 #[.val (.int p1), .val (.int p2), .val (.int p3), .val (.int p4), .val (.int 1), .unset, .unset, .unset, .unset, .unset, .unset] [(.int (oa1 p1))] ?_
    refine ob8 X47.here hx hby at_9 (l' := #[.val (.int p1), .val (.int p2), .val (.int p3), .val (.int p4), .val (.int 1), .val (.int (oa1 p1)), .unset, .unset, .unset, .unset, .unset]) rfl ?_
    refine oa X47.here hx hby at_11 rfl ?_
    refine oa3 X47 hx hZ hown (oa0 hw 0 rfl) (oa0 hw 1 rfl) (oa0 hw 2 rfl) (oa0 hw 3 rfl) (by decide) (ch_ l Z a0 hw [] p2 h0 n0 Z0 ) 0 hml rfl (argsL := [(.int p2)]) (st := []) (lenOf pd_18 rfl) rfl rfl eh47 hby at_12 ?_
    intro T48 v48 L48 X48 hQ48
    obtain ⟨rfl, Nq48, eh48⟩ := hQ48
    have N48 := Fr.app N47 Nq48
    refine oa5 (T := T48) 15 #[.val (.int p1), .val (.int p2), .val (.int p3), .val (.int p4), .val (.int 1), .val (.int (oa1 p1)), .unset, .unset, .unset, .unset, .unset] [(.int (oa1 p2))] ?_
    refine ob8 X48.here hx hby at_15 (l' := #[.val (.int p1), .val (.int p2), .val (.int p3), .val (.int p4), .val (.int 1), .val (.int (oa1 p1)), .val (.int (oa1 p2)), .unset, .unset, .unset, .unset]) rfl ?_
    refine oa X48.here hx hby at_17 rfl ?_
    refine oa3 X48 hx hZ hown (oa0 hw 0 rfl) (oa0 hw 1 rfl) (oa0 hw 2 rfl) (oa0 hw 3 rfl) (by decide) (ch_ l Z a0 hw [] p3 h0 n0 Z0 ) 0 hml rfl (argsL := [(.int p3)]) (st := []) (lenOf pd_18 rfl) rfl rfl eh48 hby at_18 ?_
    intro T49 v49 L49 X49 hQ49
    obtain ⟨rfl, Nq49, eh49⟩ := hQ49
    have N49 := Fr.app N48 Nq49
    refine oa5 (T := T49) 21 #[.val (.int p1), .val (.int p2), .val (.int p3), .val (.int p4), .val (.int 1), .val (.int (oa1 p1)), .val (.int (oa1 p2)), .unset, .unset, .unset, .unset] [(.int (oa1 p3))] ?_
    refine ob8 X49.here hx hby at_21 (l' := #[.val (.int p1), .val (.int p2), .val (.int p3), .val (.int p4), .val (.int 1), .val (.int (oa1 p1)), .val (.int (oa1 p2)), .val (.int (oa1 p3)), .unset, .unset, .unset]) rfl ?_
    refine oa4 X49.here hx hby at_23 (v := (3 : Int32)) (by decide) ?_
    refine of3 X49 hx hZ (aty := .char) (oa0 hw 5 rfl) eh49 hby at_24 (by decide) 3 (by decide) (by decide) (by decide) (by decide) (ad := "[C") (by decide) ?_
    intro T50 h50 k50 b50 X50 e50 E50 g50 V50 C50 lt50
    have z51 : h0.size ≤ h50.size := E50.1
    have C52 := C0.trans (CHr.ext E50 C0.1)
    have V53 : Arv Z h50 b50 k50 .char (3 : Int32) [(.int 0), (.int 0), (.int 0)] (.int 0) := V50.pad (pad_rep [] (.int 0) 3)
    refine of1 X50.here hx hby at_26 rfl ?_
    refine oa4 X50.here hx hby at_27 (v := (0 : Int32)) (by decide) ?_
    refine oa8 X50.here hx hby at_28 rfl ?_
    refine oe3 X50 hx hZ e50 V53 ⟨by decide, by decide⟩ 0 (by decide) (Nat.le_of_ble_eq_true rfl) (w := (.int (oa1 p1))) (congrArg Value.int (oe8 (oa1 p1) (ob9 p1).1 (ob9 p1).2)) hby at_30 N49 (by omega) ?_
    intro T54 h54 lo54 X54 e54 N54 W54 V54 z54
    have V55 : Arv Z h54 b50 k50 .char (3 : Int32) [(.int (oa1 p1)), (.int 0), (.int 0)] (.int 0) := V54
    have C56 := C52.trans (CHr.wr W54 (Safe.exa hZ.alike C50 (by decide) (by decide)) C52.1)
    refine of1 X54.here hx hby at_31 rfl ?_
    refine oa4 X54.here hx hby at_32 (v := (1 : Int32)) (by decide) ?_
    refine oa8 X54.here hx hby at_33 rfl ?_
    refine oe3 X54 hx hZ e54 V55 ⟨by decide, by decide⟩ 1 (by decide) (Nat.le_of_ble_eq_true rfl) (w := (.int (oa1 p2))) (congrArg Value.int (oe8 (oa1 p2) (ob9 p2).1 (ob9 p2).2)) hby at_35 N54 (by omega) ?_
    intro T57 h57 lo57 X57 e57 N57 W57 V57 z57
    have V58 : Arv Z h57 b50 k50 .char (3 : Int32) [(.int (oa1 p1)), (.int (oa1 p2)), (.int 0)] (.int 0) := V57
    have f59 := (C50.wr W54)
    have C60 := C56.trans (CHr.wr W57 (Safe.exa hZ.alike f59 (by decide) (by decide)) C56.1)
    refine of1 X57.here hx hby at_36 rfl ?_
    refine oa4 X57.here hx hby at_37 (v := (2 : Int32)) (by decide) ?_
    refine oa8 X57.here hx hby at_38 rfl ?_
    refine oe3 X57 hx hZ e57 V58 ⟨by decide, by decide⟩ 2 (by decide) (Nat.le_of_ble_eq_true rfl) (w := (.int (oa1 p3))) (congrArg Value.int (oe8 (oa1 p3) (ob9 p3).1 (ob9 p3).2)) hby at_40 N57 (by omega) ?_
    intro T61 h61 lo61 X61 e61 N61 W61 V61 z61
    have V62 : Arv Z h61 b50 k50 .char (3 : Int32) [(.int (oa1 p1)), (.int (oa1 p2)), (.int (oa1 p3))] (.int 0) := V61
    have f63 := (f59.wr W57)
    have C64 := C60.trans (CHr.wr W61 (Safe.exa hZ.alike f63 (by decide) (by decide)) C60.1)
    refine od5 X61.here hx hby at_41 rfl (l' := #[.val (.int p1), .val (.int p2), .val (.int p3), .val (.int p4), .val (.int 1), .val (.int (oa1 p1)), .val (.int (oa1 p2)), .val (.int (oa1 p3)), .val (.ref b50), .unset, .unset]) rfl ?_
    refine oa8 X61.here hx hby at_43 rfl ?_
    refine ob1 X61.here hx hby (pc' := 63) at_45 ((if0 _ _).trans (feq (show ¬ ((1 : Int32) = (0 : Int32)) from (by decide))).2) (by decide) (by decide) ?_
    refine oa8 X61.here hx hby at_63 rfl ?_
    refine oa4 X61.here hx hby at_65 (v := (1 : Int32)) (by decide) ?_
    refine oa7 X61.here hx hby at_66 (teq (show (1 : Int32) = (1 : Int32) from (by decide))).2 ?_
    refine own_newO X61 hx hZ hown (oa0 hw 6 rfl) (oa0 hw 7 rfl) (oa0 hw 8 rfl) e61 hby at_69 (by decide) (by decide) ?_
    intro T65 h65 b65 X65 e65 E65 g65 A65 D65 lt65
    have z66 : h61.size ≤ h65.size := E65.1
    have C67 := C64.trans (CHr.ext E65 C64.1)
    have F68 : Fld Z h65 b65 "java/lang/String" "coder" "B" (.int 0) := D65 (Or.inr (oa0 hw 32 rfl)) (ty := .byte) (by decide)
    have F69 : Fld Z h65 b65 "java/lang/String" "value" "[B" .null := D65 (Or.inr (oa0 hw 34 rfl)) (ty := (.array .byte)) (by decide)
    refine of1 X65.here hx hby at_72 rfl ?_
    refine oa4 X65.here hx hby at_73 (v := (1 : Int32)) (by decide) ?_
    refine of3 X65 hx hZ (aty := .char) (oa0 hw 5 rfl) e65 hby at_74 (by decide) 1 (by decide) (by decide) (by decide) (by decide) (ad := "[C") (by decide) ?_
    intro T70 h70 k70 b70 X70 e70 E70 g70 V70 C70 lt70
    have z71 : h65.size ≤ h70.size := E70.1
    have C72 := C67.trans (CHr.ext E70 C67.1)
    have V73 : Arv Z h70 b70 k70 .char (1 : Int32) [(.int 0)] (.int 0) := V70.pad (pad_rep [] (.int 0) 1)
    refine of1 X70.here hx hby at_76 rfl ?_
    refine oa4 X70.here hx hby at_77 (v := (0 : Int32)) (by decide) ?_
    refine oa8 X70.here hx hby at_78 rfl ?_
    refine oe3 X70 hx hZ e70 V73 ⟨by decide, by decide⟩ 0 (by decide) (Nat.le_of_ble_eq_true rfl) (w := (.int (oa1 p1))) (congrArg Value.int (oe8 (oa1 p1) (ob9 p1).1 (ob9 p1).2)) hby at_80 N61 (by omega) ?_
    intro T74 h74 lo74 X74 e74 N74 W74 V74 z74
    have V75 : Arv Z h74 b70 k70 .char (1 : Int32) [(.int (oa1 p1))] (.int 0) := V74
    have C76 := C72.trans (CHr.wr W74 (Safe.exa hZ.alike C70 (by decide) (by decide)) C72.1)
    refine oa5 (T := T74) 81 #[.val (.int p1), .val (.int p2), .val (.int p3), .val (.int p4), .val (.int 1), .val (.int (oa1 p1)), .val (.int (oa1 p2)), .val (.int (oa1 p3)), .val (.ref b50), .unset, .unset] [(.ref b70), (.ref b65), (.ref b65)] ?_
    by_cases hl0 : (255 : Int32) < (oa1 p1)
    · have f77 := ((A65.ext E70).wr W74)
      have f78 := ((F69.ext E70).other W74 (Or.inl (oc4 (by omega))))
      have f79 := ((F68.ext E70).other W74 (Or.inl (oc4 (by omega))))
      have f80 := (((((((S_C.ext E50).wr W54).wr W57).wr W61).ext E65).ext E70).wr W74)
      have f81 := (((((((S_AD.ext E50).wr W54).wr W57).wr W61).ext E65).ext E70).wr W74)
      have f82 := (((((((S_HI.ext E50).wr W54).wr W57).wr W61).ext E65).ext E70).wr W74)
      have f83 := (((((((S_LO.ext E50).wr W54).wr W57).wr W61).ext E65).ext E70).wr W74)
      have z85 : n0 ≤ h74.size := by omega
      refine of0 X74 hx hZ rfl hown (oa0 hw 9 rfl) (oa0 hw 10 rfl) (oa0 hw 8 rfl) (oa0 hw 11 rfl) (by decide) (sU1_1_0 l Z a0 hw [] b65 b70 k70 zc (oa1 p1) h74 n0 z85 f77 (by omega) f78 f79 V75 f80 hz f81 f82 f83 hl0 (ob9 p1).1 (ob9 p1).2) 1 (Nat.le_of_eq rfl) (by decide) (by decide) (by rw [hml]; rfl) (argsL := [(.ref b70)]) (st := [(.ref b65)]) (a := b65) (lenOf pd_19 rfl) rfl rfl (by decide) (by decide) e74 hby at_81 ?_
      intro T84 v84 L84 X84 hQ84
      obtain ⟨t_84, kb_84, rfl, Nq84, K84, P84_0, P84_1, P84_2, P84_3, P84_4⟩ := hQ84
      have N84 := Fr.app N74 Nq84
      have z86 : h74.size ≤ T84.heap.size := K84.1
      have C87 := C76.trans (CHr.keep K84 (sfS (oe5 hZ.alike f77 f78) sf0) C76.1)
      have lt88 : T84.heap.size > b65 := P84_1.lt
      have lt89 : T84.heap.size > t_84 := P84_4.lt
      refine oa5 (T := T84) 84 #[.val (.int p1), .val (.int p2), .val (.int p3), .val (.int p4), .val (.int 1), .val (.int (oa1 p1)), .val (.int (oa1 p2)), .val (.int (oa1 p3)), .val (.ref b50), .unset, .unset] [(.ref b65)] ?_
      refine od5 X84.here hx hby at_84 rfl (l' := #[.val (.int p1), .val (.int p2), .val (.int p3), .val (.int p4), .val (.int 1), .val (.int (oa1 p1)), .val (.int (oa1 p2)), .val (.int (oa1 p3)), .val (.ref b50), .val (.ref b65), .unset]) rfl ?_
      refine oc X84.here hx hby (pc' := 147) at_86 (by decide) (by decide) ?_
      refine oc7 X84.here hx hby at_147 rfl rfl ?_
      have f90 := (ob f80 K84 (allS (ob5 f77) all0))
      have f91 := (ob (((((((S_FM.ext E50).wr W54).wr W57).wr W61).ext E65).ext E70).wr W74) K84 (allS (ob5 f77) all0))
      have f92 := (ob f81 K84 (allS (ob5 f77) all0))
      have f93 := (ob f82 K84 (allS (ob5 f77) all0))
      have f94 := (ob f83 K84 (allS (ob5 f77) all0))
      have z96 : n0 ≤ T84.heap.size := by omega
      refine oa3 X84 hx hZ hown (oa0 hw 35 rfl) (oa0 hw 36 rfl) (oa0 hw 37 rfl) (oa0 hw 38 rfl) (by decide) (dis_u_1 l Z a0 hw [] b65 t_84 kb_84 zc fm (oa1 p1) T84.heap n0 z96 P84_1 P84_2 P84_3 P84_4 f90 hz f91 hfm f92 f93 f94 (ob9 p1).1 (ob9 p1).2) 0 hml rfl (argsL := [(.ref b65)]) (st := []) (lenOf pd_20 rfl) rfl rfl rfl hby at_149 ?_
      intro T95 v95 L95 X95 hQ95
      obtain ⟨rfl, Nq95, eh95⟩ := hQ95
      have N95 := Fr.app N84 Nq95
      refine oa5 (T := T95) 152 #[.val (.int p1), .val (.int p2), .val (.int p3), .val (.int p4), .val (.int 1), .val (.int (oa1 p1)), .val (.int (oa1 p2)), .val (.int (oa1 p3)), .val (.ref b50), .val (.ref b65), .unset] [(.int (oe0 (0 : Int32) (oa1 p1)))] ?_
      refine ob8 X95.here hx hby at_152 (l' := #[.val (.int p1), .val (.int p2), .val (.int p3), .val (.int p4), .val (.int 1), .val (.int (oa1 p1)), .val (.int (oa1 p2)), .val (.int (oa1 p3)), .val (.ref b50), .val (.ref b65), .val (.int (oe0 (0 : Int32) (oa1 p1)))]) rfl ?_
      refine oa8 X95.here hx hby at_154 rfl ?_
      refine oc7 X95.here hx hby at_156 rfl rfl ?_
      refine oa8 X95.here hx hby at_158 rfl ?_
      have f97 := ((((V62.ext E65).ext E70).other W74 (oc4 (by omega))).keep K84 (ninS (oc4 (by omega)) nin0))
      refine oa3 X95 hx hZ hown (oa0 hw 69 rfl) (oa0 hw 70 rfl) (oa0 hw 2 rfl) (oa0 hw 71 rfl) (by decide) (expd_1 l Z a0 hw [] b50 k50 (oa1 p1) (oa1 p2) (oa1 p3) T84.heap n0 z96 f97) 1 hml rfl (argsL := [(.ref b50), (.int 1)]) (st := [(.int (oe0 (0 : Int32) (oa1 p1)))]) (lenOf pd_21 rfl) rfl rfl eh95 hby at_160 ?_
      intro T98 v98 L98 X98 hQ98
      obtain ⟨rfl, Nq98, eh98⟩ := hQ98
      have N98 := Fr.app N95 Nq98
      refine oa5 (T := T98) 163 #[.val (.int p1), .val (.int p2), .val (.int p3), .val (.int p4), .val (.int 1), .val (.int (oa1 p1)), .val (.int (oa1 p2)), .val (.int (oa1 p3)), .val (.ref b50), .val (.ref b65), .val (.int (oe0 (0 : Int32) (oa1 p1)))] [(.int (oe0 (0 : Int32) (oa1 p1))), (.int (oe0 (0 : Int32) (oa1 p1)))] ?_
      refine oa7 X98.here hx hby at_163 (teq (show (oe0 (0 : Int32) (oa1 p1)) = (oe0 (0 : Int32) (oa1 p1)) from rfl)).2 ?_
      refine oa4 X98.here hx hby at_166 (v := (1 : Int32)) (by decide) ?_
      refine oc X98.here hx hby (pc' := 171) at_167 (by decide) (by decide) ?_
      obtain ⟨fs, hr, hrun, hended, hRW⟩ := X98.leaveW hS0 (by rw [eh98]; omega) (v := some (.int 1)) (fun h => by rw [Bd.returns] at h; cases h) Bd.notSynchronized
      have hCf : CHr Z consts_1 s.vm s.heap T98.vm T98.heap := by
        rw [hh, eh98]
        exact C87.trans (CHv.at X98 hZ hEL C87.1)
      refine og0 (t := T98.setFrames fs) ?_ ⟨_, hrun, hended, _, _, rfl, ?_, hCf, hRW.1, hRW.2.1, hRW.2.2.1, hRW.2.2.2.mono (by decide) (by decide)⟩
      · exact retN X98 hx (t := .boolean) Bd.returns (by simp) (hb hby at_171) hr
      · show Q_rm0 Z _ _ _ _ _ _ h0 n0 _ T98.heap _
        rw [eh98]
        exact ⟨rfl, N98, trivial⟩
    · have f99 := ((A65.ext E70).wr W74)
      have f100 := ((F69.ext E70).other W74 (Or.inl (oc4 (by omega))))
      have f101 := ((F68.ext E70).other W74 (Or.inl (oc4 (by omega))))
      have f102 := (((((((S_C.ext E50).wr W54).wr W57).wr W61).ext E65).ext E70).wr W74)
      have z104 : n0 ≤ h74.size := by omega
      have hws_words : ∀ d ∈ StrChars.Road.words, d.before a0 Z = true := fun d hd => hw d ((by decide +kernel : ∀ d ∈ StrChars.Road.words, d ∈ tables_1) d hd)
      refine own_specialB X74 hx hZ rfl hown (oa0 hw 9 rfl) (oa0 hw 10 rfl) (oa0 hw 11 rfl) (by decide) (StrChars.Road.backV (W := 1) hZ hws_words (kI := 4) (oa0 hw 7 rfl) (cs := ([(oa1 p1)] : List Int32)) (bs := ([(oa1 p1)] : List Int32).map (fun c => c.toInt8.toInt32)) (n := 1) (by omega) z104 f99 f100 f101 V75 f102 hz rfl rfl (by decide) (by decide) (own_lS ⟨(ob9 p1).1, hl0⟩ own_l0) rfl (by decide) (by decide)) (Nat.le_of_eq rfl) (by rw [hml]; rfl) (argsL := [(.ref b70)]) (st := [(.ref b65)]) (a := b65) (lenOf pd_19 rfl) rfl rfl (by decide) (by decide) e74 hby at_81 ?_
      intro T103 v103 L103 X103 hQ103
      obtain ⟨rfl, Nq103, K103, P103_0, P103_1, t_103, kb_103, P103_2, P103_3, P103_4, P103_5, P103_6⟩ := hQ103
      have N103 := Fr.app N74 Nq103
      have z105 : h74.size ≤ T103.heap.size := K103.1
      have C106 := C76.trans (CHr.keep K103 (sfS (oe5 hZ.alike f99 f100) sf0) C76.1)
      have lt107 : T103.heap.size > b65 := P103_0.lt
      have lt108 : T103.heap.size > t_103 := P103_6.lt
      refine oa5 (T := T103) 84 #[.val (.int p1), .val (.int p2), .val (.int p3), .val (.int p4), .val (.int 1), .val (.int (oa1 p1)), .val (.int (oa1 p2)), .val (.int (oa1 p3)), .val (.ref b50), .unset, .unset] [(.ref b65)] ?_
      refine od5 X103.here hx hby at_84 rfl (l' := #[.val (.int p1), .val (.int p2), .val (.int p3), .val (.int p4), .val (.int 1), .val (.int (oa1 p1)), .val (.int (oa1 p2)), .val (.int (oa1 p3)), .val (.ref b50), .val (.ref b65), .unset]) rfl ?_
      refine oc X103.here hx hby (pc' := 147) at_86 (by decide) (by decide) ?_
      refine oc7 X103.here hx hby at_147 rfl rfl ?_
      have f109 := (ob f102 K103 (allS (ob5 f99) all0))
      have f110 := (ob (((((((S_FM.ext E50).wr W54).wr W57).wr W61).ext E65).ext E70).wr W74) K103 (allS (ob5 f99) all0))
      have z112 : n0 ≤ T103.heap.size := by omega
      refine oa3 X103 hx hZ hown (oa0 hw 35 rfl) (oa0 hw 36 rfl) (oa0 hw 37 rfl) (oa0 hw 38 rfl) (by decide) (dis_l_1 l Z a0 hw [] b65 t_103 kb_103 zc fm (oa1 p1) T103.heap n0 z112 P103_0 P103_1 P103_5 P103_6 f109 hz f110 hfm (ob9 p1).1 hl0) 0 hml rfl (argsL := [(.ref b65)]) (st := []) (lenOf pd_20 rfl) rfl rfl rfl hby at_149 ?_
      intro T111 v111 L111 X111 hQ111
      obtain ⟨rfl, Nq111, eh111⟩ := hQ111
      have N111 := Fr.app N103 Nq111
      refine oa5 (T := T111) 152 #[.val (.int p1), .val (.int p2), .val (.int p3), .val (.int p4), .val (.int 1), .val (.int (oa1 p1)), .val (.int (oa1 p2)), .val (.int (oa1 p3)), .val (.ref b50), .val (.ref b65), .unset] [(.int (oe0 (0 : Int32) (oa1 p1)))] ?_
      refine ob8 X111.here hx hby at_152 (l' := #[.val (.int p1), .val (.int p2), .val (.int p3), .val (.int p4), .val (.int 1), .val (.int (oa1 p1)), .val (.int (oa1 p2)), .val (.int (oa1 p3)), .val (.ref b50), .val (.ref b65), .val (.int (oe0 (0 : Int32) (oa1 p1)))]) rfl ?_
      refine oa8 X111.here hx hby at_154 rfl ?_
      refine oc7 X111.here hx hby at_156 rfl rfl ?_
      refine oa8 X111.here hx hby at_158 rfl ?_
      have f113 := ((((V62.ext E65).ext E70).other W74 (oc4 (by omega))).keep K103 (ninS (oc4 (by omega)) nin0))
      refine oa3 X111 hx hZ hown (oa0 hw 69 rfl) (oa0 hw 70 rfl) (oa0 hw 2 rfl) (oa0 hw 71 rfl) (by decide) (expd_1 l Z a0 hw [] b50 k50 (oa1 p1) (oa1 p2) (oa1 p3) T103.heap n0 z112 f113) 1 hml rfl (argsL := [(.ref b50), (.int 1)]) (st := [(.int (oe0 (0 : Int32) (oa1 p1)))]) (lenOf pd_21 rfl) rfl rfl eh111 hby at_160 ?_
      intro T114 v114 L114 X114 hQ114
      obtain ⟨rfl, Nq114, eh114⟩ := hQ114
      have N114 := Fr.app N111 Nq114
      refine oa5 (T := T114) 163 #[.val (.int p1), .val (.int p2), .val (.int p3), .val (.int p4), .val (.int 1), .val (.int (oa1 p1)), .val (.int (oa1 p2)), .val (.int (oa1 p3)), .val (.ref b50), .val (.ref b65), .val (.int (oe0 (0 : Int32) (oa1 p1)))] [(.int (oe0 (0 : Int32) (oa1 p1))), (.int (oe0 (0 : Int32) (oa1 p1)))] ?_
      refine oa7 X114.here hx hby at_163 (teq (show (oe0 (0 : Int32) (oa1 p1)) = (oe0 (0 : Int32) (oa1 p1)) from rfl)).2 ?_
      refine oa4 X114.here hx hby at_166 (v := (1 : Int32)) (by decide) ?_
      refine oc X114.here hx hby (pc' := 171) at_167 (by decide) (by decide) ?_
      obtain ⟨fs, hr, hrun, hended, hRW⟩ := X114.leaveW hS0 (by rw [eh114]; omega) (v := some (.int 1)) (fun h => by rw [Bd.returns] at h; cases h) Bd.notSynchronized
      have hCf : CHr Z consts_1 s.vm s.heap T114.vm T114.heap := by
        rw [hh, eh114]
        exact C106.trans (CHv.at X114 hZ hEL C106.1)
      refine og0 (t := T114.setFrames fs) ?_ ⟨_, hrun, hended, _, _, rfl, ?_, hCf, hRW.1, hRW.2.1, hRW.2.2.1, hRW.2.2.2.mono (by decide) (by decide)⟩
      · exact retN X114 hx (t := .boolean) Bd.returns (by simp) (hb hby at_171) hr
      · show Q_rm0 Z _ _ _ _ _ _ h0 n0 _ T114.heap _
        rw [eh114]
        exact ⟨rfl, N114, trivial⟩
  · rw [hk]
    refine ob8 Y0.here hx hby at_3 (l' := #[.val (.int p1), .val (.int p2), .val (.int p3), .val (.int p4), .val (.int 2), .unset, .unset, .unset, .unset, .unset, .unset]) rfl ?_
    refine oa Y0.here hx hby at_5 rfl ?_
    refine oa3 Y0 hx hZ hown (oa0 hw 0 rfl) (oa0 hw 1 rfl) (oa0 hw 2 rfl) (oa0 hw 3 rfl) (by decide) (ch_ l Z a0 hw [] p1 h0 n0 Z0 ) 0 hml rfl (argsL := [(.int p1)]) (st := []) (lenOf pd_18 rfl) rfl rfl e0 hby at_6 ?_
    intro T115 v115 L115 X115 hQ115
    obtain ⟨rfl, Nq115, eh115⟩ := hQ115
    have N115 := Fr.app N0 Nq115
    refine oa5 (T := T115) 9 #[.val (.int p1), .val (.int p2), .val (.int p3), .val (.int p4), .val (.int 2), .unset, .unset, .unset, .unset, .unset, .unset] [(.int (oa1 p1))] ?_
    refine ob8 X115.here hx hby at_9 (l' := #[.val (.int p1), .val (.int p2), .val (.int p3), .val (.int p4), .val (.int 2), .val (.int (oa1 p1)), .unset, .unset, .unset, .unset, .unset]) rfl ?_
    refine oa X115.here hx hby at_11 rfl ?_
    refine oa3 X115 hx hZ hown (oa0 hw 0 rfl) (oa0 hw 1 rfl) (oa0 hw 2 rfl) (oa0 hw 3 rfl) (by decide) (ch_ l Z a0 hw [] p2 h0 n0 Z0 ) 0 hml rfl (argsL := [(.int p2)]) (st := []) (lenOf pd_18 rfl) rfl rfl eh115 hby at_12 ?_
    intro T116 v116 L116 X116 hQ116
    obtain ⟨rfl, Nq116, eh116⟩ := hQ116
    have N116 := Fr.app N115 Nq116
    refine oa5 (T := T116) 15 #[.val (.int p1), .val (.int p2), .val (.int p3), .val (.int p4), .val (.int 2), .val (.int (oa1 p1)), .unset, .unset, .unset, .unset, .unset] [(.int (oa1 p2))] ?_
    refine ob8 X116.here hx hby at_15 (l' := #[.val (.int p1), .val (.int p2), .val (.int p3), .val (.int p4), .val (.int 2), .val (.int (oa1 p1)), .val (.int (oa1 p2)), .unset, .unset, .unset, .unset]) rfl ?_
    refine oa X116.here hx hby at_17 rfl ?_
    refine oa3 X116 hx hZ hown (oa0 hw 0 rfl) (oa0 hw 1 rfl) (oa0 hw 2 rfl) (oa0 hw 3 rfl) (by decide) (ch_ l Z a0 hw [] p3 h0 n0 Z0 ) 0 hml rfl (argsL := [(.int p3)]) (st := []) (lenOf pd_18 rfl) rfl rfl eh116 hby at_18 ?_
    intro T117 v117 L117 X117 hQ117
    obtain ⟨rfl, Nq117, eh117⟩ := hQ117
    have N117 := Fr.app N116 Nq117
    refine oa5 (T := T117) 21 #[.val (.int p1), .val (.int p2), .val (.int p3), .val (.int p4), .val (.int 2), .val (.int (oa1 p1)), .val (.int (oa1 p2)), .unset, .unset, .unset, .unset] [(.int (oa1 p3))] ?_
    refine ob8 X117.here hx hby at_21 (l' := #[.val (.int p1), .val (.int p2), .val (.int p3), .val (.int p4), .val (.int 2), .val (.int (oa1 p1)), .val (.int (oa1 p2)), .val (.int (oa1 p3)), .unset, .unset, .unset]) rfl ?_
    refine oa4 X117.here hx hby at_23 (v := (3 : Int32)) (by decide) ?_
    refine of3 X117 hx hZ (aty := .char) (oa0 hw 5 rfl) eh117 hby at_24 (by decide) 3 (by decide) (by decide) (by decide) (by decide) (ad := "[C") (by decide) ?_
    intro T118 h118 k118 b118 X118 e118 E118 g118 V118 C118 lt118
    have z119 : h0.size ≤ h118.size := E118.1
    have C120 := C0.trans (CHr.ext E118 C0.1)
    have V121 : Arv Z h118 b118 k118 .char (3 : Int32) [(.int 0), (.int 0), (.int 0)] (.int 0) := V118.pad (pad_rep [] (.int 0) 3)
    refine of1 X118.here hx hby at_26 rfl ?_
    refine oa4 X118.here hx hby at_27 (v := (0 : Int32)) (by decide) ?_
    refine oa8 X118.here hx hby at_28 rfl ?_
    refine oe3 X118 hx hZ e118 V121 ⟨by decide, by decide⟩ 0 (by decide) (Nat.le_of_ble_eq_true rfl) (w := (.int (oa1 p1))) (congrArg Value.int (oe8 (oa1 p1) (ob9 p1).1 (ob9 p1).2)) hby at_30 N117 (by omega) ?_
    intro T122 h122 lo122 X122 e122 N122 W122 V122 z122
    have V123 : Arv Z h122 b118 k118 .char (3 : Int32) [(.int (oa1 p1)), (.int 0), (.int 0)] (.int 0) := V122
    have C124 := C120.trans (CHr.wr W122 (Safe.exa hZ.alike C118 (by decide) (by decide)) C120.1)
    refine of1 X122.here hx hby at_31 rfl ?_
    refine oa4 X122.here hx hby at_32 (v := (1 : Int32)) (by decide) ?_
    refine oa8 X122.here hx hby at_33 rfl ?_
    refine oe3 X122 hx hZ e122 V123 ⟨by decide, by decide⟩ 1 (by decide) (Nat.le_of_ble_eq_true rfl) (w := (.int (oa1 p2))) (congrArg Value.int (oe8 (oa1 p2) (ob9 p2).1 (ob9 p2).2)) hby at_35 N122 (by omega) ?_
    intro T125 h125 lo125 X125 e125 N125 W125 V125 z125
    have V126 : Arv Z h125 b118 k118 .char (3 : Int32) [(.int (oa1 p1)), (.int (oa1 p2)), (.int 0)] (.int 0) := V125
    have f127 := (C118.wr W122)
    have C128 := C124.trans (CHr.wr W125 (Safe.exa hZ.alike f127 (by decide) (by decide)) C124.1)
    refine of1 X125.here hx hby at_36 rfl ?_
    refine oa4 X125.here hx hby at_37 (v := (2 : Int32)) (by decide) ?_
    refine oa8 X125.here hx hby at_38 rfl ?_
    refine oe3 X125 hx hZ e125 V126 ⟨by decide, by decide⟩ 2 (by decide) (Nat.le_of_ble_eq_true rfl) (w := (.int (oa1 p3))) (congrArg Value.int (oe8 (oa1 p3) (ob9 p3).1 (ob9 p3).2)) hby at_40 N125 (by omega) ?_
    intro T129 h129 lo129 X129 e129 N129 W129 V129 z129
    have V130 : Arv Z h129 b118 k118 .char (3 : Int32) [(.int (oa1 p1)), (.int (oa1 p2)), (.int (oa1 p3))] (.int 0) := V129
    have f131 := (f127.wr W125)
    have C132 := C128.trans (CHr.wr W129 (Safe.exa hZ.alike f131 (by decide) (by decide)) C128.1)
    refine od5 X129.here hx hby at_41 rfl (l' := #[.val (.int p1), .val (.int p2), .val (.int p3), .val (.int p4), .val (.int 2), .val (.int (oa1 p1)), .val (.int (oa1 p2)), .val (.int (oa1 p3)), .val (.ref b118), .unset, .unset]) rfl ?_
    refine oa8 X129.here hx hby at_43 rfl ?_
    refine ob1 X129.here hx hby (pc' := 63) at_45 ((if0 _ _).trans (feq (show ¬ ((2 : Int32) = (0 : Int32)) from (by decide))).2) (by decide) (by decide) ?_
    refine oa8 X129.here hx hby at_63 rfl ?_
    refine oa4 X129.here hx hby at_65 (v := (1 : Int32)) (by decide) ?_
    refine ob2 X129.here hx hby (pc' := 89) at_66 (feq (show ¬ ((2 : Int32) = (1 : Int32)) from (by decide))).2 (by decide) (by decide) ?_
    refine oa8 X129.here hx hby at_89 rfl ?_
    refine oa4 X129.here hx hby at_91 (v := (2 : Int32)) (by decide) ?_
    refine oa7 X129.here hx hby at_92 (teq (show (2 : Int32) = (2 : Int32) from (by decide))).2 ?_
    refine own_newO X129 hx hZ hown (oa0 hw 6 rfl) (oa0 hw 7 rfl) (oa0 hw 8 rfl) e129 hby at_95 (by decide) (by decide) ?_
    intro T133 h133 b133 X133 e133 E133 g133 A133 D133 lt133
    have z134 : h129.size ≤ h133.size := E133.1
    have C135 := C132.trans (CHr.ext E133 C132.1)
    have F136 : Fld Z h133 b133 "java/lang/String" "coder" "B" (.int 0) := D133 (Or.inr (oa0 hw 32 rfl)) (ty := .byte) (by decide)
    have F137 : Fld Z h133 b133 "java/lang/String" "value" "[B" .null := D133 (Or.inr (oa0 hw 34 rfl)) (ty := (.array .byte)) (by decide)
    refine of1 X133.here hx hby at_98 rfl ?_
    refine oa4 X133.here hx hby at_99 (v := (2 : Int32)) (by decide) ?_
    refine of3 X133 hx hZ (aty := .char) (oa0 hw 5 rfl) e133 hby at_100 (by decide) 2 (by decide) (by decide) (by decide) (by decide) (ad := "[C") (by decide) ?_
    intro T138 h138 k138 b138 X138 e138 E138 g138 V138 C138 lt138
    have z139 : h133.size ≤ h138.size := E138.1
    have C140 := C135.trans (CHr.ext E138 C135.1)
    have V141 : Arv Z h138 b138 k138 .char (2 : Int32) [(.int 0), (.int 0)] (.int 0) := V138.pad (pad_rep [] (.int 0) 2)
    refine of1 X138.here hx hby at_102 rfl ?_
    refine oa4 X138.here hx hby at_103 (v := (0 : Int32)) (by decide) ?_
    refine oa8 X138.here hx hby at_104 rfl ?_
    refine oe3 X138 hx hZ e138 V141 ⟨by decide, by decide⟩ 0 (by decide) (Nat.le_of_ble_eq_true rfl) (w := (.int (oa1 p1))) (congrArg Value.int (oe8 (oa1 p1) (ob9 p1).1 (ob9 p1).2)) hby at_106 N129 (by omega) ?_
    intro T142 h142 lo142 X142 e142 N142 W142 V142 z142
    have V143 : Arv Z h142 b138 k138 .char (2 : Int32) [(.int (oa1 p1)), (.int 0)] (.int 0) := V142
    have C144 := C140.trans (CHr.wr W142 (Safe.exa hZ.alike C138 (by decide) (by decide)) C140.1)
    refine of1 X142.here hx hby at_107 rfl ?_
    refine oa4 X142.here hx hby at_108 (v := (1 : Int32)) (by decide) ?_
    refine oa8 X142.here hx hby at_109 rfl ?_
    refine oe3 X142 hx hZ e142 V143 ⟨by decide, by decide⟩ 1 (by decide) (Nat.le_of_ble_eq_true rfl) (w := (.int (oa1 p2))) (congrArg Value.int (oe8 (oa1 p2) (ob9 p2).1 (ob9 p2).2)) hby at_111 N142 (by omega) ?_
    intro T145 h145 lo145 X145 e145 N145 W145 V145 z145
    have V146 : Arv Z h145 b138 k138 .char (2 : Int32) [(.int (oa1 p1)), (.int (oa1 p2))] (.int 0) := V145
    have f147 := (C138.wr W142)
    have C148 := C144.trans (CHr.wr W145 (Safe.exa hZ.alike f147 (by decide) (by decide)) C144.1)
    refine oa5 (T := T145) 112 #[.val (.int p1), .val (.int p2), .val (.int p3), .val (.int p4), .val (.int 2), .val (.int (oa1 p1)), .val (.int (oa1 p2)), .val (.int (oa1 p3)), .val (.ref b118), .unset, .unset] [(.ref b138), (.ref b133), (.ref b133)] ?_
    by_cases hl0 : (255 : Int32) < (oa1 p1)
    · have f149 := (((A133.ext E138).wr W142).wr W145)
      have f150 := (((F137.ext E138).other W142 (Or.inl (oc4 (by omega)))).other W145 (Or.inl (oc4 (by omega))))
      have f151 := (((F136.ext E138).other W142 (Or.inl (oc4 (by omega)))).other W145 (Or.inl (oc4 (by omega))))
      have f152 := ((((((((S_C.ext E118).wr W122).wr W125).wr W129).ext E133).ext E138).wr W142).wr W145)
      have f153 := ((((((((S_AD.ext E118).wr W122).wr W125).wr W129).ext E133).ext E138).wr W142).wr W145)
      have f154 := ((((((((S_HI.ext E118).wr W122).wr W125).wr W129).ext E133).ext E138).wr W142).wr W145)
      have f155 := ((((((((S_LO.ext E118).wr W122).wr W125).wr W129).ext E133).ext E138).wr W142).wr W145)
      have z157 : n0 ≤ h145.size := by omega
      refine of0 X145 hx hZ rfl hown (oa0 hw 9 rfl) (oa0 hw 10 rfl) (oa0 hw 8 rfl) (oa0 hw 11 rfl) (by decide) (sU1_2_0 l Z a0 hw [] b133 b138 k138 zc (oa1 p1) (oa1 p2) h145 n0 z157 f149 (by omega) f150 f151 V146 f152 hz f153 f154 f155 hl0 (ob9 p1).1 (ob9 p1).2) 1 (Nat.le_of_eq rfl) (by decide) (by decide) (by rw [hml]; rfl) (argsL := [(.ref b138)]) (st := [(.ref b133)]) (a := b133) (lenOf pd_19 rfl) rfl rfl (by decide) (by decide) e145 hby at_112 ?_
      intro T156 v156 L156 X156 hQ156
      obtain ⟨t_156, kb_156, rfl, Nq156, K156, P156_0, P156_1, P156_2, P156_3, P156_4⟩ := hQ156
      have N156 := Fr.app N145 Nq156
      have z158 : h145.size ≤ T156.heap.size := K156.1
      have C159 := C148.trans (CHr.keep K156 (sfS (oe5 hZ.alike f149 f150) sf0) C148.1)
      have lt160 : T156.heap.size > b133 := P156_1.lt
      have lt161 : T156.heap.size > t_156 := P156_4.lt
      refine oa5 (T := T156) 115 #[.val (.int p1), .val (.int p2), .val (.int p3), .val (.int p4), .val (.int 2), .val (.int (oa1 p1)), .val (.int (oa1 p2)), .val (.int (oa1 p3)), .val (.ref b118), .unset, .unset] [(.ref b133)] ?_
      refine od5 X156.here hx hby at_115 rfl (l' := #[.val (.int p1), .val (.int p2), .val (.int p3), .val (.int p4), .val (.int 2), .val (.int (oa1 p1)), .val (.int (oa1 p2)), .val (.int (oa1 p3)), .val (.ref b118), .val (.ref b133), .unset]) rfl ?_
      refine oc X156.here hx hby (pc' := 147) at_117 (by decide) (by decide) ?_
      refine oc7 X156.here hx hby at_147 rfl rfl ?_
      have f162 := (ob f152 K156 (allS (ob5 f149) all0))
      have f163 := (ob ((((((((S_FM.ext E118).wr W122).wr W125).wr W129).ext E133).ext E138).wr W142).wr W145) K156 (allS (ob5 f149) all0))
      have f164 := (ob f153 K156 (allS (ob5 f149) all0))
      have f165 := (ob f154 K156 (allS (ob5 f149) all0))
      have f166 := (ob f155 K156 (allS (ob5 f149) all0))
      have z168 : n0 ≤ T156.heap.size := by omega
      refine oa3 X156 hx hZ hown (oa0 hw 35 rfl) (oa0 hw 36 rfl) (oa0 hw 37 rfl) (oa0 hw 38 rfl) (by decide) (dis_u_2 l Z a0 hw [] b133 t_156 kb_156 zc fm (oa1 p1) (oa1 p2) T156.heap n0 z168 P156_1 P156_2 P156_3 P156_4 f162 hz f163 hfm f164 f165 f166 (ob9 p1).1 (ob9 p1).2 (ob9 p2).1 (ob9 p2).2) 0 hml rfl (argsL := [(.ref b133)]) (st := []) (lenOf pd_20 rfl) rfl rfl rfl hby at_149 ?_
      intro T167 v167 L167 X167 hQ167
      obtain ⟨rfl, Nq167, eh167⟩ := hQ167
      have N167 := Fr.app N156 Nq167
      refine oa5 (T := T167) 152 #[.val (.int p1), .val (.int p2), .val (.int p3), .val (.int p4), .val (.int 2), .val (.int (oa1 p1)), .val (.int (oa1 p2)), .val (.int (oa1 p3)), .val (.ref b118), .val (.ref b133), .unset] [(.int (od9 (0 : Int32) (1 : Int32) (oa1 p1) (oa1 p2)))] ?_
      refine ob8 X167.here hx hby at_152 (l' := #[.val (.int p1), .val (.int p2), .val (.int p3), .val (.int p4), .val (.int 2), .val (.int (oa1 p1)), .val (.int (oa1 p2)), .val (.int (oa1 p3)), .val (.ref b118), .val (.ref b133), .val (.int (od9 (0 : Int32) (1 : Int32) (oa1 p1) (oa1 p2)))]) rfl ?_
      refine oa8 X167.here hx hby at_154 rfl ?_
      refine oc7 X167.here hx hby at_156 rfl rfl ?_
      refine oa8 X167.here hx hby at_158 rfl ?_
      have f169 := (((((V130.ext E133).ext E138).other W142 (oc4 (by omega))).other W145 (oc4 (by omega))).keep K156 (ninS (oc4 (by omega)) nin0))
      refine oa3 X167 hx hZ hown (oa0 hw 69 rfl) (oa0 hw 70 rfl) (oa0 hw 2 rfl) (oa0 hw 71 rfl) (by decide) (expd_2 l Z a0 hw [] b118 k118 (oa1 p1) (oa1 p2) (oa1 p3) T156.heap n0 z168 f169) 1 hml rfl (argsL := [(.ref b118), (.int 2)]) (st := [(.int (od9 (0 : Int32) (1 : Int32) (oa1 p1) (oa1 p2)))]) (lenOf pd_21 rfl) rfl rfl eh167 hby at_160 ?_
      intro T170 v170 L170 X170 hQ170
      obtain ⟨rfl, Nq170, eh170⟩ := hQ170
      have N170 := Fr.app N167 Nq170
      refine oa5 (T := T170) 163 #[.val (.int p1), .val (.int p2), .val (.int p3), .val (.int p4), .val (.int 2), .val (.int (oa1 p1)), .val (.int (oa1 p2)), .val (.int (oa1 p3)), .val (.ref b118), .val (.ref b133), .val (.int (od9 (0 : Int32) (1 : Int32) (oa1 p1) (oa1 p2)))] [(.int (od9 (0 : Int32) (1 : Int32) (oa1 p1) (oa1 p2))), (.int (od9 (0 : Int32) (1 : Int32) (oa1 p1) (oa1 p2)))] ?_
      refine oa7 X170.here hx hby at_163 (teq (show (od9 (0 : Int32) (1 : Int32) (oa1 p1) (oa1 p2)) = (od9 (0 : Int32) (1 : Int32) (oa1 p1) (oa1 p2)) from rfl)).2 ?_
      refine oa4 X170.here hx hby at_166 (v := (1 : Int32)) (by decide) ?_
      refine oc X170.here hx hby (pc' := 171) at_167 (by decide) (by decide) ?_
      obtain ⟨fs, hr, hrun, hended, hRW⟩ := X170.leaveW hS0 (by rw [eh170]; omega) (v := some (.int 1)) (fun h => by rw [Bd.returns] at h; cases h) Bd.notSynchronized
      have hCf : CHr Z consts_1 s.vm s.heap T170.vm T170.heap := by
        rw [hh, eh170]
        exact C159.trans (CHv.at X170 hZ hEL C159.1)
      refine og0 (t := T170.setFrames fs) ?_ ⟨_, hrun, hended, _, _, rfl, ?_, hCf, hRW.1, hRW.2.1, hRW.2.2.1, hRW.2.2.2.mono (by decide) (by decide)⟩
      · exact retN X170 hx (t := .boolean) Bd.returns (by simp) (hb hby at_171) hr
      · show Q_rm0 Z _ _ _ _ _ _ h0 n0 _ T170.heap _
        rw [eh170]
        exact ⟨rfl, N170, trivial⟩
    · refine oa5 (T := T145) 112 #[.val (.int p1), .val (.int p2), .val (.int p3), .val (.int p4), .val (.int 2), .val (.int (oa1 p1)), .val (.int (oa1 p2)), .val (.int (oa1 p3)), .val (.ref b118), .unset, .unset] [(.ref b138), (.ref b133), (.ref b133)] ?_
      by_cases hl1 : (255 : Int32) < (oa1 p2)
      · have f171 := (((A133.ext E138).wr W142).wr W145)
        have f172 := (((F137.ext E138).other W142 (Or.inl (oc4 (by omega)))).other W145 (Or.inl (oc4 (by omega))))
        have f173 := (((F136.ext E138).other W142 (Or.inl (oc4 (by omega)))).other W145 (Or.inl (oc4 (by omega))))
        have f174 := ((((((((S_C.ext E118).wr W122).wr W125).wr W129).ext E133).ext E138).wr W142).wr W145)
        have f175 := ((((((((S_AD.ext E118).wr W122).wr W125).wr W129).ext E133).ext E138).wr W142).wr W145)
        have f176 := ((((((((S_HI.ext E118).wr W122).wr W125).wr W129).ext E133).ext E138).wr W142).wr W145)
        have f177 := ((((((((S_LO.ext E118).wr W122).wr W125).wr W129).ext E133).ext E138).wr W142).wr W145)
        have z179 : n0 ≤ h145.size := by omega
        refine of0 X145 hx hZ rfl hown (oa0 hw 9 rfl) (oa0 hw 10 rfl) (oa0 hw 8 rfl) (oa0 hw 11 rfl) (by decide) (sU1_2_1 l Z a0 hw [] b133 b138 k138 zc (oa1 p1) (oa1 p2) h145 n0 z179 f171 (by omega) f172 f173 V146 f174 hz f175 f176 f177 hl0 hl1 (ob9 p2).1 (ob9 p2).2) 1 (Nat.le_of_eq rfl) (by decide) (by decide) (by rw [hml]; rfl) (argsL := [(.ref b138)]) (st := [(.ref b133)]) (a := b133) (lenOf pd_19 rfl) rfl rfl (by decide) (by decide) e145 hby at_112 ?_
        intro T178 v178 L178 X178 hQ178
        obtain ⟨t_178, kb_178, rfl, Nq178, K178, P178_0, P178_1, P178_2, P178_3, P178_4⟩ := hQ178
        have N178 := Fr.app N145 Nq178
        have z180 : h145.size ≤ T178.heap.size := K178.1
        have C181 := C148.trans (CHr.keep K178 (sfS (oe5 hZ.alike f171 f172) sf0) C148.1)
        have lt182 : T178.heap.size > b133 := P178_1.lt
        have lt183 : T178.heap.size > t_178 := P178_4.lt
        refine oa5 (T := T178) 115 #[.val (.int p1), .val (.int p2), .val (.int p3), .val (.int p4), .val (.int 2), .val (.int (oa1 p1)), .val (.int (oa1 p2)), .val (.int (oa1 p3)), .val (.ref b118), .unset, .unset] [(.ref b133)] ?_
        refine od5 X178.here hx hby at_115 rfl (l' := #[.val (.int p1), .val (.int p2), .val (.int p3), .val (.int p4), .val (.int 2), .val (.int (oa1 p1)), .val (.int (oa1 p2)), .val (.int (oa1 p3)), .val (.ref b118), .val (.ref b133), .unset]) rfl ?_
        refine oc X178.here hx hby (pc' := 147) at_117 (by decide) (by decide) ?_
        refine oc7 X178.here hx hby at_147 rfl rfl ?_
        have f184 := (ob f174 K178 (allS (ob5 f171) all0))
        have f185 := (ob ((((((((S_FM.ext E118).wr W122).wr W125).wr W129).ext E133).ext E138).wr W142).wr W145) K178 (allS (ob5 f171) all0))
        have f186 := (ob f175 K178 (allS (ob5 f171) all0))
        have f187 := (ob f176 K178 (allS (ob5 f171) all0))
        have f188 := (ob f177 K178 (allS (ob5 f171) all0))
        have z190 : n0 ≤ T178.heap.size := by omega
        refine oa3 X178 hx hZ hown (oa0 hw 35 rfl) (oa0 hw 36 rfl) (oa0 hw 37 rfl) (oa0 hw 38 rfl) (by decide) (dis_u_2 l Z a0 hw [] b133 t_178 kb_178 zc fm (oa1 p1) (oa1 p2) T178.heap n0 z190 P178_1 P178_2 P178_3 P178_4 f184 hz f185 hfm f186 f187 f188 (ob9 p1).1 (ob9 p1).2 (ob9 p2).1 (ob9 p2).2) 0 hml rfl (argsL := [(.ref b133)]) (st := []) (lenOf pd_20 rfl) rfl rfl rfl hby at_149 ?_
        intro T189 v189 L189 X189 hQ189
        obtain ⟨rfl, Nq189, eh189⟩ := hQ189
        have N189 := Fr.app N178 Nq189
        refine oa5 (T := T189) 152 #[.val (.int p1), .val (.int p2), .val (.int p3), .val (.int p4), .val (.int 2), .val (.int (oa1 p1)), .val (.int (oa1 p2)), .val (.int (oa1 p3)), .val (.ref b118), .val (.ref b133), .unset] [(.int (od9 (0 : Int32) (1 : Int32) (oa1 p1) (oa1 p2)))] ?_
        refine ob8 X189.here hx hby at_152 (l' := #[.val (.int p1), .val (.int p2), .val (.int p3), .val (.int p4), .val (.int 2), .val (.int (oa1 p1)), .val (.int (oa1 p2)), .val (.int (oa1 p3)), .val (.ref b118), .val (.ref b133), .val (.int (od9 (0 : Int32) (1 : Int32) (oa1 p1) (oa1 p2)))]) rfl ?_
        refine oa8 X189.here hx hby at_154 rfl ?_
        refine oc7 X189.here hx hby at_156 rfl rfl ?_
        refine oa8 X189.here hx hby at_158 rfl ?_
        have f191 := (((((V130.ext E133).ext E138).other W142 (oc4 (by omega))).other W145 (oc4 (by omega))).keep K178 (ninS (oc4 (by omega)) nin0))
        refine oa3 X189 hx hZ hown (oa0 hw 69 rfl) (oa0 hw 70 rfl) (oa0 hw 2 rfl) (oa0 hw 71 rfl) (by decide) (expd_2 l Z a0 hw [] b118 k118 (oa1 p1) (oa1 p2) (oa1 p3) T178.heap n0 z190 f191) 1 hml rfl (argsL := [(.ref b118), (.int 2)]) (st := [(.int (od9 (0 : Int32) (1 : Int32) (oa1 p1) (oa1 p2)))]) (lenOf pd_21 rfl) rfl rfl eh189 hby at_160 ?_
        intro T192 v192 L192 X192 hQ192
        obtain ⟨rfl, Nq192, eh192⟩ := hQ192
        have N192 := Fr.app N189 Nq192
        refine oa5 (T := T192) 163 #[.val (.int p1), .val (.int p2), .val (.int p3), .val (.int p4), .val (.int 2), .val (.int (oa1 p1)), .val (.int (oa1 p2)), .val (.int (oa1 p3)), .val (.ref b118), .val (.ref b133), .val (.int (od9 (0 : Int32) (1 : Int32) (oa1 p1) (oa1 p2)))] [(.int (od9 (0 : Int32) (1 : Int32) (oa1 p1) (oa1 p2))), (.int (od9 (0 : Int32) (1 : Int32) (oa1 p1) (oa1 p2)))] ?_
        refine oa7 X192.here hx hby at_163 (teq (show (od9 (0 : Int32) (1 : Int32) (oa1 p1) (oa1 p2)) = (od9 (0 : Int32) (1 : Int32) (oa1 p1) (oa1 p2)) from rfl)).2 ?_
        refine oa4 X192.here hx hby at_166 (v := (1 : Int32)) (by decide) ?_
        refine oc X192.here hx hby (pc' := 171) at_167 (by decide) (by decide) ?_
        obtain ⟨fs, hr, hrun, hended, hRW⟩ := X192.leaveW hS0 (by rw [eh192]; omega) (v := some (.int 1)) (fun h => by rw [Bd.returns] at h; cases h) Bd.notSynchronized
        have hCf : CHr Z consts_1 s.vm s.heap T192.vm T192.heap := by
          rw [hh, eh192]
          exact C181.trans (CHv.at X192 hZ hEL C181.1)
        refine og0 (t := T192.setFrames fs) ?_ ⟨_, hrun, hended, _, _, rfl, ?_, hCf, hRW.1, hRW.2.1, hRW.2.2.1, hRW.2.2.2.mono (by decide) (by decide)⟩
        · exact retN X192 hx (t := .boolean) Bd.returns (by simp) (hb hby at_171) hr
        · show Q_rm0 Z _ _ _ _ _ _ h0 n0 _ T192.heap _
          rw [eh192]
          exact ⟨rfl, N192, trivial⟩
      · have f193 := (((A133.ext E138).wr W142).wr W145)
        have f194 := (((F137.ext E138).other W142 (Or.inl (oc4 (by omega)))).other W145 (Or.inl (oc4 (by omega))))
        have f195 := (((F136.ext E138).other W142 (Or.inl (oc4 (by omega)))).other W145 (Or.inl (oc4 (by omega))))
        have f196 := ((((((((S_C.ext E118).wr W122).wr W125).wr W129).ext E133).ext E138).wr W142).wr W145)
        have z198 : n0 ≤ h145.size := by omega
        have hws_words : ∀ d ∈ StrChars.Road.words, d.before a0 Z = true := fun d hd => hw d ((by decide +kernel : ∀ d ∈ StrChars.Road.words, d ∈ tables_1) d hd)
        refine own_specialB X145 hx hZ rfl hown (oa0 hw 9 rfl) (oa0 hw 10 rfl) (oa0 hw 11 rfl) (by decide) (StrChars.Road.backV (W := 1) hZ hws_words (kI := 4) (oa0 hw 7 rfl) (cs := ([(oa1 p1), (oa1 p2)] : List Int32)) (bs := ([(oa1 p1), (oa1 p2)] : List Int32).map (fun c => c.toInt8.toInt32)) (n := 2) (by omega) z198 f193 f194 f195 V146 f196 hz rfl rfl (by decide) (by decide) (own_lS ⟨(ob9 p1).1, hl0⟩ (own_lS ⟨(ob9 p2).1, hl1⟩ own_l0)) rfl (by decide) (by decide)) (Nat.le_of_eq rfl) (by rw [hml]; rfl) (argsL := [(.ref b138)]) (st := [(.ref b133)]) (a := b133) (lenOf pd_19 rfl) rfl rfl (by decide) (by decide) e145 hby at_112 ?_
        intro T197 v197 L197 X197 hQ197
        obtain ⟨rfl, Nq197, K197, P197_0, P197_1, t_197, kb_197, P197_2, P197_3, P197_4, P197_5, P197_6⟩ := hQ197
        have N197 := Fr.app N145 Nq197
        have z199 : h145.size ≤ T197.heap.size := K197.1
        have C200 := C148.trans (CHr.keep K197 (sfS (oe5 hZ.alike f193 f194) sf0) C148.1)
        have lt201 : T197.heap.size > b133 := P197_0.lt
        have lt202 : T197.heap.size > t_197 := P197_6.lt
        refine oa5 (T := T197) 115 #[.val (.int p1), .val (.int p2), .val (.int p3), .val (.int p4), .val (.int 2), .val (.int (oa1 p1)), .val (.int (oa1 p2)), .val (.int (oa1 p3)), .val (.ref b118), .unset, .unset] [(.ref b133)] ?_
        refine od5 X197.here hx hby at_115 rfl (l' := #[.val (.int p1), .val (.int p2), .val (.int p3), .val (.int p4), .val (.int 2), .val (.int (oa1 p1)), .val (.int (oa1 p2)), .val (.int (oa1 p3)), .val (.ref b118), .val (.ref b133), .unset]) rfl ?_
        refine oc X197.here hx hby (pc' := 147) at_117 (by decide) (by decide) ?_
        refine oc7 X197.here hx hby at_147 rfl rfl ?_
        have f203 := (ob f196 K197 (allS (ob5 f193) all0))
        have f204 := (ob ((((((((S_FM.ext E118).wr W122).wr W125).wr W129).ext E133).ext E138).wr W142).wr W145) K197 (allS (ob5 f193) all0))
        have z206 : n0 ≤ T197.heap.size := by omega
        refine oa3 X197 hx hZ hown (oa0 hw 35 rfl) (oa0 hw 36 rfl) (oa0 hw 37 rfl) (oa0 hw 38 rfl) (by decide) (dis_l_2 l Z a0 hw [] b133 t_197 kb_197 zc fm (oa1 p1) (oa1 p2) T197.heap n0 z206 P197_0 P197_1 P197_5 P197_6 f203 hz f204 hfm (ob9 p1).1 hl0 (ob9 p2).1 hl1) 0 hml rfl (argsL := [(.ref b133)]) (st := []) (lenOf pd_20 rfl) rfl rfl rfl hby at_149 ?_
        intro T205 v205 L205 X205 hQ205
        obtain ⟨rfl, Nq205, eh205⟩ := hQ205
        have N205 := Fr.app N197 Nq205
        refine oa5 (T := T205) 152 #[.val (.int p1), .val (.int p2), .val (.int p3), .val (.int p4), .val (.int 2), .val (.int (oa1 p1)), .val (.int (oa1 p2)), .val (.int (oa1 p3)), .val (.ref b118), .val (.ref b133), .unset] [(.int (od9 (0 : Int32) (1 : Int32) (oa1 p1) (oa1 p2)))] ?_
        refine ob8 X205.here hx hby at_152 (l' := #[.val (.int p1), .val (.int p2), .val (.int p3), .val (.int p4), .val (.int 2), .val (.int (oa1 p1)), .val (.int (oa1 p2)), .val (.int (oa1 p3)), .val (.ref b118), .val (.ref b133), .val (.int (od9 (0 : Int32) (1 : Int32) (oa1 p1) (oa1 p2)))]) rfl ?_
        refine oa8 X205.here hx hby at_154 rfl ?_
        refine oc7 X205.here hx hby at_156 rfl rfl ?_
        refine oa8 X205.here hx hby at_158 rfl ?_
        have f207 := (((((V130.ext E133).ext E138).other W142 (oc4 (by omega))).other W145 (oc4 (by omega))).keep K197 (ninS (oc4 (by omega)) nin0))
        refine oa3 X205 hx hZ hown (oa0 hw 69 rfl) (oa0 hw 70 rfl) (oa0 hw 2 rfl) (oa0 hw 71 rfl) (by decide) (expd_2 l Z a0 hw [] b118 k118 (oa1 p1) (oa1 p2) (oa1 p3) T197.heap n0 z206 f207) 1 hml rfl (argsL := [(.ref b118), (.int 2)]) (st := [(.int (od9 (0 : Int32) (1 : Int32) (oa1 p1) (oa1 p2)))]) (lenOf pd_21 rfl) rfl rfl eh205 hby at_160 ?_
        intro T208 v208 L208 X208 hQ208
        obtain ⟨rfl, Nq208, eh208⟩ := hQ208
        have N208 := Fr.app N205 Nq208
        refine oa5 (T := T208) 163 #[.val (.int p1), .val (.int p2), .val (.int p3), .val (.int p4), .val (.int 2), .val (.int (oa1 p1)), .val (.int (oa1 p2)), .val (.int (oa1 p3)), .val (.ref b118), .val (.ref b133), .val (.int (od9 (0 : Int32) (1 : Int32) (oa1 p1) (oa1 p2)))] [(.int (od9 (0 : Int32) (1 : Int32) (oa1 p1) (oa1 p2))), (.int (od9 (0 : Int32) (1 : Int32) (oa1 p1) (oa1 p2)))] ?_
        refine oa7 X208.here hx hby at_163 (teq (show (od9 (0 : Int32) (1 : Int32) (oa1 p1) (oa1 p2)) = (od9 (0 : Int32) (1 : Int32) (oa1 p1) (oa1 p2)) from rfl)).2 ?_
        refine oa4 X208.here hx hby at_166 (v := (1 : Int32)) (by decide) ?_
        refine oc X208.here hx hby (pc' := 171) at_167 (by decide) (by decide) ?_
        obtain ⟨fs, hr, hrun, hended, hRW⟩ := X208.leaveW hS0 (by rw [eh208]; omega) (v := some (.int 1)) (fun h => by rw [Bd.returns] at h; cases h) Bd.notSynchronized
        have hCf : CHr Z consts_1 s.vm s.heap T208.vm T208.heap := by
          rw [hh, eh208]
          exact C200.trans (CHv.at X208 hZ hEL C200.1)
        refine og0 (t := T208.setFrames fs) ?_ ⟨_, hrun, hended, _, _, rfl, ?_, hCf, hRW.1, hRW.2.1, hRW.2.2.1, hRW.2.2.2.mono (by decide) (by decide)⟩
        · exact retN X208 hx (t := .boolean) Bd.returns (by simp) (hb hby at_171) hr
        · show Q_rm0 Z _ _ _ _ _ _ h0 n0 _ T208.heap _
          rw [eh208]
          exact ⟨rfl, N208, trivial⟩
  · rw [hk]
    refine ob8 Y0.here hx hby at_3 (l' := #[.val (.int p1), .val (.int p2), .val (.int p3), .val (.int p4), .val (.int 3), .unset, .unset, .unset, .unset, .unset, .unset]) rfl ?_
    refine oa Y0.here hx hby at_5 rfl ?_
    refine oa3 Y0 hx hZ hown (oa0 hw 0 rfl) (oa0 hw 1 rfl) (oa0 hw 2 rfl) (oa0 hw 3 rfl) (by decide) (ch_ l Z a0 hw [] p1 h0 n0 Z0 ) 0 hml rfl (argsL := [(.int p1)]) (st := []) (lenOf pd_18 rfl) rfl rfl e0 hby at_6 ?_
    intro T209 v209 L209 X209 hQ209
    obtain ⟨rfl, Nq209, eh209⟩ := hQ209
    have N209 := Fr.app N0 Nq209
    refine oa5 (T := T209) 9 #[.val (.int p1), .val (.int p2), .val (.int p3), .val (.int p4), .val (.int 3), .unset, .unset, .unset, .unset, .unset, .unset] [(.int (oa1 p1))] ?_
    refine ob8 X209.here hx hby at_9 (l' := #[.val (.int p1), .val (.int p2), .val (.int p3), .val (.int p4), .val (.int 3), .val (.int (oa1 p1)), .unset, .unset, .unset, .unset, .unset]) rfl ?_
    refine oa X209.here hx hby at_11 rfl ?_
    refine oa3 X209 hx hZ hown (oa0 hw 0 rfl) (oa0 hw 1 rfl) (oa0 hw 2 rfl) (oa0 hw 3 rfl) (by decide) (ch_ l Z a0 hw [] p2 h0 n0 Z0 ) 0 hml rfl (argsL := [(.int p2)]) (st := []) (lenOf pd_18 rfl) rfl rfl eh209 hby at_12 ?_
    intro T210 v210 L210 X210 hQ210
    obtain ⟨rfl, Nq210, eh210⟩ := hQ210
    have N210 := Fr.app N209 Nq210
    refine oa5 (T := T210) 15 #[.val (.int p1), .val (.int p2), .val (.int p3), .val (.int p4), .val (.int 3), .val (.int (oa1 p1)), .unset, .unset, .unset, .unset, .unset] [(.int (oa1 p2))] ?_
    refine ob8 X210.here hx hby at_15 (l' := #[.val (.int p1), .val (.int p2), .val (.int p3), .val (.int p4), .val (.int 3), .val (.int (oa1 p1)), .val (.int (oa1 p2)), .unset, .unset, .unset, .unset]) rfl ?_
    refine oa X210.here hx hby at_17 rfl ?_
    refine oa3 X210 hx hZ hown (oa0 hw 0 rfl) (oa0 hw 1 rfl) (oa0 hw 2 rfl) (oa0 hw 3 rfl) (by decide) (ch_ l Z a0 hw [] p3 h0 n0 Z0 ) 0 hml rfl (argsL := [(.int p3)]) (st := []) (lenOf pd_18 rfl) rfl rfl eh210 hby at_18 ?_
    intro T211 v211 L211 X211 hQ211
    obtain ⟨rfl, Nq211, eh211⟩ := hQ211
    have N211 := Fr.app N210 Nq211
    refine oa5 (T := T211) 21 #[.val (.int p1), .val (.int p2), .val (.int p3), .val (.int p4), .val (.int 3), .val (.int (oa1 p1)), .val (.int (oa1 p2)), .unset, .unset, .unset, .unset] [(.int (oa1 p3))] ?_
    refine ob8 X211.here hx hby at_21 (l' := #[.val (.int p1), .val (.int p2), .val (.int p3), .val (.int p4), .val (.int 3), .val (.int (oa1 p1)), .val (.int (oa1 p2)), .val (.int (oa1 p3)), .unset, .unset, .unset]) rfl ?_
    refine oa4 X211.here hx hby at_23 (v := (3 : Int32)) (by decide) ?_
    refine of3 X211 hx hZ (aty := .char) (oa0 hw 5 rfl) eh211 hby at_24 (by decide) 3 (by decide) (by decide) (by decide) (by decide) (ad := "[C") (by decide) ?_
    intro T212 h212 k212 b212 X212 e212 E212 g212 V212 C212 lt212
    have z213 : h0.size ≤ h212.size := E212.1
    have C214 := C0.trans (CHr.ext E212 C0.1)
    have V215 : Arv Z h212 b212 k212 .char (3 : Int32) [(.int 0), (.int 0), (.int 0)] (.int 0) := V212.pad (pad_rep [] (.int 0) 3)
    refine of1 X212.here hx hby at_26 rfl ?_
    refine oa4 X212.here hx hby at_27 (v := (0 : Int32)) (by decide) ?_
    refine oa8 X212.here hx hby at_28 rfl ?_
    refine oe3 X212 hx hZ e212 V215 ⟨by decide, by decide⟩ 0 (by decide) (Nat.le_of_ble_eq_true rfl) (w := (.int (oa1 p1))) (congrArg Value.int (oe8 (oa1 p1) (ob9 p1).1 (ob9 p1).2)) hby at_30 N211 (by omega) ?_
    intro T216 h216 lo216 X216 e216 N216 W216 V216 z216
    have V217 : Arv Z h216 b212 k212 .char (3 : Int32) [(.int (oa1 p1)), (.int 0), (.int 0)] (.int 0) := V216
    have C218 := C214.trans (CHr.wr W216 (Safe.exa hZ.alike C212 (by decide) (by decide)) C214.1)
    refine of1 X216.here hx hby at_31 rfl ?_
    refine oa4 X216.here hx hby at_32 (v := (1 : Int32)) (by decide) ?_
    refine oa8 X216.here hx hby at_33 rfl ?_
    refine oe3 X216 hx hZ e216 V217 ⟨by decide, by decide⟩ 1 (by decide) (Nat.le_of_ble_eq_true rfl) (w := (.int (oa1 p2))) (congrArg Value.int (oe8 (oa1 p2) (ob9 p2).1 (ob9 p2).2)) hby at_35 N216 (by omega) ?_
    intro T219 h219 lo219 X219 e219 N219 W219 V219 z219
    have V220 : Arv Z h219 b212 k212 .char (3 : Int32) [(.int (oa1 p1)), (.int (oa1 p2)), (.int 0)] (.int 0) := V219
    have f221 := (C212.wr W216)
    have C222 := C218.trans (CHr.wr W219 (Safe.exa hZ.alike f221 (by decide) (by decide)) C218.1)
    refine of1 X219.here hx hby at_36 rfl ?_
    refine oa4 X219.here hx hby at_37 (v := (2 : Int32)) (by decide) ?_
    refine oa8 X219.here hx hby at_38 rfl ?_
    refine oe3 X219 hx hZ e219 V220 ⟨by decide, by decide⟩ 2 (by decide) (Nat.le_of_ble_eq_true rfl) (w := (.int (oa1 p3))) (congrArg Value.int (oe8 (oa1 p3) (ob9 p3).1 (ob9 p3).2)) hby at_40 N219 (by omega) ?_
    intro T223 h223 lo223 X223 e223 N223 W223 V223 z223
    have V224 : Arv Z h223 b212 k212 .char (3 : Int32) [(.int (oa1 p1)), (.int (oa1 p2)), (.int (oa1 p3))] (.int 0) := V223
    have f225 := (f221.wr W219)
    have C226 := C222.trans (CHr.wr W223 (Safe.exa hZ.alike f225 (by decide) (by decide)) C222.1)
    refine od5 X223.here hx hby at_41 rfl (l' := #[.val (.int p1), .val (.int p2), .val (.int p3), .val (.int p4), .val (.int 3), .val (.int (oa1 p1)), .val (.int (oa1 p2)), .val (.int (oa1 p3)), .val (.ref b212), .unset, .unset]) rfl ?_
    refine oa8 X223.here hx hby at_43 rfl ?_
    refine ob1 X223.here hx hby (pc' := 63) at_45 ((if0 _ _).trans (feq (show ¬ ((3 : Int32) = (0 : Int32)) from (by decide))).2) (by decide) (by decide) ?_
    refine oa8 X223.here hx hby at_63 rfl ?_
    refine oa4 X223.here hx hby at_65 (v := (1 : Int32)) (by decide) ?_
    refine ob2 X223.here hx hby (pc' := 89) at_66 (feq (show ¬ ((3 : Int32) = (1 : Int32)) from (by decide))).2 (by decide) (by decide) ?_
    refine oa8 X223.here hx hby at_89 rfl ?_
    refine oa4 X223.here hx hby at_91 (v := (2 : Int32)) (by decide) ?_
    refine ob2 X223.here hx hby (pc' := 120) at_92 (feq (show ¬ ((3 : Int32) = (2 : Int32)) from (by decide))).2 (by decide) (by decide) ?_
    refine own_newO X223 hx hZ hown (oa0 hw 6 rfl) (oa0 hw 7 rfl) (oa0 hw 8 rfl) e223 hby at_120 (by decide) (by decide) ?_
    intro T227 h227 b227 X227 e227 E227 g227 A227 D227 lt227
    have z228 : h223.size ≤ h227.size := E227.1
    have C229 := C226.trans (CHr.ext E227 C226.1)
    have F230 : Fld Z h227 b227 "java/lang/String" "coder" "B" (.int 0) := D227 (Or.inr (oa0 hw 32 rfl)) (ty := .byte) (by decide)
    have F231 : Fld Z h227 b227 "java/lang/String" "value" "[B" .null := D227 (Or.inr (oa0 hw 34 rfl)) (ty := (.array .byte)) (by decide)
    refine of1 X227.here hx hby at_123 rfl ?_
    refine oa4 X227.here hx hby at_124 (v := (3 : Int32)) (by decide) ?_
    refine of3 X227 hx hZ (aty := .char) (oa0 hw 5 rfl) e227 hby at_125 (by decide) 3 (by decide) (by decide) (by decide) (by decide) (ad := "[C") (by decide) ?_
    intro T232 h232 k232 b232 X232 e232 E232 g232 V232 C232 lt232
    have z233 : h227.size ≤ h232.size := E232.1
    have C234 := C229.trans (CHr.ext E232 C229.1)
    have V235 : Arv Z h232 b232 k232 .char (3 : Int32) [(.int 0), (.int 0), (.int 0)] (.int 0) := V232.pad (pad_rep [] (.int 0) 3)
    refine of1 X232.here hx hby at_127 rfl ?_
    refine oa4 X232.here hx hby at_128 (v := (0 : Int32)) (by decide) ?_
    refine oa8 X232.here hx hby at_129 rfl ?_
    refine oe3 X232 hx hZ e232 V235 ⟨by decide, by decide⟩ 0 (by decide) (Nat.le_of_ble_eq_true rfl) (w := (.int (oa1 p1))) (congrArg Value.int (oe8 (oa1 p1) (ob9 p1).1 (ob9 p1).2)) hby at_131 N223 (by omega) ?_
    intro T236 h236 lo236 X236 e236 N236 W236 V236 z236
    have V237 : Arv Z h236 b232 k232 .char (3 : Int32) [(.int (oa1 p1)), (.int 0), (.int 0)] (.int 0) := V236
    have C238 := C234.trans (CHr.wr W236 (Safe.exa hZ.alike C232 (by decide) (by decide)) C234.1)
    refine of1 X236.here hx hby at_132 rfl ?_
    refine oa4 X236.here hx hby at_133 (v := (1 : Int32)) (by decide) ?_
    refine oa8 X236.here hx hby at_134 rfl ?_
    refine oe3 X236 hx hZ e236 V237 ⟨by decide, by decide⟩ 1 (by decide) (Nat.le_of_ble_eq_true rfl) (w := (.int (oa1 p2))) (congrArg Value.int (oe8 (oa1 p2) (ob9 p2).1 (ob9 p2).2)) hby at_136 N236 (by omega) ?_
    intro T239 h239 lo239 X239 e239 N239 W239 V239 z239
    have V240 : Arv Z h239 b232 k232 .char (3 : Int32) [(.int (oa1 p1)), (.int (oa1 p2)), (.int 0)] (.int 0) := V239
    have f241 := (C232.wr W236)
    have C242 := C238.trans (CHr.wr W239 (Safe.exa hZ.alike f241 (by decide) (by decide)) C238.1)
    refine of1 X239.here hx hby at_137 rfl ?_
    refine oa4 X239.here hx hby at_138 (v := (2 : Int32)) (by decide) ?_
    refine oa8 X239.here hx hby at_139 rfl ?_
    refine oe3 X239 hx hZ e239 V240 ⟨by decide, by decide⟩ 2 (by decide) (Nat.le_of_ble_eq_true rfl) (w := (.int (oa1 p3))) (congrArg Value.int (oe8 (oa1 p3) (ob9 p3).1 (ob9 p3).2)) hby at_141 N239 (by omega) ?_
    intro T243 h243 lo243 X243 e243 N243 W243 V243 z243
    have V244 : Arv Z h243 b232 k232 .char (3 : Int32) [(.int (oa1 p1)), (.int (oa1 p2)), (.int (oa1 p3))] (.int 0) := V243
    have f245 := (f241.wr W239)
    have C246 := C242.trans (CHr.wr W243 (Safe.exa hZ.alike f245 (by decide) (by decide)) C242.1)
    refine oa5 (T := T243) 142 #[.val (.int p1), .val (.int p2), .val (.int p3), .val (.int p4), .val (.int 3), .val (.int (oa1 p1)), .val (.int (oa1 p2)), .val (.int (oa1 p3)), .val (.ref b212), .unset, .unset] [(.ref b232), (.ref b227), (.ref b227)] ?_
    by_cases hl0 : (255 : Int32) < (oa1 p1)
    · have f247 := ((((A227.ext E232).wr W236).wr W239).wr W243)
      have f248 := ((((F231.ext E232).other W236 (Or.inl (oc4 (by omega)))).other W239 (Or.inl (oc4 (by omega)))).other W243 (Or.inl (oc4 (by omega))))
      have f249 := ((((F230.ext E232).other W236 (Or.inl (oc4 (by omega)))).other W239 (Or.inl (oc4 (by omega)))).other W243 (Or.inl (oc4 (by omega))))
      have f250 := (((((((((S_C.ext E212).wr W216).wr W219).wr W223).ext E227).ext E232).wr W236).wr W239).wr W243)
      have f251 := (((((((((S_AD.ext E212).wr W216).wr W219).wr W223).ext E227).ext E232).wr W236).wr W239).wr W243)
      have f252 := (((((((((S_HI.ext E212).wr W216).wr W219).wr W223).ext E227).ext E232).wr W236).wr W239).wr W243)
      have f253 := (((((((((S_LO.ext E212).wr W216).wr W219).wr W223).ext E227).ext E232).wr W236).wr W239).wr W243)
      have z255 : n0 ≤ h243.size := by omega
      refine of0 X243 hx hZ rfl hown (oa0 hw 9 rfl) (oa0 hw 10 rfl) (oa0 hw 8 rfl) (oa0 hw 11 rfl) (by decide) (sU1_3_0 l Z a0 hw [] b227 b232 k232 zc (oa1 p1) (oa1 p2) (oa1 p3) h243 n0 z255 f247 (by omega) f248 f249 V244 f250 hz f251 f252 f253 hl0 (ob9 p1).1 (ob9 p1).2) 1 (Nat.le_of_eq rfl) (by decide) (by decide) (by rw [hml]; rfl) (argsL := [(.ref b232)]) (st := [(.ref b227)]) (a := b227) (lenOf pd_19 rfl) rfl rfl (by decide) (by decide) e243 hby at_142 ?_
      intro T254 v254 L254 X254 hQ254
      obtain ⟨t_254, kb_254, rfl, Nq254, K254, P254_0, P254_1, P254_2, P254_3, P254_4⟩ := hQ254
      have N254 := Fr.app N243 Nq254
      have z256 : h243.size ≤ T254.heap.size := K254.1
      have C257 := C246.trans (CHr.keep K254 (sfS (oe5 hZ.alike f247 f248) sf0) C246.1)
      have lt258 : T254.heap.size > b227 := P254_1.lt
      have lt259 : T254.heap.size > t_254 := P254_4.lt
      refine oa5 (T := T254) 145 #[.val (.int p1), .val (.int p2), .val (.int p3), .val (.int p4), .val (.int 3), .val (.int (oa1 p1)), .val (.int (oa1 p2)), .val (.int (oa1 p3)), .val (.ref b212), .unset, .unset] [(.ref b227)] ?_
      refine od5 X254.here hx hby at_145 rfl (l' := #[.val (.int p1), .val (.int p2), .val (.int p3), .val (.int p4), .val (.int 3), .val (.int (oa1 p1)), .val (.int (oa1 p2)), .val (.int (oa1 p3)), .val (.ref b212), .val (.ref b227), .unset]) rfl ?_
      refine oc7 X254.here hx hby at_147 rfl rfl ?_
      have f260 := (ob f250 K254 (allS (ob5 f247) all0))
      have f261 := (ob (((((((((S_FM.ext E212).wr W216).wr W219).wr W223).ext E227).ext E232).wr W236).wr W239).wr W243) K254 (allS (ob5 f247) all0))
      have f262 := (ob f251 K254 (allS (ob5 f247) all0))
      have f263 := (ob f252 K254 (allS (ob5 f247) all0))
      have f264 := (ob f253 K254 (allS (ob5 f247) all0))
      have z266 : n0 ≤ T254.heap.size := by omega
      refine oa3 X254 hx hZ hown (oa0 hw 35 rfl) (oa0 hw 36 rfl) (oa0 hw 37 rfl) (oa0 hw 38 rfl) (by decide) (dis_u_3 l Z a0 hw [] b227 t_254 kb_254 zc fm (oa1 p1) (oa1 p2) (oa1 p3) T254.heap n0 z266 P254_1 P254_2 P254_3 P254_4 f260 hz f261 hfm f262 f263 f264 (ob9 p1).1 (ob9 p1).2 (ob9 p2).1 (ob9 p2).2 (ob9 p3).1 (ob9 p3).2) 0 hml rfl (argsL := [(.ref b227)]) (st := []) (lenOf pd_20 rfl) rfl rfl rfl hby at_149 ?_
      intro T265 v265 L265 X265 hQ265
      obtain ⟨rfl, Nq265, eh265⟩ := hQ265
      have N265 := Fr.app N254 Nq265
      refine oa5 (T := T265) 152 #[.val (.int p1), .val (.int p2), .val (.int p3), .val (.int p4), .val (.int 3), .val (.int (oa1 p1)), .val (.int (oa1 p2)), .val (.int (oa1 p3)), .val (.ref b212), .val (.ref b227), .unset] [(.int (od6 (oa1 p1) (oa1 p2) (oa1 p3)))] ?_
      refine ob8 X265.here hx hby at_152 (l' := #[.val (.int p1), .val (.int p2), .val (.int p3), .val (.int p4), .val (.int 3), .val (.int (oa1 p1)), .val (.int (oa1 p2)), .val (.int (oa1 p3)), .val (.ref b212), .val (.ref b227), .val (.int (od6 (oa1 p1) (oa1 p2) (oa1 p3)))]) rfl ?_
      refine oa8 X265.here hx hby at_154 rfl ?_
      refine oc7 X265.here hx hby at_156 rfl rfl ?_
      refine oa8 X265.here hx hby at_158 rfl ?_
      have f267 := ((((((V224.ext E227).ext E232).other W236 (oc4 (by omega))).other W239 (oc4 (by omega))).other W243 (oc4 (by omega))).keep K254 (ninS (oc4 (by omega)) nin0))
      refine oa3 X265 hx hZ hown (oa0 hw 69 rfl) (oa0 hw 70 rfl) (oa0 hw 2 rfl) (oa0 hw 71 rfl) (by decide) (expd_3 l Z a0 hw [] b212 k212 (oa1 p1) (oa1 p2) (oa1 p3) T254.heap n0 z266 f267) 1 hml rfl (argsL := [(.ref b212), (.int 3)]) (st := [(.int (od6 (oa1 p1) (oa1 p2) (oa1 p3)))]) (lenOf pd_21 rfl) rfl rfl eh265 hby at_160 ?_
      intro T268 v268 L268 X268 hQ268
      obtain ⟨rfl, Nq268, eh268⟩ := hQ268
      have N268 := Fr.app N265 Nq268
      refine oa5 (T := T268) 163 #[.val (.int p1), .val (.int p2), .val (.int p3), .val (.int p4), .val (.int 3), .val (.int (oa1 p1)), .val (.int (oa1 p2)), .val (.int (oa1 p3)), .val (.ref b212), .val (.ref b227), .val (.int (od6 (oa1 p1) (oa1 p2) (oa1 p3)))] [(.int (od6 (oa1 p1) (oa1 p2) (oa1 p3))), (.int (od6 (oa1 p1) (oa1 p2) (oa1 p3)))] ?_
      refine oa7 X268.here hx hby at_163 (teq (show (od6 (oa1 p1) (oa1 p2) (oa1 p3)) = (od6 (oa1 p1) (oa1 p2) (oa1 p3)) from rfl)).2 ?_
      refine oa4 X268.here hx hby at_166 (v := (1 : Int32)) (by decide) ?_
      refine oc X268.here hx hby (pc' := 171) at_167 (by decide) (by decide) ?_
      obtain ⟨fs, hr, hrun, hended, hRW⟩ := X268.leaveW hS0 (by rw [eh268]; omega) (v := some (.int 1)) (fun h => by rw [Bd.returns] at h; cases h) Bd.notSynchronized
      have hCf : CHr Z consts_1 s.vm s.heap T268.vm T268.heap := by
        rw [hh, eh268]
        exact C257.trans (CHv.at X268 hZ hEL C257.1)
      refine og0 (t := T268.setFrames fs) ?_ ⟨_, hrun, hended, _, _, rfl, ?_, hCf, hRW.1, hRW.2.1, hRW.2.2.1, hRW.2.2.2.mono (by decide) (by decide)⟩
      · exact retN X268 hx (t := .boolean) Bd.returns (by simp) (hb hby at_171) hr
      · show Q_rm0 Z _ _ _ _ _ _ h0 n0 _ T268.heap _
        rw [eh268]
        exact ⟨rfl, N268, trivial⟩
    · refine oa5 (T := T243) 142 #[.val (.int p1), .val (.int p2), .val (.int p3), .val (.int p4), .val (.int 3), .val (.int (oa1 p1)), .val (.int (oa1 p2)), .val (.int (oa1 p3)), .val (.ref b212), .unset, .unset] [(.ref b232), (.ref b227), (.ref b227)] ?_
      by_cases hl1 : (255 : Int32) < (oa1 p2)
      · have f269 := ((((A227.ext E232).wr W236).wr W239).wr W243)
        have f270 := ((((F231.ext E232).other W236 (Or.inl (oc4 (by omega)))).other W239 (Or.inl (oc4 (by omega)))).other W243 (Or.inl (oc4 (by omega))))
        have f271 := ((((F230.ext E232).other W236 (Or.inl (oc4 (by omega)))).other W239 (Or.inl (oc4 (by omega)))).other W243 (Or.inl (oc4 (by omega))))
        have f272 := (((((((((S_C.ext E212).wr W216).wr W219).wr W223).ext E227).ext E232).wr W236).wr W239).wr W243)
        have f273 := (((((((((S_AD.ext E212).wr W216).wr W219).wr W223).ext E227).ext E232).wr W236).wr W239).wr W243)
        have f274 := (((((((((S_HI.ext E212).wr W216).wr W219).wr W223).ext E227).ext E232).wr W236).wr W239).wr W243)
        have f275 := (((((((((S_LO.ext E212).wr W216).wr W219).wr W223).ext E227).ext E232).wr W236).wr W239).wr W243)
        have z277 : n0 ≤ h243.size := by omega
        refine of0 X243 hx hZ rfl hown (oa0 hw 9 rfl) (oa0 hw 10 rfl) (oa0 hw 8 rfl) (oa0 hw 11 rfl) (by decide) (sU1_3_1 l Z a0 hw [] b227 b232 k232 zc (oa1 p1) (oa1 p2) (oa1 p3) h243 n0 z277 f269 (by omega) f270 f271 V244 f272 hz f273 f274 f275 hl0 hl1 (ob9 p2).1 (ob9 p2).2) 1 (Nat.le_of_eq rfl) (by decide) (by decide) (by rw [hml]; rfl) (argsL := [(.ref b232)]) (st := [(.ref b227)]) (a := b227) (lenOf pd_19 rfl) rfl rfl (by decide) (by decide) e243 hby at_142 ?_
        intro T276 v276 L276 X276 hQ276
        obtain ⟨t_276, kb_276, rfl, Nq276, K276, P276_0, P276_1, P276_2, P276_3, P276_4⟩ := hQ276
        have N276 := Fr.app N243 Nq276
        have z278 : h243.size ≤ T276.heap.size := K276.1
        have C279 := C246.trans (CHr.keep K276 (sfS (oe5 hZ.alike f269 f270) sf0) C246.1)
        have lt280 : T276.heap.size > b227 := P276_1.lt
        have lt281 : T276.heap.size > t_276 := P276_4.lt
        refine oa5 (T := T276) 145 #[.val (.int p1), .val (.int p2), .val (.int p3), .val (.int p4), .val (.int 3), .val (.int (oa1 p1)), .val (.int (oa1 p2)), .val (.int (oa1 p3)), .val (.ref b212), .unset, .unset] [(.ref b227)] ?_
        refine od5 X276.here hx hby at_145 rfl (l' := #[.val (.int p1), .val (.int p2), .val (.int p3), .val (.int p4), .val (.int 3), .val (.int (oa1 p1)), .val (.int (oa1 p2)), .val (.int (oa1 p3)), .val (.ref b212), .val (.ref b227), .unset]) rfl ?_
        refine oc7 X276.here hx hby at_147 rfl rfl ?_
        have f282 := (ob f272 K276 (allS (ob5 f269) all0))
        have f283 := (ob (((((((((S_FM.ext E212).wr W216).wr W219).wr W223).ext E227).ext E232).wr W236).wr W239).wr W243) K276 (allS (ob5 f269) all0))
        have f284 := (ob f273 K276 (allS (ob5 f269) all0))
        have f285 := (ob f274 K276 (allS (ob5 f269) all0))
        have f286 := (ob f275 K276 (allS (ob5 f269) all0))
        have z288 : n0 ≤ T276.heap.size := by omega
        refine oa3 X276 hx hZ hown (oa0 hw 35 rfl) (oa0 hw 36 rfl) (oa0 hw 37 rfl) (oa0 hw 38 rfl) (by decide) (dis_u_3 l Z a0 hw [] b227 t_276 kb_276 zc fm (oa1 p1) (oa1 p2) (oa1 p3) T276.heap n0 z288 P276_1 P276_2 P276_3 P276_4 f282 hz f283 hfm f284 f285 f286 (ob9 p1).1 (ob9 p1).2 (ob9 p2).1 (ob9 p2).2 (ob9 p3).1 (ob9 p3).2) 0 hml rfl (argsL := [(.ref b227)]) (st := []) (lenOf pd_20 rfl) rfl rfl rfl hby at_149 ?_
        intro T287 v287 L287 X287 hQ287
        obtain ⟨rfl, Nq287, eh287⟩ := hQ287
        have N287 := Fr.app N276 Nq287
        refine oa5 (T := T287) 152 #[.val (.int p1), .val (.int p2), .val (.int p3), .val (.int p4), .val (.int 3), .val (.int (oa1 p1)), .val (.int (oa1 p2)), .val (.int (oa1 p3)), .val (.ref b212), .val (.ref b227), .unset] [(.int (od6 (oa1 p1) (oa1 p2) (oa1 p3)))] ?_
        refine ob8 X287.here hx hby at_152 (l' := #[.val (.int p1), .val (.int p2), .val (.int p3), .val (.int p4), .val (.int 3), .val (.int (oa1 p1)), .val (.int (oa1 p2)), .val (.int (oa1 p3)), .val (.ref b212), .val (.ref b227), .val (.int (od6 (oa1 p1) (oa1 p2) (oa1 p3)))]) rfl ?_
        refine oa8 X287.here hx hby at_154 rfl ?_
        refine oc7 X287.here hx hby at_156 rfl rfl ?_
        refine oa8 X287.here hx hby at_158 rfl ?_
        have f289 := ((((((V224.ext E227).ext E232).other W236 (oc4 (by omega))).other W239 (oc4 (by omega))).other W243 (oc4 (by omega))).keep K276 (ninS (oc4 (by omega)) nin0))
        refine oa3 X287 hx hZ hown (oa0 hw 69 rfl) (oa0 hw 70 rfl) (oa0 hw 2 rfl) (oa0 hw 71 rfl) (by decide) (expd_3 l Z a0 hw [] b212 k212 (oa1 p1) (oa1 p2) (oa1 p3) T276.heap n0 z288 f289) 1 hml rfl (argsL := [(.ref b212), (.int 3)]) (st := [(.int (od6 (oa1 p1) (oa1 p2) (oa1 p3)))]) (lenOf pd_21 rfl) rfl rfl eh287 hby at_160 ?_
        intro T290 v290 L290 X290 hQ290
        obtain ⟨rfl, Nq290, eh290⟩ := hQ290
        have N290 := Fr.app N287 Nq290
        refine oa5 (T := T290) 163 #[.val (.int p1), .val (.int p2), .val (.int p3), .val (.int p4), .val (.int 3), .val (.int (oa1 p1)), .val (.int (oa1 p2)), .val (.int (oa1 p3)), .val (.ref b212), .val (.ref b227), .val (.int (od6 (oa1 p1) (oa1 p2) (oa1 p3)))] [(.int (od6 (oa1 p1) (oa1 p2) (oa1 p3))), (.int (od6 (oa1 p1) (oa1 p2) (oa1 p3)))] ?_
        refine oa7 X290.here hx hby at_163 (teq (show (od6 (oa1 p1) (oa1 p2) (oa1 p3)) = (od6 (oa1 p1) (oa1 p2) (oa1 p3)) from rfl)).2 ?_
        refine oa4 X290.here hx hby at_166 (v := (1 : Int32)) (by decide) ?_
        refine oc X290.here hx hby (pc' := 171) at_167 (by decide) (by decide) ?_
        obtain ⟨fs, hr, hrun, hended, hRW⟩ := X290.leaveW hS0 (by rw [eh290]; omega) (v := some (.int 1)) (fun h => by rw [Bd.returns] at h; cases h) Bd.notSynchronized
        have hCf : CHr Z consts_1 s.vm s.heap T290.vm T290.heap := by
          rw [hh, eh290]
          exact C279.trans (CHv.at X290 hZ hEL C279.1)
        refine og0 (t := T290.setFrames fs) ?_ ⟨_, hrun, hended, _, _, rfl, ?_, hCf, hRW.1, hRW.2.1, hRW.2.2.1, hRW.2.2.2.mono (by decide) (by decide)⟩
        · exact retN X290 hx (t := .boolean) Bd.returns (by simp) (hb hby at_171) hr
        · show Q_rm0 Z _ _ _ _ _ _ h0 n0 _ T290.heap _
          rw [eh290]
          exact ⟨rfl, N290, trivial⟩
      · refine oa5 (T := T243) 142 #[.val (.int p1), .val (.int p2), .val (.int p3), .val (.int p4), .val (.int 3), .val (.int (oa1 p1)), .val (.int (oa1 p2)), .val (.int (oa1 p3)), .val (.ref b212), .unset, .unset] [(.ref b232), (.ref b227), (.ref b227)] ?_
        by_cases hl2 : (255 : Int32) < (oa1 p3)
        · have f291 := ((((A227.ext E232).wr W236).wr W239).wr W243)
          have f292 := ((((F231.ext E232).other W236 (Or.inl (oc4 (by omega)))).other W239 (Or.inl (oc4 (by omega)))).other W243 (Or.inl (oc4 (by omega))))
          have f293 := ((((F230.ext E232).other W236 (Or.inl (oc4 (by omega)))).other W239 (Or.inl (oc4 (by omega)))).other W243 (Or.inl (oc4 (by omega))))
          have f294 := (((((((((S_C.ext E212).wr W216).wr W219).wr W223).ext E227).ext E232).wr W236).wr W239).wr W243)
          have f295 := (((((((((S_AD.ext E212).wr W216).wr W219).wr W223).ext E227).ext E232).wr W236).wr W239).wr W243)
          have f296 := (((((((((S_HI.ext E212).wr W216).wr W219).wr W223).ext E227).ext E232).wr W236).wr W239).wr W243)
          have f297 := (((((((((S_LO.ext E212).wr W216).wr W219).wr W223).ext E227).ext E232).wr W236).wr W239).wr W243)
          have z299 : n0 ≤ h243.size := by omega
          refine of0 X243 hx hZ rfl hown (oa0 hw 9 rfl) (oa0 hw 10 rfl) (oa0 hw 8 rfl) (oa0 hw 11 rfl) (by decide) (sU1_3_2 l Z a0 hw [] b227 b232 k232 zc (oa1 p1) (oa1 p2) (oa1 p3) h243 n0 z299 f291 (by omega) f292 f293 V244 f294 hz f295 f296 f297 hl0 hl1 hl2 (ob9 p3).1 (ob9 p3).2) 1 (Nat.le_of_eq rfl) (by decide) (by decide) (by rw [hml]; rfl) (argsL := [(.ref b232)]) (st := [(.ref b227)]) (a := b227) (lenOf pd_19 rfl) rfl rfl (by decide) (by decide) e243 hby at_142 ?_
          intro T298 v298 L298 X298 hQ298
          obtain ⟨t_298, kb_298, rfl, Nq298, K298, P298_0, P298_1, P298_2, P298_3, P298_4⟩ := hQ298
          have N298 := Fr.app N243 Nq298
          have z300 : h243.size ≤ T298.heap.size := K298.1
          have C301 := C246.trans (CHr.keep K298 (sfS (oe5 hZ.alike f291 f292) sf0) C246.1)
          have lt302 : T298.heap.size > b227 := P298_1.lt
          have lt303 : T298.heap.size > t_298 := P298_4.lt
          refine oa5 (T := T298) 145 #[.val (.int p1), .val (.int p2), .val (.int p3), .val (.int p4), .val (.int 3), .val (.int (oa1 p1)), .val (.int (oa1 p2)), .val (.int (oa1 p3)), .val (.ref b212), .unset, .unset] [(.ref b227)] ?_
          refine od5 X298.here hx hby at_145 rfl (l' := #[.val (.int p1), .val (.int p2), .val (.int p3), .val (.int p4), .val (.int 3), .val (.int (oa1 p1)), .val (.int (oa1 p2)), .val (.int (oa1 p3)), .val (.ref b212), .val (.ref b227), .unset]) rfl ?_
          refine oc7 X298.here hx hby at_147 rfl rfl ?_
          have f304 := (ob f294 K298 (allS (ob5 f291) all0))
          have f305 := (ob (((((((((S_FM.ext E212).wr W216).wr W219).wr W223).ext E227).ext E232).wr W236).wr W239).wr W243) K298 (allS (ob5 f291) all0))
          have f306 := (ob f295 K298 (allS (ob5 f291) all0))
          have f307 := (ob f296 K298 (allS (ob5 f291) all0))
          have f308 := (ob f297 K298 (allS (ob5 f291) all0))
          have z310 : n0 ≤ T298.heap.size := by omega
          refine oa3 X298 hx hZ hown (oa0 hw 35 rfl) (oa0 hw 36 rfl) (oa0 hw 37 rfl) (oa0 hw 38 rfl) (by decide) (dis_u_3 l Z a0 hw [] b227 t_298 kb_298 zc fm (oa1 p1) (oa1 p2) (oa1 p3) T298.heap n0 z310 P298_1 P298_2 P298_3 P298_4 f304 hz f305 hfm f306 f307 f308 (ob9 p1).1 (ob9 p1).2 (ob9 p2).1 (ob9 p2).2 (ob9 p3).1 (ob9 p3).2) 0 hml rfl (argsL := [(.ref b227)]) (st := []) (lenOf pd_20 rfl) rfl rfl rfl hby at_149 ?_
          intro T309 v309 L309 X309 hQ309
          obtain ⟨rfl, Nq309, eh309⟩ := hQ309
          have N309 := Fr.app N298 Nq309
          refine oa5 (T := T309) 152 #[.val (.int p1), .val (.int p2), .val (.int p3), .val (.int p4), .val (.int 3), .val (.int (oa1 p1)), .val (.int (oa1 p2)), .val (.int (oa1 p3)), .val (.ref b212), .val (.ref b227), .unset] [(.int (od6 (oa1 p1) (oa1 p2) (oa1 p3)))] ?_
          refine ob8 X309.here hx hby at_152 (l' := #[.val (.int p1), .val (.int p2), .val (.int p3), .val (.int p4), .val (.int 3), .val (.int (oa1 p1)), .val (.int (oa1 p2)), .val (.int (oa1 p3)), .val (.ref b212), .val (.ref b227), .val (.int (od6 (oa1 p1) (oa1 p2) (oa1 p3)))]) rfl ?_
          refine oa8 X309.here hx hby at_154 rfl ?_
          refine oc7 X309.here hx hby at_156 rfl rfl ?_
          refine oa8 X309.here hx hby at_158 rfl ?_
          have f311 := ((((((V224.ext E227).ext E232).other W236 (oc4 (by omega))).other W239 (oc4 (by omega))).other W243 (oc4 (by omega))).keep K298 (ninS (oc4 (by omega)) nin0))
          refine oa3 X309 hx hZ hown (oa0 hw 69 rfl) (oa0 hw 70 rfl) (oa0 hw 2 rfl) (oa0 hw 71 rfl) (by decide) (expd_3 l Z a0 hw [] b212 k212 (oa1 p1) (oa1 p2) (oa1 p3) T298.heap n0 z310 f311) 1 hml rfl (argsL := [(.ref b212), (.int 3)]) (st := [(.int (od6 (oa1 p1) (oa1 p2) (oa1 p3)))]) (lenOf pd_21 rfl) rfl rfl eh309 hby at_160 ?_
          intro T312 v312 L312 X312 hQ312
          obtain ⟨rfl, Nq312, eh312⟩ := hQ312
          have N312 := Fr.app N309 Nq312
          refine oa5 (T := T312) 163 #[.val (.int p1), .val (.int p2), .val (.int p3), .val (.int p4), .val (.int 3), .val (.int (oa1 p1)), .val (.int (oa1 p2)), .val (.int (oa1 p3)), .val (.ref b212), .val (.ref b227), .val (.int (od6 (oa1 p1) (oa1 p2) (oa1 p3)))] [(.int (od6 (oa1 p1) (oa1 p2) (oa1 p3))), (.int (od6 (oa1 p1) (oa1 p2) (oa1 p3)))] ?_
          refine oa7 X312.here hx hby at_163 (teq (show (od6 (oa1 p1) (oa1 p2) (oa1 p3)) = (od6 (oa1 p1) (oa1 p2) (oa1 p3)) from rfl)).2 ?_
          refine oa4 X312.here hx hby at_166 (v := (1 : Int32)) (by decide) ?_
          refine oc X312.here hx hby (pc' := 171) at_167 (by decide) (by decide) ?_
          obtain ⟨fs, hr, hrun, hended, hRW⟩ := X312.leaveW hS0 (by rw [eh312]; omega) (v := some (.int 1)) (fun h => by rw [Bd.returns] at h; cases h) Bd.notSynchronized
          have hCf : CHr Z consts_1 s.vm s.heap T312.vm T312.heap := by
            rw [hh, eh312]
            exact C301.trans (CHv.at X312 hZ hEL C301.1)
          refine og0 (t := T312.setFrames fs) ?_ ⟨_, hrun, hended, _, _, rfl, ?_, hCf, hRW.1, hRW.2.1, hRW.2.2.1, hRW.2.2.2.mono (by decide) (by decide)⟩
          · exact retN X312 hx (t := .boolean) Bd.returns (by simp) (hb hby at_171) hr
          · show Q_rm0 Z _ _ _ _ _ _ h0 n0 _ T312.heap _
            rw [eh312]
            exact ⟨rfl, N312, trivial⟩
        · have f313 := ((((A227.ext E232).wr W236).wr W239).wr W243)
          have f314 := ((((F231.ext E232).other W236 (Or.inl (oc4 (by omega)))).other W239 (Or.inl (oc4 (by omega)))).other W243 (Or.inl (oc4 (by omega))))
          have f315 := ((((F230.ext E232).other W236 (Or.inl (oc4 (by omega)))).other W239 (Or.inl (oc4 (by omega)))).other W243 (Or.inl (oc4 (by omega))))
          have f316 := (((((((((S_C.ext E212).wr W216).wr W219).wr W223).ext E227).ext E232).wr W236).wr W239).wr W243)
          have z318 : n0 ≤ h243.size := by omega
          have hws_words : ∀ d ∈ StrChars.Road.words, d.before a0 Z = true := fun d hd => hw d ((by decide +kernel : ∀ d ∈ StrChars.Road.words, d ∈ tables_1) d hd)
          refine own_specialB X243 hx hZ rfl hown (oa0 hw 9 rfl) (oa0 hw 10 rfl) (oa0 hw 11 rfl) (by decide) (StrChars.Road.backV (W := 1) hZ hws_words (kI := 4) (oa0 hw 7 rfl) (cs := ([(oa1 p1), (oa1 p2), (oa1 p3)] : List Int32)) (bs := ([(oa1 p1), (oa1 p2), (oa1 p3)] : List Int32).map (fun c => c.toInt8.toInt32)) (n := 3) (by omega) z318 f313 f314 f315 V244 f316 hz rfl rfl (by decide) (by decide) (own_lS ⟨(ob9 p1).1, hl0⟩ (own_lS ⟨(ob9 p2).1, hl1⟩ (own_lS ⟨(ob9 p3).1, hl2⟩ own_l0))) rfl (by decide) (by decide)) (Nat.le_of_eq rfl) (by rw [hml]; rfl) (argsL := [(.ref b232)]) (st := [(.ref b227)]) (a := b227) (lenOf pd_19 rfl) rfl rfl (by decide) (by decide) e243 hby at_142 ?_
          intro T317 v317 L317 X317 hQ317
          obtain ⟨rfl, Nq317, K317, P317_0, P317_1, t_317, kb_317, P317_2, P317_3, P317_4, P317_5, P317_6⟩ := hQ317
          have N317 := Fr.app N243 Nq317
          have z319 : h243.size ≤ T317.heap.size := K317.1
          have C320 := C246.trans (CHr.keep K317 (sfS (oe5 hZ.alike f313 f314) sf0) C246.1)
          have lt321 : T317.heap.size > b227 := P317_0.lt
          have lt322 : T317.heap.size > t_317 := P317_6.lt
          refine oa5 (T := T317) 145 #[.val (.int p1), .val (.int p2), .val (.int p3), .val (.int p4), .val (.int 3), .val (.int (oa1 p1)), .val (.int (oa1 p2)), .val (.int (oa1 p3)), .val (.ref b212), .unset, .unset] [(.ref b227)] ?_
          refine od5 X317.here hx hby at_145 rfl (l' := #[.val (.int p1), .val (.int p2), .val (.int p3), .val (.int p4), .val (.int 3), .val (.int (oa1 p1)), .val (.int (oa1 p2)), .val (.int (oa1 p3)), .val (.ref b212), .val (.ref b227), .unset]) rfl ?_
          refine oc7 X317.here hx hby at_147 rfl rfl ?_
          have f323 := (ob f316 K317 (allS (ob5 f313) all0))
          have f324 := (ob (((((((((S_FM.ext E212).wr W216).wr W219).wr W223).ext E227).ext E232).wr W236).wr W239).wr W243) K317 (allS (ob5 f313) all0))
          have z326 : n0 ≤ T317.heap.size := by omega
          refine oa3 X317 hx hZ hown (oa0 hw 35 rfl) (oa0 hw 36 rfl) (oa0 hw 37 rfl) (oa0 hw 38 rfl) (by decide) (dis_l_3 l Z a0 hw [] b227 t_317 kb_317 zc fm (oa1 p1) (oa1 p2) (oa1 p3) T317.heap n0 z326 P317_0 P317_1 P317_5 P317_6 f323 hz f324 hfm (ob9 p1).1 hl0 (ob9 p2).1 hl1 (ob9 p3).1 hl2) 0 hml rfl (argsL := [(.ref b227)]) (st := []) (lenOf pd_20 rfl) rfl rfl rfl hby at_149 ?_
          intro T325 v325 L325 X325 hQ325
          obtain ⟨rfl, Nq325, eh325⟩ := hQ325
          have N325 := Fr.app N317 Nq325
          refine oa5 (T := T325) 152 #[.val (.int p1), .val (.int p2), .val (.int p3), .val (.int p4), .val (.int 3), .val (.int (oa1 p1)), .val (.int (oa1 p2)), .val (.int (oa1 p3)), .val (.ref b212), .val (.ref b227), .unset] [(.int (od6 (oa1 p1) (oa1 p2) (oa1 p3)))] ?_
          refine ob8 X325.here hx hby at_152 (l' := #[.val (.int p1), .val (.int p2), .val (.int p3), .val (.int p4), .val (.int 3), .val (.int (oa1 p1)), .val (.int (oa1 p2)), .val (.int (oa1 p3)), .val (.ref b212), .val (.ref b227), .val (.int (od6 (oa1 p1) (oa1 p2) (oa1 p3)))]) rfl ?_
          refine oa8 X325.here hx hby at_154 rfl ?_
          refine oc7 X325.here hx hby at_156 rfl rfl ?_
          refine oa8 X325.here hx hby at_158 rfl ?_
          have f327 := ((((((V224.ext E227).ext E232).other W236 (oc4 (by omega))).other W239 (oc4 (by omega))).other W243 (oc4 (by omega))).keep K317 (ninS (oc4 (by omega)) nin0))
          refine oa3 X325 hx hZ hown (oa0 hw 69 rfl) (oa0 hw 70 rfl) (oa0 hw 2 rfl) (oa0 hw 71 rfl) (by decide) (expd_3 l Z a0 hw [] b212 k212 (oa1 p1) (oa1 p2) (oa1 p3) T317.heap n0 z326 f327) 1 hml rfl (argsL := [(.ref b212), (.int 3)]) (st := [(.int (od6 (oa1 p1) (oa1 p2) (oa1 p3)))]) (lenOf pd_21 rfl) rfl rfl eh325 hby at_160 ?_
          intro T328 v328 L328 X328 hQ328
          obtain ⟨rfl, Nq328, eh328⟩ := hQ328
          have N328 := Fr.app N325 Nq328
          refine oa5 (T := T328) 163 #[.val (.int p1), .val (.int p2), .val (.int p3), .val (.int p4), .val (.int 3), .val (.int (oa1 p1)), .val (.int (oa1 p2)), .val (.int (oa1 p3)), .val (.ref b212), .val (.ref b227), .val (.int (od6 (oa1 p1) (oa1 p2) (oa1 p3)))] [(.int (od6 (oa1 p1) (oa1 p2) (oa1 p3))), (.int (od6 (oa1 p1) (oa1 p2) (oa1 p3)))] ?_
          refine oa7 X328.here hx hby at_163 (teq (show (od6 (oa1 p1) (oa1 p2) (oa1 p3)) = (od6 (oa1 p1) (oa1 p2) (oa1 p3)) from rfl)).2 ?_
          refine oa4 X328.here hx hby at_166 (v := (1 : Int32)) (by decide) ?_
          refine oc X328.here hx hby (pc' := 171) at_167 (by decide) (by decide) ?_
          obtain ⟨fs, hr, hrun, hended, hRW⟩ := X328.leaveW hS0 (by rw [eh328]; omega) (v := some (.int 1)) (fun h => by rw [Bd.returns] at h; cases h) Bd.notSynchronized
          have hCf : CHr Z consts_1 s.vm s.heap T328.vm T328.heap := by
            rw [hh, eh328]
            exact C320.trans (CHv.at X328 hZ hEL C320.1)
          refine og0 (t := T328.setFrames fs) ?_ ⟨_, hrun, hended, _, _, rfl, ?_, hCf, hRW.1, hRW.2.1, hRW.2.2.1, hRW.2.2.2.mono (by decide) (by decide)⟩
          · exact retN X328 hx (t := .boolean) Bd.returns (by simp) (hb hby at_171) hr
          · show Q_rm0 Z _ _ _ _ _ _ h0 n0 _ T328.heap _
            rw [eh328]
            exact ⟨rfl, N328, trivial⟩
theorem comes_1 {Post : Tables → Env → Array Value → State → Outcome → State → Prop} (hpost : ∀ tb e args s v u, (limb_1_1.after args s (.returned v) u = true ∧ limb_1_2.after args s (.returned v) u = true ∧ True) → ReturnedEndW s (.returned v) u (Jvm.fieldLocs frame_1_writes args s ++ Jvm.arrayLocs frame_1_arrays args s ++ Jvm.staticLocs frame_1_statics s) 24 1152 → Post tb e args s (.returned v) u) :
    ArmFor flags0 classFile x code maxLocals ret World_1 tables_1 room_1 Calls_1 rest_1 Pre_1 Post := by
  intro l hfl _ _ p e ha hc hk s m args below hf hA hF happ hP
  obtain ⟨hcalls, hrest, hpre⟩ := hP
  obtain ⟨-, -, -, hnamed, -, -, -, hat⟩ := (Spec.applies_iff hf).mp happ
  obtain ⟨hg, hn⟩ := and_e (Cond.before_iff.mp (show (Jvm.Cond.and given_1 narrow_1).before args s = true from hpre))
  obtain ⟨g1, g2⟩ := and_e hg
  obtain ⟨g3, g4⟩ := and_e g2
  obtain ⟨g5, g6⟩ := and_e g4
  obtain ⟨g7, g8⟩ := and_e g6
  obtain ⟨w0, w1, w2, w3, rfl⟩ : ∃ w0 w1 w2 w3 : Value, args = #[w0, w1, w2, w3] := by
    have hs : args.size = 4 := by simpa [Cond.value, given_1] using g1
    obtain ⟨L⟩ := args
    match L, hs with
    | [w0, w1, w2, w3], _ => exact ⟨w0, w1, w2, w3, rfl⟩
  have hw := fun d (hd : d ∈ tables_1) => atoms_spec (ws := Jvm.Cond.code x code maxLocals ret :: tables_1) hat d (List.mem_cons_of_mem _ hd)
  have hfit : Fit s := fun {y c} hc i hi => by
    obtain ⟨ha, rfl⟩ := Array.getElem?_eq_some_iff.mp hc
    have q := List.all_eq_true.mp ((Array.all_eq_true_iff_forall_mem.mp hF) _ (Array.getElem_mem ha)) i (List.mem_range.mpr hi)
    simpa [Array.getElem?_eq_getElem hi] using q
  obtain ⟨hsets, hown0⟩ := atoms_of _ (rest_1_c_eq ▸ (show rest_1_c.before _ s = true from hrest))
  have hr0 := Cond.before_iff.mp hown0
  obtain ⟨i0, ei0⟩ := is_v g3
  obtain rfl : w0 = (.int i0) := Option.some.inj ei0
  obtain ⟨i1, ei1⟩ := is_v g5
  obtain rfl : w1 = (.int i1) := Option.some.inj ei1
  obtain ⟨i2, ei2⟩ := is_v g7
  obtain rfl : w2 = (.int i2) := Option.some.inj ei2
  obtain ⟨i3, ei3⟩ := is_v g8
  obtain rfl : w3 = (.int i3) := Option.some.inj ei3
  have hCS := Cond.before_iff.mp (hsets _ (List.mem_of_getElem? (i := 1) rfl))
  obtain ⟨zC, evC⟩ := is_v hCS
  have StC := Sta.start evC (Or.inl (hsets _ (List.mem_of_getElem? (i := 0) rfl)))
  have hzC : ¬ (zC = (0 : Int32)) := fun e => by
    have q := not_v (Cond.before_iff.mp (hsets _ (List.mem_of_getElem? (i := 2) rfl)))
    have r := eq_i evC (Term.int_eval (0)) (by rw [e])
    exact absurd (q.symm.trans r) (by decide)
  obtain ⟨fM, evF, hfM⟩ := isR_v (Cond.before_iff.mp (hsets _ (List.mem_of_getElem? (i := 8) rfl)))
  have StF := Sta.start evF (Or.inl (hsets _ (List.mem_of_getElem? (i := 7) rfl)))
  have evAD := own_eqI (Cond.before_iff.mp (hsets _ (List.mem_of_getElem? (i := 12) rfl)))
  have StAD := Sta.start evAD (Or.inl (hsets _ (List.mem_of_getElem? (i := 11) rfl)))
  have evHI := own_eqI (Cond.before_iff.mp (hsets _ (List.mem_of_getElem? (i := 15) rfl)))
  have StHI := Sta.start evHI (Or.inl (hsets _ (List.mem_of_getElem? (i := 14) rfl)))
  have evLO := own_eqI (Cond.before_iff.mp (hsets _ (List.mem_of_getElem? (i := 18) rfl)))
  have StLO := Sta.start evLO (Or.inl (hsets _ (List.mem_of_getElem? (i := 17) rfl)))
  have CHs : CHv s consts_1 s.vm s.heap := CHv.start (own_EW hw) (fun p hp => hcalls.1 p hp) (hsets _ (List.mem_of_getElem? (i := 2) rfl)) (oa0 hw 24 rfl) (oa0 hw 7 rfl)
  obtain ⟨n, o, h1, h2, h3, _, L, rfl, ⟨rfl, N, -⟩, -, hq⟩ := rm0 l s _ hw tables_1 i0 i1 i2 i3 zC fM s.heap s.heap.size (Nat.le_refl _) StC hzC StF hfM StAD StHI StLO p e ha hc hk s m _ below hf ((Spec.applies_iff_loose hf).mp happ).1 ⟨rfl, State.Warmed39.refl s, rfl, CHs⟩ trivial
  refine ⟨n, _, h1, h2, h3, hpost _ _ _ _ _ _ ⟨Cond.after_iff.mpr rfl, Cond.after_iff.mpr (eq_i res_at (Term.int_eval (1)) rfl), trivial⟩ ⟨hq.1, hq.2.1, hq.2.2.1, (hq.2.2.2.sift fun y hy => Or.inr (N y hy)).mono (by decide) (by decide)⟩⟩
theorem main_1_1 : Claimed_1_1 := comes_1 fun _ _ _ _ _ _ h hF => ⟨h.1, hF⟩
theorem main_1_2 : Claimed_1_2 := comes_1 fun _ _ _ _ _ _ h hF => ⟨h.2.1, hF⟩
end Jvm.Pilot.@@N@@
namespace Jvm.Pilot.@@N@@
open Jvm Jvm.ClassFile Sem Op Lib Jvm.Free Jvm.Stand Jvm.Pilot.@@N@@.Jvm.D
/-! MADE BY PROGRAM (witnessworld.py) out of the Statement's table words and the real class files: 21 classes; the members and pool entries that the words name. The judged class is class 1, her method 1. -/
namespace start1
open Jvm.ClassFile
def u (s : String) : CpInfo := .utf8 (stringToUtf16 s)
/-- a pool by its gaps: so many unusable entries, then the entry; so many at the end -/
def gap : Nat → List CpInfo → List CpInfo
  | 0, r => r
  | n + 1, r => .unusable :: gap n r
def poolList (es : List (Nat × CpInfo)) (last : Nat) : List CpInfo := es.foldr (fun e r => gap e.1 (e.2 :: r)) (gap last [])
def pool (es : List (Nat × CpInfo)) (last : Nat) : Array CpInfo := ⟨poolList es last⟩
def fileOf (pool : Array CpInfo) (this : Nat) (attrs : Array Attribute := #[]) (ms : Array MethodInfo := #[]) (fl : Nat := 33) (sup : Nat := 0) (ifs : Array Nat := #[]) (fds : Array FieldInfo := #[]) : ClassFile where
  minorVersion := 0
  majorVersion := 65
  constantPool := pool
  accessFlags := fl
  thisClass := this
  superClass := sup
  interfaces := ifs
  fields := fds
  methods := ms
  attributes := attrs
def plain (name : String) (sup : Option ClassId) : Class where
  name := name
  kind := .ordinary
  loader := none
  accessFlags := 33
  super := sup
  interfaces := #[]
  cf := none
  fields := #[]
  methods := #[]
  instanceTypes := #[]
  staticTypes := #[]
  resolved := #[]
  callSites := []
  init := .initialized
  statics := none
  mirror := none

def pool0 : Array CpInfo := pool [(5, u "<init>"), (0, u "()V"), (1, .class_ 10), (1, u "java/lang/Object")] 113

def k0c0 : Code := { maxStack := 0, maxLocals := 1, code := object_method_1_code, exceptionTable := #[], attributes := #[] }
def k0m0 : Method := { name := "<init>", desc := "()V", sig := { parameters := [], returnType := none }, accessFlags := 1, code := some k0c0 }
/-- java/lang/Object -/
def k0 : Class := { plain "java/lang/Object" none with
  accessFlags := 33
  interfaces := #[]
  cf := some (fileOf pool0 8 #[] #[{ accessFlags := 1, nameIndex := 5, descriptorIndex := 6, attributes := #[] }] 33 0 #[] #[])
  fields := #[]
  methods := #[k0m0]
  instanceTypes := #[]
  staticTypes := #[]
  resolved := Array.replicate 124 none
  statics := none }

def pool1 : Array CpInfo := pool [(2, .class_ 4), (1, u "java/lang/Object"), (0, u "<init>"), (0, u "()V"), (0, .methodref 8 9), (0, .class_ 10), (0, .nameAndType 11 12), (0, u "com/example/sluice/sluice/MessageDisallowedCharacterPinLaw"), (0, u "ch"), (0, u "(I)C"), (0, .class_ 14), (0, u "java/lang/String"), (0, .methodref 13 16), (0, .nameAndType 5 17), (0, u "([C)V"), (0, .methodref 19 20), (0, .class_ 21), (0, .nameAndType 22 23), (0, u "com/example/sluice/sluice/Message"), (0, u "disallowedCharacter"), (0, u "(Ljava/lang/String;)I"), (0, .methodref 8 25), (0, .nameAndType 26 27), (0, u "expected"), (0, u "([CI)I"), (0, .integer 55296), (0, .integer 65535), (0, .integer 56319), (0, .integer 56320), (0, .integer 57343), (0, .integer 55295), (0, .integer 57344), (0, .integer 65533), (0, .methodref 8 37), (0, .nameAndType 38 39), (0, u "isHigh"), (0, u "(C)Z"), (0, .methodref 8 41), (0, .nameAndType 42 39), (0, u "isLow"), (0, .methodref 8 44), (0, .nameAndType 45 39), (0, u "bmpAllowed"), (0, .methodref 8 47), (0, .nameAndType 48 49), (0, u "at"), (0, u "([CII)I"), (2, u "law"), (0, u "(IIII)Z")] 5

def k1m0 : Method := { name := "<init>", desc := "()V", sig := { parameters := [], returnType := none }, accessFlags := 1, code := none }
def k1c1 : Code := { maxStack := 6, maxLocals := 11, code := code, exceptionTable := #[], attributes := #[] }
def k1m1 : Method := { name := "law", desc := "(IIII)Z", sig := { parameters := [.int, .int, .int, .int], returnType := some .boolean }, accessFlags := 9, code := some k1c1 }
def k1c2 : Code := { maxStack := 3, maxLocals := 1, code := method_3_code, exceptionTable := #[], attributes := #[] }
def k1m2 : Method := { name := "ch", desc := "(I)C", sig := { parameters := [.int], returnType := some .char }, accessFlags := 10, code := some k1c2 }
def k1c3 : Code := { maxStack := 2, maxLocals := 1, code := method_4_code, exceptionTable := #[], attributes := #[] }
def k1m3 : Method := { name := "isHigh", desc := "(C)Z", sig := { parameters := [.char], returnType := some .boolean }, accessFlags := 10, code := some k1c3 }
def k1c4 : Code := { maxStack := 2, maxLocals := 1, code := method_5_code, exceptionTable := #[], attributes := #[] }
def k1m4 : Method := { name := "isLow", desc := "(C)Z", sig := { parameters := [.char], returnType := some .boolean }, accessFlags := 10, code := some k1c4 }
def k1c5 : Code := { maxStack := 2, maxLocals := 1, code := method_6_code, exceptionTable := #[], attributes := #[] }
def k1m5 : Method := { name := "bmpAllowed", desc := "(C)Z", sig := { parameters := [.char], returnType := some .boolean }, accessFlags := 10, code := some k1c5 }
def k1c6 : Code := { maxStack := 3, maxLocals := 4, code := method_7_code, exceptionTable := #[], attributes := #[] }
def k1m6 : Method := { name := "at", desc := "([CII)I", sig := { parameters := [(.array .char), .int, .int], returnType := some .int }, accessFlags := 10, code := some k1c6 }
def k1c7 : Code := { maxStack := 3, maxLocals := 4, code := method_8_code, exceptionTable := #[], attributes := #[] }
def k1m7 : Method := { name := "expected", desc := "([CI)I", sig := { parameters := [(.array .char), .int], returnType := some .int }, accessFlags := 10, code := some k1c7 }
/-- com/example/sluice/sluice/MessageDisallowedCharacterPinLaw -/
def k1 : Class := { plain "com/example/sluice/sluice/MessageDisallowedCharacterPinLaw" (some 0) with
  accessFlags := 49
  interfaces := #[]
  cf := some (fileOf pool1 8 #[] #[{ accessFlags := 1, nameIndex := 5, descriptorIndex := 6, attributes := #[] }, { accessFlags := 9, nameIndex := 52, descriptorIndex := 53, attributes := #[] }, { accessFlags := 10, nameIndex := 11, descriptorIndex := 12, attributes := #[] }, { accessFlags := 10, nameIndex := 38, descriptorIndex := 39, attributes := #[] }, { accessFlags := 10, nameIndex := 42, descriptorIndex := 39, attributes := #[] }, { accessFlags := 10, nameIndex := 45, descriptorIndex := 39, attributes := #[] }, { accessFlags := 10, nameIndex := 48, descriptorIndex := 49, attributes := #[] }, { accessFlags := 10, nameIndex := 26, descriptorIndex := 27, attributes := #[] }] 49 2 #[] #[])
  fields := #[]
  methods := #[k1m0, k1m1, k1m2, k1m3, k1m4, k1m5, k1m6, k1m7]
  instanceTypes := #[]
  staticTypes := #[]
  resolved := Array.replicate 59 none
  statics := none }

def pool2 : Array CpInfo := pool [(1, .class_ 2), (0, u "java/io/Serializable"), (0, .class_ 4), (0, u "java/lang/Object")] 2

/-- java/io/Serializable -/
def k2 : Class := { plain "java/io/Serializable" (some 0) with
  accessFlags := 1537
  interfaces := #[]
  cf := some (fileOf pool2 1 #[] #[] 1537 3 #[] #[])
  fields := #[]
  methods := #[]
  instanceTypes := #[]
  staticTypes := #[]
  resolved := Array.replicate 7 none
  statics := none }

def pool3 : Array CpInfo := pool [(1, .class_ 2), (0, u "java/lang/Comparable"), (0, .class_ 4), (0, u "java/lang/Object")] 7

/-- java/lang/Comparable -/
def k3 : Class := { plain "java/lang/Comparable" (some 0) with
  accessFlags := 1537
  interfaces := #[]
  cf := some (fileOf pool3 1 #[] #[] 1537 3 #[] #[])
  fields := #[]
  methods := #[]
  instanceTypes := #[]
  staticTypes := #[]
  resolved := Array.replicate 12 none
  statics := none }

def pool4 : Array CpInfo := pool [(2, .class_ 4), (1, u "java/lang/CharSequence"), (42, .class_ 48), (0, u "java/lang/CharSequence$1CodePointIterator"), (10, .class_ 60), (0, u "java/lang/CharSequence$1CharIterator"), (5, .class_ 67), (0, u "java/lang/Object")] 63

/-- java/lang/CharSequence -/
def k4 : Class := { plain "java/lang/CharSequence" (some 0) with
  accessFlags := 1537
  interfaces := #[]
  cf := some (fileOf pool4 2 #[.nestMembers #[47, 59]] #[] 1537 66 #[] #[])
  fields := #[]
  methods := #[]
  instanceTypes := #[]
  staticTypes := #[]
  resolved := Array.replicate 131 none
  statics := none }

def pool5 : Array CpInfo := pool [(1, .class_ 2), (0, u "java/lang/constant/Constable"), (0, .class_ 4), (0, u "java/lang/Object")] 6

/-- java/lang/constant/Constable -/
def k5 : Class := { plain "java/lang/constant/Constable" (some 0) with
  accessFlags := 1537
  interfaces := #[]
  cf := some (fileOf pool5 1 #[] #[] 1537 3 #[] #[])
  fields := #[]
  methods := #[]
  instanceTypes := #[]
  staticTypes := #[]
  resolved := Array.replicate 11 none
  statics := none }

def pool6 : Array CpInfo := pool [(1, .class_ 2), (0, u "java/lang/constant/ConstantDesc"), (0, .class_ 4), (0, u "java/lang/Object")] 32

/-- java/lang/constant/ConstantDesc -/
def k6 : Class := { plain "java/lang/constant/ConstantDesc" (some 0) with
  accessFlags := 1537
  interfaces := #[]
  cf := some (fileOf pool6 1 #[] #[] 1537 3 #[] #[])
  fields := #[]
  methods := #[]
  instanceTypes := #[]
  staticTypes := #[]
  resolved := Array.replicate 37 none
  statics := none }

def pool7 : Array CpInfo := pool [(1, .methodref 2 3), (0, .class_ 4), (0, .nameAndType 5 6), (0, u "java/lang/Object"), (0, u "<init>"), (0, u "()V"), (0, .string 8), (0, u ""), (0, .fieldref 10 11), (0, .class_ 12), (0, .nameAndType 13 14), (0, u "java/lang/String"), (0, u "value"), (0, u "[B"), (0, .fieldref 10 16), (0, .nameAndType 17 18), (0, u "coder"), (0, u "B"), (2, u "hash"), (0, u "I"), (2, u "hashIsZero"), (0, u "Z"), (0, .methodref 10 28), (0, .nameAndType 5 29), (0, u "([CIILjava/lang/Void;)V"), (8, .fieldref 10 39), (0, .nameAndType 40 26), (0, u "COMPACT_STRINGS"), (1, .class_ 44), (1, u "java/lang/StringUTF16"), (0, u "compress"), (1, .methodref 42 48), (0, .nameAndType 49 50), (0, u "coderFromArrayLen"), (0, u "([BI)B"), (46, u "([BII)I"), (44, u "()Z"), (34, .methodref 42 178), (0, .nameAndType 45 179), (0, u "([CII)[B"), (154, u "()I"), (0, .methodref 10 336), (0, .nameAndType 17 337), (0, u "()B"), (53, u "(II)V"), (100, .methodref 10 493), (0, .nameAndType 494 142), (0, u "isLatin1"), (4, .methodref 10 500), (0, .nameAndType 501 391), (0, u "checkIndex"), (0, .methodref 42 503), (0, .nameAndType 504 97), (0, u "codePointAt"), (2, u "length"), (67, .class_ 576), (0, u "java/lang/CharSequence"), (22, u "CASE_INSENSITIVE_ORDER"), (0, u "Ljava/util/Comparator;"), (164, u "(I)I"), (244, u "([C)V"), (42, .fieldref 1054 1055), (0, .class_ 1056), (0, .nameAndType 1057 1058), (0, u "jdk/internal/util/Preconditions"), (0, u "SIOOBE_FORMATTER"), (0, u "Ljava/util/function/BiFunction;"), (0, .methodref 1054 1060), (0, .nameAndType 501 1061), (0, u "(IILjava/util/function/BiFunction;)I"), (39, u "serialPersistentFields"), (0, u "[Ljava/io/ObjectStreamField;"), (0, .class_ 1104), (0, u "java/lang/String$CaseInsensitiveComparator"), (1, .class_ 1107), (0, u "java/io/Serializable"), (0, .class_ 1109), (0, u "java/lang/Comparable"), (0, .class_ 1111), (0, u "java/lang/constant/Constable"), (0, .class_ 1113), (0, u "java/lang/constant/ConstantDesc"), (2, u "serialVersionUID"), (0, u "J"), (3, u "REPL"), (0, u "C"), (2, u "LATIN1"), (1, u "UTF16")] 323

def k7m0 : Method := { name := "<init>", desc := "()V", sig := { parameters := [], returnType := none }, accessFlags := 1, code := none }
def k7c1 : Code := { maxStack := 5, maxLocals := 2, code := jdk_42_method_3_code, exceptionTable := #[], attributes := #[] }
def k7m1 : Method := { name := "<init>", desc := "([C)V", sig := { parameters := [(.array .char)], returnType := none }, accessFlags := 1, code := some k7c1 }
def k7c2 : Code := { maxStack := 2, maxLocals := 1, code := jdk_42_method_54_code, exceptionTable := #[], attributes := #[] }
def k7m2 : Method := { name := "length", desc := "()I", sig := { parameters := [], returnType := some .int }, accessFlags := 1, code := some k7c2 }
def k7c3 : Code := { maxStack := 3, maxLocals := 3, code := jdk_42_method_57_code, exceptionTable := #[], attributes := #[] }
def k7m3 : Method := { name := "codePointAt", desc := "(I)I", sig := { parameters := [.int], returnType := some .int }, accessFlags := 1, code := some k7c3 }
def k7c4 : Code := { maxStack := 4, maxLocals := 6, code := jdk_42_method_149_code, exceptionTable := #[], attributes := #[] }
def k7m4 : Method := { name := "<init>", desc := "([CIILjava/lang/Void;)V", sig := { parameters := [(.array .char), .int, .int, (.object "java/lang/Void")], returnType := none }, accessFlags := 2, code := some k7c4 }
def k7c5 : Code := { maxStack := 1, maxLocals := 1, code := jdk_42_method_152_code, exceptionTable := #[], attributes := #[] }
def k7m5 : Method := { name := "coder", desc := "()B", sig := { parameters := [], returnType := some .byte }, accessFlags := 0, code := some k7c5 }
def k7c6 : Code := { maxStack := 1, maxLocals := 1, code := jdk_42_method_154_code, exceptionTable := #[], attributes := #[] }
def k7m6 : Method := { name := "isLatin1", desc := "()Z", sig := { parameters := [], returnType := some .boolean }, accessFlags := 0, code := some k7c6 }
def k7c7 : Code := { maxStack := 3, maxLocals := 2, code := jdk_42_method_155_code, exceptionTable := #[], attributes := #[] }
def k7m7 : Method := { name := "checkIndex", desc := "(II)V", sig := { parameters := [.int, .int], returnType := none }, accessFlags := 8, code := some k7c7 }
/-- java/lang/String -/
def k7 : Class := { plain "java/lang/String" (some 0) with
  accessFlags := 49
  interfaces := #[2, 3, 4, 5, 6]
  cf := some (fileOf pool7 10 #[.nestMembers #[1103]] #[{ accessFlags := 1, nameIndex := 5, descriptorIndex := 6, attributes := #[] }, { accessFlags := 1, nameIndex := 5, descriptorIndex := 1010, attributes := #[] }, { accessFlags := 1, nameIndex := 507, descriptorIndex := 334, attributes := #[] }, { accessFlags := 1, nameIndex := 504, descriptorIndex := 765, attributes := #[] }, { accessFlags := 2, nameIndex := 5, descriptorIndex := 29, attributes := #[] }, { accessFlags := 0, nameIndex := 17, descriptorIndex := 337, attributes := #[] }, { accessFlags := 0, nameIndex := 494, descriptorIndex := 142, attributes := #[] }, { accessFlags := 8, nameIndex := 501, descriptorIndex := 391, attributes := #[] }] 49 2 #[1106, 1108, 575, 1110, 1112] #[{ accessFlags := 18, nameIndex := 13, descriptorIndex := 14, attributes := #[] }, { accessFlags := 18, nameIndex := 17, descriptorIndex := 18, attributes := #[] }, { accessFlags := 2, nameIndex := 21, descriptorIndex := 22, attributes := #[] }, { accessFlags := 2, nameIndex := 25, descriptorIndex := 26, attributes := #[] }, { accessFlags := 26, nameIndex := 1116, descriptorIndex := 1117, attributes := #[] }, { accessFlags := 24, nameIndex := 40, descriptorIndex := 26, attributes := #[] }, { accessFlags := 26, nameIndex := 1101, descriptorIndex := 1102, attributes := #[] }, { accessFlags := 26, nameIndex := 1121, descriptorIndex := 1122, attributes := #[] }, { accessFlags := 25, nameIndex := 599, descriptorIndex := 600, attributes := #[] }, { accessFlags := 24, nameIndex := 1125, descriptorIndex := 18, attributes := #[] }, { accessFlags := 24, nameIndex := 1127, descriptorIndex := 18, attributes := #[] }])
  fields := #[{ name := "value", type := (.array .byte), accessFlags := 18, slot := 0, constantValue := 0 }, { name := "coder", type := .byte, accessFlags := 18, slot := 1, constantValue := 0 }, { name := "hash", type := .int, accessFlags := 2, slot := 2, constantValue := 0 }, { name := "hashIsZero", type := .boolean, accessFlags := 2, slot := 3, constantValue := 0 }, { name := "serialVersionUID", type := .long, accessFlags := 26, slot := 0, constantValue := 0 }, { name := "COMPACT_STRINGS", type := .boolean, accessFlags := 24, slot := 1, constantValue := 0 }, { name := "serialPersistentFields", type := (.array (.object "java/io/ObjectStreamField")), accessFlags := 26, slot := 2, constantValue := 0 }, { name := "REPL", type := .char, accessFlags := 26, slot := 3, constantValue := 0 }, { name := "CASE_INSENSITIVE_ORDER", type := (.object "java/util/Comparator"), accessFlags := 25, slot := 4, constantValue := 0 }, { name := "LATIN1", type := .byte, accessFlags := 24, slot := 5, constantValue := 0 }, { name := "UTF16", type := .byte, accessFlags := 24, slot := 6, constantValue := 0 }]
  methods := #[k7m0, k7m1, k7m2, k7m3, k7m4, k7m5, k7m6, k7m7]
  instanceTypes := #[(.array .byte), .byte, .int, .boolean]
  staticTypes := #[.long, .boolean, (.array (.object "java/io/ObjectStreamField")), .char, (.object "java/util/Comparator"), .byte, .byte]
  resolved := Array.replicate 1451 none
  statics := some 0 }

def pool8 : Array CpInfo := pool [(6, .class_ 8), (1, u "java/lang/Object"), (0, u "<init>"), (0, u "()V"), (0, .methodref 12 13), (0, .class_ 14), (0, .nameAndType 15 16), (0, u "java/lang/StringUTF16"), (0, u "newBytesLength"), (0, u "(I)I"), (3, .integer 1073741823), (23, .fieldref 12 45), (0, .nameAndType 46 47), (0, u "$assertionsDisabled"), (0, u "Z"), (11, .fieldref 12 60), (0, .nameAndType 61 62), (0, u "HI_BYTE_SHIFT"), (0, u "I"), (0, .fieldref 12 64), (0, .nameAndType 65 62), (0, u "LO_BYTE_SHIFT"), (5, .methodref 12 72), (0, .nameAndType 73 74), (0, u "getChar"), (0, u "([BI)C"), (0, .methodref 76 77), (0, .class_ 78), (0, .nameAndType 79 80), (0, u "java/lang/Character"), (0, u "isHighSurrogate"), (0, u "(C)Z"), (0, .methodref 76 82), (0, .nameAndType 83 80), (0, u "isLowSurrogate"), (0, .methodref 76 85), (0, .nameAndType 86 87), (0, u "toCodePoint"), (0, u "(CC)I"), (0, .methodref 12 89), (0, .nameAndType 90 91), (0, u "codePointAt"), (0, u "([BIIZ)I"), (15, .methodref 12 108), (0, .nameAndType 109 110), (0, u "newBytesFor"), (0, u "(I)[B"), (0, .methodref 12 112), (0, .nameAndType 113 114), (0, u "putChar"), (0, u "([BII)V"), (0, .methodref 12 116), (0, .nameAndType 117 118), (0, u "compress"), (0, u "([CI[BII)I"), (0, .methodref 12 120), (0, .nameAndType 121 122), (0, u "toBytes"), (0, u "([CII)[B"), (127, u "([BII)I"), (10, u "coderFromArrayLen"), (0, u "([BI)B"), (106, .class_ 371), (1, u "java/lang/StringUTF16$LinesSpliterator"), (58, u "MAX_LENGTH"), (196, .class_ 628), (0, u "java/lang/StringUTF16$CodePointsSpliterator"), (0, .class_ 630), (0, u "java/lang/StringUTF16$CharsSpliterator")] 4

def k8m0 : Method := { name := "<init>", desc := "()V", sig := { parameters := [], returnType := none }, accessFlags := 0, code := none }
def k8c1 : Code := { maxStack := 1, maxLocals := 1, code := jdk_52_method_2_code, exceptionTable := #[], attributes := #[] }
def k8m1 : Method := { name := "newBytesFor", desc := "(I)[B", sig := { parameters := [.int], returnType := some (.array .byte) }, accessFlags := 9, code := some k8c1 }
def k8c2 : Code := { maxStack := 4, maxLocals := 1, code := jdk_52_method_3_code, exceptionTable := #[], attributes := #[] }
def k8m2 : Method := { name := "newBytesLength", desc := "(I)I", sig := { parameters := [.int], returnType := some .int }, accessFlags := 9, code := some k8c2 }
def k8c3 : Code := { maxStack := 4, maxLocals := 3, code := jdk_52_method_4_code, exceptionTable := #[], attributes := #[] }
def k8m3 : Method := { name := "putChar", desc := "([BII)V", sig := { parameters := [(.array .byte), .int, .int], returnType := none }, accessFlags := 8, code := some k8c3 }
def k8c4 : Code := { maxStack := 3, maxLocals := 2, code := jdk_52_method_5_code, exceptionTable := #[], attributes := #[] }
def k8m4 : Method := { name := "getChar", desc := "([BI)C", sig := { parameters := [(.array .byte), .int], returnType := some .char }, accessFlags := 8, code := some k8c4 }
def k8c5 : Code := { maxStack := 2, maxLocals := 6, code := jdk_52_method_7_code, exceptionTable := #[], attributes := #[] }
def k8m5 : Method := { name := "codePointAt", desc := "([BIIZ)I", sig := { parameters := [(.array .byte), .int, .int, .boolean], returnType := some .int }, accessFlags := 10, code := some k8c5 }
def k8c6 : Code := { maxStack := 4, maxLocals := 3, code := jdk_52_method_8_code, exceptionTable := #[], attributes := #[] }
def k8m6 : Method := { name := "codePointAt", desc := "([BII)I", sig := { parameters := [(.array .byte), .int, .int], returnType := some .int }, accessFlags := 9, code := some k8c6 }
def k8c7 : Code := { maxStack := 4, maxLocals := 5, code := jdk_52_method_14_code, exceptionTable := #[], attributes := #[] }
def k8m7 : Method := { name := "toBytes", desc := "([CII)[B", sig := { parameters := [(.array .char), .int, .int], returnType := some (.array .byte) }, accessFlags := 9, code := some k8c7 }
def k8c8 : Code := { maxStack := 2, maxLocals := 2, code := jdk_52_method_15_code, exceptionTable := #[], attributes := #[] }
def k8m8 : Method := { name := "coderFromArrayLen", desc := "([BI)B", sig := { parameters := [(.array .byte), .int], returnType := some .byte }, accessFlags := 8, code := some k8c8 }
def k8c9 : Code := { maxStack := 5, maxLocals := 6, code := jdk_52_method_16_code, exceptionTable := #[], attributes := #[] }
def k8m9 : Method := { name := "compress", desc := "([CII)[B", sig := { parameters := [(.array .char), .int, .int], returnType := some (.array .byte) }, accessFlags := 9, code := some k8c9 }
def k8c10 : Code := { maxStack := 3, maxLocals := 7, code := jdk_52_method_21_code, exceptionTable := #[], attributes := #[] }
def k8m10 : Method := { name := "compress", desc := "([CI[BII)I", sig := { parameters := [(.array .char), .int, (.array .byte), .int, .int], returnType := some .int }, accessFlags := 9, code := some k8c10 }
/-- java/lang/StringUTF16 -/
def k8 : Class := { plain "java/lang/StringUTF16" (some 0) with
  accessFlags := 48
  interfaces := #[]
  cf := some (fileOf pool8 12 #[.nestMembers #[627, 629, 369]] #[{ accessFlags := 0, nameIndex := 9, descriptorIndex := 10, attributes := #[] }, { accessFlags := 9, nameIndex := 109, descriptorIndex := 110, attributes := #[] }, { accessFlags := 9, nameIndex := 15, descriptorIndex := 16, attributes := #[] }, { accessFlags := 8, nameIndex := 113, descriptorIndex := 114, attributes := #[] }, { accessFlags := 8, nameIndex := 73, descriptorIndex := 74, attributes := #[] }, { accessFlags := 10, nameIndex := 90, descriptorIndex := 91, attributes := #[] }, { accessFlags := 9, nameIndex := 90, descriptorIndex := 250, attributes := #[] }, { accessFlags := 9, nameIndex := 121, descriptorIndex := 122, attributes := #[] }, { accessFlags := 8, nameIndex := 261, descriptorIndex := 262, attributes := #[] }, { accessFlags := 9, nameIndex := 117, descriptorIndex := 122, attributes := #[] }, { accessFlags := 9, nameIndex := 117, descriptorIndex := 118, attributes := #[] }] 48 6 #[] #[{ accessFlags := 26, nameIndex := 61, descriptorIndex := 62, attributes := #[] }, { accessFlags := 26, nameIndex := 65, descriptorIndex := 62, attributes := #[] }, { accessFlags := 24, nameIndex := 430, descriptorIndex := 62, attributes := #[] }, { accessFlags := 4120, nameIndex := 46, descriptorIndex := 47, attributes := #[] }])
  fields := #[{ name := "HI_BYTE_SHIFT", type := .int, accessFlags := 26, slot := 0, constantValue := 0 }, { name := "LO_BYTE_SHIFT", type := .int, accessFlags := 26, slot := 1, constantValue := 0 }, { name := "MAX_LENGTH", type := .int, accessFlags := 24, slot := 2, constantValue := 0 }, { name := "$assertionsDisabled", type := .boolean, accessFlags := 4120, slot := 3, constantValue := 0 }]
  methods := #[k8m0, k8m1, k8m2, k8m3, k8m4, k8m5, k8m6, k8m7, k8m8, k8m9, k8m10]
  instanceTypes := #[]
  staticTypes := #[.int, .int, .int, .boolean]
  resolved := Array.replicate 635 none
  statics := some 1 }

def pool9 : Array CpInfo := pool [(2, .class_ 4), (1, u "com/example/sluice/sluice/Message"), (3, .class_ 10), (1, u "java/lang/Object"), (8, .class_ 21), (1, u "java/lang/String"), (4, u "id"), (0, u "Ljava/lang/String;"), (2, u "body"), (2, u "attributes"), (0, u "Lcom/example/sluice/sluice/MessageAttributes;"), (2, u "sentTimestamp"), (0, u "J"), (2, u "messageGroupId"), (2, u "messageDeduplicationId"), (2, u "sequenceNumber"), (22, u "md5OfBody"), (4, u "sizeInBytes"), (0, u "()I"), (2, u "I"), (0, .methodref 19 81), (0, .nameAndType 82 76), (0, u "length"), (0, .methodref 19 84), (0, .nameAndType 85 86), (0, u "codePointAt"), (0, u "(I)I"), (0, .integer 55295), (0, .integer 57344), (0, .integer 65533), (0, .integer 65536), (0, .integer 1114111), (0, .methodref 93 94), (0, .class_ 95), (0, .nameAndType 96 86), (0, u "java/lang/Character"), (0, u "charCount"), (21, u "disallowedCharacter"), (0, u "(Ljava/lang/String;)I")] 3

def k9c0 : Code := { maxStack := 2, maxLocals := 4, code := prog_5_method_12_code, exceptionTable := #[], attributes := #[] }
def k9m0 : Method := { name := "disallowedCharacter", desc := "(Ljava/lang/String;)I", sig := { parameters := [(.object "java/lang/String")], returnType := some .int }, accessFlags := 8, code := some k9c0 }
/-- com/example/sluice/sluice/Message -/
def k9 : Class := { plain "com/example/sluice/sluice/Message" (some 0) with
  accessFlags := 49
  interfaces := #[]
  cf := some (fileOf pool9 2 #[] #[{ accessFlags := 8, nameIndex := 118, descriptorIndex := 119, attributes := #[] }] 49 8 #[] #[{ accessFlags := 18, nameIndex := 26, descriptorIndex := 27, attributes := #[] }, { accessFlags := 18, nameIndex := 30, descriptorIndex := 27, attributes := #[] }, { accessFlags := 18, nameIndex := 33, descriptorIndex := 34, attributes := #[] }, { accessFlags := 18, nameIndex := 37, descriptorIndex := 38, attributes := #[] }, { accessFlags := 18, nameIndex := 41, descriptorIndex := 27, attributes := #[] }, { accessFlags := 18, nameIndex := 44, descriptorIndex := 27, attributes := #[] }, { accessFlags := 18, nameIndex := 47, descriptorIndex := 27, attributes := #[] }, { accessFlags := 18, nameIndex := 70, descriptorIndex := 27, attributes := #[] }, { accessFlags := 18, nameIndex := 75, descriptorIndex := 79, attributes := #[] }])
  fields := #[{ name := "id", type := (.object "java/lang/String"), accessFlags := 18, slot := 0, constantValue := 0 }, { name := "body", type := (.object "java/lang/String"), accessFlags := 18, slot := 1, constantValue := 0 }, { name := "attributes", type := (.object "com/example/sluice/sluice/MessageAttributes"), accessFlags := 18, slot := 2, constantValue := 0 }, { name := "sentTimestamp", type := .long, accessFlags := 18, slot := 3, constantValue := 0 }, { name := "messageGroupId", type := (.object "java/lang/String"), accessFlags := 18, slot := 4, constantValue := 0 }, { name := "messageDeduplicationId", type := (.object "java/lang/String"), accessFlags := 18, slot := 5, constantValue := 0 }, { name := "sequenceNumber", type := (.object "java/lang/String"), accessFlags := 18, slot := 6, constantValue := 0 }, { name := "md5OfBody", type := (.object "java/lang/String"), accessFlags := 18, slot := 7, constantValue := 0 }, { name := "sizeInBytes", type := .int, accessFlags := 18, slot := 8, constantValue := 0 }]
  methods := #[k9m0]
  instanceTypes := #[(.object "java/lang/String"), (.object "java/lang/String"), (.object "com/example/sluice/sluice/MessageAttributes"), .long, (.object "java/lang/String"), (.object "java/lang/String"), (.object "java/lang/String"), (.object "java/lang/String"), .int]
  staticTypes := #[]
  resolved := Array.replicate 123 none
  statics := none }

def pool10 : Array CpInfo := pool [(2, .class_ 4), (1, u "java/lang/Object"), (0, u "<init>"), (0, u "()V"), (17, .class_ 26), (1, u "jdk/internal/util/Preconditions"), (6, u "checkIndex"), (21, .class_ 56), (0, u "jdk/internal/util/Preconditions$4"), (57, .class_ 115), (0, u "jdk/internal/util/Preconditions$1"), (7, u "SIOOBE_FORMATTER"), (0, u "Ljava/util/function/BiFunction;"), (0, .class_ 126), (0, u "jdk/internal/util/Preconditions$2"), (3, u "AIOOBE_FORMATTER"), (0, .class_ 132), (0, u "jdk/internal/util/Preconditions$3"), (3, u "IOOBE_FORMATTER"), (41, u "(IILjava/util/function/BiFunction;)I")] 15

def k10m0 : Method := { name := "<init>", desc := "()V", sig := { parameters := [], returnType := none }, accessFlags := 1, code := none }
def k10c1 : Code := { maxStack := 3, maxLocals := 3, code := jdk_41_method_11_code, exceptionTable := #[], attributes := #[] }
def k10m1 : Method := { name := "checkIndex", desc := "(IILjava/util/function/BiFunction;)I", sig := { parameters := [.int, .int, (.object "java/util/function/BiFunction")], returnType := some .int }, accessFlags := 9, code := some k10c1 }
/-- jdk/internal/util/Preconditions -/
def k10 : Class := { plain "jdk/internal/util/Preconditions" (some 0) with
  accessFlags := 33
  interfaces := #[]
  cf := some (fileOf pool10 24 #[.nestMembers #[55, 131, 125, 114]] #[{ accessFlags := 1, nameIndex := 5, descriptorIndex := 6, attributes := #[] }, { accessFlags := 9, nameIndex := 33, descriptorIndex := 178, attributes := #[] }] 33 2 #[] #[{ accessFlags := 25, nameIndex := 123, descriptorIndex := 124, attributes := #[] }, { accessFlags := 25, nameIndex := 130, descriptorIndex := 124, attributes := #[] }, { accessFlags := 25, nameIndex := 136, descriptorIndex := 124, attributes := #[] }])
  fields := #[{ name := "SIOOBE_FORMATTER", type := (.object "java/util/function/BiFunction"), accessFlags := 25, slot := 0, constantValue := 0 }, { name := "AIOOBE_FORMATTER", type := (.object "java/util/function/BiFunction"), accessFlags := 25, slot := 1, constantValue := 0 }, { name := "IOOBE_FORMATTER", type := (.object "java/util/function/BiFunction"), accessFlags := 25, slot := 2, constantValue := 0 }]
  methods := #[k10m0, k10m1]
  instanceTypes := #[]
  staticTypes := #[(.object "java/util/function/BiFunction"), (.object "java/util/function/BiFunction"), (.object "java/util/function/BiFunction")]
  resolved := Array.replicate 194 none
  statics := some 2 }

def pool11 : Array CpInfo := pool [(1, .class_ 2), (0, u "java/lang/Character"), (18, u "value"), (0, u "C"), (19, .class_ 44), (1, u "java/lang/Object"), (3, .class_ 50), (1, u "java/lang/Character$CharacterCache"), (22, .integer 65536), (1, .integer 55296), (0, .integer 56320), (0, .integer 57344), (2, u "isHighSurrogate"), (0, u "(C)Z"), (2, u "isLowSurrogate"), (0, .integer 4238353408), (12, u "toCodePoint"), (0, u "(CC)I"), (74, u "(I)I"), (109, u "$assertionsDisabled"), (0, u "Z"), (21, .class_ 309), (1, u "java/lang/Character$UnicodeBlock"), (73, u "TYPE"), (0, u "Ljava/lang/Class;"), (0, .class_ 386), (0, u "java/io/Serializable"), (0, .class_ 388), (0, u "java/lang/Comparable"), (0, .class_ 390), (0, u "java/lang/constant/Constable"), (0, u "MIN_RADIX"), (0, u "I"), (2, u "MAX_RADIX"), (1, u "MIN_VALUE"), (1, u "MAX_VALUE"), (3, u "UNASSIGNED"), (0, u "B"), (0, u "UPPERCASE_LETTER"), (1, u "LOWERCASE_LETTER"), (0, u "TITLECASE_LETTER"), (1, u "MODIFIER_LETTER"), (1, u "OTHER_LETTER"), (1, u "NON_SPACING_MARK"), (1, u "ENCLOSING_MARK"), (1, u "COMBINING_SPACING_MARK"), (1, u "DECIMAL_DIGIT_NUMBER"), (1, u "LETTER_NUMBER"), (1, u "OTHER_NUMBER"), (1, u "SPACE_SEPARATOR"), (1, u "LINE_SEPARATOR"), (1, u "PARAGRAPH_SEPARATOR"), (1, u "CONTROL"), (1, u "FORMAT"), (1, u "PRIVATE_USE"), (1, u "SURROGATE"), (1, u "DASH_PUNCTUATION"), (1, u "START_PUNCTUATION"), (1, u "END_PUNCTUATION"), (1, u "CONNECTOR_PUNCTUATION"), (1, u "OTHER_PUNCTUATION"), (1, u "MATH_SYMBOL"), (1, u "CURRENCY_SYMBOL"), (1, u "MODIFIER_SYMBOL"), (1, u "OTHER_SYMBOL"), (1, u "INITIAL_QUOTE_PUNCTUATION"), (1, u "FINAL_QUOTE_PUNCTUATION"), (1, u "ERROR"), (1, u "DIRECTIONALITY_UNDEFINED"), (0, u "DIRECTIONALITY_LEFT_TO_RIGHT"), (0, u "DIRECTIONALITY_RIGHT_TO_LEFT"), (0, u "DIRECTIONALITY_RIGHT_TO_LEFT_ARABIC"), (0, u "DIRECTIONALITY_EUROPEAN_NUMBER"), (0, u "DIRECTIONALITY_EUROPEAN_NUMBER_SEPARATOR"), (0, u "DIRECTIONALITY_EUROPEAN_NUMBER_TERMINATOR"), (0, u "DIRECTIONALITY_ARABIC_NUMBER"), (0, u "DIRECTIONALITY_COMMON_NUMBER_SEPARATOR"), (0, u "DIRECTIONALITY_NONSPACING_MARK"), (0, u "DIRECTIONALITY_BOUNDARY_NEUTRAL"), (0, u "DIRECTIONALITY_PARAGRAPH_SEPARATOR"), (0, u "DIRECTIONALITY_SEGMENT_SEPARATOR"), (0, u "DIRECTIONALITY_WHITESPACE"), (0, u "DIRECTIONALITY_OTHER_NEUTRALS"), (0, u "DIRECTIONALITY_LEFT_TO_RIGHT_EMBEDDING"), (0, u "DIRECTIONALITY_LEFT_TO_RIGHT_OVERRIDE"), (0, u "DIRECTIONALITY_RIGHT_TO_LEFT_EMBEDDING"), (0, u "DIRECTIONALITY_RIGHT_TO_LEFT_OVERRIDE"), (1, u "DIRECTIONALITY_POP_DIRECTIONAL_FORMAT"), (0, u "DIRECTIONALITY_LEFT_TO_RIGHT_ISOLATE"), (0, u "DIRECTIONALITY_RIGHT_TO_LEFT_ISOLATE"), (0, u "DIRECTIONALITY_FIRST_STRONG_ISOLATE"), (0, u "DIRECTIONALITY_POP_DIRECTIONAL_ISOLATE"), (0, u "MIN_HIGH_SURROGATE"), (0, u "MAX_HIGH_SURROGATE"), (1, u "MIN_LOW_SURROGATE"), (0, u "MAX_LOW_SURROGATE"), (1, u "MIN_SURROGATE"), (0, u "MAX_SURROGATE"), (0, u "MIN_SUPPLEMENTARY_CODE_POINT"), (0, u "MIN_CODE_POINT"), (0, u "MAX_CODE_POINT"), (1, u "serialVersionUID"), (0, u "J"), (2, u "SIZE"), (0, u "BYTES"), (29, u "charCount"), (58, .class_ 596), (0, u "java/lang/Character$UnicodeScript"), (0, .class_ 598), (0, u "java/lang/Character$Subset")] 5

def k11c0 : Code := { maxStack := 2, maxLocals := 1, code := jdk_89_method_14_code, exceptionTable := #[], attributes := #[] }
def k11m0 : Method := { name := "isHighSurrogate", desc := "(C)Z", sig := { parameters := [.char], returnType := some .boolean }, accessFlags := 9, code := some k11c0 }
def k11c1 : Code := { maxStack := 2, maxLocals := 1, code := jdk_89_method_15_code, exceptionTable := #[], attributes := #[] }
def k11m1 : Method := { name := "isLowSurrogate", desc := "(C)Z", sig := { parameters := [.char], returnType := some .boolean }, accessFlags := 9, code := some k11c1 }
def k11c2 : Code := { maxStack := 2, maxLocals := 1, code := jdk_89_method_18_code, exceptionTable := #[], attributes := #[] }
def k11m2 : Method := { name := "charCount", desc := "(I)I", sig := { parameters := [.int], returnType := some .int }, accessFlags := 9, code := some k11c2 }
def k11c3 : Code := { maxStack := 2, maxLocals := 2, code := jdk_89_method_19_code, exceptionTable := #[], attributes := #[] }
def k11m3 : Method := { name := "toCodePoint", desc := "(CC)I", sig := { parameters := [.char, .char], returnType := some .int }, accessFlags := 9, code := some k11c3 }
/-- java/lang/Character -/
def k11 : Class := { plain "java/lang/Character" (some 0) with
  accessFlags := 49
  interfaces := #[2, 3, 5]
  cf := some (fileOf pool11 1 #[.nestMembers #[48, 595, 307, 597]] #[{ accessFlags := 9, nameIndex := 80, descriptorIndex := 81, attributes := #[] }, { accessFlags := 9, nameIndex := 84, descriptorIndex := 81, attributes := #[] }, { accessFlags := 9, nameIndex := 536, descriptorIndex := 174, attributes := #[] }, { accessFlags := 9, nameIndex := 98, descriptorIndex := 99, attributes := #[] }] 49 42 #[385, 387, 389] #[{ accessFlags := 25, nameIndex := 391, descriptorIndex := 392, attributes := #[] }, { accessFlags := 25, nameIndex := 395, descriptorIndex := 392, attributes := #[] }, { accessFlags := 25, nameIndex := 397, descriptorIndex := 22, attributes := #[] }, { accessFlags := 25, nameIndex := 399, descriptorIndex := 22, attributes := #[] }, { accessFlags := 25, nameIndex := 383, descriptorIndex := 384, attributes := #[] }, { accessFlags := 25, nameIndex := 403, descriptorIndex := 404, attributes := #[] }, { accessFlags := 25, nameIndex := 405, descriptorIndex := 404, attributes := #[] }, { accessFlags := 25, nameIndex := 407, descriptorIndex := 404, attributes := #[] }, { accessFlags := 25, nameIndex := 408, descriptorIndex := 404, attributes := #[] }, { accessFlags := 25, nameIndex := 410, descriptorIndex := 404, attributes := #[] }, { accessFlags := 25, nameIndex := 412, descriptorIndex := 404, attributes := #[] }, { accessFlags := 25, nameIndex := 414, descriptorIndex := 404, attributes := #[] }, { accessFlags := 25, nameIndex := 416, descriptorIndex := 404, attributes := #[] }, { accessFlags := 25, nameIndex := 418, descriptorIndex := 404, attributes := #[] }, { accessFlags := 25, nameIndex := 420, descriptorIndex := 404, attributes := #[] }, { accessFlags := 25, nameIndex := 422, descriptorIndex := 404, attributes := #[] }, { accessFlags := 25, nameIndex := 424, descriptorIndex := 404, attributes := #[] }, { accessFlags := 25, nameIndex := 426, descriptorIndex := 404, attributes := #[] }, { accessFlags := 25, nameIndex := 428, descriptorIndex := 404, attributes := #[] }, { accessFlags := 25, nameIndex := 430, descriptorIndex := 404, attributes := #[] }, { accessFlags := 25, nameIndex := 432, descriptorIndex := 404, attributes := #[] }, { accessFlags := 25, nameIndex := 434, descriptorIndex := 404, attributes := #[] }, { accessFlags := 25, nameIndex := 436, descriptorIndex := 404, attributes := #[] }, { accessFlags := 25, nameIndex := 438, descriptorIndex := 404, attributes := #[] }, { accessFlags := 25, nameIndex := 440, descriptorIndex := 404, attributes := #[] }, { accessFlags := 25, nameIndex := 442, descriptorIndex := 404, attributes := #[] }, { accessFlags := 25, nameIndex := 444, descriptorIndex := 404, attributes := #[] }, { accessFlags := 25, nameIndex := 446, descriptorIndex := 404, attributes := #[] }, { accessFlags := 25, nameIndex := 448, descriptorIndex := 404, attributes := #[] }, { accessFlags := 25, nameIndex := 450, descriptorIndex := 404, attributes := #[] }, { accessFlags := 25, nameIndex := 452, descriptorIndex := 404, attributes := #[] }, { accessFlags := 25, nameIndex := 454, descriptorIndex := 404, attributes := #[] }, { accessFlags := 25, nameIndex := 456, descriptorIndex := 404, attributes := #[] }, { accessFlags := 25, nameIndex := 458, descriptorIndex := 404, attributes := #[] }, { accessFlags := 25, nameIndex := 460, descriptorIndex := 404, attributes := #[] }, { accessFlags := 24, nameIndex := 462, descriptorIndex := 392, attributes := #[] }, { accessFlags := 25, nameIndex := 464, descriptorIndex := 404, attributes := #[] }, { accessFlags := 25, nameIndex := 465, descriptorIndex := 404, attributes := #[] }, { accessFlags := 25, nameIndex := 466, descriptorIndex := 404, attributes := #[] }, { accessFlags := 25, nameIndex := 467, descriptorIndex := 404, attributes := #[] }, { accessFlags := 25, nameIndex := 468, descriptorIndex := 404, attributes := #[] }, { accessFlags := 25, nameIndex := 469, descriptorIndex := 404, attributes := #[] }, { accessFlags := 25, nameIndex := 470, descriptorIndex := 404, attributes := #[] }, { accessFlags := 25, nameIndex := 471, descriptorIndex := 404, attributes := #[] }, { accessFlags := 25, nameIndex := 472, descriptorIndex := 404, attributes := #[] }, { accessFlags := 25, nameIndex := 473, descriptorIndex := 404, attributes := #[] }, { accessFlags := 25, nameIndex := 474, descriptorIndex := 404, attributes := #[] }, { accessFlags := 25, nameIndex := 475, descriptorIndex := 404, attributes := #[] }, { accessFlags := 25, nameIndex := 476, descriptorIndex := 404, attributes := #[] }, { accessFlags := 25, nameIndex := 477, descriptorIndex := 404, attributes := #[] }, { accessFlags := 25, nameIndex := 478, descriptorIndex := 404, attributes := #[] }, { accessFlags := 25, nameIndex := 479, descriptorIndex := 404, attributes := #[] }, { accessFlags := 25, nameIndex := 480, descriptorIndex := 404, attributes := #[] }, { accessFlags := 25, nameIndex := 481, descriptorIndex := 404, attributes := #[] }, { accessFlags := 25, nameIndex := 482, descriptorIndex := 404, attributes := #[] }, { accessFlags := 25, nameIndex := 484, descriptorIndex := 404, attributes := #[] }, { accessFlags := 25, nameIndex := 485, descriptorIndex := 404, attributes := #[] }, { accessFlags := 25, nameIndex := 486, descriptorIndex := 404, attributes := #[] }, { accessFlags := 25, nameIndex := 487, descriptorIndex := 404, attributes := #[] }, { accessFlags := 25, nameIndex := 488, descriptorIndex := 404, attributes := #[] }, { accessFlags := 25, nameIndex := 489, descriptorIndex := 22, attributes := #[] }, { accessFlags := 25, nameIndex := 490, descriptorIndex := 22, attributes := #[] }, { accessFlags := 25, nameIndex := 492, descriptorIndex := 22, attributes := #[] }, { accessFlags := 25, nameIndex := 493, descriptorIndex := 22, attributes := #[] }, { accessFlags := 25, nameIndex := 495, descriptorIndex := 22, attributes := #[] }, { accessFlags := 25, nameIndex := 496, descriptorIndex := 22, attributes := #[] }, { accessFlags := 25, nameIndex := 497, descriptorIndex := 392, attributes := #[] }, { accessFlags := 25, nameIndex := 498, descriptorIndex := 392, attributes := #[] }, { accessFlags := 25, nameIndex := 499, descriptorIndex := 392, attributes := #[] }, { accessFlags := 18, nameIndex := 21, descriptorIndex := 22, attributes := #[] }, { accessFlags := 26, nameIndex := 501, descriptorIndex := 502, attributes := #[] }, { accessFlags := 25, nameIndex := 505, descriptorIndex := 392, attributes := #[] }, { accessFlags := 25, nameIndex := 506, descriptorIndex := 392, attributes := #[] }, { accessFlags := 4120, nameIndex := 284, descriptorIndex := 285, attributes := #[] }])
  fields := #[{ name := "MIN_RADIX", type := .int, accessFlags := 25, slot := 0, constantValue := 0 }, { name := "MAX_RADIX", type := .int, accessFlags := 25, slot := 1, constantValue := 0 }, { name := "MIN_VALUE", type := .char, accessFlags := 25, slot := 2, constantValue := 0 }, { name := "MAX_VALUE", type := .char, accessFlags := 25, slot := 3, constantValue := 0 }, { name := "TYPE", type := (.object "java/lang/Class"), accessFlags := 25, slot := 4, constantValue := 0 }, { name := "UNASSIGNED", type := .byte, accessFlags := 25, slot := 5, constantValue := 0 }, { name := "UPPERCASE_LETTER", type := .byte, accessFlags := 25, slot := 6, constantValue := 0 }, { name := "LOWERCASE_LETTER", type := .byte, accessFlags := 25, slot := 7, constantValue := 0 }, { name := "TITLECASE_LETTER", type := .byte, accessFlags := 25, slot := 8, constantValue := 0 }, { name := "MODIFIER_LETTER", type := .byte, accessFlags := 25, slot := 9, constantValue := 0 }, { name := "OTHER_LETTER", type := .byte, accessFlags := 25, slot := 10, constantValue := 0 }, { name := "NON_SPACING_MARK", type := .byte, accessFlags := 25, slot := 11, constantValue := 0 }, { name := "ENCLOSING_MARK", type := .byte, accessFlags := 25, slot := 12, constantValue := 0 }, { name := "COMBINING_SPACING_MARK", type := .byte, accessFlags := 25, slot := 13, constantValue := 0 }, { name := "DECIMAL_DIGIT_NUMBER", type := .byte, accessFlags := 25, slot := 14, constantValue := 0 }, { name := "LETTER_NUMBER", type := .byte, accessFlags := 25, slot := 15, constantValue := 0 }, { name := "OTHER_NUMBER", type := .byte, accessFlags := 25, slot := 16, constantValue := 0 }, { name := "SPACE_SEPARATOR", type := .byte, accessFlags := 25, slot := 17, constantValue := 0 }, { name := "LINE_SEPARATOR", type := .byte, accessFlags := 25, slot := 18, constantValue := 0 }, { name := "PARAGRAPH_SEPARATOR", type := .byte, accessFlags := 25, slot := 19, constantValue := 0 }, { name := "CONTROL", type := .byte, accessFlags := 25, slot := 20, constantValue := 0 }, { name := "FORMAT", type := .byte, accessFlags := 25, slot := 21, constantValue := 0 }, { name := "PRIVATE_USE", type := .byte, accessFlags := 25, slot := 22, constantValue := 0 }, { name := "SURROGATE", type := .byte, accessFlags := 25, slot := 23, constantValue := 0 }, { name := "DASH_PUNCTUATION", type := .byte, accessFlags := 25, slot := 24, constantValue := 0 }, { name := "START_PUNCTUATION", type := .byte, accessFlags := 25, slot := 25, constantValue := 0 }, { name := "END_PUNCTUATION", type := .byte, accessFlags := 25, slot := 26, constantValue := 0 }, { name := "CONNECTOR_PUNCTUATION", type := .byte, accessFlags := 25, slot := 27, constantValue := 0 }, { name := "OTHER_PUNCTUATION", type := .byte, accessFlags := 25, slot := 28, constantValue := 0 }, { name := "MATH_SYMBOL", type := .byte, accessFlags := 25, slot := 29, constantValue := 0 }, { name := "CURRENCY_SYMBOL", type := .byte, accessFlags := 25, slot := 30, constantValue := 0 }, { name := "MODIFIER_SYMBOL", type := .byte, accessFlags := 25, slot := 31, constantValue := 0 }, { name := "OTHER_SYMBOL", type := .byte, accessFlags := 25, slot := 32, constantValue := 0 }, { name := "INITIAL_QUOTE_PUNCTUATION", type := .byte, accessFlags := 25, slot := 33, constantValue := 0 }, { name := "FINAL_QUOTE_PUNCTUATION", type := .byte, accessFlags := 25, slot := 34, constantValue := 0 }, { name := "ERROR", type := .int, accessFlags := 24, slot := 35, constantValue := 0 }, { name := "DIRECTIONALITY_UNDEFINED", type := .byte, accessFlags := 25, slot := 36, constantValue := 0 }, { name := "DIRECTIONALITY_LEFT_TO_RIGHT", type := .byte, accessFlags := 25, slot := 37, constantValue := 0 }, { name := "DIRECTIONALITY_RIGHT_TO_LEFT", type := .byte, accessFlags := 25, slot := 38, constantValue := 0 }, { name := "DIRECTIONALITY_RIGHT_TO_LEFT_ARABIC", type := .byte, accessFlags := 25, slot := 39, constantValue := 0 }, { name := "DIRECTIONALITY_EUROPEAN_NUMBER", type := .byte, accessFlags := 25, slot := 40, constantValue := 0 }, { name := "DIRECTIONALITY_EUROPEAN_NUMBER_SEPARATOR", type := .byte, accessFlags := 25, slot := 41, constantValue := 0 }, { name := "DIRECTIONALITY_EUROPEAN_NUMBER_TERMINATOR", type := .byte, accessFlags := 25, slot := 42, constantValue := 0 }, { name := "DIRECTIONALITY_ARABIC_NUMBER", type := .byte, accessFlags := 25, slot := 43, constantValue := 0 }, { name := "DIRECTIONALITY_COMMON_NUMBER_SEPARATOR", type := .byte, accessFlags := 25, slot := 44, constantValue := 0 }, { name := "DIRECTIONALITY_NONSPACING_MARK", type := .byte, accessFlags := 25, slot := 45, constantValue := 0 }, { name := "DIRECTIONALITY_BOUNDARY_NEUTRAL", type := .byte, accessFlags := 25, slot := 46, constantValue := 0 }, { name := "DIRECTIONALITY_PARAGRAPH_SEPARATOR", type := .byte, accessFlags := 25, slot := 47, constantValue := 0 }, { name := "DIRECTIONALITY_SEGMENT_SEPARATOR", type := .byte, accessFlags := 25, slot := 48, constantValue := 0 }, { name := "DIRECTIONALITY_WHITESPACE", type := .byte, accessFlags := 25, slot := 49, constantValue := 0 }, { name := "DIRECTIONALITY_OTHER_NEUTRALS", type := .byte, accessFlags := 25, slot := 50, constantValue := 0 }, { name := "DIRECTIONALITY_LEFT_TO_RIGHT_EMBEDDING", type := .byte, accessFlags := 25, slot := 51, constantValue := 0 }, { name := "DIRECTIONALITY_LEFT_TO_RIGHT_OVERRIDE", type := .byte, accessFlags := 25, slot := 52, constantValue := 0 }, { name := "DIRECTIONALITY_RIGHT_TO_LEFT_EMBEDDING", type := .byte, accessFlags := 25, slot := 53, constantValue := 0 }, { name := "DIRECTIONALITY_RIGHT_TO_LEFT_OVERRIDE", type := .byte, accessFlags := 25, slot := 54, constantValue := 0 }, { name := "DIRECTIONALITY_POP_DIRECTIONAL_FORMAT", type := .byte, accessFlags := 25, slot := 55, constantValue := 0 }, { name := "DIRECTIONALITY_LEFT_TO_RIGHT_ISOLATE", type := .byte, accessFlags := 25, slot := 56, constantValue := 0 }, { name := "DIRECTIONALITY_RIGHT_TO_LEFT_ISOLATE", type := .byte, accessFlags := 25, slot := 57, constantValue := 0 }, { name := "DIRECTIONALITY_FIRST_STRONG_ISOLATE", type := .byte, accessFlags := 25, slot := 58, constantValue := 0 }, { name := "DIRECTIONALITY_POP_DIRECTIONAL_ISOLATE", type := .byte, accessFlags := 25, slot := 59, constantValue := 0 }, { name := "MIN_HIGH_SURROGATE", type := .char, accessFlags := 25, slot := 60, constantValue := 0 }, { name := "MAX_HIGH_SURROGATE", type := .char, accessFlags := 25, slot := 61, constantValue := 0 }, { name := "MIN_LOW_SURROGATE", type := .char, accessFlags := 25, slot := 62, constantValue := 0 }, { name := "MAX_LOW_SURROGATE", type := .char, accessFlags := 25, slot := 63, constantValue := 0 }, { name := "MIN_SURROGATE", type := .char, accessFlags := 25, slot := 64, constantValue := 0 }, { name := "MAX_SURROGATE", type := .char, accessFlags := 25, slot := 65, constantValue := 0 }, { name := "MIN_SUPPLEMENTARY_CODE_POINT", type := .int, accessFlags := 25, slot := 66, constantValue := 0 }, { name := "MIN_CODE_POINT", type := .int, accessFlags := 25, slot := 67, constantValue := 0 }, { name := "MAX_CODE_POINT", type := .int, accessFlags := 25, slot := 68, constantValue := 0 }, { name := "value", type := .char, accessFlags := 18, slot := 0, constantValue := 0 }, { name := "serialVersionUID", type := .long, accessFlags := 26, slot := 69, constantValue := 0 }, { name := "SIZE", type := .int, accessFlags := 25, slot := 70, constantValue := 0 }, { name := "BYTES", type := .int, accessFlags := 25, slot := 71, constantValue := 0 }, { name := "$assertionsDisabled", type := .boolean, accessFlags := 4120, slot := 72, constantValue := 0 }]
  methods := #[k11m0, k11m1, k11m2, k11m3]
  instanceTypes := #[.char]
  staticTypes := #[.int, .int, .char, .char, (.object "java/lang/Class"), .byte, .byte, .byte, .byte, .byte, .byte, .byte, .byte, .byte, .byte, .byte, .byte, .byte, .byte, .byte, .byte, .byte, .byte, .byte, .byte, .byte, .byte, .byte, .byte, .byte, .byte, .byte, .byte, .byte, .byte, .int, .byte, .byte, .byte, .byte, .byte, .byte, .byte, .byte, .byte, .byte, .byte, .byte, .byte, .byte, .byte, .byte, .byte, .byte, .byte, .byte, .byte, .byte, .byte, .byte, .char, .char, .char, .char, .char, .char, .int, .int, .int, .long, .int, .int, .boolean]
  resolved := Array.replicate 604 none
  statics := none }

def pool12 : Array CpInfo := pool [(4, .class_ 6), (1, u "java/lang/Object"), (0, u "<init>"), (0, u "()V"), (5, .class_ 16), (1, u "java/lang/StringLatin1"), (104, u "$assertionsDisabled"), (0, u "Z"), (98, .class_ 223), (1, u "java/lang/StringLatin1$LinesSpliterator"), (166, .class_ 391), (0, u "java/lang/StringLatin1$CharsSpliterator")] 3

def k12m0 : Method := { name := "<init>", desc := "()V", sig := { parameters := [], returnType := none }, accessFlags := 0, code := none }
/-- java/lang/StringLatin1 -/
def k12 : Class := { plain "java/lang/StringLatin1" (some 0) with
  accessFlags := 48
  interfaces := #[]
  cf := some (fileOf pool12 14 #[.nestMembers #[390, 221]] #[{ accessFlags := 0, nameIndex := 7, descriptorIndex := 8, attributes := #[] }] 48 4 #[] #[{ accessFlags := 4120, nameIndex := 121, descriptorIndex := 122, attributes := #[] }])
  fields := #[{ name := "$assertionsDisabled", type := .boolean, accessFlags := 4120, slot := 0, constantValue := 0 }]
  methods := #[k12m0]
  instanceTypes := #[]
  staticTypes := #[.boolean]
  resolved := Array.replicate 395 none
  statics := none }

def pool13 : Array CpInfo := pool [(9, u "<init>"), (6, .class_ 18), (1, u "java/lang/Object"), (0, u "()V"), (1, .class_ 23), (1, u "jdk/internal/util/ArraysSupport"), (0, u "LOG2_ARRAY_LONG_INDEX_SCALE"), (0, u "I"), (2, u "U"), (0, u "Ljdk/internal/misc/Unsafe;"), (8, u "BIG_ENDIAN"), (0, u "Z"), (8, u "LOG2_BYTE_BIT_SIZE"), (4, u "LOG2_ARRAY_INT_INDEX_SCALE"), (54, u "JLA"), (0, u "Ljdk/internal/access/JavaLangAccess;"), (11, u "LOG2_ARRAY_BOOLEAN_INDEX_SCALE"), (9, u "LOG2_ARRAY_BYTE_INDEX_SCALE"), (5, u "LOG2_ARRAY_CHAR_INDEX_SCALE"), (5, u "LOG2_ARRAY_SHORT_INDEX_SCALE"), (18, u "LOG2_ARRAY_FLOAT_INDEX_SCALE"), (24, u "LOG2_ARRAY_DOUBLE_INDEX_SCALE"), (89, u "T_BOOLEAN"), (2, u "T_CHAR"), (1, u "T_FLOAT"), (1, u "T_DOUBLE"), (1, u "T_BYTE"), (1, u "T_SHORT"), (1, u "T_INT"), (1, u "T_LONG"), (1, u "SOFT_MAX_ARRAY_LENGTH")] 83

def k13m0 : Method := { name := "<init>", desc := "()V", sig := { parameters := [], returnType := none }, accessFlags := 2, code := none }
/-- jdk/internal/util/ArraysSupport -/
def k13 : Class := { plain "jdk/internal/util/ArraysSupport" (some 0) with
  accessFlags := 33
  interfaces := #[]
  cf := some (fileOf pool13 21 #[] #[{ accessFlags := 2, nameIndex := 9, descriptorIndex := 19, attributes := #[] }] 33 16 #[] #[{ accessFlags := 24, nameIndex := 28, descriptorIndex := 29, attributes := #[] }, { accessFlags := 26, nameIndex := 38, descriptorIndex := 39, attributes := #[] }, { accessFlags := 25, nameIndex := 121, descriptorIndex := 25, attributes := #[] }, { accessFlags := 25, nameIndex := 131, descriptorIndex := 25, attributes := #[] }, { accessFlags := 25, nameIndex := 137, descriptorIndex := 25, attributes := #[] }, { accessFlags := 25, nameIndex := 143, descriptorIndex := 25, attributes := #[] }, { accessFlags := 25, nameIndex := 53, descriptorIndex := 25, attributes := #[] }, { accessFlags := 25, nameIndex := 24, descriptorIndex := 25, attributes := #[] }, { accessFlags := 25, nameIndex := 162, descriptorIndex := 25, attributes := #[] }, { accessFlags := 25, nameIndex := 187, descriptorIndex := 25, attributes := #[] }, { accessFlags := 26, nameIndex := 48, descriptorIndex := 25, attributes := #[] }, { accessFlags := 25, nameIndex := 277, descriptorIndex := 25, attributes := #[] }, { accessFlags := 25, nameIndex := 280, descriptorIndex := 25, attributes := #[] }, { accessFlags := 25, nameIndex := 282, descriptorIndex := 25, attributes := #[] }, { accessFlags := 25, nameIndex := 284, descriptorIndex := 25, attributes := #[] }, { accessFlags := 25, nameIndex := 286, descriptorIndex := 25, attributes := #[] }, { accessFlags := 25, nameIndex := 288, descriptorIndex := 25, attributes := #[] }, { accessFlags := 25, nameIndex := 290, descriptorIndex := 25, attributes := #[] }, { accessFlags := 25, nameIndex := 292, descriptorIndex := 25, attributes := #[] }, { accessFlags := 26, nameIndex := 108, descriptorIndex := 109, attributes := #[] }, { accessFlags := 25, nameIndex := 294, descriptorIndex := 25, attributes := #[] }])
  fields := #[{ name := "U", type := (.object "jdk/internal/misc/Unsafe"), accessFlags := 24, slot := 0, constantValue := 0 }, { name := "BIG_ENDIAN", type := .boolean, accessFlags := 26, slot := 1, constantValue := 0 }, { name := "LOG2_ARRAY_BOOLEAN_INDEX_SCALE", type := .int, accessFlags := 25, slot := 2, constantValue := 0 }, { name := "LOG2_ARRAY_BYTE_INDEX_SCALE", type := .int, accessFlags := 25, slot := 3, constantValue := 0 }, { name := "LOG2_ARRAY_CHAR_INDEX_SCALE", type := .int, accessFlags := 25, slot := 4, constantValue := 0 }, { name := "LOG2_ARRAY_SHORT_INDEX_SCALE", type := .int, accessFlags := 25, slot := 5, constantValue := 0 }, { name := "LOG2_ARRAY_INT_INDEX_SCALE", type := .int, accessFlags := 25, slot := 6, constantValue := 0 }, { name := "LOG2_ARRAY_LONG_INDEX_SCALE", type := .int, accessFlags := 25, slot := 7, constantValue := 0 }, { name := "LOG2_ARRAY_FLOAT_INDEX_SCALE", type := .int, accessFlags := 25, slot := 8, constantValue := 0 }, { name := "LOG2_ARRAY_DOUBLE_INDEX_SCALE", type := .int, accessFlags := 25, slot := 9, constantValue := 0 }, { name := "LOG2_BYTE_BIT_SIZE", type := .int, accessFlags := 26, slot := 10, constantValue := 0 }, { name := "T_BOOLEAN", type := .int, accessFlags := 25, slot := 11, constantValue := 0 }, { name := "T_CHAR", type := .int, accessFlags := 25, slot := 12, constantValue := 0 }, { name := "T_FLOAT", type := .int, accessFlags := 25, slot := 13, constantValue := 0 }, { name := "T_DOUBLE", type := .int, accessFlags := 25, slot := 14, constantValue := 0 }, { name := "T_BYTE", type := .int, accessFlags := 25, slot := 15, constantValue := 0 }, { name := "T_SHORT", type := .int, accessFlags := 25, slot := 16, constantValue := 0 }, { name := "T_INT", type := .int, accessFlags := 25, slot := 17, constantValue := 0 }, { name := "T_LONG", type := .int, accessFlags := 25, slot := 18, constantValue := 0 }, { name := "JLA", type := (.object "jdk/internal/access/JavaLangAccess"), accessFlags := 26, slot := 19, constantValue := 0 }, { name := "SOFT_MAX_ARRAY_LENGTH", type := .int, accessFlags := 25, slot := 20, constantValue := 0 }]
  methods := #[k13m0]
  instanceTypes := #[]
  staticTypes := #[(.object "jdk/internal/misc/Unsafe"), .boolean, .int, .int, .int, .int, .int, .int, .int, .int, .int, .int, .int, .int, .int, .int, .int, .int, .int, (.object "jdk/internal/access/JavaLangAccess"), .int]
  resolved := Array.replicate 378 none
  statics := none }

def pool14 : Array CpInfo := pool [(1, u "java/lang/Cloneable"), (0, .class_ 1), (0, u "java/lang/Object"), (0, .class_ 3)] 3

/-- java/lang/Cloneable -/
def k14 : Class := { plain "java/lang/Cloneable" (some 0) with
  accessFlags := 1537
  interfaces := #[]
  cf := some (fileOf pool14 2 #[] #[] 1537 4 #[] #[])
  fields := #[]
  methods := #[]
  instanceTypes := #[]
  staticTypes := #[]
  resolved := Array.replicate 8 none
  statics := none }

/-- the primitive byte -/
def k15 : Class := { plain "byte" none with kind := .primitive 'B', accessFlags := 0x411 }
/-- [B -/
def k16 : Class := { plain "[B" (some 0) with kind := .array 15 .byte, interfaces := #[14, 2], accessFlags := 1041 }

/-- the primitive char -/
def k17 : Class := { plain "char" none with kind := .primitive 'C', accessFlags := 0x411 }
/-- [C -/
def k18 : Class := { plain "[C" (some 0) with kind := .array 17 .char, interfaces := #[14, 2], accessFlags := 1041 }

/-- the primitive int -/
def k19 : Class := { plain "int" none with kind := .primitive 'I', accessFlags := 0x411 }
/-- [I -/
def k20 : Class := { plain "[I" (some 0) with kind := .array 19 .int, interfaces := #[14, 2], accessFlags := 1041 }

def heap : Heap := #[{ cls := 7, slots := #[.long 0, .int 1, .null, .int 0, .null, .int 0, .int 0], vm := .statics 7 },
  { cls := 8, slots := #[.int 0, .int 8, .int 0, .int 1], vm := .statics 8 },
  { cls := 10, slots := #[.null, .null, .null], vm := .statics 10 }]
def classes : Array Class := #[k0, k1, k2, k3, k4, k5, k6, k7, k8, k9, k10, k11, k12, k13, k14, k15, k16, k17, k18, k19, k20]
def interned : List (Array UInt16 × Addr) := []
def slotsUsed : Nat := 14
def theMethod : MethodId := ⟨1, 1⟩
def args0 : Array Value := #[.int 65, .int 66, .int 67, .int 3]
def aboutOver (below : List Frame) : State where
  vm := { classes := classes, interned := interned.toArray }
  heap := heap
  slotsUsed := slotsUsed
  threads := #[{ frames := .invoking theMethod args0 :: below }]
def below0 : List Frame := [.native { method := ⟨0, 0⟩, args := #[] }]
def about1 : State := aboutOver below0
def p0 : Program := .bare "" "" ""
def e0 : Env := launch0.env 0 0 0
theorem w_frames : about1.frames = Frame.invoking theMethod args0 :: below0 := rfl
set_option maxRecDepth 65536 in
theorem w_args : argsFit about1.vm theMethod args0 = true := by decide +kernel
set_option maxRecDepth 65536 in
theorem w_heap : heapFits about1 = true := by decide +kernel
set_option maxRecDepth 65536 in
theorem w_runnable : about1.curStatus? = some .runnable := by decide +kernel
set_option maxRecDepth 65536 in
theorem w_alone : about1.alone = true := by decide +kernel
set_option maxRecDepth 65536 in
theorem w_named : about1.methodNamed? x = some theMethod := by decide +kernel
set_option maxRecDepth 65536 in
theorem w_hears : about1.hears theMethod below0 = true := by decide +kernel
set_option maxRecDepth 65536 in
theorem w_ripe : about1.ripe theMethod args0 below0 = true := by decide +kernel
theorem w_running : about1.status = .running := rfl
set_option maxRecDepth 65536 in
theorem w_room : about1.hasRoom e0.platform room_1 = true :=
  launch0.hasRoom_least _ room_1 (by decide +kernel) (by decide +kernel) (by decide +kernel) (by decide +kernel) (by decide +kernel) (by decide +kernel)
theorem allAtoms_all (ts : List Jvm.Cond) (a : Array Jvm.Value) (st : Jvm.State) : (allAtoms ts).before a st = ts.all (fun c => c.before a st) := by
  induction ts with
  | nil => rfl
  | cons c t ih =>
    show (Jvm.Cond.and c (allAtoms t)).before a st = _
    rw [Jvm.Cond.before_and, ih, List.all_cons]
def words1 : List Jvm.Cond := Jvm.Cond.code x code maxLocals ret :: tables_1
/-- a 'code' word, met by the world's own term for the bytes: nothing is compared byte by byte -/
theorem code_word {y : MethodName} {bytes : ByteArray} {mx : Nat} {rt : Option FieldType} {a : Array Value} {s : State} {m : MethodId} {meth : Method} {c : Code} (h1 : s.methodNamed? y = some m) (h2 : s.vm.method? m = some meth) (h3 : meth.code = some c) (h4 : c.code = bytes)
    (h5 : (c.maxLocals == mx && c.exceptionTable.isEmpty && decide (c.maxStack ≤ mostOperands) && decide (meth.sig.returnType = rt) && !meth.locks && decide (parseMethodDescriptor y.desc = some meth.sig)) = true) : (Jvm.Cond.code y bytes mx rt).before a s = true := by
  simp only [Bool.and_eq_true, beq_iff_eq, Bool.not_eq_true', decide_eq_true_eq] at h5
  obtain ⟨⟨⟨⟨⟨g1, g2⟩, g3⟩, g4⟩, g5⟩, g6⟩ := h5
  simp [Cond.before, Cond.holds, Cond.value, h1, h2, h3, h4, g1, g2, g3, g4, g5, g6]
def isCode : Jvm.Cond → Bool
  | .code _ _ _ _ => true
  | _ => false
theorem all_split {L : List Jvm.Cond} {P : Jvm.Cond → Bool} (h1 : L.all (fun c => isCode c || P c) = true) (h2 : ∀ c ∈ L.filter isCode, P c = true) : L.all P = true := by
  refine List.all_eq_true.mpr fun c hc => ?_
  have h := List.all_eq_true.mp h1 c hc
  rcases Bool.eq_false_or_eq_true (isCode c) with hi | hi
  · exact h2 c (List.mem_filter.mpr ⟨hc, hi⟩)
  · simpa [hi] using h
set_option maxRecDepth 65536 in
theorem w_c0 : (Jvm.Cond.code x code maxLocals ret).before args0 about1 = true := code_word (m := ⟨1, 1⟩) (meth := k1m1) (c := k1c1) (by decide +kernel) rfl rfl rfl (by decide +kernel)
set_option maxRecDepth 65536 in
theorem w_c1 : (Jvm.Cond.code ({ cls := "com/example/sluice/sluice/MessageDisallowedCharacterPinLaw", name := "ch", desc := "(I)C" } : Jvm.MethodName) method_3_code (1 : Nat) (Option.some Jvm.ClassFile.FieldType.char)).before args0 about1 = true := code_word (m := ⟨1, 2⟩) (meth := k1m2) (c := k1c2) (by decide +kernel) rfl rfl rfl (by decide +kernel)
set_option maxRecDepth 65536 in
theorem w_c2 : (Jvm.Cond.code ({ cls := "java/lang/String", name := "<init>", desc := "([C)V" } : Jvm.MethodName) jdk_42_method_3_code (2 : Nat) (Option.none : Option Jvm.ClassFile.FieldType)).before args0 about1 = true := code_word (m := ⟨7, 1⟩) (meth := k7m1) (c := k7c1) (by decide +kernel) rfl rfl rfl (by decide +kernel)
set_option maxRecDepth 65536 in
theorem w_c3 : (Jvm.Cond.code ({ cls := "java/lang/String", name := "<init>", desc := "([CIILjava/lang/Void;)V" } : Jvm.MethodName) jdk_42_method_149_code (6 : Nat) (Option.none : Option Jvm.ClassFile.FieldType)).before args0 about1 = true := code_word (m := ⟨7, 4⟩) (meth := k7m4) (c := k7c4) (by decide +kernel) rfl rfl rfl (by decide +kernel)
set_option maxRecDepth 65536 in
theorem w_c4 : (Jvm.Cond.code ({ cls := "java/lang/Object", name := "<init>", desc := "()V" } : Jvm.MethodName) object_method_1_code (1 : Nat) (Option.none : Option Jvm.ClassFile.FieldType)).before args0 about1 = true := code_word (m := ⟨0, 0⟩) (meth := k0m0) (c := k0c0) (by decide +kernel) rfl rfl rfl (by decide +kernel)
set_option maxRecDepth 65536 in
theorem w_c5 : (Jvm.Cond.code ({ cls := "java/lang/StringUTF16", name := "compress", desc := "([CII)[B" } : Jvm.MethodName) jdk_52_method_16_code (6 : Nat) (Option.some (Jvm.ClassFile.FieldType.array Jvm.ClassFile.FieldType.byte))).before args0 about1 = true := code_word (m := ⟨8, 9⟩) (meth := k8m9) (c := k8c9) (by decide +kernel) rfl rfl rfl (by decide +kernel)
set_option maxRecDepth 65536 in
theorem w_c6 : (Jvm.Cond.code ({ cls := "java/lang/StringUTF16", name := "compress", desc := "([CI[BII)I" } : Jvm.MethodName) jdk_52_method_21_code (7 : Nat) (Option.some Jvm.ClassFile.FieldType.int)).before args0 about1 = true := code_word (m := ⟨8, 10⟩) (meth := k8m10) (c := k8c10) (by decide +kernel) rfl rfl rfl (by decide +kernel)
set_option maxRecDepth 65536 in
theorem w_c7 : (Jvm.Cond.code ({ cls := "java/lang/StringUTF16", name := "coderFromArrayLen", desc := "([BI)B" } : Jvm.MethodName) jdk_52_method_15_code (2 : Nat) (Option.some Jvm.ClassFile.FieldType.byte)).before args0 about1 = true := code_word (m := ⟨8, 8⟩) (meth := k8m8) (c := k8c8) (by decide +kernel) rfl rfl rfl (by decide +kernel)
set_option maxRecDepth 65536 in
theorem w_c8 : (Jvm.Cond.code ({ cls := "com/example/sluice/sluice/Message", name := "disallowedCharacter", desc := "(Ljava/lang/String;)I" } : Jvm.MethodName) prog_5_method_12_code (4 : Nat) (Option.some Jvm.ClassFile.FieldType.int)).before args0 about1 = true := code_word (m := ⟨9, 0⟩) (meth := k9m0) (c := k9c0) (by decide +kernel) rfl rfl rfl (by decide +kernel)
set_option maxRecDepth 65536 in
theorem w_c9 : (Jvm.Cond.code ({ cls := "java/lang/String", name := "length", desc := "()I" } : Jvm.MethodName) jdk_42_method_54_code (1 : Nat) (Option.some Jvm.ClassFile.FieldType.int)).before args0 about1 = true := code_word (m := ⟨7, 2⟩) (meth := k7m2) (c := k7c2) (by decide +kernel) rfl rfl rfl (by decide +kernel)
set_option maxRecDepth 65536 in
theorem w_c10 : (Jvm.Cond.code ({ cls := "java/lang/String", name := "coder", desc := "()B" } : Jvm.MethodName) jdk_42_method_152_code (1 : Nat) (Option.some Jvm.ClassFile.FieldType.byte)).before args0 about1 = true := code_word (m := ⟨7, 5⟩) (meth := k7m5) (c := k7c5) (by decide +kernel) rfl rfl rfl (by decide +kernel)
set_option maxRecDepth 65536 in
theorem w_c11 : (Jvm.Cond.code ({ cls := "java/lang/String", name := "codePointAt", desc := "(I)I" } : Jvm.MethodName) jdk_42_method_57_code (3 : Nat) (Option.some Jvm.ClassFile.FieldType.int)).before args0 about1 = true := code_word (m := ⟨7, 3⟩) (meth := k7m3) (c := k7c3) (by decide +kernel) rfl rfl rfl (by decide +kernel)
set_option maxRecDepth 65536 in
theorem w_c12 : (Jvm.Cond.code ({ cls := "java/lang/String", name := "isLatin1", desc := "()Z" } : Jvm.MethodName) jdk_42_method_154_code (1 : Nat) (Option.some Jvm.ClassFile.FieldType.boolean)).before args0 about1 = true := code_word (m := ⟨7, 6⟩) (meth := k7m6) (c := k7c6) (by decide +kernel) rfl rfl rfl (by decide +kernel)
set_option maxRecDepth 65536 in
theorem w_c13 : (Jvm.Cond.code ({ cls := "java/lang/String", name := "checkIndex", desc := "(II)V" } : Jvm.MethodName) jdk_42_method_155_code (2 : Nat) (Option.none : Option Jvm.ClassFile.FieldType)).before args0 about1 = true := code_word (m := ⟨7, 7⟩) (meth := k7m7) (c := k7c7) (by decide +kernel) rfl rfl rfl (by decide +kernel)
set_option maxRecDepth 65536 in
theorem w_c14 : (Jvm.Cond.code ({ cls := "jdk/internal/util/Preconditions", name := "checkIndex", desc := "(IILjava/util/function/BiFunction;)I" } : Jvm.MethodName) jdk_41_method_11_code (3 : Nat) (Option.some Jvm.ClassFile.FieldType.int)).before args0 about1 = true := code_word (m := ⟨10, 1⟩) (meth := k10m1) (c := k10c1) (by decide +kernel) rfl rfl rfl (by decide +kernel)
set_option maxRecDepth 65536 in
theorem w_c15 : (Jvm.Cond.code ({ cls := "com/example/sluice/sluice/MessageDisallowedCharacterPinLaw", name := "expected", desc := "([CI)I" } : Jvm.MethodName) method_8_code (4 : Nat) (Option.some Jvm.ClassFile.FieldType.int)).before args0 about1 = true := code_word (m := ⟨1, 7⟩) (meth := k1m7) (c := k1c7) (by decide +kernel) rfl rfl rfl (by decide +kernel)
set_option maxRecDepth 65536 in
theorem w_c16 : (Jvm.Cond.code ({ cls := "com/example/sluice/sluice/MessageDisallowedCharacterPinLaw", name := "at", desc := "([CII)I" } : Jvm.MethodName) method_7_code (4 : Nat) (Option.some Jvm.ClassFile.FieldType.int)).before args0 about1 = true := code_word (m := ⟨1, 6⟩) (meth := k1m6) (c := k1c6) (by decide +kernel) rfl rfl rfl (by decide +kernel)
set_option maxRecDepth 65536 in
theorem w_c17 : (Jvm.Cond.code ({ cls := "com/example/sluice/sluice/MessageDisallowedCharacterPinLaw", name := "isHigh", desc := "(C)Z" } : Jvm.MethodName) method_4_code (1 : Nat) (Option.some Jvm.ClassFile.FieldType.boolean)).before args0 about1 = true := code_word (m := ⟨1, 3⟩) (meth := k1m3) (c := k1c3) (by decide +kernel) rfl rfl rfl (by decide +kernel)
set_option maxRecDepth 65536 in
theorem w_c18 : (Jvm.Cond.code ({ cls := "com/example/sluice/sluice/MessageDisallowedCharacterPinLaw", name := "bmpAllowed", desc := "(C)Z" } : Jvm.MethodName) method_6_code (1 : Nat) (Option.some Jvm.ClassFile.FieldType.boolean)).before args0 about1 = true := code_word (m := ⟨1, 5⟩) (meth := k1m5) (c := k1c5) (by decide +kernel) rfl rfl rfl (by decide +kernel)
set_option maxRecDepth 65536 in
theorem w_c19 : (Jvm.Cond.code ({ cls := "java/lang/Character", name := "charCount", desc := "(I)I" } : Jvm.MethodName) jdk_89_method_18_code (1 : Nat) (Option.some Jvm.ClassFile.FieldType.int)).before args0 about1 = true := code_word (m := ⟨11, 2⟩) (meth := k11m2) (c := k11c2) (by decide +kernel) rfl rfl rfl (by decide +kernel)
set_option maxRecDepth 65536 in
theorem w_c20 : (Jvm.Cond.code ({ cls := "java/lang/StringUTF16", name := "toBytes", desc := "([CII)[B" } : Jvm.MethodName) jdk_52_method_14_code (5 : Nat) (Option.some (Jvm.ClassFile.FieldType.array Jvm.ClassFile.FieldType.byte))).before args0 about1 = true := code_word (m := ⟨8, 7⟩) (meth := k8m7) (c := k8c7) (by decide +kernel) rfl rfl rfl (by decide +kernel)
set_option maxRecDepth 65536 in
theorem w_c21 : (Jvm.Cond.code ({ cls := "java/lang/StringUTF16", name := "newBytesFor", desc := "(I)[B" } : Jvm.MethodName) jdk_52_method_2_code (1 : Nat) (Option.some (Jvm.ClassFile.FieldType.array Jvm.ClassFile.FieldType.byte))).before args0 about1 = true := code_word (m := ⟨8, 1⟩) (meth := k8m1) (c := k8c1) (by decide +kernel) rfl rfl rfl (by decide +kernel)
set_option maxRecDepth 65536 in
theorem w_c22 : (Jvm.Cond.code ({ cls := "java/lang/StringUTF16", name := "newBytesLength", desc := "(I)I" } : Jvm.MethodName) jdk_52_method_3_code (1 : Nat) (Option.some Jvm.ClassFile.FieldType.int)).before args0 about1 = true := code_word (m := ⟨8, 2⟩) (meth := k8m2) (c := k8c2) (by decide +kernel) rfl rfl rfl (by decide +kernel)
set_option maxRecDepth 65536 in
theorem w_c23 : (Jvm.Cond.code ({ cls := "java/lang/StringUTF16", name := "putChar", desc := "([BII)V" } : Jvm.MethodName) jdk_52_method_4_code (3 : Nat) (Option.none : Option Jvm.ClassFile.FieldType)).before args0 about1 = true := code_word (m := ⟨8, 3⟩) (meth := k8m3) (c := k8c3) (by decide +kernel) rfl rfl rfl (by decide +kernel)
set_option maxRecDepth 65536 in
theorem w_c24 : (Jvm.Cond.code ({ cls := "java/lang/StringUTF16", name := "getChar", desc := "([BI)C" } : Jvm.MethodName) jdk_52_method_5_code (2 : Nat) (Option.some Jvm.ClassFile.FieldType.char)).before args0 about1 = true := code_word (m := ⟨8, 4⟩) (meth := k8m4) (c := k8c4) (by decide +kernel) rfl rfl rfl (by decide +kernel)
set_option maxRecDepth 65536 in
theorem w_c25 : (Jvm.Cond.code ({ cls := "java/lang/StringUTF16", name := "codePointAt", desc := "([BII)I" } : Jvm.MethodName) jdk_52_method_8_code (3 : Nat) (Option.some Jvm.ClassFile.FieldType.int)).before args0 about1 = true := code_word (m := ⟨8, 6⟩) (meth := k8m6) (c := k8c6) (by decide +kernel) rfl rfl rfl (by decide +kernel)
set_option maxRecDepth 65536 in
theorem w_c26 : (Jvm.Cond.code ({ cls := "java/lang/StringUTF16", name := "codePointAt", desc := "([BIIZ)I" } : Jvm.MethodName) jdk_52_method_7_code (6 : Nat) (Option.some Jvm.ClassFile.FieldType.int)).before args0 about1 = true := code_word (m := ⟨8, 5⟩) (meth := k8m5) (c := k8c5) (by decide +kernel) rfl rfl rfl (by decide +kernel)
set_option maxRecDepth 65536 in
theorem w_c27 : (Jvm.Cond.code ({ cls := "java/lang/Character", name := "isHighSurrogate", desc := "(C)Z" } : Jvm.MethodName) jdk_89_method_14_code (1 : Nat) (Option.some Jvm.ClassFile.FieldType.boolean)).before args0 about1 = true := code_word (m := ⟨11, 0⟩) (meth := k11m0) (c := k11c0) (by decide +kernel) rfl rfl rfl (by decide +kernel)
set_option maxRecDepth 65536 in
theorem w_c28 : (Jvm.Cond.code ({ cls := "java/lang/Character", name := "isLowSurrogate", desc := "(C)Z" } : Jvm.MethodName) jdk_89_method_15_code (1 : Nat) (Option.some Jvm.ClassFile.FieldType.boolean)).before args0 about1 = true := code_word (m := ⟨11, 1⟩) (meth := k11m1) (c := k11c1) (by decide +kernel) rfl rfl rfl (by decide +kernel)
set_option maxRecDepth 65536 in
theorem w_c29 : (Jvm.Cond.code ({ cls := "com/example/sluice/sluice/MessageDisallowedCharacterPinLaw", name := "isLow", desc := "(C)Z" } : Jvm.MethodName) method_5_code (1 : Nat) (Option.some Jvm.ClassFile.FieldType.boolean)).before args0 about1 = true := code_word (m := ⟨1, 4⟩) (meth := k1m4) (c := k1c4) (by decide +kernel) rfl rfl rfl (by decide +kernel)
set_option maxRecDepth 65536 in
theorem w_c30 : (Jvm.Cond.code ({ cls := "java/lang/Character", name := "toCodePoint", desc := "(CC)I" } : Jvm.MethodName) jdk_89_method_19_code (2 : Nat) (Option.some Jvm.ClassFile.FieldType.int)).before args0 about1 = true := code_word (m := ⟨11, 3⟩) (meth := k11m3) (c := k11c3) (by decide +kernel) rfl rfl rfl (by decide +kernel)
def codes1 : List Jvm.Cond := [Jvm.Cond.code x code maxLocals ret, Jvm.Cond.code ({ cls := "com/example/sluice/sluice/MessageDisallowedCharacterPinLaw", name := "ch", desc := "(I)C" } : Jvm.MethodName) method_3_code (1 : Nat) (Option.some Jvm.ClassFile.FieldType.char), Jvm.Cond.code ({ cls := "java/lang/String", name := "<init>", desc := "([C)V" } : Jvm.MethodName) jdk_42_method_3_code (2 : Nat) (Option.none : Option Jvm.ClassFile.FieldType), Jvm.Cond.code ({ cls := "java/lang/String", name := "<init>", desc := "([CIILjava/lang/Void;)V" } : Jvm.MethodName) jdk_42_method_149_code (6 : Nat) (Option.none : Option Jvm.ClassFile.FieldType), Jvm.Cond.code ({ cls := "java/lang/Object", name := "<init>", desc := "()V" } : Jvm.MethodName) object_method_1_code (1 : Nat) (Option.none : Option Jvm.ClassFile.FieldType), Jvm.Cond.code ({ cls := "java/lang/StringUTF16", name := "compress", desc := "([CII)[B" } : Jvm.MethodName) jdk_52_method_16_code (6 : Nat) (Option.some (Jvm.ClassFile.FieldType.array Jvm.ClassFile.FieldType.byte)), Jvm.Cond.code ({ cls := "java/lang/StringUTF16", name := "compress", desc := "([CI[BII)I" } : Jvm.MethodName) jdk_52_method_21_code (7 : Nat) (Option.some Jvm.ClassFile.FieldType.int), Jvm.Cond.code ({ cls := "java/lang/StringUTF16", name := "coderFromArrayLen", desc := "([BI)B" } : Jvm.MethodName) jdk_52_method_15_code (2 : Nat) (Option.some Jvm.ClassFile.FieldType.byte), Jvm.Cond.code ({ cls := "com/example/sluice/sluice/Message", name := "disallowedCharacter", desc := "(Ljava/lang/String;)I" } : Jvm.MethodName) prog_5_method_12_code (4 : Nat) (Option.some Jvm.ClassFile.FieldType.int), Jvm.Cond.code ({ cls := "java/lang/String", name := "length", desc := "()I" } : Jvm.MethodName) jdk_42_method_54_code (1 : Nat) (Option.some Jvm.ClassFile.FieldType.int), Jvm.Cond.code ({ cls := "java/lang/String", name := "coder", desc := "()B" } : Jvm.MethodName) jdk_42_method_152_code (1 : Nat) (Option.some Jvm.ClassFile.FieldType.byte), Jvm.Cond.code ({ cls := "java/lang/String", name := "codePointAt", desc := "(I)I" } : Jvm.MethodName) jdk_42_method_57_code (3 : Nat) (Option.some Jvm.ClassFile.FieldType.int), Jvm.Cond.code ({ cls := "java/lang/String", name := "isLatin1", desc := "()Z" } : Jvm.MethodName) jdk_42_method_154_code (1 : Nat) (Option.some Jvm.ClassFile.FieldType.boolean), Jvm.Cond.code ({ cls := "java/lang/String", name := "checkIndex", desc := "(II)V" } : Jvm.MethodName) jdk_42_method_155_code (2 : Nat) (Option.none : Option Jvm.ClassFile.FieldType), Jvm.Cond.code ({ cls := "jdk/internal/util/Preconditions", name := "checkIndex", desc := "(IILjava/util/function/BiFunction;)I" } : Jvm.MethodName) jdk_41_method_11_code (3 : Nat) (Option.some Jvm.ClassFile.FieldType.int), Jvm.Cond.code ({ cls := "com/example/sluice/sluice/MessageDisallowedCharacterPinLaw", name := "expected", desc := "([CI)I" } : Jvm.MethodName) method_8_code (4 : Nat) (Option.some Jvm.ClassFile.FieldType.int), Jvm.Cond.code ({ cls := "com/example/sluice/sluice/MessageDisallowedCharacterPinLaw", name := "at", desc := "([CII)I" } : Jvm.MethodName) method_7_code (4 : Nat) (Option.some Jvm.ClassFile.FieldType.int), Jvm.Cond.code ({ cls := "com/example/sluice/sluice/MessageDisallowedCharacterPinLaw", name := "isHigh", desc := "(C)Z" } : Jvm.MethodName) method_4_code (1 : Nat) (Option.some Jvm.ClassFile.FieldType.boolean), Jvm.Cond.code ({ cls := "com/example/sluice/sluice/MessageDisallowedCharacterPinLaw", name := "bmpAllowed", desc := "(C)Z" } : Jvm.MethodName) method_6_code (1 : Nat) (Option.some Jvm.ClassFile.FieldType.boolean), Jvm.Cond.code ({ cls := "java/lang/Character", name := "charCount", desc := "(I)I" } : Jvm.MethodName) jdk_89_method_18_code (1 : Nat) (Option.some Jvm.ClassFile.FieldType.int), Jvm.Cond.code ({ cls := "java/lang/StringUTF16", name := "toBytes", desc := "([CII)[B" } : Jvm.MethodName) jdk_52_method_14_code (5 : Nat) (Option.some (Jvm.ClassFile.FieldType.array Jvm.ClassFile.FieldType.byte)), Jvm.Cond.code ({ cls := "java/lang/StringUTF16", name := "newBytesFor", desc := "(I)[B" } : Jvm.MethodName) jdk_52_method_2_code (1 : Nat) (Option.some (Jvm.ClassFile.FieldType.array Jvm.ClassFile.FieldType.byte)), Jvm.Cond.code ({ cls := "java/lang/StringUTF16", name := "newBytesLength", desc := "(I)I" } : Jvm.MethodName) jdk_52_method_3_code (1 : Nat) (Option.some Jvm.ClassFile.FieldType.int), Jvm.Cond.code ({ cls := "java/lang/StringUTF16", name := "putChar", desc := "([BII)V" } : Jvm.MethodName) jdk_52_method_4_code (3 : Nat) (Option.none : Option Jvm.ClassFile.FieldType), Jvm.Cond.code ({ cls := "java/lang/StringUTF16", name := "getChar", desc := "([BI)C" } : Jvm.MethodName) jdk_52_method_5_code (2 : Nat) (Option.some Jvm.ClassFile.FieldType.char), Jvm.Cond.code ({ cls := "java/lang/StringUTF16", name := "codePointAt", desc := "([BII)I" } : Jvm.MethodName) jdk_52_method_8_code (3 : Nat) (Option.some Jvm.ClassFile.FieldType.int), Jvm.Cond.code ({ cls := "java/lang/StringUTF16", name := "codePointAt", desc := "([BIIZ)I" } : Jvm.MethodName) jdk_52_method_7_code (6 : Nat) (Option.some Jvm.ClassFile.FieldType.int), Jvm.Cond.code ({ cls := "java/lang/Character", name := "isHighSurrogate", desc := "(C)Z" } : Jvm.MethodName) jdk_89_method_14_code (1 : Nat) (Option.some Jvm.ClassFile.FieldType.boolean), Jvm.Cond.code ({ cls := "java/lang/Character", name := "isLowSurrogate", desc := "(C)Z" } : Jvm.MethodName) jdk_89_method_15_code (1 : Nat) (Option.some Jvm.ClassFile.FieldType.boolean), Jvm.Cond.code ({ cls := "com/example/sluice/sluice/MessageDisallowedCharacterPinLaw", name := "isLow", desc := "(C)Z" } : Jvm.MethodName) method_5_code (1 : Nat) (Option.some Jvm.ClassFile.FieldType.boolean), Jvm.Cond.code ({ cls := "java/lang/Character", name := "toCodePoint", desc := "(CC)I" } : Jvm.MethodName) jdk_89_method_19_code (2 : Nat) (Option.some Jvm.ClassFile.FieldType.int)]
set_option maxRecDepth 65536 in
theorem codes_eq : words1.filter isCode = codes1 := rfl
theorem w_codes : ∀ c ∈ words1.filter isCode, c.before args0 about1 = true := by
  rw [codes_eq]
  intro c hc
  simp only [codes1, List.mem_cons, List.not_mem_nil, or_false] at hc
  rcases hc with rfl | rfl | rfl | rfl | rfl | rfl | rfl | rfl | rfl | rfl | rfl | rfl | rfl | rfl | rfl | rfl | rfl | rfl | rfl | rfl | rfl | rfl | rfl | rfl | rfl | rfl | rfl | rfl | rfl | rfl | rfl
  · exact w_c0
  · exact w_c1
  · exact w_c2
  · exact w_c3
  · exact w_c4
  · exact w_c5
  · exact w_c6
  · exact w_c7
  · exact w_c8
  · exact w_c9
  · exact w_c10
  · exact w_c11
  · exact w_c12
  · exact w_c13
  · exact w_c14
  · exact w_c15
  · exact w_c16
  · exact w_c17
  · exact w_c18
  · exact w_c19
  · exact w_c20
  · exact w_c21
  · exact w_c22
  · exact w_c23
  · exact w_c24
  · exact w_c25
  · exact w_c26
  · exact w_c27
  · exact w_c28
  · exact w_c29
  · exact w_c30
set_option maxRecDepth 65536 in
theorem w_t1 : (words1.take 24).all (fun c => isCode c || c.before args0 about1) = true := by decide +kernel
set_option maxRecDepth 65536 in
theorem w_t2 : ((words1.drop 24).take 24).all (fun c => isCode c || c.before args0 about1) = true := by decide +kernel
set_option maxRecDepth 65536 in
theorem w_t3 : (((words1.drop 24).drop 24).take 24).all (fun c => isCode c || c.before args0 about1) = true := by decide +kernel
set_option maxRecDepth 65536 in
theorem w_t4 : ((((words1.drop 24).drop 24).drop 24).take 24).all (fun c => isCode c || c.before args0 about1) = true := by decide +kernel
set_option maxRecDepth 65536 in
theorem w_t5 : (((((words1.drop 24).drop 24).drop 24).drop 24).take 24).all (fun c => isCode c || c.before args0 about1) = true := by decide +kernel
set_option maxRecDepth 65536 in
theorem w_t6 : (((((words1.drop 24).drop 24).drop 24).drop 24).drop 24).all (fun c => isCode c || c.before args0 about1) = true := by decide +kernel
theorem w_tables : (allAtoms (Jvm.Cond.code x code maxLocals ret :: tables_1)).before args0 about1 = true := by
  rw [allAtoms_all]
  show words1.all (fun c => c.before args0 about1) = true
  refine all_split ?_ w_codes
  rw [← List.take_append_drop 24 words1, List.all_append, w_t1, ← List.take_append_drop 24 (words1.drop 24), List.all_append, w_t2, ← List.take_append_drop 24 ((words1.drop 24).drop 24), List.all_append, w_t3, ← List.take_append_drop 24 (((words1.drop 24).drop 24).drop 24), List.all_append, w_t4, ← List.take_append_drop 24 ((((words1.drop 24).drop 24).drop 24).drop 24), List.all_append, w_t5, w_t6]
  rfl
set_option maxRecDepth 65536 in
theorem w_rest : rest_1_c.before args0 about1 = true := by decide +kernel
set_option maxRecDepth 65536 in
theorem w_case : (Jvm.Cond.and given_1 narrow_1).before args0 about1 = true := by decide +kernel
set_option maxRecDepth 65536 in
theorem w_consts : constsHeld consts_1 about1 := Jvm.Lit.constsHeldB_iff.mp (by decide +kernel)
theorem w_applies : (headSpec (Jvm.Cond.code x code maxLocals ret :: tables_1) room_1).applies x e0.platform about1 = true :=
  (Spec.applies_iff w_frames).mpr ⟨w_running, w_runnable, w_alone, w_named, w_hears, w_ripe, w_room, w_tables⟩
theorem atStart : AtStart classFile x code maxLocals ret World_1 tables_1 room_1 Calls_1 rest_1 Pre_1 launch0 p0 e0 about1 theMethod args0 below0 :=
  ⟨lists_1, trivial, launch0.admits_env _ _ _, launch0.least_env, fairChoices_fair.cas, fairChoices_fair.clock, w_frames, w_args, w_heap, w_applies, ⟨w_consts, trivial⟩, w_rest, w_case⟩
end start1
theorem witness_1 : WitnessClaimed_1 := ⟨start1.p0, start1.e0, start1.about1, start1.theMethod, start1.args0, start1.below0, start1.atStart⟩
end Jvm.Pilot.@@N@@
