import JvmDerived
import JvmDerived.Pilot.@@N@@Statement
import JvmDerived.Pilot.@@N@@Code
set_option linter.unusedVariables false
set_option linter.unusedSimpArgs false
/- laws to paste: Road.backV (cut by pick.py; bodies as the Statement names them) -/
namespace Jvm.Pilot.@@N@@
namespace StrChars
open Jvm Sem ClassFile Op Lib Jvm.Stand Jvm.Free.XT Jvm.Free.ALB Jvm.Free.JM Jvm.Free
open Jvm.Lib.Cold (StaticIs)
/-- a char array whose places are chars -/
def Ch (a : Addr) (A : Cell) (U : State) : Prop := Arr .char a A U ∧ Typed .char A
theorem Ch.mv {a : Addr} {A : Cell} {U U' : State} (h : Ch a A U) (hal : U.vm.Alike U'.vm) (hh : U'.heap = U.heap) : Ch a A U' := ⟨h.1.mv hal hh, h.2⟩
theorem Ch.keep {a : Addr} {A : Cell} {U U' : State} (h : Ch a A U) (hal : U.vm.Alike U'.vm) (hk : U'.heap[a]? = some A) : Ch a A U' := ⟨h.1.keep hal hk, h.2⟩
/-- what place i of a char[]'s cell holds -/
def cv (A : Cell) (i : Nat) : Int32 := match A.slots[i]? with | some (.int x) => x | _ => 0
theorem Ch.get {a : Addr} {A : Cell} {U : State} (h : Ch a A U) {i : Nat} (hi : i < A.slots.size) : A.slots[i]? = some (.int (cv A i)) := by
  have e := Array.getElem?_eq_getElem hi
  have f := h.2 i _ e
  unfold cv; rw [e]
  generalize A.slots[i] = v at f
  cases v <;> simp [fits] at f ⊢
/-- the byte that i2b leaves of a char -/
def lo8 (x : Int32) : Int32 := x.toInt8.toInt32
theorem fits_lo8 (y : Int32) : fits .byte (.int (lo8 y)) = true := by
  have h1 := y.toInt8.le_toInt
  have h2 := y.toInt8.toInt_lt
  simp only [lo8, fits, Bool.and_eq_true, decide_eq_true_eq, Int32.le_iff_toInt_le, Int8.toInt_toInt32, show (-128 : Int32).toInt = -128 from by decide, show (127 : Int32).toInt = 127 from by decide]
  omega
/-- A' is A but that each place j of lo .. hi - 1 holds f j -/
def Laid (A A' : Cell) (lo hi : Nat) (f : Nat → Value) : Prop := A'.cls = A.cls ∧ A'.vm = A.vm ∧ A'.slots.size = A.slots.size ∧ ∀ i, A'.slots[i]? = if lo ≤ i ∧ i < hi then some (f i) else A.slots[i]?
theorem Laid.zero (A : Cell) (lo : Nat) (f : Nat → Value) : Laid A A lo (lo + 0) f := ⟨rfl, rfl, rfl, fun i => by rw [if_neg (by omega)]⟩
theorem Laid.step {A Ak : Cell} {lo k : Nat} {f : Nat → Value} {v : Value} (h : Laid A Ak lo k f) (hlo : lo ≤ k) (hk : k < Ak.slots.size) (hv : v = f k) : Laid A (Ak.setSlot k v) lo (k + 1) f := by
  refine ⟨h.1, h.2.1, by simpa [Cell.setSlot] using h.2.2.1, fun i => ?_⟩
  by_cases e : k = i
  · subst e; rw [Cell.slots_setSlot_self v hk, if_pos (by omega), hv]
  · rw [Cell.slots_setSlot_ne v e, h.2.2.2 i]
    by_cases q : lo ≤ i ∧ i < k
    · rw [if_pos q, if_pos (by omega)]
    · rw [if_neg q, if_neg (by omega)]
def U16 : String := "java/lang/StringUTF16"
namespace Cmp5
def yN : MethodName := ⟨"java/lang/StringUTF16", "compress", "([CI[BII)I"⟩
abbrev yB : ByteArray := jdk_52_method_21_code
theorem d0 : decode yB 0 = .ok (.iconst 0, 1) := by decide +kernel
theorem d1 : decode yB 1 = .ok (.istore 5, 2) := by decide +kernel
theorem d3 : decode yB 3 = .ok (.iload 5, 2) := by decide +kernel
theorem d5 : decode yB 5 = .ok (.iload 4, 2) := by decide +kernel
theorem d7 : decode yB 7 = .ok (.if_icmp (.ge) 37, 3) := by decide +kernel
theorem d10 : decode yB 10 = .ok (.aload_n 0, 1) := by decide +kernel
theorem d11 : decode yB 11 = .ok (.iload_n 1, 1) := by decide +kernel
theorem d12 : decode yB 12 = .ok (.caload, 1) := by decide +kernel
theorem d13 : decode yB 13 = .ok (.istore 6, 2) := by decide +kernel
theorem d15 : decode yB 15 = .ok (.iload 6, 2) := by decide +kernel
theorem d17 : decode yB 17 = .ok (.sipush 255, 3) := by decide +kernel
theorem d20 : decode yB 20 = .ok (.if_icmp (.le) 6, 3) := by decide +kernel
theorem d26 : decode yB 26 = .ok (.aload_n 2, 1) := by decide +kernel
theorem d27 : decode yB 27 = .ok (.iload_n 3, 1) := by decide +kernel
theorem d28 : decode yB 28 = .ok (.iload 6, 2) := by decide +kernel
theorem d30 : decode yB 30 = .ok (.i2b, 1) := by decide +kernel
theorem d31 : decode yB 31 = .ok (.bastore, 1) := by decide +kernel
theorem d32 : decode yB 32 = .ok (.iinc 1 1, 3) := by decide +kernel
theorem d35 : decode yB 35 = .ok (.iinc 3 1, 3) := by decide +kernel
theorem d38 : decode yB 38 = .ok (.iinc 5 1, 3) := by decide +kernel
theorem d41 : decode yB 41 = .ok (.goto (-38), 3) := by decide +kernel
theorem d44 : decode yB 44 = .ok (.iload 4, 2) := by decide +kernel
theorem d46 : decode yB 46 = .ok (.ireturn, 1) := by decide +kernel
def site : List Cond := []
def tab : Cond := tabOf yN yB 7 (some .int) site
def P (b : Addr) (A : Cell) (d : Addr) (B : Cell) (o q len : Nat) (args : Array Value) (s : State) : Prop := args = #[.ref b, .int (Int32.ofNat o), .ref d, .int (Int32.ofNat q), .int (Int32.ofNat len)] ∧ Ch b A s ∧ Arr .byte d B s ∧ b ≠ d ∧ o + len ≤ A.slots.size ∧ q + len ≤ B.slots.size ∧ ∀ i, i < len → ¬ 255 < cv A (o + i)
def E (b : Addr) (A : Cell) (d : Addr) (B : Cell) (o q len : Nat) (r : Option Value) (s u : State) : Prop := r = some (.int (Int32.ofNat len)) ∧ ∃ B', Put d B' s u ∧ Laid B B' q (q + len) (fun j => Value.int (lo8 (cv A (o + (j - q)))))
/-- no char of the range above 255: len; the places written hold each char's low byte -/
theorem law (l : Launch) (b : Addr) (A : Cell) (d : Addr) (B : Cell) (o q len : Nat) : Law l yN 5 5 0 0 yB 7 (some .int) site (P b A d B o q len) (E b A d B o q len) (copyLocs d q len) 0 0 := by
  refine Law.of_walk (plainFor_of_name (by decide +kernel)) (by decide +kernel) (by decide +kernel) (by decide) (fun _ _ h => by rw [h.1]; rfl) (fun _ U U' hal hh h => ⟨h.1, h.2.1.mv hal hh, h.2.2.1.mv hal hh, h.2.2.2⟩) (fun r U U' V V' h1 hal h2 h => ⟨h.1, h.2.elim fun B' q => ⟨B', q.1.mv h1 h2, q.2⟩⟩) ?_
  intro p e s m args below meth c s₁ X0 hexec hbytes hml hret hlk hnm hown hh0 W hP
  obtain ⟨rfl, hA, hB, hne, l1, l2, hp⟩ := hP
  have c1 : Steps p.tables e below (s₁.setTop (entryFrame m #[.ref b, .int (Int32.ofNat o), .ref d, .int (Int32.ofNat q), .int (Int32.ofNat len)] 7)) (s₁.setTop (mkF m 0 #[.val (.ref b), .val (.int (Int32.ofNat o)), .val (.ref d), .val (.int (Int32.ofNat q)), .val (.int (Int32.ofNat len)), .unset, .unset] [])) := entry rfl
  have hA0 := hA.1.mv X0.warmed.alike hh0
  have hB0 := hB.mv X0.warmed.alike hh0
  have a31 := hA.1.2.2.2
  have c2 : Steps p.tables e below (s₁.setTop (entryFrame m #[.ref b, .int (Int32.ofNat o), .ref d, .int (Int32.ofNat q), .int (Int32.ofNat len)] 7)) (s₁.setTop (mkF m 3 #[.val (.ref b), .val (.int (Int32.ofNat o)), .val (.ref d), .val (.int (Int32.ofNat q)), .val (.int (Int32.ofNat len)), .val (.int 0), .unset] [])) := c1.trans (by
    refine iconstV X0.here hexec rfl 0 (hb hbytes d0) (by decide) ?_
    refine XS.istore X0.here hexec rfl (hb hbytes d1) rfl rfl ?_
    exact Steps.refl _)
  have loop : ∀ (r i : Nat), i + r = len → ∀ (z : Slot), (z = .unset ∨ ∃ w, z = .val w ∧ w.category = 1) → ∀ (Tl : State) (Bk : Cell), Stand p l e { frames := 0, locals := 0, cells := 0, slots := 0 } s m #[.ref b, .int (Int32.ofNat o), .ref d, .int (Int32.ofNat q), .int (Int32.ofNat len)] below meth c Tl ([] ++ copyLocs d q i) 0 0 → Put d Bk s₁ Tl → Laid B Bk q (q + i) (fun j => Value.int (lo8 (cv A (o + (j - q))))) →
      Steps p.tables e below (s₁.setTop (entryFrame m #[.ref b, .int (Int32.ofNat o), .ref d, .int (Int32.ofNat q), .int (Int32.ofNat len)] 7)) (Tl.setTop (mkF m 3 #[.val (.ref b), .val (.int (Int32.ofNat (o + i))), .val (.ref d), .val (.int (Int32.ofNat (q + i))), .val (.int (Int32.ofNat len)), .val (.int (Int32.ofNat i)), z] [])) → ∃ (T' : State) (B' : Cell) (z' : Slot), Stand p l e { frames := 0, locals := 0, cells := 0, slots := 0 } s m #[.ref b, .int (Int32.ofNat o), .ref d, .int (Int32.ofNat q), .int (Int32.ofNat len)] below meth c T' ([] ++ copyLocs d q len) 0 0 ∧ Put d B' s₁ T' ∧ Laid B B' q (q + len) (fun j => Value.int (lo8 (cv A (o + (j - q))))) ∧
      Steps p.tables e below (s₁.setTop (entryFrame m #[.ref b, .int (Int32.ofNat o), .ref d, .int (Int32.ofNat q), .int (Int32.ofNat len)] 7)) (T'.setTop (mkF m 3 #[.val (.ref b), .val (.int (Int32.ofNat (o + len))), .val (.ref d), .val (.int (Int32.ofNat (q + len))), .val (.int (Int32.ofNat len)), .val (.int (Int32.ofNat len)), z'] [])) := by
    intro r
    induction r with
    | zero =>
      intro i hi z hz Tl Bk Xl pl fl cl
      have hil : i = len := by omega
      rw [hil] at Xl fl cl
      exact ⟨Tl, Bk, z, Xl, pl, fl, cl⟩
    | succ r ih =>
      intro i hi z hz Tl Bk Xl pl fl cl
      have all := X0.warmed.alike.symm.trans Xl.warmed.alike
      have hAl := hA0.keep all (pl.other hne hA0.1)
      have hBk := hB0.like all pl.1 fl.1 fl.2.1 fl.2.2.1
      have hlt : q + i < Bk.slots.size := by rw [fl.2.2.1]; omega
      have c3 : Steps p.tables e below (s₁.setTop (entryFrame m #[.ref b, .int (Int32.ofNat o), .ref d, .int (Int32.ofNat q), .int (Int32.ofNat len)] 7)) (Tl.setTop (mkF m 12 #[.val (.ref b), .val (.int (Int32.ofNat (o + i))), .val (.ref d), .val (.int (Int32.ofNat (q + i))), .val (.int (Int32.ofNat len)), .val (.int (Int32.ofNat i)), z] [.int (Int32.ofNat (o + i)), .ref b])) := cl.trans (by
        refine XS.iload Xl.here hexec rfl (hb hbytes d3) rfl ?_
        refine XS.iload Xl.here hexec rfl (hb hbytes d5) rfl ?_
        refine XS.icmpNo Xl.here hexec rfl (hb hbytes d7) rfl (ii_ge_f (lt32 (by omega) (by omega))) ?_
        refine XS.aloadN Xl.here hexec rfl (hb hbytes d10) rfl rfl ?_
        refine XS.iloadN Xl.here hexec rfl (hb hbytes d11) rfl ?_
        exact Steps.refl _)
      have c4 : Steps p.tables e below (s₁.setTop (entryFrame m #[.ref b, .int (Int32.ofNat o), .ref d, .int (Int32.ofNat q), .int (Int32.ofNat len)] 7)) (Tl.setTop (mkF m 13 #[.val (.ref b), .val (.int (Int32.ofNat (o + i))), .val (.ref d), .val (.int (Int32.ofNat (q + i))), .val (.int (Int32.ofNat len)), .val (.int (Int32.ofNat i)), z] [.int (cv A (o + i))])) := c3.trans (by
        refine Xl.aget hexec hAl rfl (hA.get (i := o + i) (by omega)) rfl rfl (hb hbytes d12) ?_
        exact Steps.refl _)
      have c5 : Steps p.tables e below (s₁.setTop (entryFrame m #[.ref b, .int (Int32.ofNat o), .ref d, .int (Int32.ofNat q), .int (Int32.ofNat len)] 7)) (Tl.setTop (mkF m 15 #[.val (.ref b), .val (.int (Int32.ofNat (o + i))), .val (.ref d), .val (.int (Int32.ofNat (q + i))), .val (.int (Int32.ofNat len)), .val (.int (Int32.ofNat i)), .val (.int (cv A (o + i)))] [])) := c4.trans (by
        refine XS.istoreS Xl.here hexec rfl (hb hbytes d13) rfl rfl hz ?_
        exact Steps.refl _)
      have c6 : Steps p.tables e below (s₁.setTop (entryFrame m #[.ref b, .int (Int32.ofNat o), .ref d, .int (Int32.ofNat q), .int (Int32.ofNat len)] 7)) (Tl.setTop (mkF m 31 #[.val (.ref b), .val (.int (Int32.ofNat (o + i))), .val (.ref d), .val (.int (Int32.ofNat (q + i))), .val (.int (Int32.ofNat len)), .val (.int (Int32.ofNat i)), .val (.int (cv A (o + i)))] [.int (lo8 (cv A (o + i))), .int (Int32.ofNat (q + i)), .ref d])) := c5.trans (by
        refine XS.iload Xl.here hexec rfl (hb hbytes d15) rfl ?_
        refine sipushV Xl.here hexec rfl 255 (hb hbytes d17) (by decide) ?_
        refine XS.icmpYes Xl.here hexec rfl (pc0 := 20) rfl (hb hbytes d20) rfl (ii_le_t (hp i (by omega))) (by decide) rfl ?_
        refine XS.aloadN Xl.here hexec rfl (hb hbytes d26) rfl rfl ?_
        refine XS.iloadN Xl.here hexec rfl (hb hbytes d27) rfl ?_
        refine XS.iload Xl.here hexec rfl (hb hbytes d28) rfl ?_
        refine i2b Xl.here hexec rfl (hb hbytes d30) rfl ?_
        exact Steps.refl _)
      obtain ⟨T7, X7, p7, st7⟩ := Xl.aput hexec hBk rfl hlt rfl (fits_lo8 (cv A (o + i))) (g := (mkF m 31 #[.val (.ref b), .val (.int (Int32.ofNat (o + i))), .val (.ref d), .val (.int (Int32.ofNat (q + i))), .val (.int (Int32.ofNat len)), .val (.int (Int32.ofNat i)), .val (.int (cv A (o + i)))] [.int (lo8 (cv A (o + i))), .int (Int32.ofNat (q + i)), .ref d])) rfl (rest := []) rfl (hb hbytes d31)
      have c8 : Steps p.tables e below (s₁.setTop (entryFrame m #[.ref b, .int (Int32.ofNat o), .ref d, .int (Int32.ofNat q), .int (Int32.ofNat len)] 7)) (T7.setTop (mkF m 32 #[.val (.ref b), .val (.int (Int32.ofNat (o + i))), .val (.ref d), .val (.int (Int32.ofNat (q + i))), .val (.int (Int32.ofNat len)), .val (.int (Int32.ofNat i)), .val (.int (cv A (o + i)))] [])) := c6.trans (st7 _ (Steps.refl _))
      have c9 : Steps p.tables e below (s₁.setTop (entryFrame m #[.ref b, .int (Int32.ofNat o), .ref d, .int (Int32.ofNat q), .int (Int32.ofNat len)] 7)) (T7.setTop (mkF m 3 #[.val (.ref b), .val (.int (Int32.ofNat (o + i) + 1)), .val (.ref d), .val (.int (Int32.ofNat (q + i) + 1)), .val (.int (Int32.ofNat len)), .val (.int (Int32.ofNat i + 1)), .val (.int (cv A (o + i)))] [])) := c8.trans (by
        refine iincV X7.here hexec rfl 1 (hb hbytes d32) (by decide) rfl rfl ?_
        refine iincV X7.here hexec rfl 1 (hb hbytes d35) (by decide) rfl rfl ?_
        refine iincV X7.here hexec rfl 1 (hb hbytes d38) (by decide) rfl rfl ?_
        refine XS.goto X7.here hexec rfl (pc0 := 41) rfl (hb hbytes d41) (by decide) rfl ?_
        exact Steps.refl _)
      have c10 : Steps p.tables e below (s₁.setTop (entryFrame m #[.ref b, .int (Int32.ofNat o), .ref d, .int (Int32.ofNat q), .int (Int32.ofNat len)] 7)) (T7.setTop (mkF m 3 #[.val (.ref b), .val (.int (Int32.ofNat (o + (i + 1)))), .val (.ref d), .val (.int (Int32.ofNat (q + (i + 1)))), .val (.int (Int32.ofNat len)), .val (.int (Int32.ofNat (i + 1))), .val (.int (cv A (o + i)))] [])) := by
        have := c9
        rw [succ32, succ32, succ32] at this
        exact this
      exact ih (i + 1) (by omega) _ (Or.inr ⟨_, rfl, rfl⟩) T7 _ (by rw [copyLocs_step, ← List.append_assoc]; exact X7) (pl.trans p7) (fl.step (by omega) hlt (by simp)) c10
  obtain ⟨T9, B9, z9, X9, p9, f9, g9⟩ := loop len 0 (by omega) .unset (Or.inl rfl) s₁ B (by simpa [copyLocs] using X0) ⟨hB0.1, fun _ _ => rfl, rfl⟩ (Laid.zero _ _ _) c2
  have c11 : Steps p.tables e below (s₁.setTop (entryFrame m #[.ref b, .int (Int32.ofNat o), .ref d, .int (Int32.ofNat q), .int (Int32.ofNat len)] 7)) (T9.setTop (mkF m 46 #[.val (.ref b), .val (.int (Int32.ofNat (o + len))), .val (.ref d), .val (.int (Int32.ofNat (q + len))), .val (.int (Int32.ofNat len)), .val (.int (Int32.ofNat len)), z9] [.int (Int32.ofNat len)])) := g9.trans (by
    refine XS.iload X9.here hexec rfl (hb hbytes d3) rfl ?_
    refine XS.iload X9.here hexec rfl (hb hbytes d5) rfl ?_
    refine XS.icmpYes X9.here hexec rfl (pc0 := 7) rfl (hb hbytes d7) rfl (ii_ge_t (nlt32 (by omega) (Nat.le_refl _))) (by decide) rfl ?_
    refine XS.iload X9.here hexec rfl (hb hbytes d44) rfl ?_
    exact Steps.refl _)
  exact ⟨T9, some (.int (Int32.ofNat len)), _, _, _, X9, by simp, rfl, rfl, (fun h => by cases h), ⟨rfl, B9, p9.from hh0, f9⟩, fun fs hl => c11.trans (X9.ireturnOut hexec hret rfl (Or.inl rfl) (hb hbytes d46) hl)⟩
end Cmp5
namespace Cmp3
def yN : MethodName := ⟨"java/lang/StringUTF16", "compress", "([CII)[B"⟩
abbrev yB : ByteArray := jdk_52_method_16_code
theorem d0 : decode yB 0 = .ok (.iload_n 2, 1) := by decide +kernel
theorem d1 : decode yB 1 = .ok (.newarray .byte, 2) := by decide +kernel
theorem d3 : decode yB 3 = .ok (.astore_n 3, 1) := by decide +kernel
theorem d4 : decode yB 4 = .ok (.aload_n 0, 1) := by decide +kernel
theorem d5 : decode yB 5 = .ok (.iload_n 1, 1) := by decide +kernel
theorem d6 : decode yB 6 = .ok (.aload_n 3, 1) := by decide +kernel
theorem d7 : decode yB 7 = .ok (.iconst 0, 1) := by decide +kernel
theorem d8 : decode yB 8 = .ok (.iload_n 2, 1) := by decide +kernel
theorem d9 : decode yB 9 = .ok (.invokestatic 115, 3) := by decide +kernel
theorem d12 : decode yB 12 = .ok (.istore 4, 2) := by decide +kernel
theorem d14 : decode yB 14 = .ok (.iload 4, 2) := by decide +kernel
theorem d16 : decode yB 16 = .ok (.iload_n 2, 1) := by decide +kernel
theorem d17 : decode yB 17 = .ok (.if_icmp (.eq) 40, 3) := by decide +kernel
theorem d57 : decode yB 57 = .ok (.aload_n 3, 1) := by decide +kernel
theorem d58 : decode yB 58 = .ok (.areturn, 1) := by decide +kernel
def site : List Cond := [.arrayClass .byte, Cmp5.tab] ++ staticW U16 115 Cmp5.yN
def tab : Cond := tabOf yN yB 6 (some (.array .byte)) site
def P (b : Addr) (A : Cell) (o len : Nat) (args : Array Value) (s : State) : Prop := args = #[.ref b, .int (Int32.ofNat o), .int (Int32.ofNat len)] ∧ Ch b A s ∧ o + len ≤ A.slots.size ∧ len ≤ 536870912 ∧ ∀ i, i < len → ¬ 255 < cv A (o + i)
def E (b : Addr) (A : Cell) (o len : Nat) (r : Option Value) (s u : State) : Prop := NewArr .byte "[B" len (fun j => .int (lo8 (cv A (o + j)))) r s u ∧ u.heap.size = s.heap.size + 1
/-- no char of the range above 255: a new byte[] of their low bytes -/
theorem law (l : Launch) (b : Addr) (A : Cell) (o len : Nat) : Law l yN 3 3 1 18 yB 6 (some (.array .byte)) site (P b A o len) (E b A o len) [] 1 len := by
  refine Law.of_walk (plainFor_of_name (by decide +kernel)) (by decide +kernel) (by decide +kernel) (by decide) (fun _ _ h => by rw [h.1]; rfl) (fun _ U U' hal hh h => ⟨h.1, h.2.1.mv hal hh, h.2.2⟩) (fun r U U' V V' h1 hal h2 h => ⟨NewArr.mv r U U' V V' h1 hal h2 h.1, by rw [h1, h2]; exact h.2⟩) ?_
  intro p e s m args below meth c s₁ X0 hexec hbytes hml hret hlk hnm hown hh0 W hP
  obtain ⟨rfl, hA, l1, l2, hp⟩ := hP
  have a31 := hA.1.2.2.2
  have c1 : Steps p.tables e below (s₁.setTop (entryFrame m #[.ref b, .int (Int32.ofNat o), .int (Int32.ofNat len)] 6)) (s₁.setTop (mkF m 0 #[.val (.ref b), .val (.int (Int32.ofNat o)), .val (.int (Int32.ofNat len)), .unset, .unset, .unset] [])) := entry rfl
  have c2 : Steps p.tables e below (s₁.setTop (entryFrame m #[.ref b, .int (Int32.ofNat o), .int (Int32.ofNat len)] 6)) (s₁.setTop (mkF m 1 #[.val (.ref b), .val (.int (Int32.ofNat o)), .val (.int (Int32.ofNat len)), .unset, .unset, .unset] [.int (Int32.ofNat len)])) := c1.trans (by
    refine XS.iloadN X0.here hexec rfl (hb hbytes d0) rfl ?_
    exact Steps.refl _)
  obtain ⟨T3, B3, X3, ba3, bs3, bv3, bh3, bf3, st3⟩ := X0.anew hexec (atype := .byte) (wk W (.arrayClass .byte)) rfl (by show len * 1 ≤ _; omega) (by omega) (g := (mkF m 1 #[.val (.ref b), .val (.int (Int32.ofNat o)), .val (.int (Int32.ofNat len)), .unset, .unset, .unset] [.int (Int32.ofNat len)])) rfl (hb hbytes d1) (rest := []) rfl (Nat.le_refl _) (by show 0 + len ≤ len; omega)
  rw [hh0] at ba3 st3
  have kp3 : XT.Kept s T3 := (XT.Kept.of_eq hh0).push bh3
  have hA3 := hA.keep X3.warmed.alike (kp3 _ _ hA.1.1)
  have hne : b ≠ s.heap.size := hA.1.ne
  have c4 : Steps p.tables e below (s₁.setTop (entryFrame m #[.ref b, .int (Int32.ofNat o), .int (Int32.ofNat len)] 6)) (T3.setTop (mkF m 3 #[.val (.ref b), .val (.int (Int32.ofNat o)), .val (.int (Int32.ofNat len)), .unset, .unset, .unset] [.ref s.heap.size])) := c2.trans (st3 _ (Steps.refl _))
  have c5 : Steps p.tables e below (s₁.setTop (entryFrame m #[.ref b, .int (Int32.ofNat o), .int (Int32.ofNat len)] 6)) (T3.setTop (mkF m 9 #[.val (.ref b), .val (.int (Int32.ofNat o)), .val (.int (Int32.ofNat len)), .val (.ref s.heap.size), .unset, .unset] [.int (Int32.ofNat len), .int 0, .ref s.heap.size, .int (Int32.ofNat o), .ref b])) := c4.trans (by
    refine XS.astoreN X3.here hexec rfl (hb hbytes d3) rfl rfl rfl ?_
    refine XS.aloadN X3.here hexec rfl (hb hbytes d4) rfl rfl ?_
    refine XS.iloadN X3.here hexec rfl (hb hbytes d5) rfl ?_
    refine XS.aloadN X3.here hexec rfl (hb hbytes d6) rfl rfl ?_
    refine iconstV X3.here hexec rfl 0 (hb hbytes d7) (by decide) ?_
    refine XS.iloadN X3.here hexec rfl (hb hbytes d8) rfl ?_
    exact Steps.refl _)
  obtain ⟨v6, T6, X6, E6, g6⟩ := X3.callS hexec (Cmp5.law l b A s.heap.size B3 o 0 len) hown (wks W (staticW U16 115 Cmp5.yN)) (wk W Cmp5.tab) (W := 0) (Nat.le_of_ble_eq_true rfl) (Nat.le_of_ble_eq_true rfl) (Nat.le_refl _) (by show 0 + len + 0 ≤ len; omega) (g := (mkF m 9 #[.val (.ref b), .val (.int (Int32.ofNat o)), .val (.int (Int32.ofNat len)), .val (.ref s.heap.size), .unset, .unset] [.int (Int32.ofNat len), .int (Int32.ofNat 0), .ref s.heap.size, .int (Int32.ofNat o), .ref b])) rfl (by rw [hml]; rfl) c5 (argsL := [.ref b, .int (Int32.ofNat o), .ref s.heap.size, .int (Int32.ofNat 0), .int (Int32.ofNat len)]) (rest := []) rfl rfl (by show 2 * 0 + 0 ≤ _; decide) (hb hbytes d9) (⟨rfl, hA3, ba3, hne, l1, by rw [bs3]; simp, hp⟩)
  obtain ⟨rfl, B6, p6, f6⟩ := E6
  have c7 : Steps p.tables e below (s₁.setTop (entryFrame m #[.ref b, .int (Int32.ofNat o), .int (Int32.ofNat len)] 6)) (T6.setTop (mkF m 12 #[.val (.ref b), .val (.int (Int32.ofNat o)), .val (.int (Int32.ofNat len)), .val (.ref s.heap.size), .unset, .unset] [.int (Int32.ofNat len)])) := g6
  have c8 : Steps p.tables e below (s₁.setTop (entryFrame m #[.ref b, .int (Int32.ofNat o), .int (Int32.ofNat len)] 6)) (T6.setTop (mkF m 58 #[.val (.ref b), .val (.int (Int32.ofNat o)), .val (.int (Int32.ofNat len)), .val (.ref s.heap.size), .val (.int (Int32.ofNat len)), .unset] [.ref s.heap.size])) := c7.trans (by
    refine XS.istore X6.here hexec rfl (hb hbytes d12) rfl rfl ?_
    refine XS.iload X6.here hexec rfl (hb hbytes d14) rfl ?_
    refine XS.iloadN X6.here hexec rfl (hb hbytes d16) rfl ?_
    refine XS.icmpYes X6.here hexec rfl (pc0 := 17) rfl (hb hbytes d17) rfl (ii_eq_t rfl) (by decide) rfl ?_
    refine XS.aloadN X6.here hexec rfl (hb hbytes d57) rfl rfl ?_
    exact Steps.refl _)
  have X8 := X6.wide (L' := []) (cells' := 1) (slots' := len) (fun x hx hlt => by
    simp only [List.nil_append, copyLocs, List.mem_map, List.mem_range] at hx
    obtain ⟨i, -, rfl⟩ := hx
    exact absurd hlt (Nat.lt_irrefl _)) (Nat.le_refl _) (by omega)
  exact ⟨T6, some (.ref s.heap.size), _, _, _, X8, rfl, rfl, rfl, (fun h => by cases h), ⟨⟨rfl, B6, ba3.like (X3.warmed.alike.symm.trans X6.warmed.alike) p6.1 f6.1 f6.2.1 f6.2.2.1, f6.2.1.trans bv3, by rw [X6.warmed.alike.findClass, f6.1]; exact bf3, by rw [f6.2.2.1, bs3]; simp, fun j hj => by rw [f6.2.2.2 j, if_pos (by omega)]; rfl, kp3.put p6 (Nat.le_refl _)⟩, by rw [p6.2.2, bh3, hh0]; simp⟩, fun fs hl => c8.trans (X8.areturnOut hexec rfl hret rfl (hb hbytes d58) hl)⟩
end Cmp3
namespace CodL
def yN : MethodName := ⟨"java/lang/StringUTF16", "coderFromArrayLen", "([BI)B"⟩
abbrev yB : ByteArray := jdk_52_method_15_code
theorem d0 : decode yB 0 = .ok (.iload_n 1, 1) := by decide +kernel
theorem d1 : decode yB 1 = .ok (.aload_n 0, 1) := by decide +kernel
theorem d2 : decode yB 2 = .ok (.arraylength, 1) := by decide +kernel
theorem d3 : decode yB 3 = .ok (.isub, 1) := by decide +kernel
theorem d4 : decode yB 4 = .ok (.bipush 31, 2) := by decide +kernel
theorem d6 : decode yB 6 = .ok (.iushr, 1) := by decide +kernel
theorem d7 : decode yB 7 = .ok (.i2b, 1) := by decide +kernel
theorem d8 : decode yB 8 = .ok (.ireturn, 1) := by decide +kernel
def site : List Cond := []
def tab : Cond := tabOf yN yB 2 (some .byte) site
def P (d : Addr) (B : Cell) (args : Array Value) (s : State) : Prop := args = #[.ref d, .int (Int32.ofNat B.slots.size)] ∧ Arr .byte d B s
def E (r : Option Value) (s u : State) : Prop := XT.PureE (some (.int 0)) r s u
/-- an array as long as the number of chars: LATIN1 -/
theorem law (l : Launch) (d : Addr) (B : Cell) : Law l yN 2 2 0 0 yB 2 (some .byte) site (P d B) E [] 0 0 := by
  refine Law.of_walk (plainFor_of_name (by decide +kernel)) (by decide +kernel) (by decide +kernel) (by decide) (fun _ _ h => by rw [h.1]; rfl) (fun _ U U' hal hh h => ⟨h.1, h.2.mv hal hh⟩) (fun r U U' V V' h1 hal h2 h => XT.PureE.mv r U U' V V' h1 hal h2 h) ?_
  intro p e s m args below meth c s₁ X0 hexec hbytes hml hret hlk hnm hown hh0 W hP
  obtain ⟨rfl, hB⟩ := hP
  have hB0 := hB.mv X0.warmed.alike hh0
  have c1 : Steps p.tables e below (s₁.setTop (entryFrame m #[.ref d, .int (Int32.ofNat B.slots.size)] 2)) (s₁.setTop (mkF m 0 #[.val (.ref d), .val (.int (Int32.ofNat B.slots.size))] [])) := entry rfl
  have c2 : Steps p.tables e below (s₁.setTop (entryFrame m #[.ref d, .int (Int32.ofNat B.slots.size)] 2)) (s₁.setTop (mkF m 2 #[.val (.ref d), .val (.int (Int32.ofNat B.slots.size))] [.ref d, .int (Int32.ofNat B.slots.size)])) := c1.trans (by
    refine XS.iloadN X0.here hexec rfl (hb hbytes d0) rfl ?_
    refine XS.aloadN X0.here hexec rfl (hb hbytes d1) rfl rfl ?_
    exact Steps.refl _)
  have c3 : Steps p.tables e below (s₁.setTop (entryFrame m #[.ref d, .int (Int32.ofNat B.slots.size)] 2)) (s₁.setTop (mkF m 8 #[.val (.ref d), .val (.int (Int32.ofNat B.slots.size))] [.int (lo8 (ushr (Int32.ofNat B.slots.size - Int32.ofNat B.slots.size) 31))])) := c2.trans (by
    refine X0.alen hexec hB0 rfl rfl (hb hbytes d2) ?_
    refine XS.isub X0.here hexec rfl (hb hbytes d3) rfl ?_
    refine bipushV X0.here hexec rfl 31 (hb hbytes d4) (by decide) ?_
    refine iushr X0.here hexec rfl (hb hbytes d6) rfl ?_
    refine i2b X0.here hexec rfl (hb hbytes d7) rfl ?_
    exact Steps.refl _)
  have e0 : lo8 (ushr (Int32.ofNat B.slots.size - Int32.ofNat B.slots.size) 31) = 0 := by rw [Int32.sub_self]; decide
  rw [e0] at c3
  exact ⟨s₁, some (.int 0), _, _, _, X0, rfl, rfl, rfl, (fun h => by cases h), ⟨rfl, hh0⟩, fun fs hl => c3.trans (X0.ireturnOut hexec hret rfl (Or.inr (Or.inr (Or.inl rfl))) (hb hbytes d8) hl)⟩
end CodL
/-- the String at a is Latin-1 over a new byte[] (the heap's one new cell): the low bytes of the len chars of A from o on; every cell but a is kept -/
def Got (a : Addr) (D : Cell) (fV fC : Field) (A : Cell) (o len : Nat) (r : Option Value) (s u : State) : Prop := r = none ∧ ∃ D' V : Cell, Blank "java/lang/String" a D' u ∧ Same D D' [fV.slot, fC.slot] ∧ D'.slots[fV.slot]? = some (.ref s.heap.size) ∧ D'.slots[fC.slot]? = some (.int 0) ∧ Arr .byte s.heap.size V u ∧ V.vm = .none ∧ u.vm.findClass "[B" = some V.cls ∧ V.slots.size = len ∧ (∀ j, j < len → V.slots[j]? = some (.int (lo8 (cv A (o + j))))) ∧ (∀ (y : Addr) (c : Cell), y ≠ a → s.heap[y]? = some c → u.heap[y]? = some c) ∧ u.heap.size = s.heap.size + 1
theorem Got.mv {a : Addr} {D A : Cell} {fV fC : Field} {o len : Nat} : ∀ r (U U' V V' : State), U'.heap = U.heap → V.vm.Alike V'.vm → V'.heap = V.heap → Got a D fV fC A o len r U V → Got a D fV fC A o len r U' V' :=
  fun r U U' V V' h1 hal h2 ⟨e0, D', X, a1, a2, a3, a4, a5, a6, a7, a8, a9, a10, a11⟩ => ⟨e0, D', X, a1.mv hal h2, a2, by rw [h1]; exact a3, a4, by rw [h1]; exact a5.mv hal h2, a6, by rw [hal.findClass]; exact a7, a8, a9, by rw [h1, h2]; exact a10, by rw [h1, h2]; exact a11⟩
namespace New4
def yN : MethodName := ⟨"java/lang/String", "<init>", "([CIILjava/lang/Void;)V"⟩
abbrev yB : ByteArray := jdk_42_method_149_code
theorem d0 : decode yB 0 = .ok (.aload_n 0, 1) := by decide +kernel
theorem d1 : decode yB 1 = .ok (.invokespecial 1, 3) := by decide +kernel
theorem d4 : decode yB 4 = .ok (.iload_n 3, 1) := by decide +kernel
theorem d5 : decode yB 5 = .ok (.ifCond (.ne) 22, 3) := by decide +kernel
theorem d27 : decode yB 27 = .ok (.getstatic 38, 3) := by decide +kernel
theorem d30 : decode yB 30 = .ok (.ifCond (.eq) 28, 3) := by decide +kernel
theorem d33 : decode yB 33 = .ok (.aload_n 1, 1) := by decide +kernel
theorem d34 : decode yB 34 = .ok (.iload_n 2, 1) := by decide +kernel
theorem d35 : decode yB 35 = .ok (.iload_n 3, 1) := by decide +kernel
theorem d36 : decode yB 36 = .ok (.invokestatic 177, 3) := by decide +kernel
theorem d39 : decode yB 39 = .ok (.astore 5, 2) := by decide +kernel
theorem d41 : decode yB 41 = .ok (.aload_n 0, 1) := by decide +kernel
theorem d42 : decode yB 42 = .ok (.aload 5, 2) := by decide +kernel
theorem d44 : decode yB 44 = .ok (.iload_n 3, 1) := by decide +kernel
theorem d45 : decode yB 45 = .ok (.invokestatic 47, 3) := by decide +kernel
theorem d48 : decode yB 48 = .ok (.putfield 15, 3) := by decide +kernel
theorem d51 : decode yB 51 = .ok (.aload_n 0, 1) := by decide +kernel
theorem d52 : decode yB 52 = .ok (.aload 5, 2) := by decide +kernel
theorem d54 : decode yB 54 = .ok (.putfield 9, 3) := by decide +kernel
theorem d57 : decode yB 57 = .ok (.return_, 1) := by decide +kernel
def site : List Cond := [.fieldLink "java/lang/String" 38 "java/lang/String" "COMPACT_STRINGS" "Z", Cmp3.tab, CodL.tab, .laysFinal "java/lang/String" "java/lang/String" "value" "[B", .fieldLink "java/lang/String" 9 "java/lang/String" "value" "[B", .laysFinal "java/lang/String" "java/lang/String" "coder" "B", .fieldLink "java/lang/String" 15 "java/lang/String" "coder" "B"] ++ objW "java/lang/String" 1 ++ staticW "java/lang/String" 177 Cmp3.yN ++ staticW "java/lang/String" 47 CodL.yN
def tab : Cond := tabOf yN yB 6 none site
def P (a : Addr) (D : Cell) (fV fC : Field) (b : Addr) (A : Cell) (z : Int32) (o len : Nat) (args : Array Value) (s : State) : Prop := args = #[.ref a, .ref b, .int (Int32.ofNat o), .int (Int32.ofNat len), .null] ∧ Blank "java/lang/String" a D s ∧ Found "java/lang/String" "value" "[B" fV s ∧ Found "java/lang/String" "coder" "B" fC s ∧ Ch b A s ∧ StaticIs s "java/lang/String" "COMPACT_STRINGS" "Z" (.int z) ∧ ¬ z = 0 ∧ 0 < len ∧ o + len ≤ A.slots.size ∧ len ≤ 536870912 ∧ ∀ i, i < len → ¬ 255 < cv A (o + i)
def E (a : Addr) (D : Cell) (fV fC : Field) (A : Cell) (o len : Nat) (r : Option Value) (s u : State) : Prop := Got a D fV fC A o len r s u
/-- len > 0, no char of the range above 255: a Latin-1 String of their low bytes -/
theorem law (l : Launch) (a : Addr) (D : Cell) (fV fC : Field) (b : Addr) (A : Cell) (z : Int32) (o len : Nat) : Law l yN 5 4 2 35 yB 6 none site (P a D fV fC b A z o len) (E a D fV fC A o len) [⟨a, fC.slot⟩, ⟨a, fV.slot⟩] 1 len := by
  refine Law.of_walk (plainFor_of_name (by decide +kernel)) (by decide +kernel) (by decide +kernel) (by decide) (fun _ _ h => by rw [h.1]; rfl) (fun _ U U' hal hh h => ⟨h.1, h.2.1.mv hal hh, h.2.2.1.al hal, h.2.2.2.1.al hal, h.2.2.2.2.1.mv hal hh, h.2.2.2.2.2.1.there hal hh, h.2.2.2.2.2.2⟩) (fun r U U' V V' h1 hal h2 h => Got.mv r U U' V V' h1 hal h2 h) ?_
  intro p e s m args below meth c s₁ X0 hexec hbytes hml hret hlk hnm hown hh0 W hP
  obtain ⟨rfl, hB, f1, f2, hA, s1, hz, l0, l1, l2, hp⟩ := hP
  have a31 := hA.1.2.2.2
  have c1 : Steps p.tables e below (s₁.setTop (entryFrame m #[.ref a, .ref b, .int (Int32.ofNat o), .int (Int32.ofNat len), .null] 6)) (s₁.setTop (mkF m 0 #[.val (.ref a), .val (.ref b), .val (.int (Int32.ofNat o)), .val (.int (Int32.ofNat len)), .val .null, .unset] [])) := entry rfl
  have c2 : Steps p.tables e below (s₁.setTop (entryFrame m #[.ref a, .ref b, .int (Int32.ofNat o), .int (Int32.ofNat len), .null] 6)) (s₁.setTop (mkF m 1 #[.val (.ref a), .val (.ref b), .val (.int (Int32.ofNat o)), .val (.int (Int32.ofNat len)), .val .null, .unset] [.ref a])) := c1.trans (by
    refine XS.aloadN X0.here hexec rfl (hb hbytes d0) rfl rfl ?_
    exact Steps.refl _)
  obtain ⟨T3, X3, q3, st3⟩ := X0.oinit hexec hown (wks W (objW "java/lang/String" 1)) (g := (mkF m 1 #[.val (.ref a), .val (.ref b), .val (.int (Int32.ofNat o)), .val (.int (Int32.ofNat len)), .val .null, .unset] [.ref a])) rfl (by rw [hml]; rfl) (rest := []) rfl (hb hbytes d1) (W := 0) (by show 2 * 0 + 0 ≤ _; decide) (Nat.le_of_ble_eq_true rfl) (Nat.le_of_ble_eq_true rfl)
  have hh3 := q3.trans hh0
  have c4 : Steps p.tables e below (s₁.setTop (entryFrame m #[.ref a, .ref b, .int (Int32.ofNat o), .int (Int32.ofNat len), .null] 6)) (T3.setTop (mkF m 27 #[.val (.ref a), .val (.ref b), .val (.int (Int32.ofNat o)), .val (.int (Int32.ofNat len)), .val .null, .unset] [])) := (c2.trans (st3 _ (Steps.refl _))).trans (by
    refine XS.iloadN X3.here hexec rfl (hb hbytes d4) rfl ?_
    refine XS.ifYes X3.here hexec rfl (pc0 := 5) rfl (hb hbytes d5) rfl (i0_ne_t (nz32 (by omega) l0)) (by decide) rfl ?_
    exact Steps.refl _)
  obtain ⟨T5, X5, q5, st5⟩ := X3.sget hexec hown (wk W (.fieldLink "java/lang/String" 38 "java/lang/String" "COMPACT_STRINGS" "Z")) s1 (fun _ _ h => by rw [hh3]; exact h) (g := (mkF m 27 #[.val (.ref a), .val (.ref b), .val (.int (Int32.ofNat o)), .val (.int (Int32.ofNat len)), .val .null, .unset] [])) rfl (hb hbytes d27)
  have hh5 := q5.trans hh3
  have c6 : Steps p.tables e below (s₁.setTop (entryFrame m #[.ref a, .ref b, .int (Int32.ofNat o), .int (Int32.ofNat len), .null] 6)) (T5.setTop (mkF m 30 #[.val (.ref a), .val (.ref b), .val (.int (Int32.ofNat o)), .val (.int (Int32.ofNat len)), .val .null, .unset] [.int z])) := c4.trans (st5 _ (Steps.refl _))
  have c7 : Steps p.tables e below (s₁.setTop (entryFrame m #[.ref a, .ref b, .int (Int32.ofNat o), .int (Int32.ofNat len), .null] 6)) (T5.setTop (mkF m 36 #[.val (.ref a), .val (.ref b), .val (.int (Int32.ofNat o)), .val (.int (Int32.ofNat len)), .val .null, .unset] [.int (Int32.ofNat len), .int (Int32.ofNat o), .ref b])) := c6.trans (by
    refine XS.ifNo X5.here hexec rfl (hb hbytes d30) rfl (i0_eq_f hz) ?_
    refine XS.aloadN X5.here hexec rfl (hb hbytes d33) rfl rfl ?_
    refine XS.iloadN X5.here hexec rfl (hb hbytes d34) rfl ?_
    refine XS.iloadN X5.here hexec rfl (hb hbytes d35) rfl ?_
    exact Steps.refl _)
  obtain ⟨v8, T8, X8, E8, g8⟩ := X5.callS hexec (Cmp3.law l b A o len) hown (wks W (staticW "java/lang/String" 177 Cmp3.yN)) (wk W Cmp3.tab) (W := 0) (Nat.le_of_ble_eq_true rfl) (Nat.le_of_ble_eq_true rfl) (Nat.le_refl _) (by show 0 + len ≤ len; omega) (g := (mkF m 36 #[.val (.ref a), .val (.ref b), .val (.int (Int32.ofNat o)), .val (.int (Int32.ofNat len)), .val .null, .unset] [.int (Int32.ofNat len), .int (Int32.ofNat o), .ref b])) rfl (by rw [hml]; rfl) c7 (argsL := [.ref b, .int (Int32.ofNat o), .int (Int32.ofNat len)]) (rest := []) rfl rfl (by show 2 * 0 + 0 ≤ _; decide) (hb hbytes d36) (⟨rfl, hA.mv X5.warmed.alike hh5, l1, l2, hp⟩)
  obtain ⟨e8, z8⟩ := E8
  obtain ⟨rfl, N, n1, n2, n3, n4, n5, n6⟩ := NewArr.mv _ T5 s _ _ hh5.symm (Vm.Alike.refl _) rfl e8
  rw [hh5] at z8
  have hB1 := hB.keep X8.warmed.alike (n6 _ _ hB.1)
  have hne : s.heap.size ≠ a := (Nat.ne_of_lt (Array.getElem?_eq_some_iff.mp hB.1).1).symm
  have c9 : Steps p.tables e below (s₁.setTop (entryFrame m #[.ref a, .ref b, .int (Int32.ofNat o), .int (Int32.ofNat len), .null] 6)) (T8.setTop (mkF m 39 #[.val (.ref a), .val (.ref b), .val (.int (Int32.ofNat o)), .val (.int (Int32.ofNat len)), .val .null, .unset] [.ref s.heap.size])) := g8
  have c10 : Steps p.tables e below (s₁.setTop (entryFrame m #[.ref a, .ref b, .int (Int32.ofNat o), .int (Int32.ofNat len), .null] 6)) (T8.setTop (mkF m 45 #[.val (.ref a), .val (.ref b), .val (.int (Int32.ofNat o)), .val (.int (Int32.ofNat len)), .val .null, .val (.ref s.heap.size)] [.int (Int32.ofNat N.slots.size), .ref s.heap.size, .ref a])) := by
    have hc : Steps p.tables e below (s₁.setTop (entryFrame m #[.ref a, .ref b, .int (Int32.ofNat o), .int (Int32.ofNat len), .null] 6)) (T8.setTop (mkF m 45 #[.val (.ref a), .val (.ref b), .val (.int (Int32.ofNat o)), .val (.int (Int32.ofNat len)), .val .null, .val (.ref s.heap.size)] [.int (Int32.ofNat len), .ref s.heap.size, .ref a])) := c9.trans (by
      refine XS.astore X8.here hexec rfl (hb hbytes d39) rfl rfl rfl ?_
      refine XS.aloadN X8.here hexec rfl (hb hbytes d41) rfl rfl ?_
      refine XS.aload X8.here hexec rfl (hb hbytes d42) rfl rfl ?_
      refine XS.iloadN X8.here hexec rfl (hb hbytes d44) rfl ?_
      exact Steps.refl _)
    rw [n4]; exact hc
  obtain ⟨v11, T11, X11, E11, g11⟩ := X8.callS hexec (CodL.law l s.heap.size N) hown (wks W (staticW "java/lang/String" 47 CodL.yN)) (wk W CodL.tab) (W := 1) (Nat.le_of_ble_eq_true rfl) (Nat.le_of_ble_eq_true rfl) (Nat.le_refl _) (by show 0 + len + 0 ≤ len; omega) (g := (mkF m 45 #[.val (.ref a), .val (.ref b), .val (.int (Int32.ofNat o)), .val (.int (Int32.ofNat len)), .val .null, .val (.ref s.heap.size)] [.int (Int32.ofNat N.slots.size), .ref s.heap.size, .ref a])) rfl (by rw [hml]; rfl) c10 (argsL := [.ref s.heap.size, .int (Int32.ofNat N.slots.size)]) (rest := [.ref a]) rfl rfl (by show 2 * 0 + (1 + 0) ≤ _; decide) (hb hbytes d45) (⟨rfl, n1⟩)
  obtain ⟨rfl, q11⟩ := E11
  have hB11 := hB1.mv (X8.warmed.alike.symm.trans X11.warmed.alike) q11
  have c12 : Steps p.tables e below (s₁.setTop (entryFrame m #[.ref a, .ref b, .int (Int32.ofNat o), .int (Int32.ofNat len), .null] 6)) (T11.setTop (mkF m 48 #[.val (.ref a), .val (.ref b), .val (.int (Int32.ofNat o)), .val (.int (Int32.ofNat len)), .val .null, .val (.ref s.heap.size)] [.int 0, .ref a])) := g11
  obtain ⟨T13, X13, p13, bl13, sl13, st13⟩ := X11.finit hexec hown (wk W (.fieldLink "java/lang/String" 15 "java/lang/String" "coder" "B")) (Or.inr ⟨_, (wk W (.laysFinal "java/lang/String" "java/lang/String" "coder" "B"))⟩) (Or.inl ⟨rfl, hnm⟩) f2 (Or.inl rfl) hB11 (t := .byte) (by decide +kernel) rfl (g := (mkF m 48 #[.val (.ref a), .val (.ref b), .val (.int (Int32.ofNat o)), .val (.int (Int32.ofNat len)), .val .null, .val (.ref s.heap.size)] [.int 0, .ref a])) rfl (rest := []) rfl (hb hbytes d48)
  have c14 : Steps p.tables e below (s₁.setTop (entryFrame m #[.ref a, .ref b, .int (Int32.ofNat o), .int (Int32.ofNat len), .null] 6)) (T13.setTop (mkF m 54 #[.val (.ref a), .val (.ref b), .val (.int (Int32.ofNat o)), .val (.int (Int32.ofNat len)), .val .null, .val (.ref s.heap.size)] [.ref s.heap.size, .ref a])) := (c12.trans (st13 _ (Steps.refl _))).trans (by
    refine XS.aloadN X13.here hexec rfl (hb hbytes d51) rfl rfl ?_
    refine XS.aload X13.here hexec rfl (hb hbytes d52) rfl rfl ?_
    exact Steps.refl _)
  obtain ⟨T15, X15, p15, bl15, sl15, st15⟩ := X13.finit hexec hown (wk W (.fieldLink "java/lang/String" 9 "java/lang/String" "value" "[B")) (Or.inr ⟨_, (wk W (.laysFinal "java/lang/String" "java/lang/String" "value" "[B"))⟩) (Or.inl ⟨rfl, hnm⟩) f1 (Or.inl rfl) bl13 (t := (.array .byte)) (by decide +kernel) rfl (g := (mkF m 54 #[.val (.ref a), .val (.ref b), .val (.int (Int32.ofNat o)), .val (.int (Int32.ofNat len)), .val .null, .val (.ref s.heap.size)] [.ref s.heap.size, .ref a])) rfl (rest := []) rfl (hb hbytes d54)
  have c16 : Steps p.tables e below (s₁.setTop (entryFrame m #[.ref a, .ref b, .int (Int32.ofNat o), .int (Int32.ofNat len), .null] 6)) (T15.setTop (mkF m 57 #[.val (.ref a), .val (.ref b), .val (.int (Int32.ofNat o)), .val (.int (Int32.ofNat len)), .val .null, .val (.ref s.heap.size)] [])) := c14.trans (st15 _ (Steps.refl _))
  have ap := apart (Or.inr ⟨_, (wk W (.laysFinal "java/lang/String" "java/lang/String" "value" "[B"))⟩) (Or.inr ⟨_, (wk W (.laysFinal "java/lang/String" "java/lang/String" "coder" "B"))⟩) f1 f2 (t₁ := .array .byte) (t₂ := .byte) (by decide +kernel) (by decide +kernel) (by decide)
  have al := X8.warmed.alike.symm.trans X15.warmed.alike
  have n7 : T11.heap[s.heap.size]? = some N := by rw [q11]; exact n1.1
  exact ⟨T15, none, _, _, _, X15, by simp, rfl, by omega, (fun _ => rfl), ⟨rfl, _, N, bl15, ((Same.refl D _).set _ (by simp)).set _ (by simp), sl15, (Cell.slots_setSlot_ne _ ap).trans sl13, n1.keep al (p15.other hne (p13.other hne n7)), n2, by rw [al.findClass]; exact n3, n4, n5, fun y c h1 h2 => p15.other h1 (p13.other h1 (by rw [q11]; exact n6 y c h2)), by rw [p15.2.2, p13.2.2, q11]; exact z8⟩, fun fs hl => c16.trans (X15.returnOut hexec hret (hb hbytes d57) hl)⟩
end New4
namespace New1
def yN : MethodName := ⟨"java/lang/String", "<init>", "([C)V"⟩
abbrev yB : ByteArray := jdk_42_method_3_code
theorem d0 : decode yB 0 = .ok (.aload_n 0, 1) := by decide +kernel
theorem d1 : decode yB 1 = .ok (.aload_n 1, 1) := by decide +kernel
theorem d2 : decode yB 2 = .ok (.iconst 0, 1) := by decide +kernel
theorem d3 : decode yB 3 = .ok (.aload_n 1, 1) := by decide +kernel
theorem d4 : decode yB 4 = .ok (.arraylength, 1) := by decide +kernel
theorem d5 : decode yB 5 = .ok (.aconst_null, 1) := by decide +kernel
theorem d6 : decode yB 6 = .ok (.invokespecial 27, 3) := by decide +kernel
theorem d9 : decode yB 9 = .ok (.return_, 1) := by decide +kernel
def site : List Cond := [New4.tab] ++ initW "java/lang/String" 27 New4.yN
def tab : Cond := tabOf yN yB 2 none site
def P (a : Addr) (D : Cell) (fV fC : Field) (b : Addr) (A : Cell) (z : Int32) (args : Array Value) (s : State) : Prop := args = #[.ref a, .ref b] ∧ Blank "java/lang/String" a D s ∧ Found "java/lang/String" "value" "[B" fV s ∧ Found "java/lang/String" "coder" "B" fC s ∧ Ch b A s ∧ StaticIs s "java/lang/String" "COMPACT_STRINGS" "Z" (.int z) ∧ ¬ z = 0 ∧ 0 < A.slots.size ∧ A.slots.size ≤ 536870912 ∧ ∀ i, i < A.slots.size → ¬ 255 < cv A i
def E (a : Addr) (D : Cell) (fV fC : Field) (A : Cell) (r : Option Value) (s u : State) : Prop := Got a D fV fC A 0 A.slots.size r s u
/-- new String(chars), not empty, no char above 255: a Latin-1 String of their low bytes -/
theorem law (l : Launch) (a : Addr) (D : Cell) (fV fC : Field) (b : Addr) (A : Cell) (z : Int32) : Law l yN 2 1 3 52 yB 2 none site (P a D fV fC b A z) (E a D fV fC A) [⟨a, fC.slot⟩, ⟨a, fV.slot⟩] 1 A.slots.size := by
  refine Law.of_walk (plainFor_of_name (by decide +kernel)) (by decide +kernel) (by decide +kernel) (by decide) (fun _ _ h => by rw [h.1]; rfl) (fun _ U U' hal hh h => ⟨h.1, h.2.1.mv hal hh, h.2.2.1.al hal, h.2.2.2.1.al hal, h.2.2.2.2.1.mv hal hh, h.2.2.2.2.2.1.there hal hh, h.2.2.2.2.2.2⟩) (fun r U U' V V' h1 hal h2 h => Got.mv r U U' V V' h1 hal h2 h) ?_
  intro p e s m args below meth c s₁ X0 hexec hbytes hml hret hlk hnm hown hh0 W hP
  obtain ⟨rfl, hB, f1, f2, hA, s1, hz, l0, l2, hp⟩ := hP
  have c1 : Steps p.tables e below (s₁.setTop (entryFrame m #[.ref a, .ref b] 2)) (s₁.setTop (mkF m 0 #[.val (.ref a), .val (.ref b)] [])) := entry rfl
  have c2 : Steps p.tables e below (s₁.setTop (entryFrame m #[.ref a, .ref b] 2)) (s₁.setTop (mkF m 6 #[.val (.ref a), .val (.ref b)] [.null, .int (Int32.ofNat A.slots.size), .int 0, .ref b, .ref a])) := c1.trans (by
    refine XS.aloadN X0.here hexec rfl (hb hbytes d0) rfl rfl ?_
    refine XS.aloadN X0.here hexec rfl (hb hbytes d1) rfl rfl ?_
    refine iconstV X0.here hexec rfl 0 (hb hbytes d2) (by decide) ?_
    refine XS.aloadN X0.here hexec rfl (hb hbytes d3) rfl rfl ?_
    refine X0.alen hexec (hA.1.mv X0.warmed.alike hh0) rfl rfl (hb hbytes d4) ?_
    refine XS.aconstNull X0.here hexec rfl (hb hbytes d5) ?_
    exact Steps.refl _)
  obtain ⟨v3, T3, X3, E3, g3⟩ := X0.callN hexec (New4.law l a D fV fC b A z 0 A.slots.size) rfl hown (wks W (initW "java/lang/String" 27 New4.yN)) (W New4.tab (by simp only [site, List.mem_cons, List.mem_append, true_or, or_true])) (W := 0) (Nat.le_of_ble_eq_true rfl) (Nat.le_of_ble_eq_true rfl) (Nat.le_refl _) (by show 0 + A.slots.size ≤ A.slots.size; omega) (g := (mkF m 6 #[.val (.ref a), .val (.ref b)] [.null, .int (Int32.ofNat A.slots.size), .int (Int32.ofNat 0), .ref b, .ref a])) rfl (by rw [hml]; rfl) c2 (argsL := [.ref b, .int (Int32.ofNat 0), .int (Int32.ofNat A.slots.size), .null]) (rest := []) rfl rfl (by show 2 * 0 + 0 ≤ _; decide) (hb hbytes d6) (⟨rfl, hB.mv X0.warmed.alike hh0, f1.al X0.warmed.alike, f2.al X0.warmed.alike, hA.mv X0.warmed.alike hh0, s1.there X0.warmed.alike hh0, hz, l0, by omega, l2, fun i hi => by rw [Nat.zero_add]; exact hp i hi⟩)
  have e0 := Got.mv _ s₁ s _ _ hh0.symm (Vm.Alike.refl _) rfl E3
  obtain rfl := e0.1
  have c4 : Steps p.tables e below (s₁.setTop (entryFrame m #[.ref a, .ref b] 2)) (T3.setTop (mkF m 9 #[.val (.ref a), .val (.ref b)] [])) := g3
  exact ⟨T3, none, _, _, _, X3, by simp, rfl, by omega, (fun _ => rfl), e0, fun fs hl => c4.trans (X3.returnOut hexec hret (hb hbytes d9) hl)⟩
theorem pays {l : Launch} {R : Room} {p : Program} {e : Env} {below : List Frame} {s : State} {sargs : Array Value} {len W : Nat} (a : Addr) (D : Cell) (fV fC : Field) (b : Addr) (A : Cell) (z : Int32) (htab : tab.before sargs s = true) (hfr : 4 ≤ R.frames) (hlo : W + 65 ≤ R.locals) :
    Back l R p e below s sargs yN len W (fun A₁ a₁ => A₁.cells + 1 ≤ R.cells ∧ A₁.slots + A.slots.size ≤ R.slots ∧ P a D fV fC b A z a₁ A₁.U) (fun A₁ _ v₁ B₁ => E a D fV fC A v₁ A₁.U B₁.U ∧ B₁.locs = A₁.locs ++ [⟨a, fC.slot⟩, ⟨a, fV.slot⟩] ∧ B₁.cells = A₁.cells + 1 ∧ B₁.slots = A₁.slots + A.slots.size) :=
  (law l a D fV fC b A z).pays htab hfr (by omega)
end New1
end StrChars
namespace StrChars.Road
open Jvm Sem ClassFile Op Lib Jvm.Stand Jvm.Free Jvm.Free.XT
open Jvm.Lib.Cold (StaticIs)
abbrev ST : String := "java/lang/String"
/-- every table word that New1's law asks, flat -/
abbrev words : List Jvm.Cond := [.code New1.yN New1.yB 2 none, .initialized ST, .methodLink ST 27 New4.yN, .instanceMethod New4.yN,
  .code New4.yN New4.yB 6 none, .fieldLink ST 38 ST "COMPACT_STRINGS" "Z", .laysFinal ST ST "value" "[B", .fieldLink ST 9 ST "value" "[B", .laysFinal ST ST "coder" "B", .fieldLink ST 15 ST "coder" "B",
  .methodLink ST 1 Lib.objectInit, .instanceMethod Lib.objectInit, .code Lib.objectInit ⟨#[0xb1]⟩ 1 none, .methodLink ST 177 Cmp3.yN, .static Cmp3.yN, .methodLink ST 47 CodL.yN, .static CodL.yN,
  .code Cmp3.yN Cmp3.yB 6 (some (.array .byte)), .initialized U16, .arrayClass .byte, .methodLink U16 115 Cmp5.yN, .static Cmp5.yN, .code Cmp5.yN Cmp5.yB 7 (some .int), .code CodL.yN CodL.yB 2 (some .byte)]
theorem tab_of {a : Array Value} {s : State} (h : ∀ w ∈ words, w.before a s = true) : New1.tab.before a s = true := by
  have h5 : Cmp5.tab.before a s = true := unparts (wk h (.code Cmp5.yN Cmp5.yB 7 (some .int))) (wks h (.initialized Cmp5.yN.cls :: Cmp5.site))
  have hc : CodL.tab.before a s = true := unparts (wk h (.code CodL.yN CodL.yB 2 (some .byte))) (wks h (.initialized CodL.yN.cls :: CodL.site))
  have q5 : ∀ w ∈ Cmp5.tab :: words, w.before a s = true := fun w hw => (List.mem_cons.mp hw).elim (fun e => e ▸ h5) (h w)
  have h3 : Cmp3.tab.before a s = true := unparts (wk q5 (.code Cmp3.yN Cmp3.yB 6 (some (.array .byte)))) (wks q5 (.initialized Cmp3.yN.cls :: Cmp3.site))
  have q3 : ∀ w ∈ Cmp3.tab :: CodL.tab :: words, w.before a s = true := fun w hw => (List.mem_cons.mp hw).elim (fun e => e ▸ h3) fun hw => (List.mem_cons.mp hw).elim (fun e => e ▸ hc) (h w)
  have h4 : New4.tab.before a s = true := unparts (wk q3 (.code New4.yN New4.yB 6 none)) (wks q3 (.initialized New4.yN.cls :: New4.site))
  have q4 : ∀ w ∈ New4.tab :: words, w.before a s = true := fun w hw => (List.mem_cons.mp hw).elim (fun e => e ▸ h4) (h w)
  exact unparts (wk q4 (.code New1.yN New1.yB 2 none)) (wks q4 (.initialized New1.yN.cls :: New1.site))
/-- the words ride from the start Z to the walk's own state -/
theorem moved {Z s : State} {a0 args : Array Value} (hZ : Z.Warmed39 s.vm) (hw : ∀ d ∈ words, d.before a0 Z = true) : ∀ d ∈ words, d.before args s = true := fun d hd => by
  have q := hw d hd
  have t : ∀ d ∈ words, d = .arrayClass .byte ∨ (d.onTables && d.keepsFace) = true := by decide +kernel
  rcases t d hd with rfl | t
  · exact RoadKit.mvA hZ q
  · exact RoadKit.mv hZ q t
/-- WHAT COMES BACK, over the tables of the start Z: h the heap at the call, h' behind it -/
def Q (Z : State) (x : Addr) (A : Cell) (h : Heap) (v : Option Value) (h' : Heap) (L : List Loc) : Prop := v = none ∧ (∀ y ∈ L, y.base = x) ∧ RoadKit.Keep h h' [x] ∧ h'.size = h.size + 1 ∧ RoadKit.Exa Z h' x ST ∧ RoadKit.Fld Z h' x ST "value" "[B" (.ref h.size) ∧ RoadKit.Fld Z h' x ST "coder" "B" (.int 0) ∧
  (∃ V : Cell, RoadKit.Arr Z h' h.size V .byte ∧ V.vm = .none ∧ Z.vm.findClass "[B" = some V.cls ∧ V.slots.size = A.slots.size ∧ ∀ j, j < A.slots.size → V.slots[j]? = some (.int (lo8 (cv A j)))) ∧
  ∀ (O n d : String) (w : Value), RoadKit.Fld Z h x O n d w → RoadKit.slotOf Z O n d ≠ RoadKit.slotOf Z ST "value" "[B" → RoadKit.slotOf Z O n d ≠ RoadKit.slotOf Z ST "coder" "B" → RoadKit.Fld Z h' x O n d w
/-- **new String(chars) AT A CALL, IN THE ROAD'S FORM**: for specialBack behind newO: x the fresh String, b the char[] with the cell A -/
theorem back {p : Program} {l : Launch} {e : Env} {R : Room} {s : State} {args : Array Value} {below : List Frame} {len W : Nat} {Z : State} {a0 : Array Value} {h : Heap} (hZ : Z.Warmed39 s.vm) (hw : ∀ d ∈ words, d.before a0 Z = true) {kI : Nat} (wi : (Jvm.Cond.instantiable ST kI).before a0 Z = true)
    {x b : Addr} {A : Cell} {z : Int32} {v0 c0 : Value} (E : RoadKit.Exa Z h x ST) (V : RoadKit.Fld Z h x ST "value" "[B" v0) (C : RoadKit.Fld Z h x ST "coder" "B" c0) (K : RoadKit.Arr Z h b A .char) (hty : Typed .char A) (S : RoadKit.Sta Z h ST "COMPACT_STRINGS" "Z" (.int z)) (hz : ¬ z = 0)
    (l0 : 0 < A.slots.size) (l2 : A.slots.size ≤ 536870912) (hp : ∀ i, i < A.slots.size → ¬ 255 < cv A i) (hfr : 4 ≤ R.frames) (hlo : W + 65 ≤ R.locals) :
    Back l R p e below s args New1.yN len W (fun P a => a = #[.ref x, .ref b] ∧ P.U.heap = h ∧ P.cells + 1 ≤ R.cells ∧ P.slots + A.slots.size ≤ R.slots)
      (fun P _ v B => ∃ L, Q Z x A h v B.U.heap L ∧ B.locs = P.locs ++ L ∧ B.cells = P.cells + 1 ∧ B.slots = P.slots + A.slots.size) := by
  intro m meth c P g ig mk a X hg hsize hdg hW hn hp'
  obtain ⟨rfl, rfl, r1, r2⟩ := hp'
  have al : Z.vm.Alike P.U.vm := hZ.alike.trans X.warmed.alike
  obtain ⟨D, cfV, kV, iV, fV, hD, gV, stV, knV, obV, asV, slV⟩ := id V
  obtain ⟨D', cfC, kC, iC, fC, hD', gC, stC, -, -, asC, slC⟩ := id C
  cases hD.symm.trans hD'
  obtain ⟨D2, kD, e1, e2, e3, e4, e5⟩ := id E
  cases hD.symm.trans e1
  obtain ⟨c2, k2, i1, i2, i3, -⟩ := Cond.instantiable_spec wi
  cases e2.symm.trans i1
  cases e3.symm.trans i2
  obtain ⟨kU, u1, u2⟩ := al.2.2 _ _ e3
  have hB : Blank ST x D P.U := ⟨hD, ⟨knV, fun q hq => by rw [hq] at obV; cases obV⟩, by rw [al.findClass]; exact e2, kU, u1, by rw [u2]; exact i3, by rw [u2]; exact e5 i3⟩
  have F1 : Found ST "value" "[B" fV P.U := ⟨SBG.found_only al ⟨cfV, kV, iV, gV⟩, stV⟩
  have F2 : Found ST "coder" "B" fC P.U := ⟨SBG.found_only al ⟨cfC, kC, iC, gC⟩, stC⟩
  have hA : Ch b A P.U := ⟨⟨K.1, State.isArrayOf_alike al K.2.1, K.2.2, by omega⟩, hty⟩
  have hS : StaticIs P.U ST "COMPACT_STRINGS" "Z" (.int z) := by
    obtain ⟨cfS, iS, kS, fS, st, cS, t1, t2, t3, t4, t5, t6, t7⟩ := S
    exact StaticIs.there (s := { Z with heap := P.U.heap }) ⟨cfS, iS, kS, fS, st, cS, t1, t2, t3, t4, t5, (fun q => by rw [q] at t6; cases t6), t7⟩ al rfl
  obtain ⟨v, B, X', ⟨⟨hv, E', V', q1, q2, q3, q4, q5, q6, q7, q8, q9, q10, q11⟩, hl, hc, hs⟩, st⟩ := New1.pays x D fV fC b A z (tab_of (moved hZ hw)) hfr hlo m meth c P g ig mk _ X hg hsize hdg hW hn ⟨r1, r2, rfl, hB, F1, F2, hA, hS, hz, l0, l2, hp⟩
  have al' : Z.vm.Alike B.U.vm := hZ.alike.trans X'.warmed.alike
  have hsz : E'.slots.size = D.slots.size := by
    obtain ⟨-, -, -, kB, w1, w2, w3⟩ := q1
    obtain ⟨kB', y1, y2⟩ := al'.2.2 _ _ e3
    rw [q2.2.1] at w1
    cases w1.symm.trans y1
    rw [w3, e5 i3, y2]
  refine ⟨v, B, X', ⟨_, ⟨hv, ?_, ⟨by omega, fun y cy hy hn' => q10 y cy (by simpa using hn') hy, fun y cy hy => ?_⟩, q11, ⟨E', _, q1.1, by rw [q2.2.1]; exact e2, by rw [q2.2.1]; exact e3, by rw [q2.1]; exact obV, fun _ => by rw [hsz]; exact e5 i3⟩,
    ⟨E', cfV, kV, iV, fV, q1.1, gV, stV, by rw [q2.1]; exact knV, by rw [q2.1]; exact obV, by rw [q2.2.1]; exact asV, q3⟩, ⟨E', cfC, kC, iC, fC, q1.1, gC, stC, by rw [q2.1]; exact knV, by rw [q2.1]; exact obV, by rw [q2.2.1]; exact asC, q4⟩,
    ⟨V', ⟨q5.1, State.isArrayOf_alike al'.symm q5.2.1, q5.2.2.1⟩, q6, by rw [← al'.findClass]; exact q7, q8, fun j hj => by have := q9 j hj; rwa [Nat.zero_add] at this⟩, fun O n d w F n1 n2 => ?_⟩, hl, hc, hs⟩, st⟩
  · intro y hy
    simp only [List.mem_cons, List.not_mem_nil, or_false] at hy
    rcases hy with rfl | rfl <;> rfl
  · by_cases q : y = x
    · subst q
      cases hD.symm.trans hy
      exact ⟨E', q1.1, q2.2.1, q2.1, hsz⟩
    · exact ⟨cy, q10 y cy q hy, rfl, rfl, rfl⟩
  · obtain ⟨D3, cf, k, i, f, g1, g2, g3, g4, g5, g6, g7⟩ := F
    cases hD.symm.trans g1
    simp only [RoadKit.slotOf, g2, gV, gC, Option.map_some, Option.getD_some] at n1 n2
    exact ⟨E', cf, k, i, f, q1.1, g2, g3, by rw [q2.1]; exact g4, by rw [q2.1]; exact g5, by rw [q2.2.1]; exact g6, by rw [q2.2.2 f.slot (by simp [n1, n2])]; exact g7⟩
end StrChars.Road
namespace StrChars.Road
open Jvm Sem ClassFile Op Lib Jvm.Stand Jvm.Free Jvm.Free.XT
/-- WHAT COMES BACK, the byte[] as a list of values -/
def QA (Z : State) (x : Addr) (zn : Int32) (cs : List Int32) (h : Heap) (v : Option Value) (h' : Heap) (L : List Loc) : Prop := v = none ∧ (∀ y ∈ L, y.base = x) ∧ RoadKit.Keep h h' [x] ∧ h'.size = h.size + 1 ∧ RoadKit.Exa Z h' x ST ∧ RoadKit.Fld Z h' x ST "value" "[B" (.ref h.size) ∧ RoadKit.Fld Z h' x ST "coder" "B" (.int 0) ∧
  (∃ kb, Z.vm.findClass "[B" = some kb ∧ RoadKit.Arv Z h' h.size kb .byte zn (cs.map fun c => .int (lo8 c)) (.int 0)) ∧
  ∀ (O n d : String) (w : Value), RoadKit.Fld Z h x O n d w → RoadKit.slotOf Z O n d ≠ RoadKit.slotOf Z ST "value" "[B" → RoadKit.slotOf Z O n d ≠ RoadKit.slotOf Z ST "coder" "B" → RoadKit.Fld Z h' x O n d w
/-- **new String(chars) AT A CALL, THE ARRAYS AS LISTS**: the char[] at b holds cs, not empty, no char above 255 -/
theorem backArv {p : Program} {l : Launch} {e : Env} {R : Room} {s : State} {args : Array Value} {below : List Frame} {len W : Nat} {Z : State} {a0 : Array Value} {h : Heap} (hZ : Z.Warmed39 s.vm) (hw : ∀ d ∈ words, d.before a0 Z = true) {kI : Nat} (wi : (Jvm.Cond.instantiable ST kI).before a0 Z = true)
    {x b : Addr} {k : ClassId} {zn z : Int32} {cs : List Int32} {dv v0 c0 : Value} (E : RoadKit.Exa Z h x ST) (V : RoadKit.Fld Z h x ST "value" "[B" v0) (C : RoadKit.Fld Z h x ST "coder" "B" c0) (K : RoadKit.Arv Z h b k .char zn (cs.map Value.int) dv) (S : RoadKit.Sta Z h ST "COMPACT_STRINGS" "Z" (.int z)) (hz : ¬ z = 0)
    (hlen : zn.toNatClampNeg = cs.length) (h0 : 0 < cs.length) (hbig : cs.length ≤ 536870912) (hall : ∀ c ∈ cs, ¬ 255 < c) (hfr : 4 ≤ R.frames) (hlo : W + 65 ≤ R.locals) :
    Back l R p e below s args New1.yN len W (fun P a => a = #[.ref x, .ref b] ∧ P.U.heap = h ∧ P.cells + 1 ≤ R.cells ∧ P.slots + cs.length ≤ R.slots)
      (fun P _ v B => ∃ L, QA Z x zn cs h v B.U.heap L ∧ B.locs = P.locs ++ L ∧ B.cells = P.cells + 1 ∧ B.slots = P.slots + cs.length) := by
  obtain ⟨A, K1, K2, K3, K4, K5, K6⟩ := K
  have e : A.slots.size = cs.length := K3.trans hlen
  have hat : ∀ (i : Nat) (hi : i < cs.length), A.slots[i]? = some (.int cs[i]) := fun i hi => by rw [K5 i (by omega)]; simp [List.getD_eq_getElem?_getD, hi]
  have hcv : ∀ (i : Nat) (hi : i < cs.length), cv A i = cs[i] := fun i hi => by unfold cv; rw [hat i hi]
  have hty : Typed .char A := fun i v hv => by
    have hi : i < A.slots.size := (Array.getElem?_eq_some_iff.mp hv).1
    have q := K5 i hi
    rw [hv] at q
    rw [Option.some.inj q]
    exact K6 i hi
  refine Back.mono (back hZ hw wi E V C K1 hty S hz (by omega) (by omega) (fun i hi => by rw [hcv i (by omega)]; exact hall _ (List.getElem_mem _)) hfr hlo) (fun P a hp => ⟨hp.1, hp.2.1, hp.2.2.1, by rw [e]; exact hp.2.2.2⟩) (fun P a v B hp hq => ?_)
  obtain ⟨L, ⟨q1, q2, q3, q4, q5, q6, q7, ⟨V', v1, v2, v3, v4, v5⟩, q9⟩, hl, hc, hs⟩ := hq
  refine ⟨L, ⟨q1, q2, q3, q4, q5, q6, q7, ⟨V'.cls, v3, V', v1, rfl, by rw [v4, e, hlen], K4, fun i hi => ?_, fun i hi => ?_⟩, q9⟩, hl, hc, by rw [hs, e]⟩
  · have hi' : i < cs.length := by omega
    rw [v5 i (by omega), hcv i hi']; simp [List.getD_eq_getElem?_getD, hi']
  · have hi' : i < cs.length := by omega
    simp only [List.getD_eq_getElem?_getD, List.getElem?_map, List.getElem?_eq_getElem hi', Option.map_some, Option.getD_some]
    exact fits_lo8 _
end StrChars.Road
namespace StrChars.Road
open Jvm Sem ClassFile Op Lib Jvm.Stand Jvm.Free Jvm.Free.XT
/-- WHAT COMES BACK, in the writer's own shape -/
def QV (Z : State) (x : Addr) (N : Int32) (bs : List Int32) (h : Heap) (n0 : Nat) (v : Option Value) (h' : Heap) (L : List Loc) : Prop := v = none ∧ RoadKit.Fr n0 L ∧ RoadKit.Keep h h' [x] ∧ RoadKit.Exa Z h' x ST ∧ RoadKit.Fld Z h' x ST "coder" "B" (.int 0) ∧
  ∃ (t : Addr) (kb : ClassId), n0 ≤ t ∧ h.size ≤ t ∧ ¬ t = x ∧ RoadKit.Fld Z h' x ST "value" "[B" (.ref t) ∧ RoadKit.Arv Z h' t kb .byte N (bs.map Value.int) (.int 0)
/-- **new String(chars) AT A CALL, FOR THE WRITER**: a char[] of n known ints, each 0 to 255 -/
theorem backV {p : Program} {l : Launch} {e : Env} {R : Room} {s : State} {args : Array Value} {below : List Frame} {len W : Nat} {Z : State} {a0 : Array Value} {h : Heap} (hZ : Z.Warmed39 s.vm) (hw : ∀ d ∈ words, d.before a0 Z = true) {kI : Nat} (wi : (Jvm.Cond.instantiable ST kI).before a0 Z = true)
    {x b : Addr} {kC : ClassId} {cs bs : List Int32} {d v0 c0 : Value} {z N : Int32} {n n0 : Nat} (hx0 : n0 ≤ x) (hh0 : n0 ≤ h.size) (E : RoadKit.Exa Z h x ST) (V : RoadKit.Fld Z h x ST "value" "[B" v0) (C : RoadKit.Fld Z h x ST "coder" "B" c0) (K : RoadKit.Arv Z h b kC .char N (cs.map Value.int) d) (S : RoadKit.Sta Z h ST "COMPACT_STRINGS" "Z" (.int z)) (hz : ¬ z = 0)
    (hn : cs.length = n) (hN : N = Int32.ofNat n) (l0 : 0 < n) (l2 : n ≤ 4000) (hp : ∀ c ∈ cs, ¬ c < 0 ∧ ¬ (255 : Int32) < c) (hb : bs = cs.map (fun c => c.toInt8.toInt32)) (hfr : 4 ≤ R.frames) (hlo : W + 65 ≤ R.locals) :
    Back l R p e below s args (⟨"java/lang/String", "<init>", "([C)V"⟩ : MethodName) len W (fun P a => a = #[.ref x, .ref b] ∧ P.U.heap = h ∧ P.cells + 1 ≤ R.cells ∧ P.slots + n ≤ R.slots)
      (fun P _ v B => ∃ L, QV Z x N bs h n0 v B.U.heap L ∧ B.locs = P.locs ++ L ∧ B.cells = P.cells + 1 ∧ B.slots = P.slots + n) := by
  subst hn hN hb
  refine Back.mono (backArv hZ hw wi E V C K S hz (n32 (by omega)) l0 (by omega) (fun c hc => (hp c hc).2) hfr hlo) (fun P a hp => hp) (fun P a v B hp hq => ?_)
  obtain ⟨L, ⟨q1, q2, q3, q4, q5, q6, q7, ⟨kb, v1, v2⟩, q9⟩, hl, hc, hs⟩ := hq
  exact ⟨L, ⟨q1, fun y hy => by rw [q2 y hy]; exact hx0, q3, q5, q7, h.size, kb, hh0, Nat.le_refl _, Nat.ne_of_gt E.lt, q6, by rw [List.map_map]; exact v2⟩, hl, hc, hs⟩
end StrChars.Road
end Jvm.Pilot.@@N@@
namespace Jvm.Pilot.@@N@@
open Jvm Jvm.ClassFile Sem Op Lib Jvm.Free Jvm.Stand Jvm.LawKit Jvm.RoadKit Bundle Jvm.Pilot.@@N@@.Jvm.D
def own_Go (tb : Tables) (e : Env) (below : List Frame) (P : State → Prop) (A : State) : Prop := ∃ t, Steps tb e below A t ∧ P t
theorem own_go {tb : Tables} {e : Env} {below : List Frame} {P : State → Prop} {A B : State} (h : ∀ t, Steps tb e below B t → Steps tb e below A t) (g : own_Go tb e below P B) : own_Go tb e below P A := by
  obtain ⟨t, h1, h2⟩ := g
  exact ⟨t, h t h1, h2⟩
theorem own_fin {tb : Tables} {e : Env} {below : List Frame} {A : State} {Qq : Outcome → State → Prop} (g : own_Go tb e below (fun t => ∃ o, t.status = .running ∧ Ended t below o ∧ Qq o t) A) : ∃ t o, Steps tb e below A t ∧ t.status = .running ∧ Ended t below o ∧ Qq o t := by
  obtain ⟨t, h1, o, h2, h3, h4⟩ := g
  exact ⟨t, o, h1, h2, h3, h4⟩
theorem own_ret {tb : Tables} {e : Env} {below : List Frame} {P : State → Prop} {A t : State} (h : Steps tb e below A t) (q : P t) : own_Go tb e below P A := ⟨t, h, q⟩
def own_M (l : Launch) (y : MethodName) (bytes : ByteArray) (maxL : Nat) (ret : Option FieldType) (ws : List Jvm.Cond) (rm : Room) (Z : State) (as : Array Value) (h0 : Heap) (Q : Option Value → Heap → List Loc → Prop) : Prop := MetFree l y (head1 (Jvm.Cond.code y bytes maxL ret :: ws) rm) (fun aR UR => aR = as ∧ Z.Warmed39 UR.vm ∧ UR.heap = h0) (fun _ _ _ _ _ => True) (fun _ UR oR UR' => ∃ vR LR, oR = .returned vR ∧ Q vR UR'.heap LR ∧ FrameEnd UR oR UR' LR rm.cells rm.slots)
theorem own_body {l : Launch} {y : MethodName} {bytes : ByteArray} {maxL : Nat} {ret : Option FieldType} {ws : List Jvm.Cond} {rm : Room} {Z : State} {as : Array Value} {h0 : Heap} {Q : Option Value → Heap → List Loc → Prop} {own : String} {f : MethodId → JFrame} (ho : y.cls = own) (hx : plainFor y = true) (ef : ∀ m, entryFrame m as maxL = f m) (k : ∀ (p : Program) (e : Env) (s : State) (m : MethodId) (below : List Frame) (meth : Method) (c : Code) (s₁ : State), BodyLoose p l y (head1 (Jvm.Cond.code y bytes maxL ret :: ws) rm) bytes maxL ret e s m as below meth c s₁ → c.maxLocals = maxL → Z.Warmed39 s.vm → s.heap = h0 → p.tables.exec = Jvm.exec → c.code = bytes → s.vm.findClass own = some m.cls → Stand p l e rm s m as below meth c s₁ [] 0 0 → s₁.heap = h0 → own_Go p.tables e below (fun t => ∃ o, t.status = .running ∧ Ended t below o ∧ ∃ vR LR, o = .returned vR ∧ Q vR t.heap LR ∧ FrameEnd s o t LR rm.cells rm.slots) (s₁.setTop (f m))) : own_M l y bytes maxL ret ws rm Z as h0 Q := by
  subst ho
  refine MetFree.of_bodySF hx hisR ?_
  intro p e s m args below meth c s₁ Bd hml hP hK
  obtain ⟨rfl, hZ, hh⟩ := hP
  exact own_fin (own_go (fun tT kK => castTop (ef m) kK) (k p e s m below meth c s₁ Bd hml hZ hh Bd.exec Bd.bytes (findClass_of_methodNamed Bd.named) (Stand.of_body Bd) (by rw [← hh, Bd.state]; rfl)))
theorem own_sh {tb : Tables} {e : Env} {below : List Frame} {P : State → Prop} {T : State} {m : MethodId} (pc : Nat) (Ls : Array Slot) (st : List Value) (g : own_Go tb e below P (T.setTop (mkF m pc Ls st))) : own_Go tb e below P (T.setTop (mkF m pc Ls st)) := g
theorem own_nn {a b : Nat} (h : ¬ a = b) : a ≠ b := h
theorem own_w {Z : State} {a0 : Array Value} {tab : List Jvm.Cond} (hw : ∀ d ∈ tab, d.before a0 Z = true) (i : Nat) {d : Jvm.Cond} (h : tab[i]? = some d) : d.before a0 Z = true := hw d (List.mem_of_getElem? h)
theorem own_iloadN {tb : Tables} [Ours tb] {e : Env} {below : List Frame} {T : State} {m : MethodId} {c : Code} {P : State → Prop} {pc : Nat} {Ls : Array Slot} {st : List Value} {bc : ByteArray} (h : At T m c below) (hx : tb.exec = Jvm.exec) (hby : c.code = bc) {k : Fin 4} {v : Int32} (hd : decode bc pc = .ok (.iload_n k, 1)) (hl : Ls[k.val]? = some (.val (.int v))) (g : own_Go tb e below P (T.setTop (mkF m (pc + 1) Ls ((.int v) :: st)))) : own_Go tb e below P (T.setTop (mkF m pc Ls (st))) := own_go (fun t k => XS.iloadN h hx rfl (hb hby hd) hl k) g
theorem own_iload {tb : Tables} [Ours tb] {e : Env} {below : List Frame} {T : State} {m : MethodId} {c : Code} {P : State → Prop} {pc : Nat} {Ls : Array Slot} {st : List Value} {bc : ByteArray} (h : At T m c below) (hx : tb.exec = Jvm.exec) (hby : c.code = bc) {k : Nat} {v : Int32} (hd : decode bc pc = .ok (.iload k, 2)) (hl : Ls[k]? = some (.val (.int v))) (g : own_Go tb e below P (T.setTop (mkF m (pc + 2) Ls ((.int v) :: st)))) : own_Go tb e below P (T.setTop (mkF m pc Ls (st))) := own_go (fun t k => XS.iload h hx rfl (hb hby hd) hl k) g
theorem own_aloadN {tb : Tables} [Ours tb] {e : Env} {below : List Frame} {T : State} {m : MethodId} {c : Code} {P : State → Prop} {pc : Nat} {Ls : Array Slot} {st : List Value} {bc : ByteArray} (h : At T m c below) (hx : tb.exec = Jvm.exec) (hby : c.code = bc) {k : Fin 4} {v : Value} (hd : decode bc pc = .ok (.aload_n k, 1)) (hl : Ls[k.val]? = some (.val v)) (hv : v.isRef = true) (g : own_Go tb e below P (T.setTop (mkF m (pc + 1) Ls (v :: st)))) : own_Go tb e below P (T.setTop (mkF m pc Ls (st))) := own_go (fun t k => XS.aloadN h hx rfl (hb hby hd) hl hv k) g
theorem own_aload {tb : Tables} [Ours tb] {e : Env} {below : List Frame} {T : State} {m : MethodId} {c : Code} {P : State → Prop} {pc : Nat} {Ls : Array Slot} {st : List Value} {bc : ByteArray} (h : At T m c below) (hx : tb.exec = Jvm.exec) (hby : c.code = bc) {k : Nat} {v : Value} (hd : decode bc pc = .ok (.aload k, 2)) (hl : Ls[k]? = some (.val v)) (hv : v.isRef = true) (g : own_Go tb e below P (T.setTop (mkF m (pc + 2) Ls (v :: st)))) : own_Go tb e below P (T.setTop (mkF m pc Ls (st))) := own_go (fun t k => XS.aload h hx rfl (hb hby hd) hl hv k) g
theorem own_istore {tb : Tables} [Ours tb] {e : Env} {below : List Frame} {T : State} {m : MethodId} {c : Code} {P : State → Prop} {pc : Nat} {Ls : Array Slot} {st : List Value} {bc : ByteArray} (h : At T m c below) (hx : tb.exec = Jvm.exec) (hby : c.code = bc) {k : Nat} {x : Int32} {l' : Array Slot} (hd : decode bc pc = .ok (.istore k, 2)) (hl : storeLocals Ls k (.int x) = some l') (g : own_Go tb e below P (T.setTop (mkF m (pc + 2) l' (st)))) : own_Go tb e below P (T.setTop (mkF m pc Ls ((.int x) :: st))) := own_go (fun t k => XS.istore h hx rfl (hb hby hd) rfl hl k) g
theorem own_astoreN {tb : Tables} [Ours tb] {e : Env} {below : List Frame} {T : State} {m : MethodId} {c : Code} {P : State → Prop} {pc : Nat} {Ls : Array Slot} {st : List Value} {bc : ByteArray} (h : At T m c below) (hx : tb.exec = Jvm.exec) (hby : c.code = bc) {k : Fin 4} {x : Value} {l' : Array Slot} (hd : decode bc pc = .ok (.astore_n k, 1)) (hv : x.isRef = true) (hl : storeLocals Ls k.val x = some l') (g : own_Go tb e below P (T.setTop (mkF m (pc + 1) l' (st)))) : own_Go tb e below P (T.setTop (mkF m pc Ls (x :: st))) := own_go (fun t k => XS.astoreN h hx rfl (hb hby hd) rfl hv hl k) g
theorem own_astore {tb : Tables} [Ours tb] {e : Env} {below : List Frame} {T : State} {m : MethodId} {c : Code} {P : State → Prop} {pc : Nat} {Ls : Array Slot} {st : List Value} {bc : ByteArray} (h : At T m c below) (hx : tb.exec = Jvm.exec) (hby : c.code = bc) {k : Nat} {x : Value} {l' : Array Slot} (hd : decode bc pc = .ok (.astore k, 2)) (hv : x.isRef = true) (hl : storeLocals Ls k x = some l') (g : own_Go tb e below P (T.setTop (mkF m (pc + 2) l' (st)))) : own_Go tb e below P (T.setTop (mkF m pc Ls (x :: st))) := own_go (fun t k => XS.astore h hx rfl (hb hby hd) rfl hv hl k) g
theorem own_iconst {tb : Tables} [Ours tb] {e : Env} {below : List Frame} {T : State} {m : MethodId} {c : Code} {P : State → Prop} {pc : Nat} {Ls : Array Slot} {st : List Value} {bc : ByteArray} (h : At T m c below) (hx : tb.exec = Jvm.exec) (hby : c.code = bc) {i : Int} {v : Int32} (hd : decode bc pc = .ok (.iconst i, 1)) (hv : Int32.ofInt i = v) (g : own_Go tb e below P (T.setTop (mkF m (pc + 1) Ls ((.int v) :: st)))) : own_Go tb e below P (T.setTop (mkF m pc Ls st)) := by
  subst hv
  exact own_go (fun t k => XS.iconst h hx rfl (hb hby hd) k) g
theorem own_bipush {tb : Tables} [Ours tb] {e : Env} {below : List Frame} {T : State} {m : MethodId} {c : Code} {P : State → Prop} {pc : Nat} {Ls : Array Slot} {st : List Value} {bc : ByteArray} (h : At T m c below) (hx : tb.exec = Jvm.exec) (hby : c.code = bc) {i : Int} {v : Int32} (hd : decode bc pc = .ok (.bipush i, 2)) (hv : (Int8.ofInt i).toInt32 = v) (g : own_Go tb e below P (T.setTop (mkF m (pc + 2) Ls ((.int v) :: st)))) : own_Go tb e below P (T.setTop (mkF m pc Ls st)) := by
  subst hv
  exact own_go (fun t k => XS.bipush h hx rfl (hb hby hd) k) g
theorem own_sipush {tb : Tables} [Ours tb] {e : Env} {below : List Frame} {T : State} {m : MethodId} {c : Code} {P : State → Prop} {pc : Nat} {Ls : Array Slot} {st : List Value} {bc : ByteArray} (h : At T m c below) (hx : tb.exec = Jvm.exec) (hby : c.code = bc) {i : Int} {v : Int32} (hd : decode bc pc = .ok (.sipush i, 3)) (hv : (Int16.ofInt i).toInt32 = v) (g : own_Go tb e below P (T.setTop (mkF m (pc + 3) Ls ((.int v) :: st)))) : own_Go tb e below P (T.setTop (mkF m pc Ls st)) := by
  subst hv
  exact own_go (fun t k => XS.sipush h hx rfl (hb hby hd) k) g
theorem own_iadd {tb : Tables} [Ours tb] {e : Env} {below : List Frame} {T : State} {m : MethodId} {c : Code} {P : State → Prop} {pc : Nat} {Ls : Array Slot} {st : List Value} {bc : ByteArray} (h : At T m c below) (hx : tb.exec = Jvm.exec) (hby : c.code = bc) {x y v : Int32} (hd : decode bc pc = .ok (.iadd, 1)) (hv : (x + y) = v) (g : own_Go tb e below P (T.setTop (mkF m (pc + 1) Ls ((.int v) :: st)))) : own_Go tb e below P (T.setTop (mkF m pc Ls ((.int y) :: (.int x) :: st))) := by
  subst hv
  exact own_go (fun t k => XS.iadd h hx rfl (hb hby hd) rfl k) g
theorem own_imul {tb : Tables} [Ours tb] {e : Env} {below : List Frame} {T : State} {m : MethodId} {c : Code} {P : State → Prop} {pc : Nat} {Ls : Array Slot} {st : List Value} {bc : ByteArray} (h : At T m c below) (hx : tb.exec = Jvm.exec) (hby : c.code = bc) {x y v : Int32} (hd : decode bc pc = .ok (.imul, 1)) (hv : (x * y) = v) (g : own_Go tb e below P (T.setTop (mkF m (pc + 1) Ls ((.int v) :: st)))) : own_Go tb e below P (T.setTop (mkF m pc Ls ((.int y) :: (.int x) :: st))) := by
  subst hv
  exact own_go (fun t k => XS.imul h hx rfl (hb hby hd) rfl k) g
theorem own_iand {tb : Tables} [Ours tb] {e : Env} {below : List Frame} {T : State} {m : MethodId} {c : Code} {P : State → Prop} {pc : Nat} {Ls : Array Slot} {st : List Value} {bc : ByteArray} (h : At T m c below) (hx : tb.exec = Jvm.exec) (hby : c.code = bc) {x y v : Int32} (hd : decode bc pc = .ok (.iand, 1)) (hv : (x &&& y) = v) (g : own_Go tb e below P (T.setTop (mkF m (pc + 1) Ls ((.int v) :: st)))) : own_Go tb e below P (T.setTop (mkF m pc Ls ((.int y) :: (.int x) :: st))) := by
  subst hv
  exact own_go (fun t k => XS.iand h hx rfl (hb hby hd) rfl k) g
theorem own_ior {tb : Tables} [Ours tb] {e : Env} {below : List Frame} {T : State} {m : MethodId} {c : Code} {P : State → Prop} {pc : Nat} {Ls : Array Slot} {st : List Value} {bc : ByteArray} (h : At T m c below) (hx : tb.exec = Jvm.exec) (hby : c.code = bc) {x y v : Int32} (hd : decode bc pc = .ok (.ior, 1)) (hv : (x ||| y) = v) (g : own_Go tb e below P (T.setTop (mkF m (pc + 1) Ls ((.int v) :: st)))) : own_Go tb e below P (T.setTop (mkF m pc Ls ((.int y) :: (.int x) :: st))) := by
  subst hv
  exact own_go (fun t k => XS.ior h hx rfl (hb hby hd) rfl k) g
theorem own_iushr {tb : Tables} [Ours tb] {e : Env} {below : List Frame} {T : State} {m : MethodId} {c : Code} {P : State → Prop} {pc : Nat} {Ls : Array Slot} {st : List Value} {bc : ByteArray} (h : At T m c below) (hx : tb.exec = Jvm.exec) (hby : c.code = bc) {x y v : Int32} (hd : decode bc pc = .ok (.iushr, 1)) (hv : ((x.toUInt32 >>> (y &&& 31).toUInt32).toInt32) = v) (g : own_Go tb e below P (T.setTop (mkF m (pc + 1) Ls ((.int v) :: st)))) : own_Go tb e below P (T.setTop (mkF m pc Ls ((.int y) :: (.int x) :: st))) := by
  subst hv
  exact own_go (fun t k => XS.iushr h hx rfl (hb hby hd) rfl k) g
theorem own_i2c {tb : Tables} [Ours tb] {e : Env} {below : List Frame} {T : State} {m : MethodId} {c : Code} {P : State → Prop} {pc : Nat} {Ls : Array Slot} {st : List Value} {bc : ByteArray} (h : At T m c below) (hx : tb.exec = Jvm.exec) (hby : c.code = bc) {x : Int32} {v : Int32} (hd : decode bc pc = .ok (.i2c, 1)) (hv : (x.toUInt32.toUInt16.toUInt32.toInt32) = v) (g : own_Go tb e below P (T.setTop (mkF m (pc + 1) Ls ((.int v) :: st)))) : own_Go tb e below P (T.setTop (mkF m pc Ls ((.int x) :: st))) := by
  subst hv
  exact own_go (fun t k => XS.i2c h hx rfl (hb hby hd) rfl k) g
theorem own_dup {tb : Tables} [Ours tb] {e : Env} {below : List Frame} {T : State} {m : MethodId} {c : Code} {P : State → Prop} {pc : Nat} {Ls : Array Slot} {st : List Value} {bc : ByteArray} (h : At T m c below) (hx : tb.exec = Jvm.exec) (hby : c.code = bc) {x : Value} (hd : decode bc pc = .ok (.dup, 1)) (hc : x.category = 1) (g : own_Go tb e below P (T.setTop (mkF m (pc + 1) Ls (x :: x :: st)))) : own_Go tb e below P (T.setTop (mkF m pc Ls (x :: st))) := own_go (fun t k => XS.dup h hx rfl (hb hby hd) rfl hc k) g
theorem own_pop {tb : Tables} [Ours tb] {e : Env} {below : List Frame} {T : State} {m : MethodId} {c : Code} {P : State → Prop} {pc : Nat} {Ls : Array Slot} {st : List Value} {bc : ByteArray} (h : At T m c below) (hx : tb.exec = Jvm.exec) (hby : c.code = bc) {x : Value} (hd : decode bc pc = .ok (.pop, 1)) (hc : x.category = 1) (g : own_Go tb e below P (T.setTop (mkF m (pc + 1) Ls (st)))) : own_Go tb e below P (T.setTop (mkF m pc Ls (x :: st))) := own_go (fun t k => XS.pop h hx rfl (hb hby hd) rfl hc k) g
theorem own_dupX1 {tb : Tables} [Ours tb] {e : Env} {below : List Frame} {T : State} {m : MethodId} {c : Code} {P : State → Prop} {pc : Nat} {Ls : Array Slot} {st : List Value} {bc : ByteArray} (h : At T m c below) (hx : tb.exec = Jvm.exec) (hby : c.code = bc) {x y : Value} (hd : decode bc pc = .ok (.dup_x1, 1)) (hc : x.category = 1) (hc' : y.category = 1) (g : own_Go tb e below P (T.setTop (mkF m (pc + 1) Ls (x :: y :: x :: st)))) : own_Go tb e below P (T.setTop (mkF m pc Ls (x :: y :: st))) := own_go (fun t k => XS.dupX1 h hx rfl (hb hby hd) rfl hc hc' k) g
theorem own_goto {tb : Tables} [Ours tb] {e : Env} {below : List Frame} {T : State} {m : MethodId} {c : Code} {P : State → Prop} {pc : Nat} {Ls : Array Slot} {st : List Value} {bc : ByteArray} (h : At T m c below) (hx : tb.exec = Jvm.exec) (hby : c.code = bc) {o : Int} {pc' : Nat} (hd : decode bc pc = .ok (.goto o, 3)) (ho : 0 ≤ (pc : Int) + o) (hp : ((pc : Int) + o).toNat = pc') (g : own_Go tb e below P (T.setTop (mkF m pc' Ls st))) : own_Go tb e below P (T.setTop (mkF m pc Ls st)) := own_go (fun t k => XS.goto h hx rfl (pc0 := pc) rfl (hb hby hd) ho hp k) g
theorem own_ifYes {tb : Tables} [Ours tb] {e : Env} {below : List Frame} {T : State} {m : MethodId} {c : Code} {P : State → Prop} {pc : Nat} {Ls : Array Slot} {st : List Value} {bc : ByteArray} (h : At T m c below) (hx : tb.exec = Jvm.exec) (hby : c.code = bc) {cd : ClassFile.Cond} {o : Int} {pc' : Nat} {x : Int32} (hd : decode bc pc = .ok (.ifCond cd o, 3)) (hc : ifCond.holds cd x = true) (ho : 0 ≤ (pc : Int) + o) (hp : ((pc : Int) + o).toNat = pc') (g : own_Go tb e below P (T.setTop (mkF m pc' Ls st))) : own_Go tb e below P (T.setTop (mkF m pc Ls ((.int x) :: st))) := own_go (fun t k => XS.ifYes h hx rfl (pc0 := pc) rfl (hb hby hd) rfl hc ho hp k) g
theorem own_ifNo {tb : Tables} [Ours tb] {e : Env} {below : List Frame} {T : State} {m : MethodId} {c : Code} {P : State → Prop} {pc : Nat} {Ls : Array Slot} {st : List Value} {bc : ByteArray} (h : At T m c below) (hx : tb.exec = Jvm.exec) (hby : c.code = bc) {cd : ClassFile.Cond} {o : Int} {x : Int32} (hd : decode bc pc = .ok (.ifCond cd o, 3)) (hc : ifCond.holds cd x = false) (g : own_Go tb e below P (T.setTop (mkF m (pc + 3) Ls st))) : own_Go tb e below P (T.setTop (mkF m pc Ls ((.int x) :: st))) := own_go (fun t k => XS.ifNo h hx rfl (hb hby hd) rfl hc k) g
theorem own_icmpYes {tb : Tables} [Ours tb] {e : Env} {below : List Frame} {T : State} {m : MethodId} {c : Code} {P : State → Prop} {pc : Nat} {Ls : Array Slot} {st : List Value} {bc : ByteArray} (h : At T m c below) (hx : tb.exec = Jvm.exec) (hby : c.code = bc) {cd : ClassFile.Cond} {o : Int} {pc' : Nat} {x y : Int32} (hd : decode bc pc = .ok (.if_icmp cd o, 3)) (hc : if_icmp.holds cd x y = true) (ho : 0 ≤ (pc : Int) + o) (hp : ((pc : Int) + o).toNat = pc') (g : own_Go tb e below P (T.setTop (mkF m pc' Ls st))) : own_Go tb e below P (T.setTop (mkF m pc Ls ((.int y) :: (.int x) :: st))) := own_go (fun t k => XS.icmpYes h hx rfl (pc0 := pc) rfl (hb hby hd) rfl hc ho hp k) g
theorem own_icmpNo {tb : Tables} [Ours tb] {e : Env} {below : List Frame} {T : State} {m : MethodId} {c : Code} {P : State → Prop} {pc : Nat} {Ls : Array Slot} {st : List Value} {bc : ByteArray} (h : At T m c below) (hx : tb.exec = Jvm.exec) (hby : c.code = bc) {cd : ClassFile.Cond} {o : Int} {x y : Int32} (hd : decode bc pc = .ok (.if_icmp cd o, 3)) (hc : if_icmp.holds cd x y = false) (g : own_Go tb e below P (T.setTop (mkF m (pc + 3) Ls st))) : own_Go tb e below P (T.setTop (mkF m pc Ls ((.int y) :: (.int x) :: st))) := own_go (fun t k => XS.icmpNo h hx rfl (hb hby hd) rfl hc k) g
theorem own_ifnullNo {tb : Tables} [Ours tb] {e : Env} {below : List Frame} {T : State} {m : MethodId} {c : Code} {P : State → Prop} {pc : Nat} {Ls : Array Slot} {st : List Value} {bc : ByteArray} (h : At T m c below) (hx : tb.exec = Jvm.exec) (hby : c.code = bc) {o : Int} {b : Addr} (hd : decode bc pc = .ok (.ifnull o, 3)) (g : own_Go tb e below P (T.setTop (mkF m (pc + 3) Ls st))) : own_Go tb e below P (T.setTop (mkF m pc Ls ((.ref b) :: st))) := own_go (fun t k => XS.ifnullNo h hx rfl (hb hby hd) rfl k) g
section OwnGo
variable {p : Program} {l : Launch} {e : Env} {R : Room} {s : State} {m : MethodId} {args : Array Value} {below : List Frame} {meth : Method} {c : Code} {T : State} {locs : List Loc} {cells slots : Nat} {Z : State} {a0 : Array Value} {h : Heap} {P : State → Prop} {pc : Nat} {Ls : Array Slot} {st : List Value} {bc : ByteArray} {n0 : Nat}
theorem own_acmp (X : Stand p l e R s m args below meth c T locs cells slots) (hx : p.tables.exec = Jvm.exec) {cd : ACond} {x y : Value} {o : Int} {pc' : Nat} {same : Bool} (hby : c.code = bc) (hd : decode bc pc = .ok (.if_acmp cd o, 3)) (h1 : x.isRef = true) (h2 : y.isRef = true) (hq : decide (x = y) = same) (ho : 0 ≤ (pc : Int) + o) (hp : pc' = if acV cd same = true then ((pc : Int) + o).toNat else pc + 3) (k : own_Go p.tables e below P (T.setTop (mkF m pc' Ls st))) : own_Go p.tables e below P (T.setTop (mkF m pc Ls (y :: x :: st))) := by
  exact own_go (fun t k => Jvm.RoadKit.acmp (g := mkF m pc Ls (y :: x :: st)) X hx rfl h1 h2 rfl (hb hby hd) rfl hq ho hp k) k
theorem own_getF (X : Stand p l e R s m args below meth c T locs cells slots) (hx : p.tables.exec = Jvm.exec) (hZ : Z.Warmed39 s.vm) {own R0 O n d host : String} {index : Nat} (hown : s.vm.findClass own = some m.cls) (w : (Cond.fieldLink own index R0 n d).before a0 Z = true ∨ (Cond.fieldLinkNest own index R0 n d host).before a0 Z = true) (via : Via Z R0 O n d) (eT : T.heap = h) {a : Addr} {v : Value} (F : Fld Z h a O n d v) (hby : c.code = bc) (hd : decode bc pc = .ok (.getfield index, 3)) (k : ∀ T', Stand p l e R s m args below meth c T' locs cells slots → T'.heap = h → own_Go p.tables e below P (T'.setTop (mkF m (pc + 3) Ls (v :: st)))) : own_Go p.tables e below P (T.setTop (mkF m pc Ls ((.ref a) :: st))) := by
  obtain ⟨T', X', e', sp⟩ := getF X hx hZ hown w via eT F (g := mkF m pc Ls ((.ref a) :: st)) rfl rfl (hb hby hd)
  exact own_go sp (k T' X' e')
theorem own_putF (X : Stand p l e R s m args below meth c T locs cells slots) (hx : p.tables.exec = Jvm.exec) (hZ : Z.Warmed39 s.vm) {C : String} {kk : Nat} {ty : FieldType} {own R0 O n d host : String} {index : Nat} (hown : s.vm.findClass own = some m.cls) (w : (Cond.fieldLink own index R0 n d).before a0 Z = true ∨ (Cond.fieldLinkNest own index R0 n d host).before a0 Z = true) (via : Via Z R0 O n d) (eT : T.heap = h) {a : Addr} {v old : Value} (F : Fld Z h a O n d old) (E : Exa Z h a C) (L : (Cond.lays C O n d).before a0 Z = true ∨ ((Cond.laysFinal C O n d).before a0 Z = true ∧ own = O ∧ meth.name = "<init>")) (wi : (Cond.instantiable C kk).before a0 Z = true) (hty : parseFieldDescriptor d = some ty) (hn : narrow ty v = v) (hf : fits ty v = true) (hby : c.code = bc) (hd : decode bc pc = .ok (.putfield index, 3)) (N : Fr n0 locs) (ge : n0 ≤ a) (k : ∀ T' h' locs', Stand p l e R s m args below meth c T' locs' cells slots → T'.heap = h' → Fr n0 locs' → Wr h h' a (Jvm.RoadKit.slotOf Z O n d) v → Fld Z h' a O n d v → h.size ≤ h'.size → own_Go p.tables e below P (T'.setTop (mkF m (pc + 3) Ls st))) : own_Go p.tables e below P (T.setTop (mkF m pc Ls (v :: (.ref a) :: st))) := by
  obtain ⟨T', h', X', e', W, sp⟩ := putF X hx hZ hown w via eT F E L wi hty hn hf (g := mkF m pc Ls (v :: (.ref a) :: st)) rfl rfl (hb hby hd)
  exact own_go sp (k T' h' _ X' e' (Fr.snoc X' N ge) W (F.same W) (Keep.of_wr W).1)
theorem own_newO (X : Stand p l e R s m args below meth c T locs cells slots) (hx : p.tables.exec = Jvm.exec) (hZ : Z.Warmed39 s.vm) {own C : String} {index n : Nat} (hown : s.vm.findClass own = some m.cls) (w : (Cond.classLink own index C).before a0 Z = true) (wi : (Cond.instantiable C n).before a0 Z = true) (wz : (Cond.initialized C).before a0 Z = true) (eT : T.heap = h) (hby : c.code = bc) (hd : decode bc pc = .ok (.new index, 3)) (hc : cells + 1 ≤ R.cells) (hl : slots + n ≤ R.slots) (k : ∀ T' h' b, Stand p l e R s m args below meth c T' locs (cells + 1) (slots + n) → T'.heap = h' → Ext h h' → b = h.size → Exa Z h' b C → (∀ {O nm d : String} {ty : FieldType}, Laid Z a0 C O nm d → parseFieldDescriptor d = some ty → Fld Z h' b O nm d (defaultValue ty)) → b < h'.size → own_Go p.tables e below P (T'.setTop (mkF m (pc + 3) Ls ((.ref b) :: st)))) : own_Go p.tables e below P (T.setTop (mkF m pc Ls st)) := by
  obtain ⟨T', h', X', e', E, A, D, -, sp⟩ := newO X hx hZ hown w wi wz eT (g := mkF m pc Ls st) rfl (hb hby hd) hc hl
  exact own_go sp (k T' h' _ X' e' E rfl A D A.lt)
theorem own_newP (X : Stand p l e R s m args below meth c T locs cells slots) (hx : p.tables.exec = Jvm.exec) (hZ : Z.Warmed39 s.vm) {aty : ArrayType} (w : (Cond.arrayClass (newarray.typeOf aty)).before a0 Z = true) (eT : T.heap = h) (hby : c.code = bc) (hd : decode bc pc = .ok (.newarray aty, 2)) {n : Int32} (hn : ¬ n < 0) (cap : Nat) (hcap : n.toNatClampNeg ≤ cap) (hb8 : cap * 8 ≤ 536870912) (hc : cells + 1 ≤ R.cells) (hl : slots + cap ≤ R.slots) {ad : String} (had : "[" ++ (newarray.typeOf aty).toString = ad) (k : ∀ T' h' cA b, Stand p l e R s m args below meth c T' locs (cells + 1) (slots + cap) → T'.heap = h' → Ext h h' → b = h.size → Arv Z h' b cA (newarray.typeOf aty) n [] (defaultValue (newarray.typeOf aty)) → Exa Z h' b ad → b < h'.size → own_Go p.tables e below P (T'.setTop (mkF m (pc + 2) Ls ((.ref b) :: st)))) : own_Go p.tables e below P (T.setTop (mkF m pc Ls ((.int n) :: st))) := by
  obtain ⟨T', h', cA, X', e', E, A, C, sp⟩ := newPE X hx hZ w eT (g := mkF m pc Ls ((.int n) :: st)) rfl (hb hby hd) rfl hn (cap := cap) hcap hb8 hc hl had
  exact own_go sp (k T' h' cA _ X' e' E rfl (Arv.new A hn) C C.lt)
theorem own_newR (X : Stand p l e R s m args below meth c T locs cells slots) (hx : p.tables.exec = Jvm.exec) (hZ : Z.Warmed39 s.vm) {own C : String} {index : Nat} (hown : s.vm.findClass own = some m.cls) (w1 : (Cond.classLink own index C).before a0 Z = true) (w2 : (Cond.arrayOver (.object C)).before a0 Z = true) (eT : T.heap = h) (hby : c.code = bc) (hd : decode bc pc = .ok (.anewarray index, 3)) {n : Int32} (hn : ¬ n < 0) (cap : Nat) (hcap : n.toNatClampNeg ≤ cap) (hb8 : cap * 8 ≤ 536870912) (hc : cells + 1 ≤ R.cells) (hl : slots + cap ≤ R.slots) {ad : String} (had : "[" ++ (FieldType.object C).toString = ad) (k : ∀ T' h' cA b, Stand p l e R s m args below meth c T' locs (cells + 1) (slots + cap) → T'.heap = h' → Ext h h' → b = h.size → Arv Z h' b cA (.object C) n [] .null → Exa Z h' b ad → Ovr Z cA C → b < h'.size → own_Go p.tables e below P (T'.setTop (mkF m (pc + 3) Ls ((.ref b) :: st)))) : own_Go p.tables e below P (T.setTop (mkF m pc Ls ((.int n) :: st))) := by
  obtain ⟨T', h', cA, X', e', E, A, C, O, sp⟩ := newRE X hx hZ hown w1 w2 eT (g := mkF m pc Ls ((.int n) :: st)) rfl (hb hby hd) rfl hn (cap := cap) hcap hb8 hc hl had
  exact own_go sp (k T' h' cA _ X' e' E rfl (Arv.new A hn) C O C.lt)
theorem own_newRA (X : Stand p l e R s m args below meth c T locs cells slots) (hx : p.tables.exec = Jvm.exec) (hZ : Z.Warmed39 s.vm) {own C : String} {ty : FieldType} {index : Nat} (hown : s.vm.findClass own = some m.cls) (hC : (FieldType.array ty).toString = C) (w1 : (Cond.classLink own index C).before a0 Z = true) (w2 : (Cond.arrayOver (.array ty)).before a0 Z = true) (eT : T.heap = h) (hby : c.code = bc) (hd : decode bc pc = .ok (.anewarray index, 3)) {n : Int32} (hn : ¬ n < 0) (cap : Nat) (hcap : n.toNatClampNeg ≤ cap) (hb8 : cap * 8 ≤ 536870912) (hc : cells + 1 ≤ R.cells) (hl : slots + cap ≤ R.slots) {ad : String} (had : "[" ++ C = ad) (k : ∀ T' h' cA b, Stand p l e R s m args below meth c T' locs (cells + 1) (slots + cap) → T'.heap = h' → Ext h h' → b = h.size → Arv Z h' b cA (.array ty) n [] .null → Exa Z h' b ad → OvrA Z cA ty C → b < h'.size → own_Go p.tables e below P (T'.setTop (mkF m (pc + 3) Ls ((.ref b) :: st)))) : own_Go p.tables e below P (T.setTop (mkF m pc Ls ((.int n) :: st))) := by
  obtain ⟨T', h', cA, X', e', E, A, C, O, sp⟩ := newRA X hx hZ hown hC w1 w2 eT (g := mkF m pc Ls ((.int n) :: st)) rfl (hb hby hd) rfl hn (cap := cap) hcap hb8 hc hl had
  exact own_go sp (k T' h' cA _ X' e' E rfl (Arv.new A hn) C O C.lt)
theorem own_iastore (X : Stand p l e R s m args below meth c T locs cells slots) (hx : p.tables.exec = Jvm.exec) (hZ : Z.Warmed39 s.vm) (eT : T.heap = h) {a : Addr} {kc : ClassId} {z j : Int32} {x : Int32} {w : Value} {vs : List Value} {dv : Value} (V : Arv Z h a kc .int z vs dv) (hj : ¬ j < 0 ∧ j < z) (i : Nat) (hi : j.toNatClampNeg = i) (hl : i < vs.length) (hv : (.int x) = w) (hby : c.code = bc) (hd : decode bc pc = .ok (.iastore, 1)) (N : Fr n0 locs) (ge : n0 ≤ a) (k : ∀ T' h' locs', Stand p l e R s m args below meth c T' locs' cells slots → T'.heap = h' → Fr n0 locs' → Wr h h' a i w → Arv Z h' a kc .int z (vs.set i w) dv → h.size ≤ h'.size → own_Go p.tables e below P (T'.setTop (mkF m (pc + 1) Ls st))) : own_Go p.tables e below P (T.setTop (mkF m pc Ls ((.int x) :: (.int j) :: (.ref a) :: st))) := by
  subst hv hi
  obtain ⟨cl, A, q, S, M, H, G⟩ := V
  obtain ⟨T', h', X', e', W, sp⟩ := stI X hx hZ eT A (j := j) (inb_of S hj) (g := mkF m pc Ls ((.int x) :: (.int j) :: (.ref a) :: st)) rfl rfl (hb hby hd)
  exact own_go sp (k T' h' _ X' e' (Fr.snoc X' N ge) W (Arv.set A q S M H G rfl W _ rfl hl) (Keep.of_wr W).1)
theorem own_castore (X : Stand p l e R s m args below meth c T locs cells slots) (hx : p.tables.exec = Jvm.exec) (hZ : Z.Warmed39 s.vm) (eT : T.heap = h) {a : Addr} {kc : ClassId} {z j : Int32} {x : Int32} {w : Value} {vs : List Value} {dv : Value} (V : Arv Z h a kc .char z vs dv) (hj : ¬ j < 0 ∧ j < z) (i : Nat) (hi : j.toNatClampNeg = i) (hl : i < vs.length) (hv : (.int (nar .char x)) = w) (hby : c.code = bc) (hd : decode bc pc = .ok (.castore, 1)) (N : Fr n0 locs) (ge : n0 ≤ a) (k : ∀ T' h' locs', Stand p l e R s m args below meth c T' locs' cells slots → T'.heap = h' → Fr n0 locs' → Wr h h' a i w → Arv Z h' a kc .char z (vs.set i w) dv → h.size ≤ h'.size → own_Go p.tables e below P (T'.setTop (mkF m (pc + 1) Ls st))) : own_Go p.tables e below P (T.setTop (mkF m pc Ls ((.int x) :: (.int j) :: (.ref a) :: st))) := by
  subst hv hi
  obtain ⟨cl, A, q, S, M, H, G⟩ := V
  obtain ⟨T', h', X', e', W, sp⟩ := stC X hx hZ eT A (j := j) (inb_of S hj) (g := mkF m pc Ls ((.int x) :: (.int j) :: (.ref a) :: st)) rfl rfl (hb hby hd)
  exact own_go sp (k T' h' _ X' e' (Fr.snoc X' N ge) W (Arv.set A q S M H G (fits_nar_char _) W _ rfl hl) (Keep.of_wr W).1)
theorem own_aastore (X : Stand p l e R s m args below meth c T locs cells slots) (hx : p.tables.exec = Jvm.exec) (hZ : Z.Warmed39 s.vm) (eT : T.heap = h) {a : Addr} {kc : ClassId} {ty : FieldType} {z j : Int32} {v : Value} {vs : List Value} {dv : Value} (V : Arv Z h a kc ty z vs dv) (hty : ty.isReference = true) (hfit : fits ty v = true) (F : Sto Z h a v) (hj : ¬ j < 0 ∧ j < z) (i : Nat) (hi : j.toNatClampNeg = i) (hl : i < vs.length) (hby : c.code = bc) (hd : decode bc pc = .ok (.aastore, 1)) (N : Fr n0 locs) (ge : n0 ≤ a) (k : ∀ T' h' locs', Stand p l e R s m args below meth c T' locs' cells slots → T'.heap = h' → Fr n0 locs' → Wr h h' a i v → Arv Z h' a kc ty z (vs.set i v) dv → h.size ≤ h'.size → own_Go p.tables e below P (T'.setTop (mkF m (pc + 1) Ls st))) : own_Go p.tables e below P (T.setTop (mkF m pc Ls (v :: (.int j) :: (.ref a) :: st))) := by
  subst hi
  obtain ⟨cl, A, q, S, M, H, G⟩ := V
  obtain ⟨T', h', X', e', W, sp⟩ := stR X hx hZ eT A (j := j) (inb_of S hj) hty F (g := mkF m pc Ls (v :: (.int j) :: (.ref a) :: st)) rfl rfl (hb hby hd)
  exact own_go sp (k T' h' _ X' e' (Fr.snoc X' N ge) W (Arv.set A q S M H G hfit W _ rfl hl) (Keep.of_wr W).1)
theorem own_stoV {a y : Addr} {kc : ClassId} {ty : FieldType} {z : Int32} {vs : List Value} {dv : Value} {C : String} (V : Arv Z h a kc ty z vs dv) (O : Ovr Z kc C) (I : Ins Z h y C true) : Sto Z h a (.ref y) := by
  obtain ⟨cl, A, q, -⟩ := V
  exact Sto.ofV A q O I
theorem own_stoVA {a y : Addr} {kc : ClassId} {ty t2 : FieldType} {z : Int32} {vs : List Value} {dv : Value} {C : String} (V : Arv Z h a kc ty z vs dv) (O : OvrA Z kc t2 C) (I : Ins Z h y C true) : Sto Z h a (.ref y) := by
  obtain ⟨cl, A, q, -⟩ := V
  exact Sto.ofVA A q O I
theorem own_iaload (X : Stand p l e R s m args below meth c T locs cells slots) (hx : p.tables.exec = Jvm.exec) (hZ : Z.Warmed39 s.vm) (eT : T.heap = h) {a : Addr} {kc : ClassId} {z j : Int32} {v : Value} {vs : List Value} {dv : Value} (V : Arv Z h a kc .int z vs dv) (hj : ¬ j < 0 ∧ j < z) (hv : vs.getD j.toNatClampNeg dv = v) (hby : c.code = bc) (hd : decode bc pc = .ok (.iaload, 1)) (k : own_Go p.tables e below P (T.setTop (mkF m (pc + 1) Ls (v :: st)))) : own_Go p.tables e below P (T.setTop (mkF m pc Ls ((.int j) :: (.ref a) :: st))) := by
  obtain ⟨cl, A, q, S, M, H, G⟩ := V
  exact own_go (fun t q => X.iaload hx (by rw [eT]; exact A.1) (State.isArrayOf_alike hZ.alike A.2.1) A.2.2 (inb_of S hj) (Has.at H (inb_of S hj) hv) (g := mkF m pc Ls ((.int j) :: (.ref a) :: st)) rfl rfl (hb hby hd) t q) k
theorem own_aaload (X : Stand p l e R s m args below meth c T locs cells slots) (hx : p.tables.exec = Jvm.exec) (hZ : Z.Warmed39 s.vm) (eT : T.heap = h) {a : Addr} {kc : ClassId} {ty : FieldType} {z j : Int32} {v : Value} {vs : List Value} {dv : Value} (V : Arv Z h a kc ty z vs dv) (hty : ty.isReference = true) (hj : ¬ j < 0 ∧ j < z) (hv : vs.getD j.toNatClampNeg dv = v) (hby : c.code = bc) (hd : decode bc pc = .ok (.aaload, 1)) (k : own_Go p.tables e below P (T.setTop (mkF m (pc + 1) Ls (v :: st)))) : own_Go p.tables e below P (T.setTop (mkF m pc Ls ((.int j) :: (.ref a) :: st))) := by
  obtain ⟨cl, A, q, S, M, H, G⟩ := V
  exact own_go (fun t q => X.aaload hx (by rw [eT]; exact A.1) (State.isArrayOf_alike hZ.alike A.2.1) hty A.2.2 (inb_of S hj) (Has.at H (inb_of S hj) hv) (g := mkF m pc Ls ((.int j) :: (.ref a) :: st)) rfl rfl (hb hby hd) t q) k
theorem own_alen (X : Stand p l e R s m args below meth c T locs cells slots) (hx : p.tables.exec = Jvm.exec) (hZ : Z.Warmed39 s.vm) (eT : T.heap = h) {a : Addr} {kc : ClassId} {ty : FieldType} {z : Int32} {vs : List Value} {dv : Value} (V : Arv Z h a kc ty z vs dv) (hby : c.code = bc) (hd : decode bc pc = .ok (.arraylength, 1)) (k : own_Go p.tables e below P (T.setTop (mkF m (pc + 1) Ls ((.int z) :: st)))) : own_Go p.tables e below P (T.setTop (mkF m pc Ls ((.ref a) :: st))) := by
  obtain ⟨cl, A, q, S, M, H, G⟩ := V
  refine own_go (fun t q => X.arraylength hx (by rw [eT]; exact A.1) (State.isArrayOf_alike hZ.alike A.2.1) (g := mkF m pc Ls ((.ref a) :: st)) rfl rfl (hb hby hd) t q) ?_
  rw [len_of S M]; exact k
theorem own_initO (X : Stand p l e R s m args below meth c T locs cells slots) (hx : p.tables.exec = Jvm.exec) (hZ : Z.Warmed39 s.vm) {own : String} {idx : Nat} (hown : s.vm.findClass own = some m.cls) (w1 : (Cond.methodLink own idx Lib.objectInit).before a0 Z = true) (w2 : (Cond.instanceMethod Lib.objectInit).before a0 Z = true) (w3 : (Cond.code Lib.objectInit ⟨#[0xb1]⟩ 1 none).before a0 Z = true) (eT : T.heap = h) (hsize : Ls.size = c.maxLocals) {a : Addr} (hby : c.code = bc) (hd : decode bc pc = .ok (.invokespecial idx, 3)) (hf : 1 ≤ R.frames) (W : Nat) (hW : 2 * 0 + (st.map fun v => v.category).sum ≤ W) (hl : W + 12 ≤ R.locals) (k : ∀ T', Stand p l e R s m args below meth c T' locs cells slots → T'.heap = h → own_Go p.tables e below P (T'.setTop (mkF m (pc + 3) Ls st))) : own_Go p.tables e below P (T.setTop (mkF m pc Ls ((.ref a) :: st))) := by
  obtain ⟨T', X', e', sp⟩ := initO X hx hZ hown w1 w2 w3 eT (g := mkF m pc Ls ((.ref a) :: st)) rfl hsize rfl (hb hby hd) hf (W := W) hW hl
  exact own_go sp (k T' X' e')
theorem own_callS (X : Stand p l e R s m args below meth c T locs cells slots) (hx : p.tables.exec = Jvm.exec) (hZ : Z.Warmed39 s.vm) {own : String} {index : Nat} {y : MethodName} {bytes : ByteArray} {maxL : Nat} {ret : Option FieldType} {rm : Room} {Qc : Option Value → Heap → List Loc → Prop} {as' : Array Value} (hown : s.vm.findClass own = some m.cls) (w1 : (Cond.methodLink own index y).before a0 Z = true) (w2 : (Cond.static y).before a0 Z = true) (w3 : (Cond.initialized y.cls).before a0 Z = true) (w4 : (Cond.code y bytes maxL ret).before a0 Z = true) (hy : y.cls ≠ "java/lang/invoke/MethodHandle" ∧ y.cls ≠ "java/lang/invoke/VarHandle") (hM : MetFree l y (head1 [Cond.code y bytes maxL ret] rm) (fun a U => a = as' ∧ Z.Warmed39 U.vm ∧ U.heap = h) (fun _ _ _ _ _ => True) (fun _ U o U' => ∃ v L, o = .returned v ∧ Qc v U'.heap L ∧ FrameEnd U o U' L rm.cells rm.slots)) (W : Nat) (hW : 2 * 0 + (st.map fun v => v.category).sum ≤ W) (hf : rm.frames + 1 ≤ R.frames) (hl : W + (maxL + 11) + rm.locals ≤ R.locals) (hsize : Ls.size = c.maxLocals) {argsL stk : List Value} (hlen : ∀ sig, parseMethodDescriptor y.desc = some sig → argsL.length = sig.parameters.length) (hstk : stk = argsL.reverse ++ st) (has : argsL.toArray = as') (hc : cells + rm.cells ≤ R.cells) (hs : slots + rm.slots ≤ R.slots) (eT : T.heap = h) (hby : c.code = bc) (hd : decode bc pc = .ok (.invokestatic index, 3)) (k : ∀ T' v L, Stand p l e R s m args below meth c T' (locs ++ L) (cells + rm.cells) (slots + rm.slots) → Qc v T'.heap L → own_Go p.tables e below P (T'.setTop (mkF m (pc + 3) Ls (v.toList ++ st)))) : own_Go p.tables e below P (T.setTop (mkF m pc Ls stk)) := by
  subst hstk
  obtain ⟨v, _, ⟨T', L', k', n'⟩, -, X', ⟨L, hQ, hl', hy', hz'⟩, sp⟩ := Jvm.LawKit.callS X hx hown (mvT hZ w1) (mvT hZ w2) (mvT hZ w3) (mvT hZ w4) hy (backOf (W := W) hM hZ w4 w3 hf hl) (g := mkF m pc Ls (argsL.reverse ++ st)) rfl hsize (argsL := argsL) (rest := st) hlen rfl hW (hb hby hd) (fun _ _ => ⟨has, eT, hc, hs⟩)
  dsimp only [Pt.U, Pt.locs, Pt.cells, Pt.slots] at X' hl' hy' hz' sp hQ
  subst hl' hy' hz'
  exact own_go sp (k T' v L X' hQ)
theorem own_special (X : Stand p l e R s m args below meth c T locs cells slots) (hx : p.tables.exec = Jvm.exec) (hZ : Z.Warmed39 s.vm) {own : String} {index : Nat} {y : MethodName} {bytes : ByteArray} {maxL : Nat} {rm : Room} {Qc : Option Value → Heap → List Loc → Prop} {as' : Array Value} (hy1 : y.name = "<init>") (hown : s.vm.findClass own = some m.cls) (w1 : (Cond.methodLink own index y).before a0 Z = true) (w2 : (Cond.instanceMethod y).before a0 Z = true) (w3 : (Cond.initialized y.cls).before a0 Z = true) (w4 : (Cond.code y bytes maxL none).before a0 Z = true) (hy : y.cls ≠ "java/lang/invoke/MethodHandle" ∧ y.cls ≠ "java/lang/invoke/VarHandle") (hM : MetFree l y (head1 [Cond.code y bytes maxL none] rm) (fun a U => a = as' ∧ Z.Warmed39 U.vm ∧ U.heap = h) (fun _ _ _ _ _ => True) (fun _ U o U' => ∃ v L, o = .returned v ∧ Qc v U'.heap L ∧ FrameEnd U o U' L rm.cells rm.slots)) (W : Nat) (hW : 2 * 0 + (st.map fun v => v.category).sum ≤ W) (hf : rm.frames + 1 ≤ R.frames) (hl : W + (maxL + 11) + rm.locals ≤ R.locals) (hsize : Ls.size = c.maxLocals) {argsL stk : List Value} {a : Addr} (hlen : ∀ sig, parseMethodDescriptor y.desc = some sig → argsL.length = sig.parameters.length) (hstk : stk = argsL.reverse ++ (.ref a) :: st) (has : ((.ref a) :: argsL).toArray = as') (hc : cells + rm.cells ≤ R.cells) (hs : slots + rm.slots ≤ R.slots) (eT : T.heap = h) (hby : c.code = bc) (hd : decode bc pc = .ok (.invokespecial index, 3)) (k : ∀ T' v L, Stand p l e R s m args below meth c T' (locs ++ L) (cells + rm.cells) (slots + rm.slots) → Qc v T'.heap L → own_Go p.tables e below P (T'.setTop (mkF m (pc + 3) Ls (v.toList ++ st)))) : own_Go p.tables e below P (T.setTop (mkF m pc Ls stk)) := by
  subst hstk
  obtain ⟨v, _, ⟨T', L', k', n'⟩, -, X', ⟨L, hQ, hl', hy', hz'⟩, sp⟩ := X.specialBack hx hy1 hown (mvT hZ w1) (mvT hZ w2) (mvT hZ w4) hy (backOf (W := W) hM hZ w4 w3 hf hl) (g := mkF m pc Ls (argsL.reverse ++ (.ref a) :: st)) rfl hsize (Steps.refl _) (a := a) (argsL := argsL) (rest := st) hlen rfl hW (hb hby hd) (fun _ _ => ⟨has, eT, hc, hs⟩)
  dsimp only [Pt.U, Pt.locs, Pt.cells, Pt.slots] at X' hl' hy' hz' sp hQ
  subst hl' hy' hz'
  exact own_go (fun t q => sp.trans q) (k T' v L X' hQ)
theorem own_virtual (X : Stand p l e R s m args below meth c T locs cells slots) (hx : p.tables.exec = Jvm.exec) (hZ : Z.Warmed39 s.vm) {own C : String} {index : Nat} {y z : MethodName} {bytes : ByteArray} {maxL : Nat} {ret : Option FieldType} {rm : Room} {Qc : Option Value → Heap → List Loc → Prop} {as' : Array Value} (hown : s.vm.findClass own = some m.cls) (w1 : (Cond.methodLink own index y).before a0 Z = true) (w2 : (Cond.declares y).before a0 Z = true) (nf : NotFace s y) (w5 : (Cond.selects C y z).before a0 Z = true) (w6 : (Cond.instanceMethod z).before a0 Z = true) (w3 : (Cond.initialized z.cls).before a0 Z = true) (w4 : (Cond.code z bytes maxL ret).before a0 Z = true) (hy : y.cls ≠ "java/lang/invoke/MethodHandle" ∧ y.cls ≠ "java/lang/invoke/VarHandle") (hM : MetFree l z (head1 [Cond.code z bytes maxL ret] rm) (fun a U => a = as' ∧ Z.Warmed39 U.vm ∧ U.heap = h) (fun _ _ _ _ _ => True) (fun _ U o U' => ∃ v L, o = .returned v ∧ Qc v U'.heap L ∧ FrameEnd U o U' L rm.cells rm.slots)) (W : Nat) (hW : 2 * 0 + (st.map fun v => v.category).sum ≤ W) (hf : rm.frames + 1 ≤ R.frames) (hl : W + (maxL + 11) + rm.locals ≤ R.locals) (hsize : Ls.size = c.maxLocals) {argsL stk : List Value} {a : Addr} (E : Exa Z h a C) (hlen : ∀ sig, parseMethodDescriptor y.desc = some sig → argsL.length = sig.parameters.length) (hstk : stk = argsL.reverse ++ (.ref a) :: st) (has : ((.ref a) :: argsL).toArray = as') (hc : cells + rm.cells ≤ R.cells) (hs : slots + rm.slots ≤ R.slots) (eT : T.heap = h) (hby : c.code = bc) (hd : decode bc pc = .ok (.invokevirtual index, 3)) (k : ∀ T' v L, Stand p l e R s m args below meth c T' (locs ++ L) (cells + rm.cells) (slots + rm.slots) → Qc v T'.heap L → own_Go p.tables e below P (T'.setTop (mkF m (pc + 3) Ls (v.toList ++ st)))) : own_Go p.tables e below P (T.setTop (mkF m pc Ls stk)) := by
  subst hstk
  obtain ⟨cq, kq, qa, qb, qc⟩ := isOf hZ eT E
  obtain ⟨v, _, ⟨T', L', k', n'⟩, -, X', ⟨L, hQ, hl', hy', hz'⟩, sp⟩ := X.virtualBack hx hown (mvT hZ w1) (mvT hZ w2) nf (mvT hZ w5) (mvT hZ w6) hy (backOf (W := W) hM hZ w4 w3 hf hl) qa qc (g := mkF m pc Ls (argsL.reverse ++ (.ref a) :: st)) rfl hsize (Steps.refl _) (argsL := argsL) (rest := st) hlen rfl hW (hb hby hd) (fun _ _ => ⟨has, eT, hc, hs⟩)
  dsimp only [Pt.U, Pt.locs, Pt.cells, Pt.slots] at X' hl' hy' hz' sp hQ
  subst hl' hy' hz'
  exact own_go (fun t q => sp.trans q) (k T' v L X' hQ)
theorem own_private (X : Stand p l e R s m args below meth c T locs cells slots) (hx : p.tables.exec = Jvm.exec) (hZ : Z.Warmed39 s.vm) {own C : String} {index kk : Nat} {y : MethodName} {bytes : ByteArray} {maxL : Nat} {ret : Option FieldType} {rm : Room} {Qc : Option Value → Heap → List Loc → Prop} {as' : Array Value} (hown : s.vm.findClass own = some m.cls) (w1 : (Cond.methodLink own index y).before a0 Z = true) (w6 : (Cond.instanceMethod y).before a0 Z = true) (w5 : (Cond.instantiable y.cls kk).before a0 Z = true) (w7 : (Cond.privateMethod y).before a0 Z = true) (w3 : (Cond.initialized y.cls).before a0 Z = true) (w4 : (Cond.code y bytes maxL ret).before a0 Z = true) (hy : y.cls ≠ "java/lang/invoke/MethodHandle" ∧ y.cls ≠ "java/lang/invoke/VarHandle") (hM : MetFree l y (head1 [Cond.code y bytes maxL ret] rm) (fun a U => a = as' ∧ Z.Warmed39 U.vm ∧ U.heap = h) (fun _ _ _ _ _ => True) (fun _ U o U' => ∃ v L, o = .returned v ∧ Qc v U'.heap L ∧ FrameEnd U o U' L rm.cells rm.slots)) (W : Nat) (hW : 2 * 0 + (st.map fun v => v.category).sum ≤ W) (hf : rm.frames + 1 ≤ R.frames) (hl : W + (maxL + 11) + rm.locals ≤ R.locals) (hsize : Ls.size = c.maxLocals) {argsL stk : List Value} {a : Addr} (E : Exa Z h a C) (hlen : ∀ sig, parseMethodDescriptor y.desc = some sig → argsL.length = sig.parameters.length) (hstk : stk = argsL.reverse ++ (.ref a) :: st) (has : ((.ref a) :: argsL).toArray = as') (hc : cells + rm.cells ≤ R.cells) (hs : slots + rm.slots ≤ R.slots) (eT : T.heap = h) (hby : c.code = bc) (hd : decode bc pc = .ok (.invokevirtual index, 3)) (k : ∀ T' v L, Stand p l e R s m args below meth c T' (locs ++ L) (cells + rm.cells) (slots + rm.slots) → Qc v T'.heap L → own_Go p.tables e below P (T'.setTop (mkF m (pc + 3) Ls (v.toList ++ st)))) : own_Go p.tables e below P (T.setTop (mkF m pc Ls stk)) := by
  subst hstk
  obtain ⟨cq, q1, q2⟩ := E.cell
  have hp : s.PrivateAt y := Cond.privateMethod_at (mvP hZ w7 (args := #[]))
  obtain ⟨ci, ki, hci, hki, -, hni, -, -⟩ := Cond.instantiable_spec (mvT (args := args) hZ w5)
  obtain ⟨v, _, ⟨T', L', k', n'⟩, -, X', ⟨L, hQ, hl', hy', hz'⟩, sp⟩ := X.privateBack hx hown (mvT hZ w1) (mvT hZ w6) (selects_self_of_private hci hki (Bool.or_eq_false_iff.mp hni).1 hp (mvT hZ w6) hy) hp (mvT hZ w4) hy (backOf (W := W) hM hZ w4 w3 hf hl) (g := mkF m pc Ls (argsL.reverse ++ (.ref a) :: st)) rfl hsize (Steps.refl _) (a := a) (by rw [eT]; exact q1) q2 (argsL := argsL) (rest := st) hlen rfl hW (hb hby hd) (fun _ _ => ⟨has, eT, hc, hs⟩)
  dsimp only [Pt.U, Pt.locs, Pt.cells, Pt.slots] at X' hl' hy' hz' sp hQ
  subst hl' hy' hz'
  exact own_go (fun t q => sp.trans q) (k T' v L X' hQ)
theorem own_specialB (X : Stand p l e R s m args below meth c T locs cells slots) (hx : p.tables.exec = Jvm.exec) (hZ : Z.Warmed39 s.vm) {own : String} {index : Nat} {y : MethodName} {bytes : ByteArray} {maxL W : Nat} (hy1 : y.name = "<init>") (hown : s.vm.findClass own = some m.cls) (w1 : (Cond.methodLink own index y).before a0 Z = true) (w2 : (Cond.instanceMethod y).before a0 Z = true) (w4 : (Cond.code y bytes maxL none).before a0 Z = true) (hy : y.cls ≠ "java/lang/invoke/MethodHandle" ∧ y.cls ≠ "java/lang/invoke/VarHandle") {Qc : Option Value → Heap → List Loc → Prop} {as' : Array Value} {kc ks : Nat} (hK : Back l R p e below s args y 3 W (fun A a => a = as' ∧ A.U.heap = h ∧ A.cells + kc ≤ R.cells ∧ A.slots + ks ≤ R.slots) (fun A _ v B => ∃ L, Qc v B.U.heap L ∧ B.locs = A.locs ++ L ∧ B.cells = A.cells + kc ∧ B.slots = A.slots + ks)) (hW : 2 * 0 + (st.map fun v => v.category).sum ≤ W) (hsize : Ls.size = c.maxLocals) {argsL stk : List Value} {a : Addr} (hlen : ∀ sig, parseMethodDescriptor y.desc = some sig → argsL.length = sig.parameters.length) (hstk : stk = argsL.reverse ++ (.ref a) :: st) (has : ((.ref a) :: argsL).toArray = as') (hc : cells + kc ≤ R.cells) (hs : slots + ks ≤ R.slots) (eT : T.heap = h) (hby : c.code = bc) (hd : decode bc pc = .ok (.invokespecial index, 3)) (k : ∀ T' v L, Stand p l e R s m args below meth c T' (locs ++ L) (cells + kc) (slots + ks) → Qc v T'.heap L → own_Go p.tables e below P (T'.setTop (mkF m (pc + 3) Ls (v.toList ++ st)))) : own_Go p.tables e below P (T.setTop (mkF m pc Ls stk)) := by
  subst hstk
  obtain ⟨v, _, ⟨T', L', k', n'⟩, -, X', ⟨L, hQ, hl', hy', hz'⟩, sp⟩ := X.specialBack hx hy1 hown (mvT hZ w1) (mvT hZ w2) (mvT hZ w4) hy hK (g := mkF m pc Ls (argsL.reverse ++ (.ref a) :: st)) rfl hsize (Steps.refl _) (a := a) (argsL := argsL) (rest := st) hlen rfl hW (hb hby hd) (fun _ _ => ⟨has, eT, hc, hs⟩)
  dsimp only [Pt.U, Pt.locs, Pt.cells, Pt.slots] at X' hl' hy' hz' sp hQ
  subst hl' hy' hz'
  exact own_go (fun t q => sp.trans q) (k T' v L X' hQ)
end OwnGo
theorem own_sta_keep {Z : State} {h h' : Heap} {C n d : String} {v : Value} {ws : List Addr} (F : Sta Z h C n d v) (K : Keep h h' ws) (q : ∀ x ∈ ws, ∀ cell : Cell, h[x]? = some cell → cell.vm.isStatics = false) : Sta Z h' C n d v := by
  obtain ⟨cf, i, k, f, st, cell, h1, h2, h3, h4, h5, h6, h7⟩ := F
  refine ⟨cf, i, k, f, st, cell, h1, h2, h3, h4, K.2.1 st cell h5 fun hm => ?_, h6, h7⟩
  rw [q st hm cell h5] at h6; cases h6
theorem own_ne_oa {Z : State} {h : Heap} {a b : Addr} {C : String} {a0 : Array Value} {kk : Nat} {k : ClassId} {ty : FieldType} {n : Int32} {vs : List Value} {d : Value} (F : Exa Z h a C) (wi : (Cond.instantiable C kk).before a0 Z = true) (G : Arv Z h b k ty n vs d) : a ≠ b := by
  obtain ⟨c, A, -⟩ := G
  exact ne_arr F wi A
theorem own_ne_aa {Z : State} {h : Heap} {a b : Addr} {k k' : ClassId} {ty ty' : FieldType} {n n' : Int32} {vs vs' : List Value} {d d' : Value} (F : Arv Z h a k ty n vs d) (G : Arv Z h b k' ty' n' vs' d') (q : ty ≠ ty') : a ≠ b := by
  intro e
  subst e
  obtain ⟨c, A, -⟩ := F
  obtain ⟨c', B, -⟩ := G
  cases A.1.symm.trans B.1
  obtain ⟨-, k1, e1, comp, e2⟩ := A.2.1
  obtain ⟨-, k2, f1, comp', f2⟩ := B.2.1
  cases e1.symm.trans f1
  rw [e2] at f2
  cases f2
  exact q rfl
theorem own_narc (y : Int32) : nar .char ((y &&& (255 : Int32)).toUInt32.toUInt16.toUInt32.toInt32) = (y &&& (255 : Int32)) := by
  rw [i2c_mask]
  exact i2c_mask y
theorem own_c255 (y : Int32) : ¬ (y &&& (255 : Int32)) < 0 ∧ ¬ (255 : Int32) < (y &&& (255 : Int32)) := by
  have h := c_and y (255 : Int32) (by decide)
  have a : (255 : Int32).toInt = 255 := by decide
  have b : (0 : Int32).toInt = 0 := by decide
  rw [Int32.lt_iff_toInt_lt, Int32.lt_iff_toInt_lt, b]
  omega
theorem own_l0 {P : Int32 → Prop} : ∀ c ∈ ([] : List Int32), P c := fun _ h => nomatch h
theorem own_lS {P : Int32 → Prop} {y : Int32} {L : List Int32} (q : P y) (r : ∀ c ∈ L, P c) : ∀ c ∈ y :: L, P c := fun c h => (List.mem_cons.mp h).elim (fun e => e ▸ q) (r c)
theorem own_i2bb (c : Int32) : nar .byte (c.toInt8.toInt32) = (c.toInt8.toInt32) := by
  show c.toInt8.toInt32.toInt8.toInt32 = c.toInt8.toInt32
  rw [Int8.toInt8_toInt32]
theorem own_low8 (c : Int32) (h0 : ¬ (c < (0 : Int32))) (h1 : ¬ ((255 : Int32) < c)) : ((c.toInt8.toInt32) &&& (255 : Int32)) = c := by
  have a : (255 : Int32).toInt = 255 := by decide
  have b : (0 : Int32).toInt = 0 := by decide
  rw [Int32.lt_iff_toInt_lt, b] at h0
  rw [Int32.lt_iff_toInt_lt, a] at h1
  have h2 := c_mask (c.toInt8.toInt32) 255 8 (by decide) (by decide)
  have h3 := c_i2b c
  have h4 : ((2 ^ 8 : Nat) : Int) = 256 := by decide
  rw [h4] at h2
  apply Int32.toInt_inj.mp
  omega
theorem own_nar8 (c : Int32) (h0 : ¬ (c < (0 : Int32))) (h1 : ¬ ((255 : Int32) < c)) : nar .char c = c := by
  have e := own_low8 c h0 h1
  have q := i2c_mask (c.toInt8.toInt32)
  rw [e] at q
  exact q
theorem own_chr8 (c : Int32) (h0 : ¬ (c < (0 : Int32))) (h1 : ¬ ((255 : Int32) < c)) : nar .char ((((c.toInt8.toInt32)) &&& (255 : Int32)).toUInt32.toUInt16.toUInt32.toInt32) = c := by
  rw [i2c_mask, own_low8 c h0 h1]
  exact own_nar8 c h0 h1
theorem ef_draw_ (m : MethodId) (x0 : Int32) : entryFrame m #[(.int x0)] 2 = mkF m 0 #[.val (.int x0), .unset] [] := by first | (simp [entryFrame, mkF, argsToLocals, Value.category]; done) | rfl
theorem pn_1 : plainName "com/example/boxwood/boxwood/XmlNodeTableNamePinLaw" = true := by first | (simp [plainName, overriddenIn]; done) | decide +kernel
theorem d1_0 : decode method_2_code 0 = .ok (.iconst 2, 1) := by decide +kernel
theorem d1_1 : decode method_2_code 1 = .ok (.newarray .char, 2) := by decide +kernel
theorem d1_3 : decode method_2_code 3 = .ok (.astore_n 1, 1) := by decide +kernel
theorem d1_4 : decode method_2_code 4 = .ok (.aload_n 1, 1) := by decide +kernel
theorem d1_5 : decode method_2_code 5 = .ok (.iconst 0, 1) := by decide +kernel
theorem d1_6 : decode method_2_code 6 = .ok (.iload_n 0, 1) := by decide +kernel
theorem d1_7 : decode method_2_code 7 = .ok (.sipush 255, 3) := by decide +kernel
theorem d1_10 : decode method_2_code 10 = .ok (.iand, 1) := by decide +kernel
theorem d1_11 : decode method_2_code 11 = .ok (.i2c, 1) := by decide +kernel
theorem d1_12 : decode method_2_code 12 = .ok (.castore, 1) := by decide +kernel
theorem d1_13 : decode method_2_code 13 = .ok (.aload_n 1, 1) := by decide +kernel
theorem d1_14 : decode method_2_code 14 = .ok (.iconst 1, 1) := by decide +kernel
theorem d1_15 : decode method_2_code 15 = .ok (.iload_n 0, 1) := by decide +kernel
theorem d1_16 : decode method_2_code 16 = .ok (.bipush 8, 2) := by decide +kernel
theorem d1_18 : decode method_2_code 18 = .ok (.iushr, 1) := by decide +kernel
theorem d1_19 : decode method_2_code 19 = .ok (.sipush 255, 3) := by decide +kernel
theorem d1_22 : decode method_2_code 22 = .ok (.iand, 1) := by decide +kernel
theorem d1_23 : decode method_2_code 23 = .ok (.i2c, 1) := by decide +kernel
theorem d1_24 : decode method_2_code 24 = .ok (.castore, 1) := by decide +kernel
theorem d1_25 : decode method_2_code 25 = .ok (.new 7, 3) := by decide +kernel
theorem d1_28 : decode method_2_code 28 = .ok (.dup, 1) := by decide +kernel
theorem d1_29 : decode method_2_code 29 = .ok (.aload_n 1, 1) := by decide +kernel
theorem d1_30 : decode method_2_code 30 = .ok (.invokespecial 9, 3) := by decide +kernel
theorem pd_0 : parseMethodDescriptor "([C)V" = some ⟨[(.array .char)], none⟩ := by decide +kernel
theorem d1_33 : decode method_2_code 33 = .ok (.areturn, 1) := by decide +kernel
def Q_draw_ (Z : State) (p1 : Int32) (zc : Int32) (h0 : Heap) (n0 : Nat) (vR : Option Value) (hR : Heap) (LR : List Loc) : Prop := ∃ (x : Nat), vR = some (.ref x) ∧ Fr n0 LR ∧ Keep h0 hR [] ∧ h0.size ≤ x ∧ (Exa Z hR x "java/lang/String")
set_option maxRecDepth 65536 in
set_option maxHeartbeats 40000000 in
theorem draw_ (l : Launch) (Z : State) (a0 : Array Value) (hw : ∀ d ∈ tables_1, d.before a0 Z = true) (ws : List Jvm.Cond) (p1 : Int32) (zc : Int32) (h0 : Heap) (n0 : Nat) (Z0 : n0 ≤ h0.size) (S_C : Sta Z h0 "java/lang/String" "COMPACT_STRINGS" "Z" (.int zc)) (hz : ¬ zc = 0) :
    own_M l (⟨"com/example/boxwood/boxwood/XmlNodeTableNamePinLaw", "draw", "(I)Ljava/lang/String;"⟩ : MethodName) method_2_code 2 (some (.object "java/lang/String")) ws ({ frames := 4, cells := 3, slots := 8, locals := 66 } : Room) Z #[(.int p1)] h0 (Q_draw_ Z p1 zc h0 n0) := by
  refine own_body (own := "com/example/boxwood/boxwood/XmlNodeTableNamePinLaw") rfl (plainFor_of_name pn_1) (fun m => ef_draw_ m p1) ?_
  intro p e s m below meth c s₁ Bd hml hZ hh hx hby hown X0 e0
  have N0 := Fr.nil n0
  refine own_iconst X0.here hx hby d1_0 (v := (2 : Int32)) (by decide) ?_
  refine own_newP X0 hx hZ (aty := .char) (own_w hw 4 rfl) e0 hby d1_1 (by decide) 2 (by decide) (by decide) (by decide) (by decide) (ad := "[C") (by decide) ?_
  intro T2 h2 k2 b2 X2 e2 E2 g2 V2 C2 lt2
  have z3 : h0.size ≤ h2.size := E2.1
  have V4 : Arv Z h2 b2 k2 .char (2 : Int32) [(.int 0), (.int 0)] (.int 0) := V2.pad (pad_rep [] (.int 0) 2)
  refine own_astoreN X2.here hx hby d1_3 rfl (l' := #[.val (.int p1), .val (.ref b2)]) rfl ?_
  refine own_aloadN X2.here hx hby d1_4 rfl rfl ?_
  refine own_iconst X2.here hx hby d1_5 (v := (0 : Int32)) (by decide) ?_
  refine own_iloadN X2.here hx hby d1_6 rfl ?_
  refine own_sipush X2.here hx hby d1_7 (v := (255 : Int32)) (by decide) ?_
  refine own_iand X2.here hx hby d1_10 rfl ?_
  refine own_i2c X2.here hx hby d1_11 rfl ?_
  refine own_castore X2 hx hZ e2 V4 ⟨by decide, by decide⟩ 0 (by decide) (Nat.le_of_ble_eq_true rfl) (w := (.int (p1 &&& (255 : Int32)))) (congrArg Value.int (own_narc p1)) hby d1_12 N0 (by omega) ?_
  intro T5 h5 lo5 X5 e5 N5 W5 V5 z5
  have V6 : Arv Z h5 b2 k2 .char (2 : Int32) [(.int (p1 &&& (255 : Int32))), (.int 0)] (.int 0) := V5
  refine own_aloadN X5.here hx hby d1_13 rfl rfl ?_
  refine own_iconst X5.here hx hby d1_14 (v := (1 : Int32)) (by decide) ?_
  refine own_iloadN X5.here hx hby d1_15 rfl ?_
  refine own_bipush X5.here hx hby d1_16 (v := (8 : Int32)) (by decide) ?_
  refine own_iushr X5.here hx hby d1_18 rfl ?_
  refine own_sipush X5.here hx hby d1_19 (v := (255 : Int32)) (by decide) ?_
  refine own_iand X5.here hx hby d1_22 rfl ?_
  refine own_i2c X5.here hx hby d1_23 rfl ?_
  refine own_castore X5 hx hZ e5 V6 ⟨by decide, by decide⟩ 1 (by decide) (Nat.le_of_ble_eq_true rfl) (w := (.int (((p1.toUInt32 >>> ((8 : Int32) &&& 31).toUInt32).toInt32) &&& (255 : Int32)))) (congrArg Value.int (own_narc ((p1.toUInt32 >>> ((8 : Int32) &&& 31).toUInt32).toInt32))) hby d1_24 N5 (by omega) ?_
  intro T7 h7 lo7 X7 e7 N7 W7 V7 z7
  have V8 : Arv Z h7 b2 k2 .char (2 : Int32) [(.int (p1 &&& (255 : Int32))), (.int (((p1.toUInt32 >>> ((8 : Int32) &&& 31).toUInt32).toInt32) &&& (255 : Int32)))] (.int 0) := V7
  refine own_newO X7 hx hZ hown (own_w hw 5 rfl) (own_w hw 6 rfl) (own_w hw 7 rfl) e7 hby d1_25 (by decide) (by decide) ?_
  intro T9 h9 b9 X9 e9 E9 g9 A9 D9 lt9
  have z10 : h7.size ≤ h9.size := E9.1
  have F11 : Fld Z h9 b9 "java/lang/String" "coder" "B" (.int 0) := D9 (Or.inr (own_w hw 31 rfl)) (ty := .byte) (by decide)
  have F12 : Fld Z h9 b9 "java/lang/String" "value" "[B" .null := D9 (Or.inr (own_w hw 33 rfl)) (ty := (.array .byte)) (by decide)
  refine own_dup X9.here hx hby d1_28 rfl ?_
  refine own_aloadN X9.here hx hby d1_29 rfl rfl ?_
  have f13 : Arv Z h9 b2 k2 .char (2 : Int32) [(.int (p1 &&& (255 : Int32))), (.int (((p1.toUInt32 >>> ((8 : Int32) &&& 31).toUInt32).toInt32) &&& (255 : Int32)))] (.int 0) := (V8.ext E9)
  have f14 : Sta Z h9 "java/lang/String" "COMPACT_STRINGS" "Z" (.int zc) := ((((S_C.ext E2).wr W5).wr W7).ext E9)
  have z16 : n0 ≤ h9.size := by omega
  have hws_words : ∀ d ∈ StrChars.Road.words, d.before a0 Z = true := fun d hd => hw d ((by decide +kernel : ∀ d ∈ StrChars.Road.words, d ∈ tables_1) d hd)
  refine own_specialB X9 hx hZ rfl hown (own_w hw 8 rfl) (own_w hw 9 rfl) (own_w hw 10 rfl) (by decide) (StrChars.Road.backV (W := 1) hZ hws_words (kI := 4) (own_w hw 6 rfl) (cs := ([(p1 &&& (255 : Int32)), (((p1.toUInt32 >>> ((8 : Int32) &&& 31).toUInt32).toInt32) &&& (255 : Int32))] : List Int32)) (bs := ([(p1 &&& (255 : Int32)), (((p1.toUInt32 >>> ((8 : Int32) &&& 31).toUInt32).toInt32) &&& (255 : Int32))] : List Int32).map (fun c => c.toInt8.toInt32)) (n := 2) (by omega) z16 A9 F12 F11 f13 f14 hz rfl rfl (by decide) (by decide) (own_lS (own_c255 p1) (own_lS (own_c255 ((p1.toUInt32 >>> ((8 : Int32) &&& 31).toUInt32).toInt32)) own_l0)) rfl (by decide) (by decide)) (Nat.le_of_eq rfl) (by rw [hml]; rfl) (argsL := [(.ref b2)]) (st := [(.ref b9)]) (a := b9) (lenOf pd_0 rfl) rfl rfl (by decide) (by decide) e9 hby d1_30 ?_
  intro T15 v15 L15 X15 hQ15
  obtain ⟨rfl, Nq15, K15, P15_0, P15_1, t_15, kb_15, P15_2, P15_3, P15_4, P15_5, P15_6⟩ := hQ15
  have N15 := Fr.app N7 Nq15
  have z17 : h9.size ≤ T15.heap.size := K15.1
  have lt18 : T15.heap.size > b9 := P15_0.lt
  have lt19 : T15.heap.size > t_15 := P15_6.lt
  refine own_sh (T := T15) 33 #[.val (.int p1), .val (.ref b2)] [(.ref b9)] ?_
  have K20 : Keep h0 T15.heap [] := ((((((Keep.refl h0 []).ext E2).wr W5 (Or.inr (by omega))).wr W7 (Or.inr (by omega))).ext E9).trans K15 (allS (P := fun xq_ => xq_ ∈ [] ∨ h0.size ≤ xq_) (Or.inr (by omega)) all0))
  obtain ⟨fs, hr, hrun, hended, hW, hsame⟩ := X15.leave (v := some (.ref b9)) (fun h => by rw [Bd.returns] at h; cases h)
  refine own_ret (t := T15.setFrames fs) ?_ ⟨_, hrun, hended, _, _, rfl, ?_, ⟨_, rfl⟩, hW, hsame.mono (by decide) (by decide)⟩
  · exact retOut X15 hx Bd.returns rfl (Or.inr (Or.inr (Or.inr (Or.inr ⟨rfl, rfl, rfl⟩)))) (hb hby d1_33) hr
  · show Q_draw_ Z _ _ h0 n0 _ T15.heap _
    exact ⟨b9, rfl, N15, K20, (by omega), P15_0⟩
theorem ef_eqSelf (m : MethodId) (x0 : Nat) (x1 : Nat) : entryFrame m #[(.ref x0), (.ref x1)] 3 = mkF m 0 #[.val (.ref x0), .val (.ref x1), .unset] [] := by first | (simp [entryFrame, mkF, argsToLocals, Value.category]; done) | rfl
theorem pn_18 : plainName "java/lang/String" = true := by first | (simp [plainName, overriddenIn]; done) | decide +kernel
theorem d18_0 : decode jdk_42_method_66_code 0 = .ok (.aload_n 0, 1) := by decide +kernel
theorem d18_1 : decode jdk_42_method_66_code 1 = .ok (.aload_n 1, 1) := by decide +kernel
theorem d18_2 : decode jdk_42_method_66_code 2 = .ok (.if_acmp .ne 5, 3) := by decide +kernel
theorem d18_5 : decode jdk_42_method_66_code 5 = .ok (.iconst 1, 1) := by decide +kernel
theorem d18_6 : decode jdk_42_method_66_code 6 = .ok (.ireturn, 1) := by decide +kernel
def Q_eqSelf (Z : State) (a1 : Nat) (h0 : Heap) (n0 : Nat) (vR : Option Value) (hR : Heap) (LR : List Loc) : Prop := vR = some (.int 1) ∧ Fr n0 LR ∧ hR = h0
set_option maxRecDepth 65536 in
set_option maxHeartbeats 40000000 in
theorem eqSelf (l : Launch) (Z : State) (a0 : Array Value) (hw : ∀ d ∈ tables_1, d.before a0 Z = true) (ws : List Jvm.Cond) (a1 : Nat) (h0 : Heap) (n0 : Nat) (Z0 : n0 ≤ h0.size)  :
    own_M l (⟨"java/lang/String", "equals", "(Ljava/lang/Object;)Z"⟩ : MethodName) jdk_42_method_66_code 3 (some .boolean) ws ({ frames := 0, cells := 0, slots := 0, locals := 0 } : Room) Z #[(.ref a1), (.ref a1)] h0 (Q_eqSelf Z a1 h0 n0) := by
  refine own_body (own := "java/lang/String") rfl (plainFor_of_name pn_18) (fun m => ef_eqSelf m a1 a1) ?_
  intro p e s m below meth c s₁ Bd hml hZ hh hx hby hown X0 e0
  have N0 := Fr.nil n0
  refine own_aloadN X0.here hx hby d18_0 rfl rfl ?_
  refine own_aloadN X0.here hx hby d18_1 rfl rfl ?_
  refine own_acmp X0 hx (same := true) (pc' := 5) hby d18_2 rfl rfl (decide_eq_true rfl) (by decide) (by decide) ?_
  refine own_iconst X0.here hx hby d18_5 (v := (1 : Int32)) (by decide) ?_
  obtain ⟨fs, hr, hrun, hended, hW, hsame⟩ := X0.leave (v := some (.int 1)) (fun h => by rw [Bd.returns] at h; cases h)
  refine own_ret (t := s₁.setFrames fs) ?_ ⟨_, hrun, hended, _, _, rfl, ?_, ⟨_, rfl⟩, hW, hsame.mono (by decide) (by decide)⟩
  · exact retN X0 hx (t := .boolean) Bd.returns (by simp) (hb hby d18_6) hr
  · show Q_eqSelf Z _ h0 n0 _ s₁.heap _
    rw [e0]
    exact ⟨rfl, N0, rfl⟩
theorem ef_tabInit (m : MethodId) (x0 : Nat) (x1 : Nat) : entryFrame m #[(.ref x0), (.ref x1)] 2 = mkF m 0 #[.val (.ref x0), .val (.ref x1)] [] := by first | (simp [entryFrame, mkF, argsToLocals, Value.category]; done) | rfl
theorem pn_8 : plainName "com/example/boxwood/boxwood/XmlNodeTable" = true := by first | (simp [plainName, overriddenIn]; done) | decide +kernel
theorem d8_0 : decode prog_60_method_1_code 0 = .ok (.aload_n 0, 1) := by decide +kernel
theorem d8_1 : decode prog_60_method_1_code 1 = .ok (.invokespecial 3, 3) := by decide +kernel
theorem d8_4 : decode prog_60_method_1_code 4 = .ok (.aload_n 0, 1) := by decide +kernel
theorem d8_5 : decode prog_60_method_1_code 5 = .ok (.iconst 1, 1) := by decide +kernel
theorem d8_6 : decode prog_60_method_1_code 6 = .ok (.anewarray 9, 3) := by decide +kernel
theorem d8_9 : decode prog_60_method_1_code 9 = .ok (.putfield 11, 3) := by decide +kernel
theorem d8_12 : decode prog_60_method_1_code 12 = .ok (.aload_n 0, 1) := by decide +kernel
theorem d8_13 : decode prog_60_method_1_code 13 = .ok (.iconst 1, 1) := by decide +kernel
theorem d8_14 : decode prog_60_method_1_code 14 = .ok (.anewarray 15, 3) := by decide +kernel
theorem d8_17 : decode prog_60_method_1_code 17 = .ok (.putfield 17, 3) := by decide +kernel
theorem d8_20 : decode prog_60_method_1_code 20 = .ok (.aload_n 0, 1) := by decide +kernel
theorem d8_21 : decode prog_60_method_1_code 21 = .ok (.iconst 1, 1) := by decide +kernel
theorem d8_22 : decode prog_60_method_1_code 22 = .ok (.anewarray 9, 3) := by decide +kernel
theorem d8_25 : decode prog_60_method_1_code 25 = .ok (.putfield 21, 3) := by decide +kernel
theorem d8_28 : decode prog_60_method_1_code 28 = .ok (.aload_n 0, 1) := by decide +kernel
theorem d8_29 : decode prog_60_method_1_code 29 = .ok (.iconst 1, 1) := by decide +kernel
theorem d8_30 : decode prog_60_method_1_code 30 = .ok (.anewarray 15, 3) := by decide +kernel
theorem d8_33 : decode prog_60_method_1_code 33 = .ok (.putfield 24, 3) := by decide +kernel
theorem d8_36 : decode prog_60_method_1_code 36 = .ok (.aload_n 0, 1) := by decide +kernel
theorem d8_37 : decode prog_60_method_1_code 37 = .ok (.iconst 1, 1) := by decide +kernel
theorem d8_38 : decode prog_60_method_1_code 38 = .ok (.anewarray 27, 3) := by decide +kernel
theorem d8_41 : decode prog_60_method_1_code 41 = .ok (.putfield 29, 3) := by decide +kernel
theorem d8_44 : decode prog_60_method_1_code 44 = .ok (.aload_n 0, 1) := by decide +kernel
theorem d8_45 : decode prog_60_method_1_code 45 = .ok (.aload_n 1, 1) := by decide +kernel
theorem d8_46 : decode prog_60_method_1_code 46 = .ok (.putfield 33, 3) := by decide +kernel
theorem d8_49 : decode prog_60_method_1_code 49 = .ok (.return_, 1) := by decide +kernel
def Q_tabInit (Z : State) (t : Nat) (ct : Nat) (h0 : Heap) (n0 : Nat) (vR : Option Value) (hR : Heap) (LR : List Loc) : Prop := ∃ (aN : Nat) (kaN : ClassId) (aS : Nat) (kaS : ClassId) (aA : Nat) (kaA : ClassId) (aM : Nat) (kaM : ClassId) (aW : Nat) (kaW : ClassId), vR = none ∧ Fr n0 LR ∧ Keep h0 hR [t] ∧ (Exa Z hR t "com/example/boxwood/boxwood/XmlNodeTable") ∧ (Fld Z hR t "com/example/boxwood/boxwood/XmlNodeTable" "size" "I" (.int 0)) ∧ (Fld Z hR t "com/example/boxwood/boxwood/XmlNodeTable" "attributeCount" "I" (.int 0)) ∧ h0.size ≤ aN ∧ (Fld Z hR t "com/example/boxwood/boxwood/XmlNodeTable" "numbers" "[[I" (.ref aN)) ∧ (Arv Z hR aN kaN (.array .int) (1 : Int32) [.null] .null) ∧ (OvrA Z kaN .int "[I") ∧ h0.size ≤ aS ∧ (Fld Z hR t "com/example/boxwood/boxwood/XmlNodeTable" "strings" "[[Ljava/lang/String;" (.ref aS)) ∧ (Arv Z hR aS kaS (.array (.object "java/lang/String")) (1 : Int32) [.null] .null) ∧ (OvrA Z kaS (.object "java/lang/String") "[Ljava/lang/String;") ∧ h0.size ≤ aA ∧ (Fld Z hR t "com/example/boxwood/boxwood/XmlNodeTable" "attributeNumbers" "[[I" (.ref aA)) ∧ (Arv Z hR aA kaA (.array .int) (1 : Int32) [.null] .null) ∧ (OvrA Z kaA .int "[I") ∧ h0.size ≤ aM ∧ (Fld Z hR t "com/example/boxwood/boxwood/XmlNodeTable" "attributeNames" "[[Ljava/lang/String;" (.ref aM)) ∧ (Arv Z hR aM kaM (.array (.object "java/lang/String")) (1 : Int32) [.null] .null) ∧ (OvrA Z kaM (.object "java/lang/String") "[Ljava/lang/String;") ∧ h0.size ≤ aW ∧ (Fld Z hR t "com/example/boxwood/boxwood/XmlNodeTable" "attributeValues" "[[Lcom/example/boxwood/boxwood/XmlValue;" (.ref aW)) ∧ (Arv Z hR aW kaW (.array (.object "com/example/boxwood/boxwood/XmlValue")) (1 : Int32) [.null] .null) ∧ (OvrA Z kaW (.object "com/example/boxwood/boxwood/XmlValue") "[Lcom/example/boxwood/boxwood/XmlValue;") ∧ (aN < aS) ∧ (aS < aA) ∧ (aA < aM) ∧ (aM < aW)
set_option maxRecDepth 65536 in
set_option maxHeartbeats 40000000 in
theorem tabInit (l : Launch) (Z : State) (a0 : Array Value) (hw : ∀ d ∈ tables_1, d.before a0 Z = true) (ws : List Jvm.Cond) (t : Nat) (ct : Nat) (h0 : Heap) (n0 : Nat) (Z0 : n0 ≤ h0.size) (E_t : Exa Z h0 t "com/example/boxwood/boxwood/XmlNodeTable") (F_content_t : Fld Z h0 t "com/example/boxwood/boxwood/XmlNodeTable" "content" "[B" .null) (g_t : n0 ≤ t) (F_numbers_t : Fld Z h0 t "com/example/boxwood/boxwood/XmlNodeTable" "numbers" "[[I" .null) (F_strings_t : Fld Z h0 t "com/example/boxwood/boxwood/XmlNodeTable" "strings" "[[Ljava/lang/String;" .null) (F_attributeNumbers_t : Fld Z h0 t "com/example/boxwood/boxwood/XmlNodeTable" "attributeNumbers" "[[I" .null) (F_attributeNames_t : Fld Z h0 t "com/example/boxwood/boxwood/XmlNodeTable" "attributeNames" "[[Ljava/lang/String;" .null) (F_attributeValues_t : Fld Z h0 t "com/example/boxwood/boxwood/XmlNodeTable" "attributeValues" "[[Lcom/example/boxwood/boxwood/XmlValue;" .null) (F_size_t : Fld Z h0 t "com/example/boxwood/boxwood/XmlNodeTable" "size" "I" (.int 0)) (F_attributeCount_t : Fld Z h0 t "com/example/boxwood/boxwood/XmlNodeTable" "attributeCount" "I" (.int 0)) :
    own_M l (⟨"com/example/boxwood/boxwood/XmlNodeTable", "<init>", "([B)V"⟩ : MethodName) prog_60_method_1_code 2 none ws ({ frames := 1, cells := 5, slots := 5, locals := 12 } : Room) Z #[(.ref t), (.ref ct)] h0 (Q_tabInit Z t ct h0 n0) := by
  refine own_body (own := "com/example/boxwood/boxwood/XmlNodeTable") rfl (plainFor_of_name pn_8) (fun m => ef_tabInit m t ct) ?_
  intro p e s m below meth c s₁ Bd hml hZ hh hx hby hown X0 e0
  have N0 := Fr.nil n0
  have lt1 : h0.size > t := E_t.lt
  refine own_aloadN X0.here hx hby d8_0 rfl rfl ?_
  refine own_initO X0 hx hZ hown (own_w hw 40 rfl) (own_w hw 16 rfl) (own_w hw 17 rfl) e0 (by rw [hml]; rfl) hby d8_1 (by decide) 0 (Nat.le_of_eq rfl) (by decide) ?_
  intro T2 X2 e2
  refine own_aloadN X2.here hx hby d8_4 rfl rfl ?_
  refine own_iconst X2.here hx hby d8_5 (v := (1 : Int32)) (by decide) ?_
  refine own_newRA X2 hx hZ (C := "[I") (ty := .int) hown (by decide) (own_w hw 41 rfl) (own_w hw 42 rfl) e2 hby d8_6 (by decide) 1 (by decide) (by decide) (by decide) (by decide) (ad := "[[I") (by decide) ?_
  intro T3 h3 k3 b3 X3 e3 E3 g3 V3 C3 O3 lt3
  have z4 : h0.size ≤ h3.size := E3.1
  have V5 : Arv Z h3 b3 k3 (.array .int) (1 : Int32) [.null] .null := V3.pad (pad_rep [] .null 1)
  have f6 : Exa Z h3 t "com/example/boxwood/boxwood/XmlNodeTable" := (E_t.ext E3)
  have f7 : Fld Z h3 t "com/example/boxwood/boxwood/XmlNodeTable" "numbers" "[[I" .null := (F_numbers_t.ext E3)
  refine own_putF X3 hx hZ (ty := (.array (.array .int))) hown (host := "") (Or.inl (own_w hw 43 rfl)) Via.refl e3 f7 f6 (Or.inl (own_w hw 44 rfl)) (own_w hw 35 rfl) (by decide) rfl rfl hby d8_9 N0 g_t ?_
  intro T8 h8 lo8 X8 e8 N8 W8 F8 z8
  refine own_aloadN X8.here hx hby d8_12 rfl rfl ?_
  refine own_iconst X8.here hx hby d8_13 (v := (1 : Int32)) (by decide) ?_
  refine own_newRA X8 hx hZ (C := "[Ljava/lang/String;") (ty := (.object "java/lang/String")) hown (by decide) (own_w hw 45 rfl) (own_w hw 46 rfl) e8 hby d8_14 (by decide) 1 (by decide) (by decide) (by decide) (by decide) (ad := "[[Ljava/lang/String;") (by decide) ?_
  intro T9 h9 k9 b9 X9 e9 E9 g9 V9 C9 O9 lt9
  have z10 : h8.size ≤ h9.size := E9.1
  have V11 : Arv Z h9 b9 k9 (.array (.object "java/lang/String")) (1 : Int32) [.null] .null := V9.pad (pad_rep [] .null 1)
  have f12 : Exa Z h9 t "com/example/boxwood/boxwood/XmlNodeTable" := ((f6.wr W8).ext E9)
  have f13 : Fld Z h9 t "com/example/boxwood/boxwood/XmlNodeTable" "strings" "[[Ljava/lang/String;" .null := (((F_strings_t.ext E3).other W8 (Or.inr (slot_ne (Or.inl (own_w hw 48 rfl)) (Or.inl (own_w hw 44 rfl)) (by decide) (t := (.array (.array (.object "java/lang/String")))) (t' := (.array (.array .int))) (by decide) (by decide)))).ext E9)
  refine own_putF X9 hx hZ (ty := (.array (.array (.object "java/lang/String")))) hown (host := "") (Or.inl (own_w hw 47 rfl)) Via.refl e9 f13 f12 (Or.inl (own_w hw 48 rfl)) (own_w hw 35 rfl) (by decide) rfl rfl hby d8_17 N8 g_t ?_
  intro T14 h14 lo14 X14 e14 N14 W14 F14 z14
  refine own_aloadN X14.here hx hby d8_20 rfl rfl ?_
  refine own_iconst X14.here hx hby d8_21 (v := (1 : Int32)) (by decide) ?_
  refine own_newRA X14 hx hZ (C := "[I") (ty := .int) hown (by decide) (own_w hw 41 rfl) (own_w hw 42 rfl) e14 hby d8_22 (by decide) 1 (by decide) (by decide) (by decide) (by decide) (ad := "[[I") (by decide) ?_
  intro T15 h15 k15 b15 X15 e15 E15 g15 V15 C15 O15 lt15
  have z16 : h14.size ≤ h15.size := E15.1
  have V17 : Arv Z h15 b15 k15 (.array .int) (1 : Int32) [.null] .null := V15.pad (pad_rep [] .null 1)
  have f18 : Exa Z h15 t "com/example/boxwood/boxwood/XmlNodeTable" := ((f12.wr W14).ext E15)
  have f19 : Fld Z h15 t "com/example/boxwood/boxwood/XmlNodeTable" "attributeNumbers" "[[I" .null := (((((F_attributeNumbers_t.ext E3).other W8 (Or.inr (slot_ne (Or.inl (own_w hw 50 rfl)) (Or.inl (own_w hw 44 rfl)) (by decide) (t := (.array (.array .int))) (t' := (.array (.array .int))) (by decide) (by decide)))).ext E9).other W14 (Or.inr (slot_ne (Or.inl (own_w hw 50 rfl)) (Or.inl (own_w hw 48 rfl)) (by decide) (t := (.array (.array .int))) (t' := (.array (.array (.object "java/lang/String")))) (by decide) (by decide)))).ext E15)
  refine own_putF X15 hx hZ (ty := (.array (.array .int))) hown (host := "") (Or.inl (own_w hw 49 rfl)) Via.refl e15 f19 f18 (Or.inl (own_w hw 50 rfl)) (own_w hw 35 rfl) (by decide) rfl rfl hby d8_25 N14 g_t ?_
  intro T20 h20 lo20 X20 e20 N20 W20 F20 z20
  refine own_aloadN X20.here hx hby d8_28 rfl rfl ?_
  refine own_iconst X20.here hx hby d8_29 (v := (1 : Int32)) (by decide) ?_
  refine own_newRA X20 hx hZ (C := "[Ljava/lang/String;") (ty := (.object "java/lang/String")) hown (by decide) (own_w hw 45 rfl) (own_w hw 46 rfl) e20 hby d8_30 (by decide) 1 (by decide) (by decide) (by decide) (by decide) (ad := "[[Ljava/lang/String;") (by decide) ?_
  intro T21 h21 k21 b21 X21 e21 E21 g21 V21 C21 O21 lt21
  have z22 : h20.size ≤ h21.size := E21.1
  have V23 : Arv Z h21 b21 k21 (.array (.object "java/lang/String")) (1 : Int32) [.null] .null := V21.pad (pad_rep [] .null 1)
  have f24 : Exa Z h21 t "com/example/boxwood/boxwood/XmlNodeTable" := ((f18.wr W20).ext E21)
  have f25 : Fld Z h21 t "com/example/boxwood/boxwood/XmlNodeTable" "attributeNames" "[[Ljava/lang/String;" .null := (((((((F_attributeNames_t.ext E3).other W8 (Or.inr (slot_ne (Or.inl (own_w hw 52 rfl)) (Or.inl (own_w hw 44 rfl)) (by decide) (t := (.array (.array (.object "java/lang/String")))) (t' := (.array (.array .int))) (by decide) (by decide)))).ext E9).other W14 (Or.inr (slot_ne (Or.inl (own_w hw 52 rfl)) (Or.inl (own_w hw 48 rfl)) (by decide) (t := (.array (.array (.object "java/lang/String")))) (t' := (.array (.array (.object "java/lang/String")))) (by decide) (by decide)))).ext E15).other W20 (Or.inr (slot_ne (Or.inl (own_w hw 52 rfl)) (Or.inl (own_w hw 50 rfl)) (by decide) (t := (.array (.array (.object "java/lang/String")))) (t' := (.array (.array .int))) (by decide) (by decide)))).ext E21)
  refine own_putF X21 hx hZ (ty := (.array (.array (.object "java/lang/String")))) hown (host := "") (Or.inl (own_w hw 51 rfl)) Via.refl e21 f25 f24 (Or.inl (own_w hw 52 rfl)) (own_w hw 35 rfl) (by decide) rfl rfl hby d8_33 N20 g_t ?_
  intro T26 h26 lo26 X26 e26 N26 W26 F26 z26
  refine own_aloadN X26.here hx hby d8_36 rfl rfl ?_
  refine own_iconst X26.here hx hby d8_37 (v := (1 : Int32)) (by decide) ?_
  refine own_newRA X26 hx hZ (C := "[Lcom/example/boxwood/boxwood/XmlValue;") (ty := (.object "com/example/boxwood/boxwood/XmlValue")) hown (by decide) (own_w hw 53 rfl) (own_w hw 54 rfl) e26 hby d8_38 (by decide) 1 (by decide) (by decide) (by decide) (by decide) (ad := "[[Lcom/example/boxwood/boxwood/XmlValue;") (by decide) ?_
  intro T27 h27 k27 b27 X27 e27 E27 g27 V27 C27 O27 lt27
  have z28 : h26.size ≤ h27.size := E27.1
  have V29 : Arv Z h27 b27 k27 (.array (.object "com/example/boxwood/boxwood/XmlValue")) (1 : Int32) [.null] .null := V27.pad (pad_rep [] .null 1)
  have f30 : Exa Z h27 t "com/example/boxwood/boxwood/XmlNodeTable" := ((f24.wr W26).ext E27)
  have f31 : Fld Z h27 t "com/example/boxwood/boxwood/XmlNodeTable" "attributeValues" "[[Lcom/example/boxwood/boxwood/XmlValue;" .null := (((((((((F_attributeValues_t.ext E3).other W8 (Or.inr (slot_ne (Or.inl (own_w hw 56 rfl)) (Or.inl (own_w hw 44 rfl)) (by decide) (t := (.array (.array (.object "com/example/boxwood/boxwood/XmlValue")))) (t' := (.array (.array .int))) (by decide) (by decide)))).ext E9).other W14 (Or.inr (slot_ne (Or.inl (own_w hw 56 rfl)) (Or.inl (own_w hw 48 rfl)) (by decide) (t := (.array (.array (.object "com/example/boxwood/boxwood/XmlValue")))) (t' := (.array (.array (.object "java/lang/String")))) (by decide) (by decide)))).ext E15).other W20 (Or.inr (slot_ne (Or.inl (own_w hw 56 rfl)) (Or.inl (own_w hw 50 rfl)) (by decide) (t := (.array (.array (.object "com/example/boxwood/boxwood/XmlValue")))) (t' := (.array (.array .int))) (by decide) (by decide)))).ext E21).other W26 (Or.inr (slot_ne (Or.inl (own_w hw 56 rfl)) (Or.inl (own_w hw 52 rfl)) (by decide) (t := (.array (.array (.object "com/example/boxwood/boxwood/XmlValue")))) (t' := (.array (.array (.object "java/lang/String")))) (by decide) (by decide)))).ext E27)
  refine own_putF X27 hx hZ (ty := (.array (.array (.object "com/example/boxwood/boxwood/XmlValue")))) hown (host := "") (Or.inl (own_w hw 55 rfl)) Via.refl e27 f31 f30 (Or.inl (own_w hw 56 rfl)) (own_w hw 35 rfl) (by decide) rfl rfl hby d8_41 N26 g_t ?_
  intro T32 h32 lo32 X32 e32 N32 W32 F32 z32
  refine own_aloadN X32.here hx hby d8_44 rfl rfl ?_
  refine own_aloadN X32.here hx hby d8_45 rfl rfl ?_
  have f33 : Exa Z h32 t "com/example/boxwood/boxwood/XmlNodeTable" := (f30.wr W32)
  have f34 : Fld Z h32 t "com/example/boxwood/boxwood/XmlNodeTable" "content" "[B" .null := ((((((((((F_content_t.ext E3).other W8 (Or.inr (slot_ne (Or.inr (own_w hw 58 rfl)) (Or.inl (own_w hw 44 rfl)) (by decide) (t := (.array .byte)) (t' := (.array (.array .int))) (by decide) (by decide)))).ext E9).other W14 (Or.inr (slot_ne (Or.inr (own_w hw 58 rfl)) (Or.inl (own_w hw 48 rfl)) (by decide) (t := (.array .byte)) (t' := (.array (.array (.object "java/lang/String")))) (by decide) (by decide)))).ext E15).other W20 (Or.inr (slot_ne (Or.inr (own_w hw 58 rfl)) (Or.inl (own_w hw 50 rfl)) (by decide) (t := (.array .byte)) (t' := (.array (.array .int))) (by decide) (by decide)))).ext E21).other W26 (Or.inr (slot_ne (Or.inr (own_w hw 58 rfl)) (Or.inl (own_w hw 52 rfl)) (by decide) (t := (.array .byte)) (t' := (.array (.array (.object "java/lang/String")))) (by decide) (by decide)))).ext E27).other W32 (Or.inr (slot_ne (Or.inr (own_w hw 58 rfl)) (Or.inl (own_w hw 56 rfl)) (by decide) (t := (.array .byte)) (t' := (.array (.array (.object "com/example/boxwood/boxwood/XmlValue")))) (by decide) (by decide))))
  refine own_putF X32 hx hZ (ty := (.array .byte)) hown (host := "") (Or.inl (own_w hw 57 rfl)) Via.refl e32 f34 f33 (Or.inr ⟨(own_w hw 58 rfl), rfl, (name_of_methodNamed Bd.named Bd.method).1⟩) (own_w hw 35 rfl) (by decide) rfl rfl hby d8_46 N32 g_t ?_
  intro T35 h35 lo35 X35 e35 N35 W35 F35 z35
  have K36 : Keep h0 h35 [t] := ((((((((((((Keep.refl h0 [t]).ext E3).wr W8 (Or.inl (List.mem_of_getElem? (i := 0) rfl))).ext E9).wr W14 (Or.inl (List.mem_of_getElem? (i := 0) rfl))).ext E15).wr W20 (Or.inl (List.mem_of_getElem? (i := 0) rfl))).ext E21).wr W26 (Or.inl (List.mem_of_getElem? (i := 0) rfl))).ext E27).wr W32 (Or.inl (List.mem_of_getElem? (i := 0) rfl))).wr W35 (Or.inl (List.mem_of_getElem? (i := 0) rfl)))
  have f37 : Exa Z h35 t "com/example/boxwood/boxwood/XmlNodeTable" := (f33.wr W35)
  have f38 : Fld Z h35 t "com/example/boxwood/boxwood/XmlNodeTable" "size" "I" (.int 0) := (((((((((((F_size_t.ext E3).other W8 (Or.inr (slot_ne (Or.inl (own_w hw 69 rfl)) (Or.inl (own_w hw 44 rfl)) (by decide) (t := .int) (t' := (.array (.array .int))) (by decide) (by decide)))).ext E9).other W14 (Or.inr (slot_ne (Or.inl (own_w hw 69 rfl)) (Or.inl (own_w hw 48 rfl)) (by decide) (t := .int) (t' := (.array (.array (.object "java/lang/String")))) (by decide) (by decide)))).ext E15).other W20 (Or.inr (slot_ne (Or.inl (own_w hw 69 rfl)) (Or.inl (own_w hw 50 rfl)) (by decide) (t := .int) (t' := (.array (.array .int))) (by decide) (by decide)))).ext E21).other W26 (Or.inr (slot_ne (Or.inl (own_w hw 69 rfl)) (Or.inl (own_w hw 52 rfl)) (by decide) (t := .int) (t' := (.array (.array (.object "java/lang/String")))) (by decide) (by decide)))).ext E27).other W32 (Or.inr (slot_ne (Or.inl (own_w hw 69 rfl)) (Or.inl (own_w hw 56 rfl)) (by decide) (t := .int) (t' := (.array (.array (.object "com/example/boxwood/boxwood/XmlValue")))) (by decide) (by decide)))).other W35 (Or.inr (slot_ne (Or.inl (own_w hw 69 rfl)) (Or.inr (own_w hw 58 rfl)) (by decide) (t := .int) (t' := (.array .byte)) (by decide) (by decide))))
  have f39 : Fld Z h35 t "com/example/boxwood/boxwood/XmlNodeTable" "attributeCount" "I" (.int 0) := (((((((((((F_attributeCount_t.ext E3).other W8 (Or.inr (slot_ne (Or.inl (own_w hw 76 rfl)) (Or.inl (own_w hw 44 rfl)) (by decide) (t := .int) (t' := (.array (.array .int))) (by decide) (by decide)))).ext E9).other W14 (Or.inr (slot_ne (Or.inl (own_w hw 76 rfl)) (Or.inl (own_w hw 48 rfl)) (by decide) (t := .int) (t' := (.array (.array (.object "java/lang/String")))) (by decide) (by decide)))).ext E15).other W20 (Or.inr (slot_ne (Or.inl (own_w hw 76 rfl)) (Or.inl (own_w hw 50 rfl)) (by decide) (t := .int) (t' := (.array (.array .int))) (by decide) (by decide)))).ext E21).other W26 (Or.inr (slot_ne (Or.inl (own_w hw 76 rfl)) (Or.inl (own_w hw 52 rfl)) (by decide) (t := .int) (t' := (.array (.array (.object "java/lang/String")))) (by decide) (by decide)))).ext E27).other W32 (Or.inr (slot_ne (Or.inl (own_w hw 76 rfl)) (Or.inl (own_w hw 56 rfl)) (by decide) (t := .int) (t' := (.array (.array (.object "com/example/boxwood/boxwood/XmlValue")))) (by decide) (by decide)))).other W35 (Or.inr (slot_ne (Or.inl (own_w hw 76 rfl)) (Or.inr (own_w hw 58 rfl)) (by decide) (t := .int) (t' := (.array .byte)) (by decide) (by decide))))
  have f40 : Fld Z h35 t "com/example/boxwood/boxwood/XmlNodeTable" "numbers" "[[I" (.ref b3) := (((((((((F8.ext E9).other W14 (Or.inr (slot_ne (Or.inl (own_w hw 44 rfl)) (Or.inl (own_w hw 48 rfl)) (by decide) (t := (.array (.array .int))) (t' := (.array (.array (.object "java/lang/String")))) (by decide) (by decide)))).ext E15).other W20 (Or.inr (slot_ne (Or.inl (own_w hw 44 rfl)) (Or.inl (own_w hw 50 rfl)) (by decide) (t := (.array (.array .int))) (t' := (.array (.array .int))) (by decide) (by decide)))).ext E21).other W26 (Or.inr (slot_ne (Or.inl (own_w hw 44 rfl)) (Or.inl (own_w hw 52 rfl)) (by decide) (t := (.array (.array .int))) (t' := (.array (.array (.object "java/lang/String")))) (by decide) (by decide)))).ext E27).other W32 (Or.inr (slot_ne (Or.inl (own_w hw 44 rfl)) (Or.inl (own_w hw 56 rfl)) (by decide) (t := (.array (.array .int))) (t' := (.array (.array (.object "com/example/boxwood/boxwood/XmlValue")))) (by decide) (by decide)))).other W35 (Or.inr (slot_ne (Or.inl (own_w hw 44 rfl)) (Or.inr (own_w hw 58 rfl)) (by decide) (t := (.array (.array .int))) (t' := (.array .byte)) (by decide) (by decide))))
  have f41 : Arv Z h35 b3 k3 (.array .int) (1 : Int32) [.null] .null := ((((((((((V5.other W8 (own_nn (by omega))).ext E9).other W14 (own_nn (by omega))).ext E15).other W20 (own_nn (by omega))).ext E21).other W26 (own_nn (by omega))).ext E27).other W32 (own_nn (by omega))).other W35 (own_nn (by omega)))
  have f42 : Fld Z h35 t "com/example/boxwood/boxwood/XmlNodeTable" "strings" "[[Ljava/lang/String;" (.ref b9) := (((((((F14.ext E15).other W20 (Or.inr (slot_ne (Or.inl (own_w hw 48 rfl)) (Or.inl (own_w hw 50 rfl)) (by decide) (t := (.array (.array (.object "java/lang/String")))) (t' := (.array (.array .int))) (by decide) (by decide)))).ext E21).other W26 (Or.inr (slot_ne (Or.inl (own_w hw 48 rfl)) (Or.inl (own_w hw 52 rfl)) (by decide) (t := (.array (.array (.object "java/lang/String")))) (t' := (.array (.array (.object "java/lang/String")))) (by decide) (by decide)))).ext E27).other W32 (Or.inr (slot_ne (Or.inl (own_w hw 48 rfl)) (Or.inl (own_w hw 56 rfl)) (by decide) (t := (.array (.array (.object "java/lang/String")))) (t' := (.array (.array (.object "com/example/boxwood/boxwood/XmlValue")))) (by decide) (by decide)))).other W35 (Or.inr (slot_ne (Or.inl (own_w hw 48 rfl)) (Or.inr (own_w hw 58 rfl)) (by decide) (t := (.array (.array (.object "java/lang/String")))) (t' := (.array .byte)) (by decide) (by decide))))
  have f43 : Arv Z h35 b9 k9 (.array (.object "java/lang/String")) (1 : Int32) [.null] .null := ((((((((V11.other W14 (own_nn (by omega))).ext E15).other W20 (own_nn (by omega))).ext E21).other W26 (own_nn (by omega))).ext E27).other W32 (own_nn (by omega))).other W35 (own_nn (by omega)))
  have f44 : Fld Z h35 t "com/example/boxwood/boxwood/XmlNodeTable" "attributeNumbers" "[[I" (.ref b15) := (((((F20.ext E21).other W26 (Or.inr (slot_ne (Or.inl (own_w hw 50 rfl)) (Or.inl (own_w hw 52 rfl)) (by decide) (t := (.array (.array .int))) (t' := (.array (.array (.object "java/lang/String")))) (by decide) (by decide)))).ext E27).other W32 (Or.inr (slot_ne (Or.inl (own_w hw 50 rfl)) (Or.inl (own_w hw 56 rfl)) (by decide) (t := (.array (.array .int))) (t' := (.array (.array (.object "com/example/boxwood/boxwood/XmlValue")))) (by decide) (by decide)))).other W35 (Or.inr (slot_ne (Or.inl (own_w hw 50 rfl)) (Or.inr (own_w hw 58 rfl)) (by decide) (t := (.array (.array .int))) (t' := (.array .byte)) (by decide) (by decide))))
  have f45 : Arv Z h35 b15 k15 (.array .int) (1 : Int32) [.null] .null := ((((((V17.other W20 (own_nn (by omega))).ext E21).other W26 (own_nn (by omega))).ext E27).other W32 (own_nn (by omega))).other W35 (own_nn (by omega)))
  have f46 : Fld Z h35 t "com/example/boxwood/boxwood/XmlNodeTable" "attributeNames" "[[Ljava/lang/String;" (.ref b21) := (((F26.ext E27).other W32 (Or.inr (slot_ne (Or.inl (own_w hw 52 rfl)) (Or.inl (own_w hw 56 rfl)) (by decide) (t := (.array (.array (.object "java/lang/String")))) (t' := (.array (.array (.object "com/example/boxwood/boxwood/XmlValue")))) (by decide) (by decide)))).other W35 (Or.inr (slot_ne (Or.inl (own_w hw 52 rfl)) (Or.inr (own_w hw 58 rfl)) (by decide) (t := (.array (.array (.object "java/lang/String")))) (t' := (.array .byte)) (by decide) (by decide))))
  have f47 : Arv Z h35 b21 k21 (.array (.object "java/lang/String")) (1 : Int32) [.null] .null := ((((V23.other W26 (own_nn (by omega))).ext E27).other W32 (own_nn (by omega))).other W35 (own_nn (by omega)))
  have f48 : Fld Z h35 t "com/example/boxwood/boxwood/XmlNodeTable" "attributeValues" "[[Lcom/example/boxwood/boxwood/XmlValue;" (.ref b27) := (F32.other W35 (Or.inr (slot_ne (Or.inl (own_w hw 56 rfl)) (Or.inr (own_w hw 58 rfl)) (by decide) (t := (.array (.array (.object "com/example/boxwood/boxwood/XmlValue")))) (t' := (.array .byte)) (by decide) (by decide))))
  have f49 : Arv Z h35 b27 k27 (.array (.object "com/example/boxwood/boxwood/XmlValue")) (1 : Int32) [.null] .null := ((V29.other W32 (own_nn (by omega))).other W35 (own_nn (by omega)))
  obtain ⟨fs, hr, hrun, hended, hW, hsame⟩ := X35.leave (v := none) (fun _ => rfl)
  refine own_ret (t := T35.setFrames fs) ?_ ⟨_, hrun, hended, _, _, rfl, ?_, ⟨_, rfl⟩, hW, hsame.mono (by decide) (by decide)⟩
  · exact X35.returnOut hx Bd.returns (hb hby d8_49) hr
  · show Q_tabInit Z _ _ h0 n0 _ T35.heap _
    rw [e35]
    exact ⟨b3, k3, b9, k9, b15, k15, b21, k21, b27, k27, rfl, N35, K36, f37, f38, f39, (by omega), f40, f41, O3, (by omega), f42, f43, O9, (by omega), f44, f45, O15, (by omega), f46, f47, O21, (by omega), f48, f49, O27, (by first | decide | omega | assumption), (by first | decide | omega | assumption), (by first | decide | omega | assumption), (by first | decide | omega | assumption)⟩
theorem ef_add_0 (m : MethodId) (x0 : Nat) (x1 : Int32) (x2 : Int32) (x3 : Int32) : entryFrame m #[(.ref x0), (.int x1), (.int x2), (.int x3)] 7 = mkF m 0 #[.val (.ref x0), .val (.int x1), .val (.int x2), .val (.int x3), .unset, .unset, .unset] [] := by first | (simp [entryFrame, mkF, argsToLocals, Value.category]; done) | rfl
theorem pn_10 : plainName "com/example/boxwood/boxwood/XmlNodeTable" = true := by first | (simp [plainName, overriddenIn]; done) | decide +kernel
theorem d10_0 : decode prog_60_method_24_code 0 = .ok (.aload_n 0, 1) := by decide +kernel
theorem d10_1 : decode prog_60_method_24_code 1 = .ok (.dup, 1) := by decide +kernel
theorem d10_2 : decode prog_60_method_24_code 2 = .ok (.getfield 53, 3) := by decide +kernel
theorem d10_5 : decode prog_60_method_24_code 5 = .ok (.dup_x1, 1) := by decide +kernel
theorem d10_6 : decode prog_60_method_24_code 6 = .ok (.iconst 1, 1) := by decide +kernel
theorem d10_7 : decode prog_60_method_24_code 7 = .ok (.iadd, 1) := by decide +kernel
theorem d10_8 : decode prog_60_method_24_code 8 = .ok (.putfield 53, 3) := by decide +kernel
theorem d10_11 : decode prog_60_method_24_code 11 = .ok (.istore 4, 2) := by decide +kernel
theorem d10_13 : decode prog_60_method_24_code 13 = .ok (.iload 4, 2) := by decide +kernel
theorem d10_15 : decode prog_60_method_24_code 15 = .ok (.sipush 4095, 3) := by decide +kernel
theorem d10_18 : decode prog_60_method_24_code 18 = .ok (.iand, 1) := by decide +kernel
theorem d10_19 : decode prog_60_method_24_code 19 = .ok (.ifCond .ne 81, 3) := by decide +kernel
theorem d10_22 : decode prog_60_method_24_code 22 = .ok (.iload 4, 2) := by decide +kernel
theorem d10_24 : decode prog_60_method_24_code 24 = .ok (.bipush 12, 2) := by decide +kernel
theorem d10_26 : decode prog_60_method_24_code 26 = .ok (.iushr, 1) := by decide +kernel
theorem d10_27 : decode prog_60_method_24_code 27 = .ok (.istore 5, 2) := by decide +kernel
theorem d10_29 : decode prog_60_method_24_code 29 = .ok (.iload 5, 2) := by decide +kernel
theorem d10_31 : decode prog_60_method_24_code 31 = .ok (.aload_n 0, 1) := by decide +kernel
theorem d10_32 : decode prog_60_method_24_code 32 = .ok (.getfield 11, 3) := by decide +kernel
theorem d10_35 : decode prog_60_method_24_code 35 = .ok (.arraylength, 1) := by decide +kernel
theorem d10_36 : decode prog_60_method_24_code 36 = .ok (.if_icmp .ne 39, 3) := by decide +kernel
theorem d10_75 : decode prog_60_method_24_code 75 = .ok (.aload_n 0, 1) := by decide +kernel
theorem d10_76 : decode prog_60_method_24_code 76 = .ok (.getfield 11, 3) := by decide +kernel
theorem d10_79 : decode prog_60_method_24_code 79 = .ok (.iload 5, 2) := by decide +kernel
theorem d10_81 : decode prog_60_method_24_code 81 = .ok (.sipush 28672, 3) := by decide +kernel
theorem d10_84 : decode prog_60_method_24_code 84 = .ok (.newarray .int, 2) := by decide +kernel
theorem d10_86 : decode prog_60_method_24_code 86 = .ok (.aastore, 1) := by decide +kernel
theorem d10_87 : decode prog_60_method_24_code 87 = .ok (.aload_n 0, 1) := by decide +kernel
theorem d10_88 : decode prog_60_method_24_code 88 = .ok (.getfield 17, 3) := by decide +kernel
theorem d10_91 : decode prog_60_method_24_code 91 = .ok (.iload 5, 2) := by decide +kernel
theorem d10_93 : decode prog_60_method_24_code 93 = .ok (.sipush 4096, 3) := by decide +kernel
theorem d10_96 : decode prog_60_method_24_code 96 = .ok (.anewarray 60, 3) := by decide +kernel
theorem d10_99 : decode prog_60_method_24_code 99 = .ok (.aastore, 1) := by decide +kernel
theorem d10_100 : decode prog_60_method_24_code 100 = .ok (.aload_n 0, 1) := by decide +kernel
theorem d10_101 : decode prog_60_method_24_code 101 = .ok (.getfield 11, 3) := by decide +kernel
theorem d10_104 : decode prog_60_method_24_code 104 = .ok (.iload 4, 2) := by decide +kernel
theorem d10_106 : decode prog_60_method_24_code 106 = .ok (.bipush 12, 2) := by decide +kernel
theorem d10_108 : decode prog_60_method_24_code 108 = .ok (.iushr, 1) := by decide +kernel
theorem d10_109 : decode prog_60_method_24_code 109 = .ok (.aaload, 1) := by decide +kernel
theorem d10_110 : decode prog_60_method_24_code 110 = .ok (.astore 5, 2) := by decide +kernel
theorem d10_112 : decode prog_60_method_24_code 112 = .ok (.iload 4, 2) := by decide +kernel
theorem d10_114 : decode prog_60_method_24_code 114 = .ok (.sipush 4095, 3) := by decide +kernel
theorem d10_117 : decode prog_60_method_24_code 117 = .ok (.iand, 1) := by decide +kernel
theorem d10_118 : decode prog_60_method_24_code 118 = .ok (.bipush 7, 2) := by decide +kernel
theorem d10_120 : decode prog_60_method_24_code 120 = .ok (.imul, 1) := by decide +kernel
theorem d10_121 : decode prog_60_method_24_code 121 = .ok (.istore 6, 2) := by decide +kernel
theorem d10_123 : decode prog_60_method_24_code 123 = .ok (.aload 5, 2) := by decide +kernel
theorem d10_125 : decode prog_60_method_24_code 125 = .ok (.iload 6, 2) := by decide +kernel
theorem d10_127 : decode prog_60_method_24_code 127 = .ok (.iconst 0, 1) := by decide +kernel
theorem d10_128 : decode prog_60_method_24_code 128 = .ok (.iadd, 1) := by decide +kernel
theorem d10_129 : decode prog_60_method_24_code 129 = .ok (.iload_n 1, 1) := by decide +kernel
theorem d10_130 : decode prog_60_method_24_code 130 = .ok (.iastore, 1) := by decide +kernel
theorem d10_131 : decode prog_60_method_24_code 131 = .ok (.aload 5, 2) := by decide +kernel
theorem d10_133 : decode prog_60_method_24_code 133 = .ok (.iload 6, 2) := by decide +kernel
theorem d10_135 : decode prog_60_method_24_code 135 = .ok (.iconst 1, 1) := by decide +kernel
theorem d10_136 : decode prog_60_method_24_code 136 = .ok (.iadd, 1) := by decide +kernel
theorem d10_137 : decode prog_60_method_24_code 137 = .ok (.iload_n 2, 1) := by decide +kernel
theorem d10_138 : decode prog_60_method_24_code 138 = .ok (.iastore, 1) := by decide +kernel
theorem d10_139 : decode prog_60_method_24_code 139 = .ok (.aload 5, 2) := by decide +kernel
theorem d10_141 : decode prog_60_method_24_code 141 = .ok (.iload 6, 2) := by decide +kernel
theorem d10_143 : decode prog_60_method_24_code 143 = .ok (.iconst 2, 1) := by decide +kernel
theorem d10_144 : decode prog_60_method_24_code 144 = .ok (.iadd, 1) := by decide +kernel
theorem d10_145 : decode prog_60_method_24_code 145 = .ok (.iload_n 3, 1) := by decide +kernel
theorem d10_146 : decode prog_60_method_24_code 146 = .ok (.iastore, 1) := by decide +kernel
theorem d10_147 : decode prog_60_method_24_code 147 = .ok (.aload 5, 2) := by decide +kernel
theorem d10_149 : decode prog_60_method_24_code 149 = .ok (.iload 6, 2) := by decide +kernel
theorem d10_151 : decode prog_60_method_24_code 151 = .ok (.iconst 3, 1) := by decide +kernel
theorem d10_152 : decode prog_60_method_24_code 152 = .ok (.iadd, 1) := by decide +kernel
theorem d10_153 : decode prog_60_method_24_code 153 = .ok (.iload 4, 2) := by decide +kernel
theorem d10_155 : decode prog_60_method_24_code 155 = .ok (.iconst 1, 1) := by decide +kernel
theorem d10_156 : decode prog_60_method_24_code 156 = .ok (.iadd, 1) := by decide +kernel
theorem d10_157 : decode prog_60_method_24_code 157 = .ok (.iastore, 1) := by decide +kernel
theorem d10_158 : decode prog_60_method_24_code 158 = .ok (.aload 5, 2) := by decide +kernel
theorem d10_160 : decode prog_60_method_24_code 160 = .ok (.iload 6, 2) := by decide +kernel
theorem d10_162 : decode prog_60_method_24_code 162 = .ok (.bipush 6, 2) := by decide +kernel
theorem d10_164 : decode prog_60_method_24_code 164 = .ok (.iadd, 1) := by decide +kernel
theorem d10_165 : decode prog_60_method_24_code 165 = .ok (.aload_n 0, 1) := by decide +kernel
theorem d10_166 : decode prog_60_method_24_code 166 = .ok (.getfield 57, 3) := by decide +kernel
theorem d10_169 : decode prog_60_method_24_code 169 = .ok (.iastore, 1) := by decide +kernel
theorem d10_170 : decode prog_60_method_24_code 170 = .ok (.iload 4, 2) := by decide +kernel
theorem d10_172 : decode prog_60_method_24_code 172 = .ok (.ireturn, 1) := by decide +kernel
def Q_add_0 (Z : State) (t : Nat) (aN : Nat) (aS : Nat) (p1 : Int32) (p2 : Int32) (p3 : Int32) (ac : Int32) (kN : ClassId) (kS : ClassId) (h0 : Heap) (n0 : Nat) (vR : Option Value) (hR : Heap) (LR : List Loc) : Prop := ∃ (bN : Nat) (bS : Nat) (kb : ClassId) (kc : ClassId), vR = some (.int 0) ∧ Fr n0 LR ∧ Keep h0 hR [t, aN, aS] ∧ (Exa Z hR t "com/example/boxwood/boxwood/XmlNodeTable") ∧ (Fld Z hR t "com/example/boxwood/boxwood/XmlNodeTable" "size" "I" (.int 1)) ∧ (Arv Z hR aN kN (.array .int) (1 : Int32) [(.ref bN)] .null) ∧ (Arv Z hR aS kS (.array (.object "java/lang/String")) (1 : Int32) [(.ref bS)] .null) ∧ h0.size ≤ bN ∧ h0.size ≤ bS ∧ (bN < bS) ∧ (Arv Z hR bN kb .int (28672 : Int32) [(.int p1), (.int p2), (.int p3), (.int 1), (.int 0), (.int 0), (.int ac)] (.int 0)) ∧ (Arv Z hR bS kc (.object "java/lang/String") (4096 : Int32) [] .null) ∧ (Ovr Z kc "java/lang/String") ∧ (Fld Z hR t "com/example/boxwood/boxwood/XmlNodeTable" "numbers" "[[I" (.ref aN)) ∧ (Fld Z hR t "com/example/boxwood/boxwood/XmlNodeTable" "strings" "[[Ljava/lang/String;" (.ref aS)) ∧ (Fld Z hR t "com/example/boxwood/boxwood/XmlNodeTable" "attributeCount" "I" (.int ac))
set_option maxRecDepth 65536 in
set_option maxHeartbeats 40000000 in
theorem add_0 (l : Launch) (Z : State) (a0 : Array Value) (hw : ∀ d ∈ tables_1, d.before a0 Z = true) (ws : List Jvm.Cond) (t : Nat) (aN : Nat) (aS : Nat) (p1 : Int32) (p2 : Int32) (p3 : Int32) (ac : Int32) (kN : ClassId) (kS : ClassId) (h0 : Heap) (n0 : Nat) (Z0 : n0 ≤ h0.size) (E_t : Exa Z h0 t "com/example/boxwood/boxwood/XmlNodeTable") (F_size_t : Fld Z h0 t "com/example/boxwood/boxwood/XmlNodeTable" "size" "I" (.int 0)) (F_numbers_t : Fld Z h0 t "com/example/boxwood/boxwood/XmlNodeTable" "numbers" "[[I" (.ref aN)) (F_attributeCount_t : Fld Z h0 t "com/example/boxwood/boxwood/XmlNodeTable" "attributeCount" "I" (.int ac)) (V_aN : Arv Z h0 aN kN (.array .int) (1 : Int32) [.null] .null) (F_strings_t : Fld Z h0 t "com/example/boxwood/boxwood/XmlNodeTable" "strings" "[[Ljava/lang/String;" (.ref aS)) (V_aS : Arv Z h0 aS kS (.array (.object "java/lang/String")) (1 : Int32) [.null] .null) (O_aN : OvrA Z kN .int "[I") (O_aS : OvrA Z kS (.object "java/lang/String") "[Ljava/lang/String;") (g_t : n0 ≤ t) (g_aN : n0 ≤ aN) (g_aS : n0 ≤ aS) :
    own_M l (⟨"com/example/boxwood/boxwood/XmlNodeTable", "add", "(III)I"⟩ : MethodName) prog_60_method_24_code 7 (some .int) ws ({ frames := 0, cells := 2, slots := 32768, locals := 0 } : Room) Z #[(.ref t), (.int p1), (.int p2), (.int p3)] h0 (Q_add_0 Z t aN aS p1 p2 p3 ac kN kS h0 n0) := by
  refine own_body (own := "com/example/boxwood/boxwood/XmlNodeTable") rfl (plainFor_of_name pn_10) (fun m => ef_add_0 m t p1 p2 p3) ?_
  intro p e s m below meth c s₁ Bd hml hZ hh hx hby hown X0 e0
  have N0 := Fr.nil n0
  have lt4 : h0.size > t := E_t.lt
  have lt5 : h0.size > aN := V_aN.lt
  have lt6 : h0.size > aS := V_aS.lt
  refine own_aloadN X0.here hx hby d10_0 rfl rfl ?_
  refine own_dup X0.here hx hby d10_1 rfl ?_
  refine own_getF X0 hx hZ hown (host := "") (Or.inl (own_w hw 68 rfl)) Via.refl e0 F_size_t hby d10_2 ?_
  intro T7 X7 e7
  refine own_dupX1 X7.here hx hby d10_5 rfl rfl ?_
  refine own_iconst X7.here hx hby d10_6 (v := (1 : Int32)) (by decide) ?_
  refine own_iadd X7.here hx hby d10_7 (v := (1 : Int32)) (by decide) ?_
  refine own_putF X7 hx hZ (ty := .int) hown (host := "") (Or.inl (own_w hw 68 rfl)) Via.refl e7 F_size_t E_t (Or.inl (own_w hw 69 rfl)) (own_w hw 35 rfl) (by decide) rfl rfl hby d10_8 N0 g_t ?_
  intro T8 h8 lo8 X8 e8 N8 W8 F8 z8
  refine own_istore X8.here hx hby d10_11 (l' := #[.val (.ref t), .val (.int p1), .val (.int p2), .val (.int p3), .val (.int 0), .unset, .unset]) rfl ?_
  refine own_iload X8.here hx hby d10_13 rfl ?_
  refine own_sipush X8.here hx hby d10_15 (v := (4095 : Int32)) (by decide) ?_
  refine own_iand X8.here hx hby d10_18 (v := (0 : Int32)) (by decide) ?_
  refine own_ifNo X8.here hx hby d10_19 ((if0 _ _).trans (teq (show (0 : Int32) = (0 : Int32) from (by decide))).2) ?_
  refine own_iload X8.here hx hby d10_22 rfl ?_
  refine own_bipush X8.here hx hby d10_24 (v := (12 : Int32)) (by decide) ?_
  refine own_iushr X8.here hx hby d10_26 (v := (0 : Int32)) (by decide) ?_
  refine own_istore X8.here hx hby d10_27 (l' := #[.val (.ref t), .val (.int p1), .val (.int p2), .val (.int p3), .val (.int 0), .val (.int 0), .unset]) rfl ?_
  refine own_iload X8.here hx hby d10_29 rfl ?_
  refine own_aloadN X8.here hx hby d10_31 rfl rfl ?_
  have f9 : Fld Z h8 t "com/example/boxwood/boxwood/XmlNodeTable" "numbers" "[[I" (.ref aN) := (F_numbers_t.other W8 (Or.inr (slot_ne (Or.inl (own_w hw 44 rfl)) (Or.inl (own_w hw 69 rfl)) (by decide) (t := (.array (.array .int))) (t' := .int) (by decide) (by decide))))
  refine own_getF X8 hx hZ hown (host := "") (Or.inl (own_w hw 43 rfl)) Via.refl e8 f9 hby d10_32 ?_
  intro T10 X10 e10
  have f11 : Arv Z h8 aN kN (.array .int) (1 : Int32) [.null] .null := (V_aN.other W8 (Ne.symm (own_ne_oa E_t (own_w hw 35 rfl) V_aN)))
  refine own_alen X10 hx hZ e10 f11 hby d10_35 ?_
  refine own_icmpYes X10.here hx hby (pc' := 75) d10_36 (feq (show ¬ ((0 : Int32) = (1 : Int32)) from (by decide))).2 (by decide) (by decide) ?_
  refine own_aloadN X10.here hx hby d10_75 rfl rfl ?_
  refine own_getF X10 hx hZ hown (host := "") (Or.inl (own_w hw 43 rfl)) Via.refl e10 f9 hby d10_76 ?_
  intro T12 X12 e12
  refine own_iload X12.here hx hby d10_79 rfl ?_
  refine own_sipush X12.here hx hby d10_81 (v := (28672 : Int32)) (by decide) ?_
  refine own_newP X12 hx hZ (aty := .int) (own_w hw 70 rfl) e12 hby d10_84 (by decide) 28672 (by decide) (by decide) (by decide) (by decide) (ad := "[I") (by decide) ?_
  intro T13 h13 k13 b13 X13 e13 E13 g13 V13 C13 lt13
  have z14 : h8.size ≤ h13.size := E13.1
  have V15 : Arv Z h13 b13 k13 .int (28672 : Int32) [] (.int 0) := V13
  have f16 : Arv Z h13 aN kN (.array .int) (1 : Int32) [.null] .null := (f11.ext E13)
  refine own_aastore X13 hx hZ e13 f16 rfl rfl (own_stoVA f16 O_aN (Ins.self C13)) ⟨by decide, by decide⟩ 0 (by decide) (Nat.le_of_ble_eq_true rfl) hby d10_86 N8 g_aN ?_
  intro T17 h17 lo17 X17 e17 N17 W17 V17 z17
  have V18 : Arv Z h17 aN kN (.array .int) (1 : Int32) [(.ref b13)] .null := V17
  refine own_aloadN X17.here hx hby d10_87 rfl rfl ?_
  have f19 : Fld Z h17 t "com/example/boxwood/boxwood/XmlNodeTable" "strings" "[[Ljava/lang/String;" (.ref aS) := (((F_strings_t.other W8 (Or.inr (slot_ne (Or.inl (own_w hw 48 rfl)) (Or.inl (own_w hw 69 rfl)) (by decide) (t := (.array (.array (.object "java/lang/String")))) (t' := .int) (by decide) (by decide)))).ext E13).other W17 (Or.inl (own_ne_oa E_t (own_w hw 35 rfl) V_aN)))
  refine own_getF X17 hx hZ hown (host := "") (Or.inl (own_w hw 47 rfl)) Via.refl e17 f19 hby d10_88 ?_
  intro T20 X20 e20
  refine own_iload X20.here hx hby d10_91 rfl ?_
  refine own_sipush X20.here hx hby d10_93 (v := (4096 : Int32)) (by decide) ?_
  refine own_newR X20 hx hZ hown (own_w hw 72 rfl) (own_w hw 73 rfl) e20 hby d10_96 (by decide) 4096 (by decide) (by decide) (by decide) (by decide) (ad := "[Ljava/lang/String;") (by decide) ?_
  intro T21 h21 k21 b21 X21 e21 E21 g21 V21 C21 O21 lt21
  have z22 : h17.size ≤ h21.size := E21.1
  have V23 : Arv Z h21 b21 k21 (.object "java/lang/String") (4096 : Int32) [] .null := V21
  have f24 : Arv Z h21 aS kS (.array (.object "java/lang/String")) (1 : Int32) [.null] .null := ((((V_aS.other W8 (Ne.symm (own_ne_oa E_t (own_w hw 35 rfl) V_aS))).ext E13).other W17 (own_ne_aa V_aS V_aN (by decide))).ext E21)
  refine own_aastore X21 hx hZ e21 f24 rfl rfl (own_stoVA f24 O_aS (Ins.self C21)) ⟨by decide, by decide⟩ 0 (by decide) (Nat.le_of_ble_eq_true rfl) hby d10_99 N17 g_aS ?_
  intro T25 h25 lo25 X25 e25 N25 W25 V25 z25
  have V26 : Arv Z h25 aS kS (.array (.object "java/lang/String")) (1 : Int32) [(.ref b21)] .null := V25
  refine own_aloadN X25.here hx hby d10_100 rfl rfl ?_
  have f27 : Fld Z h25 t "com/example/boxwood/boxwood/XmlNodeTable" "numbers" "[[I" (.ref aN) := ((((f9.ext E13).other W17 (Or.inl (own_ne_oa E_t (own_w hw 35 rfl) V_aN))).ext E21).other W25 (Or.inl (own_ne_oa E_t (own_w hw 35 rfl) V_aS)))
  refine own_getF X25 hx hZ hown (host := "") (Or.inl (own_w hw 43 rfl)) Via.refl e25 f27 hby d10_101 ?_
  intro T28 X28 e28
  refine own_iload X28.here hx hby d10_104 rfl ?_
  refine own_bipush X28.here hx hby d10_106 (v := (12 : Int32)) (by decide) ?_
  refine own_iushr X28.here hx hby d10_108 (v := (0 : Int32)) (by decide) ?_
  have f29 : Arv Z h25 aN kN (.array .int) (1 : Int32) [(.ref b13)] .null := ((V18.ext E21).other W25 (own_ne_aa V_aN V_aS (by decide)))
  refine own_aaload X28 hx hZ e28 f29 rfl ⟨by decide, by decide⟩ (v := (.ref b13)) rfl hby d10_109 ?_
  refine own_astore X28.here hx hby d10_110 rfl (l' := #[.val (.ref t), .val (.int p1), .val (.int p2), .val (.int p3), .val (.int 0), .val (.ref b13), .unset]) rfl ?_
  refine own_iload X28.here hx hby d10_112 rfl ?_
  refine own_sipush X28.here hx hby d10_114 (v := (4095 : Int32)) (by decide) ?_
  refine own_iand X28.here hx hby d10_117 (v := (0 : Int32)) (by decide) ?_
  refine own_bipush X28.here hx hby d10_118 (v := (7 : Int32)) (by decide) ?_
  refine own_imul X28.here hx hby d10_120 (v := (0 : Int32)) (by decide) ?_
  refine own_istore X28.here hx hby d10_121 (l' := #[.val (.ref t), .val (.int p1), .val (.int p2), .val (.int p3), .val (.int 0), .val (.ref b13), .val (.int 0)]) rfl ?_
  refine own_aload X28.here hx hby d10_123 rfl rfl ?_
  refine own_iload X28.here hx hby d10_125 rfl ?_
  refine own_iconst X28.here hx hby d10_127 (v := (0 : Int32)) (by decide) ?_
  refine own_iadd X28.here hx hby d10_128 (v := (0 : Int32)) (by decide) ?_
  refine own_iloadN X28.here hx hby d10_129 rfl ?_
  have f30 : Arv Z h25 b13 k13 .int (28672 : Int32) [] (.int 0) := (((V15.other W17 (own_nn (by omega))).ext E21).other W25 (own_nn (by omega)))
  have V32 : Arv Z h25 b13 k13 .int (28672 : Int32) [(.int 0)] (.int 0) := f30.pad (pad_rep [] (.int 0) 1)
  refine own_iastore X28 hx hZ e28 V32 ⟨by decide, by decide⟩ 0 (by decide) (Nat.le_of_ble_eq_true rfl) rfl hby d10_130 N25 (by omega) ?_
  intro T31 h31 lo31 X31 e31 N31 W31 V31 z31
  have V33 : Arv Z h31 b13 k13 .int (28672 : Int32) [(.int p1)] (.int 0) := V31
  refine own_aload X31.here hx hby d10_131 rfl rfl ?_
  refine own_iload X31.here hx hby d10_133 rfl ?_
  refine own_iconst X31.here hx hby d10_135 (v := (1 : Int32)) (by decide) ?_
  refine own_iadd X31.here hx hby d10_136 (v := (1 : Int32)) (by decide) ?_
  refine own_iloadN X31.here hx hby d10_137 rfl ?_
  have V35 : Arv Z h31 b13 k13 .int (28672 : Int32) [(.int p1), (.int 0)] (.int 0) := V33.pad (pad_rep [(.int p1)] (.int 0) 1)
  refine own_iastore X31 hx hZ e31 V35 ⟨by decide, by decide⟩ 1 (by decide) (Nat.le_of_ble_eq_true rfl) rfl hby d10_138 N31 (by omega) ?_
  intro T34 h34 lo34 X34 e34 N34 W34 V34 z34
  have V36 : Arv Z h34 b13 k13 .int (28672 : Int32) [(.int p1), (.int p2)] (.int 0) := V34
  refine own_aload X34.here hx hby d10_139 rfl rfl ?_
  refine own_iload X34.here hx hby d10_141 rfl ?_
  refine own_iconst X34.here hx hby d10_143 (v := (2 : Int32)) (by decide) ?_
  refine own_iadd X34.here hx hby d10_144 (v := (2 : Int32)) (by decide) ?_
  refine own_iloadN X34.here hx hby d10_145 rfl ?_
  have V38 : Arv Z h34 b13 k13 .int (28672 : Int32) [(.int p1), (.int p2), (.int 0)] (.int 0) := V36.pad (pad_rep [(.int p1), (.int p2)] (.int 0) 1)
  refine own_iastore X34 hx hZ e34 V38 ⟨by decide, by decide⟩ 2 (by decide) (Nat.le_of_ble_eq_true rfl) rfl hby d10_146 N34 (by omega) ?_
  intro T37 h37 lo37 X37 e37 N37 W37 V37 z37
  have V39 : Arv Z h37 b13 k13 .int (28672 : Int32) [(.int p1), (.int p2), (.int p3)] (.int 0) := V37
  refine own_aload X37.here hx hby d10_147 rfl rfl ?_
  refine own_iload X37.here hx hby d10_149 rfl ?_
  refine own_iconst X37.here hx hby d10_151 (v := (3 : Int32)) (by decide) ?_
  refine own_iadd X37.here hx hby d10_152 (v := (3 : Int32)) (by decide) ?_
  refine own_iload X37.here hx hby d10_153 rfl ?_
  refine own_iconst X37.here hx hby d10_155 (v := (1 : Int32)) (by decide) ?_
  refine own_iadd X37.here hx hby d10_156 (v := (1 : Int32)) (by decide) ?_
  have V41 : Arv Z h37 b13 k13 .int (28672 : Int32) [(.int p1), (.int p2), (.int p3), (.int 0)] (.int 0) := V39.pad (pad_rep [(.int p1), (.int p2), (.int p3)] (.int 0) 1)
  refine own_iastore X37 hx hZ e37 V41 ⟨by decide, by decide⟩ 3 (by decide) (Nat.le_of_ble_eq_true rfl) rfl hby d10_157 N37 (by omega) ?_
  intro T40 h40 lo40 X40 e40 N40 W40 V40 z40
  have V42 : Arv Z h40 b13 k13 .int (28672 : Int32) [(.int p1), (.int p2), (.int p3), (.int 1)] (.int 0) := V40
  refine own_aload X40.here hx hby d10_158 rfl rfl ?_
  refine own_iload X40.here hx hby d10_160 rfl ?_
  refine own_bipush X40.here hx hby d10_162 (v := (6 : Int32)) (by decide) ?_
  refine own_iadd X40.here hx hby d10_164 (v := (6 : Int32)) (by decide) ?_
  refine own_aloadN X40.here hx hby d10_165 rfl rfl ?_
  have f43 : Fld Z h40 t "com/example/boxwood/boxwood/XmlNodeTable" "attributeCount" "I" (.int ac) := (((((((((F_attributeCount_t.other W8 (Or.inr (slot_ne (Or.inl (own_w hw 76 rfl)) (Or.inl (own_w hw 69 rfl)) (by decide) (t := .int) (t' := .int) (by decide) (by decide)))).ext E13).other W17 (Or.inl (own_ne_oa E_t (own_w hw 35 rfl) V_aN))).ext E21).other W25 (Or.inl (own_ne_oa E_t (own_w hw 35 rfl) V_aS))).other W31 (Or.inl (own_nn (by omega)))).other W34 (Or.inl (own_nn (by omega)))).other W37 (Or.inl (own_nn (by omega)))).other W40 (Or.inl (own_nn (by omega))))
  refine own_getF X40 hx hZ hown (host := "") (Or.inl (own_w hw 75 rfl)) Via.refl e40 f43 hby d10_166 ?_
  intro T44 X44 e44
  have V46 : Arv Z h40 b13 k13 .int (28672 : Int32) [(.int p1), (.int p2), (.int p3), (.int 1), (.int 0), (.int 0), (.int 0)] (.int 0) := V42.pad (pad_rep [(.int p1), (.int p2), (.int p3), (.int 1)] (.int 0) 3)
  refine own_iastore X44 hx hZ e44 V46 ⟨by decide, by decide⟩ 6 (by decide) (Nat.le_of_ble_eq_true rfl) rfl hby d10_169 N40 (by omega) ?_
  intro T45 h45 lo45 X45 e45 N45 W45 V45 z45
  have V47 : Arv Z h45 b13 k13 .int (28672 : Int32) [(.int p1), (.int p2), (.int p3), (.int 1), (.int 0), (.int 0), (.int ac)] (.int 0) := V45
  refine own_iload X45.here hx hby d10_170 rfl ?_
  have K48 : Keep h0 h45 [t, aN, aS] := (((((((((((Keep.refl h0 [t, aN, aS]).wr W8 (Or.inl (List.mem_of_getElem? (i := 0) rfl))).ext E13).wr W17 (Or.inl (List.mem_of_getElem? (i := 1) rfl))).ext E21).wr W25 (Or.inl (List.mem_of_getElem? (i := 2) rfl))).wr W31 (Or.inr (by omega))).wr W34 (Or.inr (by omega))).wr W37 (Or.inr (by omega))).wr W40 (Or.inr (by omega))).wr W45 (Or.inr (by omega)))
  have f49 : Exa Z h45 t "com/example/boxwood/boxwood/XmlNodeTable" := ((((((((((E_t.wr W8).ext E13).wr W17).ext E21).wr W25).wr W31).wr W34).wr W37).wr W40).wr W45)
  have f50 : Fld Z h45 t "com/example/boxwood/boxwood/XmlNodeTable" "size" "I" (.int 1) := (((((((((F8.ext E13).other W17 (Or.inl (own_ne_oa E_t (own_w hw 35 rfl) V_aN))).ext E21).other W25 (Or.inl (own_ne_oa E_t (own_w hw 35 rfl) V_aS))).other W31 (Or.inl (own_nn (by omega)))).other W34 (Or.inl (own_nn (by omega)))).other W37 (Or.inl (own_nn (by omega)))).other W40 (Or.inl (own_nn (by omega)))).other W45 (Or.inl (own_nn (by omega))))
  have f51 : Arv Z h45 aN kN (.array .int) (1 : Int32) [(.ref b13)] .null := (((((f29.other W31 (own_nn (by omega))).other W34 (own_nn (by omega))).other W37 (own_nn (by omega))).other W40 (own_nn (by omega))).other W45 (own_nn (by omega)))
  have f52 : Arv Z h45 aS kS (.array (.object "java/lang/String")) (1 : Int32) [(.ref b21)] .null := (((((V26.other W31 (own_nn (by omega))).other W34 (own_nn (by omega))).other W37 (own_nn (by omega))).other W40 (own_nn (by omega))).other W45 (own_nn (by omega)))
  have f53 : Arv Z h45 b21 k21 (.object "java/lang/String") (4096 : Int32) [] .null := ((((((V23.other W25 (own_nn (by omega))).other W31 (own_nn (by omega))).other W34 (own_nn (by omega))).other W37 (own_nn (by omega))).other W40 (own_nn (by omega))).other W45 (own_nn (by omega)))
  have f54 : Fld Z h45 t "com/example/boxwood/boxwood/XmlNodeTable" "numbers" "[[I" (.ref aN) := (((((f27.other W31 (Or.inl (own_nn (by omega)))).other W34 (Or.inl (own_nn (by omega)))).other W37 (Or.inl (own_nn (by omega)))).other W40 (Or.inl (own_nn (by omega)))).other W45 (Or.inl (own_nn (by omega))))
  have f55 : Fld Z h45 t "com/example/boxwood/boxwood/XmlNodeTable" "strings" "[[Ljava/lang/String;" (.ref aS) := (((((((f19.ext E21).other W25 (Or.inl (own_ne_oa E_t (own_w hw 35 rfl) V_aS))).other W31 (Or.inl (own_nn (by omega)))).other W34 (Or.inl (own_nn (by omega)))).other W37 (Or.inl (own_nn (by omega)))).other W40 (Or.inl (own_nn (by omega)))).other W45 (Or.inl (own_nn (by omega))))
  have f56 : Fld Z h45 t "com/example/boxwood/boxwood/XmlNodeTable" "attributeCount" "I" (.int ac) := (f43.other W45 (Or.inl (own_nn (by omega))))
  obtain ⟨fs, hr, hrun, hended, hW, hsame⟩ := X45.leave (v := some (.int 0)) (fun h => by rw [Bd.returns] at h; cases h)
  refine own_ret (t := T45.setFrames fs) ?_ ⟨_, hrun, hended, _, _, rfl, ?_, ⟨_, rfl⟩, hW, hsame.mono (by decide) (by decide)⟩
  · exact retOut X45 hx Bd.returns rfl (Or.inl ⟨rfl, Or.inl rfl, _, rfl⟩) (hb hby d10_172) hr
  · show Q_add_0 Z _ _ _ _ _ _ _ _ _ h0 n0 _ T45.heap _
    rw [e45]
    exact ⟨b13, b21, k13, k21, rfl, N45, K48, f49, f50, f51, f52, (by omega), (by omega), (by first | decide | omega | assumption), V47, f53, O21, f54, f55, f56⟩
def Q_add_1 (Z : State) (t : Nat) (aN : Nat) (bN : Nat) (p1 : Int32) (p2 : Int32) (p3 : Int32) (ac : Int32) (kN : ClassId) (kb : ClassId) (x0 : Int32) (x1 : Int32) (x2 : Int32) (x3 : Int32) (x4 : Int32) (x5 : Int32) (x6 : Int32) (aS : Nat) (h0 : Heap) (n0 : Nat) (vR : Option Value) (hR : Heap) (LR : List Loc) : Prop := vR = some (.int 1) ∧ Fr n0 LR ∧ Keep h0 hR [t, bN] ∧ (Exa Z hR t "com/example/boxwood/boxwood/XmlNodeTable") ∧ (Fld Z hR t "com/example/boxwood/boxwood/XmlNodeTable" "size" "I" (.int 2)) ∧ (Fld Z hR t "com/example/boxwood/boxwood/XmlNodeTable" "numbers" "[[I" (.ref aN)) ∧ (Fld Z hR t "com/example/boxwood/boxwood/XmlNodeTable" "attributeCount" "I" (.int ac)) ∧ (Arv Z hR bN kb .int (28672 : Int32) [(.int x0), (.int x1), (.int x2), (.int x3), (.int x4), (.int x5), (.int x6), (.int p1), (.int p2), (.int p3), (.int 2), (.int 0), (.int 0), (.int ac)] (.int 0)) ∧ (Fld Z hR t "com/example/boxwood/boxwood/XmlNodeTable" "strings" "[[Ljava/lang/String;" (.ref aS))
set_option maxRecDepth 65536 in
set_option maxHeartbeats 40000000 in
theorem add_1 (l : Launch) (Z : State) (a0 : Array Value) (hw : ∀ d ∈ tables_1, d.before a0 Z = true) (ws : List Jvm.Cond) (t : Nat) (aN : Nat) (bN : Nat) (p1 : Int32) (p2 : Int32) (p3 : Int32) (ac : Int32) (kN : ClassId) (kb : ClassId) (x0 : Int32) (x1 : Int32) (x2 : Int32) (x3 : Int32) (x4 : Int32) (x5 : Int32) (x6 : Int32) (aS : Nat) (h0 : Heap) (n0 : Nat) (Z0 : n0 ≤ h0.size) (E_t : Exa Z h0 t "com/example/boxwood/boxwood/XmlNodeTable") (F_size_t : Fld Z h0 t "com/example/boxwood/boxwood/XmlNodeTable" "size" "I" (.int 1)) (F_numbers_t : Fld Z h0 t "com/example/boxwood/boxwood/XmlNodeTable" "numbers" "[[I" (.ref aN)) (F_attributeCount_t : Fld Z h0 t "com/example/boxwood/boxwood/XmlNodeTable" "attributeCount" "I" (.int ac)) (V_aN : Arv Z h0 aN kN (.array .int) (1 : Int32) [(.ref bN)] .null) (V_bN : Arv Z h0 bN kb .int (28672 : Int32) [(.int x0), (.int x1), (.int x2), (.int x3), (.int x4), (.int x5), (.int x6)] (.int 0)) (g_t : n0 ≤ t) (g_bN : n0 ≤ bN) (F_strings_t : Fld Z h0 t "com/example/boxwood/boxwood/XmlNodeTable" "strings" "[[Ljava/lang/String;" (.ref aS)) :
    own_M l (⟨"com/example/boxwood/boxwood/XmlNodeTable", "add", "(III)I"⟩ : MethodName) prog_60_method_24_code 7 (some .int) ws ({ frames := 0, cells := 0, slots := 0, locals := 0 } : Room) Z #[(.ref t), (.int p1), (.int p2), (.int p3)] h0 (Q_add_1 Z t aN bN p1 p2 p3 ac kN kb x0 x1 x2 x3 x4 x5 x6 aS h0 n0) := by
  refine own_body (own := "com/example/boxwood/boxwood/XmlNodeTable") rfl (plainFor_of_name pn_10) (fun m => ef_add_0 m t p1 p2 p3) ?_
  intro p e s m below meth c s₁ Bd hml hZ hh hx hby hown X0 e0
  have N0 := Fr.nil n0
  have lt7 : h0.size > t := E_t.lt
  have lt8 : h0.size > aN := V_aN.lt
  have lt9 : h0.size > bN := V_bN.lt
  refine own_aloadN X0.here hx hby d10_0 rfl rfl ?_
  refine own_dup X0.here hx hby d10_1 rfl ?_
  refine own_getF X0 hx hZ hown (host := "") (Or.inl (own_w hw 68 rfl)) Via.refl e0 F_size_t hby d10_2 ?_
  intro T10 X10 e10
  refine own_dupX1 X10.here hx hby d10_5 rfl rfl ?_
  refine own_iconst X10.here hx hby d10_6 (v := (1 : Int32)) (by decide) ?_
  refine own_iadd X10.here hx hby d10_7 (v := (2 : Int32)) (by decide) ?_
  refine own_putF X10 hx hZ (ty := .int) hown (host := "") (Or.inl (own_w hw 68 rfl)) Via.refl e10 F_size_t E_t (Or.inl (own_w hw 69 rfl)) (own_w hw 35 rfl) (by decide) rfl rfl hby d10_8 N0 g_t ?_
  intro T11 h11 lo11 X11 e11 N11 W11 F11 z11
  refine own_istore X11.here hx hby d10_11 (l' := #[.val (.ref t), .val (.int p1), .val (.int p2), .val (.int p3), .val (.int 1), .unset, .unset]) rfl ?_
  refine own_iload X11.here hx hby d10_13 rfl ?_
  refine own_sipush X11.here hx hby d10_15 (v := (4095 : Int32)) (by decide) ?_
  refine own_iand X11.here hx hby d10_18 (v := (1 : Int32)) (by decide) ?_
  refine own_ifYes X11.here hx hby (pc' := 100) d10_19 ((if0 _ _).trans (feq (show ¬ ((1 : Int32) = (0 : Int32)) from (by decide))).2) (by decide) (by decide) ?_
  refine own_aloadN X11.here hx hby d10_100 rfl rfl ?_
  have f12 : Fld Z h11 t "com/example/boxwood/boxwood/XmlNodeTable" "numbers" "[[I" (.ref aN) := (F_numbers_t.other W11 (Or.inr (slot_ne (Or.inl (own_w hw 44 rfl)) (Or.inl (own_w hw 69 rfl)) (by decide) (t := (.array (.array .int))) (t' := .int) (by decide) (by decide))))
  refine own_getF X11 hx hZ hown (host := "") (Or.inl (own_w hw 43 rfl)) Via.refl e11 f12 hby d10_101 ?_
  intro T13 X13 e13
  refine own_iload X13.here hx hby d10_104 rfl ?_
  refine own_bipush X13.here hx hby d10_106 (v := (12 : Int32)) (by decide) ?_
  refine own_iushr X13.here hx hby d10_108 (v := (0 : Int32)) (by decide) ?_
  have f14 : Arv Z h11 aN kN (.array .int) (1 : Int32) [(.ref bN)] .null := (V_aN.other W11 (Ne.symm (own_ne_oa E_t (own_w hw 35 rfl) V_aN)))
  refine own_aaload X13 hx hZ e13 f14 rfl ⟨by decide, by decide⟩ (v := (.ref bN)) rfl hby d10_109 ?_
  refine own_astore X13.here hx hby d10_110 rfl (l' := #[.val (.ref t), .val (.int p1), .val (.int p2), .val (.int p3), .val (.int 1), .val (.ref bN), .unset]) rfl ?_
  refine own_iload X13.here hx hby d10_112 rfl ?_
  refine own_sipush X13.here hx hby d10_114 (v := (4095 : Int32)) (by decide) ?_
  refine own_iand X13.here hx hby d10_117 (v := (1 : Int32)) (by decide) ?_
  refine own_bipush X13.here hx hby d10_118 (v := (7 : Int32)) (by decide) ?_
  refine own_imul X13.here hx hby d10_120 (v := (7 : Int32)) (by decide) ?_
  refine own_istore X13.here hx hby d10_121 (l' := #[.val (.ref t), .val (.int p1), .val (.int p2), .val (.int p3), .val (.int 1), .val (.ref bN), .val (.int 7)]) rfl ?_
  refine own_aload X13.here hx hby d10_123 rfl rfl ?_
  refine own_iload X13.here hx hby d10_125 rfl ?_
  refine own_iconst X13.here hx hby d10_127 (v := (0 : Int32)) (by decide) ?_
  refine own_iadd X13.here hx hby d10_128 (v := (7 : Int32)) (by decide) ?_
  refine own_iloadN X13.here hx hby d10_129 rfl ?_
  have f15 : Arv Z h11 bN kb .int (28672 : Int32) [(.int x0), (.int x1), (.int x2), (.int x3), (.int x4), (.int x5), (.int x6)] (.int 0) := (V_bN.other W11 (Ne.symm (own_ne_oa E_t (own_w hw 35 rfl) V_bN)))
  have V17 : Arv Z h11 bN kb .int (28672 : Int32) [(.int x0), (.int x1), (.int x2), (.int x3), (.int x4), (.int x5), (.int x6), (.int 0)] (.int 0) := f15.pad (pad_rep [(.int x0), (.int x1), (.int x2), (.int x3), (.int x4), (.int x5), (.int x6)] (.int 0) 1)
  refine own_iastore X13 hx hZ e13 V17 ⟨by decide, by decide⟩ 7 (by decide) (Nat.le_of_ble_eq_true rfl) rfl hby d10_130 N11 g_bN ?_
  intro T16 h16 lo16 X16 e16 N16 W16 V16 z16
  have V18 : Arv Z h16 bN kb .int (28672 : Int32) [(.int x0), (.int x1), (.int x2), (.int x3), (.int x4), (.int x5), (.int x6), (.int p1)] (.int 0) := V16
  refine own_aload X16.here hx hby d10_131 rfl rfl ?_
  refine own_iload X16.here hx hby d10_133 rfl ?_
  refine own_iconst X16.here hx hby d10_135 (v := (1 : Int32)) (by decide) ?_
  refine own_iadd X16.here hx hby d10_136 (v := (8 : Int32)) (by decide) ?_
  refine own_iloadN X16.here hx hby d10_137 rfl ?_
  have V20 : Arv Z h16 bN kb .int (28672 : Int32) [(.int x0), (.int x1), (.int x2), (.int x3), (.int x4), (.int x5), (.int x6), (.int p1), (.int 0)] (.int 0) := V18.pad (pad_rep [(.int x0), (.int x1), (.int x2), (.int x3), (.int x4), (.int x5), (.int x6), (.int p1)] (.int 0) 1)
  refine own_iastore X16 hx hZ e16 V20 ⟨by decide, by decide⟩ 8 (by decide) (Nat.le_of_ble_eq_true rfl) rfl hby d10_138 N16 g_bN ?_
  intro T19 h19 lo19 X19 e19 N19 W19 V19 z19
  have V21 : Arv Z h19 bN kb .int (28672 : Int32) [(.int x0), (.int x1), (.int x2), (.int x3), (.int x4), (.int x5), (.int x6), (.int p1), (.int p2)] (.int 0) := V19
  refine own_aload X19.here hx hby d10_139 rfl rfl ?_
  refine own_iload X19.here hx hby d10_141 rfl ?_
  refine own_iconst X19.here hx hby d10_143 (v := (2 : Int32)) (by decide) ?_
  refine own_iadd X19.here hx hby d10_144 (v := (9 : Int32)) (by decide) ?_
  refine own_iloadN X19.here hx hby d10_145 rfl ?_
  have V23 : Arv Z h19 bN kb .int (28672 : Int32) [(.int x0), (.int x1), (.int x2), (.int x3), (.int x4), (.int x5), (.int x6), (.int p1), (.int p2), (.int 0)] (.int 0) := V21.pad (pad_rep [(.int x0), (.int x1), (.int x2), (.int x3), (.int x4), (.int x5), (.int x6), (.int p1), (.int p2)] (.int 0) 1)
  refine own_iastore X19 hx hZ e19 V23 ⟨by decide, by decide⟩ 9 (by decide) (Nat.le_of_ble_eq_true rfl) rfl hby d10_146 N19 g_bN ?_
  intro T22 h22 lo22 X22 e22 N22 W22 V22 z22
  have V24 : Arv Z h22 bN kb .int (28672 : Int32) [(.int x0), (.int x1), (.int x2), (.int x3), (.int x4), (.int x5), (.int x6), (.int p1), (.int p2), (.int p3)] (.int 0) := V22
  refine own_aload X22.here hx hby d10_147 rfl rfl ?_
  refine own_iload X22.here hx hby d10_149 rfl ?_
  refine own_iconst X22.here hx hby d10_151 (v := (3 : Int32)) (by decide) ?_
  refine own_iadd X22.here hx hby d10_152 (v := (10 : Int32)) (by decide) ?_
  refine own_iload X22.here hx hby d10_153 rfl ?_
  refine own_iconst X22.here hx hby d10_155 (v := (1 : Int32)) (by decide) ?_
  refine own_iadd X22.here hx hby d10_156 (v := (2 : Int32)) (by decide) ?_
  have V26 : Arv Z h22 bN kb .int (28672 : Int32) [(.int x0), (.int x1), (.int x2), (.int x3), (.int x4), (.int x5), (.int x6), (.int p1), (.int p2), (.int p3), (.int 0)] (.int 0) := V24.pad (pad_rep [(.int x0), (.int x1), (.int x2), (.int x3), (.int x4), (.int x5), (.int x6), (.int p1), (.int p2), (.int p3)] (.int 0) 1)
  refine own_iastore X22 hx hZ e22 V26 ⟨by decide, by decide⟩ 10 (by decide) (Nat.le_of_ble_eq_true rfl) rfl hby d10_157 N22 g_bN ?_
  intro T25 h25 lo25 X25 e25 N25 W25 V25 z25
  have V27 : Arv Z h25 bN kb .int (28672 : Int32) [(.int x0), (.int x1), (.int x2), (.int x3), (.int x4), (.int x5), (.int x6), (.int p1), (.int p2), (.int p3), (.int 2)] (.int 0) := V25
  refine own_aload X25.here hx hby d10_158 rfl rfl ?_
  refine own_iload X25.here hx hby d10_160 rfl ?_
  refine own_bipush X25.here hx hby d10_162 (v := (6 : Int32)) (by decide) ?_
  refine own_iadd X25.here hx hby d10_164 (v := (13 : Int32)) (by decide) ?_
  refine own_aloadN X25.here hx hby d10_165 rfl rfl ?_
  have f28 : Fld Z h25 t "com/example/boxwood/boxwood/XmlNodeTable" "attributeCount" "I" (.int ac) := (((((F_attributeCount_t.other W11 (Or.inr (slot_ne (Or.inl (own_w hw 76 rfl)) (Or.inl (own_w hw 69 rfl)) (by decide) (t := .int) (t' := .int) (by decide) (by decide)))).other W16 (Or.inl (own_ne_oa E_t (own_w hw 35 rfl) V_bN))).other W19 (Or.inl (own_ne_oa E_t (own_w hw 35 rfl) V_bN))).other W22 (Or.inl (own_ne_oa E_t (own_w hw 35 rfl) V_bN))).other W25 (Or.inl (own_ne_oa E_t (own_w hw 35 rfl) V_bN)))
  refine own_getF X25 hx hZ hown (host := "") (Or.inl (own_w hw 75 rfl)) Via.refl e25 f28 hby d10_166 ?_
  intro T29 X29 e29
  have V31 : Arv Z h25 bN kb .int (28672 : Int32) [(.int x0), (.int x1), (.int x2), (.int x3), (.int x4), (.int x5), (.int x6), (.int p1), (.int p2), (.int p3), (.int 2), (.int 0), (.int 0), (.int 0)] (.int 0) := V27.pad (pad_rep [(.int x0), (.int x1), (.int x2), (.int x3), (.int x4), (.int x5), (.int x6), (.int p1), (.int p2), (.int p3), (.int 2)] (.int 0) 3)
  refine own_iastore X29 hx hZ e29 V31 ⟨by decide, by decide⟩ 13 (by decide) (Nat.le_of_ble_eq_true rfl) rfl hby d10_169 N25 g_bN ?_
  intro T30 h30 lo30 X30 e30 N30 W30 V30 z30
  have V32 : Arv Z h30 bN kb .int (28672 : Int32) [(.int x0), (.int x1), (.int x2), (.int x3), (.int x4), (.int x5), (.int x6), (.int p1), (.int p2), (.int p3), (.int 2), (.int 0), (.int 0), (.int ac)] (.int 0) := V30
  refine own_iload X30.here hx hby d10_170 rfl ?_
  have K33 : Keep h0 h30 [t, bN] := (((((((Keep.refl h0 [t, bN]).wr W11 (Or.inl (List.mem_of_getElem? (i := 0) rfl))).wr W16 (Or.inl (List.mem_of_getElem? (i := 1) rfl))).wr W19 (Or.inl (List.mem_of_getElem? (i := 1) rfl))).wr W22 (Or.inl (List.mem_of_getElem? (i := 1) rfl))).wr W25 (Or.inl (List.mem_of_getElem? (i := 1) rfl))).wr W30 (Or.inl (List.mem_of_getElem? (i := 1) rfl)))
  have f34 : Exa Z h30 t "com/example/boxwood/boxwood/XmlNodeTable" := ((((((E_t.wr W11).wr W16).wr W19).wr W22).wr W25).wr W30)
  have f35 : Fld Z h30 t "com/example/boxwood/boxwood/XmlNodeTable" "size" "I" (.int 2) := (((((F11.other W16 (Or.inl (own_ne_oa E_t (own_w hw 35 rfl) V_bN))).other W19 (Or.inl (own_ne_oa E_t (own_w hw 35 rfl) V_bN))).other W22 (Or.inl (own_ne_oa E_t (own_w hw 35 rfl) V_bN))).other W25 (Or.inl (own_ne_oa E_t (own_w hw 35 rfl) V_bN))).other W30 (Or.inl (own_ne_oa E_t (own_w hw 35 rfl) V_bN)))
  have f36 : Fld Z h30 t "com/example/boxwood/boxwood/XmlNodeTable" "numbers" "[[I" (.ref aN) := (((((f12.other W16 (Or.inl (own_ne_oa E_t (own_w hw 35 rfl) V_bN))).other W19 (Or.inl (own_ne_oa E_t (own_w hw 35 rfl) V_bN))).other W22 (Or.inl (own_ne_oa E_t (own_w hw 35 rfl) V_bN))).other W25 (Or.inl (own_ne_oa E_t (own_w hw 35 rfl) V_bN))).other W30 (Or.inl (own_ne_oa E_t (own_w hw 35 rfl) V_bN)))
  have f37 : Fld Z h30 t "com/example/boxwood/boxwood/XmlNodeTable" "attributeCount" "I" (.int ac) := (f28.other W30 (Or.inl (own_ne_oa E_t (own_w hw 35 rfl) V_bN)))
  have f38 : Fld Z h30 t "com/example/boxwood/boxwood/XmlNodeTable" "strings" "[[Ljava/lang/String;" (.ref aS) := ((((((F_strings_t.other W11 (Or.inr (slot_ne (Or.inl (own_w hw 48 rfl)) (Or.inl (own_w hw 69 rfl)) (by decide) (t := (.array (.array (.object "java/lang/String")))) (t' := .int) (by decide) (by decide)))).other W16 (Or.inl (own_ne_oa E_t (own_w hw 35 rfl) V_bN))).other W19 (Or.inl (own_ne_oa E_t (own_w hw 35 rfl) V_bN))).other W22 (Or.inl (own_ne_oa E_t (own_w hw 35 rfl) V_bN))).other W25 (Or.inl (own_ne_oa E_t (own_w hw 35 rfl) V_bN))).other W30 (Or.inl (own_ne_oa E_t (own_w hw 35 rfl) V_bN)))
  obtain ⟨fs, hr, hrun, hended, hW, hsame⟩ := X30.leave (v := some (.int 1)) (fun h => by rw [Bd.returns] at h; cases h)
  refine own_ret (t := T30.setFrames fs) ?_ ⟨_, hrun, hended, _, _, rfl, ?_, ⟨_, rfl⟩, hW, hsame.mono (by decide) (by decide)⟩
  · exact retOut X30 hx Bd.returns rfl (Or.inl ⟨rfl, Or.inl rfl, _, rfl⟩) (hb hby d10_172) hr
  · show Q_add_1 Z _ _ _ _ _ _ _ _ _ _ _ _ _ _ _ _ _ h0 n0 _ T30.heap _
    rw [e30]
    exact ⟨rfl, N30, K33, f34, f35, f36, f37, V32, f38⟩
def Q_add_2 (Z : State) (t : Nat) (aN : Nat) (bN : Nat) (p1 : Int32) (p2 : Int32) (p3 : Int32) (ac : Int32) (kN : ClassId) (kb : ClassId) (x0 : Int32) (x1 : Int32) (x2 : Int32) (x3 : Int32) (x4 : Int32) (x5 : Int32) (x6 : Int32) (x7 : Int32) (x8 : Int32) (x9 : Int32) (x10 : Int32) (x11 : Int32) (x12 : Int32) (x13 : Int32) (aS : Nat) (h0 : Heap) (n0 : Nat) (vR : Option Value) (hR : Heap) (LR : List Loc) : Prop := vR = some (.int 2) ∧ Fr n0 LR ∧ Keep h0 hR [t, bN] ∧ (Exa Z hR t "com/example/boxwood/boxwood/XmlNodeTable") ∧ (Fld Z hR t "com/example/boxwood/boxwood/XmlNodeTable" "size" "I" (.int 3)) ∧ (Fld Z hR t "com/example/boxwood/boxwood/XmlNodeTable" "numbers" "[[I" (.ref aN)) ∧ (Fld Z hR t "com/example/boxwood/boxwood/XmlNodeTable" "attributeCount" "I" (.int ac)) ∧ (Arv Z hR bN kb .int (28672 : Int32) [(.int x0), (.int x1), (.int x2), (.int x3), (.int x4), (.int x5), (.int x6), (.int x7), (.int x8), (.int x9), (.int x10), (.int x11), (.int x12), (.int x13), (.int p1), (.int p2), (.int p3), (.int 3), (.int 0), (.int 0), (.int ac)] (.int 0)) ∧ (Fld Z hR t "com/example/boxwood/boxwood/XmlNodeTable" "strings" "[[Ljava/lang/String;" (.ref aS))
set_option maxRecDepth 65536 in
set_option maxHeartbeats 40000000 in
theorem add_2 (l : Launch) (Z : State) (a0 : Array Value) (hw : ∀ d ∈ tables_1, d.before a0 Z = true) (ws : List Jvm.Cond) (t : Nat) (aN : Nat) (bN : Nat) (p1 : Int32) (p2 : Int32) (p3 : Int32) (ac : Int32) (kN : ClassId) (kb : ClassId) (x0 : Int32) (x1 : Int32) (x2 : Int32) (x3 : Int32) (x4 : Int32) (x5 : Int32) (x6 : Int32) (x7 : Int32) (x8 : Int32) (x9 : Int32) (x10 : Int32) (x11 : Int32) (x12 : Int32) (x13 : Int32) (aS : Nat) (h0 : Heap) (n0 : Nat) (Z0 : n0 ≤ h0.size) (E_t : Exa Z h0 t "com/example/boxwood/boxwood/XmlNodeTable") (F_size_t : Fld Z h0 t "com/example/boxwood/boxwood/XmlNodeTable" "size" "I" (.int 2)) (F_numbers_t : Fld Z h0 t "com/example/boxwood/boxwood/XmlNodeTable" "numbers" "[[I" (.ref aN)) (F_attributeCount_t : Fld Z h0 t "com/example/boxwood/boxwood/XmlNodeTable" "attributeCount" "I" (.int ac)) (V_aN : Arv Z h0 aN kN (.array .int) (1 : Int32) [(.ref bN)] .null) (V_bN : Arv Z h0 bN kb .int (28672 : Int32) [(.int x0), (.int x1), (.int x2), (.int x3), (.int x4), (.int x5), (.int x6), (.int x7), (.int x8), (.int x9), (.int x10), (.int x11), (.int x12), (.int x13)] (.int 0)) (g_t : n0 ≤ t) (g_bN : n0 ≤ bN) (F_strings_t : Fld Z h0 t "com/example/boxwood/boxwood/XmlNodeTable" "strings" "[[Ljava/lang/String;" (.ref aS)) :
    own_M l (⟨"com/example/boxwood/boxwood/XmlNodeTable", "add", "(III)I"⟩ : MethodName) prog_60_method_24_code 7 (some .int) ws ({ frames := 0, cells := 0, slots := 0, locals := 0 } : Room) Z #[(.ref t), (.int p1), (.int p2), (.int p3)] h0 (Q_add_2 Z t aN bN p1 p2 p3 ac kN kb x0 x1 x2 x3 x4 x5 x6 x7 x8 x9 x10 x11 x12 x13 aS h0 n0) := by
  refine own_body (own := "com/example/boxwood/boxwood/XmlNodeTable") rfl (plainFor_of_name pn_10) (fun m => ef_add_0 m t p1 p2 p3) ?_
  intro p e s m below meth c s₁ Bd hml hZ hh hx hby hown X0 e0
  have N0 := Fr.nil n0
  have lt14 : h0.size > t := E_t.lt
  have lt15 : h0.size > aN := V_aN.lt
  have lt16 : h0.size > bN := V_bN.lt
  refine own_aloadN X0.here hx hby d10_0 rfl rfl ?_
  refine own_dup X0.here hx hby d10_1 rfl ?_
  refine own_getF X0 hx hZ hown (host := "") (Or.inl (own_w hw 68 rfl)) Via.refl e0 F_size_t hby d10_2 ?_
  intro T17 X17 e17
  refine own_dupX1 X17.here hx hby d10_5 rfl rfl ?_
  refine own_iconst X17.here hx hby d10_6 (v := (1 : Int32)) (by decide) ?_
  refine own_iadd X17.here hx hby d10_7 (v := (3 : Int32)) (by decide) ?_
  refine own_putF X17 hx hZ (ty := .int) hown (host := "") (Or.inl (own_w hw 68 rfl)) Via.refl e17 F_size_t E_t (Or.inl (own_w hw 69 rfl)) (own_w hw 35 rfl) (by decide) rfl rfl hby d10_8 N0 g_t ?_
  intro T18 h18 lo18 X18 e18 N18 W18 F18 z18
  refine own_istore X18.here hx hby d10_11 (l' := #[.val (.ref t), .val (.int p1), .val (.int p2), .val (.int p3), .val (.int 2), .unset, .unset]) rfl ?_
  refine own_iload X18.here hx hby d10_13 rfl ?_
  refine own_sipush X18.here hx hby d10_15 (v := (4095 : Int32)) (by decide) ?_
  refine own_iand X18.here hx hby d10_18 (v := (2 : Int32)) (by decide) ?_
  refine own_ifYes X18.here hx hby (pc' := 100) d10_19 ((if0 _ _).trans (feq (show ¬ ((2 : Int32) = (0 : Int32)) from (by decide))).2) (by decide) (by decide) ?_
  refine own_aloadN X18.here hx hby d10_100 rfl rfl ?_
  have f19 : Fld Z h18 t "com/example/boxwood/boxwood/XmlNodeTable" "numbers" "[[I" (.ref aN) := (F_numbers_t.other W18 (Or.inr (slot_ne (Or.inl (own_w hw 44 rfl)) (Or.inl (own_w hw 69 rfl)) (by decide) (t := (.array (.array .int))) (t' := .int) (by decide) (by decide))))
  refine own_getF X18 hx hZ hown (host := "") (Or.inl (own_w hw 43 rfl)) Via.refl e18 f19 hby d10_101 ?_
  intro T20 X20 e20
  refine own_iload X20.here hx hby d10_104 rfl ?_
  refine own_bipush X20.here hx hby d10_106 (v := (12 : Int32)) (by decide) ?_
  refine own_iushr X20.here hx hby d10_108 (v := (0 : Int32)) (by decide) ?_
  have f21 : Arv Z h18 aN kN (.array .int) (1 : Int32) [(.ref bN)] .null := (V_aN.other W18 (Ne.symm (own_ne_oa E_t (own_w hw 35 rfl) V_aN)))
  refine own_aaload X20 hx hZ e20 f21 rfl ⟨by decide, by decide⟩ (v := (.ref bN)) rfl hby d10_109 ?_
  refine own_astore X20.here hx hby d10_110 rfl (l' := #[.val (.ref t), .val (.int p1), .val (.int p2), .val (.int p3), .val (.int 2), .val (.ref bN), .unset]) rfl ?_
  refine own_iload X20.here hx hby d10_112 rfl ?_
  refine own_sipush X20.here hx hby d10_114 (v := (4095 : Int32)) (by decide) ?_
  refine own_iand X20.here hx hby d10_117 (v := (2 : Int32)) (by decide) ?_
  refine own_bipush X20.here hx hby d10_118 (v := (7 : Int32)) (by decide) ?_
  refine own_imul X20.here hx hby d10_120 (v := (14 : Int32)) (by decide) ?_
  refine own_istore X20.here hx hby d10_121 (l' := #[.val (.ref t), .val (.int p1), .val (.int p2), .val (.int p3), .val (.int 2), .val (.ref bN), .val (.int 14)]) rfl ?_
  refine own_aload X20.here hx hby d10_123 rfl rfl ?_
  refine own_iload X20.here hx hby d10_125 rfl ?_
  refine own_iconst X20.here hx hby d10_127 (v := (0 : Int32)) (by decide) ?_
  refine own_iadd X20.here hx hby d10_128 (v := (14 : Int32)) (by decide) ?_
  refine own_iloadN X20.here hx hby d10_129 rfl ?_
  have f22 : Arv Z h18 bN kb .int (28672 : Int32) [(.int x0), (.int x1), (.int x2), (.int x3), (.int x4), (.int x5), (.int x6), (.int x7), (.int x8), (.int x9), (.int x10), (.int x11), (.int x12), (.int x13)] (.int 0) := (V_bN.other W18 (Ne.symm (own_ne_oa E_t (own_w hw 35 rfl) V_bN)))
  have V24 : Arv Z h18 bN kb .int (28672 : Int32) [(.int x0), (.int x1), (.int x2), (.int x3), (.int x4), (.int x5), (.int x6), (.int x7), (.int x8), (.int x9), (.int x10), (.int x11), (.int x12), (.int x13), (.int 0)] (.int 0) := f22.pad (pad_rep [(.int x0), (.int x1), (.int x2), (.int x3), (.int x4), (.int x5), (.int x6), (.int x7), (.int x8), (.int x9), (.int x10), (.int x11), (.int x12), (.int x13)] (.int 0) 1)
  refine own_iastore X20 hx hZ e20 V24 ⟨by decide, by decide⟩ 14 (by decide) (Nat.le_of_ble_eq_true rfl) rfl hby d10_130 N18 g_bN ?_
  intro T23 h23 lo23 X23 e23 N23 W23 V23 z23
  have V25 : Arv Z h23 bN kb .int (28672 : Int32) [(.int x0), (.int x1), (.int x2), (.int x3), (.int x4), (.int x5), (.int x6), (.int x7), (.int x8), (.int x9), (.int x10), (.int x11), (.int x12), (.int x13), (.int p1)] (.int 0) := V23
  refine own_aload X23.here hx hby d10_131 rfl rfl ?_
  refine own_iload X23.here hx hby d10_133 rfl ?_
  refine own_iconst X23.here hx hby d10_135 (v := (1 : Int32)) (by decide) ?_
  refine own_iadd X23.here hx hby d10_136 (v := (15 : Int32)) (by decide) ?_
  refine own_iloadN X23.here hx hby d10_137 rfl ?_
  have V27 : Arv Z h23 bN kb .int (28672 : Int32) [(.int x0), (.int x1), (.int x2), (.int x3), (.int x4), (.int x5), (.int x6), (.int x7), (.int x8), (.int x9), (.int x10), (.int x11), (.int x12), (.int x13), (.int p1), (.int 0)] (.int 0) := V25.pad (pad_rep [(.int x0), (.int x1), (.int x2), (.int x3), (.int x4), (.int x5), (.int x6), (.int x7), (.int x8), (.int x9), (.int x10), (.int x11), (.int x12), (.int x13), (.int p1)] (.int 0) 1)
  refine own_iastore X23 hx hZ e23 V27 ⟨by decide, by decide⟩ 15 (by decide) (Nat.le_of_ble_eq_true rfl) rfl hby d10_138 N23 g_bN ?_
  intro T26 h26 lo26 X26 e26 N26 W26 V26 z26
  have V28 : Arv Z h26 bN kb .int (28672 : Int32) [(.int x0), (.int x1), (.int x2), (.int x3), (.int x4), (.int x5), (.int x6), (.int x7), (.int x8), (.int x9), (.int x10), (.int x11), (.int x12), (.int x13), (.int p1), (.int p2)] (.int 0) := V26
  refine own_aload X26.here hx hby d10_139 rfl rfl ?_
  refine own_iload X26.here hx hby d10_141 rfl ?_
  refine own_iconst X26.here hx hby d10_143 (v := (2 : Int32)) (by decide) ?_
  refine own_iadd X26.here hx hby d10_144 (v := (16 : Int32)) (by decide) ?_
  refine own_iloadN X26.here hx hby d10_145 rfl ?_
  have V30 : Arv Z h26 bN kb .int (28672 : Int32) [(.int x0), (.int x1), (.int x2), (.int x3), (.int x4), (.int x5), (.int x6), (.int x7), (.int x8), (.int x9), (.int x10), (.int x11), (.int x12), (.int x13), (.int p1), (.int p2), (.int 0)] (.int 0) := V28.pad (pad_rep [(.int x0), (.int x1), (.int x2), (.int x3), (.int x4), (.int x5), (.int x6), (.int x7), (.int x8), (.int x9), (.int x10), (.int x11), (.int x12), (.int x13), (.int p1), (.int p2)] (.int 0) 1)
  refine own_iastore X26 hx hZ e26 V30 ⟨by decide, by decide⟩ 16 (by decide) (Nat.le_of_ble_eq_true rfl) rfl hby d10_146 N26 g_bN ?_
  intro T29 h29 lo29 X29 e29 N29 W29 V29 z29
  have V31 : Arv Z h29 bN kb .int (28672 : Int32) [(.int x0), (.int x1), (.int x2), (.int x3), (.int x4), (.int x5), (.int x6), (.int x7), (.int x8), (.int x9), (.int x10), (.int x11), (.int x12), (.int x13), (.int p1), (.int p2), (.int p3)] (.int 0) := V29
  refine own_aload X29.here hx hby d10_147 rfl rfl ?_
  refine own_iload X29.here hx hby d10_149 rfl ?_
  refine own_iconst X29.here hx hby d10_151 (v := (3 : Int32)) (by decide) ?_
  refine own_iadd X29.here hx hby d10_152 (v := (17 : Int32)) (by decide) ?_
  refine own_iload X29.here hx hby d10_153 rfl ?_
  refine own_iconst X29.here hx hby d10_155 (v := (1 : Int32)) (by decide) ?_
  refine own_iadd X29.here hx hby d10_156 (v := (3 : Int32)) (by decide) ?_
  have V33 : Arv Z h29 bN kb .int (28672 : Int32) [(.int x0), (.int x1), (.int x2), (.int x3), (.int x4), (.int x5), (.int x6), (.int x7), (.int x8), (.int x9), (.int x10), (.int x11), (.int x12), (.int x13), (.int p1), (.int p2), (.int p3), (.int 0)] (.int 0) := V31.pad (pad_rep [(.int x0), (.int x1), (.int x2), (.int x3), (.int x4), (.int x5), (.int x6), (.int x7), (.int x8), (.int x9), (.int x10), (.int x11), (.int x12), (.int x13), (.int p1), (.int p2), (.int p3)] (.int 0) 1)
  refine own_iastore X29 hx hZ e29 V33 ⟨by decide, by decide⟩ 17 (by decide) (Nat.le_of_ble_eq_true rfl) rfl hby d10_157 N29 g_bN ?_
  intro T32 h32 lo32 X32 e32 N32 W32 V32 z32
  have V34 : Arv Z h32 bN kb .int (28672 : Int32) [(.int x0), (.int x1), (.int x2), (.int x3), (.int x4), (.int x5), (.int x6), (.int x7), (.int x8), (.int x9), (.int x10), (.int x11), (.int x12), (.int x13), (.int p1), (.int p2), (.int p3), (.int 3)] (.int 0) := V32
  refine own_aload X32.here hx hby d10_158 rfl rfl ?_
  refine own_iload X32.here hx hby d10_160 rfl ?_
  refine own_bipush X32.here hx hby d10_162 (v := (6 : Int32)) (by decide) ?_
  refine own_iadd X32.here hx hby d10_164 (v := (20 : Int32)) (by decide) ?_
  refine own_aloadN X32.here hx hby d10_165 rfl rfl ?_
  have f35 : Fld Z h32 t "com/example/boxwood/boxwood/XmlNodeTable" "attributeCount" "I" (.int ac) := (((((F_attributeCount_t.other W18 (Or.inr (slot_ne (Or.inl (own_w hw 76 rfl)) (Or.inl (own_w hw 69 rfl)) (by decide) (t := .int) (t' := .int) (by decide) (by decide)))).other W23 (Or.inl (own_ne_oa E_t (own_w hw 35 rfl) V_bN))).other W26 (Or.inl (own_ne_oa E_t (own_w hw 35 rfl) V_bN))).other W29 (Or.inl (own_ne_oa E_t (own_w hw 35 rfl) V_bN))).other W32 (Or.inl (own_ne_oa E_t (own_w hw 35 rfl) V_bN)))
  refine own_getF X32 hx hZ hown (host := "") (Or.inl (own_w hw 75 rfl)) Via.refl e32 f35 hby d10_166 ?_
  intro T36 X36 e36
  have V38 : Arv Z h32 bN kb .int (28672 : Int32) [(.int x0), (.int x1), (.int x2), (.int x3), (.int x4), (.int x5), (.int x6), (.int x7), (.int x8), (.int x9), (.int x10), (.int x11), (.int x12), (.int x13), (.int p1), (.int p2), (.int p3), (.int 3), (.int 0), (.int 0), (.int 0)] (.int 0) := V34.pad (pad_rep [(.int x0), (.int x1), (.int x2), (.int x3), (.int x4), (.int x5), (.int x6), (.int x7), (.int x8), (.int x9), (.int x10), (.int x11), (.int x12), (.int x13), (.int p1), (.int p2), (.int p3), (.int 3)] (.int 0) 3)
  refine own_iastore X36 hx hZ e36 V38 ⟨by decide, by decide⟩ 20 (by decide) (Nat.le_of_ble_eq_true rfl) rfl hby d10_169 N32 g_bN ?_
  intro T37 h37 lo37 X37 e37 N37 W37 V37 z37
  have V39 : Arv Z h37 bN kb .int (28672 : Int32) [(.int x0), (.int x1), (.int x2), (.int x3), (.int x4), (.int x5), (.int x6), (.int x7), (.int x8), (.int x9), (.int x10), (.int x11), (.int x12), (.int x13), (.int p1), (.int p2), (.int p3), (.int 3), (.int 0), (.int 0), (.int ac)] (.int 0) := V37
  refine own_iload X37.here hx hby d10_170 rfl ?_
  have K40 : Keep h0 h37 [t, bN] := (((((((Keep.refl h0 [t, bN]).wr W18 (Or.inl (List.mem_of_getElem? (i := 0) rfl))).wr W23 (Or.inl (List.mem_of_getElem? (i := 1) rfl))).wr W26 (Or.inl (List.mem_of_getElem? (i := 1) rfl))).wr W29 (Or.inl (List.mem_of_getElem? (i := 1) rfl))).wr W32 (Or.inl (List.mem_of_getElem? (i := 1) rfl))).wr W37 (Or.inl (List.mem_of_getElem? (i := 1) rfl)))
  have f41 : Exa Z h37 t "com/example/boxwood/boxwood/XmlNodeTable" := ((((((E_t.wr W18).wr W23).wr W26).wr W29).wr W32).wr W37)
  have f42 : Fld Z h37 t "com/example/boxwood/boxwood/XmlNodeTable" "size" "I" (.int 3) := (((((F18.other W23 (Or.inl (own_ne_oa E_t (own_w hw 35 rfl) V_bN))).other W26 (Or.inl (own_ne_oa E_t (own_w hw 35 rfl) V_bN))).other W29 (Or.inl (own_ne_oa E_t (own_w hw 35 rfl) V_bN))).other W32 (Or.inl (own_ne_oa E_t (own_w hw 35 rfl) V_bN))).other W37 (Or.inl (own_ne_oa E_t (own_w hw 35 rfl) V_bN)))
  have f43 : Fld Z h37 t "com/example/boxwood/boxwood/XmlNodeTable" "numbers" "[[I" (.ref aN) := (((((f19.other W23 (Or.inl (own_ne_oa E_t (own_w hw 35 rfl) V_bN))).other W26 (Or.inl (own_ne_oa E_t (own_w hw 35 rfl) V_bN))).other W29 (Or.inl (own_ne_oa E_t (own_w hw 35 rfl) V_bN))).other W32 (Or.inl (own_ne_oa E_t (own_w hw 35 rfl) V_bN))).other W37 (Or.inl (own_ne_oa E_t (own_w hw 35 rfl) V_bN)))
  have f44 : Fld Z h37 t "com/example/boxwood/boxwood/XmlNodeTable" "attributeCount" "I" (.int ac) := (f35.other W37 (Or.inl (own_ne_oa E_t (own_w hw 35 rfl) V_bN)))
  have f45 : Fld Z h37 t "com/example/boxwood/boxwood/XmlNodeTable" "strings" "[[Ljava/lang/String;" (.ref aS) := ((((((F_strings_t.other W18 (Or.inr (slot_ne (Or.inl (own_w hw 48 rfl)) (Or.inl (own_w hw 69 rfl)) (by decide) (t := (.array (.array (.object "java/lang/String")))) (t' := .int) (by decide) (by decide)))).other W23 (Or.inl (own_ne_oa E_t (own_w hw 35 rfl) V_bN))).other W26 (Or.inl (own_ne_oa E_t (own_w hw 35 rfl) V_bN))).other W29 (Or.inl (own_ne_oa E_t (own_w hw 35 rfl) V_bN))).other W32 (Or.inl (own_ne_oa E_t (own_w hw 35 rfl) V_bN))).other W37 (Or.inl (own_ne_oa E_t (own_w hw 35 rfl) V_bN)))
  obtain ⟨fs, hr, hrun, hended, hW, hsame⟩ := X37.leave (v := some (.int 2)) (fun h => by rw [Bd.returns] at h; cases h)
  refine own_ret (t := T37.setFrames fs) ?_ ⟨_, hrun, hended, _, _, rfl, ?_, ⟨_, rfl⟩, hW, hsame.mono (by decide) (by decide)⟩
  · exact retOut X37 hx Bd.returns rfl (Or.inl ⟨rfl, Or.inl rfl, _, rfl⟩) (hb hby d10_172) hr
  · show Q_add_2 Z _ _ _ _ _ _ _ _ _ _ _ _ _ _ _ _ _ _ _ _ _ _ _ _ h0 n0 _ T37.heap _
    rw [e37]
    exact ⟨rfl, N37, K40, f41, f42, f43, f44, V39, f45⟩
def Q_add_3 (Z : State) (t : Nat) (aN : Nat) (bN : Nat) (p1 : Int32) (p2 : Int32) (p3 : Int32) (ac : Int32) (kN : ClassId) (kb : ClassId) (x0 : Int32) (x1 : Int32) (x2 : Int32) (x3 : Int32) (x4 : Int32) (x5 : Int32) (x6 : Int32) (x7 : Int32) (x8 : Int32) (x9 : Int32) (x10 : Int32) (x11 : Int32) (x12 : Int32) (x13 : Int32) (x14 : Int32) (x15 : Int32) (x16 : Int32) (x17 : Int32) (x18 : Int32) (x19 : Int32) (x20 : Int32) (aS : Nat) (h0 : Heap) (n0 : Nat) (vR : Option Value) (hR : Heap) (LR : List Loc) : Prop := vR = some (.int 3) ∧ Fr n0 LR ∧ Keep h0 hR [t, bN] ∧ (Exa Z hR t "com/example/boxwood/boxwood/XmlNodeTable") ∧ (Fld Z hR t "com/example/boxwood/boxwood/XmlNodeTable" "size" "I" (.int 4)) ∧ (Fld Z hR t "com/example/boxwood/boxwood/XmlNodeTable" "numbers" "[[I" (.ref aN)) ∧ (Fld Z hR t "com/example/boxwood/boxwood/XmlNodeTable" "attributeCount" "I" (.int ac)) ∧ (Arv Z hR bN kb .int (28672 : Int32) [(.int x0), (.int x1), (.int x2), (.int x3), (.int x4), (.int x5), (.int x6), (.int x7), (.int x8), (.int x9), (.int x10), (.int x11), (.int x12), (.int x13), (.int x14), (.int x15), (.int x16), (.int x17), (.int x18), (.int x19), (.int x20), (.int p1), (.int p2), (.int p3), (.int 4), (.int 0), (.int 0), (.int ac)] (.int 0)) ∧ (Fld Z hR t "com/example/boxwood/boxwood/XmlNodeTable" "strings" "[[Ljava/lang/String;" (.ref aS))
set_option maxRecDepth 65536 in
set_option maxHeartbeats 40000000 in
theorem add_3 (l : Launch) (Z : State) (a0 : Array Value) (hw : ∀ d ∈ tables_1, d.before a0 Z = true) (ws : List Jvm.Cond) (t : Nat) (aN : Nat) (bN : Nat) (p1 : Int32) (p2 : Int32) (p3 : Int32) (ac : Int32) (kN : ClassId) (kb : ClassId) (x0 : Int32) (x1 : Int32) (x2 : Int32) (x3 : Int32) (x4 : Int32) (x5 : Int32) (x6 : Int32) (x7 : Int32) (x8 : Int32) (x9 : Int32) (x10 : Int32) (x11 : Int32) (x12 : Int32) (x13 : Int32) (x14 : Int32) (x15 : Int32) (x16 : Int32) (x17 : Int32) (x18 : Int32) (x19 : Int32) (x20 : Int32) (aS : Nat) (h0 : Heap) (n0 : Nat) (Z0 : n0 ≤ h0.size) (E_t : Exa Z h0 t "com/example/boxwood/boxwood/XmlNodeTable") (F_size_t : Fld Z h0 t "com/example/boxwood/boxwood/XmlNodeTable" "size" "I" (.int 3)) (F_numbers_t : Fld Z h0 t "com/example/boxwood/boxwood/XmlNodeTable" "numbers" "[[I" (.ref aN)) (F_attributeCount_t : Fld Z h0 t "com/example/boxwood/boxwood/XmlNodeTable" "attributeCount" "I" (.int ac)) (V_aN : Arv Z h0 aN kN (.array .int) (1 : Int32) [(.ref bN)] .null) (V_bN : Arv Z h0 bN kb .int (28672 : Int32) [(.int x0), (.int x1), (.int x2), (.int x3), (.int x4), (.int x5), (.int x6), (.int x7), (.int x8), (.int x9), (.int x10), (.int x11), (.int x12), (.int x13), (.int x14), (.int x15), (.int x16), (.int x17), (.int x18), (.int x19), (.int x20)] (.int 0)) (g_t : n0 ≤ t) (g_bN : n0 ≤ bN) (F_strings_t : Fld Z h0 t "com/example/boxwood/boxwood/XmlNodeTable" "strings" "[[Ljava/lang/String;" (.ref aS)) :
    own_M l (⟨"com/example/boxwood/boxwood/XmlNodeTable", "add", "(III)I"⟩ : MethodName) prog_60_method_24_code 7 (some .int) ws ({ frames := 0, cells := 0, slots := 0, locals := 0 } : Room) Z #[(.ref t), (.int p1), (.int p2), (.int p3)] h0 (Q_add_3 Z t aN bN p1 p2 p3 ac kN kb x0 x1 x2 x3 x4 x5 x6 x7 x8 x9 x10 x11 x12 x13 x14 x15 x16 x17 x18 x19 x20 aS h0 n0) := by
  refine own_body (own := "com/example/boxwood/boxwood/XmlNodeTable") rfl (plainFor_of_name pn_10) (fun m => ef_add_0 m t p1 p2 p3) ?_
  intro p e s m below meth c s₁ Bd hml hZ hh hx hby hown X0 e0
  have N0 := Fr.nil n0
  have lt21 : h0.size > t := E_t.lt
  have lt22 : h0.size > aN := V_aN.lt
  have lt23 : h0.size > bN := V_bN.lt
  refine own_aloadN X0.here hx hby d10_0 rfl rfl ?_
  refine own_dup X0.here hx hby d10_1 rfl ?_
  refine own_getF X0 hx hZ hown (host := "") (Or.inl (own_w hw 68 rfl)) Via.refl e0 F_size_t hby d10_2 ?_
  intro T24 X24 e24
  refine own_dupX1 X24.here hx hby d10_5 rfl rfl ?_
  refine own_iconst X24.here hx hby d10_6 (v := (1 : Int32)) (by decide) ?_
  refine own_iadd X24.here hx hby d10_7 (v := (4 : Int32)) (by decide) ?_
  refine own_putF X24 hx hZ (ty := .int) hown (host := "") (Or.inl (own_w hw 68 rfl)) Via.refl e24 F_size_t E_t (Or.inl (own_w hw 69 rfl)) (own_w hw 35 rfl) (by decide) rfl rfl hby d10_8 N0 g_t ?_
  intro T25 h25 lo25 X25 e25 N25 W25 F25 z25
  refine own_istore X25.here hx hby d10_11 (l' := #[.val (.ref t), .val (.int p1), .val (.int p2), .val (.int p3), .val (.int 3), .unset, .unset]) rfl ?_
  refine own_iload X25.here hx hby d10_13 rfl ?_
  refine own_sipush X25.here hx hby d10_15 (v := (4095 : Int32)) (by decide) ?_
  refine own_iand X25.here hx hby d10_18 (v := (3 : Int32)) (by decide) ?_
  refine own_ifYes X25.here hx hby (pc' := 100) d10_19 ((if0 _ _).trans (feq (show ¬ ((3 : Int32) = (0 : Int32)) from (by decide))).2) (by decide) (by decide) ?_
  refine own_aloadN X25.here hx hby d10_100 rfl rfl ?_
  have f26 : Fld Z h25 t "com/example/boxwood/boxwood/XmlNodeTable" "numbers" "[[I" (.ref aN) := (F_numbers_t.other W25 (Or.inr (slot_ne (Or.inl (own_w hw 44 rfl)) (Or.inl (own_w hw 69 rfl)) (by decide) (t := (.array (.array .int))) (t' := .int) (by decide) (by decide))))
  refine own_getF X25 hx hZ hown (host := "") (Or.inl (own_w hw 43 rfl)) Via.refl e25 f26 hby d10_101 ?_
  intro T27 X27 e27
  refine own_iload X27.here hx hby d10_104 rfl ?_
  refine own_bipush X27.here hx hby d10_106 (v := (12 : Int32)) (by decide) ?_
  refine own_iushr X27.here hx hby d10_108 (v := (0 : Int32)) (by decide) ?_
  have f28 : Arv Z h25 aN kN (.array .int) (1 : Int32) [(.ref bN)] .null := (V_aN.other W25 (Ne.symm (own_ne_oa E_t (own_w hw 35 rfl) V_aN)))
  refine own_aaload X27 hx hZ e27 f28 rfl ⟨by decide, by decide⟩ (v := (.ref bN)) rfl hby d10_109 ?_
  refine own_astore X27.here hx hby d10_110 rfl (l' := #[.val (.ref t), .val (.int p1), .val (.int p2), .val (.int p3), .val (.int 3), .val (.ref bN), .unset]) rfl ?_
  refine own_iload X27.here hx hby d10_112 rfl ?_
  refine own_sipush X27.here hx hby d10_114 (v := (4095 : Int32)) (by decide) ?_
  refine own_iand X27.here hx hby d10_117 (v := (3 : Int32)) (by decide) ?_
  refine own_bipush X27.here hx hby d10_118 (v := (7 : Int32)) (by decide) ?_
  refine own_imul X27.here hx hby d10_120 (v := (21 : Int32)) (by decide) ?_
  refine own_istore X27.here hx hby d10_121 (l' := #[.val (.ref t), .val (.int p1), .val (.int p2), .val (.int p3), .val (.int 3), .val (.ref bN), .val (.int 21)]) rfl ?_
  refine own_aload X27.here hx hby d10_123 rfl rfl ?_
  refine own_iload X27.here hx hby d10_125 rfl ?_
  refine own_iconst X27.here hx hby d10_127 (v := (0 : Int32)) (by decide) ?_
  refine own_iadd X27.here hx hby d10_128 (v := (21 : Int32)) (by decide) ?_
  refine own_iloadN X27.here hx hby d10_129 rfl ?_
  have f29 : Arv Z h25 bN kb .int (28672 : Int32) [(.int x0), (.int x1), (.int x2), (.int x3), (.int x4), (.int x5), (.int x6), (.int x7), (.int x8), (.int x9), (.int x10), (.int x11), (.int x12), (.int x13), (.int x14), (.int x15), (.int x16), (.int x17), (.int x18), (.int x19), (.int x20)] (.int 0) := (V_bN.other W25 (Ne.symm (own_ne_oa E_t (own_w hw 35 rfl) V_bN)))
  have V31 : Arv Z h25 bN kb .int (28672 : Int32) [(.int x0), (.int x1), (.int x2), (.int x3), (.int x4), (.int x5), (.int x6), (.int x7), (.int x8), (.int x9), (.int x10), (.int x11), (.int x12), (.int x13), (.int x14), (.int x15), (.int x16), (.int x17), (.int x18), (.int x19), (.int x20), (.int 0)] (.int 0) := f29.pad (pad_rep [(.int x0), (.int x1), (.int x2), (.int x3), (.int x4), (.int x5), (.int x6), (.int x7), (.int x8), (.int x9), (.int x10), (.int x11), (.int x12), (.int x13), (.int x14), (.int x15), (.int x16), (.int x17), (.int x18), (.int x19), (.int x20)] (.int 0) 1)
  refine own_iastore X27 hx hZ e27 V31 ⟨by decide, by decide⟩ 21 (by decide) (Nat.le_of_ble_eq_true rfl) rfl hby d10_130 N25 g_bN ?_
  intro T30 h30 lo30 X30 e30 N30 W30 V30 z30
  have V32 : Arv Z h30 bN kb .int (28672 : Int32) [(.int x0), (.int x1), (.int x2), (.int x3), (.int x4), (.int x5), (.int x6), (.int x7), (.int x8), (.int x9), (.int x10), (.int x11), (.int x12), (.int x13), (.int x14), (.int x15), (.int x16), (.int x17), (.int x18), (.int x19), (.int x20), (.int p1)] (.int 0) := V30
  refine own_aload X30.here hx hby d10_131 rfl rfl ?_
  refine own_iload X30.here hx hby d10_133 rfl ?_
  refine own_iconst X30.here hx hby d10_135 (v := (1 : Int32)) (by decide) ?_
  refine own_iadd X30.here hx hby d10_136 (v := (22 : Int32)) (by decide) ?_
  refine own_iloadN X30.here hx hby d10_137 rfl ?_
  have V34 : Arv Z h30 bN kb .int (28672 : Int32) [(.int x0), (.int x1), (.int x2), (.int x3), (.int x4), (.int x5), (.int x6), (.int x7), (.int x8), (.int x9), (.int x10), (.int x11), (.int x12), (.int x13), (.int x14), (.int x15), (.int x16), (.int x17), (.int x18), (.int x19), (.int x20), (.int p1), (.int 0)] (.int 0) := V32.pad (pad_rep [(.int x0), (.int x1), (.int x2), (.int x3), (.int x4), (.int x5), (.int x6), (.int x7), (.int x8), (.int x9), (.int x10), (.int x11), (.int x12), (.int x13), (.int x14), (.int x15), (.int x16), (.int x17), (.int x18), (.int x19), (.int x20), (.int p1)] (.int 0) 1)
  refine own_iastore X30 hx hZ e30 V34 ⟨by decide, by decide⟩ 22 (by decide) (Nat.le_of_ble_eq_true rfl) rfl hby d10_138 N30 g_bN ?_
  intro T33 h33 lo33 X33 e33 N33 W33 V33 z33
  have V35 : Arv Z h33 bN kb .int (28672 : Int32) [(.int x0), (.int x1), (.int x2), (.int x3), (.int x4), (.int x5), (.int x6), (.int x7), (.int x8), (.int x9), (.int x10), (.int x11), (.int x12), (.int x13), (.int x14), (.int x15), (.int x16), (.int x17), (.int x18), (.int x19), (.int x20), (.int p1), (.int p2)] (.int 0) := V33
  refine own_aload X33.here hx hby d10_139 rfl rfl ?_
  refine own_iload X33.here hx hby d10_141 rfl ?_
  refine own_iconst X33.here hx hby d10_143 (v := (2 : Int32)) (by decide) ?_
  refine own_iadd X33.here hx hby d10_144 (v := (23 : Int32)) (by decide) ?_
  refine own_iloadN X33.here hx hby d10_145 rfl ?_
  have V37 : Arv Z h33 bN kb .int (28672 : Int32) [(.int x0), (.int x1), (.int x2), (.int x3), (.int x4), (.int x5), (.int x6), (.int x7), (.int x8), (.int x9), (.int x10), (.int x11), (.int x12), (.int x13), (.int x14), (.int x15), (.int x16), (.int x17), (.int x18), (.int x19), (.int x20), (.int p1), (.int p2), (.int 0)] (.int 0) := V35.pad (pad_rep [(.int x0), (.int x1), (.int x2), (.int x3), (.int x4), (.int x5), (.int x6), (.int x7), (.int x8), (.int x9), (.int x10), (.int x11), (.int x12), (.int x13), (.int x14), (.int x15), (.int x16), (.int x17), (.int x18), (.int x19), (.int x20), (.int p1), (.int p2)] (.int 0) 1)
  refine own_iastore X33 hx hZ e33 V37 ⟨by decide, by decide⟩ 23 (by decide) (Nat.le_of_ble_eq_true rfl) rfl hby d10_146 N33 g_bN ?_
  intro T36 h36 lo36 X36 e36 N36 W36 V36 z36
  have V38 : Arv Z h36 bN kb .int (28672 : Int32) [(.int x0), (.int x1), (.int x2), (.int x3), (.int x4), (.int x5), (.int x6), (.int x7), (.int x8), (.int x9), (.int x10), (.int x11), (.int x12), (.int x13), (.int x14), (.int x15), (.int x16), (.int x17), (.int x18), (.int x19), (.int x20), (.int p1), (.int p2), (.int p3)] (.int 0) := V36
  refine own_aload X36.here hx hby d10_147 rfl rfl ?_
  refine own_iload X36.here hx hby d10_149 rfl ?_
  refine own_iconst X36.here hx hby d10_151 (v := (3 : Int32)) (by decide) ?_
  refine own_iadd X36.here hx hby d10_152 (v := (24 : Int32)) (by decide) ?_
  refine own_iload X36.here hx hby d10_153 rfl ?_
  refine own_iconst X36.here hx hby d10_155 (v := (1 : Int32)) (by decide) ?_
  refine own_iadd X36.here hx hby d10_156 (v := (4 : Int32)) (by decide) ?_
  have V40 : Arv Z h36 bN kb .int (28672 : Int32) [(.int x0), (.int x1), (.int x2), (.int x3), (.int x4), (.int x5), (.int x6), (.int x7), (.int x8), (.int x9), (.int x10), (.int x11), (.int x12), (.int x13), (.int x14), (.int x15), (.int x16), (.int x17), (.int x18), (.int x19), (.int x20), (.int p1), (.int p2), (.int p3), (.int 0)] (.int 0) := V38.pad (pad_rep [(.int x0), (.int x1), (.int x2), (.int x3), (.int x4), (.int x5), (.int x6), (.int x7), (.int x8), (.int x9), (.int x10), (.int x11), (.int x12), (.int x13), (.int x14), (.int x15), (.int x16), (.int x17), (.int x18), (.int x19), (.int x20), (.int p1), (.int p2), (.int p3)] (.int 0) 1)
  refine own_iastore X36 hx hZ e36 V40 ⟨by decide, by decide⟩ 24 (by decide) (Nat.le_of_ble_eq_true rfl) rfl hby d10_157 N36 g_bN ?_
  intro T39 h39 lo39 X39 e39 N39 W39 V39 z39
  have V41 : Arv Z h39 bN kb .int (28672 : Int32) [(.int x0), (.int x1), (.int x2), (.int x3), (.int x4), (.int x5), (.int x6), (.int x7), (.int x8), (.int x9), (.int x10), (.int x11), (.int x12), (.int x13), (.int x14), (.int x15), (.int x16), (.int x17), (.int x18), (.int x19), (.int x20), (.int p1), (.int p2), (.int p3), (.int 4)] (.int 0) := V39
  refine own_aload X39.here hx hby d10_158 rfl rfl ?_
  refine own_iload X39.here hx hby d10_160 rfl ?_
  refine own_bipush X39.here hx hby d10_162 (v := (6 : Int32)) (by decide) ?_
  refine own_iadd X39.here hx hby d10_164 (v := (27 : Int32)) (by decide) ?_
  refine own_aloadN X39.here hx hby d10_165 rfl rfl ?_
  have f42 : Fld Z h39 t "com/example/boxwood/boxwood/XmlNodeTable" "attributeCount" "I" (.int ac) := (((((F_attributeCount_t.other W25 (Or.inr (slot_ne (Or.inl (own_w hw 76 rfl)) (Or.inl (own_w hw 69 rfl)) (by decide) (t := .int) (t' := .int) (by decide) (by decide)))).other W30 (Or.inl (own_ne_oa E_t (own_w hw 35 rfl) V_bN))).other W33 (Or.inl (own_ne_oa E_t (own_w hw 35 rfl) V_bN))).other W36 (Or.inl (own_ne_oa E_t (own_w hw 35 rfl) V_bN))).other W39 (Or.inl (own_ne_oa E_t (own_w hw 35 rfl) V_bN)))
  refine own_getF X39 hx hZ hown (host := "") (Or.inl (own_w hw 75 rfl)) Via.refl e39 f42 hby d10_166 ?_
  intro T43 X43 e43
  have V45 : Arv Z h39 bN kb .int (28672 : Int32) [(.int x0), (.int x1), (.int x2), (.int x3), (.int x4), (.int x5), (.int x6), (.int x7), (.int x8), (.int x9), (.int x10), (.int x11), (.int x12), (.int x13), (.int x14), (.int x15), (.int x16), (.int x17), (.int x18), (.int x19), (.int x20), (.int p1), (.int p2), (.int p3), (.int 4), (.int 0), (.int 0), (.int 0)] (.int 0) := V41.pad (pad_rep [(.int x0), (.int x1), (.int x2), (.int x3), (.int x4), (.int x5), (.int x6), (.int x7), (.int x8), (.int x9), (.int x10), (.int x11), (.int x12), (.int x13), (.int x14), (.int x15), (.int x16), (.int x17), (.int x18), (.int x19), (.int x20), (.int p1), (.int p2), (.int p3), (.int 4)] (.int 0) 3)
  refine own_iastore X43 hx hZ e43 V45 ⟨by decide, by decide⟩ 27 (by decide) (Nat.le_of_ble_eq_true rfl) rfl hby d10_169 N39 g_bN ?_
  intro T44 h44 lo44 X44 e44 N44 W44 V44 z44
  have V46 : Arv Z h44 bN kb .int (28672 : Int32) [(.int x0), (.int x1), (.int x2), (.int x3), (.int x4), (.int x5), (.int x6), (.int x7), (.int x8), (.int x9), (.int x10), (.int x11), (.int x12), (.int x13), (.int x14), (.int x15), (.int x16), (.int x17), (.int x18), (.int x19), (.int x20), (.int p1), (.int p2), (.int p3), (.int 4), (.int 0), (.int 0), (.int ac)] (.int 0) := V44
  refine own_iload X44.here hx hby d10_170 rfl ?_
  have K47 : Keep h0 h44 [t, bN] := (((((((Keep.refl h0 [t, bN]).wr W25 (Or.inl (List.mem_of_getElem? (i := 0) rfl))).wr W30 (Or.inl (List.mem_of_getElem? (i := 1) rfl))).wr W33 (Or.inl (List.mem_of_getElem? (i := 1) rfl))).wr W36 (Or.inl (List.mem_of_getElem? (i := 1) rfl))).wr W39 (Or.inl (List.mem_of_getElem? (i := 1) rfl))).wr W44 (Or.inl (List.mem_of_getElem? (i := 1) rfl)))
  have f48 : Exa Z h44 t "com/example/boxwood/boxwood/XmlNodeTable" := ((((((E_t.wr W25).wr W30).wr W33).wr W36).wr W39).wr W44)
  have f49 : Fld Z h44 t "com/example/boxwood/boxwood/XmlNodeTable" "size" "I" (.int 4) := (((((F25.other W30 (Or.inl (own_ne_oa E_t (own_w hw 35 rfl) V_bN))).other W33 (Or.inl (own_ne_oa E_t (own_w hw 35 rfl) V_bN))).other W36 (Or.inl (own_ne_oa E_t (own_w hw 35 rfl) V_bN))).other W39 (Or.inl (own_ne_oa E_t (own_w hw 35 rfl) V_bN))).other W44 (Or.inl (own_ne_oa E_t (own_w hw 35 rfl) V_bN)))
  have f50 : Fld Z h44 t "com/example/boxwood/boxwood/XmlNodeTable" "numbers" "[[I" (.ref aN) := (((((f26.other W30 (Or.inl (own_ne_oa E_t (own_w hw 35 rfl) V_bN))).other W33 (Or.inl (own_ne_oa E_t (own_w hw 35 rfl) V_bN))).other W36 (Or.inl (own_ne_oa E_t (own_w hw 35 rfl) V_bN))).other W39 (Or.inl (own_ne_oa E_t (own_w hw 35 rfl) V_bN))).other W44 (Or.inl (own_ne_oa E_t (own_w hw 35 rfl) V_bN)))
  have f51 : Fld Z h44 t "com/example/boxwood/boxwood/XmlNodeTable" "attributeCount" "I" (.int ac) := (f42.other W44 (Or.inl (own_ne_oa E_t (own_w hw 35 rfl) V_bN)))
  have f52 : Fld Z h44 t "com/example/boxwood/boxwood/XmlNodeTable" "strings" "[[Ljava/lang/String;" (.ref aS) := ((((((F_strings_t.other W25 (Or.inr (slot_ne (Or.inl (own_w hw 48 rfl)) (Or.inl (own_w hw 69 rfl)) (by decide) (t := (.array (.array (.object "java/lang/String")))) (t' := .int) (by decide) (by decide)))).other W30 (Or.inl (own_ne_oa E_t (own_w hw 35 rfl) V_bN))).other W33 (Or.inl (own_ne_oa E_t (own_w hw 35 rfl) V_bN))).other W36 (Or.inl (own_ne_oa E_t (own_w hw 35 rfl) V_bN))).other W39 (Or.inl (own_ne_oa E_t (own_w hw 35 rfl) V_bN))).other W44 (Or.inl (own_ne_oa E_t (own_w hw 35 rfl) V_bN)))
  obtain ⟨fs, hr, hrun, hended, hW, hsame⟩ := X44.leave (v := some (.int 3)) (fun h => by rw [Bd.returns] at h; cases h)
  refine own_ret (t := T44.setFrames fs) ?_ ⟨_, hrun, hended, _, _, rfl, ?_, ⟨_, rfl⟩, hW, hsame.mono (by decide) (by decide)⟩
  · exact retOut X44 hx Bd.returns rfl (Or.inl ⟨rfl, Or.inl rfl, _, rfl⟩) (hb hby d10_172) hr
  · show Q_add_3 Z _ _ _ _ _ _ _ _ _ _ _ _ _ _ _ _ _ _ _ _ _ _ _ _ _ _ _ _ _ _ _ h0 n0 _ T44.heap _
    rw [e44]
    exact ⟨rfl, N44, K47, f48, f49, f50, f51, V46, f52⟩
theorem ef_set_0_4_7 (m : MethodId) (x0 : Nat) (x1 : Int32) (x2 : Int32) (x3 : Int32) : entryFrame m #[(.ref x0), (.int x1), (.int x2), (.int x3)] 4 = mkF m 0 #[.val (.ref x0), .val (.int x1), .val (.int x2), .val (.int x3)] [] := by first | (simp [entryFrame, mkF, argsToLocals, Value.category]; done) | rfl
theorem pn_11 : plainName "com/example/boxwood/boxwood/XmlNodeTable" = true := by first | (simp [plainName, overriddenIn]; done) | decide +kernel
theorem d11_0 : decode prog_60_method_27_code 0 = .ok (.aload_n 0, 1) := by decide +kernel
theorem d11_1 : decode prog_60_method_27_code 1 = .ok (.getfield 11, 3) := by decide +kernel
theorem d11_4 : decode prog_60_method_27_code 4 = .ok (.iload_n 1, 1) := by decide +kernel
theorem d11_5 : decode prog_60_method_27_code 5 = .ok (.bipush 12, 2) := by decide +kernel
theorem d11_7 : decode prog_60_method_27_code 7 = .ok (.iushr, 1) := by decide +kernel
theorem d11_8 : decode prog_60_method_27_code 8 = .ok (.aaload, 1) := by decide +kernel
theorem d11_9 : decode prog_60_method_27_code 9 = .ok (.iload_n 1, 1) := by decide +kernel
theorem d11_10 : decode prog_60_method_27_code 10 = .ok (.sipush 4095, 3) := by decide +kernel
theorem d11_13 : decode prog_60_method_27_code 13 = .ok (.iand, 1) := by decide +kernel
theorem d11_14 : decode prog_60_method_27_code 14 = .ok (.bipush 7, 2) := by decide +kernel
theorem d11_16 : decode prog_60_method_27_code 16 = .ok (.imul, 1) := by decide +kernel
theorem d11_17 : decode prog_60_method_27_code 17 = .ok (.iload_n 2, 1) := by decide +kernel
theorem d11_18 : decode prog_60_method_27_code 18 = .ok (.iadd, 1) := by decide +kernel
theorem d11_19 : decode prog_60_method_27_code 19 = .ok (.iload_n 3, 1) := by decide +kernel
theorem d11_20 : decode prog_60_method_27_code 20 = .ok (.iastore, 1) := by decide +kernel
theorem d11_21 : decode prog_60_method_27_code 21 = .ok (.return_, 1) := by decide +kernel
def Q_set_0_4_7 (Z : State) (t : Nat) (aN : Nat) (bN : Nat) (p3 : Int32) (kN : ClassId) (kb : ClassId) (x0 : Int32) (x1 : Int32) (x2 : Int32) (x3 : Int32) (x4 : Int32) (x5 : Int32) (x6 : Int32) (h0 : Heap) (n0 : Nat) (vR : Option Value) (hR : Heap) (LR : List Loc) : Prop := vR = none ∧ Fr n0 LR ∧ Keep h0 hR [bN] ∧ (Arv Z hR bN kb .int (28672 : Int32) [(.int x0), (.int x1), (.int x2), (.int x3), (.int p3), (.int x5), (.int x6)] (.int 0))
set_option maxRecDepth 65536 in
set_option maxHeartbeats 40000000 in
theorem set_0_4_7 (l : Launch) (Z : State) (a0 : Array Value) (hw : ∀ d ∈ tables_1, d.before a0 Z = true) (ws : List Jvm.Cond) (t : Nat) (aN : Nat) (bN : Nat) (p3 : Int32) (kN : ClassId) (kb : ClassId) (x0 : Int32) (x1 : Int32) (x2 : Int32) (x3 : Int32) (x4 : Int32) (x5 : Int32) (x6 : Int32) (h0 : Heap) (n0 : Nat) (Z0 : n0 ≤ h0.size) (F_numbers_t : Fld Z h0 t "com/example/boxwood/boxwood/XmlNodeTable" "numbers" "[[I" (.ref aN)) (V_aN : Arv Z h0 aN kN (.array .int) (1 : Int32) [(.ref bN)] .null) (V_bN : Arv Z h0 bN kb .int (28672 : Int32) [(.int x0), (.int x1), (.int x2), (.int x3), (.int x4), (.int x5), (.int x6)] (.int 0)) (g_bN : n0 ≤ bN) :
    own_M l (⟨"com/example/boxwood/boxwood/XmlNodeTable", "set", "(III)V"⟩ : MethodName) prog_60_method_27_code 4 none ws ({ frames := 0, cells := 0, slots := 0, locals := 0 } : Room) Z #[(.ref t), (.int 0), (.int 4), (.int p3)] h0 (Q_set_0_4_7 Z t aN bN p3 kN kb x0 x1 x2 x3 x4 x5 x6 h0 n0) := by
  refine own_body (own := "com/example/boxwood/boxwood/XmlNodeTable") rfl (plainFor_of_name pn_11) (fun m => ef_set_0_4_7 m t (0 : Int32) (4 : Int32) p3) ?_
  intro p e s m below meth c s₁ Bd hml hZ hh hx hby hown X0 e0
  have N0 := Fr.nil n0
  have lt7 : h0.size > t := F_numbers_t.lt
  have lt8 : h0.size > aN := V_aN.lt
  have lt9 : h0.size > bN := V_bN.lt
  refine own_aloadN X0.here hx hby d11_0 rfl rfl ?_
  refine own_getF X0 hx hZ hown (host := "") (Or.inl (own_w hw 43 rfl)) Via.refl e0 F_numbers_t hby d11_1 ?_
  intro T10 X10 e10
  refine own_iloadN X10.here hx hby d11_4 rfl ?_
  refine own_bipush X10.here hx hby d11_5 (v := (12 : Int32)) (by decide) ?_
  refine own_iushr X10.here hx hby d11_7 (v := (0 : Int32)) (by decide) ?_
  refine own_aaload X10 hx hZ e10 V_aN rfl ⟨by decide, by decide⟩ (v := (.ref bN)) rfl hby d11_8 ?_
  refine own_iloadN X10.here hx hby d11_9 rfl ?_
  refine own_sipush X10.here hx hby d11_10 (v := (4095 : Int32)) (by decide) ?_
  refine own_iand X10.here hx hby d11_13 (v := (0 : Int32)) (by decide) ?_
  refine own_bipush X10.here hx hby d11_14 (v := (7 : Int32)) (by decide) ?_
  refine own_imul X10.here hx hby d11_16 (v := (0 : Int32)) (by decide) ?_
  refine own_iloadN X10.here hx hby d11_17 rfl ?_
  refine own_iadd X10.here hx hby d11_18 (v := (4 : Int32)) (by decide) ?_
  refine own_iloadN X10.here hx hby d11_19 rfl ?_
  refine own_iastore X10 hx hZ e10 V_bN ⟨by decide, by decide⟩ 4 (by decide) (Nat.le_of_ble_eq_true rfl) rfl hby d11_20 N0 g_bN ?_
  intro T11 h11 lo11 X11 e11 N11 W11 V11 z11
  have V12 : Arv Z h11 bN kb .int (28672 : Int32) [(.int x0), (.int x1), (.int x2), (.int x3), (.int p3), (.int x5), (.int x6)] (.int 0) := V11
  have K13 : Keep h0 h11 [bN] := ((Keep.refl h0 [bN]).wr W11 (Or.inl (List.mem_of_getElem? (i := 0) rfl)))
  obtain ⟨fs, hr, hrun, hended, hW, hsame⟩ := X11.leave (v := none) (fun _ => rfl)
  refine own_ret (t := T11.setFrames fs) ?_ ⟨_, hrun, hended, _, _, rfl, ?_, ⟨_, rfl⟩, hW, hsame.mono (by decide) (by decide)⟩
  · exact X11.returnOut hx Bd.returns (hb hby d11_21) hr
  · show Q_set_0_4_7 Z _ _ _ _ _ _ _ _ _ _ _ _ _ h0 n0 _ T11.heap _
    rw [e11]
    exact ⟨rfl, N11, K13, V12⟩
theorem ef_start_0 (m : MethodId) (x0 : Nat) (x1 : Nat) (x2 : Int32) (x3 : Int32) : entryFrame m #[(.ref x0), (.ref x1), (.int x2), (.int x3)] 5 = mkF m 0 #[.val (.ref x0), .val (.ref x1), .val (.int x2), .val (.int x3), .unset] [] := by first | (simp [entryFrame, mkF, argsToLocals, Value.category]; done) | rfl
theorem pn_9 : plainName "com/example/boxwood/boxwood/XmlNodeTable" = true := by first | (simp [plainName, overriddenIn]; done) | decide +kernel
theorem d9_0 : decode prog_60_method_3_code 0 = .ok (.aload_n 0, 1) := by decide +kernel
theorem d9_1 : decode prog_60_method_3_code 1 = .ok (.iconst 0, 1) := by decide +kernel
theorem d9_2 : decode prog_60_method_3_code 2 = .ok (.iload_n 2, 1) := by decide +kernel
theorem d9_3 : decode prog_60_method_3_code 3 = .ok (.iconst (-1), 1) := by decide +kernel
theorem d9_4 : decode prog_60_method_3_code 4 = .ok (.invokevirtual 37, 3) := by decide +kernel
theorem pd_1 : parseMethodDescriptor "(III)I" = some ⟨[.int, .int, .int], some .int⟩ := by decide +kernel
theorem d9_7 : decode prog_60_method_3_code 7 = .ok (.istore 4, 2) := by decide +kernel
theorem d9_9 : decode prog_60_method_3_code 9 = .ok (.aload_n 0, 1) := by decide +kernel
theorem d9_10 : decode prog_60_method_3_code 10 = .ok (.getfield 17, 3) := by decide +kernel
theorem d9_13 : decode prog_60_method_3_code 13 = .ok (.iload 4, 2) := by decide +kernel
theorem d9_15 : decode prog_60_method_3_code 15 = .ok (.bipush 12, 2) := by decide +kernel
theorem d9_17 : decode prog_60_method_3_code 17 = .ok (.iushr, 1) := by decide +kernel
theorem d9_18 : decode prog_60_method_3_code 18 = .ok (.aaload, 1) := by decide +kernel
theorem d9_19 : decode prog_60_method_3_code 19 = .ok (.iload 4, 2) := by decide +kernel
theorem d9_21 : decode prog_60_method_3_code 21 = .ok (.sipush 4095, 3) := by decide +kernel
theorem d9_24 : decode prog_60_method_3_code 24 = .ok (.iand, 1) := by decide +kernel
theorem d9_25 : decode prog_60_method_3_code 25 = .ok (.aload_n 1, 1) := by decide +kernel
theorem d9_26 : decode prog_60_method_3_code 26 = .ok (.aastore, 1) := by decide +kernel
theorem d9_27 : decode prog_60_method_3_code 27 = .ok (.aload_n 0, 1) := by decide +kernel
theorem d9_28 : decode prog_60_method_3_code 28 = .ok (.iload 4, 2) := by decide +kernel
theorem d9_30 : decode prog_60_method_3_code 30 = .ok (.iconst 4, 1) := by decide +kernel
theorem d9_31 : decode prog_60_method_3_code 31 = .ok (.iload_n 3, 1) := by decide +kernel
theorem d9_32 : decode prog_60_method_3_code 32 = .ok (.invokevirtual 41, 3) := by decide +kernel
theorem pd_2 : parseMethodDescriptor "(III)V" = some ⟨[.int, .int, .int], none⟩ := by decide +kernel
theorem d9_35 : decode prog_60_method_3_code 35 = .ok (.iload 4, 2) := by decide +kernel
theorem d9_37 : decode prog_60_method_3_code 37 = .ok (.ireturn, 1) := by decide +kernel
def Q_start_0 (Z : State) (t : Nat) (nm : Nat) (aN : Nat) (aS : Nat) (p1 : Int32) (p2 : Int32) (ac : Int32) (kN : ClassId) (kS : ClassId) (h0 : Heap) (n0 : Nat) (vR : Option Value) (hR : Heap) (LR : List Loc) : Prop := ∃ (bN : Nat) (bS : Nat) (kb : ClassId) (kc : ClassId), vR = some (.int 0) ∧ Fr n0 LR ∧ Keep h0 hR [t, aN, aS] ∧ (Exa Z hR t "com/example/boxwood/boxwood/XmlNodeTable") ∧ (Fld Z hR t "com/example/boxwood/boxwood/XmlNodeTable" "size" "I" (.int 1)) ∧ (Arv Z hR aN kN (.array .int) (1 : Int32) [(.ref bN)] .null) ∧ (Arv Z hR aS kS (.array (.object "java/lang/String")) (1 : Int32) [(.ref bS)] .null) ∧ h0.size ≤ bN ∧ h0.size ≤ bS ∧ (bN < bS) ∧ (Arv Z hR bN kb .int (28672 : Int32) [(.int 0), (.int p1), (.int (-1)), (.int 1), (.int p2), (.int 0), (.int ac)] (.int 0)) ∧ (Arv Z hR bS kc (.object "java/lang/String") (4096 : Int32) [(.ref nm)] .null) ∧ (Ovr Z kc "java/lang/String") ∧ (Fld Z hR t "com/example/boxwood/boxwood/XmlNodeTable" "numbers" "[[I" (.ref aN)) ∧ (Fld Z hR t "com/example/boxwood/boxwood/XmlNodeTable" "strings" "[[Ljava/lang/String;" (.ref aS)) ∧ (Fld Z hR t "com/example/boxwood/boxwood/XmlNodeTable" "attributeCount" "I" (.int ac))
set_option maxRecDepth 65536 in
set_option maxHeartbeats 40000000 in
theorem start_0 (l : Launch) (Z : State) (a0 : Array Value) (hw : ∀ d ∈ tables_1, d.before a0 Z = true) (ws : List Jvm.Cond) (t : Nat) (nm : Nat) (aN : Nat) (aS : Nat) (p1 : Int32) (p2 : Int32) (ac : Int32) (kN : ClassId) (kS : ClassId) (h0 : Heap) (n0 : Nat) (Z0 : n0 ≤ h0.size) (E_t : Exa Z h0 t "com/example/boxwood/boxwood/XmlNodeTable") (F_size_t : Fld Z h0 t "com/example/boxwood/boxwood/XmlNodeTable" "size" "I" (.int 0)) (F_numbers_t : Fld Z h0 t "com/example/boxwood/boxwood/XmlNodeTable" "numbers" "[[I" (.ref aN)) (F_attributeCount_t : Fld Z h0 t "com/example/boxwood/boxwood/XmlNodeTable" "attributeCount" "I" (.int ac)) (V_aN : Arv Z h0 aN kN (.array .int) (1 : Int32) [.null] .null) (F_strings_t : Fld Z h0 t "com/example/boxwood/boxwood/XmlNodeTable" "strings" "[[Ljava/lang/String;" (.ref aS)) (V_aS : Arv Z h0 aS kS (.array (.object "java/lang/String")) (1 : Int32) [.null] .null) (O_aN : OvrA Z kN .int "[I") (O_aS : OvrA Z kS (.object "java/lang/String") "[Ljava/lang/String;") (g_t : n0 ≤ t) (g_aN : n0 ≤ aN) (g_aS : n0 ≤ aS) (E_nm : Exa Z h0 nm "java/lang/String") :
    own_M l (⟨"com/example/boxwood/boxwood/XmlNodeTable", "startElement", "(Ljava/lang/String;II)I"⟩ : MethodName) prog_60_method_3_code 5 (some .int) ws ({ frames := 1, cells := 2, slots := 32768, locals := 18 } : Room) Z #[(.ref t), (.ref nm), (.int p1), (.int p2)] h0 (Q_start_0 Z t nm aN aS p1 p2 ac kN kS h0 n0) := by
  refine own_body (own := "com/example/boxwood/boxwood/XmlNodeTable") rfl (plainFor_of_name pn_9) (fun m => ef_start_0 m t nm p1 p2) ?_
  intro p e s m below meth c s₁ Bd hml hZ hh hx hby hown X0 e0
  have N0 := Fr.nil n0
  have lt3 : h0.size > t := E_t.lt
  have lt4 : h0.size > aN := V_aN.lt
  have lt5 : h0.size > aS := V_aS.lt
  have lt6 : h0.size > nm := E_nm.lt
  refine own_aloadN X0.here hx hby d9_0 rfl rfl ?_
  refine own_iconst X0.here hx hby d9_1 (v := (0 : Int32)) (by decide) ?_
  refine own_iloadN X0.here hx hby d9_2 rfl ?_
  refine own_iconst X0.here hx hby d9_3 (v := (-1 : Int32)) (by decide) ?_
  refine own_private X0 hx hZ hown (own_w hw 64 rfl) (own_w hw 65 rfl) (own_w hw 35 rfl) (own_w hw 66 rfl) (own_w hw 36 rfl) (own_w hw 67 rfl) (by decide) (add_0 l Z a0 hw [] t aN aS (0 : Int32) p1 (-1 : Int32) ac kN kS h0 n0 Z0 E_t F_size_t F_numbers_t F_attributeCount_t V_aN F_strings_t V_aS O_aN O_aS g_t g_aN g_aS) 0 (Nat.le_of_eq rfl) (by decide) (by decide) (by rw [hml]; rfl) (argsL := [(.int 0), (.int p1), (.int (-1))]) (st := []) E_t (lenOf pd_1 rfl) rfl rfl (by decide) (by decide) e0 hby d9_4 ?_
  intro T7 v7 L7 X7 hQ7
  obtain ⟨bN_7, bS_7, kb_7, kc_7, rfl, Nq7, K7, P7_0, P7_1, P7_2, P7_3, P7_4, P7_5, P7_6, P7_7, P7_8, P7_9, P7_10, P7_11, P7_12⟩ := hQ7
  have N7 := Fr.app N0 Nq7
  have z8 : h0.size ≤ T7.heap.size := K7.1
  have lt9 : T7.heap.size > t := P7_0.lt
  have lt10 : T7.heap.size > aN := P7_2.lt
  have lt11 : T7.heap.size > aS := P7_3.lt
  have lt12 : T7.heap.size > bN_7 := P7_7.lt
  have lt13 : T7.heap.size > bS_7 := P7_8.lt
  refine own_sh (T := T7) 7 #[.val (.ref t), .val (.ref nm), .val (.int p1), .val (.int p2), .unset] [(.int 0)] ?_
  refine own_istore X7.here hx hby d9_7 (l' := #[.val (.ref t), .val (.ref nm), .val (.int p1), .val (.int p2), .val (.int 0)]) rfl ?_
  refine own_aloadN X7.here hx hby d9_9 rfl rfl ?_
  refine own_getF X7 hx hZ hown (host := "") (Or.inl (own_w hw 47 rfl)) Via.refl rfl P7_11 hby d9_10 ?_
  intro T14 X14 e14
  refine own_iload X14.here hx hby d9_13 rfl ?_
  refine own_bipush X14.here hx hby d9_15 (v := (12 : Int32)) (by decide) ?_
  refine own_iushr X14.here hx hby d9_17 (v := (0 : Int32)) (by decide) ?_
  refine own_aaload X14 hx hZ e14 P7_3 rfl ⟨by decide, by decide⟩ (v := (.ref bS_7)) rfl hby d9_18 ?_
  refine own_iload X14.here hx hby d9_19 rfl ?_
  refine own_sipush X14.here hx hby d9_21 (v := (4095 : Int32)) (by decide) ?_
  refine own_iand X14.here hx hby d9_24 (v := (0 : Int32)) (by decide) ?_
  refine own_aloadN X14.here hx hby d9_25 rfl rfl ?_
  have V16 : Arv Z T7.heap bS_7 kc_7 (.object "java/lang/String") (4096 : Int32) [.null] .null := P7_8.pad (pad_rep [] .null 1)
  have f17 : Exa Z T7.heap nm "java/lang/String" := (E_nm.keep K7)
  refine own_aastore X14 hx hZ e14 V16 rfl rfl (own_stoV V16 P7_9 (Ins.self f17)) ⟨by decide, by decide⟩ 0 (by decide) (Nat.le_of_ble_eq_true rfl) hby d9_26 N7 (by omega) ?_
  intro T15 h15 lo15 X15 e15 N15 W15 V15 z15
  have V18 : Arv Z h15 bS_7 kc_7 (.object "java/lang/String") (4096 : Int32) [(.ref nm)] .null := V15
  refine own_aloadN X15.here hx hby d9_27 rfl rfl ?_
  refine own_iload X15.here hx hby d9_28 rfl ?_
  refine own_iconst X15.here hx hby d9_30 (v := (4 : Int32)) (by decide) ?_
  refine own_iloadN X15.here hx hby d9_31 rfl ?_
  have f19 : Fld Z h15 t "com/example/boxwood/boxwood/XmlNodeTable" "numbers" "[[I" (.ref aN) := (P7_10.other W15 (Or.inl (own_nn (by omega))))
  have f20 : Arv Z h15 aN kN (.array .int) (1 : Int32) [(.ref bN_7)] .null := (P7_2.other W15 (own_nn (by omega)))
  have f21 : Arv Z h15 bN_7 kb_7 .int (28672 : Int32) [(.int 0), (.int p1), (.int (-1)), (.int 1), (.int 0), (.int 0), (.int ac)] (.int 0) := (P7_7.other W15 (own_nn (by omega)))
  have z23 : n0 ≤ h15.size := by omega
  have f24 : Exa Z h15 t "com/example/boxwood/boxwood/XmlNodeTable" := (P7_0.wr W15)
  refine own_private X15 hx hZ hown (own_w hw 77 rfl) (own_w hw 78 rfl) (own_w hw 35 rfl) (own_w hw 79 rfl) (own_w hw 36 rfl) (own_w hw 80 rfl) (by decide) (set_0_4_7 l Z a0 hw [] t aN bN_7 p2 kN kb_7 (0 : Int32) p1 (-1 : Int32) (1 : Int32) (0 : Int32) (0 : Int32) ac h15 n0 z23 f19 f20 f21 (by omega)) 0 (Nat.le_of_eq rfl) (by decide) (by decide) (by rw [hml]; rfl) (argsL := [(.int 0), (.int 4), (.int p2)]) (st := []) f24 (lenOf pd_2 rfl) rfl rfl (by decide) (by decide) e15 hby d9_32 ?_
  intro T22 v22 L22 X22 hQ22
  obtain ⟨rfl, Nq22, K22, P22_0⟩ := hQ22
  have N22 := Fr.app N15 Nq22
  have z25 : h15.size ≤ T22.heap.size := K22.1
  have lt26 : T22.heap.size > bN_7 := P22_0.lt
  refine own_sh (T := T22) 35 #[.val (.ref t), .val (.ref nm), .val (.int p1), .val (.int p2), .val (.int 0)] [] ?_
  refine own_iload X22.here hx hby d9_35 rfl ?_
  have K27 : Keep h0 T22.heap [t, aN, aS] := ((((Keep.refl h0 [t, aN, aS]).trans K7 (allS (P := fun xq_ => xq_ ∈ [t, aN, aS] ∨ h0.size ≤ xq_) (Or.inl (List.mem_of_getElem? (i := 0) rfl)) (allS (P := fun xq_ => xq_ ∈ [t, aN, aS] ∨ h0.size ≤ xq_) (Or.inl (List.mem_of_getElem? (i := 1) rfl)) (allS (P := fun xq_ => xq_ ∈ [t, aN, aS] ∨ h0.size ≤ xq_) (Or.inl (List.mem_of_getElem? (i := 2) rfl)) all0)))).wr W15 (Or.inr (by omega))).trans K22 (allS (P := fun xq_ => xq_ ∈ [t, aN, aS] ∨ h0.size ≤ xq_) (Or.inr (by omega)) all0))
  have f28 : Exa Z T22.heap t "com/example/boxwood/boxwood/XmlNodeTable" := (f24.keep K22)
  have f29 : Fld Z T22.heap t "com/example/boxwood/boxwood/XmlNodeTable" "size" "I" (.int 1) := ((P7_1.other W15 (Or.inl (own_nn (by omega)))).keep K22 (ninS (own_nn (by omega)) nin0))
  have f30 : Arv Z T22.heap aN kN (.array .int) (1 : Int32) [(.ref bN_7)] .null := (f20.keep K22 (ninS (own_nn (by omega)) nin0))
  have f31 : Arv Z T22.heap aS kS (.array (.object "java/lang/String")) (1 : Int32) [(.ref bS_7)] .null := ((P7_3.other W15 (own_nn (by omega))).keep K22 (ninS (own_nn (by omega)) nin0))
  have f32 : Arv Z T22.heap bS_7 kc_7 (.object "java/lang/String") (4096 : Int32) [(.ref nm)] .null := (V18.keep K22 (ninS (own_nn (by omega)) nin0))
  have f33 : Fld Z T22.heap t "com/example/boxwood/boxwood/XmlNodeTable" "numbers" "[[I" (.ref aN) := (f19.keep K22 (ninS (own_nn (by omega)) nin0))
  have f34 : Fld Z T22.heap t "com/example/boxwood/boxwood/XmlNodeTable" "strings" "[[Ljava/lang/String;" (.ref aS) := ((P7_11.other W15 (Or.inl (own_nn (by omega)))).keep K22 (ninS (own_nn (by omega)) nin0))
  have f35 : Fld Z T22.heap t "com/example/boxwood/boxwood/XmlNodeTable" "attributeCount" "I" (.int ac) := ((P7_12.other W15 (Or.inl (own_nn (by omega)))).keep K22 (ninS (own_nn (by omega)) nin0))
  obtain ⟨fs, hr, hrun, hended, hW, hsame⟩ := X22.leave (v := some (.int 0)) (fun h => by rw [Bd.returns] at h; cases h)
  refine own_ret (t := T22.setFrames fs) ?_ ⟨_, hrun, hended, _, _, rfl, ?_, ⟨_, rfl⟩, hW, hsame.mono (by decide) (by decide)⟩
  · exact retOut X22 hx Bd.returns rfl (Or.inl ⟨rfl, Or.inl rfl, _, rfl⟩) (hb hby d9_37) hr
  · show Q_start_0 Z _ _ _ _ _ _ _ _ _ h0 n0 _ T22.heap _
    exact ⟨bN_7, bS_7, kb_7, kc_7, rfl, N22, K27, f28, f29, f30, f31, (by omega), (by omega), (by first | decide | omega | assumption), P22_0, f32, P7_9, f33, f34, f35⟩
theorem ef_text_1 (m : MethodId) (x0 : Nat) (x1 : Nat) (x2 : Int32) (x3 : Int32) : entryFrame m #[(.ref x0), (.ref x1), (.int x2), (.int x3)] 5 = mkF m 0 #[.val (.ref x0), .val (.ref x1), .val (.int x2), .val (.int x3), .unset] [] := by first | (simp [entryFrame, mkF, argsToLocals, Value.category]; done) | rfl
theorem pn_12 : plainName "com/example/boxwood/boxwood/XmlNodeTable" = true := by first | (simp [plainName, overriddenIn]; done) | decide +kernel
theorem d12_0 : decode prog_60_method_8_code 0 = .ok (.aload_n 0, 1) := by decide +kernel
theorem d12_1 : decode prog_60_method_8_code 1 = .ok (.iconst 1, 1) := by decide +kernel
theorem d12_2 : decode prog_60_method_8_code 2 = .ok (.iload_n 2, 1) := by decide +kernel
theorem d12_3 : decode prog_60_method_8_code 3 = .ok (.iload_n 3, 1) := by decide +kernel
theorem d12_4 : decode prog_60_method_8_code 4 = .ok (.invokevirtual 37, 3) := by decide +kernel
theorem d12_7 : decode prog_60_method_8_code 7 = .ok (.istore 4, 2) := by decide +kernel
theorem d12_9 : decode prog_60_method_8_code 9 = .ok (.aload_n 0, 1) := by decide +kernel
theorem d12_10 : decode prog_60_method_8_code 10 = .ok (.getfield 17, 3) := by decide +kernel
theorem d12_13 : decode prog_60_method_8_code 13 = .ok (.iload 4, 2) := by decide +kernel
theorem d12_15 : decode prog_60_method_8_code 15 = .ok (.bipush 12, 2) := by decide +kernel
theorem d12_17 : decode prog_60_method_8_code 17 = .ok (.iushr, 1) := by decide +kernel
theorem d12_18 : decode prog_60_method_8_code 18 = .ok (.aaload, 1) := by decide +kernel
theorem d12_19 : decode prog_60_method_8_code 19 = .ok (.iload 4, 2) := by decide +kernel
theorem d12_21 : decode prog_60_method_8_code 21 = .ok (.sipush 4095, 3) := by decide +kernel
theorem d12_24 : decode prog_60_method_8_code 24 = .ok (.iand, 1) := by decide +kernel
theorem d12_25 : decode prog_60_method_8_code 25 = .ok (.aload_n 1, 1) := by decide +kernel
theorem d12_26 : decode prog_60_method_8_code 26 = .ok (.aastore, 1) := by decide +kernel
theorem d12_27 : decode prog_60_method_8_code 27 = .ok (.return_, 1) := by decide +kernel
def Q_text_1 (Z : State) (t : Nat) (nm : Nat) (aN : Nat) (bN : Nat) (aS : Nat) (bS : Nat) (p1 : Int32) (p2 : Int32) (ac : Int32) (kN : ClassId) (kb : ClassId) (kS : ClassId) (kc : ClassId) (x0 : Int32) (x1 : Int32) (x2 : Int32) (x3 : Int32) (x4 : Int32) (x5 : Int32) (x6 : Int32) (s0 : Nat) (h0 : Heap) (n0 : Nat) (vR : Option Value) (hR : Heap) (LR : List Loc) : Prop := vR = none ∧ Fr n0 LR ∧ Keep h0 hR [t, bN, bS] ∧ (Exa Z hR t "com/example/boxwood/boxwood/XmlNodeTable") ∧ (Fld Z hR t "com/example/boxwood/boxwood/XmlNodeTable" "size" "I" (.int 2)) ∧ (Fld Z hR t "com/example/boxwood/boxwood/XmlNodeTable" "numbers" "[[I" (.ref aN)) ∧ (Fld Z hR t "com/example/boxwood/boxwood/XmlNodeTable" "strings" "[[Ljava/lang/String;" (.ref aS)) ∧ (Fld Z hR t "com/example/boxwood/boxwood/XmlNodeTable" "attributeCount" "I" (.int ac)) ∧ (Arv Z hR bN kb .int (28672 : Int32) [(.int x0), (.int x1), (.int x2), (.int x3), (.int x4), (.int x5), (.int x6), (.int 1), (.int p1), (.int p2), (.int 2), (.int 0), (.int 0), (.int ac)] (.int 0)) ∧ (Arv Z hR bS kc (.object "java/lang/String") (4096 : Int32) [(.ref s0), (.ref nm)] .null)
set_option maxRecDepth 65536 in
set_option maxHeartbeats 40000000 in
theorem text_1 (l : Launch) (Z : State) (a0 : Array Value) (hw : ∀ d ∈ tables_1, d.before a0 Z = true) (ws : List Jvm.Cond) (t : Nat) (nm : Nat) (aN : Nat) (bN : Nat) (aS : Nat) (bS : Nat) (p1 : Int32) (p2 : Int32) (ac : Int32) (kN : ClassId) (kb : ClassId) (kS : ClassId) (kc : ClassId) (x0 : Int32) (x1 : Int32) (x2 : Int32) (x3 : Int32) (x4 : Int32) (x5 : Int32) (x6 : Int32) (s0 : Nat) (h0 : Heap) (n0 : Nat) (Z0 : n0 ≤ h0.size) (E_t : Exa Z h0 t "com/example/boxwood/boxwood/XmlNodeTable") (F_size_t : Fld Z h0 t "com/example/boxwood/boxwood/XmlNodeTable" "size" "I" (.int 1)) (F_numbers_t : Fld Z h0 t "com/example/boxwood/boxwood/XmlNodeTable" "numbers" "[[I" (.ref aN)) (F_attributeCount_t : Fld Z h0 t "com/example/boxwood/boxwood/XmlNodeTable" "attributeCount" "I" (.int ac)) (V_aN : Arv Z h0 aN kN (.array .int) (1 : Int32) [(.ref bN)] .null) (V_bN : Arv Z h0 bN kb .int (28672 : Int32) [(.int x0), (.int x1), (.int x2), (.int x3), (.int x4), (.int x5), (.int x6)] (.int 0)) (F_strings_t : Fld Z h0 t "com/example/boxwood/boxwood/XmlNodeTable" "strings" "[[Ljava/lang/String;" (.ref aS)) (V_aS : Arv Z h0 aS kS (.array (.object "java/lang/String")) (1 : Int32) [(.ref bS)] .null) (V_bS : Arv Z h0 bS kc (.object "java/lang/String") (4096 : Int32) [(.ref s0)] .null) (O_bS : Ovr Z kc "java/lang/String") (g_t : n0 ≤ t) (g_bN : n0 ≤ bN) (g_bS : n0 ≤ bS) (E_nm : Exa Z h0 nm "java/lang/String") :
    own_M l (⟨"com/example/boxwood/boxwood/XmlNodeTable", "addText", "(Ljava/lang/String;II)V"⟩ : MethodName) prog_60_method_8_code 5 none ws ({ frames := 1, cells := 0, slots := 0, locals := 18 } : Room) Z #[(.ref t), (.ref nm), (.int p1), (.int p2)] h0 (Q_text_1 Z t nm aN bN aS bS p1 p2 ac kN kb kS kc x0 x1 x2 x3 x4 x5 x6 s0 h0 n0) := by
  refine own_body (own := "com/example/boxwood/boxwood/XmlNodeTable") rfl (plainFor_of_name pn_12) (fun m => ef_text_1 m t nm p1 p2) ?_
  intro p e s m below meth c s₁ Bd hml hZ hh hx hby hown X0 e0
  have N0 := Fr.nil n0
  have lt7 : h0.size > t := E_t.lt
  have lt8 : h0.size > aN := V_aN.lt
  have lt9 : h0.size > bN := V_bN.lt
  have lt10 : h0.size > aS := V_aS.lt
  have lt11 : h0.size > bS := V_bS.lt
  have lt12 : h0.size > nm := E_nm.lt
  refine own_aloadN X0.here hx hby d12_0 rfl rfl ?_
  refine own_iconst X0.here hx hby d12_1 (v := (1 : Int32)) (by decide) ?_
  refine own_iloadN X0.here hx hby d12_2 rfl ?_
  refine own_iloadN X0.here hx hby d12_3 rfl ?_
  refine own_private X0 hx hZ hown (own_w hw 64 rfl) (own_w hw 65 rfl) (own_w hw 35 rfl) (own_w hw 66 rfl) (own_w hw 36 rfl) (own_w hw 67 rfl) (by decide) (add_1 l Z a0 hw [] t aN bN (1 : Int32) p1 p2 ac kN kb x0 x1 x2 x3 x4 x5 x6 aS h0 n0 Z0 E_t F_size_t F_numbers_t F_attributeCount_t V_aN V_bN g_t g_bN F_strings_t) 0 (Nat.le_of_eq rfl) (by decide) (by decide) (by rw [hml]; rfl) (argsL := [(.int 1), (.int p1), (.int p2)]) (st := []) E_t (lenOf pd_1 rfl) rfl rfl (by decide) (by decide) e0 hby d12_4 ?_
  intro T13 v13 L13 X13 hQ13
  obtain ⟨rfl, Nq13, K13, P13_0, P13_1, P13_2, P13_3, P13_4, P13_5⟩ := hQ13
  have N13 := Fr.app N0 Nq13
  have z14 : h0.size ≤ T13.heap.size := K13.1
  have lt15 : T13.heap.size > t := P13_0.lt
  have lt16 : T13.heap.size > bN := P13_4.lt
  refine own_sh (T := T13) 7 #[.val (.ref t), .val (.ref nm), .val (.int p1), .val (.int p2), .unset] [(.int 1)] ?_
  refine own_istore X13.here hx hby d12_7 (l' := #[.val (.ref t), .val (.ref nm), .val (.int p1), .val (.int p2), .val (.int 1)]) rfl ?_
  refine own_aloadN X13.here hx hby d12_9 rfl rfl ?_
  refine own_getF X13 hx hZ hown (host := "") (Or.inl (own_w hw 47 rfl)) Via.refl rfl P13_5 hby d12_10 ?_
  intro T17 X17 e17
  refine own_iload X17.here hx hby d12_13 rfl ?_
  refine own_bipush X17.here hx hby d12_15 (v := (12 : Int32)) (by decide) ?_
  refine own_iushr X17.here hx hby d12_17 (v := (0 : Int32)) (by decide) ?_
  have f18 : Arv Z T13.heap aS kS (.array (.object "java/lang/String")) (1 : Int32) [(.ref bS)] .null := (V_aS.keep K13 (ninS (Ne.symm (own_ne_oa E_t (own_w hw 35 rfl) V_aS)) (ninS (own_ne_aa V_aS V_bN (by decide)) nin0)))
  refine own_aaload X17 hx hZ e17 f18 rfl ⟨by decide, by decide⟩ (v := (.ref bS)) rfl hby d12_18 ?_
  refine own_iload X17.here hx hby d12_19 rfl ?_
  refine own_sipush X17.here hx hby d12_21 (v := (4095 : Int32)) (by decide) ?_
  refine own_iand X17.here hx hby d12_24 (v := (1 : Int32)) (by decide) ?_
  refine own_aloadN X17.here hx hby d12_25 rfl rfl ?_
  have f19 : Arv Z T13.heap bS kc (.object "java/lang/String") (4096 : Int32) [(.ref s0)] .null := (V_bS.keep K13 (ninS (Ne.symm (own_ne_oa E_t (own_w hw 35 rfl) V_bS)) (ninS (own_ne_aa V_bS V_bN (by decide)) nin0)))
  have V21 : Arv Z T13.heap bS kc (.object "java/lang/String") (4096 : Int32) [(.ref s0), .null] .null := f19.pad (pad_rep [(.ref s0)] .null 1)
  have f22 : Exa Z T13.heap nm "java/lang/String" := (E_nm.keep K13)
  refine own_aastore X17 hx hZ e17 V21 rfl rfl (own_stoV V21 O_bS (Ins.self f22)) ⟨by decide, by decide⟩ 1 (by decide) (Nat.le_of_ble_eq_true rfl) hby d12_26 N13 g_bS ?_
  intro T20 h20 lo20 X20 e20 N20 W20 V20 z20
  have V23 : Arv Z h20 bS kc (.object "java/lang/String") (4096 : Int32) [(.ref s0), (.ref nm)] .null := V20
  have K24 : Keep h0 h20 [t, bN, bS] := (((Keep.refl h0 [t, bN, bS]).trans K13 (allS (P := fun xq_ => xq_ ∈ [t, bN, bS] ∨ h0.size ≤ xq_) (Or.inl (List.mem_of_getElem? (i := 0) rfl)) (allS (P := fun xq_ => xq_ ∈ [t, bN, bS] ∨ h0.size ≤ xq_) (Or.inl (List.mem_of_getElem? (i := 1) rfl)) all0))).wr W20 (Or.inl (List.mem_of_getElem? (i := 2) rfl)))
  have f25 : Exa Z h20 t "com/example/boxwood/boxwood/XmlNodeTable" := (P13_0.wr W20)
  have f26 : Fld Z h20 t "com/example/boxwood/boxwood/XmlNodeTable" "size" "I" (.int 2) := (P13_1.other W20 (Or.inl (own_ne_oa E_t (own_w hw 35 rfl) V_bS)))
  have f27 : Fld Z h20 t "com/example/boxwood/boxwood/XmlNodeTable" "numbers" "[[I" (.ref aN) := (P13_2.other W20 (Or.inl (own_ne_oa E_t (own_w hw 35 rfl) V_bS)))
  have f28 : Fld Z h20 t "com/example/boxwood/boxwood/XmlNodeTable" "strings" "[[Ljava/lang/String;" (.ref aS) := (P13_5.other W20 (Or.inl (own_ne_oa E_t (own_w hw 35 rfl) V_bS)))
  have f29 : Fld Z h20 t "com/example/boxwood/boxwood/XmlNodeTable" "attributeCount" "I" (.int ac) := (P13_3.other W20 (Or.inl (own_ne_oa E_t (own_w hw 35 rfl) V_bS)))
  have f30 : Arv Z h20 bN kb .int (28672 : Int32) [(.int x0), (.int x1), (.int x2), (.int x3), (.int x4), (.int x5), (.int x6), (.int 1), (.int p1), (.int p2), (.int 2), (.int 0), (.int 0), (.int ac)] (.int 0) := (P13_4.other W20 (own_ne_aa V_bN V_bS (by decide)))
  obtain ⟨fs, hr, hrun, hended, hW, hsame⟩ := X20.leave (v := none) (fun _ => rfl)
  refine own_ret (t := T20.setFrames fs) ?_ ⟨_, hrun, hended, _, _, rfl, ?_, ⟨_, rfl⟩, hW, hsame.mono (by decide) (by decide)⟩
  · exact X20.returnOut hx Bd.returns (hb hby d12_27) hr
  · show Q_text_1 Z _ _ _ _ _ _ _ _ _ _ _ _ _ _ _ _ _ _ _ _ _ h0 n0 _ T20.heap _
    rw [e20]
    exact ⟨rfl, N20, K24, f25, f26, f27, f28, f29, f30, V23⟩
theorem ef_verb_1 (m : MethodId) (x0 : Nat) (x1 : Int32) (x2 : Int32) : entryFrame m #[(.ref x0), (.int x1), (.int x2)] 3 = mkF m 0 #[.val (.ref x0), .val (.int x1), .val (.int x2)] [] := by first | (simp [entryFrame, mkF, argsToLocals, Value.category]; done) | rfl
theorem pn_13 : plainName "com/example/boxwood/boxwood/XmlNodeTable" = true := by first | (simp [plainName, overriddenIn]; done) | decide +kernel
theorem d13_0 : decode prog_60_method_9_code 0 = .ok (.aload_n 0, 1) := by decide +kernel
theorem d13_1 : decode prog_60_method_9_code 1 = .ok (.iconst 2, 1) := by decide +kernel
theorem d13_2 : decode prog_60_method_9_code 2 = .ok (.iload_n 1, 1) := by decide +kernel
theorem d13_3 : decode prog_60_method_9_code 3 = .ok (.iload_n 2, 1) := by decide +kernel
theorem d13_4 : decode prog_60_method_9_code 4 = .ok (.invokevirtual 37, 3) := by decide +kernel
theorem d13_7 : decode prog_60_method_9_code 7 = .ok (.pop, 1) := by decide +kernel
theorem d13_8 : decode prog_60_method_9_code 8 = .ok (.return_, 1) := by decide +kernel
def Q_verb_1 (Z : State) (t : Nat) (aN : Nat) (bN : Nat) (p1 : Int32) (p2 : Int32) (ac : Int32) (kN : ClassId) (kb : ClassId) (x0 : Int32) (x1 : Int32) (x2 : Int32) (x3 : Int32) (x4 : Int32) (x5 : Int32) (x6 : Int32) (aS : Nat) (h0 : Heap) (n0 : Nat) (vR : Option Value) (hR : Heap) (LR : List Loc) : Prop := vR = none ∧ Fr n0 LR ∧ Keep h0 hR [t, bN] ∧ (Exa Z hR t "com/example/boxwood/boxwood/XmlNodeTable") ∧ (Fld Z hR t "com/example/boxwood/boxwood/XmlNodeTable" "size" "I" (.int 2)) ∧ (Fld Z hR t "com/example/boxwood/boxwood/XmlNodeTable" "numbers" "[[I" (.ref aN)) ∧ (Fld Z hR t "com/example/boxwood/boxwood/XmlNodeTable" "attributeCount" "I" (.int ac)) ∧ (Arv Z hR bN kb .int (28672 : Int32) [(.int x0), (.int x1), (.int x2), (.int x3), (.int x4), (.int x5), (.int x6), (.int 2), (.int p1), (.int p2), (.int 2), (.int 0), (.int 0), (.int ac)] (.int 0)) ∧ (Fld Z hR t "com/example/boxwood/boxwood/XmlNodeTable" "strings" "[[Ljava/lang/String;" (.ref aS))
set_option maxRecDepth 65536 in
set_option maxHeartbeats 40000000 in
theorem verb_1 (l : Launch) (Z : State) (a0 : Array Value) (hw : ∀ d ∈ tables_1, d.before a0 Z = true) (ws : List Jvm.Cond) (t : Nat) (aN : Nat) (bN : Nat) (p1 : Int32) (p2 : Int32) (ac : Int32) (kN : ClassId) (kb : ClassId) (x0 : Int32) (x1 : Int32) (x2 : Int32) (x3 : Int32) (x4 : Int32) (x5 : Int32) (x6 : Int32) (aS : Nat) (h0 : Heap) (n0 : Nat) (Z0 : n0 ≤ h0.size) (E_t : Exa Z h0 t "com/example/boxwood/boxwood/XmlNodeTable") (F_size_t : Fld Z h0 t "com/example/boxwood/boxwood/XmlNodeTable" "size" "I" (.int 1)) (F_numbers_t : Fld Z h0 t "com/example/boxwood/boxwood/XmlNodeTable" "numbers" "[[I" (.ref aN)) (F_attributeCount_t : Fld Z h0 t "com/example/boxwood/boxwood/XmlNodeTable" "attributeCount" "I" (.int ac)) (V_aN : Arv Z h0 aN kN (.array .int) (1 : Int32) [(.ref bN)] .null) (V_bN : Arv Z h0 bN kb .int (28672 : Int32) [(.int x0), (.int x1), (.int x2), (.int x3), (.int x4), (.int x5), (.int x6)] (.int 0)) (g_t : n0 ≤ t) (g_bN : n0 ≤ bN) (F_strings_t : Fld Z h0 t "com/example/boxwood/boxwood/XmlNodeTable" "strings" "[[Ljava/lang/String;" (.ref aS)) :
    own_M l (⟨"com/example/boxwood/boxwood/XmlNodeTable", "addVerbatim", "(II)V"⟩ : MethodName) prog_60_method_9_code 3 none ws ({ frames := 1, cells := 0, slots := 0, locals := 18 } : Room) Z #[(.ref t), (.int p1), (.int p2)] h0 (Q_verb_1 Z t aN bN p1 p2 ac kN kb x0 x1 x2 x3 x4 x5 x6 aS h0 n0) := by
  refine own_body (own := "com/example/boxwood/boxwood/XmlNodeTable") rfl (plainFor_of_name pn_13) (fun m => ef_verb_1 m t p1 p2) ?_
  intro p e s m below meth c s₁ Bd hml hZ hh hx hby hown X0 e0
  have N0 := Fr.nil n0
  have lt7 : h0.size > t := E_t.lt
  have lt8 : h0.size > aN := V_aN.lt
  have lt9 : h0.size > bN := V_bN.lt
  refine own_aloadN X0.here hx hby d13_0 rfl rfl ?_
  refine own_iconst X0.here hx hby d13_1 (v := (2 : Int32)) (by decide) ?_
  refine own_iloadN X0.here hx hby d13_2 rfl ?_
  refine own_iloadN X0.here hx hby d13_3 rfl ?_
  refine own_private X0 hx hZ hown (own_w hw 64 rfl) (own_w hw 65 rfl) (own_w hw 35 rfl) (own_w hw 66 rfl) (own_w hw 36 rfl) (own_w hw 67 rfl) (by decide) (add_1 l Z a0 hw [] t aN bN (2 : Int32) p1 p2 ac kN kb x0 x1 x2 x3 x4 x5 x6 aS h0 n0 Z0 E_t F_size_t F_numbers_t F_attributeCount_t V_aN V_bN g_t g_bN F_strings_t) 0 (Nat.le_of_eq rfl) (by decide) (by decide) (by rw [hml]; rfl) (argsL := [(.int 2), (.int p1), (.int p2)]) (st := []) E_t (lenOf pd_1 rfl) rfl rfl (by decide) (by decide) e0 hby d13_4 ?_
  intro T10 v10 L10 X10 hQ10
  obtain ⟨rfl, Nq10, K10, P10_0, P10_1, P10_2, P10_3, P10_4, P10_5⟩ := hQ10
  have N10 := Fr.app N0 Nq10
  have z11 : h0.size ≤ T10.heap.size := K10.1
  have lt12 : T10.heap.size > t := P10_0.lt
  have lt13 : T10.heap.size > bN := P10_4.lt
  refine own_sh (T := T10) 7 #[.val (.ref t), .val (.int p1), .val (.int p2)] [(.int 1)] ?_
  refine own_pop X10.here hx hby d13_7 rfl ?_
  have K14 : Keep h0 T10.heap [t, bN] := ((Keep.refl h0 [t, bN]).trans K10 (allS (P := fun xq_ => xq_ ∈ [t, bN] ∨ h0.size ≤ xq_) (Or.inl (List.mem_of_getElem? (i := 0) rfl)) (allS (P := fun xq_ => xq_ ∈ [t, bN] ∨ h0.size ≤ xq_) (Or.inl (List.mem_of_getElem? (i := 1) rfl)) all0)))
  obtain ⟨fs, hr, hrun, hended, hW, hsame⟩ := X10.leave (v := none) (fun _ => rfl)
  refine own_ret (t := T10.setFrames fs) ?_ ⟨_, hrun, hended, _, _, rfl, ?_, ⟨_, rfl⟩, hW, hsame.mono (by decide) (by decide)⟩
  · exact X10.returnOut hx Bd.returns (hb hby d13_8) hr
  · show Q_verb_1 Z _ _ _ _ _ _ _ _ _ _ _ _ _ _ _ _ h0 n0 _ T10.heap _
    exact ⟨rfl, N10, K14, P10_0, P10_1, P10_2, P10_3, P10_4, P10_5⟩
def Q_verb_2 (Z : State) (t : Nat) (aN : Nat) (bN : Nat) (p1 : Int32) (p2 : Int32) (ac : Int32) (kN : ClassId) (kb : ClassId) (x0 : Int32) (x1 : Int32) (x2 : Int32) (x3 : Int32) (x4 : Int32) (x5 : Int32) (x6 : Int32) (x7 : Int32) (x8 : Int32) (x9 : Int32) (x10 : Int32) (x11 : Int32) (x12 : Int32) (x13 : Int32) (aS : Nat) (h0 : Heap) (n0 : Nat) (vR : Option Value) (hR : Heap) (LR : List Loc) : Prop := vR = none ∧ Fr n0 LR ∧ Keep h0 hR [t, bN] ∧ (Exa Z hR t "com/example/boxwood/boxwood/XmlNodeTable") ∧ (Fld Z hR t "com/example/boxwood/boxwood/XmlNodeTable" "size" "I" (.int 3)) ∧ (Fld Z hR t "com/example/boxwood/boxwood/XmlNodeTable" "numbers" "[[I" (.ref aN)) ∧ (Fld Z hR t "com/example/boxwood/boxwood/XmlNodeTable" "attributeCount" "I" (.int ac)) ∧ (Arv Z hR bN kb .int (28672 : Int32) [(.int x0), (.int x1), (.int x2), (.int x3), (.int x4), (.int x5), (.int x6), (.int x7), (.int x8), (.int x9), (.int x10), (.int x11), (.int x12), (.int x13), (.int 2), (.int p1), (.int p2), (.int 3), (.int 0), (.int 0), (.int ac)] (.int 0)) ∧ (Fld Z hR t "com/example/boxwood/boxwood/XmlNodeTable" "strings" "[[Ljava/lang/String;" (.ref aS))
set_option maxRecDepth 65536 in
set_option maxHeartbeats 40000000 in
theorem verb_2 (l : Launch) (Z : State) (a0 : Array Value) (hw : ∀ d ∈ tables_1, d.before a0 Z = true) (ws : List Jvm.Cond) (t : Nat) (aN : Nat) (bN : Nat) (p1 : Int32) (p2 : Int32) (ac : Int32) (kN : ClassId) (kb : ClassId) (x0 : Int32) (x1 : Int32) (x2 : Int32) (x3 : Int32) (x4 : Int32) (x5 : Int32) (x6 : Int32) (x7 : Int32) (x8 : Int32) (x9 : Int32) (x10 : Int32) (x11 : Int32) (x12 : Int32) (x13 : Int32) (aS : Nat) (h0 : Heap) (n0 : Nat) (Z0 : n0 ≤ h0.size) (E_t : Exa Z h0 t "com/example/boxwood/boxwood/XmlNodeTable") (F_size_t : Fld Z h0 t "com/example/boxwood/boxwood/XmlNodeTable" "size" "I" (.int 2)) (F_numbers_t : Fld Z h0 t "com/example/boxwood/boxwood/XmlNodeTable" "numbers" "[[I" (.ref aN)) (F_attributeCount_t : Fld Z h0 t "com/example/boxwood/boxwood/XmlNodeTable" "attributeCount" "I" (.int ac)) (V_aN : Arv Z h0 aN kN (.array .int) (1 : Int32) [(.ref bN)] .null) (V_bN : Arv Z h0 bN kb .int (28672 : Int32) [(.int x0), (.int x1), (.int x2), (.int x3), (.int x4), (.int x5), (.int x6), (.int x7), (.int x8), (.int x9), (.int x10), (.int x11), (.int x12), (.int x13)] (.int 0)) (g_t : n0 ≤ t) (g_bN : n0 ≤ bN) (F_strings_t : Fld Z h0 t "com/example/boxwood/boxwood/XmlNodeTable" "strings" "[[Ljava/lang/String;" (.ref aS)) :
    own_M l (⟨"com/example/boxwood/boxwood/XmlNodeTable", "addVerbatim", "(II)V"⟩ : MethodName) prog_60_method_9_code 3 none ws ({ frames := 1, cells := 0, slots := 0, locals := 18 } : Room) Z #[(.ref t), (.int p1), (.int p2)] h0 (Q_verb_2 Z t aN bN p1 p2 ac kN kb x0 x1 x2 x3 x4 x5 x6 x7 x8 x9 x10 x11 x12 x13 aS h0 n0) := by
  refine own_body (own := "com/example/boxwood/boxwood/XmlNodeTable") rfl (plainFor_of_name pn_13) (fun m => ef_verb_1 m t p1 p2) ?_
  intro p e s m below meth c s₁ Bd hml hZ hh hx hby hown X0 e0
  have N0 := Fr.nil n0
  have lt14 : h0.size > t := E_t.lt
  have lt15 : h0.size > aN := V_aN.lt
  have lt16 : h0.size > bN := V_bN.lt
  refine own_aloadN X0.here hx hby d13_0 rfl rfl ?_
  refine own_iconst X0.here hx hby d13_1 (v := (2 : Int32)) (by decide) ?_
  refine own_iloadN X0.here hx hby d13_2 rfl ?_
  refine own_iloadN X0.here hx hby d13_3 rfl ?_
  refine own_private X0 hx hZ hown (own_w hw 64 rfl) (own_w hw 65 rfl) (own_w hw 35 rfl) (own_w hw 66 rfl) (own_w hw 36 rfl) (own_w hw 67 rfl) (by decide) (add_2 l Z a0 hw [] t aN bN (2 : Int32) p1 p2 ac kN kb x0 x1 x2 x3 x4 x5 x6 x7 x8 x9 x10 x11 x12 x13 aS h0 n0 Z0 E_t F_size_t F_numbers_t F_attributeCount_t V_aN V_bN g_t g_bN F_strings_t) 0 (Nat.le_of_eq rfl) (by decide) (by decide) (by rw [hml]; rfl) (argsL := [(.int 2), (.int p1), (.int p2)]) (st := []) E_t (lenOf pd_1 rfl) rfl rfl (by decide) (by decide) e0 hby d13_4 ?_
  intro T17 v17 L17 X17 hQ17
  obtain ⟨rfl, Nq17, K17, P17_0, P17_1, P17_2, P17_3, P17_4, P17_5⟩ := hQ17
  have N17 := Fr.app N0 Nq17
  have z18 : h0.size ≤ T17.heap.size := K17.1
  have lt19 : T17.heap.size > t := P17_0.lt
  have lt20 : T17.heap.size > bN := P17_4.lt
  refine own_sh (T := T17) 7 #[.val (.ref t), .val (.int p1), .val (.int p2)] [(.int 2)] ?_
  refine own_pop X17.here hx hby d13_7 rfl ?_
  have K21 : Keep h0 T17.heap [t, bN] := ((Keep.refl h0 [t, bN]).trans K17 (allS (P := fun xq_ => xq_ ∈ [t, bN] ∨ h0.size ≤ xq_) (Or.inl (List.mem_of_getElem? (i := 0) rfl)) (allS (P := fun xq_ => xq_ ∈ [t, bN] ∨ h0.size ≤ xq_) (Or.inl (List.mem_of_getElem? (i := 1) rfl)) all0)))
  obtain ⟨fs, hr, hrun, hended, hW, hsame⟩ := X17.leave (v := none) (fun _ => rfl)
  refine own_ret (t := T17.setFrames fs) ?_ ⟨_, hrun, hended, _, _, rfl, ?_, ⟨_, rfl⟩, hW, hsame.mono (by decide) (by decide)⟩
  · exact X17.returnOut hx Bd.returns (hb hby d13_8) hr
  · show Q_verb_2 Z _ _ _ _ _ _ _ _ _ _ _ _ _ _ _ _ _ _ _ _ _ _ _ h0 n0 _ T17.heap _
    exact ⟨rfl, N17, K21, P17_0, P17_1, P17_2, P17_3, P17_4, P17_5⟩
def Q_text_2 (Z : State) (t : Nat) (nm : Nat) (aN : Nat) (bN : Nat) (aS : Nat) (bS : Nat) (p1 : Int32) (p2 : Int32) (ac : Int32) (kN : ClassId) (kb : ClassId) (kS : ClassId) (kc : ClassId) (x0 : Int32) (x1 : Int32) (x2 : Int32) (x3 : Int32) (x4 : Int32) (x5 : Int32) (x6 : Int32) (x7 : Int32) (x8 : Int32) (x9 : Int32) (x10 : Int32) (x11 : Int32) (x12 : Int32) (x13 : Int32) (s0 : Nat) (h0 : Heap) (n0 : Nat) (vR : Option Value) (hR : Heap) (LR : List Loc) : Prop := vR = none ∧ Fr n0 LR ∧ Keep h0 hR [t, bN, bS] ∧ (Exa Z hR t "com/example/boxwood/boxwood/XmlNodeTable") ∧ (Fld Z hR t "com/example/boxwood/boxwood/XmlNodeTable" "size" "I" (.int 3)) ∧ (Fld Z hR t "com/example/boxwood/boxwood/XmlNodeTable" "numbers" "[[I" (.ref aN)) ∧ (Fld Z hR t "com/example/boxwood/boxwood/XmlNodeTable" "strings" "[[Ljava/lang/String;" (.ref aS)) ∧ (Fld Z hR t "com/example/boxwood/boxwood/XmlNodeTable" "attributeCount" "I" (.int ac)) ∧ (Arv Z hR bN kb .int (28672 : Int32) [(.int x0), (.int x1), (.int x2), (.int x3), (.int x4), (.int x5), (.int x6), (.int x7), (.int x8), (.int x9), (.int x10), (.int x11), (.int x12), (.int x13), (.int 1), (.int p1), (.int p2), (.int 3), (.int 0), (.int 0), (.int ac)] (.int 0)) ∧ (Arv Z hR bS kc (.object "java/lang/String") (4096 : Int32) [(.ref s0), .null, (.ref nm)] .null)
set_option maxRecDepth 65536 in
set_option maxHeartbeats 40000000 in
theorem text_2 (l : Launch) (Z : State) (a0 : Array Value) (hw : ∀ d ∈ tables_1, d.before a0 Z = true) (ws : List Jvm.Cond) (t : Nat) (nm : Nat) (aN : Nat) (bN : Nat) (aS : Nat) (bS : Nat) (p1 : Int32) (p2 : Int32) (ac : Int32) (kN : ClassId) (kb : ClassId) (kS : ClassId) (kc : ClassId) (x0 : Int32) (x1 : Int32) (x2 : Int32) (x3 : Int32) (x4 : Int32) (x5 : Int32) (x6 : Int32) (x7 : Int32) (x8 : Int32) (x9 : Int32) (x10 : Int32) (x11 : Int32) (x12 : Int32) (x13 : Int32) (s0 : Nat) (h0 : Heap) (n0 : Nat) (Z0 : n0 ≤ h0.size) (E_t : Exa Z h0 t "com/example/boxwood/boxwood/XmlNodeTable") (F_size_t : Fld Z h0 t "com/example/boxwood/boxwood/XmlNodeTable" "size" "I" (.int 2)) (F_numbers_t : Fld Z h0 t "com/example/boxwood/boxwood/XmlNodeTable" "numbers" "[[I" (.ref aN)) (F_attributeCount_t : Fld Z h0 t "com/example/boxwood/boxwood/XmlNodeTable" "attributeCount" "I" (.int ac)) (V_aN : Arv Z h0 aN kN (.array .int) (1 : Int32) [(.ref bN)] .null) (V_bN : Arv Z h0 bN kb .int (28672 : Int32) [(.int x0), (.int x1), (.int x2), (.int x3), (.int x4), (.int x5), (.int x6), (.int x7), (.int x8), (.int x9), (.int x10), (.int x11), (.int x12), (.int x13)] (.int 0)) (F_strings_t : Fld Z h0 t "com/example/boxwood/boxwood/XmlNodeTable" "strings" "[[Ljava/lang/String;" (.ref aS)) (V_aS : Arv Z h0 aS kS (.array (.object "java/lang/String")) (1 : Int32) [(.ref bS)] .null) (V_bS : Arv Z h0 bS kc (.object "java/lang/String") (4096 : Int32) [(.ref s0)] .null) (O_bS : Ovr Z kc "java/lang/String") (g_t : n0 ≤ t) (g_bN : n0 ≤ bN) (g_bS : n0 ≤ bS) (E_nm : Exa Z h0 nm "java/lang/String") :
    own_M l (⟨"com/example/boxwood/boxwood/XmlNodeTable", "addText", "(Ljava/lang/String;II)V"⟩ : MethodName) prog_60_method_8_code 5 none ws ({ frames := 1, cells := 0, slots := 0, locals := 18 } : Room) Z #[(.ref t), (.ref nm), (.int p1), (.int p2)] h0 (Q_text_2 Z t nm aN bN aS bS p1 p2 ac kN kb kS kc x0 x1 x2 x3 x4 x5 x6 x7 x8 x9 x10 x11 x12 x13 s0 h0 n0) := by
  refine own_body (own := "com/example/boxwood/boxwood/XmlNodeTable") rfl (plainFor_of_name pn_12) (fun m => ef_text_1 m t nm p1 p2) ?_
  intro p e s m below meth c s₁ Bd hml hZ hh hx hby hown X0 e0
  have N0 := Fr.nil n0
  have lt14 : h0.size > t := E_t.lt
  have lt15 : h0.size > aN := V_aN.lt
  have lt16 : h0.size > bN := V_bN.lt
  have lt17 : h0.size > aS := V_aS.lt
  have lt18 : h0.size > bS := V_bS.lt
  have lt19 : h0.size > nm := E_nm.lt
  refine own_aloadN X0.here hx hby d12_0 rfl rfl ?_
  refine own_iconst X0.here hx hby d12_1 (v := (1 : Int32)) (by decide) ?_
  refine own_iloadN X0.here hx hby d12_2 rfl ?_
  refine own_iloadN X0.here hx hby d12_3 rfl ?_
  refine own_private X0 hx hZ hown (own_w hw 64 rfl) (own_w hw 65 rfl) (own_w hw 35 rfl) (own_w hw 66 rfl) (own_w hw 36 rfl) (own_w hw 67 rfl) (by decide) (add_2 l Z a0 hw [] t aN bN (1 : Int32) p1 p2 ac kN kb x0 x1 x2 x3 x4 x5 x6 x7 x8 x9 x10 x11 x12 x13 aS h0 n0 Z0 E_t F_size_t F_numbers_t F_attributeCount_t V_aN V_bN g_t g_bN F_strings_t) 0 (Nat.le_of_eq rfl) (by decide) (by decide) (by rw [hml]; rfl) (argsL := [(.int 1), (.int p1), (.int p2)]) (st := []) E_t (lenOf pd_1 rfl) rfl rfl (by decide) (by decide) e0 hby d12_4 ?_
  intro T20 v20 L20 X20 hQ20
  obtain ⟨rfl, Nq20, K20, P20_0, P20_1, P20_2, P20_3, P20_4, P20_5⟩ := hQ20
  have N20 := Fr.app N0 Nq20
  have z21 : h0.size ≤ T20.heap.size := K20.1
  have lt22 : T20.heap.size > t := P20_0.lt
  have lt23 : T20.heap.size > bN := P20_4.lt
  refine own_sh (T := T20) 7 #[.val (.ref t), .val (.ref nm), .val (.int p1), .val (.int p2), .unset] [(.int 2)] ?_
  refine own_istore X20.here hx hby d12_7 (l' := #[.val (.ref t), .val (.ref nm), .val (.int p1), .val (.int p2), .val (.int 2)]) rfl ?_
  refine own_aloadN X20.here hx hby d12_9 rfl rfl ?_
  refine own_getF X20 hx hZ hown (host := "") (Or.inl (own_w hw 47 rfl)) Via.refl rfl P20_5 hby d12_10 ?_
  intro T24 X24 e24
  refine own_iload X24.here hx hby d12_13 rfl ?_
  refine own_bipush X24.here hx hby d12_15 (v := (12 : Int32)) (by decide) ?_
  refine own_iushr X24.here hx hby d12_17 (v := (0 : Int32)) (by decide) ?_
  have f25 : Arv Z T20.heap aS kS (.array (.object "java/lang/String")) (1 : Int32) [(.ref bS)] .null := (V_aS.keep K20 (ninS (Ne.symm (own_ne_oa E_t (own_w hw 35 rfl) V_aS)) (ninS (own_ne_aa V_aS V_bN (by decide)) nin0)))
  refine own_aaload X24 hx hZ e24 f25 rfl ⟨by decide, by decide⟩ (v := (.ref bS)) rfl hby d12_18 ?_
  refine own_iload X24.here hx hby d12_19 rfl ?_
  refine own_sipush X24.here hx hby d12_21 (v := (4095 : Int32)) (by decide) ?_
  refine own_iand X24.here hx hby d12_24 (v := (2 : Int32)) (by decide) ?_
  refine own_aloadN X24.here hx hby d12_25 rfl rfl ?_
  have f26 : Arv Z T20.heap bS kc (.object "java/lang/String") (4096 : Int32) [(.ref s0)] .null := (V_bS.keep K20 (ninS (Ne.symm (own_ne_oa E_t (own_w hw 35 rfl) V_bS)) (ninS (own_ne_aa V_bS V_bN (by decide)) nin0)))
  have V28 : Arv Z T20.heap bS kc (.object "java/lang/String") (4096 : Int32) [(.ref s0), .null, .null] .null := f26.pad (pad_rep [(.ref s0)] .null 2)
  have f29 : Exa Z T20.heap nm "java/lang/String" := (E_nm.keep K20)
  refine own_aastore X24 hx hZ e24 V28 rfl rfl (own_stoV V28 O_bS (Ins.self f29)) ⟨by decide, by decide⟩ 2 (by decide) (Nat.le_of_ble_eq_true rfl) hby d12_26 N20 g_bS ?_
  intro T27 h27 lo27 X27 e27 N27 W27 V27 z27
  have V30 : Arv Z h27 bS kc (.object "java/lang/String") (4096 : Int32) [(.ref s0), .null, (.ref nm)] .null := V27
  have K31 : Keep h0 h27 [t, bN, bS] := (((Keep.refl h0 [t, bN, bS]).trans K20 (allS (P := fun xq_ => xq_ ∈ [t, bN, bS] ∨ h0.size ≤ xq_) (Or.inl (List.mem_of_getElem? (i := 0) rfl)) (allS (P := fun xq_ => xq_ ∈ [t, bN, bS] ∨ h0.size ≤ xq_) (Or.inl (List.mem_of_getElem? (i := 1) rfl)) all0))).wr W27 (Or.inl (List.mem_of_getElem? (i := 2) rfl)))
  have f32 : Exa Z h27 t "com/example/boxwood/boxwood/XmlNodeTable" := (P20_0.wr W27)
  have f33 : Fld Z h27 t "com/example/boxwood/boxwood/XmlNodeTable" "size" "I" (.int 3) := (P20_1.other W27 (Or.inl (own_ne_oa E_t (own_w hw 35 rfl) V_bS)))
  have f34 : Fld Z h27 t "com/example/boxwood/boxwood/XmlNodeTable" "numbers" "[[I" (.ref aN) := (P20_2.other W27 (Or.inl (own_ne_oa E_t (own_w hw 35 rfl) V_bS)))
  have f35 : Fld Z h27 t "com/example/boxwood/boxwood/XmlNodeTable" "strings" "[[Ljava/lang/String;" (.ref aS) := (P20_5.other W27 (Or.inl (own_ne_oa E_t (own_w hw 35 rfl) V_bS)))
  have f36 : Fld Z h27 t "com/example/boxwood/boxwood/XmlNodeTable" "attributeCount" "I" (.int ac) := (P20_3.other W27 (Or.inl (own_ne_oa E_t (own_w hw 35 rfl) V_bS)))
  have f37 : Arv Z h27 bN kb .int (28672 : Int32) [(.int x0), (.int x1), (.int x2), (.int x3), (.int x4), (.int x5), (.int x6), (.int x7), (.int x8), (.int x9), (.int x10), (.int x11), (.int x12), (.int x13), (.int 1), (.int p1), (.int p2), (.int 3), (.int 0), (.int 0), (.int ac)] (.int 0) := (P20_4.other W27 (own_ne_aa V_bN V_bS (by decide)))
  obtain ⟨fs, hr, hrun, hended, hW, hsame⟩ := X27.leave (v := none) (fun _ => rfl)
  refine own_ret (t := T27.setFrames fs) ?_ ⟨_, hrun, hended, _, _, rfl, ?_, ⟨_, rfl⟩, hW, hsame.mono (by decide) (by decide)⟩
  · exact X27.returnOut hx Bd.returns (hb hby d12_27) hr
  · show Q_text_2 Z _ _ _ _ _ _ _ _ _ _ _ _ _ _ _ _ _ _ _ _ _ _ _ _ _ _ _ _ h0 n0 _ T27.heap _
    rw [e27]
    exact ⟨rfl, N27, K31, f32, f33, f34, f35, f36, f37, V30⟩
theorem ef_get_0_0_21 (m : MethodId) (x0 : Nat) (x1 : Int32) (x2 : Int32) : entryFrame m #[(.ref x0), (.int x1), (.int x2)] 3 = mkF m 0 #[.val (.ref x0), .val (.int x1), .val (.int x2)] [] := by first | (simp [entryFrame, mkF, argsToLocals, Value.category]; done) | rfl
theorem pn_15 : plainName "com/example/boxwood/boxwood/XmlNodeTable" = true := by first | (simp [plainName, overriddenIn]; done) | decide +kernel
theorem d15_0 : decode prog_60_method_26_code 0 = .ok (.aload_n 0, 1) := by decide +kernel
theorem d15_1 : decode prog_60_method_26_code 1 = .ok (.getfield 11, 3) := by decide +kernel
theorem d15_4 : decode prog_60_method_26_code 4 = .ok (.iload_n 1, 1) := by decide +kernel
theorem d15_5 : decode prog_60_method_26_code 5 = .ok (.bipush 12, 2) := by decide +kernel
theorem d15_7 : decode prog_60_method_26_code 7 = .ok (.iushr, 1) := by decide +kernel
theorem d15_8 : decode prog_60_method_26_code 8 = .ok (.aaload, 1) := by decide +kernel
theorem d15_9 : decode prog_60_method_26_code 9 = .ok (.iload_n 1, 1) := by decide +kernel
theorem d15_10 : decode prog_60_method_26_code 10 = .ok (.sipush 4095, 3) := by decide +kernel
theorem d15_13 : decode prog_60_method_26_code 13 = .ok (.iand, 1) := by decide +kernel
theorem d15_14 : decode prog_60_method_26_code 14 = .ok (.bipush 7, 2) := by decide +kernel
theorem d15_16 : decode prog_60_method_26_code 16 = .ok (.imul, 1) := by decide +kernel
theorem d15_17 : decode prog_60_method_26_code 17 = .ok (.iload_n 2, 1) := by decide +kernel
theorem d15_18 : decode prog_60_method_26_code 18 = .ok (.iadd, 1) := by decide +kernel
theorem d15_19 : decode prog_60_method_26_code 19 = .ok (.iaload, 1) := by decide +kernel
theorem d15_20 : decode prog_60_method_26_code 20 = .ok (.ireturn, 1) := by decide +kernel
def Q_get_0_0_21 (Z : State) (t : Nat) (aN : Nat) (bN : Nat) (kN : ClassId) (kb : ClassId) (x0 : Int32) (x1 : Int32) (x2 : Int32) (x3 : Int32) (x4 : Int32) (x5 : Int32) (x6 : Int32) (x7 : Int32) (x8 : Int32) (x9 : Int32) (x10 : Int32) (x11 : Int32) (x12 : Int32) (x13 : Int32) (x14 : Int32) (x15 : Int32) (x16 : Int32) (x17 : Int32) (x18 : Int32) (x19 : Int32) (x20 : Int32) (h0 : Heap) (n0 : Nat) (vR : Option Value) (hR : Heap) (LR : List Loc) : Prop := vR = some (.int x0) ∧ Fr n0 LR ∧ hR = h0
set_option maxRecDepth 65536 in
set_option maxHeartbeats 40000000 in
theorem get_0_0_21 (l : Launch) (Z : State) (a0 : Array Value) (hw : ∀ d ∈ tables_1, d.before a0 Z = true) (ws : List Jvm.Cond) (t : Nat) (aN : Nat) (bN : Nat) (kN : ClassId) (kb : ClassId) (x0 : Int32) (x1 : Int32) (x2 : Int32) (x3 : Int32) (x4 : Int32) (x5 : Int32) (x6 : Int32) (x7 : Int32) (x8 : Int32) (x9 : Int32) (x10 : Int32) (x11 : Int32) (x12 : Int32) (x13 : Int32) (x14 : Int32) (x15 : Int32) (x16 : Int32) (x17 : Int32) (x18 : Int32) (x19 : Int32) (x20 : Int32) (h0 : Heap) (n0 : Nat) (Z0 : n0 ≤ h0.size) (F_numbers_t : Fld Z h0 t "com/example/boxwood/boxwood/XmlNodeTable" "numbers" "[[I" (.ref aN)) (V_aN : Arv Z h0 aN kN (.array .int) (1 : Int32) [(.ref bN)] .null) (V_bN : Arv Z h0 bN kb .int (28672 : Int32) [(.int x0), (.int x1), (.int x2), (.int x3), (.int x4), (.int x5), (.int x6), (.int x7), (.int x8), (.int x9), (.int x10), (.int x11), (.int x12), (.int x13), (.int x14), (.int x15), (.int x16), (.int x17), (.int x18), (.int x19), (.int x20)] (.int 0)) :
    own_M l (⟨"com/example/boxwood/boxwood/XmlNodeTable", "get", "(II)I"⟩ : MethodName) prog_60_method_26_code 3 (some .int) ws ({ frames := 0, cells := 0, slots := 0, locals := 0 } : Room) Z #[(.ref t), (.int 0), (.int 0)] h0 (Q_get_0_0_21 Z t aN bN kN kb x0 x1 x2 x3 x4 x5 x6 x7 x8 x9 x10 x11 x12 x13 x14 x15 x16 x17 x18 x19 x20 h0 n0) := by
  refine own_body (own := "com/example/boxwood/boxwood/XmlNodeTable") rfl (plainFor_of_name pn_15) (fun m => ef_get_0_0_21 m t (0 : Int32) (0 : Int32)) ?_
  intro p e s m below meth c s₁ Bd hml hZ hh hx hby hown X0 e0
  have N0 := Fr.nil n0
  have lt21 : h0.size > t := F_numbers_t.lt
  have lt22 : h0.size > aN := V_aN.lt
  have lt23 : h0.size > bN := V_bN.lt
  refine own_aloadN X0.here hx hby d15_0 rfl rfl ?_
  refine own_getF X0 hx hZ hown (host := "") (Or.inl (own_w hw 43 rfl)) Via.refl e0 F_numbers_t hby d15_1 ?_
  intro T24 X24 e24
  refine own_iloadN X24.here hx hby d15_4 rfl ?_
  refine own_bipush X24.here hx hby d15_5 (v := (12 : Int32)) (by decide) ?_
  refine own_iushr X24.here hx hby d15_7 (v := (0 : Int32)) (by decide) ?_
  refine own_aaload X24 hx hZ e24 V_aN rfl ⟨by decide, by decide⟩ (v := (.ref bN)) rfl hby d15_8 ?_
  refine own_iloadN X24.here hx hby d15_9 rfl ?_
  refine own_sipush X24.here hx hby d15_10 (v := (4095 : Int32)) (by decide) ?_
  refine own_iand X24.here hx hby d15_13 (v := (0 : Int32)) (by decide) ?_
  refine own_bipush X24.here hx hby d15_14 (v := (7 : Int32)) (by decide) ?_
  refine own_imul X24.here hx hby d15_16 (v := (0 : Int32)) (by decide) ?_
  refine own_iloadN X24.here hx hby d15_17 rfl ?_
  refine own_iadd X24.here hx hby d15_18 (v := (0 : Int32)) (by decide) ?_
  refine own_iaload X24 hx hZ e24 V_bN ⟨by decide, by decide⟩ (v := (.int x0)) rfl hby d15_19 ?_
  obtain ⟨fs, hr, hrun, hended, hW, hsame⟩ := X24.leave (v := some (.int x0)) (fun h => by rw [Bd.returns] at h; cases h)
  refine own_ret (t := T24.setFrames fs) ?_ ⟨_, hrun, hended, _, _, rfl, ?_, ⟨_, rfl⟩, hW, hsame.mono (by decide) (by decide)⟩
  · exact retOut X24 hx Bd.returns rfl (Or.inl ⟨rfl, Or.inl rfl, _, rfl⟩) (hb hby d15_20) hr
  · show Q_get_0_0_21 Z _ _ _ _ _ _ _ _ _ _ _ _ _ _ _ _ _ _ _ _ _ _ _ _ _ _ h0 n0 _ T24.heap _
    rw [e24]
    exact ⟨rfl, N0, rfl⟩
def Q_set_0_0_21 (Z : State) (t : Nat) (aN : Nat) (bN : Nat) (p3 : Int32) (kN : ClassId) (kb : ClassId) (x0 : Int32) (x1 : Int32) (x2 : Int32) (x3 : Int32) (x4 : Int32) (x5 : Int32) (x6 : Int32) (x7 : Int32) (x8 : Int32) (x9 : Int32) (x10 : Int32) (x11 : Int32) (x12 : Int32) (x13 : Int32) (x14 : Int32) (x15 : Int32) (x16 : Int32) (x17 : Int32) (x18 : Int32) (x19 : Int32) (x20 : Int32) (h0 : Heap) (n0 : Nat) (vR : Option Value) (hR : Heap) (LR : List Loc) : Prop := vR = none ∧ Fr n0 LR ∧ Keep h0 hR [bN] ∧ (Arv Z hR bN kb .int (28672 : Int32) [(.int p3), (.int x1), (.int x2), (.int x3), (.int x4), (.int x5), (.int x6), (.int x7), (.int x8), (.int x9), (.int x10), (.int x11), (.int x12), (.int x13), (.int x14), (.int x15), (.int x16), (.int x17), (.int x18), (.int x19), (.int x20)] (.int 0))
set_option maxRecDepth 65536 in
set_option maxHeartbeats 40000000 in
theorem set_0_0_21 (l : Launch) (Z : State) (a0 : Array Value) (hw : ∀ d ∈ tables_1, d.before a0 Z = true) (ws : List Jvm.Cond) (t : Nat) (aN : Nat) (bN : Nat) (p3 : Int32) (kN : ClassId) (kb : ClassId) (x0 : Int32) (x1 : Int32) (x2 : Int32) (x3 : Int32) (x4 : Int32) (x5 : Int32) (x6 : Int32) (x7 : Int32) (x8 : Int32) (x9 : Int32) (x10 : Int32) (x11 : Int32) (x12 : Int32) (x13 : Int32) (x14 : Int32) (x15 : Int32) (x16 : Int32) (x17 : Int32) (x18 : Int32) (x19 : Int32) (x20 : Int32) (h0 : Heap) (n0 : Nat) (Z0 : n0 ≤ h0.size) (F_numbers_t : Fld Z h0 t "com/example/boxwood/boxwood/XmlNodeTable" "numbers" "[[I" (.ref aN)) (V_aN : Arv Z h0 aN kN (.array .int) (1 : Int32) [(.ref bN)] .null) (V_bN : Arv Z h0 bN kb .int (28672 : Int32) [(.int x0), (.int x1), (.int x2), (.int x3), (.int x4), (.int x5), (.int x6), (.int x7), (.int x8), (.int x9), (.int x10), (.int x11), (.int x12), (.int x13), (.int x14), (.int x15), (.int x16), (.int x17), (.int x18), (.int x19), (.int x20)] (.int 0)) (g_bN : n0 ≤ bN) :
    own_M l (⟨"com/example/boxwood/boxwood/XmlNodeTable", "set", "(III)V"⟩ : MethodName) prog_60_method_27_code 4 none ws ({ frames := 0, cells := 0, slots := 0, locals := 0 } : Room) Z #[(.ref t), (.int 0), (.int 0), (.int p3)] h0 (Q_set_0_0_21 Z t aN bN p3 kN kb x0 x1 x2 x3 x4 x5 x6 x7 x8 x9 x10 x11 x12 x13 x14 x15 x16 x17 x18 x19 x20 h0 n0) := by
  refine own_body (own := "com/example/boxwood/boxwood/XmlNodeTable") rfl (plainFor_of_name pn_11) (fun m => ef_set_0_4_7 m t (0 : Int32) (0 : Int32) p3) ?_
  intro p e s m below meth c s₁ Bd hml hZ hh hx hby hown X0 e0
  have N0 := Fr.nil n0
  have lt21 : h0.size > t := F_numbers_t.lt
  have lt22 : h0.size > aN := V_aN.lt
  have lt23 : h0.size > bN := V_bN.lt
  refine own_aloadN X0.here hx hby d11_0 rfl rfl ?_
  refine own_getF X0 hx hZ hown (host := "") (Or.inl (own_w hw 43 rfl)) Via.refl e0 F_numbers_t hby d11_1 ?_
  intro T24 X24 e24
  refine own_iloadN X24.here hx hby d11_4 rfl ?_
  refine own_bipush X24.here hx hby d11_5 (v := (12 : Int32)) (by decide) ?_
  refine own_iushr X24.here hx hby d11_7 (v := (0 : Int32)) (by decide) ?_
  refine own_aaload X24 hx hZ e24 V_aN rfl ⟨by decide, by decide⟩ (v := (.ref bN)) rfl hby d11_8 ?_
  refine own_iloadN X24.here hx hby d11_9 rfl ?_
  refine own_sipush X24.here hx hby d11_10 (v := (4095 : Int32)) (by decide) ?_
  refine own_iand X24.here hx hby d11_13 (v := (0 : Int32)) (by decide) ?_
  refine own_bipush X24.here hx hby d11_14 (v := (7 : Int32)) (by decide) ?_
  refine own_imul X24.here hx hby d11_16 (v := (0 : Int32)) (by decide) ?_
  refine own_iloadN X24.here hx hby d11_17 rfl ?_
  refine own_iadd X24.here hx hby d11_18 (v := (0 : Int32)) (by decide) ?_
  refine own_iloadN X24.here hx hby d11_19 rfl ?_
  refine own_iastore X24 hx hZ e24 V_bN ⟨by decide, by decide⟩ 0 (by decide) (Nat.le_of_ble_eq_true rfl) rfl hby d11_20 N0 g_bN ?_
  intro T25 h25 lo25 X25 e25 N25 W25 V25 z25
  have V26 : Arv Z h25 bN kb .int (28672 : Int32) [(.int p3), (.int x1), (.int x2), (.int x3), (.int x4), (.int x5), (.int x6), (.int x7), (.int x8), (.int x9), (.int x10), (.int x11), (.int x12), (.int x13), (.int x14), (.int x15), (.int x16), (.int x17), (.int x18), (.int x19), (.int x20)] (.int 0) := V25
  have K27 : Keep h0 h25 [bN] := ((Keep.refl h0 [bN]).wr W25 (Or.inl (List.mem_of_getElem? (i := 0) rfl)))
  obtain ⟨fs, hr, hrun, hended, hW, hsame⟩ := X25.leave (v := none) (fun _ => rfl)
  refine own_ret (t := T25.setFrames fs) ?_ ⟨_, hrun, hended, _, _, rfl, ?_, ⟨_, rfl⟩, hW, hsame.mono (by decide) (by decide)⟩
  · exact X25.returnOut hx Bd.returns (hb hby d11_21) hr
  · show Q_set_0_0_21 Z _ _ _ _ _ _ _ _ _ _ _ _ _ _ _ _ _ _ _ _ _ _ _ _ _ _ _ h0 n0 _ T25.heap _
    rw [e25]
    exact ⟨rfl, N25, K27, V26⟩
theorem ef_pass_0_3 (m : MethodId) (x0 : Nat) (x1 : Int32) (x2 : Int32) : entryFrame m #[(.ref x0), (.int x1), (.int x2)] 3 = mkF m 0 #[.val (.ref x0), .val (.int x1), .val (.int x2)] [] := by first | (simp [entryFrame, mkF, argsToLocals, Value.category]; done) | rfl
theorem pn_14 : plainName "com/example/boxwood/boxwood/XmlNodeTable" = true := by first | (simp [plainName, overriddenIn]; done) | decide +kernel
theorem d14_0 : decode prog_60_method_6_code 0 = .ok (.aload_n 0, 1) := by decide +kernel
theorem d14_1 : decode prog_60_method_6_code 1 = .ok (.iload_n 1, 1) := by decide +kernel
theorem d14_2 : decode prog_60_method_6_code 2 = .ok (.iconst 0, 1) := by decide +kernel
theorem d14_3 : decode prog_60_method_6_code 3 = .ok (.aload_n 0, 1) := by decide +kernel
theorem d14_4 : decode prog_60_method_6_code 4 = .ok (.iload_n 1, 1) := by decide +kernel
theorem d14_5 : decode prog_60_method_6_code 5 = .ok (.iconst 0, 1) := by decide +kernel
theorem d14_6 : decode prog_60_method_6_code 6 = .ok (.invokevirtual 49, 3) := by decide +kernel
theorem pd_3 : parseMethodDescriptor "(II)I" = some ⟨[.int, .int], some .int⟩ := by decide +kernel
theorem d14_9 : decode prog_60_method_6_code 9 = .ok (.iconst 4, 1) := by decide +kernel
theorem d14_10 : decode prog_60_method_6_code 10 = .ok (.ior, 1) := by decide +kernel
theorem d14_11 : decode prog_60_method_6_code 11 = .ok (.iload_n 2, 1) := by decide +kernel
theorem d14_12 : decode prog_60_method_6_code 12 = .ok (.ifCond .eq 8, 3) := by decide +kernel
theorem d14_20 : decode prog_60_method_6_code 20 = .ok (.iconst 0, 1) := by decide +kernel
theorem d14_21 : decode prog_60_method_6_code 21 = .ok (.ior, 1) := by decide +kernel
theorem d14_22 : decode prog_60_method_6_code 22 = .ok (.invokevirtual 41, 3) := by decide +kernel
theorem d14_25 : decode prog_60_method_6_code 25 = .ok (.return_, 1) := by decide +kernel
def Q_pass_0_3 (Z : State) (t : Nat) (aN : Nat) (bN : Nat) (kN : ClassId) (kb : ClassId) (x0 : Int32) (x1 : Int32) (x2 : Int32) (x3 : Int32) (x4 : Int32) (x5 : Int32) (x6 : Int32) (x7 : Int32) (x8 : Int32) (x9 : Int32) (x10 : Int32) (x11 : Int32) (x12 : Int32) (x13 : Int32) (x14 : Int32) (x15 : Int32) (x16 : Int32) (x17 : Int32) (x18 : Int32) (x19 : Int32) (x20 : Int32) (h0 : Heap) (n0 : Nat) (vR : Option Value) (hR : Heap) (LR : List Loc) : Prop := vR = none ∧ Fr n0 LR ∧ Keep h0 hR [bN] ∧ (Arv Z hR bN kb .int (28672 : Int32) [(.int ((x0 ||| (4 : Int32)) ||| (0 : Int32))), (.int x1), (.int x2), (.int x3), (.int x4), (.int x5), (.int x6), (.int x7), (.int x8), (.int x9), (.int x10), (.int x11), (.int x12), (.int x13), (.int x14), (.int x15), (.int x16), (.int x17), (.int x18), (.int x19), (.int x20)] (.int 0))
set_option maxRecDepth 65536 in
set_option maxHeartbeats 40000000 in
theorem pass_0_3 (l : Launch) (Z : State) (a0 : Array Value) (hw : ∀ d ∈ tables_1, d.before a0 Z = true) (ws : List Jvm.Cond) (t : Nat) (aN : Nat) (bN : Nat) (kN : ClassId) (kb : ClassId) (x0 : Int32) (x1 : Int32) (x2 : Int32) (x3 : Int32) (x4 : Int32) (x5 : Int32) (x6 : Int32) (x7 : Int32) (x8 : Int32) (x9 : Int32) (x10 : Int32) (x11 : Int32) (x12 : Int32) (x13 : Int32) (x14 : Int32) (x15 : Int32) (x16 : Int32) (x17 : Int32) (x18 : Int32) (x19 : Int32) (x20 : Int32) (h0 : Heap) (n0 : Nat) (Z0 : n0 ≤ h0.size) (E_t : Exa Z h0 t "com/example/boxwood/boxwood/XmlNodeTable") (F_numbers_t : Fld Z h0 t "com/example/boxwood/boxwood/XmlNodeTable" "numbers" "[[I" (.ref aN)) (V_aN : Arv Z h0 aN kN (.array .int) (1 : Int32) [(.ref bN)] .null) (V_bN : Arv Z h0 bN kb .int (28672 : Int32) [(.int x0), (.int x1), (.int x2), (.int x3), (.int x4), (.int x5), (.int x6), (.int x7), (.int x8), (.int x9), (.int x10), (.int x11), (.int x12), (.int x13), (.int x14), (.int x15), (.int x16), (.int x17), (.int x18), (.int x19), (.int x20)] (.int 0)) (g_bN : n0 ≤ bN) :
    own_M l (⟨"com/example/boxwood/boxwood/XmlNodeTable", "passOver", "(IZ)V"⟩ : MethodName) prog_60_method_6_code 3 none ws ({ frames := 1, cells := 0, slots := 0, locals := 17 } : Room) Z #[(.ref t), (.int 0), (.int 0)] h0 (Q_pass_0_3 Z t aN bN kN kb x0 x1 x2 x3 x4 x5 x6 x7 x8 x9 x10 x11 x12 x13 x14 x15 x16 x17 x18 x19 x20 h0 n0) := by
  refine own_body (own := "com/example/boxwood/boxwood/XmlNodeTable") rfl (plainFor_of_name pn_14) (fun m => ef_pass_0_3 m t (0 : Int32) (0 : Int32)) ?_
  intro p e s m below meth c s₁ Bd hml hZ hh hx hby hown X0 e0
  have N0 := Fr.nil n0
  have lt21 : h0.size > t := E_t.lt
  have lt22 : h0.size > aN := V_aN.lt
  have lt23 : h0.size > bN := V_bN.lt
  refine own_aloadN X0.here hx hby d14_0 rfl rfl ?_
  refine own_iloadN X0.here hx hby d14_1 rfl ?_
  refine own_iconst X0.here hx hby d14_2 (v := (0 : Int32)) (by decide) ?_
  refine own_aloadN X0.here hx hby d14_3 rfl rfl ?_
  refine own_iloadN X0.here hx hby d14_4 rfl ?_
  refine own_iconst X0.here hx hby d14_5 (v := (0 : Int32)) (by decide) ?_
  refine own_private X0 hx hZ hown (own_w hw 96 rfl) (own_w hw 97 rfl) (own_w hw 35 rfl) (own_w hw 98 rfl) (own_w hw 36 rfl) (own_w hw 99 rfl) (by decide) (get_0_0_21 l Z a0 hw [] t aN bN kN kb x0 x1 x2 x3 x4 x5 x6 x7 x8 x9 x10 x11 x12 x13 x14 x15 x16 x17 x18 x19 x20 h0 n0 Z0 F_numbers_t V_aN V_bN) 3 (Nat.le_of_eq rfl) (by decide) (by decide) (by rw [hml]; rfl) (argsL := [(.int 0), (.int 0)]) (st := [(.int 0), (.int 0), (.ref t)]) E_t (lenOf pd_3 rfl) rfl rfl (by decide) (by decide) e0 hby d14_6 ?_
  intro T24 v24 L24 X24 hQ24
  obtain ⟨rfl, Nq24, eh24⟩ := hQ24
  have N24 := Fr.app N0 Nq24
  refine own_sh (T := T24) 9 #[.val (.ref t), .val (.int 0), .val (.int 0)] [(.int x0), (.int 0), (.int 0), (.ref t)] ?_
  refine own_iconst X24.here hx hby d14_9 (v := (4 : Int32)) (by decide) ?_
  refine own_ior X24.here hx hby d14_10 rfl ?_
  refine own_iloadN X24.here hx hby d14_11 rfl ?_
  refine own_ifYes X24.here hx hby (pc' := 20) d14_12 ((if0 _ _).trans (teq (show (0 : Int32) = (0 : Int32) from (by decide))).1) (by decide) (by decide) ?_
  refine own_iconst X24.here hx hby d14_20 (v := (0 : Int32)) (by decide) ?_
  refine own_ior X24.here hx hby d14_21 rfl ?_
  refine own_private X24 hx hZ hown (own_w hw 77 rfl) (own_w hw 78 rfl) (own_w hw 35 rfl) (own_w hw 79 rfl) (own_w hw 36 rfl) (own_w hw 80 rfl) (by decide) (set_0_0_21 l Z a0 hw [] t aN bN ((x0 ||| (4 : Int32)) ||| (0 : Int32)) kN kb x0 x1 x2 x3 x4 x5 x6 x7 x8 x9 x10 x11 x12 x13 x14 x15 x16 x17 x18 x19 x20 h0 n0 Z0 F_numbers_t V_aN V_bN g_bN) 0 (Nat.le_of_eq rfl) (by decide) (by decide) (by rw [hml]; rfl) (argsL := [(.int 0), (.int 0), (.int ((x0 ||| (4 : Int32)) ||| (0 : Int32)))]) (st := []) E_t (lenOf pd_2 rfl) rfl rfl (by decide) (by decide) eh24 hby d14_22 ?_
  intro T25 v25 L25 X25 hQ25
  obtain ⟨rfl, Nq25, K25, P25_0⟩ := hQ25
  have N25 := Fr.app N24 Nq25
  have z26 : h0.size ≤ T25.heap.size := K25.1
  have lt27 : T25.heap.size > bN := P25_0.lt
  refine own_sh (T := T25) 25 #[.val (.ref t), .val (.int 0), .val (.int 0)] [] ?_
  have K28 : Keep h0 T25.heap [bN] := ((Keep.refl h0 [bN]).trans K25 (allS (P := fun xq_ => xq_ ∈ [bN] ∨ h0.size ≤ xq_) (Or.inl (List.mem_of_getElem? (i := 0) rfl)) all0))
  obtain ⟨fs, hr, hrun, hended, hW, hsame⟩ := X25.leave (v := none) (fun _ => rfl)
  refine own_ret (t := T25.setFrames fs) ?_ ⟨_, hrun, hended, _, _, rfl, ?_, ⟨_, rfl⟩, hW, hsame.mono (by decide) (by decide)⟩
  · exact X25.returnOut hx Bd.returns (hb hby d14_25) hr
  · show Q_pass_0_3 Z _ _ _ _ _ _ _ _ _ _ _ _ _ _ _ _ _ _ _ _ _ _ _ _ _ _ h0 n0 _ T25.heap _
    exact ⟨rfl, N25, K28, P25_0⟩
theorem d14_15 : decode prog_60_method_6_code 15 = .ok (.bipush 8, 2) := by decide +kernel
theorem d14_17 : decode prog_60_method_6_code 17 = .ok (.goto 4, 3) := by decide +kernel
def Q_pass_1_3 (Z : State) (t : Nat) (aN : Nat) (bN : Nat) (kN : ClassId) (kb : ClassId) (x0 : Int32) (x1 : Int32) (x2 : Int32) (x3 : Int32) (x4 : Int32) (x5 : Int32) (x6 : Int32) (x7 : Int32) (x8 : Int32) (x9 : Int32) (x10 : Int32) (x11 : Int32) (x12 : Int32) (x13 : Int32) (x14 : Int32) (x15 : Int32) (x16 : Int32) (x17 : Int32) (x18 : Int32) (x19 : Int32) (x20 : Int32) (h0 : Heap) (n0 : Nat) (vR : Option Value) (hR : Heap) (LR : List Loc) : Prop := vR = none ∧ Fr n0 LR ∧ Keep h0 hR [bN] ∧ (Arv Z hR bN kb .int (28672 : Int32) [(.int ((x0 ||| (4 : Int32)) ||| (8 : Int32))), (.int x1), (.int x2), (.int x3), (.int x4), (.int x5), (.int x6), (.int x7), (.int x8), (.int x9), (.int x10), (.int x11), (.int x12), (.int x13), (.int x14), (.int x15), (.int x16), (.int x17), (.int x18), (.int x19), (.int x20)] (.int 0))
set_option maxRecDepth 65536 in
set_option maxHeartbeats 40000000 in
theorem pass_1_3 (l : Launch) (Z : State) (a0 : Array Value) (hw : ∀ d ∈ tables_1, d.before a0 Z = true) (ws : List Jvm.Cond) (t : Nat) (aN : Nat) (bN : Nat) (kN : ClassId) (kb : ClassId) (x0 : Int32) (x1 : Int32) (x2 : Int32) (x3 : Int32) (x4 : Int32) (x5 : Int32) (x6 : Int32) (x7 : Int32) (x8 : Int32) (x9 : Int32) (x10 : Int32) (x11 : Int32) (x12 : Int32) (x13 : Int32) (x14 : Int32) (x15 : Int32) (x16 : Int32) (x17 : Int32) (x18 : Int32) (x19 : Int32) (x20 : Int32) (h0 : Heap) (n0 : Nat) (Z0 : n0 ≤ h0.size) (E_t : Exa Z h0 t "com/example/boxwood/boxwood/XmlNodeTable") (F_numbers_t : Fld Z h0 t "com/example/boxwood/boxwood/XmlNodeTable" "numbers" "[[I" (.ref aN)) (V_aN : Arv Z h0 aN kN (.array .int) (1 : Int32) [(.ref bN)] .null) (V_bN : Arv Z h0 bN kb .int (28672 : Int32) [(.int x0), (.int x1), (.int x2), (.int x3), (.int x4), (.int x5), (.int x6), (.int x7), (.int x8), (.int x9), (.int x10), (.int x11), (.int x12), (.int x13), (.int x14), (.int x15), (.int x16), (.int x17), (.int x18), (.int x19), (.int x20)] (.int 0)) (g_bN : n0 ≤ bN) :
    own_M l (⟨"com/example/boxwood/boxwood/XmlNodeTable", "passOver", "(IZ)V"⟩ : MethodName) prog_60_method_6_code 3 none ws ({ frames := 1, cells := 0, slots := 0, locals := 17 } : Room) Z #[(.ref t), (.int 0), (.int 1)] h0 (Q_pass_1_3 Z t aN bN kN kb x0 x1 x2 x3 x4 x5 x6 x7 x8 x9 x10 x11 x12 x13 x14 x15 x16 x17 x18 x19 x20 h0 n0) := by
  refine own_body (own := "com/example/boxwood/boxwood/XmlNodeTable") rfl (plainFor_of_name pn_14) (fun m => ef_pass_0_3 m t (0 : Int32) (1 : Int32)) ?_
  intro p e s m below meth c s₁ Bd hml hZ hh hx hby hown X0 e0
  have N0 := Fr.nil n0
  have lt21 : h0.size > t := E_t.lt
  have lt22 : h0.size > aN := V_aN.lt
  have lt23 : h0.size > bN := V_bN.lt
  refine own_aloadN X0.here hx hby d14_0 rfl rfl ?_
  refine own_iloadN X0.here hx hby d14_1 rfl ?_
  refine own_iconst X0.here hx hby d14_2 (v := (0 : Int32)) (by decide) ?_
  refine own_aloadN X0.here hx hby d14_3 rfl rfl ?_
  refine own_iloadN X0.here hx hby d14_4 rfl ?_
  refine own_iconst X0.here hx hby d14_5 (v := (0 : Int32)) (by decide) ?_
  refine own_private X0 hx hZ hown (own_w hw 96 rfl) (own_w hw 97 rfl) (own_w hw 35 rfl) (own_w hw 98 rfl) (own_w hw 36 rfl) (own_w hw 99 rfl) (by decide) (get_0_0_21 l Z a0 hw [] t aN bN kN kb x0 x1 x2 x3 x4 x5 x6 x7 x8 x9 x10 x11 x12 x13 x14 x15 x16 x17 x18 x19 x20 h0 n0 Z0 F_numbers_t V_aN V_bN) 3 (Nat.le_of_eq rfl) (by decide) (by decide) (by rw [hml]; rfl) (argsL := [(.int 0), (.int 0)]) (st := [(.int 0), (.int 0), (.ref t)]) E_t (lenOf pd_3 rfl) rfl rfl (by decide) (by decide) e0 hby d14_6 ?_
  intro T24 v24 L24 X24 hQ24
  obtain ⟨rfl, Nq24, eh24⟩ := hQ24
  have N24 := Fr.app N0 Nq24
  refine own_sh (T := T24) 9 #[.val (.ref t), .val (.int 0), .val (.int 1)] [(.int x0), (.int 0), (.int 0), (.ref t)] ?_
  refine own_iconst X24.here hx hby d14_9 (v := (4 : Int32)) (by decide) ?_
  refine own_ior X24.here hx hby d14_10 rfl ?_
  refine own_iloadN X24.here hx hby d14_11 rfl ?_
  refine own_ifNo X24.here hx hby d14_12 ((if0 _ _).trans (feq (show ¬ ((1 : Int32) = (0 : Int32)) from (by decide))).1) ?_
  refine own_bipush X24.here hx hby d14_15 (v := (8 : Int32)) (by decide) ?_
  refine own_goto X24.here hx hby (pc' := 21) d14_17 (by decide) (by decide) ?_
  refine own_ior X24.here hx hby d14_21 rfl ?_
  refine own_private X24 hx hZ hown (own_w hw 77 rfl) (own_w hw 78 rfl) (own_w hw 35 rfl) (own_w hw 79 rfl) (own_w hw 36 rfl) (own_w hw 80 rfl) (by decide) (set_0_0_21 l Z a0 hw [] t aN bN ((x0 ||| (4 : Int32)) ||| (8 : Int32)) kN kb x0 x1 x2 x3 x4 x5 x6 x7 x8 x9 x10 x11 x12 x13 x14 x15 x16 x17 x18 x19 x20 h0 n0 Z0 F_numbers_t V_aN V_bN g_bN) 0 (Nat.le_of_eq rfl) (by decide) (by decide) (by rw [hml]; rfl) (argsL := [(.int 0), (.int 0), (.int ((x0 ||| (4 : Int32)) ||| (8 : Int32)))]) (st := []) E_t (lenOf pd_2 rfl) rfl rfl (by decide) (by decide) eh24 hby d14_22 ?_
  intro T25 v25 L25 X25 hQ25
  obtain ⟨rfl, Nq25, K25, P25_0⟩ := hQ25
  have N25 := Fr.app N24 Nq25
  have z26 : h0.size ≤ T25.heap.size := K25.1
  have lt27 : T25.heap.size > bN := P25_0.lt
  refine own_sh (T := T25) 25 #[.val (.ref t), .val (.int 0), .val (.int 1)] [] ?_
  have K28 : Keep h0 T25.heap [bN] := ((Keep.refl h0 [bN]).trans K25 (allS (P := fun xq_ => xq_ ∈ [bN] ∨ h0.size ≤ xq_) (Or.inl (List.mem_of_getElem? (i := 0) rfl)) all0))
  obtain ⟨fs, hr, hrun, hended, hW, hsame⟩ := X25.leave (v := none) (fun _ => rfl)
  refine own_ret (t := T25.setFrames fs) ?_ ⟨_, hrun, hended, _, _, rfl, ?_, ⟨_, rfl⟩, hW, hsame.mono (by decide) (by decide)⟩
  · exact X25.returnOut hx Bd.returns (hb hby d14_25) hr
  · show Q_pass_1_3 Z _ _ _ _ _ _ _ _ _ _ _ _ _ _ _ _ _ _ _ _ _ _ _ _ _ _ h0 n0 _ T25.heap _
    exact ⟨rfl, N25, K28, P25_0⟩
theorem ef_endE_0_3 (m : MethodId) (x0 : Nat) (x1 : Int32) (x2 : Int32) (x3 : Int32) : entryFrame m #[(.ref x0), (.int x1), (.int x2), (.int x3)] 6 = mkF m 0 #[.val (.ref x0), .val (.int x1), .val (.int x2), .val (.int x3), .unset, .unset] [] := by first | (simp [entryFrame, mkF, argsToLocals, Value.category]; done) | rfl
theorem pn_16 : plainName "com/example/boxwood/boxwood/XmlNodeTable" = true := by first | (simp [plainName, overriddenIn]; done) | decide +kernel
theorem d16_0 : decode prog_60_method_7_code 0 = .ok (.aload_n 0, 1) := by decide +kernel
theorem d16_1 : decode prog_60_method_7_code 1 = .ok (.getfield 11, 3) := by decide +kernel
theorem d16_4 : decode prog_60_method_7_code 4 = .ok (.iload_n 1, 1) := by decide +kernel
theorem d16_5 : decode prog_60_method_7_code 5 = .ok (.bipush 12, 2) := by decide +kernel
theorem d16_7 : decode prog_60_method_7_code 7 = .ok (.iushr, 1) := by decide +kernel
theorem d16_8 : decode prog_60_method_7_code 8 = .ok (.aaload, 1) := by decide +kernel
theorem d16_9 : decode prog_60_method_7_code 9 = .ok (.astore 4, 2) := by decide +kernel
theorem d16_11 : decode prog_60_method_7_code 11 = .ok (.iload_n 1, 1) := by decide +kernel
theorem d16_12 : decode prog_60_method_7_code 12 = .ok (.sipush 4095, 3) := by decide +kernel
theorem d16_15 : decode prog_60_method_7_code 15 = .ok (.iand, 1) := by decide +kernel
theorem d16_16 : decode prog_60_method_7_code 16 = .ok (.bipush 7, 2) := by decide +kernel
theorem d16_18 : decode prog_60_method_7_code 18 = .ok (.imul, 1) := by decide +kernel
theorem d16_19 : decode prog_60_method_7_code 19 = .ok (.istore 5, 2) := by decide +kernel
theorem d16_21 : decode prog_60_method_7_code 21 = .ok (.aload 4, 2) := by decide +kernel
theorem d16_23 : decode prog_60_method_7_code 23 = .ok (.iload 5, 2) := by decide +kernel
theorem d16_25 : decode prog_60_method_7_code 25 = .ok (.iconst 5, 1) := by decide +kernel
theorem d16_26 : decode prog_60_method_7_code 26 = .ok (.iadd, 1) := by decide +kernel
theorem d16_27 : decode prog_60_method_7_code 27 = .ok (.iload_n 2, 1) := by decide +kernel
theorem d16_28 : decode prog_60_method_7_code 28 = .ok (.iastore, 1) := by decide +kernel
theorem d16_29 : decode prog_60_method_7_code 29 = .ok (.aload 4, 2) := by decide +kernel
theorem d16_31 : decode prog_60_method_7_code 31 = .ok (.iload 5, 2) := by decide +kernel
theorem d16_33 : decode prog_60_method_7_code 33 = .ok (.iconst 2, 1) := by decide +kernel
theorem d16_34 : decode prog_60_method_7_code 34 = .ok (.iadd, 1) := by decide +kernel
theorem d16_35 : decode prog_60_method_7_code 35 = .ok (.iload_n 3, 1) := by decide +kernel
theorem d16_36 : decode prog_60_method_7_code 36 = .ok (.iastore, 1) := by decide +kernel
theorem d16_37 : decode prog_60_method_7_code 37 = .ok (.aload 4, 2) := by decide +kernel
theorem d16_39 : decode prog_60_method_7_code 39 = .ok (.iload 5, 2) := by decide +kernel
theorem d16_41 : decode prog_60_method_7_code 41 = .ok (.iconst 3, 1) := by decide +kernel
theorem d16_42 : decode prog_60_method_7_code 42 = .ok (.iadd, 1) := by decide +kernel
theorem d16_43 : decode prog_60_method_7_code 43 = .ok (.aload_n 0, 1) := by decide +kernel
theorem d16_44 : decode prog_60_method_7_code 44 = .ok (.getfield 53, 3) := by decide +kernel
theorem d16_47 : decode prog_60_method_7_code 47 = .ok (.iastore, 1) := by decide +kernel
theorem d16_48 : decode prog_60_method_7_code 48 = .ok (.return_, 1) := by decide +kernel
def Q_endE_0_3 (Z : State) (t : Nat) (aN : Nat) (bN : Nat) (p1 : Int32) (p2 : Int32) (ac : Int32) (kN : ClassId) (kb : ClassId) (x0 : Int32) (x1 : Int32) (x2 : Int32) (x3 : Int32) (x4 : Int32) (x5 : Int32) (x6 : Int32) (x7 : Int32) (x8 : Int32) (x9 : Int32) (x10 : Int32) (x11 : Int32) (x12 : Int32) (x13 : Int32) (x14 : Int32) (x15 : Int32) (x16 : Int32) (x17 : Int32) (x18 : Int32) (x19 : Int32) (x20 : Int32) (h0 : Heap) (n0 : Nat) (vR : Option Value) (hR : Heap) (LR : List Loc) : Prop := vR = none ∧ Fr n0 LR ∧ Keep h0 hR [bN] ∧ (Arv Z hR bN kb .int (28672 : Int32) [(.int x0), (.int x1), (.int p2), (.int 3), (.int x4), (.int p1), (.int x6), (.int x7), (.int x8), (.int x9), (.int x10), (.int x11), (.int x12), (.int x13), (.int x14), (.int x15), (.int x16), (.int x17), (.int x18), (.int x19), (.int x20)] (.int 0))
set_option maxRecDepth 65536 in
set_option maxHeartbeats 40000000 in
theorem endE_0_3 (l : Launch) (Z : State) (a0 : Array Value) (hw : ∀ d ∈ tables_1, d.before a0 Z = true) (ws : List Jvm.Cond) (t : Nat) (aN : Nat) (bN : Nat) (p1 : Int32) (p2 : Int32) (ac : Int32) (kN : ClassId) (kb : ClassId) (x0 : Int32) (x1 : Int32) (x2 : Int32) (x3 : Int32) (x4 : Int32) (x5 : Int32) (x6 : Int32) (x7 : Int32) (x8 : Int32) (x9 : Int32) (x10 : Int32) (x11 : Int32) (x12 : Int32) (x13 : Int32) (x14 : Int32) (x15 : Int32) (x16 : Int32) (x17 : Int32) (x18 : Int32) (x19 : Int32) (x20 : Int32) (h0 : Heap) (n0 : Nat) (Z0 : n0 ≤ h0.size) (E_t : Exa Z h0 t "com/example/boxwood/boxwood/XmlNodeTable") (F_size_t : Fld Z h0 t "com/example/boxwood/boxwood/XmlNodeTable" "size" "I" (.int 3)) (F_numbers_t : Fld Z h0 t "com/example/boxwood/boxwood/XmlNodeTable" "numbers" "[[I" (.ref aN)) (F_attributeCount_t : Fld Z h0 t "com/example/boxwood/boxwood/XmlNodeTable" "attributeCount" "I" (.int ac)) (V_aN : Arv Z h0 aN kN (.array .int) (1 : Int32) [(.ref bN)] .null) (V_bN : Arv Z h0 bN kb .int (28672 : Int32) [(.int x0), (.int x1), (.int x2), (.int x3), (.int x4), (.int x5), (.int x6), (.int x7), (.int x8), (.int x9), (.int x10), (.int x11), (.int x12), (.int x13), (.int x14), (.int x15), (.int x16), (.int x17), (.int x18), (.int x19), (.int x20)] (.int 0)) (g_bN : n0 ≤ bN) :
    own_M l (⟨"com/example/boxwood/boxwood/XmlNodeTable", "endElement", "(III)V"⟩ : MethodName) prog_60_method_7_code 6 none ws ({ frames := 0, cells := 0, slots := 0, locals := 0 } : Room) Z #[(.ref t), (.int 0), (.int p1), (.int p2)] h0 (Q_endE_0_3 Z t aN bN p1 p2 ac kN kb x0 x1 x2 x3 x4 x5 x6 x7 x8 x9 x10 x11 x12 x13 x14 x15 x16 x17 x18 x19 x20 h0 n0) := by
  refine own_body (own := "com/example/boxwood/boxwood/XmlNodeTable") rfl (plainFor_of_name pn_16) (fun m => ef_endE_0_3 m t (0 : Int32) p1 p2) ?_
  intro p e s m below meth c s₁ Bd hml hZ hh hx hby hown X0 e0
  have N0 := Fr.nil n0
  have lt21 : h0.size > t := E_t.lt
  have lt22 : h0.size > aN := V_aN.lt
  have lt23 : h0.size > bN := V_bN.lt
  refine own_aloadN X0.here hx hby d16_0 rfl rfl ?_
  refine own_getF X0 hx hZ hown (host := "") (Or.inl (own_w hw 43 rfl)) Via.refl e0 F_numbers_t hby d16_1 ?_
  intro T24 X24 e24
  refine own_iloadN X24.here hx hby d16_4 rfl ?_
  refine own_bipush X24.here hx hby d16_5 (v := (12 : Int32)) (by decide) ?_
  refine own_iushr X24.here hx hby d16_7 (v := (0 : Int32)) (by decide) ?_
  refine own_aaload X24 hx hZ e24 V_aN rfl ⟨by decide, by decide⟩ (v := (.ref bN)) rfl hby d16_8 ?_
  refine own_astore X24.here hx hby d16_9 rfl (l' := #[.val (.ref t), .val (.int 0), .val (.int p1), .val (.int p2), .val (.ref bN), .unset]) rfl ?_
  refine own_iloadN X24.here hx hby d16_11 rfl ?_
  refine own_sipush X24.here hx hby d16_12 (v := (4095 : Int32)) (by decide) ?_
  refine own_iand X24.here hx hby d16_15 (v := (0 : Int32)) (by decide) ?_
  refine own_bipush X24.here hx hby d16_16 (v := (7 : Int32)) (by decide) ?_
  refine own_imul X24.here hx hby d16_18 (v := (0 : Int32)) (by decide) ?_
  refine own_istore X24.here hx hby d16_19 (l' := #[.val (.ref t), .val (.int 0), .val (.int p1), .val (.int p2), .val (.ref bN), .val (.int 0)]) rfl ?_
  refine own_aload X24.here hx hby d16_21 rfl rfl ?_
  refine own_iload X24.here hx hby d16_23 rfl ?_
  refine own_iconst X24.here hx hby d16_25 (v := (5 : Int32)) (by decide) ?_
  refine own_iadd X24.here hx hby d16_26 (v := (5 : Int32)) (by decide) ?_
  refine own_iloadN X24.here hx hby d16_27 rfl ?_
  refine own_iastore X24 hx hZ e24 V_bN ⟨by decide, by decide⟩ 5 (by decide) (Nat.le_of_ble_eq_true rfl) rfl hby d16_28 N0 g_bN ?_
  intro T25 h25 lo25 X25 e25 N25 W25 V25 z25
  have V26 : Arv Z h25 bN kb .int (28672 : Int32) [(.int x0), (.int x1), (.int x2), (.int x3), (.int x4), (.int p1), (.int x6), (.int x7), (.int x8), (.int x9), (.int x10), (.int x11), (.int x12), (.int x13), (.int x14), (.int x15), (.int x16), (.int x17), (.int x18), (.int x19), (.int x20)] (.int 0) := V25
  refine own_aload X25.here hx hby d16_29 rfl rfl ?_
  refine own_iload X25.here hx hby d16_31 rfl ?_
  refine own_iconst X25.here hx hby d16_33 (v := (2 : Int32)) (by decide) ?_
  refine own_iadd X25.here hx hby d16_34 (v := (2 : Int32)) (by decide) ?_
  refine own_iloadN X25.here hx hby d16_35 rfl ?_
  refine own_iastore X25 hx hZ e25 V26 ⟨by decide, by decide⟩ 2 (by decide) (Nat.le_of_ble_eq_true rfl) rfl hby d16_36 N25 g_bN ?_
  intro T27 h27 lo27 X27 e27 N27 W27 V27 z27
  have V28 : Arv Z h27 bN kb .int (28672 : Int32) [(.int x0), (.int x1), (.int p2), (.int x3), (.int x4), (.int p1), (.int x6), (.int x7), (.int x8), (.int x9), (.int x10), (.int x11), (.int x12), (.int x13), (.int x14), (.int x15), (.int x16), (.int x17), (.int x18), (.int x19), (.int x20)] (.int 0) := V27
  refine own_aload X27.here hx hby d16_37 rfl rfl ?_
  refine own_iload X27.here hx hby d16_39 rfl ?_
  refine own_iconst X27.here hx hby d16_41 (v := (3 : Int32)) (by decide) ?_
  refine own_iadd X27.here hx hby d16_42 (v := (3 : Int32)) (by decide) ?_
  refine own_aloadN X27.here hx hby d16_43 rfl rfl ?_
  have f29 : Fld Z h27 t "com/example/boxwood/boxwood/XmlNodeTable" "size" "I" (.int 3) := ((F_size_t.other W25 (Or.inl (own_ne_oa E_t (own_w hw 35 rfl) V_bN))).other W27 (Or.inl (own_ne_oa E_t (own_w hw 35 rfl) V_bN)))
  refine own_getF X27 hx hZ hown (host := "") (Or.inl (own_w hw 68 rfl)) Via.refl e27 f29 hby d16_44 ?_
  intro T30 X30 e30
  refine own_iastore X30 hx hZ e30 V28 ⟨by decide, by decide⟩ 3 (by decide) (Nat.le_of_ble_eq_true rfl) rfl hby d16_47 N27 g_bN ?_
  intro T31 h31 lo31 X31 e31 N31 W31 V31 z31
  have V32 : Arv Z h31 bN kb .int (28672 : Int32) [(.int x0), (.int x1), (.int p2), (.int 3), (.int x4), (.int p1), (.int x6), (.int x7), (.int x8), (.int x9), (.int x10), (.int x11), (.int x12), (.int x13), (.int x14), (.int x15), (.int x16), (.int x17), (.int x18), (.int x19), (.int x20)] (.int 0) := V31
  have K33 : Keep h0 h31 [bN] := ((((Keep.refl h0 [bN]).wr W25 (Or.inl (List.mem_of_getElem? (i := 0) rfl))).wr W27 (Or.inl (List.mem_of_getElem? (i := 0) rfl))).wr W31 (Or.inl (List.mem_of_getElem? (i := 0) rfl)))
  obtain ⟨fs, hr, hrun, hended, hW, hsame⟩ := X31.leave (v := none) (fun _ => rfl)
  refine own_ret (t := T31.setFrames fs) ?_ ⟨_, hrun, hended, _, _, rfl, ?_, ⟨_, rfl⟩, hW, hsame.mono (by decide) (by decide)⟩
  · exact X31.returnOut hx Bd.returns (hb hby d16_48) hr
  · show Q_endE_0_3 Z _ _ _ _ _ _ _ _ _ _ _ _ _ _ _ _ _ _ _ _ _ _ _ _ _ _ _ _ _ h0 n0 _ T31.heap _
    rw [e31]
    exact ⟨rfl, N31, K33, V32⟩
def Q_set_3_4_28 (Z : State) (t : Nat) (aN : Nat) (bN : Nat) (p3 : Int32) (kN : ClassId) (kb : ClassId) (x0 : Int32) (x1 : Int32) (x2 : Int32) (x3 : Int32) (x4 : Int32) (x5 : Int32) (x6 : Int32) (x7 : Int32) (x8 : Int32) (x9 : Int32) (x10 : Int32) (x11 : Int32) (x12 : Int32) (x13 : Int32) (x14 : Int32) (x15 : Int32) (x16 : Int32) (x17 : Int32) (x18 : Int32) (x19 : Int32) (x20 : Int32) (x21 : Int32) (x22 : Int32) (x23 : Int32) (x24 : Int32) (x25 : Int32) (x26 : Int32) (x27 : Int32) (h0 : Heap) (n0 : Nat) (vR : Option Value) (hR : Heap) (LR : List Loc) : Prop := vR = none ∧ Fr n0 LR ∧ Keep h0 hR [bN] ∧ (Arv Z hR bN kb .int (28672 : Int32) [(.int x0), (.int x1), (.int x2), (.int x3), (.int x4), (.int x5), (.int x6), (.int x7), (.int x8), (.int x9), (.int x10), (.int x11), (.int x12), (.int x13), (.int x14), (.int x15), (.int x16), (.int x17), (.int x18), (.int x19), (.int x20), (.int x21), (.int x22), (.int x23), (.int x24), (.int p3), (.int x26), (.int x27)] (.int 0))
set_option maxRecDepth 65536 in
set_option maxHeartbeats 40000000 in
theorem set_3_4_28 (l : Launch) (Z : State) (a0 : Array Value) (hw : ∀ d ∈ tables_1, d.before a0 Z = true) (ws : List Jvm.Cond) (t : Nat) (aN : Nat) (bN : Nat) (p3 : Int32) (kN : ClassId) (kb : ClassId) (x0 : Int32) (x1 : Int32) (x2 : Int32) (x3 : Int32) (x4 : Int32) (x5 : Int32) (x6 : Int32) (x7 : Int32) (x8 : Int32) (x9 : Int32) (x10 : Int32) (x11 : Int32) (x12 : Int32) (x13 : Int32) (x14 : Int32) (x15 : Int32) (x16 : Int32) (x17 : Int32) (x18 : Int32) (x19 : Int32) (x20 : Int32) (x21 : Int32) (x22 : Int32) (x23 : Int32) (x24 : Int32) (x25 : Int32) (x26 : Int32) (x27 : Int32) (h0 : Heap) (n0 : Nat) (Z0 : n0 ≤ h0.size) (F_numbers_t : Fld Z h0 t "com/example/boxwood/boxwood/XmlNodeTable" "numbers" "[[I" (.ref aN)) (V_aN : Arv Z h0 aN kN (.array .int) (1 : Int32) [(.ref bN)] .null) (V_bN : Arv Z h0 bN kb .int (28672 : Int32) [(.int x0), (.int x1), (.int x2), (.int x3), (.int x4), (.int x5), (.int x6), (.int x7), (.int x8), (.int x9), (.int x10), (.int x11), (.int x12), (.int x13), (.int x14), (.int x15), (.int x16), (.int x17), (.int x18), (.int x19), (.int x20), (.int x21), (.int x22), (.int x23), (.int x24), (.int x25), (.int x26), (.int x27)] (.int 0)) (g_bN : n0 ≤ bN) :
    own_M l (⟨"com/example/boxwood/boxwood/XmlNodeTable", "set", "(III)V"⟩ : MethodName) prog_60_method_27_code 4 none ws ({ frames := 0, cells := 0, slots := 0, locals := 0 } : Room) Z #[(.ref t), (.int 3), (.int 4), (.int p3)] h0 (Q_set_3_4_28 Z t aN bN p3 kN kb x0 x1 x2 x3 x4 x5 x6 x7 x8 x9 x10 x11 x12 x13 x14 x15 x16 x17 x18 x19 x20 x21 x22 x23 x24 x25 x26 x27 h0 n0) := by
  refine own_body (own := "com/example/boxwood/boxwood/XmlNodeTable") rfl (plainFor_of_name pn_11) (fun m => ef_set_0_4_7 m t (3 : Int32) (4 : Int32) p3) ?_
  intro p e s m below meth c s₁ Bd hml hZ hh hx hby hown X0 e0
  have N0 := Fr.nil n0
  have lt28 : h0.size > t := F_numbers_t.lt
  have lt29 : h0.size > aN := V_aN.lt
  have lt30 : h0.size > bN := V_bN.lt
  refine own_aloadN X0.here hx hby d11_0 rfl rfl ?_
  refine own_getF X0 hx hZ hown (host := "") (Or.inl (own_w hw 43 rfl)) Via.refl e0 F_numbers_t hby d11_1 ?_
  intro T31 X31 e31
  refine own_iloadN X31.here hx hby d11_4 rfl ?_
  refine own_bipush X31.here hx hby d11_5 (v := (12 : Int32)) (by decide) ?_
  refine own_iushr X31.here hx hby d11_7 (v := (0 : Int32)) (by decide) ?_
  refine own_aaload X31 hx hZ e31 V_aN rfl ⟨by decide, by decide⟩ (v := (.ref bN)) rfl hby d11_8 ?_
  refine own_iloadN X31.here hx hby d11_9 rfl ?_
  refine own_sipush X31.here hx hby d11_10 (v := (4095 : Int32)) (by decide) ?_
  refine own_iand X31.here hx hby d11_13 (v := (3 : Int32)) (by decide) ?_
  refine own_bipush X31.here hx hby d11_14 (v := (7 : Int32)) (by decide) ?_
  refine own_imul X31.here hx hby d11_16 (v := (21 : Int32)) (by decide) ?_
  refine own_iloadN X31.here hx hby d11_17 rfl ?_
  refine own_iadd X31.here hx hby d11_18 (v := (25 : Int32)) (by decide) ?_
  refine own_iloadN X31.here hx hby d11_19 rfl ?_
  refine own_iastore X31 hx hZ e31 V_bN ⟨by decide, by decide⟩ 25 (by decide) (Nat.le_of_ble_eq_true rfl) rfl hby d11_20 N0 g_bN ?_
  intro T32 h32 lo32 X32 e32 N32 W32 V32 z32
  have V33 : Arv Z h32 bN kb .int (28672 : Int32) [(.int x0), (.int x1), (.int x2), (.int x3), (.int x4), (.int x5), (.int x6), (.int x7), (.int x8), (.int x9), (.int x10), (.int x11), (.int x12), (.int x13), (.int x14), (.int x15), (.int x16), (.int x17), (.int x18), (.int x19), (.int x20), (.int x21), (.int x22), (.int x23), (.int x24), (.int p3), (.int x26), (.int x27)] (.int 0) := V32
  have K34 : Keep h0 h32 [bN] := ((Keep.refl h0 [bN]).wr W32 (Or.inl (List.mem_of_getElem? (i := 0) rfl)))
  obtain ⟨fs, hr, hrun, hended, hW, hsame⟩ := X32.leave (v := none) (fun _ => rfl)
  refine own_ret (t := T32.setFrames fs) ?_ ⟨_, hrun, hended, _, _, rfl, ?_, ⟨_, rfl⟩, hW, hsame.mono (by decide) (by decide)⟩
  · exact X32.returnOut hx Bd.returns (hb hby d11_21) hr
  · show Q_set_3_4_28 Z _ _ _ _ _ _ _ _ _ _ _ _ _ _ _ _ _ _ _ _ _ _ _ _ _ _ _ _ _ _ _ _ _ _ h0 n0 _ T32.heap _
    rw [e32]
    exact ⟨rfl, N32, K34, V33⟩
def Q_start_3t (Z : State) (t : Nat) (nm : Nat) (aN : Nat) (bN : Nat) (aS : Nat) (bS : Nat) (p1 : Int32) (p2 : Int32) (ac : Int32) (kN : ClassId) (kb : ClassId) (kS : ClassId) (kc : ClassId) (x0 : Int32) (x1 : Int32) (x2 : Int32) (x3 : Int32) (x4 : Int32) (x5 : Int32) (x6 : Int32) (x7 : Int32) (x8 : Int32) (x9 : Int32) (x10 : Int32) (x11 : Int32) (x12 : Int32) (x13 : Int32) (x14 : Int32) (x15 : Int32) (x16 : Int32) (x17 : Int32) (x18 : Int32) (x19 : Int32) (x20 : Int32) (s0 : Nat) (s1 : Nat) (h0 : Heap) (n0 : Nat) (vR : Option Value) (hR : Heap) (LR : List Loc) : Prop := vR = some (.int 3) ∧ Fr n0 LR ∧ Keep h0 hR [t, bN, bS] ∧ (Exa Z hR t "com/example/boxwood/boxwood/XmlNodeTable") ∧ (Fld Z hR t "com/example/boxwood/boxwood/XmlNodeTable" "size" "I" (.int 4)) ∧ (Fld Z hR t "com/example/boxwood/boxwood/XmlNodeTable" "numbers" "[[I" (.ref aN)) ∧ (Fld Z hR t "com/example/boxwood/boxwood/XmlNodeTable" "strings" "[[Ljava/lang/String;" (.ref aS)) ∧ (Fld Z hR t "com/example/boxwood/boxwood/XmlNodeTable" "attributeCount" "I" (.int ac)) ∧ (Arv Z hR bN kb .int (28672 : Int32) [(.int x0), (.int x1), (.int x2), (.int x3), (.int x4), (.int x5), (.int x6), (.int x7), (.int x8), (.int x9), (.int x10), (.int x11), (.int x12), (.int x13), (.int x14), (.int x15), (.int x16), (.int x17), (.int x18), (.int x19), (.int x20), (.int 0), (.int p1), (.int (-1)), (.int 4), (.int p2), (.int 0), (.int ac)] (.int 0)) ∧ (Arv Z hR bS kc (.object "java/lang/String") (4096 : Int32) [(.ref s0), (.ref s1), .null, (.ref nm)] .null)
set_option maxRecDepth 65536 in
set_option maxHeartbeats 40000000 in
theorem start_3t (l : Launch) (Z : State) (a0 : Array Value) (hw : ∀ d ∈ tables_1, d.before a0 Z = true) (ws : List Jvm.Cond) (t : Nat) (nm : Nat) (aN : Nat) (bN : Nat) (aS : Nat) (bS : Nat) (p1 : Int32) (p2 : Int32) (ac : Int32) (kN : ClassId) (kb : ClassId) (kS : ClassId) (kc : ClassId) (x0 : Int32) (x1 : Int32) (x2 : Int32) (x3 : Int32) (x4 : Int32) (x5 : Int32) (x6 : Int32) (x7 : Int32) (x8 : Int32) (x9 : Int32) (x10 : Int32) (x11 : Int32) (x12 : Int32) (x13 : Int32) (x14 : Int32) (x15 : Int32) (x16 : Int32) (x17 : Int32) (x18 : Int32) (x19 : Int32) (x20 : Int32) (s0 : Nat) (s1 : Nat) (h0 : Heap) (n0 : Nat) (Z0 : n0 ≤ h0.size) (E_t : Exa Z h0 t "com/example/boxwood/boxwood/XmlNodeTable") (F_size_t : Fld Z h0 t "com/example/boxwood/boxwood/XmlNodeTable" "size" "I" (.int 3)) (F_numbers_t : Fld Z h0 t "com/example/boxwood/boxwood/XmlNodeTable" "numbers" "[[I" (.ref aN)) (F_attributeCount_t : Fld Z h0 t "com/example/boxwood/boxwood/XmlNodeTable" "attributeCount" "I" (.int ac)) (V_aN : Arv Z h0 aN kN (.array .int) (1 : Int32) [(.ref bN)] .null) (V_bN : Arv Z h0 bN kb .int (28672 : Int32) [(.int x0), (.int x1), (.int x2), (.int x3), (.int x4), (.int x5), (.int x6), (.int x7), (.int x8), (.int x9), (.int x10), (.int x11), (.int x12), (.int x13), (.int x14), (.int x15), (.int x16), (.int x17), (.int x18), (.int x19), (.int x20)] (.int 0)) (F_strings_t : Fld Z h0 t "com/example/boxwood/boxwood/XmlNodeTable" "strings" "[[Ljava/lang/String;" (.ref aS)) (V_aS : Arv Z h0 aS kS (.array (.object "java/lang/String")) (1 : Int32) [(.ref bS)] .null) (V_bS : Arv Z h0 bS kc (.object "java/lang/String") (4096 : Int32) [(.ref s0), (.ref s1)] .null) (O_bS : Ovr Z kc "java/lang/String") (g_t : n0 ≤ t) (g_bN : n0 ≤ bN) (g_bS : n0 ≤ bS) (E_nm : Exa Z h0 nm "java/lang/String") :
    own_M l (⟨"com/example/boxwood/boxwood/XmlNodeTable", "startElement", "(Ljava/lang/String;II)I"⟩ : MethodName) prog_60_method_3_code 5 (some .int) ws ({ frames := 1, cells := 0, slots := 0, locals := 18 } : Room) Z #[(.ref t), (.ref nm), (.int p1), (.int p2)] h0 (Q_start_3t Z t nm aN bN aS bS p1 p2 ac kN kb kS kc x0 x1 x2 x3 x4 x5 x6 x7 x8 x9 x10 x11 x12 x13 x14 x15 x16 x17 x18 x19 x20 s0 s1 h0 n0) := by
  refine own_body (own := "com/example/boxwood/boxwood/XmlNodeTable") rfl (plainFor_of_name pn_9) (fun m => ef_start_0 m t nm p1 p2) ?_
  intro p e s m below meth c s₁ Bd hml hZ hh hx hby hown X0 e0
  have N0 := Fr.nil n0
  have lt21 : h0.size > t := E_t.lt
  have lt22 : h0.size > aN := V_aN.lt
  have lt23 : h0.size > bN := V_bN.lt
  have lt24 : h0.size > aS := V_aS.lt
  have lt25 : h0.size > bS := V_bS.lt
  have lt26 : h0.size > nm := E_nm.lt
  refine own_aloadN X0.here hx hby d9_0 rfl rfl ?_
  refine own_iconst X0.here hx hby d9_1 (v := (0 : Int32)) (by decide) ?_
  refine own_iloadN X0.here hx hby d9_2 rfl ?_
  refine own_iconst X0.here hx hby d9_3 (v := (-1 : Int32)) (by decide) ?_
  refine own_private X0 hx hZ hown (own_w hw 64 rfl) (own_w hw 65 rfl) (own_w hw 35 rfl) (own_w hw 66 rfl) (own_w hw 36 rfl) (own_w hw 67 rfl) (by decide) (add_3 l Z a0 hw [] t aN bN (0 : Int32) p1 (-1 : Int32) ac kN kb x0 x1 x2 x3 x4 x5 x6 x7 x8 x9 x10 x11 x12 x13 x14 x15 x16 x17 x18 x19 x20 aS h0 n0 Z0 E_t F_size_t F_numbers_t F_attributeCount_t V_aN V_bN g_t g_bN F_strings_t) 0 (Nat.le_of_eq rfl) (by decide) (by decide) (by rw [hml]; rfl) (argsL := [(.int 0), (.int p1), (.int (-1))]) (st := []) E_t (lenOf pd_1 rfl) rfl rfl (by decide) (by decide) e0 hby d9_4 ?_
  intro T27 v27 L27 X27 hQ27
  obtain ⟨rfl, Nq27, K27, P27_0, P27_1, P27_2, P27_3, P27_4, P27_5⟩ := hQ27
  have N27 := Fr.app N0 Nq27
  have z28 : h0.size ≤ T27.heap.size := K27.1
  have lt29 : T27.heap.size > t := P27_0.lt
  have lt30 : T27.heap.size > bN := P27_4.lt
  refine own_sh (T := T27) 7 #[.val (.ref t), .val (.ref nm), .val (.int p1), .val (.int p2), .unset] [(.int 3)] ?_
  refine own_istore X27.here hx hby d9_7 (l' := #[.val (.ref t), .val (.ref nm), .val (.int p1), .val (.int p2), .val (.int 3)]) rfl ?_
  refine own_aloadN X27.here hx hby d9_9 rfl rfl ?_
  refine own_getF X27 hx hZ hown (host := "") (Or.inl (own_w hw 47 rfl)) Via.refl rfl P27_5 hby d9_10 ?_
  intro T31 X31 e31
  refine own_iload X31.here hx hby d9_13 rfl ?_
  refine own_bipush X31.here hx hby d9_15 (v := (12 : Int32)) (by decide) ?_
  refine own_iushr X31.here hx hby d9_17 (v := (0 : Int32)) (by decide) ?_
  have f32 : Arv Z T27.heap aS kS (.array (.object "java/lang/String")) (1 : Int32) [(.ref bS)] .null := (V_aS.keep K27 (ninS (Ne.symm (own_ne_oa E_t (own_w hw 35 rfl) V_aS)) (ninS (own_ne_aa V_aS V_bN (by decide)) nin0)))
  refine own_aaload X31 hx hZ e31 f32 rfl ⟨by decide, by decide⟩ (v := (.ref bS)) rfl hby d9_18 ?_
  refine own_iload X31.here hx hby d9_19 rfl ?_
  refine own_sipush X31.here hx hby d9_21 (v := (4095 : Int32)) (by decide) ?_
  refine own_iand X31.here hx hby d9_24 (v := (3 : Int32)) (by decide) ?_
  refine own_aloadN X31.here hx hby d9_25 rfl rfl ?_
  have f33 : Arv Z T27.heap bS kc (.object "java/lang/String") (4096 : Int32) [(.ref s0), (.ref s1)] .null := (V_bS.keep K27 (ninS (Ne.symm (own_ne_oa E_t (own_w hw 35 rfl) V_bS)) (ninS (own_ne_aa V_bS V_bN (by decide)) nin0)))
  have V35 : Arv Z T27.heap bS kc (.object "java/lang/String") (4096 : Int32) [(.ref s0), (.ref s1), .null, .null] .null := f33.pad (pad_rep [(.ref s0), (.ref s1)] .null 2)
  have f36 : Exa Z T27.heap nm "java/lang/String" := (E_nm.keep K27)
  refine own_aastore X31 hx hZ e31 V35 rfl rfl (own_stoV V35 O_bS (Ins.self f36)) ⟨by decide, by decide⟩ 3 (by decide) (Nat.le_of_ble_eq_true rfl) hby d9_26 N27 g_bS ?_
  intro T34 h34 lo34 X34 e34 N34 W34 V34 z34
  have V37 : Arv Z h34 bS kc (.object "java/lang/String") (4096 : Int32) [(.ref s0), (.ref s1), .null, (.ref nm)] .null := V34
  refine own_aloadN X34.here hx hby d9_27 rfl rfl ?_
  refine own_iload X34.here hx hby d9_28 rfl ?_
  refine own_iconst X34.here hx hby d9_30 (v := (4 : Int32)) (by decide) ?_
  refine own_iloadN X34.here hx hby d9_31 rfl ?_
  have f38 : Fld Z h34 t "com/example/boxwood/boxwood/XmlNodeTable" "numbers" "[[I" (.ref aN) := (P27_2.other W34 (Or.inl (own_ne_oa E_t (own_w hw 35 rfl) V_bS)))
  have f39 : Arv Z h34 aN kN (.array .int) (1 : Int32) [(.ref bN)] .null := ((V_aN.keep K27 (ninS (Ne.symm (own_ne_oa E_t (own_w hw 35 rfl) V_aN)) (ninS (own_ne_aa V_aN V_bN (by decide)) nin0))).other W34 (own_ne_aa V_aN V_bS (by decide)))
  have f40 : Arv Z h34 bN kb .int (28672 : Int32) [(.int x0), (.int x1), (.int x2), (.int x3), (.int x4), (.int x5), (.int x6), (.int x7), (.int x8), (.int x9), (.int x10), (.int x11), (.int x12), (.int x13), (.int x14), (.int x15), (.int x16), (.int x17), (.int x18), (.int x19), (.int x20), (.int 0), (.int p1), (.int (-1)), (.int 4), (.int 0), (.int 0), (.int ac)] (.int 0) := (P27_4.other W34 (own_ne_aa V_bN V_bS (by decide)))
  have z42 : n0 ≤ h34.size := by omega
  have f43 : Exa Z h34 t "com/example/boxwood/boxwood/XmlNodeTable" := (P27_0.wr W34)
  refine own_private X34 hx hZ hown (own_w hw 77 rfl) (own_w hw 78 rfl) (own_w hw 35 rfl) (own_w hw 79 rfl) (own_w hw 36 rfl) (own_w hw 80 rfl) (by decide) (set_3_4_28 l Z a0 hw [] t aN bN p2 kN kb x0 x1 x2 x3 x4 x5 x6 x7 x8 x9 x10 x11 x12 x13 x14 x15 x16 x17 x18 x19 x20 (0 : Int32) p1 (-1 : Int32) (4 : Int32) (0 : Int32) (0 : Int32) ac h34 n0 z42 f38 f39 f40 g_bN) 0 (Nat.le_of_eq rfl) (by decide) (by decide) (by rw [hml]; rfl) (argsL := [(.int 3), (.int 4), (.int p2)]) (st := []) f43 (lenOf pd_2 rfl) rfl rfl (by decide) (by decide) e34 hby d9_32 ?_
  intro T41 v41 L41 X41 hQ41
  obtain ⟨rfl, Nq41, K41, P41_0⟩ := hQ41
  have N41 := Fr.app N34 Nq41
  have z44 : h34.size ≤ T41.heap.size := K41.1
  have lt45 : T41.heap.size > bN := P41_0.lt
  refine own_sh (T := T41) 35 #[.val (.ref t), .val (.ref nm), .val (.int p1), .val (.int p2), .val (.int 3)] [] ?_
  refine own_iload X41.here hx hby d9_35 rfl ?_
  have K46 : Keep h0 T41.heap [t, bN, bS] := ((((Keep.refl h0 [t, bN, bS]).trans K27 (allS (P := fun xq_ => xq_ ∈ [t, bN, bS] ∨ h0.size ≤ xq_) (Or.inl (List.mem_of_getElem? (i := 0) rfl)) (allS (P := fun xq_ => xq_ ∈ [t, bN, bS] ∨ h0.size ≤ xq_) (Or.inl (List.mem_of_getElem? (i := 1) rfl)) all0))).wr W34 (Or.inl (List.mem_of_getElem? (i := 2) rfl))).trans K41 (allS (P := fun xq_ => xq_ ∈ [t, bN, bS] ∨ h0.size ≤ xq_) (Or.inl (List.mem_of_getElem? (i := 1) rfl)) all0))
  have f47 : Exa Z T41.heap t "com/example/boxwood/boxwood/XmlNodeTable" := (f43.keep K41)
  have f48 : Fld Z T41.heap t "com/example/boxwood/boxwood/XmlNodeTable" "size" "I" (.int 4) := ((P27_1.other W34 (Or.inl (own_ne_oa E_t (own_w hw 35 rfl) V_bS))).keep K41 (ninS (own_ne_oa E_t (own_w hw 35 rfl) V_bN) nin0))
  have f49 : Fld Z T41.heap t "com/example/boxwood/boxwood/XmlNodeTable" "numbers" "[[I" (.ref aN) := (f38.keep K41 (ninS (own_ne_oa E_t (own_w hw 35 rfl) V_bN) nin0))
  have f50 : Fld Z T41.heap t "com/example/boxwood/boxwood/XmlNodeTable" "strings" "[[Ljava/lang/String;" (.ref aS) := ((P27_5.other W34 (Or.inl (own_ne_oa E_t (own_w hw 35 rfl) V_bS))).keep K41 (ninS (own_ne_oa E_t (own_w hw 35 rfl) V_bN) nin0))
  have f51 : Fld Z T41.heap t "com/example/boxwood/boxwood/XmlNodeTable" "attributeCount" "I" (.int ac) := ((P27_3.other W34 (Or.inl (own_ne_oa E_t (own_w hw 35 rfl) V_bS))).keep K41 (ninS (own_ne_oa E_t (own_w hw 35 rfl) V_bN) nin0))
  have f52 : Arv Z T41.heap bS kc (.object "java/lang/String") (4096 : Int32) [(.ref s0), (.ref s1), .null, (.ref nm)] .null := (V37.keep K41 (ninS (own_ne_aa V_bS V_bN (by decide)) nin0))
  obtain ⟨fs, hr, hrun, hended, hW, hsame⟩ := X41.leave (v := some (.int 3)) (fun h => by rw [Bd.returns] at h; cases h)
  refine own_ret (t := T41.setFrames fs) ?_ ⟨_, hrun, hended, _, _, rfl, ?_, ⟨_, rfl⟩, hW, hsame.mono (by decide) (by decide)⟩
  · exact retOut X41 hx Bd.returns rfl (Or.inl ⟨rfl, Or.inl rfl, _, rfl⟩) (hb hby d9_37) hr
  · show Q_start_3t Z _ _ _ _ _ _ _ _ _ _ _ _ _ _ _ _ _ _ _ _ _ _ _ _ _ _ _ _ _ _ _ _ _ _ _ _ h0 n0 _ T41.heap _
    exact ⟨rfl, N41, K46, f47, f48, f49, f50, f51, P41_0, f52⟩
def Q_start_3v (Z : State) (t : Nat) (nm : Nat) (aN : Nat) (bN : Nat) (aS : Nat) (bS : Nat) (p1 : Int32) (p2 : Int32) (ac : Int32) (kN : ClassId) (kb : ClassId) (kS : ClassId) (kc : ClassId) (x0 : Int32) (x1 : Int32) (x2 : Int32) (x3 : Int32) (x4 : Int32) (x5 : Int32) (x6 : Int32) (x7 : Int32) (x8 : Int32) (x9 : Int32) (x10 : Int32) (x11 : Int32) (x12 : Int32) (x13 : Int32) (x14 : Int32) (x15 : Int32) (x16 : Int32) (x17 : Int32) (x18 : Int32) (x19 : Int32) (x20 : Int32) (s0 : Nat) (s2 : Nat) (h0 : Heap) (n0 : Nat) (vR : Option Value) (hR : Heap) (LR : List Loc) : Prop := vR = some (.int 3) ∧ Fr n0 LR ∧ Keep h0 hR [t, bN, bS] ∧ (Exa Z hR t "com/example/boxwood/boxwood/XmlNodeTable") ∧ (Fld Z hR t "com/example/boxwood/boxwood/XmlNodeTable" "size" "I" (.int 4)) ∧ (Fld Z hR t "com/example/boxwood/boxwood/XmlNodeTable" "numbers" "[[I" (.ref aN)) ∧ (Fld Z hR t "com/example/boxwood/boxwood/XmlNodeTable" "strings" "[[Ljava/lang/String;" (.ref aS)) ∧ (Fld Z hR t "com/example/boxwood/boxwood/XmlNodeTable" "attributeCount" "I" (.int ac)) ∧ (Arv Z hR bN kb .int (28672 : Int32) [(.int x0), (.int x1), (.int x2), (.int x3), (.int x4), (.int x5), (.int x6), (.int x7), (.int x8), (.int x9), (.int x10), (.int x11), (.int x12), (.int x13), (.int x14), (.int x15), (.int x16), (.int x17), (.int x18), (.int x19), (.int x20), (.int 0), (.int p1), (.int (-1)), (.int 4), (.int p2), (.int 0), (.int ac)] (.int 0)) ∧ (Arv Z hR bS kc (.object "java/lang/String") (4096 : Int32) [(.ref s0), .null, (.ref s2), (.ref nm)] .null)
set_option maxRecDepth 65536 in
set_option maxHeartbeats 40000000 in
theorem start_3v (l : Launch) (Z : State) (a0 : Array Value) (hw : ∀ d ∈ tables_1, d.before a0 Z = true) (ws : List Jvm.Cond) (t : Nat) (nm : Nat) (aN : Nat) (bN : Nat) (aS : Nat) (bS : Nat) (p1 : Int32) (p2 : Int32) (ac : Int32) (kN : ClassId) (kb : ClassId) (kS : ClassId) (kc : ClassId) (x0 : Int32) (x1 : Int32) (x2 : Int32) (x3 : Int32) (x4 : Int32) (x5 : Int32) (x6 : Int32) (x7 : Int32) (x8 : Int32) (x9 : Int32) (x10 : Int32) (x11 : Int32) (x12 : Int32) (x13 : Int32) (x14 : Int32) (x15 : Int32) (x16 : Int32) (x17 : Int32) (x18 : Int32) (x19 : Int32) (x20 : Int32) (s0 : Nat) (s2 : Nat) (h0 : Heap) (n0 : Nat) (Z0 : n0 ≤ h0.size) (E_t : Exa Z h0 t "com/example/boxwood/boxwood/XmlNodeTable") (F_size_t : Fld Z h0 t "com/example/boxwood/boxwood/XmlNodeTable" "size" "I" (.int 3)) (F_numbers_t : Fld Z h0 t "com/example/boxwood/boxwood/XmlNodeTable" "numbers" "[[I" (.ref aN)) (F_attributeCount_t : Fld Z h0 t "com/example/boxwood/boxwood/XmlNodeTable" "attributeCount" "I" (.int ac)) (V_aN : Arv Z h0 aN kN (.array .int) (1 : Int32) [(.ref bN)] .null) (V_bN : Arv Z h0 bN kb .int (28672 : Int32) [(.int x0), (.int x1), (.int x2), (.int x3), (.int x4), (.int x5), (.int x6), (.int x7), (.int x8), (.int x9), (.int x10), (.int x11), (.int x12), (.int x13), (.int x14), (.int x15), (.int x16), (.int x17), (.int x18), (.int x19), (.int x20)] (.int 0)) (F_strings_t : Fld Z h0 t "com/example/boxwood/boxwood/XmlNodeTable" "strings" "[[Ljava/lang/String;" (.ref aS)) (V_aS : Arv Z h0 aS kS (.array (.object "java/lang/String")) (1 : Int32) [(.ref bS)] .null) (V_bS : Arv Z h0 bS kc (.object "java/lang/String") (4096 : Int32) [(.ref s0), .null, (.ref s2)] .null) (O_bS : Ovr Z kc "java/lang/String") (g_t : n0 ≤ t) (g_bN : n0 ≤ bN) (g_bS : n0 ≤ bS) (E_nm : Exa Z h0 nm "java/lang/String") :
    own_M l (⟨"com/example/boxwood/boxwood/XmlNodeTable", "startElement", "(Ljava/lang/String;II)I"⟩ : MethodName) prog_60_method_3_code 5 (some .int) ws ({ frames := 1, cells := 0, slots := 0, locals := 18 } : Room) Z #[(.ref t), (.ref nm), (.int p1), (.int p2)] h0 (Q_start_3v Z t nm aN bN aS bS p1 p2 ac kN kb kS kc x0 x1 x2 x3 x4 x5 x6 x7 x8 x9 x10 x11 x12 x13 x14 x15 x16 x17 x18 x19 x20 s0 s2 h0 n0) := by
  refine own_body (own := "com/example/boxwood/boxwood/XmlNodeTable") rfl (plainFor_of_name pn_9) (fun m => ef_start_0 m t nm p1 p2) ?_
  intro p e s m below meth c s₁ Bd hml hZ hh hx hby hown X0 e0
  have N0 := Fr.nil n0
  have lt21 : h0.size > t := E_t.lt
  have lt22 : h0.size > aN := V_aN.lt
  have lt23 : h0.size > bN := V_bN.lt
  have lt24 : h0.size > aS := V_aS.lt
  have lt25 : h0.size > bS := V_bS.lt
  have lt26 : h0.size > nm := E_nm.lt
  refine own_aloadN X0.here hx hby d9_0 rfl rfl ?_
  refine own_iconst X0.here hx hby d9_1 (v := (0 : Int32)) (by decide) ?_
  refine own_iloadN X0.here hx hby d9_2 rfl ?_
  refine own_iconst X0.here hx hby d9_3 (v := (-1 : Int32)) (by decide) ?_
  refine own_private X0 hx hZ hown (own_w hw 64 rfl) (own_w hw 65 rfl) (own_w hw 35 rfl) (own_w hw 66 rfl) (own_w hw 36 rfl) (own_w hw 67 rfl) (by decide) (add_3 l Z a0 hw [] t aN bN (0 : Int32) p1 (-1 : Int32) ac kN kb x0 x1 x2 x3 x4 x5 x6 x7 x8 x9 x10 x11 x12 x13 x14 x15 x16 x17 x18 x19 x20 aS h0 n0 Z0 E_t F_size_t F_numbers_t F_attributeCount_t V_aN V_bN g_t g_bN F_strings_t) 0 (Nat.le_of_eq rfl) (by decide) (by decide) (by rw [hml]; rfl) (argsL := [(.int 0), (.int p1), (.int (-1))]) (st := []) E_t (lenOf pd_1 rfl) rfl rfl (by decide) (by decide) e0 hby d9_4 ?_
  intro T27 v27 L27 X27 hQ27
  obtain ⟨rfl, Nq27, K27, P27_0, P27_1, P27_2, P27_3, P27_4, P27_5⟩ := hQ27
  have N27 := Fr.app N0 Nq27
  have z28 : h0.size ≤ T27.heap.size := K27.1
  have lt29 : T27.heap.size > t := P27_0.lt
  have lt30 : T27.heap.size > bN := P27_4.lt
  refine own_sh (T := T27) 7 #[.val (.ref t), .val (.ref nm), .val (.int p1), .val (.int p2), .unset] [(.int 3)] ?_
  refine own_istore X27.here hx hby d9_7 (l' := #[.val (.ref t), .val (.ref nm), .val (.int p1), .val (.int p2), .val (.int 3)]) rfl ?_
  refine own_aloadN X27.here hx hby d9_9 rfl rfl ?_
  refine own_getF X27 hx hZ hown (host := "") (Or.inl (own_w hw 47 rfl)) Via.refl rfl P27_5 hby d9_10 ?_
  intro T31 X31 e31
  refine own_iload X31.here hx hby d9_13 rfl ?_
  refine own_bipush X31.here hx hby d9_15 (v := (12 : Int32)) (by decide) ?_
  refine own_iushr X31.here hx hby d9_17 (v := (0 : Int32)) (by decide) ?_
  have f32 : Arv Z T27.heap aS kS (.array (.object "java/lang/String")) (1 : Int32) [(.ref bS)] .null := (V_aS.keep K27 (ninS (Ne.symm (own_ne_oa E_t (own_w hw 35 rfl) V_aS)) (ninS (own_ne_aa V_aS V_bN (by decide)) nin0)))
  refine own_aaload X31 hx hZ e31 f32 rfl ⟨by decide, by decide⟩ (v := (.ref bS)) rfl hby d9_18 ?_
  refine own_iload X31.here hx hby d9_19 rfl ?_
  refine own_sipush X31.here hx hby d9_21 (v := (4095 : Int32)) (by decide) ?_
  refine own_iand X31.here hx hby d9_24 (v := (3 : Int32)) (by decide) ?_
  refine own_aloadN X31.here hx hby d9_25 rfl rfl ?_
  have f33 : Arv Z T27.heap bS kc (.object "java/lang/String") (4096 : Int32) [(.ref s0), .null, (.ref s2)] .null := (V_bS.keep K27 (ninS (Ne.symm (own_ne_oa E_t (own_w hw 35 rfl) V_bS)) (ninS (own_ne_aa V_bS V_bN (by decide)) nin0)))
  have V35 : Arv Z T27.heap bS kc (.object "java/lang/String") (4096 : Int32) [(.ref s0), .null, (.ref s2), .null] .null := f33.pad (pad_rep [(.ref s0), .null, (.ref s2)] .null 1)
  have f36 : Exa Z T27.heap nm "java/lang/String" := (E_nm.keep K27)
  refine own_aastore X31 hx hZ e31 V35 rfl rfl (own_stoV V35 O_bS (Ins.self f36)) ⟨by decide, by decide⟩ 3 (by decide) (Nat.le_of_ble_eq_true rfl) hby d9_26 N27 g_bS ?_
  intro T34 h34 lo34 X34 e34 N34 W34 V34 z34
  have V37 : Arv Z h34 bS kc (.object "java/lang/String") (4096 : Int32) [(.ref s0), .null, (.ref s2), (.ref nm)] .null := V34
  refine own_aloadN X34.here hx hby d9_27 rfl rfl ?_
  refine own_iload X34.here hx hby d9_28 rfl ?_
  refine own_iconst X34.here hx hby d9_30 (v := (4 : Int32)) (by decide) ?_
  refine own_iloadN X34.here hx hby d9_31 rfl ?_
  have f38 : Fld Z h34 t "com/example/boxwood/boxwood/XmlNodeTable" "numbers" "[[I" (.ref aN) := (P27_2.other W34 (Or.inl (own_ne_oa E_t (own_w hw 35 rfl) V_bS)))
  have f39 : Arv Z h34 aN kN (.array .int) (1 : Int32) [(.ref bN)] .null := ((V_aN.keep K27 (ninS (Ne.symm (own_ne_oa E_t (own_w hw 35 rfl) V_aN)) (ninS (own_ne_aa V_aN V_bN (by decide)) nin0))).other W34 (own_ne_aa V_aN V_bS (by decide)))
  have f40 : Arv Z h34 bN kb .int (28672 : Int32) [(.int x0), (.int x1), (.int x2), (.int x3), (.int x4), (.int x5), (.int x6), (.int x7), (.int x8), (.int x9), (.int x10), (.int x11), (.int x12), (.int x13), (.int x14), (.int x15), (.int x16), (.int x17), (.int x18), (.int x19), (.int x20), (.int 0), (.int p1), (.int (-1)), (.int 4), (.int 0), (.int 0), (.int ac)] (.int 0) := (P27_4.other W34 (own_ne_aa V_bN V_bS (by decide)))
  have z42 : n0 ≤ h34.size := by omega
  have f43 : Exa Z h34 t "com/example/boxwood/boxwood/XmlNodeTable" := (P27_0.wr W34)
  refine own_private X34 hx hZ hown (own_w hw 77 rfl) (own_w hw 78 rfl) (own_w hw 35 rfl) (own_w hw 79 rfl) (own_w hw 36 rfl) (own_w hw 80 rfl) (by decide) (set_3_4_28 l Z a0 hw [] t aN bN p2 kN kb x0 x1 x2 x3 x4 x5 x6 x7 x8 x9 x10 x11 x12 x13 x14 x15 x16 x17 x18 x19 x20 (0 : Int32) p1 (-1 : Int32) (4 : Int32) (0 : Int32) (0 : Int32) ac h34 n0 z42 f38 f39 f40 g_bN) 0 (Nat.le_of_eq rfl) (by decide) (by decide) (by rw [hml]; rfl) (argsL := [(.int 3), (.int 4), (.int p2)]) (st := []) f43 (lenOf pd_2 rfl) rfl rfl (by decide) (by decide) e34 hby d9_32 ?_
  intro T41 v41 L41 X41 hQ41
  obtain ⟨rfl, Nq41, K41, P41_0⟩ := hQ41
  have N41 := Fr.app N34 Nq41
  have z44 : h34.size ≤ T41.heap.size := K41.1
  have lt45 : T41.heap.size > bN := P41_0.lt
  refine own_sh (T := T41) 35 #[.val (.ref t), .val (.ref nm), .val (.int p1), .val (.int p2), .val (.int 3)] [] ?_
  refine own_iload X41.here hx hby d9_35 rfl ?_
  have K46 : Keep h0 T41.heap [t, bN, bS] := ((((Keep.refl h0 [t, bN, bS]).trans K27 (allS (P := fun xq_ => xq_ ∈ [t, bN, bS] ∨ h0.size ≤ xq_) (Or.inl (List.mem_of_getElem? (i := 0) rfl)) (allS (P := fun xq_ => xq_ ∈ [t, bN, bS] ∨ h0.size ≤ xq_) (Or.inl (List.mem_of_getElem? (i := 1) rfl)) all0))).wr W34 (Or.inl (List.mem_of_getElem? (i := 2) rfl))).trans K41 (allS (P := fun xq_ => xq_ ∈ [t, bN, bS] ∨ h0.size ≤ xq_) (Or.inl (List.mem_of_getElem? (i := 1) rfl)) all0))
  have f47 : Exa Z T41.heap t "com/example/boxwood/boxwood/XmlNodeTable" := (f43.keep K41)
  have f48 : Fld Z T41.heap t "com/example/boxwood/boxwood/XmlNodeTable" "size" "I" (.int 4) := ((P27_1.other W34 (Or.inl (own_ne_oa E_t (own_w hw 35 rfl) V_bS))).keep K41 (ninS (own_ne_oa E_t (own_w hw 35 rfl) V_bN) nin0))
  have f49 : Fld Z T41.heap t "com/example/boxwood/boxwood/XmlNodeTable" "numbers" "[[I" (.ref aN) := (f38.keep K41 (ninS (own_ne_oa E_t (own_w hw 35 rfl) V_bN) nin0))
  have f50 : Fld Z T41.heap t "com/example/boxwood/boxwood/XmlNodeTable" "strings" "[[Ljava/lang/String;" (.ref aS) := ((P27_5.other W34 (Or.inl (own_ne_oa E_t (own_w hw 35 rfl) V_bS))).keep K41 (ninS (own_ne_oa E_t (own_w hw 35 rfl) V_bN) nin0))
  have f51 : Fld Z T41.heap t "com/example/boxwood/boxwood/XmlNodeTable" "attributeCount" "I" (.int ac) := ((P27_3.other W34 (Or.inl (own_ne_oa E_t (own_w hw 35 rfl) V_bS))).keep K41 (ninS (own_ne_oa E_t (own_w hw 35 rfl) V_bN) nin0))
  have f52 : Arv Z T41.heap bS kc (.object "java/lang/String") (4096 : Int32) [(.ref s0), .null, (.ref s2), (.ref nm)] .null := (V37.keep K41 (ninS (own_ne_aa V_bS V_bN (by decide)) nin0))
  obtain ⟨fs, hr, hrun, hended, hW, hsame⟩ := X41.leave (v := some (.int 3)) (fun h => by rw [Bd.returns] at h; cases h)
  refine own_ret (t := T41.setFrames fs) ?_ ⟨_, hrun, hended, _, _, rfl, ?_, ⟨_, rfl⟩, hW, hsame.mono (by decide) (by decide)⟩
  · exact retOut X41 hx Bd.returns rfl (Or.inl ⟨rfl, Or.inl rfl, _, rfl⟩) (hb hby d9_37) hr
  · show Q_start_3v Z _ _ _ _ _ _ _ _ _ _ _ _ _ _ _ _ _ _ _ _ _ _ _ _ _ _ _ _ _ _ _ _ _ _ _ _ h0 n0 _ T41.heap _
    exact ⟨rfl, N41, K46, f47, f48, f49, f50, f51, P41_0, f52⟩
theorem ef_name_0_ssns (m : MethodId) (x0 : Nat) (x1 : Int32) : entryFrame m #[(.ref x0), (.int x1)] 2 = mkF m 0 #[.val (.ref x0), .val (.int x1)] [] := by first | (simp [entryFrame, mkF, argsToLocals, Value.category]; done) | rfl
theorem pn_17 : plainName "com/example/boxwood/boxwood/XmlNodeTable" = true := by first | (simp [plainName, overriddenIn]; done) | decide +kernel
theorem d17_0 : decode prog_60_method_18_code 0 = .ok (.aload_n 0, 1) := by decide +kernel
theorem d17_1 : decode prog_60_method_18_code 1 = .ok (.getfield 17, 3) := by decide +kernel
theorem d17_4 : decode prog_60_method_18_code 4 = .ok (.iload_n 1, 1) := by decide +kernel
theorem d17_5 : decode prog_60_method_18_code 5 = .ok (.bipush 12, 2) := by decide +kernel
theorem d17_7 : decode prog_60_method_18_code 7 = .ok (.iushr, 1) := by decide +kernel
theorem d17_8 : decode prog_60_method_18_code 8 = .ok (.aaload, 1) := by decide +kernel
theorem d17_9 : decode prog_60_method_18_code 9 = .ok (.iload_n 1, 1) := by decide +kernel
theorem d17_10 : decode prog_60_method_18_code 10 = .ok (.sipush 4095, 3) := by decide +kernel
theorem d17_13 : decode prog_60_method_18_code 13 = .ok (.iand, 1) := by decide +kernel
theorem d17_14 : decode prog_60_method_18_code 14 = .ok (.aaload, 1) := by decide +kernel
theorem d17_15 : decode prog_60_method_18_code 15 = .ok (.areturn, 1) := by decide +kernel
def Q_name_0_ssns (Z : State) (t : Nat) (aS : Nat) (bS : Nat) (kS : ClassId) (kc : ClassId) (s0 : Nat) (s1 : Nat) (s3 : Nat) (h0 : Heap) (n0 : Nat) (vR : Option Value) (hR : Heap) (LR : List Loc) : Prop := vR = some (.ref s0) ∧ Fr n0 LR ∧ hR = h0
set_option maxRecDepth 65536 in
set_option maxHeartbeats 40000000 in
theorem name_0_ssns (l : Launch) (Z : State) (a0 : Array Value) (hw : ∀ d ∈ tables_1, d.before a0 Z = true) (ws : List Jvm.Cond) (t : Nat) (aS : Nat) (bS : Nat) (kS : ClassId) (kc : ClassId) (s0 : Nat) (s1 : Nat) (s3 : Nat) (h0 : Heap) (n0 : Nat) (Z0 : n0 ≤ h0.size) (F_strings_t : Fld Z h0 t "com/example/boxwood/boxwood/XmlNodeTable" "strings" "[[Ljava/lang/String;" (.ref aS)) (V_aS : Arv Z h0 aS kS (.array (.object "java/lang/String")) (1 : Int32) [(.ref bS)] .null) (V_bS : Arv Z h0 bS kc (.object "java/lang/String") (4096 : Int32) [(.ref s0), (.ref s1), .null, (.ref s3)] .null) :
    own_M l (⟨"com/example/boxwood/boxwood/XmlNodeTable", "name", "(I)Ljava/lang/String;"⟩ : MethodName) prog_60_method_18_code 2 (some (.object "java/lang/String")) ws ({ frames := 0, cells := 0, slots := 0, locals := 0 } : Room) Z #[(.ref t), (.int 0)] h0 (Q_name_0_ssns Z t aS bS kS kc s0 s1 s3 h0 n0) := by
  refine own_body (own := "com/example/boxwood/boxwood/XmlNodeTable") rfl (plainFor_of_name pn_17) (fun m => ef_name_0_ssns m t (0 : Int32)) ?_
  intro p e s m below meth c s₁ Bd hml hZ hh hx hby hown X0 e0
  have N0 := Fr.nil n0
  have lt2 : h0.size > t := F_strings_t.lt
  have lt4 : h0.size > aS := V_aS.lt
  have lt5 : h0.size > bS := V_bS.lt
  refine own_aloadN X0.here hx hby d17_0 rfl rfl ?_
  refine own_getF X0 hx hZ hown (host := "") (Or.inl (own_w hw 47 rfl)) Via.refl e0 F_strings_t hby d17_1 ?_
  intro T6 X6 e6
  refine own_iloadN X6.here hx hby d17_4 rfl ?_
  refine own_bipush X6.here hx hby d17_5 (v := (12 : Int32)) (by decide) ?_
  refine own_iushr X6.here hx hby d17_7 (v := (0 : Int32)) (by decide) ?_
  refine own_aaload X6 hx hZ e6 V_aS rfl ⟨by decide, by decide⟩ (v := (.ref bS)) rfl hby d17_8 ?_
  refine own_iloadN X6.here hx hby d17_9 rfl ?_
  refine own_sipush X6.here hx hby d17_10 (v := (4095 : Int32)) (by decide) ?_
  refine own_iand X6.here hx hby d17_13 (v := (0 : Int32)) (by decide) ?_
  refine own_aaload X6 hx hZ e6 V_bS rfl ⟨by decide, by decide⟩ (v := (.ref s0)) rfl hby d17_14 ?_
  obtain ⟨fs, hr, hrun, hended, hW, hsame⟩ := X6.leave (v := some (.ref s0)) (fun h => by rw [Bd.returns] at h; cases h)
  refine own_ret (t := T6.setFrames fs) ?_ ⟨_, hrun, hended, _, _, rfl, ?_, ⟨_, rfl⟩, hW, hsame.mono (by decide) (by decide)⟩
  · exact retOut X6 hx Bd.returns rfl (Or.inr (Or.inr (Or.inr (Or.inr ⟨rfl, rfl, rfl⟩)))) (hb hby d17_15) hr
  · show Q_name_0_ssns Z _ _ _ _ _ _ _ _ h0 n0 _ T6.heap _
    rw [e6]
    exact ⟨rfl, N0, rfl⟩
def Q_name_3_ssns (Z : State) (t : Nat) (aS : Nat) (bS : Nat) (kS : ClassId) (kc : ClassId) (s0 : Nat) (s1 : Nat) (s3 : Nat) (h0 : Heap) (n0 : Nat) (vR : Option Value) (hR : Heap) (LR : List Loc) : Prop := vR = some (.ref s3) ∧ Fr n0 LR ∧ hR = h0
set_option maxRecDepth 65536 in
set_option maxHeartbeats 40000000 in
theorem name_3_ssns (l : Launch) (Z : State) (a0 : Array Value) (hw : ∀ d ∈ tables_1, d.before a0 Z = true) (ws : List Jvm.Cond) (t : Nat) (aS : Nat) (bS : Nat) (kS : ClassId) (kc : ClassId) (s0 : Nat) (s1 : Nat) (s3 : Nat) (h0 : Heap) (n0 : Nat) (Z0 : n0 ≤ h0.size) (F_strings_t : Fld Z h0 t "com/example/boxwood/boxwood/XmlNodeTable" "strings" "[[Ljava/lang/String;" (.ref aS)) (V_aS : Arv Z h0 aS kS (.array (.object "java/lang/String")) (1 : Int32) [(.ref bS)] .null) (V_bS : Arv Z h0 bS kc (.object "java/lang/String") (4096 : Int32) [(.ref s0), (.ref s1), .null, (.ref s3)] .null) :
    own_M l (⟨"com/example/boxwood/boxwood/XmlNodeTable", "name", "(I)Ljava/lang/String;"⟩ : MethodName) prog_60_method_18_code 2 (some (.object "java/lang/String")) ws ({ frames := 0, cells := 0, slots := 0, locals := 0 } : Room) Z #[(.ref t), (.int 3)] h0 (Q_name_3_ssns Z t aS bS kS kc s0 s1 s3 h0 n0) := by
  refine own_body (own := "com/example/boxwood/boxwood/XmlNodeTable") rfl (plainFor_of_name pn_17) (fun m => ef_name_0_ssns m t (3 : Int32)) ?_
  intro p e s m below meth c s₁ Bd hml hZ hh hx hby hown X0 e0
  have N0 := Fr.nil n0
  have lt2 : h0.size > t := F_strings_t.lt
  have lt4 : h0.size > aS := V_aS.lt
  have lt5 : h0.size > bS := V_bS.lt
  refine own_aloadN X0.here hx hby d17_0 rfl rfl ?_
  refine own_getF X0 hx hZ hown (host := "") (Or.inl (own_w hw 47 rfl)) Via.refl e0 F_strings_t hby d17_1 ?_
  intro T6 X6 e6
  refine own_iloadN X6.here hx hby d17_4 rfl ?_
  refine own_bipush X6.here hx hby d17_5 (v := (12 : Int32)) (by decide) ?_
  refine own_iushr X6.here hx hby d17_7 (v := (0 : Int32)) (by decide) ?_
  refine own_aaload X6 hx hZ e6 V_aS rfl ⟨by decide, by decide⟩ (v := (.ref bS)) rfl hby d17_8 ?_
  refine own_iloadN X6.here hx hby d17_9 rfl ?_
  refine own_sipush X6.here hx hby d17_10 (v := (4095 : Int32)) (by decide) ?_
  refine own_iand X6.here hx hby d17_13 (v := (3 : Int32)) (by decide) ?_
  refine own_aaload X6 hx hZ e6 V_bS rfl ⟨by decide, by decide⟩ (v := (.ref s3)) rfl hby d17_14 ?_
  obtain ⟨fs, hr, hrun, hended, hW, hsame⟩ := X6.leave (v := some (.ref s3)) (fun h => by rw [Bd.returns] at h; cases h)
  refine own_ret (t := T6.setFrames fs) ?_ ⟨_, hrun, hended, _, _, rfl, ?_, ⟨_, rfl⟩, hW, hsame.mono (by decide) (by decide)⟩
  · exact retOut X6 hx Bd.returns rfl (Or.inr (Or.inr (Or.inr (Or.inr ⟨rfl, rfl, rfl⟩)))) (hb hby d17_15) hr
  · show Q_name_3_ssns Z _ _ _ _ _ _ _ _ h0 n0 _ T6.heap _
    rw [e6]
    exact ⟨rfl, N0, rfl⟩
def Q_name_0_snss (Z : State) (t : Nat) (aS : Nat) (bS : Nat) (kS : ClassId) (kc : ClassId) (s0 : Nat) (s2 : Nat) (s3 : Nat) (h0 : Heap) (n0 : Nat) (vR : Option Value) (hR : Heap) (LR : List Loc) : Prop := vR = some (.ref s0) ∧ Fr n0 LR ∧ hR = h0
set_option maxRecDepth 65536 in
set_option maxHeartbeats 40000000 in
theorem name_0_snss (l : Launch) (Z : State) (a0 : Array Value) (hw : ∀ d ∈ tables_1, d.before a0 Z = true) (ws : List Jvm.Cond) (t : Nat) (aS : Nat) (bS : Nat) (kS : ClassId) (kc : ClassId) (s0 : Nat) (s2 : Nat) (s3 : Nat) (h0 : Heap) (n0 : Nat) (Z0 : n0 ≤ h0.size) (F_strings_t : Fld Z h0 t "com/example/boxwood/boxwood/XmlNodeTable" "strings" "[[Ljava/lang/String;" (.ref aS)) (V_aS : Arv Z h0 aS kS (.array (.object "java/lang/String")) (1 : Int32) [(.ref bS)] .null) (V_bS : Arv Z h0 bS kc (.object "java/lang/String") (4096 : Int32) [(.ref s0), .null, (.ref s2), (.ref s3)] .null) :
    own_M l (⟨"com/example/boxwood/boxwood/XmlNodeTable", "name", "(I)Ljava/lang/String;"⟩ : MethodName) prog_60_method_18_code 2 (some (.object "java/lang/String")) ws ({ frames := 0, cells := 0, slots := 0, locals := 0 } : Room) Z #[(.ref t), (.int 0)] h0 (Q_name_0_snss Z t aS bS kS kc s0 s2 s3 h0 n0) := by
  refine own_body (own := "com/example/boxwood/boxwood/XmlNodeTable") rfl (plainFor_of_name pn_17) (fun m => ef_name_0_ssns m t (0 : Int32)) ?_
  intro p e s m below meth c s₁ Bd hml hZ hh hx hby hown X0 e0
  have N0 := Fr.nil n0
  have lt1 : h0.size > t := F_strings_t.lt
  have lt4 : h0.size > aS := V_aS.lt
  have lt5 : h0.size > bS := V_bS.lt
  refine own_aloadN X0.here hx hby d17_0 rfl rfl ?_
  refine own_getF X0 hx hZ hown (host := "") (Or.inl (own_w hw 47 rfl)) Via.refl e0 F_strings_t hby d17_1 ?_
  intro T6 X6 e6
  refine own_iloadN X6.here hx hby d17_4 rfl ?_
  refine own_bipush X6.here hx hby d17_5 (v := (12 : Int32)) (by decide) ?_
  refine own_iushr X6.here hx hby d17_7 (v := (0 : Int32)) (by decide) ?_
  refine own_aaload X6 hx hZ e6 V_aS rfl ⟨by decide, by decide⟩ (v := (.ref bS)) rfl hby d17_8 ?_
  refine own_iloadN X6.here hx hby d17_9 rfl ?_
  refine own_sipush X6.here hx hby d17_10 (v := (4095 : Int32)) (by decide) ?_
  refine own_iand X6.here hx hby d17_13 (v := (0 : Int32)) (by decide) ?_
  refine own_aaload X6 hx hZ e6 V_bS rfl ⟨by decide, by decide⟩ (v := (.ref s0)) rfl hby d17_14 ?_
  obtain ⟨fs, hr, hrun, hended, hW, hsame⟩ := X6.leave (v := some (.ref s0)) (fun h => by rw [Bd.returns] at h; cases h)
  refine own_ret (t := T6.setFrames fs) ?_ ⟨_, hrun, hended, _, _, rfl, ?_, ⟨_, rfl⟩, hW, hsame.mono (by decide) (by decide)⟩
  · exact retOut X6 hx Bd.returns rfl (Or.inr (Or.inr (Or.inr (Or.inr ⟨rfl, rfl, rfl⟩)))) (hb hby d17_15) hr
  · show Q_name_0_snss Z _ _ _ _ _ _ _ _ h0 n0 _ T6.heap _
    rw [e6]
    exact ⟨rfl, N0, rfl⟩
def Q_name_3_snss (Z : State) (t : Nat) (aS : Nat) (bS : Nat) (kS : ClassId) (kc : ClassId) (s0 : Nat) (s2 : Nat) (s3 : Nat) (h0 : Heap) (n0 : Nat) (vR : Option Value) (hR : Heap) (LR : List Loc) : Prop := vR = some (.ref s3) ∧ Fr n0 LR ∧ hR = h0
set_option maxRecDepth 65536 in
set_option maxHeartbeats 40000000 in
theorem name_3_snss (l : Launch) (Z : State) (a0 : Array Value) (hw : ∀ d ∈ tables_1, d.before a0 Z = true) (ws : List Jvm.Cond) (t : Nat) (aS : Nat) (bS : Nat) (kS : ClassId) (kc : ClassId) (s0 : Nat) (s2 : Nat) (s3 : Nat) (h0 : Heap) (n0 : Nat) (Z0 : n0 ≤ h0.size) (F_strings_t : Fld Z h0 t "com/example/boxwood/boxwood/XmlNodeTable" "strings" "[[Ljava/lang/String;" (.ref aS)) (V_aS : Arv Z h0 aS kS (.array (.object "java/lang/String")) (1 : Int32) [(.ref bS)] .null) (V_bS : Arv Z h0 bS kc (.object "java/lang/String") (4096 : Int32) [(.ref s0), .null, (.ref s2), (.ref s3)] .null) :
    own_M l (⟨"com/example/boxwood/boxwood/XmlNodeTable", "name", "(I)Ljava/lang/String;"⟩ : MethodName) prog_60_method_18_code 2 (some (.object "java/lang/String")) ws ({ frames := 0, cells := 0, slots := 0, locals := 0 } : Room) Z #[(.ref t), (.int 3)] h0 (Q_name_3_snss Z t aS bS kS kc s0 s2 s3 h0 n0) := by
  refine own_body (own := "com/example/boxwood/boxwood/XmlNodeTable") rfl (plainFor_of_name pn_17) (fun m => ef_name_0_ssns m t (3 : Int32)) ?_
  intro p e s m below meth c s₁ Bd hml hZ hh hx hby hown X0 e0
  have N0 := Fr.nil n0
  have lt1 : h0.size > t := F_strings_t.lt
  have lt4 : h0.size > aS := V_aS.lt
  have lt5 : h0.size > bS := V_bS.lt
  refine own_aloadN X0.here hx hby d17_0 rfl rfl ?_
  refine own_getF X0 hx hZ hown (host := "") (Or.inl (own_w hw 47 rfl)) Via.refl e0 F_strings_t hby d17_1 ?_
  intro T6 X6 e6
  refine own_iloadN X6.here hx hby d17_4 rfl ?_
  refine own_bipush X6.here hx hby d17_5 (v := (12 : Int32)) (by decide) ?_
  refine own_iushr X6.here hx hby d17_7 (v := (0 : Int32)) (by decide) ?_
  refine own_aaload X6 hx hZ e6 V_aS rfl ⟨by decide, by decide⟩ (v := (.ref bS)) rfl hby d17_8 ?_
  refine own_iloadN X6.here hx hby d17_9 rfl ?_
  refine own_sipush X6.here hx hby d17_10 (v := (4095 : Int32)) (by decide) ?_
  refine own_iand X6.here hx hby d17_13 (v := (3 : Int32)) (by decide) ?_
  refine own_aaload X6 hx hZ e6 V_bS rfl ⟨by decide, by decide⟩ (v := (.ref s3)) rfl hby d17_14 ?_
  obtain ⟨fs, hr, hrun, hended, hW, hsame⟩ := X6.leave (v := some (.ref s3)) (fun h => by rw [Bd.returns] at h; cases h)
  refine own_ret (t := T6.setFrames fs) ?_ ⟨_, hrun, hended, _, _, rfl, ?_, ⟨_, rfl⟩, hW, hsame.mono (by decide) (by decide)⟩
  · exact retOut X6 hx Bd.returns rfl (Or.inr (Or.inr (Or.inr (Or.inr ⟨rfl, rfl, rfl⟩)))) (hb hby d17_15) hr
  · show Q_name_3_snss Z _ _ _ _ _ _ _ _ h0 n0 _ T6.heap _
    rw [e6]
    exact ⟨rfl, N0, rfl⟩
theorem ef_rm0 (m : MethodId) (x0 : Int32) (x1 : Int32) (x2 : Int32) (x3 : Int32) (x4 : Int32) (x5 : Int32) : entryFrame m #[(.int x0), (.int x1), (.int x2), (.int x3), (.int x4), (.int x5)] maxLocals = mkF m 0 #[.val (.int x0), .val (.int x1), .val (.int x2), .val (.int x3), .val (.int x4), .val (.int x5), .unset, .unset, .unset, .unset, .unset, .unset, .unset, .unset, .unset, .unset] [] := by first | (simp [entryFrame, mkF, argsToLocals, Value.category, maxLocals]; done) | rfl
theorem pn_0 : plainName "com/example/boxwood/boxwood/XmlNodeTableNamePinLaw" = true := by first | (simp [plainName, overriddenIn]; done) | decide +kernel
theorem pd_4 : parseMethodDescriptor "(I)Ljava/lang/String;" = some ⟨[.int], some (.object "java/lang/String")⟩ := by decide +kernel
theorem pd_5 : parseMethodDescriptor "([B)V" = some ⟨[(.array .byte)], none⟩ := by decide +kernel
theorem pd_6 : parseMethodDescriptor "(Ljava/lang/String;II)I" = some ⟨[(.object "java/lang/String"), .int, .int], some .int⟩ := by decide +kernel
theorem pd_7 : parseMethodDescriptor "(II)V" = some ⟨[.int, .int], none⟩ := by decide +kernel
theorem pd_8 : parseMethodDescriptor "(Ljava/lang/String;II)V" = some ⟨[(.object "java/lang/String"), .int, .int], none⟩ := by decide +kernel
theorem pd_9 : parseMethodDescriptor "(Ljava/lang/Object;)Z" = some ⟨[(.object "java/lang/Object")], some .boolean⟩ := by decide +kernel
theorem pd_10 : parseMethodDescriptor "(IZ)V" = some ⟨[.int, .boolean], none⟩ := by decide +kernel
def Q_rm0 (Z : State) (p1 : Int32) (p2 : Int32) (p3 : Int32) (p4 : Int32) (p5 : Int32) (p6 : Int32) (zc : Int32) (h0 : Heap) (n0 : Nat) (vR : Option Value) (hR : Heap) (LR : List Loc) : Prop := vR = some (.int 1) ∧ Fr n0 LR ∧ True
set_option maxRecDepth 65536 in
set_option maxHeartbeats 40000000 in
theorem rm0 (l : Launch) (Z : State) (a0 : Array Value) (hw : ∀ d ∈ tables_1, d.before a0 Z = true) (ws : List Jvm.Cond) (p1 : Int32) (p2 : Int32) (p3 : Int32) (p4 : Int32) (p5 : Int32) (p6 : Int32) (zc : Int32) (h0 : Heap) (n0 : Nat) (Z0 : n0 ≤ h0.size) (S_C : Sta Z h0 "java/lang/String" "COMPACT_STRINGS" "Z" (.int zc)) (hz : ¬ zc = 0) :
    own_M l x code maxLocals ret ws room_1 Z #[(.int p1), (.int p2), (.int p3), (.int p4), (.int p5), (.int p6)] h0 (Q_rm0 Z p1 p2 p3 p4 p5 p6 zc h0 n0) := by
  refine own_body (own := "com/example/boxwood/boxwood/XmlNodeTableNamePinLaw") rfl (plainFor_of_name pn_0) (fun m => ef_rm0 m p1 p2 p3 p4 p5 p6) ?_
  intro p e s m below meth c s₁ Bd hml hZ hh hx hby hown X0 e0
  have N0 := Fr.nil n0
  refine own_iloadN X0.here hx hby at_0 rfl ?_
  refine own_callS X0 hx hZ hown (own_w hw 0 rfl) (own_w hw 1 rfl) (own_w hw 2 rfl) (own_w hw 3 rfl) (by decide) (draw_ l Z a0 hw [] p1 zc h0 n0 Z0 S_C hz) 0 (Nat.le_of_eq rfl) (by decide) (by decide) (by rw [hml]; rfl) (argsL := [(.int p1)]) (st := []) (lenOf pd_4 rfl) rfl rfl (by decide) (by decide) e0 hby at_1 ?_
  intro T7 v7 L7 X7 hQ7
  obtain ⟨x_7, rfl, Nq7, K7, P7_0, P7_1⟩ := hQ7
  have N7 := Fr.app N0 Nq7
  have z8 : h0.size ≤ T7.heap.size := K7.1
  have lt9 : T7.heap.size > x_7 := P7_1.lt
  refine own_sh (T := T7) 4 #[.val (.int p1), .val (.int p2), .val (.int p3), .val (.int p4), .val (.int p5), .val (.int p6), .unset, .unset, .unset, .unset, .unset, .unset, .unset, .unset, .unset, .unset] [(.ref x_7)] ?_
  refine own_astore X7.here hx hby at_4 rfl (l' := #[.val (.int p1), .val (.int p2), .val (.int p3), .val (.int p4), .val (.int p5), .val (.int p6), .val (.ref x_7), .unset, .unset, .unset, .unset, .unset, .unset, .unset, .unset, .unset]) rfl ?_
  refine own_iloadN X7.here hx hby at_6 rfl ?_
  have f10 : Sta Z T7.heap "java/lang/String" "COMPACT_STRINGS" "Z" (.int zc) := (own_sta_keep S_C K7 all0)
  have z12 : n0 ≤ T7.heap.size := by omega
  refine own_callS X7 hx hZ hown (own_w hw 0 rfl) (own_w hw 1 rfl) (own_w hw 2 rfl) (own_w hw 3 rfl) (by decide) (draw_ l Z a0 hw [] p2 zc T7.heap n0 z12 f10 hz) 0 (Nat.le_of_eq rfl) (by decide) (by decide) (by rw [hml]; rfl) (argsL := [(.int p2)]) (st := []) (lenOf pd_4 rfl) rfl rfl (by decide) (by decide) rfl hby at_7 ?_
  intro T11 v11 L11 X11 hQ11
  obtain ⟨x_11, rfl, Nq11, K11, P11_0, P11_1⟩ := hQ11
  have N11 := Fr.app N7 Nq11
  have z13 : T7.heap.size ≤ T11.heap.size := K11.1
  have lt14 : T11.heap.size > x_11 := P11_1.lt
  refine own_sh (T := T11) 10 #[.val (.int p1), .val (.int p2), .val (.int p3), .val (.int p4), .val (.int p5), .val (.int p6), .val (.ref x_7), .unset, .unset, .unset, .unset, .unset, .unset, .unset, .unset, .unset] [(.ref x_11)] ?_
  refine own_astore X11.here hx hby at_10 rfl (l' := #[.val (.int p1), .val (.int p2), .val (.int p3), .val (.int p4), .val (.int p5), .val (.int p6), .val (.ref x_7), .val (.ref x_11), .unset, .unset, .unset, .unset, .unset, .unset, .unset, .unset]) rfl ?_
  refine own_iloadN X11.here hx hby at_12 rfl ?_
  have f15 : Sta Z T11.heap "java/lang/String" "COMPACT_STRINGS" "Z" (.int zc) := (own_sta_keep f10 K11 all0)
  have z17 : n0 ≤ T11.heap.size := by omega
  refine own_callS X11 hx hZ hown (own_w hw 0 rfl) (own_w hw 1 rfl) (own_w hw 2 rfl) (own_w hw 3 rfl) (by decide) (draw_ l Z a0 hw [] p3 zc T11.heap n0 z17 f15 hz) 0 (Nat.le_of_eq rfl) (by decide) (by decide) (by rw [hml]; rfl) (argsL := [(.int p3)]) (st := []) (lenOf pd_4 rfl) rfl rfl (by decide) (by decide) rfl hby at_13 ?_
  intro T16 v16 L16 X16 hQ16
  obtain ⟨x_16, rfl, Nq16, K16, P16_0, P16_1⟩ := hQ16
  have N16 := Fr.app N11 Nq16
  have z18 : T11.heap.size ≤ T16.heap.size := K16.1
  have lt19 : T16.heap.size > x_16 := P16_1.lt
  refine own_sh (T := T16) 16 #[.val (.int p1), .val (.int p2), .val (.int p3), .val (.int p4), .val (.int p5), .val (.int p6), .val (.ref x_7), .val (.ref x_11), .unset, .unset, .unset, .unset, .unset, .unset, .unset, .unset] [(.ref x_16)] ?_
  refine own_astore X16.here hx hby at_16 rfl (l' := #[.val (.int p1), .val (.int p2), .val (.int p3), .val (.int p4), .val (.int p5), .val (.int p6), .val (.ref x_7), .val (.ref x_11), .val (.ref x_16), .unset, .unset, .unset, .unset, .unset, .unset, .unset]) rfl ?_
  refine own_iload X16.here hx hby at_18 rfl ?_
  refine own_iconst X16.here hx hby at_20 (v := (1 : Int32)) (by decide) ?_
  refine own_iand X16.here hx hby at_21 rfl ?_
  by_cases hc22_20 : (p6 &&& (1 : Int32)) = (0 : Int32)
  · refine own_ifYes X16.here hx hby (pc' := 29) at_22 ((if0 _ _).trans (teq hc22_20).1) (by decide) (by decide) ?_
    refine own_iconst X16.here hx hby at_29 (v := (0 : Int32)) (by decide) ?_
    refine own_istore X16.here hx hby at_30 (l' := #[.val (.int p1), .val (.int p2), .val (.int p3), .val (.int p4), .val (.int p5), .val (.int p6), .val (.ref x_7), .val (.ref x_11), .val (.ref x_16), .val (.int 0), .unset, .unset, .unset, .unset, .unset, .unset]) rfl ?_
    refine own_iload X16.here hx hby at_32 rfl ?_
    refine own_iconst X16.here hx hby at_34 (v := (2 : Int32)) (by decide) ?_
    refine own_iand X16.here hx hby at_35 rfl ?_
    by_cases hc36_21 : (p6 &&& (2 : Int32)) = (0 : Int32)
    · refine own_ifYes X16.here hx hby (pc' := 43) at_36 ((if0 _ _).trans (teq hc36_21).1) (by decide) (by decide) ?_
      refine own_iconst X16.here hx hby at_43 (v := (0 : Int32)) (by decide) ?_
      refine own_istore X16.here hx hby at_44 (l' := #[.val (.int p1), .val (.int p2), .val (.int p3), .val (.int p4), .val (.int p5), .val (.int p6), .val (.ref x_7), .val (.ref x_11), .val (.ref x_16), .val (.int 0), .val (.int 0), .unset, .unset, .unset, .unset, .unset]) rfl ?_
      refine own_newO X16 hx hZ hown (own_w hw 34 rfl) (own_w hw 35 rfl) (own_w hw 36 rfl) rfl hby at_46 (by decide) (by decide) ?_
      intro T22 h22 b22 X22 e22 E22 g22 A22 D22 lt22
      have z23 : T16.heap.size ≤ h22.size := E22.1
      have F24 : Fld Z h22 b22 "com/example/boxwood/boxwood/XmlNodeTable" "numbers" "[[I" .null := D22 (Or.inl (own_w hw 44 rfl)) (ty := (.array (.array .int))) (by decide)
      have F25 : Fld Z h22 b22 "com/example/boxwood/boxwood/XmlNodeTable" "strings" "[[Ljava/lang/String;" .null := D22 (Or.inl (own_w hw 48 rfl)) (ty := (.array (.array (.object "java/lang/String")))) (by decide)
      have F26 : Fld Z h22 b22 "com/example/boxwood/boxwood/XmlNodeTable" "attributeNumbers" "[[I" .null := D22 (Or.inl (own_w hw 50 rfl)) (ty := (.array (.array .int))) (by decide)
      have F27 : Fld Z h22 b22 "com/example/boxwood/boxwood/XmlNodeTable" "attributeNames" "[[Ljava/lang/String;" .null := D22 (Or.inl (own_w hw 52 rfl)) (ty := (.array (.array (.object "java/lang/String")))) (by decide)
      have F28 : Fld Z h22 b22 "com/example/boxwood/boxwood/XmlNodeTable" "attributeValues" "[[Lcom/example/boxwood/boxwood/XmlValue;" .null := D22 (Or.inl (own_w hw 56 rfl)) (ty := (.array (.array (.object "com/example/boxwood/boxwood/XmlValue")))) (by decide)
      have F29 : Fld Z h22 b22 "com/example/boxwood/boxwood/XmlNodeTable" "content" "[B" .null := D22 (Or.inr (own_w hw 58 rfl)) (ty := (.array .byte)) (by decide)
      have F30 : Fld Z h22 b22 "com/example/boxwood/boxwood/XmlNodeTable" "size" "I" (.int 0) := D22 (Or.inl (own_w hw 69 rfl)) (ty := .int) (by decide)
      have F31 : Fld Z h22 b22 "com/example/boxwood/boxwood/XmlNodeTable" "attributeCount" "I" (.int 0) := D22 (Or.inl (own_w hw 76 rfl)) (ty := .int) (by decide)
      refine own_dup X22.here hx hby at_49 rfl ?_
      refine own_iconst X22.here hx hby at_50 (v := (0 : Int32)) (by decide) ?_
      refine own_newP X22 hx hZ (aty := .byte) (own_w hw 23 rfl) e22 hby at_51 (by decide) 0 (by decide) (by decide) (by decide) (by decide) (ad := "[B") (by decide) ?_
      intro T32 h32 k32 b32 X32 e32 E32 g32 V32 C32 lt32
      have z33 : h22.size ≤ h32.size := E32.1
      have V34 : Arv Z h32 b32 k32 .byte (0 : Int32) [] (.int 0) := V32
      have f35 : Exa Z h32 b22 "com/example/boxwood/boxwood/XmlNodeTable" := (A22.ext E32)
      have f36 : Fld Z h32 b22 "com/example/boxwood/boxwood/XmlNodeTable" "content" "[B" .null := (F29.ext E32)
      have f37 : Fld Z h32 b22 "com/example/boxwood/boxwood/XmlNodeTable" "numbers" "[[I" .null := (F24.ext E32)
      have f38 : Fld Z h32 b22 "com/example/boxwood/boxwood/XmlNodeTable" "strings" "[[Ljava/lang/String;" .null := (F25.ext E32)
      have f39 : Fld Z h32 b22 "com/example/boxwood/boxwood/XmlNodeTable" "attributeNumbers" "[[I" .null := (F26.ext E32)
      have f40 : Fld Z h32 b22 "com/example/boxwood/boxwood/XmlNodeTable" "attributeNames" "[[Ljava/lang/String;" .null := (F27.ext E32)
      have f41 : Fld Z h32 b22 "com/example/boxwood/boxwood/XmlNodeTable" "attributeValues" "[[Lcom/example/boxwood/boxwood/XmlValue;" .null := (F28.ext E32)
      have f42 : Fld Z h32 b22 "com/example/boxwood/boxwood/XmlNodeTable" "size" "I" (.int 0) := (F30.ext E32)
      have f43 : Fld Z h32 b22 "com/example/boxwood/boxwood/XmlNodeTable" "attributeCount" "I" (.int 0) := (F31.ext E32)
      have z45 : n0 ≤ h32.size := by omega
      refine own_special X32 hx hZ rfl hown (own_w hw 37 rfl) (own_w hw 38 rfl) (own_w hw 36 rfl) (own_w hw 39 rfl) (by decide) (tabInit l Z a0 hw [] b22 b32 h32 n0 z45 f35 f36 (by omega) f37 f38 f39 f40 f41 f42 f43) 1 (Nat.le_of_eq rfl) (by decide) (by decide) (by rw [hml]; rfl) (argsL := [(.ref b32)]) (st := [(.ref b22)]) (a := b22) (lenOf pd_5 rfl) rfl rfl (by decide) (by decide) e32 hby at_53 ?_
      intro T44 v44 L44 X44 hQ44
      obtain ⟨aN_44, kaN_44, aS_44, kaS_44, aA_44, kaA_44, aM_44, kaM_44, aW_44, kaW_44, rfl, Nq44, K44, P44_0, P44_1, P44_2, P44_3, P44_4, P44_5, P44_6, P44_7, P44_8, P44_9, P44_10, P44_11, P44_12, P44_13, P44_14, P44_15, P44_16, P44_17, P44_18, P44_19, P44_20, P44_21, P44_22, P44_23, P44_24, P44_25, P44_26⟩ := hQ44
      have N44 := Fr.app N16 Nq44
      have z46 : h32.size ≤ T44.heap.size := K44.1
      have lt47 : T44.heap.size > b22 := P44_0.lt
      have lt48 : T44.heap.size > aN_44 := P44_5.lt
      have lt49 : T44.heap.size > aS_44 := P44_9.lt
      have lt50 : T44.heap.size > aA_44 := P44_13.lt
      have lt51 : T44.heap.size > aM_44 := P44_17.lt
      have lt52 : T44.heap.size > aW_44 := P44_21.lt
      refine own_sh (T := T44) 56 #[.val (.int p1), .val (.int p2), .val (.int p3), .val (.int p4), .val (.int p5), .val (.int p6), .val (.ref x_7), .val (.ref x_11), .val (.ref x_16), .val (.int 0), .val (.int 0), .unset, .unset, .unset, .unset, .unset] [(.ref b22)] ?_
      refine own_astore X44.here hx hby at_56 rfl (l' := #[.val (.int p1), .val (.int p2), .val (.int p3), .val (.int p4), .val (.int p5), .val (.int p6), .val (.ref x_7), .val (.ref x_11), .val (.ref x_16), .val (.int 0), .val (.int 0), .val (.ref b22), .unset, .unset, .unset, .unset]) rfl ?_
      refine own_aload X44.here hx hby at_58 rfl rfl ?_
      refine own_aload X44.here hx hby at_60 rfl rfl ?_
      refine own_iloadN X44.here hx hby at_62 rfl ?_
      refine own_iload X44.here hx hby at_63 rfl ?_
      have f53 : Exa Z T44.heap x_7 "java/lang/String" := (((((P7_1.keep K11).keep K16).ext E22).ext E32).keep K44)
      have z55 : n0 ≤ T44.heap.size := by omega
      refine own_virtual X44 hx hZ hown (own_w hw 59 rfl) (own_w hw 60 rfl) (notFace_of_selects (args := #[]) (mvT hZ (own_w hw 62 rfl))) (own_w hw 62 rfl) (own_w hw 61 rfl) (own_w hw 36 rfl) (own_w hw 63 rfl) (by decide) (start_0 l Z a0 hw [] b22 x_7 aN_44 aS_44 p4 p5 (0 : Int32) kaN_44 kaS_44 T44.heap n0 z55 P44_0 P44_1 P44_4 P44_2 P44_5 P44_8 P44_9 P44_6 P44_10 (by omega) (by omega) (by omega) f53) 0 (Nat.le_of_eq rfl) (by decide) (by decide) (by rw [hml]; rfl) (argsL := [(.ref x_7), (.int p4), (.int p5)]) (st := []) P44_0 (lenOf pd_6 rfl) rfl rfl (by decide) (by decide) rfl hby at_65 ?_
      intro T54 v54 L54 X54 hQ54
      obtain ⟨bN_54, bS_54, kb_54, kc_54, rfl, Nq54, K54, P54_0, P54_1, P54_2, P54_3, P54_4, P54_5, P54_6, P54_7, P54_8, P54_9, P54_10, P54_11, P54_12⟩ := hQ54
      have N54 := Fr.app N44 Nq54
      have z56 : T44.heap.size ≤ T54.heap.size := K54.1
      have lt57 : T54.heap.size > b22 := P54_0.lt
      have lt58 : T54.heap.size > aN_44 := P54_2.lt
      have lt59 : T54.heap.size > aS_44 := P54_3.lt
      have lt60 : T54.heap.size > bN_54 := P54_7.lt
      have lt61 : T54.heap.size > bS_54 := P54_8.lt
      refine own_sh (T := T54) 68 #[.val (.int p1), .val (.int p2), .val (.int p3), .val (.int p4), .val (.int p5), .val (.int p6), .val (.ref x_7), .val (.ref x_11), .val (.ref x_16), .val (.int 0), .val (.int 0), .val (.ref b22), .unset, .unset, .unset, .unset] [(.int 0)] ?_
      refine own_istore X54.here hx hby at_68 (l' := #[.val (.int p1), .val (.int p2), .val (.int p3), .val (.int p4), .val (.int p5), .val (.int p6), .val (.ref x_7), .val (.ref x_11), .val (.ref x_16), .val (.int 0), .val (.int 0), .val (.ref b22), .val (.int 0), .unset, .unset, .unset]) rfl ?_
      refine own_iload X54.here hx hby at_70 rfl ?_
      refine own_ifYes X54.here hx hby (pc' := 96) at_72 ((if0 _ _).trans (teq (show (0 : Int32) = (0 : Int32) from (by decide))).1) (by decide) (by decide) ?_
      refine own_aload X54.here hx hby at_96 rfl rfl ?_
      refine own_iload X54.here hx hby at_98 rfl ?_
      refine own_iloadN X54.here hx hby at_100 rfl ?_
      have z63 : n0 ≤ T54.heap.size := by omega
      refine own_virtual X54 hx hZ hown (own_w hw 86 rfl) (own_w hw 87 rfl) (notFace_of_selects (args := #[]) (mvT hZ (own_w hw 89 rfl))) (own_w hw 89 rfl) (own_w hw 88 rfl) (own_w hw 36 rfl) (own_w hw 90 rfl) (by decide) (verb_1 l Z a0 hw [] b22 aN_44 bN_54 p5 p4 (0 : Int32) kaN_44 kb_54 (0 : Int32) p4 (-1 : Int32) (1 : Int32) p5 (0 : Int32) (0 : Int32) aS_44 T54.heap n0 z63 P54_0 P54_1 P54_10 P54_12 P54_2 P54_7 (by omega) (by omega) P54_11) 0 (Nat.le_of_eq rfl) (by decide) (by decide) (by rw [hml]; rfl) (argsL := [(.int p5), (.int p4)]) (st := []) P54_0 (lenOf pd_7 rfl) rfl rfl (by decide) (by decide) rfl hby at_101 ?_
      intro T62 v62 L62 X62 hQ62
      obtain ⟨rfl, Nq62, K62, P62_0, P62_1, P62_2, P62_3, P62_4, P62_5⟩ := hQ62
      have N62 := Fr.app N54 Nq62
      have z64 : T54.heap.size ≤ T62.heap.size := K62.1
      have lt65 : T62.heap.size > b22 := P62_0.lt
      have lt66 : T62.heap.size > bN_54 := P62_4.lt
      refine own_sh (T := T62) 104 #[.val (.int p1), .val (.int p2), .val (.int p3), .val (.int p4), .val (.int p5), .val (.int p6), .val (.ref x_7), .val (.ref x_11), .val (.ref x_16), .val (.int 0), .val (.int 0), .val (.ref b22), .val (.int 0), .unset, .unset, .unset] [] ?_
      refine own_aload X62.here hx hby at_104 rfl rfl ?_
      refine own_aload X62.here hx hby at_106 rfl rfl ?_
      refine own_iload X62.here hx hby at_108 rfl ?_
      refine own_iloadN X62.here hx hby at_110 rfl ?_
      have f67 : Arv Z T62.heap aN_44 kaN_44 (.array .int) (1 : Int32) [(.ref bN_54)] .null := (P54_2.keep K62 (ninS (own_nn (by omega)) (ninS (own_nn (by omega)) nin0)))
      have f68 : Arv Z T62.heap aS_44 kaS_44 (.array (.object "java/lang/String")) (1 : Int32) [(.ref bS_54)] .null := (P54_3.keep K62 (ninS (own_nn (by omega)) (ninS (own_nn (by omega)) nin0)))
      have f69 : Arv Z T62.heap bS_54 kc_54 (.object "java/lang/String") (4096 : Int32) [(.ref x_7)] .null := (P54_8.keep K62 (ninS (own_nn (by omega)) (ninS (own_nn (by omega)) nin0)))
      have f70 : Exa Z T62.heap x_16 "java/lang/String" := (((((P16_1.ext E22).ext E32).keep K44).keep K54).keep K62)
      have z72 : n0 ≤ T62.heap.size := by omega
      refine own_virtual X62 hx hZ hown (own_w hw 81 rfl) (own_w hw 82 rfl) (notFace_of_selects (args := #[]) (mvT hZ (own_w hw 84 rfl))) (own_w hw 84 rfl) (own_w hw 83 rfl) (own_w hw 36 rfl) (own_w hw 85 rfl) (by decide) (text_2 l Z a0 hw [] b22 x_16 aN_44 bN_54 aS_44 bS_54 p5 p4 (0 : Int32) kaN_44 kb_54 kaS_44 kc_54 (0 : Int32) p4 (-1 : Int32) (1 : Int32) p5 (0 : Int32) (0 : Int32) (2 : Int32) p5 p4 (2 : Int32) (0 : Int32) (0 : Int32) (0 : Int32) x_7 T62.heap n0 z72 P62_0 P62_1 P62_2 P62_3 f67 P62_4 P62_5 f68 f69 P54_9 (by omega) (by omega) (by omega) f70) 0 (Nat.le_of_eq rfl) (by decide) (by decide) (by rw [hml]; rfl) (argsL := [(.ref x_16), (.int p5), (.int p4)]) (st := []) P62_0 (lenOf pd_8 rfl) rfl rfl (by decide) (by decide) rfl hby at_111 ?_
      intro T71 v71 L71 X71 hQ71
      obtain ⟨rfl, Nq71, K71, P71_0, P71_1, P71_2, P71_3, P71_4, P71_5, P71_6⟩ := hQ71
      have N71 := Fr.app N62 Nq71
      have z73 : T62.heap.size ≤ T71.heap.size := K71.1
      have lt74 : T71.heap.size > b22 := P71_0.lt
      have lt75 : T71.heap.size > bN_54 := P71_5.lt
      have lt76 : T71.heap.size > bS_54 := P71_6.lt
      refine own_sh (T := T71) 114 #[.val (.int p1), .val (.int p2), .val (.int p3), .val (.int p4), .val (.int p5), .val (.int p6), .val (.ref x_7), .val (.ref x_11), .val (.ref x_16), .val (.int 0), .val (.int 0), .val (.ref b22), .val (.int 0), .unset, .unset, .unset] [] ?_
      refine own_iload X71.here hx hby at_114 rfl ?_
      refine own_ifYes X71.here hx hby (pc' := 138) at_116 ((if0 _ _).trans (teq (show (0 : Int32) = (0 : Int32) from (by decide))).1) (by decide) (by decide) ?_
      refine own_aload X71.here hx hby at_138 rfl rfl ?_
      refine own_iload X71.here hx hby at_140 rfl ?_
      refine own_iloadN X71.here hx hby at_142 rfl ?_
      refine own_iload X71.here hx hby at_143 rfl ?_
      have f77 : Arv Z T71.heap aN_44 kaN_44 (.array .int) (1 : Int32) [(.ref bN_54)] .null := (f67.keep K71 (ninS (own_nn (by omega)) (ninS (own_nn (by omega)) (ninS (own_nn (by omega)) nin0))))
      have z79 : n0 ≤ T71.heap.size := by omega
      refine own_virtual X71 hx hZ hown (own_w hw 100 rfl) (own_w hw 101 rfl) (notFace_of_selects (args := #[]) (mvT hZ (own_w hw 103 rfl))) (own_w hw 103 rfl) (own_w hw 102 rfl) (own_w hw 36 rfl) (own_w hw 104 rfl) (by decide) (endE_0_3 l Z a0 hw [] b22 aN_44 bN_54 p4 p5 (0 : Int32) kaN_44 kb_54 (0 : Int32) p4 (-1 : Int32) (1 : Int32) p5 (0 : Int32) (0 : Int32) (2 : Int32) p5 p4 (2 : Int32) (0 : Int32) (0 : Int32) (0 : Int32) (1 : Int32) p5 p4 (3 : Int32) (0 : Int32) (0 : Int32) (0 : Int32) T71.heap n0 z79 P71_0 P71_1 P71_2 P71_4 f77 P71_5 (by omega)) 0 (Nat.le_of_eq rfl) (by decide) (by decide) (by rw [hml]; rfl) (argsL := [(.int 0), (.int p4), (.int p5)]) (st := []) P71_0 (lenOf pd_2 rfl) rfl rfl (by decide) (by decide) rfl hby at_145 ?_
      intro T78 v78 L78 X78 hQ78
      obtain ⟨rfl, Nq78, K78, P78_0⟩ := hQ78
      have N78 := Fr.app N71 Nq78
      have z80 : T71.heap.size ≤ T78.heap.size := K78.1
      have lt81 : T78.heap.size > bN_54 := P78_0.lt
      refine own_sh (T := T78) 148 #[.val (.int p1), .val (.int p2), .val (.int p3), .val (.int p4), .val (.int p5), .val (.int p6), .val (.ref x_7), .val (.ref x_11), .val (.ref x_16), .val (.int 0), .val (.int 0), .val (.ref b22), .val (.int 0), .unset, .unset, .unset] [] ?_
      refine own_aload X78.here hx hby at_148 rfl rfl ?_
      refine own_aload X78.here hx hby at_150 rfl rfl ?_
      refine own_iload X78.here hx hby at_152 rfl ?_
      refine own_iloadN X78.here hx hby at_154 rfl ?_
      have f82 : Exa Z T78.heap b22 "com/example/boxwood/boxwood/XmlNodeTable" := (P71_0.keep K78)
      have f83 : Fld Z T78.heap b22 "com/example/boxwood/boxwood/XmlNodeTable" "size" "I" (.int 3) := (P71_1.keep K78 (ninS (own_nn (by omega)) nin0))
      have f84 : Fld Z T78.heap b22 "com/example/boxwood/boxwood/XmlNodeTable" "numbers" "[[I" (.ref aN_44) := (P71_2.keep K78 (ninS (own_nn (by omega)) nin0))
      have f85 : Fld Z T78.heap b22 "com/example/boxwood/boxwood/XmlNodeTable" "attributeCount" "I" (.int 0) := (P71_4.keep K78 (ninS (own_nn (by omega)) nin0))
      have f86 : Arv Z T78.heap aN_44 kaN_44 (.array .int) (1 : Int32) [(.ref bN_54)] .null := (f77.keep K78 (ninS (own_nn (by omega)) nin0))
      have f87 : Fld Z T78.heap b22 "com/example/boxwood/boxwood/XmlNodeTable" "strings" "[[Ljava/lang/String;" (.ref aS_44) := (P71_3.keep K78 (ninS (own_nn (by omega)) nin0))
      have f88 : Arv Z T78.heap aS_44 kaS_44 (.array (.object "java/lang/String")) (1 : Int32) [(.ref bS_54)] .null := ((f68.keep K71 (ninS (own_nn (by omega)) (ninS (own_nn (by omega)) (ninS (own_nn (by omega)) nin0)))).keep K78 (ninS (own_nn (by omega)) nin0))
      have f89 : Arv Z T78.heap bS_54 kc_54 (.object "java/lang/String") (4096 : Int32) [(.ref x_7), .null, (.ref x_16)] .null := (P71_6.keep K78 (ninS (own_nn (by omega)) nin0))
      have f90 : Exa Z T78.heap x_11 "java/lang/String" := ((((((((P11_1.keep K16).ext E22).ext E32).keep K44).keep K54).keep K62).keep K71).keep K78)
      have z92 : n0 ≤ T78.heap.size := by omega
      refine own_virtual X78 hx hZ hown (own_w hw 59 rfl) (own_w hw 60 rfl) (notFace_of_selects (args := #[]) (mvT hZ (own_w hw 62 rfl))) (own_w hw 62 rfl) (own_w hw 61 rfl) (own_w hw 36 rfl) (own_w hw 63 rfl) (by decide) (start_3v l Z a0 hw [] b22 x_11 aN_44 bN_54 aS_44 bS_54 p5 p4 (0 : Int32) kaN_44 kb_54 kaS_44 kc_54 (0 : Int32) p4 p5 (3 : Int32) p5 p4 (0 : Int32) (2 : Int32) p5 p4 (2 : Int32) (0 : Int32) (0 : Int32) (0 : Int32) (1 : Int32) p5 p4 (3 : Int32) (0 : Int32) (0 : Int32) (0 : Int32) x_7 x_16 T78.heap n0 z92 f82 f83 f84 f85 f86 P78_0 f87 f88 f89 P54_9 (by omega) (by omega) (by omega) f90) 0 (Nat.le_of_eq rfl) (by decide) (by decide) (by rw [hml]; rfl) (argsL := [(.ref x_11), (.int p5), (.int p4)]) (st := []) f82 (lenOf pd_6 rfl) rfl rfl (by decide) (by decide) rfl hby at_155 ?_
      intro T91 v91 L91 X91 hQ91
      obtain ⟨rfl, Nq91, K91, P91_0, P91_1, P91_2, P91_3, P91_4, P91_5, P91_6⟩ := hQ91
      have N91 := Fr.app N78 Nq91
      have z93 : T78.heap.size ≤ T91.heap.size := K91.1
      have lt94 : T91.heap.size > b22 := P91_0.lt
      have lt95 : T91.heap.size > bN_54 := P91_5.lt
      have lt96 : T91.heap.size > bS_54 := P91_6.lt
      refine own_sh (T := T91) 158 #[.val (.int p1), .val (.int p2), .val (.int p3), .val (.int p4), .val (.int p5), .val (.int p6), .val (.ref x_7), .val (.ref x_11), .val (.ref x_16), .val (.int 0), .val (.int 0), .val (.ref b22), .val (.int 0), .unset, .unset, .unset] [(.int 3)] ?_
      refine own_istore X91.here hx hby at_158 (l' := #[.val (.int p1), .val (.int p2), .val (.int p3), .val (.int p4), .val (.int p5), .val (.int p6), .val (.ref x_7), .val (.ref x_11), .val (.ref x_16), .val (.int 0), .val (.int 0), .val (.ref b22), .val (.int 0), .val (.int 3), .unset, .unset]) rfl ?_
      refine own_aload X91.here hx hby at_160 rfl rfl ?_
      refine own_iload X91.here hx hby at_162 rfl ?_
      have f97 : Arv Z T91.heap aS_44 kaS_44 (.array (.object "java/lang/String")) (1 : Int32) [(.ref bS_54)] .null := (f88.keep K91 (ninS (own_nn (by omega)) (ninS (own_nn (by omega)) (ninS (own_nn (by omega)) nin0))))
      have z99 : n0 ≤ T91.heap.size := by omega
      refine own_virtual X91 hx hZ hown (own_w hw 105 rfl) (own_w hw 106 rfl) (notFace_of_selects (args := #[]) (mvT hZ (own_w hw 108 rfl))) (own_w hw 108 rfl) (own_w hw 107 rfl) (own_w hw 36 rfl) (own_w hw 109 rfl) (by decide) (name_0_snss l Z a0 hw [] b22 aS_44 bS_54 kaS_44 kc_54 x_7 x_16 x_11 T91.heap n0 z99 P91_3 f97 P91_6) 0 (Nat.le_of_eq rfl) (by decide) (by decide) (by rw [hml]; rfl) (argsL := [(.int 0)]) (st := []) P91_0 (lenOf pd_4 rfl) rfl rfl (by decide) (by decide) rfl hby at_164 ?_
      intro T98 v98 L98 X98 hQ98
      obtain ⟨rfl, Nq98, eh98⟩ := hQ98
      have N98 := Fr.app N91 Nq98
      refine own_sh (T := T98) 167 #[.val (.int p1), .val (.int p2), .val (.int p3), .val (.int p4), .val (.int p5), .val (.int p6), .val (.ref x_7), .val (.ref x_11), .val (.ref x_16), .val (.int 0), .val (.int 0), .val (.ref b22), .val (.int 0), .val (.int 3), .unset, .unset] [(.ref x_7)] ?_
      refine own_astore X98.here hx hby at_167 rfl (l' := #[.val (.int p1), .val (.int p2), .val (.int p3), .val (.int p4), .val (.int p5), .val (.int p6), .val (.ref x_7), .val (.ref x_11), .val (.ref x_16), .val (.int 0), .val (.int 0), .val (.ref b22), .val (.int 0), .val (.int 3), .val (.ref x_7), .unset]) rfl ?_
      refine own_aload X98.here hx hby at_169 rfl rfl ?_
      refine own_iload X98.here hx hby at_171 rfl ?_
      refine own_virtual X98 hx hZ hown (own_w hw 105 rfl) (own_w hw 106 rfl) (notFace_of_selects (args := #[]) (mvT hZ (own_w hw 108 rfl))) (own_w hw 108 rfl) (own_w hw 107 rfl) (own_w hw 36 rfl) (own_w hw 109 rfl) (by decide) (name_3_snss l Z a0 hw [] b22 aS_44 bS_54 kaS_44 kc_54 x_7 x_16 x_11 T91.heap n0 z99 P91_3 f97 P91_6) 0 (Nat.le_of_eq rfl) (by decide) (by decide) (by rw [hml]; rfl) (argsL := [(.int 3)]) (st := []) P91_0 (lenOf pd_4 rfl) rfl rfl (by decide) (by decide) eh98 hby at_173 ?_
      intro T100 v100 L100 X100 hQ100
      obtain ⟨rfl, Nq100, eh100⟩ := hQ100
      have N100 := Fr.app N98 Nq100
      refine own_sh (T := T100) 176 #[.val (.int p1), .val (.int p2), .val (.int p3), .val (.int p4), .val (.int p5), .val (.int p6), .val (.ref x_7), .val (.ref x_11), .val (.ref x_16), .val (.int 0), .val (.int 0), .val (.ref b22), .val (.int 0), .val (.int 3), .val (.ref x_7), .unset] [(.ref x_11)] ?_
      refine own_astore X100.here hx hby at_176 rfl (l' := #[.val (.int p1), .val (.int p2), .val (.int p3), .val (.int p4), .val (.int p5), .val (.int p6), .val (.ref x_7), .val (.ref x_11), .val (.ref x_16), .val (.int 0), .val (.int 0), .val (.ref b22), .val (.int 0), .val (.int 3), .val (.ref x_7), .val (.ref x_11)]) rfl ?_
      refine own_iload X100.here hx hby at_178 rfl ?_
      refine own_ifNo X100.here hx hby at_180 ((if0 _ _).trans (teq (show (0 : Int32) = (0 : Int32) from (by decide))).2) ?_
      refine own_iload X100.here hx hby at_183 rfl ?_
      refine own_iconst X100.here hx hby at_185 (v := (3 : Int32)) (by decide) ?_
      refine own_icmpNo X100.here hx hby at_186 (teq (show (3 : Int32) = (3 : Int32) from (by decide))).2 ?_
      refine own_aload X100.here hx hby at_189 rfl rfl ?_
      refine own_ifnullNo X100.here hx hby at_191 ?_
      refine own_aload X100.here hx hby at_194 rfl rfl ?_
      refine own_ifnullNo X100.here hx hby at_196 ?_
      refine own_aload X100.here hx hby at_199 rfl rfl ?_
      refine own_aload X100.here hx hby at_201 rfl rfl ?_
      have f102 : Exa Z T91.heap x_7 "java/lang/String" := (((((f53.keep K54).keep K62).keep K71).keep K78).keep K91)
      refine own_virtual X100 hx hZ hown (own_w hw 110 rfl) (own_w hw 111 rfl) (notFace_of_selects (args := #[]) (mvT hZ (own_w hw 113 rfl))) (own_w hw 113 rfl) (own_w hw 112 rfl) (own_w hw 7 rfl) (own_w hw 114 rfl) (by decide) (eqSelf l Z a0 hw [] x_7 T91.heap n0 z99 ) 0 (Nat.le_of_eq rfl) (by decide) (by decide) (by rw [hml]; rfl) (argsL := [(.ref x_7)]) (st := []) f102 (lenOf pd_9 rfl) rfl rfl (by decide) (by decide) eh100 hby at_203 ?_
      intro T101 v101 L101 X101 hQ101
      obtain ⟨rfl, Nq101, eh101⟩ := hQ101
      have N101 := Fr.app N100 Nq101
      refine own_sh (T := T101) 206 #[.val (.int p1), .val (.int p2), .val (.int p3), .val (.int p4), .val (.int p5), .val (.int p6), .val (.ref x_7), .val (.ref x_11), .val (.ref x_16), .val (.int 0), .val (.int 0), .val (.ref b22), .val (.int 0), .val (.int 3), .val (.ref x_7), .val (.ref x_11)] [(.int 1)] ?_
      refine own_ifNo X101.here hx hby at_206 ((if0 _ _).trans (feq (show ¬ ((1 : Int32) = (0 : Int32)) from (by decide))).1) ?_
      refine own_aload X101.here hx hby at_209 rfl rfl ?_
      refine own_aload X101.here hx hby at_211 rfl rfl ?_
      have f104 : Exa Z T91.heap x_11 "java/lang/String" := (f90.keep K91)
      refine own_virtual X101 hx hZ hown (own_w hw 110 rfl) (own_w hw 111 rfl) (notFace_of_selects (args := #[]) (mvT hZ (own_w hw 113 rfl))) (own_w hw 113 rfl) (own_w hw 112 rfl) (own_w hw 7 rfl) (own_w hw 114 rfl) (by decide) (eqSelf l Z a0 hw [] x_11 T91.heap n0 z99 ) 0 (Nat.le_of_eq rfl) (by decide) (by decide) (by rw [hml]; rfl) (argsL := [(.ref x_11)]) (st := []) f104 (lenOf pd_9 rfl) rfl rfl (by decide) (by decide) eh101 hby at_213 ?_
      intro T103 v103 L103 X103 hQ103
      obtain ⟨rfl, Nq103, eh103⟩ := hQ103
      have N103 := Fr.app N101 Nq103
      refine own_sh (T := T103) 216 #[.val (.int p1), .val (.int p2), .val (.int p3), .val (.int p4), .val (.int p5), .val (.int p6), .val (.ref x_7), .val (.ref x_11), .val (.ref x_16), .val (.int 0), .val (.int 0), .val (.ref b22), .val (.int 0), .val (.int 3), .val (.ref x_7), .val (.ref x_11)] [(.int 1)] ?_
      refine own_ifNo X103.here hx hby at_216 ((if0 _ _).trans (feq (show ¬ ((1 : Int32) = (0 : Int32)) from (by decide))).1) ?_
      refine own_iconst X103.here hx hby at_219 (v := (1 : Int32)) (by decide) ?_
      refine own_goto X103.here hx hby (pc' := 224) at_220 (by decide) (by decide) ?_
      obtain ⟨fs, hr, hrun, hended, hW, hsame⟩ := X103.leave (v := some (.int 1)) (fun h => by rw [Bd.returns] at h; cases h)
      refine own_ret (t := T103.setFrames fs) ?_ ⟨_, hrun, hended, _, _, rfl, ?_, ⟨_, rfl⟩, hW, hsame.mono (by decide) (by decide)⟩
      · exact retN X103 hx (t := .boolean) Bd.returns (by simp) (hb hby at_224) hr
      · show Q_rm0 Z _ _ _ _ _ _ _ h0 n0 _ T103.heap _
        rw [eh103]
        exact ⟨rfl, N103, trivial⟩
    · refine own_ifNo X16.here hx hby at_36 ((if0 _ _).trans (feq hc36_21).1) ?_
      refine own_iconst X16.here hx hby at_39 (v := (1 : Int32)) (by decide) ?_
      refine own_goto X16.here hx hby (pc' := 44) at_40 (by decide) (by decide) ?_
      refine own_istore X16.here hx hby at_44 (l' := #[.val (.int p1), .val (.int p2), .val (.int p3), .val (.int p4), .val (.int p5), .val (.int p6), .val (.ref x_7), .val (.ref x_11), .val (.ref x_16), .val (.int 0), .val (.int 1), .unset, .unset, .unset, .unset, .unset]) rfl ?_
      refine own_newO X16 hx hZ hown (own_w hw 34 rfl) (own_w hw 35 rfl) (own_w hw 36 rfl) rfl hby at_46 (by decide) (by decide) ?_
      intro T105 h105 b105 X105 e105 E105 g105 A105 D105 lt105
      have z106 : T16.heap.size ≤ h105.size := E105.1
      have F107 : Fld Z h105 b105 "com/example/boxwood/boxwood/XmlNodeTable" "numbers" "[[I" .null := D105 (Or.inl (own_w hw 44 rfl)) (ty := (.array (.array .int))) (by decide)
      have F108 : Fld Z h105 b105 "com/example/boxwood/boxwood/XmlNodeTable" "strings" "[[Ljava/lang/String;" .null := D105 (Or.inl (own_w hw 48 rfl)) (ty := (.array (.array (.object "java/lang/String")))) (by decide)
      have F109 : Fld Z h105 b105 "com/example/boxwood/boxwood/XmlNodeTable" "attributeNumbers" "[[I" .null := D105 (Or.inl (own_w hw 50 rfl)) (ty := (.array (.array .int))) (by decide)
      have F110 : Fld Z h105 b105 "com/example/boxwood/boxwood/XmlNodeTable" "attributeNames" "[[Ljava/lang/String;" .null := D105 (Or.inl (own_w hw 52 rfl)) (ty := (.array (.array (.object "java/lang/String")))) (by decide)
      have F111 : Fld Z h105 b105 "com/example/boxwood/boxwood/XmlNodeTable" "attributeValues" "[[Lcom/example/boxwood/boxwood/XmlValue;" .null := D105 (Or.inl (own_w hw 56 rfl)) (ty := (.array (.array (.object "com/example/boxwood/boxwood/XmlValue")))) (by decide)
      have F112 : Fld Z h105 b105 "com/example/boxwood/boxwood/XmlNodeTable" "content" "[B" .null := D105 (Or.inr (own_w hw 58 rfl)) (ty := (.array .byte)) (by decide)
      have F113 : Fld Z h105 b105 "com/example/boxwood/boxwood/XmlNodeTable" "size" "I" (.int 0) := D105 (Or.inl (own_w hw 69 rfl)) (ty := .int) (by decide)
      have F114 : Fld Z h105 b105 "com/example/boxwood/boxwood/XmlNodeTable" "attributeCount" "I" (.int 0) := D105 (Or.inl (own_w hw 76 rfl)) (ty := .int) (by decide)
      refine own_dup X105.here hx hby at_49 rfl ?_
      refine own_iconst X105.here hx hby at_50 (v := (0 : Int32)) (by decide) ?_
      refine own_newP X105 hx hZ (aty := .byte) (own_w hw 23 rfl) e105 hby at_51 (by decide) 0 (by decide) (by decide) (by decide) (by decide) (ad := "[B") (by decide) ?_
      intro T115 h115 k115 b115 X115 e115 E115 g115 V115 C115 lt115
      have z116 : h105.size ≤ h115.size := E115.1
      have V117 : Arv Z h115 b115 k115 .byte (0 : Int32) [] (.int 0) := V115
      have f118 : Exa Z h115 b105 "com/example/boxwood/boxwood/XmlNodeTable" := (A105.ext E115)
      have f119 : Fld Z h115 b105 "com/example/boxwood/boxwood/XmlNodeTable" "content" "[B" .null := (F112.ext E115)
      have f120 : Fld Z h115 b105 "com/example/boxwood/boxwood/XmlNodeTable" "numbers" "[[I" .null := (F107.ext E115)
      have f121 : Fld Z h115 b105 "com/example/boxwood/boxwood/XmlNodeTable" "strings" "[[Ljava/lang/String;" .null := (F108.ext E115)
      have f122 : Fld Z h115 b105 "com/example/boxwood/boxwood/XmlNodeTable" "attributeNumbers" "[[I" .null := (F109.ext E115)
      have f123 : Fld Z h115 b105 "com/example/boxwood/boxwood/XmlNodeTable" "attributeNames" "[[Ljava/lang/String;" .null := (F110.ext E115)
      have f124 : Fld Z h115 b105 "com/example/boxwood/boxwood/XmlNodeTable" "attributeValues" "[[Lcom/example/boxwood/boxwood/XmlValue;" .null := (F111.ext E115)
      have f125 : Fld Z h115 b105 "com/example/boxwood/boxwood/XmlNodeTable" "size" "I" (.int 0) := (F113.ext E115)
      have f126 : Fld Z h115 b105 "com/example/boxwood/boxwood/XmlNodeTable" "attributeCount" "I" (.int 0) := (F114.ext E115)
      have z128 : n0 ≤ h115.size := by omega
      refine own_special X115 hx hZ rfl hown (own_w hw 37 rfl) (own_w hw 38 rfl) (own_w hw 36 rfl) (own_w hw 39 rfl) (by decide) (tabInit l Z a0 hw [] b105 b115 h115 n0 z128 f118 f119 (by omega) f120 f121 f122 f123 f124 f125 f126) 1 (Nat.le_of_eq rfl) (by decide) (by decide) (by rw [hml]; rfl) (argsL := [(.ref b115)]) (st := [(.ref b105)]) (a := b105) (lenOf pd_5 rfl) rfl rfl (by decide) (by decide) e115 hby at_53 ?_
      intro T127 v127 L127 X127 hQ127
      obtain ⟨aN_127, kaN_127, aS_127, kaS_127, aA_127, kaA_127, aM_127, kaM_127, aW_127, kaW_127, rfl, Nq127, K127, P127_0, P127_1, P127_2, P127_3, P127_4, P127_5, P127_6, P127_7, P127_8, P127_9, P127_10, P127_11, P127_12, P127_13, P127_14, P127_15, P127_16, P127_17, P127_18, P127_19, P127_20, P127_21, P127_22, P127_23, P127_24, P127_25, P127_26⟩ := hQ127
      have N127 := Fr.app N16 Nq127
      have z129 : h115.size ≤ T127.heap.size := K127.1
      have lt130 : T127.heap.size > b105 := P127_0.lt
      have lt131 : T127.heap.size > aN_127 := P127_5.lt
      have lt132 : T127.heap.size > aS_127 := P127_9.lt
      have lt133 : T127.heap.size > aA_127 := P127_13.lt
      have lt134 : T127.heap.size > aM_127 := P127_17.lt
      have lt135 : T127.heap.size > aW_127 := P127_21.lt
      refine own_sh (T := T127) 56 #[.val (.int p1), .val (.int p2), .val (.int p3), .val (.int p4), .val (.int p5), .val (.int p6), .val (.ref x_7), .val (.ref x_11), .val (.ref x_16), .val (.int 0), .val (.int 1), .unset, .unset, .unset, .unset, .unset] [(.ref b105)] ?_
      refine own_astore X127.here hx hby at_56 rfl (l' := #[.val (.int p1), .val (.int p2), .val (.int p3), .val (.int p4), .val (.int p5), .val (.int p6), .val (.ref x_7), .val (.ref x_11), .val (.ref x_16), .val (.int 0), .val (.int 1), .val (.ref b105), .unset, .unset, .unset, .unset]) rfl ?_
      refine own_aload X127.here hx hby at_58 rfl rfl ?_
      refine own_aload X127.here hx hby at_60 rfl rfl ?_
      refine own_iloadN X127.here hx hby at_62 rfl ?_
      refine own_iload X127.here hx hby at_63 rfl ?_
      have f136 : Exa Z T127.heap x_7 "java/lang/String" := (((((P7_1.keep K11).keep K16).ext E105).ext E115).keep K127)
      have z138 : n0 ≤ T127.heap.size := by omega
      refine own_virtual X127 hx hZ hown (own_w hw 59 rfl) (own_w hw 60 rfl) (notFace_of_selects (args := #[]) (mvT hZ (own_w hw 62 rfl))) (own_w hw 62 rfl) (own_w hw 61 rfl) (own_w hw 36 rfl) (own_w hw 63 rfl) (by decide) (start_0 l Z a0 hw [] b105 x_7 aN_127 aS_127 p4 p5 (0 : Int32) kaN_127 kaS_127 T127.heap n0 z138 P127_0 P127_1 P127_4 P127_2 P127_5 P127_8 P127_9 P127_6 P127_10 (by omega) (by omega) (by omega) f136) 0 (Nat.le_of_eq rfl) (by decide) (by decide) (by rw [hml]; rfl) (argsL := [(.ref x_7), (.int p4), (.int p5)]) (st := []) P127_0 (lenOf pd_6 rfl) rfl rfl (by decide) (by decide) rfl hby at_65 ?_
      intro T137 v137 L137 X137 hQ137
      obtain ⟨bN_137, bS_137, kb_137, kc_137, rfl, Nq137, K137, P137_0, P137_1, P137_2, P137_3, P137_4, P137_5, P137_6, P137_7, P137_8, P137_9, P137_10, P137_11, P137_12⟩ := hQ137
      have N137 := Fr.app N127 Nq137
      have z139 : T127.heap.size ≤ T137.heap.size := K137.1
      have lt140 : T137.heap.size > b105 := P137_0.lt
      have lt141 : T137.heap.size > aN_127 := P137_2.lt
      have lt142 : T137.heap.size > aS_127 := P137_3.lt
      have lt143 : T137.heap.size > bN_137 := P137_7.lt
      have lt144 : T137.heap.size > bS_137 := P137_8.lt
      refine own_sh (T := T137) 68 #[.val (.int p1), .val (.int p2), .val (.int p3), .val (.int p4), .val (.int p5), .val (.int p6), .val (.ref x_7), .val (.ref x_11), .val (.ref x_16), .val (.int 0), .val (.int 1), .val (.ref b105), .unset, .unset, .unset, .unset] [(.int 0)] ?_
      refine own_istore X137.here hx hby at_68 (l' := #[.val (.int p1), .val (.int p2), .val (.int p3), .val (.int p4), .val (.int p5), .val (.int p6), .val (.ref x_7), .val (.ref x_11), .val (.ref x_16), .val (.int 0), .val (.int 1), .val (.ref b105), .val (.int 0), .unset, .unset, .unset]) rfl ?_
      refine own_iload X137.here hx hby at_70 rfl ?_
      refine own_ifYes X137.here hx hby (pc' := 96) at_72 ((if0 _ _).trans (teq (show (0 : Int32) = (0 : Int32) from (by decide))).1) (by decide) (by decide) ?_
      refine own_aload X137.here hx hby at_96 rfl rfl ?_
      refine own_iload X137.here hx hby at_98 rfl ?_
      refine own_iloadN X137.here hx hby at_100 rfl ?_
      have z146 : n0 ≤ T137.heap.size := by omega
      refine own_virtual X137 hx hZ hown (own_w hw 86 rfl) (own_w hw 87 rfl) (notFace_of_selects (args := #[]) (mvT hZ (own_w hw 89 rfl))) (own_w hw 89 rfl) (own_w hw 88 rfl) (own_w hw 36 rfl) (own_w hw 90 rfl) (by decide) (verb_1 l Z a0 hw [] b105 aN_127 bN_137 p5 p4 (0 : Int32) kaN_127 kb_137 (0 : Int32) p4 (-1 : Int32) (1 : Int32) p5 (0 : Int32) (0 : Int32) aS_127 T137.heap n0 z146 P137_0 P137_1 P137_10 P137_12 P137_2 P137_7 (by omega) (by omega) P137_11) 0 (Nat.le_of_eq rfl) (by decide) (by decide) (by rw [hml]; rfl) (argsL := [(.int p5), (.int p4)]) (st := []) P137_0 (lenOf pd_7 rfl) rfl rfl (by decide) (by decide) rfl hby at_101 ?_
      intro T145 v145 L145 X145 hQ145
      obtain ⟨rfl, Nq145, K145, P145_0, P145_1, P145_2, P145_3, P145_4, P145_5⟩ := hQ145
      have N145 := Fr.app N137 Nq145
      have z147 : T137.heap.size ≤ T145.heap.size := K145.1
      have lt148 : T145.heap.size > b105 := P145_0.lt
      have lt149 : T145.heap.size > bN_137 := P145_4.lt
      refine own_sh (T := T145) 104 #[.val (.int p1), .val (.int p2), .val (.int p3), .val (.int p4), .val (.int p5), .val (.int p6), .val (.ref x_7), .val (.ref x_11), .val (.ref x_16), .val (.int 0), .val (.int 1), .val (.ref b105), .val (.int 0), .unset, .unset, .unset] [] ?_
      refine own_aload X145.here hx hby at_104 rfl rfl ?_
      refine own_aload X145.here hx hby at_106 rfl rfl ?_
      refine own_iload X145.here hx hby at_108 rfl ?_
      refine own_iloadN X145.here hx hby at_110 rfl ?_
      have f150 : Arv Z T145.heap aN_127 kaN_127 (.array .int) (1 : Int32) [(.ref bN_137)] .null := (P137_2.keep K145 (ninS (own_nn (by omega)) (ninS (own_nn (by omega)) nin0)))
      have f151 : Arv Z T145.heap aS_127 kaS_127 (.array (.object "java/lang/String")) (1 : Int32) [(.ref bS_137)] .null := (P137_3.keep K145 (ninS (own_nn (by omega)) (ninS (own_nn (by omega)) nin0)))
      have f152 : Arv Z T145.heap bS_137 kc_137 (.object "java/lang/String") (4096 : Int32) [(.ref x_7)] .null := (P137_8.keep K145 (ninS (own_nn (by omega)) (ninS (own_nn (by omega)) nin0)))
      have f153 : Exa Z T145.heap x_16 "java/lang/String" := (((((P16_1.ext E105).ext E115).keep K127).keep K137).keep K145)
      have z155 : n0 ≤ T145.heap.size := by omega
      refine own_virtual X145 hx hZ hown (own_w hw 81 rfl) (own_w hw 82 rfl) (notFace_of_selects (args := #[]) (mvT hZ (own_w hw 84 rfl))) (own_w hw 84 rfl) (own_w hw 83 rfl) (own_w hw 36 rfl) (own_w hw 85 rfl) (by decide) (text_2 l Z a0 hw [] b105 x_16 aN_127 bN_137 aS_127 bS_137 p5 p4 (0 : Int32) kaN_127 kb_137 kaS_127 kc_137 (0 : Int32) p4 (-1 : Int32) (1 : Int32) p5 (0 : Int32) (0 : Int32) (2 : Int32) p5 p4 (2 : Int32) (0 : Int32) (0 : Int32) (0 : Int32) x_7 T145.heap n0 z155 P145_0 P145_1 P145_2 P145_3 f150 P145_4 P145_5 f151 f152 P137_9 (by omega) (by omega) (by omega) f153) 0 (Nat.le_of_eq rfl) (by decide) (by decide) (by rw [hml]; rfl) (argsL := [(.ref x_16), (.int p5), (.int p4)]) (st := []) P145_0 (lenOf pd_8 rfl) rfl rfl (by decide) (by decide) rfl hby at_111 ?_
      intro T154 v154 L154 X154 hQ154
      obtain ⟨rfl, Nq154, K154, P154_0, P154_1, P154_2, P154_3, P154_4, P154_5, P154_6⟩ := hQ154
      have N154 := Fr.app N145 Nq154
      have z156 : T145.heap.size ≤ T154.heap.size := K154.1
      have lt157 : T154.heap.size > b105 := P154_0.lt
      have lt158 : T154.heap.size > bN_137 := P154_5.lt
      have lt159 : T154.heap.size > bS_137 := P154_6.lt
      refine own_sh (T := T154) 114 #[.val (.int p1), .val (.int p2), .val (.int p3), .val (.int p4), .val (.int p5), .val (.int p6), .val (.ref x_7), .val (.ref x_11), .val (.ref x_16), .val (.int 0), .val (.int 1), .val (.ref b105), .val (.int 0), .unset, .unset, .unset] [] ?_
      refine own_iload X154.here hx hby at_114 rfl ?_
      refine own_ifNo X154.here hx hby at_116 ((if0 _ _).trans (feq (show ¬ ((1 : Int32) = (0 : Int32)) from (by decide))).1) ?_
      refine own_aload X154.here hx hby at_119 rfl rfl ?_
      refine own_iload X154.here hx hby at_121 rfl ?_
      refine own_iload X154.here hx hby at_123 rfl ?_
      refine own_iconst X154.here hx hby at_125 (v := (4 : Int32)) (by decide) ?_
      refine own_iand X154.here hx hby at_126 rfl ?_
      by_cases hc127_160 : (p6 &&& (4 : Int32)) = (0 : Int32)
      · refine own_ifYes X154.here hx hby (pc' := 134) at_127 ((if0 _ _).trans (teq hc127_160).1) (by decide) (by decide) ?_
        refine own_iconst X154.here hx hby at_134 (v := (0 : Int32)) (by decide) ?_
        have f161 : Arv Z T154.heap aN_127 kaN_127 (.array .int) (1 : Int32) [(.ref bN_137)] .null := (f150.keep K154 (ninS (own_nn (by omega)) (ninS (own_nn (by omega)) (ninS (own_nn (by omega)) nin0))))
        have z163 : n0 ≤ T154.heap.size := by omega
        refine own_virtual X154 hx hZ hown (own_w hw 91 rfl) (own_w hw 92 rfl) (notFace_of_selects (args := #[]) (mvT hZ (own_w hw 94 rfl))) (own_w hw 94 rfl) (own_w hw 93 rfl) (own_w hw 36 rfl) (own_w hw 95 rfl) (by decide) (pass_0_3 l Z a0 hw [] b105 aN_127 bN_137 kaN_127 kb_137 (0 : Int32) p4 (-1 : Int32) (1 : Int32) p5 (0 : Int32) (0 : Int32) (2 : Int32) p5 p4 (2 : Int32) (0 : Int32) (0 : Int32) (0 : Int32) (1 : Int32) p5 p4 (3 : Int32) (0 : Int32) (0 : Int32) (0 : Int32) T154.heap n0 z163 P154_0 P154_2 f161 P154_5 (by omega)) 0 (Nat.le_of_eq rfl) (by decide) (by decide) (by rw [hml]; rfl) (argsL := [(.int 0), (.int 0)]) (st := []) P154_0 (lenOf pd_10 rfl) rfl rfl (by decide) (by decide) rfl hby at_135 ?_
        intro T162 v162 L162 X162 hQ162
        obtain ⟨rfl, Nq162, K162, P162_0⟩ := hQ162
        have N162 := Fr.app N154 Nq162
        have z164 : T154.heap.size ≤ T162.heap.size := K162.1
        have lt165 : T162.heap.size > bN_137 := P162_0.lt
        refine own_sh (T := T162) 138 #[.val (.int p1), .val (.int p2), .val (.int p3), .val (.int p4), .val (.int p5), .val (.int p6), .val (.ref x_7), .val (.ref x_11), .val (.ref x_16), .val (.int 0), .val (.int 1), .val (.ref b105), .val (.int 0), .unset, .unset, .unset] [] ?_
        refine own_aload X162.here hx hby at_138 rfl rfl ?_
        refine own_iload X162.here hx hby at_140 rfl ?_
        refine own_iloadN X162.here hx hby at_142 rfl ?_
        refine own_iload X162.here hx hby at_143 rfl ?_
        have f166 : Exa Z T162.heap b105 "com/example/boxwood/boxwood/XmlNodeTable" := (P154_0.keep K162)
        have f167 : Fld Z T162.heap b105 "com/example/boxwood/boxwood/XmlNodeTable" "size" "I" (.int 3) := (P154_1.keep K162 (ninS (own_nn (by omega)) nin0))
        have f168 : Fld Z T162.heap b105 "com/example/boxwood/boxwood/XmlNodeTable" "numbers" "[[I" (.ref aN_127) := (P154_2.keep K162 (ninS (own_nn (by omega)) nin0))
        have f169 : Fld Z T162.heap b105 "com/example/boxwood/boxwood/XmlNodeTable" "attributeCount" "I" (.int 0) := (P154_4.keep K162 (ninS (own_nn (by omega)) nin0))
        have f170 : Arv Z T162.heap aN_127 kaN_127 (.array .int) (1 : Int32) [(.ref bN_137)] .null := (f161.keep K162 (ninS (own_nn (by omega)) nin0))
        have z172 : n0 ≤ T162.heap.size := by omega
        refine own_virtual X162 hx hZ hown (own_w hw 100 rfl) (own_w hw 101 rfl) (notFace_of_selects (args := #[]) (mvT hZ (own_w hw 103 rfl))) (own_w hw 103 rfl) (own_w hw 102 rfl) (own_w hw 36 rfl) (own_w hw 104 rfl) (by decide) (endE_0_3 l Z a0 hw [] b105 aN_127 bN_137 p4 p5 (0 : Int32) kaN_127 kb_137 (((0 : Int32) ||| (4 : Int32)) ||| (0 : Int32)) p4 (-1 : Int32) (1 : Int32) p5 (0 : Int32) (0 : Int32) (2 : Int32) p5 p4 (2 : Int32) (0 : Int32) (0 : Int32) (0 : Int32) (1 : Int32) p5 p4 (3 : Int32) (0 : Int32) (0 : Int32) (0 : Int32) T162.heap n0 z172 f166 f167 f168 f169 f170 P162_0 (by omega)) 0 (Nat.le_of_eq rfl) (by decide) (by decide) (by rw [hml]; rfl) (argsL := [(.int 0), (.int p4), (.int p5)]) (st := []) f166 (lenOf pd_2 rfl) rfl rfl (by decide) (by decide) rfl hby at_145 ?_
        intro T171 v171 L171 X171 hQ171
        obtain ⟨rfl, Nq171, K171, P171_0⟩ := hQ171
        have N171 := Fr.app N162 Nq171
        have z173 : T162.heap.size ≤ T171.heap.size := K171.1
        have lt174 : T171.heap.size > bN_137 := P171_0.lt
        refine own_sh (T := T171) 148 #[.val (.int p1), .val (.int p2), .val (.int p3), .val (.int p4), .val (.int p5), .val (.int p6), .val (.ref x_7), .val (.ref x_11), .val (.ref x_16), .val (.int 0), .val (.int 1), .val (.ref b105), .val (.int 0), .unset, .unset, .unset] [] ?_
        refine own_aload X171.here hx hby at_148 rfl rfl ?_
        refine own_aload X171.here hx hby at_150 rfl rfl ?_
        refine own_iload X171.here hx hby at_152 rfl ?_
        refine own_iloadN X171.here hx hby at_154 rfl ?_
        have f175 : Exa Z T171.heap b105 "com/example/boxwood/boxwood/XmlNodeTable" := (f166.keep K171)
        have f176 : Fld Z T171.heap b105 "com/example/boxwood/boxwood/XmlNodeTable" "size" "I" (.int 3) := (f167.keep K171 (ninS (own_nn (by omega)) nin0))
        have f177 : Fld Z T171.heap b105 "com/example/boxwood/boxwood/XmlNodeTable" "numbers" "[[I" (.ref aN_127) := (f168.keep K171 (ninS (own_nn (by omega)) nin0))
        have f178 : Fld Z T171.heap b105 "com/example/boxwood/boxwood/XmlNodeTable" "attributeCount" "I" (.int 0) := (f169.keep K171 (ninS (own_nn (by omega)) nin0))
        have f179 : Arv Z T171.heap aN_127 kaN_127 (.array .int) (1 : Int32) [(.ref bN_137)] .null := (f170.keep K171 (ninS (own_nn (by omega)) nin0))
        have f180 : Fld Z T171.heap b105 "com/example/boxwood/boxwood/XmlNodeTable" "strings" "[[Ljava/lang/String;" (.ref aS_127) := ((P154_3.keep K162 (ninS (own_nn (by omega)) nin0)).keep K171 (ninS (own_nn (by omega)) nin0))
        have f181 : Arv Z T171.heap aS_127 kaS_127 (.array (.object "java/lang/String")) (1 : Int32) [(.ref bS_137)] .null := (((f151.keep K154 (ninS (own_nn (by omega)) (ninS (own_nn (by omega)) (ninS (own_nn (by omega)) nin0)))).keep K162 (ninS (own_nn (by omega)) nin0)).keep K171 (ninS (own_nn (by omega)) nin0))
        have f182 : Arv Z T171.heap bS_137 kc_137 (.object "java/lang/String") (4096 : Int32) [(.ref x_7), .null, (.ref x_16)] .null := ((P154_6.keep K162 (ninS (own_nn (by omega)) nin0)).keep K171 (ninS (own_nn (by omega)) nin0))
        have f183 : Exa Z T171.heap x_11 "java/lang/String" := (((((((((P11_1.keep K16).ext E105).ext E115).keep K127).keep K137).keep K145).keep K154).keep K162).keep K171)
        have z185 : n0 ≤ T171.heap.size := by omega
        refine own_virtual X171 hx hZ hown (own_w hw 59 rfl) (own_w hw 60 rfl) (notFace_of_selects (args := #[]) (mvT hZ (own_w hw 62 rfl))) (own_w hw 62 rfl) (own_w hw 61 rfl) (own_w hw 36 rfl) (own_w hw 63 rfl) (by decide) (start_3v l Z a0 hw [] b105 x_11 aN_127 bN_137 aS_127 bS_137 p5 p4 (0 : Int32) kaN_127 kb_137 kaS_127 kc_137 (((0 : Int32) ||| (4 : Int32)) ||| (0 : Int32)) p4 p5 (3 : Int32) p5 p4 (0 : Int32) (2 : Int32) p5 p4 (2 : Int32) (0 : Int32) (0 : Int32) (0 : Int32) (1 : Int32) p5 p4 (3 : Int32) (0 : Int32) (0 : Int32) (0 : Int32) x_7 x_16 T171.heap n0 z185 f175 f176 f177 f178 f179 P171_0 f180 f181 f182 P137_9 (by omega) (by omega) (by omega) f183) 0 (Nat.le_of_eq rfl) (by decide) (by decide) (by rw [hml]; rfl) (argsL := [(.ref x_11), (.int p5), (.int p4)]) (st := []) f175 (lenOf pd_6 rfl) rfl rfl (by decide) (by decide) rfl hby at_155 ?_
        intro T184 v184 L184 X184 hQ184
        obtain ⟨rfl, Nq184, K184, P184_0, P184_1, P184_2, P184_3, P184_4, P184_5, P184_6⟩ := hQ184
        have N184 := Fr.app N171 Nq184
        have z186 : T171.heap.size ≤ T184.heap.size := K184.1
        have lt187 : T184.heap.size > b105 := P184_0.lt
        have lt188 : T184.heap.size > bN_137 := P184_5.lt
        have lt189 : T184.heap.size > bS_137 := P184_6.lt
        refine own_sh (T := T184) 158 #[.val (.int p1), .val (.int p2), .val (.int p3), .val (.int p4), .val (.int p5), .val (.int p6), .val (.ref x_7), .val (.ref x_11), .val (.ref x_16), .val (.int 0), .val (.int 1), .val (.ref b105), .val (.int 0), .unset, .unset, .unset] [(.int 3)] ?_
        refine own_istore X184.here hx hby at_158 (l' := #[.val (.int p1), .val (.int p2), .val (.int p3), .val (.int p4), .val (.int p5), .val (.int p6), .val (.ref x_7), .val (.ref x_11), .val (.ref x_16), .val (.int 0), .val (.int 1), .val (.ref b105), .val (.int 0), .val (.int 3), .unset, .unset]) rfl ?_
        refine own_aload X184.here hx hby at_160 rfl rfl ?_
        refine own_iload X184.here hx hby at_162 rfl ?_
        have f190 : Arv Z T184.heap aS_127 kaS_127 (.array (.object "java/lang/String")) (1 : Int32) [(.ref bS_137)] .null := (f181.keep K184 (ninS (own_nn (by omega)) (ninS (own_nn (by omega)) (ninS (own_nn (by omega)) nin0))))
        have z192 : n0 ≤ T184.heap.size := by omega
        refine own_virtual X184 hx hZ hown (own_w hw 105 rfl) (own_w hw 106 rfl) (notFace_of_selects (args := #[]) (mvT hZ (own_w hw 108 rfl))) (own_w hw 108 rfl) (own_w hw 107 rfl) (own_w hw 36 rfl) (own_w hw 109 rfl) (by decide) (name_0_snss l Z a0 hw [] b105 aS_127 bS_137 kaS_127 kc_137 x_7 x_16 x_11 T184.heap n0 z192 P184_3 f190 P184_6) 0 (Nat.le_of_eq rfl) (by decide) (by decide) (by rw [hml]; rfl) (argsL := [(.int 0)]) (st := []) P184_0 (lenOf pd_4 rfl) rfl rfl (by decide) (by decide) rfl hby at_164 ?_
        intro T191 v191 L191 X191 hQ191
        obtain ⟨rfl, Nq191, eh191⟩ := hQ191
        have N191 := Fr.app N184 Nq191
        refine own_sh (T := T191) 167 #[.val (.int p1), .val (.int p2), .val (.int p3), .val (.int p4), .val (.int p5), .val (.int p6), .val (.ref x_7), .val (.ref x_11), .val (.ref x_16), .val (.int 0), .val (.int 1), .val (.ref b105), .val (.int 0), .val (.int 3), .unset, .unset] [(.ref x_7)] ?_
        refine own_astore X191.here hx hby at_167 rfl (l' := #[.val (.int p1), .val (.int p2), .val (.int p3), .val (.int p4), .val (.int p5), .val (.int p6), .val (.ref x_7), .val (.ref x_11), .val (.ref x_16), .val (.int 0), .val (.int 1), .val (.ref b105), .val (.int 0), .val (.int 3), .val (.ref x_7), .unset]) rfl ?_
        refine own_aload X191.here hx hby at_169 rfl rfl ?_
        refine own_iload X191.here hx hby at_171 rfl ?_
        refine own_virtual X191 hx hZ hown (own_w hw 105 rfl) (own_w hw 106 rfl) (notFace_of_selects (args := #[]) (mvT hZ (own_w hw 108 rfl))) (own_w hw 108 rfl) (own_w hw 107 rfl) (own_w hw 36 rfl) (own_w hw 109 rfl) (by decide) (name_3_snss l Z a0 hw [] b105 aS_127 bS_137 kaS_127 kc_137 x_7 x_16 x_11 T184.heap n0 z192 P184_3 f190 P184_6) 0 (Nat.le_of_eq rfl) (by decide) (by decide) (by rw [hml]; rfl) (argsL := [(.int 3)]) (st := []) P184_0 (lenOf pd_4 rfl) rfl rfl (by decide) (by decide) eh191 hby at_173 ?_
        intro T193 v193 L193 X193 hQ193
        obtain ⟨rfl, Nq193, eh193⟩ := hQ193
        have N193 := Fr.app N191 Nq193
        refine own_sh (T := T193) 176 #[.val (.int p1), .val (.int p2), .val (.int p3), .val (.int p4), .val (.int p5), .val (.int p6), .val (.ref x_7), .val (.ref x_11), .val (.ref x_16), .val (.int 0), .val (.int 1), .val (.ref b105), .val (.int 0), .val (.int 3), .val (.ref x_7), .unset] [(.ref x_11)] ?_
        refine own_astore X193.here hx hby at_176 rfl (l' := #[.val (.int p1), .val (.int p2), .val (.int p3), .val (.int p4), .val (.int p5), .val (.int p6), .val (.ref x_7), .val (.ref x_11), .val (.ref x_16), .val (.int 0), .val (.int 1), .val (.ref b105), .val (.int 0), .val (.int 3), .val (.ref x_7), .val (.ref x_11)]) rfl ?_
        refine own_iload X193.here hx hby at_178 rfl ?_
        refine own_ifNo X193.here hx hby at_180 ((if0 _ _).trans (teq (show (0 : Int32) = (0 : Int32) from (by decide))).2) ?_
        refine own_iload X193.here hx hby at_183 rfl ?_
        refine own_iconst X193.here hx hby at_185 (v := (3 : Int32)) (by decide) ?_
        refine own_icmpNo X193.here hx hby at_186 (teq (show (3 : Int32) = (3 : Int32) from (by decide))).2 ?_
        refine own_aload X193.here hx hby at_189 rfl rfl ?_
        refine own_ifnullNo X193.here hx hby at_191 ?_
        refine own_aload X193.here hx hby at_194 rfl rfl ?_
        refine own_ifnullNo X193.here hx hby at_196 ?_
        refine own_aload X193.here hx hby at_199 rfl rfl ?_
        refine own_aload X193.here hx hby at_201 rfl rfl ?_
        have f195 : Exa Z T184.heap x_7 "java/lang/String" := ((((((f136.keep K137).keep K145).keep K154).keep K162).keep K171).keep K184)
        refine own_virtual X193 hx hZ hown (own_w hw 110 rfl) (own_w hw 111 rfl) (notFace_of_selects (args := #[]) (mvT hZ (own_w hw 113 rfl))) (own_w hw 113 rfl) (own_w hw 112 rfl) (own_w hw 7 rfl) (own_w hw 114 rfl) (by decide) (eqSelf l Z a0 hw [] x_7 T184.heap n0 z192 ) 0 (Nat.le_of_eq rfl) (by decide) (by decide) (by rw [hml]; rfl) (argsL := [(.ref x_7)]) (st := []) f195 (lenOf pd_9 rfl) rfl rfl (by decide) (by decide) eh193 hby at_203 ?_
        intro T194 v194 L194 X194 hQ194
        obtain ⟨rfl, Nq194, eh194⟩ := hQ194
        have N194 := Fr.app N193 Nq194
        refine own_sh (T := T194) 206 #[.val (.int p1), .val (.int p2), .val (.int p3), .val (.int p4), .val (.int p5), .val (.int p6), .val (.ref x_7), .val (.ref x_11), .val (.ref x_16), .val (.int 0), .val (.int 1), .val (.ref b105), .val (.int 0), .val (.int 3), .val (.ref x_7), .val (.ref x_11)] [(.int 1)] ?_
        refine own_ifNo X194.here hx hby at_206 ((if0 _ _).trans (feq (show ¬ ((1 : Int32) = (0 : Int32)) from (by decide))).1) ?_
        refine own_aload X194.here hx hby at_209 rfl rfl ?_
        refine own_aload X194.here hx hby at_211 rfl rfl ?_
        have f197 : Exa Z T184.heap x_11 "java/lang/String" := (f183.keep K184)
        refine own_virtual X194 hx hZ hown (own_w hw 110 rfl) (own_w hw 111 rfl) (notFace_of_selects (args := #[]) (mvT hZ (own_w hw 113 rfl))) (own_w hw 113 rfl) (own_w hw 112 rfl) (own_w hw 7 rfl) (own_w hw 114 rfl) (by decide) (eqSelf l Z a0 hw [] x_11 T184.heap n0 z192 ) 0 (Nat.le_of_eq rfl) (by decide) (by decide) (by rw [hml]; rfl) (argsL := [(.ref x_11)]) (st := []) f197 (lenOf pd_9 rfl) rfl rfl (by decide) (by decide) eh194 hby at_213 ?_
        intro T196 v196 L196 X196 hQ196
        obtain ⟨rfl, Nq196, eh196⟩ := hQ196
        have N196 := Fr.app N194 Nq196
        refine own_sh (T := T196) 216 #[.val (.int p1), .val (.int p2), .val (.int p3), .val (.int p4), .val (.int p5), .val (.int p6), .val (.ref x_7), .val (.ref x_11), .val (.ref x_16), .val (.int 0), .val (.int 1), .val (.ref b105), .val (.int 0), .val (.int 3), .val (.ref x_7), .val (.ref x_11)] [(.int 1)] ?_
        refine own_ifNo X196.here hx hby at_216 ((if0 _ _).trans (feq (show ¬ ((1 : Int32) = (0 : Int32)) from (by decide))).1) ?_
        refine own_iconst X196.here hx hby at_219 (v := (1 : Int32)) (by decide) ?_
        refine own_goto X196.here hx hby (pc' := 224) at_220 (by decide) (by decide) ?_
        obtain ⟨fs, hr, hrun, hended, hW, hsame⟩ := X196.leave (v := some (.int 1)) (fun h => by rw [Bd.returns] at h; cases h)
        refine own_ret (t := T196.setFrames fs) ?_ ⟨_, hrun, hended, _, _, rfl, ?_, ⟨_, rfl⟩, hW, hsame.mono (by decide) (by decide)⟩
        · exact retN X196 hx (t := .boolean) Bd.returns (by simp) (hb hby at_224) hr
        · show Q_rm0 Z _ _ _ _ _ _ _ h0 n0 _ T196.heap _
          rw [eh196]
          exact ⟨rfl, N196, trivial⟩
      · refine own_ifNo X154.here hx hby at_127 ((if0 _ _).trans (feq hc127_160).1) ?_
        refine own_iconst X154.here hx hby at_130 (v := (1 : Int32)) (by decide) ?_
        refine own_goto X154.here hx hby (pc' := 135) at_131 (by decide) (by decide) ?_
        have f198 : Arv Z T154.heap aN_127 kaN_127 (.array .int) (1 : Int32) [(.ref bN_137)] .null := (f150.keep K154 (ninS (own_nn (by omega)) (ninS (own_nn (by omega)) (ninS (own_nn (by omega)) nin0))))
        have z200 : n0 ≤ T154.heap.size := by omega
        refine own_virtual X154 hx hZ hown (own_w hw 91 rfl) (own_w hw 92 rfl) (notFace_of_selects (args := #[]) (mvT hZ (own_w hw 94 rfl))) (own_w hw 94 rfl) (own_w hw 93 rfl) (own_w hw 36 rfl) (own_w hw 95 rfl) (by decide) (pass_1_3 l Z a0 hw [] b105 aN_127 bN_137 kaN_127 kb_137 (0 : Int32) p4 (-1 : Int32) (1 : Int32) p5 (0 : Int32) (0 : Int32) (2 : Int32) p5 p4 (2 : Int32) (0 : Int32) (0 : Int32) (0 : Int32) (1 : Int32) p5 p4 (3 : Int32) (0 : Int32) (0 : Int32) (0 : Int32) T154.heap n0 z200 P154_0 P154_2 f198 P154_5 (by omega)) 0 (Nat.le_of_eq rfl) (by decide) (by decide) (by rw [hml]; rfl) (argsL := [(.int 0), (.int 1)]) (st := []) P154_0 (lenOf pd_10 rfl) rfl rfl (by decide) (by decide) rfl hby at_135 ?_
        intro T199 v199 L199 X199 hQ199
        obtain ⟨rfl, Nq199, K199, P199_0⟩ := hQ199
        have N199 := Fr.app N154 Nq199
        have z201 : T154.heap.size ≤ T199.heap.size := K199.1
        have lt202 : T199.heap.size > bN_137 := P199_0.lt
        refine own_sh (T := T199) 138 #[.val (.int p1), .val (.int p2), .val (.int p3), .val (.int p4), .val (.int p5), .val (.int p6), .val (.ref x_7), .val (.ref x_11), .val (.ref x_16), .val (.int 0), .val (.int 1), .val (.ref b105), .val (.int 0), .unset, .unset, .unset] [] ?_
        refine own_aload X199.here hx hby at_138 rfl rfl ?_
        refine own_iload X199.here hx hby at_140 rfl ?_
        refine own_iloadN X199.here hx hby at_142 rfl ?_
        refine own_iload X199.here hx hby at_143 rfl ?_
        have f203 : Exa Z T199.heap b105 "com/example/boxwood/boxwood/XmlNodeTable" := (P154_0.keep K199)
        have f204 : Fld Z T199.heap b105 "com/example/boxwood/boxwood/XmlNodeTable" "size" "I" (.int 3) := (P154_1.keep K199 (ninS (own_nn (by omega)) nin0))
        have f205 : Fld Z T199.heap b105 "com/example/boxwood/boxwood/XmlNodeTable" "numbers" "[[I" (.ref aN_127) := (P154_2.keep K199 (ninS (own_nn (by omega)) nin0))
        have f206 : Fld Z T199.heap b105 "com/example/boxwood/boxwood/XmlNodeTable" "attributeCount" "I" (.int 0) := (P154_4.keep K199 (ninS (own_nn (by omega)) nin0))
        have f207 : Arv Z T199.heap aN_127 kaN_127 (.array .int) (1 : Int32) [(.ref bN_137)] .null := (f198.keep K199 (ninS (own_nn (by omega)) nin0))
        have z209 : n0 ≤ T199.heap.size := by omega
        refine own_virtual X199 hx hZ hown (own_w hw 100 rfl) (own_w hw 101 rfl) (notFace_of_selects (args := #[]) (mvT hZ (own_w hw 103 rfl))) (own_w hw 103 rfl) (own_w hw 102 rfl) (own_w hw 36 rfl) (own_w hw 104 rfl) (by decide) (endE_0_3 l Z a0 hw [] b105 aN_127 bN_137 p4 p5 (0 : Int32) kaN_127 kb_137 (((0 : Int32) ||| (4 : Int32)) ||| (8 : Int32)) p4 (-1 : Int32) (1 : Int32) p5 (0 : Int32) (0 : Int32) (2 : Int32) p5 p4 (2 : Int32) (0 : Int32) (0 : Int32) (0 : Int32) (1 : Int32) p5 p4 (3 : Int32) (0 : Int32) (0 : Int32) (0 : Int32) T199.heap n0 z209 f203 f204 f205 f206 f207 P199_0 (by omega)) 0 (Nat.le_of_eq rfl) (by decide) (by decide) (by rw [hml]; rfl) (argsL := [(.int 0), (.int p4), (.int p5)]) (st := []) f203 (lenOf pd_2 rfl) rfl rfl (by decide) (by decide) rfl hby at_145 ?_
        intro T208 v208 L208 X208 hQ208
        obtain ⟨rfl, Nq208, K208, P208_0⟩ := hQ208
        have N208 := Fr.app N199 Nq208
        have z210 : T199.heap.size ≤ T208.heap.size := K208.1
        have lt211 : T208.heap.size > bN_137 := P208_0.lt
        refine own_sh (T := T208) 148 #[.val (.int p1), .val (.int p2), .val (.int p3), .val (.int p4), .val (.int p5), .val (.int p6), .val (.ref x_7), .val (.ref x_11), .val (.ref x_16), .val (.int 0), .val (.int 1), .val (.ref b105), .val (.int 0), .unset, .unset, .unset] [] ?_
        refine own_aload X208.here hx hby at_148 rfl rfl ?_
        refine own_aload X208.here hx hby at_150 rfl rfl ?_
        refine own_iload X208.here hx hby at_152 rfl ?_
        refine own_iloadN X208.here hx hby at_154 rfl ?_
        have f212 : Exa Z T208.heap b105 "com/example/boxwood/boxwood/XmlNodeTable" := (f203.keep K208)
        have f213 : Fld Z T208.heap b105 "com/example/boxwood/boxwood/XmlNodeTable" "size" "I" (.int 3) := (f204.keep K208 (ninS (own_nn (by omega)) nin0))
        have f214 : Fld Z T208.heap b105 "com/example/boxwood/boxwood/XmlNodeTable" "numbers" "[[I" (.ref aN_127) := (f205.keep K208 (ninS (own_nn (by omega)) nin0))
        have f215 : Fld Z T208.heap b105 "com/example/boxwood/boxwood/XmlNodeTable" "attributeCount" "I" (.int 0) := (f206.keep K208 (ninS (own_nn (by omega)) nin0))
        have f216 : Arv Z T208.heap aN_127 kaN_127 (.array .int) (1 : Int32) [(.ref bN_137)] .null := (f207.keep K208 (ninS (own_nn (by omega)) nin0))
        have f217 : Fld Z T208.heap b105 "com/example/boxwood/boxwood/XmlNodeTable" "strings" "[[Ljava/lang/String;" (.ref aS_127) := ((P154_3.keep K199 (ninS (own_nn (by omega)) nin0)).keep K208 (ninS (own_nn (by omega)) nin0))
        have f218 : Arv Z T208.heap aS_127 kaS_127 (.array (.object "java/lang/String")) (1 : Int32) [(.ref bS_137)] .null := (((f151.keep K154 (ninS (own_nn (by omega)) (ninS (own_nn (by omega)) (ninS (own_nn (by omega)) nin0)))).keep K199 (ninS (own_nn (by omega)) nin0)).keep K208 (ninS (own_nn (by omega)) nin0))
        have f219 : Arv Z T208.heap bS_137 kc_137 (.object "java/lang/String") (4096 : Int32) [(.ref x_7), .null, (.ref x_16)] .null := ((P154_6.keep K199 (ninS (own_nn (by omega)) nin0)).keep K208 (ninS (own_nn (by omega)) nin0))
        have f220 : Exa Z T208.heap x_11 "java/lang/String" := (((((((((P11_1.keep K16).ext E105).ext E115).keep K127).keep K137).keep K145).keep K154).keep K199).keep K208)
        have z222 : n0 ≤ T208.heap.size := by omega
        refine own_virtual X208 hx hZ hown (own_w hw 59 rfl) (own_w hw 60 rfl) (notFace_of_selects (args := #[]) (mvT hZ (own_w hw 62 rfl))) (own_w hw 62 rfl) (own_w hw 61 rfl) (own_w hw 36 rfl) (own_w hw 63 rfl) (by decide) (start_3v l Z a0 hw [] b105 x_11 aN_127 bN_137 aS_127 bS_137 p5 p4 (0 : Int32) kaN_127 kb_137 kaS_127 kc_137 (((0 : Int32) ||| (4 : Int32)) ||| (8 : Int32)) p4 p5 (3 : Int32) p5 p4 (0 : Int32) (2 : Int32) p5 p4 (2 : Int32) (0 : Int32) (0 : Int32) (0 : Int32) (1 : Int32) p5 p4 (3 : Int32) (0 : Int32) (0 : Int32) (0 : Int32) x_7 x_16 T208.heap n0 z222 f212 f213 f214 f215 f216 P208_0 f217 f218 f219 P137_9 (by omega) (by omega) (by omega) f220) 0 (Nat.le_of_eq rfl) (by decide) (by decide) (by rw [hml]; rfl) (argsL := [(.ref x_11), (.int p5), (.int p4)]) (st := []) f212 (lenOf pd_6 rfl) rfl rfl (by decide) (by decide) rfl hby at_155 ?_
        intro T221 v221 L221 X221 hQ221
        obtain ⟨rfl, Nq221, K221, P221_0, P221_1, P221_2, P221_3, P221_4, P221_5, P221_6⟩ := hQ221
        have N221 := Fr.app N208 Nq221
        have z223 : T208.heap.size ≤ T221.heap.size := K221.1
        have lt224 : T221.heap.size > b105 := P221_0.lt
        have lt225 : T221.heap.size > bN_137 := P221_5.lt
        have lt226 : T221.heap.size > bS_137 := P221_6.lt
        refine own_sh (T := T221) 158 #[.val (.int p1), .val (.int p2), .val (.int p3), .val (.int p4), .val (.int p5), .val (.int p6), .val (.ref x_7), .val (.ref x_11), .val (.ref x_16), .val (.int 0), .val (.int 1), .val (.ref b105), .val (.int 0), .unset, .unset, .unset] [(.int 3)] ?_
        refine own_istore X221.here hx hby at_158 (l' := #[.val (.int p1), .val (.int p2), .val (.int p3), .val (.int p4), .val (.int p5), .val (.int p6), .val (.ref x_7), .val (.ref x_11), .val (.ref x_16), .val (.int 0), .val (.int 1), .val (.ref b105), .val (.int 0), .val (.int 3), .unset, .unset]) rfl ?_
        refine own_aload X221.here hx hby at_160 rfl rfl ?_
        refine own_iload X221.here hx hby at_162 rfl ?_
        have f227 : Arv Z T221.heap aS_127 kaS_127 (.array (.object "java/lang/String")) (1 : Int32) [(.ref bS_137)] .null := (f218.keep K221 (ninS (own_nn (by omega)) (ninS (own_nn (by omega)) (ninS (own_nn (by omega)) nin0))))
        have z229 : n0 ≤ T221.heap.size := by omega
        refine own_virtual X221 hx hZ hown (own_w hw 105 rfl) (own_w hw 106 rfl) (notFace_of_selects (args := #[]) (mvT hZ (own_w hw 108 rfl))) (own_w hw 108 rfl) (own_w hw 107 rfl) (own_w hw 36 rfl) (own_w hw 109 rfl) (by decide) (name_0_snss l Z a0 hw [] b105 aS_127 bS_137 kaS_127 kc_137 x_7 x_16 x_11 T221.heap n0 z229 P221_3 f227 P221_6) 0 (Nat.le_of_eq rfl) (by decide) (by decide) (by rw [hml]; rfl) (argsL := [(.int 0)]) (st := []) P221_0 (lenOf pd_4 rfl) rfl rfl (by decide) (by decide) rfl hby at_164 ?_
        intro T228 v228 L228 X228 hQ228
        obtain ⟨rfl, Nq228, eh228⟩ := hQ228
        have N228 := Fr.app N221 Nq228
        refine own_sh (T := T228) 167 #[.val (.int p1), .val (.int p2), .val (.int p3), .val (.int p4), .val (.int p5), .val (.int p6), .val (.ref x_7), .val (.ref x_11), .val (.ref x_16), .val (.int 0), .val (.int 1), .val (.ref b105), .val (.int 0), .val (.int 3), .unset, .unset] [(.ref x_7)] ?_
        refine own_astore X228.here hx hby at_167 rfl (l' := #[.val (.int p1), .val (.int p2), .val (.int p3), .val (.int p4), .val (.int p5), .val (.int p6), .val (.ref x_7), .val (.ref x_11), .val (.ref x_16), .val (.int 0), .val (.int 1), .val (.ref b105), .val (.int 0), .val (.int 3), .val (.ref x_7), .unset]) rfl ?_
        refine own_aload X228.here hx hby at_169 rfl rfl ?_
        refine own_iload X228.here hx hby at_171 rfl ?_
        refine own_virtual X228 hx hZ hown (own_w hw 105 rfl) (own_w hw 106 rfl) (notFace_of_selects (args := #[]) (mvT hZ (own_w hw 108 rfl))) (own_w hw 108 rfl) (own_w hw 107 rfl) (own_w hw 36 rfl) (own_w hw 109 rfl) (by decide) (name_3_snss l Z a0 hw [] b105 aS_127 bS_137 kaS_127 kc_137 x_7 x_16 x_11 T221.heap n0 z229 P221_3 f227 P221_6) 0 (Nat.le_of_eq rfl) (by decide) (by decide) (by rw [hml]; rfl) (argsL := [(.int 3)]) (st := []) P221_0 (lenOf pd_4 rfl) rfl rfl (by decide) (by decide) eh228 hby at_173 ?_
        intro T230 v230 L230 X230 hQ230
        obtain ⟨rfl, Nq230, eh230⟩ := hQ230
        have N230 := Fr.app N228 Nq230
        refine own_sh (T := T230) 176 #[.val (.int p1), .val (.int p2), .val (.int p3), .val (.int p4), .val (.int p5), .val (.int p6), .val (.ref x_7), .val (.ref x_11), .val (.ref x_16), .val (.int 0), .val (.int 1), .val (.ref b105), .val (.int 0), .val (.int 3), .val (.ref x_7), .unset] [(.ref x_11)] ?_
        refine own_astore X230.here hx hby at_176 rfl (l' := #[.val (.int p1), .val (.int p2), .val (.int p3), .val (.int p4), .val (.int p5), .val (.int p6), .val (.ref x_7), .val (.ref x_11), .val (.ref x_16), .val (.int 0), .val (.int 1), .val (.ref b105), .val (.int 0), .val (.int 3), .val (.ref x_7), .val (.ref x_11)]) rfl ?_
        refine own_iload X230.here hx hby at_178 rfl ?_
        refine own_ifNo X230.here hx hby at_180 ((if0 _ _).trans (teq (show (0 : Int32) = (0 : Int32) from (by decide))).2) ?_
        refine own_iload X230.here hx hby at_183 rfl ?_
        refine own_iconst X230.here hx hby at_185 (v := (3 : Int32)) (by decide) ?_
        refine own_icmpNo X230.here hx hby at_186 (teq (show (3 : Int32) = (3 : Int32) from (by decide))).2 ?_
        refine own_aload X230.here hx hby at_189 rfl rfl ?_
        refine own_ifnullNo X230.here hx hby at_191 ?_
        refine own_aload X230.here hx hby at_194 rfl rfl ?_
        refine own_ifnullNo X230.here hx hby at_196 ?_
        refine own_aload X230.here hx hby at_199 rfl rfl ?_
        refine own_aload X230.here hx hby at_201 rfl rfl ?_
        have f232 : Exa Z T221.heap x_7 "java/lang/String" := ((((((f136.keep K137).keep K145).keep K154).keep K199).keep K208).keep K221)
        refine own_virtual X230 hx hZ hown (own_w hw 110 rfl) (own_w hw 111 rfl) (notFace_of_selects (args := #[]) (mvT hZ (own_w hw 113 rfl))) (own_w hw 113 rfl) (own_w hw 112 rfl) (own_w hw 7 rfl) (own_w hw 114 rfl) (by decide) (eqSelf l Z a0 hw [] x_7 T221.heap n0 z229 ) 0 (Nat.le_of_eq rfl) (by decide) (by decide) (by rw [hml]; rfl) (argsL := [(.ref x_7)]) (st := []) f232 (lenOf pd_9 rfl) rfl rfl (by decide) (by decide) eh230 hby at_203 ?_
        intro T231 v231 L231 X231 hQ231
        obtain ⟨rfl, Nq231, eh231⟩ := hQ231
        have N231 := Fr.app N230 Nq231
        refine own_sh (T := T231) 206 #[.val (.int p1), .val (.int p2), .val (.int p3), .val (.int p4), .val (.int p5), .val (.int p6), .val (.ref x_7), .val (.ref x_11), .val (.ref x_16), .val (.int 0), .val (.int 1), .val (.ref b105), .val (.int 0), .val (.int 3), .val (.ref x_7), .val (.ref x_11)] [(.int 1)] ?_
        refine own_ifNo X231.here hx hby at_206 ((if0 _ _).trans (feq (show ¬ ((1 : Int32) = (0 : Int32)) from (by decide))).1) ?_
        refine own_aload X231.here hx hby at_209 rfl rfl ?_
        refine own_aload X231.here hx hby at_211 rfl rfl ?_
        have f234 : Exa Z T221.heap x_11 "java/lang/String" := (f220.keep K221)
        refine own_virtual X231 hx hZ hown (own_w hw 110 rfl) (own_w hw 111 rfl) (notFace_of_selects (args := #[]) (mvT hZ (own_w hw 113 rfl))) (own_w hw 113 rfl) (own_w hw 112 rfl) (own_w hw 7 rfl) (own_w hw 114 rfl) (by decide) (eqSelf l Z a0 hw [] x_11 T221.heap n0 z229 ) 0 (Nat.le_of_eq rfl) (by decide) (by decide) (by rw [hml]; rfl) (argsL := [(.ref x_11)]) (st := []) f234 (lenOf pd_9 rfl) rfl rfl (by decide) (by decide) eh231 hby at_213 ?_
        intro T233 v233 L233 X233 hQ233
        obtain ⟨rfl, Nq233, eh233⟩ := hQ233
        have N233 := Fr.app N231 Nq233
        refine own_sh (T := T233) 216 #[.val (.int p1), .val (.int p2), .val (.int p3), .val (.int p4), .val (.int p5), .val (.int p6), .val (.ref x_7), .val (.ref x_11), .val (.ref x_16), .val (.int 0), .val (.int 1), .val (.ref b105), .val (.int 0), .val (.int 3), .val (.ref x_7), .val (.ref x_11)] [(.int 1)] ?_
        refine own_ifNo X233.here hx hby at_216 ((if0 _ _).trans (feq (show ¬ ((1 : Int32) = (0 : Int32)) from (by decide))).1) ?_
        refine own_iconst X233.here hx hby at_219 (v := (1 : Int32)) (by decide) ?_
        refine own_goto X233.here hx hby (pc' := 224) at_220 (by decide) (by decide) ?_
        obtain ⟨fs, hr, hrun, hended, hW, hsame⟩ := X233.leave (v := some (.int 1)) (fun h => by rw [Bd.returns] at h; cases h)
        refine own_ret (t := T233.setFrames fs) ?_ ⟨_, hrun, hended, _, _, rfl, ?_, ⟨_, rfl⟩, hW, hsame.mono (by decide) (by decide)⟩
        · exact retN X233 hx (t := .boolean) Bd.returns (by simp) (hb hby at_224) hr
        · show Q_rm0 Z _ _ _ _ _ _ _ h0 n0 _ T233.heap _
          rw [eh233]
          exact ⟨rfl, N233, trivial⟩
  · refine own_ifNo X16.here hx hby at_22 ((if0 _ _).trans (feq hc22_20).1) ?_
    refine own_iconst X16.here hx hby at_25 (v := (1 : Int32)) (by decide) ?_
    refine own_goto X16.here hx hby (pc' := 30) at_26 (by decide) (by decide) ?_
    refine own_istore X16.here hx hby at_30 (l' := #[.val (.int p1), .val (.int p2), .val (.int p3), .val (.int p4), .val (.int p5), .val (.int p6), .val (.ref x_7), .val (.ref x_11), .val (.ref x_16), .val (.int 1), .unset, .unset, .unset, .unset, .unset, .unset]) rfl ?_
    refine own_iload X16.here hx hby at_32 rfl ?_
    refine own_iconst X16.here hx hby at_34 (v := (2 : Int32)) (by decide) ?_
    refine own_iand X16.here hx hby at_35 rfl ?_
    by_cases hc36_235 : (p6 &&& (2 : Int32)) = (0 : Int32)
    · refine own_ifYes X16.here hx hby (pc' := 43) at_36 ((if0 _ _).trans (teq hc36_235).1) (by decide) (by decide) ?_
      refine own_iconst X16.here hx hby at_43 (v := (0 : Int32)) (by decide) ?_
      refine own_istore X16.here hx hby at_44 (l' := #[.val (.int p1), .val (.int p2), .val (.int p3), .val (.int p4), .val (.int p5), .val (.int p6), .val (.ref x_7), .val (.ref x_11), .val (.ref x_16), .val (.int 1), .val (.int 0), .unset, .unset, .unset, .unset, .unset]) rfl ?_
      refine own_newO X16 hx hZ hown (own_w hw 34 rfl) (own_w hw 35 rfl) (own_w hw 36 rfl) rfl hby at_46 (by decide) (by decide) ?_
      intro T236 h236 b236 X236 e236 E236 g236 A236 D236 lt236
      have z237 : T16.heap.size ≤ h236.size := E236.1
      have F238 : Fld Z h236 b236 "com/example/boxwood/boxwood/XmlNodeTable" "numbers" "[[I" .null := D236 (Or.inl (own_w hw 44 rfl)) (ty := (.array (.array .int))) (by decide)
      have F239 : Fld Z h236 b236 "com/example/boxwood/boxwood/XmlNodeTable" "strings" "[[Ljava/lang/String;" .null := D236 (Or.inl (own_w hw 48 rfl)) (ty := (.array (.array (.object "java/lang/String")))) (by decide)
      have F240 : Fld Z h236 b236 "com/example/boxwood/boxwood/XmlNodeTable" "attributeNumbers" "[[I" .null := D236 (Or.inl (own_w hw 50 rfl)) (ty := (.array (.array .int))) (by decide)
      have F241 : Fld Z h236 b236 "com/example/boxwood/boxwood/XmlNodeTable" "attributeNames" "[[Ljava/lang/String;" .null := D236 (Or.inl (own_w hw 52 rfl)) (ty := (.array (.array (.object "java/lang/String")))) (by decide)
      have F242 : Fld Z h236 b236 "com/example/boxwood/boxwood/XmlNodeTable" "attributeValues" "[[Lcom/example/boxwood/boxwood/XmlValue;" .null := D236 (Or.inl (own_w hw 56 rfl)) (ty := (.array (.array (.object "com/example/boxwood/boxwood/XmlValue")))) (by decide)
      have F243 : Fld Z h236 b236 "com/example/boxwood/boxwood/XmlNodeTable" "content" "[B" .null := D236 (Or.inr (own_w hw 58 rfl)) (ty := (.array .byte)) (by decide)
      have F244 : Fld Z h236 b236 "com/example/boxwood/boxwood/XmlNodeTable" "size" "I" (.int 0) := D236 (Or.inl (own_w hw 69 rfl)) (ty := .int) (by decide)
      have F245 : Fld Z h236 b236 "com/example/boxwood/boxwood/XmlNodeTable" "attributeCount" "I" (.int 0) := D236 (Or.inl (own_w hw 76 rfl)) (ty := .int) (by decide)
      refine own_dup X236.here hx hby at_49 rfl ?_
      refine own_iconst X236.here hx hby at_50 (v := (0 : Int32)) (by decide) ?_
      refine own_newP X236 hx hZ (aty := .byte) (own_w hw 23 rfl) e236 hby at_51 (by decide) 0 (by decide) (by decide) (by decide) (by decide) (ad := "[B") (by decide) ?_
      intro T246 h246 k246 b246 X246 e246 E246 g246 V246 C246 lt246
      have z247 : h236.size ≤ h246.size := E246.1
      have V248 : Arv Z h246 b246 k246 .byte (0 : Int32) [] (.int 0) := V246
      have f249 : Exa Z h246 b236 "com/example/boxwood/boxwood/XmlNodeTable" := (A236.ext E246)
      have f250 : Fld Z h246 b236 "com/example/boxwood/boxwood/XmlNodeTable" "content" "[B" .null := (F243.ext E246)
      have f251 : Fld Z h246 b236 "com/example/boxwood/boxwood/XmlNodeTable" "numbers" "[[I" .null := (F238.ext E246)
      have f252 : Fld Z h246 b236 "com/example/boxwood/boxwood/XmlNodeTable" "strings" "[[Ljava/lang/String;" .null := (F239.ext E246)
      have f253 : Fld Z h246 b236 "com/example/boxwood/boxwood/XmlNodeTable" "attributeNumbers" "[[I" .null := (F240.ext E246)
      have f254 : Fld Z h246 b236 "com/example/boxwood/boxwood/XmlNodeTable" "attributeNames" "[[Ljava/lang/String;" .null := (F241.ext E246)
      have f255 : Fld Z h246 b236 "com/example/boxwood/boxwood/XmlNodeTable" "attributeValues" "[[Lcom/example/boxwood/boxwood/XmlValue;" .null := (F242.ext E246)
      have f256 : Fld Z h246 b236 "com/example/boxwood/boxwood/XmlNodeTable" "size" "I" (.int 0) := (F244.ext E246)
      have f257 : Fld Z h246 b236 "com/example/boxwood/boxwood/XmlNodeTable" "attributeCount" "I" (.int 0) := (F245.ext E246)
      have z259 : n0 ≤ h246.size := by omega
      refine own_special X246 hx hZ rfl hown (own_w hw 37 rfl) (own_w hw 38 rfl) (own_w hw 36 rfl) (own_w hw 39 rfl) (by decide) (tabInit l Z a0 hw [] b236 b246 h246 n0 z259 f249 f250 (by omega) f251 f252 f253 f254 f255 f256 f257) 1 (Nat.le_of_eq rfl) (by decide) (by decide) (by rw [hml]; rfl) (argsL := [(.ref b246)]) (st := [(.ref b236)]) (a := b236) (lenOf pd_5 rfl) rfl rfl (by decide) (by decide) e246 hby at_53 ?_
      intro T258 v258 L258 X258 hQ258
      obtain ⟨aN_258, kaN_258, aS_258, kaS_258, aA_258, kaA_258, aM_258, kaM_258, aW_258, kaW_258, rfl, Nq258, K258, P258_0, P258_1, P258_2, P258_3, P258_4, P258_5, P258_6, P258_7, P258_8, P258_9, P258_10, P258_11, P258_12, P258_13, P258_14, P258_15, P258_16, P258_17, P258_18, P258_19, P258_20, P258_21, P258_22, P258_23, P258_24, P258_25, P258_26⟩ := hQ258
      have N258 := Fr.app N16 Nq258
      have z260 : h246.size ≤ T258.heap.size := K258.1
      have lt261 : T258.heap.size > b236 := P258_0.lt
      have lt262 : T258.heap.size > aN_258 := P258_5.lt
      have lt263 : T258.heap.size > aS_258 := P258_9.lt
      have lt264 : T258.heap.size > aA_258 := P258_13.lt
      have lt265 : T258.heap.size > aM_258 := P258_17.lt
      have lt266 : T258.heap.size > aW_258 := P258_21.lt
      refine own_sh (T := T258) 56 #[.val (.int p1), .val (.int p2), .val (.int p3), .val (.int p4), .val (.int p5), .val (.int p6), .val (.ref x_7), .val (.ref x_11), .val (.ref x_16), .val (.int 1), .val (.int 0), .unset, .unset, .unset, .unset, .unset] [(.ref b236)] ?_
      refine own_astore X258.here hx hby at_56 rfl (l' := #[.val (.int p1), .val (.int p2), .val (.int p3), .val (.int p4), .val (.int p5), .val (.int p6), .val (.ref x_7), .val (.ref x_11), .val (.ref x_16), .val (.int 1), .val (.int 0), .val (.ref b236), .unset, .unset, .unset, .unset]) rfl ?_
      refine own_aload X258.here hx hby at_58 rfl rfl ?_
      refine own_aload X258.here hx hby at_60 rfl rfl ?_
      refine own_iloadN X258.here hx hby at_62 rfl ?_
      refine own_iload X258.here hx hby at_63 rfl ?_
      have f267 : Exa Z T258.heap x_7 "java/lang/String" := (((((P7_1.keep K11).keep K16).ext E236).ext E246).keep K258)
      have z269 : n0 ≤ T258.heap.size := by omega
      refine own_virtual X258 hx hZ hown (own_w hw 59 rfl) (own_w hw 60 rfl) (notFace_of_selects (args := #[]) (mvT hZ (own_w hw 62 rfl))) (own_w hw 62 rfl) (own_w hw 61 rfl) (own_w hw 36 rfl) (own_w hw 63 rfl) (by decide) (start_0 l Z a0 hw [] b236 x_7 aN_258 aS_258 p4 p5 (0 : Int32) kaN_258 kaS_258 T258.heap n0 z269 P258_0 P258_1 P258_4 P258_2 P258_5 P258_8 P258_9 P258_6 P258_10 (by omega) (by omega) (by omega) f267) 0 (Nat.le_of_eq rfl) (by decide) (by decide) (by rw [hml]; rfl) (argsL := [(.ref x_7), (.int p4), (.int p5)]) (st := []) P258_0 (lenOf pd_6 rfl) rfl rfl (by decide) (by decide) rfl hby at_65 ?_
      intro T268 v268 L268 X268 hQ268
      obtain ⟨bN_268, bS_268, kb_268, kc_268, rfl, Nq268, K268, P268_0, P268_1, P268_2, P268_3, P268_4, P268_5, P268_6, P268_7, P268_8, P268_9, P268_10, P268_11, P268_12⟩ := hQ268
      have N268 := Fr.app N258 Nq268
      have z270 : T258.heap.size ≤ T268.heap.size := K268.1
      have lt271 : T268.heap.size > b236 := P268_0.lt
      have lt272 : T268.heap.size > aN_258 := P268_2.lt
      have lt273 : T268.heap.size > aS_258 := P268_3.lt
      have lt274 : T268.heap.size > bN_268 := P268_7.lt
      have lt275 : T268.heap.size > bS_268 := P268_8.lt
      refine own_sh (T := T268) 68 #[.val (.int p1), .val (.int p2), .val (.int p3), .val (.int p4), .val (.int p5), .val (.int p6), .val (.ref x_7), .val (.ref x_11), .val (.ref x_16), .val (.int 1), .val (.int 0), .val (.ref b236), .unset, .unset, .unset, .unset] [(.int 0)] ?_
      refine own_istore X268.here hx hby at_68 (l' := #[.val (.int p1), .val (.int p2), .val (.int p3), .val (.int p4), .val (.int p5), .val (.int p6), .val (.ref x_7), .val (.ref x_11), .val (.ref x_16), .val (.int 1), .val (.int 0), .val (.ref b236), .val (.int 0), .unset, .unset, .unset]) rfl ?_
      refine own_iload X268.here hx hby at_70 rfl ?_
      refine own_ifNo X268.here hx hby at_72 ((if0 _ _).trans (feq (show ¬ ((1 : Int32) = (0 : Int32)) from (by decide))).1) ?_
      refine own_aload X268.here hx hby at_75 rfl rfl ?_
      refine own_aload X268.here hx hby at_77 rfl rfl ?_
      refine own_iloadN X268.here hx hby at_79 rfl ?_
      refine own_iload X268.here hx hby at_80 rfl ?_
      have f276 : Exa Z T268.heap x_16 "java/lang/String" := ((((P16_1.ext E236).ext E246).keep K258).keep K268)
      have z278 : n0 ≤ T268.heap.size := by omega
      refine own_virtual X268 hx hZ hown (own_w hw 81 rfl) (own_w hw 82 rfl) (notFace_of_selects (args := #[]) (mvT hZ (own_w hw 84 rfl))) (own_w hw 84 rfl) (own_w hw 83 rfl) (own_w hw 36 rfl) (own_w hw 85 rfl) (by decide) (text_1 l Z a0 hw [] b236 x_16 aN_258 bN_268 aS_258 bS_268 p4 p5 (0 : Int32) kaN_258 kb_268 kaS_258 kc_268 (0 : Int32) p4 (-1 : Int32) (1 : Int32) p5 (0 : Int32) (0 : Int32) x_7 T268.heap n0 z278 P268_0 P268_1 P268_10 P268_12 P268_2 P268_7 P268_11 P268_3 P268_8 P268_9 (by omega) (by omega) (by omega) f276) 0 (Nat.le_of_eq rfl) (by decide) (by decide) (by rw [hml]; rfl) (argsL := [(.ref x_16), (.int p4), (.int p5)]) (st := []) P268_0 (lenOf pd_8 rfl) rfl rfl (by decide) (by decide) rfl hby at_82 ?_
      intro T277 v277 L277 X277 hQ277
      obtain ⟨rfl, Nq277, K277, P277_0, P277_1, P277_2, P277_3, P277_4, P277_5, P277_6⟩ := hQ277
      have N277 := Fr.app N268 Nq277
      have z279 : T268.heap.size ≤ T277.heap.size := K277.1
      have lt280 : T277.heap.size > b236 := P277_0.lt
      have lt281 : T277.heap.size > bN_268 := P277_5.lt
      have lt282 : T277.heap.size > bS_268 := P277_6.lt
      refine own_sh (T := T277) 85 #[.val (.int p1), .val (.int p2), .val (.int p3), .val (.int p4), .val (.int p5), .val (.int p6), .val (.ref x_7), .val (.ref x_11), .val (.ref x_16), .val (.int 1), .val (.int 0), .val (.ref b236), .val (.int 0), .unset, .unset, .unset] [] ?_
      refine own_aload X277.here hx hby at_85 rfl rfl ?_
      refine own_iload X277.here hx hby at_87 rfl ?_
      refine own_iloadN X277.here hx hby at_89 rfl ?_
      have f283 : Arv Z T277.heap aN_258 kaN_258 (.array .int) (1 : Int32) [(.ref bN_268)] .null := (P268_2.keep K277 (ninS (own_nn (by omega)) (ninS (own_nn (by omega)) (ninS (own_nn (by omega)) nin0))))
      have z285 : n0 ≤ T277.heap.size := by omega
      refine own_virtual X277 hx hZ hown (own_w hw 86 rfl) (own_w hw 87 rfl) (notFace_of_selects (args := #[]) (mvT hZ (own_w hw 89 rfl))) (own_w hw 89 rfl) (own_w hw 88 rfl) (own_w hw 36 rfl) (own_w hw 90 rfl) (by decide) (verb_2 l Z a0 hw [] b236 aN_258 bN_268 p5 p4 (0 : Int32) kaN_258 kb_268 (0 : Int32) p4 (-1 : Int32) (1 : Int32) p5 (0 : Int32) (0 : Int32) (1 : Int32) p4 p5 (2 : Int32) (0 : Int32) (0 : Int32) (0 : Int32) aS_258 T277.heap n0 z285 P277_0 P277_1 P277_2 P277_4 f283 P277_5 (by omega) (by omega) P277_3) 0 (Nat.le_of_eq rfl) (by decide) (by decide) (by rw [hml]; rfl) (argsL := [(.int p5), (.int p4)]) (st := []) P277_0 (lenOf pd_7 rfl) rfl rfl (by decide) (by decide) rfl hby at_90 ?_
      intro T284 v284 L284 X284 hQ284
      obtain ⟨rfl, Nq284, K284, P284_0, P284_1, P284_2, P284_3, P284_4, P284_5⟩ := hQ284
      have N284 := Fr.app N277 Nq284
      have z286 : T277.heap.size ≤ T284.heap.size := K284.1
      have lt287 : T284.heap.size > b236 := P284_0.lt
      have lt288 : T284.heap.size > bN_268 := P284_4.lt
      refine own_sh (T := T284) 93 #[.val (.int p1), .val (.int p2), .val (.int p3), .val (.int p4), .val (.int p5), .val (.int p6), .val (.ref x_7), .val (.ref x_11), .val (.ref x_16), .val (.int 1), .val (.int 0), .val (.ref b236), .val (.int 0), .unset, .unset, .unset] [] ?_
      refine own_goto X284.here hx hby (pc' := 114) at_93 (by decide) (by decide) ?_
      refine own_iload X284.here hx hby at_114 rfl ?_
      refine own_ifYes X284.here hx hby (pc' := 138) at_116 ((if0 _ _).trans (teq (show (0 : Int32) = (0 : Int32) from (by decide))).1) (by decide) (by decide) ?_
      refine own_aload X284.here hx hby at_138 rfl rfl ?_
      refine own_iload X284.here hx hby at_140 rfl ?_
      refine own_iloadN X284.here hx hby at_142 rfl ?_
      refine own_iload X284.here hx hby at_143 rfl ?_
      have f289 : Arv Z T284.heap aN_258 kaN_258 (.array .int) (1 : Int32) [(.ref bN_268)] .null := (f283.keep K284 (ninS (own_nn (by omega)) (ninS (own_nn (by omega)) nin0)))
      have z291 : n0 ≤ T284.heap.size := by omega
      refine own_virtual X284 hx hZ hown (own_w hw 100 rfl) (own_w hw 101 rfl) (notFace_of_selects (args := #[]) (mvT hZ (own_w hw 103 rfl))) (own_w hw 103 rfl) (own_w hw 102 rfl) (own_w hw 36 rfl) (own_w hw 104 rfl) (by decide) (endE_0_3 l Z a0 hw [] b236 aN_258 bN_268 p4 p5 (0 : Int32) kaN_258 kb_268 (0 : Int32) p4 (-1 : Int32) (1 : Int32) p5 (0 : Int32) (0 : Int32) (1 : Int32) p4 p5 (2 : Int32) (0 : Int32) (0 : Int32) (0 : Int32) (2 : Int32) p5 p4 (3 : Int32) (0 : Int32) (0 : Int32) (0 : Int32) T284.heap n0 z291 P284_0 P284_1 P284_2 P284_3 f289 P284_4 (by omega)) 0 (Nat.le_of_eq rfl) (by decide) (by decide) (by rw [hml]; rfl) (argsL := [(.int 0), (.int p4), (.int p5)]) (st := []) P284_0 (lenOf pd_2 rfl) rfl rfl (by decide) (by decide) rfl hby at_145 ?_
      intro T290 v290 L290 X290 hQ290
      obtain ⟨rfl, Nq290, K290, P290_0⟩ := hQ290
      have N290 := Fr.app N284 Nq290
      have z292 : T284.heap.size ≤ T290.heap.size := K290.1
      have lt293 : T290.heap.size > bN_268 := P290_0.lt
      refine own_sh (T := T290) 148 #[.val (.int p1), .val (.int p2), .val (.int p3), .val (.int p4), .val (.int p5), .val (.int p6), .val (.ref x_7), .val (.ref x_11), .val (.ref x_16), .val (.int 1), .val (.int 0), .val (.ref b236), .val (.int 0), .unset, .unset, .unset] [] ?_
      refine own_aload X290.here hx hby at_148 rfl rfl ?_
      refine own_aload X290.here hx hby at_150 rfl rfl ?_
      refine own_iload X290.here hx hby at_152 rfl ?_
      refine own_iloadN X290.here hx hby at_154 rfl ?_
      have f294 : Exa Z T290.heap b236 "com/example/boxwood/boxwood/XmlNodeTable" := (P284_0.keep K290)
      have f295 : Fld Z T290.heap b236 "com/example/boxwood/boxwood/XmlNodeTable" "size" "I" (.int 3) := (P284_1.keep K290 (ninS (own_nn (by omega)) nin0))
      have f296 : Fld Z T290.heap b236 "com/example/boxwood/boxwood/XmlNodeTable" "numbers" "[[I" (.ref aN_258) := (P284_2.keep K290 (ninS (own_nn (by omega)) nin0))
      have f297 : Fld Z T290.heap b236 "com/example/boxwood/boxwood/XmlNodeTable" "attributeCount" "I" (.int 0) := (P284_3.keep K290 (ninS (own_nn (by omega)) nin0))
      have f298 : Arv Z T290.heap aN_258 kaN_258 (.array .int) (1 : Int32) [(.ref bN_268)] .null := (f289.keep K290 (ninS (own_nn (by omega)) nin0))
      have f299 : Fld Z T290.heap b236 "com/example/boxwood/boxwood/XmlNodeTable" "strings" "[[Ljava/lang/String;" (.ref aS_258) := (P284_5.keep K290 (ninS (own_nn (by omega)) nin0))
      have f300 : Arv Z T290.heap aS_258 kaS_258 (.array (.object "java/lang/String")) (1 : Int32) [(.ref bS_268)] .null := (((P268_3.keep K277 (ninS (own_nn (by omega)) (ninS (own_nn (by omega)) (ninS (own_nn (by omega)) nin0)))).keep K284 (ninS (own_nn (by omega)) (ninS (own_nn (by omega)) nin0))).keep K290 (ninS (own_nn (by omega)) nin0))
      have f301 : Arv Z T290.heap bS_268 kc_268 (.object "java/lang/String") (4096 : Int32) [(.ref x_7), (.ref x_16)] .null := ((P277_6.keep K284 (ninS (own_nn (by omega)) (ninS (own_nn (by omega)) nin0))).keep K290 (ninS (own_nn (by omega)) nin0))
      have f302 : Exa Z T290.heap x_11 "java/lang/String" := ((((((((P11_1.keep K16).ext E236).ext E246).keep K258).keep K268).keep K277).keep K284).keep K290)
      have z304 : n0 ≤ T290.heap.size := by omega
      refine own_virtual X290 hx hZ hown (own_w hw 59 rfl) (own_w hw 60 rfl) (notFace_of_selects (args := #[]) (mvT hZ (own_w hw 62 rfl))) (own_w hw 62 rfl) (own_w hw 61 rfl) (own_w hw 36 rfl) (own_w hw 63 rfl) (by decide) (start_3t l Z a0 hw [] b236 x_11 aN_258 bN_268 aS_258 bS_268 p5 p4 (0 : Int32) kaN_258 kb_268 kaS_258 kc_268 (0 : Int32) p4 p5 (3 : Int32) p5 p4 (0 : Int32) (1 : Int32) p4 p5 (2 : Int32) (0 : Int32) (0 : Int32) (0 : Int32) (2 : Int32) p5 p4 (3 : Int32) (0 : Int32) (0 : Int32) (0 : Int32) x_7 x_16 T290.heap n0 z304 f294 f295 f296 f297 f298 P290_0 f299 f300 f301 P268_9 (by omega) (by omega) (by omega) f302) 0 (Nat.le_of_eq rfl) (by decide) (by decide) (by rw [hml]; rfl) (argsL := [(.ref x_11), (.int p5), (.int p4)]) (st := []) f294 (lenOf pd_6 rfl) rfl rfl (by decide) (by decide) rfl hby at_155 ?_
      intro T303 v303 L303 X303 hQ303
      obtain ⟨rfl, Nq303, K303, P303_0, P303_1, P303_2, P303_3, P303_4, P303_5, P303_6⟩ := hQ303
      have N303 := Fr.app N290 Nq303
      have z305 : T290.heap.size ≤ T303.heap.size := K303.1
      have lt306 : T303.heap.size > b236 := P303_0.lt
      have lt307 : T303.heap.size > bN_268 := P303_5.lt
      have lt308 : T303.heap.size > bS_268 := P303_6.lt
      refine own_sh (T := T303) 158 #[.val (.int p1), .val (.int p2), .val (.int p3), .val (.int p4), .val (.int p5), .val (.int p6), .val (.ref x_7), .val (.ref x_11), .val (.ref x_16), .val (.int 1), .val (.int 0), .val (.ref b236), .val (.int 0), .unset, .unset, .unset] [(.int 3)] ?_
      refine own_istore X303.here hx hby at_158 (l' := #[.val (.int p1), .val (.int p2), .val (.int p3), .val (.int p4), .val (.int p5), .val (.int p6), .val (.ref x_7), .val (.ref x_11), .val (.ref x_16), .val (.int 1), .val (.int 0), .val (.ref b236), .val (.int 0), .val (.int 3), .unset, .unset]) rfl ?_
      refine own_aload X303.here hx hby at_160 rfl rfl ?_
      refine own_iload X303.here hx hby at_162 rfl ?_
      have f309 : Arv Z T303.heap aS_258 kaS_258 (.array (.object "java/lang/String")) (1 : Int32) [(.ref bS_268)] .null := (f300.keep K303 (ninS (own_nn (by omega)) (ninS (own_nn (by omega)) (ninS (own_nn (by omega)) nin0))))
      have z311 : n0 ≤ T303.heap.size := by omega
      refine own_virtual X303 hx hZ hown (own_w hw 105 rfl) (own_w hw 106 rfl) (notFace_of_selects (args := #[]) (mvT hZ (own_w hw 108 rfl))) (own_w hw 108 rfl) (own_w hw 107 rfl) (own_w hw 36 rfl) (own_w hw 109 rfl) (by decide) (name_0_ssns l Z a0 hw [] b236 aS_258 bS_268 kaS_258 kc_268 x_7 x_16 x_11 T303.heap n0 z311 P303_3 f309 P303_6) 0 (Nat.le_of_eq rfl) (by decide) (by decide) (by rw [hml]; rfl) (argsL := [(.int 0)]) (st := []) P303_0 (lenOf pd_4 rfl) rfl rfl (by decide) (by decide) rfl hby at_164 ?_
      intro T310 v310 L310 X310 hQ310
      obtain ⟨rfl, Nq310, eh310⟩ := hQ310
      have N310 := Fr.app N303 Nq310
      refine own_sh (T := T310) 167 #[.val (.int p1), .val (.int p2), .val (.int p3), .val (.int p4), .val (.int p5), .val (.int p6), .val (.ref x_7), .val (.ref x_11), .val (.ref x_16), .val (.int 1), .val (.int 0), .val (.ref b236), .val (.int 0), .val (.int 3), .unset, .unset] [(.ref x_7)] ?_
      refine own_astore X310.here hx hby at_167 rfl (l' := #[.val (.int p1), .val (.int p2), .val (.int p3), .val (.int p4), .val (.int p5), .val (.int p6), .val (.ref x_7), .val (.ref x_11), .val (.ref x_16), .val (.int 1), .val (.int 0), .val (.ref b236), .val (.int 0), .val (.int 3), .val (.ref x_7), .unset]) rfl ?_
      refine own_aload X310.here hx hby at_169 rfl rfl ?_
      refine own_iload X310.here hx hby at_171 rfl ?_
      refine own_virtual X310 hx hZ hown (own_w hw 105 rfl) (own_w hw 106 rfl) (notFace_of_selects (args := #[]) (mvT hZ (own_w hw 108 rfl))) (own_w hw 108 rfl) (own_w hw 107 rfl) (own_w hw 36 rfl) (own_w hw 109 rfl) (by decide) (name_3_ssns l Z a0 hw [] b236 aS_258 bS_268 kaS_258 kc_268 x_7 x_16 x_11 T303.heap n0 z311 P303_3 f309 P303_6) 0 (Nat.le_of_eq rfl) (by decide) (by decide) (by rw [hml]; rfl) (argsL := [(.int 3)]) (st := []) P303_0 (lenOf pd_4 rfl) rfl rfl (by decide) (by decide) eh310 hby at_173 ?_
      intro T312 v312 L312 X312 hQ312
      obtain ⟨rfl, Nq312, eh312⟩ := hQ312
      have N312 := Fr.app N310 Nq312
      refine own_sh (T := T312) 176 #[.val (.int p1), .val (.int p2), .val (.int p3), .val (.int p4), .val (.int p5), .val (.int p6), .val (.ref x_7), .val (.ref x_11), .val (.ref x_16), .val (.int 1), .val (.int 0), .val (.ref b236), .val (.int 0), .val (.int 3), .val (.ref x_7), .unset] [(.ref x_11)] ?_
      refine own_astore X312.here hx hby at_176 rfl (l' := #[.val (.int p1), .val (.int p2), .val (.int p3), .val (.int p4), .val (.int p5), .val (.int p6), .val (.ref x_7), .val (.ref x_11), .val (.ref x_16), .val (.int 1), .val (.int 0), .val (.ref b236), .val (.int 0), .val (.int 3), .val (.ref x_7), .val (.ref x_11)]) rfl ?_
      refine own_iload X312.here hx hby at_178 rfl ?_
      refine own_ifNo X312.here hx hby at_180 ((if0 _ _).trans (teq (show (0 : Int32) = (0 : Int32) from (by decide))).2) ?_
      refine own_iload X312.here hx hby at_183 rfl ?_
      refine own_iconst X312.here hx hby at_185 (v := (3 : Int32)) (by decide) ?_
      refine own_icmpNo X312.here hx hby at_186 (teq (show (3 : Int32) = (3 : Int32) from (by decide))).2 ?_
      refine own_aload X312.here hx hby at_189 rfl rfl ?_
      refine own_ifnullNo X312.here hx hby at_191 ?_
      refine own_aload X312.here hx hby at_194 rfl rfl ?_
      refine own_ifnullNo X312.here hx hby at_196 ?_
      refine own_aload X312.here hx hby at_199 rfl rfl ?_
      refine own_aload X312.here hx hby at_201 rfl rfl ?_
      have f314 : Exa Z T303.heap x_7 "java/lang/String" := (((((f267.keep K268).keep K277).keep K284).keep K290).keep K303)
      refine own_virtual X312 hx hZ hown (own_w hw 110 rfl) (own_w hw 111 rfl) (notFace_of_selects (args := #[]) (mvT hZ (own_w hw 113 rfl))) (own_w hw 113 rfl) (own_w hw 112 rfl) (own_w hw 7 rfl) (own_w hw 114 rfl) (by decide) (eqSelf l Z a0 hw [] x_7 T303.heap n0 z311 ) 0 (Nat.le_of_eq rfl) (by decide) (by decide) (by rw [hml]; rfl) (argsL := [(.ref x_7)]) (st := []) f314 (lenOf pd_9 rfl) rfl rfl (by decide) (by decide) eh312 hby at_203 ?_
      intro T313 v313 L313 X313 hQ313
      obtain ⟨rfl, Nq313, eh313⟩ := hQ313
      have N313 := Fr.app N312 Nq313
      refine own_sh (T := T313) 206 #[.val (.int p1), .val (.int p2), .val (.int p3), .val (.int p4), .val (.int p5), .val (.int p6), .val (.ref x_7), .val (.ref x_11), .val (.ref x_16), .val (.int 1), .val (.int 0), .val (.ref b236), .val (.int 0), .val (.int 3), .val (.ref x_7), .val (.ref x_11)] [(.int 1)] ?_
      refine own_ifNo X313.here hx hby at_206 ((if0 _ _).trans (feq (show ¬ ((1 : Int32) = (0 : Int32)) from (by decide))).1) ?_
      refine own_aload X313.here hx hby at_209 rfl rfl ?_
      refine own_aload X313.here hx hby at_211 rfl rfl ?_
      have f316 : Exa Z T303.heap x_11 "java/lang/String" := (f302.keep K303)
      refine own_virtual X313 hx hZ hown (own_w hw 110 rfl) (own_w hw 111 rfl) (notFace_of_selects (args := #[]) (mvT hZ (own_w hw 113 rfl))) (own_w hw 113 rfl) (own_w hw 112 rfl) (own_w hw 7 rfl) (own_w hw 114 rfl) (by decide) (eqSelf l Z a0 hw [] x_11 T303.heap n0 z311 ) 0 (Nat.le_of_eq rfl) (by decide) (by decide) (by rw [hml]; rfl) (argsL := [(.ref x_11)]) (st := []) f316 (lenOf pd_9 rfl) rfl rfl (by decide) (by decide) eh313 hby at_213 ?_
      intro T315 v315 L315 X315 hQ315
      obtain ⟨rfl, Nq315, eh315⟩ := hQ315
      have N315 := Fr.app N313 Nq315
      refine own_sh (T := T315) 216 #[.val (.int p1), .val (.int p2), .val (.int p3), .val (.int p4), .val (.int p5), .val (.int p6), .val (.ref x_7), .val (.ref x_11), .val (.ref x_16), .val (.int 1), .val (.int 0), .val (.ref b236), .val (.int 0), .val (.int 3), .val (.ref x_7), .val (.ref x_11)] [(.int 1)] ?_
      refine own_ifNo X315.here hx hby at_216 ((if0 _ _).trans (feq (show ¬ ((1 : Int32) = (0 : Int32)) from (by decide))).1) ?_
      refine own_iconst X315.here hx hby at_219 (v := (1 : Int32)) (by decide) ?_
      refine own_goto X315.here hx hby (pc' := 224) at_220 (by decide) (by decide) ?_
      obtain ⟨fs, hr, hrun, hended, hW, hsame⟩ := X315.leave (v := some (.int 1)) (fun h => by rw [Bd.returns] at h; cases h)
      refine own_ret (t := T315.setFrames fs) ?_ ⟨_, hrun, hended, _, _, rfl, ?_, ⟨_, rfl⟩, hW, hsame.mono (by decide) (by decide)⟩
      · exact retN X315 hx (t := .boolean) Bd.returns (by simp) (hb hby at_224) hr
      · show Q_rm0 Z _ _ _ _ _ _ _ h0 n0 _ T315.heap _
        rw [eh315]
        exact ⟨rfl, N315, trivial⟩
    · refine own_ifNo X16.here hx hby at_36 ((if0 _ _).trans (feq hc36_235).1) ?_
      refine own_iconst X16.here hx hby at_39 (v := (1 : Int32)) (by decide) ?_
      refine own_goto X16.here hx hby (pc' := 44) at_40 (by decide) (by decide) ?_
      refine own_istore X16.here hx hby at_44 (l' := #[.val (.int p1), .val (.int p2), .val (.int p3), .val (.int p4), .val (.int p5), .val (.int p6), .val (.ref x_7), .val (.ref x_11), .val (.ref x_16), .val (.int 1), .val (.int 1), .unset, .unset, .unset, .unset, .unset]) rfl ?_
      refine own_newO X16 hx hZ hown (own_w hw 34 rfl) (own_w hw 35 rfl) (own_w hw 36 rfl) rfl hby at_46 (by decide) (by decide) ?_
      intro T317 h317 b317 X317 e317 E317 g317 A317 D317 lt317
      have z318 : T16.heap.size ≤ h317.size := E317.1
      have F319 : Fld Z h317 b317 "com/example/boxwood/boxwood/XmlNodeTable" "numbers" "[[I" .null := D317 (Or.inl (own_w hw 44 rfl)) (ty := (.array (.array .int))) (by decide)
      have F320 : Fld Z h317 b317 "com/example/boxwood/boxwood/XmlNodeTable" "strings" "[[Ljava/lang/String;" .null := D317 (Or.inl (own_w hw 48 rfl)) (ty := (.array (.array (.object "java/lang/String")))) (by decide)
      have F321 : Fld Z h317 b317 "com/example/boxwood/boxwood/XmlNodeTable" "attributeNumbers" "[[I" .null := D317 (Or.inl (own_w hw 50 rfl)) (ty := (.array (.array .int))) (by decide)
      have F322 : Fld Z h317 b317 "com/example/boxwood/boxwood/XmlNodeTable" "attributeNames" "[[Ljava/lang/String;" .null := D317 (Or.inl (own_w hw 52 rfl)) (ty := (.array (.array (.object "java/lang/String")))) (by decide)
      have F323 : Fld Z h317 b317 "com/example/boxwood/boxwood/XmlNodeTable" "attributeValues" "[[Lcom/example/boxwood/boxwood/XmlValue;" .null := D317 (Or.inl (own_w hw 56 rfl)) (ty := (.array (.array (.object "com/example/boxwood/boxwood/XmlValue")))) (by decide)
      have F324 : Fld Z h317 b317 "com/example/boxwood/boxwood/XmlNodeTable" "content" "[B" .null := D317 (Or.inr (own_w hw 58 rfl)) (ty := (.array .byte)) (by decide)
      have F325 : Fld Z h317 b317 "com/example/boxwood/boxwood/XmlNodeTable" "size" "I" (.int 0) := D317 (Or.inl (own_w hw 69 rfl)) (ty := .int) (by decide)
      have F326 : Fld Z h317 b317 "com/example/boxwood/boxwood/XmlNodeTable" "attributeCount" "I" (.int 0) := D317 (Or.inl (own_w hw 76 rfl)) (ty := .int) (by decide)
      refine own_dup X317.here hx hby at_49 rfl ?_
      refine own_iconst X317.here hx hby at_50 (v := (0 : Int32)) (by decide) ?_
      refine own_newP X317 hx hZ (aty := .byte) (own_w hw 23 rfl) e317 hby at_51 (by decide) 0 (by decide) (by decide) (by decide) (by decide) (ad := "[B") (by decide) ?_
      intro T327 h327 k327 b327 X327 e327 E327 g327 V327 C327 lt327
      have z328 : h317.size ≤ h327.size := E327.1
      have V329 : Arv Z h327 b327 k327 .byte (0 : Int32) [] (.int 0) := V327
      have f330 : Exa Z h327 b317 "com/example/boxwood/boxwood/XmlNodeTable" := (A317.ext E327)
      have f331 : Fld Z h327 b317 "com/example/boxwood/boxwood/XmlNodeTable" "content" "[B" .null := (F324.ext E327)
      have f332 : Fld Z h327 b317 "com/example/boxwood/boxwood/XmlNodeTable" "numbers" "[[I" .null := (F319.ext E327)
      have f333 : Fld Z h327 b317 "com/example/boxwood/boxwood/XmlNodeTable" "strings" "[[Ljava/lang/String;" .null := (F320.ext E327)
      have f334 : Fld Z h327 b317 "com/example/boxwood/boxwood/XmlNodeTable" "attributeNumbers" "[[I" .null := (F321.ext E327)
      have f335 : Fld Z h327 b317 "com/example/boxwood/boxwood/XmlNodeTable" "attributeNames" "[[Ljava/lang/String;" .null := (F322.ext E327)
      have f336 : Fld Z h327 b317 "com/example/boxwood/boxwood/XmlNodeTable" "attributeValues" "[[Lcom/example/boxwood/boxwood/XmlValue;" .null := (F323.ext E327)
      have f337 : Fld Z h327 b317 "com/example/boxwood/boxwood/XmlNodeTable" "size" "I" (.int 0) := (F325.ext E327)
      have f338 : Fld Z h327 b317 "com/example/boxwood/boxwood/XmlNodeTable" "attributeCount" "I" (.int 0) := (F326.ext E327)
      have z340 : n0 ≤ h327.size := by omega
      refine own_special X327 hx hZ rfl hown (own_w hw 37 rfl) (own_w hw 38 rfl) (own_w hw 36 rfl) (own_w hw 39 rfl) (by decide) (tabInit l Z a0 hw [] b317 b327 h327 n0 z340 f330 f331 (by omega) f332 f333 f334 f335 f336 f337 f338) 1 (Nat.le_of_eq rfl) (by decide) (by decide) (by rw [hml]; rfl) (argsL := [(.ref b327)]) (st := [(.ref b317)]) (a := b317) (lenOf pd_5 rfl) rfl rfl (by decide) (by decide) e327 hby at_53 ?_
      intro T339 v339 L339 X339 hQ339
      obtain ⟨aN_339, kaN_339, aS_339, kaS_339, aA_339, kaA_339, aM_339, kaM_339, aW_339, kaW_339, rfl, Nq339, K339, P339_0, P339_1, P339_2, P339_3, P339_4, P339_5, P339_6, P339_7, P339_8, P339_9, P339_10, P339_11, P339_12, P339_13, P339_14, P339_15, P339_16, P339_17, P339_18, P339_19, P339_20, P339_21, P339_22, P339_23, P339_24, P339_25, P339_26⟩ := hQ339
      have N339 := Fr.app N16 Nq339
      have z341 : h327.size ≤ T339.heap.size := K339.1
      have lt342 : T339.heap.size > b317 := P339_0.lt
      have lt343 : T339.heap.size > aN_339 := P339_5.lt
      have lt344 : T339.heap.size > aS_339 := P339_9.lt
      have lt345 : T339.heap.size > aA_339 := P339_13.lt
      have lt346 : T339.heap.size > aM_339 := P339_17.lt
      have lt347 : T339.heap.size > aW_339 := P339_21.lt
      refine own_sh (T := T339) 56 #[.val (.int p1), .val (.int p2), .val (.int p3), .val (.int p4), .val (.int p5), .val (.int p6), .val (.ref x_7), .val (.ref x_11), .val (.ref x_16), .val (.int 1), .val (.int 1), .unset, .unset, .unset, .unset, .unset] [(.ref b317)] ?_
      refine own_astore X339.here hx hby at_56 rfl (l' := #[.val (.int p1), .val (.int p2), .val (.int p3), .val (.int p4), .val (.int p5), .val (.int p6), .val (.ref x_7), .val (.ref x_11), .val (.ref x_16), .val (.int 1), .val (.int 1), .val (.ref b317), .unset, .unset, .unset, .unset]) rfl ?_
      refine own_aload X339.here hx hby at_58 rfl rfl ?_
      refine own_aload X339.here hx hby at_60 rfl rfl ?_
      refine own_iloadN X339.here hx hby at_62 rfl ?_
      refine own_iload X339.here hx hby at_63 rfl ?_
      have f348 : Exa Z T339.heap x_7 "java/lang/String" := (((((P7_1.keep K11).keep K16).ext E317).ext E327).keep K339)
      have z350 : n0 ≤ T339.heap.size := by omega
      refine own_virtual X339 hx hZ hown (own_w hw 59 rfl) (own_w hw 60 rfl) (notFace_of_selects (args := #[]) (mvT hZ (own_w hw 62 rfl))) (own_w hw 62 rfl) (own_w hw 61 rfl) (own_w hw 36 rfl) (own_w hw 63 rfl) (by decide) (start_0 l Z a0 hw [] b317 x_7 aN_339 aS_339 p4 p5 (0 : Int32) kaN_339 kaS_339 T339.heap n0 z350 P339_0 P339_1 P339_4 P339_2 P339_5 P339_8 P339_9 P339_6 P339_10 (by omega) (by omega) (by omega) f348) 0 (Nat.le_of_eq rfl) (by decide) (by decide) (by rw [hml]; rfl) (argsL := [(.ref x_7), (.int p4), (.int p5)]) (st := []) P339_0 (lenOf pd_6 rfl) rfl rfl (by decide) (by decide) rfl hby at_65 ?_
      intro T349 v349 L349 X349 hQ349
      obtain ⟨bN_349, bS_349, kb_349, kc_349, rfl, Nq349, K349, P349_0, P349_1, P349_2, P349_3, P349_4, P349_5, P349_6, P349_7, P349_8, P349_9, P349_10, P349_11, P349_12⟩ := hQ349
      have N349 := Fr.app N339 Nq349
      have z351 : T339.heap.size ≤ T349.heap.size := K349.1
      have lt352 : T349.heap.size > b317 := P349_0.lt
      have lt353 : T349.heap.size > aN_339 := P349_2.lt
      have lt354 : T349.heap.size > aS_339 := P349_3.lt
      have lt355 : T349.heap.size > bN_349 := P349_7.lt
      have lt356 : T349.heap.size > bS_349 := P349_8.lt
      refine own_sh (T := T349) 68 #[.val (.int p1), .val (.int p2), .val (.int p3), .val (.int p4), .val (.int p5), .val (.int p6), .val (.ref x_7), .val (.ref x_11), .val (.ref x_16), .val (.int 1), .val (.int 1), .val (.ref b317), .unset, .unset, .unset, .unset] [(.int 0)] ?_
      refine own_istore X349.here hx hby at_68 (l' := #[.val (.int p1), .val (.int p2), .val (.int p3), .val (.int p4), .val (.int p5), .val (.int p6), .val (.ref x_7), .val (.ref x_11), .val (.ref x_16), .val (.int 1), .val (.int 1), .val (.ref b317), .val (.int 0), .unset, .unset, .unset]) rfl ?_
      refine own_iload X349.here hx hby at_70 rfl ?_
      refine own_ifNo X349.here hx hby at_72 ((if0 _ _).trans (feq (show ¬ ((1 : Int32) = (0 : Int32)) from (by decide))).1) ?_
      refine own_aload X349.here hx hby at_75 rfl rfl ?_
      refine own_aload X349.here hx hby at_77 rfl rfl ?_
      refine own_iloadN X349.here hx hby at_79 rfl ?_
      refine own_iload X349.here hx hby at_80 rfl ?_
      have f357 : Exa Z T349.heap x_16 "java/lang/String" := ((((P16_1.ext E317).ext E327).keep K339).keep K349)
      have z359 : n0 ≤ T349.heap.size := by omega
      refine own_virtual X349 hx hZ hown (own_w hw 81 rfl) (own_w hw 82 rfl) (notFace_of_selects (args := #[]) (mvT hZ (own_w hw 84 rfl))) (own_w hw 84 rfl) (own_w hw 83 rfl) (own_w hw 36 rfl) (own_w hw 85 rfl) (by decide) (text_1 l Z a0 hw [] b317 x_16 aN_339 bN_349 aS_339 bS_349 p4 p5 (0 : Int32) kaN_339 kb_349 kaS_339 kc_349 (0 : Int32) p4 (-1 : Int32) (1 : Int32) p5 (0 : Int32) (0 : Int32) x_7 T349.heap n0 z359 P349_0 P349_1 P349_10 P349_12 P349_2 P349_7 P349_11 P349_3 P349_8 P349_9 (by omega) (by omega) (by omega) f357) 0 (Nat.le_of_eq rfl) (by decide) (by decide) (by rw [hml]; rfl) (argsL := [(.ref x_16), (.int p4), (.int p5)]) (st := []) P349_0 (lenOf pd_8 rfl) rfl rfl (by decide) (by decide) rfl hby at_82 ?_
      intro T358 v358 L358 X358 hQ358
      obtain ⟨rfl, Nq358, K358, P358_0, P358_1, P358_2, P358_3, P358_4, P358_5, P358_6⟩ := hQ358
      have N358 := Fr.app N349 Nq358
      have z360 : T349.heap.size ≤ T358.heap.size := K358.1
      have lt361 : T358.heap.size > b317 := P358_0.lt
      have lt362 : T358.heap.size > bN_349 := P358_5.lt
      have lt363 : T358.heap.size > bS_349 := P358_6.lt
      refine own_sh (T := T358) 85 #[.val (.int p1), .val (.int p2), .val (.int p3), .val (.int p4), .val (.int p5), .val (.int p6), .val (.ref x_7), .val (.ref x_11), .val (.ref x_16), .val (.int 1), .val (.int 1), .val (.ref b317), .val (.int 0), .unset, .unset, .unset] [] ?_
      refine own_aload X358.here hx hby at_85 rfl rfl ?_
      refine own_iload X358.here hx hby at_87 rfl ?_
      refine own_iloadN X358.here hx hby at_89 rfl ?_
      have f364 : Arv Z T358.heap aN_339 kaN_339 (.array .int) (1 : Int32) [(.ref bN_349)] .null := (P349_2.keep K358 (ninS (own_nn (by omega)) (ninS (own_nn (by omega)) (ninS (own_nn (by omega)) nin0))))
      have z366 : n0 ≤ T358.heap.size := by omega
      refine own_virtual X358 hx hZ hown (own_w hw 86 rfl) (own_w hw 87 rfl) (notFace_of_selects (args := #[]) (mvT hZ (own_w hw 89 rfl))) (own_w hw 89 rfl) (own_w hw 88 rfl) (own_w hw 36 rfl) (own_w hw 90 rfl) (by decide) (verb_2 l Z a0 hw [] b317 aN_339 bN_349 p5 p4 (0 : Int32) kaN_339 kb_349 (0 : Int32) p4 (-1 : Int32) (1 : Int32) p5 (0 : Int32) (0 : Int32) (1 : Int32) p4 p5 (2 : Int32) (0 : Int32) (0 : Int32) (0 : Int32) aS_339 T358.heap n0 z366 P358_0 P358_1 P358_2 P358_4 f364 P358_5 (by omega) (by omega) P358_3) 0 (Nat.le_of_eq rfl) (by decide) (by decide) (by rw [hml]; rfl) (argsL := [(.int p5), (.int p4)]) (st := []) P358_0 (lenOf pd_7 rfl) rfl rfl (by decide) (by decide) rfl hby at_90 ?_
      intro T365 v365 L365 X365 hQ365
      obtain ⟨rfl, Nq365, K365, P365_0, P365_1, P365_2, P365_3, P365_4, P365_5⟩ := hQ365
      have N365 := Fr.app N358 Nq365
      have z367 : T358.heap.size ≤ T365.heap.size := K365.1
      have lt368 : T365.heap.size > b317 := P365_0.lt
      have lt369 : T365.heap.size > bN_349 := P365_4.lt
      refine own_sh (T := T365) 93 #[.val (.int p1), .val (.int p2), .val (.int p3), .val (.int p4), .val (.int p5), .val (.int p6), .val (.ref x_7), .val (.ref x_11), .val (.ref x_16), .val (.int 1), .val (.int 1), .val (.ref b317), .val (.int 0), .unset, .unset, .unset] [] ?_
      refine own_goto X365.here hx hby (pc' := 114) at_93 (by decide) (by decide) ?_
      refine own_iload X365.here hx hby at_114 rfl ?_
      refine own_ifNo X365.here hx hby at_116 ((if0 _ _).trans (feq (show ¬ ((1 : Int32) = (0 : Int32)) from (by decide))).1) ?_
      refine own_aload X365.here hx hby at_119 rfl rfl ?_
      refine own_iload X365.here hx hby at_121 rfl ?_
      refine own_iload X365.here hx hby at_123 rfl ?_
      refine own_iconst X365.here hx hby at_125 (v := (4 : Int32)) (by decide) ?_
      refine own_iand X365.here hx hby at_126 rfl ?_
      by_cases hc127_370 : (p6 &&& (4 : Int32)) = (0 : Int32)
      · refine own_ifYes X365.here hx hby (pc' := 134) at_127 ((if0 _ _).trans (teq hc127_370).1) (by decide) (by decide) ?_
        refine own_iconst X365.here hx hby at_134 (v := (0 : Int32)) (by decide) ?_
        have f371 : Arv Z T365.heap aN_339 kaN_339 (.array .int) (1 : Int32) [(.ref bN_349)] .null := (f364.keep K365 (ninS (own_nn (by omega)) (ninS (own_nn (by omega)) nin0)))
        have z373 : n0 ≤ T365.heap.size := by omega
        refine own_virtual X365 hx hZ hown (own_w hw 91 rfl) (own_w hw 92 rfl) (notFace_of_selects (args := #[]) (mvT hZ (own_w hw 94 rfl))) (own_w hw 94 rfl) (own_w hw 93 rfl) (own_w hw 36 rfl) (own_w hw 95 rfl) (by decide) (pass_0_3 l Z a0 hw [] b317 aN_339 bN_349 kaN_339 kb_349 (0 : Int32) p4 (-1 : Int32) (1 : Int32) p5 (0 : Int32) (0 : Int32) (1 : Int32) p4 p5 (2 : Int32) (0 : Int32) (0 : Int32) (0 : Int32) (2 : Int32) p5 p4 (3 : Int32) (0 : Int32) (0 : Int32) (0 : Int32) T365.heap n0 z373 P365_0 P365_2 f371 P365_4 (by omega)) 0 (Nat.le_of_eq rfl) (by decide) (by decide) (by rw [hml]; rfl) (argsL := [(.int 0), (.int 0)]) (st := []) P365_0 (lenOf pd_10 rfl) rfl rfl (by decide) (by decide) rfl hby at_135 ?_
        intro T372 v372 L372 X372 hQ372
        obtain ⟨rfl, Nq372, K372, P372_0⟩ := hQ372
        have N372 := Fr.app N365 Nq372
        have z374 : T365.heap.size ≤ T372.heap.size := K372.1
        have lt375 : T372.heap.size > bN_349 := P372_0.lt
        refine own_sh (T := T372) 138 #[.val (.int p1), .val (.int p2), .val (.int p3), .val (.int p4), .val (.int p5), .val (.int p6), .val (.ref x_7), .val (.ref x_11), .val (.ref x_16), .val (.int 1), .val (.int 1), .val (.ref b317), .val (.int 0), .unset, .unset, .unset] [] ?_
        refine own_aload X372.here hx hby at_138 rfl rfl ?_
        refine own_iload X372.here hx hby at_140 rfl ?_
        refine own_iloadN X372.here hx hby at_142 rfl ?_
        refine own_iload X372.here hx hby at_143 rfl ?_
        have f376 : Exa Z T372.heap b317 "com/example/boxwood/boxwood/XmlNodeTable" := (P365_0.keep K372)
        have f377 : Fld Z T372.heap b317 "com/example/boxwood/boxwood/XmlNodeTable" "size" "I" (.int 3) := (P365_1.keep K372 (ninS (own_nn (by omega)) nin0))
        have f378 : Fld Z T372.heap b317 "com/example/boxwood/boxwood/XmlNodeTable" "numbers" "[[I" (.ref aN_339) := (P365_2.keep K372 (ninS (own_nn (by omega)) nin0))
        have f379 : Fld Z T372.heap b317 "com/example/boxwood/boxwood/XmlNodeTable" "attributeCount" "I" (.int 0) := (P365_3.keep K372 (ninS (own_nn (by omega)) nin0))
        have f380 : Arv Z T372.heap aN_339 kaN_339 (.array .int) (1 : Int32) [(.ref bN_349)] .null := (f371.keep K372 (ninS (own_nn (by omega)) nin0))
        have z382 : n0 ≤ T372.heap.size := by omega
        refine own_virtual X372 hx hZ hown (own_w hw 100 rfl) (own_w hw 101 rfl) (notFace_of_selects (args := #[]) (mvT hZ (own_w hw 103 rfl))) (own_w hw 103 rfl) (own_w hw 102 rfl) (own_w hw 36 rfl) (own_w hw 104 rfl) (by decide) (endE_0_3 l Z a0 hw [] b317 aN_339 bN_349 p4 p5 (0 : Int32) kaN_339 kb_349 (((0 : Int32) ||| (4 : Int32)) ||| (0 : Int32)) p4 (-1 : Int32) (1 : Int32) p5 (0 : Int32) (0 : Int32) (1 : Int32) p4 p5 (2 : Int32) (0 : Int32) (0 : Int32) (0 : Int32) (2 : Int32) p5 p4 (3 : Int32) (0 : Int32) (0 : Int32) (0 : Int32) T372.heap n0 z382 f376 f377 f378 f379 f380 P372_0 (by omega)) 0 (Nat.le_of_eq rfl) (by decide) (by decide) (by rw [hml]; rfl) (argsL := [(.int 0), (.int p4), (.int p5)]) (st := []) f376 (lenOf pd_2 rfl) rfl rfl (by decide) (by decide) rfl hby at_145 ?_
        intro T381 v381 L381 X381 hQ381
        obtain ⟨rfl, Nq381, K381, P381_0⟩ := hQ381
        have N381 := Fr.app N372 Nq381
        have z383 : T372.heap.size ≤ T381.heap.size := K381.1
        have lt384 : T381.heap.size > bN_349 := P381_0.lt
        refine own_sh (T := T381) 148 #[.val (.int p1), .val (.int p2), .val (.int p3), .val (.int p4), .val (.int p5), .val (.int p6), .val (.ref x_7), .val (.ref x_11), .val (.ref x_16), .val (.int 1), .val (.int 1), .val (.ref b317), .val (.int 0), .unset, .unset, .unset] [] ?_
        refine own_aload X381.here hx hby at_148 rfl rfl ?_
        refine own_aload X381.here hx hby at_150 rfl rfl ?_
        refine own_iload X381.here hx hby at_152 rfl ?_
        refine own_iloadN X381.here hx hby at_154 rfl ?_
        have f385 : Exa Z T381.heap b317 "com/example/boxwood/boxwood/XmlNodeTable" := (f376.keep K381)
        have f386 : Fld Z T381.heap b317 "com/example/boxwood/boxwood/XmlNodeTable" "size" "I" (.int 3) := (f377.keep K381 (ninS (own_nn (by omega)) nin0))
        have f387 : Fld Z T381.heap b317 "com/example/boxwood/boxwood/XmlNodeTable" "numbers" "[[I" (.ref aN_339) := (f378.keep K381 (ninS (own_nn (by omega)) nin0))
        have f388 : Fld Z T381.heap b317 "com/example/boxwood/boxwood/XmlNodeTable" "attributeCount" "I" (.int 0) := (f379.keep K381 (ninS (own_nn (by omega)) nin0))
        have f389 : Arv Z T381.heap aN_339 kaN_339 (.array .int) (1 : Int32) [(.ref bN_349)] .null := (f380.keep K381 (ninS (own_nn (by omega)) nin0))
        have f390 : Fld Z T381.heap b317 "com/example/boxwood/boxwood/XmlNodeTable" "strings" "[[Ljava/lang/String;" (.ref aS_339) := ((P365_5.keep K372 (ninS (own_nn (by omega)) nin0)).keep K381 (ninS (own_nn (by omega)) nin0))
        have f391 : Arv Z T381.heap aS_339 kaS_339 (.array (.object "java/lang/String")) (1 : Int32) [(.ref bS_349)] .null := ((((P349_3.keep K358 (ninS (own_nn (by omega)) (ninS (own_nn (by omega)) (ninS (own_nn (by omega)) nin0)))).keep K365 (ninS (own_nn (by omega)) (ninS (own_nn (by omega)) nin0))).keep K372 (ninS (own_nn (by omega)) nin0)).keep K381 (ninS (own_nn (by omega)) nin0))
        have f392 : Arv Z T381.heap bS_349 kc_349 (.object "java/lang/String") (4096 : Int32) [(.ref x_7), (.ref x_16)] .null := (((P358_6.keep K365 (ninS (own_nn (by omega)) (ninS (own_nn (by omega)) nin0))).keep K372 (ninS (own_nn (by omega)) nin0)).keep K381 (ninS (own_nn (by omega)) nin0))
        have f393 : Exa Z T381.heap x_11 "java/lang/String" := (((((((((P11_1.keep K16).ext E317).ext E327).keep K339).keep K349).keep K358).keep K365).keep K372).keep K381)
        have z395 : n0 ≤ T381.heap.size := by omega
        refine own_virtual X381 hx hZ hown (own_w hw 59 rfl) (own_w hw 60 rfl) (notFace_of_selects (args := #[]) (mvT hZ (own_w hw 62 rfl))) (own_w hw 62 rfl) (own_w hw 61 rfl) (own_w hw 36 rfl) (own_w hw 63 rfl) (by decide) (start_3t l Z a0 hw [] b317 x_11 aN_339 bN_349 aS_339 bS_349 p5 p4 (0 : Int32) kaN_339 kb_349 kaS_339 kc_349 (((0 : Int32) ||| (4 : Int32)) ||| (0 : Int32)) p4 p5 (3 : Int32) p5 p4 (0 : Int32) (1 : Int32) p4 p5 (2 : Int32) (0 : Int32) (0 : Int32) (0 : Int32) (2 : Int32) p5 p4 (3 : Int32) (0 : Int32) (0 : Int32) (0 : Int32) x_7 x_16 T381.heap n0 z395 f385 f386 f387 f388 f389 P381_0 f390 f391 f392 P349_9 (by omega) (by omega) (by omega) f393) 0 (Nat.le_of_eq rfl) (by decide) (by decide) (by rw [hml]; rfl) (argsL := [(.ref x_11), (.int p5), (.int p4)]) (st := []) f385 (lenOf pd_6 rfl) rfl rfl (by decide) (by decide) rfl hby at_155 ?_
        intro T394 v394 L394 X394 hQ394
        obtain ⟨rfl, Nq394, K394, P394_0, P394_1, P394_2, P394_3, P394_4, P394_5, P394_6⟩ := hQ394
        have N394 := Fr.app N381 Nq394
        have z396 : T381.heap.size ≤ T394.heap.size := K394.1
        have lt397 : T394.heap.size > b317 := P394_0.lt
        have lt398 : T394.heap.size > bN_349 := P394_5.lt
        have lt399 : T394.heap.size > bS_349 := P394_6.lt
        refine own_sh (T := T394) 158 #[.val (.int p1), .val (.int p2), .val (.int p3), .val (.int p4), .val (.int p5), .val (.int p6), .val (.ref x_7), .val (.ref x_11), .val (.ref x_16), .val (.int 1), .val (.int 1), .val (.ref b317), .val (.int 0), .unset, .unset, .unset] [(.int 3)] ?_
        refine own_istore X394.here hx hby at_158 (l' := #[.val (.int p1), .val (.int p2), .val (.int p3), .val (.int p4), .val (.int p5), .val (.int p6), .val (.ref x_7), .val (.ref x_11), .val (.ref x_16), .val (.int 1), .val (.int 1), .val (.ref b317), .val (.int 0), .val (.int 3), .unset, .unset]) rfl ?_
        refine own_aload X394.here hx hby at_160 rfl rfl ?_
        refine own_iload X394.here hx hby at_162 rfl ?_
        have f400 : Arv Z T394.heap aS_339 kaS_339 (.array (.object "java/lang/String")) (1 : Int32) [(.ref bS_349)] .null := (f391.keep K394 (ninS (own_nn (by omega)) (ninS (own_nn (by omega)) (ninS (own_nn (by omega)) nin0))))
        have z402 : n0 ≤ T394.heap.size := by omega
        refine own_virtual X394 hx hZ hown (own_w hw 105 rfl) (own_w hw 106 rfl) (notFace_of_selects (args := #[]) (mvT hZ (own_w hw 108 rfl))) (own_w hw 108 rfl) (own_w hw 107 rfl) (own_w hw 36 rfl) (own_w hw 109 rfl) (by decide) (name_0_ssns l Z a0 hw [] b317 aS_339 bS_349 kaS_339 kc_349 x_7 x_16 x_11 T394.heap n0 z402 P394_3 f400 P394_6) 0 (Nat.le_of_eq rfl) (by decide) (by decide) (by rw [hml]; rfl) (argsL := [(.int 0)]) (st := []) P394_0 (lenOf pd_4 rfl) rfl rfl (by decide) (by decide) rfl hby at_164 ?_
        intro T401 v401 L401 X401 hQ401
        obtain ⟨rfl, Nq401, eh401⟩ := hQ401
        have N401 := Fr.app N394 Nq401
        refine own_sh (T := T401) 167 #[.val (.int p1), .val (.int p2), .val (.int p3), .val (.int p4), .val (.int p5), .val (.int p6), .val (.ref x_7), .val (.ref x_11), .val (.ref x_16), .val (.int 1), .val (.int 1), .val (.ref b317), .val (.int 0), .val (.int 3), .unset, .unset] [(.ref x_7)] ?_
        refine own_astore X401.here hx hby at_167 rfl (l' := #[.val (.int p1), .val (.int p2), .val (.int p3), .val (.int p4), .val (.int p5), .val (.int p6), .val (.ref x_7), .val (.ref x_11), .val (.ref x_16), .val (.int 1), .val (.int 1), .val (.ref b317), .val (.int 0), .val (.int 3), .val (.ref x_7), .unset]) rfl ?_
        refine own_aload X401.here hx hby at_169 rfl rfl ?_
        refine own_iload X401.here hx hby at_171 rfl ?_
        refine own_virtual X401 hx hZ hown (own_w hw 105 rfl) (own_w hw 106 rfl) (notFace_of_selects (args := #[]) (mvT hZ (own_w hw 108 rfl))) (own_w hw 108 rfl) (own_w hw 107 rfl) (own_w hw 36 rfl) (own_w hw 109 rfl) (by decide) (name_3_ssns l Z a0 hw [] b317 aS_339 bS_349 kaS_339 kc_349 x_7 x_16 x_11 T394.heap n0 z402 P394_3 f400 P394_6) 0 (Nat.le_of_eq rfl) (by decide) (by decide) (by rw [hml]; rfl) (argsL := [(.int 3)]) (st := []) P394_0 (lenOf pd_4 rfl) rfl rfl (by decide) (by decide) eh401 hby at_173 ?_
        intro T403 v403 L403 X403 hQ403
        obtain ⟨rfl, Nq403, eh403⟩ := hQ403
        have N403 := Fr.app N401 Nq403
        refine own_sh (T := T403) 176 #[.val (.int p1), .val (.int p2), .val (.int p3), .val (.int p4), .val (.int p5), .val (.int p6), .val (.ref x_7), .val (.ref x_11), .val (.ref x_16), .val (.int 1), .val (.int 1), .val (.ref b317), .val (.int 0), .val (.int 3), .val (.ref x_7), .unset] [(.ref x_11)] ?_
        refine own_astore X403.here hx hby at_176 rfl (l' := #[.val (.int p1), .val (.int p2), .val (.int p3), .val (.int p4), .val (.int p5), .val (.int p6), .val (.ref x_7), .val (.ref x_11), .val (.ref x_16), .val (.int 1), .val (.int 1), .val (.ref b317), .val (.int 0), .val (.int 3), .val (.ref x_7), .val (.ref x_11)]) rfl ?_
        refine own_iload X403.here hx hby at_178 rfl ?_
        refine own_ifNo X403.here hx hby at_180 ((if0 _ _).trans (teq (show (0 : Int32) = (0 : Int32) from (by decide))).2) ?_
        refine own_iload X403.here hx hby at_183 rfl ?_
        refine own_iconst X403.here hx hby at_185 (v := (3 : Int32)) (by decide) ?_
        refine own_icmpNo X403.here hx hby at_186 (teq (show (3 : Int32) = (3 : Int32) from (by decide))).2 ?_
        refine own_aload X403.here hx hby at_189 rfl rfl ?_
        refine own_ifnullNo X403.here hx hby at_191 ?_
        refine own_aload X403.here hx hby at_194 rfl rfl ?_
        refine own_ifnullNo X403.here hx hby at_196 ?_
        refine own_aload X403.here hx hby at_199 rfl rfl ?_
        refine own_aload X403.here hx hby at_201 rfl rfl ?_
        have f405 : Exa Z T394.heap x_7 "java/lang/String" := ((((((f348.keep K349).keep K358).keep K365).keep K372).keep K381).keep K394)
        refine own_virtual X403 hx hZ hown (own_w hw 110 rfl) (own_w hw 111 rfl) (notFace_of_selects (args := #[]) (mvT hZ (own_w hw 113 rfl))) (own_w hw 113 rfl) (own_w hw 112 rfl) (own_w hw 7 rfl) (own_w hw 114 rfl) (by decide) (eqSelf l Z a0 hw [] x_7 T394.heap n0 z402 ) 0 (Nat.le_of_eq rfl) (by decide) (by decide) (by rw [hml]; rfl) (argsL := [(.ref x_7)]) (st := []) f405 (lenOf pd_9 rfl) rfl rfl (by decide) (by decide) eh403 hby at_203 ?_
        intro T404 v404 L404 X404 hQ404
        obtain ⟨rfl, Nq404, eh404⟩ := hQ404
        have N404 := Fr.app N403 Nq404
        refine own_sh (T := T404) 206 #[.val (.int p1), .val (.int p2), .val (.int p3), .val (.int p4), .val (.int p5), .val (.int p6), .val (.ref x_7), .val (.ref x_11), .val (.ref x_16), .val (.int 1), .val (.int 1), .val (.ref b317), .val (.int 0), .val (.int 3), .val (.ref x_7), .val (.ref x_11)] [(.int 1)] ?_
        refine own_ifNo X404.here hx hby at_206 ((if0 _ _).trans (feq (show ¬ ((1 : Int32) = (0 : Int32)) from (by decide))).1) ?_
        refine own_aload X404.here hx hby at_209 rfl rfl ?_
        refine own_aload X404.here hx hby at_211 rfl rfl ?_
        have f407 : Exa Z T394.heap x_11 "java/lang/String" := (f393.keep K394)
        refine own_virtual X404 hx hZ hown (own_w hw 110 rfl) (own_w hw 111 rfl) (notFace_of_selects (args := #[]) (mvT hZ (own_w hw 113 rfl))) (own_w hw 113 rfl) (own_w hw 112 rfl) (own_w hw 7 rfl) (own_w hw 114 rfl) (by decide) (eqSelf l Z a0 hw [] x_11 T394.heap n0 z402 ) 0 (Nat.le_of_eq rfl) (by decide) (by decide) (by rw [hml]; rfl) (argsL := [(.ref x_11)]) (st := []) f407 (lenOf pd_9 rfl) rfl rfl (by decide) (by decide) eh404 hby at_213 ?_
        intro T406 v406 L406 X406 hQ406
        obtain ⟨rfl, Nq406, eh406⟩ := hQ406
        have N406 := Fr.app N404 Nq406
        refine own_sh (T := T406) 216 #[.val (.int p1), .val (.int p2), .val (.int p3), .val (.int p4), .val (.int p5), .val (.int p6), .val (.ref x_7), .val (.ref x_11), .val (.ref x_16), .val (.int 1), .val (.int 1), .val (.ref b317), .val (.int 0), .val (.int 3), .val (.ref x_7), .val (.ref x_11)] [(.int 1)] ?_
        refine own_ifNo X406.here hx hby at_216 ((if0 _ _).trans (feq (show ¬ ((1 : Int32) = (0 : Int32)) from (by decide))).1) ?_
        refine own_iconst X406.here hx hby at_219 (v := (1 : Int32)) (by decide) ?_
        refine own_goto X406.here hx hby (pc' := 224) at_220 (by decide) (by decide) ?_
        obtain ⟨fs, hr, hrun, hended, hW, hsame⟩ := X406.leave (v := some (.int 1)) (fun h => by rw [Bd.returns] at h; cases h)
        refine own_ret (t := T406.setFrames fs) ?_ ⟨_, hrun, hended, _, _, rfl, ?_, ⟨_, rfl⟩, hW, hsame.mono (by decide) (by decide)⟩
        · exact retN X406 hx (t := .boolean) Bd.returns (by simp) (hb hby at_224) hr
        · show Q_rm0 Z _ _ _ _ _ _ _ h0 n0 _ T406.heap _
          rw [eh406]
          exact ⟨rfl, N406, trivial⟩
      · refine own_ifNo X365.here hx hby at_127 ((if0 _ _).trans (feq hc127_370).1) ?_
        refine own_iconst X365.here hx hby at_130 (v := (1 : Int32)) (by decide) ?_
        refine own_goto X365.here hx hby (pc' := 135) at_131 (by decide) (by decide) ?_
        have f408 : Arv Z T365.heap aN_339 kaN_339 (.array .int) (1 : Int32) [(.ref bN_349)] .null := (f364.keep K365 (ninS (own_nn (by omega)) (ninS (own_nn (by omega)) nin0)))
        have z410 : n0 ≤ T365.heap.size := by omega
        refine own_virtual X365 hx hZ hown (own_w hw 91 rfl) (own_w hw 92 rfl) (notFace_of_selects (args := #[]) (mvT hZ (own_w hw 94 rfl))) (own_w hw 94 rfl) (own_w hw 93 rfl) (own_w hw 36 rfl) (own_w hw 95 rfl) (by decide) (pass_1_3 l Z a0 hw [] b317 aN_339 bN_349 kaN_339 kb_349 (0 : Int32) p4 (-1 : Int32) (1 : Int32) p5 (0 : Int32) (0 : Int32) (1 : Int32) p4 p5 (2 : Int32) (0 : Int32) (0 : Int32) (0 : Int32) (2 : Int32) p5 p4 (3 : Int32) (0 : Int32) (0 : Int32) (0 : Int32) T365.heap n0 z410 P365_0 P365_2 f408 P365_4 (by omega)) 0 (Nat.le_of_eq rfl) (by decide) (by decide) (by rw [hml]; rfl) (argsL := [(.int 0), (.int 1)]) (st := []) P365_0 (lenOf pd_10 rfl) rfl rfl (by decide) (by decide) rfl hby at_135 ?_
        intro T409 v409 L409 X409 hQ409
        obtain ⟨rfl, Nq409, K409, P409_0⟩ := hQ409
        have N409 := Fr.app N365 Nq409
        have z411 : T365.heap.size ≤ T409.heap.size := K409.1
        have lt412 : T409.heap.size > bN_349 := P409_0.lt
        refine own_sh (T := T409) 138 #[.val (.int p1), .val (.int p2), .val (.int p3), .val (.int p4), .val (.int p5), .val (.int p6), .val (.ref x_7), .val (.ref x_11), .val (.ref x_16), .val (.int 1), .val (.int 1), .val (.ref b317), .val (.int 0), .unset, .unset, .unset] [] ?_
        refine own_aload X409.here hx hby at_138 rfl rfl ?_
        refine own_iload X409.here hx hby at_140 rfl ?_
        refine own_iloadN X409.here hx hby at_142 rfl ?_
        refine own_iload X409.here hx hby at_143 rfl ?_
        have f413 : Exa Z T409.heap b317 "com/example/boxwood/boxwood/XmlNodeTable" := (P365_0.keep K409)
        have f414 : Fld Z T409.heap b317 "com/example/boxwood/boxwood/XmlNodeTable" "size" "I" (.int 3) := (P365_1.keep K409 (ninS (own_nn (by omega)) nin0))
        have f415 : Fld Z T409.heap b317 "com/example/boxwood/boxwood/XmlNodeTable" "numbers" "[[I" (.ref aN_339) := (P365_2.keep K409 (ninS (own_nn (by omega)) nin0))
        have f416 : Fld Z T409.heap b317 "com/example/boxwood/boxwood/XmlNodeTable" "attributeCount" "I" (.int 0) := (P365_3.keep K409 (ninS (own_nn (by omega)) nin0))
        have f417 : Arv Z T409.heap aN_339 kaN_339 (.array .int) (1 : Int32) [(.ref bN_349)] .null := (f408.keep K409 (ninS (own_nn (by omega)) nin0))
        have z419 : n0 ≤ T409.heap.size := by omega
        refine own_virtual X409 hx hZ hown (own_w hw 100 rfl) (own_w hw 101 rfl) (notFace_of_selects (args := #[]) (mvT hZ (own_w hw 103 rfl))) (own_w hw 103 rfl) (own_w hw 102 rfl) (own_w hw 36 rfl) (own_w hw 104 rfl) (by decide) (endE_0_3 l Z a0 hw [] b317 aN_339 bN_349 p4 p5 (0 : Int32) kaN_339 kb_349 (((0 : Int32) ||| (4 : Int32)) ||| (8 : Int32)) p4 (-1 : Int32) (1 : Int32) p5 (0 : Int32) (0 : Int32) (1 : Int32) p4 p5 (2 : Int32) (0 : Int32) (0 : Int32) (0 : Int32) (2 : Int32) p5 p4 (3 : Int32) (0 : Int32) (0 : Int32) (0 : Int32) T409.heap n0 z419 f413 f414 f415 f416 f417 P409_0 (by omega)) 0 (Nat.le_of_eq rfl) (by decide) (by decide) (by rw [hml]; rfl) (argsL := [(.int 0), (.int p4), (.int p5)]) (st := []) f413 (lenOf pd_2 rfl) rfl rfl (by decide) (by decide) rfl hby at_145 ?_
        intro T418 v418 L418 X418 hQ418
        obtain ⟨rfl, Nq418, K418, P418_0⟩ := hQ418
        have N418 := Fr.app N409 Nq418
        have z420 : T409.heap.size ≤ T418.heap.size := K418.1
        have lt421 : T418.heap.size > bN_349 := P418_0.lt
        refine own_sh (T := T418) 148 #[.val (.int p1), .val (.int p2), .val (.int p3), .val (.int p4), .val (.int p5), .val (.int p6), .val (.ref x_7), .val (.ref x_11), .val (.ref x_16), .val (.int 1), .val (.int 1), .val (.ref b317), .val (.int 0), .unset, .unset, .unset] [] ?_
        refine own_aload X418.here hx hby at_148 rfl rfl ?_
        refine own_aload X418.here hx hby at_150 rfl rfl ?_
        refine own_iload X418.here hx hby at_152 rfl ?_
        refine own_iloadN X418.here hx hby at_154 rfl ?_
        have f422 : Exa Z T418.heap b317 "com/example/boxwood/boxwood/XmlNodeTable" := (f413.keep K418)
        have f423 : Fld Z T418.heap b317 "com/example/boxwood/boxwood/XmlNodeTable" "size" "I" (.int 3) := (f414.keep K418 (ninS (own_nn (by omega)) nin0))
        have f424 : Fld Z T418.heap b317 "com/example/boxwood/boxwood/XmlNodeTable" "numbers" "[[I" (.ref aN_339) := (f415.keep K418 (ninS (own_nn (by omega)) nin0))
        have f425 : Fld Z T418.heap b317 "com/example/boxwood/boxwood/XmlNodeTable" "attributeCount" "I" (.int 0) := (f416.keep K418 (ninS (own_nn (by omega)) nin0))
        have f426 : Arv Z T418.heap aN_339 kaN_339 (.array .int) (1 : Int32) [(.ref bN_349)] .null := (f417.keep K418 (ninS (own_nn (by omega)) nin0))
        have f427 : Fld Z T418.heap b317 "com/example/boxwood/boxwood/XmlNodeTable" "strings" "[[Ljava/lang/String;" (.ref aS_339) := ((P365_5.keep K409 (ninS (own_nn (by omega)) nin0)).keep K418 (ninS (own_nn (by omega)) nin0))
        have f428 : Arv Z T418.heap aS_339 kaS_339 (.array (.object "java/lang/String")) (1 : Int32) [(.ref bS_349)] .null := ((((P349_3.keep K358 (ninS (own_nn (by omega)) (ninS (own_nn (by omega)) (ninS (own_nn (by omega)) nin0)))).keep K365 (ninS (own_nn (by omega)) (ninS (own_nn (by omega)) nin0))).keep K409 (ninS (own_nn (by omega)) nin0)).keep K418 (ninS (own_nn (by omega)) nin0))
        have f429 : Arv Z T418.heap bS_349 kc_349 (.object "java/lang/String") (4096 : Int32) [(.ref x_7), (.ref x_16)] .null := (((P358_6.keep K365 (ninS (own_nn (by omega)) (ninS (own_nn (by omega)) nin0))).keep K409 (ninS (own_nn (by omega)) nin0)).keep K418 (ninS (own_nn (by omega)) nin0))
        have f430 : Exa Z T418.heap x_11 "java/lang/String" := (((((((((P11_1.keep K16).ext E317).ext E327).keep K339).keep K349).keep K358).keep K365).keep K409).keep K418)
        have z432 : n0 ≤ T418.heap.size := by omega
        refine own_virtual X418 hx hZ hown (own_w hw 59 rfl) (own_w hw 60 rfl) (notFace_of_selects (args := #[]) (mvT hZ (own_w hw 62 rfl))) (own_w hw 62 rfl) (own_w hw 61 rfl) (own_w hw 36 rfl) (own_w hw 63 rfl) (by decide) (start_3t l Z a0 hw [] b317 x_11 aN_339 bN_349 aS_339 bS_349 p5 p4 (0 : Int32) kaN_339 kb_349 kaS_339 kc_349 (((0 : Int32) ||| (4 : Int32)) ||| (8 : Int32)) p4 p5 (3 : Int32) p5 p4 (0 : Int32) (1 : Int32) p4 p5 (2 : Int32) (0 : Int32) (0 : Int32) (0 : Int32) (2 : Int32) p5 p4 (3 : Int32) (0 : Int32) (0 : Int32) (0 : Int32) x_7 x_16 T418.heap n0 z432 f422 f423 f424 f425 f426 P418_0 f427 f428 f429 P349_9 (by omega) (by omega) (by omega) f430) 0 (Nat.le_of_eq rfl) (by decide) (by decide) (by rw [hml]; rfl) (argsL := [(.ref x_11), (.int p5), (.int p4)]) (st := []) f422 (lenOf pd_6 rfl) rfl rfl (by decide) (by decide) rfl hby at_155 ?_
        intro T431 v431 L431 X431 hQ431
        obtain ⟨rfl, Nq431, K431, P431_0, P431_1, P431_2, P431_3, P431_4, P431_5, P431_6⟩ := hQ431
        have N431 := Fr.app N418 Nq431
        have z433 : T418.heap.size ≤ T431.heap.size := K431.1
        have lt434 : T431.heap.size > b317 := P431_0.lt
        have lt435 : T431.heap.size > bN_349 := P431_5.lt
        have lt436 : T431.heap.size > bS_349 := P431_6.lt
        refine own_sh (T := T431) 158 #[.val (.int p1), .val (.int p2), .val (.int p3), .val (.int p4), .val (.int p5), .val (.int p6), .val (.ref x_7), .val (.ref x_11), .val (.ref x_16), .val (.int 1), .val (.int 1), .val (.ref b317), .val (.int 0), .unset, .unset, .unset] [(.int 3)] ?_
        refine own_istore X431.here hx hby at_158 (l' := #[.val (.int p1), .val (.int p2), .val (.int p3), .val (.int p4), .val (.int p5), .val (.int p6), .val (.ref x_7), .val (.ref x_11), .val (.ref x_16), .val (.int 1), .val (.int 1), .val (.ref b317), .val (.int 0), .val (.int 3), .unset, .unset]) rfl ?_
        refine own_aload X431.here hx hby at_160 rfl rfl ?_
        refine own_iload X431.here hx hby at_162 rfl ?_
        have f437 : Arv Z T431.heap aS_339 kaS_339 (.array (.object "java/lang/String")) (1 : Int32) [(.ref bS_349)] .null := (f428.keep K431 (ninS (own_nn (by omega)) (ninS (own_nn (by omega)) (ninS (own_nn (by omega)) nin0))))
        have z439 : n0 ≤ T431.heap.size := by omega
        refine own_virtual X431 hx hZ hown (own_w hw 105 rfl) (own_w hw 106 rfl) (notFace_of_selects (args := #[]) (mvT hZ (own_w hw 108 rfl))) (own_w hw 108 rfl) (own_w hw 107 rfl) (own_w hw 36 rfl) (own_w hw 109 rfl) (by decide) (name_0_ssns l Z a0 hw [] b317 aS_339 bS_349 kaS_339 kc_349 x_7 x_16 x_11 T431.heap n0 z439 P431_3 f437 P431_6) 0 (Nat.le_of_eq rfl) (by decide) (by decide) (by rw [hml]; rfl) (argsL := [(.int 0)]) (st := []) P431_0 (lenOf pd_4 rfl) rfl rfl (by decide) (by decide) rfl hby at_164 ?_
        intro T438 v438 L438 X438 hQ438
        obtain ⟨rfl, Nq438, eh438⟩ := hQ438
        have N438 := Fr.app N431 Nq438
        refine own_sh (T := T438) 167 #[.val (.int p1), .val (.int p2), .val (.int p3), .val (.int p4), .val (.int p5), .val (.int p6), .val (.ref x_7), .val (.ref x_11), .val (.ref x_16), .val (.int 1), .val (.int 1), .val (.ref b317), .val (.int 0), .val (.int 3), .unset, .unset] [(.ref x_7)] ?_
        refine own_astore X438.here hx hby at_167 rfl (l' := #[.val (.int p1), .val (.int p2), .val (.int p3), .val (.int p4), .val (.int p5), .val (.int p6), .val (.ref x_7), .val (.ref x_11), .val (.ref x_16), .val (.int 1), .val (.int 1), .val (.ref b317), .val (.int 0), .val (.int 3), .val (.ref x_7), .unset]) rfl ?_
        refine own_aload X438.here hx hby at_169 rfl rfl ?_
        refine own_iload X438.here hx hby at_171 rfl ?_
        refine own_virtual X438 hx hZ hown (own_w hw 105 rfl) (own_w hw 106 rfl) (notFace_of_selects (args := #[]) (mvT hZ (own_w hw 108 rfl))) (own_w hw 108 rfl) (own_w hw 107 rfl) (own_w hw 36 rfl) (own_w hw 109 rfl) (by decide) (name_3_ssns l Z a0 hw [] b317 aS_339 bS_349 kaS_339 kc_349 x_7 x_16 x_11 T431.heap n0 z439 P431_3 f437 P431_6) 0 (Nat.le_of_eq rfl) (by decide) (by decide) (by rw [hml]; rfl) (argsL := [(.int 3)]) (st := []) P431_0 (lenOf pd_4 rfl) rfl rfl (by decide) (by decide) eh438 hby at_173 ?_
        intro T440 v440 L440 X440 hQ440
        obtain ⟨rfl, Nq440, eh440⟩ := hQ440
        have N440 := Fr.app N438 Nq440
        refine own_sh (T := T440) 176 #[.val (.int p1), .val (.int p2), .val (.int p3), .val (.int p4), .val (.int p5), .val (.int p6), .val (.ref x_7), .val (.ref x_11), .val (.ref x_16), .val (.int 1), .val (.int 1), .val (.ref b317), .val (.int 0), .val (.int 3), .val (.ref x_7), .unset] [(.ref x_11)] ?_
        refine own_astore X440.here hx hby at_176 rfl (l' := #[.val (.int p1), .val (.int p2), .val (.int p3), .val (.int p4), .val (.int p5), .val (.int p6), .val (.ref x_7), .val (.ref x_11), .val (.ref x_16), .val (.int 1), .val (.int 1), .val (.ref b317), .val (.int 0), .val (.int 3), .val (.ref x_7), .val (.ref x_11)]) rfl ?_
        refine own_iload X440.here hx hby at_178 rfl ?_
        refine own_ifNo X440.here hx hby at_180 ((if0 _ _).trans (teq (show (0 : Int32) = (0 : Int32) from (by decide))).2) ?_
        refine own_iload X440.here hx hby at_183 rfl ?_
        refine own_iconst X440.here hx hby at_185 (v := (3 : Int32)) (by decide) ?_
        refine own_icmpNo X440.here hx hby at_186 (teq (show (3 : Int32) = (3 : Int32) from (by decide))).2 ?_
        refine own_aload X440.here hx hby at_189 rfl rfl ?_
        refine own_ifnullNo X440.here hx hby at_191 ?_
        refine own_aload X440.here hx hby at_194 rfl rfl ?_
        refine own_ifnullNo X440.here hx hby at_196 ?_
        refine own_aload X440.here hx hby at_199 rfl rfl ?_
        refine own_aload X440.here hx hby at_201 rfl rfl ?_
        have f442 : Exa Z T431.heap x_7 "java/lang/String" := ((((((f348.keep K349).keep K358).keep K365).keep K409).keep K418).keep K431)
        refine own_virtual X440 hx hZ hown (own_w hw 110 rfl) (own_w hw 111 rfl) (notFace_of_selects (args := #[]) (mvT hZ (own_w hw 113 rfl))) (own_w hw 113 rfl) (own_w hw 112 rfl) (own_w hw 7 rfl) (own_w hw 114 rfl) (by decide) (eqSelf l Z a0 hw [] x_7 T431.heap n0 z439 ) 0 (Nat.le_of_eq rfl) (by decide) (by decide) (by rw [hml]; rfl) (argsL := [(.ref x_7)]) (st := []) f442 (lenOf pd_9 rfl) rfl rfl (by decide) (by decide) eh440 hby at_203 ?_
        intro T441 v441 L441 X441 hQ441
        obtain ⟨rfl, Nq441, eh441⟩ := hQ441
        have N441 := Fr.app N440 Nq441
        refine own_sh (T := T441) 206 #[.val (.int p1), .val (.int p2), .val (.int p3), .val (.int p4), .val (.int p5), .val (.int p6), .val (.ref x_7), .val (.ref x_11), .val (.ref x_16), .val (.int 1), .val (.int 1), .val (.ref b317), .val (.int 0), .val (.int 3), .val (.ref x_7), .val (.ref x_11)] [(.int 1)] ?_
        refine own_ifNo X441.here hx hby at_206 ((if0 _ _).trans (feq (show ¬ ((1 : Int32) = (0 : Int32)) from (by decide))).1) ?_
        refine own_aload X441.here hx hby at_209 rfl rfl ?_
        refine own_aload X441.here hx hby at_211 rfl rfl ?_
        have f444 : Exa Z T431.heap x_11 "java/lang/String" := (f430.keep K431)
        refine own_virtual X441 hx hZ hown (own_w hw 110 rfl) (own_w hw 111 rfl) (notFace_of_selects (args := #[]) (mvT hZ (own_w hw 113 rfl))) (own_w hw 113 rfl) (own_w hw 112 rfl) (own_w hw 7 rfl) (own_w hw 114 rfl) (by decide) (eqSelf l Z a0 hw [] x_11 T431.heap n0 z439 ) 0 (Nat.le_of_eq rfl) (by decide) (by decide) (by rw [hml]; rfl) (argsL := [(.ref x_11)]) (st := []) f444 (lenOf pd_9 rfl) rfl rfl (by decide) (by decide) eh441 hby at_213 ?_
        intro T443 v443 L443 X443 hQ443
        obtain ⟨rfl, Nq443, eh443⟩ := hQ443
        have N443 := Fr.app N441 Nq443
        refine own_sh (T := T443) 216 #[.val (.int p1), .val (.int p2), .val (.int p3), .val (.int p4), .val (.int p5), .val (.int p6), .val (.ref x_7), .val (.ref x_11), .val (.ref x_16), .val (.int 1), .val (.int 1), .val (.ref b317), .val (.int 0), .val (.int 3), .val (.ref x_7), .val (.ref x_11)] [(.int 1)] ?_
        refine own_ifNo X443.here hx hby at_216 ((if0 _ _).trans (feq (show ¬ ((1 : Int32) = (0 : Int32)) from (by decide))).1) ?_
        refine own_iconst X443.here hx hby at_219 (v := (1 : Int32)) (by decide) ?_
        refine own_goto X443.here hx hby (pc' := 224) at_220 (by decide) (by decide) ?_
        obtain ⟨fs, hr, hrun, hended, hW, hsame⟩ := X443.leave (v := some (.int 1)) (fun h => by rw [Bd.returns] at h; cases h)
        refine own_ret (t := T443.setFrames fs) ?_ ⟨_, hrun, hended, _, _, rfl, ?_, ⟨_, rfl⟩, hW, hsame.mono (by decide) (by decide)⟩
        · exact retN X443 hx (t := .boolean) Bd.returns (by simp) (hb hby at_224) hr
        · show Q_rm0 Z _ _ _ _ _ _ _ h0 n0 _ T443.heap _
          rw [eh443]
          exact ⟨rfl, N443, trivial⟩
set_option maxRecDepth 65536 in
set_option maxHeartbeats 40000000 in
theorem comes_1 {Post : Tables → Env → Array Value → State → Outcome → State → Prop} (hpost : ∀ tb e args s v u, (limb_1_1.after args s (.returned v) u = true ∧ limb_1_2.after args s (.returned v) u = true ∧ True) → FrameEnd s (.returned v) u (Jvm.fieldLocs frame_1_writes args s ++ Jvm.arrayLocs frame_1_arrays args s ++ Jvm.staticLocs frame_1_statics s) 48 65728 → Post tb e args s (.returned v) u) :
    ArmFor flags0 classFile x code maxLocals ret World_1 tables_1 room_1 Calls_1 rest_1 Pre_1 Post := by
  intro l hfl _ _ p e ha hc hk s m args below hf hA hF happ hP
  obtain ⟨hcalls, hrest, hpre⟩ := hP
  obtain ⟨-, -, -, hnamed, -, -, -, hat⟩ := (Spec.applies_iff hf).mp happ
  obtain ⟨hg, hn⟩ := and_e (Cond.before_iff.mp (show (Jvm.Cond.and given_1 narrow_1).before args s = true from hpre))
  obtain ⟨g1, g2⟩ := and_e hg
  obtain ⟨g3, g4⟩ := and_e g2
  obtain ⟨g5, g6⟩ := and_e g4
  obtain ⟨g7, g8⟩ := and_e g6
  obtain ⟨g9, g10⟩ := and_e g8
  obtain ⟨g11, g12⟩ := and_e g10
  obtain ⟨w0, w1, w2, w3, w4, w5, rfl⟩ : ∃ w0 w1 w2 w3 w4 w5 : Value, args = #[w0, w1, w2, w3, w4, w5] := by
    have hs : args.size = 6 := by simpa [Cond.value, given_1] using g1
    obtain ⟨L⟩ := args
    match L, hs with
    | [w0, w1, w2, w3, w4, w5], _ => exact ⟨w0, w1, w2, w3, w4, w5, rfl⟩
  have hw := fun d (hd : d ∈ tables_1) => atoms_spec (ws := Jvm.Cond.code x code maxLocals ret :: tables_1) hat d (List.mem_cons_of_mem _ hd)
  have hfit : Fit s := fun {y c} hc i hi => by
    obtain ⟨ha, rfl⟩ := Array.getElem?_eq_some_iff.mp hc
    have q := List.all_eq_true.mp ((Array.all_eq_true_iff_forall_mem.mp hF) _ (Array.getElem_mem ha)) i (List.mem_range.mpr hi)
    simpa [Array.getElem?_eq_getElem hi] using q
  obtain ⟨hsets, hown0⟩ := atoms_of _ (rest_1_c_eq ▸ (show rest_1_c.before _ s = true from hrest))
  have hr0 := Cond.before_iff.mp hown0
  obtain ⟨i0, ei0⟩ := is_v g3
  obtain rfl : w0 = (.int i0) := Option.some.inj ei0
  obtain ⟨i1, ei1⟩ := is_v g5
  obtain rfl : w1 = (.int i1) := Option.some.inj ei1
  obtain ⟨i2, ei2⟩ := is_v g7
  obtain rfl : w2 = (.int i2) := Option.some.inj ei2
  obtain ⟨i3, ei3⟩ := is_v g9
  obtain rfl : w3 = (.int i3) := Option.some.inj ei3
  obtain ⟨i4, ei4⟩ := is_v g11
  obtain rfl : w4 = (.int i4) := Option.some.inj ei4
  obtain ⟨i5, ei5⟩ := is_v g12
  obtain rfl : w5 = (.int i5) := Option.some.inj ei5
  have hCS := Cond.before_iff.mp (hsets _ (List.mem_of_getElem? (i := 1) rfl))
  obtain ⟨zC, evC⟩ := is_v hCS
  have StC := Sta.start evC (Or.inl (hsets _ (List.mem_of_getElem? (i := 0) rfl)))
  have hzC : ¬ (zC = (0 : Int32)) := fun e => by
    have q := not_v (Cond.before_iff.mp (hsets _ (List.mem_of_getElem? (i := 2) rfl)))
    have r := eq_i evC (Term.int_eval (0)) (by rw [e])
    exact absurd (q.symm.trans r) (by decide)
  obtain ⟨n, o, h1, h2, h3, _, L, rfl, ⟨rfl, N, -⟩, hq⟩ := rm0 l s _ hw tables_1 i0 i1 i2 i3 i4 i5 zC s.heap s.heap.size (Nat.le_refl _) StC hzC p e ha hc hk s m _ below hf ((Spec.applies_iff_loose hf).mp happ).1 ⟨rfl, State.Warmed39.refl s, rfl⟩ trivial
  refine ⟨n, _, h1, h2, h3, hpost _ _ _ _ _ _ ⟨Cond.after_iff.mpr rfl, Cond.after_iff.mpr (eq_i res_at (Term.int_eval (1)) rfl), trivial⟩ ⟨hq.1, hq.2.1, (hq.2.2.sift fun y hy => Or.inr (N y hy)).mono (by decide) (by decide)⟩⟩
theorem main_1_1 : Claimed_1_1 := comes_1 fun _ _ _ _ _ _ h hF => ⟨h.1, hF⟩
theorem main_1_2 : Claimed_1_2 := comes_1 fun _ _ _ _ _ _ h hF => ⟨h.2.1, hF⟩
end Jvm.Pilot.@@N@@
namespace Jvm.Pilot.@@N@@
open Jvm Jvm.ClassFile Sem Op Lib Jvm.Free Jvm.Stand Jvm.Pilot.@@N@@.Jvm.D
/-! MADE BY PROGRAM (witnessworld.py) out of the Statement's table words and the real class files: 21 classes; the members and pool entries that the words name. The judged class is class 1, her method 2. -/
namespace start1
open Jvm.ClassFile
def u (s : String) : CpInfo := .utf8 (stringToUtf16 s)
/-- a pool by its gaps: so many unusable entries, then the entry; so many at the end -/
def gap : Nat → List CpInfo → List CpInfo
  | 0, r => r
  | n + 1, r => .unusable :: gap n r
def poolList (es : List (Nat × CpInfo)) (last : Nat) : List CpInfo := es.foldr (fun e r => gap e.1 (e.2 :: r)) (gap last [])
def pool (es : List (Nat × CpInfo)) (last : Nat) : Array CpInfo := ⟨poolList es last⟩
def fileOf (pool : Array CpInfo) (this : Nat) (attrs : Array Attribute := #[]) (ms : Array MethodInfo := #[]) (fl : Nat := 33) (sup : Nat := 0) (ifs : Array Nat := #[]) (fds : Array FieldInfo := #[]) : ClassFile where
  minorVersion := 0
  majorVersion := 65
  constantPool := pool
  accessFlags := fl
  thisClass := this
  superClass := sup
  interfaces := ifs
  fields := fds
  methods := ms
  attributes := attrs
def plain (name : String) (sup : Option ClassId) : Class where
  name := name
  kind := .ordinary
  loader := none
  accessFlags := 33
  super := sup
  interfaces := #[]
  cf := none
  fields := #[]
  methods := #[]
  instanceTypes := #[]
  staticTypes := #[]
  resolved := #[]
  callSites := []
  init := .initialized
  statics := none
  mirror := none

def pool0 : Array CpInfo := pool [(5, u "<init>"), (0, u "()V"), (1, .class_ 10), (1, u "java/lang/Object")] 113

def k0c0 : Code := { maxStack := 0, maxLocals := 1, code := object_method_1_code, exceptionTable := #[], attributes := #[] }
def k0m0 : Method := { name := "<init>", desc := "()V", sig := { parameters := [], returnType := none }, accessFlags := 1, code := some k0c0 }
/-- java/lang/Object -/
def k0 : Class := { plain "java/lang/Object" none with
  accessFlags := 33
  interfaces := #[]
  cf := some (fileOf pool0 8 #[] #[{ accessFlags := 1, nameIndex := 5, descriptorIndex := 6, attributes := #[] }] 33 0 #[] #[])
  fields := #[]
  methods := #[k0m0]
  instanceTypes := #[]
  staticTypes := #[]
  resolved := Array.replicate 124 none
  statics := none }

def pool1 : Array CpInfo := pool [(2, .class_ 4), (1, u "java/lang/Object"), (0, u "<init>"), (0, u "()V"), (0, .class_ 8), (0, u "java/lang/String"), (0, .methodref 7 10), (0, .nameAndType 5 11), (0, u "([C)V"), (0, .methodref 13 14), (0, .class_ 15), (0, .nameAndType 16 17), (0, u "com/example/boxwood/boxwood/XmlNodeTableNamePinLaw"), (0, u "draw"), (0, u "(I)Ljava/lang/String;"), (0, .class_ 19), (0, u "com/example/boxwood/boxwood/XmlNodeTable"), (0, .methodref 18 21), (0, .nameAndType 5 22), (0, u "([B)V"), (0, .methodref 18 24), (0, .nameAndType 25 26), (0, u "startElement"), (0, u "(Ljava/lang/String;II)I"), (0, .methodref 18 28), (0, .nameAndType 29 30), (0, u "addText"), (0, u "(Ljava/lang/String;II)V"), (0, .methodref 18 32), (0, .nameAndType 33 34), (0, u "addVerbatim"), (0, u "(II)V"), (0, .methodref 18 36), (0, .nameAndType 37 38), (0, u "passOver"), (0, u "(IZ)V"), (0, .methodref 18 40), (0, .nameAndType 41 42), (0, u "endElement"), (0, u "(III)V"), (0, .methodref 18 44), (0, .nameAndType 45 17), (0, u "name"), (0, .methodref 7 47), (0, .nameAndType 48 49), (0, u "equals"), (0, u "(Ljava/lang/Object;)Z"), (2, u "law"), (0, u "(IIIIII)Z")] 3

def k1m0 : Method := { name := "<init>", desc := "()V", sig := { parameters := [], returnType := none }, accessFlags := 1, code := none }
def k1c1 : Code := { maxStack := 4, maxLocals := 2, code := method_2_code, exceptionTable := #[], attributes := #[] }
def k1m1 : Method := { name := "draw", desc := "(I)Ljava/lang/String;", sig := { parameters := [.int], returnType := some (.object "java/lang/String") }, accessFlags := 10, code := some k1c1 }
def k1c2 : Code := { maxStack := 4, maxLocals := 16, code := code, exceptionTable := #[], attributes := #[] }
def k1m2 : Method := { name := "law", desc := "(IIIIII)Z", sig := { parameters := [.int, .int, .int, .int, .int, .int], returnType := some .boolean }, accessFlags := 9, code := some k1c2 }
/-- com/example/boxwood/boxwood/XmlNodeTableNamePinLaw -/
def k1 : Class := { plain "com/example/boxwood/boxwood/XmlNodeTableNamePinLaw" (some 0) with
  accessFlags := 49
  interfaces := #[]
  cf := some (fileOf pool1 13 #[] #[{ accessFlags := 1, nameIndex := 5, descriptorIndex := 6, attributes := #[] }, { accessFlags := 10, nameIndex := 16, descriptorIndex := 17, attributes := #[] }, { accessFlags := 9, nameIndex := 52, descriptorIndex := 53, attributes := #[] }] 49 2 #[] #[])
  fields := #[]
  methods := #[k1m0, k1m1, k1m2]
  instanceTypes := #[]
  staticTypes := #[]
  resolved := Array.replicate 57 none
  statics := none }

def pool2 : Array CpInfo := pool [(1, .class_ 2), (0, u "java/io/Serializable"), (0, .class_ 4), (0, u "java/lang/Object")] 2

/-- java/io/Serializable -/
def k2 : Class := { plain "java/io/Serializable" (some 0) with
  accessFlags := 1537
  interfaces := #[]
  cf := some (fileOf pool2 1 #[] #[] 1537 3 #[] #[])
  fields := #[]
  methods := #[]
  instanceTypes := #[]
  staticTypes := #[]
  resolved := Array.replicate 7 none
  statics := none }

def pool3 : Array CpInfo := pool [(1, .class_ 2), (0, u "java/lang/Comparable"), (0, .class_ 4), (0, u "java/lang/Object")] 7

/-- java/lang/Comparable -/
def k3 : Class := { plain "java/lang/Comparable" (some 0) with
  accessFlags := 1537
  interfaces := #[]
  cf := some (fileOf pool3 1 #[] #[] 1537 3 #[] #[])
  fields := #[]
  methods := #[]
  instanceTypes := #[]
  staticTypes := #[]
  resolved := Array.replicate 12 none
  statics := none }

def pool4 : Array CpInfo := pool [(2, .class_ 4), (1, u "java/lang/CharSequence"), (42, .class_ 48), (0, u "java/lang/CharSequence$1CodePointIterator"), (10, .class_ 60), (0, u "java/lang/CharSequence$1CharIterator"), (5, .class_ 67), (0, u "java/lang/Object")] 63

/-- java/lang/CharSequence -/
def k4 : Class := { plain "java/lang/CharSequence" (some 0) with
  accessFlags := 1537
  interfaces := #[]
  cf := some (fileOf pool4 2 #[.nestMembers #[47, 59]] #[] 1537 66 #[] #[])
  fields := #[]
  methods := #[]
  instanceTypes := #[]
  staticTypes := #[]
  resolved := Array.replicate 131 none
  statics := none }

def pool5 : Array CpInfo := pool [(1, .class_ 2), (0, u "java/lang/constant/Constable"), (0, .class_ 4), (0, u "java/lang/Object")] 6

/-- java/lang/constant/Constable -/
def k5 : Class := { plain "java/lang/constant/Constable" (some 0) with
  accessFlags := 1537
  interfaces := #[]
  cf := some (fileOf pool5 1 #[] #[] 1537 3 #[] #[])
  fields := #[]
  methods := #[]
  instanceTypes := #[]
  staticTypes := #[]
  resolved := Array.replicate 11 none
  statics := none }

def pool6 : Array CpInfo := pool [(1, .class_ 2), (0, u "java/lang/constant/ConstantDesc"), (0, .class_ 4), (0, u "java/lang/Object")] 32

/-- java/lang/constant/ConstantDesc -/
def k6 : Class := { plain "java/lang/constant/ConstantDesc" (some 0) with
  accessFlags := 1537
  interfaces := #[]
  cf := some (fileOf pool6 1 #[] #[] 1537 3 #[] #[])
  fields := #[]
  methods := #[]
  instanceTypes := #[]
  staticTypes := #[]
  resolved := Array.replicate 37 none
  statics := none }

def pool7 : Array CpInfo := pool [(1, .methodref 2 3), (0, .class_ 4), (0, .nameAndType 5 6), (0, u "java/lang/Object"), (0, u "<init>"), (0, u "()V"), (2, .fieldref 10 11), (0, .class_ 12), (0, .nameAndType 13 14), (0, u "java/lang/String"), (0, u "value"), (0, u "[B"), (0, .fieldref 10 16), (0, .nameAndType 17 18), (0, u "coder"), (0, u "B"), (2, u "hash"), (0, u "I"), (2, u "hashIsZero"), (0, u "Z"), (0, .methodref 10 28), (0, .nameAndType 5 29), (0, u "([CIILjava/lang/Void;)V"), (8, .fieldref 10 39), (0, .nameAndType 40 26), (0, u "COMPACT_STRINGS"), (1, .class_ 44), (1, u "java/lang/StringUTF16"), (0, u "compress"), (1, .methodref 42 48), (0, .nameAndType 49 50), (0, u "coderFromArrayLen"), (0, u "([BI)B"), (126, .methodref 42 178), (0, .nameAndType 45 179), (0, u "([CII)[B"), (363, u "equals"), (29, u "(Ljava/lang/Object;)Z"), (1, .class_ 576), (0, u "java/lang/CharSequence"), (22, u "CASE_INSENSITIVE_ORDER"), (0, u "Ljava/util/Comparator;"), (409, u "([C)V"), (90, u "serialPersistentFields"), (0, u "[Ljava/io/ObjectStreamField;"), (0, .class_ 1104), (0, u "java/lang/String$CaseInsensitiveComparator"), (1, .class_ 1107), (0, u "java/io/Serializable"), (0, .class_ 1109), (0, u "java/lang/Comparable"), (0, .class_ 1111), (0, u "java/lang/constant/Constable"), (0, .class_ 1113), (0, u "java/lang/constant/ConstantDesc"), (2, u "serialVersionUID"), (0, u "J"), (3, u "REPL"), (0, u "C"), (2, u "LATIN1"), (1, u "UTF16")] 323

def k7m0 : Method := { name := "<init>", desc := "()V", sig := { parameters := [], returnType := none }, accessFlags := 1, code := none }
def k7c1 : Code := { maxStack := 5, maxLocals := 2, code := jdk_42_method_3_code, exceptionTable := #[], attributes := #[] }
def k7m1 : Method := { name := "<init>", desc := "([C)V", sig := { parameters := [(.array .char)], returnType := none }, accessFlags := 1, code := some k7c1 }
def k7c2 : Code := { maxStack := 2, maxLocals := 3, code := jdk_42_method_66_code, exceptionTable := #[], attributes := #[] }
def k7m2 : Method := { name := "equals", desc := "(Ljava/lang/Object;)Z", sig := { parameters := [(.object "java/lang/Object")], returnType := some .boolean }, accessFlags := 1, code := some k7c2 }
def k7c3 : Code := { maxStack := 4, maxLocals := 6, code := jdk_42_method_149_code, exceptionTable := #[], attributes := #[] }
def k7m3 : Method := { name := "<init>", desc := "([CIILjava/lang/Void;)V", sig := { parameters := [(.array .char), .int, .int, (.object "java/lang/Void")], returnType := none }, accessFlags := 2, code := some k7c3 }
/-- java/lang/String -/
def k7 : Class := { plain "java/lang/String" (some 0) with
  accessFlags := 49
  interfaces := #[2, 3, 4, 5, 6]
  cf := some (fileOf pool7 10 #[.nestMembers #[1103]] #[{ accessFlags := 1, nameIndex := 5, descriptorIndex := 6, attributes := #[] }, { accessFlags := 1, nameIndex := 5, descriptorIndex := 1010, attributes := #[] }, { accessFlags := 1, nameIndex := 543, descriptorIndex := 573, attributes := #[] }, { accessFlags := 2, nameIndex := 5, descriptorIndex := 29, attributes := #[] }] 49 2 #[1106, 1108, 575, 1110, 1112] #[{ accessFlags := 18, nameIndex := 13, descriptorIndex := 14, attributes := #[] }, { accessFlags := 18, nameIndex := 17, descriptorIndex := 18, attributes := #[] }, { accessFlags := 2, nameIndex := 21, descriptorIndex := 22, attributes := #[] }, { accessFlags := 2, nameIndex := 25, descriptorIndex := 26, attributes := #[] }, { accessFlags := 26, nameIndex := 1116, descriptorIndex := 1117, attributes := #[] }, { accessFlags := 24, nameIndex := 40, descriptorIndex := 26, attributes := #[] }, { accessFlags := 26, nameIndex := 1101, descriptorIndex := 1102, attributes := #[] }, { accessFlags := 26, nameIndex := 1121, descriptorIndex := 1122, attributes := #[] }, { accessFlags := 25, nameIndex := 599, descriptorIndex := 600, attributes := #[] }, { accessFlags := 24, nameIndex := 1125, descriptorIndex := 18, attributes := #[] }, { accessFlags := 24, nameIndex := 1127, descriptorIndex := 18, attributes := #[] }])
  fields := #[{ name := "value", type := (.array .byte), accessFlags := 18, slot := 0, constantValue := 0 }, { name := "coder", type := .byte, accessFlags := 18, slot := 1, constantValue := 0 }, { name := "hash", type := .int, accessFlags := 2, slot := 2, constantValue := 0 }, { name := "hashIsZero", type := .boolean, accessFlags := 2, slot := 3, constantValue := 0 }, { name := "serialVersionUID", type := .long, accessFlags := 26, slot := 0, constantValue := 0 }, { name := "COMPACT_STRINGS", type := .boolean, accessFlags := 24, slot := 1, constantValue := 0 }, { name := "serialPersistentFields", type := (.array (.object "java/io/ObjectStreamField")), accessFlags := 26, slot := 2, constantValue := 0 }, { name := "REPL", type := .char, accessFlags := 26, slot := 3, constantValue := 0 }, { name := "CASE_INSENSITIVE_ORDER", type := (.object "java/util/Comparator"), accessFlags := 25, slot := 4, constantValue := 0 }, { name := "LATIN1", type := .byte, accessFlags := 24, slot := 5, constantValue := 0 }, { name := "UTF16", type := .byte, accessFlags := 24, slot := 6, constantValue := 0 }]
  methods := #[k7m0, k7m1, k7m2, k7m3]
  instanceTypes := #[(.array .byte), .byte, .int, .boolean]
  staticTypes := #[.long, .boolean, (.array (.object "java/io/ObjectStreamField")), .char, (.object "java/util/Comparator"), .byte, .byte]
  resolved := Array.replicate 1451 none
  statics := some 0 }

def pool8 : Array CpInfo := pool [(6, .class_ 8), (1, u "java/lang/Object"), (0, u "<init>"), (0, u "()V"), (1, .class_ 14), (1, u "java/lang/StringUTF16"), (31, u "$assertionsDisabled"), (0, u "Z"), (13, u "HI_BYTE_SHIFT"), (0, u "I"), (2, u "LO_BYTE_SHIFT"), (49, .methodref 12 116), (0, .nameAndType 117 118), (0, u "compress"), (0, u "([CI[BII)I"), (3, u "([CII)[B"), (138, u "coderFromArrayLen"), (0, u "([BI)B"), (106, .class_ 371), (1, u "java/lang/StringUTF16$LinesSpliterator"), (58, u "MAX_LENGTH"), (196, .class_ 628), (0, u "java/lang/StringUTF16$CodePointsSpliterator"), (0, .class_ 630), (0, u "java/lang/StringUTF16$CharsSpliterator")] 4

def k8m0 : Method := { name := "<init>", desc := "()V", sig := { parameters := [], returnType := none }, accessFlags := 0, code := none }
def k8c1 : Code := { maxStack := 2, maxLocals := 2, code := jdk_52_method_15_code, exceptionTable := #[], attributes := #[] }
def k8m1 : Method := { name := "coderFromArrayLen", desc := "([BI)B", sig := { parameters := [(.array .byte), .int], returnType := some .byte }, accessFlags := 8, code := some k8c1 }
def k8c2 : Code := { maxStack := 5, maxLocals := 6, code := jdk_52_method_16_code, exceptionTable := #[], attributes := #[] }
def k8m2 : Method := { name := "compress", desc := "([CII)[B", sig := { parameters := [(.array .char), .int, .int], returnType := some (.array .byte) }, accessFlags := 9, code := some k8c2 }
def k8c3 : Code := { maxStack := 3, maxLocals := 7, code := jdk_52_method_21_code, exceptionTable := #[], attributes := #[] }
def k8m3 : Method := { name := "compress", desc := "([CI[BII)I", sig := { parameters := [(.array .char), .int, (.array .byte), .int, .int], returnType := some .int }, accessFlags := 9, code := some k8c3 }
/-- java/lang/StringUTF16 -/
def k8 : Class := { plain "java/lang/StringUTF16" (some 0) with
  accessFlags := 48
  interfaces := #[]
  cf := some (fileOf pool8 12 #[.nestMembers #[627, 629, 369]] #[{ accessFlags := 0, nameIndex := 9, descriptorIndex := 10, attributes := #[] }, { accessFlags := 8, nameIndex := 261, descriptorIndex := 262, attributes := #[] }, { accessFlags := 9, nameIndex := 117, descriptorIndex := 122, attributes := #[] }, { accessFlags := 9, nameIndex := 117, descriptorIndex := 118, attributes := #[] }] 48 6 #[] #[{ accessFlags := 26, nameIndex := 61, descriptorIndex := 62, attributes := #[] }, { accessFlags := 26, nameIndex := 65, descriptorIndex := 62, attributes := #[] }, { accessFlags := 24, nameIndex := 430, descriptorIndex := 62, attributes := #[] }, { accessFlags := 4120, nameIndex := 46, descriptorIndex := 47, attributes := #[] }])
  fields := #[{ name := "HI_BYTE_SHIFT", type := .int, accessFlags := 26, slot := 0, constantValue := 0 }, { name := "LO_BYTE_SHIFT", type := .int, accessFlags := 26, slot := 1, constantValue := 0 }, { name := "MAX_LENGTH", type := .int, accessFlags := 24, slot := 2, constantValue := 0 }, { name := "$assertionsDisabled", type := .boolean, accessFlags := 4120, slot := 3, constantValue := 0 }]
  methods := #[k8m0, k8m1, k8m2, k8m3]
  instanceTypes := #[]
  staticTypes := #[.int, .int, .int, .boolean]
  resolved := Array.replicate 635 none
  statics := none }

def pool9 : Array CpInfo := pool [(1, .class_ 2), (0, u "com/example/boxwood/boxwood/XmlNodeTable"), (0, .methodref 4 5), (0, .class_ 6), (0, .nameAndType 7 8), (0, u "java/lang/Object"), (0, u "<init>"), (0, u "()V"), (0, .class_ 10), (0, u "[I"), (0, .fieldref 1 12), (0, .nameAndType 13 14), (0, u "numbers"), (0, u "[[I"), (0, .class_ 16), (0, u "[Ljava/lang/String;"), (0, .fieldref 1 18), (0, .nameAndType 19 20), (0, u "strings"), (0, u "[[Ljava/lang/String;"), (0, .fieldref 1 22), (0, .nameAndType 23 14), (0, u "attributeNumbers"), (0, .fieldref 1 25), (0, .nameAndType 26 20), (0, u "attributeNames"), (0, .class_ 28), (0, u "[Lcom/example/boxwood/boxwood/XmlValue;"), (0, .fieldref 1 30), (0, .nameAndType 31 32), (0, u "attributeValues"), (0, u "[[Lcom/example/boxwood/boxwood/XmlValue;"), (0, .fieldref 1 34), (0, .nameAndType 35 36), (0, u "content"), (0, u "[B"), (0, .methodref 1 38), (0, .nameAndType 39 40), (0, u "add"), (0, u "(III)I"), (0, .methodref 1 42), (0, .nameAndType 43 44), (0, u "set"), (0, u "(III)V"), (4, .methodref 1 50), (0, .nameAndType 51 52), (0, u "get"), (0, u "(II)I"), (0, .fieldref 1 54), (0, .nameAndType 55 56), (0, u "size"), (0, u "I"), (0, .fieldref 1 58), (0, .nameAndType 59 56), (0, u "attributeCount"), (0, .class_ 61), (0, u "java/lang/String"), (24, u "ELEMENT"), (2, u "TEXT"), (1, u "VERBATIM"), (1, u "KIND_MASK"), (1, u "PASSED_OVER"), (1, u "HOLDS_ELEMENTS"), (1, u "FLAGS"), (0, u "START"), (0, u "END"), (0, u "NEXT"), (0, u "CONTENT_START"), (0, u "CONTENT_END"), (1, u "FIRST_ATTRIBUTE"), (1, u "NUMBERS"), (1, u "TEXT_START"), (0, u "TEXT_END"), (0, u "ATTRIBUTE_NUMBERS"), (0, u "BLOCK_BITS"), (1, u "BLOCK_SIZE"), (1, u "IN_BLOCK"), (1, u "([B)V"), (3, u "startElement"), (0, u "(Ljava/lang/String;II)I"), (1, u "(Ljava/lang/String;II)V"), (0, u "passOver"), (0, u "(IZ)V"), (1, u "endElement"), (0, u "addText"), (0, u "addVerbatim"), (0, u "(II)V"), (10, u "name"), (0, u "(I)Ljava/lang/String;")] 8

def k9c0 : Code := { maxStack := 2, maxLocals := 2, code := prog_60_method_1_code, exceptionTable := #[], attributes := #[] }
def k9m0 : Method := { name := "<init>", desc := "([B)V", sig := { parameters := [(.array .byte)], returnType := none }, accessFlags := 0, code := some k9c0 }
def k9c1 : Code := { maxStack := 4, maxLocals := 5, code := prog_60_method_3_code, exceptionTable := #[], attributes := #[] }
def k9m1 : Method := { name := "startElement", desc := "(Ljava/lang/String;II)I", sig := { parameters := [(.object "java/lang/String"), .int, .int], returnType := some .int }, accessFlags := 0, code := some k9c1 }
def k9c2 : Code := { maxStack := 6, maxLocals := 3, code := prog_60_method_6_code, exceptionTable := #[], attributes := #[] }
def k9m2 : Method := { name := "passOver", desc := "(IZ)V", sig := { parameters := [.int, .boolean], returnType := none }, accessFlags := 0, code := some k9c2 }
def k9c3 : Code := { maxStack := 3, maxLocals := 6, code := prog_60_method_7_code, exceptionTable := #[], attributes := #[] }
def k9m3 : Method := { name := "endElement", desc := "(III)V", sig := { parameters := [.int, .int, .int], returnType := none }, accessFlags := 0, code := some k9c3 }
def k9c4 : Code := { maxStack := 4, maxLocals := 5, code := prog_60_method_8_code, exceptionTable := #[], attributes := #[] }
def k9m4 : Method := { name := "addText", desc := "(Ljava/lang/String;II)V", sig := { parameters := [(.object "java/lang/String"), .int, .int], returnType := none }, accessFlags := 0, code := some k9c4 }
def k9c5 : Code := { maxStack := 4, maxLocals := 3, code := prog_60_method_9_code, exceptionTable := #[], attributes := #[] }
def k9m5 : Method := { name := "addVerbatim", desc := "(II)V", sig := { parameters := [.int, .int], returnType := none }, accessFlags := 0, code := some k9c5 }
def k9c6 : Code := { maxStack := 3, maxLocals := 2, code := prog_60_method_18_code, exceptionTable := #[], attributes := #[] }
def k9m6 : Method := { name := "name", desc := "(I)Ljava/lang/String;", sig := { parameters := [.int], returnType := some (.object "java/lang/String") }, accessFlags := 0, code := some k9c6 }
def k9c7 : Code := { maxStack := 4, maxLocals := 7, code := prog_60_method_24_code, exceptionTable := #[], attributes := #[] }
def k9m7 : Method := { name := "add", desc := "(III)I", sig := { parameters := [.int, .int, .int], returnType := some .int }, accessFlags := 2, code := some k9c7 }
def k9c8 : Code := { maxStack := 3, maxLocals := 3, code := prog_60_method_26_code, exceptionTable := #[], attributes := #[] }
def k9m8 : Method := { name := "get", desc := "(II)I", sig := { parameters := [.int, .int], returnType := some .int }, accessFlags := 2, code := some k9c8 }
def k9c9 : Code := { maxStack := 3, maxLocals := 4, code := prog_60_method_27_code, exceptionTable := #[], attributes := #[] }
def k9m9 : Method := { name := "set", desc := "(III)V", sig := { parameters := [.int, .int, .int], returnType := none }, accessFlags := 2, code := some k9c9 }
/-- com/example/boxwood/boxwood/XmlNodeTable -/
def k9 : Class := { plain "com/example/boxwood/boxwood/XmlNodeTable" (some 0) with
  accessFlags := 48
  interfaces := #[]
  cf := some (fileOf pool9 1 #[] #[{ accessFlags := 0, nameIndex := 7, descriptorIndex := 119, attributes := #[] }, { accessFlags := 0, nameIndex := 123, descriptorIndex := 124, attributes := #[] }, { accessFlags := 0, nameIndex := 127, descriptorIndex := 128, attributes := #[] }, { accessFlags := 0, nameIndex := 130, descriptorIndex := 44, attributes := #[] }, { accessFlags := 0, nameIndex := 131, descriptorIndex := 126, attributes := #[] }, { accessFlags := 0, nameIndex := 132, descriptorIndex := 133, attributes := #[] }, { accessFlags := 0, nameIndex := 144, descriptorIndex := 145, attributes := #[] }, { accessFlags := 2, nameIndex := 39, descriptorIndex := 40, attributes := #[] }, { accessFlags := 2, nameIndex := 51, descriptorIndex := 52, attributes := #[] }, { accessFlags := 2, nameIndex := 43, descriptorIndex := 44, attributes := #[] }] 48 4 #[] #[{ accessFlags := 24, nameIndex := 86, descriptorIndex := 56, attributes := #[] }, { accessFlags := 24, nameIndex := 89, descriptorIndex := 56, attributes := #[] }, { accessFlags := 24, nameIndex := 91, descriptorIndex := 56, attributes := #[] }, { accessFlags := 26, nameIndex := 93, descriptorIndex := 56, attributes := #[] }, { accessFlags := 26, nameIndex := 95, descriptorIndex := 56, attributes := #[] }, { accessFlags := 26, nameIndex := 97, descriptorIndex := 56, attributes := #[] }, { accessFlags := 26, nameIndex := 99, descriptorIndex := 56, attributes := #[] }, { accessFlags := 26, nameIndex := 100, descriptorIndex := 56, attributes := #[] }, { accessFlags := 26, nameIndex := 101, descriptorIndex := 56, attributes := #[] }, { accessFlags := 26, nameIndex := 102, descriptorIndex := 56, attributes := #[] }, { accessFlags := 26, nameIndex := 103, descriptorIndex := 56, attributes := #[] }, { accessFlags := 26, nameIndex := 104, descriptorIndex := 56, attributes := #[] }, { accessFlags := 26, nameIndex := 106, descriptorIndex := 56, attributes := #[] }, { accessFlags := 26, nameIndex := 108, descriptorIndex := 56, attributes := #[] }, { accessFlags := 26, nameIndex := 110, descriptorIndex := 56, attributes := #[] }, { accessFlags := 26, nameIndex := 111, descriptorIndex := 56, attributes := #[] }, { accessFlags := 26, nameIndex := 112, descriptorIndex := 56, attributes := #[] }, { accessFlags := 26, nameIndex := 113, descriptorIndex := 56, attributes := #[] }, { accessFlags := 26, nameIndex := 115, descriptorIndex := 56, attributes := #[] }, { accessFlags := 26, nameIndex := 117, descriptorIndex := 56, attributes := #[] }, { accessFlags := 18, nameIndex := 35, descriptorIndex := 36, attributes := #[] }, { accessFlags := 2, nameIndex := 55, descriptorIndex := 56, attributes := #[] }, { accessFlags := 2, nameIndex := 13, descriptorIndex := 14, attributes := #[] }, { accessFlags := 2, nameIndex := 19, descriptorIndex := 20, attributes := #[] }, { accessFlags := 2, nameIndex := 59, descriptorIndex := 56, attributes := #[] }, { accessFlags := 2, nameIndex := 23, descriptorIndex := 14, attributes := #[] }, { accessFlags := 2, nameIndex := 26, descriptorIndex := 20, attributes := #[] }, { accessFlags := 2, nameIndex := 31, descriptorIndex := 32, attributes := #[] }])
  fields := #[{ name := "ELEMENT", type := .int, accessFlags := 24, slot := 0, constantValue := 0 }, { name := "TEXT", type := .int, accessFlags := 24, slot := 1, constantValue := 0 }, { name := "VERBATIM", type := .int, accessFlags := 24, slot := 2, constantValue := 0 }, { name := "KIND_MASK", type := .int, accessFlags := 26, slot := 3, constantValue := 0 }, { name := "PASSED_OVER", type := .int, accessFlags := 26, slot := 4, constantValue := 0 }, { name := "HOLDS_ELEMENTS", type := .int, accessFlags := 26, slot := 5, constantValue := 0 }, { name := "FLAGS", type := .int, accessFlags := 26, slot := 6, constantValue := 0 }, { name := "START", type := .int, accessFlags := 26, slot := 7, constantValue := 0 }, { name := "END", type := .int, accessFlags := 26, slot := 8, constantValue := 0 }, { name := "NEXT", type := .int, accessFlags := 26, slot := 9, constantValue := 0 }, { name := "CONTENT_START", type := .int, accessFlags := 26, slot := 10, constantValue := 0 }, { name := "CONTENT_END", type := .int, accessFlags := 26, slot := 11, constantValue := 0 }, { name := "FIRST_ATTRIBUTE", type := .int, accessFlags := 26, slot := 12, constantValue := 0 }, { name := "NUMBERS", type := .int, accessFlags := 26, slot := 13, constantValue := 0 }, { name := "TEXT_START", type := .int, accessFlags := 26, slot := 14, constantValue := 0 }, { name := "TEXT_END", type := .int, accessFlags := 26, slot := 15, constantValue := 0 }, { name := "ATTRIBUTE_NUMBERS", type := .int, accessFlags := 26, slot := 16, constantValue := 0 }, { name := "BLOCK_BITS", type := .int, accessFlags := 26, slot := 17, constantValue := 0 }, { name := "BLOCK_SIZE", type := .int, accessFlags := 26, slot := 18, constantValue := 0 }, { name := "IN_BLOCK", type := .int, accessFlags := 26, slot := 19, constantValue := 0 }, { name := "content", type := (.array .byte), accessFlags := 18, slot := 0, constantValue := 0 }, { name := "size", type := .int, accessFlags := 2, slot := 1, constantValue := 0 }, { name := "numbers", type := (.array (.array .int)), accessFlags := 2, slot := 2, constantValue := 0 }, { name := "strings", type := (.array (.array (.object "java/lang/String"))), accessFlags := 2, slot := 3, constantValue := 0 }, { name := "attributeCount", type := .int, accessFlags := 2, slot := 4, constantValue := 0 }, { name := "attributeNumbers", type := (.array (.array .int)), accessFlags := 2, slot := 5, constantValue := 0 }, { name := "attributeNames", type := (.array (.array (.object "java/lang/String"))), accessFlags := 2, slot := 6, constantValue := 0 }, { name := "attributeValues", type := (.array (.array (.object "com/example/boxwood/boxwood/XmlValue"))), accessFlags := 2, slot := 7, constantValue := 0 }]
  methods := #[k9m0, k9m1, k9m2, k9m3, k9m4, k9m5, k9m6, k9m7, k9m8, k9m9]
  instanceTypes := #[(.array .byte), .int, (.array (.array .int)), (.array (.array (.object "java/lang/String"))), .int, (.array (.array .int)), (.array (.array (.object "java/lang/String"))), (.array (.array (.object "com/example/boxwood/boxwood/XmlValue")))]
  staticTypes := #[.int, .int, .int, .int, .int, .int, .int, .int, .int, .int, .int, .int, .int, .int, .int, .int, .int, .int, .int, .int]
  resolved := Array.replicate 154 none
  statics := none }

def pool10 : Array CpInfo := pool [(4, .class_ 6), (1, u "java/lang/Object"), (0, u "<init>"), (0, u "()V"), (5, .class_ 16), (1, u "java/lang/StringLatin1"), (104, u "$assertionsDisabled"), (0, u "Z"), (98, .class_ 223), (1, u "java/lang/StringLatin1$LinesSpliterator"), (166, .class_ 391), (0, u "java/lang/StringLatin1$CharsSpliterator")] 3

def k10m0 : Method := { name := "<init>", desc := "()V", sig := { parameters := [], returnType := none }, accessFlags := 0, code := none }
/-- java/lang/StringLatin1 -/
def k10 : Class := { plain "java/lang/StringLatin1" (some 0) with
  accessFlags := 48
  interfaces := #[]
  cf := some (fileOf pool10 14 #[.nestMembers #[390, 221]] #[{ accessFlags := 0, nameIndex := 7, descriptorIndex := 8, attributes := #[] }] 48 4 #[] #[{ accessFlags := 4120, nameIndex := 121, descriptorIndex := 122, attributes := #[] }])
  fields := #[{ name := "$assertionsDisabled", type := .boolean, accessFlags := 4120, slot := 0, constantValue := 0 }]
  methods := #[k10m0]
  instanceTypes := #[]
  staticTypes := #[.boolean]
  resolved := Array.replicate 395 none
  statics := none }

def pool11 : Array CpInfo := pool [(2, .class_ 4), (1, u "java/lang/Object"), (0, u "<init>"), (0, u "()V"), (17, .class_ 26), (1, u "jdk/internal/util/Preconditions"), (28, .class_ 56), (0, u "jdk/internal/util/Preconditions$4"), (57, .class_ 115), (0, u "jdk/internal/util/Preconditions$1"), (7, u "SIOOBE_FORMATTER"), (0, u "Ljava/util/function/BiFunction;"), (0, .class_ 126), (0, u "jdk/internal/util/Preconditions$2"), (3, u "AIOOBE_FORMATTER"), (0, .class_ 132), (0, u "jdk/internal/util/Preconditions$3"), (3, u "IOOBE_FORMATTER")] 57

def k11m0 : Method := { name := "<init>", desc := "()V", sig := { parameters := [], returnType := none }, accessFlags := 1, code := none }
/-- jdk/internal/util/Preconditions -/
def k11 : Class := { plain "jdk/internal/util/Preconditions" (some 0) with
  accessFlags := 33
  interfaces := #[]
  cf := some (fileOf pool11 24 #[.nestMembers #[55, 131, 125, 114]] #[{ accessFlags := 1, nameIndex := 5, descriptorIndex := 6, attributes := #[] }] 33 2 #[] #[{ accessFlags := 25, nameIndex := 123, descriptorIndex := 124, attributes := #[] }, { accessFlags := 25, nameIndex := 130, descriptorIndex := 124, attributes := #[] }, { accessFlags := 25, nameIndex := 136, descriptorIndex := 124, attributes := #[] }])
  fields := #[{ name := "SIOOBE_FORMATTER", type := (.object "java/util/function/BiFunction"), accessFlags := 25, slot := 0, constantValue := 0 }, { name := "AIOOBE_FORMATTER", type := (.object "java/util/function/BiFunction"), accessFlags := 25, slot := 1, constantValue := 0 }, { name := "IOOBE_FORMATTER", type := (.object "java/util/function/BiFunction"), accessFlags := 25, slot := 2, constantValue := 0 }]
  methods := #[k11m0]
  instanceTypes := #[]
  staticTypes := #[(.object "java/util/function/BiFunction"), (.object "java/util/function/BiFunction"), (.object "java/util/function/BiFunction")]
  resolved := Array.replicate 194 none
  statics := some 1 }

def pool12 : Array CpInfo := pool [(9, u "<init>"), (6, .class_ 18), (1, u "java/lang/Object"), (0, u "()V"), (1, .class_ 23), (1, u "jdk/internal/util/ArraysSupport"), (0, u "LOG2_ARRAY_LONG_INDEX_SCALE"), (0, u "I"), (2, u "U"), (0, u "Ljdk/internal/misc/Unsafe;"), (8, u "BIG_ENDIAN"), (0, u "Z"), (8, u "LOG2_BYTE_BIT_SIZE"), (4, u "LOG2_ARRAY_INT_INDEX_SCALE"), (54, u "JLA"), (0, u "Ljdk/internal/access/JavaLangAccess;"), (11, u "LOG2_ARRAY_BOOLEAN_INDEX_SCALE"), (9, u "LOG2_ARRAY_BYTE_INDEX_SCALE"), (5, u "LOG2_ARRAY_CHAR_INDEX_SCALE"), (5, u "LOG2_ARRAY_SHORT_INDEX_SCALE"), (18, u "LOG2_ARRAY_FLOAT_INDEX_SCALE"), (24, u "LOG2_ARRAY_DOUBLE_INDEX_SCALE"), (89, u "T_BOOLEAN"), (2, u "T_CHAR"), (1, u "T_FLOAT"), (1, u "T_DOUBLE"), (1, u "T_BYTE"), (1, u "T_SHORT"), (1, u "T_INT"), (1, u "T_LONG"), (1, u "SOFT_MAX_ARRAY_LENGTH")] 83

def k12m0 : Method := { name := "<init>", desc := "()V", sig := { parameters := [], returnType := none }, accessFlags := 2, code := none }
/-- jdk/internal/util/ArraysSupport -/
def k12 : Class := { plain "jdk/internal/util/ArraysSupport" (some 0) with
  accessFlags := 33
  interfaces := #[]
  cf := some (fileOf pool12 21 #[] #[{ accessFlags := 2, nameIndex := 9, descriptorIndex := 19, attributes := #[] }] 33 16 #[] #[{ accessFlags := 24, nameIndex := 28, descriptorIndex := 29, attributes := #[] }, { accessFlags := 26, nameIndex := 38, descriptorIndex := 39, attributes := #[] }, { accessFlags := 25, nameIndex := 121, descriptorIndex := 25, attributes := #[] }, { accessFlags := 25, nameIndex := 131, descriptorIndex := 25, attributes := #[] }, { accessFlags := 25, nameIndex := 137, descriptorIndex := 25, attributes := #[] }, { accessFlags := 25, nameIndex := 143, descriptorIndex := 25, attributes := #[] }, { accessFlags := 25, nameIndex := 53, descriptorIndex := 25, attributes := #[] }, { accessFlags := 25, nameIndex := 24, descriptorIndex := 25, attributes := #[] }, { accessFlags := 25, nameIndex := 162, descriptorIndex := 25, attributes := #[] }, { accessFlags := 25, nameIndex := 187, descriptorIndex := 25, attributes := #[] }, { accessFlags := 26, nameIndex := 48, descriptorIndex := 25, attributes := #[] }, { accessFlags := 25, nameIndex := 277, descriptorIndex := 25, attributes := #[] }, { accessFlags := 25, nameIndex := 280, descriptorIndex := 25, attributes := #[] }, { accessFlags := 25, nameIndex := 282, descriptorIndex := 25, attributes := #[] }, { accessFlags := 25, nameIndex := 284, descriptorIndex := 25, attributes := #[] }, { accessFlags := 25, nameIndex := 286, descriptorIndex := 25, attributes := #[] }, { accessFlags := 25, nameIndex := 288, descriptorIndex := 25, attributes := #[] }, { accessFlags := 25, nameIndex := 290, descriptorIndex := 25, attributes := #[] }, { accessFlags := 25, nameIndex := 292, descriptorIndex := 25, attributes := #[] }, { accessFlags := 26, nameIndex := 108, descriptorIndex := 109, attributes := #[] }, { accessFlags := 25, nameIndex := 294, descriptorIndex := 25, attributes := #[] }])
  fields := #[{ name := "U", type := (.object "jdk/internal/misc/Unsafe"), accessFlags := 24, slot := 0, constantValue := 0 }, { name := "BIG_ENDIAN", type := .boolean, accessFlags := 26, slot := 1, constantValue := 0 }, { name := "LOG2_ARRAY_BOOLEAN_INDEX_SCALE", type := .int, accessFlags := 25, slot := 2, constantValue := 0 }, { name := "LOG2_ARRAY_BYTE_INDEX_SCALE", type := .int, accessFlags := 25, slot := 3, constantValue := 0 }, { name := "LOG2_ARRAY_CHAR_INDEX_SCALE", type := .int, accessFlags := 25, slot := 4, constantValue := 0 }, { name := "LOG2_ARRAY_SHORT_INDEX_SCALE", type := .int, accessFlags := 25, slot := 5, constantValue := 0 }, { name := "LOG2_ARRAY_INT_INDEX_SCALE", type := .int, accessFlags := 25, slot := 6, constantValue := 0 }, { name := "LOG2_ARRAY_LONG_INDEX_SCALE", type := .int, accessFlags := 25, slot := 7, constantValue := 0 }, { name := "LOG2_ARRAY_FLOAT_INDEX_SCALE", type := .int, accessFlags := 25, slot := 8, constantValue := 0 }, { name := "LOG2_ARRAY_DOUBLE_INDEX_SCALE", type := .int, accessFlags := 25, slot := 9, constantValue := 0 }, { name := "LOG2_BYTE_BIT_SIZE", type := .int, accessFlags := 26, slot := 10, constantValue := 0 }, { name := "T_BOOLEAN", type := .int, accessFlags := 25, slot := 11, constantValue := 0 }, { name := "T_CHAR", type := .int, accessFlags := 25, slot := 12, constantValue := 0 }, { name := "T_FLOAT", type := .int, accessFlags := 25, slot := 13, constantValue := 0 }, { name := "T_DOUBLE", type := .int, accessFlags := 25, slot := 14, constantValue := 0 }, { name := "T_BYTE", type := .int, accessFlags := 25, slot := 15, constantValue := 0 }, { name := "T_SHORT", type := .int, accessFlags := 25, slot := 16, constantValue := 0 }, { name := "T_INT", type := .int, accessFlags := 25, slot := 17, constantValue := 0 }, { name := "T_LONG", type := .int, accessFlags := 25, slot := 18, constantValue := 0 }, { name := "JLA", type := (.object "jdk/internal/access/JavaLangAccess"), accessFlags := 26, slot := 19, constantValue := 0 }, { name := "SOFT_MAX_ARRAY_LENGTH", type := .int, accessFlags := 25, slot := 20, constantValue := 0 }]
  methods := #[k12m0]
  instanceTypes := #[]
  staticTypes := #[(.object "jdk/internal/misc/Unsafe"), .boolean, .int, .int, .int, .int, .int, .int, .int, .int, .int, .int, .int, .int, .int, .int, .int, .int, .int, (.object "jdk/internal/access/JavaLangAccess"), .int]
  resolved := Array.replicate 378 none
  statics := none }

def pool13 : Array CpInfo := pool [(1, u "java/lang/Cloneable"), (0, .class_ 1), (0, u "java/lang/Object"), (0, .class_ 3)] 3

/-- java/lang/Cloneable -/
def k13 : Class := { plain "java/lang/Cloneable" (some 0) with
  accessFlags := 1537
  interfaces := #[]
  cf := some (fileOf pool13 2 #[] #[] 1537 4 #[] #[])
  fields := #[]
  methods := #[]
  instanceTypes := #[]
  staticTypes := #[]
  resolved := Array.replicate 8 none
  statics := none }

/-- the primitive byte -/
def k14 : Class := { plain "byte" none with kind := .primitive 'B', accessFlags := 0x411 }
/-- [B -/
def k15 : Class := { plain "[B" (some 0) with kind := .array 14 .byte, interfaces := #[13, 2], accessFlags := 1041 }

/-- the primitive char -/
def k16 : Class := { plain "char" none with kind := .primitive 'C', accessFlags := 0x411 }
/-- [C -/
def k17 : Class := { plain "[C" (some 0) with kind := .array 16 .char, interfaces := #[13, 2], accessFlags := 1041 }

/-- the primitive int -/
def k18 : Class := { plain "int" none with kind := .primitive 'I', accessFlags := 0x411 }
/-- [I -/
def k19 : Class := { plain "[I" (some 0) with kind := .array 18 .int, interfaces := #[13, 2], accessFlags := 1041 }

/-- [Ljava/lang/String; -/
def k20 : Class := { plain "[Ljava/lang/String;" (some 0) with kind := .array 7 (.object "java/lang/String"), interfaces := #[13, 2], accessFlags := 1041 }

def k21 : Class := { plain "[[I" (some 0) with kind := .array 19 (.array .int), interfaces := #[13, 2], accessFlags := 1041 }
def k22 : Class := { plain "[[Ljava/lang/String;" (some 0) with kind := .array 20 (.array (.object "java/lang/String")), interfaces := #[13, 2], accessFlags := 1041 }
def k23 : Class := { plain "com/example/boxwood/boxwood/XmlValue" (some 0) with accessFlags := 33 }
def k24 : Class := { plain "[Lcom/example/boxwood/boxwood/XmlValue;" (some 0) with kind := .array 23 (.object "com/example/boxwood/boxwood/XmlValue"), interfaces := #[13, 2], accessFlags := 1041 }
def k25 : Class := { plain "[[Lcom/example/boxwood/boxwood/XmlValue;" (some 0) with kind := .array 24 (.array (.object "com/example/boxwood/boxwood/XmlValue")), interfaces := #[13, 2], accessFlags := 1041 }
def heap : Heap := #[{ cls := 7, slots := #[.long 0, .int 1, .null, .int 0, .null, .int 0, .int 0], vm := .statics 7 },
  { cls := 11, slots := #[.null, .null, .null], vm := .statics 11 }]
def classes : Array Class := #[k0, k1, k2, k3, k4, k5, k6, k7, k8, k9, k10, k11, k12, k13, k14, k15, k16, k17, k18, k19, k20, k21, k22, k23, k24, k25]
def interned : List (Array UInt16 × Addr) := []
def slotsUsed : Nat := 10
def theMethod : MethodId := ⟨1, 2⟩
def args0 : Array Value := #[.int 1, .int 2, .int 3, .int 4, .int 5, .int 6]
def aboutOver (below : List Frame) : State where
  vm := { classes := classes, interned := interned.toArray }
  heap := heap
  slotsUsed := slotsUsed
  threads := #[{ frames := .invoking theMethod args0 :: below }]
def below0 : List Frame := [.native { method := ⟨0, 0⟩, args := #[] }]
def about1 : State := aboutOver below0
def p0 : Program := .bare "" "" ""
def e0 : Env := launch0.env 0 0 0
theorem w_frames : about1.frames = Frame.invoking theMethod args0 :: below0 := rfl
set_option maxRecDepth 65536 in
theorem w_args : argsFit about1.vm theMethod args0 = true := by decide +kernel
set_option maxRecDepth 65536 in
theorem w_heap : heapFits about1 = true := by decide +kernel
set_option maxRecDepth 65536 in
theorem w_runnable : about1.curStatus? = some .runnable := by decide +kernel
set_option maxRecDepth 65536 in
theorem w_alone : about1.alone = true := by decide +kernel
set_option maxRecDepth 65536 in
theorem w_named : about1.methodNamed? x = some theMethod := by decide +kernel
set_option maxRecDepth 65536 in
theorem w_hears : about1.hears theMethod below0 = true := by decide +kernel
set_option maxRecDepth 65536 in
theorem w_ripe : about1.ripe theMethod args0 below0 = true := by decide +kernel
theorem w_running : about1.status = .running := rfl
set_option maxRecDepth 65536 in
theorem w_room : about1.hasRoom e0.platform room_1 = true :=
  launch0.hasRoom_least _ room_1 (by decide +kernel) (by decide +kernel) (by decide +kernel) (by decide +kernel) (by decide +kernel) (by decide +kernel)
theorem allAtoms_all (ts : List Jvm.Cond) (a : Array Jvm.Value) (st : Jvm.State) : (allAtoms ts).before a st = ts.all (fun c => c.before a st) := by
  induction ts with
  | nil => rfl
  | cons c t ih =>
    show (Jvm.Cond.and c (allAtoms t)).before a st = _
    rw [Jvm.Cond.before_and, ih, List.all_cons]
def words1 : List Jvm.Cond := Jvm.Cond.code x code maxLocals ret :: tables_1
/-- a 'code' word, met by the world's own term for the bytes: nothing is compared byte by byte -/
theorem code_word {y : MethodName} {bytes : ByteArray} {mx : Nat} {rt : Option FieldType} {a : Array Value} {s : State} {m : MethodId} {meth : Method} {c : Code} (h1 : s.methodNamed? y = some m) (h2 : s.vm.method? m = some meth) (h3 : meth.code = some c) (h4 : c.code = bytes)
    (h5 : (c.maxLocals == mx && c.exceptionTable.isEmpty && decide (c.maxStack ≤ mostOperands) && decide (meth.sig.returnType = rt) && !meth.locks && decide (parseMethodDescriptor y.desc = some meth.sig)) = true) : (Jvm.Cond.code y bytes mx rt).before a s = true := by
  simp only [Bool.and_eq_true, beq_iff_eq, Bool.not_eq_true', decide_eq_true_eq] at h5
  obtain ⟨⟨⟨⟨⟨g1, g2⟩, g3⟩, g4⟩, g5⟩, g6⟩ := h5
  simp [Cond.before, Cond.holds, Cond.value, h1, h2, h3, h4, g1, g2, g3, g4, g5, g6]
def isCode : Jvm.Cond → Bool
  | .code _ _ _ _ => true
  | _ => false
theorem all_split {L : List Jvm.Cond} {P : Jvm.Cond → Bool} (h1 : L.all (fun c => isCode c || P c) = true) (h2 : ∀ c ∈ L.filter isCode, P c = true) : L.all P = true := by
  refine List.all_eq_true.mpr fun c hc => ?_
  have h := List.all_eq_true.mp h1 c hc
  rcases Bool.eq_false_or_eq_true (isCode c) with hi | hi
  · exact h2 c (List.mem_filter.mpr ⟨hc, hi⟩)
  · simpa [hi] using h
set_option maxRecDepth 65536 in
theorem w_c0 : (Jvm.Cond.code x code maxLocals ret).before args0 about1 = true := code_word (m := ⟨1, 2⟩) (meth := k1m2) (c := k1c2) (by decide +kernel) rfl rfl rfl (by decide +kernel)
set_option maxRecDepth 65536 in
theorem w_c1 : (Jvm.Cond.code ({ cls := "com/example/boxwood/boxwood/XmlNodeTableNamePinLaw", name := "draw", desc := "(I)Ljava/lang/String;" } : Jvm.MethodName) method_2_code (2 : Nat) (Option.some (Jvm.ClassFile.FieldType.object "java/lang/String"))).before args0 about1 = true := code_word (m := ⟨1, 1⟩) (meth := k1m1) (c := k1c1) (by decide +kernel) rfl rfl rfl (by decide +kernel)
set_option maxRecDepth 65536 in
theorem w_c2 : (Jvm.Cond.code ({ cls := "java/lang/String", name := "<init>", desc := "([C)V" } : Jvm.MethodName) jdk_42_method_3_code (2 : Nat) (Option.none : Option Jvm.ClassFile.FieldType)).before args0 about1 = true := code_word (m := ⟨7, 1⟩) (meth := k7m1) (c := k7c1) (by decide +kernel) rfl rfl rfl (by decide +kernel)
set_option maxRecDepth 65536 in
theorem w_c3 : (Jvm.Cond.code ({ cls := "java/lang/String", name := "<init>", desc := "([CIILjava/lang/Void;)V" } : Jvm.MethodName) jdk_42_method_149_code (6 : Nat) (Option.none : Option Jvm.ClassFile.FieldType)).before args0 about1 = true := code_word (m := ⟨7, 3⟩) (meth := k7m3) (c := k7c3) (by decide +kernel) rfl rfl rfl (by decide +kernel)
set_option maxRecDepth 65536 in
theorem w_c4 : (Jvm.Cond.code ({ cls := "java/lang/Object", name := "<init>", desc := "()V" } : Jvm.MethodName) object_method_1_code (1 : Nat) (Option.none : Option Jvm.ClassFile.FieldType)).before args0 about1 = true := code_word (m := ⟨0, 0⟩) (meth := k0m0) (c := k0c0) (by decide +kernel) rfl rfl rfl (by decide +kernel)
set_option maxRecDepth 65536 in
theorem w_c5 : (Jvm.Cond.code ({ cls := "java/lang/StringUTF16", name := "compress", desc := "([CII)[B" } : Jvm.MethodName) jdk_52_method_16_code (6 : Nat) (Option.some (Jvm.ClassFile.FieldType.array Jvm.ClassFile.FieldType.byte))).before args0 about1 = true := code_word (m := ⟨8, 2⟩) (meth := k8m2) (c := k8c2) (by decide +kernel) rfl rfl rfl (by decide +kernel)
set_option maxRecDepth 65536 in
theorem w_c6 : (Jvm.Cond.code ({ cls := "java/lang/StringUTF16", name := "compress", desc := "([CI[BII)I" } : Jvm.MethodName) jdk_52_method_21_code (7 : Nat) (Option.some Jvm.ClassFile.FieldType.int)).before args0 about1 = true := code_word (m := ⟨8, 3⟩) (meth := k8m3) (c := k8c3) (by decide +kernel) rfl rfl rfl (by decide +kernel)
set_option maxRecDepth 65536 in
theorem w_c7 : (Jvm.Cond.code ({ cls := "java/lang/StringUTF16", name := "coderFromArrayLen", desc := "([BI)B" } : Jvm.MethodName) jdk_52_method_15_code (2 : Nat) (Option.some Jvm.ClassFile.FieldType.byte)).before args0 about1 = true := code_word (m := ⟨8, 1⟩) (meth := k8m1) (c := k8c1) (by decide +kernel) rfl rfl rfl (by decide +kernel)
set_option maxRecDepth 65536 in
theorem w_c8 : (Jvm.Cond.code ({ cls := "com/example/boxwood/boxwood/XmlNodeTable", name := "<init>", desc := "([B)V" } : Jvm.MethodName) prog_60_method_1_code (2 : Nat) (Option.none : Option Jvm.ClassFile.FieldType)).before args0 about1 = true := code_word (m := ⟨9, 0⟩) (meth := k9m0) (c := k9c0) (by decide +kernel) rfl rfl rfl (by decide +kernel)
set_option maxRecDepth 65536 in
theorem w_c9 : (Jvm.Cond.code ({ cls := "com/example/boxwood/boxwood/XmlNodeTable", name := "startElement", desc := "(Ljava/lang/String;II)I" } : Jvm.MethodName) prog_60_method_3_code (5 : Nat) (Option.some Jvm.ClassFile.FieldType.int)).before args0 about1 = true := code_word (m := ⟨9, 1⟩) (meth := k9m1) (c := k9c1) (by decide +kernel) rfl rfl rfl (by decide +kernel)
set_option maxRecDepth 65536 in
theorem w_c10 : (Jvm.Cond.code ({ cls := "com/example/boxwood/boxwood/XmlNodeTable", name := "add", desc := "(III)I" } : Jvm.MethodName) prog_60_method_24_code (7 : Nat) (Option.some Jvm.ClassFile.FieldType.int)).before args0 about1 = true := code_word (m := ⟨9, 7⟩) (meth := k9m7) (c := k9c7) (by decide +kernel) rfl rfl rfl (by decide +kernel)
set_option maxRecDepth 65536 in
theorem w_c11 : (Jvm.Cond.code ({ cls := "com/example/boxwood/boxwood/XmlNodeTable", name := "set", desc := "(III)V" } : Jvm.MethodName) prog_60_method_27_code (4 : Nat) (Option.none : Option Jvm.ClassFile.FieldType)).before args0 about1 = true := code_word (m := ⟨9, 9⟩) (meth := k9m9) (c := k9c9) (by decide +kernel) rfl rfl rfl (by decide +kernel)
set_option maxRecDepth 65536 in
theorem w_c12 : (Jvm.Cond.code ({ cls := "com/example/boxwood/boxwood/XmlNodeTable", name := "addText", desc := "(Ljava/lang/String;II)V" } : Jvm.MethodName) prog_60_method_8_code (5 : Nat) (Option.none : Option Jvm.ClassFile.FieldType)).before args0 about1 = true := code_word (m := ⟨9, 4⟩) (meth := k9m4) (c := k9c4) (by decide +kernel) rfl rfl rfl (by decide +kernel)
set_option maxRecDepth 65536 in
theorem w_c13 : (Jvm.Cond.code ({ cls := "com/example/boxwood/boxwood/XmlNodeTable", name := "addVerbatim", desc := "(II)V" } : Jvm.MethodName) prog_60_method_9_code (3 : Nat) (Option.none : Option Jvm.ClassFile.FieldType)).before args0 about1 = true := code_word (m := ⟨9, 5⟩) (meth := k9m5) (c := k9c5) (by decide +kernel) rfl rfl rfl (by decide +kernel)
set_option maxRecDepth 65536 in
theorem w_c14 : (Jvm.Cond.code ({ cls := "com/example/boxwood/boxwood/XmlNodeTable", name := "passOver", desc := "(IZ)V" } : Jvm.MethodName) prog_60_method_6_code (3 : Nat) (Option.none : Option Jvm.ClassFile.FieldType)).before args0 about1 = true := code_word (m := ⟨9, 2⟩) (meth := k9m2) (c := k9c2) (by decide +kernel) rfl rfl rfl (by decide +kernel)
set_option maxRecDepth 65536 in
theorem w_c15 : (Jvm.Cond.code ({ cls := "com/example/boxwood/boxwood/XmlNodeTable", name := "get", desc := "(II)I" } : Jvm.MethodName) prog_60_method_26_code (3 : Nat) (Option.some Jvm.ClassFile.FieldType.int)).before args0 about1 = true := code_word (m := ⟨9, 8⟩) (meth := k9m8) (c := k9c8) (by decide +kernel) rfl rfl rfl (by decide +kernel)
set_option maxRecDepth 65536 in
theorem w_c16 : (Jvm.Cond.code ({ cls := "com/example/boxwood/boxwood/XmlNodeTable", name := "endElement", desc := "(III)V" } : Jvm.MethodName) prog_60_method_7_code (6 : Nat) (Option.none : Option Jvm.ClassFile.FieldType)).before args0 about1 = true := code_word (m := ⟨9, 3⟩) (meth := k9m3) (c := k9c3) (by decide +kernel) rfl rfl rfl (by decide +kernel)
set_option maxRecDepth 65536 in
theorem w_c17 : (Jvm.Cond.code ({ cls := "com/example/boxwood/boxwood/XmlNodeTable", name := "name", desc := "(I)Ljava/lang/String;" } : Jvm.MethodName) prog_60_method_18_code (2 : Nat) (Option.some (Jvm.ClassFile.FieldType.object "java/lang/String"))).before args0 about1 = true := code_word (m := ⟨9, 6⟩) (meth := k9m6) (c := k9c6) (by decide +kernel) rfl rfl rfl (by decide +kernel)
set_option maxRecDepth 65536 in
theorem w_c18 : (Jvm.Cond.code ({ cls := "java/lang/String", name := "equals", desc := "(Ljava/lang/Object;)Z" } : Jvm.MethodName) jdk_42_method_66_code (3 : Nat) (Option.some Jvm.ClassFile.FieldType.boolean)).before args0 about1 = true := code_word (m := ⟨7, 2⟩) (meth := k7m2) (c := k7c2) (by decide +kernel) rfl rfl rfl (by decide +kernel)
def codes1 : List Jvm.Cond := [Jvm.Cond.code x code maxLocals ret, Jvm.Cond.code ({ cls := "com/example/boxwood/boxwood/XmlNodeTableNamePinLaw", name := "draw", desc := "(I)Ljava/lang/String;" } : Jvm.MethodName) method_2_code (2 : Nat) (Option.some (Jvm.ClassFile.FieldType.object "java/lang/String")), Jvm.Cond.code ({ cls := "java/lang/String", name := "<init>", desc := "([C)V" } : Jvm.MethodName) jdk_42_method_3_code (2 : Nat) (Option.none : Option Jvm.ClassFile.FieldType), Jvm.Cond.code ({ cls := "java/lang/String", name := "<init>", desc := "([CIILjava/lang/Void;)V" } : Jvm.MethodName) jdk_42_method_149_code (6 : Nat) (Option.none : Option Jvm.ClassFile.FieldType), Jvm.Cond.code ({ cls := "java/lang/Object", name := "<init>", desc := "()V" } : Jvm.MethodName) object_method_1_code (1 : Nat) (Option.none : Option Jvm.ClassFile.FieldType), Jvm.Cond.code ({ cls := "java/lang/StringUTF16", name := "compress", desc := "([CII)[B" } : Jvm.MethodName) jdk_52_method_16_code (6 : Nat) (Option.some (Jvm.ClassFile.FieldType.array Jvm.ClassFile.FieldType.byte)), Jvm.Cond.code ({ cls := "java/lang/StringUTF16", name := "compress", desc := "([CI[BII)I" } : Jvm.MethodName) jdk_52_method_21_code (7 : Nat) (Option.some Jvm.ClassFile.FieldType.int), Jvm.Cond.code ({ cls := "java/lang/StringUTF16", name := "coderFromArrayLen", desc := "([BI)B" } : Jvm.MethodName) jdk_52_method_15_code (2 : Nat) (Option.some Jvm.ClassFile.FieldType.byte), Jvm.Cond.code ({ cls := "com/example/boxwood/boxwood/XmlNodeTable", name := "<init>", desc := "([B)V" } : Jvm.MethodName) prog_60_method_1_code (2 : Nat) (Option.none : Option Jvm.ClassFile.FieldType), Jvm.Cond.code ({ cls := "com/example/boxwood/boxwood/XmlNodeTable", name := "startElement", desc := "(Ljava/lang/String;II)I" } : Jvm.MethodName) prog_60_method_3_code (5 : Nat) (Option.some Jvm.ClassFile.FieldType.int), Jvm.Cond.code ({ cls := "com/example/boxwood/boxwood/XmlNodeTable", name := "add", desc := "(III)I" } : Jvm.MethodName) prog_60_method_24_code (7 : Nat) (Option.some Jvm.ClassFile.FieldType.int), Jvm.Cond.code ({ cls := "com/example/boxwood/boxwood/XmlNodeTable", name := "set", desc := "(III)V" } : Jvm.MethodName) prog_60_method_27_code (4 : Nat) (Option.none : Option Jvm.ClassFile.FieldType), Jvm.Cond.code ({ cls := "com/example/boxwood/boxwood/XmlNodeTable", name := "addText", desc := "(Ljava/lang/String;II)V" } : Jvm.MethodName) prog_60_method_8_code (5 : Nat) (Option.none : Option Jvm.ClassFile.FieldType), Jvm.Cond.code ({ cls := "com/example/boxwood/boxwood/XmlNodeTable", name := "addVerbatim", desc := "(II)V" } : Jvm.MethodName) prog_60_method_9_code (3 : Nat) (Option.none : Option Jvm.ClassFile.FieldType), Jvm.Cond.code ({ cls := "com/example/boxwood/boxwood/XmlNodeTable", name := "passOver", desc := "(IZ)V" } : Jvm.MethodName) prog_60_method_6_code (3 : Nat) (Option.none : Option Jvm.ClassFile.FieldType), Jvm.Cond.code ({ cls := "com/example/boxwood/boxwood/XmlNodeTable", name := "get", desc := "(II)I" } : Jvm.MethodName) prog_60_method_26_code (3 : Nat) (Option.some Jvm.ClassFile.FieldType.int), Jvm.Cond.code ({ cls := "com/example/boxwood/boxwood/XmlNodeTable", name := "endElement", desc := "(III)V" } : Jvm.MethodName) prog_60_method_7_code (6 : Nat) (Option.none : Option Jvm.ClassFile.FieldType), Jvm.Cond.code ({ cls := "com/example/boxwood/boxwood/XmlNodeTable", name := "name", desc := "(I)Ljava/lang/String;" } : Jvm.MethodName) prog_60_method_18_code (2 : Nat) (Option.some (Jvm.ClassFile.FieldType.object "java/lang/String")), Jvm.Cond.code ({ cls := "java/lang/String", name := "equals", desc := "(Ljava/lang/Object;)Z" } : Jvm.MethodName) jdk_42_method_66_code (3 : Nat) (Option.some Jvm.ClassFile.FieldType.boolean)]
set_option maxRecDepth 65536 in
theorem codes_eq : words1.filter isCode = codes1 := rfl
theorem w_codes : ∀ c ∈ words1.filter isCode, c.before args0 about1 = true := by
  rw [codes_eq]
  intro c hc
  simp only [codes1, List.mem_cons, List.not_mem_nil, or_false] at hc
  rcases hc with rfl | rfl | rfl | rfl | rfl | rfl | rfl | rfl | rfl | rfl | rfl | rfl | rfl | rfl | rfl | rfl | rfl | rfl | rfl
  · exact w_c0
  · exact w_c1
  · exact w_c2
  · exact w_c3
  · exact w_c4
  · exact w_c5
  · exact w_c6
  · exact w_c7
  · exact w_c8
  · exact w_c9
  · exact w_c10
  · exact w_c11
  · exact w_c12
  · exact w_c13
  · exact w_c14
  · exact w_c15
  · exact w_c16
  · exact w_c17
  · exact w_c18
set_option maxRecDepth 65536 in
theorem w_t1 : (words1.take 24).all (fun c => isCode c || c.before args0 about1) = true := by decide +kernel
set_option maxRecDepth 65536 in
theorem w_t2 : ((words1.drop 24).take 24).all (fun c => isCode c || c.before args0 about1) = true := by decide +kernel
set_option maxRecDepth 65536 in
theorem w_t3 : (((words1.drop 24).drop 24).take 24).all (fun c => isCode c || c.before args0 about1) = true := by decide +kernel
set_option maxRecDepth 65536 in
theorem w_t4 : ((((words1.drop 24).drop 24).drop 24).take 24).all (fun c => isCode c || c.before args0 about1) = true := by decide +kernel
set_option maxRecDepth 65536 in
theorem w_t5 : ((((words1.drop 24).drop 24).drop 24).drop 24).all (fun c => isCode c || c.before args0 about1) = true := by decide +kernel
theorem w_tables : (allAtoms (Jvm.Cond.code x code maxLocals ret :: tables_1)).before args0 about1 = true := by
  rw [allAtoms_all]
  show words1.all (fun c => c.before args0 about1) = true
  refine all_split ?_ w_codes
  rw [← List.take_append_drop 24 words1, List.all_append, w_t1, ← List.take_append_drop 24 (words1.drop 24), List.all_append, w_t2, ← List.take_append_drop 24 ((words1.drop 24).drop 24), List.all_append, w_t3, ← List.take_append_drop 24 (((words1.drop 24).drop 24).drop 24), List.all_append, w_t4, w_t5]
  rfl
set_option maxRecDepth 65536 in
theorem w_rest : rest_1_c.before args0 about1 = true := by decide +kernel
set_option maxRecDepth 65536 in
theorem w_case : (Jvm.Cond.and given_1 narrow_1).before args0 about1 = true := by decide +kernel
theorem w_applies : (headSpec (Jvm.Cond.code x code maxLocals ret :: tables_1) room_1).applies x e0.platform about1 = true :=
  (Spec.applies_iff w_frames).mpr ⟨w_running, w_runnable, w_alone, w_named, w_hears, w_ripe, w_room, w_tables⟩
theorem atStart : AtStart classFile x code maxLocals ret World_1 tables_1 room_1 Calls_1 rest_1 Pre_1 launch0 p0 e0 about1 theMethod args0 below0 :=
  ⟨lists_1, trivial, launch0.admits_env _ _ _, launch0.least_env, fairChoices_fair.cas, fairChoices_fair.clock, w_frames, w_args, w_heap, w_applies, trivial, w_rest, w_case⟩
end start1
theorem witness_1 : WitnessClaimed_1 := ⟨start1.p0, start1.e0, start1.about1, start1.theMethod, start1.args0, start1.below0, start1.atStart⟩
end Jvm.Pilot.@@N@@
