import JvmDerived
import JvmDerived.Pilot.@@N@@Statement
import JvmDerived.Pilot.@@N@@Code
set_option linter.unusedVariables false
set_option linter.unusedSimpArgs false
/- laws to paste: Road.backV (cut by pick.py; bodies as the Statement names them) -/
namespace Jvm.Pilot.@@N@@
namespace StrChars
open Jvm Sem ClassFile Op Lib Jvm.Stand Jvm.Free.XT Jvm.Free.ALB Jvm.Free.JM Jvm.Free
open Jvm.Lib.Cold (StaticIs)
/-- a char array whose places are chars -/
def Ch (a : Addr) (A : Cell) (U : State) : Prop := Arr .char a A U ∧ Typed .char A
theorem Ch.mv {a : Addr} {A : Cell} {U U' : State} (h : Ch a A U) (hal : U.vm.Alike U'.vm) (hh : U'.heap = U.heap) : Ch a A U' := ⟨h.1.mv hal hh, h.2⟩
theorem Ch.keep {a : Addr} {A : Cell} {U U' : State} (h : Ch a A U) (hal : U.vm.Alike U'.vm) (hk : U'.heap[a]? = some A) : Ch a A U' := ⟨h.1.keep hal hk, h.2⟩
/-- what place i of a char[]'s cell holds -/
def cv (A : Cell) (i : Nat) : Int32 := match A.slots[i]? with | some (.int x) => x | _ => 0
theorem Ch.get {a : Addr} {A : Cell} {U : State} (h : Ch a A U) {i : Nat} (hi : i < A.slots.size) : A.slots[i]? = some (.int (cv A i)) := by
  have e := Array.getElem?_eq_getElem hi
  have f := h.2 i _ e
  unfold cv; rw [e]
  generalize A.slots[i] = v at f
  cases v <;> simp [fits] at f ⊢
/-- the byte that i2b leaves of a char -/
def lo8 (x : Int32) : Int32 := x.toInt8.toInt32
theorem fits_lo8 (y : Int32) : fits .byte (.int (lo8 y)) = true := by
  have h1 := y.toInt8.le_toInt
  have h2 := y.toInt8.toInt_lt
  simp only [lo8, fits, Bool.and_eq_true, decide_eq_true_eq, Int32.le_iff_toInt_le, Int8.toInt_toInt32, show (-128 : Int32).toInt = -128 from by decide, show (127 : Int32).toInt = 127 from by decide]
  omega
/-- A' is A but that each place j of lo .. hi - 1 holds f j -/
def Laid (A A' : Cell) (lo hi : Nat) (f : Nat → Value) : Prop := A'.cls = A.cls ∧ A'.vm = A.vm ∧ A'.slots.size = A.slots.size ∧ ∀ i, A'.slots[i]? = if lo ≤ i ∧ i < hi then some (f i) else A.slots[i]?
theorem Laid.zero (A : Cell) (lo : Nat) (f : Nat → Value) : Laid A A lo (lo + 0) f := ⟨rfl, rfl, rfl, fun i => by rw [if_neg (by omega)]⟩
theorem Laid.step {A Ak : Cell} {lo k : Nat} {f : Nat → Value} {v : Value} (h : Laid A Ak lo k f) (hlo : lo ≤ k) (hk : k < Ak.slots.size) (hv : v = f k) : Laid A (Ak.setSlot k v) lo (k + 1) f := by
  refine ⟨h.1, h.2.1, by simpa [Cell.setSlot] using h.2.2.1, fun i => ?_⟩
  by_cases e : k = i
  · subst e; rw [Cell.slots_setSlot_self v hk, if_pos (by omega), hv]
  · rw [Cell.slots_setSlot_ne v e, h.2.2.2 i]
    by_cases q : lo ≤ i ∧ i < k
    · rw [if_pos q, if_pos (by omega)]
    · rw [if_neg q, if_neg (by omega)]
def U16 : String := "java/lang/StringUTF16"
namespace Cmp5
def yN : MethodName := ⟨"java/lang/StringUTF16", "compress", "([CI[BII)I"⟩
abbrev yB : ByteArray := jdk_52_method_21_code
theorem d0 : decode yB 0 = .ok (.iconst 0, 1) := by decide +kernel
theorem d1 : decode yB 1 = .ok (.istore 5, 2) := by decide +kernel
theorem d3 : decode yB 3 = .ok (.iload 5, 2) := by decide +kernel
theorem d5 : decode yB 5 = .ok (.iload 4, 2) := by decide +kernel
theorem d7 : decode yB 7 = .ok (.if_icmp (.ge) 37, 3) := by decide +kernel
theorem d10 : decode yB 10 = .ok (.aload_n 0, 1) := by decide +kernel
theorem d11 : decode yB 11 = .ok (.iload_n 1, 1) := by decide +kernel
theorem d12 : decode yB 12 = .ok (.caload, 1) := by decide +kernel
theorem d13 : decode yB 13 = .ok (.istore 6, 2) := by decide +kernel
theorem d15 : decode yB 15 = .ok (.iload 6, 2) := by decide +kernel
theorem d17 : decode yB 17 = .ok (.sipush 255, 3) := by decide +kernel
theorem d20 : decode yB 20 = .ok (.if_icmp (.le) 6, 3) := by decide +kernel
theorem d26 : decode yB 26 = .ok (.aload_n 2, 1) := by decide +kernel
theorem d27 : decode yB 27 = .ok (.iload_n 3, 1) := by decide +kernel
theorem d28 : decode yB 28 = .ok (.iload 6, 2) := by decide +kernel
theorem d30 : decode yB 30 = .ok (.i2b, 1) := by decide +kernel
theorem d31 : decode yB 31 = .ok (.bastore, 1) := by decide +kernel
theorem d32 : decode yB 32 = .ok (.iinc 1 1, 3) := by decide +kernel
theorem d35 : decode yB 35 = .ok (.iinc 3 1, 3) := by decide +kernel
theorem d38 : decode yB 38 = .ok (.iinc 5 1, 3) := by decide +kernel
theorem d41 : decode yB 41 = .ok (.goto (-38), 3) := by decide +kernel
theorem d44 : decode yB 44 = .ok (.iload 4, 2) := by decide +kernel
theorem d46 : decode yB 46 = .ok (.ireturn, 1) := by decide +kernel
def site : List Cond := []
def tab : Cond := tabOf yN yB 7 (some .int) site
def P (b : Addr) (A : Cell) (d : Addr) (B : Cell) (o q len : Nat) (args : Array Value) (s : State) : Prop := args = #[.ref b, .int (Int32.ofNat o), .ref d, .int (Int32.ofNat q), .int (Int32.ofNat len)] ∧ Ch b A s ∧ Arr .byte d B s ∧ b ≠ d ∧ o + len ≤ A.slots.size ∧ q + len ≤ B.slots.size ∧ ∀ i, i < len → ¬ 255 < cv A (o + i)
def E (b : Addr) (A : Cell) (d : Addr) (B : Cell) (o q len : Nat) (r : Option Value) (s u : State) : Prop := r = some (.int (Int32.ofNat len)) ∧ ∃ B', Put d B' s u ∧ Laid B B' q (q + len) (fun j => Value.int (lo8 (cv A (o + (j - q)))))
/-- no char of the range above 255: len; the places written hold each char's low byte -/
theorem law (l : Launch) (b : Addr) (A : Cell) (d : Addr) (B : Cell) (o q len : Nat) : Law l yN 5 5 0 0 yB 7 (some .int) site (P b A d B o q len) (E b A d B o q len) (copyLocs d q len) 0 0 := by
  refine Law.of_walk (plainFor_of_name (by decide +kernel)) (by decide +kernel) (by decide +kernel) (by decide) (fun _ _ h => by rw [h.1]; rfl) (fun _ U U' hal hh h => ⟨h.1, h.2.1.mv hal hh, h.2.2.1.mv hal hh, h.2.2.2⟩) (fun r U U' V V' h1 hal h2 h => ⟨h.1, h.2.elim fun B' q => ⟨B', q.1.mv h1 h2, q.2⟩⟩) ?_
  intro p e s m args below meth c s₁ X0 hexec hbytes hml hret hlk hnm hown hh0 W hP
  obtain ⟨rfl, hA, hB, hne, l1, l2, hp⟩ := hP
  have c1 : Steps p.tables e below (s₁.setTop (entryFrame m #[.ref b, .int (Int32.ofNat o), .ref d, .int (Int32.ofNat q), .int (Int32.ofNat len)] 7)) (s₁.setTop (mkF m 0 #[.val (.ref b), .val (.int (Int32.ofNat o)), .val (.ref d), .val (.int (Int32.ofNat q)), .val (.int (Int32.ofNat len)), .unset, .unset] [])) := entry rfl
  have hA0 := hA.1.mv X0.warmed.alike hh0
  have hB0 := hB.mv X0.warmed.alike hh0
  have a31 := hA.1.2.2.2
  have c2 : Steps p.tables e below (s₁.setTop (entryFrame m #[.ref b, .int (Int32.ofNat o), .ref d, .int (Int32.ofNat q), .int (Int32.ofNat len)] 7)) (s₁.setTop (mkF m 3 #[.val (.ref b), .val (.int (Int32.ofNat o)), .val (.ref d), .val (.int (Int32.ofNat q)), .val (.int (Int32.ofNat len)), .val (.int 0), .unset] [])) := c1.trans (by
    refine iconstV X0.here hexec rfl 0 (hb hbytes d0) (by decide) ?_
    refine XS.istore X0.here hexec rfl (hb hbytes d1) rfl rfl ?_
    exact Steps.refl _)
  have loop : ∀ (r i : Nat), i + r = len → ∀ (z : Slot), (z = .unset ∨ ∃ w, z = .val w ∧ w.category = 1) → ∀ (Tl : State) (Bk : Cell), Stand p l e { frames := 0, locals := 0, cells := 0, slots := 0 } s m #[.ref b, .int (Int32.ofNat o), .ref d, .int (Int32.ofNat q), .int (Int32.ofNat len)] below meth c Tl ([] ++ copyLocs d q i) 0 0 → Put d Bk s₁ Tl → Laid B Bk q (q + i) (fun j => Value.int (lo8 (cv A (o + (j - q))))) →
      Steps p.tables e below (s₁.setTop (entryFrame m #[.ref b, .int (Int32.ofNat o), .ref d, .int (Int32.ofNat q), .int (Int32.ofNat len)] 7)) (Tl.setTop (mkF m 3 #[.val (.ref b), .val (.int (Int32.ofNat (o + i))), .val (.ref d), .val (.int (Int32.ofNat (q + i))), .val (.int (Int32.ofNat len)), .val (.int (Int32.ofNat i)), z] [])) → ∃ (T' : State) (B' : Cell) (z' : Slot), Stand p l e { frames := 0, locals := 0, cells := 0, slots := 0 } s m #[.ref b, .int (Int32.ofNat o), .ref d, .int (Int32.ofNat q), .int (Int32.ofNat len)] below meth c T' ([] ++ copyLocs d q len) 0 0 ∧ Put d B' s₁ T' ∧ Laid B B' q (q + len) (fun j => Value.int (lo8 (cv A (o + (j - q))))) ∧
      Steps p.tables e below (s₁.setTop (entryFrame m #[.ref b, .int (Int32.ofNat o), .ref d, .int (Int32.ofNat q), .int (Int32.ofNat len)] 7)) (T'.setTop (mkF m 3 #[.val (.ref b), .val (.int (Int32.ofNat (o + len))), .val (.ref d), .val (.int (Int32.ofNat (q + len))), .val (.int (Int32.ofNat len)), .val (.int (Int32.ofNat len)), z'] [])) := by
    intro r
    induction r with
    | zero =>
      intro i hi z hz Tl Bk Xl pl fl cl
      have hil : i = len := by omega
      rw [hil] at Xl fl cl
      exact ⟨Tl, Bk, z, Xl, pl, fl, cl⟩
    | succ r ih =>
      intro i hi z hz Tl Bk Xl pl fl cl
      have all := X0.warmed.alike.symm.trans Xl.warmed.alike
      have hAl := hA0.keep all (pl.other hne hA0.1)
      have hBk := hB0.like all pl.1 fl.1 fl.2.1 fl.2.2.1
      have hlt : q + i < Bk.slots.size := by rw [fl.2.2.1]; omega
      have c3 : Steps p.tables e below (s₁.setTop (entryFrame m #[.ref b, .int (Int32.ofNat o), .ref d, .int (Int32.ofNat q), .int (Int32.ofNat len)] 7)) (Tl.setTop (mkF m 12 #[.val (.ref b), .val (.int (Int32.ofNat (o + i))), .val (.ref d), .val (.int (Int32.ofNat (q + i))), .val (.int (Int32.ofNat len)), .val (.int (Int32.ofNat i)), z] [.int (Int32.ofNat (o + i)), .ref b])) := cl.trans (by
        refine XS.iload Xl.here hexec rfl (hb hbytes d3) rfl ?_
        refine XS.iload Xl.here hexec rfl (hb hbytes d5) rfl ?_
        refine XS.icmpNo Xl.here hexec rfl (hb hbytes d7) rfl (ii_ge_f (lt32 (by omega) (by omega))) ?_
        refine XS.aloadN Xl.here hexec rfl (hb hbytes d10) rfl rfl ?_
        refine XS.iloadN Xl.here hexec rfl (hb hbytes d11) rfl ?_
        exact Steps.refl _)
      have c4 : Steps p.tables e below (s₁.setTop (entryFrame m #[.ref b, .int (Int32.ofNat o), .ref d, .int (Int32.ofNat q), .int (Int32.ofNat len)] 7)) (Tl.setTop (mkF m 13 #[.val (.ref b), .val (.int (Int32.ofNat (o + i))), .val (.ref d), .val (.int (Int32.ofNat (q + i))), .val (.int (Int32.ofNat len)), .val (.int (Int32.ofNat i)), z] [.int (cv A (o + i))])) := c3.trans (by
        refine Xl.aget hexec hAl rfl (hA.get (i := o + i) (by omega)) rfl rfl (hb hbytes d12) ?_
        exact Steps.refl _)
      have c5 : Steps p.tables e below (s₁.setTop (entryFrame m #[.ref b, .int (Int32.ofNat o), .ref d, .int (Int32.ofNat q), .int (Int32.ofNat len)] 7)) (Tl.setTop (mkF m 15 #[.val (.ref b), .val (.int (Int32.ofNat (o + i))), .val (.ref d), .val (.int (Int32.ofNat (q + i))), .val (.int (Int32.ofNat len)), .val (.int (Int32.ofNat i)), .val (.int (cv A (o + i)))] [])) := c4.trans (by
        refine XS.istoreS Xl.here hexec rfl (hb hbytes d13) rfl rfl hz ?_
        exact Steps.refl _)
      have c6 : Steps p.tables e below (s₁.setTop (entryFrame m #[.ref b, .int (Int32.ofNat o), .ref d, .int (Int32.ofNat q), .int (Int32.ofNat len)] 7)) (Tl.setTop (mkF m 31 #[.val (.ref b), .val (.int (Int32.ofNat (o + i))), .val (.ref d), .val (.int (Int32.ofNat (q + i))), .val (.int (Int32.ofNat len)), .val (.int (Int32.ofNat i)), .val (.int (cv A (o + i)))] [.int (lo8 (cv A (o + i))), .int (Int32.ofNat (q + i)), .ref d])) := c5.trans (by
        refine XS.iload Xl.here hexec rfl (hb hbytes d15) rfl ?_
        refine sipushV Xl.here hexec rfl 255 (hb hbytes d17) (by decide) ?_
        refine XS.icmpYes Xl.here hexec rfl (pc0 := 20) rfl (hb hbytes d20) rfl (ii_le_t (hp i (by omega))) (by decide) rfl ?_
        refine XS.aloadN Xl.here hexec rfl (hb hbytes d26) rfl rfl ?_
        refine XS.iloadN Xl.here hexec rfl (hb hbytes d27) rfl ?_
        refine XS.iload Xl.here hexec rfl (hb hbytes d28) rfl ?_
        refine i2b Xl.here hexec rfl (hb hbytes d30) rfl ?_
        exact Steps.refl _)
      obtain ⟨T7, X7, p7, st7⟩ := Xl.aput hexec hBk rfl hlt rfl (fits_lo8 (cv A (o + i))) (g := (mkF m 31 #[.val (.ref b), .val (.int (Int32.ofNat (o + i))), .val (.ref d), .val (.int (Int32.ofNat (q + i))), .val (.int (Int32.ofNat len)), .val (.int (Int32.ofNat i)), .val (.int (cv A (o + i)))] [.int (lo8 (cv A (o + i))), .int (Int32.ofNat (q + i)), .ref d])) rfl (rest := []) rfl (hb hbytes d31)
      have c8 : Steps p.tables e below (s₁.setTop (entryFrame m #[.ref b, .int (Int32.ofNat o), .ref d, .int (Int32.ofNat q), .int (Int32.ofNat len)] 7)) (T7.setTop (mkF m 32 #[.val (.ref b), .val (.int (Int32.ofNat (o + i))), .val (.ref d), .val (.int (Int32.ofNat (q + i))), .val (.int (Int32.ofNat len)), .val (.int (Int32.ofNat i)), .val (.int (cv A (o + i)))] [])) := c6.trans (st7 _ (Steps.refl _))
      have c9 : Steps p.tables e below (s₁.setTop (entryFrame m #[.ref b, .int (Int32.ofNat o), .ref d, .int (Int32.ofNat q), .int (Int32.ofNat len)] 7)) (T7.setTop (mkF m 3 #[.val (.ref b), .val (.int (Int32.ofNat (o + i) + 1)), .val (.ref d), .val (.int (Int32.ofNat (q + i) + 1)), .val (.int (Int32.ofNat len)), .val (.int (Int32.ofNat i + 1)), .val (.int (cv A (o + i)))] [])) := c8.trans (by
        refine iincV X7.here hexec rfl 1 (hb hbytes d32) (by decide) rfl rfl ?_
        refine iincV X7.here hexec rfl 1 (hb hbytes d35) (by decide) rfl rfl ?_
        refine iincV X7.here hexec rfl 1 (hb hbytes d38) (by decide) rfl rfl ?_
        refine XS.goto X7.here hexec rfl (pc0 := 41) rfl (hb hbytes d41) (by decide) rfl ?_
        exact Steps.refl _)
      have c10 : Steps p.tables e below (s₁.setTop (entryFrame m #[.ref b, .int (Int32.ofNat o), .ref d, .int (Int32.ofNat q), .int (Int32.ofNat len)] 7)) (T7.setTop (mkF m 3 #[.val (.ref b), .val (.int (Int32.ofNat (o + (i + 1)))), .val (.ref d), .val (.int (Int32.ofNat (q + (i + 1)))), .val (.int (Int32.ofNat len)), .val (.int (Int32.ofNat (i + 1))), .val (.int (cv A (o + i)))] [])) := by
        have := c9
        rw [succ32, succ32, succ32] at this
        exact this
      exact ih (i + 1) (by omega) _ (Or.inr ⟨_, rfl, rfl⟩) T7 _ (by rw [copyLocs_step, ← List.append_assoc]; exact X7) (pl.trans p7) (fl.step (by omega) hlt (by simp)) c10
  obtain ⟨T9, B9, z9, X9, p9, f9, g9⟩ := loop len 0 (by omega) .unset (Or.inl rfl) s₁ B (by simpa [copyLocs] using X0) ⟨hB0.1, fun _ _ => rfl, rfl⟩ (Laid.zero _ _ _) c2
  have c11 : Steps p.tables e below (s₁.setTop (entryFrame m #[.ref b, .int (Int32.ofNat o), .ref d, .int (Int32.ofNat q), .int (Int32.ofNat len)] 7)) (T9.setTop (mkF m 46 #[.val (.ref b), .val (.int (Int32.ofNat (o + len))), .val (.ref d), .val (.int (Int32.ofNat (q + len))), .val (.int (Int32.ofNat len)), .val (.int (Int32.ofNat len)), z9] [.int (Int32.ofNat len)])) := g9.trans (by
    refine XS.iload X9.here hexec rfl (hb hbytes d3) rfl ?_
    refine XS.iload X9.here hexec rfl (hb hbytes d5) rfl ?_
    refine XS.icmpYes X9.here hexec rfl (pc0 := 7) rfl (hb hbytes d7) rfl (ii_ge_t (nlt32 (by omega) (Nat.le_refl _))) (by decide) rfl ?_
    refine XS.iload X9.here hexec rfl (hb hbytes d44) rfl ?_
    exact Steps.refl _)
  exact ⟨T9, some (.int (Int32.ofNat len)), _, _, _, X9, by simp, rfl, rfl, (fun h => by cases h), ⟨rfl, B9, p9.from hh0, f9⟩, fun fs hl => c11.trans (X9.ireturnOut hexec hret rfl (Or.inl rfl) (hb hbytes d46) hl)⟩
end Cmp5
namespace Cmp3
def yN : MethodName := ⟨"java/lang/StringUTF16", "compress", "([CII)[B"⟩
abbrev yB : ByteArray := jdk_52_method_16_code
theorem d0 : decode yB 0 = .ok (.iload_n 2, 1) := by decide +kernel
theorem d1 : decode yB 1 = .ok (.newarray .byte, 2) := by decide +kernel
theorem d3 : decode yB 3 = .ok (.astore_n 3, 1) := by decide +kernel
theorem d4 : decode yB 4 = .ok (.aload_n 0, 1) := by decide +kernel
theorem d5 : decode yB 5 = .ok (.iload_n 1, 1) := by decide +kernel
theorem d6 : decode yB 6 = .ok (.aload_n 3, 1) := by decide +kernel
theorem d7 : decode yB 7 = .ok (.iconst 0, 1) := by decide +kernel
theorem d8 : decode yB 8 = .ok (.iload_n 2, 1) := by decide +kernel
theorem d9 : decode yB 9 = .ok (.invokestatic 115, 3) := by decide +kernel
theorem d12 : decode yB 12 = .ok (.istore 4, 2) := by decide +kernel
theorem d14 : decode yB 14 = .ok (.iload 4, 2) := by decide +kernel
theorem d16 : decode yB 16 = .ok (.iload_n 2, 1) := by decide +kernel
theorem d17 : decode yB 17 = .ok (.if_icmp (.eq) 40, 3) := by decide +kernel
theorem d57 : decode yB 57 = .ok (.aload_n 3, 1) := by decide +kernel
theorem d58 : decode yB 58 = .ok (.areturn, 1) := by decide +kernel
def site : List Cond := [.arrayClass .byte, Cmp5.tab] ++ staticW U16 115 Cmp5.yN
def tab : Cond := tabOf yN yB 6 (some (.array .byte)) site
def P (b : Addr) (A : Cell) (o len : Nat) (args : Array Value) (s : State) : Prop := args = #[.ref b, .int (Int32.ofNat o), .int (Int32.ofNat len)] ∧ Ch b A s ∧ o + len ≤ A.slots.size ∧ len ≤ 536870912 ∧ ∀ i, i < len → ¬ 255 < cv A (o + i)
def E (b : Addr) (A : Cell) (o len : Nat) (r : Option Value) (s u : State) : Prop := NewArr .byte "[B" len (fun j => .int (lo8 (cv A (o + j)))) r s u ∧ u.heap.size = s.heap.size + 1
/-- no char of the range above 255: a new byte[] of their low bytes -/
theorem law (l : Launch) (b : Addr) (A : Cell) (o len : Nat) : Law l yN 3 3 1 18 yB 6 (some (.array .byte)) site (P b A o len) (E b A o len) [] 1 len := by
  refine Law.of_walk (plainFor_of_name (by decide +kernel)) (by decide +kernel) (by decide +kernel) (by decide) (fun _ _ h => by rw [h.1]; rfl) (fun _ U U' hal hh h => ⟨h.1, h.2.1.mv hal hh, h.2.2⟩) (fun r U U' V V' h1 hal h2 h => ⟨NewArr.mv r U U' V V' h1 hal h2 h.1, by rw [h1, h2]; exact h.2⟩) ?_
  intro p e s m args below meth c s₁ X0 hexec hbytes hml hret hlk hnm hown hh0 W hP
  obtain ⟨rfl, hA, l1, l2, hp⟩ := hP
  have a31 := hA.1.2.2.2
  have c1 : Steps p.tables e below (s₁.setTop (entryFrame m #[.ref b, .int (Int32.ofNat o), .int (Int32.ofNat len)] 6)) (s₁.setTop (mkF m 0 #[.val (.ref b), .val (.int (Int32.ofNat o)), .val (.int (Int32.ofNat len)), .unset, .unset, .unset] [])) := entry rfl
  have c2 : Steps p.tables e below (s₁.setTop (entryFrame m #[.ref b, .int (Int32.ofNat o), .int (Int32.ofNat len)] 6)) (s₁.setTop (mkF m 1 #[.val (.ref b), .val (.int (Int32.ofNat o)), .val (.int (Int32.ofNat len)), .unset, .unset, .unset] [.int (Int32.ofNat len)])) := c1.trans (by
    refine XS.iloadN X0.here hexec rfl (hb hbytes d0) rfl ?_
    exact Steps.refl _)
  obtain ⟨T3, B3, X3, ba3, bs3, bv3, bh3, bf3, st3⟩ := X0.anew hexec (atype := .byte) (wk W (.arrayClass .byte)) rfl (by show len * 1 ≤ _; omega) (by omega) (g := (mkF m 1 #[.val (.ref b), .val (.int (Int32.ofNat o)), .val (.int (Int32.ofNat len)), .unset, .unset, .unset] [.int (Int32.ofNat len)])) rfl (hb hbytes d1) (rest := []) rfl (Nat.le_refl _) (by show 0 + len ≤ len; omega)
  rw [hh0] at ba3 st3
  have kp3 : XT.Kept s T3 := (XT.Kept.of_eq hh0).push bh3
  have hA3 := hA.keep X3.warmed.alike (kp3 _ _ hA.1.1)
  have hne : b ≠ s.heap.size := hA.1.ne
  have c4 : Steps p.tables e below (s₁.setTop (entryFrame m #[.ref b, .int (Int32.ofNat o), .int (Int32.ofNat len)] 6)) (T3.setTop (mkF m 3 #[.val (.ref b), .val (.int (Int32.ofNat o)), .val (.int (Int32.ofNat len)), .unset, .unset, .unset] [.ref s.heap.size])) := c2.trans (st3 _ (Steps.refl _))
  have c5 : Steps p.tables e below (s₁.setTop (entryFrame m #[.ref b, .int (Int32.ofNat o), .int (Int32.ofNat len)] 6)) (T3.setTop (mkF m 9 #[.val (.ref b), .val (.int (Int32.ofNat o)), .val (.int (Int32.ofNat len)), .val (.ref s.heap.size), .unset, .unset] [.int (Int32.ofNat len), .int 0, .ref s.heap.size, .int (Int32.ofNat o), .ref b])) := c4.trans (by
    refine XS.astoreN X3.here hexec rfl (hb hbytes d3) rfl rfl rfl ?_
    refine XS.aloadN X3.here hexec rfl (hb hbytes d4) rfl rfl ?_
    refine XS.iloadN X3.here hexec rfl (hb hbytes d5) rfl ?_
    refine XS.aloadN X3.here hexec rfl (hb hbytes d6) rfl rfl ?_
    refine iconstV X3.here hexec rfl 0 (hb hbytes d7) (by decide) ?_
    refine XS.iloadN X3.here hexec rfl (hb hbytes d8) rfl ?_
    exact Steps.refl _)
  obtain ⟨v6, T6, X6, E6, g6⟩ := X3.callS hexec (Cmp5.law l b A s.heap.size B3 o 0 len) hown (wks W (staticW U16 115 Cmp5.yN)) (wk W Cmp5.tab) (W := 0) (Nat.le_of_ble_eq_true rfl) (Nat.le_of_ble_eq_true rfl) (Nat.le_refl _) (by show 0 + len + 0 ≤ len; omega) (g := (mkF m 9 #[.val (.ref b), .val (.int (Int32.ofNat o)), .val (.int (Int32.ofNat len)), .val (.ref s.heap.size), .unset, .unset] [.int (Int32.ofNat len), .int (Int32.ofNat 0), .ref s.heap.size, .int (Int32.ofNat o), .ref b])) rfl (by rw [hml]; rfl) c5 (argsL := [.ref b, .int (Int32.ofNat o), .ref s.heap.size, .int (Int32.ofNat 0), .int (Int32.ofNat len)]) (rest := []) rfl rfl (by show 2 * 0 + 0 ≤ _; decide) (hb hbytes d9) (⟨rfl, hA3, ba3, hne, l1, by rw [bs3]; simp, hp⟩)
  obtain ⟨rfl, B6, p6, f6⟩ := E6
  have c7 : Steps p.tables e below (s₁.setTop (entryFrame m #[.ref b, .int (Int32.ofNat o), .int (Int32.ofNat len)] 6)) (T6.setTop (mkF m 12 #[.val (.ref b), .val (.int (Int32.ofNat o)), .val (.int (Int32.ofNat len)), .val (.ref s.heap.size), .unset, .unset] [.int (Int32.ofNat len)])) := g6
  have c8 : Steps p.tables e below (s₁.setTop (entryFrame m #[.ref b, .int (Int32.ofNat o), .int (Int32.ofNat len)] 6)) (T6.setTop (mkF m 58 #[.val (.ref b), .val (.int (Int32.ofNat o)), .val (.int (Int32.ofNat len)), .val (.ref s.heap.size), .val (.int (Int32.ofNat len)), .unset] [.ref s.heap.size])) := c7.trans (by
    refine XS.istore X6.here hexec rfl (hb hbytes d12) rfl rfl ?_
    refine XS.iload X6.here hexec rfl (hb hbytes d14) rfl ?_
    refine XS.iloadN X6.here hexec rfl (hb hbytes d16) rfl ?_
    refine XS.icmpYes X6.here hexec rfl (pc0 := 17) rfl (hb hbytes d17) rfl (ii_eq_t rfl) (by decide) rfl ?_
    refine XS.aloadN X6.here hexec rfl (hb hbytes d57) rfl rfl ?_
    exact Steps.refl _)
  have X8 := X6.wide (L' := []) (cells' := 1) (slots' := len) (fun x hx hlt => by
    simp only [List.nil_append, copyLocs, List.mem_map, List.mem_range] at hx
    obtain ⟨i, -, rfl⟩ := hx
    exact absurd hlt (Nat.lt_irrefl _)) (Nat.le_refl _) (by omega)
  exact ⟨T6, some (.ref s.heap.size), _, _, _, X8, rfl, rfl, rfl, (fun h => by cases h), ⟨⟨rfl, B6, ba3.like (X3.warmed.alike.symm.trans X6.warmed.alike) p6.1 f6.1 f6.2.1 f6.2.2.1, f6.2.1.trans bv3, by rw [X6.warmed.alike.findClass, f6.1]; exact bf3, by rw [f6.2.2.1, bs3]; simp, fun j hj => by rw [f6.2.2.2 j, if_pos (by omega)]; rfl, kp3.put p6 (Nat.le_refl _)⟩, by rw [p6.2.2, bh3, hh0]; simp⟩, fun fs hl => c8.trans (X8.areturnOut hexec rfl hret rfl (hb hbytes d58) hl)⟩
end Cmp3
namespace CodL
def yN : MethodName := ⟨"java/lang/StringUTF16", "coderFromArrayLen", "([BI)B"⟩
abbrev yB : ByteArray := jdk_52_method_15_code
theorem d0 : decode yB 0 = .ok (.iload_n 1, 1) := by decide +kernel
theorem d1 : decode yB 1 = .ok (.aload_n 0, 1) := by decide +kernel
theorem d2 : decode yB 2 = .ok (.arraylength, 1) := by decide +kernel
theorem d3 : decode yB 3 = .ok (.isub, 1) := by decide +kernel
theorem d4 : decode yB 4 = .ok (.bipush 31, 2) := by decide +kernel
theorem d6 : decode yB 6 = .ok (.iushr, 1) := by decide +kernel
theorem d7 : decode yB 7 = .ok (.i2b, 1) := by decide +kernel
theorem d8 : decode yB 8 = .ok (.ireturn, 1) := by decide +kernel
def site : List Cond := []
def tab : Cond := tabOf yN yB 2 (some .byte) site
def P (d : Addr) (B : Cell) (args : Array Value) (s : State) : Prop := args = #[.ref d, .int (Int32.ofNat B.slots.size)] ∧ Arr .byte d B s
def E (r : Option Value) (s u : State) : Prop := XT.PureE (some (.int 0)) r s u
/-- an array as long as the number of chars: LATIN1 -/
theorem law (l : Launch) (d : Addr) (B : Cell) : Law l yN 2 2 0 0 yB 2 (some .byte) site (P d B) E [] 0 0 := by
  refine Law.of_walk (plainFor_of_name (by decide +kernel)) (by decide +kernel) (by decide +kernel) (by decide) (fun _ _ h => by rw [h.1]; rfl) (fun _ U U' hal hh h => ⟨h.1, h.2.mv hal hh⟩) (fun r U U' V V' h1 hal h2 h => XT.PureE.mv r U U' V V' h1 hal h2 h) ?_
  intro p e s m args below meth c s₁ X0 hexec hbytes hml hret hlk hnm hown hh0 W hP
  obtain ⟨rfl, hB⟩ := hP
  have hB0 := hB.mv X0.warmed.alike hh0
  have c1 : Steps p.tables e below (s₁.setTop (entryFrame m #[.ref d, .int (Int32.ofNat B.slots.size)] 2)) (s₁.setTop (mkF m 0 #[.val (.ref d), .val (.int (Int32.ofNat B.slots.size))] [])) := entry rfl
  have c2 : Steps p.tables e below (s₁.setTop (entryFrame m #[.ref d, .int (Int32.ofNat B.slots.size)] 2)) (s₁.setTop (mkF m 2 #[.val (.ref d), .val (.int (Int32.ofNat B.slots.size))] [.ref d, .int (Int32.ofNat B.slots.size)])) := c1.trans (by
    refine XS.iloadN X0.here hexec rfl (hb hbytes d0) rfl ?_
    refine XS.aloadN X0.here hexec rfl (hb hbytes d1) rfl rfl ?_
    exact Steps.refl _)
  have c3 : Steps p.tables e below (s₁.setTop (entryFrame m #[.ref d, .int (Int32.ofNat B.slots.size)] 2)) (s₁.setTop (mkF m 8 #[.val (.ref d), .val (.int (Int32.ofNat B.slots.size))] [.int (lo8 (ushr (Int32.ofNat B.slots.size - Int32.ofNat B.slots.size) 31))])) := c2.trans (by
    refine X0.alen hexec hB0 rfl rfl (hb hbytes d2) ?_
    refine XS.isub X0.here hexec rfl (hb hbytes d3) rfl ?_
    refine bipushV X0.here hexec rfl 31 (hb hbytes d4) (by decide) ?_
    refine iushr X0.here hexec rfl (hb hbytes d6) rfl ?_
    refine i2b X0.here hexec rfl (hb hbytes d7) rfl ?_
    exact Steps.refl _)
  have e0 : lo8 (ushr (Int32.ofNat B.slots.size - Int32.ofNat B.slots.size) 31) = 0 := by rw [Int32.sub_self]; decide
  rw [e0] at c3
  exact ⟨s₁, some (.int 0), _, _, _, X0, rfl, rfl, rfl, (fun h => by cases h), ⟨rfl, hh0⟩, fun fs hl => c3.trans (X0.ireturnOut hexec hret rfl (Or.inr (Or.inr (Or.inl rfl))) (hb hbytes d8) hl)⟩
end CodL
/-- the String at a is Latin-1 over a new byte[] (the heap's one new cell): the low bytes of the len chars of A from o on; every cell but a is kept -/
def Got (a : Addr) (D : Cell) (fV fC : Field) (A : Cell) (o len : Nat) (r : Option Value) (s u : State) : Prop := r = none ∧ ∃ D' V : Cell, Blank "java/lang/String" a D' u ∧ Same D D' [fV.slot, fC.slot] ∧ D'.slots[fV.slot]? = some (.ref s.heap.size) ∧ D'.slots[fC.slot]? = some (.int 0) ∧ Arr .byte s.heap.size V u ∧ V.vm = .none ∧ u.vm.findClass "[B" = some V.cls ∧ V.slots.size = len ∧ (∀ j, j < len → V.slots[j]? = some (.int (lo8 (cv A (o + j))))) ∧ (∀ (y : Addr) (c : Cell), y ≠ a → s.heap[y]? = some c → u.heap[y]? = some c) ∧ u.heap.size = s.heap.size + 1
theorem Got.mv {a : Addr} {D A : Cell} {fV fC : Field} {o len : Nat} : ∀ r (U U' V V' : State), U'.heap = U.heap → V.vm.Alike V'.vm → V'.heap = V.heap → Got a D fV fC A o len r U V → Got a D fV fC A o len r U' V' :=
  fun r U U' V V' h1 hal h2 ⟨e0, D', X, a1, a2, a3, a4, a5, a6, a7, a8, a9, a10, a11⟩ => ⟨e0, D', X, a1.mv hal h2, a2, by rw [h1]; exact a3, a4, by rw [h1]; exact a5.mv hal h2, a6, by rw [hal.findClass]; exact a7, a8, a9, by rw [h1, h2]; exact a10, by rw [h1, h2]; exact a11⟩
namespace New4
def yN : MethodName := ⟨"java/lang/String", "<init>", "([CIILjava/lang/Void;)V"⟩
abbrev yB : ByteArray := jdk_42_method_149_code
theorem d0 : decode yB 0 = .ok (.aload_n 0, 1) := by decide +kernel
theorem d1 : decode yB 1 = .ok (.invokespecial 1, 3) := by decide +kernel
theorem d4 : decode yB 4 = .ok (.iload_n 3, 1) := by decide +kernel
theorem d5 : decode yB 5 = .ok (.ifCond (.ne) 22, 3) := by decide +kernel
theorem d27 : decode yB 27 = .ok (.getstatic 38, 3) := by decide +kernel
theorem d30 : decode yB 30 = .ok (.ifCond (.eq) 28, 3) := by decide +kernel
theorem d33 : decode yB 33 = .ok (.aload_n 1, 1) := by decide +kernel
theorem d34 : decode yB 34 = .ok (.iload_n 2, 1) := by decide +kernel
theorem d35 : decode yB 35 = .ok (.iload_n 3, 1) := by decide +kernel
theorem d36 : decode yB 36 = .ok (.invokestatic 177, 3) := by decide +kernel
theorem d39 : decode yB 39 = .ok (.astore 5, 2) := by decide +kernel
theorem d41 : decode yB 41 = .ok (.aload_n 0, 1) := by decide +kernel
theorem d42 : decode yB 42 = .ok (.aload 5, 2) := by decide +kernel
theorem d44 : decode yB 44 = .ok (.iload_n 3, 1) := by decide +kernel
theorem d45 : decode yB 45 = .ok (.invokestatic 47, 3) := by decide +kernel
theorem d48 : decode yB 48 = .ok (.putfield 15, 3) := by decide +kernel
theorem d51 : decode yB 51 = .ok (.aload_n 0, 1) := by decide +kernel
theorem d52 : decode yB 52 = .ok (.aload 5, 2) := by decide +kernel
theorem d54 : decode yB 54 = .ok (.putfield 9, 3) := by decide +kernel
theorem d57 : decode yB 57 = .ok (.return_, 1) := by decide +kernel
def site : List Cond := [.fieldLink "java/lang/String" 38 "java/lang/String" "COMPACT_STRINGS" "Z", Cmp3.tab, CodL.tab, .laysFinal "java/lang/String" "java/lang/String" "value" "[B", .fieldLink "java/lang/String" 9 "java/lang/String" "value" "[B", .laysFinal "java/lang/String" "java/lang/String" "coder" "B", .fieldLink "java/lang/String" 15 "java/lang/String" "coder" "B"] ++ objW "java/lang/String" 1 ++ staticW "java/lang/String" 177 Cmp3.yN ++ staticW "java/lang/String" 47 CodL.yN
def tab : Cond := tabOf yN yB 6 none site
def P (a : Addr) (D : Cell) (fV fC : Field) (b : Addr) (A : Cell) (z : Int32) (o len : Nat) (args : Array Value) (s : State) : Prop := args = #[.ref a, .ref b, .int (Int32.ofNat o), .int (Int32.ofNat len), .null] ∧ Blank "java/lang/String" a D s ∧ Found "java/lang/String" "value" "[B" fV s ∧ Found "java/lang/String" "coder" "B" fC s ∧ Ch b A s ∧ StaticIs s "java/lang/String" "COMPACT_STRINGS" "Z" (.int z) ∧ ¬ z = 0 ∧ 0 < len ∧ o + len ≤ A.slots.size ∧ len ≤ 536870912 ∧ ∀ i, i < len → ¬ 255 < cv A (o + i)
def E (a : Addr) (D : Cell) (fV fC : Field) (A : Cell) (o len : Nat) (r : Option Value) (s u : State) : Prop := Got a D fV fC A o len r s u
/-- len > 0, no char of the range above 255: a Latin-1 String of their low bytes -/
theorem law (l : Launch) (a : Addr) (D : Cell) (fV fC : Field) (b : Addr) (A : Cell) (z : Int32) (o len : Nat) : Law l yN 5 4 2 35 yB 6 none site (P a D fV fC b A z o len) (E a D fV fC A o len) [⟨a, fC.slot⟩, ⟨a, fV.slot⟩] 1 len := by
  refine Law.of_walk (plainFor_of_name (by decide +kernel)) (by decide +kernel) (by decide +kernel) (by decide) (fun _ _ h => by rw [h.1]; rfl) (fun _ U U' hal hh h => ⟨h.1, h.2.1.mv hal hh, h.2.2.1.al hal, h.2.2.2.1.al hal, h.2.2.2.2.1.mv hal hh, h.2.2.2.2.2.1.there hal hh, h.2.2.2.2.2.2⟩) (fun r U U' V V' h1 hal h2 h => Got.mv r U U' V V' h1 hal h2 h) ?_
  intro p e s m args below meth c s₁ X0 hexec hbytes hml hret hlk hnm hown hh0 W hP
  obtain ⟨rfl, hB, f1, f2, hA, s1, hz, l0, l1, l2, hp⟩ := hP
  have a31 := hA.1.2.2.2
  have c1 : Steps p.tables e below (s₁.setTop (entryFrame m #[.ref a, .ref b, .int (Int32.ofNat o), .int (Int32.ofNat len), .null] 6)) (s₁.setTop (mkF m 0 #[.val (.ref a), .val (.ref b), .val (.int (Int32.ofNat o)), .val (.int (Int32.ofNat len)), .val .null, .unset] [])) := entry rfl
  have c2 : Steps p.tables e below (s₁.setTop (entryFrame m #[.ref a, .ref b, .int (Int32.ofNat o), .int (Int32.ofNat len), .null] 6)) (s₁.setTop (mkF m 1 #[.val (.ref a), .val (.ref b), .val (.int (Int32.ofNat o)), .val (.int (Int32.ofNat len)), .val .null, .unset] [.ref a])) := c1.trans (by
    refine XS.aloadN X0.here hexec rfl (hb hbytes d0) rfl rfl ?_
    exact Steps.refl _)
  obtain ⟨T3, X3, q3, st3⟩ := X0.oinit hexec hown (wks W (objW "java/lang/String" 1)) (g := (mkF m 1 #[.val (.ref a), .val (.ref b), .val (.int (Int32.ofNat o)), .val (.int (Int32.ofNat len)), .val .null, .unset] [.ref a])) rfl (by rw [hml]; rfl) (rest := []) rfl (hb hbytes d1) (W := 0) (by show 2 * 0 + 0 ≤ _; decide) (Nat.le_of_ble_eq_true rfl) (Nat.le_of_ble_eq_true rfl)
  have hh3 := q3.trans hh0
  have c4 : Steps p.tables e below (s₁.setTop (entryFrame m #[.ref a, .ref b, .int (Int32.ofNat o), .int (Int32.ofNat len), .null] 6)) (T3.setTop (mkF m 27 #[.val (.ref a), .val (.ref b), .val (.int (Int32.ofNat o)), .val (.int (Int32.ofNat len)), .val .null, .unset] [])) := (c2.trans (st3 _ (Steps.refl _))).trans (by
    refine XS.iloadN X3.here hexec rfl (hb hbytes d4) rfl ?_
    refine XS.ifYes X3.here hexec rfl (pc0 := 5) rfl (hb hbytes d5) rfl (i0_ne_t (nz32 (by omega) l0)) (by decide) rfl ?_
    exact Steps.refl _)
  obtain ⟨T5, X5, q5, st5⟩ := X3.sget hexec hown (wk W (.fieldLink "java/lang/String" 38 "java/lang/String" "COMPACT_STRINGS" "Z")) s1 (fun _ _ h => by rw [hh3]; exact h) (g := (mkF m 27 #[.val (.ref a), .val (.ref b), .val (.int (Int32.ofNat o)), .val (.int (Int32.ofNat len)), .val .null, .unset] [])) rfl (hb hbytes d27)
  have hh5 := q5.trans hh3
  have c6 : Steps p.tables e below (s₁.setTop (entryFrame m #[.ref a, .ref b, .int (Int32.ofNat o), .int (Int32.ofNat len), .null] 6)) (T5.setTop (mkF m 30 #[.val (.ref a), .val (.ref b), .val (.int (Int32.ofNat o)), .val (.int (Int32.ofNat len)), .val .null, .unset] [.int z])) := c4.trans (st5 _ (Steps.refl _))
  have c7 : Steps p.tables e below (s₁.setTop (entryFrame m #[.ref a, .ref b, .int (Int32.ofNat o), .int (Int32.ofNat len), .null] 6)) (T5.setTop (mkF m 36 #[.val (.ref a), .val (.ref b), .val (.int (Int32.ofNat o)), .val (.int (Int32.ofNat len)), .val .null, .unset] [.int (Int32.ofNat len), .int (Int32.ofNat o), .ref b])) := c6.trans (by
    refine XS.ifNo X5.here hexec rfl (hb hbytes d30) rfl (i0_eq_f hz) ?_
    refine XS.aloadN X5.here hexec rfl (hb hbytes d33) rfl rfl ?_
    refine XS.iloadN X5.here hexec rfl (hb hbytes d34) rfl ?_
    refine XS.iloadN X5.here hexec rfl (hb hbytes d35) rfl ?_
    exact Steps.refl _)
  obtain ⟨v8, T8, X8, E8, g8⟩ := X5.callS hexec (Cmp3.law l b A o len) hown (wks W (staticW "java/lang/String" 177 Cmp3.yN)) (wk W Cmp3.tab) (W := 0) (Nat.le_of_ble_eq_true rfl) (Nat.le_of_ble_eq_true rfl) (Nat.le_refl _) (by show 0 + len ≤ len; omega) (g := (mkF m 36 #[.val (.ref a), .val (.ref b), .val (.int (Int32.ofNat o)), .val (.int (Int32.ofNat len)), .val .null, .unset] [.int (Int32.ofNat len), .int (Int32.ofNat o), .ref b])) rfl (by rw [hml]; rfl) c7 (argsL := [.ref b, .int (Int32.ofNat o), .int (Int32.ofNat len)]) (rest := []) rfl rfl (by show 2 * 0 + 0 ≤ _; decide) (hb hbytes d36) (⟨rfl, hA.mv X5.warmed.alike hh5, l1, l2, hp⟩)
  obtain ⟨e8, z8⟩ := E8
  obtain ⟨rfl, N, n1, n2, n3, n4, n5, n6⟩ := NewArr.mv _ T5 s _ _ hh5.symm (Vm.Alike.refl _) rfl e8
  rw [hh5] at z8
  have hB1 := hB.keep X8.warmed.alike (n6 _ _ hB.1)
  have hne : s.heap.size ≠ a := (Nat.ne_of_lt (Array.getElem?_eq_some_iff.mp hB.1).1).symm
  have c9 : Steps p.tables e below (s₁.setTop (entryFrame m #[.ref a, .ref b, .int (Int32.ofNat o), .int (Int32.ofNat len), .null] 6)) (T8.setTop (mkF m 39 #[.val (.ref a), .val (.ref b), .val (.int (Int32.ofNat o)), .val (.int (Int32.ofNat len)), .val .null, .unset] [.ref s.heap.size])) := g8
  have c10 : Steps p.tables e below (s₁.setTop (entryFrame m #[.ref a, .ref b, .int (Int32.ofNat o), .int (Int32.ofNat len), .null] 6)) (T8.setTop (mkF m 45 #[.val (.ref a), .val (.ref b), .val (.int (Int32.ofNat o)), .val (.int (Int32.ofNat len)), .val .null, .val (.ref s.heap.size)] [.int (Int32.ofNat N.slots.size), .ref s.heap.size, .ref a])) := by
    have hc : Steps p.tables e below (s₁.setTop (entryFrame m #[.ref a, .ref b, .int (Int32.ofNat o), .int (Int32.ofNat len), .null] 6)) (T8.setTop (mkF m 45 #[.val (.ref a), .val (.ref b), .val (.int (Int32.ofNat o)), .val (.int (Int32.ofNat len)), .val .null, .val (.ref s.heap.size)] [.int (Int32.ofNat len), .ref s.heap.size, .ref a])) := c9.trans (by
      refine XS.astore X8.here hexec rfl (hb hbytes d39) rfl rfl rfl ?_
      refine XS.aloadN X8.here hexec rfl (hb hbytes d41) rfl rfl ?_
      refine XS.aload X8.here hexec rfl (hb hbytes d42) rfl rfl ?_
      refine XS.iloadN X8.here hexec rfl (hb hbytes d44) rfl ?_
      exact Steps.refl _)
    rw [n4]; exact hc
  obtain ⟨v11, T11, X11, E11, g11⟩ := X8.callS hexec (CodL.law l s.heap.size N) hown (wks W (staticW "java/lang/String" 47 CodL.yN)) (wk W CodL.tab) (W := 1) (Nat.le_of_ble_eq_true rfl) (Nat.le_of_ble_eq_true rfl) (Nat.le_refl _) (by show 0 + len + 0 ≤ len; omega) (g := (mkF m 45 #[.val (.ref a), .val (.ref b), .val (.int (Int32.ofNat o)), .val (.int (Int32.ofNat len)), .val .null, .val (.ref s.heap.size)] [.int (Int32.ofNat N.slots.size), .ref s.heap.size, .ref a])) rfl (by rw [hml]; rfl) c10 (argsL := [.ref s.heap.size, .int (Int32.ofNat N.slots.size)]) (rest := [.ref a]) rfl rfl (by show 2 * 0 + (1 + 0) ≤ _; decide) (hb hbytes d45) (⟨rfl, n1⟩)
  obtain ⟨rfl, q11⟩ := E11
  have hB11 := hB1.mv (X8.warmed.alike.symm.trans X11.warmed.alike) q11
  have c12 : Steps p.tables e below (s₁.setTop (entryFrame m #[.ref a, .ref b, .int (Int32.ofNat o), .int (Int32.ofNat len), .null] 6)) (T11.setTop (mkF m 48 #[.val (.ref a), .val (.ref b), .val (.int (Int32.ofNat o)), .val (.int (Int32.ofNat len)), .val .null, .val (.ref s.heap.size)] [.int 0, .ref a])) := g11
  obtain ⟨T13, X13, p13, bl13, sl13, st13⟩ := X11.finit hexec hown (wk W (.fieldLink "java/lang/String" 15 "java/lang/String" "coder" "B")) (Or.inr ⟨_, (wk W (.laysFinal "java/lang/String" "java/lang/String" "coder" "B"))⟩) (Or.inl ⟨rfl, hnm⟩) f2 (Or.inl rfl) hB11 (t := .byte) (by decide +kernel) rfl (g := (mkF m 48 #[.val (.ref a), .val (.ref b), .val (.int (Int32.ofNat o)), .val (.int (Int32.ofNat len)), .val .null, .val (.ref s.heap.size)] [.int 0, .ref a])) rfl (rest := []) rfl (hb hbytes d48)
  have c14 : Steps p.tables e below (s₁.setTop (entryFrame m #[.ref a, .ref b, .int (Int32.ofNat o), .int (Int32.ofNat len), .null] 6)) (T13.setTop (mkF m 54 #[.val (.ref a), .val (.ref b), .val (.int (Int32.ofNat o)), .val (.int (Int32.ofNat len)), .val .null, .val (.ref s.heap.size)] [.ref s.heap.size, .ref a])) := (c12.trans (st13 _ (Steps.refl _))).trans (by
    refine XS.aloadN X13.here hexec rfl (hb hbytes d51) rfl rfl ?_
    refine XS.aload X13.here hexec rfl (hb hbytes d52) rfl rfl ?_
    exact Steps.refl _)
  obtain ⟨T15, X15, p15, bl15, sl15, st15⟩ := X13.finit hexec hown (wk W (.fieldLink "java/lang/String" 9 "java/lang/String" "value" "[B")) (Or.inr ⟨_, (wk W (.laysFinal "java/lang/String" "java/lang/String" "value" "[B"))⟩) (Or.inl ⟨rfl, hnm⟩) f1 (Or.inl rfl) bl13 (t := (.array .byte)) (by decide +kernel) rfl (g := (mkF m 54 #[.val (.ref a), .val (.ref b), .val (.int (Int32.ofNat o)), .val (.int (Int32.ofNat len)), .val .null, .val (.ref s.heap.size)] [.ref s.heap.size, .ref a])) rfl (rest := []) rfl (hb hbytes d54)
  have c16 : Steps p.tables e below (s₁.setTop (entryFrame m #[.ref a, .ref b, .int (Int32.ofNat o), .int (Int32.ofNat len), .null] 6)) (T15.setTop (mkF m 57 #[.val (.ref a), .val (.ref b), .val (.int (Int32.ofNat o)), .val (.int (Int32.ofNat len)), .val .null, .val (.ref s.heap.size)] [])) := c14.trans (st15 _ (Steps.refl _))
  have ap := apart (Or.inr ⟨_, (wk W (.laysFinal "java/lang/String" "java/lang/String" "value" "[B"))⟩) (Or.inr ⟨_, (wk W (.laysFinal "java/lang/String" "java/lang/String" "coder" "B"))⟩) f1 f2 (t₁ := .array .byte) (t₂ := .byte) (by decide +kernel) (by decide +kernel) (by decide)
  have al := X8.warmed.alike.symm.trans X15.warmed.alike
  have n7 : T11.heap[s.heap.size]? = some N := by rw [q11]; exact n1.1
  exact ⟨T15, none, _, _, _, X15, by simp, rfl, by omega, (fun _ => rfl), ⟨rfl, _, N, bl15, ((Same.refl D _).set _ (by simp)).set _ (by simp), sl15, (Cell.slots_setSlot_ne _ ap).trans sl13, n1.keep al (p15.other hne (p13.other hne n7)), n2, by rw [al.findClass]; exact n3, n4, n5, fun y c h1 h2 => p15.other h1 (p13.other h1 (by rw [q11]; exact n6 y c h2)), by rw [p15.2.2, p13.2.2, q11]; exact z8⟩, fun fs hl => c16.trans (X15.returnOut hexec hret (hb hbytes d57) hl)⟩
end New4
namespace New1
def yN : MethodName := ⟨"java/lang/String", "<init>", "([C)V"⟩
abbrev yB : ByteArray := jdk_42_method_3_code
theorem d0 : decode yB 0 = .ok (.aload_n 0, 1) := by decide +kernel
theorem d1 : decode yB 1 = .ok (.aload_n 1, 1) := by decide +kernel
theorem d2 : decode yB 2 = .ok (.iconst 0, 1) := by decide +kernel
theorem d3 : decode yB 3 = .ok (.aload_n 1, 1) := by decide +kernel
theorem d4 : decode yB 4 = .ok (.arraylength, 1) := by decide +kernel
theorem d5 : decode yB 5 = .ok (.aconst_null, 1) := by decide +kernel
theorem d6 : decode yB 6 = .ok (.invokespecial 27, 3) := by decide +kernel
theorem d9 : decode yB 9 = .ok (.return_, 1) := by decide +kernel
def site : List Cond := [New4.tab] ++ initW "java/lang/String" 27 New4.yN
def tab : Cond := tabOf yN yB 2 none site
def P (a : Addr) (D : Cell) (fV fC : Field) (b : Addr) (A : Cell) (z : Int32) (args : Array Value) (s : State) : Prop := args = #[.ref a, .ref b] ∧ Blank "java/lang/String" a D s ∧ Found "java/lang/String" "value" "[B" fV s ∧ Found "java/lang/String" "coder" "B" fC s ∧ Ch b A s ∧ StaticIs s "java/lang/String" "COMPACT_STRINGS" "Z" (.int z) ∧ ¬ z = 0 ∧ 0 < A.slots.size ∧ A.slots.size ≤ 536870912 ∧ ∀ i, i < A.slots.size → ¬ 255 < cv A i
def E (a : Addr) (D : Cell) (fV fC : Field) (A : Cell) (r : Option Value) (s u : State) : Prop := Got a D fV fC A 0 A.slots.size r s u
/-- new String(chars), not empty, no char above 255: a Latin-1 String of their low bytes -/
theorem law (l : Launch) (a : Addr) (D : Cell) (fV fC : Field) (b : Addr) (A : Cell) (z : Int32) : Law l yN 2 1 3 52 yB 2 none site (P a D fV fC b A z) (E a D fV fC A) [⟨a, fC.slot⟩, ⟨a, fV.slot⟩] 1 A.slots.size := by
  refine Law.of_walk (plainFor_of_name (by decide +kernel)) (by decide +kernel) (by decide +kernel) (by decide) (fun _ _ h => by rw [h.1]; rfl) (fun _ U U' hal hh h => ⟨h.1, h.2.1.mv hal hh, h.2.2.1.al hal, h.2.2.2.1.al hal, h.2.2.2.2.1.mv hal hh, h.2.2.2.2.2.1.there hal hh, h.2.2.2.2.2.2⟩) (fun r U U' V V' h1 hal h2 h => Got.mv r U U' V V' h1 hal h2 h) ?_
  intro p e s m args below meth c s₁ X0 hexec hbytes hml hret hlk hnm hown hh0 W hP
  obtain ⟨rfl, hB, f1, f2, hA, s1, hz, l0, l2, hp⟩ := hP
  have c1 : Steps p.tables e below (s₁.setTop (entryFrame m #[.ref a, .ref b] 2)) (s₁.setTop (mkF m 0 #[.val (.ref a), .val (.ref b)] [])) := entry rfl
  have c2 : Steps p.tables e below (s₁.setTop (entryFrame m #[.ref a, .ref b] 2)) (s₁.setTop (mkF m 6 #[.val (.ref a), .val (.ref b)] [.null, .int (Int32.ofNat A.slots.size), .int 0, .ref b, .ref a])) := c1.trans (by
    refine XS.aloadN X0.here hexec rfl (hb hbytes d0) rfl rfl ?_
    refine XS.aloadN X0.here hexec rfl (hb hbytes d1) rfl rfl ?_
    refine iconstV X0.here hexec rfl 0 (hb hbytes d2) (by decide) ?_
    refine XS.aloadN X0.here hexec rfl (hb hbytes d3) rfl rfl ?_
    refine X0.alen hexec (hA.1.mv X0.warmed.alike hh0) rfl rfl (hb hbytes d4) ?_
    refine XS.aconstNull X0.here hexec rfl (hb hbytes d5) ?_
    exact Steps.refl _)
  obtain ⟨v3, T3, X3, E3, g3⟩ := X0.callN hexec (New4.law l a D fV fC b A z 0 A.slots.size) rfl hown (wks W (initW "java/lang/String" 27 New4.yN)) (W New4.tab (by simp only [site, List.mem_cons, List.mem_append, true_or, or_true])) (W := 0) (Nat.le_of_ble_eq_true rfl) (Nat.le_of_ble_eq_true rfl) (Nat.le_refl _) (by show 0 + A.slots.size ≤ A.slots.size; omega) (g := (mkF m 6 #[.val (.ref a), .val (.ref b)] [.null, .int (Int32.ofNat A.slots.size), .int (Int32.ofNat 0), .ref b, .ref a])) rfl (by rw [hml]; rfl) c2 (argsL := [.ref b, .int (Int32.ofNat 0), .int (Int32.ofNat A.slots.size), .null]) (rest := []) rfl rfl (by show 2 * 0 + 0 ≤ _; decide) (hb hbytes d6) (⟨rfl, hB.mv X0.warmed.alike hh0, f1.al X0.warmed.alike, f2.al X0.warmed.alike, hA.mv X0.warmed.alike hh0, s1.there X0.warmed.alike hh0, hz, l0, by omega, l2, fun i hi => by rw [Nat.zero_add]; exact hp i hi⟩)
  have e0 := Got.mv _ s₁ s _ _ hh0.symm (Vm.Alike.refl _) rfl E3
  obtain rfl := e0.1
  have c4 : Steps p.tables e below (s₁.setTop (entryFrame m #[.ref a, .ref b] 2)) (T3.setTop (mkF m 9 #[.val (.ref a), .val (.ref b)] [])) := g3
  exact ⟨T3, none, _, _, _, X3, by simp, rfl, by omega, (fun _ => rfl), e0, fun fs hl => c4.trans (X3.returnOut hexec hret (hb hbytes d9) hl)⟩
theorem pays {l : Launch} {R : Room} {p : Program} {e : Env} {below : List Frame} {s : State} {sargs : Array Value} {len W : Nat} (a : Addr) (D : Cell) (fV fC : Field) (b : Addr) (A : Cell) (z : Int32) (htab : tab.before sargs s = true) (hfr : 4 ≤ R.frames) (hlo : W + 65 ≤ R.locals) :
    Back l R p e below s sargs yN len W (fun A₁ a₁ => A₁.cells + 1 ≤ R.cells ∧ A₁.slots + A.slots.size ≤ R.slots ∧ P a D fV fC b A z a₁ A₁.U) (fun A₁ _ v₁ B₁ => E a D fV fC A v₁ A₁.U B₁.U ∧ B₁.locs = A₁.locs ++ [⟨a, fC.slot⟩, ⟨a, fV.slot⟩] ∧ B₁.cells = A₁.cells + 1 ∧ B₁.slots = A₁.slots + A.slots.size) :=
  (law l a D fV fC b A z).pays htab hfr (by omega)
end New1
end StrChars
namespace StrChars.Road
open Jvm Sem ClassFile Op Lib Jvm.Stand Jvm.Free Jvm.Free.XT
open Jvm.Lib.Cold (StaticIs)
abbrev ST : String := "java/lang/String"
/-- every table word that New1's law asks, flat -/
abbrev words : List Jvm.Cond := [.code New1.yN New1.yB 2 none, .initialized ST, .methodLink ST 27 New4.yN, .instanceMethod New4.yN,
  .code New4.yN New4.yB 6 none, .fieldLink ST 38 ST "COMPACT_STRINGS" "Z", .laysFinal ST ST "value" "[B", .fieldLink ST 9 ST "value" "[B", .laysFinal ST ST "coder" "B", .fieldLink ST 15 ST "coder" "B",
  .methodLink ST 1 Lib.objectInit, .instanceMethod Lib.objectInit, .code Lib.objectInit ⟨#[0xb1]⟩ 1 none, .methodLink ST 177 Cmp3.yN, .static Cmp3.yN, .methodLink ST 47 CodL.yN, .static CodL.yN,
  .code Cmp3.yN Cmp3.yB 6 (some (.array .byte)), .initialized U16, .arrayClass .byte, .methodLink U16 115 Cmp5.yN, .static Cmp5.yN, .code Cmp5.yN Cmp5.yB 7 (some .int), .code CodL.yN CodL.yB 2 (some .byte)]
theorem tab_of {a : Array Value} {s : State} (h : ∀ w ∈ words, w.before a s = true) : New1.tab.before a s = true := by
  have h5 : Cmp5.tab.before a s = true := unparts (wk h (.code Cmp5.yN Cmp5.yB 7 (some .int))) (wks h (.initialized Cmp5.yN.cls :: Cmp5.site))
  have hc : CodL.tab.before a s = true := unparts (wk h (.code CodL.yN CodL.yB 2 (some .byte))) (wks h (.initialized CodL.yN.cls :: CodL.site))
  have q5 : ∀ w ∈ Cmp5.tab :: words, w.before a s = true := fun w hw => (List.mem_cons.mp hw).elim (fun e => e ▸ h5) (h w)
  have h3 : Cmp3.tab.before a s = true := unparts (wk q5 (.code Cmp3.yN Cmp3.yB 6 (some (.array .byte)))) (wks q5 (.initialized Cmp3.yN.cls :: Cmp3.site))
  have q3 : ∀ w ∈ Cmp3.tab :: CodL.tab :: words, w.before a s = true := fun w hw => (List.mem_cons.mp hw).elim (fun e => e ▸ h3) fun hw => (List.mem_cons.mp hw).elim (fun e => e ▸ hc) (h w)
  have h4 : New4.tab.before a s = true := unparts (wk q3 (.code New4.yN New4.yB 6 none)) (wks q3 (.initialized New4.yN.cls :: New4.site))
  have q4 : ∀ w ∈ New4.tab :: words, w.before a s = true := fun w hw => (List.mem_cons.mp hw).elim (fun e => e ▸ h4) (h w)
  exact unparts (wk q4 (.code New1.yN New1.yB 2 none)) (wks q4 (.initialized New1.yN.cls :: New1.site))
/-- the words ride from the start Z to the walk's own state -/
theorem moved {Z s : State} {a0 args : Array Value} (hZ : Z.Warmed39 s.vm) (hw : ∀ d ∈ words, d.before a0 Z = true) : ∀ d ∈ words, d.before args s = true := fun d hd => by
  have q := hw d hd
  have t : ∀ d ∈ words, d = .arrayClass .byte ∨ (d.onTables && d.keepsFace) = true := by decide +kernel
  rcases t d hd with rfl | t
  · exact RoadKit.mvA hZ q
  · exact RoadKit.mv hZ q t
/-- WHAT COMES BACK, over the tables of the start Z: h the heap at the call, h' behind it -/
def Q (Z : State) (x : Addr) (A : Cell) (h : Heap) (v : Option Value) (h' : Heap) (L : List Loc) : Prop := v = none ∧ (∀ y ∈ L, y.base = x) ∧ RoadKit.Keep h h' [x] ∧ h'.size = h.size + 1 ∧ RoadKit.Exa Z h' x ST ∧ RoadKit.Fld Z h' x ST "value" "[B" (.ref h.size) ∧ RoadKit.Fld Z h' x ST "coder" "B" (.int 0) ∧
  (∃ V : Cell, RoadKit.Arr Z h' h.size V .byte ∧ V.vm = .none ∧ Z.vm.findClass "[B" = some V.cls ∧ V.slots.size = A.slots.size ∧ ∀ j, j < A.slots.size → V.slots[j]? = some (.int (lo8 (cv A j)))) ∧
  ∀ (O n d : String) (w : Value), RoadKit.Fld Z h x O n d w → RoadKit.slotOf Z O n d ≠ RoadKit.slotOf Z ST "value" "[B" → RoadKit.slotOf Z O n d ≠ RoadKit.slotOf Z ST "coder" "B" → RoadKit.Fld Z h' x O n d w
/-- **new String(chars) AT A CALL, IN THE ROAD'S FORM**: for specialBack behind newO: x the fresh String, b the char[] with the cell A -/
theorem back {p : Program} {l : Launch} {e : Env} {R : Room} {s : State} {args : Array Value} {below : List Frame} {len W : Nat} {Z : State} {a0 : Array Value} {h : Heap} (hZ : Z.Warmed39 s.vm) (hw : ∀ d ∈ words, d.before a0 Z = true) {kI : Nat} (wi : (Jvm.Cond.instantiable ST kI).before a0 Z = true)
    {x b : Addr} {A : Cell} {z : Int32} {v0 c0 : Value} (E : RoadKit.Exa Z h x ST) (V : RoadKit.Fld Z h x ST "value" "[B" v0) (C : RoadKit.Fld Z h x ST "coder" "B" c0) (K : RoadKit.Arr Z h b A .char) (hty : Typed .char A) (S : RoadKit.Sta Z h ST "COMPACT_STRINGS" "Z" (.int z)) (hz : ¬ z = 0)
    (l0 : 0 < A.slots.size) (l2 : A.slots.size ≤ 536870912) (hp : ∀ i, i < A.slots.size → ¬ 255 < cv A i) (hfr : 4 ≤ R.frames) (hlo : W + 65 ≤ R.locals) :
    Back l R p e below s args New1.yN len W (fun P a => a = #[.ref x, .ref b] ∧ P.U.heap = h ∧ P.cells + 1 ≤ R.cells ∧ P.slots + A.slots.size ≤ R.slots)
      (fun P _ v B => ∃ L, Q Z x A h v B.U.heap L ∧ B.locs = P.locs ++ L ∧ B.cells = P.cells + 1 ∧ B.slots = P.slots + A.slots.size) := by
  intro m meth c P g ig mk a X hg hsize hdg hW hn hp'
  obtain ⟨rfl, rfl, r1, r2⟩ := hp'
  have al : Z.vm.Alike P.U.vm := hZ.alike.trans X.warmed.alike
  obtain ⟨D, cfV, kV, iV, fV, hD, gV, stV, knV, obV, asV, slV⟩ := id V
  obtain ⟨D', cfC, kC, iC, fC, hD', gC, stC, -, -, asC, slC⟩ := id C
  cases hD.symm.trans hD'
  obtain ⟨D2, kD, e1, e2, e3, e4, e5⟩ := id E
  cases hD.symm.trans e1
  obtain ⟨c2, k2, i1, i2, i3, -⟩ := Cond.instantiable_spec wi
  cases e2.symm.trans i1
  cases e3.symm.trans i2
  obtain ⟨kU, u1, u2⟩ := al.2.2 _ _ e3
  have hB : Blank ST x D P.U := ⟨hD, ⟨knV, fun q hq => by rw [hq] at obV; cases obV⟩, by rw [al.findClass]; exact e2, kU, u1, by rw [u2]; exact i3, by rw [u2]; exact e5 i3⟩
  have F1 : Found ST "value" "[B" fV P.U := ⟨SBG.found_only al ⟨cfV, kV, iV, gV⟩, stV⟩
  have F2 : Found ST "coder" "B" fC P.U := ⟨SBG.found_only al ⟨cfC, kC, iC, gC⟩, stC⟩
  have hA : Ch b A P.U := ⟨⟨K.1, State.isArrayOf_alike al K.2.1, K.2.2, by omega⟩, hty⟩
  have hS : StaticIs P.U ST "COMPACT_STRINGS" "Z" (.int z) := by
    obtain ⟨cfS, iS, kS, fS, st, cS, t1, t2, t3, t4, t5, t6, t7⟩ := S
    exact StaticIs.there (s := { Z with heap := P.U.heap }) ⟨cfS, iS, kS, fS, st, cS, t1, t2, t3, t4, t5, (fun q => by rw [q] at t6; cases t6), t7⟩ al rfl
  obtain ⟨v, B, X', ⟨⟨hv, E', V', q1, q2, q3, q4, q5, q6, q7, q8, q9, q10, q11⟩, hl, hc, hs⟩, st⟩ := New1.pays x D fV fC b A z (tab_of (moved hZ hw)) hfr hlo m meth c P g ig mk _ X hg hsize hdg hW hn ⟨r1, r2, rfl, hB, F1, F2, hA, hS, hz, l0, l2, hp⟩
  have al' : Z.vm.Alike B.U.vm := hZ.alike.trans X'.warmed.alike
  have hsz : E'.slots.size = D.slots.size := by
    obtain ⟨-, -, -, kB, w1, w2, w3⟩ := q1
    obtain ⟨kB', y1, y2⟩ := al'.2.2 _ _ e3
    rw [q2.2.1] at w1
    cases w1.symm.trans y1
    rw [w3, e5 i3, y2]
  refine ⟨v, B, X', ⟨_, ⟨hv, ?_, ⟨by omega, fun y cy hy hn' => q10 y cy (by simpa using hn') hy, fun y cy hy => ?_⟩, q11, ⟨E', _, q1.1, by rw [q2.2.1]; exact e2, by rw [q2.2.1]; exact e3, by rw [q2.1]; exact obV, fun _ => by rw [hsz]; exact e5 i3⟩,
    ⟨E', cfV, kV, iV, fV, q1.1, gV, stV, by rw [q2.1]; exact knV, by rw [q2.1]; exact obV, by rw [q2.2.1]; exact asV, q3⟩, ⟨E', cfC, kC, iC, fC, q1.1, gC, stC, by rw [q2.1]; exact knV, by rw [q2.1]; exact obV, by rw [q2.2.1]; exact asC, q4⟩,
    ⟨V', ⟨q5.1, State.isArrayOf_alike al'.symm q5.2.1, q5.2.2.1⟩, q6, by rw [← al'.findClass]; exact q7, q8, fun j hj => by have := q9 j hj; rwa [Nat.zero_add] at this⟩, fun O n d w F n1 n2 => ?_⟩, hl, hc, hs⟩, st⟩
  · intro y hy
    simp only [List.mem_cons, List.not_mem_nil, or_false] at hy
    rcases hy with rfl | rfl <;> rfl
  · by_cases q : y = x
    · subst q
      cases hD.symm.trans hy
      exact ⟨E', q1.1, q2.2.1, q2.1, hsz⟩
    · exact ⟨cy, q10 y cy q hy, rfl, rfl, rfl⟩
  · obtain ⟨D3, cf, k, i, f, g1, g2, g3, g4, g5, g6, g7⟩ := F
    cases hD.symm.trans g1
    simp only [RoadKit.slotOf, g2, gV, gC, Option.map_some, Option.getD_some] at n1 n2
    exact ⟨E', cf, k, i, f, q1.1, g2, g3, by rw [q2.1]; exact g4, by rw [q2.1]; exact g5, by rw [q2.2.1]; exact g6, by rw [q2.2.2 f.slot (by simp [n1, n2])]; exact g7⟩
end StrChars.Road
namespace StrChars.Road
open Jvm Sem ClassFile Op Lib Jvm.Stand Jvm.Free Jvm.Free.XT
/-- WHAT COMES BACK, the byte[] as a list of values -/
def QA (Z : State) (x : Addr) (zn : Int32) (cs : List Int32) (h : Heap) (v : Option Value) (h' : Heap) (L : List Loc) : Prop := v = none ∧ (∀ y ∈ L, y.base = x) ∧ RoadKit.Keep h h' [x] ∧ h'.size = h.size + 1 ∧ RoadKit.Exa Z h' x ST ∧ RoadKit.Fld Z h' x ST "value" "[B" (.ref h.size) ∧ RoadKit.Fld Z h' x ST "coder" "B" (.int 0) ∧
  (∃ kb, Z.vm.findClass "[B" = some kb ∧ RoadKit.Arv Z h' h.size kb .byte zn (cs.map fun c => .int (lo8 c)) (.int 0)) ∧
  ∀ (O n d : String) (w : Value), RoadKit.Fld Z h x O n d w → RoadKit.slotOf Z O n d ≠ RoadKit.slotOf Z ST "value" "[B" → RoadKit.slotOf Z O n d ≠ RoadKit.slotOf Z ST "coder" "B" → RoadKit.Fld Z h' x O n d w
/-- **new String(chars) AT A CALL, THE ARRAYS AS LISTS**: the char[] at b holds cs, not empty, no char above 255 -/
theorem backArv {p : Program} {l : Launch} {e : Env} {R : Room} {s : State} {args : Array Value} {below : List Frame} {len W : Nat} {Z : State} {a0 : Array Value} {h : Heap} (hZ : Z.Warmed39 s.vm) (hw : ∀ d ∈ words, d.before a0 Z = true) {kI : Nat} (wi : (Jvm.Cond.instantiable ST kI).before a0 Z = true)
    {x b : Addr} {k : ClassId} {zn z : Int32} {cs : List Int32} {dv v0 c0 : Value} (E : RoadKit.Exa Z h x ST) (V : RoadKit.Fld Z h x ST "value" "[B" v0) (C : RoadKit.Fld Z h x ST "coder" "B" c0) (K : RoadKit.Arv Z h b k .char zn (cs.map Value.int) dv) (S : RoadKit.Sta Z h ST "COMPACT_STRINGS" "Z" (.int z)) (hz : ¬ z = 0)
    (hlen : zn.toNatClampNeg = cs.length) (h0 : 0 < cs.length) (hbig : cs.length ≤ 536870912) (hall : ∀ c ∈ cs, ¬ 255 < c) (hfr : 4 ≤ R.frames) (hlo : W + 65 ≤ R.locals) :
    Back l R p e below s args New1.yN len W (fun P a => a = #[.ref x, .ref b] ∧ P.U.heap = h ∧ P.cells + 1 ≤ R.cells ∧ P.slots + cs.length ≤ R.slots)
      (fun P _ v B => ∃ L, QA Z x zn cs h v B.U.heap L ∧ B.locs = P.locs ++ L ∧ B.cells = P.cells + 1 ∧ B.slots = P.slots + cs.length) := by
  obtain ⟨A, K1, K2, K3, K4, K5, K6⟩ := K
  have e : A.slots.size = cs.length := K3.trans hlen
  have hat : ∀ (i : Nat) (hi : i < cs.length), A.slots[i]? = some (.int cs[i]) := fun i hi => by rw [K5 i (by omega)]; simp [List.getD_eq_getElem?_getD, hi]
  have hcv : ∀ (i : Nat) (hi : i < cs.length), cv A i = cs[i] := fun i hi => by unfold cv; rw [hat i hi]
  have hty : Typed .char A := fun i v hv => by
    have hi : i < A.slots.size := (Array.getElem?_eq_some_iff.mp hv).1
    have q := K5 i hi
    rw [hv] at q
    rw [Option.some.inj q]
    exact K6 i hi
  refine Back.mono (back hZ hw wi E V C K1 hty S hz (by omega) (by omega) (fun i hi => by rw [hcv i (by omega)]; exact hall _ (List.getElem_mem _)) hfr hlo) (fun P a hp => ⟨hp.1, hp.2.1, hp.2.2.1, by rw [e]; exact hp.2.2.2⟩) (fun P a v B hp hq => ?_)
  obtain ⟨L, ⟨q1, q2, q3, q4, q5, q6, q7, ⟨V', v1, v2, v3, v4, v5⟩, q9⟩, hl, hc, hs⟩ := hq
  refine ⟨L, ⟨q1, q2, q3, q4, q5, q6, q7, ⟨V'.cls, v3, V', v1, rfl, by rw [v4, e, hlen], K4, fun i hi => ?_, fun i hi => ?_⟩, q9⟩, hl, hc, by rw [hs, e]⟩
  · have hi' : i < cs.length := by omega
    rw [v5 i (by omega), hcv i hi']; simp [List.getD_eq_getElem?_getD, hi']
  · have hi' : i < cs.length := by omega
    simp only [List.getD_eq_getElem?_getD, List.getElem?_map, List.getElem?_eq_getElem hi', Option.map_some, Option.getD_some]
    exact fits_lo8 _
end StrChars.Road
namespace StrChars.Road
open Jvm Sem ClassFile Op Lib Jvm.Stand Jvm.Free Jvm.Free.XT
/-- WHAT COMES BACK, in the writer's own shape -/
def QV (Z : State) (x : Addr) (N : Int32) (bs : List Int32) (h : Heap) (n0 : Nat) (v : Option Value) (h' : Heap) (L : List Loc) : Prop := v = none ∧ RoadKit.Fr n0 L ∧ RoadKit.Keep h h' [x] ∧ RoadKit.Exa Z h' x ST ∧ RoadKit.Fld Z h' x ST "coder" "B" (.int 0) ∧
  ∃ (t : Addr) (kb : ClassId), n0 ≤ t ∧ h.size ≤ t ∧ ¬ t = x ∧ RoadKit.Fld Z h' x ST "value" "[B" (.ref t) ∧ RoadKit.Arv Z h' t kb .byte N (bs.map Value.int) (.int 0)
/-- **new String(chars) AT A CALL, FOR THE WRITER**: a char[] of n known ints, each 0 to 255 -/
theorem backV {p : Program} {l : Launch} {e : Env} {R : Room} {s : State} {args : Array Value} {below : List Frame} {len W : Nat} {Z : State} {a0 : Array Value} {h : Heap} (hZ : Z.Warmed39 s.vm) (hw : ∀ d ∈ words, d.before a0 Z = true) {kI : Nat} (wi : (Jvm.Cond.instantiable ST kI).before a0 Z = true)
    {x b : Addr} {kC : ClassId} {cs bs : List Int32} {d v0 c0 : Value} {z N : Int32} {n n0 : Nat} (hx0 : n0 ≤ x) (hh0 : n0 ≤ h.size) (E : RoadKit.Exa Z h x ST) (V : RoadKit.Fld Z h x ST "value" "[B" v0) (C : RoadKit.Fld Z h x ST "coder" "B" c0) (K : RoadKit.Arv Z h b kC .char N (cs.map Value.int) d) (S : RoadKit.Sta Z h ST "COMPACT_STRINGS" "Z" (.int z)) (hz : ¬ z = 0)
    (hn : cs.length = n) (hN : N = Int32.ofNat n) (l0 : 0 < n) (l2 : n ≤ 4000) (hp : ∀ c ∈ cs, ¬ c < 0 ∧ ¬ (255 : Int32) < c) (hb : bs = cs.map (fun c => c.toInt8.toInt32)) (hfr : 4 ≤ R.frames) (hlo : W + 65 ≤ R.locals) :
    Back l R p e below s args (⟨"java/lang/String", "<init>", "([C)V"⟩ : MethodName) len W (fun P a => a = #[.ref x, .ref b] ∧ P.U.heap = h ∧ P.cells + 1 ≤ R.cells ∧ P.slots + n ≤ R.slots)
      (fun P _ v B => ∃ L, QV Z x N bs h n0 v B.U.heap L ∧ B.locs = P.locs ++ L ∧ B.cells = P.cells + 1 ∧ B.slots = P.slots + n) := by
  subst hn hN hb
  refine Back.mono (backArv hZ hw wi E V C K S hz (n32 (by omega)) l0 (by omega) (fun c hc => (hp c hc).2) hfr hlo) (fun P a hp => hp) (fun P a v B hp hq => ?_)
  obtain ⟨L, ⟨q1, q2, q3, q4, q5, q6, q7, ⟨kb, v1, v2⟩, q9⟩, hl, hc, hs⟩ := hq
  exact ⟨L, ⟨q1, fun y hy => by rw [q2 y hy]; exact hx0, q3, q5, q7, h.size, kb, hh0, Nat.le_refl _, Nat.ne_of_gt E.lt, q6, by rw [List.map_map]; exact v2⟩, hl, hc, hs⟩
end StrChars.Road
end Jvm.Pilot.@@N@@
namespace Jvm.OwnK
def EL : List (String × Nat) := [("com/example/presswright/presswright/publishing/PagePathIsPagePathPinLaw", 34), ("com/example/presswright/presswright/publishing/PagePathIsPagePathPinLaw", 36), ("java/lang/String", 7)]
end Jvm.OwnK
namespace Jvm.OwnK
open Sem ClassFile Op Lib Jvm.Stand Jvm.Free Jvm.LawKit Jvm.RoadKit
/-- what a body leaves: Q of its value and heap; what it wrote lies in new cells; the old cells stand -/
def Out (Z s : State) (Q : Option Value → Heap → Prop) (k n : Nat) (o : Outcome) (U : State) : Prop :=
  ∃ v L, o = .returned v ∧ (Q v U.heap ∧ Fr Z.heap.size L ∧ Old Z Z.heap.size U.heap) ∧ CHr Z EL s.vm s.heap U.vm U.heap ∧ ReturnedEndW s o U L k n
/-- the words under which String constants are loaded -/
def Wd (Z : State) : Prop := ∃ a0, EW Z a0 EL ∧ ∀ a ∈ Bundle.stringAtoms, a.before a0 Z = true
/-- from here the walk ends, and G holds of its end -/
def Go (tb : Tables) (e : Env) (below : List Frame) (G : Outcome → State → Prop) (T : State) (F : JFrame) : Prop :=
  ∃ s₂ o, Steps tb e below (T.setTop F) s₂ ∧ s₂.status = .running ∧ Ended s₂ below o ∧ G o s₂
/-- where the walk stands, with its heap -/
def Wk (p : Program) (l : Launch) (e : Env) (R : Room) (s : State) (m : MethodId) (args : Array Value) (below : List Frame) (meth : Method) (c : Code) (Z T : State) (h : Heap) (k n : Nat) (ss : List Addr) : Prop :=
  ∃ locs vm0 k0, Stand p l e R (s.setVm vm0) m args below meth c T locs k n ∧ T.heap = h ∧ Fr Z.heap.size locs ∧ Old Z Z.heap.size h ∧ s.Since vm0 k0 ∧ k0 ≤ h.size ∧ CHr Z EL s.vm s.heap vm0 h ∧ ∀ x ∈ ss, x < h.size ∧ Safe Z EL vm0 h x
/-- what is known of the body -/
def Bdy (p : Program) (Z s : State) (m : MethodId) (meth : Method) (c : Code) (own : String) (bytes : ByteArray) (maxL : Nat) (ret : Option FieldType) (nm : String) : Prop :=
  p.tables.exec = Jvm.exec ∧ Z.Warmed39 s.vm ∧ s.vm.findClass own = some m.cls ∧ c.code = bytes ∧ c.maxLocals = maxL ∧ meth.sig.returnType = ret ∧ meth.locks = false ∧ meth.name = nm ∧ Wd Z
/-- a contract -/
def Con (l : Launch) (Z : State) (y : MethodName) (bytes : ByteArray) (maxL : Nat) (ret : Option FieldType) (ws : List Cond) (rm : Room) (as' : Array Value) (h0 : Heap) (Q : Option Value → Heap → Prop) (ss : List Addr) : Prop :=
  Wd Z → Old Z Z.heap.size h0 → MetFree l y (head1 (Cond.code y bytes maxL ret :: ws) rm) (fun a U => a = as' ∧ Z.Warmed39 U.vm ∧ U.heap = h0 ∧ CHv Z EL U.vm h0 ∧ ∀ x ∈ ss, x < h0.size ∧ Safe Z EL U.vm h0 x) (fun _ _ _ _ _ => True) (fun _ U o U' => Out Z U Q rm.cells rm.slots o U')
def bi (b : Bool) : Int32 := if b then 1 else 0
theorem bi_t {b : Bool} (h : b = true) : ¬ bi b = 0 := by subst h; decide
theorem bi_f {b : Bool} (h : b = false) : bi b = 0 := by subst h; rfl
theorem bi_nar (b : Bool) : nar .boolean (bi b) = bi b := by cases b <;> rfl
theorem bi_tt : bi true = 1 := rfl
theorem bi_ff : bi false = 0 := rfl
theorem bi_inj {a b : Bool} : (bi a = bi b) = (a = b) := by cases a <;> cases b <;> decide
theorem own_nb (b : Bool) : narrow .boolean (.int (bi b)) = .int (bi b) := by cases b <;> rfl
theorem own_fb (b : Bool) : fits .boolean (.int (bi b)) = true := by cases b <;> rfl
theorem own_fr {t : FieldType} {v : Value} (ht : t.isReference = true) (hv : v.isRef = true) : fits t v = true := by cases t <;> cases v <;> first | rfl | (exfalso; revert ht hv; simp [FieldType.isReference, Value.isRef]; done)
theorem own_i2c (a : Int32) : ∃ x : Int32, a.toUInt32.toUInt16.toUInt32.toInt32 = x ∧ nar .char x = x ∧ 0 ≤ x.toInt ∧ x.toInt < 65536 := by
  refine ⟨_, rfl, ?_, (c_i2c a).2.1, (c_i2c a).2.2⟩
  show (a.toUInt32.toUInt16.toUInt32.toInt32).toUInt32.toUInt16.toUInt32.toInt32 = _
  simp only [UInt32.toUInt32_toInt32, UInt16.toUInt16_toUInt32]
theorem own_i2cm (a : Int32) : ∃ x : Int32, (a &&& 255).toUInt32.toUInt16.toUInt32.toInt32 = x ∧ nar .char x = x ∧ ¬ x < 0 ∧ ¬ 255 < x := by
  refine ⟨_, rfl, ?_, ?_⟩
  · show ((a &&& 255).toUInt32.toUInt16.toUInt32.toInt32).toUInt32.toUInt16.toUInt32.toInt32 = _
    simp only [UInt32.toUInt32_toInt32, UInt16.toUInt16_toUInt32]
  · rw [i2c_mask]
    have q := c_and a 255 (by decide)
    simp only [Int32.lt_iff_toInt_lt, Int32.reduceToInt] at *; omega
theorem own_and1 {a b : Bool} (h : b = true) : (bi a &&& 1) = bi (a && b) := by subst h; cases a <;> decide
theorem own_and0 {a b : Bool} (h : b = false) : (bi a &&& 0) = bi (a && b) := by subst h; cases a <;> decide
theorem own_andb (a b : Bool) : (bi a &&& bi b) = bi (a && b) := by cases a <;> cases b <;> decide
theorem own_inc (i : Nat) : Int32.ofNat i + 1 = Int32.ofNat (i + 1) := (Int32.ofNat_add i 1).symm
theorem own_ofNat {i : Nat} (h : i < 2147483648) : (Int32.ofNat i).toInt = i := by
  have := Int32.toInt_ofNat_of_lt (n := i) (by omega); exact this
theorem own_clamp {i : Nat} (h : i < 2147483648) : (Int32.ofNat i).toNatClampNeg = i := by
  simp only [Int32.toNatClampNeg, own_ofNat h]; omega
theorem own_lt {i j : Nat} (hi : i < 2147483648) (hj : j < 2147483648) : (Int32.ofNat i < Int32.ofNat j) ↔ i < j := by
  rw [Int32.lt_iff_toInt_lt, own_ofNat hi, own_ofNat hj]; omega
theorem own_ixok {i n : Nat} (hi : i < n) (hn : n < 2147483648) : ¬ Int32.ofNat i < 0 ∧ Int32.ofNat i < Int32.ofNat n := by
  refine ⟨?_, (own_lt (by omega) hn).mpr hi⟩
  rw [Int32.lt_iff_toInt_lt, own_ofNat (by omega)]; show ¬ ((i : Int) < 0); omega
theorem nar_b0 : nar .boolean 0 = 0 := by decide
theorem nar_b1 : nar .boolean 1 = 1 := by decide
theorem old_le {Z : State} {h : Heap} (O : Old Z Z.heap.size h) : Z.heap.size ≤ h.size := O.2.1
theorem nlt {x : Addr} {n : Nat} (h : x < n) : @LT.lt Nat _ x n := h
theorem nne {x y : Addr} (h : ¬ @Eq Nat x y) : x ≠ y := h
theorem own_root {Z : State} {a0 : Array Value} {O K : String} {kk : Nat} (w : (Cond.noSuperclass O).before a0 Z = true) (wk : (Cond.instantiable K kk).before a0 Z = true) (hn : O ≠ K) : NS Z O K := by
  obtain ⟨c, k, h1, h2, h3, -, -⟩ := Cond.noSuperclass_spec w
  obtain ⟨t, kt, g1, -⟩ := Cond.instantiable_spec wk
  have ne := ids_ne h1 g1 hn
  refine ⟨c, t, h1, g1, fun fuel => ?_⟩
  cases fuel with
  | zero => rfl
  | succ f => simp [Vm.isSubclassAux, ne, h2, h3]
theorem own_no {Z : State} {a0 : Array Value} {C S K : String} {kk : Nat} (w : (Cond.superclass C S).before a0 Z = true) (wk : (Cond.instantiable K kk).before a0 Z = true) (n : NS Z C K) (hn : C ≠ K) : ∃ c t, Z.vm.findClass C = some c ∧ Z.vm.findClass K = some t ∧ Z.vm.assignable c t = false := by
  obtain ⟨c, t, h0, g0, n3⟩ := n
  obtain ⟨p, k, kp, h1, h2, h3, h4, h5, -, h7⟩ := Cond.superclass_spec h0 w
  obtain ⟨t', kt, g1, g2, g3, g4, -⟩ := Cond.instantiable_spec wk
  cases g0.symm.trans g1
  have ne := ids_ne h0 g0 hn
  have g5 : kt.isInterface = false := by cases hq : kt.isInterface <;> simp [hq] at g4 ⊢
  refine ⟨c, t, h0, g0, ?_⟩
  show Z.vm.assignableAux (255 + 1) c t = false
  simp [Vm.assignableAux, ne, h2, g2, h5, g3, g5, Vm.isSubclass, n3]
theorem own_03 (x : Int32) : (x &&& 3) = 0 ∨ (x &&& 3) = 1 ∨ (x &&& 3) = 2 ∨ (x &&& 3) = 3 := by
  have q := c_and x 3 (by decide)
  simp only [← Int32.toInt_inj, Int32.reduceToInt] at *; omega
section K
variable {p : Program} {l : Launch} {e : Env} {R : Room} {s : State} {m : MethodId} {args : Array Value} {below : List Frame} {meth : Method} {c : Code} {Z T T' : State} {h h' : Heap} {k n : Nat} {own nm : String} {bytes : ByteArray} {maxL : Nat} {ret : Option FieldType} {G : Outcome → State → Prop} {pc : Nat} {ls : Array Slot} {st : List Value} {Q : Option Value → Heap → Prop} {a0 : Array Value} {ss : List Addr}
theorem Bdy.nameOf (B : Bdy p Z s m meth c own bytes maxL ret nm) : meth.name = nm := B.2.2.2.2.2.2.2.1
theorem Go.by {tb : Tables} {F F' : JFrame} (hs : ∀ t, Steps tb e below (T'.setTop F') t → Steps tb e below (T.setTop F) t) (q : Go tb e below G T' F') : Go tb e below G T F := by
  obtain ⟨s2, o, a, b⟩ := q; exact ⟨s2, o, hs _ a, b⟩
theorem own_gc {tb : Tables} {v v' : Int32} (hv : v = v') (q : Go tb e below G T (mkF m pc ls (.int v :: st))) : Go tb e below G T (mkF m pc ls (.int v' :: st)) := hv ▸ q
theorem Go.cast {tb : Tables} {F F' : JFrame} (hs : F = F') (q : Go tb e below G T F') : Go tb e below G T F := hs ▸ q
theorem Con.of {y : MethodName} {ws : List Cond} {rm : Room} {as' : Array Value} {h0 : Heap} (hpl : plainFor y = true)
    (body : ∀ p e s m below meth c T, Bdy p Z s m meth c y.cls bytes maxL ret y.name → Wk p l e rm s m as' below meth c Z T h0 0 0 ss → Go p.tables e below (Out Z s Q rm.cells rm.slots) T (entryFrame m as' maxL)) : Con l Z y bytes maxL ret ws rm as' h0 Q ss := by
  intro hWd hO
  refine MetFree.of_bodySF hpl hisR ?_
  intro p e s m args below meth c s₁ Bd hml0 hP hK
  obtain ⟨rfl, hZ, hh, hC, hss⟩ := hP
  subst hh
  exact body p e s m below meth c s₁ ⟨Bd.exec, hZ, findClass_of_methodNamed Bd.named, Bd.bytes, hml0, Bd.returns, Bd.notSynchronized, (name_of_methodNamed Bd.named Bd.method).1, hWd⟩ ⟨[], s.vm, s.heap.size, Stand.of_body Bd, by rw [Bd.state]; rfl, Fr.nil _, hO, (State.WarmedH.refl s).since _, Nat.le_refl _, CHr.refl hC, hss⟩
theorem Bdy.at {vm0 : Vm} {k0 : Nat} (B : Bdy p Z s m meth c own bytes maxL ret nm) (S : s.Since vm0 k0) : Bdy p Z (s.setVm vm0) m meth c own bytes maxL ret nm :=
  ⟨B.1, State.Warmed39.trans B.2.1 S.1, (S.1.alike.findClass _ _).trans B.2.2.1, B.2.2.2⟩
theorem Wk.size (W : Wk p l e R s m args below meth c Z T h k n ss) : Z.heap.size ≤ h.size := by obtain ⟨_, _, _, _, _, _, O, _⟩ := W; exact O.2.1
theorem Wk.old (W : Wk p l e R s m args below meth c Z T h k n ss) : Old Z Z.heap.size h := by obtain ⟨_, _, _, _, _, _, O, _⟩ := W; exact O
theorem Sta.old {C nf d : String} {v : Value} (F : Sta Z Z.heap C nf d v) (W : Old Z Z.heap.size h) : Sta Z h C nf d v := F.ext W.2
theorem Wk.sub {ss' : List Addr} (W : Wk p l e R s m args below meth c Z T h k n ss) (hs : ∀ x ∈ ss', x ∈ ss) : Wk p l e R s m args below meth c Z T h k n ss' := by
  obtain ⟨locs, vm0, k0, X, eT, N, O, S, hk, H, hss⟩ := W
  exact ⟨locs, vm0, k0, X, eT, N, O, S, hk, H, fun x q => hss x (hs x q)⟩
theorem Wk.more {k' n' : Nat} (W : Wk p l e R s m args below meth c Z T h k n ss) (hk : k ≤ k') (hn : n ≤ n') : Wk p l e R s m args below meth c Z T h k' n' ss := by
  obtain ⟨locs, vm0, k0, X, r⟩ := W; exact ⟨locs, vm0, k0, X.more hk hn, r⟩
/-! ### the ends -/
theorem go_end (B : Bdy p Z s m meth c own bytes maxL ret nm) (W : Wk p l e R s m args below meth c Z T h k n ss) {F : JFrame} {v : Option Value} {k' n' : Nat} (hv : ret = none → v = none) (hQ : Q v h) (hk : k ≤ k') (hn : n ≤ n')
    (hst : ∀ (s : State) (locs : List Loc) (fs : List Frame), Stand p l e R s m args below meth c T locs k n → (∀ (f : JFrame) (acts : List Action), f.method = m → f.locked = none → f.entered = [] → (doReturn e (T.setTop f) acts v).1 = T.setFrames fs) → Steps p.tables e below (T.setTop F) (T.setFrames fs)) :
    Go p.tables e below (Out Z s Q k' n') T F := by
  obtain ⟨locs, vm0, k0, X, eT, N, O, S, hk0, H, hss⟩ := W
  have B' := B.at S
  obtain ⟨a0, hEW, -⟩ := B.2.2.2.2.2.2.2.2
  obtain ⟨fs, hr, hrun, hended, e1, e2, e3, e4⟩ := X.leaveW S (by rw [eT]; exact hk0) (v := v) (fun q => hv (B.2.2.2.2.2.1 ▸ q)) B.2.2.2.2.2.2.1
  have eT' : (T.setFrames fs).heap = h := eT
  have H2 := H.trans (CHv.at X B'.2.1 hEW H.1)
  exact ⟨_, _, hst _ locs fs X hr, hrun, hended, _, _, rfl, ⟨by rw [eT']; exact hQ, N, by rw [eT']; exact O⟩, by rw [eT']; exact H2, e1, e2, e3, e4.mono hk hn⟩
theorem r_i (B : Bdy p Z s m meth c own bytes maxL (some .int) nm) (W : Wk p l e R s m args below meth c Z T h k n ss) {z : Int32} {k' n' : Nat} (hd : decode bytes pc = .ok (.ireturn, 1)) (hk : k ≤ k') (hn : n ≤ n') (hQ : Q (some (.int z)) h) : Go p.tables e below (Out Z s Q k' n') T (mkF m pc ls (.int z :: st)) :=
  go_end B W (fun q => by cases q) hQ hk hn fun _ _ _ X hr => retOut X B.1 B.2.2.2.2.2.1 rfl (Or.inl ⟨rfl, Or.inl rfl, _, rfl⟩) (hb B.2.2.2.1 hd) hr
theorem r_b (B : Bdy p Z s m meth c own bytes maxL (some .boolean) nm) (W : Wk p l e R s m args below meth c Z T h k n ss) {b : Bool} {k' n' : Nat} (hd : decode bytes pc = .ok (.ireturn, 1)) (hk : k ≤ k') (hn : n ≤ n') (hQ : Q (some (.int (bi b))) h) : Go p.tables e below (Out Z s Q k' n') T (mkF m pc ls (.int (bi b) :: st)) :=
  go_end B W (fun q => by cases q) (v := some (.int (nar .boolean (bi b)))) (by rw [bi_nar]; exact hQ) hk hn fun _ _ _ X hr => retN X B.1 B.2.2.2.2.2.1 (Or.inl rfl) (hb B.2.2.2.1 hd) hr
theorem r_n (B : Bdy p Z s m meth c own bytes maxL ret nm) (W : Wk p l e R s m args below meth c Z T h k n ss) {t : FieldType} {z : Int32} {k' n' : Nat} (hret : ret = some t) (ht : t = .boolean ∨ t = .byte ∨ t = .char ∨ t = .short) (hd : decode bytes pc = .ok (.ireturn, 1)) (hk : k ≤ k') (hn : n ≤ n') (hQ : Q (some (.int (nar t z))) h) : Go p.tables e below (Out Z s Q k' n') T (mkF m pc ls (.int z :: st)) :=
  go_end B W (fun q => by rw [hret] at q; cases q) hQ hk hn fun _ _ _ X hr => retN X B.1 (B.2.2.2.2.2.1.trans hret) ht (hb B.2.2.2.1 hd) hr
theorem nar_ref {t : FieldType} {v : Value} (ht : t.isReference = true) : narrow t v = v := by cases t <;> first | rfl | (exfalso; revert ht; simp [FieldType.isReference]; done) | (cases v <;> rfl)
theorem r_a (B : Bdy p Z s m meth c own bytes maxL ret nm) (W : Wk p l e R s m args below meth c Z T h k n ss) {t : FieldType} {v : Value} {k' n' : Nat} (hret : ret = some t) (ht : t.isReference = true) (hv : v.isRef = true) (hd : decode bytes pc = .ok (.areturn, 1)) (hk : k ≤ k') (hn : n ≤ n') (hQ : Q (some v) h) : Go p.tables e below (Out Z s Q k' n') T (mkF m pc ls (v :: st)) :=
  go_end B W (fun q => by rw [hret] at q; cases q) hQ hk hn fun _ _ _ X hr => retOut X B.1 (B.2.2.2.2.2.1.trans hret) (nar_ref ht) (Or.inr (Or.inr (Or.inr (Or.inr ⟨rfl, ht, hv⟩)))) (hb B.2.2.2.1 hd) hr
theorem r_v (B : Bdy p Z s m meth c own bytes maxL none nm) (W : Wk p l e R s m args below meth c Z T h k n ss) {k' n' : Nat} (hd : decode bytes pc = .ok (.return_, 1)) (hk : k ≤ k') (hn : n ≤ n') (hQ : Q none h) : Go p.tables e below (Out Z s Q k' n') T (mkF m pc ls []) :=
  go_end B W (fun _ => rfl) hQ hk hn fun _ _ _ X hr => X.returnOut B.1 B.2.2.2.2.2.1 (hb B.2.2.2.1 hd) hr
theorem r_l (B : Bdy p Z s m meth c own bytes maxL (some .long) nm) (W : Wk p l e R s m args below meth c Z T h k n ss) {z : Int64} {k' n' : Nat} (hd : decode bytes pc = .ok (.lreturn, 1)) (hk : k ≤ k') (hn : n ≤ n') (hQ : Q (some (.long z)) h) : Go p.tables e below (Out Z s Q k' n') T (mkF m pc ls (.long z :: st)) :=
  go_end B W (fun q => by cases q) hQ hk hn fun _ _ _ X hr => retOut X B.1 B.2.2.2.2.2.1 rfl (Or.inr (Or.inl ⟨rfl, rfl, _, rfl⟩)) (hb B.2.2.2.1 hd) hr
/-! ### plain steps -/
theorem g_aload_n (B : Bdy p Z s m meth c own bytes maxL ret nm) (W : Wk p l e R s m args below meth c Z T h k n ss) {i : Fin 4} {v : Value} (hd : decode bytes pc = .ok (.aload_n i, 1)) (hl : ls[i.val]? = some (.val v)) (hv : v.isRef = true) (q : Go p.tables e below G T (mkF m (pc + 1) ls (v :: st))) : Go p.tables e below G T (mkF m pc ls st) := by
  obtain ⟨_, _, _, X, -⟩ := W
  exact Go.by (fun t q => XS.aloadN X.here B.1 rfl (hb B.2.2.2.1 hd) hl hv q) q
theorem g_aload (B : Bdy p Z s m meth c own bytes maxL ret nm) (W : Wk p l e R s m args below meth c Z T h k n ss) {i : Nat} {v : Value} (hd : decode bytes pc = .ok (.aload i, 2)) (hl : ls[i]? = some (.val v)) (hv : v.isRef = true) (q : Go p.tables e below G T (mkF m (pc + 2) ls (v :: st))) : Go p.tables e below G T (mkF m pc ls st) := by
  obtain ⟨_, _, _, X, -⟩ := W
  exact Go.by (fun t q => XS.aload X.here B.1 rfl (hb B.2.2.2.1 hd) hl hv q) q
theorem g_iload_n (B : Bdy p Z s m meth c own bytes maxL ret nm) (W : Wk p l e R s m args below meth c Z T h k n ss) {i : Fin 4} {v : Int32} (hd : decode bytes pc = .ok (.iload_n i, 1)) (hl : ls[i.val]? = some (.val (.int v))) (q : Go p.tables e below G T (mkF m (pc + 1) ls (.int v :: st))) : Go p.tables e below G T (mkF m pc ls st) := by
  obtain ⟨_, _, _, X, -⟩ := W
  exact Go.by (fun t q => XS.iloadN X.here B.1 rfl (hb B.2.2.2.1 hd) hl q) q
theorem g_iload (B : Bdy p Z s m meth c own bytes maxL ret nm) (W : Wk p l e R s m args below meth c Z T h k n ss) {i : Nat} {v : Int32} (hd : decode bytes pc = .ok (.iload i, 2)) (hl : ls[i]? = some (.val (.int v))) (q : Go p.tables e below G T (mkF m (pc + 2) ls (.int v :: st))) : Go p.tables e below G T (mkF m pc ls st) := by
  obtain ⟨_, _, _, X, -⟩ := W
  exact Go.by (fun t q => XS.iload X.here B.1 rfl (hb B.2.2.2.1 hd) hl q) q
theorem g_lload_n (B : Bdy p Z s m meth c own bytes maxL ret nm) (W : Wk p l e R s m args below meth c Z T h k n ss) {i : Fin 4} {v : Int64} (hd : decode bytes pc = .ok (.lload_n i, 1)) (hl : ls[i.val]? = some (.val (.long v))) (q : Go p.tables e below G T (mkF m (pc + 1) ls (.long v :: st))) : Go p.tables e below G T (mkF m pc ls st) := by
  obtain ⟨_, _, _, X, -⟩ := W
  exact Go.by (fun t q => XT.lloadN X.here B.1 rfl (hb B.2.2.2.1 hd) hl q) q
theorem g_lload (B : Bdy p Z s m meth c own bytes maxL ret nm) (W : Wk p l e R s m args below meth c Z T h k n ss) {i : Nat} {v : Int64} (hd : decode bytes pc = .ok (.lload i, 2)) (hl : ls[i]? = some (.val (.long v))) (q : Go p.tables e below G T (mkF m (pc + 2) ls (.long v :: st))) : Go p.tables e below G T (mkF m pc ls st) := by
  obtain ⟨_, _, _, X, -⟩ := W
  exact Go.by (fun t q => XT.lload X.here B.1 rfl (hb B.2.2.2.1 hd) hl q) q
theorem g_istore_n (B : Bdy p Z s m meth c own bytes maxL ret nm) (W : Wk p l e R s m args below meth c Z T h k n ss) {i : Fin 4} {v : Int32} {l' : Array Slot} (hd : decode bytes pc = .ok (.istore_n i, 1)) (hl : storeLocals ls i.val (.int v) = some l') (q : Go p.tables e below G T (mkF m (pc + 1) l' st)) : Go p.tables e below G T (mkF m pc ls (.int v :: st)) := by
  obtain ⟨_, _, _, X, -⟩ := W
  exact Go.by (fun t q => XS.istoreN X.here B.1 rfl (hb B.2.2.2.1 hd) rfl hl q) q
theorem g_istore (B : Bdy p Z s m meth c own bytes maxL ret nm) (W : Wk p l e R s m args below meth c Z T h k n ss) {i : Nat} {v : Int32} {l' : Array Slot} (hd : decode bytes pc = .ok (.istore i, 2)) (hl : storeLocals ls i (.int v) = some l') (q : Go p.tables e below G T (mkF m (pc + 2) l' st)) : Go p.tables e below G T (mkF m pc ls (.int v :: st)) := by
  obtain ⟨_, _, _, X, -⟩ := W
  exact Go.by (fun t q => XS.istore X.here B.1 rfl (hb B.2.2.2.1 hd) rfl hl q) q
theorem g_lstore_n (B : Bdy p Z s m meth c own bytes maxL ret nm) (W : Wk p l e R s m args below meth c Z T h k n ss) {i : Fin 4} {v : Int64} {l' : Array Slot} (hd : decode bytes pc = .ok (.lstore_n i, 1)) (hl : storeLocals ls i.val (.long v) = some l') (q : Go p.tables e below G T (mkF m (pc + 1) l' st)) : Go p.tables e below G T (mkF m pc ls (.long v :: st)) := by
  obtain ⟨_, _, _, X, -⟩ := W
  exact Go.by (fun t q => XT.lstoreN X.here B.1 rfl (hb B.2.2.2.1 hd) rfl hl q) q
theorem g_lstore (B : Bdy p Z s m meth c own bytes maxL ret nm) (W : Wk p l e R s m args below meth c Z T h k n ss) {i : Nat} {v : Int64} {l' : Array Slot} (hd : decode bytes pc = .ok (.lstore i, 2)) (hl : storeLocals ls i (.long v) = some l') (q : Go p.tables e below G T (mkF m (pc + 2) l' st)) : Go p.tables e below G T (mkF m pc ls (.long v :: st)) := by
  obtain ⟨_, _, _, X, -⟩ := W
  exact Go.by (fun t q => XT.lstore X.here B.1 rfl (hb B.2.2.2.1 hd) rfl hl q) q
theorem g_astore_n (B : Bdy p Z s m meth c own bytes maxL ret nm) (W : Wk p l e R s m args below meth c Z T h k n ss) {i : Fin 4} {v : Value} {l' : Array Slot} (hd : decode bytes pc = .ok (.astore_n i, 1)) (hv : v.isRef = true) (hl : storeLocals ls i.val v = some l') (q : Go p.tables e below G T (mkF m (pc + 1) l' st)) : Go p.tables e below G T (mkF m pc ls (v :: st)) := by
  obtain ⟨_, _, _, X, -⟩ := W
  exact Go.by (fun t q => XS.astoreN X.here B.1 rfl (hb B.2.2.2.1 hd) rfl hv hl q) q
theorem g_astore (B : Bdy p Z s m meth c own bytes maxL ret nm) (W : Wk p l e R s m args below meth c Z T h k n ss) {i : Nat} {v : Value} {l' : Array Slot} (hd : decode bytes pc = .ok (.astore i, 2)) (hv : v.isRef = true) (hl : storeLocals ls i v = some l') (q : Go p.tables e below G T (mkF m (pc + 2) l' st)) : Go p.tables e below G T (mkF m pc ls (v :: st)) := by
  obtain ⟨_, _, _, X, -⟩ := W
  exact Go.by (fun t q => XS.astore X.here B.1 rfl (hb B.2.2.2.1 hd) rfl hv hl q) q
theorem g_iconst (B : Bdy p Z s m meth c own bytes maxL ret nm) (W : Wk p l e R s m args below meth c Z T h k n ss) {i : Int} {v : Int32} (hd : decode bytes pc = .ok (.iconst i, 1)) (hv : Int32.ofInt i = v) (q : Go p.tables e below G T (mkF m (pc + 1) ls (.int v :: st))) : Go p.tables e below G T (mkF m pc ls st) := by
  obtain ⟨_, _, _, X, -⟩ := W
  exact Go.by (fun t q => XT.iconstV X.here B.1 rfl _ (hb B.2.2.2.1 hd) hv q) q
theorem g_bipush (B : Bdy p Z s m meth c own bytes maxL ret nm) (W : Wk p l e R s m args below meth c Z T h k n ss) {i : Int} {v : Int32} (hd : decode bytes pc = .ok (.bipush i, 2)) (hv : (Int8.ofInt i).toInt32 = v) (q : Go p.tables e below G T (mkF m (pc + 2) ls (.int v :: st))) : Go p.tables e below G T (mkF m pc ls st) := by
  obtain ⟨_, _, _, X, -⟩ := W
  exact Go.by (fun t q => XT.bipushV X.here B.1 rfl _ (hb B.2.2.2.1 hd) hv q) q
theorem g_sipush (B : Bdy p Z s m meth c own bytes maxL ret nm) (W : Wk p l e R s m args below meth c Z T h k n ss) {i : Int} {v : Int32} (hd : decode bytes pc = .ok (.sipush i, 3)) (hv : (Int16.ofInt i).toInt32 = v) (q : Go p.tables e below G T (mkF m (pc + 3) ls (.int v :: st))) : Go p.tables e below G T (mkF m pc ls st) := by
  obtain ⟨_, _, _, X, -⟩ := W
  exact Go.by (fun t q => XT.sipushV X.here B.1 rfl _ (hb B.2.2.2.1 hd) hv q) q
theorem g_lconst (B : Bdy p Z s m meth c own bytes maxL ret nm) (W : Wk p l e R s m args below meth c Z T h k n ss) {i : Fin 2} {v : Int64} (hd : decode bytes pc = .ok (.lconst i, 1)) (hv : Int64.ofNat i = v) (q : Go p.tables e below G T (mkF m (pc + 1) ls (.long v :: st))) : Go p.tables e below G T (mkF m pc ls st) := by
  obtain ⟨_, _, _, X, -⟩ := W
  exact Go.by (fun t q => XT.lconstV X.here B.1 rfl _ (hb B.2.2.2.1 hd) hv q) q
theorem g_aconst_null (B : Bdy p Z s m meth c own bytes maxL ret nm) (W : Wk p l e R s m args below meth c Z T h k n ss)  (hd : decode bytes pc = .ok (.aconst_null, 1))  (q : Go p.tables e below G T (mkF m (pc + 1) ls (.null :: st))) : Go p.tables e below G T (mkF m pc ls st) := by
  obtain ⟨_, _, _, X, -⟩ := W
  exact Go.by (fun t q => XS.aconstNull X.here B.1 rfl (hb B.2.2.2.1 hd) q) q
theorem g_iadd (B : Bdy p Z s m meth c own bytes maxL ret nm) (W : Wk p l e R s m args below meth c Z T h k n ss) {x y : Int32} (hd : decode bytes pc = .ok (.iadd, 1))  (q : Go p.tables e below G T (mkF m (pc + 1) ls (.int (x + y) :: st))) : Go p.tables e below G T (mkF m pc ls (.int y :: .int x :: st)) := by
  obtain ⟨_, _, _, X, -⟩ := W
  exact Go.by (fun t q => XS.iadd X.here B.1 rfl (hb B.2.2.2.1 hd) rfl q) q
theorem g_isub (B : Bdy p Z s m meth c own bytes maxL ret nm) (W : Wk p l e R s m args below meth c Z T h k n ss) {x y : Int32} (hd : decode bytes pc = .ok (.isub, 1))  (q : Go p.tables e below G T (mkF m (pc + 1) ls (.int (x - y) :: st))) : Go p.tables e below G T (mkF m pc ls (.int y :: .int x :: st)) := by
  obtain ⟨_, _, _, X, -⟩ := W
  exact Go.by (fun t q => XS.isub X.here B.1 rfl (hb B.2.2.2.1 hd) rfl q) q
theorem g_iand (B : Bdy p Z s m meth c own bytes maxL ret nm) (W : Wk p l e R s m args below meth c Z T h k n ss) {x y : Int32} (hd : decode bytes pc = .ok (.iand, 1))  (q : Go p.tables e below G T (mkF m (pc + 1) ls (.int (x &&& y) :: st))) : Go p.tables e below G T (mkF m pc ls (.int y :: .int x :: st)) := by
  obtain ⟨_, _, _, X, -⟩ := W
  exact Go.by (fun t q => XS.iand X.here B.1 rfl (hb B.2.2.2.1 hd) rfl q) q
theorem g_imul (B : Bdy p Z s m meth c own bytes maxL ret nm) (W : Wk p l e R s m args below meth c Z T h k n ss) {x y : Int32} (hd : decode bytes pc = .ok (.imul, 1))  (q : Go p.tables e below G T (mkF m (pc + 1) ls (.int (x * y) :: st))) : Go p.tables e below G T (mkF m pc ls (.int y :: .int x :: st)) := by
  obtain ⟨_, _, _, X, -⟩ := W
  exact Go.by (fun t q => XS.imul X.here B.1 rfl (hb B.2.2.2.1 hd) rfl q) q
theorem g_ior (B : Bdy p Z s m meth c own bytes maxL ret nm) (W : Wk p l e R s m args below meth c Z T h k n ss) {x y : Int32} (hd : decode bytes pc = .ok (.ior, 1))  (q : Go p.tables e below G T (mkF m (pc + 1) ls (.int (x ||| y) :: st))) : Go p.tables e below G T (mkF m pc ls (.int y :: .int x :: st)) := by
  obtain ⟨_, _, _, X, -⟩ := W
  exact Go.by (fun t q => XT.ior X.here B.1 rfl (hb B.2.2.2.1 hd) rfl q) q
theorem g_ixor (B : Bdy p Z s m meth c own bytes maxL ret nm) (W : Wk p l e R s m args below meth c Z T h k n ss) {x y : Int32} (hd : decode bytes pc = .ok (.ixor, 1))  (q : Go p.tables e below G T (mkF m (pc + 1) ls (.int (x ^^^ y) :: st))) : Go p.tables e below G T (mkF m pc ls (.int y :: .int x :: st)) := by
  obtain ⟨_, _, _, X, -⟩ := W
  exact Go.by (fun t q => XT.ixor X.here B.1 rfl (hb B.2.2.2.1 hd) rfl q) q
theorem g_ishl (B : Bdy p Z s m meth c own bytes maxL ret nm) (W : Wk p l e R s m args below meth c Z T h k n ss) {x y : Int32} (hd : decode bytes pc = .ok (.ishl, 1))  (q : Go p.tables e below G T (mkF m (pc + 1) ls (.int (x <<< (y &&& 31)) :: st))) : Go p.tables e below G T (mkF m pc ls (.int y :: .int x :: st)) := by
  obtain ⟨_, _, _, X, -⟩ := W
  exact Go.by (fun t q => XT.ishl X.here B.1 rfl (hb B.2.2.2.1 hd) rfl q) q
theorem g_ishr (B : Bdy p Z s m meth c own bytes maxL ret nm) (W : Wk p l e R s m args below meth c Z T h k n ss) {x y : Int32} (hd : decode bytes pc = .ok (.ishr, 1))  (q : Go p.tables e below G T (mkF m (pc + 1) ls (.int (x >>> (y &&& 31)) :: st))) : Go p.tables e below G T (mkF m pc ls (.int y :: .int x :: st)) := by
  obtain ⟨_, _, _, X, -⟩ := W
  exact Go.by (fun t q => XT.ishr X.here B.1 rfl (hb B.2.2.2.1 hd) rfl q) q
theorem g_iushr (B : Bdy p Z s m meth c own bytes maxL ret nm) (W : Wk p l e R s m args below meth c Z T h k n ss) {x y : Int32} (hd : decode bytes pc = .ok (.iushr, 1))  (q : Go p.tables e below G T (mkF m (pc + 1) ls (.int (XT.ushr x y) :: st))) : Go p.tables e below G T (mkF m pc ls (.int y :: .int x :: st)) := by
  obtain ⟨_, _, _, X, -⟩ := W
  exact Go.by (fun t q => XT.iushr X.here B.1 rfl (hb B.2.2.2.1 hd) rfl q) q
theorem g_idiv (B : Bdy p Z s m meth c own bytes maxL ret nm) (W : Wk p l e R s m args below meth c Z T h k n ss) {x y : Int32} (hd : decode bytes pc = .ok (.idiv, 1)) (hy : y ≠ 0) (q : Go p.tables e below G T (mkF m (pc + 1) ls (.int (x / y) :: st))) : Go p.tables e below G T (mkF m pc ls (.int y :: .int x :: st)) := by
  obtain ⟨_, _, _, X, -⟩ := W
  exact Go.by (fun t q => XS.idiv X.here B.1 rfl (hb B.2.2.2.1 hd) rfl hy q) q
theorem g_irem (B : Bdy p Z s m meth c own bytes maxL ret nm) (W : Wk p l e R s m args below meth c Z T h k n ss) {x y : Int32} (hd : decode bytes pc = .ok (.irem, 1)) (hy : y ≠ 0) (q : Go p.tables e below G T (mkF m (pc + 1) ls (.int (x % y) :: st))) : Go p.tables e below G T (mkF m pc ls (.int y :: .int x :: st))   := by
  obtain ⟨_, _, _, X, -⟩ := W
  exact Go.by (fun t q => iremM X B.1 rfl (hb B.2.2.2.1 hd) rfl hy q) q
theorem g_ineg (B : Bdy p Z s m meth c own bytes maxL ret nm) (W : Wk p l e R s m args below meth c Z T h k n ss) {x : Int32} (hd : decode bytes pc = .ok (.ineg, 1))  (q : Go p.tables e below G T (mkF m (pc + 1) ls (.int (-x) :: st))) : Go p.tables e below G T (mkF m pc ls (.int x :: st)) := by
  obtain ⟨_, _, _, X, -⟩ := W
  exact Go.by (fun t q => XS.ineg X.here B.1 rfl (hb B.2.2.2.1 hd) rfl q) q
theorem g_i2c (B : Bdy p Z s m meth c own bytes maxL ret nm) (W : Wk p l e R s m args below meth c Z T h k n ss) {x : Int32} (hd : decode bytes pc = .ok (.i2c, 1))  (q : Go p.tables e below G T (mkF m (pc + 1) ls (.int x.toUInt32.toUInt16.toUInt32.toInt32 :: st))) : Go p.tables e below G T (mkF m pc ls (.int x :: st)) := by
  obtain ⟨_, _, _, X, -⟩ := W
  exact Go.by (fun t q => XT.i2c X.here B.1 rfl (hb B.2.2.2.1 hd) rfl q) q
theorem g_i2b (B : Bdy p Z s m meth c own bytes maxL ret nm) (W : Wk p l e R s m args below meth c Z T h k n ss) {x : Int32} (hd : decode bytes pc = .ok (.i2b, 1))  (q : Go p.tables e below G T (mkF m (pc + 1) ls (.int x.toInt8.toInt32 :: st))) : Go p.tables e below G T (mkF m pc ls (.int x :: st)) := by
  obtain ⟨_, _, _, X, -⟩ := W
  exact Go.by (fun t q => XT.i2b X.here B.1 rfl (hb B.2.2.2.1 hd) rfl q) q
theorem g_i2l (B : Bdy p Z s m meth c own bytes maxL ret nm) (W : Wk p l e R s m args below meth c Z T h k n ss) {x : Int32} (hd : decode bytes pc = .ok (.i2l, 1))  (q : Go p.tables e below G T (mkF m (pc + 1) ls (.long x.toInt64 :: st))) : Go p.tables e below G T (mkF m pc ls (.int x :: st)) := by
  obtain ⟨_, _, _, X, -⟩ := W
  exact Go.by (fun t q => XT.i2l X.here B.1 rfl (hb B.2.2.2.1 hd) rfl q) q
theorem g_l2i (B : Bdy p Z s m meth c own bytes maxL ret nm) (W : Wk p l e R s m args below meth c Z T h k n ss) {x : Int64} (hd : decode bytes pc = .ok (.l2i, 1))  (q : Go p.tables e below G T (mkF m (pc + 1) ls (.int x.toInt32 :: st))) : Go p.tables e below G T (mkF m pc ls (.long x :: st)) := by
  obtain ⟨_, _, _, X, -⟩ := W
  exact Go.by (fun t q => XT.l2i X.here B.1 rfl (hb B.2.2.2.1 hd) rfl q) q
theorem g_land (B : Bdy p Z s m meth c own bytes maxL ret nm) (W : Wk p l e R s m args below meth c Z T h k n ss) {x y : Int64} (hd : decode bytes pc = .ok (.land, 1))  (q : Go p.tables e below G T (mkF m (pc + 1) ls (.long (x &&& y) :: st))) : Go p.tables e below G T (mkF m pc ls (.long y :: .long x :: st)) := by
  obtain ⟨_, _, _, X, -⟩ := W
  exact Go.by (fun t q => XT.land X.here B.1 rfl (hb B.2.2.2.1 hd) rfl q) q
theorem g_ladd (B : Bdy p Z s m meth c own bytes maxL ret nm) (W : Wk p l e R s m args below meth c Z T h k n ss) {x y : Int64} (hd : decode bytes pc = .ok (.ladd, 1))  (q : Go p.tables e below G T (mkF m (pc + 1) ls (.long (x + y) :: st))) : Go p.tables e below G T (mkF m pc ls (.long y :: .long x :: st)) := by
  obtain ⟨_, _, _, X, -⟩ := W
  exact Go.by (fun t q => XT.ladd X.here B.1 rfl (hb B.2.2.2.1 hd) rfl q) q
theorem g_lcmp (B : Bdy p Z s m meth c own bytes maxL ret nm) (W : Wk p l e R s m args below meth c Z T h k n ss) {x y : Int64} (hd : decode bytes pc = .ok (.lcmp, 1))  (q : Go p.tables e below G T (mkF m (pc + 1) ls (.int (XT.cmpL x y) :: st))) : Go p.tables e below G T (mkF m pc ls (.long y :: .long x :: st)) := by
  obtain ⟨_, _, _, X, -⟩ := W
  exact Go.by (fun t q => XT.lcmp X.here B.1 rfl (hb B.2.2.2.1 hd) rfl q) q
theorem g_lushr (B : Bdy p Z s m meth c own bytes maxL ret nm) (W : Wk p l e R s m args below meth c Z T h k n ss) {x : Int64} {y : Int32} (hd : decode bytes pc = .ok (.lushr, 1))  (q : Go p.tables e below G T (mkF m (pc + 1) ls (.long (XT.ushrL x y) :: st))) : Go p.tables e below G T (mkF m pc ls (.int y :: .long x :: st)) := by
  obtain ⟨_, _, _, X, -⟩ := W
  exact Go.by (fun t q => XT.lushr X.here B.1 rfl (hb B.2.2.2.1 hd) rfl q) q
theorem g_iinc (B : Bdy p Z s m meth c own bytes maxL ret nm) (W : Wk p l e R s m args below meth c Z T h k n ss) {i : Nat} {cst : Int} {x v : Int32} {l' : Array Slot} (hd : decode bytes pc = .ok (.iinc i cst, 3)) (hv : Int32.ofInt cst = v) (hl : ls[i]? = some (.val (.int x))) (hl' : storeLocals ls i (.int (x + v)) = some l') (q : Go p.tables e below G T (mkF m (pc + 3) l' st)) : Go p.tables e below G T (mkF m pc ls st) := by
  obtain ⟨_, _, _, X, -⟩ := W
  exact Go.by (fun t q => XT.iincV X.here B.1 rfl _ (hb B.2.2.2.1 hd) hv hl hl' q) q
theorem g_dup (B : Bdy p Z s m meth c own bytes maxL ret nm) (W : Wk p l e R s m args below meth c Z T h k n ss) {v : Value} (hd : decode bytes pc = .ok (.dup, 1)) (hv : v.category = 1) (q : Go p.tables e below G T (mkF m (pc + 1) ls (v :: v :: st))) : Go p.tables e below G T (mkF m pc ls (v :: st)) := by
  obtain ⟨_, _, _, X, -⟩ := W
  exact Go.by (fun t q => XS.dup X.here B.1 rfl (hb B.2.2.2.1 hd) rfl hv q) q
theorem g_dup_x1 (B : Bdy p Z s m meth c own bytes maxL ret nm) (W : Wk p l e R s m args below meth c Z T h k n ss) {v w : Value} (hd : decode bytes pc = .ok (.dup_x1, 1)) (hv : v.category = 1) (hw' : w.category = 1) (q : Go p.tables e below G T (mkF m (pc + 1) ls (v :: w :: v :: st))) : Go p.tables e below G T (mkF m pc ls (v :: w :: st)) := by
  obtain ⟨_, _, _, X, -⟩ := W
  exact Go.by (fun t q => XT.dupX1 X.here B.1 rfl (hb B.2.2.2.1 hd) rfl hv hw' q) q
theorem g_pop (B : Bdy p Z s m meth c own bytes maxL ret nm) (W : Wk p l e R s m args below meth c Z T h k n ss) {v : Value} (hd : decode bytes pc = .ok (.pop, 1)) (hv : v.category = 1) (q : Go p.tables e below G T (mkF m (pc + 1) ls st)) : Go p.tables e below G T (mkF m pc ls (v :: st)) := by
  obtain ⟨_, _, _, X, -⟩ := W
  exact Go.by (fun t q => XT.pop X.here B.1 rfl (hb B.2.2.2.1 hd) rfl hv q) q
theorem g_goto (B : Bdy p Z s m meth c own bytes maxL ret nm) (W : Wk p l e R s m args below meth c Z T h k n ss)  {o : Int} {pc' : Nat} (hd : decode bytes pc = .ok (.goto o, 3))  (hp : (pc : Int) + o = (pc' : Int)) (q : Go p.tables e below G T (mkF m pc' ls st)) : Go p.tables e below G T (mkF m pc ls st)   := by
  obtain ⟨_, _, _, X, -⟩ := W
  exact Go.by (fun t q => XS.goto X.here B.1 rfl rfl (hb B.2.2.2.1 hd)  (by rw [hp]; exact Int.natCast_nonneg _) (by rw [hp]; exact Int.toNat_natCast _) q) q
theorem g_if_y (B : Bdy p Z s m meth c own bytes maxL ret nm) (W : Wk p l e R s m args below meth c Z T h k n ss) {cd : ClassFile.Cond} {x : Int32} {o : Int} {pc' : Nat} (hd : decode bytes pc = .ok (.ifCond cd o, 3)) (hc : ifCond.holds cd x = true) (hp : (pc : Int) + o = (pc' : Int)) (q : Go p.tables e below G T (mkF m pc' ls st)) : Go p.tables e below G T (mkF m pc ls (.int x :: st))   := by
  obtain ⟨_, _, _, X, -⟩ := W
  exact Go.by (fun t q => XS.ifYes X.here B.1 rfl rfl (hb B.2.2.2.1 hd) rfl hc (by rw [hp]; exact Int.natCast_nonneg _) (by rw [hp]; exact Int.toNat_natCast _) q) q
theorem g_if_n (B : Bdy p Z s m meth c own bytes maxL ret nm) (W : Wk p l e R s m args below meth c Z T h k n ss) {cd : ClassFile.Cond} {x : Int32} {o : Int} (hd : decode bytes pc = .ok (.ifCond cd o, 3)) (hc : ifCond.holds cd x = false) (q : Go p.tables e below G T (mkF m (pc + 3) ls st)) : Go p.tables e below G T (mkF m pc ls (.int x :: st))   := by
  obtain ⟨_, _, _, X, -⟩ := W
  exact Go.by (fun t q => XS.ifNo X.here B.1 rfl (hb B.2.2.2.1 hd) rfl hc q) q
theorem g_icmp_y (B : Bdy p Z s m meth c own bytes maxL ret nm) (W : Wk p l e R s m args below meth c Z T h k n ss) {cd : ClassFile.Cond} {x y : Int32} {o : Int} {pc' : Nat} (hd : decode bytes pc = .ok (.if_icmp cd o, 3)) (hc : if_icmp.holds cd x y = true) (hp : (pc : Int) + o = (pc' : Int)) (q : Go p.tables e below G T (mkF m pc' ls st)) : Go p.tables e below G T (mkF m pc ls (.int y :: .int x :: st))   := by
  obtain ⟨_, _, _, X, -⟩ := W
  exact Go.by (fun t q => XS.icmpYes X.here B.1 rfl rfl (hb B.2.2.2.1 hd) rfl hc (by rw [hp]; exact Int.natCast_nonneg _) (by rw [hp]; exact Int.toNat_natCast _) q) q
theorem g_icmp_n (B : Bdy p Z s m meth c own bytes maxL ret nm) (W : Wk p l e R s m args below meth c Z T h k n ss) {cd : ClassFile.Cond} {x y : Int32} {o : Int} (hd : decode bytes pc = .ok (.if_icmp cd o, 3)) (hc : if_icmp.holds cd x y = false) (q : Go p.tables e below G T (mkF m (pc + 3) ls st)) : Go p.tables e below G T (mkF m pc ls (.int y :: .int x :: st))   := by
  obtain ⟨_, _, _, X, -⟩ := W
  exact Go.by (fun t q => XS.icmpNo X.here B.1 rfl (hb B.2.2.2.1 hd) rfl hc q) q
theorem g_ifnull_y (B : Bdy p Z s m meth c own bytes maxL ret nm) (W : Wk p l e R s m args below meth c Z T h k n ss)  {o : Int} {pc' : Nat} (hd : decode bytes pc = .ok (.ifnull o, 3))  (hp : (pc : Int) + o = (pc' : Int)) (q : Go p.tables e below G T (mkF m pc' ls st)) : Go p.tables e below G T (mkF m pc ls (.null :: st))   := by
  obtain ⟨_, _, _, X, -⟩ := W
  exact Go.by (fun t q => XS.ifnullYes X.here B.1 rfl rfl (hb B.2.2.2.1 hd) rfl (by rw [hp]; exact Int.natCast_nonneg _) (by rw [hp]; exact Int.toNat_natCast _) q) q
theorem g_ifnull_n (B : Bdy p Z s m meth c own bytes maxL ret nm) (W : Wk p l e R s m args below meth c Z T h k n ss) {a : Addr} {o : Int} (hd : decode bytes pc = .ok (.ifnull o, 3))  (q : Go p.tables e below G T (mkF m (pc + 3) ls st)) : Go p.tables e below G T (mkF m pc ls (.ref a :: st))   := by
  obtain ⟨_, _, _, X, -⟩ := W
  exact Go.by (fun t q => XS.ifnullNo X.here B.1 rfl (hb B.2.2.2.1 hd) rfl q) q
theorem g_ifnonnull_y (B : Bdy p Z s m meth c own bytes maxL ret nm) (W : Wk p l e R s m args below meth c Z T h k n ss) {a : Addr} {o : Int} {pc' : Nat} (hd : decode bytes pc = .ok (.ifnonnull o, 3))  (hp : (pc : Int) + o = (pc' : Int)) (q : Go p.tables e below G T (mkF m pc' ls st)) : Go p.tables e below G T (mkF m pc ls (.ref a :: st))   := by
  obtain ⟨_, _, _, X, -⟩ := W
  exact Go.by (fun t q => XT.ifnonnullYes X.here B.1 rfl rfl (hb B.2.2.2.1 hd) rfl (by rw [hp]; exact Int.natCast_nonneg _) (by rw [hp]; exact Int.toNat_natCast _) q) q
theorem g_ifnonnull_n (B : Bdy p Z s m meth c own bytes maxL ret nm) (W : Wk p l e R s m args below meth c Z T h k n ss)  {o : Int} (hd : decode bytes pc = .ok (.ifnonnull o, 3))  (q : Go p.tables e below G T (mkF m (pc + 3) ls st)) : Go p.tables e below G T (mkF m pc ls (.null :: st))   := by
  obtain ⟨_, _, _, X, -⟩ := W
  exact Go.by (fun t q => XT.ifnonnullNo X.here B.1 rfl (hb B.2.2.2.1 hd) rfl q) q
theorem g_acmp_y (B : Bdy p Z s m meth c own bytes maxL ret nm) (W : Wk p l e R s m args below meth c Z T h k n ss) {cd : ClassFile.ACond} {x y : Value} {o : Int} {pc' : Nat} (hd : decode bytes pc = .ok (.if_acmp cd o, 3)) (hx' : x.isRef = true) (hy' : y.isRef = true) (hc : XT.acmp cd x y = true) (hp : (pc : Int) + o = (pc' : Int)) (q : Go p.tables e below G T (mkF m pc' ls st)) : Go p.tables e below G T (mkF m pc ls (y :: x :: st))   := by
  obtain ⟨_, _, _, X, -⟩ := W
  exact Go.by (fun t q => XT.acmpYes X.here B.1 rfl rfl (hb B.2.2.2.1 hd) rfl hx' hy' hc (by rw [hp]; exact Int.natCast_nonneg _) (by rw [hp]; exact Int.toNat_natCast _) q) q
theorem g_acmp_n (B : Bdy p Z s m meth c own bytes maxL ret nm) (W : Wk p l e R s m args below meth c Z T h k n ss) {cd : ClassFile.ACond} {x y : Value} {o : Int} (hd : decode bytes pc = .ok (.if_acmp cd o, 3)) (hx' : x.isRef = true) (hy' : y.isRef = true) (hc : XT.acmp cd x y = false) (q : Go p.tables e below G T (mkF m (pc + 3) ls st)) : Go p.tables e below G T (mkF m pc ls (y :: x :: st))   := by
  obtain ⟨_, _, _, X, -⟩ := W
  exact Go.by (fun t q => XT.acmpNo X.here B.1 rfl (hb B.2.2.2.1 hd) rfl hx' hy' hc q) q
theorem ss_mono {vm0 vm1 : Vm} (A : CHr Z EL vm0 h vm1 h') (hss : ∀ x ∈ ss, x < h.size ∧ Safe Z EL vm0 h x) : ∀ x ∈ ss, x < h'.size ∧ Safe Z EL vm1 h' x := fun x q => ⟨Nat.lt_of_lt_of_le (hss x q).1 A.2.1, A.safe (hss x q).1 (hss x q).2⟩
theorem own_ssn {vm0 : Vm} (E : Ext h h') (H : CHv Z EL vm0 h) (hlt : h.size < h'.size) (hss : ∀ x ∈ ss, x < h.size ∧ Safe Z EL vm0 h x) : ∀ x ∈ h.size :: ss, x < h'.size ∧ Safe Z EL vm0 h' x := fun x q => by
  rcases List.mem_cons.mp q with rfl | q
  · exact ⟨hlt, Safe.ext E H (Safe.new (Nat.le_refl _))⟩
  · exact ss_mono (CHr.ext E H) hss x q
theorem g_dia (P : Prop) [Decidable P] {tb : Tables} {F : JFrame} {pc' : Nat} (h1 : P → Go tb e below G T (mkF m pc' ls (.int 1 :: st)) → Go tb e below G T F) (h0 : ¬ P → Go tb e below G T (mkF m pc' ls (.int 0 :: st)) → Go tb e below G T F) (q : Go tb e below G T (mkF m pc' ls (.int (bi (decide P)) :: st))) : Go tb e below G T F := by
  by_cases hp : P
  · rw [decide_eq_true hp] at q; exact h1 hp q
  · rw [decide_eq_false hp] at q; exact h0 hp q
theorem g_diab (b : Bool) {tb : Tables} {F : JFrame} {pc' : Nat} (h1 : b = true → Go tb e below G T (mkF m pc' ls (.int 1 :: st)) → Go tb e below G T F) (h0 : b = false → Go tb e below G T (mkF m pc' ls (.int 0 :: st)) → Go tb e below G T F) (q : Go tb e below G T (mkF m pc' ls (.int (bi b) :: st))) : Go tb e below G T F := by
  cases b
  · exact h0 rfl q
  · exact h1 rfl q
theorem g_ldcI (B : Bdy p Z s m meth c own bytes maxL ret nm) (W : Wk p l e R s m args below meth c Z T h k n ss) {i : Nat} {v : Int32} (hd : decode bytes pc = .ok (.ldc i, 2)) (w : (Cond.constant own i v).before a0 Z = true) (q : Go p.tables e below G T (mkF m (pc + 2) ls (.int v :: st))) : Go p.tables e below G T (mkF m pc ls st) := by
  obtain ⟨_, _, _, X, _, _, _, S, -⟩ := W
  have B := B.at S
  exact Go.by (fun t q => X.ldcI B.1 B.2.2.1 (mv B.2.1 w) rfl (hb B.2.2.2.1 hd) q) q
theorem g_ldcL (B : Bdy p Z s m meth c own bytes maxL ret nm) (W : Wk p l e R s m args below meth c Z T h k n ss) {i : Nat} {v : Int64} (hd : decode bytes pc = .ok (.ldc2_w i, 3)) (w : (Cond.constantLong own i v).before a0 Z = true) (q : Go p.tables e below G T (mkF m (pc + 3) ls (.long v :: st))) : Go p.tables e below G T (mkF m pc ls st) := by
  obtain ⟨_, _, _, X, _, _, _, S, -⟩ := W
  have B := B.at S
  exact Go.by (fun t q => X.ldc2J B.1 B.2.2.1 (mv B.2.1 w) rfl (hb B.2.2.2.1 hd) q) q
/-! ### the heap's steps -/
theorem x_new (B : Bdy p Z s m meth c own bytes maxL ret nm) (W : Wk p l e R s m args below meth c Z T h k n ss) {C : String} {i sz : Nat} (hd : decode bytes pc = .ok (.new i, 3)) (w : (Cond.classLink own i C).before a0 Z = true) (wi : (Cond.instantiable C sz).before a0 Z = true) (wz : (Cond.initialized C).before a0 Z = true) (hc : k + 1 ≤ R.cells) (hl : n + sz ≤ R.slots) (ls : Array Slot) (st : List Value) :
    ∃ T' h' b, b = h.size ∧ Wk p l e R s m args below meth c Z T' h' (k + 1) (n + sz) (b :: ss) ∧ Keep h h' [] ∧ Exa Z h' b C ∧ (∀ {O nf d : String} {ty : FieldType}, Laid Z a0 C O nf d → parseFieldDescriptor d = some ty → Fld Z h' b O nf d (defaultValue ty)) ∧
      (∀ G, Go p.tables e below G T' (mkF m (pc + 3) ls (.ref b :: st)) → Go p.tables e below G T (mkF m pc ls st)) := by
  obtain ⟨locs, vm0, k0, X, eT, N, O, S, hk, H, hss⟩ := W
  have B := B.at S
  obtain ⟨T', h', X', e', E', A', D', -, st'⟩ := newO X B.1 B.2.1 B.2.2.1 w wi wz eT (g := mkF m pc ls st) rfl (hb B.2.2.2.1 hd) hc hl
  exact ⟨T', h', _, rfl, ⟨locs, vm0, k0, X', e', N, O.ext E', S, Nat.le_trans hk E'.1, H.trans (CHr.ext E' H.1), own_ssn E' H.1 (by first | exact A'.lt | exact (Arv.new A' hn).lt) hss⟩, (Keep.refl h []).ext E', A', D', fun G q => Go.by st' q⟩
theorem x_init (B : Bdy p Z s m meth c own bytes maxL ret nm) (W : Wk p l e R s m args below meth c Z T h k n ss) {i : Nat} (hd : decode bytes pc = .ok (.invokespecial i, 3)) (w1 : (Cond.methodLink own i Lib.objectInit).before a0 Z = true) (w2 : (Cond.instanceMethod Lib.objectInit).before a0 Z = true)
    (w3 : (Cond.code Lib.objectInit ⟨#[0xb1]⟩ 1 none).before a0 Z = true) (b : Addr) (ls : Array Slot) (st : List Value) (hsz : ls.size = maxL) (V : Nat) (hV : (st.map fun v => v.category).sum = V) (hf : 1 ≤ R.frames) (hl : V + 12 ≤ R.locals) :
    ∃ T', Wk p l e R s m args below meth c Z T' h k n ss ∧ (∀ G, Go p.tables e below G T' (mkF m (pc + 3) ls st) → Go p.tables e below G T (mkF m pc ls (.ref b :: st))) := by
  obtain ⟨locs, vm0, k0, X, eT, N, O, S, hk, H, hss⟩ := W
  have B := B.at S
  obtain ⟨T', X', e', st'⟩ := initO X B.1 B.2.1 B.2.2.1 w1 w2 w3 eT (g := mkF m pc ls (.ref b :: st)) rfl (hsz.trans B.2.2.2.2.1.symm) rfl (hb B.2.2.2.1 hd) hf (W := V) (by show 2 * 0 + _ ≤ _; omega) hl
  exact ⟨T', ⟨locs, vm0, k0, X', e', N, O, S, hk, H, hss⟩, fun G q => Go.by st' q⟩
theorem x_get (B : Bdy p Z s m meth c own bytes maxL ret nm) (W : Wk p l e R s m args below meth c Z T h k n ss) {R0 O nf d host : String} {i : Nat} {b : Addr} {v : Value} (hd : decode bytes pc = .ok (.getfield i, 3)) (w : (Cond.fieldLink own i R0 nf d).before a0 Z = true ∨ (Cond.fieldLinkNest own i R0 nf d host).before a0 Z = true) (via : Via Z R0 O nf d) (F : Fld Z h b O nf d v) (ls : Array Slot) (st : List Value) :
    ∃ T', Wk p l e R s m args below meth c Z T' h k n ss ∧ (∀ G, Go p.tables e below G T' (mkF m (pc + 3) ls (v :: st)) → Go p.tables e below G T (mkF m pc ls (.ref b :: st))) := by
  obtain ⟨locs, vm0, k0, X, eT, N, O', S, hk, H, hss⟩ := W
  have B := B.at S
  obtain ⟨T', X', e', st'⟩ := getF X B.1 B.2.1 B.2.2.1 w via eT F (g := mkF m pc ls (.ref b :: st)) rfl rfl (hb B.2.2.2.1 hd)
  exact ⟨T', ⟨locs, vm0, k0, X', e', N, O', S, hk, H, hss⟩, fun G q => Go.by st' q⟩
theorem x_gets (B : Bdy p Z s m meth c own bytes maxL ret nm) (W : Wk p l e R s m args below meth c Z T h k n ss) {R0 O nf d host : String} {i : Nat} {v : Value} (hd : decode bytes pc = .ok (.getstatic i, 3)) (w : (Cond.fieldLink own i R0 nf d).before a0 Z = true ∨ (Cond.fieldLinkNest own i R0 nf d host).before a0 Z = true) (via : Via Z R0 O nf d) (F : Sta Z Z.heap O nf d v) (ls : Array Slot) (st : List Value) :
    ∃ T', Wk p l e R s m args below meth c Z T' h k n ss ∧ (∀ G, Go p.tables e below G T' (mkF m (pc + 3) ls (v :: st)) → Go p.tables e below G T (mkF m pc ls st)) := by
  obtain ⟨locs, vm0, k0, X, eT, N, O', S, hk, H, hss⟩ := W
  have B := B.at S
  obtain ⟨T', X', e', st'⟩ := getS2 X B.1 B.2.1 B.2.2.1 w via eT (F.ext O'.2) (g := mkF m pc ls st) rfl (hb B.2.2.2.1 hd)
  exact ⟨T', ⟨locs, vm0, k0, X', e', N, O', S, hk, H, hss⟩, fun G q => Go.by st' q⟩
theorem x_put (B : Bdy p Z s m meth c own bytes maxL ret nm) (W : Wk p l e R s m args below meth c Z T h k n ss) {R0 O nf d C : String} {i kk : Nat} {ty : FieldType} {b : Addr} {v v' old : Value} (hd : decode bytes pc = .ok (.putfield i, 3)) (w : (Cond.fieldLink own i R0 nf d).before a0 Z = true) (via : Via Z R0 O nf d) (F : Fld Z h b O nf d old) (E : Exa Z h b C) (L : (Cond.lays C O nf d).before a0 Z = true ∨ ((Cond.laysFinal C O nf d).before a0 Z = true ∧ own = O ∧ nm = "<init>")) (wi : (Cond.instantiable C kk).before a0 Z = true)
    (hty : parseFieldDescriptor d = some ty) (hn : narrow ty v = v') (hf : fits ty v' = true) (hb' : Z.heap.size ≤ b) (hsf : (C ≠ "java/lang/String" ∧ C ≠ "[B") ∨ b ∈ ss) (ls : Array Slot) (st : List Value) :
    ∃ T' h', Wk p l e R s m args below meth c Z T' h' k n ss ∧ Keep h h' [b] ∧ Wr h h' b (RoadKit.slotOf Z O nf d) v' ∧ Fld Z h' b O nf d v' ∧ Exa Z h' b C ∧ (∀ G, Go p.tables e below G T' (mkF m (pc + 3) ls st) → Go p.tables e below G T (mkF m pc ls (v :: .ref b :: st))) := by
  obtain ⟨locs, vm0, k0, X, eT, N, O', S, hk, H, hss⟩ := W
  have B := B.at S
  obtain ⟨T', h', X', e', W', st'⟩ := putFN X B.1 B.2.1 B.2.2.1 w via eT F E (L.imp id fun q => ⟨q.1, q.2.1, B.nameOf.trans q.2.2⟩) wi hty hn hf (g := mkF m pc ls (v :: .ref b :: st)) rfl rfl (hb B.2.2.2.1 hd)
  exact ⟨T', h', ⟨_, vm0, k0, X', e', Fr.snoc X' N hb', O'.wr W' hb', S, by rw [W'.size]; exact hk, H.trans (CHr.wr W' (hsf.elim (fun q => Safe.exa B.2.1.alike E q.1 q.2) fun q => (hss _ q).2) H.1), ss_mono (CHr.wr W' (hsf.elim (fun q => Safe.exa B.2.1.alike E q.1 q.2) fun q => (hss _ q).2) H.1) hss⟩, Keep.of_wr W', W', F.same W', E.wr W', fun G q => Go.by st' q⟩
theorem x_instY (B : Bdy p Z s m meth c own bytes maxL ret nm) (W : Wk p l e R s m args below meth c Z T h k n ss) {K : String} {i : Nat} {b : Addr} (hd : decode bytes pc = .ok (.instanceof i, 3)) (w : (Cond.classLink own i K).before a0 Z = true) (F : Ins Z h b K true) (ls : Array Slot) (st : List Value) :
    ∃ T', Wk p l e R s m args below meth c Z T' h k n ss ∧ (∀ G, Go p.tables e below G T' (mkF m (pc + 3) ls (.int 1 :: st)) → Go p.tables e below G T (mkF m pc ls (.ref b :: st))) := by
  obtain ⟨locs, vm0, k0, X, eT, N, O, S, hk, H, hss⟩ := W
  have B := B.at S
  obtain ⟨T', X', e', st'⟩ := instY X B.1 B.2.1 B.2.2.1 w eT F (g := mkF m pc ls (.ref b :: st)) rfl rfl (hb B.2.2.2.1 hd)
  exact ⟨T', ⟨locs, vm0, k0, X', e', N, O, S, hk, H, hss⟩, fun G q => Go.by st' q⟩
theorem x_instN (B : Bdy p Z s m meth c own bytes maxL ret nm) (W : Wk p l e R s m args below meth c Z T h k n ss) {K C : String} {i : Nat} {b : Addr} (hd : decode bytes pc = .ok (.instanceof i, 3)) (w : (Cond.classLink own i K).before a0 Z = true) (E : Exa Z h b C) (F : ∃ c t, Z.vm.findClass C = some c ∧ Z.vm.findClass K = some t ∧ Z.vm.assignable c t = false) (ls : Array Slot) (st : List Value) :
    ∃ T', Wk p l e R s m args below meth c Z T' h k n ss ∧ (∀ G, Go p.tables e below G T' (mkF m (pc + 3) ls (.int 0 :: st)) → Go p.tables e below G T (mkF m pc ls (.ref b :: st))) := by
  obtain ⟨locs, vm0, k0, X, eT, N, O, S, hk, H, hss⟩ := W
  have B := B.at S
  obtain ⟨T', X', e', st'⟩ := instNo X B.1 B.2.1 B.2.2.1 w eT E F (g := mkF m pc ls (.ref b :: st)) rfl rfl (hb B.2.2.2.1 hd)
  exact ⟨T', ⟨locs, vm0, k0, X', e', N, O, S, hk, H, hss⟩, fun G q => Go.by st' q⟩
theorem x_castY (B : Bdy p Z s m meth c own bytes maxL ret nm) (W : Wk p l e R s m args below meth c Z T h k n ss) {K : String} {i : Nat} {b : Addr} (hd : decode bytes pc = .ok (.checkcast i, 3)) (w : (Cond.classLink own i K).before a0 Z = true) (F : Ins Z h b K true) (ls : Array Slot) (st : List Value) :
    ∃ T', Wk p l e R s m args below meth c Z T' h k n ss ∧ (∀ G, Go p.tables e below G T' (mkF m (pc + 3) ls (.ref b :: st)) → Go p.tables e below G T (mkF m pc ls (.ref b :: st))) := by
  obtain ⟨locs, vm0, k0, X, eT, N, O, S, hk, H, hss⟩ := W
  have B := B.at S
  obtain ⟨T', X', e', st'⟩ := castY X B.1 B.2.1 B.2.2.1 w eT F (g := mkF m pc ls (.ref b :: st)) rfl rfl (hb B.2.2.2.1 hd)
  exact ⟨T', ⟨locs, vm0, k0, X', e', N, O, S, hk, H, hss⟩, fun G q => Go.by st' q⟩
/-! ### arrays -/
theorem x_newA (B : Bdy p Z s m meth c own bytes maxL ret nm) (W : Wk p l e R s m args below meth c Z T h k n ss) {aty : ArrayType} {z : Int32} (cap : Nat) (hd : decode bytes pc = .ok (.newarray aty, 2)) (w : (Cond.arrayClass (newarray.typeOf aty)).before a0 Z = true) (hn : ¬ z < 0) (hcap : z.toNatClampNeg ≤ cap) (hbg : cap * 8 ≤ 536870912) (hc : k + 1 ≤ R.cells) (hl : n + cap ≤ R.slots) (ls : Array Slot) (st : List Value) :
    ∃ T' h' b cA, b = h.size ∧ Wk p l e R s m args below meth c Z T' h' (k + 1) (n + cap) (b :: ss) ∧ Keep h h' [] ∧ Arv Z h' b cA (newarray.typeOf aty) z (List.replicate cap (defaultValue (newarray.typeOf aty))) (defaultValue (newarray.typeOf aty)) ∧
      (∀ G, Go p.tables e below G T' (mkF m (pc + 2) ls (.ref b :: st)) → Go p.tables e below G T (mkF m pc ls (.int z :: st))) := by
  obtain ⟨locs, vm0, k0, X, eT, N, O, S, hk, H, hss⟩ := W
  have B := B.at S
  obtain ⟨T', h', cA, X', e', E', A', st'⟩ := newP X B.1 B.2.1 w eT (g := mkF m pc ls (.int z :: st)) rfl (hb B.2.2.2.1 hd) rfl hn hcap hbg hc hl
  exact ⟨T', h', _, cA, rfl, ⟨locs, vm0, k0, X', e', N, O.ext E', S, Nat.le_trans hk E'.1, H.trans (CHr.ext E' H.1), own_ssn E' H.1 (by first | exact A'.lt | exact (Arv.new A' hn).lt) hss⟩, (Keep.refl h []).ext E', (Arv.new A' hn).pad (vs' := [] ++ List.replicate cap _) (pad_rep [] _ cap), fun G q => Go.by st' q⟩
theorem arv_put {kc : ClassId} {ty : FieldType} {z j : Int32} {vs : List Value} {dv v : Value} {b : Addr} (F : Arv Z h b kc ty z vs dv) (hv : fits ty v = true) (hW : Wr h h' b j.toNatClampNeg v) (hi : j.toNatClampNeg < vs.length) : Arv Z h' b kc ty z (vs.set j.toNatClampNeg v) dv := by
  obtain ⟨cl, A, r1, r2, r3, H, Gf⟩ := F
  exact Arv.set A r1 r2 r3 H Gf hv hW _ rfl hi
theorem x_castore (B : Bdy p Z s m meth c own bytes maxL ret nm) (W : Wk p l e R s m args below meth c Z T h k n ss) {kc : ClassId} {z j x : Int32} {vs : List Value} {dv : Value} {b : Addr} (hd : decode bytes pc = .ok (.castore, 1)) (F : Arv Z h b kc .char z vs dv) (hj : ¬ j < 0 ∧ j < z) (hi : j.toNatClampNeg < vs.length) (hb' : Z.heap.size ≤ b) (ls : Array Slot) (st : List Value) :
    ∃ T' h', Wk p l e R s m args below meth c Z T' h' k n ss ∧ Keep h h' [b] ∧ Arv Z h' b kc .char z (vs.set j.toNatClampNeg (.int (nar .char x))) dv ∧ (∀ G, Go p.tables e below G T' (mkF m (pc + 1) ls st) → Go p.tables e below G T (mkF m pc ls (.int x :: .int j :: .ref b :: st))) := by
  obtain ⟨locs, vm0, k0, X, eT, N, O, S, hk, H, hss⟩ := W
  have B := B.at S
  have F' := F
  obtain ⟨cl, A, r1, r2, r3, Hs, Gf⟩ := F
  obtain ⟨T', h', X', e', W', st'⟩ := stC X B.1 B.2.1 eT A (inb_of r2 hj) (g := mkF m pc ls (.int x :: .int j :: .ref b :: st)) rfl rfl (hb B.2.2.2.1 hd)
  exact ⟨T', h', ⟨_, vm0, k0, X', e', Fr.snoc X' N hb', O.wr W' hb', S, by rw [W'.size]; exact hk, H.trans (CHr.wr W' (Safe.arv B.2.1.alike F' (by decide)) H.1), ss_mono (CHr.wr W' (Safe.arv B.2.1.alike F' (by decide)) H.1) hss⟩, Keep.of_wr W', arv_put F' (fits_nar_char _) W' hi, fun G q => Go.by st' q⟩
theorem arv_read {kc : ClassId} {ty : FieldType} {z : Int32} {vs : List Value} {dv : Value} {b : Addr} (F : Arv Z h b kc ty z vs dv) {j : Int32} (hj : ¬ j < 0 ∧ j < z) {v : Value} (hv : vs.getD j.toNatClampNeg dv = v) : ∃ cl : Cell, Arr Z h b cl ty ∧ ¬ (j < 0 ∨ cl.slots.size ≤ j.toNatClampNeg) ∧ cl.slots[j.toNatClampNeg]? = some v := by
  obtain ⟨cl, A, r1, r2, r3, H, -⟩ := F
  exact ⟨cl, A, inb_of r2 hj, H.at (inb_of r2 hj) hv⟩
theorem g_caload (B : Bdy p Z s m meth c own bytes maxL ret nm) (W : Wk p l e R s m args below meth c Z T h k n ss) {kc : ClassId} {z j : Int32} {vs : List Value} {dv v : Value} {b : Addr} (hd : decode bytes pc = .ok (.caload, 1)) (F : Arv Z h b kc .char z vs dv) (hj : ¬ j < 0 ∧ j < z) (hv : vs.getD j.toNatClampNeg dv = v)
    (q : Go p.tables e below G T (mkF m (pc + 1) ls (v :: st))) : Go p.tables e below G T (mkF m pc ls (.int j :: .ref b :: st)) := by
  obtain ⟨locs, vm0, k0, X, eT, N, O, S, hk, H, hss⟩ := W
  have B := B.at S
  obtain ⟨cl, A, hin, hat⟩ := arv_read F hj hv
  exact Go.by (X.caload B.1 (by rw [eT]; exact A.1) (State.isArrayOf_alike B.2.1.alike A.2.1) A.2.2 hin hat (g := mkF m pc ls (.int j :: .ref b :: st)) rfl rfl (hb B.2.2.2.1 hd)) q
theorem g_caloadK (B : Bdy p Z s m meth c own bytes maxL ret nm) (W : Wk p l e R s m args below meth c Z T h k n ss) {j : Int32} {v : Value} {cl : Cell} {b : Addr} (hd : decode bytes pc = .ok (.caload, 1)) (A : Arr Z h b cl .char) (hin : ¬ (j < 0 ∨ cl.slots.size ≤ j.toNatClampNeg)) (hat : cl.slots[j.toNatClampNeg]? = some v)
    (q : Go p.tables e below G T (mkF m (pc + 1) ls (v :: st))) : Go p.tables e below G T (mkF m pc ls (.int j :: .ref b :: st)) := by
  obtain ⟨locs, vm0, k0, X, eT, N, O, S, hk, H, hss⟩ := W
  have B := B.at S
  exact Go.by (X.caload B.1 (by rw [eT]; exact A.1) (State.isArrayOf_alike B.2.1.alike A.2.1) A.2.2 hin hat (g := mkF m pc ls (.int j :: .ref b :: st)) rfl rfl (hb B.2.2.2.1 hd)) q
theorem g_alenK (B : Bdy p Z s m meth c own bytes maxL ret nm) (W : Wk p l e R s m args below meth c Z T h k n ss) {ty : FieldType} {z : Int32} {cl : Cell} {b : Addr} (hd : decode bytes pc = .ok (.arraylength, 1)) (A : Arr Z h b cl ty) (hz : cl.slots.size.toInt32 = z)
    (q : Go p.tables e below G T (mkF m (pc + 1) ls (.int z :: st))) : Go p.tables e below G T (mkF m pc ls (.ref b :: st)) := by
  obtain ⟨locs, vm0, k0, X, eT, N, O, S, hk, H, hss⟩ := W
  have B := B.at S
  refine Go.by (X.arraylength B.1 (by rw [eT]; exact A.1) (State.isArrayOf_alike B.2.1.alike A.2.1) (g := mkF m pc ls (.ref b :: st)) rfl rfl (hb B.2.2.2.1 hd)) ?_
  rw [hz]; exact q
theorem g_aalen (B : Bdy p Z s m meth c own bytes maxL ret nm) (W : Wk p l e R s m args below meth c Z T h k n ss) {kc : ClassId} {ty : FieldType} {z : Int32} {vs : List Value} {dv : Value} {b : Addr} (hd : decode bytes pc = .ok (.arraylength, 1)) (F : Arv Z h b kc ty z vs dv)
    (q : Go p.tables e below G T (mkF m (pc + 1) ls (.int z :: st))) : Go p.tables e below G T (mkF m pc ls (.ref b :: st)) := by
  obtain ⟨locs, vm0, k0, X, eT, N, O, S, hk, H, hss⟩ := W
  have B := B.at S
  obtain ⟨cl, A, r1, r2, r3, H, -⟩ := F
  refine Go.by (X.arraylength B.1 (by rw [eT]; exact A.1) (State.isArrayOf_alike B.2.1.alike A.2.1) (g := mkF m pc ls (.ref b :: st)) rfl rfl (hb B.2.2.2.1 hd)) ?_
  rw [len_of r2 r3]; exact q
theorem g_aaload (B : Bdy p Z s m meth c own bytes maxL ret nm) (W : Wk p l e R s m args below meth c Z T h k n ss) {ty : FieldType} {j : Int32} {v : Value} {cl : Cell} {b : Addr} (hd : decode bytes pc = .ok (.aaload, 1)) (A : Arr Z h b cl ty) (ht : ty.isReference = true) (hin : ¬ (j < 0 ∨ cl.slots.size ≤ j.toNatClampNeg)) (hat : cl.slots[j.toNatClampNeg]? = some v)
    (q : Go p.tables e below G T (mkF m (pc + 1) ls (v :: st))) : Go p.tables e below G T (mkF m pc ls (.int j :: .ref b :: st)) := by
  obtain ⟨locs, vm0, k0, X, eT, N, O, S, hk, H, hss⟩ := W
  have B := B.at S
  exact Go.by (X.aaload B.1 (by rw [eT]; exact A.1) (State.isArrayOf_alike B.2.1.alike A.2.1) ht A.2.2 hin hat (g := mkF m pc ls (.int j :: .ref b :: st)) rfl rfl (hb B.2.2.2.1 hd)) q
theorem g_instNull (B : Bdy p Z s m meth c own bytes maxL ret nm) (W : Wk p l e R s m args below meth c Z T h k n ss) {i : Nat} (hd : decode bytes pc = .ok (.instanceof i, 3)) (q : Go p.tables e below G T (mkF m (pc + 3) ls (.int 0 :: st))) : Go p.tables e below G T (mkF m pc ls (.null :: st)) := by
  obtain ⟨_, _, _, X, _, _, _, S, -⟩ := W
  have B := B.at S
  exact Go.by (X.instanceofNull B.1 (g := mkF m pc ls (.null :: st)) rfl rfl (hb B.2.2.2.1 hd)) q
theorem g_castNull (B : Bdy p Z s m meth c own bytes maxL ret nm) (W : Wk p l e R s m args below meth c Z T h k n ss) {i : Nat} (hd : decode bytes pc = .ok (.checkcast i, 3)) (q : Go p.tables e below G T (mkF m (pc + 3) ls (.null :: st))) : Go p.tables e below G T (mkF m pc ls (.null :: st)) := by
  obtain ⟨_, _, _, X, _, _, _, S, -⟩ := W
  have B := B.at S
  refine Go.by (fun t q => ?_) q
  jvm_step X.here [B.1, (hb B.2.2.2.1 hd), checkcast.sem]
  exact q
theorem x_newR (B : Bdy p Z s m meth c own bytes maxL ret nm) (W : Wk p l e R s m args below meth c Z T h k n ss) {C : String} {i : Nat} {z : Int32} (cap : Nat) (hd : decode bytes pc = .ok (.anewarray i, 3)) (w1 : (Cond.classLink own i C).before a0 Z = true) (w2 : (Cond.arrayOver (.object C)).before a0 Z = true) (hn : ¬ z < 0) (hcap : z.toNatClampNeg ≤ cap) (hbg : cap * 8 ≤ 536870912) (hc : k + 1 ≤ R.cells) (hl : n + cap ≤ R.slots) (ls : Array Slot) (st : List Value) :
    ∃ T' h' b cA, b = h.size ∧ Wk p l e R s m args below meth c Z T' h' (k + 1) (n + cap) (b :: ss) ∧ Keep h h' [] ∧ Arv Z h' b cA (.object C) z (List.replicate cap .null) .null ∧ Ovr Z cA C ∧
      (∀ G, Go p.tables e below G T' (mkF m (pc + 3) ls (.ref b :: st)) → Go p.tables e below G T (mkF m pc ls (.int z :: st))) := by
  obtain ⟨locs, vm0, k0, X, eT, N, O, S, hk, H, hss⟩ := W
  have B := B.at S
  obtain ⟨T', h', cA, X', e', E', A', Ov', st'⟩ := newR X B.1 B.2.1 B.2.2.1 w1 w2 eT (g := mkF m pc ls (.int z :: st)) rfl (hb B.2.2.2.1 hd) rfl hn hcap hbg hc hl
  exact ⟨T', h', _, cA, rfl, ⟨locs, vm0, k0, X', e', N, O.ext E', S, Nat.le_trans hk E'.1, H.trans (CHr.ext E' H.1), own_ssn E' H.1 (by first | exact A'.lt | exact (Arv.new A' hn).lt) hss⟩, (Keep.refl h []).ext E', (Arv.new A' hn).pad (vs' := [] ++ List.replicate cap _) (pad_rep [] _ cap), Ov', fun G q => Go.by st' q⟩
theorem x_aastore (B : Bdy p Z s m meth c own bytes maxL ret nm) (W : Wk p l e R s m args below meth c Z T h k n ss) {kc : ClassId} {ty : FieldType} {z j : Int32} {vs : List Value} {dv v : Value} {b : Addr} (hd : decode bytes pc = .ok (.aastore, 1)) (F : Arv Z h b kc ty z vs dv) (ht : ty.isReference = true) (hj : ¬ j < 0 ∧ j < z) (hi : j.toNatClampNeg < vs.length) (hv : v.isRef = true) (hS : ∀ cl, Arr Z h b cl ty → cl.cls = kc → Sto Z h b v) (hb' : Z.heap.size ≤ b) (ls : Array Slot) (st : List Value) :
    ∃ T' h', Wk p l e R s m args below meth c Z T' h' k n ss ∧ Keep h h' [b] ∧ Arv Z h' b kc ty z (vs.set j.toNatClampNeg v) dv ∧ (∀ G, Go p.tables e below G T' (mkF m (pc + 1) ls st) → Go p.tables e below G T (mkF m pc ls (v :: .int j :: .ref b :: st))) := by
  obtain ⟨locs, vm0, k0, X, eT, N, O, S, hk, H, hss⟩ := W
  have B := B.at S
  have F' := F
  have hby : ty ≠ .byte := fun q => by rw [q] at ht; cases ht
  obtain ⟨cl, A, r1, r2, r3, Hs, Gf⟩ := F
  obtain ⟨T', h', X', e', W', st'⟩ := stR X B.1 B.2.1 eT A (inb_of r2 hj) ht (hS cl A r1) (g := mkF m pc ls (v :: .int j :: .ref b :: st)) rfl rfl (hb B.2.2.2.1 hd)
  exact ⟨T', h', ⟨_, vm0, k0, X', e', Fr.snoc X' N hb', O.wr W' hb', S, by rw [W'.size]; exact hk, H.trans (CHr.wr W' (Safe.arv B.2.1.alike F' hby) H.1), ss_mono (CHr.wr W' (Safe.arv B.2.1.alike F' hby) H.1) hss⟩, Keep.of_wr W', arv_put F' (own_fr ht hv) W' hi, fun G q => Go.by st' q⟩
theorem g_aaloadV (B : Bdy p Z s m meth c own bytes maxL ret nm) (W : Wk p l e R s m args below meth c Z T h k n ss) {kc : ClassId} {ty : FieldType} {z j : Int32} {vs : List Value} {dv v : Value} {b : Addr} (hd : decode bytes pc = .ok (.aaload, 1)) (F : Arv Z h b kc ty z vs dv) (ht : ty.isReference = true) (hj : ¬ j < 0 ∧ j < z) (hv : vs.getD j.toNatClampNeg dv = v)
    (q : Go p.tables e below G T (mkF m (pc + 1) ls (v :: st))) : Go p.tables e below G T (mkF m pc ls (.int j :: .ref b :: st)) := by
  obtain ⟨cl, A, hin, hat⟩ := arv_read F hj hv
  exact g_aaload B W hd A ht hin hat q
theorem x_clone (B : Bdy p Z s m meth c own bytes maxL ret nm) (W : Wk p l e R s m args below meth c Z T h k n ss) {ad : String} {i : Nat} {b : Addr} {cl : Cell} {ty : FieldType} (cap : Nat) (hd : decode bytes pc = .ok (.invokevirtual i, 3)) (w1 : (Cond.methodLink own i ⟨ad, "clone", "()Ljava/lang/Object;"⟩).before a0 Z = true) (w2 : (Cond.sameMethod ad "java/lang/Object" "clone" "()Ljava/lang/Object;").before a0 Z = true) (w3 : (Cond.native ⟨"java/lang/Object", "clone", "()Ljava/lang/Object;"⟩).before a0 Z = true)
    (w4 : (Cond.instanceMethod ⟨"java/lang/Object", "clone", "()Ljava/lang/Object;"⟩).before a0 Z = true) (w5 : (Cond.selects ad ⟨ad, "clone", "()Ljava/lang/Object;"⟩ ⟨"java/lang/Object", "clone", "()Ljava/lang/Object;"⟩).before a0 Z = true) (w6 : (Cond.castable ad "java/lang/Cloneable").before a0 Z = true) (A : Arr Z h b cl ty) (E : Exa Z h b ad) (F : FitC Z cl)
    (ls : Array Slot) (st : List Value) (hsz : ls.size = maxL) (V : Nat) (hV : (st.map fun v => v.category).sum = V) (hf : 1 ≤ R.frames) (hl : V + 14 ≤ R.locals) (hcap : cl.slots.size ≤ cap) (hc : k + 1 ≤ R.cells) (hs : n + cap ≤ R.slots) :
    ∃ T' h' b', b' = h.size ∧ Wk p l e R s m args below meth c Z T' h' (k + 1) (n + cap) (b' :: ss) ∧ Keep h h' [] ∧ Arr Z h' b' (cloneOf cl) ty ∧ Exa Z h' b' ad ∧ (∀ G, Go p.tables e below G T' (mkF m (pc + 3) ls (.ref b' :: st)) → Go p.tables e below G T (mkF m pc ls (.ref b :: st))) := by
  obtain ⟨locs, vm0, k0, X, eT, N, O, S, hk, H, hss⟩ := W
  have B := B.at S
  obtain ⟨T', h', X', e', E', A', Ex', st'⟩ := cloneA X B.1 B.2.1 B.2.2.1 w1 w2 w3 w4 w5 w6 eT A E F (g := mkF m pc ls (.ref b :: st)) rfl (hsz.trans B.2.2.2.2.1.symm) rfl (hb B.2.2.2.1 hd) hf (W := V) (by show 2 * 0 + _ ≤ _; omega) hl hcap hc hs
  exact ⟨T', h', _, rfl, ⟨locs, vm0, k0, X', e', N, O.ext E', S, Nat.le_trans hk E'.1, H.trans (CHr.ext E' H.1), own_ssn E' H.1 (by first | exact A'.lt | exact (Arv.new A' hn).lt) hss⟩, (Keep.refl h []).ext E', A', Ex', fun G q => Go.by st' q⟩
theorem x_cloneV (B : Bdy p Z s m meth c own bytes maxL ret nm) (W : Wk p l e R s m args below meth c Z T h k n ss) {ad : String} {i : Nat} {b : Addr} {kc : ClassId} {ty : FieldType} {z : Int32} {vs : List Value} {dv : Value} (cap : Nat) (hd : decode bytes pc = .ok (.invokevirtual i, 3)) (w1 : (Cond.methodLink own i ⟨ad, "clone", "()Ljava/lang/Object;"⟩).before a0 Z = true) (w2 : (Cond.sameMethod ad "java/lang/Object" "clone" "()Ljava/lang/Object;").before a0 Z = true) (w3 : (Cond.native ⟨"java/lang/Object", "clone", "()Ljava/lang/Object;"⟩).before a0 Z = true)
    (w4 : (Cond.instanceMethod ⟨"java/lang/Object", "clone", "()Ljava/lang/Object;"⟩).before a0 Z = true) (w5 : (Cond.selects ad ⟨ad, "clone", "()Ljava/lang/Object;"⟩ ⟨"java/lang/Object", "clone", "()Ljava/lang/Object;"⟩).before a0 Z = true) (w6 : (Cond.castable ad "java/lang/Cloneable").before a0 Z = true) (F : Arv Z h b kc ty z vs dv) (E : Exa Z h b ad)
    (ls : Array Slot) (st : List Value) (hsz : ls.size = maxL) (V : Nat) (hV : (st.map fun v => v.category).sum = V) (hf : 1 ≤ R.frames) (hl : V + 14 ≤ R.locals) (hcap : z.toNatClampNeg ≤ cap) (hc : k + 1 ≤ R.cells) (hs : n + cap ≤ R.slots) :
    ∃ T' h' b', b' = h.size ∧ Wk p l e R s m args below meth c Z T' h' (k + 1) (n + cap) (b' :: ss) ∧ Keep h h' [] ∧ Arv Z h' b' kc ty z vs dv ∧ Exa Z h' b' ad ∧ (∀ G, Go p.tables e below G T' (mkF m (pc + 3) ls (.ref b' :: st)) → Go p.tables e below G T (mkF m pc ls (.ref b :: st))) := by
  obtain ⟨cl, A, r1, r2, r3, H, G⟩ := F
  obtain ⟨T', h', b', eb, W', K, A', E', st'⟩ := x_clone B W cap hd w1 w2 w3 w4 w5 w6 A E (fitC_of A (fun i hi v hv => by have q := H i hi; rw [hv] at q; cases q; exact G i hi)) ls st hsz V hV hf hl (r2 ▸ hcap) hc hs
  exact ⟨T', h', b', eb, W', K, ⟨_, A', r1, r2, r3, H, G⟩, E', st'⟩
theorem x_newE (B : Bdy p Z s m meth c own bytes maxL ret nm) (W : Wk p l e R s m args below meth c Z T h k n ss) {aty : ArrayType} {z : Int32} {ad : String} (cap : Nat) (hd : decode bytes pc = .ok (.newarray aty, 2)) (w : (Cond.arrayClass (newarray.typeOf aty)).before a0 Z = true) (hn : ¬ z < 0) (hcap : z.toNatClampNeg ≤ cap) (hbg : cap * 8 ≤ 536870912) (hc : k + 1 ≤ R.cells) (hl : n + cap ≤ R.slots) (had : "[" ++ (newarray.typeOf aty).toString = ad) (ls : Array Slot) (st : List Value) :
    ∃ T' h' b cA, b = h.size ∧ Wk p l e R s m args below meth c Z T' h' (k + 1) (n + cap) (b :: ss) ∧ Keep h h' [] ∧ Arv Z h' b cA (newarray.typeOf aty) z (List.replicate cap (defaultValue (newarray.typeOf aty))) (defaultValue (newarray.typeOf aty)) ∧ Exa Z h' b ad ∧
      (∀ G, Go p.tables e below G T' (mkF m (pc + 2) ls (.ref b :: st)) → Go p.tables e below G T (mkF m pc ls (.int z :: st))) := by
  obtain ⟨locs, vm0, k0, X, eT, N, O, S, hk, H, hss⟩ := W
  have B := B.at S
  obtain ⟨T', h', cA, X', e', E', A', Ex', st'⟩ := newPE X B.1 B.2.1 w eT (g := mkF m pc ls (.int z :: st)) rfl (hb B.2.2.2.1 hd) rfl hn hcap hbg hc hl had
  exact ⟨T', h', _, cA, rfl, ⟨locs, vm0, k0, X', e', N, O.ext E', S, Nat.le_trans hk E'.1, H.trans (CHr.ext E' H.1), own_ssn E' H.1 (by first | exact A'.lt | exact (Arv.new A' hn).lt) hss⟩, (Keep.refl h []).ext E', (Arv.new A' hn).pad (vs' := [] ++ List.replicate cap _) (pad_rep [] _ cap), Ex', fun G q => Go.by st' q⟩
theorem x_bastore (B : Bdy p Z s m meth c own bytes maxL ret nm) (W : Wk p l e R s m args below meth c Z T h k n ss) {kc : ClassId} {z j x : Int32} {vs : List Value} {dv : Value} {b : Addr} (hd : decode bytes pc = .ok (.bastore, 1)) (F : Arv Z h b kc .byte z vs dv) (hj : ¬ j < 0 ∧ j < z) (hi : j.toNatClampNeg < vs.length) (hb' : Z.heap.size ≤ b) (hsb : b ∈ ss) (ls : Array Slot) (st : List Value) :
    ∃ T' h', Wk p l e R s m args below meth c Z T' h' k n ss ∧ Keep h h' [b] ∧ Arv Z h' b kc .byte z (vs.set j.toNatClampNeg (.int (nar .byte x))) dv ∧ (∀ G, Go p.tables e below G T' (mkF m (pc + 1) ls st) → Go p.tables e below G T (mkF m pc ls (.int x :: .int j :: .ref b :: st))) := by
  obtain ⟨locs, vm0, k0, X, eT, N, O, S, hk, H, hss⟩ := W
  have B := B.at S
  have F' := F
  obtain ⟨cl, A, r1, r2, r3, Hs, Gf⟩ := F
  obtain ⟨T', h', X', e', W', st'⟩ := stB X B.1 B.2.1 eT A (inb_of r2 hj) (g := mkF m pc ls (.int x :: .int j :: .ref b :: st)) rfl rfl (hb B.2.2.2.1 hd)
  exact ⟨T', h', ⟨_, vm0, k0, X', e', Fr.snoc X' N hb', O.wr W' hb', S, by rw [W'.size]; exact hk, H.trans (CHr.wr W' (hss _ hsb).2 H.1), ss_mono (CHr.wr W' (hss _ hsb).2 H.1) hss⟩, Keep.of_wr W', arv_put F' (fits_nar_byte _) W' hi, fun G q => Go.by st' q⟩
theorem g_baload (B : Bdy p Z s m meth c own bytes maxL ret nm) (W : Wk p l e R s m args below meth c Z T h k n ss) {kc : ClassId} {z j : Int32} {vs : List Value} {dv v : Value} {b : Addr} (hd : decode bytes pc = .ok (.baload, 1)) (F : Arv Z h b kc .byte z vs dv) (hj : ¬ j < 0 ∧ j < z) (hv : vs.getD j.toNatClampNeg dv = v)
    (q : Go p.tables e below G T (mkF m (pc + 1) ls (v :: st))) : Go p.tables e below G T (mkF m pc ls (.int j :: .ref b :: st)) := by
  obtain ⟨locs, vm0, k0, X, eT, N, O, S, hk, H, hss⟩ := W
  have B := B.at S
  obtain ⟨cl, A, hin, hat⟩ := arv_read F hj hv
  exact Go.by (X.baloadBytes B.1 (by rw [eT]; exact A.1) (State.isArrayOf_alike B.2.1.alike A.2.1) A.2.2 hin hat (g := mkF m pc ls (.int j :: .ref b :: st)) rfl rfl (hb B.2.2.2.1 hd)) q
theorem x_acopy (B : Bdy p Z s m meth c own bytes maxL ret nm) (W : Wk p l e R s m args below meth c Z T h k n ss) {i : Nat} {ka kb : ClassId} {ty ty' : FieldType} {za zb sp dp nn : Int32} {va vb us : List Value} {da db : Value} {a b : Addr} (hd : decode bytes pc = .ok (.invokestatic i, 3)) (w1 : (Cond.methodLink own i Jvm.Stand.acN).before a0 Z = true) (w2 : (Cond.native Jvm.Stand.acN).before a0 Z = true) (w3 : (Cond.static Jvm.Stand.acN).before a0 Z = true) (w4 : (Cond.initialized "java/lang/System").before a0 Z = true)
    (A : Arv Z h a ka ty za va da) (A' : Arv Z h b kb ty' zb vb db) (hty : (ty = ty' ∧ refKind ty = false) ∨ (refKind ty = true ∧ refKind ty' = true ∧ StoL Z h b us)) (h1 : ¬ sp < 0) (h2 : ¬ dp < 0) (h3 : ¬ nn < 0) (h4 : sp.toNatClampNeg + nn.toNatClampNeg ≤ za.toNatClampNeg) (h5 : dp.toNatClampNeg + nn.toNatClampNeg ≤ zb.toNatClampNeg)
    (hus : us = (List.range nn.toNatClampNeg).map fun i => va.getD (sp.toNatClampNeg + i) da) (hl : dp.toNatClampNeg + nn.toNatClampNeg ≤ vb.length) (hb' : Z.heap.size ≤ b) (hsb : b ∈ ss) (ls : Array Slot) (st : List Value) (hsz : ls.size = maxL) (V : Nat) (hV : (st.map fun v => v.category).sum = V) (hf : 1 ≤ R.frames) (hlo : V + (nativeFrameWords "java/lang/System" "arraycopy" 5 + 11) ≤ R.locals) :
    ∃ T' h', Wk p l e R s m args below meth c Z T' h' k n ss ∧ Keep h h' [b] ∧ Arv Z h' b kb ty' zb (vb.take dp.toNatClampNeg ++ us ++ vb.drop (dp.toNatClampNeg + nn.toNatClampNeg)) db ∧ (∀ G, Go p.tables e below G T' (mkF m (pc + 3) ls st) → Go p.tables e below G T (mkF m pc ls (.int nn :: .int dp :: .ref b :: .int sp :: .ref a :: st))) := by
  obtain ⟨locs, vm0, k0, X, eT, N, O, S, hk, H, hss⟩ := W
  have B := B.at S
  obtain ⟨T', h', L', X', e', N', K', F', st'⟩ := cpA X B.1 B.2.1 B.2.2.1 w1 w2 w3 w4 eT A A' hty h1 h2 h3 h4 h5 hus hl N hb' (g := mkF m pc ls (.int nn :: .int dp :: .ref b :: .int sp :: .ref a :: st)) rfl (hsz.trans B.2.2.2.2.1.symm) rfl (hb B.2.2.2.1 hd) hf (W := V) (by show 2 * 0 + _ ≤ _; omega) hlo
  exact ⟨T', h', ⟨_, vm0, k0, X', e', N', O.keep K' (allS hb' all0), S, Nat.le_trans hk K'.1, H.trans (CHr.keep K' (allS (hss _ hsb).2 all0) H.1), ss_mono (CHr.keep K' (allS (hss _ hsb).2 all0) H.1) hss⟩, K', F', fun G q => Go.by st' q⟩
def Mi (Z : State) (C : String) (mr : Addr) : Prop := ∃ (c : ClassId) (k : Class), Z.vm.findClass C = some c ∧ Z.vm.classes[c]? = some k ∧ k.mirror = some mr
theorem x_getClass (B : Bdy p Z s m meth c own bytes maxL ret nm) (W : Wk p l e R s m args below meth c Z T h k n ss) {C : String} {i : Nat} {b mr : Addr} (hd : decode bytes pc = .ok (.invokevirtual i, 3)) (w1 : (Cond.methodLink own i ⟨"java/lang/Object", "getClass", "()Ljava/lang/Class;"⟩).before a0 Z = true) (w2 : (Cond.declares ⟨"java/lang/Object", "getClass", "()Ljava/lang/Class;"⟩).before a0 Z = true) (w4 : (Cond.selects C ⟨"java/lang/Object", "getClass", "()Ljava/lang/Class;"⟩ ⟨"java/lang/Object", "getClass", "()Ljava/lang/Class;"⟩).before a0 Z = true)
    (w5 : (Cond.instanceMethod ⟨"java/lang/Object", "getClass", "()Ljava/lang/Class;"⟩).before a0 Z = true) (w6 : (Cond.native ⟨"java/lang/Object", "getClass", "()Ljava/lang/Class;"⟩).before a0 Z = true) (E : Exa Z h b C) (M : Mi Z C mr) (ls : Array Slot) (st : List Value) (hsz : ls.size = maxL) (V : Nat) (hV : (st.map fun v => v.category).sum = V) (hf : 1 ≤ R.frames) (hl : V + (nativeFrameWords "java/lang/Object" "getClass" 1 + 11) ≤ R.locals) :
    ∃ T', Wk p l e R s m args below meth c Z T' h k n ss ∧ (∀ G, Go p.tables e below G T' (mkF m (pc + 3) ls (.ref mr :: st)) → Go p.tables e below G T (mkF m pc ls (.ref b :: st))) := by
  obtain ⟨locs, vm0, k0, X, eT, N, O, S, hk, H, hss⟩ := W
  have B := B.at S
  obtain ⟨cB, kB, i1, i2, i3⟩ := isOf B.2.1 eT E
  obtain ⟨cc, kc, m1, m2, m3⟩ := M
  rw [B.2.1.alike.findClass] at i1
  cases i1.symm.trans m1
  obtain ⟨k', q, ek⟩ := B.2.1.alike.2.2 _ _ m2
  obtain ⟨vm', X', st'⟩ := X.getClassOf B.1 B.2.2.1 (mvT B.2.1 w1) (mvT B.2.1 w2) (notFace_of_selects (args := #[]) (mvT B.2.1 w4)) (mvT B.2.1 w4) (mvT B.2.1 w5) (mvT B.2.1 w6) (by rw [B.2.1.alike.findClass]; exact m1) i3 q (by rw [ek]; exact m3) (g := mkF m pc ls (.ref b :: st)) rfl (hsz.trans B.2.2.2.2.1.symm) rfl (hb B.2.2.2.1 hd) hf (by show 2 * 0 + _ + _ ≤ _; omega)
  have e' : (T.setVm vm').heap = h := eT
  have X' := X'
  exact ⟨_, ⟨locs, vm0, k0, X', e', N, O, S, hk, H, hss⟩, fun G q => Go.by st' q⟩
theorem x_ldcM (B : Bdy p Z s m meth c own bytes maxL ret nm) (W : Wk p l e R s m args below meth c Z T h k n ss) {C : String} {i : Nat} {mr : Addr} (hd : decode bytes pc = .ok (.ldc i, 2)) (w : (Cond.classLink own i C).before a0 Z = true) (M : Mi Z C mr) (ls : Array Slot) (st : List Value) :
    ∃ T', Wk p l e R s m args below meth c Z T' h k n ss ∧ (∀ G, Go p.tables e below G T' (mkF m (pc + 2) ls (.ref mr :: st)) → Go p.tables e below G T (mkF m pc ls st)) := by
  obtain ⟨locs, vm0, k0, X, eT, N, O, S, hk, H, hss⟩ := W
  have B := B.at S
  obtain ⟨cc, kc, m1, m2, m3⟩ := M
  obtain ⟨k', q, ek⟩ := B.2.1.alike.2.2 _ _ m2
  have m1' := (B.2.1.alike.findClass C none).trans m1
  have e0 : k'.mirror = some mr := by rw [ek]; exact m3
  obtain ⟨vm', X', st'⟩ := X.ldcMirror B.1 B.2.2.1 (mv B.2.1 w) (C := C) (a := mr) (by first | (simp [Term.eval, m1', q, e0]; done) | (simp [State.setVm] at m1' q; simp [Term.eval, State.setVm, m1', q, e0]; done)) (g := mkF m pc ls st) rfl (hb B.2.2.2.1 hd)
  have e' : (T.setVm vm').heap = h := eT
  exact ⟨_, ⟨locs, vm0, k0, X', e', N, O, S, hk, H, hss⟩, fun G q => Go.by st' q⟩
theorem x_newRE (B : Bdy p Z s m meth c own bytes maxL ret nm) (W : Wk p l e R s m args below meth c Z T h k n ss) {C ad : String} {i : Nat} {z : Int32} (cap : Nat) (hd : decode bytes pc = .ok (.anewarray i, 3)) (w1 : (Cond.classLink own i C).before a0 Z = true) (w2 : (Cond.arrayOver (.object C)).before a0 Z = true) (hn : ¬ z < 0) (hcap : z.toNatClampNeg ≤ cap) (hbg : cap * 8 ≤ 536870912) (hc : k + 1 ≤ R.cells) (hl : n + cap ≤ R.slots) (had : "[" ++ (FieldType.object C).toString = ad) (ls : Array Slot) (st : List Value) :
    ∃ T' h' b cA, b = h.size ∧ Wk p l e R s m args below meth c Z T' h' (k + 1) (n + cap) (b :: ss) ∧ Keep h h' [] ∧ Arv Z h' b cA (.object C) z (List.replicate cap .null) .null ∧ Ovr Z cA C ∧ Exa Z h' b ad ∧
      (∀ G, Go p.tables e below G T' (mkF m (pc + 3) ls (.ref b :: st)) → Go p.tables e below G T (mkF m pc ls (.int z :: st))) := by
  obtain ⟨locs, vm0, k0, X, eT, N, O, S, hk, H, hss⟩ := W
  have B := B.at S
  obtain ⟨T', h', cA, X', e', E', A', Ex', Ov', st'⟩ := newRE X B.1 B.2.1 B.2.2.1 w1 w2 eT (g := mkF m pc ls (.int z :: st)) rfl (hb B.2.2.2.1 hd) rfl hn hcap hbg hc hl had
  exact ⟨T', h', _, cA, rfl, ⟨locs, vm0, k0, X', e', N, O.ext E', S, Nat.le_trans hk E'.1, H.trans (CHr.ext E' H.1), own_ssn E' H.1 (by first | exact A'.lt | exact (Arv.new A' hn).lt) hss⟩, (Keep.refl h []).ext E', (Arv.new A' hn).pad (vs' := [] ++ List.replicate cap _) (pad_rep [] _ cap), Ov', Ex', fun G q => Go.by st' q⟩
/-! ### calls -/
theorem backC {vm0 : Vm} {y : MethodName} {yb : ByteArray} {yL : Nat} {yr : Option FieldType} {rm : Room} {len V : Nat} {as' : Array Value} {s0 : List Addr} (C : Con l Z y yb yL yr [] rm as' h Q s0) (O : Old Z Z.heap.size h) (hWd : Wd Z)
    (hZ : Z.Warmed39 vm0) (wc : (Cond.code y yb yL yr).before a0 Z = true) (wz : (Cond.initialized y.cls).before a0 Z = true) (hf : rm.frames + 1 ≤ R.frames) (hl : V + (yL + 11) + rm.locals ≤ R.locals) (H : CHv Z EL vm0 h) (hs0 : ∀ x ∈ s0, x < h.size ∧ Safe Z EL vm0 h x) :
    BackS l R p e below (s.setVm vm0) args y len V (fun A a => a = as' ∧ A.U.heap = h ∧ A.cells + rm.cells ≤ R.cells ∧ A.slots + rm.slots ≤ R.slots)
      (fun A _ v B => ∃ L, (Q v B.U.heap ∧ Fr Z.heap.size L ∧ Old Z Z.heap.size B.U.heap) ∧ B.locs = A.locs ++ L ∧ B.cells = A.cells + rm.cells ∧ B.slots = A.slots + rm.slots ∧ CHr Z EL vm0 h B.U.vm B.U.heap) := by
  obtain ⟨a1, hEL, -⟩ := id hWd
  refine BackS.of_freeW (bytes := yb) (maxL := yL) (ret := yr) (E := fun _ first o t L k n => (k = rm.cells ∧ n = rm.slots) ∧ ∃ v, o = .returned v ∧ (Q v t.heap ∧ Fr Z.heap.size L ∧ Old Z Z.heap.size t.heap) ∧ CHr Z EL first.vm first.heap t.vm t.heap) (C hWd O) hf hl ?_ ?_ (fun _ _ _ _ _ _ _ _ _ => trivial) ?_ ?_
  · intro m meth c A a Y hp
    have hU : Z.Warmed39 A.U.vm := wtrans (s := s.setVm vm0) hZ Y.warmed
    exact ⟨by show (Cond.and _ .tt).before a A.U = true; rw [Cond.before_and, mv hU wc]; rfl, mv hU wc, mv hU wz, hp.2.2.1, hp.2.2.2⟩
  · intro m meth c A a g mk Y hp
    have q := CHv.at Y hZ hEL H
    exact ⟨hp.1, wtrans (s := s.setVm vm0) hZ Y.warmed, hp.2.1, q.1, ss_mono q hs0⟩
  · rintro _ _ _ _ ⟨v, L, h1, h2, h3, h4⟩
    exact ⟨L, _, _, h4, ⟨rfl, rfl⟩, v, h1, h2, h3⟩
  · rintro m meth c A a g mk v t L k n Y hp _ _ ⟨⟨rfl, rfl⟩, v', e3, e4, e5⟩
    cases e3
    refine ⟨L, e4, rfl, rfl, rfl, (CHv.at Y hZ hEL H).trans ?_⟩
    have e6 : (A.U.calling g mk a).heap = h := hp.2.1
    rw [← e6]; exact e5
theorem x_static (B : Bdy p Z s m meth c own bytes maxL ret nm) (W : Wk p l e R s m args below meth c Z T h k n ss) {y : MethodName} {yb : ByteArray} {yL i : Nat} {yr : Option FieldType} {rm : Room} (argsL : List Value) {s0 : List Addr} (C : Con l Z y yb yL yr [] rm argsL.toArray h Q s0) (hs0 : ∀ x ∈ s0, x ∈ ss)
    (hd : decode bytes pc = .ok (.invokestatic i, 3)) (w1 : (Cond.methodLink own i y).before a0 Z = true) (w2 : (Cond.static y).before a0 Z = true) (wz : (Cond.initialized y.cls).before a0 Z = true) (wc : (Cond.code y yb yL yr).before a0 Z = true) (hy : y.cls ≠ "java/lang/invoke/MethodHandle" ∧ y.cls ≠ "java/lang/invoke/VarHandle")
    (hlen : ∀ sig, parseMethodDescriptor y.desc = some sig → argsL.length = sig.parameters.length) (ls : Array Slot) (st : List Value) (hsz : ls.size = maxL) (V : Nat) (hV : (st.map fun v => v.category).sum = V) (hf : rm.frames + 1 ≤ R.frames) (hl : V + (yL + 11) + rm.locals ≤ R.locals) (hc : k + rm.cells ≤ R.cells) (hs : n + rm.slots ≤ R.slots) :
    ∃ T' h' v, Wk p l e R s m args below meth c Z T' h' (k + rm.cells) (n + rm.slots) ss ∧ Q v h' ∧ (∀ G, Go p.tables e below G T' (mkF m (pc + 3) ls (v.toList ++ st)) → Go p.tables e below G T (mkF m pc ls (argsL.reverse ++ st))) := by
  obtain ⟨locs, vm0, k0, X, eT, N, O, S, hk, H, hss⟩ := W
  have B := B.at S
  obtain ⟨v, _, ⟨T', L', k', n'⟩, -, X', S', hg', ⟨Lc, hQ, l1, l2, l3, A'⟩, st'⟩ := callSS X B.1 (y := y) B.2.2.1 (mvT B.2.1 w1) (mvT B.2.1 w2) (mvT B.2.1 wz) (mvT B.2.1 wc) hy (backC (V := V) C O B.2.2.2.2.2.2.2.2 B.2.1 wc wz hf hl H.1 (fun x q => hss x (hs0 x q))) (g := mkF m pc ls (argsL.reverse ++ st)) rfl (hsz.trans B.2.2.2.2.1.symm) (argsL := argsL) (rest := st) hlen rfl (by show 2 * 0 + _ ≤ _; omega) (hb B.2.2.2.1 hd) (fun _ _ => ⟨rfl, eT, hc, hs⟩)
  dsimp only [Pt.U, Pt.locs, Pt.cells, Pt.slots] at X' S' hg' A' l1 l2 l3 st' hQ
  subst l1 l2 l3
  exact ⟨T', T'.heap, v, ⟨_, T'.vm, T'.heap.size, X', rfl, N.app hQ.2.1, hQ.2.2, S.trans S' (Nat.le_trans hk A'.2.1), Nat.le_refl _, H.trans A', ss_mono A' hss⟩, hQ.1, fun G q => Go.by (fun t q => st'.trans q) q⟩
theorem x_special (B : Bdy p Z s m meth c own bytes maxL ret nm) (W : Wk p l e R s m args below meth c Z T h k n ss) {y : MethodName} {yb : ByteArray} {yL i : Nat} {rm : Room} {b : Addr} (argsL : List Value) {s0 : List Addr} (C : Con l Z y yb yL none [] rm (.ref b :: argsL).toArray h Q s0) (hs0 : ∀ x ∈ s0, x ∈ ss)
    (hd : decode bytes pc = .ok (.invokespecial i, 3)) (hy1 : y.name = "<init>") (w1 : (Cond.methodLink own i y).before a0 Z = true) (w2 : (Cond.instanceMethod y).before a0 Z = true) (wz : (Cond.initialized y.cls).before a0 Z = true) (wc : (Cond.code y yb yL none).before a0 Z = true) (hy : y.cls ≠ "java/lang/invoke/MethodHandle" ∧ y.cls ≠ "java/lang/invoke/VarHandle")
    (hlen : ∀ sig, parseMethodDescriptor y.desc = some sig → argsL.length = sig.parameters.length) (ls : Array Slot) (st : List Value) (hsz : ls.size = maxL) (V : Nat) (hV : (st.map fun v => v.category).sum = V) (hf : rm.frames + 1 ≤ R.frames) (hl : V + (yL + 11) + rm.locals ≤ R.locals) (hc : k + rm.cells ≤ R.cells) (hs : n + rm.slots ≤ R.slots) :
    ∃ T' h' v, Wk p l e R s m args below meth c Z T' h' (k + rm.cells) (n + rm.slots) ss ∧ Q v h' ∧ (∀ G, Go p.tables e below G T' (mkF m (pc + 3) ls (v.toList ++ st)) → Go p.tables e below G T (mkF m pc ls (argsL.reverse ++ .ref b :: st))) := by
  obtain ⟨locs, vm0, k0, X, eT, N, O, S, hk, H, hss⟩ := W
  have B := B.at S
  obtain ⟨v, _, ⟨T', L', k', n'⟩, -, X', S', hg', ⟨Lc, hQ, l1, l2, l3, A'⟩, st'⟩ := X.specialBackS B.1 (y := y) hy1 B.2.2.1 (mvT B.2.1 w1) (mvT B.2.1 w2) (mvT B.2.1 wc) hy (backC (V := V) C O B.2.2.2.2.2.2.2.2 B.2.1 wc wz hf hl H.1 (fun x q => hss x (hs0 x q))) (g := mkF m pc ls (argsL.reverse ++ .ref b :: st)) rfl (hsz.trans B.2.2.2.2.1.symm) (Steps.refl _) (a := b) (argsL := argsL) (rest := st) hlen rfl (by show 2 * 0 + _ ≤ _; omega) (hb B.2.2.2.1 hd) (fun _ _ => ⟨rfl, eT, hc, hs⟩)
  dsimp only [Pt.U, Pt.locs, Pt.cells, Pt.slots] at X' S' hg' A' l1 l2 l3 st' hQ
  subst l1 l2 l3
  exact ⟨T', T'.heap, v, ⟨_, T'.vm, T'.heap.size, X', rfl, N.app hQ.2.1, hQ.2.2, S.trans S' (Nat.le_trans hk A'.2.1), Nat.le_refl _, H.trans A', ss_mono A' hss⟩, hQ.1, fun G q => Go.by (fun t q => st'.trans q) q⟩
theorem x_virtual (B : Bdy p Z s m meth c own bytes maxL ret nm) (W : Wk p l e R s m args below meth c Z T h k n ss) {y : MethodName} {yb : ByteArray} {yL i : Nat} {yr : Option FieldType} {rm : Room} {b : Addr} {D : String} (argsL : List Value) {s0 : List Addr} (C : Con l Z y yb yL yr [] rm (.ref b :: argsL).toArray h Q s0) (hs0 : ∀ x ∈ s0, x ∈ ss) (E : Exa Z h b D)
    (hd : decode bytes pc = .ok (.invokevirtual i, 3)) (w1 : (Cond.methodLink own i y).before a0 Z = true) (w2 : (Cond.declares y).before a0 Z = true) (w3 : (Cond.selects D y y).before a0 Z = true) (w4 : (Cond.instanceMethod y).before a0 Z = true) (wz : (Cond.initialized y.cls).before a0 Z = true) (wc : (Cond.code y yb yL yr).before a0 Z = true) (hy : y.cls ≠ "java/lang/invoke/MethodHandle" ∧ y.cls ≠ "java/lang/invoke/VarHandle")
    (hlen : ∀ sig, parseMethodDescriptor y.desc = some sig → argsL.length = sig.parameters.length) (ls : Array Slot) (st : List Value) (hsz : ls.size = maxL) (V : Nat) (hV : (st.map fun v => v.category).sum = V) (hf : rm.frames + 1 ≤ R.frames) (hl : V + (yL + 11) + rm.locals ≤ R.locals) (hc : k + rm.cells ≤ R.cells) (hs : n + rm.slots ≤ R.slots) :
    ∃ T' h' v, Wk p l e R s m args below meth c Z T' h' (k + rm.cells) (n + rm.slots) ss ∧ Q v h' ∧ (∀ G, Go p.tables e below G T' (mkF m (pc + 3) ls (v.toList ++ st)) → Go p.tables e below G T (mkF m pc ls (argsL.reverse ++ .ref b :: st))) := by
  obtain ⟨locs, vm0, k0, X, eT, N, O, S, hk, H, hss⟩ := W
  have B := B.at S
  obtain ⟨cq, kq, qa, qb, qc⟩ := isOf B.2.1 eT E
  obtain ⟨v, _, ⟨T', L', k', n'⟩, -, X', S', hg', ⟨Lc, hQ, l1, l2, l3, A'⟩, st'⟩ := X.virtualBackS B.1 (y := y) (z := y) B.2.2.1 (mvT B.2.1 w1) (mvT B.2.1 w2) (notFace_of_selects (args := #[]) (mvT B.2.1 w3)) (mvT B.2.1 w3) (mvT B.2.1 w4) hy (backC (V := V) C O B.2.2.2.2.2.2.2.2 B.2.1 wc wz hf hl H.1 (fun x q => hss x (hs0 x q))) qa qc (g := mkF m pc ls (argsL.reverse ++ .ref b :: st)) rfl (hsz.trans B.2.2.2.2.1.symm) (Steps.refl _) (argsL := argsL) (rest := st) hlen rfl (by show 2 * 0 + _ ≤ _; omega) (hb B.2.2.2.1 hd) (fun _ _ => ⟨rfl, eT, hc, hs⟩)
  dsimp only [Pt.U, Pt.locs, Pt.cells, Pt.slots] at X' S' hg' A' l1 l2 l3 st' hQ
  subst l1 l2 l3
  exact ⟨T', T'.heap, v, ⟨_, T'.vm, T'.heap.size, X', rfl, N.app hQ.2.1, hQ.2.2, S.trans S' (Nat.le_trans hk A'.2.1), Nat.le_refl _, H.trans A', ss_mono A' hss⟩, hQ.1, fun G q => Go.by (fun t q => st'.trans q) q⟩
theorem x_iface (B : Bdy p Z s m meth c own bytes maxL ret nm) (W : Wk p l e R s m args below meth c Z T h k n ss) {xi y : MethodName} {count : Nat} {D : String} {yb : ByteArray} {yL i : Nat} {yr : Option FieldType} {rm : Room} {b : Addr} (argsL : List Value) {s0 : List Addr} (C : Con l Z y yb yL yr [] rm (.ref b :: argsL).toArray h Q s0) (hs0 : ∀ x ∈ s0, x ∈ ss) (E : Exa Z h b D)
    (hd : decode bytes pc = .ok (.invokeinterface i count, 5)) (w1 : (Cond.methodLink own i xi).before a0 Z = true) (w2 : (Cond.declares xi).before a0 Z = true) (w3 : (Cond.interfaceMethod xi.cls xi.cls xi.name xi.desc).before a0 Z = true) (w4 : (Cond.selects D xi y).before a0 Z = true) (w5 : (Cond.instanceMethod y).before a0 Z = true) (w6 : (Cond.publicMethod y).before a0 Z = true) (w7 : (Cond.unhidden D xi.name xi.desc).before a0 Z = true) (w8 : (Cond.castable D xi.cls).before a0 Z = true) (hk3 : ((Cond.interfaceMethod xi.cls xi.cls xi.name xi.desc).onTables && (Cond.interfaceMethod xi.cls xi.cls xi.name xi.desc).keepsFace) = true) (wz : (Cond.initialized y.cls).before a0 Z = true) (wc : (Cond.code y yb yL yr).before a0 Z = true) (hy : xi.cls ≠ "java/lang/invoke/MethodHandle" ∧ xi.cls ≠ "java/lang/invoke/VarHandle")
    (hlen : ∀ sig, parseMethodDescriptor xi.desc = some sig → argsL.length = sig.parameters.length) (ls : Array Slot) (st : List Value) (hsz : ls.size = maxL) (V : Nat) (hV : (st.map fun v => v.category).sum = V) (hf : rm.frames + 1 ≤ R.frames) (hl : V + (yL + 11) + rm.locals ≤ R.locals) (hc : k + rm.cells ≤ R.cells) (hs : n + rm.slots ≤ R.slots) :
    ∃ T' h' v, Wk p l e R s m args below meth c Z T' h' (k + rm.cells) (n + rm.slots) ss ∧ Q v h' ∧ (∀ G, Go p.tables e below G T' (mkF m (pc + 5) ls (v.toList ++ st)) → Go p.tables e below G T (mkF m pc ls (argsL.reverse ++ .ref b :: st))) := by
  obtain ⟨locs, vm0, k0, X, eT, N, O, S, hk, H, hss⟩ := W
  have B := B.at S
  obtain ⟨cq, kq, qa, qb, qc⟩ := isOf B.2.1 eT E
  obtain ⟨v, _, ⟨T', L', k', n'⟩, -, X', S', hg', ⟨Lc, hQ, l1, l2, l3, A'⟩, st'⟩ := X.interfaceBackS B.1 (xi := xi) (y := y) B.2.2.1 (mvT B.2.1 w1) (mvT B.2.1 w2) (mvT B.2.1 w3 hk3) (mvT B.2.1 w4) (mvT B.2.1 w5) (mvT B.2.1 w6) (mvT B.2.1 w7) (mvT B.2.1 w8) hy (backC (V := V) C O B.2.2.2.2.2.2.2.2 B.2.1 wc wz hf hl H.1 (fun x q => hss x (hs0 x q))) qa qb qc (g := mkF m pc ls (argsL.reverse ++ .ref b :: st)) rfl (hsz.trans B.2.2.2.2.1.symm) (Steps.refl _) (argsL := argsL) (rest := st) hlen rfl (by show 2 * 0 + _ ≤ _; omega) (hb B.2.2.2.1 hd) (fun _ _ => ⟨rfl, eT, hc, hs⟩)
  dsimp only [Pt.U, Pt.locs, Pt.cells, Pt.slots] at X' S' hg' A' l1 l2 l3 st' hQ
  subst l1 l2 l3
  exact ⟨T', T'.heap, v, ⟨_, T'.vm, T'.heap.size, X', rfl, N.app hQ.2.1, hQ.2.2, S.trans S' (Nat.le_trans hk A'.2.1), Nat.le_refl _, H.trans A', ss_mono A' hss⟩, hQ.1, fun G q => Go.by (fun t q => st'.trans q) q⟩
theorem x_private (B : Bdy p Z s m meth c own bytes maxL ret nm) (W : Wk p l e R s m args below meth c Z T h k n ss) {y : MethodName} {D : String} {yb : ByteArray} {yL i : Nat} {yr : Option FieldType} {rm : Room} {b : Addr} (argsL : List Value) {s0 : List Addr} (C : Con l Z y yb yL yr [] rm (.ref b :: argsL).toArray h Q s0) (hs0 : ∀ x ∈ s0, x ∈ ss) (E : Exa Z h b D)
    (hd : decode bytes pc = .ok (.invokevirtual i, 3)) (w1 : (Cond.methodLink own i y).before a0 Z = true) (w2 : (Cond.instanceMethod y).before a0 Z = true) (w3 : (Cond.selects y.cls y y).before a0 Z = true) (w4 : (Cond.privateMethod y).before a0 Z = true) (wz : (Cond.initialized y.cls).before a0 Z = true) (wc : (Cond.code y yb yL yr).before a0 Z = true) (hy : y.cls ≠ "java/lang/invoke/MethodHandle" ∧ y.cls ≠ "java/lang/invoke/VarHandle")
    (hlen : ∀ sig, parseMethodDescriptor y.desc = some sig → argsL.length = sig.parameters.length) (ls : Array Slot) (st : List Value) (hsz : ls.size = maxL) (V : Nat) (hV : (st.map fun v => v.category).sum = V) (hf : rm.frames + 1 ≤ R.frames) (hl : V + (yL + 11) + rm.locals ≤ R.locals) (hc : k + rm.cells ≤ R.cells) (hs : n + rm.slots ≤ R.slots) :
    ∃ T' h' v, Wk p l e R s m args below meth c Z T' h' (k + rm.cells) (n + rm.slots) ss ∧ Q v h' ∧ (∀ G, Go p.tables e below G T' (mkF m (pc + 3) ls (v.toList ++ st)) → Go p.tables e below G T (mkF m pc ls (argsL.reverse ++ .ref b :: st))) := by
  obtain ⟨locs, vm0, k0, X, eT, N, O, S, hk, H, hss⟩ := W
  have B := B.at S
  obtain ⟨cell, qa, qb⟩ := Exa.cell E
  obtain ⟨v, _, ⟨T', L', k', n'⟩, -, X', S', hg', ⟨Lc, hQ, l1, l2, l3, A'⟩, st'⟩ := X.privateBackS B.1 (y := y) B.2.2.1 (mvT B.2.1 w1) (mvT B.2.1 w2) (mvT B.2.1 w3) (Cond.privateMethod_at (mvP B.2.1 w4 (args := #[]))) (mvT B.2.1 wc) hy (backC (V := V) C O B.2.2.2.2.2.2.2.2 B.2.1 wc wz hf hl H.1 (fun x q => hss x (hs0 x q))) (g := mkF m pc ls (argsL.reverse ++ .ref b :: st)) rfl (hsz.trans B.2.2.2.2.1.symm) (Steps.refl _) (a := b) (by rw [eT]; exact qa) qb (argsL := argsL) (rest := st) hlen rfl (by show 2 * 0 + _ ≤ _; omega) (hb B.2.2.2.1 hd) (fun _ _ => ⟨rfl, eT, hc, hs⟩)
  dsimp only [Pt.U, Pt.locs, Pt.cells, Pt.slots] at X' S' hg' A' l1 l2 l3 st' hQ
  subst l1 l2 l3
  exact ⟨T', T'.heap, v, ⟨_, T'.vm, T'.heap.size, X', rfl, N.app hQ.2.1, hQ.2.2, S.trans S' (Nat.le_trans hk A'.2.1), Nat.le_refl _, H.trans A', ss_mono A' hss⟩, hQ.1, fun G q => Go.by (fun t q => st'.trans q) q⟩
theorem x_specialB (B : Bdy p Z s m meth c own bytes maxL ret nm) (W : Wk p l e R s m args below meth c Z T h k n ss) {y : MethodName} {yb : ByteArray} {yL i V rc rs : Nat} {b : Addr} {QL : Option Value → Heap → List Loc → Prop} (argsL : List Value) (hK : ∀ s' : State, Z.Warmed39 s'.vm → Back l R p e below s' args y 3 V (fun A a => a = (.ref b :: argsL).toArray ∧ A.U.heap = h ∧ A.cells + rc ≤ R.cells ∧ A.slots + rs ≤ R.slots) (fun A _ v B => ∃ L, QL v B.U.heap L ∧ B.locs = A.locs ++ L ∧ B.cells = A.cells + rc ∧ B.slots = A.slots + rs))
    (hd : decode bytes pc = .ok (.invokespecial i, 3)) (hy1 : y.name = "<init>") (w1 : (Cond.methodLink own i y).before a0 Z = true) (w2 : (Cond.instanceMethod y).before a0 Z = true) (wc : (Cond.code y yb yL none).before a0 Z = true) (hy : y.cls ≠ "java/lang/invoke/MethodHandle" ∧ y.cls ≠ "java/lang/invoke/VarHandle")
    (hlen : ∀ sig, parseMethodDescriptor y.desc = some sig → argsL.length = sig.parameters.length) (ls : Array Slot) (st : List Value) (hsz : ls.size = maxL) (hV : (st.map fun v => v.category).sum = V) (hc : k + rc ≤ R.cells) (hs : n + rs ≤ R.slots) (wl : List Addr) (hwl : ∀ x ∈ wl, Z.heap.size ≤ x) (hsf : ∀ x ∈ wl, x ∈ ss) (hq : ∀ v h' L, QL v h' L → Fr Z.heap.size L ∧ Keep h h' wl) : ∃ T' h' v L, Wk p l e R s m args below meth c Z T' h' (k + rc) (n + rs) ss ∧ QL v h' L ∧ (∀ G, Go p.tables e below G T' (mkF m (pc + 3) ls (v.toList ++ st)) → Go p.tables e below G T (mkF m pc ls (argsL.reverse ++ .ref b :: st))) := by
  obtain ⟨locs, vm0, k0, X, eT, N, O, S, hk, H, hss⟩ := W
  have B := B.at S
  obtain ⟨v, _, ⟨T', L', k', n'⟩, -, X', ⟨Lc, hQ, l1, l2, l3⟩, st'⟩ := X.specialBack B.1 (y := y) hy1 B.2.2.1 (mvT B.2.1 w1) (mvT B.2.1 w2) (mvT B.2.1 wc) hy (hK _ B.2.1) (g := mkF m pc ls (argsL.reverse ++ .ref b :: st)) rfl (hsz.trans B.2.2.2.2.1.symm) (Steps.refl _) (a := b) (argsL := argsL) (rest := st) hlen rfl (by show 2 * 0 + _ ≤ _; omega) (hb B.2.2.2.1 hd) (fun _ _ => ⟨rfl, eT, hc, hs⟩)
  dsimp only [Pt.U, Pt.locs, Pt.cells, Pt.slots] at X' l1 l2 l3 st' hQ
  subst l1 l2 l3
  obtain ⟨hF, hKp⟩ := hq _ _ _ hQ
  exact ⟨T', T'.heap, v, Lc, ⟨_, vm0, k0, X', rfl, N.app hF, O.keep hKp hwl, S, Nat.le_trans hk hKp.1, H.trans (CHr.keep hKp (fun x q => (hss x (hsf x q)).2) H.1), ss_mono (CHr.keep hKp (fun x q => (hss x (hsf x q)).2) H.1) hss⟩, hQ, fun G q => Go.by (fun t q => st'.trans q) q⟩
theorem x_virtualB (B : Bdy p Z s m meth c own bytes maxL ret nm) (W : Wk p l e R s m args below meth c Z T h k n ss) {y : MethodName} {D : String} {i V rc rs : Nat} {b : Addr} {QL : Option Value → Heap → List Loc → Prop} (argsL : List Value) (hK : ∀ s' : State, Z.Warmed39 s'.vm → Back l R p e below s' args y 3 V (fun A a => a = (.ref b :: argsL).toArray ∧ A.U.heap = h ∧ A.cells + rc ≤ R.cells ∧ A.slots + rs ≤ R.slots) (fun A _ v B => ∃ L, QL v B.U.heap L ∧ B.locs = A.locs ++ L ∧ B.cells = A.cells + rc ∧ B.slots = A.slots + rs)) (E : Exa Z h b D)
    (hd : decode bytes pc = .ok (.invokevirtual i, 3)) (w1 : (Cond.methodLink own i y).before a0 Z = true) (w2 : (Cond.declares y).before a0 Z = true) (w3 : (Cond.selects D y y).before a0 Z = true) (w4 : (Cond.instanceMethod y).before a0 Z = true) (hy : y.cls ≠ "java/lang/invoke/MethodHandle" ∧ y.cls ≠ "java/lang/invoke/VarHandle")
    (hlen : ∀ sig, parseMethodDescriptor y.desc = some sig → argsL.length = sig.parameters.length) (ls : Array Slot) (st : List Value) (hsz : ls.size = maxL) (hV : (st.map fun v => v.category).sum = V) (hc : k + rc ≤ R.cells) (hs : n + rs ≤ R.slots) (wl : List Addr) (hwl : ∀ x ∈ wl, Z.heap.size ≤ x) (hsf : ∀ x ∈ wl, x ∈ ss) (hq : ∀ v h' L, QL v h' L → Fr Z.heap.size L ∧ Keep h h' wl) : ∃ T' h' v L, Wk p l e R s m args below meth c Z T' h' (k + rc) (n + rs) ss ∧ QL v h' L ∧ (∀ G, Go p.tables e below G T' (mkF m (pc + 3) ls (v.toList ++ st)) → Go p.tables e below G T (mkF m pc ls (argsL.reverse ++ .ref b :: st))) := by
  obtain ⟨locs, vm0, k0, X, eT, N, O, S, hk, H, hss⟩ := W
  have B := B.at S
  obtain ⟨cq, kq, qa, qb, qc⟩ := isOf B.2.1 eT E
  obtain ⟨v, _, ⟨T', L', k', n'⟩, -, X', ⟨Lc, hQ, l1, l2, l3⟩, st'⟩ := X.virtualBack B.1 (y := y) (z := y) B.2.2.1 (mvT B.2.1 w1) (mvT B.2.1 w2) (notFace_of_selects (args := #[]) (mvT B.2.1 w3)) (mvT B.2.1 w3) (mvT B.2.1 w4) hy (hK _ B.2.1) qa qc (g := mkF m pc ls (argsL.reverse ++ .ref b :: st)) rfl (hsz.trans B.2.2.2.2.1.symm) (Steps.refl _) (argsL := argsL) (rest := st) hlen rfl (by show 2 * 0 + _ ≤ _; omega) (hb B.2.2.2.1 hd) (fun _ _ => ⟨rfl, eT, hc, hs⟩)
  dsimp only [Pt.U, Pt.locs, Pt.cells, Pt.slots] at X' l1 l2 l3 st' hQ
  subst l1 l2 l3
  obtain ⟨hF, hKp⟩ := hq _ _ _ hQ
  exact ⟨T', T'.heap, v, Lc, ⟨_, vm0, k0, X', rfl, N.app hF, O.keep hKp hwl, S, Nat.le_trans hk hKp.1, H.trans (CHr.keep hKp (fun x q => (hss x (hsf x q)).2) H.1), ss_mono (CHr.keep hKp (fun x q => (hss x (hsf x q)).2) H.1) hss⟩, hQ, fun G q => Go.by (fun t q => st'.trans q) q⟩
theorem x_ldcS (B : Bdy p Z s m meth c own bytes maxL ret nm) (W : Wk p l e R s m args below meth c Z T h k n ss) {i : Nat} {text : String} (sz : Nat) (hd : decode bytes pc = .ok (.ldc i, 2)) (w : (Cond.stringLink own i text).before a0 Z = true) (wS : ∀ a ∈ Bundle.stringAtoms, a.before a0 Z = true) (hEL : EW Z a0 EL) (hn : 4 * text.toList.length ≤ sz) (hbig : sz ≤ 536870912) (hc : k + 2 ≤ R.cells) (hl : n + (sz + 4) ≤ R.slots) (ls : Array Slot) (st : List Value) :
    ∃ T' h' b, Wk p l e R s m args below meth c Z T' h' (k + 2) (n + (sz + 4)) ss ∧ Keep h h' [] ∧ (∀ G, Go p.tables e below G T' (mkF m (pc + 2) ls (.ref b :: st)) → Go p.tables e below G T (mkF m pc ls st)) := by
  obtain ⟨locs, vm0, k0, X, eT, N, O, S, hk, H, hss⟩ := W
  have B := B.at S
  obtain ⟨b, T', h', k1, X', e', E', S', hk', hZ', hf', A', -, st'⟩ := ldcOH X B.1 B.2.1 B.2.2.1 w wS eT S hk hEL H.1 (g := mkF m pc ls st) rfl (hb B.2.2.2.1 hd) hn hbig hc hl
  exact ⟨T', h', b, ⟨locs, T'.vm, k1, X', e', N, O.ext E', S', hk', H.trans A', ss_mono A' hss⟩, (Keep.refl h []).ext E', fun G q => Go.by st' q⟩
def OutR (Z s : State) (Q : Option Value → Heap → Prop) (k n : Nat) (o : Outcome) (U : State) : Prop := Out Z s Q k n o U ∧ ∀ x, o = .returned (some (.ref x)) → x < U.heap.size ∧ Safe Z EL U.vm U.heap x
/-- a contract of a body whose answer may be written to later -/
def ConR (l : Launch) (Z : State) (y : MethodName) (bytes : ByteArray) (maxL : Nat) (ret : Option FieldType) (ws : List Cond) (rm : Room) (as' : Array Value) (h0 : Heap) (Q : Option Value → Heap → Prop) (ss : List Addr) : Prop :=
  Wd Z → Old Z Z.heap.size h0 → MetFree l y (head1 (Cond.code y bytes maxL ret :: ws) rm) (fun a U => a = as' ∧ Z.Warmed39 U.vm ∧ U.heap = h0 ∧ CHv Z EL U.vm h0 ∧ ∀ x ∈ ss, x < h0.size ∧ Safe Z EL U.vm h0 x) (fun _ _ _ _ _ => True) (fun _ U o U' => OutR Z U Q rm.cells rm.slots o U')
theorem ConR.of {y : MethodName} {ws : List Cond} {rm : Room} {as' : Array Value} {h0 : Heap} (hpl : plainFor y = true)
    (body : ∀ p e s m below meth c T, Bdy p Z s m meth c y.cls bytes maxL ret y.name → Wk p l e rm s m as' below meth c Z T h0 0 0 ss → Go p.tables e below (OutR Z s Q rm.cells rm.slots) T (entryFrame m as' maxL)) : ConR l Z y bytes maxL ret ws rm as' h0 Q ss := by
  intro hWd hO
  refine MetFree.of_bodySF hpl hisR ?_
  intro p e s m args below meth c s₁ Bd hml0 hP hK
  obtain ⟨rfl, hZ, hh, hC, hss⟩ := hP
  subst hh
  exact body p e s m below meth c s₁ ⟨Bd.exec, hZ, findClass_of_methodNamed Bd.named, Bd.bytes, hml0, Bd.returns, Bd.notSynchronized, (name_of_methodNamed Bd.named Bd.method).1, hWd⟩ ⟨[], s.vm, s.heap.size, Stand.of_body Bd, by rw [Bd.state]; rfl, Fr.nil _, hO, (State.WarmedH.refl s).since _, Nat.le_refl _, CHr.refl hC, hss⟩
theorem r_aR (B : Bdy p Z s m meth c own bytes maxL ret nm) (W : Wk p l e R s m args below meth c Z T h k n ss) {t : FieldType} {b : Addr} {k' n' : Nat} (hret : ret = some t) (ht : t.isReference = true) (hd : decode bytes pc = .ok (.areturn, 1)) (hk : k ≤ k') (hn : n ≤ n') (hQ : Q (some (.ref b)) h) (hs : b ∈ ss) : Go p.tables e below (OutR Z s Q k' n') T (mkF m pc ls (.ref b :: st)) := by
  obtain ⟨locs, vm0, k0, X, eT, N, O, S, hk0, H, hss⟩ := W
  have B' := B.at S
  obtain ⟨a0, hEW, -⟩ := B.2.2.2.2.2.2.2.2
  obtain ⟨fs, hr, hrun, hended, e1, e2, e3, e4⟩ := X.leaveW S (by rw [eT]; exact hk0) (v := some (.ref b)) (fun q => by rw [B.2.2.2.2.2.1, hret] at q; cases q) B.2.2.2.2.2.2.1
  have eT' : (T.setFrames fs).heap = h := eT
  have A := CHv.at X B'.2.1 hEW H.1
  have H2 := H.trans A
  have hS := ss_mono A hss b hs
  exact ⟨_, _, retOut X B.1 (B.2.2.2.2.2.1.trans hret) (nar_ref ht) (Or.inr (Or.inr (Or.inr (Or.inr ⟨rfl, ht, rfl⟩)))) (hb B.2.2.2.1 hd) hr, hrun, hended, ⟨_, _, rfl, ⟨by rw [eT']; exact hQ, N, by rw [eT']; exact O⟩, by rw [eT']; exact H2, e1, e2, e3, e4.mono hk hn⟩, fun x q => by cases q; rw [eT']; exact hS⟩
theorem backCR {vm0 : Vm} {y : MethodName} {yb : ByteArray} {yL : Nat} {yr : Option FieldType} {rm : Room} {len V : Nat} {as' : Array Value} {s0 : List Addr} (C : ConR l Z y yb yL yr [] rm as' h Q s0) (O : Old Z Z.heap.size h) (hWd : Wd Z)
    (hZ : Z.Warmed39 vm0) (wc : (Cond.code y yb yL yr).before a0 Z = true) (wz : (Cond.initialized y.cls).before a0 Z = true) (hf : rm.frames + 1 ≤ R.frames) (hl : V + (yL + 11) + rm.locals ≤ R.locals) (H : CHv Z EL vm0 h) (hs0 : ∀ x ∈ s0, x < h.size ∧ Safe Z EL vm0 h x) :
    BackS l R p e below (s.setVm vm0) args y len V (fun A a => a = as' ∧ A.U.heap = h ∧ A.cells + rm.cells ≤ R.cells ∧ A.slots + rm.slots ≤ R.slots)
      (fun A _ v B => ∃ L, (Q v B.U.heap ∧ Fr Z.heap.size L ∧ Old Z Z.heap.size B.U.heap) ∧ B.locs = A.locs ++ L ∧ B.cells = A.cells + rm.cells ∧ B.slots = A.slots + rm.slots ∧ CHr Z EL vm0 h B.U.vm B.U.heap ∧ ∀ x, v = some (.ref x) → x < B.U.heap.size ∧ Safe Z EL B.U.vm B.U.heap x) := by
  obtain ⟨a1, hEL, -⟩ := id hWd
  refine BackS.of_freeW (bytes := yb) (maxL := yL) (ret := yr) (E := fun _ first o t L k n => (k = rm.cells ∧ n = rm.slots) ∧ ∃ v, o = .returned v ∧ (Q v t.heap ∧ Fr Z.heap.size L ∧ Old Z Z.heap.size t.heap) ∧ CHr Z EL first.vm first.heap t.vm t.heap ∧ ∀ x, v = some (.ref x) → x < t.heap.size ∧ Safe Z EL t.vm t.heap x) (C hWd O) hf hl ?_ ?_ (fun _ _ _ _ _ _ _ _ _ => trivial) ?_ ?_
  · intro m meth c A a Y hp
    have hU : Z.Warmed39 A.U.vm := wtrans (s := s.setVm vm0) hZ Y.warmed
    exact ⟨by show (Cond.and _ .tt).before a A.U = true; rw [Cond.before_and, mv hU wc]; rfl, mv hU wc, mv hU wz, hp.2.2.1, hp.2.2.2⟩
  · intro m meth c A a g mk Y hp
    have q := CHv.at Y hZ hEL H
    exact ⟨hp.1, wtrans (s := s.setVm vm0) hZ Y.warmed, hp.2.1, q.1, ss_mono q hs0⟩
  · rintro _ _ _ _ ⟨⟨v, L, h1, h2, h3, h4⟩, h5⟩
    exact ⟨L, _, _, h4, ⟨rfl, rfl⟩, v, h1, h2, h3, fun x q => h5 x (by rw [h1, q])⟩
  · rintro m meth c A a g mk v t L k n Y hp _ _ ⟨⟨rfl, rfl⟩, v', e3, e4, e5, e8⟩
    cases e3
    refine ⟨L, e4, rfl, rfl, rfl, (CHv.at Y hZ hEL H).trans ?_, e8⟩
    have e6 : (A.U.calling g mk a).heap = h := hp.2.1
    rw [← e6]; exact e5
theorem x_staticR (B : Bdy p Z s m meth c own bytes maxL ret nm) (W : Wk p l e R s m args below meth c Z T h k n ss) {y : MethodName} {yb : ByteArray} {yL i : Nat} {yr : Option FieldType} {rm : Room} (argsL : List Value) {s0 : List Addr} (C : ConR l Z y yb yL yr [] rm argsL.toArray h Q s0) (hs0 : ∀ x ∈ s0, x ∈ ss) (hQr : ∀ v h', Q v h' → ∃ b, v = some (.ref b))
    (hd : decode bytes pc = .ok (.invokestatic i, 3)) (w1 : (Cond.methodLink own i y).before a0 Z = true) (w2 : (Cond.static y).before a0 Z = true) (wz : (Cond.initialized y.cls).before a0 Z = true) (wc : (Cond.code y yb yL yr).before a0 Z = true) (hy : y.cls ≠ "java/lang/invoke/MethodHandle" ∧ y.cls ≠ "java/lang/invoke/VarHandle")
    (hlen : ∀ sig, parseMethodDescriptor y.desc = some sig → argsL.length = sig.parameters.length) (ls : Array Slot) (st : List Value) (hsz : ls.size = maxL) (V : Nat) (hV : (st.map fun v => v.category).sum = V) (hf : rm.frames + 1 ≤ R.frames) (hl : V + (yL + 11) + rm.locals ≤ R.locals) (hc : k + rm.cells ≤ R.cells) (hs : n + rm.slots ≤ R.slots) :
    ∃ T' h' b, Wk p l e R s m args below meth c Z T' h' (k + rm.cells) (n + rm.slots) (b :: ss) ∧ Q (some (.ref b)) h' ∧ (∀ G, Go p.tables e below G T' (mkF m (pc + 3) ls (.ref b :: st)) → Go p.tables e below G T (mkF m pc ls (argsL.reverse ++ st))) := by
  obtain ⟨locs, vm0, k0, X, eT, N, O, S, hk, H, hss⟩ := W
  have B := B.at S
  obtain ⟨v, _, ⟨T', L', k', n'⟩, -, X', S', hg', ⟨Lc, hQ, l1, l2, l3, A', hR⟩, st'⟩ := callSS X B.1 (y := y) B.2.2.1 (mvT B.2.1 w1) (mvT B.2.1 w2) (mvT B.2.1 wz) (mvT B.2.1 wc) hy (backCR (V := V) C O B.2.2.2.2.2.2.2.2 B.2.1 wc wz hf hl H.1 (fun x q => hss x (hs0 x q))) (g := mkF m pc ls (argsL.reverse ++ st)) rfl (hsz.trans B.2.2.2.2.1.symm) (argsL := argsL) (rest := st) hlen rfl (by show 2 * 0 + _ ≤ _; omega) (hb B.2.2.2.1 hd) (fun _ _ => ⟨rfl, eT, hc, hs⟩)
  dsimp only [Pt.U, Pt.locs, Pt.cells, Pt.slots] at X' S' hg' A' l1 l2 l3 st' hQ hR
  subst l1 l2 l3
  obtain ⟨b, rfl⟩ := hQr _ _ hQ.1
  exact ⟨T', T'.heap, b, ⟨_, T'.vm, T'.heap.size, X', rfl, N.app hQ.2.1, hQ.2.2, S.trans S' (Nat.le_trans hk A'.2.1), Nat.le_refl _, H.trans A', fun x q => by
    rcases List.mem_cons.mp q with rfl | q
    · exact hR _ rfl
    · exact ss_mono A' hss x q⟩, hQ.1, fun G q => Go.by (fun t q => st'.trans q) q⟩
theorem own_litB {vm : Vm} {own text : String} {i : Nat} {a t : Addr} (hW : Z.Warmed39 vm) (H : CHv Z EL vm h) (hmem : (own, i) ∈ EL) (w : (Cond.stringLink own i text).before a0 Z = true) (L : Lit (s.setVm vm) own i a) (V : Fld Z h a "java/lang/String" "value" "[B" (.ref t)) : Exa Z h t "[B" := by
  have hal : Z.vm.Alike vm := hW.alike
  have w2 : (Cond.stringLink own i text).before a0 (Wst Z vm h) = true := mvS (s := { Z with heap := h }) hW w
  have hq0 : (s.setVm vm).resolvedAt? own i = some (.string a) := L
  cases hf : vm.findClass own with
  | none => simp [State.resolvedAt?, hf] at hq0
  | some cc =>
    obtain ⟨k0', cf, i', units, hkx, hcf, hp, hu, -, htext, -⟩ := Cond.stringLink_spec (s := Wst Z vm h) hf w2
    have hk' : vm.classes[cc]? = some k0' := hkx
    have hres : k0'.resolved[i]? = some (some (.string a)) := by
      simp [State.resolvedAt?, hf, hk'] at hq0
      cases hr : k0'.resolved[i]? with
      | none => rw [hr] at hq0; cases hq0
      | some o => rw [hr] at hq0; cases o with
        | none => cases hq0
        | some r => simpa using hq0
    have hB0 : Booksv vm own i units a := ⟨cc, k0', cf, i', hf, hkx, hcf, hp, hu, Or.inl hres⟩
    obtain ⟨q, hqa, F⟩ := SlB.of (H _ hmem units a hB0)
    obtain ⟨cS, ⟨⟨s1, s2, s3, ⟨cv, kv, iv, s4, s4'⟩, -, s6, s7, s8, s9, s10, s11, -⟩, hfS, hcS⟩, -, hB, -⟩ := F
    subst hqa
    obtain ⟨kv', z4⟩ := ff_back (U := Wst Z vm h) hal s4
    obtain ⟨cell, cf2, k2, i2, f2, v1, v2, -, -, -, -, v7⟩ := V
    cases z4.symm.trans v2
    cases (show h[q.sa]? = some q.sC from s1).symm.trans v1
    have et : t = q.sd := by have := s8.symm.trans v7; simpa using this.symm
    subst et
    have hBZ : Z.vm.findClass "[B" = some q.SA.cls := by rw [← hal.findClass]; exact hB
    obtain ⟨kb, hkb, -⟩ := Vm.findClass_spec hBZ
    obtain ⟨kb', hkb', ekb⟩ := hal.2.2 _ _ hkb
    obtain ⟨hst, k9, hk9, comp, hkind9⟩ := s11
    have hk9 : vm.classes[q.SA.cls]? = some k9 := hk9
    have ek9 : k9 = kb' := Option.some.inj (hk9.symm.trans hkb')
    refine ⟨q.SA, kb, s10, hBZ, hkb, ?_, fun ho => ?_⟩
    · cases hq : q.SA.vm <;> first | rfl | exact absurd hq (hst _)
    · rw [ek9, ekb] at hkind9
      have := hkind9.symm.trans ho
      cases this
theorem x_ldcT (B : Bdy p Z s m meth c own bytes maxL ret nm) (W : Wk p l e R s m args below meth c Z T h k n ss) {i : Nat} {text : String} (sz : Nat) {vs : List Value} {z : Int32} (hd : decode bytes pc = .ok (.ldc i, 2)) (w : (Cond.stringLink own i text).before a0 Z = true) (wS : ∀ a ∈ Bundle.stringAtoms, a.before a0 Z = true) (hEL : EW Z a0 EL) (hmem : (own, i) ∈ EL) (ht : (∀ c ∈ text.toList, c.toNat < 256) ∧ text.toList.map (fun c => Value.int (Jvm.Lit.byteI c.toNat.toUInt16)) = vs) (hz : ¬ z < 0) (hlz : z.toNatClampNeg = vs.length) (hn : 4 * text.toList.length ≤ sz) (hbig : sz ≤ 536870912) (hc : k + 2 ≤ R.cells) (hl : n + (sz + 4) ≤ R.slots) (ls : Array Slot) (st : List Value) :
    ∃ T' h' b t kc, Wk p l e R s m args below meth c Z T' h' (k + 2) (n + (sz + 4)) ss ∧ Keep h h' [] ∧ Exa Z h' b "java/lang/String" ∧ Fld Z h' b "java/lang/String" "coder" "B" (.int 0) ∧ Fld Z h' b "java/lang/String" "value" "[B" (.ref t) ∧ Arv Z h' t kc .byte z vs (.int 0) ∧ Exa Z h' t "[B" ∧ (∀ x ∈ ss, x ≠ b ∧ x ≠ t) ∧ (∀ G, Go p.tables e below G T' (mkF m (pc + 2) ls (.ref b :: st)) → Go p.tables e below G T (mkF m pc ls st)) := by
  obtain ⟨locs, vm0, k0, X, eT, N, O, S, hk, H, hss⟩ := W
  have B := B.at S
  obtain ⟨b, T', h', k1, t, kc, X', e', E', S', hk', hZ', hf', q1, q2, q3, q4, -, -, A', Lt, q5, st'⟩ := ldcCH X B.1 B.2.1 B.2.2.1 w wS eT S hk hEL hmem H.1 ht hz hlz (g := mkF m pc ls st) rfl (hb B.2.2.2.1 hd) hn hbig hc hl
  have hs2 := ss_mono A' hss
  exact ⟨T', h', b, t, kc, ⟨locs, T'.vm, k1, X', e', N, O.ext E', S', hk', H.trans A', hs2⟩, (Keep.refl h []).ext E', q1, q2, q3, q4, own_litB hZ' A'.1 hmem w Lt q3, fun x hx => q5 x (hs2 x hx).2, fun G q => Go.by st' q⟩
end K
end Jvm.OwnK
namespace Jvm.Pilot.@@N@@
open Jvm Jvm.ClassFile Sem Op Lib Jvm.Free Jvm.Stand Jvm.LawKit Jvm.RoadKit Jvm.OwnK Bundle Jvm.Pilot.@@N@@.Jvm.D
theorem tw {Z : State} {a0 : Array Value} (hw : ∀ d ∈ tables_1, d.before a0 Z = true) (i : Nat) {d : Jvm.Cond} (h : tables_1[i]? = some d) : d.before a0 Z = true := hw _ (List.mem_of_getElem? h)
theorem d_method_2_0 : decode method_2_code 0 = .ok (.lload_n 0, 1) := by decide +kernel
theorem d_method_2_1 : decode method_2_code 1 = .ok (.bipush 17, 2) := by decide +kernel
theorem d_method_2_3 : decode method_2_code 3 = .ok (.iload_n 2, 1) := by decide +kernel
theorem d_method_2_4 : decode method_2_code 4 = .ok (.imul, 1) := by decide +kernel
theorem d_method_2_5 : decode method_2_code 5 = .ok (.lushr, 1) := by decide +kernel
theorem d_method_2_6 : decode method_2_code 6 = .ok (.lstore_n 3, 1) := by decide +kernel
theorem d_method_2_7 : decode method_2_code 7 = .ok (.lload_n 3, 1) := by decide +kernel
theorem d_method_2_8 : decode method_2_code 8 = .ok (.ldc2_w 7, 3) := by decide +kernel
theorem d_method_2_11 : decode method_2_code 11 = .ok (.land, 1) := by decide +kernel
theorem d_method_2_12 : decode method_2_code 12 = .ok (.lconst 0, 1) := by decide +kernel
theorem d_method_2_13 : decode method_2_code 13 = .ok (.lcmp, 1) := by decide +kernel
theorem d_method_2_14 : decode method_2_code 14 = .ok (.ifCond .eq 6, 3) := by decide +kernel
theorem d_method_2_17 : decode method_2_code 17 = .ok (.bipush 47, 2) := by decide +kernel
theorem d_method_2_19 : decode method_2_code 19 = .ok (.ireturn, 1) := by decide +kernel
theorem d_method_2_20 : decode method_2_code 20 = .ok (.lload_n 3, 1) := by decide +kernel
theorem d_method_2_21 : decode method_2_code 21 = .ok (.ldc2_w 9, 3) := by decide +kernel
theorem d_method_2_24 : decode method_2_code 24 = .ok (.land, 1) := by decide +kernel
theorem d_method_2_25 : decode method_2_code 25 = .ok (.l2i, 1) := by decide +kernel
theorem d_method_2_26 : decode method_2_code 26 = .ok (.i2c, 1) := by decide +kernel
theorem d_method_2_27 : decode method_2_code 27 = .ok (.ireturn, 1) := by decide +kernel
theorem d_method_5_0 : decode method_5_code 0 = .ok (.iload_n 1, 1) := by decide +kernel
theorem d_method_5_1 : decode method_5_code 1 = .ok (.ifCond .ne 7, 3) := by decide +kernel
theorem d_method_5_4 : decode method_5_code 4 = .ok (.iconst 0, 1) := by decide +kernel
theorem d_method_5_5 : decode method_5_code 5 = .ok (.newarray .char, 2) := by decide +kernel
theorem d_method_5_7 : decode method_5_code 7 = .ok (.areturn, 1) := by decide +kernel
theorem d_method_5_8 : decode method_5_code 8 = .ok (.iload_n 1, 1) := by decide +kernel
theorem d_method_5_9 : decode method_5_code 9 = .ok (.iconst 1, 1) := by decide +kernel
theorem d_method_5_10 : decode method_5_code 10 = .ok (.if_icmp .ne 13, 3) := by decide +kernel
theorem d_method_5_13 : decode method_5_code 13 = .ok (.iconst 1, 1) := by decide +kernel
theorem d_method_5_14 : decode method_5_code 14 = .ok (.newarray .char, 2) := by decide +kernel
theorem d_method_5_16 : decode method_5_code 16 = .ok (.dup, 1) := by decide +kernel
theorem d_method_5_17 : decode method_5_code 17 = .ok (.iconst 0, 1) := by decide +kernel
theorem d_method_5_18 : decode method_5_code 18 = .ok (.aload_n 0, 1) := by decide +kernel
theorem d_method_5_19 : decode method_5_code 19 = .ok (.iconst 0, 1) := by decide +kernel
theorem d_method_5_20 : decode method_5_code 20 = .ok (.caload, 1) := by decide +kernel
theorem d_method_5_21 : decode method_5_code 21 = .ok (.castore, 1) := by decide +kernel
theorem d_method_5_22 : decode method_5_code 22 = .ok (.areturn, 1) := by decide +kernel
theorem d_method_5_23 : decode method_5_code 23 = .ok (.iload_n 1, 1) := by decide +kernel
theorem d_method_5_24 : decode method_5_code 24 = .ok (.iconst 2, 1) := by decide +kernel
theorem d_method_5_25 : decode method_5_code 25 = .ok (.if_icmp .ne 19, 3) := by decide +kernel
theorem d_method_5_28 : decode method_5_code 28 = .ok (.iconst 2, 1) := by decide +kernel
theorem d_method_5_29 : decode method_5_code 29 = .ok (.newarray .char, 2) := by decide +kernel
theorem d_method_5_31 : decode method_5_code 31 = .ok (.dup, 1) := by decide +kernel
theorem d_method_5_32 : decode method_5_code 32 = .ok (.iconst 0, 1) := by decide +kernel
theorem d_method_5_33 : decode method_5_code 33 = .ok (.aload_n 0, 1) := by decide +kernel
theorem d_method_5_34 : decode method_5_code 34 = .ok (.iconst 0, 1) := by decide +kernel
theorem d_method_5_35 : decode method_5_code 35 = .ok (.caload, 1) := by decide +kernel
theorem d_method_5_36 : decode method_5_code 36 = .ok (.castore, 1) := by decide +kernel
theorem d_method_5_37 : decode method_5_code 37 = .ok (.dup, 1) := by decide +kernel
theorem d_method_5_38 : decode method_5_code 38 = .ok (.iconst 1, 1) := by decide +kernel
theorem d_method_5_39 : decode method_5_code 39 = .ok (.aload_n 0, 1) := by decide +kernel
theorem d_method_5_40 : decode method_5_code 40 = .ok (.iconst 1, 1) := by decide +kernel
theorem d_method_5_41 : decode method_5_code 41 = .ok (.caload, 1) := by decide +kernel
theorem d_method_5_42 : decode method_5_code 42 = .ok (.castore, 1) := by decide +kernel
theorem d_method_5_43 : decode method_5_code 43 = .ok (.areturn, 1) := by decide +kernel
theorem d_method_5_44 : decode method_5_code 44 = .ok (.iload_n 1, 1) := by decide +kernel
theorem d_method_5_45 : decode method_5_code 45 = .ok (.iconst 3, 1) := by decide +kernel
theorem d_method_5_46 : decode method_5_code 46 = .ok (.if_icmp .ne 25, 3) := by decide +kernel
theorem d_method_5_49 : decode method_5_code 49 = .ok (.iconst 3, 1) := by decide +kernel
theorem d_method_5_50 : decode method_5_code 50 = .ok (.newarray .char, 2) := by decide +kernel
theorem d_method_5_52 : decode method_5_code 52 = .ok (.dup, 1) := by decide +kernel
theorem d_method_5_53 : decode method_5_code 53 = .ok (.iconst 0, 1) := by decide +kernel
theorem d_method_5_54 : decode method_5_code 54 = .ok (.aload_n 0, 1) := by decide +kernel
theorem d_method_5_55 : decode method_5_code 55 = .ok (.iconst 0, 1) := by decide +kernel
theorem d_method_5_56 : decode method_5_code 56 = .ok (.caload, 1) := by decide +kernel
theorem d_method_5_57 : decode method_5_code 57 = .ok (.castore, 1) := by decide +kernel
theorem d_method_5_58 : decode method_5_code 58 = .ok (.dup, 1) := by decide +kernel
theorem d_method_5_59 : decode method_5_code 59 = .ok (.iconst 1, 1) := by decide +kernel
theorem d_method_5_60 : decode method_5_code 60 = .ok (.aload_n 0, 1) := by decide +kernel
theorem d_method_5_61 : decode method_5_code 61 = .ok (.iconst 1, 1) := by decide +kernel
theorem d_method_5_62 : decode method_5_code 62 = .ok (.caload, 1) := by decide +kernel
theorem d_method_5_63 : decode method_5_code 63 = .ok (.castore, 1) := by decide +kernel
theorem d_method_5_64 : decode method_5_code 64 = .ok (.dup, 1) := by decide +kernel
theorem d_method_5_65 : decode method_5_code 65 = .ok (.iconst 2, 1) := by decide +kernel
theorem d_method_5_66 : decode method_5_code 66 = .ok (.aload_n 0, 1) := by decide +kernel
theorem d_method_5_67 : decode method_5_code 67 = .ok (.iconst 2, 1) := by decide +kernel
theorem d_method_5_68 : decode method_5_code 68 = .ok (.caload, 1) := by decide +kernel
theorem d_method_5_69 : decode method_5_code 69 = .ok (.castore, 1) := by decide +kernel
theorem d_method_5_70 : decode method_5_code 70 = .ok (.areturn, 1) := by decide +kernel
theorem d_method_5_71 : decode method_5_code 71 = .ok (.iload_n 1, 1) := by decide +kernel
theorem d_method_5_72 : decode method_5_code 72 = .ok (.iconst 4, 1) := by decide +kernel
theorem d_method_5_73 : decode method_5_code 73 = .ok (.if_icmp .ne 31, 3) := by decide +kernel
theorem d_method_5_76 : decode method_5_code 76 = .ok (.iconst 4, 1) := by decide +kernel
theorem d_method_5_77 : decode method_5_code 77 = .ok (.newarray .char, 2) := by decide +kernel
theorem d_method_5_79 : decode method_5_code 79 = .ok (.dup, 1) := by decide +kernel
theorem d_method_5_80 : decode method_5_code 80 = .ok (.iconst 0, 1) := by decide +kernel
theorem d_method_5_81 : decode method_5_code 81 = .ok (.aload_n 0, 1) := by decide +kernel
theorem d_method_5_82 : decode method_5_code 82 = .ok (.iconst 0, 1) := by decide +kernel
theorem d_method_5_83 : decode method_5_code 83 = .ok (.caload, 1) := by decide +kernel
theorem d_method_5_84 : decode method_5_code 84 = .ok (.castore, 1) := by decide +kernel
theorem d_method_5_85 : decode method_5_code 85 = .ok (.dup, 1) := by decide +kernel
theorem d_method_5_86 : decode method_5_code 86 = .ok (.iconst 1, 1) := by decide +kernel
theorem d_method_5_87 : decode method_5_code 87 = .ok (.aload_n 0, 1) := by decide +kernel
theorem d_method_5_88 : decode method_5_code 88 = .ok (.iconst 1, 1) := by decide +kernel
theorem d_method_5_89 : decode method_5_code 89 = .ok (.caload, 1) := by decide +kernel
theorem d_method_5_90 : decode method_5_code 90 = .ok (.castore, 1) := by decide +kernel
theorem d_method_5_91 : decode method_5_code 91 = .ok (.dup, 1) := by decide +kernel
theorem d_method_5_92 : decode method_5_code 92 = .ok (.iconst 2, 1) := by decide +kernel
theorem d_method_5_93 : decode method_5_code 93 = .ok (.aload_n 0, 1) := by decide +kernel
theorem d_method_5_94 : decode method_5_code 94 = .ok (.iconst 2, 1) := by decide +kernel
theorem d_method_5_95 : decode method_5_code 95 = .ok (.caload, 1) := by decide +kernel
theorem d_method_5_96 : decode method_5_code 96 = .ok (.castore, 1) := by decide +kernel
theorem d_method_5_97 : decode method_5_code 97 = .ok (.dup, 1) := by decide +kernel
theorem d_method_5_98 : decode method_5_code 98 = .ok (.iconst 3, 1) := by decide +kernel
theorem d_method_5_99 : decode method_5_code 99 = .ok (.aload_n 0, 1) := by decide +kernel
theorem d_method_5_100 : decode method_5_code 100 = .ok (.iconst 3, 1) := by decide +kernel
theorem d_method_5_101 : decode method_5_code 101 = .ok (.caload, 1) := by decide +kernel
theorem d_method_5_102 : decode method_5_code 102 = .ok (.castore, 1) := by decide +kernel
theorem d_method_5_103 : decode method_5_code 103 = .ok (.areturn, 1) := by decide +kernel
theorem d_method_5_104 : decode method_5_code 104 = .ok (.iload_n 1, 1) := by decide +kernel
theorem d_method_5_105 : decode method_5_code 105 = .ok (.iconst 5, 1) := by decide +kernel
theorem d_method_5_106 : decode method_5_code 106 = .ok (.if_icmp .ne 37, 3) := by decide +kernel
theorem d_method_5_109 : decode method_5_code 109 = .ok (.iconst 5, 1) := by decide +kernel
theorem d_method_5_110 : decode method_5_code 110 = .ok (.newarray .char, 2) := by decide +kernel
theorem d_method_5_112 : decode method_5_code 112 = .ok (.dup, 1) := by decide +kernel
theorem d_method_5_113 : decode method_5_code 113 = .ok (.iconst 0, 1) := by decide +kernel
theorem d_method_5_114 : decode method_5_code 114 = .ok (.aload_n 0, 1) := by decide +kernel
theorem d_method_5_115 : decode method_5_code 115 = .ok (.iconst 0, 1) := by decide +kernel
theorem d_method_5_116 : decode method_5_code 116 = .ok (.caload, 1) := by decide +kernel
theorem d_method_5_117 : decode method_5_code 117 = .ok (.castore, 1) := by decide +kernel
theorem d_method_5_118 : decode method_5_code 118 = .ok (.dup, 1) := by decide +kernel
theorem d_method_5_119 : decode method_5_code 119 = .ok (.iconst 1, 1) := by decide +kernel
theorem d_method_5_120 : decode method_5_code 120 = .ok (.aload_n 0, 1) := by decide +kernel
theorem d_method_5_121 : decode method_5_code 121 = .ok (.iconst 1, 1) := by decide +kernel
theorem d_method_5_122 : decode method_5_code 122 = .ok (.caload, 1) := by decide +kernel
theorem d_method_5_123 : decode method_5_code 123 = .ok (.castore, 1) := by decide +kernel
theorem d_method_5_124 : decode method_5_code 124 = .ok (.dup, 1) := by decide +kernel
theorem d_method_5_125 : decode method_5_code 125 = .ok (.iconst 2, 1) := by decide +kernel
theorem d_method_5_126 : decode method_5_code 126 = .ok (.aload_n 0, 1) := by decide +kernel
theorem d_method_5_127 : decode method_5_code 127 = .ok (.iconst 2, 1) := by decide +kernel
theorem d_method_5_128 : decode method_5_code 128 = .ok (.caload, 1) := by decide +kernel
theorem d_method_5_129 : decode method_5_code 129 = .ok (.castore, 1) := by decide +kernel
theorem d_method_5_130 : decode method_5_code 130 = .ok (.dup, 1) := by decide +kernel
theorem d_method_5_131 : decode method_5_code 131 = .ok (.iconst 3, 1) := by decide +kernel
theorem d_method_5_132 : decode method_5_code 132 = .ok (.aload_n 0, 1) := by decide +kernel
theorem d_method_5_133 : decode method_5_code 133 = .ok (.iconst 3, 1) := by decide +kernel
theorem d_method_5_134 : decode method_5_code 134 = .ok (.caload, 1) := by decide +kernel
theorem d_method_5_135 : decode method_5_code 135 = .ok (.castore, 1) := by decide +kernel
theorem d_method_5_136 : decode method_5_code 136 = .ok (.dup, 1) := by decide +kernel
theorem d_method_5_137 : decode method_5_code 137 = .ok (.iconst 4, 1) := by decide +kernel
theorem d_method_5_138 : decode method_5_code 138 = .ok (.aload_n 0, 1) := by decide +kernel
theorem d_method_5_139 : decode method_5_code 139 = .ok (.iconst 4, 1) := by decide +kernel
theorem d_method_5_140 : decode method_5_code 140 = .ok (.caload, 1) := by decide +kernel
theorem d_method_5_141 : decode method_5_code 141 = .ok (.castore, 1) := by decide +kernel
theorem d_method_5_142 : decode method_5_code 142 = .ok (.areturn, 1) := by decide +kernel
theorem d_method_5_143 : decode method_5_code 143 = .ok (.iload_n 1, 1) := by decide +kernel
theorem d_method_5_144 : decode method_5_code 144 = .ok (.bipush 6, 2) := by decide +kernel
theorem d_method_5_146 : decode method_5_code 146 = .ok (.if_icmp .ne 44, 3) := by decide +kernel
theorem d_method_5_149 : decode method_5_code 149 = .ok (.bipush 6, 2) := by decide +kernel
theorem d_method_5_151 : decode method_5_code 151 = .ok (.newarray .char, 2) := by decide +kernel
theorem d_method_5_153 : decode method_5_code 153 = .ok (.dup, 1) := by decide +kernel
theorem d_method_5_154 : decode method_5_code 154 = .ok (.iconst 0, 1) := by decide +kernel
theorem d_method_5_155 : decode method_5_code 155 = .ok (.aload_n 0, 1) := by decide +kernel
theorem d_method_5_156 : decode method_5_code 156 = .ok (.iconst 0, 1) := by decide +kernel
theorem d_method_5_157 : decode method_5_code 157 = .ok (.caload, 1) := by decide +kernel
theorem d_method_5_158 : decode method_5_code 158 = .ok (.castore, 1) := by decide +kernel
theorem d_method_5_159 : decode method_5_code 159 = .ok (.dup, 1) := by decide +kernel
theorem d_method_5_160 : decode method_5_code 160 = .ok (.iconst 1, 1) := by decide +kernel
theorem d_method_5_161 : decode method_5_code 161 = .ok (.aload_n 0, 1) := by decide +kernel
theorem d_method_5_162 : decode method_5_code 162 = .ok (.iconst 1, 1) := by decide +kernel
theorem d_method_5_163 : decode method_5_code 163 = .ok (.caload, 1) := by decide +kernel
theorem d_method_5_164 : decode method_5_code 164 = .ok (.castore, 1) := by decide +kernel
theorem d_method_5_165 : decode method_5_code 165 = .ok (.dup, 1) := by decide +kernel
theorem d_method_5_166 : decode method_5_code 166 = .ok (.iconst 2, 1) := by decide +kernel
theorem d_method_5_167 : decode method_5_code 167 = .ok (.aload_n 0, 1) := by decide +kernel
theorem d_method_5_168 : decode method_5_code 168 = .ok (.iconst 2, 1) := by decide +kernel
theorem d_method_5_169 : decode method_5_code 169 = .ok (.caload, 1) := by decide +kernel
theorem d_method_5_170 : decode method_5_code 170 = .ok (.castore, 1) := by decide +kernel
theorem d_method_5_171 : decode method_5_code 171 = .ok (.dup, 1) := by decide +kernel
theorem d_method_5_172 : decode method_5_code 172 = .ok (.iconst 3, 1) := by decide +kernel
theorem d_method_5_173 : decode method_5_code 173 = .ok (.aload_n 0, 1) := by decide +kernel
theorem d_method_5_174 : decode method_5_code 174 = .ok (.iconst 3, 1) := by decide +kernel
theorem d_method_5_175 : decode method_5_code 175 = .ok (.caload, 1) := by decide +kernel
theorem d_method_5_176 : decode method_5_code 176 = .ok (.castore, 1) := by decide +kernel
theorem d_method_5_177 : decode method_5_code 177 = .ok (.dup, 1) := by decide +kernel
theorem d_method_5_178 : decode method_5_code 178 = .ok (.iconst 4, 1) := by decide +kernel
theorem d_method_5_179 : decode method_5_code 179 = .ok (.aload_n 0, 1) := by decide +kernel
theorem d_method_5_180 : decode method_5_code 180 = .ok (.iconst 4, 1) := by decide +kernel
theorem d_method_5_181 : decode method_5_code 181 = .ok (.caload, 1) := by decide +kernel
theorem d_method_5_182 : decode method_5_code 182 = .ok (.castore, 1) := by decide +kernel
theorem d_method_5_183 : decode method_5_code 183 = .ok (.dup, 1) := by decide +kernel
theorem d_method_5_184 : decode method_5_code 184 = .ok (.iconst 5, 1) := by decide +kernel
theorem d_method_5_185 : decode method_5_code 185 = .ok (.aload_n 0, 1) := by decide +kernel
theorem d_method_5_186 : decode method_5_code 186 = .ok (.iconst 5, 1) := by decide +kernel
theorem d_method_5_187 : decode method_5_code 187 = .ok (.caload, 1) := by decide +kernel
theorem d_method_5_188 : decode method_5_code 188 = .ok (.castore, 1) := by decide +kernel
theorem d_method_5_189 : decode method_5_code 189 = .ok (.areturn, 1) := by decide +kernel
theorem d_method_5_190 : decode method_5_code 190 = .ok (.iload_n 1, 1) := by decide +kernel
theorem d_method_5_191 : decode method_5_code 191 = .ok (.bipush 7, 2) := by decide +kernel
theorem d_method_5_193 : decode method_5_code 193 = .ok (.if_icmp .ne 52, 3) := by decide +kernel
theorem d_method_5_196 : decode method_5_code 196 = .ok (.bipush 7, 2) := by decide +kernel
theorem d_method_5_198 : decode method_5_code 198 = .ok (.newarray .char, 2) := by decide +kernel
theorem d_method_5_200 : decode method_5_code 200 = .ok (.dup, 1) := by decide +kernel
theorem d_method_5_201 : decode method_5_code 201 = .ok (.iconst 0, 1) := by decide +kernel
theorem d_method_5_202 : decode method_5_code 202 = .ok (.aload_n 0, 1) := by decide +kernel
theorem d_method_5_203 : decode method_5_code 203 = .ok (.iconst 0, 1) := by decide +kernel
theorem d_method_5_204 : decode method_5_code 204 = .ok (.caload, 1) := by decide +kernel
theorem d_method_5_205 : decode method_5_code 205 = .ok (.castore, 1) := by decide +kernel
theorem d_method_5_206 : decode method_5_code 206 = .ok (.dup, 1) := by decide +kernel
theorem d_method_5_207 : decode method_5_code 207 = .ok (.iconst 1, 1) := by decide +kernel
theorem d_method_5_208 : decode method_5_code 208 = .ok (.aload_n 0, 1) := by decide +kernel
theorem d_method_5_209 : decode method_5_code 209 = .ok (.iconst 1, 1) := by decide +kernel
theorem d_method_5_210 : decode method_5_code 210 = .ok (.caload, 1) := by decide +kernel
theorem d_method_5_211 : decode method_5_code 211 = .ok (.castore, 1) := by decide +kernel
theorem d_method_5_212 : decode method_5_code 212 = .ok (.dup, 1) := by decide +kernel
theorem d_method_5_213 : decode method_5_code 213 = .ok (.iconst 2, 1) := by decide +kernel
theorem d_method_5_214 : decode method_5_code 214 = .ok (.aload_n 0, 1) := by decide +kernel
theorem d_method_5_215 : decode method_5_code 215 = .ok (.iconst 2, 1) := by decide +kernel
theorem d_method_5_216 : decode method_5_code 216 = .ok (.caload, 1) := by decide +kernel
theorem d_method_5_217 : decode method_5_code 217 = .ok (.castore, 1) := by decide +kernel
theorem d_method_5_218 : decode method_5_code 218 = .ok (.dup, 1) := by decide +kernel
theorem d_method_5_219 : decode method_5_code 219 = .ok (.iconst 3, 1) := by decide +kernel
theorem d_method_5_220 : decode method_5_code 220 = .ok (.aload_n 0, 1) := by decide +kernel
theorem d_method_5_221 : decode method_5_code 221 = .ok (.iconst 3, 1) := by decide +kernel
theorem d_method_5_222 : decode method_5_code 222 = .ok (.caload, 1) := by decide +kernel
theorem d_method_5_223 : decode method_5_code 223 = .ok (.castore, 1) := by decide +kernel
theorem d_method_5_224 : decode method_5_code 224 = .ok (.dup, 1) := by decide +kernel
theorem d_method_5_225 : decode method_5_code 225 = .ok (.iconst 4, 1) := by decide +kernel
theorem d_method_5_226 : decode method_5_code 226 = .ok (.aload_n 0, 1) := by decide +kernel
theorem d_method_5_227 : decode method_5_code 227 = .ok (.iconst 4, 1) := by decide +kernel
theorem d_method_5_228 : decode method_5_code 228 = .ok (.caload, 1) := by decide +kernel
theorem d_method_5_229 : decode method_5_code 229 = .ok (.castore, 1) := by decide +kernel
theorem d_method_5_230 : decode method_5_code 230 = .ok (.dup, 1) := by decide +kernel
theorem d_method_5_231 : decode method_5_code 231 = .ok (.iconst 5, 1) := by decide +kernel
theorem d_method_5_232 : decode method_5_code 232 = .ok (.aload_n 0, 1) := by decide +kernel
theorem d_method_5_233 : decode method_5_code 233 = .ok (.iconst 5, 1) := by decide +kernel
theorem d_method_5_234 : decode method_5_code 234 = .ok (.caload, 1) := by decide +kernel
theorem d_method_5_235 : decode method_5_code 235 = .ok (.castore, 1) := by decide +kernel
theorem d_method_5_236 : decode method_5_code 236 = .ok (.dup, 1) := by decide +kernel
theorem d_method_5_237 : decode method_5_code 237 = .ok (.bipush 6, 2) := by decide +kernel
theorem d_method_5_239 : decode method_5_code 239 = .ok (.aload_n 0, 1) := by decide +kernel
theorem d_method_5_240 : decode method_5_code 240 = .ok (.bipush 6, 2) := by decide +kernel
theorem d_method_5_242 : decode method_5_code 242 = .ok (.caload, 1) := by decide +kernel
theorem d_method_5_243 : decode method_5_code 243 = .ok (.castore, 1) := by decide +kernel
theorem d_method_5_244 : decode method_5_code 244 = .ok (.areturn, 1) := by decide +kernel
theorem d_method_5_245 : decode method_5_code 245 = .ok (.bipush 8, 2) := by decide +kernel
theorem d_method_5_247 : decode method_5_code 247 = .ok (.newarray .char, 2) := by decide +kernel
theorem d_method_5_249 : decode method_5_code 249 = .ok (.dup, 1) := by decide +kernel
theorem d_method_5_250 : decode method_5_code 250 = .ok (.iconst 0, 1) := by decide +kernel
theorem d_method_5_251 : decode method_5_code 251 = .ok (.aload_n 0, 1) := by decide +kernel
theorem d_method_5_252 : decode method_5_code 252 = .ok (.iconst 0, 1) := by decide +kernel
theorem d_method_5_253 : decode method_5_code 253 = .ok (.caload, 1) := by decide +kernel
theorem d_method_5_254 : decode method_5_code 254 = .ok (.castore, 1) := by decide +kernel
theorem d_method_5_255 : decode method_5_code 255 = .ok (.dup, 1) := by decide +kernel
theorem d_method_5_256 : decode method_5_code 256 = .ok (.iconst 1, 1) := by decide +kernel
theorem d_method_5_257 : decode method_5_code 257 = .ok (.aload_n 0, 1) := by decide +kernel
theorem d_method_5_258 : decode method_5_code 258 = .ok (.iconst 1, 1) := by decide +kernel
theorem d_method_5_259 : decode method_5_code 259 = .ok (.caload, 1) := by decide +kernel
theorem d_method_5_260 : decode method_5_code 260 = .ok (.castore, 1) := by decide +kernel
theorem d_method_5_261 : decode method_5_code 261 = .ok (.dup, 1) := by decide +kernel
theorem d_method_5_262 : decode method_5_code 262 = .ok (.iconst 2, 1) := by decide +kernel
theorem d_method_5_263 : decode method_5_code 263 = .ok (.aload_n 0, 1) := by decide +kernel
theorem d_method_5_264 : decode method_5_code 264 = .ok (.iconst 2, 1) := by decide +kernel
theorem d_method_5_265 : decode method_5_code 265 = .ok (.caload, 1) := by decide +kernel
theorem d_method_5_266 : decode method_5_code 266 = .ok (.castore, 1) := by decide +kernel
theorem d_method_5_267 : decode method_5_code 267 = .ok (.dup, 1) := by decide +kernel
theorem d_method_5_268 : decode method_5_code 268 = .ok (.iconst 3, 1) := by decide +kernel
theorem d_method_5_269 : decode method_5_code 269 = .ok (.aload_n 0, 1) := by decide +kernel
theorem d_method_5_270 : decode method_5_code 270 = .ok (.iconst 3, 1) := by decide +kernel
theorem d_method_5_271 : decode method_5_code 271 = .ok (.caload, 1) := by decide +kernel
theorem d_method_5_272 : decode method_5_code 272 = .ok (.castore, 1) := by decide +kernel
theorem d_method_5_273 : decode method_5_code 273 = .ok (.dup, 1) := by decide +kernel
theorem d_method_5_274 : decode method_5_code 274 = .ok (.iconst 4, 1) := by decide +kernel
theorem d_method_5_275 : decode method_5_code 275 = .ok (.aload_n 0, 1) := by decide +kernel
theorem d_method_5_276 : decode method_5_code 276 = .ok (.iconst 4, 1) := by decide +kernel
theorem d_method_5_277 : decode method_5_code 277 = .ok (.caload, 1) := by decide +kernel
theorem d_method_5_278 : decode method_5_code 278 = .ok (.castore, 1) := by decide +kernel
theorem d_method_5_279 : decode method_5_code 279 = .ok (.dup, 1) := by decide +kernel
theorem d_method_5_280 : decode method_5_code 280 = .ok (.iconst 5, 1) := by decide +kernel
theorem d_method_5_281 : decode method_5_code 281 = .ok (.aload_n 0, 1) := by decide +kernel
theorem d_method_5_282 : decode method_5_code 282 = .ok (.iconst 5, 1) := by decide +kernel
theorem d_method_5_283 : decode method_5_code 283 = .ok (.caload, 1) := by decide +kernel
theorem d_method_5_284 : decode method_5_code 284 = .ok (.castore, 1) := by decide +kernel
theorem d_method_5_285 : decode method_5_code 285 = .ok (.dup, 1) := by decide +kernel
theorem d_method_5_286 : decode method_5_code 286 = .ok (.bipush 6, 2) := by decide +kernel
theorem d_method_5_288 : decode method_5_code 288 = .ok (.aload_n 0, 1) := by decide +kernel
theorem d_method_5_289 : decode method_5_code 289 = .ok (.bipush 6, 2) := by decide +kernel
theorem d_method_5_291 : decode method_5_code 291 = .ok (.caload, 1) := by decide +kernel
theorem d_method_5_292 : decode method_5_code 292 = .ok (.castore, 1) := by decide +kernel
theorem d_method_5_293 : decode method_5_code 293 = .ok (.dup, 1) := by decide +kernel
theorem d_method_5_294 : decode method_5_code 294 = .ok (.bipush 7, 2) := by decide +kernel
theorem d_method_5_296 : decode method_5_code 296 = .ok (.aload_n 0, 1) := by decide +kernel
theorem d_method_5_297 : decode method_5_code 297 = .ok (.bipush 7, 2) := by decide +kernel
theorem d_method_5_299 : decode method_5_code 299 = .ok (.caload, 1) := by decide +kernel
theorem d_method_5_300 : decode method_5_code 300 = .ok (.castore, 1) := by decide +kernel
theorem d_method_5_301 : decode method_5_code 301 = .ok (.areturn, 1) := by decide +kernel
theorem d_jdk_42_method_3_0 : decode jdk_42_method_3_code 0 = .ok (.aload_n 0, 1) := by decide +kernel
theorem d_jdk_42_method_3_1 : decode jdk_42_method_3_code 1 = .ok (.aload_n 1, 1) := by decide +kernel
theorem d_jdk_42_method_3_2 : decode jdk_42_method_3_code 2 = .ok (.iconst 0, 1) := by decide +kernel
theorem d_jdk_42_method_3_3 : decode jdk_42_method_3_code 3 = .ok (.aload_n 1, 1) := by decide +kernel
theorem d_jdk_42_method_3_4 : decode jdk_42_method_3_code 4 = .ok (.arraylength, 1) := by decide +kernel
theorem d_jdk_42_method_3_5 : decode jdk_42_method_3_code 5 = .ok (.aconst_null, 1) := by decide +kernel
theorem d_jdk_42_method_3_6 : decode jdk_42_method_3_code 6 = .ok (.invokespecial 27, 3) := by decide +kernel
theorem d_jdk_42_method_3_9 : decode jdk_42_method_3_code 9 = .ok (.return_, 1) := by decide +kernel
theorem d_jdk_42_method_149_0 : decode jdk_42_method_149_code 0 = .ok (.aload_n 0, 1) := by decide +kernel
theorem d_jdk_42_method_149_1 : decode jdk_42_method_149_code 1 = .ok (.invokespecial 1, 3) := by decide +kernel
theorem d_jdk_42_method_149_4 : decode jdk_42_method_149_code 4 = .ok (.iload_n 3, 1) := by decide +kernel
theorem d_jdk_42_method_149_5 : decode jdk_42_method_149_code 5 = .ok (.ifCond .ne 22, 3) := by decide +kernel
theorem d_jdk_42_method_149_8 : decode jdk_42_method_149_code 8 = .ok (.aload_n 0, 1) := by decide +kernel
theorem d_jdk_42_method_149_9 : decode jdk_42_method_149_code 9 = .ok (.ldc 7, 2) := by decide +kernel
theorem d_jdk_42_method_149_11 : decode jdk_42_method_149_code 11 = .ok (.getfield 9, 3) := by decide +kernel
theorem d_jdk_42_method_149_14 : decode jdk_42_method_149_code 14 = .ok (.putfield 9, 3) := by decide +kernel
theorem d_jdk_42_method_149_17 : decode jdk_42_method_149_code 17 = .ok (.aload_n 0, 1) := by decide +kernel
theorem d_jdk_42_method_149_18 : decode jdk_42_method_149_code 18 = .ok (.ldc 7, 2) := by decide +kernel
theorem d_jdk_42_method_149_20 : decode jdk_42_method_149_code 20 = .ok (.getfield 15, 3) := by decide +kernel
theorem d_jdk_42_method_149_23 : decode jdk_42_method_149_code 23 = .ok (.putfield 15, 3) := by decide +kernel
theorem d_jdk_42_method_149_26 : decode jdk_42_method_149_code 26 = .ok (.return_, 1) := by decide +kernel
theorem d_jdk_42_method_149_27 : decode jdk_42_method_149_code 27 = .ok (.getstatic 38, 3) := by decide +kernel
theorem d_jdk_42_method_149_30 : decode jdk_42_method_149_code 30 = .ok (.ifCond .eq 28, 3) := by decide +kernel
theorem d_jdk_42_method_149_33 : decode jdk_42_method_149_code 33 = .ok (.aload_n 1, 1) := by decide +kernel
theorem d_jdk_42_method_149_34 : decode jdk_42_method_149_code 34 = .ok (.iload_n 2, 1) := by decide +kernel
theorem d_jdk_42_method_149_35 : decode jdk_42_method_149_code 35 = .ok (.iload_n 3, 1) := by decide +kernel
theorem d_jdk_42_method_149_36 : decode jdk_42_method_149_code 36 = .ok (.invokestatic 177, 3) := by decide +kernel
theorem d_jdk_42_method_149_39 : decode jdk_42_method_149_code 39 = .ok (.astore 5, 2) := by decide +kernel
theorem d_jdk_42_method_149_41 : decode jdk_42_method_149_code 41 = .ok (.aload_n 0, 1) := by decide +kernel
theorem d_jdk_42_method_149_42 : decode jdk_42_method_149_code 42 = .ok (.aload 5, 2) := by decide +kernel
theorem d_jdk_42_method_149_44 : decode jdk_42_method_149_code 44 = .ok (.iload_n 3, 1) := by decide +kernel
theorem d_jdk_42_method_149_45 : decode jdk_42_method_149_code 45 = .ok (.invokestatic 47, 3) := by decide +kernel
theorem d_jdk_42_method_149_48 : decode jdk_42_method_149_code 48 = .ok (.putfield 15, 3) := by decide +kernel
theorem d_jdk_42_method_149_51 : decode jdk_42_method_149_code 51 = .ok (.aload_n 0, 1) := by decide +kernel
theorem d_jdk_42_method_149_52 : decode jdk_42_method_149_code 52 = .ok (.aload 5, 2) := by decide +kernel
theorem d_jdk_42_method_149_54 : decode jdk_42_method_149_code 54 = .ok (.putfield 9, 3) := by decide +kernel
theorem d_jdk_42_method_149_57 : decode jdk_42_method_149_code 57 = .ok (.return_, 1) := by decide +kernel
theorem d_jdk_42_method_54_0 : decode jdk_42_method_54_code 0 = .ok (.aload_n 0, 1) := by decide +kernel
theorem d_jdk_42_method_54_1 : decode jdk_42_method_54_code 1 = .ok (.getfield 9, 3) := by decide +kernel
theorem d_jdk_42_method_54_4 : decode jdk_42_method_54_code 4 = .ok (.arraylength, 1) := by decide +kernel
theorem d_jdk_42_method_54_5 : decode jdk_42_method_54_code 5 = .ok (.aload_n 0, 1) := by decide +kernel
theorem d_jdk_42_method_54_6 : decode jdk_42_method_54_code 6 = .ok (.invokevirtual 335, 3) := by decide +kernel
theorem d_jdk_42_method_54_9 : decode jdk_42_method_54_code 9 = .ok (.ishr, 1) := by decide +kernel
theorem d_jdk_42_method_54_10 : decode jdk_42_method_54_code 10 = .ok (.ireturn, 1) := by decide +kernel
theorem d_jdk_42_method_152_0 : decode jdk_42_method_152_code 0 = .ok (.getstatic 38, 3) := by decide +kernel
theorem d_jdk_42_method_152_3 : decode jdk_42_method_152_code 3 = .ok (.ifCond .eq 10, 3) := by decide +kernel
theorem d_jdk_42_method_152_6 : decode jdk_42_method_152_code 6 = .ok (.aload_n 0, 1) := by decide +kernel
theorem d_jdk_42_method_152_7 : decode jdk_42_method_152_code 7 = .ok (.getfield 15, 3) := by decide +kernel
theorem d_jdk_42_method_152_10 : decode jdk_42_method_152_code 10 = .ok (.goto 4, 3) := by decide +kernel
theorem d_jdk_42_method_152_14 : decode jdk_42_method_152_code 14 = .ok (.ireturn, 1) := by decide +kernel
theorem d_prog_11_method_2_0 : decode prog_11_method_2_code 0 = .ok (.aload_n 0, 1) := by decide +kernel
theorem d_prog_11_method_2_1 : decode prog_11_method_2_code 1 = .ok (.invokevirtual 26, 3) := by decide +kernel
theorem d_prog_11_method_2_4 : decode prog_11_method_2_code 4 = .ok (.iconst 1, 1) := by decide +kernel
theorem d_prog_11_method_2_5 : decode prog_11_method_2_code 5 = .ok (.isub, 1) := by decide +kernel
theorem d_prog_11_method_2_6 : decode prog_11_method_2_code 6 = .ok (.istore_n 1, 1) := by decide +kernel
theorem d_prog_11_method_2_7 : decode prog_11_method_2_code 7 = .ok (.iload_n 1, 1) := by decide +kernel
theorem d_prog_11_method_2_8 : decode prog_11_method_2_code 8 = .ok (.ifCond .lt 23, 3) := by decide +kernel
theorem d_prog_11_method_2_11 : decode prog_11_method_2_code 11 = .ok (.aload_n 0, 1) := by decide +kernel
theorem d_prog_11_method_2_12 : decode prog_11_method_2_code 12 = .ok (.iconst 0, 1) := by decide +kernel
theorem d_prog_11_method_2_13 : decode prog_11_method_2_code 13 = .ok (.invokevirtual 32, 3) := by decide +kernel
theorem d_prog_11_method_2_16 : decode prog_11_method_2_code 16 = .ok (.bipush 47, 2) := by decide +kernel
theorem d_prog_11_method_2_18 : decode prog_11_method_2_code 18 = .ok (.if_icmp .ne 13, 3) := by decide +kernel
theorem d_prog_11_method_2_21 : decode prog_11_method_2_code 21 = .ok (.aload_n 0, 1) := by decide +kernel
theorem d_prog_11_method_2_22 : decode prog_11_method_2_code 22 = .ok (.iload_n 1, 1) := by decide +kernel
theorem d_prog_11_method_2_23 : decode prog_11_method_2_code 23 = .ok (.invokevirtual 32, 3) := by decide +kernel
theorem d_prog_11_method_2_26 : decode prog_11_method_2_code 26 = .ok (.bipush 47, 2) := by decide +kernel
theorem d_prog_11_method_2_28 : decode prog_11_method_2_code 28 = .ok (.if_icmp .eq 5, 3) := by decide +kernel
theorem d_prog_11_method_2_31 : decode prog_11_method_2_code 31 = .ok (.iconst 0, 1) := by decide +kernel
theorem d_prog_11_method_2_32 : decode prog_11_method_2_code 32 = .ok (.ireturn, 1) := by decide +kernel
theorem d_prog_11_method_2_33 : decode prog_11_method_2_code 33 = .ok (.iconst 1, 1) := by decide +kernel
theorem d_prog_11_method_2_34 : decode prog_11_method_2_code 34 = .ok (.istore_n 2, 1) := by decide +kernel
theorem d_prog_11_method_2_35 : decode prog_11_method_2_code 35 = .ok (.iconst 1, 1) := by decide +kernel
theorem d_prog_11_method_2_36 : decode prog_11_method_2_code 36 = .ok (.istore_n 3, 1) := by decide +kernel
theorem d_prog_11_method_2_37 : decode prog_11_method_2_code 37 = .ok (.iload_n 3, 1) := by decide +kernel
theorem d_prog_11_method_2_38 : decode prog_11_method_2_code 38 = .ok (.iload_n 1, 1) := by decide +kernel
theorem d_prog_11_method_2_39 : decode prog_11_method_2_code 39 = .ok (.if_icmp .gt 87, 3) := by decide +kernel
theorem d_prog_11_method_2_42 : decode prog_11_method_2_code 42 = .ok (.aload_n 0, 1) := by decide +kernel
theorem d_prog_11_method_2_43 : decode prog_11_method_2_code 43 = .ok (.iload_n 3, 1) := by decide +kernel
theorem d_prog_11_method_2_44 : decode prog_11_method_2_code 44 = .ok (.invokevirtual 32, 3) := by decide +kernel
theorem d_prog_11_method_2_47 : decode prog_11_method_2_code 47 = .ok (.istore 4, 2) := by decide +kernel
theorem d_prog_11_method_2_49 : decode prog_11_method_2_code 49 = .ok (.iload 4, 2) := by decide +kernel
theorem d_prog_11_method_2_51 : decode prog_11_method_2_code 51 = .ok (.bipush 47, 2) := by decide +kernel
theorem d_prog_11_method_2_53 : decode prog_11_method_2_code 53 = .ok (.if_icmp .ne 30, 3) := by decide +kernel
theorem d_prog_11_method_2_56 : decode prog_11_method_2_code 56 = .ok (.iload_n 3, 1) := by decide +kernel
theorem d_prog_11_method_2_57 : decode prog_11_method_2_code 57 = .ok (.iload_n 2, 1) := by decide +kernel
theorem d_prog_11_method_2_58 : decode prog_11_method_2_code 58 = .ok (.isub, 1) := by decide +kernel
theorem d_prog_11_method_2_59 : decode prog_11_method_2_code 59 = .ok (.istore 5, 2) := by decide +kernel
theorem d_prog_11_method_2_61 : decode prog_11_method_2_code 61 = .ok (.iload 5, 2) := by decide +kernel
theorem d_prog_11_method_2_63 : decode prog_11_method_2_code 63 = .ok (.ifCond .eq 11, 3) := by decide +kernel
theorem d_prog_11_method_2_66 : decode prog_11_method_2_code 66 = .ok (.iload 5, 2) := by decide +kernel
theorem d_prog_11_method_2_68 : decode prog_11_method_2_code 68 = .ok (.sipush 255, 3) := by decide +kernel
theorem d_prog_11_method_2_71 : decode prog_11_method_2_code 71 = .ok (.if_icmp .le 5, 3) := by decide +kernel
theorem d_prog_11_method_2_74 : decode prog_11_method_2_code 74 = .ok (.iconst 0, 1) := by decide +kernel
theorem d_prog_11_method_2_75 : decode prog_11_method_2_code 75 = .ok (.ireturn, 1) := by decide +kernel
theorem d_prog_11_method_2_76 : decode prog_11_method_2_code 76 = .ok (.iload_n 3, 1) := by decide +kernel
theorem d_prog_11_method_2_77 : decode prog_11_method_2_code 77 = .ok (.iconst 1, 1) := by decide +kernel
theorem d_prog_11_method_2_78 : decode prog_11_method_2_code 78 = .ok (.iadd, 1) := by decide +kernel
theorem d_prog_11_method_2_79 : decode prog_11_method_2_code 79 = .ok (.istore_n 2, 1) := by decide +kernel
theorem d_prog_11_method_2_80 : decode prog_11_method_2_code 80 = .ok (.goto 40, 3) := by decide +kernel
theorem d_prog_11_method_2_83 : decode prog_11_method_2_code 83 = .ok (.iload 4, 2) := by decide +kernel
theorem d_prog_11_method_2_85 : decode prog_11_method_2_code 85 = .ok (.bipush 97, 2) := by decide +kernel
theorem d_prog_11_method_2_87 : decode prog_11_method_2_code 87 = .ok (.if_icmp .lt 10, 3) := by decide +kernel
theorem d_prog_11_method_2_90 : decode prog_11_method_2_code 90 = .ok (.iload 4, 2) := by decide +kernel
theorem d_prog_11_method_2_92 : decode prog_11_method_2_code 92 = .ok (.bipush 122, 2) := by decide +kernel
theorem d_prog_11_method_2_94 : decode prog_11_method_2_code 94 = .ok (.if_icmp .le 26, 3) := by decide +kernel
theorem d_prog_11_method_2_97 : decode prog_11_method_2_code 97 = .ok (.iload 4, 2) := by decide +kernel
theorem d_prog_11_method_2_99 : decode prog_11_method_2_code 99 = .ok (.bipush 48, 2) := by decide +kernel
theorem d_prog_11_method_2_101 : decode prog_11_method_2_code 101 = .ok (.if_icmp .lt 10, 3) := by decide +kernel
theorem d_prog_11_method_2_104 : decode prog_11_method_2_code 104 = .ok (.iload 4, 2) := by decide +kernel
theorem d_prog_11_method_2_106 : decode prog_11_method_2_code 106 = .ok (.bipush 57, 2) := by decide +kernel
theorem d_prog_11_method_2_108 : decode prog_11_method_2_code 108 = .ok (.if_icmp .le 12, 3) := by decide +kernel
theorem d_prog_11_method_2_111 : decode prog_11_method_2_code 111 = .ok (.iload 4, 2) := by decide +kernel
theorem d_prog_11_method_2_113 : decode prog_11_method_2_code 113 = .ok (.bipush 45, 2) := by decide +kernel
theorem d_prog_11_method_2_115 : decode prog_11_method_2_code 115 = .ok (.if_icmp .eq 5, 3) := by decide +kernel
theorem d_prog_11_method_2_118 : decode prog_11_method_2_code 118 = .ok (.iconst 0, 1) := by decide +kernel
theorem d_prog_11_method_2_119 : decode prog_11_method_2_code 119 = .ok (.ireturn, 1) := by decide +kernel
theorem d_prog_11_method_2_120 : decode prog_11_method_2_code 120 = .ok (.iinc 3 1, 3) := by decide +kernel
theorem d_prog_11_method_2_123 : decode prog_11_method_2_code 123 = .ok (.goto (-86), 3) := by decide +kernel
theorem d_prog_11_method_2_126 : decode prog_11_method_2_code 126 = .ok (.iconst 1, 1) := by decide +kernel
theorem d_prog_11_method_2_127 : decode prog_11_method_2_code 127 = .ok (.ireturn, 1) := by decide +kernel
theorem d_jdk_42_method_56_0 : decode jdk_42_method_56_code 0 = .ok (.aload_n 0, 1) := by decide +kernel
theorem d_jdk_42_method_56_1 : decode jdk_42_method_56_code 1 = .ok (.invokevirtual 492, 3) := by decide +kernel
theorem d_jdk_42_method_56_4 : decode jdk_42_method_56_code 4 = .ok (.ifCond .eq 12, 3) := by decide +kernel
theorem d_jdk_42_method_56_7 : decode jdk_42_method_56_code 7 = .ok (.aload_n 0, 1) := by decide +kernel
theorem d_jdk_42_method_56_8 : decode jdk_42_method_56_code 8 = .ok (.getfield 9, 3) := by decide +kernel
theorem d_jdk_42_method_56_11 : decode jdk_42_method_56_code 11 = .ok (.iload_n 1, 1) := by decide +kernel
theorem d_jdk_42_method_56_12 : decode jdk_42_method_56_code 12 = .ok (.invokestatic 495, 3) := by decide +kernel
theorem d_jdk_42_method_56_15 : decode jdk_42_method_56_code 15 = .ok (.ireturn, 1) := by decide +kernel
theorem d_jdk_42_method_56_16 : decode jdk_42_method_56_code 16 = .ok (.aload_n 0, 1) := by decide +kernel
theorem d_jdk_42_method_56_17 : decode jdk_42_method_56_code 17 = .ok (.getfield 9, 3) := by decide +kernel
theorem d_jdk_42_method_56_20 : decode jdk_42_method_56_code 20 = .ok (.iload_n 1, 1) := by decide +kernel
theorem d_jdk_42_method_56_21 : decode jdk_42_method_56_code 21 = .ok (.invokestatic 498, 3) := by decide +kernel
theorem d_jdk_42_method_56_24 : decode jdk_42_method_56_code 24 = .ok (.ireturn, 1) := by decide +kernel
theorem d_jdk_42_method_154_0 : decode jdk_42_method_154_code 0 = .ok (.getstatic 38, 3) := by decide +kernel
theorem d_jdk_42_method_154_3 : decode jdk_42_method_154_code 3 = .ok (.ifCond .eq 14, 3) := by decide +kernel
theorem d_jdk_42_method_154_6 : decode jdk_42_method_154_code 6 = .ok (.aload_n 0, 1) := by decide +kernel
theorem d_jdk_42_method_154_7 : decode jdk_42_method_154_code 7 = .ok (.getfield 15, 3) := by decide +kernel
theorem d_jdk_42_method_154_10 : decode jdk_42_method_154_code 10 = .ok (.ifCond .ne 7, 3) := by decide +kernel
theorem d_jdk_42_method_154_13 : decode jdk_42_method_154_code 13 = .ok (.iconst 1, 1) := by decide +kernel
theorem d_jdk_42_method_154_14 : decode jdk_42_method_154_code 14 = .ok (.goto 4, 3) := by decide +kernel
theorem d_jdk_42_method_154_17 : decode jdk_42_method_154_code 17 = .ok (.iconst 0, 1) := by decide +kernel
theorem d_jdk_42_method_154_18 : decode jdk_42_method_154_code 18 = .ok (.ireturn, 1) := by decide +kernel
theorem d_jdk_43_method_2_0 : decode jdk_43_method_2_code 0 = .ok (.iload_n 1, 1) := by decide +kernel
theorem d_jdk_43_method_2_1 : decode jdk_43_method_2_code 1 = .ok (.aload_n 0, 1) := by decide +kernel
theorem d_jdk_43_method_2_2 : decode jdk_43_method_2_code 2 = .ok (.arraylength, 1) := by decide +kernel
theorem d_jdk_43_method_2_3 : decode jdk_43_method_2_code 3 = .ok (.invokestatic 9, 3) := by decide +kernel
theorem d_jdk_43_method_2_6 : decode jdk_43_method_2_code 6 = .ok (.aload_n 0, 1) := by decide +kernel
theorem d_jdk_43_method_2_7 : decode jdk_43_method_2_code 7 = .ok (.iload_n 1, 1) := by decide +kernel
theorem d_jdk_43_method_2_8 : decode jdk_43_method_2_code 8 = .ok (.baload, 1) := by decide +kernel
theorem d_jdk_43_method_2_9 : decode jdk_43_method_2_code 9 = .ok (.sipush 255, 3) := by decide +kernel
theorem d_jdk_43_method_2_12 : decode jdk_43_method_2_code 12 = .ok (.iand, 1) := by decide +kernel
theorem d_jdk_43_method_2_13 : decode jdk_43_method_2_code 13 = .ok (.i2c, 1) := by decide +kernel
theorem d_jdk_43_method_2_14 : decode jdk_43_method_2_code 14 = .ok (.ireturn, 1) := by decide +kernel
theorem d_jdk_42_method_155_0 : decode jdk_42_method_155_code 0 = .ok (.iload_n 0, 1) := by decide +kernel
theorem d_jdk_42_method_155_1 : decode jdk_42_method_155_code 1 = .ok (.iload_n 1, 1) := by decide +kernel
theorem d_jdk_42_method_155_2 : decode jdk_42_method_155_code 2 = .ok (.getstatic 1053, 3) := by decide +kernel
theorem d_jdk_42_method_155_5 : decode jdk_42_method_155_code 5 = .ok (.invokestatic 1059, 3) := by decide +kernel
theorem d_jdk_42_method_155_8 : decode jdk_42_method_155_code 8 = .ok (.pop, 1) := by decide +kernel
theorem d_jdk_42_method_155_9 : decode jdk_42_method_155_code 9 = .ok (.return_, 1) := by decide +kernel
theorem d_jdk_41_method_11_0 : decode jdk_41_method_11_code 0 = .ok (.iload_n 0, 1) := by decide +kernel
theorem d_jdk_41_method_11_1 : decode jdk_41_method_11_code 1 = .ok (.ifCond .lt 8, 3) := by decide +kernel
theorem d_jdk_41_method_11_4 : decode jdk_41_method_11_code 4 = .ok (.iload_n 0, 1) := by decide +kernel
theorem d_jdk_41_method_11_5 : decode jdk_41_method_11_code 5 = .ok (.iload_n 1, 1) := by decide +kernel
theorem d_jdk_41_method_11_6 : decode jdk_41_method_11_code 6 = .ok (.if_icmp .lt 10, 3) := by decide +kernel
theorem d_jdk_41_method_11_16 : decode jdk_41_method_11_code 16 = .ok (.iload_n 0, 1) := by decide +kernel
theorem d_jdk_41_method_11_17 : decode jdk_41_method_11_code 17 = .ok (.ireturn, 1) := by decide +kernel
theorem d_jdk_52_method_16_0 : decode jdk_52_method_16_code 0 = .ok (.iload_n 2, 1) := by decide +kernel
theorem d_jdk_52_method_16_1 : decode jdk_52_method_16_code 1 = .ok (.newarray .byte, 2) := by decide +kernel
theorem d_jdk_52_method_16_3 : decode jdk_52_method_16_code 3 = .ok (.astore_n 3, 1) := by decide +kernel
theorem d_jdk_52_method_16_4 : decode jdk_52_method_16_code 4 = .ok (.aload_n 0, 1) := by decide +kernel
theorem d_jdk_52_method_16_5 : decode jdk_52_method_16_code 5 = .ok (.iload_n 1, 1) := by decide +kernel
theorem d_jdk_52_method_16_6 : decode jdk_52_method_16_code 6 = .ok (.aload_n 3, 1) := by decide +kernel
theorem d_jdk_52_method_16_7 : decode jdk_52_method_16_code 7 = .ok (.iconst 0, 1) := by decide +kernel
theorem d_jdk_52_method_16_8 : decode jdk_52_method_16_code 8 = .ok (.iload_n 2, 1) := by decide +kernel
theorem d_jdk_52_method_16_9 : decode jdk_52_method_16_code 9 = .ok (.invokestatic 115, 3) := by decide +kernel
theorem d_jdk_52_method_16_12 : decode jdk_52_method_16_code 12 = .ok (.istore 4, 2) := by decide +kernel
theorem d_jdk_52_method_16_14 : decode jdk_52_method_16_code 14 = .ok (.iload 4, 2) := by decide +kernel
theorem d_jdk_52_method_16_16 : decode jdk_52_method_16_code 16 = .ok (.iload_n 2, 1) := by decide +kernel
theorem d_jdk_52_method_16_17 : decode jdk_52_method_16_code 17 = .ok (.if_icmp .eq 40, 3) := by decide +kernel
theorem d_jdk_52_method_16_20 : decode jdk_52_method_16_code 20 = .ok (.aload_n 0, 1) := by decide +kernel
theorem d_jdk_52_method_16_21 : decode jdk_52_method_16_code 21 = .ok (.iload_n 1, 1) := by decide +kernel
theorem d_jdk_52_method_16_22 : decode jdk_52_method_16_code 22 = .ok (.iload_n 2, 1) := by decide +kernel
theorem d_jdk_52_method_16_23 : decode jdk_52_method_16_code 23 = .ok (.invokestatic 119, 3) := by decide +kernel
theorem d_jdk_52_method_16_26 : decode jdk_52_method_16_code 26 = .ok (.astore 5, 2) := by decide +kernel
theorem d_jdk_52_method_16_28 : decode jdk_52_method_16_code 28 = .ok (.aload 5, 2) := by decide +kernel
theorem d_jdk_52_method_16_30 : decode jdk_52_method_16_code 30 = .ok (.iload 4, 2) := by decide +kernel
theorem d_jdk_52_method_16_32 : decode jdk_52_method_16_code 32 = .ok (.invokestatic 71, 3) := by decide +kernel
theorem d_jdk_52_method_16_35 : decode jdk_52_method_16_code 35 = .ok (.sipush 255, 3) := by decide +kernel
theorem d_jdk_52_method_16_38 : decode jdk_52_method_16_code 38 = .ok (.if_icmp .gt 16, 3) := by decide +kernel
theorem d_jdk_52_method_16_54 : decode jdk_52_method_16_code 54 = .ok (.aload 5, 2) := by decide +kernel
theorem d_jdk_52_method_16_56 : decode jdk_52_method_16_code 56 = .ok (.areturn, 1) := by decide +kernel
theorem d_jdk_52_method_16_57 : decode jdk_52_method_16_code 57 = .ok (.aload_n 3, 1) := by decide +kernel
theorem d_jdk_52_method_16_58 : decode jdk_52_method_16_code 58 = .ok (.areturn, 1) := by decide +kernel
theorem d_jdk_52_method_21_0 : decode jdk_52_method_21_code 0 = .ok (.iconst 0, 1) := by decide +kernel
theorem d_jdk_52_method_21_1 : decode jdk_52_method_21_code 1 = .ok (.istore 5, 2) := by decide +kernel
theorem d_jdk_52_method_21_3 : decode jdk_52_method_21_code 3 = .ok (.iload 5, 2) := by decide +kernel
theorem d_jdk_52_method_21_5 : decode jdk_52_method_21_code 5 = .ok (.iload 4, 2) := by decide +kernel
theorem d_jdk_52_method_21_7 : decode jdk_52_method_21_code 7 = .ok (.if_icmp .ge 37, 3) := by decide +kernel
theorem d_jdk_52_method_21_10 : decode jdk_52_method_21_code 10 = .ok (.aload_n 0, 1) := by decide +kernel
theorem d_jdk_52_method_21_11 : decode jdk_52_method_21_code 11 = .ok (.iload_n 1, 1) := by decide +kernel
theorem d_jdk_52_method_21_12 : decode jdk_52_method_21_code 12 = .ok (.caload, 1) := by decide +kernel
theorem d_jdk_52_method_21_13 : decode jdk_52_method_21_code 13 = .ok (.istore 6, 2) := by decide +kernel
theorem d_jdk_52_method_21_15 : decode jdk_52_method_21_code 15 = .ok (.iload 6, 2) := by decide +kernel
theorem d_jdk_52_method_21_17 : decode jdk_52_method_21_code 17 = .ok (.sipush 255, 3) := by decide +kernel
theorem d_jdk_52_method_21_20 : decode jdk_52_method_21_code 20 = .ok (.if_icmp .le 6, 3) := by decide +kernel
theorem d_jdk_52_method_21_23 : decode jdk_52_method_21_code 23 = .ok (.iload 5, 2) := by decide +kernel
theorem d_jdk_52_method_21_25 : decode jdk_52_method_21_code 25 = .ok (.ireturn, 1) := by decide +kernel
theorem d_jdk_52_method_21_26 : decode jdk_52_method_21_code 26 = .ok (.aload_n 2, 1) := by decide +kernel
theorem d_jdk_52_method_21_27 : decode jdk_52_method_21_code 27 = .ok (.iload_n 3, 1) := by decide +kernel
theorem d_jdk_52_method_21_28 : decode jdk_52_method_21_code 28 = .ok (.iload 6, 2) := by decide +kernel
theorem d_jdk_52_method_21_30 : decode jdk_52_method_21_code 30 = .ok (.i2b, 1) := by decide +kernel
theorem d_jdk_52_method_21_31 : decode jdk_52_method_21_code 31 = .ok (.bastore, 1) := by decide +kernel
theorem d_jdk_52_method_21_32 : decode jdk_52_method_21_code 32 = .ok (.iinc 1 1, 3) := by decide +kernel
theorem d_jdk_52_method_21_35 : decode jdk_52_method_21_code 35 = .ok (.iinc 3 1, 3) := by decide +kernel
theorem d_jdk_52_method_21_38 : decode jdk_52_method_21_code 38 = .ok (.iinc 5 1, 3) := by decide +kernel
theorem d_jdk_52_method_21_41 : decode jdk_52_method_21_code 41 = .ok (.goto (-38), 3) := by decide +kernel
theorem d_jdk_52_method_21_44 : decode jdk_52_method_21_code 44 = .ok (.iload 4, 2) := by decide +kernel
theorem d_jdk_52_method_21_46 : decode jdk_52_method_21_code 46 = .ok (.ireturn, 1) := by decide +kernel
theorem d_jdk_52_method_15_0 : decode jdk_52_method_15_code 0 = .ok (.iload_n 1, 1) := by decide +kernel
theorem d_jdk_52_method_15_1 : decode jdk_52_method_15_code 1 = .ok (.aload_n 0, 1) := by decide +kernel
theorem d_jdk_52_method_15_2 : decode jdk_52_method_15_code 2 = .ok (.arraylength, 1) := by decide +kernel
theorem d_jdk_52_method_15_3 : decode jdk_52_method_15_code 3 = .ok (.isub, 1) := by decide +kernel
theorem d_jdk_52_method_15_4 : decode jdk_52_method_15_code 4 = .ok (.bipush 31, 2) := by decide +kernel
theorem d_jdk_52_method_15_6 : decode jdk_52_method_15_code 6 = .ok (.iushr, 1) := by decide +kernel
theorem d_jdk_52_method_15_7 : decode jdk_52_method_15_code 7 = .ok (.i2b, 1) := by decide +kernel
theorem d_jdk_52_method_15_8 : decode jdk_52_method_15_code 8 = .ok (.ireturn, 1) := by decide +kernel
theorem d_jdk_52_method_14_0 : decode jdk_52_method_14_code 0 = .ok (.iload_n 2, 1) := by decide +kernel
theorem d_jdk_52_method_14_1 : decode jdk_52_method_14_code 1 = .ok (.invokestatic 107, 3) := by decide +kernel
theorem d_jdk_52_method_14_4 : decode jdk_52_method_14_code 4 = .ok (.astore_n 3, 1) := by decide +kernel
theorem d_jdk_52_method_14_5 : decode jdk_52_method_14_code 5 = .ok (.iconst 0, 1) := by decide +kernel
theorem d_jdk_52_method_14_6 : decode jdk_52_method_14_code 6 = .ok (.istore 4, 2) := by decide +kernel
theorem d_jdk_52_method_14_8 : decode jdk_52_method_14_code 8 = .ok (.iload 4, 2) := by decide +kernel
theorem d_jdk_52_method_14_10 : decode jdk_52_method_14_code 10 = .ok (.iload_n 2, 1) := by decide +kernel
theorem d_jdk_52_method_14_11 : decode jdk_52_method_14_code 11 = .ok (.if_icmp .ge 21, 3) := by decide +kernel
theorem d_jdk_52_method_14_14 : decode jdk_52_method_14_code 14 = .ok (.aload_n 3, 1) := by decide +kernel
theorem d_jdk_52_method_14_15 : decode jdk_52_method_14_code 15 = .ok (.iload 4, 2) := by decide +kernel
theorem d_jdk_52_method_14_17 : decode jdk_52_method_14_code 17 = .ok (.aload_n 0, 1) := by decide +kernel
theorem d_jdk_52_method_14_18 : decode jdk_52_method_14_code 18 = .ok (.iload_n 1, 1) := by decide +kernel
theorem d_jdk_52_method_14_19 : decode jdk_52_method_14_code 19 = .ok (.caload, 1) := by decide +kernel
theorem d_jdk_52_method_14_20 : decode jdk_52_method_14_code 20 = .ok (.invokestatic 111, 3) := by decide +kernel
theorem d_jdk_52_method_14_23 : decode jdk_52_method_14_code 23 = .ok (.iinc 1 1, 3) := by decide +kernel
theorem d_jdk_52_method_14_26 : decode jdk_52_method_14_code 26 = .ok (.iinc 4 1, 3) := by decide +kernel
theorem d_jdk_52_method_14_29 : decode jdk_52_method_14_code 29 = .ok (.goto (-21), 3) := by decide +kernel
theorem d_jdk_52_method_14_32 : decode jdk_52_method_14_code 32 = .ok (.aload_n 3, 1) := by decide +kernel
theorem d_jdk_52_method_14_33 : decode jdk_52_method_14_code 33 = .ok (.areturn, 1) := by decide +kernel
theorem d_jdk_52_method_2_0 : decode jdk_52_method_2_code 0 = .ok (.iload_n 0, 1) := by decide +kernel
theorem d_jdk_52_method_2_1 : decode jdk_52_method_2_code 1 = .ok (.invokestatic 11, 3) := by decide +kernel
theorem d_jdk_52_method_2_4 : decode jdk_52_method_2_code 4 = .ok (.newarray .byte, 2) := by decide +kernel
theorem d_jdk_52_method_2_6 : decode jdk_52_method_2_code 6 = .ok (.areturn, 1) := by decide +kernel
theorem d_jdk_52_method_3_0 : decode jdk_52_method_3_code 0 = .ok (.iload_n 0, 1) := by decide +kernel
theorem d_jdk_52_method_3_1 : decode jdk_52_method_3_code 1 = .ok (.ifCond .ge 11, 3) := by decide +kernel
theorem d_jdk_52_method_3_12 : decode jdk_52_method_3_code 12 = .ok (.iload_n 0, 1) := by decide +kernel
theorem d_jdk_52_method_3_13 : decode jdk_52_method_3_code 13 = .ok (.ldc 20, 2) := by decide +kernel
theorem d_jdk_52_method_3_15 : decode jdk_52_method_3_code 15 = .ok (.if_icmp .lt 40, 3) := by decide +kernel
theorem d_jdk_52_method_3_55 : decode jdk_52_method_3_code 55 = .ok (.iload_n 0, 1) := by decide +kernel
theorem d_jdk_52_method_3_56 : decode jdk_52_method_3_code 56 = .ok (.iconst 1, 1) := by decide +kernel
theorem d_jdk_52_method_3_57 : decode jdk_52_method_3_code 57 = .ok (.ishl, 1) := by decide +kernel
theorem d_jdk_52_method_3_58 : decode jdk_52_method_3_code 58 = .ok (.ireturn, 1) := by decide +kernel
theorem d_jdk_52_method_4_0 : decode jdk_52_method_4_code 0 = .ok (.getstatic 44, 3) := by decide +kernel
theorem d_jdk_52_method_4_3 : decode jdk_52_method_4_code 3 = .ok (.ifCond .ne 25, 3) := by decide +kernel
theorem d_jdk_52_method_4_28 : decode jdk_52_method_4_code 28 = .ok (.iload_n 1, 1) := by decide +kernel
theorem d_jdk_52_method_4_29 : decode jdk_52_method_4_code 29 = .ok (.iconst 1, 1) := by decide +kernel
theorem d_jdk_52_method_4_30 : decode jdk_52_method_4_code 30 = .ok (.ishl, 1) := by decide +kernel
theorem d_jdk_52_method_4_31 : decode jdk_52_method_4_code 31 = .ok (.istore_n 1, 1) := by decide +kernel
theorem d_jdk_52_method_4_32 : decode jdk_52_method_4_code 32 = .ok (.aload_n 0, 1) := by decide +kernel
theorem d_jdk_52_method_4_33 : decode jdk_52_method_4_code 33 = .ok (.iload_n 1, 1) := by decide +kernel
theorem d_jdk_52_method_4_34 : decode jdk_52_method_4_code 34 = .ok (.iinc 1 1, 3) := by decide +kernel
theorem d_jdk_52_method_4_37 : decode jdk_52_method_4_code 37 = .ok (.iload_n 2, 1) := by decide +kernel
theorem d_jdk_52_method_4_38 : decode jdk_52_method_4_code 38 = .ok (.getstatic 59, 3) := by decide +kernel
theorem d_jdk_52_method_4_41 : decode jdk_52_method_4_code 41 = .ok (.ishr, 1) := by decide +kernel
theorem d_jdk_52_method_4_42 : decode jdk_52_method_4_code 42 = .ok (.i2b, 1) := by decide +kernel
theorem d_jdk_52_method_4_43 : decode jdk_52_method_4_code 43 = .ok (.bastore, 1) := by decide +kernel
theorem d_jdk_52_method_4_44 : decode jdk_52_method_4_code 44 = .ok (.aload_n 0, 1) := by decide +kernel
theorem d_jdk_52_method_4_45 : decode jdk_52_method_4_code 45 = .ok (.iload_n 1, 1) := by decide +kernel
theorem d_jdk_52_method_4_46 : decode jdk_52_method_4_code 46 = .ok (.iload_n 2, 1) := by decide +kernel
theorem d_jdk_52_method_4_47 : decode jdk_52_method_4_code 47 = .ok (.getstatic 63, 3) := by decide +kernel
theorem d_jdk_52_method_4_50 : decode jdk_52_method_4_code 50 = .ok (.ishr, 1) := by decide +kernel
theorem d_jdk_52_method_4_51 : decode jdk_52_method_4_code 51 = .ok (.i2b, 1) := by decide +kernel
theorem d_jdk_52_method_4_52 : decode jdk_52_method_4_code 52 = .ok (.bastore, 1) := by decide +kernel
theorem d_jdk_52_method_4_53 : decode jdk_52_method_4_code 53 = .ok (.return_, 1) := by decide +kernel
theorem d_jdk_52_method_5_0 : decode jdk_52_method_5_code 0 = .ok (.getstatic 44, 3) := by decide +kernel
theorem d_jdk_52_method_5_3 : decode jdk_52_method_5_code 3 = .ok (.ifCond .ne 25, 3) := by decide +kernel
theorem d_jdk_52_method_5_28 : decode jdk_52_method_5_code 28 = .ok (.iload_n 1, 1) := by decide +kernel
theorem d_jdk_52_method_5_29 : decode jdk_52_method_5_code 29 = .ok (.iconst 1, 1) := by decide +kernel
theorem d_jdk_52_method_5_30 : decode jdk_52_method_5_code 30 = .ok (.ishl, 1) := by decide +kernel
theorem d_jdk_52_method_5_31 : decode jdk_52_method_5_code 31 = .ok (.istore_n 1, 1) := by decide +kernel
theorem d_jdk_52_method_5_32 : decode jdk_52_method_5_code 32 = .ok (.aload_n 0, 1) := by decide +kernel
theorem d_jdk_52_method_5_33 : decode jdk_52_method_5_code 33 = .ok (.iload_n 1, 1) := by decide +kernel
theorem d_jdk_52_method_5_34 : decode jdk_52_method_5_code 34 = .ok (.iinc 1 1, 3) := by decide +kernel
theorem d_jdk_52_method_5_37 : decode jdk_52_method_5_code 37 = .ok (.baload, 1) := by decide +kernel
theorem d_jdk_52_method_5_38 : decode jdk_52_method_5_code 38 = .ok (.sipush 255, 3) := by decide +kernel
theorem d_jdk_52_method_5_41 : decode jdk_52_method_5_code 41 = .ok (.iand, 1) := by decide +kernel
theorem d_jdk_52_method_5_42 : decode jdk_52_method_5_code 42 = .ok (.getstatic 59, 3) := by decide +kernel
theorem d_jdk_52_method_5_45 : decode jdk_52_method_5_code 45 = .ok (.ishl, 1) := by decide +kernel
theorem d_jdk_52_method_5_46 : decode jdk_52_method_5_code 46 = .ok (.aload_n 0, 1) := by decide +kernel
theorem d_jdk_52_method_5_47 : decode jdk_52_method_5_code 47 = .ok (.iload_n 1, 1) := by decide +kernel
theorem d_jdk_52_method_5_48 : decode jdk_52_method_5_code 48 = .ok (.baload, 1) := by decide +kernel
theorem d_jdk_52_method_5_49 : decode jdk_52_method_5_code 49 = .ok (.sipush 255, 3) := by decide +kernel
theorem d_jdk_52_method_5_52 : decode jdk_52_method_5_code 52 = .ok (.iand, 1) := by decide +kernel
theorem d_jdk_52_method_5_53 : decode jdk_52_method_5_code 53 = .ok (.getstatic 63, 3) := by decide +kernel
theorem d_jdk_52_method_5_56 : decode jdk_52_method_5_code 56 = .ok (.ishl, 1) := by decide +kernel
theorem d_jdk_52_method_5_57 : decode jdk_52_method_5_code 57 = .ok (.ior, 1) := by decide +kernel
theorem d_jdk_52_method_5_58 : decode jdk_52_method_5_code 58 = .ok (.i2c, 1) := by decide +kernel
theorem d_jdk_52_method_5_59 : decode jdk_52_method_5_code 59 = .ok (.ireturn, 1) := by decide +kernel
theorem d_jdk_52_method_83_0 : decode jdk_52_method_83_code 0 = .ok (.iload_n 1, 1) := by decide +kernel
theorem d_jdk_52_method_83_1 : decode jdk_52_method_83_code 1 = .ok (.aload_n 0, 1) := by decide +kernel
theorem d_jdk_52_method_83_2 : decode jdk_52_method_83_code 2 = .ok (.invokestatic 67, 3) := by decide +kernel
theorem d_jdk_52_method_83_5 : decode jdk_52_method_83_code 5 = .ok (.aload_n 0, 1) := by decide +kernel
theorem d_jdk_52_method_83_6 : decode jdk_52_method_83_code 6 = .ok (.iload_n 1, 1) := by decide +kernel
theorem d_jdk_52_method_83_7 : decode jdk_52_method_83_code 7 = .ok (.invokestatic 71, 3) := by decide +kernel
theorem d_jdk_52_method_83_10 : decode jdk_52_method_83_code 10 = .ok (.ireturn, 1) := by decide +kernel
theorem d_jdk_52_method_91_0 : decode jdk_52_method_91_code 0 = .ok (.iload_n 0, 1) := by decide +kernel
theorem d_jdk_52_method_91_1 : decode jdk_52_method_91_code 1 = .ok (.aload_n 1, 1) := by decide +kernel
theorem d_jdk_52_method_91_2 : decode jdk_52_method_91_code 2 = .ok (.invokestatic 48, 3) := by decide +kernel
theorem d_jdk_52_method_91_5 : decode jdk_52_method_91_code 5 = .ok (.invokestatic 414, 3) := by decide +kernel
theorem d_jdk_52_method_91_8 : decode jdk_52_method_91_code 8 = .ok (.return_, 1) := by decide +kernel
theorem d_jdk_52_method_6_0 : decode jdk_52_method_6_code 0 = .ok (.aload_n 0, 1) := by decide +kernel
theorem d_jdk_52_method_6_1 : decode jdk_52_method_6_code 1 = .ok (.arraylength, 1) := by decide +kernel
theorem d_jdk_52_method_6_2 : decode jdk_52_method_6_code 2 = .ok (.iconst 1, 1) := by decide +kernel
theorem d_jdk_52_method_6_3 : decode jdk_52_method_6_code 3 = .ok (.ishr, 1) := by decide +kernel
theorem d_jdk_52_method_6_4 : decode jdk_52_method_6_code 4 = .ok (.ireturn, 1) := by decide +kernel
theorem d_method_4_0 : decode method_4_code 0 = .ok (.iload_n 2, 1) := by decide +kernel
theorem d_method_4_1 : decode method_4_code 1 = .ok (.iload_n 1, 1) := by decide +kernel
theorem d_method_4_2 : decode method_4_code 2 = .ok (.if_icmp .lt 5, 3) := by decide +kernel
theorem d_method_4_5 : decode method_4_code 5 = .ok (.iconst 1, 1) := by decide +kernel
theorem d_method_4_6 : decode method_4_code 6 = .ok (.ireturn, 1) := by decide +kernel
theorem d_method_4_7 : decode method_4_code 7 = .ok (.aload_n 0, 1) := by decide +kernel
theorem d_method_4_8 : decode method_4_code 8 = .ok (.iload_n 2, 1) := by decide +kernel
theorem d_method_4_9 : decode method_4_code 9 = .ok (.caload, 1) := by decide +kernel
theorem d_method_4_10 : decode method_4_code 10 = .ok (.istore_n 3, 1) := by decide +kernel
theorem d_method_4_11 : decode method_4_code 11 = .ok (.iload_n 3, 1) := by decide +kernel
theorem d_method_4_12 : decode method_4_code 12 = .ok (.bipush 47, 2) := by decide +kernel
theorem d_method_4_14 : decode method_4_code 14 = .ok (.if_icmp .ne 19, 3) := by decide +kernel
theorem d_method_4_17 : decode method_4_code 17 = .ok (.aload_n 0, 1) := by decide +kernel
theorem d_method_4_18 : decode method_4_code 18 = .ok (.iload_n 2, 1) := by decide +kernel
theorem d_method_4_19 : decode method_4_code 19 = .ok (.iconst 1, 1) := by decide +kernel
theorem d_method_4_20 : decode method_4_code 20 = .ok (.isub, 1) := by decide +kernel
theorem d_method_4_21 : decode method_4_code 21 = .ok (.caload, 1) := by decide +kernel
theorem d_method_4_22 : decode method_4_code 22 = .ok (.bipush 47, 2) := by decide +kernel
theorem d_method_4_24 : decode method_4_code 24 = .ok (.if_icmp .eq 7, 3) := by decide +kernel
theorem d_method_4_27 : decode method_4_code 27 = .ok (.iconst 1, 1) := by decide +kernel
theorem d_method_4_28 : decode method_4_code 28 = .ok (.goto 4, 3) := by decide +kernel
theorem d_method_4_31 : decode method_4_code 31 = .ok (.iconst 0, 1) := by decide +kernel
theorem d_method_4_32 : decode method_4_code 32 = .ok (.ireturn, 1) := by decide +kernel
theorem d_method_4_33 : decode method_4_code 33 = .ok (.iload_n 3, 1) := by decide +kernel
theorem d_method_4_34 : decode method_4_code 34 = .ok (.invokestatic 11, 3) := by decide +kernel
theorem d_method_4_37 : decode method_4_code 37 = .ok (.ireturn, 1) := by decide +kernel
theorem d_method_3_0 : decode method_3_code 0 = .ok (.iload_n 0, 1) := by decide +kernel
theorem d_method_3_1 : decode method_3_code 1 = .ok (.bipush 97, 2) := by decide +kernel
theorem d_method_3_3 : decode method_3_code 3 = .ok (.if_icmp .lt 9, 3) := by decide +kernel
theorem d_method_3_6 : decode method_3_code 6 = .ok (.iload_n 0, 1) := by decide +kernel
theorem d_method_3_7 : decode method_3_code 7 = .ok (.bipush 122, 2) := by decide +kernel
theorem d_method_3_9 : decode method_3_code 9 = .ok (.if_icmp .le 21, 3) := by decide +kernel
theorem d_method_3_12 : decode method_3_code 12 = .ok (.iload_n 0, 1) := by decide +kernel
theorem d_method_3_13 : decode method_3_code 13 = .ok (.bipush 48, 2) := by decide +kernel
theorem d_method_3_15 : decode method_3_code 15 = .ok (.if_icmp .lt 9, 3) := by decide +kernel
theorem d_method_3_18 : decode method_3_code 18 = .ok (.iload_n 0, 1) := by decide +kernel
theorem d_method_3_19 : decode method_3_code 19 = .ok (.bipush 57, 2) := by decide +kernel
theorem d_method_3_21 : decode method_3_code 21 = .ok (.if_icmp .le 9, 3) := by decide +kernel
theorem d_method_3_24 : decode method_3_code 24 = .ok (.iload_n 0, 1) := by decide +kernel
theorem d_method_3_25 : decode method_3_code 25 = .ok (.bipush 45, 2) := by decide +kernel
theorem d_method_3_27 : decode method_3_code 27 = .ok (.if_icmp .ne 7, 3) := by decide +kernel
theorem d_method_3_30 : decode method_3_code 30 = .ok (.iconst 1, 1) := by decide +kernel
theorem d_method_3_31 : decode method_3_code 31 = .ok (.goto 4, 3) := by decide +kernel
theorem d_method_3_34 : decode method_3_code 34 = .ok (.iconst 0, 1) := by decide +kernel
theorem d_method_3_35 : decode method_3_code 35 = .ok (.ireturn, 1) := by decide +kernel
theorem pn_com_example_presswright_presswright_publishing_PagePathIsPagePathPinLaw : plainName "com/example/presswright/presswright/publishing/PagePathIsPagePathPinLaw" = true := by first | (simp [plainName, overriddenIn]; done) | decide +kernel
theorem pd__JI_C : parseMethodDescriptor "(JI)C" = some ⟨[.long, .int], some .char⟩ := by decide +kernel
theorem pd___CI__C : parseMethodDescriptor "([CI)[C" = some ⟨[(.array .char), .int], some (.array .char)⟩ := by decide +kernel
theorem pn_java_lang_String : plainName "java/lang/String" = true := by first | (simp [plainName, overriddenIn]; done) | decide +kernel
theorem pd___C_V : parseMethodDescriptor "([C)V" = some ⟨[(.array .char)], none⟩ := by decide +kernel
theorem pd___CIILjava_lang_Void__V : parseMethodDescriptor "([CIILjava/lang/Void;)V" = some ⟨[(.array .char), .int, .int, (.object "java/lang/Void")], none⟩ := by decide +kernel
theorem pd___CII__B : parseMethodDescriptor "([CII)[B" = some ⟨[(.array .char), .int, .int], some (.array .byte)⟩ := by decide +kernel
theorem pd___BI_B : parseMethodDescriptor "([BI)B" = some ⟨[(.array .byte), .int], some .byte⟩ := by decide +kernel
theorem pd___I : parseMethodDescriptor "()I" = some ⟨[], some .int⟩ := by decide +kernel
theorem pd___B : parseMethodDescriptor "()B" = some ⟨[], some .byte⟩ := by decide +kernel
theorem pn_com_example_presswright_presswright_publishing_PagePath : plainName "com/example/presswright/presswright/publishing/PagePath" = true := by first | (simp [plainName, overriddenIn]; done) | decide +kernel
theorem pd__Ljava_lang_String__Z : parseMethodDescriptor "(Ljava/lang/String;)Z" = some ⟨[(.object "java/lang/String")], some .boolean⟩ := by decide +kernel
theorem pd__I_C : parseMethodDescriptor "(I)C" = some ⟨[.int], some .char⟩ := by decide +kernel
theorem pd___Z : parseMethodDescriptor "()Z" = some ⟨[], some .boolean⟩ := by decide +kernel
theorem pd___BI_C : parseMethodDescriptor "([BI)C" = some ⟨[(.array .byte), .int], some .char⟩ := by decide +kernel
theorem pn_java_lang_StringLatin1 : plainName "java/lang/StringLatin1" = true := by first | (simp [plainName, overriddenIn]; done) | decide +kernel
theorem pd__II_V : parseMethodDescriptor "(II)V" = some ⟨[.int, .int], none⟩ := by decide +kernel
theorem pd__IILjava_util_function_BiFunction__I : parseMethodDescriptor "(IILjava/util/function/BiFunction;)I" = some ⟨[.int, .int, (.object "java/util/function/BiFunction")], some .int⟩ := by decide +kernel
theorem pn_jdk_internal_util_Preconditions : plainName "jdk/internal/util/Preconditions" = true := by first | (simp [plainName, overriddenIn]; done) | decide +kernel
theorem pn_java_lang_StringUTF16 : plainName "java/lang/StringUTF16" = true := by first | (simp [plainName, overriddenIn]; done) | decide +kernel
theorem pd___CI_BII_I : parseMethodDescriptor "([CI[BII)I" = some ⟨[(.array .char), .int, (.array .byte), .int, .int], some .int⟩ := by decide +kernel
theorem pd__I__B : parseMethodDescriptor "(I)[B" = some ⟨[.int], some (.array .byte)⟩ := by decide +kernel
theorem pd___BII_V : parseMethodDescriptor "([BII)V" = some ⟨[(.array .byte), .int, .int], none⟩ := by decide +kernel
theorem pd__I_I : parseMethodDescriptor "(I)I" = some ⟨[.int], some .int⟩ := by decide +kernel
theorem pd___B_I : parseMethodDescriptor "([B)I" = some ⟨[(.array .byte)], some .int⟩ := by decide +kernel
theorem pd__I_B_V : parseMethodDescriptor "(I[B)V" = some ⟨[.int, (.array .byte)], none⟩ := by decide +kernel
theorem pd___CII_Z : parseMethodDescriptor "([CII)Z" = some ⟨[(.array .char), .int, .int], some .boolean⟩ := by decide +kernel
theorem pd__C_Z : parseMethodDescriptor "(C)Z" = some ⟨[.char], some .boolean⟩ := by decide +kernel
theorem own_sA : ∀ d ∈ Bundle.stringAtoms, d ∈ tables_1 := by decide +kernel
theorem own_wS {Z : State} {a0 : Array Value} (hw : ∀ d ∈ tables_1, d.before a0 Z = true) : ∀ a ∈ Bundle.stringAtoms, a.before a0 Z = true := fun d hd => hw d (own_sA d hd)
theorem own_EL {Z : State} {a0 : Array Value} (hw : ∀ d ∈ tables_1, d.before a0 Z = true) : EW Z a0 Jvm.OwnK.EL := (EW.cons (tw hw 31 rfl) (by decide +kernel) (EW.cons (tw hw 80 rfl) (by decide +kernel) (EW.cons (tw hw 23 rfl) (by decide) EW.nil)))
theorem own_words : ∀ d ∈ StrChars.Road.words, d ∈ tables_1 := by decide +kernel
def StrIs (Z : State) (h : Heap) (b : Addr) (cs : List Int32) : Prop := ∃ (t : Addr) (kb : ClassId), Exa Z h b "java/lang/String" ∧ Fld Z h b "java/lang/String" "coder" "B" (.int 0) ∧ Fld Z h b "java/lang/String" "value" "[B" (.ref t) ∧ Arv Z h t kb .byte (Int32.ofNat cs.length) ((cs.map fun c => c.toInt8.toInt32).map Value.int) (.int 0) ∧ (∀ c ∈ cs, ¬ c < 0 ∧ ¬ 255 < c) ∧ cs.length ≤ 4000
theorem StrIs.keep {Z : State} {h h' : Heap} {b : Addr} {cs : List Int32} (F : StrIs Z h b cs) (K : Keep h h' []) : StrIs Z h' b cs := by
  obtain ⟨t, kb, q1, q2, q3, q4, r⟩ := F
  exact ⟨t, kb, q1.keep K, q2.keep K nin0, q3.keep K nin0, q4.keep K nin0, r⟩
theorem StrIs.ext {Z : State} {h h' : Heap} {b : Addr} {cs : List Int32} (F : StrIs Z h b cs) (K : Ext h h') : StrIs Z h' b cs := F.keep ((Keep.refl h []).ext K)
theorem StrIs.exa {Z : State} {h : Heap} {b : Addr} {cs : List Int32} (F : StrIs Z h b cs) : Exa Z h b "java/lang/String" := by obtain ⟨t, kb, q, -⟩ := F; exact q
theorem own_up {cs : List Int32} (h : ∀ c ∈ cs, ¬ c < 0 ∧ ¬ (255 : Int32) < c) : ∀ c ∈ cs, ¬ c < 0 ∧ ¬ (65535 : Int32) < c := fun c hc => by
  have q := h c hc
  simp only [Int32.lt_iff_toInt_lt, Int32.reduceToInt] at *; omega
theorem own_eqv {v : Option Value} {P : Prop} [Decidable P] (h : (v = some (.int 1) ∧ P) ∨ (v = some (.int 0) ∧ ¬ P)) : v = some (.int (bi (decide P))) := by
  rcases h with ⟨h, q⟩ | ⟨h, q⟩
  · rw [h, decide_eq_true q]; rfl
  · rw [h, decide_eq_false q]; rfl
theorem own_eqr {args : Array Value} {Z : State} {X F : Term} {idx : List Nat} {y : Addr} (hF : F.eval args Z none idx Z = some (.ref y)) (h : (Jvm.Cond.eq X F).value args Z none Z idx = some true) : X.eval args Z none idx Z = some (.ref y) := by
  cases hX : X.eval args Z none idx Z with
  | none => simp [Cond.value, hX] at h
  | some x => cases x <;> simp [Cond.value, hX, hF] at h ⊢ <;> exact h
theorem own_isref {args : Array Value} {s : State} {t : Term} (h : (Jvm.Cond.isRef t).value args s none s [] = some true) : ∃ v : Value, t.eval args s none [] s = some v ∧ v.isRef = true := by
  cases e : t.eval args s none [] s with
  | none => simp [Cond.value, e] at h
  | some v => exact ⟨v, rfl, by cases v <;> simp_all [Cond.value, Value.isRef]⟩
theorem own_nneg {i : Nat} (h : i < 2147483648) : ¬ Int32.ofNat i < 0 := by
  rw [Int32.lt_iff_toInt_lt, own_ofNat h]; show ¬ ((i : Int) < 0); omega
theorem own_inj {i j : Nat} (hi : i < 2147483648) (hj : j < 2147483648) : (Int32.ofNat i = Int32.ofNat j) ↔ i = j := by
  rw [← Int32.toInt_inj, own_ofNat hi, own_ofNat hj]; omega
theorem own_sub {i j : Nat} (h : j ≤ i) : Int32.ofNat i - Int32.ofNat j = Int32.ofNat (i - j) := by
  have q : Int32.ofNat i = Int32.ofNat (i - j) + Int32.ofNat j := by rw [← Int32.ofNat_add, Nat.sub_add_cancel h]
  rw [q, Int32.add_sub_cancel]
theorem own_dec {i : Nat} (h : 1 ≤ i) : Int32.ofNat i - 1 = Int32.ofNat (i - 1) := own_sub h
theorem own_dec1 (i : Nat) : Int32.ofNat (i + 1) + (-1) = Int32.ofNat i := by
  rw [← own_inc, Int32.add_assoc, show (1 + -1 : Int32) = 0 by decide, Int32.add_zero]
theorem own_add (i j : Nat) : Int32.ofNat i + Int32.ofNat j = Int32.ofNat (i + j) := (Int32.ofNat_add i j).symm
def arl (n : Nat) (f : Nat → Int32) : List Value := (List.range n).map fun i => Value.int (f i)
def lst (n : Nat) (f : Nat → Int32) : List Int32 := (List.range n).map f
theorem arl_len (n : Nat) (f : Nat → Int32) : (arl n f).length = n := by simp [arl]
theorem lst_len (n : Nat) (f : Nat → Int32) : (lst n f).length = n := by simp [lst]
theorem arl_get {n i : Nat} {f : Nat → Int32} {d : Value} (h : i < n) : (arl n f).getD i d = .int (f i) := by
  simp [arl, List.getD_eq_getElem?_getD, h]
theorem arl_rd {n i : Nat} (h : i < n) (hn : n < 2147483648) {f : Nat → Int32} {d : Value} : (arl n f).getD (Int32.ofNat i).toNatClampNeg d = .int (f i) := by
  rw [own_clamp (by omega)]; exact arl_get h
theorem arl_set {n i : Nat} {f : Nat → Int32} {x : Int32} : (arl n f).set i (.int x) = arl n (fun j => if j = i then x else f j) := by
  apply List.ext_getElem (by simp [arl])
  intro j h1 h2
  simp only [arl, List.getElem_set, List.getElem_map, List.getElem_range]
  by_cases q : i = j
  · subst q; simp
  · rw [if_neg q, if_neg (fun e => q e.symm)]
theorem arl_congr {n : Nat} {f g : Nat → Int32} (h : ∀ i, i < n → f i = g i) : arl n f = arl n g :=
  List.map_congr_left fun i hi => by rw [h i (List.mem_range.mp hi)]
theorem arl_zero (n : Nat) : List.replicate n (Value.int 0) = arl n (fun _ => 0) := by
  apply List.ext_getElem (by simp [arl])
  intro j h1 h2; simp [arl]
theorem lst_map {n : Nat} {f : Nat → Int32} {g : Int32 → Int32} : ((lst n f).map g).map Value.int = arl n (fun i => g (f i)) := by
  simp [arl, lst, Function.comp_def]
theorem lst_mem {n : Nat} {f : Nat → Int32} {P : Int32 → Prop} : (∀ c ∈ lst n f, P c) ↔ ∀ i, i < n → P (f i) := by
  simp [lst]
theorem arv_eq {Z : State} {h : Heap} {a : Addr} {k : ClassId} {ty : FieldType} {z : Int32} {vs vs' : List Value} {d : Value} (F : Arv Z h a k ty z vs d) (q : ∀ i, i < z.toNatClampNeg → vs.getD i d = vs'.getD i d) : Arv Z h a k ty z vs' d := by
  obtain ⟨c, A, r1, r2, r3, H, G⟩ := F
  exact ⟨c, A, r1, r2, r3, fun i hi => by rw [H i hi, q i (r2 ▸ hi)], fun i hi => by rw [← q i (r2 ▸ hi)]; exact G i hi⟩
theorem arl_of_rep {Z : State} {h : Heap} {a : Addr} {k : ClassId} {ty : FieldType} {n cap : Nat} (hn : n ≤ cap) (hc : cap < 2147483648) (F : Arv Z h a k ty (Int32.ofNat n) (List.replicate cap (Value.int 0)) (.int 0)) : Arv Z h a k ty (Int32.ofNat n) (arl n fun _ => 0) (.int 0) := by
  refine arv_eq F fun i hi => ?_
  rw [own_clamp (by omega)] at hi
  rw [arl_get hi, List.getD_eq_getElem?_getD, List.getElem?_replicate, if_pos (by omega)]; rfl
theorem own_b2c {c : Int32} (h0 : ¬ c < 0) (h1 : ¬ 255 < c) : (c.toInt8.toInt32 &&& 255).toUInt32.toUInt16.toUInt32.toInt32 = c := by
  have a := c_i2b c
  have b := c_mask c.toInt8.toInt32 255 8 (by decide) (by decide)
  have d := c_i2c (c.toInt8.toInt32 &&& 255)
  simp only [Int32.lt_iff_toInt_lt, Int32.reduceToInt] at h0 h1
  rw [← Int32.toInt_inj]; omega
theorem own_narc {c : Int32} (h0 : ¬ c < 0) (h1 : ¬ 65535 < c) : nar .char c = c := by
  show c.toUInt32.toUInt16.toUInt32.toInt32 = c
  have d := c_i2c c
  simp only [Int32.lt_iff_toInt_lt, Int32.reduceToInt] at h0 h1
  rw [← Int32.toInt_inj]; omega
theorem own_255 {c : Int32} (h1 : ¬ 255 < c) : ¬ 65535 < c := by
  simp only [Int32.lt_iff_toInt_lt, Int32.reduceToInt] at *; omega
theorem own_lo8 {c d : Int32} (hc : ¬ c < 0 ∧ ¬ 255 < c) (hd : ¬ d < 0 ∧ ¬ 255 < d) (q : c.toInt8.toInt32 = d.toInt8.toInt32) : c = d := by
  have a := c_i2b c; have b := c_i2b d
  rw [← Int32.toInt_inj] at q ⊢
  simp only [Int32.lt_iff_toInt_lt, Int32.reduceToInt] at hc hd; omega
theorem own_shr0 (z : Int32) : z >>> (0 &&& 31) = z := by
  rw [show (0 &&& 31 : Int32) = 0 by decide]; simp
theorem StrIs.op {Z : State} {h : Heap} {b : Addr} {n : Nat} {f : Nat → Int32} (F : StrIs Z h b (lst n f)) : ∃ (t : Addr) (kb : ClassId), Exa Z h b "java/lang/String" ∧ Fld Z h b "java/lang/String" "coder" "B" (.int 0) ∧ Fld Z h b "java/lang/String" "value" "[B" (.ref t) ∧ Arv Z h t kb .byte (Int32.ofNat n) (arl n fun i => (f i).toInt8.toInt32) (.int 0) ∧ (∀ i, i < n → ¬ f i < 0 ∧ ¬ 255 < f i) ∧ n ≤ 4000 := by
  obtain ⟨t, kb, q1, q2, q3, q4, q5, q6⟩ := F
  rw [lst_len] at q4 q6; rw [lst_map] at q4
  exact ⟨t, kb, q1, q2, q3, q4, lst_mem.mp q5, q6⟩
theorem StrIs.cl {Z : State} {h : Heap} {b t : Addr} {kb : ClassId} {n : Nat} {f : Nat → Int32} (q1 : Exa Z h b "java/lang/String") (q2 : Fld Z h b "java/lang/String" "coder" "B" (.int 0)) (q3 : Fld Z h b "java/lang/String" "value" "[B" (.ref t)) (q4 : Arv Z h t kb .byte (Int32.ofNat n) (arl n fun i => (f i).toInt8.toInt32) (.int 0)) (q5 : ∀ i, i < n → ¬ f i < 0 ∧ ¬ 255 < f i) (q6 : n ≤ 4000) : StrIs Z h b (lst n f) := by
  refine ⟨t, kb, q1, q2, q3, ?_, lst_mem.mpr q5, ?_⟩
  · rw [lst_len, lst_map]; exact q4
  · rw [lst_len]; exact q6
theorem ef_sI4 (m : MethodId) (a1 : Addr) (ar : Addr) : entryFrame m #[(.ref a1), (.ref ar), (.int 0), (.int 0), .null] 6 = mkF m 0 #[.val (.ref a1), .val (.ref ar), .val (.int 0), .val (.int 0), .val .null, .unset] [] := by first | (simp [entryFrame, mkF, argsToLocals, Value.category]; done) | rfl
def Q_sI4 (Z : State) (a1 : Addr) (ar : Addr) (h0 : Heap) (v : Option Value) (h : Heap) : Prop := v = none ∧ Keep h0 h [a1] ∧ StrIs Z h a1 []
set_option maxRecDepth 65536 in
set_option maxHeartbeats 40000000 in
theorem c_sI4 (l : Launch) (Z : State) (a0 : Array Value) (hw : ∀ d ∈ tables_1, d.before a0 Z = true) (a1 : Addr) (ar : Addr) (h0 : Heap) (E1 : Exa Z h0 a1 "java/lang/String") (F1 : Fld Z h0 a1 "java/lang/String" "value" "[B" .null) (F2 : Fld Z h0 a1 "java/lang/String" "coder" "B" (.int 0)) (g1 : Z.heap.size ≤ a1) :
    Con l Z (⟨"java/lang/String", "<init>", "([CIILjava/lang/Void;)V"⟩ : MethodName) jdk_42_method_149_code 6 (Option.none : Option FieldType) [] ({ frames := 1, cells := 4, slots := 8, locals := 12 } : Room) #[(.ref a1), (.ref ar), (.int 0), (.int 0), .null] h0 (Q_sI4 Z a1 ar h0) [a1] := by
  refine Con.of (plainFor_of_name pn_java_lang_String) ?_
  intro p e s m below meth c T0 B W0
  refine Go.cast (ef_sI4 m a1 ar ) ?_
  have l_a1 := nlt E1.lt
  refine g_aload_n B W0 (d_jdk_42_method_149_0) rfl rfl ?_
  obtain ⟨T101, W101, st101⟩ := x_init B W0 (d_jdk_42_method_149_1) (tw hw 20 rfl) (tw hw 21 rfl) (tw hw 22 rfl) a1 #[.val (.ref a1), .val (.ref ar), .val (.int 0), .val (.int 0), .val .null, .unset] [] rfl 0 rfl (by decide) (by decide)
  refine st101 _ ?_
  refine g_iload_n B W101 (d_jdk_42_method_149_4) rfl ?_
  refine g_if_n B W101 (d_jdk_42_method_149_5) (XT.i0_ne_f rfl) ?_
  show Go p.tables e below _ T101 (mkF m 8 #[.val (.ref a1), .val (.ref ar), .val (.int 0), .val (.int 0), .val .null, .unset] [])
  refine g_aload_n B W101 (d_jdk_42_method_149_8) rfl rfl ?_
  obtain ⟨T102, h102, b102, t102, kc102, W102, K102, E102, Fc102, Fv102, A102, Et102, ne102, st102⟩ := x_ldcT B W101 0 (vs := []) (z := 0) (d_jdk_42_method_149_9) (tw hw 23 rfl) (own_wS hw) (own_EL hw) (by decide) ⟨by decide, by decide⟩ (by decide) (by decide) (by decide) (by decide) (by decide) (by decide) #[.val (.ref a1), .val (.ref ar), .val (.int 0), .val (.int 0), .val .null, .unset] [(.ref a1)]
  have nb102_0 : ¬ @Eq Nat a1 b102 := (ne102 a1 (by simp)).1
  have nt102_0 : ¬ @Eq Nat a1 t102 := (ne102 a1 (by simp)).2
  refine st102 _ ?_
  have s103 := K102.1
  obtain ⟨T104, W104, st104⟩ := x_get B W102 (host := "") (d_jdk_42_method_149_11) (Or.inl (tw hw 29 rfl)) Via.refl Fv102 #[.val (.ref a1), .val (.ref ar), .val (.int 0), .val (.int 0), .val .null, .unset] [(.ref a1)]
  refine st104 _ ?_
  have f105 := (F1.keep K102 nin0)
  have f106 := (E1.keep K102)
  obtain ⟨T107, h107, W107, K107, R107, F107, E107, st107⟩ := x_put B W104 (d_jdk_42_method_149_14) ((tw hw 29 rfl)) Via.refl f105 f106 (Or.inr ⟨ (tw hw 25 rfl), rfl, rfl⟩) (tw hw 8 rfl) (ty := (.array .byte)) (v := (.ref t102)) (v' := (.ref t102)) (by decide) rfl rfl (by omega) (Or.inr (by simp)) #[.val (.ref a1), .val (.ref ar), .val (.int 0), .val (.int 0), .val .null, .unset] []
  refine st107 _ ?_
  have f108 := (F2.keep K102 nin0)
  have f109 := f108.other R107 (Or.inr (slot_ne (Or.inr (tw hw 26 rfl)) (Or.inr (tw hw 25 rfl)) (by decide) (t := .byte) (t' := (.array .byte)) (by decide) (by decide)))
  have s110 := K107.1
  refine g_aload_n B W107 (d_jdk_42_method_149_17) rfl rfl ?_
  obtain ⟨T111, h111, b111, t111, kc111, W111, K111, E111, Fc111, Fv111, A111, Et111, ne111, st111⟩ := x_ldcT B W107 0 (vs := []) (z := 0) (d_jdk_42_method_149_18) (tw hw 23 rfl) (own_wS hw) (own_EL hw) (by decide) ⟨by decide, by decide⟩ (by decide) (by decide) (by decide) (by decide) (by decide) (by decide) #[.val (.ref a1), .val (.ref ar), .val (.int 0), .val (.int 0), .val .null, .unset] [(.ref a1)]
  have nb111_0 : ¬ @Eq Nat a1 b111 := (ne111 a1 (by simp)).1
  have nt111_0 : ¬ @Eq Nat a1 t111 := (ne111 a1 (by simp)).2
  refine st111 _ ?_
  have s112 := K111.1
  obtain ⟨T113, W113, st113⟩ := x_get B W111 (host := "") (d_jdk_42_method_149_20) (Or.inl (tw hw 30 rfl)) Via.refl Fc111 #[.val (.ref a1), .val (.ref ar), .val (.int 0), .val (.int 0), .val .null, .unset] [(.ref a1)]
  refine st113 _ ?_
  have f114 := (f109.keep K111 nin0)
  have f115 := (E107.keep K111)
  obtain ⟨T116, h116, W116, K116, R116, F116, E116, st116⟩ := x_put B W113 (d_jdk_42_method_149_23) ((tw hw 30 rfl)) Via.refl f114 f115 (Or.inr ⟨ (tw hw 26 rfl), rfl, rfl⟩) (tw hw 8 rfl) (ty := .byte) (v := (.int 0)) (v' := (.int 0)) (by decide) rfl rfl (by omega) (Or.inr (by simp)) #[.val (.ref a1), .val (.ref ar), .val (.int 0), .val (.int 0), .val .null, .unset] []
  refine st116 _ ?_
  have f117 := (F107.keep K111 nin0)
  have f118 := f117.other R116 (Or.inr (slot_ne (Or.inr (tw hw 25 rfl)) (Or.inr (tw hw 26 rfl)) (by decide) (t := (.array .byte)) (t' := .byte) (by decide) (by decide)))
  have s119 := K116.1
  have f120 := ((A102.keep K107 (ninS (nne (by have q := nlt A102.lt; omega)) nin0)).keep K111 nin0)
  have f121 := (f120.keep K116 (ninS (nne (by have q := nlt f120.lt; omega)) nin0))
  exact r_v B W116 (d_jdk_42_method_149_26) (by decide) (by decide) ⟨rfl, (((((Keep.refl h0 [a1]).trans K102 all0).trans K107 (allS (Or.inl (by simp)) all0)).trans K111 all0).trans K116 (allS (Or.inl (by simp)) all0)), ⟨_, _, E116, F116, f118, f121, by simp, by simp⟩⟩
theorem ef_sI1 (m : MethodId) (a1 : Addr) (ar : Addr) (kA : ClassId) : entryFrame m #[(.ref a1), (.ref ar)] 2 = mkF m 0 #[.val (.ref a1), .val (.ref ar)] [] := by first | (simp [entryFrame, mkF, argsToLocals, Value.category]; done) | rfl
def Q_sI1 (Z : State) (a1 : Addr) (ar : Addr) (kA : ClassId) (h0 : Heap) (v : Option Value) (h : Heap) : Prop := v = none ∧ Keep h0 h [a1] ∧ StrIs Z h a1 []
set_option maxRecDepth 65536 in
set_option maxHeartbeats 40000000 in
theorem c_sI1 (l : Launch) (Z : State) (a0 : Array Value) (hw : ∀ d ∈ tables_1, d.before a0 Z = true) (a1 : Addr) (ar : Addr) (kA : ClassId) (h0 : Heap) (E1 : Exa Z h0 a1 "java/lang/String") (F1 : Fld Z h0 a1 "java/lang/String" "value" "[B" .null) (F2 : Fld Z h0 a1 "java/lang/String" "coder" "B" (.int 0)) (g1 : Z.heap.size ≤ a1) (A1 : Arv Z h0 ar kA .char 0 [] (.int 0)) :
    Con l Z (⟨"java/lang/String", "<init>", "([C)V"⟩ : MethodName) jdk_42_method_3_code 2 (Option.none : Option FieldType) [] ({ frames := 2, cells := 4, slots := 8, locals := 40 } : Room) #[(.ref a1), (.ref ar)] h0 (Q_sI1 Z a1 ar kA h0) [a1] := by
  refine Con.of (plainFor_of_name pn_java_lang_String) ?_
  intro p e s m below meth c T0 B W0
  refine Go.cast (ef_sI1 m a1 ar kA ) ?_
  refine g_aload_n B W0 (d_jdk_42_method_3_0) rfl rfl ?_
  refine g_aload_n B W0 (d_jdk_42_method_3_1) rfl rfl ?_
  refine g_iconst B W0 (d_jdk_42_method_3_2) (v := 0) (by decide) ?_
  refine g_aload_n B W0 (d_jdk_42_method_3_3) rfl rfl ?_
  refine g_aalen B W0 (d_jdk_42_method_3_4) A1 ?_
  refine g_aconst_null B W0 (d_jdk_42_method_3_5)  ?_
  obtain ⟨T101, h101, v101, W101, Q101, st101⟩ := x_special B W0 (b := a1) [(.ref ar), (.int 0), (.int 0), .null] (c_sI4 l Z a0 hw a1 ar h0 E1 F1 F2 g1) (by simp) (d_jdk_42_method_3_6) rfl (tw hw 16 rfl) (tw hw 17 rfl) (tw hw 9 rfl) (tw hw 19 rfl) (by decide) (lenOf pd___CIILjava_lang_Void__V rfl) #[.val (.ref a1), .val (.ref ar)] [] rfl 0 rfl (by decide) (by decide) (by decide) (by decide)
  obtain ⟨rfl, K101, S101⟩ := Q101
  have s102 := K101.1
  refine st101 _ ?_
  exact r_v B W101 (d_jdk_42_method_3_9) (by decide) (by decide) ⟨rfl, K101, S101⟩
theorem own_nb8 (x : Int32) : nar .byte x.toInt8.toInt32 = x.toInt8.toInt32 := by
  show x.toInt8.toInt32.toInt8.toInt32 = _
  have a := c_i2b x; have b := c_i2b x.toInt8.toInt32
  rw [← Int32.toInt_inj]; omega
def wbf (f : Nat → Int32) (j : Nat) : Int32 := if j % 2 = 0 then (f (j / 2)).toInt8.toInt32 else (f (j / 2) >>> ((8 : Int32) &&& 31)).toInt8.toInt32
theorem wbf_e (f : Nat → Int32) (i : Nat) : wbf f (2 * i) = (f i).toInt8.toInt32 := by
  unfold wbf; rw [if_pos (by omega), show 2 * i / 2 = i by omega]
theorem wbf_o (f : Nat → Int32) (i : Nat) : wbf f (2 * i + 1) = (f i >>> ((8 : Int32) &&& 31)).toInt8.toInt32 := by
  unfold wbf; rw [if_neg (by omega), show (2 * i + 1) / 2 = i by omega]
theorem own_glue {c : Int32} (h0 : ¬ c < 0) (h1 : ¬ 65535 < c) : (((c.toInt8.toInt32 &&& 255) <<< ((0 : Int32) &&& 31)) ||| (((c >>> ((8 : Int32) &&& 31)).toInt8.toInt32 &&& 255) <<< ((8 : Int32) &&& 31))).toUInt32.toUInt16.toUInt32.toInt32 = c := by
  rw [Int32.or_comm]
  have a1 := c_i2b c
  have a2 := c_mask c.toInt8.toInt32 255 8 (by decide) (by decide)
  have a3 := c_ishl (c.toInt8.toInt32 &&& 255) 0 0 (by decide)
  have a4 := rng32 ((c.toInt8.toInt32 &&& 255) <<< ((0 : Int32) &&& 31))
  have b0 := c_ishr c 8 8 (by decide)
  have b1 := c_i2b (c >>> ((8 : Int32) &&& 31))
  have b2 := c_mask (c >>> ((8 : Int32) &&& 31)).toInt8.toInt32 255 8 (by decide) (by decide)
  have b3 := c_ishl ((c >>> ((8 : Int32) &&& 31)).toInt8.toInt32 &&& 255) 8 8 (by decide)
  have b4 := rng32 (((c >>> ((8 : Int32) &&& 31)).toInt8.toInt32 &&& 255) <<< ((8 : Int32) &&& 31))
  generalize (c.toInt8.toInt32 &&& 255) <<< ((0 : Int32) &&& 31) = A at *
  generalize ((c >>> ((8 : Int32) &&& 31)).toInt8.toInt32 &&& 255) <<< ((8 : Int32) &&& 31) = B at *
  simp only [Int32.lt_iff_toInt_lt, Int32.reduceToInt] at h0 h1
  have c1 := c_or B A 8 (by decide) 256 (by decide) (by omega) (by omega) (by omega)
  have c2 := c_i2c (B ||| A)
  rw [← Int32.toInt_inj]; omega
theorem own_dbl {n : Nat} (h : n ≤ 8000) : Int32.ofNat n <<< ((1 : Int32) &&& 31) = Int32.ofNat (2 * n) := by
  have a := c_ishl (Int32.ofNat n) 1 1 (by decide); have r := rng32 (Int32.ofNat n <<< ((1 : Int32) &&& 31))
  rw [own_ofNat (by omega)] at a
  rw [← Int32.toInt_inj, own_ofNat (by omega)]; omega
theorem own_half {n : Nat} (h : n ≤ 8000) : Int32.ofNat (2 * n) >>> ((1 : Int32) &&& 31) = Int32.ofNat n := by
  have a := c_ishr (Int32.ofNat (2 * n)) 1 1 (by decide)
  rw [own_ofNat (by omega)] at a
  rw [← Int32.toInt_inj, own_ofNat (by omega)]; omega
theorem own_fill {P : Nat → Int32 → Prop} {i : Nat} {x : Int32} {g : Nat → Int32} (h : ∀ j, j < i → P j (g j)) (hx : P i x) : ∀ j, j < i + 1 → P j (if j = i then x else g j) := by
  intro j hj
  by_cases q : j = i
  · subst q; rw [if_pos rfl]; exact hx
  · rw [if_neg q]; exact h j (by omega)
theorem own_fill2 {f g : Nat → Int32} {i : Nat} (h : ∀ j, j < 2 * i → g j = wbf f j) : ∀ j, j < 2 * (i + 1) → (if j = 2 * i + 1 then (f i >>> ((8 : Int32) &&& 31)).toInt8.toInt32 else if j = 2 * i then (f i).toInt8.toInt32 else g j) = wbf f j := by
  intro j hj
  by_cases q : j = 2 * i + 1
  · rw [if_pos q, q, wbf_o]
  · rw [if_neg q]
    by_cases q2 : j = 2 * i
    · rw [if_pos q2, q2, wbf_e]
    · rw [if_neg q2]; exact h j (by omega)
theorem own_cod1 {n : Nat} (h : 1 ≤ n) (h8 : n ≤ 8) : nar .byte (XT.ushr (Int32.ofNat n - Int32.ofNat (2 * n)) 31).toInt8.toInt32 = 1 := by
  have t : ∀ k : Fin 9, ¬ k.val = 0 → nar .byte (XT.ushr (Int32.ofNat k.val - Int32.ofNat (2 * k.val)) 31).toInt8.toInt32 = 1 := by decide +kernel
  exact t ⟨n, by omega⟩ (by show ¬ n = 0; omega)
def StrC (Z : State) (h : Heap) (b : Addr) (n : Nat) (f : Nat → Int32) : Prop := ∃ (t : Addr) (kb : ClassId), Exa Z h b "java/lang/String" ∧ Fld Z h b "java/lang/String" "value" "[B" (.ref t) ∧ ((Fld Z h b "java/lang/String" "coder" "B" (.int 0) ∧ (∀ i, i < n → ¬ 255 < f i) ∧ Arv Z h t kb .byte (Int32.ofNat n) (arl n fun i => (f i).toInt8.toInt32) (.int 0)) ∨ (Fld Z h b "java/lang/String" "coder" "B" (.int 1) ∧ 1 ≤ n ∧ Arv Z h t kb .byte (Int32.ofNat (2 * n)) (arl (2 * n) (wbf f)) (.int 0))) ∧ (∀ i, i < n → ¬ f i < 0 ∧ ¬ 65535 < f i) ∧ n ≤ 4000
theorem StrC.keep {Z : State} {h h' : Heap} {b : Addr} {n : Nat} {f : Nat → Int32} (F : StrC Z h b n f) (K : Keep h h' []) : StrC Z h' b n f := by
  obtain ⟨t, kb, q1, q2, q3, r⟩ := F
  refine ⟨t, kb, q1.keep K, q2.keep K nin0, ?_, r⟩
  rcases q3 with ⟨c, l, a⟩ | ⟨c, l, a⟩
  · exact Or.inl ⟨c.keep K nin0, l, a.keep K nin0⟩
  · exact Or.inr ⟨c.keep K nin0, l, a.keep K nin0⟩
theorem StrC.exa {Z : State} {h : Heap} {b : Addr} {n : Nat} {f : Nat → Int32} (F : StrC Z h b n f) : Exa Z h b "java/lang/String" := by obtain ⟨t, kb, q, -⟩ := F; exact q
theorem StrC.of_nil {Z : State} {h : Heap} {b : Addr} {f : Nat → Int32} (F : StrIs Z h b []) : StrC Z h b 0 f := by
  obtain ⟨t, kb, q1, q2, q3, q4, -, -⟩ := F
  exact ⟨t, kb, q1, q3, Or.inl ⟨q2, fun i hi => absurd hi (by omega), q4⟩, fun i hi => absurd hi (by omega), by omega⟩
theorem ef_comp5 (m : MethodId) (ar : Addr) (kA : ClassId) (bt : Addr) (kb : ClassId) (nn : Nat) (ff : Nat → Int32) : entryFrame m #[(.ref ar), (.int 0), (.ref bt), (.int 0), (.int (Int32.ofNat nn))] 7 = mkF m 0 #[.val (.ref ar), .val (.int 0), .val (.ref bt), .val (.int 0), .val (.int (Int32.ofNat nn)), .unset, .unset] [] := by first | (simp [entryFrame, mkF, argsToLocals, Value.category]; done) | rfl
def Q_comp5 (Z : State) (ar : Addr) (kA : ClassId) (bt : Addr) (kb : ClassId) (nn : Nat) (ff : Nat → Int32) (h0 : Heap) (v : Option Value) (h : Heap) : Prop := ∃ (r : Nat) (g : Nat → Int32), v = some (.int (Int32.ofNat r)) ∧ Keep h0 h [bt] ∧ Arv Z h bt kb .byte (Int32.ofNat nn) (arl nn g) (.int 0) ∧ r ≤ nn ∧ (∀ j, j < r → g j = (ff j).toInt8.toInt32 ∧ ¬ 255 < ff j) ∧ (r < nn → 255 < ff r)
set_option maxRecDepth 65536 in
set_option maxHeartbeats 40000000 in
theorem c_comp5 (l : Launch) (Z : State) (a0 : Array Value) (hw : ∀ d ∈ tables_1, d.before a0 Z = true) (ar : Addr) (kA : ClassId) (bt : Addr) (kb : ClassId) (nn : Nat) (ff : Nat → Int32) (h0 : Heap) (A1 : Arv Z h0 ar kA .char (Int32.ofNat nn) (arl nn ff) (.int 0)) (A2 : Arv Z h0 bt kb .byte (Int32.ofNat nn) (arl nn fun _ => 0) (.int 0)) (g1 : Z.heap.size ≤ bt) (nb : ¬ @Eq Nat ar bt) (hn : nn ≤ 4000) :
    Con l Z (⟨"java/lang/StringUTF16", "compress", "([CI[BII)I"⟩ : MethodName) jdk_52_method_21_code 7 (Option.some FieldType.int) [] ({ frames := 0, cells := 0, slots := 0, locals := 0 } : Room) #[(.ref ar), (.int 0), (.ref bt), (.int 0), (.int (Int32.ofNat nn))] h0 (Q_comp5 Z ar kA bt kb nn ff h0) [bt] := by
  refine Con.of (plainFor_of_name pn_java_lang_StringUTF16) ?_
  intro p e s m below meth c T0 B W0
  refine Go.cast (ef_comp5 m ar kA bt kb nn ff ) ?_
  refine g_iconst B W0 (d_jdk_52_method_21_0) (v := 0) (by decide) ?_
  refine g_istore B W0 (d_jdk_52_method_21_1)  (l' := #[.val (.ref ar), .val (.int 0), .val (.ref bt), .val (.int 0), .val (.int (Int32.ofNat nn)), .val (.int 0), .unset]) rfl ?_
  have loop : ∀ (r : Nat) (i : Nat) (g : Nat → Int32) (h1 : Heap) (s6 : Slot) (T : State), (s6 = .unset ∨ ∃ w, s6 = .val w ∧ w.category = 1) → (i + r = nn) → (Keep h0 h1 [bt]) → (Arv Z h1 bt kb .byte (Int32.ofNat nn) (arl nn g) (.int 0)) → (∀ j, j < i → g j = (ff j).toInt8.toInt32 ∧ ¬ 255 < ff j) → Wk p l e ({ frames := 0, cells := 0, slots := 0, locals := 0 } : Room) s m #[(.ref ar), (.int 0), (.ref bt), (.int 0), (.int (Int32.ofNat nn))] below meth c Z T h1 0 0 [bt] → Go p.tables e below (Jvm.OwnK.Out Z s (Q_comp5 Z ar kA bt kb nn ff h0) ({ frames := 0, cells := 0, slots := 0, locals := 0 } : Room).cells ({ frames := 0, cells := 0, slots := 0, locals := 0 } : Room).slots) T (mkF m 3 #[.val (.ref ar), .val (.int (Int32.ofNat i)), .val (.ref bt), .val (.int (Int32.ofNat i)), .val (.int (Int32.ofNat nn)), .val (.int (Int32.ofNat i)), s6] []) := by
    intro r; induction r with
    | zero =>
      intro i g h1 s6 T hx6 hr K1 A3 hg W
      refine g_iload B W (d_jdk_52_method_21_3) rfl ?_
      refine g_iload B W (d_jdk_52_method_21_5) rfl ?_
      refine g_icmp_y B W (d_jdk_52_method_21_7) (XT.ii_ge_t (by rw [own_lt (by omega) (by omega)]; omega)) (pc' := 44) (by decide) ?_
      show Go p.tables e below _ T (mkF m 44 #[.val (.ref ar), .val (.int (Int32.ofNat i)), .val (.ref bt), .val (.int (Int32.ofNat i)), .val (.int (Int32.ofNat nn)), .val (.int (Int32.ofNat i)), s6] [])
      refine g_iload B W (d_jdk_52_method_21_44) rfl ?_
      exact r_i B W (d_jdk_52_method_21_46) (by decide) (by decide) ⟨nn, g, rfl, K1, A3, by omega, fun j hj => hg j (by omega), by omega⟩
    | succ r ih =>
      intro i g h1 s6 T hx6 hr K1 A3 hg W
      have hil : i < nn := by omega
      refine g_iload B W (d_jdk_52_method_21_3) rfl ?_
      refine g_iload B W (d_jdk_52_method_21_5) rfl ?_
      refine g_icmp_n B W (d_jdk_52_method_21_7) (XT.ii_ge_f ((own_lt (by omega) (by omega)).mpr hil)) ?_
      show Go p.tables e below _ T (mkF m 10 #[.val (.ref ar), .val (.int (Int32.ofNat i)), .val (.ref bt), .val (.int (Int32.ofNat i)), .val (.int (Int32.ofNat nn)), .val (.int (Int32.ofNat i)), s6] [])
      refine g_aload_n B W (d_jdk_52_method_21_10) rfl rfl ?_
      refine g_iload_n B W (d_jdk_52_method_21_11) rfl ?_
      have f101 := (A1.keep K1 (ninS (nne (by have q := nlt A1.lt; omega)) nin0))
      refine g_caload B W (d_jdk_52_method_21_12) f101 (own_ixok (i := i) (n := nn) (by omega) (by omega)) (arl_rd (i := i) (n := nn) (by omega) (by omega)) ?_
      show Go p.tables e below _ T (mkF m 13 #[.val (.ref ar), .val (.int (Int32.ofNat i)), .val (.ref bt), .val (.int (Int32.ofNat i)), .val (.int (Int32.ofNat nn)), .val (.int (Int32.ofNat i)), s6] [(.int (ff i))])
      refine g_istore B W (d_jdk_52_method_21_13)  (l' := #[.val (.ref ar), .val (.int (Int32.ofNat i)), .val (.ref bt), .val (.int (Int32.ofNat i)), .val (.int (Int32.ofNat nn)), .val (.int (Int32.ofNat i)), .val (.int (ff i))]) (XS.store1 rfl hx6 rfl) ?_
      refine g_iload B W (d_jdk_52_method_21_15) rfl ?_
      refine g_sipush B W (d_jdk_52_method_21_17) (v := 255) (by decide) ?_
      by_cases hc102 : 255 < (ff i)
      · skip
        refine g_icmp_n B W (d_jdk_52_method_21_20) (XT.ii_le_f hc102) ?_
        show Go p.tables e below _ T (mkF m 23 #[.val (.ref ar), .val (.int (Int32.ofNat i)), .val (.ref bt), .val (.int (Int32.ofNat i)), .val (.int (Int32.ofNat nn)), .val (.int (Int32.ofNat i)), .val (.int (ff i))] [])
        refine g_iload B W (d_jdk_52_method_21_23) rfl ?_
        exact r_i B W (d_jdk_52_method_21_25) (by decide) (by decide) ⟨i, g, rfl, K1, A3, by omega, hg, fun _ => hc102⟩
      · skip
        refine g_icmp_y B W (d_jdk_52_method_21_20) (XT.ii_le_t hc102) (pc' := 26) (by decide) ?_
        show Go p.tables e below _ T (mkF m 26 #[.val (.ref ar), .val (.int (Int32.ofNat i)), .val (.ref bt), .val (.int (Int32.ofNat i)), .val (.int (Int32.ofNat nn)), .val (.int (Int32.ofNat i)), .val (.int (ff i))] [])
        refine g_aload_n B W (d_jdk_52_method_21_26) rfl rfl ?_
        refine g_iload_n B W (d_jdk_52_method_21_27) rfl ?_
        refine g_iload B W (d_jdk_52_method_21_28) rfl ?_
        refine g_i2b B W (d_jdk_52_method_21_30)  ?_
        obtain ⟨T103, h103, W103, K103, A103, st103⟩ := x_bastore B W (j := Int32.ofNat i) (x := ((ff i) : Int32).toInt8.toInt32) (d_jdk_52_method_21_31) A3 (own_ixok (i := i) (n := nn) (by omega) (by omega)) (by rw [own_clamp (by omega), arl_len]; exact (by omega)) (by omega) (by simp) #[.val (.ref ar), .val (.int (Int32.ofNat i)), .val (.ref bt), .val (.int (Int32.ofNat i)), .val (.int (Int32.ofNat nn)), .val (.int (Int32.ofNat i)), .val (.int (ff i))] []
        refine st103 _ ?_
        rw [own_clamp (by omega), own_nb8, arl_set] at A103
        have s104 := K103.1
        show Go p.tables e below _ T103 (mkF m 32 #[.val (.ref ar), .val (.int (Int32.ofNat i)), .val (.ref bt), .val (.int (Int32.ofNat i)), .val (.int (Int32.ofNat nn)), .val (.int (Int32.ofNat i)), .val (.int (ff i))] [])
        refine g_iinc B W103 (d_jdk_52_method_21_32) (v := 1) (l' := #[.val (.ref ar), .val (.int (Int32.ofNat i + 1)), .val (.ref bt), .val (.int (Int32.ofNat i)), .val (.int (Int32.ofNat nn)), .val (.int (Int32.ofNat i)), .val (.int (ff i))]) (by decide) rfl rfl ?_
        rw [own_inc]
        show Go p.tables e below _ T103 (mkF m 35 #[.val (.ref ar), .val (.int (Int32.ofNat (i + 1))), .val (.ref bt), .val (.int (Int32.ofNat i)), .val (.int (Int32.ofNat nn)), .val (.int (Int32.ofNat i)), .val (.int (ff i))] [])
        refine g_iinc B W103 (d_jdk_52_method_21_35) (v := 1) (l' := #[.val (.ref ar), .val (.int (Int32.ofNat (i + 1))), .val (.ref bt), .val (.int (Int32.ofNat i + 1)), .val (.int (Int32.ofNat nn)), .val (.int (Int32.ofNat i)), .val (.int (ff i))]) (by decide) rfl rfl ?_
        rw [own_inc]
        show Go p.tables e below _ T103 (mkF m 38 #[.val (.ref ar), .val (.int (Int32.ofNat (i + 1))), .val (.ref bt), .val (.int (Int32.ofNat (i + 1))), .val (.int (Int32.ofNat nn)), .val (.int (Int32.ofNat i)), .val (.int (ff i))] [])
        refine g_iinc B W103 (d_jdk_52_method_21_38) (v := 1) (l' := #[.val (.ref ar), .val (.int (Int32.ofNat (i + 1))), .val (.ref bt), .val (.int (Int32.ofNat (i + 1))), .val (.int (Int32.ofNat nn)), .val (.int (Int32.ofNat i + 1)), .val (.int (ff i))]) (by decide) rfl rfl ?_
        rw [own_inc]
        show Go p.tables e below _ T103 (mkF m 41 #[.val (.ref ar), .val (.int (Int32.ofNat (i + 1))), .val (.ref bt), .val (.int (Int32.ofNat (i + 1))), .val (.int (Int32.ofNat nn)), .val (.int (Int32.ofNat (i + 1))), .val (.int (ff i))] [])
        refine g_goto B W103 (d_jdk_52_method_21_41) (pc' := 3) (by decide) ?_
        show Go p.tables e below _ T103 (mkF m 3 #[.val (.ref ar), .val (.int (Int32.ofNat (i + 1))), .val (.ref bt), .val (.int (Int32.ofNat (i + 1))), .val (.int (Int32.ofNat nn)), .val (.int (Int32.ofNat (i + 1))), .val (.int (ff i))] [])
        exact ih _ _ _ _ _ (Or.inr ⟨_, rfl, rfl⟩) (by omega) (((Keep.refl h0 [bt]).trans K1 (allS (Or.inl (by simp)) all0)).trans K103 (allS (Or.inl (by simp)) all0)) A103 (own_fill (P := fun j x => x = (ff j).toInt8.toInt32 ∧ ¬ 255 < ff j) hg ⟨rfl, hc102⟩) W103
  exact loop nn 0 _ h0 .unset _ (Or.inl rfl) (by omega) (Keep.refl h0 [bt]) A2 (fun j hj => absurd hj (by omega)) W0
theorem ef_nbl (m : MethodId) (nn : Nat) : entryFrame m #[(.int (Int32.ofNat nn))] 1 = mkF m 0 #[.val (.int (Int32.ofNat nn))] [] := by first | (simp [entryFrame, mkF, argsToLocals, Value.category]; done) | rfl
def Q_nbl (Z : State) (nn : Nat) (h0 : Heap) (v : Option Value) (h : Heap) : Prop := v = some (.int (Int32.ofNat (2 * nn))) ∧ h0 = h
set_option maxRecDepth 65536 in
set_option maxHeartbeats 40000000 in
theorem c_nbl (l : Launch) (Z : State) (a0 : Array Value) (hw : ∀ d ∈ tables_1, d.before a0 Z = true) (nn : Nat) (h0 : Heap) (hn : nn ≤ 8) :
    Con l Z (⟨"java/lang/StringUTF16", "newBytesLength", "(I)I"⟩ : MethodName) jdk_52_method_3_code 1 (Option.some FieldType.int) [] ({ frames := 0, cells := 0, slots := 0, locals := 0 } : Room) #[(.int (Int32.ofNat nn))] h0 (Q_nbl Z nn h0) [] := by
  refine Con.of (plainFor_of_name pn_java_lang_StringUTF16) ?_
  intro p e s m below meth c T0 B W0
  refine Go.cast (ef_nbl m nn ) ?_
  refine g_iload_n B W0 (d_jdk_52_method_3_0) rfl ?_
  refine g_if_y B W0 (d_jdk_52_method_3_1) (XT.i0_ge_t (own_nneg (by omega))) (pc' := 12) (by decide) ?_
  show Go p.tables e below _ T0 (mkF m 12 #[.val (.int (Int32.ofNat nn))] [])
  refine g_iload_n B W0 (d_jdk_52_method_3_12) rfl ?_
  refine g_ldcI B W0 (d_jdk_52_method_3_13) (tw hw 90 rfl) ?_
  refine g_icmp_y B W0 (d_jdk_52_method_3_15) (XT.ii_lt_t (by rw [show (1073741823 : Int32) = Int32.ofNat 1073741823 from rfl, own_lt (by omega) (by omega)]; omega)) (pc' := 55) (by decide) ?_
  show Go p.tables e below _ T0 (mkF m 55 #[.val (.int (Int32.ofNat nn))] [])
  refine g_iload_n B W0 (d_jdk_52_method_3_55) rfl ?_
  refine g_iconst B W0 (d_jdk_52_method_3_56) (v := 1) (by decide) ?_
  refine g_ishl B W0 (d_jdk_52_method_3_57)  ?_
  rw [own_dbl (by omega)]
  show Go p.tables e below _ T0 (mkF m 58 #[.val (.int (Int32.ofNat nn))] [(.int (Int32.ofNat (2 * nn)))])
  exact r_i B W0 (d_jdk_52_method_3_58) (by decide) (by decide) ⟨rfl, rfl⟩
theorem ef_nbf (m : MethodId) (nn : Nat) : entryFrame m #[(.int (Int32.ofNat nn))] 1 = mkF m 0 #[.val (.int (Int32.ofNat nn))] [] := by first | (simp [entryFrame, mkF, argsToLocals, Value.category]; done) | rfl
def Q_nbf (Z : State) (nn : Nat) (h0 : Heap) (v : Option Value) (h : Heap) : Prop := ∃ (b : Addr) (kb : ClassId), v = some (.ref b) ∧ h0.size ≤ b ∧ Keep h0 h [] ∧ Arv Z h b kb .byte (Int32.ofNat (2 * nn)) (arl (2 * nn) fun _ => 0) (.int 0)
set_option maxRecDepth 65536 in
set_option maxHeartbeats 40000000 in
theorem c_nbf (l : Launch) (Z : State) (a0 : Array Value) (hw : ∀ d ∈ tables_1, d.before a0 Z = true) (nn : Nat) (h0 : Heap) (hn : nn ≤ 8) :
    ConR l Z (⟨"java/lang/StringUTF16", "newBytesFor", "(I)[B"⟩ : MethodName) jdk_52_method_2_code 1 (Option.some (FieldType.array FieldType.byte)) [] ({ frames := 1, cells := 1, slots := 16, locals := 12 } : Room) #[(.int (Int32.ofNat nn))] h0 (Q_nbf Z nn h0) [] := by
  refine ConR.of (plainFor_of_name pn_java_lang_StringUTF16) ?_
  intro p e s m below meth c T0 B W0
  refine Go.cast (ef_nbf m nn ) ?_
  refine g_iload_n B W0 (d_jdk_52_method_2_0) rfl ?_
  obtain ⟨T101, h101, v101, W101, Q101, st101⟩ := x_static B W0 [(.int (Int32.ofNat nn))] (c_nbl l Z a0 hw nn h0 hn) (by simp) (d_jdk_52_method_2_1) (tw hw 87 rfl) (tw hw 88 rfl) (tw hw 72 rfl) (tw hw 89 rfl) (by decide) (lenOf pd__I_I rfl) #[.val (.int (Int32.ofNat nn))] [] rfl 0 rfl (by decide) (by decide) (by decide) (by decide)
  obtain ⟨rfl, rfl⟩ := Q101
  refine st101 _ ?_
  obtain ⟨T102, h102, b102, cA102, gb102, W102, K102, A102, st102⟩ := x_newA B W101 (z := Int32.ofNat ((2 * nn))) 16 (d_jdk_52_method_2_4) (tw hw 24 rfl) (own_nneg (by omega)) (by rw [own_clamp (by omega)]; omega) (by decide) (by decide) (by decide) #[.val (.int (Int32.ofNat nn))] []
  have l102 := nlt A102.lt
  have z102 := W101.size
  refine st102 _ ?_
  have A102 := arl_of_rep (by omega) (by decide) A102
  have s103 := K102.1
  show Go p.tables e below _ T102 (mkF m 6 #[.val (.int (Int32.ofNat nn))] [(.ref b102)])
  exact r_aR B W102 rfl rfl (d_jdk_52_method_2_6) (by decide) (by decide) ⟨_, _, rfl, by omega, ((Keep.refl h0 []).trans K102 all0), A102⟩ (by simp)
theorem ef_putc (m : MethodId) (bt : Addr) (kb : ClassId) (nn : Nat) (gg : Nat → Int32) (i : Nat) (ch : Int32) : entryFrame m #[(.ref bt), (.int (Int32.ofNat i)), (.int ch)] 3 = mkF m 0 #[.val (.ref bt), .val (.int (Int32.ofNat i)), .val (.int ch)] [] := by first | (simp [entryFrame, mkF, argsToLocals, Value.category]; done) | rfl
def Q_putc (Z : State) (bt : Addr) (kb : ClassId) (nn : Nat) (gg : Nat → Int32) (i : Nat) (ch : Int32) (h0 : Heap) (v : Option Value) (h : Heap) : Prop := v = none ∧ Keep h0 h [bt] ∧ Arv Z h bt kb .byte (Int32.ofNat (2 * nn)) (arl (2 * nn) fun j => if j = 2 * i + 1 then (ch >>> ((8 : Int32) &&& 31)).toInt8.toInt32 else if j = 2 * i then ch.toInt8.toInt32 else gg j) (.int 0)
set_option maxRecDepth 65536 in
set_option maxHeartbeats 40000000 in
theorem c_putc (l : Launch) (Z : State) (a0 : Array Value) (hw : ∀ d ∈ tables_1, d.before a0 Z = true) (bt : Addr) (kb : ClassId) (nn : Nat) (gg : Nat → Int32) (i : Nat) (ch : Int32) (h0 : Heap) (Sad : Sta Z Z.heap "java/lang/StringUTF16" "$assertionsDisabled" "Z" (.int 1)) (Shi : Sta Z Z.heap "java/lang/StringUTF16" "HI_BYTE_SHIFT" "I" (.int 0)) (Slo : Sta Z Z.heap "java/lang/StringUTF16" "LO_BYTE_SHIFT" "I" (.int 8)) (A1 : Arv Z h0 bt kb .byte (Int32.ofNat (2 * nn)) (arl (2 * nn) gg) (.int 0)) (g1 : Z.heap.size ≤ bt) (hi : i < nn) (hn : nn ≤ 8) :
    Con l Z (⟨"java/lang/StringUTF16", "putChar", "([BII)V"⟩ : MethodName) jdk_52_method_4_code 3 (Option.none : Option FieldType) [] ({ frames := 0, cells := 0, slots := 0, locals := 0 } : Room) #[(.ref bt), (.int (Int32.ofNat i)), (.int ch)] h0 (Q_putc Z bt kb nn gg i ch h0) [bt] := by
  refine Con.of (plainFor_of_name pn_java_lang_StringUTF16) ?_
  intro p e s m below meth c T0 B W0
  refine Go.cast (ef_putc m bt kb nn gg i ch ) ?_
  obtain ⟨T101, W101, st101⟩ := x_gets B W0 (host := "") (d_jdk_52_method_4_0) (Or.inl (tw hw 94 rfl)) Via.refl Sad #[.val (.ref bt), .val (.int (Int32.ofNat i)), .val (.int ch)] []
  refine st101 _ ?_
  refine g_if_y B W101 (d_jdk_52_method_4_3) (XT.i0_ne_t (by decide)) (pc' := 28) (by decide) ?_
  show Go p.tables e below _ T101 (mkF m 28 #[.val (.ref bt), .val (.int (Int32.ofNat i)), .val (.int ch)] [])
  refine g_iload_n B W101 (d_jdk_52_method_4_28) rfl ?_
  refine g_iconst B W101 (d_jdk_52_method_4_29) (v := 1) (by decide) ?_
  refine g_ishl B W101 (d_jdk_52_method_4_30)  ?_
  rw [own_dbl (by omega)]
  show Go p.tables e below _ T101 (mkF m 31 #[.val (.ref bt), .val (.int (Int32.ofNat i)), .val (.int ch)] [(.int (Int32.ofNat (2 * i)))])
  refine g_istore_n B W101 (d_jdk_52_method_4_31)  (l' := #[.val (.ref bt), .val (.int (Int32.ofNat (2 * i))), .val (.int ch)]) rfl ?_
  refine g_aload_n B W101 (d_jdk_52_method_4_32) rfl rfl ?_
  refine g_iload_n B W101 (d_jdk_52_method_4_33) rfl ?_
  refine g_iinc B W101 (d_jdk_52_method_4_34) (v := 1) (l' := #[.val (.ref bt), .val (.int (Int32.ofNat ((2 * i)) + 1)), .val (.int ch)]) (by decide) rfl rfl ?_
  rw [own_inc]
  show Go p.tables e below _ T101 (mkF m 37 #[.val (.ref bt), .val (.int (Int32.ofNat ((2 * i) + 1))), .val (.int ch)] [(.int (Int32.ofNat (2 * i))), (.ref bt)])
  refine g_iload_n B W101 (d_jdk_52_method_4_37) rfl ?_
  obtain ⟨T102, W102, st102⟩ := x_gets B W101 (host := "") (d_jdk_52_method_4_38) (Or.inl (tw hw 95 rfl)) Via.refl Shi #[.val (.ref bt), .val (.int (Int32.ofNat ((2 * i) + 1))), .val (.int ch)] [(.int ch), (.int (Int32.ofNat (2 * i))), (.ref bt)]
  refine st102 _ ?_
  refine g_ishr B W102 (d_jdk_52_method_4_41)  ?_
  rw [own_shr0]
  show Go p.tables e below _ T102 (mkF m 42 #[.val (.ref bt), .val (.int (Int32.ofNat ((2 * i) + 1))), .val (.int ch)] [(.int ch), (.int (Int32.ofNat (2 * i))), (.ref bt)])
  refine g_i2b B W102 (d_jdk_52_method_4_42)  ?_
  obtain ⟨T103, h103, W103, K103, A103, st103⟩ := x_bastore B W102 (j := Int32.ofNat ((2 * i))) (x := (ch : Int32).toInt8.toInt32) (d_jdk_52_method_4_43) A1 (own_ixok (i := (2 * i)) (n := 2 * nn) (by omega) (by omega)) (by rw [own_clamp (by omega), arl_len]; exact (by omega)) (by omega) (by simp) #[.val (.ref bt), .val (.int (Int32.ofNat ((2 * i) + 1))), .val (.int ch)] []
  refine st103 _ ?_
  rw [own_clamp (by omega), own_nb8, arl_set] at A103
  have s104 := K103.1
  show Go p.tables e below _ T103 (mkF m 44 #[.val (.ref bt), .val (.int (Int32.ofNat ((2 * i) + 1))), .val (.int ch)] [])
  refine g_aload_n B W103 (d_jdk_52_method_4_44) rfl rfl ?_
  refine g_iload_n B W103 (d_jdk_52_method_4_45) rfl ?_
  refine g_iload_n B W103 (d_jdk_52_method_4_46) rfl ?_
  obtain ⟨T105, W105, st105⟩ := x_gets B W103 (host := "") (d_jdk_52_method_4_47) (Or.inl (tw hw 96 rfl)) Via.refl Slo #[.val (.ref bt), .val (.int (Int32.ofNat ((2 * i) + 1))), .val (.int ch)] [(.int ch), (.int (Int32.ofNat ((2 * i) + 1))), (.ref bt)]
  refine st105 _ ?_
  refine g_ishr B W105 (d_jdk_52_method_4_50)  ?_
  refine g_i2b B W105 (d_jdk_52_method_4_51)  ?_
  obtain ⟨T106, h106, W106, K106, A106, st106⟩ := x_bastore B W105 (j := Int32.ofNat (((2 * i) + 1))) (x := (((ch : Int32) >>> ((8 : Int32) &&& 31)) : Int32).toInt8.toInt32) (d_jdk_52_method_4_52) A103 (own_ixok (i := ((2 * i) + 1)) (n := 2 * nn) (by omega) (by omega)) (by rw [own_clamp (by omega), arl_len]; exact (by omega)) (by omega) (by simp) #[.val (.ref bt), .val (.int (Int32.ofNat ((2 * i) + 1))), .val (.int ch)] []
  refine st106 _ ?_
  rw [own_clamp (by omega), own_nb8, arl_set] at A106
  have s107 := K106.1
  show Go p.tables e below _ T106 (mkF m 53 #[.val (.ref bt), .val (.int (Int32.ofNat ((2 * i) + 1))), .val (.int ch)] [])
  exact r_v B W106 (d_jdk_52_method_4_53) (by decide) (by decide) ⟨rfl, (((Keep.refl h0 [bt]).trans K103 (allS (Or.inl (by simp)) all0)).trans K106 (allS (Or.inl (by simp)) all0)), A106⟩
theorem ef_getc (m : MethodId) (bt : Addr) (kb : ClassId) (nn : Nat) (ff : Nat → Int32) (i : Nat) : entryFrame m #[(.ref bt), (.int (Int32.ofNat i))] 2 = mkF m 0 #[.val (.ref bt), .val (.int (Int32.ofNat i))] [] := by first | (simp [entryFrame, mkF, argsToLocals, Value.category]; done) | rfl
def Q_getc (Z : State) (bt : Addr) (kb : ClassId) (nn : Nat) (ff : Nat → Int32) (i : Nat) (h0 : Heap) (v : Option Value) (h : Heap) : Prop := v = some (.int (ff i)) ∧ h0 = h
set_option maxRecDepth 65536 in
set_option maxHeartbeats 40000000 in
theorem c_getc (l : Launch) (Z : State) (a0 : Array Value) (hw : ∀ d ∈ tables_1, d.before a0 Z = true) (bt : Addr) (kb : ClassId) (nn : Nat) (ff : Nat → Int32) (i : Nat) (h0 : Heap) (Sad : Sta Z Z.heap "java/lang/StringUTF16" "$assertionsDisabled" "Z" (.int 1)) (Shi : Sta Z Z.heap "java/lang/StringUTF16" "HI_BYTE_SHIFT" "I" (.int 0)) (Slo : Sta Z Z.heap "java/lang/StringUTF16" "LO_BYTE_SHIFT" "I" (.int 8)) (A1 : Arv Z h0 bt kb .byte (Int32.ofNat (2 * nn)) (arl (2 * nn) (wbf ff)) (.int 0)) (hi : i < nn) (hn : nn ≤ 4000) (rg : ¬ ff i < 0 ∧ ¬ 65535 < ff i) :
    Con l Z (⟨"java/lang/StringUTF16", "getChar", "([BI)C"⟩ : MethodName) jdk_52_method_5_code 2 (Option.some FieldType.char) [] ({ frames := 0, cells := 0, slots := 0, locals := 0 } : Room) #[(.ref bt), (.int (Int32.ofNat i))] h0 (Q_getc Z bt kb nn ff i h0) [] := by
  refine Con.of (plainFor_of_name pn_java_lang_StringUTF16) ?_
  intro p e s m below meth c T0 B W0
  refine Go.cast (ef_getc m bt kb nn ff i ) ?_
  obtain ⟨T101, W101, st101⟩ := x_gets B W0 (host := "") (d_jdk_52_method_5_0) (Or.inl (tw hw 94 rfl)) Via.refl Sad #[.val (.ref bt), .val (.int (Int32.ofNat i))] []
  refine st101 _ ?_
  refine g_if_y B W101 (d_jdk_52_method_5_3) (XT.i0_ne_t (by decide)) (pc' := 28) (by decide) ?_
  show Go p.tables e below _ T101 (mkF m 28 #[.val (.ref bt), .val (.int (Int32.ofNat i))] [])
  refine g_iload_n B W101 (d_jdk_52_method_5_28) rfl ?_
  refine g_iconst B W101 (d_jdk_52_method_5_29) (v := 1) (by decide) ?_
  refine g_ishl B W101 (d_jdk_52_method_5_30)  ?_
  rw [own_dbl (by omega)]
  show Go p.tables e below _ T101 (mkF m 31 #[.val (.ref bt), .val (.int (Int32.ofNat i))] [(.int (Int32.ofNat (2 * i)))])
  refine g_istore_n B W101 (d_jdk_52_method_5_31)  (l' := #[.val (.ref bt), .val (.int (Int32.ofNat (2 * i)))]) rfl ?_
  refine g_aload_n B W101 (d_jdk_52_method_5_32) rfl rfl ?_
  refine g_iload_n B W101 (d_jdk_52_method_5_33) rfl ?_
  refine g_iinc B W101 (d_jdk_52_method_5_34) (v := 1) (l' := #[.val (.ref bt), .val (.int (Int32.ofNat ((2 * i)) + 1))]) (by decide) rfl rfl ?_
  rw [own_inc]
  show Go p.tables e below _ T101 (mkF m 37 #[.val (.ref bt), .val (.int (Int32.ofNat ((2 * i) + 1)))] [(.int (Int32.ofNat (2 * i))), (.ref bt)])
  refine g_baload B W101 (d_jdk_52_method_5_37) A1 (own_ixok (i := (2 * i)) (n := 2 * nn) (by omega) (by omega)) (arl_rd (i := (2 * i)) (n := 2 * nn) (by omega) (by omega)) ?_
  show Go p.tables e below _ T101 (mkF m 38 #[.val (.ref bt), .val (.int (Int32.ofNat ((2 * i) + 1)))] [(.int (wbf ff ((2 * i))))])
  rw [wbf_e]
  show Go p.tables e below _ T101 (mkF m 38 #[.val (.ref bt), .val (.int (Int32.ofNat ((2 * i) + 1)))] [(.int (ff i).toInt8.toInt32)])
  refine g_sipush B W101 (d_jdk_52_method_5_38) (v := 255) (by decide) ?_
  refine g_iand B W101 (d_jdk_52_method_5_41)  ?_
  obtain ⟨T102, W102, st102⟩ := x_gets B W101 (host := "") (d_jdk_52_method_5_42) (Or.inl (tw hw 95 rfl)) Via.refl Shi #[.val (.ref bt), .val (.int (Int32.ofNat ((2 * i) + 1)))] [(.int ((ff i).toInt8.toInt32 &&& 255))]
  refine st102 _ ?_
  refine g_ishl B W102 (d_jdk_52_method_5_45)  ?_
  refine g_aload_n B W102 (d_jdk_52_method_5_46) rfl rfl ?_
  refine g_iload_n B W102 (d_jdk_52_method_5_47) rfl ?_
  refine g_baload B W102 (d_jdk_52_method_5_48) A1 (own_ixok (i := ((2 * i) + 1)) (n := 2 * nn) (by omega) (by omega)) (arl_rd (i := ((2 * i) + 1)) (n := 2 * nn) (by omega) (by omega)) ?_
  show Go p.tables e below _ T102 (mkF m 49 #[.val (.ref bt), .val (.int (Int32.ofNat ((2 * i) + 1)))] [(.int (wbf ff (((2 * i) + 1)))), (.int ((((ff i).toInt8.toInt32 &&& 255) : Int32) <<< ((0 : Int32) &&& 31)))])
  rw [wbf_o]
  show Go p.tables e below _ T102 (mkF m 49 #[.val (.ref bt), .val (.int (Int32.ofNat ((2 * i) + 1)))] [(.int (ff i >>> ((8 : Int32) &&& 31)).toInt8.toInt32), (.int ((((ff i).toInt8.toInt32 &&& 255) : Int32) <<< ((0 : Int32) &&& 31)))])
  refine g_sipush B W102 (d_jdk_52_method_5_49) (v := 255) (by decide) ?_
  refine g_iand B W102 (d_jdk_52_method_5_52)  ?_
  obtain ⟨T103, W103, st103⟩ := x_gets B W102 (host := "") (d_jdk_52_method_5_53) (Or.inl (tw hw 96 rfl)) Via.refl Slo #[.val (.ref bt), .val (.int (Int32.ofNat ((2 * i) + 1)))] [(.int ((ff i >>> ((8 : Int32) &&& 31)).toInt8.toInt32 &&& 255)), (.int ((((ff i).toInt8.toInt32 &&& 255) : Int32) <<< ((0 : Int32) &&& 31)))]
  refine st103 _ ?_
  refine g_ishl B W103 (d_jdk_52_method_5_56)  ?_
  refine g_ior B W103 (d_jdk_52_method_5_57)  ?_
  refine g_i2c B W103 (d_jdk_52_method_5_58)  ?_
  rw [own_glue rg.1 rg.2]
  show Go p.tables e below _ T103 (mkF m 59 #[.val (.ref bt), .val (.int (Int32.ofNat ((2 * i) + 1)))] [(.int (ff i))])
  exact r_n B W103 (t := .char) rfl (by simp) (d_jdk_52_method_5_59) (by decide) (by decide) ⟨by rw [own_narc rg.1 rg.2], rfl⟩
theorem ef_toby (m : MethodId) (ar : Addr) (kA : ClassId) (nn : Nat) (ff : Nat → Int32) : entryFrame m #[(.ref ar), (.int 0), (.int (Int32.ofNat nn))] 5 = mkF m 0 #[.val (.ref ar), .val (.int 0), .val (.int (Int32.ofNat nn)), .unset, .unset] [] := by first | (simp [entryFrame, mkF, argsToLocals, Value.category]; done) | rfl
def Q_toby (Z : State) (ar : Addr) (kA : ClassId) (nn : Nat) (ff : Nat → Int32) (h0 : Heap) (v : Option Value) (h : Heap) : Prop := ∃ (b : Addr) (kb : ClassId), v = some (.ref b) ∧ h0.size ≤ b ∧ Keep h0 h [] ∧ Arv Z h b kb .byte (Int32.ofNat (2 * nn)) (arl (2 * nn) (wbf ff)) (.int 0)
set_option maxRecDepth 65536 in
set_option maxHeartbeats 40000000 in
theorem c_toby (l : Launch) (Z : State) (a0 : Array Value) (hw : ∀ d ∈ tables_1, d.before a0 Z = true) (ar : Addr) (kA : ClassId) (nn : Nat) (ff : Nat → Int32) (h0 : Heap) (Sad : Sta Z Z.heap "java/lang/StringUTF16" "$assertionsDisabled" "Z" (.int 1)) (Shi : Sta Z Z.heap "java/lang/StringUTF16" "HI_BYTE_SHIFT" "I" (.int 0)) (Slo : Sta Z Z.heap "java/lang/StringUTF16" "LO_BYTE_SHIFT" "I" (.int 8)) (A1 : Arv Z h0 ar kA .char (Int32.ofNat nn) (arl nn ff) (.int 0)) (hn : nn ≤ 8) :
    Con l Z (⟨"java/lang/StringUTF16", "toBytes", "([CII)[B"⟩ : MethodName) jdk_52_method_14_code 5 (Option.some (FieldType.array FieldType.byte)) [] ({ frames := 2, cells := 1, slots := 16, locals := 24 } : Room) #[(.ref ar), (.int 0), (.int (Int32.ofNat nn))] h0 (Q_toby Z ar kA nn ff h0) [] := by
  refine Con.of (plainFor_of_name pn_java_lang_StringUTF16) ?_
  intro p e s m below meth c T0 B W0
  refine Go.cast (ef_toby m ar kA nn ff ) ?_
  have l_ar := nlt A1.lt
  refine g_iload_n B W0 (d_jdk_52_method_14_0) rfl ?_
  have zs101 := W0.size
  obtain ⟨T102, h102, b102, W102, Q102, st102⟩ := x_staticR B W0 [(.int (Int32.ofNat nn))] (c_nbf l Z a0 hw nn h0 hn) (by simp) (fun v h' q => by obtain ⟨b, _, e, _⟩ := q; exact ⟨b, e⟩) (d_jdk_52_method_14_1) (tw hw 84 rfl) (tw hw 85 rfl) (tw hw 72 rfl) (tw hw 86 rfl) (by decide) (lenOf pd__I__B rfl) #[.val (.ref ar), .val (.int 0), .val (.int (Int32.ofNat nn)), .unset, .unset] [] rfl 0 rfl (by decide) (by decide) (by decide) (by decide)
  obtain ⟨bx102, kb102, eb102, g102, K102, A102⟩ := Q102
  have s103 := K102.1
  refine st102 _ ?_
  obtain rfl : b102 = bx102 := by injection eb102 with q; injection q
  have l102 := nlt A102.lt
  have z102 := W102.size
  refine g_astore_n B W102 (d_jdk_52_method_14_4) rfl (l' := #[.val (.ref ar), .val (.int 0), .val (.int (Int32.ofNat nn)), .val (.ref b102), .unset]) rfl ?_
  refine g_iconst B W102 (d_jdk_52_method_14_5) (v := 0) (by decide) ?_
  refine g_istore B W102 (d_jdk_52_method_14_6)  (l' := #[.val (.ref ar), .val (.int 0), .val (.int (Int32.ofNat nn)), .val (.ref b102), .val (.int 0)]) rfl ?_
  have loop : ∀ (r : Nat) (i : Nat) (g : Nat → Int32) (h1 : Heap) (T : State), (i + r = nn) → (Keep h102 h1 [b102]) → (Arv Z h1 b102 kb102 .byte (Int32.ofNat (2 * nn)) (arl (2 * nn) g) (.int 0)) → (∀ j, j < 2 * i → g j = wbf ff j) → Wk p l e ({ frames := 2, cells := 1, slots := 16, locals := 24 } : Room) s m #[(.ref ar), (.int 0), (.int (Int32.ofNat nn))] below meth c Z T h1 1 16 [b102] → Go p.tables e below (Jvm.OwnK.Out Z s (Q_toby Z ar kA nn ff h0) ({ frames := 2, cells := 1, slots := 16, locals := 24 } : Room).cells ({ frames := 2, cells := 1, slots := 16, locals := 24 } : Room).slots) T (mkF m 8 #[.val (.ref ar), .val (.int (Int32.ofNat i)), .val (.int (Int32.ofNat nn)), .val (.ref b102), .val (.int (Int32.ofNat i))] []) := by
    intro r; induction r with
    | zero =>
      intro i g h1 T hr K1 A3 hg W
      refine g_iload B W (d_jdk_52_method_14_8) rfl ?_
      refine g_iload_n B W (d_jdk_52_method_14_10) rfl ?_
      refine g_icmp_y B W (d_jdk_52_method_14_11) (XT.ii_ge_t (by rw [own_lt (by omega) (by omega)]; omega)) (pc' := 32) (by decide) ?_
      show Go p.tables e below _ T (mkF m 32 #[.val (.ref ar), .val (.int (Int32.ofNat i)), .val (.int (Int32.ofNat nn)), .val (.ref b102), .val (.int (Int32.ofNat i))] [])
      refine g_aload_n B W (d_jdk_52_method_14_32) rfl rfl ?_
      exact r_a B W rfl rfl rfl (d_jdk_52_method_14_33) (by decide) (by decide) ⟨b102, kb102, rfl, by omega, (((Keep.refl h0 []).trans K102 all0).trans K1 (allS (Or.inr (by omega)) all0)), (arl_congr (n := 2 * nn) (f := g) (g := wbf ff) fun j hj => hg j (by omega)) ▸ A3⟩
    | succ r ih =>
      intro i g h1 T hr K1 A3 hg W
      have hil : i < nn := by omega
      refine g_iload B W (d_jdk_52_method_14_8) rfl ?_
      refine g_iload_n B W (d_jdk_52_method_14_10) rfl ?_
      refine g_icmp_n B W (d_jdk_52_method_14_11) (XT.ii_ge_f ((own_lt (by omega) (by omega)).mpr hil)) ?_
      show Go p.tables e below _ T (mkF m 14 #[.val (.ref ar), .val (.int (Int32.ofNat i)), .val (.int (Int32.ofNat nn)), .val (.ref b102), .val (.int (Int32.ofNat i))] [])
      refine g_aload_n B W (d_jdk_52_method_14_14) rfl rfl ?_
      refine g_iload B W (d_jdk_52_method_14_15) rfl ?_
      refine g_aload_n B W (d_jdk_52_method_14_17) rfl rfl ?_
      refine g_iload_n B W (d_jdk_52_method_14_18) rfl ?_
      have f104 := (A1.keep K102 nin0)
      have f105 := (f104.keep K1 (ninS (nne (by have q := nlt f104.lt; omega)) nin0))
      refine g_caload B W (d_jdk_52_method_14_19) f105 (own_ixok (i := i) (n := nn) (by omega) (by omega)) (arl_rd (i := i) (n := nn) (by omega) (by omega)) ?_
      show Go p.tables e below _ T (mkF m 20 #[.val (.ref ar), .val (.int (Int32.ofNat i)), .val (.int (Int32.ofNat nn)), .val (.ref b102), .val (.int (Int32.ofNat i))] [(.int (ff i)), (.int (Int32.ofNat i)), (.ref b102)])
      obtain ⟨T106, h106, v106, W106, Q106, st106⟩ := x_static B W [(.ref b102), (.int (Int32.ofNat i)), (.int (ff i))] (c_putc l Z a0 hw b102 kb102 nn g i (ff i) h1 Sad Shi Slo A3 (by omega) hil hn) (by simp) (d_jdk_52_method_14_20) (tw hw 91 rfl) (tw hw 92 rfl) (tw hw 72 rfl) (tw hw 93 rfl) (by decide) (lenOf pd___BII_V rfl) #[.val (.ref ar), .val (.int (Int32.ofNat i)), .val (.int (Int32.ofNat nn)), .val (.ref b102), .val (.int (Int32.ofNat i))] [] rfl 0 rfl (by decide) (by decide) (by decide) (by decide)
      obtain ⟨rfl, K106, A106⟩ := Q106
      have s107 := K106.1
      refine st106 _ ?_
      refine g_iinc B W106 (d_jdk_52_method_14_23) (v := 1) (l' := #[.val (.ref ar), .val (.int (Int32.ofNat i + 1)), .val (.int (Int32.ofNat nn)), .val (.ref b102), .val (.int (Int32.ofNat i))]) (by decide) rfl rfl ?_
      rw [own_inc]
      show Go p.tables e below _ T106 (mkF m 26 #[.val (.ref ar), .val (.int (Int32.ofNat (i + 1))), .val (.int (Int32.ofNat nn)), .val (.ref b102), .val (.int (Int32.ofNat i))] [])
      refine g_iinc B W106 (d_jdk_52_method_14_26) (v := 1) (l' := #[.val (.ref ar), .val (.int (Int32.ofNat (i + 1))), .val (.int (Int32.ofNat nn)), .val (.ref b102), .val (.int (Int32.ofNat i + 1))]) (by decide) rfl rfl ?_
      rw [own_inc]
      show Go p.tables e below _ T106 (mkF m 29 #[.val (.ref ar), .val (.int (Int32.ofNat (i + 1))), .val (.int (Int32.ofNat nn)), .val (.ref b102), .val (.int (Int32.ofNat (i + 1)))] [])
      refine g_goto B W106 (d_jdk_52_method_14_29) (pc' := 8) (by decide) ?_
      show Go p.tables e below _ T106 (mkF m 8 #[.val (.ref ar), .val (.int (Int32.ofNat (i + 1))), .val (.int (Int32.ofNat nn)), .val (.ref b102), .val (.int (Int32.ofNat (i + 1)))] [])
      exact ih _ _ _ _ (by omega) (((Keep.refl h102 [b102]).trans K1 (allS (Or.inl (by simp)) all0)).trans K106 (allS (Or.inl (by simp)) all0)) A106 (own_fill2 hg) (Wk.more W106 (by decide) (by decide))
  exact loop nn 0 _ h102 _ (by omega) (Keep.refl h102 [b102]) A102 (fun j hj => absurd hj (by omega)) W102
theorem ef_comp3 (m : MethodId) (ar : Addr) (kA : ClassId) (nn : Nat) (ff : Nat → Int32) : entryFrame m #[(.ref ar), (.int 0), (.int (Int32.ofNat nn))] 6 = mkF m 0 #[.val (.ref ar), .val (.int 0), .val (.int (Int32.ofNat nn)), .unset, .unset, .unset] [] := by first | (simp [entryFrame, mkF, argsToLocals, Value.category]; done) | rfl
def Q_comp3 (Z : State) (ar : Addr) (kA : ClassId) (nn : Nat) (ff : Nat → Int32) (h0 : Heap) (v : Option Value) (h : Heap) : Prop := ∃ (b : Addr) (kb : ClassId), v = some (.ref b) ∧ h0.size ≤ b ∧ Keep h0 h [] ∧ (((∀ i, i < nn → ¬ 255 < ff i) ∧ Arv Z h b kb .byte (Int32.ofNat nn) (arl nn fun i => (ff i).toInt8.toInt32) (.int 0)) ∨ Arv Z h b kb .byte (Int32.ofNat (2 * nn)) (arl (2 * nn) (wbf ff)) (.int 0))
set_option maxRecDepth 65536 in
set_option maxHeartbeats 40000000 in
theorem c_comp3 (l : Launch) (Z : State) (a0 : Array Value) (hw : ∀ d ∈ tables_1, d.before a0 Z = true) (ar : Addr) (kA : ClassId) (nn : Nat) (ff : Nat → Int32) (h0 : Heap) (Sad : Sta Z Z.heap "java/lang/StringUTF16" "$assertionsDisabled" "Z" (.int 1)) (Shi : Sta Z Z.heap "java/lang/StringUTF16" "HI_BYTE_SHIFT" "I" (.int 0)) (Slo : Sta Z Z.heap "java/lang/StringUTF16" "LO_BYTE_SHIFT" "I" (.int 8)) (A1 : Arv Z h0 ar kA .char (Int32.ofNat nn) (arl nn ff) (.int 0)) (rf : ∀ i, i < nn → ¬ ff i < 0 ∧ ¬ 65535 < ff i) (hn : nn ≤ 8) :
    Con l Z (⟨"java/lang/StringUTF16", "compress", "([CII)[B"⟩ : MethodName) jdk_52_method_16_code 6 (Option.some (FieldType.array FieldType.byte)) [] ({ frames := 3, cells := 2, slots := 24, locals := 40 } : Room) #[(.ref ar), (.int 0), (.int (Int32.ofNat nn))] h0 (Q_comp3 Z ar kA nn ff h0) [] := by
  refine Con.of (plainFor_of_name pn_java_lang_StringUTF16) ?_
  intro p e s m below meth c T0 B W0
  refine Go.cast (ef_comp3 m ar kA nn ff ) ?_
  have l_ar := nlt A1.lt
  refine g_iload_n B W0 (d_jdk_52_method_16_0) rfl ?_
  obtain ⟨T101, h101, b101, cA101, gb101, W101, K101, A101, st101⟩ := x_newA B W0 (z := Int32.ofNat nn) 8 (d_jdk_52_method_16_1) (tw hw 24 rfl) (own_nneg (by omega)) (by rw [own_clamp (by omega)]; omega) (by decide) (by decide) (by decide) #[.val (.ref ar), .val (.int 0), .val (.int (Int32.ofNat nn)), .unset, .unset, .unset] []
  have l101 := nlt A101.lt
  have z101 := W0.size
  refine st101 _ ?_
  have A101 := arl_of_rep (by omega) (by decide) A101
  have s102 := K101.1
  show Go p.tables e below _ T101 (mkF m 3 #[.val (.ref ar), .val (.int 0), .val (.int (Int32.ofNat nn)), .unset, .unset, .unset] [(.ref b101)])
  refine g_astore_n B W101 (d_jdk_52_method_16_3) rfl (l' := #[.val (.ref ar), .val (.int 0), .val (.int (Int32.ofNat nn)), .val (.ref b101), .unset, .unset]) rfl ?_
  refine g_aload_n B W101 (d_jdk_52_method_16_4) rfl rfl ?_
  refine g_iload_n B W101 (d_jdk_52_method_16_5) rfl ?_
  refine g_aload_n B W101 (d_jdk_52_method_16_6) rfl rfl ?_
  refine g_iconst B W101 (d_jdk_52_method_16_7) (v := 0) (by decide) ?_
  refine g_iload_n B W101 (d_jdk_52_method_16_8) rfl ?_
  have f103 := (A1.keep K101 nin0)
  obtain ⟨T104, h104, v104, W104, Q104, st104⟩ := x_static B W101 [(.ref ar), (.int 0), (.ref b101), (.int 0), (.int (Int32.ofNat nn))] (c_comp5 l Z a0 hw ar kA b101 cA101 nn ff h101 f103 A101 (by omega) (by omega) (by omega)) (by simp) (d_jdk_52_method_16_9) (tw hw 74 rfl) (tw hw 75 rfl) (tw hw 72 rfl) (tw hw 76 rfl) (by decide) (lenOf pd___CI_BII_I rfl) #[.val (.ref ar), .val (.int 0), .val (.int (Int32.ofNat nn)), .val (.ref b101), .unset, .unset] [] rfl 0 rfl (by decide) (by decide) (by decide) (by decide)
  obtain ⟨r104, g104, rfl, K104, A104, hl104, hg104, hw104⟩ := Q104
  have s105 := K104.1
  refine st104 _ ?_
  refine g_istore B W104 (d_jdk_52_method_16_12)  (l' := #[.val (.ref ar), .val (.int 0), .val (.int (Int32.ofNat nn)), .val (.ref b101), .val (.int (Int32.ofNat r104)), .unset]) rfl ?_
  refine g_iload B W104 (d_jdk_52_method_16_14) rfl ?_
  refine g_iload_n B W104 (d_jdk_52_method_16_16) rfl ?_
  by_cases hc106 : (Int32.ofNat r104) = (Int32.ofNat nn)
  · skip
    refine g_icmp_y B W104 (d_jdk_52_method_16_17) (XT.ii_eq_t hc106) (pc' := 57) (by decide) ?_
    show Go p.tables e below _ T104 (mkF m 57 #[.val (.ref ar), .val (.int 0), .val (.int (Int32.ofNat nn)), .val (.ref b101), .val (.int (Int32.ofNat r104)), .unset] [])
    have er104 : r104 = nn := (own_inj (by omega) (by omega)).mp hc106
    refine g_aload_n B W104 (d_jdk_52_method_16_57) rfl rfl ?_
    exact r_a B W104 rfl rfl rfl (d_jdk_52_method_16_58) (by decide) (by decide) ⟨_, _, rfl, by omega, (((Keep.refl h0 []).trans K101 all0).trans K104 (allS (Or.inr (by omega)) all0)), Or.inl ⟨fun i hi => (hg104 i (by omega)).2, (arl_congr (n := nn) (f := g104) (g := fun i => (ff i).toInt8.toInt32) fun i hi => (hg104 i (by omega)).1) ▸ A104⟩⟩
  · skip
    refine g_icmp_n B W104 (d_jdk_52_method_16_17) (XT.ii_eq_f hc106) ?_
    show Go p.tables e below _ T104 (mkF m 20 #[.val (.ref ar), .val (.int 0), .val (.int (Int32.ofNat nn)), .val (.ref b101), .val (.int (Int32.ofNat r104)), .unset] [])
    have hlr104 : r104 < nn := by have q := mt (own_inj (by omega) (by omega)).mpr hc106; omega
    refine g_aload_n B W104 (d_jdk_52_method_16_20) rfl rfl ?_
    refine g_iload_n B W104 (d_jdk_52_method_16_21) rfl ?_
    refine g_iload_n B W104 (d_jdk_52_method_16_22) rfl ?_
    have f107 := (f103.keep K104 (ninS (nne (by have q := nlt f103.lt; omega)) nin0))
    obtain ⟨T108, h108, v108, W108, Q108, st108⟩ := x_static B W104 [(.ref ar), (.int 0), (.int (Int32.ofNat nn))] (c_toby l Z a0 hw ar kA nn ff h104 Sad Shi Slo f107 hn) (by simp) (d_jdk_52_method_16_23) (tw hw 81 rfl) (tw hw 82 rfl) (tw hw 72 rfl) (tw hw 83 rfl) (by decide) (lenOf pd___CII__B rfl) #[.val (.ref ar), .val (.int 0), .val (.int (Int32.ofNat nn)), .val (.ref b101), .val (.int (Int32.ofNat r104)), .unset] [] rfl 0 rfl (by decide) (by decide) (by decide) (by decide)
    obtain ⟨b108, kb108, rfl, g108, K108, A108⟩ := Q108
    have s109 := K108.1
    refine st108 _ ?_
    have l108 := nlt A108.lt
    refine g_astore B W108 (d_jdk_52_method_16_26) rfl (l' := #[.val (.ref ar), .val (.int 0), .val (.int (Int32.ofNat nn)), .val (.ref b101), .val (.int (Int32.ofNat r104)), .val (.ref b108)]) rfl ?_
    refine g_aload B W108 (d_jdk_52_method_16_28) rfl rfl ?_
    refine g_iload B W108 (d_jdk_52_method_16_30) rfl ?_
    obtain ⟨T110, h110, v110, W110, Q110, st110⟩ := x_static B W108 [(.ref b108), (.int (Int32.ofNat r104))] (c_getc l Z a0 hw b108 kb108 nn ff r104 h108 Sad Shi Slo A108 (by omega) (by omega) (rf _ (by omega))) (by simp) (d_jdk_52_method_16_32) (tw hw 97 rfl) (tw hw 98 rfl) (tw hw 72 rfl) (tw hw 99 rfl) (by decide) (lenOf pd___BI_C rfl) #[.val (.ref ar), .val (.int 0), .val (.int (Int32.ofNat nn)), .val (.ref b101), .val (.int (Int32.ofNat r104)), .val (.ref b108)] [] rfl 0 rfl (by decide) (by decide) (by decide) (by decide)
    obtain ⟨rfl, rfl⟩ := Q110
    refine st110 _ ?_
    refine g_sipush B W110 (d_jdk_52_method_16_35) (v := 255) (by decide) ?_
    refine g_icmp_y B W110 (d_jdk_52_method_16_38) (XT.ii_gt_t (hw104 hlr104)) (pc' := 54) (by decide) ?_
    show Go p.tables e below _ T110 (mkF m 54 #[.val (.ref ar), .val (.int 0), .val (.int (Int32.ofNat nn)), .val (.ref b101), .val (.int (Int32.ofNat r104)), .val (.ref b108)] [])
    refine g_aload B W110 (d_jdk_52_method_16_54) rfl rfl ?_
    exact r_a B W110 rfl rfl rfl (d_jdk_52_method_16_56) (by decide) (by decide) ⟨_, _, rfl, by omega, ((((Keep.refl h0 []).trans K101 all0).trans K104 (allS (Or.inr (by omega)) all0)).trans K108 all0), Or.inr A108⟩
theorem ef_cfal (m : MethodId) (bt : Addr) (kb : ClassId) (nn : Nat) (ff : Nat → Int32) : entryFrame m #[(.ref bt), (.int (Int32.ofNat nn))] 2 = mkF m 0 #[.val (.ref bt), .val (.int (Int32.ofNat nn))] [] := by first | (simp [entryFrame, mkF, argsToLocals, Value.category]; done) | rfl
def Q_cfal (Z : State) (bt : Addr) (kb : ClassId) (nn : Nat) (ff : Nat → Int32) (h0 : Heap) (v : Option Value) (h : Heap) : Prop := v = some (.int 0) ∧ h0 = h
set_option maxRecDepth 65536 in
set_option maxHeartbeats 40000000 in
theorem c_cfal (l : Launch) (Z : State) (a0 : Array Value) (hw : ∀ d ∈ tables_1, d.before a0 Z = true) (bt : Addr) (kb : ClassId) (nn : Nat) (ff : Nat → Int32) (h0 : Heap) (A1 : Arv Z h0 bt kb .byte (Int32.ofNat nn) (arl nn ff) (.int 0)) :
    Con l Z (⟨"java/lang/StringUTF16", "coderFromArrayLen", "([BI)B"⟩ : MethodName) jdk_52_method_15_code 2 (Option.some FieldType.byte) [] ({ frames := 0, cells := 0, slots := 0, locals := 0 } : Room) #[(.ref bt), (.int (Int32.ofNat nn))] h0 (Q_cfal Z bt kb nn ff h0) [] := by
  refine Con.of (plainFor_of_name pn_java_lang_StringUTF16) ?_
  intro p e s m below meth c T0 B W0
  refine Go.cast (ef_cfal m bt kb nn ff ) ?_
  refine g_iload_n B W0 (d_jdk_52_method_15_0) rfl ?_
  refine g_aload_n B W0 (d_jdk_52_method_15_1) rfl rfl ?_
  refine g_aalen B W0 (d_jdk_52_method_15_2) A1 ?_
  refine g_isub B W0 (d_jdk_52_method_15_3)  ?_
  rw [Int32.sub_self]
  show Go p.tables e below _ T0 (mkF m 4 #[.val (.ref bt), .val (.int (Int32.ofNat nn))] [(.int 0)])
  refine g_bipush B W0 (d_jdk_52_method_15_4) (v := 31) (by decide) ?_
  refine g_iushr B W0 (d_jdk_52_method_15_6)  ?_
  refine g_i2b B W0 (d_jdk_52_method_15_7)  ?_
  exact r_n B W0 (t := .byte) rfl (by simp) (d_jdk_52_method_15_8) (by decide) (by decide) ⟨congrArg (fun q => some (Value.int q)) (by decide), rfl⟩
theorem ef_cfaw (m : MethodId) (bt : Addr) (kb : ClassId) (nn : Nat) (ff : Nat → Int32) : entryFrame m #[(.ref bt), (.int (Int32.ofNat nn))] 2 = mkF m 0 #[.val (.ref bt), .val (.int (Int32.ofNat nn))] [] := by first | (simp [entryFrame, mkF, argsToLocals, Value.category]; done) | rfl
def Q_cfaw (Z : State) (bt : Addr) (kb : ClassId) (nn : Nat) (ff : Nat → Int32) (h0 : Heap) (v : Option Value) (h : Heap) : Prop := v = some (.int 1) ∧ h0 = h
set_option maxRecDepth 65536 in
set_option maxHeartbeats 40000000 in
theorem c_cfaw (l : Launch) (Z : State) (a0 : Array Value) (hw : ∀ d ∈ tables_1, d.before a0 Z = true) (bt : Addr) (kb : ClassId) (nn : Nat) (ff : Nat → Int32) (h0 : Heap) (A1 : Arv Z h0 bt kb .byte (Int32.ofNat (2 * nn)) (arl (2 * nn) ff) (.int 0)) (h1 : 1 ≤ nn) (h2 : nn ≤ 8) :
    Con l Z (⟨"java/lang/StringUTF16", "coderFromArrayLen", "([BI)B"⟩ : MethodName) jdk_52_method_15_code 2 (Option.some FieldType.byte) [] ({ frames := 0, cells := 0, slots := 0, locals := 0 } : Room) #[(.ref bt), (.int (Int32.ofNat nn))] h0 (Q_cfaw Z bt kb nn ff h0) [] := by
  refine Con.of (plainFor_of_name pn_java_lang_StringUTF16) ?_
  intro p e s m below meth c T0 B W0
  refine Go.cast (ef_cfaw m bt kb nn ff ) ?_
  refine g_iload_n B W0 (d_jdk_52_method_15_0) rfl ?_
  refine g_aload_n B W0 (d_jdk_52_method_15_1) rfl rfl ?_
  refine g_aalen B W0 (d_jdk_52_method_15_2) A1 ?_
  refine g_isub B W0 (d_jdk_52_method_15_3)  ?_
  refine g_bipush B W0 (d_jdk_52_method_15_4) (v := 31) (by decide) ?_
  refine g_iushr B W0 (d_jdk_52_method_15_6)  ?_
  refine g_i2b B W0 (d_jdk_52_method_15_7)  ?_
  exact r_n B W0 (t := .byte) rfl (by simp) (d_jdk_52_method_15_8) (by decide) (by decide) ⟨congrArg (fun q => some (Value.int q)) (own_cod1 h1 h2), rfl⟩
theorem ef_sI4w (m : MethodId) (a1 : Addr) (ar : Addr) (kA : ClassId) (nn : Nat) (ff : Nat → Int32) (cz : Int32) : entryFrame m #[(.ref a1), (.ref ar), (.int 0), (.int (Int32.ofNat nn)), .null] 6 = mkF m 0 #[.val (.ref a1), .val (.ref ar), .val (.int 0), .val (.int (Int32.ofNat nn)), .val .null, .unset] [] := by first | (simp [entryFrame, mkF, argsToLocals, Value.category]; done) | rfl
def Q_sI4w (Z : State) (a1 : Addr) (ar : Addr) (kA : ClassId) (nn : Nat) (ff : Nat → Int32) (cz : Int32) (h0 : Heap) (v : Option Value) (h : Heap) : Prop := v = none ∧ Keep h0 h [a1] ∧ StrC Z h a1 nn ff
set_option maxRecDepth 65536 in
set_option maxHeartbeats 40000000 in
theorem c_sI4w (l : Launch) (Z : State) (a0 : Array Value) (hw : ∀ d ∈ tables_1, d.before a0 Z = true) (a1 : Addr) (ar : Addr) (kA : ClassId) (nn : Nat) (ff : Nat → Int32) (cz : Int32) (h0 : Heap) (Scs : Sta Z Z.heap "java/lang/String" "COMPACT_STRINGS" "Z" (.int cz)) (hcz : ¬ cz = 0) (Sad : Sta Z Z.heap "java/lang/StringUTF16" "$assertionsDisabled" "Z" (.int 1)) (Shi : Sta Z Z.heap "java/lang/StringUTF16" "HI_BYTE_SHIFT" "I" (.int 0)) (Slo : Sta Z Z.heap "java/lang/StringUTF16" "LO_BYTE_SHIFT" "I" (.int 8)) (E1 : Exa Z h0 a1 "java/lang/String") (F1 : Fld Z h0 a1 "java/lang/String" "value" "[B" .null) (F2 : Fld Z h0 a1 "java/lang/String" "coder" "B" (.int 0)) (g1 : Z.heap.size ≤ a1) (A1 : Arv Z h0 ar kA .char (Int32.ofNat nn) (arl nn ff) (.int 0)) (rf : ∀ i, i < nn → ¬ ff i < 0 ∧ ¬ 65535 < ff i) (h1 : 1 ≤ nn) (hn : nn ≤ 8) :
    Con l Z (⟨"java/lang/String", "<init>", "([CIILjava/lang/Void;)V"⟩ : MethodName) jdk_42_method_149_code 6 (Option.none : Option FieldType) [] ({ frames := 4, cells := 2, slots := 24, locals := 58 } : Room) #[(.ref a1), (.ref ar), (.int 0), (.int (Int32.ofNat nn)), .null] h0 (Q_sI4w Z a1 ar kA nn ff cz h0) [a1] := by
  refine Con.of (plainFor_of_name pn_java_lang_String) ?_
  intro p e s m below meth c T0 B W0
  refine Go.cast (ef_sI4w m a1 ar kA nn ff cz ) ?_
  have l_a1 := nlt E1.lt
  have l_ar := nlt A1.lt
  refine g_aload_n B W0 (d_jdk_42_method_149_0) rfl rfl ?_
  obtain ⟨T101, W101, st101⟩ := x_init B W0 (d_jdk_42_method_149_1) (tw hw 20 rfl) (tw hw 21 rfl) (tw hw 22 rfl) a1 #[.val (.ref a1), .val (.ref ar), .val (.int 0), .val (.int (Int32.ofNat nn)), .val .null, .unset] [] rfl 0 rfl (by decide) (by decide)
  refine st101 _ ?_
  refine g_iload_n B W101 (d_jdk_42_method_149_4) rfl ?_
  refine g_if_y B W101 (d_jdk_42_method_149_5) (XT.i0_ne_t (fun q => absurd ((own_inj (j := 0) (by omega) (by omega)).mp q) (by omega))) (pc' := 27) (by decide) ?_
  show Go p.tables e below _ T101 (mkF m 27 #[.val (.ref a1), .val (.ref ar), .val (.int 0), .val (.int (Int32.ofNat nn)), .val .null, .unset] [])
  obtain ⟨T102, W102, st102⟩ := x_gets B W101 (host := "") (d_jdk_42_method_149_27) (Or.inl (tw hw 42 rfl)) Via.refl Scs #[.val (.ref a1), .val (.ref ar), .val (.int 0), .val (.int (Int32.ofNat nn)), .val .null, .unset] []
  refine st102 _ ?_
  refine g_if_n B W102 (d_jdk_42_method_149_30) (XT.i0_eq_f hcz) ?_
  show Go p.tables e below _ T102 (mkF m 33 #[.val (.ref a1), .val (.ref ar), .val (.int 0), .val (.int (Int32.ofNat nn)), .val .null, .unset] [])
  refine g_aload_n B W102 (d_jdk_42_method_149_33) rfl rfl ?_
  refine g_iload_n B W102 (d_jdk_42_method_149_34) rfl ?_
  refine g_iload_n B W102 (d_jdk_42_method_149_35) rfl ?_
  obtain ⟨T103, h103, v103, W103, Q103, st103⟩ := x_static B W102 [(.ref ar), (.int 0), (.int (Int32.ofNat nn))] (c_comp3 l Z a0 hw ar kA nn ff h0 Sad Shi Slo A1 rf hn) (by simp) (d_jdk_42_method_149_36) (tw hw 70 rfl) (tw hw 71 rfl) (tw hw 72 rfl) (tw hw 73 rfl) (by decide) (lenOf pd___CII__B rfl) #[.val (.ref a1), .val (.ref ar), .val (.int 0), .val (.int (Int32.ofNat nn)), .val .null, .unset] [] rfl 0 rfl (by decide) (by decide) (by decide) (by decide)
  obtain ⟨b103, kb103, rfl, g103, K103, D103⟩ := Q103
  have s104 := K103.1
  refine st103 _ ?_
  rcases D103 with D103 | D103
  · skip
    have A103 := D103.2
    have l103 := nlt A103.lt
    refine g_astore B W103 (d_jdk_42_method_149_39) rfl (l' := #[.val (.ref a1), .val (.ref ar), .val (.int 0), .val (.int (Int32.ofNat nn)), .val .null, .val (.ref b103)]) rfl ?_
    refine g_aload_n B W103 (d_jdk_42_method_149_41) rfl rfl ?_
    refine g_aload B W103 (d_jdk_42_method_149_42) rfl rfl ?_
    refine g_iload_n B W103 (d_jdk_42_method_149_44) rfl ?_
    obtain ⟨T105, h105, v105, W105, Q105, st105⟩ := x_static B W103 [(.ref b103), (.int (Int32.ofNat nn))] (c_cfal l Z a0 hw b103 kb103 nn _ h103 A103) (by simp) (d_jdk_42_method_149_45) (tw hw 77 rfl) (tw hw 78 rfl) (tw hw 72 rfl) (tw hw 79 rfl) (by decide) (lenOf pd___BI_B rfl) #[.val (.ref a1), .val (.ref ar), .val (.int 0), .val (.int (Int32.ofNat nn)), .val .null, .val (.ref b103)] [(.ref a1)] rfl 1 rfl (by decide) (by decide) (by decide) (by decide)
    obtain ⟨rfl, rfl⟩ := Q105
    refine st105 _ ?_
    show Go p.tables e below _ T105 (mkF m 48 #[.val (.ref a1), .val (.ref ar), .val (.int 0), .val (.int (Int32.ofNat nn)), .val .null, .val (.ref b103)] [(.int 0), (.ref a1)])
    have f106 := (F2.keep K103 nin0)
    have f107 := (E1.keep K103)
    obtain ⟨T108, h108, W108, K108, R108, F108, E108, st108⟩ := x_put B W105 (d_jdk_42_method_149_48) ((tw hw 30 rfl)) Via.refl f106 f107 (Or.inr ⟨ (tw hw 26 rfl), rfl, rfl⟩) (tw hw 8 rfl) (ty := .byte) (v := (.int 0)) (v' := (.int 0)) (by decide) rfl rfl (by omega) (Or.inr (by simp)) #[.val (.ref a1), .val (.ref ar), .val (.int 0), .val (.int (Int32.ofNat nn)), .val .null, .val (.ref b103)] []
    refine st108 _ ?_
    have f109 := (F1.keep K103 nin0)
    have f110 := f109.other R108 (Or.inr (slot_ne (Or.inr (tw hw 25 rfl)) (Or.inr (tw hw 26 rfl)) (by decide) (t := (.array .byte)) (t' := .byte) (by decide) (by decide)))
    have s111 := K108.1
    refine g_aload_n B W108 (d_jdk_42_method_149_51) rfl rfl ?_
    refine g_aload B W108 (d_jdk_42_method_149_52) rfl rfl ?_
    obtain ⟨T112, h112, W112, K112, R112, F112, E112, st112⟩ := x_put B W108 (d_jdk_42_method_149_54) ((tw hw 29 rfl)) Via.refl f110 E108 (Or.inr ⟨ (tw hw 25 rfl), rfl, rfl⟩) (tw hw 8 rfl) (ty := (.array .byte)) (v := (.ref b103)) (v' := (.ref b103)) (by decide) rfl rfl (by omega) (Or.inr (by simp)) #[.val (.ref a1), .val (.ref ar), .val (.int 0), .val (.int (Int32.ofNat nn)), .val .null, .val (.ref b103)] []
    refine st112 _ ?_
    have f113 := F108.other R112 (Or.inr (slot_ne (Or.inr (tw hw 26 rfl)) (Or.inr (tw hw 25 rfl)) (by decide) (t := .byte) (t' := (.array .byte)) (by decide) (by decide)))
    have s114 := K112.1
    have f115 := (A103.keep K108 (ninS (nne (by have q := nlt A103.lt; omega)) nin0))
    have f116 := (f115.keep K112 (ninS (nne (by have q := nlt f115.lt; omega)) nin0))
    exact r_v B W112 (d_jdk_42_method_149_57) (by decide) (by decide) ⟨rfl, ((((Keep.refl h0 [a1]).trans K103 all0).trans K108 (allS (Or.inl (by simp)) all0)).trans K112 (allS (Or.inl (by simp)) all0)), ⟨_, _, E112, F112, Or.inl ⟨f113, D103.1, f116⟩, rf, by omega⟩⟩
  · skip
    have A103 := D103
    have l103 := nlt A103.lt
    refine g_astore B W103 (d_jdk_42_method_149_39) rfl (l' := #[.val (.ref a1), .val (.ref ar), .val (.int 0), .val (.int (Int32.ofNat nn)), .val .null, .val (.ref b103)]) rfl ?_
    refine g_aload_n B W103 (d_jdk_42_method_149_41) rfl rfl ?_
    refine g_aload B W103 (d_jdk_42_method_149_42) rfl rfl ?_
    refine g_iload_n B W103 (d_jdk_42_method_149_44) rfl ?_
    obtain ⟨T117, h117, v117, W117, Q117, st117⟩ := x_static B W103 [(.ref b103), (.int (Int32.ofNat nn))] (c_cfaw l Z a0 hw b103 kb103 nn _ h103 A103 h1 hn) (by simp) (d_jdk_42_method_149_45) (tw hw 77 rfl) (tw hw 78 rfl) (tw hw 72 rfl) (tw hw 79 rfl) (by decide) (lenOf pd___BI_B rfl) #[.val (.ref a1), .val (.ref ar), .val (.int 0), .val (.int (Int32.ofNat nn)), .val .null, .val (.ref b103)] [(.ref a1)] rfl 1 rfl (by decide) (by decide) (by decide) (by decide)
    obtain ⟨rfl, rfl⟩ := Q117
    refine st117 _ ?_
    show Go p.tables e below _ T117 (mkF m 48 #[.val (.ref a1), .val (.ref ar), .val (.int 0), .val (.int (Int32.ofNat nn)), .val .null, .val (.ref b103)] [(.int 1), (.ref a1)])
    have f118 := (F2.keep K103 nin0)
    have f119 := (E1.keep K103)
    obtain ⟨T120, h120, W120, K120, R120, F120, E120, st120⟩ := x_put B W117 (d_jdk_42_method_149_48) ((tw hw 30 rfl)) Via.refl f118 f119 (Or.inr ⟨ (tw hw 26 rfl), rfl, rfl⟩) (tw hw 8 rfl) (ty := .byte) (v := (.int 1)) (v' := (.int 1)) (by decide) rfl rfl (by omega) (Or.inr (by simp)) #[.val (.ref a1), .val (.ref ar), .val (.int 0), .val (.int (Int32.ofNat nn)), .val .null, .val (.ref b103)] []
    refine st120 _ ?_
    have f121 := (F1.keep K103 nin0)
    have f122 := f121.other R120 (Or.inr (slot_ne (Or.inr (tw hw 25 rfl)) (Or.inr (tw hw 26 rfl)) (by decide) (t := (.array .byte)) (t' := .byte) (by decide) (by decide)))
    have s123 := K120.1
    refine g_aload_n B W120 (d_jdk_42_method_149_51) rfl rfl ?_
    refine g_aload B W120 (d_jdk_42_method_149_52) rfl rfl ?_
    obtain ⟨T124, h124, W124, K124, R124, F124, E124, st124⟩ := x_put B W120 (d_jdk_42_method_149_54) ((tw hw 29 rfl)) Via.refl f122 E120 (Or.inr ⟨ (tw hw 25 rfl), rfl, rfl⟩) (tw hw 8 rfl) (ty := (.array .byte)) (v := (.ref b103)) (v' := (.ref b103)) (by decide) rfl rfl (by omega) (Or.inr (by simp)) #[.val (.ref a1), .val (.ref ar), .val (.int 0), .val (.int (Int32.ofNat nn)), .val .null, .val (.ref b103)] []
    refine st124 _ ?_
    have f125 := F120.other R124 (Or.inr (slot_ne (Or.inr (tw hw 26 rfl)) (Or.inr (tw hw 25 rfl)) (by decide) (t := .byte) (t' := (.array .byte)) (by decide) (by decide)))
    have s126 := K124.1
    have f127 := (A103.keep K120 (ninS (nne (by have q := nlt A103.lt; omega)) nin0))
    have f128 := (f127.keep K124 (ninS (nne (by have q := nlt f127.lt; omega)) nin0))
    exact r_v B W124 (d_jdk_42_method_149_57) (by decide) (by decide) ⟨rfl, ((((Keep.refl h0 [a1]).trans K103 all0).trans K120 (allS (Or.inl (by simp)) all0)).trans K124 (allS (Or.inl (by simp)) all0)), ⟨_, _, E124, F124, Or.inr ⟨f125, h1, f128⟩, rf, by omega⟩⟩
theorem ef_sI1w (m : MethodId) (a1 : Addr) (ar : Addr) (kA : ClassId) (nn : Nat) (ff : Nat → Int32) (cz : Int32) : entryFrame m #[(.ref a1), (.ref ar)] 2 = mkF m 0 #[.val (.ref a1), .val (.ref ar)] [] := by first | (simp [entryFrame, mkF, argsToLocals, Value.category]; done) | rfl
def Q_sI1w (Z : State) (a1 : Addr) (ar : Addr) (kA : ClassId) (nn : Nat) (ff : Nat → Int32) (cz : Int32) (h0 : Heap) (v : Option Value) (h : Heap) : Prop := v = none ∧ Keep h0 h [a1] ∧ StrC Z h a1 nn ff
set_option maxRecDepth 65536 in
set_option maxHeartbeats 40000000 in
theorem c_sI1w (l : Launch) (Z : State) (a0 : Array Value) (hw : ∀ d ∈ tables_1, d.before a0 Z = true) (a1 : Addr) (ar : Addr) (kA : ClassId) (nn : Nat) (ff : Nat → Int32) (cz : Int32) (h0 : Heap) (Scs : Sta Z Z.heap "java/lang/String" "COMPACT_STRINGS" "Z" (.int cz)) (hcz : ¬ cz = 0) (Sad : Sta Z Z.heap "java/lang/StringUTF16" "$assertionsDisabled" "Z" (.int 1)) (Shi : Sta Z Z.heap "java/lang/StringUTF16" "HI_BYTE_SHIFT" "I" (.int 0)) (Slo : Sta Z Z.heap "java/lang/StringUTF16" "LO_BYTE_SHIFT" "I" (.int 8)) (E1 : Exa Z h0 a1 "java/lang/String") (F1 : Fld Z h0 a1 "java/lang/String" "value" "[B" .null) (F2 : Fld Z h0 a1 "java/lang/String" "coder" "B" (.int 0)) (g1 : Z.heap.size ≤ a1) (A1 : Arv Z h0 ar kA .char (Int32.ofNat nn) (arl nn ff) (.int 0)) (rf : ∀ i, i < nn → ¬ ff i < 0 ∧ ¬ 65535 < ff i) (h1 : 1 ≤ nn) (hn : nn ≤ 8) :
    Con l Z (⟨"java/lang/String", "<init>", "([C)V"⟩ : MethodName) jdk_42_method_3_code 2 (Option.none : Option FieldType) [] ({ frames := 5, cells := 2, slots := 24, locals := 75 } : Room) #[(.ref a1), (.ref ar)] h0 (Q_sI1w Z a1 ar kA nn ff cz h0) [a1] := by
  refine Con.of (plainFor_of_name pn_java_lang_String) ?_
  intro p e s m below meth c T0 B W0
  refine Go.cast (ef_sI1w m a1 ar kA nn ff cz ) ?_
  have l_a1 := nlt E1.lt
  refine g_aload_n B W0 (d_jdk_42_method_3_0) rfl rfl ?_
  refine g_aload_n B W0 (d_jdk_42_method_3_1) rfl rfl ?_
  refine g_iconst B W0 (d_jdk_42_method_3_2) (v := 0) (by decide) ?_
  refine g_aload_n B W0 (d_jdk_42_method_3_3) rfl rfl ?_
  refine g_aalen B W0 (d_jdk_42_method_3_4) A1 ?_
  refine g_aconst_null B W0 (d_jdk_42_method_3_5)  ?_
  obtain ⟨T101, h101, v101, W101, Q101, st101⟩ := x_special B W0 (b := a1) [(.ref ar), (.int 0), (.int (Int32.ofNat nn)), .null] (c_sI4w l Z a0 hw a1 ar kA nn ff cz h0 Scs hcz Sad Shi Slo E1 F1 F2 g1 A1 rf h1 hn) (by simp) (d_jdk_42_method_3_6) rfl (tw hw 16 rfl) (tw hw 17 rfl) (tw hw 9 rfl) (tw hw 19 rfl) (by decide) (lenOf pd___CIILjava_lang_Void__V rfl) #[.val (.ref a1), .val (.ref ar)] [] rfl 0 rfl (by decide) (by decide) (by decide) (by decide)
  obtain ⟨rfl, K101, S101⟩ := Q101
  have s102 := K101.1
  refine st101 _ ?_
  exact r_v B W101 (d_jdk_42_method_3_9) (by decide) (by decide) ⟨rfl, K101, S101⟩
theorem ef_isLat0 (m : MethodId) (a1 : Addr) (cz : Int32) : entryFrame m #[(.ref a1)] 1 = mkF m 0 #[.val (.ref a1)] [] := by first | (simp [entryFrame, mkF, argsToLocals, Value.category]; done) | rfl
def Q_isLat0 (Z : State) (a1 : Addr) (cz : Int32) (h0 : Heap) (v : Option Value) (h : Heap) : Prop := v = some (.int 1) ∧ h0 = h
set_option maxRecDepth 65536 in
set_option maxHeartbeats 40000000 in
theorem c_isLat0 (l : Launch) (Z : State) (a0 : Array Value) (hw : ∀ d ∈ tables_1, d.before a0 Z = true) (a1 : Addr) (cz : Int32) (h0 : Heap) (Scs : Sta Z Z.heap "java/lang/String" "COMPACT_STRINGS" "Z" (.int cz)) (hcz : ¬ cz = 0) (F1 : Fld Z h0 a1 "java/lang/String" "coder" "B" (.int 0)) :
    Con l Z (⟨"java/lang/String", "isLatin1", "()Z"⟩ : MethodName) jdk_42_method_154_code 1 (Option.some FieldType.boolean) [] ({ frames := 0, cells := 0, slots := 0, locals := 0 } : Room) #[(.ref a1)] h0 (Q_isLat0 Z a1 cz h0) [] := by
  refine Con.of (plainFor_of_name pn_java_lang_String) ?_
  intro p e s m below meth c T0 B W0
  refine Go.cast (ef_isLat0 m a1 cz ) ?_
  obtain ⟨T101, W101, st101⟩ := x_gets B W0 (host := "") (d_jdk_42_method_154_0) (Or.inl (tw hw 42 rfl)) Via.refl Scs #[.val (.ref a1)] []
  refine st101 _ ?_
  refine g_if_n B W101 (d_jdk_42_method_154_3) (XT.i0_eq_f hcz) ?_
  show Go p.tables e below _ T101 (mkF m 6 #[.val (.ref a1)] [])
  refine g_aload_n B W101 (d_jdk_42_method_154_6) rfl rfl ?_
  obtain ⟨T102, W102, st102⟩ := x_get B W101 (host := "") (d_jdk_42_method_154_7) (Or.inl (tw hw 30 rfl)) Via.refl F1 #[.val (.ref a1)] []
  refine st102 _ ?_
  refine g_if_n B W102 (d_jdk_42_method_154_10) (XT.i0_ne_f (by decide)) ?_
  show Go p.tables e below _ T102 (mkF m 13 #[.val (.ref a1)] [])
  refine g_iconst B W102 (d_jdk_42_method_154_13) (v := 1) (by decide) ?_
  refine g_goto B W102 (d_jdk_42_method_154_14) (pc' := 18) (by decide) ?_
  show Go p.tables e below _ T102 (mkF m 18 #[.val (.ref a1)] [(.int 1)])
  exact r_n B W102 (t := .boolean) rfl (by simp) (d_jdk_42_method_154_18) (by decide) (by decide) ⟨by rw [nar_b1], rfl⟩
theorem ef_isLat1 (m : MethodId) (a1 : Addr) (cz : Int32) : entryFrame m #[(.ref a1)] 1 = mkF m 0 #[.val (.ref a1)] [] := by first | (simp [entryFrame, mkF, argsToLocals, Value.category]; done) | rfl
def Q_isLat1 (Z : State) (a1 : Addr) (cz : Int32) (h0 : Heap) (v : Option Value) (h : Heap) : Prop := v = some (.int 0) ∧ h0 = h
set_option maxRecDepth 65536 in
set_option maxHeartbeats 40000000 in
theorem c_isLat1 (l : Launch) (Z : State) (a0 : Array Value) (hw : ∀ d ∈ tables_1, d.before a0 Z = true) (a1 : Addr) (cz : Int32) (h0 : Heap) (Scs : Sta Z Z.heap "java/lang/String" "COMPACT_STRINGS" "Z" (.int cz)) (hcz : ¬ cz = 0) (F1 : Fld Z h0 a1 "java/lang/String" "coder" "B" (.int 1)) :
    Con l Z (⟨"java/lang/String", "isLatin1", "()Z"⟩ : MethodName) jdk_42_method_154_code 1 (Option.some FieldType.boolean) [] ({ frames := 0, cells := 0, slots := 0, locals := 0 } : Room) #[(.ref a1)] h0 (Q_isLat1 Z a1 cz h0) [] := by
  refine Con.of (plainFor_of_name pn_java_lang_String) ?_
  intro p e s m below meth c T0 B W0
  refine Go.cast (ef_isLat1 m a1 cz ) ?_
  obtain ⟨T101, W101, st101⟩ := x_gets B W0 (host := "") (d_jdk_42_method_154_0) (Or.inl (tw hw 42 rfl)) Via.refl Scs #[.val (.ref a1)] []
  refine st101 _ ?_
  refine g_if_n B W101 (d_jdk_42_method_154_3) (XT.i0_eq_f hcz) ?_
  show Go p.tables e below _ T101 (mkF m 6 #[.val (.ref a1)] [])
  refine g_aload_n B W101 (d_jdk_42_method_154_6) rfl rfl ?_
  obtain ⟨T102, W102, st102⟩ := x_get B W101 (host := "") (d_jdk_42_method_154_7) (Or.inl (tw hw 30 rfl)) Via.refl F1 #[.val (.ref a1)] []
  refine st102 _ ?_
  refine g_if_y B W102 (d_jdk_42_method_154_10) (XT.i0_ne_t (by decide)) (pc' := 17) (by decide) ?_
  show Go p.tables e below _ T102 (mkF m 17 #[.val (.ref a1)] [])
  refine g_iconst B W102 (d_jdk_42_method_154_17) (v := 0) (by decide) ?_
  exact r_n B W102 (t := .boolean) rfl (by simp) (d_jdk_42_method_154_18) (by decide) (by decide) ⟨by rw [nar_b0], rfl⟩
def bgAL : List Int32 := [47, 97, 47, 48, 49, 50, 51, 52, 53, 54, 55, 56, 57, 48, 49, 50, 51, 52, 53, 54, 55, 56, 57, 48, 49, 50, 51, 52, 53, 54, 55, 56, 57, 48, 49, 50, 51, 52, 53, 54, 55, 56, 57, 48, 49, 50, 51, 52, 53, 54, 55, 56, 57, 48, 49, 50, 51, 52, 53, 54, 55, 56, 57, 48, 49, 50, 51, 52, 53, 54, 55, 56, 57, 48, 49, 50, 51, 52, 53, 54, 55, 56, 57, 48, 49, 50, 51, 52, 53, 54, 55, 56, 57, 48, 49, 50, 51, 52, 53, 54, 55, 56, 57, 48, 49, 50, 51, 52, 53, 54, 55, 56, 57, 48, 49, 50, 51, 52, 53, 54, 55, 56, 57, 48, 49, 50, 51, 52, 53, 54, 55, 56, 57, 48, 49, 50, 51, 52, 53, 54, 55, 56, 57, 48, 49, 50, 51, 52, 53, 54, 55, 56, 57, 48, 49, 50, 51, 52, 53, 54, 55, 56, 57, 48, 49, 50, 51, 52, 53, 54, 55, 56, 57, 48, 49, 50, 51, 52, 53, 54, 55, 56, 57, 48, 49, 50, 51, 52, 53, 54, 55, 56, 57, 48, 49, 50, 51, 52, 53, 54, 55, 56, 57, 48, 49, 50, 51, 52, 53, 54, 55, 56, 57, 48, 49, 50, 51, 52, 53, 54, 55, 56, 57, 48, 49, 50, 51, 52, 53, 54, 55, 56, 57, 48, 49, 50, 51, 52, 53, 54, 55, 56, 57, 48, 49, 50, 51, 52, 53, 54, 55, 56, 57, 48, 49, 50, 51, 52, 53, 54, 55, 56, 57, 48, 49, 50, 51, 52, 47]
def bgA (i : Nat) : Int32 := bgAL.getD i 0
def bgBL : List Int32 := [47, 48, 49, 50, 51, 52, 53, 54, 55, 56, 57, 48, 49, 50, 51, 52, 53, 54, 55, 56, 57, 48, 49, 50, 51, 52, 53, 54, 55, 56, 57, 48, 49, 50, 51, 52, 53, 54, 55, 56, 57, 48, 49, 50, 51, 52, 53, 54, 55, 56, 57, 48, 49, 50, 51, 52, 53, 54, 55, 56, 57, 48, 49, 50, 51, 52, 53, 54, 55, 56, 57, 48, 49, 50, 51, 52, 53, 54, 55, 56, 57, 48, 49, 50, 51, 52, 53, 54, 55, 56, 57, 48, 49, 50, 51, 52, 53, 54, 55, 56, 57, 48, 49, 50, 51, 52, 53, 54, 55, 56, 57, 48, 49, 50, 51, 52, 53, 54, 55, 56, 57, 48, 49, 50, 51, 52, 53, 54, 55, 56, 57, 48, 49, 50, 51, 52, 53, 54, 55, 56, 57, 48, 49, 50, 51, 52, 53, 54, 55, 56, 57, 48, 49, 50, 51, 52, 53, 54, 55, 56, 57, 48, 49, 50, 51, 52, 53, 54, 55, 56, 57, 48, 49, 50, 51, 52, 53, 54, 55, 56, 57, 48, 49, 50, 51, 52, 53, 54, 55, 56, 57, 48, 49, 50, 51, 52, 53, 54, 55, 56, 57, 48, 49, 50, 51, 52, 53, 54, 55, 56, 57, 48, 49, 50, 51, 52, 53, 54, 55, 56, 57, 48, 49, 50, 51, 52, 53, 54, 55, 56, 57, 48, 49, 50, 51, 52, 53, 54, 55, 56, 57, 48, 49, 50, 51, 52, 53, 54, 55, 56, 57, 48, 49, 50, 51, 52, 53, 54, 55, 56, 57, 48, 49, 50, 51, 52, 53, 47, 97, 47]
def bgB (i : Nat) : Int32 := bgBL.getD i 0
def legalB (c : Int32) : Bool := decide ((¬ c < 97 ∧ ¬ 122 < c) ∨ (¬ c < 48 ∧ ¬ 57 < c) ∨ c = 45)
def okB (f : Nat → Int32) (i : Nat) : Bool := if f i = 47 then !decide (f (i - 1) = 47) else legalB (f i)
def allB (f : Nat → Int32) : Nat → Nat → Bool
  | 0, _ => true
  | r + 1, i => okB f i && allB f r (i + 1)
def bl (f : Nat → Int32) : Nat → Nat → Nat → Bool
  | 0, _, _ => true
  | r + 1, i, sg => if f i = 47 then (if i - sg = 0 ∨ 255 < i - sg then false else bl f r (i + 1) (i + 1)) else if legalB (f i) = true then bl f r (i + 1) sg else false
def pg (n : Nat) (f : Nat → Int32) : Bool := if n = 0 then false else if f 0 = 47 then if f (n - 1) = 47 then bl f (n - 1) 1 1 else false else false
theorem bl_eq {f : Nat → Int32} : ∀ (r i sg : Nat), i + r ≤ 256 → 1 ≤ sg → sg ≤ i → (sg = i ↔ f (i - 1) = 47) → bl f r i sg = allB f r i
  | 0, _, _, _, _, _, _ => rfl
  | r + 1, i, sg, h1, h2, h3, h4 => by
    show (if f i = 47 then (if i - sg = 0 ∨ 255 < i - sg then false else bl f r (i + 1) (i + 1)) else if legalB (f i) = true then bl f r (i + 1) sg else false) = ((if f i = 47 then !decide (f (i - 1) = 47) else legalB (f i)) && allB f r (i + 1))
    by_cases q : f i = 47
    · rw [if_pos q, if_pos q]
      by_cases q2 : f (i - 1) = 47
      · rw [if_pos (Or.inl (by have := h4.mpr q2; omega)), decide_eq_true q2]; rfl
      · have q3 : ¬ sg = i := fun e => q2 (h4.mp e)
        rw [if_neg (by omega), decide_eq_false q2, bl_eq r (i + 1) (i + 1) (by omega) (by omega) (by omega) ⟨fun _ => q, fun _ => rfl⟩]; rfl
    · rw [if_neg q, if_neg q]
      by_cases q2 : legalB (f i) = true
      · rw [if_pos q2, q2, bl_eq r (i + 1) sg (by omega) h2 (by omega) ⟨fun e => absurd e (by omega), fun e => absurd e q⟩]; rfl
      · rw [if_neg q2, Bool.eq_false_iff.mpr q2]; rfl
theorem pg_eq {n : Nat} {f : Nat → Int32} (h : n + 1 ≤ 256) (h0 : f 0 = 47) (h1 : f n = 47) : pg (n + 1) f = allB f n 1 := by
  show (if n + 1 = 0 then false else if f 0 = 47 then if f n = 47 then bl f n 1 1 else false else false) = _
  rw [if_neg (by omega), if_pos h0, if_pos h1, bl_eq n 1 1 (by omega) (by omega) (by omega) ⟨fun _ => h0, fun _ => rfl⟩]
theorem pg_f0 {n : Nat} {f : Nat → Int32} (h : ¬ f 0 = 47) : pg n f = false := by
  unfold pg; by_cases q : n = 0
  · rw [if_pos q]
  · rw [if_neg q, if_neg h]
theorem pg_fn {n : Nat} {f : Nat → Int32} (h : ¬ f n = 47) : pg (n + 1) f = false := by
  show (if n + 1 = 0 then false else if f 0 = 47 then if f n = 47 then bl f n 1 1 else false else false) = _
  rw [if_neg (by omega), if_neg h]; split <;> rfl
theorem own_rn {x : Int32} (h : 0 ≤ x.toInt ∧ x.toInt < 65536) : ¬ x < 0 ∧ ¬ 65535 < x := by
  simp only [Int32.lt_iff_toInt_lt, Int32.reduceToInt]; omega
theorem own_c9 (a : Int32) : (a &&& 15) % 9 = 0 ∨ (a &&& 15) % 9 = 1 ∨ (a &&& 15) % 9 = 2 ∨ (a &&& 15) % 9 = 3 ∨ (a &&& 15) % 9 = 4 ∨ (a &&& 15) % 9 = 5 ∨ (a &&& 15) % 9 = 6 ∨ (a &&& 15) % 9 = 7 ∨ (a &&& 15) % 9 = 8 := by
  have q := c_and a 15 (by decide); have r := (c_irem (a &&& 15) 9 9 rfl).1 q.1
  simp only [← Int32.toInt_inj, Int32.reduceToInt] at *; omega
theorem own_rbgA : ∀ i, i < 269 → ¬ bgA i < 0 ∧ ¬ 255 < bgA i := by decide +kernel
theorem own_pbgA : pg 269 bgA = false := by decide +kernel
theorem own_rbgB : ∀ i, i < 270 → ¬ bgB i < 0 ∧ ¬ 255 < bgB i := by decide +kernel
theorem own_pbgB : pg 270 bgB = false := by decide +kernel
theorem ef_coder0 (m : MethodId) (a1 : Addr) (cz : Int32) : entryFrame m #[(.ref a1)] 1 = mkF m 0 #[.val (.ref a1)] [] := by first | (simp [entryFrame, mkF, argsToLocals, Value.category]; done) | rfl
def Q_coder0 (Z : State) (a1 : Addr) (cz : Int32) (h0 : Heap) (v : Option Value) (h : Heap) : Prop := v = some (.int 0) ∧ h0 = h
set_option maxRecDepth 65536 in
set_option maxHeartbeats 40000000 in
theorem c_coder0 (l : Launch) (Z : State) (a0 : Array Value) (hw : ∀ d ∈ tables_1, d.before a0 Z = true) (a1 : Addr) (cz : Int32) (h0 : Heap) (Scs : Sta Z Z.heap "java/lang/String" "COMPACT_STRINGS" "Z" (.int cz)) (hcz : ¬ cz = 0) (F1 : Fld Z h0 a1 "java/lang/String" "coder" "B" (.int 0)) :
    Con l Z (⟨"java/lang/String", "coder", "()B"⟩ : MethodName) jdk_42_method_152_code 1 (Option.some FieldType.byte) [] ({ frames := 0, cells := 0, slots := 0, locals := 0 } : Room) #[(.ref a1)] h0 (Q_coder0 Z a1 cz h0) [] := by
  refine Con.of (plainFor_of_name pn_java_lang_String) ?_
  intro p e s m below meth c T0 B W0
  refine Go.cast (ef_coder0 m a1 cz ) ?_
  obtain ⟨T101, W101, st101⟩ := x_gets B W0 (host := "") (d_jdk_42_method_152_0) (Or.inl (tw hw 42 rfl)) Via.refl Scs #[.val (.ref a1)] []
  refine st101 _ ?_
  refine g_if_n B W101 (d_jdk_42_method_152_3) (XT.i0_eq_f hcz) ?_
  show Go p.tables e below _ T101 (mkF m 6 #[.val (.ref a1)] [])
  refine g_aload_n B W101 (d_jdk_42_method_152_6) rfl rfl ?_
  obtain ⟨T102, W102, st102⟩ := x_get B W101 (host := "") (d_jdk_42_method_152_7) (Or.inl (tw hw 30 rfl)) Via.refl F1 #[.val (.ref a1)] []
  refine st102 _ ?_
  refine g_goto B W102 (d_jdk_42_method_152_10) (pc' := 14) (by decide) ?_
  show Go p.tables e below _ T102 (mkF m 14 #[.val (.ref a1)] [(.int 0)])
  exact r_n B W102 (t := .byte) rfl (by simp) (d_jdk_42_method_152_14) (by decide) (by decide) ⟨rfl, rfl⟩
theorem ef_coder1 (m : MethodId) (a1 : Addr) (cz : Int32) : entryFrame m #[(.ref a1)] 1 = mkF m 0 #[.val (.ref a1)] [] := by first | (simp [entryFrame, mkF, argsToLocals, Value.category]; done) | rfl
def Q_coder1 (Z : State) (a1 : Addr) (cz : Int32) (h0 : Heap) (v : Option Value) (h : Heap) : Prop := v = some (.int 1) ∧ h0 = h
set_option maxRecDepth 65536 in
set_option maxHeartbeats 40000000 in
theorem c_coder1 (l : Launch) (Z : State) (a0 : Array Value) (hw : ∀ d ∈ tables_1, d.before a0 Z = true) (a1 : Addr) (cz : Int32) (h0 : Heap) (Scs : Sta Z Z.heap "java/lang/String" "COMPACT_STRINGS" "Z" (.int cz)) (hcz : ¬ cz = 0) (F1 : Fld Z h0 a1 "java/lang/String" "coder" "B" (.int 1)) :
    Con l Z (⟨"java/lang/String", "coder", "()B"⟩ : MethodName) jdk_42_method_152_code 1 (Option.some FieldType.byte) [] ({ frames := 0, cells := 0, slots := 0, locals := 0 } : Room) #[(.ref a1)] h0 (Q_coder1 Z a1 cz h0) [] := by
  refine Con.of (plainFor_of_name pn_java_lang_String) ?_
  intro p e s m below meth c T0 B W0
  refine Go.cast (ef_coder1 m a1 cz ) ?_
  obtain ⟨T101, W101, st101⟩ := x_gets B W0 (host := "") (d_jdk_42_method_152_0) (Or.inl (tw hw 42 rfl)) Via.refl Scs #[.val (.ref a1)] []
  refine st101 _ ?_
  refine g_if_n B W101 (d_jdk_42_method_152_3) (XT.i0_eq_f hcz) ?_
  show Go p.tables e below _ T101 (mkF m 6 #[.val (.ref a1)] [])
  refine g_aload_n B W101 (d_jdk_42_method_152_6) rfl rfl ?_
  obtain ⟨T102, W102, st102⟩ := x_get B W101 (host := "") (d_jdk_42_method_152_7) (Or.inl (tw hw 30 rfl)) Via.refl F1 #[.val (.ref a1)] []
  refine st102 _ ?_
  refine g_goto B W102 (d_jdk_42_method_152_10) (pc' := 14) (by decide) ?_
  show Go p.tables e below _ T102 (mkF m 14 #[.val (.ref a1)] [(.int 1)])
  exact r_n B W102 (t := .byte) rfl (by simp) (d_jdk_42_method_152_14) (by decide) (by decide) ⟨rfl, rfl⟩
theorem ef_lenC (m : MethodId) (a1 : Addr) (nn : Nat) (ff : Nat → Int32) (cz : Int32) : entryFrame m #[(.ref a1)] 1 = mkF m 0 #[.val (.ref a1)] [] := by first | (simp [entryFrame, mkF, argsToLocals, Value.category]; done) | rfl
def Q_lenC (Z : State) (a1 : Addr) (nn : Nat) (ff : Nat → Int32) (cz : Int32) (h0 : Heap) (v : Option Value) (h : Heap) : Prop := v = some (.int (Int32.ofNat nn)) ∧ h0 = h
set_option maxRecDepth 65536 in
set_option maxHeartbeats 40000000 in
theorem c_lenC (l : Launch) (Z : State) (a0 : Array Value) (hw : ∀ d ∈ tables_1, d.before a0 Z = true) (a1 : Addr) (nn : Nat) (ff : Nat → Int32) (cz : Int32) (h0 : Heap) (Scs : Sta Z Z.heap "java/lang/String" "COMPACT_STRINGS" "Z" (.int cz)) (hcz : ¬ cz = 0) (S1 : StrC Z h0 a1 nn ff) :
    Con l Z (⟨"java/lang/String", "length", "()I"⟩ : MethodName) jdk_42_method_54_code 1 (Option.some FieldType.int) [] ({ frames := 1, cells := 0, slots := 0, locals := 13 } : Room) #[(.ref a1)] h0 (Q_lenC Z a1 nn ff cz h0) [] := by
  refine Con.of (plainFor_of_name pn_java_lang_String) ?_
  intro p e s m below meth c T0 B W0
  refine Go.cast (ef_lenC m a1 nn ff cz ) ?_
  obtain ⟨t1, kb1, E_a1, Fv_a1, D_a1, rf, L_a1⟩ := S1
  rcases D_a1 with ⟨Fc_a1, hlat, A_t1⟩ | ⟨Fc_a1, h1n, A_t1⟩
  · skip
    have l_t1 := nlt A_t1.lt
    refine g_aload_n B W0 (d_jdk_42_method_54_0) rfl rfl ?_
    obtain ⟨T101, W101, st101⟩ := x_get B W0 (host := "") (d_jdk_42_method_54_1) (Or.inl (tw hw 29 rfl)) Via.refl Fv_a1 #[.val (.ref a1)] []
    refine st101 _ ?_
    refine g_aalen B W101 (d_jdk_42_method_54_4) A_t1 ?_
    refine g_aload_n B W101 (d_jdk_42_method_54_5) rfl rfl ?_
    obtain ⟨T102, h102, v102, W102, Q102, st102⟩ := x_virtual B W101 (b := a1) [] (c_coder0 l Z a0 hw a1 cz h0 Scs hcz Fc_a1) (by simp) E_a1 (d_jdk_42_method_54_6) (tw hw 37 rfl) (tw hw 38 rfl) (tw hw 40 rfl) (tw hw 39 rfl) (tw hw 9 rfl) (tw hw 41 rfl) (by decide) (lenOf pd___B rfl) #[.val (.ref a1)] [(.int (Int32.ofNat nn))] rfl 1 rfl (by decide) (by decide) (by decide) (by decide)
    obtain ⟨rfl, rfl⟩ := Q102
    refine st102 _ ?_
    show Go p.tables e below _ T102 (mkF m 9 #[.val (.ref a1)] [(.int 0), (.int (Int32.ofNat nn))])
    refine g_ishr B W102 (d_jdk_42_method_54_9)  ?_
    rw [own_shr0]
    show Go p.tables e below _ T102 (mkF m 10 #[.val (.ref a1)] [(.int (Int32.ofNat nn))])
    exact r_i B W102 (d_jdk_42_method_54_10) (by decide) (by decide) ⟨rfl, rfl⟩
  · skip
    have l_t1 := nlt A_t1.lt
    refine g_aload_n B W0 (d_jdk_42_method_54_0) rfl rfl ?_
    obtain ⟨T103, W103, st103⟩ := x_get B W0 (host := "") (d_jdk_42_method_54_1) (Or.inl (tw hw 29 rfl)) Via.refl Fv_a1 #[.val (.ref a1)] []
    refine st103 _ ?_
    refine g_aalen B W103 (d_jdk_42_method_54_4) A_t1 ?_
    refine g_aload_n B W103 (d_jdk_42_method_54_5) rfl rfl ?_
    obtain ⟨T104, h104, v104, W104, Q104, st104⟩ := x_virtual B W103 (b := a1) [] (c_coder1 l Z a0 hw a1 cz h0 Scs hcz Fc_a1) (by simp) E_a1 (d_jdk_42_method_54_6) (tw hw 37 rfl) (tw hw 38 rfl) (tw hw 40 rfl) (tw hw 39 rfl) (tw hw 9 rfl) (tw hw 41 rfl) (by decide) (lenOf pd___B rfl) #[.val (.ref a1)] [(.int (Int32.ofNat (2 * nn)))] rfl 1 rfl (by decide) (by decide) (by decide) (by decide)
    obtain ⟨rfl, rfl⟩ := Q104
    refine st104 _ ?_
    show Go p.tables e below _ T104 (mkF m 9 #[.val (.ref a1)] [(.int 1), (.int (Int32.ofNat (2 * nn)))])
    refine g_ishr B W104 (d_jdk_42_method_54_9)  ?_
    rw [own_half (by omega)]
    show Go p.tables e below _ T104 (mkF m 10 #[.val (.ref a1)] [(.int (Int32.ofNat nn))])
    exact r_i B W104 (d_jdk_42_method_54_10) (by decide) (by decide) ⟨rfl, rfl⟩
theorem ef_pci (m : MethodId) (i : Nat) (nn : Nat) (sf : Value) (rsf : sf.isRef = true) : entryFrame m #[(.int (Int32.ofNat i)), (.int (Int32.ofNat nn)), sf] 3 = mkF m 0 #[.val (.int (Int32.ofNat i)), .val (.int (Int32.ofNat nn)), .val sf] [] := by
  (cases sf <;> try cases rsf)
  all_goals first | (simp [entryFrame, mkF, argsToLocals, Value.category]; done) | rfl
def Q_pci (Z : State) (i : Nat) (nn : Nat) (sf : Value) (h0 : Heap) (v : Option Value) (h : Heap) : Prop := v = some (.int (Int32.ofNat i)) ∧ h0 = h
set_option maxRecDepth 65536 in
set_option maxHeartbeats 40000000 in
theorem c_pci (l : Launch) (Z : State) (a0 : Array Value) (hw : ∀ d ∈ tables_1, d.before a0 Z = true) (i : Nat) (nn : Nat) (sf : Value) (h0 : Heap) (rsf : sf.isRef = true) (hi : i < nn) (hn : nn ≤ 8000) :
    Con l Z (⟨"jdk/internal/util/Preconditions", "checkIndex", "(IILjava/util/function/BiFunction;)I"⟩ : MethodName) jdk_41_method_11_code 3 (Option.some FieldType.int) [] ({ frames := 0, cells := 0, slots := 0, locals := 0 } : Room) #[(.int (Int32.ofNat i)), (.int (Int32.ofNat nn)), sf] h0 (Q_pci Z i nn sf h0) [] := by
  refine Con.of (plainFor_of_name pn_jdk_internal_util_Preconditions) ?_
  intro p e s m below meth c T0 B W0
  refine Go.cast (ef_pci m i nn sf rsf) ?_
  refine g_iload_n B W0 (d_jdk_41_method_11_0) rfl ?_
  refine g_if_n B W0 (d_jdk_41_method_11_1) (XT.i0_lt_f (own_nneg (by omega))) ?_
  show Go p.tables e below _ T0 (mkF m 4 #[.val (.int (Int32.ofNat i)), .val (.int (Int32.ofNat nn)), .val sf] [])
  refine g_iload_n B W0 (d_jdk_41_method_11_4) rfl ?_
  refine g_iload_n B W0 (d_jdk_41_method_11_5) rfl ?_
  refine g_icmp_y B W0 (d_jdk_41_method_11_6) (XT.ii_lt_t ((own_lt (by omega) (by omega)).mpr hi)) (pc' := 16) (by decide) ?_
  show Go p.tables e below _ T0 (mkF m 16 #[.val (.int (Int32.ofNat i)), .val (.int (Int32.ofNat nn)), .val sf] [])
  refine g_iload_n B W0 (d_jdk_41_method_11_16) rfl ?_
  exact r_i B W0 (d_jdk_41_method_11_17) (by decide) (by decide) ⟨rfl, rfl⟩
theorem ef_sci (m : MethodId) (i : Nat) (nn : Nat) (sf : Value) : entryFrame m #[(.int (Int32.ofNat i)), (.int (Int32.ofNat nn))] 2 = mkF m 0 #[.val (.int (Int32.ofNat i)), .val (.int (Int32.ofNat nn))] [] := by first | (simp [entryFrame, mkF, argsToLocals, Value.category]; done) | rfl
def Q_sci (Z : State) (i : Nat) (nn : Nat) (sf : Value) (h0 : Heap) (v : Option Value) (h : Heap) : Prop := v = none ∧ h0 = h
set_option maxRecDepth 65536 in
set_option maxHeartbeats 40000000 in
theorem c_sci (l : Launch) (Z : State) (a0 : Array Value) (hw : ∀ d ∈ tables_1, d.before a0 Z = true) (i : Nat) (nn : Nat) (sf : Value) (h0 : Heap) (Ssf : Sta Z Z.heap "jdk/internal/util/Preconditions" "SIOOBE_FORMATTER" "Ljava/util/function/BiFunction;" sf) (rsf : sf.isRef = true) (hi : i < nn) (hn : nn ≤ 8000) :
    Con l Z (⟨"java/lang/String", "checkIndex", "(II)V"⟩ : MethodName) jdk_42_method_155_code 2 (Option.none : Option FieldType) [] ({ frames := 1, cells := 0, slots := 0, locals := 14 } : Room) #[(.int (Int32.ofNat i)), (.int (Int32.ofNat nn))] h0 (Q_sci Z i nn sf h0) [] := by
  refine Con.of (plainFor_of_name pn_java_lang_String) ?_
  intro p e s m below meth c T0 B W0
  refine Go.cast (ef_sci m i nn sf ) ?_
  refine g_iload_n B W0 (d_jdk_42_method_155_0) rfl ?_
  refine g_iload_n B W0 (d_jdk_42_method_155_1) rfl ?_
  obtain ⟨T101, W101, st101⟩ := x_gets B W0 (host := "") (d_jdk_42_method_155_2) (Or.inl (tw hw 65 rfl)) Via.refl Ssf #[.val (.int (Int32.ofNat i)), .val (.int (Int32.ofNat nn))] [(.int (Int32.ofNat nn)), (.int (Int32.ofNat i))]
  refine st101 _ ?_
  obtain ⟨T102, h102, v102, W102, Q102, st102⟩ := x_static B W101 [(.int (Int32.ofNat i)), (.int (Int32.ofNat nn)), sf] (c_pci l Z a0 hw i nn sf h0 rsf (by omega) (by omega)) (by simp) (d_jdk_42_method_155_5) (tw hw 67 rfl) (tw hw 68 rfl) (tw hw 66 rfl) (tw hw 69 rfl) (by decide) (lenOf pd__IILjava_util_function_BiFunction__I rfl) #[.val (.int (Int32.ofNat i)), .val (.int (Int32.ofNat nn))] [] rfl 0 rfl (by decide) (by decide) (by decide) (by decide)
  obtain ⟨rfl, rfl⟩ := Q102
  refine st102 _ ?_
  refine g_pop B W102 (d_jdk_42_method_155_8) rfl ?_
  exact r_v B W102 (d_jdk_42_method_155_9) (by decide) (by decide) ⟨rfl, rfl⟩
theorem ef_lca (m : MethodId) (t1 : Addr) (kb : ClassId) (nn : Nat) (ff : Nat → Int32) (i : Nat) (sf : Value) : entryFrame m #[(.ref t1), (.int (Int32.ofNat i))] 2 = mkF m 0 #[.val (.ref t1), .val (.int (Int32.ofNat i))] [] := by first | (simp [entryFrame, mkF, argsToLocals, Value.category]; done) | rfl
def Q_lca (Z : State) (t1 : Addr) (kb : ClassId) (nn : Nat) (ff : Nat → Int32) (i : Nat) (sf : Value) (h0 : Heap) (v : Option Value) (h : Heap) : Prop := v = some (.int (ff i)) ∧ h0 = h
set_option maxRecDepth 65536 in
set_option maxHeartbeats 40000000 in
theorem c_lca (l : Launch) (Z : State) (a0 : Array Value) (hw : ∀ d ∈ tables_1, d.before a0 Z = true) (t1 : Addr) (kb : ClassId) (nn : Nat) (ff : Nat → Int32) (i : Nat) (sf : Value) (h0 : Heap) (Ssf : Sta Z Z.heap "jdk/internal/util/Preconditions" "SIOOBE_FORMATTER" "Ljava/util/function/BiFunction;" sf) (rsf : sf.isRef = true) (A1 : Arv Z h0 t1 kb .byte (Int32.ofNat nn) (arl nn fun i => (ff i).toInt8.toInt32) (.int 0)) (rg : ¬ ff i < 0 ∧ ¬ 255 < ff i) (hi : i < nn) (hn : nn ≤ 4000) :
    Con l Z (⟨"java/lang/StringLatin1", "charAt", "([BI)C"⟩ : MethodName) jdk_43_method_2_code 2 (Option.some FieldType.char) [] ({ frames := 2, cells := 0, slots := 0, locals := 27 } : Room) #[(.ref t1), (.int (Int32.ofNat i))] h0 (Q_lca Z t1 kb nn ff i sf h0) [] := by
  refine Con.of (plainFor_of_name pn_java_lang_StringLatin1) ?_
  intro p e s m below meth c T0 B W0
  refine Go.cast (ef_lca m t1 kb nn ff i sf ) ?_
  refine g_iload_n B W0 (d_jdk_43_method_2_0) rfl ?_
  refine g_aload_n B W0 (d_jdk_43_method_2_1) rfl rfl ?_
  refine g_aalen B W0 (d_jdk_43_method_2_2) A1 ?_
  obtain ⟨T101, h101, v101, W101, Q101, st101⟩ := x_static B W0 [(.int (Int32.ofNat i)), (.int (Int32.ofNat nn))] (c_sci l Z a0 hw i nn sf h0 Ssf rsf (by omega) (by omega)) (by simp) (d_jdk_43_method_2_3) (tw hw 62 rfl) (tw hw 63 rfl) (tw hw 9 rfl) (tw hw 64 rfl) (by decide) (lenOf pd__II_V rfl) #[.val (.ref t1), .val (.int (Int32.ofNat i))] [] rfl 0 rfl (by decide) (by decide) (by decide) (by decide)
  obtain ⟨rfl, rfl⟩ := Q101
  refine st101 _ ?_
  refine g_aload_n B W101 (d_jdk_43_method_2_6) rfl rfl ?_
  refine g_iload_n B W101 (d_jdk_43_method_2_7) rfl ?_
  refine g_baload B W101 (d_jdk_43_method_2_8) A1 (own_ixok (i := i) (n := nn) (by omega) (by omega)) (arl_rd (i := i) (n := nn) (by omega) (by omega)) ?_
  show Go p.tables e below _ T101 (mkF m 9 #[.val (.ref t1), .val (.int (Int32.ofNat i))] [(.int (ff i).toInt8.toInt32)])
  refine g_sipush B W101 (d_jdk_43_method_2_9) (v := 255) (by decide) ?_
  refine g_iand B W101 (d_jdk_43_method_2_12)  ?_
  refine g_i2c B W101 (d_jdk_43_method_2_13)  ?_
  rw [own_b2c rg.1 rg.2]
  show Go p.tables e below _ T101 (mkF m 14 #[.val (.ref t1), .val (.int (Int32.ofNat i))] [(.int (ff i))])
  exact r_n B W101 (t := .char) rfl (by simp) (d_jdk_43_method_2_14) (by decide) (by decide) ⟨by rw [own_narc rg.1 (own_255 rg.2)], rfl⟩
theorem ef_ulen (m : MethodId) (t1 : Addr) (kb : ClassId) (nn : Nat) (ff : Nat → Int32) : entryFrame m #[(.ref t1)] 1 = mkF m 0 #[.val (.ref t1)] [] := by first | (simp [entryFrame, mkF, argsToLocals, Value.category]; done) | rfl
def Q_ulen (Z : State) (t1 : Addr) (kb : ClassId) (nn : Nat) (ff : Nat → Int32) (h0 : Heap) (v : Option Value) (h : Heap) : Prop := v = some (.int (Int32.ofNat nn)) ∧ h0 = h
set_option maxRecDepth 65536 in
set_option maxHeartbeats 40000000 in
theorem c_ulen (l : Launch) (Z : State) (a0 : Array Value) (hw : ∀ d ∈ tables_1, d.before a0 Z = true) (t1 : Addr) (kb : ClassId) (nn : Nat) (ff : Nat → Int32) (h0 : Heap) (A1 : Arv Z h0 t1 kb .byte (Int32.ofNat (2 * nn)) (arl (2 * nn) (wbf ff)) (.int 0)) (hn : nn ≤ 4000) :
    Con l Z (⟨"java/lang/StringUTF16", "length", "([B)I"⟩ : MethodName) jdk_52_method_6_code 1 (Option.some FieldType.int) [] ({ frames := 0, cells := 0, slots := 0, locals := 0 } : Room) #[(.ref t1)] h0 (Q_ulen Z t1 kb nn ff h0) [] := by
  refine Con.of (plainFor_of_name pn_java_lang_StringUTF16) ?_
  intro p e s m below meth c T0 B W0
  refine Go.cast (ef_ulen m t1 kb nn ff ) ?_
  refine g_aload_n B W0 (d_jdk_52_method_6_0) rfl rfl ?_
  refine g_aalen B W0 (d_jdk_52_method_6_1) A1 ?_
  refine g_iconst B W0 (d_jdk_52_method_6_2) (v := 1) (by decide) ?_
  refine g_ishr B W0 (d_jdk_52_method_6_3)  ?_
  rw [own_half (by omega)]
  show Go p.tables e below _ T0 (mkF m 4 #[.val (.ref t1)] [(.int (Int32.ofNat nn))])
  exact r_i B W0 (d_jdk_52_method_6_4) (by decide) (by decide) ⟨rfl, rfl⟩
theorem ef_uci (m : MethodId) (t1 : Addr) (kb : ClassId) (nn : Nat) (ff : Nat → Int32) (i : Nat) (sf : Value) : entryFrame m #[(.int (Int32.ofNat i)), (.ref t1)] 2 = mkF m 0 #[.val (.int (Int32.ofNat i)), .val (.ref t1)] [] := by first | (simp [entryFrame, mkF, argsToLocals, Value.category]; done) | rfl
def Q_uci (Z : State) (t1 : Addr) (kb : ClassId) (nn : Nat) (ff : Nat → Int32) (i : Nat) (sf : Value) (h0 : Heap) (v : Option Value) (h : Heap) : Prop := v = none ∧ h0 = h
set_option maxRecDepth 65536 in
set_option maxHeartbeats 40000000 in
theorem c_uci (l : Launch) (Z : State) (a0 : Array Value) (hw : ∀ d ∈ tables_1, d.before a0 Z = true) (t1 : Addr) (kb : ClassId) (nn : Nat) (ff : Nat → Int32) (i : Nat) (sf : Value) (h0 : Heap) (Ssf : Sta Z Z.heap "jdk/internal/util/Preconditions" "SIOOBE_FORMATTER" "Ljava/util/function/BiFunction;" sf) (rsf : sf.isRef = true) (A1 : Arv Z h0 t1 kb .byte (Int32.ofNat (2 * nn)) (arl (2 * nn) (wbf ff)) (.int 0)) (hi : i < nn) (hn : nn ≤ 4000) :
    Con l Z (⟨"java/lang/StringUTF16", "checkIndex", "(I[B)V"⟩ : MethodName) jdk_52_method_91_code 2 (Option.none : Option FieldType) [] ({ frames := 2, cells := 0, slots := 0, locals := 27 } : Room) #[(.int (Int32.ofNat i)), (.ref t1)] h0 (Q_uci Z t1 kb nn ff i sf h0) [] := by
  refine Con.of (plainFor_of_name pn_java_lang_StringUTF16) ?_
  intro p e s m below meth c T0 B W0
  refine Go.cast (ef_uci m t1 kb nn ff i sf ) ?_
  refine g_iload_n B W0 (d_jdk_52_method_91_0) rfl ?_
  refine g_aload_n B W0 (d_jdk_52_method_91_1) rfl rfl ?_
  obtain ⟨T101, h101, v101, W101, Q101, st101⟩ := x_static B W0 [(.ref t1)] (c_ulen l Z a0 hw t1 kb nn ff h0 A1 hn) (by simp) (d_jdk_52_method_91_2) (tw hw 106 rfl) (tw hw 107 rfl) (tw hw 72 rfl) (tw hw 108 rfl) (by decide) (lenOf pd___B_I rfl) #[.val (.int (Int32.ofNat i)), .val (.ref t1)] [(.int (Int32.ofNat i))] rfl 1 rfl (by decide) (by decide) (by decide) (by decide)
  obtain ⟨rfl, rfl⟩ := Q101
  refine st101 _ ?_
  obtain ⟨T102, h102, v102, W102, Q102, st102⟩ := x_static B W101 [(.int (Int32.ofNat i)), (.int (Int32.ofNat nn))] (c_sci l Z a0 hw i nn sf h0 Ssf rsf (by omega) (by omega)) (by simp) (d_jdk_52_method_91_5) (tw hw 109 rfl) (tw hw 63 rfl) (tw hw 9 rfl) (tw hw 64 rfl) (by decide) (lenOf pd__II_V rfl) #[.val (.int (Int32.ofNat i)), .val (.ref t1)] [] rfl 0 rfl (by decide) (by decide) (by decide) (by decide)
  obtain ⟨rfl, rfl⟩ := Q102
  refine st102 _ ?_
  exact r_v B W102 (d_jdk_52_method_91_8) (by decide) (by decide) ⟨rfl, rfl⟩
theorem ef_uca (m : MethodId) (t1 : Addr) (kb : ClassId) (nn : Nat) (ff : Nat → Int32) (i : Nat) (sf : Value) : entryFrame m #[(.ref t1), (.int (Int32.ofNat i))] 2 = mkF m 0 #[.val (.ref t1), .val (.int (Int32.ofNat i))] [] := by first | (simp [entryFrame, mkF, argsToLocals, Value.category]; done) | rfl
def Q_uca (Z : State) (t1 : Addr) (kb : ClassId) (nn : Nat) (ff : Nat → Int32) (i : Nat) (sf : Value) (h0 : Heap) (v : Option Value) (h : Heap) : Prop := v = some (.int (ff i)) ∧ h0 = h
set_option maxRecDepth 65536 in
set_option maxHeartbeats 40000000 in
theorem c_uca (l : Launch) (Z : State) (a0 : Array Value) (hw : ∀ d ∈ tables_1, d.before a0 Z = true) (t1 : Addr) (kb : ClassId) (nn : Nat) (ff : Nat → Int32) (i : Nat) (sf : Value) (h0 : Heap) (Ssf : Sta Z Z.heap "jdk/internal/util/Preconditions" "SIOOBE_FORMATTER" "Ljava/util/function/BiFunction;" sf) (rsf : sf.isRef = true) (Sad : Sta Z Z.heap "java/lang/StringUTF16" "$assertionsDisabled" "Z" (.int 1)) (Shi : Sta Z Z.heap "java/lang/StringUTF16" "HI_BYTE_SHIFT" "I" (.int 0)) (Slo : Sta Z Z.heap "java/lang/StringUTF16" "LO_BYTE_SHIFT" "I" (.int 8)) (A1 : Arv Z h0 t1 kb .byte (Int32.ofNat (2 * nn)) (arl (2 * nn) (wbf ff)) (.int 0)) (hi : i < nn) (hn : nn ≤ 4000) (rf : ∀ i, i < nn → ¬ ff i < 0 ∧ ¬ 65535 < ff i) :
    Con l Z (⟨"java/lang/StringUTF16", "charAt", "([BI)C"⟩ : MethodName) jdk_52_method_83_code 2 (Option.some FieldType.char) [] ({ frames := 3, cells := 0, slots := 0, locals := 40 } : Room) #[(.ref t1), (.int (Int32.ofNat i))] h0 (Q_uca Z t1 kb nn ff i sf h0) [] := by
  refine Con.of (plainFor_of_name pn_java_lang_StringUTF16) ?_
  intro p e s m below meth c T0 B W0
  refine Go.cast (ef_uca m t1 kb nn ff i sf ) ?_
  refine g_iload_n B W0 (d_jdk_52_method_83_0) rfl ?_
  refine g_aload_n B W0 (d_jdk_52_method_83_1) rfl rfl ?_
  obtain ⟨T101, h101, v101, W101, Q101, st101⟩ := x_static B W0 [(.int (Int32.ofNat i)), (.ref t1)] (c_uci l Z a0 hw t1 kb nn ff i sf h0 Ssf rsf A1 hi hn) (by simp) (d_jdk_52_method_83_2) (tw hw 103 rfl) (tw hw 104 rfl) (tw hw 72 rfl) (tw hw 105 rfl) (by decide) (lenOf pd__I_B_V rfl) #[.val (.ref t1), .val (.int (Int32.ofNat i))] [] rfl 0 rfl (by decide) (by decide) (by decide) (by decide)
  obtain ⟨rfl, rfl⟩ := Q101
  refine st101 _ ?_
  refine g_aload_n B W101 (d_jdk_52_method_83_5) rfl rfl ?_
  refine g_iload_n B W101 (d_jdk_52_method_83_6) rfl ?_
  obtain ⟨T102, h102, v102, W102, Q102, st102⟩ := x_static B W101 [(.ref t1), (.int (Int32.ofNat i))] (c_getc l Z a0 hw t1 kb nn ff i h0 Sad Shi Slo A1 (by omega) (by omega) (rf _ (by omega))) (by simp) (d_jdk_52_method_83_7) (tw hw 97 rfl) (tw hw 98 rfl) (tw hw 72 rfl) (tw hw 99 rfl) (by decide) (lenOf pd___BI_C rfl) #[.val (.ref t1), .val (.int (Int32.ofNat i))] [] rfl 0 rfl (by decide) (by decide) (by decide) (by decide)
  obtain ⟨rfl, rfl⟩ := Q102
  refine st102 _ ?_
  exact r_n B W102 (t := .char) rfl (by simp) (d_jdk_52_method_83_10) (by decide) (by decide) ⟨by rw [own_narc (rf i hi).1 (rf i hi).2], rfl⟩
theorem ef_catC (m : MethodId) (a1 : Addr) (nn : Nat) (ff : Nat → Int32) (i : Nat) (cz : Int32) (sf : Value) : entryFrame m #[(.ref a1), (.int (Int32.ofNat i))] 2 = mkF m 0 #[.val (.ref a1), .val (.int (Int32.ofNat i))] [] := by first | (simp [entryFrame, mkF, argsToLocals, Value.category]; done) | rfl
def Q_catC (Z : State) (a1 : Addr) (nn : Nat) (ff : Nat → Int32) (i : Nat) (cz : Int32) (sf : Value) (h0 : Heap) (v : Option Value) (h : Heap) : Prop := v = some (.int (ff i)) ∧ h0 = h
set_option maxRecDepth 65536 in
set_option maxHeartbeats 40000000 in
theorem c_catC (l : Launch) (Z : State) (a0 : Array Value) (hw : ∀ d ∈ tables_1, d.before a0 Z = true) (a1 : Addr) (nn : Nat) (ff : Nat → Int32) (i : Nat) (cz : Int32) (sf : Value) (h0 : Heap) (Scs : Sta Z Z.heap "java/lang/String" "COMPACT_STRINGS" "Z" (.int cz)) (hcz : ¬ cz = 0) (Ssf : Sta Z Z.heap "jdk/internal/util/Preconditions" "SIOOBE_FORMATTER" "Ljava/util/function/BiFunction;" sf) (rsf : sf.isRef = true) (Sad : Sta Z Z.heap "java/lang/StringUTF16" "$assertionsDisabled" "Z" (.int 1)) (Shi : Sta Z Z.heap "java/lang/StringUTF16" "HI_BYTE_SHIFT" "I" (.int 0)) (Slo : Sta Z Z.heap "java/lang/StringUTF16" "LO_BYTE_SHIFT" "I" (.int 8)) (S1 : StrC Z h0 a1 nn ff) (hi : i < nn) :
    Con l Z (⟨"java/lang/String", "charAt", "(I)C"⟩ : MethodName) jdk_42_method_56_code 2 (Option.some FieldType.char) [] ({ frames := 4, cells := 0, slots := 0, locals := 53 } : Room) #[(.ref a1), (.int (Int32.ofNat i))] h0 (Q_catC Z a1 nn ff i cz sf h0) [] := by
  refine Con.of (plainFor_of_name pn_java_lang_String) ?_
  intro p e s m below meth c T0 B W0
  refine Go.cast (ef_catC m a1 nn ff i cz sf ) ?_
  obtain ⟨t1, kb1, E_a1, Fv_a1, D_a1, rf, L_a1⟩ := S1
  rcases D_a1 with ⟨Fc_a1, hlat, A_t1⟩ | ⟨Fc_a1, h1n, A_t1⟩
  · skip
    have l_t1 := nlt A_t1.lt
    refine g_aload_n B W0 (d_jdk_42_method_56_0) rfl rfl ?_
    obtain ⟨T101, h101, v101, W101, Q101, st101⟩ := x_virtual B W0 (b := a1) [] (c_isLat0 l Z a0 hw a1 cz h0 Scs hcz Fc_a1) (by simp) E_a1 (d_jdk_42_method_56_1) (tw hw 53 rfl) (tw hw 54 rfl) (tw hw 56 rfl) (tw hw 55 rfl) (tw hw 9 rfl) (tw hw 57 rfl) (by decide) (lenOf pd___Z rfl) #[.val (.ref a1), .val (.int (Int32.ofNat i))] [] rfl 0 rfl (by decide) (by decide) (by decide) (by decide)
    obtain ⟨rfl, rfl⟩ := Q101
    refine st101 _ ?_
    show Go p.tables e below _ T101 (mkF m 4 #[.val (.ref a1), .val (.int (Int32.ofNat i))] [(.int 1)])
    refine g_if_n B W101 (d_jdk_42_method_56_4) (XT.i0_eq_f (by decide)) ?_
    show Go p.tables e below _ T101 (mkF m 7 #[.val (.ref a1), .val (.int (Int32.ofNat i))] [])
    refine g_aload_n B W101 (d_jdk_42_method_56_7) rfl rfl ?_
    obtain ⟨T102, W102, st102⟩ := x_get B W101 (host := "") (d_jdk_42_method_56_8) (Or.inl (tw hw 29 rfl)) Via.refl Fv_a1 #[.val (.ref a1), .val (.int (Int32.ofNat i))] []
    refine st102 _ ?_
    refine g_iload_n B W102 (d_jdk_42_method_56_11) rfl ?_
    obtain ⟨T103, h103, v103, W103, Q103, st103⟩ := x_static B W102 [(.ref t1), (.int (Int32.ofNat i))] (c_lca l Z a0 hw t1 kb1 nn ff i sf h0 Ssf rsf A_t1 ⟨(rf i hi).1, hlat i hi⟩ hi L_a1) (by simp) (d_jdk_42_method_56_12) (tw hw 58 rfl) (tw hw 59 rfl) (tw hw 60 rfl) (tw hw 61 rfl) (by decide) (lenOf pd___BI_C rfl) #[.val (.ref a1), .val (.int (Int32.ofNat i))] [] rfl 0 rfl (by decide) (by decide) (by decide) (by decide)
    obtain ⟨rfl, rfl⟩ := Q103
    refine st103 _ ?_
    exact r_n B W103 (t := .char) rfl (by simp) (d_jdk_42_method_56_15) (by decide) (by decide) ⟨by rw [own_narc (rf i hi).1 (rf i hi).2], rfl⟩
  · skip
    have l_t1 := nlt A_t1.lt
    refine g_aload_n B W0 (d_jdk_42_method_56_0) rfl rfl ?_
    obtain ⟨T104, h104, v104, W104, Q104, st104⟩ := x_virtual B W0 (b := a1) [] (c_isLat1 l Z a0 hw a1 cz h0 Scs hcz Fc_a1) (by simp) E_a1 (d_jdk_42_method_56_1) (tw hw 53 rfl) (tw hw 54 rfl) (tw hw 56 rfl) (tw hw 55 rfl) (tw hw 9 rfl) (tw hw 57 rfl) (by decide) (lenOf pd___Z rfl) #[.val (.ref a1), .val (.int (Int32.ofNat i))] [] rfl 0 rfl (by decide) (by decide) (by decide) (by decide)
    obtain ⟨rfl, rfl⟩ := Q104
    refine st104 _ ?_
    show Go p.tables e below _ T104 (mkF m 4 #[.val (.ref a1), .val (.int (Int32.ofNat i))] [(.int 0)])
    refine g_if_y B W104 (d_jdk_42_method_56_4) (XT.i0_eq_t (by decide)) (pc' := 16) (by decide) ?_
    show Go p.tables e below _ T104 (mkF m 16 #[.val (.ref a1), .val (.int (Int32.ofNat i))] [])
    refine g_aload_n B W104 (d_jdk_42_method_56_16) rfl rfl ?_
    obtain ⟨T105, W105, st105⟩ := x_get B W104 (host := "") (d_jdk_42_method_56_17) (Or.inl (tw hw 29 rfl)) Via.refl Fv_a1 #[.val (.ref a1), .val (.int (Int32.ofNat i))] []
    refine st105 _ ?_
    refine g_iload_n B W105 (d_jdk_42_method_56_20) rfl ?_
    obtain ⟨T106, h106, v106, W106, Q106, st106⟩ := x_static B W105 [(.ref t1), (.int (Int32.ofNat i))] (c_uca l Z a0 hw t1 kb1 nn ff i sf h0 Ssf rsf Sad Shi Slo A_t1 hi L_a1 rf) (by simp) (d_jdk_42_method_56_21) (tw hw 100 rfl) (tw hw 101 rfl) (tw hw 72 rfl) (tw hw 102 rfl) (by decide) (lenOf pd___BI_C rfl) #[.val (.ref a1), .val (.int (Int32.ofNat i))] [] rfl 0 rfl (by decide) (by decide) (by decide) (by decide)
    obtain ⟨rfl, rfl⟩ := Q106
    refine st106 _ ?_
    exact r_n B W106 (t := .char) rfl (by simp) (d_jdk_42_method_56_24) (by decide) (by decide) ⟨by rw [own_narc (rf i hi).1 (rf i hi).2], rfl⟩
theorem ef_ipp (m : MethodId) (a1 : Addr) (nn : Nat) (ff : Nat → Int32) (cz : Int32) (sf : Value) : entryFrame m #[(.ref a1)] 6 = mkF m 0 #[.val (.ref a1), .unset, .unset, .unset, .unset, .unset] [] := by first | (simp [entryFrame, mkF, argsToLocals, Value.category]; done) | rfl
def Q_ipp (Z : State) (a1 : Addr) (nn : Nat) (ff : Nat → Int32) (cz : Int32) (sf : Value) (h0 : Heap) (v : Option Value) (h : Heap) : Prop := v = some (.int (bi (pg nn ff))) ∧ h0 = h
set_option maxRecDepth 65536 in
set_option maxHeartbeats 40000000 in
theorem c_ipp (l : Launch) (Z : State) (a0 : Array Value) (hw : ∀ d ∈ tables_1, d.before a0 Z = true) (a1 : Addr) (nn : Nat) (ff : Nat → Int32) (cz : Int32) (sf : Value) (h0 : Heap) (Scs : Sta Z Z.heap "java/lang/String" "COMPACT_STRINGS" "Z" (.int cz)) (hcz : ¬ cz = 0) (Ssf : Sta Z Z.heap "jdk/internal/util/Preconditions" "SIOOBE_FORMATTER" "Ljava/util/function/BiFunction;" sf) (rsf : sf.isRef = true) (Sad : Sta Z Z.heap "java/lang/StringUTF16" "$assertionsDisabled" "Z" (.int 1)) (Shi : Sta Z Z.heap "java/lang/StringUTF16" "HI_BYTE_SHIFT" "I" (.int 0)) (Slo : Sta Z Z.heap "java/lang/StringUTF16" "LO_BYTE_SHIFT" "I" (.int 8)) (S1 : StrC Z h0 a1 nn ff) (hn : nn ≤ 4000) :
    Con l Z (⟨"com/example/presswright/presswright/publishing/PagePath", "isPagePath", "(Ljava/lang/String;)Z"⟩ : MethodName) prog_11_method_2_code 6 (Option.some FieldType.boolean) [] ({ frames := 5, cells := 0, slots := 0, locals := 66 } : Room) #[(.ref a1)] h0 (Q_ipp Z a1 nn ff cz sf h0) [] := by
  refine Con.of (plainFor_of_name pn_com_example_presswright_presswright_publishing_PagePath) ?_
  intro p e s m below meth c T0 B W0
  refine Go.cast (ef_ipp m a1 nn ff cz sf ) ?_
  have E_a1 := S1.exa
  by_cases hz : nn = 0
  · subst hz
    refine g_aload_n B W0 (d_prog_11_method_2_0) rfl rfl ?_
    obtain ⟨T101, h101, v101, W101, Q101, st101⟩ := x_virtual B W0 (b := a1) [] (c_lenC l Z a0 hw a1 0 ff cz h0 Scs hcz S1) (by simp) E_a1 (d_prog_11_method_2_1) (tw hw 47 rfl) (tw hw 33 rfl) (tw hw 35 rfl) (tw hw 34 rfl) (tw hw 9 rfl) (tw hw 36 rfl) (by decide) (lenOf pd___I rfl) #[.val (.ref a1), .unset, .unset, .unset, .unset, .unset] [] rfl 0 rfl (by decide) (by decide) (by decide) (by decide)
    obtain ⟨rfl, rfl⟩ := Q101
    refine st101 _ ?_
    show Go p.tables e below _ T101 (mkF m 4 #[.val (.ref a1), .unset, .unset, .unset, .unset, .unset] [(.int 0)])
    refine g_iconst B W101 (d_prog_11_method_2_4) (v := 1) (by decide) ?_
    refine g_isub B W101 (d_prog_11_method_2_5)  ?_
    refine g_istore_n B W101 (d_prog_11_method_2_6)  (l' := #[.val (.ref a1), .val (.int (0 - 1)), .unset, .unset, .unset, .unset]) rfl ?_
    refine g_iload_n B W101 (d_prog_11_method_2_7) rfl ?_
    refine g_if_y B W101 (d_prog_11_method_2_8) (XT.i0_lt_t (by decide)) (pc' := 31) (by decide) ?_
    show Go p.tables e below _ T101 (mkF m 31 #[.val (.ref a1), .val (.int (0 - 1)), .unset, .unset, .unset, .unset] [])
    refine g_iconst B W101 (d_prog_11_method_2_31) (v := 0) (by decide) ?_
    exact r_n B W101 (t := .boolean) rfl (by simp) (d_prog_11_method_2_32) (by decide) (by decide) ⟨by rw [nar_b0]; rfl, rfl⟩
  refine g_aload_n B W0 (d_prog_11_method_2_0) rfl rfl ?_
  obtain ⟨T102, h102, v102, W102, Q102, st102⟩ := x_virtual B W0 (b := a1) [] (c_lenC l Z a0 hw a1 nn ff cz h0 Scs hcz S1) (by simp) E_a1 (d_prog_11_method_2_1) (tw hw 47 rfl) (tw hw 33 rfl) (tw hw 35 rfl) (tw hw 34 rfl) (tw hw 9 rfl) (tw hw 36 rfl) (by decide) (lenOf pd___I rfl) #[.val (.ref a1), .unset, .unset, .unset, .unset, .unset] [] rfl 0 rfl (by decide) (by decide) (by decide) (by decide)
  obtain ⟨rfl, rfl⟩ := Q102
  refine st102 _ ?_
  refine g_iconst B W102 (d_prog_11_method_2_4) (v := 1) (by decide) ?_
  refine g_isub B W102 (d_prog_11_method_2_5)  ?_
  rw [own_dec (i := nn) (by omega)]
  show Go p.tables e below _ T102 (mkF m 6 #[.val (.ref a1), .unset, .unset, .unset, .unset, .unset] [(.int (Int32.ofNat (nn - 1)))])
  refine g_istore_n B W102 (d_prog_11_method_2_6)  (l' := #[.val (.ref a1), .val (.int (Int32.ofNat (nn - 1))), .unset, .unset, .unset, .unset]) rfl ?_
  refine g_iload_n B W102 (d_prog_11_method_2_7) rfl ?_
  refine g_if_n B W102 (d_prog_11_method_2_8) (XT.i0_lt_f (own_nneg (by omega))) ?_
  show Go p.tables e below _ T102 (mkF m 11 #[.val (.ref a1), .val (.int (Int32.ofNat (nn - 1))), .unset, .unset, .unset, .unset] [])
  refine g_aload_n B W102 (d_prog_11_method_2_11) rfl rfl ?_
  refine g_iconst B W102 (d_prog_11_method_2_12) (v := 0) (by decide) ?_
  obtain ⟨T103, h103, v103, W103, Q103, st103⟩ := x_virtual B W102 (b := a1) [(.int 0)] (c_catC l Z a0 hw a1 nn ff 0 cz sf h0 Scs hcz Ssf rsf Sad Shi Slo S1 (by omega)) (by simp) E_a1 (d_prog_11_method_2_13) (tw hw 48 rfl) (tw hw 49 rfl) (tw hw 51 rfl) (tw hw 50 rfl) (tw hw 9 rfl) (tw hw 52 rfl) (by decide) (lenOf pd__I_C rfl) #[.val (.ref a1), .val (.int (Int32.ofNat (nn - 1))), .unset, .unset, .unset, .unset] [] rfl 0 rfl (by decide) (by decide) (by decide) (by decide)
  obtain ⟨rfl, rfl⟩ := Q103
  refine st103 _ ?_
  refine g_bipush B W103 (d_prog_11_method_2_16) (v := 47) (by decide) ?_
  by_cases hc104 : (ff 0) = 47
  · skip
    refine g_icmp_n B W103 (d_prog_11_method_2_18) (XT.ii_ne_f hc104) ?_
    show Go p.tables e below _ T103 (mkF m 21 #[.val (.ref a1), .val (.int (Int32.ofNat (nn - 1))), .unset, .unset, .unset, .unset] [])
    refine g_aload_n B W103 (d_prog_11_method_2_21) rfl rfl ?_
    refine g_iload_n B W103 (d_prog_11_method_2_22) rfl ?_
    obtain ⟨T105, h105, v105, W105, Q105, st105⟩ := x_virtual B W103 (b := a1) [(.int (Int32.ofNat (nn - 1)))] (c_catC l Z a0 hw a1 nn ff ((nn - 1)) cz sf h0 Scs hcz Ssf rsf Sad Shi Slo S1 (by omega)) (by simp) E_a1 (d_prog_11_method_2_23) (tw hw 48 rfl) (tw hw 49 rfl) (tw hw 51 rfl) (tw hw 50 rfl) (tw hw 9 rfl) (tw hw 52 rfl) (by decide) (lenOf pd__I_C rfl) #[.val (.ref a1), .val (.int (Int32.ofNat (nn - 1))), .unset, .unset, .unset, .unset] [] rfl 0 rfl (by decide) (by decide) (by decide) (by decide)
    obtain ⟨rfl, rfl⟩ := Q105
    refine st105 _ ?_
    refine g_bipush B W105 (d_prog_11_method_2_26) (v := 47) (by decide) ?_
    by_cases hc106 : (ff ((nn - 1))) = 47
    · skip
      refine g_icmp_y B W105 (d_prog_11_method_2_28) (XT.ii_eq_t hc106) (pc' := 33) (by decide) ?_
      show Go p.tables e below _ T105 (mkF m 33 #[.val (.ref a1), .val (.int (Int32.ofNat (nn - 1))), .unset, .unset, .unset, .unset] [])
      refine g_iconst B W105 (d_prog_11_method_2_33) (v := 1) (by decide) ?_
      refine g_istore_n B W105 (d_prog_11_method_2_34)  (l' := #[.val (.ref a1), .val (.int (Int32.ofNat (nn - 1))), .val (.int 1), .unset, .unset, .unset]) rfl ?_
      refine g_iconst B W105 (d_prog_11_method_2_35) (v := 1) (by decide) ?_
      refine g_istore_n B W105 (d_prog_11_method_2_36)  (l' := #[.val (.ref a1), .val (.int (Int32.ofNat (nn - 1))), .val (.int 1), .val (.int 1), .unset, .unset]) rfl ?_
      have hst : pg nn ff = bl ff (nn - 1) 1 1 := by unfold pg; rw [if_neg hz, if_pos hc104, if_pos hc106]
      have loop : ∀ (r : Nat) (i : Nat) (sg : Nat) (s4 : Slot) (s5 : Slot) (T : State), (s4 = .unset ∨ ∃ w, s4 = .val w ∧ w.category = 1) → (s5 = .unset ∨ ∃ w, s5 = .val w ∧ w.category = 1) → (i + r = nn) → (1 ≤ i ∧ sg ≤ i) → (pg nn ff = bl ff r i sg) → Wk p l e ({ frames := 5, cells := 0, slots := 0, locals := 66 } : Room) s m #[(.ref a1)] below meth c Z T h0 0 0 [] → Go p.tables e below (Jvm.OwnK.Out Z s (Q_ipp Z a1 nn ff cz sf h0) ({ frames := 5, cells := 0, slots := 0, locals := 66 } : Room).cells ({ frames := 5, cells := 0, slots := 0, locals := 66 } : Room).slots) T (mkF m 37 #[.val (.ref a1), .val (.int (Int32.ofNat (nn - 1))), .val (.int (Int32.ofNat sg)), .val (.int (Int32.ofNat i)), s4, s5] []) := by
        intro r; induction r with
        | zero =>
          intro i sg s4 s5 T hx4 hx5 hr hsg hacc W
          refine g_iload_n B W (d_prog_11_method_2_37) rfl ?_
          refine g_iload_n B W (d_prog_11_method_2_38) rfl ?_
          refine g_icmp_y B W (d_prog_11_method_2_39) (XT.ii_gt_t (by rw [own_lt (by omega) (by omega)]; omega)) (pc' := 126) (by decide) ?_
          show Go p.tables e below _ T (mkF m 126 #[.val (.ref a1), .val (.int (Int32.ofNat (nn - 1))), .val (.int (Int32.ofNat sg)), .val (.int (Int32.ofNat i)), s4, s5] [])
          refine g_iconst B W (d_prog_11_method_2_126) (v := 1) (by decide) ?_
          exact r_n B W (t := .boolean) rfl (by simp) (d_prog_11_method_2_127) (by decide) (by decide) ⟨by rw [nar_b1, hacc]; rfl, rfl⟩
        | succ r ih =>
          intro i sg s4 s5 T hx4 hx5 hr hsg hacc W
          have hil : i < nn := by omega
          have hst : pg nn ff = if ff i = 47 then (if i - sg = 0 ∨ 255 < i - sg then false else bl ff r (i + 1) (i + 1)) else if legalB (ff i) = true then bl ff r (i + 1) sg else false := hacc
          refine g_iload_n B W (d_prog_11_method_2_37) rfl ?_
          refine g_iload_n B W (d_prog_11_method_2_38) rfl ?_
          refine g_icmp_n B W (d_prog_11_method_2_39) (XT.ii_gt_f (by rw [own_lt (by omega) (by omega)]; omega)) ?_
          show Go p.tables e below _ T (mkF m 42 #[.val (.ref a1), .val (.int (Int32.ofNat (nn - 1))), .val (.int (Int32.ofNat sg)), .val (.int (Int32.ofNat i)), s4, s5] [])
          refine g_aload_n B W (d_prog_11_method_2_42) rfl rfl ?_
          refine g_iload_n B W (d_prog_11_method_2_43) rfl ?_
          obtain ⟨T107, h107, v107, W107, Q107, st107⟩ := x_virtual B W (b := a1) [(.int (Int32.ofNat i))] (c_catC l Z a0 hw a1 nn ff i cz sf h0 Scs hcz Ssf rsf Sad Shi Slo S1 hil) (by simp) E_a1 (d_prog_11_method_2_44) (tw hw 48 rfl) (tw hw 49 rfl) (tw hw 51 rfl) (tw hw 50 rfl) (tw hw 9 rfl) (tw hw 52 rfl) (by decide) (lenOf pd__I_C rfl) #[.val (.ref a1), .val (.int (Int32.ofNat (nn - 1))), .val (.int (Int32.ofNat sg)), .val (.int (Int32.ofNat i)), s4, s5] [] rfl 0 rfl (by decide) (by decide) (by decide) (by decide)
          obtain ⟨rfl, rfl⟩ := Q107
          refine st107 _ ?_
          refine g_istore B W107 (d_prog_11_method_2_47)  (l' := #[.val (.ref a1), .val (.int (Int32.ofNat (nn - 1))), .val (.int (Int32.ofNat sg)), .val (.int (Int32.ofNat i)), .val (.int (ff i)), s5]) (XS.store1 rfl hx4 rfl) ?_
          refine g_iload B W107 (d_prog_11_method_2_49) rfl ?_
          refine g_bipush B W107 (d_prog_11_method_2_51) (v := 47) (by decide) ?_
          by_cases hc108 : (ff i) = 47
          · skip
            refine g_icmp_n B W107 (d_prog_11_method_2_53) (XT.ii_ne_f hc108) ?_
            show Go p.tables e below _ T107 (mkF m 56 #[.val (.ref a1), .val (.int (Int32.ofNat (nn - 1))), .val (.int (Int32.ofNat sg)), .val (.int (Int32.ofNat i)), .val (.int (ff i)), s5] [])
            refine g_iload_n B W107 (d_prog_11_method_2_56) rfl ?_
            refine g_iload_n B W107 (d_prog_11_method_2_57) rfl ?_
            refine g_isub B W107 (d_prog_11_method_2_58)  ?_
            show Go p.tables e below _ T107 (mkF m 59 #[.val (.ref a1), .val (.int (Int32.ofNat (nn - 1))), .val (.int (Int32.ofNat sg)), .val (.int (Int32.ofNat i)), .val (.int (ff i)), s5] [(.int (Int32.ofNat i - Int32.ofNat sg))])
            rw [own_sub (i := i) (j := sg) (by omega)]
            show Go p.tables e below _ T107 (mkF m 59 #[.val (.ref a1), .val (.int (Int32.ofNat (nn - 1))), .val (.int (Int32.ofNat sg)), .val (.int (Int32.ofNat i)), .val (.int (ff i)), s5] [(.int (Int32.ofNat (i - sg)))])
            refine g_istore B W107 (d_prog_11_method_2_59)  (l' := #[.val (.ref a1), .val (.int (Int32.ofNat (nn - 1))), .val (.int (Int32.ofNat sg)), .val (.int (Int32.ofNat i)), .val (.int (ff i)), .val (.int (Int32.ofNat (i - sg)))]) (XS.store1 rfl hx5 rfl) ?_
            refine g_iload B W107 (d_prog_11_method_2_61) rfl ?_
            by_cases hc109 : (Int32.ofNat (i - sg)) = 0
            · skip
              refine g_if_y B W107 (d_prog_11_method_2_63) (XT.i0_eq_t hc109) (pc' := 74) (by decide) ?_
              show Go p.tables e below _ T107 (mkF m 74 #[.val (.ref a1), .val (.int (Int32.ofNat (nn - 1))), .val (.int (Int32.ofNat sg)), .val (.int (Int32.ofNat i)), .val (.int (ff i)), .val (.int (Int32.ofNat (i - sg)))] [])
              refine g_iconst B W107 (d_prog_11_method_2_74) (v := 0) (by decide) ?_
              exact r_n B W107 (t := .boolean) rfl (by simp) (d_prog_11_method_2_75) (by decide) (by decide) ⟨by rw [nar_b0, hst, if_pos hc108, if_pos (Or.inl ((own_inj (j := 0) (by omega) (by omega)).mp hc109))]; rfl, rfl⟩
            · skip
              refine g_if_n B W107 (d_prog_11_method_2_63) (XT.i0_eq_f hc109) ?_
              show Go p.tables e below _ T107 (mkF m 66 #[.val (.ref a1), .val (.int (Int32.ofNat (nn - 1))), .val (.int (Int32.ofNat sg)), .val (.int (Int32.ofNat i)), .val (.int (ff i)), .val (.int (Int32.ofNat (i - sg)))] [])
              refine g_iload B W107 (d_prog_11_method_2_66) rfl ?_
              refine g_sipush B W107 (d_prog_11_method_2_68) (v := 255) (by decide) ?_
              by_cases hc110 : 255 < (Int32.ofNat (i - sg))
              · skip
                refine g_icmp_n B W107 (d_prog_11_method_2_71) (XT.ii_le_f hc110) ?_
                show Go p.tables e below _ T107 (mkF m 74 #[.val (.ref a1), .val (.int (Int32.ofNat (nn - 1))), .val (.int (Int32.ofNat sg)), .val (.int (Int32.ofNat i)), .val (.int (ff i)), .val (.int (Int32.ofNat (i - sg)))] [])
                refine g_iconst B W107 (d_prog_11_method_2_74) (v := 0) (by decide) ?_
                exact r_n B W107 (t := .boolean) rfl (by simp) (d_prog_11_method_2_75) (by decide) (by decide) ⟨by rw [nar_b0, hst, if_pos hc108, if_pos (Or.inr (by have q := hc110; rw [show (255 : Int32) = Int32.ofNat 255 from rfl, own_lt (by omega) (by omega)] at q; exact q))]; rfl, rfl⟩
              · skip
                refine g_icmp_y B W107 (d_prog_11_method_2_71) (XT.ii_le_t hc110) (pc' := 76) (by decide) ?_
                show Go p.tables e below _ T107 (mkF m 76 #[.val (.ref a1), .val (.int (Int32.ofNat (nn - 1))), .val (.int (Int32.ofNat sg)), .val (.int (Int32.ofNat i)), .val (.int (ff i)), .val (.int (Int32.ofNat (i - sg)))] [])
                refine g_iload_n B W107 (d_prog_11_method_2_76) rfl ?_
                refine g_iconst B W107 (d_prog_11_method_2_77) (v := 1) (by decide) ?_
                refine g_iadd B W107 (d_prog_11_method_2_78)  ?_
                rw [own_inc]
                show Go p.tables e below _ T107 (mkF m 79 #[.val (.ref a1), .val (.int (Int32.ofNat (nn - 1))), .val (.int (Int32.ofNat sg)), .val (.int (Int32.ofNat i)), .val (.int (ff i)), .val (.int (Int32.ofNat (i - sg)))] [(.int (Int32.ofNat (i + 1)))])
                refine g_istore_n B W107 (d_prog_11_method_2_79)  (l' := #[.val (.ref a1), .val (.int (Int32.ofNat (nn - 1))), .val (.int (Int32.ofNat (i + 1))), .val (.int (Int32.ofNat i)), .val (.int (ff i)), .val (.int (Int32.ofNat (i - sg)))]) rfl ?_
                refine g_goto B W107 (d_prog_11_method_2_80) (pc' := 120) (by decide) ?_
                show Go p.tables e below _ T107 (mkF m 120 #[.val (.ref a1), .val (.int (Int32.ofNat (nn - 1))), .val (.int (Int32.ofNat (i + 1))), .val (.int (Int32.ofNat i)), .val (.int (ff i)), .val (.int (Int32.ofNat (i - sg)))] [])
                refine g_iinc B W107 (d_prog_11_method_2_120) (v := 1) (l' := #[.val (.ref a1), .val (.int (Int32.ofNat (nn - 1))), .val (.int (Int32.ofNat (i + 1))), .val (.int (Int32.ofNat i + 1)), .val (.int (ff i)), .val (.int (Int32.ofNat (i - sg)))]) (by decide) rfl rfl ?_
                rw [own_inc]
                show Go p.tables e below _ T107 (mkF m 123 #[.val (.ref a1), .val (.int (Int32.ofNat (nn - 1))), .val (.int (Int32.ofNat (i + 1))), .val (.int (Int32.ofNat (i + 1))), .val (.int (ff i)), .val (.int (Int32.ofNat (i - sg)))] [])
                refine g_goto B W107 (d_prog_11_method_2_123) (pc' := 37) (by decide) ?_
                show Go p.tables e below _ T107 (mkF m 37 #[.val (.ref a1), .val (.int (Int32.ofNat (nn - 1))), .val (.int (Int32.ofNat (i + 1))), .val (.int (Int32.ofNat (i + 1))), .val (.int (ff i)), .val (.int (Int32.ofNat (i - sg)))] [])
                exact ih _ _ _ _ _ (Or.inr ⟨_, rfl, rfl⟩) (Or.inr ⟨_, rfl, rfl⟩) (by omega) (by omega) (by rw [hst, if_pos hc108, if_neg (fun q => q.elim (fun q => hc109 (by rw [q]; rfl)) (fun q => hc110 (by rw [show (255 : Int32) = Int32.ofNat 255 from rfl, own_lt (by omega) (by omega)]; exact q)))]) W107
          · skip
            refine g_icmp_y B W107 (d_prog_11_method_2_53) (XT.ii_ne_t hc108) (pc' := 83) (by decide) ?_
            show Go p.tables e below _ T107 (mkF m 83 #[.val (.ref a1), .val (.int (Int32.ofNat (nn - 1))), .val (.int (Int32.ofNat sg)), .val (.int (Int32.ofNat i)), .val (.int (ff i)), s5] [])
            refine g_iload B W107 (d_prog_11_method_2_83) rfl ?_
            refine g_bipush B W107 (d_prog_11_method_2_85) (v := 97) (by decide) ?_
            by_cases hc111 : (ff i) < 97
            · skip
              refine g_icmp_y B W107 (d_prog_11_method_2_87) (XT.ii_lt_t hc111) (pc' := 97) (by decide) ?_
              show Go p.tables e below _ T107 (mkF m 97 #[.val (.ref a1), .val (.int (Int32.ofNat (nn - 1))), .val (.int (Int32.ofNat sg)), .val (.int (Int32.ofNat i)), .val (.int (ff i)), s5] [])
              refine g_iload B W107 (d_prog_11_method_2_97) rfl ?_
              refine g_bipush B W107 (d_prog_11_method_2_99) (v := 48) (by decide) ?_
              by_cases hc112 : (ff i) < 48
              · skip
                refine g_icmp_y B W107 (d_prog_11_method_2_101) (XT.ii_lt_t hc112) (pc' := 111) (by decide) ?_
                show Go p.tables e below _ T107 (mkF m 111 #[.val (.ref a1), .val (.int (Int32.ofNat (nn - 1))), .val (.int (Int32.ofNat sg)), .val (.int (Int32.ofNat i)), .val (.int (ff i)), s5] [])
                refine g_iload B W107 (d_prog_11_method_2_111) rfl ?_
                refine g_bipush B W107 (d_prog_11_method_2_113) (v := 45) (by decide) ?_
                by_cases hc113 : (ff i) = 45
                · skip
                  refine g_icmp_y B W107 (d_prog_11_method_2_115) (XT.ii_eq_t hc113) (pc' := 120) (by decide) ?_
                  show Go p.tables e below _ T107 (mkF m 120 #[.val (.ref a1), .val (.int (Int32.ofNat (nn - 1))), .val (.int (Int32.ofNat sg)), .val (.int (Int32.ofNat i)), .val (.int (ff i)), s5] [])
                  refine g_iinc B W107 (d_prog_11_method_2_120) (v := 1) (l' := #[.val (.ref a1), .val (.int (Int32.ofNat (nn - 1))), .val (.int (Int32.ofNat sg)), .val (.int (Int32.ofNat i + 1)), .val (.int (ff i)), s5]) (by decide) rfl rfl ?_
                  rw [own_inc]
                  show Go p.tables e below _ T107 (mkF m 123 #[.val (.ref a1), .val (.int (Int32.ofNat (nn - 1))), .val (.int (Int32.ofNat sg)), .val (.int (Int32.ofNat (i + 1))), .val (.int (ff i)), s5] [])
                  refine g_goto B W107 (d_prog_11_method_2_123) (pc' := 37) (by decide) ?_
                  show Go p.tables e below _ T107 (mkF m 37 #[.val (.ref a1), .val (.int (Int32.ofNat (nn - 1))), .val (.int (Int32.ofNat sg)), .val (.int (Int32.ofNat (i + 1))), .val (.int (ff i)), s5] [])
                  exact ih _ _ _ _ _ (Or.inr ⟨_, rfl, rfl⟩) (hx5) (by omega) (by omega) (by rw [hst, if_neg hc108, if_pos (by simp [legalB, hc111, hc112, hc113])]) W107
                · skip
                  refine g_icmp_n B W107 (d_prog_11_method_2_115) (XT.ii_eq_f hc113) ?_
                  show Go p.tables e below _ T107 (mkF m 118 #[.val (.ref a1), .val (.int (Int32.ofNat (nn - 1))), .val (.int (Int32.ofNat sg)), .val (.int (Int32.ofNat i)), .val (.int (ff i)), s5] [])
                  refine g_iconst B W107 (d_prog_11_method_2_118) (v := 0) (by decide) ?_
                  exact r_n B W107 (t := .boolean) rfl (by simp) (d_prog_11_method_2_119) (by decide) (by decide) ⟨by rw [nar_b0, hst, if_neg hc108, if_neg (by simp [legalB, hc111, hc112, hc113])]; rfl, rfl⟩
              · skip
                refine g_icmp_n B W107 (d_prog_11_method_2_101) (XT.ii_lt_f hc112) ?_
                show Go p.tables e below _ T107 (mkF m 104 #[.val (.ref a1), .val (.int (Int32.ofNat (nn - 1))), .val (.int (Int32.ofNat sg)), .val (.int (Int32.ofNat i)), .val (.int (ff i)), s5] [])
                refine g_iload B W107 (d_prog_11_method_2_104) rfl ?_
                refine g_bipush B W107 (d_prog_11_method_2_106) (v := 57) (by decide) ?_
                by_cases hc114 : 57 < (ff i)
                · skip
                  refine g_icmp_n B W107 (d_prog_11_method_2_108) (XT.ii_le_f hc114) ?_
                  show Go p.tables e below _ T107 (mkF m 111 #[.val (.ref a1), .val (.int (Int32.ofNat (nn - 1))), .val (.int (Int32.ofNat sg)), .val (.int (Int32.ofNat i)), .val (.int (ff i)), s5] [])
                  refine g_iload B W107 (d_prog_11_method_2_111) rfl ?_
                  refine g_bipush B W107 (d_prog_11_method_2_113) (v := 45) (by decide) ?_
                  by_cases hc115 : (ff i) = 45
                  · skip
                    refine g_icmp_y B W107 (d_prog_11_method_2_115) (XT.ii_eq_t hc115) (pc' := 120) (by decide) ?_
                    show Go p.tables e below _ T107 (mkF m 120 #[.val (.ref a1), .val (.int (Int32.ofNat (nn - 1))), .val (.int (Int32.ofNat sg)), .val (.int (Int32.ofNat i)), .val (.int (ff i)), s5] [])
                    refine g_iinc B W107 (d_prog_11_method_2_120) (v := 1) (l' := #[.val (.ref a1), .val (.int (Int32.ofNat (nn - 1))), .val (.int (Int32.ofNat sg)), .val (.int (Int32.ofNat i + 1)), .val (.int (ff i)), s5]) (by decide) rfl rfl ?_
                    rw [own_inc]
                    show Go p.tables e below _ T107 (mkF m 123 #[.val (.ref a1), .val (.int (Int32.ofNat (nn - 1))), .val (.int (Int32.ofNat sg)), .val (.int (Int32.ofNat (i + 1))), .val (.int (ff i)), s5] [])
                    refine g_goto B W107 (d_prog_11_method_2_123) (pc' := 37) (by decide) ?_
                    show Go p.tables e below _ T107 (mkF m 37 #[.val (.ref a1), .val (.int (Int32.ofNat (nn - 1))), .val (.int (Int32.ofNat sg)), .val (.int (Int32.ofNat (i + 1))), .val (.int (ff i)), s5] [])
                    exact ih _ _ _ _ _ (Or.inr ⟨_, rfl, rfl⟩) (hx5) (by omega) (by omega) (by rw [hst, if_neg hc108, if_pos (by simp [legalB, hc111, hc112, hc114, hc115])]) W107
                  · skip
                    refine g_icmp_n B W107 (d_prog_11_method_2_115) (XT.ii_eq_f hc115) ?_
                    show Go p.tables e below _ T107 (mkF m 118 #[.val (.ref a1), .val (.int (Int32.ofNat (nn - 1))), .val (.int (Int32.ofNat sg)), .val (.int (Int32.ofNat i)), .val (.int (ff i)), s5] [])
                    refine g_iconst B W107 (d_prog_11_method_2_118) (v := 0) (by decide) ?_
                    exact r_n B W107 (t := .boolean) rfl (by simp) (d_prog_11_method_2_119) (by decide) (by decide) ⟨by rw [nar_b0, hst, if_neg hc108, if_neg (by simp [legalB, hc111, hc112, hc114, hc115])]; rfl, rfl⟩
                · skip
                  refine g_icmp_y B W107 (d_prog_11_method_2_108) (XT.ii_le_t hc114) (pc' := 120) (by decide) ?_
                  show Go p.tables e below _ T107 (mkF m 120 #[.val (.ref a1), .val (.int (Int32.ofNat (nn - 1))), .val (.int (Int32.ofNat sg)), .val (.int (Int32.ofNat i)), .val (.int (ff i)), s5] [])
                  refine g_iinc B W107 (d_prog_11_method_2_120) (v := 1) (l' := #[.val (.ref a1), .val (.int (Int32.ofNat (nn - 1))), .val (.int (Int32.ofNat sg)), .val (.int (Int32.ofNat i + 1)), .val (.int (ff i)), s5]) (by decide) rfl rfl ?_
                  rw [own_inc]
                  show Go p.tables e below _ T107 (mkF m 123 #[.val (.ref a1), .val (.int (Int32.ofNat (nn - 1))), .val (.int (Int32.ofNat sg)), .val (.int (Int32.ofNat (i + 1))), .val (.int (ff i)), s5] [])
                  refine g_goto B W107 (d_prog_11_method_2_123) (pc' := 37) (by decide) ?_
                  show Go p.tables e below _ T107 (mkF m 37 #[.val (.ref a1), .val (.int (Int32.ofNat (nn - 1))), .val (.int (Int32.ofNat sg)), .val (.int (Int32.ofNat (i + 1))), .val (.int (ff i)), s5] [])
                  exact ih _ _ _ _ _ (Or.inr ⟨_, rfl, rfl⟩) (hx5) (by omega) (by omega) (by rw [hst, if_neg hc108, if_pos (by simp [legalB, hc111, hc112, hc114])]) W107
            · skip
              refine g_icmp_n B W107 (d_prog_11_method_2_87) (XT.ii_lt_f hc111) ?_
              show Go p.tables e below _ T107 (mkF m 90 #[.val (.ref a1), .val (.int (Int32.ofNat (nn - 1))), .val (.int (Int32.ofNat sg)), .val (.int (Int32.ofNat i)), .val (.int (ff i)), s5] [])
              refine g_iload B W107 (d_prog_11_method_2_90) rfl ?_
              refine g_bipush B W107 (d_prog_11_method_2_92) (v := 122) (by decide) ?_
              by_cases hc116 : 122 < (ff i)
              · skip
                refine g_icmp_n B W107 (d_prog_11_method_2_94) (XT.ii_le_f hc116) ?_
                show Go p.tables e below _ T107 (mkF m 97 #[.val (.ref a1), .val (.int (Int32.ofNat (nn - 1))), .val (.int (Int32.ofNat sg)), .val (.int (Int32.ofNat i)), .val (.int (ff i)), s5] [])
                refine g_iload B W107 (d_prog_11_method_2_97) rfl ?_
                refine g_bipush B W107 (d_prog_11_method_2_99) (v := 48) (by decide) ?_
                by_cases hc117 : (ff i) < 48
                · skip
                  refine g_icmp_y B W107 (d_prog_11_method_2_101) (XT.ii_lt_t hc117) (pc' := 111) (by decide) ?_
                  show Go p.tables e below _ T107 (mkF m 111 #[.val (.ref a1), .val (.int (Int32.ofNat (nn - 1))), .val (.int (Int32.ofNat sg)), .val (.int (Int32.ofNat i)), .val (.int (ff i)), s5] [])
                  refine g_iload B W107 (d_prog_11_method_2_111) rfl ?_
                  refine g_bipush B W107 (d_prog_11_method_2_113) (v := 45) (by decide) ?_
                  by_cases hc118 : (ff i) = 45
                  · skip
                    refine g_icmp_y B W107 (d_prog_11_method_2_115) (XT.ii_eq_t hc118) (pc' := 120) (by decide) ?_
                    show Go p.tables e below _ T107 (mkF m 120 #[.val (.ref a1), .val (.int (Int32.ofNat (nn - 1))), .val (.int (Int32.ofNat sg)), .val (.int (Int32.ofNat i)), .val (.int (ff i)), s5] [])
                    refine g_iinc B W107 (d_prog_11_method_2_120) (v := 1) (l' := #[.val (.ref a1), .val (.int (Int32.ofNat (nn - 1))), .val (.int (Int32.ofNat sg)), .val (.int (Int32.ofNat i + 1)), .val (.int (ff i)), s5]) (by decide) rfl rfl ?_
                    rw [own_inc]
                    show Go p.tables e below _ T107 (mkF m 123 #[.val (.ref a1), .val (.int (Int32.ofNat (nn - 1))), .val (.int (Int32.ofNat sg)), .val (.int (Int32.ofNat (i + 1))), .val (.int (ff i)), s5] [])
                    refine g_goto B W107 (d_prog_11_method_2_123) (pc' := 37) (by decide) ?_
                    show Go p.tables e below _ T107 (mkF m 37 #[.val (.ref a1), .val (.int (Int32.ofNat (nn - 1))), .val (.int (Int32.ofNat sg)), .val (.int (Int32.ofNat (i + 1))), .val (.int (ff i)), s5] [])
                    exact ih _ _ _ _ _ (Or.inr ⟨_, rfl, rfl⟩) (hx5) (by omega) (by omega) (by rw [hst, if_neg hc108, if_pos (by simp [legalB, hc111, hc116, hc117, hc118])]) W107
                  · skip
                    refine g_icmp_n B W107 (d_prog_11_method_2_115) (XT.ii_eq_f hc118) ?_
                    show Go p.tables e below _ T107 (mkF m 118 #[.val (.ref a1), .val (.int (Int32.ofNat (nn - 1))), .val (.int (Int32.ofNat sg)), .val (.int (Int32.ofNat i)), .val (.int (ff i)), s5] [])
                    refine g_iconst B W107 (d_prog_11_method_2_118) (v := 0) (by decide) ?_
                    exact r_n B W107 (t := .boolean) rfl (by simp) (d_prog_11_method_2_119) (by decide) (by decide) ⟨by rw [nar_b0, hst, if_neg hc108, if_neg (by simp [legalB, hc111, hc116, hc117, hc118])]; rfl, rfl⟩
                · skip
                  refine g_icmp_n B W107 (d_prog_11_method_2_101) (XT.ii_lt_f hc117) ?_
                  show Go p.tables e below _ T107 (mkF m 104 #[.val (.ref a1), .val (.int (Int32.ofNat (nn - 1))), .val (.int (Int32.ofNat sg)), .val (.int (Int32.ofNat i)), .val (.int (ff i)), s5] [])
                  refine g_iload B W107 (d_prog_11_method_2_104) rfl ?_
                  refine g_bipush B W107 (d_prog_11_method_2_106) (v := 57) (by decide) ?_
                  by_cases hc119 : 57 < (ff i)
                  · skip
                    refine g_icmp_n B W107 (d_prog_11_method_2_108) (XT.ii_le_f hc119) ?_
                    show Go p.tables e below _ T107 (mkF m 111 #[.val (.ref a1), .val (.int (Int32.ofNat (nn - 1))), .val (.int (Int32.ofNat sg)), .val (.int (Int32.ofNat i)), .val (.int (ff i)), s5] [])
                    refine g_iload B W107 (d_prog_11_method_2_111) rfl ?_
                    refine g_bipush B W107 (d_prog_11_method_2_113) (v := 45) (by decide) ?_
                    by_cases hc120 : (ff i) = 45
                    · skip
                      refine g_icmp_y B W107 (d_prog_11_method_2_115) (XT.ii_eq_t hc120) (pc' := 120) (by decide) ?_
                      show Go p.tables e below _ T107 (mkF m 120 #[.val (.ref a1), .val (.int (Int32.ofNat (nn - 1))), .val (.int (Int32.ofNat sg)), .val (.int (Int32.ofNat i)), .val (.int (ff i)), s5] [])
                      refine g_iinc B W107 (d_prog_11_method_2_120) (v := 1) (l' := #[.val (.ref a1), .val (.int (Int32.ofNat (nn - 1))), .val (.int (Int32.ofNat sg)), .val (.int (Int32.ofNat i + 1)), .val (.int (ff i)), s5]) (by decide) rfl rfl ?_
                      rw [own_inc]
                      show Go p.tables e below _ T107 (mkF m 123 #[.val (.ref a1), .val (.int (Int32.ofNat (nn - 1))), .val (.int (Int32.ofNat sg)), .val (.int (Int32.ofNat (i + 1))), .val (.int (ff i)), s5] [])
                      refine g_goto B W107 (d_prog_11_method_2_123) (pc' := 37) (by decide) ?_
                      show Go p.tables e below _ T107 (mkF m 37 #[.val (.ref a1), .val (.int (Int32.ofNat (nn - 1))), .val (.int (Int32.ofNat sg)), .val (.int (Int32.ofNat (i + 1))), .val (.int (ff i)), s5] [])
                      exact ih _ _ _ _ _ (Or.inr ⟨_, rfl, rfl⟩) (hx5) (by omega) (by omega) (by rw [hst, if_neg hc108, if_pos (by simp [legalB, hc111, hc116, hc117, hc119, hc120])]) W107
                    · skip
                      refine g_icmp_n B W107 (d_prog_11_method_2_115) (XT.ii_eq_f hc120) ?_
                      show Go p.tables e below _ T107 (mkF m 118 #[.val (.ref a1), .val (.int (Int32.ofNat (nn - 1))), .val (.int (Int32.ofNat sg)), .val (.int (Int32.ofNat i)), .val (.int (ff i)), s5] [])
                      refine g_iconst B W107 (d_prog_11_method_2_118) (v := 0) (by decide) ?_
                      exact r_n B W107 (t := .boolean) rfl (by simp) (d_prog_11_method_2_119) (by decide) (by decide) ⟨by rw [nar_b0, hst, if_neg hc108, if_neg (by simp [legalB, hc111, hc116, hc117, hc119, hc120])]; rfl, rfl⟩
                  · skip
                    refine g_icmp_y B W107 (d_prog_11_method_2_108) (XT.ii_le_t hc119) (pc' := 120) (by decide) ?_
                    show Go p.tables e below _ T107 (mkF m 120 #[.val (.ref a1), .val (.int (Int32.ofNat (nn - 1))), .val (.int (Int32.ofNat sg)), .val (.int (Int32.ofNat i)), .val (.int (ff i)), s5] [])
                    refine g_iinc B W107 (d_prog_11_method_2_120) (v := 1) (l' := #[.val (.ref a1), .val (.int (Int32.ofNat (nn - 1))), .val (.int (Int32.ofNat sg)), .val (.int (Int32.ofNat i + 1)), .val (.int (ff i)), s5]) (by decide) rfl rfl ?_
                    rw [own_inc]
                    show Go p.tables e below _ T107 (mkF m 123 #[.val (.ref a1), .val (.int (Int32.ofNat (nn - 1))), .val (.int (Int32.ofNat sg)), .val (.int (Int32.ofNat (i + 1))), .val (.int (ff i)), s5] [])
                    refine g_goto B W107 (d_prog_11_method_2_123) (pc' := 37) (by decide) ?_
                    show Go p.tables e below _ T107 (mkF m 37 #[.val (.ref a1), .val (.int (Int32.ofNat (nn - 1))), .val (.int (Int32.ofNat sg)), .val (.int (Int32.ofNat (i + 1))), .val (.int (ff i)), s5] [])
                    exact ih _ _ _ _ _ (Or.inr ⟨_, rfl, rfl⟩) (hx5) (by omega) (by omega) (by rw [hst, if_neg hc108, if_pos (by simp [legalB, hc111, hc116, hc117, hc119])]) W107
              · skip
                refine g_icmp_y B W107 (d_prog_11_method_2_94) (XT.ii_le_t hc116) (pc' := 120) (by decide) ?_
                show Go p.tables e below _ T107 (mkF m 120 #[.val (.ref a1), .val (.int (Int32.ofNat (nn - 1))), .val (.int (Int32.ofNat sg)), .val (.int (Int32.ofNat i)), .val (.int (ff i)), s5] [])
                refine g_iinc B W107 (d_prog_11_method_2_120) (v := 1) (l' := #[.val (.ref a1), .val (.int (Int32.ofNat (nn - 1))), .val (.int (Int32.ofNat sg)), .val (.int (Int32.ofNat i + 1)), .val (.int (ff i)), s5]) (by decide) rfl rfl ?_
                rw [own_inc]
                show Go p.tables e below _ T107 (mkF m 123 #[.val (.ref a1), .val (.int (Int32.ofNat (nn - 1))), .val (.int (Int32.ofNat sg)), .val (.int (Int32.ofNat (i + 1))), .val (.int (ff i)), s5] [])
                refine g_goto B W107 (d_prog_11_method_2_123) (pc' := 37) (by decide) ?_
                show Go p.tables e below _ T107 (mkF m 37 #[.val (.ref a1), .val (.int (Int32.ofNat (nn - 1))), .val (.int (Int32.ofNat sg)), .val (.int (Int32.ofNat (i + 1))), .val (.int (ff i)), s5] [])
                exact ih _ _ _ _ _ (Or.inr ⟨_, rfl, rfl⟩) (hx5) (by omega) (by omega) (by rw [hst, if_neg hc108, if_pos (by simp [legalB, hc111, hc116])]) W107
      exact loop (nn - 1) 1 1 .unset .unset _ (Or.inl rfl) (Or.inl rfl) (by omega) (by omega) hst W105
    · skip
      refine g_icmp_n B W105 (d_prog_11_method_2_28) (XT.ii_eq_f hc106) ?_
      show Go p.tables e below _ T105 (mkF m 31 #[.val (.ref a1), .val (.int (Int32.ofNat (nn - 1))), .unset, .unset, .unset, .unset] [])
      refine g_iconst B W105 (d_prog_11_method_2_31) (v := 0) (by decide) ?_
      exact r_n B W105 (t := .boolean) rfl (by simp) (d_prog_11_method_2_32) (by decide) (by decide) ⟨by rw [nar_b0, show pg nn ff = false by rw [show nn = (nn - 1) + 1 by omega]; exact pg_fn hc106]; rfl, rfl⟩
  · skip
    refine g_icmp_y B W103 (d_prog_11_method_2_18) (XT.ii_ne_t hc104) (pc' := 31) (by decide) ?_
    show Go p.tables e below _ T103 (mkF m 31 #[.val (.ref a1), .val (.int (Int32.ofNat (nn - 1))), .unset, .unset, .unset, .unset] [])
    refine g_iconst B W103 (d_prog_11_method_2_31) (v := 0) (by decide) ?_
    exact r_n B W103 (t := .boolean) rfl (by simp) (d_prog_11_method_2_32) (by decide) (by decide) ⟨by rw [nar_b0, pg_f0 hc104]; rfl, rfl⟩
theorem ef_draw (m : MethodId) (p1 : Int64) (p2 : Int32) : entryFrame m #[(.long p1), (.int p2)] 5 = mkF m 0 #[.val (.long p1), .second, .val (.int p2), .unset, .unset] [] := by first | (simp [entryFrame, mkF, argsToLocals, Value.category]; done) | rfl
def Q_draw (Z : State) (p1 : Int64) (p2 : Int32) (h0 : Heap) (v : Option Value) (h : Heap) : Prop := ∃ x : Int32, v = some (.int x) ∧ nar .char x = x ∧ (0 ≤ x.toInt ∧ x.toInt < 65536) ∧ h0 = h
set_option maxRecDepth 65536 in
set_option maxHeartbeats 40000000 in
theorem c_draw (l : Launch) (Z : State) (a0 : Array Value) (hw : ∀ d ∈ tables_1, d.before a0 Z = true) (p1 : Int64) (p2 : Int32) (h0 : Heap) :
    Con l Z (⟨"com/example/presswright/presswright/publishing/PagePathIsPagePathPinLaw", "draw", "(JI)C"⟩ : MethodName) method_2_code 5 (Option.some FieldType.char) [] ({ frames := 0, cells := 0, slots := 0, locals := 0 } : Room) #[(.long p1), (.int p2)] h0 (Q_draw Z p1 p2 h0) [] := by
  refine Con.of (plainFor_of_name pn_com_example_presswright_presswright_publishing_PagePathIsPagePathPinLaw) ?_
  intro p e s m below meth c T0 B W0
  refine Go.cast (ef_draw m p1 p2 ) ?_
  refine g_lload_n B W0 (d_method_2_0) rfl ?_
  refine g_bipush B W0 (d_method_2_1) (v := 17) (by decide) ?_
  refine g_iload_n B W0 (d_method_2_3) rfl ?_
  refine g_imul B W0 (d_method_2_4)  ?_
  refine g_lushr B W0 (d_method_2_5)  ?_
  refine g_lstore_n B W0 (d_method_2_6)  (l' := #[.val (.long p1), .second, .val (.int p2), .val (.long (XT.ushrL p1 (17 * p2))), .second]) rfl ?_
  refine g_lload_n B W0 (d_method_2_7) rfl ?_
  refine g_ldcL B W0 (d_method_2_8) (tw hw 5 rfl) ?_
  refine g_land B W0 (d_method_2_11)  ?_
  refine g_lconst B W0 (d_method_2_12) (v := 0) (by decide) ?_
  refine g_lcmp B W0 (d_method_2_13)  ?_
  by_cases hc101 : ((XT.ushrL p1 (17 * p2)) &&& 65536) = 0
  · skip
    refine g_if_y B W0 (d_method_2_14) (XT.ll_eq_t hc101) (pc' := 20) (by decide) ?_
    show Go p.tables e below _ T0 (mkF m 20 #[.val (.long p1), .second, .val (.int p2), .val (.long (XT.ushrL p1 (17 * p2))), .second] [])
    refine g_lload_n B W0 (d_method_2_20) rfl ?_
    refine g_ldcL B W0 (d_method_2_21) (tw hw 6 rfl) ?_
    refine g_land B W0 (d_method_2_24)  ?_
    refine g_l2i B W0 (d_method_2_25)  ?_
    refine g_i2c B W0 (d_method_2_26)  ?_
    obtain ⟨x102, ex102, nx102, rx102⟩ := own_i2c (((XT.ushrL p1 (17 * p2)) &&& 65535)).toInt32
    rw [ex102]
    exact r_n B W0 (t := .char) rfl (by simp) (d_method_2_27) (by decide) (by decide) ⟨_, by rw [nx102], nx102, rx102, rfl⟩
  · skip
    refine g_if_n B W0 (d_method_2_14) (XT.ll_eq_f hc101) ?_
    show Go p.tables e below _ T0 (mkF m 17 #[.val (.long p1), .second, .val (.int p2), .val (.long (XT.ushrL p1 (17 * p2))), .second] [])
    refine g_bipush B W0 (d_method_2_17) (v := 47) (by decide) ?_
    exact r_n B W0 (t := .char) rfl (by simp) (d_method_2_19) (by decide) (by decide) ⟨47, congrArg (fun q => some (Value.int q)) (by decide), by decide, by decide, rfl⟩
theorem ef_legal (m : MethodId) (p1 : Int32) : entryFrame m #[(.int p1)] 1 = mkF m 0 #[.val (.int p1)] [] := by first | (simp [entryFrame, mkF, argsToLocals, Value.category]; done) | rfl
def Q_legal (Z : State) (p1 : Int32) (h0 : Heap) (v : Option Value) (h : Heap) : Prop := v = some (.int (bi (legalB p1))) ∧ h0 = h
set_option maxRecDepth 65536 in
set_option maxHeartbeats 40000000 in
theorem c_legal (l : Launch) (Z : State) (a0 : Array Value) (hw : ∀ d ∈ tables_1, d.before a0 Z = true) (p1 : Int32) (h0 : Heap) :
    Con l Z (⟨"com/example/presswright/presswright/publishing/PagePathIsPagePathPinLaw", "legal", "(C)Z"⟩ : MethodName) method_3_code 1 (Option.some FieldType.boolean) [] ({ frames := 0, cells := 0, slots := 0, locals := 0 } : Room) #[(.int p1)] h0 (Q_legal Z p1 h0) [] := by
  refine Con.of (plainFor_of_name pn_com_example_presswright_presswright_publishing_PagePathIsPagePathPinLaw) ?_
  intro p e s m below meth c T0 B W0
  refine Go.cast (ef_legal m p1 ) ?_
  refine g_iload_n B W0 (d_method_3_0) rfl ?_
  refine g_bipush B W0 (d_method_3_1) (v := 97) (by decide) ?_
  by_cases hc101 : p1 < 97
  · skip
    refine g_icmp_y B W0 (d_method_3_3) (XT.ii_lt_t hc101) (pc' := 12) (by decide) ?_
    show Go p.tables e below _ T0 (mkF m 12 #[.val (.int p1)] [])
    refine g_iload_n B W0 (d_method_3_12) rfl ?_
    refine g_bipush B W0 (d_method_3_13) (v := 48) (by decide) ?_
    by_cases hc102 : p1 < 48
    · skip
      refine g_icmp_y B W0 (d_method_3_15) (XT.ii_lt_t hc102) (pc' := 24) (by decide) ?_
      show Go p.tables e below _ T0 (mkF m 24 #[.val (.int p1)] [])
      refine g_iload_n B W0 (d_method_3_24) rfl ?_
      refine g_bipush B W0 (d_method_3_25) (v := 45) (by decide) ?_
      by_cases hc103 : p1 = 45
      · skip
        refine g_icmp_n B W0 (d_method_3_27) (XT.ii_ne_f hc103) ?_
        show Go p.tables e below _ T0 (mkF m 30 #[.val (.int p1)] [])
        refine g_iconst B W0 (d_method_3_30) (v := 1) (by decide) ?_
        refine g_goto B W0 (d_method_3_31) (pc' := 35) (by decide) ?_
        show Go p.tables e below _ T0 (mkF m 35 #[.val (.int p1)] [(.int 1)])
        exact r_n B W0 (t := .boolean) rfl (by simp) (d_method_3_35) (by decide) (by decide) ⟨by rw [nar_b1, show legalB p1 = true by simp [legalB, hc101, hc102, hc103]]; rfl, rfl⟩
      · skip
        refine g_icmp_y B W0 (d_method_3_27) (XT.ii_ne_t hc103) (pc' := 34) (by decide) ?_
        show Go p.tables e below _ T0 (mkF m 34 #[.val (.int p1)] [])
        refine g_iconst B W0 (d_method_3_34) (v := 0) (by decide) ?_
        exact r_n B W0 (t := .boolean) rfl (by simp) (d_method_3_35) (by decide) (by decide) ⟨by rw [nar_b0, show legalB p1 = false by simp [legalB, hc101, hc102, hc103]]; rfl, rfl⟩
    · skip
      refine g_icmp_n B W0 (d_method_3_15) (XT.ii_lt_f hc102) ?_
      show Go p.tables e below _ T0 (mkF m 18 #[.val (.int p1)] [])
      refine g_iload_n B W0 (d_method_3_18) rfl ?_
      refine g_bipush B W0 (d_method_3_19) (v := 57) (by decide) ?_
      by_cases hc104 : 57 < p1
      · skip
        refine g_icmp_n B W0 (d_method_3_21) (XT.ii_le_f hc104) ?_
        show Go p.tables e below _ T0 (mkF m 24 #[.val (.int p1)] [])
        refine g_iload_n B W0 (d_method_3_24) rfl ?_
        refine g_bipush B W0 (d_method_3_25) (v := 45) (by decide) ?_
        by_cases hc105 : p1 = 45
        · skip
          refine g_icmp_n B W0 (d_method_3_27) (XT.ii_ne_f hc105) ?_
          show Go p.tables e below _ T0 (mkF m 30 #[.val (.int p1)] [])
          refine g_iconst B W0 (d_method_3_30) (v := 1) (by decide) ?_
          refine g_goto B W0 (d_method_3_31) (pc' := 35) (by decide) ?_
          show Go p.tables e below _ T0 (mkF m 35 #[.val (.int p1)] [(.int 1)])
          exact r_n B W0 (t := .boolean) rfl (by simp) (d_method_3_35) (by decide) (by decide) ⟨by rw [nar_b1, show legalB p1 = true by simp [legalB, hc101, hc102, hc104, hc105]]; rfl, rfl⟩
        · skip
          refine g_icmp_y B W0 (d_method_3_27) (XT.ii_ne_t hc105) (pc' := 34) (by decide) ?_
          show Go p.tables e below _ T0 (mkF m 34 #[.val (.int p1)] [])
          refine g_iconst B W0 (d_method_3_34) (v := 0) (by decide) ?_
          exact r_n B W0 (t := .boolean) rfl (by simp) (d_method_3_35) (by decide) (by decide) ⟨by rw [nar_b0, show legalB p1 = false by simp [legalB, hc101, hc102, hc104, hc105]]; rfl, rfl⟩
      · skip
        refine g_icmp_y B W0 (d_method_3_21) (XT.ii_le_t hc104) (pc' := 30) (by decide) ?_
        show Go p.tables e below _ T0 (mkF m 30 #[.val (.int p1)] [])
        refine g_iconst B W0 (d_method_3_30) (v := 1) (by decide) ?_
        refine g_goto B W0 (d_method_3_31) (pc' := 35) (by decide) ?_
        show Go p.tables e below _ T0 (mkF m 35 #[.val (.int p1)] [(.int 1)])
        exact r_n B W0 (t := .boolean) rfl (by simp) (d_method_3_35) (by decide) (by decide) ⟨by rw [nar_b1, show legalB p1 = true by simp [legalB, hc101, hc102, hc104]]; rfl, rfl⟩
  · skip
    refine g_icmp_n B W0 (d_method_3_3) (XT.ii_lt_f hc101) ?_
    show Go p.tables e below _ T0 (mkF m 6 #[.val (.int p1)] [])
    refine g_iload_n B W0 (d_method_3_6) rfl ?_
    refine g_bipush B W0 (d_method_3_7) (v := 122) (by decide) ?_
    by_cases hc106 : 122 < p1
    · skip
      refine g_icmp_n B W0 (d_method_3_9) (XT.ii_le_f hc106) ?_
      show Go p.tables e below _ T0 (mkF m 12 #[.val (.int p1)] [])
      refine g_iload_n B W0 (d_method_3_12) rfl ?_
      refine g_bipush B W0 (d_method_3_13) (v := 48) (by decide) ?_
      by_cases hc107 : p1 < 48
      · skip
        refine g_icmp_y B W0 (d_method_3_15) (XT.ii_lt_t hc107) (pc' := 24) (by decide) ?_
        show Go p.tables e below _ T0 (mkF m 24 #[.val (.int p1)] [])
        refine g_iload_n B W0 (d_method_3_24) rfl ?_
        refine g_bipush B W0 (d_method_3_25) (v := 45) (by decide) ?_
        by_cases hc108 : p1 = 45
        · skip
          refine g_icmp_n B W0 (d_method_3_27) (XT.ii_ne_f hc108) ?_
          show Go p.tables e below _ T0 (mkF m 30 #[.val (.int p1)] [])
          refine g_iconst B W0 (d_method_3_30) (v := 1) (by decide) ?_
          refine g_goto B W0 (d_method_3_31) (pc' := 35) (by decide) ?_
          show Go p.tables e below _ T0 (mkF m 35 #[.val (.int p1)] [(.int 1)])
          exact r_n B W0 (t := .boolean) rfl (by simp) (d_method_3_35) (by decide) (by decide) ⟨by rw [nar_b1, show legalB p1 = true by simp [legalB, hc101, hc106, hc107, hc108]]; rfl, rfl⟩
        · skip
          refine g_icmp_y B W0 (d_method_3_27) (XT.ii_ne_t hc108) (pc' := 34) (by decide) ?_
          show Go p.tables e below _ T0 (mkF m 34 #[.val (.int p1)] [])
          refine g_iconst B W0 (d_method_3_34) (v := 0) (by decide) ?_
          exact r_n B W0 (t := .boolean) rfl (by simp) (d_method_3_35) (by decide) (by decide) ⟨by rw [nar_b0, show legalB p1 = false by simp [legalB, hc101, hc106, hc107, hc108]]; rfl, rfl⟩
      · skip
        refine g_icmp_n B W0 (d_method_3_15) (XT.ii_lt_f hc107) ?_
        show Go p.tables e below _ T0 (mkF m 18 #[.val (.int p1)] [])
        refine g_iload_n B W0 (d_method_3_18) rfl ?_
        refine g_bipush B W0 (d_method_3_19) (v := 57) (by decide) ?_
        by_cases hc109 : 57 < p1
        · skip
          refine g_icmp_n B W0 (d_method_3_21) (XT.ii_le_f hc109) ?_
          show Go p.tables e below _ T0 (mkF m 24 #[.val (.int p1)] [])
          refine g_iload_n B W0 (d_method_3_24) rfl ?_
          refine g_bipush B W0 (d_method_3_25) (v := 45) (by decide) ?_
          by_cases hc110 : p1 = 45
          · skip
            refine g_icmp_n B W0 (d_method_3_27) (XT.ii_ne_f hc110) ?_
            show Go p.tables e below _ T0 (mkF m 30 #[.val (.int p1)] [])
            refine g_iconst B W0 (d_method_3_30) (v := 1) (by decide) ?_
            refine g_goto B W0 (d_method_3_31) (pc' := 35) (by decide) ?_
            show Go p.tables e below _ T0 (mkF m 35 #[.val (.int p1)] [(.int 1)])
            exact r_n B W0 (t := .boolean) rfl (by simp) (d_method_3_35) (by decide) (by decide) ⟨by rw [nar_b1, show legalB p1 = true by simp [legalB, hc101, hc106, hc107, hc109, hc110]]; rfl, rfl⟩
          · skip
            refine g_icmp_y B W0 (d_method_3_27) (XT.ii_ne_t hc110) (pc' := 34) (by decide) ?_
            show Go p.tables e below _ T0 (mkF m 34 #[.val (.int p1)] [])
            refine g_iconst B W0 (d_method_3_34) (v := 0) (by decide) ?_
            exact r_n B W0 (t := .boolean) rfl (by simp) (d_method_3_35) (by decide) (by decide) ⟨by rw [nar_b0, show legalB p1 = false by simp [legalB, hc101, hc106, hc107, hc109, hc110]]; rfl, rfl⟩
        · skip
          refine g_icmp_y B W0 (d_method_3_21) (XT.ii_le_t hc109) (pc' := 30) (by decide) ?_
          show Go p.tables e below _ T0 (mkF m 30 #[.val (.int p1)] [])
          refine g_iconst B W0 (d_method_3_30) (v := 1) (by decide) ?_
          refine g_goto B W0 (d_method_3_31) (pc' := 35) (by decide) ?_
          show Go p.tables e below _ T0 (mkF m 35 #[.val (.int p1)] [(.int 1)])
          exact r_n B W0 (t := .boolean) rfl (by simp) (d_method_3_35) (by decide) (by decide) ⟨by rw [nar_b1, show legalB p1 = true by simp [legalB, hc101, hc106, hc107, hc109]]; rfl, rfl⟩
    · skip
      refine g_icmp_y B W0 (d_method_3_9) (XT.ii_le_t hc106) (pc' := 30) (by decide) ?_
      show Go p.tables e below _ T0 (mkF m 30 #[.val (.int p1)] [])
      refine g_iconst B W0 (d_method_3_30) (v := 1) (by decide) ?_
      refine g_goto B W0 (d_method_3_31) (pc' := 35) (by decide) ?_
      show Go p.tables e below _ T0 (mkF m 35 #[.val (.int p1)] [(.int 1)])
      exact r_n B W0 (t := .boolean) rfl (by simp) (d_method_3_35) (by decide) (by decide) ⟨by rw [nar_b1, show legalB p1 = true by simp [legalB, hc101, hc106]]; rfl, rfl⟩
theorem ef_good (m : MethodId) (ar : Addr) (kA : ClassId) (ff : Nat → Int32) (nn : Nat) (i : Nat) : entryFrame m #[(.ref ar), (.int (Int32.ofNat nn)), (.int (Int32.ofNat i))] 4 = mkF m 0 #[.val (.ref ar), .val (.int (Int32.ofNat nn)), .val (.int (Int32.ofNat i)), .unset] [] := by first | (simp [entryFrame, mkF, argsToLocals, Value.category]; done) | rfl
def Q_good (Z : State) (ar : Addr) (kA : ClassId) (ff : Nat → Int32) (nn : Nat) (i : Nat) (h0 : Heap) (v : Option Value) (h : Heap) : Prop := v = some (.int (bi (if i < nn then okB ff i else true))) ∧ h0 = h
set_option maxRecDepth 65536 in
set_option maxHeartbeats 40000000 in
theorem c_good (l : Launch) (Z : State) (a0 : Array Value) (hw : ∀ d ∈ tables_1, d.before a0 Z = true) (ar : Addr) (kA : ClassId) (ff : Nat → Int32) (nn : Nat) (i : Nat) (h0 : Heap) (A1 : Arv Z h0 ar kA .char (Int32.ofNat 8) (arl 8 ff) (.int 0)) (hi : 1 ≤ i ∧ i < 8) (hn : nn ≤ 8) :
    Con l Z (⟨"com/example/presswright/presswright/publishing/PagePathIsPagePathPinLaw", "good", "([CII)Z"⟩ : MethodName) method_4_code 4 (Option.some FieldType.boolean) [] ({ frames := 1, cells := 0, slots := 0, locals := 12 } : Room) #[(.ref ar), (.int (Int32.ofNat nn)), (.int (Int32.ofNat i))] h0 (Q_good Z ar kA ff nn i h0) [] := by
  refine Con.of (plainFor_of_name pn_com_example_presswright_presswright_publishing_PagePathIsPagePathPinLaw) ?_
  intro p e s m below meth c T0 B W0
  refine Go.cast (ef_good m ar kA ff nn i ) ?_
  refine g_iload_n B W0 (d_method_4_0) rfl ?_
  refine g_iload_n B W0 (d_method_4_1) rfl ?_
  by_cases hc101 : (Int32.ofNat i) < (Int32.ofNat nn)
  · skip
    refine g_icmp_y B W0 (d_method_4_2) (XT.ii_lt_t hc101) (pc' := 7) (by decide) ?_
    show Go p.tables e below _ T0 (mkF m 7 #[.val (.ref ar), .val (.int (Int32.ofNat nn)), .val (.int (Int32.ofNat i)), .unset] [])
    rw [own_lt (by omega) (by omega)] at hc101
    refine g_aload_n B W0 (d_method_4_7) rfl rfl ?_
    refine g_iload_n B W0 (d_method_4_8) rfl ?_
    refine g_caload B W0 (d_method_4_9) A1 (own_ixok (i := i) (n := 8) (by omega) (by omega)) (arl_rd (i := i) (n := 8) (by omega) (by omega)) ?_
    show Go p.tables e below _ T0 (mkF m 10 #[.val (.ref ar), .val (.int (Int32.ofNat nn)), .val (.int (Int32.ofNat i)), .unset] [(.int (ff i))])
    refine g_istore_n B W0 (d_method_4_10)  (l' := #[.val (.ref ar), .val (.int (Int32.ofNat nn)), .val (.int (Int32.ofNat i)), .val (.int (ff i))]) rfl ?_
    refine g_iload_n B W0 (d_method_4_11) rfl ?_
    refine g_bipush B W0 (d_method_4_12) (v := 47) (by decide) ?_
    by_cases hc102 : (ff i) = 47
    · skip
      refine g_icmp_n B W0 (d_method_4_14) (XT.ii_ne_f hc102) ?_
      show Go p.tables e below _ T0 (mkF m 17 #[.val (.ref ar), .val (.int (Int32.ofNat nn)), .val (.int (Int32.ofNat i)), .val (.int (ff i))] [])
      refine g_aload_n B W0 (d_method_4_17) rfl rfl ?_
      refine g_iload_n B W0 (d_method_4_18) rfl ?_
      refine g_iconst B W0 (d_method_4_19) (v := 1) (by decide) ?_
      refine g_isub B W0 (d_method_4_20)  ?_
      rw [own_dec (i := i) (by omega)]
      show Go p.tables e below _ T0 (mkF m 21 #[.val (.ref ar), .val (.int (Int32.ofNat nn)), .val (.int (Int32.ofNat i)), .val (.int (ff i))] [(.int (Int32.ofNat (i - 1))), (.ref ar)])
      refine g_caload B W0 (d_method_4_21) A1 (own_ixok (i := (i - 1)) (n := 8) (by omega) (by omega)) (arl_rd (i := (i - 1)) (n := 8) (by omega) (by omega)) ?_
      show Go p.tables e below _ T0 (mkF m 22 #[.val (.ref ar), .val (.int (Int32.ofNat nn)), .val (.int (Int32.ofNat i)), .val (.int (ff i))] [(.int (ff ((i - 1))))])
      refine g_bipush B W0 (d_method_4_22) (v := 47) (by decide) ?_
      by_cases hc103 : (ff ((i - 1))) = 47
      · skip
        refine g_icmp_y B W0 (d_method_4_24) (XT.ii_eq_t hc103) (pc' := 31) (by decide) ?_
        show Go p.tables e below _ T0 (mkF m 31 #[.val (.ref ar), .val (.int (Int32.ofNat nn)), .val (.int (Int32.ofNat i)), .val (.int (ff i))] [])
        refine g_iconst B W0 (d_method_4_31) (v := 0) (by decide) ?_
        exact r_n B W0 (t := .boolean) rfl (by simp) (d_method_4_32) (by decide) (by decide) ⟨by rw [nar_b0, if_pos hc101, okB, if_pos hc102]; simp [hc103, bi], rfl⟩
      · skip
        refine g_icmp_n B W0 (d_method_4_24) (XT.ii_eq_f hc103) ?_
        show Go p.tables e below _ T0 (mkF m 27 #[.val (.ref ar), .val (.int (Int32.ofNat nn)), .val (.int (Int32.ofNat i)), .val (.int (ff i))] [])
        refine g_iconst B W0 (d_method_4_27) (v := 1) (by decide) ?_
        refine g_goto B W0 (d_method_4_28) (pc' := 32) (by decide) ?_
        show Go p.tables e below _ T0 (mkF m 32 #[.val (.ref ar), .val (.int (Int32.ofNat nn)), .val (.int (Int32.ofNat i)), .val (.int (ff i))] [(.int 1)])
        exact r_n B W0 (t := .boolean) rfl (by simp) (d_method_4_32) (by decide) (by decide) ⟨by rw [nar_b1, if_pos hc101, okB, if_pos hc102]; simp [hc103, bi], rfl⟩
    · skip
      refine g_icmp_y B W0 (d_method_4_14) (XT.ii_ne_t hc102) (pc' := 33) (by decide) ?_
      show Go p.tables e below _ T0 (mkF m 33 #[.val (.ref ar), .val (.int (Int32.ofNat nn)), .val (.int (Int32.ofNat i)), .val (.int (ff i))] [])
      refine g_iload_n B W0 (d_method_4_33) rfl ?_
      obtain ⟨T104, h104, v104, W104, Q104, st104⟩ := x_static B W0 [(.int (ff i))] (c_legal l Z a0 hw (ff i) h0) (by simp) (d_method_4_34) (tw hw 113 rfl) (tw hw 114 rfl) (tw hw 3 rfl) (tw hw 115 rfl) (by decide) (lenOf pd__C_Z rfl) #[.val (.ref ar), .val (.int (Int32.ofNat nn)), .val (.int (Int32.ofNat i)), .val (.int (ff i))] [] rfl 0 rfl (by decide) (by decide) (by decide) (by decide)
      obtain ⟨rfl, rfl⟩ := Q104
      refine st104 _ ?_
      exact r_b B W104 (d_method_4_37) (by decide) (by decide) ⟨by rw [if_pos hc101, okB, if_neg hc102], rfl⟩
  · skip
    refine g_icmp_n B W0 (d_method_4_2) (XT.ii_lt_f hc101) ?_
    show Go p.tables e below _ T0 (mkF m 5 #[.val (.ref ar), .val (.int (Int32.ofNat nn)), .val (.int (Int32.ofNat i)), .unset] [])
    rw [own_lt (by omega) (by omega)] at hc101
    refine g_iconst B W0 (d_method_4_5) (v := 1) (by decide) ?_
    exact r_n B W0 (t := .boolean) rfl (by simp) (d_method_4_6) (by decide) (by decide) ⟨by rw [nar_b1, if_neg hc101]; rfl, rfl⟩
theorem ef_pre0 (m : MethodId) (ar : Addr) (kA : ClassId) (q0 : Int32) (q1 : Int32) (q2 : Int32) (q3 : Int32) (q4 : Int32) (q5 : Int32) (q6 : Int32) (q7 : Int32) : entryFrame m #[(.ref ar), (.int 0)] 2 = mkF m 0 #[.val (.ref ar), .val (.int 0)] [] := by first | (simp [entryFrame, mkF, argsToLocals, Value.category]; done) | rfl
def Q_pre0 (Z : State) (ar : Addr) (kA : ClassId) (q0 : Int32) (q1 : Int32) (q2 : Int32) (q3 : Int32) (q4 : Int32) (q5 : Int32) (q6 : Int32) (q7 : Int32) (h0 : Heap) (v : Option Value) (h : Heap) : Prop := ∃ (b : Addr) (kB : ClassId), v = some (.ref b) ∧ h0.size ≤ b ∧ Keep h0 h [] ∧ Arv Z h b kB .char 0 [] (.int 0)
set_option maxRecDepth 65536 in
set_option maxHeartbeats 40000000 in
theorem c_pre0 (l : Launch) (Z : State) (a0 : Array Value) (hw : ∀ d ∈ tables_1, d.before a0 Z = true) (ar : Addr) (kA : ClassId) (q0 : Int32) (q1 : Int32) (q2 : Int32) (q3 : Int32) (q4 : Int32) (q5 : Int32) (q6 : Int32) (q7 : Int32) (h0 : Heap) (A1 : Arv Z h0 ar kA .char 8 [.int q0, .int q1, .int q2, .int q3, .int q4, .int q5, .int q6, .int q7] (.int 0)) (nq0 : nar .char q0 = q0) (nq1 : nar .char q1 = q1) (nq2 : nar .char q2 = q2) (nq3 : nar .char q3 = q3) (nq4 : nar .char q4 = q4) (nq5 : nar .char q5 = q5) (nq6 : nar .char q6 = q6) (nq7 : nar .char q7 = q7) :
    Con l Z (⟨"com/example/presswright/presswright/publishing/PagePathIsPagePathPinLaw", "prefix", "([CI)[C"⟩ : MethodName) method_5_code 2 (Option.some (FieldType.array FieldType.char)) [] ({ frames := 0, cells := 1, slots := 0, locals := 0 } : Room) #[(.ref ar), (.int 0)] h0 (Q_pre0 Z ar kA q0 q1 q2 q3 q4 q5 q6 q7 h0) [] := by
  refine Con.of (plainFor_of_name pn_com_example_presswright_presswright_publishing_PagePathIsPagePathPinLaw) ?_
  intro p e s m below meth c T0 B W0
  refine Go.cast (ef_pre0 m ar kA q0 q1 q2 q3 q4 q5 q6 q7 ) ?_
  have l_ar := nlt A1.lt
  refine g_iload_n B W0 (d_method_5_0) rfl ?_
  refine g_if_n B W0 (d_method_5_1) (XT.i0_ne_f (by decide)) ?_
  show Go p.tables e below _ T0 (mkF m 4 #[.val (.ref ar), .val (.int 0)] [])
  refine g_iconst B W0 (d_method_5_4) (v := 0) (by decide) ?_
  obtain ⟨T101, h101, b101, cA101, gb101, W101, K101, A101, st101⟩ := x_newA B W0 (z := 0) 0 (d_method_5_5) (tw hw 0 rfl) (by decide) (by decide) (by decide) (by decide) (by decide) #[.val (.ref ar), .val (.int 0)] []
  have l101 := nlt A101.lt
  have z101 := W0.size
  refine st101 _ ?_
  have s102 := K101.1
  exact r_a B W101 rfl rfl rfl (d_method_5_7) (by decide) (by decide) ⟨_, _, rfl, by omega, ((Keep.refl h0 []).trans K101 all0), A101⟩
theorem ef_pre1 (m : MethodId) (ar : Addr) (kA : ClassId) (q0 : Int32) (q1 : Int32) (q2 : Int32) (q3 : Int32) (q4 : Int32) (q5 : Int32) (q6 : Int32) (q7 : Int32) : entryFrame m #[(.ref ar), (.int 1)] 2 = mkF m 0 #[.val (.ref ar), .val (.int 1)] [] := by first | (simp [entryFrame, mkF, argsToLocals, Value.category]; done) | rfl
def Q_pre1 (Z : State) (ar : Addr) (kA : ClassId) (q0 : Int32) (q1 : Int32) (q2 : Int32) (q3 : Int32) (q4 : Int32) (q5 : Int32) (q6 : Int32) (q7 : Int32) (h0 : Heap) (v : Option Value) (h : Heap) : Prop := ∃ (b : Addr) (kB : ClassId), v = some (.ref b) ∧ h0.size ≤ b ∧ Keep h0 h [] ∧ Arv Z h b kB .char 1 [.int q0] (.int 0)
set_option maxRecDepth 65536 in
set_option maxHeartbeats 40000000 in
theorem c_pre1 (l : Launch) (Z : State) (a0 : Array Value) (hw : ∀ d ∈ tables_1, d.before a0 Z = true) (ar : Addr) (kA : ClassId) (q0 : Int32) (q1 : Int32) (q2 : Int32) (q3 : Int32) (q4 : Int32) (q5 : Int32) (q6 : Int32) (q7 : Int32) (h0 : Heap) (A1 : Arv Z h0 ar kA .char 8 [.int q0, .int q1, .int q2, .int q3, .int q4, .int q5, .int q6, .int q7] (.int 0)) (nq0 : nar .char q0 = q0) (nq1 : nar .char q1 = q1) (nq2 : nar .char q2 = q2) (nq3 : nar .char q3 = q3) (nq4 : nar .char q4 = q4) (nq5 : nar .char q5 = q5) (nq6 : nar .char q6 = q6) (nq7 : nar .char q7 = q7) :
    Con l Z (⟨"com/example/presswright/presswright/publishing/PagePathIsPagePathPinLaw", "prefix", "([CI)[C"⟩ : MethodName) method_5_code 2 (Option.some (FieldType.array FieldType.char)) [] ({ frames := 0, cells := 1, slots := 1, locals := 0 } : Room) #[(.ref ar), (.int 1)] h0 (Q_pre1 Z ar kA q0 q1 q2 q3 q4 q5 q6 q7 h0) [] := by
  refine Con.of (plainFor_of_name pn_com_example_presswright_presswright_publishing_PagePathIsPagePathPinLaw) ?_
  intro p e s m below meth c T0 B W0
  refine Go.cast (ef_pre1 m ar kA q0 q1 q2 q3 q4 q5 q6 q7 ) ?_
  have l_ar := nlt A1.lt
  refine g_iload_n B W0 (d_method_5_0) rfl ?_
  refine g_if_y B W0 (d_method_5_1) (XT.i0_ne_t (by decide)) (pc' := 8) (by decide) ?_
  show Go p.tables e below _ T0 (mkF m 8 #[.val (.ref ar), .val (.int 1)] [])
  refine g_iload_n B W0 (d_method_5_8) rfl ?_
  refine g_iconst B W0 (d_method_5_9) (v := 1) (by decide) ?_
  refine g_icmp_n B W0 (d_method_5_10) (XT.ii_ne_f (by decide)) ?_
  show Go p.tables e below _ T0 (mkF m 13 #[.val (.ref ar), .val (.int 1)] [])
  refine g_iconst B W0 (d_method_5_13) (v := 1) (by decide) ?_
  obtain ⟨T101, h101, b101, cA101, gb101, W101, K101, A101, st101⟩ := x_newA B W0 (z := 1) 1 (d_method_5_14) (tw hw 0 rfl) (by decide) (by decide) (by decide) (by decide) (by decide) #[.val (.ref ar), .val (.int 1)] []
  have l101 := nlt A101.lt
  have z101 := W0.size
  refine st101 _ ?_
  have s102 := K101.1
  refine g_dup B W101 (d_method_5_16) rfl ?_
  refine g_iconst B W101 (d_method_5_17) (v := 0) (by decide) ?_
  refine g_aload_n B W101 (d_method_5_18) rfl rfl ?_
  refine g_iconst B W101 (d_method_5_19) (v := 0) (by decide) ?_
  have f103 := (A1.keep K101 nin0)
  refine g_caload B W101 (d_method_5_20) f103 (by decide) (show List.getD ([(.int q0), (.int q1), (.int q2), (.int q3), (.int q4), (.int q5), (.int q6), (.int q7)] : List Value) _ _ = (.int q0) from rfl) ?_
  obtain ⟨T104, h104, W104, K104, A104, st104⟩ := x_castore B W101 (j := 0) (x := q0) (d_method_5_21) A101 (by decide) (Nat.lt_of_lt_of_eq (show Int32.toNatClampNeg 0 < 1 by decide) rfl) (by omega) #[.val (.ref ar), .val (.int 1)] [(.ref b101)]
  refine st104 _ ?_
  rw [nq0] at A104
  have A104 : Arv Z h104 b101 cA101 .char 1 [(.int q0)] (.int 0) := A104
  have s105 := K104.1
  exact r_a B W104 rfl rfl rfl (d_method_5_22) (by decide) (by decide) ⟨_, _, rfl, by omega, (((Keep.refl h0 []).trans K101 all0).trans K104 (allS (Or.inr (by omega)) all0)), A104⟩
theorem ef_pre2 (m : MethodId) (ar : Addr) (kA : ClassId) (q0 : Int32) (q1 : Int32) (q2 : Int32) (q3 : Int32) (q4 : Int32) (q5 : Int32) (q6 : Int32) (q7 : Int32) : entryFrame m #[(.ref ar), (.int 2)] 2 = mkF m 0 #[.val (.ref ar), .val (.int 2)] [] := by first | (simp [entryFrame, mkF, argsToLocals, Value.category]; done) | rfl
def Q_pre2 (Z : State) (ar : Addr) (kA : ClassId) (q0 : Int32) (q1 : Int32) (q2 : Int32) (q3 : Int32) (q4 : Int32) (q5 : Int32) (q6 : Int32) (q7 : Int32) (h0 : Heap) (v : Option Value) (h : Heap) : Prop := ∃ (b : Addr) (kB : ClassId), v = some (.ref b) ∧ h0.size ≤ b ∧ Keep h0 h [] ∧ Arv Z h b kB .char 2 [.int q0, .int q1] (.int 0)
set_option maxRecDepth 65536 in
set_option maxHeartbeats 40000000 in
theorem c_pre2 (l : Launch) (Z : State) (a0 : Array Value) (hw : ∀ d ∈ tables_1, d.before a0 Z = true) (ar : Addr) (kA : ClassId) (q0 : Int32) (q1 : Int32) (q2 : Int32) (q3 : Int32) (q4 : Int32) (q5 : Int32) (q6 : Int32) (q7 : Int32) (h0 : Heap) (A1 : Arv Z h0 ar kA .char 8 [.int q0, .int q1, .int q2, .int q3, .int q4, .int q5, .int q6, .int q7] (.int 0)) (nq0 : nar .char q0 = q0) (nq1 : nar .char q1 = q1) (nq2 : nar .char q2 = q2) (nq3 : nar .char q3 = q3) (nq4 : nar .char q4 = q4) (nq5 : nar .char q5 = q5) (nq6 : nar .char q6 = q6) (nq7 : nar .char q7 = q7) :
    Con l Z (⟨"com/example/presswright/presswright/publishing/PagePathIsPagePathPinLaw", "prefix", "([CI)[C"⟩ : MethodName) method_5_code 2 (Option.some (FieldType.array FieldType.char)) [] ({ frames := 0, cells := 1, slots := 2, locals := 0 } : Room) #[(.ref ar), (.int 2)] h0 (Q_pre2 Z ar kA q0 q1 q2 q3 q4 q5 q6 q7 h0) [] := by
  refine Con.of (plainFor_of_name pn_com_example_presswright_presswright_publishing_PagePathIsPagePathPinLaw) ?_
  intro p e s m below meth c T0 B W0
  refine Go.cast (ef_pre2 m ar kA q0 q1 q2 q3 q4 q5 q6 q7 ) ?_
  have l_ar := nlt A1.lt
  refine g_iload_n B W0 (d_method_5_0) rfl ?_
  refine g_if_y B W0 (d_method_5_1) (XT.i0_ne_t (by decide)) (pc' := 8) (by decide) ?_
  show Go p.tables e below _ T0 (mkF m 8 #[.val (.ref ar), .val (.int 2)] [])
  refine g_iload_n B W0 (d_method_5_8) rfl ?_
  refine g_iconst B W0 (d_method_5_9) (v := 1) (by decide) ?_
  refine g_icmp_y B W0 (d_method_5_10) (XT.ii_ne_t (by decide)) (pc' := 23) (by decide) ?_
  show Go p.tables e below _ T0 (mkF m 23 #[.val (.ref ar), .val (.int 2)] [])
  refine g_iload_n B W0 (d_method_5_23) rfl ?_
  refine g_iconst B W0 (d_method_5_24) (v := 2) (by decide) ?_
  refine g_icmp_n B W0 (d_method_5_25) (XT.ii_ne_f (by decide)) ?_
  show Go p.tables e below _ T0 (mkF m 28 #[.val (.ref ar), .val (.int 2)] [])
  refine g_iconst B W0 (d_method_5_28) (v := 2) (by decide) ?_
  obtain ⟨T101, h101, b101, cA101, gb101, W101, K101, A101, st101⟩ := x_newA B W0 (z := 2) 2 (d_method_5_29) (tw hw 0 rfl) (by decide) (by decide) (by decide) (by decide) (by decide) #[.val (.ref ar), .val (.int 2)] []
  have l101 := nlt A101.lt
  have z101 := W0.size
  refine st101 _ ?_
  have s102 := K101.1
  refine g_dup B W101 (d_method_5_31) rfl ?_
  refine g_iconst B W101 (d_method_5_32) (v := 0) (by decide) ?_
  refine g_aload_n B W101 (d_method_5_33) rfl rfl ?_
  refine g_iconst B W101 (d_method_5_34) (v := 0) (by decide) ?_
  have f103 := (A1.keep K101 nin0)
  refine g_caload B W101 (d_method_5_35) f103 (by decide) (show List.getD ([(.int q0), (.int q1), (.int q2), (.int q3), (.int q4), (.int q5), (.int q6), (.int q7)] : List Value) _ _ = (.int q0) from rfl) ?_
  obtain ⟨T104, h104, W104, K104, A104, st104⟩ := x_castore B W101 (j := 0) (x := q0) (d_method_5_36) A101 (by decide) (Nat.lt_of_lt_of_eq (show Int32.toNatClampNeg 0 < 2 by decide) rfl) (by omega) #[.val (.ref ar), .val (.int 2)] [(.ref b101)]
  refine st104 _ ?_
  rw [nq0] at A104
  have A104 : Arv Z h104 b101 cA101 .char 2 [(.int q0), (.int 0)] (.int 0) := A104
  have s105 := K104.1
  refine g_dup B W104 (d_method_5_37) rfl ?_
  refine g_iconst B W104 (d_method_5_38) (v := 1) (by decide) ?_
  refine g_aload_n B W104 (d_method_5_39) rfl rfl ?_
  refine g_iconst B W104 (d_method_5_40) (v := 1) (by decide) ?_
  have f106 := (f103.keep K104 (ninS (nne (by have q := nlt f103.lt; omega)) nin0))
  refine g_caload B W104 (d_method_5_41) f106 (by decide) (show List.getD ([(.int q0), (.int q1), (.int q2), (.int q3), (.int q4), (.int q5), (.int q6), (.int q7)] : List Value) _ _ = (.int q1) from rfl) ?_
  obtain ⟨T107, h107, W107, K107, A107, st107⟩ := x_castore B W104 (j := 1) (x := q1) (d_method_5_42) A104 (by decide) (Nat.lt_of_lt_of_eq (show Int32.toNatClampNeg 1 < 2 by decide) rfl) (by omega) #[.val (.ref ar), .val (.int 2)] [(.ref b101)]
  refine st107 _ ?_
  rw [nq1] at A107
  have A107 : Arv Z h107 b101 cA101 .char 2 [(.int q0), (.int q1)] (.int 0) := A107
  have s108 := K107.1
  exact r_a B W107 rfl rfl rfl (d_method_5_43) (by decide) (by decide) ⟨_, _, rfl, by omega, ((((Keep.refl h0 []).trans K101 all0).trans K104 (allS (Or.inr (by omega)) all0)).trans K107 (allS (Or.inr (by omega)) all0)), A107⟩
theorem ef_pre3 (m : MethodId) (ar : Addr) (kA : ClassId) (q0 : Int32) (q1 : Int32) (q2 : Int32) (q3 : Int32) (q4 : Int32) (q5 : Int32) (q6 : Int32) (q7 : Int32) : entryFrame m #[(.ref ar), (.int 3)] 2 = mkF m 0 #[.val (.ref ar), .val (.int 3)] [] := by first | (simp [entryFrame, mkF, argsToLocals, Value.category]; done) | rfl
def Q_pre3 (Z : State) (ar : Addr) (kA : ClassId) (q0 : Int32) (q1 : Int32) (q2 : Int32) (q3 : Int32) (q4 : Int32) (q5 : Int32) (q6 : Int32) (q7 : Int32) (h0 : Heap) (v : Option Value) (h : Heap) : Prop := ∃ (b : Addr) (kB : ClassId), v = some (.ref b) ∧ h0.size ≤ b ∧ Keep h0 h [] ∧ Arv Z h b kB .char 3 [.int q0, .int q1, .int q2] (.int 0)
set_option maxRecDepth 65536 in
set_option maxHeartbeats 40000000 in
theorem c_pre3 (l : Launch) (Z : State) (a0 : Array Value) (hw : ∀ d ∈ tables_1, d.before a0 Z = true) (ar : Addr) (kA : ClassId) (q0 : Int32) (q1 : Int32) (q2 : Int32) (q3 : Int32) (q4 : Int32) (q5 : Int32) (q6 : Int32) (q7 : Int32) (h0 : Heap) (A1 : Arv Z h0 ar kA .char 8 [.int q0, .int q1, .int q2, .int q3, .int q4, .int q5, .int q6, .int q7] (.int 0)) (nq0 : nar .char q0 = q0) (nq1 : nar .char q1 = q1) (nq2 : nar .char q2 = q2) (nq3 : nar .char q3 = q3) (nq4 : nar .char q4 = q4) (nq5 : nar .char q5 = q5) (nq6 : nar .char q6 = q6) (nq7 : nar .char q7 = q7) :
    Con l Z (⟨"com/example/presswright/presswright/publishing/PagePathIsPagePathPinLaw", "prefix", "([CI)[C"⟩ : MethodName) method_5_code 2 (Option.some (FieldType.array FieldType.char)) [] ({ frames := 0, cells := 1, slots := 3, locals := 0 } : Room) #[(.ref ar), (.int 3)] h0 (Q_pre3 Z ar kA q0 q1 q2 q3 q4 q5 q6 q7 h0) [] := by
  refine Con.of (plainFor_of_name pn_com_example_presswright_presswright_publishing_PagePathIsPagePathPinLaw) ?_
  intro p e s m below meth c T0 B W0
  refine Go.cast (ef_pre3 m ar kA q0 q1 q2 q3 q4 q5 q6 q7 ) ?_
  have l_ar := nlt A1.lt
  refine g_iload_n B W0 (d_method_5_0) rfl ?_
  refine g_if_y B W0 (d_method_5_1) (XT.i0_ne_t (by decide)) (pc' := 8) (by decide) ?_
  show Go p.tables e below _ T0 (mkF m 8 #[.val (.ref ar), .val (.int 3)] [])
  refine g_iload_n B W0 (d_method_5_8) rfl ?_
  refine g_iconst B W0 (d_method_5_9) (v := 1) (by decide) ?_
  refine g_icmp_y B W0 (d_method_5_10) (XT.ii_ne_t (by decide)) (pc' := 23) (by decide) ?_
  show Go p.tables e below _ T0 (mkF m 23 #[.val (.ref ar), .val (.int 3)] [])
  refine g_iload_n B W0 (d_method_5_23) rfl ?_
  refine g_iconst B W0 (d_method_5_24) (v := 2) (by decide) ?_
  refine g_icmp_y B W0 (d_method_5_25) (XT.ii_ne_t (by decide)) (pc' := 44) (by decide) ?_
  show Go p.tables e below _ T0 (mkF m 44 #[.val (.ref ar), .val (.int 3)] [])
  refine g_iload_n B W0 (d_method_5_44) rfl ?_
  refine g_iconst B W0 (d_method_5_45) (v := 3) (by decide) ?_
  refine g_icmp_n B W0 (d_method_5_46) (XT.ii_ne_f (by decide)) ?_
  show Go p.tables e below _ T0 (mkF m 49 #[.val (.ref ar), .val (.int 3)] [])
  refine g_iconst B W0 (d_method_5_49) (v := 3) (by decide) ?_
  obtain ⟨T101, h101, b101, cA101, gb101, W101, K101, A101, st101⟩ := x_newA B W0 (z := 3) 3 (d_method_5_50) (tw hw 0 rfl) (by decide) (by decide) (by decide) (by decide) (by decide) #[.val (.ref ar), .val (.int 3)] []
  have l101 := nlt A101.lt
  have z101 := W0.size
  refine st101 _ ?_
  have s102 := K101.1
  refine g_dup B W101 (d_method_5_52) rfl ?_
  refine g_iconst B W101 (d_method_5_53) (v := 0) (by decide) ?_
  refine g_aload_n B W101 (d_method_5_54) rfl rfl ?_
  refine g_iconst B W101 (d_method_5_55) (v := 0) (by decide) ?_
  have f103 := (A1.keep K101 nin0)
  refine g_caload B W101 (d_method_5_56) f103 (by decide) (show List.getD ([(.int q0), (.int q1), (.int q2), (.int q3), (.int q4), (.int q5), (.int q6), (.int q7)] : List Value) _ _ = (.int q0) from rfl) ?_
  obtain ⟨T104, h104, W104, K104, A104, st104⟩ := x_castore B W101 (j := 0) (x := q0) (d_method_5_57) A101 (by decide) (Nat.lt_of_lt_of_eq (show Int32.toNatClampNeg 0 < 3 by decide) rfl) (by omega) #[.val (.ref ar), .val (.int 3)] [(.ref b101)]
  refine st104 _ ?_
  rw [nq0] at A104
  have A104 : Arv Z h104 b101 cA101 .char 3 [(.int q0), (.int 0), (.int 0)] (.int 0) := A104
  have s105 := K104.1
  refine g_dup B W104 (d_method_5_58) rfl ?_
  refine g_iconst B W104 (d_method_5_59) (v := 1) (by decide) ?_
  refine g_aload_n B W104 (d_method_5_60) rfl rfl ?_
  refine g_iconst B W104 (d_method_5_61) (v := 1) (by decide) ?_
  have f106 := (f103.keep K104 (ninS (nne (by have q := nlt f103.lt; omega)) nin0))
  refine g_caload B W104 (d_method_5_62) f106 (by decide) (show List.getD ([(.int q0), (.int q1), (.int q2), (.int q3), (.int q4), (.int q5), (.int q6), (.int q7)] : List Value) _ _ = (.int q1) from rfl) ?_
  obtain ⟨T107, h107, W107, K107, A107, st107⟩ := x_castore B W104 (j := 1) (x := q1) (d_method_5_63) A104 (by decide) (Nat.lt_of_lt_of_eq (show Int32.toNatClampNeg 1 < 3 by decide) rfl) (by omega) #[.val (.ref ar), .val (.int 3)] [(.ref b101)]
  refine st107 _ ?_
  rw [nq1] at A107
  have A107 : Arv Z h107 b101 cA101 .char 3 [(.int q0), (.int q1), (.int 0)] (.int 0) := A107
  have s108 := K107.1
  refine g_dup B W107 (d_method_5_64) rfl ?_
  refine g_iconst B W107 (d_method_5_65) (v := 2) (by decide) ?_
  refine g_aload_n B W107 (d_method_5_66) rfl rfl ?_
  refine g_iconst B W107 (d_method_5_67) (v := 2) (by decide) ?_
  have f109 := (f106.keep K107 (ninS (nne (by have q := nlt f106.lt; omega)) nin0))
  refine g_caload B W107 (d_method_5_68) f109 (by decide) (show List.getD ([(.int q0), (.int q1), (.int q2), (.int q3), (.int q4), (.int q5), (.int q6), (.int q7)] : List Value) _ _ = (.int q2) from rfl) ?_
  obtain ⟨T110, h110, W110, K110, A110, st110⟩ := x_castore B W107 (j := 2) (x := q2) (d_method_5_69) A107 (by decide) (Nat.lt_of_lt_of_eq (show Int32.toNatClampNeg 2 < 3 by decide) rfl) (by omega) #[.val (.ref ar), .val (.int 3)] [(.ref b101)]
  refine st110 _ ?_
  rw [nq2] at A110
  have A110 : Arv Z h110 b101 cA101 .char 3 [(.int q0), (.int q1), (.int q2)] (.int 0) := A110
  have s111 := K110.1
  exact r_a B W110 rfl rfl rfl (d_method_5_70) (by decide) (by decide) ⟨_, _, rfl, by omega, (((((Keep.refl h0 []).trans K101 all0).trans K104 (allS (Or.inr (by omega)) all0)).trans K107 (allS (Or.inr (by omega)) all0)).trans K110 (allS (Or.inr (by omega)) all0)), A110⟩
theorem ef_pre4 (m : MethodId) (ar : Addr) (kA : ClassId) (q0 : Int32) (q1 : Int32) (q2 : Int32) (q3 : Int32) (q4 : Int32) (q5 : Int32) (q6 : Int32) (q7 : Int32) : entryFrame m #[(.ref ar), (.int 4)] 2 = mkF m 0 #[.val (.ref ar), .val (.int 4)] [] := by first | (simp [entryFrame, mkF, argsToLocals, Value.category]; done) | rfl
def Q_pre4 (Z : State) (ar : Addr) (kA : ClassId) (q0 : Int32) (q1 : Int32) (q2 : Int32) (q3 : Int32) (q4 : Int32) (q5 : Int32) (q6 : Int32) (q7 : Int32) (h0 : Heap) (v : Option Value) (h : Heap) : Prop := ∃ (b : Addr) (kB : ClassId), v = some (.ref b) ∧ h0.size ≤ b ∧ Keep h0 h [] ∧ Arv Z h b kB .char 4 [.int q0, .int q1, .int q2, .int q3] (.int 0)
set_option maxRecDepth 65536 in
set_option maxHeartbeats 40000000 in
theorem c_pre4 (l : Launch) (Z : State) (a0 : Array Value) (hw : ∀ d ∈ tables_1, d.before a0 Z = true) (ar : Addr) (kA : ClassId) (q0 : Int32) (q1 : Int32) (q2 : Int32) (q3 : Int32) (q4 : Int32) (q5 : Int32) (q6 : Int32) (q7 : Int32) (h0 : Heap) (A1 : Arv Z h0 ar kA .char 8 [.int q0, .int q1, .int q2, .int q3, .int q4, .int q5, .int q6, .int q7] (.int 0)) (nq0 : nar .char q0 = q0) (nq1 : nar .char q1 = q1) (nq2 : nar .char q2 = q2) (nq3 : nar .char q3 = q3) (nq4 : nar .char q4 = q4) (nq5 : nar .char q5 = q5) (nq6 : nar .char q6 = q6) (nq7 : nar .char q7 = q7) :
    Con l Z (⟨"com/example/presswright/presswright/publishing/PagePathIsPagePathPinLaw", "prefix", "([CI)[C"⟩ : MethodName) method_5_code 2 (Option.some (FieldType.array FieldType.char)) [] ({ frames := 0, cells := 1, slots := 4, locals := 0 } : Room) #[(.ref ar), (.int 4)] h0 (Q_pre4 Z ar kA q0 q1 q2 q3 q4 q5 q6 q7 h0) [] := by
  refine Con.of (plainFor_of_name pn_com_example_presswright_presswright_publishing_PagePathIsPagePathPinLaw) ?_
  intro p e s m below meth c T0 B W0
  refine Go.cast (ef_pre4 m ar kA q0 q1 q2 q3 q4 q5 q6 q7 ) ?_
  have l_ar := nlt A1.lt
  refine g_iload_n B W0 (d_method_5_0) rfl ?_
  refine g_if_y B W0 (d_method_5_1) (XT.i0_ne_t (by decide)) (pc' := 8) (by decide) ?_
  show Go p.tables e below _ T0 (mkF m 8 #[.val (.ref ar), .val (.int 4)] [])
  refine g_iload_n B W0 (d_method_5_8) rfl ?_
  refine g_iconst B W0 (d_method_5_9) (v := 1) (by decide) ?_
  refine g_icmp_y B W0 (d_method_5_10) (XT.ii_ne_t (by decide)) (pc' := 23) (by decide) ?_
  show Go p.tables e below _ T0 (mkF m 23 #[.val (.ref ar), .val (.int 4)] [])
  refine g_iload_n B W0 (d_method_5_23) rfl ?_
  refine g_iconst B W0 (d_method_5_24) (v := 2) (by decide) ?_
  refine g_icmp_y B W0 (d_method_5_25) (XT.ii_ne_t (by decide)) (pc' := 44) (by decide) ?_
  show Go p.tables e below _ T0 (mkF m 44 #[.val (.ref ar), .val (.int 4)] [])
  refine g_iload_n B W0 (d_method_5_44) rfl ?_
  refine g_iconst B W0 (d_method_5_45) (v := 3) (by decide) ?_
  refine g_icmp_y B W0 (d_method_5_46) (XT.ii_ne_t (by decide)) (pc' := 71) (by decide) ?_
  show Go p.tables e below _ T0 (mkF m 71 #[.val (.ref ar), .val (.int 4)] [])
  refine g_iload_n B W0 (d_method_5_71) rfl ?_
  refine g_iconst B W0 (d_method_5_72) (v := 4) (by decide) ?_
  refine g_icmp_n B W0 (d_method_5_73) (XT.ii_ne_f (by decide)) ?_
  show Go p.tables e below _ T0 (mkF m 76 #[.val (.ref ar), .val (.int 4)] [])
  refine g_iconst B W0 (d_method_5_76) (v := 4) (by decide) ?_
  obtain ⟨T101, h101, b101, cA101, gb101, W101, K101, A101, st101⟩ := x_newA B W0 (z := 4) 4 (d_method_5_77) (tw hw 0 rfl) (by decide) (by decide) (by decide) (by decide) (by decide) #[.val (.ref ar), .val (.int 4)] []
  have l101 := nlt A101.lt
  have z101 := W0.size
  refine st101 _ ?_
  have s102 := K101.1
  refine g_dup B W101 (d_method_5_79) rfl ?_
  refine g_iconst B W101 (d_method_5_80) (v := 0) (by decide) ?_
  refine g_aload_n B W101 (d_method_5_81) rfl rfl ?_
  refine g_iconst B W101 (d_method_5_82) (v := 0) (by decide) ?_
  have f103 := (A1.keep K101 nin0)
  refine g_caload B W101 (d_method_5_83) f103 (by decide) (show List.getD ([(.int q0), (.int q1), (.int q2), (.int q3), (.int q4), (.int q5), (.int q6), (.int q7)] : List Value) _ _ = (.int q0) from rfl) ?_
  obtain ⟨T104, h104, W104, K104, A104, st104⟩ := x_castore B W101 (j := 0) (x := q0) (d_method_5_84) A101 (by decide) (Nat.lt_of_lt_of_eq (show Int32.toNatClampNeg 0 < 4 by decide) rfl) (by omega) #[.val (.ref ar), .val (.int 4)] [(.ref b101)]
  refine st104 _ ?_
  rw [nq0] at A104
  have A104 : Arv Z h104 b101 cA101 .char 4 [(.int q0), (.int 0), (.int 0), (.int 0)] (.int 0) := A104
  have s105 := K104.1
  refine g_dup B W104 (d_method_5_85) rfl ?_
  refine g_iconst B W104 (d_method_5_86) (v := 1) (by decide) ?_
  refine g_aload_n B W104 (d_method_5_87) rfl rfl ?_
  refine g_iconst B W104 (d_method_5_88) (v := 1) (by decide) ?_
  have f106 := (f103.keep K104 (ninS (nne (by have q := nlt f103.lt; omega)) nin0))
  refine g_caload B W104 (d_method_5_89) f106 (by decide) (show List.getD ([(.int q0), (.int q1), (.int q2), (.int q3), (.int q4), (.int q5), (.int q6), (.int q7)] : List Value) _ _ = (.int q1) from rfl) ?_
  obtain ⟨T107, h107, W107, K107, A107, st107⟩ := x_castore B W104 (j := 1) (x := q1) (d_method_5_90) A104 (by decide) (Nat.lt_of_lt_of_eq (show Int32.toNatClampNeg 1 < 4 by decide) rfl) (by omega) #[.val (.ref ar), .val (.int 4)] [(.ref b101)]
  refine st107 _ ?_
  rw [nq1] at A107
  have A107 : Arv Z h107 b101 cA101 .char 4 [(.int q0), (.int q1), (.int 0), (.int 0)] (.int 0) := A107
  have s108 := K107.1
  refine g_dup B W107 (d_method_5_91) rfl ?_
  refine g_iconst B W107 (d_method_5_92) (v := 2) (by decide) ?_
  refine g_aload_n B W107 (d_method_5_93) rfl rfl ?_
  refine g_iconst B W107 (d_method_5_94) (v := 2) (by decide) ?_
  have f109 := (f106.keep K107 (ninS (nne (by have q := nlt f106.lt; omega)) nin0))
  refine g_caload B W107 (d_method_5_95) f109 (by decide) (show List.getD ([(.int q0), (.int q1), (.int q2), (.int q3), (.int q4), (.int q5), (.int q6), (.int q7)] : List Value) _ _ = (.int q2) from rfl) ?_
  obtain ⟨T110, h110, W110, K110, A110, st110⟩ := x_castore B W107 (j := 2) (x := q2) (d_method_5_96) A107 (by decide) (Nat.lt_of_lt_of_eq (show Int32.toNatClampNeg 2 < 4 by decide) rfl) (by omega) #[.val (.ref ar), .val (.int 4)] [(.ref b101)]
  refine st110 _ ?_
  rw [nq2] at A110
  have A110 : Arv Z h110 b101 cA101 .char 4 [(.int q0), (.int q1), (.int q2), (.int 0)] (.int 0) := A110
  have s111 := K110.1
  refine g_dup B W110 (d_method_5_97) rfl ?_
  refine g_iconst B W110 (d_method_5_98) (v := 3) (by decide) ?_
  refine g_aload_n B W110 (d_method_5_99) rfl rfl ?_
  refine g_iconst B W110 (d_method_5_100) (v := 3) (by decide) ?_
  have f112 := (f109.keep K110 (ninS (nne (by have q := nlt f109.lt; omega)) nin0))
  refine g_caload B W110 (d_method_5_101) f112 (by decide) (show List.getD ([(.int q0), (.int q1), (.int q2), (.int q3), (.int q4), (.int q5), (.int q6), (.int q7)] : List Value) _ _ = (.int q3) from rfl) ?_
  obtain ⟨T113, h113, W113, K113, A113, st113⟩ := x_castore B W110 (j := 3) (x := q3) (d_method_5_102) A110 (by decide) (Nat.lt_of_lt_of_eq (show Int32.toNatClampNeg 3 < 4 by decide) rfl) (by omega) #[.val (.ref ar), .val (.int 4)] [(.ref b101)]
  refine st113 _ ?_
  rw [nq3] at A113
  have A113 : Arv Z h113 b101 cA101 .char 4 [(.int q0), (.int q1), (.int q2), (.int q3)] (.int 0) := A113
  have s114 := K113.1
  exact r_a B W113 rfl rfl rfl (d_method_5_103) (by decide) (by decide) ⟨_, _, rfl, by omega, ((((((Keep.refl h0 []).trans K101 all0).trans K104 (allS (Or.inr (by omega)) all0)).trans K107 (allS (Or.inr (by omega)) all0)).trans K110 (allS (Or.inr (by omega)) all0)).trans K113 (allS (Or.inr (by omega)) all0)), A113⟩
theorem ef_pre5 (m : MethodId) (ar : Addr) (kA : ClassId) (q0 : Int32) (q1 : Int32) (q2 : Int32) (q3 : Int32) (q4 : Int32) (q5 : Int32) (q6 : Int32) (q7 : Int32) : entryFrame m #[(.ref ar), (.int 5)] 2 = mkF m 0 #[.val (.ref ar), .val (.int 5)] [] := by first | (simp [entryFrame, mkF, argsToLocals, Value.category]; done) | rfl
def Q_pre5 (Z : State) (ar : Addr) (kA : ClassId) (q0 : Int32) (q1 : Int32) (q2 : Int32) (q3 : Int32) (q4 : Int32) (q5 : Int32) (q6 : Int32) (q7 : Int32) (h0 : Heap) (v : Option Value) (h : Heap) : Prop := ∃ (b : Addr) (kB : ClassId), v = some (.ref b) ∧ h0.size ≤ b ∧ Keep h0 h [] ∧ Arv Z h b kB .char 5 [.int q0, .int q1, .int q2, .int q3, .int q4] (.int 0)
set_option maxRecDepth 65536 in
set_option maxHeartbeats 40000000 in
theorem c_pre5 (l : Launch) (Z : State) (a0 : Array Value) (hw : ∀ d ∈ tables_1, d.before a0 Z = true) (ar : Addr) (kA : ClassId) (q0 : Int32) (q1 : Int32) (q2 : Int32) (q3 : Int32) (q4 : Int32) (q5 : Int32) (q6 : Int32) (q7 : Int32) (h0 : Heap) (A1 : Arv Z h0 ar kA .char 8 [.int q0, .int q1, .int q2, .int q3, .int q4, .int q5, .int q6, .int q7] (.int 0)) (nq0 : nar .char q0 = q0) (nq1 : nar .char q1 = q1) (nq2 : nar .char q2 = q2) (nq3 : nar .char q3 = q3) (nq4 : nar .char q4 = q4) (nq5 : nar .char q5 = q5) (nq6 : nar .char q6 = q6) (nq7 : nar .char q7 = q7) :
    Con l Z (⟨"com/example/presswright/presswright/publishing/PagePathIsPagePathPinLaw", "prefix", "([CI)[C"⟩ : MethodName) method_5_code 2 (Option.some (FieldType.array FieldType.char)) [] ({ frames := 0, cells := 1, slots := 5, locals := 0 } : Room) #[(.ref ar), (.int 5)] h0 (Q_pre5 Z ar kA q0 q1 q2 q3 q4 q5 q6 q7 h0) [] := by
  refine Con.of (plainFor_of_name pn_com_example_presswright_presswright_publishing_PagePathIsPagePathPinLaw) ?_
  intro p e s m below meth c T0 B W0
  refine Go.cast (ef_pre5 m ar kA q0 q1 q2 q3 q4 q5 q6 q7 ) ?_
  have l_ar := nlt A1.lt
  refine g_iload_n B W0 (d_method_5_0) rfl ?_
  refine g_if_y B W0 (d_method_5_1) (XT.i0_ne_t (by decide)) (pc' := 8) (by decide) ?_
  show Go p.tables e below _ T0 (mkF m 8 #[.val (.ref ar), .val (.int 5)] [])
  refine g_iload_n B W0 (d_method_5_8) rfl ?_
  refine g_iconst B W0 (d_method_5_9) (v := 1) (by decide) ?_
  refine g_icmp_y B W0 (d_method_5_10) (XT.ii_ne_t (by decide)) (pc' := 23) (by decide) ?_
  show Go p.tables e below _ T0 (mkF m 23 #[.val (.ref ar), .val (.int 5)] [])
  refine g_iload_n B W0 (d_method_5_23) rfl ?_
  refine g_iconst B W0 (d_method_5_24) (v := 2) (by decide) ?_
  refine g_icmp_y B W0 (d_method_5_25) (XT.ii_ne_t (by decide)) (pc' := 44) (by decide) ?_
  show Go p.tables e below _ T0 (mkF m 44 #[.val (.ref ar), .val (.int 5)] [])
  refine g_iload_n B W0 (d_method_5_44) rfl ?_
  refine g_iconst B W0 (d_method_5_45) (v := 3) (by decide) ?_
  refine g_icmp_y B W0 (d_method_5_46) (XT.ii_ne_t (by decide)) (pc' := 71) (by decide) ?_
  show Go p.tables e below _ T0 (mkF m 71 #[.val (.ref ar), .val (.int 5)] [])
  refine g_iload_n B W0 (d_method_5_71) rfl ?_
  refine g_iconst B W0 (d_method_5_72) (v := 4) (by decide) ?_
  refine g_icmp_y B W0 (d_method_5_73) (XT.ii_ne_t (by decide)) (pc' := 104) (by decide) ?_
  show Go p.tables e below _ T0 (mkF m 104 #[.val (.ref ar), .val (.int 5)] [])
  refine g_iload_n B W0 (d_method_5_104) rfl ?_
  refine g_iconst B W0 (d_method_5_105) (v := 5) (by decide) ?_
  refine g_icmp_n B W0 (d_method_5_106) (XT.ii_ne_f (by decide)) ?_
  show Go p.tables e below _ T0 (mkF m 109 #[.val (.ref ar), .val (.int 5)] [])
  refine g_iconst B W0 (d_method_5_109) (v := 5) (by decide) ?_
  obtain ⟨T101, h101, b101, cA101, gb101, W101, K101, A101, st101⟩ := x_newA B W0 (z := 5) 5 (d_method_5_110) (tw hw 0 rfl) (by decide) (by decide) (by decide) (by decide) (by decide) #[.val (.ref ar), .val (.int 5)] []
  have l101 := nlt A101.lt
  have z101 := W0.size
  refine st101 _ ?_
  have s102 := K101.1
  refine g_dup B W101 (d_method_5_112) rfl ?_
  refine g_iconst B W101 (d_method_5_113) (v := 0) (by decide) ?_
  refine g_aload_n B W101 (d_method_5_114) rfl rfl ?_
  refine g_iconst B W101 (d_method_5_115) (v := 0) (by decide) ?_
  have f103 := (A1.keep K101 nin0)
  refine g_caload B W101 (d_method_5_116) f103 (by decide) (show List.getD ([(.int q0), (.int q1), (.int q2), (.int q3), (.int q4), (.int q5), (.int q6), (.int q7)] : List Value) _ _ = (.int q0) from rfl) ?_
  obtain ⟨T104, h104, W104, K104, A104, st104⟩ := x_castore B W101 (j := 0) (x := q0) (d_method_5_117) A101 (by decide) (Nat.lt_of_lt_of_eq (show Int32.toNatClampNeg 0 < 5 by decide) rfl) (by omega) #[.val (.ref ar), .val (.int 5)] [(.ref b101)]
  refine st104 _ ?_
  rw [nq0] at A104
  have A104 : Arv Z h104 b101 cA101 .char 5 [(.int q0), (.int 0), (.int 0), (.int 0), (.int 0)] (.int 0) := A104
  have s105 := K104.1
  refine g_dup B W104 (d_method_5_118) rfl ?_
  refine g_iconst B W104 (d_method_5_119) (v := 1) (by decide) ?_
  refine g_aload_n B W104 (d_method_5_120) rfl rfl ?_
  refine g_iconst B W104 (d_method_5_121) (v := 1) (by decide) ?_
  have f106 := (f103.keep K104 (ninS (nne (by have q := nlt f103.lt; omega)) nin0))
  refine g_caload B W104 (d_method_5_122) f106 (by decide) (show List.getD ([(.int q0), (.int q1), (.int q2), (.int q3), (.int q4), (.int q5), (.int q6), (.int q7)] : List Value) _ _ = (.int q1) from rfl) ?_
  obtain ⟨T107, h107, W107, K107, A107, st107⟩ := x_castore B W104 (j := 1) (x := q1) (d_method_5_123) A104 (by decide) (Nat.lt_of_lt_of_eq (show Int32.toNatClampNeg 1 < 5 by decide) rfl) (by omega) #[.val (.ref ar), .val (.int 5)] [(.ref b101)]
  refine st107 _ ?_
  rw [nq1] at A107
  have A107 : Arv Z h107 b101 cA101 .char 5 [(.int q0), (.int q1), (.int 0), (.int 0), (.int 0)] (.int 0) := A107
  have s108 := K107.1
  refine g_dup B W107 (d_method_5_124) rfl ?_
  refine g_iconst B W107 (d_method_5_125) (v := 2) (by decide) ?_
  refine g_aload_n B W107 (d_method_5_126) rfl rfl ?_
  refine g_iconst B W107 (d_method_5_127) (v := 2) (by decide) ?_
  have f109 := (f106.keep K107 (ninS (nne (by have q := nlt f106.lt; omega)) nin0))
  refine g_caload B W107 (d_method_5_128) f109 (by decide) (show List.getD ([(.int q0), (.int q1), (.int q2), (.int q3), (.int q4), (.int q5), (.int q6), (.int q7)] : List Value) _ _ = (.int q2) from rfl) ?_
  obtain ⟨T110, h110, W110, K110, A110, st110⟩ := x_castore B W107 (j := 2) (x := q2) (d_method_5_129) A107 (by decide) (Nat.lt_of_lt_of_eq (show Int32.toNatClampNeg 2 < 5 by decide) rfl) (by omega) #[.val (.ref ar), .val (.int 5)] [(.ref b101)]
  refine st110 _ ?_
  rw [nq2] at A110
  have A110 : Arv Z h110 b101 cA101 .char 5 [(.int q0), (.int q1), (.int q2), (.int 0), (.int 0)] (.int 0) := A110
  have s111 := K110.1
  refine g_dup B W110 (d_method_5_130) rfl ?_
  refine g_iconst B W110 (d_method_5_131) (v := 3) (by decide) ?_
  refine g_aload_n B W110 (d_method_5_132) rfl rfl ?_
  refine g_iconst B W110 (d_method_5_133) (v := 3) (by decide) ?_
  have f112 := (f109.keep K110 (ninS (nne (by have q := nlt f109.lt; omega)) nin0))
  refine g_caload B W110 (d_method_5_134) f112 (by decide) (show List.getD ([(.int q0), (.int q1), (.int q2), (.int q3), (.int q4), (.int q5), (.int q6), (.int q7)] : List Value) _ _ = (.int q3) from rfl) ?_
  obtain ⟨T113, h113, W113, K113, A113, st113⟩ := x_castore B W110 (j := 3) (x := q3) (d_method_5_135) A110 (by decide) (Nat.lt_of_lt_of_eq (show Int32.toNatClampNeg 3 < 5 by decide) rfl) (by omega) #[.val (.ref ar), .val (.int 5)] [(.ref b101)]
  refine st113 _ ?_
  rw [nq3] at A113
  have A113 : Arv Z h113 b101 cA101 .char 5 [(.int q0), (.int q1), (.int q2), (.int q3), (.int 0)] (.int 0) := A113
  have s114 := K113.1
  refine g_dup B W113 (d_method_5_136) rfl ?_
  refine g_iconst B W113 (d_method_5_137) (v := 4) (by decide) ?_
  refine g_aload_n B W113 (d_method_5_138) rfl rfl ?_
  refine g_iconst B W113 (d_method_5_139) (v := 4) (by decide) ?_
  have f115 := (f112.keep K113 (ninS (nne (by have q := nlt f112.lt; omega)) nin0))
  refine g_caload B W113 (d_method_5_140) f115 (by decide) (show List.getD ([(.int q0), (.int q1), (.int q2), (.int q3), (.int q4), (.int q5), (.int q6), (.int q7)] : List Value) _ _ = (.int q4) from rfl) ?_
  obtain ⟨T116, h116, W116, K116, A116, st116⟩ := x_castore B W113 (j := 4) (x := q4) (d_method_5_141) A113 (by decide) (Nat.lt_of_lt_of_eq (show Int32.toNatClampNeg 4 < 5 by decide) rfl) (by omega) #[.val (.ref ar), .val (.int 5)] [(.ref b101)]
  refine st116 _ ?_
  rw [nq4] at A116
  have A116 : Arv Z h116 b101 cA101 .char 5 [(.int q0), (.int q1), (.int q2), (.int q3), (.int q4)] (.int 0) := A116
  have s117 := K116.1
  exact r_a B W116 rfl rfl rfl (d_method_5_142) (by decide) (by decide) ⟨_, _, rfl, by omega, (((((((Keep.refl h0 []).trans K101 all0).trans K104 (allS (Or.inr (by omega)) all0)).trans K107 (allS (Or.inr (by omega)) all0)).trans K110 (allS (Or.inr (by omega)) all0)).trans K113 (allS (Or.inr (by omega)) all0)).trans K116 (allS (Or.inr (by omega)) all0)), A116⟩
theorem ef_pre6 (m : MethodId) (ar : Addr) (kA : ClassId) (q0 : Int32) (q1 : Int32) (q2 : Int32) (q3 : Int32) (q4 : Int32) (q5 : Int32) (q6 : Int32) (q7 : Int32) : entryFrame m #[(.ref ar), (.int 6)] 2 = mkF m 0 #[.val (.ref ar), .val (.int 6)] [] := by first | (simp [entryFrame, mkF, argsToLocals, Value.category]; done) | rfl
def Q_pre6 (Z : State) (ar : Addr) (kA : ClassId) (q0 : Int32) (q1 : Int32) (q2 : Int32) (q3 : Int32) (q4 : Int32) (q5 : Int32) (q6 : Int32) (q7 : Int32) (h0 : Heap) (v : Option Value) (h : Heap) : Prop := ∃ (b : Addr) (kB : ClassId), v = some (.ref b) ∧ h0.size ≤ b ∧ Keep h0 h [] ∧ Arv Z h b kB .char 6 [.int q0, .int q1, .int q2, .int q3, .int q4, .int q5] (.int 0)
set_option maxRecDepth 65536 in
set_option maxHeartbeats 40000000 in
theorem c_pre6 (l : Launch) (Z : State) (a0 : Array Value) (hw : ∀ d ∈ tables_1, d.before a0 Z = true) (ar : Addr) (kA : ClassId) (q0 : Int32) (q1 : Int32) (q2 : Int32) (q3 : Int32) (q4 : Int32) (q5 : Int32) (q6 : Int32) (q7 : Int32) (h0 : Heap) (A1 : Arv Z h0 ar kA .char 8 [.int q0, .int q1, .int q2, .int q3, .int q4, .int q5, .int q6, .int q7] (.int 0)) (nq0 : nar .char q0 = q0) (nq1 : nar .char q1 = q1) (nq2 : nar .char q2 = q2) (nq3 : nar .char q3 = q3) (nq4 : nar .char q4 = q4) (nq5 : nar .char q5 = q5) (nq6 : nar .char q6 = q6) (nq7 : nar .char q7 = q7) :
    Con l Z (⟨"com/example/presswright/presswright/publishing/PagePathIsPagePathPinLaw", "prefix", "([CI)[C"⟩ : MethodName) method_5_code 2 (Option.some (FieldType.array FieldType.char)) [] ({ frames := 0, cells := 1, slots := 6, locals := 0 } : Room) #[(.ref ar), (.int 6)] h0 (Q_pre6 Z ar kA q0 q1 q2 q3 q4 q5 q6 q7 h0) [] := by
  refine Con.of (plainFor_of_name pn_com_example_presswright_presswright_publishing_PagePathIsPagePathPinLaw) ?_
  intro p e s m below meth c T0 B W0
  refine Go.cast (ef_pre6 m ar kA q0 q1 q2 q3 q4 q5 q6 q7 ) ?_
  have l_ar := nlt A1.lt
  refine g_iload_n B W0 (d_method_5_0) rfl ?_
  refine g_if_y B W0 (d_method_5_1) (XT.i0_ne_t (by decide)) (pc' := 8) (by decide) ?_
  show Go p.tables e below _ T0 (mkF m 8 #[.val (.ref ar), .val (.int 6)] [])
  refine g_iload_n B W0 (d_method_5_8) rfl ?_
  refine g_iconst B W0 (d_method_5_9) (v := 1) (by decide) ?_
  refine g_icmp_y B W0 (d_method_5_10) (XT.ii_ne_t (by decide)) (pc' := 23) (by decide) ?_
  show Go p.tables e below _ T0 (mkF m 23 #[.val (.ref ar), .val (.int 6)] [])
  refine g_iload_n B W0 (d_method_5_23) rfl ?_
  refine g_iconst B W0 (d_method_5_24) (v := 2) (by decide) ?_
  refine g_icmp_y B W0 (d_method_5_25) (XT.ii_ne_t (by decide)) (pc' := 44) (by decide) ?_
  show Go p.tables e below _ T0 (mkF m 44 #[.val (.ref ar), .val (.int 6)] [])
  refine g_iload_n B W0 (d_method_5_44) rfl ?_
  refine g_iconst B W0 (d_method_5_45) (v := 3) (by decide) ?_
  refine g_icmp_y B W0 (d_method_5_46) (XT.ii_ne_t (by decide)) (pc' := 71) (by decide) ?_
  show Go p.tables e below _ T0 (mkF m 71 #[.val (.ref ar), .val (.int 6)] [])
  refine g_iload_n B W0 (d_method_5_71) rfl ?_
  refine g_iconst B W0 (d_method_5_72) (v := 4) (by decide) ?_
  refine g_icmp_y B W0 (d_method_5_73) (XT.ii_ne_t (by decide)) (pc' := 104) (by decide) ?_
  show Go p.tables e below _ T0 (mkF m 104 #[.val (.ref ar), .val (.int 6)] [])
  refine g_iload_n B W0 (d_method_5_104) rfl ?_
  refine g_iconst B W0 (d_method_5_105) (v := 5) (by decide) ?_
  refine g_icmp_y B W0 (d_method_5_106) (XT.ii_ne_t (by decide)) (pc' := 143) (by decide) ?_
  show Go p.tables e below _ T0 (mkF m 143 #[.val (.ref ar), .val (.int 6)] [])
  refine g_iload_n B W0 (d_method_5_143) rfl ?_
  refine g_bipush B W0 (d_method_5_144) (v := 6) (by decide) ?_
  refine g_icmp_n B W0 (d_method_5_146) (XT.ii_ne_f (by decide)) ?_
  show Go p.tables e below _ T0 (mkF m 149 #[.val (.ref ar), .val (.int 6)] [])
  refine g_bipush B W0 (d_method_5_149) (v := 6) (by decide) ?_
  obtain ⟨T101, h101, b101, cA101, gb101, W101, K101, A101, st101⟩ := x_newA B W0 (z := 6) 6 (d_method_5_151) (tw hw 0 rfl) (by decide) (by decide) (by decide) (by decide) (by decide) #[.val (.ref ar), .val (.int 6)] []
  have l101 := nlt A101.lt
  have z101 := W0.size
  refine st101 _ ?_
  have s102 := K101.1
  refine g_dup B W101 (d_method_5_153) rfl ?_
  refine g_iconst B W101 (d_method_5_154) (v := 0) (by decide) ?_
  refine g_aload_n B W101 (d_method_5_155) rfl rfl ?_
  refine g_iconst B W101 (d_method_5_156) (v := 0) (by decide) ?_
  have f103 := (A1.keep K101 nin0)
  refine g_caload B W101 (d_method_5_157) f103 (by decide) (show List.getD ([(.int q0), (.int q1), (.int q2), (.int q3), (.int q4), (.int q5), (.int q6), (.int q7)] : List Value) _ _ = (.int q0) from rfl) ?_
  obtain ⟨T104, h104, W104, K104, A104, st104⟩ := x_castore B W101 (j := 0) (x := q0) (d_method_5_158) A101 (by decide) (Nat.lt_of_lt_of_eq (show Int32.toNatClampNeg 0 < 6 by decide) rfl) (by omega) #[.val (.ref ar), .val (.int 6)] [(.ref b101)]
  refine st104 _ ?_
  rw [nq0] at A104
  have A104 : Arv Z h104 b101 cA101 .char 6 [(.int q0), (.int 0), (.int 0), (.int 0), (.int 0), (.int 0)] (.int 0) := A104
  have s105 := K104.1
  refine g_dup B W104 (d_method_5_159) rfl ?_
  refine g_iconst B W104 (d_method_5_160) (v := 1) (by decide) ?_
  refine g_aload_n B W104 (d_method_5_161) rfl rfl ?_
  refine g_iconst B W104 (d_method_5_162) (v := 1) (by decide) ?_
  have f106 := (f103.keep K104 (ninS (nne (by have q := nlt f103.lt; omega)) nin0))
  refine g_caload B W104 (d_method_5_163) f106 (by decide) (show List.getD ([(.int q0), (.int q1), (.int q2), (.int q3), (.int q4), (.int q5), (.int q6), (.int q7)] : List Value) _ _ = (.int q1) from rfl) ?_
  obtain ⟨T107, h107, W107, K107, A107, st107⟩ := x_castore B W104 (j := 1) (x := q1) (d_method_5_164) A104 (by decide) (Nat.lt_of_lt_of_eq (show Int32.toNatClampNeg 1 < 6 by decide) rfl) (by omega) #[.val (.ref ar), .val (.int 6)] [(.ref b101)]
  refine st107 _ ?_
  rw [nq1] at A107
  have A107 : Arv Z h107 b101 cA101 .char 6 [(.int q0), (.int q1), (.int 0), (.int 0), (.int 0), (.int 0)] (.int 0) := A107
  have s108 := K107.1
  refine g_dup B W107 (d_method_5_165) rfl ?_
  refine g_iconst B W107 (d_method_5_166) (v := 2) (by decide) ?_
  refine g_aload_n B W107 (d_method_5_167) rfl rfl ?_
  refine g_iconst B W107 (d_method_5_168) (v := 2) (by decide) ?_
  have f109 := (f106.keep K107 (ninS (nne (by have q := nlt f106.lt; omega)) nin0))
  refine g_caload B W107 (d_method_5_169) f109 (by decide) (show List.getD ([(.int q0), (.int q1), (.int q2), (.int q3), (.int q4), (.int q5), (.int q6), (.int q7)] : List Value) _ _ = (.int q2) from rfl) ?_
  obtain ⟨T110, h110, W110, K110, A110, st110⟩ := x_castore B W107 (j := 2) (x := q2) (d_method_5_170) A107 (by decide) (Nat.lt_of_lt_of_eq (show Int32.toNatClampNeg 2 < 6 by decide) rfl) (by omega) #[.val (.ref ar), .val (.int 6)] [(.ref b101)]
  refine st110 _ ?_
  rw [nq2] at A110
  have A110 : Arv Z h110 b101 cA101 .char 6 [(.int q0), (.int q1), (.int q2), (.int 0), (.int 0), (.int 0)] (.int 0) := A110
  have s111 := K110.1
  refine g_dup B W110 (d_method_5_171) rfl ?_
  refine g_iconst B W110 (d_method_5_172) (v := 3) (by decide) ?_
  refine g_aload_n B W110 (d_method_5_173) rfl rfl ?_
  refine g_iconst B W110 (d_method_5_174) (v := 3) (by decide) ?_
  have f112 := (f109.keep K110 (ninS (nne (by have q := nlt f109.lt; omega)) nin0))
  refine g_caload B W110 (d_method_5_175) f112 (by decide) (show List.getD ([(.int q0), (.int q1), (.int q2), (.int q3), (.int q4), (.int q5), (.int q6), (.int q7)] : List Value) _ _ = (.int q3) from rfl) ?_
  obtain ⟨T113, h113, W113, K113, A113, st113⟩ := x_castore B W110 (j := 3) (x := q3) (d_method_5_176) A110 (by decide) (Nat.lt_of_lt_of_eq (show Int32.toNatClampNeg 3 < 6 by decide) rfl) (by omega) #[.val (.ref ar), .val (.int 6)] [(.ref b101)]
  refine st113 _ ?_
  rw [nq3] at A113
  have A113 : Arv Z h113 b101 cA101 .char 6 [(.int q0), (.int q1), (.int q2), (.int q3), (.int 0), (.int 0)] (.int 0) := A113
  have s114 := K113.1
  refine g_dup B W113 (d_method_5_177) rfl ?_
  refine g_iconst B W113 (d_method_5_178) (v := 4) (by decide) ?_
  refine g_aload_n B W113 (d_method_5_179) rfl rfl ?_
  refine g_iconst B W113 (d_method_5_180) (v := 4) (by decide) ?_
  have f115 := (f112.keep K113 (ninS (nne (by have q := nlt f112.lt; omega)) nin0))
  refine g_caload B W113 (d_method_5_181) f115 (by decide) (show List.getD ([(.int q0), (.int q1), (.int q2), (.int q3), (.int q4), (.int q5), (.int q6), (.int q7)] : List Value) _ _ = (.int q4) from rfl) ?_
  obtain ⟨T116, h116, W116, K116, A116, st116⟩ := x_castore B W113 (j := 4) (x := q4) (d_method_5_182) A113 (by decide) (Nat.lt_of_lt_of_eq (show Int32.toNatClampNeg 4 < 6 by decide) rfl) (by omega) #[.val (.ref ar), .val (.int 6)] [(.ref b101)]
  refine st116 _ ?_
  rw [nq4] at A116
  have A116 : Arv Z h116 b101 cA101 .char 6 [(.int q0), (.int q1), (.int q2), (.int q3), (.int q4), (.int 0)] (.int 0) := A116
  have s117 := K116.1
  refine g_dup B W116 (d_method_5_183) rfl ?_
  refine g_iconst B W116 (d_method_5_184) (v := 5) (by decide) ?_
  refine g_aload_n B W116 (d_method_5_185) rfl rfl ?_
  refine g_iconst B W116 (d_method_5_186) (v := 5) (by decide) ?_
  have f118 := (f115.keep K116 (ninS (nne (by have q := nlt f115.lt; omega)) nin0))
  refine g_caload B W116 (d_method_5_187) f118 (by decide) (show List.getD ([(.int q0), (.int q1), (.int q2), (.int q3), (.int q4), (.int q5), (.int q6), (.int q7)] : List Value) _ _ = (.int q5) from rfl) ?_
  obtain ⟨T119, h119, W119, K119, A119, st119⟩ := x_castore B W116 (j := 5) (x := q5) (d_method_5_188) A116 (by decide) (Nat.lt_of_lt_of_eq (show Int32.toNatClampNeg 5 < 6 by decide) rfl) (by omega) #[.val (.ref ar), .val (.int 6)] [(.ref b101)]
  refine st119 _ ?_
  rw [nq5] at A119
  have A119 : Arv Z h119 b101 cA101 .char 6 [(.int q0), (.int q1), (.int q2), (.int q3), (.int q4), (.int q5)] (.int 0) := A119
  have s120 := K119.1
  exact r_a B W119 rfl rfl rfl (d_method_5_189) (by decide) (by decide) ⟨_, _, rfl, by omega, ((((((((Keep.refl h0 []).trans K101 all0).trans K104 (allS (Or.inr (by omega)) all0)).trans K107 (allS (Or.inr (by omega)) all0)).trans K110 (allS (Or.inr (by omega)) all0)).trans K113 (allS (Or.inr (by omega)) all0)).trans K116 (allS (Or.inr (by omega)) all0)).trans K119 (allS (Or.inr (by omega)) all0)), A119⟩
theorem ef_pre7 (m : MethodId) (ar : Addr) (kA : ClassId) (q0 : Int32) (q1 : Int32) (q2 : Int32) (q3 : Int32) (q4 : Int32) (q5 : Int32) (q6 : Int32) (q7 : Int32) : entryFrame m #[(.ref ar), (.int 7)] 2 = mkF m 0 #[.val (.ref ar), .val (.int 7)] [] := by first | (simp [entryFrame, mkF, argsToLocals, Value.category]; done) | rfl
def Q_pre7 (Z : State) (ar : Addr) (kA : ClassId) (q0 : Int32) (q1 : Int32) (q2 : Int32) (q3 : Int32) (q4 : Int32) (q5 : Int32) (q6 : Int32) (q7 : Int32) (h0 : Heap) (v : Option Value) (h : Heap) : Prop := ∃ (b : Addr) (kB : ClassId), v = some (.ref b) ∧ h0.size ≤ b ∧ Keep h0 h [] ∧ Arv Z h b kB .char 7 [.int q0, .int q1, .int q2, .int q3, .int q4, .int q5, .int q6] (.int 0)
set_option maxRecDepth 65536 in
set_option maxHeartbeats 40000000 in
theorem c_pre7 (l : Launch) (Z : State) (a0 : Array Value) (hw : ∀ d ∈ tables_1, d.before a0 Z = true) (ar : Addr) (kA : ClassId) (q0 : Int32) (q1 : Int32) (q2 : Int32) (q3 : Int32) (q4 : Int32) (q5 : Int32) (q6 : Int32) (q7 : Int32) (h0 : Heap) (A1 : Arv Z h0 ar kA .char 8 [.int q0, .int q1, .int q2, .int q3, .int q4, .int q5, .int q6, .int q7] (.int 0)) (nq0 : nar .char q0 = q0) (nq1 : nar .char q1 = q1) (nq2 : nar .char q2 = q2) (nq3 : nar .char q3 = q3) (nq4 : nar .char q4 = q4) (nq5 : nar .char q5 = q5) (nq6 : nar .char q6 = q6) (nq7 : nar .char q7 = q7) :
    Con l Z (⟨"com/example/presswright/presswright/publishing/PagePathIsPagePathPinLaw", "prefix", "([CI)[C"⟩ : MethodName) method_5_code 2 (Option.some (FieldType.array FieldType.char)) [] ({ frames := 0, cells := 1, slots := 7, locals := 0 } : Room) #[(.ref ar), (.int 7)] h0 (Q_pre7 Z ar kA q0 q1 q2 q3 q4 q5 q6 q7 h0) [] := by
  refine Con.of (plainFor_of_name pn_com_example_presswright_presswright_publishing_PagePathIsPagePathPinLaw) ?_
  intro p e s m below meth c T0 B W0
  refine Go.cast (ef_pre7 m ar kA q0 q1 q2 q3 q4 q5 q6 q7 ) ?_
  have l_ar := nlt A1.lt
  refine g_iload_n B W0 (d_method_5_0) rfl ?_
  refine g_if_y B W0 (d_method_5_1) (XT.i0_ne_t (by decide)) (pc' := 8) (by decide) ?_
  show Go p.tables e below _ T0 (mkF m 8 #[.val (.ref ar), .val (.int 7)] [])
  refine g_iload_n B W0 (d_method_5_8) rfl ?_
  refine g_iconst B W0 (d_method_5_9) (v := 1) (by decide) ?_
  refine g_icmp_y B W0 (d_method_5_10) (XT.ii_ne_t (by decide)) (pc' := 23) (by decide) ?_
  show Go p.tables e below _ T0 (mkF m 23 #[.val (.ref ar), .val (.int 7)] [])
  refine g_iload_n B W0 (d_method_5_23) rfl ?_
  refine g_iconst B W0 (d_method_5_24) (v := 2) (by decide) ?_
  refine g_icmp_y B W0 (d_method_5_25) (XT.ii_ne_t (by decide)) (pc' := 44) (by decide) ?_
  show Go p.tables e below _ T0 (mkF m 44 #[.val (.ref ar), .val (.int 7)] [])
  refine g_iload_n B W0 (d_method_5_44) rfl ?_
  refine g_iconst B W0 (d_method_5_45) (v := 3) (by decide) ?_
  refine g_icmp_y B W0 (d_method_5_46) (XT.ii_ne_t (by decide)) (pc' := 71) (by decide) ?_
  show Go p.tables e below _ T0 (mkF m 71 #[.val (.ref ar), .val (.int 7)] [])
  refine g_iload_n B W0 (d_method_5_71) rfl ?_
  refine g_iconst B W0 (d_method_5_72) (v := 4) (by decide) ?_
  refine g_icmp_y B W0 (d_method_5_73) (XT.ii_ne_t (by decide)) (pc' := 104) (by decide) ?_
  show Go p.tables e below _ T0 (mkF m 104 #[.val (.ref ar), .val (.int 7)] [])
  refine g_iload_n B W0 (d_method_5_104) rfl ?_
  refine g_iconst B W0 (d_method_5_105) (v := 5) (by decide) ?_
  refine g_icmp_y B W0 (d_method_5_106) (XT.ii_ne_t (by decide)) (pc' := 143) (by decide) ?_
  show Go p.tables e below _ T0 (mkF m 143 #[.val (.ref ar), .val (.int 7)] [])
  refine g_iload_n B W0 (d_method_5_143) rfl ?_
  refine g_bipush B W0 (d_method_5_144) (v := 6) (by decide) ?_
  refine g_icmp_y B W0 (d_method_5_146) (XT.ii_ne_t (by decide)) (pc' := 190) (by decide) ?_
  show Go p.tables e below _ T0 (mkF m 190 #[.val (.ref ar), .val (.int 7)] [])
  refine g_iload_n B W0 (d_method_5_190) rfl ?_
  refine g_bipush B W0 (d_method_5_191) (v := 7) (by decide) ?_
  refine g_icmp_n B W0 (d_method_5_193) (XT.ii_ne_f (by decide)) ?_
  show Go p.tables e below _ T0 (mkF m 196 #[.val (.ref ar), .val (.int 7)] [])
  refine g_bipush B W0 (d_method_5_196) (v := 7) (by decide) ?_
  obtain ⟨T101, h101, b101, cA101, gb101, W101, K101, A101, st101⟩ := x_newA B W0 (z := 7) 7 (d_method_5_198) (tw hw 0 rfl) (by decide) (by decide) (by decide) (by decide) (by decide) #[.val (.ref ar), .val (.int 7)] []
  have l101 := nlt A101.lt
  have z101 := W0.size
  refine st101 _ ?_
  have s102 := K101.1
  refine g_dup B W101 (d_method_5_200) rfl ?_
  refine g_iconst B W101 (d_method_5_201) (v := 0) (by decide) ?_
  refine g_aload_n B W101 (d_method_5_202) rfl rfl ?_
  refine g_iconst B W101 (d_method_5_203) (v := 0) (by decide) ?_
  have f103 := (A1.keep K101 nin0)
  refine g_caload B W101 (d_method_5_204) f103 (by decide) (show List.getD ([(.int q0), (.int q1), (.int q2), (.int q3), (.int q4), (.int q5), (.int q6), (.int q7)] : List Value) _ _ = (.int q0) from rfl) ?_
  obtain ⟨T104, h104, W104, K104, A104, st104⟩ := x_castore B W101 (j := 0) (x := q0) (d_method_5_205) A101 (by decide) (Nat.lt_of_lt_of_eq (show Int32.toNatClampNeg 0 < 7 by decide) rfl) (by omega) #[.val (.ref ar), .val (.int 7)] [(.ref b101)]
  refine st104 _ ?_
  rw [nq0] at A104
  have A104 : Arv Z h104 b101 cA101 .char 7 [(.int q0), (.int 0), (.int 0), (.int 0), (.int 0), (.int 0), (.int 0)] (.int 0) := A104
  have s105 := K104.1
  refine g_dup B W104 (d_method_5_206) rfl ?_
  refine g_iconst B W104 (d_method_5_207) (v := 1) (by decide) ?_
  refine g_aload_n B W104 (d_method_5_208) rfl rfl ?_
  refine g_iconst B W104 (d_method_5_209) (v := 1) (by decide) ?_
  have f106 := (f103.keep K104 (ninS (nne (by have q := nlt f103.lt; omega)) nin0))
  refine g_caload B W104 (d_method_5_210) f106 (by decide) (show List.getD ([(.int q0), (.int q1), (.int q2), (.int q3), (.int q4), (.int q5), (.int q6), (.int q7)] : List Value) _ _ = (.int q1) from rfl) ?_
  obtain ⟨T107, h107, W107, K107, A107, st107⟩ := x_castore B W104 (j := 1) (x := q1) (d_method_5_211) A104 (by decide) (Nat.lt_of_lt_of_eq (show Int32.toNatClampNeg 1 < 7 by decide) rfl) (by omega) #[.val (.ref ar), .val (.int 7)] [(.ref b101)]
  refine st107 _ ?_
  rw [nq1] at A107
  have A107 : Arv Z h107 b101 cA101 .char 7 [(.int q0), (.int q1), (.int 0), (.int 0), (.int 0), (.int 0), (.int 0)] (.int 0) := A107
  have s108 := K107.1
  refine g_dup B W107 (d_method_5_212) rfl ?_
  refine g_iconst B W107 (d_method_5_213) (v := 2) (by decide) ?_
  refine g_aload_n B W107 (d_method_5_214) rfl rfl ?_
  refine g_iconst B W107 (d_method_5_215) (v := 2) (by decide) ?_
  have f109 := (f106.keep K107 (ninS (nne (by have q := nlt f106.lt; omega)) nin0))
  refine g_caload B W107 (d_method_5_216) f109 (by decide) (show List.getD ([(.int q0), (.int q1), (.int q2), (.int q3), (.int q4), (.int q5), (.int q6), (.int q7)] : List Value) _ _ = (.int q2) from rfl) ?_
  obtain ⟨T110, h110, W110, K110, A110, st110⟩ := x_castore B W107 (j := 2) (x := q2) (d_method_5_217) A107 (by decide) (Nat.lt_of_lt_of_eq (show Int32.toNatClampNeg 2 < 7 by decide) rfl) (by omega) #[.val (.ref ar), .val (.int 7)] [(.ref b101)]
  refine st110 _ ?_
  rw [nq2] at A110
  have A110 : Arv Z h110 b101 cA101 .char 7 [(.int q0), (.int q1), (.int q2), (.int 0), (.int 0), (.int 0), (.int 0)] (.int 0) := A110
  have s111 := K110.1
  refine g_dup B W110 (d_method_5_218) rfl ?_
  refine g_iconst B W110 (d_method_5_219) (v := 3) (by decide) ?_
  refine g_aload_n B W110 (d_method_5_220) rfl rfl ?_
  refine g_iconst B W110 (d_method_5_221) (v := 3) (by decide) ?_
  have f112 := (f109.keep K110 (ninS (nne (by have q := nlt f109.lt; omega)) nin0))
  refine g_caload B W110 (d_method_5_222) f112 (by decide) (show List.getD ([(.int q0), (.int q1), (.int q2), (.int q3), (.int q4), (.int q5), (.int q6), (.int q7)] : List Value) _ _ = (.int q3) from rfl) ?_
  obtain ⟨T113, h113, W113, K113, A113, st113⟩ := x_castore B W110 (j := 3) (x := q3) (d_method_5_223) A110 (by decide) (Nat.lt_of_lt_of_eq (show Int32.toNatClampNeg 3 < 7 by decide) rfl) (by omega) #[.val (.ref ar), .val (.int 7)] [(.ref b101)]
  refine st113 _ ?_
  rw [nq3] at A113
  have A113 : Arv Z h113 b101 cA101 .char 7 [(.int q0), (.int q1), (.int q2), (.int q3), (.int 0), (.int 0), (.int 0)] (.int 0) := A113
  have s114 := K113.1
  refine g_dup B W113 (d_method_5_224) rfl ?_
  refine g_iconst B W113 (d_method_5_225) (v := 4) (by decide) ?_
  refine g_aload_n B W113 (d_method_5_226) rfl rfl ?_
  refine g_iconst B W113 (d_method_5_227) (v := 4) (by decide) ?_
  have f115 := (f112.keep K113 (ninS (nne (by have q := nlt f112.lt; omega)) nin0))
  refine g_caload B W113 (d_method_5_228) f115 (by decide) (show List.getD ([(.int q0), (.int q1), (.int q2), (.int q3), (.int q4), (.int q5), (.int q6), (.int q7)] : List Value) _ _ = (.int q4) from rfl) ?_
  obtain ⟨T116, h116, W116, K116, A116, st116⟩ := x_castore B W113 (j := 4) (x := q4) (d_method_5_229) A113 (by decide) (Nat.lt_of_lt_of_eq (show Int32.toNatClampNeg 4 < 7 by decide) rfl) (by omega) #[.val (.ref ar), .val (.int 7)] [(.ref b101)]
  refine st116 _ ?_
  rw [nq4] at A116
  have A116 : Arv Z h116 b101 cA101 .char 7 [(.int q0), (.int q1), (.int q2), (.int q3), (.int q4), (.int 0), (.int 0)] (.int 0) := A116
  have s117 := K116.1
  refine g_dup B W116 (d_method_5_230) rfl ?_
  refine g_iconst B W116 (d_method_5_231) (v := 5) (by decide) ?_
  refine g_aload_n B W116 (d_method_5_232) rfl rfl ?_
  refine g_iconst B W116 (d_method_5_233) (v := 5) (by decide) ?_
  have f118 := (f115.keep K116 (ninS (nne (by have q := nlt f115.lt; omega)) nin0))
  refine g_caload B W116 (d_method_5_234) f118 (by decide) (show List.getD ([(.int q0), (.int q1), (.int q2), (.int q3), (.int q4), (.int q5), (.int q6), (.int q7)] : List Value) _ _ = (.int q5) from rfl) ?_
  obtain ⟨T119, h119, W119, K119, A119, st119⟩ := x_castore B W116 (j := 5) (x := q5) (d_method_5_235) A116 (by decide) (Nat.lt_of_lt_of_eq (show Int32.toNatClampNeg 5 < 7 by decide) rfl) (by omega) #[.val (.ref ar), .val (.int 7)] [(.ref b101)]
  refine st119 _ ?_
  rw [nq5] at A119
  have A119 : Arv Z h119 b101 cA101 .char 7 [(.int q0), (.int q1), (.int q2), (.int q3), (.int q4), (.int q5), (.int 0)] (.int 0) := A119
  have s120 := K119.1
  refine g_dup B W119 (d_method_5_236) rfl ?_
  refine g_bipush B W119 (d_method_5_237) (v := 6) (by decide) ?_
  refine g_aload_n B W119 (d_method_5_239) rfl rfl ?_
  refine g_bipush B W119 (d_method_5_240) (v := 6) (by decide) ?_
  have f121 := (f118.keep K119 (ninS (nne (by have q := nlt f118.lt; omega)) nin0))
  refine g_caload B W119 (d_method_5_242) f121 (by decide) (show List.getD ([(.int q0), (.int q1), (.int q2), (.int q3), (.int q4), (.int q5), (.int q6), (.int q7)] : List Value) _ _ = (.int q6) from rfl) ?_
  obtain ⟨T122, h122, W122, K122, A122, st122⟩ := x_castore B W119 (j := 6) (x := q6) (d_method_5_243) A119 (by decide) (Nat.lt_of_lt_of_eq (show Int32.toNatClampNeg 6 < 7 by decide) rfl) (by omega) #[.val (.ref ar), .val (.int 7)] [(.ref b101)]
  refine st122 _ ?_
  rw [nq6] at A122
  have A122 : Arv Z h122 b101 cA101 .char 7 [(.int q0), (.int q1), (.int q2), (.int q3), (.int q4), (.int q5), (.int q6)] (.int 0) := A122
  have s123 := K122.1
  exact r_a B W122 rfl rfl rfl (d_method_5_244) (by decide) (by decide) ⟨_, _, rfl, by omega, (((((((((Keep.refl h0 []).trans K101 all0).trans K104 (allS (Or.inr (by omega)) all0)).trans K107 (allS (Or.inr (by omega)) all0)).trans K110 (allS (Or.inr (by omega)) all0)).trans K113 (allS (Or.inr (by omega)) all0)).trans K116 (allS (Or.inr (by omega)) all0)).trans K119 (allS (Or.inr (by omega)) all0)).trans K122 (allS (Or.inr (by omega)) all0)), A122⟩
theorem ef_pre8 (m : MethodId) (ar : Addr) (kA : ClassId) (q0 : Int32) (q1 : Int32) (q2 : Int32) (q3 : Int32) (q4 : Int32) (q5 : Int32) (q6 : Int32) (q7 : Int32) : entryFrame m #[(.ref ar), (.int 8)] 2 = mkF m 0 #[.val (.ref ar), .val (.int 8)] [] := by first | (simp [entryFrame, mkF, argsToLocals, Value.category]; done) | rfl
def Q_pre8 (Z : State) (ar : Addr) (kA : ClassId) (q0 : Int32) (q1 : Int32) (q2 : Int32) (q3 : Int32) (q4 : Int32) (q5 : Int32) (q6 : Int32) (q7 : Int32) (h0 : Heap) (v : Option Value) (h : Heap) : Prop := ∃ (b : Addr) (kB : ClassId), v = some (.ref b) ∧ h0.size ≤ b ∧ Keep h0 h [] ∧ Arv Z h b kB .char 8 [.int q0, .int q1, .int q2, .int q3, .int q4, .int q5, .int q6, .int q7] (.int 0)
set_option maxRecDepth 65536 in
set_option maxHeartbeats 40000000 in
theorem c_pre8 (l : Launch) (Z : State) (a0 : Array Value) (hw : ∀ d ∈ tables_1, d.before a0 Z = true) (ar : Addr) (kA : ClassId) (q0 : Int32) (q1 : Int32) (q2 : Int32) (q3 : Int32) (q4 : Int32) (q5 : Int32) (q6 : Int32) (q7 : Int32) (h0 : Heap) (A1 : Arv Z h0 ar kA .char 8 [.int q0, .int q1, .int q2, .int q3, .int q4, .int q5, .int q6, .int q7] (.int 0)) (nq0 : nar .char q0 = q0) (nq1 : nar .char q1 = q1) (nq2 : nar .char q2 = q2) (nq3 : nar .char q3 = q3) (nq4 : nar .char q4 = q4) (nq5 : nar .char q5 = q5) (nq6 : nar .char q6 = q6) (nq7 : nar .char q7 = q7) :
    Con l Z (⟨"com/example/presswright/presswright/publishing/PagePathIsPagePathPinLaw", "prefix", "([CI)[C"⟩ : MethodName) method_5_code 2 (Option.some (FieldType.array FieldType.char)) [] ({ frames := 0, cells := 1, slots := 8, locals := 0 } : Room) #[(.ref ar), (.int 8)] h0 (Q_pre8 Z ar kA q0 q1 q2 q3 q4 q5 q6 q7 h0) [] := by
  refine Con.of (plainFor_of_name pn_com_example_presswright_presswright_publishing_PagePathIsPagePathPinLaw) ?_
  intro p e s m below meth c T0 B W0
  refine Go.cast (ef_pre8 m ar kA q0 q1 q2 q3 q4 q5 q6 q7 ) ?_
  have l_ar := nlt A1.lt
  refine g_iload_n B W0 (d_method_5_0) rfl ?_
  refine g_if_y B W0 (d_method_5_1) (XT.i0_ne_t (by decide)) (pc' := 8) (by decide) ?_
  show Go p.tables e below _ T0 (mkF m 8 #[.val (.ref ar), .val (.int 8)] [])
  refine g_iload_n B W0 (d_method_5_8) rfl ?_
  refine g_iconst B W0 (d_method_5_9) (v := 1) (by decide) ?_
  refine g_icmp_y B W0 (d_method_5_10) (XT.ii_ne_t (by decide)) (pc' := 23) (by decide) ?_
  show Go p.tables e below _ T0 (mkF m 23 #[.val (.ref ar), .val (.int 8)] [])
  refine g_iload_n B W0 (d_method_5_23) rfl ?_
  refine g_iconst B W0 (d_method_5_24) (v := 2) (by decide) ?_
  refine g_icmp_y B W0 (d_method_5_25) (XT.ii_ne_t (by decide)) (pc' := 44) (by decide) ?_
  show Go p.tables e below _ T0 (mkF m 44 #[.val (.ref ar), .val (.int 8)] [])
  refine g_iload_n B W0 (d_method_5_44) rfl ?_
  refine g_iconst B W0 (d_method_5_45) (v := 3) (by decide) ?_
  refine g_icmp_y B W0 (d_method_5_46) (XT.ii_ne_t (by decide)) (pc' := 71) (by decide) ?_
  show Go p.tables e below _ T0 (mkF m 71 #[.val (.ref ar), .val (.int 8)] [])
  refine g_iload_n B W0 (d_method_5_71) rfl ?_
  refine g_iconst B W0 (d_method_5_72) (v := 4) (by decide) ?_
  refine g_icmp_y B W0 (d_method_5_73) (XT.ii_ne_t (by decide)) (pc' := 104) (by decide) ?_
  show Go p.tables e below _ T0 (mkF m 104 #[.val (.ref ar), .val (.int 8)] [])
  refine g_iload_n B W0 (d_method_5_104) rfl ?_
  refine g_iconst B W0 (d_method_5_105) (v := 5) (by decide) ?_
  refine g_icmp_y B W0 (d_method_5_106) (XT.ii_ne_t (by decide)) (pc' := 143) (by decide) ?_
  show Go p.tables e below _ T0 (mkF m 143 #[.val (.ref ar), .val (.int 8)] [])
  refine g_iload_n B W0 (d_method_5_143) rfl ?_
  refine g_bipush B W0 (d_method_5_144) (v := 6) (by decide) ?_
  refine g_icmp_y B W0 (d_method_5_146) (XT.ii_ne_t (by decide)) (pc' := 190) (by decide) ?_
  show Go p.tables e below _ T0 (mkF m 190 #[.val (.ref ar), .val (.int 8)] [])
  refine g_iload_n B W0 (d_method_5_190) rfl ?_
  refine g_bipush B W0 (d_method_5_191) (v := 7) (by decide) ?_
  refine g_icmp_y B W0 (d_method_5_193) (XT.ii_ne_t (by decide)) (pc' := 245) (by decide) ?_
  show Go p.tables e below _ T0 (mkF m 245 #[.val (.ref ar), .val (.int 8)] [])
  refine g_bipush B W0 (d_method_5_245) (v := 8) (by decide) ?_
  obtain ⟨T101, h101, b101, cA101, gb101, W101, K101, A101, st101⟩ := x_newA B W0 (z := 8) 8 (d_method_5_247) (tw hw 0 rfl) (by decide) (by decide) (by decide) (by decide) (by decide) #[.val (.ref ar), .val (.int 8)] []
  have l101 := nlt A101.lt
  have z101 := W0.size
  refine st101 _ ?_
  have s102 := K101.1
  refine g_dup B W101 (d_method_5_249) rfl ?_
  refine g_iconst B W101 (d_method_5_250) (v := 0) (by decide) ?_
  refine g_aload_n B W101 (d_method_5_251) rfl rfl ?_
  refine g_iconst B W101 (d_method_5_252) (v := 0) (by decide) ?_
  have f103 := (A1.keep K101 nin0)
  refine g_caload B W101 (d_method_5_253) f103 (by decide) (show List.getD ([(.int q0), (.int q1), (.int q2), (.int q3), (.int q4), (.int q5), (.int q6), (.int q7)] : List Value) _ _ = (.int q0) from rfl) ?_
  obtain ⟨T104, h104, W104, K104, A104, st104⟩ := x_castore B W101 (j := 0) (x := q0) (d_method_5_254) A101 (by decide) (Nat.lt_of_lt_of_eq (show Int32.toNatClampNeg 0 < 8 by decide) rfl) (by omega) #[.val (.ref ar), .val (.int 8)] [(.ref b101)]
  refine st104 _ ?_
  rw [nq0] at A104
  have A104 : Arv Z h104 b101 cA101 .char 8 [(.int q0), (.int 0), (.int 0), (.int 0), (.int 0), (.int 0), (.int 0), (.int 0)] (.int 0) := A104
  have s105 := K104.1
  refine g_dup B W104 (d_method_5_255) rfl ?_
  refine g_iconst B W104 (d_method_5_256) (v := 1) (by decide) ?_
  refine g_aload_n B W104 (d_method_5_257) rfl rfl ?_
  refine g_iconst B W104 (d_method_5_258) (v := 1) (by decide) ?_
  have f106 := (f103.keep K104 (ninS (nne (by have q := nlt f103.lt; omega)) nin0))
  refine g_caload B W104 (d_method_5_259) f106 (by decide) (show List.getD ([(.int q0), (.int q1), (.int q2), (.int q3), (.int q4), (.int q5), (.int q6), (.int q7)] : List Value) _ _ = (.int q1) from rfl) ?_
  obtain ⟨T107, h107, W107, K107, A107, st107⟩ := x_castore B W104 (j := 1) (x := q1) (d_method_5_260) A104 (by decide) (Nat.lt_of_lt_of_eq (show Int32.toNatClampNeg 1 < 8 by decide) rfl) (by omega) #[.val (.ref ar), .val (.int 8)] [(.ref b101)]
  refine st107 _ ?_
  rw [nq1] at A107
  have A107 : Arv Z h107 b101 cA101 .char 8 [(.int q0), (.int q1), (.int 0), (.int 0), (.int 0), (.int 0), (.int 0), (.int 0)] (.int 0) := A107
  have s108 := K107.1
  refine g_dup B W107 (d_method_5_261) rfl ?_
  refine g_iconst B W107 (d_method_5_262) (v := 2) (by decide) ?_
  refine g_aload_n B W107 (d_method_5_263) rfl rfl ?_
  refine g_iconst B W107 (d_method_5_264) (v := 2) (by decide) ?_
  have f109 := (f106.keep K107 (ninS (nne (by have q := nlt f106.lt; omega)) nin0))
  refine g_caload B W107 (d_method_5_265) f109 (by decide) (show List.getD ([(.int q0), (.int q1), (.int q2), (.int q3), (.int q4), (.int q5), (.int q6), (.int q7)] : List Value) _ _ = (.int q2) from rfl) ?_
  obtain ⟨T110, h110, W110, K110, A110, st110⟩ := x_castore B W107 (j := 2) (x := q2) (d_method_5_266) A107 (by decide) (Nat.lt_of_lt_of_eq (show Int32.toNatClampNeg 2 < 8 by decide) rfl) (by omega) #[.val (.ref ar), .val (.int 8)] [(.ref b101)]
  refine st110 _ ?_
  rw [nq2] at A110
  have A110 : Arv Z h110 b101 cA101 .char 8 [(.int q0), (.int q1), (.int q2), (.int 0), (.int 0), (.int 0), (.int 0), (.int 0)] (.int 0) := A110
  have s111 := K110.1
  refine g_dup B W110 (d_method_5_267) rfl ?_
  refine g_iconst B W110 (d_method_5_268) (v := 3) (by decide) ?_
  refine g_aload_n B W110 (d_method_5_269) rfl rfl ?_
  refine g_iconst B W110 (d_method_5_270) (v := 3) (by decide) ?_
  have f112 := (f109.keep K110 (ninS (nne (by have q := nlt f109.lt; omega)) nin0))
  refine g_caload B W110 (d_method_5_271) f112 (by decide) (show List.getD ([(.int q0), (.int q1), (.int q2), (.int q3), (.int q4), (.int q5), (.int q6), (.int q7)] : List Value) _ _ = (.int q3) from rfl) ?_
  obtain ⟨T113, h113, W113, K113, A113, st113⟩ := x_castore B W110 (j := 3) (x := q3) (d_method_5_272) A110 (by decide) (Nat.lt_of_lt_of_eq (show Int32.toNatClampNeg 3 < 8 by decide) rfl) (by omega) #[.val (.ref ar), .val (.int 8)] [(.ref b101)]
  refine st113 _ ?_
  rw [nq3] at A113
  have A113 : Arv Z h113 b101 cA101 .char 8 [(.int q0), (.int q1), (.int q2), (.int q3), (.int 0), (.int 0), (.int 0), (.int 0)] (.int 0) := A113
  have s114 := K113.1
  refine g_dup B W113 (d_method_5_273) rfl ?_
  refine g_iconst B W113 (d_method_5_274) (v := 4) (by decide) ?_
  refine g_aload_n B W113 (d_method_5_275) rfl rfl ?_
  refine g_iconst B W113 (d_method_5_276) (v := 4) (by decide) ?_
  have f115 := (f112.keep K113 (ninS (nne (by have q := nlt f112.lt; omega)) nin0))
  refine g_caload B W113 (d_method_5_277) f115 (by decide) (show List.getD ([(.int q0), (.int q1), (.int q2), (.int q3), (.int q4), (.int q5), (.int q6), (.int q7)] : List Value) _ _ = (.int q4) from rfl) ?_
  obtain ⟨T116, h116, W116, K116, A116, st116⟩ := x_castore B W113 (j := 4) (x := q4) (d_method_5_278) A113 (by decide) (Nat.lt_of_lt_of_eq (show Int32.toNatClampNeg 4 < 8 by decide) rfl) (by omega) #[.val (.ref ar), .val (.int 8)] [(.ref b101)]
  refine st116 _ ?_
  rw [nq4] at A116
  have A116 : Arv Z h116 b101 cA101 .char 8 [(.int q0), (.int q1), (.int q2), (.int q3), (.int q4), (.int 0), (.int 0), (.int 0)] (.int 0) := A116
  have s117 := K116.1
  refine g_dup B W116 (d_method_5_279) rfl ?_
  refine g_iconst B W116 (d_method_5_280) (v := 5) (by decide) ?_
  refine g_aload_n B W116 (d_method_5_281) rfl rfl ?_
  refine g_iconst B W116 (d_method_5_282) (v := 5) (by decide) ?_
  have f118 := (f115.keep K116 (ninS (nne (by have q := nlt f115.lt; omega)) nin0))
  refine g_caload B W116 (d_method_5_283) f118 (by decide) (show List.getD ([(.int q0), (.int q1), (.int q2), (.int q3), (.int q4), (.int q5), (.int q6), (.int q7)] : List Value) _ _ = (.int q5) from rfl) ?_
  obtain ⟨T119, h119, W119, K119, A119, st119⟩ := x_castore B W116 (j := 5) (x := q5) (d_method_5_284) A116 (by decide) (Nat.lt_of_lt_of_eq (show Int32.toNatClampNeg 5 < 8 by decide) rfl) (by omega) #[.val (.ref ar), .val (.int 8)] [(.ref b101)]
  refine st119 _ ?_
  rw [nq5] at A119
  have A119 : Arv Z h119 b101 cA101 .char 8 [(.int q0), (.int q1), (.int q2), (.int q3), (.int q4), (.int q5), (.int 0), (.int 0)] (.int 0) := A119
  have s120 := K119.1
  refine g_dup B W119 (d_method_5_285) rfl ?_
  refine g_bipush B W119 (d_method_5_286) (v := 6) (by decide) ?_
  refine g_aload_n B W119 (d_method_5_288) rfl rfl ?_
  refine g_bipush B W119 (d_method_5_289) (v := 6) (by decide) ?_
  have f121 := (f118.keep K119 (ninS (nne (by have q := nlt f118.lt; omega)) nin0))
  refine g_caload B W119 (d_method_5_291) f121 (by decide) (show List.getD ([(.int q0), (.int q1), (.int q2), (.int q3), (.int q4), (.int q5), (.int q6), (.int q7)] : List Value) _ _ = (.int q6) from rfl) ?_
  obtain ⟨T122, h122, W122, K122, A122, st122⟩ := x_castore B W119 (j := 6) (x := q6) (d_method_5_292) A119 (by decide) (Nat.lt_of_lt_of_eq (show Int32.toNatClampNeg 6 < 8 by decide) rfl) (by omega) #[.val (.ref ar), .val (.int 8)] [(.ref b101)]
  refine st122 _ ?_
  rw [nq6] at A122
  have A122 : Arv Z h122 b101 cA101 .char 8 [(.int q0), (.int q1), (.int q2), (.int q3), (.int q4), (.int q5), (.int q6), (.int 0)] (.int 0) := A122
  have s123 := K122.1
  refine g_dup B W122 (d_method_5_293) rfl ?_
  refine g_bipush B W122 (d_method_5_294) (v := 7) (by decide) ?_
  refine g_aload_n B W122 (d_method_5_296) rfl rfl ?_
  refine g_bipush B W122 (d_method_5_297) (v := 7) (by decide) ?_
  have f124 := (f121.keep K122 (ninS (nne (by have q := nlt f121.lt; omega)) nin0))
  refine g_caload B W122 (d_method_5_299) f124 (by decide) (show List.getD ([(.int q0), (.int q1), (.int q2), (.int q3), (.int q4), (.int q5), (.int q6), (.int q7)] : List Value) _ _ = (.int q7) from rfl) ?_
  obtain ⟨T125, h125, W125, K125, A125, st125⟩ := x_castore B W122 (j := 7) (x := q7) (d_method_5_300) A122 (by decide) (Nat.lt_of_lt_of_eq (show Int32.toNatClampNeg 7 < 8 by decide) rfl) (by omega) #[.val (.ref ar), .val (.int 8)] [(.ref b101)]
  refine st125 _ ?_
  rw [nq7] at A125
  have A125 : Arv Z h125 b101 cA101 .char 8 [(.int q0), (.int q1), (.int q2), (.int q3), (.int q4), (.int q5), (.int q6), (.int q7)] (.int 0) := A125
  have s126 := K125.1
  exact r_a B W125 rfl rfl rfl (d_method_5_301) (by decide) (by decide) ⟨_, _, rfl, by omega, ((((((((((Keep.refl h0 []).trans K101 all0).trans K104 (allS (Or.inr (by omega)) all0)).trans K107 (allS (Or.inr (by omega)) all0)).trans K110 (allS (Or.inr (by omega)) all0)).trans K113 (allS (Or.inr (by omega)) all0)).trans K116 (allS (Or.inr (by omega)) all0)).trans K119 (allS (Or.inr (by omega)) all0)).trans K122 (allS (Or.inr (by omega)) all0)).trans K125 (allS (Or.inr (by omega)) all0)), A125⟩
theorem ef_law (m : MethodId) (p1 : Int32) (p2 : Int64) (p3 : Int64) (p4 : Int64) (cz : Int32) (sf : Value) : entryFrame m #[(.int p1), (.long p2), (.long p3), (.long p4)] maxLocals = mkF m 0 #[.val (.int p1), .val (.long p2), .second, .val (.long p3), .second, .val (.long p4), .second, .unset, .unset, .unset, .unset, .unset, .unset, .unset] [] := by first | (simp [entryFrame, mkF, argsToLocals, Value.category, maxLocals]; done) | rfl
def Q_law (Z : State) (p1 : Int32) (p2 : Int64) (p3 : Int64) (p4 : Int64) (cz : Int32) (sf : Value) (h0 : Heap) (v : Option Value) (h : Heap) : Prop := v = some (.int 1)
set_option maxRecDepth 65536 in
set_option maxHeartbeats 40000000 in
theorem c_law (l : Launch) (Z : State) (a0 : Array Value) (hw : ∀ d ∈ tables_1, d.before a0 Z = true) (ws : List Jvm.Cond) (p1 : Int32) (p2 : Int64) (p3 : Int64) (p4 : Int64) (cz : Int32) (sf : Value) (h0 : Heap) (Scs : Sta Z Z.heap "java/lang/String" "COMPACT_STRINGS" "Z" (.int cz)) (hcz : ¬ cz = 0) (Ssf : Sta Z Z.heap "jdk/internal/util/Preconditions" "SIOOBE_FORMATTER" "Ljava/util/function/BiFunction;" sf) (rsf : sf.isRef = true) (Sad : Sta Z Z.heap "java/lang/StringUTF16" "$assertionsDisabled" "Z" (.int 1)) (Shi : Sta Z Z.heap "java/lang/StringUTF16" "HI_BYTE_SHIFT" "I" (.int 0)) (Slo : Sta Z Z.heap "java/lang/StringUTF16" "LO_BYTE_SHIFT" "I" (.int 8)) :
    Con l Z x code maxLocals ret ws room_1 #[(.int p1), (.long p2), (.long p3), (.long p4)] h0 (Q_law Z p1 p2 p3 p4 cz sf h0) [] := by
  refine Con.of (plainFor_of_name pn_com_example_presswright_presswright_publishing_PagePathIsPagePathPinLaw) ?_
  intro p e s m below meth c T0 B W0
  refine Go.cast (ef_law m p1 p2 p3 p4 cz sf ) ?_
  refine g_iload_n B W0 at_0 rfl ?_
  refine g_bipush B W0 at_1 (v := 15) (by decide) ?_
  refine g_iand B W0 at_3  ?_
  refine g_bipush B W0 at_4 (v := 9) (by decide) ?_
  refine g_irem B W0 at_6 (by decide) ?_
  obtain hq := own_c9 p1
  generalize (p1 &&& 15) % 9 = n7 at hq ⊢
  show Go p.tables e below _ T0 (mkF m 7 #[.val (.int p1), .val (.long p2), .second, .val (.long p3), .second, .val (.long p4), .second, .unset, .unset, .unset, .unset, .unset, .unset, .unset] [(.int n7)])
  refine g_istore B W0 at_7  (l' := #[.val (.int p1), .val (.long p2), .second, .val (.long p3), .second, .val (.long p4), .second, .val (.int n7), .unset, .unset, .unset, .unset, .unset, .unset]) rfl ?_
  refine g_bipush B W0 at_9 (v := 8) (by decide) ?_
  obtain ⟨T101, h101, b101, cA101, gb101, W101, K101, A101, st101⟩ := x_newA B W0 (z := 8) 8 at_11 (tw hw 0 rfl) (by decide) (by decide) (by decide) (by decide) (by decide) #[.val (.int p1), .val (.long p2), .second, .val (.long p3), .second, .val (.long p4), .second, .val (.int n7), .unset, .unset, .unset, .unset, .unset, .unset] []
  have l101 := nlt A101.lt
  have z101 := W0.size
  refine st101 _ ?_
  have s102 := K101.1
  refine g_dup B W101 at_13 rfl ?_
  refine g_iconst B W101 at_14 (v := 0) (by decide) ?_
  refine g_lload_n B W101 at_15 rfl ?_
  refine g_iconst B W101 at_16 (v := 0) (by decide) ?_
  obtain ⟨T103, h103, v103, W103, Q103, st103⟩ := x_static B W101 [(.long p2), (.int 0)] (c_draw l Z a0 hw p2 0 h101) (by simp) at_17 (tw hw 1 rfl) (tw hw 2 rfl) (tw hw 3 rfl) (tw hw 4 rfl) (by decide) (lenOf pd__JI_C rfl) #[.val (.int p1), .val (.long p2), .second, .val (.long p3), .second, .val (.long p4), .second, .val (.int n7), .unset, .unset, .unset, .unset, .unset, .unset] [(.int 0), (.ref b101), (.ref b101)] rfl 3 rfl (by decide) (by decide) (by decide) (by decide)
  obtain ⟨x103, rfl, nx103, rx103, rfl⟩ := Q103
  refine st103 _ ?_
  obtain ⟨T104, h104, W104, K104, A104, st104⟩ := x_castore B W103 (j := 0) (x := x103) at_20 A101 (by decide) (Nat.lt_of_lt_of_eq (show Int32.toNatClampNeg 0 < 8 by decide) rfl) (by omega) #[.val (.int p1), .val (.long p2), .second, .val (.long p3), .second, .val (.long p4), .second, .val (.int n7), .unset, .unset, .unset, .unset, .unset, .unset] [(.ref b101)]
  refine st104 _ ?_
  rw [nx103] at A104
  have A104 : Arv Z h104 b101 cA101 .char 8 [(.int x103), (.int 0), (.int 0), (.int 0), (.int 0), (.int 0), (.int 0), (.int 0)] (.int 0) := A104
  have s105 := K104.1
  refine g_dup B W104 at_21 rfl ?_
  refine g_iconst B W104 at_22 (v := 1) (by decide) ?_
  refine g_lload_n B W104 at_23 rfl ?_
  refine g_iconst B W104 at_24 (v := 1) (by decide) ?_
  obtain ⟨T106, h106, v106, W106, Q106, st106⟩ := x_static B W104 [(.long p2), (.int 1)] (c_draw l Z a0 hw p2 1 h104) (by simp) at_25 (tw hw 1 rfl) (tw hw 2 rfl) (tw hw 3 rfl) (tw hw 4 rfl) (by decide) (lenOf pd__JI_C rfl) #[.val (.int p1), .val (.long p2), .second, .val (.long p3), .second, .val (.long p4), .second, .val (.int n7), .unset, .unset, .unset, .unset, .unset, .unset] [(.int 1), (.ref b101), (.ref b101)] rfl 3 rfl (by decide) (by decide) (by decide) (by decide)
  obtain ⟨x106, rfl, nx106, rx106, rfl⟩ := Q106
  refine st106 _ ?_
  obtain ⟨T107, h107, W107, K107, A107, st107⟩ := x_castore B W106 (j := 1) (x := x106) at_28 A104 (by decide) (Nat.lt_of_lt_of_eq (show Int32.toNatClampNeg 1 < 8 by decide) rfl) (by omega) #[.val (.int p1), .val (.long p2), .second, .val (.long p3), .second, .val (.long p4), .second, .val (.int n7), .unset, .unset, .unset, .unset, .unset, .unset] [(.ref b101)]
  refine st107 _ ?_
  rw [nx106] at A107
  have A107 : Arv Z h107 b101 cA101 .char 8 [(.int x103), (.int x106), (.int 0), (.int 0), (.int 0), (.int 0), (.int 0), (.int 0)] (.int 0) := A107
  have s108 := K107.1
  refine g_dup B W107 at_29 rfl ?_
  refine g_iconst B W107 at_30 (v := 2) (by decide) ?_
  refine g_lload_n B W107 at_31 rfl ?_
  refine g_iconst B W107 at_32 (v := 2) (by decide) ?_
  obtain ⟨T109, h109, v109, W109, Q109, st109⟩ := x_static B W107 [(.long p2), (.int 2)] (c_draw l Z a0 hw p2 2 h107) (by simp) at_33 (tw hw 1 rfl) (tw hw 2 rfl) (tw hw 3 rfl) (tw hw 4 rfl) (by decide) (lenOf pd__JI_C rfl) #[.val (.int p1), .val (.long p2), .second, .val (.long p3), .second, .val (.long p4), .second, .val (.int n7), .unset, .unset, .unset, .unset, .unset, .unset] [(.int 2), (.ref b101), (.ref b101)] rfl 3 rfl (by decide) (by decide) (by decide) (by decide)
  obtain ⟨x109, rfl, nx109, rx109, rfl⟩ := Q109
  refine st109 _ ?_
  obtain ⟨T110, h110, W110, K110, A110, st110⟩ := x_castore B W109 (j := 2) (x := x109) at_36 A107 (by decide) (Nat.lt_of_lt_of_eq (show Int32.toNatClampNeg 2 < 8 by decide) rfl) (by omega) #[.val (.int p1), .val (.long p2), .second, .val (.long p3), .second, .val (.long p4), .second, .val (.int n7), .unset, .unset, .unset, .unset, .unset, .unset] [(.ref b101)]
  refine st110 _ ?_
  rw [nx109] at A110
  have A110 : Arv Z h110 b101 cA101 .char 8 [(.int x103), (.int x106), (.int x109), (.int 0), (.int 0), (.int 0), (.int 0), (.int 0)] (.int 0) := A110
  have s111 := K110.1
  refine g_dup B W110 at_37 rfl ?_
  refine g_iconst B W110 at_38 (v := 3) (by decide) ?_
  refine g_lload_n B W110 at_39 rfl ?_
  refine g_iconst B W110 at_40 (v := 0) (by decide) ?_
  obtain ⟨T112, h112, v112, W112, Q112, st112⟩ := x_static B W110 [(.long p3), (.int 0)] (c_draw l Z a0 hw p3 0 h110) (by simp) at_41 (tw hw 1 rfl) (tw hw 2 rfl) (tw hw 3 rfl) (tw hw 4 rfl) (by decide) (lenOf pd__JI_C rfl) #[.val (.int p1), .val (.long p2), .second, .val (.long p3), .second, .val (.long p4), .second, .val (.int n7), .unset, .unset, .unset, .unset, .unset, .unset] [(.int 3), (.ref b101), (.ref b101)] rfl 3 rfl (by decide) (by decide) (by decide) (by decide)
  obtain ⟨x112, rfl, nx112, rx112, rfl⟩ := Q112
  refine st112 _ ?_
  obtain ⟨T113, h113, W113, K113, A113, st113⟩ := x_castore B W112 (j := 3) (x := x112) at_44 A110 (by decide) (Nat.lt_of_lt_of_eq (show Int32.toNatClampNeg 3 < 8 by decide) rfl) (by omega) #[.val (.int p1), .val (.long p2), .second, .val (.long p3), .second, .val (.long p4), .second, .val (.int n7), .unset, .unset, .unset, .unset, .unset, .unset] [(.ref b101)]
  refine st113 _ ?_
  rw [nx112] at A113
  have A113 : Arv Z h113 b101 cA101 .char 8 [(.int x103), (.int x106), (.int x109), (.int x112), (.int 0), (.int 0), (.int 0), (.int 0)] (.int 0) := A113
  have s114 := K113.1
  refine g_dup B W113 at_45 rfl ?_
  refine g_iconst B W113 at_46 (v := 4) (by decide) ?_
  refine g_lload_n B W113 at_47 rfl ?_
  refine g_iconst B W113 at_48 (v := 1) (by decide) ?_
  obtain ⟨T115, h115, v115, W115, Q115, st115⟩ := x_static B W113 [(.long p3), (.int 1)] (c_draw l Z a0 hw p3 1 h113) (by simp) at_49 (tw hw 1 rfl) (tw hw 2 rfl) (tw hw 3 rfl) (tw hw 4 rfl) (by decide) (lenOf pd__JI_C rfl) #[.val (.int p1), .val (.long p2), .second, .val (.long p3), .second, .val (.long p4), .second, .val (.int n7), .unset, .unset, .unset, .unset, .unset, .unset] [(.int 4), (.ref b101), (.ref b101)] rfl 3 rfl (by decide) (by decide) (by decide) (by decide)
  obtain ⟨x115, rfl, nx115, rx115, rfl⟩ := Q115
  refine st115 _ ?_
  obtain ⟨T116, h116, W116, K116, A116, st116⟩ := x_castore B W115 (j := 4) (x := x115) at_52 A113 (by decide) (Nat.lt_of_lt_of_eq (show Int32.toNatClampNeg 4 < 8 by decide) rfl) (by omega) #[.val (.int p1), .val (.long p2), .second, .val (.long p3), .second, .val (.long p4), .second, .val (.int n7), .unset, .unset, .unset, .unset, .unset, .unset] [(.ref b101)]
  refine st116 _ ?_
  rw [nx115] at A116
  have A116 : Arv Z h116 b101 cA101 .char 8 [(.int x103), (.int x106), (.int x109), (.int x112), (.int x115), (.int 0), (.int 0), (.int 0)] (.int 0) := A116
  have s117 := K116.1
  refine g_dup B W116 at_53 rfl ?_
  refine g_iconst B W116 at_54 (v := 5) (by decide) ?_
  refine g_lload_n B W116 at_55 rfl ?_
  refine g_iconst B W116 at_56 (v := 2) (by decide) ?_
  obtain ⟨T118, h118, v118, W118, Q118, st118⟩ := x_static B W116 [(.long p3), (.int 2)] (c_draw l Z a0 hw p3 2 h116) (by simp) at_57 (tw hw 1 rfl) (tw hw 2 rfl) (tw hw 3 rfl) (tw hw 4 rfl) (by decide) (lenOf pd__JI_C rfl) #[.val (.int p1), .val (.long p2), .second, .val (.long p3), .second, .val (.long p4), .second, .val (.int n7), .unset, .unset, .unset, .unset, .unset, .unset] [(.int 5), (.ref b101), (.ref b101)] rfl 3 rfl (by decide) (by decide) (by decide) (by decide)
  obtain ⟨x118, rfl, nx118, rx118, rfl⟩ := Q118
  refine st118 _ ?_
  obtain ⟨T119, h119, W119, K119, A119, st119⟩ := x_castore B W118 (j := 5) (x := x118) at_60 A116 (by decide) (Nat.lt_of_lt_of_eq (show Int32.toNatClampNeg 5 < 8 by decide) rfl) (by omega) #[.val (.int p1), .val (.long p2), .second, .val (.long p3), .second, .val (.long p4), .second, .val (.int n7), .unset, .unset, .unset, .unset, .unset, .unset] [(.ref b101)]
  refine st119 _ ?_
  rw [nx118] at A119
  have A119 : Arv Z h119 b101 cA101 .char 8 [(.int x103), (.int x106), (.int x109), (.int x112), (.int x115), (.int x118), (.int 0), (.int 0)] (.int 0) := A119
  have s120 := K119.1
  refine g_dup B W119 at_61 rfl ?_
  refine g_bipush B W119 at_62 (v := 6) (by decide) ?_
  refine g_lload B W119 at_64 rfl ?_
  refine g_iconst B W119 at_66 (v := 0) (by decide) ?_
  obtain ⟨T121, h121, v121, W121, Q121, st121⟩ := x_static B W119 [(.long p4), (.int 0)] (c_draw l Z a0 hw p4 0 h119) (by simp) at_67 (tw hw 1 rfl) (tw hw 2 rfl) (tw hw 3 rfl) (tw hw 4 rfl) (by decide) (lenOf pd__JI_C rfl) #[.val (.int p1), .val (.long p2), .second, .val (.long p3), .second, .val (.long p4), .second, .val (.int n7), .unset, .unset, .unset, .unset, .unset, .unset] [(.int 6), (.ref b101), (.ref b101)] rfl 3 rfl (by decide) (by decide) (by decide) (by decide)
  obtain ⟨x121, rfl, nx121, rx121, rfl⟩ := Q121
  refine st121 _ ?_
  obtain ⟨T122, h122, W122, K122, A122, st122⟩ := x_castore B W121 (j := 6) (x := x121) at_70 A119 (by decide) (Nat.lt_of_lt_of_eq (show Int32.toNatClampNeg 6 < 8 by decide) rfl) (by omega) #[.val (.int p1), .val (.long p2), .second, .val (.long p3), .second, .val (.long p4), .second, .val (.int n7), .unset, .unset, .unset, .unset, .unset, .unset] [(.ref b101)]
  refine st122 _ ?_
  rw [nx121] at A122
  have A122 : Arv Z h122 b101 cA101 .char 8 [(.int x103), (.int x106), (.int x109), (.int x112), (.int x115), (.int x118), (.int x121), (.int 0)] (.int 0) := A122
  have s123 := K122.1
  refine g_dup B W122 at_71 rfl ?_
  refine g_bipush B W122 at_72 (v := 7) (by decide) ?_
  refine g_lload B W122 at_74 rfl ?_
  refine g_iconst B W122 at_76 (v := 1) (by decide) ?_
  obtain ⟨T124, h124, v124, W124, Q124, st124⟩ := x_static B W122 [(.long p4), (.int 1)] (c_draw l Z a0 hw p4 1 h122) (by simp) at_77 (tw hw 1 rfl) (tw hw 2 rfl) (tw hw 3 rfl) (tw hw 4 rfl) (by decide) (lenOf pd__JI_C rfl) #[.val (.int p1), .val (.long p2), .second, .val (.long p3), .second, .val (.long p4), .second, .val (.int n7), .unset, .unset, .unset, .unset, .unset, .unset] [(.int 7), (.ref b101), (.ref b101)] rfl 3 rfl (by decide) (by decide) (by decide) (by decide)
  obtain ⟨x124, rfl, nx124, rx124, rfl⟩ := Q124
  refine st124 _ ?_
  obtain ⟨T125, h125, W125, K125, A125, st125⟩ := x_castore B W124 (j := 7) (x := x124) at_80 A122 (by decide) (Nat.lt_of_lt_of_eq (show Int32.toNatClampNeg 7 < 8 by decide) rfl) (by omega) #[.val (.int p1), .val (.long p2), .second, .val (.long p3), .second, .val (.long p4), .second, .val (.int n7), .unset, .unset, .unset, .unset, .unset, .unset] [(.ref b101)]
  refine st125 _ ?_
  rw [nx124] at A125
  have A125 : Arv Z h125 b101 cA101 .char 8 [(.int x103), (.int x106), (.int x109), (.int x112), (.int x115), (.int x118), (.int x121), (.int x124)] (.int 0) := A125
  have s126 := K125.1
  refine g_astore B W125 at_81 rfl (l' := #[.val (.int p1), .val (.long p2), .second, .val (.long p3), .second, .val (.long p4), .second, .val (.int n7), .val (.ref b101), .unset, .unset, .unset, .unset, .unset]) rfl ?_
  obtain ⟨F8, eF8⟩ : ∃ f : Nat → Int32, f = fun i => ([x103, x106, x109, x112, x115, x118, x121, x124] : List Int32).getD i 0 := ⟨_, rfl⟩
  have eF8_0 : F8 0 = x103 := by rw [eF8]; rfl
  have eF8_1 : F8 1 = x106 := by rw [eF8]; rfl
  have eF8_2 : F8 2 = x109 := by rw [eF8]; rfl
  have eF8_3 : F8 3 = x112 := by rw [eF8]; rfl
  have eF8_4 : F8 4 = x115 := by rw [eF8]; rfl
  have eF8_5 : F8 5 = x118 := by rw [eF8]; rfl
  have eF8_6 : F8 6 = x121 := by rw [eF8]; rfl
  have eF8_7 : F8 7 = x124 := by rw [eF8]; rfl
  suffices qj : ∀ (T' : State) (h' : Heap) (pb : Addr) (n : Nat), Wk p l e room_1 s m #[(.int p1), (.long p2), (.long p3), (.long p4)] below meth c Z T' h' 7 48 [b101] → StrC Z h' pb n F8 → n ≤ 8 → Go p.tables e below (Jvm.OwnK.Out Z s (Q_law Z p1 p2 p3 p4 cz sf h0) room_1.cells room_1.slots) T' (mkF m 242 #[.val (.int p1), .val (.long p2), .second, .val (.long p3), .second, .val (.long p4), .second, .val (.int (Int32.ofNat n)), .val (.ref b101), .val (.ref pb), .val (.int (bi (pg n F8))), .unset, .unset, .unset] []) by
    rcases hq with rfl | rfl | rfl | rfl | rfl | rfl | rfl | rfl | rfl
    · skip
      show Go p.tables e below _ T125 (mkF m 83 #[.val (.int p1), .val (.long p2), .second, .val (.long p3), .second, .val (.long p4), .second, .val (.int 0), .val (.ref b101), .unset, .unset, .unset, .unset, .unset] [])
      obtain ⟨T127, h127, b127, gb127, W127, K127, E127, D127, st127⟩ := x_new B W125 at_83 (tw hw 7 rfl) (tw hw 8 rfl) (tw hw 9 rfl) (by decide) (by decide) #[.val (.int p1), .val (.long p2), .second, .val (.long p3), .second, .val (.long p4), .second, .val (.int 0), .val (.ref b101), .unset, .unset, .unset, .unset, .unset] []
      have l127 := nlt E127.lt
      have z127 := W125.size
      refine st127 _ ?_
      have s128 := K127.1
      have f129 : Fld Z h127 b127 "java/lang/String" "value" "[B" .null := D127 (Or.inr (tw hw 25 rfl)) (ty := (.array .byte)) (by decide)
      have f130 : Fld Z h127 b127 "java/lang/String" "coder" "B" (.int 0) := D127 (Or.inr (tw hw 26 rfl)) (ty := .byte) (by decide)
      refine g_dup B W127 at_86 rfl ?_
      refine g_aload B W127 at_87 rfl rfl ?_
      refine g_iload B W127 at_89 rfl ?_
      have zs131 := W127.size
      have f132 := (A125.keep K127 nin0)
      obtain ⟨T133, h133, v133, W133, Q133, st133⟩ := x_static B W127 [(.ref b101), (.int 0)] (c_pre0 l Z a0 hw b101 cA101 x103 x106 x109 x112 x115 x118 x121 x124 h127 f132 nx103 nx106 nx109 nx112 nx115 nx118 nx121 nx124) (by simp) at_91 (tw hw 10 rfl) (tw hw 11 rfl) (tw hw 3 rfl) (tw hw 12 rfl) (by decide) (lenOf pd___CI__C rfl) #[.val (.int p1), .val (.long p2), .second, .val (.long p3), .second, .val (.long p4), .second, .val (.int 0), .val (.ref b101), .unset, .unset, .unset, .unset, .unset] [(.ref b127), (.ref b127)] rfl 2 rfl (by decide) (by decide) (by decide) (by decide)
      obtain ⟨b133, kB133, rfl, g133, K133, A133⟩ := Q133
      have s134 := K133.1
      refine st133 _ ?_
      have l133 := nlt A133.lt
      have z133 := W133.size
      have f136 := (E127.keep K133)
      have f137 := (f129.keep K133 nin0)
      have f138 := (f130.keep K133 nin0)
      obtain ⟨T139, h139, v139, W139, Q139, st139⟩ := x_special B W133 (b := b127) [(.ref b133)] (c_sI1 l Z a0 hw b127 b133 kB133 h133 f136 f137 f138 (by omega) A133) (by simp) at_94 rfl (tw hw 13 rfl) (tw hw 14 rfl) (tw hw 9 rfl) (tw hw 15 rfl) (by decide) (lenOf pd___C_V rfl) #[.val (.int p1), .val (.long p2), .second, .val (.long p3), .second, .val (.long p4), .second, .val (.int 0), .val (.ref b101), .unset, .unset, .unset, .unset, .unset] [(.ref b127)] rfl 1 rfl (by decide) (by decide) (by decide) (by decide)
      obtain ⟨rfl, K139, S139⟩ := Q139
      have s140 := K139.1
      refine st139 _ ?_
      have e139 := S139.exa
      have C135 : StrC Z h139 b127 0 F8 := StrC.of_nil S139
      refine g_astore B W139 at_97 rfl (l' := #[.val (.int p1), .val (.long p2), .second, .val (.long p3), .second, .val (.long p4), .second, .val (.int 0), .val (.ref b101), .val (.ref b127), .unset, .unset, .unset, .unset]) rfl ?_
      refine g_iload B W139 at_99 rfl ?_
      refine g_if_n B W139 at_101 (XT.i0_ne_f (by decide)) ?_
      show Go p.tables e below _ T139 (mkF m 104 #[.val (.int p1), .val (.long p2), .second, .val (.long p3), .second, .val (.long p4), .second, .val (.int 0), .val (.ref b101), .val (.ref b127), .unset, .unset, .unset, .unset] [])
      refine g_iconst B W139 at_104 (v := 0) (by decide) ?_
      refine g_istore B W139 at_105  (l' := #[.val (.int p1), .val (.long p2), .second, .val (.long p3), .second, .val (.long p4), .second, .val (.int 0), .val (.ref b101), .val (.ref b127), .val (.int 0), .unset, .unset, .unset]) rfl ?_
      refine g_goto B W139 at_107 (pc' := 242) (by decide) ?_
      show Go p.tables e below _ T139 (mkF m 242 #[.val (.int p1), .val (.long p2), .second, .val (.long p3), .second, .val (.long p4), .second, .val (.int 0), .val (.ref b101), .val (.ref b127), .val (.int 0), .unset, .unset, .unset] [])
      exact qj _ _ b127 0 (Wk.sub (Wk.more W139 (by decide) (by decide)) (by simp)) C135 (by omega)
    · skip
      show Go p.tables e below _ T125 (mkF m 83 #[.val (.int p1), .val (.long p2), .second, .val (.long p3), .second, .val (.long p4), .second, .val (.int 1), .val (.ref b101), .unset, .unset, .unset, .unset, .unset] [])
      obtain ⟨T141, h141, b141, gb141, W141, K141, E141, D141, st141⟩ := x_new B W125 at_83 (tw hw 7 rfl) (tw hw 8 rfl) (tw hw 9 rfl) (by decide) (by decide) #[.val (.int p1), .val (.long p2), .second, .val (.long p3), .second, .val (.long p4), .second, .val (.int 1), .val (.ref b101), .unset, .unset, .unset, .unset, .unset] []
      have l141 := nlt E141.lt
      have z141 := W125.size
      refine st141 _ ?_
      have s142 := K141.1
      have f143 : Fld Z h141 b141 "java/lang/String" "value" "[B" .null := D141 (Or.inr (tw hw 25 rfl)) (ty := (.array .byte)) (by decide)
      have f144 : Fld Z h141 b141 "java/lang/String" "coder" "B" (.int 0) := D141 (Or.inr (tw hw 26 rfl)) (ty := .byte) (by decide)
      refine g_dup B W141 at_86 rfl ?_
      refine g_aload B W141 at_87 rfl rfl ?_
      refine g_iload B W141 at_89 rfl ?_
      have zs145 := W141.size
      have f146 := (A125.keep K141 nin0)
      obtain ⟨T147, h147, v147, W147, Q147, st147⟩ := x_static B W141 [(.ref b101), (.int 1)] (c_pre1 l Z a0 hw b101 cA101 x103 x106 x109 x112 x115 x118 x121 x124 h141 f146 nx103 nx106 nx109 nx112 nx115 nx118 nx121 nx124) (by simp) at_91 (tw hw 10 rfl) (tw hw 11 rfl) (tw hw 3 rfl) (tw hw 12 rfl) (by decide) (lenOf pd___CI__C rfl) #[.val (.int p1), .val (.long p2), .second, .val (.long p3), .second, .val (.long p4), .second, .val (.int 1), .val (.ref b101), .unset, .unset, .unset, .unset, .unset] [(.ref b141), (.ref b141)] rfl 2 rfl (by decide) (by decide) (by decide) (by decide)
      obtain ⟨b147, kB147, rfl, g147, K147, A147⟩ := Q147
      have s148 := K147.1
      refine st147 _ ?_
      have l147 := nlt A147.lt
      have z147 := W147.size
      have A149 : Arv Z h147 b147 kB147 .char (Int32.ofNat 1) (arl 1 F8) (.int 0) := by rw [show arl 1 F8 = [.int x103] by rw [eF8]; rfl]; exact A147
      have f150 := (E141.keep K147)
      have f151 := (f143.keep K147 nin0)
      have f152 := (f144.keep K147 nin0)
      obtain ⟨T153, h153, v153, W153, Q153, st153⟩ := x_special B W147 (b := b141) [(.ref b147)] (c_sI1w l Z a0 hw b141 b147 kB147 1 F8 cz h147 Scs hcz Sad Shi Slo f150 f151 f152 (by omega) A149 (by intro j hj; obtain rfl : j = 0 := (by omega); rw [eF8_0]; exact (own_rn rx103)) (by omega) (by omega)) (by simp) at_94 rfl (tw hw 13 rfl) (tw hw 14 rfl) (tw hw 9 rfl) (tw hw 15 rfl) (by decide) (lenOf pd___C_V rfl) #[.val (.int p1), .val (.long p2), .second, .val (.long p3), .second, .val (.long p4), .second, .val (.int 1), .val (.ref b101), .unset, .unset, .unset, .unset, .unset] [(.ref b141)] rfl 1 rfl (by decide) (by decide) (by decide) (by decide)
      obtain ⟨rfl, K153, S153⟩ := Q153
      have s154 := K153.1
      refine st153 _ ?_
      have E153 := S153.exa
      refine g_astore B W153 at_97 rfl (l' := #[.val (.int p1), .val (.long p2), .second, .val (.long p3), .second, .val (.long p4), .second, .val (.int 1), .val (.ref b101), .val (.ref b141), .unset, .unset, .unset, .unset]) rfl ?_
      refine g_iload B W153 at_99 rfl ?_
      refine g_if_y B W153 at_101 (XT.i0_ne_t (by decide)) (pc' := 110) (by decide) ?_
      show Go p.tables e below _ T153 (mkF m 110 #[.val (.int p1), .val (.long p2), .second, .val (.long p3), .second, .val (.long p4), .second, .val (.int 1), .val (.ref b101), .val (.ref b141), .unset, .unset, .unset, .unset] [])
      refine g_iload B W153 at_110 rfl ?_
      refine g_iconst B W153 at_112 (v := 1) (by decide) ?_
      refine g_icmp_n B W153 at_113 (XT.ii_ne_f (by decide)) ?_
      show Go p.tables e below _ T153 (mkF m 116 #[.val (.int p1), .val (.long p2), .second, .val (.long p3), .second, .val (.long p4), .second, .val (.int 1), .val (.ref b101), .val (.ref b141), .unset, .unset, .unset, .unset] [])
      suffices q155 : ∀ T' : State, Wk p l e room_1 s m #[(.int p1), (.long p2), (.long p3), (.long p4)] below meth c Z T' h153 5 37 [b141, b101] → Go p.tables e below (Jvm.OwnK.Out Z s (Q_law Z p1 p2 p3 p4 cz sf h0) room_1.cells room_1.slots) T' (mkF m 130 #[.val (.int p1), .val (.long p2), .second, .val (.long p3), .second, .val (.long p4), .second, .val (.int 1), .val (.ref b101), .val (.ref b141), .unset, .unset, .unset, .unset] [(.int (bi (pg 1 F8)))]) by
        refine g_aload B W153 at_116 rfl rfl ?_
        refine g_iconst B W153 at_118 (v := 0) (by decide) ?_
        have f156 := (f146.keep K147 nin0)
        have f157 := (f156.keep K153 (ninS (nne (by have q := nlt f156.lt; omega)) nin0))
        refine g_caload B W153 at_119 f157 (by decide) (show List.getD ([(.int x103), (.int x106), (.int x109), (.int x112), (.int x115), (.int x118), (.int x121), (.int x124)] : List Value) _ _ = (.int x103) from rfl) ?_
        refine g_bipush B W153 at_120 (v := 47) (by decide) ?_
        by_cases hc158 : x103 = 47
        · skip
          refine g_icmp_n B W153 at_122 (XT.ii_ne_f hc158) ?_
          show Go p.tables e below _ T153 (mkF m 125 #[.val (.int p1), .val (.long p2), .second, .val (.long p3), .second, .val (.long p4), .second, .val (.int 1), .val (.ref b101), .val (.ref b141), .unset, .unset, .unset, .unset] [])
          refine g_iconst B W153 at_125 (v := 1) (by decide) ?_
          refine g_goto B W153 at_126 (pc' := 130) (by decide) ?_
          show Go p.tables e below _ T153 (mkF m 130 #[.val (.int p1), .val (.long p2), .second, .val (.long p3), .second, .val (.long p4), .second, .val (.int 1), .val (.ref b101), .val (.ref b141), .unset, .unset, .unset, .unset] [(.int 1)])
          exact own_gc (by rw [show pg 1 F8 = true from (pg_eq (n := 0) (by decide) (by rw [eF8_0]; exact hc158) (by rw [eF8_0]; exact hc158)).trans rfl]; rfl) (q155 _ W153)
        · skip
          refine g_icmp_y B W153 at_122 (XT.ii_ne_t hc158) (pc' := 129) (by decide) ?_
          show Go p.tables e below _ T153 (mkF m 129 #[.val (.int p1), .val (.long p2), .second, .val (.long p3), .second, .val (.long p4), .second, .val (.int 1), .val (.ref b101), .val (.ref b141), .unset, .unset, .unset, .unset] [])
          refine g_iconst B W153 at_129 (v := 0) (by decide) ?_
          exact own_gc (by rw [show pg 1 F8 = false from pg_f0 (by rw [eF8_0]; exact hc158)]; rfl) (q155 _ W153)
      intro T155 W155
      refine g_istore B W155 at_130  (l' := #[.val (.int p1), .val (.long p2), .second, .val (.long p3), .second, .val (.long p4), .second, .val (.int 1), .val (.ref b101), .val (.ref b141), .val (.int (bi (pg 1 F8))), .unset, .unset, .unset]) rfl ?_
      refine g_goto B W155 at_132 (pc' := 242) (by decide) ?_
      show Go p.tables e below _ T155 (mkF m 242 #[.val (.int p1), .val (.long p2), .second, .val (.long p3), .second, .val (.long p4), .second, .val (.int 1), .val (.ref b101), .val (.ref b141), .val (.int (bi (pg 1 F8))), .unset, .unset, .unset] [])
      exact qj _ _ b141 1 (Wk.sub (Wk.more W155 (by decide) (by decide)) (by simp)) S153 (by omega)
    · skip
      show Go p.tables e below _ T125 (mkF m 83 #[.val (.int p1), .val (.long p2), .second, .val (.long p3), .second, .val (.long p4), .second, .val (.int 2), .val (.ref b101), .unset, .unset, .unset, .unset, .unset] [])
      obtain ⟨T159, h159, b159, gb159, W159, K159, E159, D159, st159⟩ := x_new B W125 at_83 (tw hw 7 rfl) (tw hw 8 rfl) (tw hw 9 rfl) (by decide) (by decide) #[.val (.int p1), .val (.long p2), .second, .val (.long p3), .second, .val (.long p4), .second, .val (.int 2), .val (.ref b101), .unset, .unset, .unset, .unset, .unset] []
      have l159 := nlt E159.lt
      have z159 := W125.size
      refine st159 _ ?_
      have s160 := K159.1
      have f161 : Fld Z h159 b159 "java/lang/String" "value" "[B" .null := D159 (Or.inr (tw hw 25 rfl)) (ty := (.array .byte)) (by decide)
      have f162 : Fld Z h159 b159 "java/lang/String" "coder" "B" (.int 0) := D159 (Or.inr (tw hw 26 rfl)) (ty := .byte) (by decide)
      refine g_dup B W159 at_86 rfl ?_
      refine g_aload B W159 at_87 rfl rfl ?_
      refine g_iload B W159 at_89 rfl ?_
      have zs163 := W159.size
      have f164 := (A125.keep K159 nin0)
      obtain ⟨T165, h165, v165, W165, Q165, st165⟩ := x_static B W159 [(.ref b101), (.int 2)] (c_pre2 l Z a0 hw b101 cA101 x103 x106 x109 x112 x115 x118 x121 x124 h159 f164 nx103 nx106 nx109 nx112 nx115 nx118 nx121 nx124) (by simp) at_91 (tw hw 10 rfl) (tw hw 11 rfl) (tw hw 3 rfl) (tw hw 12 rfl) (by decide) (lenOf pd___CI__C rfl) #[.val (.int p1), .val (.long p2), .second, .val (.long p3), .second, .val (.long p4), .second, .val (.int 2), .val (.ref b101), .unset, .unset, .unset, .unset, .unset] [(.ref b159), (.ref b159)] rfl 2 rfl (by decide) (by decide) (by decide) (by decide)
      obtain ⟨b165, kB165, rfl, g165, K165, A165⟩ := Q165
      have s166 := K165.1
      refine st165 _ ?_
      have l165 := nlt A165.lt
      have z165 := W165.size
      have A167 : Arv Z h165 b165 kB165 .char (Int32.ofNat 2) (arl 2 F8) (.int 0) := by rw [show arl 2 F8 = [.int x103, .int x106] by rw [eF8]; rfl]; exact A165
      have f168 := (E159.keep K165)
      have f169 := (f161.keep K165 nin0)
      have f170 := (f162.keep K165 nin0)
      obtain ⟨T171, h171, v171, W171, Q171, st171⟩ := x_special B W165 (b := b159) [(.ref b165)] (c_sI1w l Z a0 hw b159 b165 kB165 2 F8 cz h165 Scs hcz Sad Shi Slo f168 f169 f170 (by omega) A167 (by intro j hj; obtain rfl | rfl : j = 0 ∨ j = 1 := (by omega); (· exact (by rw [eF8_0]; exact (own_rn rx103))); (· exact (by rw [eF8_1]; exact (own_rn rx106)))) (by omega) (by omega)) (by simp) at_94 rfl (tw hw 13 rfl) (tw hw 14 rfl) (tw hw 9 rfl) (tw hw 15 rfl) (by decide) (lenOf pd___C_V rfl) #[.val (.int p1), .val (.long p2), .second, .val (.long p3), .second, .val (.long p4), .second, .val (.int 2), .val (.ref b101), .unset, .unset, .unset, .unset, .unset] [(.ref b159)] rfl 1 rfl (by decide) (by decide) (by decide) (by decide)
      obtain ⟨rfl, K171, S171⟩ := Q171
      have s172 := K171.1
      refine st171 _ ?_
      have E171 := S171.exa
      refine g_astore B W171 at_97 rfl (l' := #[.val (.int p1), .val (.long p2), .second, .val (.long p3), .second, .val (.long p4), .second, .val (.int 2), .val (.ref b101), .val (.ref b159), .unset, .unset, .unset, .unset]) rfl ?_
      refine g_iload B W171 at_99 rfl ?_
      refine g_if_y B W171 at_101 (XT.i0_ne_t (by decide)) (pc' := 110) (by decide) ?_
      show Go p.tables e below _ T171 (mkF m 110 #[.val (.int p1), .val (.long p2), .second, .val (.long p3), .second, .val (.long p4), .second, .val (.int 2), .val (.ref b101), .val (.ref b159), .unset, .unset, .unset, .unset] [])
      refine g_iload B W171 at_110 rfl ?_
      refine g_iconst B W171 at_112 (v := 1) (by decide) ?_
      refine g_icmp_y B W171 at_113 (XT.ii_ne_t (by decide)) (pc' := 135) (by decide) ?_
      show Go p.tables e below _ T171 (mkF m 135 #[.val (.int p1), .val (.long p2), .second, .val (.long p3), .second, .val (.long p4), .second, .val (.int 2), .val (.ref b101), .val (.ref b159), .unset, .unset, .unset, .unset] [])
      suffices q173 : ∀ T' : State, Wk p l e room_1 s m #[(.int p1), (.long p2), (.long p3), (.long p4)] below meth c Z T' h171 5 38 [b159, b101] → Go p.tables e below (Jvm.OwnK.Out Z s (Q_law Z p1 p2 p3 p4 cz sf h0) room_1.cells room_1.slots) T' (mkF m 240 #[.val (.int p1), .val (.long p2), .second, .val (.long p3), .second, .val (.long p4), .second, .val (.int 2), .val (.ref b101), .val (.ref b159), .unset, .unset, .unset, .unset] [(.int (bi (pg 2 F8)))]) by
        refine g_aload B W171 at_135 rfl rfl ?_
        refine g_iconst B W171 at_137 (v := 0) (by decide) ?_
        have f174 := (f164.keep K165 nin0)
        have f175 := (f174.keep K171 (ninS (nne (by have q := nlt f174.lt; omega)) nin0))
        refine g_caload B W171 at_138 f175 (by decide) (show List.getD ([(.int x103), (.int x106), (.int x109), (.int x112), (.int x115), (.int x118), (.int x121), (.int x124)] : List Value) _ _ = (.int x103) from rfl) ?_
        refine g_bipush B W171 at_139 (v := 47) (by decide) ?_
        by_cases hc176 : x103 = 47
        · skip
          refine g_icmp_n B W171 at_141 (XT.ii_ne_f hc176) ?_
          show Go p.tables e below _ T171 (mkF m 144 #[.val (.int p1), .val (.long p2), .second, .val (.long p3), .second, .val (.long p4), .second, .val (.int 2), .val (.ref b101), .val (.ref b159), .unset, .unset, .unset, .unset] [])
          refine g_aload B W171 at_144 rfl rfl ?_
          refine g_iload B W171 at_146 rfl ?_
          refine g_iconst B W171 at_148 (v := 1) (by decide) ?_
          refine g_isub B W171 at_149  ?_
          rw [show (2 - 1 : Int32) = 1 by decide]
          refine g_caload B W171 at_150 f175 (by decide) (show List.getD ([(.int x103), (.int x106), (.int x109), (.int x112), (.int x115), (.int x118), (.int x121), (.int x124)] : List Value) _ _ = (.int x106) from rfl) ?_
          refine g_bipush B W171 at_151 (v := 47) (by decide) ?_
          by_cases hc177 : x106 = 47
          · skip
            refine g_icmp_n B W171 at_153 (XT.ii_ne_f hc177) ?_
            show Go p.tables e below _ T171 (mkF m 156 #[.val (.int p1), .val (.long p2), .second, .val (.long p3), .second, .val (.long p4), .second, .val (.int 2), .val (.ref b101), .val (.ref b159), .unset, .unset, .unset, .unset] [])
            refine g_aload B W171 at_156 rfl rfl ?_
            refine g_iload B W171 at_158 rfl ?_
            refine g_iconst B W171 at_160 (v := 1) (by decide) ?_
            obtain ⟨T178, h178, v178, W178, Q178, st178⟩ := x_static B W171 [(.ref b101), (.int 2), (.int 1)] (c_good l Z a0 hw b101 cA101 F8 2 1 h171 (by rw [show arl 8 F8 = [(.int x103), (.int x106), (.int x109), (.int x112), (.int x115), (.int x118), (.int x121), (.int x124)] by rw [eF8]; rfl]; exact f175) (by decide) (by decide)) (by simp) at_161 (tw hw 110 rfl) (tw hw 111 rfl) (tw hw 3 rfl) (tw hw 112 rfl) (by decide) (lenOf pd___CII_Z rfl) #[.val (.int p1), .val (.long p2), .second, .val (.long p3), .second, .val (.long p4), .second, .val (.int 2), .val (.ref b101), .val (.ref b159), .unset, .unset, .unset, .unset] [] rfl 0 rfl (by decide) (by decide) (by decide) (by decide)
            obtain ⟨rfl, rfl⟩ := Q178
            refine st178 _ ?_
            show Go p.tables e below _ T178 (mkF m 164 #[.val (.int p1), .val (.long p2), .second, .val (.long p3), .second, .val (.long p4), .second, .val (.int 2), .val (.ref b101), .val (.ref b159), .unset, .unset, .unset, .unset] [(.int (bi (okB F8 1)))])
            by_cases hc179 : (okB F8 1) = true
            · skip
              refine g_if_n B W178 at_164 (XT.i0_eq_f (bi_t hc179)) ?_
              show Go p.tables e below _ T178 (mkF m 167 #[.val (.int p1), .val (.long p2), .second, .val (.long p3), .second, .val (.long p4), .second, .val (.int 2), .val (.ref b101), .val (.ref b159), .unset, .unset, .unset, .unset] [])
              refine g_aload B W178 at_167 rfl rfl ?_
              refine g_iload B W178 at_169 rfl ?_
              refine g_iconst B W178 at_171 (v := 2) (by decide) ?_
              obtain ⟨T180, h180, v180, W180, Q180, st180⟩ := x_static B W178 [(.ref b101), (.int 2), (.int 2)] (c_good l Z a0 hw b101 cA101 F8 2 2 h171 (by rw [show arl 8 F8 = [(.int x103), (.int x106), (.int x109), (.int x112), (.int x115), (.int x118), (.int x121), (.int x124)] by rw [eF8]; rfl]; exact f175) (by decide) (by decide)) (by simp) at_172 (tw hw 110 rfl) (tw hw 111 rfl) (tw hw 3 rfl) (tw hw 112 rfl) (by decide) (lenOf pd___CII_Z rfl) #[.val (.int p1), .val (.long p2), .second, .val (.long p3), .second, .val (.long p4), .second, .val (.int 2), .val (.ref b101), .val (.ref b159), .unset, .unset, .unset, .unset] [] rfl 0 rfl (by decide) (by decide) (by decide) (by decide)
              obtain ⟨rfl, rfl⟩ := Q180
              refine st180 _ ?_
              show Go p.tables e below _ T180 (mkF m 175 #[.val (.int p1), .val (.long p2), .second, .val (.long p3), .second, .val (.long p4), .second, .val (.int 2), .val (.ref b101), .val (.ref b159), .unset, .unset, .unset, .unset] [(.int 1)])
              show Go p.tables e below _ T180 (mkF m 175 #[.val (.int p1), .val (.long p2), .second, .val (.long p3), .second, .val (.long p4), .second, .val (.int 2), .val (.ref b101), .val (.ref b159), .unset, .unset, .unset, .unset] [(.int 1)])
              refine g_if_n B W180 at_175 (XT.i0_eq_f (by decide)) ?_
              show Go p.tables e below _ T180 (mkF m 178 #[.val (.int p1), .val (.long p2), .second, .val (.long p3), .second, .val (.long p4), .second, .val (.int 2), .val (.ref b101), .val (.ref b159), .unset, .unset, .unset, .unset] [])
              refine g_aload B W180 at_178 rfl rfl ?_
              refine g_iload B W180 at_180 rfl ?_
              refine g_iconst B W180 at_182 (v := 3) (by decide) ?_
              obtain ⟨T181, h181, v181, W181, Q181, st181⟩ := x_static B W180 [(.ref b101), (.int 2), (.int 3)] (c_good l Z a0 hw b101 cA101 F8 2 3 h171 (by rw [show arl 8 F8 = [(.int x103), (.int x106), (.int x109), (.int x112), (.int x115), (.int x118), (.int x121), (.int x124)] by rw [eF8]; rfl]; exact f175) (by decide) (by decide)) (by simp) at_183 (tw hw 110 rfl) (tw hw 111 rfl) (tw hw 3 rfl) (tw hw 112 rfl) (by decide) (lenOf pd___CII_Z rfl) #[.val (.int p1), .val (.long p2), .second, .val (.long p3), .second, .val (.long p4), .second, .val (.int 2), .val (.ref b101), .val (.ref b159), .unset, .unset, .unset, .unset] [] rfl 0 rfl (by decide) (by decide) (by decide) (by decide)
              obtain ⟨rfl, rfl⟩ := Q181
              refine st181 _ ?_
              show Go p.tables e below _ T181 (mkF m 186 #[.val (.int p1), .val (.long p2), .second, .val (.long p3), .second, .val (.long p4), .second, .val (.int 2), .val (.ref b101), .val (.ref b159), .unset, .unset, .unset, .unset] [(.int 1)])
              show Go p.tables e below _ T181 (mkF m 186 #[.val (.int p1), .val (.long p2), .second, .val (.long p3), .second, .val (.long p4), .second, .val (.int 2), .val (.ref b101), .val (.ref b159), .unset, .unset, .unset, .unset] [(.int 1)])
              refine g_if_n B W181 at_186 (XT.i0_eq_f (by decide)) ?_
              show Go p.tables e below _ T181 (mkF m 189 #[.val (.int p1), .val (.long p2), .second, .val (.long p3), .second, .val (.long p4), .second, .val (.int 2), .val (.ref b101), .val (.ref b159), .unset, .unset, .unset, .unset] [])
              refine g_aload B W181 at_189 rfl rfl ?_
              refine g_iload B W181 at_191 rfl ?_
              refine g_iconst B W181 at_193 (v := 4) (by decide) ?_
              obtain ⟨T182, h182, v182, W182, Q182, st182⟩ := x_static B W181 [(.ref b101), (.int 2), (.int 4)] (c_good l Z a0 hw b101 cA101 F8 2 4 h171 (by rw [show arl 8 F8 = [(.int x103), (.int x106), (.int x109), (.int x112), (.int x115), (.int x118), (.int x121), (.int x124)] by rw [eF8]; rfl]; exact f175) (by decide) (by decide)) (by simp) at_194 (tw hw 110 rfl) (tw hw 111 rfl) (tw hw 3 rfl) (tw hw 112 rfl) (by decide) (lenOf pd___CII_Z rfl) #[.val (.int p1), .val (.long p2), .second, .val (.long p3), .second, .val (.long p4), .second, .val (.int 2), .val (.ref b101), .val (.ref b159), .unset, .unset, .unset, .unset] [] rfl 0 rfl (by decide) (by decide) (by decide) (by decide)
              obtain ⟨rfl, rfl⟩ := Q182
              refine st182 _ ?_
              show Go p.tables e below _ T182 (mkF m 197 #[.val (.int p1), .val (.long p2), .second, .val (.long p3), .second, .val (.long p4), .second, .val (.int 2), .val (.ref b101), .val (.ref b159), .unset, .unset, .unset, .unset] [(.int 1)])
              show Go p.tables e below _ T182 (mkF m 197 #[.val (.int p1), .val (.long p2), .second, .val (.long p3), .second, .val (.long p4), .second, .val (.int 2), .val (.ref b101), .val (.ref b159), .unset, .unset, .unset, .unset] [(.int 1)])
              refine g_if_n B W182 at_197 (XT.i0_eq_f (by decide)) ?_
              show Go p.tables e below _ T182 (mkF m 200 #[.val (.int p1), .val (.long p2), .second, .val (.long p3), .second, .val (.long p4), .second, .val (.int 2), .val (.ref b101), .val (.ref b159), .unset, .unset, .unset, .unset] [])
              refine g_aload B W182 at_200 rfl rfl ?_
              refine g_iload B W182 at_202 rfl ?_
              refine g_iconst B W182 at_204 (v := 5) (by decide) ?_
              obtain ⟨T183, h183, v183, W183, Q183, st183⟩ := x_static B W182 [(.ref b101), (.int 2), (.int 5)] (c_good l Z a0 hw b101 cA101 F8 2 5 h171 (by rw [show arl 8 F8 = [(.int x103), (.int x106), (.int x109), (.int x112), (.int x115), (.int x118), (.int x121), (.int x124)] by rw [eF8]; rfl]; exact f175) (by decide) (by decide)) (by simp) at_205 (tw hw 110 rfl) (tw hw 111 rfl) (tw hw 3 rfl) (tw hw 112 rfl) (by decide) (lenOf pd___CII_Z rfl) #[.val (.int p1), .val (.long p2), .second, .val (.long p3), .second, .val (.long p4), .second, .val (.int 2), .val (.ref b101), .val (.ref b159), .unset, .unset, .unset, .unset] [] rfl 0 rfl (by decide) (by decide) (by decide) (by decide)
              obtain ⟨rfl, rfl⟩ := Q183
              refine st183 _ ?_
              show Go p.tables e below _ T183 (mkF m 208 #[.val (.int p1), .val (.long p2), .second, .val (.long p3), .second, .val (.long p4), .second, .val (.int 2), .val (.ref b101), .val (.ref b159), .unset, .unset, .unset, .unset] [(.int 1)])
              show Go p.tables e below _ T183 (mkF m 208 #[.val (.int p1), .val (.long p2), .second, .val (.long p3), .second, .val (.long p4), .second, .val (.int 2), .val (.ref b101), .val (.ref b159), .unset, .unset, .unset, .unset] [(.int 1)])
              refine g_if_n B W183 at_208 (XT.i0_eq_f (by decide)) ?_
              show Go p.tables e below _ T183 (mkF m 211 #[.val (.int p1), .val (.long p2), .second, .val (.long p3), .second, .val (.long p4), .second, .val (.int 2), .val (.ref b101), .val (.ref b159), .unset, .unset, .unset, .unset] [])
              refine g_aload B W183 at_211 rfl rfl ?_
              refine g_iload B W183 at_213 rfl ?_
              refine g_bipush B W183 at_215 (v := 6) (by decide) ?_
              obtain ⟨T184, h184, v184, W184, Q184, st184⟩ := x_static B W183 [(.ref b101), (.int 2), (.int 6)] (c_good l Z a0 hw b101 cA101 F8 2 6 h171 (by rw [show arl 8 F8 = [(.int x103), (.int x106), (.int x109), (.int x112), (.int x115), (.int x118), (.int x121), (.int x124)] by rw [eF8]; rfl]; exact f175) (by decide) (by decide)) (by simp) at_217 (tw hw 110 rfl) (tw hw 111 rfl) (tw hw 3 rfl) (tw hw 112 rfl) (by decide) (lenOf pd___CII_Z rfl) #[.val (.int p1), .val (.long p2), .second, .val (.long p3), .second, .val (.long p4), .second, .val (.int 2), .val (.ref b101), .val (.ref b159), .unset, .unset, .unset, .unset] [] rfl 0 rfl (by decide) (by decide) (by decide) (by decide)
              obtain ⟨rfl, rfl⟩ := Q184
              refine st184 _ ?_
              show Go p.tables e below _ T184 (mkF m 220 #[.val (.int p1), .val (.long p2), .second, .val (.long p3), .second, .val (.long p4), .second, .val (.int 2), .val (.ref b101), .val (.ref b159), .unset, .unset, .unset, .unset] [(.int 1)])
              show Go p.tables e below _ T184 (mkF m 220 #[.val (.int p1), .val (.long p2), .second, .val (.long p3), .second, .val (.long p4), .second, .val (.int 2), .val (.ref b101), .val (.ref b159), .unset, .unset, .unset, .unset] [(.int 1)])
              refine g_if_n B W184 at_220 (XT.i0_eq_f (by decide)) ?_
              show Go p.tables e below _ T184 (mkF m 223 #[.val (.int p1), .val (.long p2), .second, .val (.long p3), .second, .val (.long p4), .second, .val (.int 2), .val (.ref b101), .val (.ref b159), .unset, .unset, .unset, .unset] [])
              refine g_aload B W184 at_223 rfl rfl ?_
              refine g_iload B W184 at_225 rfl ?_
              refine g_bipush B W184 at_227 (v := 7) (by decide) ?_
              obtain ⟨T185, h185, v185, W185, Q185, st185⟩ := x_static B W184 [(.ref b101), (.int 2), (.int 7)] (c_good l Z a0 hw b101 cA101 F8 2 7 h171 (by rw [show arl 8 F8 = [(.int x103), (.int x106), (.int x109), (.int x112), (.int x115), (.int x118), (.int x121), (.int x124)] by rw [eF8]; rfl]; exact f175) (by decide) (by decide)) (by simp) at_229 (tw hw 110 rfl) (tw hw 111 rfl) (tw hw 3 rfl) (tw hw 112 rfl) (by decide) (lenOf pd___CII_Z rfl) #[.val (.int p1), .val (.long p2), .second, .val (.long p3), .second, .val (.long p4), .second, .val (.int 2), .val (.ref b101), .val (.ref b159), .unset, .unset, .unset, .unset] [] rfl 0 rfl (by decide) (by decide) (by decide) (by decide)
              obtain ⟨rfl, rfl⟩ := Q185
              refine st185 _ ?_
              show Go p.tables e below _ T185 (mkF m 232 #[.val (.int p1), .val (.long p2), .second, .val (.long p3), .second, .val (.long p4), .second, .val (.int 2), .val (.ref b101), .val (.ref b159), .unset, .unset, .unset, .unset] [(.int 1)])
              show Go p.tables e below _ T185 (mkF m 232 #[.val (.int p1), .val (.long p2), .second, .val (.long p3), .second, .val (.long p4), .second, .val (.int 2), .val (.ref b101), .val (.ref b159), .unset, .unset, .unset, .unset] [(.int 1)])
              refine g_if_n B W185 at_232 (XT.i0_eq_f (by decide)) ?_
              show Go p.tables e below _ T185 (mkF m 235 #[.val (.int p1), .val (.long p2), .second, .val (.long p3), .second, .val (.long p4), .second, .val (.int 2), .val (.ref b101), .val (.ref b159), .unset, .unset, .unset, .unset] [])
              refine g_iconst B W185 at_235 (v := 1) (by decide) ?_
              refine g_goto B W185 at_236 (pc' := 240) (by decide) ?_
              show Go p.tables e below _ T185 (mkF m 240 #[.val (.int p1), .val (.long p2), .second, .val (.long p3), .second, .val (.long p4), .second, .val (.int 2), .val (.ref b101), .val (.ref b159), .unset, .unset, .unset, .unset] [(.int 1)])
              exact own_gc (by rw [show pg 2 F8 = true from (pg_eq (n := 1) (by decide) (by rw [eF8_0]; exact hc176) (by rw [eF8_1]; exact hc177)).trans (show ((okB F8 1 && true)) = true by simp [hc179])]; rfl) (q173 _ W185)
            · skip
              refine g_if_y B W178 at_164 (XT.i0_eq_t (bi_f (Bool.eq_false_iff.mpr hc179))) (pc' := 239) (by decide) ?_
              show Go p.tables e below _ T178 (mkF m 239 #[.val (.int p1), .val (.long p2), .second, .val (.long p3), .second, .val (.long p4), .second, .val (.int 2), .val (.ref b101), .val (.ref b159), .unset, .unset, .unset, .unset] [])
              refine g_iconst B W178 at_239 (v := 0) (by decide) ?_
              exact own_gc (by rw [show pg 2 F8 = false from (pg_eq (n := 1) (by decide) (by rw [eF8_0]; exact hc176) (by rw [eF8_1]; exact hc177)).trans (show ((okB F8 1 && true)) = false by simp [hc179])]; rfl) (q173 _ W178)
          · skip
            refine g_icmp_y B W171 at_153 (XT.ii_ne_t hc177) (pc' := 239) (by decide) ?_
            show Go p.tables e below _ T171 (mkF m 239 #[.val (.int p1), .val (.long p2), .second, .val (.long p3), .second, .val (.long p4), .second, .val (.int 2), .val (.ref b101), .val (.ref b159), .unset, .unset, .unset, .unset] [])
            refine g_iconst B W171 at_239 (v := 0) (by decide) ?_
            exact own_gc (by rw [show pg 2 F8 = false from pg_fn (by rw [eF8_1]; exact hc177)]; rfl) (q173 _ W171)
        · skip
          refine g_icmp_y B W171 at_141 (XT.ii_ne_t hc176) (pc' := 239) (by decide) ?_
          show Go p.tables e below _ T171 (mkF m 239 #[.val (.int p1), .val (.long p2), .second, .val (.long p3), .second, .val (.long p4), .second, .val (.int 2), .val (.ref b101), .val (.ref b159), .unset, .unset, .unset, .unset] [])
          refine g_iconst B W171 at_239 (v := 0) (by decide) ?_
          exact own_gc (by rw [show pg 2 F8 = false from pg_f0 (by rw [eF8_0]; exact hc176)]; rfl) (q173 _ W171)
      intro T173 W173
      refine g_istore B W173 at_240  (l' := #[.val (.int p1), .val (.long p2), .second, .val (.long p3), .second, .val (.long p4), .second, .val (.int 2), .val (.ref b101), .val (.ref b159), .val (.int (bi (pg 2 F8))), .unset, .unset, .unset]) rfl ?_
      exact qj _ _ b159 2 (Wk.sub (Wk.more W173 (by decide) (by decide)) (by simp)) S171 (by omega)
    · skip
      show Go p.tables e below _ T125 (mkF m 83 #[.val (.int p1), .val (.long p2), .second, .val (.long p3), .second, .val (.long p4), .second, .val (.int 3), .val (.ref b101), .unset, .unset, .unset, .unset, .unset] [])
      obtain ⟨T186, h186, b186, gb186, W186, K186, E186, D186, st186⟩ := x_new B W125 at_83 (tw hw 7 rfl) (tw hw 8 rfl) (tw hw 9 rfl) (by decide) (by decide) #[.val (.int p1), .val (.long p2), .second, .val (.long p3), .second, .val (.long p4), .second, .val (.int 3), .val (.ref b101), .unset, .unset, .unset, .unset, .unset] []
      have l186 := nlt E186.lt
      have z186 := W125.size
      refine st186 _ ?_
      have s187 := K186.1
      have f188 : Fld Z h186 b186 "java/lang/String" "value" "[B" .null := D186 (Or.inr (tw hw 25 rfl)) (ty := (.array .byte)) (by decide)
      have f189 : Fld Z h186 b186 "java/lang/String" "coder" "B" (.int 0) := D186 (Or.inr (tw hw 26 rfl)) (ty := .byte) (by decide)
      refine g_dup B W186 at_86 rfl ?_
      refine g_aload B W186 at_87 rfl rfl ?_
      refine g_iload B W186 at_89 rfl ?_
      have zs190 := W186.size
      have f191 := (A125.keep K186 nin0)
      obtain ⟨T192, h192, v192, W192, Q192, st192⟩ := x_static B W186 [(.ref b101), (.int 3)] (c_pre3 l Z a0 hw b101 cA101 x103 x106 x109 x112 x115 x118 x121 x124 h186 f191 nx103 nx106 nx109 nx112 nx115 nx118 nx121 nx124) (by simp) at_91 (tw hw 10 rfl) (tw hw 11 rfl) (tw hw 3 rfl) (tw hw 12 rfl) (by decide) (lenOf pd___CI__C rfl) #[.val (.int p1), .val (.long p2), .second, .val (.long p3), .second, .val (.long p4), .second, .val (.int 3), .val (.ref b101), .unset, .unset, .unset, .unset, .unset] [(.ref b186), (.ref b186)] rfl 2 rfl (by decide) (by decide) (by decide) (by decide)
      obtain ⟨b192, kB192, rfl, g192, K192, A192⟩ := Q192
      have s193 := K192.1
      refine st192 _ ?_
      have l192 := nlt A192.lt
      have z192 := W192.size
      have A194 : Arv Z h192 b192 kB192 .char (Int32.ofNat 3) (arl 3 F8) (.int 0) := by rw [show arl 3 F8 = [.int x103, .int x106, .int x109] by rw [eF8]; rfl]; exact A192
      have f195 := (E186.keep K192)
      have f196 := (f188.keep K192 nin0)
      have f197 := (f189.keep K192 nin0)
      obtain ⟨T198, h198, v198, W198, Q198, st198⟩ := x_special B W192 (b := b186) [(.ref b192)] (c_sI1w l Z a0 hw b186 b192 kB192 3 F8 cz h192 Scs hcz Sad Shi Slo f195 f196 f197 (by omega) A194 (by intro j hj; obtain rfl | rfl | rfl : j = 0 ∨ j = 1 ∨ j = 2 := (by omega); (· exact (by rw [eF8_0]; exact (own_rn rx103))); (· exact (by rw [eF8_1]; exact (own_rn rx106))); (· exact (by rw [eF8_2]; exact (own_rn rx109)))) (by omega) (by omega)) (by simp) at_94 rfl (tw hw 13 rfl) (tw hw 14 rfl) (tw hw 9 rfl) (tw hw 15 rfl) (by decide) (lenOf pd___C_V rfl) #[.val (.int p1), .val (.long p2), .second, .val (.long p3), .second, .val (.long p4), .second, .val (.int 3), .val (.ref b101), .unset, .unset, .unset, .unset, .unset] [(.ref b186)] rfl 1 rfl (by decide) (by decide) (by decide) (by decide)
      obtain ⟨rfl, K198, S198⟩ := Q198
      have s199 := K198.1
      refine st198 _ ?_
      have E198 := S198.exa
      refine g_astore B W198 at_97 rfl (l' := #[.val (.int p1), .val (.long p2), .second, .val (.long p3), .second, .val (.long p4), .second, .val (.int 3), .val (.ref b101), .val (.ref b186), .unset, .unset, .unset, .unset]) rfl ?_
      refine g_iload B W198 at_99 rfl ?_
      refine g_if_y B W198 at_101 (XT.i0_ne_t (by decide)) (pc' := 110) (by decide) ?_
      show Go p.tables e below _ T198 (mkF m 110 #[.val (.int p1), .val (.long p2), .second, .val (.long p3), .second, .val (.long p4), .second, .val (.int 3), .val (.ref b101), .val (.ref b186), .unset, .unset, .unset, .unset] [])
      refine g_iload B W198 at_110 rfl ?_
      refine g_iconst B W198 at_112 (v := 1) (by decide) ?_
      refine g_icmp_y B W198 at_113 (XT.ii_ne_t (by decide)) (pc' := 135) (by decide) ?_
      show Go p.tables e below _ T198 (mkF m 135 #[.val (.int p1), .val (.long p2), .second, .val (.long p3), .second, .val (.long p4), .second, .val (.int 3), .val (.ref b101), .val (.ref b186), .unset, .unset, .unset, .unset] [])
      suffices q200 : ∀ T' : State, Wk p l e room_1 s m #[(.int p1), (.long p2), (.long p3), (.long p4)] below meth c Z T' h198 5 39 [b186, b101] → Go p.tables e below (Jvm.OwnK.Out Z s (Q_law Z p1 p2 p3 p4 cz sf h0) room_1.cells room_1.slots) T' (mkF m 240 #[.val (.int p1), .val (.long p2), .second, .val (.long p3), .second, .val (.long p4), .second, .val (.int 3), .val (.ref b101), .val (.ref b186), .unset, .unset, .unset, .unset] [(.int (bi (pg 3 F8)))]) by
        refine g_aload B W198 at_135 rfl rfl ?_
        refine g_iconst B W198 at_137 (v := 0) (by decide) ?_
        have f201 := (f191.keep K192 nin0)
        have f202 := (f201.keep K198 (ninS (nne (by have q := nlt f201.lt; omega)) nin0))
        refine g_caload B W198 at_138 f202 (by decide) (show List.getD ([(.int x103), (.int x106), (.int x109), (.int x112), (.int x115), (.int x118), (.int x121), (.int x124)] : List Value) _ _ = (.int x103) from rfl) ?_
        refine g_bipush B W198 at_139 (v := 47) (by decide) ?_
        by_cases hc203 : x103 = 47
        · skip
          refine g_icmp_n B W198 at_141 (XT.ii_ne_f hc203) ?_
          show Go p.tables e below _ T198 (mkF m 144 #[.val (.int p1), .val (.long p2), .second, .val (.long p3), .second, .val (.long p4), .second, .val (.int 3), .val (.ref b101), .val (.ref b186), .unset, .unset, .unset, .unset] [])
          refine g_aload B W198 at_144 rfl rfl ?_
          refine g_iload B W198 at_146 rfl ?_
          refine g_iconst B W198 at_148 (v := 1) (by decide) ?_
          refine g_isub B W198 at_149  ?_
          rw [show (3 - 1 : Int32) = 2 by decide]
          refine g_caload B W198 at_150 f202 (by decide) (show List.getD ([(.int x103), (.int x106), (.int x109), (.int x112), (.int x115), (.int x118), (.int x121), (.int x124)] : List Value) _ _ = (.int x109) from rfl) ?_
          refine g_bipush B W198 at_151 (v := 47) (by decide) ?_
          by_cases hc204 : x109 = 47
          · skip
            refine g_icmp_n B W198 at_153 (XT.ii_ne_f hc204) ?_
            show Go p.tables e below _ T198 (mkF m 156 #[.val (.int p1), .val (.long p2), .second, .val (.long p3), .second, .val (.long p4), .second, .val (.int 3), .val (.ref b101), .val (.ref b186), .unset, .unset, .unset, .unset] [])
            refine g_aload B W198 at_156 rfl rfl ?_
            refine g_iload B W198 at_158 rfl ?_
            refine g_iconst B W198 at_160 (v := 1) (by decide) ?_
            obtain ⟨T205, h205, v205, W205, Q205, st205⟩ := x_static B W198 [(.ref b101), (.int 3), (.int 1)] (c_good l Z a0 hw b101 cA101 F8 3 1 h198 (by rw [show arl 8 F8 = [(.int x103), (.int x106), (.int x109), (.int x112), (.int x115), (.int x118), (.int x121), (.int x124)] by rw [eF8]; rfl]; exact f202) (by decide) (by decide)) (by simp) at_161 (tw hw 110 rfl) (tw hw 111 rfl) (tw hw 3 rfl) (tw hw 112 rfl) (by decide) (lenOf pd___CII_Z rfl) #[.val (.int p1), .val (.long p2), .second, .val (.long p3), .second, .val (.long p4), .second, .val (.int 3), .val (.ref b101), .val (.ref b186), .unset, .unset, .unset, .unset] [] rfl 0 rfl (by decide) (by decide) (by decide) (by decide)
            obtain ⟨rfl, rfl⟩ := Q205
            refine st205 _ ?_
            show Go p.tables e below _ T205 (mkF m 164 #[.val (.int p1), .val (.long p2), .second, .val (.long p3), .second, .val (.long p4), .second, .val (.int 3), .val (.ref b101), .val (.ref b186), .unset, .unset, .unset, .unset] [(.int (bi (okB F8 1)))])
            by_cases hc206 : (okB F8 1) = true
            · skip
              refine g_if_n B W205 at_164 (XT.i0_eq_f (bi_t hc206)) ?_
              show Go p.tables e below _ T205 (mkF m 167 #[.val (.int p1), .val (.long p2), .second, .val (.long p3), .second, .val (.long p4), .second, .val (.int 3), .val (.ref b101), .val (.ref b186), .unset, .unset, .unset, .unset] [])
              refine g_aload B W205 at_167 rfl rfl ?_
              refine g_iload B W205 at_169 rfl ?_
              refine g_iconst B W205 at_171 (v := 2) (by decide) ?_
              obtain ⟨T207, h207, v207, W207, Q207, st207⟩ := x_static B W205 [(.ref b101), (.int 3), (.int 2)] (c_good l Z a0 hw b101 cA101 F8 3 2 h198 (by rw [show arl 8 F8 = [(.int x103), (.int x106), (.int x109), (.int x112), (.int x115), (.int x118), (.int x121), (.int x124)] by rw [eF8]; rfl]; exact f202) (by decide) (by decide)) (by simp) at_172 (tw hw 110 rfl) (tw hw 111 rfl) (tw hw 3 rfl) (tw hw 112 rfl) (by decide) (lenOf pd___CII_Z rfl) #[.val (.int p1), .val (.long p2), .second, .val (.long p3), .second, .val (.long p4), .second, .val (.int 3), .val (.ref b101), .val (.ref b186), .unset, .unset, .unset, .unset] [] rfl 0 rfl (by decide) (by decide) (by decide) (by decide)
              obtain ⟨rfl, rfl⟩ := Q207
              refine st207 _ ?_
              show Go p.tables e below _ T207 (mkF m 175 #[.val (.int p1), .val (.long p2), .second, .val (.long p3), .second, .val (.long p4), .second, .val (.int 3), .val (.ref b101), .val (.ref b186), .unset, .unset, .unset, .unset] [(.int (bi (okB F8 2)))])
              by_cases hc208 : (okB F8 2) = true
              · skip
                refine g_if_n B W207 at_175 (XT.i0_eq_f (bi_t hc208)) ?_
                show Go p.tables e below _ T207 (mkF m 178 #[.val (.int p1), .val (.long p2), .second, .val (.long p3), .second, .val (.long p4), .second, .val (.int 3), .val (.ref b101), .val (.ref b186), .unset, .unset, .unset, .unset] [])
                refine g_aload B W207 at_178 rfl rfl ?_
                refine g_iload B W207 at_180 rfl ?_
                refine g_iconst B W207 at_182 (v := 3) (by decide) ?_
                obtain ⟨T209, h209, v209, W209, Q209, st209⟩ := x_static B W207 [(.ref b101), (.int 3), (.int 3)] (c_good l Z a0 hw b101 cA101 F8 3 3 h198 (by rw [show arl 8 F8 = [(.int x103), (.int x106), (.int x109), (.int x112), (.int x115), (.int x118), (.int x121), (.int x124)] by rw [eF8]; rfl]; exact f202) (by decide) (by decide)) (by simp) at_183 (tw hw 110 rfl) (tw hw 111 rfl) (tw hw 3 rfl) (tw hw 112 rfl) (by decide) (lenOf pd___CII_Z rfl) #[.val (.int p1), .val (.long p2), .second, .val (.long p3), .second, .val (.long p4), .second, .val (.int 3), .val (.ref b101), .val (.ref b186), .unset, .unset, .unset, .unset] [] rfl 0 rfl (by decide) (by decide) (by decide) (by decide)
                obtain ⟨rfl, rfl⟩ := Q209
                refine st209 _ ?_
                show Go p.tables e below _ T209 (mkF m 186 #[.val (.int p1), .val (.long p2), .second, .val (.long p3), .second, .val (.long p4), .second, .val (.int 3), .val (.ref b101), .val (.ref b186), .unset, .unset, .unset, .unset] [(.int 1)])
                show Go p.tables e below _ T209 (mkF m 186 #[.val (.int p1), .val (.long p2), .second, .val (.long p3), .second, .val (.long p4), .second, .val (.int 3), .val (.ref b101), .val (.ref b186), .unset, .unset, .unset, .unset] [(.int 1)])
                refine g_if_n B W209 at_186 (XT.i0_eq_f (by decide)) ?_
                show Go p.tables e below _ T209 (mkF m 189 #[.val (.int p1), .val (.long p2), .second, .val (.long p3), .second, .val (.long p4), .second, .val (.int 3), .val (.ref b101), .val (.ref b186), .unset, .unset, .unset, .unset] [])
                refine g_aload B W209 at_189 rfl rfl ?_
                refine g_iload B W209 at_191 rfl ?_
                refine g_iconst B W209 at_193 (v := 4) (by decide) ?_
                obtain ⟨T210, h210, v210, W210, Q210, st210⟩ := x_static B W209 [(.ref b101), (.int 3), (.int 4)] (c_good l Z a0 hw b101 cA101 F8 3 4 h198 (by rw [show arl 8 F8 = [(.int x103), (.int x106), (.int x109), (.int x112), (.int x115), (.int x118), (.int x121), (.int x124)] by rw [eF8]; rfl]; exact f202) (by decide) (by decide)) (by simp) at_194 (tw hw 110 rfl) (tw hw 111 rfl) (tw hw 3 rfl) (tw hw 112 rfl) (by decide) (lenOf pd___CII_Z rfl) #[.val (.int p1), .val (.long p2), .second, .val (.long p3), .second, .val (.long p4), .second, .val (.int 3), .val (.ref b101), .val (.ref b186), .unset, .unset, .unset, .unset] [] rfl 0 rfl (by decide) (by decide) (by decide) (by decide)
                obtain ⟨rfl, rfl⟩ := Q210
                refine st210 _ ?_
                show Go p.tables e below _ T210 (mkF m 197 #[.val (.int p1), .val (.long p2), .second, .val (.long p3), .second, .val (.long p4), .second, .val (.int 3), .val (.ref b101), .val (.ref b186), .unset, .unset, .unset, .unset] [(.int 1)])
                show Go p.tables e below _ T210 (mkF m 197 #[.val (.int p1), .val (.long p2), .second, .val (.long p3), .second, .val (.long p4), .second, .val (.int 3), .val (.ref b101), .val (.ref b186), .unset, .unset, .unset, .unset] [(.int 1)])
                refine g_if_n B W210 at_197 (XT.i0_eq_f (by decide)) ?_
                show Go p.tables e below _ T210 (mkF m 200 #[.val (.int p1), .val (.long p2), .second, .val (.long p3), .second, .val (.long p4), .second, .val (.int 3), .val (.ref b101), .val (.ref b186), .unset, .unset, .unset, .unset] [])
                refine g_aload B W210 at_200 rfl rfl ?_
                refine g_iload B W210 at_202 rfl ?_
                refine g_iconst B W210 at_204 (v := 5) (by decide) ?_
                obtain ⟨T211, h211, v211, W211, Q211, st211⟩ := x_static B W210 [(.ref b101), (.int 3), (.int 5)] (c_good l Z a0 hw b101 cA101 F8 3 5 h198 (by rw [show arl 8 F8 = [(.int x103), (.int x106), (.int x109), (.int x112), (.int x115), (.int x118), (.int x121), (.int x124)] by rw [eF8]; rfl]; exact f202) (by decide) (by decide)) (by simp) at_205 (tw hw 110 rfl) (tw hw 111 rfl) (tw hw 3 rfl) (tw hw 112 rfl) (by decide) (lenOf pd___CII_Z rfl) #[.val (.int p1), .val (.long p2), .second, .val (.long p3), .second, .val (.long p4), .second, .val (.int 3), .val (.ref b101), .val (.ref b186), .unset, .unset, .unset, .unset] [] rfl 0 rfl (by decide) (by decide) (by decide) (by decide)
                obtain ⟨rfl, rfl⟩ := Q211
                refine st211 _ ?_
                show Go p.tables e below _ T211 (mkF m 208 #[.val (.int p1), .val (.long p2), .second, .val (.long p3), .second, .val (.long p4), .second, .val (.int 3), .val (.ref b101), .val (.ref b186), .unset, .unset, .unset, .unset] [(.int 1)])
                show Go p.tables e below _ T211 (mkF m 208 #[.val (.int p1), .val (.long p2), .second, .val (.long p3), .second, .val (.long p4), .second, .val (.int 3), .val (.ref b101), .val (.ref b186), .unset, .unset, .unset, .unset] [(.int 1)])
                refine g_if_n B W211 at_208 (XT.i0_eq_f (by decide)) ?_
                show Go p.tables e below _ T211 (mkF m 211 #[.val (.int p1), .val (.long p2), .second, .val (.long p3), .second, .val (.long p4), .second, .val (.int 3), .val (.ref b101), .val (.ref b186), .unset, .unset, .unset, .unset] [])
                refine g_aload B W211 at_211 rfl rfl ?_
                refine g_iload B W211 at_213 rfl ?_
                refine g_bipush B W211 at_215 (v := 6) (by decide) ?_
                obtain ⟨T212, h212, v212, W212, Q212, st212⟩ := x_static B W211 [(.ref b101), (.int 3), (.int 6)] (c_good l Z a0 hw b101 cA101 F8 3 6 h198 (by rw [show arl 8 F8 = [(.int x103), (.int x106), (.int x109), (.int x112), (.int x115), (.int x118), (.int x121), (.int x124)] by rw [eF8]; rfl]; exact f202) (by decide) (by decide)) (by simp) at_217 (tw hw 110 rfl) (tw hw 111 rfl) (tw hw 3 rfl) (tw hw 112 rfl) (by decide) (lenOf pd___CII_Z rfl) #[.val (.int p1), .val (.long p2), .second, .val (.long p3), .second, .val (.long p4), .second, .val (.int 3), .val (.ref b101), .val (.ref b186), .unset, .unset, .unset, .unset] [] rfl 0 rfl (by decide) (by decide) (by decide) (by decide)
                obtain ⟨rfl, rfl⟩ := Q212
                refine st212 _ ?_
                show Go p.tables e below _ T212 (mkF m 220 #[.val (.int p1), .val (.long p2), .second, .val (.long p3), .second, .val (.long p4), .second, .val (.int 3), .val (.ref b101), .val (.ref b186), .unset, .unset, .unset, .unset] [(.int 1)])
                show Go p.tables e below _ T212 (mkF m 220 #[.val (.int p1), .val (.long p2), .second, .val (.long p3), .second, .val (.long p4), .second, .val (.int 3), .val (.ref b101), .val (.ref b186), .unset, .unset, .unset, .unset] [(.int 1)])
                refine g_if_n B W212 at_220 (XT.i0_eq_f (by decide)) ?_
                show Go p.tables e below _ T212 (mkF m 223 #[.val (.int p1), .val (.long p2), .second, .val (.long p3), .second, .val (.long p4), .second, .val (.int 3), .val (.ref b101), .val (.ref b186), .unset, .unset, .unset, .unset] [])
                refine g_aload B W212 at_223 rfl rfl ?_
                refine g_iload B W212 at_225 rfl ?_
                refine g_bipush B W212 at_227 (v := 7) (by decide) ?_
                obtain ⟨T213, h213, v213, W213, Q213, st213⟩ := x_static B W212 [(.ref b101), (.int 3), (.int 7)] (c_good l Z a0 hw b101 cA101 F8 3 7 h198 (by rw [show arl 8 F8 = [(.int x103), (.int x106), (.int x109), (.int x112), (.int x115), (.int x118), (.int x121), (.int x124)] by rw [eF8]; rfl]; exact f202) (by decide) (by decide)) (by simp) at_229 (tw hw 110 rfl) (tw hw 111 rfl) (tw hw 3 rfl) (tw hw 112 rfl) (by decide) (lenOf pd___CII_Z rfl) #[.val (.int p1), .val (.long p2), .second, .val (.long p3), .second, .val (.long p4), .second, .val (.int 3), .val (.ref b101), .val (.ref b186), .unset, .unset, .unset, .unset] [] rfl 0 rfl (by decide) (by decide) (by decide) (by decide)
                obtain ⟨rfl, rfl⟩ := Q213
                refine st213 _ ?_
                show Go p.tables e below _ T213 (mkF m 232 #[.val (.int p1), .val (.long p2), .second, .val (.long p3), .second, .val (.long p4), .second, .val (.int 3), .val (.ref b101), .val (.ref b186), .unset, .unset, .unset, .unset] [(.int 1)])
                show Go p.tables e below _ T213 (mkF m 232 #[.val (.int p1), .val (.long p2), .second, .val (.long p3), .second, .val (.long p4), .second, .val (.int 3), .val (.ref b101), .val (.ref b186), .unset, .unset, .unset, .unset] [(.int 1)])
                refine g_if_n B W213 at_232 (XT.i0_eq_f (by decide)) ?_
                show Go p.tables e below _ T213 (mkF m 235 #[.val (.int p1), .val (.long p2), .second, .val (.long p3), .second, .val (.long p4), .second, .val (.int 3), .val (.ref b101), .val (.ref b186), .unset, .unset, .unset, .unset] [])
                refine g_iconst B W213 at_235 (v := 1) (by decide) ?_
                refine g_goto B W213 at_236 (pc' := 240) (by decide) ?_
                show Go p.tables e below _ T213 (mkF m 240 #[.val (.int p1), .val (.long p2), .second, .val (.long p3), .second, .val (.long p4), .second, .val (.int 3), .val (.ref b101), .val (.ref b186), .unset, .unset, .unset, .unset] [(.int 1)])
                exact own_gc (by rw [show pg 3 F8 = true from (pg_eq (n := 2) (by decide) (by rw [eF8_0]; exact hc203) (by rw [eF8_2]; exact hc204)).trans (show ((okB F8 1 && (okB F8 2 && true))) = true by simp [hc206, hc208])]; rfl) (q200 _ W213)
              · skip
                refine g_if_y B W207 at_175 (XT.i0_eq_t (bi_f (Bool.eq_false_iff.mpr hc208))) (pc' := 239) (by decide) ?_
                show Go p.tables e below _ T207 (mkF m 239 #[.val (.int p1), .val (.long p2), .second, .val (.long p3), .second, .val (.long p4), .second, .val (.int 3), .val (.ref b101), .val (.ref b186), .unset, .unset, .unset, .unset] [])
                refine g_iconst B W207 at_239 (v := 0) (by decide) ?_
                exact own_gc (by rw [show pg 3 F8 = false from (pg_eq (n := 2) (by decide) (by rw [eF8_0]; exact hc203) (by rw [eF8_2]; exact hc204)).trans (show ((okB F8 1 && (okB F8 2 && true))) = false by simp [hc206, hc208])]; rfl) (q200 _ W207)
            · skip
              refine g_if_y B W205 at_164 (XT.i0_eq_t (bi_f (Bool.eq_false_iff.mpr hc206))) (pc' := 239) (by decide) ?_
              show Go p.tables e below _ T205 (mkF m 239 #[.val (.int p1), .val (.long p2), .second, .val (.long p3), .second, .val (.long p4), .second, .val (.int 3), .val (.ref b101), .val (.ref b186), .unset, .unset, .unset, .unset] [])
              refine g_iconst B W205 at_239 (v := 0) (by decide) ?_
              exact own_gc (by rw [show pg 3 F8 = false from (pg_eq (n := 2) (by decide) (by rw [eF8_0]; exact hc203) (by rw [eF8_2]; exact hc204)).trans (show ((okB F8 1 && (okB F8 2 && true))) = false by simp [hc206])]; rfl) (q200 _ W205)
          · skip
            refine g_icmp_y B W198 at_153 (XT.ii_ne_t hc204) (pc' := 239) (by decide) ?_
            show Go p.tables e below _ T198 (mkF m 239 #[.val (.int p1), .val (.long p2), .second, .val (.long p3), .second, .val (.long p4), .second, .val (.int 3), .val (.ref b101), .val (.ref b186), .unset, .unset, .unset, .unset] [])
            refine g_iconst B W198 at_239 (v := 0) (by decide) ?_
            exact own_gc (by rw [show pg 3 F8 = false from pg_fn (by rw [eF8_2]; exact hc204)]; rfl) (q200 _ W198)
        · skip
          refine g_icmp_y B W198 at_141 (XT.ii_ne_t hc203) (pc' := 239) (by decide) ?_
          show Go p.tables e below _ T198 (mkF m 239 #[.val (.int p1), .val (.long p2), .second, .val (.long p3), .second, .val (.long p4), .second, .val (.int 3), .val (.ref b101), .val (.ref b186), .unset, .unset, .unset, .unset] [])
          refine g_iconst B W198 at_239 (v := 0) (by decide) ?_
          exact own_gc (by rw [show pg 3 F8 = false from pg_f0 (by rw [eF8_0]; exact hc203)]; rfl) (q200 _ W198)
      intro T200 W200
      refine g_istore B W200 at_240  (l' := #[.val (.int p1), .val (.long p2), .second, .val (.long p3), .second, .val (.long p4), .second, .val (.int 3), .val (.ref b101), .val (.ref b186), .val (.int (bi (pg 3 F8))), .unset, .unset, .unset]) rfl ?_
      exact qj _ _ b186 3 (Wk.sub (Wk.more W200 (by decide) (by decide)) (by simp)) S198 (by omega)
    · skip
      show Go p.tables e below _ T125 (mkF m 83 #[.val (.int p1), .val (.long p2), .second, .val (.long p3), .second, .val (.long p4), .second, .val (.int 4), .val (.ref b101), .unset, .unset, .unset, .unset, .unset] [])
      obtain ⟨T214, h214, b214, gb214, W214, K214, E214, D214, st214⟩ := x_new B W125 at_83 (tw hw 7 rfl) (tw hw 8 rfl) (tw hw 9 rfl) (by decide) (by decide) #[.val (.int p1), .val (.long p2), .second, .val (.long p3), .second, .val (.long p4), .second, .val (.int 4), .val (.ref b101), .unset, .unset, .unset, .unset, .unset] []
      have l214 := nlt E214.lt
      have z214 := W125.size
      refine st214 _ ?_
      have s215 := K214.1
      have f216 : Fld Z h214 b214 "java/lang/String" "value" "[B" .null := D214 (Or.inr (tw hw 25 rfl)) (ty := (.array .byte)) (by decide)
      have f217 : Fld Z h214 b214 "java/lang/String" "coder" "B" (.int 0) := D214 (Or.inr (tw hw 26 rfl)) (ty := .byte) (by decide)
      refine g_dup B W214 at_86 rfl ?_
      refine g_aload B W214 at_87 rfl rfl ?_
      refine g_iload B W214 at_89 rfl ?_
      have zs218 := W214.size
      have f219 := (A125.keep K214 nin0)
      obtain ⟨T220, h220, v220, W220, Q220, st220⟩ := x_static B W214 [(.ref b101), (.int 4)] (c_pre4 l Z a0 hw b101 cA101 x103 x106 x109 x112 x115 x118 x121 x124 h214 f219 nx103 nx106 nx109 nx112 nx115 nx118 nx121 nx124) (by simp) at_91 (tw hw 10 rfl) (tw hw 11 rfl) (tw hw 3 rfl) (tw hw 12 rfl) (by decide) (lenOf pd___CI__C rfl) #[.val (.int p1), .val (.long p2), .second, .val (.long p3), .second, .val (.long p4), .second, .val (.int 4), .val (.ref b101), .unset, .unset, .unset, .unset, .unset] [(.ref b214), (.ref b214)] rfl 2 rfl (by decide) (by decide) (by decide) (by decide)
      obtain ⟨b220, kB220, rfl, g220, K220, A220⟩ := Q220
      have s221 := K220.1
      refine st220 _ ?_
      have l220 := nlt A220.lt
      have z220 := W220.size
      have A222 : Arv Z h220 b220 kB220 .char (Int32.ofNat 4) (arl 4 F8) (.int 0) := by rw [show arl 4 F8 = [.int x103, .int x106, .int x109, .int x112] by rw [eF8]; rfl]; exact A220
      have f223 := (E214.keep K220)
      have f224 := (f216.keep K220 nin0)
      have f225 := (f217.keep K220 nin0)
      obtain ⟨T226, h226, v226, W226, Q226, st226⟩ := x_special B W220 (b := b214) [(.ref b220)] (c_sI1w l Z a0 hw b214 b220 kB220 4 F8 cz h220 Scs hcz Sad Shi Slo f223 f224 f225 (by omega) A222 (by intro j hj; obtain rfl | rfl | rfl | rfl : j = 0 ∨ j = 1 ∨ j = 2 ∨ j = 3 := (by omega); (· exact (by rw [eF8_0]; exact (own_rn rx103))); (· exact (by rw [eF8_1]; exact (own_rn rx106))); (· exact (by rw [eF8_2]; exact (own_rn rx109))); (· exact (by rw [eF8_3]; exact (own_rn rx112)))) (by omega) (by omega)) (by simp) at_94 rfl (tw hw 13 rfl) (tw hw 14 rfl) (tw hw 9 rfl) (tw hw 15 rfl) (by decide) (lenOf pd___C_V rfl) #[.val (.int p1), .val (.long p2), .second, .val (.long p3), .second, .val (.long p4), .second, .val (.int 4), .val (.ref b101), .unset, .unset, .unset, .unset, .unset] [(.ref b214)] rfl 1 rfl (by decide) (by decide) (by decide) (by decide)
      obtain ⟨rfl, K226, S226⟩ := Q226
      have s227 := K226.1
      refine st226 _ ?_
      have E226 := S226.exa
      refine g_astore B W226 at_97 rfl (l' := #[.val (.int p1), .val (.long p2), .second, .val (.long p3), .second, .val (.long p4), .second, .val (.int 4), .val (.ref b101), .val (.ref b214), .unset, .unset, .unset, .unset]) rfl ?_
      refine g_iload B W226 at_99 rfl ?_
      refine g_if_y B W226 at_101 (XT.i0_ne_t (by decide)) (pc' := 110) (by decide) ?_
      show Go p.tables e below _ T226 (mkF m 110 #[.val (.int p1), .val (.long p2), .second, .val (.long p3), .second, .val (.long p4), .second, .val (.int 4), .val (.ref b101), .val (.ref b214), .unset, .unset, .unset, .unset] [])
      refine g_iload B W226 at_110 rfl ?_
      refine g_iconst B W226 at_112 (v := 1) (by decide) ?_
      refine g_icmp_y B W226 at_113 (XT.ii_ne_t (by decide)) (pc' := 135) (by decide) ?_
      show Go p.tables e below _ T226 (mkF m 135 #[.val (.int p1), .val (.long p2), .second, .val (.long p3), .second, .val (.long p4), .second, .val (.int 4), .val (.ref b101), .val (.ref b214), .unset, .unset, .unset, .unset] [])
      suffices q228 : ∀ T' : State, Wk p l e room_1 s m #[(.int p1), (.long p2), (.long p3), (.long p4)] below meth c Z T' h226 5 40 [b214, b101] → Go p.tables e below (Jvm.OwnK.Out Z s (Q_law Z p1 p2 p3 p4 cz sf h0) room_1.cells room_1.slots) T' (mkF m 240 #[.val (.int p1), .val (.long p2), .second, .val (.long p3), .second, .val (.long p4), .second, .val (.int 4), .val (.ref b101), .val (.ref b214), .unset, .unset, .unset, .unset] [(.int (bi (pg 4 F8)))]) by
        refine g_aload B W226 at_135 rfl rfl ?_
        refine g_iconst B W226 at_137 (v := 0) (by decide) ?_
        have f229 := (f219.keep K220 nin0)
        have f230 := (f229.keep K226 (ninS (nne (by have q := nlt f229.lt; omega)) nin0))
        refine g_caload B W226 at_138 f230 (by decide) (show List.getD ([(.int x103), (.int x106), (.int x109), (.int x112), (.int x115), (.int x118), (.int x121), (.int x124)] : List Value) _ _ = (.int x103) from rfl) ?_
        refine g_bipush B W226 at_139 (v := 47) (by decide) ?_
        by_cases hc231 : x103 = 47
        · skip
          refine g_icmp_n B W226 at_141 (XT.ii_ne_f hc231) ?_
          show Go p.tables e below _ T226 (mkF m 144 #[.val (.int p1), .val (.long p2), .second, .val (.long p3), .second, .val (.long p4), .second, .val (.int 4), .val (.ref b101), .val (.ref b214), .unset, .unset, .unset, .unset] [])
          refine g_aload B W226 at_144 rfl rfl ?_
          refine g_iload B W226 at_146 rfl ?_
          refine g_iconst B W226 at_148 (v := 1) (by decide) ?_
          refine g_isub B W226 at_149  ?_
          rw [show (4 - 1 : Int32) = 3 by decide]
          refine g_caload B W226 at_150 f230 (by decide) (show List.getD ([(.int x103), (.int x106), (.int x109), (.int x112), (.int x115), (.int x118), (.int x121), (.int x124)] : List Value) _ _ = (.int x112) from rfl) ?_
          refine g_bipush B W226 at_151 (v := 47) (by decide) ?_
          by_cases hc232 : x112 = 47
          · skip
            refine g_icmp_n B W226 at_153 (XT.ii_ne_f hc232) ?_
            show Go p.tables e below _ T226 (mkF m 156 #[.val (.int p1), .val (.long p2), .second, .val (.long p3), .second, .val (.long p4), .second, .val (.int 4), .val (.ref b101), .val (.ref b214), .unset, .unset, .unset, .unset] [])
            refine g_aload B W226 at_156 rfl rfl ?_
            refine g_iload B W226 at_158 rfl ?_
            refine g_iconst B W226 at_160 (v := 1) (by decide) ?_
            obtain ⟨T233, h233, v233, W233, Q233, st233⟩ := x_static B W226 [(.ref b101), (.int 4), (.int 1)] (c_good l Z a0 hw b101 cA101 F8 4 1 h226 (by rw [show arl 8 F8 = [(.int x103), (.int x106), (.int x109), (.int x112), (.int x115), (.int x118), (.int x121), (.int x124)] by rw [eF8]; rfl]; exact f230) (by decide) (by decide)) (by simp) at_161 (tw hw 110 rfl) (tw hw 111 rfl) (tw hw 3 rfl) (tw hw 112 rfl) (by decide) (lenOf pd___CII_Z rfl) #[.val (.int p1), .val (.long p2), .second, .val (.long p3), .second, .val (.long p4), .second, .val (.int 4), .val (.ref b101), .val (.ref b214), .unset, .unset, .unset, .unset] [] rfl 0 rfl (by decide) (by decide) (by decide) (by decide)
            obtain ⟨rfl, rfl⟩ := Q233
            refine st233 _ ?_
            show Go p.tables e below _ T233 (mkF m 164 #[.val (.int p1), .val (.long p2), .second, .val (.long p3), .second, .val (.long p4), .second, .val (.int 4), .val (.ref b101), .val (.ref b214), .unset, .unset, .unset, .unset] [(.int (bi (okB F8 1)))])
            by_cases hc234 : (okB F8 1) = true
            · skip
              refine g_if_n B W233 at_164 (XT.i0_eq_f (bi_t hc234)) ?_
              show Go p.tables e below _ T233 (mkF m 167 #[.val (.int p1), .val (.long p2), .second, .val (.long p3), .second, .val (.long p4), .second, .val (.int 4), .val (.ref b101), .val (.ref b214), .unset, .unset, .unset, .unset] [])
              refine g_aload B W233 at_167 rfl rfl ?_
              refine g_iload B W233 at_169 rfl ?_
              refine g_iconst B W233 at_171 (v := 2) (by decide) ?_
              obtain ⟨T235, h235, v235, W235, Q235, st235⟩ := x_static B W233 [(.ref b101), (.int 4), (.int 2)] (c_good l Z a0 hw b101 cA101 F8 4 2 h226 (by rw [show arl 8 F8 = [(.int x103), (.int x106), (.int x109), (.int x112), (.int x115), (.int x118), (.int x121), (.int x124)] by rw [eF8]; rfl]; exact f230) (by decide) (by decide)) (by simp) at_172 (tw hw 110 rfl) (tw hw 111 rfl) (tw hw 3 rfl) (tw hw 112 rfl) (by decide) (lenOf pd___CII_Z rfl) #[.val (.int p1), .val (.long p2), .second, .val (.long p3), .second, .val (.long p4), .second, .val (.int 4), .val (.ref b101), .val (.ref b214), .unset, .unset, .unset, .unset] [] rfl 0 rfl (by decide) (by decide) (by decide) (by decide)
              obtain ⟨rfl, rfl⟩ := Q235
              refine st235 _ ?_
              show Go p.tables e below _ T235 (mkF m 175 #[.val (.int p1), .val (.long p2), .second, .val (.long p3), .second, .val (.long p4), .second, .val (.int 4), .val (.ref b101), .val (.ref b214), .unset, .unset, .unset, .unset] [(.int (bi (okB F8 2)))])
              by_cases hc236 : (okB F8 2) = true
              · skip
                refine g_if_n B W235 at_175 (XT.i0_eq_f (bi_t hc236)) ?_
                show Go p.tables e below _ T235 (mkF m 178 #[.val (.int p1), .val (.long p2), .second, .val (.long p3), .second, .val (.long p4), .second, .val (.int 4), .val (.ref b101), .val (.ref b214), .unset, .unset, .unset, .unset] [])
                refine g_aload B W235 at_178 rfl rfl ?_
                refine g_iload B W235 at_180 rfl ?_
                refine g_iconst B W235 at_182 (v := 3) (by decide) ?_
                obtain ⟨T237, h237, v237, W237, Q237, st237⟩ := x_static B W235 [(.ref b101), (.int 4), (.int 3)] (c_good l Z a0 hw b101 cA101 F8 4 3 h226 (by rw [show arl 8 F8 = [(.int x103), (.int x106), (.int x109), (.int x112), (.int x115), (.int x118), (.int x121), (.int x124)] by rw [eF8]; rfl]; exact f230) (by decide) (by decide)) (by simp) at_183 (tw hw 110 rfl) (tw hw 111 rfl) (tw hw 3 rfl) (tw hw 112 rfl) (by decide) (lenOf pd___CII_Z rfl) #[.val (.int p1), .val (.long p2), .second, .val (.long p3), .second, .val (.long p4), .second, .val (.int 4), .val (.ref b101), .val (.ref b214), .unset, .unset, .unset, .unset] [] rfl 0 rfl (by decide) (by decide) (by decide) (by decide)
                obtain ⟨rfl, rfl⟩ := Q237
                refine st237 _ ?_
                show Go p.tables e below _ T237 (mkF m 186 #[.val (.int p1), .val (.long p2), .second, .val (.long p3), .second, .val (.long p4), .second, .val (.int 4), .val (.ref b101), .val (.ref b214), .unset, .unset, .unset, .unset] [(.int (bi (okB F8 3)))])
                by_cases hc238 : (okB F8 3) = true
                · skip
                  refine g_if_n B W237 at_186 (XT.i0_eq_f (bi_t hc238)) ?_
                  show Go p.tables e below _ T237 (mkF m 189 #[.val (.int p1), .val (.long p2), .second, .val (.long p3), .second, .val (.long p4), .second, .val (.int 4), .val (.ref b101), .val (.ref b214), .unset, .unset, .unset, .unset] [])
                  refine g_aload B W237 at_189 rfl rfl ?_
                  refine g_iload B W237 at_191 rfl ?_
                  refine g_iconst B W237 at_193 (v := 4) (by decide) ?_
                  obtain ⟨T239, h239, v239, W239, Q239, st239⟩ := x_static B W237 [(.ref b101), (.int 4), (.int 4)] (c_good l Z a0 hw b101 cA101 F8 4 4 h226 (by rw [show arl 8 F8 = [(.int x103), (.int x106), (.int x109), (.int x112), (.int x115), (.int x118), (.int x121), (.int x124)] by rw [eF8]; rfl]; exact f230) (by decide) (by decide)) (by simp) at_194 (tw hw 110 rfl) (tw hw 111 rfl) (tw hw 3 rfl) (tw hw 112 rfl) (by decide) (lenOf pd___CII_Z rfl) #[.val (.int p1), .val (.long p2), .second, .val (.long p3), .second, .val (.long p4), .second, .val (.int 4), .val (.ref b101), .val (.ref b214), .unset, .unset, .unset, .unset] [] rfl 0 rfl (by decide) (by decide) (by decide) (by decide)
                  obtain ⟨rfl, rfl⟩ := Q239
                  refine st239 _ ?_
                  show Go p.tables e below _ T239 (mkF m 197 #[.val (.int p1), .val (.long p2), .second, .val (.long p3), .second, .val (.long p4), .second, .val (.int 4), .val (.ref b101), .val (.ref b214), .unset, .unset, .unset, .unset] [(.int 1)])
                  show Go p.tables e below _ T239 (mkF m 197 #[.val (.int p1), .val (.long p2), .second, .val (.long p3), .second, .val (.long p4), .second, .val (.int 4), .val (.ref b101), .val (.ref b214), .unset, .unset, .unset, .unset] [(.int 1)])
                  refine g_if_n B W239 at_197 (XT.i0_eq_f (by decide)) ?_
                  show Go p.tables e below _ T239 (mkF m 200 #[.val (.int p1), .val (.long p2), .second, .val (.long p3), .second, .val (.long p4), .second, .val (.int 4), .val (.ref b101), .val (.ref b214), .unset, .unset, .unset, .unset] [])
                  refine g_aload B W239 at_200 rfl rfl ?_
                  refine g_iload B W239 at_202 rfl ?_
                  refine g_iconst B W239 at_204 (v := 5) (by decide) ?_
                  obtain ⟨T240, h240, v240, W240, Q240, st240⟩ := x_static B W239 [(.ref b101), (.int 4), (.int 5)] (c_good l Z a0 hw b101 cA101 F8 4 5 h226 (by rw [show arl 8 F8 = [(.int x103), (.int x106), (.int x109), (.int x112), (.int x115), (.int x118), (.int x121), (.int x124)] by rw [eF8]; rfl]; exact f230) (by decide) (by decide)) (by simp) at_205 (tw hw 110 rfl) (tw hw 111 rfl) (tw hw 3 rfl) (tw hw 112 rfl) (by decide) (lenOf pd___CII_Z rfl) #[.val (.int p1), .val (.long p2), .second, .val (.long p3), .second, .val (.long p4), .second, .val (.int 4), .val (.ref b101), .val (.ref b214), .unset, .unset, .unset, .unset] [] rfl 0 rfl (by decide) (by decide) (by decide) (by decide)
                  obtain ⟨rfl, rfl⟩ := Q240
                  refine st240 _ ?_
                  show Go p.tables e below _ T240 (mkF m 208 #[.val (.int p1), .val (.long p2), .second, .val (.long p3), .second, .val (.long p4), .second, .val (.int 4), .val (.ref b101), .val (.ref b214), .unset, .unset, .unset, .unset] [(.int 1)])
                  show Go p.tables e below _ T240 (mkF m 208 #[.val (.int p1), .val (.long p2), .second, .val (.long p3), .second, .val (.long p4), .second, .val (.int 4), .val (.ref b101), .val (.ref b214), .unset, .unset, .unset, .unset] [(.int 1)])
                  refine g_if_n B W240 at_208 (XT.i0_eq_f (by decide)) ?_
                  show Go p.tables e below _ T240 (mkF m 211 #[.val (.int p1), .val (.long p2), .second, .val (.long p3), .second, .val (.long p4), .second, .val (.int 4), .val (.ref b101), .val (.ref b214), .unset, .unset, .unset, .unset] [])
                  refine g_aload B W240 at_211 rfl rfl ?_
                  refine g_iload B W240 at_213 rfl ?_
                  refine g_bipush B W240 at_215 (v := 6) (by decide) ?_
                  obtain ⟨T241, h241, v241, W241, Q241, st241⟩ := x_static B W240 [(.ref b101), (.int 4), (.int 6)] (c_good l Z a0 hw b101 cA101 F8 4 6 h226 (by rw [show arl 8 F8 = [(.int x103), (.int x106), (.int x109), (.int x112), (.int x115), (.int x118), (.int x121), (.int x124)] by rw [eF8]; rfl]; exact f230) (by decide) (by decide)) (by simp) at_217 (tw hw 110 rfl) (tw hw 111 rfl) (tw hw 3 rfl) (tw hw 112 rfl) (by decide) (lenOf pd___CII_Z rfl) #[.val (.int p1), .val (.long p2), .second, .val (.long p3), .second, .val (.long p4), .second, .val (.int 4), .val (.ref b101), .val (.ref b214), .unset, .unset, .unset, .unset] [] rfl 0 rfl (by decide) (by decide) (by decide) (by decide)
                  obtain ⟨rfl, rfl⟩ := Q241
                  refine st241 _ ?_
                  show Go p.tables e below _ T241 (mkF m 220 #[.val (.int p1), .val (.long p2), .second, .val (.long p3), .second, .val (.long p4), .second, .val (.int 4), .val (.ref b101), .val (.ref b214), .unset, .unset, .unset, .unset] [(.int 1)])
                  show Go p.tables e below _ T241 (mkF m 220 #[.val (.int p1), .val (.long p2), .second, .val (.long p3), .second, .val (.long p4), .second, .val (.int 4), .val (.ref b101), .val (.ref b214), .unset, .unset, .unset, .unset] [(.int 1)])
                  refine g_if_n B W241 at_220 (XT.i0_eq_f (by decide)) ?_
                  show Go p.tables e below _ T241 (mkF m 223 #[.val (.int p1), .val (.long p2), .second, .val (.long p3), .second, .val (.long p4), .second, .val (.int 4), .val (.ref b101), .val (.ref b214), .unset, .unset, .unset, .unset] [])
                  refine g_aload B W241 at_223 rfl rfl ?_
                  refine g_iload B W241 at_225 rfl ?_
                  refine g_bipush B W241 at_227 (v := 7) (by decide) ?_
                  obtain ⟨T242, h242, v242, W242, Q242, st242⟩ := x_static B W241 [(.ref b101), (.int 4), (.int 7)] (c_good l Z a0 hw b101 cA101 F8 4 7 h226 (by rw [show arl 8 F8 = [(.int x103), (.int x106), (.int x109), (.int x112), (.int x115), (.int x118), (.int x121), (.int x124)] by rw [eF8]; rfl]; exact f230) (by decide) (by decide)) (by simp) at_229 (tw hw 110 rfl) (tw hw 111 rfl) (tw hw 3 rfl) (tw hw 112 rfl) (by decide) (lenOf pd___CII_Z rfl) #[.val (.int p1), .val (.long p2), .second, .val (.long p3), .second, .val (.long p4), .second, .val (.int 4), .val (.ref b101), .val (.ref b214), .unset, .unset, .unset, .unset] [] rfl 0 rfl (by decide) (by decide) (by decide) (by decide)
                  obtain ⟨rfl, rfl⟩ := Q242
                  refine st242 _ ?_
                  show Go p.tables e below _ T242 (mkF m 232 #[.val (.int p1), .val (.long p2), .second, .val (.long p3), .second, .val (.long p4), .second, .val (.int 4), .val (.ref b101), .val (.ref b214), .unset, .unset, .unset, .unset] [(.int 1)])
                  show Go p.tables e below _ T242 (mkF m 232 #[.val (.int p1), .val (.long p2), .second, .val (.long p3), .second, .val (.long p4), .second, .val (.int 4), .val (.ref b101), .val (.ref b214), .unset, .unset, .unset, .unset] [(.int 1)])
                  refine g_if_n B W242 at_232 (XT.i0_eq_f (by decide)) ?_
                  show Go p.tables e below _ T242 (mkF m 235 #[.val (.int p1), .val (.long p2), .second, .val (.long p3), .second, .val (.long p4), .second, .val (.int 4), .val (.ref b101), .val (.ref b214), .unset, .unset, .unset, .unset] [])
                  refine g_iconst B W242 at_235 (v := 1) (by decide) ?_
                  refine g_goto B W242 at_236 (pc' := 240) (by decide) ?_
                  show Go p.tables e below _ T242 (mkF m 240 #[.val (.int p1), .val (.long p2), .second, .val (.long p3), .second, .val (.long p4), .second, .val (.int 4), .val (.ref b101), .val (.ref b214), .unset, .unset, .unset, .unset] [(.int 1)])
                  exact own_gc (by rw [show pg 4 F8 = true from (pg_eq (n := 3) (by decide) (by rw [eF8_0]; exact hc231) (by rw [eF8_3]; exact hc232)).trans (show ((okB F8 1 && (okB F8 2 && (okB F8 3 && true)))) = true by simp [hc234, hc236, hc238])]; rfl) (q228 _ W242)
                · skip
                  refine g_if_y B W237 at_186 (XT.i0_eq_t (bi_f (Bool.eq_false_iff.mpr hc238))) (pc' := 239) (by decide) ?_
                  show Go p.tables e below _ T237 (mkF m 239 #[.val (.int p1), .val (.long p2), .second, .val (.long p3), .second, .val (.long p4), .second, .val (.int 4), .val (.ref b101), .val (.ref b214), .unset, .unset, .unset, .unset] [])
                  refine g_iconst B W237 at_239 (v := 0) (by decide) ?_
                  exact own_gc (by rw [show pg 4 F8 = false from (pg_eq (n := 3) (by decide) (by rw [eF8_0]; exact hc231) (by rw [eF8_3]; exact hc232)).trans (show ((okB F8 1 && (okB F8 2 && (okB F8 3 && true)))) = false by simp [hc234, hc236, hc238])]; rfl) (q228 _ W237)
              · skip
                refine g_if_y B W235 at_175 (XT.i0_eq_t (bi_f (Bool.eq_false_iff.mpr hc236))) (pc' := 239) (by decide) ?_
                show Go p.tables e below _ T235 (mkF m 239 #[.val (.int p1), .val (.long p2), .second, .val (.long p3), .second, .val (.long p4), .second, .val (.int 4), .val (.ref b101), .val (.ref b214), .unset, .unset, .unset, .unset] [])
                refine g_iconst B W235 at_239 (v := 0) (by decide) ?_
                exact own_gc (by rw [show pg 4 F8 = false from (pg_eq (n := 3) (by decide) (by rw [eF8_0]; exact hc231) (by rw [eF8_3]; exact hc232)).trans (show ((okB F8 1 && (okB F8 2 && (okB F8 3 && true)))) = false by simp [hc234, hc236])]; rfl) (q228 _ W235)
            · skip
              refine g_if_y B W233 at_164 (XT.i0_eq_t (bi_f (Bool.eq_false_iff.mpr hc234))) (pc' := 239) (by decide) ?_
              show Go p.tables e below _ T233 (mkF m 239 #[.val (.int p1), .val (.long p2), .second, .val (.long p3), .second, .val (.long p4), .second, .val (.int 4), .val (.ref b101), .val (.ref b214), .unset, .unset, .unset, .unset] [])
              refine g_iconst B W233 at_239 (v := 0) (by decide) ?_
              exact own_gc (by rw [show pg 4 F8 = false from (pg_eq (n := 3) (by decide) (by rw [eF8_0]; exact hc231) (by rw [eF8_3]; exact hc232)).trans (show ((okB F8 1 && (okB F8 2 && (okB F8 3 && true)))) = false by simp [hc234])]; rfl) (q228 _ W233)
          · skip
            refine g_icmp_y B W226 at_153 (XT.ii_ne_t hc232) (pc' := 239) (by decide) ?_
            show Go p.tables e below _ T226 (mkF m 239 #[.val (.int p1), .val (.long p2), .second, .val (.long p3), .second, .val (.long p4), .second, .val (.int 4), .val (.ref b101), .val (.ref b214), .unset, .unset, .unset, .unset] [])
            refine g_iconst B W226 at_239 (v := 0) (by decide) ?_
            exact own_gc (by rw [show pg 4 F8 = false from pg_fn (by rw [eF8_3]; exact hc232)]; rfl) (q228 _ W226)
        · skip
          refine g_icmp_y B W226 at_141 (XT.ii_ne_t hc231) (pc' := 239) (by decide) ?_
          show Go p.tables e below _ T226 (mkF m 239 #[.val (.int p1), .val (.long p2), .second, .val (.long p3), .second, .val (.long p4), .second, .val (.int 4), .val (.ref b101), .val (.ref b214), .unset, .unset, .unset, .unset] [])
          refine g_iconst B W226 at_239 (v := 0) (by decide) ?_
          exact own_gc (by rw [show pg 4 F8 = false from pg_f0 (by rw [eF8_0]; exact hc231)]; rfl) (q228 _ W226)
      intro T228 W228
      refine g_istore B W228 at_240  (l' := #[.val (.int p1), .val (.long p2), .second, .val (.long p3), .second, .val (.long p4), .second, .val (.int 4), .val (.ref b101), .val (.ref b214), .val (.int (bi (pg 4 F8))), .unset, .unset, .unset]) rfl ?_
      exact qj _ _ b214 4 (Wk.sub (Wk.more W228 (by decide) (by decide)) (by simp)) S226 (by omega)
    · skip
      show Go p.tables e below _ T125 (mkF m 83 #[.val (.int p1), .val (.long p2), .second, .val (.long p3), .second, .val (.long p4), .second, .val (.int 5), .val (.ref b101), .unset, .unset, .unset, .unset, .unset] [])
      obtain ⟨T243, h243, b243, gb243, W243, K243, E243, D243, st243⟩ := x_new B W125 at_83 (tw hw 7 rfl) (tw hw 8 rfl) (tw hw 9 rfl) (by decide) (by decide) #[.val (.int p1), .val (.long p2), .second, .val (.long p3), .second, .val (.long p4), .second, .val (.int 5), .val (.ref b101), .unset, .unset, .unset, .unset, .unset] []
      have l243 := nlt E243.lt
      have z243 := W125.size
      refine st243 _ ?_
      have s244 := K243.1
      have f245 : Fld Z h243 b243 "java/lang/String" "value" "[B" .null := D243 (Or.inr (tw hw 25 rfl)) (ty := (.array .byte)) (by decide)
      have f246 : Fld Z h243 b243 "java/lang/String" "coder" "B" (.int 0) := D243 (Or.inr (tw hw 26 rfl)) (ty := .byte) (by decide)
      refine g_dup B W243 at_86 rfl ?_
      refine g_aload B W243 at_87 rfl rfl ?_
      refine g_iload B W243 at_89 rfl ?_
      have zs247 := W243.size
      have f248 := (A125.keep K243 nin0)
      obtain ⟨T249, h249, v249, W249, Q249, st249⟩ := x_static B W243 [(.ref b101), (.int 5)] (c_pre5 l Z a0 hw b101 cA101 x103 x106 x109 x112 x115 x118 x121 x124 h243 f248 nx103 nx106 nx109 nx112 nx115 nx118 nx121 nx124) (by simp) at_91 (tw hw 10 rfl) (tw hw 11 rfl) (tw hw 3 rfl) (tw hw 12 rfl) (by decide) (lenOf pd___CI__C rfl) #[.val (.int p1), .val (.long p2), .second, .val (.long p3), .second, .val (.long p4), .second, .val (.int 5), .val (.ref b101), .unset, .unset, .unset, .unset, .unset] [(.ref b243), (.ref b243)] rfl 2 rfl (by decide) (by decide) (by decide) (by decide)
      obtain ⟨b249, kB249, rfl, g249, K249, A249⟩ := Q249
      have s250 := K249.1
      refine st249 _ ?_
      have l249 := nlt A249.lt
      have z249 := W249.size
      have A251 : Arv Z h249 b249 kB249 .char (Int32.ofNat 5) (arl 5 F8) (.int 0) := by rw [show arl 5 F8 = [.int x103, .int x106, .int x109, .int x112, .int x115] by rw [eF8]; rfl]; exact A249
      have f252 := (E243.keep K249)
      have f253 := (f245.keep K249 nin0)
      have f254 := (f246.keep K249 nin0)
      obtain ⟨T255, h255, v255, W255, Q255, st255⟩ := x_special B W249 (b := b243) [(.ref b249)] (c_sI1w l Z a0 hw b243 b249 kB249 5 F8 cz h249 Scs hcz Sad Shi Slo f252 f253 f254 (by omega) A251 (by intro j hj; obtain rfl | rfl | rfl | rfl | rfl : j = 0 ∨ j = 1 ∨ j = 2 ∨ j = 3 ∨ j = 4 := (by omega); (· exact (by rw [eF8_0]; exact (own_rn rx103))); (· exact (by rw [eF8_1]; exact (own_rn rx106))); (· exact (by rw [eF8_2]; exact (own_rn rx109))); (· exact (by rw [eF8_3]; exact (own_rn rx112))); (· exact (by rw [eF8_4]; exact (own_rn rx115)))) (by omega) (by omega)) (by simp) at_94 rfl (tw hw 13 rfl) (tw hw 14 rfl) (tw hw 9 rfl) (tw hw 15 rfl) (by decide) (lenOf pd___C_V rfl) #[.val (.int p1), .val (.long p2), .second, .val (.long p3), .second, .val (.long p4), .second, .val (.int 5), .val (.ref b101), .unset, .unset, .unset, .unset, .unset] [(.ref b243)] rfl 1 rfl (by decide) (by decide) (by decide) (by decide)
      obtain ⟨rfl, K255, S255⟩ := Q255
      have s256 := K255.1
      refine st255 _ ?_
      have E255 := S255.exa
      refine g_astore B W255 at_97 rfl (l' := #[.val (.int p1), .val (.long p2), .second, .val (.long p3), .second, .val (.long p4), .second, .val (.int 5), .val (.ref b101), .val (.ref b243), .unset, .unset, .unset, .unset]) rfl ?_
      refine g_iload B W255 at_99 rfl ?_
      refine g_if_y B W255 at_101 (XT.i0_ne_t (by decide)) (pc' := 110) (by decide) ?_
      show Go p.tables e below _ T255 (mkF m 110 #[.val (.int p1), .val (.long p2), .second, .val (.long p3), .second, .val (.long p4), .second, .val (.int 5), .val (.ref b101), .val (.ref b243), .unset, .unset, .unset, .unset] [])
      refine g_iload B W255 at_110 rfl ?_
      refine g_iconst B W255 at_112 (v := 1) (by decide) ?_
      refine g_icmp_y B W255 at_113 (XT.ii_ne_t (by decide)) (pc' := 135) (by decide) ?_
      show Go p.tables e below _ T255 (mkF m 135 #[.val (.int p1), .val (.long p2), .second, .val (.long p3), .second, .val (.long p4), .second, .val (.int 5), .val (.ref b101), .val (.ref b243), .unset, .unset, .unset, .unset] [])
      suffices q257 : ∀ T' : State, Wk p l e room_1 s m #[(.int p1), (.long p2), (.long p3), (.long p4)] below meth c Z T' h255 5 41 [b243, b101] → Go p.tables e below (Jvm.OwnK.Out Z s (Q_law Z p1 p2 p3 p4 cz sf h0) room_1.cells room_1.slots) T' (mkF m 240 #[.val (.int p1), .val (.long p2), .second, .val (.long p3), .second, .val (.long p4), .second, .val (.int 5), .val (.ref b101), .val (.ref b243), .unset, .unset, .unset, .unset] [(.int (bi (pg 5 F8)))]) by
        refine g_aload B W255 at_135 rfl rfl ?_
        refine g_iconst B W255 at_137 (v := 0) (by decide) ?_
        have f258 := (f248.keep K249 nin0)
        have f259 := (f258.keep K255 (ninS (nne (by have q := nlt f258.lt; omega)) nin0))
        refine g_caload B W255 at_138 f259 (by decide) (show List.getD ([(.int x103), (.int x106), (.int x109), (.int x112), (.int x115), (.int x118), (.int x121), (.int x124)] : List Value) _ _ = (.int x103) from rfl) ?_
        refine g_bipush B W255 at_139 (v := 47) (by decide) ?_
        by_cases hc260 : x103 = 47
        · skip
          refine g_icmp_n B W255 at_141 (XT.ii_ne_f hc260) ?_
          show Go p.tables e below _ T255 (mkF m 144 #[.val (.int p1), .val (.long p2), .second, .val (.long p3), .second, .val (.long p4), .second, .val (.int 5), .val (.ref b101), .val (.ref b243), .unset, .unset, .unset, .unset] [])
          refine g_aload B W255 at_144 rfl rfl ?_
          refine g_iload B W255 at_146 rfl ?_
          refine g_iconst B W255 at_148 (v := 1) (by decide) ?_
          refine g_isub B W255 at_149  ?_
          rw [show (5 - 1 : Int32) = 4 by decide]
          refine g_caload B W255 at_150 f259 (by decide) (show List.getD ([(.int x103), (.int x106), (.int x109), (.int x112), (.int x115), (.int x118), (.int x121), (.int x124)] : List Value) _ _ = (.int x115) from rfl) ?_
          refine g_bipush B W255 at_151 (v := 47) (by decide) ?_
          by_cases hc261 : x115 = 47
          · skip
            refine g_icmp_n B W255 at_153 (XT.ii_ne_f hc261) ?_
            show Go p.tables e below _ T255 (mkF m 156 #[.val (.int p1), .val (.long p2), .second, .val (.long p3), .second, .val (.long p4), .second, .val (.int 5), .val (.ref b101), .val (.ref b243), .unset, .unset, .unset, .unset] [])
            refine g_aload B W255 at_156 rfl rfl ?_
            refine g_iload B W255 at_158 rfl ?_
            refine g_iconst B W255 at_160 (v := 1) (by decide) ?_
            obtain ⟨T262, h262, v262, W262, Q262, st262⟩ := x_static B W255 [(.ref b101), (.int 5), (.int 1)] (c_good l Z a0 hw b101 cA101 F8 5 1 h255 (by rw [show arl 8 F8 = [(.int x103), (.int x106), (.int x109), (.int x112), (.int x115), (.int x118), (.int x121), (.int x124)] by rw [eF8]; rfl]; exact f259) (by decide) (by decide)) (by simp) at_161 (tw hw 110 rfl) (tw hw 111 rfl) (tw hw 3 rfl) (tw hw 112 rfl) (by decide) (lenOf pd___CII_Z rfl) #[.val (.int p1), .val (.long p2), .second, .val (.long p3), .second, .val (.long p4), .second, .val (.int 5), .val (.ref b101), .val (.ref b243), .unset, .unset, .unset, .unset] [] rfl 0 rfl (by decide) (by decide) (by decide) (by decide)
            obtain ⟨rfl, rfl⟩ := Q262
            refine st262 _ ?_
            show Go p.tables e below _ T262 (mkF m 164 #[.val (.int p1), .val (.long p2), .second, .val (.long p3), .second, .val (.long p4), .second, .val (.int 5), .val (.ref b101), .val (.ref b243), .unset, .unset, .unset, .unset] [(.int (bi (okB F8 1)))])
            by_cases hc263 : (okB F8 1) = true
            · skip
              refine g_if_n B W262 at_164 (XT.i0_eq_f (bi_t hc263)) ?_
              show Go p.tables e below _ T262 (mkF m 167 #[.val (.int p1), .val (.long p2), .second, .val (.long p3), .second, .val (.long p4), .second, .val (.int 5), .val (.ref b101), .val (.ref b243), .unset, .unset, .unset, .unset] [])
              refine g_aload B W262 at_167 rfl rfl ?_
              refine g_iload B W262 at_169 rfl ?_
              refine g_iconst B W262 at_171 (v := 2) (by decide) ?_
              obtain ⟨T264, h264, v264, W264, Q264, st264⟩ := x_static B W262 [(.ref b101), (.int 5), (.int 2)] (c_good l Z a0 hw b101 cA101 F8 5 2 h255 (by rw [show arl 8 F8 = [(.int x103), (.int x106), (.int x109), (.int x112), (.int x115), (.int x118), (.int x121), (.int x124)] by rw [eF8]; rfl]; exact f259) (by decide) (by decide)) (by simp) at_172 (tw hw 110 rfl) (tw hw 111 rfl) (tw hw 3 rfl) (tw hw 112 rfl) (by decide) (lenOf pd___CII_Z rfl) #[.val (.int p1), .val (.long p2), .second, .val (.long p3), .second, .val (.long p4), .second, .val (.int 5), .val (.ref b101), .val (.ref b243), .unset, .unset, .unset, .unset] [] rfl 0 rfl (by decide) (by decide) (by decide) (by decide)
              obtain ⟨rfl, rfl⟩ := Q264
              refine st264 _ ?_
              show Go p.tables e below _ T264 (mkF m 175 #[.val (.int p1), .val (.long p2), .second, .val (.long p3), .second, .val (.long p4), .second, .val (.int 5), .val (.ref b101), .val (.ref b243), .unset, .unset, .unset, .unset] [(.int (bi (okB F8 2)))])
              by_cases hc265 : (okB F8 2) = true
              · skip
                refine g_if_n B W264 at_175 (XT.i0_eq_f (bi_t hc265)) ?_
                show Go p.tables e below _ T264 (mkF m 178 #[.val (.int p1), .val (.long p2), .second, .val (.long p3), .second, .val (.long p4), .second, .val (.int 5), .val (.ref b101), .val (.ref b243), .unset, .unset, .unset, .unset] [])
                refine g_aload B W264 at_178 rfl rfl ?_
                refine g_iload B W264 at_180 rfl ?_
                refine g_iconst B W264 at_182 (v := 3) (by decide) ?_
                obtain ⟨T266, h266, v266, W266, Q266, st266⟩ := x_static B W264 [(.ref b101), (.int 5), (.int 3)] (c_good l Z a0 hw b101 cA101 F8 5 3 h255 (by rw [show arl 8 F8 = [(.int x103), (.int x106), (.int x109), (.int x112), (.int x115), (.int x118), (.int x121), (.int x124)] by rw [eF8]; rfl]; exact f259) (by decide) (by decide)) (by simp) at_183 (tw hw 110 rfl) (tw hw 111 rfl) (tw hw 3 rfl) (tw hw 112 rfl) (by decide) (lenOf pd___CII_Z rfl) #[.val (.int p1), .val (.long p2), .second, .val (.long p3), .second, .val (.long p4), .second, .val (.int 5), .val (.ref b101), .val (.ref b243), .unset, .unset, .unset, .unset] [] rfl 0 rfl (by decide) (by decide) (by decide) (by decide)
                obtain ⟨rfl, rfl⟩ := Q266
                refine st266 _ ?_
                show Go p.tables e below _ T266 (mkF m 186 #[.val (.int p1), .val (.long p2), .second, .val (.long p3), .second, .val (.long p4), .second, .val (.int 5), .val (.ref b101), .val (.ref b243), .unset, .unset, .unset, .unset] [(.int (bi (okB F8 3)))])
                by_cases hc267 : (okB F8 3) = true
                · skip
                  refine g_if_n B W266 at_186 (XT.i0_eq_f (bi_t hc267)) ?_
                  show Go p.tables e below _ T266 (mkF m 189 #[.val (.int p1), .val (.long p2), .second, .val (.long p3), .second, .val (.long p4), .second, .val (.int 5), .val (.ref b101), .val (.ref b243), .unset, .unset, .unset, .unset] [])
                  refine g_aload B W266 at_189 rfl rfl ?_
                  refine g_iload B W266 at_191 rfl ?_
                  refine g_iconst B W266 at_193 (v := 4) (by decide) ?_
                  obtain ⟨T268, h268, v268, W268, Q268, st268⟩ := x_static B W266 [(.ref b101), (.int 5), (.int 4)] (c_good l Z a0 hw b101 cA101 F8 5 4 h255 (by rw [show arl 8 F8 = [(.int x103), (.int x106), (.int x109), (.int x112), (.int x115), (.int x118), (.int x121), (.int x124)] by rw [eF8]; rfl]; exact f259) (by decide) (by decide)) (by simp) at_194 (tw hw 110 rfl) (tw hw 111 rfl) (tw hw 3 rfl) (tw hw 112 rfl) (by decide) (lenOf pd___CII_Z rfl) #[.val (.int p1), .val (.long p2), .second, .val (.long p3), .second, .val (.long p4), .second, .val (.int 5), .val (.ref b101), .val (.ref b243), .unset, .unset, .unset, .unset] [] rfl 0 rfl (by decide) (by decide) (by decide) (by decide)
                  obtain ⟨rfl, rfl⟩ := Q268
                  refine st268 _ ?_
                  show Go p.tables e below _ T268 (mkF m 197 #[.val (.int p1), .val (.long p2), .second, .val (.long p3), .second, .val (.long p4), .second, .val (.int 5), .val (.ref b101), .val (.ref b243), .unset, .unset, .unset, .unset] [(.int (bi (okB F8 4)))])
                  by_cases hc269 : (okB F8 4) = true
                  · skip
                    refine g_if_n B W268 at_197 (XT.i0_eq_f (bi_t hc269)) ?_
                    show Go p.tables e below _ T268 (mkF m 200 #[.val (.int p1), .val (.long p2), .second, .val (.long p3), .second, .val (.long p4), .second, .val (.int 5), .val (.ref b101), .val (.ref b243), .unset, .unset, .unset, .unset] [])
                    refine g_aload B W268 at_200 rfl rfl ?_
                    refine g_iload B W268 at_202 rfl ?_
                    refine g_iconst B W268 at_204 (v := 5) (by decide) ?_
                    obtain ⟨T270, h270, v270, W270, Q270, st270⟩ := x_static B W268 [(.ref b101), (.int 5), (.int 5)] (c_good l Z a0 hw b101 cA101 F8 5 5 h255 (by rw [show arl 8 F8 = [(.int x103), (.int x106), (.int x109), (.int x112), (.int x115), (.int x118), (.int x121), (.int x124)] by rw [eF8]; rfl]; exact f259) (by decide) (by decide)) (by simp) at_205 (tw hw 110 rfl) (tw hw 111 rfl) (tw hw 3 rfl) (tw hw 112 rfl) (by decide) (lenOf pd___CII_Z rfl) #[.val (.int p1), .val (.long p2), .second, .val (.long p3), .second, .val (.long p4), .second, .val (.int 5), .val (.ref b101), .val (.ref b243), .unset, .unset, .unset, .unset] [] rfl 0 rfl (by decide) (by decide) (by decide) (by decide)
                    obtain ⟨rfl, rfl⟩ := Q270
                    refine st270 _ ?_
                    show Go p.tables e below _ T270 (mkF m 208 #[.val (.int p1), .val (.long p2), .second, .val (.long p3), .second, .val (.long p4), .second, .val (.int 5), .val (.ref b101), .val (.ref b243), .unset, .unset, .unset, .unset] [(.int 1)])
                    show Go p.tables e below _ T270 (mkF m 208 #[.val (.int p1), .val (.long p2), .second, .val (.long p3), .second, .val (.long p4), .second, .val (.int 5), .val (.ref b101), .val (.ref b243), .unset, .unset, .unset, .unset] [(.int 1)])
                    refine g_if_n B W270 at_208 (XT.i0_eq_f (by decide)) ?_
                    show Go p.tables e below _ T270 (mkF m 211 #[.val (.int p1), .val (.long p2), .second, .val (.long p3), .second, .val (.long p4), .second, .val (.int 5), .val (.ref b101), .val (.ref b243), .unset, .unset, .unset, .unset] [])
                    refine g_aload B W270 at_211 rfl rfl ?_
                    refine g_iload B W270 at_213 rfl ?_
                    refine g_bipush B W270 at_215 (v := 6) (by decide) ?_
                    obtain ⟨T271, h271, v271, W271, Q271, st271⟩ := x_static B W270 [(.ref b101), (.int 5), (.int 6)] (c_good l Z a0 hw b101 cA101 F8 5 6 h255 (by rw [show arl 8 F8 = [(.int x103), (.int x106), (.int x109), (.int x112), (.int x115), (.int x118), (.int x121), (.int x124)] by rw [eF8]; rfl]; exact f259) (by decide) (by decide)) (by simp) at_217 (tw hw 110 rfl) (tw hw 111 rfl) (tw hw 3 rfl) (tw hw 112 rfl) (by decide) (lenOf pd___CII_Z rfl) #[.val (.int p1), .val (.long p2), .second, .val (.long p3), .second, .val (.long p4), .second, .val (.int 5), .val (.ref b101), .val (.ref b243), .unset, .unset, .unset, .unset] [] rfl 0 rfl (by decide) (by decide) (by decide) (by decide)
                    obtain ⟨rfl, rfl⟩ := Q271
                    refine st271 _ ?_
                    show Go p.tables e below _ T271 (mkF m 220 #[.val (.int p1), .val (.long p2), .second, .val (.long p3), .second, .val (.long p4), .second, .val (.int 5), .val (.ref b101), .val (.ref b243), .unset, .unset, .unset, .unset] [(.int 1)])
                    show Go p.tables e below _ T271 (mkF m 220 #[.val (.int p1), .val (.long p2), .second, .val (.long p3), .second, .val (.long p4), .second, .val (.int 5), .val (.ref b101), .val (.ref b243), .unset, .unset, .unset, .unset] [(.int 1)])
                    refine g_if_n B W271 at_220 (XT.i0_eq_f (by decide)) ?_
                    show Go p.tables e below _ T271 (mkF m 223 #[.val (.int p1), .val (.long p2), .second, .val (.long p3), .second, .val (.long p4), .second, .val (.int 5), .val (.ref b101), .val (.ref b243), .unset, .unset, .unset, .unset] [])
                    refine g_aload B W271 at_223 rfl rfl ?_
                    refine g_iload B W271 at_225 rfl ?_
                    refine g_bipush B W271 at_227 (v := 7) (by decide) ?_
                    obtain ⟨T272, h272, v272, W272, Q272, st272⟩ := x_static B W271 [(.ref b101), (.int 5), (.int 7)] (c_good l Z a0 hw b101 cA101 F8 5 7 h255 (by rw [show arl 8 F8 = [(.int x103), (.int x106), (.int x109), (.int x112), (.int x115), (.int x118), (.int x121), (.int x124)] by rw [eF8]; rfl]; exact f259) (by decide) (by decide)) (by simp) at_229 (tw hw 110 rfl) (tw hw 111 rfl) (tw hw 3 rfl) (tw hw 112 rfl) (by decide) (lenOf pd___CII_Z rfl) #[.val (.int p1), .val (.long p2), .second, .val (.long p3), .second, .val (.long p4), .second, .val (.int 5), .val (.ref b101), .val (.ref b243), .unset, .unset, .unset, .unset] [] rfl 0 rfl (by decide) (by decide) (by decide) (by decide)
                    obtain ⟨rfl, rfl⟩ := Q272
                    refine st272 _ ?_
                    show Go p.tables e below _ T272 (mkF m 232 #[.val (.int p1), .val (.long p2), .second, .val (.long p3), .second, .val (.long p4), .second, .val (.int 5), .val (.ref b101), .val (.ref b243), .unset, .unset, .unset, .unset] [(.int 1)])
                    show Go p.tables e below _ T272 (mkF m 232 #[.val (.int p1), .val (.long p2), .second, .val (.long p3), .second, .val (.long p4), .second, .val (.int 5), .val (.ref b101), .val (.ref b243), .unset, .unset, .unset, .unset] [(.int 1)])
                    refine g_if_n B W272 at_232 (XT.i0_eq_f (by decide)) ?_
                    show Go p.tables e below _ T272 (mkF m 235 #[.val (.int p1), .val (.long p2), .second, .val (.long p3), .second, .val (.long p4), .second, .val (.int 5), .val (.ref b101), .val (.ref b243), .unset, .unset, .unset, .unset] [])
                    refine g_iconst B W272 at_235 (v := 1) (by decide) ?_
                    refine g_goto B W272 at_236 (pc' := 240) (by decide) ?_
                    show Go p.tables e below _ T272 (mkF m 240 #[.val (.int p1), .val (.long p2), .second, .val (.long p3), .second, .val (.long p4), .second, .val (.int 5), .val (.ref b101), .val (.ref b243), .unset, .unset, .unset, .unset] [(.int 1)])
                    exact own_gc (by rw [show pg 5 F8 = true from (pg_eq (n := 4) (by decide) (by rw [eF8_0]; exact hc260) (by rw [eF8_4]; exact hc261)).trans (show ((okB F8 1 && (okB F8 2 && (okB F8 3 && (okB F8 4 && true))))) = true by simp [hc263, hc265, hc267, hc269])]; rfl) (q257 _ W272)
                  · skip
                    refine g_if_y B W268 at_197 (XT.i0_eq_t (bi_f (Bool.eq_false_iff.mpr hc269))) (pc' := 239) (by decide) ?_
                    show Go p.tables e below _ T268 (mkF m 239 #[.val (.int p1), .val (.long p2), .second, .val (.long p3), .second, .val (.long p4), .second, .val (.int 5), .val (.ref b101), .val (.ref b243), .unset, .unset, .unset, .unset] [])
                    refine g_iconst B W268 at_239 (v := 0) (by decide) ?_
                    exact own_gc (by rw [show pg 5 F8 = false from (pg_eq (n := 4) (by decide) (by rw [eF8_0]; exact hc260) (by rw [eF8_4]; exact hc261)).trans (show ((okB F8 1 && (okB F8 2 && (okB F8 3 && (okB F8 4 && true))))) = false by simp [hc263, hc265, hc267, hc269])]; rfl) (q257 _ W268)
                · skip
                  refine g_if_y B W266 at_186 (XT.i0_eq_t (bi_f (Bool.eq_false_iff.mpr hc267))) (pc' := 239) (by decide) ?_
                  show Go p.tables e below _ T266 (mkF m 239 #[.val (.int p1), .val (.long p2), .second, .val (.long p3), .second, .val (.long p4), .second, .val (.int 5), .val (.ref b101), .val (.ref b243), .unset, .unset, .unset, .unset] [])
                  refine g_iconst B W266 at_239 (v := 0) (by decide) ?_
                  exact own_gc (by rw [show pg 5 F8 = false from (pg_eq (n := 4) (by decide) (by rw [eF8_0]; exact hc260) (by rw [eF8_4]; exact hc261)).trans (show ((okB F8 1 && (okB F8 2 && (okB F8 3 && (okB F8 4 && true))))) = false by simp [hc263, hc265, hc267])]; rfl) (q257 _ W266)
              · skip
                refine g_if_y B W264 at_175 (XT.i0_eq_t (bi_f (Bool.eq_false_iff.mpr hc265))) (pc' := 239) (by decide) ?_
                show Go p.tables e below _ T264 (mkF m 239 #[.val (.int p1), .val (.long p2), .second, .val (.long p3), .second, .val (.long p4), .second, .val (.int 5), .val (.ref b101), .val (.ref b243), .unset, .unset, .unset, .unset] [])
                refine g_iconst B W264 at_239 (v := 0) (by decide) ?_
                exact own_gc (by rw [show pg 5 F8 = false from (pg_eq (n := 4) (by decide) (by rw [eF8_0]; exact hc260) (by rw [eF8_4]; exact hc261)).trans (show ((okB F8 1 && (okB F8 2 && (okB F8 3 && (okB F8 4 && true))))) = false by simp [hc263, hc265])]; rfl) (q257 _ W264)
            · skip
              refine g_if_y B W262 at_164 (XT.i0_eq_t (bi_f (Bool.eq_false_iff.mpr hc263))) (pc' := 239) (by decide) ?_
              show Go p.tables e below _ T262 (mkF m 239 #[.val (.int p1), .val (.long p2), .second, .val (.long p3), .second, .val (.long p4), .second, .val (.int 5), .val (.ref b101), .val (.ref b243), .unset, .unset, .unset, .unset] [])
              refine g_iconst B W262 at_239 (v := 0) (by decide) ?_
              exact own_gc (by rw [show pg 5 F8 = false from (pg_eq (n := 4) (by decide) (by rw [eF8_0]; exact hc260) (by rw [eF8_4]; exact hc261)).trans (show ((okB F8 1 && (okB F8 2 && (okB F8 3 && (okB F8 4 && true))))) = false by simp [hc263])]; rfl) (q257 _ W262)
          · skip
            refine g_icmp_y B W255 at_153 (XT.ii_ne_t hc261) (pc' := 239) (by decide) ?_
            show Go p.tables e below _ T255 (mkF m 239 #[.val (.int p1), .val (.long p2), .second, .val (.long p3), .second, .val (.long p4), .second, .val (.int 5), .val (.ref b101), .val (.ref b243), .unset, .unset, .unset, .unset] [])
            refine g_iconst B W255 at_239 (v := 0) (by decide) ?_
            exact own_gc (by rw [show pg 5 F8 = false from pg_fn (by rw [eF8_4]; exact hc261)]; rfl) (q257 _ W255)
        · skip
          refine g_icmp_y B W255 at_141 (XT.ii_ne_t hc260) (pc' := 239) (by decide) ?_
          show Go p.tables e below _ T255 (mkF m 239 #[.val (.int p1), .val (.long p2), .second, .val (.long p3), .second, .val (.long p4), .second, .val (.int 5), .val (.ref b101), .val (.ref b243), .unset, .unset, .unset, .unset] [])
          refine g_iconst B W255 at_239 (v := 0) (by decide) ?_
          exact own_gc (by rw [show pg 5 F8 = false from pg_f0 (by rw [eF8_0]; exact hc260)]; rfl) (q257 _ W255)
      intro T257 W257
      refine g_istore B W257 at_240  (l' := #[.val (.int p1), .val (.long p2), .second, .val (.long p3), .second, .val (.long p4), .second, .val (.int 5), .val (.ref b101), .val (.ref b243), .val (.int (bi (pg 5 F8))), .unset, .unset, .unset]) rfl ?_
      exact qj _ _ b243 5 (Wk.sub (Wk.more W257 (by decide) (by decide)) (by simp)) S255 (by omega)
    · skip
      show Go p.tables e below _ T125 (mkF m 83 #[.val (.int p1), .val (.long p2), .second, .val (.long p3), .second, .val (.long p4), .second, .val (.int 6), .val (.ref b101), .unset, .unset, .unset, .unset, .unset] [])
      obtain ⟨T273, h273, b273, gb273, W273, K273, E273, D273, st273⟩ := x_new B W125 at_83 (tw hw 7 rfl) (tw hw 8 rfl) (tw hw 9 rfl) (by decide) (by decide) #[.val (.int p1), .val (.long p2), .second, .val (.long p3), .second, .val (.long p4), .second, .val (.int 6), .val (.ref b101), .unset, .unset, .unset, .unset, .unset] []
      have l273 := nlt E273.lt
      have z273 := W125.size
      refine st273 _ ?_
      have s274 := K273.1
      have f275 : Fld Z h273 b273 "java/lang/String" "value" "[B" .null := D273 (Or.inr (tw hw 25 rfl)) (ty := (.array .byte)) (by decide)
      have f276 : Fld Z h273 b273 "java/lang/String" "coder" "B" (.int 0) := D273 (Or.inr (tw hw 26 rfl)) (ty := .byte) (by decide)
      refine g_dup B W273 at_86 rfl ?_
      refine g_aload B W273 at_87 rfl rfl ?_
      refine g_iload B W273 at_89 rfl ?_
      have zs277 := W273.size
      have f278 := (A125.keep K273 nin0)
      obtain ⟨T279, h279, v279, W279, Q279, st279⟩ := x_static B W273 [(.ref b101), (.int 6)] (c_pre6 l Z a0 hw b101 cA101 x103 x106 x109 x112 x115 x118 x121 x124 h273 f278 nx103 nx106 nx109 nx112 nx115 nx118 nx121 nx124) (by simp) at_91 (tw hw 10 rfl) (tw hw 11 rfl) (tw hw 3 rfl) (tw hw 12 rfl) (by decide) (lenOf pd___CI__C rfl) #[.val (.int p1), .val (.long p2), .second, .val (.long p3), .second, .val (.long p4), .second, .val (.int 6), .val (.ref b101), .unset, .unset, .unset, .unset, .unset] [(.ref b273), (.ref b273)] rfl 2 rfl (by decide) (by decide) (by decide) (by decide)
      obtain ⟨b279, kB279, rfl, g279, K279, A279⟩ := Q279
      have s280 := K279.1
      refine st279 _ ?_
      have l279 := nlt A279.lt
      have z279 := W279.size
      have A281 : Arv Z h279 b279 kB279 .char (Int32.ofNat 6) (arl 6 F8) (.int 0) := by rw [show arl 6 F8 = [.int x103, .int x106, .int x109, .int x112, .int x115, .int x118] by rw [eF8]; rfl]; exact A279
      have f282 := (E273.keep K279)
      have f283 := (f275.keep K279 nin0)
      have f284 := (f276.keep K279 nin0)
      obtain ⟨T285, h285, v285, W285, Q285, st285⟩ := x_special B W279 (b := b273) [(.ref b279)] (c_sI1w l Z a0 hw b273 b279 kB279 6 F8 cz h279 Scs hcz Sad Shi Slo f282 f283 f284 (by omega) A281 (by intro j hj; obtain rfl | rfl | rfl | rfl | rfl | rfl : j = 0 ∨ j = 1 ∨ j = 2 ∨ j = 3 ∨ j = 4 ∨ j = 5 := (by omega); (· exact (by rw [eF8_0]; exact (own_rn rx103))); (· exact (by rw [eF8_1]; exact (own_rn rx106))); (· exact (by rw [eF8_2]; exact (own_rn rx109))); (· exact (by rw [eF8_3]; exact (own_rn rx112))); (· exact (by rw [eF8_4]; exact (own_rn rx115))); (· exact (by rw [eF8_5]; exact (own_rn rx118)))) (by omega) (by omega)) (by simp) at_94 rfl (tw hw 13 rfl) (tw hw 14 rfl) (tw hw 9 rfl) (tw hw 15 rfl) (by decide) (lenOf pd___C_V rfl) #[.val (.int p1), .val (.long p2), .second, .val (.long p3), .second, .val (.long p4), .second, .val (.int 6), .val (.ref b101), .unset, .unset, .unset, .unset, .unset] [(.ref b273)] rfl 1 rfl (by decide) (by decide) (by decide) (by decide)
      obtain ⟨rfl, K285, S285⟩ := Q285
      have s286 := K285.1
      refine st285 _ ?_
      have E285 := S285.exa
      refine g_astore B W285 at_97 rfl (l' := #[.val (.int p1), .val (.long p2), .second, .val (.long p3), .second, .val (.long p4), .second, .val (.int 6), .val (.ref b101), .val (.ref b273), .unset, .unset, .unset, .unset]) rfl ?_
      refine g_iload B W285 at_99 rfl ?_
      refine g_if_y B W285 at_101 (XT.i0_ne_t (by decide)) (pc' := 110) (by decide) ?_
      show Go p.tables e below _ T285 (mkF m 110 #[.val (.int p1), .val (.long p2), .second, .val (.long p3), .second, .val (.long p4), .second, .val (.int 6), .val (.ref b101), .val (.ref b273), .unset, .unset, .unset, .unset] [])
      refine g_iload B W285 at_110 rfl ?_
      refine g_iconst B W285 at_112 (v := 1) (by decide) ?_
      refine g_icmp_y B W285 at_113 (XT.ii_ne_t (by decide)) (pc' := 135) (by decide) ?_
      show Go p.tables e below _ T285 (mkF m 135 #[.val (.int p1), .val (.long p2), .second, .val (.long p3), .second, .val (.long p4), .second, .val (.int 6), .val (.ref b101), .val (.ref b273), .unset, .unset, .unset, .unset] [])
      suffices q287 : ∀ T' : State, Wk p l e room_1 s m #[(.int p1), (.long p2), (.long p3), (.long p4)] below meth c Z T' h285 5 42 [b273, b101] → Go p.tables e below (Jvm.OwnK.Out Z s (Q_law Z p1 p2 p3 p4 cz sf h0) room_1.cells room_1.slots) T' (mkF m 240 #[.val (.int p1), .val (.long p2), .second, .val (.long p3), .second, .val (.long p4), .second, .val (.int 6), .val (.ref b101), .val (.ref b273), .unset, .unset, .unset, .unset] [(.int (bi (pg 6 F8)))]) by
        refine g_aload B W285 at_135 rfl rfl ?_
        refine g_iconst B W285 at_137 (v := 0) (by decide) ?_
        have f288 := (f278.keep K279 nin0)
        have f289 := (f288.keep K285 (ninS (nne (by have q := nlt f288.lt; omega)) nin0))
        refine g_caload B W285 at_138 f289 (by decide) (show List.getD ([(.int x103), (.int x106), (.int x109), (.int x112), (.int x115), (.int x118), (.int x121), (.int x124)] : List Value) _ _ = (.int x103) from rfl) ?_
        refine g_bipush B W285 at_139 (v := 47) (by decide) ?_
        by_cases hc290 : x103 = 47
        · skip
          refine g_icmp_n B W285 at_141 (XT.ii_ne_f hc290) ?_
          show Go p.tables e below _ T285 (mkF m 144 #[.val (.int p1), .val (.long p2), .second, .val (.long p3), .second, .val (.long p4), .second, .val (.int 6), .val (.ref b101), .val (.ref b273), .unset, .unset, .unset, .unset] [])
          refine g_aload B W285 at_144 rfl rfl ?_
          refine g_iload B W285 at_146 rfl ?_
          refine g_iconst B W285 at_148 (v := 1) (by decide) ?_
          refine g_isub B W285 at_149  ?_
          rw [show (6 - 1 : Int32) = 5 by decide]
          refine g_caload B W285 at_150 f289 (by decide) (show List.getD ([(.int x103), (.int x106), (.int x109), (.int x112), (.int x115), (.int x118), (.int x121), (.int x124)] : List Value) _ _ = (.int x118) from rfl) ?_
          refine g_bipush B W285 at_151 (v := 47) (by decide) ?_
          by_cases hc291 : x118 = 47
          · skip
            refine g_icmp_n B W285 at_153 (XT.ii_ne_f hc291) ?_
            show Go p.tables e below _ T285 (mkF m 156 #[.val (.int p1), .val (.long p2), .second, .val (.long p3), .second, .val (.long p4), .second, .val (.int 6), .val (.ref b101), .val (.ref b273), .unset, .unset, .unset, .unset] [])
            refine g_aload B W285 at_156 rfl rfl ?_
            refine g_iload B W285 at_158 rfl ?_
            refine g_iconst B W285 at_160 (v := 1) (by decide) ?_
            obtain ⟨T292, h292, v292, W292, Q292, st292⟩ := x_static B W285 [(.ref b101), (.int 6), (.int 1)] (c_good l Z a0 hw b101 cA101 F8 6 1 h285 (by rw [show arl 8 F8 = [(.int x103), (.int x106), (.int x109), (.int x112), (.int x115), (.int x118), (.int x121), (.int x124)] by rw [eF8]; rfl]; exact f289) (by decide) (by decide)) (by simp) at_161 (tw hw 110 rfl) (tw hw 111 rfl) (tw hw 3 rfl) (tw hw 112 rfl) (by decide) (lenOf pd___CII_Z rfl) #[.val (.int p1), .val (.long p2), .second, .val (.long p3), .second, .val (.long p4), .second, .val (.int 6), .val (.ref b101), .val (.ref b273), .unset, .unset, .unset, .unset] [] rfl 0 rfl (by decide) (by decide) (by decide) (by decide)
            obtain ⟨rfl, rfl⟩ := Q292
            refine st292 _ ?_
            show Go p.tables e below _ T292 (mkF m 164 #[.val (.int p1), .val (.long p2), .second, .val (.long p3), .second, .val (.long p4), .second, .val (.int 6), .val (.ref b101), .val (.ref b273), .unset, .unset, .unset, .unset] [(.int (bi (okB F8 1)))])
            by_cases hc293 : (okB F8 1) = true
            · skip
              refine g_if_n B W292 at_164 (XT.i0_eq_f (bi_t hc293)) ?_
              show Go p.tables e below _ T292 (mkF m 167 #[.val (.int p1), .val (.long p2), .second, .val (.long p3), .second, .val (.long p4), .second, .val (.int 6), .val (.ref b101), .val (.ref b273), .unset, .unset, .unset, .unset] [])
              refine g_aload B W292 at_167 rfl rfl ?_
              refine g_iload B W292 at_169 rfl ?_
              refine g_iconst B W292 at_171 (v := 2) (by decide) ?_
              obtain ⟨T294, h294, v294, W294, Q294, st294⟩ := x_static B W292 [(.ref b101), (.int 6), (.int 2)] (c_good l Z a0 hw b101 cA101 F8 6 2 h285 (by rw [show arl 8 F8 = [(.int x103), (.int x106), (.int x109), (.int x112), (.int x115), (.int x118), (.int x121), (.int x124)] by rw [eF8]; rfl]; exact f289) (by decide) (by decide)) (by simp) at_172 (tw hw 110 rfl) (tw hw 111 rfl) (tw hw 3 rfl) (tw hw 112 rfl) (by decide) (lenOf pd___CII_Z rfl) #[.val (.int p1), .val (.long p2), .second, .val (.long p3), .second, .val (.long p4), .second, .val (.int 6), .val (.ref b101), .val (.ref b273), .unset, .unset, .unset, .unset] [] rfl 0 rfl (by decide) (by decide) (by decide) (by decide)
              obtain ⟨rfl, rfl⟩ := Q294
              refine st294 _ ?_
              show Go p.tables e below _ T294 (mkF m 175 #[.val (.int p1), .val (.long p2), .second, .val (.long p3), .second, .val (.long p4), .second, .val (.int 6), .val (.ref b101), .val (.ref b273), .unset, .unset, .unset, .unset] [(.int (bi (okB F8 2)))])
              by_cases hc295 : (okB F8 2) = true
              · skip
                refine g_if_n B W294 at_175 (XT.i0_eq_f (bi_t hc295)) ?_
                show Go p.tables e below _ T294 (mkF m 178 #[.val (.int p1), .val (.long p2), .second, .val (.long p3), .second, .val (.long p4), .second, .val (.int 6), .val (.ref b101), .val (.ref b273), .unset, .unset, .unset, .unset] [])
                refine g_aload B W294 at_178 rfl rfl ?_
                refine g_iload B W294 at_180 rfl ?_
                refine g_iconst B W294 at_182 (v := 3) (by decide) ?_
                obtain ⟨T296, h296, v296, W296, Q296, st296⟩ := x_static B W294 [(.ref b101), (.int 6), (.int 3)] (c_good l Z a0 hw b101 cA101 F8 6 3 h285 (by rw [show arl 8 F8 = [(.int x103), (.int x106), (.int x109), (.int x112), (.int x115), (.int x118), (.int x121), (.int x124)] by rw [eF8]; rfl]; exact f289) (by decide) (by decide)) (by simp) at_183 (tw hw 110 rfl) (tw hw 111 rfl) (tw hw 3 rfl) (tw hw 112 rfl) (by decide) (lenOf pd___CII_Z rfl) #[.val (.int p1), .val (.long p2), .second, .val (.long p3), .second, .val (.long p4), .second, .val (.int 6), .val (.ref b101), .val (.ref b273), .unset, .unset, .unset, .unset] [] rfl 0 rfl (by decide) (by decide) (by decide) (by decide)
                obtain ⟨rfl, rfl⟩ := Q296
                refine st296 _ ?_
                show Go p.tables e below _ T296 (mkF m 186 #[.val (.int p1), .val (.long p2), .second, .val (.long p3), .second, .val (.long p4), .second, .val (.int 6), .val (.ref b101), .val (.ref b273), .unset, .unset, .unset, .unset] [(.int (bi (okB F8 3)))])
                by_cases hc297 : (okB F8 3) = true
                · skip
                  refine g_if_n B W296 at_186 (XT.i0_eq_f (bi_t hc297)) ?_
                  show Go p.tables e below _ T296 (mkF m 189 #[.val (.int p1), .val (.long p2), .second, .val (.long p3), .second, .val (.long p4), .second, .val (.int 6), .val (.ref b101), .val (.ref b273), .unset, .unset, .unset, .unset] [])
                  refine g_aload B W296 at_189 rfl rfl ?_
                  refine g_iload B W296 at_191 rfl ?_
                  refine g_iconst B W296 at_193 (v := 4) (by decide) ?_
                  obtain ⟨T298, h298, v298, W298, Q298, st298⟩ := x_static B W296 [(.ref b101), (.int 6), (.int 4)] (c_good l Z a0 hw b101 cA101 F8 6 4 h285 (by rw [show arl 8 F8 = [(.int x103), (.int x106), (.int x109), (.int x112), (.int x115), (.int x118), (.int x121), (.int x124)] by rw [eF8]; rfl]; exact f289) (by decide) (by decide)) (by simp) at_194 (tw hw 110 rfl) (tw hw 111 rfl) (tw hw 3 rfl) (tw hw 112 rfl) (by decide) (lenOf pd___CII_Z rfl) #[.val (.int p1), .val (.long p2), .second, .val (.long p3), .second, .val (.long p4), .second, .val (.int 6), .val (.ref b101), .val (.ref b273), .unset, .unset, .unset, .unset] [] rfl 0 rfl (by decide) (by decide) (by decide) (by decide)
                  obtain ⟨rfl, rfl⟩ := Q298
                  refine st298 _ ?_
                  show Go p.tables e below _ T298 (mkF m 197 #[.val (.int p1), .val (.long p2), .second, .val (.long p3), .second, .val (.long p4), .second, .val (.int 6), .val (.ref b101), .val (.ref b273), .unset, .unset, .unset, .unset] [(.int (bi (okB F8 4)))])
                  by_cases hc299 : (okB F8 4) = true
                  · skip
                    refine g_if_n B W298 at_197 (XT.i0_eq_f (bi_t hc299)) ?_
                    show Go p.tables e below _ T298 (mkF m 200 #[.val (.int p1), .val (.long p2), .second, .val (.long p3), .second, .val (.long p4), .second, .val (.int 6), .val (.ref b101), .val (.ref b273), .unset, .unset, .unset, .unset] [])
                    refine g_aload B W298 at_200 rfl rfl ?_
                    refine g_iload B W298 at_202 rfl ?_
                    refine g_iconst B W298 at_204 (v := 5) (by decide) ?_
                    obtain ⟨T300, h300, v300, W300, Q300, st300⟩ := x_static B W298 [(.ref b101), (.int 6), (.int 5)] (c_good l Z a0 hw b101 cA101 F8 6 5 h285 (by rw [show arl 8 F8 = [(.int x103), (.int x106), (.int x109), (.int x112), (.int x115), (.int x118), (.int x121), (.int x124)] by rw [eF8]; rfl]; exact f289) (by decide) (by decide)) (by simp) at_205 (tw hw 110 rfl) (tw hw 111 rfl) (tw hw 3 rfl) (tw hw 112 rfl) (by decide) (lenOf pd___CII_Z rfl) #[.val (.int p1), .val (.long p2), .second, .val (.long p3), .second, .val (.long p4), .second, .val (.int 6), .val (.ref b101), .val (.ref b273), .unset, .unset, .unset, .unset] [] rfl 0 rfl (by decide) (by decide) (by decide) (by decide)
                    obtain ⟨rfl, rfl⟩ := Q300
                    refine st300 _ ?_
                    show Go p.tables e below _ T300 (mkF m 208 #[.val (.int p1), .val (.long p2), .second, .val (.long p3), .second, .val (.long p4), .second, .val (.int 6), .val (.ref b101), .val (.ref b273), .unset, .unset, .unset, .unset] [(.int (bi (okB F8 5)))])
                    by_cases hc301 : (okB F8 5) = true
                    · skip
                      refine g_if_n B W300 at_208 (XT.i0_eq_f (bi_t hc301)) ?_
                      show Go p.tables e below _ T300 (mkF m 211 #[.val (.int p1), .val (.long p2), .second, .val (.long p3), .second, .val (.long p4), .second, .val (.int 6), .val (.ref b101), .val (.ref b273), .unset, .unset, .unset, .unset] [])
                      refine g_aload B W300 at_211 rfl rfl ?_
                      refine g_iload B W300 at_213 rfl ?_
                      refine g_bipush B W300 at_215 (v := 6) (by decide) ?_
                      obtain ⟨T302, h302, v302, W302, Q302, st302⟩ := x_static B W300 [(.ref b101), (.int 6), (.int 6)] (c_good l Z a0 hw b101 cA101 F8 6 6 h285 (by rw [show arl 8 F8 = [(.int x103), (.int x106), (.int x109), (.int x112), (.int x115), (.int x118), (.int x121), (.int x124)] by rw [eF8]; rfl]; exact f289) (by decide) (by decide)) (by simp) at_217 (tw hw 110 rfl) (tw hw 111 rfl) (tw hw 3 rfl) (tw hw 112 rfl) (by decide) (lenOf pd___CII_Z rfl) #[.val (.int p1), .val (.long p2), .second, .val (.long p3), .second, .val (.long p4), .second, .val (.int 6), .val (.ref b101), .val (.ref b273), .unset, .unset, .unset, .unset] [] rfl 0 rfl (by decide) (by decide) (by decide) (by decide)
                      obtain ⟨rfl, rfl⟩ := Q302
                      refine st302 _ ?_
                      show Go p.tables e below _ T302 (mkF m 220 #[.val (.int p1), .val (.long p2), .second, .val (.long p3), .second, .val (.long p4), .second, .val (.int 6), .val (.ref b101), .val (.ref b273), .unset, .unset, .unset, .unset] [(.int 1)])
                      show Go p.tables e below _ T302 (mkF m 220 #[.val (.int p1), .val (.long p2), .second, .val (.long p3), .second, .val (.long p4), .second, .val (.int 6), .val (.ref b101), .val (.ref b273), .unset, .unset, .unset, .unset] [(.int 1)])
                      refine g_if_n B W302 at_220 (XT.i0_eq_f (by decide)) ?_
                      show Go p.tables e below _ T302 (mkF m 223 #[.val (.int p1), .val (.long p2), .second, .val (.long p3), .second, .val (.long p4), .second, .val (.int 6), .val (.ref b101), .val (.ref b273), .unset, .unset, .unset, .unset] [])
                      refine g_aload B W302 at_223 rfl rfl ?_
                      refine g_iload B W302 at_225 rfl ?_
                      refine g_bipush B W302 at_227 (v := 7) (by decide) ?_
                      obtain ⟨T303, h303, v303, W303, Q303, st303⟩ := x_static B W302 [(.ref b101), (.int 6), (.int 7)] (c_good l Z a0 hw b101 cA101 F8 6 7 h285 (by rw [show arl 8 F8 = [(.int x103), (.int x106), (.int x109), (.int x112), (.int x115), (.int x118), (.int x121), (.int x124)] by rw [eF8]; rfl]; exact f289) (by decide) (by decide)) (by simp) at_229 (tw hw 110 rfl) (tw hw 111 rfl) (tw hw 3 rfl) (tw hw 112 rfl) (by decide) (lenOf pd___CII_Z rfl) #[.val (.int p1), .val (.long p2), .second, .val (.long p3), .second, .val (.long p4), .second, .val (.int 6), .val (.ref b101), .val (.ref b273), .unset, .unset, .unset, .unset] [] rfl 0 rfl (by decide) (by decide) (by decide) (by decide)
                      obtain ⟨rfl, rfl⟩ := Q303
                      refine st303 _ ?_
                      show Go p.tables e below _ T303 (mkF m 232 #[.val (.int p1), .val (.long p2), .second, .val (.long p3), .second, .val (.long p4), .second, .val (.int 6), .val (.ref b101), .val (.ref b273), .unset, .unset, .unset, .unset] [(.int 1)])
                      show Go p.tables e below _ T303 (mkF m 232 #[.val (.int p1), .val (.long p2), .second, .val (.long p3), .second, .val (.long p4), .second, .val (.int 6), .val (.ref b101), .val (.ref b273), .unset, .unset, .unset, .unset] [(.int 1)])
                      refine g_if_n B W303 at_232 (XT.i0_eq_f (by decide)) ?_
                      show Go p.tables e below _ T303 (mkF m 235 #[.val (.int p1), .val (.long p2), .second, .val (.long p3), .second, .val (.long p4), .second, .val (.int 6), .val (.ref b101), .val (.ref b273), .unset, .unset, .unset, .unset] [])
                      refine g_iconst B W303 at_235 (v := 1) (by decide) ?_
                      refine g_goto B W303 at_236 (pc' := 240) (by decide) ?_
                      show Go p.tables e below _ T303 (mkF m 240 #[.val (.int p1), .val (.long p2), .second, .val (.long p3), .second, .val (.long p4), .second, .val (.int 6), .val (.ref b101), .val (.ref b273), .unset, .unset, .unset, .unset] [(.int 1)])
                      exact own_gc (by rw [show pg 6 F8 = true from (pg_eq (n := 5) (by decide) (by rw [eF8_0]; exact hc290) (by rw [eF8_5]; exact hc291)).trans (show ((okB F8 1 && (okB F8 2 && (okB F8 3 && (okB F8 4 && (okB F8 5 && true)))))) = true by simp [hc293, hc295, hc297, hc299, hc301])]; rfl) (q287 _ W303)
                    · skip
                      refine g_if_y B W300 at_208 (XT.i0_eq_t (bi_f (Bool.eq_false_iff.mpr hc301))) (pc' := 239) (by decide) ?_
                      show Go p.tables e below _ T300 (mkF m 239 #[.val (.int p1), .val (.long p2), .second, .val (.long p3), .second, .val (.long p4), .second, .val (.int 6), .val (.ref b101), .val (.ref b273), .unset, .unset, .unset, .unset] [])
                      refine g_iconst B W300 at_239 (v := 0) (by decide) ?_
                      exact own_gc (by rw [show pg 6 F8 = false from (pg_eq (n := 5) (by decide) (by rw [eF8_0]; exact hc290) (by rw [eF8_5]; exact hc291)).trans (show ((okB F8 1 && (okB F8 2 && (okB F8 3 && (okB F8 4 && (okB F8 5 && true)))))) = false by simp [hc293, hc295, hc297, hc299, hc301])]; rfl) (q287 _ W300)
                  · skip
                    refine g_if_y B W298 at_197 (XT.i0_eq_t (bi_f (Bool.eq_false_iff.mpr hc299))) (pc' := 239) (by decide) ?_
                    show Go p.tables e below _ T298 (mkF m 239 #[.val (.int p1), .val (.long p2), .second, .val (.long p3), .second, .val (.long p4), .second, .val (.int 6), .val (.ref b101), .val (.ref b273), .unset, .unset, .unset, .unset] [])
                    refine g_iconst B W298 at_239 (v := 0) (by decide) ?_
                    exact own_gc (by rw [show pg 6 F8 = false from (pg_eq (n := 5) (by decide) (by rw [eF8_0]; exact hc290) (by rw [eF8_5]; exact hc291)).trans (show ((okB F8 1 && (okB F8 2 && (okB F8 3 && (okB F8 4 && (okB F8 5 && true)))))) = false by simp [hc293, hc295, hc297, hc299])]; rfl) (q287 _ W298)
                · skip
                  refine g_if_y B W296 at_186 (XT.i0_eq_t (bi_f (Bool.eq_false_iff.mpr hc297))) (pc' := 239) (by decide) ?_
                  show Go p.tables e below _ T296 (mkF m 239 #[.val (.int p1), .val (.long p2), .second, .val (.long p3), .second, .val (.long p4), .second, .val (.int 6), .val (.ref b101), .val (.ref b273), .unset, .unset, .unset, .unset] [])
                  refine g_iconst B W296 at_239 (v := 0) (by decide) ?_
                  exact own_gc (by rw [show pg 6 F8 = false from (pg_eq (n := 5) (by decide) (by rw [eF8_0]; exact hc290) (by rw [eF8_5]; exact hc291)).trans (show ((okB F8 1 && (okB F8 2 && (okB F8 3 && (okB F8 4 && (okB F8 5 && true)))))) = false by simp [hc293, hc295, hc297])]; rfl) (q287 _ W296)
              · skip
                refine g_if_y B W294 at_175 (XT.i0_eq_t (bi_f (Bool.eq_false_iff.mpr hc295))) (pc' := 239) (by decide) ?_
                show Go p.tables e below _ T294 (mkF m 239 #[.val (.int p1), .val (.long p2), .second, .val (.long p3), .second, .val (.long p4), .second, .val (.int 6), .val (.ref b101), .val (.ref b273), .unset, .unset, .unset, .unset] [])
                refine g_iconst B W294 at_239 (v := 0) (by decide) ?_
                exact own_gc (by rw [show pg 6 F8 = false from (pg_eq (n := 5) (by decide) (by rw [eF8_0]; exact hc290) (by rw [eF8_5]; exact hc291)).trans (show ((okB F8 1 && (okB F8 2 && (okB F8 3 && (okB F8 4 && (okB F8 5 && true)))))) = false by simp [hc293, hc295])]; rfl) (q287 _ W294)
            · skip
              refine g_if_y B W292 at_164 (XT.i0_eq_t (bi_f (Bool.eq_false_iff.mpr hc293))) (pc' := 239) (by decide) ?_
              show Go p.tables e below _ T292 (mkF m 239 #[.val (.int p1), .val (.long p2), .second, .val (.long p3), .second, .val (.long p4), .second, .val (.int 6), .val (.ref b101), .val (.ref b273), .unset, .unset, .unset, .unset] [])
              refine g_iconst B W292 at_239 (v := 0) (by decide) ?_
              exact own_gc (by rw [show pg 6 F8 = false from (pg_eq (n := 5) (by decide) (by rw [eF8_0]; exact hc290) (by rw [eF8_5]; exact hc291)).trans (show ((okB F8 1 && (okB F8 2 && (okB F8 3 && (okB F8 4 && (okB F8 5 && true)))))) = false by simp [hc293])]; rfl) (q287 _ W292)
          · skip
            refine g_icmp_y B W285 at_153 (XT.ii_ne_t hc291) (pc' := 239) (by decide) ?_
            show Go p.tables e below _ T285 (mkF m 239 #[.val (.int p1), .val (.long p2), .second, .val (.long p3), .second, .val (.long p4), .second, .val (.int 6), .val (.ref b101), .val (.ref b273), .unset, .unset, .unset, .unset] [])
            refine g_iconst B W285 at_239 (v := 0) (by decide) ?_
            exact own_gc (by rw [show pg 6 F8 = false from pg_fn (by rw [eF8_5]; exact hc291)]; rfl) (q287 _ W285)
        · skip
          refine g_icmp_y B W285 at_141 (XT.ii_ne_t hc290) (pc' := 239) (by decide) ?_
          show Go p.tables e below _ T285 (mkF m 239 #[.val (.int p1), .val (.long p2), .second, .val (.long p3), .second, .val (.long p4), .second, .val (.int 6), .val (.ref b101), .val (.ref b273), .unset, .unset, .unset, .unset] [])
          refine g_iconst B W285 at_239 (v := 0) (by decide) ?_
          exact own_gc (by rw [show pg 6 F8 = false from pg_f0 (by rw [eF8_0]; exact hc290)]; rfl) (q287 _ W285)
      intro T287 W287
      refine g_istore B W287 at_240  (l' := #[.val (.int p1), .val (.long p2), .second, .val (.long p3), .second, .val (.long p4), .second, .val (.int 6), .val (.ref b101), .val (.ref b273), .val (.int (bi (pg 6 F8))), .unset, .unset, .unset]) rfl ?_
      exact qj _ _ b273 6 (Wk.sub (Wk.more W287 (by decide) (by decide)) (by simp)) S285 (by omega)
    · skip
      show Go p.tables e below _ T125 (mkF m 83 #[.val (.int p1), .val (.long p2), .second, .val (.long p3), .second, .val (.long p4), .second, .val (.int 7), .val (.ref b101), .unset, .unset, .unset, .unset, .unset] [])
      obtain ⟨T304, h304, b304, gb304, W304, K304, E304, D304, st304⟩ := x_new B W125 at_83 (tw hw 7 rfl) (tw hw 8 rfl) (tw hw 9 rfl) (by decide) (by decide) #[.val (.int p1), .val (.long p2), .second, .val (.long p3), .second, .val (.long p4), .second, .val (.int 7), .val (.ref b101), .unset, .unset, .unset, .unset, .unset] []
      have l304 := nlt E304.lt
      have z304 := W125.size
      refine st304 _ ?_
      have s305 := K304.1
      have f306 : Fld Z h304 b304 "java/lang/String" "value" "[B" .null := D304 (Or.inr (tw hw 25 rfl)) (ty := (.array .byte)) (by decide)
      have f307 : Fld Z h304 b304 "java/lang/String" "coder" "B" (.int 0) := D304 (Or.inr (tw hw 26 rfl)) (ty := .byte) (by decide)
      refine g_dup B W304 at_86 rfl ?_
      refine g_aload B W304 at_87 rfl rfl ?_
      refine g_iload B W304 at_89 rfl ?_
      have zs308 := W304.size
      have f309 := (A125.keep K304 nin0)
      obtain ⟨T310, h310, v310, W310, Q310, st310⟩ := x_static B W304 [(.ref b101), (.int 7)] (c_pre7 l Z a0 hw b101 cA101 x103 x106 x109 x112 x115 x118 x121 x124 h304 f309 nx103 nx106 nx109 nx112 nx115 nx118 nx121 nx124) (by simp) at_91 (tw hw 10 rfl) (tw hw 11 rfl) (tw hw 3 rfl) (tw hw 12 rfl) (by decide) (lenOf pd___CI__C rfl) #[.val (.int p1), .val (.long p2), .second, .val (.long p3), .second, .val (.long p4), .second, .val (.int 7), .val (.ref b101), .unset, .unset, .unset, .unset, .unset] [(.ref b304), (.ref b304)] rfl 2 rfl (by decide) (by decide) (by decide) (by decide)
      obtain ⟨b310, kB310, rfl, g310, K310, A310⟩ := Q310
      have s311 := K310.1
      refine st310 _ ?_
      have l310 := nlt A310.lt
      have z310 := W310.size
      have A312 : Arv Z h310 b310 kB310 .char (Int32.ofNat 7) (arl 7 F8) (.int 0) := by rw [show arl 7 F8 = [.int x103, .int x106, .int x109, .int x112, .int x115, .int x118, .int x121] by rw [eF8]; rfl]; exact A310
      have f313 := (E304.keep K310)
      have f314 := (f306.keep K310 nin0)
      have f315 := (f307.keep K310 nin0)
      obtain ⟨T316, h316, v316, W316, Q316, st316⟩ := x_special B W310 (b := b304) [(.ref b310)] (c_sI1w l Z a0 hw b304 b310 kB310 7 F8 cz h310 Scs hcz Sad Shi Slo f313 f314 f315 (by omega) A312 (by intro j hj; obtain rfl | rfl | rfl | rfl | rfl | rfl | rfl : j = 0 ∨ j = 1 ∨ j = 2 ∨ j = 3 ∨ j = 4 ∨ j = 5 ∨ j = 6 := (by omega); (· exact (by rw [eF8_0]; exact (own_rn rx103))); (· exact (by rw [eF8_1]; exact (own_rn rx106))); (· exact (by rw [eF8_2]; exact (own_rn rx109))); (· exact (by rw [eF8_3]; exact (own_rn rx112))); (· exact (by rw [eF8_4]; exact (own_rn rx115))); (· exact (by rw [eF8_5]; exact (own_rn rx118))); (· exact (by rw [eF8_6]; exact (own_rn rx121)))) (by omega) (by omega)) (by simp) at_94 rfl (tw hw 13 rfl) (tw hw 14 rfl) (tw hw 9 rfl) (tw hw 15 rfl) (by decide) (lenOf pd___C_V rfl) #[.val (.int p1), .val (.long p2), .second, .val (.long p3), .second, .val (.long p4), .second, .val (.int 7), .val (.ref b101), .unset, .unset, .unset, .unset, .unset] [(.ref b304)] rfl 1 rfl (by decide) (by decide) (by decide) (by decide)
      obtain ⟨rfl, K316, S316⟩ := Q316
      have s317 := K316.1
      refine st316 _ ?_
      have E316 := S316.exa
      refine g_astore B W316 at_97 rfl (l' := #[.val (.int p1), .val (.long p2), .second, .val (.long p3), .second, .val (.long p4), .second, .val (.int 7), .val (.ref b101), .val (.ref b304), .unset, .unset, .unset, .unset]) rfl ?_
      refine g_iload B W316 at_99 rfl ?_
      refine g_if_y B W316 at_101 (XT.i0_ne_t (by decide)) (pc' := 110) (by decide) ?_
      show Go p.tables e below _ T316 (mkF m 110 #[.val (.int p1), .val (.long p2), .second, .val (.long p3), .second, .val (.long p4), .second, .val (.int 7), .val (.ref b101), .val (.ref b304), .unset, .unset, .unset, .unset] [])
      refine g_iload B W316 at_110 rfl ?_
      refine g_iconst B W316 at_112 (v := 1) (by decide) ?_
      refine g_icmp_y B W316 at_113 (XT.ii_ne_t (by decide)) (pc' := 135) (by decide) ?_
      show Go p.tables e below _ T316 (mkF m 135 #[.val (.int p1), .val (.long p2), .second, .val (.long p3), .second, .val (.long p4), .second, .val (.int 7), .val (.ref b101), .val (.ref b304), .unset, .unset, .unset, .unset] [])
      suffices q318 : ∀ T' : State, Wk p l e room_1 s m #[(.int p1), (.long p2), (.long p3), (.long p4)] below meth c Z T' h316 5 43 [b304, b101] → Go p.tables e below (Jvm.OwnK.Out Z s (Q_law Z p1 p2 p3 p4 cz sf h0) room_1.cells room_1.slots) T' (mkF m 240 #[.val (.int p1), .val (.long p2), .second, .val (.long p3), .second, .val (.long p4), .second, .val (.int 7), .val (.ref b101), .val (.ref b304), .unset, .unset, .unset, .unset] [(.int (bi (pg 7 F8)))]) by
        refine g_aload B W316 at_135 rfl rfl ?_
        refine g_iconst B W316 at_137 (v := 0) (by decide) ?_
        have f319 := (f309.keep K310 nin0)
        have f320 := (f319.keep K316 (ninS (nne (by have q := nlt f319.lt; omega)) nin0))
        refine g_caload B W316 at_138 f320 (by decide) (show List.getD ([(.int x103), (.int x106), (.int x109), (.int x112), (.int x115), (.int x118), (.int x121), (.int x124)] : List Value) _ _ = (.int x103) from rfl) ?_
        refine g_bipush B W316 at_139 (v := 47) (by decide) ?_
        by_cases hc321 : x103 = 47
        · skip
          refine g_icmp_n B W316 at_141 (XT.ii_ne_f hc321) ?_
          show Go p.tables e below _ T316 (mkF m 144 #[.val (.int p1), .val (.long p2), .second, .val (.long p3), .second, .val (.long p4), .second, .val (.int 7), .val (.ref b101), .val (.ref b304), .unset, .unset, .unset, .unset] [])
          refine g_aload B W316 at_144 rfl rfl ?_
          refine g_iload B W316 at_146 rfl ?_
          refine g_iconst B W316 at_148 (v := 1) (by decide) ?_
          refine g_isub B W316 at_149  ?_
          rw [show (7 - 1 : Int32) = 6 by decide]
          refine g_caload B W316 at_150 f320 (by decide) (show List.getD ([(.int x103), (.int x106), (.int x109), (.int x112), (.int x115), (.int x118), (.int x121), (.int x124)] : List Value) _ _ = (.int x121) from rfl) ?_
          refine g_bipush B W316 at_151 (v := 47) (by decide) ?_
          by_cases hc322 : x121 = 47
          · skip
            refine g_icmp_n B W316 at_153 (XT.ii_ne_f hc322) ?_
            show Go p.tables e below _ T316 (mkF m 156 #[.val (.int p1), .val (.long p2), .second, .val (.long p3), .second, .val (.long p4), .second, .val (.int 7), .val (.ref b101), .val (.ref b304), .unset, .unset, .unset, .unset] [])
            refine g_aload B W316 at_156 rfl rfl ?_
            refine g_iload B W316 at_158 rfl ?_
            refine g_iconst B W316 at_160 (v := 1) (by decide) ?_
            obtain ⟨T323, h323, v323, W323, Q323, st323⟩ := x_static B W316 [(.ref b101), (.int 7), (.int 1)] (c_good l Z a0 hw b101 cA101 F8 7 1 h316 (by rw [show arl 8 F8 = [(.int x103), (.int x106), (.int x109), (.int x112), (.int x115), (.int x118), (.int x121), (.int x124)] by rw [eF8]; rfl]; exact f320) (by decide) (by decide)) (by simp) at_161 (tw hw 110 rfl) (tw hw 111 rfl) (tw hw 3 rfl) (tw hw 112 rfl) (by decide) (lenOf pd___CII_Z rfl) #[.val (.int p1), .val (.long p2), .second, .val (.long p3), .second, .val (.long p4), .second, .val (.int 7), .val (.ref b101), .val (.ref b304), .unset, .unset, .unset, .unset] [] rfl 0 rfl (by decide) (by decide) (by decide) (by decide)
            obtain ⟨rfl, rfl⟩ := Q323
            refine st323 _ ?_
            show Go p.tables e below _ T323 (mkF m 164 #[.val (.int p1), .val (.long p2), .second, .val (.long p3), .second, .val (.long p4), .second, .val (.int 7), .val (.ref b101), .val (.ref b304), .unset, .unset, .unset, .unset] [(.int (bi (okB F8 1)))])
            by_cases hc324 : (okB F8 1) = true
            · skip
              refine g_if_n B W323 at_164 (XT.i0_eq_f (bi_t hc324)) ?_
              show Go p.tables e below _ T323 (mkF m 167 #[.val (.int p1), .val (.long p2), .second, .val (.long p3), .second, .val (.long p4), .second, .val (.int 7), .val (.ref b101), .val (.ref b304), .unset, .unset, .unset, .unset] [])
              refine g_aload B W323 at_167 rfl rfl ?_
              refine g_iload B W323 at_169 rfl ?_
              refine g_iconst B W323 at_171 (v := 2) (by decide) ?_
              obtain ⟨T325, h325, v325, W325, Q325, st325⟩ := x_static B W323 [(.ref b101), (.int 7), (.int 2)] (c_good l Z a0 hw b101 cA101 F8 7 2 h316 (by rw [show arl 8 F8 = [(.int x103), (.int x106), (.int x109), (.int x112), (.int x115), (.int x118), (.int x121), (.int x124)] by rw [eF8]; rfl]; exact f320) (by decide) (by decide)) (by simp) at_172 (tw hw 110 rfl) (tw hw 111 rfl) (tw hw 3 rfl) (tw hw 112 rfl) (by decide) (lenOf pd___CII_Z rfl) #[.val (.int p1), .val (.long p2), .second, .val (.long p3), .second, .val (.long p4), .second, .val (.int 7), .val (.ref b101), .val (.ref b304), .unset, .unset, .unset, .unset] [] rfl 0 rfl (by decide) (by decide) (by decide) (by decide)
              obtain ⟨rfl, rfl⟩ := Q325
              refine st325 _ ?_
              show Go p.tables e below _ T325 (mkF m 175 #[.val (.int p1), .val (.long p2), .second, .val (.long p3), .second, .val (.long p4), .second, .val (.int 7), .val (.ref b101), .val (.ref b304), .unset, .unset, .unset, .unset] [(.int (bi (okB F8 2)))])
              by_cases hc326 : (okB F8 2) = true
              · skip
                refine g_if_n B W325 at_175 (XT.i0_eq_f (bi_t hc326)) ?_
                show Go p.tables e below _ T325 (mkF m 178 #[.val (.int p1), .val (.long p2), .second, .val (.long p3), .second, .val (.long p4), .second, .val (.int 7), .val (.ref b101), .val (.ref b304), .unset, .unset, .unset, .unset] [])
                refine g_aload B W325 at_178 rfl rfl ?_
                refine g_iload B W325 at_180 rfl ?_
                refine g_iconst B W325 at_182 (v := 3) (by decide) ?_
                obtain ⟨T327, h327, v327, W327, Q327, st327⟩ := x_static B W325 [(.ref b101), (.int 7), (.int 3)] (c_good l Z a0 hw b101 cA101 F8 7 3 h316 (by rw [show arl 8 F8 = [(.int x103), (.int x106), (.int x109), (.int x112), (.int x115), (.int x118), (.int x121), (.int x124)] by rw [eF8]; rfl]; exact f320) (by decide) (by decide)) (by simp) at_183 (tw hw 110 rfl) (tw hw 111 rfl) (tw hw 3 rfl) (tw hw 112 rfl) (by decide) (lenOf pd___CII_Z rfl) #[.val (.int p1), .val (.long p2), .second, .val (.long p3), .second, .val (.long p4), .second, .val (.int 7), .val (.ref b101), .val (.ref b304), .unset, .unset, .unset, .unset] [] rfl 0 rfl (by decide) (by decide) (by decide) (by decide)
                obtain ⟨rfl, rfl⟩ := Q327
                refine st327 _ ?_
                show Go p.tables e below _ T327 (mkF m 186 #[.val (.int p1), .val (.long p2), .second, .val (.long p3), .second, .val (.long p4), .second, .val (.int 7), .val (.ref b101), .val (.ref b304), .unset, .unset, .unset, .unset] [(.int (bi (okB F8 3)))])
                by_cases hc328 : (okB F8 3) = true
                · skip
                  refine g_if_n B W327 at_186 (XT.i0_eq_f (bi_t hc328)) ?_
                  show Go p.tables e below _ T327 (mkF m 189 #[.val (.int p1), .val (.long p2), .second, .val (.long p3), .second, .val (.long p4), .second, .val (.int 7), .val (.ref b101), .val (.ref b304), .unset, .unset, .unset, .unset] [])
                  refine g_aload B W327 at_189 rfl rfl ?_
                  refine g_iload B W327 at_191 rfl ?_
                  refine g_iconst B W327 at_193 (v := 4) (by decide) ?_
                  obtain ⟨T329, h329, v329, W329, Q329, st329⟩ := x_static B W327 [(.ref b101), (.int 7), (.int 4)] (c_good l Z a0 hw b101 cA101 F8 7 4 h316 (by rw [show arl 8 F8 = [(.int x103), (.int x106), (.int x109), (.int x112), (.int x115), (.int x118), (.int x121), (.int x124)] by rw [eF8]; rfl]; exact f320) (by decide) (by decide)) (by simp) at_194 (tw hw 110 rfl) (tw hw 111 rfl) (tw hw 3 rfl) (tw hw 112 rfl) (by decide) (lenOf pd___CII_Z rfl) #[.val (.int p1), .val (.long p2), .second, .val (.long p3), .second, .val (.long p4), .second, .val (.int 7), .val (.ref b101), .val (.ref b304), .unset, .unset, .unset, .unset] [] rfl 0 rfl (by decide) (by decide) (by decide) (by decide)
                  obtain ⟨rfl, rfl⟩ := Q329
                  refine st329 _ ?_
                  show Go p.tables e below _ T329 (mkF m 197 #[.val (.int p1), .val (.long p2), .second, .val (.long p3), .second, .val (.long p4), .second, .val (.int 7), .val (.ref b101), .val (.ref b304), .unset, .unset, .unset, .unset] [(.int (bi (okB F8 4)))])
                  by_cases hc330 : (okB F8 4) = true
                  · skip
                    refine g_if_n B W329 at_197 (XT.i0_eq_f (bi_t hc330)) ?_
                    show Go p.tables e below _ T329 (mkF m 200 #[.val (.int p1), .val (.long p2), .second, .val (.long p3), .second, .val (.long p4), .second, .val (.int 7), .val (.ref b101), .val (.ref b304), .unset, .unset, .unset, .unset] [])
                    refine g_aload B W329 at_200 rfl rfl ?_
                    refine g_iload B W329 at_202 rfl ?_
                    refine g_iconst B W329 at_204 (v := 5) (by decide) ?_
                    obtain ⟨T331, h331, v331, W331, Q331, st331⟩ := x_static B W329 [(.ref b101), (.int 7), (.int 5)] (c_good l Z a0 hw b101 cA101 F8 7 5 h316 (by rw [show arl 8 F8 = [(.int x103), (.int x106), (.int x109), (.int x112), (.int x115), (.int x118), (.int x121), (.int x124)] by rw [eF8]; rfl]; exact f320) (by decide) (by decide)) (by simp) at_205 (tw hw 110 rfl) (tw hw 111 rfl) (tw hw 3 rfl) (tw hw 112 rfl) (by decide) (lenOf pd___CII_Z rfl) #[.val (.int p1), .val (.long p2), .second, .val (.long p3), .second, .val (.long p4), .second, .val (.int 7), .val (.ref b101), .val (.ref b304), .unset, .unset, .unset, .unset] [] rfl 0 rfl (by decide) (by decide) (by decide) (by decide)
                    obtain ⟨rfl, rfl⟩ := Q331
                    refine st331 _ ?_
                    show Go p.tables e below _ T331 (mkF m 208 #[.val (.int p1), .val (.long p2), .second, .val (.long p3), .second, .val (.long p4), .second, .val (.int 7), .val (.ref b101), .val (.ref b304), .unset, .unset, .unset, .unset] [(.int (bi (okB F8 5)))])
                    by_cases hc332 : (okB F8 5) = true
                    · skip
                      refine g_if_n B W331 at_208 (XT.i0_eq_f (bi_t hc332)) ?_
                      show Go p.tables e below _ T331 (mkF m 211 #[.val (.int p1), .val (.long p2), .second, .val (.long p3), .second, .val (.long p4), .second, .val (.int 7), .val (.ref b101), .val (.ref b304), .unset, .unset, .unset, .unset] [])
                      refine g_aload B W331 at_211 rfl rfl ?_
                      refine g_iload B W331 at_213 rfl ?_
                      refine g_bipush B W331 at_215 (v := 6) (by decide) ?_
                      obtain ⟨T333, h333, v333, W333, Q333, st333⟩ := x_static B W331 [(.ref b101), (.int 7), (.int 6)] (c_good l Z a0 hw b101 cA101 F8 7 6 h316 (by rw [show arl 8 F8 = [(.int x103), (.int x106), (.int x109), (.int x112), (.int x115), (.int x118), (.int x121), (.int x124)] by rw [eF8]; rfl]; exact f320) (by decide) (by decide)) (by simp) at_217 (tw hw 110 rfl) (tw hw 111 rfl) (tw hw 3 rfl) (tw hw 112 rfl) (by decide) (lenOf pd___CII_Z rfl) #[.val (.int p1), .val (.long p2), .second, .val (.long p3), .second, .val (.long p4), .second, .val (.int 7), .val (.ref b101), .val (.ref b304), .unset, .unset, .unset, .unset] [] rfl 0 rfl (by decide) (by decide) (by decide) (by decide)
                      obtain ⟨rfl, rfl⟩ := Q333
                      refine st333 _ ?_
                      show Go p.tables e below _ T333 (mkF m 220 #[.val (.int p1), .val (.long p2), .second, .val (.long p3), .second, .val (.long p4), .second, .val (.int 7), .val (.ref b101), .val (.ref b304), .unset, .unset, .unset, .unset] [(.int (bi (okB F8 6)))])
                      by_cases hc334 : (okB F8 6) = true
                      · skip
                        refine g_if_n B W333 at_220 (XT.i0_eq_f (bi_t hc334)) ?_
                        show Go p.tables e below _ T333 (mkF m 223 #[.val (.int p1), .val (.long p2), .second, .val (.long p3), .second, .val (.long p4), .second, .val (.int 7), .val (.ref b101), .val (.ref b304), .unset, .unset, .unset, .unset] [])
                        refine g_aload B W333 at_223 rfl rfl ?_
                        refine g_iload B W333 at_225 rfl ?_
                        refine g_bipush B W333 at_227 (v := 7) (by decide) ?_
                        obtain ⟨T335, h335, v335, W335, Q335, st335⟩ := x_static B W333 [(.ref b101), (.int 7), (.int 7)] (c_good l Z a0 hw b101 cA101 F8 7 7 h316 (by rw [show arl 8 F8 = [(.int x103), (.int x106), (.int x109), (.int x112), (.int x115), (.int x118), (.int x121), (.int x124)] by rw [eF8]; rfl]; exact f320) (by decide) (by decide)) (by simp) at_229 (tw hw 110 rfl) (tw hw 111 rfl) (tw hw 3 rfl) (tw hw 112 rfl) (by decide) (lenOf pd___CII_Z rfl) #[.val (.int p1), .val (.long p2), .second, .val (.long p3), .second, .val (.long p4), .second, .val (.int 7), .val (.ref b101), .val (.ref b304), .unset, .unset, .unset, .unset] [] rfl 0 rfl (by decide) (by decide) (by decide) (by decide)
                        obtain ⟨rfl, rfl⟩ := Q335
                        refine st335 _ ?_
                        show Go p.tables e below _ T335 (mkF m 232 #[.val (.int p1), .val (.long p2), .second, .val (.long p3), .second, .val (.long p4), .second, .val (.int 7), .val (.ref b101), .val (.ref b304), .unset, .unset, .unset, .unset] [(.int 1)])
                        show Go p.tables e below _ T335 (mkF m 232 #[.val (.int p1), .val (.long p2), .second, .val (.long p3), .second, .val (.long p4), .second, .val (.int 7), .val (.ref b101), .val (.ref b304), .unset, .unset, .unset, .unset] [(.int 1)])
                        refine g_if_n B W335 at_232 (XT.i0_eq_f (by decide)) ?_
                        show Go p.tables e below _ T335 (mkF m 235 #[.val (.int p1), .val (.long p2), .second, .val (.long p3), .second, .val (.long p4), .second, .val (.int 7), .val (.ref b101), .val (.ref b304), .unset, .unset, .unset, .unset] [])
                        refine g_iconst B W335 at_235 (v := 1) (by decide) ?_
                        refine g_goto B W335 at_236 (pc' := 240) (by decide) ?_
                        show Go p.tables e below _ T335 (mkF m 240 #[.val (.int p1), .val (.long p2), .second, .val (.long p3), .second, .val (.long p4), .second, .val (.int 7), .val (.ref b101), .val (.ref b304), .unset, .unset, .unset, .unset] [(.int 1)])
                        exact own_gc (by rw [show pg 7 F8 = true from (pg_eq (n := 6) (by decide) (by rw [eF8_0]; exact hc321) (by rw [eF8_6]; exact hc322)).trans (show ((okB F8 1 && (okB F8 2 && (okB F8 3 && (okB F8 4 && (okB F8 5 && (okB F8 6 && true))))))) = true by simp [hc324, hc326, hc328, hc330, hc332, hc334])]; rfl) (q318 _ W335)
                      · skip
                        refine g_if_y B W333 at_220 (XT.i0_eq_t (bi_f (Bool.eq_false_iff.mpr hc334))) (pc' := 239) (by decide) ?_
                        show Go p.tables e below _ T333 (mkF m 239 #[.val (.int p1), .val (.long p2), .second, .val (.long p3), .second, .val (.long p4), .second, .val (.int 7), .val (.ref b101), .val (.ref b304), .unset, .unset, .unset, .unset] [])
                        refine g_iconst B W333 at_239 (v := 0) (by decide) ?_
                        exact own_gc (by rw [show pg 7 F8 = false from (pg_eq (n := 6) (by decide) (by rw [eF8_0]; exact hc321) (by rw [eF8_6]; exact hc322)).trans (show ((okB F8 1 && (okB F8 2 && (okB F8 3 && (okB F8 4 && (okB F8 5 && (okB F8 6 && true))))))) = false by simp [hc324, hc326, hc328, hc330, hc332, hc334])]; rfl) (q318 _ W333)
                    · skip
                      refine g_if_y B W331 at_208 (XT.i0_eq_t (bi_f (Bool.eq_false_iff.mpr hc332))) (pc' := 239) (by decide) ?_
                      show Go p.tables e below _ T331 (mkF m 239 #[.val (.int p1), .val (.long p2), .second, .val (.long p3), .second, .val (.long p4), .second, .val (.int 7), .val (.ref b101), .val (.ref b304), .unset, .unset, .unset, .unset] [])
                      refine g_iconst B W331 at_239 (v := 0) (by decide) ?_
                      exact own_gc (by rw [show pg 7 F8 = false from (pg_eq (n := 6) (by decide) (by rw [eF8_0]; exact hc321) (by rw [eF8_6]; exact hc322)).trans (show ((okB F8 1 && (okB F8 2 && (okB F8 3 && (okB F8 4 && (okB F8 5 && (okB F8 6 && true))))))) = false by simp [hc324, hc326, hc328, hc330, hc332])]; rfl) (q318 _ W331)
                  · skip
                    refine g_if_y B W329 at_197 (XT.i0_eq_t (bi_f (Bool.eq_false_iff.mpr hc330))) (pc' := 239) (by decide) ?_
                    show Go p.tables e below _ T329 (mkF m 239 #[.val (.int p1), .val (.long p2), .second, .val (.long p3), .second, .val (.long p4), .second, .val (.int 7), .val (.ref b101), .val (.ref b304), .unset, .unset, .unset, .unset] [])
                    refine g_iconst B W329 at_239 (v := 0) (by decide) ?_
                    exact own_gc (by rw [show pg 7 F8 = false from (pg_eq (n := 6) (by decide) (by rw [eF8_0]; exact hc321) (by rw [eF8_6]; exact hc322)).trans (show ((okB F8 1 && (okB F8 2 && (okB F8 3 && (okB F8 4 && (okB F8 5 && (okB F8 6 && true))))))) = false by simp [hc324, hc326, hc328, hc330])]; rfl) (q318 _ W329)
                · skip
                  refine g_if_y B W327 at_186 (XT.i0_eq_t (bi_f (Bool.eq_false_iff.mpr hc328))) (pc' := 239) (by decide) ?_
                  show Go p.tables e below _ T327 (mkF m 239 #[.val (.int p1), .val (.long p2), .second, .val (.long p3), .second, .val (.long p4), .second, .val (.int 7), .val (.ref b101), .val (.ref b304), .unset, .unset, .unset, .unset] [])
                  refine g_iconst B W327 at_239 (v := 0) (by decide) ?_
                  exact own_gc (by rw [show pg 7 F8 = false from (pg_eq (n := 6) (by decide) (by rw [eF8_0]; exact hc321) (by rw [eF8_6]; exact hc322)).trans (show ((okB F8 1 && (okB F8 2 && (okB F8 3 && (okB F8 4 && (okB F8 5 && (okB F8 6 && true))))))) = false by simp [hc324, hc326, hc328])]; rfl) (q318 _ W327)
              · skip
                refine g_if_y B W325 at_175 (XT.i0_eq_t (bi_f (Bool.eq_false_iff.mpr hc326))) (pc' := 239) (by decide) ?_
                show Go p.tables e below _ T325 (mkF m 239 #[.val (.int p1), .val (.long p2), .second, .val (.long p3), .second, .val (.long p4), .second, .val (.int 7), .val (.ref b101), .val (.ref b304), .unset, .unset, .unset, .unset] [])
                refine g_iconst B W325 at_239 (v := 0) (by decide) ?_
                exact own_gc (by rw [show pg 7 F8 = false from (pg_eq (n := 6) (by decide) (by rw [eF8_0]; exact hc321) (by rw [eF8_6]; exact hc322)).trans (show ((okB F8 1 && (okB F8 2 && (okB F8 3 && (okB F8 4 && (okB F8 5 && (okB F8 6 && true))))))) = false by simp [hc324, hc326])]; rfl) (q318 _ W325)
            · skip
              refine g_if_y B W323 at_164 (XT.i0_eq_t (bi_f (Bool.eq_false_iff.mpr hc324))) (pc' := 239) (by decide) ?_
              show Go p.tables e below _ T323 (mkF m 239 #[.val (.int p1), .val (.long p2), .second, .val (.long p3), .second, .val (.long p4), .second, .val (.int 7), .val (.ref b101), .val (.ref b304), .unset, .unset, .unset, .unset] [])
              refine g_iconst B W323 at_239 (v := 0) (by decide) ?_
              exact own_gc (by rw [show pg 7 F8 = false from (pg_eq (n := 6) (by decide) (by rw [eF8_0]; exact hc321) (by rw [eF8_6]; exact hc322)).trans (show ((okB F8 1 && (okB F8 2 && (okB F8 3 && (okB F8 4 && (okB F8 5 && (okB F8 6 && true))))))) = false by simp [hc324])]; rfl) (q318 _ W323)
          · skip
            refine g_icmp_y B W316 at_153 (XT.ii_ne_t hc322) (pc' := 239) (by decide) ?_
            show Go p.tables e below _ T316 (mkF m 239 #[.val (.int p1), .val (.long p2), .second, .val (.long p3), .second, .val (.long p4), .second, .val (.int 7), .val (.ref b101), .val (.ref b304), .unset, .unset, .unset, .unset] [])
            refine g_iconst B W316 at_239 (v := 0) (by decide) ?_
            exact own_gc (by rw [show pg 7 F8 = false from pg_fn (by rw [eF8_6]; exact hc322)]; rfl) (q318 _ W316)
        · skip
          refine g_icmp_y B W316 at_141 (XT.ii_ne_t hc321) (pc' := 239) (by decide) ?_
          show Go p.tables e below _ T316 (mkF m 239 #[.val (.int p1), .val (.long p2), .second, .val (.long p3), .second, .val (.long p4), .second, .val (.int 7), .val (.ref b101), .val (.ref b304), .unset, .unset, .unset, .unset] [])
          refine g_iconst B W316 at_239 (v := 0) (by decide) ?_
          exact own_gc (by rw [show pg 7 F8 = false from pg_f0 (by rw [eF8_0]; exact hc321)]; rfl) (q318 _ W316)
      intro T318 W318
      refine g_istore B W318 at_240  (l' := #[.val (.int p1), .val (.long p2), .second, .val (.long p3), .second, .val (.long p4), .second, .val (.int 7), .val (.ref b101), .val (.ref b304), .val (.int (bi (pg 7 F8))), .unset, .unset, .unset]) rfl ?_
      exact qj _ _ b304 7 (Wk.sub (Wk.more W318 (by decide) (by decide)) (by simp)) S316 (by omega)
    · skip
      show Go p.tables e below _ T125 (mkF m 83 #[.val (.int p1), .val (.long p2), .second, .val (.long p3), .second, .val (.long p4), .second, .val (.int 8), .val (.ref b101), .unset, .unset, .unset, .unset, .unset] [])
      obtain ⟨T336, h336, b336, gb336, W336, K336, E336, D336, st336⟩ := x_new B W125 at_83 (tw hw 7 rfl) (tw hw 8 rfl) (tw hw 9 rfl) (by decide) (by decide) #[.val (.int p1), .val (.long p2), .second, .val (.long p3), .second, .val (.long p4), .second, .val (.int 8), .val (.ref b101), .unset, .unset, .unset, .unset, .unset] []
      have l336 := nlt E336.lt
      have z336 := W125.size
      refine st336 _ ?_
      have s337 := K336.1
      have f338 : Fld Z h336 b336 "java/lang/String" "value" "[B" .null := D336 (Or.inr (tw hw 25 rfl)) (ty := (.array .byte)) (by decide)
      have f339 : Fld Z h336 b336 "java/lang/String" "coder" "B" (.int 0) := D336 (Or.inr (tw hw 26 rfl)) (ty := .byte) (by decide)
      refine g_dup B W336 at_86 rfl ?_
      refine g_aload B W336 at_87 rfl rfl ?_
      refine g_iload B W336 at_89 rfl ?_
      have zs340 := W336.size
      have f341 := (A125.keep K336 nin0)
      obtain ⟨T342, h342, v342, W342, Q342, st342⟩ := x_static B W336 [(.ref b101), (.int 8)] (c_pre8 l Z a0 hw b101 cA101 x103 x106 x109 x112 x115 x118 x121 x124 h336 f341 nx103 nx106 nx109 nx112 nx115 nx118 nx121 nx124) (by simp) at_91 (tw hw 10 rfl) (tw hw 11 rfl) (tw hw 3 rfl) (tw hw 12 rfl) (by decide) (lenOf pd___CI__C rfl) #[.val (.int p1), .val (.long p2), .second, .val (.long p3), .second, .val (.long p4), .second, .val (.int 8), .val (.ref b101), .unset, .unset, .unset, .unset, .unset] [(.ref b336), (.ref b336)] rfl 2 rfl (by decide) (by decide) (by decide) (by decide)
      obtain ⟨b342, kB342, rfl, g342, K342, A342⟩ := Q342
      have s343 := K342.1
      refine st342 _ ?_
      have l342 := nlt A342.lt
      have z342 := W342.size
      have A344 : Arv Z h342 b342 kB342 .char (Int32.ofNat 8) (arl 8 F8) (.int 0) := by rw [show arl 8 F8 = [.int x103, .int x106, .int x109, .int x112, .int x115, .int x118, .int x121, .int x124] by rw [eF8]; rfl]; exact A342
      have f345 := (E336.keep K342)
      have f346 := (f338.keep K342 nin0)
      have f347 := (f339.keep K342 nin0)
      obtain ⟨T348, h348, v348, W348, Q348, st348⟩ := x_special B W342 (b := b336) [(.ref b342)] (c_sI1w l Z a0 hw b336 b342 kB342 8 F8 cz h342 Scs hcz Sad Shi Slo f345 f346 f347 (by omega) A344 (by intro j hj; obtain rfl | rfl | rfl | rfl | rfl | rfl | rfl | rfl : j = 0 ∨ j = 1 ∨ j = 2 ∨ j = 3 ∨ j = 4 ∨ j = 5 ∨ j = 6 ∨ j = 7 := (by omega); (· exact (by rw [eF8_0]; exact (own_rn rx103))); (· exact (by rw [eF8_1]; exact (own_rn rx106))); (· exact (by rw [eF8_2]; exact (own_rn rx109))); (· exact (by rw [eF8_3]; exact (own_rn rx112))); (· exact (by rw [eF8_4]; exact (own_rn rx115))); (· exact (by rw [eF8_5]; exact (own_rn rx118))); (· exact (by rw [eF8_6]; exact (own_rn rx121))); (· exact (by rw [eF8_7]; exact (own_rn rx124)))) (by omega) (by omega)) (by simp) at_94 rfl (tw hw 13 rfl) (tw hw 14 rfl) (tw hw 9 rfl) (tw hw 15 rfl) (by decide) (lenOf pd___C_V rfl) #[.val (.int p1), .val (.long p2), .second, .val (.long p3), .second, .val (.long p4), .second, .val (.int 8), .val (.ref b101), .unset, .unset, .unset, .unset, .unset] [(.ref b336)] rfl 1 rfl (by decide) (by decide) (by decide) (by decide)
      obtain ⟨rfl, K348, S348⟩ := Q348
      have s349 := K348.1
      refine st348 _ ?_
      have E348 := S348.exa
      refine g_astore B W348 at_97 rfl (l' := #[.val (.int p1), .val (.long p2), .second, .val (.long p3), .second, .val (.long p4), .second, .val (.int 8), .val (.ref b101), .val (.ref b336), .unset, .unset, .unset, .unset]) rfl ?_
      refine g_iload B W348 at_99 rfl ?_
      refine g_if_y B W348 at_101 (XT.i0_ne_t (by decide)) (pc' := 110) (by decide) ?_
      show Go p.tables e below _ T348 (mkF m 110 #[.val (.int p1), .val (.long p2), .second, .val (.long p3), .second, .val (.long p4), .second, .val (.int 8), .val (.ref b101), .val (.ref b336), .unset, .unset, .unset, .unset] [])
      refine g_iload B W348 at_110 rfl ?_
      refine g_iconst B W348 at_112 (v := 1) (by decide) ?_
      refine g_icmp_y B W348 at_113 (XT.ii_ne_t (by decide)) (pc' := 135) (by decide) ?_
      show Go p.tables e below _ T348 (mkF m 135 #[.val (.int p1), .val (.long p2), .second, .val (.long p3), .second, .val (.long p4), .second, .val (.int 8), .val (.ref b101), .val (.ref b336), .unset, .unset, .unset, .unset] [])
      suffices q350 : ∀ T' : State, Wk p l e room_1 s m #[(.int p1), (.long p2), (.long p3), (.long p4)] below meth c Z T' h348 5 44 [b336, b101] → Go p.tables e below (Jvm.OwnK.Out Z s (Q_law Z p1 p2 p3 p4 cz sf h0) room_1.cells room_1.slots) T' (mkF m 240 #[.val (.int p1), .val (.long p2), .second, .val (.long p3), .second, .val (.long p4), .second, .val (.int 8), .val (.ref b101), .val (.ref b336), .unset, .unset, .unset, .unset] [(.int (bi (pg 8 F8)))]) by
        refine g_aload B W348 at_135 rfl rfl ?_
        refine g_iconst B W348 at_137 (v := 0) (by decide) ?_
        have f351 := (f341.keep K342 nin0)
        have f352 := (f351.keep K348 (ninS (nne (by have q := nlt f351.lt; omega)) nin0))
        refine g_caload B W348 at_138 f352 (by decide) (show List.getD ([(.int x103), (.int x106), (.int x109), (.int x112), (.int x115), (.int x118), (.int x121), (.int x124)] : List Value) _ _ = (.int x103) from rfl) ?_
        refine g_bipush B W348 at_139 (v := 47) (by decide) ?_
        by_cases hc353 : x103 = 47
        · skip
          refine g_icmp_n B W348 at_141 (XT.ii_ne_f hc353) ?_
          show Go p.tables e below _ T348 (mkF m 144 #[.val (.int p1), .val (.long p2), .second, .val (.long p3), .second, .val (.long p4), .second, .val (.int 8), .val (.ref b101), .val (.ref b336), .unset, .unset, .unset, .unset] [])
          refine g_aload B W348 at_144 rfl rfl ?_
          refine g_iload B W348 at_146 rfl ?_
          refine g_iconst B W348 at_148 (v := 1) (by decide) ?_
          refine g_isub B W348 at_149  ?_
          rw [show (8 - 1 : Int32) = 7 by decide]
          refine g_caload B W348 at_150 f352 (by decide) (show List.getD ([(.int x103), (.int x106), (.int x109), (.int x112), (.int x115), (.int x118), (.int x121), (.int x124)] : List Value) _ _ = (.int x124) from rfl) ?_
          refine g_bipush B W348 at_151 (v := 47) (by decide) ?_
          by_cases hc354 : x124 = 47
          · skip
            refine g_icmp_n B W348 at_153 (XT.ii_ne_f hc354) ?_
            show Go p.tables e below _ T348 (mkF m 156 #[.val (.int p1), .val (.long p2), .second, .val (.long p3), .second, .val (.long p4), .second, .val (.int 8), .val (.ref b101), .val (.ref b336), .unset, .unset, .unset, .unset] [])
            refine g_aload B W348 at_156 rfl rfl ?_
            refine g_iload B W348 at_158 rfl ?_
            refine g_iconst B W348 at_160 (v := 1) (by decide) ?_
            obtain ⟨T355, h355, v355, W355, Q355, st355⟩ := x_static B W348 [(.ref b101), (.int 8), (.int 1)] (c_good l Z a0 hw b101 cA101 F8 8 1 h348 (by rw [show arl 8 F8 = [(.int x103), (.int x106), (.int x109), (.int x112), (.int x115), (.int x118), (.int x121), (.int x124)] by rw [eF8]; rfl]; exact f352) (by decide) (by decide)) (by simp) at_161 (tw hw 110 rfl) (tw hw 111 rfl) (tw hw 3 rfl) (tw hw 112 rfl) (by decide) (lenOf pd___CII_Z rfl) #[.val (.int p1), .val (.long p2), .second, .val (.long p3), .second, .val (.long p4), .second, .val (.int 8), .val (.ref b101), .val (.ref b336), .unset, .unset, .unset, .unset] [] rfl 0 rfl (by decide) (by decide) (by decide) (by decide)
            obtain ⟨rfl, rfl⟩ := Q355
            refine st355 _ ?_
            show Go p.tables e below _ T355 (mkF m 164 #[.val (.int p1), .val (.long p2), .second, .val (.long p3), .second, .val (.long p4), .second, .val (.int 8), .val (.ref b101), .val (.ref b336), .unset, .unset, .unset, .unset] [(.int (bi (okB F8 1)))])
            by_cases hc356 : (okB F8 1) = true
            · skip
              refine g_if_n B W355 at_164 (XT.i0_eq_f (bi_t hc356)) ?_
              show Go p.tables e below _ T355 (mkF m 167 #[.val (.int p1), .val (.long p2), .second, .val (.long p3), .second, .val (.long p4), .second, .val (.int 8), .val (.ref b101), .val (.ref b336), .unset, .unset, .unset, .unset] [])
              refine g_aload B W355 at_167 rfl rfl ?_
              refine g_iload B W355 at_169 rfl ?_
              refine g_iconst B W355 at_171 (v := 2) (by decide) ?_
              obtain ⟨T357, h357, v357, W357, Q357, st357⟩ := x_static B W355 [(.ref b101), (.int 8), (.int 2)] (c_good l Z a0 hw b101 cA101 F8 8 2 h348 (by rw [show arl 8 F8 = [(.int x103), (.int x106), (.int x109), (.int x112), (.int x115), (.int x118), (.int x121), (.int x124)] by rw [eF8]; rfl]; exact f352) (by decide) (by decide)) (by simp) at_172 (tw hw 110 rfl) (tw hw 111 rfl) (tw hw 3 rfl) (tw hw 112 rfl) (by decide) (lenOf pd___CII_Z rfl) #[.val (.int p1), .val (.long p2), .second, .val (.long p3), .second, .val (.long p4), .second, .val (.int 8), .val (.ref b101), .val (.ref b336), .unset, .unset, .unset, .unset] [] rfl 0 rfl (by decide) (by decide) (by decide) (by decide)
              obtain ⟨rfl, rfl⟩ := Q357
              refine st357 _ ?_
              show Go p.tables e below _ T357 (mkF m 175 #[.val (.int p1), .val (.long p2), .second, .val (.long p3), .second, .val (.long p4), .second, .val (.int 8), .val (.ref b101), .val (.ref b336), .unset, .unset, .unset, .unset] [(.int (bi (okB F8 2)))])
              by_cases hc358 : (okB F8 2) = true
              · skip
                refine g_if_n B W357 at_175 (XT.i0_eq_f (bi_t hc358)) ?_
                show Go p.tables e below _ T357 (mkF m 178 #[.val (.int p1), .val (.long p2), .second, .val (.long p3), .second, .val (.long p4), .second, .val (.int 8), .val (.ref b101), .val (.ref b336), .unset, .unset, .unset, .unset] [])
                refine g_aload B W357 at_178 rfl rfl ?_
                refine g_iload B W357 at_180 rfl ?_
                refine g_iconst B W357 at_182 (v := 3) (by decide) ?_
                obtain ⟨T359, h359, v359, W359, Q359, st359⟩ := x_static B W357 [(.ref b101), (.int 8), (.int 3)] (c_good l Z a0 hw b101 cA101 F8 8 3 h348 (by rw [show arl 8 F8 = [(.int x103), (.int x106), (.int x109), (.int x112), (.int x115), (.int x118), (.int x121), (.int x124)] by rw [eF8]; rfl]; exact f352) (by decide) (by decide)) (by simp) at_183 (tw hw 110 rfl) (tw hw 111 rfl) (tw hw 3 rfl) (tw hw 112 rfl) (by decide) (lenOf pd___CII_Z rfl) #[.val (.int p1), .val (.long p2), .second, .val (.long p3), .second, .val (.long p4), .second, .val (.int 8), .val (.ref b101), .val (.ref b336), .unset, .unset, .unset, .unset] [] rfl 0 rfl (by decide) (by decide) (by decide) (by decide)
                obtain ⟨rfl, rfl⟩ := Q359
                refine st359 _ ?_
                show Go p.tables e below _ T359 (mkF m 186 #[.val (.int p1), .val (.long p2), .second, .val (.long p3), .second, .val (.long p4), .second, .val (.int 8), .val (.ref b101), .val (.ref b336), .unset, .unset, .unset, .unset] [(.int (bi (okB F8 3)))])
                by_cases hc360 : (okB F8 3) = true
                · skip
                  refine g_if_n B W359 at_186 (XT.i0_eq_f (bi_t hc360)) ?_
                  show Go p.tables e below _ T359 (mkF m 189 #[.val (.int p1), .val (.long p2), .second, .val (.long p3), .second, .val (.long p4), .second, .val (.int 8), .val (.ref b101), .val (.ref b336), .unset, .unset, .unset, .unset] [])
                  refine g_aload B W359 at_189 rfl rfl ?_
                  refine g_iload B W359 at_191 rfl ?_
                  refine g_iconst B W359 at_193 (v := 4) (by decide) ?_
                  obtain ⟨T361, h361, v361, W361, Q361, st361⟩ := x_static B W359 [(.ref b101), (.int 8), (.int 4)] (c_good l Z a0 hw b101 cA101 F8 8 4 h348 (by rw [show arl 8 F8 = [(.int x103), (.int x106), (.int x109), (.int x112), (.int x115), (.int x118), (.int x121), (.int x124)] by rw [eF8]; rfl]; exact f352) (by decide) (by decide)) (by simp) at_194 (tw hw 110 rfl) (tw hw 111 rfl) (tw hw 3 rfl) (tw hw 112 rfl) (by decide) (lenOf pd___CII_Z rfl) #[.val (.int p1), .val (.long p2), .second, .val (.long p3), .second, .val (.long p4), .second, .val (.int 8), .val (.ref b101), .val (.ref b336), .unset, .unset, .unset, .unset] [] rfl 0 rfl (by decide) (by decide) (by decide) (by decide)
                  obtain ⟨rfl, rfl⟩ := Q361
                  refine st361 _ ?_
                  show Go p.tables e below _ T361 (mkF m 197 #[.val (.int p1), .val (.long p2), .second, .val (.long p3), .second, .val (.long p4), .second, .val (.int 8), .val (.ref b101), .val (.ref b336), .unset, .unset, .unset, .unset] [(.int (bi (okB F8 4)))])
                  by_cases hc362 : (okB F8 4) = true
                  · skip
                    refine g_if_n B W361 at_197 (XT.i0_eq_f (bi_t hc362)) ?_
                    show Go p.tables e below _ T361 (mkF m 200 #[.val (.int p1), .val (.long p2), .second, .val (.long p3), .second, .val (.long p4), .second, .val (.int 8), .val (.ref b101), .val (.ref b336), .unset, .unset, .unset, .unset] [])
                    refine g_aload B W361 at_200 rfl rfl ?_
                    refine g_iload B W361 at_202 rfl ?_
                    refine g_iconst B W361 at_204 (v := 5) (by decide) ?_
                    obtain ⟨T363, h363, v363, W363, Q363, st363⟩ := x_static B W361 [(.ref b101), (.int 8), (.int 5)] (c_good l Z a0 hw b101 cA101 F8 8 5 h348 (by rw [show arl 8 F8 = [(.int x103), (.int x106), (.int x109), (.int x112), (.int x115), (.int x118), (.int x121), (.int x124)] by rw [eF8]; rfl]; exact f352) (by decide) (by decide)) (by simp) at_205 (tw hw 110 rfl) (tw hw 111 rfl) (tw hw 3 rfl) (tw hw 112 rfl) (by decide) (lenOf pd___CII_Z rfl) #[.val (.int p1), .val (.long p2), .second, .val (.long p3), .second, .val (.long p4), .second, .val (.int 8), .val (.ref b101), .val (.ref b336), .unset, .unset, .unset, .unset] [] rfl 0 rfl (by decide) (by decide) (by decide) (by decide)
                    obtain ⟨rfl, rfl⟩ := Q363
                    refine st363 _ ?_
                    show Go p.tables e below _ T363 (mkF m 208 #[.val (.int p1), .val (.long p2), .second, .val (.long p3), .second, .val (.long p4), .second, .val (.int 8), .val (.ref b101), .val (.ref b336), .unset, .unset, .unset, .unset] [(.int (bi (okB F8 5)))])
                    by_cases hc364 : (okB F8 5) = true
                    · skip
                      refine g_if_n B W363 at_208 (XT.i0_eq_f (bi_t hc364)) ?_
                      show Go p.tables e below _ T363 (mkF m 211 #[.val (.int p1), .val (.long p2), .second, .val (.long p3), .second, .val (.long p4), .second, .val (.int 8), .val (.ref b101), .val (.ref b336), .unset, .unset, .unset, .unset] [])
                      refine g_aload B W363 at_211 rfl rfl ?_
                      refine g_iload B W363 at_213 rfl ?_
                      refine g_bipush B W363 at_215 (v := 6) (by decide) ?_
                      obtain ⟨T365, h365, v365, W365, Q365, st365⟩ := x_static B W363 [(.ref b101), (.int 8), (.int 6)] (c_good l Z a0 hw b101 cA101 F8 8 6 h348 (by rw [show arl 8 F8 = [(.int x103), (.int x106), (.int x109), (.int x112), (.int x115), (.int x118), (.int x121), (.int x124)] by rw [eF8]; rfl]; exact f352) (by decide) (by decide)) (by simp) at_217 (tw hw 110 rfl) (tw hw 111 rfl) (tw hw 3 rfl) (tw hw 112 rfl) (by decide) (lenOf pd___CII_Z rfl) #[.val (.int p1), .val (.long p2), .second, .val (.long p3), .second, .val (.long p4), .second, .val (.int 8), .val (.ref b101), .val (.ref b336), .unset, .unset, .unset, .unset] [] rfl 0 rfl (by decide) (by decide) (by decide) (by decide)
                      obtain ⟨rfl, rfl⟩ := Q365
                      refine st365 _ ?_
                      show Go p.tables e below _ T365 (mkF m 220 #[.val (.int p1), .val (.long p2), .second, .val (.long p3), .second, .val (.long p4), .second, .val (.int 8), .val (.ref b101), .val (.ref b336), .unset, .unset, .unset, .unset] [(.int (bi (okB F8 6)))])
                      by_cases hc366 : (okB F8 6) = true
                      · skip
                        refine g_if_n B W365 at_220 (XT.i0_eq_f (bi_t hc366)) ?_
                        show Go p.tables e below _ T365 (mkF m 223 #[.val (.int p1), .val (.long p2), .second, .val (.long p3), .second, .val (.long p4), .second, .val (.int 8), .val (.ref b101), .val (.ref b336), .unset, .unset, .unset, .unset] [])
                        refine g_aload B W365 at_223 rfl rfl ?_
                        refine g_iload B W365 at_225 rfl ?_
                        refine g_bipush B W365 at_227 (v := 7) (by decide) ?_
                        obtain ⟨T367, h367, v367, W367, Q367, st367⟩ := x_static B W365 [(.ref b101), (.int 8), (.int 7)] (c_good l Z a0 hw b101 cA101 F8 8 7 h348 (by rw [show arl 8 F8 = [(.int x103), (.int x106), (.int x109), (.int x112), (.int x115), (.int x118), (.int x121), (.int x124)] by rw [eF8]; rfl]; exact f352) (by decide) (by decide)) (by simp) at_229 (tw hw 110 rfl) (tw hw 111 rfl) (tw hw 3 rfl) (tw hw 112 rfl) (by decide) (lenOf pd___CII_Z rfl) #[.val (.int p1), .val (.long p2), .second, .val (.long p3), .second, .val (.long p4), .second, .val (.int 8), .val (.ref b101), .val (.ref b336), .unset, .unset, .unset, .unset] [] rfl 0 rfl (by decide) (by decide) (by decide) (by decide)
                        obtain ⟨rfl, rfl⟩ := Q367
                        refine st367 _ ?_
                        show Go p.tables e below _ T367 (mkF m 232 #[.val (.int p1), .val (.long p2), .second, .val (.long p3), .second, .val (.long p4), .second, .val (.int 8), .val (.ref b101), .val (.ref b336), .unset, .unset, .unset, .unset] [(.int (bi (okB F8 7)))])
                        by_cases hc368 : (okB F8 7) = true
                        · skip
                          refine g_if_n B W367 at_232 (XT.i0_eq_f (bi_t hc368)) ?_
                          show Go p.tables e below _ T367 (mkF m 235 #[.val (.int p1), .val (.long p2), .second, .val (.long p3), .second, .val (.long p4), .second, .val (.int 8), .val (.ref b101), .val (.ref b336), .unset, .unset, .unset, .unset] [])
                          refine g_iconst B W367 at_235 (v := 1) (by decide) ?_
                          refine g_goto B W367 at_236 (pc' := 240) (by decide) ?_
                          show Go p.tables e below _ T367 (mkF m 240 #[.val (.int p1), .val (.long p2), .second, .val (.long p3), .second, .val (.long p4), .second, .val (.int 8), .val (.ref b101), .val (.ref b336), .unset, .unset, .unset, .unset] [(.int 1)])
                          exact own_gc (by rw [show pg 8 F8 = true from (pg_eq (n := 7) (by decide) (by rw [eF8_0]; exact hc353) (by rw [eF8_7]; exact hc354)).trans (show ((okB F8 1 && (okB F8 2 && (okB F8 3 && (okB F8 4 && (okB F8 5 && (okB F8 6 && (okB F8 7 && true)))))))) = true by simp [hc356, hc358, hc360, hc362, hc364, hc366, hc368])]; rfl) (q350 _ W367)
                        · skip
                          refine g_if_y B W367 at_232 (XT.i0_eq_t (bi_f (Bool.eq_false_iff.mpr hc368))) (pc' := 239) (by decide) ?_
                          show Go p.tables e below _ T367 (mkF m 239 #[.val (.int p1), .val (.long p2), .second, .val (.long p3), .second, .val (.long p4), .second, .val (.int 8), .val (.ref b101), .val (.ref b336), .unset, .unset, .unset, .unset] [])
                          refine g_iconst B W367 at_239 (v := 0) (by decide) ?_
                          exact own_gc (by rw [show pg 8 F8 = false from (pg_eq (n := 7) (by decide) (by rw [eF8_0]; exact hc353) (by rw [eF8_7]; exact hc354)).trans (show ((okB F8 1 && (okB F8 2 && (okB F8 3 && (okB F8 4 && (okB F8 5 && (okB F8 6 && (okB F8 7 && true)))))))) = false by simp [hc356, hc358, hc360, hc362, hc364, hc366, hc368])]; rfl) (q350 _ W367)
                      · skip
                        refine g_if_y B W365 at_220 (XT.i0_eq_t (bi_f (Bool.eq_false_iff.mpr hc366))) (pc' := 239) (by decide) ?_
                        show Go p.tables e below _ T365 (mkF m 239 #[.val (.int p1), .val (.long p2), .second, .val (.long p3), .second, .val (.long p4), .second, .val (.int 8), .val (.ref b101), .val (.ref b336), .unset, .unset, .unset, .unset] [])
                        refine g_iconst B W365 at_239 (v := 0) (by decide) ?_
                        exact own_gc (by rw [show pg 8 F8 = false from (pg_eq (n := 7) (by decide) (by rw [eF8_0]; exact hc353) (by rw [eF8_7]; exact hc354)).trans (show ((okB F8 1 && (okB F8 2 && (okB F8 3 && (okB F8 4 && (okB F8 5 && (okB F8 6 && (okB F8 7 && true)))))))) = false by simp [hc356, hc358, hc360, hc362, hc364, hc366])]; rfl) (q350 _ W365)
                    · skip
                      refine g_if_y B W363 at_208 (XT.i0_eq_t (bi_f (Bool.eq_false_iff.mpr hc364))) (pc' := 239) (by decide) ?_
                      show Go p.tables e below _ T363 (mkF m 239 #[.val (.int p1), .val (.long p2), .second, .val (.long p3), .second, .val (.long p4), .second, .val (.int 8), .val (.ref b101), .val (.ref b336), .unset, .unset, .unset, .unset] [])
                      refine g_iconst B W363 at_239 (v := 0) (by decide) ?_
                      exact own_gc (by rw [show pg 8 F8 = false from (pg_eq (n := 7) (by decide) (by rw [eF8_0]; exact hc353) (by rw [eF8_7]; exact hc354)).trans (show ((okB F8 1 && (okB F8 2 && (okB F8 3 && (okB F8 4 && (okB F8 5 && (okB F8 6 && (okB F8 7 && true)))))))) = false by simp [hc356, hc358, hc360, hc362, hc364])]; rfl) (q350 _ W363)
                  · skip
                    refine g_if_y B W361 at_197 (XT.i0_eq_t (bi_f (Bool.eq_false_iff.mpr hc362))) (pc' := 239) (by decide) ?_
                    show Go p.tables e below _ T361 (mkF m 239 #[.val (.int p1), .val (.long p2), .second, .val (.long p3), .second, .val (.long p4), .second, .val (.int 8), .val (.ref b101), .val (.ref b336), .unset, .unset, .unset, .unset] [])
                    refine g_iconst B W361 at_239 (v := 0) (by decide) ?_
                    exact own_gc (by rw [show pg 8 F8 = false from (pg_eq (n := 7) (by decide) (by rw [eF8_0]; exact hc353) (by rw [eF8_7]; exact hc354)).trans (show ((okB F8 1 && (okB F8 2 && (okB F8 3 && (okB F8 4 && (okB F8 5 && (okB F8 6 && (okB F8 7 && true)))))))) = false by simp [hc356, hc358, hc360, hc362])]; rfl) (q350 _ W361)
                · skip
                  refine g_if_y B W359 at_186 (XT.i0_eq_t (bi_f (Bool.eq_false_iff.mpr hc360))) (pc' := 239) (by decide) ?_
                  show Go p.tables e below _ T359 (mkF m 239 #[.val (.int p1), .val (.long p2), .second, .val (.long p3), .second, .val (.long p4), .second, .val (.int 8), .val (.ref b101), .val (.ref b336), .unset, .unset, .unset, .unset] [])
                  refine g_iconst B W359 at_239 (v := 0) (by decide) ?_
                  exact own_gc (by rw [show pg 8 F8 = false from (pg_eq (n := 7) (by decide) (by rw [eF8_0]; exact hc353) (by rw [eF8_7]; exact hc354)).trans (show ((okB F8 1 && (okB F8 2 && (okB F8 3 && (okB F8 4 && (okB F8 5 && (okB F8 6 && (okB F8 7 && true)))))))) = false by simp [hc356, hc358, hc360])]; rfl) (q350 _ W359)
              · skip
                refine g_if_y B W357 at_175 (XT.i0_eq_t (bi_f (Bool.eq_false_iff.mpr hc358))) (pc' := 239) (by decide) ?_
                show Go p.tables e below _ T357 (mkF m 239 #[.val (.int p1), .val (.long p2), .second, .val (.long p3), .second, .val (.long p4), .second, .val (.int 8), .val (.ref b101), .val (.ref b336), .unset, .unset, .unset, .unset] [])
                refine g_iconst B W357 at_239 (v := 0) (by decide) ?_
                exact own_gc (by rw [show pg 8 F8 = false from (pg_eq (n := 7) (by decide) (by rw [eF8_0]; exact hc353) (by rw [eF8_7]; exact hc354)).trans (show ((okB F8 1 && (okB F8 2 && (okB F8 3 && (okB F8 4 && (okB F8 5 && (okB F8 6 && (okB F8 7 && true)))))))) = false by simp [hc356, hc358])]; rfl) (q350 _ W357)
            · skip
              refine g_if_y B W355 at_164 (XT.i0_eq_t (bi_f (Bool.eq_false_iff.mpr hc356))) (pc' := 239) (by decide) ?_
              show Go p.tables e below _ T355 (mkF m 239 #[.val (.int p1), .val (.long p2), .second, .val (.long p3), .second, .val (.long p4), .second, .val (.int 8), .val (.ref b101), .val (.ref b336), .unset, .unset, .unset, .unset] [])
              refine g_iconst B W355 at_239 (v := 0) (by decide) ?_
              exact own_gc (by rw [show pg 8 F8 = false from (pg_eq (n := 7) (by decide) (by rw [eF8_0]; exact hc353) (by rw [eF8_7]; exact hc354)).trans (show ((okB F8 1 && (okB F8 2 && (okB F8 3 && (okB F8 4 && (okB F8 5 && (okB F8 6 && (okB F8 7 && true)))))))) = false by simp [hc356])]; rfl) (q350 _ W355)
          · skip
            refine g_icmp_y B W348 at_153 (XT.ii_ne_t hc354) (pc' := 239) (by decide) ?_
            show Go p.tables e below _ T348 (mkF m 239 #[.val (.int p1), .val (.long p2), .second, .val (.long p3), .second, .val (.long p4), .second, .val (.int 8), .val (.ref b101), .val (.ref b336), .unset, .unset, .unset, .unset] [])
            refine g_iconst B W348 at_239 (v := 0) (by decide) ?_
            exact own_gc (by rw [show pg 8 F8 = false from pg_fn (by rw [eF8_7]; exact hc354)]; rfl) (q350 _ W348)
        · skip
          refine g_icmp_y B W348 at_141 (XT.ii_ne_t hc353) (pc' := 239) (by decide) ?_
          show Go p.tables e below _ T348 (mkF m 239 #[.val (.int p1), .val (.long p2), .second, .val (.long p3), .second, .val (.long p4), .second, .val (.int 8), .val (.ref b101), .val (.ref b336), .unset, .unset, .unset, .unset] [])
          refine g_iconst B W348 at_239 (v := 0) (by decide) ?_
          exact own_gc (by rw [show pg 8 F8 = false from pg_f0 (by rw [eF8_0]; exact hc353)]; rfl) (q350 _ W348)
      intro T350 W350
      refine g_istore B W350 at_240  (l' := #[.val (.int p1), .val (.long p2), .second, .val (.long p3), .second, .val (.long p4), .second, .val (.int 8), .val (.ref b101), .val (.ref b336), .val (.int (bi (pg 8 F8))), .unset, .unset, .unset]) rfl ?_
      exact qj _ _ b336 8 (Wk.sub (Wk.more W350 (by decide) (by decide)) (by simp)) S348 (by omega)
  intro T369 h369 pb n W369 S369 hn8
  show Go p.tables e below _ T369 (mkF m 242 #[.val (.int p1), .val (.long p2), .second, .val (.long p3), .second, .val (.long p4), .second, .val (.int (Int32.ofNat n)), .val (.ref b101), .val (.ref pb), .val (.int (bi (pg n F8))), .unset, .unset, .unset] [])
  refine g_iload_n B W369 at_242 rfl ?_
  refine g_iconst B W369 at_243 (v := 4) (by decide) ?_
  refine g_iushr B W369 at_244  ?_
  refine g_iconst B W369 at_245 (v := 1) (by decide) ?_
  refine g_iand B W369 at_246  ?_
  by_cases hc370 : ((XT.ushr p1 4) &&& 1) = 0
  · skip
    refine g_if_n B W369 at_247 (XT.i0_ne_f hc370) ?_
    show Go p.tables e below _ T369 (mkF m 250 #[.val (.int p1), .val (.long p2), .second, .val (.long p3), .second, .val (.long p4), .second, .val (.int (Int32.ofNat n)), .val (.ref b101), .val (.ref pb), .val (.int (bi (pg n F8))), .unset, .unset, .unset] [])
    obtain ⟨T371, h371, b371, t371, kc371, W371, K371, E371, Fc371, Fv371, A371, Et371, ne371, st371⟩ := x_ldcT B W369 1076 (vs := (arl 269 fun i => (bgA i).toInt8.toInt32)) (z := 269) at_250 (tw hw 31 rfl) (own_wS hw) (own_EL hw) (by decide) ⟨by decide +kernel, by decide +kernel⟩ (by decide) (by decide +kernel) (by decide +kernel) (by decide) (by decide) (by decide) #[.val (.int p1), .val (.long p2), .second, .val (.long p3), .second, .val (.long p4), .second, .val (.int (Int32.ofNat n)), .val (.ref b101), .val (.ref pb), .val (.int (bi (pg n F8))), .unset, .unset, .unset] []
    have nb371_0 : ¬ @Eq Nat b101 b371 := (ne371 b101 (by simp)).1
    have nt371_0 : ¬ @Eq Nat b101 t371 := (ne371 b101 (by simp)).2
    refine st371 _ ?_
    have s372 := K371.1
    refine g_astore B W371 at_252 rfl (l' := #[.val (.int p1), .val (.long p2), .second, .val (.long p3), .second, .val (.long p4), .second, .val (.int (Int32.ofNat n)), .val (.ref b101), .val (.ref pb), .val (.int (bi (pg n F8))), .val (.ref b371), .unset, .unset]) rfl ?_
    refine g_goto B W371 at_254 (pc' := 261) (by decide) ?_
    show Go p.tables e below _ T371 (mkF m 261 #[.val (.int p1), .val (.long p2), .second, .val (.long p3), .second, .val (.long p4), .second, .val (.int (Int32.ofNat n)), .val (.ref b101), .val (.ref pb), .val (.int (bi (pg n F8))), .val (.ref b371), .unset, .unset] [])
    have G373 : StrC Z h371 b371 269 bgA := ⟨t371, kc371, E371, Fv371, Or.inl ⟨Fc371, fun i hi => (own_rbgA i hi).2, A371⟩, fun i hi => ⟨(own_rbgA i hi).1, own_255 (own_rbgA i hi).2⟩, by omega⟩
    refine g_aload B W371 at_261 rfl rfl ?_
    obtain ⟨T374, h374, v374, W374, Q374, st374⟩ := x_virtual B W371 (b := b371) [] (c_lenC l Z a0 hw b371 269 bgA cz h371 Scs hcz G373) (by simp) E371 at_263 (tw hw 32 rfl) (tw hw 33 rfl) (tw hw 35 rfl) (tw hw 34 rfl) (tw hw 9 rfl) (tw hw 36 rfl) (by decide) (lenOf pd___I rfl) #[.val (.int p1), .val (.long p2), .second, .val (.long p3), .second, .val (.long p4), .second, .val (.int (Int32.ofNat n)), .val (.ref b101), .val (.ref pb), .val (.int (bi (pg n F8))), .val (.ref b371), .unset, .unset] [] rfl 0 rfl (by decide) (by decide) (by decide) (by decide)
    obtain ⟨rfl, rfl⟩ := Q374
    refine st374 _ ?_
    show Go p.tables e below _ T374 (mkF m 266 #[.val (.int p1), .val (.long p2), .second, .val (.long p3), .second, .val (.long p4), .second, .val (.int (Int32.ofNat n)), .val (.ref b101), .val (.ref pb), .val (.int (bi (pg n F8))), .val (.ref b371), .unset, .unset] [(.int 269)])
    refine g_iconst B W374 at_266 (v := 4) (by decide) ?_
    refine g_isub B W374 at_267  ?_
    rw [show (269 - 4 : Int32) = 265 by decide]
    refine g_istore B W374 at_268  (l' := #[.val (.int p1), .val (.long p2), .second, .val (.long p3), .second, .val (.long p4), .second, .val (.int (Int32.ofNat n)), .val (.ref b101), .val (.ref pb), .val (.int (bi (pg n F8))), .val (.ref b371), .val (.int 265), .unset]) rfl ?_
    refine g_iload B W374 at_270 rfl ?_
    refine g_iconst B W374 at_272 (v := 1) (by decide) ?_
    refine g_icmp_n B W374 at_273 (XT.ii_lt_f (by decide)) ?_
    show Go p.tables e below _ T374 (mkF m 276 #[.val (.int p1), .val (.long p2), .second, .val (.long p3), .second, .val (.long p4), .second, .val (.int (Int32.ofNat n)), .val (.ref b101), .val (.ref pb), .val (.int (bi (pg n F8))), .val (.ref b371), .val (.int 265), .unset] [])
    refine g_iload B W374 at_276 rfl ?_
    refine g_sipush B W374 at_278 (v := 255) (by decide) ?_
    refine g_icmp_y B W374 at_281 (XT.ii_gt_t (by decide)) (pc' := 288) (by decide) ?_
    show Go p.tables e below _ T374 (mkF m 288 #[.val (.int p1), .val (.long p2), .second, .val (.long p3), .second, .val (.long p4), .second, .val (.int (Int32.ofNat n)), .val (.ref b101), .val (.ref pb), .val (.int (bi (pg n F8))), .val (.ref b371), .val (.int 265), .unset] [])
    refine g_iconst B W374 at_288 (v := 0) (by decide) ?_
    refine g_istore B W374 at_289  (l' := #[.val (.int p1), .val (.long p2), .second, .val (.long p3), .second, .val (.long p4), .second, .val (.int (Int32.ofNat n)), .val (.ref b101), .val (.ref pb), .val (.int (bi (pg n F8))), .val (.ref b371), .val (.int 265), .val (.int 0)]) rfl ?_
    refine g_aload B W374 at_291 rfl rfl ?_
    have f375 := S369.keep ((Keep.refl h369 []).trans K371 all0)
    obtain ⟨T376, h376, v376, W376, Q376, st376⟩ := x_static B W374 [(.ref pb)] (c_ipp l Z a0 hw pb n F8 cz sf h371 Scs hcz Ssf rsf Sad Shi Slo f375 (by omega)) (by simp) at_293 (tw hw 43 rfl) (tw hw 44 rfl) (tw hw 45 rfl) (tw hw 46 rfl) (by decide) (lenOf pd__Ljava_lang_String__Z rfl) #[.val (.int p1), .val (.long p2), .second, .val (.long p3), .second, .val (.long p4), .second, .val (.int (Int32.ofNat n)), .val (.ref b101), .val (.ref pb), .val (.int (bi (pg n F8))), .val (.ref b371), .val (.int 265), .val (.int 0)] [] rfl 0 rfl (by decide) (by decide) (by decide) (by decide)
    obtain ⟨rfl, rfl⟩ := Q376
    refine st376 _ ?_
    refine g_iload B W376 at_296 rfl ?_
    refine g_icmp_n B W376 at_298 (XT.ii_ne_f rfl) ?_
    show Go p.tables e below _ T376 (mkF m 301 #[.val (.int p1), .val (.long p2), .second, .val (.long p3), .second, .val (.long p4), .second, .val (.int (Int32.ofNat n)), .val (.ref b101), .val (.ref pb), .val (.int (bi (pg n F8))), .val (.ref b371), .val (.int 265), .val (.int 0)] [])
    refine g_aload B W376 at_301 rfl rfl ?_
    obtain ⟨T377, h377, v377, W377, Q377, st377⟩ := x_static B W376 [(.ref b371)] (c_ipp l Z a0 hw b371 269 bgA cz sf h371 Scs hcz Ssf rsf Sad Shi Slo G373 (by omega)) (by simp) at_303 (tw hw 43 rfl) (tw hw 44 rfl) (tw hw 45 rfl) (tw hw 46 rfl) (by decide) (lenOf pd__Ljava_lang_String__Z rfl) #[.val (.int p1), .val (.long p2), .second, .val (.long p3), .second, .val (.long p4), .second, .val (.int (Int32.ofNat n)), .val (.ref b101), .val (.ref pb), .val (.int (bi (pg n F8))), .val (.ref b371), .val (.int 265), .val (.int 0)] [] rfl 0 rfl (by decide) (by decide) (by decide) (by decide)
    obtain ⟨rfl, rfl⟩ := Q377
    refine st377 _ ?_
    refine g_iload B W377 at_306 rfl ?_
    refine g_icmp_n B W377 at_308 (XT.ii_ne_f (by rw [own_pbgA]; rfl)) ?_
    show Go p.tables e below _ T377 (mkF m 311 #[.val (.int p1), .val (.long p2), .second, .val (.long p3), .second, .val (.long p4), .second, .val (.int (Int32.ofNat n)), .val (.ref b101), .val (.ref pb), .val (.int (bi (pg n F8))), .val (.ref b371), .val (.int 265), .val (.int 0)] [])
    refine g_iconst B W377 at_311 (v := 1) (by decide) ?_
    refine g_goto B W377 at_312 (pc' := 316) (by decide) ?_
    show Go p.tables e below _ T377 (mkF m 316 #[.val (.int p1), .val (.long p2), .second, .val (.long p3), .second, .val (.long p4), .second, .val (.int (Int32.ofNat n)), .val (.ref b101), .val (.ref pb), .val (.int (bi (pg n F8))), .val (.ref b371), .val (.int 265), .val (.int 0)] [(.int 1)])
    exact r_n B W377 (t := .boolean) rfl (by simp) at_316 (by decide) (by decide) (by show some (Value.int (nar .boolean 1)) = _; rw [nar_b1])
  · skip
    refine g_if_y B W369 at_247 (XT.i0_ne_t hc370) (pc' := 257) (by decide) ?_
    show Go p.tables e below _ T369 (mkF m 257 #[.val (.int p1), .val (.long p2), .second, .val (.long p3), .second, .val (.long p4), .second, .val (.int (Int32.ofNat n)), .val (.ref b101), .val (.ref pb), .val (.int (bi (pg n F8))), .unset, .unset, .unset] [])
    obtain ⟨T378, h378, b378, t378, kc378, W378, K378, E378, Fc378, Fv378, A378, Et378, ne378, st378⟩ := x_ldcT B W369 1080 (vs := (arl 270 fun i => (bgB i).toInt8.toInt32)) (z := 270) at_257 (tw hw 80 rfl) (own_wS hw) (own_EL hw) (by decide) ⟨by decide +kernel, by decide +kernel⟩ (by decide) (by decide +kernel) (by decide +kernel) (by decide) (by decide) (by decide) #[.val (.int p1), .val (.long p2), .second, .val (.long p3), .second, .val (.long p4), .second, .val (.int (Int32.ofNat n)), .val (.ref b101), .val (.ref pb), .val (.int (bi (pg n F8))), .unset, .unset, .unset] []
    have nb378_0 : ¬ @Eq Nat b101 b378 := (ne378 b101 (by simp)).1
    have nt378_0 : ¬ @Eq Nat b101 t378 := (ne378 b101 (by simp)).2
    refine st378 _ ?_
    have s379 := K378.1
    refine g_astore B W378 at_259 rfl (l' := #[.val (.int p1), .val (.long p2), .second, .val (.long p3), .second, .val (.long p4), .second, .val (.int (Int32.ofNat n)), .val (.ref b101), .val (.ref pb), .val (.int (bi (pg n F8))), .val (.ref b378), .unset, .unset]) rfl ?_
    have G380 : StrC Z h378 b378 270 bgB := ⟨t378, kc378, E378, Fv378, Or.inl ⟨Fc378, fun i hi => (own_rbgB i hi).2, A378⟩, fun i hi => ⟨(own_rbgB i hi).1, own_255 (own_rbgB i hi).2⟩, by omega⟩
    refine g_aload B W378 at_261 rfl rfl ?_
    obtain ⟨T381, h381, v381, W381, Q381, st381⟩ := x_virtual B W378 (b := b378) [] (c_lenC l Z a0 hw b378 270 bgB cz h378 Scs hcz G380) (by simp) E378 at_263 (tw hw 32 rfl) (tw hw 33 rfl) (tw hw 35 rfl) (tw hw 34 rfl) (tw hw 9 rfl) (tw hw 36 rfl) (by decide) (lenOf pd___I rfl) #[.val (.int p1), .val (.long p2), .second, .val (.long p3), .second, .val (.long p4), .second, .val (.int (Int32.ofNat n)), .val (.ref b101), .val (.ref pb), .val (.int (bi (pg n F8))), .val (.ref b378), .unset, .unset] [] rfl 0 rfl (by decide) (by decide) (by decide) (by decide)
    obtain ⟨rfl, rfl⟩ := Q381
    refine st381 _ ?_
    show Go p.tables e below _ T381 (mkF m 266 #[.val (.int p1), .val (.long p2), .second, .val (.long p3), .second, .val (.long p4), .second, .val (.int (Int32.ofNat n)), .val (.ref b101), .val (.ref pb), .val (.int (bi (pg n F8))), .val (.ref b378), .unset, .unset] [(.int 270)])
    refine g_iconst B W381 at_266 (v := 4) (by decide) ?_
    refine g_isub B W381 at_267  ?_
    rw [show (270 - 4 : Int32) = 266 by decide]
    refine g_istore B W381 at_268  (l' := #[.val (.int p1), .val (.long p2), .second, .val (.long p3), .second, .val (.long p4), .second, .val (.int (Int32.ofNat n)), .val (.ref b101), .val (.ref pb), .val (.int (bi (pg n F8))), .val (.ref b378), .val (.int 266), .unset]) rfl ?_
    refine g_iload B W381 at_270 rfl ?_
    refine g_iconst B W381 at_272 (v := 1) (by decide) ?_
    refine g_icmp_n B W381 at_273 (XT.ii_lt_f (by decide)) ?_
    show Go p.tables e below _ T381 (mkF m 276 #[.val (.int p1), .val (.long p2), .second, .val (.long p3), .second, .val (.long p4), .second, .val (.int (Int32.ofNat n)), .val (.ref b101), .val (.ref pb), .val (.int (bi (pg n F8))), .val (.ref b378), .val (.int 266), .unset] [])
    refine g_iload B W381 at_276 rfl ?_
    refine g_sipush B W381 at_278 (v := 255) (by decide) ?_
    refine g_icmp_y B W381 at_281 (XT.ii_gt_t (by decide)) (pc' := 288) (by decide) ?_
    show Go p.tables e below _ T381 (mkF m 288 #[.val (.int p1), .val (.long p2), .second, .val (.long p3), .second, .val (.long p4), .second, .val (.int (Int32.ofNat n)), .val (.ref b101), .val (.ref pb), .val (.int (bi (pg n F8))), .val (.ref b378), .val (.int 266), .unset] [])
    refine g_iconst B W381 at_288 (v := 0) (by decide) ?_
    refine g_istore B W381 at_289  (l' := #[.val (.int p1), .val (.long p2), .second, .val (.long p3), .second, .val (.long p4), .second, .val (.int (Int32.ofNat n)), .val (.ref b101), .val (.ref pb), .val (.int (bi (pg n F8))), .val (.ref b378), .val (.int 266), .val (.int 0)]) rfl ?_
    refine g_aload B W381 at_291 rfl rfl ?_
    have f382 := S369.keep ((Keep.refl h369 []).trans K378 all0)
    obtain ⟨T383, h383, v383, W383, Q383, st383⟩ := x_static B W381 [(.ref pb)] (c_ipp l Z a0 hw pb n F8 cz sf h378 Scs hcz Ssf rsf Sad Shi Slo f382 (by omega)) (by simp) at_293 (tw hw 43 rfl) (tw hw 44 rfl) (tw hw 45 rfl) (tw hw 46 rfl) (by decide) (lenOf pd__Ljava_lang_String__Z rfl) #[.val (.int p1), .val (.long p2), .second, .val (.long p3), .second, .val (.long p4), .second, .val (.int (Int32.ofNat n)), .val (.ref b101), .val (.ref pb), .val (.int (bi (pg n F8))), .val (.ref b378), .val (.int 266), .val (.int 0)] [] rfl 0 rfl (by decide) (by decide) (by decide) (by decide)
    obtain ⟨rfl, rfl⟩ := Q383
    refine st383 _ ?_
    refine g_iload B W383 at_296 rfl ?_
    refine g_icmp_n B W383 at_298 (XT.ii_ne_f rfl) ?_
    show Go p.tables e below _ T383 (mkF m 301 #[.val (.int p1), .val (.long p2), .second, .val (.long p3), .second, .val (.long p4), .second, .val (.int (Int32.ofNat n)), .val (.ref b101), .val (.ref pb), .val (.int (bi (pg n F8))), .val (.ref b378), .val (.int 266), .val (.int 0)] [])
    refine g_aload B W383 at_301 rfl rfl ?_
    obtain ⟨T384, h384, v384, W384, Q384, st384⟩ := x_static B W383 [(.ref b378)] (c_ipp l Z a0 hw b378 270 bgB cz sf h378 Scs hcz Ssf rsf Sad Shi Slo G380 (by omega)) (by simp) at_303 (tw hw 43 rfl) (tw hw 44 rfl) (tw hw 45 rfl) (tw hw 46 rfl) (by decide) (lenOf pd__Ljava_lang_String__Z rfl) #[.val (.int p1), .val (.long p2), .second, .val (.long p3), .second, .val (.long p4), .second, .val (.int (Int32.ofNat n)), .val (.ref b101), .val (.ref pb), .val (.int (bi (pg n F8))), .val (.ref b378), .val (.int 266), .val (.int 0)] [] rfl 0 rfl (by decide) (by decide) (by decide) (by decide)
    obtain ⟨rfl, rfl⟩ := Q384
    refine st384 _ ?_
    refine g_iload B W384 at_306 rfl ?_
    refine g_icmp_n B W384 at_308 (XT.ii_ne_f (by rw [own_pbgB]; rfl)) ?_
    show Go p.tables e below _ T384 (mkF m 311 #[.val (.int p1), .val (.long p2), .second, .val (.long p3), .second, .val (.long p4), .second, .val (.int (Int32.ofNat n)), .val (.ref b101), .val (.ref pb), .val (.int (bi (pg n F8))), .val (.ref b378), .val (.int 266), .val (.int 0)] [])
    refine g_iconst B W384 at_311 (v := 1) (by decide) ?_
    refine g_goto B W384 at_312 (pc' := 316) (by decide) ?_
    show Go p.tables e below _ T384 (mkF m 316 #[.val (.int p1), .val (.long p2), .second, .val (.long p3), .second, .val (.long p4), .second, .val (.int (Int32.ofNat n)), .val (.ref b101), .val (.ref pb), .val (.int (bi (pg n F8))), .val (.ref b378), .val (.int 266), .val (.int 0)] [(.int 1)])
    exact r_n B W384 (t := .boolean) rfl (by simp) at_316 (by decide) (by decide) (by show some (Value.int (nar .boolean 1)) = _; rw [nar_b1])
theorem own_ELc : ∀ p ∈ Jvm.OwnK.EL, p ∈ consts_1 := by decide
set_option maxRecDepth 65536 in
set_option maxHeartbeats 40000000 in
theorem comes_1 {Post : Tables → Env → Array Value → State → Outcome → State → Prop} (hpost : ∀ tb e args s v u, (limb_1_1.after args s (.returned v) u = true ∧ limb_1_2.after args s (.returned v) u = true ∧ True) → ReturnedEndW s (.returned v) u (Jvm.fieldLocs frame_1_writes args s ++ Jvm.arrayLocs frame_1_arrays args s ++ Jvm.staticLocs frame_1_statics s) 24 3264 → Post tb e args s (.returned v) u) :
    ArmFor flags0 classFile x code maxLocals ret World_1 tables_1 room_1 Calls_1 rest_1 Pre_1 Post := by
  intro l hfl _ _ p e ha hc hk s m args below hf hA hF happ hP
  obtain ⟨hcalls, hrest, hpre⟩ := hP
  obtain ⟨-, -, -, hnamed, -, -, -, hat⟩ := (Spec.applies_iff hf).mp happ
  obtain ⟨hg, hn⟩ := and_e (Cond.before_iff.mp (show (Jvm.Cond.and given_1 narrow_1).before args s = true from hpre))
  obtain ⟨hcnt, hgs⟩ := and_e hg
  obtain ⟨ha0, hr0⟩ := and_e hgs
  obtain ⟨ha1, hr1⟩ := and_e hr0
  obtain ⟨ha2, hr2⟩ := and_e hr1
  have ha3 := hr2
  obtain ⟨w0, w1, w2, w3, rfl⟩ : ∃ w0 w1 w2 w3 : Value, args = #[w0, w1, w2, w3] := by
    have hs : args.size = 4 := by simpa [Cond.value, given_1] using hcnt
    obtain ⟨L⟩ := args
    match L, hs with
    | [w0, w1, w2, w3], _ => exact ⟨w0, w1, w2, w3, rfl⟩
  have hw := fun d (hd : d ∈ tables_1) => atoms_spec (ws := Jvm.Cond.code x code maxLocals ret :: tables_1) hat d (List.mem_cons_of_mem _ hd)
  obtain ⟨hsets, hown0⟩ := atoms_of _ (rest_1_c_eq ▸ (show rest_1_c.before _ s = true from hrest))
  have hfit : Fit s := fun {y c} hc i hi => by
    obtain ⟨ha, rfl⟩ := Array.getElem?_eq_some_iff.mp hc
    have q := List.all_eq_true.mp ((Array.all_eq_true_iff_forall_mem.mp hF) _ (Array.getElem_mem ha)) i (List.mem_range.mpr hi)
    simpa [Array.getElem?_eq_getElem hi] using q
  obtain ⟨i0, ei0⟩ := is_v ha0
  obtain rfl : w0 = (.int i0) := Option.some.inj ei0
  obtain ⟨i1, ei1⟩ := isL_v ha1
  obtain rfl : w1 = (.long i1) := Option.some.inj ei1
  obtain ⟨i2, ei2⟩ := isL_v ha2
  obtain rfl : w2 = (.long i2) := Option.some.inj ei2
  obtain ⟨i3, ei3⟩ := isL_v ha3
  obtain rfl : w3 = (.long i3) := Option.some.inj ei3
  obtain ⟨cz, ecz⟩ := is_v (Cond.before_iff.mp (hsets _ (List.mem_of_getElem? (i := 1) rfl)))
  have Scs : Sta s s.heap "java/lang/String" "COMPACT_STRINGS" "Z" (.int cz) := Sta.start ecz (Or.inl (hsets _ (List.mem_of_getElem? (i := 0) rfl)))
  have hcz : ¬ (cz = (0 : Int32)) := gotF (Cond.eq_ints ecz (Term.int_eval (0))) (not_v (Cond.before_iff.mp (hsets _ (List.mem_of_getElem? (i := 2) rfl))))
  have hEL : EW s _ Jvm.OwnK.EL := own_EL hw
  have hWd : Wd s := ⟨_, hEL, own_wS hw⟩
  have hCH : CHv s Jvm.OwnK.EL s.vm s.heap := CHv.start hEL (fun p hp => hcalls.1 p (own_ELc p hp)) (hsets _ (List.mem_of_getElem? (i := 2) rfl)) (own_wS hw _ (by simp [Bundle.stringAtoms])) (own_wS hw _ (by simp [Bundle.stringAtoms, Bundle.sN]))
  obtain ⟨sf, esf⟩ : ∃ v : Value, (Jvm.Term.static "jdk/internal/util/Preconditions" "SIOOBE_FORMATTER" "Ljava/util/function/BiFunction;").eval _ s none [] s = some v ∧ v.isRef = true := own_isref (Cond.before_iff.mp (hsets _ (List.mem_of_getElem? (i := 8) rfl)))
  have Ssf : Sta s s.heap "jdk/internal/util/Preconditions" "SIOOBE_FORMATTER" "Ljava/util/function/BiFunction;" sf := Sta.start esf.1 (Or.inl (hsets _ (List.mem_of_getElem? (i := 7) rfl)))
  have rsf := esf.2
  have Sad : Sta s s.heap "java/lang/StringUTF16" "$assertionsDisabled" "Z" (.int 1) := Sta.start (eqv_i (Term.int_eval 1) (Cond.before_iff.mp (hsets _ (List.mem_of_getElem? (i := 12) rfl)))) (Or.inl (hsets _ (List.mem_of_getElem? (i := 11) rfl)))
  have Shi : Sta s s.heap "java/lang/StringUTF16" "HI_BYTE_SHIFT" "I" (.int 0) := Sta.start (eqv_i (Term.int_eval 0) (Cond.before_iff.mp (hsets _ (List.mem_of_getElem? (i := 15) rfl)))) (Or.inl (hsets _ (List.mem_of_getElem? (i := 14) rfl)))
  have Slo : Sta s s.heap "java/lang/StringUTF16" "LO_BYTE_SHIFT" "I" (.int 8) := Sta.start (eqv_i (Term.int_eval 8) (Cond.before_iff.mp (hsets _ (List.mem_of_getElem? (i := 18) rfl)))) (Or.inl (hsets _ (List.mem_of_getElem? (i := 17) rfl)))
  obtain ⟨n, o, h1, h2, h3, v, L, rfl, ⟨hQ, N, -⟩, hch, hq⟩ := c_law l s _ hw tables_1 i0 i1 i2 i3 cz sf s.heap Scs hcz Ssf rsf Sad Shi Slo hWd (Old.start s) p e ha hc hk s m _ below hf ((Spec.applies_iff_loose hf).mp happ).1 ⟨rfl, State.Warmed39.refl s, rfl, hCH, fun _ q => nomatch q⟩ trivial
  obtain rfl := hQ
  exact ⟨n, _, h1, h2, h3, hpost _ _ _ _ _ _ ⟨Cond.after_iff.mpr rfl, Cond.after_iff.mpr (eq_i res_at (Term.int_eval (1)) rfl), trivial⟩ ⟨hq.1, hq.2.1, hq.2.2.1, (hq.2.2.2.sift fun y hy => Or.inr (N y hy)).mono (by decide) (by decide)⟩⟩
theorem main_1_1 : Claimed_1_1 := comes_1 fun _ _ _ _ _ _ h hF => ⟨h.1, hF⟩
theorem main_1_2 : Claimed_1_2 := comes_1 fun _ _ _ _ _ _ h hF => ⟨h.2.1, hF⟩
end Jvm.Pilot.@@N@@
namespace Jvm.Pilot.@@N@@
open Jvm Jvm.ClassFile Sem Op Lib Jvm.Free Jvm.Stand Jvm.Pilot.@@N@@.Jvm.D
/-! MADE BY PROGRAM (witnessworld.py) out of the Statement's table words and the real class files: 21 classes; the members and pool entries that the words name. The judged class is class 1, her method 5. -/
namespace start1
open Jvm.ClassFile
def u (s : String) : CpInfo := .utf8 (stringToUtf16 s)
/-- a pool by its gaps: so many unusable entries, then the entry; so many at the end -/
def gap : Nat → List CpInfo → List CpInfo
  | 0, r => r
  | n + 1, r => .unusable :: gap n r
def poolList (es : List (Nat × CpInfo)) (last : Nat) : List CpInfo := es.foldr (fun e r => gap e.1 (e.2 :: r)) (gap last [])
def pool (es : List (Nat × CpInfo)) (last : Nat) : Array CpInfo := ⟨poolList es last⟩
def fileOf (pool : Array CpInfo) (this : Nat) (attrs : Array Attribute := #[]) (ms : Array MethodInfo := #[]) (fl : Nat := 33) (sup : Nat := 0) (ifs : Array Nat := #[]) (fds : Array FieldInfo := #[]) : ClassFile where
  minorVersion := 0
  majorVersion := 65
  constantPool := pool
  accessFlags := fl
  thisClass := this
  superClass := sup
  interfaces := ifs
  fields := fds
  methods := ms
  attributes := attrs
def plain (name : String) (sup : Option ClassId) : Class where
  name := name
  kind := .ordinary
  loader := none
  accessFlags := 33
  super := sup
  interfaces := #[]
  cf := none
  fields := #[]
  methods := #[]
  instanceTypes := #[]
  staticTypes := #[]
  resolved := #[]
  callSites := []
  init := .initialized
  statics := none
  mirror := none

def pool0 : Array CpInfo := pool [(5, u "<init>"), (0, u "()V"), (1, .class_ 10), (1, u "java/lang/Object")] 113

def k0c0 : Code := { maxStack := 0, maxLocals := 1, code := object_method_1_code, exceptionTable := #[], attributes := #[] }
def k0m0 : Method := { name := "<init>", desc := "()V", sig := { parameters := [], returnType := none }, accessFlags := 1, code := some k0c0 }
/-- java/lang/Object -/
def k0 : Class := { plain "java/lang/Object" none with
  accessFlags := 33
  interfaces := #[]
  cf := some (fileOf pool0 8 #[] #[{ accessFlags := 1, nameIndex := 5, descriptorIndex := 6, attributes := #[] }] 33 0 #[] #[])
  fields := #[]
  methods := #[k0m0]
  instanceTypes := #[]
  staticTypes := #[]
  resolved := Array.replicate 124 none
  statics := none }

def pool1 : Array CpInfo := pool [(2, .class_ 4), (1, u "java/lang/Object"), (0, u "<init>"), (0, u "()V"), (0, .long 65536), (1, .long 65535), (1, .methodref 12 13), (0, .class_ 14), (0, .nameAndType 15 16), (0, u "com/example/presswright/presswright/publishing/PagePathIsPagePathPinLaw"), (0, u "legal"), (0, u "(C)Z"), (0, .methodref 12 18), (0, .nameAndType 19 20), (0, u "draw"), (0, u "(JI)C"), (0, .class_ 22), (0, u "java/lang/String"), (0, .methodref 12 24), (0, .nameAndType 25 26), (0, u "prefix"), (0, u "([CI)[C"), (0, .methodref 21 28), (0, .nameAndType 5 29), (0, u "([C)V"), (0, .methodref 12 31), (0, .nameAndType 32 33), (0, u "good"), (0, u "([CII)Z"), (0, .string 35), (0, u "/a/0123456789012345678901234567890123456789012345678901234567890123456789012345678901234567890123456789012345678901234567890123456789012345678901234567890123456789012345678901234567890123456789012345678901234567890123456789012345678901234567890123456789012345678901234/"), (0, .string 37), (0, u "/01234567890123456789012345678901234567890123456789012345678901234567890123456789012345678901234567890123456789012345678901234567890123456789012345678901234567890123456789012345678901234567890123456789012345678901234567890123456789012345678901234567890123456789012345/a/"), (0, .methodref 21 39), (0, .nameAndType 40 41), (0, u "length"), (0, u "()I"), (0, .methodref 43 44), (0, .class_ 45), (0, .nameAndType 46 47), (0, u "com/example/presswright/presswright/publishing/PagePath"), (0, u "isPagePath"), (0, u "(Ljava/lang/String;)Z"), (3, u "law"), (0, u "(IJJJ)Z")] 4

def k1m0 : Method := { name := "<init>", desc := "()V", sig := { parameters := [], returnType := none }, accessFlags := 1, code := none }
def k1c1 : Code := { maxStack := 4, maxLocals := 5, code := method_2_code, exceptionTable := #[], attributes := #[] }
def k1m1 : Method := { name := "draw", desc := "(JI)C", sig := { parameters := [.long, .int], returnType := some .char }, accessFlags := 10, code := some k1c1 }
def k1c2 : Code := { maxStack := 2, maxLocals := 1, code := method_3_code, exceptionTable := #[], attributes := #[] }
def k1m2 : Method := { name := "legal", desc := "(C)Z", sig := { parameters := [.char], returnType := some .boolean }, accessFlags := 10, code := some k1c2 }
def k1c3 : Code := { maxStack := 3, maxLocals := 4, code := method_4_code, exceptionTable := #[], attributes := #[] }
def k1m3 : Method := { name := "good", desc := "([CII)Z", sig := { parameters := [(.array .char), .int, .int], returnType := some .boolean }, accessFlags := 10, code := some k1c3 }
def k1c4 : Code := { maxStack := 5, maxLocals := 2, code := method_5_code, exceptionTable := #[], attributes := #[] }
def k1m4 : Method := { name := "prefix", desc := "([CI)[C", sig := { parameters := [(.array .char), .int], returnType := some (.array .char) }, accessFlags := 10, code := some k1c4 }
def k1c5 : Code := { maxStack := 6, maxLocals := 14, code := code, exceptionTable := #[], attributes := #[] }
def k1m5 : Method := { name := "law", desc := "(IJJJ)Z", sig := { parameters := [.int, .long, .long, .long], returnType := some .boolean }, accessFlags := 9, code := some k1c5 }
/-- com/example/presswright/presswright/publishing/PagePathIsPagePathPinLaw -/
def k1 : Class := { plain "com/example/presswright/presswright/publishing/PagePathIsPagePathPinLaw" (some 0) with
  accessFlags := 49
  interfaces := #[]
  cf := some (fileOf pool1 12 #[] #[{ accessFlags := 1, nameIndex := 5, descriptorIndex := 6, attributes := #[] }, { accessFlags := 10, nameIndex := 19, descriptorIndex := 20, attributes := #[] }, { accessFlags := 10, nameIndex := 15, descriptorIndex := 16, attributes := #[] }, { accessFlags := 10, nameIndex := 32, descriptorIndex := 33, attributes := #[] }, { accessFlags := 10, nameIndex := 25, descriptorIndex := 26, attributes := #[] }, { accessFlags := 9, nameIndex := 51, descriptorIndex := 52, attributes := #[] }] 49 2 #[] #[])
  fields := #[]
  methods := #[k1m0, k1m1, k1m2, k1m3, k1m4, k1m5]
  instanceTypes := #[]
  staticTypes := #[]
  resolved := Array.replicate 57 none
  statics := none }

def pool2 : Array CpInfo := pool [(1, .class_ 2), (0, u "java/io/Serializable"), (0, .class_ 4), (0, u "java/lang/Object")] 2

/-- java/io/Serializable -/
def k2 : Class := { plain "java/io/Serializable" (some 0) with
  accessFlags := 1537
  interfaces := #[]
  cf := some (fileOf pool2 1 #[] #[] 1537 3 #[] #[])
  fields := #[]
  methods := #[]
  instanceTypes := #[]
  staticTypes := #[]
  resolved := Array.replicate 7 none
  statics := none }

def pool3 : Array CpInfo := pool [(1, .class_ 2), (0, u "java/lang/Comparable"), (0, .class_ 4), (0, u "java/lang/Object")] 7

/-- java/lang/Comparable -/
def k3 : Class := { plain "java/lang/Comparable" (some 0) with
  accessFlags := 1537
  interfaces := #[]
  cf := some (fileOf pool3 1 #[] #[] 1537 3 #[] #[])
  fields := #[]
  methods := #[]
  instanceTypes := #[]
  staticTypes := #[]
  resolved := Array.replicate 12 none
  statics := none }

def pool4 : Array CpInfo := pool [(2, .class_ 4), (1, u "java/lang/CharSequence"), (42, .class_ 48), (0, u "java/lang/CharSequence$1CodePointIterator"), (10, .class_ 60), (0, u "java/lang/CharSequence$1CharIterator"), (5, .class_ 67), (0, u "java/lang/Object")] 63

/-- java/lang/CharSequence -/
def k4 : Class := { plain "java/lang/CharSequence" (some 0) with
  accessFlags := 1537
  interfaces := #[]
  cf := some (fileOf pool4 2 #[.nestMembers #[47, 59]] #[] 1537 66 #[] #[])
  fields := #[]
  methods := #[]
  instanceTypes := #[]
  staticTypes := #[]
  resolved := Array.replicate 131 none
  statics := none }

def pool5 : Array CpInfo := pool [(1, .class_ 2), (0, u "java/lang/constant/Constable"), (0, .class_ 4), (0, u "java/lang/Object")] 6

/-- java/lang/constant/Constable -/
def k5 : Class := { plain "java/lang/constant/Constable" (some 0) with
  accessFlags := 1537
  interfaces := #[]
  cf := some (fileOf pool5 1 #[] #[] 1537 3 #[] #[])
  fields := #[]
  methods := #[]
  instanceTypes := #[]
  staticTypes := #[]
  resolved := Array.replicate 11 none
  statics := none }

def pool6 : Array CpInfo := pool [(1, .class_ 2), (0, u "java/lang/constant/ConstantDesc"), (0, .class_ 4), (0, u "java/lang/Object")] 32

/-- java/lang/constant/ConstantDesc -/
def k6 : Class := { plain "java/lang/constant/ConstantDesc" (some 0) with
  accessFlags := 1537
  interfaces := #[]
  cf := some (fileOf pool6 1 #[] #[] 1537 3 #[] #[])
  fields := #[]
  methods := #[]
  instanceTypes := #[]
  staticTypes := #[]
  resolved := Array.replicate 37 none
  statics := none }

def pool7 : Array CpInfo := pool [(1, .methodref 2 3), (0, .class_ 4), (0, .nameAndType 5 6), (0, u "java/lang/Object"), (0, u "<init>"), (0, u "()V"), (0, .string 8), (0, u ""), (0, .fieldref 10 11), (0, .class_ 12), (0, .nameAndType 13 14), (0, u "java/lang/String"), (0, u "value"), (0, u "[B"), (0, .fieldref 10 16), (0, .nameAndType 17 18), (0, u "coder"), (0, u "B"), (2, u "hash"), (0, u "I"), (2, u "hashIsZero"), (0, u "Z"), (0, .methodref 10 28), (0, .nameAndType 5 29), (0, u "([CIILjava/lang/Void;)V"), (8, .fieldref 10 39), (0, .nameAndType 40 26), (0, u "COMPACT_STRINGS"), (1, .class_ 44), (1, u "java/lang/StringUTF16"), (0, u "compress"), (1, .methodref 42 48), (0, .nameAndType 49 50), (0, u "coderFromArrayLen"), (0, u "([BI)B"), (56, .class_ 109), (1, u "java/lang/StringLatin1"), (32, u "()Z"), (34, .methodref 42 178), (0, .nameAndType 45 179), (0, u "([CII)[B"), (154, u "()I"), (0, .methodref 10 336), (0, .nameAndType 17 337), (0, u "()B"), (25, u "([BI)C"), (27, u "(II)V"), (35, u "(I)C"), (64, .methodref 10 493), (0, .nameAndType 494 142), (0, u "isLatin1"), (0, .methodref 107 496), (0, .nameAndType 497 363), (0, u "charAt"), (0, .methodref 42 496), (2, u "checkIndex"), (5, u "length"), (67, .class_ 576), (0, u "java/lang/CharSequence"), (22, u "CASE_INSENSITIVE_ORDER"), (0, u "Ljava/util/Comparator;"), (409, u "([C)V"), (42, .fieldref 1054 1055), (0, .class_ 1056), (0, .nameAndType 1057 1058), (0, u "jdk/internal/util/Preconditions"), (0, u "SIOOBE_FORMATTER"), (0, u "Ljava/util/function/BiFunction;"), (0, .methodref 1054 1060), (0, .nameAndType 501 1061), (0, u "(IILjava/util/function/BiFunction;)I"), (39, u "serialPersistentFields"), (0, u "[Ljava/io/ObjectStreamField;"), (0, .class_ 1104), (0, u "java/lang/String$CaseInsensitiveComparator"), (1, .class_ 1107), (0, u "java/io/Serializable"), (0, .class_ 1109), (0, u "java/lang/Comparable"), (0, .class_ 1111), (0, u "java/lang/constant/Constable"), (0, .class_ 1113), (0, u "java/lang/constant/ConstantDesc"), (2, u "serialVersionUID"), (0, u "J"), (3, u "REPL"), (0, u "C"), (2, u "LATIN1"), (1, u "UTF16")] 323

def k7m0 : Method := { name := "<init>", desc := "()V", sig := { parameters := [], returnType := none }, accessFlags := 1, code := none }
def k7c1 : Code := { maxStack := 5, maxLocals := 2, code := jdk_42_method_3_code, exceptionTable := #[], attributes := #[] }
def k7m1 : Method := { name := "<init>", desc := "([C)V", sig := { parameters := [(.array .char)], returnType := none }, accessFlags := 1, code := some k7c1 }
def k7c2 : Code := { maxStack := 2, maxLocals := 1, code := jdk_42_method_54_code, exceptionTable := #[], attributes := #[] }
def k7m2 : Method := { name := "length", desc := "()I", sig := { parameters := [], returnType := some .int }, accessFlags := 1, code := some k7c2 }
def k7c3 : Code := { maxStack := 2, maxLocals := 2, code := jdk_42_method_56_code, exceptionTable := #[], attributes := #[] }
def k7m3 : Method := { name := "charAt", desc := "(I)C", sig := { parameters := [.int], returnType := some .char }, accessFlags := 1, code := some k7c3 }
def k7c4 : Code := { maxStack := 4, maxLocals := 6, code := jdk_42_method_149_code, exceptionTable := #[], attributes := #[] }
def k7m4 : Method := { name := "<init>", desc := "([CIILjava/lang/Void;)V", sig := { parameters := [(.array .char), .int, .int, (.object "java/lang/Void")], returnType := none }, accessFlags := 2, code := some k7c4 }
def k7c5 : Code := { maxStack := 1, maxLocals := 1, code := jdk_42_method_152_code, exceptionTable := #[], attributes := #[] }
def k7m5 : Method := { name := "coder", desc := "()B", sig := { parameters := [], returnType := some .byte }, accessFlags := 0, code := some k7c5 }
def k7c6 : Code := { maxStack := 1, maxLocals := 1, code := jdk_42_method_154_code, exceptionTable := #[], attributes := #[] }
def k7m6 : Method := { name := "isLatin1", desc := "()Z", sig := { parameters := [], returnType := some .boolean }, accessFlags := 0, code := some k7c6 }
def k7c7 : Code := { maxStack := 3, maxLocals := 2, code := jdk_42_method_155_code, exceptionTable := #[], attributes := #[] }
def k7m7 : Method := { name := "checkIndex", desc := "(II)V", sig := { parameters := [.int, .int], returnType := none }, accessFlags := 8, code := some k7c7 }
/-- java/lang/String -/
def k7 : Class := { plain "java/lang/String" (some 0) with
  accessFlags := 49
  interfaces := #[2, 3, 4, 5, 6]
  cf := some (fileOf pool7 10 #[.nestMembers #[1103]] #[{ accessFlags := 1, nameIndex := 5, descriptorIndex := 6, attributes := #[] }, { accessFlags := 1, nameIndex := 5, descriptorIndex := 1010, attributes := #[] }, { accessFlags := 1, nameIndex := 507, descriptorIndex := 334, attributes := #[] }, { accessFlags := 1, nameIndex := 497, descriptorIndex := 427, attributes := #[] }, { accessFlags := 2, nameIndex := 5, descriptorIndex := 29, attributes := #[] }, { accessFlags := 0, nameIndex := 17, descriptorIndex := 337, attributes := #[] }, { accessFlags := 0, nameIndex := 494, descriptorIndex := 142, attributes := #[] }, { accessFlags := 8, nameIndex := 501, descriptorIndex := 391, attributes := #[] }] 49 2 #[1106, 1108, 575, 1110, 1112] #[{ accessFlags := 18, nameIndex := 13, descriptorIndex := 14, attributes := #[] }, { accessFlags := 18, nameIndex := 17, descriptorIndex := 18, attributes := #[] }, { accessFlags := 2, nameIndex := 21, descriptorIndex := 22, attributes := #[] }, { accessFlags := 2, nameIndex := 25, descriptorIndex := 26, attributes := #[] }, { accessFlags := 26, nameIndex := 1116, descriptorIndex := 1117, attributes := #[] }, { accessFlags := 24, nameIndex := 40, descriptorIndex := 26, attributes := #[] }, { accessFlags := 26, nameIndex := 1101, descriptorIndex := 1102, attributes := #[] }, { accessFlags := 26, nameIndex := 1121, descriptorIndex := 1122, attributes := #[] }, { accessFlags := 25, nameIndex := 599, descriptorIndex := 600, attributes := #[] }, { accessFlags := 24, nameIndex := 1125, descriptorIndex := 18, attributes := #[] }, { accessFlags := 24, nameIndex := 1127, descriptorIndex := 18, attributes := #[] }])
  fields := #[{ name := "value", type := (.array .byte), accessFlags := 18, slot := 0, constantValue := 0 }, { name := "coder", type := .byte, accessFlags := 18, slot := 1, constantValue := 0 }, { name := "hash", type := .int, accessFlags := 2, slot := 2, constantValue := 0 }, { name := "hashIsZero", type := .boolean, accessFlags := 2, slot := 3, constantValue := 0 }, { name := "serialVersionUID", type := .long, accessFlags := 26, slot := 0, constantValue := 0 }, { name := "COMPACT_STRINGS", type := .boolean, accessFlags := 24, slot := 1, constantValue := 0 }, { name := "serialPersistentFields", type := (.array (.object "java/io/ObjectStreamField")), accessFlags := 26, slot := 2, constantValue := 0 }, { name := "REPL", type := .char, accessFlags := 26, slot := 3, constantValue := 0 }, { name := "CASE_INSENSITIVE_ORDER", type := (.object "java/util/Comparator"), accessFlags := 25, slot := 4, constantValue := 0 }, { name := "LATIN1", type := .byte, accessFlags := 24, slot := 5, constantValue := 0 }, { name := "UTF16", type := .byte, accessFlags := 24, slot := 6, constantValue := 0 }]
  methods := #[k7m0, k7m1, k7m2, k7m3, k7m4, k7m5, k7m6, k7m7]
  instanceTypes := #[(.array .byte), .byte, .int, .boolean]
  staticTypes := #[.long, .boolean, (.array (.object "java/io/ObjectStreamField")), .char, (.object "java/util/Comparator"), .byte, .byte]
  resolved := Array.replicate 1451 none
  statics := some 0 }

def pool8 : Array CpInfo := pool [(2, .class_ 4), (1, u "java/lang/Object"), (0, u "<init>"), (0, u "()V"), (0, .class_ 8), (0, u "java/lang/Record")] 13

def k8m0 : Method := { name := "<init>", desc := "()V", sig := { parameters := [], returnType := none }, accessFlags := 4, code := none }
/-- java/lang/Record -/
def k8 : Class := { plain "java/lang/Record" (some 0) with
  accessFlags := 1057
  interfaces := #[]
  cf := some (fileOf pool8 7 #[] #[{ accessFlags := 4, nameIndex := 5, descriptorIndex := 6, attributes := #[] }] 1057 2 #[] #[])
  fields := #[]
  methods := #[k8m0]
  instanceTypes := #[]
  staticTypes := #[]
  resolved := Array.replicate 22 none
  statics := none }

def pool9 : Array CpInfo := pool [(2, .class_ 4), (1, u "java/lang/Record"), (3, .class_ 10), (1, u "com/example/presswright/presswright/publishing/PagePath"), (0, u "isPagePath"), (0, u "(Ljava/lang/String;)Z"), (11, u "path"), (0, u "Ljava/lang/String;"), (0, .methodref 27 28), (0, .class_ 29), (0, .nameAndType 30 31), (0, u "java/lang/String"), (0, u "length"), (0, u "()I"), (0, .methodref 27 33), (0, .nameAndType 34 35), (0, u "charAt"), (0, u "(I)C"), (20, u "MAX_SEGMENT_LENGTH"), (0, u "I")] 38

def k9c0 : Code := { maxStack := 2, maxLocals := 6, code := prog_11_method_2_code, exceptionTable := #[], attributes := #[] }
def k9m0 : Method := { name := "isPagePath", desc := "(Ljava/lang/String;)Z", sig := { parameters := [(.object "java/lang/String")], returnType := some .boolean }, accessFlags := 8, code := some k9c0 }
/-- com/example/presswright/presswright/publishing/PagePath -/
def k9 : Class := { plain "com/example/presswright/presswright/publishing/PagePath" (some 8) with
  accessFlags := 49
  interfaces := #[]
  cf := some (fileOf pool9 8 #[] #[{ accessFlags := 8, nameIndex := 11, descriptorIndex := 12, attributes := #[] }] 49 2 #[] #[{ accessFlags := 18, nameIndex := 24, descriptorIndex := 25, attributes := #[] }, { accessFlags := 24, nameIndex := 56, descriptorIndex := 57, attributes := #[] }])
  fields := #[{ name := "path", type := (.object "java/lang/String"), accessFlags := 18, slot := 0, constantValue := 0 }, { name := "MAX_SEGMENT_LENGTH", type := .int, accessFlags := 24, slot := 0, constantValue := 0 }]
  methods := #[k9m0]
  instanceTypes := #[(.object "java/lang/String")]
  staticTypes := #[.int]
  resolved := Array.replicate 96 none
  statics := none }

def pool10 : Array CpInfo := pool [(1, .class_ 2), (0, u "java/lang/String"), (1, .class_ 6), (1, u "java/lang/Object"), (0, u "<init>"), (0, u "()V"), (0, .methodref 1 10), (0, .nameAndType 11 12), (0, u "checkIndex"), (0, u "(II)V"), (1, .class_ 16), (1, u "java/lang/StringLatin1"), (36, u "([BI)C"), (67, u "$assertionsDisabled"), (0, u "Z"), (98, .class_ 223), (1, u "java/lang/StringLatin1$LinesSpliterator"), (28, u "charAt"), (137, .class_ 391), (0, u "java/lang/StringLatin1$CharsSpliterator")] 3

def k10m0 : Method := { name := "<init>", desc := "()V", sig := { parameters := [], returnType := none }, accessFlags := 0, code := none }
def k10c1 : Code := { maxStack := 2, maxLocals := 2, code := jdk_43_method_2_code, exceptionTable := #[], attributes := #[] }
def k10m1 : Method := { name := "charAt", desc := "([BI)C", sig := { parameters := [(.array .byte), .int], returnType := some .char }, accessFlags := 9, code := some k10c1 }
/-- java/lang/StringLatin1 -/
def k10 : Class := { plain "java/lang/StringLatin1" (some 0) with
  accessFlags := 48
  interfaces := #[]
  cf := some (fileOf pool10 14 #[.nestMembers #[390, 221]] #[{ accessFlags := 0, nameIndex := 7, descriptorIndex := 8, attributes := #[] }, { accessFlags := 9, nameIndex := 252, descriptorIndex := 53, attributes := #[] }] 48 4 #[] #[{ accessFlags := 4120, nameIndex := 121, descriptorIndex := 122, attributes := #[] }])
  fields := #[{ name := "$assertionsDisabled", type := .boolean, accessFlags := 4120, slot := 0, constantValue := 0 }]
  methods := #[k10m0, k10m1]
  instanceTypes := #[]
  staticTypes := #[.boolean]
  resolved := Array.replicate 395 none
  statics := none }

def pool11 : Array CpInfo := pool [(2, .class_ 4), (1, u "java/lang/Object"), (0, u "<init>"), (0, u "()V"), (17, .class_ 26), (1, u "jdk/internal/util/Preconditions"), (6, u "checkIndex"), (21, .class_ 56), (0, u "jdk/internal/util/Preconditions$4"), (57, .class_ 115), (0, u "jdk/internal/util/Preconditions$1"), (7, u "SIOOBE_FORMATTER"), (0, u "Ljava/util/function/BiFunction;"), (0, .class_ 126), (0, u "jdk/internal/util/Preconditions$2"), (3, u "AIOOBE_FORMATTER"), (0, .class_ 132), (0, u "jdk/internal/util/Preconditions$3"), (3, u "IOOBE_FORMATTER"), (41, u "(IILjava/util/function/BiFunction;)I")] 15

def k11m0 : Method := { name := "<init>", desc := "()V", sig := { parameters := [], returnType := none }, accessFlags := 1, code := none }
def k11c1 : Code := { maxStack := 3, maxLocals := 3, code := jdk_41_method_11_code, exceptionTable := #[], attributes := #[] }
def k11m1 : Method := { name := "checkIndex", desc := "(IILjava/util/function/BiFunction;)I", sig := { parameters := [.int, .int, (.object "java/util/function/BiFunction")], returnType := some .int }, accessFlags := 9, code := some k11c1 }
/-- jdk/internal/util/Preconditions -/
def k11 : Class := { plain "jdk/internal/util/Preconditions" (some 0) with
  accessFlags := 33
  interfaces := #[]
  cf := some (fileOf pool11 24 #[.nestMembers #[55, 131, 125, 114]] #[{ accessFlags := 1, nameIndex := 5, descriptorIndex := 6, attributes := #[] }, { accessFlags := 9, nameIndex := 33, descriptorIndex := 178, attributes := #[] }] 33 2 #[] #[{ accessFlags := 25, nameIndex := 123, descriptorIndex := 124, attributes := #[] }, { accessFlags := 25, nameIndex := 130, descriptorIndex := 124, attributes := #[] }, { accessFlags := 25, nameIndex := 136, descriptorIndex := 124, attributes := #[] }])
  fields := #[{ name := "SIOOBE_FORMATTER", type := (.object "java/util/function/BiFunction"), accessFlags := 25, slot := 0, constantValue := 0 }, { name := "AIOOBE_FORMATTER", type := (.object "java/util/function/BiFunction"), accessFlags := 25, slot := 1, constantValue := 0 }, { name := "IOOBE_FORMATTER", type := (.object "java/util/function/BiFunction"), accessFlags := 25, slot := 2, constantValue := 0 }]
  methods := #[k11m0, k11m1]
  instanceTypes := #[]
  staticTypes := #[(.object "java/util/function/BiFunction"), (.object "java/util/function/BiFunction"), (.object "java/util/function/BiFunction")]
  resolved := Array.replicate 194 none
  statics := some 1 }

def pool12 : Array CpInfo := pool [(3, .class_ 4), (0, u "java/lang/String"), (1, .class_ 8), (1, u "java/lang/Object"), (0, u "<init>"), (0, u "()V"), (0, .methodref 12 13), (0, .class_ 14), (0, .nameAndType 15 16), (0, u "java/lang/StringUTF16"), (0, u "newBytesLength"), (0, u "(I)I"), (3, .integer 1073741823), (23, .fieldref 12 45), (0, .nameAndType 46 47), (0, u "$assertionsDisabled"), (0, u "Z"), (0, .methodref 12 49), (0, .nameAndType 50 51), (0, u "length"), (0, u "([B)I"), (7, .fieldref 12 60), (0, .nameAndType 61 62), (0, u "HI_BYTE_SHIFT"), (0, u "I"), (0, .fieldref 12 64), (0, .nameAndType 65 62), (0, u "LO_BYTE_SHIFT"), (1, .methodref 12 68), (0, .nameAndType 69 70), (0, u "checkIndex"), (0, u "(I[B)V"), (0, .methodref 12 72), (0, .nameAndType 73 74), (0, u "getChar"), (0, u "([BI)C"), (32, .methodref 12 108), (0, .nameAndType 109 110), (0, u "newBytesFor"), (0, u "(I)[B"), (0, .methodref 12 112), (0, .nameAndType 113 114), (0, u "putChar"), (0, u "([BII)V"), (0, .methodref 12 116), (0, .nameAndType 117 118), (0, u "compress"), (0, u "([CI[BII)I"), (0, .methodref 12 120), (0, .nameAndType 121 122), (0, u "toBytes"), (0, u "([CII)[B"), (138, u "coderFromArrayLen"), (0, u "([BI)B"), (106, .class_ 371), (1, u "java/lang/StringUTF16$LinesSpliterator"), (20, u "charAt"), (21, .methodref 3 415), (0, .nameAndType 69 416), (0, u "(II)V"), (13, u "MAX_LENGTH"), (196, .class_ 628), (0, u "java/lang/StringUTF16$CodePointsSpliterator"), (0, .class_ 630), (0, u "java/lang/StringUTF16$CharsSpliterator")] 4

def k12m0 : Method := { name := "<init>", desc := "()V", sig := { parameters := [], returnType := none }, accessFlags := 0, code := none }
def k12c1 : Code := { maxStack := 1, maxLocals := 1, code := jdk_52_method_2_code, exceptionTable := #[], attributes := #[] }
def k12m1 : Method := { name := "newBytesFor", desc := "(I)[B", sig := { parameters := [.int], returnType := some (.array .byte) }, accessFlags := 9, code := some k12c1 }
def k12c2 : Code := { maxStack := 4, maxLocals := 1, code := jdk_52_method_3_code, exceptionTable := #[], attributes := #[] }
def k12m2 : Method := { name := "newBytesLength", desc := "(I)I", sig := { parameters := [.int], returnType := some .int }, accessFlags := 9, code := some k12c2 }
def k12c3 : Code := { maxStack := 4, maxLocals := 3, code := jdk_52_method_4_code, exceptionTable := #[], attributes := #[] }
def k12m3 : Method := { name := "putChar", desc := "([BII)V", sig := { parameters := [(.array .byte), .int, .int], returnType := none }, accessFlags := 8, code := some k12c3 }
def k12c4 : Code := { maxStack := 3, maxLocals := 2, code := jdk_52_method_5_code, exceptionTable := #[], attributes := #[] }
def k12m4 : Method := { name := "getChar", desc := "([BI)C", sig := { parameters := [(.array .byte), .int], returnType := some .char }, accessFlags := 8, code := some k12c4 }
def k12c5 : Code := { maxStack := 2, maxLocals := 1, code := jdk_52_method_6_code, exceptionTable := #[], attributes := #[] }
def k12m5 : Method := { name := "length", desc := "([B)I", sig := { parameters := [(.array .byte)], returnType := some .int }, accessFlags := 9, code := some k12c5 }
def k12c6 : Code := { maxStack := 4, maxLocals := 5, code := jdk_52_method_14_code, exceptionTable := #[], attributes := #[] }
def k12m6 : Method := { name := "toBytes", desc := "([CII)[B", sig := { parameters := [(.array .char), .int, .int], returnType := some (.array .byte) }, accessFlags := 9, code := some k12c6 }
def k12c7 : Code := { maxStack := 2, maxLocals := 2, code := jdk_52_method_15_code, exceptionTable := #[], attributes := #[] }
def k12m7 : Method := { name := "coderFromArrayLen", desc := "([BI)B", sig := { parameters := [(.array .byte), .int], returnType := some .byte }, accessFlags := 8, code := some k12c7 }
def k12c8 : Code := { maxStack := 5, maxLocals := 6, code := jdk_52_method_16_code, exceptionTable := #[], attributes := #[] }
def k12m8 : Method := { name := "compress", desc := "([CII)[B", sig := { parameters := [(.array .char), .int, .int], returnType := some (.array .byte) }, accessFlags := 9, code := some k12c8 }
def k12c9 : Code := { maxStack := 3, maxLocals := 7, code := jdk_52_method_21_code, exceptionTable := #[], attributes := #[] }
def k12m9 : Method := { name := "compress", desc := "([CI[BII)I", sig := { parameters := [(.array .char), .int, (.array .byte), .int, .int], returnType := some .int }, accessFlags := 9, code := some k12c9 }
def k12c10 : Code := { maxStack := 2, maxLocals := 2, code := jdk_52_method_83_code, exceptionTable := #[], attributes := #[] }
def k12m10 : Method := { name := "charAt", desc := "([BI)C", sig := { parameters := [(.array .byte), .int], returnType := some .char }, accessFlags := 9, code := some k12c10 }
def k12c11 : Code := { maxStack := 2, maxLocals := 2, code := jdk_52_method_91_code, exceptionTable := #[], attributes := #[] }
def k12m11 : Method := { name := "checkIndex", desc := "(I[B)V", sig := { parameters := [.int, (.array .byte)], returnType := none }, accessFlags := 9, code := some k12c11 }
/-- java/lang/StringUTF16 -/
def k12 : Class := { plain "java/lang/StringUTF16" (some 0) with
  accessFlags := 48
  interfaces := #[]
  cf := some (fileOf pool12 12 #[.nestMembers #[627, 629, 369]] #[{ accessFlags := 0, nameIndex := 9, descriptorIndex := 10, attributes := #[] }, { accessFlags := 9, nameIndex := 109, descriptorIndex := 110, attributes := #[] }, { accessFlags := 9, nameIndex := 15, descriptorIndex := 16, attributes := #[] }, { accessFlags := 8, nameIndex := 113, descriptorIndex := 114, attributes := #[] }, { accessFlags := 8, nameIndex := 73, descriptorIndex := 74, attributes := #[] }, { accessFlags := 9, nameIndex := 50, descriptorIndex := 51, attributes := #[] }, { accessFlags := 9, nameIndex := 121, descriptorIndex := 122, attributes := #[] }, { accessFlags := 8, nameIndex := 261, descriptorIndex := 262, attributes := #[] }, { accessFlags := 9, nameIndex := 117, descriptorIndex := 122, attributes := #[] }, { accessFlags := 9, nameIndex := 117, descriptorIndex := 118, attributes := #[] }, { accessFlags := 9, nameIndex := 392, descriptorIndex := 74, attributes := #[] }, { accessFlags := 9, nameIndex := 69, descriptorIndex := 70, attributes := #[] }] 48 6 #[] #[{ accessFlags := 26, nameIndex := 61, descriptorIndex := 62, attributes := #[] }, { accessFlags := 26, nameIndex := 65, descriptorIndex := 62, attributes := #[] }, { accessFlags := 24, nameIndex := 430, descriptorIndex := 62, attributes := #[] }, { accessFlags := 4120, nameIndex := 46, descriptorIndex := 47, attributes := #[] }])
  fields := #[{ name := "HI_BYTE_SHIFT", type := .int, accessFlags := 26, slot := 0, constantValue := 0 }, { name := "LO_BYTE_SHIFT", type := .int, accessFlags := 26, slot := 1, constantValue := 0 }, { name := "MAX_LENGTH", type := .int, accessFlags := 24, slot := 2, constantValue := 0 }, { name := "$assertionsDisabled", type := .boolean, accessFlags := 4120, slot := 3, constantValue := 0 }]
  methods := #[k12m0, k12m1, k12m2, k12m3, k12m4, k12m5, k12m6, k12m7, k12m8, k12m9, k12m10, k12m11]
  instanceTypes := #[]
  staticTypes := #[.int, .int, .int, .boolean]
  resolved := Array.replicate 635 none
  statics := some 2 }

def pool13 : Array CpInfo := pool [(9, u "<init>"), (6, .class_ 18), (1, u "java/lang/Object"), (0, u "()V"), (1, .class_ 23), (1, u "jdk/internal/util/ArraysSupport"), (0, u "LOG2_ARRAY_LONG_INDEX_SCALE"), (0, u "I"), (2, u "U"), (0, u "Ljdk/internal/misc/Unsafe;"), (8, u "BIG_ENDIAN"), (0, u "Z"), (8, u "LOG2_BYTE_BIT_SIZE"), (4, u "LOG2_ARRAY_INT_INDEX_SCALE"), (54, u "JLA"), (0, u "Ljdk/internal/access/JavaLangAccess;"), (11, u "LOG2_ARRAY_BOOLEAN_INDEX_SCALE"), (9, u "LOG2_ARRAY_BYTE_INDEX_SCALE"), (5, u "LOG2_ARRAY_CHAR_INDEX_SCALE"), (5, u "LOG2_ARRAY_SHORT_INDEX_SCALE"), (18, u "LOG2_ARRAY_FLOAT_INDEX_SCALE"), (24, u "LOG2_ARRAY_DOUBLE_INDEX_SCALE"), (89, u "T_BOOLEAN"), (2, u "T_CHAR"), (1, u "T_FLOAT"), (1, u "T_DOUBLE"), (1, u "T_BYTE"), (1, u "T_SHORT"), (1, u "T_INT"), (1, u "T_LONG"), (1, u "SOFT_MAX_ARRAY_LENGTH")] 83

def k13m0 : Method := { name := "<init>", desc := "()V", sig := { parameters := [], returnType := none }, accessFlags := 2, code := none }
/-- jdk/internal/util/ArraysSupport -/
def k13 : Class := { plain "jdk/internal/util/ArraysSupport" (some 0) with
  accessFlags := 33
  interfaces := #[]
  cf := some (fileOf pool13 21 #[] #[{ accessFlags := 2, nameIndex := 9, descriptorIndex := 19, attributes := #[] }] 33 16 #[] #[{ accessFlags := 24, nameIndex := 28, descriptorIndex := 29, attributes := #[] }, { accessFlags := 26, nameIndex := 38, descriptorIndex := 39, attributes := #[] }, { accessFlags := 25, nameIndex := 121, descriptorIndex := 25, attributes := #[] }, { accessFlags := 25, nameIndex := 131, descriptorIndex := 25, attributes := #[] }, { accessFlags := 25, nameIndex := 137, descriptorIndex := 25, attributes := #[] }, { accessFlags := 25, nameIndex := 143, descriptorIndex := 25, attributes := #[] }, { accessFlags := 25, nameIndex := 53, descriptorIndex := 25, attributes := #[] }, { accessFlags := 25, nameIndex := 24, descriptorIndex := 25, attributes := #[] }, { accessFlags := 25, nameIndex := 162, descriptorIndex := 25, attributes := #[] }, { accessFlags := 25, nameIndex := 187, descriptorIndex := 25, attributes := #[] }, { accessFlags := 26, nameIndex := 48, descriptorIndex := 25, attributes := #[] }, { accessFlags := 25, nameIndex := 277, descriptorIndex := 25, attributes := #[] }, { accessFlags := 25, nameIndex := 280, descriptorIndex := 25, attributes := #[] }, { accessFlags := 25, nameIndex := 282, descriptorIndex := 25, attributes := #[] }, { accessFlags := 25, nameIndex := 284, descriptorIndex := 25, attributes := #[] }, { accessFlags := 25, nameIndex := 286, descriptorIndex := 25, attributes := #[] }, { accessFlags := 25, nameIndex := 288, descriptorIndex := 25, attributes := #[] }, { accessFlags := 25, nameIndex := 290, descriptorIndex := 25, attributes := #[] }, { accessFlags := 25, nameIndex := 292, descriptorIndex := 25, attributes := #[] }, { accessFlags := 26, nameIndex := 108, descriptorIndex := 109, attributes := #[] }, { accessFlags := 25, nameIndex := 294, descriptorIndex := 25, attributes := #[] }])
  fields := #[{ name := "U", type := (.object "jdk/internal/misc/Unsafe"), accessFlags := 24, slot := 0, constantValue := 0 }, { name := "BIG_ENDIAN", type := .boolean, accessFlags := 26, slot := 1, constantValue := 0 }, { name := "LOG2_ARRAY_BOOLEAN_INDEX_SCALE", type := .int, accessFlags := 25, slot := 2, constantValue := 0 }, { name := "LOG2_ARRAY_BYTE_INDEX_SCALE", type := .int, accessFlags := 25, slot := 3, constantValue := 0 }, { name := "LOG2_ARRAY_CHAR_INDEX_SCALE", type := .int, accessFlags := 25, slot := 4, constantValue := 0 }, { name := "LOG2_ARRAY_SHORT_INDEX_SCALE", type := .int, accessFlags := 25, slot := 5, constantValue := 0 }, { name := "LOG2_ARRAY_INT_INDEX_SCALE", type := .int, accessFlags := 25, slot := 6, constantValue := 0 }, { name := "LOG2_ARRAY_LONG_INDEX_SCALE", type := .int, accessFlags := 25, slot := 7, constantValue := 0 }, { name := "LOG2_ARRAY_FLOAT_INDEX_SCALE", type := .int, accessFlags := 25, slot := 8, constantValue := 0 }, { name := "LOG2_ARRAY_DOUBLE_INDEX_SCALE", type := .int, accessFlags := 25, slot := 9, constantValue := 0 }, { name := "LOG2_BYTE_BIT_SIZE", type := .int, accessFlags := 26, slot := 10, constantValue := 0 }, { name := "T_BOOLEAN", type := .int, accessFlags := 25, slot := 11, constantValue := 0 }, { name := "T_CHAR", type := .int, accessFlags := 25, slot := 12, constantValue := 0 }, { name := "T_FLOAT", type := .int, accessFlags := 25, slot := 13, constantValue := 0 }, { name := "T_DOUBLE", type := .int, accessFlags := 25, slot := 14, constantValue := 0 }, { name := "T_BYTE", type := .int, accessFlags := 25, slot := 15, constantValue := 0 }, { name := "T_SHORT", type := .int, accessFlags := 25, slot := 16, constantValue := 0 }, { name := "T_INT", type := .int, accessFlags := 25, slot := 17, constantValue := 0 }, { name := "T_LONG", type := .int, accessFlags := 25, slot := 18, constantValue := 0 }, { name := "JLA", type := (.object "jdk/internal/access/JavaLangAccess"), accessFlags := 26, slot := 19, constantValue := 0 }, { name := "SOFT_MAX_ARRAY_LENGTH", type := .int, accessFlags := 25, slot := 20, constantValue := 0 }]
  methods := #[k13m0]
  instanceTypes := #[]
  staticTypes := #[(.object "jdk/internal/misc/Unsafe"), .boolean, .int, .int, .int, .int, .int, .int, .int, .int, .int, .int, .int, .int, .int, .int, .int, .int, .int, (.object "jdk/internal/access/JavaLangAccess"), .int]
  resolved := Array.replicate 378 none
  statics := none }

def pool14 : Array CpInfo := pool [(1, u "java/lang/Cloneable"), (0, .class_ 1), (0, u "java/lang/Object"), (0, .class_ 3)] 3

/-- java/lang/Cloneable -/
def k14 : Class := { plain "java/lang/Cloneable" (some 0) with
  accessFlags := 1537
  interfaces := #[]
  cf := some (fileOf pool14 2 #[] #[] 1537 4 #[] #[])
  fields := #[]
  methods := #[]
  instanceTypes := #[]
  staticTypes := #[]
  resolved := Array.replicate 8 none
  statics := none }

/-- the primitive byte -/
def k15 : Class := { plain "byte" none with kind := .primitive 'B', accessFlags := 0x411 }
/-- [B -/
def k16 : Class := { plain "[B" (some 0) with kind := .array 15 .byte, interfaces := #[14, 2], accessFlags := 1041 }

/-- the primitive char -/
def k17 : Class := { plain "char" none with kind := .primitive 'C', accessFlags := 0x411 }
/-- [C -/
def k18 : Class := { plain "[C" (some 0) with kind := .array 17 .char, interfaces := #[14, 2], accessFlags := 1041 }

/-- the primitive int -/
def k19 : Class := { plain "int" none with kind := .primitive 'I', accessFlags := 0x411 }
/-- [I -/
def k20 : Class := { plain "[I" (some 0) with kind := .array 19 .int, interfaces := #[14, 2], accessFlags := 1041 }

def heap : Heap := #[{ cls := 7, slots := #[.long 0, .int 1, .null, .int 0, .null, .int 0, .int 0], vm := .statics 7 },
  { cls := 11, slots := #[.null, .null, .null], vm := .statics 11 },
  { cls := 12, slots := #[.int 0, .int 8, .int 0, .int 1], vm := .statics 12 }]
def classes : Array Class := #[k0, k1, k2, k3, k4, k5, k6, k7, k8, k9, k10, k11, k12, k13, k14, k15, k16, k17, k18, k19, k20]
def interned : List (Array UInt16 × Addr) := []
def slotsUsed : Nat := 14
def theMethod : MethodId := ⟨1, 5⟩
def args0 : Array Value := #[.int 3, .long 65536, .long 5, .long 7]
def aboutOver (below : List Frame) : State where
  vm := { classes := classes, interned := interned.toArray }
  heap := heap
  slotsUsed := slotsUsed
  threads := #[{ frames := .invoking theMethod args0 :: below }]
def below0 : List Frame := [.native { method := ⟨0, 0⟩, args := #[] }]
def about1 : State := aboutOver below0
def p0 : Program := .bare "" "" ""
def e0 : Env := launch0.env 0 0 0
theorem w_frames : about1.frames = Frame.invoking theMethod args0 :: below0 := rfl
set_option maxRecDepth 65536 in
theorem w_args : argsFit about1.vm theMethod args0 = true := by decide +kernel
set_option maxRecDepth 65536 in
theorem w_heap : heapFits about1 = true := by decide +kernel
set_option maxRecDepth 65536 in
theorem w_runnable : about1.curStatus? = some .runnable := by decide +kernel
set_option maxRecDepth 65536 in
theorem w_alone : about1.alone = true := by decide +kernel
set_option maxRecDepth 65536 in
theorem w_named : about1.methodNamed? x = some theMethod := by decide +kernel
set_option maxRecDepth 65536 in
theorem w_hears : about1.hears theMethod below0 = true := by decide +kernel
set_option maxRecDepth 65536 in
theorem w_ripe : about1.ripe theMethod args0 below0 = true := by decide +kernel
theorem w_running : about1.status = .running := rfl
set_option maxRecDepth 65536 in
theorem w_room : about1.hasRoom e0.platform room_1 = true :=
  launch0.hasRoom_least _ room_1 (by decide +kernel) (by decide +kernel) (by decide +kernel) (by decide +kernel) (by decide +kernel) (by decide +kernel)
theorem allAtoms_all (ts : List Jvm.Cond) (a : Array Jvm.Value) (st : Jvm.State) : (allAtoms ts).before a st = ts.all (fun c => c.before a st) := by
  induction ts with
  | nil => rfl
  | cons c t ih =>
    show (Jvm.Cond.and c (allAtoms t)).before a st = _
    rw [Jvm.Cond.before_and, ih, List.all_cons]
def words1 : List Jvm.Cond := Jvm.Cond.code x code maxLocals ret :: tables_1
/-- a 'code' word, met by the world's own term for the bytes: nothing is compared byte by byte -/
theorem code_word {y : MethodName} {bytes : ByteArray} {mx : Nat} {rt : Option FieldType} {a : Array Value} {s : State} {m : MethodId} {meth : Method} {c : Code} (h1 : s.methodNamed? y = some m) (h2 : s.vm.method? m = some meth) (h3 : meth.code = some c) (h4 : c.code = bytes)
    (h5 : (c.maxLocals == mx && c.exceptionTable.isEmpty && decide (c.maxStack ≤ mostOperands) && decide (meth.sig.returnType = rt) && !meth.locks && decide (parseMethodDescriptor y.desc = some meth.sig)) = true) : (Jvm.Cond.code y bytes mx rt).before a s = true := by
  simp only [Bool.and_eq_true, beq_iff_eq, Bool.not_eq_true', decide_eq_true_eq] at h5
  obtain ⟨⟨⟨⟨⟨g1, g2⟩, g3⟩, g4⟩, g5⟩, g6⟩ := h5
  simp [Cond.before, Cond.holds, Cond.value, h1, h2, h3, h4, g1, g2, g3, g4, g5, g6]
def isCode : Jvm.Cond → Bool
  | .code _ _ _ _ => true
  | _ => false
theorem all_split {L : List Jvm.Cond} {P : Jvm.Cond → Bool} (h1 : L.all (fun c => isCode c || P c) = true) (h2 : ∀ c ∈ L.filter isCode, P c = true) : L.all P = true := by
  refine List.all_eq_true.mpr fun c hc => ?_
  have h := List.all_eq_true.mp h1 c hc
  rcases Bool.eq_false_or_eq_true (isCode c) with hi | hi
  · exact h2 c (List.mem_filter.mpr ⟨hc, hi⟩)
  · simpa [hi] using h
set_option maxRecDepth 65536 in
theorem w_c0 : (Jvm.Cond.code x code maxLocals ret).before args0 about1 = true := code_word (m := ⟨1, 5⟩) (meth := k1m5) (c := k1c5) (by decide +kernel) rfl rfl rfl (by decide +kernel)
set_option maxRecDepth 65536 in
theorem w_c1 : (Jvm.Cond.code ({ cls := "com/example/presswright/presswright/publishing/PagePathIsPagePathPinLaw", name := "draw", desc := "(JI)C" } : Jvm.MethodName) method_2_code (5 : Nat) (Option.some Jvm.ClassFile.FieldType.char)).before args0 about1 = true := code_word (m := ⟨1, 1⟩) (meth := k1m1) (c := k1c1) (by decide +kernel) rfl rfl rfl (by decide +kernel)
set_option maxRecDepth 65536 in
theorem w_c2 : (Jvm.Cond.code ({ cls := "com/example/presswright/presswright/publishing/PagePathIsPagePathPinLaw", name := "prefix", desc := "([CI)[C" } : Jvm.MethodName) method_5_code (2 : Nat) (Option.some (Jvm.ClassFile.FieldType.array Jvm.ClassFile.FieldType.char))).before args0 about1 = true := code_word (m := ⟨1, 4⟩) (meth := k1m4) (c := k1c4) (by decide +kernel) rfl rfl rfl (by decide +kernel)
set_option maxRecDepth 65536 in
theorem w_c3 : (Jvm.Cond.code ({ cls := "java/lang/String", name := "<init>", desc := "([C)V" } : Jvm.MethodName) jdk_42_method_3_code (2 : Nat) (Option.none : Option Jvm.ClassFile.FieldType)).before args0 about1 = true := code_word (m := ⟨7, 1⟩) (meth := k7m1) (c := k7c1) (by decide +kernel) rfl rfl rfl (by decide +kernel)
set_option maxRecDepth 65536 in
theorem w_c4 : (Jvm.Cond.code ({ cls := "java/lang/String", name := "<init>", desc := "([CIILjava/lang/Void;)V" } : Jvm.MethodName) jdk_42_method_149_code (6 : Nat) (Option.none : Option Jvm.ClassFile.FieldType)).before args0 about1 = true := code_word (m := ⟨7, 4⟩) (meth := k7m4) (c := k7c4) (by decide +kernel) rfl rfl rfl (by decide +kernel)
set_option maxRecDepth 65536 in
theorem w_c5 : (Jvm.Cond.code ({ cls := "java/lang/Object", name := "<init>", desc := "()V" } : Jvm.MethodName) object_method_1_code (1 : Nat) (Option.none : Option Jvm.ClassFile.FieldType)).before args0 about1 = true := code_word (m := ⟨0, 0⟩) (meth := k0m0) (c := k0c0) (by decide +kernel) rfl rfl rfl (by decide +kernel)
set_option maxRecDepth 65536 in
theorem w_c6 : (Jvm.Cond.code ({ cls := "java/lang/String", name := "length", desc := "()I" } : Jvm.MethodName) jdk_42_method_54_code (1 : Nat) (Option.some Jvm.ClassFile.FieldType.int)).before args0 about1 = true := code_word (m := ⟨7, 2⟩) (meth := k7m2) (c := k7c2) (by decide +kernel) rfl rfl rfl (by decide +kernel)
set_option maxRecDepth 65536 in
theorem w_c7 : (Jvm.Cond.code ({ cls := "java/lang/String", name := "coder", desc := "()B" } : Jvm.MethodName) jdk_42_method_152_code (1 : Nat) (Option.some Jvm.ClassFile.FieldType.byte)).before args0 about1 = true := code_word (m := ⟨7, 5⟩) (meth := k7m5) (c := k7c5) (by decide +kernel) rfl rfl rfl (by decide +kernel)
set_option maxRecDepth 65536 in
theorem w_c8 : (Jvm.Cond.code ({ cls := "com/example/presswright/presswright/publishing/PagePath", name := "isPagePath", desc := "(Ljava/lang/String;)Z" } : Jvm.MethodName) prog_11_method_2_code (6 : Nat) (Option.some Jvm.ClassFile.FieldType.boolean)).before args0 about1 = true := code_word (m := ⟨9, 0⟩) (meth := k9m0) (c := k9c0) (by decide +kernel) rfl rfl rfl (by decide +kernel)
set_option maxRecDepth 65536 in
theorem w_c9 : (Jvm.Cond.code ({ cls := "java/lang/String", name := "charAt", desc := "(I)C" } : Jvm.MethodName) jdk_42_method_56_code (2 : Nat) (Option.some Jvm.ClassFile.FieldType.char)).before args0 about1 = true := code_word (m := ⟨7, 3⟩) (meth := k7m3) (c := k7c3) (by decide +kernel) rfl rfl rfl (by decide +kernel)
set_option maxRecDepth 65536 in
theorem w_c10 : (Jvm.Cond.code ({ cls := "java/lang/String", name := "isLatin1", desc := "()Z" } : Jvm.MethodName) jdk_42_method_154_code (1 : Nat) (Option.some Jvm.ClassFile.FieldType.boolean)).before args0 about1 = true := code_word (m := ⟨7, 6⟩) (meth := k7m6) (c := k7c6) (by decide +kernel) rfl rfl rfl (by decide +kernel)
set_option maxRecDepth 65536 in
theorem w_c11 : (Jvm.Cond.code ({ cls := "java/lang/StringLatin1", name := "charAt", desc := "([BI)C" } : Jvm.MethodName) jdk_43_method_2_code (2 : Nat) (Option.some Jvm.ClassFile.FieldType.char)).before args0 about1 = true := code_word (m := ⟨10, 1⟩) (meth := k10m1) (c := k10c1) (by decide +kernel) rfl rfl rfl (by decide +kernel)
set_option maxRecDepth 65536 in
theorem w_c12 : (Jvm.Cond.code ({ cls := "java/lang/String", name := "checkIndex", desc := "(II)V" } : Jvm.MethodName) jdk_42_method_155_code (2 : Nat) (Option.none : Option Jvm.ClassFile.FieldType)).before args0 about1 = true := code_word (m := ⟨7, 7⟩) (meth := k7m7) (c := k7c7) (by decide +kernel) rfl rfl rfl (by decide +kernel)
set_option maxRecDepth 65536 in
theorem w_c13 : (Jvm.Cond.code ({ cls := "jdk/internal/util/Preconditions", name := "checkIndex", desc := "(IILjava/util/function/BiFunction;)I" } : Jvm.MethodName) jdk_41_method_11_code (3 : Nat) (Option.some Jvm.ClassFile.FieldType.int)).before args0 about1 = true := code_word (m := ⟨11, 1⟩) (meth := k11m1) (c := k11c1) (by decide +kernel) rfl rfl rfl (by decide +kernel)
set_option maxRecDepth 65536 in
theorem w_c14 : (Jvm.Cond.code ({ cls := "java/lang/StringUTF16", name := "compress", desc := "([CII)[B" } : Jvm.MethodName) jdk_52_method_16_code (6 : Nat) (Option.some (Jvm.ClassFile.FieldType.array Jvm.ClassFile.FieldType.byte))).before args0 about1 = true := code_word (m := ⟨12, 8⟩) (meth := k12m8) (c := k12c8) (by decide +kernel) rfl rfl rfl (by decide +kernel)
set_option maxRecDepth 65536 in
theorem w_c15 : (Jvm.Cond.code ({ cls := "java/lang/StringUTF16", name := "compress", desc := "([CI[BII)I" } : Jvm.MethodName) jdk_52_method_21_code (7 : Nat) (Option.some Jvm.ClassFile.FieldType.int)).before args0 about1 = true := code_word (m := ⟨12, 9⟩) (meth := k12m9) (c := k12c9) (by decide +kernel) rfl rfl rfl (by decide +kernel)
set_option maxRecDepth 65536 in
theorem w_c16 : (Jvm.Cond.code ({ cls := "java/lang/StringUTF16", name := "coderFromArrayLen", desc := "([BI)B" } : Jvm.MethodName) jdk_52_method_15_code (2 : Nat) (Option.some Jvm.ClassFile.FieldType.byte)).before args0 about1 = true := code_word (m := ⟨12, 7⟩) (meth := k12m7) (c := k12c7) (by decide +kernel) rfl rfl rfl (by decide +kernel)
set_option maxRecDepth 65536 in
theorem w_c17 : (Jvm.Cond.code ({ cls := "java/lang/StringUTF16", name := "toBytes", desc := "([CII)[B" } : Jvm.MethodName) jdk_52_method_14_code (5 : Nat) (Option.some (Jvm.ClassFile.FieldType.array Jvm.ClassFile.FieldType.byte))).before args0 about1 = true := code_word (m := ⟨12, 6⟩) (meth := k12m6) (c := k12c6) (by decide +kernel) rfl rfl rfl (by decide +kernel)
set_option maxRecDepth 65536 in
theorem w_c18 : (Jvm.Cond.code ({ cls := "java/lang/StringUTF16", name := "newBytesFor", desc := "(I)[B" } : Jvm.MethodName) jdk_52_method_2_code (1 : Nat) (Option.some (Jvm.ClassFile.FieldType.array Jvm.ClassFile.FieldType.byte))).before args0 about1 = true := code_word (m := ⟨12, 1⟩) (meth := k12m1) (c := k12c1) (by decide +kernel) rfl rfl rfl (by decide +kernel)
set_option maxRecDepth 65536 in
theorem w_c19 : (Jvm.Cond.code ({ cls := "java/lang/StringUTF16", name := "newBytesLength", desc := "(I)I" } : Jvm.MethodName) jdk_52_method_3_code (1 : Nat) (Option.some Jvm.ClassFile.FieldType.int)).before args0 about1 = true := code_word (m := ⟨12, 2⟩) (meth := k12m2) (c := k12c2) (by decide +kernel) rfl rfl rfl (by decide +kernel)
set_option maxRecDepth 65536 in
theorem w_c20 : (Jvm.Cond.code ({ cls := "java/lang/StringUTF16", name := "putChar", desc := "([BII)V" } : Jvm.MethodName) jdk_52_method_4_code (3 : Nat) (Option.none : Option Jvm.ClassFile.FieldType)).before args0 about1 = true := code_word (m := ⟨12, 3⟩) (meth := k12m3) (c := k12c3) (by decide +kernel) rfl rfl rfl (by decide +kernel)
set_option maxRecDepth 65536 in
theorem w_c21 : (Jvm.Cond.code ({ cls := "java/lang/StringUTF16", name := "getChar", desc := "([BI)C" } : Jvm.MethodName) jdk_52_method_5_code (2 : Nat) (Option.some Jvm.ClassFile.FieldType.char)).before args0 about1 = true := code_word (m := ⟨12, 4⟩) (meth := k12m4) (c := k12c4) (by decide +kernel) rfl rfl rfl (by decide +kernel)
set_option maxRecDepth 65536 in
theorem w_c22 : (Jvm.Cond.code ({ cls := "java/lang/StringUTF16", name := "charAt", desc := "([BI)C" } : Jvm.MethodName) jdk_52_method_83_code (2 : Nat) (Option.some Jvm.ClassFile.FieldType.char)).before args0 about1 = true := code_word (m := ⟨12, 10⟩) (meth := k12m10) (c := k12c10) (by decide +kernel) rfl rfl rfl (by decide +kernel)
set_option maxRecDepth 65536 in
theorem w_c23 : (Jvm.Cond.code ({ cls := "java/lang/StringUTF16", name := "checkIndex", desc := "(I[B)V" } : Jvm.MethodName) jdk_52_method_91_code (2 : Nat) (Option.none : Option Jvm.ClassFile.FieldType)).before args0 about1 = true := code_word (m := ⟨12, 11⟩) (meth := k12m11) (c := k12c11) (by decide +kernel) rfl rfl rfl (by decide +kernel)
set_option maxRecDepth 65536 in
theorem w_c24 : (Jvm.Cond.code ({ cls := "java/lang/StringUTF16", name := "length", desc := "([B)I" } : Jvm.MethodName) jdk_52_method_6_code (1 : Nat) (Option.some Jvm.ClassFile.FieldType.int)).before args0 about1 = true := code_word (m := ⟨12, 5⟩) (meth := k12m5) (c := k12c5) (by decide +kernel) rfl rfl rfl (by decide +kernel)
set_option maxRecDepth 65536 in
theorem w_c25 : (Jvm.Cond.code ({ cls := "com/example/presswright/presswright/publishing/PagePathIsPagePathPinLaw", name := "good", desc := "([CII)Z" } : Jvm.MethodName) method_4_code (4 : Nat) (Option.some Jvm.ClassFile.FieldType.boolean)).before args0 about1 = true := code_word (m := ⟨1, 3⟩) (meth := k1m3) (c := k1c3) (by decide +kernel) rfl rfl rfl (by decide +kernel)
set_option maxRecDepth 65536 in
theorem w_c26 : (Jvm.Cond.code ({ cls := "com/example/presswright/presswright/publishing/PagePathIsPagePathPinLaw", name := "legal", desc := "(C)Z" } : Jvm.MethodName) method_3_code (1 : Nat) (Option.some Jvm.ClassFile.FieldType.boolean)).before args0 about1 = true := code_word (m := ⟨1, 2⟩) (meth := k1m2) (c := k1c2) (by decide +kernel) rfl rfl rfl (by decide +kernel)
def codes1 : List Jvm.Cond := [Jvm.Cond.code x code maxLocals ret, Jvm.Cond.code ({ cls := "com/example/presswright/presswright/publishing/PagePathIsPagePathPinLaw", name := "draw", desc := "(JI)C" } : Jvm.MethodName) method_2_code (5 : Nat) (Option.some Jvm.ClassFile.FieldType.char), Jvm.Cond.code ({ cls := "com/example/presswright/presswright/publishing/PagePathIsPagePathPinLaw", name := "prefix", desc := "([CI)[C" } : Jvm.MethodName) method_5_code (2 : Nat) (Option.some (Jvm.ClassFile.FieldType.array Jvm.ClassFile.FieldType.char)), Jvm.Cond.code ({ cls := "java/lang/String", name := "<init>", desc := "([C)V" } : Jvm.MethodName) jdk_42_method_3_code (2 : Nat) (Option.none : Option Jvm.ClassFile.FieldType), Jvm.Cond.code ({ cls := "java/lang/String", name := "<init>", desc := "([CIILjava/lang/Void;)V" } : Jvm.MethodName) jdk_42_method_149_code (6 : Nat) (Option.none : Option Jvm.ClassFile.FieldType), Jvm.Cond.code ({ cls := "java/lang/Object", name := "<init>", desc := "()V" } : Jvm.MethodName) object_method_1_code (1 : Nat) (Option.none : Option Jvm.ClassFile.FieldType), Jvm.Cond.code ({ cls := "java/lang/String", name := "length", desc := "()I" } : Jvm.MethodName) jdk_42_method_54_code (1 : Nat) (Option.some Jvm.ClassFile.FieldType.int), Jvm.Cond.code ({ cls := "java/lang/String", name := "coder", desc := "()B" } : Jvm.MethodName) jdk_42_method_152_code (1 : Nat) (Option.some Jvm.ClassFile.FieldType.byte), Jvm.Cond.code ({ cls := "com/example/presswright/presswright/publishing/PagePath", name := "isPagePath", desc := "(Ljava/lang/String;)Z" } : Jvm.MethodName) prog_11_method_2_code (6 : Nat) (Option.some Jvm.ClassFile.FieldType.boolean), Jvm.Cond.code ({ cls := "java/lang/String", name := "charAt", desc := "(I)C" } : Jvm.MethodName) jdk_42_method_56_code (2 : Nat) (Option.some Jvm.ClassFile.FieldType.char), Jvm.Cond.code ({ cls := "java/lang/String", name := "isLatin1", desc := "()Z" } : Jvm.MethodName) jdk_42_method_154_code (1 : Nat) (Option.some Jvm.ClassFile.FieldType.boolean), Jvm.Cond.code ({ cls := "java/lang/StringLatin1", name := "charAt", desc := "([BI)C" } : Jvm.MethodName) jdk_43_method_2_code (2 : Nat) (Option.some Jvm.ClassFile.FieldType.char), Jvm.Cond.code ({ cls := "java/lang/String", name := "checkIndex", desc := "(II)V" } : Jvm.MethodName) jdk_42_method_155_code (2 : Nat) (Option.none : Option Jvm.ClassFile.FieldType), Jvm.Cond.code ({ cls := "jdk/internal/util/Preconditions", name := "checkIndex", desc := "(IILjava/util/function/BiFunction;)I" } : Jvm.MethodName) jdk_41_method_11_code (3 : Nat) (Option.some Jvm.ClassFile.FieldType.int), Jvm.Cond.code ({ cls := "java/lang/StringUTF16", name := "compress", desc := "([CII)[B" } : Jvm.MethodName) jdk_52_method_16_code (6 : Nat) (Option.some (Jvm.ClassFile.FieldType.array Jvm.ClassFile.FieldType.byte)), Jvm.Cond.code ({ cls := "java/lang/StringUTF16", name := "compress", desc := "([CI[BII)I" } : Jvm.MethodName) jdk_52_method_21_code (7 : Nat) (Option.some Jvm.ClassFile.FieldType.int), Jvm.Cond.code ({ cls := "java/lang/StringUTF16", name := "coderFromArrayLen", desc := "([BI)B" } : Jvm.MethodName) jdk_52_method_15_code (2 : Nat) (Option.some Jvm.ClassFile.FieldType.byte), Jvm.Cond.code ({ cls := "java/lang/StringUTF16", name := "toBytes", desc := "([CII)[B" } : Jvm.MethodName) jdk_52_method_14_code (5 : Nat) (Option.some (Jvm.ClassFile.FieldType.array Jvm.ClassFile.FieldType.byte)), Jvm.Cond.code ({ cls := "java/lang/StringUTF16", name := "newBytesFor", desc := "(I)[B" } : Jvm.MethodName) jdk_52_method_2_code (1 : Nat) (Option.some (Jvm.ClassFile.FieldType.array Jvm.ClassFile.FieldType.byte)), Jvm.Cond.code ({ cls := "java/lang/StringUTF16", name := "newBytesLength", desc := "(I)I" } : Jvm.MethodName) jdk_52_method_3_code (1 : Nat) (Option.some Jvm.ClassFile.FieldType.int), Jvm.Cond.code ({ cls := "java/lang/StringUTF16", name := "putChar", desc := "([BII)V" } : Jvm.MethodName) jdk_52_method_4_code (3 : Nat) (Option.none : Option Jvm.ClassFile.FieldType), Jvm.Cond.code ({ cls := "java/lang/StringUTF16", name := "getChar", desc := "([BI)C" } : Jvm.MethodName) jdk_52_method_5_code (2 : Nat) (Option.some Jvm.ClassFile.FieldType.char), Jvm.Cond.code ({ cls := "java/lang/StringUTF16", name := "charAt", desc := "([BI)C" } : Jvm.MethodName) jdk_52_method_83_code (2 : Nat) (Option.some Jvm.ClassFile.FieldType.char), Jvm.Cond.code ({ cls := "java/lang/StringUTF16", name := "checkIndex", desc := "(I[B)V" } : Jvm.MethodName) jdk_52_method_91_code (2 : Nat) (Option.none : Option Jvm.ClassFile.FieldType), Jvm.Cond.code ({ cls := "java/lang/StringUTF16", name := "length", desc := "([B)I" } : Jvm.MethodName) jdk_52_method_6_code (1 : Nat) (Option.some Jvm.ClassFile.FieldType.int), Jvm.Cond.code ({ cls := "com/example/presswright/presswright/publishing/PagePathIsPagePathPinLaw", name := "good", desc := "([CII)Z" } : Jvm.MethodName) method_4_code (4 : Nat) (Option.some Jvm.ClassFile.FieldType.boolean), Jvm.Cond.code ({ cls := "com/example/presswright/presswright/publishing/PagePathIsPagePathPinLaw", name := "legal", desc := "(C)Z" } : Jvm.MethodName) method_3_code (1 : Nat) (Option.some Jvm.ClassFile.FieldType.boolean)]
set_option maxRecDepth 65536 in
theorem codes_eq : words1.filter isCode = codes1 := rfl
theorem w_codes : ∀ c ∈ words1.filter isCode, c.before args0 about1 = true := by
  rw [codes_eq]
  intro c hc
  simp only [codes1, List.mem_cons, List.not_mem_nil, or_false] at hc
  rcases hc with rfl | rfl | rfl | rfl | rfl | rfl | rfl | rfl | rfl | rfl | rfl | rfl | rfl | rfl | rfl | rfl | rfl | rfl | rfl | rfl | rfl | rfl | rfl | rfl | rfl | rfl | rfl
  · exact w_c0
  · exact w_c1
  · exact w_c2
  · exact w_c3
  · exact w_c4
  · exact w_c5
  · exact w_c6
  · exact w_c7
  · exact w_c8
  · exact w_c9
  · exact w_c10
  · exact w_c11
  · exact w_c12
  · exact w_c13
  · exact w_c14
  · exact w_c15
  · exact w_c16
  · exact w_c17
  · exact w_c18
  · exact w_c19
  · exact w_c20
  · exact w_c21
  · exact w_c22
  · exact w_c23
  · exact w_c24
  · exact w_c25
  · exact w_c26
set_option maxRecDepth 65536 in
theorem w_t1 : (words1.take 24).all (fun c => isCode c || c.before args0 about1) = true := by decide +kernel
set_option maxRecDepth 65536 in
theorem w_t2 : ((words1.drop 24).take 24).all (fun c => isCode c || c.before args0 about1) = true := by decide +kernel
set_option maxRecDepth 65536 in
theorem w_t3 : (((words1.drop 24).drop 24).take 24).all (fun c => isCode c || c.before args0 about1) = true := by decide +kernel
set_option maxRecDepth 65536 in
theorem w_t4 : ((((words1.drop 24).drop 24).drop 24).take 24).all (fun c => isCode c || c.before args0 about1) = true := by decide +kernel
set_option maxRecDepth 65536 in
theorem w_t5 : ((((words1.drop 24).drop 24).drop 24).drop 24).all (fun c => isCode c || c.before args0 about1) = true := by decide +kernel
theorem w_tables : (allAtoms (Jvm.Cond.code x code maxLocals ret :: tables_1)).before args0 about1 = true := by
  rw [allAtoms_all]
  show words1.all (fun c => c.before args0 about1) = true
  refine all_split ?_ w_codes
  rw [← List.take_append_drop 24 words1, List.all_append, w_t1, ← List.take_append_drop 24 (words1.drop 24), List.all_append, w_t2, ← List.take_append_drop 24 ((words1.drop 24).drop 24), List.all_append, w_t3, ← List.take_append_drop 24 (((words1.drop 24).drop 24).drop 24), List.all_append, w_t4, w_t5]
  rfl
set_option maxRecDepth 65536 in
theorem w_rest : rest_1_c.before args0 about1 = true := by decide +kernel
set_option maxRecDepth 65536 in
theorem w_case : (Jvm.Cond.and given_1 narrow_1).before args0 about1 = true := by decide +kernel
set_option maxRecDepth 65536 in
theorem w_consts : constsHeld consts_1 about1 := Jvm.Lit.constsHeldB_iff.mp (by decide +kernel)
theorem w_applies : (headSpec (Jvm.Cond.code x code maxLocals ret :: tables_1) room_1).applies x e0.platform about1 = true :=
  (Spec.applies_iff w_frames).mpr ⟨w_running, w_runnable, w_alone, w_named, w_hears, w_ripe, w_room, w_tables⟩
theorem atStart : AtStart classFile x code maxLocals ret World_1 tables_1 room_1 Calls_1 rest_1 Pre_1 launch0 p0 e0 about1 theMethod args0 below0 :=
  ⟨lists_1, trivial, launch0.admits_env _ _ _, launch0.least_env, fairChoices_fair.cas, fairChoices_fair.clock, w_frames, w_args, w_heap, w_applies, ⟨w_consts, trivial⟩, w_rest, w_case⟩
end start1
theorem witness_1 : WitnessClaimed_1 := ⟨start1.p0, start1.e0, start1.about1, start1.theMethod, start1.args0, start1.below0, start1.atStart⟩
end Jvm.Pilot.@@N@@
