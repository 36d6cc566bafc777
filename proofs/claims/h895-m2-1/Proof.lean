import JvmDerived
import JvmDerived.Pilot.@@N@@Statement
import JvmDerived.Pilot.@@N@@Code
set_option linter.unusedVariables false
set_option linter.unusedSimpArgs false
/- laws to paste: Road.backV (cut by pick.py; bodies as the Statement names them) -/
namespace Jvm.Pilot.@@N@@
namespace StrChars
open Jvm Sem ClassFile Op Lib Jvm.Stand Jvm.Free.XT Jvm.Free.ALB Jvm.Free.JM Jvm.Free
open Jvm.Lib.Cold (StaticIs)
/-- a char array whose places are chars -/
def Ch (a : Addr) (A : Cell) (U : State) : Prop := Arr .char a A U ∧ Typed .char A
theorem Ch.mv {a : Addr} {A : Cell} {U U' : State} (h : Ch a A U) (hal : U.vm.Alike U'.vm) (hh : U'.heap = U.heap) : Ch a A U' := ⟨h.1.mv hal hh, h.2⟩
theorem Ch.keep {a : Addr} {A : Cell} {U U' : State} (h : Ch a A U) (hal : U.vm.Alike U'.vm) (hk : U'.heap[a]? = some A) : Ch a A U' := ⟨h.1.keep hal hk, h.2⟩
/-- what place i of a char[]'s cell holds -/
def cv (A : Cell) (i : Nat) : Int32 := match A.slots[i]? with | some (.int x) => x | _ => 0
theorem Ch.get {a : Addr} {A : Cell} {U : State} (h : Ch a A U) {i : Nat} (hi : i < A.slots.size) : A.slots[i]? = some (.int (cv A i)) := by
  have e := Array.getElem?_eq_getElem hi
  have f := h.2 i _ e
  unfold cv; rw [e]
  generalize A.slots[i] = v at f
  cases v <;> simp [fits] at f ⊢
/-- the byte that i2b leaves of a char -/
def lo8 (x : Int32) : Int32 := x.toInt8.toInt32
theorem fits_lo8 (y : Int32) : fits .byte (.int (lo8 y)) = true := by
  have h1 := y.toInt8.le_toInt
  have h2 := y.toInt8.toInt_lt
  simp only [lo8, fits, Bool.and_eq_true, decide_eq_true_eq, Int32.le_iff_toInt_le, Int8.toInt_toInt32, show (-128 : Int32).toInt = -128 from by decide, show (127 : Int32).toInt = 127 from by decide]
  omega
/-- A' is A but that each place j of lo .. hi - 1 holds f j -/
def Laid (A A' : Cell) (lo hi : Nat) (f : Nat → Value) : Prop := A'.cls = A.cls ∧ A'.vm = A.vm ∧ A'.slots.size = A.slots.size ∧ ∀ i, A'.slots[i]? = if lo ≤ i ∧ i < hi then some (f i) else A.slots[i]?
theorem Laid.zero (A : Cell) (lo : Nat) (f : Nat → Value) : Laid A A lo (lo + 0) f := ⟨rfl, rfl, rfl, fun i => by rw [if_neg (by omega)]⟩
theorem Laid.step {A Ak : Cell} {lo k : Nat} {f : Nat → Value} {v : Value} (h : Laid A Ak lo k f) (hlo : lo ≤ k) (hk : k < Ak.slots.size) (hv : v = f k) : Laid A (Ak.setSlot k v) lo (k + 1) f := by
  refine ⟨h.1, h.2.1, by simpa [Cell.setSlot] using h.2.2.1, fun i => ?_⟩
  by_cases e : k = i
  · subst e; rw [Cell.slots_setSlot_self v hk, if_pos (by omega), hv]
  · rw [Cell.slots_setSlot_ne v e, h.2.2.2 i]
    by_cases q : lo ≤ i ∧ i < k
    · rw [if_pos q, if_pos (by omega)]
    · rw [if_neg q, if_neg (by omega)]
def U16 : String := "java/lang/StringUTF16"
namespace Cmp5
def yN : MethodName := ⟨"java/lang/StringUTF16", "compress", "([CI[BII)I"⟩
abbrev yB : ByteArray := jdk_52_method_21_code
theorem d0 : decode yB 0 = .ok (.iconst 0, 1) := by decide +kernel
theorem d1 : decode yB 1 = .ok (.istore 5, 2) := by decide +kernel
theorem d3 : decode yB 3 = .ok (.iload 5, 2) := by decide +kernel
theorem d5 : decode yB 5 = .ok (.iload 4, 2) := by decide +kernel
theorem d7 : decode yB 7 = .ok (.if_icmp (.ge) 37, 3) := by decide +kernel
theorem d10 : decode yB 10 = .ok (.aload_n 0, 1) := by decide +kernel
theorem d11 : decode yB 11 = .ok (.iload_n 1, 1) := by decide +kernel
theorem d12 : decode yB 12 = .ok (.caload, 1) := by decide +kernel
theorem d13 : decode yB 13 = .ok (.istore 6, 2) := by decide +kernel
theorem d15 : decode yB 15 = .ok (.iload 6, 2) := by decide +kernel
theorem d17 : decode yB 17 = .ok (.sipush 255, 3) := by decide +kernel
theorem d20 : decode yB 20 = .ok (.if_icmp (.le) 6, 3) := by decide +kernel
theorem d26 : decode yB 26 = .ok (.aload_n 2, 1) := by decide +kernel
theorem d27 : decode yB 27 = .ok (.iload_n 3, 1) := by decide +kernel
theorem d28 : decode yB 28 = .ok (.iload 6, 2) := by decide +kernel
theorem d30 : decode yB 30 = .ok (.i2b, 1) := by decide +kernel
theorem d31 : decode yB 31 = .ok (.bastore, 1) := by decide +kernel
theorem d32 : decode yB 32 = .ok (.iinc 1 1, 3) := by decide +kernel
theorem d35 : decode yB 35 = .ok (.iinc 3 1, 3) := by decide +kernel
theorem d38 : decode yB 38 = .ok (.iinc 5 1, 3) := by decide +kernel
theorem d41 : decode yB 41 = .ok (.goto (-38), 3) := by decide +kernel
theorem d44 : decode yB 44 = .ok (.iload 4, 2) := by decide +kernel
theorem d46 : decode yB 46 = .ok (.ireturn, 1) := by decide +kernel
def site : List Cond := []
def tab : Cond := tabOf yN yB 7 (some .int) site
def P (b : Addr) (A : Cell) (d : Addr) (B : Cell) (o q len : Nat) (args : Array Value) (s : State) : Prop := args = #[.ref b, .int (Int32.ofNat o), .ref d, .int (Int32.ofNat q), .int (Int32.ofNat len)] ∧ Ch b A s ∧ Arr .byte d B s ∧ b ≠ d ∧ o + len ≤ A.slots.size ∧ q + len ≤ B.slots.size ∧ ∀ i, i < len → ¬ 255 < cv A (o + i)
def E (b : Addr) (A : Cell) (d : Addr) (B : Cell) (o q len : Nat) (r : Option Value) (s u : State) : Prop := r = some (.int (Int32.ofNat len)) ∧ ∃ B', Put d B' s u ∧ Laid B B' q (q + len) (fun j => Value.int (lo8 (cv A (o + (j - q)))))
/-- no char of the range above 255: len; the places written hold each char's low byte -/
theorem law (l : Launch) (b : Addr) (A : Cell) (d : Addr) (B : Cell) (o q len : Nat) : Law l yN 5 5 0 0 yB 7 (some .int) site (P b A d B o q len) (E b A d B o q len) (copyLocs d q len) 0 0 := by
  refine Law.of_walk (plainFor_of_name (by decide +kernel)) (by decide +kernel) (by decide +kernel) (by decide) (fun _ _ h => by rw [h.1]; rfl) (fun _ U U' hal hh h => ⟨h.1, h.2.1.mv hal hh, h.2.2.1.mv hal hh, h.2.2.2⟩) (fun r U U' V V' h1 hal h2 h => ⟨h.1, h.2.elim fun B' q => ⟨B', q.1.mv h1 h2, q.2⟩⟩) ?_
  intro p e s m args below meth c s₁ X0 hexec hbytes hml hret hlk hnm hown hh0 W hP
  obtain ⟨rfl, hA, hB, hne, l1, l2, hp⟩ := hP
  have c1 : Steps p.tables e below (s₁.setTop (entryFrame m #[.ref b, .int (Int32.ofNat o), .ref d, .int (Int32.ofNat q), .int (Int32.ofNat len)] 7)) (s₁.setTop (mkF m 0 #[.val (.ref b), .val (.int (Int32.ofNat o)), .val (.ref d), .val (.int (Int32.ofNat q)), .val (.int (Int32.ofNat len)), .unset, .unset] [])) := entry rfl
  have hA0 := hA.1.mv X0.warmed.alike hh0
  have hB0 := hB.mv X0.warmed.alike hh0
  have a31 := hA.1.2.2.2
  have c2 : Steps p.tables e below (s₁.setTop (entryFrame m #[.ref b, .int (Int32.ofNat o), .ref d, .int (Int32.ofNat q), .int (Int32.ofNat len)] 7)) (s₁.setTop (mkF m 3 #[.val (.ref b), .val (.int (Int32.ofNat o)), .val (.ref d), .val (.int (Int32.ofNat q)), .val (.int (Int32.ofNat len)), .val (.int 0), .unset] [])) := c1.trans (by
    refine iconstV X0.here hexec rfl 0 (hb hbytes d0) (by decide) ?_
    refine XS.istore X0.here hexec rfl (hb hbytes d1) rfl rfl ?_
    exact Steps.refl _)
  have loop : ∀ (r i : Nat), i + r = len → ∀ (z : Slot), (z = .unset ∨ ∃ w, z = .val w ∧ w.category = 1) → ∀ (Tl : State) (Bk : Cell), Stand p l e { frames := 0, locals := 0, cells := 0, slots := 0 } s m #[.ref b, .int (Int32.ofNat o), .ref d, .int (Int32.ofNat q), .int (Int32.ofNat len)] below meth c Tl ([] ++ copyLocs d q i) 0 0 → Put d Bk s₁ Tl → Laid B Bk q (q + i) (fun j => Value.int (lo8 (cv A (o + (j - q))))) →
      Steps p.tables e below (s₁.setTop (entryFrame m #[.ref b, .int (Int32.ofNat o), .ref d, .int (Int32.ofNat q), .int (Int32.ofNat len)] 7)) (Tl.setTop (mkF m 3 #[.val (.ref b), .val (.int (Int32.ofNat (o + i))), .val (.ref d), .val (.int (Int32.ofNat (q + i))), .val (.int (Int32.ofNat len)), .val (.int (Int32.ofNat i)), z] [])) → ∃ (T' : State) (B' : Cell) (z' : Slot), Stand p l e { frames := 0, locals := 0, cells := 0, slots := 0 } s m #[.ref b, .int (Int32.ofNat o), .ref d, .int (Int32.ofNat q), .int (Int32.ofNat len)] below meth c T' ([] ++ copyLocs d q len) 0 0 ∧ Put d B' s₁ T' ∧ Laid B B' q (q + len) (fun j => Value.int (lo8 (cv A (o + (j - q))))) ∧
      Steps p.tables e below (s₁.setTop (entryFrame m #[.ref b, .int (Int32.ofNat o), .ref d, .int (Int32.ofNat q), .int (Int32.ofNat len)] 7)) (T'.setTop (mkF m 3 #[.val (.ref b), .val (.int (Int32.ofNat (o + len))), .val (.ref d), .val (.int (Int32.ofNat (q + len))), .val (.int (Int32.ofNat len)), .val (.int (Int32.ofNat len)), z'] [])) := by
    intro r
    induction r with
    | zero =>
      intro i hi z hz Tl Bk Xl pl fl cl
      have hil : i = len := by omega
      rw [hil] at Xl fl cl
      exact ⟨Tl, Bk, z, Xl, pl, fl, cl⟩
    | succ r ih =>
      intro i hi z hz Tl Bk Xl pl fl cl
      have all := X0.warmed.alike.symm.trans Xl.warmed.alike
      have hAl := hA0.keep all (pl.other hne hA0.1)
      have hBk := hB0.like all pl.1 fl.1 fl.2.1 fl.2.2.1
      have hlt : q + i < Bk.slots.size := by rw [fl.2.2.1]; omega
      have c3 : Steps p.tables e below (s₁.setTop (entryFrame m #[.ref b, .int (Int32.ofNat o), .ref d, .int (Int32.ofNat q), .int (Int32.ofNat len)] 7)) (Tl.setTop (mkF m 12 #[.val (.ref b), .val (.int (Int32.ofNat (o + i))), .val (.ref d), .val (.int (Int32.ofNat (q + i))), .val (.int (Int32.ofNat len)), .val (.int (Int32.ofNat i)), z] [.int (Int32.ofNat (o + i)), .ref b])) := cl.trans (by
        refine XS.iload Xl.here hexec rfl (hb hbytes d3) rfl ?_
        refine XS.iload Xl.here hexec rfl (hb hbytes d5) rfl ?_
        refine XS.icmpNo Xl.here hexec rfl (hb hbytes d7) rfl (ii_ge_f (lt32 (by omega) (by omega))) ?_
        refine XS.aloadN Xl.here hexec rfl (hb hbytes d10) rfl rfl ?_
        refine XS.iloadN Xl.here hexec rfl (hb hbytes d11) rfl ?_
        exact Steps.refl _)
      have c4 : Steps p.tables e below (s₁.setTop (entryFrame m #[.ref b, .int (Int32.ofNat o), .ref d, .int (Int32.ofNat q), .int (Int32.ofNat len)] 7)) (Tl.setTop (mkF m 13 #[.val (.ref b), .val (.int (Int32.ofNat (o + i))), .val (.ref d), .val (.int (Int32.ofNat (q + i))), .val (.int (Int32.ofNat len)), .val (.int (Int32.ofNat i)), z] [.int (cv A (o + i))])) := c3.trans (by
        refine Xl.aget hexec hAl rfl (hA.get (i := o + i) (by omega)) rfl rfl (hb hbytes d12) ?_
        exact Steps.refl _)
      have c5 : Steps p.tables e below (s₁.setTop (entryFrame m #[.ref b, .int (Int32.ofNat o), .ref d, .int (Int32.ofNat q), .int (Int32.ofNat len)] 7)) (Tl.setTop (mkF m 15 #[.val (.ref b), .val (.int (Int32.ofNat (o + i))), .val (.ref d), .val (.int (Int32.ofNat (q + i))), .val (.int (Int32.ofNat len)), .val (.int (Int32.ofNat i)), .val (.int (cv A (o + i)))] [])) := c4.trans (by
        refine XS.istoreS Xl.here hexec rfl (hb hbytes d13) rfl rfl hz ?_
        exact Steps.refl _)
      have c6 : Steps p.tables e below (s₁.setTop (entryFrame m #[.ref b, .int (Int32.ofNat o), .ref d, .int (Int32.ofNat q), .int (Int32.ofNat len)] 7)) (Tl.setTop (mkF m 31 #[.val (.ref b), .val (.int (Int32.ofNat (o + i))), .val (.ref d), .val (.int (Int32.ofNat (q + i))), .val (.int (Int32.ofNat len)), .val (.int (Int32.ofNat i)), .val (.int (cv A (o + i)))] [.int (lo8 (cv A (o + i))), .int (Int32.ofNat (q + i)), .ref d])) := c5.trans (by
        refine XS.iload Xl.here hexec rfl (hb hbytes d15) rfl ?_
        refine sipushV Xl.here hexec rfl 255 (hb hbytes d17) (by decide) ?_
        refine XS.icmpYes Xl.here hexec rfl (pc0 := 20) rfl (hb hbytes d20) rfl (ii_le_t (hp i (by omega))) (by decide) rfl ?_
        refine XS.aloadN Xl.here hexec rfl (hb hbytes d26) rfl rfl ?_
        refine XS.iloadN Xl.here hexec rfl (hb hbytes d27) rfl ?_
        refine XS.iload Xl.here hexec rfl (hb hbytes d28) rfl ?_
        refine i2b Xl.here hexec rfl (hb hbytes d30) rfl ?_
        exact Steps.refl _)
      obtain ⟨T7, X7, p7, st7⟩ := Xl.aput hexec hBk rfl hlt rfl (fits_lo8 (cv A (o + i))) (g := (mkF m 31 #[.val (.ref b), .val (.int (Int32.ofNat (o + i))), .val (.ref d), .val (.int (Int32.ofNat (q + i))), .val (.int (Int32.ofNat len)), .val (.int (Int32.ofNat i)), .val (.int (cv A (o + i)))] [.int (lo8 (cv A (o + i))), .int (Int32.ofNat (q + i)), .ref d])) rfl (rest := []) rfl (hb hbytes d31)
      have c8 : Steps p.tables e below (s₁.setTop (entryFrame m #[.ref b, .int (Int32.ofNat o), .ref d, .int (Int32.ofNat q), .int (Int32.ofNat len)] 7)) (T7.setTop (mkF m 32 #[.val (.ref b), .val (.int (Int32.ofNat (o + i))), .val (.ref d), .val (.int (Int32.ofNat (q + i))), .val (.int (Int32.ofNat len)), .val (.int (Int32.ofNat i)), .val (.int (cv A (o + i)))] [])) := c6.trans (st7 _ (Steps.refl _))
      have c9 : Steps p.tables e below (s₁.setTop (entryFrame m #[.ref b, .int (Int32.ofNat o), .ref d, .int (Int32.ofNat q), .int (Int32.ofNat len)] 7)) (T7.setTop (mkF m 3 #[.val (.ref b), .val (.int (Int32.ofNat (o + i) + 1)), .val (.ref d), .val (.int (Int32.ofNat (q + i) + 1)), .val (.int (Int32.ofNat len)), .val (.int (Int32.ofNat i + 1)), .val (.int (cv A (o + i)))] [])) := c8.trans (by
        refine iincV X7.here hexec rfl 1 (hb hbytes d32) (by decide) rfl rfl ?_
        refine iincV X7.here hexec rfl 1 (hb hbytes d35) (by decide) rfl rfl ?_
        refine iincV X7.here hexec rfl 1 (hb hbytes d38) (by decide) rfl rfl ?_
        refine XS.goto X7.here hexec rfl (pc0 := 41) rfl (hb hbytes d41) (by decide) rfl ?_
        exact Steps.refl _)
      have c10 : Steps p.tables e below (s₁.setTop (entryFrame m #[.ref b, .int (Int32.ofNat o), .ref d, .int (Int32.ofNat q), .int (Int32.ofNat len)] 7)) (T7.setTop (mkF m 3 #[.val (.ref b), .val (.int (Int32.ofNat (o + (i + 1)))), .val (.ref d), .val (.int (Int32.ofNat (q + (i + 1)))), .val (.int (Int32.ofNat len)), .val (.int (Int32.ofNat (i + 1))), .val (.int (cv A (o + i)))] [])) := by
        have := c9
        rw [succ32, succ32, succ32] at this
        exact this
      exact ih (i + 1) (by omega) _ (Or.inr ⟨_, rfl, rfl⟩) T7 _ (by rw [copyLocs_step, ← List.append_assoc]; exact X7) (pl.trans p7) (fl.step (by omega) hlt (by simp)) c10
  obtain ⟨T9, B9, z9, X9, p9, f9, g9⟩ := loop len 0 (by omega) .unset (Or.inl rfl) s₁ B (by simpa [copyLocs] using X0) ⟨hB0.1, fun _ _ => rfl, rfl⟩ (Laid.zero _ _ _) c2
  have c11 : Steps p.tables e below (s₁.setTop (entryFrame m #[.ref b, .int (Int32.ofNat o), .ref d, .int (Int32.ofNat q), .int (Int32.ofNat len)] 7)) (T9.setTop (mkF m 46 #[.val (.ref b), .val (.int (Int32.ofNat (o + len))), .val (.ref d), .val (.int (Int32.ofNat (q + len))), .val (.int (Int32.ofNat len)), .val (.int (Int32.ofNat len)), z9] [.int (Int32.ofNat len)])) := g9.trans (by
    refine XS.iload X9.here hexec rfl (hb hbytes d3) rfl ?_
    refine XS.iload X9.here hexec rfl (hb hbytes d5) rfl ?_
    refine XS.icmpYes X9.here hexec rfl (pc0 := 7) rfl (hb hbytes d7) rfl (ii_ge_t (nlt32 (by omega) (Nat.le_refl _))) (by decide) rfl ?_
    refine XS.iload X9.here hexec rfl (hb hbytes d44) rfl ?_
    exact Steps.refl _)
  exact ⟨T9, some (.int (Int32.ofNat len)), _, _, _, X9, by simp, rfl, rfl, (fun h => by cases h), ⟨rfl, B9, p9.from hh0, f9⟩, fun fs hl => c11.trans (X9.ireturnOut hexec hret rfl (Or.inl rfl) (hb hbytes d46) hl)⟩
end Cmp5
namespace Cmp3
def yN : MethodName := ⟨"java/lang/StringUTF16", "compress", "([CII)[B"⟩
abbrev yB : ByteArray := jdk_52_method_16_code
theorem d0 : decode yB 0 = .ok (.iload_n 2, 1) := by decide +kernel
theorem d1 : decode yB 1 = .ok (.newarray .byte, 2) := by decide +kernel
theorem d3 : decode yB 3 = .ok (.astore_n 3, 1) := by decide +kernel
theorem d4 : decode yB 4 = .ok (.aload_n 0, 1) := by decide +kernel
theorem d5 : decode yB 5 = .ok (.iload_n 1, 1) := by decide +kernel
theorem d6 : decode yB 6 = .ok (.aload_n 3, 1) := by decide +kernel
theorem d7 : decode yB 7 = .ok (.iconst 0, 1) := by decide +kernel
theorem d8 : decode yB 8 = .ok (.iload_n 2, 1) := by decide +kernel
theorem d9 : decode yB 9 = .ok (.invokestatic 115, 3) := by decide +kernel
theorem d12 : decode yB 12 = .ok (.istore 4, 2) := by decide +kernel
theorem d14 : decode yB 14 = .ok (.iload 4, 2) := by decide +kernel
theorem d16 : decode yB 16 = .ok (.iload_n 2, 1) := by decide +kernel
theorem d17 : decode yB 17 = .ok (.if_icmp (.eq) 40, 3) := by decide +kernel
theorem d57 : decode yB 57 = .ok (.aload_n 3, 1) := by decide +kernel
theorem d58 : decode yB 58 = .ok (.areturn, 1) := by decide +kernel
def site : List Cond := [.arrayClass .byte, Cmp5.tab] ++ staticW U16 115 Cmp5.yN
def tab : Cond := tabOf yN yB 6 (some (.array .byte)) site
def P (b : Addr) (A : Cell) (o len : Nat) (args : Array Value) (s : State) : Prop := args = #[.ref b, .int (Int32.ofNat o), .int (Int32.ofNat len)] ∧ Ch b A s ∧ o + len ≤ A.slots.size ∧ len ≤ 536870912 ∧ ∀ i, i < len → ¬ 255 < cv A (o + i)
def E (b : Addr) (A : Cell) (o len : Nat) (r : Option Value) (s u : State) : Prop := NewArr .byte "[B" len (fun j => .int (lo8 (cv A (o + j)))) r s u ∧ u.heap.size = s.heap.size + 1
/-- no char of the range above 255: a new byte[] of their low bytes -/
theorem law (l : Launch) (b : Addr) (A : Cell) (o len : Nat) : Law l yN 3 3 1 18 yB 6 (some (.array .byte)) site (P b A o len) (E b A o len) [] 1 len := by
  refine Law.of_walk (plainFor_of_name (by decide +kernel)) (by decide +kernel) (by decide +kernel) (by decide) (fun _ _ h => by rw [h.1]; rfl) (fun _ U U' hal hh h => ⟨h.1, h.2.1.mv hal hh, h.2.2⟩) (fun r U U' V V' h1 hal h2 h => ⟨NewArr.mv r U U' V V' h1 hal h2 h.1, by rw [h1, h2]; exact h.2⟩) ?_
  intro p e s m args below meth c s₁ X0 hexec hbytes hml hret hlk hnm hown hh0 W hP
  obtain ⟨rfl, hA, l1, l2, hp⟩ := hP
  have a31 := hA.1.2.2.2
  have c1 : Steps p.tables e below (s₁.setTop (entryFrame m #[.ref b, .int (Int32.ofNat o), .int (Int32.ofNat len)] 6)) (s₁.setTop (mkF m 0 #[.val (.ref b), .val (.int (Int32.ofNat o)), .val (.int (Int32.ofNat len)), .unset, .unset, .unset] [])) := entry rfl
  have c2 : Steps p.tables e below (s₁.setTop (entryFrame m #[.ref b, .int (Int32.ofNat o), .int (Int32.ofNat len)] 6)) (s₁.setTop (mkF m 1 #[.val (.ref b), .val (.int (Int32.ofNat o)), .val (.int (Int32.ofNat len)), .unset, .unset, .unset] [.int (Int32.ofNat len)])) := c1.trans (by
    refine XS.iloadN X0.here hexec rfl (hb hbytes d0) rfl ?_
    exact Steps.refl _)
  obtain ⟨T3, B3, X3, ba3, bs3, bv3, bh3, bf3, st3⟩ := X0.anew hexec (atype := .byte) (wk W (.arrayClass .byte)) rfl (by show len * 1 ≤ _; omega) (by omega) (g := (mkF m 1 #[.val (.ref b), .val (.int (Int32.ofNat o)), .val (.int (Int32.ofNat len)), .unset, .unset, .unset] [.int (Int32.ofNat len)])) rfl (hb hbytes d1) (rest := []) rfl (Nat.le_refl _) (by show 0 + len ≤ len; omega)
  rw [hh0] at ba3 st3
  have kp3 : XT.Kept s T3 := (XT.Kept.of_eq hh0).push bh3
  have hA3 := hA.keep X3.warmed.alike (kp3 _ _ hA.1.1)
  have hne : b ≠ s.heap.size := hA.1.ne
  have c4 : Steps p.tables e below (s₁.setTop (entryFrame m #[.ref b, .int (Int32.ofNat o), .int (Int32.ofNat len)] 6)) (T3.setTop (mkF m 3 #[.val (.ref b), .val (.int (Int32.ofNat o)), .val (.int (Int32.ofNat len)), .unset, .unset, .unset] [.ref s.heap.size])) := c2.trans (st3 _ (Steps.refl _))
  have c5 : Steps p.tables e below (s₁.setTop (entryFrame m #[.ref b, .int (Int32.ofNat o), .int (Int32.ofNat len)] 6)) (T3.setTop (mkF m 9 #[.val (.ref b), .val (.int (Int32.ofNat o)), .val (.int (Int32.ofNat len)), .val (.ref s.heap.size), .unset, .unset] [.int (Int32.ofNat len), .int 0, .ref s.heap.size, .int (Int32.ofNat o), .ref b])) := c4.trans (by
    refine XS.astoreN X3.here hexec rfl (hb hbytes d3) rfl rfl rfl ?_
    refine XS.aloadN X3.here hexec rfl (hb hbytes d4) rfl rfl ?_
    refine XS.iloadN X3.here hexec rfl (hb hbytes d5) rfl ?_
    refine XS.aloadN X3.here hexec rfl (hb hbytes d6) rfl rfl ?_
    refine iconstV X3.here hexec rfl 0 (hb hbytes d7) (by decide) ?_
    refine XS.iloadN X3.here hexec rfl (hb hbytes d8) rfl ?_
    exact Steps.refl _)
  obtain ⟨v6, T6, X6, E6, g6⟩ := X3.callS hexec (Cmp5.law l b A s.heap.size B3 o 0 len) hown (wks W (staticW U16 115 Cmp5.yN)) (wk W Cmp5.tab) (W := 0) (Nat.le_of_ble_eq_true rfl) (Nat.le_of_ble_eq_true rfl) (Nat.le_refl _) (by show 0 + len + 0 ≤ len; omega) (g := (mkF m 9 #[.val (.ref b), .val (.int (Int32.ofNat o)), .val (.int (Int32.ofNat len)), .val (.ref s.heap.size), .unset, .unset] [.int (Int32.ofNat len), .int (Int32.ofNat 0), .ref s.heap.size, .int (Int32.ofNat o), .ref b])) rfl (by rw [hml]; rfl) c5 (argsL := [.ref b, .int (Int32.ofNat o), .ref s.heap.size, .int (Int32.ofNat 0), .int (Int32.ofNat len)]) (rest := []) rfl rfl (by show 2 * 0 + 0 ≤ _; decide) (hb hbytes d9) (⟨rfl, hA3, ba3, hne, l1, by rw [bs3]; simp, hp⟩)
  obtain ⟨rfl, B6, p6, f6⟩ := E6
  have c7 : Steps p.tables e below (s₁.setTop (entryFrame m #[.ref b, .int (Int32.ofNat o), .int (Int32.ofNat len)] 6)) (T6.setTop (mkF m 12 #[.val (.ref b), .val (.int (Int32.ofNat o)), .val (.int (Int32.ofNat len)), .val (.ref s.heap.size), .unset, .unset] [.int (Int32.ofNat len)])) := g6
  have c8 : Steps p.tables e below (s₁.setTop (entryFrame m #[.ref b, .int (Int32.ofNat o), .int (Int32.ofNat len)] 6)) (T6.setTop (mkF m 58 #[.val (.ref b), .val (.int (Int32.ofNat o)), .val (.int (Int32.ofNat len)), .val (.ref s.heap.size), .val (.int (Int32.ofNat len)), .unset] [.ref s.heap.size])) := c7.trans (by
    refine XS.istore X6.here hexec rfl (hb hbytes d12) rfl rfl ?_
    refine XS.iload X6.here hexec rfl (hb hbytes d14) rfl ?_
    refine XS.iloadN X6.here hexec rfl (hb hbytes d16) rfl ?_
    refine XS.icmpYes X6.here hexec rfl (pc0 := 17) rfl (hb hbytes d17) rfl (ii_eq_t rfl) (by decide) rfl ?_
    refine XS.aloadN X6.here hexec rfl (hb hbytes d57) rfl rfl ?_
    exact Steps.refl _)
  have X8 := X6.wide (L' := []) (cells' := 1) (slots' := len) (fun x hx hlt => by
    simp only [List.nil_append, copyLocs, List.mem_map, List.mem_range] at hx
    obtain ⟨i, -, rfl⟩ := hx
    exact absurd hlt (Nat.lt_irrefl _)) (Nat.le_refl _) (by omega)
  exact ⟨T6, some (.ref s.heap.size), _, _, _, X8, rfl, rfl, rfl, (fun h => by cases h), ⟨⟨rfl, B6, ba3.like (X3.warmed.alike.symm.trans X6.warmed.alike) p6.1 f6.1 f6.2.1 f6.2.2.1, f6.2.1.trans bv3, by rw [X6.warmed.alike.findClass, f6.1]; exact bf3, by rw [f6.2.2.1, bs3]; simp, fun j hj => by rw [f6.2.2.2 j, if_pos (by omega)]; rfl, kp3.put p6 (Nat.le_refl _)⟩, by rw [p6.2.2, bh3, hh0]; simp⟩, fun fs hl => c8.trans (X8.areturnOut hexec rfl hret rfl (hb hbytes d58) hl)⟩
end Cmp3
namespace CodL
def yN : MethodName := ⟨"java/lang/StringUTF16", "coderFromArrayLen", "([BI)B"⟩
abbrev yB : ByteArray := jdk_52_method_15_code
theorem d0 : decode yB 0 = .ok (.iload_n 1, 1) := by decide +kernel
theorem d1 : decode yB 1 = .ok (.aload_n 0, 1) := by decide +kernel
theorem d2 : decode yB 2 = .ok (.arraylength, 1) := by decide +kernel
theorem d3 : decode yB 3 = .ok (.isub, 1) := by decide +kernel
theorem d4 : decode yB 4 = .ok (.bipush 31, 2) := by decide +kernel
theorem d6 : decode yB 6 = .ok (.iushr, 1) := by decide +kernel
theorem d7 : decode yB 7 = .ok (.i2b, 1) := by decide +kernel
theorem d8 : decode yB 8 = .ok (.ireturn, 1) := by decide +kernel
def site : List Cond := []
def tab : Cond := tabOf yN yB 2 (some .byte) site
def P (d : Addr) (B : Cell) (args : Array Value) (s : State) : Prop := args = #[.ref d, .int (Int32.ofNat B.slots.size)] ∧ Arr .byte d B s
def E (r : Option Value) (s u : State) : Prop := XT.PureE (some (.int 0)) r s u
/-- an array as long as the number of chars: LATIN1 -/
theorem law (l : Launch) (d : Addr) (B : Cell) : Law l yN 2 2 0 0 yB 2 (some .byte) site (P d B) E [] 0 0 := by
  refine Law.of_walk (plainFor_of_name (by decide +kernel)) (by decide +kernel) (by decide +kernel) (by decide) (fun _ _ h => by rw [h.1]; rfl) (fun _ U U' hal hh h => ⟨h.1, h.2.mv hal hh⟩) (fun r U U' V V' h1 hal h2 h => XT.PureE.mv r U U' V V' h1 hal h2 h) ?_
  intro p e s m args below meth c s₁ X0 hexec hbytes hml hret hlk hnm hown hh0 W hP
  obtain ⟨rfl, hB⟩ := hP
  have hB0 := hB.mv X0.warmed.alike hh0
  have c1 : Steps p.tables e below (s₁.setTop (entryFrame m #[.ref d, .int (Int32.ofNat B.slots.size)] 2)) (s₁.setTop (mkF m 0 #[.val (.ref d), .val (.int (Int32.ofNat B.slots.size))] [])) := entry rfl
  have c2 : Steps p.tables e below (s₁.setTop (entryFrame m #[.ref d, .int (Int32.ofNat B.slots.size)] 2)) (s₁.setTop (mkF m 2 #[.val (.ref d), .val (.int (Int32.ofNat B.slots.size))] [.ref d, .int (Int32.ofNat B.slots.size)])) := c1.trans (by
    refine XS.iloadN X0.here hexec rfl (hb hbytes d0) rfl ?_
    refine XS.aloadN X0.here hexec rfl (hb hbytes d1) rfl rfl ?_
    exact Steps.refl _)
  have c3 : Steps p.tables e below (s₁.setTop (entryFrame m #[.ref d, .int (Int32.ofNat B.slots.size)] 2)) (s₁.setTop (mkF m 8 #[.val (.ref d), .val (.int (Int32.ofNat B.slots.size))] [.int (lo8 (ushr (Int32.ofNat B.slots.size - Int32.ofNat B.slots.size) 31))])) := c2.trans (by
    refine X0.alen hexec hB0 rfl rfl (hb hbytes d2) ?_
    refine XS.isub X0.here hexec rfl (hb hbytes d3) rfl ?_
    refine bipushV X0.here hexec rfl 31 (hb hbytes d4) (by decide) ?_
    refine iushr X0.here hexec rfl (hb hbytes d6) rfl ?_
    refine i2b X0.here hexec rfl (hb hbytes d7) rfl ?_
    exact Steps.refl _)
  have e0 : lo8 (ushr (Int32.ofNat B.slots.size - Int32.ofNat B.slots.size) 31) = 0 := by rw [Int32.sub_self]; decide
  rw [e0] at c3
  exact ⟨s₁, some (.int 0), _, _, _, X0, rfl, rfl, rfl, (fun h => by cases h), ⟨rfl, hh0⟩, fun fs hl => c3.trans (X0.ireturnOut hexec hret rfl (Or.inr (Or.inr (Or.inl rfl))) (hb hbytes d8) hl)⟩
end CodL
/-- the String at a is Latin-1 over a new byte[] (the heap's one new cell): the low bytes of the len chars of A from o on; every cell but a is kept -/
def Got (a : Addr) (D : Cell) (fV fC : Field) (A : Cell) (o len : Nat) (r : Option Value) (s u : State) : Prop := r = none ∧ ∃ D' V : Cell, Blank "java/lang/String" a D' u ∧ Same D D' [fV.slot, fC.slot] ∧ D'.slots[fV.slot]? = some (.ref s.heap.size) ∧ D'.slots[fC.slot]? = some (.int 0) ∧ Arr .byte s.heap.size V u ∧ V.vm = .none ∧ u.vm.findClass "[B" = some V.cls ∧ V.slots.size = len ∧ (∀ j, j < len → V.slots[j]? = some (.int (lo8 (cv A (o + j))))) ∧ (∀ (y : Addr) (c : Cell), y ≠ a → s.heap[y]? = some c → u.heap[y]? = some c) ∧ u.heap.size = s.heap.size + 1
theorem Got.mv {a : Addr} {D A : Cell} {fV fC : Field} {o len : Nat} : ∀ r (U U' V V' : State), U'.heap = U.heap → V.vm.Alike V'.vm → V'.heap = V.heap → Got a D fV fC A o len r U V → Got a D fV fC A o len r U' V' :=
  fun r U U' V V' h1 hal h2 ⟨e0, D', X, a1, a2, a3, a4, a5, a6, a7, a8, a9, a10, a11⟩ => ⟨e0, D', X, a1.mv hal h2, a2, by rw [h1]; exact a3, a4, by rw [h1]; exact a5.mv hal h2, a6, by rw [hal.findClass]; exact a7, a8, a9, by rw [h1, h2]; exact a10, by rw [h1, h2]; exact a11⟩
namespace New4
def yN : MethodName := ⟨"java/lang/String", "<init>", "([CIILjava/lang/Void;)V"⟩
abbrev yB : ByteArray := jdk_42_method_149_code
theorem d0 : decode yB 0 = .ok (.aload_n 0, 1) := by decide +kernel
theorem d1 : decode yB 1 = .ok (.invokespecial 1, 3) := by decide +kernel
theorem d4 : decode yB 4 = .ok (.iload_n 3, 1) := by decide +kernel
theorem d5 : decode yB 5 = .ok (.ifCond (.ne) 22, 3) := by decide +kernel
theorem d27 : decode yB 27 = .ok (.getstatic 38, 3) := by decide +kernel
theorem d30 : decode yB 30 = .ok (.ifCond (.eq) 28, 3) := by decide +kernel
theorem d33 : decode yB 33 = .ok (.aload_n 1, 1) := by decide +kernel
theorem d34 : decode yB 34 = .ok (.iload_n 2, 1) := by decide +kernel
theorem d35 : decode yB 35 = .ok (.iload_n 3, 1) := by decide +kernel
theorem d36 : decode yB 36 = .ok (.invokestatic 177, 3) := by decide +kernel
theorem d39 : decode yB 39 = .ok (.astore 5, 2) := by decide +kernel
theorem d41 : decode yB 41 = .ok (.aload_n 0, 1) := by decide +kernel
theorem d42 : decode yB 42 = .ok (.aload 5, 2) := by decide +kernel
theorem d44 : decode yB 44 = .ok (.iload_n 3, 1) := by decide +kernel
theorem d45 : decode yB 45 = .ok (.invokestatic 47, 3) := by decide +kernel
theorem d48 : decode yB 48 = .ok (.putfield 15, 3) := by decide +kernel
theorem d51 : decode yB 51 = .ok (.aload_n 0, 1) := by decide +kernel
theorem d52 : decode yB 52 = .ok (.aload 5, 2) := by decide +kernel
theorem d54 : decode yB 54 = .ok (.putfield 9, 3) := by decide +kernel
theorem d57 : decode yB 57 = .ok (.return_, 1) := by decide +kernel
def site : List Cond := [.fieldLink "java/lang/String" 38 "java/lang/String" "COMPACT_STRINGS" "Z", Cmp3.tab, CodL.tab, .laysFinal "java/lang/String" "java/lang/String" "value" "[B", .fieldLink "java/lang/String" 9 "java/lang/String" "value" "[B", .laysFinal "java/lang/String" "java/lang/String" "coder" "B", .fieldLink "java/lang/String" 15 "java/lang/String" "coder" "B"] ++ objW "java/lang/String" 1 ++ staticW "java/lang/String" 177 Cmp3.yN ++ staticW "java/lang/String" 47 CodL.yN
def tab : Cond := tabOf yN yB 6 none site
def P (a : Addr) (D : Cell) (fV fC : Field) (b : Addr) (A : Cell) (z : Int32) (o len : Nat) (args : Array Value) (s : State) : Prop := args = #[.ref a, .ref b, .int (Int32.ofNat o), .int (Int32.ofNat len), .null] ∧ Blank "java/lang/String" a D s ∧ Found "java/lang/String" "value" "[B" fV s ∧ Found "java/lang/String" "coder" "B" fC s ∧ Ch b A s ∧ StaticIs s "java/lang/String" "COMPACT_STRINGS" "Z" (.int z) ∧ ¬ z = 0 ∧ 0 < len ∧ o + len ≤ A.slots.size ∧ len ≤ 536870912 ∧ ∀ i, i < len → ¬ 255 < cv A (o + i)
def E (a : Addr) (D : Cell) (fV fC : Field) (A : Cell) (o len : Nat) (r : Option Value) (s u : State) : Prop := Got a D fV fC A o len r s u
/-- len > 0, no char of the range above 255: a Latin-1 String of their low bytes -/
theorem law (l : Launch) (a : Addr) (D : Cell) (fV fC : Field) (b : Addr) (A : Cell) (z : Int32) (o len : Nat) : Law l yN 5 4 2 35 yB 6 none site (P a D fV fC b A z o len) (E a D fV fC A o len) [⟨a, fC.slot⟩, ⟨a, fV.slot⟩] 1 len := by
  refine Law.of_walk (plainFor_of_name (by decide +kernel)) (by decide +kernel) (by decide +kernel) (by decide) (fun _ _ h => by rw [h.1]; rfl) (fun _ U U' hal hh h => ⟨h.1, h.2.1.mv hal hh, h.2.2.1.al hal, h.2.2.2.1.al hal, h.2.2.2.2.1.mv hal hh, h.2.2.2.2.2.1.there hal hh, h.2.2.2.2.2.2⟩) (fun r U U' V V' h1 hal h2 h => Got.mv r U U' V V' h1 hal h2 h) ?_
  intro p e s m args below meth c s₁ X0 hexec hbytes hml hret hlk hnm hown hh0 W hP
  obtain ⟨rfl, hB, f1, f2, hA, s1, hz, l0, l1, l2, hp⟩ := hP
  have a31 := hA.1.2.2.2
  have c1 : Steps p.tables e below (s₁.setTop (entryFrame m #[.ref a, .ref b, .int (Int32.ofNat o), .int (Int32.ofNat len), .null] 6)) (s₁.setTop (mkF m 0 #[.val (.ref a), .val (.ref b), .val (.int (Int32.ofNat o)), .val (.int (Int32.ofNat len)), .val .null, .unset] [])) := entry rfl
  have c2 : Steps p.tables e below (s₁.setTop (entryFrame m #[.ref a, .ref b, .int (Int32.ofNat o), .int (Int32.ofNat len), .null] 6)) (s₁.setTop (mkF m 1 #[.val (.ref a), .val (.ref b), .val (.int (Int32.ofNat o)), .val (.int (Int32.ofNat len)), .val .null, .unset] [.ref a])) := c1.trans (by
    refine XS.aloadN X0.here hexec rfl (hb hbytes d0) rfl rfl ?_
    exact Steps.refl _)
  obtain ⟨T3, X3, q3, st3⟩ := X0.oinit hexec hown (wks W (objW "java/lang/String" 1)) (g := (mkF m 1 #[.val (.ref a), .val (.ref b), .val (.int (Int32.ofNat o)), .val (.int (Int32.ofNat len)), .val .null, .unset] [.ref a])) rfl (by rw [hml]; rfl) (rest := []) rfl (hb hbytes d1) (W := 0) (by show 2 * 0 + 0 ≤ _; decide) (Nat.le_of_ble_eq_true rfl) (Nat.le_of_ble_eq_true rfl)
  have hh3 := q3.trans hh0
  have c4 : Steps p.tables e below (s₁.setTop (entryFrame m #[.ref a, .ref b, .int (Int32.ofNat o), .int (Int32.ofNat len), .null] 6)) (T3.setTop (mkF m 27 #[.val (.ref a), .val (.ref b), .val (.int (Int32.ofNat o)), .val (.int (Int32.ofNat len)), .val .null, .unset] [])) := (c2.trans (st3 _ (Steps.refl _))).trans (by
    refine XS.iloadN X3.here hexec rfl (hb hbytes d4) rfl ?_
    refine XS.ifYes X3.here hexec rfl (pc0 := 5) rfl (hb hbytes d5) rfl (i0_ne_t (nz32 (by omega) l0)) (by decide) rfl ?_
    exact Steps.refl _)
  obtain ⟨T5, X5, q5, st5⟩ := X3.sget hexec hown (wk W (.fieldLink "java/lang/String" 38 "java/lang/String" "COMPACT_STRINGS" "Z")) s1 (fun _ _ h => by rw [hh3]; exact h) (g := (mkF m 27 #[.val (.ref a), .val (.ref b), .val (.int (Int32.ofNat o)), .val (.int (Int32.ofNat len)), .val .null, .unset] [])) rfl (hb hbytes d27)
  have hh5 := q5.trans hh3
  have c6 : Steps p.tables e below (s₁.setTop (entryFrame m #[.ref a, .ref b, .int (Int32.ofNat o), .int (Int32.ofNat len), .null] 6)) (T5.setTop (mkF m 30 #[.val (.ref a), .val (.ref b), .val (.int (Int32.ofNat o)), .val (.int (Int32.ofNat len)), .val .null, .unset] [.int z])) := c4.trans (st5 _ (Steps.refl _))
  have c7 : Steps p.tables e below (s₁.setTop (entryFrame m #[.ref a, .ref b, .int (Int32.ofNat o), .int (Int32.ofNat len), .null] 6)) (T5.setTop (mkF m 36 #[.val (.ref a), .val (.ref b), .val (.int (Int32.ofNat o)), .val (.int (Int32.ofNat len)), .val .null, .unset] [.int (Int32.ofNat len), .int (Int32.ofNat o), .ref b])) := c6.trans (by
    refine XS.ifNo X5.here hexec rfl (hb hbytes d30) rfl (i0_eq_f hz) ?_
    refine XS.aloadN X5.here hexec rfl (hb hbytes d33) rfl rfl ?_
    refine XS.iloadN X5.here hexec rfl (hb hbytes d34) rfl ?_
    refine XS.iloadN X5.here hexec rfl (hb hbytes d35) rfl ?_
    exact Steps.refl _)
  obtain ⟨v8, T8, X8, E8, g8⟩ := X5.callS hexec (Cmp3.law l b A o len) hown (wks W (staticW "java/lang/String" 177 Cmp3.yN)) (wk W Cmp3.tab) (W := 0) (Nat.le_of_ble_eq_true rfl) (Nat.le_of_ble_eq_true rfl) (Nat.le_refl _) (by show 0 + len ≤ len; omega) (g := (mkF m 36 #[.val (.ref a), .val (.ref b), .val (.int (Int32.ofNat o)), .val (.int (Int32.ofNat len)), .val .null, .unset] [.int (Int32.ofNat len), .int (Int32.ofNat o), .ref b])) rfl (by rw [hml]; rfl) c7 (argsL := [.ref b, .int (Int32.ofNat o), .int (Int32.ofNat len)]) (rest := []) rfl rfl (by show 2 * 0 + 0 ≤ _; decide) (hb hbytes d36) (⟨rfl, hA.mv X5.warmed.alike hh5, l1, l2, hp⟩)
  obtain ⟨e8, z8⟩ := E8
  obtain ⟨rfl, N, n1, n2, n3, n4, n5, n6⟩ := NewArr.mv _ T5 s _ _ hh5.symm (Vm.Alike.refl _) rfl e8
  rw [hh5] at z8
  have hB1 := hB.keep X8.warmed.alike (n6 _ _ hB.1)
  have hne : s.heap.size ≠ a := (Nat.ne_of_lt (Array.getElem?_eq_some_iff.mp hB.1).1).symm
  have c9 : Steps p.tables e below (s₁.setTop (entryFrame m #[.ref a, .ref b, .int (Int32.ofNat o), .int (Int32.ofNat len), .null] 6)) (T8.setTop (mkF m 39 #[.val (.ref a), .val (.ref b), .val (.int (Int32.ofNat o)), .val (.int (Int32.ofNat len)), .val .null, .unset] [.ref s.heap.size])) := g8
  have c10 : Steps p.tables e below (s₁.setTop (entryFrame m #[.ref a, .ref b, .int (Int32.ofNat o), .int (Int32.ofNat len), .null] 6)) (T8.setTop (mkF m 45 #[.val (.ref a), .val (.ref b), .val (.int (Int32.ofNat o)), .val (.int (Int32.ofNat len)), .val .null, .val (.ref s.heap.size)] [.int (Int32.ofNat N.slots.size), .ref s.heap.size, .ref a])) := by
    have hc : Steps p.tables e below (s₁.setTop (entryFrame m #[.ref a, .ref b, .int (Int32.ofNat o), .int (Int32.ofNat len), .null] 6)) (T8.setTop (mkF m 45 #[.val (.ref a), .val (.ref b), .val (.int (Int32.ofNat o)), .val (.int (Int32.ofNat len)), .val .null, .val (.ref s.heap.size)] [.int (Int32.ofNat len), .ref s.heap.size, .ref a])) := c9.trans (by
      refine XS.astore X8.here hexec rfl (hb hbytes d39) rfl rfl rfl ?_
      refine XS.aloadN X8.here hexec rfl (hb hbytes d41) rfl rfl ?_
      refine XS.aload X8.here hexec rfl (hb hbytes d42) rfl rfl ?_
      refine XS.iloadN X8.here hexec rfl (hb hbytes d44) rfl ?_
      exact Steps.refl _)
    rw [n4]; exact hc
  obtain ⟨v11, T11, X11, E11, g11⟩ := X8.callS hexec (CodL.law l s.heap.size N) hown (wks W (staticW "java/lang/String" 47 CodL.yN)) (wk W CodL.tab) (W := 1) (Nat.le_of_ble_eq_true rfl) (Nat.le_of_ble_eq_true rfl) (Nat.le_refl _) (by show 0 + len + 0 ≤ len; omega) (g := (mkF m 45 #[.val (.ref a), .val (.ref b), .val (.int (Int32.ofNat o)), .val (.int (Int32.ofNat len)), .val .null, .val (.ref s.heap.size)] [.int (Int32.ofNat N.slots.size), .ref s.heap.size, .ref a])) rfl (by rw [hml]; rfl) c10 (argsL := [.ref s.heap.size, .int (Int32.ofNat N.slots.size)]) (rest := [.ref a]) rfl rfl (by show 2 * 0 + (1 + 0) ≤ _; decide) (hb hbytes d45) (⟨rfl, n1⟩)
  obtain ⟨rfl, q11⟩ := E11
  have hB11 := hB1.mv (X8.warmed.alike.symm.trans X11.warmed.alike) q11
  have c12 : Steps p.tables e below (s₁.setTop (entryFrame m #[.ref a, .ref b, .int (Int32.ofNat o), .int (Int32.ofNat len), .null] 6)) (T11.setTop (mkF m 48 #[.val (.ref a), .val (.ref b), .val (.int (Int32.ofNat o)), .val (.int (Int32.ofNat len)), .val .null, .val (.ref s.heap.size)] [.int 0, .ref a])) := g11
  obtain ⟨T13, X13, p13, bl13, sl13, st13⟩ := X11.finit hexec hown (wk W (.fieldLink "java/lang/String" 15 "java/lang/String" "coder" "B")) (Or.inr ⟨_, (wk W (.laysFinal "java/lang/String" "java/lang/String" "coder" "B"))⟩) (Or.inl ⟨rfl, hnm⟩) f2 (Or.inl rfl) hB11 (t := .byte) (by decide +kernel) rfl (g := (mkF m 48 #[.val (.ref a), .val (.ref b), .val (.int (Int32.ofNat o)), .val (.int (Int32.ofNat len)), .val .null, .val (.ref s.heap.size)] [.int 0, .ref a])) rfl (rest := []) rfl (hb hbytes d48)
  have c14 : Steps p.tables e below (s₁.setTop (entryFrame m #[.ref a, .ref b, .int (Int32.ofNat o), .int (Int32.ofNat len), .null] 6)) (T13.setTop (mkF m 54 #[.val (.ref a), .val (.ref b), .val (.int (Int32.ofNat o)), .val (.int (Int32.ofNat len)), .val .null, .val (.ref s.heap.size)] [.ref s.heap.size, .ref a])) := (c12.trans (st13 _ (Steps.refl _))).trans (by
    refine XS.aloadN X13.here hexec rfl (hb hbytes d51) rfl rfl ?_
    refine XS.aload X13.here hexec rfl (hb hbytes d52) rfl rfl ?_
    exact Steps.refl _)
  obtain ⟨T15, X15, p15, bl15, sl15, st15⟩ := X13.finit hexec hown (wk W (.fieldLink "java/lang/String" 9 "java/lang/String" "value" "[B")) (Or.inr ⟨_, (wk W (.laysFinal "java/lang/String" "java/lang/String" "value" "[B"))⟩) (Or.inl ⟨rfl, hnm⟩) f1 (Or.inl rfl) bl13 (t := (.array .byte)) (by decide +kernel) rfl (g := (mkF m 54 #[.val (.ref a), .val (.ref b), .val (.int (Int32.ofNat o)), .val (.int (Int32.ofNat len)), .val .null, .val (.ref s.heap.size)] [.ref s.heap.size, .ref a])) rfl (rest := []) rfl (hb hbytes d54)
  have c16 : Steps p.tables e below (s₁.setTop (entryFrame m #[.ref a, .ref b, .int (Int32.ofNat o), .int (Int32.ofNat len), .null] 6)) (T15.setTop (mkF m 57 #[.val (.ref a), .val (.ref b), .val (.int (Int32.ofNat o)), .val (.int (Int32.ofNat len)), .val .null, .val (.ref s.heap.size)] [])) := c14.trans (st15 _ (Steps.refl _))
  have ap := apart (Or.inr ⟨_, (wk W (.laysFinal "java/lang/String" "java/lang/String" "value" "[B"))⟩) (Or.inr ⟨_, (wk W (.laysFinal "java/lang/String" "java/lang/String" "coder" "B"))⟩) f1 f2 (t₁ := .array .byte) (t₂ := .byte) (by decide +kernel) (by decide +kernel) (by decide)
  have al := X8.warmed.alike.symm.trans X15.warmed.alike
  have n7 : T11.heap[s.heap.size]? = some N := by rw [q11]; exact n1.1
  exact ⟨T15, none, _, _, _, X15, by simp, rfl, by omega, (fun _ => rfl), ⟨rfl, _, N, bl15, ((Same.refl D _).set _ (by simp)).set _ (by simp), sl15, (Cell.slots_setSlot_ne _ ap).trans sl13, n1.keep al (p15.other hne (p13.other hne n7)), n2, by rw [al.findClass]; exact n3, n4, n5, fun y c h1 h2 => p15.other h1 (p13.other h1 (by rw [q11]; exact n6 y c h2)), by rw [p15.2.2, p13.2.2, q11]; exact z8⟩, fun fs hl => c16.trans (X15.returnOut hexec hret (hb hbytes d57) hl)⟩
end New4
namespace New1
def yN : MethodName := ⟨"java/lang/String", "<init>", "([C)V"⟩
abbrev yB : ByteArray := jdk_42_method_3_code
theorem d0 : decode yB 0 = .ok (.aload_n 0, 1) := by decide +kernel
theorem d1 : decode yB 1 = .ok (.aload_n 1, 1) := by decide +kernel
theorem d2 : decode yB 2 = .ok (.iconst 0, 1) := by decide +kernel
theorem d3 : decode yB 3 = .ok (.aload_n 1, 1) := by decide +kernel
theorem d4 : decode yB 4 = .ok (.arraylength, 1) := by decide +kernel
theorem d5 : decode yB 5 = .ok (.aconst_null, 1) := by decide +kernel
theorem d6 : decode yB 6 = .ok (.invokespecial 27, 3) := by decide +kernel
theorem d9 : decode yB 9 = .ok (.return_, 1) := by decide +kernel
def site : List Cond := [New4.tab] ++ initW "java/lang/String" 27 New4.yN
def tab : Cond := tabOf yN yB 2 none site
def P (a : Addr) (D : Cell) (fV fC : Field) (b : Addr) (A : Cell) (z : Int32) (args : Array Value) (s : State) : Prop := args = #[.ref a, .ref b] ∧ Blank "java/lang/String" a D s ∧ Found "java/lang/String" "value" "[B" fV s ∧ Found "java/lang/String" "coder" "B" fC s ∧ Ch b A s ∧ StaticIs s "java/lang/String" "COMPACT_STRINGS" "Z" (.int z) ∧ ¬ z = 0 ∧ 0 < A.slots.size ∧ A.slots.size ≤ 536870912 ∧ ∀ i, i < A.slots.size → ¬ 255 < cv A i
def E (a : Addr) (D : Cell) (fV fC : Field) (A : Cell) (r : Option Value) (s u : State) : Prop := Got a D fV fC A 0 A.slots.size r s u
/-- new String(chars), not empty, no char above 255: a Latin-1 String of their low bytes -/
theorem law (l : Launch) (a : Addr) (D : Cell) (fV fC : Field) (b : Addr) (A : Cell) (z : Int32) : Law l yN 2 1 3 52 yB 2 none site (P a D fV fC b A z) (E a D fV fC A) [⟨a, fC.slot⟩, ⟨a, fV.slot⟩] 1 A.slots.size := by
  refine Law.of_walk (plainFor_of_name (by decide +kernel)) (by decide +kernel) (by decide +kernel) (by decide) (fun _ _ h => by rw [h.1]; rfl) (fun _ U U' hal hh h => ⟨h.1, h.2.1.mv hal hh, h.2.2.1.al hal, h.2.2.2.1.al hal, h.2.2.2.2.1.mv hal hh, h.2.2.2.2.2.1.there hal hh, h.2.2.2.2.2.2⟩) (fun r U U' V V' h1 hal h2 h => Got.mv r U U' V V' h1 hal h2 h) ?_
  intro p e s m args below meth c s₁ X0 hexec hbytes hml hret hlk hnm hown hh0 W hP
  obtain ⟨rfl, hB, f1, f2, hA, s1, hz, l0, l2, hp⟩ := hP
  have c1 : Steps p.tables e below (s₁.setTop (entryFrame m #[.ref a, .ref b] 2)) (s₁.setTop (mkF m 0 #[.val (.ref a), .val (.ref b)] [])) := entry rfl
  have c2 : Steps p.tables e below (s₁.setTop (entryFrame m #[.ref a, .ref b] 2)) (s₁.setTop (mkF m 6 #[.val (.ref a), .val (.ref b)] [.null, .int (Int32.ofNat A.slots.size), .int 0, .ref b, .ref a])) := c1.trans (by
    refine XS.aloadN X0.here hexec rfl (hb hbytes d0) rfl rfl ?_
    refine XS.aloadN X0.here hexec rfl (hb hbytes d1) rfl rfl ?_
    refine iconstV X0.here hexec rfl 0 (hb hbytes d2) (by decide) ?_
    refine XS.aloadN X0.here hexec rfl (hb hbytes d3) rfl rfl ?_
    refine X0.alen hexec (hA.1.mv X0.warmed.alike hh0) rfl rfl (hb hbytes d4) ?_
    refine XS.aconstNull X0.here hexec rfl (hb hbytes d5) ?_
    exact Steps.refl _)
  obtain ⟨v3, T3, X3, E3, g3⟩ := X0.callN hexec (New4.law l a D fV fC b A z 0 A.slots.size) rfl hown (wks W (initW "java/lang/String" 27 New4.yN)) (W New4.tab (by simp only [site, List.mem_cons, List.mem_append, true_or, or_true])) (W := 0) (Nat.le_of_ble_eq_true rfl) (Nat.le_of_ble_eq_true rfl) (Nat.le_refl _) (by show 0 + A.slots.size ≤ A.slots.size; omega) (g := (mkF m 6 #[.val (.ref a), .val (.ref b)] [.null, .int (Int32.ofNat A.slots.size), .int (Int32.ofNat 0), .ref b, .ref a])) rfl (by rw [hml]; rfl) c2 (argsL := [.ref b, .int (Int32.ofNat 0), .int (Int32.ofNat A.slots.size), .null]) (rest := []) rfl rfl (by show 2 * 0 + 0 ≤ _; decide) (hb hbytes d6) (⟨rfl, hB.mv X0.warmed.alike hh0, f1.al X0.warmed.alike, f2.al X0.warmed.alike, hA.mv X0.warmed.alike hh0, s1.there X0.warmed.alike hh0, hz, l0, by omega, l2, fun i hi => by rw [Nat.zero_add]; exact hp i hi⟩)
  have e0 := Got.mv _ s₁ s _ _ hh0.symm (Vm.Alike.refl _) rfl E3
  obtain rfl := e0.1
  have c4 : Steps p.tables e below (s₁.setTop (entryFrame m #[.ref a, .ref b] 2)) (T3.setTop (mkF m 9 #[.val (.ref a), .val (.ref b)] [])) := g3
  exact ⟨T3, none, _, _, _, X3, by simp, rfl, by omega, (fun _ => rfl), e0, fun fs hl => c4.trans (X3.returnOut hexec hret (hb hbytes d9) hl)⟩
theorem pays {l : Launch} {R : Room} {p : Program} {e : Env} {below : List Frame} {s : State} {sargs : Array Value} {len W : Nat} (a : Addr) (D : Cell) (fV fC : Field) (b : Addr) (A : Cell) (z : Int32) (htab : tab.before sargs s = true) (hfr : 4 ≤ R.frames) (hlo : W + 65 ≤ R.locals) :
    Back l R p e below s sargs yN len W (fun A₁ a₁ => A₁.cells + 1 ≤ R.cells ∧ A₁.slots + A.slots.size ≤ R.slots ∧ P a D fV fC b A z a₁ A₁.U) (fun A₁ _ v₁ B₁ => E a D fV fC A v₁ A₁.U B₁.U ∧ B₁.locs = A₁.locs ++ [⟨a, fC.slot⟩, ⟨a, fV.slot⟩] ∧ B₁.cells = A₁.cells + 1 ∧ B₁.slots = A₁.slots + A.slots.size) :=
  (law l a D fV fC b A z).pays htab hfr (by omega)
end New1
end StrChars
namespace StrChars.Road
open Jvm Sem ClassFile Op Lib Jvm.Stand Jvm.Free Jvm.Free.XT
open Jvm.Lib.Cold (StaticIs)
abbrev ST : String := "java/lang/String"
/-- every table word that New1's law asks, flat -/
abbrev words : List Jvm.Cond := [.code New1.yN New1.yB 2 none, .initialized ST, .methodLink ST 27 New4.yN, .instanceMethod New4.yN,
  .code New4.yN New4.yB 6 none, .fieldLink ST 38 ST "COMPACT_STRINGS" "Z", .laysFinal ST ST "value" "[B", .fieldLink ST 9 ST "value" "[B", .laysFinal ST ST "coder" "B", .fieldLink ST 15 ST "coder" "B",
  .methodLink ST 1 Lib.objectInit, .instanceMethod Lib.objectInit, .code Lib.objectInit ⟨#[0xb1]⟩ 1 none, .methodLink ST 177 Cmp3.yN, .static Cmp3.yN, .methodLink ST 47 CodL.yN, .static CodL.yN,
  .code Cmp3.yN Cmp3.yB 6 (some (.array .byte)), .initialized U16, .arrayClass .byte, .methodLink U16 115 Cmp5.yN, .static Cmp5.yN, .code Cmp5.yN Cmp5.yB 7 (some .int), .code CodL.yN CodL.yB 2 (some .byte)]
theorem tab_of {a : Array Value} {s : State} (h : ∀ w ∈ words, w.before a s = true) : New1.tab.before a s = true := by
  have h5 : Cmp5.tab.before a s = true := unparts (wk h (.code Cmp5.yN Cmp5.yB 7 (some .int))) (wks h (.initialized Cmp5.yN.cls :: Cmp5.site))
  have hc : CodL.tab.before a s = true := unparts (wk h (.code CodL.yN CodL.yB 2 (some .byte))) (wks h (.initialized CodL.yN.cls :: CodL.site))
  have q5 : ∀ w ∈ Cmp5.tab :: words, w.before a s = true := fun w hw => (List.mem_cons.mp hw).elim (fun e => e ▸ h5) (h w)
  have h3 : Cmp3.tab.before a s = true := unparts (wk q5 (.code Cmp3.yN Cmp3.yB 6 (some (.array .byte)))) (wks q5 (.initialized Cmp3.yN.cls :: Cmp3.site))
  have q3 : ∀ w ∈ Cmp3.tab :: CodL.tab :: words, w.before a s = true := fun w hw => (List.mem_cons.mp hw).elim (fun e => e ▸ h3) fun hw => (List.mem_cons.mp hw).elim (fun e => e ▸ hc) (h w)
  have h4 : New4.tab.before a s = true := unparts (wk q3 (.code New4.yN New4.yB 6 none)) (wks q3 (.initialized New4.yN.cls :: New4.site))
  have q4 : ∀ w ∈ New4.tab :: words, w.before a s = true := fun w hw => (List.mem_cons.mp hw).elim (fun e => e ▸ h4) (h w)
  exact unparts (wk q4 (.code New1.yN New1.yB 2 none)) (wks q4 (.initialized New1.yN.cls :: New1.site))
/-- the words ride from the start Z to the walk's own state -/
theorem moved {Z s : State} {a0 args : Array Value} (hZ : Z.Warmed39 s.vm) (hw : ∀ d ∈ words, d.before a0 Z = true) : ∀ d ∈ words, d.before args s = true := fun d hd => by
  have q := hw d hd
  have t : ∀ d ∈ words, d = .arrayClass .byte ∨ (d.onTables && d.keepsFace) = true := by decide +kernel
  rcases t d hd with rfl | t
  · exact RoadKit.mvA hZ q
  · exact RoadKit.mv hZ q t
/-- WHAT COMES BACK, over the tables of the start Z: h the heap at the call, h' behind it -/
def Q (Z : State) (x : Addr) (A : Cell) (h : Heap) (v : Option Value) (h' : Heap) (L : List Loc) : Prop := v = none ∧ (∀ y ∈ L, y.base = x) ∧ RoadKit.Keep h h' [x] ∧ h'.size = h.size + 1 ∧ RoadKit.Exa Z h' x ST ∧ RoadKit.Fld Z h' x ST "value" "[B" (.ref h.size) ∧ RoadKit.Fld Z h' x ST "coder" "B" (.int 0) ∧
  (∃ V : Cell, RoadKit.Arr Z h' h.size V .byte ∧ V.vm = .none ∧ Z.vm.findClass "[B" = some V.cls ∧ V.slots.size = A.slots.size ∧ ∀ j, j < A.slots.size → V.slots[j]? = some (.int (lo8 (cv A j)))) ∧
  ∀ (O n d : String) (w : Value), RoadKit.Fld Z h x O n d w → RoadKit.slotOf Z O n d ≠ RoadKit.slotOf Z ST "value" "[B" → RoadKit.slotOf Z O n d ≠ RoadKit.slotOf Z ST "coder" "B" → RoadKit.Fld Z h' x O n d w
/-- **new String(chars) AT A CALL, IN THE ROAD'S FORM**: for specialBack behind newO: x the fresh String, b the char[] with the cell A -/
theorem back {p : Program} {l : Launch} {e : Env} {R : Room} {s : State} {args : Array Value} {below : List Frame} {len W : Nat} {Z : State} {a0 : Array Value} {h : Heap} (hZ : Z.Warmed39 s.vm) (hw : ∀ d ∈ words, d.before a0 Z = true) {kI : Nat} (wi : (Jvm.Cond.instantiable ST kI).before a0 Z = true)
    {x b : Addr} {A : Cell} {z : Int32} {v0 c0 : Value} (E : RoadKit.Exa Z h x ST) (V : RoadKit.Fld Z h x ST "value" "[B" v0) (C : RoadKit.Fld Z h x ST "coder" "B" c0) (K : RoadKit.Arr Z h b A .char) (hty : Typed .char A) (S : RoadKit.Sta Z h ST "COMPACT_STRINGS" "Z" (.int z)) (hz : ¬ z = 0)
    (l0 : 0 < A.slots.size) (l2 : A.slots.size ≤ 536870912) (hp : ∀ i, i < A.slots.size → ¬ 255 < cv A i) (hfr : 4 ≤ R.frames) (hlo : W + 65 ≤ R.locals) :
    Back l R p e below s args New1.yN len W (fun P a => a = #[.ref x, .ref b] ∧ P.U.heap = h ∧ P.cells + 1 ≤ R.cells ∧ P.slots + A.slots.size ≤ R.slots)
      (fun P _ v B => ∃ L, Q Z x A h v B.U.heap L ∧ B.locs = P.locs ++ L ∧ B.cells = P.cells + 1 ∧ B.slots = P.slots + A.slots.size) := by
  intro m meth c P g ig mk a X hg hsize hdg hW hn hp'
  obtain ⟨rfl, rfl, r1, r2⟩ := hp'
  have al : Z.vm.Alike P.U.vm := hZ.alike.trans X.warmed.alike
  obtain ⟨D, cfV, kV, iV, fV, hD, gV, stV, knV, obV, asV, slV⟩ := id V
  obtain ⟨D', cfC, kC, iC, fC, hD', gC, stC, -, -, asC, slC⟩ := id C
  cases hD.symm.trans hD'
  obtain ⟨D2, kD, e1, e2, e3, e4, e5⟩ := id E
  cases hD.symm.trans e1
  obtain ⟨c2, k2, i1, i2, i3, -⟩ := Cond.instantiable_spec wi
  cases e2.symm.trans i1
  cases e3.symm.trans i2
  obtain ⟨kU, u1, u2⟩ := al.2.2 _ _ e3
  have hB : Blank ST x D P.U := ⟨hD, ⟨knV, fun q hq => by rw [hq] at obV; cases obV⟩, by rw [al.findClass]; exact e2, kU, u1, by rw [u2]; exact i3, by rw [u2]; exact e5 i3⟩
  have F1 : Found ST "value" "[B" fV P.U := ⟨SBG.found_only al ⟨cfV, kV, iV, gV⟩, stV⟩
  have F2 : Found ST "coder" "B" fC P.U := ⟨SBG.found_only al ⟨cfC, kC, iC, gC⟩, stC⟩
  have hA : Ch b A P.U := ⟨⟨K.1, State.isArrayOf_alike al K.2.1, K.2.2, by omega⟩, hty⟩
  have hS : StaticIs P.U ST "COMPACT_STRINGS" "Z" (.int z) := by
    obtain ⟨cfS, iS, kS, fS, st, cS, t1, t2, t3, t4, t5, t6, t7⟩ := S
    exact StaticIs.there (s := { Z with heap := P.U.heap }) ⟨cfS, iS, kS, fS, st, cS, t1, t2, t3, t4, t5, (fun q => by rw [q] at t6; cases t6), t7⟩ al rfl
  obtain ⟨v, B, X', ⟨⟨hv, E', V', q1, q2, q3, q4, q5, q6, q7, q8, q9, q10, q11⟩, hl, hc, hs⟩, st⟩ := New1.pays x D fV fC b A z (tab_of (moved hZ hw)) hfr hlo m meth c P g ig mk _ X hg hsize hdg hW hn ⟨r1, r2, rfl, hB, F1, F2, hA, hS, hz, l0, l2, hp⟩
  have al' : Z.vm.Alike B.U.vm := hZ.alike.trans X'.warmed.alike
  have hsz : E'.slots.size = D.slots.size := by
    obtain ⟨-, -, -, kB, w1, w2, w3⟩ := q1
    obtain ⟨kB', y1, y2⟩ := al'.2.2 _ _ e3
    rw [q2.2.1] at w1
    cases w1.symm.trans y1
    rw [w3, e5 i3, y2]
  refine ⟨v, B, X', ⟨_, ⟨hv, ?_, ⟨by omega, fun y cy hy hn' => q10 y cy (by simpa using hn') hy, fun y cy hy => ?_⟩, q11, ⟨E', _, q1.1, by rw [q2.2.1]; exact e2, by rw [q2.2.1]; exact e3, by rw [q2.1]; exact obV, fun _ => by rw [hsz]; exact e5 i3⟩,
    ⟨E', cfV, kV, iV, fV, q1.1, gV, stV, by rw [q2.1]; exact knV, by rw [q2.1]; exact obV, by rw [q2.2.1]; exact asV, q3⟩, ⟨E', cfC, kC, iC, fC, q1.1, gC, stC, by rw [q2.1]; exact knV, by rw [q2.1]; exact obV, by rw [q2.2.1]; exact asC, q4⟩,
    ⟨V', ⟨q5.1, State.isArrayOf_alike al'.symm q5.2.1, q5.2.2.1⟩, q6, by rw [← al'.findClass]; exact q7, q8, fun j hj => by have := q9 j hj; rwa [Nat.zero_add] at this⟩, fun O n d w F n1 n2 => ?_⟩, hl, hc, hs⟩, st⟩
  · intro y hy
    simp only [List.mem_cons, List.not_mem_nil, or_false] at hy
    rcases hy with rfl | rfl <;> rfl
  · by_cases q : y = x
    · subst q
      cases hD.symm.trans hy
      exact ⟨E', q1.1, q2.2.1, q2.1, hsz⟩
    · exact ⟨cy, q10 y cy q hy, rfl, rfl, rfl⟩
  · obtain ⟨D3, cf, k, i, f, g1, g2, g3, g4, g5, g6, g7⟩ := F
    cases hD.symm.trans g1
    simp only [RoadKit.slotOf, g2, gV, gC, Option.map_some, Option.getD_some] at n1 n2
    exact ⟨E', cf, k, i, f, q1.1, g2, g3, by rw [q2.1]; exact g4, by rw [q2.1]; exact g5, by rw [q2.2.1]; exact g6, by rw [q2.2.2 f.slot (by simp [n1, n2])]; exact g7⟩
end StrChars.Road
namespace StrChars.Road
open Jvm Sem ClassFile Op Lib Jvm.Stand Jvm.Free Jvm.Free.XT
/-- WHAT COMES BACK, the byte[] as a list of values -/
def QA (Z : State) (x : Addr) (zn : Int32) (cs : List Int32) (h : Heap) (v : Option Value) (h' : Heap) (L : List Loc) : Prop := v = none ∧ (∀ y ∈ L, y.base = x) ∧ RoadKit.Keep h h' [x] ∧ h'.size = h.size + 1 ∧ RoadKit.Exa Z h' x ST ∧ RoadKit.Fld Z h' x ST "value" "[B" (.ref h.size) ∧ RoadKit.Fld Z h' x ST "coder" "B" (.int 0) ∧
  (∃ kb, Z.vm.findClass "[B" = some kb ∧ RoadKit.Arv Z h' h.size kb .byte zn (cs.map fun c => .int (lo8 c)) (.int 0)) ∧
  ∀ (O n d : String) (w : Value), RoadKit.Fld Z h x O n d w → RoadKit.slotOf Z O n d ≠ RoadKit.slotOf Z ST "value" "[B" → RoadKit.slotOf Z O n d ≠ RoadKit.slotOf Z ST "coder" "B" → RoadKit.Fld Z h' x O n d w
/-- **new String(chars) AT A CALL, THE ARRAYS AS LISTS**: the char[] at b holds cs, not empty, no char above 255 -/
theorem backArv {p : Program} {l : Launch} {e : Env} {R : Room} {s : State} {args : Array Value} {below : List Frame} {len W : Nat} {Z : State} {a0 : Array Value} {h : Heap} (hZ : Z.Warmed39 s.vm) (hw : ∀ d ∈ words, d.before a0 Z = true) {kI : Nat} (wi : (Jvm.Cond.instantiable ST kI).before a0 Z = true)
    {x b : Addr} {k : ClassId} {zn z : Int32} {cs : List Int32} {dv v0 c0 : Value} (E : RoadKit.Exa Z h x ST) (V : RoadKit.Fld Z h x ST "value" "[B" v0) (C : RoadKit.Fld Z h x ST "coder" "B" c0) (K : RoadKit.Arv Z h b k .char zn (cs.map Value.int) dv) (S : RoadKit.Sta Z h ST "COMPACT_STRINGS" "Z" (.int z)) (hz : ¬ z = 0)
    (hlen : zn.toNatClampNeg = cs.length) (h0 : 0 < cs.length) (hbig : cs.length ≤ 536870912) (hall : ∀ c ∈ cs, ¬ 255 < c) (hfr : 4 ≤ R.frames) (hlo : W + 65 ≤ R.locals) :
    Back l R p e below s args New1.yN len W (fun P a => a = #[.ref x, .ref b] ∧ P.U.heap = h ∧ P.cells + 1 ≤ R.cells ∧ P.slots + cs.length ≤ R.slots)
      (fun P _ v B => ∃ L, QA Z x zn cs h v B.U.heap L ∧ B.locs = P.locs ++ L ∧ B.cells = P.cells + 1 ∧ B.slots = P.slots + cs.length) := by
  obtain ⟨A, K1, K2, K3, K4, K5, K6⟩ := K
  have e : A.slots.size = cs.length := K3.trans hlen
  have hat : ∀ (i : Nat) (hi : i < cs.length), A.slots[i]? = some (.int cs[i]) := fun i hi => by rw [K5 i (by omega)]; simp [List.getD_eq_getElem?_getD, hi]
  have hcv : ∀ (i : Nat) (hi : i < cs.length), cv A i = cs[i] := fun i hi => by unfold cv; rw [hat i hi]
  have hty : Typed .char A := fun i v hv => by
    have hi : i < A.slots.size := (Array.getElem?_eq_some_iff.mp hv).1
    have q := K5 i hi
    rw [hv] at q
    rw [Option.some.inj q]
    exact K6 i hi
  refine Back.mono (back hZ hw wi E V C K1 hty S hz (by omega) (by omega) (fun i hi => by rw [hcv i (by omega)]; exact hall _ (List.getElem_mem _)) hfr hlo) (fun P a hp => ⟨hp.1, hp.2.1, hp.2.2.1, by rw [e]; exact hp.2.2.2⟩) (fun P a v B hp hq => ?_)
  obtain ⟨L, ⟨q1, q2, q3, q4, q5, q6, q7, ⟨V', v1, v2, v3, v4, v5⟩, q9⟩, hl, hc, hs⟩ := hq
  refine ⟨L, ⟨q1, q2, q3, q4, q5, q6, q7, ⟨V'.cls, v3, V', v1, rfl, by rw [v4, e, hlen], K4, fun i hi => ?_, fun i hi => ?_⟩, q9⟩, hl, hc, by rw [hs, e]⟩
  · have hi' : i < cs.length := by omega
    rw [v5 i (by omega), hcv i hi']; simp [List.getD_eq_getElem?_getD, hi']
  · have hi' : i < cs.length := by omega
    simp only [List.getD_eq_getElem?_getD, List.getElem?_map, List.getElem?_eq_getElem hi', Option.map_some, Option.getD_some]
    exact fits_lo8 _
end StrChars.Road
namespace StrChars.Road
open Jvm Sem ClassFile Op Lib Jvm.Stand Jvm.Free Jvm.Free.XT
/-- WHAT COMES BACK, in the writer's own shape -/
def QV (Z : State) (x : Addr) (N : Int32) (bs : List Int32) (h : Heap) (n0 : Nat) (v : Option Value) (h' : Heap) (L : List Loc) : Prop := v = none ∧ RoadKit.Fr n0 L ∧ RoadKit.Keep h h' [x] ∧ RoadKit.Exa Z h' x ST ∧ RoadKit.Fld Z h' x ST "coder" "B" (.int 0) ∧
  ∃ (t : Addr) (kb : ClassId), n0 ≤ t ∧ h.size ≤ t ∧ ¬ t = x ∧ RoadKit.Fld Z h' x ST "value" "[B" (.ref t) ∧ RoadKit.Arv Z h' t kb .byte N (bs.map Value.int) (.int 0)
/-- **new String(chars) AT A CALL, FOR THE WRITER**: a char[] of n known ints, each 0 to 255 -/
theorem backV {p : Program} {l : Launch} {e : Env} {R : Room} {s : State} {args : Array Value} {below : List Frame} {len W : Nat} {Z : State} {a0 : Array Value} {h : Heap} (hZ : Z.Warmed39 s.vm) (hw : ∀ d ∈ words, d.before a0 Z = true) {kI : Nat} (wi : (Jvm.Cond.instantiable ST kI).before a0 Z = true)
    {x b : Addr} {kC : ClassId} {cs bs : List Int32} {d v0 c0 : Value} {z N : Int32} {n n0 : Nat} (hx0 : n0 ≤ x) (hh0 : n0 ≤ h.size) (E : RoadKit.Exa Z h x ST) (V : RoadKit.Fld Z h x ST "value" "[B" v0) (C : RoadKit.Fld Z h x ST "coder" "B" c0) (K : RoadKit.Arv Z h b kC .char N (cs.map Value.int) d) (S : RoadKit.Sta Z h ST "COMPACT_STRINGS" "Z" (.int z)) (hz : ¬ z = 0)
    (hn : cs.length = n) (hN : N = Int32.ofNat n) (l0 : 0 < n) (l2 : n ≤ 4000) (hp : ∀ c ∈ cs, ¬ c < 0 ∧ ¬ (255 : Int32) < c) (hb : bs = cs.map (fun c => c.toInt8.toInt32)) (hfr : 4 ≤ R.frames) (hlo : W + 65 ≤ R.locals) :
    Back l R p e below s args (⟨"java/lang/String", "<init>", "([C)V"⟩ : MethodName) len W (fun P a => a = #[.ref x, .ref b] ∧ P.U.heap = h ∧ P.cells + 1 ≤ R.cells ∧ P.slots + n ≤ R.slots)
      (fun P _ v B => ∃ L, QV Z x N bs h n0 v B.U.heap L ∧ B.locs = P.locs ++ L ∧ B.cells = P.cells + 1 ∧ B.slots = P.slots + n) := by
  subst hn hN hb
  refine Back.mono (backArv hZ hw wi E V C K S hz (n32 (by omega)) l0 (by omega) (fun c hc => (hp c hc).2) hfr hlo) (fun P a hp => hp) (fun P a v B hp hq => ?_)
  obtain ⟨L, ⟨q1, q2, q3, q4, q5, q6, q7, ⟨kb, v1, v2⟩, q9⟩, hl, hc, hs⟩ := hq
  exact ⟨L, ⟨q1, fun y hy => by rw [q2 y hy]; exact hx0, q3, q5, q7, h.size, kb, hh0, Nat.le_refl _, Nat.ne_of_gt E.lt, q6, by rw [List.map_map]; exact v2⟩, hl, hc, hs⟩
end StrChars.Road
end Jvm.Pilot.@@N@@
namespace Jvm.OwnK
def EL : List (String × Nat) := [("java/lang/String", 7)]
end Jvm.OwnK
namespace Jvm.OwnK
open Sem ClassFile Op Lib Jvm.Stand Jvm.Free Jvm.LawKit Jvm.RoadKit
/-- what a body leaves: Q of its value and heap; what it wrote lies in new cells; the old cells stand -/
def Out (Z s : State) (Q : Option Value → Heap → Prop) (k n : Nat) (o : Outcome) (U : State) : Prop :=
  ∃ v L, o = .returned v ∧ (Q v U.heap ∧ Fr Z.heap.size L ∧ Old Z Z.heap.size U.heap) ∧ CHr Z EL s.vm s.heap U.vm U.heap ∧ ReturnedEndW s o U L k n
/-- the words under which String constants are loaded -/
def Wd (Z : State) : Prop := ∃ a0, EW Z a0 EL ∧ ∀ a ∈ Bundle.stringAtoms, a.before a0 Z = true
/-- from here the walk ends, and G holds of its end -/
def Go (tb : Tables) (e : Env) (below : List Frame) (G : Outcome → State → Prop) (T : State) (F : JFrame) : Prop :=
  ∃ s₂ o, Steps tb e below (T.setTop F) s₂ ∧ s₂.status = .running ∧ Ended s₂ below o ∧ G o s₂
/-- where the walk stands, with its heap -/
def Wk (p : Program) (l : Launch) (e : Env) (R : Room) (s : State) (m : MethodId) (args : Array Value) (below : List Frame) (meth : Method) (c : Code) (Z T : State) (h : Heap) (k n : Nat) (ss : List Addr) : Prop :=
  ∃ locs vm0 k0, Stand p l e R (s.setVm vm0) m args below meth c T locs k n ∧ T.heap = h ∧ Fr Z.heap.size locs ∧ Old Z Z.heap.size h ∧ s.Since vm0 k0 ∧ k0 ≤ h.size ∧ CHr Z EL s.vm s.heap vm0 h ∧ ∀ x ∈ ss, x < h.size ∧ Safe Z EL vm0 h x
/-- what is known of the body -/
def Bdy (p : Program) (Z s : State) (m : MethodId) (meth : Method) (c : Code) (own : String) (bytes : ByteArray) (maxL : Nat) (ret : Option FieldType) (nm : String) : Prop :=
  p.tables.exec = Jvm.exec ∧ Z.Warmed39 s.vm ∧ s.vm.findClass own = some m.cls ∧ c.code = bytes ∧ c.maxLocals = maxL ∧ meth.sig.returnType = ret ∧ meth.locks = false ∧ meth.name = nm ∧ Wd Z
/-- a contract -/
def Con (l : Launch) (Z : State) (y : MethodName) (bytes : ByteArray) (maxL : Nat) (ret : Option FieldType) (ws : List Cond) (rm : Room) (as' : Array Value) (h0 : Heap) (Q : Option Value → Heap → Prop) (ss : List Addr) : Prop :=
  Wd Z → Old Z Z.heap.size h0 → MetFree l y (head1 (Cond.code y bytes maxL ret :: ws) rm) (fun a U => a = as' ∧ Z.Warmed39 U.vm ∧ U.heap = h0 ∧ CHv Z EL U.vm h0 ∧ ∀ x ∈ ss, x < h0.size ∧ Safe Z EL U.vm h0 x) (fun _ _ _ _ _ => True) (fun _ U o U' => Out Z U Q rm.cells rm.slots o U')
def bi (b : Bool) : Int32 := if b then 1 else 0
theorem bi_t {b : Bool} (h : b = true) : ¬ bi b = 0 := by subst h; decide
theorem bi_f {b : Bool} (h : b = false) : bi b = 0 := by subst h; rfl
theorem bi_nar (b : Bool) : nar .boolean (bi b) = bi b := by cases b <;> rfl
theorem bi_tt : bi true = 1 := rfl
theorem bi_ff : bi false = 0 := rfl
theorem bi_inj {a b : Bool} : (bi a = bi b) = (a = b) := by cases a <;> cases b <;> decide
theorem own_nb (b : Bool) : narrow .boolean (.int (bi b)) = .int (bi b) := by cases b <;> rfl
theorem own_fb (b : Bool) : fits .boolean (.int (bi b)) = true := by cases b <;> rfl
theorem own_fr {t : FieldType} {v : Value} (ht : t.isReference = true) (hv : v.isRef = true) : fits t v = true := by cases t <;> cases v <;> first | rfl | (exfalso; revert ht hv; simp [FieldType.isReference, Value.isRef]; done)
theorem own_i2c (a : Int32) : ∃ x : Int32, a.toUInt32.toUInt16.toUInt32.toInt32 = x ∧ nar .char x = x ∧ 0 ≤ x.toInt ∧ x.toInt < 65536 := by
  refine ⟨_, rfl, ?_, (c_i2c a).2.1, (c_i2c a).2.2⟩
  show (a.toUInt32.toUInt16.toUInt32.toInt32).toUInt32.toUInt16.toUInt32.toInt32 = _
  simp only [UInt32.toUInt32_toInt32, UInt16.toUInt16_toUInt32]
theorem own_i2cm (a : Int32) : ∃ x : Int32, (a &&& 255).toUInt32.toUInt16.toUInt32.toInt32 = x ∧ nar .char x = x ∧ ¬ x < 0 ∧ ¬ 255 < x := by
  refine ⟨_, rfl, ?_, ?_⟩
  · show ((a &&& 255).toUInt32.toUInt16.toUInt32.toInt32).toUInt32.toUInt16.toUInt32.toInt32 = _
    simp only [UInt32.toUInt32_toInt32, UInt16.toUInt16_toUInt32]
  · rw [i2c_mask]
    have q := c_and a 255 (by decide)
    simp only [Int32.lt_iff_toInt_lt, Int32.reduceToInt] at *; omega
theorem own_and1 {a b : Bool} (h : b = true) : (bi a &&& 1) = bi (a && b) := by subst h; cases a <;> decide
theorem own_and0 {a b : Bool} (h : b = false) : (bi a &&& 0) = bi (a && b) := by subst h; cases a <;> decide
theorem own_andb (a b : Bool) : (bi a &&& bi b) = bi (a && b) := by cases a <;> cases b <;> decide
theorem own_inc (i : Nat) : Int32.ofNat i + 1 = Int32.ofNat (i + 1) := (Int32.ofNat_add i 1).symm
theorem own_ofNat {i : Nat} (h : i < 2147483648) : (Int32.ofNat i).toInt = i := by
  have := Int32.toInt_ofNat_of_lt (n := i) (by omega); exact this
theorem own_clamp {i : Nat} (h : i < 2147483648) : (Int32.ofNat i).toNatClampNeg = i := by
  simp only [Int32.toNatClampNeg, own_ofNat h]; omega
theorem own_lt {i j : Nat} (hi : i < 2147483648) (hj : j < 2147483648) : (Int32.ofNat i < Int32.ofNat j) ↔ i < j := by
  rw [Int32.lt_iff_toInt_lt, own_ofNat hi, own_ofNat hj]; omega
theorem own_ixok {i n : Nat} (hi : i < n) (hn : n < 2147483648) : ¬ Int32.ofNat i < 0 ∧ Int32.ofNat i < Int32.ofNat n := by
  refine ⟨?_, (own_lt (by omega) hn).mpr hi⟩
  rw [Int32.lt_iff_toInt_lt, own_ofNat (by omega)]; show ¬ ((i : Int) < 0); omega
theorem nar_b0 : nar .boolean 0 = 0 := by decide
theorem nar_b1 : nar .boolean 1 = 1 := by decide
theorem old_le {Z : State} {h : Heap} (O : Old Z Z.heap.size h) : Z.heap.size ≤ h.size := O.2.1
theorem nlt {x : Addr} {n : Nat} (h : x < n) : @LT.lt Nat _ x n := h
theorem nne {x y : Addr} (h : ¬ @Eq Nat x y) : x ≠ y := h
theorem own_root {Z : State} {a0 : Array Value} {O K : String} {kk : Nat} (w : (Cond.noSuperclass O).before a0 Z = true) (wk : (Cond.instantiable K kk).before a0 Z = true) (hn : O ≠ K) : NS Z O K := by
  obtain ⟨c, k, h1, h2, h3, -, -⟩ := Cond.noSuperclass_spec w
  obtain ⟨t, kt, g1, -⟩ := Cond.instantiable_spec wk
  have ne := ids_ne h1 g1 hn
  refine ⟨c, t, h1, g1, fun fuel => ?_⟩
  cases fuel with
  | zero => rfl
  | succ f => simp [Vm.isSubclassAux, ne, h2, h3]
theorem own_no {Z : State} {a0 : Array Value} {C S K : String} {kk : Nat} (w : (Cond.superclass C S).before a0 Z = true) (wk : (Cond.instantiable K kk).before a0 Z = true) (n : NS Z C K) (hn : C ≠ K) : ∃ c t, Z.vm.findClass C = some c ∧ Z.vm.findClass K = some t ∧ Z.vm.assignable c t = false := by
  obtain ⟨c, t, h0, g0, n3⟩ := n
  obtain ⟨p, k, kp, h1, h2, h3, h4, h5, -, h7⟩ := Cond.superclass_spec h0 w
  obtain ⟨t', kt, g1, g2, g3, g4, -⟩ := Cond.instantiable_spec wk
  cases g0.symm.trans g1
  have ne := ids_ne h0 g0 hn
  have g5 : kt.isInterface = false := by cases hq : kt.isInterface <;> simp [hq] at g4 ⊢
  refine ⟨c, t, h0, g0, ?_⟩
  show Z.vm.assignableAux (255 + 1) c t = false
  simp [Vm.assignableAux, ne, h2, g2, h5, g3, g5, Vm.isSubclass, n3]
theorem own_03 (x : Int32) : (x &&& 3) = 0 ∨ (x &&& 3) = 1 ∨ (x &&& 3) = 2 ∨ (x &&& 3) = 3 := by
  have q := c_and x 3 (by decide)
  simp only [← Int32.toInt_inj, Int32.reduceToInt] at *; omega
section K
variable {p : Program} {l : Launch} {e : Env} {R : Room} {s : State} {m : MethodId} {args : Array Value} {below : List Frame} {meth : Method} {c : Code} {Z T T' : State} {h h' : Heap} {k n : Nat} {own nm : String} {bytes : ByteArray} {maxL : Nat} {ret : Option FieldType} {G : Outcome → State → Prop} {pc : Nat} {ls : Array Slot} {st : List Value} {Q : Option Value → Heap → Prop} {a0 : Array Value} {ss : List Addr}
theorem Bdy.nameOf (B : Bdy p Z s m meth c own bytes maxL ret nm) : meth.name = nm := B.2.2.2.2.2.2.2.1
theorem Go.by {tb : Tables} {F F' : JFrame} (hs : ∀ t, Steps tb e below (T'.setTop F') t → Steps tb e below (T.setTop F) t) (q : Go tb e below G T' F') : Go tb e below G T F := by
  obtain ⟨s2, o, a, b⟩ := q; exact ⟨s2, o, hs _ a, b⟩
theorem Go.cast {tb : Tables} {F F' : JFrame} (hs : F = F') (q : Go tb e below G T F') : Go tb e below G T F := hs ▸ q
theorem Con.of {y : MethodName} {ws : List Cond} {rm : Room} {as' : Array Value} {h0 : Heap} (hpl : plainFor y = true)
    (body : ∀ p e s m below meth c T, Bdy p Z s m meth c y.cls bytes maxL ret y.name → Wk p l e rm s m as' below meth c Z T h0 0 0 ss → Go p.tables e below (Out Z s Q rm.cells rm.slots) T (entryFrame m as' maxL)) : Con l Z y bytes maxL ret ws rm as' h0 Q ss := by
  intro hWd hO
  refine MetFree.of_bodySF hpl hisR ?_
  intro p e s m args below meth c s₁ Bd hml0 hP hK
  obtain ⟨rfl, hZ, hh, hC, hss⟩ := hP
  subst hh
  exact body p e s m below meth c s₁ ⟨Bd.exec, hZ, findClass_of_methodNamed Bd.named, Bd.bytes, hml0, Bd.returns, Bd.notSynchronized, (name_of_methodNamed Bd.named Bd.method).1, hWd⟩ ⟨[], s.vm, s.heap.size, Stand.of_body Bd, by rw [Bd.state]; rfl, Fr.nil _, hO, (State.WarmedH.refl s).since _, Nat.le_refl _, CHr.refl hC, hss⟩
theorem Bdy.at {vm0 : Vm} {k0 : Nat} (B : Bdy p Z s m meth c own bytes maxL ret nm) (S : s.Since vm0 k0) : Bdy p Z (s.setVm vm0) m meth c own bytes maxL ret nm :=
  ⟨B.1, State.Warmed39.trans B.2.1 S.1, (S.1.alike.findClass _ _).trans B.2.2.1, B.2.2.2⟩
theorem Wk.size (W : Wk p l e R s m args below meth c Z T h k n ss) : Z.heap.size ≤ h.size := by obtain ⟨_, _, _, _, _, _, O, _⟩ := W; exact O.2.1
theorem Wk.old (W : Wk p l e R s m args below meth c Z T h k n ss) : Old Z Z.heap.size h := by obtain ⟨_, _, _, _, _, _, O, _⟩ := W; exact O
theorem Sta.old {C nf d : String} {v : Value} (F : Sta Z Z.heap C nf d v) (W : Old Z Z.heap.size h) : Sta Z h C nf d v := F.ext W.2
theorem Wk.more {k' n' : Nat} (W : Wk p l e R s m args below meth c Z T h k n ss) (hk : k ≤ k') (hn : n ≤ n') : Wk p l e R s m args below meth c Z T h k' n' ss := by
  obtain ⟨locs, vm0, k0, X, r⟩ := W; exact ⟨locs, vm0, k0, X.more hk hn, r⟩
/-! ### the ends -/
theorem go_end (B : Bdy p Z s m meth c own bytes maxL ret nm) (W : Wk p l e R s m args below meth c Z T h k n ss) {F : JFrame} {v : Option Value} {k' n' : Nat} (hv : ret = none → v = none) (hQ : Q v h) (hk : k ≤ k') (hn : n ≤ n')
    (hst : ∀ (s : State) (locs : List Loc) (fs : List Frame), Stand p l e R s m args below meth c T locs k n → (∀ (f : JFrame) (acts : List Action), f.method = m → f.locked = none → f.entered = [] → (doReturn e (T.setTop f) acts v).1 = T.setFrames fs) → Steps p.tables e below (T.setTop F) (T.setFrames fs)) :
    Go p.tables e below (Out Z s Q k' n') T F := by
  obtain ⟨locs, vm0, k0, X, eT, N, O, S, hk0, H, hss⟩ := W
  have B' := B.at S
  obtain ⟨a0, hEW, -⟩ := B.2.2.2.2.2.2.2.2
  obtain ⟨fs, hr, hrun, hended, e1, e2, e3, e4⟩ := X.leaveW S (by rw [eT]; exact hk0) (v := v) (fun q => hv (B.2.2.2.2.2.1 ▸ q)) B.2.2.2.2.2.2.1
  have eT' : (T.setFrames fs).heap = h := eT
  have H2 := H.trans (CHv.at X B'.2.1 hEW H.1)
  exact ⟨_, _, hst _ locs fs X hr, hrun, hended, _, _, rfl, ⟨by rw [eT']; exact hQ, N, by rw [eT']; exact O⟩, by rw [eT']; exact H2, e1, e2, e3, e4.mono hk hn⟩
theorem r_i (B : Bdy p Z s m meth c own bytes maxL (some .int) nm) (W : Wk p l e R s m args below meth c Z T h k n ss) {z : Int32} {k' n' : Nat} (hd : decode bytes pc = .ok (.ireturn, 1)) (hk : k ≤ k') (hn : n ≤ n') (hQ : Q (some (.int z)) h) : Go p.tables e below (Out Z s Q k' n') T (mkF m pc ls (.int z :: st)) :=
  go_end B W (fun q => by cases q) hQ hk hn fun _ _ _ X hr => retOut X B.1 B.2.2.2.2.2.1 rfl (Or.inl ⟨rfl, Or.inl rfl, _, rfl⟩) (hb B.2.2.2.1 hd) hr
theorem r_b (B : Bdy p Z s m meth c own bytes maxL (some .boolean) nm) (W : Wk p l e R s m args below meth c Z T h k n ss) {b : Bool} {k' n' : Nat} (hd : decode bytes pc = .ok (.ireturn, 1)) (hk : k ≤ k') (hn : n ≤ n') (hQ : Q (some (.int (bi b))) h) : Go p.tables e below (Out Z s Q k' n') T (mkF m pc ls (.int (bi b) :: st)) :=
  go_end B W (fun q => by cases q) (v := some (.int (nar .boolean (bi b)))) (by rw [bi_nar]; exact hQ) hk hn fun _ _ _ X hr => retN X B.1 B.2.2.2.2.2.1 (Or.inl rfl) (hb B.2.2.2.1 hd) hr
theorem r_n (B : Bdy p Z s m meth c own bytes maxL ret nm) (W : Wk p l e R s m args below meth c Z T h k n ss) {t : FieldType} {z : Int32} {k' n' : Nat} (hret : ret = some t) (ht : t = .boolean ∨ t = .byte ∨ t = .char ∨ t = .short) (hd : decode bytes pc = .ok (.ireturn, 1)) (hk : k ≤ k') (hn : n ≤ n') (hQ : Q (some (.int (nar t z))) h) : Go p.tables e below (Out Z s Q k' n') T (mkF m pc ls (.int z :: st)) :=
  go_end B W (fun q => by rw [hret] at q; cases q) hQ hk hn fun _ _ _ X hr => retN X B.1 (B.2.2.2.2.2.1.trans hret) ht (hb B.2.2.2.1 hd) hr
theorem nar_ref {t : FieldType} {v : Value} (ht : t.isReference = true) : narrow t v = v := by cases t <;> first | rfl | (exfalso; revert ht; simp [FieldType.isReference]; done) | (cases v <;> rfl)
theorem r_a (B : Bdy p Z s m meth c own bytes maxL ret nm) (W : Wk p l e R s m args below meth c Z T h k n ss) {t : FieldType} {v : Value} {k' n' : Nat} (hret : ret = some t) (ht : t.isReference = true) (hv : v.isRef = true) (hd : decode bytes pc = .ok (.areturn, 1)) (hk : k ≤ k') (hn : n ≤ n') (hQ : Q (some v) h) : Go p.tables e below (Out Z s Q k' n') T (mkF m pc ls (v :: st)) :=
  go_end B W (fun q => by rw [hret] at q; cases q) hQ hk hn fun _ _ _ X hr => retOut X B.1 (B.2.2.2.2.2.1.trans hret) (nar_ref ht) (Or.inr (Or.inr (Or.inr (Or.inr ⟨rfl, ht, hv⟩)))) (hb B.2.2.2.1 hd) hr
theorem r_v (B : Bdy p Z s m meth c own bytes maxL none nm) (W : Wk p l e R s m args below meth c Z T h k n ss) {k' n' : Nat} (hd : decode bytes pc = .ok (.return_, 1)) (hk : k ≤ k') (hn : n ≤ n') (hQ : Q none h) : Go p.tables e below (Out Z s Q k' n') T (mkF m pc ls []) :=
  go_end B W (fun _ => rfl) hQ hk hn fun _ _ _ X hr => X.returnOut B.1 B.2.2.2.2.2.1 (hb B.2.2.2.1 hd) hr
theorem r_l (B : Bdy p Z s m meth c own bytes maxL (some .long) nm) (W : Wk p l e R s m args below meth c Z T h k n ss) {z : Int64} {k' n' : Nat} (hd : decode bytes pc = .ok (.lreturn, 1)) (hk : k ≤ k') (hn : n ≤ n') (hQ : Q (some (.long z)) h) : Go p.tables e below (Out Z s Q k' n') T (mkF m pc ls (.long z :: st)) :=
  go_end B W (fun q => by cases q) hQ hk hn fun _ _ _ X hr => retOut X B.1 B.2.2.2.2.2.1 rfl (Or.inr (Or.inl ⟨rfl, rfl, _, rfl⟩)) (hb B.2.2.2.1 hd) hr
/-! ### plain steps -/
theorem g_aload_n (B : Bdy p Z s m meth c own bytes maxL ret nm) (W : Wk p l e R s m args below meth c Z T h k n ss) {i : Fin 4} {v : Value} (hd : decode bytes pc = .ok (.aload_n i, 1)) (hl : ls[i.val]? = some (.val v)) (hv : v.isRef = true) (q : Go p.tables e below G T (mkF m (pc + 1) ls (v :: st))) : Go p.tables e below G T (mkF m pc ls st) := by
  obtain ⟨_, _, _, X, -⟩ := W
  exact Go.by (fun t q => XS.aloadN X.here B.1 rfl (hb B.2.2.2.1 hd) hl hv q) q
theorem g_aload (B : Bdy p Z s m meth c own bytes maxL ret nm) (W : Wk p l e R s m args below meth c Z T h k n ss) {i : Nat} {v : Value} (hd : decode bytes pc = .ok (.aload i, 2)) (hl : ls[i]? = some (.val v)) (hv : v.isRef = true) (q : Go p.tables e below G T (mkF m (pc + 2) ls (v :: st))) : Go p.tables e below G T (mkF m pc ls st) := by
  obtain ⟨_, _, _, X, -⟩ := W
  exact Go.by (fun t q => XS.aload X.here B.1 rfl (hb B.2.2.2.1 hd) hl hv q) q
theorem g_iload_n (B : Bdy p Z s m meth c own bytes maxL ret nm) (W : Wk p l e R s m args below meth c Z T h k n ss) {i : Fin 4} {v : Int32} (hd : decode bytes pc = .ok (.iload_n i, 1)) (hl : ls[i.val]? = some (.val (.int v))) (q : Go p.tables e below G T (mkF m (pc + 1) ls (.int v :: st))) : Go p.tables e below G T (mkF m pc ls st) := by
  obtain ⟨_, _, _, X, -⟩ := W
  exact Go.by (fun t q => XS.iloadN X.here B.1 rfl (hb B.2.2.2.1 hd) hl q) q
theorem g_iload (B : Bdy p Z s m meth c own bytes maxL ret nm) (W : Wk p l e R s m args below meth c Z T h k n ss) {i : Nat} {v : Int32} (hd : decode bytes pc = .ok (.iload i, 2)) (hl : ls[i]? = some (.val (.int v))) (q : Go p.tables e below G T (mkF m (pc + 2) ls (.int v :: st))) : Go p.tables e below G T (mkF m pc ls st) := by
  obtain ⟨_, _, _, X, -⟩ := W
  exact Go.by (fun t q => XS.iload X.here B.1 rfl (hb B.2.2.2.1 hd) hl q) q
theorem g_lload_n (B : Bdy p Z s m meth c own bytes maxL ret nm) (W : Wk p l e R s m args below meth c Z T h k n ss) {i : Fin 4} {v : Int64} (hd : decode bytes pc = .ok (.lload_n i, 1)) (hl : ls[i.val]? = some (.val (.long v))) (q : Go p.tables e below G T (mkF m (pc + 1) ls (.long v :: st))) : Go p.tables e below G T (mkF m pc ls st) := by
  obtain ⟨_, _, _, X, -⟩ := W
  exact Go.by (fun t q => XT.lloadN X.here B.1 rfl (hb B.2.2.2.1 hd) hl q) q
theorem g_lload (B : Bdy p Z s m meth c own bytes maxL ret nm) (W : Wk p l e R s m args below meth c Z T h k n ss) {i : Nat} {v : Int64} (hd : decode bytes pc = .ok (.lload i, 2)) (hl : ls[i]? = some (.val (.long v))) (q : Go p.tables e below G T (mkF m (pc + 2) ls (.long v :: st))) : Go p.tables e below G T (mkF m pc ls st) := by
  obtain ⟨_, _, _, X, -⟩ := W
  exact Go.by (fun t q => XT.lload X.here B.1 rfl (hb B.2.2.2.1 hd) hl q) q
theorem g_istore_n (B : Bdy p Z s m meth c own bytes maxL ret nm) (W : Wk p l e R s m args below meth c Z T h k n ss) {i : Fin 4} {v : Int32} {l' : Array Slot} (hd : decode bytes pc = .ok (.istore_n i, 1)) (hl : storeLocals ls i.val (.int v) = some l') (q : Go p.tables e below G T (mkF m (pc + 1) l' st)) : Go p.tables e below G T (mkF m pc ls (.int v :: st)) := by
  obtain ⟨_, _, _, X, -⟩ := W
  exact Go.by (fun t q => XS.istoreN X.here B.1 rfl (hb B.2.2.2.1 hd) rfl hl q) q
theorem g_istore (B : Bdy p Z s m meth c own bytes maxL ret nm) (W : Wk p l e R s m args below meth c Z T h k n ss) {i : Nat} {v : Int32} {l' : Array Slot} (hd : decode bytes pc = .ok (.istore i, 2)) (hl : storeLocals ls i (.int v) = some l') (q : Go p.tables e below G T (mkF m (pc + 2) l' st)) : Go p.tables e below G T (mkF m pc ls (.int v :: st)) := by
  obtain ⟨_, _, _, X, -⟩ := W
  exact Go.by (fun t q => XS.istore X.here B.1 rfl (hb B.2.2.2.1 hd) rfl hl q) q
theorem g_lstore_n (B : Bdy p Z s m meth c own bytes maxL ret nm) (W : Wk p l e R s m args below meth c Z T h k n ss) {i : Fin 4} {v : Int64} {l' : Array Slot} (hd : decode bytes pc = .ok (.lstore_n i, 1)) (hl : storeLocals ls i.val (.long v) = some l') (q : Go p.tables e below G T (mkF m (pc + 1) l' st)) : Go p.tables e below G T (mkF m pc ls (.long v :: st)) := by
  obtain ⟨_, _, _, X, -⟩ := W
  exact Go.by (fun t q => XT.lstoreN X.here B.1 rfl (hb B.2.2.2.1 hd) rfl hl q) q
theorem g_lstore (B : Bdy p Z s m meth c own bytes maxL ret nm) (W : Wk p l e R s m args below meth c Z T h k n ss) {i : Nat} {v : Int64} {l' : Array Slot} (hd : decode bytes pc = .ok (.lstore i, 2)) (hl : storeLocals ls i (.long v) = some l') (q : Go p.tables e below G T (mkF m (pc + 2) l' st)) : Go p.tables e below G T (mkF m pc ls (.long v :: st)) := by
  obtain ⟨_, _, _, X, -⟩ := W
  exact Go.by (fun t q => XT.lstore X.here B.1 rfl (hb B.2.2.2.1 hd) rfl hl q) q
theorem g_astore_n (B : Bdy p Z s m meth c own bytes maxL ret nm) (W : Wk p l e R s m args below meth c Z T h k n ss) {i : Fin 4} {v : Value} {l' : Array Slot} (hd : decode bytes pc = .ok (.astore_n i, 1)) (hv : v.isRef = true) (hl : storeLocals ls i.val v = some l') (q : Go p.tables e below G T (mkF m (pc + 1) l' st)) : Go p.tables e below G T (mkF m pc ls (v :: st)) := by
  obtain ⟨_, _, _, X, -⟩ := W
  exact Go.by (fun t q => XS.astoreN X.here B.1 rfl (hb B.2.2.2.1 hd) rfl hv hl q) q
theorem g_astore (B : Bdy p Z s m meth c own bytes maxL ret nm) (W : Wk p l e R s m args below meth c Z T h k n ss) {i : Nat} {v : Value} {l' : Array Slot} (hd : decode bytes pc = .ok (.astore i, 2)) (hv : v.isRef = true) (hl : storeLocals ls i v = some l') (q : Go p.tables e below G T (mkF m (pc + 2) l' st)) : Go p.tables e below G T (mkF m pc ls (v :: st)) := by
  obtain ⟨_, _, _, X, -⟩ := W
  exact Go.by (fun t q => XS.astore X.here B.1 rfl (hb B.2.2.2.1 hd) rfl hv hl q) q
theorem g_iconst (B : Bdy p Z s m meth c own bytes maxL ret nm) (W : Wk p l e R s m args below meth c Z T h k n ss) {i : Int} {v : Int32} (hd : decode bytes pc = .ok (.iconst i, 1)) (hv : Int32.ofInt i = v) (q : Go p.tables e below G T (mkF m (pc + 1) ls (.int v :: st))) : Go p.tables e below G T (mkF m pc ls st) := by
  obtain ⟨_, _, _, X, -⟩ := W
  exact Go.by (fun t q => XT.iconstV X.here B.1 rfl _ (hb B.2.2.2.1 hd) hv q) q
theorem g_bipush (B : Bdy p Z s m meth c own bytes maxL ret nm) (W : Wk p l e R s m args below meth c Z T h k n ss) {i : Int} {v : Int32} (hd : decode bytes pc = .ok (.bipush i, 2)) (hv : (Int8.ofInt i).toInt32 = v) (q : Go p.tables e below G T (mkF m (pc + 2) ls (.int v :: st))) : Go p.tables e below G T (mkF m pc ls st) := by
  obtain ⟨_, _, _, X, -⟩ := W
  exact Go.by (fun t q => XT.bipushV X.here B.1 rfl _ (hb B.2.2.2.1 hd) hv q) q
theorem g_sipush (B : Bdy p Z s m meth c own bytes maxL ret nm) (W : Wk p l e R s m args below meth c Z T h k n ss) {i : Int} {v : Int32} (hd : decode bytes pc = .ok (.sipush i, 3)) (hv : (Int16.ofInt i).toInt32 = v) (q : Go p.tables e below G T (mkF m (pc + 3) ls (.int v :: st))) : Go p.tables e below G T (mkF m pc ls st) := by
  obtain ⟨_, _, _, X, -⟩ := W
  exact Go.by (fun t q => XT.sipushV X.here B.1 rfl _ (hb B.2.2.2.1 hd) hv q) q
theorem g_lconst (B : Bdy p Z s m meth c own bytes maxL ret nm) (W : Wk p l e R s m args below meth c Z T h k n ss) {i : Fin 2} {v : Int64} (hd : decode bytes pc = .ok (.lconst i, 1)) (hv : Int64.ofNat i = v) (q : Go p.tables e below G T (mkF m (pc + 1) ls (.long v :: st))) : Go p.tables e below G T (mkF m pc ls st) := by
  obtain ⟨_, _, _, X, -⟩ := W
  exact Go.by (fun t q => XT.lconstV X.here B.1 rfl _ (hb B.2.2.2.1 hd) hv q) q
theorem g_aconst_null (B : Bdy p Z s m meth c own bytes maxL ret nm) (W : Wk p l e R s m args below meth c Z T h k n ss)  (hd : decode bytes pc = .ok (.aconst_null, 1))  (q : Go p.tables e below G T (mkF m (pc + 1) ls (.null :: st))) : Go p.tables e below G T (mkF m pc ls st) := by
  obtain ⟨_, _, _, X, -⟩ := W
  exact Go.by (fun t q => XS.aconstNull X.here B.1 rfl (hb B.2.2.2.1 hd) q) q
theorem g_iadd (B : Bdy p Z s m meth c own bytes maxL ret nm) (W : Wk p l e R s m args below meth c Z T h k n ss) {x y : Int32} (hd : decode bytes pc = .ok (.iadd, 1))  (q : Go p.tables e below G T (mkF m (pc + 1) ls (.int (x + y) :: st))) : Go p.tables e below G T (mkF m pc ls (.int y :: .int x :: st)) := by
  obtain ⟨_, _, _, X, -⟩ := W
  exact Go.by (fun t q => XS.iadd X.here B.1 rfl (hb B.2.2.2.1 hd) rfl q) q
theorem g_isub (B : Bdy p Z s m meth c own bytes maxL ret nm) (W : Wk p l e R s m args below meth c Z T h k n ss) {x y : Int32} (hd : decode bytes pc = .ok (.isub, 1))  (q : Go p.tables e below G T (mkF m (pc + 1) ls (.int (x - y) :: st))) : Go p.tables e below G T (mkF m pc ls (.int y :: .int x :: st)) := by
  obtain ⟨_, _, _, X, -⟩ := W
  exact Go.by (fun t q => XS.isub X.here B.1 rfl (hb B.2.2.2.1 hd) rfl q) q
theorem g_iand (B : Bdy p Z s m meth c own bytes maxL ret nm) (W : Wk p l e R s m args below meth c Z T h k n ss) {x y : Int32} (hd : decode bytes pc = .ok (.iand, 1))  (q : Go p.tables e below G T (mkF m (pc + 1) ls (.int (x &&& y) :: st))) : Go p.tables e below G T (mkF m pc ls (.int y :: .int x :: st)) := by
  obtain ⟨_, _, _, X, -⟩ := W
  exact Go.by (fun t q => XS.iand X.here B.1 rfl (hb B.2.2.2.1 hd) rfl q) q
theorem g_imul (B : Bdy p Z s m meth c own bytes maxL ret nm) (W : Wk p l e R s m args below meth c Z T h k n ss) {x y : Int32} (hd : decode bytes pc = .ok (.imul, 1))  (q : Go p.tables e below G T (mkF m (pc + 1) ls (.int (x * y) :: st))) : Go p.tables e below G T (mkF m pc ls (.int y :: .int x :: st)) := by
  obtain ⟨_, _, _, X, -⟩ := W
  exact Go.by (fun t q => XS.imul X.here B.1 rfl (hb B.2.2.2.1 hd) rfl q) q
theorem g_ior (B : Bdy p Z s m meth c own bytes maxL ret nm) (W : Wk p l e R s m args below meth c Z T h k n ss) {x y : Int32} (hd : decode bytes pc = .ok (.ior, 1))  (q : Go p.tables e below G T (mkF m (pc + 1) ls (.int (x ||| y) :: st))) : Go p.tables e below G T (mkF m pc ls (.int y :: .int x :: st)) := by
  obtain ⟨_, _, _, X, -⟩ := W
  exact Go.by (fun t q => XT.ior X.here B.1 rfl (hb B.2.2.2.1 hd) rfl q) q
theorem g_ixor (B : Bdy p Z s m meth c own bytes maxL ret nm) (W : Wk p l e R s m args below meth c Z T h k n ss) {x y : Int32} (hd : decode bytes pc = .ok (.ixor, 1))  (q : Go p.tables e below G T (mkF m (pc + 1) ls (.int (x ^^^ y) :: st))) : Go p.tables e below G T (mkF m pc ls (.int y :: .int x :: st)) := by
  obtain ⟨_, _, _, X, -⟩ := W
  exact Go.by (fun t q => XT.ixor X.here B.1 rfl (hb B.2.2.2.1 hd) rfl q) q
theorem g_iushr (B : Bdy p Z s m meth c own bytes maxL ret nm) (W : Wk p l e R s m args below meth c Z T h k n ss) {x y : Int32} (hd : decode bytes pc = .ok (.iushr, 1))  (q : Go p.tables e below G T (mkF m (pc + 1) ls (.int (XT.ushr x y) :: st))) : Go p.tables e below G T (mkF m pc ls (.int y :: .int x :: st)) := by
  obtain ⟨_, _, _, X, -⟩ := W
  exact Go.by (fun t q => XT.iushr X.here B.1 rfl (hb B.2.2.2.1 hd) rfl q) q
theorem g_idiv (B : Bdy p Z s m meth c own bytes maxL ret nm) (W : Wk p l e R s m args below meth c Z T h k n ss) {x y : Int32} (hd : decode bytes pc = .ok (.idiv, 1)) (hy : y ≠ 0) (q : Go p.tables e below G T (mkF m (pc + 1) ls (.int (x / y) :: st))) : Go p.tables e below G T (mkF m pc ls (.int y :: .int x :: st)) := by
  obtain ⟨_, _, _, X, -⟩ := W
  exact Go.by (fun t q => XS.idiv X.here B.1 rfl (hb B.2.2.2.1 hd) rfl hy q) q
theorem g_irem (B : Bdy p Z s m meth c own bytes maxL ret nm) (W : Wk p l e R s m args below meth c Z T h k n ss) {x y : Int32} (hd : decode bytes pc = .ok (.irem, 1)) (hy : y ≠ 0) (q : Go p.tables e below G T (mkF m (pc + 1) ls (.int (x % y) :: st))) : Go p.tables e below G T (mkF m pc ls (.int y :: .int x :: st))   := by
  obtain ⟨_, _, _, X, -⟩ := W
  exact Go.by (fun t q => iremM X B.1 rfl (hb B.2.2.2.1 hd) rfl hy q) q
theorem g_ineg (B : Bdy p Z s m meth c own bytes maxL ret nm) (W : Wk p l e R s m args below meth c Z T h k n ss) {x : Int32} (hd : decode bytes pc = .ok (.ineg, 1))  (q : Go p.tables e below G T (mkF m (pc + 1) ls (.int (-x) :: st))) : Go p.tables e below G T (mkF m pc ls (.int x :: st)) := by
  obtain ⟨_, _, _, X, -⟩ := W
  exact Go.by (fun t q => XS.ineg X.here B.1 rfl (hb B.2.2.2.1 hd) rfl q) q
theorem g_i2c (B : Bdy p Z s m meth c own bytes maxL ret nm) (W : Wk p l e R s m args below meth c Z T h k n ss) {x : Int32} (hd : decode bytes pc = .ok (.i2c, 1))  (q : Go p.tables e below G T (mkF m (pc + 1) ls (.int x.toUInt32.toUInt16.toUInt32.toInt32 :: st))) : Go p.tables e below G T (mkF m pc ls (.int x :: st)) := by
  obtain ⟨_, _, _, X, -⟩ := W
  exact Go.by (fun t q => XT.i2c X.here B.1 rfl (hb B.2.2.2.1 hd) rfl q) q
theorem g_i2b (B : Bdy p Z s m meth c own bytes maxL ret nm) (W : Wk p l e R s m args below meth c Z T h k n ss) {x : Int32} (hd : decode bytes pc = .ok (.i2b, 1))  (q : Go p.tables e below G T (mkF m (pc + 1) ls (.int x.toInt8.toInt32 :: st))) : Go p.tables e below G T (mkF m pc ls (.int x :: st)) := by
  obtain ⟨_, _, _, X, -⟩ := W
  exact Go.by (fun t q => XT.i2b X.here B.1 rfl (hb B.2.2.2.1 hd) rfl q) q
theorem g_i2l (B : Bdy p Z s m meth c own bytes maxL ret nm) (W : Wk p l e R s m args below meth c Z T h k n ss) {x : Int32} (hd : decode bytes pc = .ok (.i2l, 1))  (q : Go p.tables e below G T (mkF m (pc + 1) ls (.long x.toInt64 :: st))) : Go p.tables e below G T (mkF m pc ls (.int x :: st)) := by
  obtain ⟨_, _, _, X, -⟩ := W
  exact Go.by (fun t q => XT.i2l X.here B.1 rfl (hb B.2.2.2.1 hd) rfl q) q
theorem g_l2i (B : Bdy p Z s m meth c own bytes maxL ret nm) (W : Wk p l e R s m args below meth c Z T h k n ss) {x : Int64} (hd : decode bytes pc = .ok (.l2i, 1))  (q : Go p.tables e below G T (mkF m (pc + 1) ls (.int x.toInt32 :: st))) : Go p.tables e below G T (mkF m pc ls (.long x :: st)) := by
  obtain ⟨_, _, _, X, -⟩ := W
  exact Go.by (fun t q => XT.l2i X.here B.1 rfl (hb B.2.2.2.1 hd) rfl q) q
theorem g_land (B : Bdy p Z s m meth c own bytes maxL ret nm) (W : Wk p l e R s m args below meth c Z T h k n ss) {x y : Int64} (hd : decode bytes pc = .ok (.land, 1))  (q : Go p.tables e below G T (mkF m (pc + 1) ls (.long (x &&& y) :: st))) : Go p.tables e below G T (mkF m pc ls (.long y :: .long x :: st)) := by
  obtain ⟨_, _, _, X, -⟩ := W
  exact Go.by (fun t q => XT.land X.here B.1 rfl (hb B.2.2.2.1 hd) rfl q) q
theorem g_ladd (B : Bdy p Z s m meth c own bytes maxL ret nm) (W : Wk p l e R s m args below meth c Z T h k n ss) {x y : Int64} (hd : decode bytes pc = .ok (.ladd, 1))  (q : Go p.tables e below G T (mkF m (pc + 1) ls (.long (x + y) :: st))) : Go p.tables e below G T (mkF m pc ls (.long y :: .long x :: st)) := by
  obtain ⟨_, _, _, X, -⟩ := W
  exact Go.by (fun t q => XT.ladd X.here B.1 rfl (hb B.2.2.2.1 hd) rfl q) q
theorem g_lcmp (B : Bdy p Z s m meth c own bytes maxL ret nm) (W : Wk p l e R s m args below meth c Z T h k n ss) {x y : Int64} (hd : decode bytes pc = .ok (.lcmp, 1))  (q : Go p.tables e below G T (mkF m (pc + 1) ls (.int (XT.cmpL x y) :: st))) : Go p.tables e below G T (mkF m pc ls (.long y :: .long x :: st)) := by
  obtain ⟨_, _, _, X, -⟩ := W
  exact Go.by (fun t q => XT.lcmp X.here B.1 rfl (hb B.2.2.2.1 hd) rfl q) q
theorem g_lushr (B : Bdy p Z s m meth c own bytes maxL ret nm) (W : Wk p l e R s m args below meth c Z T h k n ss) {x : Int64} {y : Int32} (hd : decode bytes pc = .ok (.lushr, 1))  (q : Go p.tables e below G T (mkF m (pc + 1) ls (.long (XT.ushrL x y) :: st))) : Go p.tables e below G T (mkF m pc ls (.int y :: .long x :: st)) := by
  obtain ⟨_, _, _, X, -⟩ := W
  exact Go.by (fun t q => XT.lushr X.here B.1 rfl (hb B.2.2.2.1 hd) rfl q) q
theorem g_iinc (B : Bdy p Z s m meth c own bytes maxL ret nm) (W : Wk p l e R s m args below meth c Z T h k n ss) {i : Nat} {cst : Int} {x v : Int32} {l' : Array Slot} (hd : decode bytes pc = .ok (.iinc i cst, 3)) (hv : Int32.ofInt cst = v) (hl : ls[i]? = some (.val (.int x))) (hl' : storeLocals ls i (.int (x + v)) = some l') (q : Go p.tables e below G T (mkF m (pc + 3) l' st)) : Go p.tables e below G T (mkF m pc ls st) := by
  obtain ⟨_, _, _, X, -⟩ := W
  exact Go.by (fun t q => XT.iincV X.here B.1 rfl _ (hb B.2.2.2.1 hd) hv hl hl' q) q
theorem g_dup (B : Bdy p Z s m meth c own bytes maxL ret nm) (W : Wk p l e R s m args below meth c Z T h k n ss) {v : Value} (hd : decode bytes pc = .ok (.dup, 1)) (hv : v.category = 1) (q : Go p.tables e below G T (mkF m (pc + 1) ls (v :: v :: st))) : Go p.tables e below G T (mkF m pc ls (v :: st)) := by
  obtain ⟨_, _, _, X, -⟩ := W
  exact Go.by (fun t q => XS.dup X.here B.1 rfl (hb B.2.2.2.1 hd) rfl hv q) q
theorem g_dup_x1 (B : Bdy p Z s m meth c own bytes maxL ret nm) (W : Wk p l e R s m args below meth c Z T h k n ss) {v w : Value} (hd : decode bytes pc = .ok (.dup_x1, 1)) (hv : v.category = 1) (hw' : w.category = 1) (q : Go p.tables e below G T (mkF m (pc + 1) ls (v :: w :: v :: st))) : Go p.tables e below G T (mkF m pc ls (v :: w :: st)) := by
  obtain ⟨_, _, _, X, -⟩ := W
  exact Go.by (fun t q => XT.dupX1 X.here B.1 rfl (hb B.2.2.2.1 hd) rfl hv hw' q) q
theorem g_pop (B : Bdy p Z s m meth c own bytes maxL ret nm) (W : Wk p l e R s m args below meth c Z T h k n ss) {v : Value} (hd : decode bytes pc = .ok (.pop, 1)) (hv : v.category = 1) (q : Go p.tables e below G T (mkF m (pc + 1) ls st)) : Go p.tables e below G T (mkF m pc ls (v :: st)) := by
  obtain ⟨_, _, _, X, -⟩ := W
  exact Go.by (fun t q => XT.pop X.here B.1 rfl (hb B.2.2.2.1 hd) rfl hv q) q
theorem g_goto (B : Bdy p Z s m meth c own bytes maxL ret nm) (W : Wk p l e R s m args below meth c Z T h k n ss)  {o : Int} {pc' : Nat} (hd : decode bytes pc = .ok (.goto o, 3))  (hp : (pc : Int) + o = (pc' : Int)) (q : Go p.tables e below G T (mkF m pc' ls st)) : Go p.tables e below G T (mkF m pc ls st)   := by
  obtain ⟨_, _, _, X, -⟩ := W
  exact Go.by (fun t q => XS.goto X.here B.1 rfl rfl (hb B.2.2.2.1 hd)  (by rw [hp]; exact Int.natCast_nonneg _) (by rw [hp]; exact Int.toNat_natCast _) q) q
theorem g_if_y (B : Bdy p Z s m meth c own bytes maxL ret nm) (W : Wk p l e R s m args below meth c Z T h k n ss) {cd : ClassFile.Cond} {x : Int32} {o : Int} {pc' : Nat} (hd : decode bytes pc = .ok (.ifCond cd o, 3)) (hc : ifCond.holds cd x = true) (hp : (pc : Int) + o = (pc' : Int)) (q : Go p.tables e below G T (mkF m pc' ls st)) : Go p.tables e below G T (mkF m pc ls (.int x :: st))   := by
  obtain ⟨_, _, _, X, -⟩ := W
  exact Go.by (fun t q => XS.ifYes X.here B.1 rfl rfl (hb B.2.2.2.1 hd) rfl hc (by rw [hp]; exact Int.natCast_nonneg _) (by rw [hp]; exact Int.toNat_natCast _) q) q
theorem g_if_n (B : Bdy p Z s m meth c own bytes maxL ret nm) (W : Wk p l e R s m args below meth c Z T h k n ss) {cd : ClassFile.Cond} {x : Int32} {o : Int} (hd : decode bytes pc = .ok (.ifCond cd o, 3)) (hc : ifCond.holds cd x = false) (q : Go p.tables e below G T (mkF m (pc + 3) ls st)) : Go p.tables e below G T (mkF m pc ls (.int x :: st))   := by
  obtain ⟨_, _, _, X, -⟩ := W
  exact Go.by (fun t q => XS.ifNo X.here B.1 rfl (hb B.2.2.2.1 hd) rfl hc q) q
theorem g_icmp_y (B : Bdy p Z s m meth c own bytes maxL ret nm) (W : Wk p l e R s m args below meth c Z T h k n ss) {cd : ClassFile.Cond} {x y : Int32} {o : Int} {pc' : Nat} (hd : decode bytes pc = .ok (.if_icmp cd o, 3)) (hc : if_icmp.holds cd x y = true) (hp : (pc : Int) + o = (pc' : Int)) (q : Go p.tables e below G T (mkF m pc' ls st)) : Go p.tables e below G T (mkF m pc ls (.int y :: .int x :: st))   := by
  obtain ⟨_, _, _, X, -⟩ := W
  exact Go.by (fun t q => XS.icmpYes X.here B.1 rfl rfl (hb B.2.2.2.1 hd) rfl hc (by rw [hp]; exact Int.natCast_nonneg _) (by rw [hp]; exact Int.toNat_natCast _) q) q
theorem g_icmp_n (B : Bdy p Z s m meth c own bytes maxL ret nm) (W : Wk p l e R s m args below meth c Z T h k n ss) {cd : ClassFile.Cond} {x y : Int32} {o : Int} (hd : decode bytes pc = .ok (.if_icmp cd o, 3)) (hc : if_icmp.holds cd x y = false) (q : Go p.tables e below G T (mkF m (pc + 3) ls st)) : Go p.tables e below G T (mkF m pc ls (.int y :: .int x :: st))   := by
  obtain ⟨_, _, _, X, -⟩ := W
  exact Go.by (fun t q => XS.icmpNo X.here B.1 rfl (hb B.2.2.2.1 hd) rfl hc q) q
theorem g_ifnull_y (B : Bdy p Z s m meth c own bytes maxL ret nm) (W : Wk p l e R s m args below meth c Z T h k n ss)  {o : Int} {pc' : Nat} (hd : decode bytes pc = .ok (.ifnull o, 3))  (hp : (pc : Int) + o = (pc' : Int)) (q : Go p.tables e below G T (mkF m pc' ls st)) : Go p.tables e below G T (mkF m pc ls (.null :: st))   := by
  obtain ⟨_, _, _, X, -⟩ := W
  exact Go.by (fun t q => XS.ifnullYes X.here B.1 rfl rfl (hb B.2.2.2.1 hd) rfl (by rw [hp]; exact Int.natCast_nonneg _) (by rw [hp]; exact Int.toNat_natCast _) q) q
theorem g_ifnull_n (B : Bdy p Z s m meth c own bytes maxL ret nm) (W : Wk p l e R s m args below meth c Z T h k n ss) {a : Addr} {o : Int} (hd : decode bytes pc = .ok (.ifnull o, 3))  (q : Go p.tables e below G T (mkF m (pc + 3) ls st)) : Go p.tables e below G T (mkF m pc ls (.ref a :: st))   := by
  obtain ⟨_, _, _, X, -⟩ := W
  exact Go.by (fun t q => XS.ifnullNo X.here B.1 rfl (hb B.2.2.2.1 hd) rfl q) q
theorem g_ifnonnull_y (B : Bdy p Z s m meth c own bytes maxL ret nm) (W : Wk p l e R s m args below meth c Z T h k n ss) {a : Addr} {o : Int} {pc' : Nat} (hd : decode bytes pc = .ok (.ifnonnull o, 3))  (hp : (pc : Int) + o = (pc' : Int)) (q : Go p.tables e below G T (mkF m pc' ls st)) : Go p.tables e below G T (mkF m pc ls (.ref a :: st))   := by
  obtain ⟨_, _, _, X, -⟩ := W
  exact Go.by (fun t q => XT.ifnonnullYes X.here B.1 rfl rfl (hb B.2.2.2.1 hd) rfl (by rw [hp]; exact Int.natCast_nonneg _) (by rw [hp]; exact Int.toNat_natCast _) q) q
theorem g_ifnonnull_n (B : Bdy p Z s m meth c own bytes maxL ret nm) (W : Wk p l e R s m args below meth c Z T h k n ss)  {o : Int} (hd : decode bytes pc = .ok (.ifnonnull o, 3))  (q : Go p.tables e below G T (mkF m (pc + 3) ls st)) : Go p.tables e below G T (mkF m pc ls (.null :: st))   := by
  obtain ⟨_, _, _, X, -⟩ := W
  exact Go.by (fun t q => XT.ifnonnullNo X.here B.1 rfl (hb B.2.2.2.1 hd) rfl q) q
theorem g_acmp_y (B : Bdy p Z s m meth c own bytes maxL ret nm) (W : Wk p l e R s m args below meth c Z T h k n ss) {cd : ClassFile.ACond} {x y : Value} {o : Int} {pc' : Nat} (hd : decode bytes pc = .ok (.if_acmp cd o, 3)) (hx' : x.isRef = true) (hy' : y.isRef = true) (hc : XT.acmp cd x y = true) (hp : (pc : Int) + o = (pc' : Int)) (q : Go p.tables e below G T (mkF m pc' ls st)) : Go p.tables e below G T (mkF m pc ls (y :: x :: st))   := by
  obtain ⟨_, _, _, X, -⟩ := W
  exact Go.by (fun t q => XT.acmpYes X.here B.1 rfl rfl (hb B.2.2.2.1 hd) rfl hx' hy' hc (by rw [hp]; exact Int.natCast_nonneg _) (by rw [hp]; exact Int.toNat_natCast _) q) q
theorem g_acmp_n (B : Bdy p Z s m meth c own bytes maxL ret nm) (W : Wk p l e R s m args below meth c Z T h k n ss) {cd : ClassFile.ACond} {x y : Value} {o : Int} (hd : decode bytes pc = .ok (.if_acmp cd o, 3)) (hx' : x.isRef = true) (hy' : y.isRef = true) (hc : XT.acmp cd x y = false) (q : Go p.tables e below G T (mkF m (pc + 3) ls st)) : Go p.tables e below G T (mkF m pc ls (y :: x :: st))   := by
  obtain ⟨_, _, _, X, -⟩ := W
  exact Go.by (fun t q => XT.acmpNo X.here B.1 rfl (hb B.2.2.2.1 hd) rfl hx' hy' hc q) q
theorem ss_mono {vm0 vm1 : Vm} (A : CHr Z EL vm0 h vm1 h') (hss : ∀ x ∈ ss, x < h.size ∧ Safe Z EL vm0 h x) : ∀ x ∈ ss, x < h'.size ∧ Safe Z EL vm1 h' x := fun x q => ⟨Nat.lt_of_lt_of_le (hss x q).1 A.2.1, A.safe (hss x q).1 (hss x q).2⟩
theorem own_ssn {vm0 : Vm} (E : Ext h h') (H : CHv Z EL vm0 h) (hlt : h.size < h'.size) (hss : ∀ x ∈ ss, x < h.size ∧ Safe Z EL vm0 h x) : ∀ x ∈ h.size :: ss, x < h'.size ∧ Safe Z EL vm0 h' x := fun x q => by
  rcases List.mem_cons.mp q with rfl | q
  · exact ⟨hlt, Safe.ext E H (Safe.new (Nat.le_refl _))⟩
  · exact ss_mono (CHr.ext E H) hss x q
theorem g_dia (P : Prop) [Decidable P] {tb : Tables} {F : JFrame} {pc' : Nat} (h1 : P → Go tb e below G T (mkF m pc' ls (.int 1 :: st)) → Go tb e below G T F) (h0 : ¬ P → Go tb e below G T (mkF m pc' ls (.int 0 :: st)) → Go tb e below G T F) (q : Go tb e below G T (mkF m pc' ls (.int (bi (decide P)) :: st))) : Go tb e below G T F := by
  by_cases hp : P
  · rw [decide_eq_true hp] at q; exact h1 hp q
  · rw [decide_eq_false hp] at q; exact h0 hp q
theorem g_diab (b : Bool) {tb : Tables} {F : JFrame} {pc' : Nat} (h1 : b = true → Go tb e below G T (mkF m pc' ls (.int 1 :: st)) → Go tb e below G T F) (h0 : b = false → Go tb e below G T (mkF m pc' ls (.int 0 :: st)) → Go tb e below G T F) (q : Go tb e below G T (mkF m pc' ls (.int (bi b) :: st))) : Go tb e below G T F := by
  cases b
  · exact h0 rfl q
  · exact h1 rfl q
theorem g_ldcI (B : Bdy p Z s m meth c own bytes maxL ret nm) (W : Wk p l e R s m args below meth c Z T h k n ss) {i : Nat} {v : Int32} (hd : decode bytes pc = .ok (.ldc i, 2)) (w : (Cond.constant own i v).before a0 Z = true) (q : Go p.tables e below G T (mkF m (pc + 2) ls (.int v :: st))) : Go p.tables e below G T (mkF m pc ls st) := by
  obtain ⟨_, _, _, X, _, _, _, S, -⟩ := W
  have B := B.at S
  exact Go.by (fun t q => X.ldcI B.1 B.2.2.1 (mv B.2.1 w) rfl (hb B.2.2.2.1 hd) q) q
theorem g_ldcL (B : Bdy p Z s m meth c own bytes maxL ret nm) (W : Wk p l e R s m args below meth c Z T h k n ss) {i : Nat} {v : Int64} (hd : decode bytes pc = .ok (.ldc2_w i, 3)) (w : (Cond.constantLong own i v).before a0 Z = true) (q : Go p.tables e below G T (mkF m (pc + 3) ls (.long v :: st))) : Go p.tables e below G T (mkF m pc ls st) := by
  obtain ⟨_, _, _, X, _, _, _, S, -⟩ := W
  have B := B.at S
  exact Go.by (fun t q => X.ldc2J B.1 B.2.2.1 (mv B.2.1 w) rfl (hb B.2.2.2.1 hd) q) q
/-! ### the heap's steps -/
theorem x_new (B : Bdy p Z s m meth c own bytes maxL ret nm) (W : Wk p l e R s m args below meth c Z T h k n ss) {C : String} {i sz : Nat} (hd : decode bytes pc = .ok (.new i, 3)) (w : (Cond.classLink own i C).before a0 Z = true) (wi : (Cond.instantiable C sz).before a0 Z = true) (wz : (Cond.initialized C).before a0 Z = true) (hc : k + 1 ≤ R.cells) (hl : n + sz ≤ R.slots) (ls : Array Slot) (st : List Value) :
    ∃ T' h' b, b = h.size ∧ Wk p l e R s m args below meth c Z T' h' (k + 1) (n + sz) (b :: ss) ∧ Keep h h' [] ∧ Exa Z h' b C ∧ (∀ {O nf d : String} {ty : FieldType}, Laid Z a0 C O nf d → parseFieldDescriptor d = some ty → Fld Z h' b O nf d (defaultValue ty)) ∧
      (∀ G, Go p.tables e below G T' (mkF m (pc + 3) ls (.ref b :: st)) → Go p.tables e below G T (mkF m pc ls st)) := by
  obtain ⟨locs, vm0, k0, X, eT, N, O, S, hk, H, hss⟩ := W
  have B := B.at S
  obtain ⟨T', h', X', e', E', A', D', -, st'⟩ := newO X B.1 B.2.1 B.2.2.1 w wi wz eT (g := mkF m pc ls st) rfl (hb B.2.2.2.1 hd) hc hl
  exact ⟨T', h', _, rfl, ⟨locs, vm0, k0, X', e', N, O.ext E', S, Nat.le_trans hk E'.1, H.trans (CHr.ext E' H.1), own_ssn E' H.1 (by first | exact A'.lt | exact (Arv.new A' hn).lt) hss⟩, (Keep.refl h []).ext E', A', D', fun G q => Go.by st' q⟩
theorem x_init (B : Bdy p Z s m meth c own bytes maxL ret nm) (W : Wk p l e R s m args below meth c Z T h k n ss) {i : Nat} (hd : decode bytes pc = .ok (.invokespecial i, 3)) (w1 : (Cond.methodLink own i Lib.objectInit).before a0 Z = true) (w2 : (Cond.instanceMethod Lib.objectInit).before a0 Z = true)
    (w3 : (Cond.code Lib.objectInit ⟨#[0xb1]⟩ 1 none).before a0 Z = true) (b : Addr) (ls : Array Slot) (st : List Value) (hsz : ls.size = maxL) (V : Nat) (hV : (st.map fun v => v.category).sum = V) (hf : 1 ≤ R.frames) (hl : V + 12 ≤ R.locals) :
    ∃ T', Wk p l e R s m args below meth c Z T' h k n ss ∧ (∀ G, Go p.tables e below G T' (mkF m (pc + 3) ls st) → Go p.tables e below G T (mkF m pc ls (.ref b :: st))) := by
  obtain ⟨locs, vm0, k0, X, eT, N, O, S, hk, H, hss⟩ := W
  have B := B.at S
  obtain ⟨T', X', e', st'⟩ := initO X B.1 B.2.1 B.2.2.1 w1 w2 w3 eT (g := mkF m pc ls (.ref b :: st)) rfl (hsz.trans B.2.2.2.2.1.symm) rfl (hb B.2.2.2.1 hd) hf (W := V) (by show 2 * 0 + _ ≤ _; omega) hl
  exact ⟨T', ⟨locs, vm0, k0, X', e', N, O, S, hk, H, hss⟩, fun G q => Go.by st' q⟩
theorem x_get (B : Bdy p Z s m meth c own bytes maxL ret nm) (W : Wk p l e R s m args below meth c Z T h k n ss) {R0 O nf d host : String} {i : Nat} {b : Addr} {v : Value} (hd : decode bytes pc = .ok (.getfield i, 3)) (w : (Cond.fieldLink own i R0 nf d).before a0 Z = true ∨ (Cond.fieldLinkNest own i R0 nf d host).before a0 Z = true) (via : Via Z R0 O nf d) (F : Fld Z h b O nf d v) (ls : Array Slot) (st : List Value) :
    ∃ T', Wk p l e R s m args below meth c Z T' h k n ss ∧ (∀ G, Go p.tables e below G T' (mkF m (pc + 3) ls (v :: st)) → Go p.tables e below G T (mkF m pc ls (.ref b :: st))) := by
  obtain ⟨locs, vm0, k0, X, eT, N, O', S, hk, H, hss⟩ := W
  have B := B.at S
  obtain ⟨T', X', e', st'⟩ := getF X B.1 B.2.1 B.2.2.1 w via eT F (g := mkF m pc ls (.ref b :: st)) rfl rfl (hb B.2.2.2.1 hd)
  exact ⟨T', ⟨locs, vm0, k0, X', e', N, O', S, hk, H, hss⟩, fun G q => Go.by st' q⟩
theorem x_gets (B : Bdy p Z s m meth c own bytes maxL ret nm) (W : Wk p l e R s m args below meth c Z T h k n ss) {R0 O nf d host : String} {i : Nat} {v : Value} (hd : decode bytes pc = .ok (.getstatic i, 3)) (w : (Cond.fieldLink own i R0 nf d).before a0 Z = true ∨ (Cond.fieldLinkNest own i R0 nf d host).before a0 Z = true) (via : Via Z R0 O nf d) (F : Sta Z Z.heap O nf d v) (ls : Array Slot) (st : List Value) :
    ∃ T', Wk p l e R s m args below meth c Z T' h k n ss ∧ (∀ G, Go p.tables e below G T' (mkF m (pc + 3) ls (v :: st)) → Go p.tables e below G T (mkF m pc ls st)) := by
  obtain ⟨locs, vm0, k0, X, eT, N, O', S, hk, H, hss⟩ := W
  have B := B.at S
  obtain ⟨T', X', e', st'⟩ := getS2 X B.1 B.2.1 B.2.2.1 w via eT (F.ext O'.2) (g := mkF m pc ls st) rfl (hb B.2.2.2.1 hd)
  exact ⟨T', ⟨locs, vm0, k0, X', e', N, O', S, hk, H, hss⟩, fun G q => Go.by st' q⟩
theorem x_put (B : Bdy p Z s m meth c own bytes maxL ret nm) (W : Wk p l e R s m args below meth c Z T h k n ss) {R0 O nf d C : String} {i kk : Nat} {ty : FieldType} {b : Addr} {v v' old : Value} (hd : decode bytes pc = .ok (.putfield i, 3)) (w : (Cond.fieldLink own i R0 nf d).before a0 Z = true) (via : Via Z R0 O nf d) (F : Fld Z h b O nf d old) (E : Exa Z h b C) (L : (Cond.lays C O nf d).before a0 Z = true ∨ ((Cond.laysFinal C O nf d).before a0 Z = true ∧ own = O ∧ nm = "<init>")) (wi : (Cond.instantiable C kk).before a0 Z = true)
    (hty : parseFieldDescriptor d = some ty) (hn : narrow ty v = v') (hf : fits ty v' = true) (hb' : Z.heap.size ≤ b) (hsf : (C ≠ "java/lang/String" ∧ C ≠ "[B") ∨ b ∈ ss) (ls : Array Slot) (st : List Value) :
    ∃ T' h', Wk p l e R s m args below meth c Z T' h' k n ss ∧ Keep h h' [b] ∧ Wr h h' b (RoadKit.slotOf Z O nf d) v' ∧ Fld Z h' b O nf d v' ∧ Exa Z h' b C ∧ (∀ G, Go p.tables e below G T' (mkF m (pc + 3) ls st) → Go p.tables e below G T (mkF m pc ls (v :: .ref b :: st))) := by
  obtain ⟨locs, vm0, k0, X, eT, N, O', S, hk, H, hss⟩ := W
  have B := B.at S
  obtain ⟨T', h', X', e', W', st'⟩ := putFN X B.1 B.2.1 B.2.2.1 w via eT F E (L.imp id fun q => ⟨q.1, q.2.1, B.nameOf.trans q.2.2⟩) wi hty hn hf (g := mkF m pc ls (v :: .ref b :: st)) rfl rfl (hb B.2.2.2.1 hd)
  exact ⟨T', h', ⟨_, vm0, k0, X', e', Fr.snoc X' N hb', O'.wr W' hb', S, by rw [W'.size]; exact hk, H.trans (CHr.wr W' (hsf.elim (fun q => Safe.exa B.2.1.alike E q.1 q.2) fun q => (hss _ q).2) H.1), ss_mono (CHr.wr W' (hsf.elim (fun q => Safe.exa B.2.1.alike E q.1 q.2) fun q => (hss _ q).2) H.1) hss⟩, Keep.of_wr W', W', F.same W', E.wr W', fun G q => Go.by st' q⟩
theorem x_instY (B : Bdy p Z s m meth c own bytes maxL ret nm) (W : Wk p l e R s m args below meth c Z T h k n ss) {K : String} {i : Nat} {b : Addr} (hd : decode bytes pc = .ok (.instanceof i, 3)) (w : (Cond.classLink own i K).before a0 Z = true) (F : Ins Z h b K true) (ls : Array Slot) (st : List Value) :
    ∃ T', Wk p l e R s m args below meth c Z T' h k n ss ∧ (∀ G, Go p.tables e below G T' (mkF m (pc + 3) ls (.int 1 :: st)) → Go p.tables e below G T (mkF m pc ls (.ref b :: st))) := by
  obtain ⟨locs, vm0, k0, X, eT, N, O, S, hk, H, hss⟩ := W
  have B := B.at S
  obtain ⟨T', X', e', st'⟩ := instY X B.1 B.2.1 B.2.2.1 w eT F (g := mkF m pc ls (.ref b :: st)) rfl rfl (hb B.2.2.2.1 hd)
  exact ⟨T', ⟨locs, vm0, k0, X', e', N, O, S, hk, H, hss⟩, fun G q => Go.by st' q⟩
theorem x_instN (B : Bdy p Z s m meth c own bytes maxL ret nm) (W : Wk p l e R s m args below meth c Z T h k n ss) {K C : String} {i : Nat} {b : Addr} (hd : decode bytes pc = .ok (.instanceof i, 3)) (w : (Cond.classLink own i K).before a0 Z = true) (E : Exa Z h b C) (F : ∃ c t, Z.vm.findClass C = some c ∧ Z.vm.findClass K = some t ∧ Z.vm.assignable c t = false) (ls : Array Slot) (st : List Value) :
    ∃ T', Wk p l e R s m args below meth c Z T' h k n ss ∧ (∀ G, Go p.tables e below G T' (mkF m (pc + 3) ls (.int 0 :: st)) → Go p.tables e below G T (mkF m pc ls (.ref b :: st))) := by
  obtain ⟨locs, vm0, k0, X, eT, N, O, S, hk, H, hss⟩ := W
  have B := B.at S
  obtain ⟨T', X', e', st'⟩ := instNo X B.1 B.2.1 B.2.2.1 w eT E F (g := mkF m pc ls (.ref b :: st)) rfl rfl (hb B.2.2.2.1 hd)
  exact ⟨T', ⟨locs, vm0, k0, X', e', N, O, S, hk, H, hss⟩, fun G q => Go.by st' q⟩
theorem x_castY (B : Bdy p Z s m meth c own bytes maxL ret nm) (W : Wk p l e R s m args below meth c Z T h k n ss) {K : String} {i : Nat} {b : Addr} (hd : decode bytes pc = .ok (.checkcast i, 3)) (w : (Cond.classLink own i K).before a0 Z = true) (F : Ins Z h b K true) (ls : Array Slot) (st : List Value) :
    ∃ T', Wk p l e R s m args below meth c Z T' h k n ss ∧ (∀ G, Go p.tables e below G T' (mkF m (pc + 3) ls (.ref b :: st)) → Go p.tables e below G T (mkF m pc ls (.ref b :: st))) := by
  obtain ⟨locs, vm0, k0, X, eT, N, O, S, hk, H, hss⟩ := W
  have B := B.at S
  obtain ⟨T', X', e', st'⟩ := castY X B.1 B.2.1 B.2.2.1 w eT F (g := mkF m pc ls (.ref b :: st)) rfl rfl (hb B.2.2.2.1 hd)
  exact ⟨T', ⟨locs, vm0, k0, X', e', N, O, S, hk, H, hss⟩, fun G q => Go.by st' q⟩
/-! ### arrays -/
theorem x_newA (B : Bdy p Z s m meth c own bytes maxL ret nm) (W : Wk p l e R s m args below meth c Z T h k n ss) {aty : ArrayType} {z : Int32} (cap : Nat) (hd : decode bytes pc = .ok (.newarray aty, 2)) (w : (Cond.arrayClass (newarray.typeOf aty)).before a0 Z = true) (hn : ¬ z < 0) (hcap : z.toNatClampNeg ≤ cap) (hbg : cap * 8 ≤ 536870912) (hc : k + 1 ≤ R.cells) (hl : n + cap ≤ R.slots) (ls : Array Slot) (st : List Value) :
    ∃ T' h' b cA, b = h.size ∧ Wk p l e R s m args below meth c Z T' h' (k + 1) (n + cap) (b :: ss) ∧ Keep h h' [] ∧ Arv Z h' b cA (newarray.typeOf aty) z (List.replicate cap (defaultValue (newarray.typeOf aty))) (defaultValue (newarray.typeOf aty)) ∧
      (∀ G, Go p.tables e below G T' (mkF m (pc + 2) ls (.ref b :: st)) → Go p.tables e below G T (mkF m pc ls (.int z :: st))) := by
  obtain ⟨locs, vm0, k0, X, eT, N, O, S, hk, H, hss⟩ := W
  have B := B.at S
  obtain ⟨T', h', cA, X', e', E', A', st'⟩ := newP X B.1 B.2.1 w eT (g := mkF m pc ls (.int z :: st)) rfl (hb B.2.2.2.1 hd) rfl hn hcap hbg hc hl
  exact ⟨T', h', _, cA, rfl, ⟨locs, vm0, k0, X', e', N, O.ext E', S, Nat.le_trans hk E'.1, H.trans (CHr.ext E' H.1), own_ssn E' H.1 (by first | exact A'.lt | exact (Arv.new A' hn).lt) hss⟩, (Keep.refl h []).ext E', (Arv.new A' hn).pad (vs' := [] ++ List.replicate cap _) (pad_rep [] _ cap), fun G q => Go.by st' q⟩
theorem arv_put {kc : ClassId} {ty : FieldType} {z j : Int32} {vs : List Value} {dv v : Value} {b : Addr} (F : Arv Z h b kc ty z vs dv) (hv : fits ty v = true) (hW : Wr h h' b j.toNatClampNeg v) (hi : j.toNatClampNeg < vs.length) : Arv Z h' b kc ty z (vs.set j.toNatClampNeg v) dv := by
  obtain ⟨cl, A, r1, r2, r3, H, Gf⟩ := F
  exact Arv.set A r1 r2 r3 H Gf hv hW _ rfl hi
theorem x_castore (B : Bdy p Z s m meth c own bytes maxL ret nm) (W : Wk p l e R s m args below meth c Z T h k n ss) {kc : ClassId} {z j x : Int32} {vs : List Value} {dv : Value} {b : Addr} (hd : decode bytes pc = .ok (.castore, 1)) (F : Arv Z h b kc .char z vs dv) (hj : ¬ j < 0 ∧ j < z) (hi : j.toNatClampNeg < vs.length) (hb' : Z.heap.size ≤ b) (ls : Array Slot) (st : List Value) :
    ∃ T' h', Wk p l e R s m args below meth c Z T' h' k n ss ∧ Keep h h' [b] ∧ Arv Z h' b kc .char z (vs.set j.toNatClampNeg (.int (nar .char x))) dv ∧ (∀ G, Go p.tables e below G T' (mkF m (pc + 1) ls st) → Go p.tables e below G T (mkF m pc ls (.int x :: .int j :: .ref b :: st))) := by
  obtain ⟨locs, vm0, k0, X, eT, N, O, S, hk, H, hss⟩ := W
  have B := B.at S
  have F' := F
  obtain ⟨cl, A, r1, r2, r3, Hs, Gf⟩ := F
  obtain ⟨T', h', X', e', W', st'⟩ := stC X B.1 B.2.1 eT A (inb_of r2 hj) (g := mkF m pc ls (.int x :: .int j :: .ref b :: st)) rfl rfl (hb B.2.2.2.1 hd)
  exact ⟨T', h', ⟨_, vm0, k0, X', e', Fr.snoc X' N hb', O.wr W' hb', S, by rw [W'.size]; exact hk, H.trans (CHr.wr W' (Safe.arv B.2.1.alike F' (by decide)) H.1), ss_mono (CHr.wr W' (Safe.arv B.2.1.alike F' (by decide)) H.1) hss⟩, Keep.of_wr W', arv_put F' (fits_nar_char _) W' hi, fun G q => Go.by st' q⟩
theorem arv_read {kc : ClassId} {ty : FieldType} {z : Int32} {vs : List Value} {dv : Value} {b : Addr} (F : Arv Z h b kc ty z vs dv) {j : Int32} (hj : ¬ j < 0 ∧ j < z) {v : Value} (hv : vs.getD j.toNatClampNeg dv = v) : ∃ cl : Cell, Arr Z h b cl ty ∧ ¬ (j < 0 ∨ cl.slots.size ≤ j.toNatClampNeg) ∧ cl.slots[j.toNatClampNeg]? = some v := by
  obtain ⟨cl, A, r1, r2, r3, H, -⟩ := F
  exact ⟨cl, A, inb_of r2 hj, H.at (inb_of r2 hj) hv⟩
theorem g_caload (B : Bdy p Z s m meth c own bytes maxL ret nm) (W : Wk p l e R s m args below meth c Z T h k n ss) {kc : ClassId} {z j : Int32} {vs : List Value} {dv v : Value} {b : Addr} (hd : decode bytes pc = .ok (.caload, 1)) (F : Arv Z h b kc .char z vs dv) (hj : ¬ j < 0 ∧ j < z) (hv : vs.getD j.toNatClampNeg dv = v)
    (q : Go p.tables e below G T (mkF m (pc + 1) ls (v :: st))) : Go p.tables e below G T (mkF m pc ls (.int j :: .ref b :: st)) := by
  obtain ⟨locs, vm0, k0, X, eT, N, O, S, hk, H, hss⟩ := W
  have B := B.at S
  obtain ⟨cl, A, hin, hat⟩ := arv_read F hj hv
  exact Go.by (X.caload B.1 (by rw [eT]; exact A.1) (State.isArrayOf_alike B.2.1.alike A.2.1) A.2.2 hin hat (g := mkF m pc ls (.int j :: .ref b :: st)) rfl rfl (hb B.2.2.2.1 hd)) q
theorem g_caloadK (B : Bdy p Z s m meth c own bytes maxL ret nm) (W : Wk p l e R s m args below meth c Z T h k n ss) {j : Int32} {v : Value} {cl : Cell} {b : Addr} (hd : decode bytes pc = .ok (.caload, 1)) (A : Arr Z h b cl .char) (hin : ¬ (j < 0 ∨ cl.slots.size ≤ j.toNatClampNeg)) (hat : cl.slots[j.toNatClampNeg]? = some v)
    (q : Go p.tables e below G T (mkF m (pc + 1) ls (v :: st))) : Go p.tables e below G T (mkF m pc ls (.int j :: .ref b :: st)) := by
  obtain ⟨locs, vm0, k0, X, eT, N, O, S, hk, H, hss⟩ := W
  have B := B.at S
  exact Go.by (X.caload B.1 (by rw [eT]; exact A.1) (State.isArrayOf_alike B.2.1.alike A.2.1) A.2.2 hin hat (g := mkF m pc ls (.int j :: .ref b :: st)) rfl rfl (hb B.2.2.2.1 hd)) q
theorem g_alenK (B : Bdy p Z s m meth c own bytes maxL ret nm) (W : Wk p l e R s m args below meth c Z T h k n ss) {ty : FieldType} {z : Int32} {cl : Cell} {b : Addr} (hd : decode bytes pc = .ok (.arraylength, 1)) (A : Arr Z h b cl ty) (hz : cl.slots.size.toInt32 = z)
    (q : Go p.tables e below G T (mkF m (pc + 1) ls (.int z :: st))) : Go p.tables e below G T (mkF m pc ls (.ref b :: st)) := by
  obtain ⟨locs, vm0, k0, X, eT, N, O, S, hk, H, hss⟩ := W
  have B := B.at S
  refine Go.by (X.arraylength B.1 (by rw [eT]; exact A.1) (State.isArrayOf_alike B.2.1.alike A.2.1) (g := mkF m pc ls (.ref b :: st)) rfl rfl (hb B.2.2.2.1 hd)) ?_
  rw [hz]; exact q
theorem g_aalen (B : Bdy p Z s m meth c own bytes maxL ret nm) (W : Wk p l e R s m args below meth c Z T h k n ss) {kc : ClassId} {ty : FieldType} {z : Int32} {vs : List Value} {dv : Value} {b : Addr} (hd : decode bytes pc = .ok (.arraylength, 1)) (F : Arv Z h b kc ty z vs dv)
    (q : Go p.tables e below G T (mkF m (pc + 1) ls (.int z :: st))) : Go p.tables e below G T (mkF m pc ls (.ref b :: st)) := by
  obtain ⟨locs, vm0, k0, X, eT, N, O, S, hk, H, hss⟩ := W
  have B := B.at S
  obtain ⟨cl, A, r1, r2, r3, H, -⟩ := F
  refine Go.by (X.arraylength B.1 (by rw [eT]; exact A.1) (State.isArrayOf_alike B.2.1.alike A.2.1) (g := mkF m pc ls (.ref b :: st)) rfl rfl (hb B.2.2.2.1 hd)) ?_
  rw [len_of r2 r3]; exact q
theorem g_aaload (B : Bdy p Z s m meth c own bytes maxL ret nm) (W : Wk p l e R s m args below meth c Z T h k n ss) {ty : FieldType} {j : Int32} {v : Value} {cl : Cell} {b : Addr} (hd : decode bytes pc = .ok (.aaload, 1)) (A : Arr Z h b cl ty) (ht : ty.isReference = true) (hin : ¬ (j < 0 ∨ cl.slots.size ≤ j.toNatClampNeg)) (hat : cl.slots[j.toNatClampNeg]? = some v)
    (q : Go p.tables e below G T (mkF m (pc + 1) ls (v :: st))) : Go p.tables e below G T (mkF m pc ls (.int j :: .ref b :: st)) := by
  obtain ⟨locs, vm0, k0, X, eT, N, O, S, hk, H, hss⟩ := W
  have B := B.at S
  exact Go.by (X.aaload B.1 (by rw [eT]; exact A.1) (State.isArrayOf_alike B.2.1.alike A.2.1) ht A.2.2 hin hat (g := mkF m pc ls (.int j :: .ref b :: st)) rfl rfl (hb B.2.2.2.1 hd)) q
theorem g_instNull (B : Bdy p Z s m meth c own bytes maxL ret nm) (W : Wk p l e R s m args below meth c Z T h k n ss) {i : Nat} (hd : decode bytes pc = .ok (.instanceof i, 3)) (q : Go p.tables e below G T (mkF m (pc + 3) ls (.int 0 :: st))) : Go p.tables e below G T (mkF m pc ls (.null :: st)) := by
  obtain ⟨_, _, _, X, _, _, _, S, -⟩ := W
  have B := B.at S
  exact Go.by (X.instanceofNull B.1 (g := mkF m pc ls (.null :: st)) rfl rfl (hb B.2.2.2.1 hd)) q
theorem g_castNull (B : Bdy p Z s m meth c own bytes maxL ret nm) (W : Wk p l e R s m args below meth c Z T h k n ss) {i : Nat} (hd : decode bytes pc = .ok (.checkcast i, 3)) (q : Go p.tables e below G T (mkF m (pc + 3) ls (.null :: st))) : Go p.tables e below G T (mkF m pc ls (.null :: st)) := by
  obtain ⟨_, _, _, X, _, _, _, S, -⟩ := W
  have B := B.at S
  refine Go.by (fun t q => ?_) q
  jvm_step X.here [B.1, (hb B.2.2.2.1 hd), checkcast.sem]
  exact q
theorem x_newR (B : Bdy p Z s m meth c own bytes maxL ret nm) (W : Wk p l e R s m args below meth c Z T h k n ss) {C : String} {i : Nat} {z : Int32} (cap : Nat) (hd : decode bytes pc = .ok (.anewarray i, 3)) (w1 : (Cond.classLink own i C).before a0 Z = true) (w2 : (Cond.arrayOver (.object C)).before a0 Z = true) (hn : ¬ z < 0) (hcap : z.toNatClampNeg ≤ cap) (hbg : cap * 8 ≤ 536870912) (hc : k + 1 ≤ R.cells) (hl : n + cap ≤ R.slots) (ls : Array Slot) (st : List Value) :
    ∃ T' h' b cA, b = h.size ∧ Wk p l e R s m args below meth c Z T' h' (k + 1) (n + cap) (b :: ss) ∧ Keep h h' [] ∧ Arv Z h' b cA (.object C) z (List.replicate cap .null) .null ∧ Ovr Z cA C ∧
      (∀ G, Go p.tables e below G T' (mkF m (pc + 3) ls (.ref b :: st)) → Go p.tables e below G T (mkF m pc ls (.int z :: st))) := by
  obtain ⟨locs, vm0, k0, X, eT, N, O, S, hk, H, hss⟩ := W
  have B := B.at S
  obtain ⟨T', h', cA, X', e', E', A', Ov', st'⟩ := newR X B.1 B.2.1 B.2.2.1 w1 w2 eT (g := mkF m pc ls (.int z :: st)) rfl (hb B.2.2.2.1 hd) rfl hn hcap hbg hc hl
  exact ⟨T', h', _, cA, rfl, ⟨locs, vm0, k0, X', e', N, O.ext E', S, Nat.le_trans hk E'.1, H.trans (CHr.ext E' H.1), own_ssn E' H.1 (by first | exact A'.lt | exact (Arv.new A' hn).lt) hss⟩, (Keep.refl h []).ext E', (Arv.new A' hn).pad (vs' := [] ++ List.replicate cap _) (pad_rep [] _ cap), Ov', fun G q => Go.by st' q⟩
theorem x_aastore (B : Bdy p Z s m meth c own bytes maxL ret nm) (W : Wk p l e R s m args below meth c Z T h k n ss) {kc : ClassId} {ty : FieldType} {z j : Int32} {vs : List Value} {dv v : Value} {b : Addr} (hd : decode bytes pc = .ok (.aastore, 1)) (F : Arv Z h b kc ty z vs dv) (ht : ty.isReference = true) (hj : ¬ j < 0 ∧ j < z) (hi : j.toNatClampNeg < vs.length) (hv : v.isRef = true) (hS : ∀ cl, Arr Z h b cl ty → cl.cls = kc → Sto Z h b v) (hb' : Z.heap.size ≤ b) (ls : Array Slot) (st : List Value) :
    ∃ T' h', Wk p l e R s m args below meth c Z T' h' k n ss ∧ Keep h h' [b] ∧ Arv Z h' b kc ty z (vs.set j.toNatClampNeg v) dv ∧ (∀ G, Go p.tables e below G T' (mkF m (pc + 1) ls st) → Go p.tables e below G T (mkF m pc ls (v :: .int j :: .ref b :: st))) := by
  obtain ⟨locs, vm0, k0, X, eT, N, O, S, hk, H, hss⟩ := W
  have B := B.at S
  have F' := F
  have hby : ty ≠ .byte := fun q => by rw [q] at ht; cases ht
  obtain ⟨cl, A, r1, r2, r3, Hs, Gf⟩ := F
  obtain ⟨T', h', X', e', W', st'⟩ := stR X B.1 B.2.1 eT A (inb_of r2 hj) ht (hS cl A r1) (g := mkF m pc ls (v :: .int j :: .ref b :: st)) rfl rfl (hb B.2.2.2.1 hd)
  exact ⟨T', h', ⟨_, vm0, k0, X', e', Fr.snoc X' N hb', O.wr W' hb', S, by rw [W'.size]; exact hk, H.trans (CHr.wr W' (Safe.arv B.2.1.alike F' hby) H.1), ss_mono (CHr.wr W' (Safe.arv B.2.1.alike F' hby) H.1) hss⟩, Keep.of_wr W', arv_put F' (own_fr ht hv) W' hi, fun G q => Go.by st' q⟩
theorem g_aaloadV (B : Bdy p Z s m meth c own bytes maxL ret nm) (W : Wk p l e R s m args below meth c Z T h k n ss) {kc : ClassId} {ty : FieldType} {z j : Int32} {vs : List Value} {dv v : Value} {b : Addr} (hd : decode bytes pc = .ok (.aaload, 1)) (F : Arv Z h b kc ty z vs dv) (ht : ty.isReference = true) (hj : ¬ j < 0 ∧ j < z) (hv : vs.getD j.toNatClampNeg dv = v)
    (q : Go p.tables e below G T (mkF m (pc + 1) ls (v :: st))) : Go p.tables e below G T (mkF m pc ls (.int j :: .ref b :: st)) := by
  obtain ⟨cl, A, hin, hat⟩ := arv_read F hj hv
  exact g_aaload B W hd A ht hin hat q
theorem x_clone (B : Bdy p Z s m meth c own bytes maxL ret nm) (W : Wk p l e R s m args below meth c Z T h k n ss) {ad : String} {i : Nat} {b : Addr} {cl : Cell} {ty : FieldType} (cap : Nat) (hd : decode bytes pc = .ok (.invokevirtual i, 3)) (w1 : (Cond.methodLink own i ⟨ad, "clone", "()Ljava/lang/Object;"⟩).before a0 Z = true) (w2 : (Cond.sameMethod ad "java/lang/Object" "clone" "()Ljava/lang/Object;").before a0 Z = true) (w3 : (Cond.native ⟨"java/lang/Object", "clone", "()Ljava/lang/Object;"⟩).before a0 Z = true)
    (w4 : (Cond.instanceMethod ⟨"java/lang/Object", "clone", "()Ljava/lang/Object;"⟩).before a0 Z = true) (w5 : (Cond.selects ad ⟨ad, "clone", "()Ljava/lang/Object;"⟩ ⟨"java/lang/Object", "clone", "()Ljava/lang/Object;"⟩).before a0 Z = true) (w6 : (Cond.castable ad "java/lang/Cloneable").before a0 Z = true) (A : Arr Z h b cl ty) (E : Exa Z h b ad) (F : FitC Z cl)
    (ls : Array Slot) (st : List Value) (hsz : ls.size = maxL) (V : Nat) (hV : (st.map fun v => v.category).sum = V) (hf : 1 ≤ R.frames) (hl : V + 14 ≤ R.locals) (hcap : cl.slots.size ≤ cap) (hc : k + 1 ≤ R.cells) (hs : n + cap ≤ R.slots) :
    ∃ T' h' b', b' = h.size ∧ Wk p l e R s m args below meth c Z T' h' (k + 1) (n + cap) (b' :: ss) ∧ Keep h h' [] ∧ Arr Z h' b' (cloneOf cl) ty ∧ Exa Z h' b' ad ∧ (∀ G, Go p.tables e below G T' (mkF m (pc + 3) ls (.ref b' :: st)) → Go p.tables e below G T (mkF m pc ls (.ref b :: st))) := by
  obtain ⟨locs, vm0, k0, X, eT, N, O, S, hk, H, hss⟩ := W
  have B := B.at S
  obtain ⟨T', h', X', e', E', A', Ex', st'⟩ := cloneA X B.1 B.2.1 B.2.2.1 w1 w2 w3 w4 w5 w6 eT A E F (g := mkF m pc ls (.ref b :: st)) rfl (hsz.trans B.2.2.2.2.1.symm) rfl (hb B.2.2.2.1 hd) hf (W := V) (by show 2 * 0 + _ ≤ _; omega) hl hcap hc hs
  exact ⟨T', h', _, rfl, ⟨locs, vm0, k0, X', e', N, O.ext E', S, Nat.le_trans hk E'.1, H.trans (CHr.ext E' H.1), own_ssn E' H.1 (by first | exact A'.lt | exact (Arv.new A' hn).lt) hss⟩, (Keep.refl h []).ext E', A', Ex', fun G q => Go.by st' q⟩
/-! ### calls -/
theorem backC {vm0 : Vm} {y : MethodName} {yb : ByteArray} {yL : Nat} {yr : Option FieldType} {rm : Room} {len V : Nat} {as' : Array Value} {s0 : List Addr} (C : Con l Z y yb yL yr [] rm as' h Q s0) (O : Old Z Z.heap.size h) (hWd : Wd Z)
    (hZ : Z.Warmed39 vm0) (wc : (Cond.code y yb yL yr).before a0 Z = true) (wz : (Cond.initialized y.cls).before a0 Z = true) (hf : rm.frames + 1 ≤ R.frames) (hl : V + (yL + 11) + rm.locals ≤ R.locals) (H : CHv Z EL vm0 h) (hs0 : ∀ x ∈ s0, x < h.size ∧ Safe Z EL vm0 h x) :
    BackS l R p e below (s.setVm vm0) args y len V (fun A a => a = as' ∧ A.U.heap = h ∧ A.cells + rm.cells ≤ R.cells ∧ A.slots + rm.slots ≤ R.slots)
      (fun A _ v B => ∃ L, (Q v B.U.heap ∧ Fr Z.heap.size L ∧ Old Z Z.heap.size B.U.heap) ∧ B.locs = A.locs ++ L ∧ B.cells = A.cells + rm.cells ∧ B.slots = A.slots + rm.slots ∧ CHr Z EL vm0 h B.U.vm B.U.heap) := by
  obtain ⟨a1, hEL, -⟩ := id hWd
  refine BackS.of_freeW (bytes := yb) (maxL := yL) (ret := yr) (E := fun _ first o t L k n => (k = rm.cells ∧ n = rm.slots) ∧ ∃ v, o = .returned v ∧ (Q v t.heap ∧ Fr Z.heap.size L ∧ Old Z Z.heap.size t.heap) ∧ CHr Z EL first.vm first.heap t.vm t.heap) (C hWd O) hf hl ?_ ?_ (fun _ _ _ _ _ _ _ _ _ => trivial) ?_ ?_
  · intro m meth c A a Y hp
    have hU : Z.Warmed39 A.U.vm := wtrans (s := s.setVm vm0) hZ Y.warmed
    exact ⟨by show (Cond.and _ .tt).before a A.U = true; rw [Cond.before_and, mv hU wc]; rfl, mv hU wc, mv hU wz, hp.2.2.1, hp.2.2.2⟩
  · intro m meth c A a g mk Y hp
    have q := CHv.at Y hZ hEL H
    exact ⟨hp.1, wtrans (s := s.setVm vm0) hZ Y.warmed, hp.2.1, q.1, ss_mono q hs0⟩
  · rintro _ _ _ _ ⟨v, L, h1, h2, h3, h4⟩
    exact ⟨L, _, _, h4, ⟨rfl, rfl⟩, v, h1, h2, h3⟩
  · rintro m meth c A a g mk v t L k n Y hp _ _ ⟨⟨rfl, rfl⟩, v', e3, e4, e5⟩
    cases e3
    refine ⟨L, e4, rfl, rfl, rfl, (CHv.at Y hZ hEL H).trans ?_⟩
    have e6 : (A.U.calling g mk a).heap = h := hp.2.1
    rw [← e6]; exact e5
theorem x_static (B : Bdy p Z s m meth c own bytes maxL ret nm) (W : Wk p l e R s m args below meth c Z T h k n ss) {y : MethodName} {yb : ByteArray} {yL i : Nat} {yr : Option FieldType} {rm : Room} (argsL : List Value) {s0 : List Addr} (C : Con l Z y yb yL yr [] rm argsL.toArray h Q s0) (hs0 : ∀ x ∈ s0, x ∈ ss)
    (hd : decode bytes pc = .ok (.invokestatic i, 3)) (w1 : (Cond.methodLink own i y).before a0 Z = true) (w2 : (Cond.static y).before a0 Z = true) (wz : (Cond.initialized y.cls).before a0 Z = true) (wc : (Cond.code y yb yL yr).before a0 Z = true) (hy : y.cls ≠ "java/lang/invoke/MethodHandle" ∧ y.cls ≠ "java/lang/invoke/VarHandle")
    (hlen : ∀ sig, parseMethodDescriptor y.desc = some sig → argsL.length = sig.parameters.length) (ls : Array Slot) (st : List Value) (hsz : ls.size = maxL) (V : Nat) (hV : (st.map fun v => v.category).sum = V) (hf : rm.frames + 1 ≤ R.frames) (hl : V + (yL + 11) + rm.locals ≤ R.locals) (hc : k + rm.cells ≤ R.cells) (hs : n + rm.slots ≤ R.slots) :
    ∃ T' h' v, Wk p l e R s m args below meth c Z T' h' (k + rm.cells) (n + rm.slots) ss ∧ Q v h' ∧ (∀ G, Go p.tables e below G T' (mkF m (pc + 3) ls (v.toList ++ st)) → Go p.tables e below G T (mkF m pc ls (argsL.reverse ++ st))) := by
  obtain ⟨locs, vm0, k0, X, eT, N, O, S, hk, H, hss⟩ := W
  have B := B.at S
  obtain ⟨v, _, ⟨T', L', k', n'⟩, -, X', S', hg', ⟨Lc, hQ, l1, l2, l3, A'⟩, st'⟩ := callSS X B.1 (y := y) B.2.2.1 (mvT B.2.1 w1) (mvT B.2.1 w2) (mvT B.2.1 wz) (mvT B.2.1 wc) hy (backC (V := V) C O B.2.2.2.2.2.2.2.2 B.2.1 wc wz hf hl H.1 (fun x q => hss x (hs0 x q))) (g := mkF m pc ls (argsL.reverse ++ st)) rfl (hsz.trans B.2.2.2.2.1.symm) (argsL := argsL) (rest := st) hlen rfl (by show 2 * 0 + _ ≤ _; omega) (hb B.2.2.2.1 hd) (fun _ _ => ⟨rfl, eT, hc, hs⟩)
  dsimp only [Pt.U, Pt.locs, Pt.cells, Pt.slots] at X' S' hg' A' l1 l2 l3 st' hQ
  subst l1 l2 l3
  exact ⟨T', T'.heap, v, ⟨_, T'.vm, T'.heap.size, X', rfl, N.app hQ.2.1, hQ.2.2, S.trans S' (Nat.le_trans hk A'.2.1), Nat.le_refl _, H.trans A', ss_mono A' hss⟩, hQ.1, fun G q => Go.by (fun t q => st'.trans q) q⟩
theorem x_special (B : Bdy p Z s m meth c own bytes maxL ret nm) (W : Wk p l e R s m args below meth c Z T h k n ss) {y : MethodName} {yb : ByteArray} {yL i : Nat} {rm : Room} {b : Addr} (argsL : List Value) {s0 : List Addr} (C : Con l Z y yb yL none [] rm (.ref b :: argsL).toArray h Q s0) (hs0 : ∀ x ∈ s0, x ∈ ss)
    (hd : decode bytes pc = .ok (.invokespecial i, 3)) (hy1 : y.name = "<init>") (w1 : (Cond.methodLink own i y).before a0 Z = true) (w2 : (Cond.instanceMethod y).before a0 Z = true) (wz : (Cond.initialized y.cls).before a0 Z = true) (wc : (Cond.code y yb yL none).before a0 Z = true) (hy : y.cls ≠ "java/lang/invoke/MethodHandle" ∧ y.cls ≠ "java/lang/invoke/VarHandle")
    (hlen : ∀ sig, parseMethodDescriptor y.desc = some sig → argsL.length = sig.parameters.length) (ls : Array Slot) (st : List Value) (hsz : ls.size = maxL) (V : Nat) (hV : (st.map fun v => v.category).sum = V) (hf : rm.frames + 1 ≤ R.frames) (hl : V + (yL + 11) + rm.locals ≤ R.locals) (hc : k + rm.cells ≤ R.cells) (hs : n + rm.slots ≤ R.slots) :
    ∃ T' h' v, Wk p l e R s m args below meth c Z T' h' (k + rm.cells) (n + rm.slots) ss ∧ Q v h' ∧ (∀ G, Go p.tables e below G T' (mkF m (pc + 3) ls (v.toList ++ st)) → Go p.tables e below G T (mkF m pc ls (argsL.reverse ++ .ref b :: st))) := by
  obtain ⟨locs, vm0, k0, X, eT, N, O, S, hk, H, hss⟩ := W
  have B := B.at S
  obtain ⟨v, _, ⟨T', L', k', n'⟩, -, X', S', hg', ⟨Lc, hQ, l1, l2, l3, A'⟩, st'⟩ := X.specialBackS B.1 (y := y) hy1 B.2.2.1 (mvT B.2.1 w1) (mvT B.2.1 w2) (mvT B.2.1 wc) hy (backC (V := V) C O B.2.2.2.2.2.2.2.2 B.2.1 wc wz hf hl H.1 (fun x q => hss x (hs0 x q))) (g := mkF m pc ls (argsL.reverse ++ .ref b :: st)) rfl (hsz.trans B.2.2.2.2.1.symm) (Steps.refl _) (a := b) (argsL := argsL) (rest := st) hlen rfl (by show 2 * 0 + _ ≤ _; omega) (hb B.2.2.2.1 hd) (fun _ _ => ⟨rfl, eT, hc, hs⟩)
  dsimp only [Pt.U, Pt.locs, Pt.cells, Pt.slots] at X' S' hg' A' l1 l2 l3 st' hQ
  subst l1 l2 l3
  exact ⟨T', T'.heap, v, ⟨_, T'.vm, T'.heap.size, X', rfl, N.app hQ.2.1, hQ.2.2, S.trans S' (Nat.le_trans hk A'.2.1), Nat.le_refl _, H.trans A', ss_mono A' hss⟩, hQ.1, fun G q => Go.by (fun t q => st'.trans q) q⟩
theorem x_virtual (B : Bdy p Z s m meth c own bytes maxL ret nm) (W : Wk p l e R s m args below meth c Z T h k n ss) {y : MethodName} {yb : ByteArray} {yL i : Nat} {yr : Option FieldType} {rm : Room} {b : Addr} {D : String} (argsL : List Value) {s0 : List Addr} (C : Con l Z y yb yL yr [] rm (.ref b :: argsL).toArray h Q s0) (hs0 : ∀ x ∈ s0, x ∈ ss) (E : Exa Z h b D)
    (hd : decode bytes pc = .ok (.invokevirtual i, 3)) (w1 : (Cond.methodLink own i y).before a0 Z = true) (w2 : (Cond.declares y).before a0 Z = true) (w3 : (Cond.selects D y y).before a0 Z = true) (w4 : (Cond.instanceMethod y).before a0 Z = true) (wz : (Cond.initialized y.cls).before a0 Z = true) (wc : (Cond.code y yb yL yr).before a0 Z = true) (hy : y.cls ≠ "java/lang/invoke/MethodHandle" ∧ y.cls ≠ "java/lang/invoke/VarHandle")
    (hlen : ∀ sig, parseMethodDescriptor y.desc = some sig → argsL.length = sig.parameters.length) (ls : Array Slot) (st : List Value) (hsz : ls.size = maxL) (V : Nat) (hV : (st.map fun v => v.category).sum = V) (hf : rm.frames + 1 ≤ R.frames) (hl : V + (yL + 11) + rm.locals ≤ R.locals) (hc : k + rm.cells ≤ R.cells) (hs : n + rm.slots ≤ R.slots) :
    ∃ T' h' v, Wk p l e R s m args below meth c Z T' h' (k + rm.cells) (n + rm.slots) ss ∧ Q v h' ∧ (∀ G, Go p.tables e below G T' (mkF m (pc + 3) ls (v.toList ++ st)) → Go p.tables e below G T (mkF m pc ls (argsL.reverse ++ .ref b :: st))) := by
  obtain ⟨locs, vm0, k0, X, eT, N, O, S, hk, H, hss⟩ := W
  have B := B.at S
  obtain ⟨cq, kq, qa, qb, qc⟩ := isOf B.2.1 eT E
  obtain ⟨v, _, ⟨T', L', k', n'⟩, -, X', S', hg', ⟨Lc, hQ, l1, l2, l3, A'⟩, st'⟩ := X.virtualBackS B.1 (y := y) (z := y) B.2.2.1 (mvT B.2.1 w1) (mvT B.2.1 w2) (notFace_of_selects (args := #[]) (mvT B.2.1 w3)) (mvT B.2.1 w3) (mvT B.2.1 w4) hy (backC (V := V) C O B.2.2.2.2.2.2.2.2 B.2.1 wc wz hf hl H.1 (fun x q => hss x (hs0 x q))) qa qc (g := mkF m pc ls (argsL.reverse ++ .ref b :: st)) rfl (hsz.trans B.2.2.2.2.1.symm) (Steps.refl _) (argsL := argsL) (rest := st) hlen rfl (by show 2 * 0 + _ ≤ _; omega) (hb B.2.2.2.1 hd) (fun _ _ => ⟨rfl, eT, hc, hs⟩)
  dsimp only [Pt.U, Pt.locs, Pt.cells, Pt.slots] at X' S' hg' A' l1 l2 l3 st' hQ
  subst l1 l2 l3
  exact ⟨T', T'.heap, v, ⟨_, T'.vm, T'.heap.size, X', rfl, N.app hQ.2.1, hQ.2.2, S.trans S' (Nat.le_trans hk A'.2.1), Nat.le_refl _, H.trans A', ss_mono A' hss⟩, hQ.1, fun G q => Go.by (fun t q => st'.trans q) q⟩
theorem x_iface (B : Bdy p Z s m meth c own bytes maxL ret nm) (W : Wk p l e R s m args below meth c Z T h k n ss) {xi y : MethodName} {count : Nat} {D : String} {yb : ByteArray} {yL i : Nat} {yr : Option FieldType} {rm : Room} {b : Addr} (argsL : List Value) {s0 : List Addr} (C : Con l Z y yb yL yr [] rm (.ref b :: argsL).toArray h Q s0) (hs0 : ∀ x ∈ s0, x ∈ ss) (E : Exa Z h b D)
    (hd : decode bytes pc = .ok (.invokeinterface i count, 5)) (w1 : (Cond.methodLink own i xi).before a0 Z = true) (w2 : (Cond.declares xi).before a0 Z = true) (w3 : (Cond.interfaceMethod xi.cls xi.cls xi.name xi.desc).before a0 Z = true) (w4 : (Cond.selects D xi y).before a0 Z = true) (w5 : (Cond.instanceMethod y).before a0 Z = true) (w6 : (Cond.publicMethod y).before a0 Z = true) (w7 : (Cond.unhidden D xi.name xi.desc).before a0 Z = true) (w8 : (Cond.castable D xi.cls).before a0 Z = true) (hk3 : ((Cond.interfaceMethod xi.cls xi.cls xi.name xi.desc).onTables && (Cond.interfaceMethod xi.cls xi.cls xi.name xi.desc).keepsFace) = true) (wz : (Cond.initialized y.cls).before a0 Z = true) (wc : (Cond.code y yb yL yr).before a0 Z = true) (hy : xi.cls ≠ "java/lang/invoke/MethodHandle" ∧ xi.cls ≠ "java/lang/invoke/VarHandle")
    (hlen : ∀ sig, parseMethodDescriptor xi.desc = some sig → argsL.length = sig.parameters.length) (ls : Array Slot) (st : List Value) (hsz : ls.size = maxL) (V : Nat) (hV : (st.map fun v => v.category).sum = V) (hf : rm.frames + 1 ≤ R.frames) (hl : V + (yL + 11) + rm.locals ≤ R.locals) (hc : k + rm.cells ≤ R.cells) (hs : n + rm.slots ≤ R.slots) :
    ∃ T' h' v, Wk p l e R s m args below meth c Z T' h' (k + rm.cells) (n + rm.slots) ss ∧ Q v h' ∧ (∀ G, Go p.tables e below G T' (mkF m (pc + 5) ls (v.toList ++ st)) → Go p.tables e below G T (mkF m pc ls (argsL.reverse ++ .ref b :: st))) := by
  obtain ⟨locs, vm0, k0, X, eT, N, O, S, hk, H, hss⟩ := W
  have B := B.at S
  obtain ⟨cq, kq, qa, qb, qc⟩ := isOf B.2.1 eT E
  obtain ⟨v, _, ⟨T', L', k', n'⟩, -, X', S', hg', ⟨Lc, hQ, l1, l2, l3, A'⟩, st'⟩ := X.interfaceBackS B.1 (xi := xi) (y := y) B.2.2.1 (mvT B.2.1 w1) (mvT B.2.1 w2) (mvT B.2.1 w3 hk3) (mvT B.2.1 w4) (mvT B.2.1 w5) (mvT B.2.1 w6) (mvT B.2.1 w7) (mvT B.2.1 w8) hy (backC (V := V) C O B.2.2.2.2.2.2.2.2 B.2.1 wc wz hf hl H.1 (fun x q => hss x (hs0 x q))) qa qb qc (g := mkF m pc ls (argsL.reverse ++ .ref b :: st)) rfl (hsz.trans B.2.2.2.2.1.symm) (Steps.refl _) (argsL := argsL) (rest := st) hlen rfl (by show 2 * 0 + _ ≤ _; omega) (hb B.2.2.2.1 hd) (fun _ _ => ⟨rfl, eT, hc, hs⟩)
  dsimp only [Pt.U, Pt.locs, Pt.cells, Pt.slots] at X' S' hg' A' l1 l2 l3 st' hQ
  subst l1 l2 l3
  exact ⟨T', T'.heap, v, ⟨_, T'.vm, T'.heap.size, X', rfl, N.app hQ.2.1, hQ.2.2, S.trans S' (Nat.le_trans hk A'.2.1), Nat.le_refl _, H.trans A', ss_mono A' hss⟩, hQ.1, fun G q => Go.by (fun t q => st'.trans q) q⟩
theorem x_private (B : Bdy p Z s m meth c own bytes maxL ret nm) (W : Wk p l e R s m args below meth c Z T h k n ss) {y : MethodName} {D : String} {yb : ByteArray} {yL i : Nat} {yr : Option FieldType} {rm : Room} {b : Addr} (argsL : List Value) {s0 : List Addr} (C : Con l Z y yb yL yr [] rm (.ref b :: argsL).toArray h Q s0) (hs0 : ∀ x ∈ s0, x ∈ ss) (E : Exa Z h b D)
    (hd : decode bytes pc = .ok (.invokevirtual i, 3)) (w1 : (Cond.methodLink own i y).before a0 Z = true) (w2 : (Cond.instanceMethod y).before a0 Z = true) (w3 : (Cond.selects y.cls y y).before a0 Z = true) (w4 : (Cond.privateMethod y).before a0 Z = true) (wz : (Cond.initialized y.cls).before a0 Z = true) (wc : (Cond.code y yb yL yr).before a0 Z = true) (hy : y.cls ≠ "java/lang/invoke/MethodHandle" ∧ y.cls ≠ "java/lang/invoke/VarHandle")
    (hlen : ∀ sig, parseMethodDescriptor y.desc = some sig → argsL.length = sig.parameters.length) (ls : Array Slot) (st : List Value) (hsz : ls.size = maxL) (V : Nat) (hV : (st.map fun v => v.category).sum = V) (hf : rm.frames + 1 ≤ R.frames) (hl : V + (yL + 11) + rm.locals ≤ R.locals) (hc : k + rm.cells ≤ R.cells) (hs : n + rm.slots ≤ R.slots) :
    ∃ T' h' v, Wk p l e R s m args below meth c Z T' h' (k + rm.cells) (n + rm.slots) ss ∧ Q v h' ∧ (∀ G, Go p.tables e below G T' (mkF m (pc + 3) ls (v.toList ++ st)) → Go p.tables e below G T (mkF m pc ls (argsL.reverse ++ .ref b :: st))) := by
  obtain ⟨locs, vm0, k0, X, eT, N, O, S, hk, H, hss⟩ := W
  have B := B.at S
  obtain ⟨cell, qa, qb⟩ := Exa.cell E
  obtain ⟨v, _, ⟨T', L', k', n'⟩, -, X', S', hg', ⟨Lc, hQ, l1, l2, l3, A'⟩, st'⟩ := X.privateBackS B.1 (y := y) B.2.2.1 (mvT B.2.1 w1) (mvT B.2.1 w2) (mvT B.2.1 w3) (Cond.privateMethod_at (mvP B.2.1 w4 (args := #[]))) (mvT B.2.1 wc) hy (backC (V := V) C O B.2.2.2.2.2.2.2.2 B.2.1 wc wz hf hl H.1 (fun x q => hss x (hs0 x q))) (g := mkF m pc ls (argsL.reverse ++ .ref b :: st)) rfl (hsz.trans B.2.2.2.2.1.symm) (Steps.refl _) (a := b) (by rw [eT]; exact qa) qb (argsL := argsL) (rest := st) hlen rfl (by show 2 * 0 + _ ≤ _; omega) (hb B.2.2.2.1 hd) (fun _ _ => ⟨rfl, eT, hc, hs⟩)
  dsimp only [Pt.U, Pt.locs, Pt.cells, Pt.slots] at X' S' hg' A' l1 l2 l3 st' hQ
  subst l1 l2 l3
  exact ⟨T', T'.heap, v, ⟨_, T'.vm, T'.heap.size, X', rfl, N.app hQ.2.1, hQ.2.2, S.trans S' (Nat.le_trans hk A'.2.1), Nat.le_refl _, H.trans A', ss_mono A' hss⟩, hQ.1, fun G q => Go.by (fun t q => st'.trans q) q⟩
theorem x_specialB (B : Bdy p Z s m meth c own bytes maxL ret nm) (W : Wk p l e R s m args below meth c Z T h k n ss) {y : MethodName} {yb : ByteArray} {yL i V rc rs : Nat} {b : Addr} {QL : Option Value → Heap → List Loc → Prop} (argsL : List Value) (hK : ∀ s' : State, Z.Warmed39 s'.vm → Back l R p e below s' args y 3 V (fun A a => a = (.ref b :: argsL).toArray ∧ A.U.heap = h ∧ A.cells + rc ≤ R.cells ∧ A.slots + rs ≤ R.slots) (fun A _ v B => ∃ L, QL v B.U.heap L ∧ B.locs = A.locs ++ L ∧ B.cells = A.cells + rc ∧ B.slots = A.slots + rs))
    (hd : decode bytes pc = .ok (.invokespecial i, 3)) (hy1 : y.name = "<init>") (w1 : (Cond.methodLink own i y).before a0 Z = true) (w2 : (Cond.instanceMethod y).before a0 Z = true) (wc : (Cond.code y yb yL none).before a0 Z = true) (hy : y.cls ≠ "java/lang/invoke/MethodHandle" ∧ y.cls ≠ "java/lang/invoke/VarHandle")
    (hlen : ∀ sig, parseMethodDescriptor y.desc = some sig → argsL.length = sig.parameters.length) (ls : Array Slot) (st : List Value) (hsz : ls.size = maxL) (hV : (st.map fun v => v.category).sum = V) (hc : k + rc ≤ R.cells) (hs : n + rs ≤ R.slots) (wl : List Addr) (hwl : ∀ x ∈ wl, Z.heap.size ≤ x) (hsf : ∀ x ∈ wl, x ∈ ss) (hq : ∀ v h' L, QL v h' L → Fr Z.heap.size L ∧ Keep h h' wl) : ∃ T' h' v L, Wk p l e R s m args below meth c Z T' h' (k + rc) (n + rs) ss ∧ QL v h' L ∧ (∀ G, Go p.tables e below G T' (mkF m (pc + 3) ls (v.toList ++ st)) → Go p.tables e below G T (mkF m pc ls (argsL.reverse ++ .ref b :: st))) := by
  obtain ⟨locs, vm0, k0, X, eT, N, O, S, hk, H, hss⟩ := W
  have B := B.at S
  obtain ⟨v, _, ⟨T', L', k', n'⟩, -, X', ⟨Lc, hQ, l1, l2, l3⟩, st'⟩ := X.specialBack B.1 (y := y) hy1 B.2.2.1 (mvT B.2.1 w1) (mvT B.2.1 w2) (mvT B.2.1 wc) hy (hK _ B.2.1) (g := mkF m pc ls (argsL.reverse ++ .ref b :: st)) rfl (hsz.trans B.2.2.2.2.1.symm) (Steps.refl _) (a := b) (argsL := argsL) (rest := st) hlen rfl (by show 2 * 0 + _ ≤ _; omega) (hb B.2.2.2.1 hd) (fun _ _ => ⟨rfl, eT, hc, hs⟩)
  dsimp only [Pt.U, Pt.locs, Pt.cells, Pt.slots] at X' l1 l2 l3 st' hQ
  subst l1 l2 l3
  obtain ⟨hF, hKp⟩ := hq _ _ _ hQ
  exact ⟨T', T'.heap, v, Lc, ⟨_, vm0, k0, X', rfl, N.app hF, O.keep hKp hwl, S, Nat.le_trans hk hKp.1, H.trans (CHr.keep hKp (fun x q => (hss x (hsf x q)).2) H.1), ss_mono (CHr.keep hKp (fun x q => (hss x (hsf x q)).2) H.1) hss⟩, hQ, fun G q => Go.by (fun t q => st'.trans q) q⟩
theorem x_virtualB (B : Bdy p Z s m meth c own bytes maxL ret nm) (W : Wk p l e R s m args below meth c Z T h k n ss) {y : MethodName} {D : String} {i V rc rs : Nat} {b : Addr} {QL : Option Value → Heap → List Loc → Prop} (argsL : List Value) (hK : ∀ s' : State, Z.Warmed39 s'.vm → Back l R p e below s' args y 3 V (fun A a => a = (.ref b :: argsL).toArray ∧ A.U.heap = h ∧ A.cells + rc ≤ R.cells ∧ A.slots + rs ≤ R.slots) (fun A _ v B => ∃ L, QL v B.U.heap L ∧ B.locs = A.locs ++ L ∧ B.cells = A.cells + rc ∧ B.slots = A.slots + rs)) (E : Exa Z h b D)
    (hd : decode bytes pc = .ok (.invokevirtual i, 3)) (w1 : (Cond.methodLink own i y).before a0 Z = true) (w2 : (Cond.declares y).before a0 Z = true) (w3 : (Cond.selects D y y).before a0 Z = true) (w4 : (Cond.instanceMethod y).before a0 Z = true) (hy : y.cls ≠ "java/lang/invoke/MethodHandle" ∧ y.cls ≠ "java/lang/invoke/VarHandle")
    (hlen : ∀ sig, parseMethodDescriptor y.desc = some sig → argsL.length = sig.parameters.length) (ls : Array Slot) (st : List Value) (hsz : ls.size = maxL) (hV : (st.map fun v => v.category).sum = V) (hc : k + rc ≤ R.cells) (hs : n + rs ≤ R.slots) (wl : List Addr) (hwl : ∀ x ∈ wl, Z.heap.size ≤ x) (hsf : ∀ x ∈ wl, x ∈ ss) (hq : ∀ v h' L, QL v h' L → Fr Z.heap.size L ∧ Keep h h' wl) : ∃ T' h' v L, Wk p l e R s m args below meth c Z T' h' (k + rc) (n + rs) ss ∧ QL v h' L ∧ (∀ G, Go p.tables e below G T' (mkF m (pc + 3) ls (v.toList ++ st)) → Go p.tables e below G T (mkF m pc ls (argsL.reverse ++ .ref b :: st))) := by
  obtain ⟨locs, vm0, k0, X, eT, N, O, S, hk, H, hss⟩ := W
  have B := B.at S
  obtain ⟨cq, kq, qa, qb, qc⟩ := isOf B.2.1 eT E
  obtain ⟨v, _, ⟨T', L', k', n'⟩, -, X', ⟨Lc, hQ, l1, l2, l3⟩, st'⟩ := X.virtualBack B.1 (y := y) (z := y) B.2.2.1 (mvT B.2.1 w1) (mvT B.2.1 w2) (notFace_of_selects (args := #[]) (mvT B.2.1 w3)) (mvT B.2.1 w3) (mvT B.2.1 w4) hy (hK _ B.2.1) qa qc (g := mkF m pc ls (argsL.reverse ++ .ref b :: st)) rfl (hsz.trans B.2.2.2.2.1.symm) (Steps.refl _) (argsL := argsL) (rest := st) hlen rfl (by show 2 * 0 + _ ≤ _; omega) (hb B.2.2.2.1 hd) (fun _ _ => ⟨rfl, eT, hc, hs⟩)
  dsimp only [Pt.U, Pt.locs, Pt.cells, Pt.slots] at X' l1 l2 l3 st' hQ
  subst l1 l2 l3
  obtain ⟨hF, hKp⟩ := hq _ _ _ hQ
  exact ⟨T', T'.heap, v, Lc, ⟨_, vm0, k0, X', rfl, N.app hF, O.keep hKp hwl, S, Nat.le_trans hk hKp.1, H.trans (CHr.keep hKp (fun x q => (hss x (hsf x q)).2) H.1), ss_mono (CHr.keep hKp (fun x q => (hss x (hsf x q)).2) H.1) hss⟩, hQ, fun G q => Go.by (fun t q => st'.trans q) q⟩
theorem x_ldcS (B : Bdy p Z s m meth c own bytes maxL ret nm) (W : Wk p l e R s m args below meth c Z T h k n ss) {i : Nat} {text : String} (sz : Nat) (hd : decode bytes pc = .ok (.ldc i, 2)) (w : (Cond.stringLink own i text).before a0 Z = true) (wS : ∀ a ∈ Bundle.stringAtoms, a.before a0 Z = true) (hEL : EW Z a0 EL) (hn : 4 * text.toList.length ≤ sz) (hbig : sz ≤ 536870912) (hc : k + 2 ≤ R.cells) (hl : n + (sz + 4) ≤ R.slots) (ls : Array Slot) (st : List Value) :
    ∃ T' h' b, Wk p l e R s m args below meth c Z T' h' (k + 2) (n + (sz + 4)) ss ∧ Keep h h' [] ∧ (∀ G, Go p.tables e below G T' (mkF m (pc + 2) ls (.ref b :: st)) → Go p.tables e below G T (mkF m pc ls st)) := by
  obtain ⟨locs, vm0, k0, X, eT, N, O, S, hk, H, hss⟩ := W
  have B := B.at S
  obtain ⟨b, T', h', k1, X', e', E', S', hk', hZ', hf', A', -, st'⟩ := ldcOH X B.1 B.2.1 B.2.2.1 w wS eT S hk hEL H.1 (g := mkF m pc ls st) rfl (hb B.2.2.2.1 hd) hn hbig hc hl
  exact ⟨T', h', b, ⟨locs, T'.vm, k1, X', e', N, O.ext E', S', hk', H.trans A', ss_mono A' hss⟩, (Keep.refl h []).ext E', fun G q => Go.by st' q⟩
theorem x_ldcT (B : Bdy p Z s m meth c own bytes maxL ret nm) (W : Wk p l e R s m args below meth c Z T h k n ss) {i : Nat} {text : String} (sz : Nat) {vs : List Value} {z : Int32} (hd : decode bytes pc = .ok (.ldc i, 2)) (w : (Cond.stringLink own i text).before a0 Z = true) (wS : ∀ a ∈ Bundle.stringAtoms, a.before a0 Z = true) (hEL : EW Z a0 EL) (hmem : (own, i) ∈ EL) (ht : (∀ c ∈ text.toList, c.toNat < 256) ∧ text.toList.map (fun c => Value.int (Jvm.Lit.byteI c.toNat.toUInt16)) = vs) (hz : ¬ z < 0) (hlz : z.toNatClampNeg = vs.length) (hn : 4 * text.toList.length ≤ sz) (hbig : sz ≤ 536870912) (hc : k + 2 ≤ R.cells) (hl : n + (sz + 4) ≤ R.slots) (ls : Array Slot) (st : List Value) :
    ∃ T' h' b t kc, Wk p l e R s m args below meth c Z T' h' (k + 2) (n + (sz + 4)) ss ∧ Keep h h' [] ∧ Exa Z h' b "java/lang/String" ∧ Fld Z h' b "java/lang/String" "coder" "B" (.int 0) ∧ Fld Z h' b "java/lang/String" "value" "[B" (.ref t) ∧ Arv Z h' t kc .byte z vs (.int 0) ∧ (∀ x ∈ ss, x ≠ b ∧ x ≠ t) ∧ (∀ G, Go p.tables e below G T' (mkF m (pc + 2) ls (.ref b :: st)) → Go p.tables e below G T (mkF m pc ls st)) := by
  obtain ⟨locs, vm0, k0, X, eT, N, O, S, hk, H, hss⟩ := W
  have B := B.at S
  obtain ⟨b, T', h', k1, t, kc, X', e', E', S', hk', hZ', hf', q1, q2, q3, q4, -, -, A', -, q5, st'⟩ := ldcCH X B.1 B.2.1 B.2.2.1 w wS eT S hk hEL hmem H.1 ht hz hlz (g := mkF m pc ls st) rfl (hb B.2.2.2.1 hd) hn hbig hc hl
  have hs2 := ss_mono A' hss
  exact ⟨T', h', b, t, kc, ⟨locs, T'.vm, k1, X', e', N, O.ext E', S', hk', H.trans A', hs2⟩, (Keep.refl h []).ext E', q1, q2, q3, q4, fun x hx => q5 x (hs2 x hx).2, fun G q => Go.by st' q⟩
end K
end Jvm.OwnK
namespace Jvm.Pilot.@@N@@
open Jvm Jvm.ClassFile Sem Op Lib Jvm.Free Jvm.Stand Jvm.LawKit Jvm.RoadKit Jvm.OwnK Bundle Jvm.Pilot.@@N@@.Jvm.D
theorem tw {Z : State} {a0 : Array Value} (hw : ∀ d ∈ tables_1, d.before a0 Z = true) (i : Nat) {d : Jvm.Cond} (h : tables_1[i]? = some d) : d.before a0 Z = true := hw _ (List.mem_of_getElem? h)
theorem d_method_3_0 : decode method_3_code 0 = .ok (.iload_n 0, 1) := by decide +kernel
theorem d_method_3_1 : decode method_3_code 1 = .ok (.ifCond .ne 14, 3) := by decide +kernel
theorem d_method_3_4 : decode method_3_code 4 = .ok (.new 39, 3) := by decide +kernel
theorem d_method_3_7 : decode method_3_code 7 = .ok (.dup, 1) := by decide +kernel
theorem d_method_3_8 : decode method_3_code 8 = .ok (.iconst 0, 1) := by decide +kernel
theorem d_method_3_9 : decode method_3_code 9 = .ok (.newarray .char, 2) := by decide +kernel
theorem d_method_3_11 : decode method_3_code 11 = .ok (.invokespecial 41, 3) := by decide +kernel
theorem d_method_3_14 : decode method_3_code 14 = .ok (.areturn, 1) := by decide +kernel
theorem d_method_3_15 : decode method_3_code 15 = .ok (.iload_n 0, 1) := by decide +kernel
theorem d_method_3_16 : decode method_3_code 16 = .ok (.iconst 1, 1) := by decide +kernel
theorem d_method_3_17 : decode method_3_code 17 = .ok (.if_icmp .ne 18, 3) := by decide +kernel
theorem d_method_3_20 : decode method_3_code 20 = .ok (.new 39, 3) := by decide +kernel
theorem d_method_3_23 : decode method_3_code 23 = .ok (.dup, 1) := by decide +kernel
theorem d_method_3_24 : decode method_3_code 24 = .ok (.iconst 1, 1) := by decide +kernel
theorem d_method_3_25 : decode method_3_code 25 = .ok (.newarray .char, 2) := by decide +kernel
theorem d_method_3_27 : decode method_3_code 27 = .ok (.dup, 1) := by decide +kernel
theorem d_method_3_28 : decode method_3_code 28 = .ok (.iconst 0, 1) := by decide +kernel
theorem d_method_3_29 : decode method_3_code 29 = .ok (.iload_n 1, 1) := by decide +kernel
theorem d_method_3_30 : decode method_3_code 30 = .ok (.castore, 1) := by decide +kernel
theorem d_method_3_31 : decode method_3_code 31 = .ok (.invokespecial 41, 3) := by decide +kernel
theorem d_method_3_34 : decode method_3_code 34 = .ok (.areturn, 1) := by decide +kernel
theorem d_method_3_35 : decode method_3_code 35 = .ok (.iload_n 0, 1) := by decide +kernel
theorem d_method_3_36 : decode method_3_code 36 = .ok (.iconst 2, 1) := by decide +kernel
theorem d_method_3_37 : decode method_3_code 37 = .ok (.if_icmp .ne 22, 3) := by decide +kernel
theorem d_method_3_40 : decode method_3_code 40 = .ok (.new 39, 3) := by decide +kernel
theorem d_method_3_43 : decode method_3_code 43 = .ok (.dup, 1) := by decide +kernel
theorem d_method_3_44 : decode method_3_code 44 = .ok (.iconst 2, 1) := by decide +kernel
theorem d_method_3_45 : decode method_3_code 45 = .ok (.newarray .char, 2) := by decide +kernel
theorem d_method_3_47 : decode method_3_code 47 = .ok (.dup, 1) := by decide +kernel
theorem d_method_3_48 : decode method_3_code 48 = .ok (.iconst 0, 1) := by decide +kernel
theorem d_method_3_49 : decode method_3_code 49 = .ok (.iload_n 1, 1) := by decide +kernel
theorem d_method_3_50 : decode method_3_code 50 = .ok (.castore, 1) := by decide +kernel
theorem d_method_3_51 : decode method_3_code 51 = .ok (.dup, 1) := by decide +kernel
theorem d_method_3_52 : decode method_3_code 52 = .ok (.iconst 1, 1) := by decide +kernel
theorem d_method_3_53 : decode method_3_code 53 = .ok (.iload_n 2, 1) := by decide +kernel
theorem d_method_3_54 : decode method_3_code 54 = .ok (.castore, 1) := by decide +kernel
theorem d_method_3_55 : decode method_3_code 55 = .ok (.invokespecial 41, 3) := by decide +kernel
theorem d_method_3_58 : decode method_3_code 58 = .ok (.areturn, 1) := by decide +kernel
theorem d_method_3_59 : decode method_3_code 59 = .ok (.new 39, 3) := by decide +kernel
theorem d_method_3_62 : decode method_3_code 62 = .ok (.dup, 1) := by decide +kernel
theorem d_method_3_63 : decode method_3_code 63 = .ok (.iconst 3, 1) := by decide +kernel
theorem d_method_3_64 : decode method_3_code 64 = .ok (.newarray .char, 2) := by decide +kernel
theorem d_method_3_66 : decode method_3_code 66 = .ok (.dup, 1) := by decide +kernel
theorem d_method_3_67 : decode method_3_code 67 = .ok (.iconst 0, 1) := by decide +kernel
theorem d_method_3_68 : decode method_3_code 68 = .ok (.iload_n 1, 1) := by decide +kernel
theorem d_method_3_69 : decode method_3_code 69 = .ok (.castore, 1) := by decide +kernel
theorem d_method_3_70 : decode method_3_code 70 = .ok (.dup, 1) := by decide +kernel
theorem d_method_3_71 : decode method_3_code 71 = .ok (.iconst 1, 1) := by decide +kernel
theorem d_method_3_72 : decode method_3_code 72 = .ok (.iload_n 2, 1) := by decide +kernel
theorem d_method_3_73 : decode method_3_code 73 = .ok (.castore, 1) := by decide +kernel
theorem d_method_3_74 : decode method_3_code 74 = .ok (.dup, 1) := by decide +kernel
theorem d_method_3_75 : decode method_3_code 75 = .ok (.iconst 2, 1) := by decide +kernel
theorem d_method_3_76 : decode method_3_code 76 = .ok (.iload_n 3, 1) := by decide +kernel
theorem d_method_3_77 : decode method_3_code 77 = .ok (.castore, 1) := by decide +kernel
theorem d_method_3_78 : decode method_3_code 78 = .ok (.invokespecial 41, 3) := by decide +kernel
theorem d_method_3_81 : decode method_3_code 81 = .ok (.areturn, 1) := by decide +kernel
theorem d_jdk_42_method_3_0 : decode jdk_42_method_3_code 0 = .ok (.aload_n 0, 1) := by decide +kernel
theorem d_jdk_42_method_3_1 : decode jdk_42_method_3_code 1 = .ok (.aload_n 1, 1) := by decide +kernel
theorem d_jdk_42_method_3_2 : decode jdk_42_method_3_code 2 = .ok (.iconst 0, 1) := by decide +kernel
theorem d_jdk_42_method_3_3 : decode jdk_42_method_3_code 3 = .ok (.aload_n 1, 1) := by decide +kernel
theorem d_jdk_42_method_3_4 : decode jdk_42_method_3_code 4 = .ok (.arraylength, 1) := by decide +kernel
theorem d_jdk_42_method_3_5 : decode jdk_42_method_3_code 5 = .ok (.aconst_null, 1) := by decide +kernel
theorem d_jdk_42_method_3_6 : decode jdk_42_method_3_code 6 = .ok (.invokespecial 27, 3) := by decide +kernel
theorem d_jdk_42_method_3_9 : decode jdk_42_method_3_code 9 = .ok (.return_, 1) := by decide +kernel
theorem d_jdk_42_method_149_0 : decode jdk_42_method_149_code 0 = .ok (.aload_n 0, 1) := by decide +kernel
theorem d_jdk_42_method_149_1 : decode jdk_42_method_149_code 1 = .ok (.invokespecial 1, 3) := by decide +kernel
theorem d_jdk_42_method_149_4 : decode jdk_42_method_149_code 4 = .ok (.iload_n 3, 1) := by decide +kernel
theorem d_jdk_42_method_149_5 : decode jdk_42_method_149_code 5 = .ok (.ifCond .ne 22, 3) := by decide +kernel
theorem d_jdk_42_method_149_8 : decode jdk_42_method_149_code 8 = .ok (.aload_n 0, 1) := by decide +kernel
theorem d_jdk_42_method_149_9 : decode jdk_42_method_149_code 9 = .ok (.ldc 7, 2) := by decide +kernel
theorem d_jdk_42_method_149_11 : decode jdk_42_method_149_code 11 = .ok (.getfield 9, 3) := by decide +kernel
theorem d_jdk_42_method_149_14 : decode jdk_42_method_149_code 14 = .ok (.putfield 9, 3) := by decide +kernel
theorem d_jdk_42_method_149_17 : decode jdk_42_method_149_code 17 = .ok (.aload_n 0, 1) := by decide +kernel
theorem d_jdk_42_method_149_18 : decode jdk_42_method_149_code 18 = .ok (.ldc 7, 2) := by decide +kernel
theorem d_jdk_42_method_149_20 : decode jdk_42_method_149_code 20 = .ok (.getfield 15, 3) := by decide +kernel
theorem d_jdk_42_method_149_23 : decode jdk_42_method_149_code 23 = .ok (.putfield 15, 3) := by decide +kernel
theorem d_jdk_42_method_149_26 : decode jdk_42_method_149_code 26 = .ok (.return_, 1) := by decide +kernel
theorem d_jdk_42_method_149_27 : decode jdk_42_method_149_code 27 = .ok (.getstatic 38, 3) := by decide +kernel
theorem d_jdk_42_method_149_30 : decode jdk_42_method_149_code 30 = .ok (.ifCond .eq 28, 3) := by decide +kernel
theorem d_jdk_42_method_149_33 : decode jdk_42_method_149_code 33 = .ok (.aload_n 1, 1) := by decide +kernel
theorem d_jdk_42_method_149_34 : decode jdk_42_method_149_code 34 = .ok (.iload_n 2, 1) := by decide +kernel
theorem d_jdk_42_method_149_35 : decode jdk_42_method_149_code 35 = .ok (.iload_n 3, 1) := by decide +kernel
theorem d_jdk_42_method_149_36 : decode jdk_42_method_149_code 36 = .ok (.invokestatic 177, 3) := by decide +kernel
theorem d_jdk_42_method_149_39 : decode jdk_42_method_149_code 39 = .ok (.astore 5, 2) := by decide +kernel
theorem d_jdk_42_method_149_41 : decode jdk_42_method_149_code 41 = .ok (.aload_n 0, 1) := by decide +kernel
theorem d_jdk_42_method_149_42 : decode jdk_42_method_149_code 42 = .ok (.aload 5, 2) := by decide +kernel
theorem d_jdk_42_method_149_44 : decode jdk_42_method_149_code 44 = .ok (.iload_n 3, 1) := by decide +kernel
theorem d_jdk_42_method_149_45 : decode jdk_42_method_149_code 45 = .ok (.invokestatic 47, 3) := by decide +kernel
theorem d_jdk_42_method_149_48 : decode jdk_42_method_149_code 48 = .ok (.putfield 15, 3) := by decide +kernel
theorem d_jdk_42_method_149_51 : decode jdk_42_method_149_code 51 = .ok (.aload_n 0, 1) := by decide +kernel
theorem d_jdk_42_method_149_52 : decode jdk_42_method_149_code 52 = .ok (.aload 5, 2) := by decide +kernel
theorem d_jdk_42_method_149_54 : decode jdk_42_method_149_code 54 = .ok (.putfield 9, 3) := by decide +kernel
theorem d_jdk_42_method_149_57 : decode jdk_42_method_149_code 57 = .ok (.return_, 1) := by decide +kernel
theorem d_jdk_42_method_149_58 : decode jdk_42_method_149_code 58 = .ok (.aload_n 0, 1) := by decide +kernel
theorem d_jdk_42_method_149_59 : decode jdk_42_method_149_code 59 = .ok (.iconst 1, 1) := by decide +kernel
theorem d_jdk_42_method_149_60 : decode jdk_42_method_149_code 60 = .ok (.putfield 15, 3) := by decide +kernel
theorem d_jdk_42_method_149_63 : decode jdk_42_method_149_code 63 = .ok (.aload_n 0, 1) := by decide +kernel
theorem d_jdk_42_method_149_64 : decode jdk_42_method_149_code 64 = .ok (.aload_n 1, 1) := by decide +kernel
theorem d_jdk_42_method_149_65 : decode jdk_42_method_149_code 65 = .ok (.iload_n 2, 1) := by decide +kernel
theorem d_jdk_42_method_149_66 : decode jdk_42_method_149_code 66 = .ok (.iload_n 3, 1) := by decide +kernel
theorem d_jdk_42_method_149_67 : decode jdk_42_method_149_code 67 = .ok (.invokestatic 180, 3) := by decide +kernel
theorem d_jdk_42_method_149_70 : decode jdk_42_method_149_code 70 = .ok (.putfield 9, 3) := by decide +kernel
theorem d_jdk_42_method_149_73 : decode jdk_42_method_149_code 73 = .ok (.return_, 1) := by decide +kernel
theorem d_jdk_52_method_16_0 : decode jdk_52_method_16_code 0 = .ok (.iload_n 2, 1) := by decide +kernel
theorem d_jdk_52_method_16_1 : decode jdk_52_method_16_code 1 = .ok (.newarray .byte, 2) := by decide +kernel
theorem d_jdk_52_method_16_3 : decode jdk_52_method_16_code 3 = .ok (.astore_n 3, 1) := by decide +kernel
theorem d_jdk_52_method_16_4 : decode jdk_52_method_16_code 4 = .ok (.aload_n 0, 1) := by decide +kernel
theorem d_jdk_52_method_16_5 : decode jdk_52_method_16_code 5 = .ok (.iload_n 1, 1) := by decide +kernel
theorem d_jdk_52_method_16_6 : decode jdk_52_method_16_code 6 = .ok (.aload_n 3, 1) := by decide +kernel
theorem d_jdk_52_method_16_7 : decode jdk_52_method_16_code 7 = .ok (.iconst 0, 1) := by decide +kernel
theorem d_jdk_52_method_16_8 : decode jdk_52_method_16_code 8 = .ok (.iload_n 2, 1) := by decide +kernel
theorem d_jdk_52_method_16_9 : decode jdk_52_method_16_code 9 = .ok (.invokestatic 115, 3) := by decide +kernel
theorem d_jdk_52_method_16_12 : decode jdk_52_method_16_code 12 = .ok (.istore 4, 2) := by decide +kernel
theorem d_jdk_52_method_16_14 : decode jdk_52_method_16_code 14 = .ok (.iload 4, 2) := by decide +kernel
theorem d_jdk_52_method_16_16 : decode jdk_52_method_16_code 16 = .ok (.iload_n 2, 1) := by decide +kernel
theorem d_jdk_52_method_16_17 : decode jdk_52_method_16_code 17 = .ok (.if_icmp .eq 40, 3) := by decide +kernel
theorem d_jdk_52_method_16_20 : decode jdk_52_method_16_code 20 = .ok (.aload_n 0, 1) := by decide +kernel
theorem d_jdk_52_method_16_21 : decode jdk_52_method_16_code 21 = .ok (.iload_n 1, 1) := by decide +kernel
theorem d_jdk_52_method_16_22 : decode jdk_52_method_16_code 22 = .ok (.iload_n 2, 1) := by decide +kernel
theorem d_jdk_52_method_16_23 : decode jdk_52_method_16_code 23 = .ok (.invokestatic 119, 3) := by decide +kernel
theorem d_jdk_52_method_16_26 : decode jdk_52_method_16_code 26 = .ok (.astore 5, 2) := by decide +kernel
theorem d_jdk_52_method_16_28 : decode jdk_52_method_16_code 28 = .ok (.aload 5, 2) := by decide +kernel
theorem d_jdk_52_method_16_30 : decode jdk_52_method_16_code 30 = .ok (.iload 4, 2) := by decide +kernel
theorem d_jdk_52_method_16_32 : decode jdk_52_method_16_code 32 = .ok (.invokestatic 71, 3) := by decide +kernel
theorem d_jdk_52_method_16_35 : decode jdk_52_method_16_code 35 = .ok (.sipush 255, 3) := by decide +kernel
theorem d_jdk_52_method_16_38 : decode jdk_52_method_16_code 38 = .ok (.if_icmp .gt 16, 3) := by decide +kernel
theorem d_jdk_52_method_16_41 : decode jdk_52_method_16_code 41 = .ok (.aload 5, 2) := by decide +kernel
theorem d_jdk_52_method_16_43 : decode jdk_52_method_16_code 43 = .ok (.iconst 0, 1) := by decide +kernel
theorem d_jdk_52_method_16_44 : decode jdk_52_method_16_code 44 = .ok (.aload_n 3, 1) := by decide +kernel
theorem d_jdk_52_method_16_45 : decode jdk_52_method_16_code 45 = .ok (.iconst 0, 1) := by decide +kernel
theorem d_jdk_52_method_16_46 : decode jdk_52_method_16_code 46 = .ok (.iload_n 2, 1) := by decide +kernel
theorem d_jdk_52_method_16_47 : decode jdk_52_method_16_code 47 = .ok (.invokestatic 123, 3) := by decide +kernel
theorem d_jdk_52_method_16_50 : decode jdk_52_method_16_code 50 = .ok (.iload_n 2, 1) := by decide +kernel
theorem d_jdk_52_method_16_51 : decode jdk_52_method_16_code 51 = .ok (.if_icmp .eq 6, 3) := by decide +kernel
theorem d_jdk_52_method_16_54 : decode jdk_52_method_16_code 54 = .ok (.aload 5, 2) := by decide +kernel
theorem d_jdk_52_method_16_56 : decode jdk_52_method_16_code 56 = .ok (.areturn, 1) := by decide +kernel
theorem d_jdk_52_method_16_57 : decode jdk_52_method_16_code 57 = .ok (.aload_n 3, 1) := by decide +kernel
theorem d_jdk_52_method_16_58 : decode jdk_52_method_16_code 58 = .ok (.areturn, 1) := by decide +kernel
theorem d_jdk_52_method_21_0 : decode jdk_52_method_21_code 0 = .ok (.iconst 0, 1) := by decide +kernel
theorem d_jdk_52_method_21_1 : decode jdk_52_method_21_code 1 = .ok (.istore 5, 2) := by decide +kernel
theorem d_jdk_52_method_21_3 : decode jdk_52_method_21_code 3 = .ok (.iload 5, 2) := by decide +kernel
theorem d_jdk_52_method_21_5 : decode jdk_52_method_21_code 5 = .ok (.iload 4, 2) := by decide +kernel
theorem d_jdk_52_method_21_7 : decode jdk_52_method_21_code 7 = .ok (.if_icmp .ge 37, 3) := by decide +kernel
theorem d_jdk_52_method_21_10 : decode jdk_52_method_21_code 10 = .ok (.aload_n 0, 1) := by decide +kernel
theorem d_jdk_52_method_21_11 : decode jdk_52_method_21_code 11 = .ok (.iload_n 1, 1) := by decide +kernel
theorem d_jdk_52_method_21_12 : decode jdk_52_method_21_code 12 = .ok (.caload, 1) := by decide +kernel
theorem d_jdk_52_method_21_13 : decode jdk_52_method_21_code 13 = .ok (.istore 6, 2) := by decide +kernel
theorem d_jdk_52_method_21_15 : decode jdk_52_method_21_code 15 = .ok (.iload 6, 2) := by decide +kernel
theorem d_jdk_52_method_21_17 : decode jdk_52_method_21_code 17 = .ok (.sipush 255, 3) := by decide +kernel
theorem d_jdk_52_method_21_20 : decode jdk_52_method_21_code 20 = .ok (.if_icmp .le 6, 3) := by decide +kernel
theorem d_jdk_52_method_21_23 : decode jdk_52_method_21_code 23 = .ok (.iload 5, 2) := by decide +kernel
theorem d_jdk_52_method_21_25 : decode jdk_52_method_21_code 25 = .ok (.ireturn, 1) := by decide +kernel
theorem d_jdk_52_method_21_26 : decode jdk_52_method_21_code 26 = .ok (.aload_n 2, 1) := by decide +kernel
theorem d_jdk_52_method_21_27 : decode jdk_52_method_21_code 27 = .ok (.iload_n 3, 1) := by decide +kernel
theorem d_jdk_52_method_21_28 : decode jdk_52_method_21_code 28 = .ok (.iload 6, 2) := by decide +kernel
theorem d_jdk_52_method_21_30 : decode jdk_52_method_21_code 30 = .ok (.i2b, 1) := by decide +kernel
theorem d_jdk_52_method_21_31 : decode jdk_52_method_21_code 31 = .ok (.bastore, 1) := by decide +kernel
theorem d_jdk_52_method_21_32 : decode jdk_52_method_21_code 32 = .ok (.iinc 1 1, 3) := by decide +kernel
theorem d_jdk_52_method_21_35 : decode jdk_52_method_21_code 35 = .ok (.iinc 3 1, 3) := by decide +kernel
theorem d_jdk_52_method_21_38 : decode jdk_52_method_21_code 38 = .ok (.iinc 5 1, 3) := by decide +kernel
theorem d_jdk_52_method_21_41 : decode jdk_52_method_21_code 41 = .ok (.goto (-38), 3) := by decide +kernel
theorem d_jdk_52_method_21_44 : decode jdk_52_method_21_code 44 = .ok (.iload 4, 2) := by decide +kernel
theorem d_jdk_52_method_21_46 : decode jdk_52_method_21_code 46 = .ok (.ireturn, 1) := by decide +kernel
theorem d_jdk_52_method_15_0 : decode jdk_52_method_15_code 0 = .ok (.iload_n 1, 1) := by decide +kernel
theorem d_jdk_52_method_15_1 : decode jdk_52_method_15_code 1 = .ok (.aload_n 0, 1) := by decide +kernel
theorem d_jdk_52_method_15_2 : decode jdk_52_method_15_code 2 = .ok (.arraylength, 1) := by decide +kernel
theorem d_jdk_52_method_15_3 : decode jdk_52_method_15_code 3 = .ok (.isub, 1) := by decide +kernel
theorem d_jdk_52_method_15_4 : decode jdk_52_method_15_code 4 = .ok (.bipush 31, 2) := by decide +kernel
theorem d_jdk_52_method_15_6 : decode jdk_52_method_15_code 6 = .ok (.iushr, 1) := by decide +kernel
theorem d_jdk_52_method_15_7 : decode jdk_52_method_15_code 7 = .ok (.i2b, 1) := by decide +kernel
theorem d_jdk_52_method_15_8 : decode jdk_52_method_15_code 8 = .ok (.ireturn, 1) := by decide +kernel
theorem d_prog_5_method_10_0 : decode prog_5_method_10_code 0 = .ok (.aload_n 0, 1) := by decide +kernel
theorem d_prog_5_method_10_1 : decode prog_5_method_10_code 1 = .ok (.getfield 60, 3) := by decide +kernel
theorem d_prog_5_method_10_4 : decode prog_5_method_10_code 4 = .ok (.ifCond .ne 25, 3) := by decide +kernel
theorem d_prog_5_method_10_7 : decode prog_5_method_10_code 7 = .ok (.new 163, 3) := by decide +kernel
theorem d_prog_5_method_10_10 : decode prog_5_method_10_code 10 = .ok (.dup, 1) := by decide +kernel
theorem d_prog_5_method_10_11 : decode prog_5_method_10_code 11 = .ok (.aload_n 1, 1) := by decide +kernel
theorem d_prog_5_method_10_12 : decode prog_5_method_10_code 12 = .ok (.aload_n 0, 1) := by decide +kernel
theorem d_prog_5_method_10_13 : decode prog_5_method_10_code 13 = .ok (.invokestatic 92, 3) := by decide +kernel
theorem d_prog_5_method_10_16 : decode prog_5_method_10_code 16 = .ok (.aload_n 0, 1) := by decide +kernel
theorem d_prog_5_method_10_17 : decode prog_5_method_10_code 17 = .ok (.invokestatic 92, 3) := by decide +kernel
theorem d_prog_5_method_10_25 : decode prog_5_method_10_code 25 = .ok (.invokespecial 177, 3) := by decide +kernel
theorem d_prog_5_method_10_28 : decode prog_5_method_10_code 28 = .ok (.athrow, 1) := by decide +kernel
theorem d_prog_5_method_10_29 : decode prog_5_method_10_code 29 = .ok (.return_, 1) := by decide +kernel
theorem pn_com_example_lake_union_lakeunion_model_AttributeKindRequireKeyPartPinLaw : plainName "com/example/lake_union/lakeunion/model/AttributeKindRequireKeyPartPinLaw" = true := by first | (simp [plainName, overriddenIn]; done) | decide +kernel
theorem pd__ICCC_Ljava_lang_String_ : parseMethodDescriptor "(ICCC)Ljava/lang/String;" = some ⟨[.int, .char, .char, .char], some (.object "java/lang/String")⟩ := by decide +kernel
theorem pd___C_V : parseMethodDescriptor "([C)V" = some ⟨[(.array .char)], none⟩ := by decide +kernel
theorem pn_java_lang_String : plainName "java/lang/String" = true := by first | (simp [plainName, overriddenIn]; done) | decide +kernel
theorem pd___CIILjava_lang_Void__V : parseMethodDescriptor "([CIILjava/lang/Void;)V" = some ⟨[(.array .char), .int, .int, (.object "java/lang/Void")], none⟩ := by decide +kernel
theorem pd___V : parseMethodDescriptor "()V" = some ⟨[], none⟩ := by decide +kernel
theorem pd___CII__B : parseMethodDescriptor "([CII)[B" = some ⟨[(.array .char), .int, .int], some (.array .byte)⟩ := by decide +kernel
theorem pd___BI_B : parseMethodDescriptor "([BI)B" = some ⟨[(.array .byte), .int], some .byte⟩ := by decide +kernel
theorem pn_java_lang_StringUTF16 : plainName "java/lang/StringUTF16" = true := by first | (simp [plainName, overriddenIn]; done) | decide +kernel
theorem pd___CI_BII_I : parseMethodDescriptor "([CI[BII)I" = some ⟨[(.array .char), .int, (.array .byte), .int, .int], some .int⟩ := by decide +kernel
theorem pn_com_example_lake_union_lakeunion_model_AttributeKind : plainName "com/example/lake_union/lakeunion/model/AttributeKind" = true := by first | (simp [plainName, overriddenIn]; done) | decide +kernel
theorem pd__Ljava_lang_String__V : parseMethodDescriptor "(Ljava/lang/String;)V" = some ⟨[(.object "java/lang/String")], none⟩ := by decide +kernel
theorem pd__IIIII_Z : parseMethodDescriptor "(IIIII)Z" = some ⟨[.int, .int, .int, .int, .int], some .boolean⟩ := by decide +kernel
theorem own_sA : ∀ d ∈ Bundle.stringAtoms, d ∈ tables_1 := by decide +kernel
theorem own_wS {Z : State} {a0 : Array Value} (hw : ∀ d ∈ tables_1, d.before a0 Z = true) : ∀ a ∈ Bundle.stringAtoms, a.before a0 Z = true := fun d hd => hw d (own_sA d hd)
theorem own_EL {Z : State} {a0 : Array Value} (hw : ∀ d ∈ tables_1, d.before a0 Z = true) : EW Z a0 Jvm.OwnK.EL := (EW.cons (tw hw 47 rfl) (by decide) EW.nil)
theorem own_words : ∀ d ∈ StrChars.Road.words, d ∈ tables_1 := by decide +kernel
def StrIs (Z : State) (h : Heap) (b : Addr) (cs : List Int32) : Prop := ∃ (t : Addr) (kb : ClassId), Exa Z h b "java/lang/String" ∧ Fld Z h b "java/lang/String" "coder" "B" (.int 0) ∧ Fld Z h b "java/lang/String" "value" "[B" (.ref t) ∧ Arv Z h t kb .byte (Int32.ofNat cs.length) ((cs.map fun c => c.toInt8.toInt32).map Value.int) (.int 0) ∧ (∀ c ∈ cs, ¬ c < 0 ∧ ¬ 255 < c) ∧ cs.length ≤ 4000
theorem StrIs.keep {Z : State} {h h' : Heap} {b : Addr} {cs : List Int32} (F : StrIs Z h b cs) (K : Keep h h' []) : StrIs Z h' b cs := by
  obtain ⟨t, kb, q1, q2, q3, q4, r⟩ := F
  exact ⟨t, kb, q1.keep K, q2.keep K nin0, q3.keep K nin0, q4.keep K nin0, r⟩
theorem StrIs.ext {Z : State} {h h' : Heap} {b : Addr} {cs : List Int32} (F : StrIs Z h b cs) (K : Ext h h') : StrIs Z h' b cs := F.keep ((Keep.refl h []).ext K)
theorem StrIs.exa {Z : State} {h : Heap} {b : Addr} {cs : List Int32} (F : StrIs Z h b cs) : Exa Z h b "java/lang/String" := by obtain ⟨t, kb, q, -⟩ := F; exact q
theorem own_up {cs : List Int32} (h : ∀ c ∈ cs, ¬ c < 0 ∧ ¬ (255 : Int32) < c) : ∀ c ∈ cs, ¬ c < 0 ∧ ¬ (65535 : Int32) < c := fun c hc => by
  have q := h c hc
  simp only [Int32.lt_iff_toInt_lt, Int32.reduceToInt] at *; omega
theorem own_eqv {v : Option Value} {P : Prop} [Decidable P] (h : (v = some (.int 1) ∧ P) ∨ (v = some (.int 0) ∧ ¬ P)) : v = some (.int (bi (decide P))) := by
  rcases h with ⟨h, q⟩ | ⟨h, q⟩
  · rw [h, decide_eq_true q]; rfl
  · rw [h, decide_eq_false q]; rfl
theorem own_eqr {args : Array Value} {Z : State} {X F : Term} {idx : List Nat} {y : Addr} (hF : F.eval args Z none idx Z = some (.ref y)) (h : (Jvm.Cond.eq X F).value args Z none Z idx = some true) : X.eval args Z none idx Z = some (.ref y) := by
  cases hX : X.eval args Z none idx Z with
  | none => simp [Cond.value, hX] at h
  | some x => cases x <;> simp [Cond.value, hX, hF] at h ⊢ <;> exact h
theorem ef_sI4 (m : MethodId) (a1 : Addr) (ar : Addr) : entryFrame m #[(.ref a1), (.ref ar), (.int 0), (.int 0), .null] 6 = mkF m 0 #[.val (.ref a1), .val (.ref ar), .val (.int 0), .val (.int 0), .val .null, .unset] [] := by first | (simp [entryFrame, mkF, argsToLocals, Value.category]; done) | rfl
def Q_sI4 (Z : State) (a1 : Addr) (ar : Addr) (h0 : Heap) (v : Option Value) (h : Heap) : Prop := v = none ∧ Keep h0 h [a1] ∧ StrIs Z h a1 []
set_option maxRecDepth 65536 in
set_option maxHeartbeats 40000000 in
theorem c_sI4 (l : Launch) (Z : State) (a0 : Array Value) (hw : ∀ d ∈ tables_1, d.before a0 Z = true) (a1 : Addr) (ar : Addr) (h0 : Heap) (E1 : Exa Z h0 a1 "java/lang/String") (F1 : Fld Z h0 a1 "java/lang/String" "value" "[B" .null) (F2 : Fld Z h0 a1 "java/lang/String" "coder" "B" (.int 0)) (g1 : Z.heap.size ≤ a1) :
    Con l Z (⟨"java/lang/String", "<init>", "([CIILjava/lang/Void;)V"⟩ : MethodName) jdk_42_method_149_code 6 (Option.none : Option FieldType) [] ({ frames := 1, cells := 4, slots := 8, locals := 12 } : Room) #[(.ref a1), (.ref ar), (.int 0), (.int 0), .null] h0 (Q_sI4 Z a1 ar h0) [a1] := by
  refine Con.of (plainFor_of_name pn_java_lang_String) ?_
  intro p e s m below meth c T0 B W0
  refine Go.cast (ef_sI4 m a1 ar) ?_
  have l_a1 := nlt E1.lt
  refine g_aload_n B W0 (d_jdk_42_method_149_0) rfl rfl ?_
  obtain ⟨T101, W101, st101⟩ := x_init B W0 (d_jdk_42_method_149_1) (tw hw 19 rfl) (tw hw 20 rfl) (tw hw 21 rfl) a1 #[.val (.ref a1), .val (.ref ar), .val (.int 0), .val (.int 0), .val .null, .unset] [] rfl 0 rfl (by decide) (by decide)
  refine st101 _ ?_
  refine g_iload_n B W101 (d_jdk_42_method_149_4) rfl ?_
  refine g_if_n B W101 (d_jdk_42_method_149_5) (XT.i0_ne_f rfl) ?_
  show Go p.tables e below _ T101 (mkF m 8 #[.val (.ref a1), .val (.ref ar), .val (.int 0), .val (.int 0), .val .null, .unset] [])
  refine g_aload_n B W101 (d_jdk_42_method_149_8) rfl rfl ?_
  obtain ⟨T102, h102, b102, t102, kc102, W102, K102, E102, Fc102, Fv102, A102, ne102, st102⟩ := x_ldcT B W101 0 (vs := []) (z := 0) (d_jdk_42_method_149_9) (tw hw 47 rfl) (own_wS hw) (own_EL hw) (by decide) ⟨by decide, by decide⟩ (by decide) (by decide) (by decide) (by decide) (by decide) (by decide) #[.val (.ref a1), .val (.ref ar), .val (.int 0), .val (.int 0), .val .null, .unset] [(.ref a1)]
  have nb102_0 : ¬ @Eq Nat a1 b102 := (ne102 a1 (by simp)).1
  have nt102_0 : ¬ @Eq Nat a1 t102 := (ne102 a1 (by simp)).2
  refine st102 _ ?_
  have s103 := K102.1
  obtain ⟨T104, W104, st104⟩ := x_get B W102 (host := "") (d_jdk_42_method_149_11) (Or.inl (tw hw 36 rfl)) Via.refl Fv102 #[.val (.ref a1), .val (.ref ar), .val (.int 0), .val (.int 0), .val .null, .unset] [(.ref a1)]
  refine st104 _ ?_
  have f105 := (F1.keep K102 nin0)
  have f106 := (E1.keep K102)
  obtain ⟨T107, h107, W107, K107, R107, F107, E107, st107⟩ := x_put B W104 (d_jdk_42_method_149_14) ((tw hw 36 rfl)) Via.refl f105 f106 (Or.inr ⟨ (tw hw 37 rfl), rfl, rfl⟩) (tw hw 9 rfl) (ty := (.array .byte)) (v := (.ref t102)) (v' := (.ref t102)) (by decide) rfl rfl (by omega) (Or.inr (by simp)) #[.val (.ref a1), .val (.ref ar), .val (.int 0), .val (.int 0), .val .null, .unset] []
  refine st107 _ ?_
  have f108 := (F2.keep K102 nin0)
  have f109 := f108.other R107 (Or.inr (slot_ne (Or.inr (tw hw 35 rfl)) (Or.inr (tw hw 37 rfl)) (by decide) (t := .byte) (t' := (.array .byte)) (by decide) (by decide)))
  have s110 := K107.1
  refine g_aload_n B W107 (d_jdk_42_method_149_17) rfl rfl ?_
  obtain ⟨T111, h111, b111, t111, kc111, W111, K111, E111, Fc111, Fv111, A111, ne111, st111⟩ := x_ldcT B W107 0 (vs := []) (z := 0) (d_jdk_42_method_149_18) (tw hw 47 rfl) (own_wS hw) (own_EL hw) (by decide) ⟨by decide, by decide⟩ (by decide) (by decide) (by decide) (by decide) (by decide) (by decide) #[.val (.ref a1), .val (.ref ar), .val (.int 0), .val (.int 0), .val .null, .unset] [(.ref a1)]
  have nb111_0 : ¬ @Eq Nat a1 b111 := (ne111 a1 (by simp)).1
  have nt111_0 : ¬ @Eq Nat a1 t111 := (ne111 a1 (by simp)).2
  refine st111 _ ?_
  have s112 := K111.1
  obtain ⟨T113, W113, st113⟩ := x_get B W111 (host := "") (d_jdk_42_method_149_20) (Or.inl (tw hw 34 rfl)) Via.refl Fc111 #[.val (.ref a1), .val (.ref ar), .val (.int 0), .val (.int 0), .val .null, .unset] [(.ref a1)]
  refine st113 _ ?_
  have f114 := (f109.keep K111 nin0)
  have f115 := (E107.keep K111)
  obtain ⟨T116, h116, W116, K116, R116, F116, E116, st116⟩ := x_put B W113 (d_jdk_42_method_149_23) ((tw hw 34 rfl)) Via.refl f114 f115 (Or.inr ⟨ (tw hw 35 rfl), rfl, rfl⟩) (tw hw 9 rfl) (ty := .byte) (v := (.int 0)) (v' := (.int 0)) (by decide) rfl rfl (by omega) (Or.inr (by simp)) #[.val (.ref a1), .val (.ref ar), .val (.int 0), .val (.int 0), .val .null, .unset] []
  refine st116 _ ?_
  have f117 := (F107.keep K111 nin0)
  have f118 := f117.other R116 (Or.inr (slot_ne (Or.inr (tw hw 37 rfl)) (Or.inr (tw hw 35 rfl)) (by decide) (t := (.array .byte)) (t' := .byte) (by decide) (by decide)))
  have s119 := K116.1
  have f120 := ((A102.keep K107 (ninS (nne (by have q := nlt A102.lt; omega)) nin0)).keep K111 nin0)
  have f121 := (f120.keep K116 (ninS (nne (by have q := nlt f120.lt; omega)) nin0))
  exact r_v B W116 (d_jdk_42_method_149_26) (by decide) (by decide) ⟨rfl, (((((Keep.refl h0 [a1]).trans K102 all0).trans K107 (allS (Or.inl (by simp)) all0)).trans K111 all0).trans K116 (allS (Or.inl (by simp)) all0)), ⟨_, _, E116, F116, f118, f121, by simp, by simp⟩⟩
theorem ef_sI1 (m : MethodId) (a1 : Addr) (ar : Addr) (kA : ClassId) : entryFrame m #[(.ref a1), (.ref ar)] 2 = mkF m 0 #[.val (.ref a1), .val (.ref ar)] [] := by first | (simp [entryFrame, mkF, argsToLocals, Value.category]; done) | rfl
def Q_sI1 (Z : State) (a1 : Addr) (ar : Addr) (kA : ClassId) (h0 : Heap) (v : Option Value) (h : Heap) : Prop := v = none ∧ Keep h0 h [a1] ∧ StrIs Z h a1 []
set_option maxRecDepth 65536 in
set_option maxHeartbeats 40000000 in
theorem c_sI1 (l : Launch) (Z : State) (a0 : Array Value) (hw : ∀ d ∈ tables_1, d.before a0 Z = true) (a1 : Addr) (ar : Addr) (kA : ClassId) (h0 : Heap) (E1 : Exa Z h0 a1 "java/lang/String") (F1 : Fld Z h0 a1 "java/lang/String" "value" "[B" .null) (F2 : Fld Z h0 a1 "java/lang/String" "coder" "B" (.int 0)) (g1 : Z.heap.size ≤ a1) (A1 : Arv Z h0 ar kA .char 0 [] (.int 0)) :
    Con l Z (⟨"java/lang/String", "<init>", "([C)V"⟩ : MethodName) jdk_42_method_3_code 2 (Option.none : Option FieldType) [] ({ frames := 2, cells := 4, slots := 8, locals := 40 } : Room) #[(.ref a1), (.ref ar)] h0 (Q_sI1 Z a1 ar kA h0) [a1] := by
  refine Con.of (plainFor_of_name pn_java_lang_String) ?_
  intro p e s m below meth c T0 B W0
  refine Go.cast (ef_sI1 m a1 ar kA) ?_
  refine g_aload_n B W0 (d_jdk_42_method_3_0) rfl rfl ?_
  refine g_aload_n B W0 (d_jdk_42_method_3_1) rfl rfl ?_
  refine g_iconst B W0 (d_jdk_42_method_3_2) (v := 0) (by decide) ?_
  refine g_aload_n B W0 (d_jdk_42_method_3_3) rfl rfl ?_
  refine g_aalen B W0 (d_jdk_42_method_3_4) A1 ?_
  refine g_aconst_null B W0 (d_jdk_42_method_3_5)  ?_
  obtain ⟨T101, h101, v101, W101, Q101, st101⟩ := x_special B W0 (b := a1) [(.ref ar), (.int 0), (.int 0), .null] (c_sI4 l Z a0 hw a1 ar h0 E1 F1 F2 g1) (by simp) (d_jdk_42_method_3_6) rfl (tw hw 15 rfl) (tw hw 16 rfl) (tw hw 10 rfl) (tw hw 18 rfl) (by decide) (lenOf pd___CIILjava_lang_Void__V rfl) #[.val (.ref a1), .val (.ref ar)] [] rfl 0 rfl (by decide) (by decide) (by decide) (by decide)
  obtain ⟨rfl, K101, S101⟩ := Q101
  have s102 := K101.1
  refine st101 _ ?_
  exact r_v B W101 (d_jdk_42_method_3_9) (by decide) (by decide) ⟨rfl, K101, S101⟩
theorem ef_subject (m : MethodId) (pn : Int32) (pa : Int32) (pb : Int32) (pc : Int32) (cz : Int32) : entryFrame m #[(.int pn), (.int pa), (.int pb), (.int pc)] 4 = mkF m 0 #[.val (.int pn), .val (.int pa), .val (.int pb), .val (.int pc)] [] := by first | (simp [entryFrame, mkF, argsToLocals, Value.category]; done) | rfl
def Q_subject (Z : State) (pn : Int32) (pa : Int32) (pb : Int32) (pc : Int32) (cz : Int32) (h0 : Heap) (v : Option Value) (h : Heap) : Prop := ∃ b, v = some (.ref b) ∧ Keep h0 h []
set_option maxRecDepth 65536 in
set_option maxHeartbeats 40000000 in
theorem c_subject (l : Launch) (Z : State) (a0 : Array Value) (hw : ∀ d ∈ tables_1, d.before a0 Z = true) (pn : Int32) (pa : Int32) (pb : Int32) (pc : Int32) (cz : Int32) (h0 : Heap) (Scs : Sta Z Z.heap "java/lang/String" "COMPACT_STRINGS" "Z" (.int cz)) (hcz : ¬ cz = 0) (na : nar .char pa = pa) (nb : nar .char pb = pb) (nc : nar .char pc = pc) (ra : ¬ pa < 0 ∧ ¬ 255 < pa) (rb : ¬ pb < 0 ∧ ¬ 255 < pb) (rc : ¬ pc < 0 ∧ ¬ 255 < pc) :
    Con l Z (⟨"com/example/lake_union/lakeunion/model/AttributeKindRequireKeyPartPinLaw", "subject", "(ICCC)Ljava/lang/String;"⟩ : MethodName) method_3_code 4 (Option.some (FieldType.object "java/lang/String")) [] ({ frames := 4, cells := 6, slots := 12, locals := 66 } : Room) #[(.int pn), (.int pa), (.int pb), (.int pc)] h0 (Q_subject Z pn pa pb pc cz h0) [] := by
  refine Con.of (plainFor_of_name pn_com_example_lake_union_lakeunion_model_AttributeKindRequireKeyPartPinLaw) ?_
  intro p e s m below meth c T0 B W0
  refine Go.cast (ef_subject m pn pa pb pc cz) ?_
  refine g_iload_n B W0 (d_method_3_0) rfl ?_
  by_cases hc101 : pn = 0
  · skip
    refine g_if_n B W0 (d_method_3_1) (XT.i0_ne_f hc101) ?_
    show Go p.tables e below _ T0 (mkF m 4 #[.val (.int pn), .val (.int pa), .val (.int pb), .val (.int pc)] [])
    obtain ⟨T102, h102, b102, gb102, W102, K102, E102, D102, st102⟩ := x_new B W0 (d_method_3_4) (tw hw 8 rfl) (tw hw 9 rfl) (tw hw 10 rfl) (by decide) (by decide) #[.val (.int pn), .val (.int pa), .val (.int pb), .val (.int pc)] []
    have l102 := nlt E102.lt
    have z102 := W0.size
    refine st102 _ ?_
    have s103 := K102.1
    have f104 : Fld Z h102 b102 "java/lang/String" "coder" "B" (.int 0) := D102 (Or.inr (tw hw 35 rfl)) (ty := .byte) (by decide)
    have f105 : Fld Z h102 b102 "java/lang/String" "value" "[B" .null := D102 (Or.inr (tw hw 37 rfl)) (ty := (.array .byte)) (by decide)
    refine g_dup B W102 (d_method_3_7) rfl ?_
    refine g_iconst B W102 (d_method_3_8) (v := 0) (by decide) ?_
    obtain ⟨T106, h106, b106, cA106, gb106, W106, K106, A106, st106⟩ := x_newA B W102 (z := 0) 0 (d_method_3_9) (tw hw 11 rfl) (by decide) (by decide) (by decide) (by decide) (by decide) #[.val (.int pn), .val (.int pa), .val (.int pb), .val (.int pc)] [(.ref b102), (.ref b102)]
    have l106 := nlt A106.lt
    have z106 := W102.size
    refine st106 _ ?_
    have s107 := K106.1
    have f108 := (E102.keep K106)
    have f109 := (f105.keep K106 nin0)
    have f110 := (f104.keep K106 nin0)
    obtain ⟨T111, h111, v111, W111, Q111, st111⟩ := x_special B W106 (b := b102) [(.ref b106)] (c_sI1 l Z a0 hw b102 b106 cA106 h106 f108 f109 f110 (by omega) A106) (by simp) (d_method_3_11) rfl (tw hw 12 rfl) (tw hw 13 rfl) (tw hw 10 rfl) (tw hw 14 rfl) (by decide) (lenOf pd___C_V rfl) #[.val (.int pn), .val (.int pa), .val (.int pb), .val (.int pc)] [(.ref b102)] rfl 1 rfl (by decide) (by decide) (by decide) (by decide)
    obtain ⟨rfl, K111, S111⟩ := Q111
    have s112 := K111.1
    refine st111 _ ?_
    have e111 := S111.exa
    exact r_a B W111 rfl rfl rfl (d_method_3_14) (by decide) (by decide) ⟨_, rfl, ((((Keep.refl h0 []).trans K102 all0).trans K106 all0).trans K111 (allS (Or.inr (by omega)) all0))⟩
  · skip
    refine g_if_y B W0 (d_method_3_1) (XT.i0_ne_t hc101) (pc' := 15) (by decide) ?_
    show Go p.tables e below _ T0 (mkF m 15 #[.val (.int pn), .val (.int pa), .val (.int pb), .val (.int pc)] [])
    refine g_iload_n B W0 (d_method_3_15) rfl ?_
    refine g_iconst B W0 (d_method_3_16) (v := 1) (by decide) ?_
    by_cases hc113 : pn = 1
    · skip
      refine g_icmp_n B W0 (d_method_3_17) (XT.ii_ne_f hc113) ?_
      show Go p.tables e below _ T0 (mkF m 20 #[.val (.int pn), .val (.int pa), .val (.int pb), .val (.int pc)] [])
      obtain ⟨T114, h114, b114, gb114, W114, K114, E114, D114, st114⟩ := x_new B W0 (d_method_3_20) (tw hw 8 rfl) (tw hw 9 rfl) (tw hw 10 rfl) (by decide) (by decide) #[.val (.int pn), .val (.int pa), .val (.int pb), .val (.int pc)] []
      have l114 := nlt E114.lt
      have z114 := W0.size
      refine st114 _ ?_
      have s115 := K114.1
      have f116 : Fld Z h114 b114 "java/lang/String" "coder" "B" (.int 0) := D114 (Or.inr (tw hw 35 rfl)) (ty := .byte) (by decide)
      have f117 : Fld Z h114 b114 "java/lang/String" "value" "[B" .null := D114 (Or.inr (tw hw 37 rfl)) (ty := (.array .byte)) (by decide)
      refine g_dup B W114 (d_method_3_23) rfl ?_
      refine g_iconst B W114 (d_method_3_24) (v := 1) (by decide) ?_
      obtain ⟨T118, h118, b118, cA118, gb118, W118, K118, A118, st118⟩ := x_newA B W114 (z := 1) 1 (d_method_3_25) (tw hw 11 rfl) (by decide) (by decide) (by decide) (by decide) (by decide) #[.val (.int pn), .val (.int pa), .val (.int pb), .val (.int pc)] [(.ref b114), (.ref b114)]
      have l118 := nlt A118.lt
      have z118 := W114.size
      refine st118 _ ?_
      have s119 := K118.1
      refine g_dup B W118 (d_method_3_27) rfl ?_
      refine g_iconst B W118 (d_method_3_28) (v := 0) (by decide) ?_
      refine g_iload_n B W118 (d_method_3_29) rfl ?_
      obtain ⟨T120, h120, W120, K120, A120, st120⟩ := x_castore B W118 (j := 0) (x := pa) (d_method_3_30) A118 (by decide) (Nat.lt_of_lt_of_eq (show Int32.toNatClampNeg 0 < 1 by decide) rfl) (by omega) #[.val (.int pn), .val (.int pa), .val (.int pb), .val (.int pc)] [(.ref b118), (.ref b114), (.ref b114)]
      refine st120 _ ?_
      rw [na] at A120
      have A120 : Arv Z h120 b118 cA118 .char 1 [(.int pa)] (.int 0) := A120
      have s121 := K120.1
      have f123 := ((E114.keep K118).keep K120)
      have f124 := (f117.keep K118 nin0)
      have f125 := (f124.keep K120 (ninS (nne (by have q := nlt f124.lt; omega)) nin0))
      have f126 := (f116.keep K118 nin0)
      have f127 := (f126.keep K120 (ninS (nne (by have q := nlt f126.lt; omega)) nin0))
      obtain ⟨T122, h122, v122, L122, W122, Q122, st122⟩ := x_specialB B W120 (b := b114) (rc := 1) (rs := 1) [(.ref b118)] (fun s' hZ' => StrChars.Road.backV (W := 1) hZ' (fun d hd => hw d (own_words d hd)) (kI := 4) (tw hw 9 rfl) (cs := ([pa] : List Int32)) (bs := ([pa] : List Int32).map (fun c => c.toInt8.toInt32)) (n := 1) (n0 := Z.heap.size) (by omega) W120.size f123 f125 f127 A120 (Scs.ext W120.old.2) hcz rfl (by decide) (by decide) (by decide) (by simp only [List.mem_cons, List.not_mem_nil, or_false]; rintro c rfl <;> first | assumption | decide) rfl (by decide) (by decide)) (d_method_3_31) rfl (tw hw 12 rfl) (tw hw 13 rfl) (tw hw 14 rfl) (by decide) (lenOf pd___C_V rfl) #[.val (.int pn), .val (.int pa), .val (.int pb), .val (.int pc)] [(.ref b114)] rfl rfl (by decide) (by decide) [b114] (allS (by omega) all0) (by simp) (fun _ _ _ q => ⟨q.2.1, q.2.2.1⟩)
      obtain ⟨rfl, -, K122, E122, Fc122, t122, kb122, gt122, gu122, -, Fv122, A122⟩ := Q122
      refine st122 _ ?_
      have s128 := K122.1
      have lt122 := nlt A122.lt
      have S129 : StrIs Z h122 b114 [pa] := ⟨t122, kb122, E122, Fc122, Fv122, A122, (by simp only [List.mem_cons, List.not_mem_nil, or_false]; rintro c rfl <;> first | assumption | decide), by simp⟩
      exact r_a B W122 rfl rfl rfl (d_method_3_34) (by decide) (by decide) ⟨_, rfl, (((((Keep.refl h0 []).trans K114 all0).trans K118 all0).trans K120 (allS (Or.inr (by omega)) all0)).trans K122 (allS (Or.inr (by omega)) all0))⟩
    · skip
      refine g_icmp_y B W0 (d_method_3_17) (XT.ii_ne_t hc113) (pc' := 35) (by decide) ?_
      show Go p.tables e below _ T0 (mkF m 35 #[.val (.int pn), .val (.int pa), .val (.int pb), .val (.int pc)] [])
      refine g_iload_n B W0 (d_method_3_35) rfl ?_
      refine g_iconst B W0 (d_method_3_36) (v := 2) (by decide) ?_
      by_cases hc130 : pn = 2
      · skip
        refine g_icmp_n B W0 (d_method_3_37) (XT.ii_ne_f hc130) ?_
        show Go p.tables e below _ T0 (mkF m 40 #[.val (.int pn), .val (.int pa), .val (.int pb), .val (.int pc)] [])
        obtain ⟨T131, h131, b131, gb131, W131, K131, E131, D131, st131⟩ := x_new B W0 (d_method_3_40) (tw hw 8 rfl) (tw hw 9 rfl) (tw hw 10 rfl) (by decide) (by decide) #[.val (.int pn), .val (.int pa), .val (.int pb), .val (.int pc)] []
        have l131 := nlt E131.lt
        have z131 := W0.size
        refine st131 _ ?_
        have s132 := K131.1
        have f133 : Fld Z h131 b131 "java/lang/String" "coder" "B" (.int 0) := D131 (Or.inr (tw hw 35 rfl)) (ty := .byte) (by decide)
        have f134 : Fld Z h131 b131 "java/lang/String" "value" "[B" .null := D131 (Or.inr (tw hw 37 rfl)) (ty := (.array .byte)) (by decide)
        refine g_dup B W131 (d_method_3_43) rfl ?_
        refine g_iconst B W131 (d_method_3_44) (v := 2) (by decide) ?_
        obtain ⟨T135, h135, b135, cA135, gb135, W135, K135, A135, st135⟩ := x_newA B W131 (z := 2) 2 (d_method_3_45) (tw hw 11 rfl) (by decide) (by decide) (by decide) (by decide) (by decide) #[.val (.int pn), .val (.int pa), .val (.int pb), .val (.int pc)] [(.ref b131), (.ref b131)]
        have l135 := nlt A135.lt
        have z135 := W131.size
        refine st135 _ ?_
        have s136 := K135.1
        refine g_dup B W135 (d_method_3_47) rfl ?_
        refine g_iconst B W135 (d_method_3_48) (v := 0) (by decide) ?_
        refine g_iload_n B W135 (d_method_3_49) rfl ?_
        obtain ⟨T137, h137, W137, K137, A137, st137⟩ := x_castore B W135 (j := 0) (x := pa) (d_method_3_50) A135 (by decide) (Nat.lt_of_lt_of_eq (show Int32.toNatClampNeg 0 < 2 by decide) rfl) (by omega) #[.val (.int pn), .val (.int pa), .val (.int pb), .val (.int pc)] [(.ref b135), (.ref b131), (.ref b131)]
        refine st137 _ ?_
        rw [na] at A137
        have A137 : Arv Z h137 b135 cA135 .char 2 [(.int pa), (.int 0)] (.int 0) := A137
        have s138 := K137.1
        refine g_dup B W137 (d_method_3_51) rfl ?_
        refine g_iconst B W137 (d_method_3_52) (v := 1) (by decide) ?_
        refine g_iload_n B W137 (d_method_3_53) rfl ?_
        obtain ⟨T139, h139, W139, K139, A139, st139⟩ := x_castore B W137 (j := 1) (x := pb) (d_method_3_54) A137 (by decide) (Nat.lt_of_lt_of_eq (show Int32.toNatClampNeg 1 < 2 by decide) rfl) (by omega) #[.val (.int pn), .val (.int pa), .val (.int pb), .val (.int pc)] [(.ref b135), (.ref b131), (.ref b131)]
        refine st139 _ ?_
        rw [nb] at A139
        have A139 : Arv Z h139 b135 cA135 .char 2 [(.int pa), (.int pb)] (.int 0) := A139
        have s140 := K139.1
        have f142 := (((E131.keep K135).keep K137).keep K139)
        have f143 := (f134.keep K135 nin0)
        have f144 := (f143.keep K137 (ninS (nne (by have q := nlt f143.lt; omega)) nin0))
        have f145 := (f144.keep K139 (ninS (nne (by have q := nlt f144.lt; omega)) nin0))
        have f146 := (f133.keep K135 nin0)
        have f147 := (f146.keep K137 (ninS (nne (by have q := nlt f146.lt; omega)) nin0))
        have f148 := (f147.keep K139 (ninS (nne (by have q := nlt f147.lt; omega)) nin0))
        obtain ⟨T141, h141, v141, L141, W141, Q141, st141⟩ := x_specialB B W139 (b := b131) (rc := 1) (rs := 2) [(.ref b135)] (fun s' hZ' => StrChars.Road.backV (W := 1) hZ' (fun d hd => hw d (own_words d hd)) (kI := 4) (tw hw 9 rfl) (cs := ([pa, pb] : List Int32)) (bs := ([pa, pb] : List Int32).map (fun c => c.toInt8.toInt32)) (n := 2) (n0 := Z.heap.size) (by omega) W139.size f142 f145 f148 A139 (Scs.ext W139.old.2) hcz rfl (by decide) (by decide) (by decide) (by simp only [List.mem_cons, List.not_mem_nil, or_false]; rintro c (rfl | rfl) <;> first | assumption | decide) rfl (by decide) (by decide)) (d_method_3_55) rfl (tw hw 12 rfl) (tw hw 13 rfl) (tw hw 14 rfl) (by decide) (lenOf pd___C_V rfl) #[.val (.int pn), .val (.int pa), .val (.int pb), .val (.int pc)] [(.ref b131)] rfl rfl (by decide) (by decide) [b131] (allS (by omega) all0) (by simp) (fun _ _ _ q => ⟨q.2.1, q.2.2.1⟩)
        obtain ⟨rfl, -, K141, E141, Fc141, t141, kb141, gt141, gu141, -, Fv141, A141⟩ := Q141
        refine st141 _ ?_
        have s149 := K141.1
        have lt141 := nlt A141.lt
        have S150 : StrIs Z h141 b131 [pa, pb] := ⟨t141, kb141, E141, Fc141, Fv141, A141, (by simp only [List.mem_cons, List.not_mem_nil, or_false]; rintro c (rfl | rfl) <;> first | assumption | decide), by simp⟩
        exact r_a B W141 rfl rfl rfl (d_method_3_58) (by decide) (by decide) ⟨_, rfl, ((((((Keep.refl h0 []).trans K131 all0).trans K135 all0).trans K137 (allS (Or.inr (by omega)) all0)).trans K139 (allS (Or.inr (by omega)) all0)).trans K141 (allS (Or.inr (by omega)) all0))⟩
      · skip
        refine g_icmp_y B W0 (d_method_3_37) (XT.ii_ne_t hc130) (pc' := 59) (by decide) ?_
        show Go p.tables e below _ T0 (mkF m 59 #[.val (.int pn), .val (.int pa), .val (.int pb), .val (.int pc)] [])
        obtain ⟨T151, h151, b151, gb151, W151, K151, E151, D151, st151⟩ := x_new B W0 (d_method_3_59) (tw hw 8 rfl) (tw hw 9 rfl) (tw hw 10 rfl) (by decide) (by decide) #[.val (.int pn), .val (.int pa), .val (.int pb), .val (.int pc)] []
        have l151 := nlt E151.lt
        have z151 := W0.size
        refine st151 _ ?_
        have s152 := K151.1
        have f153 : Fld Z h151 b151 "java/lang/String" "coder" "B" (.int 0) := D151 (Or.inr (tw hw 35 rfl)) (ty := .byte) (by decide)
        have f154 : Fld Z h151 b151 "java/lang/String" "value" "[B" .null := D151 (Or.inr (tw hw 37 rfl)) (ty := (.array .byte)) (by decide)
        refine g_dup B W151 (d_method_3_62) rfl ?_
        refine g_iconst B W151 (d_method_3_63) (v := 3) (by decide) ?_
        obtain ⟨T155, h155, b155, cA155, gb155, W155, K155, A155, st155⟩ := x_newA B W151 (z := 3) 3 (d_method_3_64) (tw hw 11 rfl) (by decide) (by decide) (by decide) (by decide) (by decide) #[.val (.int pn), .val (.int pa), .val (.int pb), .val (.int pc)] [(.ref b151), (.ref b151)]
        have l155 := nlt A155.lt
        have z155 := W151.size
        refine st155 _ ?_
        have s156 := K155.1
        refine g_dup B W155 (d_method_3_66) rfl ?_
        refine g_iconst B W155 (d_method_3_67) (v := 0) (by decide) ?_
        refine g_iload_n B W155 (d_method_3_68) rfl ?_
        obtain ⟨T157, h157, W157, K157, A157, st157⟩ := x_castore B W155 (j := 0) (x := pa) (d_method_3_69) A155 (by decide) (Nat.lt_of_lt_of_eq (show Int32.toNatClampNeg 0 < 3 by decide) rfl) (by omega) #[.val (.int pn), .val (.int pa), .val (.int pb), .val (.int pc)] [(.ref b155), (.ref b151), (.ref b151)]
        refine st157 _ ?_
        rw [na] at A157
        have A157 : Arv Z h157 b155 cA155 .char 3 [(.int pa), (.int 0), (.int 0)] (.int 0) := A157
        have s158 := K157.1
        refine g_dup B W157 (d_method_3_70) rfl ?_
        refine g_iconst B W157 (d_method_3_71) (v := 1) (by decide) ?_
        refine g_iload_n B W157 (d_method_3_72) rfl ?_
        obtain ⟨T159, h159, W159, K159, A159, st159⟩ := x_castore B W157 (j := 1) (x := pb) (d_method_3_73) A157 (by decide) (Nat.lt_of_lt_of_eq (show Int32.toNatClampNeg 1 < 3 by decide) rfl) (by omega) #[.val (.int pn), .val (.int pa), .val (.int pb), .val (.int pc)] [(.ref b155), (.ref b151), (.ref b151)]
        refine st159 _ ?_
        rw [nb] at A159
        have A159 : Arv Z h159 b155 cA155 .char 3 [(.int pa), (.int pb), (.int 0)] (.int 0) := A159
        have s160 := K159.1
        refine g_dup B W159 (d_method_3_74) rfl ?_
        refine g_iconst B W159 (d_method_3_75) (v := 2) (by decide) ?_
        refine g_iload_n B W159 (d_method_3_76) rfl ?_
        obtain ⟨T161, h161, W161, K161, A161, st161⟩ := x_castore B W159 (j := 2) (x := pc) (d_method_3_77) A159 (by decide) (Nat.lt_of_lt_of_eq (show Int32.toNatClampNeg 2 < 3 by decide) rfl) (by omega) #[.val (.int pn), .val (.int pa), .val (.int pb), .val (.int pc)] [(.ref b155), (.ref b151), (.ref b151)]
        refine st161 _ ?_
        rw [nc] at A161
        have A161 : Arv Z h161 b155 cA155 .char 3 [(.int pa), (.int pb), (.int pc)] (.int 0) := A161
        have s162 := K161.1
        have f164 := ((((E151.keep K155).keep K157).keep K159).keep K161)
        have f165 := (f154.keep K155 nin0)
        have f166 := (f165.keep K157 (ninS (nne (by have q := nlt f165.lt; omega)) nin0))
        have f167 := (f166.keep K159 (ninS (nne (by have q := nlt f166.lt; omega)) nin0))
        have f168 := (f167.keep K161 (ninS (nne (by have q := nlt f167.lt; omega)) nin0))
        have f169 := (f153.keep K155 nin0)
        have f170 := (f169.keep K157 (ninS (nne (by have q := nlt f169.lt; omega)) nin0))
        have f171 := (f170.keep K159 (ninS (nne (by have q := nlt f170.lt; omega)) nin0))
        have f172 := (f171.keep K161 (ninS (nne (by have q := nlt f171.lt; omega)) nin0))
        obtain ⟨T163, h163, v163, L163, W163, Q163, st163⟩ := x_specialB B W161 (b := b151) (rc := 1) (rs := 3) [(.ref b155)] (fun s' hZ' => StrChars.Road.backV (W := 1) hZ' (fun d hd => hw d (own_words d hd)) (kI := 4) (tw hw 9 rfl) (cs := ([pa, pb, pc] : List Int32)) (bs := ([pa, pb, pc] : List Int32).map (fun c => c.toInt8.toInt32)) (n := 3) (n0 := Z.heap.size) (by omega) W161.size f164 f168 f172 A161 (Scs.ext W161.old.2) hcz rfl (by decide) (by decide) (by decide) (by simp only [List.mem_cons, List.not_mem_nil, or_false]; rintro c (rfl | rfl | rfl) <;> first | assumption | decide) rfl (by decide) (by decide)) (d_method_3_78) rfl (tw hw 12 rfl) (tw hw 13 rfl) (tw hw 14 rfl) (by decide) (lenOf pd___C_V rfl) #[.val (.int pn), .val (.int pa), .val (.int pb), .val (.int pc)] [(.ref b151)] rfl rfl (by decide) (by decide) [b151] (allS (by omega) all0) (by simp) (fun _ _ _ q => ⟨q.2.1, q.2.2.1⟩)
        obtain ⟨rfl, -, K163, E163, Fc163, t163, kb163, gt163, gu163, -, Fv163, A163⟩ := Q163
        refine st163 _ ?_
        have s173 := K163.1
        have lt163 := nlt A163.lt
        have S174 : StrIs Z h163 b151 [pa, pb, pc] := ⟨t163, kb163, E163, Fc163, Fv163, A163, (by simp only [List.mem_cons, List.not_mem_nil, or_false]; rintro c (rfl | rfl | rfl) <;> first | assumption | decide), by simp⟩
        exact r_a B W163 rfl rfl rfl (d_method_3_81) (by decide) (by decide) ⟨_, rfl, (((((((Keep.refl h0 []).trans K151 all0).trans K155 all0).trans K157 (allS (Or.inr (by omega)) all0)).trans K159 (allS (Or.inr (by omega)) all0)).trans K161 (allS (Or.inr (by omega)) all0)).trans K163 (allS (Or.inr (by omega)) all0))⟩
theorem ef_rkp (m : MethodId) (a1 : Addr) (sb : Addr) : entryFrame m #[(.ref a1), (.ref sb)] 2 = mkF m 0 #[.val (.ref a1), .val (.ref sb)] [] := by first | (simp [entryFrame, mkF, argsToLocals, Value.category]; done) | rfl
def Q_rkp (Z : State) (a1 : Addr) (sb : Addr) (h0 : Heap) (v : Option Value) (h : Heap) : Prop := v = none ∧ h0 = h
set_option maxRecDepth 65536 in
set_option maxHeartbeats 40000000 in
theorem c_rkp (l : Launch) (Z : State) (a0 : Array Value) (hw : ∀ d ∈ tables_1, d.before a0 Z = true) (a1 : Addr) (sb : Addr) (h0 : Heap) (F1 : Fld Z h0 a1 "com/example/lake_union/lakeunion/model/AttributeKind" "keyPart" "Z" (.int 1)) :
    Con l Z (⟨"com/example/lake_union/lakeunion/model/AttributeKind", "requireKeyPart", "(Ljava/lang/String;)V"⟩ : MethodName) prog_5_method_10_code 2 (Option.none : Option FieldType) [] ({ frames := 0, cells := 0, slots := 0, locals := 0 } : Room) #[(.ref a1), (.ref sb)] h0 (Q_rkp Z a1 sb h0) [] := by
  refine Con.of (plainFor_of_name pn_com_example_lake_union_lakeunion_model_AttributeKind) ?_
  intro p e s m below meth c T0 B W0
  refine Go.cast (ef_rkp m a1 sb) ?_
  refine g_aload_n B W0 (d_prog_5_method_10_0) rfl rfl ?_
  obtain ⟨T101, W101, st101⟩ := x_get B W0 (host := "") (d_prog_5_method_10_1) (Or.inl (tw hw 43 rfl)) Via.refl F1 #[.val (.ref a1), .val (.ref sb)] []
  refine st101 _ ?_
  refine g_if_y B W101 (d_prog_5_method_10_4) (XT.i0_ne_t (by decide)) (pc' := 29) (by decide) ?_
  show Go p.tables e below _ T101 (mkF m 29 #[.val (.ref a1), .val (.ref sb)] [])
  exact r_v B W101 (d_prog_5_method_10_29) (by decide) (by decide) ⟨rfl, rfl⟩
theorem ef_law (m : MethodId) (p1 : Int32) (p2 : Int32) (p3 : Int32) (p4 : Int32) (p5 : Int32) (cz : Int32) (e_TEXT : Addr) (e_INSTANT : Addr) (e_DATE : Addr) (e_BOOLEAN : Addr) (e_NUMBER : Addr) (e_BYTES : Addr) : entryFrame m #[(.int p1), (.int p2), (.int p3), (.int p4), (.int p5)] maxLocals = mkF m 0 #[.val (.int p1), .val (.int p2), .val (.int p3), .val (.int p4), .val (.int p5), .unset, .unset, .unset] [] := by first | (simp [entryFrame, mkF, argsToLocals, Value.category, maxLocals]; done) | rfl
def Q_law (Z : State) (p1 : Int32) (p2 : Int32) (p3 : Int32) (p4 : Int32) (p5 : Int32) (cz : Int32) (e_TEXT : Addr) (e_INSTANT : Addr) (e_DATE : Addr) (e_BOOLEAN : Addr) (e_NUMBER : Addr) (e_BYTES : Addr) (h0 : Heap) (v : Option Value) (h : Heap) : Prop := v = some (.int 1)
set_option maxRecDepth 65536 in
set_option maxHeartbeats 40000000 in
theorem c_law (l : Launch) (Z : State) (a0 : Array Value) (hw : ∀ d ∈ tables_1, d.before a0 Z = true) (ws : List Jvm.Cond) (p1 : Int32) (p2 : Int32) (p3 : Int32) (p4 : Int32) (p5 : Int32) (cz : Int32) (e_TEXT : Addr) (e_INSTANT : Addr) (e_DATE : Addr) (e_BOOLEAN : Addr) (e_NUMBER : Addr) (e_BYTES : Addr) (h0 : Heap) (Scs : Sta Z Z.heap "java/lang/String" "COMPACT_STRINGS" "Z" (.int cz)) (hcz : ¬ cz = 0) (S_TEXT : Sta Z Z.heap "com/example/lake_union/lakeunion/model/AttributeKind" "TEXT" "Lcom/example/lake_union/lakeunion/model/AttributeKind;" (.ref e_TEXT)) (E_TEXT : Exa Z Z.heap e_TEXT "com/example/lake_union/lakeunion/model/AttributeKind") (F_TEXT : Fld Z Z.heap e_TEXT "com/example/lake_union/lakeunion/model/AttributeKind" "keyPart" "Z" (.int 1)) (S_INSTANT : Sta Z Z.heap "com/example/lake_union/lakeunion/model/AttributeKind" "INSTANT" "Lcom/example/lake_union/lakeunion/model/AttributeKind;" (.ref e_INSTANT)) (E_INSTANT : Exa Z Z.heap e_INSTANT "com/example/lake_union/lakeunion/model/AttributeKind") (F_INSTANT : Fld Z Z.heap e_INSTANT "com/example/lake_union/lakeunion/model/AttributeKind" "keyPart" "Z" (.int 1)) (S_DATE : Sta Z Z.heap "com/example/lake_union/lakeunion/model/AttributeKind" "DATE" "Lcom/example/lake_union/lakeunion/model/AttributeKind;" (.ref e_DATE)) (E_DATE : Exa Z Z.heap e_DATE "com/example/lake_union/lakeunion/model/AttributeKind") (F_DATE : Fld Z Z.heap e_DATE "com/example/lake_union/lakeunion/model/AttributeKind" "keyPart" "Z" (.int 1)) (S_BOOLEAN : Sta Z Z.heap "com/example/lake_union/lakeunion/model/AttributeKind" "BOOLEAN" "Lcom/example/lake_union/lakeunion/model/AttributeKind;" (.ref e_BOOLEAN)) (E_BOOLEAN : Exa Z Z.heap e_BOOLEAN "com/example/lake_union/lakeunion/model/AttributeKind") (F_BOOLEAN : Fld Z Z.heap e_BOOLEAN "com/example/lake_union/lakeunion/model/AttributeKind" "keyPart" "Z" (.int 1)) (S_NUMBER : Sta Z Z.heap "com/example/lake_union/lakeunion/model/AttributeKind" "NUMBER" "Lcom/example/lake_union/lakeunion/model/AttributeKind;" (.ref e_NUMBER)) (E_NUMBER : Exa Z Z.heap e_NUMBER "com/example/lake_union/lakeunion/model/AttributeKind$1") (F_NUMBER : Fld Z Z.heap e_NUMBER "com/example/lake_union/lakeunion/model/AttributeKind" "keyPart" "Z" (.int 1)) (S_BYTES : Sta Z Z.heap "com/example/lake_union/lakeunion/model/AttributeKind" "BYTES" "Lcom/example/lake_union/lakeunion/model/AttributeKind;" (.ref e_BYTES)) (E_BYTES : Exa Z Z.heap e_BYTES "com/example/lake_union/lakeunion/model/AttributeKind") (F_BYTES : Fld Z Z.heap e_BYTES "com/example/lake_union/lakeunion/model/AttributeKind" "keyPart" "Z" (.int 1)) :
    Con l Z x code maxLocals ret ws room_1 #[(.int p1), (.int p2), (.int p3), (.int p4), (.int p5)] h0 (Q_law Z p1 p2 p3 p4 p5 cz e_TEXT e_INSTANT e_DATE e_BOOLEAN e_NUMBER e_BYTES h0) [] := by
  refine Con.of (plainFor_of_name pn_com_example_lake_union_lakeunion_model_AttributeKindRequireKeyPartPinLaw) ?_
  intro p e s m below meth c T0 B W0
  refine Go.cast (ef_law m p1 p2 p3 p4 p5 cz e_TEXT e_INSTANT e_DATE e_BOOLEAN e_NUMBER e_BYTES) ?_
  refine g_iload_n B W0 at_0 rfl ?_
  refine g_ldcI B W0 at_1 (tw hw 0 rfl) ?_
  refine g_iand B W0 at_3  ?_
  refine g_bipush B W0 at_4 (v := 6) (by decide) ?_
  refine g_irem B W0 at_6 (by decide) ?_
  generalize ey101 : ((p1 &&& 2147483647) % 6) = n101
  show Go p.tables e below _ T0 (mkF m 7 #[.val (.int p1), .val (.int p2), .val (.int p3), .val (.int p4), .val (.int p5), .unset, .unset, .unset] [(.int n101)])
  refine g_istore B W0 at_7  (l' := #[.val (.int p1), .val (.int p2), .val (.int p3), .val (.int p4), .val (.int p5), .val (.int n101), .unset, .unset]) rfl ?_
  obtain ⟨T102, W102, st102⟩ := x_gets B W0 (host := "") at_9 (Or.inl (tw hw 1 rfl)) Via.refl S_TEXT #[.val (.int p1), .val (.int p2), .val (.int p3), .val (.int p4), .val (.int p5), .val (.int n101), .unset, .unset] []
  refine st102 _ ?_
  refine g_astore B W102 at_12 rfl (l' := #[.val (.int p1), .val (.int p2), .val (.int p3), .val (.int p4), .val (.int p5), .val (.int n101), .val (.ref e_TEXT), .unset]) rfl ?_
  refine g_iload B W102 at_14 rfl ?_
  refine g_iconst B W102 at_16 (v := 1) (by decide) ?_
  by_cases hc103 : n101 = 1
  · skip
    refine g_icmp_n B W102 at_17 (XT.ii_ne_f hc103) ?_
    show Go p.tables e below _ T102 (mkF m 20 #[.val (.int p1), .val (.int p2), .val (.int p3), .val (.int p4), .val (.int p5), .val (.int n101), .val (.ref e_TEXT), .unset] [])
    obtain ⟨T104, W104, st104⟩ := x_gets B W102 (host := "") at_20 (Or.inl (tw hw 54 rfl)) Via.refl S_NUMBER #[.val (.int p1), .val (.int p2), .val (.int p3), .val (.int p4), .val (.int p5), .val (.int n101), .val (.ref e_TEXT), .unset] []
    refine st104 _ ?_
    refine g_astore B W104 at_23 rfl (l' := #[.val (.int p1), .val (.int p2), .val (.int p3), .val (.int p4), .val (.int p5), .val (.int n101), .val (.ref e_NUMBER), .unset]) rfl ?_
    refine g_goto B W104 at_25 (pc' := 81) (by decide) ?_
    show Go p.tables e below _ T104 (mkF m 81 #[.val (.int p1), .val (.int p2), .val (.int p3), .val (.int p4), .val (.int p5), .val (.int n101), .val (.ref e_NUMBER), .unset] [])
    refine g_iload_n B W104 at_81 rfl ?_
    refine g_iconst B W104 at_82 (v := 3) (by decide) ?_
    refine g_iand B W104 at_83  ?_
    refine g_iload_n B W104 at_84 rfl ?_
    refine g_sipush B W104 at_85 (v := 255) (by decide) ?_
    refine g_iand B W104 at_88  ?_
    refine g_i2c B W104 at_89  ?_
    obtain ⟨x105, ex105, nx105, rx105⟩ := own_i2cm p3
    rw [ex105]
    refine g_iload_n B W104 at_90 rfl ?_
    refine g_sipush B W104 at_91 (v := 255) (by decide) ?_
    refine g_iand B W104 at_94  ?_
    refine g_i2c B W104 at_95  ?_
    obtain ⟨x106, ex106, nx106, rx106⟩ := own_i2cm p4
    rw [ex106]
    refine g_iload B W104 at_96 rfl ?_
    refine g_sipush B W104 at_98 (v := 255) (by decide) ?_
    refine g_iand B W104 at_101  ?_
    refine g_i2c B W104 at_102  ?_
    obtain ⟨x107, ex107, nx107, rx107⟩ := own_i2cm p5
    rw [ex107]
    obtain ⟨T108, h108, v108, W108, Q108, st108⟩ := x_static B W104 [(.int (p2 &&& 3)), (.int x105), (.int x106), (.int x107)] (c_subject l Z a0 hw (p2 &&& 3) x105 x106 x107 cz h0 Scs hcz nx105 nx106 nx107 rx105 rx106 rx107) (by simp) at_103 (tw hw 4 rfl) (tw hw 5 rfl) (tw hw 6 rfl) (tw hw 7 rfl) (by decide) (lenOf pd__ICCC_Ljava_lang_String_ rfl) #[.val (.int p1), .val (.int p2), .val (.int p3), .val (.int p4), .val (.int p5), .val (.int n101), .val (.ref e_NUMBER), .unset] [] rfl 0 rfl (by decide) (by decide) (by decide) (by decide)
    obtain ⟨b108, rfl, K108⟩ := Q108
    have s109 := K108.1
    refine st108 _ ?_
    refine g_astore B W108 at_106 rfl (l' := #[.val (.int p1), .val (.int p2), .val (.int p3), .val (.int p4), .val (.int p5), .val (.int n101), .val (.ref e_NUMBER), .val (.ref b108)]) rfl ?_
    refine g_aload B W108 at_108 rfl rfl ?_
    refine g_aload B W108 at_110 rfl rfl ?_
    obtain ⟨T110, h110, v110, W110, Q110, st110⟩ := x_virtual B W108 (b := e_NUMBER) [(.ref b108)] (c_rkp l Z a0 hw e_NUMBER b108 h108 (F_NUMBER.ext W108.old.2)) (by simp) (E_NUMBER.ext W108.old.2) at_112 (tw hw 38 rfl) (tw hw 39 rfl) (tw hw 56 rfl) (tw hw 40 rfl) (tw hw 2 rfl) (tw hw 42 rfl) (by decide) (lenOf pd__Ljava_lang_String__V rfl) #[.val (.int p1), .val (.int p2), .val (.int p3), .val (.int p4), .val (.int p5), .val (.int n101), .val (.ref e_NUMBER), .val (.ref b108)] [] rfl 0 rfl (by decide) (by decide) (by decide) (by decide)
    obtain ⟨rfl, rfl⟩ := Q110
    refine st110 _ ?_
    refine g_iconst B W110 at_115 (v := 1) (by decide) ?_
    exact r_n B W110 (t := .boolean) rfl (by simp) at_116 (by decide) (by decide) (by show some (Value.int (nar .boolean 1)) = _; rw [nar_b1])
  · skip
    refine g_icmp_y B W102 at_17 (XT.ii_ne_t hc103) (pc' := 28) (by decide) ?_
    show Go p.tables e below _ T102 (mkF m 28 #[.val (.int p1), .val (.int p2), .val (.int p3), .val (.int p4), .val (.int p5), .val (.int n101), .val (.ref e_TEXT), .unset] [])
    refine g_iload B W102 at_28 rfl ?_
    refine g_iconst B W102 at_30 (v := 2) (by decide) ?_
    by_cases hc111 : n101 = 2
    · skip
      refine g_icmp_n B W102 at_31 (XT.ii_ne_f hc111) ?_
      show Go p.tables e below _ T102 (mkF m 34 #[.val (.int p1), .val (.int p2), .val (.int p3), .val (.int p4), .val (.int p5), .val (.int n101), .val (.ref e_TEXT), .unset] [])
      obtain ⟨T112, W112, st112⟩ := x_gets B W102 (host := "") at_34 (Or.inl (tw hw 50 rfl)) Via.refl S_DATE #[.val (.int p1), .val (.int p2), .val (.int p3), .val (.int p4), .val (.int p5), .val (.int n101), .val (.ref e_TEXT), .unset] []
      refine st112 _ ?_
      refine g_astore B W112 at_37 rfl (l' := #[.val (.int p1), .val (.int p2), .val (.int p3), .val (.int p4), .val (.int p5), .val (.int n101), .val (.ref e_DATE), .unset]) rfl ?_
      refine g_goto B W112 at_39 (pc' := 81) (by decide) ?_
      show Go p.tables e below _ T112 (mkF m 81 #[.val (.int p1), .val (.int p2), .val (.int p3), .val (.int p4), .val (.int p5), .val (.int n101), .val (.ref e_DATE), .unset] [])
      refine g_iload_n B W112 at_81 rfl ?_
      refine g_iconst B W112 at_82 (v := 3) (by decide) ?_
      refine g_iand B W112 at_83  ?_
      refine g_iload_n B W112 at_84 rfl ?_
      refine g_sipush B W112 at_85 (v := 255) (by decide) ?_
      refine g_iand B W112 at_88  ?_
      refine g_i2c B W112 at_89  ?_
      obtain ⟨x113, ex113, nx113, rx113⟩ := own_i2cm p3
      rw [ex113]
      refine g_iload_n B W112 at_90 rfl ?_
      refine g_sipush B W112 at_91 (v := 255) (by decide) ?_
      refine g_iand B W112 at_94  ?_
      refine g_i2c B W112 at_95  ?_
      obtain ⟨x114, ex114, nx114, rx114⟩ := own_i2cm p4
      rw [ex114]
      refine g_iload B W112 at_96 rfl ?_
      refine g_sipush B W112 at_98 (v := 255) (by decide) ?_
      refine g_iand B W112 at_101  ?_
      refine g_i2c B W112 at_102  ?_
      obtain ⟨x115, ex115, nx115, rx115⟩ := own_i2cm p5
      rw [ex115]
      obtain ⟨T116, h116, v116, W116, Q116, st116⟩ := x_static B W112 [(.int (p2 &&& 3)), (.int x113), (.int x114), (.int x115)] (c_subject l Z a0 hw (p2 &&& 3) x113 x114 x115 cz h0 Scs hcz nx113 nx114 nx115 rx113 rx114 rx115) (by simp) at_103 (tw hw 4 rfl) (tw hw 5 rfl) (tw hw 6 rfl) (tw hw 7 rfl) (by decide) (lenOf pd__ICCC_Ljava_lang_String_ rfl) #[.val (.int p1), .val (.int p2), .val (.int p3), .val (.int p4), .val (.int p5), .val (.int n101), .val (.ref e_DATE), .unset] [] rfl 0 rfl (by decide) (by decide) (by decide) (by decide)
      obtain ⟨b116, rfl, K116⟩ := Q116
      have s117 := K116.1
      refine st116 _ ?_
      refine g_astore B W116 at_106 rfl (l' := #[.val (.int p1), .val (.int p2), .val (.int p3), .val (.int p4), .val (.int p5), .val (.int n101), .val (.ref e_DATE), .val (.ref b116)]) rfl ?_
      refine g_aload B W116 at_108 rfl rfl ?_
      refine g_aload B W116 at_110 rfl rfl ?_
      obtain ⟨T118, h118, v118, W118, Q118, st118⟩ := x_virtual B W116 (b := e_DATE) [(.ref b116)] (c_rkp l Z a0 hw e_DATE b116 h116 (F_DATE.ext W116.old.2)) (by simp) (E_DATE.ext W116.old.2) at_112 (tw hw 38 rfl) (tw hw 39 rfl) (tw hw 41 rfl) (tw hw 40 rfl) (tw hw 2 rfl) (tw hw 42 rfl) (by decide) (lenOf pd__Ljava_lang_String__V rfl) #[.val (.int p1), .val (.int p2), .val (.int p3), .val (.int p4), .val (.int p5), .val (.int n101), .val (.ref e_DATE), .val (.ref b116)] [] rfl 0 rfl (by decide) (by decide) (by decide) (by decide)
      obtain ⟨rfl, rfl⟩ := Q118
      refine st118 _ ?_
      refine g_iconst B W118 at_115 (v := 1) (by decide) ?_
      exact r_n B W118 (t := .boolean) rfl (by simp) at_116 (by decide) (by decide) (by show some (Value.int (nar .boolean 1)) = _; rw [nar_b1])
    · skip
      refine g_icmp_y B W102 at_31 (XT.ii_ne_t hc111) (pc' := 42) (by decide) ?_
      show Go p.tables e below _ T102 (mkF m 42 #[.val (.int p1), .val (.int p2), .val (.int p3), .val (.int p4), .val (.int p5), .val (.int n101), .val (.ref e_TEXT), .unset] [])
      refine g_iload B W102 at_42 rfl ?_
      refine g_iconst B W102 at_44 (v := 3) (by decide) ?_
      by_cases hc119 : n101 = 3
      · skip
        refine g_icmp_n B W102 at_45 (XT.ii_ne_f hc119) ?_
        show Go p.tables e below _ T102 (mkF m 48 #[.val (.int p1), .val (.int p2), .val (.int p3), .val (.int p4), .val (.int p5), .val (.int n101), .val (.ref e_TEXT), .unset] [])
        obtain ⟨T120, W120, st120⟩ := x_gets B W102 (host := "") at_48 (Or.inl (tw hw 45 rfl)) Via.refl S_INSTANT #[.val (.int p1), .val (.int p2), .val (.int p3), .val (.int p4), .val (.int p5), .val (.int n101), .val (.ref e_TEXT), .unset] []
        refine st120 _ ?_
        refine g_astore B W120 at_51 rfl (l' := #[.val (.int p1), .val (.int p2), .val (.int p3), .val (.int p4), .val (.int p5), .val (.int n101), .val (.ref e_INSTANT), .unset]) rfl ?_
        refine g_goto B W120 at_53 (pc' := 81) (by decide) ?_
        show Go p.tables e below _ T120 (mkF m 81 #[.val (.int p1), .val (.int p2), .val (.int p3), .val (.int p4), .val (.int p5), .val (.int n101), .val (.ref e_INSTANT), .unset] [])
        refine g_iload_n B W120 at_81 rfl ?_
        refine g_iconst B W120 at_82 (v := 3) (by decide) ?_
        refine g_iand B W120 at_83  ?_
        refine g_iload_n B W120 at_84 rfl ?_
        refine g_sipush B W120 at_85 (v := 255) (by decide) ?_
        refine g_iand B W120 at_88  ?_
        refine g_i2c B W120 at_89  ?_
        obtain ⟨x121, ex121, nx121, rx121⟩ := own_i2cm p3
        rw [ex121]
        refine g_iload_n B W120 at_90 rfl ?_
        refine g_sipush B W120 at_91 (v := 255) (by decide) ?_
        refine g_iand B W120 at_94  ?_
        refine g_i2c B W120 at_95  ?_
        obtain ⟨x122, ex122, nx122, rx122⟩ := own_i2cm p4
        rw [ex122]
        refine g_iload B W120 at_96 rfl ?_
        refine g_sipush B W120 at_98 (v := 255) (by decide) ?_
        refine g_iand B W120 at_101  ?_
        refine g_i2c B W120 at_102  ?_
        obtain ⟨x123, ex123, nx123, rx123⟩ := own_i2cm p5
        rw [ex123]
        obtain ⟨T124, h124, v124, W124, Q124, st124⟩ := x_static B W120 [(.int (p2 &&& 3)), (.int x121), (.int x122), (.int x123)] (c_subject l Z a0 hw (p2 &&& 3) x121 x122 x123 cz h0 Scs hcz nx121 nx122 nx123 rx121 rx122 rx123) (by simp) at_103 (tw hw 4 rfl) (tw hw 5 rfl) (tw hw 6 rfl) (tw hw 7 rfl) (by decide) (lenOf pd__ICCC_Ljava_lang_String_ rfl) #[.val (.int p1), .val (.int p2), .val (.int p3), .val (.int p4), .val (.int p5), .val (.int n101), .val (.ref e_INSTANT), .unset] [] rfl 0 rfl (by decide) (by decide) (by decide) (by decide)
        obtain ⟨b124, rfl, K124⟩ := Q124
        have s125 := K124.1
        refine st124 _ ?_
        refine g_astore B W124 at_106 rfl (l' := #[.val (.int p1), .val (.int p2), .val (.int p3), .val (.int p4), .val (.int p5), .val (.int n101), .val (.ref e_INSTANT), .val (.ref b124)]) rfl ?_
        refine g_aload B W124 at_108 rfl rfl ?_
        refine g_aload B W124 at_110 rfl rfl ?_
        obtain ⟨T126, h126, v126, W126, Q126, st126⟩ := x_virtual B W124 (b := e_INSTANT) [(.ref b124)] (c_rkp l Z a0 hw e_INSTANT b124 h124 (F_INSTANT.ext W124.old.2)) (by simp) (E_INSTANT.ext W124.old.2) at_112 (tw hw 38 rfl) (tw hw 39 rfl) (tw hw 41 rfl) (tw hw 40 rfl) (tw hw 2 rfl) (tw hw 42 rfl) (by decide) (lenOf pd__Ljava_lang_String__V rfl) #[.val (.int p1), .val (.int p2), .val (.int p3), .val (.int p4), .val (.int p5), .val (.int n101), .val (.ref e_INSTANT), .val (.ref b124)] [] rfl 0 rfl (by decide) (by decide) (by decide) (by decide)
        obtain ⟨rfl, rfl⟩ := Q126
        refine st126 _ ?_
        refine g_iconst B W126 at_115 (v := 1) (by decide) ?_
        exact r_n B W126 (t := .boolean) rfl (by simp) at_116 (by decide) (by decide) (by show some (Value.int (nar .boolean 1)) = _; rw [nar_b1])
      · skip
        refine g_icmp_y B W102 at_45 (XT.ii_ne_t hc119) (pc' := 56) (by decide) ?_
        show Go p.tables e below _ T102 (mkF m 56 #[.val (.int p1), .val (.int p2), .val (.int p3), .val (.int p4), .val (.int p5), .val (.int n101), .val (.ref e_TEXT), .unset] [])
        refine g_iload B W102 at_56 rfl ?_
        refine g_iconst B W102 at_58 (v := 4) (by decide) ?_
        by_cases hc127 : n101 = 4
        · skip
          refine g_icmp_n B W102 at_59 (XT.ii_ne_f hc127) ?_
          show Go p.tables e below _ T102 (mkF m 62 #[.val (.int p1), .val (.int p2), .val (.int p3), .val (.int p4), .val (.int p5), .val (.int n101), .val (.ref e_TEXT), .unset] [])
          obtain ⟨T128, W128, st128⟩ := x_gets B W102 (host := "") at_62 (Or.inl (tw hw 52 rfl)) Via.refl S_BOOLEAN #[.val (.int p1), .val (.int p2), .val (.int p3), .val (.int p4), .val (.int p5), .val (.int n101), .val (.ref e_TEXT), .unset] []
          refine st128 _ ?_
          refine g_astore B W128 at_65 rfl (l' := #[.val (.int p1), .val (.int p2), .val (.int p3), .val (.int p4), .val (.int p5), .val (.int n101), .val (.ref e_BOOLEAN), .unset]) rfl ?_
          refine g_goto B W128 at_67 (pc' := 81) (by decide) ?_
          show Go p.tables e below _ T128 (mkF m 81 #[.val (.int p1), .val (.int p2), .val (.int p3), .val (.int p4), .val (.int p5), .val (.int n101), .val (.ref e_BOOLEAN), .unset] [])
          refine g_iload_n B W128 at_81 rfl ?_
          refine g_iconst B W128 at_82 (v := 3) (by decide) ?_
          refine g_iand B W128 at_83  ?_
          refine g_iload_n B W128 at_84 rfl ?_
          refine g_sipush B W128 at_85 (v := 255) (by decide) ?_
          refine g_iand B W128 at_88  ?_
          refine g_i2c B W128 at_89  ?_
          obtain ⟨x129, ex129, nx129, rx129⟩ := own_i2cm p3
          rw [ex129]
          refine g_iload_n B W128 at_90 rfl ?_
          refine g_sipush B W128 at_91 (v := 255) (by decide) ?_
          refine g_iand B W128 at_94  ?_
          refine g_i2c B W128 at_95  ?_
          obtain ⟨x130, ex130, nx130, rx130⟩ := own_i2cm p4
          rw [ex130]
          refine g_iload B W128 at_96 rfl ?_
          refine g_sipush B W128 at_98 (v := 255) (by decide) ?_
          refine g_iand B W128 at_101  ?_
          refine g_i2c B W128 at_102  ?_
          obtain ⟨x131, ex131, nx131, rx131⟩ := own_i2cm p5
          rw [ex131]
          obtain ⟨T132, h132, v132, W132, Q132, st132⟩ := x_static B W128 [(.int (p2 &&& 3)), (.int x129), (.int x130), (.int x131)] (c_subject l Z a0 hw (p2 &&& 3) x129 x130 x131 cz h0 Scs hcz nx129 nx130 nx131 rx129 rx130 rx131) (by simp) at_103 (tw hw 4 rfl) (tw hw 5 rfl) (tw hw 6 rfl) (tw hw 7 rfl) (by decide) (lenOf pd__ICCC_Ljava_lang_String_ rfl) #[.val (.int p1), .val (.int p2), .val (.int p3), .val (.int p4), .val (.int p5), .val (.int n101), .val (.ref e_BOOLEAN), .unset] [] rfl 0 rfl (by decide) (by decide) (by decide) (by decide)
          obtain ⟨b132, rfl, K132⟩ := Q132
          have s133 := K132.1
          refine st132 _ ?_
          refine g_astore B W132 at_106 rfl (l' := #[.val (.int p1), .val (.int p2), .val (.int p3), .val (.int p4), .val (.int p5), .val (.int n101), .val (.ref e_BOOLEAN), .val (.ref b132)]) rfl ?_
          refine g_aload B W132 at_108 rfl rfl ?_
          refine g_aload B W132 at_110 rfl rfl ?_
          obtain ⟨T134, h134, v134, W134, Q134, st134⟩ := x_virtual B W132 (b := e_BOOLEAN) [(.ref b132)] (c_rkp l Z a0 hw e_BOOLEAN b132 h132 (F_BOOLEAN.ext W132.old.2)) (by simp) (E_BOOLEAN.ext W132.old.2) at_112 (tw hw 38 rfl) (tw hw 39 rfl) (tw hw 41 rfl) (tw hw 40 rfl) (tw hw 2 rfl) (tw hw 42 rfl) (by decide) (lenOf pd__Ljava_lang_String__V rfl) #[.val (.int p1), .val (.int p2), .val (.int p3), .val (.int p4), .val (.int p5), .val (.int n101), .val (.ref e_BOOLEAN), .val (.ref b132)] [] rfl 0 rfl (by decide) (by decide) (by decide) (by decide)
          obtain ⟨rfl, rfl⟩ := Q134
          refine st134 _ ?_
          refine g_iconst B W134 at_115 (v := 1) (by decide) ?_
          exact r_n B W134 (t := .boolean) rfl (by simp) at_116 (by decide) (by decide) (by show some (Value.int (nar .boolean 1)) = _; rw [nar_b1])
        · skip
          refine g_icmp_y B W102 at_59 (XT.ii_ne_t hc127) (pc' := 70) (by decide) ?_
          show Go p.tables e below _ T102 (mkF m 70 #[.val (.int p1), .val (.int p2), .val (.int p3), .val (.int p4), .val (.int p5), .val (.int n101), .val (.ref e_TEXT), .unset] [])
          refine g_iload B W102 at_70 rfl ?_
          refine g_iconst B W102 at_72 (v := 5) (by decide) ?_
          by_cases hc135 : n101 = 5
          · skip
            refine g_icmp_n B W102 at_73 (XT.ii_ne_f hc135) ?_
            show Go p.tables e below _ T102 (mkF m 76 #[.val (.int p1), .val (.int p2), .val (.int p3), .val (.int p4), .val (.int p5), .val (.int n101), .val (.ref e_TEXT), .unset] [])
            obtain ⟨T136, W136, st136⟩ := x_gets B W102 (host := "") at_76 (Or.inl (tw hw 58 rfl)) Via.refl S_BYTES #[.val (.int p1), .val (.int p2), .val (.int p3), .val (.int p4), .val (.int p5), .val (.int n101), .val (.ref e_TEXT), .unset] []
            refine st136 _ ?_
            refine g_astore B W136 at_79 rfl (l' := #[.val (.int p1), .val (.int p2), .val (.int p3), .val (.int p4), .val (.int p5), .val (.int n101), .val (.ref e_BYTES), .unset]) rfl ?_
            refine g_iload_n B W136 at_81 rfl ?_
            refine g_iconst B W136 at_82 (v := 3) (by decide) ?_
            refine g_iand B W136 at_83  ?_
            refine g_iload_n B W136 at_84 rfl ?_
            refine g_sipush B W136 at_85 (v := 255) (by decide) ?_
            refine g_iand B W136 at_88  ?_
            refine g_i2c B W136 at_89  ?_
            obtain ⟨x137, ex137, nx137, rx137⟩ := own_i2cm p3
            rw [ex137]
            refine g_iload_n B W136 at_90 rfl ?_
            refine g_sipush B W136 at_91 (v := 255) (by decide) ?_
            refine g_iand B W136 at_94  ?_
            refine g_i2c B W136 at_95  ?_
            obtain ⟨x138, ex138, nx138, rx138⟩ := own_i2cm p4
            rw [ex138]
            refine g_iload B W136 at_96 rfl ?_
            refine g_sipush B W136 at_98 (v := 255) (by decide) ?_
            refine g_iand B W136 at_101  ?_
            refine g_i2c B W136 at_102  ?_
            obtain ⟨x139, ex139, nx139, rx139⟩ := own_i2cm p5
            rw [ex139]
            obtain ⟨T140, h140, v140, W140, Q140, st140⟩ := x_static B W136 [(.int (p2 &&& 3)), (.int x137), (.int x138), (.int x139)] (c_subject l Z a0 hw (p2 &&& 3) x137 x138 x139 cz h0 Scs hcz nx137 nx138 nx139 rx137 rx138 rx139) (by simp) at_103 (tw hw 4 rfl) (tw hw 5 rfl) (tw hw 6 rfl) (tw hw 7 rfl) (by decide) (lenOf pd__ICCC_Ljava_lang_String_ rfl) #[.val (.int p1), .val (.int p2), .val (.int p3), .val (.int p4), .val (.int p5), .val (.int n101), .val (.ref e_BYTES), .unset] [] rfl 0 rfl (by decide) (by decide) (by decide) (by decide)
            obtain ⟨b140, rfl, K140⟩ := Q140
            have s141 := K140.1
            refine st140 _ ?_
            refine g_astore B W140 at_106 rfl (l' := #[.val (.int p1), .val (.int p2), .val (.int p3), .val (.int p4), .val (.int p5), .val (.int n101), .val (.ref e_BYTES), .val (.ref b140)]) rfl ?_
            refine g_aload B W140 at_108 rfl rfl ?_
            refine g_aload B W140 at_110 rfl rfl ?_
            obtain ⟨T142, h142, v142, W142, Q142, st142⟩ := x_virtual B W140 (b := e_BYTES) [(.ref b140)] (c_rkp l Z a0 hw e_BYTES b140 h140 (F_BYTES.ext W140.old.2)) (by simp) (E_BYTES.ext W140.old.2) at_112 (tw hw 38 rfl) (tw hw 39 rfl) (tw hw 41 rfl) (tw hw 40 rfl) (tw hw 2 rfl) (tw hw 42 rfl) (by decide) (lenOf pd__Ljava_lang_String__V rfl) #[.val (.int p1), .val (.int p2), .val (.int p3), .val (.int p4), .val (.int p5), .val (.int n101), .val (.ref e_BYTES), .val (.ref b140)] [] rfl 0 rfl (by decide) (by decide) (by decide) (by decide)
            obtain ⟨rfl, rfl⟩ := Q142
            refine st142 _ ?_
            refine g_iconst B W142 at_115 (v := 1) (by decide) ?_
            exact r_n B W142 (t := .boolean) rfl (by simp) at_116 (by decide) (by decide) (by show some (Value.int (nar .boolean 1)) = _; rw [nar_b1])
          · skip
            refine g_icmp_y B W102 at_73 (XT.ii_ne_t hc135) (pc' := 81) (by decide) ?_
            show Go p.tables e below _ T102 (mkF m 81 #[.val (.int p1), .val (.int p2), .val (.int p3), .val (.int p4), .val (.int p5), .val (.int n101), .val (.ref e_TEXT), .unset] [])
            refine g_iload_n B W102 at_81 rfl ?_
            refine g_iconst B W102 at_82 (v := 3) (by decide) ?_
            refine g_iand B W102 at_83  ?_
            refine g_iload_n B W102 at_84 rfl ?_
            refine g_sipush B W102 at_85 (v := 255) (by decide) ?_
            refine g_iand B W102 at_88  ?_
            refine g_i2c B W102 at_89  ?_
            obtain ⟨x143, ex143, nx143, rx143⟩ := own_i2cm p3
            rw [ex143]
            refine g_iload_n B W102 at_90 rfl ?_
            refine g_sipush B W102 at_91 (v := 255) (by decide) ?_
            refine g_iand B W102 at_94  ?_
            refine g_i2c B W102 at_95  ?_
            obtain ⟨x144, ex144, nx144, rx144⟩ := own_i2cm p4
            rw [ex144]
            refine g_iload B W102 at_96 rfl ?_
            refine g_sipush B W102 at_98 (v := 255) (by decide) ?_
            refine g_iand B W102 at_101  ?_
            refine g_i2c B W102 at_102  ?_
            obtain ⟨x145, ex145, nx145, rx145⟩ := own_i2cm p5
            rw [ex145]
            obtain ⟨T146, h146, v146, W146, Q146, st146⟩ := x_static B W102 [(.int (p2 &&& 3)), (.int x143), (.int x144), (.int x145)] (c_subject l Z a0 hw (p2 &&& 3) x143 x144 x145 cz h0 Scs hcz nx143 nx144 nx145 rx143 rx144 rx145) (by simp) at_103 (tw hw 4 rfl) (tw hw 5 rfl) (tw hw 6 rfl) (tw hw 7 rfl) (by decide) (lenOf pd__ICCC_Ljava_lang_String_ rfl) #[.val (.int p1), .val (.int p2), .val (.int p3), .val (.int p4), .val (.int p5), .val (.int n101), .val (.ref e_TEXT), .unset] [] rfl 0 rfl (by decide) (by decide) (by decide) (by decide)
            obtain ⟨b146, rfl, K146⟩ := Q146
            have s147 := K146.1
            refine st146 _ ?_
            refine g_astore B W146 at_106 rfl (l' := #[.val (.int p1), .val (.int p2), .val (.int p3), .val (.int p4), .val (.int p5), .val (.int n101), .val (.ref e_TEXT), .val (.ref b146)]) rfl ?_
            refine g_aload B W146 at_108 rfl rfl ?_
            refine g_aload B W146 at_110 rfl rfl ?_
            obtain ⟨T148, h148, v148, W148, Q148, st148⟩ := x_virtual B W146 (b := e_TEXT) [(.ref b146)] (c_rkp l Z a0 hw e_TEXT b146 h146 (F_TEXT.ext W146.old.2)) (by simp) (E_TEXT.ext W146.old.2) at_112 (tw hw 38 rfl) (tw hw 39 rfl) (tw hw 41 rfl) (tw hw 40 rfl) (tw hw 2 rfl) (tw hw 42 rfl) (by decide) (lenOf pd__Ljava_lang_String__V rfl) #[.val (.int p1), .val (.int p2), .val (.int p3), .val (.int p4), .val (.int p5), .val (.int n101), .val (.ref e_TEXT), .val (.ref b146)] [] rfl 0 rfl (by decide) (by decide) (by decide) (by decide)
            obtain ⟨rfl, rfl⟩ := Q148
            refine st148 _ ?_
            refine g_iconst B W148 at_115 (v := 1) (by decide) ?_
            exact r_n B W148 (t := .boolean) rfl (by simp) at_116 (by decide) (by decide) (by show some (Value.int (nar .boolean 1)) = _; rw [nar_b1])
theorem own_ELc : ∀ p ∈ Jvm.OwnK.EL, p ∈ consts_1 := by decide
set_option maxRecDepth 65536 in
set_option maxHeartbeats 40000000 in
theorem comes_1 {Post : Tables → Env → Array Value → State → Outcome → State → Prop} (hpost : ∀ tb e args s v u, (limb_1_1.after args s (.returned v) u = true ∧ limb_1_2.after args s (.returned v) u = true ∧ True) → ReturnedEndW s (.returned v) u (Jvm.fieldLocs frame_1_writes args s ++ Jvm.arrayLocs frame_1_arrays args s ++ Jvm.staticLocs frame_1_statics s) 16 1152 → Post tb e args s (.returned v) u) :
    ArmFor flags0 classFile x code maxLocals ret World_1 tables_1 room_1 Calls_1 rest_1 Pre_1 Post := by
  intro l hfl _ _ p e ha hc hk s m args below hf hA hF happ hP
  obtain ⟨hcalls, hrest, hpre⟩ := hP
  obtain ⟨-, -, -, hnamed, -, -, -, hat⟩ := (Spec.applies_iff hf).mp happ
  obtain ⟨hg, hn⟩ := and_e (Cond.before_iff.mp (show (Jvm.Cond.and given_1 narrow_1).before args s = true from hpre))
  obtain ⟨hcnt, hgs⟩ := and_e hg
  obtain ⟨ha0, hr0⟩ := and_e hgs
  obtain ⟨ha1, hr1⟩ := and_e hr0
  obtain ⟨ha2, hr2⟩ := and_e hr1
  obtain ⟨ha3, hr3⟩ := and_e hr2
  have ha4 := hr3
  obtain ⟨w0, w1, w2, w3, w4, rfl⟩ : ∃ w0 w1 w2 w3 w4 : Value, args = #[w0, w1, w2, w3, w4] := by
    have hs : args.size = 5 := by simpa [Cond.value, given_1] using hcnt
    obtain ⟨L⟩ := args
    match L, hs with
    | [w0, w1, w2, w3, w4], _ => exact ⟨w0, w1, w2, w3, w4, rfl⟩
  have hw := fun d (hd : d ∈ tables_1) => atoms_spec (ws := Jvm.Cond.code x code maxLocals ret :: tables_1) hat d (List.mem_cons_of_mem _ hd)
  obtain ⟨hsets, hown0⟩ := atoms_of _ (rest_1_c_eq ▸ (show rest_1_c.before _ s = true from hrest))
  have hfit : Fit s := fun {y c} hc i hi => by
    obtain ⟨ha, rfl⟩ := Array.getElem?_eq_some_iff.mp hc
    have q := List.all_eq_true.mp ((Array.all_eq_true_iff_forall_mem.mp hF) _ (Array.getElem_mem ha)) i (List.mem_range.mpr hi)
    simpa [Array.getElem?_eq_getElem hi] using q
  obtain ⟨i0, ei0⟩ := is_v ha0
  obtain rfl : w0 = (.int i0) := Option.some.inj ei0
  obtain ⟨i1, ei1⟩ := is_v ha1
  obtain rfl : w1 = (.int i1) := Option.some.inj ei1
  obtain ⟨i2, ei2⟩ := is_v ha2
  obtain rfl : w2 = (.int i2) := Option.some.inj ei2
  obtain ⟨i3, ei3⟩ := is_v ha3
  obtain rfl : w3 = (.int i3) := Option.some.inj ei3
  obtain ⟨i4, ei4⟩ := is_v ha4
  obtain rfl : w4 = (.int i4) := Option.some.inj ei4
  obtain ⟨cz, ecz⟩ := is_v (Cond.before_iff.mp (hsets _ (List.mem_of_getElem? (i := 1) rfl)))
  have Scs : Sta s s.heap "java/lang/String" "COMPACT_STRINGS" "Z" (.int cz) := Sta.start ecz (Or.inl (hsets _ (List.mem_of_getElem? (i := 0) rfl)))
  have hcz : ¬ (cz = (0 : Int32)) := gotF (Cond.eq_ints ecz (Term.int_eval (0))) (not_v (Cond.before_iff.mp (hsets _ (List.mem_of_getElem? (i := 2) rfl))))
  have hEL : EW s _ Jvm.OwnK.EL := own_EL hw
  have hWd : Wd s := ⟨_, hEL, own_wS hw⟩
  have hCH : CHv s Jvm.OwnK.EL s.vm s.heap := CHv.start hEL (fun p hp => hcalls.1 p (own_ELc p hp)) (hsets _ (List.mem_of_getElem? (i := 2) rfl)) (own_wS hw _ (by simp [Bundle.stringAtoms])) (own_wS hw _ (by simp [Bundle.stringAtoms, Bundle.sN]))
  obtain ⟨c0, hn_0⟩ := and_e hn
  obtain ⟨c1, hn_1⟩ := and_e hn_0
  obtain ⟨c2, hn_2⟩ := and_e hn_1
  obtain ⟨c3, hn_3⟩ := and_e hn_2
  obtain ⟨c4, hn_4⟩ := and_e hn_3
  obtain ⟨c5, hn_5⟩ := and_e hn_4
  obtain ⟨c6, hn_6⟩ := and_e hn_5
  obtain ⟨c7, hn_7⟩ := and_e hn_6
  obtain ⟨c8, hn_8⟩ := and_e hn_7
  obtain ⟨c9, hn_9⟩ := and_e hn_8
  obtain ⟨c10, hn_10⟩ := and_e hn_9
  have c11 := hn_10
  obtain ⟨e_TEXT, v_TEXT⟩ := exa_v c0
  have S_TEXT : Sta s s.heap "com/example/lake_union/lakeunion/model/AttributeKind" "TEXT" "Lcom/example/lake_union/lakeunion/model/AttributeKind;" (.ref e_TEXT) := Sta.start v_TEXT (Or.inr ⟨hw _ (List.mem_of_getElem? (i := 2) rfl), hw _ (List.mem_of_getElem? (i := 3) rfl)⟩)
  have E_TEXT : Exa s s.heap e_TEXT "com/example/lake_union/lakeunion/model/AttributeKind" := Exa.start v_TEXT c0
  have F_TEXT : Fld s s.heap e_TEXT "com/example/lake_union/lakeunion/model/AttributeKind" "keyPart" "Z" (.int 1) := Fld.start ((fld_at v_TEXT).symm.trans (eqv_i (Term.int_eval 1) c1))
  obtain ⟨e_INSTANT, v_INSTANT⟩ := exa_v c2
  have S_INSTANT : Sta s s.heap "com/example/lake_union/lakeunion/model/AttributeKind" "INSTANT" "Lcom/example/lake_union/lakeunion/model/AttributeKind;" (.ref e_INSTANT) := Sta.start v_INSTANT (Or.inr ⟨hw _ (List.mem_of_getElem? (i := 2) rfl), hw _ (List.mem_of_getElem? (i := 46) rfl)⟩)
  have E_INSTANT : Exa s s.heap e_INSTANT "com/example/lake_union/lakeunion/model/AttributeKind" := Exa.start v_INSTANT c2
  have F_INSTANT : Fld s s.heap e_INSTANT "com/example/lake_union/lakeunion/model/AttributeKind" "keyPart" "Z" (.int 1) := Fld.start ((fld_at v_INSTANT).symm.trans (eqv_i (Term.int_eval 1) c3))
  obtain ⟨e_DATE, v_DATE⟩ := exa_v c4
  have S_DATE : Sta s s.heap "com/example/lake_union/lakeunion/model/AttributeKind" "DATE" "Lcom/example/lake_union/lakeunion/model/AttributeKind;" (.ref e_DATE) := Sta.start v_DATE (Or.inr ⟨hw _ (List.mem_of_getElem? (i := 2) rfl), hw _ (List.mem_of_getElem? (i := 51) rfl)⟩)
  have E_DATE : Exa s s.heap e_DATE "com/example/lake_union/lakeunion/model/AttributeKind" := Exa.start v_DATE c4
  have F_DATE : Fld s s.heap e_DATE "com/example/lake_union/lakeunion/model/AttributeKind" "keyPart" "Z" (.int 1) := Fld.start ((fld_at v_DATE).symm.trans (eqv_i (Term.int_eval 1) c5))
  obtain ⟨e_BOOLEAN, v_BOOLEAN⟩ := exa_v c6
  have S_BOOLEAN : Sta s s.heap "com/example/lake_union/lakeunion/model/AttributeKind" "BOOLEAN" "Lcom/example/lake_union/lakeunion/model/AttributeKind;" (.ref e_BOOLEAN) := Sta.start v_BOOLEAN (Or.inr ⟨hw _ (List.mem_of_getElem? (i := 2) rfl), hw _ (List.mem_of_getElem? (i := 53) rfl)⟩)
  have E_BOOLEAN : Exa s s.heap e_BOOLEAN "com/example/lake_union/lakeunion/model/AttributeKind" := Exa.start v_BOOLEAN c6
  have F_BOOLEAN : Fld s s.heap e_BOOLEAN "com/example/lake_union/lakeunion/model/AttributeKind" "keyPart" "Z" (.int 1) := Fld.start ((fld_at v_BOOLEAN).symm.trans (eqv_i (Term.int_eval 1) c7))
  obtain ⟨e_NUMBER, v_NUMBER⟩ := exa_v c8
  have S_NUMBER : Sta s s.heap "com/example/lake_union/lakeunion/model/AttributeKind" "NUMBER" "Lcom/example/lake_union/lakeunion/model/AttributeKind;" (.ref e_NUMBER) := Sta.start v_NUMBER (Or.inr ⟨hw _ (List.mem_of_getElem? (i := 2) rfl), hw _ (List.mem_of_getElem? (i := 55) rfl)⟩)
  have E_NUMBER : Exa s s.heap e_NUMBER "com/example/lake_union/lakeunion/model/AttributeKind$1" := Exa.start v_NUMBER c8
  have F_NUMBER : Fld s s.heap e_NUMBER "com/example/lake_union/lakeunion/model/AttributeKind" "keyPart" "Z" (.int 1) := Fld.start ((fld_at v_NUMBER).symm.trans (eqv_i (Term.int_eval 1) c9))
  obtain ⟨e_BYTES, v_BYTES⟩ := exa_v c10
  have S_BYTES : Sta s s.heap "com/example/lake_union/lakeunion/model/AttributeKind" "BYTES" "Lcom/example/lake_union/lakeunion/model/AttributeKind;" (.ref e_BYTES) := Sta.start v_BYTES (Or.inr ⟨hw _ (List.mem_of_getElem? (i := 2) rfl), hw _ (List.mem_of_getElem? (i := 59) rfl)⟩)
  have E_BYTES : Exa s s.heap e_BYTES "com/example/lake_union/lakeunion/model/AttributeKind" := Exa.start v_BYTES c10
  have F_BYTES : Fld s s.heap e_BYTES "com/example/lake_union/lakeunion/model/AttributeKind" "keyPart" "Z" (.int 1) := Fld.start ((fld_at v_BYTES).symm.trans (eqv_i (Term.int_eval 1) c11))
  obtain ⟨n, o, h1, h2, h3, v, L, rfl, ⟨hQ, N, -⟩, hch, hq⟩ := c_law l s _ hw tables_1 i0 i1 i2 i3 i4 cz e_TEXT e_INSTANT e_DATE e_BOOLEAN e_NUMBER e_BYTES s.heap Scs hcz S_TEXT E_TEXT F_TEXT S_INSTANT E_INSTANT F_INSTANT S_DATE E_DATE F_DATE S_BOOLEAN E_BOOLEAN F_BOOLEAN S_NUMBER E_NUMBER F_NUMBER S_BYTES E_BYTES F_BYTES hWd (Old.start s) p e ha hc hk s m _ below hf ((Spec.applies_iff_loose hf).mp happ).1 ⟨rfl, State.Warmed39.refl s, rfl, hCH, fun _ q => nomatch q⟩ trivial
  obtain rfl := hQ
  exact ⟨n, _, h1, h2, h3, hpost _ _ _ _ _ _ ⟨Cond.after_iff.mpr rfl, Cond.after_iff.mpr (eq_i res_at (Term.int_eval (1)) rfl), trivial⟩ ⟨hq.1, hq.2.1, hq.2.2.1, (hq.2.2.2.sift fun y hy => Or.inr (N y hy)).mono (by decide) (by decide)⟩⟩
theorem main_1_1 : Claimed_1_1 := comes_1 fun _ _ _ _ _ _ h hF => ⟨h.1, hF⟩
theorem main_1_2 : Claimed_1_2 := comes_1 fun _ _ _ _ _ _ h hF => ⟨h.2.1, hF⟩
end Jvm.Pilot.@@N@@
namespace Jvm.Pilot.@@N@@
open Jvm Jvm.ClassFile Sem Op Lib Jvm.Free Jvm.Stand Jvm.Pilot.@@N@@.Jvm.D
/-! MADE BY PROGRAM (witnessworld.py) out of the Statement's table words and the real class files: 22 classes; the members and pool entries that the words name. The judged class is class 1, her method 1. -/
namespace start1
open Jvm.ClassFile
def u (s : String) : CpInfo := .utf8 (stringToUtf16 s)
/-- a pool by its gaps: so many unusable entries, then the entry; so many at the end -/
def gap : Nat → List CpInfo → List CpInfo
  | 0, r => r
  | n + 1, r => .unusable :: gap n r
def poolList (es : List (Nat × CpInfo)) (last : Nat) : List CpInfo := es.foldr (fun e r => gap e.1 (e.2 :: r)) (gap last [])
def pool (es : List (Nat × CpInfo)) (last : Nat) : Array CpInfo := ⟨poolList es last⟩
def fileOf (pool : Array CpInfo) (this : Nat) (attrs : Array Attribute := #[]) (ms : Array MethodInfo := #[]) (fl : Nat := 33) (sup : Nat := 0) (ifs : Array Nat := #[]) (fds : Array FieldInfo := #[]) : ClassFile where
  minorVersion := 0
  majorVersion := 65
  constantPool := pool
  accessFlags := fl
  thisClass := this
  superClass := sup
  interfaces := ifs
  fields := fds
  methods := ms
  attributes := attrs
def plain (name : String) (sup : Option ClassId) : Class where
  name := name
  kind := .ordinary
  loader := none
  accessFlags := 33
  super := sup
  interfaces := #[]
  cf := none
  fields := #[]
  methods := #[]
  instanceTypes := #[]
  staticTypes := #[]
  resolved := #[]
  callSites := []
  init := .initialized
  statics := none
  mirror := none

def pool0 : Array CpInfo := pool [(5, u "<init>"), (0, u "()V"), (1, .class_ 10), (1, u "java/lang/Object")] 113

def k0c0 : Code := { maxStack := 0, maxLocals := 1, code := object_method_1_code, exceptionTable := #[], attributes := #[] }
def k0m0 : Method := { name := "<init>", desc := "()V", sig := { parameters := [], returnType := none }, accessFlags := 1, code := some k0c0 }
/-- java/lang/Object -/
def k0 : Class := { plain "java/lang/Object" none with
  accessFlags := 33
  interfaces := #[]
  cf := some (fileOf pool0 8 #[] #[{ accessFlags := 1, nameIndex := 5, descriptorIndex := 6, attributes := #[] }] 33 0 #[] #[])
  fields := #[]
  methods := #[k0m0]
  instanceTypes := #[]
  staticTypes := #[]
  resolved := Array.replicate 124 none
  statics := none }

def pool1 : Array CpInfo := pool [(2, .class_ 4), (1, u "java/lang/Object"), (0, u "<init>"), (0, u "()V"), (0, .integer 2147483647), (0, .fieldref 9 10), (0, .class_ 11), (0, .nameAndType 12 13), (0, u "com/example/lake_union/lakeunion/model/AttributeKind"), (0, u "TEXT"), (0, u "Lcom/example/lake_union/lakeunion/model/AttributeKind;"), (0, .fieldref 9 15), (0, .nameAndType 16 13), (0, u "NUMBER"), (0, .fieldref 9 18), (0, .nameAndType 19 13), (0, u "DATE"), (0, .fieldref 9 21), (0, .nameAndType 22 13), (0, u "INSTANT"), (0, .fieldref 9 24), (0, .nameAndType 25 13), (0, u "BOOLEAN"), (0, .fieldref 9 27), (0, .nameAndType 28 13), (0, u "BYTES"), (0, .methodref 30 31), (0, .class_ 32), (0, .nameAndType 33 34), (0, u "com/example/lake_union/lakeunion/model/AttributeKindRequireKeyPartPinLaw"), (0, u "subject"), (0, u "(ICCC)Ljava/lang/String;"), (0, .methodref 9 36), (0, .nameAndType 37 38), (0, u "requireKeyPart"), (0, u "(Ljava/lang/String;)V"), (0, .class_ 40), (0, u "java/lang/String"), (0, .methodref 39 42), (0, .nameAndType 5 43), (0, u "([C)V"), (2, u "law"), (0, u "(IIIII)Z")] 3

def k1m0 : Method := { name := "<init>", desc := "()V", sig := { parameters := [], returnType := none }, accessFlags := 1, code := none }
def k1c1 : Code := { maxStack := 5, maxLocals := 8, code := code, exceptionTable := #[], attributes := #[] }
def k1m1 : Method := { name := "law", desc := "(IIIII)Z", sig := { parameters := [.int, .int, .int, .int, .int], returnType := some .boolean }, accessFlags := 9, code := some k1c1 }
def k1c2 : Code := { maxStack := 6, maxLocals := 4, code := method_3_code, exceptionTable := #[], attributes := #[] }
def k1m2 : Method := { name := "subject", desc := "(ICCC)Ljava/lang/String;", sig := { parameters := [.int, .char, .char, .char], returnType := some (.object "java/lang/String") }, accessFlags := 10, code := some k1c2 }
/-- com/example/lake_union/lakeunion/model/AttributeKindRequireKeyPartPinLaw -/
def k1 : Class := { plain "com/example/lake_union/lakeunion/model/AttributeKindRequireKeyPartPinLaw" (some 0) with
  accessFlags := 49
  interfaces := #[]
  cf := some (fileOf pool1 30 #[] #[{ accessFlags := 1, nameIndex := 5, descriptorIndex := 6, attributes := #[] }, { accessFlags := 9, nameIndex := 46, descriptorIndex := 47, attributes := #[] }, { accessFlags := 10, nameIndex := 33, descriptorIndex := 34, attributes := #[] }] 49 2 #[] #[])
  fields := #[]
  methods := #[k1m0, k1m1, k1m2]
  instanceTypes := #[]
  staticTypes := #[]
  resolved := Array.replicate 51 none
  statics := none }

def pool2 : Array CpInfo := pool [(1, .class_ 2), (0, u "java/lang/constant/Constable"), (0, .class_ 4), (0, u "java/lang/Object")] 6

/-- java/lang/constant/Constable -/
def k2 : Class := { plain "java/lang/constant/Constable" (some 0) with
  accessFlags := 1537
  interfaces := #[]
  cf := some (fileOf pool2 1 #[] #[] 1537 3 #[] #[])
  fields := #[]
  methods := #[]
  instanceTypes := #[]
  staticTypes := #[]
  resolved := Array.replicate 11 none
  statics := none }

def pool3 : Array CpInfo := pool [(1, .class_ 2), (0, u "java/lang/Comparable"), (0, .class_ 4), (0, u "java/lang/Object")] 7

/-- java/lang/Comparable -/
def k3 : Class := { plain "java/lang/Comparable" (some 0) with
  accessFlags := 1537
  interfaces := #[]
  cf := some (fileOf pool3 1 #[] #[] 1537 3 #[] #[])
  fields := #[]
  methods := #[]
  instanceTypes := #[]
  staticTypes := #[]
  resolved := Array.replicate 12 none
  statics := none }

def pool4 : Array CpInfo := pool [(1, .class_ 2), (0, u "java/io/Serializable"), (0, .class_ 4), (0, u "java/lang/Object")] 2

/-- java/io/Serializable -/
def k4 : Class := { plain "java/io/Serializable" (some 0) with
  accessFlags := 1537
  interfaces := #[]
  cf := some (fileOf pool4 1 #[] #[] 1537 3 #[] #[])
  fields := #[]
  methods := #[]
  instanceTypes := #[]
  staticTypes := #[]
  resolved := Array.replicate 7 none
  statics := none }

def pool5 : Array CpInfo := pool [(2, .class_ 4), (1, u "java/lang/Enum"), (0, u "name"), (0, u "Ljava/lang/String;"), (2, u "ordinal"), (0, u "I"), (1, .class_ 14), (1, u "java/lang/Object"), (4, u "hash"), (86, .class_ 108), (1, u "java/lang/Enum$EnumDesc"), (2, .class_ 112), (0, u "java/lang/constant/Constable"), (0, .class_ 114), (0, u "java/lang/Comparable"), (0, .class_ 116), (0, u "java/io/Serializable")] 87

/-- java/lang/Enum -/
def k5 : Class := { plain "java/lang/Enum" (some 0) with
  accessFlags := 1057
  interfaces := #[2, 3, 4]
  cf := some (fileOf pool5 2 #[.nestMembers #[106]] #[] 1057 12 #[111, 113, 115] #[{ accessFlags := 18, nameIndex := 5, descriptorIndex := 6, attributes := #[] }, { accessFlags := 18, nameIndex := 9, descriptorIndex := 10, attributes := #[] }, { accessFlags := 2, nameIndex := 19, descriptorIndex := 10, attributes := #[] }])
  fields := #[{ name := "name", type := (.object "java/lang/String"), accessFlags := 18, slot := 0, constantValue := 0 }, { name := "ordinal", type := .int, accessFlags := 18, slot := 1, constantValue := 0 }, { name := "hash", type := .int, accessFlags := 2, slot := 2, constantValue := 0 }]
  methods := #[]
  instanceTypes := #[(.object "java/lang/String"), .int, .int]
  staticTypes := #[]
  resolved := Array.replicate 204 none
  statics := none }

def pool6 : Array CpInfo := pool [(1, .class_ 2), (0, u "com/example/lake_union/lakeunion/model/AttributeKind"), (2, u "TEXT"), (0, u "Lcom/example/lake_union/lakeunion/model/AttributeKind;"), (2, u "NUMBER"), (2, u "DATE"), (2, u "INSTANT"), (2, u "BOOLEAN"), (2, u "BYTES"), (2, u "LIST"), (2, u "MAP"), (2, u "TEXT_SET"), (2, u "NUMBER_SET"), (2, u "BYTES_SET"), (2, u "$VALUES"), (0, u "[Lcom/example/lake_union/lakeunion/model/AttributeKind;"), (6, .class_ 49), (1, u "java/lang/Enum"), (8, u "valueType"), (0, u "Ljava/lang/Class;"), (0, .fieldref 1 61), (0, .nameAndType 62 63), (0, u "keyPart"), (0, u "Z"), (2, u "nests"), (2, u "member"), (2, u "order"), (0, u "Ljava/util/Comparator;"), (29, u "(Ljava/lang/String;)V"), (37, u "KINDS"), (110, .class_ 253), (0, u "com/example/lake_union/lakeunion/model/AttributeKind$1"), (14, .class_ 269), (0, u "com/example/lake_union/lakeunion/model/AttributeKind$2"), (2, .class_ 273), (0, u "com/example/lake_union/lakeunion/model/AttributeKind$3"), (22, u "MAX_DIGITS"), (0, u "I"), (2, u "MAX_EXPONENT"), (1, u "MIN_EXPONENT"), (1, u "MAX_LEVEL"), (14, u "requireKeyPart"), (16, .class_ 337), (0, u "com/example/lake_union/lakeunion/model/AttributeKind$Place")] 50

def k6c0 : Code := { maxStack := 5, maxLocals := 2, code := prog_5_method_10_code, exceptionTable := #[], attributes := #[] }
def k6m0 : Method := { name := "requireKeyPart", desc := "(Ljava/lang/String;)V", sig := { parameters := [(.object "java/lang/String")], returnType := none }, accessFlags := 0, code := some k6c0 }
/-- com/example/lake_union/lakeunion/model/AttributeKind -/
def k6 : Class := { plain "com/example/lake_union/lakeunion/model/AttributeKind" (some 5) with
  accessFlags := 16417
  interfaces := #[]
  cf := some (fileOf pool6 1 #[.nestMembers #[336, 272, 268, 252]] #[{ accessFlags := 0, nameIndex := 319, descriptorIndex := 103, attributes := #[] }] 16417 47 #[] #[{ accessFlags := 16409, nameIndex := 5, descriptorIndex := 6, attributes := #[] }, { accessFlags := 16409, nameIndex := 9, descriptorIndex := 6, attributes := #[] }, { accessFlags := 16409, nameIndex := 12, descriptorIndex := 6, attributes := #[] }, { accessFlags := 16409, nameIndex := 15, descriptorIndex := 6, attributes := #[] }, { accessFlags := 16409, nameIndex := 18, descriptorIndex := 6, attributes := #[] }, { accessFlags := 16409, nameIndex := 21, descriptorIndex := 6, attributes := #[] }, { accessFlags := 16409, nameIndex := 24, descriptorIndex := 6, attributes := #[] }, { accessFlags := 16409, nameIndex := 27, descriptorIndex := 6, attributes := #[] }, { accessFlags := 16409, nameIndex := 30, descriptorIndex := 6, attributes := #[] }, { accessFlags := 16409, nameIndex := 33, descriptorIndex := 6, attributes := #[] }, { accessFlags := 16409, nameIndex := 36, descriptorIndex := 6, attributes := #[] }, { accessFlags := 26, nameIndex := 296, descriptorIndex := 297, attributes := #[] }, { accessFlags := 24, nameIndex := 300, descriptorIndex := 297, attributes := #[] }, { accessFlags := 24, nameIndex := 302, descriptorIndex := 297, attributes := #[] }, { accessFlags := 26, nameIndex := 304, descriptorIndex := 297, attributes := #[] }, { accessFlags := 26, nameIndex := 141, descriptorIndex := 40, attributes := #[] }, { accessFlags := 18, nameIndex := 58, descriptorIndex := 59, attributes := #[] }, { accessFlags := 18, nameIndex := 62, descriptorIndex := 63, attributes := #[] }, { accessFlags := 18, nameIndex := 66, descriptorIndex := 63, attributes := #[] }, { accessFlags := 18, nameIndex := 69, descriptorIndex := 6, attributes := #[] }, { accessFlags := 18, nameIndex := 72, descriptorIndex := 73, attributes := #[] }, { accessFlags := 4122, nameIndex := 39, descriptorIndex := 40, attributes := #[] }])
  fields := #[{ name := "TEXT", type := (.object "com/example/lake_union/lakeunion/model/AttributeKind"), accessFlags := 16409, slot := 0, constantValue := 0 }, { name := "NUMBER", type := (.object "com/example/lake_union/lakeunion/model/AttributeKind"), accessFlags := 16409, slot := 1, constantValue := 0 }, { name := "DATE", type := (.object "com/example/lake_union/lakeunion/model/AttributeKind"), accessFlags := 16409, slot := 2, constantValue := 0 }, { name := "INSTANT", type := (.object "com/example/lake_union/lakeunion/model/AttributeKind"), accessFlags := 16409, slot := 3, constantValue := 0 }, { name := "BOOLEAN", type := (.object "com/example/lake_union/lakeunion/model/AttributeKind"), accessFlags := 16409, slot := 4, constantValue := 0 }, { name := "BYTES", type := (.object "com/example/lake_union/lakeunion/model/AttributeKind"), accessFlags := 16409, slot := 5, constantValue := 0 }, { name := "LIST", type := (.object "com/example/lake_union/lakeunion/model/AttributeKind"), accessFlags := 16409, slot := 6, constantValue := 0 }, { name := "MAP", type := (.object "com/example/lake_union/lakeunion/model/AttributeKind"), accessFlags := 16409, slot := 7, constantValue := 0 }, { name := "TEXT_SET", type := (.object "com/example/lake_union/lakeunion/model/AttributeKind"), accessFlags := 16409, slot := 8, constantValue := 0 }, { name := "NUMBER_SET", type := (.object "com/example/lake_union/lakeunion/model/AttributeKind"), accessFlags := 16409, slot := 9, constantValue := 0 }, { name := "BYTES_SET", type := (.object "com/example/lake_union/lakeunion/model/AttributeKind"), accessFlags := 16409, slot := 10, constantValue := 0 }, { name := "MAX_DIGITS", type := .int, accessFlags := 26, slot := 11, constantValue := 0 }, { name := "MAX_EXPONENT", type := .int, accessFlags := 24, slot := 12, constantValue := 0 }, { name := "MIN_EXPONENT", type := .int, accessFlags := 24, slot := 13, constantValue := 0 }, { name := "MAX_LEVEL", type := .int, accessFlags := 26, slot := 14, constantValue := 0 }, { name := "KINDS", type := (.array (.object "com/example/lake_union/lakeunion/model/AttributeKind")), accessFlags := 26, slot := 15, constantValue := 0 }, { name := "valueType", type := (.object "java/lang/Class"), accessFlags := 18, slot := 3, constantValue := 0 }, { name := "keyPart", type := .boolean, accessFlags := 18, slot := 4, constantValue := 0 }, { name := "nests", type := .boolean, accessFlags := 18, slot := 5, constantValue := 0 }, { name := "member", type := (.object "com/example/lake_union/lakeunion/model/AttributeKind"), accessFlags := 18, slot := 6, constantValue := 0 }, { name := "order", type := (.object "java/util/Comparator"), accessFlags := 18, slot := 7, constantValue := 0 }, { name := "$VALUES", type := (.array (.object "com/example/lake_union/lakeunion/model/AttributeKind")), accessFlags := 4122, slot := 16, constantValue := 0 }]
  methods := #[k6m0]
  instanceTypes := #[(.object "java/lang/String"), .int, .int, (.object "java/lang/Class"), .boolean, .boolean, (.object "com/example/lake_union/lakeunion/model/AttributeKind"), (.object "java/util/Comparator")]
  staticTypes := #[(.object "com/example/lake_union/lakeunion/model/AttributeKind"), (.object "com/example/lake_union/lakeunion/model/AttributeKind"), (.object "com/example/lake_union/lakeunion/model/AttributeKind"), (.object "com/example/lake_union/lakeunion/model/AttributeKind"), (.object "com/example/lake_union/lakeunion/model/AttributeKind"), (.object "com/example/lake_union/lakeunion/model/AttributeKind"), (.object "com/example/lake_union/lakeunion/model/AttributeKind"), (.object "com/example/lake_union/lakeunion/model/AttributeKind"), (.object "com/example/lake_union/lakeunion/model/AttributeKind"), (.object "com/example/lake_union/lakeunion/model/AttributeKind"), (.object "com/example/lake_union/lakeunion/model/AttributeKind"), .int, .int, .int, .int, (.array (.object "com/example/lake_union/lakeunion/model/AttributeKind")), (.array (.object "com/example/lake_union/lakeunion/model/AttributeKind"))]
  resolved := Array.replicate 388 none
  statics := some 0 }

def pool7 : Array CpInfo := pool [(2, .class_ 4), (1, u "java/lang/CharSequence"), (42, .class_ 48), (0, u "java/lang/CharSequence$1CodePointIterator"), (10, .class_ 60), (0, u "java/lang/CharSequence$1CharIterator"), (5, .class_ 67), (0, u "java/lang/Object")] 63

/-- java/lang/CharSequence -/
def k7 : Class := { plain "java/lang/CharSequence" (some 0) with
  accessFlags := 1537
  interfaces := #[]
  cf := some (fileOf pool7 2 #[.nestMembers #[47, 59]] #[] 1537 66 #[] #[])
  fields := #[]
  methods := #[]
  instanceTypes := #[]
  staticTypes := #[]
  resolved := Array.replicate 131 none
  statics := none }

def pool8 : Array CpInfo := pool [(1, .class_ 2), (0, u "java/lang/constant/ConstantDesc"), (0, .class_ 4), (0, u "java/lang/Object")] 32

/-- java/lang/constant/ConstantDesc -/
def k8 : Class := { plain "java/lang/constant/ConstantDesc" (some 0) with
  accessFlags := 1537
  interfaces := #[]
  cf := some (fileOf pool8 1 #[] #[] 1537 3 #[] #[])
  fields := #[]
  methods := #[]
  instanceTypes := #[]
  staticTypes := #[]
  resolved := Array.replicate 37 none
  statics := none }

def pool9 : Array CpInfo := pool [(1, .methodref 2 3), (0, .class_ 4), (0, .nameAndType 5 6), (0, u "java/lang/Object"), (0, u "<init>"), (0, u "()V"), (0, .string 8), (0, u ""), (0, .fieldref 10 11), (0, .class_ 12), (0, .nameAndType 13 14), (0, u "java/lang/String"), (0, u "value"), (0, u "[B"), (0, .fieldref 10 16), (0, .nameAndType 17 18), (0, u "coder"), (0, u "B"), (2, u "hash"), (0, u "I"), (2, u "hashIsZero"), (0, u "Z"), (0, .methodref 10 28), (0, .nameAndType 5 29), (0, u "([CIILjava/lang/Void;)V"), (8, .fieldref 10 39), (0, .nameAndType 40 26), (0, u "COMPACT_STRINGS"), (1, .class_ 44), (1, u "java/lang/StringUTF16"), (0, u "compress"), (1, .methodref 42 48), (0, .nameAndType 49 50), (0, u "coderFromArrayLen"), (0, u "([BI)B"), (126, .methodref 42 178), (0, .nameAndType 45 179), (0, u "([CII)[B"), (395, .class_ 576), (0, u "java/lang/CharSequence"), (22, u "CASE_INSENSITIVE_ORDER"), (0, u "Ljava/util/Comparator;"), (409, u "([C)V"), (90, u "serialPersistentFields"), (0, u "[Ljava/io/ObjectStreamField;"), (0, .class_ 1104), (0, u "java/lang/String$CaseInsensitiveComparator"), (1, .class_ 1107), (0, u "java/io/Serializable"), (0, .class_ 1109), (0, u "java/lang/Comparable"), (0, .class_ 1111), (0, u "java/lang/constant/Constable"), (0, .class_ 1113), (0, u "java/lang/constant/ConstantDesc"), (2, u "serialVersionUID"), (0, u "J"), (3, u "REPL"), (0, u "C"), (2, u "LATIN1"), (1, u "UTF16")] 323

def k9m0 : Method := { name := "<init>", desc := "()V", sig := { parameters := [], returnType := none }, accessFlags := 1, code := none }
def k9c1 : Code := { maxStack := 5, maxLocals := 2, code := jdk_42_method_3_code, exceptionTable := #[], attributes := #[] }
def k9m1 : Method := { name := "<init>", desc := "([C)V", sig := { parameters := [(.array .char)], returnType := none }, accessFlags := 1, code := some k9c1 }
def k9c2 : Code := { maxStack := 4, maxLocals := 6, code := jdk_42_method_149_code, exceptionTable := #[], attributes := #[] }
def k9m2 : Method := { name := "<init>", desc := "([CIILjava/lang/Void;)V", sig := { parameters := [(.array .char), .int, .int, (.object "java/lang/Void")], returnType := none }, accessFlags := 2, code := some k9c2 }
/-- java/lang/String -/
def k9 : Class := { plain "java/lang/String" (some 0) with
  accessFlags := 49
  interfaces := #[4, 3, 7, 2, 8]
  cf := some (fileOf pool9 10 #[.nestMembers #[1103]] #[{ accessFlags := 1, nameIndex := 5, descriptorIndex := 6, attributes := #[] }, { accessFlags := 1, nameIndex := 5, descriptorIndex := 1010, attributes := #[] }, { accessFlags := 2, nameIndex := 5, descriptorIndex := 29, attributes := #[] }] 49 2 #[1106, 1108, 575, 1110, 1112] #[{ accessFlags := 18, nameIndex := 13, descriptorIndex := 14, attributes := #[] }, { accessFlags := 18, nameIndex := 17, descriptorIndex := 18, attributes := #[] }, { accessFlags := 2, nameIndex := 21, descriptorIndex := 22, attributes := #[] }, { accessFlags := 2, nameIndex := 25, descriptorIndex := 26, attributes := #[] }, { accessFlags := 26, nameIndex := 1116, descriptorIndex := 1117, attributes := #[] }, { accessFlags := 24, nameIndex := 40, descriptorIndex := 26, attributes := #[] }, { accessFlags := 26, nameIndex := 1101, descriptorIndex := 1102, attributes := #[] }, { accessFlags := 26, nameIndex := 1121, descriptorIndex := 1122, attributes := #[] }, { accessFlags := 25, nameIndex := 599, descriptorIndex := 600, attributes := #[] }, { accessFlags := 24, nameIndex := 1125, descriptorIndex := 18, attributes := #[] }, { accessFlags := 24, nameIndex := 1127, descriptorIndex := 18, attributes := #[] }])
  fields := #[{ name := "value", type := (.array .byte), accessFlags := 18, slot := 0, constantValue := 0 }, { name := "coder", type := .byte, accessFlags := 18, slot := 1, constantValue := 0 }, { name := "hash", type := .int, accessFlags := 2, slot := 2, constantValue := 0 }, { name := "hashIsZero", type := .boolean, accessFlags := 2, slot := 3, constantValue := 0 }, { name := "serialVersionUID", type := .long, accessFlags := 26, slot := 0, constantValue := 0 }, { name := "COMPACT_STRINGS", type := .boolean, accessFlags := 24, slot := 1, constantValue := 0 }, { name := "serialPersistentFields", type := (.array (.object "java/io/ObjectStreamField")), accessFlags := 26, slot := 2, constantValue := 0 }, { name := "REPL", type := .char, accessFlags := 26, slot := 3, constantValue := 0 }, { name := "CASE_INSENSITIVE_ORDER", type := (.object "java/util/Comparator"), accessFlags := 25, slot := 4, constantValue := 0 }, { name := "LATIN1", type := .byte, accessFlags := 24, slot := 5, constantValue := 0 }, { name := "UTF16", type := .byte, accessFlags := 24, slot := 6, constantValue := 0 }]
  methods := #[k9m0, k9m1, k9m2]
  instanceTypes := #[(.array .byte), .byte, .int, .boolean]
  staticTypes := #[.long, .boolean, (.array (.object "java/io/ObjectStreamField")), .char, (.object "java/util/Comparator"), .byte, .byte]
  resolved := Array.replicate 1451 none
  statics := some 1 }

def pool10 : Array CpInfo := pool [(6, .class_ 8), (1, u "java/lang/Object"), (0, u "<init>"), (0, u "()V"), (1, .class_ 14), (1, u "java/lang/StringUTF16"), (31, u "$assertionsDisabled"), (0, u "Z"), (13, u "HI_BYTE_SHIFT"), (0, u "I"), (2, u "LO_BYTE_SHIFT"), (49, .methodref 12 116), (0, .nameAndType 117 118), (0, u "compress"), (0, u "([CI[BII)I"), (3, u "([CII)[B"), (138, u "coderFromArrayLen"), (0, u "([BI)B"), (106, .class_ 371), (1, u "java/lang/StringUTF16$LinesSpliterator"), (58, u "MAX_LENGTH"), (196, .class_ 628), (0, u "java/lang/StringUTF16$CodePointsSpliterator"), (0, .class_ 630), (0, u "java/lang/StringUTF16$CharsSpliterator")] 4

def k10m0 : Method := { name := "<init>", desc := "()V", sig := { parameters := [], returnType := none }, accessFlags := 0, code := none }
def k10c1 : Code := { maxStack := 2, maxLocals := 2, code := jdk_52_method_15_code, exceptionTable := #[], attributes := #[] }
def k10m1 : Method := { name := "coderFromArrayLen", desc := "([BI)B", sig := { parameters := [(.array .byte), .int], returnType := some .byte }, accessFlags := 8, code := some k10c1 }
def k10c2 : Code := { maxStack := 5, maxLocals := 6, code := jdk_52_method_16_code, exceptionTable := #[], attributes := #[] }
def k10m2 : Method := { name := "compress", desc := "([CII)[B", sig := { parameters := [(.array .char), .int, .int], returnType := some (.array .byte) }, accessFlags := 9, code := some k10c2 }
def k10c3 : Code := { maxStack := 3, maxLocals := 7, code := jdk_52_method_21_code, exceptionTable := #[], attributes := #[] }
def k10m3 : Method := { name := "compress", desc := "([CI[BII)I", sig := { parameters := [(.array .char), .int, (.array .byte), .int, .int], returnType := some .int }, accessFlags := 9, code := some k10c3 }
/-- java/lang/StringUTF16 -/
def k10 : Class := { plain "java/lang/StringUTF16" (some 0) with
  accessFlags := 48
  interfaces := #[]
  cf := some (fileOf pool10 12 #[.nestMembers #[627, 629, 369]] #[{ accessFlags := 0, nameIndex := 9, descriptorIndex := 10, attributes := #[] }, { accessFlags := 8, nameIndex := 261, descriptorIndex := 262, attributes := #[] }, { accessFlags := 9, nameIndex := 117, descriptorIndex := 122, attributes := #[] }, { accessFlags := 9, nameIndex := 117, descriptorIndex := 118, attributes := #[] }] 48 6 #[] #[{ accessFlags := 26, nameIndex := 61, descriptorIndex := 62, attributes := #[] }, { accessFlags := 26, nameIndex := 65, descriptorIndex := 62, attributes := #[] }, { accessFlags := 24, nameIndex := 430, descriptorIndex := 62, attributes := #[] }, { accessFlags := 4120, nameIndex := 46, descriptorIndex := 47, attributes := #[] }])
  fields := #[{ name := "HI_BYTE_SHIFT", type := .int, accessFlags := 26, slot := 0, constantValue := 0 }, { name := "LO_BYTE_SHIFT", type := .int, accessFlags := 26, slot := 1, constantValue := 0 }, { name := "MAX_LENGTH", type := .int, accessFlags := 24, slot := 2, constantValue := 0 }, { name := "$assertionsDisabled", type := .boolean, accessFlags := 4120, slot := 3, constantValue := 0 }]
  methods := #[k10m0, k10m1, k10m2, k10m3]
  instanceTypes := #[]
  staticTypes := #[.int, .int, .int, .boolean]
  resolved := Array.replicate 635 none
  statics := none }

def pool11 : Array CpInfo := pool [(1, .class_ 2), (0, u "com/example/lake_union/lakeunion/model/AttributeKind"), (97, .class_ 101), (0, u "com/example/lake_union/lakeunion/model/AttributeKind$1")] 27

/-- com/example/lake_union/lakeunion/model/AttributeKind$1 -/
def k11 : Class := { plain "com/example/lake_union/lakeunion/model/AttributeKind$1" (some 6) with
  accessFlags := 16432
  interfaces := #[]
  cf := some (fileOf pool11 100 #[.nestHost 1] #[] 16432 1 #[] #[])
  fields := #[]
  methods := #[]
  instanceTypes := #[(.object "java/lang/String"), .int, .int, (.object "java/lang/Class"), .boolean, .boolean, (.object "com/example/lake_union/lakeunion/model/AttributeKind"), (.object "java/util/Comparator")]
  staticTypes := #[]
  resolved := Array.replicate 129 none
  statics := none }

def pool12 : Array CpInfo := pool [(4, .class_ 6), (1, u "java/lang/Object"), (0, u "<init>"), (0, u "()V"), (5, .class_ 16), (1, u "java/lang/StringLatin1"), (104, u "$assertionsDisabled"), (0, u "Z"), (98, .class_ 223), (1, u "java/lang/StringLatin1$LinesSpliterator"), (166, .class_ 391), (0, u "java/lang/StringLatin1$CharsSpliterator")] 3

def k12m0 : Method := { name := "<init>", desc := "()V", sig := { parameters := [], returnType := none }, accessFlags := 0, code := none }
/-- java/lang/StringLatin1 -/
def k12 : Class := { plain "java/lang/StringLatin1" (some 0) with
  accessFlags := 48
  interfaces := #[]
  cf := some (fileOf pool12 14 #[.nestMembers #[390, 221]] #[{ accessFlags := 0, nameIndex := 7, descriptorIndex := 8, attributes := #[] }] 48 4 #[] #[{ accessFlags := 4120, nameIndex := 121, descriptorIndex := 122, attributes := #[] }])
  fields := #[{ name := "$assertionsDisabled", type := .boolean, accessFlags := 4120, slot := 0, constantValue := 0 }]
  methods := #[k12m0]
  instanceTypes := #[]
  staticTypes := #[.boolean]
  resolved := Array.replicate 395 none
  statics := none }

def pool13 : Array CpInfo := pool [(2, .class_ 4), (1, u "java/lang/Object"), (0, u "<init>"), (0, u "()V"), (17, .class_ 26), (1, u "jdk/internal/util/Preconditions"), (28, .class_ 56), (0, u "jdk/internal/util/Preconditions$4"), (57, .class_ 115), (0, u "jdk/internal/util/Preconditions$1"), (7, u "SIOOBE_FORMATTER"), (0, u "Ljava/util/function/BiFunction;"), (0, .class_ 126), (0, u "jdk/internal/util/Preconditions$2"), (3, u "AIOOBE_FORMATTER"), (0, .class_ 132), (0, u "jdk/internal/util/Preconditions$3"), (3, u "IOOBE_FORMATTER")] 57

def k13m0 : Method := { name := "<init>", desc := "()V", sig := { parameters := [], returnType := none }, accessFlags := 1, code := none }
/-- jdk/internal/util/Preconditions -/
def k13 : Class := { plain "jdk/internal/util/Preconditions" (some 0) with
  accessFlags := 33
  interfaces := #[]
  cf := some (fileOf pool13 24 #[.nestMembers #[55, 131, 125, 114]] #[{ accessFlags := 1, nameIndex := 5, descriptorIndex := 6, attributes := #[] }] 33 2 #[] #[{ accessFlags := 25, nameIndex := 123, descriptorIndex := 124, attributes := #[] }, { accessFlags := 25, nameIndex := 130, descriptorIndex := 124, attributes := #[] }, { accessFlags := 25, nameIndex := 136, descriptorIndex := 124, attributes := #[] }])
  fields := #[{ name := "SIOOBE_FORMATTER", type := (.object "java/util/function/BiFunction"), accessFlags := 25, slot := 0, constantValue := 0 }, { name := "AIOOBE_FORMATTER", type := (.object "java/util/function/BiFunction"), accessFlags := 25, slot := 1, constantValue := 0 }, { name := "IOOBE_FORMATTER", type := (.object "java/util/function/BiFunction"), accessFlags := 25, slot := 2, constantValue := 0 }]
  methods := #[k13m0]
  instanceTypes := #[]
  staticTypes := #[(.object "java/util/function/BiFunction"), (.object "java/util/function/BiFunction"), (.object "java/util/function/BiFunction")]
  resolved := Array.replicate 194 none
  statics := some 2 }

def pool14 : Array CpInfo := pool [(9, u "<init>"), (6, .class_ 18), (1, u "java/lang/Object"), (0, u "()V"), (1, .class_ 23), (1, u "jdk/internal/util/ArraysSupport"), (0, u "LOG2_ARRAY_LONG_INDEX_SCALE"), (0, u "I"), (2, u "U"), (0, u "Ljdk/internal/misc/Unsafe;"), (8, u "BIG_ENDIAN"), (0, u "Z"), (8, u "LOG2_BYTE_BIT_SIZE"), (4, u "LOG2_ARRAY_INT_INDEX_SCALE"), (54, u "JLA"), (0, u "Ljdk/internal/access/JavaLangAccess;"), (11, u "LOG2_ARRAY_BOOLEAN_INDEX_SCALE"), (9, u "LOG2_ARRAY_BYTE_INDEX_SCALE"), (5, u "LOG2_ARRAY_CHAR_INDEX_SCALE"), (5, u "LOG2_ARRAY_SHORT_INDEX_SCALE"), (18, u "LOG2_ARRAY_FLOAT_INDEX_SCALE"), (24, u "LOG2_ARRAY_DOUBLE_INDEX_SCALE"), (89, u "T_BOOLEAN"), (2, u "T_CHAR"), (1, u "T_FLOAT"), (1, u "T_DOUBLE"), (1, u "T_BYTE"), (1, u "T_SHORT"), (1, u "T_INT"), (1, u "T_LONG"), (1, u "SOFT_MAX_ARRAY_LENGTH")] 83

def k14m0 : Method := { name := "<init>", desc := "()V", sig := { parameters := [], returnType := none }, accessFlags := 2, code := none }
/-- jdk/internal/util/ArraysSupport -/
def k14 : Class := { plain "jdk/internal/util/ArraysSupport" (some 0) with
  accessFlags := 33
  interfaces := #[]
  cf := some (fileOf pool14 21 #[] #[{ accessFlags := 2, nameIndex := 9, descriptorIndex := 19, attributes := #[] }] 33 16 #[] #[{ accessFlags := 24, nameIndex := 28, descriptorIndex := 29, attributes := #[] }, { accessFlags := 26, nameIndex := 38, descriptorIndex := 39, attributes := #[] }, { accessFlags := 25, nameIndex := 121, descriptorIndex := 25, attributes := #[] }, { accessFlags := 25, nameIndex := 131, descriptorIndex := 25, attributes := #[] }, { accessFlags := 25, nameIndex := 137, descriptorIndex := 25, attributes := #[] }, { accessFlags := 25, nameIndex := 143, descriptorIndex := 25, attributes := #[] }, { accessFlags := 25, nameIndex := 53, descriptorIndex := 25, attributes := #[] }, { accessFlags := 25, nameIndex := 24, descriptorIndex := 25, attributes := #[] }, { accessFlags := 25, nameIndex := 162, descriptorIndex := 25, attributes := #[] }, { accessFlags := 25, nameIndex := 187, descriptorIndex := 25, attributes := #[] }, { accessFlags := 26, nameIndex := 48, descriptorIndex := 25, attributes := #[] }, { accessFlags := 25, nameIndex := 277, descriptorIndex := 25, attributes := #[] }, { accessFlags := 25, nameIndex := 280, descriptorIndex := 25, attributes := #[] }, { accessFlags := 25, nameIndex := 282, descriptorIndex := 25, attributes := #[] }, { accessFlags := 25, nameIndex := 284, descriptorIndex := 25, attributes := #[] }, { accessFlags := 25, nameIndex := 286, descriptorIndex := 25, attributes := #[] }, { accessFlags := 25, nameIndex := 288, descriptorIndex := 25, attributes := #[] }, { accessFlags := 25, nameIndex := 290, descriptorIndex := 25, attributes := #[] }, { accessFlags := 25, nameIndex := 292, descriptorIndex := 25, attributes := #[] }, { accessFlags := 26, nameIndex := 108, descriptorIndex := 109, attributes := #[] }, { accessFlags := 25, nameIndex := 294, descriptorIndex := 25, attributes := #[] }])
  fields := #[{ name := "U", type := (.object "jdk/internal/misc/Unsafe"), accessFlags := 24, slot := 0, constantValue := 0 }, { name := "BIG_ENDIAN", type := .boolean, accessFlags := 26, slot := 1, constantValue := 0 }, { name := "LOG2_ARRAY_BOOLEAN_INDEX_SCALE", type := .int, accessFlags := 25, slot := 2, constantValue := 0 }, { name := "LOG2_ARRAY_BYTE_INDEX_SCALE", type := .int, accessFlags := 25, slot := 3, constantValue := 0 }, { name := "LOG2_ARRAY_CHAR_INDEX_SCALE", type := .int, accessFlags := 25, slot := 4, constantValue := 0 }, { name := "LOG2_ARRAY_SHORT_INDEX_SCALE", type := .int, accessFlags := 25, slot := 5, constantValue := 0 }, { name := "LOG2_ARRAY_INT_INDEX_SCALE", type := .int, accessFlags := 25, slot := 6, constantValue := 0 }, { name := "LOG2_ARRAY_LONG_INDEX_SCALE", type := .int, accessFlags := 25, slot := 7, constantValue := 0 }, { name := "LOG2_ARRAY_FLOAT_INDEX_SCALE", type := .int, accessFlags := 25, slot := 8, constantValue := 0 }, { name := "LOG2_ARRAY_DOUBLE_INDEX_SCALE", type := .int, accessFlags := 25, slot := 9, constantValue := 0 }, { name := "LOG2_BYTE_BIT_SIZE", type := .int, accessFlags := 26, slot := 10, constantValue := 0 }, { name := "T_BOOLEAN", type := .int, accessFlags := 25, slot := 11, constantValue := 0 }, { name := "T_CHAR", type := .int, accessFlags := 25, slot := 12, constantValue := 0 }, { name := "T_FLOAT", type := .int, accessFlags := 25, slot := 13, constantValue := 0 }, { name := "T_DOUBLE", type := .int, accessFlags := 25, slot := 14, constantValue := 0 }, { name := "T_BYTE", type := .int, accessFlags := 25, slot := 15, constantValue := 0 }, { name := "T_SHORT", type := .int, accessFlags := 25, slot := 16, constantValue := 0 }, { name := "T_INT", type := .int, accessFlags := 25, slot := 17, constantValue := 0 }, { name := "T_LONG", type := .int, accessFlags := 25, slot := 18, constantValue := 0 }, { name := "JLA", type := (.object "jdk/internal/access/JavaLangAccess"), accessFlags := 26, slot := 19, constantValue := 0 }, { name := "SOFT_MAX_ARRAY_LENGTH", type := .int, accessFlags := 25, slot := 20, constantValue := 0 }]
  methods := #[k14m0]
  instanceTypes := #[]
  staticTypes := #[(.object "jdk/internal/misc/Unsafe"), .boolean, .int, .int, .int, .int, .int, .int, .int, .int, .int, .int, .int, .int, .int, .int, .int, .int, .int, (.object "jdk/internal/access/JavaLangAccess"), .int]
  resolved := Array.replicate 378 none
  statics := none }

def pool15 : Array CpInfo := pool [(1, u "java/lang/Cloneable"), (0, .class_ 1), (0, u "java/lang/Object"), (0, .class_ 3)] 3

/-- java/lang/Cloneable -/
def k15 : Class := { plain "java/lang/Cloneable" (some 0) with
  accessFlags := 1537
  interfaces := #[]
  cf := some (fileOf pool15 2 #[] #[] 1537 4 #[] #[])
  fields := #[]
  methods := #[]
  instanceTypes := #[]
  staticTypes := #[]
  resolved := Array.replicate 8 none
  statics := none }

/-- the primitive byte -/
def k16 : Class := { plain "byte" none with kind := .primitive 'B', accessFlags := 0x411 }
/-- [B -/
def k17 : Class := { plain "[B" (some 0) with kind := .array 16 .byte, interfaces := #[15, 4], accessFlags := 1041 }

/-- the primitive char -/
def k18 : Class := { plain "char" none with kind := .primitive 'C', accessFlags := 0x411 }
/-- [C -/
def k19 : Class := { plain "[C" (some 0) with kind := .array 18 .char, interfaces := #[15, 4], accessFlags := 1041 }

/-- the primitive int -/
def k20 : Class := { plain "int" none with kind := .primitive 'I', accessFlags := 0x411 }
/-- [I -/
def k21 : Class := { plain "[I" (some 0) with kind := .array 20 .int, interfaces := #[15, 4], accessFlags := 1041 }

def heap : Heap := #[{ cls := 6, slots := #[.ref 3, .ref 4, .ref 5, .ref 6, .ref 7, .ref 8, .null, .null, .null, .null, .null, .int 0, .int 0, .int 0, .int 0, .null, .null], vm := .statics 6 },
  { cls := 9, slots := #[.long 0, .int 1, .null, .int 0, .null, .int 0, .int 0], vm := .statics 9 },
  { cls := 13, slots := #[.null, .null, .null], vm := .statics 13 },
  { cls := 6, slots := #[.null, .int 0, .int 0, .null, .int 1, .int 1, .null, .null], vm := .none },
  { cls := 11, slots := #[.null, .int 1, .int 0, .null, .int 1, .int 1, .null, .null], vm := .none },
  { cls := 6, slots := #[.null, .int 2, .int 0, .null, .int 1, .int 1, .null, .null], vm := .none },
  { cls := 6, slots := #[.null, .int 3, .int 0, .null, .int 1, .int 1, .null, .null], vm := .none },
  { cls := 6, slots := #[.null, .int 4, .int 0, .null, .int 1, .int 1, .null, .null], vm := .none },
  { cls := 6, slots := #[.null, .int 5, .int 0, .null, .int 1, .int 1, .null, .null], vm := .none }]
def classes : Array Class := #[k0, k1, k2, k3, k4, k5, k6, k7, k8, k9, k10, k11, k12, k13, k14, k15, k16, k17, k18, k19, k20, k21]
def interned : List (Array UInt16 × Addr) := []
def slotsUsed : Nat := 75
def theMethod : MethodId := ⟨1, 1⟩
def args0 : Array Value := #[.int 1, .int 2, .int 65, .int 66, .int 67]
def aboutOver (below : List Frame) : State where
  vm := { classes := classes, interned := interned.toArray }
  heap := heap
  slotsUsed := slotsUsed
  threads := #[{ frames := .invoking theMethod args0 :: below }]
def below0 : List Frame := [.native { method := ⟨0, 0⟩, args := #[] }]
def about1 : State := aboutOver below0
def p0 : Program := .bare "" "" ""
def e0 : Env := launch0.env 0 0 0
theorem w_frames : about1.frames = Frame.invoking theMethod args0 :: below0 := rfl
set_option maxRecDepth 65536 in
theorem w_args : argsFit about1.vm theMethod args0 = true := by decide +kernel
set_option maxRecDepth 65536 in
theorem w_heap : heapFits about1 = true := by decide +kernel
set_option maxRecDepth 65536 in
theorem w_runnable : about1.curStatus? = some .runnable := by decide +kernel
set_option maxRecDepth 65536 in
theorem w_alone : about1.alone = true := by decide +kernel
set_option maxRecDepth 65536 in
theorem w_named : about1.methodNamed? x = some theMethod := by decide +kernel
set_option maxRecDepth 65536 in
theorem w_hears : about1.hears theMethod below0 = true := by decide +kernel
set_option maxRecDepth 65536 in
theorem w_ripe : about1.ripe theMethod args0 below0 = true := by decide +kernel
theorem w_running : about1.status = .running := rfl
set_option maxRecDepth 65536 in
theorem w_room : about1.hasRoom e0.platform room_1 = true :=
  launch0.hasRoom_least _ room_1 (by decide +kernel) (by decide +kernel) (by decide +kernel) (by decide +kernel) (by decide +kernel) (by decide +kernel)
theorem allAtoms_all (ts : List Jvm.Cond) (a : Array Jvm.Value) (st : Jvm.State) : (allAtoms ts).before a st = ts.all (fun c => c.before a st) := by
  induction ts with
  | nil => rfl
  | cons c t ih =>
    show (Jvm.Cond.and c (allAtoms t)).before a st = _
    rw [Jvm.Cond.before_and, ih, List.all_cons]
def words1 : List Jvm.Cond := Jvm.Cond.code x code maxLocals ret :: tables_1
/-- a 'code' word, met by the world's own term for the bytes: nothing is compared byte by byte -/
theorem code_word {y : MethodName} {bytes : ByteArray} {mx : Nat} {rt : Option FieldType} {a : Array Value} {s : State} {m : MethodId} {meth : Method} {c : Code} (h1 : s.methodNamed? y = some m) (h2 : s.vm.method? m = some meth) (h3 : meth.code = some c) (h4 : c.code = bytes)
    (h5 : (c.maxLocals == mx && c.exceptionTable.isEmpty && decide (c.maxStack ≤ mostOperands) && decide (meth.sig.returnType = rt) && !meth.locks && decide (parseMethodDescriptor y.desc = some meth.sig)) = true) : (Jvm.Cond.code y bytes mx rt).before a s = true := by
  simp only [Bool.and_eq_true, beq_iff_eq, Bool.not_eq_true', decide_eq_true_eq] at h5
  obtain ⟨⟨⟨⟨⟨g1, g2⟩, g3⟩, g4⟩, g5⟩, g6⟩ := h5
  simp [Cond.before, Cond.holds, Cond.value, h1, h2, h3, h4, g1, g2, g3, g4, g5, g6]
def isCode : Jvm.Cond → Bool
  | .code _ _ _ _ => true
  | _ => false
theorem all_split {L : List Jvm.Cond} {P : Jvm.Cond → Bool} (h1 : L.all (fun c => isCode c || P c) = true) (h2 : ∀ c ∈ L.filter isCode, P c = true) : L.all P = true := by
  refine List.all_eq_true.mpr fun c hc => ?_
  have h := List.all_eq_true.mp h1 c hc
  rcases Bool.eq_false_or_eq_true (isCode c) with hi | hi
  · exact h2 c (List.mem_filter.mpr ⟨hc, hi⟩)
  · simpa [hi] using h
set_option maxRecDepth 65536 in
theorem w_c0 : (Jvm.Cond.code x code maxLocals ret).before args0 about1 = true := code_word (m := ⟨1, 1⟩) (meth := k1m1) (c := k1c1) (by decide +kernel) rfl rfl rfl (by decide +kernel)
set_option maxRecDepth 65536 in
theorem w_c1 : (Jvm.Cond.code ({ cls := "com/example/lake_union/lakeunion/model/AttributeKindRequireKeyPartPinLaw", name := "subject", desc := "(ICCC)Ljava/lang/String;" } : Jvm.MethodName) method_3_code (4 : Nat) (Option.some (Jvm.ClassFile.FieldType.object "java/lang/String"))).before args0 about1 = true := code_word (m := ⟨1, 2⟩) (meth := k1m2) (c := k1c2) (by decide +kernel) rfl rfl rfl (by decide +kernel)
set_option maxRecDepth 65536 in
theorem w_c2 : (Jvm.Cond.code ({ cls := "java/lang/String", name := "<init>", desc := "([C)V" } : Jvm.MethodName) jdk_42_method_3_code (2 : Nat) (Option.none : Option Jvm.ClassFile.FieldType)).before args0 about1 = true := code_word (m := ⟨9, 1⟩) (meth := k9m1) (c := k9c1) (by decide +kernel) rfl rfl rfl (by decide +kernel)
set_option maxRecDepth 65536 in
theorem w_c3 : (Jvm.Cond.code ({ cls := "java/lang/String", name := "<init>", desc := "([CIILjava/lang/Void;)V" } : Jvm.MethodName) jdk_42_method_149_code (6 : Nat) (Option.none : Option Jvm.ClassFile.FieldType)).before args0 about1 = true := code_word (m := ⟨9, 2⟩) (meth := k9m2) (c := k9c2) (by decide +kernel) rfl rfl rfl (by decide +kernel)
set_option maxRecDepth 65536 in
theorem w_c4 : (Jvm.Cond.code ({ cls := "java/lang/Object", name := "<init>", desc := "()V" } : Jvm.MethodName) object_method_1_code (1 : Nat) (Option.none : Option Jvm.ClassFile.FieldType)).before args0 about1 = true := code_word (m := ⟨0, 0⟩) (meth := k0m0) (c := k0c0) (by decide +kernel) rfl rfl rfl (by decide +kernel)
set_option maxRecDepth 65536 in
theorem w_c5 : (Jvm.Cond.code ({ cls := "java/lang/StringUTF16", name := "compress", desc := "([CII)[B" } : Jvm.MethodName) jdk_52_method_16_code (6 : Nat) (Option.some (Jvm.ClassFile.FieldType.array Jvm.ClassFile.FieldType.byte))).before args0 about1 = true := code_word (m := ⟨10, 2⟩) (meth := k10m2) (c := k10c2) (by decide +kernel) rfl rfl rfl (by decide +kernel)
set_option maxRecDepth 65536 in
theorem w_c6 : (Jvm.Cond.code ({ cls := "java/lang/StringUTF16", name := "compress", desc := "([CI[BII)I" } : Jvm.MethodName) jdk_52_method_21_code (7 : Nat) (Option.some Jvm.ClassFile.FieldType.int)).before args0 about1 = true := code_word (m := ⟨10, 3⟩) (meth := k10m3) (c := k10c3) (by decide +kernel) rfl rfl rfl (by decide +kernel)
set_option maxRecDepth 65536 in
theorem w_c7 : (Jvm.Cond.code ({ cls := "java/lang/StringUTF16", name := "coderFromArrayLen", desc := "([BI)B" } : Jvm.MethodName) jdk_52_method_15_code (2 : Nat) (Option.some Jvm.ClassFile.FieldType.byte)).before args0 about1 = true := code_word (m := ⟨10, 1⟩) (meth := k10m1) (c := k10c1) (by decide +kernel) rfl rfl rfl (by decide +kernel)
set_option maxRecDepth 65536 in
theorem w_c8 : (Jvm.Cond.code ({ cls := "com/example/lake_union/lakeunion/model/AttributeKind", name := "requireKeyPart", desc := "(Ljava/lang/String;)V" } : Jvm.MethodName) prog_5_method_10_code (2 : Nat) (Option.none : Option Jvm.ClassFile.FieldType)).before args0 about1 = true := code_word (m := ⟨6, 0⟩) (meth := k6m0) (c := k6c0) (by decide +kernel) rfl rfl rfl (by decide +kernel)
def codes1 : List Jvm.Cond := [Jvm.Cond.code x code maxLocals ret, Jvm.Cond.code ({ cls := "com/example/lake_union/lakeunion/model/AttributeKindRequireKeyPartPinLaw", name := "subject", desc := "(ICCC)Ljava/lang/String;" } : Jvm.MethodName) method_3_code (4 : Nat) (Option.some (Jvm.ClassFile.FieldType.object "java/lang/String")), Jvm.Cond.code ({ cls := "java/lang/String", name := "<init>", desc := "([C)V" } : Jvm.MethodName) jdk_42_method_3_code (2 : Nat) (Option.none : Option Jvm.ClassFile.FieldType), Jvm.Cond.code ({ cls := "java/lang/String", name := "<init>", desc := "([CIILjava/lang/Void;)V" } : Jvm.MethodName) jdk_42_method_149_code (6 : Nat) (Option.none : Option Jvm.ClassFile.FieldType), Jvm.Cond.code ({ cls := "java/lang/Object", name := "<init>", desc := "()V" } : Jvm.MethodName) object_method_1_code (1 : Nat) (Option.none : Option Jvm.ClassFile.FieldType), Jvm.Cond.code ({ cls := "java/lang/StringUTF16", name := "compress", desc := "([CII)[B" } : Jvm.MethodName) jdk_52_method_16_code (6 : Nat) (Option.some (Jvm.ClassFile.FieldType.array Jvm.ClassFile.FieldType.byte)), Jvm.Cond.code ({ cls := "java/lang/StringUTF16", name := "compress", desc := "([CI[BII)I" } : Jvm.MethodName) jdk_52_method_21_code (7 : Nat) (Option.some Jvm.ClassFile.FieldType.int), Jvm.Cond.code ({ cls := "java/lang/StringUTF16", name := "coderFromArrayLen", desc := "([BI)B" } : Jvm.MethodName) jdk_52_method_15_code (2 : Nat) (Option.some Jvm.ClassFile.FieldType.byte), Jvm.Cond.code ({ cls := "com/example/lake_union/lakeunion/model/AttributeKind", name := "requireKeyPart", desc := "(Ljava/lang/String;)V" } : Jvm.MethodName) prog_5_method_10_code (2 : Nat) (Option.none : Option Jvm.ClassFile.FieldType)]
set_option maxRecDepth 65536 in
theorem codes_eq : words1.filter isCode = codes1 := rfl
theorem w_codes : ∀ c ∈ words1.filter isCode, c.before args0 about1 = true := by
  rw [codes_eq]
  intro c hc
  simp only [codes1, List.mem_cons, List.not_mem_nil, or_false] at hc
  rcases hc with rfl | rfl | rfl | rfl | rfl | rfl | rfl | rfl | rfl
  · exact w_c0
  · exact w_c1
  · exact w_c2
  · exact w_c3
  · exact w_c4
  · exact w_c5
  · exact w_c6
  · exact w_c7
  · exact w_c8
set_option maxRecDepth 65536 in
theorem w_t1 : (words1.take 24).all (fun c => isCode c || c.before args0 about1) = true := by decide +kernel
set_option maxRecDepth 65536 in
theorem w_t2 : ((words1.drop 24).take 24).all (fun c => isCode c || c.before args0 about1) = true := by decide +kernel
set_option maxRecDepth 65536 in
theorem w_t3 : ((words1.drop 24).drop 24).all (fun c => isCode c || c.before args0 about1) = true := by decide +kernel
theorem w_tables : (allAtoms (Jvm.Cond.code x code maxLocals ret :: tables_1)).before args0 about1 = true := by
  rw [allAtoms_all]
  show words1.all (fun c => c.before args0 about1) = true
  refine all_split ?_ w_codes
  rw [← List.take_append_drop 24 words1, List.all_append, w_t1, ← List.take_append_drop 24 (words1.drop 24), List.all_append, w_t2, w_t3]
  rfl
set_option maxRecDepth 65536 in
theorem w_rest : rest_1_c.before args0 about1 = true := by decide +kernel
set_option maxRecDepth 65536 in
theorem w_case : (Jvm.Cond.and given_1 narrow_1).before args0 about1 = true := by decide +kernel
set_option maxRecDepth 65536 in
theorem w_consts : constsHeld consts_1 about1 := Jvm.Lit.constsHeldB_iff.mp (by decide +kernel)
theorem w_applies : (headSpec (Jvm.Cond.code x code maxLocals ret :: tables_1) room_1).applies x e0.platform about1 = true :=
  (Spec.applies_iff w_frames).mpr ⟨w_running, w_runnable, w_alone, w_named, w_hears, w_ripe, w_room, w_tables⟩
theorem atStart : AtStart classFile x code maxLocals ret World_1 tables_1 room_1 Calls_1 rest_1 Pre_1 launch0 p0 e0 about1 theMethod args0 below0 :=
  ⟨lists_1, trivial, launch0.admits_env _ _ _, launch0.least_env, fairChoices_fair.cas, fairChoices_fair.clock, w_frames, w_args, w_heap, w_applies, ⟨w_consts, trivial⟩, w_rest, w_case⟩
end start1
theorem witness_1 : WitnessClaimed_1 := ⟨start1.p0, start1.e0, start1.about1, start1.theMethod, start1.args0, start1.below0, start1.atStart⟩
end Jvm.Pilot.@@N@@
