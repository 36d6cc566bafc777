import JvmDerived
import JvmDerived.Pilot.@@N@@Statement
import JvmDerived.Pilot.@@N@@Code
set_option linter.unusedVariables false
set_option linter.unusedSimpArgs false
/- laws to paste: Road.backV, Road.eqW, Road.codOf (cut by pick.py; bodies as the Statement names them) -/
namespace Jvm.Pilot.@@N@@
namespace StrChars
open Jvm Sem ClassFile Op Lib Jvm.Stand Jvm.Free.XT Jvm.Free.ALB Jvm.Free.JM Jvm.Free
open Jvm.Lib.Cold (StaticIs)
/-- a char array whose places are chars -/
def Ch (a : Addr) (A : Cell) (U : State) : Prop := Arr .char a A U ∧ Typed .char A
theorem Ch.mv {a : Addr} {A : Cell} {U U' : State} (h : Ch a A U) (hal : U.vm.Alike U'.vm) (hh : U'.heap = U.heap) : Ch a A U' := ⟨h.1.mv hal hh, h.2⟩
theorem Ch.keep {a : Addr} {A : Cell} {U U' : State} (h : Ch a A U) (hal : U.vm.Alike U'.vm) (hk : U'.heap[a]? = some A) : Ch a A U' := ⟨h.1.keep hal hk, h.2⟩
/-- what place i of a char[]'s cell holds -/
def cv (A : Cell) (i : Nat) : Int32 := match A.slots[i]? with | some (.int x) => x | _ => 0
theorem Ch.get {a : Addr} {A : Cell} {U : State} (h : Ch a A U) {i : Nat} (hi : i < A.slots.size) : A.slots[i]? = some (.int (cv A i)) := by
  have e := Array.getElem?_eq_getElem hi
  have f := h.2 i _ e
  unfold cv; rw [e]
  generalize A.slots[i] = v at f
  cases v <;> simp [fits] at f ⊢
/-- the byte that i2b leaves of a char -/
def lo8 (x : Int32) : Int32 := x.toInt8.toInt32
theorem fits_lo8 (y : Int32) : fits .byte (.int (lo8 y)) = true := by
  have h1 := y.toInt8.le_toInt
  have h2 := y.toInt8.toInt_lt
  simp only [lo8, fits, Bool.and_eq_true, decide_eq_true_eq, Int32.le_iff_toInt_le, Int8.toInt_toInt32, show (-128 : Int32).toInt = -128 from by decide, show (127 : Int32).toInt = 127 from by decide]
  omega
/-- A' is A but that each place j of lo .. hi - 1 holds f j -/
def Laid (A A' : Cell) (lo hi : Nat) (f : Nat → Value) : Prop := A'.cls = A.cls ∧ A'.vm = A.vm ∧ A'.slots.size = A.slots.size ∧ ∀ i, A'.slots[i]? = if lo ≤ i ∧ i < hi then some (f i) else A.slots[i]?
theorem Laid.zero (A : Cell) (lo : Nat) (f : Nat → Value) : Laid A A lo (lo + 0) f := ⟨rfl, rfl, rfl, fun i => by rw [if_neg (by omega)]⟩
theorem Laid.step {A Ak : Cell} {lo k : Nat} {f : Nat → Value} {v : Value} (h : Laid A Ak lo k f) (hlo : lo ≤ k) (hk : k < Ak.slots.size) (hv : v = f k) : Laid A (Ak.setSlot k v) lo (k + 1) f := by
  refine ⟨h.1, h.2.1, by simpa [Cell.setSlot] using h.2.2.1, fun i => ?_⟩
  by_cases e : k = i
  · subst e; rw [Cell.slots_setSlot_self v hk, if_pos (by omega), hv]
  · rw [Cell.slots_setSlot_ne v e, h.2.2.2 i]
    by_cases q : lo ≤ i ∧ i < k
    · rw [if_pos q, if_pos (by omega)]
    · rw [if_neg q, if_neg (by omega)]
def U16 : String := "java/lang/StringUTF16"
namespace Cmp5
def yN : MethodName := ⟨"java/lang/StringUTF16", "compress", "([CI[BII)I"⟩
abbrev yB : ByteArray := jdk_52_method_21_code
theorem d0 : decode yB 0 = .ok (.iconst 0, 1) := by decide +kernel
theorem d1 : decode yB 1 = .ok (.istore 5, 2) := by decide +kernel
theorem d3 : decode yB 3 = .ok (.iload 5, 2) := by decide +kernel
theorem d5 : decode yB 5 = .ok (.iload 4, 2) := by decide +kernel
theorem d7 : decode yB 7 = .ok (.if_icmp (.ge) 37, 3) := by decide +kernel
theorem d10 : decode yB 10 = .ok (.aload_n 0, 1) := by decide +kernel
theorem d11 : decode yB 11 = .ok (.iload_n 1, 1) := by decide +kernel
theorem d12 : decode yB 12 = .ok (.caload, 1) := by decide +kernel
theorem d13 : decode yB 13 = .ok (.istore 6, 2) := by decide +kernel
theorem d15 : decode yB 15 = .ok (.iload 6, 2) := by decide +kernel
theorem d17 : decode yB 17 = .ok (.sipush 255, 3) := by decide +kernel
theorem d20 : decode yB 20 = .ok (.if_icmp (.le) 6, 3) := by decide +kernel
theorem d26 : decode yB 26 = .ok (.aload_n 2, 1) := by decide +kernel
theorem d27 : decode yB 27 = .ok (.iload_n 3, 1) := by decide +kernel
theorem d28 : decode yB 28 = .ok (.iload 6, 2) := by decide +kernel
theorem d30 : decode yB 30 = .ok (.i2b, 1) := by decide +kernel
theorem d31 : decode yB 31 = .ok (.bastore, 1) := by decide +kernel
theorem d32 : decode yB 32 = .ok (.iinc 1 1, 3) := by decide +kernel
theorem d35 : decode yB 35 = .ok (.iinc 3 1, 3) := by decide +kernel
theorem d38 : decode yB 38 = .ok (.iinc 5 1, 3) := by decide +kernel
theorem d41 : decode yB 41 = .ok (.goto (-38), 3) := by decide +kernel
theorem d44 : decode yB 44 = .ok (.iload 4, 2) := by decide +kernel
theorem d46 : decode yB 46 = .ok (.ireturn, 1) := by decide +kernel
def site : List Cond := []
def tab : Cond := tabOf yN yB 7 (some .int) site
def P (b : Addr) (A : Cell) (d : Addr) (B : Cell) (o q len : Nat) (args : Array Value) (s : State) : Prop := args = #[.ref b, .int (Int32.ofNat o), .ref d, .int (Int32.ofNat q), .int (Int32.ofNat len)] ∧ Ch b A s ∧ Arr .byte d B s ∧ b ≠ d ∧ o + len ≤ A.slots.size ∧ q + len ≤ B.slots.size ∧ ∀ i, i < len → ¬ 255 < cv A (o + i)
def E (b : Addr) (A : Cell) (d : Addr) (B : Cell) (o q len : Nat) (r : Option Value) (s u : State) : Prop := r = some (.int (Int32.ofNat len)) ∧ ∃ B', Put d B' s u ∧ Laid B B' q (q + len) (fun j => Value.int (lo8 (cv A (o + (j - q)))))
/-- no char of the range above 255: len; the places written hold each char's low byte -/
theorem law (l : Launch) (b : Addr) (A : Cell) (d : Addr) (B : Cell) (o q len : Nat) : Law l yN 5 5 0 0 yB 7 (some .int) site (P b A d B o q len) (E b A d B o q len) (copyLocs d q len) 0 0 := by
  refine Law.of_walk (plainFor_of_name (by decide +kernel)) (by decide +kernel) (by decide +kernel) (by decide) (fun _ _ h => by rw [h.1]; rfl) (fun _ U U' hal hh h => ⟨h.1, h.2.1.mv hal hh, h.2.2.1.mv hal hh, h.2.2.2⟩) (fun r U U' V V' h1 hal h2 h => ⟨h.1, h.2.elim fun B' q => ⟨B', q.1.mv h1 h2, q.2⟩⟩) ?_
  intro p e s m args below meth c s₁ X0 hexec hbytes hml hret hlk hnm hown hh0 W hP
  obtain ⟨rfl, hA, hB, hne, l1, l2, hp⟩ := hP
  have c1 : Steps p.tables e below (s₁.setTop (entryFrame m #[.ref b, .int (Int32.ofNat o), .ref d, .int (Int32.ofNat q), .int (Int32.ofNat len)] 7)) (s₁.setTop (mkF m 0 #[.val (.ref b), .val (.int (Int32.ofNat o)), .val (.ref d), .val (.int (Int32.ofNat q)), .val (.int (Int32.ofNat len)), .unset, .unset] [])) := entry rfl
  have hA0 := hA.1.mv X0.warmed.alike hh0
  have hB0 := hB.mv X0.warmed.alike hh0
  have a31 := hA.1.2.2.2
  have c2 : Steps p.tables e below (s₁.setTop (entryFrame m #[.ref b, .int (Int32.ofNat o), .ref d, .int (Int32.ofNat q), .int (Int32.ofNat len)] 7)) (s₁.setTop (mkF m 3 #[.val (.ref b), .val (.int (Int32.ofNat o)), .val (.ref d), .val (.int (Int32.ofNat q)), .val (.int (Int32.ofNat len)), .val (.int 0), .unset] [])) := c1.trans (by
    refine iconstV X0.here hexec rfl 0 (hb hbytes d0) (by decide) ?_
    refine XS.istore X0.here hexec rfl (hb hbytes d1) rfl rfl ?_
    exact Steps.refl _)
  have loop : ∀ (r i : Nat), i + r = len → ∀ (z : Slot), (z = .unset ∨ ∃ w, z = .val w ∧ w.category = 1) → ∀ (Tl : State) (Bk : Cell), Stand p l e { frames := 0, locals := 0, cells := 0, slots := 0 } s m #[.ref b, .int (Int32.ofNat o), .ref d, .int (Int32.ofNat q), .int (Int32.ofNat len)] below meth c Tl ([] ++ copyLocs d q i) 0 0 → Put d Bk s₁ Tl → Laid B Bk q (q + i) (fun j => Value.int (lo8 (cv A (o + (j - q))))) →
      Steps p.tables e below (s₁.setTop (entryFrame m #[.ref b, .int (Int32.ofNat o), .ref d, .int (Int32.ofNat q), .int (Int32.ofNat len)] 7)) (Tl.setTop (mkF m 3 #[.val (.ref b), .val (.int (Int32.ofNat (o + i))), .val (.ref d), .val (.int (Int32.ofNat (q + i))), .val (.int (Int32.ofNat len)), .val (.int (Int32.ofNat i)), z] [])) → ∃ (T' : State) (B' : Cell) (z' : Slot), Stand p l e { frames := 0, locals := 0, cells := 0, slots := 0 } s m #[.ref b, .int (Int32.ofNat o), .ref d, .int (Int32.ofNat q), .int (Int32.ofNat len)] below meth c T' ([] ++ copyLocs d q len) 0 0 ∧ Put d B' s₁ T' ∧ Laid B B' q (q + len) (fun j => Value.int (lo8 (cv A (o + (j - q))))) ∧
      Steps p.tables e below (s₁.setTop (entryFrame m #[.ref b, .int (Int32.ofNat o), .ref d, .int (Int32.ofNat q), .int (Int32.ofNat len)] 7)) (T'.setTop (mkF m 3 #[.val (.ref b), .val (.int (Int32.ofNat (o + len))), .val (.ref d), .val (.int (Int32.ofNat (q + len))), .val (.int (Int32.ofNat len)), .val (.int (Int32.ofNat len)), z'] [])) := by
    intro r
    induction r with
    | zero =>
      intro i hi z hz Tl Bk Xl pl fl cl
      have hil : i = len := by omega
      rw [hil] at Xl fl cl
      exact ⟨Tl, Bk, z, Xl, pl, fl, cl⟩
    | succ r ih =>
      intro i hi z hz Tl Bk Xl pl fl cl
      have all := X0.warmed.alike.symm.trans Xl.warmed.alike
      have hAl := hA0.keep all (pl.other hne hA0.1)
      have hBk := hB0.like all pl.1 fl.1 fl.2.1 fl.2.2.1
      have hlt : q + i < Bk.slots.size := by rw [fl.2.2.1]; omega
      have c3 : Steps p.tables e below (s₁.setTop (entryFrame m #[.ref b, .int (Int32.ofNat o), .ref d, .int (Int32.ofNat q), .int (Int32.ofNat len)] 7)) (Tl.setTop (mkF m 12 #[.val (.ref b), .val (.int (Int32.ofNat (o + i))), .val (.ref d), .val (.int (Int32.ofNat (q + i))), .val (.int (Int32.ofNat len)), .val (.int (Int32.ofNat i)), z] [.int (Int32.ofNat (o + i)), .ref b])) := cl.trans (by
        refine XS.iload Xl.here hexec rfl (hb hbytes d3) rfl ?_
        refine XS.iload Xl.here hexec rfl (hb hbytes d5) rfl ?_
        refine XS.icmpNo Xl.here hexec rfl (hb hbytes d7) rfl (ii_ge_f (lt32 (by omega) (by omega))) ?_
        refine XS.aloadN Xl.here hexec rfl (hb hbytes d10) rfl rfl ?_
        refine XS.iloadN Xl.here hexec rfl (hb hbytes d11) rfl ?_
        exact Steps.refl _)
      have c4 : Steps p.tables e below (s₁.setTop (entryFrame m #[.ref b, .int (Int32.ofNat o), .ref d, .int (Int32.ofNat q), .int (Int32.ofNat len)] 7)) (Tl.setTop (mkF m 13 #[.val (.ref b), .val (.int (Int32.ofNat (o + i))), .val (.ref d), .val (.int (Int32.ofNat (q + i))), .val (.int (Int32.ofNat len)), .val (.int (Int32.ofNat i)), z] [.int (cv A (o + i))])) := c3.trans (by
        refine Xl.aget hexec hAl rfl (hA.get (i := o + i) (by omega)) rfl rfl (hb hbytes d12) ?_
        exact Steps.refl _)
      have c5 : Steps p.tables e below (s₁.setTop (entryFrame m #[.ref b, .int (Int32.ofNat o), .ref d, .int (Int32.ofNat q), .int (Int32.ofNat len)] 7)) (Tl.setTop (mkF m 15 #[.val (.ref b), .val (.int (Int32.ofNat (o + i))), .val (.ref d), .val (.int (Int32.ofNat (q + i))), .val (.int (Int32.ofNat len)), .val (.int (Int32.ofNat i)), .val (.int (cv A (o + i)))] [])) := c4.trans (by
        refine XS.istoreS Xl.here hexec rfl (hb hbytes d13) rfl rfl hz ?_
        exact Steps.refl _)
      have c6 : Steps p.tables e below (s₁.setTop (entryFrame m #[.ref b, .int (Int32.ofNat o), .ref d, .int (Int32.ofNat q), .int (Int32.ofNat len)] 7)) (Tl.setTop (mkF m 31 #[.val (.ref b), .val (.int (Int32.ofNat (o + i))), .val (.ref d), .val (.int (Int32.ofNat (q + i))), .val (.int (Int32.ofNat len)), .val (.int (Int32.ofNat i)), .val (.int (cv A (o + i)))] [.int (lo8 (cv A (o + i))), .int (Int32.ofNat (q + i)), .ref d])) := c5.trans (by
        refine XS.iload Xl.here hexec rfl (hb hbytes d15) rfl ?_
        refine sipushV Xl.here hexec rfl 255 (hb hbytes d17) (by decide) ?_
        refine XS.icmpYes Xl.here hexec rfl (pc0 := 20) rfl (hb hbytes d20) rfl (ii_le_t (hp i (by omega))) (by decide) rfl ?_
        refine XS.aloadN Xl.here hexec rfl (hb hbytes d26) rfl rfl ?_
        refine XS.iloadN Xl.here hexec rfl (hb hbytes d27) rfl ?_
        refine XS.iload Xl.here hexec rfl (hb hbytes d28) rfl ?_
        refine i2b Xl.here hexec rfl (hb hbytes d30) rfl ?_
        exact Steps.refl _)
      obtain ⟨T7, X7, p7, st7⟩ := Xl.aput hexec hBk rfl hlt rfl (fits_lo8 (cv A (o + i))) (g := (mkF m 31 #[.val (.ref b), .val (.int (Int32.ofNat (o + i))), .val (.ref d), .val (.int (Int32.ofNat (q + i))), .val (.int (Int32.ofNat len)), .val (.int (Int32.ofNat i)), .val (.int (cv A (o + i)))] [.int (lo8 (cv A (o + i))), .int (Int32.ofNat (q + i)), .ref d])) rfl (rest := []) rfl (hb hbytes d31)
      have c8 : Steps p.tables e below (s₁.setTop (entryFrame m #[.ref b, .int (Int32.ofNat o), .ref d, .int (Int32.ofNat q), .int (Int32.ofNat len)] 7)) (T7.setTop (mkF m 32 #[.val (.ref b), .val (.int (Int32.ofNat (o + i))), .val (.ref d), .val (.int (Int32.ofNat (q + i))), .val (.int (Int32.ofNat len)), .val (.int (Int32.ofNat i)), .val (.int (cv A (o + i)))] [])) := c6.trans (st7 _ (Steps.refl _))
      have c9 : Steps p.tables e below (s₁.setTop (entryFrame m #[.ref b, .int (Int32.ofNat o), .ref d, .int (Int32.ofNat q), .int (Int32.ofNat len)] 7)) (T7.setTop (mkF m 3 #[.val (.ref b), .val (.int (Int32.ofNat (o + i) + 1)), .val (.ref d), .val (.int (Int32.ofNat (q + i) + 1)), .val (.int (Int32.ofNat len)), .val (.int (Int32.ofNat i + 1)), .val (.int (cv A (o + i)))] [])) := c8.trans (by
        refine iincV X7.here hexec rfl 1 (hb hbytes d32) (by decide) rfl rfl ?_
        refine iincV X7.here hexec rfl 1 (hb hbytes d35) (by decide) rfl rfl ?_
        refine iincV X7.here hexec rfl 1 (hb hbytes d38) (by decide) rfl rfl ?_
        refine XS.goto X7.here hexec rfl (pc0 := 41) rfl (hb hbytes d41) (by decide) rfl ?_
        exact Steps.refl _)
      have c10 : Steps p.tables e below (s₁.setTop (entryFrame m #[.ref b, .int (Int32.ofNat o), .ref d, .int (Int32.ofNat q), .int (Int32.ofNat len)] 7)) (T7.setTop (mkF m 3 #[.val (.ref b), .val (.int (Int32.ofNat (o + (i + 1)))), .val (.ref d), .val (.int (Int32.ofNat (q + (i + 1)))), .val (.int (Int32.ofNat len)), .val (.int (Int32.ofNat (i + 1))), .val (.int (cv A (o + i)))] [])) := by
        have := c9
        rw [succ32, succ32, succ32] at this
        exact this
      exact ih (i + 1) (by omega) _ (Or.inr ⟨_, rfl, rfl⟩) T7 _ (by rw [copyLocs_step, ← List.append_assoc]; exact X7) (pl.trans p7) (fl.step (by omega) hlt (by simp)) c10
  obtain ⟨T9, B9, z9, X9, p9, f9, g9⟩ := loop len 0 (by omega) .unset (Or.inl rfl) s₁ B (by simpa [copyLocs] using X0) ⟨hB0.1, fun _ _ => rfl, rfl⟩ (Laid.zero _ _ _) c2
  have c11 : Steps p.tables e below (s₁.setTop (entryFrame m #[.ref b, .int (Int32.ofNat o), .ref d, .int (Int32.ofNat q), .int (Int32.ofNat len)] 7)) (T9.setTop (mkF m 46 #[.val (.ref b), .val (.int (Int32.ofNat (o + len))), .val (.ref d), .val (.int (Int32.ofNat (q + len))), .val (.int (Int32.ofNat len)), .val (.int (Int32.ofNat len)), z9] [.int (Int32.ofNat len)])) := g9.trans (by
    refine XS.iload X9.here hexec rfl (hb hbytes d3) rfl ?_
    refine XS.iload X9.here hexec rfl (hb hbytes d5) rfl ?_
    refine XS.icmpYes X9.here hexec rfl (pc0 := 7) rfl (hb hbytes d7) rfl (ii_ge_t (nlt32 (by omega) (Nat.le_refl _))) (by decide) rfl ?_
    refine XS.iload X9.here hexec rfl (hb hbytes d44) rfl ?_
    exact Steps.refl _)
  exact ⟨T9, some (.int (Int32.ofNat len)), _, _, _, X9, by simp, rfl, rfl, (fun h => by cases h), ⟨rfl, B9, p9.from hh0, f9⟩, fun fs hl => c11.trans (X9.ireturnOut hexec hret rfl (Or.inl rfl) (hb hbytes d46) hl)⟩
end Cmp5
namespace Cmp3
def yN : MethodName := ⟨"java/lang/StringUTF16", "compress", "([CII)[B"⟩
abbrev yB : ByteArray := jdk_52_method_16_code
theorem d0 : decode yB 0 = .ok (.iload_n 2, 1) := by decide +kernel
theorem d1 : decode yB 1 = .ok (.newarray .byte, 2) := by decide +kernel
theorem d3 : decode yB 3 = .ok (.astore_n 3, 1) := by decide +kernel
theorem d4 : decode yB 4 = .ok (.aload_n 0, 1) := by decide +kernel
theorem d5 : decode yB 5 = .ok (.iload_n 1, 1) := by decide +kernel
theorem d6 : decode yB 6 = .ok (.aload_n 3, 1) := by decide +kernel
theorem d7 : decode yB 7 = .ok (.iconst 0, 1) := by decide +kernel
theorem d8 : decode yB 8 = .ok (.iload_n 2, 1) := by decide +kernel
theorem d9 : decode yB 9 = .ok (.invokestatic 115, 3) := by decide +kernel
theorem d12 : decode yB 12 = .ok (.istore 4, 2) := by decide +kernel
theorem d14 : decode yB 14 = .ok (.iload 4, 2) := by decide +kernel
theorem d16 : decode yB 16 = .ok (.iload_n 2, 1) := by decide +kernel
theorem d17 : decode yB 17 = .ok (.if_icmp (.eq) 40, 3) := by decide +kernel
theorem d57 : decode yB 57 = .ok (.aload_n 3, 1) := by decide +kernel
theorem d58 : decode yB 58 = .ok (.areturn, 1) := by decide +kernel
def site : List Cond := [.arrayClass .byte, Cmp5.tab] ++ staticW U16 115 Cmp5.yN
def tab : Cond := tabOf yN yB 6 (some (.array .byte)) site
def P (b : Addr) (A : Cell) (o len : Nat) (args : Array Value) (s : State) : Prop := args = #[.ref b, .int (Int32.ofNat o), .int (Int32.ofNat len)] ∧ Ch b A s ∧ o + len ≤ A.slots.size ∧ len ≤ 536870912 ∧ ∀ i, i < len → ¬ 255 < cv A (o + i)
def E (b : Addr) (A : Cell) (o len : Nat) (r : Option Value) (s u : State) : Prop := NewArr .byte "[B" len (fun j => .int (lo8 (cv A (o + j)))) r s u ∧ u.heap.size = s.heap.size + 1
/-- no char of the range above 255: a new byte[] of their low bytes -/
theorem law (l : Launch) (b : Addr) (A : Cell) (o len : Nat) : Law l yN 3 3 1 18 yB 6 (some (.array .byte)) site (P b A o len) (E b A o len) [] 1 len := by
  refine Law.of_walk (plainFor_of_name (by decide +kernel)) (by decide +kernel) (by decide +kernel) (by decide) (fun _ _ h => by rw [h.1]; rfl) (fun _ U U' hal hh h => ⟨h.1, h.2.1.mv hal hh, h.2.2⟩) (fun r U U' V V' h1 hal h2 h => ⟨NewArr.mv r U U' V V' h1 hal h2 h.1, by rw [h1, h2]; exact h.2⟩) ?_
  intro p e s m args below meth c s₁ X0 hexec hbytes hml hret hlk hnm hown hh0 W hP
  obtain ⟨rfl, hA, l1, l2, hp⟩ := hP
  have a31 := hA.1.2.2.2
  have c1 : Steps p.tables e below (s₁.setTop (entryFrame m #[.ref b, .int (Int32.ofNat o), .int (Int32.ofNat len)] 6)) (s₁.setTop (mkF m 0 #[.val (.ref b), .val (.int (Int32.ofNat o)), .val (.int (Int32.ofNat len)), .unset, .unset, .unset] [])) := entry rfl
  have c2 : Steps p.tables e below (s₁.setTop (entryFrame m #[.ref b, .int (Int32.ofNat o), .int (Int32.ofNat len)] 6)) (s₁.setTop (mkF m 1 #[.val (.ref b), .val (.int (Int32.ofNat o)), .val (.int (Int32.ofNat len)), .unset, .unset, .unset] [.int (Int32.ofNat len)])) := c1.trans (by
    refine XS.iloadN X0.here hexec rfl (hb hbytes d0) rfl ?_
    exact Steps.refl _)
  obtain ⟨T3, B3, X3, ba3, bs3, bv3, bh3, bf3, st3⟩ := X0.anew hexec (atype := .byte) (wk W (.arrayClass .byte)) rfl (by show len * 1 ≤ _; omega) (by omega) (g := (mkF m 1 #[.val (.ref b), .val (.int (Int32.ofNat o)), .val (.int (Int32.ofNat len)), .unset, .unset, .unset] [.int (Int32.ofNat len)])) rfl (hb hbytes d1) (rest := []) rfl (Nat.le_refl _) (by show 0 + len ≤ len; omega)
  rw [hh0] at ba3 st3
  have kp3 : XT.Kept s T3 := (XT.Kept.of_eq hh0).push bh3
  have hA3 := hA.keep X3.warmed.alike (kp3 _ _ hA.1.1)
  have hne : b ≠ s.heap.size := hA.1.ne
  have c4 : Steps p.tables e below (s₁.setTop (entryFrame m #[.ref b, .int (Int32.ofNat o), .int (Int32.ofNat len)] 6)) (T3.setTop (mkF m 3 #[.val (.ref b), .val (.int (Int32.ofNat o)), .val (.int (Int32.ofNat len)), .unset, .unset, .unset] [.ref s.heap.size])) := c2.trans (st3 _ (Steps.refl _))
  have c5 : Steps p.tables e below (s₁.setTop (entryFrame m #[.ref b, .int (Int32.ofNat o), .int (Int32.ofNat len)] 6)) (T3.setTop (mkF m 9 #[.val (.ref b), .val (.int (Int32.ofNat o)), .val (.int (Int32.ofNat len)), .val (.ref s.heap.size), .unset, .unset] [.int (Int32.ofNat len), .int 0, .ref s.heap.size, .int (Int32.ofNat o), .ref b])) := c4.trans (by
    refine XS.astoreN X3.here hexec rfl (hb hbytes d3) rfl rfl rfl ?_
    refine XS.aloadN X3.here hexec rfl (hb hbytes d4) rfl rfl ?_
    refine XS.iloadN X3.here hexec rfl (hb hbytes d5) rfl ?_
    refine XS.aloadN X3.here hexec rfl (hb hbytes d6) rfl rfl ?_
    refine iconstV X3.here hexec rfl 0 (hb hbytes d7) (by decide) ?_
    refine XS.iloadN X3.here hexec rfl (hb hbytes d8) rfl ?_
    exact Steps.refl _)
  obtain ⟨v6, T6, X6, E6, g6⟩ := X3.callS hexec (Cmp5.law l b A s.heap.size B3 o 0 len) hown (wks W (staticW U16 115 Cmp5.yN)) (wk W Cmp5.tab) (W := 0) (Nat.le_of_ble_eq_true rfl) (Nat.le_of_ble_eq_true rfl) (Nat.le_refl _) (by show 0 + len + 0 ≤ len; omega) (g := (mkF m 9 #[.val (.ref b), .val (.int (Int32.ofNat o)), .val (.int (Int32.ofNat len)), .val (.ref s.heap.size), .unset, .unset] [.int (Int32.ofNat len), .int (Int32.ofNat 0), .ref s.heap.size, .int (Int32.ofNat o), .ref b])) rfl (by rw [hml]; rfl) c5 (argsL := [.ref b, .int (Int32.ofNat o), .ref s.heap.size, .int (Int32.ofNat 0), .int (Int32.ofNat len)]) (rest := []) rfl rfl (by show 2 * 0 + 0 ≤ _; decide) (hb hbytes d9) (⟨rfl, hA3, ba3, hne, l1, by rw [bs3]; simp, hp⟩)
  obtain ⟨rfl, B6, p6, f6⟩ := E6
  have c7 : Steps p.tables e below (s₁.setTop (entryFrame m #[.ref b, .int (Int32.ofNat o), .int (Int32.ofNat len)] 6)) (T6.setTop (mkF m 12 #[.val (.ref b), .val (.int (Int32.ofNat o)), .val (.int (Int32.ofNat len)), .val (.ref s.heap.size), .unset, .unset] [.int (Int32.ofNat len)])) := g6
  have c8 : Steps p.tables e below (s₁.setTop (entryFrame m #[.ref b, .int (Int32.ofNat o), .int (Int32.ofNat len)] 6)) (T6.setTop (mkF m 58 #[.val (.ref b), .val (.int (Int32.ofNat o)), .val (.int (Int32.ofNat len)), .val (.ref s.heap.size), .val (.int (Int32.ofNat len)), .unset] [.ref s.heap.size])) := c7.trans (by
    refine XS.istore X6.here hexec rfl (hb hbytes d12) rfl rfl ?_
    refine XS.iload X6.here hexec rfl (hb hbytes d14) rfl ?_
    refine XS.iloadN X6.here hexec rfl (hb hbytes d16) rfl ?_
    refine XS.icmpYes X6.here hexec rfl (pc0 := 17) rfl (hb hbytes d17) rfl (ii_eq_t rfl) (by decide) rfl ?_
    refine XS.aloadN X6.here hexec rfl (hb hbytes d57) rfl rfl ?_
    exact Steps.refl _)
  have X8 := X6.wide (L' := []) (cells' := 1) (slots' := len) (fun x hx hlt => by
    simp only [List.nil_append, copyLocs, List.mem_map, List.mem_range] at hx
    obtain ⟨i, -, rfl⟩ := hx
    exact absurd hlt (Nat.lt_irrefl _)) (Nat.le_refl _) (by omega)
  exact ⟨T6, some (.ref s.heap.size), _, _, _, X8, rfl, rfl, rfl, (fun h => by cases h), ⟨⟨rfl, B6, ba3.like (X3.warmed.alike.symm.trans X6.warmed.alike) p6.1 f6.1 f6.2.1 f6.2.2.1, f6.2.1.trans bv3, by rw [X6.warmed.alike.findClass, f6.1]; exact bf3, by rw [f6.2.2.1, bs3]; simp, fun j hj => by rw [f6.2.2.2 j, if_pos (by omega)]; rfl, kp3.put p6 (Nat.le_refl _)⟩, by rw [p6.2.2, bh3, hh0]; simp⟩, fun fs hl => c8.trans (X8.areturnOut hexec rfl hret rfl (hb hbytes d58) hl)⟩
end Cmp3
namespace CodL
def yN : MethodName := ⟨"java/lang/StringUTF16", "coderFromArrayLen", "([BI)B"⟩
abbrev yB : ByteArray := jdk_52_method_15_code
theorem d0 : decode yB 0 = .ok (.iload_n 1, 1) := by decide +kernel
theorem d1 : decode yB 1 = .ok (.aload_n 0, 1) := by decide +kernel
theorem d2 : decode yB 2 = .ok (.arraylength, 1) := by decide +kernel
theorem d3 : decode yB 3 = .ok (.isub, 1) := by decide +kernel
theorem d4 : decode yB 4 = .ok (.bipush 31, 2) := by decide +kernel
theorem d6 : decode yB 6 = .ok (.iushr, 1) := by decide +kernel
theorem d7 : decode yB 7 = .ok (.i2b, 1) := by decide +kernel
theorem d8 : decode yB 8 = .ok (.ireturn, 1) := by decide +kernel
def site : List Cond := []
def tab : Cond := tabOf yN yB 2 (some .byte) site
def P (d : Addr) (B : Cell) (args : Array Value) (s : State) : Prop := args = #[.ref d, .int (Int32.ofNat B.slots.size)] ∧ Arr .byte d B s
def E (r : Option Value) (s u : State) : Prop := XT.PureE (some (.int 0)) r s u
/-- an array as long as the number of chars: LATIN1 -/
theorem law (l : Launch) (d : Addr) (B : Cell) : Law l yN 2 2 0 0 yB 2 (some .byte) site (P d B) E [] 0 0 := by
  refine Law.of_walk (plainFor_of_name (by decide +kernel)) (by decide +kernel) (by decide +kernel) (by decide) (fun _ _ h => by rw [h.1]; rfl) (fun _ U U' hal hh h => ⟨h.1, h.2.mv hal hh⟩) (fun r U U' V V' h1 hal h2 h => XT.PureE.mv r U U' V V' h1 hal h2 h) ?_
  intro p e s m args below meth c s₁ X0 hexec hbytes hml hret hlk hnm hown hh0 W hP
  obtain ⟨rfl, hB⟩ := hP
  have hB0 := hB.mv X0.warmed.alike hh0
  have c1 : Steps p.tables e below (s₁.setTop (entryFrame m #[.ref d, .int (Int32.ofNat B.slots.size)] 2)) (s₁.setTop (mkF m 0 #[.val (.ref d), .val (.int (Int32.ofNat B.slots.size))] [])) := entry rfl
  have c2 : Steps p.tables e below (s₁.setTop (entryFrame m #[.ref d, .int (Int32.ofNat B.slots.size)] 2)) (s₁.setTop (mkF m 2 #[.val (.ref d), .val (.int (Int32.ofNat B.slots.size))] [.ref d, .int (Int32.ofNat B.slots.size)])) := c1.trans (by
    refine XS.iloadN X0.here hexec rfl (hb hbytes d0) rfl ?_
    refine XS.aloadN X0.here hexec rfl (hb hbytes d1) rfl rfl ?_
    exact Steps.refl _)
  have c3 : Steps p.tables e below (s₁.setTop (entryFrame m #[.ref d, .int (Int32.ofNat B.slots.size)] 2)) (s₁.setTop (mkF m 8 #[.val (.ref d), .val (.int (Int32.ofNat B.slots.size))] [.int (lo8 (ushr (Int32.ofNat B.slots.size - Int32.ofNat B.slots.size) 31))])) := c2.trans (by
    refine X0.alen hexec hB0 rfl rfl (hb hbytes d2) ?_
    refine XS.isub X0.here hexec rfl (hb hbytes d3) rfl ?_
    refine bipushV X0.here hexec rfl 31 (hb hbytes d4) (by decide) ?_
    refine iushr X0.here hexec rfl (hb hbytes d6) rfl ?_
    refine i2b X0.here hexec rfl (hb hbytes d7) rfl ?_
    exact Steps.refl _)
  have e0 : lo8 (ushr (Int32.ofNat B.slots.size - Int32.ofNat B.slots.size) 31) = 0 := by rw [Int32.sub_self]; decide
  rw [e0] at c3
  exact ⟨s₁, some (.int 0), _, _, _, X0, rfl, rfl, rfl, (fun h => by cases h), ⟨rfl, hh0⟩, fun fs hl => c3.trans (X0.ireturnOut hexec hret rfl (Or.inr (Or.inr (Or.inl rfl))) (hb hbytes d8) hl)⟩
end CodL
/-- the String at a is Latin-1 over a new byte[] (the heap's one new cell): the low bytes of the len chars of A from o on; every cell but a is kept -/
def Got (a : Addr) (D : Cell) (fV fC : Field) (A : Cell) (o len : Nat) (r : Option Value) (s u : State) : Prop := r = none ∧ ∃ D' V : Cell, Blank "java/lang/String" a D' u ∧ Same D D' [fV.slot, fC.slot] ∧ D'.slots[fV.slot]? = some (.ref s.heap.size) ∧ D'.slots[fC.slot]? = some (.int 0) ∧ Arr .byte s.heap.size V u ∧ V.vm = .none ∧ u.vm.findClass "[B" = some V.cls ∧ V.slots.size = len ∧ (∀ j, j < len → V.slots[j]? = some (.int (lo8 (cv A (o + j))))) ∧ (∀ (y : Addr) (c : Cell), y ≠ a → s.heap[y]? = some c → u.heap[y]? = some c) ∧ u.heap.size = s.heap.size + 1
theorem Got.mv {a : Addr} {D A : Cell} {fV fC : Field} {o len : Nat} : ∀ r (U U' V V' : State), U'.heap = U.heap → V.vm.Alike V'.vm → V'.heap = V.heap → Got a D fV fC A o len r U V → Got a D fV fC A o len r U' V' :=
  fun r U U' V V' h1 hal h2 ⟨e0, D', X, a1, a2, a3, a4, a5, a6, a7, a8, a9, a10, a11⟩ => ⟨e0, D', X, a1.mv hal h2, a2, by rw [h1]; exact a3, a4, by rw [h1]; exact a5.mv hal h2, a6, by rw [hal.findClass]; exact a7, a8, a9, by rw [h1, h2]; exact a10, by rw [h1, h2]; exact a11⟩
namespace New4
def yN : MethodName := ⟨"java/lang/String", "<init>", "([CIILjava/lang/Void;)V"⟩
abbrev yB : ByteArray := jdk_42_method_149_code
theorem d0 : decode yB 0 = .ok (.aload_n 0, 1) := by decide +kernel
theorem d1 : decode yB 1 = .ok (.invokespecial 1, 3) := by decide +kernel
theorem d4 : decode yB 4 = .ok (.iload_n 3, 1) := by decide +kernel
theorem d5 : decode yB 5 = .ok (.ifCond (.ne) 22, 3) := by decide +kernel
theorem d27 : decode yB 27 = .ok (.getstatic 38, 3) := by decide +kernel
theorem d30 : decode yB 30 = .ok (.ifCond (.eq) 28, 3) := by decide +kernel
theorem d33 : decode yB 33 = .ok (.aload_n 1, 1) := by decide +kernel
theorem d34 : decode yB 34 = .ok (.iload_n 2, 1) := by decide +kernel
theorem d35 : decode yB 35 = .ok (.iload_n 3, 1) := by decide +kernel
theorem d36 : decode yB 36 = .ok (.invokestatic 177, 3) := by decide +kernel
theorem d39 : decode yB 39 = .ok (.astore 5, 2) := by decide +kernel
theorem d41 : decode yB 41 = .ok (.aload_n 0, 1) := by decide +kernel
theorem d42 : decode yB 42 = .ok (.aload 5, 2) := by decide +kernel
theorem d44 : decode yB 44 = .ok (.iload_n 3, 1) := by decide +kernel
theorem d45 : decode yB 45 = .ok (.invokestatic 47, 3) := by decide +kernel
theorem d48 : decode yB 48 = .ok (.putfield 15, 3) := by decide +kernel
theorem d51 : decode yB 51 = .ok (.aload_n 0, 1) := by decide +kernel
theorem d52 : decode yB 52 = .ok (.aload 5, 2) := by decide +kernel
theorem d54 : decode yB 54 = .ok (.putfield 9, 3) := by decide +kernel
theorem d57 : decode yB 57 = .ok (.return_, 1) := by decide +kernel
def site : List Cond := [.fieldLink "java/lang/String" 38 "java/lang/String" "COMPACT_STRINGS" "Z", Cmp3.tab, CodL.tab, .laysFinal "java/lang/String" "java/lang/String" "value" "[B", .fieldLink "java/lang/String" 9 "java/lang/String" "value" "[B", .laysFinal "java/lang/String" "java/lang/String" "coder" "B", .fieldLink "java/lang/String" 15 "java/lang/String" "coder" "B"] ++ objW "java/lang/String" 1 ++ staticW "java/lang/String" 177 Cmp3.yN ++ staticW "java/lang/String" 47 CodL.yN
def tab : Cond := tabOf yN yB 6 none site
def P (a : Addr) (D : Cell) (fV fC : Field) (b : Addr) (A : Cell) (z : Int32) (o len : Nat) (args : Array Value) (s : State) : Prop := args = #[.ref a, .ref b, .int (Int32.ofNat o), .int (Int32.ofNat len), .null] ∧ Blank "java/lang/String" a D s ∧ Found "java/lang/String" "value" "[B" fV s ∧ Found "java/lang/String" "coder" "B" fC s ∧ Ch b A s ∧ StaticIs s "java/lang/String" "COMPACT_STRINGS" "Z" (.int z) ∧ ¬ z = 0 ∧ 0 < len ∧ o + len ≤ A.slots.size ∧ len ≤ 536870912 ∧ ∀ i, i < len → ¬ 255 < cv A (o + i)
def E (a : Addr) (D : Cell) (fV fC : Field) (A : Cell) (o len : Nat) (r : Option Value) (s u : State) : Prop := Got a D fV fC A o len r s u
/-- len > 0, no char of the range above 255: a Latin-1 String of their low bytes -/
theorem law (l : Launch) (a : Addr) (D : Cell) (fV fC : Field) (b : Addr) (A : Cell) (z : Int32) (o len : Nat) : Law l yN 5 4 2 35 yB 6 none site (P a D fV fC b A z o len) (E a D fV fC A o len) [⟨a, fC.slot⟩, ⟨a, fV.slot⟩] 1 len := by
  refine Law.of_walk (plainFor_of_name (by decide +kernel)) (by decide +kernel) (by decide +kernel) (by decide) (fun _ _ h => by rw [h.1]; rfl) (fun _ U U' hal hh h => ⟨h.1, h.2.1.mv hal hh, h.2.2.1.al hal, h.2.2.2.1.al hal, h.2.2.2.2.1.mv hal hh, h.2.2.2.2.2.1.there hal hh, h.2.2.2.2.2.2⟩) (fun r U U' V V' h1 hal h2 h => Got.mv r U U' V V' h1 hal h2 h) ?_
  intro p e s m args below meth c s₁ X0 hexec hbytes hml hret hlk hnm hown hh0 W hP
  obtain ⟨rfl, hB, f1, f2, hA, s1, hz, l0, l1, l2, hp⟩ := hP
  have a31 := hA.1.2.2.2
  have c1 : Steps p.tables e below (s₁.setTop (entryFrame m #[.ref a, .ref b, .int (Int32.ofNat o), .int (Int32.ofNat len), .null] 6)) (s₁.setTop (mkF m 0 #[.val (.ref a), .val (.ref b), .val (.int (Int32.ofNat o)), .val (.int (Int32.ofNat len)), .val .null, .unset] [])) := entry rfl
  have c2 : Steps p.tables e below (s₁.setTop (entryFrame m #[.ref a, .ref b, .int (Int32.ofNat o), .int (Int32.ofNat len), .null] 6)) (s₁.setTop (mkF m 1 #[.val (.ref a), .val (.ref b), .val (.int (Int32.ofNat o)), .val (.int (Int32.ofNat len)), .val .null, .unset] [.ref a])) := c1.trans (by
    refine XS.aloadN X0.here hexec rfl (hb hbytes d0) rfl rfl ?_
    exact Steps.refl _)
  obtain ⟨T3, X3, q3, st3⟩ := X0.oinit hexec hown (wks W (objW "java/lang/String" 1)) (g := (mkF m 1 #[.val (.ref a), .val (.ref b), .val (.int (Int32.ofNat o)), .val (.int (Int32.ofNat len)), .val .null, .unset] [.ref a])) rfl (by rw [hml]; rfl) (rest := []) rfl (hb hbytes d1) (W := 0) (by show 2 * 0 + 0 ≤ _; decide) (Nat.le_of_ble_eq_true rfl) (Nat.le_of_ble_eq_true rfl)
  have hh3 := q3.trans hh0
  have c4 : Steps p.tables e below (s₁.setTop (entryFrame m #[.ref a, .ref b, .int (Int32.ofNat o), .int (Int32.ofNat len), .null] 6)) (T3.setTop (mkF m 27 #[.val (.ref a), .val (.ref b), .val (.int (Int32.ofNat o)), .val (.int (Int32.ofNat len)), .val .null, .unset] [])) := (c2.trans (st3 _ (Steps.refl _))).trans (by
    refine XS.iloadN X3.here hexec rfl (hb hbytes d4) rfl ?_
    refine XS.ifYes X3.here hexec rfl (pc0 := 5) rfl (hb hbytes d5) rfl (i0_ne_t (nz32 (by omega) l0)) (by decide) rfl ?_
    exact Steps.refl _)
  obtain ⟨T5, X5, q5, st5⟩ := X3.sget hexec hown (wk W (.fieldLink "java/lang/String" 38 "java/lang/String" "COMPACT_STRINGS" "Z")) s1 (fun _ _ h => by rw [hh3]; exact h) (g := (mkF m 27 #[.val (.ref a), .val (.ref b), .val (.int (Int32.ofNat o)), .val (.int (Int32.ofNat len)), .val .null, .unset] [])) rfl (hb hbytes d27)
  have hh5 := q5.trans hh3
  have c6 : Steps p.tables e below (s₁.setTop (entryFrame m #[.ref a, .ref b, .int (Int32.ofNat o), .int (Int32.ofNat len), .null] 6)) (T5.setTop (mkF m 30 #[.val (.ref a), .val (.ref b), .val (.int (Int32.ofNat o)), .val (.int (Int32.ofNat len)), .val .null, .unset] [.int z])) := c4.trans (st5 _ (Steps.refl _))
  have c7 : Steps p.tables e below (s₁.setTop (entryFrame m #[.ref a, .ref b, .int (Int32.ofNat o), .int (Int32.ofNat len), .null] 6)) (T5.setTop (mkF m 36 #[.val (.ref a), .val (.ref b), .val (.int (Int32.ofNat o)), .val (.int (Int32.ofNat len)), .val .null, .unset] [.int (Int32.ofNat len), .int (Int32.ofNat o), .ref b])) := c6.trans (by
    refine XS.ifNo X5.here hexec rfl (hb hbytes d30) rfl (i0_eq_f hz) ?_
    refine XS.aloadN X5.here hexec rfl (hb hbytes d33) rfl rfl ?_
    refine XS.iloadN X5.here hexec rfl (hb hbytes d34) rfl ?_
    refine XS.iloadN X5.here hexec rfl (hb hbytes d35) rfl ?_
    exact Steps.refl _)
  obtain ⟨v8, T8, X8, E8, g8⟩ := X5.callS hexec (Cmp3.law l b A o len) hown (wks W (staticW "java/lang/String" 177 Cmp3.yN)) (wk W Cmp3.tab) (W := 0) (Nat.le_of_ble_eq_true rfl) (Nat.le_of_ble_eq_true rfl) (Nat.le_refl _) (by show 0 + len ≤ len; omega) (g := (mkF m 36 #[.val (.ref a), .val (.ref b), .val (.int (Int32.ofNat o)), .val (.int (Int32.ofNat len)), .val .null, .unset] [.int (Int32.ofNat len), .int (Int32.ofNat o), .ref b])) rfl (by rw [hml]; rfl) c7 (argsL := [.ref b, .int (Int32.ofNat o), .int (Int32.ofNat len)]) (rest := []) rfl rfl (by show 2 * 0 + 0 ≤ _; decide) (hb hbytes d36) (⟨rfl, hA.mv X5.warmed.alike hh5, l1, l2, hp⟩)
  obtain ⟨e8, z8⟩ := E8
  obtain ⟨rfl, N, n1, n2, n3, n4, n5, n6⟩ := NewArr.mv _ T5 s _ _ hh5.symm (Vm.Alike.refl _) rfl e8
  rw [hh5] at z8
  have hB1 := hB.keep X8.warmed.alike (n6 _ _ hB.1)
  have hne : s.heap.size ≠ a := (Nat.ne_of_lt (Array.getElem?_eq_some_iff.mp hB.1).1).symm
  have c9 : Steps p.tables e below (s₁.setTop (entryFrame m #[.ref a, .ref b, .int (Int32.ofNat o), .int (Int32.ofNat len), .null] 6)) (T8.setTop (mkF m 39 #[.val (.ref a), .val (.ref b), .val (.int (Int32.ofNat o)), .val (.int (Int32.ofNat len)), .val .null, .unset] [.ref s.heap.size])) := g8
  have c10 : Steps p.tables e below (s₁.setTop (entryFrame m #[.ref a, .ref b, .int (Int32.ofNat o), .int (Int32.ofNat len), .null] 6)) (T8.setTop (mkF m 45 #[.val (.ref a), .val (.ref b), .val (.int (Int32.ofNat o)), .val (.int (Int32.ofNat len)), .val .null, .val (.ref s.heap.size)] [.int (Int32.ofNat N.slots.size), .ref s.heap.size, .ref a])) := by
    have hc : Steps p.tables e below (s₁.setTop (entryFrame m #[.ref a, .ref b, .int (Int32.ofNat o), .int (Int32.ofNat len), .null] 6)) (T8.setTop (mkF m 45 #[.val (.ref a), .val (.ref b), .val (.int (Int32.ofNat o)), .val (.int (Int32.ofNat len)), .val .null, .val (.ref s.heap.size)] [.int (Int32.ofNat len), .ref s.heap.size, .ref a])) := c9.trans (by
      refine XS.astore X8.here hexec rfl (hb hbytes d39) rfl rfl rfl ?_
      refine XS.aloadN X8.here hexec rfl (hb hbytes d41) rfl rfl ?_
      refine XS.aload X8.here hexec rfl (hb hbytes d42) rfl rfl ?_
      refine XS.iloadN X8.here hexec rfl (hb hbytes d44) rfl ?_
      exact Steps.refl _)
    rw [n4]; exact hc
  obtain ⟨v11, T11, X11, E11, g11⟩ := X8.callS hexec (CodL.law l s.heap.size N) hown (wks W (staticW "java/lang/String" 47 CodL.yN)) (wk W CodL.tab) (W := 1) (Nat.le_of_ble_eq_true rfl) (Nat.le_of_ble_eq_true rfl) (Nat.le_refl _) (by show 0 + len + 0 ≤ len; omega) (g := (mkF m 45 #[.val (.ref a), .val (.ref b), .val (.int (Int32.ofNat o)), .val (.int (Int32.ofNat len)), .val .null, .val (.ref s.heap.size)] [.int (Int32.ofNat N.slots.size), .ref s.heap.size, .ref a])) rfl (by rw [hml]; rfl) c10 (argsL := [.ref s.heap.size, .int (Int32.ofNat N.slots.size)]) (rest := [.ref a]) rfl rfl (by show 2 * 0 + (1 + 0) ≤ _; decide) (hb hbytes d45) (⟨rfl, n1⟩)
  obtain ⟨rfl, q11⟩ := E11
  have hB11 := hB1.mv (X8.warmed.alike.symm.trans X11.warmed.alike) q11
  have c12 : Steps p.tables e below (s₁.setTop (entryFrame m #[.ref a, .ref b, .int (Int32.ofNat o), .int (Int32.ofNat len), .null] 6)) (T11.setTop (mkF m 48 #[.val (.ref a), .val (.ref b), .val (.int (Int32.ofNat o)), .val (.int (Int32.ofNat len)), .val .null, .val (.ref s.heap.size)] [.int 0, .ref a])) := g11
  obtain ⟨T13, X13, p13, bl13, sl13, st13⟩ := X11.finit hexec hown (wk W (.fieldLink "java/lang/String" 15 "java/lang/String" "coder" "B")) (Or.inr ⟨_, (wk W (.laysFinal "java/lang/String" "java/lang/String" "coder" "B"))⟩) (Or.inl ⟨rfl, hnm⟩) f2 (Or.inl rfl) hB11 (t := .byte) (by decide +kernel) rfl (g := (mkF m 48 #[.val (.ref a), .val (.ref b), .val (.int (Int32.ofNat o)), .val (.int (Int32.ofNat len)), .val .null, .val (.ref s.heap.size)] [.int 0, .ref a])) rfl (rest := []) rfl (hb hbytes d48)
  have c14 : Steps p.tables e below (s₁.setTop (entryFrame m #[.ref a, .ref b, .int (Int32.ofNat o), .int (Int32.ofNat len), .null] 6)) (T13.setTop (mkF m 54 #[.val (.ref a), .val (.ref b), .val (.int (Int32.ofNat o)), .val (.int (Int32.ofNat len)), .val .null, .val (.ref s.heap.size)] [.ref s.heap.size, .ref a])) := (c12.trans (st13 _ (Steps.refl _))).trans (by
    refine XS.aloadN X13.here hexec rfl (hb hbytes d51) rfl rfl ?_
    refine XS.aload X13.here hexec rfl (hb hbytes d52) rfl rfl ?_
    exact Steps.refl _)
  obtain ⟨T15, X15, p15, bl15, sl15, st15⟩ := X13.finit hexec hown (wk W (.fieldLink "java/lang/String" 9 "java/lang/String" "value" "[B")) (Or.inr ⟨_, (wk W (.laysFinal "java/lang/String" "java/lang/String" "value" "[B"))⟩) (Or.inl ⟨rfl, hnm⟩) f1 (Or.inl rfl) bl13 (t := (.array .byte)) (by decide +kernel) rfl (g := (mkF m 54 #[.val (.ref a), .val (.ref b), .val (.int (Int32.ofNat o)), .val (.int (Int32.ofNat len)), .val .null, .val (.ref s.heap.size)] [.ref s.heap.size, .ref a])) rfl (rest := []) rfl (hb hbytes d54)
  have c16 : Steps p.tables e below (s₁.setTop (entryFrame m #[.ref a, .ref b, .int (Int32.ofNat o), .int (Int32.ofNat len), .null] 6)) (T15.setTop (mkF m 57 #[.val (.ref a), .val (.ref b), .val (.int (Int32.ofNat o)), .val (.int (Int32.ofNat len)), .val .null, .val (.ref s.heap.size)] [])) := c14.trans (st15 _ (Steps.refl _))
  have ap := apart (Or.inr ⟨_, (wk W (.laysFinal "java/lang/String" "java/lang/String" "value" "[B"))⟩) (Or.inr ⟨_, (wk W (.laysFinal "java/lang/String" "java/lang/String" "coder" "B"))⟩) f1 f2 (t₁ := .array .byte) (t₂ := .byte) (by decide +kernel) (by decide +kernel) (by decide)
  have al := X8.warmed.alike.symm.trans X15.warmed.alike
  have n7 : T11.heap[s.heap.size]? = some N := by rw [q11]; exact n1.1
  exact ⟨T15, none, _, _, _, X15, by simp, rfl, by omega, (fun _ => rfl), ⟨rfl, _, N, bl15, ((Same.refl D _).set _ (by simp)).set _ (by simp), sl15, (Cell.slots_setSlot_ne _ ap).trans sl13, n1.keep al (p15.other hne (p13.other hne n7)), n2, by rw [al.findClass]; exact n3, n4, n5, fun y c h1 h2 => p15.other h1 (p13.other h1 (by rw [q11]; exact n6 y c h2)), by rw [p15.2.2, p13.2.2, q11]; exact z8⟩, fun fs hl => c16.trans (X15.returnOut hexec hret (hb hbytes d57) hl)⟩
end New4
namespace New1
def yN : MethodName := ⟨"java/lang/String", "<init>", "([C)V"⟩
abbrev yB : ByteArray := jdk_42_method_3_code
theorem d0 : decode yB 0 = .ok (.aload_n 0, 1) := by decide +kernel
theorem d1 : decode yB 1 = .ok (.aload_n 1, 1) := by decide +kernel
theorem d2 : decode yB 2 = .ok (.iconst 0, 1) := by decide +kernel
theorem d3 : decode yB 3 = .ok (.aload_n 1, 1) := by decide +kernel
theorem d4 : decode yB 4 = .ok (.arraylength, 1) := by decide +kernel
theorem d5 : decode yB 5 = .ok (.aconst_null, 1) := by decide +kernel
theorem d6 : decode yB 6 = .ok (.invokespecial 27, 3) := by decide +kernel
theorem d9 : decode yB 9 = .ok (.return_, 1) := by decide +kernel
def site : List Cond := [New4.tab] ++ initW "java/lang/String" 27 New4.yN
def tab : Cond := tabOf yN yB 2 none site
def P (a : Addr) (D : Cell) (fV fC : Field) (b : Addr) (A : Cell) (z : Int32) (args : Array Value) (s : State) : Prop := args = #[.ref a, .ref b] ∧ Blank "java/lang/String" a D s ∧ Found "java/lang/String" "value" "[B" fV s ∧ Found "java/lang/String" "coder" "B" fC s ∧ Ch b A s ∧ StaticIs s "java/lang/String" "COMPACT_STRINGS" "Z" (.int z) ∧ ¬ z = 0 ∧ 0 < A.slots.size ∧ A.slots.size ≤ 536870912 ∧ ∀ i, i < A.slots.size → ¬ 255 < cv A i
def E (a : Addr) (D : Cell) (fV fC : Field) (A : Cell) (r : Option Value) (s u : State) : Prop := Got a D fV fC A 0 A.slots.size r s u
/-- new String(chars), not empty, no char above 255: a Latin-1 String of their low bytes -/
theorem law (l : Launch) (a : Addr) (D : Cell) (fV fC : Field) (b : Addr) (A : Cell) (z : Int32) : Law l yN 2 1 3 52 yB 2 none site (P a D fV fC b A z) (E a D fV fC A) [⟨a, fC.slot⟩, ⟨a, fV.slot⟩] 1 A.slots.size := by
  refine Law.of_walk (plainFor_of_name (by decide +kernel)) (by decide +kernel) (by decide +kernel) (by decide) (fun _ _ h => by rw [h.1]; rfl) (fun _ U U' hal hh h => ⟨h.1, h.2.1.mv hal hh, h.2.2.1.al hal, h.2.2.2.1.al hal, h.2.2.2.2.1.mv hal hh, h.2.2.2.2.2.1.there hal hh, h.2.2.2.2.2.2⟩) (fun r U U' V V' h1 hal h2 h => Got.mv r U U' V V' h1 hal h2 h) ?_
  intro p e s m args below meth c s₁ X0 hexec hbytes hml hret hlk hnm hown hh0 W hP
  obtain ⟨rfl, hB, f1, f2, hA, s1, hz, l0, l2, hp⟩ := hP
  have c1 : Steps p.tables e below (s₁.setTop (entryFrame m #[.ref a, .ref b] 2)) (s₁.setTop (mkF m 0 #[.val (.ref a), .val (.ref b)] [])) := entry rfl
  have c2 : Steps p.tables e below (s₁.setTop (entryFrame m #[.ref a, .ref b] 2)) (s₁.setTop (mkF m 6 #[.val (.ref a), .val (.ref b)] [.null, .int (Int32.ofNat A.slots.size), .int 0, .ref b, .ref a])) := c1.trans (by
    refine XS.aloadN X0.here hexec rfl (hb hbytes d0) rfl rfl ?_
    refine XS.aloadN X0.here hexec rfl (hb hbytes d1) rfl rfl ?_
    refine iconstV X0.here hexec rfl 0 (hb hbytes d2) (by decide) ?_
    refine XS.aloadN X0.here hexec rfl (hb hbytes d3) rfl rfl ?_
    refine X0.alen hexec (hA.1.mv X0.warmed.alike hh0) rfl rfl (hb hbytes d4) ?_
    refine XS.aconstNull X0.here hexec rfl (hb hbytes d5) ?_
    exact Steps.refl _)
  obtain ⟨v3, T3, X3, E3, g3⟩ := X0.callN hexec (New4.law l a D fV fC b A z 0 A.slots.size) rfl hown (wks W (initW "java/lang/String" 27 New4.yN)) (W New4.tab (by simp only [site, List.mem_cons, List.mem_append, true_or, or_true])) (W := 0) (Nat.le_of_ble_eq_true rfl) (Nat.le_of_ble_eq_true rfl) (Nat.le_refl _) (by show 0 + A.slots.size ≤ A.slots.size; omega) (g := (mkF m 6 #[.val (.ref a), .val (.ref b)] [.null, .int (Int32.ofNat A.slots.size), .int (Int32.ofNat 0), .ref b, .ref a])) rfl (by rw [hml]; rfl) c2 (argsL := [.ref b, .int (Int32.ofNat 0), .int (Int32.ofNat A.slots.size), .null]) (rest := []) rfl rfl (by show 2 * 0 + 0 ≤ _; decide) (hb hbytes d6) (⟨rfl, hB.mv X0.warmed.alike hh0, f1.al X0.warmed.alike, f2.al X0.warmed.alike, hA.mv X0.warmed.alike hh0, s1.there X0.warmed.alike hh0, hz, l0, by omega, l2, fun i hi => by rw [Nat.zero_add]; exact hp i hi⟩)
  have e0 := Got.mv _ s₁ s _ _ hh0.symm (Vm.Alike.refl _) rfl E3
  obtain rfl := e0.1
  have c4 : Steps p.tables e below (s₁.setTop (entryFrame m #[.ref a, .ref b] 2)) (T3.setTop (mkF m 9 #[.val (.ref a), .val (.ref b)] [])) := g3
  exact ⟨T3, none, _, _, _, X3, by simp, rfl, by omega, (fun _ => rfl), e0, fun fs hl => c4.trans (X3.returnOut hexec hret (hb hbytes d9) hl)⟩
theorem pays {l : Launch} {R : Room} {p : Program} {e : Env} {below : List Frame} {s : State} {sargs : Array Value} {len W : Nat} (a : Addr) (D : Cell) (fV fC : Field) (b : Addr) (A : Cell) (z : Int32) (htab : tab.before sargs s = true) (hfr : 4 ≤ R.frames) (hlo : W + 65 ≤ R.locals) :
    Back l R p e below s sargs yN len W (fun A₁ a₁ => A₁.cells + 1 ≤ R.cells ∧ A₁.slots + A.slots.size ≤ R.slots ∧ P a D fV fC b A z a₁ A₁.U) (fun A₁ _ v₁ B₁ => E a D fV fC A v₁ A₁.U B₁.U ∧ B₁.locs = A₁.locs ++ [⟨a, fC.slot⟩, ⟨a, fV.slot⟩] ∧ B₁.cells = A₁.cells + 1 ∧ B₁.slots = A₁.slots + A.slots.size) :=
  (law l a D fV fC b A z).pays htab hfr (by omega)
end New1
/-- the byte, read back as charAt reads it, is the char -/
theorem lo8_mask {x : Int32} (h0 : ¬ x < 0) (h1 : ¬ 255 < x) : lo8 x &&& 255 = x := by
  have t : ∀ k : Fin 256, lo8 (Int32.ofNat k.val) &&& 255 = Int32.ofNat k.val := by decide +kernel
  rw [Int32.lt_iff_toInt_lt] at h0 h1
  have e0 : (0 : Int32).toInt = 0 := rfl
  have e1 : (255 : Int32).toInt = 255 := rfl
  obtain ⟨k, hk⟩ : ∃ k : Nat, x.toInt = k := ⟨x.toInt.toNat, by omega⟩
  have hx : x = Int32.ofNat k := Int32.toInt_inj.mp (by rw [hk, Int32.toInt_ofNat_small (by omega)])
  rw [hx]
  exact t ⟨k, by omega⟩
end StrChars
namespace StrChars.Road
open Jvm Sem ClassFile Op Lib Jvm.Stand Jvm.Free Jvm.Free.XT
open Jvm.Lib.Cold (StaticIs)
abbrev ST : String := "java/lang/String"
/-- every table word that New1's law asks, flat -/
abbrev words : List Jvm.Cond := [.code New1.yN New1.yB 2 none, .initialized ST, .methodLink ST 27 New4.yN, .instanceMethod New4.yN,
  .code New4.yN New4.yB 6 none, .fieldLink ST 38 ST "COMPACT_STRINGS" "Z", .laysFinal ST ST "value" "[B", .fieldLink ST 9 ST "value" "[B", .laysFinal ST ST "coder" "B", .fieldLink ST 15 ST "coder" "B",
  .methodLink ST 1 Lib.objectInit, .instanceMethod Lib.objectInit, .code Lib.objectInit ⟨#[0xb1]⟩ 1 none, .methodLink ST 177 Cmp3.yN, .static Cmp3.yN, .methodLink ST 47 CodL.yN, .static CodL.yN,
  .code Cmp3.yN Cmp3.yB 6 (some (.array .byte)), .initialized U16, .arrayClass .byte, .methodLink U16 115 Cmp5.yN, .static Cmp5.yN, .code Cmp5.yN Cmp5.yB 7 (some .int), .code CodL.yN CodL.yB 2 (some .byte)]
theorem tab_of {a : Array Value} {s : State} (h : ∀ w ∈ words, w.before a s = true) : New1.tab.before a s = true := by
  have h5 : Cmp5.tab.before a s = true := unparts (wk h (.code Cmp5.yN Cmp5.yB 7 (some .int))) (wks h (.initialized Cmp5.yN.cls :: Cmp5.site))
  have hc : CodL.tab.before a s = true := unparts (wk h (.code CodL.yN CodL.yB 2 (some .byte))) (wks h (.initialized CodL.yN.cls :: CodL.site))
  have q5 : ∀ w ∈ Cmp5.tab :: words, w.before a s = true := fun w hw => (List.mem_cons.mp hw).elim (fun e => e ▸ h5) (h w)
  have h3 : Cmp3.tab.before a s = true := unparts (wk q5 (.code Cmp3.yN Cmp3.yB 6 (some (.array .byte)))) (wks q5 (.initialized Cmp3.yN.cls :: Cmp3.site))
  have q3 : ∀ w ∈ Cmp3.tab :: CodL.tab :: words, w.before a s = true := fun w hw => (List.mem_cons.mp hw).elim (fun e => e ▸ h3) fun hw => (List.mem_cons.mp hw).elim (fun e => e ▸ hc) (h w)
  have h4 : New4.tab.before a s = true := unparts (wk q3 (.code New4.yN New4.yB 6 none)) (wks q3 (.initialized New4.yN.cls :: New4.site))
  have q4 : ∀ w ∈ New4.tab :: words, w.before a s = true := fun w hw => (List.mem_cons.mp hw).elim (fun e => e ▸ h4) (h w)
  exact unparts (wk q4 (.code New1.yN New1.yB 2 none)) (wks q4 (.initialized New1.yN.cls :: New1.site))
/-- the words ride from the start Z to the walk's own state -/
theorem moved {Z s : State} {a0 args : Array Value} (hZ : Z.Warmed39 s.vm) (hw : ∀ d ∈ words, d.before a0 Z = true) : ∀ d ∈ words, d.before args s = true := fun d hd => by
  have q := hw d hd
  have t : ∀ d ∈ words, d = .arrayClass .byte ∨ (d.onTables && d.keepsFace) = true := by decide +kernel
  rcases t d hd with rfl | t
  · exact RoadKit.mvA hZ q
  · exact RoadKit.mv hZ q t
/-- WHAT COMES BACK, over the tables of the start Z: h the heap at the call, h' behind it -/
def Q (Z : State) (x : Addr) (A : Cell) (h : Heap) (v : Option Value) (h' : Heap) (L : List Loc) : Prop := v = none ∧ (∀ y ∈ L, y.base = x) ∧ RoadKit.Keep h h' [x] ∧ h'.size = h.size + 1 ∧ RoadKit.Exa Z h' x ST ∧ RoadKit.Fld Z h' x ST "value" "[B" (.ref h.size) ∧ RoadKit.Fld Z h' x ST "coder" "B" (.int 0) ∧
  (∃ V : Cell, RoadKit.Arr Z h' h.size V .byte ∧ V.vm = .none ∧ Z.vm.findClass "[B" = some V.cls ∧ V.slots.size = A.slots.size ∧ ∀ j, j < A.slots.size → V.slots[j]? = some (.int (lo8 (cv A j)))) ∧
  ∀ (O n d : String) (w : Value), RoadKit.Fld Z h x O n d w → RoadKit.slotOf Z O n d ≠ RoadKit.slotOf Z ST "value" "[B" → RoadKit.slotOf Z O n d ≠ RoadKit.slotOf Z ST "coder" "B" → RoadKit.Fld Z h' x O n d w
/-- **new String(chars) AT A CALL, IN THE ROAD'S FORM**: for specialBack behind newO: x the fresh String, b the char[] with the cell A -/
theorem back {p : Program} {l : Launch} {e : Env} {R : Room} {s : State} {args : Array Value} {below : List Frame} {len W : Nat} {Z : State} {a0 : Array Value} {h : Heap} (hZ : Z.Warmed39 s.vm) (hw : ∀ d ∈ words, d.before a0 Z = true) {kI : Nat} (wi : (Jvm.Cond.instantiable ST kI).before a0 Z = true)
    {x b : Addr} {A : Cell} {z : Int32} {v0 c0 : Value} (E : RoadKit.Exa Z h x ST) (V : RoadKit.Fld Z h x ST "value" "[B" v0) (C : RoadKit.Fld Z h x ST "coder" "B" c0) (K : RoadKit.Arr Z h b A .char) (hty : Typed .char A) (S : RoadKit.Sta Z h ST "COMPACT_STRINGS" "Z" (.int z)) (hz : ¬ z = 0)
    (l0 : 0 < A.slots.size) (l2 : A.slots.size ≤ 536870912) (hp : ∀ i, i < A.slots.size → ¬ 255 < cv A i) (hfr : 4 ≤ R.frames) (hlo : W + 65 ≤ R.locals) :
    Back l R p e below s args New1.yN len W (fun P a => a = #[.ref x, .ref b] ∧ P.U.heap = h ∧ P.cells + 1 ≤ R.cells ∧ P.slots + A.slots.size ≤ R.slots)
      (fun P _ v B => ∃ L, Q Z x A h v B.U.heap L ∧ B.locs = P.locs ++ L ∧ B.cells = P.cells + 1 ∧ B.slots = P.slots + A.slots.size) := by
  intro m meth c P g ig mk a X hg hsize hdg hW hn hp'
  obtain ⟨rfl, rfl, r1, r2⟩ := hp'
  have al : Z.vm.Alike P.U.vm := hZ.alike.trans X.warmed.alike
  obtain ⟨D, cfV, kV, iV, fV, hD, gV, stV, knV, obV, asV, slV⟩ := id V
  obtain ⟨D', cfC, kC, iC, fC, hD', gC, stC, -, -, asC, slC⟩ := id C
  cases hD.symm.trans hD'
  obtain ⟨D2, kD, e1, e2, e3, e4, e5⟩ := id E
  cases hD.symm.trans e1
  obtain ⟨c2, k2, i1, i2, i3, -⟩ := Cond.instantiable_spec wi
  cases e2.symm.trans i1
  cases e3.symm.trans i2
  obtain ⟨kU, u1, u2⟩ := al.2.2 _ _ e3
  have hB : Blank ST x D P.U := ⟨hD, ⟨knV, fun q hq => by rw [hq] at obV; cases obV⟩, by rw [al.findClass]; exact e2, kU, u1, by rw [u2]; exact i3, by rw [u2]; exact e5 i3⟩
  have F1 : Found ST "value" "[B" fV P.U := ⟨SBG.found_only al ⟨cfV, kV, iV, gV⟩, stV⟩
  have F2 : Found ST "coder" "B" fC P.U := ⟨SBG.found_only al ⟨cfC, kC, iC, gC⟩, stC⟩
  have hA : Ch b A P.U := ⟨⟨K.1, State.isArrayOf_alike al K.2.1, K.2.2, by omega⟩, hty⟩
  have hS : StaticIs P.U ST "COMPACT_STRINGS" "Z" (.int z) := by
    obtain ⟨cfS, iS, kS, fS, st, cS, t1, t2, t3, t4, t5, t6, t7⟩ := S
    exact StaticIs.there (s := { Z with heap := P.U.heap }) ⟨cfS, iS, kS, fS, st, cS, t1, t2, t3, t4, t5, (fun q => by rw [q] at t6; cases t6), t7⟩ al rfl
  obtain ⟨v, B, X', ⟨⟨hv, E', V', q1, q2, q3, q4, q5, q6, q7, q8, q9, q10, q11⟩, hl, hc, hs⟩, st⟩ := New1.pays x D fV fC b A z (tab_of (moved hZ hw)) hfr hlo m meth c P g ig mk _ X hg hsize hdg hW hn ⟨r1, r2, rfl, hB, F1, F2, hA, hS, hz, l0, l2, hp⟩
  have al' : Z.vm.Alike B.U.vm := hZ.alike.trans X'.warmed.alike
  have hsz : E'.slots.size = D.slots.size := by
    obtain ⟨-, -, -, kB, w1, w2, w3⟩ := q1
    obtain ⟨kB', y1, y2⟩ := al'.2.2 _ _ e3
    rw [q2.2.1] at w1
    cases w1.symm.trans y1
    rw [w3, e5 i3, y2]
  refine ⟨v, B, X', ⟨_, ⟨hv, ?_, ⟨by omega, fun y cy hy hn' => q10 y cy (by simpa using hn') hy, fun y cy hy => ?_⟩, q11, ⟨E', _, q1.1, by rw [q2.2.1]; exact e2, by rw [q2.2.1]; exact e3, by rw [q2.1]; exact obV, fun _ => by rw [hsz]; exact e5 i3⟩,
    ⟨E', cfV, kV, iV, fV, q1.1, gV, stV, by rw [q2.1]; exact knV, by rw [q2.1]; exact obV, by rw [q2.2.1]; exact asV, q3⟩, ⟨E', cfC, kC, iC, fC, q1.1, gC, stC, by rw [q2.1]; exact knV, by rw [q2.1]; exact obV, by rw [q2.2.1]; exact asC, q4⟩,
    ⟨V', ⟨q5.1, State.isArrayOf_alike al'.symm q5.2.1, q5.2.2.1⟩, q6, by rw [← al'.findClass]; exact q7, q8, fun j hj => by have := q9 j hj; rwa [Nat.zero_add] at this⟩, fun O n d w F n1 n2 => ?_⟩, hl, hc, hs⟩, st⟩
  · intro y hy
    simp only [List.mem_cons, List.not_mem_nil, or_false] at hy
    rcases hy with rfl | rfl <;> rfl
  · by_cases q : y = x
    · subst q
      cases hD.symm.trans hy
      exact ⟨E', q1.1, q2.2.1, q2.1, hsz⟩
    · exact ⟨cy, q10 y cy q hy, rfl, rfl, rfl⟩
  · obtain ⟨D3, cf, k, i, f, g1, g2, g3, g4, g5, g6, g7⟩ := F
    cases hD.symm.trans g1
    simp only [RoadKit.slotOf, g2, gV, gC, Option.map_some, Option.getD_some] at n1 n2
    exact ⟨E', cf, k, i, f, q1.1, g2, g3, by rw [q2.1]; exact g4, by rw [q2.1]; exact g5, by rw [q2.2.1]; exact g6, by rw [q2.2.2 f.slot (by simp [n1, n2])]; exact g7⟩
end StrChars.Road
namespace StrChars.Road
open Jvm Sem ClassFile Op Lib Jvm.Stand Jvm.Free Jvm.Free.XT
/-- WHAT COMES BACK, the byte[] as a list of values -/
def QA (Z : State) (x : Addr) (zn : Int32) (cs : List Int32) (h : Heap) (v : Option Value) (h' : Heap) (L : List Loc) : Prop := v = none ∧ (∀ y ∈ L, y.base = x) ∧ RoadKit.Keep h h' [x] ∧ h'.size = h.size + 1 ∧ RoadKit.Exa Z h' x ST ∧ RoadKit.Fld Z h' x ST "value" "[B" (.ref h.size) ∧ RoadKit.Fld Z h' x ST "coder" "B" (.int 0) ∧
  (∃ kb, Z.vm.findClass "[B" = some kb ∧ RoadKit.Arv Z h' h.size kb .byte zn (cs.map fun c => .int (lo8 c)) (.int 0)) ∧
  ∀ (O n d : String) (w : Value), RoadKit.Fld Z h x O n d w → RoadKit.slotOf Z O n d ≠ RoadKit.slotOf Z ST "value" "[B" → RoadKit.slotOf Z O n d ≠ RoadKit.slotOf Z ST "coder" "B" → RoadKit.Fld Z h' x O n d w
/-- **new String(chars) AT A CALL, THE ARRAYS AS LISTS**: the char[] at b holds cs, not empty, no char above 255 -/
theorem backArv {p : Program} {l : Launch} {e : Env} {R : Room} {s : State} {args : Array Value} {below : List Frame} {len W : Nat} {Z : State} {a0 : Array Value} {h : Heap} (hZ : Z.Warmed39 s.vm) (hw : ∀ d ∈ words, d.before a0 Z = true) {kI : Nat} (wi : (Jvm.Cond.instantiable ST kI).before a0 Z = true)
    {x b : Addr} {k : ClassId} {zn z : Int32} {cs : List Int32} {dv v0 c0 : Value} (E : RoadKit.Exa Z h x ST) (V : RoadKit.Fld Z h x ST "value" "[B" v0) (C : RoadKit.Fld Z h x ST "coder" "B" c0) (K : RoadKit.Arv Z h b k .char zn (cs.map Value.int) dv) (S : RoadKit.Sta Z h ST "COMPACT_STRINGS" "Z" (.int z)) (hz : ¬ z = 0)
    (hlen : zn.toNatClampNeg = cs.length) (h0 : 0 < cs.length) (hbig : cs.length ≤ 536870912) (hall : ∀ c ∈ cs, ¬ 255 < c) (hfr : 4 ≤ R.frames) (hlo : W + 65 ≤ R.locals) :
    Back l R p e below s args New1.yN len W (fun P a => a = #[.ref x, .ref b] ∧ P.U.heap = h ∧ P.cells + 1 ≤ R.cells ∧ P.slots + cs.length ≤ R.slots)
      (fun P _ v B => ∃ L, QA Z x zn cs h v B.U.heap L ∧ B.locs = P.locs ++ L ∧ B.cells = P.cells + 1 ∧ B.slots = P.slots + cs.length) := by
  obtain ⟨A, K1, K2, K3, K4, K5, K6⟩ := K
  have e : A.slots.size = cs.length := K3.trans hlen
  have hat : ∀ (i : Nat) (hi : i < cs.length), A.slots[i]? = some (.int cs[i]) := fun i hi => by rw [K5 i (by omega)]; simp [List.getD_eq_getElem?_getD, hi]
  have hcv : ∀ (i : Nat) (hi : i < cs.length), cv A i = cs[i] := fun i hi => by unfold cv; rw [hat i hi]
  have hty : Typed .char A := fun i v hv => by
    have hi : i < A.slots.size := (Array.getElem?_eq_some_iff.mp hv).1
    have q := K5 i hi
    rw [hv] at q
    rw [Option.some.inj q]
    exact K6 i hi
  refine Back.mono (back hZ hw wi E V C K1 hty S hz (by omega) (by omega) (fun i hi => by rw [hcv i (by omega)]; exact hall _ (List.getElem_mem _)) hfr hlo) (fun P a hp => ⟨hp.1, hp.2.1, hp.2.2.1, by rw [e]; exact hp.2.2.2⟩) (fun P a v B hp hq => ?_)
  obtain ⟨L, ⟨q1, q2, q3, q4, q5, q6, q7, ⟨V', v1, v2, v3, v4, v5⟩, q9⟩, hl, hc, hs⟩ := hq
  refine ⟨L, ⟨q1, q2, q3, q4, q5, q6, q7, ⟨V'.cls, v3, V', v1, rfl, by rw [v4, e, hlen], K4, fun i hi => ?_, fun i hi => ?_⟩, q9⟩, hl, hc, by rw [hs, e]⟩
  · have hi' : i < cs.length := by omega
    rw [v5 i (by omega), hcv i hi']; simp [List.getD_eq_getElem?_getD, hi']
  · have hi' : i < cs.length := by omega
    simp only [List.getD_eq_getElem?_getD, List.getElem?_map, List.getElem?_eq_getElem hi', Option.map_some, Option.getD_some]
    exact fits_lo8 _
end StrChars.Road
namespace StrChars.Road
open Jvm Sem ClassFile Op Lib Jvm.Stand Jvm.Free Jvm.Free.XT
/-- WHAT COMES BACK, in the writer's own shape -/
def QV (Z : State) (x : Addr) (N : Int32) (bs : List Int32) (h : Heap) (n0 : Nat) (v : Option Value) (h' : Heap) (L : List Loc) : Prop := v = none ∧ RoadKit.Fr n0 L ∧ RoadKit.Keep h h' [x] ∧ RoadKit.Exa Z h' x ST ∧ RoadKit.Fld Z h' x ST "coder" "B" (.int 0) ∧
  ∃ (t : Addr) (kb : ClassId), n0 ≤ t ∧ h.size ≤ t ∧ ¬ t = x ∧ RoadKit.Fld Z h' x ST "value" "[B" (.ref t) ∧ RoadKit.Arv Z h' t kb .byte N (bs.map Value.int) (.int 0)
/-- **new String(chars) AT A CALL, FOR THE WRITER**: a char[] of n known ints, each 0 to 255 -/
theorem backV {p : Program} {l : Launch} {e : Env} {R : Room} {s : State} {args : Array Value} {below : List Frame} {len W : Nat} {Z : State} {a0 : Array Value} {h : Heap} (hZ : Z.Warmed39 s.vm) (hw : ∀ d ∈ words, d.before a0 Z = true) {kI : Nat} (wi : (Jvm.Cond.instantiable ST kI).before a0 Z = true)
    {x b : Addr} {kC : ClassId} {cs bs : List Int32} {d v0 c0 : Value} {z N : Int32} {n n0 : Nat} (hx0 : n0 ≤ x) (hh0 : n0 ≤ h.size) (E : RoadKit.Exa Z h x ST) (V : RoadKit.Fld Z h x ST "value" "[B" v0) (C : RoadKit.Fld Z h x ST "coder" "B" c0) (K : RoadKit.Arv Z h b kC .char N (cs.map Value.int) d) (S : RoadKit.Sta Z h ST "COMPACT_STRINGS" "Z" (.int z)) (hz : ¬ z = 0)
    (hn : cs.length = n) (hN : N = Int32.ofNat n) (l0 : 0 < n) (l2 : n ≤ 4000) (hp : ∀ c ∈ cs, ¬ c < 0 ∧ ¬ (255 : Int32) < c) (hb : bs = cs.map (fun c => c.toInt8.toInt32)) (hfr : 4 ≤ R.frames) (hlo : W + 65 ≤ R.locals) :
    Back l R p e below s args (⟨"java/lang/String", "<init>", "([C)V"⟩ : MethodName) len W (fun P a => a = #[.ref x, .ref b] ∧ P.U.heap = h ∧ P.cells + 1 ≤ R.cells ∧ P.slots + n ≤ R.slots)
      (fun P _ v B => ∃ L, QV Z x N bs h n0 v B.U.heap L ∧ B.locs = P.locs ++ L ∧ B.cells = P.cells + 1 ∧ B.slots = P.slots + n) := by
  subst hn hN hb
  refine Back.mono (backArv hZ hw wi E V C K S hz (n32 (by omega)) l0 (by omega) (fun c hc => (hp c hc).2) hfr hlo) (fun P a hp => hp) (fun P a v B hp hq => ?_)
  obtain ⟨L, ⟨q1, q2, q3, q4, q5, q6, q7, ⟨kb, v1, v2⟩, q9⟩, hl, hc, hs⟩ := hq
  exact ⟨L, ⟨q1, fun y hy => by rw [q2 y hy]; exact hx0, q3, q5, q7, h.size, kb, hh0, Nat.le_refl _, Nat.ne_of_gt E.lt, q6, by rw [List.map_map]; exact v2⟩, hl, hc, hs⟩
end StrChars.Road
namespace StrChars
open Jvm Sem ClassFile Op Lib Jvm.Stand Jvm.Free.XT Jvm.Free.ALB Jvm.Free.JM Jvm.Free
open Jvm.Lib.Cold (StaticIs)
def hi8 (x : Int32) : Int32 := lo8 (x >>> ((8 : Int32) &&& 31))
/-- what StringUTF16.getChar makes of two bytes -/
def pairCh (u v : Int32) : Int32 := (((u &&& 255) <<< ((0 : Int32) &&& 31)) ||| ((v &&& 255) <<< ((8 : Int32) &&& 31))).toUInt32.toUInt16.toUInt32.toInt32
theorem lo8_and (x : Int32) : (lo8 x &&& 255).toBitVec.toNat = x.toBitVec.toNat % 256 := by
  have h : (lo8 x).toBitVec = (x.toBitVec.signExtend 8).signExtend 32 := by rw [lo8, Int8.toBitVec_toInt32, Int32.toBitVec_toInt8]
  rw [Int32.toBitVec_and, BitVec.toNat_and, h]
  have e : ((x.toBitVec.signExtend 8).signExtend 32).toNat % 256 = x.toBitVec.toNat % 256 := by
    rw [BitVec.toNat_signExtend]
    have hlt := x.toBitVec.isLt
    simp only [BitVec.toNat_setWidth, BitVec.toNat_signExtend]
    split <;> split <;> omega
  rw [← e]
  exact Nat.and_two_pow_sub_one_eq_mod _ 8
theorem pair_says {c : Int32} (h0 : ¬ c < 0) (h1 : ¬ 65535 < c) : pairCh (lo8 c) (hi8 c) = c := by
  rw [Int32.lt_iff_toInt_lt] at h0 h1
  have e0 : (0 : Int32).toInt = 0 := rfl
  have e1 : (65535 : Int32).toInt = 65535 := rfl
  have hc : c.toInt = c.toBitVec.toNat := by
    have := c.toBitVec.isLt
    have e : c.toInt = c.toBitVec.toInt := rfl
    rw [e] at h0 h1
    rw [e]
    rw [BitVec.toInt_eq_toNat_cond] at h0 h1 ⊢
    split at h0 <;> split <;> omega
  have hn : c.toBitVec.toNat < 65536 := by omega
  have a1 := lo8_and c
  have a2 : (hi8 c &&& 255).toBitVec.toNat = c.toBitVec.toNat / 256 := by
    rw [hi8, lo8_and]
    have e : ((8 : Int32) &&& 31) = 8 := by decide
    rw [e, Int32.toBitVec_shiftRight]
    have e2 : ((8 : Int32).toBitVec.smod 32) = 8#32 := by decide
    rw [e2, BitVec.sshiftRight_eq', BitVec.toNat_sshiftRight_of_msb_false (by rw [BitVec.msb_eq_false_iff_two_mul_lt]; omega)]
    show c.toBitVec.toNat >>> 8 % 256 = _
    rw [Nat.shiftRight_eq_div_pow]
    omega
  unfold pairCh
  apply Int32.toBitVec_inj.mp
  apply BitVec.eq_of_toNat_eq
  have f0 : ((0 : Int32) &&& 31) = 0 := by decide
  have f8 : ((8 : Int32) &&& 31) = 8 := by decide
  rw [f0, f8]
  have g : (((lo8 c &&& 255) <<< (0 : Int32)) ||| ((hi8 c &&& 255) <<< (8 : Int32))).toBitVec.toNat = c.toBitVec.toNat := by
    rw [Int32.toBitVec_or, Int32.toBitVec_shiftLeft, Int32.toBitVec_shiftLeft]
    have s0 : ((0 : Int32).toBitVec.smod 32) = 0#32 := by decide
    have s8 : ((8 : Int32).toBitVec.smod 32) = 8#32 := by decide
    rw [s0, s8, BitVec.toNat_or]
    simp only [BitVec.shiftLeft_eq', BitVec.toNat_shiftLeft, a1, a2]
    show (c.toBitVec.toNat % 256) <<< 0 % 2 ^ 32 ||| (c.toBitVec.toNat / 256) <<< 8 % 2 ^ 32 = _
    rw [Nat.shiftLeft_zero, Nat.mod_eq_of_lt (show c.toBitVec.toNat % 256 < 2 ^ 32 by omega), Nat.mod_eq_of_lt (show (c.toBitVec.toNat / 256) <<< 8 < 2 ^ 32 by rw [Nat.shiftLeft_eq]; omega), Nat.or_comm, ← Nat.shiftLeft_add_eq_or_of_lt (by omega), Nat.shiftLeft_eq]
    omega
  show BitVec.toNat (((((lo8 c &&& 255) <<< (0 : Int32)) ||| ((hi8 c &&& 255) <<< (8 : Int32))).toBitVec.setWidth 16).setWidth 32) = _
  rw [BitVec.toNat_setWidth, BitVec.toNat_setWidth, g]
  omega
end StrChars
namespace StrChars
open Jvm Sem ClassFile Op Lib Jvm.Stand Jvm.Free.XT Jvm.Free.ALB Jvm.Free.JM Jvm.Free
open Jvm.Lib.Cold (StaticIs)
/-- the array's cell V codes the n chars f 0 .. f (n - 1) by the coder cd, as the JDK does: coder 1 just where some char is above 255 -/
def Cod (cd : Int32) (n : Nat) (f : Nat → Int32) (V : Cell) : Prop := (cd = 0 ∧ V.slots.size = n ∧ ∀ j, j < n → V.slots[j]? = some (.int (lo8 (f j))) ∧ ¬ 255 < f j) ∨ (cd = 1 ∧ V.slots.size = 2 * n ∧ (∀ j, j < n → V.slots[2 * j]? = some (.int (lo8 (f j))) ∧ V.slots[2 * j + 1]? = some (.int (hi8 (f j)))) ∧ ∃ j, j < n ∧ 255 < f j)
/-- **x is a String of the n chars f 0 .. f (n - 1)**, Latin-1 or UTF-16; its array at t has the cell V -/
def Txt (x t : Addr) (V : Cell) (cd : Int32) (n : Nat) (f : Nat → Int32) (U : State) : Prop := Exact "java/lang/String" x U ∧ Has x "java/lang/String" "value" "[B" (.ref t) U ∧ Has x "java/lang/String" "coder" "B" (.int cd) U ∧ XT.Arr .byte t V U ∧ Cod cd n f V ∧ ∀ j, j < n → ¬ f j < 0 ∧ ¬ 65535 < f j
theorem Txt.mv {x t : Addr} {V : Cell} {cd : Int32} {n : Nat} {f : Nat → Int32} {U U' : State} (h : Txt x t V cd n f U) (hal : U.vm.Alike U'.vm) (hh : U'.heap = U.heap) : Txt x t V cd n f U' := ⟨h.1.mv hal hh, h.2.1.mv hal hh, h.2.2.1.mv hal hh, h.2.2.2.1.mv hal hh, h.2.2.2.2⟩
end StrChars
namespace StrChars.Road
open Jvm Sem ClassFile Op Lib Jvm.Stand Jvm.Free Jvm.Free.XT
open Jvm.Lib.Cold (StaticIs)
theorem consq {a : Array Value} {s : State} {c : Jvm.Cond} {L : List Jvm.Cond} (h0 : c.before a s = true) (h : ∀ w ∈ L, w.before a s = true) : ∀ w ∈ c :: L, w.before a s = true := fun w hw => (List.mem_cons.mp hw).elim (fun e => e ▸ h0) (h w)
/-- the bytes of the chars cs, low before high -/
def wideBytes : List Int32 → List Value
  | [] => []
  | c :: cs => .int (lo8 c) :: .int (hi8 c) :: wideBytes cs
theorem wide_lo (d : Value) : ∀ (cs : List Int32) (j : Nat), j < cs.length → (wideBytes cs).getD (2 * j) d = .int (lo8 (cs.getD j 0))
  | [], j, h => absurd h (Nat.not_lt_zero j)
  | c :: cs, 0, _ => rfl
  | c :: cs, j + 1, h => by
    have q := wide_lo d cs j (by simpa using h)
    rw [show 2 * (j + 1) = 2 * j + 1 + 1 from by omega]
    simpa [wideBytes] using q
theorem wide_hi (d : Value) : ∀ (cs : List Int32) (j : Nat), j < cs.length → (wideBytes cs).getD (2 * j + 1) d = .int (hi8 (cs.getD j 0))
  | [], j, h => absurd h (Nat.not_lt_zero j)
  | c :: cs, 0, _ => rfl
  | c :: cs, j + 1, h => by
    have q := wide_hi d cs j (by simpa using h)
    rw [show 2 * (j + 1) + 1 = 2 * j + 1 + 1 + 1 from by omega]
    simpa [wideBytes] using q
theorem low_at (d : Value) (cs : List Int32) (j : Nat) (h : j < cs.length) : (cs.map fun c => Value.int (lo8 c)).getD j d = .int (lo8 (cs.getD j 0)) := by
  simp [List.getD_eq_getElem?_getD, h]
/-- an array of N2 bytes vs codes the chars cs by the coder cd -/
def CodA (cs : List Int32) (cd N2 : Int32) (vs : List Value) : Prop := (cd = 0 ∧ N2 = Int32.ofNat cs.length ∧ vs = (cs.map fun c => Value.int (lo8 c)) ∧ ∀ c ∈ cs, ¬ 255 < c) ∨ (cd = 1 ∧ N2 = Int32.ofNat (2 * cs.length) ∧ vs = wideBytes cs ∧ ∃ c ∈ cs, 255 < c)
theorem CodA.cod {cs : List Int32} {cd N2 : Int32} {vs : List Value} {V : Cell} (h : CodA cs cd N2 vs) (hn : 2 * cs.length < 2 ^ 31) (hs : V.slots.size = N2.toNatClampNeg) (hv : RoadKit.Has V vs (.int 0)) : Cod cd cs.length (fun j => cs.getD j 0) V := by
  rcases h with ⟨rfl, rfl, rfl, h⟩ | ⟨rfl, rfl, rfl, c, hc, hw⟩
  · rw [n32 (by omega)] at hs
    exact Or.inl ⟨rfl, hs, fun j hj => ⟨by rw [hv j (by omega), low_at _ _ _ hj], by
      have e : cs.getD j 0 = cs[j] := by simp [List.getD_eq_getElem?_getD, hj]
      show ¬ 255 < cs.getD j 0
      rw [e]; exact h _ (List.getElem_mem _)⟩⟩
  · rw [n32 (by omega)] at hs
    obtain ⟨j, hj, rfl⟩ := List.getElem_of_mem hc
    exact Or.inr ⟨rfl, hs, fun j hj => ⟨by rw [hv _ (by omega), wide_lo _ _ _ hj], by rw [hv _ (by omega), wide_hi _ _ _ hj]⟩, j, hj, by
      have e : cs.getD j 0 = cs[j] := by simp [List.getD_eq_getElem?_getD, hj]
      show 255 < cs.getD j 0
      rw [e]; exact hw⟩
/-- an object of exactly java/lang/String, its two fields found: as the laws ask it -/
theorem strObj {Z U : State} {a0 : Array Value} {kI : Nat} (wi : (Jvm.Cond.instantiable ST kI).before a0 Z = true) (al : Z.vm.Alike U.vm) {x : Addr} {v0 c0 : Value} (E : RoadKit.Exa Z U.heap x ST) (V : RoadKit.Fld Z U.heap x ST "value" "[B" v0) (C : RoadKit.Fld Z U.heap x ST "coder" "B" c0) :
    ∃ (D : Cell) (fV fC : Field), Blank ST x D U ∧ Found ST "value" "[B" fV U ∧ Found ST "coder" "B" fC U ∧ D.slots[fV.slot]? = some v0 ∧ D.slots[fC.slot]? = some c0 ∧ RoadKit.slotOf Z ST "value" "[B" = fV.slot ∧ RoadKit.slotOf Z ST "coder" "B" = fC.slot := by
  obtain ⟨D, cfV, kV, iV, fV, hD, gV, stV, knV, obV, asV, slV⟩ := V
  obtain ⟨D', cfC, kC, iC, fC, hD', gC, stC, -, -, asC, slC⟩ := C
  cases hD.symm.trans hD'
  obtain ⟨D2, kD, e1, e2, e3, e4, e5⟩ := E
  cases hD.symm.trans e1
  obtain ⟨c2, k2, i1, i2, i3, -⟩ := Cond.instantiable_spec wi
  cases e2.symm.trans i1
  cases e3.symm.trans i2
  obtain ⟨kU, u1, u2⟩ := al.2.2 _ _ e3
  exact ⟨D, fV, fC, ⟨hD, ⟨knV, fun q hq => by rw [hq] at obV; cases obV⟩, by rw [al.findClass]; exact e2, kU, u1, by rw [u2]; exact i3, by rw [u2]; exact e5 i3⟩, ⟨SBG.found_only al ⟨cfV, kV, iV, gV⟩, stV⟩, ⟨SBG.found_only al ⟨cfC, kC, iC, gC⟩, stC⟩, slV, slC, by simp [RoadKit.slotOf, gV], by simp [RoadKit.slotOf, gC]⟩
theorem sta_is {Z U : State} (al : Z.vm.Alike U.vm) {C n d : String} {v : Value} (S : RoadKit.Sta Z U.heap C n d v) : StaticIs U C n d v := by
  obtain ⟨cfS, iS, kS, fS, st, cS, t1, t2, t3, t4, t5, t6, t7⟩ := S
  exact StaticIs.there (s := { Z with heap := U.heap }) ⟨cfS, iS, kS, fS, st, cS, t1, t2, t3, t4, t5, (fun q => by rw [q] at t6; cases t6), t7⟩ al rfl
end StrChars.Road
namespace StrChars
open Jvm Sem ClassFile Op Lib Jvm.Stand Jvm.Free.XT Jvm.Free.ALB Jvm.Free.JM Jvm.Free
open Jvm.Lib.Cold (StaticIs)
/-- what place i of a byte[]'s cell holds -/
def yv (A : Cell) (i : Nat) : Int32 := match A.slots[i]? with | some (.int x) => x | _ => 0
theorem yv_get {a : Addr} {A : Cell} {U : State} (h : XT.Arr .byte a A U) (ht : Typed .byte A) {i : Nat} (hi : i < A.slots.size) : A.slots[i]? = some (.int (yv A i)) := by
  have e := Array.getElem?_eq_getElem hi
  have f := ht i _ e
  unfold yv; rw [e]
  generalize A.slots[i] = v at f
  cases v <;> simp [fits] at f ⊢
/-- the two arrays are equal, place for place -/
def EqC (A B : Cell) : Prop := A.slots.size = B.slots.size ∧ ∀ i, i < A.slots.size → yv A i = yv B i
/-- a boolean that says whether p -/
def Says01 (q : Prop) (r : Option Value) (s u : State) : Prop := ∃ v : Int32, r = some (.int v) ∧ u.heap = s.heap ∧ ((v = 1 ∧ q) ∨ (v = 0 ∧ ¬ q))
theorem Says01.mv {q : Prop} : ∀ r (U U' V V' : State), U'.heap = U.heap → V.vm.Alike V'.vm → V'.heap = V.heap → Says01 q r U V → Says01 q r U' V' :=
  fun r U U' V V' h1 _ h2 ⟨v, a, b, c⟩ => ⟨v, a, by rw [h1, h2]; exact b, c⟩
namespace LEq
def yN : MethodName := ⟨"java/lang/StringLatin1", "equals", "([B[B)Z"⟩
abbrev yB : ByteArray := jdk_43_method_13_code
theorem d0 : decode yB 0 = .ok (.aload_n 0, 1) := by decide +kernel
theorem d1 : decode yB 1 = .ok (.arraylength, 1) := by decide +kernel
theorem d2 : decode yB 2 = .ok (.aload_n 1, 1) := by decide +kernel
theorem d3 : decode yB 3 = .ok (.arraylength, 1) := by decide +kernel
theorem d4 : decode yB 4 = .ok (.if_icmp (.ne) 30, 3) := by decide +kernel
theorem d7 : decode yB 7 = .ok (.iconst 0, 1) := by decide +kernel
theorem d8 : decode yB 8 = .ok (.istore_n 2, 1) := by decide +kernel
theorem d9 : decode yB 9 = .ok (.iload_n 2, 1) := by decide +kernel
theorem d10 : decode yB 10 = .ok (.aload_n 0, 1) := by decide +kernel
theorem d11 : decode yB 11 = .ok (.arraylength, 1) := by decide +kernel
theorem d12 : decode yB 12 = .ok (.if_icmp (.ge) 20, 3) := by decide +kernel
theorem d15 : decode yB 15 = .ok (.aload_n 0, 1) := by decide +kernel
theorem d16 : decode yB 16 = .ok (.iload_n 2, 1) := by decide +kernel
theorem d17 : decode yB 17 = .ok (.baload, 1) := by decide +kernel
theorem d18 : decode yB 18 = .ok (.aload_n 1, 1) := by decide +kernel
theorem d19 : decode yB 19 = .ok (.iload_n 2, 1) := by decide +kernel
theorem d20 : decode yB 20 = .ok (.baload, 1) := by decide +kernel
theorem d21 : decode yB 21 = .ok (.if_icmp (.eq) 5, 3) := by decide +kernel
theorem d24 : decode yB 24 = .ok (.iconst 0, 1) := by decide +kernel
theorem d25 : decode yB 25 = .ok (.ireturn, 1) := by decide +kernel
theorem d26 : decode yB 26 = .ok (.iinc 2 1, 3) := by decide +kernel
theorem d29 : decode yB 29 = .ok (.goto (-20), 3) := by decide +kernel
theorem d32 : decode yB 32 = .ok (.iconst 1, 1) := by decide +kernel
theorem d33 : decode yB 33 = .ok (.ireturn, 1) := by decide +kernel
theorem d34 : decode yB 34 = .ok (.iconst 0, 1) := by decide +kernel
theorem d35 : decode yB 35 = .ok (.ireturn, 1) := by decide +kernel
def site : List Cond := []
def tab : Cond := tabOf yN yB 3 (some .boolean) site
def P (a : Addr) (A : Cell) (b : Addr) (B : Cell) (args : Array Value) (s : State) : Prop := args = #[.ref a, .ref b] ∧ XT.Arr .byte a A s ∧ Typed .byte A ∧ XT.Arr .byte b B s ∧ Typed .byte B
/-- whether two byte[] are equal, place for place -/
theorem law (l : Launch) (a : Addr) (A : Cell) (b : Addr) (B : Cell) : Law l yN 2 2 0 0 yB 3 (some .boolean) site (P a A b B) (Says01 (EqC A B)) [] 0 0 := by
  refine Law.of_walk (plainFor_of_name (by decide +kernel)) (by decide +kernel) (by decide +kernel) (by decide) (fun _ _ h => by rw [h.1]; rfl) (fun _ U U' hal hh h => ⟨h.1, h.2.1.mv hal hh, h.2.2.1, h.2.2.2.1.mv hal hh, h.2.2.2.2⟩) (fun r U U' V V' h1 hal h2 h => Says01.mv r U U' V V' h1 hal h2 h) ?_
  intro p e s m args below meth c s₁ X0 hexec hbytes hml hret hlk hnm hown hh0 W hP
  obtain ⟨rfl, hA, tA, hB, tB⟩ := hP
  have a31 := hA.2.2.2
  have b31 := hB.2.2.2
  have hA0 := hA.mv X0.warmed.alike hh0
  have hB0 := hB.mv X0.warmed.alike hh0
  have c1 : Steps p.tables e below (s₁.setTop (entryFrame m #[.ref a, .ref b] 3)) (s₁.setTop (mkF m 0 #[.val (.ref a), .val (.ref b), .unset] [])) := entry rfl
  have c2 : Steps p.tables e below (s₁.setTop (entryFrame m #[.ref a, .ref b] 3)) (s₁.setTop (mkF m 4 #[.val (.ref a), .val (.ref b), .unset] [.int (Int32.ofNat B.slots.size), .int (Int32.ofNat A.slots.size)])) := c1.trans (by
    refine XS.aloadN X0.here hexec rfl (hb hbytes d0) rfl rfl ?_
    refine X0.alen hexec hA0 rfl rfl (hb hbytes d1) ?_
    refine XS.aloadN X0.here hexec rfl (hb hbytes d2) rfl rfl ?_
    refine X0.alen hexec hB0 rfl rfl (hb hbytes d3) ?_
    exact Steps.refl _)
  by_cases hs : A.slots.size = B.slots.size
  · have c3 : Steps p.tables e below (s₁.setTop (entryFrame m #[.ref a, .ref b] 3)) (s₁.setTop (mkF m 9 #[.val (.ref a), .val (.ref b), .val (.int 0)] [])) := c2.trans (by
      refine XS.icmpNo X0.here hexec rfl (hb hbytes d4) rfl (ii_ne_f (by rw [hs])) ?_
      refine iconstV X0.here hexec rfl 0 (hb hbytes d7) (by decide) ?_
      refine XS.istoreN X0.here hexec rfl (hb hbytes d8) rfl rfl ?_
      exact Steps.refl _)
    have loop : ∀ (r i : Nat), i + r = A.slots.size → (∀ j, j < i → yv A j = yv B j) → Steps p.tables e below (s₁.setTop (entryFrame m #[.ref a, .ref b] 3)) (s₁.setTop (mkF m 9 #[.val (.ref a), .val (.ref b), .val (.int (Int32.ofNat i))] [])) → ∃ (pc : Nat) (Ls : Array Slot) (v : Int32), (pc = 25 ∨ pc = 33) ∧ ((v = 1 ∧ EqC A B) ∨ (v = 0 ∧ ¬ EqC A B)) ∧ Steps p.tables e below (s₁.setTop (entryFrame m #[.ref a, .ref b] 3)) (s₁.setTop (mkF m pc Ls [.int v])) := by
      intro r
      induction r with
      | zero =>
        intro i hi he cl
        exact ⟨33, _, 1, Or.inr rfl, Or.inl ⟨rfl, hs, fun j hj => he j (by omega)⟩, cl.trans (by
          refine XS.iloadN X0.here hexec rfl (hb hbytes d9) rfl ?_
          refine XS.aloadN X0.here hexec rfl (hb hbytes d10) rfl rfl ?_
          refine X0.alen hexec hA0 rfl rfl (hb hbytes d11) ?_
          refine XS.icmpYes X0.here hexec rfl (pc0 := 12) rfl (hb hbytes d12) rfl (ii_ge_t (nlt32 (by omega) (by omega))) (by decide) rfl ?_
          refine iconstV X0.here hexec rfl 1 (hb hbytes d32) (by decide) ?_
          exact Steps.refl _)⟩
      | succ r ih =>
        intro i hi he cl
        have c4 : Steps p.tables e below (s₁.setTop (entryFrame m #[.ref a, .ref b] 3)) (s₁.setTop (mkF m 21 #[.val (.ref a), .val (.ref b), .val (.int (Int32.ofNat i))] [.int (yv B i), .int (yv A i)])) := cl.trans (by
          refine XS.iloadN X0.here hexec rfl (hb hbytes d9) rfl ?_
          refine XS.aloadN X0.here hexec rfl (hb hbytes d10) rfl rfl ?_
          refine X0.alen hexec hA0 rfl rfl (hb hbytes d11) ?_
          refine XS.icmpNo X0.here hexec rfl (hb hbytes d12) rfl (ii_ge_f (lt32 (by omega) (by omega))) ?_
          refine XS.aloadN X0.here hexec rfl (hb hbytes d15) rfl rfl ?_
          refine XS.iloadN X0.here hexec rfl (hb hbytes d16) rfl ?_
          refine X0.aget hexec hA0 rfl (yv_get hA tA (i := i) (by omega)) rfl rfl (hb hbytes d17) ?_
          refine XS.aloadN X0.here hexec rfl (hb hbytes d18) rfl rfl ?_
          refine XS.iloadN X0.here hexec rfl (hb hbytes d19) rfl ?_
          refine X0.aget hexec hB0 rfl (yv_get hB tB (i := i) (by omega)) rfl rfl (hb hbytes d20) ?_
          exact Steps.refl _)
        by_cases hv : yv A i = yv B i
        · have c5 : Steps p.tables e below (s₁.setTop (entryFrame m #[.ref a, .ref b] 3)) (s₁.setTop (mkF m 9 #[.val (.ref a), .val (.ref b), .val (.int (Int32.ofNat i + 1))] [])) := c4.trans (by
            refine XS.icmpYes X0.here hexec rfl (pc0 := 21) rfl (hb hbytes d21) rfl (ii_eq_t hv) (by decide) rfl ?_
            refine iincV X0.here hexec rfl 1 (hb hbytes d26) (by decide) rfl rfl ?_
            refine XS.goto X0.here hexec rfl (pc0 := 29) rfl (hb hbytes d29) (by decide) rfl ?_
            exact Steps.refl _)
          rw [succ32] at c5
          exact ih (i + 1) (by omega) (fun j hj => by
            by_cases e : j = i
            · rw [e]; exact hv
            · exact he j (by omega)) c5
        · exact ⟨25, _, 0, Or.inl rfl, Or.inr ⟨rfl, fun q => hv (q.2 i (by omega))⟩, c4.trans (by
            refine XS.icmpNo X0.here hexec rfl (hb hbytes d21) rfl (ii_eq_f hv) ?_
            refine iconstV X0.here hexec rfl 0 (hb hbytes d24) (by decide) ?_
            exact Steps.refl _)⟩
    obtain ⟨pc, Ls, v, hpc, hv, cz⟩ := loop A.slots.size 0 (by omega) (fun j hj => absurd hj (Nat.not_lt_zero j)) c3
    have nv : narrow .boolean (.int v) = .int v := by rcases hv with ⟨rfl, -⟩ | ⟨rfl, -⟩ <;> rfl
    rcases hpc with rfl | rfl
    · exact ⟨s₁, some (.int v), _, _, _, X0, rfl, rfl, rfl, (fun h => by cases h), ⟨v, rfl, hh0, hv⟩, fun fs hl => cz.trans (X0.ireturnOut hexec hret nv (Or.inr (Or.inl rfl)) (hb hbytes d25) hl)⟩
    · exact ⟨s₁, some (.int v), _, _, _, X0, rfl, rfl, rfl, (fun h => by cases h), ⟨v, rfl, hh0, hv⟩, fun fs hl => cz.trans (X0.ireturnOut hexec hret nv (Or.inr (Or.inl rfl)) (hb hbytes d33) hl)⟩
  · have c3 : Steps p.tables e below (s₁.setTop (entryFrame m #[.ref a, .ref b] 3)) (s₁.setTop (mkF m 35 #[.val (.ref a), .val (.ref b), .unset] [.int 0])) := c2.trans (by
      refine XS.icmpYes X0.here hexec rfl (pc0 := 4) rfl (hb hbytes d4) rfl (ii_ne_t (ne32 a31 b31 hs)) (by decide) rfl ?_
      refine iconstV X0.here hexec rfl 0 (hb hbytes d34) (by decide) ?_
      exact Steps.refl _)
    exact ⟨s₁, some (.int 0), _, _, _, X0, rfl, rfl, rfl, (fun h => by cases h), ⟨0, rfl, hh0, Or.inr ⟨rfl, fun q => hs q.1⟩⟩, fun fs hl => c3.trans (X0.ireturnOut hexec hret rfl (Or.inr (Or.inl rfl)) (hb hbytes d35) hl)⟩
end LEq
theorem Cod.ty {cd : Int32} {n : Nat} {f : Nat → Int32} {V : Cell} (h : Cod cd n f V) : Typed .byte V := fun i v hv => by
  have hi : i < V.slots.size := (Array.getElem?_eq_some_iff.mp hv).1
  rcases h with ⟨-, k1, k2⟩ | ⟨-, k1, k2, -⟩
  · rw [(k2 i (by omega)).1] at hv; cases hv; exact fits_lo8 _
  · rcases Nat.mod_two_eq_zero_or_one i with e | e
    · obtain ⟨j, rfl⟩ : ∃ j, i = 2 * j := ⟨i / 2, by omega⟩
      rw [(k2 j (by omega)).1] at hv; cases hv; exact fits_lo8 _
    · obtain ⟨j, rfl⟩ : ∃ j, i = 2 * j + 1 := ⟨i / 2, by omega⟩
      rw [(k2 j (by omega)).2] at hv; cases hv; exact fits_lo8 _
/-- the same text -/
def SameT (n : Nat) (f : Nat → Int32) (k : Nat) (g : Nat → Int32) : Prop := n = k ∧ ∀ j, j < n → f j = g j
theorem lo8_inj {x y : Int32} (h0 : ¬ x < 0) (h1 : ¬ 255 < x) (k0 : ¬ y < 0) (k1 : ¬ 255 < y) (h : lo8 x = lo8 y) : x = y := by
  rw [← lo8_mask h0 h1, ← lo8_mask k0 k1, h]
/-- arrays coded by one coder are equal just where the texts are -/
theorem Cod.eqv {cd : Int32} {n k : Nat} {f g : Nat → Int32} {V V' : Cell} (h : Cod cd n f V) (h' : Cod cd k g V') (hf : ∀ j, j < n → ¬ f j < 0 ∧ ¬ 65535 < f j) (hg : ∀ j, j < k → ¬ g j < 0 ∧ ¬ 65535 < g j) : EqC V V' ↔ SameT n f k g := by
  have yvv : ∀ {W : Cell} {i : Nat} {x : Int32}, W.slots[i]? = some (.int x) → yv W i = x := fun q => by unfold yv; rw [q]
  rcases h with ⟨rfl, k1, k2⟩ | ⟨rfl, k1, k2, -⟩
  · rcases h' with ⟨-, m1, m2⟩ | ⟨e, -⟩
    · constructor
      · rintro ⟨e1, e2⟩
        refine ⟨by omega, fun j hj => ?_⟩
        have q := e2 j (by omega)
        rw [yvv (k2 j hj).1, yvv (m2 j (by omega)).1] at q
        exact lo8_inj (hf j hj).1 (k2 j hj).2 (hg j (by omega)).1 (m2 j (by omega)).2 q
      · rintro ⟨rfl, e2⟩
        refine ⟨by omega, fun j hj => ?_⟩
        rw [yvv (k2 j (by omega)).1, yvv (m2 j (by omega)).1, e2 j (by omega)]
    · exact absurd e (by decide)
  · rcases h' with ⟨e, -⟩ | ⟨-, m1, m2, -⟩
    · exact absurd e (by decide)
    · constructor
      · rintro ⟨e1, e2⟩
        refine ⟨by omega, fun j hj => ?_⟩
        have q1 := e2 (2 * j) (by omega)
        have q2 := e2 (2 * j + 1) (by omega)
        rw [yvv (k2 j hj).1, yvv (m2 j (by omega)).1] at q1
        rw [yvv (k2 j hj).2, yvv (m2 j (by omega)).2] at q2
        rw [← pair_says (hf j hj).1 (hf j hj).2, ← pair_says (hg j (by omega)).1 (hg j (by omega)).2, q1, q2]
      · rintro ⟨rfl, e2⟩
        refine ⟨by omega, fun i hi => ?_⟩
        rcases Nat.mod_two_eq_zero_or_one i with e | e
        · obtain ⟨j, rfl⟩ : ∃ j, i = 2 * j := ⟨i / 2, by omega⟩
          rw [yvv (k2 j (by omega)).1, yvv (m2 j (by omega)).1, e2 j (by omega)]
        · obtain ⟨j, rfl⟩ : ∃ j, i = 2 * j + 1 := ⟨i / 2, by omega⟩
          rw [yvv (k2 j (by omega)).2, yvv (m2 j (by omega)).2, e2 j (by omega)]
/-- two codings differ: so do the texts -/
theorem Cod.dif {cd cd' : Int32} {n k : Nat} {f g : Nat → Int32} {V V' : Cell} (h : Cod cd n f V) (h' : Cod cd' k g V') (hne : ¬ cd = cd') : ¬ SameT n f k g := by
  rintro ⟨rfl, e⟩
  rcases h with ⟨rfl, -, k2⟩ | ⟨rfl, -, -, j, hj, hw⟩
  · rcases h' with ⟨rfl, -⟩ | ⟨-, -, -, j, hj, hw⟩
    · exact hne rfl
    · exact (k2 j hj).2 (by rw [e j hj]; exact hw)
  · rcases h' with ⟨-, -, m2⟩ | ⟨rfl, -⟩
    · exact (m2 j hj).2 (by rw [← e j hj]; exact hw)
    · exact hne rfl
/-- an object of exactly C is an instance of C -/
theorem cinst {p : Program} {l : Launch} {e : Env} {R : Room} {s : State} {m : MethodId} {args : Array Value} {below : List Frame} {meth : Method} {c : Code} {T : State} {locs : List Loc} {cells slots : Nat} (X : Stand p l e R s m args below meth c T locs cells slots) (hexec : p.tables.exec = Jvm.exec) {own C : String} {index : Nat} (hown : s.vm.findClass own = some m.cls) (hlink : (Cond.classLink own index C).before args s = true) {a : Addr} (hE : Exact C a T)
    {g : JFrame} (hg : g.method = m) {rest : List Value} (hstack : g.stack = .ref a :: rest) (hdg : decode c.code g.pc = .ok (.instanceof index, 3)) :
    ∃ T', Stand p l e R s m args below meth c T' locs cells slots ∧ T'.heap = T.heap ∧ ∀ target, Steps p.tables e below (T'.setTop { g with pc := g.pc + 3, stack := .int 1 :: rest }) target → Steps p.tables e below (T.setTop g) target := by
  obtain ⟨cB, h1, D, h2, h3, h4⟩ := hE
  have h1' : s.vm.findClass C = some cB := by rw [← X.warmed.alike.findClass]; exact h1
  obtain ⟨vm', X', st⟩ := X.instanceofYes hexec hown hlink h2 h4 h1' (by rw [h3]; exact Jvm.Free.SB.assignable_self _ _) hg hstack hdg
  exact ⟨_, X', rfl, st⟩
theorem cself {p : Program} {l : Launch} {e : Env} {R : Room} {s : State} {m : MethodId} {args : Array Value} {below : List Frame} {meth : Method} {c : Code} {T : State} {locs : List Loc} {cells slots : Nat} (X : Stand p l e R s m args below meth c T locs cells slots) (hexec : p.tables.exec = Jvm.exec) {own C : String} {index : Nat} (hown : s.vm.findClass own = some m.cls) (hlink : (Cond.classLink own index C).before args s = true) {a : Addr} (hE : Exact C a T)
    {g : JFrame} (hg : g.method = m) {rest : List Value} (hstack : g.stack = .ref a :: rest) (hdg : decode c.code g.pc = .ok (.checkcast index, 3)) :
    ∃ T', Stand p l e R s m args below meth c T' locs cells slots ∧ T'.heap = T.heap ∧ ∀ target, Steps p.tables e below (T'.setTop { g with pc := g.pc + 3, stack := .ref a :: rest }) target → Steps p.tables e below (T.setTop g) target := by
  obtain ⟨cB, h1, D, h2, h3, h4⟩ := hE
  have h1' : s.vm.findClass C = some cB := by rw [← X.warmed.alike.findClass]; exact h1
  obtain ⟨vm', X', st⟩ := X.checkcastYes hexec hown hlink h2 h4 h1' (by rw [h3]; exact Jvm.Free.SB.assignable_self _ _) hg hstack hdg
  exact ⟨_, X', rfl, fun t h => st t (by rw [← hstack] at h; exact h)⟩
namespace SEq
def yN : MethodName := ⟨"java/lang/String", "equals", "(Ljava/lang/Object;)Z"⟩
abbrev yB : ByteArray := jdk_42_method_66_code
theorem d0 : decode yB 0 = .ok (.aload_n 0, 1) := by decide +kernel
theorem d1 : decode yB 1 = .ok (.aload_n 1, 1) := by decide +kernel
theorem d2 : decode yB 2 = .ok (.if_acmp (.ne) 5, 3) := by decide +kernel
theorem d5 : decode yB 5 = .ok (.iconst 1, 1) := by decide +kernel
theorem d6 : decode yB 6 = .ok (.ireturn, 1) := by decide +kernel
theorem d7 : decode yB 7 = .ok (.aload_n 1, 1) := by decide +kernel
theorem d8 : decode yB 8 = .ok (.instanceof 10, 3) := by decide +kernel
theorem d11 : decode yB 11 = .ok (.ifCond (.eq) 43, 3) := by decide +kernel
theorem d14 : decode yB 14 = .ok (.aload_n 1, 1) := by decide +kernel
theorem d15 : decode yB 15 = .ok (.checkcast 10, 3) := by decide +kernel
theorem d18 : decode yB 18 = .ok (.astore_n 2, 1) := by decide +kernel
theorem d19 : decode yB 19 = .ok (.getstatic 38, 3) := by decide +kernel
theorem d22 : decode yB 22 = .ok (.ifCond (.eq) 14, 3) := by decide +kernel
theorem d25 : decode yB 25 = .ok (.aload_n 0, 1) := by decide +kernel
theorem d26 : decode yB 26 = .ok (.getfield 15, 3) := by decide +kernel
theorem d29 : decode yB 29 = .ok (.aload_n 2, 1) := by decide +kernel
theorem d30 : decode yB 30 = .ok (.getfield 15, 3) := by decide +kernel
theorem d33 : decode yB 33 = .ok (.if_icmp (.ne) 21, 3) := by decide +kernel
theorem d36 : decode yB 36 = .ok (.aload_n 0, 1) := by decide +kernel
theorem d37 : decode yB 37 = .ok (.getfield 9, 3) := by decide +kernel
theorem d40 : decode yB 40 = .ok (.aload_n 2, 1) := by decide +kernel
theorem d41 : decode yB 41 = .ok (.getfield 9, 3) := by decide +kernel
theorem d44 : decode yB 44 = .ok (.invokestatic 541, 3) := by decide +kernel
theorem d47 : decode yB 47 = .ok (.ifCond (.eq) 7, 3) := by decide +kernel
theorem d50 : decode yB 50 = .ok (.iconst 1, 1) := by decide +kernel
theorem d51 : decode yB 51 = .ok (.goto 4, 3) := by decide +kernel
theorem d54 : decode yB 54 = .ok (.iconst 0, 1) := by decide +kernel
theorem d55 : decode yB 55 = .ok (.ireturn, 1) := by decide +kernel
def site : List Cond := [.classLink "java/lang/String" 10 "java/lang/String", .fieldLink "java/lang/String" 38 "java/lang/String" "COMPACT_STRINGS" "Z", .fieldLink "java/lang/String" 15 "java/lang/String" "coder" "B", .fieldLink "java/lang/String" 9 "java/lang/String" "value" "[B", LEq.tab] ++ staticW "java/lang/String" 541 LEq.yN
def tab : Cond := tabOf yN yB 3 (some .boolean) site
def P (x t : Addr) (V : Cell) (cd : Int32) (n : Nat) (f : Nat → Int32) (y t' : Addr) (V' : Cell) (cd' : Int32) (k : Nat) (g : Nat → Int32) (z : Int32) (args : Array Value) (s : State) : Prop := args = #[.ref x, .ref y] ∧ Txt x t V cd n f s ∧ Txt y t' V' cd' k g s ∧ StaticIs s "java/lang/String" "COMPACT_STRINGS" "Z" (.int z) ∧ ¬ z = 0
/-- equals(Object) of two Strings: whether the texts are the same -/
theorem law (l : Launch) (x t : Addr) (V : Cell) (cd : Int32) (n : Nat) (f : Nat → Int32) (y t' : Addr) (V' : Cell) (cd' : Int32) (k : Nat) (g : Nat → Int32) (z : Int32) : Law l yN 2 1 1 14 yB 3 (some .boolean) site (P x t V cd n f y t' V' cd' k g z) (Says01 (SameT n f k g)) [] 0 0 := by
  refine Law.of_walk (plainFor_of_name (by decide +kernel)) (by decide +kernel) (by decide +kernel) (by decide) (fun _ _ h => by rw [h.1]; rfl) (fun _ U U' hal hh h => ⟨h.1, h.2.1.mv hal hh, h.2.2.1.mv hal hh, h.2.2.2.1.there hal hh, h.2.2.2.2⟩) (fun r U U' V V' h1 hal h2 h => Says01.mv r U U' V V' h1 hal h2 h) ?_
  intro p e s m args below meth c s₁ X0 hexec hbytes hml hret hlk hnm hown hh0 W hP
  obtain ⟨rfl, hx, hy, s1, hz⟩ := hP
  have c1 : Steps p.tables e below (s₁.setTop (entryFrame m #[.ref x, .ref y] 3)) (s₁.setTop (mkF m 2 #[.val (.ref x), .val (.ref y), .unset] [.ref y, .ref x])) := Steps.trans (entry rfl) (by
    show Steps p.tables e below (s₁.setTop (mkF m 0 #[.val (.ref x), .val (.ref y), .unset] [])) _
    refine XS.aloadN X0.here hexec rfl (hb hbytes d0) rfl rfl ?_
    refine XS.aloadN X0.here hexec rfl (hb hbytes d1) rfl rfl ?_
    exact Steps.refl _)
  by_cases hxy : x = y
  · have c2 : Steps p.tables e below (s₁.setTop (entryFrame m #[.ref x, .ref y] 3)) (s₁.setTop (mkF m 6 #[.val (.ref x), .val (.ref y), .unset] [.int 1])) := c1.trans (by
      refine acmpNo X0.here hexec rfl (hb hbytes d2) rfl rfl rfl (by simp [acmp, hxy]) ?_
      refine iconstV X0.here hexec rfl 1 (hb hbytes d5) (by decide) ?_
      exact Steps.refl _)
    subst hxy
    have ec : cd = cd' := by
      obtain ⟨D, fd, a1, a2, a3⟩ := hx.2.2.1
      obtain ⟨D', fd', b1, b2, b3⟩ := hy.2.2.1
      cases a1.symm.trans b1
      obtain ⟨q1, q2, q3, q4⟩ := a2.1
      obtain ⟨r1, r2, r3, r4⟩ := b2.1
      cases q4.symm.trans r4
      cases a3.symm.trans b3; rfl
    have et : t = t' := by
      obtain ⟨D, fd, a1, a2, a3⟩ := hx.2.1
      obtain ⟨D', fd', b1, b2, b3⟩ := hy.2.1
      cases a1.symm.trans b1
      obtain ⟨q1, q2, q3, q4⟩ := a2.1
      obtain ⟨r1, r2, r3, r4⟩ := b2.1
      cases q4.symm.trans r4
      cases a3.symm.trans b3; rfl
    subst ec et
    have ev : V = V' := by cases hx.2.2.2.1.1.symm.trans hy.2.2.2.1.1; rfl
    subst ev
    have hs : SameT n f k g := (Cod.eqv hx.2.2.2.2.1 hy.2.2.2.2.1 hx.2.2.2.2.2 hy.2.2.2.2.2).mp ⟨rfl, fun _ _ => rfl⟩
    exact ⟨s₁, some (.int 1), _, _, _, X0, rfl, rfl, rfl, (fun h => by cases h), ⟨1, rfl, hh0, Or.inl ⟨rfl, hs⟩⟩, fun fs hl => c2.trans (X0.ireturnOut hexec hret rfl (Or.inr (Or.inl rfl)) (hb hbytes d6) hl)⟩
  · have c2 : Steps p.tables e below (s₁.setTop (entryFrame m #[.ref x, .ref y] 3)) (s₁.setTop (mkF m 8 #[.val (.ref x), .val (.ref y), .unset] [.ref y])) := c1.trans (by
      refine acmpYes X0.here hexec rfl (pc0 := 2) rfl (hb hbytes d2) rfl rfl rfl (by simp [acmp, hxy]) (by decide) rfl ?_
      refine XS.aloadN X0.here hexec rfl (hb hbytes d7) rfl rfl ?_
      exact Steps.refl _)
    obtain ⟨T3, X3, q3, st3⟩ := cinst X0 hexec hown (wk W (.classLink "java/lang/String" 10 "java/lang/String")) (hy.mv X0.warmed.alike hh0).1 (g := (mkF m 8 #[.val (.ref x), .val (.ref y), .unset] [.ref y])) rfl (rest := []) rfl (hb hbytes d8)
    have hh3 := q3.trans hh0
    have c4 : Steps p.tables e below (s₁.setTop (entryFrame m #[.ref x, .ref y] 3)) (T3.setTop (mkF m 15 #[.val (.ref x), .val (.ref y), .unset] [.ref y])) := (c2.trans (st3 _ (Steps.refl _))).trans (by
      refine XS.ifNo X3.here hexec rfl (hb hbytes d11) rfl (i0_eq_f (by decide)) ?_
      refine XS.aloadN X3.here hexec rfl (hb hbytes d14) rfl rfl ?_
      exact Steps.refl _)
    obtain ⟨T5, X5, q5, st5⟩ := cself X3 hexec hown (wk W (.classLink "java/lang/String" 10 "java/lang/String")) (hy.mv X3.warmed.alike hh3).1 (g := (mkF m 15 #[.val (.ref x), .val (.ref y), .unset] [.ref y])) rfl (rest := []) rfl (hb hbytes d15)
    have hh5 := q5.trans hh3
    have c6 : Steps p.tables e below (s₁.setTop (entryFrame m #[.ref x, .ref y] 3)) (T5.setTop (mkF m 19 #[.val (.ref x), .val (.ref y), .val (.ref y)] [])) := (c4.trans (st5 _ (Steps.refl _))).trans (by
      refine XS.astoreN X5.here hexec rfl (hb hbytes d18) rfl rfl rfl ?_
      exact Steps.refl _)
    obtain ⟨T7, X7, q7, st7⟩ := X5.sget hexec hown (wk W (.fieldLink "java/lang/String" 38 "java/lang/String" "COMPACT_STRINGS" "Z")) s1 (fun _ _ h => by rw [hh5]; exact h) (g := (mkF m 19 #[.val (.ref x), .val (.ref y), .val (.ref y)] [])) rfl (hb hbytes d19)
    have hh7 := q7.trans hh5
    have c8 : Steps p.tables e below (s₁.setTop (entryFrame m #[.ref x, .ref y] 3)) (T7.setTop (mkF m 26 #[.val (.ref x), .val (.ref y), .val (.ref y)] [.ref x])) := (c6.trans (st7 _ (Steps.refl _))).trans (by
      refine XS.ifNo X7.here hexec rfl (hb hbytes d22) rfl (i0_eq_f hz) ?_
      refine XS.aloadN X7.here hexec rfl (hb hbytes d25) rfl rfl ?_
      exact Steps.refl _)
    obtain ⟨T9, X9, q9, st9⟩ := X7.hget hexec hown (wk W (.fieldLink "java/lang/String" 15 "java/lang/String" "coder" "B")) (hx.mv X7.warmed.alike hh7).2.2.1 (g := (mkF m 26 #[.val (.ref x), .val (.ref y), .val (.ref y)] [.ref x])) rfl (rest := []) rfl (hb hbytes d26)
    have hh9 := q9.trans hh7
    have c10 : Steps p.tables e below (s₁.setTop (entryFrame m #[.ref x, .ref y] 3)) (T9.setTop (mkF m 30 #[.val (.ref x), .val (.ref y), .val (.ref y)] [.ref y, .int cd])) := (c8.trans (st9 _ (Steps.refl _))).trans (by
      refine XS.aloadN X9.here hexec rfl (hb hbytes d29) rfl rfl ?_
      exact Steps.refl _)
    obtain ⟨T11, X11, q11, st11⟩ := X9.hget hexec hown (wk W (.fieldLink "java/lang/String" 15 "java/lang/String" "coder" "B")) (hy.mv X9.warmed.alike hh9).2.2.1 (g := (mkF m 30 #[.val (.ref x), .val (.ref y), .val (.ref y)] [.ref y, .int cd])) rfl (rest := [.int cd]) rfl (hb hbytes d30)
    have hh11 := q11.trans hh9
    have c12 : Steps p.tables e below (s₁.setTop (entryFrame m #[.ref x, .ref y] 3)) (T11.setTop (mkF m 33 #[.val (.ref x), .val (.ref y), .val (.ref y)] [.int cd', .int cd])) := c10.trans (st11 _ (Steps.refl _))
    by_cases hcd : cd = cd'
    · subst hcd
      have c13 : Steps p.tables e below (s₁.setTop (entryFrame m #[.ref x, .ref y] 3)) (T11.setTop (mkF m 37 #[.val (.ref x), .val (.ref y), .val (.ref y)] [.ref x])) := c12.trans (by
        refine XS.icmpNo X11.here hexec rfl (hb hbytes d33) rfl (ii_ne_f rfl) ?_
        refine XS.aloadN X11.here hexec rfl (hb hbytes d36) rfl rfl ?_
        exact Steps.refl _)
      obtain ⟨T14, X14, q14, st14⟩ := X11.hget hexec hown (wk W (.fieldLink "java/lang/String" 9 "java/lang/String" "value" "[B")) (hx.mv X11.warmed.alike hh11).2.1 (g := (mkF m 37 #[.val (.ref x), .val (.ref y), .val (.ref y)] [.ref x])) rfl (rest := []) rfl (hb hbytes d37)
      have hh14 := q14.trans hh11
      have c15 : Steps p.tables e below (s₁.setTop (entryFrame m #[.ref x, .ref y] 3)) (T14.setTop (mkF m 41 #[.val (.ref x), .val (.ref y), .val (.ref y)] [.ref y, .ref t])) := (c13.trans (st14 _ (Steps.refl _))).trans (by
        refine XS.aloadN X14.here hexec rfl (hb hbytes d40) rfl rfl ?_
        exact Steps.refl _)
      obtain ⟨T16, X16, q16, st16⟩ := X14.hget hexec hown (wk W (.fieldLink "java/lang/String" 9 "java/lang/String" "value" "[B")) (hy.mv X14.warmed.alike hh14).2.1 (g := (mkF m 41 #[.val (.ref x), .val (.ref y), .val (.ref y)] [.ref y, .ref t])) rfl (rest := [.ref t]) rfl (hb hbytes d41)
      have hh16 := q16.trans hh14
      have c17 : Steps p.tables e below (s₁.setTop (entryFrame m #[.ref x, .ref y] 3)) (T16.setTop (mkF m 44 #[.val (.ref x), .val (.ref y), .val (.ref y)] [.ref t', .ref t])) := c15.trans (st16 _ (Steps.refl _))
      obtain ⟨v18, T18, X18, E18, g18⟩ := X16.callS hexec (LEq.law l t V t' V') hown (wks W (staticW "java/lang/String" 541 LEq.yN)) (wk W LEq.tab) (W := 0) (Nat.le_of_ble_eq_true rfl) (Nat.le_of_ble_eq_true rfl) (Nat.le_refl _) (Nat.le_refl _) (g := (mkF m 44 #[.val (.ref x), .val (.ref y), .val (.ref y)] [.ref t', .ref t])) rfl (by rw [hml]; rfl) c17 (argsL := [.ref t, .ref t']) (rest := []) rfl rfl (by show 2 * 0 + 0 ≤ _; decide) (hb hbytes d44) (⟨rfl, hx.2.2.2.1.mv X16.warmed.alike hh16, hx.2.2.2.2.1.ty, hy.2.2.2.1.mv X16.warmed.alike hh16, hy.2.2.2.2.1.ty⟩)
      obtain ⟨v, rfl, q18, hv⟩ := E18
      have iff := Cod.eqv hx.2.2.2.2.1 hy.2.2.2.2.1 hx.2.2.2.2.2 hy.2.2.2.2.2
      rcases hv with ⟨rfl, he⟩ | ⟨rfl, he⟩
      · have c19 : Steps p.tables e below (s₁.setTop (entryFrame m #[.ref x, .ref y] 3)) (T18.setTop (mkF m 55 #[.val (.ref x), .val (.ref y), .val (.ref y)] [.int 1])) := Steps.trans g18 (by
          refine XS.ifNo X18.here hexec rfl (hb hbytes d47) rfl (i0_eq_f (by decide)) ?_
          refine iconstV X18.here hexec rfl 1 (hb hbytes d50) (by decide) ?_
          refine XS.goto X18.here hexec rfl (pc0 := 51) rfl (hb hbytes d51) (by decide) rfl ?_
          exact Steps.refl _)
        exact ⟨T18, some (.int 1), _, _, _, X18, rfl, rfl, rfl, (fun h => by cases h), ⟨1, rfl, q18.trans hh16, Or.inl ⟨rfl, iff.mp he⟩⟩, fun fs hl => c19.trans (X18.ireturnOut hexec hret rfl (Or.inr (Or.inl rfl)) (hb hbytes d55) hl)⟩
      · have c19 : Steps p.tables e below (s₁.setTop (entryFrame m #[.ref x, .ref y] 3)) (T18.setTop (mkF m 55 #[.val (.ref x), .val (.ref y), .val (.ref y)] [.int 0])) := Steps.trans g18 (by
          refine XS.ifYes X18.here hexec rfl (pc0 := 47) rfl (hb hbytes d47) rfl (i0_eq_t rfl) (by decide) rfl ?_
          refine iconstV X18.here hexec rfl 0 (hb hbytes d54) (by decide) ?_
          exact Steps.refl _)
        exact ⟨T18, some (.int 0), _, _, _, X18, rfl, rfl, rfl, (fun h => by cases h), ⟨0, rfl, q18.trans hh16, Or.inr ⟨rfl, fun q => he (iff.mpr q)⟩⟩, fun fs hl => c19.trans (X18.ireturnOut hexec hret rfl (Or.inr (Or.inl rfl)) (hb hbytes d55) hl)⟩
    · have c13 : Steps p.tables e below (s₁.setTop (entryFrame m #[.ref x, .ref y] 3)) (T11.setTop (mkF m 55 #[.val (.ref x), .val (.ref y), .val (.ref y)] [.int 0])) := c12.trans (by
        refine XS.icmpYes X11.here hexec rfl (pc0 := 33) rfl (hb hbytes d33) rfl (ii_ne_t hcd) (by decide) rfl ?_
        refine iconstV X11.here hexec rfl 0 (hb hbytes d54) (by decide) ?_
        exact Steps.refl _)
      exact ⟨T11, some (.int 0), _, _, _, X11, rfl, rfl, rfl, (fun h => by cases h), ⟨0, rfl, hh11, Or.inr ⟨rfl, Cod.dif hx.2.2.2.2.1 hy.2.2.2.2.1 hcd⟩⟩, fun fs hl => c13.trans (X11.ireturnOut hexec hret rfl (Or.inr (Or.inl rfl)) (hb hbytes d55) hl)⟩
theorem pays {l : Launch} {R : Room} {p : Program} {e : Env} {below : List Frame} {s : State} {sargs : Array Value} {len W : Nat} (x t : Addr) (V : Cell) (cd : Int32) (n : Nat) (f : Nat → Int32) (y t' : Addr) (V' : Cell) (cd' : Int32) (k : Nat) (g : Nat → Int32) (z : Int32) (htab : tab.before sargs s = true) (hfr : 2 ≤ R.frames) (hlo : W + 28 ≤ R.locals) :
    Back l R p e below s sargs yN len W (fun A₁ a₁ => A₁.cells + 0 ≤ R.cells ∧ A₁.slots + 0 ≤ R.slots ∧ P x t V cd n f y t' V' cd' k g z a₁ A₁.U) (fun A₁ _ v₁ B₁ => Says01 (SameT n f k g) v₁ A₁.U B₁.U ∧ B₁.locs = A₁.locs ++ [] ∧ B₁.cells = A₁.cells + 0 ∧ B₁.slots = A₁.slots + 0) :=
  (law l x t V cd n f y t' V' cd' k g z).pays htab hfr (by omega)
end SEq
end StrChars
namespace StrChars.Road
open Jvm Sem ClassFile Op Lib Jvm.Stand Jvm.Free Jvm.Free.XT
open Jvm.Lib.Cold (StaticIs)
/-- the words of String.equals(Object) -/
abbrev wordsEq : List Jvm.Cond := [.code SEq.yN SEq.yB 3 (some .boolean), .initialized ST, .classLink ST 10 ST, .fieldLink ST 38 ST "COMPACT_STRINGS" "Z", .fieldLink ST 15 ST "coder" "B", .fieldLink ST 9 ST "value" "[B", .methodLink ST 541 LEq.yN, .static LEq.yN, .code LEq.yN LEq.yB 3 (some .boolean), .initialized "java/lang/StringLatin1"]
theorem tabEq_of {a : Array Value} {s : State} (h : ∀ w ∈ wordsEq, w.before a s = true) : SEq.tab.before a s = true := by
  have hl : LEq.tab.before a s = true := unparts (wk h (.code LEq.yN LEq.yB 3 (some .boolean))) (wks h (.initialized LEq.yN.cls :: LEq.site))
  have q := consq hl h
  exact unparts (wk q (.code SEq.yN SEq.yB 3 (some .boolean))) (wks q (.initialized SEq.yN.cls :: SEq.site))
theorem movedEq {Z s : State} {a0 args : Array Value} (hZ : Z.Warmed39 s.vm) (hw : ∀ d ∈ wordsEq, d.before a0 Z = true) : ∀ d ∈ wordsEq, d.before args s = true := fun d hd => by
  have t : ∀ d ∈ wordsEq, (d.onTables && d.keepsFace) = true := by decide +kernel
  exact RoadKit.mv hZ (hw d hd) (t d hd)
/-- the road's facts of a String, as the laws ask it -/
theorem txt_of {Z U : State} {a0 : Array Value} {kI : Nat} (wi : (Jvm.Cond.instantiable ST kI).before a0 Z = true) (al : Z.vm.Alike U.vm) {x t : Addr} {kb : ClassId} {cs : List Int32} {cd N2 : Int32} {vs : List Value} (E : RoadKit.Exa Z U.heap x ST) (V : RoadKit.Fld Z U.heap x ST "value" "[B" (.ref t)) (C : RoadKit.Fld Z U.heap x ST "coder" "B" (.int cd)) (K : RoadKit.Arv Z U.heap t kb .byte N2 vs (.int 0)) (hc : CodA cs cd N2 vs) (hb : ∀ c ∈ cs, ¬ c < 0 ∧ ¬ (65535 : Int32) < c) (l2 : cs.length ≤ 4000) :
    ∃ A, Txt x t A cd cs.length (fun j => cs.getD j 0) U := by
  obtain ⟨A, K1, K2, K3, K4, K5, K6⟩ := K
  have hcod := hc.cod (by omega) K3 K5
  obtain ⟨D, fV, fC, hB, F1, F2, g1, g2, -, -⟩ := strObj wi al E V C
  exact ⟨A, ⟨_, hB.2.2.1, D, hB.1, rfl, by cases q : D.vm <;> first | rfl | exact absurd q (hB.2.1.2 _)⟩, Has.of hB F1 g1, Has.of hB F2 g2, ⟨K1.1, State.isArrayOf_alike al K1.2.1, K1.2.2, by rcases hcod with ⟨-, q, -⟩ | ⟨-, q, -⟩ <;> omega⟩, hcod, fun j hj => by
    have e : cs.getD j 0 = cs[j] := by simp [List.getD_eq_getElem?_getD, hj]
    show ¬ cs.getD j 0 < 0 ∧ ¬ 65535 < cs.getD j 0
    rw [e]; exact hb _ (List.getElem_mem _)⟩
theorem same_list (cs ds : List Int32) : SameT cs.length (fun j => cs.getD j 0) ds.length (fun j => ds.getD j 0) ↔ cs = ds := by
  constructor
  · rintro ⟨e, q⟩
    refine List.ext_getElem e fun j h1 h2 => ?_
    have := q j h1
    simpa [List.getD_eq_getElem?_getD, h1, h2] using this
  · rintro rfl
    exact ⟨rfl, fun _ _ => rfl⟩
/-- **equals(Object) OF TWO SUCH STRINGS**: 1 just where the chars are the same -/
theorem eqW {p : Program} {l : Launch} {e : Env} {R : Room} {s : State} {args : Array Value} {below : List Frame} {len W : Nat} {Z : State} {a0 : Array Value} {h : Heap} (hZ : Z.Warmed39 s.vm) (hw : ∀ d ∈ wordsEq, d.before a0 Z = true) {kI : Nat} (wi : (Jvm.Cond.instantiable ST kI).before a0 Z = true)
    {x t : Addr} {kb : ClassId} {cs : List Int32} {cd N2 : Int32} {vs : List Value} (E : RoadKit.Exa Z h x ST) (V : RoadKit.Fld Z h x ST "value" "[B" (.ref t)) (C : RoadKit.Fld Z h x ST "coder" "B" (.int cd)) (K : RoadKit.Arv Z h t kb .byte N2 vs (.int 0)) (hc : CodA cs cd N2 vs) (hb : ∀ c ∈ cs, ¬ c < 0 ∧ ¬ (65535 : Int32) < c) (l2 : cs.length ≤ 4000)
    {y t' : Addr} {kb' : ClassId} {ds : List Int32} {cd' N2' : Int32} {vs' : List Value} (E' : RoadKit.Exa Z h y ST) (V' : RoadKit.Fld Z h y ST "value" "[B" (.ref t')) (C' : RoadKit.Fld Z h y ST "coder" "B" (.int cd')) (K' : RoadKit.Arv Z h t' kb' .byte N2' vs' (.int 0)) (hc' : CodA ds cd' N2' vs') (hb' : ∀ c ∈ ds, ¬ c < 0 ∧ ¬ (65535 : Int32) < c) (l2' : ds.length ≤ 4000)
    {z : Int32} (S : RoadKit.Sta Z h ST "COMPACT_STRINGS" "Z" (.int z)) (hz : ¬ z = 0) (hfr : 2 ≤ R.frames) (hlo : W + 28 ≤ R.locals) :
    Back l R p e below s args (⟨"java/lang/String", "equals", "(Ljava/lang/Object;)Z"⟩ : MethodName) len W (fun P a => a = #[.ref x, .ref y] ∧ P.U.heap = h ∧ P.cells + 0 ≤ R.cells ∧ P.slots + 0 ≤ R.slots)
      (fun P _ v B => ∃ L, (((v = some (.int 1) ∧ cs = ds) ∨ (v = some (.int 0) ∧ ¬ cs = ds)) ∧ L = [] ∧ B.U.heap = h) ∧ B.locs = P.locs ++ L ∧ B.cells = P.cells + 0 ∧ B.slots = P.slots + 0) := by
  intro m meth c P g ig mk a X hg hsize hdg hW hn hp'
  obtain ⟨rfl, rfl, r1, r2⟩ := hp'
  have al : Z.vm.Alike P.U.vm := hZ.alike.trans X.warmed.alike
  obtain ⟨A, hx⟩ := txt_of wi al E V C K hc hb l2
  obtain ⟨A', hy⟩ := txt_of wi al E' V' C' K' hc' hb' l2'
  obtain ⟨v, B, X', ⟨⟨w, hv, hh, hq⟩, hl, hk, hs⟩, st⟩ := SEq.pays x t A cd cs.length (fun j => cs.getD j 0) y t' A' cd' ds.length (fun j => ds.getD j 0) z (tabEq_of (movedEq hZ hw)) hfr hlo m meth c P g ig mk _ X hg hsize hdg hW hn ⟨r1, r2, rfl, hx, hy, sta_is al S, hz⟩
  refine ⟨v, B, X', ⟨[], ⟨?_, rfl, hh⟩, hl, hk, hs⟩, st⟩
  rcases hq with ⟨rfl, q⟩ | ⟨rfl, q⟩
  · exact Or.inl ⟨hv, (same_list cs ds).mp q⟩
  · exact Or.inr ⟨hv, fun e => q ((same_list cs ds).mpr e)⟩
end StrChars.Road
namespace StrChars.Road
open Jvm Sem ClassFile Op Lib Jvm.Stand Jvm.Free Jvm.Free.XT
open Jvm.Lib.Cold (StaticIs)
/-- what backV says of its String, as the contracts of this text ask it: cs's low bytes, coder 0 -/
theorem codOf {cs : List Int32} {n : Nat} (hn : cs.length = n) (hb : ∀ c ∈ cs, ¬ 255 < c) : CodA cs 0 (Int32.ofNat n) ((cs.map lo8).map Value.int) := Or.inl ⟨rfl, by rw [hn], by simp [List.map_map, Function.comp_def], hb⟩
end StrChars.Road
end Jvm.Pilot.@@N@@
namespace Jvm.OwnK
def EL : List (String × Nat) := [("java/lang/String", 7)]
end Jvm.OwnK
namespace Jvm.OwnK
open Sem ClassFile Op Lib Jvm.Stand Jvm.Free Jvm.LawKit Jvm.RoadKit
/-- what a body leaves: Q of its value and heap; what it wrote lies in new cells; the old cells stand -/
def Out (Z s : State) (Q : Option Value → Heap → Prop) (k n : Nat) (o : Outcome) (U : State) : Prop :=
  ∃ v L, o = .returned v ∧ (Q v U.heap ∧ Fr Z.heap.size L ∧ Old Z Z.heap.size U.heap) ∧ CHr Z EL s.vm s.heap U.vm U.heap ∧ ReturnedEndW s o U L k n
/-- the words under which String constants are loaded -/
def Wd (Z : State) : Prop := ∃ a0, EW Z a0 EL ∧ ∀ a ∈ Bundle.stringAtoms, a.before a0 Z = true
/-- from here the walk ends, and G holds of its end -/
def Go (tb : Tables) (e : Env) (below : List Frame) (G : Outcome → State → Prop) (T : State) (F : JFrame) : Prop :=
  ∃ s₂ o, Steps tb e below (T.setTop F) s₂ ∧ s₂.status = .running ∧ Ended s₂ below o ∧ G o s₂
/-- where the walk stands, with its heap -/
def Wk (p : Program) (l : Launch) (e : Env) (R : Room) (s : State) (m : MethodId) (args : Array Value) (below : List Frame) (meth : Method) (c : Code) (Z T : State) (h : Heap) (k n : Nat) (ss : List Addr) : Prop :=
  ∃ locs vm0 k0, Stand p l e R (s.setVm vm0) m args below meth c T locs k n ∧ T.heap = h ∧ Fr Z.heap.size locs ∧ Old Z Z.heap.size h ∧ s.Since vm0 k0 ∧ k0 ≤ h.size ∧ CHr Z EL s.vm s.heap vm0 h ∧ ∀ x ∈ ss, x < h.size ∧ Safe Z EL vm0 h x
/-- what is known of the body -/
def Bdy (p : Program) (Z s : State) (m : MethodId) (meth : Method) (c : Code) (own : String) (bytes : ByteArray) (maxL : Nat) (ret : Option FieldType) (nm : String) : Prop :=
  p.tables.exec = Jvm.exec ∧ Z.Warmed39 s.vm ∧ s.vm.findClass own = some m.cls ∧ c.code = bytes ∧ c.maxLocals = maxL ∧ meth.sig.returnType = ret ∧ meth.locks = false ∧ meth.name = nm ∧ Wd Z
/-- a contract -/
def Con (l : Launch) (Z : State) (y : MethodName) (bytes : ByteArray) (maxL : Nat) (ret : Option FieldType) (ws : List Cond) (rm : Room) (as' : Array Value) (h0 : Heap) (Q : Option Value → Heap → Prop) (ss : List Addr) : Prop :=
  Wd Z → Old Z Z.heap.size h0 → MetFree l y (head1 (Cond.code y bytes maxL ret :: ws) rm) (fun a U => a = as' ∧ Z.Warmed39 U.vm ∧ U.heap = h0 ∧ CHv Z EL U.vm h0 ∧ ∀ x ∈ ss, x < h0.size ∧ Safe Z EL U.vm h0 x) (fun _ _ _ _ _ => True) (fun _ U o U' => Out Z U Q rm.cells rm.slots o U')
def bi (b : Bool) : Int32 := if b then 1 else 0
theorem bi_t {b : Bool} (h : b = true) : ¬ bi b = 0 := by subst h; decide
theorem bi_f {b : Bool} (h : b = false) : bi b = 0 := by subst h; rfl
theorem bi_nar (b : Bool) : nar .boolean (bi b) = bi b := by cases b <;> rfl
theorem bi_tt : bi true = 1 := rfl
theorem bi_ff : bi false = 0 := rfl
theorem bi_inj {a b : Bool} : (bi a = bi b) = (a = b) := by cases a <;> cases b <;> decide
theorem own_nb (b : Bool) : narrow .boolean (.int (bi b)) = .int (bi b) := by cases b <;> rfl
theorem own_fb (b : Bool) : fits .boolean (.int (bi b)) = true := by cases b <;> rfl
theorem own_fr {t : FieldType} {v : Value} (ht : t.isReference = true) (hv : v.isRef = true) : fits t v = true := by cases t <;> cases v <;> first | rfl | (exfalso; revert ht hv; simp [FieldType.isReference, Value.isRef]; done)
theorem own_i2c (a : Int32) : ∃ x : Int32, a.toUInt32.toUInt16.toUInt32.toInt32 = x ∧ nar .char x = x ∧ 0 ≤ x.toInt ∧ x.toInt < 65536 := by
  refine ⟨_, rfl, ?_, (c_i2c a).2.1, (c_i2c a).2.2⟩
  show (a.toUInt32.toUInt16.toUInt32.toInt32).toUInt32.toUInt16.toUInt32.toInt32 = _
  simp only [UInt32.toUInt32_toInt32, UInt16.toUInt16_toUInt32]
theorem own_i2cm (a : Int32) : ∃ x : Int32, (a &&& 255).toUInt32.toUInt16.toUInt32.toInt32 = x ∧ nar .char x = x ∧ ¬ x < 0 ∧ ¬ 255 < x := by
  refine ⟨_, rfl, ?_, ?_⟩
  · show ((a &&& 255).toUInt32.toUInt16.toUInt32.toInt32).toUInt32.toUInt16.toUInt32.toInt32 = _
    simp only [UInt32.toUInt32_toInt32, UInt16.toUInt16_toUInt32]
  · rw [i2c_mask]
    have q := c_and a 255 (by decide)
    simp only [Int32.lt_iff_toInt_lt, Int32.reduceToInt] at *; omega
theorem own_and1 {a b : Bool} (h : b = true) : (bi a &&& 1) = bi (a && b) := by subst h; cases a <;> decide
theorem own_and0 {a b : Bool} (h : b = false) : (bi a &&& 0) = bi (a && b) := by subst h; cases a <;> decide
theorem own_andb (a b : Bool) : (bi a &&& bi b) = bi (a && b) := by cases a <;> cases b <;> decide
theorem own_inc (i : Nat) : Int32.ofNat i + 1 = Int32.ofNat (i + 1) := (Int32.ofNat_add i 1).symm
theorem own_ofNat {i : Nat} (h : i < 2147483648) : (Int32.ofNat i).toInt = i := by
  have := Int32.toInt_ofNat_of_lt (n := i) (by omega); exact this
theorem own_clamp {i : Nat} (h : i < 2147483648) : (Int32.ofNat i).toNatClampNeg = i := by
  simp only [Int32.toNatClampNeg, own_ofNat h]; omega
theorem own_lt {i j : Nat} (hi : i < 2147483648) (hj : j < 2147483648) : (Int32.ofNat i < Int32.ofNat j) ↔ i < j := by
  rw [Int32.lt_iff_toInt_lt, own_ofNat hi, own_ofNat hj]; omega
theorem own_ixok {i n : Nat} (hi : i < n) (hn : n < 2147483648) : ¬ Int32.ofNat i < 0 ∧ Int32.ofNat i < Int32.ofNat n := by
  refine ⟨?_, (own_lt (by omega) hn).mpr hi⟩
  rw [Int32.lt_iff_toInt_lt, own_ofNat (by omega)]; show ¬ ((i : Int) < 0); omega
theorem nar_b0 : nar .boolean 0 = 0 := by decide
theorem nar_b1 : nar .boolean 1 = 1 := by decide
theorem old_le {Z : State} {h : Heap} (O : Old Z Z.heap.size h) : Z.heap.size ≤ h.size := O.2.1
theorem nlt {x : Addr} {n : Nat} (h : x < n) : @LT.lt Nat _ x n := h
theorem nne {x y : Addr} (h : ¬ @Eq Nat x y) : x ≠ y := h
theorem own_root {Z : State} {a0 : Array Value} {O K : String} {kk : Nat} (w : (Cond.noSuperclass O).before a0 Z = true) (wk : (Cond.instantiable K kk).before a0 Z = true) (hn : O ≠ K) : NS Z O K := by
  obtain ⟨c, k, h1, h2, h3, -, -⟩ := Cond.noSuperclass_spec w
  obtain ⟨t, kt, g1, -⟩ := Cond.instantiable_spec wk
  have ne := ids_ne h1 g1 hn
  refine ⟨c, t, h1, g1, fun fuel => ?_⟩
  cases fuel with
  | zero => rfl
  | succ f => simp [Vm.isSubclassAux, ne, h2, h3]
theorem own_no {Z : State} {a0 : Array Value} {C S K : String} {kk : Nat} (w : (Cond.superclass C S).before a0 Z = true) (wk : (Cond.instantiable K kk).before a0 Z = true) (n : NS Z C K) (hn : C ≠ K) : ∃ c t, Z.vm.findClass C = some c ∧ Z.vm.findClass K = some t ∧ Z.vm.assignable c t = false := by
  obtain ⟨c, t, h0, g0, n3⟩ := n
  obtain ⟨p, k, kp, h1, h2, h3, h4, h5, -, h7⟩ := Cond.superclass_spec h0 w
  obtain ⟨t', kt, g1, g2, g3, g4, -⟩ := Cond.instantiable_spec wk
  cases g0.symm.trans g1
  have ne := ids_ne h0 g0 hn
  have g5 : kt.isInterface = false := by cases hq : kt.isInterface <;> simp [hq] at g4 ⊢
  refine ⟨c, t, h0, g0, ?_⟩
  show Z.vm.assignableAux (255 + 1) c t = false
  simp [Vm.assignableAux, ne, h2, g2, h5, g3, g5, Vm.isSubclass, n3]
theorem own_03 (x : Int32) : (x &&& 3) = 0 ∨ (x &&& 3) = 1 ∨ (x &&& 3) = 2 ∨ (x &&& 3) = 3 := by
  have q := c_and x 3 (by decide)
  simp only [← Int32.toInt_inj, Int32.reduceToInt] at *; omega
section K
variable {p : Program} {l : Launch} {e : Env} {R : Room} {s : State} {m : MethodId} {args : Array Value} {below : List Frame} {meth : Method} {c : Code} {Z T T' : State} {h h' : Heap} {k n : Nat} {own nm : String} {bytes : ByteArray} {maxL : Nat} {ret : Option FieldType} {G : Outcome → State → Prop} {pc : Nat} {ls : Array Slot} {st : List Value} {Q : Option Value → Heap → Prop} {a0 : Array Value} {ss : List Addr}
theorem Bdy.nameOf (B : Bdy p Z s m meth c own bytes maxL ret nm) : meth.name = nm := B.2.2.2.2.2.2.2.1
theorem Go.by {tb : Tables} {F F' : JFrame} (hs : ∀ t, Steps tb e below (T'.setTop F') t → Steps tb e below (T.setTop F) t) (q : Go tb e below G T' F') : Go tb e below G T F := by
  obtain ⟨s2, o, a, b⟩ := q; exact ⟨s2, o, hs _ a, b⟩
theorem own_gc {tb : Tables} {v v' : Int32} (hv : v = v') (q : Go tb e below G T (mkF m pc ls (.int v :: st))) : Go tb e below G T (mkF m pc ls (.int v' :: st)) := hv ▸ q
theorem Go.cast {tb : Tables} {F F' : JFrame} (hs : F = F') (q : Go tb e below G T F') : Go tb e below G T F := hs ▸ q
theorem Con.of {y : MethodName} {ws : List Cond} {rm : Room} {as' : Array Value} {h0 : Heap} (hpl : plainFor y = true)
    (body : ∀ p e s m below meth c T, Bdy p Z s m meth c y.cls bytes maxL ret y.name → Wk p l e rm s m as' below meth c Z T h0 0 0 ss → Go p.tables e below (Out Z s Q rm.cells rm.slots) T (entryFrame m as' maxL)) : Con l Z y bytes maxL ret ws rm as' h0 Q ss := by
  intro hWd hO
  refine MetFree.of_bodySF hpl hisR ?_
  intro p e s m args below meth c s₁ Bd hml0 hP hK
  obtain ⟨rfl, hZ, hh, hC, hss⟩ := hP
  subst hh
  exact body p e s m below meth c s₁ ⟨Bd.exec, hZ, findClass_of_methodNamed Bd.named, Bd.bytes, hml0, Bd.returns, Bd.notSynchronized, (name_of_methodNamed Bd.named Bd.method).1, hWd⟩ ⟨[], s.vm, s.heap.size, Stand.of_body Bd, by rw [Bd.state]; rfl, Fr.nil _, hO, (State.WarmedH.refl s).since _, Nat.le_refl _, CHr.refl hC, hss⟩
theorem Bdy.at {vm0 : Vm} {k0 : Nat} (B : Bdy p Z s m meth c own bytes maxL ret nm) (S : s.Since vm0 k0) : Bdy p Z (s.setVm vm0) m meth c own bytes maxL ret nm :=
  ⟨B.1, State.Warmed39.trans B.2.1 S.1, (S.1.alike.findClass _ _).trans B.2.2.1, B.2.2.2⟩
theorem Wk.size (W : Wk p l e R s m args below meth c Z T h k n ss) : Z.heap.size ≤ h.size := by obtain ⟨_, _, _, _, _, _, O, _⟩ := W; exact O.2.1
theorem Wk.old (W : Wk p l e R s m args below meth c Z T h k n ss) : Old Z Z.heap.size h := by obtain ⟨_, _, _, _, _, _, O, _⟩ := W; exact O
theorem Sta.old {C nf d : String} {v : Value} (F : Sta Z Z.heap C nf d v) (W : Old Z Z.heap.size h) : Sta Z h C nf d v := F.ext W.2
theorem Wk.more {k' n' : Nat} (W : Wk p l e R s m args below meth c Z T h k n ss) (hk : k ≤ k') (hn : n ≤ n') : Wk p l e R s m args below meth c Z T h k' n' ss := by
  obtain ⟨locs, vm0, k0, X, r⟩ := W; exact ⟨locs, vm0, k0, X.more hk hn, r⟩
/-! ### the ends -/
theorem go_end (B : Bdy p Z s m meth c own bytes maxL ret nm) (W : Wk p l e R s m args below meth c Z T h k n ss) {F : JFrame} {v : Option Value} {k' n' : Nat} (hv : ret = none → v = none) (hQ : Q v h) (hk : k ≤ k') (hn : n ≤ n')
    (hst : ∀ (s : State) (locs : List Loc) (fs : List Frame), Stand p l e R s m args below meth c T locs k n → (∀ (f : JFrame) (acts : List Action), f.method = m → f.locked = none → f.entered = [] → (doReturn e (T.setTop f) acts v).1 = T.setFrames fs) → Steps p.tables e below (T.setTop F) (T.setFrames fs)) :
    Go p.tables e below (Out Z s Q k' n') T F := by
  obtain ⟨locs, vm0, k0, X, eT, N, O, S, hk0, H, hss⟩ := W
  have B' := B.at S
  obtain ⟨a0, hEW, -⟩ := B.2.2.2.2.2.2.2.2
  obtain ⟨fs, hr, hrun, hended, e1, e2, e3, e4⟩ := X.leaveW S (by rw [eT]; exact hk0) (v := v) (fun q => hv (B.2.2.2.2.2.1 ▸ q)) B.2.2.2.2.2.2.1
  have eT' : (T.setFrames fs).heap = h := eT
  have H2 := H.trans (CHv.at X B'.2.1 hEW H.1)
  exact ⟨_, _, hst _ locs fs X hr, hrun, hended, _, _, rfl, ⟨by rw [eT']; exact hQ, N, by rw [eT']; exact O⟩, by rw [eT']; exact H2, e1, e2, e3, e4.mono hk hn⟩
theorem r_i (B : Bdy p Z s m meth c own bytes maxL (some .int) nm) (W : Wk p l e R s m args below meth c Z T h k n ss) {z : Int32} {k' n' : Nat} (hd : decode bytes pc = .ok (.ireturn, 1)) (hk : k ≤ k') (hn : n ≤ n') (hQ : Q (some (.int z)) h) : Go p.tables e below (Out Z s Q k' n') T (mkF m pc ls (.int z :: st)) :=
  go_end B W (fun q => by cases q) hQ hk hn fun _ _ _ X hr => retOut X B.1 B.2.2.2.2.2.1 rfl (Or.inl ⟨rfl, Or.inl rfl, _, rfl⟩) (hb B.2.2.2.1 hd) hr
theorem r_b (B : Bdy p Z s m meth c own bytes maxL (some .boolean) nm) (W : Wk p l e R s m args below meth c Z T h k n ss) {b : Bool} {k' n' : Nat} (hd : decode bytes pc = .ok (.ireturn, 1)) (hk : k ≤ k') (hn : n ≤ n') (hQ : Q (some (.int (bi b))) h) : Go p.tables e below (Out Z s Q k' n') T (mkF m pc ls (.int (bi b) :: st)) :=
  go_end B W (fun q => by cases q) (v := some (.int (nar .boolean (bi b)))) (by rw [bi_nar]; exact hQ) hk hn fun _ _ _ X hr => retN X B.1 B.2.2.2.2.2.1 (Or.inl rfl) (hb B.2.2.2.1 hd) hr
theorem r_n (B : Bdy p Z s m meth c own bytes maxL ret nm) (W : Wk p l e R s m args below meth c Z T h k n ss) {t : FieldType} {z : Int32} {k' n' : Nat} (hret : ret = some t) (ht : t = .boolean ∨ t = .byte ∨ t = .char ∨ t = .short) (hd : decode bytes pc = .ok (.ireturn, 1)) (hk : k ≤ k') (hn : n ≤ n') (hQ : Q (some (.int (nar t z))) h) : Go p.tables e below (Out Z s Q k' n') T (mkF m pc ls (.int z :: st)) :=
  go_end B W (fun q => by rw [hret] at q; cases q) hQ hk hn fun _ _ _ X hr => retN X B.1 (B.2.2.2.2.2.1.trans hret) ht (hb B.2.2.2.1 hd) hr
theorem nar_ref {t : FieldType} {v : Value} (ht : t.isReference = true) : narrow t v = v := by cases t <;> first | rfl | (exfalso; revert ht; simp [FieldType.isReference]; done) | (cases v <;> rfl)
theorem r_a (B : Bdy p Z s m meth c own bytes maxL ret nm) (W : Wk p l e R s m args below meth c Z T h k n ss) {t : FieldType} {v : Value} {k' n' : Nat} (hret : ret = some t) (ht : t.isReference = true) (hv : v.isRef = true) (hd : decode bytes pc = .ok (.areturn, 1)) (hk : k ≤ k') (hn : n ≤ n') (hQ : Q (some v) h) : Go p.tables e below (Out Z s Q k' n') T (mkF m pc ls (v :: st)) :=
  go_end B W (fun q => by rw [hret] at q; cases q) hQ hk hn fun _ _ _ X hr => retOut X B.1 (B.2.2.2.2.2.1.trans hret) (nar_ref ht) (Or.inr (Or.inr (Or.inr (Or.inr ⟨rfl, ht, hv⟩)))) (hb B.2.2.2.1 hd) hr
theorem r_v (B : Bdy p Z s m meth c own bytes maxL none nm) (W : Wk p l e R s m args below meth c Z T h k n ss) {k' n' : Nat} (hd : decode bytes pc = .ok (.return_, 1)) (hk : k ≤ k') (hn : n ≤ n') (hQ : Q none h) : Go p.tables e below (Out Z s Q k' n') T (mkF m pc ls []) :=
  go_end B W (fun _ => rfl) hQ hk hn fun _ _ _ X hr => X.returnOut B.1 B.2.2.2.2.2.1 (hb B.2.2.2.1 hd) hr
theorem r_l (B : Bdy p Z s m meth c own bytes maxL (some .long) nm) (W : Wk p l e R s m args below meth c Z T h k n ss) {z : Int64} {k' n' : Nat} (hd : decode bytes pc = .ok (.lreturn, 1)) (hk : k ≤ k') (hn : n ≤ n') (hQ : Q (some (.long z)) h) : Go p.tables e below (Out Z s Q k' n') T (mkF m pc ls (.long z :: st)) :=
  go_end B W (fun q => by cases q) hQ hk hn fun _ _ _ X hr => retOut X B.1 B.2.2.2.2.2.1 rfl (Or.inr (Or.inl ⟨rfl, rfl, _, rfl⟩)) (hb B.2.2.2.1 hd) hr
/-! ### plain steps -/
theorem g_aload_n (B : Bdy p Z s m meth c own bytes maxL ret nm) (W : Wk p l e R s m args below meth c Z T h k n ss) {i : Fin 4} {v : Value} (hd : decode bytes pc = .ok (.aload_n i, 1)) (hl : ls[i.val]? = some (.val v)) (hv : v.isRef = true) (q : Go p.tables e below G T (mkF m (pc + 1) ls (v :: st))) : Go p.tables e below G T (mkF m pc ls st) := by
  obtain ⟨_, _, _, X, -⟩ := W
  exact Go.by (fun t q => XS.aloadN X.here B.1 rfl (hb B.2.2.2.1 hd) hl hv q) q
theorem g_aload (B : Bdy p Z s m meth c own bytes maxL ret nm) (W : Wk p l e R s m args below meth c Z T h k n ss) {i : Nat} {v : Value} (hd : decode bytes pc = .ok (.aload i, 2)) (hl : ls[i]? = some (.val v)) (hv : v.isRef = true) (q : Go p.tables e below G T (mkF m (pc + 2) ls (v :: st))) : Go p.tables e below G T (mkF m pc ls st) := by
  obtain ⟨_, _, _, X, -⟩ := W
  exact Go.by (fun t q => XS.aload X.here B.1 rfl (hb B.2.2.2.1 hd) hl hv q) q
theorem g_iload_n (B : Bdy p Z s m meth c own bytes maxL ret nm) (W : Wk p l e R s m args below meth c Z T h k n ss) {i : Fin 4} {v : Int32} (hd : decode bytes pc = .ok (.iload_n i, 1)) (hl : ls[i.val]? = some (.val (.int v))) (q : Go p.tables e below G T (mkF m (pc + 1) ls (.int v :: st))) : Go p.tables e below G T (mkF m pc ls st) := by
  obtain ⟨_, _, _, X, -⟩ := W
  exact Go.by (fun t q => XS.iloadN X.here B.1 rfl (hb B.2.2.2.1 hd) hl q) q
theorem g_iload (B : Bdy p Z s m meth c own bytes maxL ret nm) (W : Wk p l e R s m args below meth c Z T h k n ss) {i : Nat} {v : Int32} (hd : decode bytes pc = .ok (.iload i, 2)) (hl : ls[i]? = some (.val (.int v))) (q : Go p.tables e below G T (mkF m (pc + 2) ls (.int v :: st))) : Go p.tables e below G T (mkF m pc ls st) := by
  obtain ⟨_, _, _, X, -⟩ := W
  exact Go.by (fun t q => XS.iload X.here B.1 rfl (hb B.2.2.2.1 hd) hl q) q
theorem g_lload_n (B : Bdy p Z s m meth c own bytes maxL ret nm) (W : Wk p l e R s m args below meth c Z T h k n ss) {i : Fin 4} {v : Int64} (hd : decode bytes pc = .ok (.lload_n i, 1)) (hl : ls[i.val]? = some (.val (.long v))) (q : Go p.tables e below G T (mkF m (pc + 1) ls (.long v :: st))) : Go p.tables e below G T (mkF m pc ls st) := by
  obtain ⟨_, _, _, X, -⟩ := W
  exact Go.by (fun t q => XT.lloadN X.here B.1 rfl (hb B.2.2.2.1 hd) hl q) q
theorem g_lload (B : Bdy p Z s m meth c own bytes maxL ret nm) (W : Wk p l e R s m args below meth c Z T h k n ss) {i : Nat} {v : Int64} (hd : decode bytes pc = .ok (.lload i, 2)) (hl : ls[i]? = some (.val (.long v))) (q : Go p.tables e below G T (mkF m (pc + 2) ls (.long v :: st))) : Go p.tables e below G T (mkF m pc ls st) := by
  obtain ⟨_, _, _, X, -⟩ := W
  exact Go.by (fun t q => XT.lload X.here B.1 rfl (hb B.2.2.2.1 hd) hl q) q
theorem g_istore_n (B : Bdy p Z s m meth c own bytes maxL ret nm) (W : Wk p l e R s m args below meth c Z T h k n ss) {i : Fin 4} {v : Int32} {l' : Array Slot} (hd : decode bytes pc = .ok (.istore_n i, 1)) (hl : storeLocals ls i.val (.int v) = some l') (q : Go p.tables e below G T (mkF m (pc + 1) l' st)) : Go p.tables e below G T (mkF m pc ls (.int v :: st)) := by
  obtain ⟨_, _, _, X, -⟩ := W
  exact Go.by (fun t q => XS.istoreN X.here B.1 rfl (hb B.2.2.2.1 hd) rfl hl q) q
theorem g_istore (B : Bdy p Z s m meth c own bytes maxL ret nm) (W : Wk p l e R s m args below meth c Z T h k n ss) {i : Nat} {v : Int32} {l' : Array Slot} (hd : decode bytes pc = .ok (.istore i, 2)) (hl : storeLocals ls i (.int v) = some l') (q : Go p.tables e below G T (mkF m (pc + 2) l' st)) : Go p.tables e below G T (mkF m pc ls (.int v :: st)) := by
  obtain ⟨_, _, _, X, -⟩ := W
  exact Go.by (fun t q => XS.istore X.here B.1 rfl (hb B.2.2.2.1 hd) rfl hl q) q
theorem g_lstore_n (B : Bdy p Z s m meth c own bytes maxL ret nm) (W : Wk p l e R s m args below meth c Z T h k n ss) {i : Fin 4} {v : Int64} {l' : Array Slot} (hd : decode bytes pc = .ok (.lstore_n i, 1)) (hl : storeLocals ls i.val (.long v) = some l') (q : Go p.tables e below G T (mkF m (pc + 1) l' st)) : Go p.tables e below G T (mkF m pc ls (.long v :: st)) := by
  obtain ⟨_, _, _, X, -⟩ := W
  exact Go.by (fun t q => XT.lstoreN X.here B.1 rfl (hb B.2.2.2.1 hd) rfl hl q) q
theorem g_lstore (B : Bdy p Z s m meth c own bytes maxL ret nm) (W : Wk p l e R s m args below meth c Z T h k n ss) {i : Nat} {v : Int64} {l' : Array Slot} (hd : decode bytes pc = .ok (.lstore i, 2)) (hl : storeLocals ls i (.long v) = some l') (q : Go p.tables e below G T (mkF m (pc + 2) l' st)) : Go p.tables e below G T (mkF m pc ls (.long v :: st)) := by
  obtain ⟨_, _, _, X, -⟩ := W
  exact Go.by (fun t q => XT.lstore X.here B.1 rfl (hb B.2.2.2.1 hd) rfl hl q) q
theorem g_astore_n (B : Bdy p Z s m meth c own bytes maxL ret nm) (W : Wk p l e R s m args below meth c Z T h k n ss) {i : Fin 4} {v : Value} {l' : Array Slot} (hd : decode bytes pc = .ok (.astore_n i, 1)) (hv : v.isRef = true) (hl : storeLocals ls i.val v = some l') (q : Go p.tables e below G T (mkF m (pc + 1) l' st)) : Go p.tables e below G T (mkF m pc ls (v :: st)) := by
  obtain ⟨_, _, _, X, -⟩ := W
  exact Go.by (fun t q => XS.astoreN X.here B.1 rfl (hb B.2.2.2.1 hd) rfl hv hl q) q
theorem g_astore (B : Bdy p Z s m meth c own bytes maxL ret nm) (W : Wk p l e R s m args below meth c Z T h k n ss) {i : Nat} {v : Value} {l' : Array Slot} (hd : decode bytes pc = .ok (.astore i, 2)) (hv : v.isRef = true) (hl : storeLocals ls i v = some l') (q : Go p.tables e below G T (mkF m (pc + 2) l' st)) : Go p.tables e below G T (mkF m pc ls (v :: st)) := by
  obtain ⟨_, _, _, X, -⟩ := W
  exact Go.by (fun t q => XS.astore X.here B.1 rfl (hb B.2.2.2.1 hd) rfl hv hl q) q
theorem g_iconst (B : Bdy p Z s m meth c own bytes maxL ret nm) (W : Wk p l e R s m args below meth c Z T h k n ss) {i : Int} {v : Int32} (hd : decode bytes pc = .ok (.iconst i, 1)) (hv : Int32.ofInt i = v) (q : Go p.tables e below G T (mkF m (pc + 1) ls (.int v :: st))) : Go p.tables e below G T (mkF m pc ls st) := by
  obtain ⟨_, _, _, X, -⟩ := W
  exact Go.by (fun t q => XT.iconstV X.here B.1 rfl _ (hb B.2.2.2.1 hd) hv q) q
theorem g_bipush (B : Bdy p Z s m meth c own bytes maxL ret nm) (W : Wk p l e R s m args below meth c Z T h k n ss) {i : Int} {v : Int32} (hd : decode bytes pc = .ok (.bipush i, 2)) (hv : (Int8.ofInt i).toInt32 = v) (q : Go p.tables e below G T (mkF m (pc + 2) ls (.int v :: st))) : Go p.tables e below G T (mkF m pc ls st) := by
  obtain ⟨_, _, _, X, -⟩ := W
  exact Go.by (fun t q => XT.bipushV X.here B.1 rfl _ (hb B.2.2.2.1 hd) hv q) q
theorem g_sipush (B : Bdy p Z s m meth c own bytes maxL ret nm) (W : Wk p l e R s m args below meth c Z T h k n ss) {i : Int} {v : Int32} (hd : decode bytes pc = .ok (.sipush i, 3)) (hv : (Int16.ofInt i).toInt32 = v) (q : Go p.tables e below G T (mkF m (pc + 3) ls (.int v :: st))) : Go p.tables e below G T (mkF m pc ls st) := by
  obtain ⟨_, _, _, X, -⟩ := W
  exact Go.by (fun t q => XT.sipushV X.here B.1 rfl _ (hb B.2.2.2.1 hd) hv q) q
theorem g_lconst (B : Bdy p Z s m meth c own bytes maxL ret nm) (W : Wk p l e R s m args below meth c Z T h k n ss) {i : Fin 2} {v : Int64} (hd : decode bytes pc = .ok (.lconst i, 1)) (hv : Int64.ofNat i = v) (q : Go p.tables e below G T (mkF m (pc + 1) ls (.long v :: st))) : Go p.tables e below G T (mkF m pc ls st) := by
  obtain ⟨_, _, _, X, -⟩ := W
  exact Go.by (fun t q => XT.lconstV X.here B.1 rfl _ (hb B.2.2.2.1 hd) hv q) q
theorem g_aconst_null (B : Bdy p Z s m meth c own bytes maxL ret nm) (W : Wk p l e R s m args below meth c Z T h k n ss)  (hd : decode bytes pc = .ok (.aconst_null, 1))  (q : Go p.tables e below G T (mkF m (pc + 1) ls (.null :: st))) : Go p.tables e below G T (mkF m pc ls st) := by
  obtain ⟨_, _, _, X, -⟩ := W
  exact Go.by (fun t q => XS.aconstNull X.here B.1 rfl (hb B.2.2.2.1 hd) q) q
theorem g_iadd (B : Bdy p Z s m meth c own bytes maxL ret nm) (W : Wk p l e R s m args below meth c Z T h k n ss) {x y : Int32} (hd : decode bytes pc = .ok (.iadd, 1))  (q : Go p.tables e below G T (mkF m (pc + 1) ls (.int (x + y) :: st))) : Go p.tables e below G T (mkF m pc ls (.int y :: .int x :: st)) := by
  obtain ⟨_, _, _, X, -⟩ := W
  exact Go.by (fun t q => XS.iadd X.here B.1 rfl (hb B.2.2.2.1 hd) rfl q) q
theorem g_isub (B : Bdy p Z s m meth c own bytes maxL ret nm) (W : Wk p l e R s m args below meth c Z T h k n ss) {x y : Int32} (hd : decode bytes pc = .ok (.isub, 1))  (q : Go p.tables e below G T (mkF m (pc + 1) ls (.int (x - y) :: st))) : Go p.tables e below G T (mkF m pc ls (.int y :: .int x :: st)) := by
  obtain ⟨_, _, _, X, -⟩ := W
  exact Go.by (fun t q => XS.isub X.here B.1 rfl (hb B.2.2.2.1 hd) rfl q) q
theorem g_iand (B : Bdy p Z s m meth c own bytes maxL ret nm) (W : Wk p l e R s m args below meth c Z T h k n ss) {x y : Int32} (hd : decode bytes pc = .ok (.iand, 1))  (q : Go p.tables e below G T (mkF m (pc + 1) ls (.int (x &&& y) :: st))) : Go p.tables e below G T (mkF m pc ls (.int y :: .int x :: st)) := by
  obtain ⟨_, _, _, X, -⟩ := W
  exact Go.by (fun t q => XS.iand X.here B.1 rfl (hb B.2.2.2.1 hd) rfl q) q
theorem g_imul (B : Bdy p Z s m meth c own bytes maxL ret nm) (W : Wk p l e R s m args below meth c Z T h k n ss) {x y : Int32} (hd : decode bytes pc = .ok (.imul, 1))  (q : Go p.tables e below G T (mkF m (pc + 1) ls (.int (x * y) :: st))) : Go p.tables e below G T (mkF m pc ls (.int y :: .int x :: st)) := by
  obtain ⟨_, _, _, X, -⟩ := W
  exact Go.by (fun t q => XS.imul X.here B.1 rfl (hb B.2.2.2.1 hd) rfl q) q
theorem g_ior (B : Bdy p Z s m meth c own bytes maxL ret nm) (W : Wk p l e R s m args below meth c Z T h k n ss) {x y : Int32} (hd : decode bytes pc = .ok (.ior, 1))  (q : Go p.tables e below G T (mkF m (pc + 1) ls (.int (x ||| y) :: st))) : Go p.tables e below G T (mkF m pc ls (.int y :: .int x :: st)) := by
  obtain ⟨_, _, _, X, -⟩ := W
  exact Go.by (fun t q => XT.ior X.here B.1 rfl (hb B.2.2.2.1 hd) rfl q) q
theorem g_ixor (B : Bdy p Z s m meth c own bytes maxL ret nm) (W : Wk p l e R s m args below meth c Z T h k n ss) {x y : Int32} (hd : decode bytes pc = .ok (.ixor, 1))  (q : Go p.tables e below G T (mkF m (pc + 1) ls (.int (x ^^^ y) :: st))) : Go p.tables e below G T (mkF m pc ls (.int y :: .int x :: st)) := by
  obtain ⟨_, _, _, X, -⟩ := W
  exact Go.by (fun t q => XT.ixor X.here B.1 rfl (hb B.2.2.2.1 hd) rfl q) q
theorem g_iushr (B : Bdy p Z s m meth c own bytes maxL ret nm) (W : Wk p l e R s m args below meth c Z T h k n ss) {x y : Int32} (hd : decode bytes pc = .ok (.iushr, 1))  (q : Go p.tables e below G T (mkF m (pc + 1) ls (.int (XT.ushr x y) :: st))) : Go p.tables e below G T (mkF m pc ls (.int y :: .int x :: st)) := by
  obtain ⟨_, _, _, X, -⟩ := W
  exact Go.by (fun t q => XT.iushr X.here B.1 rfl (hb B.2.2.2.1 hd) rfl q) q
theorem g_idiv (B : Bdy p Z s m meth c own bytes maxL ret nm) (W : Wk p l e R s m args below meth c Z T h k n ss) {x y : Int32} (hd : decode bytes pc = .ok (.idiv, 1)) (hy : y ≠ 0) (q : Go p.tables e below G T (mkF m (pc + 1) ls (.int (x / y) :: st))) : Go p.tables e below G T (mkF m pc ls (.int y :: .int x :: st)) := by
  obtain ⟨_, _, _, X, -⟩ := W
  exact Go.by (fun t q => XS.idiv X.here B.1 rfl (hb B.2.2.2.1 hd) rfl hy q) q
theorem g_irem (B : Bdy p Z s m meth c own bytes maxL ret nm) (W : Wk p l e R s m args below meth c Z T h k n ss) {x y : Int32} (hd : decode bytes pc = .ok (.irem, 1)) (hy : y ≠ 0) (q : Go p.tables e below G T (mkF m (pc + 1) ls (.int (x % y) :: st))) : Go p.tables e below G T (mkF m pc ls (.int y :: .int x :: st))   := by
  obtain ⟨_, _, _, X, -⟩ := W
  exact Go.by (fun t q => iremM X B.1 rfl (hb B.2.2.2.1 hd) rfl hy q) q
theorem g_ineg (B : Bdy p Z s m meth c own bytes maxL ret nm) (W : Wk p l e R s m args below meth c Z T h k n ss) {x : Int32} (hd : decode bytes pc = .ok (.ineg, 1))  (q : Go p.tables e below G T (mkF m (pc + 1) ls (.int (-x) :: st))) : Go p.tables e below G T (mkF m pc ls (.int x :: st)) := by
  obtain ⟨_, _, _, X, -⟩ := W
  exact Go.by (fun t q => XS.ineg X.here B.1 rfl (hb B.2.2.2.1 hd) rfl q) q
theorem g_i2c (B : Bdy p Z s m meth c own bytes maxL ret nm) (W : Wk p l e R s m args below meth c Z T h k n ss) {x : Int32} (hd : decode bytes pc = .ok (.i2c, 1))  (q : Go p.tables e below G T (mkF m (pc + 1) ls (.int x.toUInt32.toUInt16.toUInt32.toInt32 :: st))) : Go p.tables e below G T (mkF m pc ls (.int x :: st)) := by
  obtain ⟨_, _, _, X, -⟩ := W
  exact Go.by (fun t q => XT.i2c X.here B.1 rfl (hb B.2.2.2.1 hd) rfl q) q
theorem g_i2b (B : Bdy p Z s m meth c own bytes maxL ret nm) (W : Wk p l e R s m args below meth c Z T h k n ss) {x : Int32} (hd : decode bytes pc = .ok (.i2b, 1))  (q : Go p.tables e below G T (mkF m (pc + 1) ls (.int x.toInt8.toInt32 :: st))) : Go p.tables e below G T (mkF m pc ls (.int x :: st)) := by
  obtain ⟨_, _, _, X, -⟩ := W
  exact Go.by (fun t q => XT.i2b X.here B.1 rfl (hb B.2.2.2.1 hd) rfl q) q
theorem g_i2l (B : Bdy p Z s m meth c own bytes maxL ret nm) (W : Wk p l e R s m args below meth c Z T h k n ss) {x : Int32} (hd : decode bytes pc = .ok (.i2l, 1))  (q : Go p.tables e below G T (mkF m (pc + 1) ls (.long x.toInt64 :: st))) : Go p.tables e below G T (mkF m pc ls (.int x :: st)) := by
  obtain ⟨_, _, _, X, -⟩ := W
  exact Go.by (fun t q => XT.i2l X.here B.1 rfl (hb B.2.2.2.1 hd) rfl q) q
theorem g_l2i (B : Bdy p Z s m meth c own bytes maxL ret nm) (W : Wk p l e R s m args below meth c Z T h k n ss) {x : Int64} (hd : decode bytes pc = .ok (.l2i, 1))  (q : Go p.tables e below G T (mkF m (pc + 1) ls (.int x.toInt32 :: st))) : Go p.tables e below G T (mkF m pc ls (.long x :: st)) := by
  obtain ⟨_, _, _, X, -⟩ := W
  exact Go.by (fun t q => XT.l2i X.here B.1 rfl (hb B.2.2.2.1 hd) rfl q) q
theorem g_land (B : Bdy p Z s m meth c own bytes maxL ret nm) (W : Wk p l e R s m args below meth c Z T h k n ss) {x y : Int64} (hd : decode bytes pc = .ok (.land, 1))  (q : Go p.tables e below G T (mkF m (pc + 1) ls (.long (x &&& y) :: st))) : Go p.tables e below G T (mkF m pc ls (.long y :: .long x :: st)) := by
  obtain ⟨_, _, _, X, -⟩ := W
  exact Go.by (fun t q => XT.land X.here B.1 rfl (hb B.2.2.2.1 hd) rfl q) q
theorem g_ladd (B : Bdy p Z s m meth c own bytes maxL ret nm) (W : Wk p l e R s m args below meth c Z T h k n ss) {x y : Int64} (hd : decode bytes pc = .ok (.ladd, 1))  (q : Go p.tables e below G T (mkF m (pc + 1) ls (.long (x + y) :: st))) : Go p.tables e below G T (mkF m pc ls (.long y :: .long x :: st)) := by
  obtain ⟨_, _, _, X, -⟩ := W
  exact Go.by (fun t q => XT.ladd X.here B.1 rfl (hb B.2.2.2.1 hd) rfl q) q
theorem g_lcmp (B : Bdy p Z s m meth c own bytes maxL ret nm) (W : Wk p l e R s m args below meth c Z T h k n ss) {x y : Int64} (hd : decode bytes pc = .ok (.lcmp, 1))  (q : Go p.tables e below G T (mkF m (pc + 1) ls (.int (XT.cmpL x y) :: st))) : Go p.tables e below G T (mkF m pc ls (.long y :: .long x :: st)) := by
  obtain ⟨_, _, _, X, -⟩ := W
  exact Go.by (fun t q => XT.lcmp X.here B.1 rfl (hb B.2.2.2.1 hd) rfl q) q
theorem g_lushr (B : Bdy p Z s m meth c own bytes maxL ret nm) (W : Wk p l e R s m args below meth c Z T h k n ss) {x : Int64} {y : Int32} (hd : decode bytes pc = .ok (.lushr, 1))  (q : Go p.tables e below G T (mkF m (pc + 1) ls (.long (XT.ushrL x y) :: st))) : Go p.tables e below G T (mkF m pc ls (.int y :: .long x :: st)) := by
  obtain ⟨_, _, _, X, -⟩ := W
  exact Go.by (fun t q => XT.lushr X.here B.1 rfl (hb B.2.2.2.1 hd) rfl q) q
theorem g_iinc (B : Bdy p Z s m meth c own bytes maxL ret nm) (W : Wk p l e R s m args below meth c Z T h k n ss) {i : Nat} {cst : Int} {x v : Int32} {l' : Array Slot} (hd : decode bytes pc = .ok (.iinc i cst, 3)) (hv : Int32.ofInt cst = v) (hl : ls[i]? = some (.val (.int x))) (hl' : storeLocals ls i (.int (x + v)) = some l') (q : Go p.tables e below G T (mkF m (pc + 3) l' st)) : Go p.tables e below G T (mkF m pc ls st) := by
  obtain ⟨_, _, _, X, -⟩ := W
  exact Go.by (fun t q => XT.iincV X.here B.1 rfl _ (hb B.2.2.2.1 hd) hv hl hl' q) q
theorem g_dup (B : Bdy p Z s m meth c own bytes maxL ret nm) (W : Wk p l e R s m args below meth c Z T h k n ss) {v : Value} (hd : decode bytes pc = .ok (.dup, 1)) (hv : v.category = 1) (q : Go p.tables e below G T (mkF m (pc + 1) ls (v :: v :: st))) : Go p.tables e below G T (mkF m pc ls (v :: st)) := by
  obtain ⟨_, _, _, X, -⟩ := W
  exact Go.by (fun t q => XS.dup X.here B.1 rfl (hb B.2.2.2.1 hd) rfl hv q) q
theorem g_dup_x1 (B : Bdy p Z s m meth c own bytes maxL ret nm) (W : Wk p l e R s m args below meth c Z T h k n ss) {v w : Value} (hd : decode bytes pc = .ok (.dup_x1, 1)) (hv : v.category = 1) (hw' : w.category = 1) (q : Go p.tables e below G T (mkF m (pc + 1) ls (v :: w :: v :: st))) : Go p.tables e below G T (mkF m pc ls (v :: w :: st)) := by
  obtain ⟨_, _, _, X, -⟩ := W
  exact Go.by (fun t q => XT.dupX1 X.here B.1 rfl (hb B.2.2.2.1 hd) rfl hv hw' q) q
theorem g_pop (B : Bdy p Z s m meth c own bytes maxL ret nm) (W : Wk p l e R s m args below meth c Z T h k n ss) {v : Value} (hd : decode bytes pc = .ok (.pop, 1)) (hv : v.category = 1) (q : Go p.tables e below G T (mkF m (pc + 1) ls st)) : Go p.tables e below G T (mkF m pc ls (v :: st)) := by
  obtain ⟨_, _, _, X, -⟩ := W
  exact Go.by (fun t q => XT.pop X.here B.1 rfl (hb B.2.2.2.1 hd) rfl hv q) q
theorem g_goto (B : Bdy p Z s m meth c own bytes maxL ret nm) (W : Wk p l e R s m args below meth c Z T h k n ss)  {o : Int} {pc' : Nat} (hd : decode bytes pc = .ok (.goto o, 3))  (hp : (pc : Int) + o = (pc' : Int)) (q : Go p.tables e below G T (mkF m pc' ls st)) : Go p.tables e below G T (mkF m pc ls st)   := by
  obtain ⟨_, _, _, X, -⟩ := W
  exact Go.by (fun t q => XS.goto X.here B.1 rfl rfl (hb B.2.2.2.1 hd)  (by rw [hp]; exact Int.natCast_nonneg _) (by rw [hp]; exact Int.toNat_natCast _) q) q
theorem g_if_y (B : Bdy p Z s m meth c own bytes maxL ret nm) (W : Wk p l e R s m args below meth c Z T h k n ss) {cd : ClassFile.Cond} {x : Int32} {o : Int} {pc' : Nat} (hd : decode bytes pc = .ok (.ifCond cd o, 3)) (hc : ifCond.holds cd x = true) (hp : (pc : Int) + o = (pc' : Int)) (q : Go p.tables e below G T (mkF m pc' ls st)) : Go p.tables e below G T (mkF m pc ls (.int x :: st))   := by
  obtain ⟨_, _, _, X, -⟩ := W
  exact Go.by (fun t q => XS.ifYes X.here B.1 rfl rfl (hb B.2.2.2.1 hd) rfl hc (by rw [hp]; exact Int.natCast_nonneg _) (by rw [hp]; exact Int.toNat_natCast _) q) q
theorem g_if_n (B : Bdy p Z s m meth c own bytes maxL ret nm) (W : Wk p l e R s m args below meth c Z T h k n ss) {cd : ClassFile.Cond} {x : Int32} {o : Int} (hd : decode bytes pc = .ok (.ifCond cd o, 3)) (hc : ifCond.holds cd x = false) (q : Go p.tables e below G T (mkF m (pc + 3) ls st)) : Go p.tables e below G T (mkF m pc ls (.int x :: st))   := by
  obtain ⟨_, _, _, X, -⟩ := W
  exact Go.by (fun t q => XS.ifNo X.here B.1 rfl (hb B.2.2.2.1 hd) rfl hc q) q
theorem g_icmp_y (B : Bdy p Z s m meth c own bytes maxL ret nm) (W : Wk p l e R s m args below meth c Z T h k n ss) {cd : ClassFile.Cond} {x y : Int32} {o : Int} {pc' : Nat} (hd : decode bytes pc = .ok (.if_icmp cd o, 3)) (hc : if_icmp.holds cd x y = true) (hp : (pc : Int) + o = (pc' : Int)) (q : Go p.tables e below G T (mkF m pc' ls st)) : Go p.tables e below G T (mkF m pc ls (.int y :: .int x :: st))   := by
  obtain ⟨_, _, _, X, -⟩ := W
  exact Go.by (fun t q => XS.icmpYes X.here B.1 rfl rfl (hb B.2.2.2.1 hd) rfl hc (by rw [hp]; exact Int.natCast_nonneg _) (by rw [hp]; exact Int.toNat_natCast _) q) q
theorem g_icmp_n (B : Bdy p Z s m meth c own bytes maxL ret nm) (W : Wk p l e R s m args below meth c Z T h k n ss) {cd : ClassFile.Cond} {x y : Int32} {o : Int} (hd : decode bytes pc = .ok (.if_icmp cd o, 3)) (hc : if_icmp.holds cd x y = false) (q : Go p.tables e below G T (mkF m (pc + 3) ls st)) : Go p.tables e below G T (mkF m pc ls (.int y :: .int x :: st))   := by
  obtain ⟨_, _, _, X, -⟩ := W
  exact Go.by (fun t q => XS.icmpNo X.here B.1 rfl (hb B.2.2.2.1 hd) rfl hc q) q
theorem g_ifnull_y (B : Bdy p Z s m meth c own bytes maxL ret nm) (W : Wk p l e R s m args below meth c Z T h k n ss)  {o : Int} {pc' : Nat} (hd : decode bytes pc = .ok (.ifnull o, 3))  (hp : (pc : Int) + o = (pc' : Int)) (q : Go p.tables e below G T (mkF m pc' ls st)) : Go p.tables e below G T (mkF m pc ls (.null :: st))   := by
  obtain ⟨_, _, _, X, -⟩ := W
  exact Go.by (fun t q => XS.ifnullYes X.here B.1 rfl rfl (hb B.2.2.2.1 hd) rfl (by rw [hp]; exact Int.natCast_nonneg _) (by rw [hp]; exact Int.toNat_natCast _) q) q
theorem g_ifnull_n (B : Bdy p Z s m meth c own bytes maxL ret nm) (W : Wk p l e R s m args below meth c Z T h k n ss) {a : Addr} {o : Int} (hd : decode bytes pc = .ok (.ifnull o, 3))  (q : Go p.tables e below G T (mkF m (pc + 3) ls st)) : Go p.tables e below G T (mkF m pc ls (.ref a :: st))   := by
  obtain ⟨_, _, _, X, -⟩ := W
  exact Go.by (fun t q => XS.ifnullNo X.here B.1 rfl (hb B.2.2.2.1 hd) rfl q) q
theorem g_ifnonnull_y (B : Bdy p Z s m meth c own bytes maxL ret nm) (W : Wk p l e R s m args below meth c Z T h k n ss) {a : Addr} {o : Int} {pc' : Nat} (hd : decode bytes pc = .ok (.ifnonnull o, 3))  (hp : (pc : Int) + o = (pc' : Int)) (q : Go p.tables e below G T (mkF m pc' ls st)) : Go p.tables e below G T (mkF m pc ls (.ref a :: st))   := by
  obtain ⟨_, _, _, X, -⟩ := W
  exact Go.by (fun t q => XT.ifnonnullYes X.here B.1 rfl rfl (hb B.2.2.2.1 hd) rfl (by rw [hp]; exact Int.natCast_nonneg _) (by rw [hp]; exact Int.toNat_natCast _) q) q
theorem g_ifnonnull_n (B : Bdy p Z s m meth c own bytes maxL ret nm) (W : Wk p l e R s m args below meth c Z T h k n ss)  {o : Int} (hd : decode bytes pc = .ok (.ifnonnull o, 3))  (q : Go p.tables e below G T (mkF m (pc + 3) ls st)) : Go p.tables e below G T (mkF m pc ls (.null :: st))   := by
  obtain ⟨_, _, _, X, -⟩ := W
  exact Go.by (fun t q => XT.ifnonnullNo X.here B.1 rfl (hb B.2.2.2.1 hd) rfl q) q
theorem g_acmp_y (B : Bdy p Z s m meth c own bytes maxL ret nm) (W : Wk p l e R s m args below meth c Z T h k n ss) {cd : ClassFile.ACond} {x y : Value} {o : Int} {pc' : Nat} (hd : decode bytes pc = .ok (.if_acmp cd o, 3)) (hx' : x.isRef = true) (hy' : y.isRef = true) (hc : XT.acmp cd x y = true) (hp : (pc : Int) + o = (pc' : Int)) (q : Go p.tables e below G T (mkF m pc' ls st)) : Go p.tables e below G T (mkF m pc ls (y :: x :: st))   := by
  obtain ⟨_, _, _, X, -⟩ := W
  exact Go.by (fun t q => XT.acmpYes X.here B.1 rfl rfl (hb B.2.2.2.1 hd) rfl hx' hy' hc (by rw [hp]; exact Int.natCast_nonneg _) (by rw [hp]; exact Int.toNat_natCast _) q) q
theorem g_acmp_n (B : Bdy p Z s m meth c own bytes maxL ret nm) (W : Wk p l e R s m args below meth c Z T h k n ss) {cd : ClassFile.ACond} {x y : Value} {o : Int} (hd : decode bytes pc = .ok (.if_acmp cd o, 3)) (hx' : x.isRef = true) (hy' : y.isRef = true) (hc : XT.acmp cd x y = false) (q : Go p.tables e below G T (mkF m (pc + 3) ls st)) : Go p.tables e below G T (mkF m pc ls (y :: x :: st))   := by
  obtain ⟨_, _, _, X, -⟩ := W
  exact Go.by (fun t q => XT.acmpNo X.here B.1 rfl (hb B.2.2.2.1 hd) rfl hx' hy' hc q) q
theorem ss_mono {vm0 vm1 : Vm} (A : CHr Z EL vm0 h vm1 h') (hss : ∀ x ∈ ss, x < h.size ∧ Safe Z EL vm0 h x) : ∀ x ∈ ss, x < h'.size ∧ Safe Z EL vm1 h' x := fun x q => ⟨Nat.lt_of_lt_of_le (hss x q).1 A.2.1, A.safe (hss x q).1 (hss x q).2⟩
theorem own_ssn {vm0 : Vm} (E : Ext h h') (H : CHv Z EL vm0 h) (hlt : h.size < h'.size) (hss : ∀ x ∈ ss, x < h.size ∧ Safe Z EL vm0 h x) : ∀ x ∈ h.size :: ss, x < h'.size ∧ Safe Z EL vm0 h' x := fun x q => by
  rcases List.mem_cons.mp q with rfl | q
  · exact ⟨hlt, Safe.ext E H (Safe.new (Nat.le_refl _))⟩
  · exact ss_mono (CHr.ext E H) hss x q
theorem g_dia (P : Prop) [Decidable P] {tb : Tables} {F : JFrame} {pc' : Nat} (h1 : P → Go tb e below G T (mkF m pc' ls (.int 1 :: st)) → Go tb e below G T F) (h0 : ¬ P → Go tb e below G T (mkF m pc' ls (.int 0 :: st)) → Go tb e below G T F) (q : Go tb e below G T (mkF m pc' ls (.int (bi (decide P)) :: st))) : Go tb e below G T F := by
  by_cases hp : P
  · rw [decide_eq_true hp] at q; exact h1 hp q
  · rw [decide_eq_false hp] at q; exact h0 hp q
theorem g_diab (b : Bool) {tb : Tables} {F : JFrame} {pc' : Nat} (h1 : b = true → Go tb e below G T (mkF m pc' ls (.int 1 :: st)) → Go tb e below G T F) (h0 : b = false → Go tb e below G T (mkF m pc' ls (.int 0 :: st)) → Go tb e below G T F) (q : Go tb e below G T (mkF m pc' ls (.int (bi b) :: st))) : Go tb e below G T F := by
  cases b
  · exact h0 rfl q
  · exact h1 rfl q
theorem g_ldcI (B : Bdy p Z s m meth c own bytes maxL ret nm) (W : Wk p l e R s m args below meth c Z T h k n ss) {i : Nat} {v : Int32} (hd : decode bytes pc = .ok (.ldc i, 2)) (w : (Cond.constant own i v).before a0 Z = true) (q : Go p.tables e below G T (mkF m (pc + 2) ls (.int v :: st))) : Go p.tables e below G T (mkF m pc ls st) := by
  obtain ⟨_, _, _, X, _, _, _, S, -⟩ := W
  have B := B.at S
  exact Go.by (fun t q => X.ldcI B.1 B.2.2.1 (mv B.2.1 w) rfl (hb B.2.2.2.1 hd) q) q
theorem g_ldcL (B : Bdy p Z s m meth c own bytes maxL ret nm) (W : Wk p l e R s m args below meth c Z T h k n ss) {i : Nat} {v : Int64} (hd : decode bytes pc = .ok (.ldc2_w i, 3)) (w : (Cond.constantLong own i v).before a0 Z = true) (q : Go p.tables e below G T (mkF m (pc + 3) ls (.long v :: st))) : Go p.tables e below G T (mkF m pc ls st) := by
  obtain ⟨_, _, _, X, _, _, _, S, -⟩ := W
  have B := B.at S
  exact Go.by (fun t q => X.ldc2J B.1 B.2.2.1 (mv B.2.1 w) rfl (hb B.2.2.2.1 hd) q) q
/-! ### the heap's steps -/
theorem x_new (B : Bdy p Z s m meth c own bytes maxL ret nm) (W : Wk p l e R s m args below meth c Z T h k n ss) {C : String} {i sz : Nat} (hd : decode bytes pc = .ok (.new i, 3)) (w : (Cond.classLink own i C).before a0 Z = true) (wi : (Cond.instantiable C sz).before a0 Z = true) (wz : (Cond.initialized C).before a0 Z = true) (hc : k + 1 ≤ R.cells) (hl : n + sz ≤ R.slots) (ls : Array Slot) (st : List Value) :
    ∃ T' h' b, b = h.size ∧ Wk p l e R s m args below meth c Z T' h' (k + 1) (n + sz) (b :: ss) ∧ Keep h h' [] ∧ Exa Z h' b C ∧ (∀ {O nf d : String} {ty : FieldType}, Laid Z a0 C O nf d → parseFieldDescriptor d = some ty → Fld Z h' b O nf d (defaultValue ty)) ∧
      (∀ G, Go p.tables e below G T' (mkF m (pc + 3) ls (.ref b :: st)) → Go p.tables e below G T (mkF m pc ls st)) := by
  obtain ⟨locs, vm0, k0, X, eT, N, O, S, hk, H, hss⟩ := W
  have B := B.at S
  obtain ⟨T', h', X', e', E', A', D', -, st'⟩ := newO X B.1 B.2.1 B.2.2.1 w wi wz eT (g := mkF m pc ls st) rfl (hb B.2.2.2.1 hd) hc hl
  exact ⟨T', h', _, rfl, ⟨locs, vm0, k0, X', e', N, O.ext E', S, Nat.le_trans hk E'.1, H.trans (CHr.ext E' H.1), own_ssn E' H.1 (by first | exact A'.lt | exact (Arv.new A' hn).lt) hss⟩, (Keep.refl h []).ext E', A', D', fun G q => Go.by st' q⟩
theorem x_init (B : Bdy p Z s m meth c own bytes maxL ret nm) (W : Wk p l e R s m args below meth c Z T h k n ss) {i : Nat} (hd : decode bytes pc = .ok (.invokespecial i, 3)) (w1 : (Cond.methodLink own i Lib.objectInit).before a0 Z = true) (w2 : (Cond.instanceMethod Lib.objectInit).before a0 Z = true)
    (w3 : (Cond.code Lib.objectInit ⟨#[0xb1]⟩ 1 none).before a0 Z = true) (b : Addr) (ls : Array Slot) (st : List Value) (hsz : ls.size = maxL) (V : Nat) (hV : (st.map fun v => v.category).sum = V) (hf : 1 ≤ R.frames) (hl : V + 12 ≤ R.locals) :
    ∃ T', Wk p l e R s m args below meth c Z T' h k n ss ∧ (∀ G, Go p.tables e below G T' (mkF m (pc + 3) ls st) → Go p.tables e below G T (mkF m pc ls (.ref b :: st))) := by
  obtain ⟨locs, vm0, k0, X, eT, N, O, S, hk, H, hss⟩ := W
  have B := B.at S
  obtain ⟨T', X', e', st'⟩ := initO X B.1 B.2.1 B.2.2.1 w1 w2 w3 eT (g := mkF m pc ls (.ref b :: st)) rfl (hsz.trans B.2.2.2.2.1.symm) rfl (hb B.2.2.2.1 hd) hf (W := V) (by show 2 * 0 + _ ≤ _; omega) hl
  exact ⟨T', ⟨locs, vm0, k0, X', e', N, O, S, hk, H, hss⟩, fun G q => Go.by st' q⟩
theorem x_get (B : Bdy p Z s m meth c own bytes maxL ret nm) (W : Wk p l e R s m args below meth c Z T h k n ss) {R0 O nf d host : String} {i : Nat} {b : Addr} {v : Value} (hd : decode bytes pc = .ok (.getfield i, 3)) (w : (Cond.fieldLink own i R0 nf d).before a0 Z = true ∨ (Cond.fieldLinkNest own i R0 nf d host).before a0 Z = true) (via : Via Z R0 O nf d) (F : Fld Z h b O nf d v) (ls : Array Slot) (st : List Value) :
    ∃ T', Wk p l e R s m args below meth c Z T' h k n ss ∧ (∀ G, Go p.tables e below G T' (mkF m (pc + 3) ls (v :: st)) → Go p.tables e below G T (mkF m pc ls (.ref b :: st))) := by
  obtain ⟨locs, vm0, k0, X, eT, N, O', S, hk, H, hss⟩ := W
  have B := B.at S
  obtain ⟨T', X', e', st'⟩ := getF X B.1 B.2.1 B.2.2.1 w via eT F (g := mkF m pc ls (.ref b :: st)) rfl rfl (hb B.2.2.2.1 hd)
  exact ⟨T', ⟨locs, vm0, k0, X', e', N, O', S, hk, H, hss⟩, fun G q => Go.by st' q⟩
theorem x_gets (B : Bdy p Z s m meth c own bytes maxL ret nm) (W : Wk p l e R s m args below meth c Z T h k n ss) {R0 O nf d host : String} {i : Nat} {v : Value} (hd : decode bytes pc = .ok (.getstatic i, 3)) (w : (Cond.fieldLink own i R0 nf d).before a0 Z = true ∨ (Cond.fieldLinkNest own i R0 nf d host).before a0 Z = true) (via : Via Z R0 O nf d) (F : Sta Z Z.heap O nf d v) (ls : Array Slot) (st : List Value) :
    ∃ T', Wk p l e R s m args below meth c Z T' h k n ss ∧ (∀ G, Go p.tables e below G T' (mkF m (pc + 3) ls (v :: st)) → Go p.tables e below G T (mkF m pc ls st)) := by
  obtain ⟨locs, vm0, k0, X, eT, N, O', S, hk, H, hss⟩ := W
  have B := B.at S
  obtain ⟨T', X', e', st'⟩ := getS2 X B.1 B.2.1 B.2.2.1 w via eT (F.ext O'.2) (g := mkF m pc ls st) rfl (hb B.2.2.2.1 hd)
  exact ⟨T', ⟨locs, vm0, k0, X', e', N, O', S, hk, H, hss⟩, fun G q => Go.by st' q⟩
theorem x_put (B : Bdy p Z s m meth c own bytes maxL ret nm) (W : Wk p l e R s m args below meth c Z T h k n ss) {R0 O nf d C : String} {i kk : Nat} {ty : FieldType} {b : Addr} {v v' old : Value} (hd : decode bytes pc = .ok (.putfield i, 3)) (w : (Cond.fieldLink own i R0 nf d).before a0 Z = true) (via : Via Z R0 O nf d) (F : Fld Z h b O nf d old) (E : Exa Z h b C) (L : (Cond.lays C O nf d).before a0 Z = true ∨ ((Cond.laysFinal C O nf d).before a0 Z = true ∧ own = O ∧ nm = "<init>")) (wi : (Cond.instantiable C kk).before a0 Z = true)
    (hty : parseFieldDescriptor d = some ty) (hn : narrow ty v = v') (hf : fits ty v' = true) (hb' : Z.heap.size ≤ b) (hsf : (C ≠ "java/lang/String" ∧ C ≠ "[B") ∨ b ∈ ss) (ls : Array Slot) (st : List Value) :
    ∃ T' h', Wk p l e R s m args below meth c Z T' h' k n ss ∧ Keep h h' [b] ∧ Wr h h' b (RoadKit.slotOf Z O nf d) v' ∧ Fld Z h' b O nf d v' ∧ Exa Z h' b C ∧ (∀ G, Go p.tables e below G T' (mkF m (pc + 3) ls st) → Go p.tables e below G T (mkF m pc ls (v :: .ref b :: st))) := by
  obtain ⟨locs, vm0, k0, X, eT, N, O', S, hk, H, hss⟩ := W
  have B := B.at S
  obtain ⟨T', h', X', e', W', st'⟩ := putFN X B.1 B.2.1 B.2.2.1 w via eT F E (L.imp id fun q => ⟨q.1, q.2.1, B.nameOf.trans q.2.2⟩) wi hty hn hf (g := mkF m pc ls (v :: .ref b :: st)) rfl rfl (hb B.2.2.2.1 hd)
  exact ⟨T', h', ⟨_, vm0, k0, X', e', Fr.snoc X' N hb', O'.wr W' hb', S, by rw [W'.size]; exact hk, H.trans (CHr.wr W' (hsf.elim (fun q => Safe.exa B.2.1.alike E q.1 q.2) fun q => (hss _ q).2) H.1), ss_mono (CHr.wr W' (hsf.elim (fun q => Safe.exa B.2.1.alike E q.1 q.2) fun q => (hss _ q).2) H.1) hss⟩, Keep.of_wr W', W', F.same W', E.wr W', fun G q => Go.by st' q⟩
theorem x_instY (B : Bdy p Z s m meth c own bytes maxL ret nm) (W : Wk p l e R s m args below meth c Z T h k n ss) {K : String} {i : Nat} {b : Addr} (hd : decode bytes pc = .ok (.instanceof i, 3)) (w : (Cond.classLink own i K).before a0 Z = true) (F : Ins Z h b K true) (ls : Array Slot) (st : List Value) :
    ∃ T', Wk p l e R s m args below meth c Z T' h k n ss ∧ (∀ G, Go p.tables e below G T' (mkF m (pc + 3) ls (.int 1 :: st)) → Go p.tables e below G T (mkF m pc ls (.ref b :: st))) := by
  obtain ⟨locs, vm0, k0, X, eT, N, O, S, hk, H, hss⟩ := W
  have B := B.at S
  obtain ⟨T', X', e', st'⟩ := instY X B.1 B.2.1 B.2.2.1 w eT F (g := mkF m pc ls (.ref b :: st)) rfl rfl (hb B.2.2.2.1 hd)
  exact ⟨T', ⟨locs, vm0, k0, X', e', N, O, S, hk, H, hss⟩, fun G q => Go.by st' q⟩
theorem x_instN (B : Bdy p Z s m meth c own bytes maxL ret nm) (W : Wk p l e R s m args below meth c Z T h k n ss) {K C : String} {i : Nat} {b : Addr} (hd : decode bytes pc = .ok (.instanceof i, 3)) (w : (Cond.classLink own i K).before a0 Z = true) (E : Exa Z h b C) (F : ∃ c t, Z.vm.findClass C = some c ∧ Z.vm.findClass K = some t ∧ Z.vm.assignable c t = false) (ls : Array Slot) (st : List Value) :
    ∃ T', Wk p l e R s m args below meth c Z T' h k n ss ∧ (∀ G, Go p.tables e below G T' (mkF m (pc + 3) ls (.int 0 :: st)) → Go p.tables e below G T (mkF m pc ls (.ref b :: st))) := by
  obtain ⟨locs, vm0, k0, X, eT, N, O, S, hk, H, hss⟩ := W
  have B := B.at S
  obtain ⟨T', X', e', st'⟩ := instNo X B.1 B.2.1 B.2.2.1 w eT E F (g := mkF m pc ls (.ref b :: st)) rfl rfl (hb B.2.2.2.1 hd)
  exact ⟨T', ⟨locs, vm0, k0, X', e', N, O, S, hk, H, hss⟩, fun G q => Go.by st' q⟩
theorem x_castY (B : Bdy p Z s m meth c own bytes maxL ret nm) (W : Wk p l e R s m args below meth c Z T h k n ss) {K : String} {i : Nat} {b : Addr} (hd : decode bytes pc = .ok (.checkcast i, 3)) (w : (Cond.classLink own i K).before a0 Z = true) (F : Ins Z h b K true) (ls : Array Slot) (st : List Value) :
    ∃ T', Wk p l e R s m args below meth c Z T' h k n ss ∧ (∀ G, Go p.tables e below G T' (mkF m (pc + 3) ls (.ref b :: st)) → Go p.tables e below G T (mkF m pc ls (.ref b :: st))) := by
  obtain ⟨locs, vm0, k0, X, eT, N, O, S, hk, H, hss⟩ := W
  have B := B.at S
  obtain ⟨T', X', e', st'⟩ := castY X B.1 B.2.1 B.2.2.1 w eT F (g := mkF m pc ls (.ref b :: st)) rfl rfl (hb B.2.2.2.1 hd)
  exact ⟨T', ⟨locs, vm0, k0, X', e', N, O, S, hk, H, hss⟩, fun G q => Go.by st' q⟩
/-! ### arrays -/
theorem x_newA (B : Bdy p Z s m meth c own bytes maxL ret nm) (W : Wk p l e R s m args below meth c Z T h k n ss) {aty : ArrayType} {z : Int32} (cap : Nat) (hd : decode bytes pc = .ok (.newarray aty, 2)) (w : (Cond.arrayClass (newarray.typeOf aty)).before a0 Z = true) (hn : ¬ z < 0) (hcap : z.toNatClampNeg ≤ cap) (hbg : cap * 8 ≤ 536870912) (hc : k + 1 ≤ R.cells) (hl : n + cap ≤ R.slots) (ls : Array Slot) (st : List Value) :
    ∃ T' h' b cA, b = h.size ∧ Wk p l e R s m args below meth c Z T' h' (k + 1) (n + cap) (b :: ss) ∧ Keep h h' [] ∧ Arv Z h' b cA (newarray.typeOf aty) z (List.replicate cap (defaultValue (newarray.typeOf aty))) (defaultValue (newarray.typeOf aty)) ∧
      (∀ G, Go p.tables e below G T' (mkF m (pc + 2) ls (.ref b :: st)) → Go p.tables e below G T (mkF m pc ls (.int z :: st))) := by
  obtain ⟨locs, vm0, k0, X, eT, N, O, S, hk, H, hss⟩ := W
  have B := B.at S
  obtain ⟨T', h', cA, X', e', E', A', st'⟩ := newP X B.1 B.2.1 w eT (g := mkF m pc ls (.int z :: st)) rfl (hb B.2.2.2.1 hd) rfl hn hcap hbg hc hl
  exact ⟨T', h', _, cA, rfl, ⟨locs, vm0, k0, X', e', N, O.ext E', S, Nat.le_trans hk E'.1, H.trans (CHr.ext E' H.1), own_ssn E' H.1 (by first | exact A'.lt | exact (Arv.new A' hn).lt) hss⟩, (Keep.refl h []).ext E', (Arv.new A' hn).pad (vs' := [] ++ List.replicate cap _) (pad_rep [] _ cap), fun G q => Go.by st' q⟩
theorem arv_put {kc : ClassId} {ty : FieldType} {z j : Int32} {vs : List Value} {dv v : Value} {b : Addr} (F : Arv Z h b kc ty z vs dv) (hv : fits ty v = true) (hW : Wr h h' b j.toNatClampNeg v) (hi : j.toNatClampNeg < vs.length) : Arv Z h' b kc ty z (vs.set j.toNatClampNeg v) dv := by
  obtain ⟨cl, A, r1, r2, r3, H, Gf⟩ := F
  exact Arv.set A r1 r2 r3 H Gf hv hW _ rfl hi
theorem x_castore (B : Bdy p Z s m meth c own bytes maxL ret nm) (W : Wk p l e R s m args below meth c Z T h k n ss) {kc : ClassId} {z j x : Int32} {vs : List Value} {dv : Value} {b : Addr} (hd : decode bytes pc = .ok (.castore, 1)) (F : Arv Z h b kc .char z vs dv) (hj : ¬ j < 0 ∧ j < z) (hi : j.toNatClampNeg < vs.length) (hb' : Z.heap.size ≤ b) (ls : Array Slot) (st : List Value) :
    ∃ T' h', Wk p l e R s m args below meth c Z T' h' k n ss ∧ Keep h h' [b] ∧ Arv Z h' b kc .char z (vs.set j.toNatClampNeg (.int (nar .char x))) dv ∧ (∀ G, Go p.tables e below G T' (mkF m (pc + 1) ls st) → Go p.tables e below G T (mkF m pc ls (.int x :: .int j :: .ref b :: st))) := by
  obtain ⟨locs, vm0, k0, X, eT, N, O, S, hk, H, hss⟩ := W
  have B := B.at S
  have F' := F
  obtain ⟨cl, A, r1, r2, r3, Hs, Gf⟩ := F
  obtain ⟨T', h', X', e', W', st'⟩ := stC X B.1 B.2.1 eT A (inb_of r2 hj) (g := mkF m pc ls (.int x :: .int j :: .ref b :: st)) rfl rfl (hb B.2.2.2.1 hd)
  exact ⟨T', h', ⟨_, vm0, k0, X', e', Fr.snoc X' N hb', O.wr W' hb', S, by rw [W'.size]; exact hk, H.trans (CHr.wr W' (Safe.arv B.2.1.alike F' (by decide)) H.1), ss_mono (CHr.wr W' (Safe.arv B.2.1.alike F' (by decide)) H.1) hss⟩, Keep.of_wr W', arv_put F' (fits_nar_char _) W' hi, fun G q => Go.by st' q⟩
theorem arv_read {kc : ClassId} {ty : FieldType} {z : Int32} {vs : List Value} {dv : Value} {b : Addr} (F : Arv Z h b kc ty z vs dv) {j : Int32} (hj : ¬ j < 0 ∧ j < z) {v : Value} (hv : vs.getD j.toNatClampNeg dv = v) : ∃ cl : Cell, Arr Z h b cl ty ∧ ¬ (j < 0 ∨ cl.slots.size ≤ j.toNatClampNeg) ∧ cl.slots[j.toNatClampNeg]? = some v := by
  obtain ⟨cl, A, r1, r2, r3, H, -⟩ := F
  exact ⟨cl, A, inb_of r2 hj, H.at (inb_of r2 hj) hv⟩
theorem g_caload (B : Bdy p Z s m meth c own bytes maxL ret nm) (W : Wk p l e R s m args below meth c Z T h k n ss) {kc : ClassId} {z j : Int32} {vs : List Value} {dv v : Value} {b : Addr} (hd : decode bytes pc = .ok (.caload, 1)) (F : Arv Z h b kc .char z vs dv) (hj : ¬ j < 0 ∧ j < z) (hv : vs.getD j.toNatClampNeg dv = v)
    (q : Go p.tables e below G T (mkF m (pc + 1) ls (v :: st))) : Go p.tables e below G T (mkF m pc ls (.int j :: .ref b :: st)) := by
  obtain ⟨locs, vm0, k0, X, eT, N, O, S, hk, H, hss⟩ := W
  have B := B.at S
  obtain ⟨cl, A, hin, hat⟩ := arv_read F hj hv
  exact Go.by (X.caload B.1 (by rw [eT]; exact A.1) (State.isArrayOf_alike B.2.1.alike A.2.1) A.2.2 hin hat (g := mkF m pc ls (.int j :: .ref b :: st)) rfl rfl (hb B.2.2.2.1 hd)) q
theorem g_caloadK (B : Bdy p Z s m meth c own bytes maxL ret nm) (W : Wk p l e R s m args below meth c Z T h k n ss) {j : Int32} {v : Value} {cl : Cell} {b : Addr} (hd : decode bytes pc = .ok (.caload, 1)) (A : Arr Z h b cl .char) (hin : ¬ (j < 0 ∨ cl.slots.size ≤ j.toNatClampNeg)) (hat : cl.slots[j.toNatClampNeg]? = some v)
    (q : Go p.tables e below G T (mkF m (pc + 1) ls (v :: st))) : Go p.tables e below G T (mkF m pc ls (.int j :: .ref b :: st)) := by
  obtain ⟨locs, vm0, k0, X, eT, N, O, S, hk, H, hss⟩ := W
  have B := B.at S
  exact Go.by (X.caload B.1 (by rw [eT]; exact A.1) (State.isArrayOf_alike B.2.1.alike A.2.1) A.2.2 hin hat (g := mkF m pc ls (.int j :: .ref b :: st)) rfl rfl (hb B.2.2.2.1 hd)) q
theorem g_alenK (B : Bdy p Z s m meth c own bytes maxL ret nm) (W : Wk p l e R s m args below meth c Z T h k n ss) {ty : FieldType} {z : Int32} {cl : Cell} {b : Addr} (hd : decode bytes pc = .ok (.arraylength, 1)) (A : Arr Z h b cl ty) (hz : cl.slots.size.toInt32 = z)
    (q : Go p.tables e below G T (mkF m (pc + 1) ls (.int z :: st))) : Go p.tables e below G T (mkF m pc ls (.ref b :: st)) := by
  obtain ⟨locs, vm0, k0, X, eT, N, O, S, hk, H, hss⟩ := W
  have B := B.at S
  refine Go.by (X.arraylength B.1 (by rw [eT]; exact A.1) (State.isArrayOf_alike B.2.1.alike A.2.1) (g := mkF m pc ls (.ref b :: st)) rfl rfl (hb B.2.2.2.1 hd)) ?_
  rw [hz]; exact q
theorem g_aalen (B : Bdy p Z s m meth c own bytes maxL ret nm) (W : Wk p l e R s m args below meth c Z T h k n ss) {kc : ClassId} {ty : FieldType} {z : Int32} {vs : List Value} {dv : Value} {b : Addr} (hd : decode bytes pc = .ok (.arraylength, 1)) (F : Arv Z h b kc ty z vs dv)
    (q : Go p.tables e below G T (mkF m (pc + 1) ls (.int z :: st))) : Go p.tables e below G T (mkF m pc ls (.ref b :: st)) := by
  obtain ⟨locs, vm0, k0, X, eT, N, O, S, hk, H, hss⟩ := W
  have B := B.at S
  obtain ⟨cl, A, r1, r2, r3, H, -⟩ := F
  refine Go.by (X.arraylength B.1 (by rw [eT]; exact A.1) (State.isArrayOf_alike B.2.1.alike A.2.1) (g := mkF m pc ls (.ref b :: st)) rfl rfl (hb B.2.2.2.1 hd)) ?_
  rw [len_of r2 r3]; exact q
theorem g_aaload (B : Bdy p Z s m meth c own bytes maxL ret nm) (W : Wk p l e R s m args below meth c Z T h k n ss) {ty : FieldType} {j : Int32} {v : Value} {cl : Cell} {b : Addr} (hd : decode bytes pc = .ok (.aaload, 1)) (A : Arr Z h b cl ty) (ht : ty.isReference = true) (hin : ¬ (j < 0 ∨ cl.slots.size ≤ j.toNatClampNeg)) (hat : cl.slots[j.toNatClampNeg]? = some v)
    (q : Go p.tables e below G T (mkF m (pc + 1) ls (v :: st))) : Go p.tables e below G T (mkF m pc ls (.int j :: .ref b :: st)) := by
  obtain ⟨locs, vm0, k0, X, eT, N, O, S, hk, H, hss⟩ := W
  have B := B.at S
  exact Go.by (X.aaload B.1 (by rw [eT]; exact A.1) (State.isArrayOf_alike B.2.1.alike A.2.1) ht A.2.2 hin hat (g := mkF m pc ls (.int j :: .ref b :: st)) rfl rfl (hb B.2.2.2.1 hd)) q
theorem g_instNull (B : Bdy p Z s m meth c own bytes maxL ret nm) (W : Wk p l e R s m args below meth c Z T h k n ss) {i : Nat} (hd : decode bytes pc = .ok (.instanceof i, 3)) (q : Go p.tables e below G T (mkF m (pc + 3) ls (.int 0 :: st))) : Go p.tables e below G T (mkF m pc ls (.null :: st)) := by
  obtain ⟨_, _, _, X, _, _, _, S, -⟩ := W
  have B := B.at S
  exact Go.by (X.instanceofNull B.1 (g := mkF m pc ls (.null :: st)) rfl rfl (hb B.2.2.2.1 hd)) q
theorem g_castNull (B : Bdy p Z s m meth c own bytes maxL ret nm) (W : Wk p l e R s m args below meth c Z T h k n ss) {i : Nat} (hd : decode bytes pc = .ok (.checkcast i, 3)) (q : Go p.tables e below G T (mkF m (pc + 3) ls (.null :: st))) : Go p.tables e below G T (mkF m pc ls (.null :: st)) := by
  obtain ⟨_, _, _, X, _, _, _, S, -⟩ := W
  have B := B.at S
  refine Go.by (fun t q => ?_) q
  jvm_step X.here [B.1, (hb B.2.2.2.1 hd), checkcast.sem]
  exact q
theorem x_newR (B : Bdy p Z s m meth c own bytes maxL ret nm) (W : Wk p l e R s m args below meth c Z T h k n ss) {C : String} {i : Nat} {z : Int32} (cap : Nat) (hd : decode bytes pc = .ok (.anewarray i, 3)) (w1 : (Cond.classLink own i C).before a0 Z = true) (w2 : (Cond.arrayOver (.object C)).before a0 Z = true) (hn : ¬ z < 0) (hcap : z.toNatClampNeg ≤ cap) (hbg : cap * 8 ≤ 536870912) (hc : k + 1 ≤ R.cells) (hl : n + cap ≤ R.slots) (ls : Array Slot) (st : List Value) :
    ∃ T' h' b cA, b = h.size ∧ Wk p l e R s m args below meth c Z T' h' (k + 1) (n + cap) (b :: ss) ∧ Keep h h' [] ∧ Arv Z h' b cA (.object C) z (List.replicate cap .null) .null ∧ Ovr Z cA C ∧
      (∀ G, Go p.tables e below G T' (mkF m (pc + 3) ls (.ref b :: st)) → Go p.tables e below G T (mkF m pc ls (.int z :: st))) := by
  obtain ⟨locs, vm0, k0, X, eT, N, O, S, hk, H, hss⟩ := W
  have B := B.at S
  obtain ⟨T', h', cA, X', e', E', A', Ov', st'⟩ := newR X B.1 B.2.1 B.2.2.1 w1 w2 eT (g := mkF m pc ls (.int z :: st)) rfl (hb B.2.2.2.1 hd) rfl hn hcap hbg hc hl
  exact ⟨T', h', _, cA, rfl, ⟨locs, vm0, k0, X', e', N, O.ext E', S, Nat.le_trans hk E'.1, H.trans (CHr.ext E' H.1), own_ssn E' H.1 (by first | exact A'.lt | exact (Arv.new A' hn).lt) hss⟩, (Keep.refl h []).ext E', (Arv.new A' hn).pad (vs' := [] ++ List.replicate cap _) (pad_rep [] _ cap), Ov', fun G q => Go.by st' q⟩
theorem x_aastore (B : Bdy p Z s m meth c own bytes maxL ret nm) (W : Wk p l e R s m args below meth c Z T h k n ss) {kc : ClassId} {ty : FieldType} {z j : Int32} {vs : List Value} {dv v : Value} {b : Addr} (hd : decode bytes pc = .ok (.aastore, 1)) (F : Arv Z h b kc ty z vs dv) (ht : ty.isReference = true) (hj : ¬ j < 0 ∧ j < z) (hi : j.toNatClampNeg < vs.length) (hv : v.isRef = true) (hS : ∀ cl, Arr Z h b cl ty → cl.cls = kc → Sto Z h b v) (hb' : Z.heap.size ≤ b) (ls : Array Slot) (st : List Value) :
    ∃ T' h', Wk p l e R s m args below meth c Z T' h' k n ss ∧ Keep h h' [b] ∧ Arv Z h' b kc ty z (vs.set j.toNatClampNeg v) dv ∧ (∀ G, Go p.tables e below G T' (mkF m (pc + 1) ls st) → Go p.tables e below G T (mkF m pc ls (v :: .int j :: .ref b :: st))) := by
  obtain ⟨locs, vm0, k0, X, eT, N, O, S, hk, H, hss⟩ := W
  have B := B.at S
  have F' := F
  have hby : ty ≠ .byte := fun q => by rw [q] at ht; cases ht
  obtain ⟨cl, A, r1, r2, r3, Hs, Gf⟩ := F
  obtain ⟨T', h', X', e', W', st'⟩ := stR X B.1 B.2.1 eT A (inb_of r2 hj) ht (hS cl A r1) (g := mkF m pc ls (v :: .int j :: .ref b :: st)) rfl rfl (hb B.2.2.2.1 hd)
  exact ⟨T', h', ⟨_, vm0, k0, X', e', Fr.snoc X' N hb', O.wr W' hb', S, by rw [W'.size]; exact hk, H.trans (CHr.wr W' (Safe.arv B.2.1.alike F' hby) H.1), ss_mono (CHr.wr W' (Safe.arv B.2.1.alike F' hby) H.1) hss⟩, Keep.of_wr W', arv_put F' (own_fr ht hv) W' hi, fun G q => Go.by st' q⟩
theorem g_aaloadV (B : Bdy p Z s m meth c own bytes maxL ret nm) (W : Wk p l e R s m args below meth c Z T h k n ss) {kc : ClassId} {ty : FieldType} {z j : Int32} {vs : List Value} {dv v : Value} {b : Addr} (hd : decode bytes pc = .ok (.aaload, 1)) (F : Arv Z h b kc ty z vs dv) (ht : ty.isReference = true) (hj : ¬ j < 0 ∧ j < z) (hv : vs.getD j.toNatClampNeg dv = v)
    (q : Go p.tables e below G T (mkF m (pc + 1) ls (v :: st))) : Go p.tables e below G T (mkF m pc ls (.int j :: .ref b :: st)) := by
  obtain ⟨cl, A, hin, hat⟩ := arv_read F hj hv
  exact g_aaload B W hd A ht hin hat q
theorem x_clone (B : Bdy p Z s m meth c own bytes maxL ret nm) (W : Wk p l e R s m args below meth c Z T h k n ss) {ad : String} {i : Nat} {b : Addr} {cl : Cell} {ty : FieldType} (cap : Nat) (hd : decode bytes pc = .ok (.invokevirtual i, 3)) (w1 : (Cond.methodLink own i ⟨ad, "clone", "()Ljava/lang/Object;"⟩).before a0 Z = true) (w2 : (Cond.sameMethod ad "java/lang/Object" "clone" "()Ljava/lang/Object;").before a0 Z = true) (w3 : (Cond.native ⟨"java/lang/Object", "clone", "()Ljava/lang/Object;"⟩).before a0 Z = true)
    (w4 : (Cond.instanceMethod ⟨"java/lang/Object", "clone", "()Ljava/lang/Object;"⟩).before a0 Z = true) (w5 : (Cond.selects ad ⟨ad, "clone", "()Ljava/lang/Object;"⟩ ⟨"java/lang/Object", "clone", "()Ljava/lang/Object;"⟩).before a0 Z = true) (w6 : (Cond.castable ad "java/lang/Cloneable").before a0 Z = true) (A : Arr Z h b cl ty) (E : Exa Z h b ad) (F : FitC Z cl)
    (ls : Array Slot) (st : List Value) (hsz : ls.size = maxL) (V : Nat) (hV : (st.map fun v => v.category).sum = V) (hf : 1 ≤ R.frames) (hl : V + 14 ≤ R.locals) (hcap : cl.slots.size ≤ cap) (hc : k + 1 ≤ R.cells) (hs : n + cap ≤ R.slots) :
    ∃ T' h' b', b' = h.size ∧ Wk p l e R s m args below meth c Z T' h' (k + 1) (n + cap) (b' :: ss) ∧ Keep h h' [] ∧ Arr Z h' b' (cloneOf cl) ty ∧ Exa Z h' b' ad ∧ (∀ G, Go p.tables e below G T' (mkF m (pc + 3) ls (.ref b' :: st)) → Go p.tables e below G T (mkF m pc ls (.ref b :: st))) := by
  obtain ⟨locs, vm0, k0, X, eT, N, O, S, hk, H, hss⟩ := W
  have B := B.at S
  obtain ⟨T', h', X', e', E', A', Ex', st'⟩ := cloneA X B.1 B.2.1 B.2.2.1 w1 w2 w3 w4 w5 w6 eT A E F (g := mkF m pc ls (.ref b :: st)) rfl (hsz.trans B.2.2.2.2.1.symm) rfl (hb B.2.2.2.1 hd) hf (W := V) (by show 2 * 0 + _ ≤ _; omega) hl hcap hc hs
  exact ⟨T', h', _, rfl, ⟨locs, vm0, k0, X', e', N, O.ext E', S, Nat.le_trans hk E'.1, H.trans (CHr.ext E' H.1), own_ssn E' H.1 (by first | exact A'.lt | exact (Arv.new A' hn).lt) hss⟩, (Keep.refl h []).ext E', A', Ex', fun G q => Go.by st' q⟩
/-! ### calls -/
theorem backC {vm0 : Vm} {y : MethodName} {yb : ByteArray} {yL : Nat} {yr : Option FieldType} {rm : Room} {len V : Nat} {as' : Array Value} {s0 : List Addr} (C : Con l Z y yb yL yr [] rm as' h Q s0) (O : Old Z Z.heap.size h) (hWd : Wd Z)
    (hZ : Z.Warmed39 vm0) (wc : (Cond.code y yb yL yr).before a0 Z = true) (wz : (Cond.initialized y.cls).before a0 Z = true) (hf : rm.frames + 1 ≤ R.frames) (hl : V + (yL + 11) + rm.locals ≤ R.locals) (H : CHv Z EL vm0 h) (hs0 : ∀ x ∈ s0, x < h.size ∧ Safe Z EL vm0 h x) :
    BackS l R p e below (s.setVm vm0) args y len V (fun A a => a = as' ∧ A.U.heap = h ∧ A.cells + rm.cells ≤ R.cells ∧ A.slots + rm.slots ≤ R.slots)
      (fun A _ v B => ∃ L, (Q v B.U.heap ∧ Fr Z.heap.size L ∧ Old Z Z.heap.size B.U.heap) ∧ B.locs = A.locs ++ L ∧ B.cells = A.cells + rm.cells ∧ B.slots = A.slots + rm.slots ∧ CHr Z EL vm0 h B.U.vm B.U.heap) := by
  obtain ⟨a1, hEL, -⟩ := id hWd
  refine BackS.of_freeW (bytes := yb) (maxL := yL) (ret := yr) (E := fun _ first o t L k n => (k = rm.cells ∧ n = rm.slots) ∧ ∃ v, o = .returned v ∧ (Q v t.heap ∧ Fr Z.heap.size L ∧ Old Z Z.heap.size t.heap) ∧ CHr Z EL first.vm first.heap t.vm t.heap) (C hWd O) hf hl ?_ ?_ (fun _ _ _ _ _ _ _ _ _ => trivial) ?_ ?_
  · intro m meth c A a Y hp
    have hU : Z.Warmed39 A.U.vm := wtrans (s := s.setVm vm0) hZ Y.warmed
    exact ⟨by show (Cond.and _ .tt).before a A.U = true; rw [Cond.before_and, mv hU wc]; rfl, mv hU wc, mv hU wz, hp.2.2.1, hp.2.2.2⟩
  · intro m meth c A a g mk Y hp
    have q := CHv.at Y hZ hEL H
    exact ⟨hp.1, wtrans (s := s.setVm vm0) hZ Y.warmed, hp.2.1, q.1, ss_mono q hs0⟩
  · rintro _ _ _ _ ⟨v, L, h1, h2, h3, h4⟩
    exact ⟨L, _, _, h4, ⟨rfl, rfl⟩, v, h1, h2, h3⟩
  · rintro m meth c A a g mk v t L k n Y hp _ _ ⟨⟨rfl, rfl⟩, v', e3, e4, e5⟩
    cases e3
    refine ⟨L, e4, rfl, rfl, rfl, (CHv.at Y hZ hEL H).trans ?_⟩
    have e6 : (A.U.calling g mk a).heap = h := hp.2.1
    rw [← e6]; exact e5
theorem x_static (B : Bdy p Z s m meth c own bytes maxL ret nm) (W : Wk p l e R s m args below meth c Z T h k n ss) {y : MethodName} {yb : ByteArray} {yL i : Nat} {yr : Option FieldType} {rm : Room} (argsL : List Value) {s0 : List Addr} (C : Con l Z y yb yL yr [] rm argsL.toArray h Q s0) (hs0 : ∀ x ∈ s0, x ∈ ss)
    (hd : decode bytes pc = .ok (.invokestatic i, 3)) (w1 : (Cond.methodLink own i y).before a0 Z = true) (w2 : (Cond.static y).before a0 Z = true) (wz : (Cond.initialized y.cls).before a0 Z = true) (wc : (Cond.code y yb yL yr).before a0 Z = true) (hy : y.cls ≠ "java/lang/invoke/MethodHandle" ∧ y.cls ≠ "java/lang/invoke/VarHandle")
    (hlen : ∀ sig, parseMethodDescriptor y.desc = some sig → argsL.length = sig.parameters.length) (ls : Array Slot) (st : List Value) (hsz : ls.size = maxL) (V : Nat) (hV : (st.map fun v => v.category).sum = V) (hf : rm.frames + 1 ≤ R.frames) (hl : V + (yL + 11) + rm.locals ≤ R.locals) (hc : k + rm.cells ≤ R.cells) (hs : n + rm.slots ≤ R.slots) :
    ∃ T' h' v, Wk p l e R s m args below meth c Z T' h' (k + rm.cells) (n + rm.slots) ss ∧ Q v h' ∧ (∀ G, Go p.tables e below G T' (mkF m (pc + 3) ls (v.toList ++ st)) → Go p.tables e below G T (mkF m pc ls (argsL.reverse ++ st))) := by
  obtain ⟨locs, vm0, k0, X, eT, N, O, S, hk, H, hss⟩ := W
  have B := B.at S
  obtain ⟨v, _, ⟨T', L', k', n'⟩, -, X', S', hg', ⟨Lc, hQ, l1, l2, l3, A'⟩, st'⟩ := callSS X B.1 (y := y) B.2.2.1 (mvT B.2.1 w1) (mvT B.2.1 w2) (mvT B.2.1 wz) (mvT B.2.1 wc) hy (backC (V := V) C O B.2.2.2.2.2.2.2.2 B.2.1 wc wz hf hl H.1 (fun x q => hss x (hs0 x q))) (g := mkF m pc ls (argsL.reverse ++ st)) rfl (hsz.trans B.2.2.2.2.1.symm) (argsL := argsL) (rest := st) hlen rfl (by show 2 * 0 + _ ≤ _; omega) (hb B.2.2.2.1 hd) (fun _ _ => ⟨rfl, eT, hc, hs⟩)
  dsimp only [Pt.U, Pt.locs, Pt.cells, Pt.slots] at X' S' hg' A' l1 l2 l3 st' hQ
  subst l1 l2 l3
  exact ⟨T', T'.heap, v, ⟨_, T'.vm, T'.heap.size, X', rfl, N.app hQ.2.1, hQ.2.2, S.trans S' (Nat.le_trans hk A'.2.1), Nat.le_refl _, H.trans A', ss_mono A' hss⟩, hQ.1, fun G q => Go.by (fun t q => st'.trans q) q⟩
theorem x_special (B : Bdy p Z s m meth c own bytes maxL ret nm) (W : Wk p l e R s m args below meth c Z T h k n ss) {y : MethodName} {yb : ByteArray} {yL i : Nat} {rm : Room} {b : Addr} (argsL : List Value) {s0 : List Addr} (C : Con l Z y yb yL none [] rm (.ref b :: argsL).toArray h Q s0) (hs0 : ∀ x ∈ s0, x ∈ ss)
    (hd : decode bytes pc = .ok (.invokespecial i, 3)) (hy1 : y.name = "<init>") (w1 : (Cond.methodLink own i y).before a0 Z = true) (w2 : (Cond.instanceMethod y).before a0 Z = true) (wz : (Cond.initialized y.cls).before a0 Z = true) (wc : (Cond.code y yb yL none).before a0 Z = true) (hy : y.cls ≠ "java/lang/invoke/MethodHandle" ∧ y.cls ≠ "java/lang/invoke/VarHandle")
    (hlen : ∀ sig, parseMethodDescriptor y.desc = some sig → argsL.length = sig.parameters.length) (ls : Array Slot) (st : List Value) (hsz : ls.size = maxL) (V : Nat) (hV : (st.map fun v => v.category).sum = V) (hf : rm.frames + 1 ≤ R.frames) (hl : V + (yL + 11) + rm.locals ≤ R.locals) (hc : k + rm.cells ≤ R.cells) (hs : n + rm.slots ≤ R.slots) :
    ∃ T' h' v, Wk p l e R s m args below meth c Z T' h' (k + rm.cells) (n + rm.slots) ss ∧ Q v h' ∧ (∀ G, Go p.tables e below G T' (mkF m (pc + 3) ls (v.toList ++ st)) → Go p.tables e below G T (mkF m pc ls (argsL.reverse ++ .ref b :: st))) := by
  obtain ⟨locs, vm0, k0, X, eT, N, O, S, hk, H, hss⟩ := W
  have B := B.at S
  obtain ⟨v, _, ⟨T', L', k', n'⟩, -, X', S', hg', ⟨Lc, hQ, l1, l2, l3, A'⟩, st'⟩ := X.specialBackS B.1 (y := y) hy1 B.2.2.1 (mvT B.2.1 w1) (mvT B.2.1 w2) (mvT B.2.1 wc) hy (backC (V := V) C O B.2.2.2.2.2.2.2.2 B.2.1 wc wz hf hl H.1 (fun x q => hss x (hs0 x q))) (g := mkF m pc ls (argsL.reverse ++ .ref b :: st)) rfl (hsz.trans B.2.2.2.2.1.symm) (Steps.refl _) (a := b) (argsL := argsL) (rest := st) hlen rfl (by show 2 * 0 + _ ≤ _; omega) (hb B.2.2.2.1 hd) (fun _ _ => ⟨rfl, eT, hc, hs⟩)
  dsimp only [Pt.U, Pt.locs, Pt.cells, Pt.slots] at X' S' hg' A' l1 l2 l3 st' hQ
  subst l1 l2 l3
  exact ⟨T', T'.heap, v, ⟨_, T'.vm, T'.heap.size, X', rfl, N.app hQ.2.1, hQ.2.2, S.trans S' (Nat.le_trans hk A'.2.1), Nat.le_refl _, H.trans A', ss_mono A' hss⟩, hQ.1, fun G q => Go.by (fun t q => st'.trans q) q⟩
theorem x_virtual (B : Bdy p Z s m meth c own bytes maxL ret nm) (W : Wk p l e R s m args below meth c Z T h k n ss) {y : MethodName} {yb : ByteArray} {yL i : Nat} {yr : Option FieldType} {rm : Room} {b : Addr} {D : String} (argsL : List Value) {s0 : List Addr} (C : Con l Z y yb yL yr [] rm (.ref b :: argsL).toArray h Q s0) (hs0 : ∀ x ∈ s0, x ∈ ss) (E : Exa Z h b D)
    (hd : decode bytes pc = .ok (.invokevirtual i, 3)) (w1 : (Cond.methodLink own i y).before a0 Z = true) (w2 : (Cond.declares y).before a0 Z = true) (w3 : (Cond.selects D y y).before a0 Z = true) (w4 : (Cond.instanceMethod y).before a0 Z = true) (wz : (Cond.initialized y.cls).before a0 Z = true) (wc : (Cond.code y yb yL yr).before a0 Z = true) (hy : y.cls ≠ "java/lang/invoke/MethodHandle" ∧ y.cls ≠ "java/lang/invoke/VarHandle")
    (hlen : ∀ sig, parseMethodDescriptor y.desc = some sig → argsL.length = sig.parameters.length) (ls : Array Slot) (st : List Value) (hsz : ls.size = maxL) (V : Nat) (hV : (st.map fun v => v.category).sum = V) (hf : rm.frames + 1 ≤ R.frames) (hl : V + (yL + 11) + rm.locals ≤ R.locals) (hc : k + rm.cells ≤ R.cells) (hs : n + rm.slots ≤ R.slots) :
    ∃ T' h' v, Wk p l e R s m args below meth c Z T' h' (k + rm.cells) (n + rm.slots) ss ∧ Q v h' ∧ (∀ G, Go p.tables e below G T' (mkF m (pc + 3) ls (v.toList ++ st)) → Go p.tables e below G T (mkF m pc ls (argsL.reverse ++ .ref b :: st))) := by
  obtain ⟨locs, vm0, k0, X, eT, N, O, S, hk, H, hss⟩ := W
  have B := B.at S
  obtain ⟨cq, kq, qa, qb, qc⟩ := isOf B.2.1 eT E
  obtain ⟨v, _, ⟨T', L', k', n'⟩, -, X', S', hg', ⟨Lc, hQ, l1, l2, l3, A'⟩, st'⟩ := X.virtualBackS B.1 (y := y) (z := y) B.2.2.1 (mvT B.2.1 w1) (mvT B.2.1 w2) (notFace_of_selects (args := #[]) (mvT B.2.1 w3)) (mvT B.2.1 w3) (mvT B.2.1 w4) hy (backC (V := V) C O B.2.2.2.2.2.2.2.2 B.2.1 wc wz hf hl H.1 (fun x q => hss x (hs0 x q))) qa qc (g := mkF m pc ls (argsL.reverse ++ .ref b :: st)) rfl (hsz.trans B.2.2.2.2.1.symm) (Steps.refl _) (argsL := argsL) (rest := st) hlen rfl (by show 2 * 0 + _ ≤ _; omega) (hb B.2.2.2.1 hd) (fun _ _ => ⟨rfl, eT, hc, hs⟩)
  dsimp only [Pt.U, Pt.locs, Pt.cells, Pt.slots] at X' S' hg' A' l1 l2 l3 st' hQ
  subst l1 l2 l3
  exact ⟨T', T'.heap, v, ⟨_, T'.vm, T'.heap.size, X', rfl, N.app hQ.2.1, hQ.2.2, S.trans S' (Nat.le_trans hk A'.2.1), Nat.le_refl _, H.trans A', ss_mono A' hss⟩, hQ.1, fun G q => Go.by (fun t q => st'.trans q) q⟩
theorem x_iface (B : Bdy p Z s m meth c own bytes maxL ret nm) (W : Wk p l e R s m args below meth c Z T h k n ss) {xi y : MethodName} {count : Nat} {D : String} {yb : ByteArray} {yL i : Nat} {yr : Option FieldType} {rm : Room} {b : Addr} (argsL : List Value) {s0 : List Addr} (C : Con l Z y yb yL yr [] rm (.ref b :: argsL).toArray h Q s0) (hs0 : ∀ x ∈ s0, x ∈ ss) (E : Exa Z h b D)
    (hd : decode bytes pc = .ok (.invokeinterface i count, 5)) (w1 : (Cond.methodLink own i xi).before a0 Z = true) (w2 : (Cond.declares xi).before a0 Z = true) (w3 : (Cond.interfaceMethod xi.cls xi.cls xi.name xi.desc).before a0 Z = true) (w4 : (Cond.selects D xi y).before a0 Z = true) (w5 : (Cond.instanceMethod y).before a0 Z = true) (w6 : (Cond.publicMethod y).before a0 Z = true) (w7 : (Cond.unhidden D xi.name xi.desc).before a0 Z = true) (w8 : (Cond.castable D xi.cls).before a0 Z = true) (hk3 : ((Cond.interfaceMethod xi.cls xi.cls xi.name xi.desc).onTables && (Cond.interfaceMethod xi.cls xi.cls xi.name xi.desc).keepsFace) = true) (wz : (Cond.initialized y.cls).before a0 Z = true) (wc : (Cond.code y yb yL yr).before a0 Z = true) (hy : xi.cls ≠ "java/lang/invoke/MethodHandle" ∧ xi.cls ≠ "java/lang/invoke/VarHandle")
    (hlen : ∀ sig, parseMethodDescriptor xi.desc = some sig → argsL.length = sig.parameters.length) (ls : Array Slot) (st : List Value) (hsz : ls.size = maxL) (V : Nat) (hV : (st.map fun v => v.category).sum = V) (hf : rm.frames + 1 ≤ R.frames) (hl : V + (yL + 11) + rm.locals ≤ R.locals) (hc : k + rm.cells ≤ R.cells) (hs : n + rm.slots ≤ R.slots) :
    ∃ T' h' v, Wk p l e R s m args below meth c Z T' h' (k + rm.cells) (n + rm.slots) ss ∧ Q v h' ∧ (∀ G, Go p.tables e below G T' (mkF m (pc + 5) ls (v.toList ++ st)) → Go p.tables e below G T (mkF m pc ls (argsL.reverse ++ .ref b :: st))) := by
  obtain ⟨locs, vm0, k0, X, eT, N, O, S, hk, H, hss⟩ := W
  have B := B.at S
  obtain ⟨cq, kq, qa, qb, qc⟩ := isOf B.2.1 eT E
  obtain ⟨v, _, ⟨T', L', k', n'⟩, -, X', S', hg', ⟨Lc, hQ, l1, l2, l3, A'⟩, st'⟩ := X.interfaceBackS B.1 (xi := xi) (y := y) B.2.2.1 (mvT B.2.1 w1) (mvT B.2.1 w2) (mvT B.2.1 w3 hk3) (mvT B.2.1 w4) (mvT B.2.1 w5) (mvT B.2.1 w6) (mvT B.2.1 w7) (mvT B.2.1 w8) hy (backC (V := V) C O B.2.2.2.2.2.2.2.2 B.2.1 wc wz hf hl H.1 (fun x q => hss x (hs0 x q))) qa qb qc (g := mkF m pc ls (argsL.reverse ++ .ref b :: st)) rfl (hsz.trans B.2.2.2.2.1.symm) (Steps.refl _) (argsL := argsL) (rest := st) hlen rfl (by show 2 * 0 + _ ≤ _; omega) (hb B.2.2.2.1 hd) (fun _ _ => ⟨rfl, eT, hc, hs⟩)
  dsimp only [Pt.U, Pt.locs, Pt.cells, Pt.slots] at X' S' hg' A' l1 l2 l3 st' hQ
  subst l1 l2 l3
  exact ⟨T', T'.heap, v, ⟨_, T'.vm, T'.heap.size, X', rfl, N.app hQ.2.1, hQ.2.2, S.trans S' (Nat.le_trans hk A'.2.1), Nat.le_refl _, H.trans A', ss_mono A' hss⟩, hQ.1, fun G q => Go.by (fun t q => st'.trans q) q⟩
theorem x_private (B : Bdy p Z s m meth c own bytes maxL ret nm) (W : Wk p l e R s m args below meth c Z T h k n ss) {y : MethodName} {D : String} {yb : ByteArray} {yL i : Nat} {yr : Option FieldType} {rm : Room} {b : Addr} (argsL : List Value) {s0 : List Addr} (C : Con l Z y yb yL yr [] rm (.ref b :: argsL).toArray h Q s0) (hs0 : ∀ x ∈ s0, x ∈ ss) (E : Exa Z h b D)
    (hd : decode bytes pc = .ok (.invokevirtual i, 3)) (w1 : (Cond.methodLink own i y).before a0 Z = true) (w2 : (Cond.instanceMethod y).before a0 Z = true) (w3 : (Cond.selects y.cls y y).before a0 Z = true) (w4 : (Cond.privateMethod y).before a0 Z = true) (wz : (Cond.initialized y.cls).before a0 Z = true) (wc : (Cond.code y yb yL yr).before a0 Z = true) (hy : y.cls ≠ "java/lang/invoke/MethodHandle" ∧ y.cls ≠ "java/lang/invoke/VarHandle")
    (hlen : ∀ sig, parseMethodDescriptor y.desc = some sig → argsL.length = sig.parameters.length) (ls : Array Slot) (st : List Value) (hsz : ls.size = maxL) (V : Nat) (hV : (st.map fun v => v.category).sum = V) (hf : rm.frames + 1 ≤ R.frames) (hl : V + (yL + 11) + rm.locals ≤ R.locals) (hc : k + rm.cells ≤ R.cells) (hs : n + rm.slots ≤ R.slots) :
    ∃ T' h' v, Wk p l e R s m args below meth c Z T' h' (k + rm.cells) (n + rm.slots) ss ∧ Q v h' ∧ (∀ G, Go p.tables e below G T' (mkF m (pc + 3) ls (v.toList ++ st)) → Go p.tables e below G T (mkF m pc ls (argsL.reverse ++ .ref b :: st))) := by
  obtain ⟨locs, vm0, k0, X, eT, N, O, S, hk, H, hss⟩ := W
  have B := B.at S
  obtain ⟨cell, qa, qb⟩ := Exa.cell E
  obtain ⟨v, _, ⟨T', L', k', n'⟩, -, X', S', hg', ⟨Lc, hQ, l1, l2, l3, A'⟩, st'⟩ := X.privateBackS B.1 (y := y) B.2.2.1 (mvT B.2.1 w1) (mvT B.2.1 w2) (mvT B.2.1 w3) (Cond.privateMethod_at (mvP B.2.1 w4 (args := #[]))) (mvT B.2.1 wc) hy (backC (V := V) C O B.2.2.2.2.2.2.2.2 B.2.1 wc wz hf hl H.1 (fun x q => hss x (hs0 x q))) (g := mkF m pc ls (argsL.reverse ++ .ref b :: st)) rfl (hsz.trans B.2.2.2.2.1.symm) (Steps.refl _) (a := b) (by rw [eT]; exact qa) qb (argsL := argsL) (rest := st) hlen rfl (by show 2 * 0 + _ ≤ _; omega) (hb B.2.2.2.1 hd) (fun _ _ => ⟨rfl, eT, hc, hs⟩)
  dsimp only [Pt.U, Pt.locs, Pt.cells, Pt.slots] at X' S' hg' A' l1 l2 l3 st' hQ
  subst l1 l2 l3
  exact ⟨T', T'.heap, v, ⟨_, T'.vm, T'.heap.size, X', rfl, N.app hQ.2.1, hQ.2.2, S.trans S' (Nat.le_trans hk A'.2.1), Nat.le_refl _, H.trans A', ss_mono A' hss⟩, hQ.1, fun G q => Go.by (fun t q => st'.trans q) q⟩
theorem x_specialB (B : Bdy p Z s m meth c own bytes maxL ret nm) (W : Wk p l e R s m args below meth c Z T h k n ss) {y : MethodName} {yb : ByteArray} {yL i V rc rs : Nat} {b : Addr} {QL : Option Value → Heap → List Loc → Prop} (argsL : List Value) (hK : ∀ s' : State, Z.Warmed39 s'.vm → Back l R p e below s' args y 3 V (fun A a => a = (.ref b :: argsL).toArray ∧ A.U.heap = h ∧ A.cells + rc ≤ R.cells ∧ A.slots + rs ≤ R.slots) (fun A _ v B => ∃ L, QL v B.U.heap L ∧ B.locs = A.locs ++ L ∧ B.cells = A.cells + rc ∧ B.slots = A.slots + rs))
    (hd : decode bytes pc = .ok (.invokespecial i, 3)) (hy1 : y.name = "<init>") (w1 : (Cond.methodLink own i y).before a0 Z = true) (w2 : (Cond.instanceMethod y).before a0 Z = true) (wc : (Cond.code y yb yL none).before a0 Z = true) (hy : y.cls ≠ "java/lang/invoke/MethodHandle" ∧ y.cls ≠ "java/lang/invoke/VarHandle")
    (hlen : ∀ sig, parseMethodDescriptor y.desc = some sig → argsL.length = sig.parameters.length) (ls : Array Slot) (st : List Value) (hsz : ls.size = maxL) (hV : (st.map fun v => v.category).sum = V) (hc : k + rc ≤ R.cells) (hs : n + rs ≤ R.slots) (wl : List Addr) (hwl : ∀ x ∈ wl, Z.heap.size ≤ x) (hsf : ∀ x ∈ wl, x ∈ ss) (hq : ∀ v h' L, QL v h' L → Fr Z.heap.size L ∧ Keep h h' wl) : ∃ T' h' v L, Wk p l e R s m args below meth c Z T' h' (k + rc) (n + rs) ss ∧ QL v h' L ∧ (∀ G, Go p.tables e below G T' (mkF m (pc + 3) ls (v.toList ++ st)) → Go p.tables e below G T (mkF m pc ls (argsL.reverse ++ .ref b :: st))) := by
  obtain ⟨locs, vm0, k0, X, eT, N, O, S, hk, H, hss⟩ := W
  have B := B.at S
  obtain ⟨v, _, ⟨T', L', k', n'⟩, -, X', ⟨Lc, hQ, l1, l2, l3⟩, st'⟩ := X.specialBack B.1 (y := y) hy1 B.2.2.1 (mvT B.2.1 w1) (mvT B.2.1 w2) (mvT B.2.1 wc) hy (hK _ B.2.1) (g := mkF m pc ls (argsL.reverse ++ .ref b :: st)) rfl (hsz.trans B.2.2.2.2.1.symm) (Steps.refl _) (a := b) (argsL := argsL) (rest := st) hlen rfl (by show 2 * 0 + _ ≤ _; omega) (hb B.2.2.2.1 hd) (fun _ _ => ⟨rfl, eT, hc, hs⟩)
  dsimp only [Pt.U, Pt.locs, Pt.cells, Pt.slots] at X' l1 l2 l3 st' hQ
  subst l1 l2 l3
  obtain ⟨hF, hKp⟩ := hq _ _ _ hQ
  exact ⟨T', T'.heap, v, Lc, ⟨_, vm0, k0, X', rfl, N.app hF, O.keep hKp hwl, S, Nat.le_trans hk hKp.1, H.trans (CHr.keep hKp (fun x q => (hss x (hsf x q)).2) H.1), ss_mono (CHr.keep hKp (fun x q => (hss x (hsf x q)).2) H.1) hss⟩, hQ, fun G q => Go.by (fun t q => st'.trans q) q⟩
theorem x_virtualB (B : Bdy p Z s m meth c own bytes maxL ret nm) (W : Wk p l e R s m args below meth c Z T h k n ss) {y : MethodName} {D : String} {i V rc rs : Nat} {b : Addr} {QL : Option Value → Heap → List Loc → Prop} (argsL : List Value) (hK : ∀ s' : State, Z.Warmed39 s'.vm → Back l R p e below s' args y 3 V (fun A a => a = (.ref b :: argsL).toArray ∧ A.U.heap = h ∧ A.cells + rc ≤ R.cells ∧ A.slots + rs ≤ R.slots) (fun A _ v B => ∃ L, QL v B.U.heap L ∧ B.locs = A.locs ++ L ∧ B.cells = A.cells + rc ∧ B.slots = A.slots + rs)) (E : Exa Z h b D)
    (hd : decode bytes pc = .ok (.invokevirtual i, 3)) (w1 : (Cond.methodLink own i y).before a0 Z = true) (w2 : (Cond.declares y).before a0 Z = true) (w3 : (Cond.selects D y y).before a0 Z = true) (w4 : (Cond.instanceMethod y).before a0 Z = true) (hy : y.cls ≠ "java/lang/invoke/MethodHandle" ∧ y.cls ≠ "java/lang/invoke/VarHandle")
    (hlen : ∀ sig, parseMethodDescriptor y.desc = some sig → argsL.length = sig.parameters.length) (ls : Array Slot) (st : List Value) (hsz : ls.size = maxL) (hV : (st.map fun v => v.category).sum = V) (hc : k + rc ≤ R.cells) (hs : n + rs ≤ R.slots) (wl : List Addr) (hwl : ∀ x ∈ wl, Z.heap.size ≤ x) (hsf : ∀ x ∈ wl, x ∈ ss) (hq : ∀ v h' L, QL v h' L → Fr Z.heap.size L ∧ Keep h h' wl) : ∃ T' h' v L, Wk p l e R s m args below meth c Z T' h' (k + rc) (n + rs) ss ∧ QL v h' L ∧ (∀ G, Go p.tables e below G T' (mkF m (pc + 3) ls (v.toList ++ st)) → Go p.tables e below G T (mkF m pc ls (argsL.reverse ++ .ref b :: st))) := by
  obtain ⟨locs, vm0, k0, X, eT, N, O, S, hk, H, hss⟩ := W
  have B := B.at S
  obtain ⟨cq, kq, qa, qb, qc⟩ := isOf B.2.1 eT E
  obtain ⟨v, _, ⟨T', L', k', n'⟩, -, X', ⟨Lc, hQ, l1, l2, l3⟩, st'⟩ := X.virtualBack B.1 (y := y) (z := y) B.2.2.1 (mvT B.2.1 w1) (mvT B.2.1 w2) (notFace_of_selects (args := #[]) (mvT B.2.1 w3)) (mvT B.2.1 w3) (mvT B.2.1 w4) hy (hK _ B.2.1) qa qc (g := mkF m pc ls (argsL.reverse ++ .ref b :: st)) rfl (hsz.trans B.2.2.2.2.1.symm) (Steps.refl _) (argsL := argsL) (rest := st) hlen rfl (by show 2 * 0 + _ ≤ _; omega) (hb B.2.2.2.1 hd) (fun _ _ => ⟨rfl, eT, hc, hs⟩)
  dsimp only [Pt.U, Pt.locs, Pt.cells, Pt.slots] at X' l1 l2 l3 st' hQ
  subst l1 l2 l3
  obtain ⟨hF, hKp⟩ := hq _ _ _ hQ
  exact ⟨T', T'.heap, v, Lc, ⟨_, vm0, k0, X', rfl, N.app hF, O.keep hKp hwl, S, Nat.le_trans hk hKp.1, H.trans (CHr.keep hKp (fun x q => (hss x (hsf x q)).2) H.1), ss_mono (CHr.keep hKp (fun x q => (hss x (hsf x q)).2) H.1) hss⟩, hQ, fun G q => Go.by (fun t q => st'.trans q) q⟩
theorem x_ldcS (B : Bdy p Z s m meth c own bytes maxL ret nm) (W : Wk p l e R s m args below meth c Z T h k n ss) {i : Nat} {text : String} (sz : Nat) (hd : decode bytes pc = .ok (.ldc i, 2)) (w : (Cond.stringLink own i text).before a0 Z = true) (wS : ∀ a ∈ Bundle.stringAtoms, a.before a0 Z = true) (hEL : EW Z a0 EL) (hn : 4 * text.toList.length ≤ sz) (hbig : sz ≤ 536870912) (hc : k + 2 ≤ R.cells) (hl : n + (sz + 4) ≤ R.slots) (ls : Array Slot) (st : List Value) :
    ∃ T' h' b, Wk p l e R s m args below meth c Z T' h' (k + 2) (n + (sz + 4)) ss ∧ Keep h h' [] ∧ (∀ G, Go p.tables e below G T' (mkF m (pc + 2) ls (.ref b :: st)) → Go p.tables e below G T (mkF m pc ls st)) := by
  obtain ⟨locs, vm0, k0, X, eT, N, O, S, hk, H, hss⟩ := W
  have B := B.at S
  obtain ⟨b, T', h', k1, X', e', E', S', hk', hZ', hf', A', -, st'⟩ := ldcOH X B.1 B.2.1 B.2.2.1 w wS eT S hk hEL H.1 (g := mkF m pc ls st) rfl (hb B.2.2.2.1 hd) hn hbig hc hl
  exact ⟨T', h', b, ⟨locs, T'.vm, k1, X', e', N, O.ext E', S', hk', H.trans A', ss_mono A' hss⟩, (Keep.refl h []).ext E', fun G q => Go.by st' q⟩
theorem x_ldcT (B : Bdy p Z s m meth c own bytes maxL ret nm) (W : Wk p l e R s m args below meth c Z T h k n ss) {i : Nat} {text : String} (sz : Nat) {vs : List Value} {z : Int32} (hd : decode bytes pc = .ok (.ldc i, 2)) (w : (Cond.stringLink own i text).before a0 Z = true) (wS : ∀ a ∈ Bundle.stringAtoms, a.before a0 Z = true) (hEL : EW Z a0 EL) (hmem : (own, i) ∈ EL) (ht : (∀ c ∈ text.toList, c.toNat < 256) ∧ text.toList.map (fun c => Value.int (Jvm.Lit.byteI c.toNat.toUInt16)) = vs) (hz : ¬ z < 0) (hlz : z.toNatClampNeg = vs.length) (hn : 4 * text.toList.length ≤ sz) (hbig : sz ≤ 536870912) (hc : k + 2 ≤ R.cells) (hl : n + (sz + 4) ≤ R.slots) (ls : Array Slot) (st : List Value) :
    ∃ T' h' b t kc, Wk p l e R s m args below meth c Z T' h' (k + 2) (n + (sz + 4)) ss ∧ Keep h h' [] ∧ Exa Z h' b "java/lang/String" ∧ Fld Z h' b "java/lang/String" "coder" "B" (.int 0) ∧ Fld Z h' b "java/lang/String" "value" "[B" (.ref t) ∧ Arv Z h' t kc .byte z vs (.int 0) ∧ (∀ x ∈ ss, x ≠ b ∧ x ≠ t) ∧ (∀ G, Go p.tables e below G T' (mkF m (pc + 2) ls (.ref b :: st)) → Go p.tables e below G T (mkF m pc ls st)) := by
  obtain ⟨locs, vm0, k0, X, eT, N, O, S, hk, H, hss⟩ := W
  have B := B.at S
  obtain ⟨b, T', h', k1, t, kc, X', e', E', S', hk', hZ', hf', q1, q2, q3, q4, -, -, A', -, q5, st'⟩ := ldcCH X B.1 B.2.1 B.2.2.1 w wS eT S hk hEL hmem H.1 ht hz hlz (g := mkF m pc ls st) rfl (hb B.2.2.2.1 hd) hn hbig hc hl
  have hs2 := ss_mono A' hss
  exact ⟨T', h', b, t, kc, ⟨locs, T'.vm, k1, X', e', N, O.ext E', S', hk', H.trans A', hs2⟩, (Keep.refl h []).ext E', q1, q2, q3, q4, fun x hx => q5 x (hs2 x hx).2, fun G q => Go.by st' q⟩
end K
end Jvm.OwnK
namespace Jvm.Pilot.@@N@@
open Jvm Jvm.ClassFile Sem Op Lib Jvm.Free Jvm.Stand Jvm.LawKit Jvm.RoadKit Jvm.OwnK Bundle Jvm.Pilot.@@N@@.Jvm.D
theorem tw {Z : State} {a0 : Array Value} (hw : ∀ d ∈ tables_1, d.before a0 Z = true) (i : Nat) {d : Jvm.Cond} (h : tables_1[i]? = some d) : d.before a0 Z = true := hw _ (List.mem_of_getElem? h)
theorem d_method_3_0 : decode method_3_code 0 = .ok (.iload_n 0, 1) := by decide +kernel
theorem d_method_3_1 : decode method_3_code 1 = .ok (.ifCond .ne 14, 3) := by decide +kernel
theorem d_method_3_4 : decode method_3_code 4 = .ok (.new 32, 3) := by decide +kernel
theorem d_method_3_7 : decode method_3_code 7 = .ok (.dup, 1) := by decide +kernel
theorem d_method_3_8 : decode method_3_code 8 = .ok (.iconst 0, 1) := by decide +kernel
theorem d_method_3_9 : decode method_3_code 9 = .ok (.newarray .char, 2) := by decide +kernel
theorem d_method_3_11 : decode method_3_code 11 = .ok (.invokespecial 34, 3) := by decide +kernel
theorem d_method_3_14 : decode method_3_code 14 = .ok (.areturn, 1) := by decide +kernel
theorem d_method_3_15 : decode method_3_code 15 = .ok (.iload_n 0, 1) := by decide +kernel
theorem d_method_3_16 : decode method_3_code 16 = .ok (.iconst 1, 1) := by decide +kernel
theorem d_method_3_17 : decode method_3_code 17 = .ok (.if_icmp .ne 18, 3) := by decide +kernel
theorem d_method_3_20 : decode method_3_code 20 = .ok (.new 32, 3) := by decide +kernel
theorem d_method_3_23 : decode method_3_code 23 = .ok (.dup, 1) := by decide +kernel
theorem d_method_3_24 : decode method_3_code 24 = .ok (.iconst 1, 1) := by decide +kernel
theorem d_method_3_25 : decode method_3_code 25 = .ok (.newarray .char, 2) := by decide +kernel
theorem d_method_3_27 : decode method_3_code 27 = .ok (.dup, 1) := by decide +kernel
theorem d_method_3_28 : decode method_3_code 28 = .ok (.iconst 0, 1) := by decide +kernel
theorem d_method_3_29 : decode method_3_code 29 = .ok (.iload_n 1, 1) := by decide +kernel
theorem d_method_3_30 : decode method_3_code 30 = .ok (.castore, 1) := by decide +kernel
theorem d_method_3_31 : decode method_3_code 31 = .ok (.invokespecial 34, 3) := by decide +kernel
theorem d_method_3_34 : decode method_3_code 34 = .ok (.areturn, 1) := by decide +kernel
theorem d_method_3_35 : decode method_3_code 35 = .ok (.iload_n 0, 1) := by decide +kernel
theorem d_method_3_36 : decode method_3_code 36 = .ok (.iconst 2, 1) := by decide +kernel
theorem d_method_3_37 : decode method_3_code 37 = .ok (.if_icmp .ne 22, 3) := by decide +kernel
theorem d_method_3_40 : decode method_3_code 40 = .ok (.new 32, 3) := by decide +kernel
theorem d_method_3_43 : decode method_3_code 43 = .ok (.dup, 1) := by decide +kernel
theorem d_method_3_44 : decode method_3_code 44 = .ok (.iconst 2, 1) := by decide +kernel
theorem d_method_3_45 : decode method_3_code 45 = .ok (.newarray .char, 2) := by decide +kernel
theorem d_method_3_47 : decode method_3_code 47 = .ok (.dup, 1) := by decide +kernel
theorem d_method_3_48 : decode method_3_code 48 = .ok (.iconst 0, 1) := by decide +kernel
theorem d_method_3_49 : decode method_3_code 49 = .ok (.iload_n 1, 1) := by decide +kernel
theorem d_method_3_50 : decode method_3_code 50 = .ok (.castore, 1) := by decide +kernel
theorem d_method_3_51 : decode method_3_code 51 = .ok (.dup, 1) := by decide +kernel
theorem d_method_3_52 : decode method_3_code 52 = .ok (.iconst 1, 1) := by decide +kernel
theorem d_method_3_53 : decode method_3_code 53 = .ok (.iload_n 2, 1) := by decide +kernel
theorem d_method_3_54 : decode method_3_code 54 = .ok (.castore, 1) := by decide +kernel
theorem d_method_3_55 : decode method_3_code 55 = .ok (.invokespecial 34, 3) := by decide +kernel
theorem d_method_3_58 : decode method_3_code 58 = .ok (.areturn, 1) := by decide +kernel
theorem d_method_3_59 : decode method_3_code 59 = .ok (.new 32, 3) := by decide +kernel
theorem d_method_3_62 : decode method_3_code 62 = .ok (.dup, 1) := by decide +kernel
theorem d_method_3_63 : decode method_3_code 63 = .ok (.iconst 3, 1) := by decide +kernel
theorem d_method_3_64 : decode method_3_code 64 = .ok (.newarray .char, 2) := by decide +kernel
theorem d_method_3_66 : decode method_3_code 66 = .ok (.dup, 1) := by decide +kernel
theorem d_method_3_67 : decode method_3_code 67 = .ok (.iconst 0, 1) := by decide +kernel
theorem d_method_3_68 : decode method_3_code 68 = .ok (.iload_n 1, 1) := by decide +kernel
theorem d_method_3_69 : decode method_3_code 69 = .ok (.castore, 1) := by decide +kernel
theorem d_method_3_70 : decode method_3_code 70 = .ok (.dup, 1) := by decide +kernel
theorem d_method_3_71 : decode method_3_code 71 = .ok (.iconst 1, 1) := by decide +kernel
theorem d_method_3_72 : decode method_3_code 72 = .ok (.iload_n 2, 1) := by decide +kernel
theorem d_method_3_73 : decode method_3_code 73 = .ok (.castore, 1) := by decide +kernel
theorem d_method_3_74 : decode method_3_code 74 = .ok (.dup, 1) := by decide +kernel
theorem d_method_3_75 : decode method_3_code 75 = .ok (.iconst 2, 1) := by decide +kernel
theorem d_method_3_76 : decode method_3_code 76 = .ok (.iload_n 3, 1) := by decide +kernel
theorem d_method_3_77 : decode method_3_code 77 = .ok (.castore, 1) := by decide +kernel
theorem d_method_3_78 : decode method_3_code 78 = .ok (.invokespecial 34, 3) := by decide +kernel
theorem d_method_3_81 : decode method_3_code 81 = .ok (.areturn, 1) := by decide +kernel
theorem d_jdk_42_method_3_0 : decode jdk_42_method_3_code 0 = .ok (.aload_n 0, 1) := by decide +kernel
theorem d_jdk_42_method_3_1 : decode jdk_42_method_3_code 1 = .ok (.aload_n 1, 1) := by decide +kernel
theorem d_jdk_42_method_3_2 : decode jdk_42_method_3_code 2 = .ok (.iconst 0, 1) := by decide +kernel
theorem d_jdk_42_method_3_3 : decode jdk_42_method_3_code 3 = .ok (.aload_n 1, 1) := by decide +kernel
theorem d_jdk_42_method_3_4 : decode jdk_42_method_3_code 4 = .ok (.arraylength, 1) := by decide +kernel
theorem d_jdk_42_method_3_5 : decode jdk_42_method_3_code 5 = .ok (.aconst_null, 1) := by decide +kernel
theorem d_jdk_42_method_3_6 : decode jdk_42_method_3_code 6 = .ok (.invokespecial 27, 3) := by decide +kernel
theorem d_jdk_42_method_3_9 : decode jdk_42_method_3_code 9 = .ok (.return_, 1) := by decide +kernel
theorem d_jdk_42_method_149_0 : decode jdk_42_method_149_code 0 = .ok (.aload_n 0, 1) := by decide +kernel
theorem d_jdk_42_method_149_1 : decode jdk_42_method_149_code 1 = .ok (.invokespecial 1, 3) := by decide +kernel
theorem d_jdk_42_method_149_4 : decode jdk_42_method_149_code 4 = .ok (.iload_n 3, 1) := by decide +kernel
theorem d_jdk_42_method_149_5 : decode jdk_42_method_149_code 5 = .ok (.ifCond .ne 22, 3) := by decide +kernel
theorem d_jdk_42_method_149_8 : decode jdk_42_method_149_code 8 = .ok (.aload_n 0, 1) := by decide +kernel
theorem d_jdk_42_method_149_9 : decode jdk_42_method_149_code 9 = .ok (.ldc 7, 2) := by decide +kernel
theorem d_jdk_42_method_149_11 : decode jdk_42_method_149_code 11 = .ok (.getfield 9, 3) := by decide +kernel
theorem d_jdk_42_method_149_14 : decode jdk_42_method_149_code 14 = .ok (.putfield 9, 3) := by decide +kernel
theorem d_jdk_42_method_149_17 : decode jdk_42_method_149_code 17 = .ok (.aload_n 0, 1) := by decide +kernel
theorem d_jdk_42_method_149_18 : decode jdk_42_method_149_code 18 = .ok (.ldc 7, 2) := by decide +kernel
theorem d_jdk_42_method_149_20 : decode jdk_42_method_149_code 20 = .ok (.getfield 15, 3) := by decide +kernel
theorem d_jdk_42_method_149_23 : decode jdk_42_method_149_code 23 = .ok (.putfield 15, 3) := by decide +kernel
theorem d_jdk_42_method_149_26 : decode jdk_42_method_149_code 26 = .ok (.return_, 1) := by decide +kernel
theorem d_jdk_42_method_149_27 : decode jdk_42_method_149_code 27 = .ok (.getstatic 38, 3) := by decide +kernel
theorem d_jdk_42_method_149_30 : decode jdk_42_method_149_code 30 = .ok (.ifCond .eq 28, 3) := by decide +kernel
theorem d_jdk_42_method_149_33 : decode jdk_42_method_149_code 33 = .ok (.aload_n 1, 1) := by decide +kernel
theorem d_jdk_42_method_149_34 : decode jdk_42_method_149_code 34 = .ok (.iload_n 2, 1) := by decide +kernel
theorem d_jdk_42_method_149_35 : decode jdk_42_method_149_code 35 = .ok (.iload_n 3, 1) := by decide +kernel
theorem d_jdk_42_method_149_36 : decode jdk_42_method_149_code 36 = .ok (.invokestatic 177, 3) := by decide +kernel
theorem d_jdk_42_method_149_39 : decode jdk_42_method_149_code 39 = .ok (.astore 5, 2) := by decide +kernel
theorem d_jdk_42_method_149_41 : decode jdk_42_method_149_code 41 = .ok (.aload_n 0, 1) := by decide +kernel
theorem d_jdk_42_method_149_42 : decode jdk_42_method_149_code 42 = .ok (.aload 5, 2) := by decide +kernel
theorem d_jdk_42_method_149_44 : decode jdk_42_method_149_code 44 = .ok (.iload_n 3, 1) := by decide +kernel
theorem d_jdk_42_method_149_45 : decode jdk_42_method_149_code 45 = .ok (.invokestatic 47, 3) := by decide +kernel
theorem d_jdk_42_method_149_48 : decode jdk_42_method_149_code 48 = .ok (.putfield 15, 3) := by decide +kernel
theorem d_jdk_42_method_149_51 : decode jdk_42_method_149_code 51 = .ok (.aload_n 0, 1) := by decide +kernel
theorem d_jdk_42_method_149_52 : decode jdk_42_method_149_code 52 = .ok (.aload 5, 2) := by decide +kernel
theorem d_jdk_42_method_149_54 : decode jdk_42_method_149_code 54 = .ok (.putfield 9, 3) := by decide +kernel
theorem d_jdk_42_method_149_57 : decode jdk_42_method_149_code 57 = .ok (.return_, 1) := by decide +kernel
theorem d_jdk_42_method_149_58 : decode jdk_42_method_149_code 58 = .ok (.aload_n 0, 1) := by decide +kernel
theorem d_jdk_42_method_149_59 : decode jdk_42_method_149_code 59 = .ok (.iconst 1, 1) := by decide +kernel
theorem d_jdk_42_method_149_60 : decode jdk_42_method_149_code 60 = .ok (.putfield 15, 3) := by decide +kernel
theorem d_jdk_42_method_149_63 : decode jdk_42_method_149_code 63 = .ok (.aload_n 0, 1) := by decide +kernel
theorem d_jdk_42_method_149_64 : decode jdk_42_method_149_code 64 = .ok (.aload_n 1, 1) := by decide +kernel
theorem d_jdk_42_method_149_65 : decode jdk_42_method_149_code 65 = .ok (.iload_n 2, 1) := by decide +kernel
theorem d_jdk_42_method_149_66 : decode jdk_42_method_149_code 66 = .ok (.iload_n 3, 1) := by decide +kernel
theorem d_jdk_42_method_149_67 : decode jdk_42_method_149_code 67 = .ok (.invokestatic 180, 3) := by decide +kernel
theorem d_jdk_42_method_149_70 : decode jdk_42_method_149_code 70 = .ok (.putfield 9, 3) := by decide +kernel
theorem d_jdk_42_method_149_73 : decode jdk_42_method_149_code 73 = .ok (.return_, 1) := by decide +kernel
theorem d_prog_15_method_1_0 : decode prog_15_method_1_code 0 = .ok (.aload_n 0, 1) := by decide +kernel
theorem d_prog_15_method_1_1 : decode prog_15_method_1_code 1 = .ok (.invokespecial 1, 3) := by decide +kernel
theorem d_prog_15_method_1_4 : decode prog_15_method_1_code 4 = .ok (.aload_n 0, 1) := by decide +kernel
theorem d_prog_15_method_1_5 : decode prog_15_method_1_code 5 = .ok (.aload_n 1, 1) := by decide +kernel
theorem d_prog_15_method_1_6 : decode prog_15_method_1_code 6 = .ok (.ldc 7, 2) := by decide +kernel
theorem d_prog_15_method_1_8 : decode prog_15_method_1_code 8 = .ok (.invokestatic 9, 3) := by decide +kernel
theorem d_prog_15_method_1_11 : decode prog_15_method_1_code 11 = .ok (.checkcast 15, 3) := by decide +kernel
theorem d_prog_15_method_1_14 : decode prog_15_method_1_code 14 = .ok (.putfield 17, 3) := by decide +kernel
theorem d_prog_15_method_1_17 : decode prog_15_method_1_code 17 = .ok (.return_, 1) := by decide +kernel
theorem d_jdk_31_method_11_0 : decode jdk_31_method_11_code 0 = .ok (.aload_n 0, 1) := by decide +kernel
theorem d_jdk_31_method_11_1 : decode jdk_31_method_11_code 1 = .ok (.ifnonnull 12, 3) := by decide +kernel
theorem d_jdk_31_method_11_4 : decode jdk_31_method_11_code 4 = .ok (.new 84, 3) := by decide +kernel
theorem d_jdk_31_method_11_7 : decode jdk_31_method_11_code 7 = .ok (.dup, 1) := by decide +kernel
theorem d_jdk_31_method_11_8 : decode jdk_31_method_11_code 8 = .ok (.aload_n 1, 1) := by decide +kernel
theorem d_jdk_31_method_11_9 : decode jdk_31_method_11_code 9 = .ok (.invokespecial 87, 3) := by decide +kernel
theorem d_jdk_31_method_11_12 : decode jdk_31_method_11_code 12 = .ok (.athrow, 1) := by decide +kernel
theorem d_jdk_31_method_11_13 : decode jdk_31_method_11_code 13 = .ok (.aload_n 0, 1) := by decide +kernel
theorem d_jdk_31_method_11_14 : decode jdk_31_method_11_code 14 = .ok (.areturn, 1) := by decide +kernel
theorem d_prog_15_method_3_0 : decode prog_15_method_3_code 0 = .ok (.aload_n 1, 1) := by decide +kernel
theorem d_prog_15_method_3_1 : decode prog_15_method_3_code 1 = .ok (.instanceof 18, 3) := by decide +kernel
theorem d_prog_15_method_3_4 : decode prog_15_method_3_code 4 = .ok (.ifCond .eq 24, 3) := by decide +kernel
theorem d_prog_15_method_3_7 : decode prog_15_method_3_code 7 = .ok (.aload_n 1, 1) := by decide +kernel
theorem d_prog_15_method_3_8 : decode prog_15_method_3_code 8 = .ok (.checkcast 18, 3) := by decide +kernel
theorem d_prog_15_method_3_11 : decode prog_15_method_3_code 11 = .ok (.getfield 17, 3) := by decide +kernel
theorem d_prog_15_method_3_14 : decode prog_15_method_3_code 14 = .ok (.aload_n 0, 1) := by decide +kernel
theorem d_prog_15_method_3_15 : decode prog_15_method_3_code 15 = .ok (.getfield 17, 3) := by decide +kernel
theorem d_prog_15_method_3_18 : decode prog_15_method_3_code 18 = .ok (.invokevirtual 22, 3) := by decide +kernel
theorem d_prog_15_method_3_21 : decode prog_15_method_3_code 21 = .ok (.ifCond .eq 7, 3) := by decide +kernel
theorem d_prog_15_method_3_24 : decode prog_15_method_3_code 24 = .ok (.iconst 1, 1) := by decide +kernel
theorem d_prog_15_method_3_25 : decode prog_15_method_3_code 25 = .ok (.goto 4, 3) := by decide +kernel
theorem d_prog_15_method_3_28 : decode prog_15_method_3_code 28 = .ok (.iconst 0, 1) := by decide +kernel
theorem d_prog_15_method_3_29 : decode prog_15_method_3_code 29 = .ok (.ireturn, 1) := by decide +kernel
theorem d_jdk_42_method_66_0 : decode jdk_42_method_66_code 0 = .ok (.aload_n 0, 1) := by decide +kernel
theorem d_jdk_42_method_66_1 : decode jdk_42_method_66_code 1 = .ok (.aload_n 1, 1) := by decide +kernel
theorem d_jdk_42_method_66_2 : decode jdk_42_method_66_code 2 = .ok (.if_acmp .ne 5, 3) := by decide +kernel
theorem d_jdk_42_method_66_5 : decode jdk_42_method_66_code 5 = .ok (.iconst 1, 1) := by decide +kernel
theorem d_jdk_42_method_66_6 : decode jdk_42_method_66_code 6 = .ok (.ireturn, 1) := by decide +kernel
theorem d_jdk_42_method_66_7 : decode jdk_42_method_66_code 7 = .ok (.aload_n 1, 1) := by decide +kernel
theorem d_jdk_42_method_66_8 : decode jdk_42_method_66_code 8 = .ok (.instanceof 10, 3) := by decide +kernel
theorem d_jdk_42_method_66_11 : decode jdk_42_method_66_code 11 = .ok (.ifCond .eq 43, 3) := by decide +kernel
theorem d_jdk_42_method_66_14 : decode jdk_42_method_66_code 14 = .ok (.aload_n 1, 1) := by decide +kernel
theorem d_jdk_42_method_66_15 : decode jdk_42_method_66_code 15 = .ok (.checkcast 10, 3) := by decide +kernel
theorem d_jdk_42_method_66_18 : decode jdk_42_method_66_code 18 = .ok (.astore_n 2, 1) := by decide +kernel
theorem d_jdk_42_method_66_19 : decode jdk_42_method_66_code 19 = .ok (.getstatic 38, 3) := by decide +kernel
theorem d_jdk_42_method_66_22 : decode jdk_42_method_66_code 22 = .ok (.ifCond .eq 14, 3) := by decide +kernel
theorem d_jdk_42_method_66_25 : decode jdk_42_method_66_code 25 = .ok (.aload_n 0, 1) := by decide +kernel
theorem d_jdk_42_method_66_26 : decode jdk_42_method_66_code 26 = .ok (.getfield 15, 3) := by decide +kernel
theorem d_jdk_42_method_66_29 : decode jdk_42_method_66_code 29 = .ok (.aload_n 2, 1) := by decide +kernel
theorem d_jdk_42_method_66_30 : decode jdk_42_method_66_code 30 = .ok (.getfield 15, 3) := by decide +kernel
theorem d_jdk_42_method_66_33 : decode jdk_42_method_66_code 33 = .ok (.if_icmp .ne 21, 3) := by decide +kernel
theorem d_jdk_42_method_66_36 : decode jdk_42_method_66_code 36 = .ok (.aload_n 0, 1) := by decide +kernel
theorem d_jdk_42_method_66_37 : decode jdk_42_method_66_code 37 = .ok (.getfield 9, 3) := by decide +kernel
theorem d_jdk_42_method_66_40 : decode jdk_42_method_66_code 40 = .ok (.aload_n 2, 1) := by decide +kernel
theorem d_jdk_42_method_66_41 : decode jdk_42_method_66_code 41 = .ok (.getfield 9, 3) := by decide +kernel
theorem d_jdk_42_method_66_44 : decode jdk_42_method_66_code 44 = .ok (.invokestatic 541, 3) := by decide +kernel
theorem d_jdk_42_method_66_47 : decode jdk_42_method_66_code 47 = .ok (.ifCond .eq 7, 3) := by decide +kernel
theorem d_jdk_42_method_66_50 : decode jdk_42_method_66_code 50 = .ok (.iconst 1, 1) := by decide +kernel
theorem d_jdk_42_method_66_51 : decode jdk_42_method_66_code 51 = .ok (.goto 4, 3) := by decide +kernel
theorem d_jdk_42_method_66_54 : decode jdk_42_method_66_code 54 = .ok (.iconst 0, 1) := by decide +kernel
theorem d_jdk_42_method_66_55 : decode jdk_42_method_66_code 55 = .ok (.ireturn, 1) := by decide +kernel
theorem d_jdk_43_method_13_0 : decode jdk_43_method_13_code 0 = .ok (.aload_n 0, 1) := by decide +kernel
theorem d_jdk_43_method_13_1 : decode jdk_43_method_13_code 1 = .ok (.arraylength, 1) := by decide +kernel
theorem d_jdk_43_method_13_2 : decode jdk_43_method_13_code 2 = .ok (.aload_n 1, 1) := by decide +kernel
theorem d_jdk_43_method_13_3 : decode jdk_43_method_13_code 3 = .ok (.arraylength, 1) := by decide +kernel
theorem d_jdk_43_method_13_4 : decode jdk_43_method_13_code 4 = .ok (.if_icmp .ne 30, 3) := by decide +kernel
theorem d_jdk_43_method_13_7 : decode jdk_43_method_13_code 7 = .ok (.iconst 0, 1) := by decide +kernel
theorem d_jdk_43_method_13_8 : decode jdk_43_method_13_code 8 = .ok (.istore_n 2, 1) := by decide +kernel
theorem d_jdk_43_method_13_9 : decode jdk_43_method_13_code 9 = .ok (.iload_n 2, 1) := by decide +kernel
theorem d_jdk_43_method_13_10 : decode jdk_43_method_13_code 10 = .ok (.aload_n 0, 1) := by decide +kernel
theorem d_jdk_43_method_13_11 : decode jdk_43_method_13_code 11 = .ok (.arraylength, 1) := by decide +kernel
theorem d_jdk_43_method_13_12 : decode jdk_43_method_13_code 12 = .ok (.if_icmp .ge 20, 3) := by decide +kernel
theorem d_jdk_43_method_13_15 : decode jdk_43_method_13_code 15 = .ok (.aload_n 0, 1) := by decide +kernel
theorem d_jdk_43_method_13_16 : decode jdk_43_method_13_code 16 = .ok (.iload_n 2, 1) := by decide +kernel
theorem d_jdk_43_method_13_17 : decode jdk_43_method_13_code 17 = .ok (.baload, 1) := by decide +kernel
theorem d_jdk_43_method_13_18 : decode jdk_43_method_13_code 18 = .ok (.aload_n 1, 1) := by decide +kernel
theorem d_jdk_43_method_13_19 : decode jdk_43_method_13_code 19 = .ok (.iload_n 2, 1) := by decide +kernel
theorem d_jdk_43_method_13_20 : decode jdk_43_method_13_code 20 = .ok (.baload, 1) := by decide +kernel
theorem d_jdk_43_method_13_21 : decode jdk_43_method_13_code 21 = .ok (.if_icmp .eq 5, 3) := by decide +kernel
theorem d_jdk_43_method_13_24 : decode jdk_43_method_13_code 24 = .ok (.iconst 0, 1) := by decide +kernel
theorem d_jdk_43_method_13_25 : decode jdk_43_method_13_code 25 = .ok (.ireturn, 1) := by decide +kernel
theorem d_jdk_43_method_13_26 : decode jdk_43_method_13_code 26 = .ok (.iinc 2 1, 3) := by decide +kernel
theorem d_jdk_43_method_13_29 : decode jdk_43_method_13_code 29 = .ok (.goto (-20), 3) := by decide +kernel
theorem d_jdk_43_method_13_32 : decode jdk_43_method_13_code 32 = .ok (.iconst 1, 1) := by decide +kernel
theorem d_jdk_43_method_13_33 : decode jdk_43_method_13_code 33 = .ok (.ireturn, 1) := by decide +kernel
theorem d_jdk_43_method_13_34 : decode jdk_43_method_13_code 34 = .ok (.iconst 0, 1) := by decide +kernel
theorem d_jdk_43_method_13_35 : decode jdk_43_method_13_code 35 = .ok (.ireturn, 1) := by decide +kernel
theorem d_jdk_52_method_16_0 : decode jdk_52_method_16_code 0 = .ok (.iload_n 2, 1) := by decide +kernel
theorem d_jdk_52_method_16_1 : decode jdk_52_method_16_code 1 = .ok (.newarray .byte, 2) := by decide +kernel
theorem d_jdk_52_method_16_3 : decode jdk_52_method_16_code 3 = .ok (.astore_n 3, 1) := by decide +kernel
theorem d_jdk_52_method_16_4 : decode jdk_52_method_16_code 4 = .ok (.aload_n 0, 1) := by decide +kernel
theorem d_jdk_52_method_16_5 : decode jdk_52_method_16_code 5 = .ok (.iload_n 1, 1) := by decide +kernel
theorem d_jdk_52_method_16_6 : decode jdk_52_method_16_code 6 = .ok (.aload_n 3, 1) := by decide +kernel
theorem d_jdk_52_method_16_7 : decode jdk_52_method_16_code 7 = .ok (.iconst 0, 1) := by decide +kernel
theorem d_jdk_52_method_16_8 : decode jdk_52_method_16_code 8 = .ok (.iload_n 2, 1) := by decide +kernel
theorem d_jdk_52_method_16_9 : decode jdk_52_method_16_code 9 = .ok (.invokestatic 115, 3) := by decide +kernel
theorem d_jdk_52_method_16_12 : decode jdk_52_method_16_code 12 = .ok (.istore 4, 2) := by decide +kernel
theorem d_jdk_52_method_16_14 : decode jdk_52_method_16_code 14 = .ok (.iload 4, 2) := by decide +kernel
theorem d_jdk_52_method_16_16 : decode jdk_52_method_16_code 16 = .ok (.iload_n 2, 1) := by decide +kernel
theorem d_jdk_52_method_16_17 : decode jdk_52_method_16_code 17 = .ok (.if_icmp .eq 40, 3) := by decide +kernel
theorem d_jdk_52_method_16_20 : decode jdk_52_method_16_code 20 = .ok (.aload_n 0, 1) := by decide +kernel
theorem d_jdk_52_method_16_21 : decode jdk_52_method_16_code 21 = .ok (.iload_n 1, 1) := by decide +kernel
theorem d_jdk_52_method_16_22 : decode jdk_52_method_16_code 22 = .ok (.iload_n 2, 1) := by decide +kernel
theorem d_jdk_52_method_16_23 : decode jdk_52_method_16_code 23 = .ok (.invokestatic 119, 3) := by decide +kernel
theorem d_jdk_52_method_16_26 : decode jdk_52_method_16_code 26 = .ok (.astore 5, 2) := by decide +kernel
theorem d_jdk_52_method_16_28 : decode jdk_52_method_16_code 28 = .ok (.aload 5, 2) := by decide +kernel
theorem d_jdk_52_method_16_30 : decode jdk_52_method_16_code 30 = .ok (.iload 4, 2) := by decide +kernel
theorem d_jdk_52_method_16_32 : decode jdk_52_method_16_code 32 = .ok (.invokestatic 71, 3) := by decide +kernel
theorem d_jdk_52_method_16_35 : decode jdk_52_method_16_code 35 = .ok (.sipush 255, 3) := by decide +kernel
theorem d_jdk_52_method_16_38 : decode jdk_52_method_16_code 38 = .ok (.if_icmp .gt 16, 3) := by decide +kernel
theorem d_jdk_52_method_16_41 : decode jdk_52_method_16_code 41 = .ok (.aload 5, 2) := by decide +kernel
theorem d_jdk_52_method_16_43 : decode jdk_52_method_16_code 43 = .ok (.iconst 0, 1) := by decide +kernel
theorem d_jdk_52_method_16_44 : decode jdk_52_method_16_code 44 = .ok (.aload_n 3, 1) := by decide +kernel
theorem d_jdk_52_method_16_45 : decode jdk_52_method_16_code 45 = .ok (.iconst 0, 1) := by decide +kernel
theorem d_jdk_52_method_16_46 : decode jdk_52_method_16_code 46 = .ok (.iload_n 2, 1) := by decide +kernel
theorem d_jdk_52_method_16_47 : decode jdk_52_method_16_code 47 = .ok (.invokestatic 123, 3) := by decide +kernel
theorem d_jdk_52_method_16_50 : decode jdk_52_method_16_code 50 = .ok (.iload_n 2, 1) := by decide +kernel
theorem d_jdk_52_method_16_51 : decode jdk_52_method_16_code 51 = .ok (.if_icmp .eq 6, 3) := by decide +kernel
theorem d_jdk_52_method_16_54 : decode jdk_52_method_16_code 54 = .ok (.aload 5, 2) := by decide +kernel
theorem d_jdk_52_method_16_56 : decode jdk_52_method_16_code 56 = .ok (.areturn, 1) := by decide +kernel
theorem d_jdk_52_method_16_57 : decode jdk_52_method_16_code 57 = .ok (.aload_n 3, 1) := by decide +kernel
theorem d_jdk_52_method_16_58 : decode jdk_52_method_16_code 58 = .ok (.areturn, 1) := by decide +kernel
theorem d_jdk_52_method_21_0 : decode jdk_52_method_21_code 0 = .ok (.iconst 0, 1) := by decide +kernel
theorem d_jdk_52_method_21_1 : decode jdk_52_method_21_code 1 = .ok (.istore 5, 2) := by decide +kernel
theorem d_jdk_52_method_21_3 : decode jdk_52_method_21_code 3 = .ok (.iload 5, 2) := by decide +kernel
theorem d_jdk_52_method_21_5 : decode jdk_52_method_21_code 5 = .ok (.iload 4, 2) := by decide +kernel
theorem d_jdk_52_method_21_7 : decode jdk_52_method_21_code 7 = .ok (.if_icmp .ge 37, 3) := by decide +kernel
theorem d_jdk_52_method_21_10 : decode jdk_52_method_21_code 10 = .ok (.aload_n 0, 1) := by decide +kernel
theorem d_jdk_52_method_21_11 : decode jdk_52_method_21_code 11 = .ok (.iload_n 1, 1) := by decide +kernel
theorem d_jdk_52_method_21_12 : decode jdk_52_method_21_code 12 = .ok (.caload, 1) := by decide +kernel
theorem d_jdk_52_method_21_13 : decode jdk_52_method_21_code 13 = .ok (.istore 6, 2) := by decide +kernel
theorem d_jdk_52_method_21_15 : decode jdk_52_method_21_code 15 = .ok (.iload 6, 2) := by decide +kernel
theorem d_jdk_52_method_21_17 : decode jdk_52_method_21_code 17 = .ok (.sipush 255, 3) := by decide +kernel
theorem d_jdk_52_method_21_20 : decode jdk_52_method_21_code 20 = .ok (.if_icmp .le 6, 3) := by decide +kernel
theorem d_jdk_52_method_21_23 : decode jdk_52_method_21_code 23 = .ok (.iload 5, 2) := by decide +kernel
theorem d_jdk_52_method_21_25 : decode jdk_52_method_21_code 25 = .ok (.ireturn, 1) := by decide +kernel
theorem d_jdk_52_method_21_26 : decode jdk_52_method_21_code 26 = .ok (.aload_n 2, 1) := by decide +kernel
theorem d_jdk_52_method_21_27 : decode jdk_52_method_21_code 27 = .ok (.iload_n 3, 1) := by decide +kernel
theorem d_jdk_52_method_21_28 : decode jdk_52_method_21_code 28 = .ok (.iload 6, 2) := by decide +kernel
theorem d_jdk_52_method_21_30 : decode jdk_52_method_21_code 30 = .ok (.i2b, 1) := by decide +kernel
theorem d_jdk_52_method_21_31 : decode jdk_52_method_21_code 31 = .ok (.bastore, 1) := by decide +kernel
theorem d_jdk_52_method_21_32 : decode jdk_52_method_21_code 32 = .ok (.iinc 1 1, 3) := by decide +kernel
theorem d_jdk_52_method_21_35 : decode jdk_52_method_21_code 35 = .ok (.iinc 3 1, 3) := by decide +kernel
theorem d_jdk_52_method_21_38 : decode jdk_52_method_21_code 38 = .ok (.iinc 5 1, 3) := by decide +kernel
theorem d_jdk_52_method_21_41 : decode jdk_52_method_21_code 41 = .ok (.goto (-38), 3) := by decide +kernel
theorem d_jdk_52_method_21_44 : decode jdk_52_method_21_code 44 = .ok (.iload 4, 2) := by decide +kernel
theorem d_jdk_52_method_21_46 : decode jdk_52_method_21_code 46 = .ok (.ireturn, 1) := by decide +kernel
theorem d_jdk_52_method_15_0 : decode jdk_52_method_15_code 0 = .ok (.iload_n 1, 1) := by decide +kernel
theorem d_jdk_52_method_15_1 : decode jdk_52_method_15_code 1 = .ok (.aload_n 0, 1) := by decide +kernel
theorem d_jdk_52_method_15_2 : decode jdk_52_method_15_code 2 = .ok (.arraylength, 1) := by decide +kernel
theorem d_jdk_52_method_15_3 : decode jdk_52_method_15_code 3 = .ok (.isub, 1) := by decide +kernel
theorem d_jdk_52_method_15_4 : decode jdk_52_method_15_code 4 = .ok (.bipush 31, 2) := by decide +kernel
theorem d_jdk_52_method_15_6 : decode jdk_52_method_15_code 6 = .ok (.iushr, 1) := by decide +kernel
theorem d_jdk_52_method_15_7 : decode jdk_52_method_15_code 7 = .ok (.i2b, 1) := by decide +kernel
theorem d_jdk_52_method_15_8 : decode jdk_52_method_15_code 8 = .ok (.ireturn, 1) := by decide +kernel
theorem d_prog_21_method_1_0 : decode prog_21_method_1_code 0 = .ok (.aload_n 0, 1) := by decide +kernel
theorem d_prog_21_method_1_1 : decode prog_21_method_1_code 1 = .ok (.invokespecial 1, 3) := by decide +kernel
theorem d_prog_21_method_1_4 : decode prog_21_method_1_code 4 = .ok (.aload_n 0, 1) := by decide +kernel
theorem d_prog_21_method_1_5 : decode prog_21_method_1_code 5 = .ok (.aload_n 1, 1) := by decide +kernel
theorem d_prog_21_method_1_6 : decode prog_21_method_1_code 6 = .ok (.ldc 7, 2) := by decide +kernel
theorem d_prog_21_method_1_8 : decode prog_21_method_1_code 8 = .ok (.invokestatic 9, 3) := by decide +kernel
theorem d_prog_21_method_1_11 : decode prog_21_method_1_code 11 = .ok (.checkcast 15, 3) := by decide +kernel
theorem d_prog_21_method_1_14 : decode prog_21_method_1_code 14 = .ok (.putfield 17, 3) := by decide +kernel
theorem d_prog_21_method_1_17 : decode prog_21_method_1_code 17 = .ok (.return_, 1) := by decide +kernel
theorem d_prog_17_method_2_0 : decode prog_17_method_2_code 0 = .ok (.new 18, 3) := by decide +kernel
theorem d_prog_17_method_2_3 : decode prog_17_method_2_code 3 = .ok (.dup, 1) := by decide +kernel
theorem d_prog_17_method_2_4 : decode prog_17_method_2_code 4 = .ok (.aload_n 0, 1) := by decide +kernel
theorem d_prog_17_method_2_5 : decode prog_17_method_2_code 5 = .ok (.aload_n 1, 1) := by decide +kernel
theorem d_prog_17_method_2_6 : decode prog_17_method_2_code 6 = .ok (.ldc 32, 2) := by decide +kernel
theorem d_prog_17_method_2_8 : decode prog_17_method_2_code 8 = .ok (.invokespecial 34, 3) := by decide +kernel
theorem d_prog_17_method_2_11 : decode prog_17_method_2_code 11 = .ok (.areturn, 1) := by decide +kernel
theorem d_prog_17_method_1_0 : decode prog_17_method_1_code 0 = .ok (.aload_n 0, 1) := by decide +kernel
theorem d_prog_17_method_1_1 : decode prog_17_method_1_code 1 = .ok (.invokespecial 1, 3) := by decide +kernel
theorem d_prog_17_method_1_4 : decode prog_17_method_1_code 4 = .ok (.aload_n 0, 1) := by decide +kernel
theorem d_prog_17_method_1_5 : decode prog_17_method_1_code 5 = .ok (.aload_n 1, 1) := by decide +kernel
theorem d_prog_17_method_1_6 : decode prog_17_method_1_code 6 = .ok (.ldc 7, 2) := by decide +kernel
theorem d_prog_17_method_1_8 : decode prog_17_method_1_code 8 = .ok (.invokestatic 9, 3) := by decide +kernel
theorem d_prog_17_method_1_11 : decode prog_17_method_1_code 11 = .ok (.checkcast 15, 3) := by decide +kernel
theorem d_prog_17_method_1_14 : decode prog_17_method_1_code 14 = .ok (.putfield 17, 3) := by decide +kernel
theorem d_prog_17_method_1_17 : decode prog_17_method_1_code 17 = .ok (.aload_n 0, 1) := by decide +kernel
theorem d_prog_17_method_1_18 : decode prog_17_method_1_code 18 = .ok (.aload_n 2, 1) := by decide +kernel
theorem d_prog_17_method_1_19 : decode prog_17_method_1_code 19 = .ok (.ldc 22, 2) := by decide +kernel
theorem d_prog_17_method_1_21 : decode prog_17_method_1_code 21 = .ok (.invokestatic 9, 3) := by decide +kernel
theorem d_prog_17_method_1_24 : decode prog_17_method_1_code 24 = .ok (.checkcast 24, 3) := by decide +kernel
theorem d_prog_17_method_1_27 : decode prog_17_method_1_code 27 = .ok (.putfield 26, 3) := by decide +kernel
theorem d_prog_17_method_1_30 : decode prog_17_method_1_code 30 = .ok (.aload_n 0, 1) := by decide +kernel
theorem d_prog_17_method_1_31 : decode prog_17_method_1_code 31 = .ok (.aload_n 3, 1) := by decide +kernel
theorem d_prog_17_method_1_32 : decode prog_17_method_1_code 32 = .ok (.putfield 29, 3) := by decide +kernel
theorem d_prog_17_method_1_35 : decode prog_17_method_1_code 35 = .ok (.return_, 1) := by decide +kernel
theorem pn_com_example_dragoman_dragoman_cq_IriEqualsPinLaw : plainName "com/example/dragoman/dragoman/cq/IriEqualsPinLaw" = true := by first | (simp [plainName, overriddenIn]; done) | decide +kernel
theorem pd__ICCC_Ljava_lang_String_ : parseMethodDescriptor "(ICCC)Ljava/lang/String;" = some ⟨[.int, .char, .char, .char], some (.object "java/lang/String")⟩ := by decide +kernel
theorem pd___C_V : parseMethodDescriptor "([C)V" = some ⟨[(.array .char)], none⟩ := by decide +kernel
theorem pn_java_lang_String : plainName "java/lang/String" = true := by first | (simp [plainName, overriddenIn]; done) | decide +kernel
theorem pd___CIILjava_lang_Void__V : parseMethodDescriptor "([CIILjava/lang/Void;)V" = some ⟨[(.array .char), .int, .int, (.object "java/lang/Void")], none⟩ := by decide +kernel
theorem pd___V : parseMethodDescriptor "()V" = some ⟨[], none⟩ := by decide +kernel
theorem pd___CII__B : parseMethodDescriptor "([CII)[B" = some ⟨[(.array .char), .int, .int], some (.array .byte)⟩ := by decide +kernel
theorem pd___BI_B : parseMethodDescriptor "([BI)B" = some ⟨[(.array .byte), .int], some .byte⟩ := by decide +kernel
theorem pn_com_example_dragoman_dragoman_cq_Iri : plainName "com/example/dragoman/dragoman/cq/Iri" = true := by first | (simp [plainName, overriddenIn]; done) | decide +kernel
theorem pd__Ljava_lang_String__V : parseMethodDescriptor "(Ljava/lang/String;)V" = some ⟨[(.object "java/lang/String")], none⟩ := by decide +kernel
theorem pd__Ljava_lang_Object_Ljava_lang_String__Ljava_lang_Object_ : parseMethodDescriptor "(Ljava/lang/Object;Ljava/lang/String;)Ljava/lang/Object;" = some ⟨[(.object "java/lang/Object"), (.object "java/lang/String")], some (.object "java/lang/Object")⟩ := by decide +kernel
theorem pn_java_util_Objects : plainName "java/util/Objects" = true := by first | (simp [plainName, overriddenIn]; done) | decide +kernel
theorem pd__Ljava_lang_Object__Z : parseMethodDescriptor "(Ljava/lang/Object;)Z" = some ⟨[(.object "java/lang/Object")], some .boolean⟩ := by decide +kernel
theorem pd___B_B_Z : parseMethodDescriptor "([B[B)Z" = some ⟨[(.array .byte), (.array .byte)], some .boolean⟩ := by decide +kernel
theorem pn_java_lang_StringLatin1 : plainName "java/lang/StringLatin1" = true := by first | (simp [plainName, overriddenIn]; done) | decide +kernel
theorem pn_java_lang_StringUTF16 : plainName "java/lang/StringUTF16" = true := by first | (simp [plainName, overriddenIn]; done) | decide +kernel
theorem pd___CI_BII_I : parseMethodDescriptor "([CI[BII)I" = some ⟨[(.array .char), .int, (.array .byte), .int, .int], some .int⟩ := by decide +kernel
theorem pn_com_example_dragoman_dragoman_cq_Variable : plainName "com/example/dragoman/dragoman/cq/Variable" = true := by first | (simp [plainName, overriddenIn]; done) | decide +kernel
theorem pn_com_example_dragoman_dragoman_cq_Literal : plainName "com/example/dragoman/dragoman/cq/Literal" = true := by first | (simp [plainName, overriddenIn]; done) | decide +kernel
theorem pd__Ljava_lang_String_Lcom_example_dragoman_dragoman_cq_Iri__Lcom_example_dragoman_dragoman_cq_Literal_ : parseMethodDescriptor "(Ljava/lang/String;Lcom/example/dragoman/dragoman/cq/Iri;)Lcom/example/dragoman/dragoman/cq/Literal;" = some ⟨[(.object "java/lang/String"), (.object "com/example/dragoman/dragoman/cq/Iri")], some (.object "com/example/dragoman/dragoman/cq/Literal")⟩ := by decide +kernel
theorem pd__Ljava_lang_String_Lcom_example_dragoman_dragoman_cq_Iri_Ljava_lang_String__V : parseMethodDescriptor "(Ljava/lang/String;Lcom/example/dragoman/dragoman/cq/Iri;Ljava/lang/String;)V" = some ⟨[(.object "java/lang/String"), (.object "com/example/dragoman/dragoman/cq/Iri"), (.object "java/lang/String")], none⟩ := by decide +kernel
theorem pd__IIIII_Z : parseMethodDescriptor "(IIIII)Z" = some ⟨[.int, .int, .int, .int, .int], some .boolean⟩ := by decide +kernel
theorem own_sA : ∀ d ∈ Bundle.stringAtoms, d ∈ tables_1 := by decide +kernel
theorem own_wS {Z : State} {a0 : Array Value} (hw : ∀ d ∈ tables_1, d.before a0 Z = true) : ∀ a ∈ Bundle.stringAtoms, a.before a0 Z = true := fun d hd => hw d (own_sA d hd)
theorem own_EL {Z : State} {a0 : Array Value} (hw : ∀ d ∈ tables_1, d.before a0 Z = true) : EW Z a0 Jvm.OwnK.EL := (EW.cons (tw hw 18 rfl) (by decide) EW.nil)
theorem own_words : ∀ d ∈ StrChars.Road.words, d ∈ tables_1 := by decide +kernel
def StrIs (Z : State) (h : Heap) (b : Addr) (cs : List Int32) : Prop := ∃ (t : Addr) (kb : ClassId), Exa Z h b "java/lang/String" ∧ Fld Z h b "java/lang/String" "coder" "B" (.int 0) ∧ Fld Z h b "java/lang/String" "value" "[B" (.ref t) ∧ Arv Z h t kb .byte (Int32.ofNat cs.length) ((cs.map fun c => c.toInt8.toInt32).map Value.int) (.int 0) ∧ (∀ c ∈ cs, ¬ c < 0 ∧ ¬ 255 < c) ∧ cs.length ≤ 4000
theorem StrIs.keep {Z : State} {h h' : Heap} {b : Addr} {cs : List Int32} (F : StrIs Z h b cs) (K : Keep h h' []) : StrIs Z h' b cs := by
  obtain ⟨t, kb, q1, q2, q3, q4, r⟩ := F
  exact ⟨t, kb, q1.keep K, q2.keep K nin0, q3.keep K nin0, q4.keep K nin0, r⟩
theorem StrIs.ext {Z : State} {h h' : Heap} {b : Addr} {cs : List Int32} (F : StrIs Z h b cs) (K : Ext h h') : StrIs Z h' b cs := F.keep ((Keep.refl h []).ext K)
theorem StrIs.exa {Z : State} {h : Heap} {b : Addr} {cs : List Int32} (F : StrIs Z h b cs) : Exa Z h b "java/lang/String" := by obtain ⟨t, kb, q, -⟩ := F; exact q
theorem own_up {cs : List Int32} (h : ∀ c ∈ cs, ¬ c < 0 ∧ ¬ (255 : Int32) < c) : ∀ c ∈ cs, ¬ c < 0 ∧ ¬ (65535 : Int32) < c := fun c hc => by
  have q := h c hc
  simp only [Int32.lt_iff_toInt_lt, Int32.reduceToInt] at *; omega
theorem own_eqv {v : Option Value} {P : Prop} [Decidable P] (h : (v = some (.int 1) ∧ P) ∨ (v = some (.int 0) ∧ ¬ P)) : v = some (.int (bi (decide P))) := by
  rcases h with ⟨h, q⟩ | ⟨h, q⟩
  · rw [h, decide_eq_true q]; rfl
  · rw [h, decide_eq_false q]; rfl
theorem own_eqr {args : Array Value} {Z : State} {X F : Term} {idx : List Nat} {y : Addr} (hF : F.eval args Z none idx Z = some (.ref y)) (h : (Jvm.Cond.eq X F).value args Z none Z idx = some true) : X.eval args Z none idx Z = some (.ref y) := by
  cases hX : X.eval args Z none idx Z with
  | none => simp [Cond.value, hX] at h
  | some x => cases x <;> simp [Cond.value, hX, hF] at h ⊢ <;> exact h
theorem own_wordsEq : ∀ d ∈ StrChars.Road.wordsEq, d ∈ tables_1 := by decide +kernel
theorem own_eqB {p : Program} {l : Launch} {e : Env} {R : Room} {s' : State} {args : Array Value} {below : List Frame} {Z : State} {a0 : Array Value} {h : Heap} {V : Nat} {x y : Addr} {cs ds : List Int32} {cz : Int32} (hw : ∀ d ∈ tables_1, d.before a0 Z = true) (F : StrIs Z h x cs) (G : StrIs Z h y ds) (S : Sta Z h "java/lang/String" "COMPACT_STRINGS" "Z" (.int cz)) (hz : ¬ cz = 0) (wi : (Jvm.Cond.instantiable "java/lang/String" 4).before a0 Z = true) (hfr : 2 ≤ R.frames) (hlo : V + 28 ≤ R.locals) (hZ : Z.Warmed39 s'.vm) :
    Back l R p e below s' args (⟨"java/lang/String", "equals", "(Ljava/lang/Object;)Z"⟩ : MethodName) 3 V (fun P a => a = (.ref x :: [.ref y] : List Value).toArray ∧ P.U.heap = h ∧ P.cells + 0 ≤ R.cells ∧ P.slots + 0 ≤ R.slots)
      (fun P _ v B => ∃ L, (v = some (.int (bi (decide (cs = ds)))) ∧ L = [] ∧ h = B.U.heap) ∧ B.locs = P.locs ++ L ∧ B.cells = P.cells + 0 ∧ B.slots = P.slots + 0) := by
  obtain ⟨t, kb, E1, C1, V1, A1, p1, l1⟩ := F
  obtain ⟨u, kd, E2, C2, V2, A2, p2, l2⟩ := G
  refine Back.mono (StrChars.Road.eqW hZ (fun d hd => hw d (own_wordsEq d hd)) wi E1 V1 C1 A1 (StrChars.Road.codOf rfl fun c hc => (p1 c hc).2) (own_up p1) l1 E2 V2 C2 A2 (StrChars.Road.codOf rfl fun c hc => (p2 c hc).2) (own_up p2) l2 S hz hfr hlo) (fun P a hp => hp) (fun P a v B hp hq => ?_)
  obtain ⟨L, ⟨q1, q2, q3⟩, r⟩ := hq
  exact ⟨L, ⟨own_eqv q1, q2, q3.symm⟩, r⟩
theorem ef_sI4 (m : MethodId) (a1 : Addr) (ar : Addr) : entryFrame m #[(.ref a1), (.ref ar), (.int 0), (.int 0), .null] 6 = mkF m 0 #[.val (.ref a1), .val (.ref ar), .val (.int 0), .val (.int 0), .val .null, .unset] [] := by first | (simp [entryFrame, mkF, argsToLocals, Value.category]; done) | rfl
def Q_sI4 (Z : State) (a1 : Addr) (ar : Addr) (h0 : Heap) (v : Option Value) (h : Heap) : Prop := v = none ∧ Keep h0 h [a1] ∧ StrIs Z h a1 []
set_option maxRecDepth 65536 in
set_option maxHeartbeats 40000000 in
theorem c_sI4 (l : Launch) (Z : State) (a0 : Array Value) (hw : ∀ d ∈ tables_1, d.before a0 Z = true) (a1 : Addr) (ar : Addr) (h0 : Heap) (E1 : Exa Z h0 a1 "java/lang/String") (F1 : Fld Z h0 a1 "java/lang/String" "value" "[B" .null) (F2 : Fld Z h0 a1 "java/lang/String" "coder" "B" (.int 0)) (g1 : Z.heap.size ≤ a1) :
    Con l Z (⟨"java/lang/String", "<init>", "([CIILjava/lang/Void;)V"⟩ : MethodName) jdk_42_method_149_code 6 (Option.none : Option FieldType) [] ({ frames := 1, cells := 4, slots := 8, locals := 12 } : Room) #[(.ref a1), (.ref ar), (.int 0), (.int 0), .null] h0 (Q_sI4 Z a1 ar h0) [a1] := by
  refine Con.of (plainFor_of_name pn_java_lang_String) ?_
  intro p e s m below meth c T0 B W0
  refine Go.cast (ef_sI4 m a1 ar) ?_
  have l_a1 := nlt E1.lt
  refine g_aload_n B W0 (d_jdk_42_method_149_0) rfl rfl ?_
  obtain ⟨T101, W101, st101⟩ := x_init B W0 (d_jdk_42_method_149_1) (tw hw 15 rfl) (tw hw 16 rfl) (tw hw 17 rfl) a1 #[.val (.ref a1), .val (.ref ar), .val (.int 0), .val (.int 0), .val .null, .unset] [] rfl 0 rfl (by decide) (by decide)
  refine st101 _ ?_
  refine g_iload_n B W101 (d_jdk_42_method_149_4) rfl ?_
  refine g_if_n B W101 (d_jdk_42_method_149_5) (XT.i0_ne_f rfl) ?_
  show Go p.tables e below _ T101 (mkF m 8 #[.val (.ref a1), .val (.ref ar), .val (.int 0), .val (.int 0), .val .null, .unset] [])
  refine g_aload_n B W101 (d_jdk_42_method_149_8) rfl rfl ?_
  obtain ⟨T102, h102, b102, t102, kc102, W102, K102, E102, Fc102, Fv102, A102, ne102, st102⟩ := x_ldcT B W101 0 (vs := []) (z := 0) (d_jdk_42_method_149_9) (tw hw 18 rfl) (own_wS hw) (own_EL hw) (by decide) ⟨by decide, by decide⟩ (by decide) (by decide) (by decide) (by decide) (by decide) (by decide) #[.val (.ref a1), .val (.ref ar), .val (.int 0), .val (.int 0), .val .null, .unset] [(.ref a1)]
  have nb102_0 : ¬ @Eq Nat a1 b102 := (ne102 a1 (by simp)).1
  have nt102_0 : ¬ @Eq Nat a1 t102 := (ne102 a1 (by simp)).2
  refine st102 _ ?_
  have s103 := K102.1
  obtain ⟨T104, W104, st104⟩ := x_get B W102 (host := "") (d_jdk_42_method_149_11) (Or.inl (tw hw 24 rfl)) Via.refl Fv102 #[.val (.ref a1), .val (.ref ar), .val (.int 0), .val (.int 0), .val .null, .unset] [(.ref a1)]
  refine st104 _ ?_
  have f105 := (F1.keep K102 nin0)
  have f106 := (E1.keep K102)
  obtain ⟨T107, h107, W107, K107, R107, F107, E107, st107⟩ := x_put B W104 (d_jdk_42_method_149_14) ((tw hw 24 rfl)) Via.refl f105 f106 (Or.inr ⟨ (tw hw 20 rfl), rfl, rfl⟩) (tw hw 5 rfl) (ty := (.array .byte)) (v := (.ref t102)) (v' := (.ref t102)) (by decide) rfl rfl (by omega) (Or.inr (by simp)) #[.val (.ref a1), .val (.ref ar), .val (.int 0), .val (.int 0), .val .null, .unset] []
  refine st107 _ ?_
  have f108 := (F2.keep K102 nin0)
  have f109 := f108.other R107 (Or.inr (slot_ne (Or.inr (tw hw 21 rfl)) (Or.inr (tw hw 20 rfl)) (by decide) (t := .byte) (t' := (.array .byte)) (by decide) (by decide)))
  have s110 := K107.1
  refine g_aload_n B W107 (d_jdk_42_method_149_17) rfl rfl ?_
  obtain ⟨T111, h111, b111, t111, kc111, W111, K111, E111, Fc111, Fv111, A111, ne111, st111⟩ := x_ldcT B W107 0 (vs := []) (z := 0) (d_jdk_42_method_149_18) (tw hw 18 rfl) (own_wS hw) (own_EL hw) (by decide) ⟨by decide, by decide⟩ (by decide) (by decide) (by decide) (by decide) (by decide) (by decide) #[.val (.ref a1), .val (.ref ar), .val (.int 0), .val (.int 0), .val .null, .unset] [(.ref a1)]
  have nb111_0 : ¬ @Eq Nat a1 b111 := (ne111 a1 (by simp)).1
  have nt111_0 : ¬ @Eq Nat a1 t111 := (ne111 a1 (by simp)).2
  refine st111 _ ?_
  have s112 := K111.1
  obtain ⟨T113, W113, st113⟩ := x_get B W111 (host := "") (d_jdk_42_method_149_20) (Or.inl (tw hw 25 rfl)) Via.refl Fc111 #[.val (.ref a1), .val (.ref ar), .val (.int 0), .val (.int 0), .val .null, .unset] [(.ref a1)]
  refine st113 _ ?_
  have f114 := (f109.keep K111 nin0)
  have f115 := (E107.keep K111)
  obtain ⟨T116, h116, W116, K116, R116, F116, E116, st116⟩ := x_put B W113 (d_jdk_42_method_149_23) ((tw hw 25 rfl)) Via.refl f114 f115 (Or.inr ⟨ (tw hw 21 rfl), rfl, rfl⟩) (tw hw 5 rfl) (ty := .byte) (v := (.int 0)) (v' := (.int 0)) (by decide) rfl rfl (by omega) (Or.inr (by simp)) #[.val (.ref a1), .val (.ref ar), .val (.int 0), .val (.int 0), .val .null, .unset] []
  refine st116 _ ?_
  have f117 := (F107.keep K111 nin0)
  have f118 := f117.other R116 (Or.inr (slot_ne (Or.inr (tw hw 20 rfl)) (Or.inr (tw hw 21 rfl)) (by decide) (t := (.array .byte)) (t' := .byte) (by decide) (by decide)))
  have s119 := K116.1
  have f120 := ((A102.keep K107 (ninS (nne (by have q := nlt A102.lt; omega)) nin0)).keep K111 nin0)
  have f121 := (f120.keep K116 (ninS (nne (by have q := nlt f120.lt; omega)) nin0))
  exact r_v B W116 (d_jdk_42_method_149_26) (by decide) (by decide) ⟨rfl, (((((Keep.refl h0 [a1]).trans K102 all0).trans K107 (allS (Or.inl (by simp)) all0)).trans K111 all0).trans K116 (allS (Or.inl (by simp)) all0)), ⟨_, _, E116, F116, f118, f121, by simp, by simp⟩⟩
theorem ef_sI1 (m : MethodId) (a1 : Addr) (ar : Addr) (kA : ClassId) : entryFrame m #[(.ref a1), (.ref ar)] 2 = mkF m 0 #[.val (.ref a1), .val (.ref ar)] [] := by first | (simp [entryFrame, mkF, argsToLocals, Value.category]; done) | rfl
def Q_sI1 (Z : State) (a1 : Addr) (ar : Addr) (kA : ClassId) (h0 : Heap) (v : Option Value) (h : Heap) : Prop := v = none ∧ Keep h0 h [a1] ∧ StrIs Z h a1 []
set_option maxRecDepth 65536 in
set_option maxHeartbeats 40000000 in
theorem c_sI1 (l : Launch) (Z : State) (a0 : Array Value) (hw : ∀ d ∈ tables_1, d.before a0 Z = true) (a1 : Addr) (ar : Addr) (kA : ClassId) (h0 : Heap) (E1 : Exa Z h0 a1 "java/lang/String") (F1 : Fld Z h0 a1 "java/lang/String" "value" "[B" .null) (F2 : Fld Z h0 a1 "java/lang/String" "coder" "B" (.int 0)) (g1 : Z.heap.size ≤ a1) (A1 : Arv Z h0 ar kA .char 0 [] (.int 0)) :
    Con l Z (⟨"java/lang/String", "<init>", "([C)V"⟩ : MethodName) jdk_42_method_3_code 2 (Option.none : Option FieldType) [] ({ frames := 2, cells := 4, slots := 8, locals := 40 } : Room) #[(.ref a1), (.ref ar)] h0 (Q_sI1 Z a1 ar kA h0) [a1] := by
  refine Con.of (plainFor_of_name pn_java_lang_String) ?_
  intro p e s m below meth c T0 B W0
  refine Go.cast (ef_sI1 m a1 ar kA) ?_
  refine g_aload_n B W0 (d_jdk_42_method_3_0) rfl rfl ?_
  refine g_aload_n B W0 (d_jdk_42_method_3_1) rfl rfl ?_
  refine g_iconst B W0 (d_jdk_42_method_3_2) (v := 0) (by decide) ?_
  refine g_aload_n B W0 (d_jdk_42_method_3_3) rfl rfl ?_
  refine g_aalen B W0 (d_jdk_42_method_3_4) A1 ?_
  refine g_aconst_null B W0 (d_jdk_42_method_3_5)  ?_
  obtain ⟨T101, h101, v101, W101, Q101, st101⟩ := x_special B W0 (b := a1) [(.ref ar), (.int 0), (.int 0), .null] (c_sI4 l Z a0 hw a1 ar h0 E1 F1 F2 g1) (by simp) (d_jdk_42_method_3_6) rfl (tw hw 11 rfl) (tw hw 12 rfl) (tw hw 6 rfl) (tw hw 14 rfl) (by decide) (lenOf pd___CIILjava_lang_Void__V rfl) #[.val (.ref a1), .val (.ref ar)] [] rfl 0 rfl (by decide) (by decide) (by decide) (by decide)
  obtain ⟨rfl, K101, S101⟩ := Q101
  have s102 := K101.1
  refine st101 _ ?_
  exact r_v B W101 (d_jdk_42_method_3_9) (by decide) (by decide) ⟨rfl, K101, S101⟩
def own_mk (n a b c : Int32) : List Int32 := if n = 0 then [] else if n = 1 then [a] else if n = 2 then [a, b] else [a, b, c]
theorem own_same {l1 l2 a1 b1 c1 a2 b2 c2 : Int32} (h1 : l1 = 0 ∨ l1 = 1 ∨ l1 = 2 ∨ l1 = 3) (h2 : l2 = 0 ∨ l2 = 1 ∨ l2 = 2 ∨ l2 = 3) : (own_mk l1 a1 b1 c1 = own_mk l2 a2 b2 c2) ↔ (l1 = l2 ∧ (l1 < 1 ∨ a1 = a2) ∧ (l1 < 2 ∨ b1 = b2) ∧ (l1 < 3 ∨ c1 = c2)) := by
  have e1 : ((0 : Int32) = 1) = False := by decide
  have e2 : ((0 : Int32) = 2) = False := by decide
  have e3 : ((1 : Int32) = 0) = False := by decide
  rcases h1 with rfl | rfl | rfl | rfl <;> rcases h2 with rfl | rfl | rfl | rfl <;> simp [own_mk, and_assoc] <;> decide
theorem ef_make (m : MethodId) (pn : Int32) (pa : Int32) (pb : Int32) (pc : Int32) (cz : Int32) : entryFrame m #[(.int pn), (.int pa), (.int pb), (.int pc)] 4 = mkF m 0 #[.val (.int pn), .val (.int pa), .val (.int pb), .val (.int pc)] [] := by first | (simp [entryFrame, mkF, argsToLocals, Value.category]; done) | rfl
def Q_make (Z : State) (pn : Int32) (pa : Int32) (pb : Int32) (pc : Int32) (cz : Int32) (h0 : Heap) (v : Option Value) (h : Heap) : Prop := ∃ b, v = some (.ref b) ∧ Keep h0 h [] ∧ StrIs Z h b (own_mk pn pa pb pc)
set_option maxRecDepth 65536 in
set_option maxHeartbeats 40000000 in
theorem c_make (l : Launch) (Z : State) (a0 : Array Value) (hw : ∀ d ∈ tables_1, d.before a0 Z = true) (pn : Int32) (pa : Int32) (pb : Int32) (pc : Int32) (cz : Int32) (h0 : Heap) (Scs : Sta Z Z.heap "java/lang/String" "COMPACT_STRINGS" "Z" (.int cz)) (hcz : ¬ cz = 0) (na : nar .char pa = pa) (nb : nar .char pb = pb) (nc : nar .char pc = pc) (ra : ¬ pa < 0 ∧ ¬ 255 < pa) (rb : ¬ pb < 0 ∧ ¬ 255 < pb) (rc : ¬ pc < 0 ∧ ¬ 255 < pc) :
    Con l Z (⟨"com/example/dragoman/dragoman/cq/IriEqualsPinLaw", "str", "(ICCC)Ljava/lang/String;"⟩ : MethodName) method_3_code 4 (Option.some (FieldType.object "java/lang/String")) [] ({ frames := 4, cells := 6, slots := 12, locals := 66 } : Room) #[(.int pn), (.int pa), (.int pb), (.int pc)] h0 (Q_make Z pn pa pb pc cz h0) [] := by
  refine Con.of (plainFor_of_name pn_com_example_dragoman_dragoman_cq_IriEqualsPinLaw) ?_
  intro p e s m below meth c T0 B W0
  refine Go.cast (ef_make m pn pa pb pc cz) ?_
  refine g_iload_n B W0 (d_method_3_0) rfl ?_
  by_cases hc101 : pn = 0
  · skip
    refine g_if_n B W0 (d_method_3_1) (XT.i0_ne_f hc101) ?_
    show Go p.tables e below _ T0 (mkF m 4 #[.val (.int pn), .val (.int pa), .val (.int pb), .val (.int pc)] [])
    obtain ⟨T102, h102, b102, gb102, W102, K102, E102, D102, st102⟩ := x_new B W0 (d_method_3_4) (tw hw 4 rfl) (tw hw 5 rfl) (tw hw 6 rfl) (by decide) (by decide) #[.val (.int pn), .val (.int pa), .val (.int pb), .val (.int pc)] []
    have l102 := nlt E102.lt
    have z102 := W0.size
    refine st102 _ ?_
    have s103 := K102.1
    have f104 : Fld Z h102 b102 "java/lang/String" "value" "[B" .null := D102 (Or.inr (tw hw 20 rfl)) (ty := (.array .byte)) (by decide)
    have f105 : Fld Z h102 b102 "java/lang/String" "coder" "B" (.int 0) := D102 (Or.inr (tw hw 21 rfl)) (ty := .byte) (by decide)
    refine g_dup B W102 (d_method_3_7) rfl ?_
    refine g_iconst B W102 (d_method_3_8) (v := 0) (by decide) ?_
    obtain ⟨T106, h106, b106, cA106, gb106, W106, K106, A106, st106⟩ := x_newA B W102 (z := 0) 0 (d_method_3_9) (tw hw 7 rfl) (by decide) (by decide) (by decide) (by decide) (by decide) #[.val (.int pn), .val (.int pa), .val (.int pb), .val (.int pc)] [(.ref b102), (.ref b102)]
    have l106 := nlt A106.lt
    have z106 := W102.size
    refine st106 _ ?_
    have s107 := K106.1
    have f108 := (E102.keep K106)
    have f109 := (f104.keep K106 nin0)
    have f110 := (f105.keep K106 nin0)
    obtain ⟨T111, h111, v111, W111, Q111, st111⟩ := x_special B W106 (b := b102) [(.ref b106)] (c_sI1 l Z a0 hw b102 b106 cA106 h106 f108 f109 f110 (by omega) A106) (by simp) (d_method_3_11) rfl (tw hw 8 rfl) (tw hw 9 rfl) (tw hw 6 rfl) (tw hw 10 rfl) (by decide) (lenOf pd___C_V rfl) #[.val (.int pn), .val (.int pa), .val (.int pb), .val (.int pc)] [(.ref b102)] rfl 1 rfl (by decide) (by decide) (by decide) (by decide)
    obtain ⟨rfl, K111, S111⟩ := Q111
    have s112 := K111.1
    refine st111 _ ?_
    have e111 := S111.exa
    exact r_a B W111 rfl rfl rfl (d_method_3_14) (by decide) (by decide) ⟨_, rfl, ((((Keep.refl h0 []).trans K102 all0).trans K106 all0).trans K111 (allS (Or.inr (by omega)) all0)), by rw [own_mk, if_pos hc101]; exact S111⟩
  · skip
    refine g_if_y B W0 (d_method_3_1) (XT.i0_ne_t hc101) (pc' := 15) (by decide) ?_
    show Go p.tables e below _ T0 (mkF m 15 #[.val (.int pn), .val (.int pa), .val (.int pb), .val (.int pc)] [])
    refine g_iload_n B W0 (d_method_3_15) rfl ?_
    refine g_iconst B W0 (d_method_3_16) (v := 1) (by decide) ?_
    by_cases hc113 : pn = 1
    · skip
      refine g_icmp_n B W0 (d_method_3_17) (XT.ii_ne_f hc113) ?_
      show Go p.tables e below _ T0 (mkF m 20 #[.val (.int pn), .val (.int pa), .val (.int pb), .val (.int pc)] [])
      obtain ⟨T114, h114, b114, gb114, W114, K114, E114, D114, st114⟩ := x_new B W0 (d_method_3_20) (tw hw 4 rfl) (tw hw 5 rfl) (tw hw 6 rfl) (by decide) (by decide) #[.val (.int pn), .val (.int pa), .val (.int pb), .val (.int pc)] []
      have l114 := nlt E114.lt
      have z114 := W0.size
      refine st114 _ ?_
      have s115 := K114.1
      have f116 : Fld Z h114 b114 "java/lang/String" "value" "[B" .null := D114 (Or.inr (tw hw 20 rfl)) (ty := (.array .byte)) (by decide)
      have f117 : Fld Z h114 b114 "java/lang/String" "coder" "B" (.int 0) := D114 (Or.inr (tw hw 21 rfl)) (ty := .byte) (by decide)
      refine g_dup B W114 (d_method_3_23) rfl ?_
      refine g_iconst B W114 (d_method_3_24) (v := 1) (by decide) ?_
      obtain ⟨T118, h118, b118, cA118, gb118, W118, K118, A118, st118⟩ := x_newA B W114 (z := 1) 1 (d_method_3_25) (tw hw 7 rfl) (by decide) (by decide) (by decide) (by decide) (by decide) #[.val (.int pn), .val (.int pa), .val (.int pb), .val (.int pc)] [(.ref b114), (.ref b114)]
      have l118 := nlt A118.lt
      have z118 := W114.size
      refine st118 _ ?_
      have s119 := K118.1
      refine g_dup B W118 (d_method_3_27) rfl ?_
      refine g_iconst B W118 (d_method_3_28) (v := 0) (by decide) ?_
      refine g_iload_n B W118 (d_method_3_29) rfl ?_
      obtain ⟨T120, h120, W120, K120, A120, st120⟩ := x_castore B W118 (j := 0) (x := pa) (d_method_3_30) A118 (by decide) (Nat.lt_of_lt_of_eq (show Int32.toNatClampNeg 0 < 1 by decide) rfl) (by omega) #[.val (.int pn), .val (.int pa), .val (.int pb), .val (.int pc)] [(.ref b118), (.ref b114), (.ref b114)]
      refine st120 _ ?_
      rw [na] at A120
      have A120 : Arv Z h120 b118 cA118 .char 1 [(.int pa)] (.int 0) := A120
      have s121 := K120.1
      have f123 := ((E114.keep K118).keep K120)
      have f124 := (f116.keep K118 nin0)
      have f125 := (f124.keep K120 (ninS (nne (by have q := nlt f124.lt; omega)) nin0))
      have f126 := (f117.keep K118 nin0)
      have f127 := (f126.keep K120 (ninS (nne (by have q := nlt f126.lt; omega)) nin0))
      obtain ⟨T122, h122, v122, L122, W122, Q122, st122⟩ := x_specialB B W120 (b := b114) (rc := 1) (rs := 1) [(.ref b118)] (fun s' hZ' => StrChars.Road.backV (W := 1) hZ' (fun d hd => hw d (own_words d hd)) (kI := 4) (tw hw 5 rfl) (cs := ([pa] : List Int32)) (bs := ([pa] : List Int32).map (fun c => c.toInt8.toInt32)) (n := 1) (n0 := Z.heap.size) (by omega) W120.size f123 f125 f127 A120 (Scs.ext W120.old.2) hcz rfl (by decide) (by decide) (by decide) (by simp only [List.mem_cons, List.not_mem_nil, or_false]; rintro c rfl <;> first | assumption | decide) rfl (by decide) (by decide)) (d_method_3_31) rfl (tw hw 8 rfl) (tw hw 9 rfl) (tw hw 10 rfl) (by decide) (lenOf pd___C_V rfl) #[.val (.int pn), .val (.int pa), .val (.int pb), .val (.int pc)] [(.ref b114)] rfl rfl (by decide) (by decide) [b114] (allS (by omega) all0) (by simp) (fun _ _ _ q => ⟨q.2.1, q.2.2.1⟩)
      obtain ⟨rfl, -, K122, E122, Fc122, t122, kb122, gt122, gu122, -, Fv122, A122⟩ := Q122
      refine st122 _ ?_
      have s128 := K122.1
      have lt122 := nlt A122.lt
      have S129 : StrIs Z h122 b114 [pa] := ⟨t122, kb122, E122, Fc122, Fv122, A122, (by simp only [List.mem_cons, List.not_mem_nil, or_false]; rintro c rfl <;> first | assumption | decide), by simp⟩
      exact r_a B W122 rfl rfl rfl (d_method_3_34) (by decide) (by decide) ⟨_, rfl, (((((Keep.refl h0 []).trans K114 all0).trans K118 all0).trans K120 (allS (Or.inr (by omega)) all0)).trans K122 (allS (Or.inr (by omega)) all0)), by rw [own_mk, if_neg hc101, if_pos hc113]; exact S129⟩
    · skip
      refine g_icmp_y B W0 (d_method_3_17) (XT.ii_ne_t hc113) (pc' := 35) (by decide) ?_
      show Go p.tables e below _ T0 (mkF m 35 #[.val (.int pn), .val (.int pa), .val (.int pb), .val (.int pc)] [])
      refine g_iload_n B W0 (d_method_3_35) rfl ?_
      refine g_iconst B W0 (d_method_3_36) (v := 2) (by decide) ?_
      by_cases hc130 : pn = 2
      · skip
        refine g_icmp_n B W0 (d_method_3_37) (XT.ii_ne_f hc130) ?_
        show Go p.tables e below _ T0 (mkF m 40 #[.val (.int pn), .val (.int pa), .val (.int pb), .val (.int pc)] [])
        obtain ⟨T131, h131, b131, gb131, W131, K131, E131, D131, st131⟩ := x_new B W0 (d_method_3_40) (tw hw 4 rfl) (tw hw 5 rfl) (tw hw 6 rfl) (by decide) (by decide) #[.val (.int pn), .val (.int pa), .val (.int pb), .val (.int pc)] []
        have l131 := nlt E131.lt
        have z131 := W0.size
        refine st131 _ ?_
        have s132 := K131.1
        have f133 : Fld Z h131 b131 "java/lang/String" "value" "[B" .null := D131 (Or.inr (tw hw 20 rfl)) (ty := (.array .byte)) (by decide)
        have f134 : Fld Z h131 b131 "java/lang/String" "coder" "B" (.int 0) := D131 (Or.inr (tw hw 21 rfl)) (ty := .byte) (by decide)
        refine g_dup B W131 (d_method_3_43) rfl ?_
        refine g_iconst B W131 (d_method_3_44) (v := 2) (by decide) ?_
        obtain ⟨T135, h135, b135, cA135, gb135, W135, K135, A135, st135⟩ := x_newA B W131 (z := 2) 2 (d_method_3_45) (tw hw 7 rfl) (by decide) (by decide) (by decide) (by decide) (by decide) #[.val (.int pn), .val (.int pa), .val (.int pb), .val (.int pc)] [(.ref b131), (.ref b131)]
        have l135 := nlt A135.lt
        have z135 := W131.size
        refine st135 _ ?_
        have s136 := K135.1
        refine g_dup B W135 (d_method_3_47) rfl ?_
        refine g_iconst B W135 (d_method_3_48) (v := 0) (by decide) ?_
        refine g_iload_n B W135 (d_method_3_49) rfl ?_
        obtain ⟨T137, h137, W137, K137, A137, st137⟩ := x_castore B W135 (j := 0) (x := pa) (d_method_3_50) A135 (by decide) (Nat.lt_of_lt_of_eq (show Int32.toNatClampNeg 0 < 2 by decide) rfl) (by omega) #[.val (.int pn), .val (.int pa), .val (.int pb), .val (.int pc)] [(.ref b135), (.ref b131), (.ref b131)]
        refine st137 _ ?_
        rw [na] at A137
        have A137 : Arv Z h137 b135 cA135 .char 2 [(.int pa), (.int 0)] (.int 0) := A137
        have s138 := K137.1
        refine g_dup B W137 (d_method_3_51) rfl ?_
        refine g_iconst B W137 (d_method_3_52) (v := 1) (by decide) ?_
        refine g_iload_n B W137 (d_method_3_53) rfl ?_
        obtain ⟨T139, h139, W139, K139, A139, st139⟩ := x_castore B W137 (j := 1) (x := pb) (d_method_3_54) A137 (by decide) (Nat.lt_of_lt_of_eq (show Int32.toNatClampNeg 1 < 2 by decide) rfl) (by omega) #[.val (.int pn), .val (.int pa), .val (.int pb), .val (.int pc)] [(.ref b135), (.ref b131), (.ref b131)]
        refine st139 _ ?_
        rw [nb] at A139
        have A139 : Arv Z h139 b135 cA135 .char 2 [(.int pa), (.int pb)] (.int 0) := A139
        have s140 := K139.1
        have f142 := (((E131.keep K135).keep K137).keep K139)
        have f143 := (f133.keep K135 nin0)
        have f144 := (f143.keep K137 (ninS (nne (by have q := nlt f143.lt; omega)) nin0))
        have f145 := (f144.keep K139 (ninS (nne (by have q := nlt f144.lt; omega)) nin0))
        have f146 := (f134.keep K135 nin0)
        have f147 := (f146.keep K137 (ninS (nne (by have q := nlt f146.lt; omega)) nin0))
        have f148 := (f147.keep K139 (ninS (nne (by have q := nlt f147.lt; omega)) nin0))
        obtain ⟨T141, h141, v141, L141, W141, Q141, st141⟩ := x_specialB B W139 (b := b131) (rc := 1) (rs := 2) [(.ref b135)] (fun s' hZ' => StrChars.Road.backV (W := 1) hZ' (fun d hd => hw d (own_words d hd)) (kI := 4) (tw hw 5 rfl) (cs := ([pa, pb] : List Int32)) (bs := ([pa, pb] : List Int32).map (fun c => c.toInt8.toInt32)) (n := 2) (n0 := Z.heap.size) (by omega) W139.size f142 f145 f148 A139 (Scs.ext W139.old.2) hcz rfl (by decide) (by decide) (by decide) (by simp only [List.mem_cons, List.not_mem_nil, or_false]; rintro c (rfl | rfl) <;> first | assumption | decide) rfl (by decide) (by decide)) (d_method_3_55) rfl (tw hw 8 rfl) (tw hw 9 rfl) (tw hw 10 rfl) (by decide) (lenOf pd___C_V rfl) #[.val (.int pn), .val (.int pa), .val (.int pb), .val (.int pc)] [(.ref b131)] rfl rfl (by decide) (by decide) [b131] (allS (by omega) all0) (by simp) (fun _ _ _ q => ⟨q.2.1, q.2.2.1⟩)
        obtain ⟨rfl, -, K141, E141, Fc141, t141, kb141, gt141, gu141, -, Fv141, A141⟩ := Q141
        refine st141 _ ?_
        have s149 := K141.1
        have lt141 := nlt A141.lt
        have S150 : StrIs Z h141 b131 [pa, pb] := ⟨t141, kb141, E141, Fc141, Fv141, A141, (by simp only [List.mem_cons, List.not_mem_nil, or_false]; rintro c (rfl | rfl) <;> first | assumption | decide), by simp⟩
        exact r_a B W141 rfl rfl rfl (d_method_3_58) (by decide) (by decide) ⟨_, rfl, ((((((Keep.refl h0 []).trans K131 all0).trans K135 all0).trans K137 (allS (Or.inr (by omega)) all0)).trans K139 (allS (Or.inr (by omega)) all0)).trans K141 (allS (Or.inr (by omega)) all0)), by rw [own_mk, if_neg hc101, if_neg hc113, if_pos hc130]; exact S150⟩
      · skip
        refine g_icmp_y B W0 (d_method_3_37) (XT.ii_ne_t hc130) (pc' := 59) (by decide) ?_
        show Go p.tables e below _ T0 (mkF m 59 #[.val (.int pn), .val (.int pa), .val (.int pb), .val (.int pc)] [])
        obtain ⟨T151, h151, b151, gb151, W151, K151, E151, D151, st151⟩ := x_new B W0 (d_method_3_59) (tw hw 4 rfl) (tw hw 5 rfl) (tw hw 6 rfl) (by decide) (by decide) #[.val (.int pn), .val (.int pa), .val (.int pb), .val (.int pc)] []
        have l151 := nlt E151.lt
        have z151 := W0.size
        refine st151 _ ?_
        have s152 := K151.1
        have f153 : Fld Z h151 b151 "java/lang/String" "value" "[B" .null := D151 (Or.inr (tw hw 20 rfl)) (ty := (.array .byte)) (by decide)
        have f154 : Fld Z h151 b151 "java/lang/String" "coder" "B" (.int 0) := D151 (Or.inr (tw hw 21 rfl)) (ty := .byte) (by decide)
        refine g_dup B W151 (d_method_3_62) rfl ?_
        refine g_iconst B W151 (d_method_3_63) (v := 3) (by decide) ?_
        obtain ⟨T155, h155, b155, cA155, gb155, W155, K155, A155, st155⟩ := x_newA B W151 (z := 3) 3 (d_method_3_64) (tw hw 7 rfl) (by decide) (by decide) (by decide) (by decide) (by decide) #[.val (.int pn), .val (.int pa), .val (.int pb), .val (.int pc)] [(.ref b151), (.ref b151)]
        have l155 := nlt A155.lt
        have z155 := W151.size
        refine st155 _ ?_
        have s156 := K155.1
        refine g_dup B W155 (d_method_3_66) rfl ?_
        refine g_iconst B W155 (d_method_3_67) (v := 0) (by decide) ?_
        refine g_iload_n B W155 (d_method_3_68) rfl ?_
        obtain ⟨T157, h157, W157, K157, A157, st157⟩ := x_castore B W155 (j := 0) (x := pa) (d_method_3_69) A155 (by decide) (Nat.lt_of_lt_of_eq (show Int32.toNatClampNeg 0 < 3 by decide) rfl) (by omega) #[.val (.int pn), .val (.int pa), .val (.int pb), .val (.int pc)] [(.ref b155), (.ref b151), (.ref b151)]
        refine st157 _ ?_
        rw [na] at A157
        have A157 : Arv Z h157 b155 cA155 .char 3 [(.int pa), (.int 0), (.int 0)] (.int 0) := A157
        have s158 := K157.1
        refine g_dup B W157 (d_method_3_70) rfl ?_
        refine g_iconst B W157 (d_method_3_71) (v := 1) (by decide) ?_
        refine g_iload_n B W157 (d_method_3_72) rfl ?_
        obtain ⟨T159, h159, W159, K159, A159, st159⟩ := x_castore B W157 (j := 1) (x := pb) (d_method_3_73) A157 (by decide) (Nat.lt_of_lt_of_eq (show Int32.toNatClampNeg 1 < 3 by decide) rfl) (by omega) #[.val (.int pn), .val (.int pa), .val (.int pb), .val (.int pc)] [(.ref b155), (.ref b151), (.ref b151)]
        refine st159 _ ?_
        rw [nb] at A159
        have A159 : Arv Z h159 b155 cA155 .char 3 [(.int pa), (.int pb), (.int 0)] (.int 0) := A159
        have s160 := K159.1
        refine g_dup B W159 (d_method_3_74) rfl ?_
        refine g_iconst B W159 (d_method_3_75) (v := 2) (by decide) ?_
        refine g_iload_n B W159 (d_method_3_76) rfl ?_
        obtain ⟨T161, h161, W161, K161, A161, st161⟩ := x_castore B W159 (j := 2) (x := pc) (d_method_3_77) A159 (by decide) (Nat.lt_of_lt_of_eq (show Int32.toNatClampNeg 2 < 3 by decide) rfl) (by omega) #[.val (.int pn), .val (.int pa), .val (.int pb), .val (.int pc)] [(.ref b155), (.ref b151), (.ref b151)]
        refine st161 _ ?_
        rw [nc] at A161
        have A161 : Arv Z h161 b155 cA155 .char 3 [(.int pa), (.int pb), (.int pc)] (.int 0) := A161
        have s162 := K161.1
        have f164 := ((((E151.keep K155).keep K157).keep K159).keep K161)
        have f165 := (f153.keep K155 nin0)
        have f166 := (f165.keep K157 (ninS (nne (by have q := nlt f165.lt; omega)) nin0))
        have f167 := (f166.keep K159 (ninS (nne (by have q := nlt f166.lt; omega)) nin0))
        have f168 := (f167.keep K161 (ninS (nne (by have q := nlt f167.lt; omega)) nin0))
        have f169 := (f154.keep K155 nin0)
        have f170 := (f169.keep K157 (ninS (nne (by have q := nlt f169.lt; omega)) nin0))
        have f171 := (f170.keep K159 (ninS (nne (by have q := nlt f170.lt; omega)) nin0))
        have f172 := (f171.keep K161 (ninS (nne (by have q := nlt f171.lt; omega)) nin0))
        obtain ⟨T163, h163, v163, L163, W163, Q163, st163⟩ := x_specialB B W161 (b := b151) (rc := 1) (rs := 3) [(.ref b155)] (fun s' hZ' => StrChars.Road.backV (W := 1) hZ' (fun d hd => hw d (own_words d hd)) (kI := 4) (tw hw 5 rfl) (cs := ([pa, pb, pc] : List Int32)) (bs := ([pa, pb, pc] : List Int32).map (fun c => c.toInt8.toInt32)) (n := 3) (n0 := Z.heap.size) (by omega) W161.size f164 f168 f172 A161 (Scs.ext W161.old.2) hcz rfl (by decide) (by decide) (by decide) (by simp only [List.mem_cons, List.not_mem_nil, or_false]; rintro c (rfl | rfl | rfl) <;> first | assumption | decide) rfl (by decide) (by decide)) (d_method_3_78) rfl (tw hw 8 rfl) (tw hw 9 rfl) (tw hw 10 rfl) (by decide) (lenOf pd___C_V rfl) #[.val (.int pn), .val (.int pa), .val (.int pb), .val (.int pc)] [(.ref b151)] rfl rfl (by decide) (by decide) [b151] (allS (by omega) all0) (by simp) (fun _ _ _ q => ⟨q.2.1, q.2.2.1⟩)
        obtain ⟨rfl, -, K163, E163, Fc163, t163, kb163, gt163, gu163, -, Fv163, A163⟩ := Q163
        refine st163 _ ?_
        have s173 := K163.1
        have lt163 := nlt A163.lt
        have S174 : StrIs Z h163 b151 [pa, pb, pc] := ⟨t163, kb163, E163, Fc163, Fv163, A163, (by simp only [List.mem_cons, List.not_mem_nil, or_false]; rintro c (rfl | rfl | rfl) <;> first | assumption | decide), by simp⟩
        exact r_a B W163 rfl rfl rfl (d_method_3_81) (by decide) (by decide) ⟨_, rfl, (((((((Keep.refl h0 []).trans K151 all0).trans K155 all0).trans K157 (allS (Or.inr (by omega)) all0)).trans K159 (allS (Or.inr (by omega)) all0)).trans K161 (allS (Or.inr (by omega)) all0)).trans K163 (allS (Or.inr (by omega)) all0)), by rw [own_mk, if_neg hc101, if_neg hc113, if_neg hc130]; exact S174⟩
theorem ef_rnn (m : MethodId) (a1 : Addr) (a2 : Addr) : entryFrame m #[(.ref a1), (.ref a2)] 2 = mkF m 0 #[.val (.ref a1), .val (.ref a2)] [] := by first | (simp [entryFrame, mkF, argsToLocals, Value.category]; done) | rfl
def Q_rnn (Z : State) (a1 : Addr) (a2 : Addr) (h0 : Heap) (v : Option Value) (h : Heap) : Prop := v = some (.ref a1) ∧ h0 = h
set_option maxRecDepth 65536 in
set_option maxHeartbeats 40000000 in
theorem c_rnn (l : Launch) (Z : State) (a0 : Array Value) (hw : ∀ d ∈ tables_1, d.before a0 Z = true) (a1 : Addr) (a2 : Addr) (h0 : Heap) :
    Con l Z (⟨"java/util/Objects", "requireNonNull", "(Ljava/lang/Object;Ljava/lang/String;)Ljava/lang/Object;"⟩ : MethodName) jdk_31_method_11_code 2 (Option.some (FieldType.object "java/lang/Object")) [] ({ frames := 0, cells := 0, slots := 0, locals := 0 } : Room) #[(.ref a1), (.ref a2)] h0 (Q_rnn Z a1 a2 h0) [] := by
  refine Con.of (plainFor_of_name pn_java_util_Objects) ?_
  intro p e s m below meth c T0 B W0
  refine Go.cast (ef_rnn m a1 a2) ?_
  refine g_aload_n B W0 (d_jdk_31_method_11_0) rfl rfl ?_
  refine g_ifnonnull_y B W0 (d_jdk_31_method_11_1) (pc' := 13) (by decide) ?_
  show Go p.tables e below _ T0 (mkF m 13 #[.val (.ref a1), .val (.ref a2)] [])
  refine g_aload_n B W0 (d_jdk_31_method_11_13) rfl rfl ?_
  exact r_a B W0 rfl rfl rfl (d_jdk_31_method_11_14) (by decide) (by decide) ⟨rfl, rfl⟩
theorem ef_iVariable (m : MethodId) (a1 : Addr) (s1 : Addr) : entryFrame m #[(.ref a1), (.ref s1)] 2 = mkF m 0 #[.val (.ref a1), .val (.ref s1)] [] := by first | (simp [entryFrame, mkF, argsToLocals, Value.category]; done) | rfl
def Q_iVariable (Z : State) (a1 : Addr) (s1 : Addr) (h0 : Heap) (v : Option Value) (h : Heap) : Prop := v = none ∧ Keep h0 h [a1] ∧ Exa Z h a1 "com/example/dragoman/dragoman/cq/Variable" ∧ Fld Z h a1 "com/example/dragoman/dragoman/cq/Variable" "name" "Ljava/lang/String;" (.ref s1)
set_option maxRecDepth 65536 in
set_option maxHeartbeats 40000000 in
theorem c_iVariable (l : Launch) (Z : State) (a0 : Array Value) (hw : ∀ d ∈ tables_1, d.before a0 Z = true) (a1 : Addr) (s1 : Addr) (h0 : Heap) (E1 : Exa Z h0 a1 "com/example/dragoman/dragoman/cq/Variable") (F1 : Fld Z h0 a1 "com/example/dragoman/dragoman/cq/Variable" "name" "Ljava/lang/String;" .null) (Es : Exa Z h0 s1 "java/lang/String") (g1 : Z.heap.size ≤ a1) :
    Con l Z (⟨"com/example/dragoman/dragoman/cq/Variable", "<init>", "(Ljava/lang/String;)V"⟩ : MethodName) prog_21_method_1_code 2 (Option.none : Option FieldType) [] ({ frames := 1, cells := 2, slots := 20, locals := 40 } : Room) #[(.ref a1), (.ref s1)] h0 (Q_iVariable Z a1 s1 h0) [] := by
  refine Con.of (plainFor_of_name pn_com_example_dragoman_dragoman_cq_Variable) ?_
  intro p e s m below meth c T0 B W0
  refine Go.cast (ef_iVariable m a1 s1) ?_
  refine g_aload_n B W0 (d_prog_21_method_1_0) rfl rfl ?_
  obtain ⟨T101, W101, st101⟩ := x_init B W0 (d_prog_21_method_1_1) (tw hw 76 rfl) (tw hw 16 rfl) (tw hw 17 rfl) a1 #[.val (.ref a1), .val (.ref s1)] [] rfl 0 rfl (by decide) (by decide)
  refine st101 _ ?_
  refine g_aload_n B W101 (d_prog_21_method_1_4) rfl rfl ?_
  refine g_aload_n B W101 (d_prog_21_method_1_5) rfl rfl ?_
  obtain ⟨T102, h102, b102, W102, K102, st102⟩ := x_ldcS B W101 16 (d_prog_21_method_1_6) (tw hw 77 rfl) (own_wS hw) (own_EL hw) (by decide) (by decide) (by decide) (by decide) #[.val (.ref a1), .val (.ref s1)] [(.ref s1), (.ref a1)]
  refine st102 _ ?_
  have s103 := K102.1
  obtain ⟨T104, h104, v104, W104, Q104, st104⟩ := x_static B W102 [(.ref s1), (.ref b102)] (c_rnn l Z a0 hw s1 b102 h102) (by simp) (d_prog_21_method_1_8) (tw hw 78 rfl) (tw hw 35 rfl) (tw hw 36 rfl) (tw hw 37 rfl) (by decide) (lenOf pd__Ljava_lang_Object_Ljava_lang_String__Ljava_lang_Object_ rfl) #[.val (.ref a1), .val (.ref s1)] [(.ref a1)] rfl 1 rfl (by decide) (by decide) (by decide) (by decide)
  obtain ⟨rfl, rfl⟩ := Q104
  refine st104 _ ?_
  have f106 := (Es.keep K102)
  obtain ⟨T105, W105, st105⟩ := x_castY B W104 (d_prog_21_method_1_11) (tw hw 79 rfl) (Ins.self f106) #[.val (.ref a1), .val (.ref s1)] [(.ref a1)]
  refine st105 _ ?_
  have f107 := (F1.keep K102 nin0)
  have f108 := (E1.keep K102)
  obtain ⟨T109, h109, W109, K109, R109, F109, E109, st109⟩ := x_put B W105 (d_prog_21_method_1_14) ((tw hw 80 rfl)) Via.refl f107 f108 (Or.inr ⟨ (tw hw 81 rfl), rfl, rfl⟩) (tw hw 71 rfl) (ty := (.object "java/lang/String")) (v := (.ref s1)) (v' := (.ref s1)) (by decide) rfl rfl (by omega) (Or.inl (by decide)) #[.val (.ref a1), .val (.ref s1)] []
  refine st109 _ ?_
  have s110 := K109.1
  exact r_v B W109 (d_prog_21_method_1_17) (by decide) (by decide) ⟨rfl, (((Keep.refl h0 [a1]).trans K102 all0).trans K109 (allS (Or.inl (by simp)) all0)), E109, F109⟩
theorem ef_iIri (m : MethodId) (a1 : Addr) (s1 : Addr) : entryFrame m #[(.ref a1), (.ref s1)] 2 = mkF m 0 #[.val (.ref a1), .val (.ref s1)] [] := by first | (simp [entryFrame, mkF, argsToLocals, Value.category]; done) | rfl
def Q_iIri (Z : State) (a1 : Addr) (s1 : Addr) (h0 : Heap) (v : Option Value) (h : Heap) : Prop := v = none ∧ Keep h0 h [a1] ∧ Exa Z h a1 "com/example/dragoman/dragoman/cq/Iri" ∧ Fld Z h a1 "com/example/dragoman/dragoman/cq/Iri" "value" "Ljava/lang/String;" (.ref s1)
set_option maxRecDepth 65536 in
set_option maxHeartbeats 40000000 in
theorem c_iIri (l : Launch) (Z : State) (a0 : Array Value) (hw : ∀ d ∈ tables_1, d.before a0 Z = true) (a1 : Addr) (s1 : Addr) (h0 : Heap) (E1 : Exa Z h0 a1 "com/example/dragoman/dragoman/cq/Iri") (F1 : Fld Z h0 a1 "com/example/dragoman/dragoman/cq/Iri" "value" "Ljava/lang/String;" .null) (Es : Exa Z h0 s1 "java/lang/String") (g1 : Z.heap.size ≤ a1) :
    Con l Z (⟨"com/example/dragoman/dragoman/cq/Iri", "<init>", "(Ljava/lang/String;)V"⟩ : MethodName) prog_15_method_1_code 2 (Option.none : Option FieldType) [] ({ frames := 1, cells := 2, slots := 24, locals := 40 } : Room) #[(.ref a1), (.ref s1)] h0 (Q_iIri Z a1 s1 h0) [] := by
  refine Con.of (plainFor_of_name pn_com_example_dragoman_dragoman_cq_Iri) ?_
  intro p e s m below meth c T0 B W0
  refine Go.cast (ef_iIri m a1 s1) ?_
  refine g_aload_n B W0 (d_prog_15_method_1_0) rfl rfl ?_
  obtain ⟨T101, W101, st101⟩ := x_init B W0 (d_prog_15_method_1_1) (tw hw 32 rfl) (tw hw 16 rfl) (tw hw 17 rfl) a1 #[.val (.ref a1), .val (.ref s1)] [] rfl 0 rfl (by decide) (by decide)
  refine st101 _ ?_
  refine g_aload_n B W101 (d_prog_15_method_1_4) rfl rfl ?_
  refine g_aload_n B W101 (d_prog_15_method_1_5) rfl rfl ?_
  obtain ⟨T102, h102, b102, W102, K102, st102⟩ := x_ldcS B W101 20 (d_prog_15_method_1_6) (tw hw 33 rfl) (own_wS hw) (own_EL hw) (by decide) (by decide) (by decide) (by decide) #[.val (.ref a1), .val (.ref s1)] [(.ref s1), (.ref a1)]
  refine st102 _ ?_
  have s103 := K102.1
  obtain ⟨T104, h104, v104, W104, Q104, st104⟩ := x_static B W102 [(.ref s1), (.ref b102)] (c_rnn l Z a0 hw s1 b102 h102) (by simp) (d_prog_15_method_1_8) (tw hw 34 rfl) (tw hw 35 rfl) (tw hw 36 rfl) (tw hw 37 rfl) (by decide) (lenOf pd__Ljava_lang_Object_Ljava_lang_String__Ljava_lang_Object_ rfl) #[.val (.ref a1), .val (.ref s1)] [(.ref a1)] rfl 1 rfl (by decide) (by decide) (by decide) (by decide)
  obtain ⟨rfl, rfl⟩ := Q104
  refine st104 _ ?_
  have f106 := (Es.keep K102)
  obtain ⟨T105, W105, st105⟩ := x_castY B W104 (d_prog_15_method_1_11) (tw hw 38 rfl) (Ins.self f106) #[.val (.ref a1), .val (.ref s1)] [(.ref a1)]
  refine st105 _ ?_
  have f107 := (F1.keep K102 nin0)
  have f108 := (E1.keep K102)
  obtain ⟨T109, h109, W109, K109, R109, F109, E109, st109⟩ := x_put B W105 (d_prog_15_method_1_14) ((tw hw 39 rfl)) Via.refl f107 f108 (Or.inr ⟨ (tw hw 40 rfl), rfl, rfl⟩) (tw hw 27 rfl) (ty := (.object "java/lang/String")) (v := (.ref s1)) (v' := (.ref s1)) (by decide) rfl rfl (by omega) (Or.inl (by decide)) #[.val (.ref a1), .val (.ref s1)] []
  refine st109 _ ?_
  have s110 := K109.1
  exact r_v B W109 (d_prog_15_method_1_17) (by decide) (by decide) ⟨rfl, (((Keep.refl h0 [a1]).trans K102 all0).trans K109 (allS (Or.inl (by simp)) all0)), E109, F109⟩
theorem ef_eqIri (m : MethodId) (a1 : Addr) (a2 : Addr) (s1 : Addr) (s2 : Addr) (c1 : List Int32) (c2 : List Int32) (cz : Int32) : entryFrame m #[(.ref a1), (.ref a2)] 2 = mkF m 0 #[.val (.ref a1), .val (.ref a2)] [] := by first | (simp [entryFrame, mkF, argsToLocals, Value.category]; done) | rfl
def Q_eqIri (Z : State) (a1 : Addr) (a2 : Addr) (s1 : Addr) (s2 : Addr) (c1 : List Int32) (c2 : List Int32) (cz : Int32) (h0 : Heap) (v : Option Value) (h : Heap) : Prop := v = some (.int (bi (decide (c2 = c1)))) ∧ h0 = h
set_option maxRecDepth 65536 in
set_option maxHeartbeats 40000000 in
theorem c_eqIri (l : Launch) (Z : State) (a0 : Array Value) (hw : ∀ d ∈ tables_1, d.before a0 Z = true) (a1 : Addr) (a2 : Addr) (s1 : Addr) (s2 : Addr) (c1 : List Int32) (c2 : List Int32) (cz : Int32) (h0 : Heap) (Scs : Sta Z Z.heap "java/lang/String" "COMPACT_STRINGS" "Z" (.int cz)) (hcz : ¬ cz = 0) (E2 : Exa Z h0 a2 "com/example/dragoman/dragoman/cq/Iri") (F1 : Fld Z h0 a1 "com/example/dragoman/dragoman/cq/Iri" "value" "Ljava/lang/String;" (.ref s1)) (F2 : Fld Z h0 a2 "com/example/dragoman/dragoman/cq/Iri" "value" "Ljava/lang/String;" (.ref s2)) (S1 : StrIs Z h0 s1 c1) (S2 : StrIs Z h0 s2 c2) :
    Con l Z (⟨"com/example/dragoman/dragoman/cq/Iri", "equals", "(Ljava/lang/Object;)Z"⟩ : MethodName) prog_15_method_3_code 2 (Option.some FieldType.boolean) [] ({ frames := 3, cells := 0, slots := 0, locals := 50 } : Room) #[(.ref a1), (.ref a2)] h0 (Q_eqIri Z a1 a2 s1 s2 c1 c2 cz h0) [] := by
  refine Con.of (plainFor_of_name pn_com_example_dragoman_dragoman_cq_Iri) ?_
  intro p e s m below meth c T0 B W0
  refine Go.cast (ef_eqIri m a1 a2 s1 s2 c1 c2 cz) ?_
  refine g_aload_n B W0 (d_prog_15_method_3_0) rfl rfl ?_
  obtain ⟨T101, W101, st101⟩ := x_instY B W0 (d_prog_15_method_3_1) (tw hw 47 rfl) (Ins.self E2) #[.val (.ref a1), .val (.ref a2)] []
  refine st101 _ ?_
  refine g_if_n B W101 (d_prog_15_method_3_4) (XT.i0_eq_f (by decide)) ?_
  show Go p.tables e below _ T101 (mkF m 7 #[.val (.ref a1), .val (.ref a2)] [])
  refine g_aload_n B W101 (d_prog_15_method_3_7) rfl rfl ?_
  obtain ⟨T102, W102, st102⟩ := x_castY B W101 (d_prog_15_method_3_8) (tw hw 47 rfl) (Ins.self E2) #[.val (.ref a1), .val (.ref a2)] []
  refine st102 _ ?_
  obtain ⟨T103, W103, st103⟩ := x_get B W102 (host := "") (d_prog_15_method_3_11) (Or.inl (tw hw 39 rfl)) Via.refl F2 #[.val (.ref a1), .val (.ref a2)] []
  refine st103 _ ?_
  refine g_aload_n B W103 (d_prog_15_method_3_14) rfl rfl ?_
  obtain ⟨T104, W104, st104⟩ := x_get B W103 (host := "") (d_prog_15_method_3_15) (Or.inl (tw hw 39 rfl)) Via.refl F1 #[.val (.ref a1), .val (.ref a2)] [(.ref s2)]
  refine st104 _ ?_
  obtain ⟨T105, h105, v105, L105, W105, Q105, st105⟩ := x_virtualB B W104 (b := s2) (V := 0) (rc := 0) (rs := 0) (QL := fun v h' L => v = some (.int (bi (decide (c2 = c1)))) ∧ L = [] ∧ h0 = h') [(.ref s1)] (fun s' hZ' => own_eqB hw S2 S1 (Scs.ext W104.old.2) hcz (tw hw 5 rfl) (by decide) (by decide) hZ') S2.exa (d_prog_15_method_3_18) (tw hw 49 rfl) (tw hw 50 rfl) (tw hw 52 rfl) (tw hw 51 rfl) (by decide) (lenOf pd__Ljava_lang_Object__Z rfl) #[.val (.ref a1), .val (.ref a2)] [] rfl rfl (by decide) (by decide) [] all0 (fun _ q => nomatch q) (fun _ _ _ q => ⟨q.2.1 ▸ Fr.nil _, q.2.2 ▸ Keep.refl _ _⟩)
  obtain ⟨rfl, -, rfl⟩ := Q105
  refine st105 _ ?_
  refine g_diab (decide (c2 = c1)) (m := m) (ls := #[.val (.ref a1), .val (.ref a2)]) (st := []) (pc' := 29) (fun hd1 q => ?_) (fun hd1 q => ?_) ?_
  · refine g_if_n B W105 (d_prog_15_method_3_21) (XT.i0_eq_f (bi_t hd1)) ?_
    refine g_iconst B W105 (d_prog_15_method_3_24) (v := 1) (by decide) ?_
    exact g_goto B W105 (d_prog_15_method_3_25) (pc' := 29) (by decide) q
  · refine g_if_y B W105 (d_prog_15_method_3_21) (XT.i0_eq_t (bi_f hd1)) (pc' := 28) (by decide) ?_
    exact g_iconst B W105 (d_prog_15_method_3_28) (v := 0) (by decide) q
  show Go p.tables e below _ T105 (mkF m 29 #[.val (.ref a1), .val (.ref a2)] [(.int (bi (decide (c2 = c1))))])
  exact r_b B W105 (d_prog_15_method_3_29) (by decide) (by decide) ⟨rfl, rfl⟩
theorem ef_eqIri_Variable (m : MethodId) (a1 : Addr) (a2 : Addr) : entryFrame m #[(.ref a1), (.ref a2)] 2 = mkF m 0 #[.val (.ref a1), .val (.ref a2)] [] := by first | (simp [entryFrame, mkF, argsToLocals, Value.category]; done) | rfl
def Q_eqIri_Variable (Z : State) (a1 : Addr) (a2 : Addr) (h0 : Heap) (v : Option Value) (h : Heap) : Prop := v = some (.int (bi false)) ∧ h0 = h
set_option maxRecDepth 65536 in
set_option maxHeartbeats 40000000 in
theorem c_eqIri_Variable (l : Launch) (Z : State) (a0 : Array Value) (hw : ∀ d ∈ tables_1, d.before a0 Z = true) (a1 : Addr) (a2 : Addr) (h0 : Heap) (E2 : Exa Z h0 a2 "com/example/dragoman/dragoman/cq/Variable") :
    Con l Z (⟨"com/example/dragoman/dragoman/cq/Iri", "equals", "(Ljava/lang/Object;)Z"⟩ : MethodName) prog_15_method_3_code 2 (Option.some FieldType.boolean) [] ({ frames := 0, cells := 0, slots := 0, locals := 0 } : Room) #[(.ref a1), (.ref a2)] h0 (Q_eqIri_Variable Z a1 a2 h0) [] := by
  refine Con.of (plainFor_of_name pn_com_example_dragoman_dragoman_cq_Iri) ?_
  intro p e s m below meth c T0 B W0
  refine Go.cast (ef_eqIri_Variable m a1 a2) ?_
  refine g_aload_n B W0 (d_prog_15_method_3_0) rfl rfl ?_
  obtain ⟨T101, W101, st101⟩ := x_instN B W0 (d_prog_15_method_3_1) (tw hw 47 rfl) E2 (own_no (tw hw 82 rfl) (tw hw 27 rfl) (NS.step (tw hw 82 rfl) (own_root (tw hw 83 rfl) (tw hw 27 rfl) (by decide)) (by decide)) (by decide)) #[.val (.ref a1), .val (.ref a2)] []
  refine st101 _ ?_
  refine g_if_y B W101 (d_prog_15_method_3_4) (XT.i0_eq_t rfl) (pc' := 28) (by decide) ?_
  show Go p.tables e below _ T101 (mkF m 28 #[.val (.ref a1), .val (.ref a2)] [])
  refine g_iconst B W101 (d_prog_15_method_3_28) (v := 0) (by decide) ?_
  exact r_n B W101 (t := .boolean) rfl (by simp) (d_prog_15_method_3_29) (by decide) (by decide) ⟨by rw [nar_b0]; rfl, rfl⟩
theorem ef_eqIri_String (m : MethodId) (a1 : Addr) (a2 : Addr) : entryFrame m #[(.ref a1), (.ref a2)] 2 = mkF m 0 #[.val (.ref a1), .val (.ref a2)] [] := by first | (simp [entryFrame, mkF, argsToLocals, Value.category]; done) | rfl
def Q_eqIri_String (Z : State) (a1 : Addr) (a2 : Addr) (h0 : Heap) (v : Option Value) (h : Heap) : Prop := v = some (.int (bi false)) ∧ h0 = h
set_option maxRecDepth 65536 in
set_option maxHeartbeats 40000000 in
theorem c_eqIri_String (l : Launch) (Z : State) (a0 : Array Value) (hw : ∀ d ∈ tables_1, d.before a0 Z = true) (a1 : Addr) (a2 : Addr) (h0 : Heap) (E2 : Exa Z h0 a2 "java/lang/String") :
    Con l Z (⟨"com/example/dragoman/dragoman/cq/Iri", "equals", "(Ljava/lang/Object;)Z"⟩ : MethodName) prog_15_method_3_code 2 (Option.some FieldType.boolean) [] ({ frames := 0, cells := 0, slots := 0, locals := 0 } : Room) #[(.ref a1), (.ref a2)] h0 (Q_eqIri_String Z a1 a2 h0) [] := by
  refine Con.of (plainFor_of_name pn_com_example_dragoman_dragoman_cq_Iri) ?_
  intro p e s m below meth c T0 B W0
  refine Go.cast (ef_eqIri_String m a1 a2) ?_
  refine g_aload_n B W0 (d_prog_15_method_3_0) rfl rfl ?_
  obtain ⟨T101, W101, st101⟩ := x_instN B W0 (d_prog_15_method_3_1) (tw hw 47 rfl) E2 (own_no (tw hw 107 rfl) (tw hw 27 rfl) (NS.step (tw hw 107 rfl) (own_root (tw hw 83 rfl) (tw hw 27 rfl) (by decide)) (by decide)) (by decide)) #[.val (.ref a1), .val (.ref a2)] []
  refine st101 _ ?_
  refine g_if_y B W101 (d_prog_15_method_3_4) (XT.i0_eq_t rfl) (pc' := 28) (by decide) ?_
  show Go p.tables e below _ T101 (mkF m 28 #[.val (.ref a1), .val (.ref a2)] [])
  refine g_iconst B W101 (d_prog_15_method_3_28) (v := 0) (by decide) ?_
  exact r_n B W101 (t := .boolean) rfl (by simp) (d_prog_15_method_3_29) (by decide) (by decide) ⟨by rw [nar_b0]; rfl, rfl⟩
theorem ef_eqIri_Literal (m : MethodId) (a1 : Addr) (a2 : Addr) : entryFrame m #[(.ref a1), (.ref a2)] 2 = mkF m 0 #[.val (.ref a1), .val (.ref a2)] [] := by first | (simp [entryFrame, mkF, argsToLocals, Value.category]; done) | rfl
def Q_eqIri_Literal (Z : State) (a1 : Addr) (a2 : Addr) (h0 : Heap) (v : Option Value) (h : Heap) : Prop := v = some (.int (bi false)) ∧ h0 = h
set_option maxRecDepth 65536 in
set_option maxHeartbeats 40000000 in
theorem c_eqIri_Literal (l : Launch) (Z : State) (a0 : Array Value) (hw : ∀ d ∈ tables_1, d.before a0 Z = true) (a1 : Addr) (a2 : Addr) (h0 : Heap) (E2 : Exa Z h0 a2 "com/example/dragoman/dragoman/cq/Literal") :
    Con l Z (⟨"com/example/dragoman/dragoman/cq/Iri", "equals", "(Ljava/lang/Object;)Z"⟩ : MethodName) prog_15_method_3_code 2 (Option.some FieldType.boolean) [] ({ frames := 0, cells := 0, slots := 0, locals := 0 } : Room) #[(.ref a1), (.ref a2)] h0 (Q_eqIri_Literal Z a1 a2 h0) [] := by
  refine Con.of (plainFor_of_name pn_com_example_dragoman_dragoman_cq_Iri) ?_
  intro p e s m below meth c T0 B W0
  refine Go.cast (ef_eqIri_Literal m a1 a2) ?_
  refine g_aload_n B W0 (d_prog_15_method_3_0) rfl rfl ?_
  obtain ⟨T101, W101, st101⟩ := x_instN B W0 (d_prog_15_method_3_1) (tw hw 47 rfl) E2 (own_no (tw hw 106 rfl) (tw hw 27 rfl) (NS.step (tw hw 106 rfl) (own_root (tw hw 83 rfl) (tw hw 27 rfl) (by decide)) (by decide)) (by decide)) #[.val (.ref a1), .val (.ref a2)] []
  refine st101 _ ?_
  refine g_if_y B W101 (d_prog_15_method_3_4) (XT.i0_eq_t rfl) (pc' := 28) (by decide) ?_
  show Go p.tables e below _ T101 (mkF m 28 #[.val (.ref a1), .val (.ref a2)] [])
  refine g_iconst B W101 (d_prog_15_method_3_28) (v := 0) (by decide) ?_
  exact r_n B W101 (t := .boolean) rfl (by simp) (d_prog_15_method_3_29) (by decide) (by decide) ⟨by rw [nar_b0]; rfl, rfl⟩
theorem ef_eqIri_null (m : MethodId) (a1 : Addr) : entryFrame m #[(.ref a1), .null] 2 = mkF m 0 #[.val (.ref a1), .val .null] [] := by first | (simp [entryFrame, mkF, argsToLocals, Value.category]; done) | rfl
def Q_eqIri_null (Z : State) (a1 : Addr) (h0 : Heap) (v : Option Value) (h : Heap) : Prop := v = some (.int (bi false)) ∧ h0 = h
set_option maxRecDepth 65536 in
set_option maxHeartbeats 40000000 in
theorem c_eqIri_null (l : Launch) (Z : State) (a0 : Array Value) (hw : ∀ d ∈ tables_1, d.before a0 Z = true) (a1 : Addr) (h0 : Heap) :
    Con l Z (⟨"com/example/dragoman/dragoman/cq/Iri", "equals", "(Ljava/lang/Object;)Z"⟩ : MethodName) prog_15_method_3_code 2 (Option.some FieldType.boolean) [] ({ frames := 0, cells := 0, slots := 0, locals := 0 } : Room) #[(.ref a1), .null] h0 (Q_eqIri_null Z a1 h0) [] := by
  refine Con.of (plainFor_of_name pn_com_example_dragoman_dragoman_cq_Iri) ?_
  intro p e s m below meth c T0 B W0
  refine Go.cast (ef_eqIri_null m a1) ?_
  refine g_aload_n B W0 (d_prog_15_method_3_0) rfl rfl ?_
  refine g_instNull B W0 (d_prog_15_method_3_1)  ?_
  refine g_if_y B W0 (d_prog_15_method_3_4) (XT.i0_eq_t rfl) (pc' := 28) (by decide) ?_
  show Go p.tables e below _ T0 (mkF m 28 #[.val (.ref a1), .val .null] [])
  refine g_iconst B W0 (d_prog_15_method_3_28) (v := 0) (by decide) ?_
  exact r_n B W0 (t := .boolean) rfl (by simp) (d_prog_15_method_3_29) (by decide) (by decide) ⟨by rw [nar_b0]; rfl, rfl⟩
theorem ef_iLit (m : MethodId) (a1 : Addr) (s1 : Addr) (r1 : Addr) (g0 : Addr) : entryFrame m #[(.ref a1), (.ref s1), (.ref r1), (.ref g0)] 4 = mkF m 0 #[.val (.ref a1), .val (.ref s1), .val (.ref r1), .val (.ref g0)] [] := by first | (simp [entryFrame, mkF, argsToLocals, Value.category]; done) | rfl
def Q_iLit (Z : State) (a1 : Addr) (s1 : Addr) (r1 : Addr) (g0 : Addr) (h0 : Heap) (v : Option Value) (h : Heap) : Prop := v = none ∧ Keep h0 h [a1] ∧ Exa Z h a1 "com/example/dragoman/dragoman/cq/Literal"
set_option maxRecDepth 65536 in
set_option maxHeartbeats 40000000 in
theorem c_iLit (l : Launch) (Z : State) (a0 : Array Value) (hw : ∀ d ∈ tables_1, d.before a0 Z = true) (a1 : Addr) (s1 : Addr) (r1 : Addr) (g0 : Addr) (h0 : Heap) (E1 : Exa Z h0 a1 "com/example/dragoman/dragoman/cq/Literal") (F0 : Fld Z h0 a1 "com/example/dragoman/dragoman/cq/Literal" "lexicalForm" "Ljava/lang/String;" .null) (F1 : Fld Z h0 a1 "com/example/dragoman/dragoman/cq/Literal" "datatype" "Lcom/example/dragoman/dragoman/cq/Iri;" .null) (F2 : Fld Z h0 a1 "com/example/dragoman/dragoman/cq/Literal" "language" "Ljava/lang/String;" .null) (Es : Exa Z h0 s1 "java/lang/String") (Er : Exa Z h0 r1 "com/example/dragoman/dragoman/cq/Iri") (g1 : Z.heap.size ≤ a1) :
    Con l Z (⟨"com/example/dragoman/dragoman/cq/Literal", "<init>", "(Ljava/lang/String;Lcom/example/dragoman/dragoman/cq/Iri;Ljava/lang/String;)V"⟩ : MethodName) prog_17_method_1_code 4 (Option.none : Option FieldType) [] ({ frames := 1, cells := 4, slots := 84, locals := 40 } : Room) #[(.ref a1), (.ref s1), (.ref r1), (.ref g0)] h0 (Q_iLit Z a1 s1 r1 g0 h0) [] := by
  refine Con.of (plainFor_of_name pn_com_example_dragoman_dragoman_cq_Literal) ?_
  intro p e s m below meth c T0 B W0
  refine Go.cast (ef_iLit m a1 s1 r1 g0) ?_
  refine g_aload_n B W0 (d_prog_17_method_1_0) rfl rfl ?_
  obtain ⟨T101, W101, st101⟩ := x_init B W0 (d_prog_17_method_1_1) (tw hw 94 rfl) (tw hw 16 rfl) (tw hw 17 rfl) a1 #[.val (.ref a1), .val (.ref s1), .val (.ref r1), .val (.ref g0)] [] rfl 0 rfl (by decide) (by decide)
  refine st101 _ ?_
  refine g_aload_n B W101 (d_prog_17_method_1_4) rfl rfl ?_
  refine g_aload_n B W101 (d_prog_17_method_1_5) rfl rfl ?_
  obtain ⟨T102, h102, b102, W102, K102, st102⟩ := x_ldcS B W101 44 (d_prog_17_method_1_6) (tw hw 95 rfl) (own_wS hw) (own_EL hw) (by decide) (by decide) (by decide) (by decide) #[.val (.ref a1), .val (.ref s1), .val (.ref r1), .val (.ref g0)] [(.ref s1), (.ref a1)]
  refine st102 _ ?_
  have s103 := K102.1
  obtain ⟨T104, h104, v104, W104, Q104, st104⟩ := x_static B W102 [(.ref s1), (.ref b102)] (c_rnn l Z a0 hw s1 b102 h102) (by simp) (d_prog_17_method_1_8) (tw hw 96 rfl) (tw hw 35 rfl) (tw hw 36 rfl) (tw hw 37 rfl) (by decide) (lenOf pd__Ljava_lang_Object_Ljava_lang_String__Ljava_lang_Object_ rfl) #[.val (.ref a1), .val (.ref s1), .val (.ref r1), .val (.ref g0)] [(.ref a1)] rfl 1 rfl (by decide) (by decide) (by decide) (by decide)
  obtain ⟨rfl, rfl⟩ := Q104
  refine st104 _ ?_
  have f106 := (Es.keep K102)
  obtain ⟨T105, W105, st105⟩ := x_castY B W104 (d_prog_17_method_1_11) (tw hw 97 rfl) (Ins.self f106) #[.val (.ref a1), .val (.ref s1), .val (.ref r1), .val (.ref g0)] [(.ref a1)]
  refine st105 _ ?_
  have f107 := (F0.keep K102 nin0)
  have f108 := (E1.keep K102)
  obtain ⟨T109, h109, W109, K109, R109, F109, E109, st109⟩ := x_put B W105 (d_prog_17_method_1_14) ((tw hw 98 rfl)) Via.refl f107 f108 (Or.inr ⟨ (tw hw 99 rfl), rfl, rfl⟩) (tw hw 89 rfl) (ty := (.object "java/lang/String")) (v := (.ref s1)) (v' := (.ref s1)) (by decide) rfl rfl (by omega) (Or.inl (by decide)) #[.val (.ref a1), .val (.ref s1), .val (.ref r1), .val (.ref g0)] []
  refine st109 _ ?_
  have f110 := (F1.keep K102 nin0)
  have f111 := f110.other R109 (Or.inr (slot_ne (Or.inr (tw hw 103 rfl)) (Or.inr (tw hw 99 rfl)) (by decide) (t := (.object "com/example/dragoman/dragoman/cq/Iri")) (t' := (.object "java/lang/String")) (by decide) (by decide)))
  have f112 := (F2.keep K102 nin0)
  have f113 := f112.other R109 (Or.inr (slot_ne (Or.inr (tw hw 105 rfl)) (Or.inr (tw hw 99 rfl)) (by decide) (t := (.object "java/lang/String")) (t' := (.object "java/lang/String")) (by decide) (by decide)))
  have s114 := K109.1
  refine g_aload_n B W109 (d_prog_17_method_1_17) rfl rfl ?_
  refine g_aload_n B W109 (d_prog_17_method_1_18) rfl rfl ?_
  obtain ⟨T115, h115, b115, W115, K115, st115⟩ := x_ldcS B W109 32 (d_prog_17_method_1_19) (tw hw 100 rfl) (own_wS hw) (own_EL hw) (by decide) (by decide) (by decide) (by decide) #[.val (.ref a1), .val (.ref s1), .val (.ref r1), .val (.ref g0)] [(.ref r1), (.ref a1)]
  refine st115 _ ?_
  have s116 := K115.1
  obtain ⟨T117, h117, v117, W117, Q117, st117⟩ := x_static B W115 [(.ref r1), (.ref b115)] (c_rnn l Z a0 hw r1 b115 h115) (by simp) (d_prog_17_method_1_21) (tw hw 96 rfl) (tw hw 35 rfl) (tw hw 36 rfl) (tw hw 37 rfl) (by decide) (lenOf pd__Ljava_lang_Object_Ljava_lang_String__Ljava_lang_Object_ rfl) #[.val (.ref a1), .val (.ref s1), .val (.ref r1), .val (.ref g0)] [(.ref a1)] rfl 1 rfl (by decide) (by decide) (by decide) (by decide)
  obtain ⟨rfl, rfl⟩ := Q117
  refine st117 _ ?_
  have f119 := (((Er.keep K102).keep K109).keep K115)
  obtain ⟨T118, W118, st118⟩ := x_castY B W117 (d_prog_17_method_1_24) (tw hw 101 rfl) (Ins.self f119) #[.val (.ref a1), .val (.ref s1), .val (.ref r1), .val (.ref g0)] [(.ref a1)]
  refine st118 _ ?_
  have f120 := (f111.keep K115 nin0)
  have f121 := (E109.keep K115)
  obtain ⟨T122, h122, W122, K122, R122, F122, E122, st122⟩ := x_put B W118 (d_prog_17_method_1_27) ((tw hw 102 rfl)) Via.refl f120 f121 (Or.inr ⟨ (tw hw 103 rfl), rfl, rfl⟩) (tw hw 89 rfl) (ty := (.object "com/example/dragoman/dragoman/cq/Iri")) (v := (.ref r1)) (v' := (.ref r1)) (by decide) rfl rfl (by omega) (Or.inl (by decide)) #[.val (.ref a1), .val (.ref s1), .val (.ref r1), .val (.ref g0)] []
  refine st122 _ ?_
  have f123 := (F109.keep K115 nin0)
  have f124 := f123.other R122 (Or.inr (slot_ne (Or.inr (tw hw 99 rfl)) (Or.inr (tw hw 103 rfl)) (by decide) (t := (.object "java/lang/String")) (t' := (.object "com/example/dragoman/dragoman/cq/Iri")) (by decide) (by decide)))
  have f125 := (f113.keep K115 nin0)
  have f126 := f125.other R122 (Or.inr (slot_ne (Or.inr (tw hw 105 rfl)) (Or.inr (tw hw 103 rfl)) (by decide) (t := (.object "java/lang/String")) (t' := (.object "com/example/dragoman/dragoman/cq/Iri")) (by decide) (by decide)))
  have s127 := K122.1
  refine g_aload_n B W122 (d_prog_17_method_1_30) rfl rfl ?_
  refine g_aload_n B W122 (d_prog_17_method_1_31) rfl rfl ?_
  obtain ⟨T128, h128, W128, K128, R128, F128, E128, st128⟩ := x_put B W122 (d_prog_17_method_1_32) ((tw hw 104 rfl)) Via.refl f126 E122 (Or.inr ⟨ (tw hw 105 rfl), rfl, rfl⟩) (tw hw 89 rfl) (ty := (.object "java/lang/String")) (v := (.ref g0)) (v' := (.ref g0)) (by decide) rfl rfl (by omega) (Or.inl (by decide)) #[.val (.ref a1), .val (.ref s1), .val (.ref r1), .val (.ref g0)] []
  refine st128 _ ?_
  have f129 := f124.other R128 (Or.inr (slot_ne (Or.inr (tw hw 99 rfl)) (Or.inr (tw hw 105 rfl)) (by decide) (t := (.object "java/lang/String")) (t' := (.object "java/lang/String")) (by decide) (by decide)))
  have f130 := F122.other R128 (Or.inr (slot_ne (Or.inr (tw hw 103 rfl)) (Or.inr (tw hw 105 rfl)) (by decide) (t := (.object "com/example/dragoman/dragoman/cq/Iri")) (t' := (.object "java/lang/String")) (by decide) (by decide)))
  have s131 := K128.1
  exact r_v B W128 (d_prog_17_method_1_35) (by decide) (by decide) ⟨rfl, ((((((Keep.refl h0 [a1]).trans K102 all0).trans K109 (allS (Or.inl (by simp)) all0)).trans K115 all0).trans K122 (allS (Or.inl (by simp)) all0)).trans K128 (allS (Or.inl (by simp)) all0)), E128⟩
theorem ef_typed (m : MethodId) (s1 : Addr) (r1 : Addr) : entryFrame m #[(.ref s1), (.ref r1)] 2 = mkF m 0 #[.val (.ref s1), .val (.ref r1)] [] := by first | (simp [entryFrame, mkF, argsToLocals, Value.category]; done) | rfl
def Q_typed (Z : State) (s1 : Addr) (r1 : Addr) (h0 : Heap) (v : Option Value) (h : Heap) : Prop := ∃ b, v = some (.ref b) ∧ Keep h0 h [] ∧ Exa Z h b "com/example/dragoman/dragoman/cq/Literal"
set_option maxRecDepth 65536 in
set_option maxHeartbeats 40000000 in
theorem c_typed (l : Launch) (Z : State) (a0 : Array Value) (hw : ∀ d ∈ tables_1, d.before a0 Z = true) (s1 : Addr) (r1 : Addr) (h0 : Heap) (Es : Exa Z h0 s1 "java/lang/String") (Er : Exa Z h0 r1 "com/example/dragoman/dragoman/cq/Iri") :
    Con l Z (⟨"com/example/dragoman/dragoman/cq/Literal", "typed", "(Ljava/lang/String;Lcom/example/dragoman/dragoman/cq/Iri;)Lcom/example/dragoman/dragoman/cq/Literal;"⟩ : MethodName) prog_17_method_2_code 2 (Option.some (FieldType.object "com/example/dragoman/dragoman/cq/Literal")) [] ({ frames := 2, cells := 7, slots := 91, locals := 56 } : Room) #[(.ref s1), (.ref r1)] h0 (Q_typed Z s1 r1 h0) [] := by
  refine Con.of (plainFor_of_name pn_com_example_dragoman_dragoman_cq_Literal) ?_
  intro p e s m below meth c T0 B W0
  refine Go.cast (ef_typed m s1 r1) ?_
  obtain ⟨T101, h101, b101, gb101, W101, K101, E101, D101, st101⟩ := x_new B W0 (d_prog_17_method_2_0) (tw hw 88 rfl) (tw hw 89 rfl) (tw hw 86 rfl) (by decide) (by decide) #[.val (.ref s1), .val (.ref r1)] []
  have l101 := nlt E101.lt
  have z101 := W0.size
  refine st101 _ ?_
  have s102 := K101.1
  have f103 : Fld Z h101 b101 "com/example/dragoman/dragoman/cq/Literal" "lexicalForm" "Ljava/lang/String;" .null := D101 (Or.inr (tw hw 99 rfl)) (ty := (.object "java/lang/String")) (by decide)
  have f104 : Fld Z h101 b101 "com/example/dragoman/dragoman/cq/Literal" "datatype" "Lcom/example/dragoman/dragoman/cq/Iri;" .null := D101 (Or.inr (tw hw 103 rfl)) (ty := (.object "com/example/dragoman/dragoman/cq/Iri")) (by decide)
  have f105 : Fld Z h101 b101 "com/example/dragoman/dragoman/cq/Literal" "language" "Ljava/lang/String;" .null := D101 (Or.inr (tw hw 105 rfl)) (ty := (.object "java/lang/String")) (by decide)
  refine g_dup B W101 (d_prog_17_method_2_3) rfl ?_
  refine g_aload_n B W101 (d_prog_17_method_2_4) rfl rfl ?_
  refine g_aload_n B W101 (d_prog_17_method_2_5) rfl rfl ?_
  obtain ⟨T106, h106, b106, W106, K106, st106⟩ := x_ldcS B W101 0 (d_prog_17_method_2_6) (tw hw 90 rfl) (own_wS hw) (own_EL hw) (by decide) (by decide) (by decide) (by decide) #[.val (.ref s1), .val (.ref r1)] [(.ref r1), (.ref s1), (.ref b101), (.ref b101)]
  refine st106 _ ?_
  have s107 := K106.1
  have f108 := (E101.keep K106)
  have f109 := (f103.keep K106 nin0)
  have f110 := (f104.keep K106 nin0)
  have f111 := (f105.keep K106 nin0)
  have f112 := ((Es.keep K101).keep K106)
  have f113 := ((Er.keep K101).keep K106)
  obtain ⟨T114, h114, v114, W114, Q114, st114⟩ := x_special B W106 (b := b101) [(.ref s1), (.ref r1), (.ref b106)] (c_iLit l Z a0 hw b101 s1 r1 b106 h106 f108 f109 f110 f111 f112 f113 (by omega)) (by simp) (d_prog_17_method_2_8) rfl (tw hw 91 rfl) (tw hw 92 rfl) (tw hw 86 rfl) (tw hw 93 rfl) (by decide) (lenOf pd__Ljava_lang_String_Lcom_example_dragoman_dragoman_cq_Iri_Ljava_lang_String__V rfl) #[.val (.ref s1), .val (.ref r1)] [(.ref b101)] rfl 1 rfl (by decide) (by decide) (by decide) (by decide)
  obtain ⟨rfl, K114, E114⟩ := Q114
  have s115 := K114.1
  refine st114 _ ?_
  exact r_a B W114 rfl rfl rfl (d_prog_17_method_2_11) (by decide) (by decide) ⟨_, rfl, ((((Keep.refl h0 []).trans K101 all0).trans K106 all0).trans K114 (allS (Or.inr (by omega)) all0)), E114⟩
theorem ef_law (m : MethodId) (p1 : Int32) (p2 : Int32) (p3 : Int32) (p4 : Int32) (p5 : Int32) (cz : Int32) : entryFrame m #[(.int p1), (.int p2), (.int p3), (.int p4), (.int p5)] maxLocals = mkF m 0 #[.val (.int p1), .val (.int p2), .val (.int p3), .val (.int p4), .val (.int p5), .unset, .unset, .unset, .unset, .unset, .unset, .unset, .unset, .unset, .unset, .unset, .unset, .unset, .unset] [] := by first | (simp [entryFrame, mkF, argsToLocals, Value.category, maxLocals]; done) | rfl
def Q_law (Z : State) (p1 : Int32) (p2 : Int32) (p3 : Int32) (p4 : Int32) (p5 : Int32) (cz : Int32) (h0 : Heap) (v : Option Value) (h : Heap) : Prop := v = some (.int 1)
set_option maxRecDepth 65536 in
set_option maxHeartbeats 40000000 in
theorem c_law (l : Launch) (Z : State) (a0 : Array Value) (hw : ∀ d ∈ tables_1, d.before a0 Z = true) (ws : List Jvm.Cond) (p1 : Int32) (p2 : Int32) (p3 : Int32) (p4 : Int32) (p5 : Int32) (cz : Int32) (h0 : Heap) (Scs : Sta Z Z.heap "java/lang/String" "COMPACT_STRINGS" "Z" (.int cz)) (hcz : ¬ cz = 0) :
    Con l Z x code maxLocals ret ws room_1 #[(.int p1), (.int p2), (.int p3), (.int p4), (.int p5)] h0 (Q_law Z p1 p2 p3 p4 p5 cz h0) [] := by
  refine Con.of (plainFor_of_name pn_com_example_dragoman_dragoman_cq_IriEqualsPinLaw) ?_
  intro p e s m below meth c T0 B W0
  refine Go.cast (ef_law m p1 p2 p3 p4 p5 cz) ?_
  refine g_iload_n B W0 at_0 rfl ?_
  refine g_iconst B W0 at_1 (v := 3) (by decide) ?_
  refine g_iand B W0 at_2  ?_
  obtain hql1 := own_03 p1
  generalize (p1 &&& 3) = l1 at hql1 ⊢
  refine g_istore B W0 at_3  (l' := #[.val (.int p1), .val (.int p2), .val (.int p3), .val (.int p4), .val (.int p5), .val (.int l1), .unset, .unset, .unset, .unset, .unset, .unset, .unset, .unset, .unset, .unset, .unset, .unset, .unset]) rfl ?_
  refine g_iload_n B W0 at_5 rfl ?_
  refine g_iconst B W0 at_6 (v := 2) (by decide) ?_
  refine g_iushr B W0 at_7  ?_
  refine g_iconst B W0 at_8 (v := 1) (by decide) ?_
  refine g_iand B W0 at_9  ?_
  suffices q : Go p.tables e below (Jvm.OwnK.Out Z s (Q_law Z p1 p2 p3 p4 p5 cz h0) room_1.cells room_1.slots) T0 (mkF m 23 #[.val (.int p1), .val (.int p2), .val (.int p3), .val (.int p4), .val (.int p5), .val (.int l1), .unset, .unset, .unset, .unset, .unset, .unset, .unset, .unset, .unset, .unset, .unset, .unset, .unset] [(.int (if ((XT.ushr p1 2) &&& 1) = 0 then (XT.ushr p1 3 &&& 3) else l1))]) by
    by_cases hc101 : ((XT.ushr p1 2) &&& 1) = 0
    · skip
      refine g_if_y B W0 at_10 (XT.i0_eq_t hc101) (pc' := 18) (by decide) ?_
      show Go p.tables e below _ T0 (mkF m 18 #[.val (.int p1), .val (.int p2), .val (.int p3), .val (.int p4), .val (.int p5), .val (.int l1), .unset, .unset, .unset, .unset, .unset, .unset, .unset, .unset, .unset, .unset, .unset, .unset, .unset] [])
      refine g_iload_n B W0 at_18 rfl ?_
      refine g_iconst B W0 at_19 (v := 3) (by decide) ?_
      refine g_iushr B W0 at_20  ?_
      refine g_iconst B W0 at_21 (v := 3) (by decide) ?_
      refine g_iand B W0 at_22  ?_
      exact own_gc (by rw [if_pos hc101]) q
    · skip
      refine g_if_n B W0 at_10 (XT.i0_eq_f hc101) ?_
      show Go p.tables e below _ T0 (mkF m 13 #[.val (.int p1), .val (.int p2), .val (.int p3), .val (.int p4), .val (.int p5), .val (.int l1), .unset, .unset, .unset, .unset, .unset, .unset, .unset, .unset, .unset, .unset, .unset, .unset, .unset] [])
      refine g_iload B W0 at_13 rfl ?_
      refine g_goto B W0 at_15 (pc' := 23) (by decide) ?_
      show Go p.tables e below _ T0 (mkF m 23 #[.val (.int p1), .val (.int p2), .val (.int p3), .val (.int p4), .val (.int p5), .val (.int l1), .unset, .unset, .unset, .unset, .unset, .unset, .unset, .unset, .unset, .unset, .unset, .unset, .unset] [(.int l1)])
      exact own_gc (by rw [if_neg hc101]) q
  have hql2 : (if ((XT.ushr p1 2) &&& 1) = 0 then (XT.ushr p1 3 &&& 3) else l1) = 0 ∨ (if ((XT.ushr p1 2) &&& 1) = 0 then (XT.ushr p1 3 &&& 3) else l1) = 1 ∨ (if ((XT.ushr p1 2) &&& 1) = 0 then (XT.ushr p1 3 &&& 3) else l1) = 2 ∨ (if ((XT.ushr p1 2) &&& 1) = 0 then (XT.ushr p1 3 &&& 3) else l1) = 3 := by split; exact own_03 _; exact hql1
  generalize (if ((XT.ushr p1 2) &&& 1) = 0 then (XT.ushr p1 3 &&& 3) else l1) = l2 at hql2 ⊢
  refine g_istore B W0 at_23  (l' := #[.val (.int p1), .val (.int p2), .val (.int p3), .val (.int p4), .val (.int p5), .val (.int l1), .val (.int l2), .unset, .unset, .unset, .unset, .unset, .unset, .unset, .unset, .unset, .unset, .unset, .unset]) rfl ?_
  refine g_iload_n B W0 at_25 rfl ?_
  refine g_sipush B W0 at_26 (v := 255) (by decide) ?_
  refine g_iand B W0 at_29  ?_
  refine g_i2c B W0 at_30  ?_
  obtain ⟨x102, ex102, nx102, rx102⟩ := own_i2cm p2
  rw [ex102]
  refine g_istore B W0 at_31  (l' := #[.val (.int p1), .val (.int p2), .val (.int p3), .val (.int p4), .val (.int p5), .val (.int l1), .val (.int l2), .val (.int x102), .unset, .unset, .unset, .unset, .unset, .unset, .unset, .unset, .unset, .unset, .unset]) rfl ?_
  refine g_iload_n B W0 at_33 rfl ?_
  refine g_bipush B W0 at_34 (v := 8) (by decide) ?_
  refine g_iushr B W0 at_36  ?_
  refine g_sipush B W0 at_37 (v := 255) (by decide) ?_
  refine g_iand B W0 at_40  ?_
  refine g_i2c B W0 at_41  ?_
  obtain ⟨x103, ex103, nx103, rx103⟩ := own_i2cm (XT.ushr p2 8)
  rw [ex103]
  refine g_istore B W0 at_42  (l' := #[.val (.int p1), .val (.int p2), .val (.int p3), .val (.int p4), .val (.int p5), .val (.int l1), .val (.int l2), .val (.int x102), .val (.int x103), .unset, .unset, .unset, .unset, .unset, .unset, .unset, .unset, .unset, .unset]) rfl ?_
  refine g_iload_n B W0 at_44 rfl ?_
  refine g_bipush B W0 at_45 (v := 16) (by decide) ?_
  refine g_iushr B W0 at_47  ?_
  refine g_sipush B W0 at_48 (v := 255) (by decide) ?_
  refine g_iand B W0 at_51  ?_
  refine g_i2c B W0 at_52  ?_
  obtain ⟨x104, ex104, nx104, rx104⟩ := own_i2cm (XT.ushr p2 16)
  rw [ex104]
  refine g_istore B W0 at_53  (l' := #[.val (.int p1), .val (.int p2), .val (.int p3), .val (.int p4), .val (.int p5), .val (.int l1), .val (.int l2), .val (.int x102), .val (.int x103), .val (.int x104), .unset, .unset, .unset, .unset, .unset, .unset, .unset, .unset, .unset]) rfl ?_
  refine g_iload_n B W0 at_55 rfl ?_
  refine g_iconst B W0 at_56 (v := 1) (by decide) ?_
  refine g_iand B W0 at_57  ?_
  suffices q : Go p.tables e below (Jvm.OwnK.Out Z s (Q_law Z p1 p2 p3 p4 p5 cz h0) room_1.cells room_1.slots) T0 (mkF m 72 #[.val (.int p1), .val (.int p2), .val (.int p3), .val (.int p4), .val (.int p5), .val (.int l1), .val (.int l2), .val (.int x102), .val (.int x103), .val (.int x104), .unset, .unset, .unset, .unset, .unset, .unset, .unset, .unset, .unset] [(.int (if (p4 &&& 1) = 0 then x102 else (p3 &&& 255).toUInt32.toUInt16.toUInt32.toInt32))]) by
    by_cases hc105 : (p4 &&& 1) = 0
    · skip
      refine g_if_y B W0 at_58 (XT.i0_eq_t hc105) (pc' := 70) (by decide) ?_
      show Go p.tables e below _ T0 (mkF m 70 #[.val (.int p1), .val (.int p2), .val (.int p3), .val (.int p4), .val (.int p5), .val (.int l1), .val (.int l2), .val (.int x102), .val (.int x103), .val (.int x104), .unset, .unset, .unset, .unset, .unset, .unset, .unset, .unset, .unset] [])
      refine g_iload B W0 at_70 rfl ?_
      exact own_gc (by rw [if_pos hc105]) q
    · skip
      refine g_if_n B W0 at_58 (XT.i0_eq_f hc105) ?_
      show Go p.tables e below _ T0 (mkF m 61 #[.val (.int p1), .val (.int p2), .val (.int p3), .val (.int p4), .val (.int p5), .val (.int l1), .val (.int l2), .val (.int x102), .val (.int x103), .val (.int x104), .unset, .unset, .unset, .unset, .unset, .unset, .unset, .unset, .unset] [])
      refine g_iload_n B W0 at_61 rfl ?_
      refine g_sipush B W0 at_62 (v := 255) (by decide) ?_
      refine g_iand B W0 at_65  ?_
      refine g_i2c B W0 at_66  ?_
      obtain ⟨x106, ex106, nx106, rx106⟩ := own_i2cm p3
      rw [ex106]
      refine g_goto B W0 at_67 (pc' := 72) (by decide) ?_
      show Go p.tables e below _ T0 (mkF m 72 #[.val (.int p1), .val (.int p2), .val (.int p3), .val (.int p4), .val (.int p5), .val (.int l1), .val (.int l2), .val (.int x102), .val (.int x103), .val (.int x104), .unset, .unset, .unset, .unset, .unset, .unset, .unset, .unset, .unset] [(.int x106)])
      exact own_gc (by rw [if_neg hc105]; exact ex106) q
  have hz107 : nar .char (if (p4 &&& 1) = 0 then x102 else (p3 &&& 255).toUInt32.toUInt16.toUInt32.toInt32) = (if (p4 &&& 1) = 0 then x102 else (p3 &&& 255).toUInt32.toUInt16.toUInt32.toInt32) ∧ (¬ (if (p4 &&& 1) = 0 then x102 else (p3 &&& 255).toUInt32.toUInt16.toUInt32.toInt32) < 0 ∧ ¬ 255 < (if (p4 &&& 1) = 0 then x102 else (p3 &&& 255).toUInt32.toUInt16.toUInt32.toInt32)) := by
    split
    · exact ⟨nx102, rx102⟩
    · obtain ⟨z, ez, nz, rz⟩ := own_i2cm p3; rw [ez]; exact ⟨nz, rz⟩
  generalize (if (p4 &&& 1) = 0 then x102 else (p3 &&& 255).toUInt32.toUInt16.toUInt32.toInt32) = z107 at hz107 ⊢
  obtain ⟨nx107, rx107⟩ := hz107
  refine g_istore B W0 at_72  (l' := #[.val (.int p1), .val (.int p2), .val (.int p3), .val (.int p4), .val (.int p5), .val (.int l1), .val (.int l2), .val (.int x102), .val (.int x103), .val (.int x104), .val (.int z107), .unset, .unset, .unset, .unset, .unset, .unset, .unset, .unset]) rfl ?_
  refine g_iload_n B W0 at_74 rfl ?_
  refine g_iconst B W0 at_75 (v := 2) (by decide) ?_
  refine g_iand B W0 at_76  ?_
  suffices q : Go p.tables e below (Jvm.OwnK.Out Z s (Q_law Z p1 p2 p3 p4 p5 cz h0) room_1.cells room_1.slots) T0 (mkF m 94 #[.val (.int p1), .val (.int p2), .val (.int p3), .val (.int p4), .val (.int p5), .val (.int l1), .val (.int l2), .val (.int x102), .val (.int x103), .val (.int x104), .val (.int z107), .unset, .unset, .unset, .unset, .unset, .unset, .unset, .unset] [(.int (if (p4 &&& 2) = 0 then x103 else ((XT.ushr p3 8) &&& 255).toUInt32.toUInt16.toUInt32.toInt32))]) by
    by_cases hc108 : (p4 &&& 2) = 0
    · skip
      refine g_if_y B W0 at_77 (XT.i0_eq_t hc108) (pc' := 92) (by decide) ?_
      show Go p.tables e below _ T0 (mkF m 92 #[.val (.int p1), .val (.int p2), .val (.int p3), .val (.int p4), .val (.int p5), .val (.int l1), .val (.int l2), .val (.int x102), .val (.int x103), .val (.int x104), .val (.int z107), .unset, .unset, .unset, .unset, .unset, .unset, .unset, .unset] [])
      refine g_iload B W0 at_92 rfl ?_
      exact own_gc (by rw [if_pos hc108]) q
    · skip
      refine g_if_n B W0 at_77 (XT.i0_eq_f hc108) ?_
      show Go p.tables e below _ T0 (mkF m 80 #[.val (.int p1), .val (.int p2), .val (.int p3), .val (.int p4), .val (.int p5), .val (.int l1), .val (.int l2), .val (.int x102), .val (.int x103), .val (.int x104), .val (.int z107), .unset, .unset, .unset, .unset, .unset, .unset, .unset, .unset] [])
      refine g_iload_n B W0 at_80 rfl ?_
      refine g_bipush B W0 at_81 (v := 8) (by decide) ?_
      refine g_iushr B W0 at_83  ?_
      refine g_sipush B W0 at_84 (v := 255) (by decide) ?_
      refine g_iand B W0 at_87  ?_
      refine g_i2c B W0 at_88  ?_
      obtain ⟨x109, ex109, nx109, rx109⟩ := own_i2cm (XT.ushr p3 8)
      rw [ex109]
      refine g_goto B W0 at_89 (pc' := 94) (by decide) ?_
      show Go p.tables e below _ T0 (mkF m 94 #[.val (.int p1), .val (.int p2), .val (.int p3), .val (.int p4), .val (.int p5), .val (.int l1), .val (.int l2), .val (.int x102), .val (.int x103), .val (.int x104), .val (.int z107), .unset, .unset, .unset, .unset, .unset, .unset, .unset, .unset] [(.int x109)])
      exact own_gc (by rw [if_neg hc108]; exact ex109) q
  have hz110 : nar .char (if (p4 &&& 2) = 0 then x103 else ((XT.ushr p3 8) &&& 255).toUInt32.toUInt16.toUInt32.toInt32) = (if (p4 &&& 2) = 0 then x103 else ((XT.ushr p3 8) &&& 255).toUInt32.toUInt16.toUInt32.toInt32) ∧ (¬ (if (p4 &&& 2) = 0 then x103 else ((XT.ushr p3 8) &&& 255).toUInt32.toUInt16.toUInt32.toInt32) < 0 ∧ ¬ 255 < (if (p4 &&& 2) = 0 then x103 else ((XT.ushr p3 8) &&& 255).toUInt32.toUInt16.toUInt32.toInt32)) := by
    split
    · exact ⟨nx103, rx103⟩
    · obtain ⟨z, ez, nz, rz⟩ := own_i2cm (XT.ushr p3 8); rw [ez]; exact ⟨nz, rz⟩
  generalize (if (p4 &&& 2) = 0 then x103 else ((XT.ushr p3 8) &&& 255).toUInt32.toUInt16.toUInt32.toInt32) = z110 at hz110 ⊢
  obtain ⟨nx110, rx110⟩ := hz110
  refine g_istore B W0 at_94  (l' := #[.val (.int p1), .val (.int p2), .val (.int p3), .val (.int p4), .val (.int p5), .val (.int l1), .val (.int l2), .val (.int x102), .val (.int x103), .val (.int x104), .val (.int z107), .val (.int z110), .unset, .unset, .unset, .unset, .unset, .unset, .unset]) rfl ?_
  refine g_iload_n B W0 at_96 rfl ?_
  refine g_iconst B W0 at_97 (v := 4) (by decide) ?_
  refine g_iand B W0 at_98  ?_
  suffices q : Go p.tables e below (Jvm.OwnK.Out Z s (Q_law Z p1 p2 p3 p4 p5 cz h0) room_1.cells room_1.slots) T0 (mkF m 116 #[.val (.int p1), .val (.int p2), .val (.int p3), .val (.int p4), .val (.int p5), .val (.int l1), .val (.int l2), .val (.int x102), .val (.int x103), .val (.int x104), .val (.int z107), .val (.int z110), .unset, .unset, .unset, .unset, .unset, .unset, .unset] [(.int (if (p4 &&& 4) = 0 then x104 else ((XT.ushr p3 16) &&& 255).toUInt32.toUInt16.toUInt32.toInt32))]) by
    by_cases hc111 : (p4 &&& 4) = 0
    · skip
      refine g_if_y B W0 at_99 (XT.i0_eq_t hc111) (pc' := 114) (by decide) ?_
      show Go p.tables e below _ T0 (mkF m 114 #[.val (.int p1), .val (.int p2), .val (.int p3), .val (.int p4), .val (.int p5), .val (.int l1), .val (.int l2), .val (.int x102), .val (.int x103), .val (.int x104), .val (.int z107), .val (.int z110), .unset, .unset, .unset, .unset, .unset, .unset, .unset] [])
      refine g_iload B W0 at_114 rfl ?_
      exact own_gc (by rw [if_pos hc111]) q
    · skip
      refine g_if_n B W0 at_99 (XT.i0_eq_f hc111) ?_
      show Go p.tables e below _ T0 (mkF m 102 #[.val (.int p1), .val (.int p2), .val (.int p3), .val (.int p4), .val (.int p5), .val (.int l1), .val (.int l2), .val (.int x102), .val (.int x103), .val (.int x104), .val (.int z107), .val (.int z110), .unset, .unset, .unset, .unset, .unset, .unset, .unset] [])
      refine g_iload_n B W0 at_102 rfl ?_
      refine g_bipush B W0 at_103 (v := 16) (by decide) ?_
      refine g_iushr B W0 at_105  ?_
      refine g_sipush B W0 at_106 (v := 255) (by decide) ?_
      refine g_iand B W0 at_109  ?_
      refine g_i2c B W0 at_110  ?_
      obtain ⟨x112, ex112, nx112, rx112⟩ := own_i2cm (XT.ushr p3 16)
      rw [ex112]
      refine g_goto B W0 at_111 (pc' := 116) (by decide) ?_
      show Go p.tables e below _ T0 (mkF m 116 #[.val (.int p1), .val (.int p2), .val (.int p3), .val (.int p4), .val (.int p5), .val (.int l1), .val (.int l2), .val (.int x102), .val (.int x103), .val (.int x104), .val (.int z107), .val (.int z110), .unset, .unset, .unset, .unset, .unset, .unset, .unset] [(.int x112)])
      exact own_gc (by rw [if_neg hc111]; exact ex112) q
  have hz113 : nar .char (if (p4 &&& 4) = 0 then x104 else ((XT.ushr p3 16) &&& 255).toUInt32.toUInt16.toUInt32.toInt32) = (if (p4 &&& 4) = 0 then x104 else ((XT.ushr p3 16) &&& 255).toUInt32.toUInt16.toUInt32.toInt32) ∧ (¬ (if (p4 &&& 4) = 0 then x104 else ((XT.ushr p3 16) &&& 255).toUInt32.toUInt16.toUInt32.toInt32) < 0 ∧ ¬ 255 < (if (p4 &&& 4) = 0 then x104 else ((XT.ushr p3 16) &&& 255).toUInt32.toUInt16.toUInt32.toInt32)) := by
    split
    · exact ⟨nx104, rx104⟩
    · obtain ⟨z, ez, nz, rz⟩ := own_i2cm (XT.ushr p3 16); rw [ez]; exact ⟨nz, rz⟩
  generalize (if (p4 &&& 4) = 0 then x104 else ((XT.ushr p3 16) &&& 255).toUInt32.toUInt16.toUInt32.toInt32) = z113 at hz113 ⊢
  obtain ⟨nx113, rx113⟩ := hz113
  refine g_istore B W0 at_116  (l' := #[.val (.int p1), .val (.int p2), .val (.int p3), .val (.int p4), .val (.int p5), .val (.int l1), .val (.int l2), .val (.int x102), .val (.int x103), .val (.int x104), .val (.int z107), .val (.int z110), .val (.int z113), .unset, .unset, .unset, .unset, .unset, .unset]) rfl ?_
  refine g_iload B W0 at_118 rfl ?_
  refine g_iload B W0 at_120 rfl ?_
  refine g_iload B W0 at_122 rfl ?_
  refine g_iload B W0 at_124 rfl ?_
  obtain ⟨T114, h114, v114, W114, Q114, st114⟩ := x_static B W0 [(.int l1), (.int x102), (.int x103), (.int x104)] (c_make l Z a0 hw l1 x102 x103 x104 cz h0 Scs hcz nx102 nx103 nx104 rx102 rx103 rx104) (by simp) at_126 (tw hw 0 rfl) (tw hw 1 rfl) (tw hw 2 rfl) (tw hw 3 rfl) (by decide) (lenOf pd__ICCC_Ljava_lang_String_ rfl) #[.val (.int p1), .val (.int p2), .val (.int p3), .val (.int p4), .val (.int p5), .val (.int l1), .val (.int l2), .val (.int x102), .val (.int x103), .val (.int x104), .val (.int z107), .val (.int z110), .val (.int z113), .unset, .unset, .unset, .unset, .unset, .unset] [] rfl 0 rfl (by decide) (by decide) (by decide) (by decide)
  obtain ⟨b114, rfl, K114, S114⟩ := Q114
  have s115 := K114.1
  refine st114 _ ?_
  have e114 := S114.exa
  have l114 := nlt e114.lt
  refine g_astore B W114 at_129 rfl (l' := #[.val (.int p1), .val (.int p2), .val (.int p3), .val (.int p4), .val (.int p5), .val (.int l1), .val (.int l2), .val (.int x102), .val (.int x103), .val (.int x104), .val (.int z107), .val (.int z110), .val (.int z113), .val (.ref b114), .unset, .unset, .unset, .unset, .unset]) rfl ?_
  refine g_iload B W114 at_131 rfl ?_
  refine g_iload B W114 at_133 rfl ?_
  refine g_iload B W114 at_135 rfl ?_
  refine g_iload B W114 at_137 rfl ?_
  obtain ⟨T116, h116, v116, W116, Q116, st116⟩ := x_static B W114 [(.int l2), (.int z107), (.int z110), (.int z113)] (c_make l Z a0 hw l2 z107 z110 z113 cz h114 Scs hcz nx107 nx110 nx113 rx107 rx110 rx113) (by simp) at_139 (tw hw 0 rfl) (tw hw 1 rfl) (tw hw 2 rfl) (tw hw 3 rfl) (by decide) (lenOf pd__ICCC_Ljava_lang_String_ rfl) #[.val (.int p1), .val (.int p2), .val (.int p3), .val (.int p4), .val (.int p5), .val (.int l1), .val (.int l2), .val (.int x102), .val (.int x103), .val (.int x104), .val (.int z107), .val (.int z110), .val (.int z113), .val (.ref b114), .unset, .unset, .unset, .unset, .unset] [] rfl 0 rfl (by decide) (by decide) (by decide) (by decide)
  obtain ⟨b116, rfl, K116, S116⟩ := Q116
  have s117 := K116.1
  refine st116 _ ?_
  have e116 := S116.exa
  have l116 := nlt e116.lt
  refine g_astore B W116 at_142 rfl (l' := #[.val (.int p1), .val (.int p2), .val (.int p3), .val (.int p4), .val (.int p5), .val (.int l1), .val (.int l2), .val (.int x102), .val (.int x103), .val (.int x104), .val (.int z107), .val (.int z110), .val (.int z113), .val (.ref b114), .val (.ref b116), .unset, .unset, .unset, .unset]) rfl ?_
  refine g_iload B W116 at_144 rfl ?_
  refine g_iload B W116 at_146 rfl ?_
  suffices q : Go p.tables e below (Jvm.OwnK.Out Z s (Q_law Z p1 p2 p3 p4 p5 cz h0) room_1.cells room_1.slots) T116 (mkF m 195 #[.val (.int p1), .val (.int p2), .val (.int p3), .val (.int p4), .val (.int p5), .val (.int l1), .val (.int l2), .val (.int x102), .val (.int x103), .val (.int x104), .val (.int z107), .val (.int z110), .val (.int z113), .val (.ref b114), .val (.ref b116), .unset, .unset, .unset, .unset] [(.int (bi (decide ((own_mk l1 x102 x103 x104) = (own_mk l2 z107 z110 z113)))))]) by
    by_cases hc118 : l1 = l2
    · skip
      refine g_icmp_n B W116 at_148 (XT.ii_ne_f hc118) ?_
      show Go p.tables e below _ T116 (mkF m 151 #[.val (.int p1), .val (.int p2), .val (.int p3), .val (.int p4), .val (.int p5), .val (.int l1), .val (.int l2), .val (.int x102), .val (.int x103), .val (.int x104), .val (.int z107), .val (.int z110), .val (.int z113), .val (.ref b114), .val (.ref b116), .unset, .unset, .unset, .unset] [])
      refine g_iload B W116 at_151 rfl ?_
      refine g_iconst B W116 at_153 (v := 1) (by decide) ?_
      by_cases hc119 : l1 < 1
      · skip
        refine g_icmp_y B W116 at_154 (XT.ii_lt_t hc119) (pc' := 164) (by decide) ?_
        show Go p.tables e below _ T116 (mkF m 164 #[.val (.int p1), .val (.int p2), .val (.int p3), .val (.int p4), .val (.int p5), .val (.int l1), .val (.int l2), .val (.int x102), .val (.int x103), .val (.int x104), .val (.int z107), .val (.int z110), .val (.int z113), .val (.ref b114), .val (.ref b116), .unset, .unset, .unset, .unset] [])
        refine g_iload B W116 at_164 rfl ?_
        refine g_iconst B W116 at_166 (v := 2) (by decide) ?_
        by_cases hc120 : l1 < 2
        · skip
          refine g_icmp_y B W116 at_167 (XT.ii_lt_t hc120) (pc' := 177) (by decide) ?_
          show Go p.tables e below _ T116 (mkF m 177 #[.val (.int p1), .val (.int p2), .val (.int p3), .val (.int p4), .val (.int p5), .val (.int l1), .val (.int l2), .val (.int x102), .val (.int x103), .val (.int x104), .val (.int z107), .val (.int z110), .val (.int z113), .val (.ref b114), .val (.ref b116), .unset, .unset, .unset, .unset] [])
          refine g_iload B W116 at_177 rfl ?_
          refine g_iconst B W116 at_179 (v := 3) (by decide) ?_
          by_cases hc121 : l1 < 3
          · skip
            refine g_icmp_y B W116 at_180 (XT.ii_lt_t hc121) (pc' := 190) (by decide) ?_
            show Go p.tables e below _ T116 (mkF m 190 #[.val (.int p1), .val (.int p2), .val (.int p3), .val (.int p4), .val (.int p5), .val (.int l1), .val (.int l2), .val (.int x102), .val (.int x103), .val (.int x104), .val (.int z107), .val (.int z110), .val (.int z113), .val (.ref b114), .val (.ref b116), .unset, .unset, .unset, .unset] [])
            refine g_iconst B W116 at_190 (v := 1) (by decide) ?_
            refine g_goto B W116 at_191 (pc' := 195) (by decide) ?_
            show Go p.tables e below _ T116 (mkF m 195 #[.val (.int p1), .val (.int p2), .val (.int p3), .val (.int p4), .val (.int p5), .val (.int l1), .val (.int l2), .val (.int x102), .val (.int x103), .val (.int x104), .val (.int z107), .val (.int z110), .val (.int z113), .val (.ref b114), .val (.ref b116), .unset, .unset, .unset, .unset] [(.int 1)])
            exact own_gc (by rw [show (decide ((own_mk l1 x102 x103 x104) = (own_mk l2 z107 z110 z113))) = true from decide_eq_true ((own_same hql1 hql2).mpr (by simp only [Int32.lt_iff_toInt_lt, ← Int32.toInt_inj, Int32.reduceToInt] at hc118 hc119 hc120 hc121 ⊢; omega))]; rfl) q
          · skip
            refine g_icmp_n B W116 at_180 (XT.ii_lt_f hc121) ?_
            show Go p.tables e below _ T116 (mkF m 183 #[.val (.int p1), .val (.int p2), .val (.int p3), .val (.int p4), .val (.int p5), .val (.int l1), .val (.int l2), .val (.int x102), .val (.int x103), .val (.int x104), .val (.int z107), .val (.int z110), .val (.int z113), .val (.ref b114), .val (.ref b116), .unset, .unset, .unset, .unset] [])
            refine g_iload B W116 at_183 rfl ?_
            refine g_iload B W116 at_185 rfl ?_
            by_cases hc122 : x104 = z113
            · skip
              refine g_icmp_n B W116 at_187 (XT.ii_ne_f hc122) ?_
              show Go p.tables e below _ T116 (mkF m 190 #[.val (.int p1), .val (.int p2), .val (.int p3), .val (.int p4), .val (.int p5), .val (.int l1), .val (.int l2), .val (.int x102), .val (.int x103), .val (.int x104), .val (.int z107), .val (.int z110), .val (.int z113), .val (.ref b114), .val (.ref b116), .unset, .unset, .unset, .unset] [])
              refine g_iconst B W116 at_190 (v := 1) (by decide) ?_
              refine g_goto B W116 at_191 (pc' := 195) (by decide) ?_
              show Go p.tables e below _ T116 (mkF m 195 #[.val (.int p1), .val (.int p2), .val (.int p3), .val (.int p4), .val (.int p5), .val (.int l1), .val (.int l2), .val (.int x102), .val (.int x103), .val (.int x104), .val (.int z107), .val (.int z110), .val (.int z113), .val (.ref b114), .val (.ref b116), .unset, .unset, .unset, .unset] [(.int 1)])
              exact own_gc (by rw [show (decide ((own_mk l1 x102 x103 x104) = (own_mk l2 z107 z110 z113))) = true from decide_eq_true ((own_same hql1 hql2).mpr (by simp only [Int32.lt_iff_toInt_lt, ← Int32.toInt_inj, Int32.reduceToInt] at hc118 hc119 hc120 hc121 hc122 ⊢; omega))]; rfl) q
            · skip
              refine g_icmp_y B W116 at_187 (XT.ii_ne_t hc122) (pc' := 194) (by decide) ?_
              show Go p.tables e below _ T116 (mkF m 194 #[.val (.int p1), .val (.int p2), .val (.int p3), .val (.int p4), .val (.int p5), .val (.int l1), .val (.int l2), .val (.int x102), .val (.int x103), .val (.int x104), .val (.int z107), .val (.int z110), .val (.int z113), .val (.ref b114), .val (.ref b116), .unset, .unset, .unset, .unset] [])
              refine g_iconst B W116 at_194 (v := 0) (by decide) ?_
              exact own_gc (by rw [show (decide ((own_mk l1 x102 x103 x104) = (own_mk l2 z107 z110 z113))) = false from decide_eq_false (fun q => absurd ((own_same hql1 hql2).mp q) (by simp only [Int32.lt_iff_toInt_lt, ← Int32.toInt_inj, Int32.reduceToInt] at hc118 hc119 hc120 hc121 hc122 ⊢; omega))]; rfl) q
        · skip
          refine g_icmp_n B W116 at_167 (XT.ii_lt_f hc120) ?_
          show Go p.tables e below _ T116 (mkF m 170 #[.val (.int p1), .val (.int p2), .val (.int p3), .val (.int p4), .val (.int p5), .val (.int l1), .val (.int l2), .val (.int x102), .val (.int x103), .val (.int x104), .val (.int z107), .val (.int z110), .val (.int z113), .val (.ref b114), .val (.ref b116), .unset, .unset, .unset, .unset] [])
          refine g_iload B W116 at_170 rfl ?_
          refine g_iload B W116 at_172 rfl ?_
          by_cases hc123 : x103 = z110
          · skip
            refine g_icmp_n B W116 at_174 (XT.ii_ne_f hc123) ?_
            show Go p.tables e below _ T116 (mkF m 177 #[.val (.int p1), .val (.int p2), .val (.int p3), .val (.int p4), .val (.int p5), .val (.int l1), .val (.int l2), .val (.int x102), .val (.int x103), .val (.int x104), .val (.int z107), .val (.int z110), .val (.int z113), .val (.ref b114), .val (.ref b116), .unset, .unset, .unset, .unset] [])
            refine g_iload B W116 at_177 rfl ?_
            refine g_iconst B W116 at_179 (v := 3) (by decide) ?_
            by_cases hc124 : l1 < 3
            · skip
              refine g_icmp_y B W116 at_180 (XT.ii_lt_t hc124) (pc' := 190) (by decide) ?_
              show Go p.tables e below _ T116 (mkF m 190 #[.val (.int p1), .val (.int p2), .val (.int p3), .val (.int p4), .val (.int p5), .val (.int l1), .val (.int l2), .val (.int x102), .val (.int x103), .val (.int x104), .val (.int z107), .val (.int z110), .val (.int z113), .val (.ref b114), .val (.ref b116), .unset, .unset, .unset, .unset] [])
              refine g_iconst B W116 at_190 (v := 1) (by decide) ?_
              refine g_goto B W116 at_191 (pc' := 195) (by decide) ?_
              show Go p.tables e below _ T116 (mkF m 195 #[.val (.int p1), .val (.int p2), .val (.int p3), .val (.int p4), .val (.int p5), .val (.int l1), .val (.int l2), .val (.int x102), .val (.int x103), .val (.int x104), .val (.int z107), .val (.int z110), .val (.int z113), .val (.ref b114), .val (.ref b116), .unset, .unset, .unset, .unset] [(.int 1)])
              exact own_gc (by rw [show (decide ((own_mk l1 x102 x103 x104) = (own_mk l2 z107 z110 z113))) = true from decide_eq_true ((own_same hql1 hql2).mpr (by simp only [Int32.lt_iff_toInt_lt, ← Int32.toInt_inj, Int32.reduceToInt] at hc118 hc119 hc120 hc123 hc124 ⊢; omega))]; rfl) q
            · skip
              refine g_icmp_n B W116 at_180 (XT.ii_lt_f hc124) ?_
              show Go p.tables e below _ T116 (mkF m 183 #[.val (.int p1), .val (.int p2), .val (.int p3), .val (.int p4), .val (.int p5), .val (.int l1), .val (.int l2), .val (.int x102), .val (.int x103), .val (.int x104), .val (.int z107), .val (.int z110), .val (.int z113), .val (.ref b114), .val (.ref b116), .unset, .unset, .unset, .unset] [])
              refine g_iload B W116 at_183 rfl ?_
              refine g_iload B W116 at_185 rfl ?_
              by_cases hc125 : x104 = z113
              · skip
                refine g_icmp_n B W116 at_187 (XT.ii_ne_f hc125) ?_
                show Go p.tables e below _ T116 (mkF m 190 #[.val (.int p1), .val (.int p2), .val (.int p3), .val (.int p4), .val (.int p5), .val (.int l1), .val (.int l2), .val (.int x102), .val (.int x103), .val (.int x104), .val (.int z107), .val (.int z110), .val (.int z113), .val (.ref b114), .val (.ref b116), .unset, .unset, .unset, .unset] [])
                refine g_iconst B W116 at_190 (v := 1) (by decide) ?_
                refine g_goto B W116 at_191 (pc' := 195) (by decide) ?_
                show Go p.tables e below _ T116 (mkF m 195 #[.val (.int p1), .val (.int p2), .val (.int p3), .val (.int p4), .val (.int p5), .val (.int l1), .val (.int l2), .val (.int x102), .val (.int x103), .val (.int x104), .val (.int z107), .val (.int z110), .val (.int z113), .val (.ref b114), .val (.ref b116), .unset, .unset, .unset, .unset] [(.int 1)])
                exact own_gc (by rw [show (decide ((own_mk l1 x102 x103 x104) = (own_mk l2 z107 z110 z113))) = true from decide_eq_true ((own_same hql1 hql2).mpr (by simp only [Int32.lt_iff_toInt_lt, ← Int32.toInt_inj, Int32.reduceToInt] at hc118 hc119 hc120 hc123 hc124 hc125 ⊢; omega))]; rfl) q
              · skip
                refine g_icmp_y B W116 at_187 (XT.ii_ne_t hc125) (pc' := 194) (by decide) ?_
                show Go p.tables e below _ T116 (mkF m 194 #[.val (.int p1), .val (.int p2), .val (.int p3), .val (.int p4), .val (.int p5), .val (.int l1), .val (.int l2), .val (.int x102), .val (.int x103), .val (.int x104), .val (.int z107), .val (.int z110), .val (.int z113), .val (.ref b114), .val (.ref b116), .unset, .unset, .unset, .unset] [])
                refine g_iconst B W116 at_194 (v := 0) (by decide) ?_
                exact own_gc (by rw [show (decide ((own_mk l1 x102 x103 x104) = (own_mk l2 z107 z110 z113))) = false from decide_eq_false (fun q => absurd ((own_same hql1 hql2).mp q) (by simp only [Int32.lt_iff_toInt_lt, ← Int32.toInt_inj, Int32.reduceToInt] at hc118 hc119 hc120 hc123 hc124 hc125 ⊢; omega))]; rfl) q
          · skip
            refine g_icmp_y B W116 at_174 (XT.ii_ne_t hc123) (pc' := 194) (by decide) ?_
            show Go p.tables e below _ T116 (mkF m 194 #[.val (.int p1), .val (.int p2), .val (.int p3), .val (.int p4), .val (.int p5), .val (.int l1), .val (.int l2), .val (.int x102), .val (.int x103), .val (.int x104), .val (.int z107), .val (.int z110), .val (.int z113), .val (.ref b114), .val (.ref b116), .unset, .unset, .unset, .unset] [])
            refine g_iconst B W116 at_194 (v := 0) (by decide) ?_
            exact own_gc (by rw [show (decide ((own_mk l1 x102 x103 x104) = (own_mk l2 z107 z110 z113))) = false from decide_eq_false (fun q => absurd ((own_same hql1 hql2).mp q) (by simp only [Int32.lt_iff_toInt_lt, ← Int32.toInt_inj, Int32.reduceToInt] at hc118 hc119 hc120 hc123 ⊢; omega))]; rfl) q
      · skip
        refine g_icmp_n B W116 at_154 (XT.ii_lt_f hc119) ?_
        show Go p.tables e below _ T116 (mkF m 157 #[.val (.int p1), .val (.int p2), .val (.int p3), .val (.int p4), .val (.int p5), .val (.int l1), .val (.int l2), .val (.int x102), .val (.int x103), .val (.int x104), .val (.int z107), .val (.int z110), .val (.int z113), .val (.ref b114), .val (.ref b116), .unset, .unset, .unset, .unset] [])
        refine g_iload B W116 at_157 rfl ?_
        refine g_iload B W116 at_159 rfl ?_
        by_cases hc126 : x102 = z107
        · skip
          refine g_icmp_n B W116 at_161 (XT.ii_ne_f hc126) ?_
          show Go p.tables e below _ T116 (mkF m 164 #[.val (.int p1), .val (.int p2), .val (.int p3), .val (.int p4), .val (.int p5), .val (.int l1), .val (.int l2), .val (.int x102), .val (.int x103), .val (.int x104), .val (.int z107), .val (.int z110), .val (.int z113), .val (.ref b114), .val (.ref b116), .unset, .unset, .unset, .unset] [])
          refine g_iload B W116 at_164 rfl ?_
          refine g_iconst B W116 at_166 (v := 2) (by decide) ?_
          by_cases hc127 : l1 < 2
          · skip
            refine g_icmp_y B W116 at_167 (XT.ii_lt_t hc127) (pc' := 177) (by decide) ?_
            show Go p.tables e below _ T116 (mkF m 177 #[.val (.int p1), .val (.int p2), .val (.int p3), .val (.int p4), .val (.int p5), .val (.int l1), .val (.int l2), .val (.int x102), .val (.int x103), .val (.int x104), .val (.int z107), .val (.int z110), .val (.int z113), .val (.ref b114), .val (.ref b116), .unset, .unset, .unset, .unset] [])
            refine g_iload B W116 at_177 rfl ?_
            refine g_iconst B W116 at_179 (v := 3) (by decide) ?_
            by_cases hc128 : l1 < 3
            · skip
              refine g_icmp_y B W116 at_180 (XT.ii_lt_t hc128) (pc' := 190) (by decide) ?_
              show Go p.tables e below _ T116 (mkF m 190 #[.val (.int p1), .val (.int p2), .val (.int p3), .val (.int p4), .val (.int p5), .val (.int l1), .val (.int l2), .val (.int x102), .val (.int x103), .val (.int x104), .val (.int z107), .val (.int z110), .val (.int z113), .val (.ref b114), .val (.ref b116), .unset, .unset, .unset, .unset] [])
              refine g_iconst B W116 at_190 (v := 1) (by decide) ?_
              refine g_goto B W116 at_191 (pc' := 195) (by decide) ?_
              show Go p.tables e below _ T116 (mkF m 195 #[.val (.int p1), .val (.int p2), .val (.int p3), .val (.int p4), .val (.int p5), .val (.int l1), .val (.int l2), .val (.int x102), .val (.int x103), .val (.int x104), .val (.int z107), .val (.int z110), .val (.int z113), .val (.ref b114), .val (.ref b116), .unset, .unset, .unset, .unset] [(.int 1)])
              exact own_gc (by rw [show (decide ((own_mk l1 x102 x103 x104) = (own_mk l2 z107 z110 z113))) = true from decide_eq_true ((own_same hql1 hql2).mpr (by simp only [Int32.lt_iff_toInt_lt, ← Int32.toInt_inj, Int32.reduceToInt] at hc118 hc119 hc126 hc127 hc128 ⊢; omega))]; rfl) q
            · skip
              refine g_icmp_n B W116 at_180 (XT.ii_lt_f hc128) ?_
              show Go p.tables e below _ T116 (mkF m 183 #[.val (.int p1), .val (.int p2), .val (.int p3), .val (.int p4), .val (.int p5), .val (.int l1), .val (.int l2), .val (.int x102), .val (.int x103), .val (.int x104), .val (.int z107), .val (.int z110), .val (.int z113), .val (.ref b114), .val (.ref b116), .unset, .unset, .unset, .unset] [])
              refine g_iload B W116 at_183 rfl ?_
              refine g_iload B W116 at_185 rfl ?_
              by_cases hc129 : x104 = z113
              · skip
                refine g_icmp_n B W116 at_187 (XT.ii_ne_f hc129) ?_
                show Go p.tables e below _ T116 (mkF m 190 #[.val (.int p1), .val (.int p2), .val (.int p3), .val (.int p4), .val (.int p5), .val (.int l1), .val (.int l2), .val (.int x102), .val (.int x103), .val (.int x104), .val (.int z107), .val (.int z110), .val (.int z113), .val (.ref b114), .val (.ref b116), .unset, .unset, .unset, .unset] [])
                refine g_iconst B W116 at_190 (v := 1) (by decide) ?_
                refine g_goto B W116 at_191 (pc' := 195) (by decide) ?_
                show Go p.tables e below _ T116 (mkF m 195 #[.val (.int p1), .val (.int p2), .val (.int p3), .val (.int p4), .val (.int p5), .val (.int l1), .val (.int l2), .val (.int x102), .val (.int x103), .val (.int x104), .val (.int z107), .val (.int z110), .val (.int z113), .val (.ref b114), .val (.ref b116), .unset, .unset, .unset, .unset] [(.int 1)])
                exact own_gc (by rw [show (decide ((own_mk l1 x102 x103 x104) = (own_mk l2 z107 z110 z113))) = true from decide_eq_true ((own_same hql1 hql2).mpr (by simp only [Int32.lt_iff_toInt_lt, ← Int32.toInt_inj, Int32.reduceToInt] at hc118 hc119 hc126 hc127 hc128 hc129 ⊢; omega))]; rfl) q
              · skip
                refine g_icmp_y B W116 at_187 (XT.ii_ne_t hc129) (pc' := 194) (by decide) ?_
                show Go p.tables e below _ T116 (mkF m 194 #[.val (.int p1), .val (.int p2), .val (.int p3), .val (.int p4), .val (.int p5), .val (.int l1), .val (.int l2), .val (.int x102), .val (.int x103), .val (.int x104), .val (.int z107), .val (.int z110), .val (.int z113), .val (.ref b114), .val (.ref b116), .unset, .unset, .unset, .unset] [])
                refine g_iconst B W116 at_194 (v := 0) (by decide) ?_
                exact own_gc (by rw [show (decide ((own_mk l1 x102 x103 x104) = (own_mk l2 z107 z110 z113))) = false from decide_eq_false (fun q => absurd ((own_same hql1 hql2).mp q) (by simp only [Int32.lt_iff_toInt_lt, ← Int32.toInt_inj, Int32.reduceToInt] at hc118 hc119 hc126 hc127 hc128 hc129 ⊢; omega))]; rfl) q
          · skip
            refine g_icmp_n B W116 at_167 (XT.ii_lt_f hc127) ?_
            show Go p.tables e below _ T116 (mkF m 170 #[.val (.int p1), .val (.int p2), .val (.int p3), .val (.int p4), .val (.int p5), .val (.int l1), .val (.int l2), .val (.int x102), .val (.int x103), .val (.int x104), .val (.int z107), .val (.int z110), .val (.int z113), .val (.ref b114), .val (.ref b116), .unset, .unset, .unset, .unset] [])
            refine g_iload B W116 at_170 rfl ?_
            refine g_iload B W116 at_172 rfl ?_
            by_cases hc130 : x103 = z110
            · skip
              refine g_icmp_n B W116 at_174 (XT.ii_ne_f hc130) ?_
              show Go p.tables e below _ T116 (mkF m 177 #[.val (.int p1), .val (.int p2), .val (.int p3), .val (.int p4), .val (.int p5), .val (.int l1), .val (.int l2), .val (.int x102), .val (.int x103), .val (.int x104), .val (.int z107), .val (.int z110), .val (.int z113), .val (.ref b114), .val (.ref b116), .unset, .unset, .unset, .unset] [])
              refine g_iload B W116 at_177 rfl ?_
              refine g_iconst B W116 at_179 (v := 3) (by decide) ?_
              by_cases hc131 : l1 < 3
              · skip
                refine g_icmp_y B W116 at_180 (XT.ii_lt_t hc131) (pc' := 190) (by decide) ?_
                show Go p.tables e below _ T116 (mkF m 190 #[.val (.int p1), .val (.int p2), .val (.int p3), .val (.int p4), .val (.int p5), .val (.int l1), .val (.int l2), .val (.int x102), .val (.int x103), .val (.int x104), .val (.int z107), .val (.int z110), .val (.int z113), .val (.ref b114), .val (.ref b116), .unset, .unset, .unset, .unset] [])
                refine g_iconst B W116 at_190 (v := 1) (by decide) ?_
                refine g_goto B W116 at_191 (pc' := 195) (by decide) ?_
                show Go p.tables e below _ T116 (mkF m 195 #[.val (.int p1), .val (.int p2), .val (.int p3), .val (.int p4), .val (.int p5), .val (.int l1), .val (.int l2), .val (.int x102), .val (.int x103), .val (.int x104), .val (.int z107), .val (.int z110), .val (.int z113), .val (.ref b114), .val (.ref b116), .unset, .unset, .unset, .unset] [(.int 1)])
                exact own_gc (by rw [show (decide ((own_mk l1 x102 x103 x104) = (own_mk l2 z107 z110 z113))) = true from decide_eq_true ((own_same hql1 hql2).mpr (by simp only [Int32.lt_iff_toInt_lt, ← Int32.toInt_inj, Int32.reduceToInt] at hc118 hc119 hc126 hc127 hc130 hc131 ⊢; omega))]; rfl) q
              · skip
                refine g_icmp_n B W116 at_180 (XT.ii_lt_f hc131) ?_
                show Go p.tables e below _ T116 (mkF m 183 #[.val (.int p1), .val (.int p2), .val (.int p3), .val (.int p4), .val (.int p5), .val (.int l1), .val (.int l2), .val (.int x102), .val (.int x103), .val (.int x104), .val (.int z107), .val (.int z110), .val (.int z113), .val (.ref b114), .val (.ref b116), .unset, .unset, .unset, .unset] [])
                refine g_iload B W116 at_183 rfl ?_
                refine g_iload B W116 at_185 rfl ?_
                by_cases hc132 : x104 = z113
                · skip
                  refine g_icmp_n B W116 at_187 (XT.ii_ne_f hc132) ?_
                  show Go p.tables e below _ T116 (mkF m 190 #[.val (.int p1), .val (.int p2), .val (.int p3), .val (.int p4), .val (.int p5), .val (.int l1), .val (.int l2), .val (.int x102), .val (.int x103), .val (.int x104), .val (.int z107), .val (.int z110), .val (.int z113), .val (.ref b114), .val (.ref b116), .unset, .unset, .unset, .unset] [])
                  refine g_iconst B W116 at_190 (v := 1) (by decide) ?_
                  refine g_goto B W116 at_191 (pc' := 195) (by decide) ?_
                  show Go p.tables e below _ T116 (mkF m 195 #[.val (.int p1), .val (.int p2), .val (.int p3), .val (.int p4), .val (.int p5), .val (.int l1), .val (.int l2), .val (.int x102), .val (.int x103), .val (.int x104), .val (.int z107), .val (.int z110), .val (.int z113), .val (.ref b114), .val (.ref b116), .unset, .unset, .unset, .unset] [(.int 1)])
                  exact own_gc (by rw [show (decide ((own_mk l1 x102 x103 x104) = (own_mk l2 z107 z110 z113))) = true from decide_eq_true ((own_same hql1 hql2).mpr (by simp only [Int32.lt_iff_toInt_lt, ← Int32.toInt_inj, Int32.reduceToInt] at hc118 hc119 hc126 hc127 hc130 hc131 hc132 ⊢; omega))]; rfl) q
                · skip
                  refine g_icmp_y B W116 at_187 (XT.ii_ne_t hc132) (pc' := 194) (by decide) ?_
                  show Go p.tables e below _ T116 (mkF m 194 #[.val (.int p1), .val (.int p2), .val (.int p3), .val (.int p4), .val (.int p5), .val (.int l1), .val (.int l2), .val (.int x102), .val (.int x103), .val (.int x104), .val (.int z107), .val (.int z110), .val (.int z113), .val (.ref b114), .val (.ref b116), .unset, .unset, .unset, .unset] [])
                  refine g_iconst B W116 at_194 (v := 0) (by decide) ?_
                  exact own_gc (by rw [show (decide ((own_mk l1 x102 x103 x104) = (own_mk l2 z107 z110 z113))) = false from decide_eq_false (fun q => absurd ((own_same hql1 hql2).mp q) (by simp only [Int32.lt_iff_toInt_lt, ← Int32.toInt_inj, Int32.reduceToInt] at hc118 hc119 hc126 hc127 hc130 hc131 hc132 ⊢; omega))]; rfl) q
            · skip
              refine g_icmp_y B W116 at_174 (XT.ii_ne_t hc130) (pc' := 194) (by decide) ?_
              show Go p.tables e below _ T116 (mkF m 194 #[.val (.int p1), .val (.int p2), .val (.int p3), .val (.int p4), .val (.int p5), .val (.int l1), .val (.int l2), .val (.int x102), .val (.int x103), .val (.int x104), .val (.int z107), .val (.int z110), .val (.int z113), .val (.ref b114), .val (.ref b116), .unset, .unset, .unset, .unset] [])
              refine g_iconst B W116 at_194 (v := 0) (by decide) ?_
              exact own_gc (by rw [show (decide ((own_mk l1 x102 x103 x104) = (own_mk l2 z107 z110 z113))) = false from decide_eq_false (fun q => absurd ((own_same hql1 hql2).mp q) (by simp only [Int32.lt_iff_toInt_lt, ← Int32.toInt_inj, Int32.reduceToInt] at hc118 hc119 hc126 hc127 hc130 ⊢; omega))]; rfl) q
        · skip
          refine g_icmp_y B W116 at_161 (XT.ii_ne_t hc126) (pc' := 194) (by decide) ?_
          show Go p.tables e below _ T116 (mkF m 194 #[.val (.int p1), .val (.int p2), .val (.int p3), .val (.int p4), .val (.int p5), .val (.int l1), .val (.int l2), .val (.int x102), .val (.int x103), .val (.int x104), .val (.int z107), .val (.int z110), .val (.int z113), .val (.ref b114), .val (.ref b116), .unset, .unset, .unset, .unset] [])
          refine g_iconst B W116 at_194 (v := 0) (by decide) ?_
          exact own_gc (by rw [show (decide ((own_mk l1 x102 x103 x104) = (own_mk l2 z107 z110 z113))) = false from decide_eq_false (fun q => absurd ((own_same hql1 hql2).mp q) (by simp only [Int32.lt_iff_toInt_lt, ← Int32.toInt_inj, Int32.reduceToInt] at hc118 hc119 hc126 ⊢; omega))]; rfl) q
    · skip
      refine g_icmp_y B W116 at_148 (XT.ii_ne_t hc118) (pc' := 194) (by decide) ?_
      show Go p.tables e below _ T116 (mkF m 194 #[.val (.int p1), .val (.int p2), .val (.int p3), .val (.int p4), .val (.int p5), .val (.int l1), .val (.int l2), .val (.int x102), .val (.int x103), .val (.int x104), .val (.int z107), .val (.int z110), .val (.int z113), .val (.ref b114), .val (.ref b116), .unset, .unset, .unset, .unset] [])
      refine g_iconst B W116 at_194 (v := 0) (by decide) ?_
      exact own_gc (by rw [show (decide ((own_mk l1 x102 x103 x104) = (own_mk l2 z107 z110 z113))) = false from decide_eq_false (fun q => absurd ((own_same hql1 hql2).mp q) (by simp only [Int32.lt_iff_toInt_lt, ← Int32.toInt_inj, Int32.reduceToInt] at hc118 ⊢; omega))]; rfl) q
  refine g_istore B W116 at_195  (l' := #[.val (.int p1), .val (.int p2), .val (.int p3), .val (.int p4), .val (.int p5), .val (.int l1), .val (.int l2), .val (.int x102), .val (.int x103), .val (.int x104), .val (.int z107), .val (.int z110), .val (.int z113), .val (.ref b114), .val (.ref b116), .val (.int (bi (decide ((own_mk l1 x102 x103 x104) = (own_mk l2 z107 z110 z113))))), .unset, .unset, .unset]) rfl ?_
  obtain ⟨T133, h133, b133, gb133, W133, K133, E133, D133, st133⟩ := x_new B W116 at_197 (tw hw 26 rfl) (tw hw 27 rfl) (tw hw 28 rfl) (by decide) (by decide) #[.val (.int p1), .val (.int p2), .val (.int p3), .val (.int p4), .val (.int p5), .val (.int l1), .val (.int l2), .val (.int x102), .val (.int x103), .val (.int x104), .val (.int z107), .val (.int z110), .val (.int z113), .val (.ref b114), .val (.ref b116), .val (.int (bi (decide ((own_mk l1 x102 x103 x104) = (own_mk l2 z107 z110 z113))))), .unset, .unset, .unset] []
  have l133 := nlt E133.lt
  have z133 := W116.size
  refine st133 _ ?_
  have s134 := K133.1
  have f135 : Fld Z h133 b133 "com/example/dragoman/dragoman/cq/Iri" "value" "Ljava/lang/String;" .null := D133 (Or.inr (tw hw 40 rfl)) (ty := (.object "java/lang/String")) (by decide)
  refine g_dup B W133 at_200 rfl ?_
  refine g_aload B W133 at_201 rfl rfl ?_
  have f136 := ((e114.keep K116).keep K133)
  obtain ⟨T137, h137, v137, W137, Q137, st137⟩ := x_special B W133 (b := b133) [(.ref b114)] (c_iIri l Z a0 hw b133 b114 h133 E133 f135 f136 (by omega)) (by simp) at_203 rfl (tw hw 29 rfl) (tw hw 30 rfl) (tw hw 28 rfl) (tw hw 31 rfl) (by decide) (lenOf pd__Ljava_lang_String__V rfl) #[.val (.int p1), .val (.int p2), .val (.int p3), .val (.int p4), .val (.int p5), .val (.int l1), .val (.int l2), .val (.int x102), .val (.int x103), .val (.int x104), .val (.int z107), .val (.int z110), .val (.int z113), .val (.ref b114), .val (.ref b116), .val (.int (bi (decide ((own_mk l1 x102 x103 x104) = (own_mk l2 z107 z110 z113))))), .unset, .unset, .unset] [(.ref b133)] rfl 1 rfl (by decide) (by decide) (by decide) (by decide)
  obtain ⟨rfl, K137, E137, F137⟩ := Q137
  have s138 := K137.1
  refine st137 _ ?_
  refine g_astore B W137 at_206 rfl (l' := #[.val (.int p1), .val (.int p2), .val (.int p3), .val (.int p4), .val (.int p5), .val (.int l1), .val (.int l2), .val (.int x102), .val (.int x103), .val (.int x104), .val (.int z107), .val (.int z110), .val (.int z113), .val (.ref b114), .val (.ref b116), .val (.int (bi (decide ((own_mk l1 x102 x103 x104) = (own_mk l2 z107 z110 z113))))), .val (.ref b133), .unset, .unset]) rfl ?_
  refine g_iload B W137 at_208 rfl ?_
  refine g_ldcI B W137 at_210 (tw hw 41 rfl) ?_
  refine g_iand B W137 at_212  ?_
  refine g_bipush B W137 at_213 (v := 6) (by decide) ?_
  refine g_irem B W137 at_215 (by decide) ?_
  generalize ey139 : ((p5 &&& 2147483647) % 6) = k139
  show Go p.tables e below _ T137 (mkF m 216 #[.val (.int p1), .val (.int p2), .val (.int p3), .val (.int p4), .val (.int p5), .val (.int l1), .val (.int l2), .val (.int x102), .val (.int x103), .val (.int x104), .val (.int z107), .val (.int z110), .val (.int z113), .val (.ref b114), .val (.ref b116), .val (.int (bi (decide ((own_mk l1 x102 x103 x104) = (own_mk l2 z107 z110 z113))))), .val (.ref b133), .unset, .unset] [(.int k139)])
  refine g_istore B W137 at_216  (l' := #[.val (.int p1), .val (.int p2), .val (.int p3), .val (.int p4), .val (.int p5), .val (.int l1), .val (.int l2), .val (.int x102), .val (.int x103), .val (.int x104), .val (.int z107), .val (.int z110), .val (.int z113), .val (.ref b114), .val (.ref b116), .val (.int (bi (decide ((own_mk l1 x102 x103 x104) = (own_mk l2 z107 z110 z113))))), .val (.ref b133), .val (.int k139), .unset]) rfl ?_
  refine g_iload B W137 at_218 rfl ?_
  by_cases hc140 : k139 = 0
  · skip
    refine g_if_n B W137 at_220 (XT.i0_ne_f hc140) ?_
    show Go p.tables e below _ T137 (mkF m 223 #[.val (.int p1), .val (.int p2), .val (.int p3), .val (.int p4), .val (.int p5), .val (.int l1), .val (.int l2), .val (.int x102), .val (.int x103), .val (.int x104), .val (.int z107), .val (.int z110), .val (.int z113), .val (.ref b114), .val (.ref b116), .val (.int (bi (decide ((own_mk l1 x102 x103 x104) = (own_mk l2 z107 z110 z113))))), .val (.ref b133), .val (.int k139), .unset] [])
    obtain ⟨T141, h141, b141, gb141, W141, K141, E141, D141, st141⟩ := x_new B W137 at_223 (tw hw 26 rfl) (tw hw 27 rfl) (tw hw 28 rfl) (by decide) (by decide) #[.val (.int p1), .val (.int p2), .val (.int p3), .val (.int p4), .val (.int p5), .val (.int l1), .val (.int l2), .val (.int x102), .val (.int x103), .val (.int x104), .val (.int z107), .val (.int z110), .val (.int z113), .val (.ref b114), .val (.ref b116), .val (.int (bi (decide ((own_mk l1 x102 x103 x104) = (own_mk l2 z107 z110 z113))))), .val (.ref b133), .val (.int k139), .unset] []
    have l141 := nlt E141.lt
    have z141 := W137.size
    refine st141 _ ?_
    have s142 := K141.1
    have f143 : Fld Z h141 b141 "com/example/dragoman/dragoman/cq/Iri" "value" "Ljava/lang/String;" .null := D141 (Or.inr (tw hw 40 rfl)) (ty := (.object "java/lang/String")) (by decide)
    refine g_dup B W141 at_226 rfl ?_
    refine g_aload B W141 at_227 rfl rfl ?_
    have f144 := (((e116.keep K133).keep K137).keep K141)
    obtain ⟨T145, h145, v145, W145, Q145, st145⟩ := x_special B W141 (b := b141) [(.ref b116)] (c_iIri l Z a0 hw b141 b116 h141 E141 f143 f144 (by omega)) (by simp) at_229 rfl (tw hw 29 rfl) (tw hw 30 rfl) (tw hw 28 rfl) (tw hw 31 rfl) (by decide) (lenOf pd__Ljava_lang_String__V rfl) #[.val (.int p1), .val (.int p2), .val (.int p3), .val (.int p4), .val (.int p5), .val (.int l1), .val (.int l2), .val (.int x102), .val (.int x103), .val (.int x104), .val (.int z107), .val (.int z110), .val (.int z113), .val (.ref b114), .val (.ref b116), .val (.int (bi (decide ((own_mk l1 x102 x103 x104) = (own_mk l2 z107 z110 z113))))), .val (.ref b133), .val (.int k139), .unset] [(.ref b141)] rfl 1 rfl (by decide) (by decide) (by decide) (by decide)
    obtain ⟨rfl, K145, E145, F145⟩ := Q145
    have s146 := K145.1
    refine st145 _ ?_
    refine g_astore B W145 at_232 rfl (l' := #[.val (.int p1), .val (.int p2), .val (.int p3), .val (.int p4), .val (.int p5), .val (.int l1), .val (.int l2), .val (.int x102), .val (.int x103), .val (.int x104), .val (.int z107), .val (.int z110), .val (.int z113), .val (.ref b114), .val (.ref b116), .val (.int (bi (decide ((own_mk l1 x102 x103 x104) = (own_mk l2 z107 z110 z113))))), .val (.ref b133), .val (.int k139), .val (.ref b141)]) rfl ?_
    refine g_aload B W145 at_234 rfl rfl ?_
    refine g_aload B W145 at_236 rfl rfl ?_
    have f147 := (F137.keep K141 nin0)
    have f148 := (f147.keep K145 (ninS (nne (by have q := nlt f147.lt; omega)) nin0))
    have f149 := (S114.keep ((((((Keep.refl h114 []).trans K116 all0).trans K133 all0).trans K137 (allS (Or.inr (by omega)) all0)).trans K141 all0).trans K145 (allS (Or.inr (by omega)) all0)))
    have f150 := (S116.keep (((((Keep.refl h116 []).trans K133 all0).trans K137 (allS (Or.inr (by omega)) all0)).trans K141 all0).trans K145 (allS (Or.inr (by omega)) all0)))
    have f152 := ((E137.keep K141).keep K145)
    obtain ⟨T151, h151, v151, W151, Q151, st151⟩ := x_virtual B W145 (b := b133) [(.ref b141)] (c_eqIri l Z a0 hw b133 b141 b114 b116 (own_mk l1 x102 x103 x104) (own_mk l2 z107 z110 z113) cz h145 Scs hcz E145 f148 F145 f149 f150) (by simp) f152 at_238 (tw hw 42 rfl) (tw hw 43 rfl) (tw hw 45 rfl) (tw hw 44 rfl) (tw hw 28 rfl) (tw hw 46 rfl) (by decide) (lenOf pd__Ljava_lang_Object__Z rfl) #[.val (.int p1), .val (.int p2), .val (.int p3), .val (.int p4), .val (.int p5), .val (.int l1), .val (.int l2), .val (.int x102), .val (.int x103), .val (.int x104), .val (.int z107), .val (.int z110), .val (.int z113), .val (.ref b114), .val (.ref b116), .val (.int (bi (decide ((own_mk l1 x102 x103 x104) = (own_mk l2 z107 z110 z113))))), .val (.ref b133), .val (.int k139), .val (.ref b141)] [] rfl 0 rfl (by decide) (by decide) (by decide) (by decide)
    obtain ⟨rfl, rfl⟩ := Q151
    refine st151 _ ?_
    refine g_iload B W151 at_241 rfl ?_
    refine g_icmp_n B W151 at_243 (XT.ii_ne_f (by rw [bi_inj, decide_eq_decide]; exact eq_comm)) ?_
    show Go p.tables e below _ T151 (mkF m 246 #[.val (.int p1), .val (.int p2), .val (.int p3), .val (.int p4), .val (.int p5), .val (.int l1), .val (.int l2), .val (.int x102), .val (.int x103), .val (.int x104), .val (.int z107), .val (.int z110), .val (.int z113), .val (.ref b114), .val (.ref b116), .val (.int (bi (decide ((own_mk l1 x102 x103 x104) = (own_mk l2 z107 z110 z113))))), .val (.ref b133), .val (.int k139), .val (.ref b141)] [])
    refine g_aload B W151 at_246 rfl rfl ?_
    refine g_aload B W151 at_248 rfl rfl ?_
    obtain ⟨T153, h153, v153, W153, Q153, st153⟩ := x_virtual B W151 (b := b141) [(.ref b133)] (c_eqIri l Z a0 hw b141 b133 b116 b114 (own_mk l2 z107 z110 z113) (own_mk l1 x102 x103 x104) cz h145 Scs hcz f152 F145 f148 f150 f149) (by simp) E145 at_250 (tw hw 42 rfl) (tw hw 43 rfl) (tw hw 45 rfl) (tw hw 44 rfl) (tw hw 28 rfl) (tw hw 46 rfl) (by decide) (lenOf pd__Ljava_lang_Object__Z rfl) #[.val (.int p1), .val (.int p2), .val (.int p3), .val (.int p4), .val (.int p5), .val (.int l1), .val (.int l2), .val (.int x102), .val (.int x103), .val (.int x104), .val (.int z107), .val (.int z110), .val (.int z113), .val (.ref b114), .val (.ref b116), .val (.int (bi (decide ((own_mk l1 x102 x103 x104) = (own_mk l2 z107 z110 z113))))), .val (.ref b133), .val (.int k139), .val (.ref b141)] [] rfl 0 rfl (by decide) (by decide) (by decide) (by decide)
    obtain ⟨rfl, rfl⟩ := Q153
    refine st153 _ ?_
    refine g_iload B W153 at_253 rfl ?_
    refine g_diab (decide ((bi (decide ((own_mk l1 x102 x103 x104) = (own_mk l2 z107 z110 z113)))) = (bi (decide ((own_mk l1 x102 x103 x104) = (own_mk l2 z107 z110 z113)))))) (m := m) (ls := #[.val (.int p1), .val (.int p2), .val (.int p3), .val (.int p4), .val (.int p5), .val (.int l1), .val (.int l2), .val (.int x102), .val (.int x103), .val (.int x104), .val (.int z107), .val (.int z110), .val (.int z113), .val (.ref b114), .val (.ref b116), .val (.int (bi (decide ((own_mk l1 x102 x103 x104) = (own_mk l2 z107 z110 z113))))), .val (.ref b133), .val (.int k139), .val (.ref b141)]) (st := []) (pc' := 263) (fun hd1 q => ?_) (fun hd1 q => ?_) ?_
    · refine g_icmp_n B W153 at_255 (XT.ii_ne_f (of_decide_eq_true hd1)) ?_
      refine g_iconst B W153 at_258 (v := 1) (by decide) ?_
      exact g_goto B W153 at_259 (pc' := 263) (by decide) q
    · refine g_icmp_y B W153 at_255 (XT.ii_ne_t (of_decide_eq_false hd1)) (pc' := 262) (by decide) ?_
      exact g_iconst B W153 at_262 (v := 0) (by decide) q
    show Go p.tables e below _ T153 (mkF m 263 #[.val (.int p1), .val (.int p2), .val (.int p3), .val (.int p4), .val (.int p5), .val (.int l1), .val (.int l2), .val (.int x102), .val (.int x103), .val (.int x104), .val (.int z107), .val (.int z110), .val (.int z113), .val (.ref b114), .val (.ref b116), .val (.int (bi (decide ((own_mk l1 x102 x103 x104) = (own_mk l2 z107 z110 z113))))), .val (.ref b133), .val (.int k139), .val (.ref b141)] [(.int (bi (decide ((bi (decide ((own_mk l1 x102 x103 x104) = (own_mk l2 z107 z110 z113)))) = (bi (decide ((own_mk l1 x102 x103 x104) = (own_mk l2 z107 z110 z113))))))))])
    exact r_b B W153 at_263 (by decide) (by decide) (by show some (Value.int (bi (decide ((bi (decide ((own_mk l1 x102 x103 x104) = (own_mk l2 z107 z110 z113)))) = (bi (decide ((own_mk l1 x102 x103 x104) = (own_mk l2 z107 z110 z113)))))))) = some (.int 1); rw [show (decide ((bi (decide ((own_mk l1 x102 x103 x104) = (own_mk l2 z107 z110 z113)))) = (bi (decide ((own_mk l1 x102 x103 x104) = (own_mk l2 z107 z110 z113)))))) = true by simp]; rfl)
  · skip
    refine g_if_y B W137 at_220 (XT.i0_ne_t hc140) (pc' := 264) (by decide) ?_
    show Go p.tables e below _ T137 (mkF m 264 #[.val (.int p1), .val (.int p2), .val (.int p3), .val (.int p4), .val (.int p5), .val (.int l1), .val (.int l2), .val (.int x102), .val (.int x103), .val (.int x104), .val (.int z107), .val (.int z110), .val (.int z113), .val (.ref b114), .val (.ref b116), .val (.int (bi (decide ((own_mk l1 x102 x103 x104) = (own_mk l2 z107 z110 z113))))), .val (.ref b133), .val (.int k139), .unset] [])
    refine g_iload B W137 at_264 rfl ?_
    refine g_iconst B W137 at_266 (v := 1) (by decide) ?_
    by_cases hc154 : k139 = 1
    · skip
      refine g_icmp_n B W137 at_267 (XT.ii_ne_f hc154) ?_
      show Go p.tables e below _ T137 (mkF m 270 #[.val (.int p1), .val (.int p2), .val (.int p3), .val (.int p4), .val (.int p5), .val (.int l1), .val (.int l2), .val (.int x102), .val (.int x103), .val (.int x104), .val (.int z107), .val (.int z110), .val (.int z113), .val (.ref b114), .val (.ref b116), .val (.int (bi (decide ((own_mk l1 x102 x103 x104) = (own_mk l2 z107 z110 z113))))), .val (.ref b133), .val (.int k139), .unset] [])
      refine g_aload B W137 at_270 rfl rfl ?_
      obtain ⟨T155, h155, b155, gb155, W155, K155, E155, D155, st155⟩ := x_new B W137 at_272 (tw hw 70 rfl) (tw hw 71 rfl) (tw hw 72 rfl) (by decide) (by decide) #[.val (.int p1), .val (.int p2), .val (.int p3), .val (.int p4), .val (.int p5), .val (.int l1), .val (.int l2), .val (.int x102), .val (.int x103), .val (.int x104), .val (.int z107), .val (.int z110), .val (.int z113), .val (.ref b114), .val (.ref b116), .val (.int (bi (decide ((own_mk l1 x102 x103 x104) = (own_mk l2 z107 z110 z113))))), .val (.ref b133), .val (.int k139), .unset] [(.ref b133)]
      have l155 := nlt E155.lt
      have z155 := W137.size
      refine st155 _ ?_
      have s156 := K155.1
      have f157 : Fld Z h155 b155 "com/example/dragoman/dragoman/cq/Variable" "name" "Ljava/lang/String;" .null := D155 (Or.inr (tw hw 81 rfl)) (ty := (.object "java/lang/String")) (by decide)
      refine g_dup B W155 at_275 rfl ?_
      refine g_aload B W155 at_276 rfl rfl ?_
      have f158 := (((e116.keep K133).keep K137).keep K155)
      obtain ⟨T159, h159, v159, W159, Q159, st159⟩ := x_special B W155 (b := b155) [(.ref b116)] (c_iVariable l Z a0 hw b155 b116 h155 E155 f157 f158 (by omega)) (by simp) at_278 rfl (tw hw 73 rfl) (tw hw 74 rfl) (tw hw 72 rfl) (tw hw 75 rfl) (by decide) (lenOf pd__Ljava_lang_String__V rfl) #[.val (.int p1), .val (.int p2), .val (.int p3), .val (.int p4), .val (.int p5), .val (.int l1), .val (.int l2), .val (.int x102), .val (.int x103), .val (.int x104), .val (.int z107), .val (.int z110), .val (.int z113), .val (.ref b114), .val (.ref b116), .val (.int (bi (decide ((own_mk l1 x102 x103 x104) = (own_mk l2 z107 z110 z113))))), .val (.ref b133), .val (.int k139), .unset] [(.ref b155), (.ref b133)] rfl 2 rfl (by decide) (by decide) (by decide) (by decide)
      obtain ⟨rfl, K159, E159, F159⟩ := Q159
      have s160 := K159.1
      refine st159 _ ?_
      have f162 := ((E137.keep K155).keep K159)
      obtain ⟨T161, h161, v161, W161, Q161, st161⟩ := x_virtual B W159 (b := b133) [(.ref b155)] (c_eqIri_Variable l Z a0 hw b133 b155 h159 E159) (by simp) f162 at_281 (tw hw 42 rfl) (tw hw 43 rfl) (tw hw 45 rfl) (tw hw 44 rfl) (tw hw 28 rfl) (tw hw 46 rfl) (by decide) (lenOf pd__Ljava_lang_Object__Z rfl) #[.val (.int p1), .val (.int p2), .val (.int p3), .val (.int p4), .val (.int p5), .val (.int l1), .val (.int l2), .val (.int x102), .val (.int x103), .val (.int x104), .val (.int z107), .val (.int z110), .val (.int z113), .val (.ref b114), .val (.ref b116), .val (.int (bi (decide ((own_mk l1 x102 x103 x104) = (own_mk l2 z107 z110 z113))))), .val (.ref b133), .val (.int k139), .unset] [] rfl 0 rfl (by decide) (by decide) (by decide) (by decide)
      obtain ⟨rfl, rfl⟩ := Q161
      refine st161 _ ?_
      refine g_diab (!false) (m := m) (ls := #[.val (.int p1), .val (.int p2), .val (.int p3), .val (.int p4), .val (.int p5), .val (.int l1), .val (.int l2), .val (.int x102), .val (.int x103), .val (.int x104), .val (.int z107), .val (.int z110), .val (.int z113), .val (.ref b114), .val (.ref b116), .val (.int (bi (decide ((own_mk l1 x102 x103 x104) = (own_mk l2 z107 z110 z113))))), .val (.ref b133), .val (.int k139), .unset]) (st := []) (pc' := 292) (fun hd1 q => ?_) (fun hd1 q => ?_) ?_
      · refine g_if_n B W161 at_284 (XT.i0_ne_f (bi_f (by simpa using hd1))) ?_
        refine g_iconst B W161 at_287 (v := 1) (by decide) ?_
        exact g_goto B W161 at_288 (pc' := 292) (by decide) q
      · refine g_if_y B W161 at_284 (XT.i0_ne_t (bi_t (by simpa using hd1))) (pc' := 291) (by decide) ?_
        exact g_iconst B W161 at_291 (v := 0) (by decide) q
      show Go p.tables e below _ T161 (mkF m 292 #[.val (.int p1), .val (.int p2), .val (.int p3), .val (.int p4), .val (.int p5), .val (.int l1), .val (.int l2), .val (.int x102), .val (.int x103), .val (.int x104), .val (.int z107), .val (.int z110), .val (.int z113), .val (.ref b114), .val (.ref b116), .val (.int (bi (decide ((own_mk l1 x102 x103 x104) = (own_mk l2 z107 z110 z113))))), .val (.ref b133), .val (.int k139), .unset] [(.int (bi (!false)))])
      exact r_b B W161 at_292 (by decide) (by decide) (by show some (Value.int (bi (!false))) = some (.int 1); rw [show (!false) = true by simp]; rfl)
    · skip
      refine g_icmp_y B W137 at_267 (XT.ii_ne_t hc154) (pc' := 293) (by decide) ?_
      show Go p.tables e below _ T137 (mkF m 293 #[.val (.int p1), .val (.int p2), .val (.int p3), .val (.int p4), .val (.int p5), .val (.int l1), .val (.int l2), .val (.int x102), .val (.int x103), .val (.int x104), .val (.int z107), .val (.int z110), .val (.int z113), .val (.ref b114), .val (.ref b116), .val (.int (bi (decide ((own_mk l1 x102 x103 x104) = (own_mk l2 z107 z110 z113))))), .val (.ref b133), .val (.int k139), .unset] [])
      refine g_iload B W137 at_293 rfl ?_
      refine g_iconst B W137 at_295 (v := 2) (by decide) ?_
      by_cases hc163 : k139 = 2
      · skip
        refine g_icmp_n B W137 at_296 (XT.ii_ne_f hc163) ?_
        show Go p.tables e below _ T137 (mkF m 299 #[.val (.int p1), .val (.int p2), .val (.int p3), .val (.int p4), .val (.int p5), .val (.int l1), .val (.int l2), .val (.int x102), .val (.int x103), .val (.int x104), .val (.int z107), .val (.int z110), .val (.int z113), .val (.ref b114), .val (.ref b116), .val (.int (bi (decide ((own_mk l1 x102 x103 x104) = (own_mk l2 z107 z110 z113))))), .val (.ref b133), .val (.int k139), .unset] [])
        refine g_aload B W137 at_299 rfl rfl ?_
        refine g_aconst_null B W137 at_301  ?_
        obtain ⟨T164, h164, v164, W164, Q164, st164⟩ := x_virtual B W137 (b := b133) [.null] (c_eqIri_null l Z a0 hw b133 h137) (by simp) E137 at_302 (tw hw 42 rfl) (tw hw 43 rfl) (tw hw 45 rfl) (tw hw 44 rfl) (tw hw 28 rfl) (tw hw 46 rfl) (by decide) (lenOf pd__Ljava_lang_Object__Z rfl) #[.val (.int p1), .val (.int p2), .val (.int p3), .val (.int p4), .val (.int p5), .val (.int l1), .val (.int l2), .val (.int x102), .val (.int x103), .val (.int x104), .val (.int z107), .val (.int z110), .val (.int z113), .val (.ref b114), .val (.ref b116), .val (.int (bi (decide ((own_mk l1 x102 x103 x104) = (own_mk l2 z107 z110 z113))))), .val (.ref b133), .val (.int k139), .unset] [] rfl 0 rfl (by decide) (by decide) (by decide) (by decide)
        obtain ⟨rfl, rfl⟩ := Q164
        refine st164 _ ?_
        refine g_diab (!false) (m := m) (ls := #[.val (.int p1), .val (.int p2), .val (.int p3), .val (.int p4), .val (.int p5), .val (.int l1), .val (.int l2), .val (.int x102), .val (.int x103), .val (.int x104), .val (.int z107), .val (.int z110), .val (.int z113), .val (.ref b114), .val (.ref b116), .val (.int (bi (decide ((own_mk l1 x102 x103 x104) = (own_mk l2 z107 z110 z113))))), .val (.ref b133), .val (.int k139), .unset]) (st := []) (pc' := 313) (fun hd1 q => ?_) (fun hd1 q => ?_) ?_
        · refine g_if_n B W164 at_305 (XT.i0_ne_f (bi_f (by simpa using hd1))) ?_
          refine g_iconst B W164 at_308 (v := 1) (by decide) ?_
          exact g_goto B W164 at_309 (pc' := 313) (by decide) q
        · refine g_if_y B W164 at_305 (XT.i0_ne_t (bi_t (by simpa using hd1))) (pc' := 312) (by decide) ?_
          exact g_iconst B W164 at_312 (v := 0) (by decide) q
        show Go p.tables e below _ T164 (mkF m 313 #[.val (.int p1), .val (.int p2), .val (.int p3), .val (.int p4), .val (.int p5), .val (.int l1), .val (.int l2), .val (.int x102), .val (.int x103), .val (.int x104), .val (.int z107), .val (.int z110), .val (.int z113), .val (.ref b114), .val (.ref b116), .val (.int (bi (decide ((own_mk l1 x102 x103 x104) = (own_mk l2 z107 z110 z113))))), .val (.ref b133), .val (.int k139), .unset] [(.int (bi (!false)))])
        exact r_b B W164 at_313 (by decide) (by decide) (by show some (Value.int (bi (!false))) = some (.int 1); rw [show (!false) = true by simp]; rfl)
      · skip
        refine g_icmp_y B W137 at_296 (XT.ii_ne_t hc163) (pc' := 314) (by decide) ?_
        show Go p.tables e below _ T137 (mkF m 314 #[.val (.int p1), .val (.int p2), .val (.int p3), .val (.int p4), .val (.int p5), .val (.int l1), .val (.int l2), .val (.int x102), .val (.int x103), .val (.int x104), .val (.int z107), .val (.int z110), .val (.int z113), .val (.ref b114), .val (.ref b116), .val (.int (bi (decide ((own_mk l1 x102 x103 x104) = (own_mk l2 z107 z110 z113))))), .val (.ref b133), .val (.int k139), .unset] [])
        refine g_iload B W137 at_314 rfl ?_
        refine g_iconst B W137 at_316 (v := 3) (by decide) ?_
        by_cases hc165 : k139 = 3
        · skip
          refine g_icmp_n B W137 at_317 (XT.ii_ne_f hc165) ?_
          show Go p.tables e below _ T137 (mkF m 320 #[.val (.int p1), .val (.int p2), .val (.int p3), .val (.int p4), .val (.int p5), .val (.int l1), .val (.int l2), .val (.int x102), .val (.int x103), .val (.int x104), .val (.int z107), .val (.int z110), .val (.int z113), .val (.ref b114), .val (.ref b116), .val (.int (bi (decide ((own_mk l1 x102 x103 x104) = (own_mk l2 z107 z110 z113))))), .val (.ref b133), .val (.int k139), .unset] [])
          refine g_aload B W137 at_320 rfl rfl ?_
          refine g_aload B W137 at_322 rfl rfl ?_
          have f166 := ((e116.keep K133).keep K137)
          obtain ⟨T167, h167, v167, W167, Q167, st167⟩ := x_virtual B W137 (b := b133) [(.ref b116)] (c_eqIri_String l Z a0 hw b133 b116 h137 f166) (by simp) E137 at_324 (tw hw 42 rfl) (tw hw 43 rfl) (tw hw 45 rfl) (tw hw 44 rfl) (tw hw 28 rfl) (tw hw 46 rfl) (by decide) (lenOf pd__Ljava_lang_Object__Z rfl) #[.val (.int p1), .val (.int p2), .val (.int p3), .val (.int p4), .val (.int p5), .val (.int l1), .val (.int l2), .val (.int x102), .val (.int x103), .val (.int x104), .val (.int z107), .val (.int z110), .val (.int z113), .val (.ref b114), .val (.ref b116), .val (.int (bi (decide ((own_mk l1 x102 x103 x104) = (own_mk l2 z107 z110 z113))))), .val (.ref b133), .val (.int k139), .unset] [] rfl 0 rfl (by decide) (by decide) (by decide) (by decide)
          obtain ⟨rfl, rfl⟩ := Q167
          refine st167 _ ?_
          refine g_diab (!false) (m := m) (ls := #[.val (.int p1), .val (.int p2), .val (.int p3), .val (.int p4), .val (.int p5), .val (.int l1), .val (.int l2), .val (.int x102), .val (.int x103), .val (.int x104), .val (.int z107), .val (.int z110), .val (.int z113), .val (.ref b114), .val (.ref b116), .val (.int (bi (decide ((own_mk l1 x102 x103 x104) = (own_mk l2 z107 z110 z113))))), .val (.ref b133), .val (.int k139), .unset]) (st := []) (pc' := 335) (fun hd1 q => ?_) (fun hd1 q => ?_) ?_
          · refine g_if_n B W167 at_327 (XT.i0_ne_f (bi_f (by simpa using hd1))) ?_
            refine g_iconst B W167 at_330 (v := 1) (by decide) ?_
            exact g_goto B W167 at_331 (pc' := 335) (by decide) q
          · refine g_if_y B W167 at_327 (XT.i0_ne_t (bi_t (by simpa using hd1))) (pc' := 334) (by decide) ?_
            exact g_iconst B W167 at_334 (v := 0) (by decide) q
          show Go p.tables e below _ T167 (mkF m 335 #[.val (.int p1), .val (.int p2), .val (.int p3), .val (.int p4), .val (.int p5), .val (.int l1), .val (.int l2), .val (.int x102), .val (.int x103), .val (.int x104), .val (.int z107), .val (.int z110), .val (.int z113), .val (.ref b114), .val (.ref b116), .val (.int (bi (decide ((own_mk l1 x102 x103 x104) = (own_mk l2 z107 z110 z113))))), .val (.ref b133), .val (.int k139), .unset] [(.int (bi (!false)))])
          exact r_b B W167 at_335 (by decide) (by decide) (by show some (Value.int (bi (!false))) = some (.int 1); rw [show (!false) = true by simp]; rfl)
        · skip
          refine g_icmp_y B W137 at_317 (XT.ii_ne_t hc165) (pc' := 336) (by decide) ?_
          show Go p.tables e below _ T137 (mkF m 336 #[.val (.int p1), .val (.int p2), .val (.int p3), .val (.int p4), .val (.int p5), .val (.int l1), .val (.int l2), .val (.int x102), .val (.int x103), .val (.int x104), .val (.int z107), .val (.int z110), .val (.int z113), .val (.ref b114), .val (.ref b116), .val (.int (bi (decide ((own_mk l1 x102 x103 x104) = (own_mk l2 z107 z110 z113))))), .val (.ref b133), .val (.int k139), .unset] [])
          refine g_iload B W137 at_336 rfl ?_
          refine g_iconst B W137 at_338 (v := 4) (by decide) ?_
          by_cases hc168 : k139 = 4
          · skip
            refine g_icmp_n B W137 at_339 (XT.ii_ne_f hc168) ?_
            show Go p.tables e below _ T137 (mkF m 342 #[.val (.int p1), .val (.int p2), .val (.int p3), .val (.int p4), .val (.int p5), .val (.int l1), .val (.int l2), .val (.int x102), .val (.int x103), .val (.int x104), .val (.int z107), .val (.int z110), .val (.int z113), .val (.ref b114), .val (.ref b116), .val (.int (bi (decide ((own_mk l1 x102 x103 x104) = (own_mk l2 z107 z110 z113))))), .val (.ref b133), .val (.int k139), .unset] [])
            refine g_aload B W137 at_342 rfl rfl ?_
            refine g_aload B W137 at_344 rfl rfl ?_
            have f169 := (S114.keep ((((Keep.refl h114 []).trans K116 all0).trans K133 all0).trans K137 (allS (Or.inr (by omega)) all0)))
            obtain ⟨T170, h170, v170, W170, Q170, st170⟩ := x_virtual B W137 (b := b133) [(.ref b133)] (c_eqIri l Z a0 hw b133 b133 b114 b114 (own_mk l1 x102 x103 x104) (own_mk l1 x102 x103 x104) cz h137 Scs hcz E137 F137 F137 f169 f169) (by simp) E137 at_346 (tw hw 42 rfl) (tw hw 43 rfl) (tw hw 45 rfl) (tw hw 44 rfl) (tw hw 28 rfl) (tw hw 46 rfl) (by decide) (lenOf pd__Ljava_lang_Object__Z rfl) #[.val (.int p1), .val (.int p2), .val (.int p3), .val (.int p4), .val (.int p5), .val (.int l1), .val (.int l2), .val (.int x102), .val (.int x103), .val (.int x104), .val (.int z107), .val (.int z110), .val (.int z113), .val (.ref b114), .val (.ref b116), .val (.int (bi (decide ((own_mk l1 x102 x103 x104) = (own_mk l2 z107 z110 z113))))), .val (.ref b133), .val (.int k139), .unset] [] rfl 0 rfl (by decide) (by decide) (by decide) (by decide)
            obtain ⟨rfl, rfl⟩ := Q170
            refine st170 _ ?_
            exact r_b B W170 at_349 (by decide) (by decide) (by show some (Value.int (bi (decide ((own_mk l1 x102 x103 x104) = (own_mk l1 x102 x103 x104))))) = some (.int 1); rw [show (decide ((own_mk l1 x102 x103 x104) = (own_mk l1 x102 x103 x104))) = true by simp]; rfl)
          · skip
            refine g_icmp_y B W137 at_339 (XT.ii_ne_t hc168) (pc' := 350) (by decide) ?_
            show Go p.tables e below _ T137 (mkF m 350 #[.val (.int p1), .val (.int p2), .val (.int p3), .val (.int p4), .val (.int p5), .val (.int l1), .val (.int l2), .val (.int x102), .val (.int x103), .val (.int x104), .val (.int z107), .val (.int z110), .val (.int z113), .val (.ref b114), .val (.ref b116), .val (.int (bi (decide ((own_mk l1 x102 x103 x104) = (own_mk l2 z107 z110 z113))))), .val (.ref b133), .val (.int k139), .unset] [])
            refine g_aload B W137 at_350 rfl rfl ?_
            refine g_aload B W137 at_352 rfl rfl ?_
            refine g_aload B W137 at_354 rfl rfl ?_
            have f171 := ((e116.keep K133).keep K137)
            obtain ⟨T172, h172, v172, W172, Q172, st172⟩ := x_static B W137 [(.ref b116), (.ref b133)] (c_typed l Z a0 hw b116 b133 h137 f171 E137) (by simp) at_356 (tw hw 84 rfl) (tw hw 85 rfl) (tw hw 86 rfl) (tw hw 87 rfl) (by decide) (lenOf pd__Ljava_lang_String_Lcom_example_dragoman_dragoman_cq_Iri__Lcom_example_dragoman_dragoman_cq_Literal_ rfl) #[.val (.int p1), .val (.int p2), .val (.int p3), .val (.int p4), .val (.int p5), .val (.int l1), .val (.int l2), .val (.int x102), .val (.int x103), .val (.int x104), .val (.int z107), .val (.int z110), .val (.int z113), .val (.ref b114), .val (.ref b116), .val (.int (bi (decide ((own_mk l1 x102 x103 x104) = (own_mk l2 z107 z110 z113))))), .val (.ref b133), .val (.int k139), .unset] [(.ref b133)] rfl 1 rfl (by decide) (by decide) (by decide) (by decide)
            obtain ⟨b172, rfl, K172, E172⟩ := Q172
            have s173 := K172.1
            refine st172 _ ?_
            have f175 := (E137.keep K172)
            obtain ⟨T174, h174, v174, W174, Q174, st174⟩ := x_virtual B W172 (b := b133) [(.ref b172)] (c_eqIri_Literal l Z a0 hw b133 b172 h172 E172) (by simp) f175 at_359 (tw hw 42 rfl) (tw hw 43 rfl) (tw hw 45 rfl) (tw hw 44 rfl) (tw hw 28 rfl) (tw hw 46 rfl) (by decide) (lenOf pd__Ljava_lang_Object__Z rfl) #[.val (.int p1), .val (.int p2), .val (.int p3), .val (.int p4), .val (.int p5), .val (.int l1), .val (.int l2), .val (.int x102), .val (.int x103), .val (.int x104), .val (.int z107), .val (.int z110), .val (.int z113), .val (.ref b114), .val (.ref b116), .val (.int (bi (decide ((own_mk l1 x102 x103 x104) = (own_mk l2 z107 z110 z113))))), .val (.ref b133), .val (.int k139), .unset] [] rfl 0 rfl (by decide) (by decide) (by decide) (by decide)
            obtain ⟨rfl, rfl⟩ := Q174
            refine st174 _ ?_
            refine g_diab (!false) (m := m) (ls := #[.val (.int p1), .val (.int p2), .val (.int p3), .val (.int p4), .val (.int p5), .val (.int l1), .val (.int l2), .val (.int x102), .val (.int x103), .val (.int x104), .val (.int z107), .val (.int z110), .val (.int z113), .val (.ref b114), .val (.ref b116), .val (.int (bi (decide ((own_mk l1 x102 x103 x104) = (own_mk l2 z107 z110 z113))))), .val (.ref b133), .val (.int k139), .unset]) (st := []) (pc' := 370) (fun hd1 q => ?_) (fun hd1 q => ?_) ?_
            · refine g_if_n B W174 at_362 (XT.i0_ne_f (bi_f (by simpa using hd1))) ?_
              refine g_iconst B W174 at_365 (v := 1) (by decide) ?_
              exact g_goto B W174 at_366 (pc' := 370) (by decide) q
            · refine g_if_y B W174 at_362 (XT.i0_ne_t (bi_t (by simpa using hd1))) (pc' := 369) (by decide) ?_
              exact g_iconst B W174 at_369 (v := 0) (by decide) q
            show Go p.tables e below _ T174 (mkF m 370 #[.val (.int p1), .val (.int p2), .val (.int p3), .val (.int p4), .val (.int p5), .val (.int l1), .val (.int l2), .val (.int x102), .val (.int x103), .val (.int x104), .val (.int z107), .val (.int z110), .val (.int z113), .val (.ref b114), .val (.ref b116), .val (.int (bi (decide ((own_mk l1 x102 x103 x104) = (own_mk l2 z107 z110 z113))))), .val (.ref b133), .val (.int k139), .unset] [(.int (bi (!false)))])
            exact r_b B W174 at_370 (by decide) (by decide) (by show some (Value.int (bi (!false))) = some (.int 1); rw [show (!false) = true by simp]; rfl)
theorem own_ELc : ∀ p ∈ Jvm.OwnK.EL, p ∈ consts_1 := by decide
set_option maxRecDepth 65536 in
set_option maxHeartbeats 40000000 in
theorem comes_1 {Post : Tables → Env → Array Value → State → Outcome → State → Prop} (hpost : ∀ tb e args s v u, (limb_1_1.after args s (.returned v) u = true ∧ limb_1_2.after args s (.returned v) u = true ∧ True) → ReturnedEndW s (.returned v) u (Jvm.fieldLocs frame_1_writes args s ++ Jvm.arrayLocs frame_1_arrays args s ++ Jvm.staticLocs frame_1_statics s) 40 6336 → Post tb e args s (.returned v) u) :
    ArmFor flags0 classFile x code maxLocals ret World_1 tables_1 room_1 Calls_1 rest_1 Pre_1 Post := by
  intro l hfl _ _ p e ha hc hk s m args below hf hA hF happ hP
  obtain ⟨hcalls, hrest, hpre⟩ := hP
  obtain ⟨-, -, -, hnamed, -, -, -, hat⟩ := (Spec.applies_iff hf).mp happ
  obtain ⟨hg, hn⟩ := and_e (Cond.before_iff.mp (show (Jvm.Cond.and given_1 narrow_1).before args s = true from hpre))
  obtain ⟨hcnt, hgs⟩ := and_e hg
  obtain ⟨ha0, hr0⟩ := and_e hgs
  obtain ⟨ha1, hr1⟩ := and_e hr0
  obtain ⟨ha2, hr2⟩ := and_e hr1
  obtain ⟨ha3, hr3⟩ := and_e hr2
  have ha4 := hr3
  obtain ⟨w0, w1, w2, w3, w4, rfl⟩ : ∃ w0 w1 w2 w3 w4 : Value, args = #[w0, w1, w2, w3, w4] := by
    have hs : args.size = 5 := by simpa [Cond.value, given_1] using hcnt
    obtain ⟨L⟩ := args
    match L, hs with
    | [w0, w1, w2, w3, w4], _ => exact ⟨w0, w1, w2, w3, w4, rfl⟩
  have hw := fun d (hd : d ∈ tables_1) => atoms_spec (ws := Jvm.Cond.code x code maxLocals ret :: tables_1) hat d (List.mem_cons_of_mem _ hd)
  obtain ⟨hsets, hown0⟩ := atoms_of _ (rest_1_c_eq ▸ (show rest_1_c.before _ s = true from hrest))
  have hfit : Fit s := fun {y c} hc i hi => by
    obtain ⟨ha, rfl⟩ := Array.getElem?_eq_some_iff.mp hc
    have q := List.all_eq_true.mp ((Array.all_eq_true_iff_forall_mem.mp hF) _ (Array.getElem_mem ha)) i (List.mem_range.mpr hi)
    simpa [Array.getElem?_eq_getElem hi] using q
  obtain ⟨i0, ei0⟩ := is_v ha0
  obtain rfl : w0 = (.int i0) := Option.some.inj ei0
  obtain ⟨i1, ei1⟩ := is_v ha1
  obtain rfl : w1 = (.int i1) := Option.some.inj ei1
  obtain ⟨i2, ei2⟩ := is_v ha2
  obtain rfl : w2 = (.int i2) := Option.some.inj ei2
  obtain ⟨i3, ei3⟩ := is_v ha3
  obtain rfl : w3 = (.int i3) := Option.some.inj ei3
  obtain ⟨i4, ei4⟩ := is_v ha4
  obtain rfl : w4 = (.int i4) := Option.some.inj ei4
  obtain ⟨cz, ecz⟩ := is_v (Cond.before_iff.mp (hsets _ (List.mem_of_getElem? (i := 1) rfl)))
  have Scs : Sta s s.heap "java/lang/String" "COMPACT_STRINGS" "Z" (.int cz) := Sta.start ecz (Or.inl (hsets _ (List.mem_of_getElem? (i := 0) rfl)))
  have hcz : ¬ (cz = (0 : Int32)) := gotF (Cond.eq_ints ecz (Term.int_eval (0))) (not_v (Cond.before_iff.mp (hsets _ (List.mem_of_getElem? (i := 2) rfl))))
  have hEL : EW s _ Jvm.OwnK.EL := own_EL hw
  have hWd : Wd s := ⟨_, hEL, own_wS hw⟩
  have hCH : CHv s Jvm.OwnK.EL s.vm s.heap := CHv.start hEL (fun p hp => hcalls.1 p (own_ELc p hp)) (hsets _ (List.mem_of_getElem? (i := 2) rfl)) (own_wS hw _ (by simp [Bundle.stringAtoms])) (own_wS hw _ (by simp [Bundle.stringAtoms, Bundle.sN]))
  obtain ⟨n, o, h1, h2, h3, v, L, rfl, ⟨hQ, N, -⟩, hch, hq⟩ := c_law l s _ hw tables_1 i0 i1 i2 i3 i4 cz s.heap Scs hcz hWd (Old.start s) p e ha hc hk s m _ below hf ((Spec.applies_iff_loose hf).mp happ).1 ⟨rfl, State.Warmed39.refl s, rfl, hCH, fun _ q => nomatch q⟩ trivial
  obtain rfl := hQ
  exact ⟨n, _, h1, h2, h3, hpost _ _ _ _ _ _ ⟨Cond.after_iff.mpr rfl, Cond.after_iff.mpr (eq_i res_at (Term.int_eval (1)) rfl), trivial⟩ ⟨hq.1, hq.2.1, hq.2.2.1, (hq.2.2.2.sift fun y hy => Or.inr (N y hy)).mono (by decide) (by decide)⟩⟩
theorem main_1_1 : Claimed_1_1 := comes_1 fun _ _ _ _ _ _ h hF => ⟨h.1, hF⟩
theorem main_1_2 : Claimed_1_2 := comes_1 fun _ _ _ _ _ _ h hF => ⟨h.2.1, hF⟩
end Jvm.Pilot.@@N@@
namespace Jvm.Pilot.@@N@@
open Jvm Jvm.ClassFile Sem Op Lib Jvm.Free Jvm.Stand Jvm.Pilot.@@N@@.Jvm.D
/-! MADE BY PROGRAM (witnessworld.py) out of the Statement's table words and the real class files: 25 classes; the members and pool entries that the words name. The judged class is class 1, her method 1. -/
namespace start1
open Jvm.ClassFile
def u (s : String) : CpInfo := .utf8 (stringToUtf16 s)
/-- a pool by its gaps: so many unusable entries, then the entry; so many at the end -/
def gap : Nat → List CpInfo → List CpInfo
  | 0, r => r
  | n + 1, r => .unusable :: gap n r
def poolList (es : List (Nat × CpInfo)) (last : Nat) : List CpInfo := es.foldr (fun e r => gap e.1 (e.2 :: r)) (gap last [])
def pool (es : List (Nat × CpInfo)) (last : Nat) : Array CpInfo := ⟨poolList es last⟩
def fileOf (pool : Array CpInfo) (this : Nat) (attrs : Array Attribute := #[]) (ms : Array MethodInfo := #[]) (fl : Nat := 33) (sup : Nat := 0) (ifs : Array Nat := #[]) (fds : Array FieldInfo := #[]) : ClassFile where
  minorVersion := 0
  majorVersion := 65
  constantPool := pool
  accessFlags := fl
  thisClass := this
  superClass := sup
  interfaces := ifs
  fields := fds
  methods := ms
  attributes := attrs
def plain (name : String) (sup : Option ClassId) : Class where
  name := name
  kind := .ordinary
  loader := none
  accessFlags := 33
  super := sup
  interfaces := #[]
  cf := none
  fields := #[]
  methods := #[]
  instanceTypes := #[]
  staticTypes := #[]
  resolved := #[]
  callSites := []
  init := .initialized
  statics := none
  mirror := none

def pool0 : Array CpInfo := pool [(5, u "<init>"), (0, u "()V"), (1, .class_ 10), (1, u "java/lang/Object")] 113

def k0c0 : Code := { maxStack := 0, maxLocals := 1, code := object_method_1_code, exceptionTable := #[], attributes := #[] }
def k0m0 : Method := { name := "<init>", desc := "()V", sig := { parameters := [], returnType := none }, accessFlags := 1, code := some k0c0 }
/-- java/lang/Object -/
def k0 : Class := { plain "java/lang/Object" none with
  accessFlags := 33
  interfaces := #[]
  cf := some (fileOf pool0 8 #[] #[{ accessFlags := 1, nameIndex := 5, descriptorIndex := 6, attributes := #[] }] 33 0 #[] #[])
  fields := #[]
  methods := #[k0m0]
  instanceTypes := #[]
  staticTypes := #[]
  resolved := Array.replicate 124 none
  statics := none }

def pool1 : Array CpInfo := pool [(2, .class_ 4), (1, u "java/lang/Object"), (0, u "<init>"), (0, u "()V"), (0, .methodref 8 9), (0, .class_ 10), (0, .nameAndType 11 12), (0, u "com/example/dragoman/dragoman/cq/IriEqualsPinLaw"), (0, u "str"), (0, u "(ICCC)Ljava/lang/String;"), (0, .class_ 14), (0, u "com/example/dragoman/dragoman/cq/Iri"), (0, .methodref 13 16), (0, .nameAndType 5 17), (0, u "(Ljava/lang/String;)V"), (0, .integer 2147483647), (0, .methodref 13 20), (0, .nameAndType 21 22), (0, u "equals"), (0, u "(Ljava/lang/Object;)Z"), (0, .class_ 24), (0, u "com/example/dragoman/dragoman/cq/Variable"), (0, .methodref 23 16), (0, .methodref 27 28), (0, .class_ 29), (0, .nameAndType 30 31), (0, u "com/example/dragoman/dragoman/cq/Literal"), (0, u "typed"), (0, u "(Ljava/lang/String;Lcom/example/dragoman/dragoman/cq/Iri;)Lcom/example/dragoman/dragoman/cq/Literal;"), (0, .class_ 33), (0, u "java/lang/String"), (0, .methodref 32 35), (0, .nameAndType 5 36), (0, u "([C)V"), (2, u "law"), (0, u "(IIIII)Z")] 3

def k1m0 : Method := { name := "<init>", desc := "()V", sig := { parameters := [], returnType := none }, accessFlags := 1, code := none }
def k1c1 : Code := { maxStack := 4, maxLocals := 19, code := code, exceptionTable := #[], attributes := #[] }
def k1m1 : Method := { name := "law", desc := "(IIIII)Z", sig := { parameters := [.int, .int, .int, .int, .int], returnType := some .boolean }, accessFlags := 9, code := some k1c1 }
def k1c2 : Code := { maxStack := 6, maxLocals := 4, code := method_3_code, exceptionTable := #[], attributes := #[] }
def k1m2 : Method := { name := "str", desc := "(ICCC)Ljava/lang/String;", sig := { parameters := [.int, .char, .char, .char], returnType := some (.object "java/lang/String") }, accessFlags := 10, code := some k1c2 }
/-- com/example/dragoman/dragoman/cq/IriEqualsPinLaw -/
def k1 : Class := { plain "com/example/dragoman/dragoman/cq/IriEqualsPinLaw" (some 0) with
  accessFlags := 49
  interfaces := #[]
  cf := some (fileOf pool1 8 #[] #[{ accessFlags := 1, nameIndex := 5, descriptorIndex := 6, attributes := #[] }, { accessFlags := 9, nameIndex := 39, descriptorIndex := 40, attributes := #[] }, { accessFlags := 10, nameIndex := 11, descriptorIndex := 12, attributes := #[] }] 49 2 #[] #[])
  fields := #[]
  methods := #[k1m0, k1m1, k1m2]
  instanceTypes := #[]
  staticTypes := #[]
  resolved := Array.replicate 44 none
  statics := none }

def pool2 : Array CpInfo := pool [(1, .class_ 2), (0, u "java/io/Serializable"), (0, .class_ 4), (0, u "java/lang/Object")] 2

/-- java/io/Serializable -/
def k2 : Class := { plain "java/io/Serializable" (some 0) with
  accessFlags := 1537
  interfaces := #[]
  cf := some (fileOf pool2 1 #[] #[] 1537 3 #[] #[])
  fields := #[]
  methods := #[]
  instanceTypes := #[]
  staticTypes := #[]
  resolved := Array.replicate 7 none
  statics := none }

def pool3 : Array CpInfo := pool [(1, .class_ 2), (0, u "java/lang/Comparable"), (0, .class_ 4), (0, u "java/lang/Object")] 7

/-- java/lang/Comparable -/
def k3 : Class := { plain "java/lang/Comparable" (some 0) with
  accessFlags := 1537
  interfaces := #[]
  cf := some (fileOf pool3 1 #[] #[] 1537 3 #[] #[])
  fields := #[]
  methods := #[]
  instanceTypes := #[]
  staticTypes := #[]
  resolved := Array.replicate 12 none
  statics := none }

def pool4 : Array CpInfo := pool [(2, .class_ 4), (1, u "java/lang/CharSequence"), (42, .class_ 48), (0, u "java/lang/CharSequence$1CodePointIterator"), (10, .class_ 60), (0, u "java/lang/CharSequence$1CharIterator"), (5, .class_ 67), (0, u "java/lang/Object")] 63

/-- java/lang/CharSequence -/
def k4 : Class := { plain "java/lang/CharSequence" (some 0) with
  accessFlags := 1537
  interfaces := #[]
  cf := some (fileOf pool4 2 #[.nestMembers #[47, 59]] #[] 1537 66 #[] #[])
  fields := #[]
  methods := #[]
  instanceTypes := #[]
  staticTypes := #[]
  resolved := Array.replicate 131 none
  statics := none }

def pool5 : Array CpInfo := pool [(1, .class_ 2), (0, u "java/lang/constant/Constable"), (0, .class_ 4), (0, u "java/lang/Object")] 6

/-- java/lang/constant/Constable -/
def k5 : Class := { plain "java/lang/constant/Constable" (some 0) with
  accessFlags := 1537
  interfaces := #[]
  cf := some (fileOf pool5 1 #[] #[] 1537 3 #[] #[])
  fields := #[]
  methods := #[]
  instanceTypes := #[]
  staticTypes := #[]
  resolved := Array.replicate 11 none
  statics := none }

def pool6 : Array CpInfo := pool [(1, .class_ 2), (0, u "java/lang/constant/ConstantDesc"), (0, .class_ 4), (0, u "java/lang/Object")] 32

/-- java/lang/constant/ConstantDesc -/
def k6 : Class := { plain "java/lang/constant/ConstantDesc" (some 0) with
  accessFlags := 1537
  interfaces := #[]
  cf := some (fileOf pool6 1 #[] #[] 1537 3 #[] #[])
  fields := #[]
  methods := #[]
  instanceTypes := #[]
  staticTypes := #[]
  resolved := Array.replicate 37 none
  statics := none }

def pool7 : Array CpInfo := pool [(1, .methodref 2 3), (0, .class_ 4), (0, .nameAndType 5 6), (0, u "java/lang/Object"), (0, u "<init>"), (0, u "()V"), (0, .string 8), (0, u ""), (0, .fieldref 10 11), (0, .class_ 12), (0, .nameAndType 13 14), (0, u "java/lang/String"), (0, u "value"), (0, u "[B"), (0, .fieldref 10 16), (0, .nameAndType 17 18), (0, u "coder"), (0, u "B"), (2, u "hash"), (0, u "I"), (2, u "hashIsZero"), (0, u "Z"), (0, .methodref 10 28), (0, .nameAndType 5 29), (0, u "([CIILjava/lang/Void;)V"), (8, .fieldref 10 39), (0, .nameAndType 40 26), (0, u "COMPACT_STRINGS"), (1, .class_ 44), (1, u "java/lang/StringUTF16"), (0, u "compress"), (1, .methodref 42 48), (0, .nameAndType 49 50), (0, u "coderFromArrayLen"), (0, u "([BI)B"), (56, .class_ 109), (1, u "java/lang/StringLatin1"), (67, .methodref 42 178), (0, .nameAndType 45 179), (0, u "([CII)[B"), (361, .methodref 107 542), (0, .nameAndType 543 544), (0, u "equals"), (0, u "([B[B)Z"), (28, u "(Ljava/lang/Object;)Z"), (1, .class_ 576), (0, u "java/lang/CharSequence"), (22, u "CASE_INSENSITIVE_ORDER"), (0, u "Ljava/util/Comparator;"), (409, u "([C)V"), (90, u "serialPersistentFields"), (0, u "[Ljava/io/ObjectStreamField;"), (0, .class_ 1104), (0, u "java/lang/String$CaseInsensitiveComparator"), (1, .class_ 1107), (0, u "java/io/Serializable"), (0, .class_ 1109), (0, u "java/lang/Comparable"), (0, .class_ 1111), (0, u "java/lang/constant/Constable"), (0, .class_ 1113), (0, u "java/lang/constant/ConstantDesc"), (2, u "serialVersionUID"), (0, u "J"), (3, u "REPL"), (0, u "C"), (2, u "LATIN1"), (1, u "UTF16")] 323

def k7m0 : Method := { name := "<init>", desc := "()V", sig := { parameters := [], returnType := none }, accessFlags := 1, code := none }
def k7c1 : Code := { maxStack := 5, maxLocals := 2, code := jdk_42_method_3_code, exceptionTable := #[], attributes := #[] }
def k7m1 : Method := { name := "<init>", desc := "([C)V", sig := { parameters := [(.array .char)], returnType := none }, accessFlags := 1, code := some k7c1 }
def k7c2 : Code := { maxStack := 2, maxLocals := 3, code := jdk_42_method_66_code, exceptionTable := #[], attributes := #[] }
def k7m2 : Method := { name := "equals", desc := "(Ljava/lang/Object;)Z", sig := { parameters := [(.object "java/lang/Object")], returnType := some .boolean }, accessFlags := 1, code := some k7c2 }
def k7c3 : Code := { maxStack := 4, maxLocals := 6, code := jdk_42_method_149_code, exceptionTable := #[], attributes := #[] }
def k7m3 : Method := { name := "<init>", desc := "([CIILjava/lang/Void;)V", sig := { parameters := [(.array .char), .int, .int, (.object "java/lang/Void")], returnType := none }, accessFlags := 2, code := some k7c3 }
/-- java/lang/String -/
def k7 : Class := { plain "java/lang/String" (some 0) with
  accessFlags := 49
  interfaces := #[2, 3, 4, 5, 6]
  cf := some (fileOf pool7 10 #[.nestMembers #[1103]] #[{ accessFlags := 1, nameIndex := 5, descriptorIndex := 6, attributes := #[] }, { accessFlags := 1, nameIndex := 5, descriptorIndex := 1010, attributes := #[] }, { accessFlags := 1, nameIndex := 543, descriptorIndex := 573, attributes := #[] }, { accessFlags := 2, nameIndex := 5, descriptorIndex := 29, attributes := #[] }] 49 2 #[1106, 1108, 575, 1110, 1112] #[{ accessFlags := 18, nameIndex := 13, descriptorIndex := 14, attributes := #[] }, { accessFlags := 18, nameIndex := 17, descriptorIndex := 18, attributes := #[] }, { accessFlags := 2, nameIndex := 21, descriptorIndex := 22, attributes := #[] }, { accessFlags := 2, nameIndex := 25, descriptorIndex := 26, attributes := #[] }, { accessFlags := 26, nameIndex := 1116, descriptorIndex := 1117, attributes := #[] }, { accessFlags := 24, nameIndex := 40, descriptorIndex := 26, attributes := #[] }, { accessFlags := 26, nameIndex := 1101, descriptorIndex := 1102, attributes := #[] }, { accessFlags := 26, nameIndex := 1121, descriptorIndex := 1122, attributes := #[] }, { accessFlags := 25, nameIndex := 599, descriptorIndex := 600, attributes := #[] }, { accessFlags := 24, nameIndex := 1125, descriptorIndex := 18, attributes := #[] }, { accessFlags := 24, nameIndex := 1127, descriptorIndex := 18, attributes := #[] }])
  fields := #[{ name := "value", type := (.array .byte), accessFlags := 18, slot := 0, constantValue := 0 }, { name := "coder", type := .byte, accessFlags := 18, slot := 1, constantValue := 0 }, { name := "hash", type := .int, accessFlags := 2, slot := 2, constantValue := 0 }, { name := "hashIsZero", type := .boolean, accessFlags := 2, slot := 3, constantValue := 0 }, { name := "serialVersionUID", type := .long, accessFlags := 26, slot := 0, constantValue := 0 }, { name := "COMPACT_STRINGS", type := .boolean, accessFlags := 24, slot := 1, constantValue := 0 }, { name := "serialPersistentFields", type := (.array (.object "java/io/ObjectStreamField")), accessFlags := 26, slot := 2, constantValue := 0 }, { name := "REPL", type := .char, accessFlags := 26, slot := 3, constantValue := 0 }, { name := "CASE_INSENSITIVE_ORDER", type := (.object "java/util/Comparator"), accessFlags := 25, slot := 4, constantValue := 0 }, { name := "LATIN1", type := .byte, accessFlags := 24, slot := 5, constantValue := 0 }, { name := "UTF16", type := .byte, accessFlags := 24, slot := 6, constantValue := 0 }]
  methods := #[k7m0, k7m1, k7m2, k7m3]
  instanceTypes := #[(.array .byte), .byte, .int, .boolean]
  staticTypes := #[.long, .boolean, (.array (.object "java/io/ObjectStreamField")), .char, (.object "java/util/Comparator"), .byte, .byte]
  resolved := Array.replicate 1451 none
  statics := some 0 }

def pool8 : Array CpInfo := pool [(1, .class_ 2), (0, u "com/example/dragoman/dragoman/cq/Term"), (0, .class_ 4), (0, u "java/lang/Object")] 7

/-- com/example/dragoman/dragoman/cq/Term -/
def k8 : Class := { plain "com/example/dragoman/dragoman/cq/Term" (some 0) with
  accessFlags := 1537
  interfaces := #[]
  cf := some (fileOf pool8 1 #[] #[] 1537 3 #[] #[])
  fields := #[]
  methods := #[]
  instanceTypes := #[]
  staticTypes := #[]
  resolved := Array.replicate 12 none
  statics := none }

def pool9 : Array CpInfo := pool [(1, .class_ 2), (0, u "com/example/dragoman/dragoman/cq/Constant"), (0, .class_ 4), (0, u "java/lang/Object"), (0, .class_ 6), (0, u "com/example/dragoman/dragoman/cq/Term")] 7

/-- com/example/dragoman/dragoman/cq/Constant -/
def k9 : Class := { plain "com/example/dragoman/dragoman/cq/Constant" (some 0) with
  accessFlags := 1537
  interfaces := #[8]
  cf := some (fileOf pool9 1 #[] #[] 1537 3 #[5] #[])
  fields := #[]
  methods := #[]
  instanceTypes := #[]
  staticTypes := #[]
  resolved := Array.replicate 14 none
  statics := none }

def pool10 : Array CpInfo := pool [(1, .methodref 2 3), (0, .class_ 4), (0, .nameAndType 5 6), (0, u "java/lang/Object"), (0, u "<init>"), (0, u "()V"), (0, .string 8), (0, u "value"), (0, .methodref 10 11), (0, .class_ 12), (0, .nameAndType 13 14), (0, u "java/util/Objects"), (0, u "requireNonNull"), (0, u "(Ljava/lang/Object;Ljava/lang/String;)Ljava/lang/Object;"), (0, .class_ 16), (0, u "java/lang/String"), (0, .fieldref 18 19), (0, .class_ 20), (0, .nameAndType 8 21), (0, u "com/example/dragoman/dragoman/cq/Iri"), (0, u "Ljava/lang/String;"), (0, .methodref 15 23), (0, .nameAndType 24 25), (0, u "equals"), (0, u "(Ljava/lang/Object;)Z"), (8, .class_ 35), (0, u "com/example/dragoman/dragoman/cq/Constant"), (0, u "(Ljava/lang/String;)V")] 22

def k10c0 : Code := { maxStack := 3, maxLocals := 2, code := prog_15_method_1_code, exceptionTable := #[], attributes := #[] }
def k10m0 : Method := { name := "<init>", desc := "(Ljava/lang/String;)V", sig := { parameters := [(.object "java/lang/String")], returnType := none }, accessFlags := 1, code := some k10c0 }
def k10c1 : Code := { maxStack := 2, maxLocals := 2, code := prog_15_method_3_code, exceptionTable := #[], attributes := #[] }
def k10m1 : Method := { name := "equals", desc := "(Ljava/lang/Object;)Z", sig := { parameters := [(.object "java/lang/Object")], returnType := some .boolean }, accessFlags := 1, code := some k10c1 }
/-- com/example/dragoman/dragoman/cq/Iri -/
def k10 : Class := { plain "com/example/dragoman/dragoman/cq/Iri" (some 0) with
  accessFlags := 49
  interfaces := #[9]
  cf := some (fileOf pool10 18 #[] #[{ accessFlags := 1, nameIndex := 5, descriptorIndex := 36, attributes := #[] }, { accessFlags := 1, nameIndex := 24, descriptorIndex := 25, attributes := #[] }] 49 2 #[34] #[{ accessFlags := 18, nameIndex := 8, descriptorIndex := 21, attributes := #[] }])
  fields := #[{ name := "value", type := (.object "java/lang/String"), accessFlags := 18, slot := 0, constantValue := 0 }]
  methods := #[k10m0, k10m1]
  instanceTypes := #[(.object "java/lang/String")]
  staticTypes := #[]
  resolved := Array.replicate 59 none
  statics := none }

def pool11 : Array CpInfo := pool [(2, .class_ 4), (1, u "java/lang/Object"), (0, u "<init>"), (0, u "()V"), (35, .class_ 44), (1, u "java/util/Objects"), (0, u "requireNonNull"), (48, u "(Ljava/lang/Object;Ljava/lang/String;)Ljava/lang/Object;")] 89

def k11m0 : Method := { name := "<init>", desc := "()V", sig := { parameters := [], returnType := none }, accessFlags := 2, code := none }
def k11c1 : Code := { maxStack := 3, maxLocals := 2, code := jdk_31_method_11_code, exceptionTable := #[], attributes := #[] }
def k11m1 : Method := { name := "requireNonNull", desc := "(Ljava/lang/Object;Ljava/lang/String;)Ljava/lang/Object;", sig := { parameters := [(.object "java/lang/Object"), (.object "java/lang/String")], returnType := some (.object "java/lang/Object") }, accessFlags := 9, code := some k11c1 }
/-- java/util/Objects -/
def k11 : Class := { plain "java/util/Objects" (some 0) with
  accessFlags := 49
  interfaces := #[]
  cf := some (fileOf pool11 42 #[] #[{ accessFlags := 2, nameIndex := 5, descriptorIndex := 6, attributes := #[] }, { accessFlags := 9, nameIndex := 45, descriptorIndex := 94, attributes := #[] }] 49 2 #[] #[])
  fields := #[]
  methods := #[k11m0, k11m1]
  instanceTypes := #[]
  staticTypes := #[]
  resolved := Array.replicate 184 none
  statics := none }

def pool12 : Array CpInfo := pool [(4, .class_ 6), (1, u "java/lang/Object"), (0, u "<init>"), (0, u "()V"), (5, .class_ 16), (1, u "java/lang/StringLatin1"), (104, u "$assertionsDisabled"), (0, u "Z"), (98, .class_ 223), (1, u "java/lang/StringLatin1$LinesSpliterator"), (57, u "equals"), (0, u "([B[B)Z"), (107, .class_ 391), (0, u "java/lang/StringLatin1$CharsSpliterator")] 3

def k12m0 : Method := { name := "<init>", desc := "()V", sig := { parameters := [], returnType := none }, accessFlags := 0, code := none }
def k12c1 : Code := { maxStack := 3, maxLocals := 3, code := jdk_43_method_13_code, exceptionTable := #[], attributes := #[] }
def k12m1 : Method := { name := "equals", desc := "([B[B)Z", sig := { parameters := [(.array .byte), (.array .byte)], returnType := some .boolean }, accessFlags := 9, code := some k12c1 }
/-- java/lang/StringLatin1 -/
def k12 : Class := { plain "java/lang/StringLatin1" (some 0) with
  accessFlags := 48
  interfaces := #[]
  cf := some (fileOf pool12 14 #[.nestMembers #[390, 221]] #[{ accessFlags := 0, nameIndex := 7, descriptorIndex := 8, attributes := #[] }, { accessFlags := 9, nameIndex := 281, descriptorIndex := 282, attributes := #[] }] 48 4 #[] #[{ accessFlags := 4120, nameIndex := 121, descriptorIndex := 122, attributes := #[] }])
  fields := #[{ name := "$assertionsDisabled", type := .boolean, accessFlags := 4120, slot := 0, constantValue := 0 }]
  methods := #[k12m0, k12m1]
  instanceTypes := #[]
  staticTypes := #[.boolean]
  resolved := Array.replicate 395 none
  statics := none }

def pool13 : Array CpInfo := pool [(6, .class_ 8), (1, u "java/lang/Object"), (0, u "<init>"), (0, u "()V"), (1, .class_ 14), (1, u "java/lang/StringUTF16"), (31, u "$assertionsDisabled"), (0, u "Z"), (13, u "HI_BYTE_SHIFT"), (0, u "I"), (2, u "LO_BYTE_SHIFT"), (49, .methodref 12 116), (0, .nameAndType 117 118), (0, u "compress"), (0, u "([CI[BII)I"), (3, u "([CII)[B"), (138, u "coderFromArrayLen"), (0, u "([BI)B"), (106, .class_ 371), (1, u "java/lang/StringUTF16$LinesSpliterator"), (58, u "MAX_LENGTH"), (196, .class_ 628), (0, u "java/lang/StringUTF16$CodePointsSpliterator"), (0, .class_ 630), (0, u "java/lang/StringUTF16$CharsSpliterator")] 4

def k13m0 : Method := { name := "<init>", desc := "()V", sig := { parameters := [], returnType := none }, accessFlags := 0, code := none }
def k13c1 : Code := { maxStack := 2, maxLocals := 2, code := jdk_52_method_15_code, exceptionTable := #[], attributes := #[] }
def k13m1 : Method := { name := "coderFromArrayLen", desc := "([BI)B", sig := { parameters := [(.array .byte), .int], returnType := some .byte }, accessFlags := 8, code := some k13c1 }
def k13c2 : Code := { maxStack := 5, maxLocals := 6, code := jdk_52_method_16_code, exceptionTable := #[], attributes := #[] }
def k13m2 : Method := { name := "compress", desc := "([CII)[B", sig := { parameters := [(.array .char), .int, .int], returnType := some (.array .byte) }, accessFlags := 9, code := some k13c2 }
def k13c3 : Code := { maxStack := 3, maxLocals := 7, code := jdk_52_method_21_code, exceptionTable := #[], attributes := #[] }
def k13m3 : Method := { name := "compress", desc := "([CI[BII)I", sig := { parameters := [(.array .char), .int, (.array .byte), .int, .int], returnType := some .int }, accessFlags := 9, code := some k13c3 }
/-- java/lang/StringUTF16 -/
def k13 : Class := { plain "java/lang/StringUTF16" (some 0) with
  accessFlags := 48
  interfaces := #[]
  cf := some (fileOf pool13 12 #[.nestMembers #[627, 629, 369]] #[{ accessFlags := 0, nameIndex := 9, descriptorIndex := 10, attributes := #[] }, { accessFlags := 8, nameIndex := 261, descriptorIndex := 262, attributes := #[] }, { accessFlags := 9, nameIndex := 117, descriptorIndex := 122, attributes := #[] }, { accessFlags := 9, nameIndex := 117, descriptorIndex := 118, attributes := #[] }] 48 6 #[] #[{ accessFlags := 26, nameIndex := 61, descriptorIndex := 62, attributes := #[] }, { accessFlags := 26, nameIndex := 65, descriptorIndex := 62, attributes := #[] }, { accessFlags := 24, nameIndex := 430, descriptorIndex := 62, attributes := #[] }, { accessFlags := 4120, nameIndex := 46, descriptorIndex := 47, attributes := #[] }])
  fields := #[{ name := "HI_BYTE_SHIFT", type := .int, accessFlags := 26, slot := 0, constantValue := 0 }, { name := "LO_BYTE_SHIFT", type := .int, accessFlags := 26, slot := 1, constantValue := 0 }, { name := "MAX_LENGTH", type := .int, accessFlags := 24, slot := 2, constantValue := 0 }, { name := "$assertionsDisabled", type := .boolean, accessFlags := 4120, slot := 3, constantValue := 0 }]
  methods := #[k13m0, k13m1, k13m2, k13m3]
  instanceTypes := #[]
  staticTypes := #[.int, .int, .int, .boolean]
  resolved := Array.replicate 635 none
  statics := none }

def pool14 : Array CpInfo := pool [(1, .methodref 2 3), (0, .class_ 4), (0, .nameAndType 5 6), (0, u "java/lang/Object"), (0, u "<init>"), (0, u "()V"), (0, .string 8), (0, u "name"), (0, .methodref 10 11), (0, .class_ 12), (0, .nameAndType 13 14), (0, u "java/util/Objects"), (0, u "requireNonNull"), (0, u "(Ljava/lang/Object;Ljava/lang/String;)Ljava/lang/Object;"), (0, .class_ 16), (0, u "java/lang/String"), (0, .fieldref 18 19), (0, .class_ 20), (0, .nameAndType 8 21), (0, u "com/example/dragoman/dragoman/cq/Variable"), (0, u "Ljava/lang/String;"), (12, .class_ 35), (0, u "com/example/dragoman/dragoman/cq/Term"), (0, u "(Ljava/lang/String;)V")] 22

def k14c0 : Code := { maxStack := 3, maxLocals := 2, code := prog_21_method_1_code, exceptionTable := #[], attributes := #[] }
def k14m0 : Method := { name := "<init>", desc := "(Ljava/lang/String;)V", sig := { parameters := [(.object "java/lang/String")], returnType := none }, accessFlags := 1, code := some k14c0 }
/-- com/example/dragoman/dragoman/cq/Variable -/
def k14 : Class := { plain "com/example/dragoman/dragoman/cq/Variable" (some 0) with
  accessFlags := 49
  interfaces := #[8]
  cf := some (fileOf pool14 18 #[] #[{ accessFlags := 1, nameIndex := 5, descriptorIndex := 36, attributes := #[] }] 49 2 #[34] #[{ accessFlags := 18, nameIndex := 8, descriptorIndex := 21, attributes := #[] }])
  fields := #[{ name := "name", type := (.object "java/lang/String"), accessFlags := 18, slot := 0, constantValue := 0 }]
  methods := #[k14m0]
  instanceTypes := #[(.object "java/lang/String")]
  staticTypes := #[]
  resolved := Array.replicate 59 none
  statics := none }

def pool15 : Array CpInfo := pool [(1, .methodref 2 3), (0, .class_ 4), (0, .nameAndType 5 6), (0, u "java/lang/Object"), (0, u "<init>"), (0, u "()V"), (0, .string 8), (0, u "lexicalForm"), (0, .methodref 10 11), (0, .class_ 12), (0, .nameAndType 13 14), (0, u "java/util/Objects"), (0, u "requireNonNull"), (0, u "(Ljava/lang/Object;Ljava/lang/String;)Ljava/lang/Object;"), (0, .class_ 16), (0, u "java/lang/String"), (0, .fieldref 18 19), (0, .class_ 20), (0, .nameAndType 8 21), (0, u "com/example/dragoman/dragoman/cq/Literal"), (0, u "Ljava/lang/String;"), (0, .string 23), (0, u "datatype"), (0, .class_ 25), (0, u "com/example/dragoman/dragoman/cq/Iri"), (0, .fieldref 18 27), (0, .nameAndType 23 28), (0, u "Lcom/example/dragoman/dragoman/cq/Iri;"), (0, .fieldref 18 30), (0, .nameAndType 31 21), (0, u "language"), (0, .string 33), (0, u ""), (0, .methodref 18 35), (0, .nameAndType 5 36), (0, u "(Ljava/lang/String;Lcom/example/dragoman/dragoman/cq/Iri;Ljava/lang/String;)V"), (2, u "RDF_LANG_STRING"), (53, u "XSD_STRING"), (14, .class_ 109), (0, u "com/example/dragoman/dragoman/cq/Constant"), (2, u "typed"), (0, u "(Ljava/lang/String;Lcom/example/dragoman/dragoman/cq/Iri;)Lcom/example/dragoman/dragoman/cq/Literal;")] 8

def k15c0 : Code := { maxStack := 3, maxLocals := 4, code := prog_17_method_1_code, exceptionTable := #[], attributes := #[] }
def k15m0 : Method := { name := "<init>", desc := "(Ljava/lang/String;Lcom/example/dragoman/dragoman/cq/Iri;Ljava/lang/String;)V", sig := { parameters := [(.object "java/lang/String"), (.object "com/example/dragoman/dragoman/cq/Iri"), (.object "java/lang/String")], returnType := none }, accessFlags := 2, code := some k15c0 }
def k15c1 : Code := { maxStack := 5, maxLocals := 2, code := prog_17_method_2_code, exceptionTable := #[], attributes := #[] }
def k15m1 : Method := { name := "typed", desc := "(Ljava/lang/String;Lcom/example/dragoman/dragoman/cq/Iri;)Lcom/example/dragoman/dragoman/cq/Literal;", sig := { parameters := [(.object "java/lang/String"), (.object "com/example/dragoman/dragoman/cq/Iri")], returnType := some (.object "com/example/dragoman/dragoman/cq/Literal") }, accessFlags := 9, code := some k15c1 }
/-- com/example/dragoman/dragoman/cq/Literal -/
def k15 : Class := { plain "com/example/dragoman/dragoman/cq/Literal" (some 0) with
  accessFlags := 49
  interfaces := #[9]
  cf := some (fileOf pool15 18 #[] #[{ accessFlags := 2, nameIndex := 5, descriptorIndex := 36, attributes := #[] }, { accessFlags := 9, nameIndex := 112, descriptorIndex := 113, attributes := #[] }] 49 2 #[108] #[{ accessFlags := 25, nameIndex := 93, descriptorIndex := 28, attributes := #[] }, { accessFlags := 25, nameIndex := 39, descriptorIndex := 28, attributes := #[] }, { accessFlags := 18, nameIndex := 8, descriptorIndex := 21, attributes := #[] }, { accessFlags := 18, nameIndex := 23, descriptorIndex := 28, attributes := #[] }, { accessFlags := 18, nameIndex := 31, descriptorIndex := 21, attributes := #[] }])
  fields := #[{ name := "XSD_STRING", type := (.object "com/example/dragoman/dragoman/cq/Iri"), accessFlags := 25, slot := 0, constantValue := 0 }, { name := "RDF_LANG_STRING", type := (.object "com/example/dragoman/dragoman/cq/Iri"), accessFlags := 25, slot := 1, constantValue := 0 }, { name := "lexicalForm", type := (.object "java/lang/String"), accessFlags := 18, slot := 0, constantValue := 0 }, { name := "datatype", type := (.object "com/example/dragoman/dragoman/cq/Iri"), accessFlags := 18, slot := 1, constantValue := 0 }, { name := "language", type := (.object "java/lang/String"), accessFlags := 18, slot := 2, constantValue := 0 }]
  methods := #[k15m0, k15m1]
  instanceTypes := #[(.object "java/lang/String"), (.object "com/example/dragoman/dragoman/cq/Iri"), (.object "java/lang/String")]
  staticTypes := #[(.object "com/example/dragoman/dragoman/cq/Iri"), (.object "com/example/dragoman/dragoman/cq/Iri")]
  resolved := Array.replicate 122 none
  statics := none }

def pool16 : Array CpInfo := pool [(2, .class_ 4), (1, u "java/lang/Object"), (0, u "<init>"), (0, u "()V"), (17, .class_ 26), (1, u "jdk/internal/util/Preconditions"), (28, .class_ 56), (0, u "jdk/internal/util/Preconditions$4"), (57, .class_ 115), (0, u "jdk/internal/util/Preconditions$1"), (7, u "SIOOBE_FORMATTER"), (0, u "Ljava/util/function/BiFunction;"), (0, .class_ 126), (0, u "jdk/internal/util/Preconditions$2"), (3, u "AIOOBE_FORMATTER"), (0, .class_ 132), (0, u "jdk/internal/util/Preconditions$3"), (3, u "IOOBE_FORMATTER")] 57

def k16m0 : Method := { name := "<init>", desc := "()V", sig := { parameters := [], returnType := none }, accessFlags := 1, code := none }
/-- jdk/internal/util/Preconditions -/
def k16 : Class := { plain "jdk/internal/util/Preconditions" (some 0) with
  accessFlags := 33
  interfaces := #[]
  cf := some (fileOf pool16 24 #[.nestMembers #[55, 131, 125, 114]] #[{ accessFlags := 1, nameIndex := 5, descriptorIndex := 6, attributes := #[] }] 33 2 #[] #[{ accessFlags := 25, nameIndex := 123, descriptorIndex := 124, attributes := #[] }, { accessFlags := 25, nameIndex := 130, descriptorIndex := 124, attributes := #[] }, { accessFlags := 25, nameIndex := 136, descriptorIndex := 124, attributes := #[] }])
  fields := #[{ name := "SIOOBE_FORMATTER", type := (.object "java/util/function/BiFunction"), accessFlags := 25, slot := 0, constantValue := 0 }, { name := "AIOOBE_FORMATTER", type := (.object "java/util/function/BiFunction"), accessFlags := 25, slot := 1, constantValue := 0 }, { name := "IOOBE_FORMATTER", type := (.object "java/util/function/BiFunction"), accessFlags := 25, slot := 2, constantValue := 0 }]
  methods := #[k16m0]
  instanceTypes := #[]
  staticTypes := #[(.object "java/util/function/BiFunction"), (.object "java/util/function/BiFunction"), (.object "java/util/function/BiFunction")]
  resolved := Array.replicate 194 none
  statics := some 1 }

def pool17 : Array CpInfo := pool [(9, u "<init>"), (6, .class_ 18), (1, u "java/lang/Object"), (0, u "()V"), (1, .class_ 23), (1, u "jdk/internal/util/ArraysSupport"), (0, u "LOG2_ARRAY_LONG_INDEX_SCALE"), (0, u "I"), (2, u "U"), (0, u "Ljdk/internal/misc/Unsafe;"), (8, u "BIG_ENDIAN"), (0, u "Z"), (8, u "LOG2_BYTE_BIT_SIZE"), (4, u "LOG2_ARRAY_INT_INDEX_SCALE"), (54, u "JLA"), (0, u "Ljdk/internal/access/JavaLangAccess;"), (11, u "LOG2_ARRAY_BOOLEAN_INDEX_SCALE"), (9, u "LOG2_ARRAY_BYTE_INDEX_SCALE"), (5, u "LOG2_ARRAY_CHAR_INDEX_SCALE"), (5, u "LOG2_ARRAY_SHORT_INDEX_SCALE"), (18, u "LOG2_ARRAY_FLOAT_INDEX_SCALE"), (24, u "LOG2_ARRAY_DOUBLE_INDEX_SCALE"), (89, u "T_BOOLEAN"), (2, u "T_CHAR"), (1, u "T_FLOAT"), (1, u "T_DOUBLE"), (1, u "T_BYTE"), (1, u "T_SHORT"), (1, u "T_INT"), (1, u "T_LONG"), (1, u "SOFT_MAX_ARRAY_LENGTH")] 83

def k17m0 : Method := { name := "<init>", desc := "()V", sig := { parameters := [], returnType := none }, accessFlags := 2, code := none }
/-- jdk/internal/util/ArraysSupport -/
def k17 : Class := { plain "jdk/internal/util/ArraysSupport" (some 0) with
  accessFlags := 33
  interfaces := #[]
  cf := some (fileOf pool17 21 #[] #[{ accessFlags := 2, nameIndex := 9, descriptorIndex := 19, attributes := #[] }] 33 16 #[] #[{ accessFlags := 24, nameIndex := 28, descriptorIndex := 29, attributes := #[] }, { accessFlags := 26, nameIndex := 38, descriptorIndex := 39, attributes := #[] }, { accessFlags := 25, nameIndex := 121, descriptorIndex := 25, attributes := #[] }, { accessFlags := 25, nameIndex := 131, descriptorIndex := 25, attributes := #[] }, { accessFlags := 25, nameIndex := 137, descriptorIndex := 25, attributes := #[] }, { accessFlags := 25, nameIndex := 143, descriptorIndex := 25, attributes := #[] }, { accessFlags := 25, nameIndex := 53, descriptorIndex := 25, attributes := #[] }, { accessFlags := 25, nameIndex := 24, descriptorIndex := 25, attributes := #[] }, { accessFlags := 25, nameIndex := 162, descriptorIndex := 25, attributes := #[] }, { accessFlags := 25, nameIndex := 187, descriptorIndex := 25, attributes := #[] }, { accessFlags := 26, nameIndex := 48, descriptorIndex := 25, attributes := #[] }, { accessFlags := 25, nameIndex := 277, descriptorIndex := 25, attributes := #[] }, { accessFlags := 25, nameIndex := 280, descriptorIndex := 25, attributes := #[] }, { accessFlags := 25, nameIndex := 282, descriptorIndex := 25, attributes := #[] }, { accessFlags := 25, nameIndex := 284, descriptorIndex := 25, attributes := #[] }, { accessFlags := 25, nameIndex := 286, descriptorIndex := 25, attributes := #[] }, { accessFlags := 25, nameIndex := 288, descriptorIndex := 25, attributes := #[] }, { accessFlags := 25, nameIndex := 290, descriptorIndex := 25, attributes := #[] }, { accessFlags := 25, nameIndex := 292, descriptorIndex := 25, attributes := #[] }, { accessFlags := 26, nameIndex := 108, descriptorIndex := 109, attributes := #[] }, { accessFlags := 25, nameIndex := 294, descriptorIndex := 25, attributes := #[] }])
  fields := #[{ name := "U", type := (.object "jdk/internal/misc/Unsafe"), accessFlags := 24, slot := 0, constantValue := 0 }, { name := "BIG_ENDIAN", type := .boolean, accessFlags := 26, slot := 1, constantValue := 0 }, { name := "LOG2_ARRAY_BOOLEAN_INDEX_SCALE", type := .int, accessFlags := 25, slot := 2, constantValue := 0 }, { name := "LOG2_ARRAY_BYTE_INDEX_SCALE", type := .int, accessFlags := 25, slot := 3, constantValue := 0 }, { name := "LOG2_ARRAY_CHAR_INDEX_SCALE", type := .int, accessFlags := 25, slot := 4, constantValue := 0 }, { name := "LOG2_ARRAY_SHORT_INDEX_SCALE", type := .int, accessFlags := 25, slot := 5, constantValue := 0 }, { name := "LOG2_ARRAY_INT_INDEX_SCALE", type := .int, accessFlags := 25, slot := 6, constantValue := 0 }, { name := "LOG2_ARRAY_LONG_INDEX_SCALE", type := .int, accessFlags := 25, slot := 7, constantValue := 0 }, { name := "LOG2_ARRAY_FLOAT_INDEX_SCALE", type := .int, accessFlags := 25, slot := 8, constantValue := 0 }, { name := "LOG2_ARRAY_DOUBLE_INDEX_SCALE", type := .int, accessFlags := 25, slot := 9, constantValue := 0 }, { name := "LOG2_BYTE_BIT_SIZE", type := .int, accessFlags := 26, slot := 10, constantValue := 0 }, { name := "T_BOOLEAN", type := .int, accessFlags := 25, slot := 11, constantValue := 0 }, { name := "T_CHAR", type := .int, accessFlags := 25, slot := 12, constantValue := 0 }, { name := "T_FLOAT", type := .int, accessFlags := 25, slot := 13, constantValue := 0 }, { name := "T_DOUBLE", type := .int, accessFlags := 25, slot := 14, constantValue := 0 }, { name := "T_BYTE", type := .int, accessFlags := 25, slot := 15, constantValue := 0 }, { name := "T_SHORT", type := .int, accessFlags := 25, slot := 16, constantValue := 0 }, { name := "T_INT", type := .int, accessFlags := 25, slot := 17, constantValue := 0 }, { name := "T_LONG", type := .int, accessFlags := 25, slot := 18, constantValue := 0 }, { name := "JLA", type := (.object "jdk/internal/access/JavaLangAccess"), accessFlags := 26, slot := 19, constantValue := 0 }, { name := "SOFT_MAX_ARRAY_LENGTH", type := .int, accessFlags := 25, slot := 20, constantValue := 0 }]
  methods := #[k17m0]
  instanceTypes := #[]
  staticTypes := #[(.object "jdk/internal/misc/Unsafe"), .boolean, .int, .int, .int, .int, .int, .int, .int, .int, .int, .int, .int, .int, .int, .int, .int, .int, .int, (.object "jdk/internal/access/JavaLangAccess"), .int]
  resolved := Array.replicate 378 none
  statics := none }

def pool18 : Array CpInfo := pool [(1, u "java/lang/Cloneable"), (0, .class_ 1), (0, u "java/lang/Object"), (0, .class_ 3)] 3

/-- java/lang/Cloneable -/
def k18 : Class := { plain "java/lang/Cloneable" (some 0) with
  accessFlags := 1537
  interfaces := #[]
  cf := some (fileOf pool18 2 #[] #[] 1537 4 #[] #[])
  fields := #[]
  methods := #[]
  instanceTypes := #[]
  staticTypes := #[]
  resolved := Array.replicate 8 none
  statics := none }

/-- the primitive byte -/
def k19 : Class := { plain "byte" none with kind := .primitive 'B', accessFlags := 0x411 }
/-- [B -/
def k20 : Class := { plain "[B" (some 0) with kind := .array 19 .byte, interfaces := #[18, 2], accessFlags := 1041 }

/-- the primitive char -/
def k21 : Class := { plain "char" none with kind := .primitive 'C', accessFlags := 0x411 }
/-- [C -/
def k22 : Class := { plain "[C" (some 0) with kind := .array 21 .char, interfaces := #[18, 2], accessFlags := 1041 }

/-- the primitive int -/
def k23 : Class := { plain "int" none with kind := .primitive 'I', accessFlags := 0x411 }
/-- [I -/
def k24 : Class := { plain "[I" (some 0) with kind := .array 23 .int, interfaces := #[18, 2], accessFlags := 1041 }

def heap : Heap := #[{ cls := 7, slots := #[.long 0, .int 1, .null, .int 0, .null, .int 0, .int 0], vm := .statics 7 },
  { cls := 16, slots := #[.null, .null, .null], vm := .statics 16 }]
def classes : Array Class := #[k0, k1, k2, k3, k4, k5, k6, k7, k8, k9, k10, k11, k12, k13, k14, k15, k16, k17, k18, k19, k20, k21, k22, k23, k24]
def interned : List (Array UInt16 × Addr) := []
def slotsUsed : Nat := 10
def theMethod : MethodId := ⟨1, 1⟩
def args0 : Array Value := #[.int 1, .int 2, .int 3, .int 4, .int 5]
def aboutOver (below : List Frame) : State where
  vm := { classes := classes, interned := interned.toArray }
  heap := heap
  slotsUsed := slotsUsed
  threads := #[{ frames := .invoking theMethod args0 :: below }]
def below0 : List Frame := [.native { method := ⟨0, 0⟩, args := #[] }]
def about1 : State := aboutOver below0
def p0 : Program := .bare "" "" ""
def e0 : Env := launch0.env 0 0 0
theorem w_frames : about1.frames = Frame.invoking theMethod args0 :: below0 := rfl
set_option maxRecDepth 65536 in
theorem w_args : argsFit about1.vm theMethod args0 = true := by decide +kernel
set_option maxRecDepth 65536 in
theorem w_heap : heapFits about1 = true := by decide +kernel
set_option maxRecDepth 65536 in
theorem w_runnable : about1.curStatus? = some .runnable := by decide +kernel
set_option maxRecDepth 65536 in
theorem w_alone : about1.alone = true := by decide +kernel
set_option maxRecDepth 65536 in
theorem w_named : about1.methodNamed? x = some theMethod := by decide +kernel
set_option maxRecDepth 65536 in
theorem w_hears : about1.hears theMethod below0 = true := by decide +kernel
set_option maxRecDepth 65536 in
theorem w_ripe : about1.ripe theMethod args0 below0 = true := by decide +kernel
theorem w_running : about1.status = .running := rfl
set_option maxRecDepth 65536 in
theorem w_room : about1.hasRoom e0.platform room_1 = true :=
  launch0.hasRoom_least _ room_1 (by decide +kernel) (by decide +kernel) (by decide +kernel) (by decide +kernel) (by decide +kernel) (by decide +kernel)
theorem allAtoms_all (ts : List Jvm.Cond) (a : Array Jvm.Value) (st : Jvm.State) : (allAtoms ts).before a st = ts.all (fun c => c.before a st) := by
  induction ts with
  | nil => rfl
  | cons c t ih =>
    show (Jvm.Cond.and c (allAtoms t)).before a st = _
    rw [Jvm.Cond.before_and, ih, List.all_cons]
def words1 : List Jvm.Cond := Jvm.Cond.code x code maxLocals ret :: tables_1
/-- a 'code' word, met by the world's own term for the bytes: nothing is compared byte by byte -/
theorem code_word {y : MethodName} {bytes : ByteArray} {mx : Nat} {rt : Option FieldType} {a : Array Value} {s : State} {m : MethodId} {meth : Method} {c : Code} (h1 : s.methodNamed? y = some m) (h2 : s.vm.method? m = some meth) (h3 : meth.code = some c) (h4 : c.code = bytes)
    (h5 : (c.maxLocals == mx && c.exceptionTable.isEmpty && decide (c.maxStack ≤ mostOperands) && decide (meth.sig.returnType = rt) && !meth.locks && decide (parseMethodDescriptor y.desc = some meth.sig)) = true) : (Jvm.Cond.code y bytes mx rt).before a s = true := by
  simp only [Bool.and_eq_true, beq_iff_eq, Bool.not_eq_true', decide_eq_true_eq] at h5
  obtain ⟨⟨⟨⟨⟨g1, g2⟩, g3⟩, g4⟩, g5⟩, g6⟩ := h5
  simp [Cond.before, Cond.holds, Cond.value, h1, h2, h3, h4, g1, g2, g3, g4, g5, g6]
def isCode : Jvm.Cond → Bool
  | .code _ _ _ _ => true
  | _ => false
theorem all_split {L : List Jvm.Cond} {P : Jvm.Cond → Bool} (h1 : L.all (fun c => isCode c || P c) = true) (h2 : ∀ c ∈ L.filter isCode, P c = true) : L.all P = true := by
  refine List.all_eq_true.mpr fun c hc => ?_
  have h := List.all_eq_true.mp h1 c hc
  rcases Bool.eq_false_or_eq_true (isCode c) with hi | hi
  · exact h2 c (List.mem_filter.mpr ⟨hc, hi⟩)
  · simpa [hi] using h
set_option maxRecDepth 65536 in
theorem w_c0 : (Jvm.Cond.code x code maxLocals ret).before args0 about1 = true := code_word (m := ⟨1, 1⟩) (meth := k1m1) (c := k1c1) (by decide +kernel) rfl rfl rfl (by decide +kernel)
set_option maxRecDepth 65536 in
theorem w_c1 : (Jvm.Cond.code ({ cls := "com/example/dragoman/dragoman/cq/IriEqualsPinLaw", name := "str", desc := "(ICCC)Ljava/lang/String;" } : Jvm.MethodName) method_3_code (4 : Nat) (Option.some (Jvm.ClassFile.FieldType.object "java/lang/String"))).before args0 about1 = true := code_word (m := ⟨1, 2⟩) (meth := k1m2) (c := k1c2) (by decide +kernel) rfl rfl rfl (by decide +kernel)
set_option maxRecDepth 65536 in
theorem w_c2 : (Jvm.Cond.code ({ cls := "java/lang/String", name := "<init>", desc := "([C)V" } : Jvm.MethodName) jdk_42_method_3_code (2 : Nat) (Option.none : Option Jvm.ClassFile.FieldType)).before args0 about1 = true := code_word (m := ⟨7, 1⟩) (meth := k7m1) (c := k7c1) (by decide +kernel) rfl rfl rfl (by decide +kernel)
set_option maxRecDepth 65536 in
theorem w_c3 : (Jvm.Cond.code ({ cls := "java/lang/String", name := "<init>", desc := "([CIILjava/lang/Void;)V" } : Jvm.MethodName) jdk_42_method_149_code (6 : Nat) (Option.none : Option Jvm.ClassFile.FieldType)).before args0 about1 = true := code_word (m := ⟨7, 3⟩) (meth := k7m3) (c := k7c3) (by decide +kernel) rfl rfl rfl (by decide +kernel)
set_option maxRecDepth 65536 in
theorem w_c4 : (Jvm.Cond.code ({ cls := "java/lang/Object", name := "<init>", desc := "()V" } : Jvm.MethodName) object_method_1_code (1 : Nat) (Option.none : Option Jvm.ClassFile.FieldType)).before args0 about1 = true := code_word (m := ⟨0, 0⟩) (meth := k0m0) (c := k0c0) (by decide +kernel) rfl rfl rfl (by decide +kernel)
set_option maxRecDepth 65536 in
theorem w_c5 : (Jvm.Cond.code ({ cls := "com/example/dragoman/dragoman/cq/Iri", name := "<init>", desc := "(Ljava/lang/String;)V" } : Jvm.MethodName) prog_15_method_1_code (2 : Nat) (Option.none : Option Jvm.ClassFile.FieldType)).before args0 about1 = true := code_word (m := ⟨10, 0⟩) (meth := k10m0) (c := k10c0) (by decide +kernel) rfl rfl rfl (by decide +kernel)
set_option maxRecDepth 65536 in
theorem w_c6 : (Jvm.Cond.code ({ cls := "java/util/Objects", name := "requireNonNull", desc := "(Ljava/lang/Object;Ljava/lang/String;)Ljava/lang/Object;" } : Jvm.MethodName) jdk_31_method_11_code (2 : Nat) (Option.some (Jvm.ClassFile.FieldType.object "java/lang/Object"))).before args0 about1 = true := code_word (m := ⟨11, 1⟩) (meth := k11m1) (c := k11c1) (by decide +kernel) rfl rfl rfl (by decide +kernel)
set_option maxRecDepth 65536 in
theorem w_c7 : (Jvm.Cond.code ({ cls := "com/example/dragoman/dragoman/cq/Iri", name := "equals", desc := "(Ljava/lang/Object;)Z" } : Jvm.MethodName) prog_15_method_3_code (2 : Nat) (Option.some Jvm.ClassFile.FieldType.boolean)).before args0 about1 = true := code_word (m := ⟨10, 1⟩) (meth := k10m1) (c := k10c1) (by decide +kernel) rfl rfl rfl (by decide +kernel)
set_option maxRecDepth 65536 in
theorem w_c8 : (Jvm.Cond.code ({ cls := "java/lang/String", name := "equals", desc := "(Ljava/lang/Object;)Z" } : Jvm.MethodName) jdk_42_method_66_code (3 : Nat) (Option.some Jvm.ClassFile.FieldType.boolean)).before args0 about1 = true := code_word (m := ⟨7, 2⟩) (meth := k7m2) (c := k7c2) (by decide +kernel) rfl rfl rfl (by decide +kernel)
set_option maxRecDepth 65536 in
theorem w_c9 : (Jvm.Cond.code ({ cls := "java/lang/StringLatin1", name := "equals", desc := "([B[B)Z" } : Jvm.MethodName) jdk_43_method_13_code (3 : Nat) (Option.some Jvm.ClassFile.FieldType.boolean)).before args0 about1 = true := code_word (m := ⟨12, 1⟩) (meth := k12m1) (c := k12c1) (by decide +kernel) rfl rfl rfl (by decide +kernel)
set_option maxRecDepth 65536 in
theorem w_c10 : (Jvm.Cond.code ({ cls := "java/lang/StringUTF16", name := "compress", desc := "([CII)[B" } : Jvm.MethodName) jdk_52_method_16_code (6 : Nat) (Option.some (Jvm.ClassFile.FieldType.array Jvm.ClassFile.FieldType.byte))).before args0 about1 = true := code_word (m := ⟨13, 2⟩) (meth := k13m2) (c := k13c2) (by decide +kernel) rfl rfl rfl (by decide +kernel)
set_option maxRecDepth 65536 in
theorem w_c11 : (Jvm.Cond.code ({ cls := "java/lang/StringUTF16", name := "compress", desc := "([CI[BII)I" } : Jvm.MethodName) jdk_52_method_21_code (7 : Nat) (Option.some Jvm.ClassFile.FieldType.int)).before args0 about1 = true := code_word (m := ⟨13, 3⟩) (meth := k13m3) (c := k13c3) (by decide +kernel) rfl rfl rfl (by decide +kernel)
set_option maxRecDepth 65536 in
theorem w_c12 : (Jvm.Cond.code ({ cls := "java/lang/StringUTF16", name := "coderFromArrayLen", desc := "([BI)B" } : Jvm.MethodName) jdk_52_method_15_code (2 : Nat) (Option.some Jvm.ClassFile.FieldType.byte)).before args0 about1 = true := code_word (m := ⟨13, 1⟩) (meth := k13m1) (c := k13c1) (by decide +kernel) rfl rfl rfl (by decide +kernel)
set_option maxRecDepth 65536 in
theorem w_c13 : (Jvm.Cond.code ({ cls := "com/example/dragoman/dragoman/cq/Variable", name := "<init>", desc := "(Ljava/lang/String;)V" } : Jvm.MethodName) prog_21_method_1_code (2 : Nat) (Option.none : Option Jvm.ClassFile.FieldType)).before args0 about1 = true := code_word (m := ⟨14, 0⟩) (meth := k14m0) (c := k14c0) (by decide +kernel) rfl rfl rfl (by decide +kernel)
set_option maxRecDepth 65536 in
theorem w_c14 : (Jvm.Cond.code ({ cls := "com/example/dragoman/dragoman/cq/Literal", name := "typed", desc := "(Ljava/lang/String;Lcom/example/dragoman/dragoman/cq/Iri;)Lcom/example/dragoman/dragoman/cq/Literal;" } : Jvm.MethodName) prog_17_method_2_code (2 : Nat) (Option.some (Jvm.ClassFile.FieldType.object "com/example/dragoman/dragoman/cq/Literal"))).before args0 about1 = true := code_word (m := ⟨15, 1⟩) (meth := k15m1) (c := k15c1) (by decide +kernel) rfl rfl rfl (by decide +kernel)
set_option maxRecDepth 65536 in
theorem w_c15 : (Jvm.Cond.code ({ cls := "com/example/dragoman/dragoman/cq/Literal", name := "<init>", desc := "(Ljava/lang/String;Lcom/example/dragoman/dragoman/cq/Iri;Ljava/lang/String;)V" } : Jvm.MethodName) prog_17_method_1_code (4 : Nat) (Option.none : Option Jvm.ClassFile.FieldType)).before args0 about1 = true := code_word (m := ⟨15, 0⟩) (meth := k15m0) (c := k15c0) (by decide +kernel) rfl rfl rfl (by decide +kernel)
def codes1 : List Jvm.Cond := [Jvm.Cond.code x code maxLocals ret, Jvm.Cond.code ({ cls := "com/example/dragoman/dragoman/cq/IriEqualsPinLaw", name := "str", desc := "(ICCC)Ljava/lang/String;" } : Jvm.MethodName) method_3_code (4 : Nat) (Option.some (Jvm.ClassFile.FieldType.object "java/lang/String")), Jvm.Cond.code ({ cls := "java/lang/String", name := "<init>", desc := "([C)V" } : Jvm.MethodName) jdk_42_method_3_code (2 : Nat) (Option.none : Option Jvm.ClassFile.FieldType), Jvm.Cond.code ({ cls := "java/lang/String", name := "<init>", desc := "([CIILjava/lang/Void;)V" } : Jvm.MethodName) jdk_42_method_149_code (6 : Nat) (Option.none : Option Jvm.ClassFile.FieldType), Jvm.Cond.code ({ cls := "java/lang/Object", name := "<init>", desc := "()V" } : Jvm.MethodName) object_method_1_code (1 : Nat) (Option.none : Option Jvm.ClassFile.FieldType), Jvm.Cond.code ({ cls := "com/example/dragoman/dragoman/cq/Iri", name := "<init>", desc := "(Ljava/lang/String;)V" } : Jvm.MethodName) prog_15_method_1_code (2 : Nat) (Option.none : Option Jvm.ClassFile.FieldType), Jvm.Cond.code ({ cls := "java/util/Objects", name := "requireNonNull", desc := "(Ljava/lang/Object;Ljava/lang/String;)Ljava/lang/Object;" } : Jvm.MethodName) jdk_31_method_11_code (2 : Nat) (Option.some (Jvm.ClassFile.FieldType.object "java/lang/Object")), Jvm.Cond.code ({ cls := "com/example/dragoman/dragoman/cq/Iri", name := "equals", desc := "(Ljava/lang/Object;)Z" } : Jvm.MethodName) prog_15_method_3_code (2 : Nat) (Option.some Jvm.ClassFile.FieldType.boolean), Jvm.Cond.code ({ cls := "java/lang/String", name := "equals", desc := "(Ljava/lang/Object;)Z" } : Jvm.MethodName) jdk_42_method_66_code (3 : Nat) (Option.some Jvm.ClassFile.FieldType.boolean), Jvm.Cond.code ({ cls := "java/lang/StringLatin1", name := "equals", desc := "([B[B)Z" } : Jvm.MethodName) jdk_43_method_13_code (3 : Nat) (Option.some Jvm.ClassFile.FieldType.boolean), Jvm.Cond.code ({ cls := "java/lang/StringUTF16", name := "compress", desc := "([CII)[B" } : Jvm.MethodName) jdk_52_method_16_code (6 : Nat) (Option.some (Jvm.ClassFile.FieldType.array Jvm.ClassFile.FieldType.byte)), Jvm.Cond.code ({ cls := "java/lang/StringUTF16", name := "compress", desc := "([CI[BII)I" } : Jvm.MethodName) jdk_52_method_21_code (7 : Nat) (Option.some Jvm.ClassFile.FieldType.int), Jvm.Cond.code ({ cls := "java/lang/StringUTF16", name := "coderFromArrayLen", desc := "([BI)B" } : Jvm.MethodName) jdk_52_method_15_code (2 : Nat) (Option.some Jvm.ClassFile.FieldType.byte), Jvm.Cond.code ({ cls := "com/example/dragoman/dragoman/cq/Variable", name := "<init>", desc := "(Ljava/lang/String;)V" } : Jvm.MethodName) prog_21_method_1_code (2 : Nat) (Option.none : Option Jvm.ClassFile.FieldType), Jvm.Cond.code ({ cls := "com/example/dragoman/dragoman/cq/Literal", name := "typed", desc := "(Ljava/lang/String;Lcom/example/dragoman/dragoman/cq/Iri;)Lcom/example/dragoman/dragoman/cq/Literal;" } : Jvm.MethodName) prog_17_method_2_code (2 : Nat) (Option.some (Jvm.ClassFile.FieldType.object "com/example/dragoman/dragoman/cq/Literal")), Jvm.Cond.code ({ cls := "com/example/dragoman/dragoman/cq/Literal", name := "<init>", desc := "(Ljava/lang/String;Lcom/example/dragoman/dragoman/cq/Iri;Ljava/lang/String;)V" } : Jvm.MethodName) prog_17_method_1_code (4 : Nat) (Option.none : Option Jvm.ClassFile.FieldType)]
set_option maxRecDepth 65536 in
theorem codes_eq : words1.filter isCode = codes1 := rfl
theorem w_codes : ∀ c ∈ words1.filter isCode, c.before args0 about1 = true := by
  rw [codes_eq]
  intro c hc
  simp only [codes1, List.mem_cons, List.not_mem_nil, or_false] at hc
  rcases hc with rfl | rfl | rfl | rfl | rfl | rfl | rfl | rfl | rfl | rfl | rfl | rfl | rfl | rfl | rfl | rfl
  · exact w_c0
  · exact w_c1
  · exact w_c2
  · exact w_c3
  · exact w_c4
  · exact w_c5
  · exact w_c6
  · exact w_c7
  · exact w_c8
  · exact w_c9
  · exact w_c10
  · exact w_c11
  · exact w_c12
  · exact w_c13
  · exact w_c14
  · exact w_c15
set_option maxRecDepth 65536 in
theorem w_t1 : (words1.take 24).all (fun c => isCode c || c.before args0 about1) = true := by decide +kernel
set_option maxRecDepth 65536 in
theorem w_t2 : ((words1.drop 24).take 24).all (fun c => isCode c || c.before args0 about1) = true := by decide +kernel
set_option maxRecDepth 65536 in
theorem w_t3 : (((words1.drop 24).drop 24).take 24).all (fun c => isCode c || c.before args0 about1) = true := by decide +kernel
set_option maxRecDepth 65536 in
theorem w_t4 : ((((words1.drop 24).drop 24).drop 24).take 24).all (fun c => isCode c || c.before args0 about1) = true := by decide +kernel
set_option maxRecDepth 65536 in
theorem w_t5 : ((((words1.drop 24).drop 24).drop 24).drop 24).all (fun c => isCode c || c.before args0 about1) = true := by decide +kernel
theorem w_tables : (allAtoms (Jvm.Cond.code x code maxLocals ret :: tables_1)).before args0 about1 = true := by
  rw [allAtoms_all]
  show words1.all (fun c => c.before args0 about1) = true
  refine all_split ?_ w_codes
  rw [← List.take_append_drop 24 words1, List.all_append, w_t1, ← List.take_append_drop 24 (words1.drop 24), List.all_append, w_t2, ← List.take_append_drop 24 ((words1.drop 24).drop 24), List.all_append, w_t3, ← List.take_append_drop 24 (((words1.drop 24).drop 24).drop 24), List.all_append, w_t4, w_t5]
  rfl
set_option maxRecDepth 65536 in
theorem w_rest : rest_1_c.before args0 about1 = true := by decide +kernel
set_option maxRecDepth 65536 in
theorem w_case : (Jvm.Cond.and given_1 narrow_1).before args0 about1 = true := by decide +kernel
set_option maxRecDepth 65536 in
theorem w_consts : constsHeld consts_1 about1 := Jvm.Lit.constsHeldB_iff.mp (by decide +kernel)
theorem w_applies : (headSpec (Jvm.Cond.code x code maxLocals ret :: tables_1) room_1).applies x e0.platform about1 = true :=
  (Spec.applies_iff w_frames).mpr ⟨w_running, w_runnable, w_alone, w_named, w_hears, w_ripe, w_room, w_tables⟩
theorem atStart : AtStart classFile x code maxLocals ret World_1 tables_1 room_1 Calls_1 rest_1 Pre_1 launch0 p0 e0 about1 theMethod args0 below0 :=
  ⟨lists_1, trivial, launch0.admits_env _ _ _, launch0.least_env, fairChoices_fair.cas, fairChoices_fair.clock, w_frames, w_args, w_heap, w_applies, ⟨w_consts, trivial⟩, w_rest, w_case⟩
end start1
theorem witness_1 : WitnessClaimed_1 := ⟨start1.p0, start1.e0, start1.about1, start1.theMethod, start1.args0, start1.below0, start1.atStart⟩
end Jvm.Pilot.@@N@@
