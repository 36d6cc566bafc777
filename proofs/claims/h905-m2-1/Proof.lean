import JvmDerived
import JvmDerived.Pilot.@@N@@Statement
import JvmDerived.Pilot.@@N@@Code
set_option linter.unusedVariables false
set_option linter.unusedSimpArgs false
/- laws to paste: Road.backV, Road.eqW, Road.codOf (cut by pick.py; bodies as the Statement names them) -/
namespace Jvm.Pilot.@@N@@
namespace StrChars
open Jvm Sem ClassFile Op Lib Jvm.Stand Jvm.Free.XT Jvm.Free.ALB Jvm.Free.JM Jvm.Free
open Jvm.Lib.Cold (StaticIs)
/-- a char array whose places are chars -/
def Ch (a : Addr) (A : Cell) (U : State) : Prop := Arr .char a A U ∧ Typed .char A
theorem Ch.mv {a : Addr} {A : Cell} {U U' : State} (h : Ch a A U) (hal : U.vm.Alike U'.vm) (hh : U'.heap = U.heap) : Ch a A U' := ⟨h.1.mv hal hh, h.2⟩
theorem Ch.keep {a : Addr} {A : Cell} {U U' : State} (h : Ch a A U) (hal : U.vm.Alike U'.vm) (hk : U'.heap[a]? = some A) : Ch a A U' := ⟨h.1.keep hal hk, h.2⟩
/-- what place i of a char[]'s cell holds -/
def cv (A : Cell) (i : Nat) : Int32 := match A.slots[i]? with | some (.int x) => x | _ => 0
theorem Ch.get {a : Addr} {A : Cell} {U : State} (h : Ch a A U) {i : Nat} (hi : i < A.slots.size) : A.slots[i]? = some (.int (cv A i)) := by
  have e := Array.getElem?_eq_getElem hi
  have f := h.2 i _ e
  unfold cv; rw [e]
  generalize A.slots[i] = v at f
  cases v <;> simp [fits] at f ⊢
/-- the byte that i2b leaves of a char -/
def lo8 (x : Int32) : Int32 := x.toInt8.toInt32
theorem fits_lo8 (y : Int32) : fits .byte (.int (lo8 y)) = true := by
  have h1 := y.toInt8.le_toInt
  have h2 := y.toInt8.toInt_lt
  simp only [lo8, fits, Bool.and_eq_true, decide_eq_true_eq, Int32.le_iff_toInt_le, Int8.toInt_toInt32, show (-128 : Int32).toInt = -128 from by decide, show (127 : Int32).toInt = 127 from by decide]
  omega
/-- A' is A but that each place j of lo .. hi - 1 holds f j -/
def Laid (A A' : Cell) (lo hi : Nat) (f : Nat → Value) : Prop := A'.cls = A.cls ∧ A'.vm = A.vm ∧ A'.slots.size = A.slots.size ∧ ∀ i, A'.slots[i]? = if lo ≤ i ∧ i < hi then some (f i) else A.slots[i]?
theorem Laid.zero (A : Cell) (lo : Nat) (f : Nat → Value) : Laid A A lo (lo + 0) f := ⟨rfl, rfl, rfl, fun i => by rw [if_neg (by omega)]⟩
theorem Laid.step {A Ak : Cell} {lo k : Nat} {f : Nat → Value} {v : Value} (h : Laid A Ak lo k f) (hlo : lo ≤ k) (hk : k < Ak.slots.size) (hv : v = f k) : Laid A (Ak.setSlot k v) lo (k + 1) f := by
  refine ⟨h.1, h.2.1, by simpa [Cell.setSlot] using h.2.2.1, fun i => ?_⟩
  by_cases e : k = i
  · subst e; rw [Cell.slots_setSlot_self v hk, if_pos (by omega), hv]
  · rw [Cell.slots_setSlot_ne v e, h.2.2.2 i]
    by_cases q : lo ≤ i ∧ i < k
    · rw [if_pos q, if_pos (by omega)]
    · rw [if_neg q, if_neg (by omega)]
def U16 : String := "java/lang/StringUTF16"
namespace Cmp5
def yN : MethodName := ⟨"java/lang/StringUTF16", "compress", "([CI[BII)I"⟩
abbrev yB : ByteArray := jdk_52_method_21_code
theorem d0 : decode yB 0 = .ok (.iconst 0, 1) := by decide +kernel
theorem d1 : decode yB 1 = .ok (.istore 5, 2) := by decide +kernel
theorem d3 : decode yB 3 = .ok (.iload 5, 2) := by decide +kernel
theorem d5 : decode yB 5 = .ok (.iload 4, 2) := by decide +kernel
theorem d7 : decode yB 7 = .ok (.if_icmp (.ge) 37, 3) := by decide +kernel
theorem d10 : decode yB 10 = .ok (.aload_n 0, 1) := by decide +kernel
theorem d11 : decode yB 11 = .ok (.iload_n 1, 1) := by decide +kernel
theorem d12 : decode yB 12 = .ok (.caload, 1) := by decide +kernel
theorem d13 : decode yB 13 = .ok (.istore 6, 2) := by decide +kernel
theorem d15 : decode yB 15 = .ok (.iload 6, 2) := by decide +kernel
theorem d17 : decode yB 17 = .ok (.sipush 255, 3) := by decide +kernel
theorem d20 : decode yB 20 = .ok (.if_icmp (.le) 6, 3) := by decide +kernel
theorem d26 : decode yB 26 = .ok (.aload_n 2, 1) := by decide +kernel
theorem d27 : decode yB 27 = .ok (.iload_n 3, 1) := by decide +kernel
theorem d28 : decode yB 28 = .ok (.iload 6, 2) := by decide +kernel
theorem d30 : decode yB 30 = .ok (.i2b, 1) := by decide +kernel
theorem d31 : decode yB 31 = .ok (.bastore, 1) := by decide +kernel
theorem d32 : decode yB 32 = .ok (.iinc 1 1, 3) := by decide +kernel
theorem d35 : decode yB 35 = .ok (.iinc 3 1, 3) := by decide +kernel
theorem d38 : decode yB 38 = .ok (.iinc 5 1, 3) := by decide +kernel
theorem d41 : decode yB 41 = .ok (.goto (-38), 3) := by decide +kernel
theorem d44 : decode yB 44 = .ok (.iload 4, 2) := by decide +kernel
theorem d46 : decode yB 46 = .ok (.ireturn, 1) := by decide +kernel
def site : List Cond := []
def tab : Cond := tabOf yN yB 7 (some .int) site
def P (b : Addr) (A : Cell) (d : Addr) (B : Cell) (o q len : Nat) (args : Array Value) (s : State) : Prop := args = #[.ref b, .int (Int32.ofNat o), .ref d, .int (Int32.ofNat q), .int (Int32.ofNat len)] ∧ Ch b A s ∧ Arr .byte d B s ∧ b ≠ d ∧ o + len ≤ A.slots.size ∧ q + len ≤ B.slots.size ∧ ∀ i, i < len → ¬ 255 < cv A (o + i)
def E (b : Addr) (A : Cell) (d : Addr) (B : Cell) (o q len : Nat) (r : Option Value) (s u : State) : Prop := r = some (.int (Int32.ofNat len)) ∧ ∃ B', Put d B' s u ∧ Laid B B' q (q + len) (fun j => Value.int (lo8 (cv A (o + (j - q)))))
/-- no char of the range above 255: len; the places written hold each char's low byte -/
theorem law (l : Launch) (b : Addr) (A : Cell) (d : Addr) (B : Cell) (o q len : Nat) : Law l yN 5 5 0 0 yB 7 (some .int) site (P b A d B o q len) (E b A d B o q len) (copyLocs d q len) 0 0 := by
  refine Law.of_walk (plainFor_of_name (by decide +kernel)) (by decide +kernel) (by decide +kernel) (by decide) (fun _ _ h => by rw [h.1]; rfl) (fun _ U U' hal hh h => ⟨h.1, h.2.1.mv hal hh, h.2.2.1.mv hal hh, h.2.2.2⟩) (fun r U U' V V' h1 hal h2 h => ⟨h.1, h.2.elim fun B' q => ⟨B', q.1.mv h1 h2, q.2⟩⟩) ?_
  intro p e s m args below meth c s₁ X0 hexec hbytes hml hret hlk hnm hown hh0 W hP
  obtain ⟨rfl, hA, hB, hne, l1, l2, hp⟩ := hP
  have c1 : Steps p.tables e below (s₁.setTop (entryFrame m #[.ref b, .int (Int32.ofNat o), .ref d, .int (Int32.ofNat q), .int (Int32.ofNat len)] 7)) (s₁.setTop (mkF m 0 #[.val (.ref b), .val (.int (Int32.ofNat o)), .val (.ref d), .val (.int (Int32.ofNat q)), .val (.int (Int32.ofNat len)), .unset, .unset] [])) := entry rfl
  have hA0 := hA.1.mv X0.warmed.alike hh0
  have hB0 := hB.mv X0.warmed.alike hh0
  have a31 := hA.1.2.2.2
  have c2 : Steps p.tables e below (s₁.setTop (entryFrame m #[.ref b, .int (Int32.ofNat o), .ref d, .int (Int32.ofNat q), .int (Int32.ofNat len)] 7)) (s₁.setTop (mkF m 3 #[.val (.ref b), .val (.int (Int32.ofNat o)), .val (.ref d), .val (.int (Int32.ofNat q)), .val (.int (Int32.ofNat len)), .val (.int 0), .unset] [])) := c1.trans (by
    refine iconstV X0.here hexec rfl 0 (hb hbytes d0) (by decide) ?_
    refine XS.istore X0.here hexec rfl (hb hbytes d1) rfl rfl ?_
    exact Steps.refl _)
  have loop : ∀ (r i : Nat), i + r = len → ∀ (z : Slot), (z = .unset ∨ ∃ w, z = .val w ∧ w.category = 1) → ∀ (Tl : State) (Bk : Cell), Stand p l e { frames := 0, locals := 0, cells := 0, slots := 0 } s m #[.ref b, .int (Int32.ofNat o), .ref d, .int (Int32.ofNat q), .int (Int32.ofNat len)] below meth c Tl ([] ++ copyLocs d q i) 0 0 → Put d Bk s₁ Tl → Laid B Bk q (q + i) (fun j => Value.int (lo8 (cv A (o + (j - q))))) →
      Steps p.tables e below (s₁.setTop (entryFrame m #[.ref b, .int (Int32.ofNat o), .ref d, .int (Int32.ofNat q), .int (Int32.ofNat len)] 7)) (Tl.setTop (mkF m 3 #[.val (.ref b), .val (.int (Int32.ofNat (o + i))), .val (.ref d), .val (.int (Int32.ofNat (q + i))), .val (.int (Int32.ofNat len)), .val (.int (Int32.ofNat i)), z] [])) → ∃ (T' : State) (B' : Cell) (z' : Slot), Stand p l e { frames := 0, locals := 0, cells := 0, slots := 0 } s m #[.ref b, .int (Int32.ofNat o), .ref d, .int (Int32.ofNat q), .int (Int32.ofNat len)] below meth c T' ([] ++ copyLocs d q len) 0 0 ∧ Put d B' s₁ T' ∧ Laid B B' q (q + len) (fun j => Value.int (lo8 (cv A (o + (j - q))))) ∧
      Steps p.tables e below (s₁.setTop (entryFrame m #[.ref b, .int (Int32.ofNat o), .ref d, .int (Int32.ofNat q), .int (Int32.ofNat len)] 7)) (T'.setTop (mkF m 3 #[.val (.ref b), .val (.int (Int32.ofNat (o + len))), .val (.ref d), .val (.int (Int32.ofNat (q + len))), .val (.int (Int32.ofNat len)), .val (.int (Int32.ofNat len)), z'] [])) := by
    intro r
    induction r with
    | zero =>
      intro i hi z hz Tl Bk Xl pl fl cl
      have hil : i = len := by omega
      rw [hil] at Xl fl cl
      exact ⟨Tl, Bk, z, Xl, pl, fl, cl⟩
    | succ r ih =>
      intro i hi z hz Tl Bk Xl pl fl cl
      have all := X0.warmed.alike.symm.trans Xl.warmed.alike
      have hAl := hA0.keep all (pl.other hne hA0.1)
      have hBk := hB0.like all pl.1 fl.1 fl.2.1 fl.2.2.1
      have hlt : q + i < Bk.slots.size := by rw [fl.2.2.1]; omega
      have c3 : Steps p.tables e below (s₁.setTop (entryFrame m #[.ref b, .int (Int32.ofNat o), .ref d, .int (Int32.ofNat q), .int (Int32.ofNat len)] 7)) (Tl.setTop (mkF m 12 #[.val (.ref b), .val (.int (Int32.ofNat (o + i))), .val (.ref d), .val (.int (Int32.ofNat (q + i))), .val (.int (Int32.ofNat len)), .val (.int (Int32.ofNat i)), z] [.int (Int32.ofNat (o + i)), .ref b])) := cl.trans (by
        refine XS.iload Xl.here hexec rfl (hb hbytes d3) rfl ?_
        refine XS.iload Xl.here hexec rfl (hb hbytes d5) rfl ?_
        refine XS.icmpNo Xl.here hexec rfl (hb hbytes d7) rfl (ii_ge_f (lt32 (by omega) (by omega))) ?_
        refine XS.aloadN Xl.here hexec rfl (hb hbytes d10) rfl rfl ?_
        refine XS.iloadN Xl.here hexec rfl (hb hbytes d11) rfl ?_
        exact Steps.refl _)
      have c4 : Steps p.tables e below (s₁.setTop (entryFrame m #[.ref b, .int (Int32.ofNat o), .ref d, .int (Int32.ofNat q), .int (Int32.ofNat len)] 7)) (Tl.setTop (mkF m 13 #[.val (.ref b), .val (.int (Int32.ofNat (o + i))), .val (.ref d), .val (.int (Int32.ofNat (q + i))), .val (.int (Int32.ofNat len)), .val (.int (Int32.ofNat i)), z] [.int (cv A (o + i))])) := c3.trans (by
        refine Xl.aget hexec hAl rfl (hA.get (i := o + i) (by omega)) rfl rfl (hb hbytes d12) ?_
        exact Steps.refl _)
      have c5 : Steps p.tables e below (s₁.setTop (entryFrame m #[.ref b, .int (Int32.ofNat o), .ref d, .int (Int32.ofNat q), .int (Int32.ofNat len)] 7)) (Tl.setTop (mkF m 15 #[.val (.ref b), .val (.int (Int32.ofNat (o + i))), .val (.ref d), .val (.int (Int32.ofNat (q + i))), .val (.int (Int32.ofNat len)), .val (.int (Int32.ofNat i)), .val (.int (cv A (o + i)))] [])) := c4.trans (by
        refine XS.istoreS Xl.here hexec rfl (hb hbytes d13) rfl rfl hz ?_
        exact Steps.refl _)
      have c6 : Steps p.tables e below (s₁.setTop (entryFrame m #[.ref b, .int (Int32.ofNat o), .ref d, .int (Int32.ofNat q), .int (Int32.ofNat len)] 7)) (Tl.setTop (mkF m 31 #[.val (.ref b), .val (.int (Int32.ofNat (o + i))), .val (.ref d), .val (.int (Int32.ofNat (q + i))), .val (.int (Int32.ofNat len)), .val (.int (Int32.ofNat i)), .val (.int (cv A (o + i)))] [.int (lo8 (cv A (o + i))), .int (Int32.ofNat (q + i)), .ref d])) := c5.trans (by
        refine XS.iload Xl.here hexec rfl (hb hbytes d15) rfl ?_
        refine sipushV Xl.here hexec rfl 255 (hb hbytes d17) (by decide) ?_
        refine XS.icmpYes Xl.here hexec rfl (pc0 := 20) rfl (hb hbytes d20) rfl (ii_le_t (hp i (by omega))) (by decide) rfl ?_
        refine XS.aloadN Xl.here hexec rfl (hb hbytes d26) rfl rfl ?_
        refine XS.iloadN Xl.here hexec rfl (hb hbytes d27) rfl ?_
        refine XS.iload Xl.here hexec rfl (hb hbytes d28) rfl ?_
        refine i2b Xl.here hexec rfl (hb hbytes d30) rfl ?_
        exact Steps.refl _)
      obtain ⟨T7, X7, p7, st7⟩ := Xl.aput hexec hBk rfl hlt rfl (fits_lo8 (cv A (o + i))) (g := (mkF m 31 #[.val (.ref b), .val (.int (Int32.ofNat (o + i))), .val (.ref d), .val (.int (Int32.ofNat (q + i))), .val (.int (Int32.ofNat len)), .val (.int (Int32.ofNat i)), .val (.int (cv A (o + i)))] [.int (lo8 (cv A (o + i))), .int (Int32.ofNat (q + i)), .ref d])) rfl (rest := []) rfl (hb hbytes d31)
      have c8 : Steps p.tables e below (s₁.setTop (entryFrame m #[.ref b, .int (Int32.ofNat o), .ref d, .int (Int32.ofNat q), .int (Int32.ofNat len)] 7)) (T7.setTop (mkF m 32 #[.val (.ref b), .val (.int (Int32.ofNat (o + i))), .val (.ref d), .val (.int (Int32.ofNat (q + i))), .val (.int (Int32.ofNat len)), .val (.int (Int32.ofNat i)), .val (.int (cv A (o + i)))] [])) := c6.trans (st7 _ (Steps.refl _))
      have c9 : Steps p.tables e below (s₁.setTop (entryFrame m #[.ref b, .int (Int32.ofNat o), .ref d, .int (Int32.ofNat q), .int (Int32.ofNat len)] 7)) (T7.setTop (mkF m 3 #[.val (.ref b), .val (.int (Int32.ofNat (o + i) + 1)), .val (.ref d), .val (.int (Int32.ofNat (q + i) + 1)), .val (.int (Int32.ofNat len)), .val (.int (Int32.ofNat i + 1)), .val (.int (cv A (o + i)))] [])) := c8.trans (by
        refine iincV X7.here hexec rfl 1 (hb hbytes d32) (by decide) rfl rfl ?_
        refine iincV X7.here hexec rfl 1 (hb hbytes d35) (by decide) rfl rfl ?_
        refine iincV X7.here hexec rfl 1 (hb hbytes d38) (by decide) rfl rfl ?_
        refine XS.goto X7.here hexec rfl (pc0 := 41) rfl (hb hbytes d41) (by decide) rfl ?_
        exact Steps.refl _)
      have c10 : Steps p.tables e below (s₁.setTop (entryFrame m #[.ref b, .int (Int32.ofNat o), .ref d, .int (Int32.ofNat q), .int (Int32.ofNat len)] 7)) (T7.setTop (mkF m 3 #[.val (.ref b), .val (.int (Int32.ofNat (o + (i + 1)))), .val (.ref d), .val (.int (Int32.ofNat (q + (i + 1)))), .val (.int (Int32.ofNat len)), .val (.int (Int32.ofNat (i + 1))), .val (.int (cv A (o + i)))] [])) := by
        have := c9
        rw [succ32, succ32, succ32] at this
        exact this
      exact ih (i + 1) (by omega) _ (Or.inr ⟨_, rfl, rfl⟩) T7 _ (by rw [copyLocs_step, ← List.append_assoc]; exact X7) (pl.trans p7) (fl.step (by omega) hlt (by simp)) c10
  obtain ⟨T9, B9, z9, X9, p9, f9, g9⟩ := loop len 0 (by omega) .unset (Or.inl rfl) s₁ B (by simpa [copyLocs] using X0) ⟨hB0.1, fun _ _ => rfl, rfl⟩ (Laid.zero _ _ _) c2
  have c11 : Steps p.tables e below (s₁.setTop (entryFrame m #[.ref b, .int (Int32.ofNat o), .ref d, .int (Int32.ofNat q), .int (Int32.ofNat len)] 7)) (T9.setTop (mkF m 46 #[.val (.ref b), .val (.int (Int32.ofNat (o + len))), .val (.ref d), .val (.int (Int32.ofNat (q + len))), .val (.int (Int32.ofNat len)), .val (.int (Int32.ofNat len)), z9] [.int (Int32.ofNat len)])) := g9.trans (by
    refine XS.iload X9.here hexec rfl (hb hbytes d3) rfl ?_
    refine XS.iload X9.here hexec rfl (hb hbytes d5) rfl ?_
    refine XS.icmpYes X9.here hexec rfl (pc0 := 7) rfl (hb hbytes d7) rfl (ii_ge_t (nlt32 (by omega) (Nat.le_refl _))) (by decide) rfl ?_
    refine XS.iload X9.here hexec rfl (hb hbytes d44) rfl ?_
    exact Steps.refl _)
  exact ⟨T9, some (.int (Int32.ofNat len)), _, _, _, X9, by simp, rfl, rfl, (fun h => by cases h), ⟨rfl, B9, p9.from hh0, f9⟩, fun fs hl => c11.trans (X9.ireturnOut hexec hret rfl (Or.inl rfl) (hb hbytes d46) hl)⟩
end Cmp5
namespace Cmp3
def yN : MethodName := ⟨"java/lang/StringUTF16", "compress", "([CII)[B"⟩
abbrev yB : ByteArray := jdk_52_method_16_code
theorem d0 : decode yB 0 = .ok (.iload_n 2, 1) := by decide +kernel
theorem d1 : decode yB 1 = .ok (.newarray .byte, 2) := by decide +kernel
theorem d3 : decode yB 3 = .ok (.astore_n 3, 1) := by decide +kernel
theorem d4 : decode yB 4 = .ok (.aload_n 0, 1) := by decide +kernel
theorem d5 : decode yB 5 = .ok (.iload_n 1, 1) := by decide +kernel
theorem d6 : decode yB 6 = .ok (.aload_n 3, 1) := by decide +kernel
theorem d7 : decode yB 7 = .ok (.iconst 0, 1) := by decide +kernel
theorem d8 : decode yB 8 = .ok (.iload_n 2, 1) := by decide +kernel
theorem d9 : decode yB 9 = .ok (.invokestatic 115, 3) := by decide +kernel
theorem d12 : decode yB 12 = .ok (.istore 4, 2) := by decide +kernel
theorem d14 : decode yB 14 = .ok (.iload 4, 2) := by decide +kernel
theorem d16 : decode yB 16 = .ok (.iload_n 2, 1) := by decide +kernel
theorem d17 : decode yB 17 = .ok (.if_icmp (.eq) 40, 3) := by decide +kernel
theorem d57 : decode yB 57 = .ok (.aload_n 3, 1) := by decide +kernel
theorem d58 : decode yB 58 = .ok (.areturn, 1) := by decide +kernel
def site : List Cond := [.arrayClass .byte, Cmp5.tab] ++ staticW U16 115 Cmp5.yN
def tab : Cond := tabOf yN yB 6 (some (.array .byte)) site
def P (b : Addr) (A : Cell) (o len : Nat) (args : Array Value) (s : State) : Prop := args = #[.ref b, .int (Int32.ofNat o), .int (Int32.ofNat len)] ∧ Ch b A s ∧ o + len ≤ A.slots.size ∧ len ≤ 536870912 ∧ ∀ i, i < len → ¬ 255 < cv A (o + i)
def E (b : Addr) (A : Cell) (o len : Nat) (r : Option Value) (s u : State) : Prop := NewArr .byte "[B" len (fun j => .int (lo8 (cv A (o + j)))) r s u ∧ u.heap.size = s.heap.size + 1
/-- no char of the range above 255: a new byte[] of their low bytes -/
theorem law (l : Launch) (b : Addr) (A : Cell) (o len : Nat) : Law l yN 3 3 1 18 yB 6 (some (.array .byte)) site (P b A o len) (E b A o len) [] 1 len := by
  refine Law.of_walk (plainFor_of_name (by decide +kernel)) (by decide +kernel) (by decide +kernel) (by decide) (fun _ _ h => by rw [h.1]; rfl) (fun _ U U' hal hh h => ⟨h.1, h.2.1.mv hal hh, h.2.2⟩) (fun r U U' V V' h1 hal h2 h => ⟨NewArr.mv r U U' V V' h1 hal h2 h.1, by rw [h1, h2]; exact h.2⟩) ?_
  intro p e s m args below meth c s₁ X0 hexec hbytes hml hret hlk hnm hown hh0 W hP
  obtain ⟨rfl, hA, l1, l2, hp⟩ := hP
  have a31 := hA.1.2.2.2
  have c1 : Steps p.tables e below (s₁.setTop (entryFrame m #[.ref b, .int (Int32.ofNat o), .int (Int32.ofNat len)] 6)) (s₁.setTop (mkF m 0 #[.val (.ref b), .val (.int (Int32.ofNat o)), .val (.int (Int32.ofNat len)), .unset, .unset, .unset] [])) := entry rfl
  have c2 : Steps p.tables e below (s₁.setTop (entryFrame m #[.ref b, .int (Int32.ofNat o), .int (Int32.ofNat len)] 6)) (s₁.setTop (mkF m 1 #[.val (.ref b), .val (.int (Int32.ofNat o)), .val (.int (Int32.ofNat len)), .unset, .unset, .unset] [.int (Int32.ofNat len)])) := c1.trans (by
    refine XS.iloadN X0.here hexec rfl (hb hbytes d0) rfl ?_
    exact Steps.refl _)
  obtain ⟨T3, B3, X3, ba3, bs3, bv3, bh3, bf3, st3⟩ := X0.anew hexec (atype := .byte) (wk W (.arrayClass .byte)) rfl (by show len * 1 ≤ _; omega) (by omega) (g := (mkF m 1 #[.val (.ref b), .val (.int (Int32.ofNat o)), .val (.int (Int32.ofNat len)), .unset, .unset, .unset] [.int (Int32.ofNat len)])) rfl (hb hbytes d1) (rest := []) rfl (Nat.le_refl _) (by show 0 + len ≤ len; omega)
  rw [hh0] at ba3 st3
  have kp3 : XT.Kept s T3 := (XT.Kept.of_eq hh0).push bh3
  have hA3 := hA.keep X3.warmed.alike (kp3 _ _ hA.1.1)
  have hne : b ≠ s.heap.size := hA.1.ne
  have c4 : Steps p.tables e below (s₁.setTop (entryFrame m #[.ref b, .int (Int32.ofNat o), .int (Int32.ofNat len)] 6)) (T3.setTop (mkF m 3 #[.val (.ref b), .val (.int (Int32.ofNat o)), .val (.int (Int32.ofNat len)), .unset, .unset, .unset] [.ref s.heap.size])) := c2.trans (st3 _ (Steps.refl _))
  have c5 : Steps p.tables e below (s₁.setTop (entryFrame m #[.ref b, .int (Int32.ofNat o), .int (Int32.ofNat len)] 6)) (T3.setTop (mkF m 9 #[.val (.ref b), .val (.int (Int32.ofNat o)), .val (.int (Int32.ofNat len)), .val (.ref s.heap.size), .unset, .unset] [.int (Int32.ofNat len), .int 0, .ref s.heap.size, .int (Int32.ofNat o), .ref b])) := c4.trans (by
    refine XS.astoreN X3.here hexec rfl (hb hbytes d3) rfl rfl rfl ?_
    refine XS.aloadN X3.here hexec rfl (hb hbytes d4) rfl rfl ?_
    refine XS.iloadN X3.here hexec rfl (hb hbytes d5) rfl ?_
    refine XS.aloadN X3.here hexec rfl (hb hbytes d6) rfl rfl ?_
    refine iconstV X3.here hexec rfl 0 (hb hbytes d7) (by decide) ?_
    refine XS.iloadN X3.here hexec rfl (hb hbytes d8) rfl ?_
    exact Steps.refl _)
  obtain ⟨v6, T6, X6, E6, g6⟩ := X3.callS hexec (Cmp5.law l b A s.heap.size B3 o 0 len) hown (wks W (staticW U16 115 Cmp5.yN)) (wk W Cmp5.tab) (W := 0) (Nat.le_of_ble_eq_true rfl) (Nat.le_of_ble_eq_true rfl) (Nat.le_refl _) (by show 0 + len + 0 ≤ len; omega) (g := (mkF m 9 #[.val (.ref b), .val (.int (Int32.ofNat o)), .val (.int (Int32.ofNat len)), .val (.ref s.heap.size), .unset, .unset] [.int (Int32.ofNat len), .int (Int32.ofNat 0), .ref s.heap.size, .int (Int32.ofNat o), .ref b])) rfl (by rw [hml]; rfl) c5 (argsL := [.ref b, .int (Int32.ofNat o), .ref s.heap.size, .int (Int32.ofNat 0), .int (Int32.ofNat len)]) (rest := []) rfl rfl (by show 2 * 0 + 0 ≤ _; decide) (hb hbytes d9) (⟨rfl, hA3, ba3, hne, l1, by rw [bs3]; simp, hp⟩)
  obtain ⟨rfl, B6, p6, f6⟩ := E6
  have c7 : Steps p.tables e below (s₁.setTop (entryFrame m #[.ref b, .int (Int32.ofNat o), .int (Int32.ofNat len)] 6)) (T6.setTop (mkF m 12 #[.val (.ref b), .val (.int (Int32.ofNat o)), .val (.int (Int32.ofNat len)), .val (.ref s.heap.size), .unset, .unset] [.int (Int32.ofNat len)])) := g6
  have c8 : Steps p.tables e below (s₁.setTop (entryFrame m #[.ref b, .int (Int32.ofNat o), .int (Int32.ofNat len)] 6)) (T6.setTop (mkF m 58 #[.val (.ref b), .val (.int (Int32.ofNat o)), .val (.int (Int32.ofNat len)), .val (.ref s.heap.size), .val (.int (Int32.ofNat len)), .unset] [.ref s.heap.size])) := c7.trans (by
    refine XS.istore X6.here hexec rfl (hb hbytes d12) rfl rfl ?_
    refine XS.iload X6.here hexec rfl (hb hbytes d14) rfl ?_
    refine XS.iloadN X6.here hexec rfl (hb hbytes d16) rfl ?_
    refine XS.icmpYes X6.here hexec rfl (pc0 := 17) rfl (hb hbytes d17) rfl (ii_eq_t rfl) (by decide) rfl ?_
    refine XS.aloadN X6.here hexec rfl (hb hbytes d57) rfl rfl ?_
    exact Steps.refl _)
  have X8 := X6.wide (L' := []) (cells' := 1) (slots' := len) (fun x hx hlt => by
    simp only [List.nil_append, copyLocs, List.mem_map, List.mem_range] at hx
    obtain ⟨i, -, rfl⟩ := hx
    exact absurd hlt (Nat.lt_irrefl _)) (Nat.le_refl _) (by omega)
  exact ⟨T6, some (.ref s.heap.size), _, _, _, X8, rfl, rfl, rfl, (fun h => by cases h), ⟨⟨rfl, B6, ba3.like (X3.warmed.alike.symm.trans X6.warmed.alike) p6.1 f6.1 f6.2.1 f6.2.2.1, f6.2.1.trans bv3, by rw [X6.warmed.alike.findClass, f6.1]; exact bf3, by rw [f6.2.2.1, bs3]; simp, fun j hj => by rw [f6.2.2.2 j, if_pos (by omega)]; rfl, kp3.put p6 (Nat.le_refl _)⟩, by rw [p6.2.2, bh3, hh0]; simp⟩, fun fs hl => c8.trans (X8.areturnOut hexec rfl hret rfl (hb hbytes d58) hl)⟩
end Cmp3
namespace CodL
def yN : MethodName := ⟨"java/lang/StringUTF16", "coderFromArrayLen", "([BI)B"⟩
abbrev yB : ByteArray := jdk_52_method_15_code
theorem d0 : decode yB 0 = .ok (.iload_n 1, 1) := by decide +kernel
theorem d1 : decode yB 1 = .ok (.aload_n 0, 1) := by decide +kernel
theorem d2 : decode yB 2 = .ok (.arraylength, 1) := by decide +kernel
theorem d3 : decode yB 3 = .ok (.isub, 1) := by decide +kernel
theorem d4 : decode yB 4 = .ok (.bipush 31, 2) := by decide +kernel
theorem d6 : decode yB 6 = .ok (.iushr, 1) := by decide +kernel
theorem d7 : decode yB 7 = .ok (.i2b, 1) := by decide +kernel
theorem d8 : decode yB 8 = .ok (.ireturn, 1) := by decide +kernel
def site : List Cond := []
def tab : Cond := tabOf yN yB 2 (some .byte) site
def P (d : Addr) (B : Cell) (args : Array Value) (s : State) : Prop := args = #[.ref d, .int (Int32.ofNat B.slots.size)] ∧ Arr .byte d B s
def E (r : Option Value) (s u : State) : Prop := XT.PureE (some (.int 0)) r s u
/-- an array as long as the number of chars: LATIN1 -/
theorem law (l : Launch) (d : Addr) (B : Cell) : Law l yN 2 2 0 0 yB 2 (some .byte) site (P d B) E [] 0 0 := by
  refine Law.of_walk (plainFor_of_name (by decide +kernel)) (by decide +kernel) (by decide +kernel) (by decide) (fun _ _ h => by rw [h.1]; rfl) (fun _ U U' hal hh h => ⟨h.1, h.2.mv hal hh⟩) (fun r U U' V V' h1 hal h2 h => XT.PureE.mv r U U' V V' h1 hal h2 h) ?_
  intro p e s m args below meth c s₁ X0 hexec hbytes hml hret hlk hnm hown hh0 W hP
  obtain ⟨rfl, hB⟩ := hP
  have hB0 := hB.mv X0.warmed.alike hh0
  have c1 : Steps p.tables e below (s₁.setTop (entryFrame m #[.ref d, .int (Int32.ofNat B.slots.size)] 2)) (s₁.setTop (mkF m 0 #[.val (.ref d), .val (.int (Int32.ofNat B.slots.size))] [])) := entry rfl
  have c2 : Steps p.tables e below (s₁.setTop (entryFrame m #[.ref d, .int (Int32.ofNat B.slots.size)] 2)) (s₁.setTop (mkF m 2 #[.val (.ref d), .val (.int (Int32.ofNat B.slots.size))] [.ref d, .int (Int32.ofNat B.slots.size)])) := c1.trans (by
    refine XS.iloadN X0.here hexec rfl (hb hbytes d0) rfl ?_
    refine XS.aloadN X0.here hexec rfl (hb hbytes d1) rfl rfl ?_
    exact Steps.refl _)
  have c3 : Steps p.tables e below (s₁.setTop (entryFrame m #[.ref d, .int (Int32.ofNat B.slots.size)] 2)) (s₁.setTop (mkF m 8 #[.val (.ref d), .val (.int (Int32.ofNat B.slots.size))] [.int (lo8 (ushr (Int32.ofNat B.slots.size - Int32.ofNat B.slots.size) 31))])) := c2.trans (by
    refine X0.alen hexec hB0 rfl rfl (hb hbytes d2) ?_
    refine XS.isub X0.here hexec rfl (hb hbytes d3) rfl ?_
    refine bipushV X0.here hexec rfl 31 (hb hbytes d4) (by decide) ?_
    refine iushr X0.here hexec rfl (hb hbytes d6) rfl ?_
    refine i2b X0.here hexec rfl (hb hbytes d7) rfl ?_
    exact Steps.refl _)
  have e0 : lo8 (ushr (Int32.ofNat B.slots.size - Int32.ofNat B.slots.size) 31) = 0 := by rw [Int32.sub_self]; decide
  rw [e0] at c3
  exact ⟨s₁, some (.int 0), _, _, _, X0, rfl, rfl, rfl, (fun h => by cases h), ⟨rfl, hh0⟩, fun fs hl => c3.trans (X0.ireturnOut hexec hret rfl (Or.inr (Or.inr (Or.inl rfl))) (hb hbytes d8) hl)⟩
end CodL
/-- the String at a is Latin-1 over a new byte[] (the heap's one new cell): the low bytes of the len chars of A from o on; every cell but a is kept -/
def Got (a : Addr) (D : Cell) (fV fC : Field) (A : Cell) (o len : Nat) (r : Option Value) (s u : State) : Prop := r = none ∧ ∃ D' V : Cell, Blank "java/lang/String" a D' u ∧ Same D D' [fV.slot, fC.slot] ∧ D'.slots[fV.slot]? = some (.ref s.heap.size) ∧ D'.slots[fC.slot]? = some (.int 0) ∧ Arr .byte s.heap.size V u ∧ V.vm = .none ∧ u.vm.findClass "[B" = some V.cls ∧ V.slots.size = len ∧ (∀ j, j < len → V.slots[j]? = some (.int (lo8 (cv A (o + j))))) ∧ (∀ (y : Addr) (c : Cell), y ≠ a → s.heap[y]? = some c → u.heap[y]? = some c) ∧ u.heap.size = s.heap.size + 1
theorem Got.mv {a : Addr} {D A : Cell} {fV fC : Field} {o len : Nat} : ∀ r (U U' V V' : State), U'.heap = U.heap → V.vm.Alike V'.vm → V'.heap = V.heap → Got a D fV fC A o len r U V → Got a D fV fC A o len r U' V' :=
  fun r U U' V V' h1 hal h2 ⟨e0, D', X, a1, a2, a3, a4, a5, a6, a7, a8, a9, a10, a11⟩ => ⟨e0, D', X, a1.mv hal h2, a2, by rw [h1]; exact a3, a4, by rw [h1]; exact a5.mv hal h2, a6, by rw [hal.findClass]; exact a7, a8, a9, by rw [h1, h2]; exact a10, by rw [h1, h2]; exact a11⟩
namespace New4
def yN : MethodName := ⟨"java/lang/String", "<init>", "([CIILjava/lang/Void;)V"⟩
abbrev yB : ByteArray := jdk_42_method_149_code
theorem d0 : decode yB 0 = .ok (.aload_n 0, 1) := by decide +kernel
theorem d1 : decode yB 1 = .ok (.invokespecial 1, 3) := by decide +kernel
theorem d4 : decode yB 4 = .ok (.iload_n 3, 1) := by decide +kernel
theorem d5 : decode yB 5 = .ok (.ifCond (.ne) 22, 3) := by decide +kernel
theorem d27 : decode yB 27 = .ok (.getstatic 38, 3) := by decide +kernel
theorem d30 : decode yB 30 = .ok (.ifCond (.eq) 28, 3) := by decide +kernel
theorem d33 : decode yB 33 = .ok (.aload_n 1, 1) := by decide +kernel
theorem d34 : decode yB 34 = .ok (.iload_n 2, 1) := by decide +kernel
theorem d35 : decode yB 35 = .ok (.iload_n 3, 1) := by decide +kernel
theorem d36 : decode yB 36 = .ok (.invokestatic 177, 3) := by decide +kernel
theorem d39 : decode yB 39 = .ok (.astore 5, 2) := by decide +kernel
theorem d41 : decode yB 41 = .ok (.aload_n 0, 1) := by decide +kernel
theorem d42 : decode yB 42 = .ok (.aload 5, 2) := by decide +kernel
theorem d44 : decode yB 44 = .ok (.iload_n 3, 1) := by decide +kernel
theorem d45 : decode yB 45 = .ok (.invokestatic 47, 3) := by decide +kernel
theorem d48 : decode yB 48 = .ok (.putfield 15, 3) := by decide +kernel
theorem d51 : decode yB 51 = .ok (.aload_n 0, 1) := by decide +kernel
theorem d52 : decode yB 52 = .ok (.aload 5, 2) := by decide +kernel
theorem d54 : decode yB 54 = .ok (.putfield 9, 3) := by decide +kernel
theorem d57 : decode yB 57 = .ok (.return_, 1) := by decide +kernel
def site : List Cond := [.fieldLink "java/lang/String" 38 "java/lang/String" "COMPACT_STRINGS" "Z", Cmp3.tab, CodL.tab, .laysFinal "java/lang/String" "java/lang/String" "value" "[B", .fieldLink "java/lang/String" 9 "java/lang/String" "value" "[B", .laysFinal "java/lang/String" "java/lang/String" "coder" "B", .fieldLink "java/lang/String" 15 "java/lang/String" "coder" "B"] ++ objW "java/lang/String" 1 ++ staticW "java/lang/String" 177 Cmp3.yN ++ staticW "java/lang/String" 47 CodL.yN
def tab : Cond := tabOf yN yB 6 none site
def P (a : Addr) (D : Cell) (fV fC : Field) (b : Addr) (A : Cell) (z : Int32) (o len : Nat) (args : Array Value) (s : State) : Prop := args = #[.ref a, .ref b, .int (Int32.ofNat o), .int (Int32.ofNat len), .null] ∧ Blank "java/lang/String" a D s ∧ Found "java/lang/String" "value" "[B" fV s ∧ Found "java/lang/String" "coder" "B" fC s ∧ Ch b A s ∧ StaticIs s "java/lang/String" "COMPACT_STRINGS" "Z" (.int z) ∧ ¬ z = 0 ∧ 0 < len ∧ o + len ≤ A.slots.size ∧ len ≤ 536870912 ∧ ∀ i, i < len → ¬ 255 < cv A (o + i)
def E (a : Addr) (D : Cell) (fV fC : Field) (A : Cell) (o len : Nat) (r : Option Value) (s u : State) : Prop := Got a D fV fC A o len r s u
/-- len > 0, no char of the range above 255: a Latin-1 String of their low bytes -/
theorem law (l : Launch) (a : Addr) (D : Cell) (fV fC : Field) (b : Addr) (A : Cell) (z : Int32) (o len : Nat) : Law l yN 5 4 2 35 yB 6 none site (P a D fV fC b A z o len) (E a D fV fC A o len) [⟨a, fC.slot⟩, ⟨a, fV.slot⟩] 1 len := by
  refine Law.of_walk (plainFor_of_name (by decide +kernel)) (by decide +kernel) (by decide +kernel) (by decide) (fun _ _ h => by rw [h.1]; rfl) (fun _ U U' hal hh h => ⟨h.1, h.2.1.mv hal hh, h.2.2.1.al hal, h.2.2.2.1.al hal, h.2.2.2.2.1.mv hal hh, h.2.2.2.2.2.1.there hal hh, h.2.2.2.2.2.2⟩) (fun r U U' V V' h1 hal h2 h => Got.mv r U U' V V' h1 hal h2 h) ?_
  intro p e s m args below meth c s₁ X0 hexec hbytes hml hret hlk hnm hown hh0 W hP
  obtain ⟨rfl, hB, f1, f2, hA, s1, hz, l0, l1, l2, hp⟩ := hP
  have a31 := hA.1.2.2.2
  have c1 : Steps p.tables e below (s₁.setTop (entryFrame m #[.ref a, .ref b, .int (Int32.ofNat o), .int (Int32.ofNat len), .null] 6)) (s₁.setTop (mkF m 0 #[.val (.ref a), .val (.ref b), .val (.int (Int32.ofNat o)), .val (.int (Int32.ofNat len)), .val .null, .unset] [])) := entry rfl
  have c2 : Steps p.tables e below (s₁.setTop (entryFrame m #[.ref a, .ref b, .int (Int32.ofNat o), .int (Int32.ofNat len), .null] 6)) (s₁.setTop (mkF m 1 #[.val (.ref a), .val (.ref b), .val (.int (Int32.ofNat o)), .val (.int (Int32.ofNat len)), .val .null, .unset] [.ref a])) := c1.trans (by
    refine XS.aloadN X0.here hexec rfl (hb hbytes d0) rfl rfl ?_
    exact Steps.refl _)
  obtain ⟨T3, X3, q3, st3⟩ := X0.oinit hexec hown (wks W (objW "java/lang/String" 1)) (g := (mkF m 1 #[.val (.ref a), .val (.ref b), .val (.int (Int32.ofNat o)), .val (.int (Int32.ofNat len)), .val .null, .unset] [.ref a])) rfl (by rw [hml]; rfl) (rest := []) rfl (hb hbytes d1) (W := 0) (by show 2 * 0 + 0 ≤ _; decide) (Nat.le_of_ble_eq_true rfl) (Nat.le_of_ble_eq_true rfl)
  have hh3 := q3.trans hh0
  have c4 : Steps p.tables e below (s₁.setTop (entryFrame m #[.ref a, .ref b, .int (Int32.ofNat o), .int (Int32.ofNat len), .null] 6)) (T3.setTop (mkF m 27 #[.val (.ref a), .val (.ref b), .val (.int (Int32.ofNat o)), .val (.int (Int32.ofNat len)), .val .null, .unset] [])) := (c2.trans (st3 _ (Steps.refl _))).trans (by
    refine XS.iloadN X3.here hexec rfl (hb hbytes d4) rfl ?_
    refine XS.ifYes X3.here hexec rfl (pc0 := 5) rfl (hb hbytes d5) rfl (i0_ne_t (nz32 (by omega) l0)) (by decide) rfl ?_
    exact Steps.refl _)
  obtain ⟨T5, X5, q5, st5⟩ := X3.sget hexec hown (wk W (.fieldLink "java/lang/String" 38 "java/lang/String" "COMPACT_STRINGS" "Z")) s1 (fun _ _ h => by rw [hh3]; exact h) (g := (mkF m 27 #[.val (.ref a), .val (.ref b), .val (.int (Int32.ofNat o)), .val (.int (Int32.ofNat len)), .val .null, .unset] [])) rfl (hb hbytes d27)
  have hh5 := q5.trans hh3
  have c6 : Steps p.tables e below (s₁.setTop (entryFrame m #[.ref a, .ref b, .int (Int32.ofNat o), .int (Int32.ofNat len), .null] 6)) (T5.setTop (mkF m 30 #[.val (.ref a), .val (.ref b), .val (.int (Int32.ofNat o)), .val (.int (Int32.ofNat len)), .val .null, .unset] [.int z])) := c4.trans (st5 _ (Steps.refl _))
  have c7 : Steps p.tables e below (s₁.setTop (entryFrame m #[.ref a, .ref b, .int (Int32.ofNat o), .int (Int32.ofNat len), .null] 6)) (T5.setTop (mkF m 36 #[.val (.ref a), .val (.ref b), .val (.int (Int32.ofNat o)), .val (.int (Int32.ofNat len)), .val .null, .unset] [.int (Int32.ofNat len), .int (Int32.ofNat o), .ref b])) := c6.trans (by
    refine XS.ifNo X5.here hexec rfl (hb hbytes d30) rfl (i0_eq_f hz) ?_
    refine XS.aloadN X5.here hexec rfl (hb hbytes d33) rfl rfl ?_
    refine XS.iloadN X5.here hexec rfl (hb hbytes d34) rfl ?_
    refine XS.iloadN X5.here hexec rfl (hb hbytes d35) rfl ?_
    exact Steps.refl _)
  obtain ⟨v8, T8, X8, E8, g8⟩ := X5.callS hexec (Cmp3.law l b A o len) hown (wks W (staticW "java/lang/String" 177 Cmp3.yN)) (wk W Cmp3.tab) (W := 0) (Nat.le_of_ble_eq_true rfl) (Nat.le_of_ble_eq_true rfl) (Nat.le_refl _) (by show 0 + len ≤ len; omega) (g := (mkF m 36 #[.val (.ref a), .val (.ref b), .val (.int (Int32.ofNat o)), .val (.int (Int32.ofNat len)), .val .null, .unset] [.int (Int32.ofNat len), .int (Int32.ofNat o), .ref b])) rfl (by rw [hml]; rfl) c7 (argsL := [.ref b, .int (Int32.ofNat o), .int (Int32.ofNat len)]) (rest := []) rfl rfl (by show 2 * 0 + 0 ≤ _; decide) (hb hbytes d36) (⟨rfl, hA.mv X5.warmed.alike hh5, l1, l2, hp⟩)
  obtain ⟨e8, z8⟩ := E8
  obtain ⟨rfl, N, n1, n2, n3, n4, n5, n6⟩ := NewArr.mv _ T5 s _ _ hh5.symm (Vm.Alike.refl _) rfl e8
  rw [hh5] at z8
  have hB1 := hB.keep X8.warmed.alike (n6 _ _ hB.1)
  have hne : s.heap.size ≠ a := (Nat.ne_of_lt (Array.getElem?_eq_some_iff.mp hB.1).1).symm
  have c9 : Steps p.tables e below (s₁.setTop (entryFrame m #[.ref a, .ref b, .int (Int32.ofNat o), .int (Int32.ofNat len), .null] 6)) (T8.setTop (mkF m 39 #[.val (.ref a), .val (.ref b), .val (.int (Int32.ofNat o)), .val (.int (Int32.ofNat len)), .val .null, .unset] [.ref s.heap.size])) := g8
  have c10 : Steps p.tables e below (s₁.setTop (entryFrame m #[.ref a, .ref b, .int (Int32.ofNat o), .int (Int32.ofNat len), .null] 6)) (T8.setTop (mkF m 45 #[.val (.ref a), .val (.ref b), .val (.int (Int32.ofNat o)), .val (.int (Int32.ofNat len)), .val .null, .val (.ref s.heap.size)] [.int (Int32.ofNat N.slots.size), .ref s.heap.size, .ref a])) := by
    have hc : Steps p.tables e below (s₁.setTop (entryFrame m #[.ref a, .ref b, .int (Int32.ofNat o), .int (Int32.ofNat len), .null] 6)) (T8.setTop (mkF m 45 #[.val (.ref a), .val (.ref b), .val (.int (Int32.ofNat o)), .val (.int (Int32.ofNat len)), .val .null, .val (.ref s.heap.size)] [.int (Int32.ofNat len), .ref s.heap.size, .ref a])) := c9.trans (by
      refine XS.astore X8.here hexec rfl (hb hbytes d39) rfl rfl rfl ?_
      refine XS.aloadN X8.here hexec rfl (hb hbytes d41) rfl rfl ?_
      refine XS.aload X8.here hexec rfl (hb hbytes d42) rfl rfl ?_
      refine XS.iloadN X8.here hexec rfl (hb hbytes d44) rfl ?_
      exact Steps.refl _)
    rw [n4]; exact hc
  obtain ⟨v11, T11, X11, E11, g11⟩ := X8.callS hexec (CodL.law l s.heap.size N) hown (wks W (staticW "java/lang/String" 47 CodL.yN)) (wk W CodL.tab) (W := 1) (Nat.le_of_ble_eq_true rfl) (Nat.le_of_ble_eq_true rfl) (Nat.le_refl _) (by show 0 + len + 0 ≤ len; omega) (g := (mkF m 45 #[.val (.ref a), .val (.ref b), .val (.int (Int32.ofNat o)), .val (.int (Int32.ofNat len)), .val .null, .val (.ref s.heap.size)] [.int (Int32.ofNat N.slots.size), .ref s.heap.size, .ref a])) rfl (by rw [hml]; rfl) c10 (argsL := [.ref s.heap.size, .int (Int32.ofNat N.slots.size)]) (rest := [.ref a]) rfl rfl (by show 2 * 0 + (1 + 0) ≤ _; decide) (hb hbytes d45) (⟨rfl, n1⟩)
  obtain ⟨rfl, q11⟩ := E11
  have hB11 := hB1.mv (X8.warmed.alike.symm.trans X11.warmed.alike) q11
  have c12 : Steps p.tables e below (s₁.setTop (entryFrame m #[.ref a, .ref b, .int (Int32.ofNat o), .int (Int32.ofNat len), .null] 6)) (T11.setTop (mkF m 48 #[.val (.ref a), .val (.ref b), .val (.int (Int32.ofNat o)), .val (.int (Int32.ofNat len)), .val .null, .val (.ref s.heap.size)] [.int 0, .ref a])) := g11
  obtain ⟨T13, X13, p13, bl13, sl13, st13⟩ := X11.finit hexec hown (wk W (.fieldLink "java/lang/String" 15 "java/lang/String" "coder" "B")) (Or.inr ⟨_, (wk W (.laysFinal "java/lang/String" "java/lang/String" "coder" "B"))⟩) (Or.inl ⟨rfl, hnm⟩) f2 (Or.inl rfl) hB11 (t := .byte) (by decide +kernel) rfl (g := (mkF m 48 #[.val (.ref a), .val (.ref b), .val (.int (Int32.ofNat o)), .val (.int (Int32.ofNat len)), .val .null, .val (.ref s.heap.size)] [.int 0, .ref a])) rfl (rest := []) rfl (hb hbytes d48)
  have c14 : Steps p.tables e below (s₁.setTop (entryFrame m #[.ref a, .ref b, .int (Int32.ofNat o), .int (Int32.ofNat len), .null] 6)) (T13.setTop (mkF m 54 #[.val (.ref a), .val (.ref b), .val (.int (Int32.ofNat o)), .val (.int (Int32.ofNat len)), .val .null, .val (.ref s.heap.size)] [.ref s.heap.size, .ref a])) := (c12.trans (st13 _ (Steps.refl _))).trans (by
    refine XS.aloadN X13.here hexec rfl (hb hbytes d51) rfl rfl ?_
    refine XS.aload X13.here hexec rfl (hb hbytes d52) rfl rfl ?_
    exact Steps.refl _)
  obtain ⟨T15, X15, p15, bl15, sl15, st15⟩ := X13.finit hexec hown (wk W (.fieldLink "java/lang/String" 9 "java/lang/String" "value" "[B")) (Or.inr ⟨_, (wk W (.laysFinal "java/lang/String" "java/lang/String" "value" "[B"))⟩) (Or.inl ⟨rfl, hnm⟩) f1 (Or.inl rfl) bl13 (t := (.array .byte)) (by decide +kernel) rfl (g := (mkF m 54 #[.val (.ref a), .val (.ref b), .val (.int (Int32.ofNat o)), .val (.int (Int32.ofNat len)), .val .null, .val (.ref s.heap.size)] [.ref s.heap.size, .ref a])) rfl (rest := []) rfl (hb hbytes d54)
  have c16 : Steps p.tables e below (s₁.setTop (entryFrame m #[.ref a, .ref b, .int (Int32.ofNat o), .int (Int32.ofNat len), .null] 6)) (T15.setTop (mkF m 57 #[.val (.ref a), .val (.ref b), .val (.int (Int32.ofNat o)), .val (.int (Int32.ofNat len)), .val .null, .val (.ref s.heap.size)] [])) := c14.trans (st15 _ (Steps.refl _))
  have ap := apart (Or.inr ⟨_, (wk W (.laysFinal "java/lang/String" "java/lang/String" "value" "[B"))⟩) (Or.inr ⟨_, (wk W (.laysFinal "java/lang/String" "java/lang/String" "coder" "B"))⟩) f1 f2 (t₁ := .array .byte) (t₂ := .byte) (by decide +kernel) (by decide +kernel) (by decide)
  have al := X8.warmed.alike.symm.trans X15.warmed.alike
  have n7 : T11.heap[s.heap.size]? = some N := by rw [q11]; exact n1.1
  exact ⟨T15, none, _, _, _, X15, by simp, rfl, by omega, (fun _ => rfl), ⟨rfl, _, N, bl15, ((Same.refl D _).set _ (by simp)).set _ (by simp), sl15, (Cell.slots_setSlot_ne _ ap).trans sl13, n1.keep al (p15.other hne (p13.other hne n7)), n2, by rw [al.findClass]; exact n3, n4, n5, fun y c h1 h2 => p15.other h1 (p13.other h1 (by rw [q11]; exact n6 y c h2)), by rw [p15.2.2, p13.2.2, q11]; exact z8⟩, fun fs hl => c16.trans (X15.returnOut hexec hret (hb hbytes d57) hl)⟩
end New4
namespace New1
def yN : MethodName := ⟨"java/lang/String", "<init>", "([C)V"⟩
abbrev yB : ByteArray := jdk_42_method_3_code
theorem d0 : decode yB 0 = .ok (.aload_n 0, 1) := by decide +kernel
theorem d1 : decode yB 1 = .ok (.aload_n 1, 1) := by decide +kernel
theorem d2 : decode yB 2 = .ok (.iconst 0, 1) := by decide +kernel
theorem d3 : decode yB 3 = .ok (.aload_n 1, 1) := by decide +kernel
theorem d4 : decode yB 4 = .ok (.arraylength, 1) := by decide +kernel
theorem d5 : decode yB 5 = .ok (.aconst_null, 1) := by decide +kernel
theorem d6 : decode yB 6 = .ok (.invokespecial 27, 3) := by decide +kernel
theorem d9 : decode yB 9 = .ok (.return_, 1) := by decide +kernel
def site : List Cond := [New4.tab] ++ initW "java/lang/String" 27 New4.yN
def tab : Cond := tabOf yN yB 2 none site
def P (a : Addr) (D : Cell) (fV fC : Field) (b : Addr) (A : Cell) (z : Int32) (args : Array Value) (s : State) : Prop := args = #[.ref a, .ref b] ∧ Blank "java/lang/String" a D s ∧ Found "java/lang/String" "value" "[B" fV s ∧ Found "java/lang/String" "coder" "B" fC s ∧ Ch b A s ∧ StaticIs s "java/lang/String" "COMPACT_STRINGS" "Z" (.int z) ∧ ¬ z = 0 ∧ 0 < A.slots.size ∧ A.slots.size ≤ 536870912 ∧ ∀ i, i < A.slots.size → ¬ 255 < cv A i
def E (a : Addr) (D : Cell) (fV fC : Field) (A : Cell) (r : Option Value) (s u : State) : Prop := Got a D fV fC A 0 A.slots.size r s u
/-- new String(chars), not empty, no char above 255: a Latin-1 String of their low bytes -/
theorem law (l : Launch) (a : Addr) (D : Cell) (fV fC : Field) (b : Addr) (A : Cell) (z : Int32) : Law l yN 2 1 3 52 yB 2 none site (P a D fV fC b A z) (E a D fV fC A) [⟨a, fC.slot⟩, ⟨a, fV.slot⟩] 1 A.slots.size := by
  refine Law.of_walk (plainFor_of_name (by decide +kernel)) (by decide +kernel) (by decide +kernel) (by decide) (fun _ _ h => by rw [h.1]; rfl) (fun _ U U' hal hh h => ⟨h.1, h.2.1.mv hal hh, h.2.2.1.al hal, h.2.2.2.1.al hal, h.2.2.2.2.1.mv hal hh, h.2.2.2.2.2.1.there hal hh, h.2.2.2.2.2.2⟩) (fun r U U' V V' h1 hal h2 h => Got.mv r U U' V V' h1 hal h2 h) ?_
  intro p e s m args below meth c s₁ X0 hexec hbytes hml hret hlk hnm hown hh0 W hP
  obtain ⟨rfl, hB, f1, f2, hA, s1, hz, l0, l2, hp⟩ := hP
  have c1 : Steps p.tables e below (s₁.setTop (entryFrame m #[.ref a, .ref b] 2)) (s₁.setTop (mkF m 0 #[.val (.ref a), .val (.ref b)] [])) := entry rfl
  have c2 : Steps p.tables e below (s₁.setTop (entryFrame m #[.ref a, .ref b] 2)) (s₁.setTop (mkF m 6 #[.val (.ref a), .val (.ref b)] [.null, .int (Int32.ofNat A.slots.size), .int 0, .ref b, .ref a])) := c1.trans (by
    refine XS.aloadN X0.here hexec rfl (hb hbytes d0) rfl rfl ?_
    refine XS.aloadN X0.here hexec rfl (hb hbytes d1) rfl rfl ?_
    refine iconstV X0.here hexec rfl 0 (hb hbytes d2) (by decide) ?_
    refine XS.aloadN X0.here hexec rfl (hb hbytes d3) rfl rfl ?_
    refine X0.alen hexec (hA.1.mv X0.warmed.alike hh0) rfl rfl (hb hbytes d4) ?_
    refine XS.aconstNull X0.here hexec rfl (hb hbytes d5) ?_
    exact Steps.refl _)
  obtain ⟨v3, T3, X3, E3, g3⟩ := X0.callN hexec (New4.law l a D fV fC b A z 0 A.slots.size) rfl hown (wks W (initW "java/lang/String" 27 New4.yN)) (W New4.tab (by simp only [site, List.mem_cons, List.mem_append, true_or, or_true])) (W := 0) (Nat.le_of_ble_eq_true rfl) (Nat.le_of_ble_eq_true rfl) (Nat.le_refl _) (by show 0 + A.slots.size ≤ A.slots.size; omega) (g := (mkF m 6 #[.val (.ref a), .val (.ref b)] [.null, .int (Int32.ofNat A.slots.size), .int (Int32.ofNat 0), .ref b, .ref a])) rfl (by rw [hml]; rfl) c2 (argsL := [.ref b, .int (Int32.ofNat 0), .int (Int32.ofNat A.slots.size), .null]) (rest := []) rfl rfl (by show 2 * 0 + 0 ≤ _; decide) (hb hbytes d6) (⟨rfl, hB.mv X0.warmed.alike hh0, f1.al X0.warmed.alike, f2.al X0.warmed.alike, hA.mv X0.warmed.alike hh0, s1.there X0.warmed.alike hh0, hz, l0, by omega, l2, fun i hi => by rw [Nat.zero_add]; exact hp i hi⟩)
  have e0 := Got.mv _ s₁ s _ _ hh0.symm (Vm.Alike.refl _) rfl E3
  obtain rfl := e0.1
  have c4 : Steps p.tables e below (s₁.setTop (entryFrame m #[.ref a, .ref b] 2)) (T3.setTop (mkF m 9 #[.val (.ref a), .val (.ref b)] [])) := g3
  exact ⟨T3, none, _, _, _, X3, by simp, rfl, by omega, (fun _ => rfl), e0, fun fs hl => c4.trans (X3.returnOut hexec hret (hb hbytes d9) hl)⟩
theorem pays {l : Launch} {R : Room} {p : Program} {e : Env} {below : List Frame} {s : State} {sargs : Array Value} {len W : Nat} (a : Addr) (D : Cell) (fV fC : Field) (b : Addr) (A : Cell) (z : Int32) (htab : tab.before sargs s = true) (hfr : 4 ≤ R.frames) (hlo : W + 65 ≤ R.locals) :
    Back l R p e below s sargs yN len W (fun A₁ a₁ => A₁.cells + 1 ≤ R.cells ∧ A₁.slots + A.slots.size ≤ R.slots ∧ P a D fV fC b A z a₁ A₁.U) (fun A₁ _ v₁ B₁ => E a D fV fC A v₁ A₁.U B₁.U ∧ B₁.locs = A₁.locs ++ [⟨a, fC.slot⟩, ⟨a, fV.slot⟩] ∧ B₁.cells = A₁.cells + 1 ∧ B₁.slots = A₁.slots + A.slots.size) :=
  (law l a D fV fC b A z).pays htab hfr (by omega)
end New1
/-- the byte, read back as charAt reads it, is the char -/
theorem lo8_mask {x : Int32} (h0 : ¬ x < 0) (h1 : ¬ 255 < x) : lo8 x &&& 255 = x := by
  have t : ∀ k : Fin 256, lo8 (Int32.ofNat k.val) &&& 255 = Int32.ofNat k.val := by decide +kernel
  rw [Int32.lt_iff_toInt_lt] at h0 h1
  have e0 : (0 : Int32).toInt = 0 := rfl
  have e1 : (255 : Int32).toInt = 255 := rfl
  obtain ⟨k, hk⟩ : ∃ k : Nat, x.toInt = k := ⟨x.toInt.toNat, by omega⟩
  have hx : x = Int32.ofNat k := Int32.toInt_inj.mp (by rw [hk, Int32.toInt_ofNat_small (by omega)])
  rw [hx]
  exact t ⟨k, by omega⟩
end StrChars
namespace StrChars.Road
open Jvm Sem ClassFile Op Lib Jvm.Stand Jvm.Free Jvm.Free.XT
open Jvm.Lib.Cold (StaticIs)
abbrev ST : String := "java/lang/String"
/-- every table word that New1's law asks, flat -/
abbrev words : List Jvm.Cond := [.code New1.yN New1.yB 2 none, .initialized ST, .methodLink ST 27 New4.yN, .instanceMethod New4.yN,
  .code New4.yN New4.yB 6 none, .fieldLink ST 38 ST "COMPACT_STRINGS" "Z", .laysFinal ST ST "value" "[B", .fieldLink ST 9 ST "value" "[B", .laysFinal ST ST "coder" "B", .fieldLink ST 15 ST "coder" "B",
  .methodLink ST 1 Lib.objectInit, .instanceMethod Lib.objectInit, .code Lib.objectInit ⟨#[0xb1]⟩ 1 none, .methodLink ST 177 Cmp3.yN, .static Cmp3.yN, .methodLink ST 47 CodL.yN, .static CodL.yN,
  .code Cmp3.yN Cmp3.yB 6 (some (.array .byte)), .initialized U16, .arrayClass .byte, .methodLink U16 115 Cmp5.yN, .static Cmp5.yN, .code Cmp5.yN Cmp5.yB 7 (some .int), .code CodL.yN CodL.yB 2 (some .byte)]
theorem tab_of {a : Array Value} {s : State} (h : ∀ w ∈ words, w.before a s = true) : New1.tab.before a s = true := by
  have h5 : Cmp5.tab.before a s = true := unparts (wk h (.code Cmp5.yN Cmp5.yB 7 (some .int))) (wks h (.initialized Cmp5.yN.cls :: Cmp5.site))
  have hc : CodL.tab.before a s = true := unparts (wk h (.code CodL.yN CodL.yB 2 (some .byte))) (wks h (.initialized CodL.yN.cls :: CodL.site))
  have q5 : ∀ w ∈ Cmp5.tab :: words, w.before a s = true := fun w hw => (List.mem_cons.mp hw).elim (fun e => e ▸ h5) (h w)
  have h3 : Cmp3.tab.before a s = true := unparts (wk q5 (.code Cmp3.yN Cmp3.yB 6 (some (.array .byte)))) (wks q5 (.initialized Cmp3.yN.cls :: Cmp3.site))
  have q3 : ∀ w ∈ Cmp3.tab :: CodL.tab :: words, w.before a s = true := fun w hw => (List.mem_cons.mp hw).elim (fun e => e ▸ h3) fun hw => (List.mem_cons.mp hw).elim (fun e => e ▸ hc) (h w)
  have h4 : New4.tab.before a s = true := unparts (wk q3 (.code New4.yN New4.yB 6 none)) (wks q3 (.initialized New4.yN.cls :: New4.site))
  have q4 : ∀ w ∈ New4.tab :: words, w.before a s = true := fun w hw => (List.mem_cons.mp hw).elim (fun e => e ▸ h4) (h w)
  exact unparts (wk q4 (.code New1.yN New1.yB 2 none)) (wks q4 (.initialized New1.yN.cls :: New1.site))
/-- the words ride from the start Z to the walk's own state -/
theorem moved {Z s : State} {a0 args : Array Value} (hZ : Z.Warmed39 s.vm) (hw : ∀ d ∈ words, d.before a0 Z = true) : ∀ d ∈ words, d.before args s = true := fun d hd => by
  have q := hw d hd
  have t : ∀ d ∈ words, d = .arrayClass .byte ∨ (d.onTables && d.keepsFace) = true := by decide +kernel
  rcases t d hd with rfl | t
  · exact RoadKit.mvA hZ q
  · exact RoadKit.mv hZ q t
/-- WHAT COMES BACK, over the tables of the start Z: h the heap at the call, h' behind it -/
def Q (Z : State) (x : Addr) (A : Cell) (h : Heap) (v : Option Value) (h' : Heap) (L : List Loc) : Prop := v = none ∧ (∀ y ∈ L, y.base = x) ∧ RoadKit.Keep h h' [x] ∧ h'.size = h.size + 1 ∧ RoadKit.Exa Z h' x ST ∧ RoadKit.Fld Z h' x ST "value" "[B" (.ref h.size) ∧ RoadKit.Fld Z h' x ST "coder" "B" (.int 0) ∧
  (∃ V : Cell, RoadKit.Arr Z h' h.size V .byte ∧ V.vm = .none ∧ Z.vm.findClass "[B" = some V.cls ∧ V.slots.size = A.slots.size ∧ ∀ j, j < A.slots.size → V.slots[j]? = some (.int (lo8 (cv A j)))) ∧
  ∀ (O n d : String) (w : Value), RoadKit.Fld Z h x O n d w → RoadKit.slotOf Z O n d ≠ RoadKit.slotOf Z ST "value" "[B" → RoadKit.slotOf Z O n d ≠ RoadKit.slotOf Z ST "coder" "B" → RoadKit.Fld Z h' x O n d w
/-- **new String(chars) AT A CALL, IN THE ROAD'S FORM**: for specialBack behind newO: x the fresh String, b the char[] with the cell A -/
theorem back {p : Program} {l : Launch} {e : Env} {R : Room} {s : State} {args : Array Value} {below : List Frame} {len W : Nat} {Z : State} {a0 : Array Value} {h : Heap} (hZ : Z.Warmed39 s.vm) (hw : ∀ d ∈ words, d.before a0 Z = true) {kI : Nat} (wi : (Jvm.Cond.instantiable ST kI).before a0 Z = true)
    {x b : Addr} {A : Cell} {z : Int32} {v0 c0 : Value} (E : RoadKit.Exa Z h x ST) (V : RoadKit.Fld Z h x ST "value" "[B" v0) (C : RoadKit.Fld Z h x ST "coder" "B" c0) (K : RoadKit.Arr Z h b A .char) (hty : Typed .char A) (S : RoadKit.Sta Z h ST "COMPACT_STRINGS" "Z" (.int z)) (hz : ¬ z = 0)
    (l0 : 0 < A.slots.size) (l2 : A.slots.size ≤ 536870912) (hp : ∀ i, i < A.slots.size → ¬ 255 < cv A i) (hfr : 4 ≤ R.frames) (hlo : W + 65 ≤ R.locals) :
    Back l R p e below s args New1.yN len W (fun P a => a = #[.ref x, .ref b] ∧ P.U.heap = h ∧ P.cells + 1 ≤ R.cells ∧ P.slots + A.slots.size ≤ R.slots)
      (fun P _ v B => ∃ L, Q Z x A h v B.U.heap L ∧ B.locs = P.locs ++ L ∧ B.cells = P.cells + 1 ∧ B.slots = P.slots + A.slots.size) := by
  intro m meth c P g ig mk a X hg hsize hdg hW hn hp'
  obtain ⟨rfl, rfl, r1, r2⟩ := hp'
  have al : Z.vm.Alike P.U.vm := hZ.alike.trans X.warmed.alike
  obtain ⟨D, cfV, kV, iV, fV, hD, gV, stV, knV, obV, asV, slV⟩ := id V
  obtain ⟨D', cfC, kC, iC, fC, hD', gC, stC, -, -, asC, slC⟩ := id C
  cases hD.symm.trans hD'
  obtain ⟨D2, kD, e1, e2, e3, e4, e5⟩ := id E
  cases hD.symm.trans e1
  obtain ⟨c2, k2, i1, i2, i3, -⟩ := Cond.instantiable_spec wi
  cases e2.symm.trans i1
  cases e3.symm.trans i2
  obtain ⟨kU, u1, u2⟩ := al.2.2 _ _ e3
  have hB : Blank ST x D P.U := ⟨hD, ⟨knV, fun q hq => by rw [hq] at obV; cases obV⟩, by rw [al.findClass]; exact e2, kU, u1, by rw [u2]; exact i3, by rw [u2]; exact e5 i3⟩
  have F1 : Found ST "value" "[B" fV P.U := ⟨SBG.found_only al ⟨cfV, kV, iV, gV⟩, stV⟩
  have F2 : Found ST "coder" "B" fC P.U := ⟨SBG.found_only al ⟨cfC, kC, iC, gC⟩, stC⟩
  have hA : Ch b A P.U := ⟨⟨K.1, State.isArrayOf_alike al K.2.1, K.2.2, by omega⟩, hty⟩
  have hS : StaticIs P.U ST "COMPACT_STRINGS" "Z" (.int z) := by
    obtain ⟨cfS, iS, kS, fS, st, cS, t1, t2, t3, t4, t5, t6, t7⟩ := S
    exact StaticIs.there (s := { Z with heap := P.U.heap }) ⟨cfS, iS, kS, fS, st, cS, t1, t2, t3, t4, t5, (fun q => by rw [q] at t6; cases t6), t7⟩ al rfl
  obtain ⟨v, B, X', ⟨⟨hv, E', V', q1, q2, q3, q4, q5, q6, q7, q8, q9, q10, q11⟩, hl, hc, hs⟩, st⟩ := New1.pays x D fV fC b A z (tab_of (moved hZ hw)) hfr hlo m meth c P g ig mk _ X hg hsize hdg hW hn ⟨r1, r2, rfl, hB, F1, F2, hA, hS, hz, l0, l2, hp⟩
  have al' : Z.vm.Alike B.U.vm := hZ.alike.trans X'.warmed.alike
  have hsz : E'.slots.size = D.slots.size := by
    obtain ⟨-, -, -, kB, w1, w2, w3⟩ := q1
    obtain ⟨kB', y1, y2⟩ := al'.2.2 _ _ e3
    rw [q2.2.1] at w1
    cases w1.symm.trans y1
    rw [w3, e5 i3, y2]
  refine ⟨v, B, X', ⟨_, ⟨hv, ?_, ⟨by omega, fun y cy hy hn' => q10 y cy (by simpa using hn') hy, fun y cy hy => ?_⟩, q11, ⟨E', _, q1.1, by rw [q2.2.1]; exact e2, by rw [q2.2.1]; exact e3, by rw [q2.1]; exact obV, fun _ => by rw [hsz]; exact e5 i3⟩,
    ⟨E', cfV, kV, iV, fV, q1.1, gV, stV, by rw [q2.1]; exact knV, by rw [q2.1]; exact obV, by rw [q2.2.1]; exact asV, q3⟩, ⟨E', cfC, kC, iC, fC, q1.1, gC, stC, by rw [q2.1]; exact knV, by rw [q2.1]; exact obV, by rw [q2.2.1]; exact asC, q4⟩,
    ⟨V', ⟨q5.1, State.isArrayOf_alike al'.symm q5.2.1, q5.2.2.1⟩, q6, by rw [← al'.findClass]; exact q7, q8, fun j hj => by have := q9 j hj; rwa [Nat.zero_add] at this⟩, fun O n d w F n1 n2 => ?_⟩, hl, hc, hs⟩, st⟩
  · intro y hy
    simp only [List.mem_cons, List.not_mem_nil, or_false] at hy
    rcases hy with rfl | rfl <;> rfl
  · by_cases q : y = x
    · subst q
      cases hD.symm.trans hy
      exact ⟨E', q1.1, q2.2.1, q2.1, hsz⟩
    · exact ⟨cy, q10 y cy q hy, rfl, rfl, rfl⟩
  · obtain ⟨D3, cf, k, i, f, g1, g2, g3, g4, g5, g6, g7⟩ := F
    cases hD.symm.trans g1
    simp only [RoadKit.slotOf, g2, gV, gC, Option.map_some, Option.getD_some] at n1 n2
    exact ⟨E', cf, k, i, f, q1.1, g2, g3, by rw [q2.1]; exact g4, by rw [q2.1]; exact g5, by rw [q2.2.1]; exact g6, by rw [q2.2.2 f.slot (by simp [n1, n2])]; exact g7⟩
end StrChars.Road
namespace StrChars.Road
open Jvm Sem ClassFile Op Lib Jvm.Stand Jvm.Free Jvm.Free.XT
/-- WHAT COMES BACK, the byte[] as a list of values -/
def QA (Z : State) (x : Addr) (zn : Int32) (cs : List Int32) (h : Heap) (v : Option Value) (h' : Heap) (L : List Loc) : Prop := v = none ∧ (∀ y ∈ L, y.base = x) ∧ RoadKit.Keep h h' [x] ∧ h'.size = h.size + 1 ∧ RoadKit.Exa Z h' x ST ∧ RoadKit.Fld Z h' x ST "value" "[B" (.ref h.size) ∧ RoadKit.Fld Z h' x ST "coder" "B" (.int 0) ∧
  (∃ kb, Z.vm.findClass "[B" = some kb ∧ RoadKit.Arv Z h' h.size kb .byte zn (cs.map fun c => .int (lo8 c)) (.int 0)) ∧
  ∀ (O n d : String) (w : Value), RoadKit.Fld Z h x O n d w → RoadKit.slotOf Z O n d ≠ RoadKit.slotOf Z ST "value" "[B" → RoadKit.slotOf Z O n d ≠ RoadKit.slotOf Z ST "coder" "B" → RoadKit.Fld Z h' x O n d w
/-- **new String(chars) AT A CALL, THE ARRAYS AS LISTS**: the char[] at b holds cs, not empty, no char above 255 -/
theorem backArv {p : Program} {l : Launch} {e : Env} {R : Room} {s : State} {args : Array Value} {below : List Frame} {len W : Nat} {Z : State} {a0 : Array Value} {h : Heap} (hZ : Z.Warmed39 s.vm) (hw : ∀ d ∈ words, d.before a0 Z = true) {kI : Nat} (wi : (Jvm.Cond.instantiable ST kI).before a0 Z = true)
    {x b : Addr} {k : ClassId} {zn z : Int32} {cs : List Int32} {dv v0 c0 : Value} (E : RoadKit.Exa Z h x ST) (V : RoadKit.Fld Z h x ST "value" "[B" v0) (C : RoadKit.Fld Z h x ST "coder" "B" c0) (K : RoadKit.Arv Z h b k .char zn (cs.map Value.int) dv) (S : RoadKit.Sta Z h ST "COMPACT_STRINGS" "Z" (.int z)) (hz : ¬ z = 0)
    (hlen : zn.toNatClampNeg = cs.length) (h0 : 0 < cs.length) (hbig : cs.length ≤ 536870912) (hall : ∀ c ∈ cs, ¬ 255 < c) (hfr : 4 ≤ R.frames) (hlo : W + 65 ≤ R.locals) :
    Back l R p e below s args New1.yN len W (fun P a => a = #[.ref x, .ref b] ∧ P.U.heap = h ∧ P.cells + 1 ≤ R.cells ∧ P.slots + cs.length ≤ R.slots)
      (fun P _ v B => ∃ L, QA Z x zn cs h v B.U.heap L ∧ B.locs = P.locs ++ L ∧ B.cells = P.cells + 1 ∧ B.slots = P.slots + cs.length) := by
  obtain ⟨A, K1, K2, K3, K4, K5, K6⟩ := K
  have e : A.slots.size = cs.length := K3.trans hlen
  have hat : ∀ (i : Nat) (hi : i < cs.length), A.slots[i]? = some (.int cs[i]) := fun i hi => by rw [K5 i (by omega)]; simp [List.getD_eq_getElem?_getD, hi]
  have hcv : ∀ (i : Nat) (hi : i < cs.length), cv A i = cs[i] := fun i hi => by unfold cv; rw [hat i hi]
  have hty : Typed .char A := fun i v hv => by
    have hi : i < A.slots.size := (Array.getElem?_eq_some_iff.mp hv).1
    have q := K5 i hi
    rw [hv] at q
    rw [Option.some.inj q]
    exact K6 i hi
  refine Back.mono (back hZ hw wi E V C K1 hty S hz (by omega) (by omega) (fun i hi => by rw [hcv i (by omega)]; exact hall _ (List.getElem_mem _)) hfr hlo) (fun P a hp => ⟨hp.1, hp.2.1, hp.2.2.1, by rw [e]; exact hp.2.2.2⟩) (fun P a v B hp hq => ?_)
  obtain ⟨L, ⟨q1, q2, q3, q4, q5, q6, q7, ⟨V', v1, v2, v3, v4, v5⟩, q9⟩, hl, hc, hs⟩ := hq
  refine ⟨L, ⟨q1, q2, q3, q4, q5, q6, q7, ⟨V'.cls, v3, V', v1, rfl, by rw [v4, e, hlen], K4, fun i hi => ?_, fun i hi => ?_⟩, q9⟩, hl, hc, by rw [hs, e]⟩
  · have hi' : i < cs.length := by omega
    rw [v5 i (by omega), hcv i hi']; simp [List.getD_eq_getElem?_getD, hi']
  · have hi' : i < cs.length := by omega
    simp only [List.getD_eq_getElem?_getD, List.getElem?_map, List.getElem?_eq_getElem hi', Option.map_some, Option.getD_some]
    exact fits_lo8 _
end StrChars.Road
namespace StrChars.Road
open Jvm Sem ClassFile Op Lib Jvm.Stand Jvm.Free Jvm.Free.XT
/-- WHAT COMES BACK, in the writer's own shape -/
def QV (Z : State) (x : Addr) (N : Int32) (bs : List Int32) (h : Heap) (n0 : Nat) (v : Option Value) (h' : Heap) (L : List Loc) : Prop := v = none ∧ RoadKit.Fr n0 L ∧ RoadKit.Keep h h' [x] ∧ RoadKit.Exa Z h' x ST ∧ RoadKit.Fld Z h' x ST "coder" "B" (.int 0) ∧
  ∃ (t : Addr) (kb : ClassId), n0 ≤ t ∧ h.size ≤ t ∧ ¬ t = x ∧ RoadKit.Fld Z h' x ST "value" "[B" (.ref t) ∧ RoadKit.Arv Z h' t kb .byte N (bs.map Value.int) (.int 0)
/-- **new String(chars) AT A CALL, FOR THE WRITER**: a char[] of n known ints, each 0 to 255 -/
theorem backV {p : Program} {l : Launch} {e : Env} {R : Room} {s : State} {args : Array Value} {below : List Frame} {len W : Nat} {Z : State} {a0 : Array Value} {h : Heap} (hZ : Z.Warmed39 s.vm) (hw : ∀ d ∈ words, d.before a0 Z = true) {kI : Nat} (wi : (Jvm.Cond.instantiable ST kI).before a0 Z = true)
    {x b : Addr} {kC : ClassId} {cs bs : List Int32} {d v0 c0 : Value} {z N : Int32} {n n0 : Nat} (hx0 : n0 ≤ x) (hh0 : n0 ≤ h.size) (E : RoadKit.Exa Z h x ST) (V : RoadKit.Fld Z h x ST "value" "[B" v0) (C : RoadKit.Fld Z h x ST "coder" "B" c0) (K : RoadKit.Arv Z h b kC .char N (cs.map Value.int) d) (S : RoadKit.Sta Z h ST "COMPACT_STRINGS" "Z" (.int z)) (hz : ¬ z = 0)
    (hn : cs.length = n) (hN : N = Int32.ofNat n) (l0 : 0 < n) (l2 : n ≤ 4000) (hp : ∀ c ∈ cs, ¬ c < 0 ∧ ¬ (255 : Int32) < c) (hb : bs = cs.map (fun c => c.toInt8.toInt32)) (hfr : 4 ≤ R.frames) (hlo : W + 65 ≤ R.locals) :
    Back l R p e below s args (⟨"java/lang/String", "<init>", "([C)V"⟩ : MethodName) len W (fun P a => a = #[.ref x, .ref b] ∧ P.U.heap = h ∧ P.cells + 1 ≤ R.cells ∧ P.slots + n ≤ R.slots)
      (fun P _ v B => ∃ L, QV Z x N bs h n0 v B.U.heap L ∧ B.locs = P.locs ++ L ∧ B.cells = P.cells + 1 ∧ B.slots = P.slots + n) := by
  subst hn hN hb
  refine Back.mono (backArv hZ hw wi E V C K S hz (n32 (by omega)) l0 (by omega) (fun c hc => (hp c hc).2) hfr hlo) (fun P a hp => hp) (fun P a v B hp hq => ?_)
  obtain ⟨L, ⟨q1, q2, q3, q4, q5, q6, q7, ⟨kb, v1, v2⟩, q9⟩, hl, hc, hs⟩ := hq
  exact ⟨L, ⟨q1, fun y hy => by rw [q2 y hy]; exact hx0, q3, q5, q7, h.size, kb, hh0, Nat.le_refl _, Nat.ne_of_gt E.lt, q6, by rw [List.map_map]; exact v2⟩, hl, hc, hs⟩
end StrChars.Road
namespace StrChars
open Jvm Sem ClassFile Op Lib Jvm.Stand Jvm.Free.XT Jvm.Free.ALB Jvm.Free.JM Jvm.Free
open Jvm.Lib.Cold (StaticIs)
def hi8 (x : Int32) : Int32 := lo8 (x >>> ((8 : Int32) &&& 31))
/-- what StringUTF16.getChar makes of two bytes -/
def pairCh (u v : Int32) : Int32 := (((u &&& 255) <<< ((0 : Int32) &&& 31)) ||| ((v &&& 255) <<< ((8 : Int32) &&& 31))).toUInt32.toUInt16.toUInt32.toInt32
theorem lo8_and (x : Int32) : (lo8 x &&& 255).toBitVec.toNat = x.toBitVec.toNat % 256 := by
  have h : (lo8 x).toBitVec = (x.toBitVec.signExtend 8).signExtend 32 := by rw [lo8, Int8.toBitVec_toInt32, Int32.toBitVec_toInt8]
  rw [Int32.toBitVec_and, BitVec.toNat_and, h]
  have e : ((x.toBitVec.signExtend 8).signExtend 32).toNat % 256 = x.toBitVec.toNat % 256 := by
    rw [BitVec.toNat_signExtend]
    have hlt := x.toBitVec.isLt
    simp only [BitVec.toNat_setWidth, BitVec.toNat_signExtend]
    split <;> split <;> omega
  rw [← e]
  exact Nat.and_two_pow_sub_one_eq_mod _ 8
theorem pair_says {c : Int32} (h0 : ¬ c < 0) (h1 : ¬ 65535 < c) : pairCh (lo8 c) (hi8 c) = c := by
  rw [Int32.lt_iff_toInt_lt] at h0 h1
  have e0 : (0 : Int32).toInt = 0 := rfl
  have e1 : (65535 : Int32).toInt = 65535 := rfl
  have hc : c.toInt = c.toBitVec.toNat := by
    have := c.toBitVec.isLt
    have e : c.toInt = c.toBitVec.toInt := rfl
    rw [e] at h0 h1
    rw [e]
    rw [BitVec.toInt_eq_toNat_cond] at h0 h1 ⊢
    split at h0 <;> split <;> omega
  have hn : c.toBitVec.toNat < 65536 := by omega
  have a1 := lo8_and c
  have a2 : (hi8 c &&& 255).toBitVec.toNat = c.toBitVec.toNat / 256 := by
    rw [hi8, lo8_and]
    have e : ((8 : Int32) &&& 31) = 8 := by decide
    rw [e, Int32.toBitVec_shiftRight]
    have e2 : ((8 : Int32).toBitVec.smod 32) = 8#32 := by decide
    rw [e2, BitVec.sshiftRight_eq', BitVec.toNat_sshiftRight_of_msb_false (by rw [BitVec.msb_eq_false_iff_two_mul_lt]; omega)]
    show c.toBitVec.toNat >>> 8 % 256 = _
    rw [Nat.shiftRight_eq_div_pow]
    omega
  unfold pairCh
  apply Int32.toBitVec_inj.mp
  apply BitVec.eq_of_toNat_eq
  have f0 : ((0 : Int32) &&& 31) = 0 := by decide
  have f8 : ((8 : Int32) &&& 31) = 8 := by decide
  rw [f0, f8]
  have g : (((lo8 c &&& 255) <<< (0 : Int32)) ||| ((hi8 c &&& 255) <<< (8 : Int32))).toBitVec.toNat = c.toBitVec.toNat := by
    rw [Int32.toBitVec_or, Int32.toBitVec_shiftLeft, Int32.toBitVec_shiftLeft]
    have s0 : ((0 : Int32).toBitVec.smod 32) = 0#32 := by decide
    have s8 : ((8 : Int32).toBitVec.smod 32) = 8#32 := by decide
    rw [s0, s8, BitVec.toNat_or]
    simp only [BitVec.shiftLeft_eq', BitVec.toNat_shiftLeft, a1, a2]
    show (c.toBitVec.toNat % 256) <<< 0 % 2 ^ 32 ||| (c.toBitVec.toNat / 256) <<< 8 % 2 ^ 32 = _
    rw [Nat.shiftLeft_zero, Nat.mod_eq_of_lt (show c.toBitVec.toNat % 256 < 2 ^ 32 by omega), Nat.mod_eq_of_lt (show (c.toBitVec.toNat / 256) <<< 8 < 2 ^ 32 by rw [Nat.shiftLeft_eq]; omega), Nat.or_comm, ← Nat.shiftLeft_add_eq_or_of_lt (by omega), Nat.shiftLeft_eq]
    omega
  show BitVec.toNat (((((lo8 c &&& 255) <<< (0 : Int32)) ||| ((hi8 c &&& 255) <<< (8 : Int32))).toBitVec.setWidth 16).setWidth 32) = _
  rw [BitVec.toNat_setWidth, BitVec.toNat_setWidth, g]
  omega
end StrChars
namespace StrChars
open Jvm Sem ClassFile Op Lib Jvm.Stand Jvm.Free.XT Jvm.Free.ALB Jvm.Free.JM Jvm.Free
open Jvm.Lib.Cold (StaticIs)
/-- the array's cell V codes the n chars f 0 .. f (n - 1) by the coder cd, as the JDK does: coder 1 just where some char is above 255 -/
def Cod (cd : Int32) (n : Nat) (f : Nat → Int32) (V : Cell) : Prop := (cd = 0 ∧ V.slots.size = n ∧ ∀ j, j < n → V.slots[j]? = some (.int (lo8 (f j))) ∧ ¬ 255 < f j) ∨ (cd = 1 ∧ V.slots.size = 2 * n ∧ (∀ j, j < n → V.slots[2 * j]? = some (.int (lo8 (f j))) ∧ V.slots[2 * j + 1]? = some (.int (hi8 (f j)))) ∧ ∃ j, j < n ∧ 255 < f j)
/-- **x is a String of the n chars f 0 .. f (n - 1)**, Latin-1 or UTF-16; its array at t has the cell V -/
def Txt (x t : Addr) (V : Cell) (cd : Int32) (n : Nat) (f : Nat → Int32) (U : State) : Prop := Exact "java/lang/String" x U ∧ Has x "java/lang/String" "value" "[B" (.ref t) U ∧ Has x "java/lang/String" "coder" "B" (.int cd) U ∧ XT.Arr .byte t V U ∧ Cod cd n f V ∧ ∀ j, j < n → ¬ f j < 0 ∧ ¬ 65535 < f j
theorem Txt.mv {x t : Addr} {V : Cell} {cd : Int32} {n : Nat} {f : Nat → Int32} {U U' : State} (h : Txt x t V cd n f U) (hal : U.vm.Alike U'.vm) (hh : U'.heap = U.heap) : Txt x t V cd n f U' := ⟨h.1.mv hal hh, h.2.1.mv hal hh, h.2.2.1.mv hal hh, h.2.2.2.1.mv hal hh, h.2.2.2.2⟩
end StrChars
namespace StrChars.Road
open Jvm Sem ClassFile Op Lib Jvm.Stand Jvm.Free Jvm.Free.XT
open Jvm.Lib.Cold (StaticIs)
theorem consq {a : Array Value} {s : State} {c : Jvm.Cond} {L : List Jvm.Cond} (h0 : c.before a s = true) (h : ∀ w ∈ L, w.before a s = true) : ∀ w ∈ c :: L, w.before a s = true := fun w hw => (List.mem_cons.mp hw).elim (fun e => e ▸ h0) (h w)
/-- the bytes of the chars cs, low before high -/
def wideBytes : List Int32 → List Value
  | [] => []
  | c :: cs => .int (lo8 c) :: .int (hi8 c) :: wideBytes cs
theorem wide_lo (d : Value) : ∀ (cs : List Int32) (j : Nat), j < cs.length → (wideBytes cs).getD (2 * j) d = .int (lo8 (cs.getD j 0))
  | [], j, h => absurd h (Nat.not_lt_zero j)
  | c :: cs, 0, _ => rfl
  | c :: cs, j + 1, h => by
    have q := wide_lo d cs j (by simpa using h)
    rw [show 2 * (j + 1) = 2 * j + 1 + 1 from by omega]
    simpa [wideBytes] using q
theorem wide_hi (d : Value) : ∀ (cs : List Int32) (j : Nat), j < cs.length → (wideBytes cs).getD (2 * j + 1) d = .int (hi8 (cs.getD j 0))
  | [], j, h => absurd h (Nat.not_lt_zero j)
  | c :: cs, 0, _ => rfl
  | c :: cs, j + 1, h => by
    have q := wide_hi d cs j (by simpa using h)
    rw [show 2 * (j + 1) + 1 = 2 * j + 1 + 1 + 1 from by omega]
    simpa [wideBytes] using q
theorem low_at (d : Value) (cs : List Int32) (j : Nat) (h : j < cs.length) : (cs.map fun c => Value.int (lo8 c)).getD j d = .int (lo8 (cs.getD j 0)) := by
  simp [List.getD_eq_getElem?_getD, h]
/-- an array of N2 bytes vs codes the chars cs by the coder cd -/
def CodA (cs : List Int32) (cd N2 : Int32) (vs : List Value) : Prop := (cd = 0 ∧ N2 = Int32.ofNat cs.length ∧ vs = (cs.map fun c => Value.int (lo8 c)) ∧ ∀ c ∈ cs, ¬ 255 < c) ∨ (cd = 1 ∧ N2 = Int32.ofNat (2 * cs.length) ∧ vs = wideBytes cs ∧ ∃ c ∈ cs, 255 < c)
theorem CodA.cod {cs : List Int32} {cd N2 : Int32} {vs : List Value} {V : Cell} (h : CodA cs cd N2 vs) (hn : 2 * cs.length < 2 ^ 31) (hs : V.slots.size = N2.toNatClampNeg) (hv : RoadKit.Has V vs (.int 0)) : Cod cd cs.length (fun j => cs.getD j 0) V := by
  rcases h with ⟨rfl, rfl, rfl, h⟩ | ⟨rfl, rfl, rfl, c, hc, hw⟩
  · rw [n32 (by omega)] at hs
    exact Or.inl ⟨rfl, hs, fun j hj => ⟨by rw [hv j (by omega), low_at _ _ _ hj], by
      have e : cs.getD j 0 = cs[j] := by simp [List.getD_eq_getElem?_getD, hj]
      show ¬ 255 < cs.getD j 0
      rw [e]; exact h _ (List.getElem_mem _)⟩⟩
  · rw [n32 (by omega)] at hs
    obtain ⟨j, hj, rfl⟩ := List.getElem_of_mem hc
    exact Or.inr ⟨rfl, hs, fun j hj => ⟨by rw [hv _ (by omega), wide_lo _ _ _ hj], by rw [hv _ (by omega), wide_hi _ _ _ hj]⟩, j, hj, by
      have e : cs.getD j 0 = cs[j] := by simp [List.getD_eq_getElem?_getD, hj]
      show 255 < cs.getD j 0
      rw [e]; exact hw⟩
/-- an object of exactly java/lang/String, its two fields found: as the laws ask it -/
theorem strObj {Z U : State} {a0 : Array Value} {kI : Nat} (wi : (Jvm.Cond.instantiable ST kI).before a0 Z = true) (al : Z.vm.Alike U.vm) {x : Addr} {v0 c0 : Value} (E : RoadKit.Exa Z U.heap x ST) (V : RoadKit.Fld Z U.heap x ST "value" "[B" v0) (C : RoadKit.Fld Z U.heap x ST "coder" "B" c0) :
    ∃ (D : Cell) (fV fC : Field), Blank ST x D U ∧ Found ST "value" "[B" fV U ∧ Found ST "coder" "B" fC U ∧ D.slots[fV.slot]? = some v0 ∧ D.slots[fC.slot]? = some c0 ∧ RoadKit.slotOf Z ST "value" "[B" = fV.slot ∧ RoadKit.slotOf Z ST "coder" "B" = fC.slot := by
  obtain ⟨D, cfV, kV, iV, fV, hD, gV, stV, knV, obV, asV, slV⟩ := V
  obtain ⟨D', cfC, kC, iC, fC, hD', gC, stC, -, -, asC, slC⟩ := C
  cases hD.symm.trans hD'
  obtain ⟨D2, kD, e1, e2, e3, e4, e5⟩ := E
  cases hD.symm.trans e1
  obtain ⟨c2, k2, i1, i2, i3, -⟩ := Cond.instantiable_spec wi
  cases e2.symm.trans i1
  cases e3.symm.trans i2
  obtain ⟨kU, u1, u2⟩ := al.2.2 _ _ e3
  exact ⟨D, fV, fC, ⟨hD, ⟨knV, fun q hq => by rw [hq] at obV; cases obV⟩, by rw [al.findClass]; exact e2, kU, u1, by rw [u2]; exact i3, by rw [u2]; exact e5 i3⟩, ⟨SBG.found_only al ⟨cfV, kV, iV, gV⟩, stV⟩, ⟨SBG.found_only al ⟨cfC, kC, iC, gC⟩, stC⟩, slV, slC, by simp [RoadKit.slotOf, gV], by simp [RoadKit.slotOf, gC]⟩
theorem sta_is {Z U : State} (al : Z.vm.Alike U.vm) {C n d : String} {v : Value} (S : RoadKit.Sta Z U.heap C n d v) : StaticIs U C n d v := by
  obtain ⟨cfS, iS, kS, fS, st, cS, t1, t2, t3, t4, t5, t6, t7⟩ := S
  exact StaticIs.there (s := { Z with heap := U.heap }) ⟨cfS, iS, kS, fS, st, cS, t1, t2, t3, t4, t5, (fun q => by rw [q] at t6; cases t6), t7⟩ al rfl
end StrChars.Road
namespace StrChars
open Jvm Sem ClassFile Op Lib Jvm.Stand Jvm.Free.XT Jvm.Free.ALB Jvm.Free.JM Jvm.Free
open Jvm.Lib.Cold (StaticIs)
/-- what place i of a byte[]'s cell holds -/
def yv (A : Cell) (i : Nat) : Int32 := match A.slots[i]? with | some (.int x) => x | _ => 0
theorem yv_get {a : Addr} {A : Cell} {U : State} (h : XT.Arr .byte a A U) (ht : Typed .byte A) {i : Nat} (hi : i < A.slots.size) : A.slots[i]? = some (.int (yv A i)) := by
  have e := Array.getElem?_eq_getElem hi
  have f := ht i _ e
  unfold yv; rw [e]
  generalize A.slots[i] = v at f
  cases v <;> simp [fits] at f ⊢
/-- the two arrays are equal, place for place -/
def EqC (A B : Cell) : Prop := A.slots.size = B.slots.size ∧ ∀ i, i < A.slots.size → yv A i = yv B i
/-- a boolean that says whether p -/
def Says01 (q : Prop) (r : Option Value) (s u : State) : Prop := ∃ v : Int32, r = some (.int v) ∧ u.heap = s.heap ∧ ((v = 1 ∧ q) ∨ (v = 0 ∧ ¬ q))
theorem Says01.mv {q : Prop} : ∀ r (U U' V V' : State), U'.heap = U.heap → V.vm.Alike V'.vm → V'.heap = V.heap → Says01 q r U V → Says01 q r U' V' :=
  fun r U U' V V' h1 _ h2 ⟨v, a, b, c⟩ => ⟨v, a, by rw [h1, h2]; exact b, c⟩
namespace LEq
def yN : MethodName := ⟨"java/lang/StringLatin1", "equals", "([B[B)Z"⟩
abbrev yB : ByteArray := jdk_43_method_13_code
theorem d0 : decode yB 0 = .ok (.aload_n 0, 1) := by decide +kernel
theorem d1 : decode yB 1 = .ok (.arraylength, 1) := by decide +kernel
theorem d2 : decode yB 2 = .ok (.aload_n 1, 1) := by decide +kernel
theorem d3 : decode yB 3 = .ok (.arraylength, 1) := by decide +kernel
theorem d4 : decode yB 4 = .ok (.if_icmp (.ne) 30, 3) := by decide +kernel
theorem d7 : decode yB 7 = .ok (.iconst 0, 1) := by decide +kernel
theorem d8 : decode yB 8 = .ok (.istore_n 2, 1) := by decide +kernel
theorem d9 : decode yB 9 = .ok (.iload_n 2, 1) := by decide +kernel
theorem d10 : decode yB 10 = .ok (.aload_n 0, 1) := by decide +kernel
theorem d11 : decode yB 11 = .ok (.arraylength, 1) := by decide +kernel
theorem d12 : decode yB 12 = .ok (.if_icmp (.ge) 20, 3) := by decide +kernel
theorem d15 : decode yB 15 = .ok (.aload_n 0, 1) := by decide +kernel
theorem d16 : decode yB 16 = .ok (.iload_n 2, 1) := by decide +kernel
theorem d17 : decode yB 17 = .ok (.baload, 1) := by decide +kernel
theorem d18 : decode yB 18 = .ok (.aload_n 1, 1) := by decide +kernel
theorem d19 : decode yB 19 = .ok (.iload_n 2, 1) := by decide +kernel
theorem d20 : decode yB 20 = .ok (.baload, 1) := by decide +kernel
theorem d21 : decode yB 21 = .ok (.if_icmp (.eq) 5, 3) := by decide +kernel
theorem d24 : decode yB 24 = .ok (.iconst 0, 1) := by decide +kernel
theorem d25 : decode yB 25 = .ok (.ireturn, 1) := by decide +kernel
theorem d26 : decode yB 26 = .ok (.iinc 2 1, 3) := by decide +kernel
theorem d29 : decode yB 29 = .ok (.goto (-20), 3) := by decide +kernel
theorem d32 : decode yB 32 = .ok (.iconst 1, 1) := by decide +kernel
theorem d33 : decode yB 33 = .ok (.ireturn, 1) := by decide +kernel
theorem d34 : decode yB 34 = .ok (.iconst 0, 1) := by decide +kernel
theorem d35 : decode yB 35 = .ok (.ireturn, 1) := by decide +kernel
def site : List Cond := []
def tab : Cond := tabOf yN yB 3 (some .boolean) site
def P (a : Addr) (A : Cell) (b : Addr) (B : Cell) (args : Array Value) (s : State) : Prop := args = #[.ref a, .ref b] ∧ XT.Arr .byte a A s ∧ Typed .byte A ∧ XT.Arr .byte b B s ∧ Typed .byte B
/-- whether two byte[] are equal, place for place -/
theorem law (l : Launch) (a : Addr) (A : Cell) (b : Addr) (B : Cell) : Law l yN 2 2 0 0 yB 3 (some .boolean) site (P a A b B) (Says01 (EqC A B)) [] 0 0 := by
  refine Law.of_walk (plainFor_of_name (by decide +kernel)) (by decide +kernel) (by decide +kernel) (by decide) (fun _ _ h => by rw [h.1]; rfl) (fun _ U U' hal hh h => ⟨h.1, h.2.1.mv hal hh, h.2.2.1, h.2.2.2.1.mv hal hh, h.2.2.2.2⟩) (fun r U U' V V' h1 hal h2 h => Says01.mv r U U' V V' h1 hal h2 h) ?_
  intro p e s m args below meth c s₁ X0 hexec hbytes hml hret hlk hnm hown hh0 W hP
  obtain ⟨rfl, hA, tA, hB, tB⟩ := hP
  have a31 := hA.2.2.2
  have b31 := hB.2.2.2
  have hA0 := hA.mv X0.warmed.alike hh0
  have hB0 := hB.mv X0.warmed.alike hh0
  have c1 : Steps p.tables e below (s₁.setTop (entryFrame m #[.ref a, .ref b] 3)) (s₁.setTop (mkF m 0 #[.val (.ref a), .val (.ref b), .unset] [])) := entry rfl
  have c2 : Steps p.tables e below (s₁.setTop (entryFrame m #[.ref a, .ref b] 3)) (s₁.setTop (mkF m 4 #[.val (.ref a), .val (.ref b), .unset] [.int (Int32.ofNat B.slots.size), .int (Int32.ofNat A.slots.size)])) := c1.trans (by
    refine XS.aloadN X0.here hexec rfl (hb hbytes d0) rfl rfl ?_
    refine X0.alen hexec hA0 rfl rfl (hb hbytes d1) ?_
    refine XS.aloadN X0.here hexec rfl (hb hbytes d2) rfl rfl ?_
    refine X0.alen hexec hB0 rfl rfl (hb hbytes d3) ?_
    exact Steps.refl _)
  by_cases hs : A.slots.size = B.slots.size
  · have c3 : Steps p.tables e below (s₁.setTop (entryFrame m #[.ref a, .ref b] 3)) (s₁.setTop (mkF m 9 #[.val (.ref a), .val (.ref b), .val (.int 0)] [])) := c2.trans (by
      refine XS.icmpNo X0.here hexec rfl (hb hbytes d4) rfl (ii_ne_f (by rw [hs])) ?_
      refine iconstV X0.here hexec rfl 0 (hb hbytes d7) (by decide) ?_
      refine XS.istoreN X0.here hexec rfl (hb hbytes d8) rfl rfl ?_
      exact Steps.refl _)
    have loop : ∀ (r i : Nat), i + r = A.slots.size → (∀ j, j < i → yv A j = yv B j) → Steps p.tables e below (s₁.setTop (entryFrame m #[.ref a, .ref b] 3)) (s₁.setTop (mkF m 9 #[.val (.ref a), .val (.ref b), .val (.int (Int32.ofNat i))] [])) → ∃ (pc : Nat) (Ls : Array Slot) (v : Int32), (pc = 25 ∨ pc = 33) ∧ ((v = 1 ∧ EqC A B) ∨ (v = 0 ∧ ¬ EqC A B)) ∧ Steps p.tables e below (s₁.setTop (entryFrame m #[.ref a, .ref b] 3)) (s₁.setTop (mkF m pc Ls [.int v])) := by
      intro r
      induction r with
      | zero =>
        intro i hi he cl
        exact ⟨33, _, 1, Or.inr rfl, Or.inl ⟨rfl, hs, fun j hj => he j (by omega)⟩, cl.trans (by
          refine XS.iloadN X0.here hexec rfl (hb hbytes d9) rfl ?_
          refine XS.aloadN X0.here hexec rfl (hb hbytes d10) rfl rfl ?_
          refine X0.alen hexec hA0 rfl rfl (hb hbytes d11) ?_
          refine XS.icmpYes X0.here hexec rfl (pc0 := 12) rfl (hb hbytes d12) rfl (ii_ge_t (nlt32 (by omega) (by omega))) (by decide) rfl ?_
          refine iconstV X0.here hexec rfl 1 (hb hbytes d32) (by decide) ?_
          exact Steps.refl _)⟩
      | succ r ih =>
        intro i hi he cl
        have c4 : Steps p.tables e below (s₁.setTop (entryFrame m #[.ref a, .ref b] 3)) (s₁.setTop (mkF m 21 #[.val (.ref a), .val (.ref b), .val (.int (Int32.ofNat i))] [.int (yv B i), .int (yv A i)])) := cl.trans (by
          refine XS.iloadN X0.here hexec rfl (hb hbytes d9) rfl ?_
          refine XS.aloadN X0.here hexec rfl (hb hbytes d10) rfl rfl ?_
          refine X0.alen hexec hA0 rfl rfl (hb hbytes d11) ?_
          refine XS.icmpNo X0.here hexec rfl (hb hbytes d12) rfl (ii_ge_f (lt32 (by omega) (by omega))) ?_
          refine XS.aloadN X0.here hexec rfl (hb hbytes d15) rfl rfl ?_
          refine XS.iloadN X0.here hexec rfl (hb hbytes d16) rfl ?_
          refine X0.aget hexec hA0 rfl (yv_get hA tA (i := i) (by omega)) rfl rfl (hb hbytes d17) ?_
          refine XS.aloadN X0.here hexec rfl (hb hbytes d18) rfl rfl ?_
          refine XS.iloadN X0.here hexec rfl (hb hbytes d19) rfl ?_
          refine X0.aget hexec hB0 rfl (yv_get hB tB (i := i) (by omega)) rfl rfl (hb hbytes d20) ?_
          exact Steps.refl _)
        by_cases hv : yv A i = yv B i
        · have c5 : Steps p.tables e below (s₁.setTop (entryFrame m #[.ref a, .ref b] 3)) (s₁.setTop (mkF m 9 #[.val (.ref a), .val (.ref b), .val (.int (Int32.ofNat i + 1))] [])) := c4.trans (by
            refine XS.icmpYes X0.here hexec rfl (pc0 := 21) rfl (hb hbytes d21) rfl (ii_eq_t hv) (by decide) rfl ?_
            refine iincV X0.here hexec rfl 1 (hb hbytes d26) (by decide) rfl rfl ?_
            refine XS.goto X0.here hexec rfl (pc0 := 29) rfl (hb hbytes d29) (by decide) rfl ?_
            exact Steps.refl _)
          rw [succ32] at c5
          exact ih (i + 1) (by omega) (fun j hj => by
            by_cases e : j = i
            · rw [e]; exact hv
            · exact he j (by omega)) c5
        · exact ⟨25, _, 0, Or.inl rfl, Or.inr ⟨rfl, fun q => hv (q.2 i (by omega))⟩, c4.trans (by
            refine XS.icmpNo X0.here hexec rfl (hb hbytes d21) rfl (ii_eq_f hv) ?_
            refine iconstV X0.here hexec rfl 0 (hb hbytes d24) (by decide) ?_
            exact Steps.refl _)⟩
    obtain ⟨pc, Ls, v, hpc, hv, cz⟩ := loop A.slots.size 0 (by omega) (fun j hj => absurd hj (Nat.not_lt_zero j)) c3
    have nv : narrow .boolean (.int v) = .int v := by rcases hv with ⟨rfl, -⟩ | ⟨rfl, -⟩ <;> rfl
    rcases hpc with rfl | rfl
    · exact ⟨s₁, some (.int v), _, _, _, X0, rfl, rfl, rfl, (fun h => by cases h), ⟨v, rfl, hh0, hv⟩, fun fs hl => cz.trans (X0.ireturnOut hexec hret nv (Or.inr (Or.inl rfl)) (hb hbytes d25) hl)⟩
    · exact ⟨s₁, some (.int v), _, _, _, X0, rfl, rfl, rfl, (fun h => by cases h), ⟨v, rfl, hh0, hv⟩, fun fs hl => cz.trans (X0.ireturnOut hexec hret nv (Or.inr (Or.inl rfl)) (hb hbytes d33) hl)⟩
  · have c3 : Steps p.tables e below (s₁.setTop (entryFrame m #[.ref a, .ref b] 3)) (s₁.setTop (mkF m 35 #[.val (.ref a), .val (.ref b), .unset] [.int 0])) := c2.trans (by
      refine XS.icmpYes X0.here hexec rfl (pc0 := 4) rfl (hb hbytes d4) rfl (ii_ne_t (ne32 a31 b31 hs)) (by decide) rfl ?_
      refine iconstV X0.here hexec rfl 0 (hb hbytes d34) (by decide) ?_
      exact Steps.refl _)
    exact ⟨s₁, some (.int 0), _, _, _, X0, rfl, rfl, rfl, (fun h => by cases h), ⟨0, rfl, hh0, Or.inr ⟨rfl, fun q => hs q.1⟩⟩, fun fs hl => c3.trans (X0.ireturnOut hexec hret rfl (Or.inr (Or.inl rfl)) (hb hbytes d35) hl)⟩
end LEq
theorem Cod.ty {cd : Int32} {n : Nat} {f : Nat → Int32} {V : Cell} (h : Cod cd n f V) : Typed .byte V := fun i v hv => by
  have hi : i < V.slots.size := (Array.getElem?_eq_some_iff.mp hv).1
  rcases h with ⟨-, k1, k2⟩ | ⟨-, k1, k2, -⟩
  · rw [(k2 i (by omega)).1] at hv; cases hv; exact fits_lo8 _
  · rcases Nat.mod_two_eq_zero_or_one i with e | e
    · obtain ⟨j, rfl⟩ : ∃ j, i = 2 * j := ⟨i / 2, by omega⟩
      rw [(k2 j (by omega)).1] at hv; cases hv; exact fits_lo8 _
    · obtain ⟨j, rfl⟩ : ∃ j, i = 2 * j + 1 := ⟨i / 2, by omega⟩
      rw [(k2 j (by omega)).2] at hv; cases hv; exact fits_lo8 _
/-- the same text -/
def SameT (n : Nat) (f : Nat → Int32) (k : Nat) (g : Nat → Int32) : Prop := n = k ∧ ∀ j, j < n → f j = g j
theorem lo8_inj {x y : Int32} (h0 : ¬ x < 0) (h1 : ¬ 255 < x) (k0 : ¬ y < 0) (k1 : ¬ 255 < y) (h : lo8 x = lo8 y) : x = y := by
  rw [← lo8_mask h0 h1, ← lo8_mask k0 k1, h]
/-- arrays coded by one coder are equal just where the texts are -/
theorem Cod.eqv {cd : Int32} {n k : Nat} {f g : Nat → Int32} {V V' : Cell} (h : Cod cd n f V) (h' : Cod cd k g V') (hf : ∀ j, j < n → ¬ f j < 0 ∧ ¬ 65535 < f j) (hg : ∀ j, j < k → ¬ g j < 0 ∧ ¬ 65535 < g j) : EqC V V' ↔ SameT n f k g := by
  have yvv : ∀ {W : Cell} {i : Nat} {x : Int32}, W.slots[i]? = some (.int x) → yv W i = x := fun q => by unfold yv; rw [q]
  rcases h with ⟨rfl, k1, k2⟩ | ⟨rfl, k1, k2, -⟩
  · rcases h' with ⟨-, m1, m2⟩ | ⟨e, -⟩
    · constructor
      · rintro ⟨e1, e2⟩
        refine ⟨by omega, fun j hj => ?_⟩
        have q := e2 j (by omega)
        rw [yvv (k2 j hj).1, yvv (m2 j (by omega)).1] at q
        exact lo8_inj (hf j hj).1 (k2 j hj).2 (hg j (by omega)).1 (m2 j (by omega)).2 q
      · rintro ⟨rfl, e2⟩
        refine ⟨by omega, fun j hj => ?_⟩
        rw [yvv (k2 j (by omega)).1, yvv (m2 j (by omega)).1, e2 j (by omega)]
    · exact absurd e (by decide)
  · rcases h' with ⟨e, -⟩ | ⟨-, m1, m2, -⟩
    · exact absurd e (by decide)
    · constructor
      · rintro ⟨e1, e2⟩
        refine ⟨by omega, fun j hj => ?_⟩
        have q1 := e2 (2 * j) (by omega)
        have q2 := e2 (2 * j + 1) (by omega)
        rw [yvv (k2 j hj).1, yvv (m2 j (by omega)).1] at q1
        rw [yvv (k2 j hj).2, yvv (m2 j (by omega)).2] at q2
        rw [← pair_says (hf j hj).1 (hf j hj).2, ← pair_says (hg j (by omega)).1 (hg j (by omega)).2, q1, q2]
      · rintro ⟨rfl, e2⟩
        refine ⟨by omega, fun i hi => ?_⟩
        rcases Nat.mod_two_eq_zero_or_one i with e | e
        · obtain ⟨j, rfl⟩ : ∃ j, i = 2 * j := ⟨i / 2, by omega⟩
          rw [yvv (k2 j (by omega)).1, yvv (m2 j (by omega)).1, e2 j (by omega)]
        · obtain ⟨j, rfl⟩ : ∃ j, i = 2 * j + 1 := ⟨i / 2, by omega⟩
          rw [yvv (k2 j (by omega)).2, yvv (m2 j (by omega)).2, e2 j (by omega)]
/-- two codings differ: so do the texts -/
theorem Cod.dif {cd cd' : Int32} {n k : Nat} {f g : Nat → Int32} {V V' : Cell} (h : Cod cd n f V) (h' : Cod cd' k g V') (hne : ¬ cd = cd') : ¬ SameT n f k g := by
  rintro ⟨rfl, e⟩
  rcases h with ⟨rfl, -, k2⟩ | ⟨rfl, -, -, j, hj, hw⟩
  · rcases h' with ⟨rfl, -⟩ | ⟨-, -, -, j, hj, hw⟩
    · exact hne rfl
    · exact (k2 j hj).2 (by rw [e j hj]; exact hw)
  · rcases h' with ⟨-, -, m2⟩ | ⟨rfl, -⟩
    · exact (m2 j hj).2 (by rw [← e j hj]; exact hw)
    · exact hne rfl
/-- an object of exactly C is an instance of C -/
theorem cinst {p : Program} {l : Launch} {e : Env} {R : Room} {s : State} {m : MethodId} {args : Array Value} {below : List Frame} {meth : Method} {c : Code} {T : State} {locs : List Loc} {cells slots : Nat} (X : Stand p l e R s m args below meth c T locs cells slots) (hexec : p.tables.exec = Jvm.exec) {own C : String} {index : Nat} (hown : s.vm.findClass own = some m.cls) (hlink : (Cond.classLink own index C).before args s = true) {a : Addr} (hE : Exact C a T)
    {g : JFrame} (hg : g.method = m) {rest : List Value} (hstack : g.stack = .ref a :: rest) (hdg : decode c.code g.pc = .ok (.instanceof index, 3)) :
    ∃ T', Stand p l e R s m args below meth c T' locs cells slots ∧ T'.heap = T.heap ∧ ∀ target, Steps p.tables e below (T'.setTop { g with pc := g.pc + 3, stack := .int 1 :: rest }) target → Steps p.tables e below (T.setTop g) target := by
  obtain ⟨cB, h1, D, h2, h3, h4⟩ := hE
  have h1' : s.vm.findClass C = some cB := by rw [← X.warmed.alike.findClass]; exact h1
  obtain ⟨vm', X', st⟩ := X.instanceofYes hexec hown hlink h2 h4 h1' (by rw [h3]; exact Jvm.Free.SB.assignable_self _ _) hg hstack hdg
  exact ⟨_, X', rfl, st⟩
theorem cself {p : Program} {l : Launch} {e : Env} {R : Room} {s : State} {m : MethodId} {args : Array Value} {below : List Frame} {meth : Method} {c : Code} {T : State} {locs : List Loc} {cells slots : Nat} (X : Stand p l e R s m args below meth c T locs cells slots) (hexec : p.tables.exec = Jvm.exec) {own C : String} {index : Nat} (hown : s.vm.findClass own = some m.cls) (hlink : (Cond.classLink own index C).before args s = true) {a : Addr} (hE : Exact C a T)
    {g : JFrame} (hg : g.method = m) {rest : List Value} (hstack : g.stack = .ref a :: rest) (hdg : decode c.code g.pc = .ok (.checkcast index, 3)) :
    ∃ T', Stand p l e R s m args below meth c T' locs cells slots ∧ T'.heap = T.heap ∧ ∀ target, Steps p.tables e below (T'.setTop { g with pc := g.pc + 3, stack := .ref a :: rest }) target → Steps p.tables e below (T.setTop g) target := by
  obtain ⟨cB, h1, D, h2, h3, h4⟩ := hE
  have h1' : s.vm.findClass C = some cB := by rw [← X.warmed.alike.findClass]; exact h1
  obtain ⟨vm', X', st⟩ := X.checkcastYes hexec hown hlink h2 h4 h1' (by rw [h3]; exact Jvm.Free.SB.assignable_self _ _) hg hstack hdg
  exact ⟨_, X', rfl, fun t h => st t (by rw [← hstack] at h; exact h)⟩
namespace SEq
def yN : MethodName := ⟨"java/lang/String", "equals", "(Ljava/lang/Object;)Z"⟩
abbrev yB : ByteArray := jdk_42_method_66_code
theorem d0 : decode yB 0 = .ok (.aload_n 0, 1) := by decide +kernel
theorem d1 : decode yB 1 = .ok (.aload_n 1, 1) := by decide +kernel
theorem d2 : decode yB 2 = .ok (.if_acmp (.ne) 5, 3) := by decide +kernel
theorem d5 : decode yB 5 = .ok (.iconst 1, 1) := by decide +kernel
theorem d6 : decode yB 6 = .ok (.ireturn, 1) := by decide +kernel
theorem d7 : decode yB 7 = .ok (.aload_n 1, 1) := by decide +kernel
theorem d8 : decode yB 8 = .ok (.instanceof 10, 3) := by decide +kernel
theorem d11 : decode yB 11 = .ok (.ifCond (.eq) 43, 3) := by decide +kernel
theorem d14 : decode yB 14 = .ok (.aload_n 1, 1) := by decide +kernel
theorem d15 : decode yB 15 = .ok (.checkcast 10, 3) := by decide +kernel
theorem d18 : decode yB 18 = .ok (.astore_n 2, 1) := by decide +kernel
theorem d19 : decode yB 19 = .ok (.getstatic 38, 3) := by decide +kernel
theorem d22 : decode yB 22 = .ok (.ifCond (.eq) 14, 3) := by decide +kernel
theorem d25 : decode yB 25 = .ok (.aload_n 0, 1) := by decide +kernel
theorem d26 : decode yB 26 = .ok (.getfield 15, 3) := by decide +kernel
theorem d29 : decode yB 29 = .ok (.aload_n 2, 1) := by decide +kernel
theorem d30 : decode yB 30 = .ok (.getfield 15, 3) := by decide +kernel
theorem d33 : decode yB 33 = .ok (.if_icmp (.ne) 21, 3) := by decide +kernel
theorem d36 : decode yB 36 = .ok (.aload_n 0, 1) := by decide +kernel
theorem d37 : decode yB 37 = .ok (.getfield 9, 3) := by decide +kernel
theorem d40 : decode yB 40 = .ok (.aload_n 2, 1) := by decide +kernel
theorem d41 : decode yB 41 = .ok (.getfield 9, 3) := by decide +kernel
theorem d44 : decode yB 44 = .ok (.invokestatic 541, 3) := by decide +kernel
theorem d47 : decode yB 47 = .ok (.ifCond (.eq) 7, 3) := by decide +kernel
theorem d50 : decode yB 50 = .ok (.iconst 1, 1) := by decide +kernel
theorem d51 : decode yB 51 = .ok (.goto 4, 3) := by decide +kernel
theorem d54 : decode yB 54 = .ok (.iconst 0, 1) := by decide +kernel
theorem d55 : decode yB 55 = .ok (.ireturn, 1) := by decide +kernel
def site : List Cond := [.classLink "java/lang/String" 10 "java/lang/String", .fieldLink "java/lang/String" 38 "java/lang/String" "COMPACT_STRINGS" "Z", .fieldLink "java/lang/String" 15 "java/lang/String" "coder" "B", .fieldLink "java/lang/String" 9 "java/lang/String" "value" "[B", LEq.tab] ++ staticW "java/lang/String" 541 LEq.yN
def tab : Cond := tabOf yN yB 3 (some .boolean) site
def P (x t : Addr) (V : Cell) (cd : Int32) (n : Nat) (f : Nat → Int32) (y t' : Addr) (V' : Cell) (cd' : Int32) (k : Nat) (g : Nat → Int32) (z : Int32) (args : Array Value) (s : State) : Prop := args = #[.ref x, .ref y] ∧ Txt x t V cd n f s ∧ Txt y t' V' cd' k g s ∧ StaticIs s "java/lang/String" "COMPACT_STRINGS" "Z" (.int z) ∧ ¬ z = 0
/-- equals(Object) of two Strings: whether the texts are the same -/
theorem law (l : Launch) (x t : Addr) (V : Cell) (cd : Int32) (n : Nat) (f : Nat → Int32) (y t' : Addr) (V' : Cell) (cd' : Int32) (k : Nat) (g : Nat → Int32) (z : Int32) : Law l yN 2 1 1 14 yB 3 (some .boolean) site (P x t V cd n f y t' V' cd' k g z) (Says01 (SameT n f k g)) [] 0 0 := by
  refine Law.of_walk (plainFor_of_name (by decide +kernel)) (by decide +kernel) (by decide +kernel) (by decide) (fun _ _ h => by rw [h.1]; rfl) (fun _ U U' hal hh h => ⟨h.1, h.2.1.mv hal hh, h.2.2.1.mv hal hh, h.2.2.2.1.there hal hh, h.2.2.2.2⟩) (fun r U U' V V' h1 hal h2 h => Says01.mv r U U' V V' h1 hal h2 h) ?_
  intro p e s m args below meth c s₁ X0 hexec hbytes hml hret hlk hnm hown hh0 W hP
  obtain ⟨rfl, hx, hy, s1, hz⟩ := hP
  have c1 : Steps p.tables e below (s₁.setTop (entryFrame m #[.ref x, .ref y] 3)) (s₁.setTop (mkF m 2 #[.val (.ref x), .val (.ref y), .unset] [.ref y, .ref x])) := Steps.trans (entry rfl) (by
    show Steps p.tables e below (s₁.setTop (mkF m 0 #[.val (.ref x), .val (.ref y), .unset] [])) _
    refine XS.aloadN X0.here hexec rfl (hb hbytes d0) rfl rfl ?_
    refine XS.aloadN X0.here hexec rfl (hb hbytes d1) rfl rfl ?_
    exact Steps.refl _)
  by_cases hxy : x = y
  · have c2 : Steps p.tables e below (s₁.setTop (entryFrame m #[.ref x, .ref y] 3)) (s₁.setTop (mkF m 6 #[.val (.ref x), .val (.ref y), .unset] [.int 1])) := c1.trans (by
      refine acmpNo X0.here hexec rfl (hb hbytes d2) rfl rfl rfl (by simp [acmp, hxy]) ?_
      refine iconstV X0.here hexec rfl 1 (hb hbytes d5) (by decide) ?_
      exact Steps.refl _)
    subst hxy
    have ec : cd = cd' := by
      obtain ⟨D, fd, a1, a2, a3⟩ := hx.2.2.1
      obtain ⟨D', fd', b1, b2, b3⟩ := hy.2.2.1
      cases a1.symm.trans b1
      obtain ⟨q1, q2, q3, q4⟩ := a2.1
      obtain ⟨r1, r2, r3, r4⟩ := b2.1
      cases q4.symm.trans r4
      cases a3.symm.trans b3; rfl
    have et : t = t' := by
      obtain ⟨D, fd, a1, a2, a3⟩ := hx.2.1
      obtain ⟨D', fd', b1, b2, b3⟩ := hy.2.1
      cases a1.symm.trans b1
      obtain ⟨q1, q2, q3, q4⟩ := a2.1
      obtain ⟨r1, r2, r3, r4⟩ := b2.1
      cases q4.symm.trans r4
      cases a3.symm.trans b3; rfl
    subst ec et
    have ev : V = V' := by cases hx.2.2.2.1.1.symm.trans hy.2.2.2.1.1; rfl
    subst ev
    have hs : SameT n f k g := (Cod.eqv hx.2.2.2.2.1 hy.2.2.2.2.1 hx.2.2.2.2.2 hy.2.2.2.2.2).mp ⟨rfl, fun _ _ => rfl⟩
    exact ⟨s₁, some (.int 1), _, _, _, X0, rfl, rfl, rfl, (fun h => by cases h), ⟨1, rfl, hh0, Or.inl ⟨rfl, hs⟩⟩, fun fs hl => c2.trans (X0.ireturnOut hexec hret rfl (Or.inr (Or.inl rfl)) (hb hbytes d6) hl)⟩
  · have c2 : Steps p.tables e below (s₁.setTop (entryFrame m #[.ref x, .ref y] 3)) (s₁.setTop (mkF m 8 #[.val (.ref x), .val (.ref y), .unset] [.ref y])) := c1.trans (by
      refine acmpYes X0.here hexec rfl (pc0 := 2) rfl (hb hbytes d2) rfl rfl rfl (by simp [acmp, hxy]) (by decide) rfl ?_
      refine XS.aloadN X0.here hexec rfl (hb hbytes d7) rfl rfl ?_
      exact Steps.refl _)
    obtain ⟨T3, X3, q3, st3⟩ := cinst X0 hexec hown (wk W (.classLink "java/lang/String" 10 "java/lang/String")) (hy.mv X0.warmed.alike hh0).1 (g := (mkF m 8 #[.val (.ref x), .val (.ref y), .unset] [.ref y])) rfl (rest := []) rfl (hb hbytes d8)
    have hh3 := q3.trans hh0
    have c4 : Steps p.tables e below (s₁.setTop (entryFrame m #[.ref x, .ref y] 3)) (T3.setTop (mkF m 15 #[.val (.ref x), .val (.ref y), .unset] [.ref y])) := (c2.trans (st3 _ (Steps.refl _))).trans (by
      refine XS.ifNo X3.here hexec rfl (hb hbytes d11) rfl (i0_eq_f (by decide)) ?_
      refine XS.aloadN X3.here hexec rfl (hb hbytes d14) rfl rfl ?_
      exact Steps.refl _)
    obtain ⟨T5, X5, q5, st5⟩ := cself X3 hexec hown (wk W (.classLink "java/lang/String" 10 "java/lang/String")) (hy.mv X3.warmed.alike hh3).1 (g := (mkF m 15 #[.val (.ref x), .val (.ref y), .unset] [.ref y])) rfl (rest := []) rfl (hb hbytes d15)
    have hh5 := q5.trans hh3
    have c6 : Steps p.tables e below (s₁.setTop (entryFrame m #[.ref x, .ref y] 3)) (T5.setTop (mkF m 19 #[.val (.ref x), .val (.ref y), .val (.ref y)] [])) := (c4.trans (st5 _ (Steps.refl _))).trans (by
      refine XS.astoreN X5.here hexec rfl (hb hbytes d18) rfl rfl rfl ?_
      exact Steps.refl _)
    obtain ⟨T7, X7, q7, st7⟩ := X5.sget hexec hown (wk W (.fieldLink "java/lang/String" 38 "java/lang/String" "COMPACT_STRINGS" "Z")) s1 (fun _ _ h => by rw [hh5]; exact h) (g := (mkF m 19 #[.val (.ref x), .val (.ref y), .val (.ref y)] [])) rfl (hb hbytes d19)
    have hh7 := q7.trans hh5
    have c8 : Steps p.tables e below (s₁.setTop (entryFrame m #[.ref x, .ref y] 3)) (T7.setTop (mkF m 26 #[.val (.ref x), .val (.ref y), .val (.ref y)] [.ref x])) := (c6.trans (st7 _ (Steps.refl _))).trans (by
      refine XS.ifNo X7.here hexec rfl (hb hbytes d22) rfl (i0_eq_f hz) ?_
      refine XS.aloadN X7.here hexec rfl (hb hbytes d25) rfl rfl ?_
      exact Steps.refl _)
    obtain ⟨T9, X9, q9, st9⟩ := X7.hget hexec hown (wk W (.fieldLink "java/lang/String" 15 "java/lang/String" "coder" "B")) (hx.mv X7.warmed.alike hh7).2.2.1 (g := (mkF m 26 #[.val (.ref x), .val (.ref y), .val (.ref y)] [.ref x])) rfl (rest := []) rfl (hb hbytes d26)
    have hh9 := q9.trans hh7
    have c10 : Steps p.tables e below (s₁.setTop (entryFrame m #[.ref x, .ref y] 3)) (T9.setTop (mkF m 30 #[.val (.ref x), .val (.ref y), .val (.ref y)] [.ref y, .int cd])) := (c8.trans (st9 _ (Steps.refl _))).trans (by
      refine XS.aloadN X9.here hexec rfl (hb hbytes d29) rfl rfl ?_
      exact Steps.refl _)
    obtain ⟨T11, X11, q11, st11⟩ := X9.hget hexec hown (wk W (.fieldLink "java/lang/String" 15 "java/lang/String" "coder" "B")) (hy.mv X9.warmed.alike hh9).2.2.1 (g := (mkF m 30 #[.val (.ref x), .val (.ref y), .val (.ref y)] [.ref y, .int cd])) rfl (rest := [.int cd]) rfl (hb hbytes d30)
    have hh11 := q11.trans hh9
    have c12 : Steps p.tables e below (s₁.setTop (entryFrame m #[.ref x, .ref y] 3)) (T11.setTop (mkF m 33 #[.val (.ref x), .val (.ref y), .val (.ref y)] [.int cd', .int cd])) := c10.trans (st11 _ (Steps.refl _))
    by_cases hcd : cd = cd'
    · subst hcd
      have c13 : Steps p.tables e below (s₁.setTop (entryFrame m #[.ref x, .ref y] 3)) (T11.setTop (mkF m 37 #[.val (.ref x), .val (.ref y), .val (.ref y)] [.ref x])) := c12.trans (by
        refine XS.icmpNo X11.here hexec rfl (hb hbytes d33) rfl (ii_ne_f rfl) ?_
        refine XS.aloadN X11.here hexec rfl (hb hbytes d36) rfl rfl ?_
        exact Steps.refl _)
      obtain ⟨T14, X14, q14, st14⟩ := X11.hget hexec hown (wk W (.fieldLink "java/lang/String" 9 "java/lang/String" "value" "[B")) (hx.mv X11.warmed.alike hh11).2.1 (g := (mkF m 37 #[.val (.ref x), .val (.ref y), .val (.ref y)] [.ref x])) rfl (rest := []) rfl (hb hbytes d37)
      have hh14 := q14.trans hh11
      have c15 : Steps p.tables e below (s₁.setTop (entryFrame m #[.ref x, .ref y] 3)) (T14.setTop (mkF m 41 #[.val (.ref x), .val (.ref y), .val (.ref y)] [.ref y, .ref t])) := (c13.trans (st14 _ (Steps.refl _))).trans (by
        refine XS.aloadN X14.here hexec rfl (hb hbytes d40) rfl rfl ?_
        exact Steps.refl _)
      obtain ⟨T16, X16, q16, st16⟩ := X14.hget hexec hown (wk W (.fieldLink "java/lang/String" 9 "java/lang/String" "value" "[B")) (hy.mv X14.warmed.alike hh14).2.1 (g := (mkF m 41 #[.val (.ref x), .val (.ref y), .val (.ref y)] [.ref y, .ref t])) rfl (rest := [.ref t]) rfl (hb hbytes d41)
      have hh16 := q16.trans hh14
      have c17 : Steps p.tables e below (s₁.setTop (entryFrame m #[.ref x, .ref y] 3)) (T16.setTop (mkF m 44 #[.val (.ref x), .val (.ref y), .val (.ref y)] [.ref t', .ref t])) := c15.trans (st16 _ (Steps.refl _))
      obtain ⟨v18, T18, X18, E18, g18⟩ := X16.callS hexec (LEq.law l t V t' V') hown (wks W (staticW "java/lang/String" 541 LEq.yN)) (wk W LEq.tab) (W := 0) (Nat.le_of_ble_eq_true rfl) (Nat.le_of_ble_eq_true rfl) (Nat.le_refl _) (Nat.le_refl _) (g := (mkF m 44 #[.val (.ref x), .val (.ref y), .val (.ref y)] [.ref t', .ref t])) rfl (by rw [hml]; rfl) c17 (argsL := [.ref t, .ref t']) (rest := []) rfl rfl (by show 2 * 0 + 0 ≤ _; decide) (hb hbytes d44) (⟨rfl, hx.2.2.2.1.mv X16.warmed.alike hh16, hx.2.2.2.2.1.ty, hy.2.2.2.1.mv X16.warmed.alike hh16, hy.2.2.2.2.1.ty⟩)
      obtain ⟨v, rfl, q18, hv⟩ := E18
      have iff := Cod.eqv hx.2.2.2.2.1 hy.2.2.2.2.1 hx.2.2.2.2.2 hy.2.2.2.2.2
      rcases hv with ⟨rfl, he⟩ | ⟨rfl, he⟩
      · have c19 : Steps p.tables e below (s₁.setTop (entryFrame m #[.ref x, .ref y] 3)) (T18.setTop (mkF m 55 #[.val (.ref x), .val (.ref y), .val (.ref y)] [.int 1])) := Steps.trans g18 (by
          refine XS.ifNo X18.here hexec rfl (hb hbytes d47) rfl (i0_eq_f (by decide)) ?_
          refine iconstV X18.here hexec rfl 1 (hb hbytes d50) (by decide) ?_
          refine XS.goto X18.here hexec rfl (pc0 := 51) rfl (hb hbytes d51) (by decide) rfl ?_
          exact Steps.refl _)
        exact ⟨T18, some (.int 1), _, _, _, X18, rfl, rfl, rfl, (fun h => by cases h), ⟨1, rfl, q18.trans hh16, Or.inl ⟨rfl, iff.mp he⟩⟩, fun fs hl => c19.trans (X18.ireturnOut hexec hret rfl (Or.inr (Or.inl rfl)) (hb hbytes d55) hl)⟩
      · have c19 : Steps p.tables e below (s₁.setTop (entryFrame m #[.ref x, .ref y] 3)) (T18.setTop (mkF m 55 #[.val (.ref x), .val (.ref y), .val (.ref y)] [.int 0])) := Steps.trans g18 (by
          refine XS.ifYes X18.here hexec rfl (pc0 := 47) rfl (hb hbytes d47) rfl (i0_eq_t rfl) (by decide) rfl ?_
          refine iconstV X18.here hexec rfl 0 (hb hbytes d54) (by decide) ?_
          exact Steps.refl _)
        exact ⟨T18, some (.int 0), _, _, _, X18, rfl, rfl, rfl, (fun h => by cases h), ⟨0, rfl, q18.trans hh16, Or.inr ⟨rfl, fun q => he (iff.mpr q)⟩⟩, fun fs hl => c19.trans (X18.ireturnOut hexec hret rfl (Or.inr (Or.inl rfl)) (hb hbytes d55) hl)⟩
    · have c13 : Steps p.tables e below (s₁.setTop (entryFrame m #[.ref x, .ref y] 3)) (T11.setTop (mkF m 55 #[.val (.ref x), .val (.ref y), .val (.ref y)] [.int 0])) := c12.trans (by
        refine XS.icmpYes X11.here hexec rfl (pc0 := 33) rfl (hb hbytes d33) rfl (ii_ne_t hcd) (by decide) rfl ?_
        refine iconstV X11.here hexec rfl 0 (hb hbytes d54) (by decide) ?_
        exact Steps.refl _)
      exact ⟨T11, some (.int 0), _, _, _, X11, rfl, rfl, rfl, (fun h => by cases h), ⟨0, rfl, hh11, Or.inr ⟨rfl, Cod.dif hx.2.2.2.2.1 hy.2.2.2.2.1 hcd⟩⟩, fun fs hl => c13.trans (X11.ireturnOut hexec hret rfl (Or.inr (Or.inl rfl)) (hb hbytes d55) hl)⟩
theorem pays {l : Launch} {R : Room} {p : Program} {e : Env} {below : List Frame} {s : State} {sargs : Array Value} {len W : Nat} (x t : Addr) (V : Cell) (cd : Int32) (n : Nat) (f : Nat → Int32) (y t' : Addr) (V' : Cell) (cd' : Int32) (k : Nat) (g : Nat → Int32) (z : Int32) (htab : tab.before sargs s = true) (hfr : 2 ≤ R.frames) (hlo : W + 28 ≤ R.locals) :
    Back l R p e below s sargs yN len W (fun A₁ a₁ => A₁.cells + 0 ≤ R.cells ∧ A₁.slots + 0 ≤ R.slots ∧ P x t V cd n f y t' V' cd' k g z a₁ A₁.U) (fun A₁ _ v₁ B₁ => Says01 (SameT n f k g) v₁ A₁.U B₁.U ∧ B₁.locs = A₁.locs ++ [] ∧ B₁.cells = A₁.cells + 0 ∧ B₁.slots = A₁.slots + 0) :=
  (law l x t V cd n f y t' V' cd' k g z).pays htab hfr (by omega)
end SEq
end StrChars
namespace StrChars.Road
open Jvm Sem ClassFile Op Lib Jvm.Stand Jvm.Free Jvm.Free.XT
open Jvm.Lib.Cold (StaticIs)
/-- the words of String.equals(Object) -/
abbrev wordsEq : List Jvm.Cond := [.code SEq.yN SEq.yB 3 (some .boolean), .initialized ST, .classLink ST 10 ST, .fieldLink ST 38 ST "COMPACT_STRINGS" "Z", .fieldLink ST 15 ST "coder" "B", .fieldLink ST 9 ST "value" "[B", .methodLink ST 541 LEq.yN, .static LEq.yN, .code LEq.yN LEq.yB 3 (some .boolean), .initialized "java/lang/StringLatin1"]
theorem tabEq_of {a : Array Value} {s : State} (h : ∀ w ∈ wordsEq, w.before a s = true) : SEq.tab.before a s = true := by
  have hl : LEq.tab.before a s = true := unparts (wk h (.code LEq.yN LEq.yB 3 (some .boolean))) (wks h (.initialized LEq.yN.cls :: LEq.site))
  have q := consq hl h
  exact unparts (wk q (.code SEq.yN SEq.yB 3 (some .boolean))) (wks q (.initialized SEq.yN.cls :: SEq.site))
theorem movedEq {Z s : State} {a0 args : Array Value} (hZ : Z.Warmed39 s.vm) (hw : ∀ d ∈ wordsEq, d.before a0 Z = true) : ∀ d ∈ wordsEq, d.before args s = true := fun d hd => by
  have t : ∀ d ∈ wordsEq, (d.onTables && d.keepsFace) = true := by decide +kernel
  exact RoadKit.mv hZ (hw d hd) (t d hd)
/-- the road's facts of a String, as the laws ask it -/
theorem txt_of {Z U : State} {a0 : Array Value} {kI : Nat} (wi : (Jvm.Cond.instantiable ST kI).before a0 Z = true) (al : Z.vm.Alike U.vm) {x t : Addr} {kb : ClassId} {cs : List Int32} {cd N2 : Int32} {vs : List Value} (E : RoadKit.Exa Z U.heap x ST) (V : RoadKit.Fld Z U.heap x ST "value" "[B" (.ref t)) (C : RoadKit.Fld Z U.heap x ST "coder" "B" (.int cd)) (K : RoadKit.Arv Z U.heap t kb .byte N2 vs (.int 0)) (hc : CodA cs cd N2 vs) (hb : ∀ c ∈ cs, ¬ c < 0 ∧ ¬ (65535 : Int32) < c) (l2 : cs.length ≤ 4000) :
    ∃ A, Txt x t A cd cs.length (fun j => cs.getD j 0) U := by
  obtain ⟨A, K1, K2, K3, K4, K5, K6⟩ := K
  have hcod := hc.cod (by omega) K3 K5
  obtain ⟨D, fV, fC, hB, F1, F2, g1, g2, -, -⟩ := strObj wi al E V C
  exact ⟨A, ⟨_, hB.2.2.1, D, hB.1, rfl, by cases q : D.vm <;> first | rfl | exact absurd q (hB.2.1.2 _)⟩, Has.of hB F1 g1, Has.of hB F2 g2, ⟨K1.1, State.isArrayOf_alike al K1.2.1, K1.2.2, by rcases hcod with ⟨-, q, -⟩ | ⟨-, q, -⟩ <;> omega⟩, hcod, fun j hj => by
    have e : cs.getD j 0 = cs[j] := by simp [List.getD_eq_getElem?_getD, hj]
    show ¬ cs.getD j 0 < 0 ∧ ¬ 65535 < cs.getD j 0
    rw [e]; exact hb _ (List.getElem_mem _)⟩
theorem same_list (cs ds : List Int32) : SameT cs.length (fun j => cs.getD j 0) ds.length (fun j => ds.getD j 0) ↔ cs = ds := by
  constructor
  · rintro ⟨e, q⟩
    refine List.ext_getElem e fun j h1 h2 => ?_
    have := q j h1
    simpa [List.getD_eq_getElem?_getD, h1, h2] using this
  · rintro rfl
    exact ⟨rfl, fun _ _ => rfl⟩
/-- **equals(Object) OF TWO SUCH STRINGS**: 1 just where the chars are the same -/
theorem eqW {p : Program} {l : Launch} {e : Env} {R : Room} {s : State} {args : Array Value} {below : List Frame} {len W : Nat} {Z : State} {a0 : Array Value} {h : Heap} (hZ : Z.Warmed39 s.vm) (hw : ∀ d ∈ wordsEq, d.before a0 Z = true) {kI : Nat} (wi : (Jvm.Cond.instantiable ST kI).before a0 Z = true)
    {x t : Addr} {kb : ClassId} {cs : List Int32} {cd N2 : Int32} {vs : List Value} (E : RoadKit.Exa Z h x ST) (V : RoadKit.Fld Z h x ST "value" "[B" (.ref t)) (C : RoadKit.Fld Z h x ST "coder" "B" (.int cd)) (K : RoadKit.Arv Z h t kb .byte N2 vs (.int 0)) (hc : CodA cs cd N2 vs) (hb : ∀ c ∈ cs, ¬ c < 0 ∧ ¬ (65535 : Int32) < c) (l2 : cs.length ≤ 4000)
    {y t' : Addr} {kb' : ClassId} {ds : List Int32} {cd' N2' : Int32} {vs' : List Value} (E' : RoadKit.Exa Z h y ST) (V' : RoadKit.Fld Z h y ST "value" "[B" (.ref t')) (C' : RoadKit.Fld Z h y ST "coder" "B" (.int cd')) (K' : RoadKit.Arv Z h t' kb' .byte N2' vs' (.int 0)) (hc' : CodA ds cd' N2' vs') (hb' : ∀ c ∈ ds, ¬ c < 0 ∧ ¬ (65535 : Int32) < c) (l2' : ds.length ≤ 4000)
    {z : Int32} (S : RoadKit.Sta Z h ST "COMPACT_STRINGS" "Z" (.int z)) (hz : ¬ z = 0) (hfr : 2 ≤ R.frames) (hlo : W + 28 ≤ R.locals) :
    Back l R p e below s args (⟨"java/lang/String", "equals", "(Ljava/lang/Object;)Z"⟩ : MethodName) len W (fun P a => a = #[.ref x, .ref y] ∧ P.U.heap = h ∧ P.cells + 0 ≤ R.cells ∧ P.slots + 0 ≤ R.slots)
      (fun P _ v B => ∃ L, (((v = some (.int 1) ∧ cs = ds) ∨ (v = some (.int 0) ∧ ¬ cs = ds)) ∧ L = [] ∧ B.U.heap = h) ∧ B.locs = P.locs ++ L ∧ B.cells = P.cells + 0 ∧ B.slots = P.slots + 0) := by
  intro m meth c P g ig mk a X hg hsize hdg hW hn hp'
  obtain ⟨rfl, rfl, r1, r2⟩ := hp'
  have al : Z.vm.Alike P.U.vm := hZ.alike.trans X.warmed.alike
  obtain ⟨A, hx⟩ := txt_of wi al E V C K hc hb l2
  obtain ⟨A', hy⟩ := txt_of wi al E' V' C' K' hc' hb' l2'
  obtain ⟨v, B, X', ⟨⟨w, hv, hh, hq⟩, hl, hk, hs⟩, st⟩ := SEq.pays x t A cd cs.length (fun j => cs.getD j 0) y t' A' cd' ds.length (fun j => ds.getD j 0) z (tabEq_of (movedEq hZ hw)) hfr hlo m meth c P g ig mk _ X hg hsize hdg hW hn ⟨r1, r2, rfl, hx, hy, sta_is al S, hz⟩
  refine ⟨v, B, X', ⟨[], ⟨?_, rfl, hh⟩, hl, hk, hs⟩, st⟩
  rcases hq with ⟨rfl, q⟩ | ⟨rfl, q⟩
  · exact Or.inl ⟨hv, (same_list cs ds).mp q⟩
  · exact Or.inr ⟨hv, fun e => q ((same_list cs ds).mpr e)⟩
end StrChars.Road
namespace StrChars.Road
open Jvm Sem ClassFile Op Lib Jvm.Stand Jvm.Free Jvm.Free.XT
open Jvm.Lib.Cold (StaticIs)
/-- what backV says of its String, as the contracts of this text ask it: cs's low bytes, coder 0 -/
theorem codOf {cs : List Int32} {n : Nat} (hn : cs.length = n) (hb : ∀ c ∈ cs, ¬ 255 < c) : CodA cs 0 (Int32.ofNat n) ((cs.map lo8).map Value.int) := Or.inl ⟨rfl, by rw [hn], by simp [List.map_map, Function.comp_def], hb⟩
end StrChars.Road
end Jvm.Pilot.@@N@@
namespace Jvm.OwnK
open Sem ClassFile Op Lib Jvm.Stand Jvm.Free Jvm.LawKit Jvm.RoadKit
/-- what a body leaves: Q of its value and heap; what it wrote lies in new cells; the old cells stand -/
def Out (Z s : State) (Q : Option Value → Heap → Prop) (k n : Nat) (o : Outcome) (U : State) : Prop :=
  ∃ v L, o = .returned v ∧ (Q v U.heap ∧ Fr Z.heap.size L ∧ Old Z Z.heap.size U.heap) ∧ FrameEnd s o U L k n
/-- from here the walk ends, and G holds of its end -/
def Go (tb : Tables) (e : Env) (below : List Frame) (G : Outcome → State → Prop) (T : State) (F : JFrame) : Prop :=
  ∃ s₂ o, Steps tb e below (T.setTop F) s₂ ∧ s₂.status = .running ∧ Ended s₂ below o ∧ G o s₂
/-- where the walk stands, with its heap -/
def Wk (p : Program) (l : Launch) (e : Env) (R : Room) (s : State) (m : MethodId) (args : Array Value) (below : List Frame) (meth : Method) (c : Code) (Z T : State) (h : Heap) (k n : Nat) : Prop :=
  ∃ locs, Stand p l e R s m args below meth c T locs k n ∧ T.heap = h ∧ Fr Z.heap.size locs ∧ Old Z Z.heap.size h
/-- what is known of the body -/
def Bdy (p : Program) (Z s : State) (m : MethodId) (meth : Method) (c : Code) (own : String) (bytes : ByteArray) (maxL : Nat) (ret : Option FieldType) (nm : String) : Prop :=
  p.tables.exec = Jvm.exec ∧ Z.Warmed39 s.vm ∧ s.vm.findClass own = some m.cls ∧ c.code = bytes ∧ c.maxLocals = maxL ∧ meth.sig.returnType = ret ∧ meth.locks = false ∧ meth.name = nm
/-- a contract -/
def Con (l : Launch) (Z : State) (y : MethodName) (bytes : ByteArray) (maxL : Nat) (ret : Option FieldType) (ws : List Cond) (rm : Room) (as' : Array Value) (h0 : Heap) (Q : Option Value → Heap → Prop) : Prop :=
  Old Z Z.heap.size h0 → MetFree l y (head1 (Cond.code y bytes maxL ret :: ws) rm) (fun a U => a = as' ∧ Z.Warmed39 U.vm ∧ U.heap = h0) (fun _ _ _ _ _ => True) (fun _ U o U' => Out Z U Q rm.cells rm.slots o U')
def bi (b : Bool) : Int32 := if b then 1 else 0
theorem bi_t {b : Bool} (h : b = true) : ¬ bi b = 0 := by subst h; decide
theorem bi_f {b : Bool} (h : b = false) : bi b = 0 := by subst h; rfl
theorem bi_nar (b : Bool) : nar .boolean (bi b) = bi b := by cases b <;> rfl
theorem bi_tt : bi true = 1 := rfl
theorem bi_ff : bi false = 0 := rfl
theorem bi_inj {a b : Bool} : (bi a = bi b) = (a = b) := by cases a <;> cases b <;> decide
theorem own_nb (b : Bool) : narrow .boolean (.int (bi b)) = .int (bi b) := by cases b <;> rfl
theorem own_fb (b : Bool) : fits .boolean (.int (bi b)) = true := by cases b <;> rfl
theorem own_fr {t : FieldType} {v : Value} (ht : t.isReference = true) (hv : v.isRef = true) : fits t v = true := by cases t <;> cases v <;> first | rfl | (exfalso; revert ht hv; simp [FieldType.isReference, Value.isRef]; done)
theorem own_i2c (a : Int32) : ∃ x : Int32, a.toUInt32.toUInt16.toUInt32.toInt32 = x ∧ nar .char x = x ∧ 0 ≤ x.toInt ∧ x.toInt < 65536 := by
  refine ⟨_, rfl, ?_, (c_i2c a).2.1, (c_i2c a).2.2⟩
  show (a.toUInt32.toUInt16.toUInt32.toInt32).toUInt32.toUInt16.toUInt32.toInt32 = _
  simp only [UInt32.toUInt32_toInt32, UInt16.toUInt16_toUInt32]
theorem own_i2cm (a : Int32) : ∃ x : Int32, (a &&& 255).toUInt32.toUInt16.toUInt32.toInt32 = x ∧ nar .char x = x ∧ ¬ x < 0 ∧ ¬ 255 < x := by
  refine ⟨_, rfl, ?_, ?_⟩
  · show ((a &&& 255).toUInt32.toUInt16.toUInt32.toInt32).toUInt32.toUInt16.toUInt32.toInt32 = _
    simp only [UInt32.toUInt32_toInt32, UInt16.toUInt16_toUInt32]
  · rw [i2c_mask]
    have q := c_and a 255 (by decide)
    simp only [Int32.lt_iff_toInt_lt, Int32.reduceToInt] at *; omega
theorem own_and1 {a b : Bool} (h : b = true) : (bi a &&& 1) = bi (a && b) := by subst h; cases a <;> decide
theorem own_and0 {a b : Bool} (h : b = false) : (bi a &&& 0) = bi (a && b) := by subst h; cases a <;> decide
theorem own_andb (a b : Bool) : (bi a &&& bi b) = bi (a && b) := by cases a <;> cases b <;> decide
theorem own_inc (i : Nat) : Int32.ofNat i + 1 = Int32.ofNat (i + 1) := (Int32.ofNat_add i 1).symm
theorem own_ofNat {i : Nat} (h : i < 2147483648) : (Int32.ofNat i).toInt = i := by
  have := Int32.toInt_ofNat_of_lt (n := i) (by omega); exact this
theorem own_clamp {i : Nat} (h : i < 2147483648) : (Int32.ofNat i).toNatClampNeg = i := by
  simp only [Int32.toNatClampNeg, own_ofNat h]; omega
theorem own_lt {i j : Nat} (hi : i < 2147483648) (hj : j < 2147483648) : (Int32.ofNat i < Int32.ofNat j) ↔ i < j := by
  rw [Int32.lt_iff_toInt_lt, own_ofNat hi, own_ofNat hj]; omega
theorem own_ixok {i n : Nat} (hi : i < n) (hn : n < 2147483648) : ¬ Int32.ofNat i < 0 ∧ Int32.ofNat i < Int32.ofNat n := by
  refine ⟨?_, (own_lt (by omega) hn).mpr hi⟩
  rw [Int32.lt_iff_toInt_lt, own_ofNat (by omega)]; show ¬ ((i : Int) < 0); omega
theorem nar_b0 : nar .boolean 0 = 0 := by decide
theorem nar_b1 : nar .boolean 1 = 1 := by decide
theorem old_le {Z : State} {h : Heap} (O : Old Z Z.heap.size h) : Z.heap.size ≤ h.size := O.2.1
theorem nlt {x : Addr} {n : Nat} (h : x < n) : @LT.lt Nat _ x n := h
theorem nne {x y : Addr} (h : ¬ @Eq Nat x y) : x ≠ y := h
theorem own_root {Z : State} {a0 : Array Value} {O K : String} {kk : Nat} (w : (Cond.noSuperclass O).before a0 Z = true) (wk : (Cond.instantiable K kk).before a0 Z = true) (hn : O ≠ K) : NS Z O K := by
  obtain ⟨c, k, h1, h2, h3, -, -⟩ := Cond.noSuperclass_spec w
  obtain ⟨t, kt, g1, -⟩ := Cond.instantiable_spec wk
  have ne := ids_ne h1 g1 hn
  refine ⟨c, t, h1, g1, fun fuel => ?_⟩
  cases fuel with
  | zero => rfl
  | succ f => simp [Vm.isSubclassAux, ne, h2, h3]
theorem own_no {Z : State} {a0 : Array Value} {C S K : String} {kk : Nat} (w : (Cond.superclass C S).before a0 Z = true) (wk : (Cond.instantiable K kk).before a0 Z = true) (n : NS Z C K) (hn : C ≠ K) : ∃ c t, Z.vm.findClass C = some c ∧ Z.vm.findClass K = some t ∧ Z.vm.assignable c t = false := by
  obtain ⟨c, t, h0, g0, n3⟩ := n
  obtain ⟨p, k, kp, h1, h2, h3, h4, h5, -, h7⟩ := Cond.superclass_spec h0 w
  obtain ⟨t', kt, g1, g2, g3, g4, -⟩ := Cond.instantiable_spec wk
  cases g0.symm.trans g1
  have ne := ids_ne h0 g0 hn
  have g5 : kt.isInterface = false := by cases hq : kt.isInterface <;> simp [hq] at g4 ⊢
  refine ⟨c, t, h0, g0, ?_⟩
  show Z.vm.assignableAux (255 + 1) c t = false
  simp [Vm.assignableAux, ne, h2, g2, h5, g3, g5, Vm.isSubclass, n3]
theorem own_03 (x : Int32) : (x &&& 3) = 0 ∨ (x &&& 3) = 1 ∨ (x &&& 3) = 2 ∨ (x &&& 3) = 3 := by
  have q := c_and x 3 (by decide)
  simp only [← Int32.toInt_inj, Int32.reduceToInt] at *; omega
section K
variable {p : Program} {l : Launch} {e : Env} {R : Room} {s : State} {m : MethodId} {args : Array Value} {below : List Frame} {meth : Method} {c : Code} {Z T T' : State} {h h' : Heap} {k n : Nat} {own nm : String} {bytes : ByteArray} {maxL : Nat} {ret : Option FieldType} {G : Outcome → State → Prop} {pc : Nat} {ls : Array Slot} {st : List Value} {Q : Option Value → Heap → Prop} {a0 : Array Value}
theorem Bdy.nameOf (B : Bdy p Z s m meth c own bytes maxL ret nm) : meth.name = nm := B.2.2.2.2.2.2.2
theorem Go.by {tb : Tables} {F F' : JFrame} (hs : ∀ t, Steps tb e below (T'.setTop F') t → Steps tb e below (T.setTop F) t) (q : Go tb e below G T' F') : Go tb e below G T F := by
  obtain ⟨s2, o, a, b⟩ := q; exact ⟨s2, o, hs _ a, b⟩
theorem Go.cast {tb : Tables} {F F' : JFrame} (hs : F = F') (q : Go tb e below G T F') : Go tb e below G T F := hs ▸ q
theorem Con.of {y : MethodName} {ws : List Cond} {rm : Room} {as' : Array Value} {h0 : Heap} (hpl : plainFor y = true)
    (body : ∀ p e s m below meth c T, Bdy p Z s m meth c y.cls bytes maxL ret y.name → Wk p l e rm s m as' below meth c Z T h0 0 0 → Go p.tables e below (Out Z s Q rm.cells rm.slots) T (entryFrame m as' maxL)) : Con l Z y bytes maxL ret ws rm as' h0 Q := by
  intro hO
  refine MetFree.of_bodySF hpl hisR ?_
  intro p e s m args below meth c s₁ Bd hml0 hP hK
  obtain ⟨rfl, hZ, hh⟩ := hP
  exact body p e s m below meth c s₁ ⟨Bd.exec, hZ, findClass_of_methodNamed Bd.named, Bd.bytes, hml0, Bd.returns, Bd.notSynchronized, (name_of_methodNamed Bd.named Bd.method).1⟩ ⟨[], Stand.of_body Bd, by rw [← hh, Bd.state]; rfl, Fr.nil _, hO⟩
theorem Wk.size (W : Wk p l e R s m args below meth c Z T h k n) : Z.heap.size ≤ h.size := by obtain ⟨_, _, _, _, O⟩ := W; exact O.2.1
theorem Wk.old (W : Wk p l e R s m args below meth c Z T h k n) : Old Z Z.heap.size h := by obtain ⟨_, _, _, _, O⟩ := W; exact O
theorem Sta.old {C nf d : String} {v : Value} (F : Sta Z Z.heap C nf d v) (W : Old Z Z.heap.size h) : Sta Z h C nf d v := F.ext W.2
theorem Wk.more {k' n' : Nat} (W : Wk p l e R s m args below meth c Z T h k n) (hk : k ≤ k') (hn : n ≤ n') : Wk p l e R s m args below meth c Z T h k' n' := by
  obtain ⟨locs, X, r⟩ := W; exact ⟨locs, X.more hk hn, r⟩
/-! ### the ends -/
theorem go_end (B : Bdy p Z s m meth c own bytes maxL ret nm) (W : Wk p l e R s m args below meth c Z T h k n) {F : JFrame} {v : Option Value} {k' n' : Nat} (hv : ret = none → v = none) (hQ : Q v h) (hk : k ≤ k') (hn : n ≤ n')
    (hst : ∀ (locs : List Loc) (fs : List Frame), Stand p l e R s m args below meth c T locs k n → (∀ (f : JFrame) (acts : List Action), f.method = m → f.locked = none → f.entered = [] → (doReturn e (T.setTop f) acts v).1 = T.setFrames fs) → Steps p.tables e below (T.setTop F) (T.setFrames fs)) :
    Go p.tables e below (Out Z s Q k' n') T F := by
  obtain ⟨locs, X, eT, N, O⟩ := W
  obtain ⟨fs, hr, hrun, hended, hW, hsame⟩ := X.leave (v := v) (fun q => hv (B.2.2.2.2.2.1 ▸ q)) B.2.2.2.2.2.2.1
  have eT' : (T.setFrames fs).heap = h := eT
  exact ⟨_, _, hst locs fs X hr, hrun, hended, _, _, rfl, ⟨by rw [eT']; exact hQ, N, by rw [eT']; exact O⟩, ⟨_, rfl⟩, hW, hsame.mono hk hn⟩
theorem r_i (B : Bdy p Z s m meth c own bytes maxL (some .int) nm) (W : Wk p l e R s m args below meth c Z T h k n) {z : Int32} {k' n' : Nat} (hd : decode bytes pc = .ok (.ireturn, 1)) (hk : k ≤ k') (hn : n ≤ n') (hQ : Q (some (.int z)) h) : Go p.tables e below (Out Z s Q k' n') T (mkF m pc ls (.int z :: st)) :=
  go_end B W (fun q => by cases q) hQ hk hn fun _ _ X hr => retOut X B.1 B.2.2.2.2.2.1 rfl (Or.inl ⟨rfl, Or.inl rfl, _, rfl⟩) (hb B.2.2.2.1 hd) hr
theorem r_b (B : Bdy p Z s m meth c own bytes maxL (some .boolean) nm) (W : Wk p l e R s m args below meth c Z T h k n) {b : Bool} {k' n' : Nat} (hd : decode bytes pc = .ok (.ireturn, 1)) (hk : k ≤ k') (hn : n ≤ n') (hQ : Q (some (.int (bi b))) h) : Go p.tables e below (Out Z s Q k' n') T (mkF m pc ls (.int (bi b) :: st)) :=
  go_end B W (fun q => by cases q) (v := some (.int (nar .boolean (bi b)))) (by rw [bi_nar]; exact hQ) hk hn fun _ _ X hr => retN X B.1 B.2.2.2.2.2.1 (Or.inl rfl) (hb B.2.2.2.1 hd) hr
theorem r_n (B : Bdy p Z s m meth c own bytes maxL ret nm) (W : Wk p l e R s m args below meth c Z T h k n) {t : FieldType} {z : Int32} {k' n' : Nat} (hret : ret = some t) (ht : t = .boolean ∨ t = .byte ∨ t = .char ∨ t = .short) (hd : decode bytes pc = .ok (.ireturn, 1)) (hk : k ≤ k') (hn : n ≤ n') (hQ : Q (some (.int (nar t z))) h) : Go p.tables e below (Out Z s Q k' n') T (mkF m pc ls (.int z :: st)) :=
  go_end B W (fun q => by rw [hret] at q; cases q) hQ hk hn fun _ _ X hr => retN X B.1 (B.2.2.2.2.2.1.trans hret) ht (hb B.2.2.2.1 hd) hr
theorem nar_ref {t : FieldType} {v : Value} (ht : t.isReference = true) : narrow t v = v := by cases t <;> first | rfl | (exfalso; revert ht; simp [FieldType.isReference]; done) | (cases v <;> rfl)
theorem r_a (B : Bdy p Z s m meth c own bytes maxL ret nm) (W : Wk p l e R s m args below meth c Z T h k n) {t : FieldType} {v : Value} {k' n' : Nat} (hret : ret = some t) (ht : t.isReference = true) (hv : v.isRef = true) (hd : decode bytes pc = .ok (.areturn, 1)) (hk : k ≤ k') (hn : n ≤ n') (hQ : Q (some v) h) : Go p.tables e below (Out Z s Q k' n') T (mkF m pc ls (v :: st)) :=
  go_end B W (fun q => by rw [hret] at q; cases q) hQ hk hn fun _ _ X hr => retOut X B.1 (B.2.2.2.2.2.1.trans hret) (nar_ref ht) (Or.inr (Or.inr (Or.inr (Or.inr ⟨rfl, ht, hv⟩)))) (hb B.2.2.2.1 hd) hr
theorem r_v (B : Bdy p Z s m meth c own bytes maxL none nm) (W : Wk p l e R s m args below meth c Z T h k n) {k' n' : Nat} (hd : decode bytes pc = .ok (.return_, 1)) (hk : k ≤ k') (hn : n ≤ n') (hQ : Q none h) : Go p.tables e below (Out Z s Q k' n') T (mkF m pc ls []) :=
  go_end B W (fun _ => rfl) hQ hk hn fun _ _ X hr => X.returnOut B.1 B.2.2.2.2.2.1 (hb B.2.2.2.1 hd) hr
theorem r_l (B : Bdy p Z s m meth c own bytes maxL (some .long) nm) (W : Wk p l e R s m args below meth c Z T h k n) {z : Int64} {k' n' : Nat} (hd : decode bytes pc = .ok (.lreturn, 1)) (hk : k ≤ k') (hn : n ≤ n') (hQ : Q (some (.long z)) h) : Go p.tables e below (Out Z s Q k' n') T (mkF m pc ls (.long z :: st)) :=
  go_end B W (fun q => by cases q) hQ hk hn fun _ _ X hr => retOut X B.1 B.2.2.2.2.2.1 rfl (Or.inr (Or.inl ⟨rfl, rfl, _, rfl⟩)) (hb B.2.2.2.1 hd) hr
/-! ### plain steps -/
theorem g_aload_n (B : Bdy p Z s m meth c own bytes maxL ret nm) (W : Wk p l e R s m args below meth c Z T h k n) {i : Fin 4} {v : Value} (hd : decode bytes pc = .ok (.aload_n i, 1)) (hl : ls[i.val]? = some (.val v)) (hv : v.isRef = true) (q : Go p.tables e below G T (mkF m (pc + 1) ls (v :: st))) : Go p.tables e below G T (mkF m pc ls st) := by
  obtain ⟨_, X, -⟩ := W
  exact Go.by (fun t q => XS.aloadN X.here B.1 rfl (hb B.2.2.2.1 hd) hl hv q) q
theorem g_aload (B : Bdy p Z s m meth c own bytes maxL ret nm) (W : Wk p l e R s m args below meth c Z T h k n) {i : Nat} {v : Value} (hd : decode bytes pc = .ok (.aload i, 2)) (hl : ls[i]? = some (.val v)) (hv : v.isRef = true) (q : Go p.tables e below G T (mkF m (pc + 2) ls (v :: st))) : Go p.tables e below G T (mkF m pc ls st) := by
  obtain ⟨_, X, -⟩ := W
  exact Go.by (fun t q => XS.aload X.here B.1 rfl (hb B.2.2.2.1 hd) hl hv q) q
theorem g_iload_n (B : Bdy p Z s m meth c own bytes maxL ret nm) (W : Wk p l e R s m args below meth c Z T h k n) {i : Fin 4} {v : Int32} (hd : decode bytes pc = .ok (.iload_n i, 1)) (hl : ls[i.val]? = some (.val (.int v))) (q : Go p.tables e below G T (mkF m (pc + 1) ls (.int v :: st))) : Go p.tables e below G T (mkF m pc ls st) := by
  obtain ⟨_, X, -⟩ := W
  exact Go.by (fun t q => XS.iloadN X.here B.1 rfl (hb B.2.2.2.1 hd) hl q) q
theorem g_iload (B : Bdy p Z s m meth c own bytes maxL ret nm) (W : Wk p l e R s m args below meth c Z T h k n) {i : Nat} {v : Int32} (hd : decode bytes pc = .ok (.iload i, 2)) (hl : ls[i]? = some (.val (.int v))) (q : Go p.tables e below G T (mkF m (pc + 2) ls (.int v :: st))) : Go p.tables e below G T (mkF m pc ls st) := by
  obtain ⟨_, X, -⟩ := W
  exact Go.by (fun t q => XS.iload X.here B.1 rfl (hb B.2.2.2.1 hd) hl q) q
theorem g_lload_n (B : Bdy p Z s m meth c own bytes maxL ret nm) (W : Wk p l e R s m args below meth c Z T h k n) {i : Fin 4} {v : Int64} (hd : decode bytes pc = .ok (.lload_n i, 1)) (hl : ls[i.val]? = some (.val (.long v))) (q : Go p.tables e below G T (mkF m (pc + 1) ls (.long v :: st))) : Go p.tables e below G T (mkF m pc ls st) := by
  obtain ⟨_, X, -⟩ := W
  exact Go.by (fun t q => XT.lloadN X.here B.1 rfl (hb B.2.2.2.1 hd) hl q) q
theorem g_lload (B : Bdy p Z s m meth c own bytes maxL ret nm) (W : Wk p l e R s m args below meth c Z T h k n) {i : Nat} {v : Int64} (hd : decode bytes pc = .ok (.lload i, 2)) (hl : ls[i]? = some (.val (.long v))) (q : Go p.tables e below G T (mkF m (pc + 2) ls (.long v :: st))) : Go p.tables e below G T (mkF m pc ls st) := by
  obtain ⟨_, X, -⟩ := W
  exact Go.by (fun t q => XT.lload X.here B.1 rfl (hb B.2.2.2.1 hd) hl q) q
theorem g_istore_n (B : Bdy p Z s m meth c own bytes maxL ret nm) (W : Wk p l e R s m args below meth c Z T h k n) {i : Fin 4} {v : Int32} {l' : Array Slot} (hd : decode bytes pc = .ok (.istore_n i, 1)) (hl : storeLocals ls i.val (.int v) = some l') (q : Go p.tables e below G T (mkF m (pc + 1) l' st)) : Go p.tables e below G T (mkF m pc ls (.int v :: st)) := by
  obtain ⟨_, X, -⟩ := W
  exact Go.by (fun t q => XS.istoreN X.here B.1 rfl (hb B.2.2.2.1 hd) rfl hl q) q
theorem g_istore (B : Bdy p Z s m meth c own bytes maxL ret nm) (W : Wk p l e R s m args below meth c Z T h k n) {i : Nat} {v : Int32} {l' : Array Slot} (hd : decode bytes pc = .ok (.istore i, 2)) (hl : storeLocals ls i (.int v) = some l') (q : Go p.tables e below G T (mkF m (pc + 2) l' st)) : Go p.tables e below G T (mkF m pc ls (.int v :: st)) := by
  obtain ⟨_, X, -⟩ := W
  exact Go.by (fun t q => XS.istore X.here B.1 rfl (hb B.2.2.2.1 hd) rfl hl q) q
theorem g_lstore_n (B : Bdy p Z s m meth c own bytes maxL ret nm) (W : Wk p l e R s m args below meth c Z T h k n) {i : Fin 4} {v : Int64} {l' : Array Slot} (hd : decode bytes pc = .ok (.lstore_n i, 1)) (hl : storeLocals ls i.val (.long v) = some l') (q : Go p.tables e below G T (mkF m (pc + 1) l' st)) : Go p.tables e below G T (mkF m pc ls (.long v :: st)) := by
  obtain ⟨_, X, -⟩ := W
  exact Go.by (fun t q => XT.lstoreN X.here B.1 rfl (hb B.2.2.2.1 hd) rfl hl q) q
theorem g_lstore (B : Bdy p Z s m meth c own bytes maxL ret nm) (W : Wk p l e R s m args below meth c Z T h k n) {i : Nat} {v : Int64} {l' : Array Slot} (hd : decode bytes pc = .ok (.lstore i, 2)) (hl : storeLocals ls i (.long v) = some l') (q : Go p.tables e below G T (mkF m (pc + 2) l' st)) : Go p.tables e below G T (mkF m pc ls (.long v :: st)) := by
  obtain ⟨_, X, -⟩ := W
  exact Go.by (fun t q => XT.lstore X.here B.1 rfl (hb B.2.2.2.1 hd) rfl hl q) q
theorem g_astore_n (B : Bdy p Z s m meth c own bytes maxL ret nm) (W : Wk p l e R s m args below meth c Z T h k n) {i : Fin 4} {v : Value} {l' : Array Slot} (hd : decode bytes pc = .ok (.astore_n i, 1)) (hv : v.isRef = true) (hl : storeLocals ls i.val v = some l') (q : Go p.tables e below G T (mkF m (pc + 1) l' st)) : Go p.tables e below G T (mkF m pc ls (v :: st)) := by
  obtain ⟨_, X, -⟩ := W
  exact Go.by (fun t q => XS.astoreN X.here B.1 rfl (hb B.2.2.2.1 hd) rfl hv hl q) q
theorem g_astore (B : Bdy p Z s m meth c own bytes maxL ret nm) (W : Wk p l e R s m args below meth c Z T h k n) {i : Nat} {v : Value} {l' : Array Slot} (hd : decode bytes pc = .ok (.astore i, 2)) (hv : v.isRef = true) (hl : storeLocals ls i v = some l') (q : Go p.tables e below G T (mkF m (pc + 2) l' st)) : Go p.tables e below G T (mkF m pc ls (v :: st)) := by
  obtain ⟨_, X, -⟩ := W
  exact Go.by (fun t q => XS.astore X.here B.1 rfl (hb B.2.2.2.1 hd) rfl hv hl q) q
theorem g_iconst (B : Bdy p Z s m meth c own bytes maxL ret nm) (W : Wk p l e R s m args below meth c Z T h k n) {i : Int} {v : Int32} (hd : decode bytes pc = .ok (.iconst i, 1)) (hv : Int32.ofInt i = v) (q : Go p.tables e below G T (mkF m (pc + 1) ls (.int v :: st))) : Go p.tables e below G T (mkF m pc ls st) := by
  obtain ⟨_, X, -⟩ := W
  exact Go.by (fun t q => XT.iconstV X.here B.1 rfl _ (hb B.2.2.2.1 hd) hv q) q
theorem g_bipush (B : Bdy p Z s m meth c own bytes maxL ret nm) (W : Wk p l e R s m args below meth c Z T h k n) {i : Int} {v : Int32} (hd : decode bytes pc = .ok (.bipush i, 2)) (hv : (Int8.ofInt i).toInt32 = v) (q : Go p.tables e below G T (mkF m (pc + 2) ls (.int v :: st))) : Go p.tables e below G T (mkF m pc ls st) := by
  obtain ⟨_, X, -⟩ := W
  exact Go.by (fun t q => XT.bipushV X.here B.1 rfl _ (hb B.2.2.2.1 hd) hv q) q
theorem g_sipush (B : Bdy p Z s m meth c own bytes maxL ret nm) (W : Wk p l e R s m args below meth c Z T h k n) {i : Int} {v : Int32} (hd : decode bytes pc = .ok (.sipush i, 3)) (hv : (Int16.ofInt i).toInt32 = v) (q : Go p.tables e below G T (mkF m (pc + 3) ls (.int v :: st))) : Go p.tables e below G T (mkF m pc ls st) := by
  obtain ⟨_, X, -⟩ := W
  exact Go.by (fun t q => XT.sipushV X.here B.1 rfl _ (hb B.2.2.2.1 hd) hv q) q
theorem g_lconst (B : Bdy p Z s m meth c own bytes maxL ret nm) (W : Wk p l e R s m args below meth c Z T h k n) {i : Fin 2} {v : Int64} (hd : decode bytes pc = .ok (.lconst i, 1)) (hv : Int64.ofNat i = v) (q : Go p.tables e below G T (mkF m (pc + 1) ls (.long v :: st))) : Go p.tables e below G T (mkF m pc ls st) := by
  obtain ⟨_, X, -⟩ := W
  exact Go.by (fun t q => XT.lconstV X.here B.1 rfl _ (hb B.2.2.2.1 hd) hv q) q
theorem g_aconst_null (B : Bdy p Z s m meth c own bytes maxL ret nm) (W : Wk p l e R s m args below meth c Z T h k n)  (hd : decode bytes pc = .ok (.aconst_null, 1))  (q : Go p.tables e below G T (mkF m (pc + 1) ls (.null :: st))) : Go p.tables e below G T (mkF m pc ls st) := by
  obtain ⟨_, X, -⟩ := W
  exact Go.by (fun t q => XS.aconstNull X.here B.1 rfl (hb B.2.2.2.1 hd) q) q
theorem g_iadd (B : Bdy p Z s m meth c own bytes maxL ret nm) (W : Wk p l e R s m args below meth c Z T h k n) {x y : Int32} (hd : decode bytes pc = .ok (.iadd, 1))  (q : Go p.tables e below G T (mkF m (pc + 1) ls (.int (x + y) :: st))) : Go p.tables e below G T (mkF m pc ls (.int y :: .int x :: st)) := by
  obtain ⟨_, X, -⟩ := W
  exact Go.by (fun t q => XS.iadd X.here B.1 rfl (hb B.2.2.2.1 hd) rfl q) q
theorem g_isub (B : Bdy p Z s m meth c own bytes maxL ret nm) (W : Wk p l e R s m args below meth c Z T h k n) {x y : Int32} (hd : decode bytes pc = .ok (.isub, 1))  (q : Go p.tables e below G T (mkF m (pc + 1) ls (.int (x - y) :: st))) : Go p.tables e below G T (mkF m pc ls (.int y :: .int x :: st)) := by
  obtain ⟨_, X, -⟩ := W
  exact Go.by (fun t q => XS.isub X.here B.1 rfl (hb B.2.2.2.1 hd) rfl q) q
theorem g_iand (B : Bdy p Z s m meth c own bytes maxL ret nm) (W : Wk p l e R s m args below meth c Z T h k n) {x y : Int32} (hd : decode bytes pc = .ok (.iand, 1))  (q : Go p.tables e below G T (mkF m (pc + 1) ls (.int (x &&& y) :: st))) : Go p.tables e below G T (mkF m pc ls (.int y :: .int x :: st)) := by
  obtain ⟨_, X, -⟩ := W
  exact Go.by (fun t q => XS.iand X.here B.1 rfl (hb B.2.2.2.1 hd) rfl q) q
theorem g_imul (B : Bdy p Z s m meth c own bytes maxL ret nm) (W : Wk p l e R s m args below meth c Z T h k n) {x y : Int32} (hd : decode bytes pc = .ok (.imul, 1))  (q : Go p.tables e below G T (mkF m (pc + 1) ls (.int (x * y) :: st))) : Go p.tables e below G T (mkF m pc ls (.int y :: .int x :: st)) := by
  obtain ⟨_, X, -⟩ := W
  exact Go.by (fun t q => XS.imul X.here B.1 rfl (hb B.2.2.2.1 hd) rfl q) q
theorem g_ior (B : Bdy p Z s m meth c own bytes maxL ret nm) (W : Wk p l e R s m args below meth c Z T h k n) {x y : Int32} (hd : decode bytes pc = .ok (.ior, 1))  (q : Go p.tables e below G T (mkF m (pc + 1) ls (.int (x ||| y) :: st))) : Go p.tables e below G T (mkF m pc ls (.int y :: .int x :: st)) := by
  obtain ⟨_, X, -⟩ := W
  exact Go.by (fun t q => XT.ior X.here B.1 rfl (hb B.2.2.2.1 hd) rfl q) q
theorem g_ixor (B : Bdy p Z s m meth c own bytes maxL ret nm) (W : Wk p l e R s m args below meth c Z T h k n) {x y : Int32} (hd : decode bytes pc = .ok (.ixor, 1))  (q : Go p.tables e below G T (mkF m (pc + 1) ls (.int (x ^^^ y) :: st))) : Go p.tables e below G T (mkF m pc ls (.int y :: .int x :: st)) := by
  obtain ⟨_, X, -⟩ := W
  exact Go.by (fun t q => XT.ixor X.here B.1 rfl (hb B.2.2.2.1 hd) rfl q) q
theorem g_iushr (B : Bdy p Z s m meth c own bytes maxL ret nm) (W : Wk p l e R s m args below meth c Z T h k n) {x y : Int32} (hd : decode bytes pc = .ok (.iushr, 1))  (q : Go p.tables e below G T (mkF m (pc + 1) ls (.int (XT.ushr x y) :: st))) : Go p.tables e below G T (mkF m pc ls (.int y :: .int x :: st)) := by
  obtain ⟨_, X, -⟩ := W
  exact Go.by (fun t q => XT.iushr X.here B.1 rfl (hb B.2.2.2.1 hd) rfl q) q
theorem g_idiv (B : Bdy p Z s m meth c own bytes maxL ret nm) (W : Wk p l e R s m args below meth c Z T h k n) {x y : Int32} (hd : decode bytes pc = .ok (.idiv, 1)) (hy : y ≠ 0) (q : Go p.tables e below G T (mkF m (pc + 1) ls (.int (x / y) :: st))) : Go p.tables e below G T (mkF m pc ls (.int y :: .int x :: st)) := by
  obtain ⟨_, X, -⟩ := W
  exact Go.by (fun t q => XS.idiv X.here B.1 rfl (hb B.2.2.2.1 hd) rfl hy q) q
theorem g_irem (B : Bdy p Z s m meth c own bytes maxL ret nm) (W : Wk p l e R s m args below meth c Z T h k n) {x y : Int32} (hd : decode bytes pc = .ok (.irem, 1)) (hy : y ≠ 0) (q : Go p.tables e below G T (mkF m (pc + 1) ls (.int (x % y) :: st))) : Go p.tables e below G T (mkF m pc ls (.int y :: .int x :: st))   := by
  obtain ⟨_, X, -⟩ := W
  exact Go.by (fun t q => iremM X B.1 rfl (hb B.2.2.2.1 hd) rfl hy q) q
theorem g_ineg (B : Bdy p Z s m meth c own bytes maxL ret nm) (W : Wk p l e R s m args below meth c Z T h k n) {x : Int32} (hd : decode bytes pc = .ok (.ineg, 1))  (q : Go p.tables e below G T (mkF m (pc + 1) ls (.int (-x) :: st))) : Go p.tables e below G T (mkF m pc ls (.int x :: st)) := by
  obtain ⟨_, X, -⟩ := W
  exact Go.by (fun t q => XS.ineg X.here B.1 rfl (hb B.2.2.2.1 hd) rfl q) q
theorem g_i2c (B : Bdy p Z s m meth c own bytes maxL ret nm) (W : Wk p l e R s m args below meth c Z T h k n) {x : Int32} (hd : decode bytes pc = .ok (.i2c, 1))  (q : Go p.tables e below G T (mkF m (pc + 1) ls (.int x.toUInt32.toUInt16.toUInt32.toInt32 :: st))) : Go p.tables e below G T (mkF m pc ls (.int x :: st)) := by
  obtain ⟨_, X, -⟩ := W
  exact Go.by (fun t q => XT.i2c X.here B.1 rfl (hb B.2.2.2.1 hd) rfl q) q
theorem g_i2b (B : Bdy p Z s m meth c own bytes maxL ret nm) (W : Wk p l e R s m args below meth c Z T h k n) {x : Int32} (hd : decode bytes pc = .ok (.i2b, 1))  (q : Go p.tables e below G T (mkF m (pc + 1) ls (.int x.toInt8.toInt32 :: st))) : Go p.tables e below G T (mkF m pc ls (.int x :: st)) := by
  obtain ⟨_, X, -⟩ := W
  exact Go.by (fun t q => XT.i2b X.here B.1 rfl (hb B.2.2.2.1 hd) rfl q) q
theorem g_i2l (B : Bdy p Z s m meth c own bytes maxL ret nm) (W : Wk p l e R s m args below meth c Z T h k n) {x : Int32} (hd : decode bytes pc = .ok (.i2l, 1))  (q : Go p.tables e below G T (mkF m (pc + 1) ls (.long x.toInt64 :: st))) : Go p.tables e below G T (mkF m pc ls (.int x :: st)) := by
  obtain ⟨_, X, -⟩ := W
  exact Go.by (fun t q => XT.i2l X.here B.1 rfl (hb B.2.2.2.1 hd) rfl q) q
theorem g_l2i (B : Bdy p Z s m meth c own bytes maxL ret nm) (W : Wk p l e R s m args below meth c Z T h k n) {x : Int64} (hd : decode bytes pc = .ok (.l2i, 1))  (q : Go p.tables e below G T (mkF m (pc + 1) ls (.int x.toInt32 :: st))) : Go p.tables e below G T (mkF m pc ls (.long x :: st)) := by
  obtain ⟨_, X, -⟩ := W
  exact Go.by (fun t q => XT.l2i X.here B.1 rfl (hb B.2.2.2.1 hd) rfl q) q
theorem g_land (B : Bdy p Z s m meth c own bytes maxL ret nm) (W : Wk p l e R s m args below meth c Z T h k n) {x y : Int64} (hd : decode bytes pc = .ok (.land, 1))  (q : Go p.tables e below G T (mkF m (pc + 1) ls (.long (x &&& y) :: st))) : Go p.tables e below G T (mkF m pc ls (.long y :: .long x :: st)) := by
  obtain ⟨_, X, -⟩ := W
  exact Go.by (fun t q => XT.land X.here B.1 rfl (hb B.2.2.2.1 hd) rfl q) q
theorem g_ladd (B : Bdy p Z s m meth c own bytes maxL ret nm) (W : Wk p l e R s m args below meth c Z T h k n) {x y : Int64} (hd : decode bytes pc = .ok (.ladd, 1))  (q : Go p.tables e below G T (mkF m (pc + 1) ls (.long (x + y) :: st))) : Go p.tables e below G T (mkF m pc ls (.long y :: .long x :: st)) := by
  obtain ⟨_, X, -⟩ := W
  exact Go.by (fun t q => XT.ladd X.here B.1 rfl (hb B.2.2.2.1 hd) rfl q) q
theorem g_lcmp (B : Bdy p Z s m meth c own bytes maxL ret nm) (W : Wk p l e R s m args below meth c Z T h k n) {x y : Int64} (hd : decode bytes pc = .ok (.lcmp, 1))  (q : Go p.tables e below G T (mkF m (pc + 1) ls (.int (XT.cmpL x y) :: st))) : Go p.tables e below G T (mkF m pc ls (.long y :: .long x :: st)) := by
  obtain ⟨_, X, -⟩ := W
  exact Go.by (fun t q => XT.lcmp X.here B.1 rfl (hb B.2.2.2.1 hd) rfl q) q
theorem g_lushr (B : Bdy p Z s m meth c own bytes maxL ret nm) (W : Wk p l e R s m args below meth c Z T h k n) {x : Int64} {y : Int32} (hd : decode bytes pc = .ok (.lushr, 1))  (q : Go p.tables e below G T (mkF m (pc + 1) ls (.long (XT.ushrL x y) :: st))) : Go p.tables e below G T (mkF m pc ls (.int y :: .long x :: st)) := by
  obtain ⟨_, X, -⟩ := W
  exact Go.by (fun t q => XT.lushr X.here B.1 rfl (hb B.2.2.2.1 hd) rfl q) q
theorem g_iinc (B : Bdy p Z s m meth c own bytes maxL ret nm) (W : Wk p l e R s m args below meth c Z T h k n) {i : Nat} {cst : Int} {x v : Int32} {l' : Array Slot} (hd : decode bytes pc = .ok (.iinc i cst, 3)) (hv : Int32.ofInt cst = v) (hl : ls[i]? = some (.val (.int x))) (hl' : storeLocals ls i (.int (x + v)) = some l') (q : Go p.tables e below G T (mkF m (pc + 3) l' st)) : Go p.tables e below G T (mkF m pc ls st) := by
  obtain ⟨_, X, -⟩ := W
  exact Go.by (fun t q => XT.iincV X.here B.1 rfl _ (hb B.2.2.2.1 hd) hv hl hl' q) q
theorem g_dup (B : Bdy p Z s m meth c own bytes maxL ret nm) (W : Wk p l e R s m args below meth c Z T h k n) {v : Value} (hd : decode bytes pc = .ok (.dup, 1)) (hv : v.category = 1) (q : Go p.tables e below G T (mkF m (pc + 1) ls (v :: v :: st))) : Go p.tables e below G T (mkF m pc ls (v :: st)) := by
  obtain ⟨_, X, -⟩ := W
  exact Go.by (fun t q => XS.dup X.here B.1 rfl (hb B.2.2.2.1 hd) rfl hv q) q
theorem g_dup_x1 (B : Bdy p Z s m meth c own bytes maxL ret nm) (W : Wk p l e R s m args below meth c Z T h k n) {v w : Value} (hd : decode bytes pc = .ok (.dup_x1, 1)) (hv : v.category = 1) (hw' : w.category = 1) (q : Go p.tables e below G T (mkF m (pc + 1) ls (v :: w :: v :: st))) : Go p.tables e below G T (mkF m pc ls (v :: w :: st)) := by
  obtain ⟨_, X, -⟩ := W
  exact Go.by (fun t q => XT.dupX1 X.here B.1 rfl (hb B.2.2.2.1 hd) rfl hv hw' q) q
theorem g_pop (B : Bdy p Z s m meth c own bytes maxL ret nm) (W : Wk p l e R s m args below meth c Z T h k n) {v : Value} (hd : decode bytes pc = .ok (.pop, 1)) (hv : v.category = 1) (q : Go p.tables e below G T (mkF m (pc + 1) ls st)) : Go p.tables e below G T (mkF m pc ls (v :: st)) := by
  obtain ⟨_, X, -⟩ := W
  exact Go.by (fun t q => XT.pop X.here B.1 rfl (hb B.2.2.2.1 hd) rfl hv q) q
theorem g_goto (B : Bdy p Z s m meth c own bytes maxL ret nm) (W : Wk p l e R s m args below meth c Z T h k n)  {o : Int} {pc' : Nat} (hd : decode bytes pc = .ok (.goto o, 3))  (hp : (pc : Int) + o = (pc' : Int)) (q : Go p.tables e below G T (mkF m pc' ls st)) : Go p.tables e below G T (mkF m pc ls st)   := by
  obtain ⟨_, X, -⟩ := W
  exact Go.by (fun t q => XS.goto X.here B.1 rfl rfl (hb B.2.2.2.1 hd)  (by rw [hp]; exact Int.natCast_nonneg _) (by rw [hp]; exact Int.toNat_natCast _) q) q
theorem g_if_y (B : Bdy p Z s m meth c own bytes maxL ret nm) (W : Wk p l e R s m args below meth c Z T h k n) {cd : ClassFile.Cond} {x : Int32} {o : Int} {pc' : Nat} (hd : decode bytes pc = .ok (.ifCond cd o, 3)) (hc : ifCond.holds cd x = true) (hp : (pc : Int) + o = (pc' : Int)) (q : Go p.tables e below G T (mkF m pc' ls st)) : Go p.tables e below G T (mkF m pc ls (.int x :: st))   := by
  obtain ⟨_, X, -⟩ := W
  exact Go.by (fun t q => XS.ifYes X.here B.1 rfl rfl (hb B.2.2.2.1 hd) rfl hc (by rw [hp]; exact Int.natCast_nonneg _) (by rw [hp]; exact Int.toNat_natCast _) q) q
theorem g_if_n (B : Bdy p Z s m meth c own bytes maxL ret nm) (W : Wk p l e R s m args below meth c Z T h k n) {cd : ClassFile.Cond} {x : Int32} {o : Int} (hd : decode bytes pc = .ok (.ifCond cd o, 3)) (hc : ifCond.holds cd x = false) (q : Go p.tables e below G T (mkF m (pc + 3) ls st)) : Go p.tables e below G T (mkF m pc ls (.int x :: st))   := by
  obtain ⟨_, X, -⟩ := W
  exact Go.by (fun t q => XS.ifNo X.here B.1 rfl (hb B.2.2.2.1 hd) rfl hc q) q
theorem g_icmp_y (B : Bdy p Z s m meth c own bytes maxL ret nm) (W : Wk p l e R s m args below meth c Z T h k n) {cd : ClassFile.Cond} {x y : Int32} {o : Int} {pc' : Nat} (hd : decode bytes pc = .ok (.if_icmp cd o, 3)) (hc : if_icmp.holds cd x y = true) (hp : (pc : Int) + o = (pc' : Int)) (q : Go p.tables e below G T (mkF m pc' ls st)) : Go p.tables e below G T (mkF m pc ls (.int y :: .int x :: st))   := by
  obtain ⟨_, X, -⟩ := W
  exact Go.by (fun t q => XS.icmpYes X.here B.1 rfl rfl (hb B.2.2.2.1 hd) rfl hc (by rw [hp]; exact Int.natCast_nonneg _) (by rw [hp]; exact Int.toNat_natCast _) q) q
theorem g_icmp_n (B : Bdy p Z s m meth c own bytes maxL ret nm) (W : Wk p l e R s m args below meth c Z T h k n) {cd : ClassFile.Cond} {x y : Int32} {o : Int} (hd : decode bytes pc = .ok (.if_icmp cd o, 3)) (hc : if_icmp.holds cd x y = false) (q : Go p.tables e below G T (mkF m (pc + 3) ls st)) : Go p.tables e below G T (mkF m pc ls (.int y :: .int x :: st))   := by
  obtain ⟨_, X, -⟩ := W
  exact Go.by (fun t q => XS.icmpNo X.here B.1 rfl (hb B.2.2.2.1 hd) rfl hc q) q
theorem g_ifnull_y (B : Bdy p Z s m meth c own bytes maxL ret nm) (W : Wk p l e R s m args below meth c Z T h k n)  {o : Int} {pc' : Nat} (hd : decode bytes pc = .ok (.ifnull o, 3))  (hp : (pc : Int) + o = (pc' : Int)) (q : Go p.tables e below G T (mkF m pc' ls st)) : Go p.tables e below G T (mkF m pc ls (.null :: st))   := by
  obtain ⟨_, X, -⟩ := W
  exact Go.by (fun t q => XS.ifnullYes X.here B.1 rfl rfl (hb B.2.2.2.1 hd) rfl (by rw [hp]; exact Int.natCast_nonneg _) (by rw [hp]; exact Int.toNat_natCast _) q) q
theorem g_ifnull_n (B : Bdy p Z s m meth c own bytes maxL ret nm) (W : Wk p l e R s m args below meth c Z T h k n) {a : Addr} {o : Int} (hd : decode bytes pc = .ok (.ifnull o, 3))  (q : Go p.tables e below G T (mkF m (pc + 3) ls st)) : Go p.tables e below G T (mkF m pc ls (.ref a :: st))   := by
  obtain ⟨_, X, -⟩ := W
  exact Go.by (fun t q => XS.ifnullNo X.here B.1 rfl (hb B.2.2.2.1 hd) rfl q) q
theorem g_ifnonnull_y (B : Bdy p Z s m meth c own bytes maxL ret nm) (W : Wk p l e R s m args below meth c Z T h k n) {a : Addr} {o : Int} {pc' : Nat} (hd : decode bytes pc = .ok (.ifnonnull o, 3))  (hp : (pc : Int) + o = (pc' : Int)) (q : Go p.tables e below G T (mkF m pc' ls st)) : Go p.tables e below G T (mkF m pc ls (.ref a :: st))   := by
  obtain ⟨_, X, -⟩ := W
  exact Go.by (fun t q => XT.ifnonnullYes X.here B.1 rfl rfl (hb B.2.2.2.1 hd) rfl (by rw [hp]; exact Int.natCast_nonneg _) (by rw [hp]; exact Int.toNat_natCast _) q) q
theorem g_ifnonnull_n (B : Bdy p Z s m meth c own bytes maxL ret nm) (W : Wk p l e R s m args below meth c Z T h k n)  {o : Int} (hd : decode bytes pc = .ok (.ifnonnull o, 3))  (q : Go p.tables e below G T (mkF m (pc + 3) ls st)) : Go p.tables e below G T (mkF m pc ls (.null :: st))   := by
  obtain ⟨_, X, -⟩ := W
  exact Go.by (fun t q => XT.ifnonnullNo X.here B.1 rfl (hb B.2.2.2.1 hd) rfl q) q
theorem g_acmp_y (B : Bdy p Z s m meth c own bytes maxL ret nm) (W : Wk p l e R s m args below meth c Z T h k n) {cd : ClassFile.ACond} {x y : Value} {o : Int} {pc' : Nat} (hd : decode bytes pc = .ok (.if_acmp cd o, 3)) (hx' : x.isRef = true) (hy' : y.isRef = true) (hc : XT.acmp cd x y = true) (hp : (pc : Int) + o = (pc' : Int)) (q : Go p.tables e below G T (mkF m pc' ls st)) : Go p.tables e below G T (mkF m pc ls (y :: x :: st))   := by
  obtain ⟨_, X, -⟩ := W
  exact Go.by (fun t q => XT.acmpYes X.here B.1 rfl rfl (hb B.2.2.2.1 hd) rfl hx' hy' hc (by rw [hp]; exact Int.natCast_nonneg _) (by rw [hp]; exact Int.toNat_natCast _) q) q
theorem g_acmp_n (B : Bdy p Z s m meth c own bytes maxL ret nm) (W : Wk p l e R s m args below meth c Z T h k n) {cd : ClassFile.ACond} {x y : Value} {o : Int} (hd : decode bytes pc = .ok (.if_acmp cd o, 3)) (hx' : x.isRef = true) (hy' : y.isRef = true) (hc : XT.acmp cd x y = false) (q : Go p.tables e below G T (mkF m (pc + 3) ls st)) : Go p.tables e below G T (mkF m pc ls (y :: x :: st))   := by
  obtain ⟨_, X, -⟩ := W
  exact Go.by (fun t q => XT.acmpNo X.here B.1 rfl (hb B.2.2.2.1 hd) rfl hx' hy' hc q) q
theorem g_dia (P : Prop) [Decidable P] {tb : Tables} {F : JFrame} {pc' : Nat} (h1 : P → Go tb e below G T (mkF m pc' ls (.int 1 :: st)) → Go tb e below G T F) (h0 : ¬ P → Go tb e below G T (mkF m pc' ls (.int 0 :: st)) → Go tb e below G T F) (q : Go tb e below G T (mkF m pc' ls (.int (bi (decide P)) :: st))) : Go tb e below G T F := by
  by_cases hp : P
  · rw [decide_eq_true hp] at q; exact h1 hp q
  · rw [decide_eq_false hp] at q; exact h0 hp q
theorem g_diab (b : Bool) {tb : Tables} {F : JFrame} {pc' : Nat} (h1 : b = true → Go tb e below G T (mkF m pc' ls (.int 1 :: st)) → Go tb e below G T F) (h0 : b = false → Go tb e below G T (mkF m pc' ls (.int 0 :: st)) → Go tb e below G T F) (q : Go tb e below G T (mkF m pc' ls (.int (bi b) :: st))) : Go tb e below G T F := by
  cases b
  · exact h0 rfl q
  · exact h1 rfl q
theorem g_ldcI (B : Bdy p Z s m meth c own bytes maxL ret nm) (W : Wk p l e R s m args below meth c Z T h k n) {i : Nat} {v : Int32} (hd : decode bytes pc = .ok (.ldc i, 2)) (w : (Cond.constant own i v).before a0 Z = true) (q : Go p.tables e below G T (mkF m (pc + 2) ls (.int v :: st))) : Go p.tables e below G T (mkF m pc ls st) := by
  obtain ⟨_, X, -⟩ := W
  exact Go.by (fun t q => X.ldcI B.1 B.2.2.1 (mv B.2.1 w) rfl (hb B.2.2.2.1 hd) q) q
theorem g_ldcL (B : Bdy p Z s m meth c own bytes maxL ret nm) (W : Wk p l e R s m args below meth c Z T h k n) {i : Nat} {v : Int64} (hd : decode bytes pc = .ok (.ldc2_w i, 3)) (w : (Cond.constantLong own i v).before a0 Z = true) (q : Go p.tables e below G T (mkF m (pc + 3) ls (.long v :: st))) : Go p.tables e below G T (mkF m pc ls st) := by
  obtain ⟨_, X, -⟩ := W
  exact Go.by (fun t q => X.ldc2J B.1 B.2.2.1 (mv B.2.1 w) rfl (hb B.2.2.2.1 hd) q) q
/-! ### the heap's steps -/
theorem x_new (B : Bdy p Z s m meth c own bytes maxL ret nm) (W : Wk p l e R s m args below meth c Z T h k n) {C : String} {i sz : Nat} (hd : decode bytes pc = .ok (.new i, 3)) (w : (Cond.classLink own i C).before a0 Z = true) (wi : (Cond.instantiable C sz).before a0 Z = true) (wz : (Cond.initialized C).before a0 Z = true) (hc : k + 1 ≤ R.cells) (hl : n + sz ≤ R.slots) (ls : Array Slot) (st : List Value) :
    ∃ T' h' b, b = h.size ∧ Wk p l e R s m args below meth c Z T' h' (k + 1) (n + sz) ∧ Keep h h' [] ∧ Exa Z h' b C ∧ (∀ {O nf d : String} {ty : FieldType}, Laid Z a0 C O nf d → parseFieldDescriptor d = some ty → Fld Z h' b O nf d (defaultValue ty)) ∧
      (∀ G, Go p.tables e below G T' (mkF m (pc + 3) ls (.ref b :: st)) → Go p.tables e below G T (mkF m pc ls st)) := by
  obtain ⟨locs, X, eT, N, O⟩ := W
  obtain ⟨T', h', X', e', E', A', D', -, st'⟩ := newO X B.1 B.2.1 B.2.2.1 w wi wz eT (g := mkF m pc ls st) rfl (hb B.2.2.2.1 hd) hc hl
  exact ⟨T', h', _, rfl, ⟨locs, X', e', N, O.ext E'⟩, (Keep.refl h []).ext E', A', D', fun G q => Go.by st' q⟩
theorem x_init (B : Bdy p Z s m meth c own bytes maxL ret nm) (W : Wk p l e R s m args below meth c Z T h k n) {i : Nat} (hd : decode bytes pc = .ok (.invokespecial i, 3)) (w1 : (Cond.methodLink own i Lib.objectInit).before a0 Z = true) (w2 : (Cond.instanceMethod Lib.objectInit).before a0 Z = true)
    (w3 : (Cond.code Lib.objectInit ⟨#[0xb1]⟩ 1 none).before a0 Z = true) (b : Addr) (ls : Array Slot) (st : List Value) (hsz : ls.size = maxL) (V : Nat) (hV : (st.map fun v => v.category).sum = V) (hf : 1 ≤ R.frames) (hl : V + 12 ≤ R.locals) :
    ∃ T', Wk p l e R s m args below meth c Z T' h k n ∧ (∀ G, Go p.tables e below G T' (mkF m (pc + 3) ls st) → Go p.tables e below G T (mkF m pc ls (.ref b :: st))) := by
  obtain ⟨locs, X, eT, N, O⟩ := W
  obtain ⟨T', X', e', st'⟩ := initO X B.1 B.2.1 B.2.2.1 w1 w2 w3 eT (g := mkF m pc ls (.ref b :: st)) rfl (hsz.trans B.2.2.2.2.1.symm) rfl (hb B.2.2.2.1 hd) hf (W := V) (by show 2 * 0 + _ ≤ _; omega) hl
  exact ⟨T', ⟨locs, X', e', N, O⟩, fun G q => Go.by st' q⟩
theorem x_get (B : Bdy p Z s m meth c own bytes maxL ret nm) (W : Wk p l e R s m args below meth c Z T h k n) {R0 O nf d host : String} {i : Nat} {b : Addr} {v : Value} (hd : decode bytes pc = .ok (.getfield i, 3)) (w : (Cond.fieldLink own i R0 nf d).before a0 Z = true ∨ (Cond.fieldLinkNest own i R0 nf d host).before a0 Z = true) (via : Via Z R0 O nf d) (F : Fld Z h b O nf d v) (ls : Array Slot) (st : List Value) :
    ∃ T', Wk p l e R s m args below meth c Z T' h k n ∧ (∀ G, Go p.tables e below G T' (mkF m (pc + 3) ls (v :: st)) → Go p.tables e below G T (mkF m pc ls (.ref b :: st))) := by
  obtain ⟨locs, X, eT, N, O'⟩ := W
  obtain ⟨T', X', e', st'⟩ := getF X B.1 B.2.1 B.2.2.1 w via eT F (g := mkF m pc ls (.ref b :: st)) rfl rfl (hb B.2.2.2.1 hd)
  exact ⟨T', ⟨locs, X', e', N, O'⟩, fun G q => Go.by st' q⟩
theorem x_gets (B : Bdy p Z s m meth c own bytes maxL ret nm) (W : Wk p l e R s m args below meth c Z T h k n) {R0 O nf d host : String} {i : Nat} {v : Value} (hd : decode bytes pc = .ok (.getstatic i, 3)) (w : (Cond.fieldLink own i R0 nf d).before a0 Z = true ∨ (Cond.fieldLinkNest own i R0 nf d host).before a0 Z = true) (via : Via Z R0 O nf d) (F : Sta Z Z.heap O nf d v) (ls : Array Slot) (st : List Value) :
    ∃ T', Wk p l e R s m args below meth c Z T' h k n ∧ (∀ G, Go p.tables e below G T' (mkF m (pc + 3) ls (v :: st)) → Go p.tables e below G T (mkF m pc ls st)) := by
  obtain ⟨locs, X, eT, N, O'⟩ := W
  obtain ⟨T', X', e', st'⟩ := getS2 X B.1 B.2.1 B.2.2.1 w via eT (F.ext O'.2) (g := mkF m pc ls st) rfl (hb B.2.2.2.1 hd)
  exact ⟨T', ⟨locs, X', e', N, O'⟩, fun G q => Go.by st' q⟩
theorem x_put (B : Bdy p Z s m meth c own bytes maxL ret nm) (W : Wk p l e R s m args below meth c Z T h k n) {R0 O nf d C : String} {i kk : Nat} {ty : FieldType} {b : Addr} {v v' old : Value} (hd : decode bytes pc = .ok (.putfield i, 3)) (w : (Cond.fieldLink own i R0 nf d).before a0 Z = true) (via : Via Z R0 O nf d) (F : Fld Z h b O nf d old) (E : Exa Z h b C) (L : (Cond.lays C O nf d).before a0 Z = true ∨ ((Cond.laysFinal C O nf d).before a0 Z = true ∧ own = O ∧ nm = "<init>")) (wi : (Cond.instantiable C kk).before a0 Z = true)
    (hty : parseFieldDescriptor d = some ty) (hn : narrow ty v = v') (hf : fits ty v' = true) (hb' : Z.heap.size ≤ b) (ls : Array Slot) (st : List Value) :
    ∃ T' h', Wk p l e R s m args below meth c Z T' h' k n ∧ Keep h h' [b] ∧ Wr h h' b (RoadKit.slotOf Z O nf d) v' ∧ Fld Z h' b O nf d v' ∧ Exa Z h' b C ∧ (∀ G, Go p.tables e below G T' (mkF m (pc + 3) ls st) → Go p.tables e below G T (mkF m pc ls (v :: .ref b :: st))) := by
  obtain ⟨locs, X, eT, N, O'⟩ := W
  obtain ⟨T', h', X', e', W', st'⟩ := putFN X B.1 B.2.1 B.2.2.1 w via eT F E (L.imp id fun q => ⟨q.1, q.2.1, B.nameOf.trans q.2.2⟩) wi hty hn hf (g := mkF m pc ls (v :: .ref b :: st)) rfl rfl (hb B.2.2.2.1 hd)
  exact ⟨T', h', ⟨_, X', e', Fr.snoc X' N hb', O'.wr W' hb'⟩, Keep.of_wr W', W', F.same W', E.wr W', fun G q => Go.by st' q⟩
theorem x_instY (B : Bdy p Z s m meth c own bytes maxL ret nm) (W : Wk p l e R s m args below meth c Z T h k n) {K : String} {i : Nat} {b : Addr} (hd : decode bytes pc = .ok (.instanceof i, 3)) (w : (Cond.classLink own i K).before a0 Z = true) (F : Ins Z h b K true) (ls : Array Slot) (st : List Value) :
    ∃ T', Wk p l e R s m args below meth c Z T' h k n ∧ (∀ G, Go p.tables e below G T' (mkF m (pc + 3) ls (.int 1 :: st)) → Go p.tables e below G T (mkF m pc ls (.ref b :: st))) := by
  obtain ⟨locs, X, eT, N, O⟩ := W
  obtain ⟨T', X', e', st'⟩ := instY X B.1 B.2.1 B.2.2.1 w eT F (g := mkF m pc ls (.ref b :: st)) rfl rfl (hb B.2.2.2.1 hd)
  exact ⟨T', ⟨locs, X', e', N, O⟩, fun G q => Go.by st' q⟩
theorem x_instN (B : Bdy p Z s m meth c own bytes maxL ret nm) (W : Wk p l e R s m args below meth c Z T h k n) {K C : String} {i : Nat} {b : Addr} (hd : decode bytes pc = .ok (.instanceof i, 3)) (w : (Cond.classLink own i K).before a0 Z = true) (E : Exa Z h b C) (F : ∃ c t, Z.vm.findClass C = some c ∧ Z.vm.findClass K = some t ∧ Z.vm.assignable c t = false) (ls : Array Slot) (st : List Value) :
    ∃ T', Wk p l e R s m args below meth c Z T' h k n ∧ (∀ G, Go p.tables e below G T' (mkF m (pc + 3) ls (.int 0 :: st)) → Go p.tables e below G T (mkF m pc ls (.ref b :: st))) := by
  obtain ⟨locs, X, eT, N, O⟩ := W
  obtain ⟨T', X', e', st'⟩ := instNo X B.1 B.2.1 B.2.2.1 w eT E F (g := mkF m pc ls (.ref b :: st)) rfl rfl (hb B.2.2.2.1 hd)
  exact ⟨T', ⟨locs, X', e', N, O⟩, fun G q => Go.by st' q⟩
theorem x_castY (B : Bdy p Z s m meth c own bytes maxL ret nm) (W : Wk p l e R s m args below meth c Z T h k n) {K : String} {i : Nat} {b : Addr} (hd : decode bytes pc = .ok (.checkcast i, 3)) (w : (Cond.classLink own i K).before a0 Z = true) (F : Ins Z h b K true) (ls : Array Slot) (st : List Value) :
    ∃ T', Wk p l e R s m args below meth c Z T' h k n ∧ (∀ G, Go p.tables e below G T' (mkF m (pc + 3) ls (.ref b :: st)) → Go p.tables e below G T (mkF m pc ls (.ref b :: st))) := by
  obtain ⟨locs, X, eT, N, O⟩ := W
  obtain ⟨T', X', e', st'⟩ := castY X B.1 B.2.1 B.2.2.1 w eT F (g := mkF m pc ls (.ref b :: st)) rfl rfl (hb B.2.2.2.1 hd)
  exact ⟨T', ⟨locs, X', e', N, O⟩, fun G q => Go.by st' q⟩
/-! ### arrays -/
theorem x_newA (B : Bdy p Z s m meth c own bytes maxL ret nm) (W : Wk p l e R s m args below meth c Z T h k n) {aty : ArrayType} {z : Int32} (cap : Nat) (hd : decode bytes pc = .ok (.newarray aty, 2)) (w : (Cond.arrayClass (newarray.typeOf aty)).before a0 Z = true) (hn : ¬ z < 0) (hcap : z.toNatClampNeg ≤ cap) (hbg : cap * 8 ≤ 536870912) (hc : k + 1 ≤ R.cells) (hl : n + cap ≤ R.slots) (ls : Array Slot) (st : List Value) :
    ∃ T' h' b cA, b = h.size ∧ Wk p l e R s m args below meth c Z T' h' (k + 1) (n + cap) ∧ Keep h h' [] ∧ Arv Z h' b cA (newarray.typeOf aty) z (List.replicate cap (defaultValue (newarray.typeOf aty))) (defaultValue (newarray.typeOf aty)) ∧
      (∀ G, Go p.tables e below G T' (mkF m (pc + 2) ls (.ref b :: st)) → Go p.tables e below G T (mkF m pc ls (.int z :: st))) := by
  obtain ⟨locs, X, eT, N, O⟩ := W
  obtain ⟨T', h', cA, X', e', E', A', st'⟩ := newP X B.1 B.2.1 w eT (g := mkF m pc ls (.int z :: st)) rfl (hb B.2.2.2.1 hd) rfl hn hcap hbg hc hl
  exact ⟨T', h', _, cA, rfl, ⟨locs, X', e', N, O.ext E'⟩, (Keep.refl h []).ext E', (Arv.new A' hn).pad (vs' := [] ++ List.replicate cap _) (pad_rep [] _ cap), fun G q => Go.by st' q⟩
theorem arv_put {kc : ClassId} {ty : FieldType} {z j : Int32} {vs : List Value} {dv v : Value} {b : Addr} (F : Arv Z h b kc ty z vs dv) (hv : fits ty v = true) (hW : Wr h h' b j.toNatClampNeg v) (hi : j.toNatClampNeg < vs.length) : Arv Z h' b kc ty z (vs.set j.toNatClampNeg v) dv := by
  obtain ⟨cl, A, r1, r2, r3, H, Gf⟩ := F
  exact Arv.set A r1 r2 r3 H Gf hv hW _ rfl hi
theorem x_castore (B : Bdy p Z s m meth c own bytes maxL ret nm) (W : Wk p l e R s m args below meth c Z T h k n) {kc : ClassId} {z j x : Int32} {vs : List Value} {dv : Value} {b : Addr} (hd : decode bytes pc = .ok (.castore, 1)) (F : Arv Z h b kc .char z vs dv) (hj : ¬ j < 0 ∧ j < z) (hi : j.toNatClampNeg < vs.length) (hb' : Z.heap.size ≤ b) (ls : Array Slot) (st : List Value) :
    ∃ T' h', Wk p l e R s m args below meth c Z T' h' k n ∧ Keep h h' [b] ∧ Arv Z h' b kc .char z (vs.set j.toNatClampNeg (.int (nar .char x))) dv ∧ (∀ G, Go p.tables e below G T' (mkF m (pc + 1) ls st) → Go p.tables e below G T (mkF m pc ls (.int x :: .int j :: .ref b :: st))) := by
  obtain ⟨locs, X, eT, N, O⟩ := W
  have F' := F
  obtain ⟨cl, A, r1, r2, r3, Hs, Gf⟩ := F
  obtain ⟨T', h', X', e', W', st'⟩ := stC X B.1 B.2.1 eT A (inb_of r2 hj) (g := mkF m pc ls (.int x :: .int j :: .ref b :: st)) rfl rfl (hb B.2.2.2.1 hd)
  exact ⟨T', h', ⟨_, X', e', Fr.snoc X' N hb', O.wr W' hb'⟩, Keep.of_wr W', arv_put F' (fits_nar_char _) W' hi, fun G q => Go.by st' q⟩
theorem arv_read {kc : ClassId} {ty : FieldType} {z : Int32} {vs : List Value} {dv : Value} {b : Addr} (F : Arv Z h b kc ty z vs dv) {j : Int32} (hj : ¬ j < 0 ∧ j < z) {v : Value} (hv : vs.getD j.toNatClampNeg dv = v) : ∃ cl : Cell, Arr Z h b cl ty ∧ ¬ (j < 0 ∨ cl.slots.size ≤ j.toNatClampNeg) ∧ cl.slots[j.toNatClampNeg]? = some v := by
  obtain ⟨cl, A, r1, r2, r3, H, -⟩ := F
  exact ⟨cl, A, inb_of r2 hj, H.at (inb_of r2 hj) hv⟩
theorem g_caload (B : Bdy p Z s m meth c own bytes maxL ret nm) (W : Wk p l e R s m args below meth c Z T h k n) {kc : ClassId} {z j : Int32} {vs : List Value} {dv v : Value} {b : Addr} (hd : decode bytes pc = .ok (.caload, 1)) (F : Arv Z h b kc .char z vs dv) (hj : ¬ j < 0 ∧ j < z) (hv : vs.getD j.toNatClampNeg dv = v)
    (q : Go p.tables e below G T (mkF m (pc + 1) ls (v :: st))) : Go p.tables e below G T (mkF m pc ls (.int j :: .ref b :: st)) := by
  obtain ⟨locs, X, eT, N, O⟩ := W
  obtain ⟨cl, A, hin, hat⟩ := arv_read F hj hv
  exact Go.by (X.caload B.1 (by rw [eT]; exact A.1) (State.isArrayOf_alike B.2.1.alike A.2.1) A.2.2 hin hat (g := mkF m pc ls (.int j :: .ref b :: st)) rfl rfl (hb B.2.2.2.1 hd)) q
theorem g_caloadK (B : Bdy p Z s m meth c own bytes maxL ret nm) (W : Wk p l e R s m args below meth c Z T h k n) {j : Int32} {v : Value} {cl : Cell} {b : Addr} (hd : decode bytes pc = .ok (.caload, 1)) (A : Arr Z h b cl .char) (hin : ¬ (j < 0 ∨ cl.slots.size ≤ j.toNatClampNeg)) (hat : cl.slots[j.toNatClampNeg]? = some v)
    (q : Go p.tables e below G T (mkF m (pc + 1) ls (v :: st))) : Go p.tables e below G T (mkF m pc ls (.int j :: .ref b :: st)) := by
  obtain ⟨locs, X, eT, N, O⟩ := W
  exact Go.by (X.caload B.1 (by rw [eT]; exact A.1) (State.isArrayOf_alike B.2.1.alike A.2.1) A.2.2 hin hat (g := mkF m pc ls (.int j :: .ref b :: st)) rfl rfl (hb B.2.2.2.1 hd)) q
theorem g_alenK (B : Bdy p Z s m meth c own bytes maxL ret nm) (W : Wk p l e R s m args below meth c Z T h k n) {ty : FieldType} {z : Int32} {cl : Cell} {b : Addr} (hd : decode bytes pc = .ok (.arraylength, 1)) (A : Arr Z h b cl ty) (hz : cl.slots.size.toInt32 = z)
    (q : Go p.tables e below G T (mkF m (pc + 1) ls (.int z :: st))) : Go p.tables e below G T (mkF m pc ls (.ref b :: st)) := by
  obtain ⟨locs, X, eT, N, O⟩ := W
  refine Go.by (X.arraylength B.1 (by rw [eT]; exact A.1) (State.isArrayOf_alike B.2.1.alike A.2.1) (g := mkF m pc ls (.ref b :: st)) rfl rfl (hb B.2.2.2.1 hd)) ?_
  rw [hz]; exact q
theorem g_aalen (B : Bdy p Z s m meth c own bytes maxL ret nm) (W : Wk p l e R s m args below meth c Z T h k n) {kc : ClassId} {ty : FieldType} {z : Int32} {vs : List Value} {dv : Value} {b : Addr} (hd : decode bytes pc = .ok (.arraylength, 1)) (F : Arv Z h b kc ty z vs dv)
    (q : Go p.tables e below G T (mkF m (pc + 1) ls (.int z :: st))) : Go p.tables e below G T (mkF m pc ls (.ref b :: st)) := by
  obtain ⟨locs, X, eT, N, O⟩ := W
  obtain ⟨cl, A, r1, r2, r3, H, -⟩ := F
  refine Go.by (X.arraylength B.1 (by rw [eT]; exact A.1) (State.isArrayOf_alike B.2.1.alike A.2.1) (g := mkF m pc ls (.ref b :: st)) rfl rfl (hb B.2.2.2.1 hd)) ?_
  rw [len_of r2 r3]; exact q
theorem g_aaload (B : Bdy p Z s m meth c own bytes maxL ret nm) (W : Wk p l e R s m args below meth c Z T h k n) {ty : FieldType} {j : Int32} {v : Value} {cl : Cell} {b : Addr} (hd : decode bytes pc = .ok (.aaload, 1)) (A : Arr Z h b cl ty) (ht : ty.isReference = true) (hin : ¬ (j < 0 ∨ cl.slots.size ≤ j.toNatClampNeg)) (hat : cl.slots[j.toNatClampNeg]? = some v)
    (q : Go p.tables e below G T (mkF m (pc + 1) ls (v :: st))) : Go p.tables e below G T (mkF m pc ls (.int j :: .ref b :: st)) := by
  obtain ⟨locs, X, eT, N, O⟩ := W
  exact Go.by (X.aaload B.1 (by rw [eT]; exact A.1) (State.isArrayOf_alike B.2.1.alike A.2.1) ht A.2.2 hin hat (g := mkF m pc ls (.int j :: .ref b :: st)) rfl rfl (hb B.2.2.2.1 hd)) q
theorem g_instNull (B : Bdy p Z s m meth c own bytes maxL ret nm) (W : Wk p l e R s m args below meth c Z T h k n) {i : Nat} (hd : decode bytes pc = .ok (.instanceof i, 3)) (q : Go p.tables e below G T (mkF m (pc + 3) ls (.int 0 :: st))) : Go p.tables e below G T (mkF m pc ls (.null :: st)) := by
  obtain ⟨_, X, -⟩ := W
  exact Go.by (X.instanceofNull B.1 (g := mkF m pc ls (.null :: st)) rfl rfl (hb B.2.2.2.1 hd)) q
theorem g_castNull (B : Bdy p Z s m meth c own bytes maxL ret nm) (W : Wk p l e R s m args below meth c Z T h k n) {i : Nat} (hd : decode bytes pc = .ok (.checkcast i, 3)) (q : Go p.tables e below G T (mkF m (pc + 3) ls (.null :: st))) : Go p.tables e below G T (mkF m pc ls (.null :: st)) := by
  obtain ⟨_, X, -⟩ := W
  refine Go.by (fun t q => ?_) q
  jvm_step X.here [B.1, (hb B.2.2.2.1 hd), checkcast.sem]
  exact q
theorem x_newR (B : Bdy p Z s m meth c own bytes maxL ret nm) (W : Wk p l e R s m args below meth c Z T h k n) {C : String} {i : Nat} {z : Int32} (cap : Nat) (hd : decode bytes pc = .ok (.anewarray i, 3)) (w1 : (Cond.classLink own i C).before a0 Z = true) (w2 : (Cond.arrayOver (.object C)).before a0 Z = true) (hn : ¬ z < 0) (hcap : z.toNatClampNeg ≤ cap) (hbg : cap * 8 ≤ 536870912) (hc : k + 1 ≤ R.cells) (hl : n + cap ≤ R.slots) (ls : Array Slot) (st : List Value) :
    ∃ T' h' b cA, b = h.size ∧ Wk p l e R s m args below meth c Z T' h' (k + 1) (n + cap) ∧ Keep h h' [] ∧ Arv Z h' b cA (.object C) z (List.replicate cap .null) .null ∧ Ovr Z cA C ∧
      (∀ G, Go p.tables e below G T' (mkF m (pc + 3) ls (.ref b :: st)) → Go p.tables e below G T (mkF m pc ls (.int z :: st))) := by
  obtain ⟨locs, X, eT, N, O⟩ := W
  obtain ⟨T', h', cA, X', e', E', A', Ov', st'⟩ := newR X B.1 B.2.1 B.2.2.1 w1 w2 eT (g := mkF m pc ls (.int z :: st)) rfl (hb B.2.2.2.1 hd) rfl hn hcap hbg hc hl
  exact ⟨T', h', _, cA, rfl, ⟨locs, X', e', N, O.ext E'⟩, (Keep.refl h []).ext E', (Arv.new A' hn).pad (vs' := [] ++ List.replicate cap _) (pad_rep [] _ cap), Ov', fun G q => Go.by st' q⟩
theorem x_aastore (B : Bdy p Z s m meth c own bytes maxL ret nm) (W : Wk p l e R s m args below meth c Z T h k n) {kc : ClassId} {ty : FieldType} {z j : Int32} {vs : List Value} {dv v : Value} {b : Addr} (hd : decode bytes pc = .ok (.aastore, 1)) (F : Arv Z h b kc ty z vs dv) (ht : ty.isReference = true) (hj : ¬ j < 0 ∧ j < z) (hi : j.toNatClampNeg < vs.length) (hv : v.isRef = true) (hS : ∀ cl, Arr Z h b cl ty → cl.cls = kc → Sto Z h b v) (hb' : Z.heap.size ≤ b) (ls : Array Slot) (st : List Value) :
    ∃ T' h', Wk p l e R s m args below meth c Z T' h' k n ∧ Keep h h' [b] ∧ Arv Z h' b kc ty z (vs.set j.toNatClampNeg v) dv ∧ (∀ G, Go p.tables e below G T' (mkF m (pc + 1) ls st) → Go p.tables e below G T (mkF m pc ls (v :: .int j :: .ref b :: st))) := by
  obtain ⟨locs, X, eT, N, O⟩ := W
  have F' := F
  have hby : ty ≠ .byte := fun q => by rw [q] at ht; cases ht
  obtain ⟨cl, A, r1, r2, r3, Hs, Gf⟩ := F
  obtain ⟨T', h', X', e', W', st'⟩ := stR X B.1 B.2.1 eT A (inb_of r2 hj) ht (hS cl A r1) (g := mkF m pc ls (v :: .int j :: .ref b :: st)) rfl rfl (hb B.2.2.2.1 hd)
  exact ⟨T', h', ⟨_, X', e', Fr.snoc X' N hb', O.wr W' hb'⟩, Keep.of_wr W', arv_put F' (own_fr ht hv) W' hi, fun G q => Go.by st' q⟩
theorem g_aaloadV (B : Bdy p Z s m meth c own bytes maxL ret nm) (W : Wk p l e R s m args below meth c Z T h k n) {kc : ClassId} {ty : FieldType} {z j : Int32} {vs : List Value} {dv v : Value} {b : Addr} (hd : decode bytes pc = .ok (.aaload, 1)) (F : Arv Z h b kc ty z vs dv) (ht : ty.isReference = true) (hj : ¬ j < 0 ∧ j < z) (hv : vs.getD j.toNatClampNeg dv = v)
    (q : Go p.tables e below G T (mkF m (pc + 1) ls (v :: st))) : Go p.tables e below G T (mkF m pc ls (.int j :: .ref b :: st)) := by
  obtain ⟨cl, A, hin, hat⟩ := arv_read F hj hv
  exact g_aaload B W hd A ht hin hat q
theorem x_clone (B : Bdy p Z s m meth c own bytes maxL ret nm) (W : Wk p l e R s m args below meth c Z T h k n) {ad : String} {i : Nat} {b : Addr} {cl : Cell} {ty : FieldType} (cap : Nat) (hd : decode bytes pc = .ok (.invokevirtual i, 3)) (w1 : (Cond.methodLink own i ⟨ad, "clone", "()Ljava/lang/Object;"⟩).before a0 Z = true) (w2 : (Cond.sameMethod ad "java/lang/Object" "clone" "()Ljava/lang/Object;").before a0 Z = true) (w3 : (Cond.native ⟨"java/lang/Object", "clone", "()Ljava/lang/Object;"⟩).before a0 Z = true)
    (w4 : (Cond.instanceMethod ⟨"java/lang/Object", "clone", "()Ljava/lang/Object;"⟩).before a0 Z = true) (w5 : (Cond.selects ad ⟨ad, "clone", "()Ljava/lang/Object;"⟩ ⟨"java/lang/Object", "clone", "()Ljava/lang/Object;"⟩).before a0 Z = true) (w6 : (Cond.castable ad "java/lang/Cloneable").before a0 Z = true) (A : Arr Z h b cl ty) (E : Exa Z h b ad) (F : FitC Z cl)
    (ls : Array Slot) (st : List Value) (hsz : ls.size = maxL) (V : Nat) (hV : (st.map fun v => v.category).sum = V) (hf : 1 ≤ R.frames) (hl : V + 14 ≤ R.locals) (hcap : cl.slots.size ≤ cap) (hc : k + 1 ≤ R.cells) (hs : n + cap ≤ R.slots) :
    ∃ T' h' b', b' = h.size ∧ Wk p l e R s m args below meth c Z T' h' (k + 1) (n + cap) ∧ Keep h h' [] ∧ Arr Z h' b' (cloneOf cl) ty ∧ Exa Z h' b' ad ∧ (∀ G, Go p.tables e below G T' (mkF m (pc + 3) ls (.ref b' :: st)) → Go p.tables e below G T (mkF m pc ls (.ref b :: st))) := by
  obtain ⟨locs, X, eT, N, O⟩ := W
  obtain ⟨T', h', X', e', E', A', Ex', st'⟩ := cloneA X B.1 B.2.1 B.2.2.1 w1 w2 w3 w4 w5 w6 eT A E F (g := mkF m pc ls (.ref b :: st)) rfl (hsz.trans B.2.2.2.2.1.symm) rfl (hb B.2.2.2.1 hd) hf (W := V) (by show 2 * 0 + _ ≤ _; omega) hl hcap hc hs
  exact ⟨T', h', _, rfl, ⟨locs, X', e', N, O.ext E'⟩, (Keep.refl h []).ext E', A', Ex', fun G q => Go.by st' q⟩
/-! ### calls -/
theorem backC {y : MethodName} {yb : ByteArray} {yL : Nat} {yr : Option FieldType} {rm : Room} {len V : Nat} {as' : Array Value} (C : Con l Z y yb yL yr [] rm as' h Q) (O : Old Z Z.heap.size h)
    (hZ : Z.Warmed39 s.vm) (wc : (Cond.code y yb yL yr).before a0 Z = true) (wz : (Cond.initialized y.cls).before a0 Z = true) (hf : rm.frames + 1 ≤ R.frames) (hl : V + (yL + 11) + rm.locals ≤ R.locals) :
    Back l R p e below s args y len V (fun A a => a = as' ∧ A.U.heap = h ∧ A.cells + rm.cells ≤ R.cells ∧ A.slots + rm.slots ≤ R.slots)
      (fun A _ v B => ∃ L, (Q v B.U.heap ∧ Fr Z.heap.size L ∧ Old Z Z.heap.size B.U.heap) ∧ B.locs = A.locs ++ L ∧ B.cells = A.cells + rm.cells ∧ B.slots = A.slots + rm.slots) :=
  backOf (Q := fun v h L => Q v h ∧ Fr Z.heap.size L ∧ Old Z Z.heap.size h) (C O) hZ wc wz hf hl
theorem x_static (B : Bdy p Z s m meth c own bytes maxL ret nm) (W : Wk p l e R s m args below meth c Z T h k n) {y : MethodName} {yb : ByteArray} {yL i : Nat} {yr : Option FieldType} {rm : Room} (argsL : List Value) (C : Con l Z y yb yL yr [] rm argsL.toArray h Q)
    (hd : decode bytes pc = .ok (.invokestatic i, 3)) (w1 : (Cond.methodLink own i y).before a0 Z = true) (w2 : (Cond.static y).before a0 Z = true) (wz : (Cond.initialized y.cls).before a0 Z = true) (wc : (Cond.code y yb yL yr).before a0 Z = true) (hy : y.cls ≠ "java/lang/invoke/MethodHandle" ∧ y.cls ≠ "java/lang/invoke/VarHandle")
    (hlen : ∀ sig, parseMethodDescriptor y.desc = some sig → argsL.length = sig.parameters.length) (ls : Array Slot) (st : List Value) (hsz : ls.size = maxL) (V : Nat) (hV : (st.map fun v => v.category).sum = V) (hf : rm.frames + 1 ≤ R.frames) (hl : V + (yL + 11) + rm.locals ≤ R.locals) (hc : k + rm.cells ≤ R.cells) (hs : n + rm.slots ≤ R.slots) :
    ∃ T' h' v, Wk p l e R s m args below meth c Z T' h' (k + rm.cells) (n + rm.slots) ∧ Q v h' ∧ (∀ G, Go p.tables e below G T' (mkF m (pc + 3) ls (v.toList ++ st)) → Go p.tables e below G T (mkF m pc ls (argsL.reverse ++ st))) := by
  obtain ⟨locs, X, eT, N, O⟩ := W
  obtain ⟨v, _, ⟨T', L', k', n'⟩, -, X', ⟨Lc, hQ, l1, l2, l3⟩, st'⟩ := Jvm.LawKit.callS X B.1 (y := y) B.2.2.1 (mvT B.2.1 w1) (mvT B.2.1 w2) (mvT B.2.1 wz) (mvT B.2.1 wc) hy (backC (V := V) C O B.2.1 wc wz hf hl) (g := mkF m pc ls (argsL.reverse ++ st)) rfl (hsz.trans B.2.2.2.2.1.symm) (argsL := argsL) (rest := st) hlen rfl (by show 2 * 0 + _ ≤ _; omega) (hb B.2.2.2.1 hd) (fun _ _ => ⟨rfl, eT, hc, hs⟩)
  dsimp only [Pt.U, Pt.locs, Pt.cells, Pt.slots] at X' l1 l2 l3 st' hQ
  subst l1 l2 l3
  exact ⟨T', T'.heap, v, ⟨_, X', rfl, N.app hQ.2.1, hQ.2.2⟩, hQ.1, fun G q => Go.by st' q⟩
theorem x_special (B : Bdy p Z s m meth c own bytes maxL ret nm) (W : Wk p l e R s m args below meth c Z T h k n) {y : MethodName} {yb : ByteArray} {yL i : Nat} {rm : Room} {b : Addr} (argsL : List Value) (C : Con l Z y yb yL none [] rm (.ref b :: argsL).toArray h Q)
    (hd : decode bytes pc = .ok (.invokespecial i, 3)) (hy1 : y.name = "<init>") (w1 : (Cond.methodLink own i y).before a0 Z = true) (w2 : (Cond.instanceMethod y).before a0 Z = true) (wz : (Cond.initialized y.cls).before a0 Z = true) (wc : (Cond.code y yb yL none).before a0 Z = true) (hy : y.cls ≠ "java/lang/invoke/MethodHandle" ∧ y.cls ≠ "java/lang/invoke/VarHandle")
    (hlen : ∀ sig, parseMethodDescriptor y.desc = some sig → argsL.length = sig.parameters.length) (ls : Array Slot) (st : List Value) (hsz : ls.size = maxL) (V : Nat) (hV : (st.map fun v => v.category).sum = V) (hf : rm.frames + 1 ≤ R.frames) (hl : V + (yL + 11) + rm.locals ≤ R.locals) (hc : k + rm.cells ≤ R.cells) (hs : n + rm.slots ≤ R.slots) :
    ∃ T' h' v, Wk p l e R s m args below meth c Z T' h' (k + rm.cells) (n + rm.slots) ∧ Q v h' ∧ (∀ G, Go p.tables e below G T' (mkF m (pc + 3) ls (v.toList ++ st)) → Go p.tables e below G T (mkF m pc ls (argsL.reverse ++ .ref b :: st))) := by
  obtain ⟨locs, X, eT, N, O⟩ := W
  obtain ⟨v, _, ⟨T', L', k', n'⟩, -, X', ⟨Lc, hQ, l1, l2, l3⟩, st'⟩ := X.specialBack B.1 (y := y) hy1 B.2.2.1 (mvT B.2.1 w1) (mvT B.2.1 w2) (mvT B.2.1 wc) hy (backC (V := V) C O B.2.1 wc wz hf hl) (g := mkF m pc ls (argsL.reverse ++ .ref b :: st)) rfl (hsz.trans B.2.2.2.2.1.symm) (Steps.refl _) (a := b) (argsL := argsL) (rest := st) hlen rfl (by show 2 * 0 + _ ≤ _; omega) (hb B.2.2.2.1 hd) (fun _ _ => ⟨rfl, eT, hc, hs⟩)
  dsimp only [Pt.U, Pt.locs, Pt.cells, Pt.slots] at X' l1 l2 l3 st' hQ
  subst l1 l2 l3
  exact ⟨T', T'.heap, v, ⟨_, X', rfl, N.app hQ.2.1, hQ.2.2⟩, hQ.1, fun G q => Go.by (fun t q => st'.trans q) q⟩
theorem x_virtual (B : Bdy p Z s m meth c own bytes maxL ret nm) (W : Wk p l e R s m args below meth c Z T h k n) {y : MethodName} {yb : ByteArray} {yL i : Nat} {yr : Option FieldType} {rm : Room} {b : Addr} {D : String} (argsL : List Value) (C : Con l Z y yb yL yr [] rm (.ref b :: argsL).toArray h Q) (E : Exa Z h b D)
    (hd : decode bytes pc = .ok (.invokevirtual i, 3)) (w1 : (Cond.methodLink own i y).before a0 Z = true) (w2 : (Cond.declares y).before a0 Z = true) (w3 : (Cond.selects D y y).before a0 Z = true) (w4 : (Cond.instanceMethod y).before a0 Z = true) (wz : (Cond.initialized y.cls).before a0 Z = true) (wc : (Cond.code y yb yL yr).before a0 Z = true) (hy : y.cls ≠ "java/lang/invoke/MethodHandle" ∧ y.cls ≠ "java/lang/invoke/VarHandle")
    (hlen : ∀ sig, parseMethodDescriptor y.desc = some sig → argsL.length = sig.parameters.length) (ls : Array Slot) (st : List Value) (hsz : ls.size = maxL) (V : Nat) (hV : (st.map fun v => v.category).sum = V) (hf : rm.frames + 1 ≤ R.frames) (hl : V + (yL + 11) + rm.locals ≤ R.locals) (hc : k + rm.cells ≤ R.cells) (hs : n + rm.slots ≤ R.slots) :
    ∃ T' h' v, Wk p l e R s m args below meth c Z T' h' (k + rm.cells) (n + rm.slots) ∧ Q v h' ∧ (∀ G, Go p.tables e below G T' (mkF m (pc + 3) ls (v.toList ++ st)) → Go p.tables e below G T (mkF m pc ls (argsL.reverse ++ .ref b :: st))) := by
  obtain ⟨locs, X, eT, N, O⟩ := W
  obtain ⟨cq, kq, qa, qb, qc⟩ := isOf B.2.1 eT E
  obtain ⟨v, _, ⟨T', L', k', n'⟩, -, X', ⟨Lc, hQ, l1, l2, l3⟩, st'⟩ := X.virtualBack B.1 (y := y) (z := y) B.2.2.1 (mvT B.2.1 w1) (mvT B.2.1 w2) (notFace_of_selects (args := #[]) (mvT B.2.1 w3)) (mvT B.2.1 w3) (mvT B.2.1 w4) hy (backC (V := V) C O B.2.1 wc wz hf hl) qa qc (g := mkF m pc ls (argsL.reverse ++ .ref b :: st)) rfl (hsz.trans B.2.2.2.2.1.symm) (Steps.refl _) (argsL := argsL) (rest := st) hlen rfl (by show 2 * 0 + _ ≤ _; omega) (hb B.2.2.2.1 hd) (fun _ _ => ⟨rfl, eT, hc, hs⟩)
  dsimp only [Pt.U, Pt.locs, Pt.cells, Pt.slots] at X' l1 l2 l3 st' hQ
  subst l1 l2 l3
  exact ⟨T', T'.heap, v, ⟨_, X', rfl, N.app hQ.2.1, hQ.2.2⟩, hQ.1, fun G q => Go.by (fun t q => st'.trans q) q⟩
theorem x_iface (B : Bdy p Z s m meth c own bytes maxL ret nm) (W : Wk p l e R s m args below meth c Z T h k n) {xi y : MethodName} {count : Nat} {D : String} {yb : ByteArray} {yL i : Nat} {yr : Option FieldType} {rm : Room} {b : Addr} (argsL : List Value) (C : Con l Z y yb yL yr [] rm (.ref b :: argsL).toArray h Q) (E : Exa Z h b D)
    (hd : decode bytes pc = .ok (.invokeinterface i count, 5)) (w1 : (Cond.methodLink own i xi).before a0 Z = true) (w2 : (Cond.declares xi).before a0 Z = true) (w3 : (Cond.interfaceMethod xi.cls xi.cls xi.name xi.desc).before a0 Z = true) (w4 : (Cond.selects D xi y).before a0 Z = true) (w5 : (Cond.instanceMethod y).before a0 Z = true) (w6 : (Cond.publicMethod y).before a0 Z = true) (w7 : (Cond.unhidden D xi.name xi.desc).before a0 Z = true) (w8 : (Cond.castable D xi.cls).before a0 Z = true) (hk3 : ((Cond.interfaceMethod xi.cls xi.cls xi.name xi.desc).onTables && (Cond.interfaceMethod xi.cls xi.cls xi.name xi.desc).keepsFace) = true) (wz : (Cond.initialized y.cls).before a0 Z = true) (wc : (Cond.code y yb yL yr).before a0 Z = true) (hy : xi.cls ≠ "java/lang/invoke/MethodHandle" ∧ xi.cls ≠ "java/lang/invoke/VarHandle")
    (hlen : ∀ sig, parseMethodDescriptor xi.desc = some sig → argsL.length = sig.parameters.length) (ls : Array Slot) (st : List Value) (hsz : ls.size = maxL) (V : Nat) (hV : (st.map fun v => v.category).sum = V) (hf : rm.frames + 1 ≤ R.frames) (hl : V + (yL + 11) + rm.locals ≤ R.locals) (hc : k + rm.cells ≤ R.cells) (hs : n + rm.slots ≤ R.slots) :
    ∃ T' h' v, Wk p l e R s m args below meth c Z T' h' (k + rm.cells) (n + rm.slots) ∧ Q v h' ∧ (∀ G, Go p.tables e below G T' (mkF m (pc + 5) ls (v.toList ++ st)) → Go p.tables e below G T (mkF m pc ls (argsL.reverse ++ .ref b :: st))) := by
  obtain ⟨locs, X, eT, N, O⟩ := W
  obtain ⟨cq, kq, qa, qb, qc⟩ := isOf B.2.1 eT E
  obtain ⟨v, _, ⟨T', L', k', n'⟩, -, X', ⟨Lc, hQ, l1, l2, l3⟩, st'⟩ := X.interfaceBack B.1 (xi := xi) (y := y) B.2.2.1 (mvT B.2.1 w1) (mvT B.2.1 w2) (mvT B.2.1 w3 hk3) (mvT B.2.1 w4) (mvT B.2.1 w5) (mvT B.2.1 w6) (mvT B.2.1 w7) (mvT B.2.1 w8) hy (backC (V := V) C O B.2.1 wc wz hf hl) qa qb qc (g := mkF m pc ls (argsL.reverse ++ .ref b :: st)) rfl (hsz.trans B.2.2.2.2.1.symm) (Steps.refl _) (argsL := argsL) (rest := st) hlen rfl (by show 2 * 0 + _ ≤ _; omega) (hb B.2.2.2.1 hd) (fun _ _ => ⟨rfl, eT, hc, hs⟩)
  dsimp only [Pt.U, Pt.locs, Pt.cells, Pt.slots] at X' l1 l2 l3 st' hQ
  subst l1 l2 l3
  exact ⟨T', T'.heap, v, ⟨_, X', rfl, N.app hQ.2.1, hQ.2.2⟩, hQ.1, fun G q => Go.by (fun t q => st'.trans q) q⟩
theorem x_private (B : Bdy p Z s m meth c own bytes maxL ret nm) (W : Wk p l e R s m args below meth c Z T h k n) {y : MethodName} {D : String} {yb : ByteArray} {yL i : Nat} {yr : Option FieldType} {rm : Room} {b : Addr} (argsL : List Value) (C : Con l Z y yb yL yr [] rm (.ref b :: argsL).toArray h Q) (E : Exa Z h b D)
    (hd : decode bytes pc = .ok (.invokevirtual i, 3)) (w1 : (Cond.methodLink own i y).before a0 Z = true) (w2 : (Cond.instanceMethod y).before a0 Z = true) (w3 : (Cond.selects y.cls y y).before a0 Z = true) (w4 : (Cond.privateMethod y).before a0 Z = true) (wz : (Cond.initialized y.cls).before a0 Z = true) (wc : (Cond.code y yb yL yr).before a0 Z = true) (hy : y.cls ≠ "java/lang/invoke/MethodHandle" ∧ y.cls ≠ "java/lang/invoke/VarHandle")
    (hlen : ∀ sig, parseMethodDescriptor y.desc = some sig → argsL.length = sig.parameters.length) (ls : Array Slot) (st : List Value) (hsz : ls.size = maxL) (V : Nat) (hV : (st.map fun v => v.category).sum = V) (hf : rm.frames + 1 ≤ R.frames) (hl : V + (yL + 11) + rm.locals ≤ R.locals) (hc : k + rm.cells ≤ R.cells) (hs : n + rm.slots ≤ R.slots) :
    ∃ T' h' v, Wk p l e R s m args below meth c Z T' h' (k + rm.cells) (n + rm.slots) ∧ Q v h' ∧ (∀ G, Go p.tables e below G T' (mkF m (pc + 3) ls (v.toList ++ st)) → Go p.tables e below G T (mkF m pc ls (argsL.reverse ++ .ref b :: st))) := by
  obtain ⟨locs, X, eT, N, O⟩ := W
  obtain ⟨cell, qa, qb⟩ := Exa.cell E
  obtain ⟨v, _, ⟨T', L', k', n'⟩, -, X', ⟨Lc, hQ, l1, l2, l3⟩, st'⟩ := X.privateBack B.1 (y := y) B.2.2.1 (mvT B.2.1 w1) (mvT B.2.1 w2) (mvT B.2.1 w3) (Cond.privateMethod_at (mvP B.2.1 w4 (args := #[]))) (mvT B.2.1 wc) hy (backC (V := V) C O B.2.1 wc wz hf hl) (g := mkF m pc ls (argsL.reverse ++ .ref b :: st)) rfl (hsz.trans B.2.2.2.2.1.symm) (Steps.refl _) (a := b) (by rw [eT]; exact qa) qb (argsL := argsL) (rest := st) hlen rfl (by show 2 * 0 + _ ≤ _; omega) (hb B.2.2.2.1 hd) (fun _ _ => ⟨rfl, eT, hc, hs⟩)
  dsimp only [Pt.U, Pt.locs, Pt.cells, Pt.slots] at X' l1 l2 l3 st' hQ
  subst l1 l2 l3
  exact ⟨T', T'.heap, v, ⟨_, X', rfl, N.app hQ.2.1, hQ.2.2⟩, hQ.1, fun G q => Go.by (fun t q => st'.trans q) q⟩
theorem x_specialB (B : Bdy p Z s m meth c own bytes maxL ret nm) (W : Wk p l e R s m args below meth c Z T h k n) {y : MethodName} {yb : ByteArray} {yL i V rc rs : Nat} {b : Addr} {QL : Option Value → Heap → List Loc → Prop} (argsL : List Value) (hK : ∀ s' : State, Z.Warmed39 s'.vm → Back l R p e below s' args y 3 V (fun A a => a = (.ref b :: argsL).toArray ∧ A.U.heap = h ∧ A.cells + rc ≤ R.cells ∧ A.slots + rs ≤ R.slots) (fun A _ v B => ∃ L, QL v B.U.heap L ∧ B.locs = A.locs ++ L ∧ B.cells = A.cells + rc ∧ B.slots = A.slots + rs))
    (hd : decode bytes pc = .ok (.invokespecial i, 3)) (hy1 : y.name = "<init>") (w1 : (Cond.methodLink own i y).before a0 Z = true) (w2 : (Cond.instanceMethod y).before a0 Z = true) (wc : (Cond.code y yb yL none).before a0 Z = true) (hy : y.cls ≠ "java/lang/invoke/MethodHandle" ∧ y.cls ≠ "java/lang/invoke/VarHandle")
    (hlen : ∀ sig, parseMethodDescriptor y.desc = some sig → argsL.length = sig.parameters.length) (ls : Array Slot) (st : List Value) (hsz : ls.size = maxL) (hV : (st.map fun v => v.category).sum = V) (hc : k + rc ≤ R.cells) (hs : n + rs ≤ R.slots) (wl : List Addr) (hwl : ∀ x ∈ wl, Z.heap.size ≤ x) (hq : ∀ v h' L, QL v h' L → Fr Z.heap.size L ∧ Keep h h' wl) : ∃ T' h' v L, Wk p l e R s m args below meth c Z T' h' (k + rc) (n + rs) ∧ QL v h' L ∧ (∀ G, Go p.tables e below G T' (mkF m (pc + 3) ls (v.toList ++ st)) → Go p.tables e below G T (mkF m pc ls (argsL.reverse ++ .ref b :: st))) := by
  obtain ⟨locs, X, eT, N, O⟩ := W
  obtain ⟨v, _, ⟨T', L', k', n'⟩, -, X', ⟨Lc, hQ, l1, l2, l3⟩, st'⟩ := X.specialBack B.1 (y := y) hy1 B.2.2.1 (mvT B.2.1 w1) (mvT B.2.1 w2) (mvT B.2.1 wc) hy (hK _ B.2.1) (g := mkF m pc ls (argsL.reverse ++ .ref b :: st)) rfl (hsz.trans B.2.2.2.2.1.symm) (Steps.refl _) (a := b) (argsL := argsL) (rest := st) hlen rfl (by show 2 * 0 + _ ≤ _; omega) (hb B.2.2.2.1 hd) (fun _ _ => ⟨rfl, eT, hc, hs⟩)
  dsimp only [Pt.U, Pt.locs, Pt.cells, Pt.slots] at X' l1 l2 l3 st' hQ
  subst l1 l2 l3
  obtain ⟨hF, hKp⟩ := hq _ _ _ hQ
  exact ⟨T', T'.heap, v, Lc, ⟨_, X', rfl, N.app hF, O.keep hKp hwl⟩, hQ, fun G q => Go.by (fun t q => st'.trans q) q⟩
theorem x_virtualB (B : Bdy p Z s m meth c own bytes maxL ret nm) (W : Wk p l e R s m args below meth c Z T h k n) {y : MethodName} {D : String} {i V rc rs : Nat} {b : Addr} {QL : Option Value → Heap → List Loc → Prop} (argsL : List Value) (hK : ∀ s' : State, Z.Warmed39 s'.vm → Back l R p e below s' args y 3 V (fun A a => a = (.ref b :: argsL).toArray ∧ A.U.heap = h ∧ A.cells + rc ≤ R.cells ∧ A.slots + rs ≤ R.slots) (fun A _ v B => ∃ L, QL v B.U.heap L ∧ B.locs = A.locs ++ L ∧ B.cells = A.cells + rc ∧ B.slots = A.slots + rs)) (E : Exa Z h b D)
    (hd : decode bytes pc = .ok (.invokevirtual i, 3)) (w1 : (Cond.methodLink own i y).before a0 Z = true) (w2 : (Cond.declares y).before a0 Z = true) (w3 : (Cond.selects D y y).before a0 Z = true) (w4 : (Cond.instanceMethod y).before a0 Z = true) (hy : y.cls ≠ "java/lang/invoke/MethodHandle" ∧ y.cls ≠ "java/lang/invoke/VarHandle")
    (hlen : ∀ sig, parseMethodDescriptor y.desc = some sig → argsL.length = sig.parameters.length) (ls : Array Slot) (st : List Value) (hsz : ls.size = maxL) (hV : (st.map fun v => v.category).sum = V) (hc : k + rc ≤ R.cells) (hs : n + rs ≤ R.slots) (wl : List Addr) (hwl : ∀ x ∈ wl, Z.heap.size ≤ x) (hq : ∀ v h' L, QL v h' L → Fr Z.heap.size L ∧ Keep h h' wl) : ∃ T' h' v L, Wk p l e R s m args below meth c Z T' h' (k + rc) (n + rs) ∧ QL v h' L ∧ (∀ G, Go p.tables e below G T' (mkF m (pc + 3) ls (v.toList ++ st)) → Go p.tables e below G T (mkF m pc ls (argsL.reverse ++ .ref b :: st))) := by
  obtain ⟨locs, X, eT, N, O⟩ := W
  obtain ⟨cq, kq, qa, qb, qc⟩ := isOf B.2.1 eT E
  obtain ⟨v, _, ⟨T', L', k', n'⟩, -, X', ⟨Lc, hQ, l1, l2, l3⟩, st'⟩ := X.virtualBack B.1 (y := y) (z := y) B.2.2.1 (mvT B.2.1 w1) (mvT B.2.1 w2) (notFace_of_selects (args := #[]) (mvT B.2.1 w3)) (mvT B.2.1 w3) (mvT B.2.1 w4) hy (hK _ B.2.1) qa qc (g := mkF m pc ls (argsL.reverse ++ .ref b :: st)) rfl (hsz.trans B.2.2.2.2.1.symm) (Steps.refl _) (argsL := argsL) (rest := st) hlen rfl (by show 2 * 0 + _ ≤ _; omega) (hb B.2.2.2.1 hd) (fun _ _ => ⟨rfl, eT, hc, hs⟩)
  dsimp only [Pt.U, Pt.locs, Pt.cells, Pt.slots] at X' l1 l2 l3 st' hQ
  subst l1 l2 l3
  obtain ⟨hF, hKp⟩ := hq _ _ _ hQ
  exact ⟨T', T'.heap, v, Lc, ⟨_, X', rfl, N.app hF, O.keep hKp hwl⟩, hQ, fun G q => Go.by (fun t q => st'.trans q) q⟩
end K
end Jvm.OwnK
namespace Jvm.Pilot.@@N@@
open Jvm Jvm.ClassFile Sem Op Lib Jvm.Free Jvm.Stand Jvm.LawKit Jvm.RoadKit Jvm.OwnK Bundle Jvm.Pilot.@@N@@.Jvm.D
theorem tw {Z : State} {a0 : Array Value} (hw : ∀ d ∈ tables_1, d.before a0 Z = true) (i : Nat) {d : Jvm.Cond} (h : tables_1[i]? = some d) : d.before a0 Z = true := hw _ (List.mem_of_getElem? h)
theorem d_prog_18_method_5_0 : decode prog_18_method_5_code 0 = .ok (.aconst_null, 1) := by decide +kernel
theorem d_prog_18_method_5_1 : decode prog_18_method_5_code 1 = .ok (.astore_n 1, 1) := by decide +kernel
theorem d_prog_18_method_5_2 : decode prog_18_method_5_code 2 = .ok (.invokestatic 36, 3) := by decide +kernel
theorem d_prog_18_method_5_5 : decode prog_18_method_5_code 5 = .ok (.astore_n 2, 1) := by decide +kernel
theorem d_prog_18_method_5_6 : decode prog_18_method_5_code 6 = .ok (.aload_n 2, 1) := by decide +kernel
theorem d_prog_18_method_5_7 : decode prog_18_method_5_code 7 = .ok (.arraylength, 1) := by decide +kernel
theorem d_prog_18_method_5_8 : decode prog_18_method_5_code 8 = .ok (.istore_n 3, 1) := by decide +kernel
theorem d_prog_18_method_5_9 : decode prog_18_method_5_code 9 = .ok (.iconst 0, 1) := by decide +kernel
theorem d_prog_18_method_5_10 : decode prog_18_method_5_code 10 = .ok (.istore 4, 2) := by decide +kernel
theorem d_prog_18_method_5_12 : decode prog_18_method_5_code 12 = .ok (.iload 4, 2) := by decide +kernel
theorem d_prog_18_method_5_14 : decode prog_18_method_5_code 14 = .ok (.iload_n 3, 1) := by decide +kernel
theorem d_prog_18_method_5_15 : decode prog_18_method_5_code 15 = .ok (.if_icmp .ge 30, 3) := by decide +kernel
theorem d_prog_18_method_5_18 : decode prog_18_method_5_code 18 = .ok (.aload_n 2, 1) := by decide +kernel
theorem d_prog_18_method_5_19 : decode prog_18_method_5_code 19 = .ok (.iload 4, 2) := by decide +kernel
theorem d_prog_18_method_5_21 : decode prog_18_method_5_code 21 = .ok (.aaload, 1) := by decide +kernel
theorem d_prog_18_method_5_22 : decode prog_18_method_5_code 22 = .ok (.astore 5, 2) := by decide +kernel
theorem d_prog_18_method_5_24 : decode prog_18_method_5_code 24 = .ok (.aload 5, 2) := by decide +kernel
theorem d_prog_18_method_5_26 : decode prog_18_method_5_code 26 = .ok (.getfield 32, 3) := by decide +kernel
theorem d_prog_18_method_5_29 : decode prog_18_method_5_code 29 = .ok (.aload_n 0, 1) := by decide +kernel
theorem d_prog_18_method_5_30 : decode prog_18_method_5_code 30 = .ok (.invokevirtual 40, 3) := by decide +kernel
theorem d_prog_18_method_5_33 : decode prog_18_method_5_code 33 = .ok (.ifCond .eq 6, 3) := by decide +kernel
theorem d_prog_18_method_5_36 : decode prog_18_method_5_code 36 = .ok (.aload 5, 2) := by decide +kernel
theorem d_prog_18_method_5_38 : decode prog_18_method_5_code 38 = .ok (.astore_n 1, 1) := by decide +kernel
theorem d_prog_18_method_5_39 : decode prog_18_method_5_code 39 = .ok (.iinc 4 1, 3) := by decide +kernel
theorem d_prog_18_method_5_42 : decode prog_18_method_5_code 42 = .ok (.goto (-30), 3) := by decide +kernel
theorem d_prog_18_method_5_45 : decode prog_18_method_5_code 45 = .ok (.aload_n 0, 1) := by decide +kernel
theorem d_prog_18_method_5_46 : decode prog_18_method_5_code 46 = .ok (.ifnull 21, 3) := by decide +kernel
theorem d_prog_18_method_5_49 : decode prog_18_method_5_code 49 = .ok (.aload_n 1, 1) := by decide +kernel
theorem d_prog_18_method_5_50 : decode prog_18_method_5_code 50 = .ok (.ifnonnull 17, 3) := by decide +kernel
theorem d_prog_18_method_5_53 : decode prog_18_method_5_code 53 = .ok (.new 46, 3) := by decide +kernel
theorem d_prog_18_method_5_56 : decode prog_18_method_5_code 56 = .ok (.dup, 1) := by decide +kernel
theorem d_prog_18_method_5_57 : decode prog_18_method_5_code 57 = .ok (.aload_n 0, 1) := by decide +kernel
theorem d_prog_18_method_5_63 : decode prog_18_method_5_code 63 = .ok (.invokespecial 52, 3) := by decide +kernel
theorem d_prog_18_method_5_66 : decode prog_18_method_5_code 66 = .ok (.athrow, 1) := by decide +kernel
theorem d_prog_18_method_5_67 : decode prog_18_method_5_code 67 = .ok (.aload_n 1, 1) := by decide +kernel
theorem d_prog_18_method_5_68 : decode prog_18_method_5_code 68 = .ok (.areturn, 1) := by decide +kernel
theorem d_prog_18_method_1_0 : decode prog_18_method_1_code 0 = .ok (.getstatic 13, 3) := by decide +kernel
theorem d_prog_18_method_1_3 : decode prog_18_method_1_code 3 = .ok (.invokevirtual 17, 3) := by decide +kernel
theorem d_prog_18_method_1_6 : decode prog_18_method_1_code 6 = .ok (.checkcast 18, 3) := by decide +kernel
theorem d_prog_18_method_1_9 : decode prog_18_method_1_code 9 = .ok (.areturn, 1) := by decide +kernel
theorem d_jdk_42_method_66_0 : decode jdk_42_method_66_code 0 = .ok (.aload_n 0, 1) := by decide +kernel
theorem d_jdk_42_method_66_1 : decode jdk_42_method_66_code 1 = .ok (.aload_n 1, 1) := by decide +kernel
theorem d_jdk_42_method_66_2 : decode jdk_42_method_66_code 2 = .ok (.if_acmp .ne 5, 3) := by decide +kernel
theorem d_jdk_42_method_66_5 : decode jdk_42_method_66_code 5 = .ok (.iconst 1, 1) := by decide +kernel
theorem d_jdk_42_method_66_6 : decode jdk_42_method_66_code 6 = .ok (.ireturn, 1) := by decide +kernel
theorem d_jdk_42_method_66_7 : decode jdk_42_method_66_code 7 = .ok (.aload_n 1, 1) := by decide +kernel
theorem d_jdk_42_method_66_8 : decode jdk_42_method_66_code 8 = .ok (.instanceof 10, 3) := by decide +kernel
theorem d_jdk_42_method_66_11 : decode jdk_42_method_66_code 11 = .ok (.ifCond .eq 43, 3) := by decide +kernel
theorem d_jdk_42_method_66_14 : decode jdk_42_method_66_code 14 = .ok (.aload_n 1, 1) := by decide +kernel
theorem d_jdk_42_method_66_15 : decode jdk_42_method_66_code 15 = .ok (.checkcast 10, 3) := by decide +kernel
theorem d_jdk_42_method_66_18 : decode jdk_42_method_66_code 18 = .ok (.astore_n 2, 1) := by decide +kernel
theorem d_jdk_42_method_66_19 : decode jdk_42_method_66_code 19 = .ok (.getstatic 38, 3) := by decide +kernel
theorem d_jdk_42_method_66_22 : decode jdk_42_method_66_code 22 = .ok (.ifCond .eq 14, 3) := by decide +kernel
theorem d_jdk_42_method_66_25 : decode jdk_42_method_66_code 25 = .ok (.aload_n 0, 1) := by decide +kernel
theorem d_jdk_42_method_66_26 : decode jdk_42_method_66_code 26 = .ok (.getfield 15, 3) := by decide +kernel
theorem d_jdk_42_method_66_29 : decode jdk_42_method_66_code 29 = .ok (.aload_n 2, 1) := by decide +kernel
theorem d_jdk_42_method_66_30 : decode jdk_42_method_66_code 30 = .ok (.getfield 15, 3) := by decide +kernel
theorem d_jdk_42_method_66_33 : decode jdk_42_method_66_code 33 = .ok (.if_icmp .ne 21, 3) := by decide +kernel
theorem d_jdk_42_method_66_36 : decode jdk_42_method_66_code 36 = .ok (.aload_n 0, 1) := by decide +kernel
theorem d_jdk_42_method_66_37 : decode jdk_42_method_66_code 37 = .ok (.getfield 9, 3) := by decide +kernel
theorem d_jdk_42_method_66_40 : decode jdk_42_method_66_code 40 = .ok (.aload_n 2, 1) := by decide +kernel
theorem d_jdk_42_method_66_41 : decode jdk_42_method_66_code 41 = .ok (.getfield 9, 3) := by decide +kernel
theorem d_jdk_42_method_66_44 : decode jdk_42_method_66_code 44 = .ok (.invokestatic 541, 3) := by decide +kernel
theorem d_jdk_42_method_66_47 : decode jdk_42_method_66_code 47 = .ok (.ifCond .eq 7, 3) := by decide +kernel
theorem d_jdk_42_method_66_50 : decode jdk_42_method_66_code 50 = .ok (.iconst 1, 1) := by decide +kernel
theorem d_jdk_42_method_66_51 : decode jdk_42_method_66_code 51 = .ok (.goto 4, 3) := by decide +kernel
theorem d_jdk_42_method_66_54 : decode jdk_42_method_66_code 54 = .ok (.iconst 0, 1) := by decide +kernel
theorem d_jdk_42_method_66_55 : decode jdk_42_method_66_code 55 = .ok (.ireturn, 1) := by decide +kernel
theorem d_jdk_42_method_3_0 : decode jdk_42_method_3_code 0 = .ok (.aload_n 0, 1) := by decide +kernel
theorem d_jdk_42_method_3_1 : decode jdk_42_method_3_code 1 = .ok (.aload_n 1, 1) := by decide +kernel
theorem d_jdk_42_method_3_2 : decode jdk_42_method_3_code 2 = .ok (.iconst 0, 1) := by decide +kernel
theorem d_jdk_42_method_3_3 : decode jdk_42_method_3_code 3 = .ok (.aload_n 1, 1) := by decide +kernel
theorem d_jdk_42_method_3_4 : decode jdk_42_method_3_code 4 = .ok (.arraylength, 1) := by decide +kernel
theorem d_jdk_42_method_3_5 : decode jdk_42_method_3_code 5 = .ok (.aconst_null, 1) := by decide +kernel
theorem d_jdk_42_method_3_6 : decode jdk_42_method_3_code 6 = .ok (.invokespecial 27, 3) := by decide +kernel
theorem d_jdk_42_method_3_9 : decode jdk_42_method_3_code 9 = .ok (.return_, 1) := by decide +kernel
theorem d_jdk_42_method_149_0 : decode jdk_42_method_149_code 0 = .ok (.aload_n 0, 1) := by decide +kernel
theorem d_jdk_42_method_149_1 : decode jdk_42_method_149_code 1 = .ok (.invokespecial 1, 3) := by decide +kernel
theorem d_jdk_42_method_149_4 : decode jdk_42_method_149_code 4 = .ok (.iload_n 3, 1) := by decide +kernel
theorem d_jdk_42_method_149_5 : decode jdk_42_method_149_code 5 = .ok (.ifCond .ne 22, 3) := by decide +kernel
theorem d_jdk_42_method_149_8 : decode jdk_42_method_149_code 8 = .ok (.aload_n 0, 1) := by decide +kernel
theorem d_jdk_42_method_149_9 : decode jdk_42_method_149_code 9 = .ok (.ldc 7, 2) := by decide +kernel
theorem d_jdk_42_method_149_11 : decode jdk_42_method_149_code 11 = .ok (.getfield 9, 3) := by decide +kernel
theorem d_jdk_42_method_149_14 : decode jdk_42_method_149_code 14 = .ok (.putfield 9, 3) := by decide +kernel
theorem d_jdk_42_method_149_17 : decode jdk_42_method_149_code 17 = .ok (.aload_n 0, 1) := by decide +kernel
theorem d_jdk_42_method_149_18 : decode jdk_42_method_149_code 18 = .ok (.ldc 7, 2) := by decide +kernel
theorem d_jdk_42_method_149_20 : decode jdk_42_method_149_code 20 = .ok (.getfield 15, 3) := by decide +kernel
theorem d_jdk_42_method_149_23 : decode jdk_42_method_149_code 23 = .ok (.putfield 15, 3) := by decide +kernel
theorem d_jdk_42_method_149_26 : decode jdk_42_method_149_code 26 = .ok (.return_, 1) := by decide +kernel
theorem d_jdk_42_method_149_27 : decode jdk_42_method_149_code 27 = .ok (.getstatic 38, 3) := by decide +kernel
theorem d_jdk_42_method_149_30 : decode jdk_42_method_149_code 30 = .ok (.ifCond .eq 28, 3) := by decide +kernel
theorem d_jdk_42_method_149_33 : decode jdk_42_method_149_code 33 = .ok (.aload_n 1, 1) := by decide +kernel
theorem d_jdk_42_method_149_34 : decode jdk_42_method_149_code 34 = .ok (.iload_n 2, 1) := by decide +kernel
theorem d_jdk_42_method_149_35 : decode jdk_42_method_149_code 35 = .ok (.iload_n 3, 1) := by decide +kernel
theorem d_jdk_42_method_149_36 : decode jdk_42_method_149_code 36 = .ok (.invokestatic 177, 3) := by decide +kernel
theorem d_jdk_42_method_149_39 : decode jdk_42_method_149_code 39 = .ok (.astore 5, 2) := by decide +kernel
theorem d_jdk_42_method_149_41 : decode jdk_42_method_149_code 41 = .ok (.aload_n 0, 1) := by decide +kernel
theorem d_jdk_42_method_149_42 : decode jdk_42_method_149_code 42 = .ok (.aload 5, 2) := by decide +kernel
theorem d_jdk_42_method_149_44 : decode jdk_42_method_149_code 44 = .ok (.iload_n 3, 1) := by decide +kernel
theorem d_jdk_42_method_149_45 : decode jdk_42_method_149_code 45 = .ok (.invokestatic 47, 3) := by decide +kernel
theorem d_jdk_42_method_149_48 : decode jdk_42_method_149_code 48 = .ok (.putfield 15, 3) := by decide +kernel
theorem d_jdk_42_method_149_51 : decode jdk_42_method_149_code 51 = .ok (.aload_n 0, 1) := by decide +kernel
theorem d_jdk_42_method_149_52 : decode jdk_42_method_149_code 52 = .ok (.aload 5, 2) := by decide +kernel
theorem d_jdk_42_method_149_54 : decode jdk_42_method_149_code 54 = .ok (.putfield 9, 3) := by decide +kernel
theorem d_jdk_42_method_149_57 : decode jdk_42_method_149_code 57 = .ok (.return_, 1) := by decide +kernel
theorem d_jdk_42_method_149_58 : decode jdk_42_method_149_code 58 = .ok (.aload_n 0, 1) := by decide +kernel
theorem d_jdk_42_method_149_59 : decode jdk_42_method_149_code 59 = .ok (.iconst 1, 1) := by decide +kernel
theorem d_jdk_42_method_149_60 : decode jdk_42_method_149_code 60 = .ok (.putfield 15, 3) := by decide +kernel
theorem d_jdk_42_method_149_63 : decode jdk_42_method_149_code 63 = .ok (.aload_n 0, 1) := by decide +kernel
theorem d_jdk_42_method_149_64 : decode jdk_42_method_149_code 64 = .ok (.aload_n 1, 1) := by decide +kernel
theorem d_jdk_42_method_149_65 : decode jdk_42_method_149_code 65 = .ok (.iload_n 2, 1) := by decide +kernel
theorem d_jdk_42_method_149_66 : decode jdk_42_method_149_code 66 = .ok (.iload_n 3, 1) := by decide +kernel
theorem d_jdk_42_method_149_67 : decode jdk_42_method_149_code 67 = .ok (.invokestatic 180, 3) := by decide +kernel
theorem d_jdk_42_method_149_70 : decode jdk_42_method_149_code 70 = .ok (.putfield 9, 3) := by decide +kernel
theorem d_jdk_42_method_149_73 : decode jdk_42_method_149_code 73 = .ok (.return_, 1) := by decide +kernel
theorem d_jdk_52_method_16_0 : decode jdk_52_method_16_code 0 = .ok (.iload_n 2, 1) := by decide +kernel
theorem d_jdk_52_method_16_1 : decode jdk_52_method_16_code 1 = .ok (.newarray .byte, 2) := by decide +kernel
theorem d_jdk_52_method_16_3 : decode jdk_52_method_16_code 3 = .ok (.astore_n 3, 1) := by decide +kernel
theorem d_jdk_52_method_16_4 : decode jdk_52_method_16_code 4 = .ok (.aload_n 0, 1) := by decide +kernel
theorem d_jdk_52_method_16_5 : decode jdk_52_method_16_code 5 = .ok (.iload_n 1, 1) := by decide +kernel
theorem d_jdk_52_method_16_6 : decode jdk_52_method_16_code 6 = .ok (.aload_n 3, 1) := by decide +kernel
theorem d_jdk_52_method_16_7 : decode jdk_52_method_16_code 7 = .ok (.iconst 0, 1) := by decide +kernel
theorem d_jdk_52_method_16_8 : decode jdk_52_method_16_code 8 = .ok (.iload_n 2, 1) := by decide +kernel
theorem d_jdk_52_method_16_9 : decode jdk_52_method_16_code 9 = .ok (.invokestatic 115, 3) := by decide +kernel
theorem d_jdk_52_method_16_12 : decode jdk_52_method_16_code 12 = .ok (.istore 4, 2) := by decide +kernel
theorem d_jdk_52_method_16_14 : decode jdk_52_method_16_code 14 = .ok (.iload 4, 2) := by decide +kernel
theorem d_jdk_52_method_16_16 : decode jdk_52_method_16_code 16 = .ok (.iload_n 2, 1) := by decide +kernel
theorem d_jdk_52_method_16_17 : decode jdk_52_method_16_code 17 = .ok (.if_icmp .eq 40, 3) := by decide +kernel
theorem d_jdk_52_method_16_20 : decode jdk_52_method_16_code 20 = .ok (.aload_n 0, 1) := by decide +kernel
theorem d_jdk_52_method_16_21 : decode jdk_52_method_16_code 21 = .ok (.iload_n 1, 1) := by decide +kernel
theorem d_jdk_52_method_16_22 : decode jdk_52_method_16_code 22 = .ok (.iload_n 2, 1) := by decide +kernel
theorem d_jdk_52_method_16_23 : decode jdk_52_method_16_code 23 = .ok (.invokestatic 119, 3) := by decide +kernel
theorem d_jdk_52_method_16_26 : decode jdk_52_method_16_code 26 = .ok (.astore 5, 2) := by decide +kernel
theorem d_jdk_52_method_16_28 : decode jdk_52_method_16_code 28 = .ok (.aload 5, 2) := by decide +kernel
theorem d_jdk_52_method_16_30 : decode jdk_52_method_16_code 30 = .ok (.iload 4, 2) := by decide +kernel
theorem d_jdk_52_method_16_32 : decode jdk_52_method_16_code 32 = .ok (.invokestatic 71, 3) := by decide +kernel
theorem d_jdk_52_method_16_35 : decode jdk_52_method_16_code 35 = .ok (.sipush 255, 3) := by decide +kernel
theorem d_jdk_52_method_16_38 : decode jdk_52_method_16_code 38 = .ok (.if_icmp .gt 16, 3) := by decide +kernel
theorem d_jdk_52_method_16_41 : decode jdk_52_method_16_code 41 = .ok (.aload 5, 2) := by decide +kernel
theorem d_jdk_52_method_16_43 : decode jdk_52_method_16_code 43 = .ok (.iconst 0, 1) := by decide +kernel
theorem d_jdk_52_method_16_44 : decode jdk_52_method_16_code 44 = .ok (.aload_n 3, 1) := by decide +kernel
theorem d_jdk_52_method_16_45 : decode jdk_52_method_16_code 45 = .ok (.iconst 0, 1) := by decide +kernel
theorem d_jdk_52_method_16_46 : decode jdk_52_method_16_code 46 = .ok (.iload_n 2, 1) := by decide +kernel
theorem d_jdk_52_method_16_47 : decode jdk_52_method_16_code 47 = .ok (.invokestatic 123, 3) := by decide +kernel
theorem d_jdk_52_method_16_50 : decode jdk_52_method_16_code 50 = .ok (.iload_n 2, 1) := by decide +kernel
theorem d_jdk_52_method_16_51 : decode jdk_52_method_16_code 51 = .ok (.if_icmp .eq 6, 3) := by decide +kernel
theorem d_jdk_52_method_16_54 : decode jdk_52_method_16_code 54 = .ok (.aload 5, 2) := by decide +kernel
theorem d_jdk_52_method_16_56 : decode jdk_52_method_16_code 56 = .ok (.areturn, 1) := by decide +kernel
theorem d_jdk_52_method_16_57 : decode jdk_52_method_16_code 57 = .ok (.aload_n 3, 1) := by decide +kernel
theorem d_jdk_52_method_16_58 : decode jdk_52_method_16_code 58 = .ok (.areturn, 1) := by decide +kernel
theorem d_jdk_52_method_21_0 : decode jdk_52_method_21_code 0 = .ok (.iconst 0, 1) := by decide +kernel
theorem d_jdk_52_method_21_1 : decode jdk_52_method_21_code 1 = .ok (.istore 5, 2) := by decide +kernel
theorem d_jdk_52_method_21_3 : decode jdk_52_method_21_code 3 = .ok (.iload 5, 2) := by decide +kernel
theorem d_jdk_52_method_21_5 : decode jdk_52_method_21_code 5 = .ok (.iload 4, 2) := by decide +kernel
theorem d_jdk_52_method_21_7 : decode jdk_52_method_21_code 7 = .ok (.if_icmp .ge 37, 3) := by decide +kernel
theorem d_jdk_52_method_21_10 : decode jdk_52_method_21_code 10 = .ok (.aload_n 0, 1) := by decide +kernel
theorem d_jdk_52_method_21_11 : decode jdk_52_method_21_code 11 = .ok (.iload_n 1, 1) := by decide +kernel
theorem d_jdk_52_method_21_12 : decode jdk_52_method_21_code 12 = .ok (.caload, 1) := by decide +kernel
theorem d_jdk_52_method_21_13 : decode jdk_52_method_21_code 13 = .ok (.istore 6, 2) := by decide +kernel
theorem d_jdk_52_method_21_15 : decode jdk_52_method_21_code 15 = .ok (.iload 6, 2) := by decide +kernel
theorem d_jdk_52_method_21_17 : decode jdk_52_method_21_code 17 = .ok (.sipush 255, 3) := by decide +kernel
theorem d_jdk_52_method_21_20 : decode jdk_52_method_21_code 20 = .ok (.if_icmp .le 6, 3) := by decide +kernel
theorem d_jdk_52_method_21_23 : decode jdk_52_method_21_code 23 = .ok (.iload 5, 2) := by decide +kernel
theorem d_jdk_52_method_21_25 : decode jdk_52_method_21_code 25 = .ok (.ireturn, 1) := by decide +kernel
theorem d_jdk_52_method_21_26 : decode jdk_52_method_21_code 26 = .ok (.aload_n 2, 1) := by decide +kernel
theorem d_jdk_52_method_21_27 : decode jdk_52_method_21_code 27 = .ok (.iload_n 3, 1) := by decide +kernel
theorem d_jdk_52_method_21_28 : decode jdk_52_method_21_code 28 = .ok (.iload 6, 2) := by decide +kernel
theorem d_jdk_52_method_21_30 : decode jdk_52_method_21_code 30 = .ok (.i2b, 1) := by decide +kernel
theorem d_jdk_52_method_21_31 : decode jdk_52_method_21_code 31 = .ok (.bastore, 1) := by decide +kernel
theorem d_jdk_52_method_21_32 : decode jdk_52_method_21_code 32 = .ok (.iinc 1 1, 3) := by decide +kernel
theorem d_jdk_52_method_21_35 : decode jdk_52_method_21_code 35 = .ok (.iinc 3 1, 3) := by decide +kernel
theorem d_jdk_52_method_21_38 : decode jdk_52_method_21_code 38 = .ok (.iinc 5 1, 3) := by decide +kernel
theorem d_jdk_52_method_21_41 : decode jdk_52_method_21_code 41 = .ok (.goto (-38), 3) := by decide +kernel
theorem d_jdk_52_method_21_44 : decode jdk_52_method_21_code 44 = .ok (.iload 4, 2) := by decide +kernel
theorem d_jdk_52_method_21_46 : decode jdk_52_method_21_code 46 = .ok (.ireturn, 1) := by decide +kernel
theorem d_jdk_52_method_15_0 : decode jdk_52_method_15_code 0 = .ok (.iload_n 1, 1) := by decide +kernel
theorem d_jdk_52_method_15_1 : decode jdk_52_method_15_code 1 = .ok (.aload_n 0, 1) := by decide +kernel
theorem d_jdk_52_method_15_2 : decode jdk_52_method_15_code 2 = .ok (.arraylength, 1) := by decide +kernel
theorem d_jdk_52_method_15_3 : decode jdk_52_method_15_code 3 = .ok (.isub, 1) := by decide +kernel
theorem d_jdk_52_method_15_4 : decode jdk_52_method_15_code 4 = .ok (.bipush 31, 2) := by decide +kernel
theorem d_jdk_52_method_15_6 : decode jdk_52_method_15_code 6 = .ok (.iushr, 1) := by decide +kernel
theorem d_jdk_52_method_15_7 : decode jdk_52_method_15_code 7 = .ok (.i2b, 1) := by decide +kernel
theorem d_jdk_52_method_15_8 : decode jdk_52_method_15_code 8 = .ok (.ireturn, 1) := by decide +kernel
theorem d_jdk_43_method_13_0 : decode jdk_43_method_13_code 0 = .ok (.aload_n 0, 1) := by decide +kernel
theorem d_jdk_43_method_13_1 : decode jdk_43_method_13_code 1 = .ok (.arraylength, 1) := by decide +kernel
theorem d_jdk_43_method_13_2 : decode jdk_43_method_13_code 2 = .ok (.aload_n 1, 1) := by decide +kernel
theorem d_jdk_43_method_13_3 : decode jdk_43_method_13_code 3 = .ok (.arraylength, 1) := by decide +kernel
theorem d_jdk_43_method_13_4 : decode jdk_43_method_13_code 4 = .ok (.if_icmp .ne 30, 3) := by decide +kernel
theorem d_jdk_43_method_13_7 : decode jdk_43_method_13_code 7 = .ok (.iconst 0, 1) := by decide +kernel
theorem d_jdk_43_method_13_8 : decode jdk_43_method_13_code 8 = .ok (.istore_n 2, 1) := by decide +kernel
theorem d_jdk_43_method_13_9 : decode jdk_43_method_13_code 9 = .ok (.iload_n 2, 1) := by decide +kernel
theorem d_jdk_43_method_13_10 : decode jdk_43_method_13_code 10 = .ok (.aload_n 0, 1) := by decide +kernel
theorem d_jdk_43_method_13_11 : decode jdk_43_method_13_code 11 = .ok (.arraylength, 1) := by decide +kernel
theorem d_jdk_43_method_13_12 : decode jdk_43_method_13_code 12 = .ok (.if_icmp .ge 20, 3) := by decide +kernel
theorem d_jdk_43_method_13_15 : decode jdk_43_method_13_code 15 = .ok (.aload_n 0, 1) := by decide +kernel
theorem d_jdk_43_method_13_16 : decode jdk_43_method_13_code 16 = .ok (.iload_n 2, 1) := by decide +kernel
theorem d_jdk_43_method_13_17 : decode jdk_43_method_13_code 17 = .ok (.baload, 1) := by decide +kernel
theorem d_jdk_43_method_13_18 : decode jdk_43_method_13_code 18 = .ok (.aload_n 1, 1) := by decide +kernel
theorem d_jdk_43_method_13_19 : decode jdk_43_method_13_code 19 = .ok (.iload_n 2, 1) := by decide +kernel
theorem d_jdk_43_method_13_20 : decode jdk_43_method_13_code 20 = .ok (.baload, 1) := by decide +kernel
theorem d_jdk_43_method_13_21 : decode jdk_43_method_13_code 21 = .ok (.if_icmp .eq 5, 3) := by decide +kernel
theorem d_jdk_43_method_13_24 : decode jdk_43_method_13_code 24 = .ok (.iconst 0, 1) := by decide +kernel
theorem d_jdk_43_method_13_25 : decode jdk_43_method_13_code 25 = .ok (.ireturn, 1) := by decide +kernel
theorem d_jdk_43_method_13_26 : decode jdk_43_method_13_code 26 = .ok (.iinc 2 1, 3) := by decide +kernel
theorem d_jdk_43_method_13_29 : decode jdk_43_method_13_code 29 = .ok (.goto (-20), 3) := by decide +kernel
theorem d_jdk_43_method_13_32 : decode jdk_43_method_13_code 32 = .ok (.iconst 1, 1) := by decide +kernel
theorem d_jdk_43_method_13_33 : decode jdk_43_method_13_code 33 = .ok (.ireturn, 1) := by decide +kernel
theorem d_jdk_43_method_13_34 : decode jdk_43_method_13_code 34 = .ok (.iconst 0, 1) := by decide +kernel
theorem d_jdk_43_method_13_35 : decode jdk_43_method_13_code 35 = .ok (.ireturn, 1) := by decide +kernel
theorem d_prog_18_method_4_0 : decode prog_18_method_4_code 0 = .ok (.aload_n 0, 1) := by decide +kernel
theorem d_prog_18_method_4_1 : decode prog_18_method_4_code 1 = .ok (.getfield 32, 3) := by decide +kernel
theorem d_prog_18_method_4_4 : decode prog_18_method_4_code 4 = .ok (.areturn, 1) := by decide +kernel
theorem pn_com_example_vervet_vervet_endpoints_Disabled_Reason : plainName "com/example/vervet/vervet/endpoints/Disabled$Reason" = true := by first | (simp [plainName, overriddenIn]; done) | decide +kernel
theorem pd__Ljava_lang_String__Lcom_example_vervet_vervet_endpoints_Disabled_Reason_ : parseMethodDescriptor "(Ljava/lang/String;)Lcom/example/vervet/vervet/endpoints/Disabled$Reason;" = some ⟨[(.object "java/lang/String")], some (.object "com/example/vervet/vervet/endpoints/Disabled$Reason")⟩ := by decide +kernel
theorem pd____Lcom_example_vervet_vervet_endpoints_Disabled_Reason_ : parseMethodDescriptor "()[Lcom/example/vervet/vervet/endpoints/Disabled$Reason;" = some ⟨[], some (.array (.object "com/example/vervet/vervet/endpoints/Disabled$Reason"))⟩ := by decide +kernel
theorem pd__Ljava_lang_Object__Z : parseMethodDescriptor "(Ljava/lang/Object;)Z" = some ⟨[(.object "java/lang/Object")], some .boolean⟩ := by decide +kernel
theorem pd___Ljava_lang_Object_ : parseMethodDescriptor "()Ljava/lang/Object;" = some ⟨[], some (.object "java/lang/Object")⟩ := by decide +kernel
theorem pn_java_lang_String : plainName "java/lang/String" = true := by first | (simp [plainName, overriddenIn]; done) | decide +kernel
theorem pd___B_B_Z : parseMethodDescriptor "([B[B)Z" = some ⟨[(.array .byte), (.array .byte)], some .boolean⟩ := by decide +kernel
theorem pd___C_V : parseMethodDescriptor "([C)V" = some ⟨[(.array .char)], none⟩ := by decide +kernel
theorem pd___CIILjava_lang_Void__V : parseMethodDescriptor "([CIILjava/lang/Void;)V" = some ⟨[(.array .char), .int, .int, (.object "java/lang/Void")], none⟩ := by decide +kernel
theorem pd___V : parseMethodDescriptor "()V" = some ⟨[], none⟩ := by decide +kernel
theorem pd___CII__B : parseMethodDescriptor "([CII)[B" = some ⟨[(.array .char), .int, .int], some (.array .byte)⟩ := by decide +kernel
theorem pd___BI_B : parseMethodDescriptor "([BI)B" = some ⟨[(.array .byte), .int], some .byte⟩ := by decide +kernel
theorem pn_java_lang_StringUTF16 : plainName "java/lang/StringUTF16" = true := by first | (simp [plainName, overriddenIn]; done) | decide +kernel
theorem pd___CI_BII_I : parseMethodDescriptor "([CI[BII)I" = some ⟨[(.array .char), .int, (.array .byte), .int, .int], some .int⟩ := by decide +kernel
theorem pn_java_lang_StringLatin1 : plainName "java/lang/StringLatin1" = true := by first | (simp [plainName, overriddenIn]; done) | decide +kernel
theorem pd___Ljava_lang_String_ : parseMethodDescriptor "()Ljava/lang/String;" = some ⟨[], some (.object "java/lang/String")⟩ := by decide +kernel
theorem pn_com_example_vervet_vervet_endpoints_ReasonOfPinLaw : plainName "com/example/vervet/vervet/endpoints/ReasonOfPinLaw" = true := by first | (simp [plainName, overriddenIn]; done) | decide +kernel
theorem pd__I_Z : parseMethodDescriptor "(I)Z" = some ⟨[.int], some .boolean⟩ := by decide +kernel
theorem own_len {args : Array Value} {s : State} {t : Term} {a : Addr} {c : Cell} {ty : FieldType} {n : Int32} (A : Arr s s.heap a c ty) (et : t.eval args s none [] s = some (.ref a)) (h : (Jvm.Cond.eq (Term.length t) (Term.int n)).value args s none s [] = some true) : c.slots.size < 2 ^ 31 ∧ c.slots.size.toInt32 = n := by
  have e := eqv_i (Term.int_eval n) h
  by_cases q : c.slots.size < 2 ^ 31
  · rw [len_f et (A.fin (Vm.Alike.refl _)) q] at e
    exact ⟨q, by simpa using e⟩
  · simp [Term.eval, et, A.fin (Vm.Alike.refl _), q] at e

theorem own_words : ∀ d ∈ StrChars.Road.words, d ∈ tables_1 := by decide +kernel
def StrIs (Z : State) (h : Heap) (b : Addr) (cs : List Int32) : Prop := ∃ (t : Addr) (kb : ClassId), Exa Z h b "java/lang/String" ∧ Fld Z h b "java/lang/String" "coder" "B" (.int 0) ∧ Fld Z h b "java/lang/String" "value" "[B" (.ref t) ∧ Arv Z h t kb .byte (Int32.ofNat cs.length) ((cs.map fun c => c.toInt8.toInt32).map Value.int) (.int 0) ∧ (∀ c ∈ cs, ¬ c < 0 ∧ ¬ 255 < c) ∧ cs.length ≤ 4000
theorem StrIs.keep {Z : State} {h h' : Heap} {b : Addr} {cs : List Int32} (F : StrIs Z h b cs) (K : Keep h h' []) : StrIs Z h' b cs := by
  obtain ⟨t, kb, q1, q2, q3, q4, r⟩ := F
  exact ⟨t, kb, q1.keep K, q2.keep K nin0, q3.keep K nin0, q4.keep K nin0, r⟩
theorem StrIs.ext {Z : State} {h h' : Heap} {b : Addr} {cs : List Int32} (F : StrIs Z h b cs) (K : Ext h h') : StrIs Z h' b cs := F.keep ((Keep.refl h []).ext K)
theorem StrIs.exa {Z : State} {h : Heap} {b : Addr} {cs : List Int32} (F : StrIs Z h b cs) : Exa Z h b "java/lang/String" := by obtain ⟨t, kb, q, -⟩ := F; exact q
theorem own_up {cs : List Int32} (h : ∀ c ∈ cs, ¬ c < 0 ∧ ¬ (255 : Int32) < c) : ∀ c ∈ cs, ¬ c < 0 ∧ ¬ (65535 : Int32) < c := fun c hc => by
  have q := h c hc
  simp only [Int32.lt_iff_toInt_lt, Int32.reduceToInt] at *; omega
theorem own_eqv {v : Option Value} {P : Prop} [Decidable P] (h : (v = some (.int 1) ∧ P) ∨ (v = some (.int 0) ∧ ¬ P)) : v = some (.int (bi (decide P))) := by
  rcases h with ⟨h, q⟩ | ⟨h, q⟩
  · rw [h, decide_eq_true q]; rfl
  · rw [h, decide_eq_false q]; rfl
theorem own_eqr {args : Array Value} {Z : State} {X F : Term} {idx : List Nat} {y : Addr} (hF : F.eval args Z none idx Z = some (.ref y)) (h : (Jvm.Cond.eq X F).value args Z none Z idx = some true) : X.eval args Z none idx Z = some (.ref y) := by
  cases hX : X.eval args Z none idx Z with
  | none => simp [Cond.value, hX] at h
  | some x => cases x <;> simp [Cond.value, hX, hF] at h ⊢ <;> exact h
theorem own_wordsEq : ∀ d ∈ StrChars.Road.wordsEq, d ∈ tables_1 := by decide +kernel
theorem own_eqB {p : Program} {l : Launch} {e : Env} {R : Room} {s' : State} {args : Array Value} {below : List Frame} {Z : State} {a0 : Array Value} {h : Heap} {V : Nat} {x y : Addr} {cs ds : List Int32} {cz : Int32} (hw : ∀ d ∈ tables_1, d.before a0 Z = true) (F : StrIs Z h x cs) (G : StrIs Z h y ds) (S : Sta Z h "java/lang/String" "COMPACT_STRINGS" "Z" (.int cz)) (hz : ¬ cz = 0) (wi : (Jvm.Cond.instantiable "java/lang/String" 4).before a0 Z = true) (hfr : 2 ≤ R.frames) (hlo : V + 28 ≤ R.locals) (hZ : Z.Warmed39 s'.vm) :
    Back l R p e below s' args (⟨"java/lang/String", "equals", "(Ljava/lang/Object;)Z"⟩ : MethodName) 3 V (fun P a => a = (.ref x :: [.ref y] : List Value).toArray ∧ P.U.heap = h ∧ P.cells + 0 ≤ R.cells ∧ P.slots + 0 ≤ R.slots)
      (fun P _ v B => ∃ L, (v = some (.int (bi (decide (cs = ds)))) ∧ L = [] ∧ h = B.U.heap) ∧ B.locs = P.locs ++ L ∧ B.cells = P.cells + 0 ∧ B.slots = P.slots + 0) := by
  obtain ⟨t, kb, E1, C1, V1, A1, p1, l1⟩ := F
  obtain ⟨u, kd, E2, C2, V2, A2, p2, l2⟩ := G
  refine Back.mono (StrChars.Road.eqW hZ (fun d hd => hw d (own_wordsEq d hd)) wi E1 V1 C1 A1 (StrChars.Road.codOf rfl fun c hc => (p1 c hc).2) (own_up p1) l1 E2 V2 C2 A2 (StrChars.Road.codOf rfl fun c hc => (p2 c hc).2) (own_up p2) l2 S hz hfr hlo) (fun P a hp => hp) (fun P a v B hp hq => ?_)
  obtain ⟨L, ⟨q1, q2, q3⟩, r⟩ := hq
  exact ⟨L, ⟨own_eqv q1, q2, q3.symm⟩, r⟩
theorem ef_values (m : MethodId) (e_REQUESTED : Addr) (e_RETRIES_EXHAUSTED : Addr) (e_GONE : Addr) (t_REQUESTED : Addr) (t_RETRIES_EXHAUSTED : Addr) (t_GONE : Addr) (va : Addr) (vc : Cell) : entryFrame m #[] 0 = mkF m 0 #[] [] := by first | (simp [entryFrame, mkF, argsToLocals, Value.category]; done) | rfl
def Q_values (Z : State) (e_REQUESTED : Addr) (e_RETRIES_EXHAUSTED : Addr) (e_GONE : Addr) (t_REQUESTED : Addr) (t_RETRIES_EXHAUSTED : Addr) (t_GONE : Addr) (va : Addr) (vc : Cell) (h0 : Heap) (v : Option Value) (h : Heap) : Prop := ∃ b, v = some (.ref b) ∧ Keep h0 h [] ∧ Arr Z h b (cloneOf vc) (.object "com/example/vervet/vervet/endpoints/Disabled$Reason")
set_option maxRecDepth 65536 in
set_option maxHeartbeats 40000000 in
theorem c_values (l : Launch) (Z : State) (a0 : Array Value) (hw : ∀ d ∈ tables_1, d.before a0 Z = true) (e_REQUESTED : Addr) (e_RETRIES_EXHAUSTED : Addr) (e_GONE : Addr) (t_REQUESTED : Addr) (t_RETRIES_EXHAUSTED : Addr) (t_GONE : Addr) (va : Addr) (vc : Cell) (h0 : Heap) (S_REQUESTED : Sta Z Z.heap "com/example/vervet/vervet/endpoints/Disabled$Reason" "REQUESTED" "Lcom/example/vervet/vervet/endpoints/Disabled$Reason;" (.ref e_REQUESTED)) (E_REQUESTED : Exa Z Z.heap e_REQUESTED "com/example/vervet/vervet/endpoints/Disabled$Reason") (F_REQUESTED : Fld Z Z.heap e_REQUESTED "com/example/vervet/vervet/endpoints/Disabled$Reason" "text" "Ljava/lang/String;" (.ref t_REQUESTED)) (X_REQUESTED : StrIs Z Z.heap t_REQUESTED [114, 101, 113, 117, 101, 115, 116, 101, 100]) (S_RETRIES_EXHAUSTED : Sta Z Z.heap "com/example/vervet/vervet/endpoints/Disabled$Reason" "RETRIES_EXHAUSTED" "Lcom/example/vervet/vervet/endpoints/Disabled$Reason;" (.ref e_RETRIES_EXHAUSTED)) (E_RETRIES_EXHAUSTED : Exa Z Z.heap e_RETRIES_EXHAUSTED "com/example/vervet/vervet/endpoints/Disabled$Reason") (F_RETRIES_EXHAUSTED : Fld Z Z.heap e_RETRIES_EXHAUSTED "com/example/vervet/vervet/endpoints/Disabled$Reason" "text" "Ljava/lang/String;" (.ref t_RETRIES_EXHAUSTED)) (X_RETRIES_EXHAUSTED : StrIs Z Z.heap t_RETRIES_EXHAUSTED [114, 101, 116, 114, 105, 101, 115, 32, 101, 120, 104, 97, 117, 115, 116, 101, 100]) (S_GONE : Sta Z Z.heap "com/example/vervet/vervet/endpoints/Disabled$Reason" "GONE" "Lcom/example/vervet/vervet/endpoints/Disabled$Reason;" (.ref e_GONE)) (E_GONE : Exa Z Z.heap e_GONE "com/example/vervet/vervet/endpoints/Disabled$Reason") (F_GONE : Fld Z Z.heap e_GONE "com/example/vervet/vervet/endpoints/Disabled$Reason" "text" "Ljava/lang/String;" (.ref t_GONE)) (X_GONE : StrIs Z Z.heap t_GONE [103, 111, 110, 101]) (Sva : Sta Z Z.heap "com/example/vervet/vervet/endpoints/Disabled$Reason" "$VALUES" "[Lcom/example/vervet/vervet/endpoints/Disabled$Reason;" (.ref va)) (Ava : Arr Z Z.heap va vc (.object "com/example/vervet/vervet/endpoints/Disabled$Reason")) (Eva : Exa Z Z.heap va "[Lcom/example/vervet/vervet/endpoints/Disabled$Reason;") (Fva : FitC Z vc) (nva : vc.slots.size = 3) (lva : vc.slots.size.toInt32 = 3) (v_0 : vc.slots[0]? = some (.ref e_REQUESTED)) (v_1 : vc.slots[1]? = some (.ref e_RETRIES_EXHAUSTED)) (v_2 : vc.slots[2]? = some (.ref e_GONE)) :
    Con l Z (⟨"com/example/vervet/vervet/endpoints/Disabled$Reason", "values", "()[Lcom/example/vervet/vervet/endpoints/Disabled$Reason;"⟩ : MethodName) prog_18_method_1_code 0 (Option.some (FieldType.array (FieldType.object "com/example/vervet/vervet/endpoints/Disabled$Reason"))) [] ({ frames := 1, cells := 1, slots := 3, locals := 16 } : Room) #[] h0 (Q_values Z e_REQUESTED e_RETRIES_EXHAUSTED e_GONE t_REQUESTED t_RETRIES_EXHAUSTED t_GONE va vc h0) := by
  refine Con.of (plainFor_of_name pn_com_example_vervet_vervet_endpoints_Disabled_Reason) ?_
  intro p e s m below meth c T0 B W0
  refine Go.cast (ef_values m e_REQUESTED e_RETRIES_EXHAUSTED e_GONE t_REQUESTED t_RETRIES_EXHAUSTED t_GONE va vc) ?_
  obtain ⟨T101, W101, st101⟩ := x_gets B W0 (host := "") (d_prog_18_method_1_0) (Or.inl (tw hw 8 rfl)) Via.refl Sva #[] []
  refine st101 _ ?_
  obtain ⟨T102, h102, b102, gb102, W102, K102, A102, E102, st102⟩ := x_clone B W101 3 (d_prog_18_method_1_3) (tw hw 10 rfl) (tw hw 11 rfl) (tw hw 15 rfl) (tw hw 13 rfl) (tw hw 14 rfl) (tw hw 16 rfl) (Ava.ext W101.old.2) (Eva.ext W101.old.2) Fva #[] [] rfl 0 rfl (by decide) (by decide) (Nat.le_of_eq nva) (by decide) (by decide)
  refine st102 _ ?_
  have s103 := K102.1
  obtain ⟨T104, W104, st104⟩ := x_castY B W102 (d_prog_18_method_1_6) (tw hw 21 rfl) (Ins.self E102) #[] []
  refine st104 _ ?_
  exact r_a B W104 rfl rfl rfl (d_prog_18_method_1_9) (by decide) (by decide) ⟨_, rfl, ((Keep.refl h0 []).trans K102 all0), A102⟩
theorem ef_text (m : MethodId) (a1 : Addr) (t1 : Addr) : entryFrame m #[(.ref a1)] 1 = mkF m 0 #[.val (.ref a1)] [] := by first | (simp [entryFrame, mkF, argsToLocals, Value.category]; done) | rfl
def Q_text (Z : State) (a1 : Addr) (t1 : Addr) (h0 : Heap) (v : Option Value) (h : Heap) : Prop := v = some (.ref t1) ∧ h0 = h
set_option maxRecDepth 65536 in
set_option maxHeartbeats 40000000 in
theorem c_text (l : Launch) (Z : State) (a0 : Array Value) (hw : ∀ d ∈ tables_1, d.before a0 Z = true) (a1 : Addr) (t1 : Addr) (h0 : Heap) (F1 : Fld Z h0 a1 "com/example/vervet/vervet/endpoints/Disabled$Reason" "text" "Ljava/lang/String;" (.ref t1)) :
    Con l Z (⟨"com/example/vervet/vervet/endpoints/Disabled$Reason", "text", "()Ljava/lang/String;"⟩ : MethodName) prog_18_method_4_code 1 (Option.some (FieldType.object "java/lang/String")) [] ({ frames := 0, cells := 0, slots := 0, locals := 0 } : Room) #[(.ref a1)] h0 (Q_text Z a1 t1 h0) := by
  refine Con.of (plainFor_of_name pn_com_example_vervet_vervet_endpoints_Disabled_Reason) ?_
  intro p e s m below meth c T0 B W0
  refine Go.cast (ef_text m a1 t1) ?_
  refine g_aload_n B W0 (d_prog_18_method_4_0) rfl rfl ?_
  obtain ⟨T101, W101, st101⟩ := x_get B W0 (host := "") (d_prog_18_method_4_1) (Or.inl (tw hw 23 rfl)) Via.refl F1 #[.val (.ref a1)] []
  refine st101 _ ?_
  exact r_a B W101 rfl rfl rfl (d_prog_18_method_4_4) (by decide) (by decide) ⟨rfl, rfl⟩
theorem ef_eqNull (m : MethodId) (a1 : Addr) : entryFrame m #[(.ref a1), .null] 3 = mkF m 0 #[.val (.ref a1), .val .null, .unset] [] := by first | (simp [entryFrame, mkF, argsToLocals, Value.category]; done) | rfl
def Q_eqNull (Z : State) (a1 : Addr) (h0 : Heap) (v : Option Value) (h : Heap) : Prop := v = some (.int 0) ∧ h0 = h
set_option maxRecDepth 65536 in
set_option maxHeartbeats 40000000 in
theorem c_eqNull (l : Launch) (Z : State) (a0 : Array Value) (hw : ∀ d ∈ tables_1, d.before a0 Z = true) (a1 : Addr) (h0 : Heap) :
    Con l Z (⟨"java/lang/String", "equals", "(Ljava/lang/Object;)Z"⟩ : MethodName) jdk_42_method_66_code 3 (Option.some FieldType.boolean) [] ({ frames := 0, cells := 0, slots := 0, locals := 0 } : Room) #[(.ref a1), .null] h0 (Q_eqNull Z a1 h0) := by
  refine Con.of (plainFor_of_name pn_java_lang_String) ?_
  intro p e s m below meth c T0 B W0
  refine Go.cast (ef_eqNull m a1) ?_
  refine g_aload_n B W0 (d_jdk_42_method_66_0) rfl rfl ?_
  refine g_aload_n B W0 (d_jdk_42_method_66_1) rfl rfl ?_
  refine g_acmp_y B W0 (d_jdk_42_method_66_2) rfl rfl (XT.aa_ne_t (by intro q; cases q)) (pc' := 7) (by decide) ?_
  show Go p.tables e below _ T0 (mkF m 7 #[.val (.ref a1), .val .null, .unset] [])
  refine g_aload_n B W0 (d_jdk_42_method_66_7) rfl rfl ?_
  refine g_instNull B W0 (d_jdk_42_method_66_8)  ?_
  refine g_if_y B W0 (d_jdk_42_method_66_11) (XT.i0_eq_t rfl) (pc' := 54) (by decide) ?_
  show Go p.tables e below _ T0 (mkF m 54 #[.val (.ref a1), .val .null, .unset] [])
  refine g_iconst B W0 (d_jdk_42_method_66_54) (v := 0) (by decide) ?_
  exact r_n B W0 (t := .boolean) rfl (by simp) (d_jdk_42_method_66_55) (by decide) (by decide) ⟨by rw [nar_b0], rfl⟩
theorem ef_of_REQUESTED (m : MethodId) (a1 : Addr) (cz : Int32) (e_REQUESTED : Addr) (e_RETRIES_EXHAUSTED : Addr) (e_GONE : Addr) (t_REQUESTED : Addr) (t_RETRIES_EXHAUSTED : Addr) (t_GONE : Addr) (va : Addr) (vc : Cell) : entryFrame m #[(.ref a1)] 6 = mkF m 0 #[.val (.ref a1), .unset, .unset, .unset, .unset, .unset] [] := by first | (simp [entryFrame, mkF, argsToLocals, Value.category]; done) | rfl
def Q_of_REQUESTED (Z : State) (a1 : Addr) (cz : Int32) (e_REQUESTED : Addr) (e_RETRIES_EXHAUSTED : Addr) (e_GONE : Addr) (t_REQUESTED : Addr) (t_RETRIES_EXHAUSTED : Addr) (t_GONE : Addr) (va : Addr) (vc : Cell) (h0 : Heap) (v : Option Value) (h : Heap) : Prop := v = some (.ref e_REQUESTED) ∧ Keep h0 h []
set_option maxRecDepth 65536 in
set_option maxHeartbeats 40000000 in
theorem c_of_REQUESTED (l : Launch) (Z : State) (a0 : Array Value) (hw : ∀ d ∈ tables_1, d.before a0 Z = true) (a1 : Addr) (cz : Int32) (e_REQUESTED : Addr) (e_RETRIES_EXHAUSTED : Addr) (e_GONE : Addr) (t_REQUESTED : Addr) (t_RETRIES_EXHAUSTED : Addr) (t_GONE : Addr) (va : Addr) (vc : Cell) (h0 : Heap) (Scs : Sta Z Z.heap "java/lang/String" "COMPACT_STRINGS" "Z" (.int cz)) (hcz : ¬ cz = 0) (X1 : StrIs Z h0 a1 [114, 101, 113, 117, 101, 115, 116, 101, 100]) (S_REQUESTED : Sta Z Z.heap "com/example/vervet/vervet/endpoints/Disabled$Reason" "REQUESTED" "Lcom/example/vervet/vervet/endpoints/Disabled$Reason;" (.ref e_REQUESTED)) (E_REQUESTED : Exa Z Z.heap e_REQUESTED "com/example/vervet/vervet/endpoints/Disabled$Reason") (F_REQUESTED : Fld Z Z.heap e_REQUESTED "com/example/vervet/vervet/endpoints/Disabled$Reason" "text" "Ljava/lang/String;" (.ref t_REQUESTED)) (X_REQUESTED : StrIs Z Z.heap t_REQUESTED [114, 101, 113, 117, 101, 115, 116, 101, 100]) (S_RETRIES_EXHAUSTED : Sta Z Z.heap "com/example/vervet/vervet/endpoints/Disabled$Reason" "RETRIES_EXHAUSTED" "Lcom/example/vervet/vervet/endpoints/Disabled$Reason;" (.ref e_RETRIES_EXHAUSTED)) (E_RETRIES_EXHAUSTED : Exa Z Z.heap e_RETRIES_EXHAUSTED "com/example/vervet/vervet/endpoints/Disabled$Reason") (F_RETRIES_EXHAUSTED : Fld Z Z.heap e_RETRIES_EXHAUSTED "com/example/vervet/vervet/endpoints/Disabled$Reason" "text" "Ljava/lang/String;" (.ref t_RETRIES_EXHAUSTED)) (X_RETRIES_EXHAUSTED : StrIs Z Z.heap t_RETRIES_EXHAUSTED [114, 101, 116, 114, 105, 101, 115, 32, 101, 120, 104, 97, 117, 115, 116, 101, 100]) (S_GONE : Sta Z Z.heap "com/example/vervet/vervet/endpoints/Disabled$Reason" "GONE" "Lcom/example/vervet/vervet/endpoints/Disabled$Reason;" (.ref e_GONE)) (E_GONE : Exa Z Z.heap e_GONE "com/example/vervet/vervet/endpoints/Disabled$Reason") (F_GONE : Fld Z Z.heap e_GONE "com/example/vervet/vervet/endpoints/Disabled$Reason" "text" "Ljava/lang/String;" (.ref t_GONE)) (X_GONE : StrIs Z Z.heap t_GONE [103, 111, 110, 101]) (Sva : Sta Z Z.heap "com/example/vervet/vervet/endpoints/Disabled$Reason" "$VALUES" "[Lcom/example/vervet/vervet/endpoints/Disabled$Reason;" (.ref va)) (Ava : Arr Z Z.heap va vc (.object "com/example/vervet/vervet/endpoints/Disabled$Reason")) (Eva : Exa Z Z.heap va "[Lcom/example/vervet/vervet/endpoints/Disabled$Reason;") (Fva : FitC Z vc) (nva : vc.slots.size = 3) (lva : vc.slots.size.toInt32 = 3) (v_0 : vc.slots[0]? = some (.ref e_REQUESTED)) (v_1 : vc.slots[1]? = some (.ref e_RETRIES_EXHAUSTED)) (v_2 : vc.slots[2]? = some (.ref e_GONE)) :
    Con l Z (⟨"com/example/vervet/vervet/endpoints/Disabled$Reason", "of", "(Ljava/lang/String;)Lcom/example/vervet/vervet/endpoints/Disabled$Reason;"⟩ : MethodName) prog_18_method_5_code 6 (Option.some (FieldType.object "com/example/vervet/vervet/endpoints/Disabled$Reason")) [] ({ frames := 3, cells := 1, slots := 3, locals := 40 } : Room) #[(.ref a1)] h0 (Q_of_REQUESTED Z a1 cz e_REQUESTED e_RETRIES_EXHAUSTED e_GONE t_REQUESTED t_RETRIES_EXHAUSTED t_GONE va vc h0) := by
  refine Con.of (plainFor_of_name pn_com_example_vervet_vervet_endpoints_Disabled_Reason) ?_
  intro p e s m below meth c T0 B W0
  refine Go.cast (ef_of_REQUESTED m a1 cz e_REQUESTED e_RETRIES_EXHAUSTED e_GONE t_REQUESTED t_RETRIES_EXHAUSTED t_GONE va vc) ?_
  refine g_aconst_null B W0 (d_prog_18_method_5_0)  ?_
  refine g_astore_n B W0 (d_prog_18_method_5_1) rfl (l' := #[.val (.ref a1), .val .null, .unset, .unset, .unset, .unset]) rfl ?_
  obtain ⟨T101, h101, v101, W101, Q101, st101⟩ := x_static B W0 [] (c_values l Z a0 hw e_REQUESTED e_RETRIES_EXHAUSTED e_GONE t_REQUESTED t_RETRIES_EXHAUSTED t_GONE va vc h0 S_REQUESTED E_REQUESTED F_REQUESTED X_REQUESTED S_RETRIES_EXHAUSTED E_RETRIES_EXHAUSTED F_RETRIES_EXHAUSTED X_RETRIES_EXHAUSTED S_GONE E_GONE F_GONE X_GONE Sva Ava Eva Fva nva lva v_0 v_1 v_2) (d_prog_18_method_5_2) (tw hw 5 rfl) (tw hw 6 rfl) (tw hw 3 rfl) (tw hw 7 rfl) (by decide) (lenOf pd____Lcom_example_vervet_vervet_endpoints_Disabled_Reason_ rfl) #[.val (.ref a1), .val .null, .unset, .unset, .unset, .unset] [] rfl 0 rfl (by decide) (by decide) (by decide) (by decide)
  obtain ⟨b101, rfl, K101, A101⟩ := Q101
  have s102 := K101.1
  refine st101 _ ?_
  have l101 := nlt A101.lt
  refine g_astore_n B W101 (d_prog_18_method_5_5) rfl (l' := #[.val (.ref a1), .val .null, .val (.ref b101), .unset, .unset, .unset]) rfl ?_
  refine g_aload_n B W101 (d_prog_18_method_5_6) rfl rfl ?_
  refine g_alenK B W101 (d_prog_18_method_5_7) A101 lva ?_
  refine g_istore_n B W101 (d_prog_18_method_5_8)  (l' := #[.val (.ref a1), .val .null, .val (.ref b101), .val (.int 3), .unset, .unset]) rfl ?_
  refine g_iconst B W101 (d_prog_18_method_5_9) (v := 0) (by decide) ?_
  refine g_istore B W101 (d_prog_18_method_5_10)  (l' := #[.val (.ref a1), .val .null, .val (.ref b101), .val (.int 3), .val (.int 0), .unset]) rfl ?_
  refine g_iload B W101 (d_prog_18_method_5_12) rfl ?_
  refine g_iload_n B W101 (d_prog_18_method_5_14) rfl ?_
  refine g_icmp_n B W101 (d_prog_18_method_5_15) (XT.ii_ge_f (by decide)) ?_
  show Go p.tables e below _ T101 (mkF m 18 #[.val (.ref a1), .val .null, .val (.ref b101), .val (.int 3), .val (.int 0), .unset] [])
  refine g_aload_n B W101 (d_prog_18_method_5_18) rfl rfl ?_
  refine g_iload B W101 (d_prog_18_method_5_19) rfl ?_
  refine g_aaload B W101 (d_prog_18_method_5_21) A101 rfl (show ¬ ((0 : Int32) < 0 ∨ vc.slots.size ≤ Int32.toNatClampNeg 0) by rw [nva]; decide) v_0 ?_
  refine g_astore B W101 (d_prog_18_method_5_22) rfl (l' := #[.val (.ref a1), .val .null, .val (.ref b101), .val (.int 3), .val (.int 0), .val (.ref e_REQUESTED)]) rfl ?_
  refine g_aload B W101 (d_prog_18_method_5_24) rfl rfl ?_
  obtain ⟨T103, W103, st103⟩ := x_get B W101 (host := "") (d_prog_18_method_5_26) (Or.inl (tw hw 23 rfl)) Via.refl (F_REQUESTED.ext W101.old.2) #[.val (.ref a1), .val .null, .val (.ref b101), .val (.int 3), .val (.int 0), .val (.ref e_REQUESTED)] []
  refine st103 _ ?_
  refine g_aload_n B W103 (d_prog_18_method_5_29) rfl rfl ?_
  have f105 := (X_REQUESTED.ext W103.old.2)
  have f106 := (X1.keep ((Keep.refl h0 []).trans K101 all0))
  obtain ⟨T104, h104, v104, L104, W104, Q104, st104⟩ := x_virtualB B W103 (b := t_REQUESTED) (V := 0) (rc := 0) (rs := 0) (QL := fun v h' L => v = some (.int (bi (decide ([114, 101, 113, 117, 101, 115, 116, 101, 100] = [114, 101, 113, 117, 101, 115, 116, 101, 100])))) ∧ L = [] ∧ h101 = h') [(.ref a1)] (fun s' hZ' => own_eqB hw f105 f106 (Scs.ext W103.old.2) hcz (tw hw 32 rfl) (by decide) (by decide) hZ') f105.exa (d_prog_18_method_5_30) (tw hw 25 rfl) (tw hw 26 rfl) (tw hw 28 rfl) (tw hw 27 rfl) (by decide) (lenOf pd__Ljava_lang_Object__Z rfl) #[.val (.ref a1), .val .null, .val (.ref b101), .val (.int 3), .val (.int 0), .val (.ref e_REQUESTED)] [] rfl rfl (by decide) (by decide) [] all0 (fun _ _ _ q => ⟨q.2.1 ▸ Fr.nil _, q.2.2 ▸ Keep.refl _ _⟩)
  obtain ⟨rfl, -, rfl⟩ := Q104
  refine st104 _ ?_
  refine g_if_n B W104 (d_prog_18_method_5_33) (XT.i0_eq_f (bi_t (by decide))) ?_
  show Go p.tables e below _ T104 (mkF m 36 #[.val (.ref a1), .val .null, .val (.ref b101), .val (.int 3), .val (.int 0), .val (.ref e_REQUESTED)] [])
  refine g_aload B W104 (d_prog_18_method_5_36) rfl rfl ?_
  refine g_astore_n B W104 (d_prog_18_method_5_38) rfl (l' := #[.val (.ref a1), .val (.ref e_REQUESTED), .val (.ref b101), .val (.int 3), .val (.int 0), .val (.ref e_REQUESTED)]) rfl ?_
  refine g_iinc B W104 (d_prog_18_method_5_39) (v := 1) (l' := #[.val (.ref a1), .val (.ref e_REQUESTED), .val (.ref b101), .val (.int 3), .val (.int (0 + 1)), .val (.ref e_REQUESTED)]) (by decide) rfl rfl ?_
  rw [show (0 + 1 : Int32) = 1 by decide]
  refine g_goto B W104 (d_prog_18_method_5_42) (pc' := 12) (by decide) ?_
  show Go p.tables e below _ T104 (mkF m 12 #[.val (.ref a1), .val (.ref e_REQUESTED), .val (.ref b101), .val (.int 3), .val (.int 1), .val (.ref e_REQUESTED)] [])
  refine g_iload B W104 (d_prog_18_method_5_12) rfl ?_
  refine g_iload_n B W104 (d_prog_18_method_5_14) rfl ?_
  refine g_icmp_n B W104 (d_prog_18_method_5_15) (XT.ii_ge_f (by decide)) ?_
  show Go p.tables e below _ T104 (mkF m 18 #[.val (.ref a1), .val (.ref e_REQUESTED), .val (.ref b101), .val (.int 3), .val (.int 1), .val (.ref e_REQUESTED)] [])
  refine g_aload_n B W104 (d_prog_18_method_5_18) rfl rfl ?_
  refine g_iload B W104 (d_prog_18_method_5_19) rfl ?_
  refine g_aaload B W104 (d_prog_18_method_5_21) A101 rfl (show ¬ ((1 : Int32) < 0 ∨ vc.slots.size ≤ Int32.toNatClampNeg 1) by rw [nva]; decide) v_1 ?_
  refine g_astore B W104 (d_prog_18_method_5_22) rfl (l' := #[.val (.ref a1), .val (.ref e_REQUESTED), .val (.ref b101), .val (.int 3), .val (.int 1), .val (.ref e_RETRIES_EXHAUSTED)]) rfl ?_
  refine g_aload B W104 (d_prog_18_method_5_24) rfl rfl ?_
  obtain ⟨T107, W107, st107⟩ := x_get B W104 (host := "") (d_prog_18_method_5_26) (Or.inl (tw hw 23 rfl)) Via.refl (F_RETRIES_EXHAUSTED.ext W104.old.2) #[.val (.ref a1), .val (.ref e_REQUESTED), .val (.ref b101), .val (.int 3), .val (.int 1), .val (.ref e_RETRIES_EXHAUSTED)] []
  refine st107 _ ?_
  refine g_aload_n B W107 (d_prog_18_method_5_29) rfl rfl ?_
  have f109 := (X_RETRIES_EXHAUSTED.ext W107.old.2)
  obtain ⟨T108, h108, v108, L108, W108, Q108, st108⟩ := x_virtualB B W107 (b := t_RETRIES_EXHAUSTED) (V := 0) (rc := 0) (rs := 0) (QL := fun v h' L => v = some (.int (bi (decide ([114, 101, 116, 114, 105, 101, 115, 32, 101, 120, 104, 97, 117, 115, 116, 101, 100] = [114, 101, 113, 117, 101, 115, 116, 101, 100])))) ∧ L = [] ∧ h101 = h') [(.ref a1)] (fun s' hZ' => own_eqB hw f109 f106 (Scs.ext W107.old.2) hcz (tw hw 32 rfl) (by decide) (by decide) hZ') f109.exa (d_prog_18_method_5_30) (tw hw 25 rfl) (tw hw 26 rfl) (tw hw 28 rfl) (tw hw 27 rfl) (by decide) (lenOf pd__Ljava_lang_Object__Z rfl) #[.val (.ref a1), .val (.ref e_REQUESTED), .val (.ref b101), .val (.int 3), .val (.int 1), .val (.ref e_RETRIES_EXHAUSTED)] [] rfl rfl (by decide) (by decide) [] all0 (fun _ _ _ q => ⟨q.2.1 ▸ Fr.nil _, q.2.2 ▸ Keep.refl _ _⟩)
  obtain ⟨rfl, -, rfl⟩ := Q108
  refine st108 _ ?_
  refine g_if_y B W108 (d_prog_18_method_5_33) (XT.i0_eq_t (bi_f (by decide))) (pc' := 39) (by decide) ?_
  show Go p.tables e below _ T108 (mkF m 39 #[.val (.ref a1), .val (.ref e_REQUESTED), .val (.ref b101), .val (.int 3), .val (.int 1), .val (.ref e_RETRIES_EXHAUSTED)] [])
  refine g_iinc B W108 (d_prog_18_method_5_39) (v := 1) (l' := #[.val (.ref a1), .val (.ref e_REQUESTED), .val (.ref b101), .val (.int 3), .val (.int (1 + 1)), .val (.ref e_RETRIES_EXHAUSTED)]) (by decide) rfl rfl ?_
  rw [show (1 + 1 : Int32) = 2 by decide]
  refine g_goto B W108 (d_prog_18_method_5_42) (pc' := 12) (by decide) ?_
  show Go p.tables e below _ T108 (mkF m 12 #[.val (.ref a1), .val (.ref e_REQUESTED), .val (.ref b101), .val (.int 3), .val (.int 2), .val (.ref e_RETRIES_EXHAUSTED)] [])
  refine g_iload B W108 (d_prog_18_method_5_12) rfl ?_
  refine g_iload_n B W108 (d_prog_18_method_5_14) rfl ?_
  refine g_icmp_n B W108 (d_prog_18_method_5_15) (XT.ii_ge_f (by decide)) ?_
  show Go p.tables e below _ T108 (mkF m 18 #[.val (.ref a1), .val (.ref e_REQUESTED), .val (.ref b101), .val (.int 3), .val (.int 2), .val (.ref e_RETRIES_EXHAUSTED)] [])
  refine g_aload_n B W108 (d_prog_18_method_5_18) rfl rfl ?_
  refine g_iload B W108 (d_prog_18_method_5_19) rfl ?_
  refine g_aaload B W108 (d_prog_18_method_5_21) A101 rfl (show ¬ ((2 : Int32) < 0 ∨ vc.slots.size ≤ Int32.toNatClampNeg 2) by rw [nva]; decide) v_2 ?_
  refine g_astore B W108 (d_prog_18_method_5_22) rfl (l' := #[.val (.ref a1), .val (.ref e_REQUESTED), .val (.ref b101), .val (.int 3), .val (.int 2), .val (.ref e_GONE)]) rfl ?_
  refine g_aload B W108 (d_prog_18_method_5_24) rfl rfl ?_
  obtain ⟨T110, W110, st110⟩ := x_get B W108 (host := "") (d_prog_18_method_5_26) (Or.inl (tw hw 23 rfl)) Via.refl (F_GONE.ext W108.old.2) #[.val (.ref a1), .val (.ref e_REQUESTED), .val (.ref b101), .val (.int 3), .val (.int 2), .val (.ref e_GONE)] []
  refine st110 _ ?_
  refine g_aload_n B W110 (d_prog_18_method_5_29) rfl rfl ?_
  have f112 := (X_GONE.ext W110.old.2)
  obtain ⟨T111, h111, v111, L111, W111, Q111, st111⟩ := x_virtualB B W110 (b := t_GONE) (V := 0) (rc := 0) (rs := 0) (QL := fun v h' L => v = some (.int (bi (decide ([103, 111, 110, 101] = [114, 101, 113, 117, 101, 115, 116, 101, 100])))) ∧ L = [] ∧ h101 = h') [(.ref a1)] (fun s' hZ' => own_eqB hw f112 f106 (Scs.ext W110.old.2) hcz (tw hw 32 rfl) (by decide) (by decide) hZ') f112.exa (d_prog_18_method_5_30) (tw hw 25 rfl) (tw hw 26 rfl) (tw hw 28 rfl) (tw hw 27 rfl) (by decide) (lenOf pd__Ljava_lang_Object__Z rfl) #[.val (.ref a1), .val (.ref e_REQUESTED), .val (.ref b101), .val (.int 3), .val (.int 2), .val (.ref e_GONE)] [] rfl rfl (by decide) (by decide) [] all0 (fun _ _ _ q => ⟨q.2.1 ▸ Fr.nil _, q.2.2 ▸ Keep.refl _ _⟩)
  obtain ⟨rfl, -, rfl⟩ := Q111
  refine st111 _ ?_
  refine g_if_y B W111 (d_prog_18_method_5_33) (XT.i0_eq_t (bi_f (by decide))) (pc' := 39) (by decide) ?_
  show Go p.tables e below _ T111 (mkF m 39 #[.val (.ref a1), .val (.ref e_REQUESTED), .val (.ref b101), .val (.int 3), .val (.int 2), .val (.ref e_GONE)] [])
  refine g_iinc B W111 (d_prog_18_method_5_39) (v := 1) (l' := #[.val (.ref a1), .val (.ref e_REQUESTED), .val (.ref b101), .val (.int 3), .val (.int (2 + 1)), .val (.ref e_GONE)]) (by decide) rfl rfl ?_
  rw [show (2 + 1 : Int32) = 3 by decide]
  refine g_goto B W111 (d_prog_18_method_5_42) (pc' := 12) (by decide) ?_
  show Go p.tables e below _ T111 (mkF m 12 #[.val (.ref a1), .val (.ref e_REQUESTED), .val (.ref b101), .val (.int 3), .val (.int 3), .val (.ref e_GONE)] [])
  refine g_iload B W111 (d_prog_18_method_5_12) rfl ?_
  refine g_iload_n B W111 (d_prog_18_method_5_14) rfl ?_
  refine g_icmp_y B W111 (d_prog_18_method_5_15) (XT.ii_ge_t (by decide)) (pc' := 45) (by decide) ?_
  show Go p.tables e below _ T111 (mkF m 45 #[.val (.ref a1), .val (.ref e_REQUESTED), .val (.ref b101), .val (.int 3), .val (.int 3), .val (.ref e_GONE)] [])
  refine g_aload_n B W111 (d_prog_18_method_5_45) rfl rfl ?_
  refine g_ifnull_n B W111 (d_prog_18_method_5_46)  ?_
  show Go p.tables e below _ T111 (mkF m 49 #[.val (.ref a1), .val (.ref e_REQUESTED), .val (.ref b101), .val (.int 3), .val (.int 3), .val (.ref e_GONE)] [])
  refine g_aload_n B W111 (d_prog_18_method_5_49) rfl rfl ?_
  refine g_ifnonnull_y B W111 (d_prog_18_method_5_50) (pc' := 67) (by decide) ?_
  show Go p.tables e below _ T111 (mkF m 67 #[.val (.ref a1), .val (.ref e_REQUESTED), .val (.ref b101), .val (.int 3), .val (.int 3), .val (.ref e_GONE)] [])
  refine g_aload_n B W111 (d_prog_18_method_5_67) rfl rfl ?_
  exact r_a B W111 rfl rfl rfl (d_prog_18_method_5_68) (by decide) (by decide) ⟨rfl, ((Keep.refl h0 []).trans K101 all0)⟩
theorem ef_of_RETRIES_EXHAUSTED (m : MethodId) (a1 : Addr) (cz : Int32) (e_REQUESTED : Addr) (e_RETRIES_EXHAUSTED : Addr) (e_GONE : Addr) (t_REQUESTED : Addr) (t_RETRIES_EXHAUSTED : Addr) (t_GONE : Addr) (va : Addr) (vc : Cell) : entryFrame m #[(.ref a1)] 6 = mkF m 0 #[.val (.ref a1), .unset, .unset, .unset, .unset, .unset] [] := by first | (simp [entryFrame, mkF, argsToLocals, Value.category]; done) | rfl
def Q_of_RETRIES_EXHAUSTED (Z : State) (a1 : Addr) (cz : Int32) (e_REQUESTED : Addr) (e_RETRIES_EXHAUSTED : Addr) (e_GONE : Addr) (t_REQUESTED : Addr) (t_RETRIES_EXHAUSTED : Addr) (t_GONE : Addr) (va : Addr) (vc : Cell) (h0 : Heap) (v : Option Value) (h : Heap) : Prop := v = some (.ref e_RETRIES_EXHAUSTED) ∧ Keep h0 h []
set_option maxRecDepth 65536 in
set_option maxHeartbeats 40000000 in
theorem c_of_RETRIES_EXHAUSTED (l : Launch) (Z : State) (a0 : Array Value) (hw : ∀ d ∈ tables_1, d.before a0 Z = true) (a1 : Addr) (cz : Int32) (e_REQUESTED : Addr) (e_RETRIES_EXHAUSTED : Addr) (e_GONE : Addr) (t_REQUESTED : Addr) (t_RETRIES_EXHAUSTED : Addr) (t_GONE : Addr) (va : Addr) (vc : Cell) (h0 : Heap) (Scs : Sta Z Z.heap "java/lang/String" "COMPACT_STRINGS" "Z" (.int cz)) (hcz : ¬ cz = 0) (X1 : StrIs Z h0 a1 [114, 101, 116, 114, 105, 101, 115, 32, 101, 120, 104, 97, 117, 115, 116, 101, 100]) (S_REQUESTED : Sta Z Z.heap "com/example/vervet/vervet/endpoints/Disabled$Reason" "REQUESTED" "Lcom/example/vervet/vervet/endpoints/Disabled$Reason;" (.ref e_REQUESTED)) (E_REQUESTED : Exa Z Z.heap e_REQUESTED "com/example/vervet/vervet/endpoints/Disabled$Reason") (F_REQUESTED : Fld Z Z.heap e_REQUESTED "com/example/vervet/vervet/endpoints/Disabled$Reason" "text" "Ljava/lang/String;" (.ref t_REQUESTED)) (X_REQUESTED : StrIs Z Z.heap t_REQUESTED [114, 101, 113, 117, 101, 115, 116, 101, 100]) (S_RETRIES_EXHAUSTED : Sta Z Z.heap "com/example/vervet/vervet/endpoints/Disabled$Reason" "RETRIES_EXHAUSTED" "Lcom/example/vervet/vervet/endpoints/Disabled$Reason;" (.ref e_RETRIES_EXHAUSTED)) (E_RETRIES_EXHAUSTED : Exa Z Z.heap e_RETRIES_EXHAUSTED "com/example/vervet/vervet/endpoints/Disabled$Reason") (F_RETRIES_EXHAUSTED : Fld Z Z.heap e_RETRIES_EXHAUSTED "com/example/vervet/vervet/endpoints/Disabled$Reason" "text" "Ljava/lang/String;" (.ref t_RETRIES_EXHAUSTED)) (X_RETRIES_EXHAUSTED : StrIs Z Z.heap t_RETRIES_EXHAUSTED [114, 101, 116, 114, 105, 101, 115, 32, 101, 120, 104, 97, 117, 115, 116, 101, 100]) (S_GONE : Sta Z Z.heap "com/example/vervet/vervet/endpoints/Disabled$Reason" "GONE" "Lcom/example/vervet/vervet/endpoints/Disabled$Reason;" (.ref e_GONE)) (E_GONE : Exa Z Z.heap e_GONE "com/example/vervet/vervet/endpoints/Disabled$Reason") (F_GONE : Fld Z Z.heap e_GONE "com/example/vervet/vervet/endpoints/Disabled$Reason" "text" "Ljava/lang/String;" (.ref t_GONE)) (X_GONE : StrIs Z Z.heap t_GONE [103, 111, 110, 101]) (Sva : Sta Z Z.heap "com/example/vervet/vervet/endpoints/Disabled$Reason" "$VALUES" "[Lcom/example/vervet/vervet/endpoints/Disabled$Reason;" (.ref va)) (Ava : Arr Z Z.heap va vc (.object "com/example/vervet/vervet/endpoints/Disabled$Reason")) (Eva : Exa Z Z.heap va "[Lcom/example/vervet/vervet/endpoints/Disabled$Reason;") (Fva : FitC Z vc) (nva : vc.slots.size = 3) (lva : vc.slots.size.toInt32 = 3) (v_0 : vc.slots[0]? = some (.ref e_REQUESTED)) (v_1 : vc.slots[1]? = some (.ref e_RETRIES_EXHAUSTED)) (v_2 : vc.slots[2]? = some (.ref e_GONE)) :
    Con l Z (⟨"com/example/vervet/vervet/endpoints/Disabled$Reason", "of", "(Ljava/lang/String;)Lcom/example/vervet/vervet/endpoints/Disabled$Reason;"⟩ : MethodName) prog_18_method_5_code 6 (Option.some (FieldType.object "com/example/vervet/vervet/endpoints/Disabled$Reason")) [] ({ frames := 3, cells := 1, slots := 3, locals := 40 } : Room) #[(.ref a1)] h0 (Q_of_RETRIES_EXHAUSTED Z a1 cz e_REQUESTED e_RETRIES_EXHAUSTED e_GONE t_REQUESTED t_RETRIES_EXHAUSTED t_GONE va vc h0) := by
  refine Con.of (plainFor_of_name pn_com_example_vervet_vervet_endpoints_Disabled_Reason) ?_
  intro p e s m below meth c T0 B W0
  refine Go.cast (ef_of_RETRIES_EXHAUSTED m a1 cz e_REQUESTED e_RETRIES_EXHAUSTED e_GONE t_REQUESTED t_RETRIES_EXHAUSTED t_GONE va vc) ?_
  refine g_aconst_null B W0 (d_prog_18_method_5_0)  ?_
  refine g_astore_n B W0 (d_prog_18_method_5_1) rfl (l' := #[.val (.ref a1), .val .null, .unset, .unset, .unset, .unset]) rfl ?_
  obtain ⟨T101, h101, v101, W101, Q101, st101⟩ := x_static B W0 [] (c_values l Z a0 hw e_REQUESTED e_RETRIES_EXHAUSTED e_GONE t_REQUESTED t_RETRIES_EXHAUSTED t_GONE va vc h0 S_REQUESTED E_REQUESTED F_REQUESTED X_REQUESTED S_RETRIES_EXHAUSTED E_RETRIES_EXHAUSTED F_RETRIES_EXHAUSTED X_RETRIES_EXHAUSTED S_GONE E_GONE F_GONE X_GONE Sva Ava Eva Fva nva lva v_0 v_1 v_2) (d_prog_18_method_5_2) (tw hw 5 rfl) (tw hw 6 rfl) (tw hw 3 rfl) (tw hw 7 rfl) (by decide) (lenOf pd____Lcom_example_vervet_vervet_endpoints_Disabled_Reason_ rfl) #[.val (.ref a1), .val .null, .unset, .unset, .unset, .unset] [] rfl 0 rfl (by decide) (by decide) (by decide) (by decide)
  obtain ⟨b101, rfl, K101, A101⟩ := Q101
  have s102 := K101.1
  refine st101 _ ?_
  have l101 := nlt A101.lt
  refine g_astore_n B W101 (d_prog_18_method_5_5) rfl (l' := #[.val (.ref a1), .val .null, .val (.ref b101), .unset, .unset, .unset]) rfl ?_
  refine g_aload_n B W101 (d_prog_18_method_5_6) rfl rfl ?_
  refine g_alenK B W101 (d_prog_18_method_5_7) A101 lva ?_
  refine g_istore_n B W101 (d_prog_18_method_5_8)  (l' := #[.val (.ref a1), .val .null, .val (.ref b101), .val (.int 3), .unset, .unset]) rfl ?_
  refine g_iconst B W101 (d_prog_18_method_5_9) (v := 0) (by decide) ?_
  refine g_istore B W101 (d_prog_18_method_5_10)  (l' := #[.val (.ref a1), .val .null, .val (.ref b101), .val (.int 3), .val (.int 0), .unset]) rfl ?_
  refine g_iload B W101 (d_prog_18_method_5_12) rfl ?_
  refine g_iload_n B W101 (d_prog_18_method_5_14) rfl ?_
  refine g_icmp_n B W101 (d_prog_18_method_5_15) (XT.ii_ge_f (by decide)) ?_
  show Go p.tables e below _ T101 (mkF m 18 #[.val (.ref a1), .val .null, .val (.ref b101), .val (.int 3), .val (.int 0), .unset] [])
  refine g_aload_n B W101 (d_prog_18_method_5_18) rfl rfl ?_
  refine g_iload B W101 (d_prog_18_method_5_19) rfl ?_
  refine g_aaload B W101 (d_prog_18_method_5_21) A101 rfl (show ¬ ((0 : Int32) < 0 ∨ vc.slots.size ≤ Int32.toNatClampNeg 0) by rw [nva]; decide) v_0 ?_
  refine g_astore B W101 (d_prog_18_method_5_22) rfl (l' := #[.val (.ref a1), .val .null, .val (.ref b101), .val (.int 3), .val (.int 0), .val (.ref e_REQUESTED)]) rfl ?_
  refine g_aload B W101 (d_prog_18_method_5_24) rfl rfl ?_
  obtain ⟨T103, W103, st103⟩ := x_get B W101 (host := "") (d_prog_18_method_5_26) (Or.inl (tw hw 23 rfl)) Via.refl (F_REQUESTED.ext W101.old.2) #[.val (.ref a1), .val .null, .val (.ref b101), .val (.int 3), .val (.int 0), .val (.ref e_REQUESTED)] []
  refine st103 _ ?_
  refine g_aload_n B W103 (d_prog_18_method_5_29) rfl rfl ?_
  have f105 := (X_REQUESTED.ext W103.old.2)
  have f106 := (X1.keep ((Keep.refl h0 []).trans K101 all0))
  obtain ⟨T104, h104, v104, L104, W104, Q104, st104⟩ := x_virtualB B W103 (b := t_REQUESTED) (V := 0) (rc := 0) (rs := 0) (QL := fun v h' L => v = some (.int (bi (decide ([114, 101, 113, 117, 101, 115, 116, 101, 100] = [114, 101, 116, 114, 105, 101, 115, 32, 101, 120, 104, 97, 117, 115, 116, 101, 100])))) ∧ L = [] ∧ h101 = h') [(.ref a1)] (fun s' hZ' => own_eqB hw f105 f106 (Scs.ext W103.old.2) hcz (tw hw 32 rfl) (by decide) (by decide) hZ') f105.exa (d_prog_18_method_5_30) (tw hw 25 rfl) (tw hw 26 rfl) (tw hw 28 rfl) (tw hw 27 rfl) (by decide) (lenOf pd__Ljava_lang_Object__Z rfl) #[.val (.ref a1), .val .null, .val (.ref b101), .val (.int 3), .val (.int 0), .val (.ref e_REQUESTED)] [] rfl rfl (by decide) (by decide) [] all0 (fun _ _ _ q => ⟨q.2.1 ▸ Fr.nil _, q.2.2 ▸ Keep.refl _ _⟩)
  obtain ⟨rfl, -, rfl⟩ := Q104
  refine st104 _ ?_
  refine g_if_y B W104 (d_prog_18_method_5_33) (XT.i0_eq_t (bi_f (by decide))) (pc' := 39) (by decide) ?_
  show Go p.tables e below _ T104 (mkF m 39 #[.val (.ref a1), .val .null, .val (.ref b101), .val (.int 3), .val (.int 0), .val (.ref e_REQUESTED)] [])
  refine g_iinc B W104 (d_prog_18_method_5_39) (v := 1) (l' := #[.val (.ref a1), .val .null, .val (.ref b101), .val (.int 3), .val (.int (0 + 1)), .val (.ref e_REQUESTED)]) (by decide) rfl rfl ?_
  rw [show (0 + 1 : Int32) = 1 by decide]
  refine g_goto B W104 (d_prog_18_method_5_42) (pc' := 12) (by decide) ?_
  show Go p.tables e below _ T104 (mkF m 12 #[.val (.ref a1), .val .null, .val (.ref b101), .val (.int 3), .val (.int 1), .val (.ref e_REQUESTED)] [])
  refine g_iload B W104 (d_prog_18_method_5_12) rfl ?_
  refine g_iload_n B W104 (d_prog_18_method_5_14) rfl ?_
  refine g_icmp_n B W104 (d_prog_18_method_5_15) (XT.ii_ge_f (by decide)) ?_
  show Go p.tables e below _ T104 (mkF m 18 #[.val (.ref a1), .val .null, .val (.ref b101), .val (.int 3), .val (.int 1), .val (.ref e_REQUESTED)] [])
  refine g_aload_n B W104 (d_prog_18_method_5_18) rfl rfl ?_
  refine g_iload B W104 (d_prog_18_method_5_19) rfl ?_
  refine g_aaload B W104 (d_prog_18_method_5_21) A101 rfl (show ¬ ((1 : Int32) < 0 ∨ vc.slots.size ≤ Int32.toNatClampNeg 1) by rw [nva]; decide) v_1 ?_
  refine g_astore B W104 (d_prog_18_method_5_22) rfl (l' := #[.val (.ref a1), .val .null, .val (.ref b101), .val (.int 3), .val (.int 1), .val (.ref e_RETRIES_EXHAUSTED)]) rfl ?_
  refine g_aload B W104 (d_prog_18_method_5_24) rfl rfl ?_
  obtain ⟨T107, W107, st107⟩ := x_get B W104 (host := "") (d_prog_18_method_5_26) (Or.inl (tw hw 23 rfl)) Via.refl (F_RETRIES_EXHAUSTED.ext W104.old.2) #[.val (.ref a1), .val .null, .val (.ref b101), .val (.int 3), .val (.int 1), .val (.ref e_RETRIES_EXHAUSTED)] []
  refine st107 _ ?_
  refine g_aload_n B W107 (d_prog_18_method_5_29) rfl rfl ?_
  have f109 := (X_RETRIES_EXHAUSTED.ext W107.old.2)
  obtain ⟨T108, h108, v108, L108, W108, Q108, st108⟩ := x_virtualB B W107 (b := t_RETRIES_EXHAUSTED) (V := 0) (rc := 0) (rs := 0) (QL := fun v h' L => v = some (.int (bi (decide ([114, 101, 116, 114, 105, 101, 115, 32, 101, 120, 104, 97, 117, 115, 116, 101, 100] = [114, 101, 116, 114, 105, 101, 115, 32, 101, 120, 104, 97, 117, 115, 116, 101, 100])))) ∧ L = [] ∧ h101 = h') [(.ref a1)] (fun s' hZ' => own_eqB hw f109 f106 (Scs.ext W107.old.2) hcz (tw hw 32 rfl) (by decide) (by decide) hZ') f109.exa (d_prog_18_method_5_30) (tw hw 25 rfl) (tw hw 26 rfl) (tw hw 28 rfl) (tw hw 27 rfl) (by decide) (lenOf pd__Ljava_lang_Object__Z rfl) #[.val (.ref a1), .val .null, .val (.ref b101), .val (.int 3), .val (.int 1), .val (.ref e_RETRIES_EXHAUSTED)] [] rfl rfl (by decide) (by decide) [] all0 (fun _ _ _ q => ⟨q.2.1 ▸ Fr.nil _, q.2.2 ▸ Keep.refl _ _⟩)
  obtain ⟨rfl, -, rfl⟩ := Q108
  refine st108 _ ?_
  refine g_if_n B W108 (d_prog_18_method_5_33) (XT.i0_eq_f (bi_t (by decide))) ?_
  show Go p.tables e below _ T108 (mkF m 36 #[.val (.ref a1), .val .null, .val (.ref b101), .val (.int 3), .val (.int 1), .val (.ref e_RETRIES_EXHAUSTED)] [])
  refine g_aload B W108 (d_prog_18_method_5_36) rfl rfl ?_
  refine g_astore_n B W108 (d_prog_18_method_5_38) rfl (l' := #[.val (.ref a1), .val (.ref e_RETRIES_EXHAUSTED), .val (.ref b101), .val (.int 3), .val (.int 1), .val (.ref e_RETRIES_EXHAUSTED)]) rfl ?_
  refine g_iinc B W108 (d_prog_18_method_5_39) (v := 1) (l' := #[.val (.ref a1), .val (.ref e_RETRIES_EXHAUSTED), .val (.ref b101), .val (.int 3), .val (.int (1 + 1)), .val (.ref e_RETRIES_EXHAUSTED)]) (by decide) rfl rfl ?_
  rw [show (1 + 1 : Int32) = 2 by decide]
  refine g_goto B W108 (d_prog_18_method_5_42) (pc' := 12) (by decide) ?_
  show Go p.tables e below _ T108 (mkF m 12 #[.val (.ref a1), .val (.ref e_RETRIES_EXHAUSTED), .val (.ref b101), .val (.int 3), .val (.int 2), .val (.ref e_RETRIES_EXHAUSTED)] [])
  refine g_iload B W108 (d_prog_18_method_5_12) rfl ?_
  refine g_iload_n B W108 (d_prog_18_method_5_14) rfl ?_
  refine g_icmp_n B W108 (d_prog_18_method_5_15) (XT.ii_ge_f (by decide)) ?_
  show Go p.tables e below _ T108 (mkF m 18 #[.val (.ref a1), .val (.ref e_RETRIES_EXHAUSTED), .val (.ref b101), .val (.int 3), .val (.int 2), .val (.ref e_RETRIES_EXHAUSTED)] [])
  refine g_aload_n B W108 (d_prog_18_method_5_18) rfl rfl ?_
  refine g_iload B W108 (d_prog_18_method_5_19) rfl ?_
  refine g_aaload B W108 (d_prog_18_method_5_21) A101 rfl (show ¬ ((2 : Int32) < 0 ∨ vc.slots.size ≤ Int32.toNatClampNeg 2) by rw [nva]; decide) v_2 ?_
  refine g_astore B W108 (d_prog_18_method_5_22) rfl (l' := #[.val (.ref a1), .val (.ref e_RETRIES_EXHAUSTED), .val (.ref b101), .val (.int 3), .val (.int 2), .val (.ref e_GONE)]) rfl ?_
  refine g_aload B W108 (d_prog_18_method_5_24) rfl rfl ?_
  obtain ⟨T110, W110, st110⟩ := x_get B W108 (host := "") (d_prog_18_method_5_26) (Or.inl (tw hw 23 rfl)) Via.refl (F_GONE.ext W108.old.2) #[.val (.ref a1), .val (.ref e_RETRIES_EXHAUSTED), .val (.ref b101), .val (.int 3), .val (.int 2), .val (.ref e_GONE)] []
  refine st110 _ ?_
  refine g_aload_n B W110 (d_prog_18_method_5_29) rfl rfl ?_
  have f112 := (X_GONE.ext W110.old.2)
  obtain ⟨T111, h111, v111, L111, W111, Q111, st111⟩ := x_virtualB B W110 (b := t_GONE) (V := 0) (rc := 0) (rs := 0) (QL := fun v h' L => v = some (.int (bi (decide ([103, 111, 110, 101] = [114, 101, 116, 114, 105, 101, 115, 32, 101, 120, 104, 97, 117, 115, 116, 101, 100])))) ∧ L = [] ∧ h101 = h') [(.ref a1)] (fun s' hZ' => own_eqB hw f112 f106 (Scs.ext W110.old.2) hcz (tw hw 32 rfl) (by decide) (by decide) hZ') f112.exa (d_prog_18_method_5_30) (tw hw 25 rfl) (tw hw 26 rfl) (tw hw 28 rfl) (tw hw 27 rfl) (by decide) (lenOf pd__Ljava_lang_Object__Z rfl) #[.val (.ref a1), .val (.ref e_RETRIES_EXHAUSTED), .val (.ref b101), .val (.int 3), .val (.int 2), .val (.ref e_GONE)] [] rfl rfl (by decide) (by decide) [] all0 (fun _ _ _ q => ⟨q.2.1 ▸ Fr.nil _, q.2.2 ▸ Keep.refl _ _⟩)
  obtain ⟨rfl, -, rfl⟩ := Q111
  refine st111 _ ?_
  refine g_if_y B W111 (d_prog_18_method_5_33) (XT.i0_eq_t (bi_f (by decide))) (pc' := 39) (by decide) ?_
  show Go p.tables e below _ T111 (mkF m 39 #[.val (.ref a1), .val (.ref e_RETRIES_EXHAUSTED), .val (.ref b101), .val (.int 3), .val (.int 2), .val (.ref e_GONE)] [])
  refine g_iinc B W111 (d_prog_18_method_5_39) (v := 1) (l' := #[.val (.ref a1), .val (.ref e_RETRIES_EXHAUSTED), .val (.ref b101), .val (.int 3), .val (.int (2 + 1)), .val (.ref e_GONE)]) (by decide) rfl rfl ?_
  rw [show (2 + 1 : Int32) = 3 by decide]
  refine g_goto B W111 (d_prog_18_method_5_42) (pc' := 12) (by decide) ?_
  show Go p.tables e below _ T111 (mkF m 12 #[.val (.ref a1), .val (.ref e_RETRIES_EXHAUSTED), .val (.ref b101), .val (.int 3), .val (.int 3), .val (.ref e_GONE)] [])
  refine g_iload B W111 (d_prog_18_method_5_12) rfl ?_
  refine g_iload_n B W111 (d_prog_18_method_5_14) rfl ?_
  refine g_icmp_y B W111 (d_prog_18_method_5_15) (XT.ii_ge_t (by decide)) (pc' := 45) (by decide) ?_
  show Go p.tables e below _ T111 (mkF m 45 #[.val (.ref a1), .val (.ref e_RETRIES_EXHAUSTED), .val (.ref b101), .val (.int 3), .val (.int 3), .val (.ref e_GONE)] [])
  refine g_aload_n B W111 (d_prog_18_method_5_45) rfl rfl ?_
  refine g_ifnull_n B W111 (d_prog_18_method_5_46)  ?_
  show Go p.tables e below _ T111 (mkF m 49 #[.val (.ref a1), .val (.ref e_RETRIES_EXHAUSTED), .val (.ref b101), .val (.int 3), .val (.int 3), .val (.ref e_GONE)] [])
  refine g_aload_n B W111 (d_prog_18_method_5_49) rfl rfl ?_
  refine g_ifnonnull_y B W111 (d_prog_18_method_5_50) (pc' := 67) (by decide) ?_
  show Go p.tables e below _ T111 (mkF m 67 #[.val (.ref a1), .val (.ref e_RETRIES_EXHAUSTED), .val (.ref b101), .val (.int 3), .val (.int 3), .val (.ref e_GONE)] [])
  refine g_aload_n B W111 (d_prog_18_method_5_67) rfl rfl ?_
  exact r_a B W111 rfl rfl rfl (d_prog_18_method_5_68) (by decide) (by decide) ⟨rfl, ((Keep.refl h0 []).trans K101 all0)⟩
theorem ef_of_GONE (m : MethodId) (a1 : Addr) (cz : Int32) (e_REQUESTED : Addr) (e_RETRIES_EXHAUSTED : Addr) (e_GONE : Addr) (t_REQUESTED : Addr) (t_RETRIES_EXHAUSTED : Addr) (t_GONE : Addr) (va : Addr) (vc : Cell) : entryFrame m #[(.ref a1)] 6 = mkF m 0 #[.val (.ref a1), .unset, .unset, .unset, .unset, .unset] [] := by first | (simp [entryFrame, mkF, argsToLocals, Value.category]; done) | rfl
def Q_of_GONE (Z : State) (a1 : Addr) (cz : Int32) (e_REQUESTED : Addr) (e_RETRIES_EXHAUSTED : Addr) (e_GONE : Addr) (t_REQUESTED : Addr) (t_RETRIES_EXHAUSTED : Addr) (t_GONE : Addr) (va : Addr) (vc : Cell) (h0 : Heap) (v : Option Value) (h : Heap) : Prop := v = some (.ref e_GONE) ∧ Keep h0 h []
set_option maxRecDepth 65536 in
set_option maxHeartbeats 40000000 in
theorem c_of_GONE (l : Launch) (Z : State) (a0 : Array Value) (hw : ∀ d ∈ tables_1, d.before a0 Z = true) (a1 : Addr) (cz : Int32) (e_REQUESTED : Addr) (e_RETRIES_EXHAUSTED : Addr) (e_GONE : Addr) (t_REQUESTED : Addr) (t_RETRIES_EXHAUSTED : Addr) (t_GONE : Addr) (va : Addr) (vc : Cell) (h0 : Heap) (Scs : Sta Z Z.heap "java/lang/String" "COMPACT_STRINGS" "Z" (.int cz)) (hcz : ¬ cz = 0) (X1 : StrIs Z h0 a1 [103, 111, 110, 101]) (S_REQUESTED : Sta Z Z.heap "com/example/vervet/vervet/endpoints/Disabled$Reason" "REQUESTED" "Lcom/example/vervet/vervet/endpoints/Disabled$Reason;" (.ref e_REQUESTED)) (E_REQUESTED : Exa Z Z.heap e_REQUESTED "com/example/vervet/vervet/endpoints/Disabled$Reason") (F_REQUESTED : Fld Z Z.heap e_REQUESTED "com/example/vervet/vervet/endpoints/Disabled$Reason" "text" "Ljava/lang/String;" (.ref t_REQUESTED)) (X_REQUESTED : StrIs Z Z.heap t_REQUESTED [114, 101, 113, 117, 101, 115, 116, 101, 100]) (S_RETRIES_EXHAUSTED : Sta Z Z.heap "com/example/vervet/vervet/endpoints/Disabled$Reason" "RETRIES_EXHAUSTED" "Lcom/example/vervet/vervet/endpoints/Disabled$Reason;" (.ref e_RETRIES_EXHAUSTED)) (E_RETRIES_EXHAUSTED : Exa Z Z.heap e_RETRIES_EXHAUSTED "com/example/vervet/vervet/endpoints/Disabled$Reason") (F_RETRIES_EXHAUSTED : Fld Z Z.heap e_RETRIES_EXHAUSTED "com/example/vervet/vervet/endpoints/Disabled$Reason" "text" "Ljava/lang/String;" (.ref t_RETRIES_EXHAUSTED)) (X_RETRIES_EXHAUSTED : StrIs Z Z.heap t_RETRIES_EXHAUSTED [114, 101, 116, 114, 105, 101, 115, 32, 101, 120, 104, 97, 117, 115, 116, 101, 100]) (S_GONE : Sta Z Z.heap "com/example/vervet/vervet/endpoints/Disabled$Reason" "GONE" "Lcom/example/vervet/vervet/endpoints/Disabled$Reason;" (.ref e_GONE)) (E_GONE : Exa Z Z.heap e_GONE "com/example/vervet/vervet/endpoints/Disabled$Reason") (F_GONE : Fld Z Z.heap e_GONE "com/example/vervet/vervet/endpoints/Disabled$Reason" "text" "Ljava/lang/String;" (.ref t_GONE)) (X_GONE : StrIs Z Z.heap t_GONE [103, 111, 110, 101]) (Sva : Sta Z Z.heap "com/example/vervet/vervet/endpoints/Disabled$Reason" "$VALUES" "[Lcom/example/vervet/vervet/endpoints/Disabled$Reason;" (.ref va)) (Ava : Arr Z Z.heap va vc (.object "com/example/vervet/vervet/endpoints/Disabled$Reason")) (Eva : Exa Z Z.heap va "[Lcom/example/vervet/vervet/endpoints/Disabled$Reason;") (Fva : FitC Z vc) (nva : vc.slots.size = 3) (lva : vc.slots.size.toInt32 = 3) (v_0 : vc.slots[0]? = some (.ref e_REQUESTED)) (v_1 : vc.slots[1]? = some (.ref e_RETRIES_EXHAUSTED)) (v_2 : vc.slots[2]? = some (.ref e_GONE)) :
    Con l Z (⟨"com/example/vervet/vervet/endpoints/Disabled$Reason", "of", "(Ljava/lang/String;)Lcom/example/vervet/vervet/endpoints/Disabled$Reason;"⟩ : MethodName) prog_18_method_5_code 6 (Option.some (FieldType.object "com/example/vervet/vervet/endpoints/Disabled$Reason")) [] ({ frames := 3, cells := 1, slots := 3, locals := 40 } : Room) #[(.ref a1)] h0 (Q_of_GONE Z a1 cz e_REQUESTED e_RETRIES_EXHAUSTED e_GONE t_REQUESTED t_RETRIES_EXHAUSTED t_GONE va vc h0) := by
  refine Con.of (plainFor_of_name pn_com_example_vervet_vervet_endpoints_Disabled_Reason) ?_
  intro p e s m below meth c T0 B W0
  refine Go.cast (ef_of_GONE m a1 cz e_REQUESTED e_RETRIES_EXHAUSTED e_GONE t_REQUESTED t_RETRIES_EXHAUSTED t_GONE va vc) ?_
  refine g_aconst_null B W0 (d_prog_18_method_5_0)  ?_
  refine g_astore_n B W0 (d_prog_18_method_5_1) rfl (l' := #[.val (.ref a1), .val .null, .unset, .unset, .unset, .unset]) rfl ?_
  obtain ⟨T101, h101, v101, W101, Q101, st101⟩ := x_static B W0 [] (c_values l Z a0 hw e_REQUESTED e_RETRIES_EXHAUSTED e_GONE t_REQUESTED t_RETRIES_EXHAUSTED t_GONE va vc h0 S_REQUESTED E_REQUESTED F_REQUESTED X_REQUESTED S_RETRIES_EXHAUSTED E_RETRIES_EXHAUSTED F_RETRIES_EXHAUSTED X_RETRIES_EXHAUSTED S_GONE E_GONE F_GONE X_GONE Sva Ava Eva Fva nva lva v_0 v_1 v_2) (d_prog_18_method_5_2) (tw hw 5 rfl) (tw hw 6 rfl) (tw hw 3 rfl) (tw hw 7 rfl) (by decide) (lenOf pd____Lcom_example_vervet_vervet_endpoints_Disabled_Reason_ rfl) #[.val (.ref a1), .val .null, .unset, .unset, .unset, .unset] [] rfl 0 rfl (by decide) (by decide) (by decide) (by decide)
  obtain ⟨b101, rfl, K101, A101⟩ := Q101
  have s102 := K101.1
  refine st101 _ ?_
  have l101 := nlt A101.lt
  refine g_astore_n B W101 (d_prog_18_method_5_5) rfl (l' := #[.val (.ref a1), .val .null, .val (.ref b101), .unset, .unset, .unset]) rfl ?_
  refine g_aload_n B W101 (d_prog_18_method_5_6) rfl rfl ?_
  refine g_alenK B W101 (d_prog_18_method_5_7) A101 lva ?_
  refine g_istore_n B W101 (d_prog_18_method_5_8)  (l' := #[.val (.ref a1), .val .null, .val (.ref b101), .val (.int 3), .unset, .unset]) rfl ?_
  refine g_iconst B W101 (d_prog_18_method_5_9) (v := 0) (by decide) ?_
  refine g_istore B W101 (d_prog_18_method_5_10)  (l' := #[.val (.ref a1), .val .null, .val (.ref b101), .val (.int 3), .val (.int 0), .unset]) rfl ?_
  refine g_iload B W101 (d_prog_18_method_5_12) rfl ?_
  refine g_iload_n B W101 (d_prog_18_method_5_14) rfl ?_
  refine g_icmp_n B W101 (d_prog_18_method_5_15) (XT.ii_ge_f (by decide)) ?_
  show Go p.tables e below _ T101 (mkF m 18 #[.val (.ref a1), .val .null, .val (.ref b101), .val (.int 3), .val (.int 0), .unset] [])
  refine g_aload_n B W101 (d_prog_18_method_5_18) rfl rfl ?_
  refine g_iload B W101 (d_prog_18_method_5_19) rfl ?_
  refine g_aaload B W101 (d_prog_18_method_5_21) A101 rfl (show ¬ ((0 : Int32) < 0 ∨ vc.slots.size ≤ Int32.toNatClampNeg 0) by rw [nva]; decide) v_0 ?_
  refine g_astore B W101 (d_prog_18_method_5_22) rfl (l' := #[.val (.ref a1), .val .null, .val (.ref b101), .val (.int 3), .val (.int 0), .val (.ref e_REQUESTED)]) rfl ?_
  refine g_aload B W101 (d_prog_18_method_5_24) rfl rfl ?_
  obtain ⟨T103, W103, st103⟩ := x_get B W101 (host := "") (d_prog_18_method_5_26) (Or.inl (tw hw 23 rfl)) Via.refl (F_REQUESTED.ext W101.old.2) #[.val (.ref a1), .val .null, .val (.ref b101), .val (.int 3), .val (.int 0), .val (.ref e_REQUESTED)] []
  refine st103 _ ?_
  refine g_aload_n B W103 (d_prog_18_method_5_29) rfl rfl ?_
  have f105 := (X_REQUESTED.ext W103.old.2)
  have f106 := (X1.keep ((Keep.refl h0 []).trans K101 all0))
  obtain ⟨T104, h104, v104, L104, W104, Q104, st104⟩ := x_virtualB B W103 (b := t_REQUESTED) (V := 0) (rc := 0) (rs := 0) (QL := fun v h' L => v = some (.int (bi (decide ([114, 101, 113, 117, 101, 115, 116, 101, 100] = [103, 111, 110, 101])))) ∧ L = [] ∧ h101 = h') [(.ref a1)] (fun s' hZ' => own_eqB hw f105 f106 (Scs.ext W103.old.2) hcz (tw hw 32 rfl) (by decide) (by decide) hZ') f105.exa (d_prog_18_method_5_30) (tw hw 25 rfl) (tw hw 26 rfl) (tw hw 28 rfl) (tw hw 27 rfl) (by decide) (lenOf pd__Ljava_lang_Object__Z rfl) #[.val (.ref a1), .val .null, .val (.ref b101), .val (.int 3), .val (.int 0), .val (.ref e_REQUESTED)] [] rfl rfl (by decide) (by decide) [] all0 (fun _ _ _ q => ⟨q.2.1 ▸ Fr.nil _, q.2.2 ▸ Keep.refl _ _⟩)
  obtain ⟨rfl, -, rfl⟩ := Q104
  refine st104 _ ?_
  refine g_if_y B W104 (d_prog_18_method_5_33) (XT.i0_eq_t (bi_f (by decide))) (pc' := 39) (by decide) ?_
  show Go p.tables e below _ T104 (mkF m 39 #[.val (.ref a1), .val .null, .val (.ref b101), .val (.int 3), .val (.int 0), .val (.ref e_REQUESTED)] [])
  refine g_iinc B W104 (d_prog_18_method_5_39) (v := 1) (l' := #[.val (.ref a1), .val .null, .val (.ref b101), .val (.int 3), .val (.int (0 + 1)), .val (.ref e_REQUESTED)]) (by decide) rfl rfl ?_
  rw [show (0 + 1 : Int32) = 1 by decide]
  refine g_goto B W104 (d_prog_18_method_5_42) (pc' := 12) (by decide) ?_
  show Go p.tables e below _ T104 (mkF m 12 #[.val (.ref a1), .val .null, .val (.ref b101), .val (.int 3), .val (.int 1), .val (.ref e_REQUESTED)] [])
  refine g_iload B W104 (d_prog_18_method_5_12) rfl ?_
  refine g_iload_n B W104 (d_prog_18_method_5_14) rfl ?_
  refine g_icmp_n B W104 (d_prog_18_method_5_15) (XT.ii_ge_f (by decide)) ?_
  show Go p.tables e below _ T104 (mkF m 18 #[.val (.ref a1), .val .null, .val (.ref b101), .val (.int 3), .val (.int 1), .val (.ref e_REQUESTED)] [])
  refine g_aload_n B W104 (d_prog_18_method_5_18) rfl rfl ?_
  refine g_iload B W104 (d_prog_18_method_5_19) rfl ?_
  refine g_aaload B W104 (d_prog_18_method_5_21) A101 rfl (show ¬ ((1 : Int32) < 0 ∨ vc.slots.size ≤ Int32.toNatClampNeg 1) by rw [nva]; decide) v_1 ?_
  refine g_astore B W104 (d_prog_18_method_5_22) rfl (l' := #[.val (.ref a1), .val .null, .val (.ref b101), .val (.int 3), .val (.int 1), .val (.ref e_RETRIES_EXHAUSTED)]) rfl ?_
  refine g_aload B W104 (d_prog_18_method_5_24) rfl rfl ?_
  obtain ⟨T107, W107, st107⟩ := x_get B W104 (host := "") (d_prog_18_method_5_26) (Or.inl (tw hw 23 rfl)) Via.refl (F_RETRIES_EXHAUSTED.ext W104.old.2) #[.val (.ref a1), .val .null, .val (.ref b101), .val (.int 3), .val (.int 1), .val (.ref e_RETRIES_EXHAUSTED)] []
  refine st107 _ ?_
  refine g_aload_n B W107 (d_prog_18_method_5_29) rfl rfl ?_
  have f109 := (X_RETRIES_EXHAUSTED.ext W107.old.2)
  obtain ⟨T108, h108, v108, L108, W108, Q108, st108⟩ := x_virtualB B W107 (b := t_RETRIES_EXHAUSTED) (V := 0) (rc := 0) (rs := 0) (QL := fun v h' L => v = some (.int (bi (decide ([114, 101, 116, 114, 105, 101, 115, 32, 101, 120, 104, 97, 117, 115, 116, 101, 100] = [103, 111, 110, 101])))) ∧ L = [] ∧ h101 = h') [(.ref a1)] (fun s' hZ' => own_eqB hw f109 f106 (Scs.ext W107.old.2) hcz (tw hw 32 rfl) (by decide) (by decide) hZ') f109.exa (d_prog_18_method_5_30) (tw hw 25 rfl) (tw hw 26 rfl) (tw hw 28 rfl) (tw hw 27 rfl) (by decide) (lenOf pd__Ljava_lang_Object__Z rfl) #[.val (.ref a1), .val .null, .val (.ref b101), .val (.int 3), .val (.int 1), .val (.ref e_RETRIES_EXHAUSTED)] [] rfl rfl (by decide) (by decide) [] all0 (fun _ _ _ q => ⟨q.2.1 ▸ Fr.nil _, q.2.2 ▸ Keep.refl _ _⟩)
  obtain ⟨rfl, -, rfl⟩ := Q108
  refine st108 _ ?_
  refine g_if_y B W108 (d_prog_18_method_5_33) (XT.i0_eq_t (bi_f (by decide))) (pc' := 39) (by decide) ?_
  show Go p.tables e below _ T108 (mkF m 39 #[.val (.ref a1), .val .null, .val (.ref b101), .val (.int 3), .val (.int 1), .val (.ref e_RETRIES_EXHAUSTED)] [])
  refine g_iinc B W108 (d_prog_18_method_5_39) (v := 1) (l' := #[.val (.ref a1), .val .null, .val (.ref b101), .val (.int 3), .val (.int (1 + 1)), .val (.ref e_RETRIES_EXHAUSTED)]) (by decide) rfl rfl ?_
  rw [show (1 + 1 : Int32) = 2 by decide]
  refine g_goto B W108 (d_prog_18_method_5_42) (pc' := 12) (by decide) ?_
  show Go p.tables e below _ T108 (mkF m 12 #[.val (.ref a1), .val .null, .val (.ref b101), .val (.int 3), .val (.int 2), .val (.ref e_RETRIES_EXHAUSTED)] [])
  refine g_iload B W108 (d_prog_18_method_5_12) rfl ?_
  refine g_iload_n B W108 (d_prog_18_method_5_14) rfl ?_
  refine g_icmp_n B W108 (d_prog_18_method_5_15) (XT.ii_ge_f (by decide)) ?_
  show Go p.tables e below _ T108 (mkF m 18 #[.val (.ref a1), .val .null, .val (.ref b101), .val (.int 3), .val (.int 2), .val (.ref e_RETRIES_EXHAUSTED)] [])
  refine g_aload_n B W108 (d_prog_18_method_5_18) rfl rfl ?_
  refine g_iload B W108 (d_prog_18_method_5_19) rfl ?_
  refine g_aaload B W108 (d_prog_18_method_5_21) A101 rfl (show ¬ ((2 : Int32) < 0 ∨ vc.slots.size ≤ Int32.toNatClampNeg 2) by rw [nva]; decide) v_2 ?_
  refine g_astore B W108 (d_prog_18_method_5_22) rfl (l' := #[.val (.ref a1), .val .null, .val (.ref b101), .val (.int 3), .val (.int 2), .val (.ref e_GONE)]) rfl ?_
  refine g_aload B W108 (d_prog_18_method_5_24) rfl rfl ?_
  obtain ⟨T110, W110, st110⟩ := x_get B W108 (host := "") (d_prog_18_method_5_26) (Or.inl (tw hw 23 rfl)) Via.refl (F_GONE.ext W108.old.2) #[.val (.ref a1), .val .null, .val (.ref b101), .val (.int 3), .val (.int 2), .val (.ref e_GONE)] []
  refine st110 _ ?_
  refine g_aload_n B W110 (d_prog_18_method_5_29) rfl rfl ?_
  have f112 := (X_GONE.ext W110.old.2)
  obtain ⟨T111, h111, v111, L111, W111, Q111, st111⟩ := x_virtualB B W110 (b := t_GONE) (V := 0) (rc := 0) (rs := 0) (QL := fun v h' L => v = some (.int (bi (decide ([103, 111, 110, 101] = [103, 111, 110, 101])))) ∧ L = [] ∧ h101 = h') [(.ref a1)] (fun s' hZ' => own_eqB hw f112 f106 (Scs.ext W110.old.2) hcz (tw hw 32 rfl) (by decide) (by decide) hZ') f112.exa (d_prog_18_method_5_30) (tw hw 25 rfl) (tw hw 26 rfl) (tw hw 28 rfl) (tw hw 27 rfl) (by decide) (lenOf pd__Ljava_lang_Object__Z rfl) #[.val (.ref a1), .val .null, .val (.ref b101), .val (.int 3), .val (.int 2), .val (.ref e_GONE)] [] rfl rfl (by decide) (by decide) [] all0 (fun _ _ _ q => ⟨q.2.1 ▸ Fr.nil _, q.2.2 ▸ Keep.refl _ _⟩)
  obtain ⟨rfl, -, rfl⟩ := Q111
  refine st111 _ ?_
  refine g_if_n B W111 (d_prog_18_method_5_33) (XT.i0_eq_f (bi_t (by decide))) ?_
  show Go p.tables e below _ T111 (mkF m 36 #[.val (.ref a1), .val .null, .val (.ref b101), .val (.int 3), .val (.int 2), .val (.ref e_GONE)] [])
  refine g_aload B W111 (d_prog_18_method_5_36) rfl rfl ?_
  refine g_astore_n B W111 (d_prog_18_method_5_38) rfl (l' := #[.val (.ref a1), .val (.ref e_GONE), .val (.ref b101), .val (.int 3), .val (.int 2), .val (.ref e_GONE)]) rfl ?_
  refine g_iinc B W111 (d_prog_18_method_5_39) (v := 1) (l' := #[.val (.ref a1), .val (.ref e_GONE), .val (.ref b101), .val (.int 3), .val (.int (2 + 1)), .val (.ref e_GONE)]) (by decide) rfl rfl ?_
  rw [show (2 + 1 : Int32) = 3 by decide]
  refine g_goto B W111 (d_prog_18_method_5_42) (pc' := 12) (by decide) ?_
  show Go p.tables e below _ T111 (mkF m 12 #[.val (.ref a1), .val (.ref e_GONE), .val (.ref b101), .val (.int 3), .val (.int 3), .val (.ref e_GONE)] [])
  refine g_iload B W111 (d_prog_18_method_5_12) rfl ?_
  refine g_iload_n B W111 (d_prog_18_method_5_14) rfl ?_
  refine g_icmp_y B W111 (d_prog_18_method_5_15) (XT.ii_ge_t (by decide)) (pc' := 45) (by decide) ?_
  show Go p.tables e below _ T111 (mkF m 45 #[.val (.ref a1), .val (.ref e_GONE), .val (.ref b101), .val (.int 3), .val (.int 3), .val (.ref e_GONE)] [])
  refine g_aload_n B W111 (d_prog_18_method_5_45) rfl rfl ?_
  refine g_ifnull_n B W111 (d_prog_18_method_5_46)  ?_
  show Go p.tables e below _ T111 (mkF m 49 #[.val (.ref a1), .val (.ref e_GONE), .val (.ref b101), .val (.int 3), .val (.int 3), .val (.ref e_GONE)] [])
  refine g_aload_n B W111 (d_prog_18_method_5_49) rfl rfl ?_
  refine g_ifnonnull_y B W111 (d_prog_18_method_5_50) (pc' := 67) (by decide) ?_
  show Go p.tables e below _ T111 (mkF m 67 #[.val (.ref a1), .val (.ref e_GONE), .val (.ref b101), .val (.int 3), .val (.int 3), .val (.ref e_GONE)] [])
  refine g_aload_n B W111 (d_prog_18_method_5_67) rfl rfl ?_
  exact r_a B W111 rfl rfl rfl (d_prog_18_method_5_68) (by decide) (by decide) ⟨rfl, ((Keep.refl h0 []).trans K101 all0)⟩
theorem ef_of_null (m : MethodId) (cz : Int32) (e_REQUESTED : Addr) (e_RETRIES_EXHAUSTED : Addr) (e_GONE : Addr) (t_REQUESTED : Addr) (t_RETRIES_EXHAUSTED : Addr) (t_GONE : Addr) (va : Addr) (vc : Cell) : entryFrame m #[.null] 6 = mkF m 0 #[.val .null, .unset, .unset, .unset, .unset, .unset] [] := by first | (simp [entryFrame, mkF, argsToLocals, Value.category]; done) | rfl
def Q_of_null (Z : State) (cz : Int32) (e_REQUESTED : Addr) (e_RETRIES_EXHAUSTED : Addr) (e_GONE : Addr) (t_REQUESTED : Addr) (t_RETRIES_EXHAUSTED : Addr) (t_GONE : Addr) (va : Addr) (vc : Cell) (h0 : Heap) (v : Option Value) (h : Heap) : Prop := v = some .null ∧ Keep h0 h []
set_option maxRecDepth 65536 in
set_option maxHeartbeats 40000000 in
theorem c_of_null (l : Launch) (Z : State) (a0 : Array Value) (hw : ∀ d ∈ tables_1, d.before a0 Z = true) (cz : Int32) (e_REQUESTED : Addr) (e_RETRIES_EXHAUSTED : Addr) (e_GONE : Addr) (t_REQUESTED : Addr) (t_RETRIES_EXHAUSTED : Addr) (t_GONE : Addr) (va : Addr) (vc : Cell) (h0 : Heap) (Scs : Sta Z Z.heap "java/lang/String" "COMPACT_STRINGS" "Z" (.int cz)) (hcz : ¬ cz = 0) (S_REQUESTED : Sta Z Z.heap "com/example/vervet/vervet/endpoints/Disabled$Reason" "REQUESTED" "Lcom/example/vervet/vervet/endpoints/Disabled$Reason;" (.ref e_REQUESTED)) (E_REQUESTED : Exa Z Z.heap e_REQUESTED "com/example/vervet/vervet/endpoints/Disabled$Reason") (F_REQUESTED : Fld Z Z.heap e_REQUESTED "com/example/vervet/vervet/endpoints/Disabled$Reason" "text" "Ljava/lang/String;" (.ref t_REQUESTED)) (X_REQUESTED : StrIs Z Z.heap t_REQUESTED [114, 101, 113, 117, 101, 115, 116, 101, 100]) (S_RETRIES_EXHAUSTED : Sta Z Z.heap "com/example/vervet/vervet/endpoints/Disabled$Reason" "RETRIES_EXHAUSTED" "Lcom/example/vervet/vervet/endpoints/Disabled$Reason;" (.ref e_RETRIES_EXHAUSTED)) (E_RETRIES_EXHAUSTED : Exa Z Z.heap e_RETRIES_EXHAUSTED "com/example/vervet/vervet/endpoints/Disabled$Reason") (F_RETRIES_EXHAUSTED : Fld Z Z.heap e_RETRIES_EXHAUSTED "com/example/vervet/vervet/endpoints/Disabled$Reason" "text" "Ljava/lang/String;" (.ref t_RETRIES_EXHAUSTED)) (X_RETRIES_EXHAUSTED : StrIs Z Z.heap t_RETRIES_EXHAUSTED [114, 101, 116, 114, 105, 101, 115, 32, 101, 120, 104, 97, 117, 115, 116, 101, 100]) (S_GONE : Sta Z Z.heap "com/example/vervet/vervet/endpoints/Disabled$Reason" "GONE" "Lcom/example/vervet/vervet/endpoints/Disabled$Reason;" (.ref e_GONE)) (E_GONE : Exa Z Z.heap e_GONE "com/example/vervet/vervet/endpoints/Disabled$Reason") (F_GONE : Fld Z Z.heap e_GONE "com/example/vervet/vervet/endpoints/Disabled$Reason" "text" "Ljava/lang/String;" (.ref t_GONE)) (X_GONE : StrIs Z Z.heap t_GONE [103, 111, 110, 101]) (Sva : Sta Z Z.heap "com/example/vervet/vervet/endpoints/Disabled$Reason" "$VALUES" "[Lcom/example/vervet/vervet/endpoints/Disabled$Reason;" (.ref va)) (Ava : Arr Z Z.heap va vc (.object "com/example/vervet/vervet/endpoints/Disabled$Reason")) (Eva : Exa Z Z.heap va "[Lcom/example/vervet/vervet/endpoints/Disabled$Reason;") (Fva : FitC Z vc) (nva : vc.slots.size = 3) (lva : vc.slots.size.toInt32 = 3) (v_0 : vc.slots[0]? = some (.ref e_REQUESTED)) (v_1 : vc.slots[1]? = some (.ref e_RETRIES_EXHAUSTED)) (v_2 : vc.slots[2]? = some (.ref e_GONE)) :
    Con l Z (⟨"com/example/vervet/vervet/endpoints/Disabled$Reason", "of", "(Ljava/lang/String;)Lcom/example/vervet/vervet/endpoints/Disabled$Reason;"⟩ : MethodName) prog_18_method_5_code 6 (Option.some (FieldType.object "com/example/vervet/vervet/endpoints/Disabled$Reason")) [] ({ frames := 3, cells := 1, slots := 3, locals := 40 } : Room) #[.null] h0 (Q_of_null Z cz e_REQUESTED e_RETRIES_EXHAUSTED e_GONE t_REQUESTED t_RETRIES_EXHAUSTED t_GONE va vc h0) := by
  refine Con.of (plainFor_of_name pn_com_example_vervet_vervet_endpoints_Disabled_Reason) ?_
  intro p e s m below meth c T0 B W0
  refine Go.cast (ef_of_null m cz e_REQUESTED e_RETRIES_EXHAUSTED e_GONE t_REQUESTED t_RETRIES_EXHAUSTED t_GONE va vc) ?_
  refine g_aconst_null B W0 (d_prog_18_method_5_0)  ?_
  refine g_astore_n B W0 (d_prog_18_method_5_1) rfl (l' := #[.val .null, .val .null, .unset, .unset, .unset, .unset]) rfl ?_
  obtain ⟨T101, h101, v101, W101, Q101, st101⟩ := x_static B W0 [] (c_values l Z a0 hw e_REQUESTED e_RETRIES_EXHAUSTED e_GONE t_REQUESTED t_RETRIES_EXHAUSTED t_GONE va vc h0 S_REQUESTED E_REQUESTED F_REQUESTED X_REQUESTED S_RETRIES_EXHAUSTED E_RETRIES_EXHAUSTED F_RETRIES_EXHAUSTED X_RETRIES_EXHAUSTED S_GONE E_GONE F_GONE X_GONE Sva Ava Eva Fva nva lva v_0 v_1 v_2) (d_prog_18_method_5_2) (tw hw 5 rfl) (tw hw 6 rfl) (tw hw 3 rfl) (tw hw 7 rfl) (by decide) (lenOf pd____Lcom_example_vervet_vervet_endpoints_Disabled_Reason_ rfl) #[.val .null, .val .null, .unset, .unset, .unset, .unset] [] rfl 0 rfl (by decide) (by decide) (by decide) (by decide)
  obtain ⟨b101, rfl, K101, A101⟩ := Q101
  have s102 := K101.1
  refine st101 _ ?_
  have l101 := nlt A101.lt
  refine g_astore_n B W101 (d_prog_18_method_5_5) rfl (l' := #[.val .null, .val .null, .val (.ref b101), .unset, .unset, .unset]) rfl ?_
  refine g_aload_n B W101 (d_prog_18_method_5_6) rfl rfl ?_
  refine g_alenK B W101 (d_prog_18_method_5_7) A101 lva ?_
  refine g_istore_n B W101 (d_prog_18_method_5_8)  (l' := #[.val .null, .val .null, .val (.ref b101), .val (.int 3), .unset, .unset]) rfl ?_
  refine g_iconst B W101 (d_prog_18_method_5_9) (v := 0) (by decide) ?_
  refine g_istore B W101 (d_prog_18_method_5_10)  (l' := #[.val .null, .val .null, .val (.ref b101), .val (.int 3), .val (.int 0), .unset]) rfl ?_
  refine g_iload B W101 (d_prog_18_method_5_12) rfl ?_
  refine g_iload_n B W101 (d_prog_18_method_5_14) rfl ?_
  refine g_icmp_n B W101 (d_prog_18_method_5_15) (XT.ii_ge_f (by decide)) ?_
  show Go p.tables e below _ T101 (mkF m 18 #[.val .null, .val .null, .val (.ref b101), .val (.int 3), .val (.int 0), .unset] [])
  refine g_aload_n B W101 (d_prog_18_method_5_18) rfl rfl ?_
  refine g_iload B W101 (d_prog_18_method_5_19) rfl ?_
  refine g_aaload B W101 (d_prog_18_method_5_21) A101 rfl (show ¬ ((0 : Int32) < 0 ∨ vc.slots.size ≤ Int32.toNatClampNeg 0) by rw [nva]; decide) v_0 ?_
  refine g_astore B W101 (d_prog_18_method_5_22) rfl (l' := #[.val .null, .val .null, .val (.ref b101), .val (.int 3), .val (.int 0), .val (.ref e_REQUESTED)]) rfl ?_
  refine g_aload B W101 (d_prog_18_method_5_24) rfl rfl ?_
  obtain ⟨T103, W103, st103⟩ := x_get B W101 (host := "") (d_prog_18_method_5_26) (Or.inl (tw hw 23 rfl)) Via.refl (F_REQUESTED.ext W101.old.2) #[.val .null, .val .null, .val (.ref b101), .val (.int 3), .val (.int 0), .val (.ref e_REQUESTED)] []
  refine st103 _ ?_
  refine g_aload_n B W103 (d_prog_18_method_5_29) rfl rfl ?_
  have f105 := (X_REQUESTED.ext W103.old.2)
  have f104 := f105.exa
  obtain ⟨T106, h106, v106, W106, Q106, st106⟩ := x_virtual B W103 (b := t_REQUESTED) [.null] (c_eqNull l Z a0 hw t_REQUESTED h101) f104 (d_prog_18_method_5_30) (tw hw 25 rfl) (tw hw 26 rfl) (tw hw 28 rfl) (tw hw 27 rfl) (tw hw 29 rfl) (tw hw 30 rfl) (by decide) (lenOf pd__Ljava_lang_Object__Z rfl) #[.val .null, .val .null, .val (.ref b101), .val (.int 3), .val (.int 0), .val (.ref e_REQUESTED)] [] rfl 0 rfl (by decide) (by decide) (by decide) (by decide)
  obtain ⟨rfl, rfl⟩ := Q106
  refine st106 _ ?_
  refine g_if_y B W106 (d_prog_18_method_5_33) (XT.i0_eq_t rfl) (pc' := 39) (by decide) ?_
  show Go p.tables e below _ T106 (mkF m 39 #[.val .null, .val .null, .val (.ref b101), .val (.int 3), .val (.int 0), .val (.ref e_REQUESTED)] [])
  refine g_iinc B W106 (d_prog_18_method_5_39) (v := 1) (l' := #[.val .null, .val .null, .val (.ref b101), .val (.int 3), .val (.int (0 + 1)), .val (.ref e_REQUESTED)]) (by decide) rfl rfl ?_
  rw [show (0 + 1 : Int32) = 1 by decide]
  refine g_goto B W106 (d_prog_18_method_5_42) (pc' := 12) (by decide) ?_
  show Go p.tables e below _ T106 (mkF m 12 #[.val .null, .val .null, .val (.ref b101), .val (.int 3), .val (.int 1), .val (.ref e_REQUESTED)] [])
  refine g_iload B W106 (d_prog_18_method_5_12) rfl ?_
  refine g_iload_n B W106 (d_prog_18_method_5_14) rfl ?_
  refine g_icmp_n B W106 (d_prog_18_method_5_15) (XT.ii_ge_f (by decide)) ?_
  show Go p.tables e below _ T106 (mkF m 18 #[.val .null, .val .null, .val (.ref b101), .val (.int 3), .val (.int 1), .val (.ref e_REQUESTED)] [])
  refine g_aload_n B W106 (d_prog_18_method_5_18) rfl rfl ?_
  refine g_iload B W106 (d_prog_18_method_5_19) rfl ?_
  refine g_aaload B W106 (d_prog_18_method_5_21) A101 rfl (show ¬ ((1 : Int32) < 0 ∨ vc.slots.size ≤ Int32.toNatClampNeg 1) by rw [nva]; decide) v_1 ?_
  refine g_astore B W106 (d_prog_18_method_5_22) rfl (l' := #[.val .null, .val .null, .val (.ref b101), .val (.int 3), .val (.int 1), .val (.ref e_RETRIES_EXHAUSTED)]) rfl ?_
  refine g_aload B W106 (d_prog_18_method_5_24) rfl rfl ?_
  obtain ⟨T107, W107, st107⟩ := x_get B W106 (host := "") (d_prog_18_method_5_26) (Or.inl (tw hw 23 rfl)) Via.refl (F_RETRIES_EXHAUSTED.ext W106.old.2) #[.val .null, .val .null, .val (.ref b101), .val (.int 3), .val (.int 1), .val (.ref e_RETRIES_EXHAUSTED)] []
  refine st107 _ ?_
  refine g_aload_n B W107 (d_prog_18_method_5_29) rfl rfl ?_
  have f109 := (X_RETRIES_EXHAUSTED.ext W107.old.2)
  have f108 := f109.exa
  obtain ⟨T110, h110, v110, W110, Q110, st110⟩ := x_virtual B W107 (b := t_RETRIES_EXHAUSTED) [.null] (c_eqNull l Z a0 hw t_RETRIES_EXHAUSTED h101) f108 (d_prog_18_method_5_30) (tw hw 25 rfl) (tw hw 26 rfl) (tw hw 28 rfl) (tw hw 27 rfl) (tw hw 29 rfl) (tw hw 30 rfl) (by decide) (lenOf pd__Ljava_lang_Object__Z rfl) #[.val .null, .val .null, .val (.ref b101), .val (.int 3), .val (.int 1), .val (.ref e_RETRIES_EXHAUSTED)] [] rfl 0 rfl (by decide) (by decide) (by decide) (by decide)
  obtain ⟨rfl, rfl⟩ := Q110
  refine st110 _ ?_
  refine g_if_y B W110 (d_prog_18_method_5_33) (XT.i0_eq_t rfl) (pc' := 39) (by decide) ?_
  show Go p.tables e below _ T110 (mkF m 39 #[.val .null, .val .null, .val (.ref b101), .val (.int 3), .val (.int 1), .val (.ref e_RETRIES_EXHAUSTED)] [])
  refine g_iinc B W110 (d_prog_18_method_5_39) (v := 1) (l' := #[.val .null, .val .null, .val (.ref b101), .val (.int 3), .val (.int (1 + 1)), .val (.ref e_RETRIES_EXHAUSTED)]) (by decide) rfl rfl ?_
  rw [show (1 + 1 : Int32) = 2 by decide]
  refine g_goto B W110 (d_prog_18_method_5_42) (pc' := 12) (by decide) ?_
  show Go p.tables e below _ T110 (mkF m 12 #[.val .null, .val .null, .val (.ref b101), .val (.int 3), .val (.int 2), .val (.ref e_RETRIES_EXHAUSTED)] [])
  refine g_iload B W110 (d_prog_18_method_5_12) rfl ?_
  refine g_iload_n B W110 (d_prog_18_method_5_14) rfl ?_
  refine g_icmp_n B W110 (d_prog_18_method_5_15) (XT.ii_ge_f (by decide)) ?_
  show Go p.tables e below _ T110 (mkF m 18 #[.val .null, .val .null, .val (.ref b101), .val (.int 3), .val (.int 2), .val (.ref e_RETRIES_EXHAUSTED)] [])
  refine g_aload_n B W110 (d_prog_18_method_5_18) rfl rfl ?_
  refine g_iload B W110 (d_prog_18_method_5_19) rfl ?_
  refine g_aaload B W110 (d_prog_18_method_5_21) A101 rfl (show ¬ ((2 : Int32) < 0 ∨ vc.slots.size ≤ Int32.toNatClampNeg 2) by rw [nva]; decide) v_2 ?_
  refine g_astore B W110 (d_prog_18_method_5_22) rfl (l' := #[.val .null, .val .null, .val (.ref b101), .val (.int 3), .val (.int 2), .val (.ref e_GONE)]) rfl ?_
  refine g_aload B W110 (d_prog_18_method_5_24) rfl rfl ?_
  obtain ⟨T111, W111, st111⟩ := x_get B W110 (host := "") (d_prog_18_method_5_26) (Or.inl (tw hw 23 rfl)) Via.refl (F_GONE.ext W110.old.2) #[.val .null, .val .null, .val (.ref b101), .val (.int 3), .val (.int 2), .val (.ref e_GONE)] []
  refine st111 _ ?_
  refine g_aload_n B W111 (d_prog_18_method_5_29) rfl rfl ?_
  have f113 := (X_GONE.ext W111.old.2)
  have f112 := f113.exa
  obtain ⟨T114, h114, v114, W114, Q114, st114⟩ := x_virtual B W111 (b := t_GONE) [.null] (c_eqNull l Z a0 hw t_GONE h101) f112 (d_prog_18_method_5_30) (tw hw 25 rfl) (tw hw 26 rfl) (tw hw 28 rfl) (tw hw 27 rfl) (tw hw 29 rfl) (tw hw 30 rfl) (by decide) (lenOf pd__Ljava_lang_Object__Z rfl) #[.val .null, .val .null, .val (.ref b101), .val (.int 3), .val (.int 2), .val (.ref e_GONE)] [] rfl 0 rfl (by decide) (by decide) (by decide) (by decide)
  obtain ⟨rfl, rfl⟩ := Q114
  refine st114 _ ?_
  refine g_if_y B W114 (d_prog_18_method_5_33) (XT.i0_eq_t rfl) (pc' := 39) (by decide) ?_
  show Go p.tables e below _ T114 (mkF m 39 #[.val .null, .val .null, .val (.ref b101), .val (.int 3), .val (.int 2), .val (.ref e_GONE)] [])
  refine g_iinc B W114 (d_prog_18_method_5_39) (v := 1) (l' := #[.val .null, .val .null, .val (.ref b101), .val (.int 3), .val (.int (2 + 1)), .val (.ref e_GONE)]) (by decide) rfl rfl ?_
  rw [show (2 + 1 : Int32) = 3 by decide]
  refine g_goto B W114 (d_prog_18_method_5_42) (pc' := 12) (by decide) ?_
  show Go p.tables e below _ T114 (mkF m 12 #[.val .null, .val .null, .val (.ref b101), .val (.int 3), .val (.int 3), .val (.ref e_GONE)] [])
  refine g_iload B W114 (d_prog_18_method_5_12) rfl ?_
  refine g_iload_n B W114 (d_prog_18_method_5_14) rfl ?_
  refine g_icmp_y B W114 (d_prog_18_method_5_15) (XT.ii_ge_t (by decide)) (pc' := 45) (by decide) ?_
  show Go p.tables e below _ T114 (mkF m 45 #[.val .null, .val .null, .val (.ref b101), .val (.int 3), .val (.int 3), .val (.ref e_GONE)] [])
  refine g_aload_n B W114 (d_prog_18_method_5_45) rfl rfl ?_
  refine g_ifnull_y B W114 (d_prog_18_method_5_46) (pc' := 67) (by decide) ?_
  show Go p.tables e below _ T114 (mkF m 67 #[.val .null, .val .null, .val (.ref b101), .val (.int 3), .val (.int 3), .val (.ref e_GONE)] [])
  refine g_aload_n B W114 (d_prog_18_method_5_67) rfl rfl ?_
  exact r_a B W114 rfl rfl rfl (d_prog_18_method_5_68) (by decide) (by decide) ⟨rfl, ((Keep.refl h0 []).trans K101 all0)⟩
theorem ef_law (m : MethodId) (p1 : Int32) (cz : Int32) (e_REQUESTED : Addr) (e_RETRIES_EXHAUSTED : Addr) (e_GONE : Addr) (t_REQUESTED : Addr) (t_RETRIES_EXHAUSTED : Addr) (t_GONE : Addr) (va : Addr) (vc : Cell) : entryFrame m #[(.int p1)] maxLocals = mkF m 0 #[.val (.int p1), .unset, .unset, .unset, .unset] [] := by first | (simp [entryFrame, mkF, argsToLocals, Value.category, maxLocals]; done) | rfl
def Q_law (Z : State) (p1 : Int32) (cz : Int32) (e_REQUESTED : Addr) (e_RETRIES_EXHAUSTED : Addr) (e_GONE : Addr) (t_REQUESTED : Addr) (t_RETRIES_EXHAUSTED : Addr) (t_GONE : Addr) (va : Addr) (vc : Cell) (h0 : Heap) (v : Option Value) (h : Heap) : Prop := v = some (.int 1)
set_option maxRecDepth 65536 in
set_option maxHeartbeats 40000000 in
theorem c_law (l : Launch) (Z : State) (a0 : Array Value) (hw : ∀ d ∈ tables_1, d.before a0 Z = true) (ws : List Jvm.Cond) (p1 : Int32) (cz : Int32) (e_REQUESTED : Addr) (e_RETRIES_EXHAUSTED : Addr) (e_GONE : Addr) (t_REQUESTED : Addr) (t_RETRIES_EXHAUSTED : Addr) (t_GONE : Addr) (va : Addr) (vc : Cell) (h0 : Heap) (Scs : Sta Z Z.heap "java/lang/String" "COMPACT_STRINGS" "Z" (.int cz)) (hcz : ¬ cz = 0) (S_REQUESTED : Sta Z Z.heap "com/example/vervet/vervet/endpoints/Disabled$Reason" "REQUESTED" "Lcom/example/vervet/vervet/endpoints/Disabled$Reason;" (.ref e_REQUESTED)) (E_REQUESTED : Exa Z Z.heap e_REQUESTED "com/example/vervet/vervet/endpoints/Disabled$Reason") (F_REQUESTED : Fld Z Z.heap e_REQUESTED "com/example/vervet/vervet/endpoints/Disabled$Reason" "text" "Ljava/lang/String;" (.ref t_REQUESTED)) (X_REQUESTED : StrIs Z Z.heap t_REQUESTED [114, 101, 113, 117, 101, 115, 116, 101, 100]) (S_RETRIES_EXHAUSTED : Sta Z Z.heap "com/example/vervet/vervet/endpoints/Disabled$Reason" "RETRIES_EXHAUSTED" "Lcom/example/vervet/vervet/endpoints/Disabled$Reason;" (.ref e_RETRIES_EXHAUSTED)) (E_RETRIES_EXHAUSTED : Exa Z Z.heap e_RETRIES_EXHAUSTED "com/example/vervet/vervet/endpoints/Disabled$Reason") (F_RETRIES_EXHAUSTED : Fld Z Z.heap e_RETRIES_EXHAUSTED "com/example/vervet/vervet/endpoints/Disabled$Reason" "text" "Ljava/lang/String;" (.ref t_RETRIES_EXHAUSTED)) (X_RETRIES_EXHAUSTED : StrIs Z Z.heap t_RETRIES_EXHAUSTED [114, 101, 116, 114, 105, 101, 115, 32, 101, 120, 104, 97, 117, 115, 116, 101, 100]) (S_GONE : Sta Z Z.heap "com/example/vervet/vervet/endpoints/Disabled$Reason" "GONE" "Lcom/example/vervet/vervet/endpoints/Disabled$Reason;" (.ref e_GONE)) (E_GONE : Exa Z Z.heap e_GONE "com/example/vervet/vervet/endpoints/Disabled$Reason") (F_GONE : Fld Z Z.heap e_GONE "com/example/vervet/vervet/endpoints/Disabled$Reason" "text" "Ljava/lang/String;" (.ref t_GONE)) (X_GONE : StrIs Z Z.heap t_GONE [103, 111, 110, 101]) (Sva : Sta Z Z.heap "com/example/vervet/vervet/endpoints/Disabled$Reason" "$VALUES" "[Lcom/example/vervet/vervet/endpoints/Disabled$Reason;" (.ref va)) (Ava : Arr Z Z.heap va vc (.object "com/example/vervet/vervet/endpoints/Disabled$Reason")) (Eva : Exa Z Z.heap va "[Lcom/example/vervet/vervet/endpoints/Disabled$Reason;") (Fva : FitC Z vc) (nva : vc.slots.size = 3) (lva : vc.slots.size.toInt32 = 3) (v_0 : vc.slots[0]? = some (.ref e_REQUESTED)) (v_1 : vc.slots[1]? = some (.ref e_RETRIES_EXHAUSTED)) (v_2 : vc.slots[2]? = some (.ref e_GONE)) :
    Con l Z x code maxLocals ret ws room_1 #[(.int p1)] h0 (Q_law Z p1 cz e_REQUESTED e_RETRIES_EXHAUSTED e_GONE t_REQUESTED t_RETRIES_EXHAUSTED t_GONE va vc h0) := by
  refine Con.of (plainFor_of_name pn_com_example_vervet_vervet_endpoints_ReasonOfPinLaw) ?_
  intro p e s m below meth c T0 B W0
  refine Go.cast (ef_law m p1 cz e_REQUESTED e_RETRIES_EXHAUSTED e_GONE t_REQUESTED t_RETRIES_EXHAUSTED t_GONE va vc) ?_
  refine g_iload_n B W0 at_0 rfl ?_
  refine g_ldcI B W0 at_1 (tw hw 0 rfl) ?_
  refine g_iand B W0 at_3  ?_
  refine g_iconst B W0 at_4 (v := 4) (by decide) ?_
  refine g_irem B W0 at_5 (by decide) ?_
  generalize ey101 : ((p1 &&& 2147483647) % 4) = n101
  show Go p.tables e below _ T0 (mkF m 6 #[.val (.int p1), .unset, .unset, .unset, .unset] [(.int n101)])
  refine g_istore_n B W0 at_6  (l' := #[.val (.int p1), .val (.int n101), .unset, .unset, .unset]) rfl ?_
  refine g_iload_n B W0 at_7 rfl ?_
  by_cases hc102 : n101 = 0
  · skip
    refine g_if_n B W0 at_8 (XT.i0_ne_f hc102) ?_
    show Go p.tables e below _ T0 (mkF m 11 #[.val (.int p1), .val (.int n101), .unset, .unset, .unset] [])
    refine g_aconst_null B W0 at_11  ?_
    obtain ⟨T103, h103, v103, W103, Q103, st103⟩ := x_static B W0 [.null] (c_of_null l Z a0 hw cz e_REQUESTED e_RETRIES_EXHAUSTED e_GONE t_REQUESTED t_RETRIES_EXHAUSTED t_GONE va vc h0 Scs hcz S_REQUESTED E_REQUESTED F_REQUESTED X_REQUESTED S_RETRIES_EXHAUSTED E_RETRIES_EXHAUSTED F_RETRIES_EXHAUSTED X_RETRIES_EXHAUSTED S_GONE E_GONE F_GONE X_GONE Sva Ava Eva Fva nva lva v_0 v_1 v_2) at_12 (tw hw 1 rfl) (tw hw 2 rfl) (tw hw 3 rfl) (tw hw 4 rfl) (by decide) (lenOf pd__Ljava_lang_String__Lcom_example_vervet_vervet_endpoints_Disabled_Reason_ rfl) #[.val (.int p1), .val (.int n101), .unset, .unset, .unset] [] rfl 0 rfl (by decide) (by decide) (by decide) (by decide)
    obtain ⟨rfl, K103⟩ := Q103
    have s104 := K103.1
    refine st103 _ ?_
    refine g_ifnonnull_n B W103 at_15  ?_
    show Go p.tables e below _ T103 (mkF m 18 #[.val (.int p1), .val (.int n101), .unset, .unset, .unset] [])
    refine g_iconst B W103 at_18 (v := 1) (by decide) ?_
    refine g_goto B W103 at_19 (pc' := 23) (by decide) ?_
    show Go p.tables e below _ T103 (mkF m 23 #[.val (.int p1), .val (.int n101), .unset, .unset, .unset] [(.int 1)])
    exact r_n B W103 (t := .boolean) rfl (by simp) at_23 (by decide) (by decide) (by show some (Value.int (nar .boolean 1)) = _; rw [nar_b1])
  · skip
    refine g_if_y B W0 at_8 (XT.i0_ne_t hc102) (pc' := 24) (by decide) ?_
    show Go p.tables e below _ T0 (mkF m 24 #[.val (.int p1), .val (.int n101), .unset, .unset, .unset] [])
    refine g_iload_n B W0 at_24 rfl ?_
    refine g_iconst B W0 at_25 (v := 1) (by decide) ?_
    by_cases hc105 : n101 = 1
    · skip
      refine g_icmp_n B W0 at_26 (XT.ii_ne_f hc105) ?_
      show Go p.tables e below _ T0 (mkF m 29 #[.val (.int p1), .val (.int n101), .unset, .unset, .unset] [])
      obtain ⟨T106, h106, b106, gb106, W106, K106, E106, D106, st106⟩ := x_new B W0 at_29 (tw hw 31 rfl) (tw hw 32 rfl) (tw hw 29 rfl) (by decide) (by decide) #[.val (.int p1), .val (.int n101), .unset, .unset, .unset] []
      have l106 := nlt E106.lt
      have z106 := W0.size
      refine st106 _ ?_
      have s107 := K106.1
      have f108 : Fld Z h106 b106 "java/lang/String" "coder" "B" (.int 0) := D106 (Or.inr (tw hw 57 rfl)) (ty := .byte) (by decide)
      have f109 : Fld Z h106 b106 "java/lang/String" "value" "[B" .null := D106 (Or.inr (tw hw 59 rfl)) (ty := (.array .byte)) (by decide)
      refine g_dup B W106 at_32 rfl ?_
      refine g_bipush B W106 at_33 (v := 9) (by decide) ?_
      obtain ⟨T110, h110, b110, cA110, gb110, W110, K110, A110, st110⟩ := x_newA B W106 (z := 9) 9 at_35 (tw hw 33 rfl) (by decide) (by decide) (by decide) (by decide) (by decide) #[.val (.int p1), .val (.int n101), .unset, .unset, .unset] [(.ref b106), (.ref b106)]
      have l110 := nlt A110.lt
      have z110 := W106.size
      refine st110 _ ?_
      have s111 := K110.1
      refine g_dup B W110 at_37 rfl ?_
      refine g_iconst B W110 at_38 (v := 0) (by decide) ?_
      refine g_bipush B W110 at_39 (v := 114) (by decide) ?_
      obtain ⟨T112, h112, W112, K112, A112, st112⟩ := x_castore B W110 (j := 0) (x := 114) at_41 A110 (by decide) (Nat.lt_of_lt_of_eq (show Int32.toNatClampNeg 0 < 9 by decide) rfl) (by omega) #[.val (.int p1), .val (.int n101), .unset, .unset, .unset] [(.ref b110), (.ref b106), (.ref b106)]
      refine st112 _ ?_
      rw [show nar .char 114 = 114 by decide] at A112
      have A112 : Arv Z h112 b110 cA110 .char 9 [(.int 114), (.int 0), (.int 0), (.int 0), (.int 0), (.int 0), (.int 0), (.int 0), (.int 0)] (.int 0) := A112
      have s113 := K112.1
      refine g_dup B W112 at_42 rfl ?_
      refine g_iconst B W112 at_43 (v := 1) (by decide) ?_
      refine g_bipush B W112 at_44 (v := 101) (by decide) ?_
      obtain ⟨T114, h114, W114, K114, A114, st114⟩ := x_castore B W112 (j := 1) (x := 101) at_46 A112 (by decide) (Nat.lt_of_lt_of_eq (show Int32.toNatClampNeg 1 < 9 by decide) rfl) (by omega) #[.val (.int p1), .val (.int n101), .unset, .unset, .unset] [(.ref b110), (.ref b106), (.ref b106)]
      refine st114 _ ?_
      rw [show nar .char 101 = 101 by decide] at A114
      have A114 : Arv Z h114 b110 cA110 .char 9 [(.int 114), (.int 101), (.int 0), (.int 0), (.int 0), (.int 0), (.int 0), (.int 0), (.int 0)] (.int 0) := A114
      have s115 := K114.1
      refine g_dup B W114 at_47 rfl ?_
      refine g_iconst B W114 at_48 (v := 2) (by decide) ?_
      refine g_bipush B W114 at_49 (v := 113) (by decide) ?_
      obtain ⟨T116, h116, W116, K116, A116, st116⟩ := x_castore B W114 (j := 2) (x := 113) at_51 A114 (by decide) (Nat.lt_of_lt_of_eq (show Int32.toNatClampNeg 2 < 9 by decide) rfl) (by omega) #[.val (.int p1), .val (.int n101), .unset, .unset, .unset] [(.ref b110), (.ref b106), (.ref b106)]
      refine st116 _ ?_
      rw [show nar .char 113 = 113 by decide] at A116
      have A116 : Arv Z h116 b110 cA110 .char 9 [(.int 114), (.int 101), (.int 113), (.int 0), (.int 0), (.int 0), (.int 0), (.int 0), (.int 0)] (.int 0) := A116
      have s117 := K116.1
      refine g_dup B W116 at_52 rfl ?_
      refine g_iconst B W116 at_53 (v := 3) (by decide) ?_
      refine g_bipush B W116 at_54 (v := 117) (by decide) ?_
      obtain ⟨T118, h118, W118, K118, A118, st118⟩ := x_castore B W116 (j := 3) (x := 117) at_56 A116 (by decide) (Nat.lt_of_lt_of_eq (show Int32.toNatClampNeg 3 < 9 by decide) rfl) (by omega) #[.val (.int p1), .val (.int n101), .unset, .unset, .unset] [(.ref b110), (.ref b106), (.ref b106)]
      refine st118 _ ?_
      rw [show nar .char 117 = 117 by decide] at A118
      have A118 : Arv Z h118 b110 cA110 .char 9 [(.int 114), (.int 101), (.int 113), (.int 117), (.int 0), (.int 0), (.int 0), (.int 0), (.int 0)] (.int 0) := A118
      have s119 := K118.1
      refine g_dup B W118 at_57 rfl ?_
      refine g_iconst B W118 at_58 (v := 4) (by decide) ?_
      refine g_bipush B W118 at_59 (v := 101) (by decide) ?_
      obtain ⟨T120, h120, W120, K120, A120, st120⟩ := x_castore B W118 (j := 4) (x := 101) at_61 A118 (by decide) (Nat.lt_of_lt_of_eq (show Int32.toNatClampNeg 4 < 9 by decide) rfl) (by omega) #[.val (.int p1), .val (.int n101), .unset, .unset, .unset] [(.ref b110), (.ref b106), (.ref b106)]
      refine st120 _ ?_
      rw [show nar .char 101 = 101 by decide] at A120
      have A120 : Arv Z h120 b110 cA110 .char 9 [(.int 114), (.int 101), (.int 113), (.int 117), (.int 101), (.int 0), (.int 0), (.int 0), (.int 0)] (.int 0) := A120
      have s121 := K120.1
      refine g_dup B W120 at_62 rfl ?_
      refine g_iconst B W120 at_63 (v := 5) (by decide) ?_
      refine g_bipush B W120 at_64 (v := 115) (by decide) ?_
      obtain ⟨T122, h122, W122, K122, A122, st122⟩ := x_castore B W120 (j := 5) (x := 115) at_66 A120 (by decide) (Nat.lt_of_lt_of_eq (show Int32.toNatClampNeg 5 < 9 by decide) rfl) (by omega) #[.val (.int p1), .val (.int n101), .unset, .unset, .unset] [(.ref b110), (.ref b106), (.ref b106)]
      refine st122 _ ?_
      rw [show nar .char 115 = 115 by decide] at A122
      have A122 : Arv Z h122 b110 cA110 .char 9 [(.int 114), (.int 101), (.int 113), (.int 117), (.int 101), (.int 115), (.int 0), (.int 0), (.int 0)] (.int 0) := A122
      have s123 := K122.1
      refine g_dup B W122 at_67 rfl ?_
      refine g_bipush B W122 at_68 (v := 6) (by decide) ?_
      refine g_bipush B W122 at_70 (v := 116) (by decide) ?_
      obtain ⟨T124, h124, W124, K124, A124, st124⟩ := x_castore B W122 (j := 6) (x := 116) at_72 A122 (by decide) (Nat.lt_of_lt_of_eq (show Int32.toNatClampNeg 6 < 9 by decide) rfl) (by omega) #[.val (.int p1), .val (.int n101), .unset, .unset, .unset] [(.ref b110), (.ref b106), (.ref b106)]
      refine st124 _ ?_
      rw [show nar .char 116 = 116 by decide] at A124
      have A124 : Arv Z h124 b110 cA110 .char 9 [(.int 114), (.int 101), (.int 113), (.int 117), (.int 101), (.int 115), (.int 116), (.int 0), (.int 0)] (.int 0) := A124
      have s125 := K124.1
      refine g_dup B W124 at_73 rfl ?_
      refine g_bipush B W124 at_74 (v := 7) (by decide) ?_
      refine g_bipush B W124 at_76 (v := 101) (by decide) ?_
      obtain ⟨T126, h126, W126, K126, A126, st126⟩ := x_castore B W124 (j := 7) (x := 101) at_78 A124 (by decide) (Nat.lt_of_lt_of_eq (show Int32.toNatClampNeg 7 < 9 by decide) rfl) (by omega) #[.val (.int p1), .val (.int n101), .unset, .unset, .unset] [(.ref b110), (.ref b106), (.ref b106)]
      refine st126 _ ?_
      rw [show nar .char 101 = 101 by decide] at A126
      have A126 : Arv Z h126 b110 cA110 .char 9 [(.int 114), (.int 101), (.int 113), (.int 117), (.int 101), (.int 115), (.int 116), (.int 101), (.int 0)] (.int 0) := A126
      have s127 := K126.1
      refine g_dup B W126 at_79 rfl ?_
      refine g_bipush B W126 at_80 (v := 8) (by decide) ?_
      refine g_bipush B W126 at_82 (v := 100) (by decide) ?_
      obtain ⟨T128, h128, W128, K128, A128, st128⟩ := x_castore B W126 (j := 8) (x := 100) at_84 A126 (by decide) (Nat.lt_of_lt_of_eq (show Int32.toNatClampNeg 8 < 9 by decide) rfl) (by omega) #[.val (.int p1), .val (.int n101), .unset, .unset, .unset] [(.ref b110), (.ref b106), (.ref b106)]
      refine st128 _ ?_
      rw [show nar .char 100 = 100 by decide] at A128
      have A128 : Arv Z h128 b110 cA110 .char 9 [(.int 114), (.int 101), (.int 113), (.int 117), (.int 101), (.int 115), (.int 116), (.int 101), (.int 100)] (.int 0) := A128
      have s129 := K128.1
      have f131 := ((((((((((E106.keep K110).keep K112).keep K114).keep K116).keep K118).keep K120).keep K122).keep K124).keep K126).keep K128)
      have f132 := (f109.keep K110 nin0)
      have f133 := (f132.keep K112 (ninS (nne (by have q := nlt f132.lt; omega)) nin0))
      have f134 := (f133.keep K114 (ninS (nne (by have q := nlt f133.lt; omega)) nin0))
      have f135 := (f134.keep K116 (ninS (nne (by have q := nlt f134.lt; omega)) nin0))
      have f136 := (f135.keep K118 (ninS (nne (by have q := nlt f135.lt; omega)) nin0))
      have f137 := (f136.keep K120 (ninS (nne (by have q := nlt f136.lt; omega)) nin0))
      have f138 := (f137.keep K122 (ninS (nne (by have q := nlt f137.lt; omega)) nin0))
      have f139 := (f138.keep K124 (ninS (nne (by have q := nlt f138.lt; omega)) nin0))
      have f140 := (f139.keep K126 (ninS (nne (by have q := nlt f139.lt; omega)) nin0))
      have f141 := (f140.keep K128 (ninS (nne (by have q := nlt f140.lt; omega)) nin0))
      have f142 := (f108.keep K110 nin0)
      have f143 := (f142.keep K112 (ninS (nne (by have q := nlt f142.lt; omega)) nin0))
      have f144 := (f143.keep K114 (ninS (nne (by have q := nlt f143.lt; omega)) nin0))
      have f145 := (f144.keep K116 (ninS (nne (by have q := nlt f144.lt; omega)) nin0))
      have f146 := (f145.keep K118 (ninS (nne (by have q := nlt f145.lt; omega)) nin0))
      have f147 := (f146.keep K120 (ninS (nne (by have q := nlt f146.lt; omega)) nin0))
      have f148 := (f147.keep K122 (ninS (nne (by have q := nlt f147.lt; omega)) nin0))
      have f149 := (f148.keep K124 (ninS (nne (by have q := nlt f148.lt; omega)) nin0))
      have f150 := (f149.keep K126 (ninS (nne (by have q := nlt f149.lt; omega)) nin0))
      have f151 := (f150.keep K128 (ninS (nne (by have q := nlt f150.lt; omega)) nin0))
      obtain ⟨T130, h130, v130, L130, W130, Q130, st130⟩ := x_specialB B W128 (b := b106) (rc := 1) (rs := 9) [(.ref b110)] (fun s' hZ' => StrChars.Road.backV (W := 1) hZ' (fun d hd => hw d (own_words d hd)) (kI := 4) (tw hw 32 rfl) (cs := ([114, 101, 113, 117, 101, 115, 116, 101, 100] : List Int32)) (bs := ([114, 101, 113, 117, 101, 115, 116, 101, 100] : List Int32).map (fun c => c.toInt8.toInt32)) (n := 9) (n0 := Z.heap.size) (by omega) W128.size f131 f141 f151 A128 (Scs.ext W128.old.2) hcz rfl (by decide) (by decide) (by decide) (by simp only [List.mem_cons, List.not_mem_nil, or_false]; rintro c (rfl | rfl | rfl | rfl | rfl | rfl | rfl | rfl | rfl) <;> first | assumption | decide) rfl (by decide) (by decide)) at_85 rfl (tw hw 34 rfl) (tw hw 35 rfl) (tw hw 36 rfl) (by decide) (lenOf pd___C_V rfl) #[.val (.int p1), .val (.int n101), .unset, .unset, .unset] [(.ref b106)] rfl rfl (by decide) (by decide) [b106] (allS (by omega) all0) (fun _ _ _ q => ⟨q.2.1, q.2.2.1⟩)
      obtain ⟨rfl, -, K130, E130, Fc130, t130, kb130, gt130, gu130, -, Fv130, A130⟩ := Q130
      refine st130 _ ?_
      have s152 := K130.1
      have lt130 := nlt A130.lt
      have S153 : StrIs Z h130 b106 [114, 101, 113, 117, 101, 115, 116, 101, 100] := ⟨t130, kb130, E130, Fc130, Fv130, A130, (by simp only [List.mem_cons, List.not_mem_nil, or_false]; rintro c (rfl | rfl | rfl | rfl | rfl | rfl | rfl | rfl | rfl) <;> first | assumption | decide), by simp⟩
      refine g_astore_n B W130 at_88 rfl (l' := #[.val (.int p1), .val (.int n101), .val (.ref b106), .unset, .unset]) rfl ?_
      obtain ⟨T154, W154, st154⟩ := x_gets B W130 (host := "") at_89 (Or.inl (tw hw 73 rfl)) Via.refl S_REQUESTED #[.val (.int p1), .val (.int n101), .val (.ref b106), .unset, .unset] []
      refine st154 _ ?_
      refine g_astore_n B W154 at_92 rfl (l' := #[.val (.int p1), .val (.int n101), .val (.ref b106), .val (.ref e_REQUESTED), .unset]) rfl ?_
      refine g_goto B W154 at_93 (pc' := 251) (by decide) ?_
      show Go p.tables e below _ T154 (mkF m 251 #[.val (.int p1), .val (.int n101), .val (.ref b106), .val (.ref e_REQUESTED), .unset] [])
      refine g_aload_n B W154 at_251 rfl rfl ?_
      obtain ⟨T155, h155, v155, W155, Q155, st155⟩ := x_static B W154 [(.ref b106)] (c_of_REQUESTED l Z a0 hw b106 cz e_REQUESTED e_RETRIES_EXHAUSTED e_GONE t_REQUESTED t_RETRIES_EXHAUSTED t_GONE va vc h130 Scs hcz S153 S_REQUESTED E_REQUESTED F_REQUESTED X_REQUESTED S_RETRIES_EXHAUSTED E_RETRIES_EXHAUSTED F_RETRIES_EXHAUSTED X_RETRIES_EXHAUSTED S_GONE E_GONE F_GONE X_GONE Sva Ava Eva Fva nva lva v_0 v_1 v_2) at_252 (tw hw 1 rfl) (tw hw 2 rfl) (tw hw 3 rfl) (tw hw 4 rfl) (by decide) (lenOf pd__Ljava_lang_String__Lcom_example_vervet_vervet_endpoints_Disabled_Reason_ rfl) #[.val (.int p1), .val (.int n101), .val (.ref b106), .val (.ref e_REQUESTED), .unset] [] rfl 0 rfl (by decide) (by decide) (by decide) (by decide)
      obtain ⟨rfl, K155⟩ := Q155
      have s156 := K155.1
      refine st155 _ ?_
      refine g_astore B W155 at_255 rfl (l' := #[.val (.int p1), .val (.int n101), .val (.ref b106), .val (.ref e_REQUESTED), .val (.ref e_REQUESTED)]) rfl ?_
      refine g_aload B W155 at_257 rfl rfl ?_
      refine g_aload_n B W155 at_259 rfl rfl ?_
      refine g_acmp_n B W155 at_260 rfl rfl (XT.aa_ne_f rfl) ?_
      show Go p.tables e below _ T155 (mkF m 263 #[.val (.int p1), .val (.int n101), .val (.ref b106), .val (.ref e_REQUESTED), .val (.ref e_REQUESTED)] [])
      refine g_aload B W155 at_263 rfl rfl ?_
      obtain ⟨T157, h157, v157, W157, Q157, st157⟩ := x_virtual B W155 (b := e_REQUESTED) [] (c_text l Z a0 hw e_REQUESTED t_REQUESTED h155 (F_REQUESTED.ext W155.old.2)) (E_REQUESTED.ext W155.old.2) at_265 (tw hw 66 rfl) (tw hw 67 rfl) (tw hw 69 rfl) (tw hw 68 rfl) (tw hw 3 rfl) (tw hw 70 rfl) (by decide) (lenOf pd___Ljava_lang_String_ rfl) #[.val (.int p1), .val (.int n101), .val (.ref b106), .val (.ref e_REQUESTED), .val (.ref e_REQUESTED)] [] rfl 0 rfl (by decide) (by decide) (by decide) (by decide)
      obtain ⟨rfl, rfl⟩ := Q157
      refine st157 _ ?_
      refine g_aload_n B W157 at_268 rfl rfl ?_
      have f159 := (X_REQUESTED.ext W157.old.2)
      have f160 := (S153.keep ((Keep.refl h130 []).trans K155 all0))
      obtain ⟨T158, h158, v158, L158, W158, Q158, st158⟩ := x_virtualB B W157 (b := t_REQUESTED) (V := 0) (rc := 0) (rs := 0) (QL := fun v h' L => v = some (.int (bi (decide ([114, 101, 113, 117, 101, 115, 116, 101, 100] = [114, 101, 113, 117, 101, 115, 116, 101, 100])))) ∧ L = [] ∧ h155 = h') [(.ref b106)] (fun s' hZ' => own_eqB hw f159 f160 (Scs.ext W157.old.2) hcz (tw hw 32 rfl) (by decide) (by decide) hZ') f159.exa at_269 (tw hw 71 rfl) (tw hw 26 rfl) (tw hw 28 rfl) (tw hw 27 rfl) (by decide) (lenOf pd__Ljava_lang_Object__Z rfl) #[.val (.int p1), .val (.int n101), .val (.ref b106), .val (.ref e_REQUESTED), .val (.ref e_REQUESTED)] [] rfl rfl (by decide) (by decide) [] all0 (fun _ _ _ q => ⟨q.2.1 ▸ Fr.nil _, q.2.2 ▸ Keep.refl _ _⟩)
      obtain ⟨rfl, -, rfl⟩ := Q158
      refine st158 _ ?_
      refine g_if_n B W158 at_272 (XT.i0_eq_f (bi_t (by decide))) ?_
      show Go p.tables e below _ T158 (mkF m 275 #[.val (.int p1), .val (.int n101), .val (.ref b106), .val (.ref e_REQUESTED), .val (.ref e_REQUESTED)] [])
      refine g_iconst B W158 at_275 (v := 1) (by decide) ?_
      refine g_goto B W158 at_276 (pc' := 280) (by decide) ?_
      show Go p.tables e below _ T158 (mkF m 280 #[.val (.int p1), .val (.int n101), .val (.ref b106), .val (.ref e_REQUESTED), .val (.ref e_REQUESTED)] [(.int 1)])
      exact r_n B W158 (t := .boolean) rfl (by simp) at_280 (by decide) (by decide) (by show some (Value.int (nar .boolean 1)) = _; rw [nar_b1])
    · skip
      refine g_icmp_y B W0 at_26 (XT.ii_ne_t hc105) (pc' := 96) (by decide) ?_
      show Go p.tables e below _ T0 (mkF m 96 #[.val (.int p1), .val (.int n101), .unset, .unset, .unset] [])
      refine g_iload_n B W0 at_96 rfl ?_
      refine g_iconst B W0 at_97 (v := 2) (by decide) ?_
      by_cases hc161 : n101 = 2
      · skip
        refine g_icmp_n B W0 at_98 (XT.ii_ne_f hc161) ?_
        show Go p.tables e below _ T0 (mkF m 101 #[.val (.int p1), .val (.int n101), .unset, .unset, .unset] [])
        obtain ⟨T162, h162, b162, gb162, W162, K162, E162, D162, st162⟩ := x_new B W0 at_101 (tw hw 31 rfl) (tw hw 32 rfl) (tw hw 29 rfl) (by decide) (by decide) #[.val (.int p1), .val (.int n101), .unset, .unset, .unset] []
        have l162 := nlt E162.lt
        have z162 := W0.size
        refine st162 _ ?_
        have s163 := K162.1
        have f164 : Fld Z h162 b162 "java/lang/String" "coder" "B" (.int 0) := D162 (Or.inr (tw hw 57 rfl)) (ty := .byte) (by decide)
        have f165 : Fld Z h162 b162 "java/lang/String" "value" "[B" .null := D162 (Or.inr (tw hw 59 rfl)) (ty := (.array .byte)) (by decide)
        refine g_dup B W162 at_104 rfl ?_
        refine g_bipush B W162 at_105 (v := 17) (by decide) ?_
        obtain ⟨T166, h166, b166, cA166, gb166, W166, K166, A166, st166⟩ := x_newA B W162 (z := 17) 17 at_107 (tw hw 33 rfl) (by decide) (by decide) (by decide) (by decide) (by decide) #[.val (.int p1), .val (.int n101), .unset, .unset, .unset] [(.ref b162), (.ref b162)]
        have l166 := nlt A166.lt
        have z166 := W162.size
        refine st166 _ ?_
        have s167 := K166.1
        refine g_dup B W166 at_109 rfl ?_
        refine g_iconst B W166 at_110 (v := 0) (by decide) ?_
        refine g_bipush B W166 at_111 (v := 114) (by decide) ?_
        obtain ⟨T168, h168, W168, K168, A168, st168⟩ := x_castore B W166 (j := 0) (x := 114) at_113 A166 (by decide) (Nat.lt_of_lt_of_eq (show Int32.toNatClampNeg 0 < 17 by decide) rfl) (by omega) #[.val (.int p1), .val (.int n101), .unset, .unset, .unset] [(.ref b166), (.ref b162), (.ref b162)]
        refine st168 _ ?_
        rw [show nar .char 114 = 114 by decide] at A168
        have A168 : Arv Z h168 b166 cA166 .char 17 [(.int 114), (.int 0), (.int 0), (.int 0), (.int 0), (.int 0), (.int 0), (.int 0), (.int 0), (.int 0), (.int 0), (.int 0), (.int 0), (.int 0), (.int 0), (.int 0), (.int 0)] (.int 0) := A168
        have s169 := K168.1
        refine g_dup B W168 at_114 rfl ?_
        refine g_iconst B W168 at_115 (v := 1) (by decide) ?_
        refine g_bipush B W168 at_116 (v := 101) (by decide) ?_
        obtain ⟨T170, h170, W170, K170, A170, st170⟩ := x_castore B W168 (j := 1) (x := 101) at_118 A168 (by decide) (Nat.lt_of_lt_of_eq (show Int32.toNatClampNeg 1 < 17 by decide) rfl) (by omega) #[.val (.int p1), .val (.int n101), .unset, .unset, .unset] [(.ref b166), (.ref b162), (.ref b162)]
        refine st170 _ ?_
        rw [show nar .char 101 = 101 by decide] at A170
        have A170 : Arv Z h170 b166 cA166 .char 17 [(.int 114), (.int 101), (.int 0), (.int 0), (.int 0), (.int 0), (.int 0), (.int 0), (.int 0), (.int 0), (.int 0), (.int 0), (.int 0), (.int 0), (.int 0), (.int 0), (.int 0)] (.int 0) := A170
        have s171 := K170.1
        refine g_dup B W170 at_119 rfl ?_
        refine g_iconst B W170 at_120 (v := 2) (by decide) ?_
        refine g_bipush B W170 at_121 (v := 116) (by decide) ?_
        obtain ⟨T172, h172, W172, K172, A172, st172⟩ := x_castore B W170 (j := 2) (x := 116) at_123 A170 (by decide) (Nat.lt_of_lt_of_eq (show Int32.toNatClampNeg 2 < 17 by decide) rfl) (by omega) #[.val (.int p1), .val (.int n101), .unset, .unset, .unset] [(.ref b166), (.ref b162), (.ref b162)]
        refine st172 _ ?_
        rw [show nar .char 116 = 116 by decide] at A172
        have A172 : Arv Z h172 b166 cA166 .char 17 [(.int 114), (.int 101), (.int 116), (.int 0), (.int 0), (.int 0), (.int 0), (.int 0), (.int 0), (.int 0), (.int 0), (.int 0), (.int 0), (.int 0), (.int 0), (.int 0), (.int 0)] (.int 0) := A172
        have s173 := K172.1
        refine g_dup B W172 at_124 rfl ?_
        refine g_iconst B W172 at_125 (v := 3) (by decide) ?_
        refine g_bipush B W172 at_126 (v := 114) (by decide) ?_
        obtain ⟨T174, h174, W174, K174, A174, st174⟩ := x_castore B W172 (j := 3) (x := 114) at_128 A172 (by decide) (Nat.lt_of_lt_of_eq (show Int32.toNatClampNeg 3 < 17 by decide) rfl) (by omega) #[.val (.int p1), .val (.int n101), .unset, .unset, .unset] [(.ref b166), (.ref b162), (.ref b162)]
        refine st174 _ ?_
        rw [show nar .char 114 = 114 by decide] at A174
        have A174 : Arv Z h174 b166 cA166 .char 17 [(.int 114), (.int 101), (.int 116), (.int 114), (.int 0), (.int 0), (.int 0), (.int 0), (.int 0), (.int 0), (.int 0), (.int 0), (.int 0), (.int 0), (.int 0), (.int 0), (.int 0)] (.int 0) := A174
        have s175 := K174.1
        refine g_dup B W174 at_129 rfl ?_
        refine g_iconst B W174 at_130 (v := 4) (by decide) ?_
        refine g_bipush B W174 at_131 (v := 105) (by decide) ?_
        obtain ⟨T176, h176, W176, K176, A176, st176⟩ := x_castore B W174 (j := 4) (x := 105) at_133 A174 (by decide) (Nat.lt_of_lt_of_eq (show Int32.toNatClampNeg 4 < 17 by decide) rfl) (by omega) #[.val (.int p1), .val (.int n101), .unset, .unset, .unset] [(.ref b166), (.ref b162), (.ref b162)]
        refine st176 _ ?_
        rw [show nar .char 105 = 105 by decide] at A176
        have A176 : Arv Z h176 b166 cA166 .char 17 [(.int 114), (.int 101), (.int 116), (.int 114), (.int 105), (.int 0), (.int 0), (.int 0), (.int 0), (.int 0), (.int 0), (.int 0), (.int 0), (.int 0), (.int 0), (.int 0), (.int 0)] (.int 0) := A176
        have s177 := K176.1
        refine g_dup B W176 at_134 rfl ?_
        refine g_iconst B W176 at_135 (v := 5) (by decide) ?_
        refine g_bipush B W176 at_136 (v := 101) (by decide) ?_
        obtain ⟨T178, h178, W178, K178, A178, st178⟩ := x_castore B W176 (j := 5) (x := 101) at_138 A176 (by decide) (Nat.lt_of_lt_of_eq (show Int32.toNatClampNeg 5 < 17 by decide) rfl) (by omega) #[.val (.int p1), .val (.int n101), .unset, .unset, .unset] [(.ref b166), (.ref b162), (.ref b162)]
        refine st178 _ ?_
        rw [show nar .char 101 = 101 by decide] at A178
        have A178 : Arv Z h178 b166 cA166 .char 17 [(.int 114), (.int 101), (.int 116), (.int 114), (.int 105), (.int 101), (.int 0), (.int 0), (.int 0), (.int 0), (.int 0), (.int 0), (.int 0), (.int 0), (.int 0), (.int 0), (.int 0)] (.int 0) := A178
        have s179 := K178.1
        refine g_dup B W178 at_139 rfl ?_
        refine g_bipush B W178 at_140 (v := 6) (by decide) ?_
        refine g_bipush B W178 at_142 (v := 115) (by decide) ?_
        obtain ⟨T180, h180, W180, K180, A180, st180⟩ := x_castore B W178 (j := 6) (x := 115) at_144 A178 (by decide) (Nat.lt_of_lt_of_eq (show Int32.toNatClampNeg 6 < 17 by decide) rfl) (by omega) #[.val (.int p1), .val (.int n101), .unset, .unset, .unset] [(.ref b166), (.ref b162), (.ref b162)]
        refine st180 _ ?_
        rw [show nar .char 115 = 115 by decide] at A180
        have A180 : Arv Z h180 b166 cA166 .char 17 [(.int 114), (.int 101), (.int 116), (.int 114), (.int 105), (.int 101), (.int 115), (.int 0), (.int 0), (.int 0), (.int 0), (.int 0), (.int 0), (.int 0), (.int 0), (.int 0), (.int 0)] (.int 0) := A180
        have s181 := K180.1
        refine g_dup B W180 at_145 rfl ?_
        refine g_bipush B W180 at_146 (v := 7) (by decide) ?_
        refine g_bipush B W180 at_148 (v := 32) (by decide) ?_
        obtain ⟨T182, h182, W182, K182, A182, st182⟩ := x_castore B W180 (j := 7) (x := 32) at_150 A180 (by decide) (Nat.lt_of_lt_of_eq (show Int32.toNatClampNeg 7 < 17 by decide) rfl) (by omega) #[.val (.int p1), .val (.int n101), .unset, .unset, .unset] [(.ref b166), (.ref b162), (.ref b162)]
        refine st182 _ ?_
        rw [show nar .char 32 = 32 by decide] at A182
        have A182 : Arv Z h182 b166 cA166 .char 17 [(.int 114), (.int 101), (.int 116), (.int 114), (.int 105), (.int 101), (.int 115), (.int 32), (.int 0), (.int 0), (.int 0), (.int 0), (.int 0), (.int 0), (.int 0), (.int 0), (.int 0)] (.int 0) := A182
        have s183 := K182.1
        refine g_dup B W182 at_151 rfl ?_
        refine g_bipush B W182 at_152 (v := 8) (by decide) ?_
        refine g_bipush B W182 at_154 (v := 101) (by decide) ?_
        obtain ⟨T184, h184, W184, K184, A184, st184⟩ := x_castore B W182 (j := 8) (x := 101) at_156 A182 (by decide) (Nat.lt_of_lt_of_eq (show Int32.toNatClampNeg 8 < 17 by decide) rfl) (by omega) #[.val (.int p1), .val (.int n101), .unset, .unset, .unset] [(.ref b166), (.ref b162), (.ref b162)]
        refine st184 _ ?_
        rw [show nar .char 101 = 101 by decide] at A184
        have A184 : Arv Z h184 b166 cA166 .char 17 [(.int 114), (.int 101), (.int 116), (.int 114), (.int 105), (.int 101), (.int 115), (.int 32), (.int 101), (.int 0), (.int 0), (.int 0), (.int 0), (.int 0), (.int 0), (.int 0), (.int 0)] (.int 0) := A184
        have s185 := K184.1
        refine g_dup B W184 at_157 rfl ?_
        refine g_bipush B W184 at_158 (v := 9) (by decide) ?_
        refine g_bipush B W184 at_160 (v := 120) (by decide) ?_
        obtain ⟨T186, h186, W186, K186, A186, st186⟩ := x_castore B W184 (j := 9) (x := 120) at_162 A184 (by decide) (Nat.lt_of_lt_of_eq (show Int32.toNatClampNeg 9 < 17 by decide) rfl) (by omega) #[.val (.int p1), .val (.int n101), .unset, .unset, .unset] [(.ref b166), (.ref b162), (.ref b162)]
        refine st186 _ ?_
        rw [show nar .char 120 = 120 by decide] at A186
        have A186 : Arv Z h186 b166 cA166 .char 17 [(.int 114), (.int 101), (.int 116), (.int 114), (.int 105), (.int 101), (.int 115), (.int 32), (.int 101), (.int 120), (.int 0), (.int 0), (.int 0), (.int 0), (.int 0), (.int 0), (.int 0)] (.int 0) := A186
        have s187 := K186.1
        refine g_dup B W186 at_163 rfl ?_
        refine g_bipush B W186 at_164 (v := 10) (by decide) ?_
        refine g_bipush B W186 at_166 (v := 104) (by decide) ?_
        obtain ⟨T188, h188, W188, K188, A188, st188⟩ := x_castore B W186 (j := 10) (x := 104) at_168 A186 (by decide) (Nat.lt_of_lt_of_eq (show Int32.toNatClampNeg 10 < 17 by decide) rfl) (by omega) #[.val (.int p1), .val (.int n101), .unset, .unset, .unset] [(.ref b166), (.ref b162), (.ref b162)]
        refine st188 _ ?_
        rw [show nar .char 104 = 104 by decide] at A188
        have A188 : Arv Z h188 b166 cA166 .char 17 [(.int 114), (.int 101), (.int 116), (.int 114), (.int 105), (.int 101), (.int 115), (.int 32), (.int 101), (.int 120), (.int 104), (.int 0), (.int 0), (.int 0), (.int 0), (.int 0), (.int 0)] (.int 0) := A188
        have s189 := K188.1
        refine g_dup B W188 at_169 rfl ?_
        refine g_bipush B W188 at_170 (v := 11) (by decide) ?_
        refine g_bipush B W188 at_172 (v := 97) (by decide) ?_
        obtain ⟨T190, h190, W190, K190, A190, st190⟩ := x_castore B W188 (j := 11) (x := 97) at_174 A188 (by decide) (Nat.lt_of_lt_of_eq (show Int32.toNatClampNeg 11 < 17 by decide) rfl) (by omega) #[.val (.int p1), .val (.int n101), .unset, .unset, .unset] [(.ref b166), (.ref b162), (.ref b162)]
        refine st190 _ ?_
        rw [show nar .char 97 = 97 by decide] at A190
        have A190 : Arv Z h190 b166 cA166 .char 17 [(.int 114), (.int 101), (.int 116), (.int 114), (.int 105), (.int 101), (.int 115), (.int 32), (.int 101), (.int 120), (.int 104), (.int 97), (.int 0), (.int 0), (.int 0), (.int 0), (.int 0)] (.int 0) := A190
        have s191 := K190.1
        refine g_dup B W190 at_175 rfl ?_
        refine g_bipush B W190 at_176 (v := 12) (by decide) ?_
        refine g_bipush B W190 at_178 (v := 117) (by decide) ?_
        obtain ⟨T192, h192, W192, K192, A192, st192⟩ := x_castore B W190 (j := 12) (x := 117) at_180 A190 (by decide) (Nat.lt_of_lt_of_eq (show Int32.toNatClampNeg 12 < 17 by decide) rfl) (by omega) #[.val (.int p1), .val (.int n101), .unset, .unset, .unset] [(.ref b166), (.ref b162), (.ref b162)]
        refine st192 _ ?_
        rw [show nar .char 117 = 117 by decide] at A192
        have A192 : Arv Z h192 b166 cA166 .char 17 [(.int 114), (.int 101), (.int 116), (.int 114), (.int 105), (.int 101), (.int 115), (.int 32), (.int 101), (.int 120), (.int 104), (.int 97), (.int 117), (.int 0), (.int 0), (.int 0), (.int 0)] (.int 0) := A192
        have s193 := K192.1
        refine g_dup B W192 at_181 rfl ?_
        refine g_bipush B W192 at_182 (v := 13) (by decide) ?_
        refine g_bipush B W192 at_184 (v := 115) (by decide) ?_
        obtain ⟨T194, h194, W194, K194, A194, st194⟩ := x_castore B W192 (j := 13) (x := 115) at_186 A192 (by decide) (Nat.lt_of_lt_of_eq (show Int32.toNatClampNeg 13 < 17 by decide) rfl) (by omega) #[.val (.int p1), .val (.int n101), .unset, .unset, .unset] [(.ref b166), (.ref b162), (.ref b162)]
        refine st194 _ ?_
        rw [show nar .char 115 = 115 by decide] at A194
        have A194 : Arv Z h194 b166 cA166 .char 17 [(.int 114), (.int 101), (.int 116), (.int 114), (.int 105), (.int 101), (.int 115), (.int 32), (.int 101), (.int 120), (.int 104), (.int 97), (.int 117), (.int 115), (.int 0), (.int 0), (.int 0)] (.int 0) := A194
        have s195 := K194.1
        refine g_dup B W194 at_187 rfl ?_
        refine g_bipush B W194 at_188 (v := 14) (by decide) ?_
        refine g_bipush B W194 at_190 (v := 116) (by decide) ?_
        obtain ⟨T196, h196, W196, K196, A196, st196⟩ := x_castore B W194 (j := 14) (x := 116) at_192 A194 (by decide) (Nat.lt_of_lt_of_eq (show Int32.toNatClampNeg 14 < 17 by decide) rfl) (by omega) #[.val (.int p1), .val (.int n101), .unset, .unset, .unset] [(.ref b166), (.ref b162), (.ref b162)]
        refine st196 _ ?_
        rw [show nar .char 116 = 116 by decide] at A196
        have A196 : Arv Z h196 b166 cA166 .char 17 [(.int 114), (.int 101), (.int 116), (.int 114), (.int 105), (.int 101), (.int 115), (.int 32), (.int 101), (.int 120), (.int 104), (.int 97), (.int 117), (.int 115), (.int 116), (.int 0), (.int 0)] (.int 0) := A196
        have s197 := K196.1
        refine g_dup B W196 at_193 rfl ?_
        refine g_bipush B W196 at_194 (v := 15) (by decide) ?_
        refine g_bipush B W196 at_196 (v := 101) (by decide) ?_
        obtain ⟨T198, h198, W198, K198, A198, st198⟩ := x_castore B W196 (j := 15) (x := 101) at_198 A196 (by decide) (Nat.lt_of_lt_of_eq (show Int32.toNatClampNeg 15 < 17 by decide) rfl) (by omega) #[.val (.int p1), .val (.int n101), .unset, .unset, .unset] [(.ref b166), (.ref b162), (.ref b162)]
        refine st198 _ ?_
        rw [show nar .char 101 = 101 by decide] at A198
        have A198 : Arv Z h198 b166 cA166 .char 17 [(.int 114), (.int 101), (.int 116), (.int 114), (.int 105), (.int 101), (.int 115), (.int 32), (.int 101), (.int 120), (.int 104), (.int 97), (.int 117), (.int 115), (.int 116), (.int 101), (.int 0)] (.int 0) := A198
        have s199 := K198.1
        refine g_dup B W198 at_199 rfl ?_
        refine g_bipush B W198 at_200 (v := 16) (by decide) ?_
        refine g_bipush B W198 at_202 (v := 100) (by decide) ?_
        obtain ⟨T200, h200, W200, K200, A200, st200⟩ := x_castore B W198 (j := 16) (x := 100) at_204 A198 (by decide) (Nat.lt_of_lt_of_eq (show Int32.toNatClampNeg 16 < 17 by decide) rfl) (by omega) #[.val (.int p1), .val (.int n101), .unset, .unset, .unset] [(.ref b166), (.ref b162), (.ref b162)]
        refine st200 _ ?_
        rw [show nar .char 100 = 100 by decide] at A200
        have A200 : Arv Z h200 b166 cA166 .char 17 [(.int 114), (.int 101), (.int 116), (.int 114), (.int 105), (.int 101), (.int 115), (.int 32), (.int 101), (.int 120), (.int 104), (.int 97), (.int 117), (.int 115), (.int 116), (.int 101), (.int 100)] (.int 0) := A200
        have s201 := K200.1
        have f203 := ((((((((((((((((((E162.keep K166).keep K168).keep K170).keep K172).keep K174).keep K176).keep K178).keep K180).keep K182).keep K184).keep K186).keep K188).keep K190).keep K192).keep K194).keep K196).keep K198).keep K200)
        have f204 := (f165.keep K166 nin0)
        have f205 := (f204.keep K168 (ninS (nne (by have q := nlt f204.lt; omega)) nin0))
        have f206 := (f205.keep K170 (ninS (nne (by have q := nlt f205.lt; omega)) nin0))
        have f207 := (f206.keep K172 (ninS (nne (by have q := nlt f206.lt; omega)) nin0))
        have f208 := (f207.keep K174 (ninS (nne (by have q := nlt f207.lt; omega)) nin0))
        have f209 := (f208.keep K176 (ninS (nne (by have q := nlt f208.lt; omega)) nin0))
        have f210 := (f209.keep K178 (ninS (nne (by have q := nlt f209.lt; omega)) nin0))
        have f211 := (f210.keep K180 (ninS (nne (by have q := nlt f210.lt; omega)) nin0))
        have f212 := (f211.keep K182 (ninS (nne (by have q := nlt f211.lt; omega)) nin0))
        have f213 := (f212.keep K184 (ninS (nne (by have q := nlt f212.lt; omega)) nin0))
        have f214 := (f213.keep K186 (ninS (nne (by have q := nlt f213.lt; omega)) nin0))
        have f215 := (f214.keep K188 (ninS (nne (by have q := nlt f214.lt; omega)) nin0))
        have f216 := (f215.keep K190 (ninS (nne (by have q := nlt f215.lt; omega)) nin0))
        have f217 := (f216.keep K192 (ninS (nne (by have q := nlt f216.lt; omega)) nin0))
        have f218 := (f217.keep K194 (ninS (nne (by have q := nlt f217.lt; omega)) nin0))
        have f219 := (f218.keep K196 (ninS (nne (by have q := nlt f218.lt; omega)) nin0))
        have f220 := (f219.keep K198 (ninS (nne (by have q := nlt f219.lt; omega)) nin0))
        have f221 := (f220.keep K200 (ninS (nne (by have q := nlt f220.lt; omega)) nin0))
        have f222 := (f164.keep K166 nin0)
        have f223 := (f222.keep K168 (ninS (nne (by have q := nlt f222.lt; omega)) nin0))
        have f224 := (f223.keep K170 (ninS (nne (by have q := nlt f223.lt; omega)) nin0))
        have f225 := (f224.keep K172 (ninS (nne (by have q := nlt f224.lt; omega)) nin0))
        have f226 := (f225.keep K174 (ninS (nne (by have q := nlt f225.lt; omega)) nin0))
        have f227 := (f226.keep K176 (ninS (nne (by have q := nlt f226.lt; omega)) nin0))
        have f228 := (f227.keep K178 (ninS (nne (by have q := nlt f227.lt; omega)) nin0))
        have f229 := (f228.keep K180 (ninS (nne (by have q := nlt f228.lt; omega)) nin0))
        have f230 := (f229.keep K182 (ninS (nne (by have q := nlt f229.lt; omega)) nin0))
        have f231 := (f230.keep K184 (ninS (nne (by have q := nlt f230.lt; omega)) nin0))
        have f232 := (f231.keep K186 (ninS (nne (by have q := nlt f231.lt; omega)) nin0))
        have f233 := (f232.keep K188 (ninS (nne (by have q := nlt f232.lt; omega)) nin0))
        have f234 := (f233.keep K190 (ninS (nne (by have q := nlt f233.lt; omega)) nin0))
        have f235 := (f234.keep K192 (ninS (nne (by have q := nlt f234.lt; omega)) nin0))
        have f236 := (f235.keep K194 (ninS (nne (by have q := nlt f235.lt; omega)) nin0))
        have f237 := (f236.keep K196 (ninS (nne (by have q := nlt f236.lt; omega)) nin0))
        have f238 := (f237.keep K198 (ninS (nne (by have q := nlt f237.lt; omega)) nin0))
        have f239 := (f238.keep K200 (ninS (nne (by have q := nlt f238.lt; omega)) nin0))
        obtain ⟨T202, h202, v202, L202, W202, Q202, st202⟩ := x_specialB B W200 (b := b162) (rc := 1) (rs := 17) [(.ref b166)] (fun s' hZ' => StrChars.Road.backV (W := 1) hZ' (fun d hd => hw d (own_words d hd)) (kI := 4) (tw hw 32 rfl) (cs := ([114, 101, 116, 114, 105, 101, 115, 32, 101, 120, 104, 97, 117, 115, 116, 101, 100] : List Int32)) (bs := ([114, 101, 116, 114, 105, 101, 115, 32, 101, 120, 104, 97, 117, 115, 116, 101, 100] : List Int32).map (fun c => c.toInt8.toInt32)) (n := 17) (n0 := Z.heap.size) (by omega) W200.size f203 f221 f239 A200 (Scs.ext W200.old.2) hcz rfl (by decide) (by decide) (by decide) (by simp only [List.mem_cons, List.not_mem_nil, or_false]; rintro c (rfl | rfl | rfl | rfl | rfl | rfl | rfl | rfl | rfl | rfl | rfl | rfl | rfl | rfl | rfl | rfl | rfl) <;> first | assumption | decide) rfl (by decide) (by decide)) at_205 rfl (tw hw 34 rfl) (tw hw 35 rfl) (tw hw 36 rfl) (by decide) (lenOf pd___C_V rfl) #[.val (.int p1), .val (.int n101), .unset, .unset, .unset] [(.ref b162)] rfl rfl (by decide) (by decide) [b162] (allS (by omega) all0) (fun _ _ _ q => ⟨q.2.1, q.2.2.1⟩)
        obtain ⟨rfl, -, K202, E202, Fc202, t202, kb202, gt202, gu202, -, Fv202, A202⟩ := Q202
        refine st202 _ ?_
        have s240 := K202.1
        have lt202 := nlt A202.lt
        have S241 : StrIs Z h202 b162 [114, 101, 116, 114, 105, 101, 115, 32, 101, 120, 104, 97, 117, 115, 116, 101, 100] := ⟨t202, kb202, E202, Fc202, Fv202, A202, (by simp only [List.mem_cons, List.not_mem_nil, or_false]; rintro c (rfl | rfl | rfl | rfl | rfl | rfl | rfl | rfl | rfl | rfl | rfl | rfl | rfl | rfl | rfl | rfl | rfl) <;> first | assumption | decide), by simp⟩
        refine g_astore_n B W202 at_208 rfl (l' := #[.val (.int p1), .val (.int n101), .val (.ref b162), .unset, .unset]) rfl ?_
        obtain ⟨T242, W242, st242⟩ := x_gets B W202 (host := "") at_209 (Or.inl (tw hw 72 rfl)) Via.refl S_RETRIES_EXHAUSTED #[.val (.int p1), .val (.int n101), .val (.ref b162), .unset, .unset] []
        refine st242 _ ?_
        refine g_astore_n B W242 at_212 rfl (l' := #[.val (.int p1), .val (.int n101), .val (.ref b162), .val (.ref e_RETRIES_EXHAUSTED), .unset]) rfl ?_
        refine g_goto B W242 at_213 (pc' := 251) (by decide) ?_
        show Go p.tables e below _ T242 (mkF m 251 #[.val (.int p1), .val (.int n101), .val (.ref b162), .val (.ref e_RETRIES_EXHAUSTED), .unset] [])
        refine g_aload_n B W242 at_251 rfl rfl ?_
        obtain ⟨T243, h243, v243, W243, Q243, st243⟩ := x_static B W242 [(.ref b162)] (c_of_RETRIES_EXHAUSTED l Z a0 hw b162 cz e_REQUESTED e_RETRIES_EXHAUSTED e_GONE t_REQUESTED t_RETRIES_EXHAUSTED t_GONE va vc h202 Scs hcz S241 S_REQUESTED E_REQUESTED F_REQUESTED X_REQUESTED S_RETRIES_EXHAUSTED E_RETRIES_EXHAUSTED F_RETRIES_EXHAUSTED X_RETRIES_EXHAUSTED S_GONE E_GONE F_GONE X_GONE Sva Ava Eva Fva nva lva v_0 v_1 v_2) at_252 (tw hw 1 rfl) (tw hw 2 rfl) (tw hw 3 rfl) (tw hw 4 rfl) (by decide) (lenOf pd__Ljava_lang_String__Lcom_example_vervet_vervet_endpoints_Disabled_Reason_ rfl) #[.val (.int p1), .val (.int n101), .val (.ref b162), .val (.ref e_RETRIES_EXHAUSTED), .unset] [] rfl 0 rfl (by decide) (by decide) (by decide) (by decide)
        obtain ⟨rfl, K243⟩ := Q243
        have s244 := K243.1
        refine st243 _ ?_
        refine g_astore B W243 at_255 rfl (l' := #[.val (.int p1), .val (.int n101), .val (.ref b162), .val (.ref e_RETRIES_EXHAUSTED), .val (.ref e_RETRIES_EXHAUSTED)]) rfl ?_
        refine g_aload B W243 at_257 rfl rfl ?_
        refine g_aload_n B W243 at_259 rfl rfl ?_
        refine g_acmp_n B W243 at_260 rfl rfl (XT.aa_ne_f rfl) ?_
        show Go p.tables e below _ T243 (mkF m 263 #[.val (.int p1), .val (.int n101), .val (.ref b162), .val (.ref e_RETRIES_EXHAUSTED), .val (.ref e_RETRIES_EXHAUSTED)] [])
        refine g_aload B W243 at_263 rfl rfl ?_
        obtain ⟨T245, h245, v245, W245, Q245, st245⟩ := x_virtual B W243 (b := e_RETRIES_EXHAUSTED) [] (c_text l Z a0 hw e_RETRIES_EXHAUSTED t_RETRIES_EXHAUSTED h243 (F_RETRIES_EXHAUSTED.ext W243.old.2)) (E_RETRIES_EXHAUSTED.ext W243.old.2) at_265 (tw hw 66 rfl) (tw hw 67 rfl) (tw hw 69 rfl) (tw hw 68 rfl) (tw hw 3 rfl) (tw hw 70 rfl) (by decide) (lenOf pd___Ljava_lang_String_ rfl) #[.val (.int p1), .val (.int n101), .val (.ref b162), .val (.ref e_RETRIES_EXHAUSTED), .val (.ref e_RETRIES_EXHAUSTED)] [] rfl 0 rfl (by decide) (by decide) (by decide) (by decide)
        obtain ⟨rfl, rfl⟩ := Q245
        refine st245 _ ?_
        refine g_aload_n B W245 at_268 rfl rfl ?_
        have f247 := (X_RETRIES_EXHAUSTED.ext W245.old.2)
        have f248 := (S241.keep ((Keep.refl h202 []).trans K243 all0))
        obtain ⟨T246, h246, v246, L246, W246, Q246, st246⟩ := x_virtualB B W245 (b := t_RETRIES_EXHAUSTED) (V := 0) (rc := 0) (rs := 0) (QL := fun v h' L => v = some (.int (bi (decide ([114, 101, 116, 114, 105, 101, 115, 32, 101, 120, 104, 97, 117, 115, 116, 101, 100] = [114, 101, 116, 114, 105, 101, 115, 32, 101, 120, 104, 97, 117, 115, 116, 101, 100])))) ∧ L = [] ∧ h243 = h') [(.ref b162)] (fun s' hZ' => own_eqB hw f247 f248 (Scs.ext W245.old.2) hcz (tw hw 32 rfl) (by decide) (by decide) hZ') f247.exa at_269 (tw hw 71 rfl) (tw hw 26 rfl) (tw hw 28 rfl) (tw hw 27 rfl) (by decide) (lenOf pd__Ljava_lang_Object__Z rfl) #[.val (.int p1), .val (.int n101), .val (.ref b162), .val (.ref e_RETRIES_EXHAUSTED), .val (.ref e_RETRIES_EXHAUSTED)] [] rfl rfl (by decide) (by decide) [] all0 (fun _ _ _ q => ⟨q.2.1 ▸ Fr.nil _, q.2.2 ▸ Keep.refl _ _⟩)
        obtain ⟨rfl, -, rfl⟩ := Q246
        refine st246 _ ?_
        refine g_if_n B W246 at_272 (XT.i0_eq_f (bi_t (by decide))) ?_
        show Go p.tables e below _ T246 (mkF m 275 #[.val (.int p1), .val (.int n101), .val (.ref b162), .val (.ref e_RETRIES_EXHAUSTED), .val (.ref e_RETRIES_EXHAUSTED)] [])
        refine g_iconst B W246 at_275 (v := 1) (by decide) ?_
        refine g_goto B W246 at_276 (pc' := 280) (by decide) ?_
        show Go p.tables e below _ T246 (mkF m 280 #[.val (.int p1), .val (.int n101), .val (.ref b162), .val (.ref e_RETRIES_EXHAUSTED), .val (.ref e_RETRIES_EXHAUSTED)] [(.int 1)])
        exact r_n B W246 (t := .boolean) rfl (by simp) at_280 (by decide) (by decide) (by show some (Value.int (nar .boolean 1)) = _; rw [nar_b1])
      · skip
        refine g_icmp_y B W0 at_98 (XT.ii_ne_t hc161) (pc' := 216) (by decide) ?_
        show Go p.tables e below _ T0 (mkF m 216 #[.val (.int p1), .val (.int n101), .unset, .unset, .unset] [])
        obtain ⟨T249, h249, b249, gb249, W249, K249, E249, D249, st249⟩ := x_new B W0 at_216 (tw hw 31 rfl) (tw hw 32 rfl) (tw hw 29 rfl) (by decide) (by decide) #[.val (.int p1), .val (.int n101), .unset, .unset, .unset] []
        have l249 := nlt E249.lt
        have z249 := W0.size
        refine st249 _ ?_
        have s250 := K249.1
        have f251 : Fld Z h249 b249 "java/lang/String" "coder" "B" (.int 0) := D249 (Or.inr (tw hw 57 rfl)) (ty := .byte) (by decide)
        have f252 : Fld Z h249 b249 "java/lang/String" "value" "[B" .null := D249 (Or.inr (tw hw 59 rfl)) (ty := (.array .byte)) (by decide)
        refine g_dup B W249 at_219 rfl ?_
        refine g_iconst B W249 at_220 (v := 4) (by decide) ?_
        obtain ⟨T253, h253, b253, cA253, gb253, W253, K253, A253, st253⟩ := x_newA B W249 (z := 4) 4 at_221 (tw hw 33 rfl) (by decide) (by decide) (by decide) (by decide) (by decide) #[.val (.int p1), .val (.int n101), .unset, .unset, .unset] [(.ref b249), (.ref b249)]
        have l253 := nlt A253.lt
        have z253 := W249.size
        refine st253 _ ?_
        have s254 := K253.1
        refine g_dup B W253 at_223 rfl ?_
        refine g_iconst B W253 at_224 (v := 0) (by decide) ?_
        refine g_bipush B W253 at_225 (v := 103) (by decide) ?_
        obtain ⟨T255, h255, W255, K255, A255, st255⟩ := x_castore B W253 (j := 0) (x := 103) at_227 A253 (by decide) (Nat.lt_of_lt_of_eq (show Int32.toNatClampNeg 0 < 4 by decide) rfl) (by omega) #[.val (.int p1), .val (.int n101), .unset, .unset, .unset] [(.ref b253), (.ref b249), (.ref b249)]
        refine st255 _ ?_
        rw [show nar .char 103 = 103 by decide] at A255
        have A255 : Arv Z h255 b253 cA253 .char 4 [(.int 103), (.int 0), (.int 0), (.int 0)] (.int 0) := A255
        have s256 := K255.1
        refine g_dup B W255 at_228 rfl ?_
        refine g_iconst B W255 at_229 (v := 1) (by decide) ?_
        refine g_bipush B W255 at_230 (v := 111) (by decide) ?_
        obtain ⟨T257, h257, W257, K257, A257, st257⟩ := x_castore B W255 (j := 1) (x := 111) at_232 A255 (by decide) (Nat.lt_of_lt_of_eq (show Int32.toNatClampNeg 1 < 4 by decide) rfl) (by omega) #[.val (.int p1), .val (.int n101), .unset, .unset, .unset] [(.ref b253), (.ref b249), (.ref b249)]
        refine st257 _ ?_
        rw [show nar .char 111 = 111 by decide] at A257
        have A257 : Arv Z h257 b253 cA253 .char 4 [(.int 103), (.int 111), (.int 0), (.int 0)] (.int 0) := A257
        have s258 := K257.1
        refine g_dup B W257 at_233 rfl ?_
        refine g_iconst B W257 at_234 (v := 2) (by decide) ?_
        refine g_bipush B W257 at_235 (v := 110) (by decide) ?_
        obtain ⟨T259, h259, W259, K259, A259, st259⟩ := x_castore B W257 (j := 2) (x := 110) at_237 A257 (by decide) (Nat.lt_of_lt_of_eq (show Int32.toNatClampNeg 2 < 4 by decide) rfl) (by omega) #[.val (.int p1), .val (.int n101), .unset, .unset, .unset] [(.ref b253), (.ref b249), (.ref b249)]
        refine st259 _ ?_
        rw [show nar .char 110 = 110 by decide] at A259
        have A259 : Arv Z h259 b253 cA253 .char 4 [(.int 103), (.int 111), (.int 110), (.int 0)] (.int 0) := A259
        have s260 := K259.1
        refine g_dup B W259 at_238 rfl ?_
        refine g_iconst B W259 at_239 (v := 3) (by decide) ?_
        refine g_bipush B W259 at_240 (v := 101) (by decide) ?_
        obtain ⟨T261, h261, W261, K261, A261, st261⟩ := x_castore B W259 (j := 3) (x := 101) at_242 A259 (by decide) (Nat.lt_of_lt_of_eq (show Int32.toNatClampNeg 3 < 4 by decide) rfl) (by omega) #[.val (.int p1), .val (.int n101), .unset, .unset, .unset] [(.ref b253), (.ref b249), (.ref b249)]
        refine st261 _ ?_
        rw [show nar .char 101 = 101 by decide] at A261
        have A261 : Arv Z h261 b253 cA253 .char 4 [(.int 103), (.int 111), (.int 110), (.int 101)] (.int 0) := A261
        have s262 := K261.1
        have f264 := (((((E249.keep K253).keep K255).keep K257).keep K259).keep K261)
        have f265 := (f252.keep K253 nin0)
        have f266 := (f265.keep K255 (ninS (nne (by have q := nlt f265.lt; omega)) nin0))
        have f267 := (f266.keep K257 (ninS (nne (by have q := nlt f266.lt; omega)) nin0))
        have f268 := (f267.keep K259 (ninS (nne (by have q := nlt f267.lt; omega)) nin0))
        have f269 := (f268.keep K261 (ninS (nne (by have q := nlt f268.lt; omega)) nin0))
        have f270 := (f251.keep K253 nin0)
        have f271 := (f270.keep K255 (ninS (nne (by have q := nlt f270.lt; omega)) nin0))
        have f272 := (f271.keep K257 (ninS (nne (by have q := nlt f271.lt; omega)) nin0))
        have f273 := (f272.keep K259 (ninS (nne (by have q := nlt f272.lt; omega)) nin0))
        have f274 := (f273.keep K261 (ninS (nne (by have q := nlt f273.lt; omega)) nin0))
        obtain ⟨T263, h263, v263, L263, W263, Q263, st263⟩ := x_specialB B W261 (b := b249) (rc := 1) (rs := 4) [(.ref b253)] (fun s' hZ' => StrChars.Road.backV (W := 1) hZ' (fun d hd => hw d (own_words d hd)) (kI := 4) (tw hw 32 rfl) (cs := ([103, 111, 110, 101] : List Int32)) (bs := ([103, 111, 110, 101] : List Int32).map (fun c => c.toInt8.toInt32)) (n := 4) (n0 := Z.heap.size) (by omega) W261.size f264 f269 f274 A261 (Scs.ext W261.old.2) hcz rfl (by decide) (by decide) (by decide) (by simp only [List.mem_cons, List.not_mem_nil, or_false]; rintro c (rfl | rfl | rfl | rfl) <;> first | assumption | decide) rfl (by decide) (by decide)) at_243 rfl (tw hw 34 rfl) (tw hw 35 rfl) (tw hw 36 rfl) (by decide) (lenOf pd___C_V rfl) #[.val (.int p1), .val (.int n101), .unset, .unset, .unset] [(.ref b249)] rfl rfl (by decide) (by decide) [b249] (allS (by omega) all0) (fun _ _ _ q => ⟨q.2.1, q.2.2.1⟩)
        obtain ⟨rfl, -, K263, E263, Fc263, t263, kb263, gt263, gu263, -, Fv263, A263⟩ := Q263
        refine st263 _ ?_
        have s275 := K263.1
        have lt263 := nlt A263.lt
        have S276 : StrIs Z h263 b249 [103, 111, 110, 101] := ⟨t263, kb263, E263, Fc263, Fv263, A263, (by simp only [List.mem_cons, List.not_mem_nil, or_false]; rintro c (rfl | rfl | rfl | rfl) <;> first | assumption | decide), by simp⟩
        refine g_astore_n B W263 at_246 rfl (l' := #[.val (.int p1), .val (.int n101), .val (.ref b249), .unset, .unset]) rfl ?_
        obtain ⟨T277, W277, st277⟩ := x_gets B W263 (host := "") at_247 (Or.inl (tw hw 60 rfl)) Via.refl S_GONE #[.val (.int p1), .val (.int n101), .val (.ref b249), .unset, .unset] []
        refine st277 _ ?_
        refine g_astore_n B W277 at_250 rfl (l' := #[.val (.int p1), .val (.int n101), .val (.ref b249), .val (.ref e_GONE), .unset]) rfl ?_
        refine g_aload_n B W277 at_251 rfl rfl ?_
        obtain ⟨T278, h278, v278, W278, Q278, st278⟩ := x_static B W277 [(.ref b249)] (c_of_GONE l Z a0 hw b249 cz e_REQUESTED e_RETRIES_EXHAUSTED e_GONE t_REQUESTED t_RETRIES_EXHAUSTED t_GONE va vc h263 Scs hcz S276 S_REQUESTED E_REQUESTED F_REQUESTED X_REQUESTED S_RETRIES_EXHAUSTED E_RETRIES_EXHAUSTED F_RETRIES_EXHAUSTED X_RETRIES_EXHAUSTED S_GONE E_GONE F_GONE X_GONE Sva Ava Eva Fva nva lva v_0 v_1 v_2) at_252 (tw hw 1 rfl) (tw hw 2 rfl) (tw hw 3 rfl) (tw hw 4 rfl) (by decide) (lenOf pd__Ljava_lang_String__Lcom_example_vervet_vervet_endpoints_Disabled_Reason_ rfl) #[.val (.int p1), .val (.int n101), .val (.ref b249), .val (.ref e_GONE), .unset] [] rfl 0 rfl (by decide) (by decide) (by decide) (by decide)
        obtain ⟨rfl, K278⟩ := Q278
        have s279 := K278.1
        refine st278 _ ?_
        refine g_astore B W278 at_255 rfl (l' := #[.val (.int p1), .val (.int n101), .val (.ref b249), .val (.ref e_GONE), .val (.ref e_GONE)]) rfl ?_
        refine g_aload B W278 at_257 rfl rfl ?_
        refine g_aload_n B W278 at_259 rfl rfl ?_
        refine g_acmp_n B W278 at_260 rfl rfl (XT.aa_ne_f rfl) ?_
        show Go p.tables e below _ T278 (mkF m 263 #[.val (.int p1), .val (.int n101), .val (.ref b249), .val (.ref e_GONE), .val (.ref e_GONE)] [])
        refine g_aload B W278 at_263 rfl rfl ?_
        obtain ⟨T280, h280, v280, W280, Q280, st280⟩ := x_virtual B W278 (b := e_GONE) [] (c_text l Z a0 hw e_GONE t_GONE h278 (F_GONE.ext W278.old.2)) (E_GONE.ext W278.old.2) at_265 (tw hw 66 rfl) (tw hw 67 rfl) (tw hw 69 rfl) (tw hw 68 rfl) (tw hw 3 rfl) (tw hw 70 rfl) (by decide) (lenOf pd___Ljava_lang_String_ rfl) #[.val (.int p1), .val (.int n101), .val (.ref b249), .val (.ref e_GONE), .val (.ref e_GONE)] [] rfl 0 rfl (by decide) (by decide) (by decide) (by decide)
        obtain ⟨rfl, rfl⟩ := Q280
        refine st280 _ ?_
        refine g_aload_n B W280 at_268 rfl rfl ?_
        have f282 := (X_GONE.ext W280.old.2)
        have f283 := (S276.keep ((Keep.refl h263 []).trans K278 all0))
        obtain ⟨T281, h281, v281, L281, W281, Q281, st281⟩ := x_virtualB B W280 (b := t_GONE) (V := 0) (rc := 0) (rs := 0) (QL := fun v h' L => v = some (.int (bi (decide ([103, 111, 110, 101] = [103, 111, 110, 101])))) ∧ L = [] ∧ h278 = h') [(.ref b249)] (fun s' hZ' => own_eqB hw f282 f283 (Scs.ext W280.old.2) hcz (tw hw 32 rfl) (by decide) (by decide) hZ') f282.exa at_269 (tw hw 71 rfl) (tw hw 26 rfl) (tw hw 28 rfl) (tw hw 27 rfl) (by decide) (lenOf pd__Ljava_lang_Object__Z rfl) #[.val (.int p1), .val (.int n101), .val (.ref b249), .val (.ref e_GONE), .val (.ref e_GONE)] [] rfl rfl (by decide) (by decide) [] all0 (fun _ _ _ q => ⟨q.2.1 ▸ Fr.nil _, q.2.2 ▸ Keep.refl _ _⟩)
        obtain ⟨rfl, -, rfl⟩ := Q281
        refine st281 _ ?_
        refine g_if_n B W281 at_272 (XT.i0_eq_f (bi_t (by decide))) ?_
        show Go p.tables e below _ T281 (mkF m 275 #[.val (.int p1), .val (.int n101), .val (.ref b249), .val (.ref e_GONE), .val (.ref e_GONE)] [])
        refine g_iconst B W281 at_275 (v := 1) (by decide) ?_
        refine g_goto B W281 at_276 (pc' := 280) (by decide) ?_
        show Go p.tables e below _ T281 (mkF m 280 #[.val (.int p1), .val (.int n101), .val (.ref b249), .val (.ref e_GONE), .val (.ref e_GONE)] [(.int 1)])
        exact r_n B W281 (t := .boolean) rfl (by simp) at_280 (by decide) (by decide) (by show some (Value.int (nar .boolean 1)) = _; rw [nar_b1])
set_option maxRecDepth 65536 in
set_option maxHeartbeats 40000000 in
theorem comes_1 {Post : Tables → Env → Array Value → State → Outcome → State → Prop} (hpost : ∀ tb e args s v u, (limb_1_1.after args s (.returned v) u = true ∧ limb_1_2.after args s (.returned v) u = true ∧ True) → FrameEnd s (.returned v) u (Jvm.fieldLocs frame_1_writes args s ++ Jvm.arrayLocs frame_1_arrays args s ++ Jvm.staticLocs frame_1_statics s) 16 192 → Post tb e args s (.returned v) u) :
    ArmFor flags0 classFile x code maxLocals ret World_1 tables_1 room_1 Calls_1 rest_1 Pre_1 Post := by
  intro l hfl _ _ p e ha hc hk s m args below hf hA hF happ hP
  obtain ⟨hcalls, hrest, hpre⟩ := hP
  obtain ⟨-, -, -, hnamed, -, -, -, hat⟩ := (Spec.applies_iff hf).mp happ
  obtain ⟨hg, hn⟩ := and_e (Cond.before_iff.mp (show (Jvm.Cond.and given_1 narrow_1).before args s = true from hpre))
  obtain ⟨hcnt, hgs⟩ := and_e hg
  have ha0 := hgs
  obtain ⟨w0, rfl⟩ : ∃ w0 : Value, args = #[w0] := by
    have hs : args.size = 1 := by simpa [Cond.value, given_1] using hcnt
    obtain ⟨L⟩ := args
    match L, hs with
    | [w0], _ => exact ⟨w0, rfl⟩
  have hw := fun d (hd : d ∈ tables_1) => atoms_spec (ws := Jvm.Cond.code x code maxLocals ret :: tables_1) hat d (List.mem_cons_of_mem _ hd)
  obtain ⟨hsets, hown0⟩ := atoms_of _ (rest_1_c_eq ▸ (show rest_1_c.before _ s = true from hrest))
  have hfit : Fit s := fun {y c} hc i hi => by
    obtain ⟨ha, rfl⟩ := Array.getElem?_eq_some_iff.mp hc
    have q := List.all_eq_true.mp ((Array.all_eq_true_iff_forall_mem.mp hF) _ (Array.getElem_mem ha)) i (List.mem_range.mpr hi)
    simpa [Array.getElem?_eq_getElem hi] using q
  obtain ⟨i0, ei0⟩ := is_v ha0
  obtain rfl : w0 = (.int i0) := Option.some.inj ei0
  obtain ⟨cz, ecz⟩ := is_v (Cond.before_iff.mp (hsets _ (List.mem_of_getElem? (i := 1) rfl)))
  have Scs : Sta s s.heap "java/lang/String" "COMPACT_STRINGS" "Z" (.int cz) := Sta.start ecz (Or.inl (hsets _ (List.mem_of_getElem? (i := 0) rfl)))
  have hcz : ¬ (cz = (0 : Int32)) := gotF (Cond.eq_ints ecz (Term.int_eval (0))) (not_v (Cond.before_iff.mp (hsets _ (List.mem_of_getElem? (i := 2) rfl))))
  obtain ⟨c0, hn_0⟩ := and_e hn
  obtain ⟨c1, hn_1⟩ := and_e hn_0
  obtain ⟨c2, hn_2⟩ := and_e hn_1
  obtain ⟨c3, hn_3⟩ := and_e hn_2
  obtain ⟨c4, hn_4⟩ := and_e hn_3
  obtain ⟨c5, hn_5⟩ := and_e hn_4
  obtain ⟨c6, hn_6⟩ := and_e hn_5
  obtain ⟨c7, hn_7⟩ := and_e hn_6
  obtain ⟨c8, hn_8⟩ := and_e hn_7
  obtain ⟨c9, hn_9⟩ := and_e hn_8
  obtain ⟨c10, hn_10⟩ := and_e hn_9
  obtain ⟨c11, hn_11⟩ := and_e hn_10
  obtain ⟨c12, hn_12⟩ := and_e hn_11
  obtain ⟨c13, hn_13⟩ := and_e hn_12
  obtain ⟨c14, hn_14⟩ := and_e hn_13
  obtain ⟨c15, hn_15⟩ := and_e hn_14
  obtain ⟨c16, hn_16⟩ := and_e hn_15
  obtain ⟨c17, hn_17⟩ := and_e hn_16
  obtain ⟨c18, hn_18⟩ := and_e hn_17
  obtain ⟨c19, hn_19⟩ := and_e hn_18
  obtain ⟨c20, hn_20⟩ := and_e hn_19
  obtain ⟨c21, hn_21⟩ := and_e hn_20
  obtain ⟨c22, hn_22⟩ := and_e hn_21
  obtain ⟨c23, hn_23⟩ := and_e hn_22
  obtain ⟨c24, hn_24⟩ := and_e hn_23
  obtain ⟨c25, hn_25⟩ := and_e hn_24
  obtain ⟨c26, hn_26⟩ := and_e hn_25
  obtain ⟨c27, hn_27⟩ := and_e hn_26
  obtain ⟨c28, hn_28⟩ := and_e hn_27
  obtain ⟨c29, hn_29⟩ := and_e hn_28
  obtain ⟨c30, hn_30⟩ := and_e hn_29
  obtain ⟨c31, hn_31⟩ := and_e hn_30
  obtain ⟨c32, hn_32⟩ := and_e hn_31
  obtain ⟨c33, hn_33⟩ := and_e hn_32
  obtain ⟨c34, hn_34⟩ := and_e hn_33
  obtain ⟨c35, hn_35⟩ := and_e hn_34
  obtain ⟨c36, hn_36⟩ := and_e hn_35
  obtain ⟨c37, hn_37⟩ := and_e hn_36
  obtain ⟨c38, hn_38⟩ := and_e hn_37
  obtain ⟨c39, hn_39⟩ := and_e hn_38
  obtain ⟨c40, hn_40⟩ := and_e hn_39
  obtain ⟨c41, hn_41⟩ := and_e hn_40
  obtain ⟨c42, hn_42⟩ := and_e hn_41
  obtain ⟨c43, hn_43⟩ := and_e hn_42
  obtain ⟨c44, hn_44⟩ := and_e hn_43
  obtain ⟨c45, hn_45⟩ := and_e hn_44
  obtain ⟨c46, hn_46⟩ := and_e hn_45
  obtain ⟨c47, hn_47⟩ := and_e hn_46
  obtain ⟨c48, hn_48⟩ := and_e hn_47
  obtain ⟨c49, hn_49⟩ := and_e hn_48
  have c50 := hn_49
  obtain ⟨e_REQUESTED, v_REQUESTED⟩ := exa_v c3
  have S_REQUESTED : Sta s s.heap "com/example/vervet/vervet/endpoints/Disabled$Reason" "REQUESTED" "Lcom/example/vervet/vervet/endpoints/Disabled$Reason;" (.ref e_REQUESTED) := Sta.start v_REQUESTED (Or.inr ⟨hw _ (List.mem_of_getElem? (i := 3) rfl), hw _ (List.mem_of_getElem? (i := 17) rfl)⟩)
  have E_REQUESTED : Exa s s.heap e_REQUESTED "com/example/vervet/vervet/endpoints/Disabled$Reason" := Exa.start v_REQUESTED c3
  obtain ⟨t_REQUESTED, w_REQUESTED⟩ := exa_v c9
  have F_REQUESTED : Fld s s.heap e_REQUESTED "com/example/vervet/vervet/endpoints/Disabled$Reason" "text" "Ljava/lang/String;" (.ref t_REQUESTED) := Fld.start ((fld_at v_REQUESTED).symm.trans w_REQUESTED)
  obtain ⟨tb_REQUESTED, wb_REQUESTED⟩ := arr_v c13
  obtain ⟨tc_REQUESTED, At_REQUESTED⟩ := Arr.start wb_REQUESTED c13
  obtain ⟨ql_REQUESTED, ln_REQUESTED⟩ := own_len At_REQUESTED wb_REQUESTED c14
  have X_REQUESTED : StrIs s s.heap t_REQUESTED [114, 101, 113, 117, 101, 115, 116, 101, 100] := ⟨tb_REQUESTED, tc_REQUESTED.cls, Exa.start w_REQUESTED c9, Fld.start ((fld_at w_REQUESTED).symm.trans (eqv_i (Term.int_eval 0) c12)), Fld.start ((fld_at w_REQUESTED).symm.trans wb_REQUESTED), Arv.start hfit At_REQUESTED ql_REQUESTED ln_REQUESTED (by decide) (by decide) (vs := [.int 114, .int 101, .int 113, .int 117, .int 101, .int 115, .int 116, .int 101, .int 100]) ⟨(show tc_REQUESTED.slots[0]? = some (.int 114) from (elem_in (eqv_i (Term.int_eval 114) c25) wb_REQUESTED (Term.int_eval 0) At_REQUESTED.1).2), (show tc_REQUESTED.slots[1]? = some (.int 101) from (elem_in (eqv_i (Term.int_eval 101) c26) wb_REQUESTED (Term.int_eval 1) At_REQUESTED.1).2), (show tc_REQUESTED.slots[2]? = some (.int 113) from (elem_in (eqv_i (Term.int_eval 113) c27) wb_REQUESTED (Term.int_eval 2) At_REQUESTED.1).2), (show tc_REQUESTED.slots[3]? = some (.int 117) from (elem_in (eqv_i (Term.int_eval 117) c28) wb_REQUESTED (Term.int_eval 3) At_REQUESTED.1).2), (show tc_REQUESTED.slots[4]? = some (.int 101) from (elem_in (eqv_i (Term.int_eval 101) c29) wb_REQUESTED (Term.int_eval 4) At_REQUESTED.1).2), (show tc_REQUESTED.slots[5]? = some (.int 115) from (elem_in (eqv_i (Term.int_eval 115) c30) wb_REQUESTED (Term.int_eval 5) At_REQUESTED.1).2), (show tc_REQUESTED.slots[6]? = some (.int 116) from (elem_in (eqv_i (Term.int_eval 116) c31) wb_REQUESTED (Term.int_eval 6) At_REQUESTED.1).2), (show tc_REQUESTED.slots[7]? = some (.int 101) from (elem_in (eqv_i (Term.int_eval 101) c32) wb_REQUESTED (Term.int_eval 7) At_REQUESTED.1).2), (show tc_REQUESTED.slots[8]? = some (.int 100) from (elem_in (eqv_i (Term.int_eval 100) c33) wb_REQUESTED (Term.int_eval 8) At_REQUESTED.1).2), trivial⟩, by decide, by decide⟩
  obtain ⟨e_RETRIES_EXHAUSTED, v_RETRIES_EXHAUSTED⟩ := exa_v c5
  have S_RETRIES_EXHAUSTED : Sta s s.heap "com/example/vervet/vervet/endpoints/Disabled$Reason" "RETRIES_EXHAUSTED" "Lcom/example/vervet/vervet/endpoints/Disabled$Reason;" (.ref e_RETRIES_EXHAUSTED) := Sta.start v_RETRIES_EXHAUSTED (Or.inr ⟨hw _ (List.mem_of_getElem? (i := 3) rfl), hw _ (List.mem_of_getElem? (i := 18) rfl)⟩)
  have E_RETRIES_EXHAUSTED : Exa s s.heap e_RETRIES_EXHAUSTED "com/example/vervet/vervet/endpoints/Disabled$Reason" := Exa.start v_RETRIES_EXHAUSTED c5
  obtain ⟨t_RETRIES_EXHAUSTED, w_RETRIES_EXHAUSTED⟩ := exa_v c10
  have F_RETRIES_EXHAUSTED : Fld s s.heap e_RETRIES_EXHAUSTED "com/example/vervet/vervet/endpoints/Disabled$Reason" "text" "Ljava/lang/String;" (.ref t_RETRIES_EXHAUSTED) := Fld.start ((fld_at v_RETRIES_EXHAUSTED).symm.trans w_RETRIES_EXHAUSTED)
  obtain ⟨tb_RETRIES_EXHAUSTED, wb_RETRIES_EXHAUSTED⟩ := arr_v c16
  obtain ⟨tc_RETRIES_EXHAUSTED, At_RETRIES_EXHAUSTED⟩ := Arr.start wb_RETRIES_EXHAUSTED c16
  obtain ⟨ql_RETRIES_EXHAUSTED, ln_RETRIES_EXHAUSTED⟩ := own_len At_RETRIES_EXHAUSTED wb_RETRIES_EXHAUSTED c17
  have X_RETRIES_EXHAUSTED : StrIs s s.heap t_RETRIES_EXHAUSTED [114, 101, 116, 114, 105, 101, 115, 32, 101, 120, 104, 97, 117, 115, 116, 101, 100] := ⟨tb_RETRIES_EXHAUSTED, tc_RETRIES_EXHAUSTED.cls, Exa.start w_RETRIES_EXHAUSTED c10, Fld.start ((fld_at w_RETRIES_EXHAUSTED).symm.trans (eqv_i (Term.int_eval 0) c15)), Fld.start ((fld_at w_RETRIES_EXHAUSTED).symm.trans wb_RETRIES_EXHAUSTED), Arv.start hfit At_RETRIES_EXHAUSTED ql_RETRIES_EXHAUSTED ln_RETRIES_EXHAUSTED (by decide) (by decide) (vs := [.int 114, .int 101, .int 116, .int 114, .int 105, .int 101, .int 115, .int 32, .int 101, .int 120, .int 104, .int 97, .int 117, .int 115, .int 116, .int 101, .int 100]) ⟨(show tc_RETRIES_EXHAUSTED.slots[0]? = some (.int 114) from (elem_in (eqv_i (Term.int_eval 114) c34) wb_RETRIES_EXHAUSTED (Term.int_eval 0) At_RETRIES_EXHAUSTED.1).2), (show tc_RETRIES_EXHAUSTED.slots[1]? = some (.int 101) from (elem_in (eqv_i (Term.int_eval 101) c35) wb_RETRIES_EXHAUSTED (Term.int_eval 1) At_RETRIES_EXHAUSTED.1).2), (show tc_RETRIES_EXHAUSTED.slots[2]? = some (.int 116) from (elem_in (eqv_i (Term.int_eval 116) c36) wb_RETRIES_EXHAUSTED (Term.int_eval 2) At_RETRIES_EXHAUSTED.1).2), (show tc_RETRIES_EXHAUSTED.slots[3]? = some (.int 114) from (elem_in (eqv_i (Term.int_eval 114) c37) wb_RETRIES_EXHAUSTED (Term.int_eval 3) At_RETRIES_EXHAUSTED.1).2), (show tc_RETRIES_EXHAUSTED.slots[4]? = some (.int 105) from (elem_in (eqv_i (Term.int_eval 105) c38) wb_RETRIES_EXHAUSTED (Term.int_eval 4) At_RETRIES_EXHAUSTED.1).2), (show tc_RETRIES_EXHAUSTED.slots[5]? = some (.int 101) from (elem_in (eqv_i (Term.int_eval 101) c39) wb_RETRIES_EXHAUSTED (Term.int_eval 5) At_RETRIES_EXHAUSTED.1).2), (show tc_RETRIES_EXHAUSTED.slots[6]? = some (.int 115) from (elem_in (eqv_i (Term.int_eval 115) c40) wb_RETRIES_EXHAUSTED (Term.int_eval 6) At_RETRIES_EXHAUSTED.1).2), (show tc_RETRIES_EXHAUSTED.slots[7]? = some (.int 32) from (elem_in (eqv_i (Term.int_eval 32) c41) wb_RETRIES_EXHAUSTED (Term.int_eval 7) At_RETRIES_EXHAUSTED.1).2), (show tc_RETRIES_EXHAUSTED.slots[8]? = some (.int 101) from (elem_in (eqv_i (Term.int_eval 101) c42) wb_RETRIES_EXHAUSTED (Term.int_eval 8) At_RETRIES_EXHAUSTED.1).2), (show tc_RETRIES_EXHAUSTED.slots[9]? = some (.int 120) from (elem_in (eqv_i (Term.int_eval 120) c43) wb_RETRIES_EXHAUSTED (Term.int_eval 9) At_RETRIES_EXHAUSTED.1).2), (show tc_RETRIES_EXHAUSTED.slots[10]? = some (.int 104) from (elem_in (eqv_i (Term.int_eval 104) c44) wb_RETRIES_EXHAUSTED (Term.int_eval 10) At_RETRIES_EXHAUSTED.1).2), (show tc_RETRIES_EXHAUSTED.slots[11]? = some (.int 97) from (elem_in (eqv_i (Term.int_eval 97) c45) wb_RETRIES_EXHAUSTED (Term.int_eval 11) At_RETRIES_EXHAUSTED.1).2), (show tc_RETRIES_EXHAUSTED.slots[12]? = some (.int 117) from (elem_in (eqv_i (Term.int_eval 117) c46) wb_RETRIES_EXHAUSTED (Term.int_eval 12) At_RETRIES_EXHAUSTED.1).2), (show tc_RETRIES_EXHAUSTED.slots[13]? = some (.int 115) from (elem_in (eqv_i (Term.int_eval 115) c47) wb_RETRIES_EXHAUSTED (Term.int_eval 13) At_RETRIES_EXHAUSTED.1).2), (show tc_RETRIES_EXHAUSTED.slots[14]? = some (.int 116) from (elem_in (eqv_i (Term.int_eval 116) c48) wb_RETRIES_EXHAUSTED (Term.int_eval 14) At_RETRIES_EXHAUSTED.1).2), (show tc_RETRIES_EXHAUSTED.slots[15]? = some (.int 101) from (elem_in (eqv_i (Term.int_eval 101) c49) wb_RETRIES_EXHAUSTED (Term.int_eval 15) At_RETRIES_EXHAUSTED.1).2), (show tc_RETRIES_EXHAUSTED.slots[16]? = some (.int 100) from (elem_in (eqv_i (Term.int_eval 100) c50) wb_RETRIES_EXHAUSTED (Term.int_eval 16) At_RETRIES_EXHAUSTED.1).2), trivial⟩, by decide, by decide⟩
  obtain ⟨e_GONE, v_GONE⟩ := exa_v c7
  have S_GONE : Sta s s.heap "com/example/vervet/vervet/endpoints/Disabled$Reason" "GONE" "Lcom/example/vervet/vervet/endpoints/Disabled$Reason;" (.ref e_GONE) := Sta.start v_GONE (Or.inr ⟨hw _ (List.mem_of_getElem? (i := 3) rfl), hw _ (List.mem_of_getElem? (i := 19) rfl)⟩)
  have E_GONE : Exa s s.heap e_GONE "com/example/vervet/vervet/endpoints/Disabled$Reason" := Exa.start v_GONE c7
  obtain ⟨t_GONE, w_GONE⟩ := exa_v c11
  have F_GONE : Fld s s.heap e_GONE "com/example/vervet/vervet/endpoints/Disabled$Reason" "text" "Ljava/lang/String;" (.ref t_GONE) := Fld.start ((fld_at v_GONE).symm.trans w_GONE)
  obtain ⟨tb_GONE, wb_GONE⟩ := arr_v c19
  obtain ⟨tc_GONE, At_GONE⟩ := Arr.start wb_GONE c19
  obtain ⟨ql_GONE, ln_GONE⟩ := own_len At_GONE wb_GONE c20
  have X_GONE : StrIs s s.heap t_GONE [103, 111, 110, 101] := ⟨tb_GONE, tc_GONE.cls, Exa.start w_GONE c11, Fld.start ((fld_at w_GONE).symm.trans (eqv_i (Term.int_eval 0) c18)), Fld.start ((fld_at w_GONE).symm.trans wb_GONE), Arv.start hfit At_GONE ql_GONE ln_GONE (by decide) (by decide) (vs := [.int 103, .int 111, .int 110, .int 101]) ⟨(show tc_GONE.slots[0]? = some (.int 103) from (elem_in (eqv_i (Term.int_eval 103) c21) wb_GONE (Term.int_eval 0) At_GONE.1).2), (show tc_GONE.slots[1]? = some (.int 111) from (elem_in (eqv_i (Term.int_eval 111) c22) wb_GONE (Term.int_eval 1) At_GONE.1).2), (show tc_GONE.slots[2]? = some (.int 110) from (elem_in (eqv_i (Term.int_eval 110) c23) wb_GONE (Term.int_eval 2) At_GONE.1).2), (show tc_GONE.slots[3]? = some (.int 101) from (elem_in (eqv_i (Term.int_eval 101) c24) wb_GONE (Term.int_eval 3) At_GONE.1).2), trivial⟩, by decide, by decide⟩
  obtain ⟨va, eva⟩ := arr_v c0
  have Sva : Sta s s.heap "com/example/vervet/vervet/endpoints/Disabled$Reason" "$VALUES" "[Lcom/example/vervet/vervet/endpoints/Disabled$Reason;" (.ref va) := Sta.start eva (Or.inr ⟨hw _ (List.mem_of_getElem? (i := 3) rfl), hw _ (List.mem_of_getElem? (i := 9) rfl)⟩)
  obtain ⟨vc, Ava⟩ := Arr.start eva c0
  have Eva : Exa s s.heap va "[Lcom/example/vervet/vervet/endpoints/Disabled$Reason;" := Exa.start eva c1
  have Fva : FitC s vc := FitC.start hfit Ava
  obtain ⟨qv, lva⟩ := own_len Ava eva c2
  have nva : vc.slots.size = 3 := by have q := len_toInt qv; rw [lva] at q; have q2 : (3 : Int32).toInt = 3 := rfl; rw [q2] at q; omega
  have v_0 : vc.slots[0]? = some (.ref e_REQUESTED) := (elem_in (own_eqr v_REQUESTED c4) eva (Term.int_eval 0) Ava.1).2
  have v_1 : vc.slots[1]? = some (.ref e_RETRIES_EXHAUSTED) := (elem_in (own_eqr v_RETRIES_EXHAUSTED c6) eva (Term.int_eval 1) Ava.1).2
  have v_2 : vc.slots[2]? = some (.ref e_GONE) := (elem_in (own_eqr v_GONE c8) eva (Term.int_eval 2) Ava.1).2
  obtain ⟨n, o, h1, h2, h3, v, L, rfl, ⟨hQ, N, -⟩, hq⟩ := c_law l s _ hw tables_1 i0 cz e_REQUESTED e_RETRIES_EXHAUSTED e_GONE t_REQUESTED t_RETRIES_EXHAUSTED t_GONE va vc s.heap Scs hcz S_REQUESTED E_REQUESTED F_REQUESTED X_REQUESTED S_RETRIES_EXHAUSTED E_RETRIES_EXHAUSTED F_RETRIES_EXHAUSTED X_RETRIES_EXHAUSTED S_GONE E_GONE F_GONE X_GONE Sva Ava Eva Fva nva lva v_0 v_1 v_2 (Old.start s) p e ha hc hk s m _ below hf ((Spec.applies_iff_loose hf).mp happ).1 ⟨rfl, State.Warmed39.refl s, rfl⟩ trivial
  obtain rfl := hQ
  exact ⟨n, _, h1, h2, h3, hpost _ _ _ _ _ _ ⟨Cond.after_iff.mpr rfl, Cond.after_iff.mpr (eq_i res_at (Term.int_eval (1)) rfl), trivial⟩ ⟨hq.1, hq.2.1, (hq.2.2.sift fun y hy => Or.inr (N y hy)).mono (by decide) (by decide)⟩⟩
theorem main_1_1 : Claimed_1_1 := comes_1 fun _ _ _ _ _ _ h hF => ⟨h.1, hF⟩
theorem main_1_2 : Claimed_1_2 := comes_1 fun _ _ _ _ _ _ h hF => ⟨h.2.1, hF⟩
end Jvm.Pilot.@@N@@
namespace Jvm.Pilot.@@N@@
open Jvm Jvm.ClassFile Sem Op Lib Jvm.Free Jvm.Stand Jvm.Pilot.@@N@@.Jvm.D
/-! MADE BY PROGRAM (witnessworld.py) out of the Statement's table words and the real class files: 22 classes; the members and pool entries that the words name. The judged class is class 1, her method 1. -/
namespace start1
open Jvm.ClassFile
def u (s : String) : CpInfo := .utf8 (stringToUtf16 s)
/-- a pool by its gaps: so many unusable entries, then the entry; so many at the end -/
def gap : Nat → List CpInfo → List CpInfo
  | 0, r => r
  | n + 1, r => .unusable :: gap n r
def poolList (es : List (Nat × CpInfo)) (last : Nat) : List CpInfo := es.foldr (fun e r => gap e.1 (e.2 :: r)) (gap last [])
def pool (es : List (Nat × CpInfo)) (last : Nat) : Array CpInfo := ⟨poolList es last⟩
def fileOf (pool : Array CpInfo) (this : Nat) (attrs : Array Attribute := #[]) (ms : Array MethodInfo := #[]) (fl : Nat := 33) (sup : Nat := 0) (ifs : Array Nat := #[]) (fds : Array FieldInfo := #[]) : ClassFile where
  minorVersion := 0
  majorVersion := 65
  constantPool := pool
  accessFlags := fl
  thisClass := this
  superClass := sup
  interfaces := ifs
  fields := fds
  methods := ms
  attributes := attrs
def plain (name : String) (sup : Option ClassId) : Class where
  name := name
  kind := .ordinary
  loader := none
  accessFlags := 33
  super := sup
  interfaces := #[]
  cf := none
  fields := #[]
  methods := #[]
  instanceTypes := #[]
  staticTypes := #[]
  resolved := #[]
  callSites := []
  init := .initialized
  statics := none
  mirror := none

def pool0 : Array CpInfo := pool [(5, u "<init>"), (0, u "()V"), (1, .class_ 10), (1, u "java/lang/Object"), (85, u "clone"), (0, u "()Ljava/lang/Object;")] 26

def k0c0 : Code := { maxStack := 0, maxLocals := 1, code := object_method_1_code, exceptionTable := #[], attributes := #[] }
def k0m0 : Method := { name := "<init>", desc := "()V", sig := { parameters := [], returnType := none }, accessFlags := 1, code := some k0c0 }
def k0m1 : Method := { name := "clone", desc := "()Ljava/lang/Object;", sig := { parameters := [], returnType := some (.object "java/lang/Object") }, accessFlags := 260, code := none }
/-- java/lang/Object -/
def k0 : Class := { plain "java/lang/Object" none with
  accessFlags := 33
  interfaces := #[]
  cf := some (fileOf pool0 8 #[] #[{ accessFlags := 1, nameIndex := 5, descriptorIndex := 6, attributes := #[] }, { accessFlags := 260, nameIndex := 96, descriptorIndex := 97, attributes := #[] }] 33 0 #[] #[])
  fields := #[]
  methods := #[k0m0, k0m1]
  instanceTypes := #[]
  staticTypes := #[]
  resolved := Array.replicate 124 none
  statics := none }

def pool1 : Array CpInfo := pool [(2, .class_ 4), (1, u "java/lang/Object"), (0, u "<init>"), (0, u "()V"), (0, .integer 2147483647), (0, .methodref 9 10), (0, .class_ 11), (0, .nameAndType 12 13), (0, u "com/example/vervet/vervet/endpoints/Disabled$Reason"), (0, u "of"), (0, u "(Ljava/lang/String;)Lcom/example/vervet/vervet/endpoints/Disabled$Reason;"), (0, .class_ 15), (0, u "java/lang/String"), (0, .methodref 14 17), (0, .nameAndType 5 18), (0, u "([C)V"), (0, .fieldref 9 20), (0, .nameAndType 21 22), (0, u "REQUESTED"), (0, u "Lcom/example/vervet/vervet/endpoints/Disabled$Reason;"), (0, .fieldref 9 24), (0, .nameAndType 25 22), (0, u "RETRIES_EXHAUSTED"), (0, .fieldref 9 27), (0, .nameAndType 28 22), (0, u "GONE"), (0, .methodref 9 30), (0, .nameAndType 31 32), (0, u "text"), (0, u "()Ljava/lang/String;"), (0, .methodref 14 34), (0, .nameAndType 35 36), (0, u "equals"), (0, u "(Ljava/lang/Object;)Z"), (0, .class_ 38), (0, u "com/example/vervet/vervet/endpoints/ReasonOfPinLaw"), (2, u "law"), (0, u "(I)Z")] 7

def k1m0 : Method := { name := "<init>", desc := "()V", sig := { parameters := [], returnType := none }, accessFlags := 1, code := none }
def k1c1 : Code := { maxStack := 6, maxLocals := 5, code := code, exceptionTable := #[], attributes := #[] }
def k1m1 : Method := { name := "law", desc := "(I)Z", sig := { parameters := [.int], returnType := some .boolean }, accessFlags := 9, code := some k1c1 }
/-- com/example/vervet/vervet/endpoints/ReasonOfPinLaw -/
def k1 : Class := { plain "com/example/vervet/vervet/endpoints/ReasonOfPinLaw" (some 0) with
  accessFlags := 49
  interfaces := #[]
  cf := some (fileOf pool1 37 #[] #[{ accessFlags := 1, nameIndex := 5, descriptorIndex := 6, attributes := #[] }, { accessFlags := 9, nameIndex := 41, descriptorIndex := 42, attributes := #[] }] 49 2 #[] #[])
  fields := #[]
  methods := #[k1m0, k1m1]
  instanceTypes := #[]
  staticTypes := #[]
  resolved := Array.replicate 50 none
  statics := none }

def pool2 : Array CpInfo := pool [(1, .class_ 2), (0, u "java/lang/constant/Constable"), (0, .class_ 4), (0, u "java/lang/Object")] 6

/-- java/lang/constant/Constable -/
def k2 : Class := { plain "java/lang/constant/Constable" (some 0) with
  accessFlags := 1537
  interfaces := #[]
  cf := some (fileOf pool2 1 #[] #[] 1537 3 #[] #[])
  fields := #[]
  methods := #[]
  instanceTypes := #[]
  staticTypes := #[]
  resolved := Array.replicate 11 none
  statics := none }

def pool3 : Array CpInfo := pool [(1, .class_ 2), (0, u "java/lang/Comparable"), (0, .class_ 4), (0, u "java/lang/Object")] 7

/-- java/lang/Comparable -/
def k3 : Class := { plain "java/lang/Comparable" (some 0) with
  accessFlags := 1537
  interfaces := #[]
  cf := some (fileOf pool3 1 #[] #[] 1537 3 #[] #[])
  fields := #[]
  methods := #[]
  instanceTypes := #[]
  staticTypes := #[]
  resolved := Array.replicate 12 none
  statics := none }

def pool4 : Array CpInfo := pool [(1, .class_ 2), (0, u "java/io/Serializable"), (0, .class_ 4), (0, u "java/lang/Object")] 2

/-- java/io/Serializable -/
def k4 : Class := { plain "java/io/Serializable" (some 0) with
  accessFlags := 1537
  interfaces := #[]
  cf := some (fileOf pool4 1 #[] #[] 1537 3 #[] #[])
  fields := #[]
  methods := #[]
  instanceTypes := #[]
  staticTypes := #[]
  resolved := Array.replicate 7 none
  statics := none }

def pool5 : Array CpInfo := pool [(2, .class_ 4), (1, u "java/lang/Enum"), (0, u "name"), (0, u "Ljava/lang/String;"), (2, u "ordinal"), (0, u "I"), (1, .class_ 14), (1, u "java/lang/Object"), (4, u "hash"), (86, .class_ 108), (1, u "java/lang/Enum$EnumDesc"), (2, .class_ 112), (0, u "java/lang/constant/Constable"), (0, .class_ 114), (0, u "java/lang/Comparable"), (0, .class_ 116), (0, u "java/io/Serializable")] 87

/-- java/lang/Enum -/
def k5 : Class := { plain "java/lang/Enum" (some 0) with
  accessFlags := 1057
  interfaces := #[2, 3, 4]
  cf := some (fileOf pool5 2 #[.nestMembers #[106]] #[] 1057 12 #[111, 113, 115] #[{ accessFlags := 18, nameIndex := 5, descriptorIndex := 6, attributes := #[] }, { accessFlags := 18, nameIndex := 9, descriptorIndex := 10, attributes := #[] }, { accessFlags := 2, nameIndex := 19, descriptorIndex := 10, attributes := #[] }])
  fields := #[{ name := "name", type := (.object "java/lang/String"), accessFlags := 18, slot := 0, constantValue := 0 }, { name := "ordinal", type := .int, accessFlags := 18, slot := 1, constantValue := 0 }, { name := "hash", type := .int, accessFlags := 2, slot := 2, constantValue := 0 }]
  methods := #[]
  instanceTypes := #[(.object "java/lang/String"), .int, .int]
  staticTypes := #[]
  resolved := Array.replicate 204 none
  statics := none }

def pool6 : Array CpInfo := pool [(1, .class_ 2), (0, u "com/example/vervet/vervet/endpoints/Disabled$Reason"), (2, u "REQUESTED"), (0, u "Lcom/example/vervet/vervet/endpoints/Disabled$Reason;"), (2, u "RETRIES_EXHAUSTED"), (2, u "GONE"), (0, .fieldref 1 14), (0, .nameAndType 15 16), (0, u "$VALUES"), (0, u "[Lcom/example/vervet/vervet/endpoints/Disabled$Reason;"), (0, .methodref 18 19), (0, .class_ 16), (0, .nameAndType 20 21), (0, u "clone"), (0, u "()Ljava/lang/Object;"), (1, .class_ 25), (1, u "java/lang/Enum"), (6, .fieldref 1 33), (0, .nameAndType 34 35), (0, u "text"), (0, u "Ljava/lang/String;"), (0, .methodref 1 37), (0, .nameAndType 38 39), (0, u "values"), (0, u "()[Lcom/example/vervet/vervet/endpoints/Disabled$Reason;"), (0, .methodref 41 42), (0, .class_ 43), (0, .nameAndType 44 45), (0, u "java/lang/String"), (0, u "equals"), (0, u "(Ljava/lang/Object;)Z"), (26, u "(Ljava/lang/String;)Lcom/example/vervet/vervet/endpoints/Disabled$Reason;"), (2, u "()Ljava/lang/String;"), (0, u "of"), (7, .class_ 85), (0, u "com/example/vervet/vervet/endpoints/Disabled")] 16

def k6c0 : Code := { maxStack := 1, maxLocals := 0, code := prog_18_method_1_code, exceptionTable := #[], attributes := #[] }
def k6m0 : Method := { name := "values", desc := "()[Lcom/example/vervet/vervet/endpoints/Disabled$Reason;", sig := { parameters := [], returnType := some (.array (.object "com/example/vervet/vervet/endpoints/Disabled$Reason")) }, accessFlags := 9, code := some k6c0 }
def k6c1 : Code := { maxStack := 1, maxLocals := 1, code := prog_18_method_4_code, exceptionTable := #[], attributes := #[] }
def k6m1 : Method := { name := "text", desc := "()Ljava/lang/String;", sig := { parameters := [], returnType := some (.object "java/lang/String") }, accessFlags := 1, code := some k6c1 }
def k6c2 : Code := { maxStack := 3, maxLocals := 6, code := prog_18_method_5_code, exceptionTable := #[], attributes := #[] }
def k6m2 : Method := { name := "of", desc := "(Ljava/lang/String;)Lcom/example/vervet/vervet/endpoints/Disabled$Reason;", sig := { parameters := [(.object "java/lang/String")], returnType := some (.object "com/example/vervet/vervet/endpoints/Disabled$Reason") }, accessFlags := 8, code := some k6c2 }
/-- com/example/vervet/vervet/endpoints/Disabled$Reason -/
def k6 : Class := { plain "com/example/vervet/vervet/endpoints/Disabled$Reason" (some 5) with
  accessFlags := 16433
  interfaces := #[]
  cf := some (fileOf pool6 1 #[.nestHost 84] #[{ accessFlags := 9, nameIndex := 38, descriptorIndex := 39, attributes := #[] }, { accessFlags := 1, nameIndex := 34, descriptorIndex := 75, attributes := #[] }, { accessFlags := 8, nameIndex := 76, descriptorIndex := 72, attributes := #[] }] 16433 23 #[] #[{ accessFlags := 16409, nameIndex := 5, descriptorIndex := 6, attributes := #[] }, { accessFlags := 16409, nameIndex := 9, descriptorIndex := 6, attributes := #[] }, { accessFlags := 16409, nameIndex := 12, descriptorIndex := 6, attributes := #[] }, { accessFlags := 18, nameIndex := 34, descriptorIndex := 35, attributes := #[] }, { accessFlags := 4122, nameIndex := 15, descriptorIndex := 16, attributes := #[] }])
  fields := #[{ name := "REQUESTED", type := (.object "com/example/vervet/vervet/endpoints/Disabled$Reason"), accessFlags := 16409, slot := 0, constantValue := 0 }, { name := "RETRIES_EXHAUSTED", type := (.object "com/example/vervet/vervet/endpoints/Disabled$Reason"), accessFlags := 16409, slot := 1, constantValue := 0 }, { name := "GONE", type := (.object "com/example/vervet/vervet/endpoints/Disabled$Reason"), accessFlags := 16409, slot := 2, constantValue := 0 }, { name := "text", type := (.object "java/lang/String"), accessFlags := 18, slot := 3, constantValue := 0 }, { name := "$VALUES", type := (.array (.object "com/example/vervet/vervet/endpoints/Disabled$Reason")), accessFlags := 4122, slot := 3, constantValue := 0 }]
  methods := #[k6m0, k6m1, k6m2]
  instanceTypes := #[(.object "java/lang/String"), .int, .int, (.object "java/lang/String")]
  staticTypes := #[(.object "com/example/vervet/vervet/endpoints/Disabled$Reason"), (.object "com/example/vervet/vervet/endpoints/Disabled$Reason"), (.object "com/example/vervet/vervet/endpoints/Disabled$Reason"), (.array (.object "com/example/vervet/vervet/endpoints/Disabled$Reason"))]
  resolved := Array.replicate 102 none
  statics := some 0 }

def pool7 : Array CpInfo := pool [(1, .class_ 2), (0, u "java/lang/Cloneable"), (0, .class_ 4), (0, u "java/lang/Object")] 2

/-- java/lang/Cloneable -/
def k7 : Class := { plain "java/lang/Cloneable" (some 0) with
  accessFlags := 1537
  interfaces := #[]
  cf := some (fileOf pool7 1 #[] #[] 1537 3 #[] #[])
  fields := #[]
  methods := #[]
  instanceTypes := #[]
  staticTypes := #[]
  resolved := Array.replicate 7 none
  statics := none }

def pool8 : Array CpInfo := pool [(2, .class_ 4), (1, u "java/lang/CharSequence"), (42, .class_ 48), (0, u "java/lang/CharSequence$1CodePointIterator"), (10, .class_ 60), (0, u "java/lang/CharSequence$1CharIterator"), (5, .class_ 67), (0, u "java/lang/Object")] 63

/-- java/lang/CharSequence -/
def k8 : Class := { plain "java/lang/CharSequence" (some 0) with
  accessFlags := 1537
  interfaces := #[]
  cf := some (fileOf pool8 2 #[.nestMembers #[47, 59]] #[] 1537 66 #[] #[])
  fields := #[]
  methods := #[]
  instanceTypes := #[]
  staticTypes := #[]
  resolved := Array.replicate 131 none
  statics := none }

def pool9 : Array CpInfo := pool [(1, .class_ 2), (0, u "java/lang/constant/ConstantDesc"), (0, .class_ 4), (0, u "java/lang/Object")] 32

/-- java/lang/constant/ConstantDesc -/
def k9 : Class := { plain "java/lang/constant/ConstantDesc" (some 0) with
  accessFlags := 1537
  interfaces := #[]
  cf := some (fileOf pool9 1 #[] #[] 1537 3 #[] #[])
  fields := #[]
  methods := #[]
  instanceTypes := #[]
  staticTypes := #[]
  resolved := Array.replicate 37 none
  statics := none }

def pool10 : Array CpInfo := pool [(1, .methodref 2 3), (0, .class_ 4), (0, .nameAndType 5 6), (0, u "java/lang/Object"), (0, u "<init>"), (0, u "()V"), (2, .fieldref 10 11), (0, .class_ 12), (0, .nameAndType 13 14), (0, u "java/lang/String"), (0, u "value"), (0, u "[B"), (0, .fieldref 10 16), (0, .nameAndType 17 18), (0, u "coder"), (0, u "B"), (2, u "hash"), (0, u "I"), (2, u "hashIsZero"), (0, u "Z"), (0, .methodref 10 28), (0, .nameAndType 5 29), (0, u "([CIILjava/lang/Void;)V"), (8, .fieldref 10 39), (0, .nameAndType 40 26), (0, u "COMPACT_STRINGS"), (1, .class_ 44), (1, u "java/lang/StringUTF16"), (0, u "compress"), (1, .methodref 42 48), (0, .nameAndType 49 50), (0, u "coderFromArrayLen"), (0, u "([BI)B"), (56, .class_ 109), (1, u "java/lang/StringLatin1"), (67, .methodref 42 178), (0, .nameAndType 45 179), (0, u "([CII)[B"), (361, .methodref 107 542), (0, .nameAndType 543 544), (0, u "equals"), (0, u "([B[B)Z"), (28, u "(Ljava/lang/Object;)Z"), (1, .class_ 576), (0, u "java/lang/CharSequence"), (22, u "CASE_INSENSITIVE_ORDER"), (0, u "Ljava/util/Comparator;"), (409, u "([C)V"), (90, u "serialPersistentFields"), (0, u "[Ljava/io/ObjectStreamField;"), (0, .class_ 1104), (0, u "java/lang/String$CaseInsensitiveComparator"), (1, .class_ 1107), (0, u "java/io/Serializable"), (0, .class_ 1109), (0, u "java/lang/Comparable"), (0, .class_ 1111), (0, u "java/lang/constant/Constable"), (0, .class_ 1113), (0, u "java/lang/constant/ConstantDesc"), (2, u "serialVersionUID"), (0, u "J"), (3, u "REPL"), (0, u "C"), (2, u "LATIN1"), (1, u "UTF16")] 323

def k10m0 : Method := { name := "<init>", desc := "()V", sig := { parameters := [], returnType := none }, accessFlags := 1, code := none }
def k10c1 : Code := { maxStack := 5, maxLocals := 2, code := jdk_42_method_3_code, exceptionTable := #[], attributes := #[] }
def k10m1 : Method := { name := "<init>", desc := "([C)V", sig := { parameters := [(.array .char)], returnType := none }, accessFlags := 1, code := some k10c1 }
def k10c2 : Code := { maxStack := 2, maxLocals := 3, code := jdk_42_method_66_code, exceptionTable := #[], attributes := #[] }
def k10m2 : Method := { name := "equals", desc := "(Ljava/lang/Object;)Z", sig := { parameters := [(.object "java/lang/Object")], returnType := some .boolean }, accessFlags := 1, code := some k10c2 }
def k10c3 : Code := { maxStack := 4, maxLocals := 6, code := jdk_42_method_149_code, exceptionTable := #[], attributes := #[] }
def k10m3 : Method := { name := "<init>", desc := "([CIILjava/lang/Void;)V", sig := { parameters := [(.array .char), .int, .int, (.object "java/lang/Void")], returnType := none }, accessFlags := 2, code := some k10c3 }
/-- java/lang/String -/
def k10 : Class := { plain "java/lang/String" (some 0) with
  accessFlags := 49
  interfaces := #[4, 3, 8, 2, 9]
  cf := some (fileOf pool10 10 #[.nestMembers #[1103]] #[{ accessFlags := 1, nameIndex := 5, descriptorIndex := 6, attributes := #[] }, { accessFlags := 1, nameIndex := 5, descriptorIndex := 1010, attributes := #[] }, { accessFlags := 1, nameIndex := 543, descriptorIndex := 573, attributes := #[] }, { accessFlags := 2, nameIndex := 5, descriptorIndex := 29, attributes := #[] }] 49 2 #[1106, 1108, 575, 1110, 1112] #[{ accessFlags := 18, nameIndex := 13, descriptorIndex := 14, attributes := #[] }, { accessFlags := 18, nameIndex := 17, descriptorIndex := 18, attributes := #[] }, { accessFlags := 2, nameIndex := 21, descriptorIndex := 22, attributes := #[] }, { accessFlags := 2, nameIndex := 25, descriptorIndex := 26, attributes := #[] }, { accessFlags := 26, nameIndex := 1116, descriptorIndex := 1117, attributes := #[] }, { accessFlags := 24, nameIndex := 40, descriptorIndex := 26, attributes := #[] }, { accessFlags := 26, nameIndex := 1101, descriptorIndex := 1102, attributes := #[] }, { accessFlags := 26, nameIndex := 1121, descriptorIndex := 1122, attributes := #[] }, { accessFlags := 25, nameIndex := 599, descriptorIndex := 600, attributes := #[] }, { accessFlags := 24, nameIndex := 1125, descriptorIndex := 18, attributes := #[] }, { accessFlags := 24, nameIndex := 1127, descriptorIndex := 18, attributes := #[] }])
  fields := #[{ name := "value", type := (.array .byte), accessFlags := 18, slot := 0, constantValue := 0 }, { name := "coder", type := .byte, accessFlags := 18, slot := 1, constantValue := 0 }, { name := "hash", type := .int, accessFlags := 2, slot := 2, constantValue := 0 }, { name := "hashIsZero", type := .boolean, accessFlags := 2, slot := 3, constantValue := 0 }, { name := "serialVersionUID", type := .long, accessFlags := 26, slot := 0, constantValue := 0 }, { name := "COMPACT_STRINGS", type := .boolean, accessFlags := 24, slot := 1, constantValue := 0 }, { name := "serialPersistentFields", type := (.array (.object "java/io/ObjectStreamField")), accessFlags := 26, slot := 2, constantValue := 0 }, { name := "REPL", type := .char, accessFlags := 26, slot := 3, constantValue := 0 }, { name := "CASE_INSENSITIVE_ORDER", type := (.object "java/util/Comparator"), accessFlags := 25, slot := 4, constantValue := 0 }, { name := "LATIN1", type := .byte, accessFlags := 24, slot := 5, constantValue := 0 }, { name := "UTF16", type := .byte, accessFlags := 24, slot := 6, constantValue := 0 }]
  methods := #[k10m0, k10m1, k10m2, k10m3]
  instanceTypes := #[(.array .byte), .byte, .int, .boolean]
  staticTypes := #[.long, .boolean, (.array (.object "java/io/ObjectStreamField")), .char, (.object "java/util/Comparator"), .byte, .byte]
  resolved := Array.replicate 1451 none
  statics := some 1 }

def pool11 : Array CpInfo := pool [(6, .class_ 8), (1, u "java/lang/Object"), (0, u "<init>"), (0, u "()V"), (1, .class_ 14), (1, u "java/lang/StringUTF16"), (31, u "$assertionsDisabled"), (0, u "Z"), (13, u "HI_BYTE_SHIFT"), (0, u "I"), (2, u "LO_BYTE_SHIFT"), (49, .methodref 12 116), (0, .nameAndType 117 118), (0, u "compress"), (0, u "([CI[BII)I"), (3, u "([CII)[B"), (138, u "coderFromArrayLen"), (0, u "([BI)B"), (106, .class_ 371), (1, u "java/lang/StringUTF16$LinesSpliterator"), (58, u "MAX_LENGTH"), (196, .class_ 628), (0, u "java/lang/StringUTF16$CodePointsSpliterator"), (0, .class_ 630), (0, u "java/lang/StringUTF16$CharsSpliterator")] 4

def k11m0 : Method := { name := "<init>", desc := "()V", sig := { parameters := [], returnType := none }, accessFlags := 0, code := none }
def k11c1 : Code := { maxStack := 2, maxLocals := 2, code := jdk_52_method_15_code, exceptionTable := #[], attributes := #[] }
def k11m1 : Method := { name := "coderFromArrayLen", desc := "([BI)B", sig := { parameters := [(.array .byte), .int], returnType := some .byte }, accessFlags := 8, code := some k11c1 }
def k11c2 : Code := { maxStack := 5, maxLocals := 6, code := jdk_52_method_16_code, exceptionTable := #[], attributes := #[] }
def k11m2 : Method := { name := "compress", desc := "([CII)[B", sig := { parameters := [(.array .char), .int, .int], returnType := some (.array .byte) }, accessFlags := 9, code := some k11c2 }
def k11c3 : Code := { maxStack := 3, maxLocals := 7, code := jdk_52_method_21_code, exceptionTable := #[], attributes := #[] }
def k11m3 : Method := { name := "compress", desc := "([CI[BII)I", sig := { parameters := [(.array .char), .int, (.array .byte), .int, .int], returnType := some .int }, accessFlags := 9, code := some k11c3 }
/-- java/lang/StringUTF16 -/
def k11 : Class := { plain "java/lang/StringUTF16" (some 0) with
  accessFlags := 48
  interfaces := #[]
  cf := some (fileOf pool11 12 #[.nestMembers #[627, 629, 369]] #[{ accessFlags := 0, nameIndex := 9, descriptorIndex := 10, attributes := #[] }, { accessFlags := 8, nameIndex := 261, descriptorIndex := 262, attributes := #[] }, { accessFlags := 9, nameIndex := 117, descriptorIndex := 122, attributes := #[] }, { accessFlags := 9, nameIndex := 117, descriptorIndex := 118, attributes := #[] }] 48 6 #[] #[{ accessFlags := 26, nameIndex := 61, descriptorIndex := 62, attributes := #[] }, { accessFlags := 26, nameIndex := 65, descriptorIndex := 62, attributes := #[] }, { accessFlags := 24, nameIndex := 430, descriptorIndex := 62, attributes := #[] }, { accessFlags := 4120, nameIndex := 46, descriptorIndex := 47, attributes := #[] }])
  fields := #[{ name := "HI_BYTE_SHIFT", type := .int, accessFlags := 26, slot := 0, constantValue := 0 }, { name := "LO_BYTE_SHIFT", type := .int, accessFlags := 26, slot := 1, constantValue := 0 }, { name := "MAX_LENGTH", type := .int, accessFlags := 24, slot := 2, constantValue := 0 }, { name := "$assertionsDisabled", type := .boolean, accessFlags := 4120, slot := 3, constantValue := 0 }]
  methods := #[k11m0, k11m1, k11m2, k11m3]
  instanceTypes := #[]
  staticTypes := #[.int, .int, .int, .boolean]
  resolved := Array.replicate 635 none
  statics := none }

def pool12 : Array CpInfo := pool [(4, .class_ 6), (1, u "java/lang/Object"), (0, u "<init>"), (0, u "()V"), (5, .class_ 16), (1, u "java/lang/StringLatin1"), (104, u "$assertionsDisabled"), (0, u "Z"), (98, .class_ 223), (1, u "java/lang/StringLatin1$LinesSpliterator"), (57, u "equals"), (0, u "([B[B)Z"), (107, .class_ 391), (0, u "java/lang/StringLatin1$CharsSpliterator")] 3

def k12m0 : Method := { name := "<init>", desc := "()V", sig := { parameters := [], returnType := none }, accessFlags := 0, code := none }
def k12c1 : Code := { maxStack := 3, maxLocals := 3, code := jdk_43_method_13_code, exceptionTable := #[], attributes := #[] }
def k12m1 : Method := { name := "equals", desc := "([B[B)Z", sig := { parameters := [(.array .byte), (.array .byte)], returnType := some .boolean }, accessFlags := 9, code := some k12c1 }
/-- java/lang/StringLatin1 -/
def k12 : Class := { plain "java/lang/StringLatin1" (some 0) with
  accessFlags := 48
  interfaces := #[]
  cf := some (fileOf pool12 14 #[.nestMembers #[390, 221]] #[{ accessFlags := 0, nameIndex := 7, descriptorIndex := 8, attributes := #[] }, { accessFlags := 9, nameIndex := 281, descriptorIndex := 282, attributes := #[] }] 48 4 #[] #[{ accessFlags := 4120, nameIndex := 121, descriptorIndex := 122, attributes := #[] }])
  fields := #[{ name := "$assertionsDisabled", type := .boolean, accessFlags := 4120, slot := 0, constantValue := 0 }]
  methods := #[k12m0, k12m1]
  instanceTypes := #[]
  staticTypes := #[.boolean]
  resolved := Array.replicate 395 none
  statics := none }

def pool13 : Array CpInfo := pool [(2, .class_ 4), (1, u "java/lang/Object"), (0, u "<init>"), (0, u "()V"), (17, .class_ 26), (1, u "jdk/internal/util/Preconditions"), (28, .class_ 56), (0, u "jdk/internal/util/Preconditions$4"), (57, .class_ 115), (0, u "jdk/internal/util/Preconditions$1"), (7, u "SIOOBE_FORMATTER"), (0, u "Ljava/util/function/BiFunction;"), (0, .class_ 126), (0, u "jdk/internal/util/Preconditions$2"), (3, u "AIOOBE_FORMATTER"), (0, .class_ 132), (0, u "jdk/internal/util/Preconditions$3"), (3, u "IOOBE_FORMATTER")] 57

def k13m0 : Method := { name := "<init>", desc := "()V", sig := { parameters := [], returnType := none }, accessFlags := 1, code := none }
/-- jdk/internal/util/Preconditions -/
def k13 : Class := { plain "jdk/internal/util/Preconditions" (some 0) with
  accessFlags := 33
  interfaces := #[]
  cf := some (fileOf pool13 24 #[.nestMembers #[55, 131, 125, 114]] #[{ accessFlags := 1, nameIndex := 5, descriptorIndex := 6, attributes := #[] }] 33 2 #[] #[{ accessFlags := 25, nameIndex := 123, descriptorIndex := 124, attributes := #[] }, { accessFlags := 25, nameIndex := 130, descriptorIndex := 124, attributes := #[] }, { accessFlags := 25, nameIndex := 136, descriptorIndex := 124, attributes := #[] }])
  fields := #[{ name := "SIOOBE_FORMATTER", type := (.object "java/util/function/BiFunction"), accessFlags := 25, slot := 0, constantValue := 0 }, { name := "AIOOBE_FORMATTER", type := (.object "java/util/function/BiFunction"), accessFlags := 25, slot := 1, constantValue := 0 }, { name := "IOOBE_FORMATTER", type := (.object "java/util/function/BiFunction"), accessFlags := 25, slot := 2, constantValue := 0 }]
  methods := #[k13m0]
  instanceTypes := #[]
  staticTypes := #[(.object "java/util/function/BiFunction"), (.object "java/util/function/BiFunction"), (.object "java/util/function/BiFunction")]
  resolved := Array.replicate 194 none
  statics := some 2 }

def pool14 : Array CpInfo := pool [(9, u "<init>"), (6, .class_ 18), (1, u "java/lang/Object"), (0, u "()V"), (1, .class_ 23), (1, u "jdk/internal/util/ArraysSupport"), (0, u "LOG2_ARRAY_LONG_INDEX_SCALE"), (0, u "I"), (2, u "U"), (0, u "Ljdk/internal/misc/Unsafe;"), (8, u "BIG_ENDIAN"), (0, u "Z"), (8, u "LOG2_BYTE_BIT_SIZE"), (4, u "LOG2_ARRAY_INT_INDEX_SCALE"), (54, u "JLA"), (0, u "Ljdk/internal/access/JavaLangAccess;"), (11, u "LOG2_ARRAY_BOOLEAN_INDEX_SCALE"), (9, u "LOG2_ARRAY_BYTE_INDEX_SCALE"), (5, u "LOG2_ARRAY_CHAR_INDEX_SCALE"), (5, u "LOG2_ARRAY_SHORT_INDEX_SCALE"), (18, u "LOG2_ARRAY_FLOAT_INDEX_SCALE"), (24, u "LOG2_ARRAY_DOUBLE_INDEX_SCALE"), (89, u "T_BOOLEAN"), (2, u "T_CHAR"), (1, u "T_FLOAT"), (1, u "T_DOUBLE"), (1, u "T_BYTE"), (1, u "T_SHORT"), (1, u "T_INT"), (1, u "T_LONG"), (1, u "SOFT_MAX_ARRAY_LENGTH")] 83

def k14m0 : Method := { name := "<init>", desc := "()V", sig := { parameters := [], returnType := none }, accessFlags := 2, code := none }
/-- jdk/internal/util/ArraysSupport -/
def k14 : Class := { plain "jdk/internal/util/ArraysSupport" (some 0) with
  accessFlags := 33
  interfaces := #[]
  cf := some (fileOf pool14 21 #[] #[{ accessFlags := 2, nameIndex := 9, descriptorIndex := 19, attributes := #[] }] 33 16 #[] #[{ accessFlags := 24, nameIndex := 28, descriptorIndex := 29, attributes := #[] }, { accessFlags := 26, nameIndex := 38, descriptorIndex := 39, attributes := #[] }, { accessFlags := 25, nameIndex := 121, descriptorIndex := 25, attributes := #[] }, { accessFlags := 25, nameIndex := 131, descriptorIndex := 25, attributes := #[] }, { accessFlags := 25, nameIndex := 137, descriptorIndex := 25, attributes := #[] }, { accessFlags := 25, nameIndex := 143, descriptorIndex := 25, attributes := #[] }, { accessFlags := 25, nameIndex := 53, descriptorIndex := 25, attributes := #[] }, { accessFlags := 25, nameIndex := 24, descriptorIndex := 25, attributes := #[] }, { accessFlags := 25, nameIndex := 162, descriptorIndex := 25, attributes := #[] }, { accessFlags := 25, nameIndex := 187, descriptorIndex := 25, attributes := #[] }, { accessFlags := 26, nameIndex := 48, descriptorIndex := 25, attributes := #[] }, { accessFlags := 25, nameIndex := 277, descriptorIndex := 25, attributes := #[] }, { accessFlags := 25, nameIndex := 280, descriptorIndex := 25, attributes := #[] }, { accessFlags := 25, nameIndex := 282, descriptorIndex := 25, attributes := #[] }, { accessFlags := 25, nameIndex := 284, descriptorIndex := 25, attributes := #[] }, { accessFlags := 25, nameIndex := 286, descriptorIndex := 25, attributes := #[] }, { accessFlags := 25, nameIndex := 288, descriptorIndex := 25, attributes := #[] }, { accessFlags := 25, nameIndex := 290, descriptorIndex := 25, attributes := #[] }, { accessFlags := 25, nameIndex := 292, descriptorIndex := 25, attributes := #[] }, { accessFlags := 26, nameIndex := 108, descriptorIndex := 109, attributes := #[] }, { accessFlags := 25, nameIndex := 294, descriptorIndex := 25, attributes := #[] }])
  fields := #[{ name := "U", type := (.object "jdk/internal/misc/Unsafe"), accessFlags := 24, slot := 0, constantValue := 0 }, { name := "BIG_ENDIAN", type := .boolean, accessFlags := 26, slot := 1, constantValue := 0 }, { name := "LOG2_ARRAY_BOOLEAN_INDEX_SCALE", type := .int, accessFlags := 25, slot := 2, constantValue := 0 }, { name := "LOG2_ARRAY_BYTE_INDEX_SCALE", type := .int, accessFlags := 25, slot := 3, constantValue := 0 }, { name := "LOG2_ARRAY_CHAR_INDEX_SCALE", type := .int, accessFlags := 25, slot := 4, constantValue := 0 }, { name := "LOG2_ARRAY_SHORT_INDEX_SCALE", type := .int, accessFlags := 25, slot := 5, constantValue := 0 }, { name := "LOG2_ARRAY_INT_INDEX_SCALE", type := .int, accessFlags := 25, slot := 6, constantValue := 0 }, { name := "LOG2_ARRAY_LONG_INDEX_SCALE", type := .int, accessFlags := 25, slot := 7, constantValue := 0 }, { name := "LOG2_ARRAY_FLOAT_INDEX_SCALE", type := .int, accessFlags := 25, slot := 8, constantValue := 0 }, { name := "LOG2_ARRAY_DOUBLE_INDEX_SCALE", type := .int, accessFlags := 25, slot := 9, constantValue := 0 }, { name := "LOG2_BYTE_BIT_SIZE", type := .int, accessFlags := 26, slot := 10, constantValue := 0 }, { name := "T_BOOLEAN", type := .int, accessFlags := 25, slot := 11, constantValue := 0 }, { name := "T_CHAR", type := .int, accessFlags := 25, slot := 12, constantValue := 0 }, { name := "T_FLOAT", type := .int, accessFlags := 25, slot := 13, constantValue := 0 }, { name := "T_DOUBLE", type := .int, accessFlags := 25, slot := 14, constantValue := 0 }, { name := "T_BYTE", type := .int, accessFlags := 25, slot := 15, constantValue := 0 }, { name := "T_SHORT", type := .int, accessFlags := 25, slot := 16, constantValue := 0 }, { name := "T_INT", type := .int, accessFlags := 25, slot := 17, constantValue := 0 }, { name := "T_LONG", type := .int, accessFlags := 25, slot := 18, constantValue := 0 }, { name := "JLA", type := (.object "jdk/internal/access/JavaLangAccess"), accessFlags := 26, slot := 19, constantValue := 0 }, { name := "SOFT_MAX_ARRAY_LENGTH", type := .int, accessFlags := 25, slot := 20, constantValue := 0 }]
  methods := #[k14m0]
  instanceTypes := #[]
  staticTypes := #[(.object "jdk/internal/misc/Unsafe"), .boolean, .int, .int, .int, .int, .int, .int, .int, .int, .int, .int, .int, .int, .int, .int, .int, .int, .int, (.object "jdk/internal/access/JavaLangAccess"), .int]
  resolved := Array.replicate 378 none
  statics := none }

/-- the primitive byte -/
def k15 : Class := { plain "byte" none with kind := .primitive 'B', accessFlags := 0x411 }
/-- [B -/
def k16 : Class := { plain "[B" (some 0) with kind := .array 15 .byte, interfaces := #[7, 4], accessFlags := 1041 }

/-- the primitive char -/
def k17 : Class := { plain "char" none with kind := .primitive 'C', accessFlags := 0x411 }
/-- [C -/
def k18 : Class := { plain "[C" (some 0) with kind := .array 17 .char, interfaces := #[7, 4], accessFlags := 1041 }

/-- the primitive int -/
def k19 : Class := { plain "int" none with kind := .primitive 'I', accessFlags := 0x411 }
/-- [I -/
def k20 : Class := { plain "[I" (some 0) with kind := .array 19 .int, interfaces := #[7, 4], accessFlags := 1041 }

/-- [Lcom/example/vervet/vervet/endpoints/Disabled$Reason; -/
def k21 : Class := { plain "[Lcom/example/vervet/vervet/endpoints/Disabled$Reason;" (some 0) with kind := .array 6 (.object "com/example/vervet/vervet/endpoints/Disabled$Reason"), interfaces := #[7, 4], accessFlags := 1041 }

def heap : Heap := #[{ cls := 6, slots := #[.ref 4, .ref 5, .ref 6, .ref 3], vm := .statics 6 },
  { cls := 10, slots := #[.long 0, .int 1, .null, .int 0, .null, .int 0, .int 0], vm := .statics 10 },
  { cls := 13, slots := #[.null, .null, .null], vm := .statics 13 },
  { cls := 21, slots := #[.ref 4, .ref 5, .ref 6], vm := .none },
  { cls := 6, slots := #[.null, .int 0, .int 0, .ref 7], vm := .none },
  { cls := 6, slots := #[.null, .int 1, .int 0, .ref 8], vm := .none },
  { cls := 6, slots := #[.null, .int 2, .int 0, .ref 9], vm := .none },
  { cls := 10, slots := #[.ref 10, .int 0, .int 0, .int 0], vm := .none },
  { cls := 10, slots := #[.ref 11, .int 0, .int 0, .int 0], vm := .none },
  { cls := 10, slots := #[.ref 12, .int 0, .int 0, .int 0], vm := .none },
  { cls := 16, slots := #[.int 114, .int 101, .int 113, .int 117, .int 101, .int 115, .int 116, .int 101, .int 100], vm := .none },
  { cls := 16, slots := #[.int 114, .int 101, .int 116, .int 114, .int 105, .int 101, .int 115, .int 32, .int 101, .int 120, .int 104, .int 97, .int 117, .int 115, .int 116, .int 101, .int 100], vm := .none },
  { cls := 16, slots := #[.int 103, .int 111, .int 110, .int 101], vm := .none }]
def classes : Array Class := #[k0, k1, k2, k3, k4, k5, k6, k7, k8, k9, k10, k11, k12, k13, k14, k15, k16, k17, k18, k19, k20, k21]
def interned : List (Array UInt16 × Addr) := []
def slotsUsed : Nat := 71
def theMethod : MethodId := ⟨1, 1⟩
def args0 : Array Value := #[.int 1]
def aboutOver (below : List Frame) : State where
  vm := { classes := classes, interned := interned.toArray }
  heap := heap
  slotsUsed := slotsUsed
  threads := #[{ frames := .invoking theMethod args0 :: below }]
def below0 : List Frame := [.native { method := ⟨0, 0⟩, args := #[] }]
def about1 : State := aboutOver below0
def p0 : Program := .bare "" "" ""
def e0 : Env := launch0.env 0 0 0
theorem w_frames : about1.frames = Frame.invoking theMethod args0 :: below0 := rfl
set_option maxRecDepth 65536 in
theorem w_args : argsFit about1.vm theMethod args0 = true := by decide +kernel
set_option maxRecDepth 65536 in
theorem w_heap : heapFits about1 = true := by decide +kernel
set_option maxRecDepth 65536 in
theorem w_runnable : about1.curStatus? = some .runnable := by decide +kernel
set_option maxRecDepth 65536 in
theorem w_alone : about1.alone = true := by decide +kernel
set_option maxRecDepth 65536 in
theorem w_named : about1.methodNamed? x = some theMethod := by decide +kernel
set_option maxRecDepth 65536 in
theorem w_hears : about1.hears theMethod below0 = true := by decide +kernel
set_option maxRecDepth 65536 in
theorem w_ripe : about1.ripe theMethod args0 below0 = true := by decide +kernel
theorem w_running : about1.status = .running := rfl
set_option maxRecDepth 65536 in
theorem w_room : about1.hasRoom e0.platform room_1 = true :=
  launch0.hasRoom_least _ room_1 (by decide +kernel) (by decide +kernel) (by decide +kernel) (by decide +kernel) (by decide +kernel) (by decide +kernel)
theorem allAtoms_all (ts : List Jvm.Cond) (a : Array Jvm.Value) (st : Jvm.State) : (allAtoms ts).before a st = ts.all (fun c => c.before a st) := by
  induction ts with
  | nil => rfl
  | cons c t ih =>
    show (Jvm.Cond.and c (allAtoms t)).before a st = _
    rw [Jvm.Cond.before_and, ih, List.all_cons]
def words1 : List Jvm.Cond := Jvm.Cond.code x code maxLocals ret :: tables_1
/-- a 'code' word, met by the world's own term for the bytes: nothing is compared byte by byte -/
theorem code_word {y : MethodName} {bytes : ByteArray} {mx : Nat} {rt : Option FieldType} {a : Array Value} {s : State} {m : MethodId} {meth : Method} {c : Code} (h1 : s.methodNamed? y = some m) (h2 : s.vm.method? m = some meth) (h3 : meth.code = some c) (h4 : c.code = bytes)
    (h5 : (c.maxLocals == mx && c.exceptionTable.isEmpty && decide (c.maxStack ≤ mostOperands) && decide (meth.sig.returnType = rt) && !meth.locks && decide (parseMethodDescriptor y.desc = some meth.sig)) = true) : (Jvm.Cond.code y bytes mx rt).before a s = true := by
  simp only [Bool.and_eq_true, beq_iff_eq, Bool.not_eq_true', decide_eq_true_eq] at h5
  obtain ⟨⟨⟨⟨⟨g1, g2⟩, g3⟩, g4⟩, g5⟩, g6⟩ := h5
  simp [Cond.before, Cond.holds, Cond.value, h1, h2, h3, h4, g1, g2, g3, g4, g5, g6]
def isCode : Jvm.Cond → Bool
  | .code _ _ _ _ => true
  | _ => false
theorem all_split {L : List Jvm.Cond} {P : Jvm.Cond → Bool} (h1 : L.all (fun c => isCode c || P c) = true) (h2 : ∀ c ∈ L.filter isCode, P c = true) : L.all P = true := by
  refine List.all_eq_true.mpr fun c hc => ?_
  have h := List.all_eq_true.mp h1 c hc
  rcases Bool.eq_false_or_eq_true (isCode c) with hi | hi
  · exact h2 c (List.mem_filter.mpr ⟨hc, hi⟩)
  · simpa [hi] using h
set_option maxRecDepth 65536 in
theorem w_c0 : (Jvm.Cond.code x code maxLocals ret).before args0 about1 = true := code_word (m := ⟨1, 1⟩) (meth := k1m1) (c := k1c1) (by decide +kernel) rfl rfl rfl (by decide +kernel)
set_option maxRecDepth 65536 in
theorem w_c1 : (Jvm.Cond.code ({ cls := "com/example/vervet/vervet/endpoints/Disabled$Reason", name := "of", desc := "(Ljava/lang/String;)Lcom/example/vervet/vervet/endpoints/Disabled$Reason;" } : Jvm.MethodName) prog_18_method_5_code (6 : Nat) (Option.some (Jvm.ClassFile.FieldType.object "com/example/vervet/vervet/endpoints/Disabled$Reason"))).before args0 about1 = true := code_word (m := ⟨6, 2⟩) (meth := k6m2) (c := k6c2) (by decide +kernel) rfl rfl rfl (by decide +kernel)
set_option maxRecDepth 65536 in
theorem w_c2 : (Jvm.Cond.code ({ cls := "com/example/vervet/vervet/endpoints/Disabled$Reason", name := "values", desc := "()[Lcom/example/vervet/vervet/endpoints/Disabled$Reason;" } : Jvm.MethodName) prog_18_method_1_code (0 : Nat) (Option.some (Jvm.ClassFile.FieldType.array (Jvm.ClassFile.FieldType.object "com/example/vervet/vervet/endpoints/Disabled$Reason")))).before args0 about1 = true := code_word (m := ⟨6, 0⟩) (meth := k6m0) (c := k6c0) (by decide +kernel) rfl rfl rfl (by decide +kernel)
set_option maxRecDepth 65536 in
theorem w_c3 : (Jvm.Cond.code ({ cls := "java/lang/String", name := "equals", desc := "(Ljava/lang/Object;)Z" } : Jvm.MethodName) jdk_42_method_66_code (3 : Nat) (Option.some Jvm.ClassFile.FieldType.boolean)).before args0 about1 = true := code_word (m := ⟨10, 2⟩) (meth := k10m2) (c := k10c2) (by decide +kernel) rfl rfl rfl (by decide +kernel)
set_option maxRecDepth 65536 in
theorem w_c4 : (Jvm.Cond.code ({ cls := "java/lang/String", name := "<init>", desc := "([C)V" } : Jvm.MethodName) jdk_42_method_3_code (2 : Nat) (Option.none : Option Jvm.ClassFile.FieldType)).before args0 about1 = true := code_word (m := ⟨10, 1⟩) (meth := k10m1) (c := k10c1) (by decide +kernel) rfl rfl rfl (by decide +kernel)
set_option maxRecDepth 65536 in
theorem w_c5 : (Jvm.Cond.code ({ cls := "java/lang/String", name := "<init>", desc := "([CIILjava/lang/Void;)V" } : Jvm.MethodName) jdk_42_method_149_code (6 : Nat) (Option.none : Option Jvm.ClassFile.FieldType)).before args0 about1 = true := code_word (m := ⟨10, 3⟩) (meth := k10m3) (c := k10c3) (by decide +kernel) rfl rfl rfl (by decide +kernel)
set_option maxRecDepth 65536 in
theorem w_c6 : (Jvm.Cond.code ({ cls := "java/lang/Object", name := "<init>", desc := "()V" } : Jvm.MethodName) object_method_1_code (1 : Nat) (Option.none : Option Jvm.ClassFile.FieldType)).before args0 about1 = true := code_word (m := ⟨0, 0⟩) (meth := k0m0) (c := k0c0) (by decide +kernel) rfl rfl rfl (by decide +kernel)
set_option maxRecDepth 65536 in
theorem w_c7 : (Jvm.Cond.code ({ cls := "java/lang/StringUTF16", name := "compress", desc := "([CII)[B" } : Jvm.MethodName) jdk_52_method_16_code (6 : Nat) (Option.some (Jvm.ClassFile.FieldType.array Jvm.ClassFile.FieldType.byte))).before args0 about1 = true := code_word (m := ⟨11, 2⟩) (meth := k11m2) (c := k11c2) (by decide +kernel) rfl rfl rfl (by decide +kernel)
set_option maxRecDepth 65536 in
theorem w_c8 : (Jvm.Cond.code ({ cls := "java/lang/StringUTF16", name := "compress", desc := "([CI[BII)I" } : Jvm.MethodName) jdk_52_method_21_code (7 : Nat) (Option.some Jvm.ClassFile.FieldType.int)).before args0 about1 = true := code_word (m := ⟨11, 3⟩) (meth := k11m3) (c := k11c3) (by decide +kernel) rfl rfl rfl (by decide +kernel)
set_option maxRecDepth 65536 in
theorem w_c9 : (Jvm.Cond.code ({ cls := "java/lang/StringUTF16", name := "coderFromArrayLen", desc := "([BI)B" } : Jvm.MethodName) jdk_52_method_15_code (2 : Nat) (Option.some Jvm.ClassFile.FieldType.byte)).before args0 about1 = true := code_word (m := ⟨11, 1⟩) (meth := k11m1) (c := k11c1) (by decide +kernel) rfl rfl rfl (by decide +kernel)
set_option maxRecDepth 65536 in
theorem w_c10 : (Jvm.Cond.code ({ cls := "java/lang/StringLatin1", name := "equals", desc := "([B[B)Z" } : Jvm.MethodName) jdk_43_method_13_code (3 : Nat) (Option.some Jvm.ClassFile.FieldType.boolean)).before args0 about1 = true := code_word (m := ⟨12, 1⟩) (meth := k12m1) (c := k12c1) (by decide +kernel) rfl rfl rfl (by decide +kernel)
set_option maxRecDepth 65536 in
theorem w_c11 : (Jvm.Cond.code ({ cls := "com/example/vervet/vervet/endpoints/Disabled$Reason", name := "text", desc := "()Ljava/lang/String;" } : Jvm.MethodName) prog_18_method_4_code (1 : Nat) (Option.some (Jvm.ClassFile.FieldType.object "java/lang/String"))).before args0 about1 = true := code_word (m := ⟨6, 1⟩) (meth := k6m1) (c := k6c1) (by decide +kernel) rfl rfl rfl (by decide +kernel)
def codes1 : List Jvm.Cond := [Jvm.Cond.code x code maxLocals ret, Jvm.Cond.code ({ cls := "com/example/vervet/vervet/endpoints/Disabled$Reason", name := "of", desc := "(Ljava/lang/String;)Lcom/example/vervet/vervet/endpoints/Disabled$Reason;" } : Jvm.MethodName) prog_18_method_5_code (6 : Nat) (Option.some (Jvm.ClassFile.FieldType.object "com/example/vervet/vervet/endpoints/Disabled$Reason")), Jvm.Cond.code ({ cls := "com/example/vervet/vervet/endpoints/Disabled$Reason", name := "values", desc := "()[Lcom/example/vervet/vervet/endpoints/Disabled$Reason;" } : Jvm.MethodName) prog_18_method_1_code (0 : Nat) (Option.some (Jvm.ClassFile.FieldType.array (Jvm.ClassFile.FieldType.object "com/example/vervet/vervet/endpoints/Disabled$Reason"))), Jvm.Cond.code ({ cls := "java/lang/String", name := "equals", desc := "(Ljava/lang/Object;)Z" } : Jvm.MethodName) jdk_42_method_66_code (3 : Nat) (Option.some Jvm.ClassFile.FieldType.boolean), Jvm.Cond.code ({ cls := "java/lang/String", name := "<init>", desc := "([C)V" } : Jvm.MethodName) jdk_42_method_3_code (2 : Nat) (Option.none : Option Jvm.ClassFile.FieldType), Jvm.Cond.code ({ cls := "java/lang/String", name := "<init>", desc := "([CIILjava/lang/Void;)V" } : Jvm.MethodName) jdk_42_method_149_code (6 : Nat) (Option.none : Option Jvm.ClassFile.FieldType), Jvm.Cond.code ({ cls := "java/lang/Object", name := "<init>", desc := "()V" } : Jvm.MethodName) object_method_1_code (1 : Nat) (Option.none : Option Jvm.ClassFile.FieldType), Jvm.Cond.code ({ cls := "java/lang/StringUTF16", name := "compress", desc := "([CII)[B" } : Jvm.MethodName) jdk_52_method_16_code (6 : Nat) (Option.some (Jvm.ClassFile.FieldType.array Jvm.ClassFile.FieldType.byte)), Jvm.Cond.code ({ cls := "java/lang/StringUTF16", name := "compress", desc := "([CI[BII)I" } : Jvm.MethodName) jdk_52_method_21_code (7 : Nat) (Option.some Jvm.ClassFile.FieldType.int), Jvm.Cond.code ({ cls := "java/lang/StringUTF16", name := "coderFromArrayLen", desc := "([BI)B" } : Jvm.MethodName) jdk_52_method_15_code (2 : Nat) (Option.some Jvm.ClassFile.FieldType.byte), Jvm.Cond.code ({ cls := "java/lang/StringLatin1", name := "equals", desc := "([B[B)Z" } : Jvm.MethodName) jdk_43_method_13_code (3 : Nat) (Option.some Jvm.ClassFile.FieldType.boolean), Jvm.Cond.code ({ cls := "com/example/vervet/vervet/endpoints/Disabled$Reason", name := "text", desc := "()Ljava/lang/String;" } : Jvm.MethodName) prog_18_method_4_code (1 : Nat) (Option.some (Jvm.ClassFile.FieldType.object "java/lang/String"))]
set_option maxRecDepth 65536 in
theorem codes_eq : words1.filter isCode = codes1 := rfl
theorem w_codes : ∀ c ∈ words1.filter isCode, c.before args0 about1 = true := by
  rw [codes_eq]
  intro c hc
  simp only [codes1, List.mem_cons, List.not_mem_nil, or_false] at hc
  rcases hc with rfl | rfl | rfl | rfl | rfl | rfl | rfl | rfl | rfl | rfl | rfl | rfl
  · exact w_c0
  · exact w_c1
  · exact w_c2
  · exact w_c3
  · exact w_c4
  · exact w_c5
  · exact w_c6
  · exact w_c7
  · exact w_c8
  · exact w_c9
  · exact w_c10
  · exact w_c11
set_option maxRecDepth 65536 in
theorem w_t1 : (words1.take 24).all (fun c => isCode c || c.before args0 about1) = true := by decide +kernel
set_option maxRecDepth 65536 in
theorem w_t2 : ((words1.drop 24).take 24).all (fun c => isCode c || c.before args0 about1) = true := by decide +kernel
set_option maxRecDepth 65536 in
theorem w_t3 : (((words1.drop 24).drop 24).take 24).all (fun c => isCode c || c.before args0 about1) = true := by decide +kernel
set_option maxRecDepth 65536 in
theorem w_t4 : (((words1.drop 24).drop 24).drop 24).all (fun c => isCode c || c.before args0 about1) = true := by decide +kernel
theorem w_tables : (allAtoms (Jvm.Cond.code x code maxLocals ret :: tables_1)).before args0 about1 = true := by
  rw [allAtoms_all]
  show words1.all (fun c => c.before args0 about1) = true
  refine all_split ?_ w_codes
  rw [← List.take_append_drop 24 words1, List.all_append, w_t1, ← List.take_append_drop 24 (words1.drop 24), List.all_append, w_t2, ← List.take_append_drop 24 ((words1.drop 24).drop 24), List.all_append, w_t3, w_t4]
  rfl
set_option maxRecDepth 65536 in
theorem w_rest : rest_1_c.before args0 about1 = true := by decide +kernel
set_option maxRecDepth 65536 in
theorem w_case : (Jvm.Cond.and given_1 narrow_1).before args0 about1 = true := by decide +kernel
theorem w_applies : (headSpec (Jvm.Cond.code x code maxLocals ret :: tables_1) room_1).applies x e0.platform about1 = true :=
  (Spec.applies_iff w_frames).mpr ⟨w_running, w_runnable, w_alone, w_named, w_hears, w_ripe, w_room, w_tables⟩
theorem atStart : AtStart classFile x code maxLocals ret World_1 tables_1 room_1 Calls_1 rest_1 Pre_1 launch0 p0 e0 about1 theMethod args0 below0 :=
  ⟨lists_1, trivial, launch0.admits_env _ _ _, launch0.least_env, fairChoices_fair.cas, fairChoices_fair.clock, w_frames, w_args, w_heap, w_applies, trivial, w_rest, w_case⟩
end start1
theorem witness_1 : WitnessClaimed_1 := ⟨start1.p0, start1.e0, start1.about1, start1.theMethod, start1.args0, start1.below0, start1.atStart⟩
end Jvm.Pilot.@@N@@
