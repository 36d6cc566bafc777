import JvmDerived
import JvmDerived.Pilot.@@N@@Statement
import JvmDerived.Pilot.@@N@@Code
set_option linter.unusedVariables false
set_option linter.unusedSimpArgs false
namespace Jvm.OwnK
def EL : List (String × Nat) := [("com/example/outbox_relay/outboxrelay/OutboxRecordEqualsPinLaw", 9)]
end Jvm.OwnK
namespace Jvm.OwnK
open Sem ClassFile Op Lib Jvm.Stand Jvm.Free Jvm.LawKit Jvm.RoadKit
/-- what a body leaves: Q of its value and heap; what it wrote lies in new cells; the old cells stand -/
def Out (Z s : State) (Q : Option Value → Heap → Prop) (k n : Nat) (o : Outcome) (U : State) : Prop :=
  ∃ v L, o = .returned v ∧ (Q v U.heap ∧ Fr Z.heap.size L ∧ Old Z Z.heap.size U.heap) ∧ CHr Z EL s.vm s.heap U.vm U.heap ∧ ReturnedEndW s o U L k n
/-- the words under which String constants are loaded -/
def Wd (Z : State) : Prop := ∃ a0, EW Z a0 EL ∧ ∀ a ∈ Bundle.stringAtoms, a.before a0 Z = true
/-- from here the walk ends, and G holds of its end -/
def Go (tb : Tables) (e : Env) (below : List Frame) (G : Outcome → State → Prop) (T : State) (F : JFrame) : Prop :=
  ∃ s₂ o, Steps tb e below (T.setTop F) s₂ ∧ s₂.status = .running ∧ Ended s₂ below o ∧ G o s₂
/-- where the walk stands, with its heap -/
def Wk (p : Program) (l : Launch) (e : Env) (R : Room) (s : State) (m : MethodId) (args : Array Value) (below : List Frame) (meth : Method) (c : Code) (Z T : State) (h : Heap) (k n : Nat) (ss : List Addr) : Prop :=
  ∃ locs vm0 k0, Stand p l e R (s.setVm vm0) m args below meth c T locs k n ∧ T.heap = h ∧ Fr Z.heap.size locs ∧ Old Z Z.heap.size h ∧ s.Since vm0 k0 ∧ k0 ≤ h.size ∧ CHr Z EL s.vm s.heap vm0 h ∧ ∀ x ∈ ss, x < h.size ∧ Safe Z EL vm0 h x
/-- what is known of the body -/
def Bdy (p : Program) (Z s : State) (m : MethodId) (meth : Method) (c : Code) (own : String) (bytes : ByteArray) (maxL : Nat) (ret : Option FieldType) (nm : String) : Prop :=
  p.tables.exec = Jvm.exec ∧ Z.Warmed39 s.vm ∧ s.vm.findClass own = some m.cls ∧ c.code = bytes ∧ c.maxLocals = maxL ∧ meth.sig.returnType = ret ∧ meth.locks = false ∧ meth.name = nm ∧ Wd Z
/-- a contract -/
def Con (l : Launch) (Z : State) (y : MethodName) (bytes : ByteArray) (maxL : Nat) (ret : Option FieldType) (ws : List Cond) (rm : Room) (as' : Array Value) (h0 : Heap) (Q : Option Value → Heap → Prop) (ss : List Addr) : Prop :=
  Wd Z → Old Z Z.heap.size h0 → MetFree l y (head1 (Cond.code y bytes maxL ret :: ws) rm) (fun a U => a = as' ∧ Z.Warmed39 U.vm ∧ U.heap = h0 ∧ CHv Z EL U.vm h0 ∧ ∀ x ∈ ss, x < h0.size ∧ Safe Z EL U.vm h0 x) (fun _ _ _ _ _ => True) (fun _ U o U' => Out Z U Q rm.cells rm.slots o U')
def bi (b : Bool) : Int32 := if b then 1 else 0
theorem bi_t {b : Bool} (h : b = true) : ¬ bi b = 0 := by subst h; decide
theorem bi_f {b : Bool} (h : b = false) : bi b = 0 := by subst h; rfl
theorem bi_nar (b : Bool) : nar .boolean (bi b) = bi b := by cases b <;> rfl
theorem bi_tt : bi true = 1 := rfl
theorem bi_ff : bi false = 0 := rfl
theorem bi_inj {a b : Bool} : (bi a = bi b) = (a = b) := by cases a <;> cases b <;> decide
theorem own_nb (b : Bool) : narrow .boolean (.int (bi b)) = .int (bi b) := by cases b <;> rfl
theorem own_fb (b : Bool) : fits .boolean (.int (bi b)) = true := by cases b <;> rfl
theorem own_fr {t : FieldType} {v : Value} (ht : t.isReference = true) (hv : v.isRef = true) : fits t v = true := by cases t <;> cases v <;> first | rfl | (exfalso; revert ht hv; simp [FieldType.isReference, Value.isRef]; done)
theorem own_i2c (a : Int32) : ∃ x : Int32, a.toUInt32.toUInt16.toUInt32.toInt32 = x ∧ nar .char x = x ∧ 0 ≤ x.toInt ∧ x.toInt < 65536 := by
  refine ⟨_, rfl, ?_, (c_i2c a).2.1, (c_i2c a).2.2⟩
  show (a.toUInt32.toUInt16.toUInt32.toInt32).toUInt32.toUInt16.toUInt32.toInt32 = _
  simp only [UInt32.toUInt32_toInt32, UInt16.toUInt16_toUInt32]
theorem own_i2cm (a : Int32) : ∃ x : Int32, (a &&& 255).toUInt32.toUInt16.toUInt32.toInt32 = x ∧ nar .char x = x ∧ ¬ x < 0 ∧ ¬ 255 < x := by
  refine ⟨_, rfl, ?_, ?_⟩
  · show ((a &&& 255).toUInt32.toUInt16.toUInt32.toInt32).toUInt32.toUInt16.toUInt32.toInt32 = _
    simp only [UInt32.toUInt32_toInt32, UInt16.toUInt16_toUInt32]
  · rw [i2c_mask]
    have q := c_and a 255 (by decide)
    simp only [Int32.lt_iff_toInt_lt, Int32.reduceToInt] at *; omega
theorem own_and1 {a b : Bool} (h : b = true) : (bi a &&& 1) = bi (a && b) := by subst h; cases a <;> decide
theorem own_and0 {a b : Bool} (h : b = false) : (bi a &&& 0) = bi (a && b) := by subst h; cases a <;> decide
theorem own_andb (a b : Bool) : (bi a &&& bi b) = bi (a && b) := by cases a <;> cases b <;> decide
theorem own_inc (i : Nat) : Int32.ofNat i + 1 = Int32.ofNat (i + 1) := (Int32.ofNat_add i 1).symm
theorem own_ofNat {i : Nat} (h : i < 2147483648) : (Int32.ofNat i).toInt = i := by
  have := Int32.toInt_ofNat_of_lt (n := i) (by omega); exact this
theorem own_clamp {i : Nat} (h : i < 2147483648) : (Int32.ofNat i).toNatClampNeg = i := by
  simp only [Int32.toNatClampNeg, own_ofNat h]; omega
theorem own_lt {i j : Nat} (hi : i < 2147483648) (hj : j < 2147483648) : (Int32.ofNat i < Int32.ofNat j) ↔ i < j := by
  rw [Int32.lt_iff_toInt_lt, own_ofNat hi, own_ofNat hj]; omega
theorem own_ixok {i n : Nat} (hi : i < n) (hn : n < 2147483648) : ¬ Int32.ofNat i < 0 ∧ Int32.ofNat i < Int32.ofNat n := by
  refine ⟨?_, (own_lt (by omega) hn).mpr hi⟩
  rw [Int32.lt_iff_toInt_lt, own_ofNat (by omega)]; show ¬ ((i : Int) < 0); omega
theorem nar_b0 : nar .boolean 0 = 0 := by decide
theorem nar_b1 : nar .boolean 1 = 1 := by decide
theorem old_le {Z : State} {h : Heap} (O : Old Z Z.heap.size h) : Z.heap.size ≤ h.size := O.2.1
theorem nlt {x : Addr} {n : Nat} (h : x < n) : @LT.lt Nat _ x n := h
theorem nne {x y : Addr} (h : ¬ @Eq Nat x y) : x ≠ y := h
theorem own_root {Z : State} {a0 : Array Value} {O K : String} {kk : Nat} (w : (Cond.noSuperclass O).before a0 Z = true) (wk : (Cond.instantiable K kk).before a0 Z = true) (hn : O ≠ K) : NS Z O K := by
  obtain ⟨c, k, h1, h2, h3, -, -⟩ := Cond.noSuperclass_spec w
  obtain ⟨t, kt, g1, -⟩ := Cond.instantiable_spec wk
  have ne := ids_ne h1 g1 hn
  refine ⟨c, t, h1, g1, fun fuel => ?_⟩
  cases fuel with
  | zero => rfl
  | succ f => simp [Vm.isSubclassAux, ne, h2, h3]
theorem own_no {Z : State} {a0 : Array Value} {C S K : String} {kk : Nat} (w : (Cond.superclass C S).before a0 Z = true) (wk : (Cond.instantiable K kk).before a0 Z = true) (n : NS Z C K) (hn : C ≠ K) : ∃ c t, Z.vm.findClass C = some c ∧ Z.vm.findClass K = some t ∧ Z.vm.assignable c t = false := by
  obtain ⟨c, t, h0, g0, n3⟩ := n
  obtain ⟨p, k, kp, h1, h2, h3, h4, h5, -, h7⟩ := Cond.superclass_spec h0 w
  obtain ⟨t', kt, g1, g2, g3, g4, -⟩ := Cond.instantiable_spec wk
  cases g0.symm.trans g1
  have ne := ids_ne h0 g0 hn
  have g5 : kt.isInterface = false := by cases hq : kt.isInterface <;> simp [hq] at g4 ⊢
  refine ⟨c, t, h0, g0, ?_⟩
  show Z.vm.assignableAux (255 + 1) c t = false
  simp [Vm.assignableAux, ne, h2, g2, h5, g3, g5, Vm.isSubclass, n3]
theorem own_03 (x : Int32) : (x &&& 3) = 0 ∨ (x &&& 3) = 1 ∨ (x &&& 3) = 2 ∨ (x &&& 3) = 3 := by
  have q := c_and x 3 (by decide)
  simp only [← Int32.toInt_inj, Int32.reduceToInt] at *; omega
section K
variable {p : Program} {l : Launch} {e : Env} {R : Room} {s : State} {m : MethodId} {args : Array Value} {below : List Frame} {meth : Method} {c : Code} {Z T T' : State} {h h' : Heap} {k n : Nat} {own nm : String} {bytes : ByteArray} {maxL : Nat} {ret : Option FieldType} {G : Outcome → State → Prop} {pc : Nat} {ls : Array Slot} {st : List Value} {Q : Option Value → Heap → Prop} {a0 : Array Value} {ss : List Addr}
theorem Bdy.nameOf (B : Bdy p Z s m meth c own bytes maxL ret nm) : meth.name = nm := B.2.2.2.2.2.2.2.1
theorem Go.by {tb : Tables} {F F' : JFrame} (hs : ∀ t, Steps tb e below (T'.setTop F') t → Steps tb e below (T.setTop F) t) (q : Go tb e below G T' F') : Go tb e below G T F := by
  obtain ⟨s2, o, a, b⟩ := q; exact ⟨s2, o, hs _ a, b⟩
theorem own_gc {tb : Tables} {v v' : Int32} (hv : v = v') (q : Go tb e below G T (mkF m pc ls (.int v :: st))) : Go tb e below G T (mkF m pc ls (.int v' :: st)) := hv ▸ q
theorem Go.cast {tb : Tables} {F F' : JFrame} (hs : F = F') (q : Go tb e below G T F') : Go tb e below G T F := hs ▸ q
theorem Con.of {y : MethodName} {ws : List Cond} {rm : Room} {as' : Array Value} {h0 : Heap} (hpl : plainFor y = true)
    (body : ∀ p e s m below meth c T, Bdy p Z s m meth c y.cls bytes maxL ret y.name → Wk p l e rm s m as' below meth c Z T h0 0 0 ss → Go p.tables e below (Out Z s Q rm.cells rm.slots) T (entryFrame m as' maxL)) : Con l Z y bytes maxL ret ws rm as' h0 Q ss := by
  intro hWd hO
  refine MetFree.of_bodySF hpl hisR ?_
  intro p e s m args below meth c s₁ Bd hml0 hP hK
  obtain ⟨rfl, hZ, hh, hC, hss⟩ := hP
  subst hh
  exact body p e s m below meth c s₁ ⟨Bd.exec, hZ, findClass_of_methodNamed Bd.named, Bd.bytes, hml0, Bd.returns, Bd.notSynchronized, (name_of_methodNamed Bd.named Bd.method).1, hWd⟩ ⟨[], s.vm, s.heap.size, Stand.of_body Bd, by rw [Bd.state]; rfl, Fr.nil _, hO, (State.WarmedH.refl s).since _, Nat.le_refl _, CHr.refl hC, hss⟩
theorem Bdy.at {vm0 : Vm} {k0 : Nat} (B : Bdy p Z s m meth c own bytes maxL ret nm) (S : s.Since vm0 k0) : Bdy p Z (s.setVm vm0) m meth c own bytes maxL ret nm :=
  ⟨B.1, State.Warmed39.trans B.2.1 S.1, (S.1.alike.findClass _ _).trans B.2.2.1, B.2.2.2⟩
theorem Wk.size (W : Wk p l e R s m args below meth c Z T h k n ss) : Z.heap.size ≤ h.size := by obtain ⟨_, _, _, _, _, _, O, _⟩ := W; exact O.2.1
theorem Wk.old (W : Wk p l e R s m args below meth c Z T h k n ss) : Old Z Z.heap.size h := by obtain ⟨_, _, _, _, _, _, O, _⟩ := W; exact O
theorem Sta.old {C nf d : String} {v : Value} (F : Sta Z Z.heap C nf d v) (W : Old Z Z.heap.size h) : Sta Z h C nf d v := F.ext W.2
theorem Wk.more {k' n' : Nat} (W : Wk p l e R s m args below meth c Z T h k n ss) (hk : k ≤ k') (hn : n ≤ n') : Wk p l e R s m args below meth c Z T h k' n' ss := by
  obtain ⟨locs, vm0, k0, X, r⟩ := W; exact ⟨locs, vm0, k0, X.more hk hn, r⟩
/-! ### the ends -/
theorem go_end (B : Bdy p Z s m meth c own bytes maxL ret nm) (W : Wk p l e R s m args below meth c Z T h k n ss) {F : JFrame} {v : Option Value} {k' n' : Nat} (hv : ret = none → v = none) (hQ : Q v h) (hk : k ≤ k') (hn : n ≤ n')
    (hst : ∀ (s : State) (locs : List Loc) (fs : List Frame), Stand p l e R s m args below meth c T locs k n → (∀ (f : JFrame) (acts : List Action), f.method = m → f.locked = none → f.entered = [] → (doReturn e (T.setTop f) acts v).1 = T.setFrames fs) → Steps p.tables e below (T.setTop F) (T.setFrames fs)) :
    Go p.tables e below (Out Z s Q k' n') T F := by
  obtain ⟨locs, vm0, k0, X, eT, N, O, S, hk0, H, hss⟩ := W
  have B' := B.at S
  obtain ⟨a0, hEW, -⟩ := B.2.2.2.2.2.2.2.2
  obtain ⟨fs, hr, hrun, hended, e1, e2, e3, e4⟩ := X.leaveW S (by rw [eT]; exact hk0) (v := v) (fun q => hv (B.2.2.2.2.2.1 ▸ q)) B.2.2.2.2.2.2.1
  have eT' : (T.setFrames fs).heap = h := eT
  have H2 := H.trans (CHv.at X B'.2.1 hEW H.1)
  exact ⟨_, _, hst _ locs fs X hr, hrun, hended, _, _, rfl, ⟨by rw [eT']; exact hQ, N, by rw [eT']; exact O⟩, by rw [eT']; exact H2, e1, e2, e3, e4.mono hk hn⟩
theorem r_i (B : Bdy p Z s m meth c own bytes maxL (some .int) nm) (W : Wk p l e R s m args below meth c Z T h k n ss) {z : Int32} {k' n' : Nat} (hd : decode bytes pc = .ok (.ireturn, 1)) (hk : k ≤ k') (hn : n ≤ n') (hQ : Q (some (.int z)) h) : Go p.tables e below (Out Z s Q k' n') T (mkF m pc ls (.int z :: st)) :=
  go_end B W (fun q => by cases q) hQ hk hn fun _ _ _ X hr => retOut X B.1 B.2.2.2.2.2.1 rfl (Or.inl ⟨rfl, Or.inl rfl, _, rfl⟩) (hb B.2.2.2.1 hd) hr
theorem r_b (B : Bdy p Z s m meth c own bytes maxL (some .boolean) nm) (W : Wk p l e R s m args below meth c Z T h k n ss) {b : Bool} {k' n' : Nat} (hd : decode bytes pc = .ok (.ireturn, 1)) (hk : k ≤ k') (hn : n ≤ n') (hQ : Q (some (.int (bi b))) h) : Go p.tables e below (Out Z s Q k' n') T (mkF m pc ls (.int (bi b) :: st)) :=
  go_end B W (fun q => by cases q) (v := some (.int (nar .boolean (bi b)))) (by rw [bi_nar]; exact hQ) hk hn fun _ _ _ X hr => retN X B.1 B.2.2.2.2.2.1 (Or.inl rfl) (hb B.2.2.2.1 hd) hr
theorem r_n (B : Bdy p Z s m meth c own bytes maxL ret nm) (W : Wk p l e R s m args below meth c Z T h k n ss) {t : FieldType} {z : Int32} {k' n' : Nat} (hret : ret = some t) (ht : t = .boolean ∨ t = .byte ∨ t = .char ∨ t = .short) (hd : decode bytes pc = .ok (.ireturn, 1)) (hk : k ≤ k') (hn : n ≤ n') (hQ : Q (some (.int (nar t z))) h) : Go p.tables e below (Out Z s Q k' n') T (mkF m pc ls (.int z :: st)) :=
  go_end B W (fun q => by rw [hret] at q; cases q) hQ hk hn fun _ _ _ X hr => retN X B.1 (B.2.2.2.2.2.1.trans hret) ht (hb B.2.2.2.1 hd) hr
theorem nar_ref {t : FieldType} {v : Value} (ht : t.isReference = true) : narrow t v = v := by cases t <;> first | rfl | (exfalso; revert ht; simp [FieldType.isReference]; done) | (cases v <;> rfl)
theorem r_a (B : Bdy p Z s m meth c own bytes maxL ret nm) (W : Wk p l e R s m args below meth c Z T h k n ss) {t : FieldType} {v : Value} {k' n' : Nat} (hret : ret = some t) (ht : t.isReference = true) (hv : v.isRef = true) (hd : decode bytes pc = .ok (.areturn, 1)) (hk : k ≤ k') (hn : n ≤ n') (hQ : Q (some v) h) : Go p.tables e below (Out Z s Q k' n') T (mkF m pc ls (v :: st)) :=
  go_end B W (fun q => by rw [hret] at q; cases q) hQ hk hn fun _ _ _ X hr => retOut X B.1 (B.2.2.2.2.2.1.trans hret) (nar_ref ht) (Or.inr (Or.inr (Or.inr (Or.inr ⟨rfl, ht, hv⟩)))) (hb B.2.2.2.1 hd) hr
theorem r_v (B : Bdy p Z s m meth c own bytes maxL none nm) (W : Wk p l e R s m args below meth c Z T h k n ss) {k' n' : Nat} (hd : decode bytes pc = .ok (.return_, 1)) (hk : k ≤ k') (hn : n ≤ n') (hQ : Q none h) : Go p.tables e below (Out Z s Q k' n') T (mkF m pc ls []) :=
  go_end B W (fun _ => rfl) hQ hk hn fun _ _ _ X hr => X.returnOut B.1 B.2.2.2.2.2.1 (hb B.2.2.2.1 hd) hr
theorem r_l (B : Bdy p Z s m meth c own bytes maxL (some .long) nm) (W : Wk p l e R s m args below meth c Z T h k n ss) {z : Int64} {k' n' : Nat} (hd : decode bytes pc = .ok (.lreturn, 1)) (hk : k ≤ k') (hn : n ≤ n') (hQ : Q (some (.long z)) h) : Go p.tables e below (Out Z s Q k' n') T (mkF m pc ls (.long z :: st)) :=
  go_end B W (fun q => by cases q) hQ hk hn fun _ _ _ X hr => retOut X B.1 B.2.2.2.2.2.1 rfl (Or.inr (Or.inl ⟨rfl, rfl, _, rfl⟩)) (hb B.2.2.2.1 hd) hr
/-! ### plain steps -/
theorem g_aload_n (B : Bdy p Z s m meth c own bytes maxL ret nm) (W : Wk p l e R s m args below meth c Z T h k n ss) {i : Fin 4} {v : Value} (hd : decode bytes pc = .ok (.aload_n i, 1)) (hl : ls[i.val]? = some (.val v)) (hv : v.isRef = true) (q : Go p.tables e below G T (mkF m (pc + 1) ls (v :: st))) : Go p.tables e below G T (mkF m pc ls st) := by
  obtain ⟨_, _, _, X, -⟩ := W
  exact Go.by (fun t q => XS.aloadN X.here B.1 rfl (hb B.2.2.2.1 hd) hl hv q) q
theorem g_aload (B : Bdy p Z s m meth c own bytes maxL ret nm) (W : Wk p l e R s m args below meth c Z T h k n ss) {i : Nat} {v : Value} (hd : decode bytes pc = .ok (.aload i, 2)) (hl : ls[i]? = some (.val v)) (hv : v.isRef = true) (q : Go p.tables e below G T (mkF m (pc + 2) ls (v :: st))) : Go p.tables e below G T (mkF m pc ls st) := by
  obtain ⟨_, _, _, X, -⟩ := W
  exact Go.by (fun t q => XS.aload X.here B.1 rfl (hb B.2.2.2.1 hd) hl hv q) q
theorem g_iload_n (B : Bdy p Z s m meth c own bytes maxL ret nm) (W : Wk p l e R s m args below meth c Z T h k n ss) {i : Fin 4} {v : Int32} (hd : decode bytes pc = .ok (.iload_n i, 1)) (hl : ls[i.val]? = some (.val (.int v))) (q : Go p.tables e below G T (mkF m (pc + 1) ls (.int v :: st))) : Go p.tables e below G T (mkF m pc ls st) := by
  obtain ⟨_, _, _, X, -⟩ := W
  exact Go.by (fun t q => XS.iloadN X.here B.1 rfl (hb B.2.2.2.1 hd) hl q) q
theorem g_iload (B : Bdy p Z s m meth c own bytes maxL ret nm) (W : Wk p l e R s m args below meth c Z T h k n ss) {i : Nat} {v : Int32} (hd : decode bytes pc = .ok (.iload i, 2)) (hl : ls[i]? = some (.val (.int v))) (q : Go p.tables e below G T (mkF m (pc + 2) ls (.int v :: st))) : Go p.tables e below G T (mkF m pc ls st) := by
  obtain ⟨_, _, _, X, -⟩ := W
  exact Go.by (fun t q => XS.iload X.here B.1 rfl (hb B.2.2.2.1 hd) hl q) q
theorem g_lload_n (B : Bdy p Z s m meth c own bytes maxL ret nm) (W : Wk p l e R s m args below meth c Z T h k n ss) {i : Fin 4} {v : Int64} (hd : decode bytes pc = .ok (.lload_n i, 1)) (hl : ls[i.val]? = some (.val (.long v))) (q : Go p.tables e below G T (mkF m (pc + 1) ls (.long v :: st))) : Go p.tables e below G T (mkF m pc ls st) := by
  obtain ⟨_, _, _, X, -⟩ := W
  exact Go.by (fun t q => XT.lloadN X.here B.1 rfl (hb B.2.2.2.1 hd) hl q) q
theorem g_lload (B : Bdy p Z s m meth c own bytes maxL ret nm) (W : Wk p l e R s m args below meth c Z T h k n ss) {i : Nat} {v : Int64} (hd : decode bytes pc = .ok (.lload i, 2)) (hl : ls[i]? = some (.val (.long v))) (q : Go p.tables e below G T (mkF m (pc + 2) ls (.long v :: st))) : Go p.tables e below G T (mkF m pc ls st) := by
  obtain ⟨_, _, _, X, -⟩ := W
  exact Go.by (fun t q => XT.lload X.here B.1 rfl (hb B.2.2.2.1 hd) hl q) q
theorem g_istore_n (B : Bdy p Z s m meth c own bytes maxL ret nm) (W : Wk p l e R s m args below meth c Z T h k n ss) {i : Fin 4} {v : Int32} {l' : Array Slot} (hd : decode bytes pc = .ok (.istore_n i, 1)) (hl : storeLocals ls i.val (.int v) = some l') (q : Go p.tables e below G T (mkF m (pc + 1) l' st)) : Go p.tables e below G T (mkF m pc ls (.int v :: st)) := by
  obtain ⟨_, _, _, X, -⟩ := W
  exact Go.by (fun t q => XS.istoreN X.here B.1 rfl (hb B.2.2.2.1 hd) rfl hl q) q
theorem g_istore (B : Bdy p Z s m meth c own bytes maxL ret nm) (W : Wk p l e R s m args below meth c Z T h k n ss) {i : Nat} {v : Int32} {l' : Array Slot} (hd : decode bytes pc = .ok (.istore i, 2)) (hl : storeLocals ls i (.int v) = some l') (q : Go p.tables e below G T (mkF m (pc + 2) l' st)) : Go p.tables e below G T (mkF m pc ls (.int v :: st)) := by
  obtain ⟨_, _, _, X, -⟩ := W
  exact Go.by (fun t q => XS.istore X.here B.1 rfl (hb B.2.2.2.1 hd) rfl hl q) q
theorem g_lstore_n (B : Bdy p Z s m meth c own bytes maxL ret nm) (W : Wk p l e R s m args below meth c Z T h k n ss) {i : Fin 4} {v : Int64} {l' : Array Slot} (hd : decode bytes pc = .ok (.lstore_n i, 1)) (hl : storeLocals ls i.val (.long v) = some l') (q : Go p.tables e below G T (mkF m (pc + 1) l' st)) : Go p.tables e below G T (mkF m pc ls (.long v :: st)) := by
  obtain ⟨_, _, _, X, -⟩ := W
  exact Go.by (fun t q => XT.lstoreN X.here B.1 rfl (hb B.2.2.2.1 hd) rfl hl q) q
theorem g_lstore (B : Bdy p Z s m meth c own bytes maxL ret nm) (W : Wk p l e R s m args below meth c Z T h k n ss) {i : Nat} {v : Int64} {l' : Array Slot} (hd : decode bytes pc = .ok (.lstore i, 2)) (hl : storeLocals ls i (.long v) = some l') (q : Go p.tables e below G T (mkF m (pc + 2) l' st)) : Go p.tables e below G T (mkF m pc ls (.long v :: st)) := by
  obtain ⟨_, _, _, X, -⟩ := W
  exact Go.by (fun t q => XT.lstore X.here B.1 rfl (hb B.2.2.2.1 hd) rfl hl q) q
theorem g_astore_n (B : Bdy p Z s m meth c own bytes maxL ret nm) (W : Wk p l e R s m args below meth c Z T h k n ss) {i : Fin 4} {v : Value} {l' : Array Slot} (hd : decode bytes pc = .ok (.astore_n i, 1)) (hv : v.isRef = true) (hl : storeLocals ls i.val v = some l') (q : Go p.tables e below G T (mkF m (pc + 1) l' st)) : Go p.tables e below G T (mkF m pc ls (v :: st)) := by
  obtain ⟨_, _, _, X, -⟩ := W
  exact Go.by (fun t q => XS.astoreN X.here B.1 rfl (hb B.2.2.2.1 hd) rfl hv hl q) q
theorem g_astore (B : Bdy p Z s m meth c own bytes maxL ret nm) (W : Wk p l e R s m args below meth c Z T h k n ss) {i : Nat} {v : Value} {l' : Array Slot} (hd : decode bytes pc = .ok (.astore i, 2)) (hv : v.isRef = true) (hl : storeLocals ls i v = some l') (q : Go p.tables e below G T (mkF m (pc + 2) l' st)) : Go p.tables e below G T (mkF m pc ls (v :: st)) := by
  obtain ⟨_, _, _, X, -⟩ := W
  exact Go.by (fun t q => XS.astore X.here B.1 rfl (hb B.2.2.2.1 hd) rfl hv hl q) q
theorem g_iconst (B : Bdy p Z s m meth c own bytes maxL ret nm) (W : Wk p l e R s m args below meth c Z T h k n ss) {i : Int} {v : Int32} (hd : decode bytes pc = .ok (.iconst i, 1)) (hv : Int32.ofInt i = v) (q : Go p.tables e below G T (mkF m (pc + 1) ls (.int v :: st))) : Go p.tables e below G T (mkF m pc ls st) := by
  obtain ⟨_, _, _, X, -⟩ := W
  exact Go.by (fun t q => XT.iconstV X.here B.1 rfl _ (hb B.2.2.2.1 hd) hv q) q
theorem g_bipush (B : Bdy p Z s m meth c own bytes maxL ret nm) (W : Wk p l e R s m args below meth c Z T h k n ss) {i : Int} {v : Int32} (hd : decode bytes pc = .ok (.bipush i, 2)) (hv : (Int8.ofInt i).toInt32 = v) (q : Go p.tables e below G T (mkF m (pc + 2) ls (.int v :: st))) : Go p.tables e below G T (mkF m pc ls st) := by
  obtain ⟨_, _, _, X, -⟩ := W
  exact Go.by (fun t q => XT.bipushV X.here B.1 rfl _ (hb B.2.2.2.1 hd) hv q) q
theorem g_sipush (B : Bdy p Z s m meth c own bytes maxL ret nm) (W : Wk p l e R s m args below meth c Z T h k n ss) {i : Int} {v : Int32} (hd : decode bytes pc = .ok (.sipush i, 3)) (hv : (Int16.ofInt i).toInt32 = v) (q : Go p.tables e below G T (mkF m (pc + 3) ls (.int v :: st))) : Go p.tables e below G T (mkF m pc ls st) := by
  obtain ⟨_, _, _, X, -⟩ := W
  exact Go.by (fun t q => XT.sipushV X.here B.1 rfl _ (hb B.2.2.2.1 hd) hv q) q
theorem g_lconst (B : Bdy p Z s m meth c own bytes maxL ret nm) (W : Wk p l e R s m args below meth c Z T h k n ss) {i : Fin 2} {v : Int64} (hd : decode bytes pc = .ok (.lconst i, 1)) (hv : Int64.ofNat i = v) (q : Go p.tables e below G T (mkF m (pc + 1) ls (.long v :: st))) : Go p.tables e below G T (mkF m pc ls st) := by
  obtain ⟨_, _, _, X, -⟩ := W
  exact Go.by (fun t q => XT.lconstV X.here B.1 rfl _ (hb B.2.2.2.1 hd) hv q) q
theorem g_aconst_null (B : Bdy p Z s m meth c own bytes maxL ret nm) (W : Wk p l e R s m args below meth c Z T h k n ss)  (hd : decode bytes pc = .ok (.aconst_null, 1))  (q : Go p.tables e below G T (mkF m (pc + 1) ls (.null :: st))) : Go p.tables e below G T (mkF m pc ls st) := by
  obtain ⟨_, _, _, X, -⟩ := W
  exact Go.by (fun t q => XS.aconstNull X.here B.1 rfl (hb B.2.2.2.1 hd) q) q
theorem g_iadd (B : Bdy p Z s m meth c own bytes maxL ret nm) (W : Wk p l e R s m args below meth c Z T h k n ss) {x y : Int32} (hd : decode bytes pc = .ok (.iadd, 1))  (q : Go p.tables e below G T (mkF m (pc + 1) ls (.int (x + y) :: st))) : Go p.tables e below G T (mkF m pc ls (.int y :: .int x :: st)) := by
  obtain ⟨_, _, _, X, -⟩ := W
  exact Go.by (fun t q => XS.iadd X.here B.1 rfl (hb B.2.2.2.1 hd) rfl q) q
theorem g_isub (B : Bdy p Z s m meth c own bytes maxL ret nm) (W : Wk p l e R s m args below meth c Z T h k n ss) {x y : Int32} (hd : decode bytes pc = .ok (.isub, 1))  (q : Go p.tables e below G T (mkF m (pc + 1) ls (.int (x - y) :: st))) : Go p.tables e below G T (mkF m pc ls (.int y :: .int x :: st)) := by
  obtain ⟨_, _, _, X, -⟩ := W
  exact Go.by (fun t q => XS.isub X.here B.1 rfl (hb B.2.2.2.1 hd) rfl q) q
theorem g_iand (B : Bdy p Z s m meth c own bytes maxL ret nm) (W : Wk p l e R s m args below meth c Z T h k n ss) {x y : Int32} (hd : decode bytes pc = .ok (.iand, 1))  (q : Go p.tables e below G T (mkF m (pc + 1) ls (.int (x &&& y) :: st))) : Go p.tables e below G T (mkF m pc ls (.int y :: .int x :: st)) := by
  obtain ⟨_, _, _, X, -⟩ := W
  exact Go.by (fun t q => XS.iand X.here B.1 rfl (hb B.2.2.2.1 hd) rfl q) q
theorem g_imul (B : Bdy p Z s m meth c own bytes maxL ret nm) (W : Wk p l e R s m args below meth c Z T h k n ss) {x y : Int32} (hd : decode bytes pc = .ok (.imul, 1))  (q : Go p.tables e below G T (mkF m (pc + 1) ls (.int (x * y) :: st))) : Go p.tables e below G T (mkF m pc ls (.int y :: .int x :: st)) := by
  obtain ⟨_, _, _, X, -⟩ := W
  exact Go.by (fun t q => XS.imul X.here B.1 rfl (hb B.2.2.2.1 hd) rfl q) q
theorem g_ior (B : Bdy p Z s m meth c own bytes maxL ret nm) (W : Wk p l e R s m args below meth c Z T h k n ss) {x y : Int32} (hd : decode bytes pc = .ok (.ior, 1))  (q : Go p.tables e below G T (mkF m (pc + 1) ls (.int (x ||| y) :: st))) : Go p.tables e below G T (mkF m pc ls (.int y :: .int x :: st)) := by
  obtain ⟨_, _, _, X, -⟩ := W
  exact Go.by (fun t q => XT.ior X.here B.1 rfl (hb B.2.2.2.1 hd) rfl q) q
theorem g_ixor (B : Bdy p Z s m meth c own bytes maxL ret nm) (W : Wk p l e R s m args below meth c Z T h k n ss) {x y : Int32} (hd : decode bytes pc = .ok (.ixor, 1))  (q : Go p.tables e below G T (mkF m (pc + 1) ls (.int (x ^^^ y) :: st))) : Go p.tables e below G T (mkF m pc ls (.int y :: .int x :: st)) := by
  obtain ⟨_, _, _, X, -⟩ := W
  exact Go.by (fun t q => XT.ixor X.here B.1 rfl (hb B.2.2.2.1 hd) rfl q) q
theorem g_iushr (B : Bdy p Z s m meth c own bytes maxL ret nm) (W : Wk p l e R s m args below meth c Z T h k n ss) {x y : Int32} (hd : decode bytes pc = .ok (.iushr, 1))  (q : Go p.tables e below G T (mkF m (pc + 1) ls (.int (XT.ushr x y) :: st))) : Go p.tables e below G T (mkF m pc ls (.int y :: .int x :: st)) := by
  obtain ⟨_, _, _, X, -⟩ := W
  exact Go.by (fun t q => XT.iushr X.here B.1 rfl (hb B.2.2.2.1 hd) rfl q) q
theorem g_idiv (B : Bdy p Z s m meth c own bytes maxL ret nm) (W : Wk p l e R s m args below meth c Z T h k n ss) {x y : Int32} (hd : decode bytes pc = .ok (.idiv, 1)) (hy : y ≠ 0) (q : Go p.tables e below G T (mkF m (pc + 1) ls (.int (x / y) :: st))) : Go p.tables e below G T (mkF m pc ls (.int y :: .int x :: st)) := by
  obtain ⟨_, _, _, X, -⟩ := W
  exact Go.by (fun t q => XS.idiv X.here B.1 rfl (hb B.2.2.2.1 hd) rfl hy q) q
theorem g_irem (B : Bdy p Z s m meth c own bytes maxL ret nm) (W : Wk p l e R s m args below meth c Z T h k n ss) {x y : Int32} (hd : decode bytes pc = .ok (.irem, 1)) (hy : y ≠ 0) (q : Go p.tables e below G T (mkF m (pc + 1) ls (.int (x % y) :: st))) : Go p.tables e below G T (mkF m pc ls (.int y :: .int x :: st))   := by
  obtain ⟨_, _, _, X, -⟩ := W
  exact Go.by (fun t q => iremM X B.1 rfl (hb B.2.2.2.1 hd) rfl hy q) q
theorem g_ineg (B : Bdy p Z s m meth c own bytes maxL ret nm) (W : Wk p l e R s m args below meth c Z T h k n ss) {x : Int32} (hd : decode bytes pc = .ok (.ineg, 1))  (q : Go p.tables e below G T (mkF m (pc + 1) ls (.int (-x) :: st))) : Go p.tables e below G T (mkF m pc ls (.int x :: st)) := by
  obtain ⟨_, _, _, X, -⟩ := W
  exact Go.by (fun t q => XS.ineg X.here B.1 rfl (hb B.2.2.2.1 hd) rfl q) q
theorem g_i2c (B : Bdy p Z s m meth c own bytes maxL ret nm) (W : Wk p l e R s m args below meth c Z T h k n ss) {x : Int32} (hd : decode bytes pc = .ok (.i2c, 1))  (q : Go p.tables e below G T (mkF m (pc + 1) ls (.int x.toUInt32.toUInt16.toUInt32.toInt32 :: st))) : Go p.tables e below G T (mkF m pc ls (.int x :: st)) := by
  obtain ⟨_, _, _, X, -⟩ := W
  exact Go.by (fun t q => XT.i2c X.here B.1 rfl (hb B.2.2.2.1 hd) rfl q) q
theorem g_i2b (B : Bdy p Z s m meth c own bytes maxL ret nm) (W : Wk p l e R s m args below meth c Z T h k n ss) {x : Int32} (hd : decode bytes pc = .ok (.i2b, 1))  (q : Go p.tables e below G T (mkF m (pc + 1) ls (.int x.toInt8.toInt32 :: st))) : Go p.tables e below G T (mkF m pc ls (.int x :: st)) := by
  obtain ⟨_, _, _, X, -⟩ := W
  exact Go.by (fun t q => XT.i2b X.here B.1 rfl (hb B.2.2.2.1 hd) rfl q) q
theorem g_i2l (B : Bdy p Z s m meth c own bytes maxL ret nm) (W : Wk p l e R s m args below meth c Z T h k n ss) {x : Int32} (hd : decode bytes pc = .ok (.i2l, 1))  (q : Go p.tables e below G T (mkF m (pc + 1) ls (.long x.toInt64 :: st))) : Go p.tables e below G T (mkF m pc ls (.int x :: st)) := by
  obtain ⟨_, _, _, X, -⟩ := W
  exact Go.by (fun t q => XT.i2l X.here B.1 rfl (hb B.2.2.2.1 hd) rfl q) q
theorem g_l2i (B : Bdy p Z s m meth c own bytes maxL ret nm) (W : Wk p l e R s m args below meth c Z T h k n ss) {x : Int64} (hd : decode bytes pc = .ok (.l2i, 1))  (q : Go p.tables e below G T (mkF m (pc + 1) ls (.int x.toInt32 :: st))) : Go p.tables e below G T (mkF m pc ls (.long x :: st)) := by
  obtain ⟨_, _, _, X, -⟩ := W
  exact Go.by (fun t q => XT.l2i X.here B.1 rfl (hb B.2.2.2.1 hd) rfl q) q
theorem g_land (B : Bdy p Z s m meth c own bytes maxL ret nm) (W : Wk p l e R s m args below meth c Z T h k n ss) {x y : Int64} (hd : decode bytes pc = .ok (.land, 1))  (q : Go p.tables e below G T (mkF m (pc + 1) ls (.long (x &&& y) :: st))) : Go p.tables e below G T (mkF m pc ls (.long y :: .long x :: st)) := by
  obtain ⟨_, _, _, X, -⟩ := W
  exact Go.by (fun t q => XT.land X.here B.1 rfl (hb B.2.2.2.1 hd) rfl q) q
theorem g_ladd (B : Bdy p Z s m meth c own bytes maxL ret nm) (W : Wk p l e R s m args below meth c Z T h k n ss) {x y : Int64} (hd : decode bytes pc = .ok (.ladd, 1))  (q : Go p.tables e below G T (mkF m (pc + 1) ls (.long (x + y) :: st))) : Go p.tables e below G T (mkF m pc ls (.long y :: .long x :: st)) := by
  obtain ⟨_, _, _, X, -⟩ := W
  exact Go.by (fun t q => XT.ladd X.here B.1 rfl (hb B.2.2.2.1 hd) rfl q) q
theorem g_lcmp (B : Bdy p Z s m meth c own bytes maxL ret nm) (W : Wk p l e R s m args below meth c Z T h k n ss) {x y : Int64} (hd : decode bytes pc = .ok (.lcmp, 1))  (q : Go p.tables e below G T (mkF m (pc + 1) ls (.int (XT.cmpL x y) :: st))) : Go p.tables e below G T (mkF m pc ls (.long y :: .long x :: st)) := by
  obtain ⟨_, _, _, X, -⟩ := W
  exact Go.by (fun t q => XT.lcmp X.here B.1 rfl (hb B.2.2.2.1 hd) rfl q) q
theorem g_lushr (B : Bdy p Z s m meth c own bytes maxL ret nm) (W : Wk p l e R s m args below meth c Z T h k n ss) {x : Int64} {y : Int32} (hd : decode bytes pc = .ok (.lushr, 1))  (q : Go p.tables e below G T (mkF m (pc + 1) ls (.long (XT.ushrL x y) :: st))) : Go p.tables e below G T (mkF m pc ls (.int y :: .long x :: st)) := by
  obtain ⟨_, _, _, X, -⟩ := W
  exact Go.by (fun t q => XT.lushr X.here B.1 rfl (hb B.2.2.2.1 hd) rfl q) q
theorem g_iinc (B : Bdy p Z s m meth c own bytes maxL ret nm) (W : Wk p l e R s m args below meth c Z T h k n ss) {i : Nat} {cst : Int} {x v : Int32} {l' : Array Slot} (hd : decode bytes pc = .ok (.iinc i cst, 3)) (hv : Int32.ofInt cst = v) (hl : ls[i]? = some (.val (.int x))) (hl' : storeLocals ls i (.int (x + v)) = some l') (q : Go p.tables e below G T (mkF m (pc + 3) l' st)) : Go p.tables e below G T (mkF m pc ls st) := by
  obtain ⟨_, _, _, X, -⟩ := W
  exact Go.by (fun t q => XT.iincV X.here B.1 rfl _ (hb B.2.2.2.1 hd) hv hl hl' q) q
theorem g_dup (B : Bdy p Z s m meth c own bytes maxL ret nm) (W : Wk p l e R s m args below meth c Z T h k n ss) {v : Value} (hd : decode bytes pc = .ok (.dup, 1)) (hv : v.category = 1) (q : Go p.tables e below G T (mkF m (pc + 1) ls (v :: v :: st))) : Go p.tables e below G T (mkF m pc ls (v :: st)) := by
  obtain ⟨_, _, _, X, -⟩ := W
  exact Go.by (fun t q => XS.dup X.here B.1 rfl (hb B.2.2.2.1 hd) rfl hv q) q
theorem g_dup_x1 (B : Bdy p Z s m meth c own bytes maxL ret nm) (W : Wk p l e R s m args below meth c Z T h k n ss) {v w : Value} (hd : decode bytes pc = .ok (.dup_x1, 1)) (hv : v.category = 1) (hw' : w.category = 1) (q : Go p.tables e below G T (mkF m (pc + 1) ls (v :: w :: v :: st))) : Go p.tables e below G T (mkF m pc ls (v :: w :: st)) := by
  obtain ⟨_, _, _, X, -⟩ := W
  exact Go.by (fun t q => XT.dupX1 X.here B.1 rfl (hb B.2.2.2.1 hd) rfl hv hw' q) q
theorem g_pop (B : Bdy p Z s m meth c own bytes maxL ret nm) (W : Wk p l e R s m args below meth c Z T h k n ss) {v : Value} (hd : decode bytes pc = .ok (.pop, 1)) (hv : v.category = 1) (q : Go p.tables e below G T (mkF m (pc + 1) ls st)) : Go p.tables e below G T (mkF m pc ls (v :: st)) := by
  obtain ⟨_, _, _, X, -⟩ := W
  exact Go.by (fun t q => XT.pop X.here B.1 rfl (hb B.2.2.2.1 hd) rfl hv q) q
theorem g_goto (B : Bdy p Z s m meth c own bytes maxL ret nm) (W : Wk p l e R s m args below meth c Z T h k n ss)  {o : Int} {pc' : Nat} (hd : decode bytes pc = .ok (.goto o, 3))  (hp : (pc : Int) + o = (pc' : Int)) (q : Go p.tables e below G T (mkF m pc' ls st)) : Go p.tables e below G T (mkF m pc ls st)   := by
  obtain ⟨_, _, _, X, -⟩ := W
  exact Go.by (fun t q => XS.goto X.here B.1 rfl rfl (hb B.2.2.2.1 hd)  (by rw [hp]; exact Int.natCast_nonneg _) (by rw [hp]; exact Int.toNat_natCast _) q) q
theorem g_if_y (B : Bdy p Z s m meth c own bytes maxL ret nm) (W : Wk p l e R s m args below meth c Z T h k n ss) {cd : ClassFile.Cond} {x : Int32} {o : Int} {pc' : Nat} (hd : decode bytes pc = .ok (.ifCond cd o, 3)) (hc : ifCond.holds cd x = true) (hp : (pc : Int) + o = (pc' : Int)) (q : Go p.tables e below G T (mkF m pc' ls st)) : Go p.tables e below G T (mkF m pc ls (.int x :: st))   := by
  obtain ⟨_, _, _, X, -⟩ := W
  exact Go.by (fun t q => XS.ifYes X.here B.1 rfl rfl (hb B.2.2.2.1 hd) rfl hc (by rw [hp]; exact Int.natCast_nonneg _) (by rw [hp]; exact Int.toNat_natCast _) q) q
theorem g_if_n (B : Bdy p Z s m meth c own bytes maxL ret nm) (W : Wk p l e R s m args below meth c Z T h k n ss) {cd : ClassFile.Cond} {x : Int32} {o : Int} (hd : decode bytes pc = .ok (.ifCond cd o, 3)) (hc : ifCond.holds cd x = false) (q : Go p.tables e below G T (mkF m (pc + 3) ls st)) : Go p.tables e below G T (mkF m pc ls (.int x :: st))   := by
  obtain ⟨_, _, _, X, -⟩ := W
  exact Go.by (fun t q => XS.ifNo X.here B.1 rfl (hb B.2.2.2.1 hd) rfl hc q) q
theorem g_icmp_y (B : Bdy p Z s m meth c own bytes maxL ret nm) (W : Wk p l e R s m args below meth c Z T h k n ss) {cd : ClassFile.Cond} {x y : Int32} {o : Int} {pc' : Nat} (hd : decode bytes pc = .ok (.if_icmp cd o, 3)) (hc : if_icmp.holds cd x y = true) (hp : (pc : Int) + o = (pc' : Int)) (q : Go p.tables e below G T (mkF m pc' ls st)) : Go p.tables e below G T (mkF m pc ls (.int y :: .int x :: st))   := by
  obtain ⟨_, _, _, X, -⟩ := W
  exact Go.by (fun t q => XS.icmpYes X.here B.1 rfl rfl (hb B.2.2.2.1 hd) rfl hc (by rw [hp]; exact Int.natCast_nonneg _) (by rw [hp]; exact Int.toNat_natCast _) q) q
theorem g_icmp_n (B : Bdy p Z s m meth c own bytes maxL ret nm) (W : Wk p l e R s m args below meth c Z T h k n ss) {cd : ClassFile.Cond} {x y : Int32} {o : Int} (hd : decode bytes pc = .ok (.if_icmp cd o, 3)) (hc : if_icmp.holds cd x y = false) (q : Go p.tables e below G T (mkF m (pc + 3) ls st)) : Go p.tables e below G T (mkF m pc ls (.int y :: .int x :: st))   := by
  obtain ⟨_, _, _, X, -⟩ := W
  exact Go.by (fun t q => XS.icmpNo X.here B.1 rfl (hb B.2.2.2.1 hd) rfl hc q) q
theorem g_ifnull_y (B : Bdy p Z s m meth c own bytes maxL ret nm) (W : Wk p l e R s m args below meth c Z T h k n ss)  {o : Int} {pc' : Nat} (hd : decode bytes pc = .ok (.ifnull o, 3))  (hp : (pc : Int) + o = (pc' : Int)) (q : Go p.tables e below G T (mkF m pc' ls st)) : Go p.tables e below G T (mkF m pc ls (.null :: st))   := by
  obtain ⟨_, _, _, X, -⟩ := W
  exact Go.by (fun t q => XS.ifnullYes X.here B.1 rfl rfl (hb B.2.2.2.1 hd) rfl (by rw [hp]; exact Int.natCast_nonneg _) (by rw [hp]; exact Int.toNat_natCast _) q) q
theorem g_ifnull_n (B : Bdy p Z s m meth c own bytes maxL ret nm) (W : Wk p l e R s m args below meth c Z T h k n ss) {a : Addr} {o : Int} (hd : decode bytes pc = .ok (.ifnull o, 3))  (q : Go p.tables e below G T (mkF m (pc + 3) ls st)) : Go p.tables e below G T (mkF m pc ls (.ref a :: st))   := by
  obtain ⟨_, _, _, X, -⟩ := W
  exact Go.by (fun t q => XS.ifnullNo X.here B.1 rfl (hb B.2.2.2.1 hd) rfl q) q
theorem g_ifnonnull_y (B : Bdy p Z s m meth c own bytes maxL ret nm) (W : Wk p l e R s m args below meth c Z T h k n ss) {a : Addr} {o : Int} {pc' : Nat} (hd : decode bytes pc = .ok (.ifnonnull o, 3))  (hp : (pc : Int) + o = (pc' : Int)) (q : Go p.tables e below G T (mkF m pc' ls st)) : Go p.tables e below G T (mkF m pc ls (.ref a :: st))   := by
  obtain ⟨_, _, _, X, -⟩ := W
  exact Go.by (fun t q => XT.ifnonnullYes X.here B.1 rfl rfl (hb B.2.2.2.1 hd) rfl (by rw [hp]; exact Int.natCast_nonneg _) (by rw [hp]; exact Int.toNat_natCast _) q) q
theorem g_ifnonnull_n (B : Bdy p Z s m meth c own bytes maxL ret nm) (W : Wk p l e R s m args below meth c Z T h k n ss)  {o : Int} (hd : decode bytes pc = .ok (.ifnonnull o, 3))  (q : Go p.tables e below G T (mkF m (pc + 3) ls st)) : Go p.tables e below G T (mkF m pc ls (.null :: st))   := by
  obtain ⟨_, _, _, X, -⟩ := W
  exact Go.by (fun t q => XT.ifnonnullNo X.here B.1 rfl (hb B.2.2.2.1 hd) rfl q) q
theorem g_acmp_y (B : Bdy p Z s m meth c own bytes maxL ret nm) (W : Wk p l e R s m args below meth c Z T h k n ss) {cd : ClassFile.ACond} {x y : Value} {o : Int} {pc' : Nat} (hd : decode bytes pc = .ok (.if_acmp cd o, 3)) (hx' : x.isRef = true) (hy' : y.isRef = true) (hc : XT.acmp cd x y = true) (hp : (pc : Int) + o = (pc' : Int)) (q : Go p.tables e below G T (mkF m pc' ls st)) : Go p.tables e below G T (mkF m pc ls (y :: x :: st))   := by
  obtain ⟨_, _, _, X, -⟩ := W
  exact Go.by (fun t q => XT.acmpYes X.here B.1 rfl rfl (hb B.2.2.2.1 hd) rfl hx' hy' hc (by rw [hp]; exact Int.natCast_nonneg _) (by rw [hp]; exact Int.toNat_natCast _) q) q
theorem g_acmp_n (B : Bdy p Z s m meth c own bytes maxL ret nm) (W : Wk p l e R s m args below meth c Z T h k n ss) {cd : ClassFile.ACond} {x y : Value} {o : Int} (hd : decode bytes pc = .ok (.if_acmp cd o, 3)) (hx' : x.isRef = true) (hy' : y.isRef = true) (hc : XT.acmp cd x y = false) (q : Go p.tables e below G T (mkF m (pc + 3) ls st)) : Go p.tables e below G T (mkF m pc ls (y :: x :: st))   := by
  obtain ⟨_, _, _, X, -⟩ := W
  exact Go.by (fun t q => XT.acmpNo X.here B.1 rfl (hb B.2.2.2.1 hd) rfl hx' hy' hc q) q
theorem ss_mono {vm0 vm1 : Vm} (A : CHr Z EL vm0 h vm1 h') (hss : ∀ x ∈ ss, x < h.size ∧ Safe Z EL vm0 h x) : ∀ x ∈ ss, x < h'.size ∧ Safe Z EL vm1 h' x := fun x q => ⟨Nat.lt_of_lt_of_le (hss x q).1 A.2.1, A.safe (hss x q).1 (hss x q).2⟩
theorem own_ssn {vm0 : Vm} (E : Ext h h') (H : CHv Z EL vm0 h) (hlt : h.size < h'.size) (hss : ∀ x ∈ ss, x < h.size ∧ Safe Z EL vm0 h x) : ∀ x ∈ h.size :: ss, x < h'.size ∧ Safe Z EL vm0 h' x := fun x q => by
  rcases List.mem_cons.mp q with rfl | q
  · exact ⟨hlt, Safe.ext E H (Safe.new (Nat.le_refl _))⟩
  · exact ss_mono (CHr.ext E H) hss x q
theorem g_dia (P : Prop) [Decidable P] {tb : Tables} {F : JFrame} {pc' : Nat} (h1 : P → Go tb e below G T (mkF m pc' ls (.int 1 :: st)) → Go tb e below G T F) (h0 : ¬ P → Go tb e below G T (mkF m pc' ls (.int 0 :: st)) → Go tb e below G T F) (q : Go tb e below G T (mkF m pc' ls (.int (bi (decide P)) :: st))) : Go tb e below G T F := by
  by_cases hp : P
  · rw [decide_eq_true hp] at q; exact h1 hp q
  · rw [decide_eq_false hp] at q; exact h0 hp q
theorem g_diab (b : Bool) {tb : Tables} {F : JFrame} {pc' : Nat} (h1 : b = true → Go tb e below G T (mkF m pc' ls (.int 1 :: st)) → Go tb e below G T F) (h0 : b = false → Go tb e below G T (mkF m pc' ls (.int 0 :: st)) → Go tb e below G T F) (q : Go tb e below G T (mkF m pc' ls (.int (bi b) :: st))) : Go tb e below G T F := by
  cases b
  · exact h0 rfl q
  · exact h1 rfl q
theorem g_ldcI (B : Bdy p Z s m meth c own bytes maxL ret nm) (W : Wk p l e R s m args below meth c Z T h k n ss) {i : Nat} {v : Int32} (hd : decode bytes pc = .ok (.ldc i, 2)) (w : (Cond.constant own i v).before a0 Z = true) (q : Go p.tables e below G T (mkF m (pc + 2) ls (.int v :: st))) : Go p.tables e below G T (mkF m pc ls st) := by
  obtain ⟨_, _, _, X, _, _, _, S, -⟩ := W
  have B := B.at S
  exact Go.by (fun t q => X.ldcI B.1 B.2.2.1 (mv B.2.1 w) rfl (hb B.2.2.2.1 hd) q) q
theorem g_ldcL (B : Bdy p Z s m meth c own bytes maxL ret nm) (W : Wk p l e R s m args below meth c Z T h k n ss) {i : Nat} {v : Int64} (hd : decode bytes pc = .ok (.ldc2_w i, 3)) (w : (Cond.constantLong own i v).before a0 Z = true) (q : Go p.tables e below G T (mkF m (pc + 3) ls (.long v :: st))) : Go p.tables e below G T (mkF m pc ls st) := by
  obtain ⟨_, _, _, X, _, _, _, S, -⟩ := W
  have B := B.at S
  exact Go.by (fun t q => X.ldc2J B.1 B.2.2.1 (mv B.2.1 w) rfl (hb B.2.2.2.1 hd) q) q
/-! ### the heap's steps -/
theorem x_new (B : Bdy p Z s m meth c own bytes maxL ret nm) (W : Wk p l e R s m args below meth c Z T h k n ss) {C : String} {i sz : Nat} (hd : decode bytes pc = .ok (.new i, 3)) (w : (Cond.classLink own i C).before a0 Z = true) (wi : (Cond.instantiable C sz).before a0 Z = true) (wz : (Cond.initialized C).before a0 Z = true) (hc : k + 1 ≤ R.cells) (hl : n + sz ≤ R.slots) (ls : Array Slot) (st : List Value) :
    ∃ T' h' b, b = h.size ∧ Wk p l e R s m args below meth c Z T' h' (k + 1) (n + sz) (b :: ss) ∧ Keep h h' [] ∧ Exa Z h' b C ∧ (∀ {O nf d : String} {ty : FieldType}, Laid Z a0 C O nf d → parseFieldDescriptor d = some ty → Fld Z h' b O nf d (defaultValue ty)) ∧
      (∀ G, Go p.tables e below G T' (mkF m (pc + 3) ls (.ref b :: st)) → Go p.tables e below G T (mkF m pc ls st)) := by
  obtain ⟨locs, vm0, k0, X, eT, N, O, S, hk, H, hss⟩ := W
  have B := B.at S
  obtain ⟨T', h', X', e', E', A', D', -, st'⟩ := newO X B.1 B.2.1 B.2.2.1 w wi wz eT (g := mkF m pc ls st) rfl (hb B.2.2.2.1 hd) hc hl
  exact ⟨T', h', _, rfl, ⟨locs, vm0, k0, X', e', N, O.ext E', S, Nat.le_trans hk E'.1, H.trans (CHr.ext E' H.1), own_ssn E' H.1 (by first | exact A'.lt | exact (Arv.new A' hn).lt) hss⟩, (Keep.refl h []).ext E', A', D', fun G q => Go.by st' q⟩
theorem x_init (B : Bdy p Z s m meth c own bytes maxL ret nm) (W : Wk p l e R s m args below meth c Z T h k n ss) {i : Nat} (hd : decode bytes pc = .ok (.invokespecial i, 3)) (w1 : (Cond.methodLink own i Lib.objectInit).before a0 Z = true) (w2 : (Cond.instanceMethod Lib.objectInit).before a0 Z = true)
    (w3 : (Cond.code Lib.objectInit ⟨#[0xb1]⟩ 1 none).before a0 Z = true) (b : Addr) (ls : Array Slot) (st : List Value) (hsz : ls.size = maxL) (V : Nat) (hV : (st.map fun v => v.category).sum = V) (hf : 1 ≤ R.frames) (hl : V + 12 ≤ R.locals) :
    ∃ T', Wk p l e R s m args below meth c Z T' h k n ss ∧ (∀ G, Go p.tables e below G T' (mkF m (pc + 3) ls st) → Go p.tables e below G T (mkF m pc ls (.ref b :: st))) := by
  obtain ⟨locs, vm0, k0, X, eT, N, O, S, hk, H, hss⟩ := W
  have B := B.at S
  obtain ⟨T', X', e', st'⟩ := initO X B.1 B.2.1 B.2.2.1 w1 w2 w3 eT (g := mkF m pc ls (.ref b :: st)) rfl (hsz.trans B.2.2.2.2.1.symm) rfl (hb B.2.2.2.1 hd) hf (W := V) (by show 2 * 0 + _ ≤ _; omega) hl
  exact ⟨T', ⟨locs, vm0, k0, X', e', N, O, S, hk, H, hss⟩, fun G q => Go.by st' q⟩
theorem x_get (B : Bdy p Z s m meth c own bytes maxL ret nm) (W : Wk p l e R s m args below meth c Z T h k n ss) {R0 O nf d host : String} {i : Nat} {b : Addr} {v : Value} (hd : decode bytes pc = .ok (.getfield i, 3)) (w : (Cond.fieldLink own i R0 nf d).before a0 Z = true ∨ (Cond.fieldLinkNest own i R0 nf d host).before a0 Z = true) (via : Via Z R0 O nf d) (F : Fld Z h b O nf d v) (ls : Array Slot) (st : List Value) :
    ∃ T', Wk p l e R s m args below meth c Z T' h k n ss ∧ (∀ G, Go p.tables e below G T' (mkF m (pc + 3) ls (v :: st)) → Go p.tables e below G T (mkF m pc ls (.ref b :: st))) := by
  obtain ⟨locs, vm0, k0, X, eT, N, O', S, hk, H, hss⟩ := W
  have B := B.at S
  obtain ⟨T', X', e', st'⟩ := getF X B.1 B.2.1 B.2.2.1 w via eT F (g := mkF m pc ls (.ref b :: st)) rfl rfl (hb B.2.2.2.1 hd)
  exact ⟨T', ⟨locs, vm0, k0, X', e', N, O', S, hk, H, hss⟩, fun G q => Go.by st' q⟩
theorem x_gets (B : Bdy p Z s m meth c own bytes maxL ret nm) (W : Wk p l e R s m args below meth c Z T h k n ss) {R0 O nf d host : String} {i : Nat} {v : Value} (hd : decode bytes pc = .ok (.getstatic i, 3)) (w : (Cond.fieldLink own i R0 nf d).before a0 Z = true ∨ (Cond.fieldLinkNest own i R0 nf d host).before a0 Z = true) (via : Via Z R0 O nf d) (F : Sta Z Z.heap O nf d v) (ls : Array Slot) (st : List Value) :
    ∃ T', Wk p l e R s m args below meth c Z T' h k n ss ∧ (∀ G, Go p.tables e below G T' (mkF m (pc + 3) ls (v :: st)) → Go p.tables e below G T (mkF m pc ls st)) := by
  obtain ⟨locs, vm0, k0, X, eT, N, O', S, hk, H, hss⟩ := W
  have B := B.at S
  obtain ⟨T', X', e', st'⟩ := getS2 X B.1 B.2.1 B.2.2.1 w via eT (F.ext O'.2) (g := mkF m pc ls st) rfl (hb B.2.2.2.1 hd)
  exact ⟨T', ⟨locs, vm0, k0, X', e', N, O', S, hk, H, hss⟩, fun G q => Go.by st' q⟩
theorem x_put (B : Bdy p Z s m meth c own bytes maxL ret nm) (W : Wk p l e R s m args below meth c Z T h k n ss) {R0 O nf d C : String} {i kk : Nat} {ty : FieldType} {b : Addr} {v v' old : Value} (hd : decode bytes pc = .ok (.putfield i, 3)) (w : (Cond.fieldLink own i R0 nf d).before a0 Z = true) (via : Via Z R0 O nf d) (F : Fld Z h b O nf d old) (E : Exa Z h b C) (L : (Cond.lays C O nf d).before a0 Z = true ∨ ((Cond.laysFinal C O nf d).before a0 Z = true ∧ own = O ∧ nm = "<init>")) (wi : (Cond.instantiable C kk).before a0 Z = true)
    (hty : parseFieldDescriptor d = some ty) (hn : narrow ty v = v') (hf : fits ty v' = true) (hb' : Z.heap.size ≤ b) (hsf : (C ≠ "java/lang/String" ∧ C ≠ "[B") ∨ b ∈ ss) (ls : Array Slot) (st : List Value) :
    ∃ T' h', Wk p l e R s m args below meth c Z T' h' k n ss ∧ Keep h h' [b] ∧ Wr h h' b (RoadKit.slotOf Z O nf d) v' ∧ Fld Z h' b O nf d v' ∧ Exa Z h' b C ∧ (∀ G, Go p.tables e below G T' (mkF m (pc + 3) ls st) → Go p.tables e below G T (mkF m pc ls (v :: .ref b :: st))) := by
  obtain ⟨locs, vm0, k0, X, eT, N, O', S, hk, H, hss⟩ := W
  have B := B.at S
  obtain ⟨T', h', X', e', W', st'⟩ := putFN X B.1 B.2.1 B.2.2.1 w via eT F E (L.imp id fun q => ⟨q.1, q.2.1, B.nameOf.trans q.2.2⟩) wi hty hn hf (g := mkF m pc ls (v :: .ref b :: st)) rfl rfl (hb B.2.2.2.1 hd)
  exact ⟨T', h', ⟨_, vm0, k0, X', e', Fr.snoc X' N hb', O'.wr W' hb', S, by rw [W'.size]; exact hk, H.trans (CHr.wr W' (hsf.elim (fun q => Safe.exa B.2.1.alike E q.1 q.2) fun q => (hss _ q).2) H.1), ss_mono (CHr.wr W' (hsf.elim (fun q => Safe.exa B.2.1.alike E q.1 q.2) fun q => (hss _ q).2) H.1) hss⟩, Keep.of_wr W', W', F.same W', E.wr W', fun G q => Go.by st' q⟩
theorem x_instY (B : Bdy p Z s m meth c own bytes maxL ret nm) (W : Wk p l e R s m args below meth c Z T h k n ss) {K : String} {i : Nat} {b : Addr} (hd : decode bytes pc = .ok (.instanceof i, 3)) (w : (Cond.classLink own i K).before a0 Z = true) (F : Ins Z h b K true) (ls : Array Slot) (st : List Value) :
    ∃ T', Wk p l e R s m args below meth c Z T' h k n ss ∧ (∀ G, Go p.tables e below G T' (mkF m (pc + 3) ls (.int 1 :: st)) → Go p.tables e below G T (mkF m pc ls (.ref b :: st))) := by
  obtain ⟨locs, vm0, k0, X, eT, N, O, S, hk, H, hss⟩ := W
  have B := B.at S
  obtain ⟨T', X', e', st'⟩ := instY X B.1 B.2.1 B.2.2.1 w eT F (g := mkF m pc ls (.ref b :: st)) rfl rfl (hb B.2.2.2.1 hd)
  exact ⟨T', ⟨locs, vm0, k0, X', e', N, O, S, hk, H, hss⟩, fun G q => Go.by st' q⟩
theorem x_instN (B : Bdy p Z s m meth c own bytes maxL ret nm) (W : Wk p l e R s m args below meth c Z T h k n ss) {K C : String} {i : Nat} {b : Addr} (hd : decode bytes pc = .ok (.instanceof i, 3)) (w : (Cond.classLink own i K).before a0 Z = true) (E : Exa Z h b C) (F : ∃ c t, Z.vm.findClass C = some c ∧ Z.vm.findClass K = some t ∧ Z.vm.assignable c t = false) (ls : Array Slot) (st : List Value) :
    ∃ T', Wk p l e R s m args below meth c Z T' h k n ss ∧ (∀ G, Go p.tables e below G T' (mkF m (pc + 3) ls (.int 0 :: st)) → Go p.tables e below G T (mkF m pc ls (.ref b :: st))) := by
  obtain ⟨locs, vm0, k0, X, eT, N, O, S, hk, H, hss⟩ := W
  have B := B.at S
  obtain ⟨T', X', e', st'⟩ := instNo X B.1 B.2.1 B.2.2.1 w eT E F (g := mkF m pc ls (.ref b :: st)) rfl rfl (hb B.2.2.2.1 hd)
  exact ⟨T', ⟨locs, vm0, k0, X', e', N, O, S, hk, H, hss⟩, fun G q => Go.by st' q⟩
theorem x_castY (B : Bdy p Z s m meth c own bytes maxL ret nm) (W : Wk p l e R s m args below meth c Z T h k n ss) {K : String} {i : Nat} {b : Addr} (hd : decode bytes pc = .ok (.checkcast i, 3)) (w : (Cond.classLink own i K).before a0 Z = true) (F : Ins Z h b K true) (ls : Array Slot) (st : List Value) :
    ∃ T', Wk p l e R s m args below meth c Z T' h k n ss ∧ (∀ G, Go p.tables e below G T' (mkF m (pc + 3) ls (.ref b :: st)) → Go p.tables e below G T (mkF m pc ls (.ref b :: st))) := by
  obtain ⟨locs, vm0, k0, X, eT, N, O, S, hk, H, hss⟩ := W
  have B := B.at S
  obtain ⟨T', X', e', st'⟩ := castY X B.1 B.2.1 B.2.2.1 w eT F (g := mkF m pc ls (.ref b :: st)) rfl rfl (hb B.2.2.2.1 hd)
  exact ⟨T', ⟨locs, vm0, k0, X', e', N, O, S, hk, H, hss⟩, fun G q => Go.by st' q⟩
/-! ### arrays -/
theorem x_newA (B : Bdy p Z s m meth c own bytes maxL ret nm) (W : Wk p l e R s m args below meth c Z T h k n ss) {aty : ArrayType} {z : Int32} (cap : Nat) (hd : decode bytes pc = .ok (.newarray aty, 2)) (w : (Cond.arrayClass (newarray.typeOf aty)).before a0 Z = true) (hn : ¬ z < 0) (hcap : z.toNatClampNeg ≤ cap) (hbg : cap * 8 ≤ 536870912) (hc : k + 1 ≤ R.cells) (hl : n + cap ≤ R.slots) (ls : Array Slot) (st : List Value) :
    ∃ T' h' b cA, b = h.size ∧ Wk p l e R s m args below meth c Z T' h' (k + 1) (n + cap) (b :: ss) ∧ Keep h h' [] ∧ Arv Z h' b cA (newarray.typeOf aty) z (List.replicate cap (defaultValue (newarray.typeOf aty))) (defaultValue (newarray.typeOf aty)) ∧
      (∀ G, Go p.tables e below G T' (mkF m (pc + 2) ls (.ref b :: st)) → Go p.tables e below G T (mkF m pc ls (.int z :: st))) := by
  obtain ⟨locs, vm0, k0, X, eT, N, O, S, hk, H, hss⟩ := W
  have B := B.at S
  obtain ⟨T', h', cA, X', e', E', A', st'⟩ := newP X B.1 B.2.1 w eT (g := mkF m pc ls (.int z :: st)) rfl (hb B.2.2.2.1 hd) rfl hn hcap hbg hc hl
  exact ⟨T', h', _, cA, rfl, ⟨locs, vm0, k0, X', e', N, O.ext E', S, Nat.le_trans hk E'.1, H.trans (CHr.ext E' H.1), own_ssn E' H.1 (by first | exact A'.lt | exact (Arv.new A' hn).lt) hss⟩, (Keep.refl h []).ext E', (Arv.new A' hn).pad (vs' := [] ++ List.replicate cap _) (pad_rep [] _ cap), fun G q => Go.by st' q⟩
theorem arv_put {kc : ClassId} {ty : FieldType} {z j : Int32} {vs : List Value} {dv v : Value} {b : Addr} (F : Arv Z h b kc ty z vs dv) (hv : fits ty v = true) (hW : Wr h h' b j.toNatClampNeg v) (hi : j.toNatClampNeg < vs.length) : Arv Z h' b kc ty z (vs.set j.toNatClampNeg v) dv := by
  obtain ⟨cl, A, r1, r2, r3, H, Gf⟩ := F
  exact Arv.set A r1 r2 r3 H Gf hv hW _ rfl hi
theorem x_castore (B : Bdy p Z s m meth c own bytes maxL ret nm) (W : Wk p l e R s m args below meth c Z T h k n ss) {kc : ClassId} {z j x : Int32} {vs : List Value} {dv : Value} {b : Addr} (hd : decode bytes pc = .ok (.castore, 1)) (F : Arv Z h b kc .char z vs dv) (hj : ¬ j < 0 ∧ j < z) (hi : j.toNatClampNeg < vs.length) (hb' : Z.heap.size ≤ b) (ls : Array Slot) (st : List Value) :
    ∃ T' h', Wk p l e R s m args below meth c Z T' h' k n ss ∧ Keep h h' [b] ∧ Arv Z h' b kc .char z (vs.set j.toNatClampNeg (.int (nar .char x))) dv ∧ (∀ G, Go p.tables e below G T' (mkF m (pc + 1) ls st) → Go p.tables e below G T (mkF m pc ls (.int x :: .int j :: .ref b :: st))) := by
  obtain ⟨locs, vm0, k0, X, eT, N, O, S, hk, H, hss⟩ := W
  have B := B.at S
  have F' := F
  obtain ⟨cl, A, r1, r2, r3, Hs, Gf⟩ := F
  obtain ⟨T', h', X', e', W', st'⟩ := stC X B.1 B.2.1 eT A (inb_of r2 hj) (g := mkF m pc ls (.int x :: .int j :: .ref b :: st)) rfl rfl (hb B.2.2.2.1 hd)
  exact ⟨T', h', ⟨_, vm0, k0, X', e', Fr.snoc X' N hb', O.wr W' hb', S, by rw [W'.size]; exact hk, H.trans (CHr.wr W' (Safe.arv B.2.1.alike F' (by decide)) H.1), ss_mono (CHr.wr W' (Safe.arv B.2.1.alike F' (by decide)) H.1) hss⟩, Keep.of_wr W', arv_put F' (fits_nar_char _) W' hi, fun G q => Go.by st' q⟩
theorem arv_read {kc : ClassId} {ty : FieldType} {z : Int32} {vs : List Value} {dv : Value} {b : Addr} (F : Arv Z h b kc ty z vs dv) {j : Int32} (hj : ¬ j < 0 ∧ j < z) {v : Value} (hv : vs.getD j.toNatClampNeg dv = v) : ∃ cl : Cell, Arr Z h b cl ty ∧ ¬ (j < 0 ∨ cl.slots.size ≤ j.toNatClampNeg) ∧ cl.slots[j.toNatClampNeg]? = some v := by
  obtain ⟨cl, A, r1, r2, r3, H, -⟩ := F
  exact ⟨cl, A, inb_of r2 hj, H.at (inb_of r2 hj) hv⟩
theorem g_caload (B : Bdy p Z s m meth c own bytes maxL ret nm) (W : Wk p l e R s m args below meth c Z T h k n ss) {kc : ClassId} {z j : Int32} {vs : List Value} {dv v : Value} {b : Addr} (hd : decode bytes pc = .ok (.caload, 1)) (F : Arv Z h b kc .char z vs dv) (hj : ¬ j < 0 ∧ j < z) (hv : vs.getD j.toNatClampNeg dv = v)
    (q : Go p.tables e below G T (mkF m (pc + 1) ls (v :: st))) : Go p.tables e below G T (mkF m pc ls (.int j :: .ref b :: st)) := by
  obtain ⟨locs, vm0, k0, X, eT, N, O, S, hk, H, hss⟩ := W
  have B := B.at S
  obtain ⟨cl, A, hin, hat⟩ := arv_read F hj hv
  exact Go.by (X.caload B.1 (by rw [eT]; exact A.1) (State.isArrayOf_alike B.2.1.alike A.2.1) A.2.2 hin hat (g := mkF m pc ls (.int j :: .ref b :: st)) rfl rfl (hb B.2.2.2.1 hd)) q
theorem g_caloadK (B : Bdy p Z s m meth c own bytes maxL ret nm) (W : Wk p l e R s m args below meth c Z T h k n ss) {j : Int32} {v : Value} {cl : Cell} {b : Addr} (hd : decode bytes pc = .ok (.caload, 1)) (A : Arr Z h b cl .char) (hin : ¬ (j < 0 ∨ cl.slots.size ≤ j.toNatClampNeg)) (hat : cl.slots[j.toNatClampNeg]? = some v)
    (q : Go p.tables e below G T (mkF m (pc + 1) ls (v :: st))) : Go p.tables e below G T (mkF m pc ls (.int j :: .ref b :: st)) := by
  obtain ⟨locs, vm0, k0, X, eT, N, O, S, hk, H, hss⟩ := W
  have B := B.at S
  exact Go.by (X.caload B.1 (by rw [eT]; exact A.1) (State.isArrayOf_alike B.2.1.alike A.2.1) A.2.2 hin hat (g := mkF m pc ls (.int j :: .ref b :: st)) rfl rfl (hb B.2.2.2.1 hd)) q
theorem g_alenK (B : Bdy p Z s m meth c own bytes maxL ret nm) (W : Wk p l e R s m args below meth c Z T h k n ss) {ty : FieldType} {z : Int32} {cl : Cell} {b : Addr} (hd : decode bytes pc = .ok (.arraylength, 1)) (A : Arr Z h b cl ty) (hz : cl.slots.size.toInt32 = z)
    (q : Go p.tables e below G T (mkF m (pc + 1) ls (.int z :: st))) : Go p.tables e below G T (mkF m pc ls (.ref b :: st)) := by
  obtain ⟨locs, vm0, k0, X, eT, N, O, S, hk, H, hss⟩ := W
  have B := B.at S
  refine Go.by (X.arraylength B.1 (by rw [eT]; exact A.1) (State.isArrayOf_alike B.2.1.alike A.2.1) (g := mkF m pc ls (.ref b :: st)) rfl rfl (hb B.2.2.2.1 hd)) ?_
  rw [hz]; exact q
theorem g_aalen (B : Bdy p Z s m meth c own bytes maxL ret nm) (W : Wk p l e R s m args below meth c Z T h k n ss) {kc : ClassId} {ty : FieldType} {z : Int32} {vs : List Value} {dv : Value} {b : Addr} (hd : decode bytes pc = .ok (.arraylength, 1)) (F : Arv Z h b kc ty z vs dv)
    (q : Go p.tables e below G T (mkF m (pc + 1) ls (.int z :: st))) : Go p.tables e below G T (mkF m pc ls (.ref b :: st)) := by
  obtain ⟨locs, vm0, k0, X, eT, N, O, S, hk, H, hss⟩ := W
  have B := B.at S
  obtain ⟨cl, A, r1, r2, r3, H, -⟩ := F
  refine Go.by (X.arraylength B.1 (by rw [eT]; exact A.1) (State.isArrayOf_alike B.2.1.alike A.2.1) (g := mkF m pc ls (.ref b :: st)) rfl rfl (hb B.2.2.2.1 hd)) ?_
  rw [len_of r2 r3]; exact q
theorem g_aaload (B : Bdy p Z s m meth c own bytes maxL ret nm) (W : Wk p l e R s m args below meth c Z T h k n ss) {ty : FieldType} {j : Int32} {v : Value} {cl : Cell} {b : Addr} (hd : decode bytes pc = .ok (.aaload, 1)) (A : Arr Z h b cl ty) (ht : ty.isReference = true) (hin : ¬ (j < 0 ∨ cl.slots.size ≤ j.toNatClampNeg)) (hat : cl.slots[j.toNatClampNeg]? = some v)
    (q : Go p.tables e below G T (mkF m (pc + 1) ls (v :: st))) : Go p.tables e below G T (mkF m pc ls (.int j :: .ref b :: st)) := by
  obtain ⟨locs, vm0, k0, X, eT, N, O, S, hk, H, hss⟩ := W
  have B := B.at S
  exact Go.by (X.aaload B.1 (by rw [eT]; exact A.1) (State.isArrayOf_alike B.2.1.alike A.2.1) ht A.2.2 hin hat (g := mkF m pc ls (.int j :: .ref b :: st)) rfl rfl (hb B.2.2.2.1 hd)) q
theorem g_instNull (B : Bdy p Z s m meth c own bytes maxL ret nm) (W : Wk p l e R s m args below meth c Z T h k n ss) {i : Nat} (hd : decode bytes pc = .ok (.instanceof i, 3)) (q : Go p.tables e below G T (mkF m (pc + 3) ls (.int 0 :: st))) : Go p.tables e below G T (mkF m pc ls (.null :: st)) := by
  obtain ⟨_, _, _, X, _, _, _, S, -⟩ := W
  have B := B.at S
  exact Go.by (X.instanceofNull B.1 (g := mkF m pc ls (.null :: st)) rfl rfl (hb B.2.2.2.1 hd)) q
theorem g_castNull (B : Bdy p Z s m meth c own bytes maxL ret nm) (W : Wk p l e R s m args below meth c Z T h k n ss) {i : Nat} (hd : decode bytes pc = .ok (.checkcast i, 3)) (q : Go p.tables e below G T (mkF m (pc + 3) ls (.null :: st))) : Go p.tables e below G T (mkF m pc ls (.null :: st)) := by
  obtain ⟨_, _, _, X, _, _, _, S, -⟩ := W
  have B := B.at S
  refine Go.by (fun t q => ?_) q
  jvm_step X.here [B.1, (hb B.2.2.2.1 hd), checkcast.sem]
  exact q
theorem x_newR (B : Bdy p Z s m meth c own bytes maxL ret nm) (W : Wk p l e R s m args below meth c Z T h k n ss) {C : String} {i : Nat} {z : Int32} (cap : Nat) (hd : decode bytes pc = .ok (.anewarray i, 3)) (w1 : (Cond.classLink own i C).before a0 Z = true) (w2 : (Cond.arrayOver (.object C)).before a0 Z = true) (hn : ¬ z < 0) (hcap : z.toNatClampNeg ≤ cap) (hbg : cap * 8 ≤ 536870912) (hc : k + 1 ≤ R.cells) (hl : n + cap ≤ R.slots) (ls : Array Slot) (st : List Value) :
    ∃ T' h' b cA, b = h.size ∧ Wk p l e R s m args below meth c Z T' h' (k + 1) (n + cap) (b :: ss) ∧ Keep h h' [] ∧ Arv Z h' b cA (.object C) z (List.replicate cap .null) .null ∧ Ovr Z cA C ∧
      (∀ G, Go p.tables e below G T' (mkF m (pc + 3) ls (.ref b :: st)) → Go p.tables e below G T (mkF m pc ls (.int z :: st))) := by
  obtain ⟨locs, vm0, k0, X, eT, N, O, S, hk, H, hss⟩ := W
  have B := B.at S
  obtain ⟨T', h', cA, X', e', E', A', Ov', st'⟩ := newR X B.1 B.2.1 B.2.2.1 w1 w2 eT (g := mkF m pc ls (.int z :: st)) rfl (hb B.2.2.2.1 hd) rfl hn hcap hbg hc hl
  exact ⟨T', h', _, cA, rfl, ⟨locs, vm0, k0, X', e', N, O.ext E', S, Nat.le_trans hk E'.1, H.trans (CHr.ext E' H.1), own_ssn E' H.1 (by first | exact A'.lt | exact (Arv.new A' hn).lt) hss⟩, (Keep.refl h []).ext E', (Arv.new A' hn).pad (vs' := [] ++ List.replicate cap _) (pad_rep [] _ cap), Ov', fun G q => Go.by st' q⟩
theorem x_aastore (B : Bdy p Z s m meth c own bytes maxL ret nm) (W : Wk p l e R s m args below meth c Z T h k n ss) {kc : ClassId} {ty : FieldType} {z j : Int32} {vs : List Value} {dv v : Value} {b : Addr} (hd : decode bytes pc = .ok (.aastore, 1)) (F : Arv Z h b kc ty z vs dv) (ht : ty.isReference = true) (hj : ¬ j < 0 ∧ j < z) (hi : j.toNatClampNeg < vs.length) (hv : v.isRef = true) (hS : ∀ cl, Arr Z h b cl ty → cl.cls = kc → Sto Z h b v) (hb' : Z.heap.size ≤ b) (ls : Array Slot) (st : List Value) :
    ∃ T' h', Wk p l e R s m args below meth c Z T' h' k n ss ∧ Keep h h' [b] ∧ Arv Z h' b kc ty z (vs.set j.toNatClampNeg v) dv ∧ (∀ G, Go p.tables e below G T' (mkF m (pc + 1) ls st) → Go p.tables e below G T (mkF m pc ls (v :: .int j :: .ref b :: st))) := by
  obtain ⟨locs, vm0, k0, X, eT, N, O, S, hk, H, hss⟩ := W
  have B := B.at S
  have F' := F
  have hby : ty ≠ .byte := fun q => by rw [q] at ht; cases ht
  obtain ⟨cl, A, r1, r2, r3, Hs, Gf⟩ := F
  obtain ⟨T', h', X', e', W', st'⟩ := stR X B.1 B.2.1 eT A (inb_of r2 hj) ht (hS cl A r1) (g := mkF m pc ls (v :: .int j :: .ref b :: st)) rfl rfl (hb B.2.2.2.1 hd)
  exact ⟨T', h', ⟨_, vm0, k0, X', e', Fr.snoc X' N hb', O.wr W' hb', S, by rw [W'.size]; exact hk, H.trans (CHr.wr W' (Safe.arv B.2.1.alike F' hby) H.1), ss_mono (CHr.wr W' (Safe.arv B.2.1.alike F' hby) H.1) hss⟩, Keep.of_wr W', arv_put F' (own_fr ht hv) W' hi, fun G q => Go.by st' q⟩
theorem g_aaloadV (B : Bdy p Z s m meth c own bytes maxL ret nm) (W : Wk p l e R s m args below meth c Z T h k n ss) {kc : ClassId} {ty : FieldType} {z j : Int32} {vs : List Value} {dv v : Value} {b : Addr} (hd : decode bytes pc = .ok (.aaload, 1)) (F : Arv Z h b kc ty z vs dv) (ht : ty.isReference = true) (hj : ¬ j < 0 ∧ j < z) (hv : vs.getD j.toNatClampNeg dv = v)
    (q : Go p.tables e below G T (mkF m (pc + 1) ls (v :: st))) : Go p.tables e below G T (mkF m pc ls (.int j :: .ref b :: st)) := by
  obtain ⟨cl, A, hin, hat⟩ := arv_read F hj hv
  exact g_aaload B W hd A ht hin hat q
theorem x_clone (B : Bdy p Z s m meth c own bytes maxL ret nm) (W : Wk p l e R s m args below meth c Z T h k n ss) {ad : String} {i : Nat} {b : Addr} {cl : Cell} {ty : FieldType} (cap : Nat) (hd : decode bytes pc = .ok (.invokevirtual i, 3)) (w1 : (Cond.methodLink own i ⟨ad, "clone", "()Ljava/lang/Object;"⟩).before a0 Z = true) (w2 : (Cond.sameMethod ad "java/lang/Object" "clone" "()Ljava/lang/Object;").before a0 Z = true) (w3 : (Cond.native ⟨"java/lang/Object", "clone", "()Ljava/lang/Object;"⟩).before a0 Z = true)
    (w4 : (Cond.instanceMethod ⟨"java/lang/Object", "clone", "()Ljava/lang/Object;"⟩).before a0 Z = true) (w5 : (Cond.selects ad ⟨ad, "clone", "()Ljava/lang/Object;"⟩ ⟨"java/lang/Object", "clone", "()Ljava/lang/Object;"⟩).before a0 Z = true) (w6 : (Cond.castable ad "java/lang/Cloneable").before a0 Z = true) (A : Arr Z h b cl ty) (E : Exa Z h b ad) (F : FitC Z cl)
    (ls : Array Slot) (st : List Value) (hsz : ls.size = maxL) (V : Nat) (hV : (st.map fun v => v.category).sum = V) (hf : 1 ≤ R.frames) (hl : V + 14 ≤ R.locals) (hcap : cl.slots.size ≤ cap) (hc : k + 1 ≤ R.cells) (hs : n + cap ≤ R.slots) :
    ∃ T' h' b', b' = h.size ∧ Wk p l e R s m args below meth c Z T' h' (k + 1) (n + cap) (b' :: ss) ∧ Keep h h' [] ∧ Arr Z h' b' (cloneOf cl) ty ∧ Exa Z h' b' ad ∧ (∀ G, Go p.tables e below G T' (mkF m (pc + 3) ls (.ref b' :: st)) → Go p.tables e below G T (mkF m pc ls (.ref b :: st))) := by
  obtain ⟨locs, vm0, k0, X, eT, N, O, S, hk, H, hss⟩ := W
  have B := B.at S
  obtain ⟨T', h', X', e', E', A', Ex', st'⟩ := cloneA X B.1 B.2.1 B.2.2.1 w1 w2 w3 w4 w5 w6 eT A E F (g := mkF m pc ls (.ref b :: st)) rfl (hsz.trans B.2.2.2.2.1.symm) rfl (hb B.2.2.2.1 hd) hf (W := V) (by show 2 * 0 + _ ≤ _; omega) hl hcap hc hs
  exact ⟨T', h', _, rfl, ⟨locs, vm0, k0, X', e', N, O.ext E', S, Nat.le_trans hk E'.1, H.trans (CHr.ext E' H.1), own_ssn E' H.1 (by first | exact A'.lt | exact (Arv.new A' hn).lt) hss⟩, (Keep.refl h []).ext E', A', Ex', fun G q => Go.by st' q⟩
theorem x_cloneV (B : Bdy p Z s m meth c own bytes maxL ret nm) (W : Wk p l e R s m args below meth c Z T h k n ss) {ad : String} {i : Nat} {b : Addr} {kc : ClassId} {ty : FieldType} {z : Int32} {vs : List Value} {dv : Value} (cap : Nat) (hd : decode bytes pc = .ok (.invokevirtual i, 3)) (w1 : (Cond.methodLink own i ⟨ad, "clone", "()Ljava/lang/Object;"⟩).before a0 Z = true) (w2 : (Cond.sameMethod ad "java/lang/Object" "clone" "()Ljava/lang/Object;").before a0 Z = true) (w3 : (Cond.native ⟨"java/lang/Object", "clone", "()Ljava/lang/Object;"⟩).before a0 Z = true)
    (w4 : (Cond.instanceMethod ⟨"java/lang/Object", "clone", "()Ljava/lang/Object;"⟩).before a0 Z = true) (w5 : (Cond.selects ad ⟨ad, "clone", "()Ljava/lang/Object;"⟩ ⟨"java/lang/Object", "clone", "()Ljava/lang/Object;"⟩).before a0 Z = true) (w6 : (Cond.castable ad "java/lang/Cloneable").before a0 Z = true) (F : Arv Z h b kc ty z vs dv) (E : Exa Z h b ad)
    (ls : Array Slot) (st : List Value) (hsz : ls.size = maxL) (V : Nat) (hV : (st.map fun v => v.category).sum = V) (hf : 1 ≤ R.frames) (hl : V + 14 ≤ R.locals) (hcap : z.toNatClampNeg ≤ cap) (hc : k + 1 ≤ R.cells) (hs : n + cap ≤ R.slots) :
    ∃ T' h' b', b' = h.size ∧ Wk p l e R s m args below meth c Z T' h' (k + 1) (n + cap) (b' :: ss) ∧ Keep h h' [] ∧ Arv Z h' b' kc ty z vs dv ∧ Exa Z h' b' ad ∧ (∀ G, Go p.tables e below G T' (mkF m (pc + 3) ls (.ref b' :: st)) → Go p.tables e below G T (mkF m pc ls (.ref b :: st))) := by
  obtain ⟨cl, A, r1, r2, r3, H, G⟩ := F
  obtain ⟨T', h', b', eb, W', K, A', E', st'⟩ := x_clone B W cap hd w1 w2 w3 w4 w5 w6 A E (fitC_of A (fun i hi v hv => by have q := H i hi; rw [hv] at q; cases q; exact G i hi)) ls st hsz V hV hf hl (r2 ▸ hcap) hc hs
  exact ⟨T', h', b', eb, W', K, ⟨_, A', r1, r2, r3, H, G⟩, E', st'⟩
/-! ### calls -/
theorem backC {vm0 : Vm} {y : MethodName} {yb : ByteArray} {yL : Nat} {yr : Option FieldType} {rm : Room} {len V : Nat} {as' : Array Value} {s0 : List Addr} (C : Con l Z y yb yL yr [] rm as' h Q s0) (O : Old Z Z.heap.size h) (hWd : Wd Z)
    (hZ : Z.Warmed39 vm0) (wc : (Cond.code y yb yL yr).before a0 Z = true) (wz : (Cond.initialized y.cls).before a0 Z = true) (hf : rm.frames + 1 ≤ R.frames) (hl : V + (yL + 11) + rm.locals ≤ R.locals) (H : CHv Z EL vm0 h) (hs0 : ∀ x ∈ s0, x < h.size ∧ Safe Z EL vm0 h x) :
    BackS l R p e below (s.setVm vm0) args y len V (fun A a => a = as' ∧ A.U.heap = h ∧ A.cells + rm.cells ≤ R.cells ∧ A.slots + rm.slots ≤ R.slots)
      (fun A _ v B => ∃ L, (Q v B.U.heap ∧ Fr Z.heap.size L ∧ Old Z Z.heap.size B.U.heap) ∧ B.locs = A.locs ++ L ∧ B.cells = A.cells + rm.cells ∧ B.slots = A.slots + rm.slots ∧ CHr Z EL vm0 h B.U.vm B.U.heap) := by
  obtain ⟨a1, hEL, -⟩ := id hWd
  refine BackS.of_freeW (bytes := yb) (maxL := yL) (ret := yr) (E := fun _ first o t L k n => (k = rm.cells ∧ n = rm.slots) ∧ ∃ v, o = .returned v ∧ (Q v t.heap ∧ Fr Z.heap.size L ∧ Old Z Z.heap.size t.heap) ∧ CHr Z EL first.vm first.heap t.vm t.heap) (C hWd O) hf hl ?_ ?_ (fun _ _ _ _ _ _ _ _ _ => trivial) ?_ ?_
  · intro m meth c A a Y hp
    have hU : Z.Warmed39 A.U.vm := wtrans (s := s.setVm vm0) hZ Y.warmed
    exact ⟨by show (Cond.and _ .tt).before a A.U = true; rw [Cond.before_and, mv hU wc]; rfl, mv hU wc, mv hU wz, hp.2.2.1, hp.2.2.2⟩
  · intro m meth c A a g mk Y hp
    have q := CHv.at Y hZ hEL H
    exact ⟨hp.1, wtrans (s := s.setVm vm0) hZ Y.warmed, hp.2.1, q.1, ss_mono q hs0⟩
  · rintro _ _ _ _ ⟨v, L, h1, h2, h3, h4⟩
    exact ⟨L, _, _, h4, ⟨rfl, rfl⟩, v, h1, h2, h3⟩
  · rintro m meth c A a g mk v t L k n Y hp _ _ ⟨⟨rfl, rfl⟩, v', e3, e4, e5⟩
    cases e3
    refine ⟨L, e4, rfl, rfl, rfl, (CHv.at Y hZ hEL H).trans ?_⟩
    have e6 : (A.U.calling g mk a).heap = h := hp.2.1
    rw [← e6]; exact e5
theorem x_static (B : Bdy p Z s m meth c own bytes maxL ret nm) (W : Wk p l e R s m args below meth c Z T h k n ss) {y : MethodName} {yb : ByteArray} {yL i : Nat} {yr : Option FieldType} {rm : Room} (argsL : List Value) {s0 : List Addr} (C : Con l Z y yb yL yr [] rm argsL.toArray h Q s0) (hs0 : ∀ x ∈ s0, x ∈ ss)
    (hd : decode bytes pc = .ok (.invokestatic i, 3)) (w1 : (Cond.methodLink own i y).before a0 Z = true) (w2 : (Cond.static y).before a0 Z = true) (wz : (Cond.initialized y.cls).before a0 Z = true) (wc : (Cond.code y yb yL yr).before a0 Z = true) (hy : y.cls ≠ "java/lang/invoke/MethodHandle" ∧ y.cls ≠ "java/lang/invoke/VarHandle")
    (hlen : ∀ sig, parseMethodDescriptor y.desc = some sig → argsL.length = sig.parameters.length) (ls : Array Slot) (st : List Value) (hsz : ls.size = maxL) (V : Nat) (hV : (st.map fun v => v.category).sum = V) (hf : rm.frames + 1 ≤ R.frames) (hl : V + (yL + 11) + rm.locals ≤ R.locals) (hc : k + rm.cells ≤ R.cells) (hs : n + rm.slots ≤ R.slots) :
    ∃ T' h' v, Wk p l e R s m args below meth c Z T' h' (k + rm.cells) (n + rm.slots) ss ∧ Q v h' ∧ (∀ G, Go p.tables e below G T' (mkF m (pc + 3) ls (v.toList ++ st)) → Go p.tables e below G T (mkF m pc ls (argsL.reverse ++ st))) := by
  obtain ⟨locs, vm0, k0, X, eT, N, O, S, hk, H, hss⟩ := W
  have B := B.at S
  obtain ⟨v, _, ⟨T', L', k', n'⟩, -, X', S', hg', ⟨Lc, hQ, l1, l2, l3, A'⟩, st'⟩ := callSS X B.1 (y := y) B.2.2.1 (mvT B.2.1 w1) (mvT B.2.1 w2) (mvT B.2.1 wz) (mvT B.2.1 wc) hy (backC (V := V) C O B.2.2.2.2.2.2.2.2 B.2.1 wc wz hf hl H.1 (fun x q => hss x (hs0 x q))) (g := mkF m pc ls (argsL.reverse ++ st)) rfl (hsz.trans B.2.2.2.2.1.symm) (argsL := argsL) (rest := st) hlen rfl (by show 2 * 0 + _ ≤ _; omega) (hb B.2.2.2.1 hd) (fun _ _ => ⟨rfl, eT, hc, hs⟩)
  dsimp only [Pt.U, Pt.locs, Pt.cells, Pt.slots] at X' S' hg' A' l1 l2 l3 st' hQ
  subst l1 l2 l3
  exact ⟨T', T'.heap, v, ⟨_, T'.vm, T'.heap.size, X', rfl, N.app hQ.2.1, hQ.2.2, S.trans S' (Nat.le_trans hk A'.2.1), Nat.le_refl _, H.trans A', ss_mono A' hss⟩, hQ.1, fun G q => Go.by (fun t q => st'.trans q) q⟩
theorem x_special (B : Bdy p Z s m meth c own bytes maxL ret nm) (W : Wk p l e R s m args below meth c Z T h k n ss) {y : MethodName} {yb : ByteArray} {yL i : Nat} {rm : Room} {b : Addr} (argsL : List Value) {s0 : List Addr} (C : Con l Z y yb yL none [] rm (.ref b :: argsL).toArray h Q s0) (hs0 : ∀ x ∈ s0, x ∈ ss)
    (hd : decode bytes pc = .ok (.invokespecial i, 3)) (hy1 : y.name = "<init>") (w1 : (Cond.methodLink own i y).before a0 Z = true) (w2 : (Cond.instanceMethod y).before a0 Z = true) (wz : (Cond.initialized y.cls).before a0 Z = true) (wc : (Cond.code y yb yL none).before a0 Z = true) (hy : y.cls ≠ "java/lang/invoke/MethodHandle" ∧ y.cls ≠ "java/lang/invoke/VarHandle")
    (hlen : ∀ sig, parseMethodDescriptor y.desc = some sig → argsL.length = sig.parameters.length) (ls : Array Slot) (st : List Value) (hsz : ls.size = maxL) (V : Nat) (hV : (st.map fun v => v.category).sum = V) (hf : rm.frames + 1 ≤ R.frames) (hl : V + (yL + 11) + rm.locals ≤ R.locals) (hc : k + rm.cells ≤ R.cells) (hs : n + rm.slots ≤ R.slots) :
    ∃ T' h' v, Wk p l e R s m args below meth c Z T' h' (k + rm.cells) (n + rm.slots) ss ∧ Q v h' ∧ (∀ G, Go p.tables e below G T' (mkF m (pc + 3) ls (v.toList ++ st)) → Go p.tables e below G T (mkF m pc ls (argsL.reverse ++ .ref b :: st))) := by
  obtain ⟨locs, vm0, k0, X, eT, N, O, S, hk, H, hss⟩ := W
  have B := B.at S
  obtain ⟨v, _, ⟨T', L', k', n'⟩, -, X', S', hg', ⟨Lc, hQ, l1, l2, l3, A'⟩, st'⟩ := X.specialBackS B.1 (y := y) hy1 B.2.2.1 (mvT B.2.1 w1) (mvT B.2.1 w2) (mvT B.2.1 wc) hy (backC (V := V) C O B.2.2.2.2.2.2.2.2 B.2.1 wc wz hf hl H.1 (fun x q => hss x (hs0 x q))) (g := mkF m pc ls (argsL.reverse ++ .ref b :: st)) rfl (hsz.trans B.2.2.2.2.1.symm) (Steps.refl _) (a := b) (argsL := argsL) (rest := st) hlen rfl (by show 2 * 0 + _ ≤ _; omega) (hb B.2.2.2.1 hd) (fun _ _ => ⟨rfl, eT, hc, hs⟩)
  dsimp only [Pt.U, Pt.locs, Pt.cells, Pt.slots] at X' S' hg' A' l1 l2 l3 st' hQ
  subst l1 l2 l3
  exact ⟨T', T'.heap, v, ⟨_, T'.vm, T'.heap.size, X', rfl, N.app hQ.2.1, hQ.2.2, S.trans S' (Nat.le_trans hk A'.2.1), Nat.le_refl _, H.trans A', ss_mono A' hss⟩, hQ.1, fun G q => Go.by (fun t q => st'.trans q) q⟩
theorem x_virtual (B : Bdy p Z s m meth c own bytes maxL ret nm) (W : Wk p l e R s m args below meth c Z T h k n ss) {y : MethodName} {yb : ByteArray} {yL i : Nat} {yr : Option FieldType} {rm : Room} {b : Addr} {D : String} (argsL : List Value) {s0 : List Addr} (C : Con l Z y yb yL yr [] rm (.ref b :: argsL).toArray h Q s0) (hs0 : ∀ x ∈ s0, x ∈ ss) (E : Exa Z h b D)
    (hd : decode bytes pc = .ok (.invokevirtual i, 3)) (w1 : (Cond.methodLink own i y).before a0 Z = true) (w2 : (Cond.declares y).before a0 Z = true) (w3 : (Cond.selects D y y).before a0 Z = true) (w4 : (Cond.instanceMethod y).before a0 Z = true) (wz : (Cond.initialized y.cls).before a0 Z = true) (wc : (Cond.code y yb yL yr).before a0 Z = true) (hy : y.cls ≠ "java/lang/invoke/MethodHandle" ∧ y.cls ≠ "java/lang/invoke/VarHandle")
    (hlen : ∀ sig, parseMethodDescriptor y.desc = some sig → argsL.length = sig.parameters.length) (ls : Array Slot) (st : List Value) (hsz : ls.size = maxL) (V : Nat) (hV : (st.map fun v => v.category).sum = V) (hf : rm.frames + 1 ≤ R.frames) (hl : V + (yL + 11) + rm.locals ≤ R.locals) (hc : k + rm.cells ≤ R.cells) (hs : n + rm.slots ≤ R.slots) :
    ∃ T' h' v, Wk p l e R s m args below meth c Z T' h' (k + rm.cells) (n + rm.slots) ss ∧ Q v h' ∧ (∀ G, Go p.tables e below G T' (mkF m (pc + 3) ls (v.toList ++ st)) → Go p.tables e below G T (mkF m pc ls (argsL.reverse ++ .ref b :: st))) := by
  obtain ⟨locs, vm0, k0, X, eT, N, O, S, hk, H, hss⟩ := W
  have B := B.at S
  obtain ⟨cq, kq, qa, qb, qc⟩ := isOf B.2.1 eT E
  obtain ⟨v, _, ⟨T', L', k', n'⟩, -, X', S', hg', ⟨Lc, hQ, l1, l2, l3, A'⟩, st'⟩ := X.virtualBackS B.1 (y := y) (z := y) B.2.2.1 (mvT B.2.1 w1) (mvT B.2.1 w2) (notFace_of_selects (args := #[]) (mvT B.2.1 w3)) (mvT B.2.1 w3) (mvT B.2.1 w4) hy (backC (V := V) C O B.2.2.2.2.2.2.2.2 B.2.1 wc wz hf hl H.1 (fun x q => hss x (hs0 x q))) qa qc (g := mkF m pc ls (argsL.reverse ++ .ref b :: st)) rfl (hsz.trans B.2.2.2.2.1.symm) (Steps.refl _) (argsL := argsL) (rest := st) hlen rfl (by show 2 * 0 + _ ≤ _; omega) (hb B.2.2.2.1 hd) (fun _ _ => ⟨rfl, eT, hc, hs⟩)
  dsimp only [Pt.U, Pt.locs, Pt.cells, Pt.slots] at X' S' hg' A' l1 l2 l3 st' hQ
  subst l1 l2 l3
  exact ⟨T', T'.heap, v, ⟨_, T'.vm, T'.heap.size, X', rfl, N.app hQ.2.1, hQ.2.2, S.trans S' (Nat.le_trans hk A'.2.1), Nat.le_refl _, H.trans A', ss_mono A' hss⟩, hQ.1, fun G q => Go.by (fun t q => st'.trans q) q⟩
theorem x_iface (B : Bdy p Z s m meth c own bytes maxL ret nm) (W : Wk p l e R s m args below meth c Z T h k n ss) {xi y : MethodName} {count : Nat} {D : String} {yb : ByteArray} {yL i : Nat} {yr : Option FieldType} {rm : Room} {b : Addr} (argsL : List Value) {s0 : List Addr} (C : Con l Z y yb yL yr [] rm (.ref b :: argsL).toArray h Q s0) (hs0 : ∀ x ∈ s0, x ∈ ss) (E : Exa Z h b D)
    (hd : decode bytes pc = .ok (.invokeinterface i count, 5)) (w1 : (Cond.methodLink own i xi).before a0 Z = true) (w2 : (Cond.declares xi).before a0 Z = true) (w3 : (Cond.interfaceMethod xi.cls xi.cls xi.name xi.desc).before a0 Z = true) (w4 : (Cond.selects D xi y).before a0 Z = true) (w5 : (Cond.instanceMethod y).before a0 Z = true) (w6 : (Cond.publicMethod y).before a0 Z = true) (w7 : (Cond.unhidden D xi.name xi.desc).before a0 Z = true) (w8 : (Cond.castable D xi.cls).before a0 Z = true) (hk3 : ((Cond.interfaceMethod xi.cls xi.cls xi.name xi.desc).onTables && (Cond.interfaceMethod xi.cls xi.cls xi.name xi.desc).keepsFace) = true) (wz : (Cond.initialized y.cls).before a0 Z = true) (wc : (Cond.code y yb yL yr).before a0 Z = true) (hy : xi.cls ≠ "java/lang/invoke/MethodHandle" ∧ xi.cls ≠ "java/lang/invoke/VarHandle")
    (hlen : ∀ sig, parseMethodDescriptor xi.desc = some sig → argsL.length = sig.parameters.length) (ls : Array Slot) (st : List Value) (hsz : ls.size = maxL) (V : Nat) (hV : (st.map fun v => v.category).sum = V) (hf : rm.frames + 1 ≤ R.frames) (hl : V + (yL + 11) + rm.locals ≤ R.locals) (hc : k + rm.cells ≤ R.cells) (hs : n + rm.slots ≤ R.slots) :
    ∃ T' h' v, Wk p l e R s m args below meth c Z T' h' (k + rm.cells) (n + rm.slots) ss ∧ Q v h' ∧ (∀ G, Go p.tables e below G T' (mkF m (pc + 5) ls (v.toList ++ st)) → Go p.tables e below G T (mkF m pc ls (argsL.reverse ++ .ref b :: st))) := by
  obtain ⟨locs, vm0, k0, X, eT, N, O, S, hk, H, hss⟩ := W
  have B := B.at S
  obtain ⟨cq, kq, qa, qb, qc⟩ := isOf B.2.1 eT E
  obtain ⟨v, _, ⟨T', L', k', n'⟩, -, X', S', hg', ⟨Lc, hQ, l1, l2, l3, A'⟩, st'⟩ := X.interfaceBackS B.1 (xi := xi) (y := y) B.2.2.1 (mvT B.2.1 w1) (mvT B.2.1 w2) (mvT B.2.1 w3 hk3) (mvT B.2.1 w4) (mvT B.2.1 w5) (mvT B.2.1 w6) (mvT B.2.1 w7) (mvT B.2.1 w8) hy (backC (V := V) C O B.2.2.2.2.2.2.2.2 B.2.1 wc wz hf hl H.1 (fun x q => hss x (hs0 x q))) qa qb qc (g := mkF m pc ls (argsL.reverse ++ .ref b :: st)) rfl (hsz.trans B.2.2.2.2.1.symm) (Steps.refl _) (argsL := argsL) (rest := st) hlen rfl (by show 2 * 0 + _ ≤ _; omega) (hb B.2.2.2.1 hd) (fun _ _ => ⟨rfl, eT, hc, hs⟩)
  dsimp only [Pt.U, Pt.locs, Pt.cells, Pt.slots] at X' S' hg' A' l1 l2 l3 st' hQ
  subst l1 l2 l3
  exact ⟨T', T'.heap, v, ⟨_, T'.vm, T'.heap.size, X', rfl, N.app hQ.2.1, hQ.2.2, S.trans S' (Nat.le_trans hk A'.2.1), Nat.le_refl _, H.trans A', ss_mono A' hss⟩, hQ.1, fun G q => Go.by (fun t q => st'.trans q) q⟩
theorem x_private (B : Bdy p Z s m meth c own bytes maxL ret nm) (W : Wk p l e R s m args below meth c Z T h k n ss) {y : MethodName} {D : String} {yb : ByteArray} {yL i : Nat} {yr : Option FieldType} {rm : Room} {b : Addr} (argsL : List Value) {s0 : List Addr} (C : Con l Z y yb yL yr [] rm (.ref b :: argsL).toArray h Q s0) (hs0 : ∀ x ∈ s0, x ∈ ss) (E : Exa Z h b D)
    (hd : decode bytes pc = .ok (.invokevirtual i, 3)) (w1 : (Cond.methodLink own i y).before a0 Z = true) (w2 : (Cond.instanceMethod y).before a0 Z = true) (w3 : (Cond.selects y.cls y y).before a0 Z = true) (w4 : (Cond.privateMethod y).before a0 Z = true) (wz : (Cond.initialized y.cls).before a0 Z = true) (wc : (Cond.code y yb yL yr).before a0 Z = true) (hy : y.cls ≠ "java/lang/invoke/MethodHandle" ∧ y.cls ≠ "java/lang/invoke/VarHandle")
    (hlen : ∀ sig, parseMethodDescriptor y.desc = some sig → argsL.length = sig.parameters.length) (ls : Array Slot) (st : List Value) (hsz : ls.size = maxL) (V : Nat) (hV : (st.map fun v => v.category).sum = V) (hf : rm.frames + 1 ≤ R.frames) (hl : V + (yL + 11) + rm.locals ≤ R.locals) (hc : k + rm.cells ≤ R.cells) (hs : n + rm.slots ≤ R.slots) :
    ∃ T' h' v, Wk p l e R s m args below meth c Z T' h' (k + rm.cells) (n + rm.slots) ss ∧ Q v h' ∧ (∀ G, Go p.tables e below G T' (mkF m (pc + 3) ls (v.toList ++ st)) → Go p.tables e below G T (mkF m pc ls (argsL.reverse ++ .ref b :: st))) := by
  obtain ⟨locs, vm0, k0, X, eT, N, O, S, hk, H, hss⟩ := W
  have B := B.at S
  obtain ⟨cell, qa, qb⟩ := Exa.cell E
  obtain ⟨v, _, ⟨T', L', k', n'⟩, -, X', S', hg', ⟨Lc, hQ, l1, l2, l3, A'⟩, st'⟩ := X.privateBackS B.1 (y := y) B.2.2.1 (mvT B.2.1 w1) (mvT B.2.1 w2) (mvT B.2.1 w3) (Cond.privateMethod_at (mvP B.2.1 w4 (args := #[]))) (mvT B.2.1 wc) hy (backC (V := V) C O B.2.2.2.2.2.2.2.2 B.2.1 wc wz hf hl H.1 (fun x q => hss x (hs0 x q))) (g := mkF m pc ls (argsL.reverse ++ .ref b :: st)) rfl (hsz.trans B.2.2.2.2.1.symm) (Steps.refl _) (a := b) (by rw [eT]; exact qa) qb (argsL := argsL) (rest := st) hlen rfl (by show 2 * 0 + _ ≤ _; omega) (hb B.2.2.2.1 hd) (fun _ _ => ⟨rfl, eT, hc, hs⟩)
  dsimp only [Pt.U, Pt.locs, Pt.cells, Pt.slots] at X' S' hg' A' l1 l2 l3 st' hQ
  subst l1 l2 l3
  exact ⟨T', T'.heap, v, ⟨_, T'.vm, T'.heap.size, X', rfl, N.app hQ.2.1, hQ.2.2, S.trans S' (Nat.le_trans hk A'.2.1), Nat.le_refl _, H.trans A', ss_mono A' hss⟩, hQ.1, fun G q => Go.by (fun t q => st'.trans q) q⟩
theorem x_specialB (B : Bdy p Z s m meth c own bytes maxL ret nm) (W : Wk p l e R s m args below meth c Z T h k n ss) {y : MethodName} {yb : ByteArray} {yL i V rc rs : Nat} {b : Addr} {QL : Option Value → Heap → List Loc → Prop} (argsL : List Value) (hK : ∀ s' : State, Z.Warmed39 s'.vm → Back l R p e below s' args y 3 V (fun A a => a = (.ref b :: argsL).toArray ∧ A.U.heap = h ∧ A.cells + rc ≤ R.cells ∧ A.slots + rs ≤ R.slots) (fun A _ v B => ∃ L, QL v B.U.heap L ∧ B.locs = A.locs ++ L ∧ B.cells = A.cells + rc ∧ B.slots = A.slots + rs))
    (hd : decode bytes pc = .ok (.invokespecial i, 3)) (hy1 : y.name = "<init>") (w1 : (Cond.methodLink own i y).before a0 Z = true) (w2 : (Cond.instanceMethod y).before a0 Z = true) (wc : (Cond.code y yb yL none).before a0 Z = true) (hy : y.cls ≠ "java/lang/invoke/MethodHandle" ∧ y.cls ≠ "java/lang/invoke/VarHandle")
    (hlen : ∀ sig, parseMethodDescriptor y.desc = some sig → argsL.length = sig.parameters.length) (ls : Array Slot) (st : List Value) (hsz : ls.size = maxL) (hV : (st.map fun v => v.category).sum = V) (hc : k + rc ≤ R.cells) (hs : n + rs ≤ R.slots) (wl : List Addr) (hwl : ∀ x ∈ wl, Z.heap.size ≤ x) (hsf : ∀ x ∈ wl, x ∈ ss) (hq : ∀ v h' L, QL v h' L → Fr Z.heap.size L ∧ Keep h h' wl) : ∃ T' h' v L, Wk p l e R s m args below meth c Z T' h' (k + rc) (n + rs) ss ∧ QL v h' L ∧ (∀ G, Go p.tables e below G T' (mkF m (pc + 3) ls (v.toList ++ st)) → Go p.tables e below G T (mkF m pc ls (argsL.reverse ++ .ref b :: st))) := by
  obtain ⟨locs, vm0, k0, X, eT, N, O, S, hk, H, hss⟩ := W
  have B := B.at S
  obtain ⟨v, _, ⟨T', L', k', n'⟩, -, X', ⟨Lc, hQ, l1, l2, l3⟩, st'⟩ := X.specialBack B.1 (y := y) hy1 B.2.2.1 (mvT B.2.1 w1) (mvT B.2.1 w2) (mvT B.2.1 wc) hy (hK _ B.2.1) (g := mkF m pc ls (argsL.reverse ++ .ref b :: st)) rfl (hsz.trans B.2.2.2.2.1.symm) (Steps.refl _) (a := b) (argsL := argsL) (rest := st) hlen rfl (by show 2 * 0 + _ ≤ _; omega) (hb B.2.2.2.1 hd) (fun _ _ => ⟨rfl, eT, hc, hs⟩)
  dsimp only [Pt.U, Pt.locs, Pt.cells, Pt.slots] at X' l1 l2 l3 st' hQ
  subst l1 l2 l3
  obtain ⟨hF, hKp⟩ := hq _ _ _ hQ
  exact ⟨T', T'.heap, v, Lc, ⟨_, vm0, k0, X', rfl, N.app hF, O.keep hKp hwl, S, Nat.le_trans hk hKp.1, H.trans (CHr.keep hKp (fun x q => (hss x (hsf x q)).2) H.1), ss_mono (CHr.keep hKp (fun x q => (hss x (hsf x q)).2) H.1) hss⟩, hQ, fun G q => Go.by (fun t q => st'.trans q) q⟩
theorem x_virtualB (B : Bdy p Z s m meth c own bytes maxL ret nm) (W : Wk p l e R s m args below meth c Z T h k n ss) {y : MethodName} {D : String} {i V rc rs : Nat} {b : Addr} {QL : Option Value → Heap → List Loc → Prop} (argsL : List Value) (hK : ∀ s' : State, Z.Warmed39 s'.vm → Back l R p e below s' args y 3 V (fun A a => a = (.ref b :: argsL).toArray ∧ A.U.heap = h ∧ A.cells + rc ≤ R.cells ∧ A.slots + rs ≤ R.slots) (fun A _ v B => ∃ L, QL v B.U.heap L ∧ B.locs = A.locs ++ L ∧ B.cells = A.cells + rc ∧ B.slots = A.slots + rs)) (E : Exa Z h b D)
    (hd : decode bytes pc = .ok (.invokevirtual i, 3)) (w1 : (Cond.methodLink own i y).before a0 Z = true) (w2 : (Cond.declares y).before a0 Z = true) (w3 : (Cond.selects D y y).before a0 Z = true) (w4 : (Cond.instanceMethod y).before a0 Z = true) (hy : y.cls ≠ "java/lang/invoke/MethodHandle" ∧ y.cls ≠ "java/lang/invoke/VarHandle")
    (hlen : ∀ sig, parseMethodDescriptor y.desc = some sig → argsL.length = sig.parameters.length) (ls : Array Slot) (st : List Value) (hsz : ls.size = maxL) (hV : (st.map fun v => v.category).sum = V) (hc : k + rc ≤ R.cells) (hs : n + rs ≤ R.slots) (wl : List Addr) (hwl : ∀ x ∈ wl, Z.heap.size ≤ x) (hsf : ∀ x ∈ wl, x ∈ ss) (hq : ∀ v h' L, QL v h' L → Fr Z.heap.size L ∧ Keep h h' wl) : ∃ T' h' v L, Wk p l e R s m args below meth c Z T' h' (k + rc) (n + rs) ss ∧ QL v h' L ∧ (∀ G, Go p.tables e below G T' (mkF m (pc + 3) ls (v.toList ++ st)) → Go p.tables e below G T (mkF m pc ls (argsL.reverse ++ .ref b :: st))) := by
  obtain ⟨locs, vm0, k0, X, eT, N, O, S, hk, H, hss⟩ := W
  have B := B.at S
  obtain ⟨cq, kq, qa, qb, qc⟩ := isOf B.2.1 eT E
  obtain ⟨v, _, ⟨T', L', k', n'⟩, -, X', ⟨Lc, hQ, l1, l2, l3⟩, st'⟩ := X.virtualBack B.1 (y := y) (z := y) B.2.2.1 (mvT B.2.1 w1) (mvT B.2.1 w2) (notFace_of_selects (args := #[]) (mvT B.2.1 w3)) (mvT B.2.1 w3) (mvT B.2.1 w4) hy (hK _ B.2.1) qa qc (g := mkF m pc ls (argsL.reverse ++ .ref b :: st)) rfl (hsz.trans B.2.2.2.2.1.symm) (Steps.refl _) (argsL := argsL) (rest := st) hlen rfl (by show 2 * 0 + _ ≤ _; omega) (hb B.2.2.2.1 hd) (fun _ _ => ⟨rfl, eT, hc, hs⟩)
  dsimp only [Pt.U, Pt.locs, Pt.cells, Pt.slots] at X' l1 l2 l3 st' hQ
  subst l1 l2 l3
  obtain ⟨hF, hKp⟩ := hq _ _ _ hQ
  exact ⟨T', T'.heap, v, Lc, ⟨_, vm0, k0, X', rfl, N.app hF, O.keep hKp hwl, S, Nat.le_trans hk hKp.1, H.trans (CHr.keep hKp (fun x q => (hss x (hsf x q)).2) H.1), ss_mono (CHr.keep hKp (fun x q => (hss x (hsf x q)).2) H.1) hss⟩, hQ, fun G q => Go.by (fun t q => st'.trans q) q⟩
theorem x_ldcS (B : Bdy p Z s m meth c own bytes maxL ret nm) (W : Wk p l e R s m args below meth c Z T h k n ss) {i : Nat} {text : String} (sz : Nat) (hd : decode bytes pc = .ok (.ldc i, 2)) (w : (Cond.stringLink own i text).before a0 Z = true) (wS : ∀ a ∈ Bundle.stringAtoms, a.before a0 Z = true) (hEL : EW Z a0 EL) (hn : 4 * text.toList.length ≤ sz) (hbig : sz ≤ 536870912) (hc : k + 2 ≤ R.cells) (hl : n + (sz + 4) ≤ R.slots) (ls : Array Slot) (st : List Value) :
    ∃ T' h' b, Wk p l e R s m args below meth c Z T' h' (k + 2) (n + (sz + 4)) ss ∧ Keep h h' [] ∧ (∀ G, Go p.tables e below G T' (mkF m (pc + 2) ls (.ref b :: st)) → Go p.tables e below G T (mkF m pc ls st)) := by
  obtain ⟨locs, vm0, k0, X, eT, N, O, S, hk, H, hss⟩ := W
  have B := B.at S
  obtain ⟨b, T', h', k1, X', e', E', S', hk', hZ', hf', A', -, st'⟩ := ldcOH X B.1 B.2.1 B.2.2.1 w wS eT S hk hEL H.1 (g := mkF m pc ls st) rfl (hb B.2.2.2.1 hd) hn hbig hc hl
  exact ⟨T', h', b, ⟨locs, T'.vm, k1, X', e', N, O.ext E', S', hk', H.trans A', ss_mono A' hss⟩, (Keep.refl h []).ext E', fun G q => Go.by st' q⟩
theorem own_litB {vm : Vm} {own text : String} {i : Nat} {a t : Addr} (hW : Z.Warmed39 vm) (H : CHv Z EL vm h) (hmem : (own, i) ∈ EL) (w : (Cond.stringLink own i text).before a0 Z = true) (L : Lit (s.setVm vm) own i a) (V : Fld Z h a "java/lang/String" "value" "[B" (.ref t)) : Exa Z h t "[B" := by
  have hal : Z.vm.Alike vm := hW.alike
  have w2 : (Cond.stringLink own i text).before a0 (Wst Z vm h) = true := mvS (s := { Z with heap := h }) hW w
  have hq0 : (s.setVm vm).resolvedAt? own i = some (.string a) := L
  cases hf : vm.findClass own with
  | none => simp [State.resolvedAt?, hf] at hq0
  | some cc =>
    obtain ⟨k0', cf, i', units, hkx, hcf, hp, hu, -, htext, -⟩ := Cond.stringLink_spec (s := Wst Z vm h) hf w2
    have hk' : vm.classes[cc]? = some k0' := hkx
    have hres : k0'.resolved[i]? = some (some (.string a)) := by
      simp [State.resolvedAt?, hf, hk'] at hq0
      cases hr : k0'.resolved[i]? with
      | none => rw [hr] at hq0; cases hq0
      | some o => rw [hr] at hq0; cases o with
        | none => cases hq0
        | some r => simpa using hq0
    have hB0 : Booksv vm own i units a := ⟨cc, k0', cf, i', hf, hkx, hcf, hp, hu, Or.inl hres⟩
    obtain ⟨q, hqa, F⟩ := SlB.of (H _ hmem units a hB0)
    obtain ⟨cS, ⟨⟨s1, s2, s3, ⟨cv, kv, iv, s4, s4'⟩, -, s6, s7, s8, s9, s10, s11, -⟩, hfS, hcS⟩, -, hB, -⟩ := F
    subst hqa
    obtain ⟨kv', z4⟩ := ff_back (U := Wst Z vm h) hal s4
    obtain ⟨cell, cf2, k2, i2, f2, v1, v2, -, -, -, -, v7⟩ := V
    cases z4.symm.trans v2
    cases (show h[q.sa]? = some q.sC from s1).symm.trans v1
    have et : t = q.sd := by have := s8.symm.trans v7; simpa using this.symm
    subst et
    have hBZ : Z.vm.findClass "[B" = some q.SA.cls := by rw [← hal.findClass]; exact hB
    obtain ⟨kb, hkb, -⟩ := Vm.findClass_spec hBZ
    obtain ⟨kb', hkb', ekb⟩ := hal.2.2 _ _ hkb
    obtain ⟨hst, k9, hk9, comp, hkind9⟩ := s11
    have hk9 : vm.classes[q.SA.cls]? = some k9 := hk9
    have ek9 : k9 = kb' := Option.some.inj (hk9.symm.trans hkb')
    refine ⟨q.SA, kb, s10, hBZ, hkb, ?_, fun ho => ?_⟩
    · cases hq : q.SA.vm <;> first | rfl | exact absurd hq (hst _)
    · rw [ek9, ekb] at hkind9
      have := hkind9.symm.trans ho
      cases this
theorem x_ldcT (B : Bdy p Z s m meth c own bytes maxL ret nm) (W : Wk p l e R s m args below meth c Z T h k n ss) {i : Nat} {text : String} (sz : Nat) {vs : List Value} {z : Int32} (hd : decode bytes pc = .ok (.ldc i, 2)) (w : (Cond.stringLink own i text).before a0 Z = true) (wS : ∀ a ∈ Bundle.stringAtoms, a.before a0 Z = true) (hEL : EW Z a0 EL) (hmem : (own, i) ∈ EL) (ht : (∀ c ∈ text.toList, c.toNat < 256) ∧ text.toList.map (fun c => Value.int (Jvm.Lit.byteI c.toNat.toUInt16)) = vs) (hz : ¬ z < 0) (hlz : z.toNatClampNeg = vs.length) (hn : 4 * text.toList.length ≤ sz) (hbig : sz ≤ 536870912) (hc : k + 2 ≤ R.cells) (hl : n + (sz + 4) ≤ R.slots) (ls : Array Slot) (st : List Value) :
    ∃ T' h' b t kc, Wk p l e R s m args below meth c Z T' h' (k + 2) (n + (sz + 4)) ss ∧ Keep h h' [] ∧ Exa Z h' b "java/lang/String" ∧ Fld Z h' b "java/lang/String" "coder" "B" (.int 0) ∧ Fld Z h' b "java/lang/String" "value" "[B" (.ref t) ∧ Arv Z h' t kc .byte z vs (.int 0) ∧ Exa Z h' t "[B" ∧ (∀ x ∈ ss, x ≠ b ∧ x ≠ t) ∧ (∀ G, Go p.tables e below G T' (mkF m (pc + 2) ls (.ref b :: st)) → Go p.tables e below G T (mkF m pc ls st)) := by
  obtain ⟨locs, vm0, k0, X, eT, N, O, S, hk, H, hss⟩ := W
  have B := B.at S
  obtain ⟨b, T', h', k1, t, kc, X', e', E', S', hk', hZ', hf', q1, q2, q3, q4, -, -, A', Lt, q5, st'⟩ := ldcCH X B.1 B.2.1 B.2.2.1 w wS eT S hk hEL hmem H.1 ht hz hlz (g := mkF m pc ls st) rfl (hb B.2.2.2.1 hd) hn hbig hc hl
  have hs2 := ss_mono A' hss
  exact ⟨T', h', b, t, kc, ⟨locs, T'.vm, k1, X', e', N, O.ext E', S', hk', H.trans A', hs2⟩, (Keep.refl h []).ext E', q1, q2, q3, q4, own_litB hZ' A'.1 hmem w Lt q3, fun x hx => q5 x (hs2 x hx).2, fun G q => Go.by st' q⟩
end K
end Jvm.OwnK
namespace Jvm.Pilot.@@N@@
open Jvm Jvm.ClassFile Sem Op Lib Jvm.Free Jvm.Stand Jvm.LawKit Jvm.RoadKit Jvm.OwnK Bundle Jvm.Pilot.@@N@@.Jvm.D
theorem tw {Z : State} {a0 : Array Value} (hw : ∀ d ∈ tables_1, d.before a0 Z = true) (i : Nat) {d : Jvm.Cond} (h : tables_1[i]? = some d) : d.before a0 Z = true := hw _ (List.mem_of_getElem? h)
theorem d_prog_1_method_1_0 : decode prog_1_method_1_code 0 = .ok (.aload_n 0, 1) := by decide +kernel
theorem d_prog_1_method_1_1 : decode prog_1_method_1_code 1 = .ok (.ldc 1, 2) := by decide +kernel
theorem d_prog_1_method_1_3 : decode prog_1_method_1_code 3 = .ok (.aload_n 1, 1) := by decide +kernel
theorem d_prog_1_method_1_4 : decode prog_1_method_1_code 4 = .ok (.sipush 255, 3) := by decide +kernel
theorem d_prog_1_method_1_7 : decode prog_1_method_1_code 7 = .ok (.invokestatic 5, 3) := by decide +kernel
theorem d_prog_1_method_1_10 : decode prog_1_method_1_code 10 = .ok (.ldc 9, 2) := by decide +kernel
theorem d_prog_1_method_1_12 : decode prog_1_method_1_code 12 = .ok (.aload_n 2, 1) := by decide +kernel
theorem d_prog_1_method_1_13 : decode prog_1_method_1_code 13 = .ok (.sipush 255, 3) := by decide +kernel
theorem d_prog_1_method_1_16 : decode prog_1_method_1_code 16 = .ok (.invokestatic 5, 3) := by decide +kernel
theorem d_prog_1_method_1_19 : decode prog_1_method_1_code 19 = .ok (.ldc 11, 2) := by decide +kernel
theorem d_prog_1_method_1_21 : decode prog_1_method_1_code 21 = .ok (.aload_n 3, 1) := by decide +kernel
theorem d_prog_1_method_1_22 : decode prog_1_method_1_code 22 = .ok (.ldc 13, 2) := by decide +kernel
theorem d_prog_1_method_1_24 : decode prog_1_method_1_code 24 = .ok (.invokestatic 5, 3) := by decide +kernel
theorem d_prog_1_method_1_27 : decode prog_1_method_1_code 27 = .ok (.aconst_null, 1) := by decide +kernel
theorem d_prog_1_method_1_28 : decode prog_1_method_1_code 28 = .ok (.aconst_null, 1) := by decide +kernel
theorem d_prog_1_method_1_29 : decode prog_1_method_1_code 29 = .ok (.aconst_null, 1) := by decide +kernel
theorem d_prog_1_method_1_30 : decode prog_1_method_1_code 30 = .ok (.invokespecial 14, 3) := by decide +kernel
theorem d_prog_1_method_1_33 : decode prog_1_method_1_code 33 = .ok (.return_, 1) := by decide +kernel
theorem d_prog_1_method_12_0 : decode prog_1_method_12_code 0 = .ok (.aload_n 1, 1) := by decide +kernel
theorem d_prog_1_method_12_1 : decode prog_1_method_12_code 1 = .ok (.aload_n 0, 1) := by decide +kernel
theorem d_prog_1_method_12_2 : decode prog_1_method_12_code 2 = .ok (.invokestatic 42, 3) := by decide +kernel
theorem d_prog_1_method_12_5 : decode prog_1_method_12_code 5 = .ok (.pop, 1) := by decide +kernel
theorem d_prog_1_method_12_6 : decode prog_1_method_12_code 6 = .ok (.aload_n 1, 1) := by decide +kernel
theorem d_prog_1_method_12_7 : decode prog_1_method_12_code 7 = .ok (.getstatic 65, 3) := by decide +kernel
theorem d_prog_1_method_12_10 : decode prog_1_method_12_code 10 = .ok (.invokevirtual 71, 3) := by decide +kernel
theorem d_prog_1_method_12_13 : decode prog_1_method_12_code 13 = .ok (.arraylength, 1) := by decide +kernel
theorem d_prog_1_method_12_14 : decode prog_1_method_12_code 14 = .ok (.iload_n 2, 1) := by decide +kernel
theorem d_prog_1_method_12_15 : decode prog_1_method_12_code 15 = .ok (.if_icmp .le 18, 3) := by decide +kernel
theorem d_prog_1_method_12_18 : decode prog_1_method_12_code 18 = .ok (.new 58, 3) := by decide +kernel
theorem d_prog_1_method_12_21 : decode prog_1_method_12_code 21 = .ok (.dup, 1) := by decide +kernel
theorem d_prog_1_method_12_22 : decode prog_1_method_12_code 22 = .ok (.aload_n 0, 1) := by decide +kernel
theorem d_prog_1_method_12_23 : decode prog_1_method_12_code 23 = .ok (.iload_n 2, 1) := by decide +kernel
theorem d_prog_1_method_12_29 : decode prog_1_method_12_code 29 = .ok (.invokespecial 62, 3) := by decide +kernel
theorem d_prog_1_method_12_32 : decode prog_1_method_12_code 32 = .ok (.athrow, 1) := by decide +kernel
theorem d_prog_1_method_12_33 : decode prog_1_method_12_code 33 = .ok (.aload_n 1, 1) := by decide +kernel
theorem d_prog_1_method_12_34 : decode prog_1_method_12_code 34 = .ok (.areturn, 1) := by decide +kernel
theorem d_jdk_31_method_11_0 : decode jdk_31_method_11_code 0 = .ok (.aload_n 0, 1) := by decide +kernel
theorem d_jdk_31_method_11_1 : decode jdk_31_method_11_code 1 = .ok (.ifnonnull 12, 3) := by decide +kernel
theorem d_jdk_31_method_11_4 : decode jdk_31_method_11_code 4 = .ok (.new 84, 3) := by decide +kernel
theorem d_jdk_31_method_11_7 : decode jdk_31_method_11_code 7 = .ok (.dup, 1) := by decide +kernel
theorem d_jdk_31_method_11_8 : decode jdk_31_method_11_code 8 = .ok (.aload_n 1, 1) := by decide +kernel
theorem d_jdk_31_method_11_9 : decode jdk_31_method_11_code 9 = .ok (.invokespecial 87, 3) := by decide +kernel
theorem d_jdk_31_method_11_12 : decode jdk_31_method_11_code 12 = .ok (.athrow, 1) := by decide +kernel
theorem d_jdk_31_method_11_13 : decode jdk_31_method_11_code 13 = .ok (.aload_n 0, 1) := by decide +kernel
theorem d_jdk_31_method_11_14 : decode jdk_31_method_11_code 14 = .ok (.areturn, 1) := by decide +kernel
theorem d_jdk_42_method_64_0 : decode jdk_42_method_64_code 0 = .ok (.aload_n 1, 1) := by decide +kernel
theorem d_jdk_42_method_64_1 : decode jdk_42_method_64_code 1 = .ok (.ifnonnull 11, 3) := by decide +kernel
theorem d_jdk_42_method_64_4 : decode jdk_42_method_64_code 4 = .ok (.new 538, 3) := by decide +kernel
theorem d_jdk_42_method_64_7 : decode jdk_42_method_64_code 7 = .ok (.dup, 1) := by decide +kernel
theorem d_jdk_42_method_64_8 : decode jdk_42_method_64_code 8 = .ok (.invokespecial 540, 3) := by decide +kernel
theorem d_jdk_42_method_64_11 : decode jdk_42_method_64_code 11 = .ok (.athrow, 1) := by decide +kernel
theorem d_jdk_42_method_64_12 : decode jdk_42_method_64_code 12 = .ok (.aload_n 1, 1) := by decide +kernel
theorem d_jdk_42_method_64_13 : decode jdk_42_method_64_code 13 = .ok (.aload_n 0, 1) := by decide +kernel
theorem d_jdk_42_method_64_14 : decode jdk_42_method_64_code 14 = .ok (.invokevirtual 335, 3) := by decide +kernel
theorem d_jdk_42_method_64_17 : decode jdk_42_method_64_code 17 = .ok (.aload_n 0, 1) := by decide +kernel
theorem d_jdk_42_method_64_18 : decode jdk_42_method_64_code 18 = .ok (.getfield 9, 3) := by decide +kernel
theorem d_jdk_42_method_64_21 : decode jdk_42_method_64_code 21 = .ok (.invokestatic 535, 3) := by decide +kernel
theorem d_jdk_42_method_64_24 : decode jdk_42_method_64_code 24 = .ok (.areturn, 1) := by decide +kernel
theorem d_jdk_42_method_152_0 : decode jdk_42_method_152_code 0 = .ok (.getstatic 38, 3) := by decide +kernel
theorem d_jdk_42_method_152_3 : decode jdk_42_method_152_code 3 = .ok (.ifCond .eq 10, 3) := by decide +kernel
theorem d_jdk_42_method_152_6 : decode jdk_42_method_152_code 6 = .ok (.aload_n 0, 1) := by decide +kernel
theorem d_jdk_42_method_152_7 : decode jdk_42_method_152_code 7 = .ok (.getfield 15, 3) := by decide +kernel
theorem d_jdk_42_method_152_10 : decode jdk_42_method_152_code 10 = .ok (.goto 4, 3) := by decide +kernel
theorem d_jdk_42_method_152_13 : decode jdk_42_method_152_code 13 = .ok (.iconst 1, 1) := by decide +kernel
theorem d_jdk_42_method_152_14 : decode jdk_42_method_152_code 14 = .ok (.ireturn, 1) := by decide +kernel
theorem d_jdk_42_method_18_0 : decode jdk_42_method_18_code 0 = .ok (.aload_n 0, 1) := by decide +kernel
theorem d_jdk_42_method_18_1 : decode jdk_42_method_18_code 1 = .ok (.getstatic 86, 3) := by decide +kernel
theorem d_jdk_42_method_18_4 : decode jdk_42_method_18_code 4 = .ok (.if_acmp .ne 10, 3) := by decide +kernel
theorem d_jdk_42_method_18_7 : decode jdk_42_method_18_code 7 = .ok (.iload_n 1, 1) := by decide +kernel
theorem d_jdk_42_method_18_8 : decode jdk_42_method_18_code 8 = .ok (.aload_n 2, 1) := by decide +kernel
theorem d_jdk_42_method_18_9 : decode jdk_42_method_18_code 9 = .ok (.iconst 1, 1) := by decide +kernel
theorem d_jdk_42_method_18_10 : decode jdk_42_method_18_code 10 = .ok (.invokestatic 252, 3) := by decide +kernel
theorem d_jdk_42_method_18_13 : decode jdk_42_method_18_code 13 = .ok (.areturn, 1) := by decide +kernel
theorem d_jdk_42_method_18_14 : decode jdk_42_method_18_code 14 = .ok (.aload_n 0, 1) := by decide +kernel
theorem d_jdk_42_method_18_15 : decode jdk_42_method_18_code 15 = .ok (.getstatic 116, 3) := by decide +kernel
theorem d_jdk_42_method_18_18 : decode jdk_42_method_18_code 18 = .ok (.if_acmp .ne 9, 3) := by decide +kernel
theorem d_jdk_42_method_18_21 : decode jdk_42_method_18_code 21 = .ok (.iload_n 1, 1) := by decide +kernel
theorem d_jdk_42_method_18_22 : decode jdk_42_method_18_code 22 = .ok (.aload_n 2, 1) := by decide +kernel
theorem d_jdk_42_method_18_23 : decode jdk_42_method_18_code 23 = .ok (.invokestatic 256, 3) := by decide +kernel
theorem d_jdk_42_method_18_26 : decode jdk_42_method_18_code 26 = .ok (.areturn, 1) := by decide +kernel
theorem d_jdk_42_method_18_27 : decode jdk_42_method_18_code 27 = .ok (.aload_n 0, 1) := by decide +kernel
theorem d_jdk_42_method_18_28 : decode jdk_42_method_18_code 28 = .ok (.getstatic 123, 3) := by decide +kernel
theorem d_jdk_42_method_18_31 : decode jdk_42_method_18_code 31 = .ok (.if_acmp .ne 9, 3) := by decide +kernel
theorem d_jdk_42_method_18_34 : decode jdk_42_method_18_code 34 = .ok (.iload_n 1, 1) := by decide +kernel
theorem d_jdk_42_method_18_35 : decode jdk_42_method_18_code 35 = .ok (.aload_n 2, 1) := by decide +kernel
theorem d_jdk_42_method_18_36 : decode jdk_42_method_18_code 36 = .ok (.invokestatic 260, 3) := by decide +kernel
theorem d_jdk_42_method_18_39 : decode jdk_42_method_18_code 39 = .ok (.areturn, 1) := by decide +kernel
theorem d_jdk_42_method_18_40 : decode jdk_42_method_18_code 40 = .ok (.aload_n 0, 1) := by decide +kernel
theorem d_jdk_42_method_18_41 : decode jdk_42_method_18_code 41 = .ok (.iload_n 1, 1) := by decide +kernel
theorem d_jdk_42_method_18_42 : decode jdk_42_method_18_code 42 = .ok (.aload_n 2, 1) := by decide +kernel
theorem d_jdk_42_method_18_43 : decode jdk_42_method_18_code 43 = .ok (.iconst 1, 1) := by decide +kernel
theorem d_jdk_42_method_18_44 : decode jdk_42_method_18_code 44 = .ok (.invokestatic 263, 3) := by decide +kernel
theorem d_jdk_42_method_18_47 : decode jdk_42_method_18_code 47 = .ok (.areturn, 1) := by decide +kernel
theorem d_jdk_42_method_46_0 : decode jdk_42_method_46_code 0 = .ok (.iload_n 0, 1) := by decide +kernel
theorem d_jdk_42_method_46_1 : decode jdk_42_method_46_code 1 = .ok (.iconst 1, 1) := by decide +kernel
theorem d_jdk_42_method_46_2 : decode jdk_42_method_46_code 2 = .ok (.if_icmp .ne 9, 3) := by decide +kernel
theorem d_jdk_42_method_46_5 : decode jdk_42_method_46_code 5 = .ok (.aload_n 1, 1) := by decide +kernel
theorem d_jdk_42_method_46_6 : decode jdk_42_method_46_code 6 = .ok (.iload_n 2, 1) := by decide +kernel
theorem d_jdk_42_method_46_7 : decode jdk_42_method_46_code 7 = .ok (.invokestatic 473, 3) := by decide +kernel
theorem d_jdk_42_method_46_10 : decode jdk_42_method_46_code 10 = .ok (.areturn, 1) := by decide +kernel
theorem d_jdk_42_method_46_11 : decode jdk_42_method_46_code 11 = .ok (.aload_n 1, 1) := by decide +kernel
theorem d_jdk_42_method_46_12 : decode jdk_42_method_46_code 12 = .ok (.iconst 0, 1) := by decide +kernel
theorem d_jdk_42_method_46_13 : decode jdk_42_method_46_code 13 = .ok (.aload_n 1, 1) := by decide +kernel
theorem d_jdk_42_method_46_14 : decode jdk_42_method_46_code 14 = .ok (.arraylength, 1) := by decide +kernel
theorem d_jdk_42_method_46_15 : decode jdk_42_method_46_code 15 = .ok (.invokestatic 128, 3) := by decide +kernel
theorem d_jdk_42_method_46_18 : decode jdk_42_method_46_code 18 = .ok (.ifCond .ne 11, 3) := by decide +kernel
theorem d_jdk_42_method_46_21 : decode jdk_42_method_46_code 21 = .ok (.aload_n 1, 1) := by decide +kernel
theorem d_jdk_42_method_46_22 : decode jdk_42_method_46_code 22 = .ok (.invokevirtual 279, 3) := by decide +kernel
theorem d_jdk_42_method_46_25 : decode jdk_42_method_46_code 25 = .ok (.checkcast 280, 3) := by decide +kernel
theorem d_jdk_42_method_46_28 : decode jdk_42_method_46_code 28 = .ok (.areturn, 1) := by decide +kernel
theorem d_jdk_42_method_46_29 : decode jdk_42_method_46_code 29 = .ok (.iconst 0, 1) := by decide +kernel
theorem d_jdk_42_method_46_30 : decode jdk_42_method_46_code 30 = .ok (.istore_n 3, 1) := by decide +kernel
theorem d_jdk_42_method_46_31 : decode jdk_42_method_46_code 31 = .ok (.aload_n 1, 1) := by decide +kernel
theorem d_jdk_42_method_46_32 : decode jdk_42_method_46_code 32 = .ok (.arraylength, 1) := by decide +kernel
theorem d_jdk_42_method_46_33 : decode jdk_42_method_46_code 33 = .ok (.invokestatic 60, 3) := by decide +kernel
theorem d_jdk_42_method_46_36 : decode jdk_42_method_46_code 36 = .ok (.astore 4, 2) := by decide +kernel
theorem d_jdk_42_method_46_38 : decode jdk_42_method_46_code 38 = .ok (.aload_n 1, 1) := by decide +kernel
theorem d_jdk_42_method_46_39 : decode jdk_42_method_46_code 39 = .ok (.astore 5, 2) := by decide +kernel
theorem d_jdk_42_method_46_41 : decode jdk_42_method_46_code 41 = .ok (.aload 5, 2) := by decide +kernel
theorem d_jdk_42_method_46_43 : decode jdk_42_method_46_code 43 = .ok (.arraylength, 1) := by decide +kernel
theorem d_jdk_42_method_46_44 : decode jdk_42_method_46_code 44 = .ok (.istore 6, 2) := by decide +kernel
theorem d_jdk_42_method_46_46 : decode jdk_42_method_46_code 46 = .ok (.iconst 0, 1) := by decide +kernel
theorem d_jdk_42_method_46_47 : decode jdk_42_method_46_code 47 = .ok (.istore 7, 2) := by decide +kernel
theorem d_jdk_42_method_46_49 : decode jdk_42_method_46_code 49 = .ok (.iload 7, 2) := by decide +kernel
theorem d_jdk_42_method_46_51 : decode jdk_42_method_46_code 51 = .ok (.iload 6, 2) := by decide +kernel
theorem d_jdk_42_method_46_53 : decode jdk_42_method_46_code 53 = .ok (.if_icmp .ge 71, 3) := by decide +kernel
theorem d_jdk_42_method_46_56 : decode jdk_42_method_46_code 56 = .ok (.aload 5, 2) := by decide +kernel
theorem d_jdk_42_method_46_58 : decode jdk_42_method_46_code 58 = .ok (.iload 7, 2) := by decide +kernel
theorem d_jdk_42_method_46_60 : decode jdk_42_method_46_code 60 = .ok (.baload, 1) := by decide +kernel
theorem d_jdk_42_method_46_61 : decode jdk_42_method_46_code 61 = .ok (.istore 8, 2) := by decide +kernel
theorem d_jdk_42_method_46_63 : decode jdk_42_method_46_code 63 = .ok (.iload 8, 2) := by decide +kernel
theorem d_jdk_42_method_46_65 : decode jdk_42_method_46_code 65 = .ok (.ifCond .ge 44, 3) := by decide +kernel
theorem d_jdk_42_method_46_68 : decode jdk_42_method_46_code 68 = .ok (.aload 4, 2) := by decide +kernel
theorem d_jdk_42_method_46_70 : decode jdk_42_method_46_code 70 = .ok (.iload_n 3, 1) := by decide +kernel
theorem d_jdk_42_method_46_71 : decode jdk_42_method_46_code 71 = .ok (.iinc 3 1, 3) := by decide +kernel
theorem d_jdk_42_method_46_74 : decode jdk_42_method_46_code 74 = .ok (.sipush 192, 3) := by decide +kernel
theorem d_jdk_42_method_46_77 : decode jdk_42_method_46_code 77 = .ok (.iload 8, 2) := by decide +kernel
theorem d_jdk_42_method_46_79 : decode jdk_42_method_46_code 79 = .ok (.sipush 255, 3) := by decide +kernel
theorem d_jdk_42_method_46_82 : decode jdk_42_method_46_code 82 = .ok (.iand, 1) := by decide +kernel
theorem d_jdk_42_method_46_83 : decode jdk_42_method_46_code 83 = .ok (.bipush 6, 2) := by decide +kernel
theorem d_jdk_42_method_46_85 : decode jdk_42_method_46_code 85 = .ok (.ishr, 1) := by decide +kernel
theorem d_jdk_42_method_46_86 : decode jdk_42_method_46_code 86 = .ok (.ior, 1) := by decide +kernel
theorem d_jdk_42_method_46_87 : decode jdk_42_method_46_code 87 = .ok (.i2b, 1) := by decide +kernel
theorem d_jdk_42_method_46_88 : decode jdk_42_method_46_code 88 = .ok (.bastore, 1) := by decide +kernel
theorem d_jdk_42_method_46_89 : decode jdk_42_method_46_code 89 = .ok (.aload 4, 2) := by decide +kernel
theorem d_jdk_42_method_46_91 : decode jdk_42_method_46_code 91 = .ok (.iload_n 3, 1) := by decide +kernel
theorem d_jdk_42_method_46_92 : decode jdk_42_method_46_code 92 = .ok (.iinc 3 1, 3) := by decide +kernel
theorem d_jdk_42_method_46_95 : decode jdk_42_method_46_code 95 = .ok (.sipush 128, 3) := by decide +kernel
theorem d_jdk_42_method_46_98 : decode jdk_42_method_46_code 98 = .ok (.iload 8, 2) := by decide +kernel
theorem d_jdk_42_method_46_100 : decode jdk_42_method_46_code 100 = .ok (.bipush 63, 2) := by decide +kernel
theorem d_jdk_42_method_46_102 : decode jdk_42_method_46_code 102 = .ok (.iand, 1) := by decide +kernel
theorem d_jdk_42_method_46_103 : decode jdk_42_method_46_code 103 = .ok (.ior, 1) := by decide +kernel
theorem d_jdk_42_method_46_104 : decode jdk_42_method_46_code 104 = .ok (.i2b, 1) := by decide +kernel
theorem d_jdk_42_method_46_105 : decode jdk_42_method_46_code 105 = .ok (.bastore, 1) := by decide +kernel
theorem d_jdk_42_method_46_106 : decode jdk_42_method_46_code 106 = .ok (.goto 12, 3) := by decide +kernel
theorem d_jdk_42_method_46_109 : decode jdk_42_method_46_code 109 = .ok (.aload 4, 2) := by decide +kernel
theorem d_jdk_42_method_46_111 : decode jdk_42_method_46_code 111 = .ok (.iload_n 3, 1) := by decide +kernel
theorem d_jdk_42_method_46_112 : decode jdk_42_method_46_code 112 = .ok (.iinc 3 1, 3) := by decide +kernel
theorem d_jdk_42_method_46_115 : decode jdk_42_method_46_code 115 = .ok (.iload 8, 2) := by decide +kernel
theorem d_jdk_42_method_46_117 : decode jdk_42_method_46_code 117 = .ok (.bastore, 1) := by decide +kernel
theorem d_jdk_42_method_46_118 : decode jdk_42_method_46_code 118 = .ok (.iinc 7 1, 3) := by decide +kernel
theorem d_jdk_42_method_46_121 : decode jdk_42_method_46_code 121 = .ok (.goto (-72), 3) := by decide +kernel
theorem d_jdk_42_method_46_124 : decode jdk_42_method_46_code 124 = .ok (.iload_n 3, 1) := by decide +kernel
theorem d_jdk_42_method_46_125 : decode jdk_42_method_46_code 125 = .ok (.aload 4, 2) := by decide +kernel
theorem d_jdk_42_method_46_127 : decode jdk_42_method_46_code 127 = .ok (.arraylength, 1) := by decide +kernel
theorem d_jdk_42_method_46_128 : decode jdk_42_method_46_code 128 = .ok (.if_icmp .ne 6, 3) := by decide +kernel
theorem d_jdk_42_method_46_131 : decode jdk_42_method_46_code 131 = .ok (.aload 4, 2) := by decide +kernel
theorem d_jdk_42_method_46_133 : decode jdk_42_method_46_code 133 = .ok (.areturn, 1) := by decide +kernel
theorem d_jdk_42_method_46_134 : decode jdk_42_method_46_code 134 = .ok (.aload 4, 2) := by decide +kernel
theorem d_jdk_42_method_46_136 : decode jdk_42_method_46_code 136 = .ok (.iload_n 3, 1) := by decide +kernel
theorem d_jdk_42_method_46_137 : decode jdk_42_method_46_code 137 = .ok (.invokestatic 102, 3) := by decide +kernel
theorem d_jdk_42_method_46_140 : decode jdk_42_method_46_code 140 = .ok (.areturn, 1) := by decide +kernel
theorem d_jdk_123_method_2_0 : decode jdk_123_method_2_code 0 = .ok (.aload_n 0, 1) := by decide +kernel
theorem d_jdk_123_method_2_1 : decode jdk_123_method_2_code 1 = .ok (.iload_n 1, 1) := by decide +kernel
theorem d_jdk_123_method_2_2 : decode jdk_123_method_2_code 2 = .ok (.iload_n 2, 1) := by decide +kernel
theorem d_jdk_123_method_2_3 : decode jdk_123_method_2_code 3 = .ok (.invokestatic 7, 3) := by decide +kernel
theorem d_jdk_123_method_2_6 : decode jdk_123_method_2_code 6 = .ok (.iload_n 2, 1) := by decide +kernel
theorem d_jdk_123_method_2_7 : decode jdk_123_method_2_code 7 = .ok (.if_icmp .eq 7, 3) := by decide +kernel
theorem d_jdk_123_method_2_10 : decode jdk_123_method_2_code 10 = .ok (.iconst 1, 1) := by decide +kernel
theorem d_jdk_123_method_2_11 : decode jdk_123_method_2_code 11 = .ok (.goto 4, 3) := by decide +kernel
theorem d_jdk_123_method_2_14 : decode jdk_123_method_2_code 14 = .ok (.iconst 0, 1) := by decide +kernel
theorem d_jdk_123_method_2_15 : decode jdk_123_method_2_code 15 = .ok (.ireturn, 1) := by decide +kernel
theorem d_jdk_123_method_3_0 : decode jdk_123_method_3_code 0 = .ok (.iload_n 1, 1) := by decide +kernel
theorem d_jdk_123_method_3_1 : decode jdk_123_method_3_code 1 = .ok (.iload_n 2, 1) := by decide +kernel
theorem d_jdk_123_method_3_2 : decode jdk_123_method_3_code 2 = .ok (.iadd, 1) := by decide +kernel
theorem d_jdk_123_method_3_3 : decode jdk_123_method_3_code 3 = .ok (.istore_n 3, 1) := by decide +kernel
theorem d_jdk_123_method_3_4 : decode jdk_123_method_3_code 4 = .ok (.iload_n 1, 1) := by decide +kernel
theorem d_jdk_123_method_3_5 : decode jdk_123_method_3_code 5 = .ok (.istore 4, 2) := by decide +kernel
theorem d_jdk_123_method_3_7 : decode jdk_123_method_3_code 7 = .ok (.iload 4, 2) := by decide +kernel
theorem d_jdk_123_method_3_9 : decode jdk_123_method_3_code 9 = .ok (.iload_n 3, 1) := by decide +kernel
theorem d_jdk_123_method_3_10 : decode jdk_123_method_3_code 10 = .ok (.if_icmp .ge 21, 3) := by decide +kernel
theorem d_jdk_123_method_3_13 : decode jdk_123_method_3_code 13 = .ok (.aload_n 0, 1) := by decide +kernel
theorem d_jdk_123_method_3_14 : decode jdk_123_method_3_code 14 = .ok (.iload 4, 2) := by decide +kernel
theorem d_jdk_123_method_3_16 : decode jdk_123_method_3_code 16 = .ok (.baload, 1) := by decide +kernel
theorem d_jdk_123_method_3_17 : decode jdk_123_method_3_code 17 = .ok (.ifCond .ge 8, 3) := by decide +kernel
theorem d_jdk_123_method_3_20 : decode jdk_123_method_3_code 20 = .ok (.iload 4, 2) := by decide +kernel
theorem d_jdk_123_method_3_22 : decode jdk_123_method_3_code 22 = .ok (.iload_n 1, 1) := by decide +kernel
theorem d_jdk_123_method_3_23 : decode jdk_123_method_3_code 23 = .ok (.isub, 1) := by decide +kernel
theorem d_jdk_123_method_3_24 : decode jdk_123_method_3_code 24 = .ok (.ireturn, 1) := by decide +kernel
theorem d_jdk_123_method_3_25 : decode jdk_123_method_3_code 25 = .ok (.iinc 4 1, 3) := by decide +kernel
theorem d_jdk_123_method_3_28 : decode jdk_123_method_3_code 28 = .ok (.goto (-21), 3) := by decide +kernel
theorem d_jdk_123_method_3_31 : decode jdk_123_method_3_code 31 = .ok (.iload_n 2, 1) := by decide +kernel
theorem d_jdk_123_method_3_32 : decode jdk_123_method_3_code 32 = .ok (.ireturn, 1) := by decide +kernel
theorem d_prog_1_method_2_0 : decode prog_1_method_2_code 0 = .ok (.aload_n 0, 1) := by decide +kernel
theorem d_prog_1_method_2_1 : decode prog_1_method_2_code 1 = .ok (.invokespecial 18, 3) := by decide +kernel
theorem d_prog_1_method_2_4 : decode prog_1_method_2_code 4 = .ok (.aload_n 0, 1) := by decide +kernel
theorem d_prog_1_method_2_5 : decode prog_1_method_2_code 5 = .ok (.aload_n 1, 1) := by decide +kernel
theorem d_prog_1_method_2_6 : decode prog_1_method_2_code 6 = .ok (.putfield 23, 3) := by decide +kernel
theorem d_prog_1_method_2_9 : decode prog_1_method_2_code 9 = .ok (.aload_n 0, 1) := by decide +kernel
theorem d_prog_1_method_2_10 : decode prog_1_method_2_code 10 = .ok (.aload_n 2, 1) := by decide +kernel
theorem d_prog_1_method_2_11 : decode prog_1_method_2_code 11 = .ok (.putfield 26, 3) := by decide +kernel
theorem d_prog_1_method_2_14 : decode prog_1_method_2_code 14 = .ok (.aload_n 0, 1) := by decide +kernel
theorem d_prog_1_method_2_15 : decode prog_1_method_2_code 15 = .ok (.aload_n 3, 1) := by decide +kernel
theorem d_prog_1_method_2_16 : decode prog_1_method_2_code 16 = .ok (.putfield 29, 3) := by decide +kernel
theorem d_prog_1_method_2_19 : decode prog_1_method_2_code 19 = .ok (.aload_n 0, 1) := by decide +kernel
theorem d_prog_1_method_2_20 : decode prog_1_method_2_code 20 = .ok (.aload 4, 2) := by decide +kernel
theorem d_prog_1_method_2_22 : decode prog_1_method_2_code 22 = .ok (.putfield 31, 3) := by decide +kernel
theorem d_prog_1_method_2_25 : decode prog_1_method_2_code 25 = .ok (.aload_n 0, 1) := by decide +kernel
theorem d_prog_1_method_2_26 : decode prog_1_method_2_code 26 = .ok (.aload 5, 2) := by decide +kernel
theorem d_prog_1_method_2_28 : decode prog_1_method_2_code 28 = .ok (.putfield 34, 3) := by decide +kernel
theorem d_prog_1_method_2_31 : decode prog_1_method_2_code 31 = .ok (.aload_n 0, 1) := by decide +kernel
theorem d_prog_1_method_2_32 : decode prog_1_method_2_code 32 = .ok (.aload 6, 2) := by decide +kernel
theorem d_prog_1_method_2_34 : decode prog_1_method_2_code 34 = .ok (.putfield 37, 3) := by decide +kernel
theorem d_prog_1_method_2_37 : decode prog_1_method_2_code 37 = .ok (.return_, 1) := by decide +kernel
theorem d_prog_2_method_1_0 : decode prog_2_method_1_code 0 = .ok (.aload_n 0, 1) := by decide +kernel
theorem d_prog_2_method_1_1 : decode prog_2_method_1_code 1 = .ok (.invokespecial 1, 3) := by decide +kernel
theorem d_prog_2_method_1_4 : decode prog_2_method_1_code 4 = .ok (.aload_n 0, 1) := by decide +kernel
theorem d_prog_2_method_1_5 : decode prog_2_method_1_code 5 = .ok (.lload_n 1, 1) := by decide +kernel
theorem d_prog_2_method_1_6 : decode prog_2_method_1_code 6 = .ok (.putfield 7, 3) := by decide +kernel
theorem d_prog_2_method_1_9 : decode prog_2_method_1_code 9 = .ok (.aload_n 0, 1) := by decide +kernel
theorem d_prog_2_method_1_10 : decode prog_2_method_1_code 10 = .ok (.iload_n 3, 1) := by decide +kernel
theorem d_prog_2_method_1_11 : decode prog_2_method_1_code 11 = .ok (.putfield 13, 3) := by decide +kernel
theorem d_prog_2_method_1_14 : decode prog_2_method_1_code 14 = .ok (.aload_n 0, 1) := by decide +kernel
theorem d_prog_2_method_1_15 : decode prog_2_method_1_code 15 = .ok (.aload 4, 2) := by decide +kernel
theorem d_prog_2_method_1_17 : decode prog_2_method_1_code 17 = .ok (.putfield 17, 3) := by decide +kernel
theorem d_prog_2_method_1_20 : decode prog_2_method_1_code 20 = .ok (.return_, 1) := by decide +kernel
theorem d_jdk_35_method_24_0 : decode jdk_35_method_24_code 0 = .ok (.sipush 128, 3) := by decide +kernel
theorem d_jdk_35_method_24_3 : decode jdk_35_method_24_code 3 = .ok (.istore_n 2, 1) := by decide +kernel
theorem d_jdk_35_method_24_4 : decode jdk_35_method_24_code 4 = .ok (.lload_n 0, 1) := by decide +kernel
theorem d_jdk_35_method_24_5 : decode jdk_35_method_24_code 5 = .ok (.ldc2_w 230, 3) := by decide +kernel
theorem d_jdk_35_method_24_8 : decode jdk_35_method_24_code 8 = .ok (.lcmp, 1) := by decide +kernel
theorem d_jdk_35_method_24_9 : decode jdk_35_method_24_code 9 = .ok (.ifCond .lt 22, 3) := by decide +kernel
theorem d_jdk_35_method_24_12 : decode jdk_35_method_24_code 12 = .ok (.lload_n 0, 1) := by decide +kernel
theorem d_jdk_35_method_24_13 : decode jdk_35_method_24_code 13 = .ok (.ldc2_w 232, 3) := by decide +kernel
theorem d_jdk_35_method_24_16 : decode jdk_35_method_24_code 16 = .ok (.lcmp, 1) := by decide +kernel
theorem d_jdk_35_method_24_17 : decode jdk_35_method_24_code 17 = .ok (.ifCond .gt 14, 3) := by decide +kernel
theorem d_jdk_35_method_24_20 : decode jdk_35_method_24_code 20 = .ok (.getstatic 234, 3) := by decide +kernel
theorem d_jdk_35_method_24_23 : decode jdk_35_method_24_code 23 = .ok (.lload_n 0, 1) := by decide +kernel
theorem d_jdk_35_method_24_24 : decode jdk_35_method_24_code 24 = .ok (.l2i, 1) := by decide +kernel
theorem d_jdk_35_method_24_25 : decode jdk_35_method_24_code 25 = .ok (.sipush 128, 3) := by decide +kernel
theorem d_jdk_35_method_24_28 : decode jdk_35_method_24_code 28 = .ok (.iadd, 1) := by decide +kernel
theorem d_jdk_35_method_24_29 : decode jdk_35_method_24_code 29 = .ok (.aaload, 1) := by decide +kernel
theorem d_jdk_35_method_24_30 : decode jdk_35_method_24_code 30 = .ok (.areturn, 1) := by decide +kernel
theorem d_jdk_35_method_24_31 : decode jdk_35_method_24_code 31 = .ok (.new 1, 3) := by decide +kernel
theorem d_jdk_35_method_24_34 : decode jdk_35_method_24_code 34 = .ok (.dup, 1) := by decide +kernel
theorem d_jdk_35_method_24_35 : decode jdk_35_method_24_code 35 = .ok (.lload_n 0, 1) := by decide +kernel
theorem d_jdk_35_method_24_36 : decode jdk_35_method_24_code 36 = .ok (.invokespecial 240, 3) := by decide +kernel
theorem d_jdk_35_method_24_39 : decode jdk_35_method_24_code 39 = .ok (.areturn, 1) := by decide +kernel
theorem d_prog_2_method_5_0 : decode prog_2_method_5_code 0 = .ok (.aload_n 1, 1) := by decide +kernel
theorem d_prog_2_method_5_1 : decode prog_2_method_5_code 1 = .ok (.instanceof 8, 3) := by decide +kernel
theorem d_prog_2_method_5_4 : decode prog_2_method_5_code 4 = .ok (.ifCond .eq 22, 3) := by decide +kernel
theorem d_prog_2_method_5_7 : decode prog_2_method_5_code 7 = .ok (.aload_n 1, 1) := by decide +kernel
theorem d_prog_2_method_5_8 : decode prog_2_method_5_code 8 = .ok (.checkcast 8, 3) := by decide +kernel
theorem d_prog_2_method_5_11 : decode prog_2_method_5_code 11 = .ok (.getfield 7, 3) := by decide +kernel
theorem d_prog_2_method_5_14 : decode prog_2_method_5_code 14 = .ok (.aload_n 0, 1) := by decide +kernel
theorem d_prog_2_method_5_15 : decode prog_2_method_5_code 15 = .ok (.getfield 7, 3) := by decide +kernel
theorem d_prog_2_method_5_18 : decode prog_2_method_5_code 18 = .ok (.lcmp, 1) := by decide +kernel
theorem d_prog_2_method_5_19 : decode prog_2_method_5_code 19 = .ok (.ifCond .ne 7, 3) := by decide +kernel
theorem d_prog_2_method_5_22 : decode prog_2_method_5_code 22 = .ok (.iconst 1, 1) := by decide +kernel
theorem d_prog_2_method_5_23 : decode prog_2_method_5_code 23 = .ok (.goto 4, 3) := by decide +kernel
theorem d_prog_2_method_5_26 : decode prog_2_method_5_code 26 = .ok (.iconst 0, 1) := by decide +kernel
theorem d_prog_2_method_5_27 : decode prog_2_method_5_code 27 = .ok (.ireturn, 1) := by decide +kernel
theorem d_jdk_35_method_26_0 : decode jdk_35_method_26_code 0 = .ok (.aload_n 0, 1) := by decide +kernel
theorem d_jdk_35_method_26_1 : decode jdk_35_method_26_code 1 = .ok (.invokespecial 270, 3) := by decide +kernel
theorem d_jdk_35_method_26_4 : decode jdk_35_method_26_code 4 = .ok (.aload_n 0, 1) := by decide +kernel
theorem d_jdk_35_method_26_5 : decode jdk_35_method_26_code 5 = .ok (.lload_n 1, 1) := by decide +kernel
theorem d_jdk_35_method_26_6 : decode jdk_35_method_26_code 6 = .ok (.putfield 273, 3) := by decide +kernel
theorem d_jdk_35_method_26_9 : decode jdk_35_method_26_code 9 = .ok (.return_, 1) := by decide +kernel
theorem d_jdk_18_method_1_0 : decode jdk_18_method_1_code 0 = .ok (.aload_n 0, 1) := by decide +kernel
theorem d_jdk_18_method_1_1 : decode jdk_18_method_1_code 1 = .ok (.invokespecial 1, 3) := by decide +kernel
theorem d_jdk_18_method_1_4 : decode jdk_18_method_1_code 4 = .ok (.return_, 1) := by decide +kernel
theorem pn_com_example_outbox_relay_outboxrelay_OutboxMessage : plainName "com/example/outbox_relay/outboxrelay/OutboxMessage" = true := by first | (simp [plainName, overriddenIn]; done) | decide +kernel
theorem pd__Ljava_lang_String_Ljava_lang_String_Ljava_lang_String__V : parseMethodDescriptor "(Ljava/lang/String;Ljava/lang/String;Ljava/lang/String;)V" = some ⟨[(.object "java/lang/String"), (.object "java/lang/String"), (.object "java/lang/String")], none⟩ := by decide +kernel
theorem pd__Ljava_lang_String_Ljava_lang_String_I_Ljava_lang_String_ : parseMethodDescriptor "(Ljava/lang/String;Ljava/lang/String;I)Ljava/lang/String;" = some ⟨[(.object "java/lang/String"), (.object "java/lang/String"), .int], some (.object "java/lang/String")⟩ := by decide +kernel
theorem pd__Ljava_lang_String_Ljava_lang_String_Ljava_lang_String_Ljava_lang_String_Ljava_lang_String_Ljava_lang_String__V : parseMethodDescriptor "(Ljava/lang/String;Ljava/lang/String;Ljava/lang/String;Ljava/lang/String;Ljava/lang/String;Ljava/lang/String;)V" = some ⟨[(.object "java/lang/String"), (.object "java/lang/String"), (.object "java/lang/String"), (.object "java/lang/String"), (.object "java/lang/String"), (.object "java/lang/String")], none⟩ := by decide +kernel
theorem pd__Ljava_lang_Object_Ljava_lang_String__Ljava_lang_Object_ : parseMethodDescriptor "(Ljava/lang/Object;Ljava/lang/String;)Ljava/lang/Object;" = some ⟨[(.object "java/lang/Object"), (.object "java/lang/String")], some (.object "java/lang/Object")⟩ := by decide +kernel
theorem pd__Ljava_nio_charset_Charset___B : parseMethodDescriptor "(Ljava/nio/charset/Charset;)[B" = some ⟨[(.object "java/nio/charset/Charset")], some (.array .byte)⟩ := by decide +kernel
theorem pn_java_util_Objects : plainName "java/util/Objects" = true := by first | (simp [plainName, overriddenIn]; done) | decide +kernel
theorem pn_java_lang_String : plainName "java/lang/String" = true := by first | (simp [plainName, overriddenIn]; done) | decide +kernel
theorem pd___B : parseMethodDescriptor "()B" = some ⟨[], some .byte⟩ := by decide +kernel
theorem pd__Ljava_nio_charset_Charset_B_B__B : parseMethodDescriptor "(Ljava/nio/charset/Charset;B[B)[B" = some ⟨[(.object "java/nio/charset/Charset"), .byte, (.array .byte)], some (.array .byte)⟩ := by decide +kernel
theorem pd__B_BZ__B : parseMethodDescriptor "(B[BZ)[B" = some ⟨[.byte, (.array .byte), .boolean], some (.array .byte)⟩ := by decide +kernel
theorem pd___BII_Z : parseMethodDescriptor "([BII)Z" = some ⟨[(.array .byte), .int, .int], some .boolean⟩ := by decide +kernel
theorem pd___Ljava_lang_Object_ : parseMethodDescriptor "()Ljava/lang/Object;" = some ⟨[], some (.object "java/lang/Object")⟩ := by decide +kernel
theorem pn_java_lang_StringCoding : plainName "java/lang/StringCoding" = true := by first | (simp [plainName, overriddenIn]; done) | decide +kernel
theorem pd___BII_I : parseMethodDescriptor "([BII)I" = some ⟨[(.array .byte), .int, .int], some .int⟩ := by decide +kernel
theorem pd___V : parseMethodDescriptor "()V" = some ⟨[], none⟩ := by decide +kernel
theorem pn_com_example_outbox_relay_outboxrelay_OutboxRecord : plainName "com/example/outbox_relay/outboxrelay/OutboxRecord" = true := by first | (simp [plainName, overriddenIn]; done) | decide +kernel
theorem pd__JILcom_example_outbox_relay_outboxrelay_OutboxMessage__V : parseMethodDescriptor "(JILcom/example/outbox_relay/outboxrelay/OutboxMessage;)V" = some ⟨[.long, .int, (.object "com/example/outbox_relay/outboxrelay/OutboxMessage")], none⟩ := by decide +kernel
theorem pn_java_lang_Long : plainName "java/lang/Long" = true := by first | (simp [plainName, overriddenIn]; done) | decide +kernel
theorem pd__J_Ljava_lang_Long_ : parseMethodDescriptor "(J)Ljava/lang/Long;" = some ⟨[.long], some (.object "java/lang/Long")⟩ := by decide +kernel
theorem pd__J_V : parseMethodDescriptor "(J)V" = some ⟨[.long], none⟩ := by decide +kernel
theorem pd__Ljava_lang_Object__Z : parseMethodDescriptor "(Ljava/lang/Object;)Z" = some ⟨[(.object "java/lang/Object")], some .boolean⟩ := by decide +kernel
theorem pn_java_lang_Number : plainName "java/lang/Number" = true := by first | (simp [plainName, overriddenIn]; done) | decide +kernel
theorem pn_com_example_outbox_relay_outboxrelay_OutboxRecordEqualsPinLaw : plainName "com/example/outbox_relay/outboxrelay/OutboxRecordEqualsPinLaw" = true := by first | (simp [plainName, overriddenIn]; done) | decide +kernel
theorem pd__JJIII_Z : parseMethodDescriptor "(JJIII)Z" = some ⟨[.long, .long, .int, .int, .int], some .boolean⟩ := by decide +kernel
theorem own_sA : ∀ d ∈ Bundle.stringAtoms, d ∈ tables_1 := by decide +kernel
theorem own_wS {Z : State} {a0 : Array Value} (hw : ∀ d ∈ tables_1, d.before a0 Z = true) : ∀ a ∈ Bundle.stringAtoms, a.before a0 Z = true := fun d hd => hw d (own_sA d hd)
theorem own_EL {Z : State} {a0 : Array Value} (hw : ∀ d ∈ tables_1, d.before a0 Z = true) : EW Z a0 Jvm.OwnK.EL := (EW.cons (tw hw 3 rfl) (by decide) EW.nil)
def StrIs (Z : State) (h : Heap) (b : Addr) (cs : List Int32) : Prop := ∃ (t : Addr) (kb : ClassId), Exa Z h b "java/lang/String" ∧ Fld Z h b "java/lang/String" "coder" "B" (.int 0) ∧ Fld Z h b "java/lang/String" "value" "[B" (.ref t) ∧ Arv Z h t kb .byte (Int32.ofNat cs.length) ((cs.map fun c => c.toInt8.toInt32).map Value.int) (.int 0) ∧ (∀ c ∈ cs, ¬ c < 0 ∧ ¬ 255 < c) ∧ cs.length ≤ 4000
theorem StrIs.keep {Z : State} {h h' : Heap} {b : Addr} {cs : List Int32} (F : StrIs Z h b cs) (K : Keep h h' []) : StrIs Z h' b cs := by
  obtain ⟨t, kb, q1, q2, q3, q4, r⟩ := F
  exact ⟨t, kb, q1.keep K, q2.keep K nin0, q3.keep K nin0, q4.keep K nin0, r⟩
theorem StrIs.ext {Z : State} {h h' : Heap} {b : Addr} {cs : List Int32} (F : StrIs Z h b cs) (K : Ext h h') : StrIs Z h' b cs := F.keep ((Keep.refl h []).ext K)
theorem StrIs.exa {Z : State} {h : Heap} {b : Addr} {cs : List Int32} (F : StrIs Z h b cs) : Exa Z h b "java/lang/String" := by obtain ⟨t, kb, q, -⟩ := F; exact q
theorem own_up {cs : List Int32} (h : ∀ c ∈ cs, ¬ c < 0 ∧ ¬ (255 : Int32) < c) : ∀ c ∈ cs, ¬ c < 0 ∧ ¬ (65535 : Int32) < c := fun c hc => by
  have q := h c hc
  simp only [Int32.lt_iff_toInt_lt, Int32.reduceToInt] at *; omega
theorem own_eqv {v : Option Value} {P : Prop} [Decidable P] (h : (v = some (.int 1) ∧ P) ∨ (v = some (.int 0) ∧ ¬ P)) : v = some (.int (bi (decide P))) := by
  rcases h with ⟨h, q⟩ | ⟨h, q⟩
  · rw [h, decide_eq_true q]; rfl
  · rw [h, decide_eq_false q]; rfl
theorem own_eqr {args : Array Value} {Z : State} {X F : Term} {idx : List Nat} {y : Addr} (hF : F.eval args Z none idx Z = some (.ref y)) (h : (Jvm.Cond.eq X F).value args Z none Z idx = some true) : X.eval args Z none idx Z = some (.ref y) := by
  cases hX : X.eval args Z none idx Z with
  | none => simp [Cond.value, hX] at h
  | some x => cases x <;> simp [Cond.value, hX, hF] at h ⊢ <;> exact h
theorem own_len {args : Array Value} {s : State} {t : Term} {a : Addr} {c : Cell} {ty : FieldType} {n : Int32} (A : Arr s s.heap a c ty) (et : t.eval args s none [] s = some (.ref a)) (h : (Jvm.Cond.eq (Term.length t) (Term.int n)).value args s none s [] = some true) : c.slots.size < 2 ^ 31 ∧ c.slots.size.toInt32 = n := by
  have e := eqv_i (Term.int_eval n) h
  by_cases q : c.slots.size < 2 ^ 31
  · rw [len_f et (A.fin (Vm.Alike.refl _)) q] at e
    exact ⟨q, by simpa using e⟩
  · simp [Term.eval, et, A.fin (Vm.Alike.refl _), q] at e
theorem own_ix {args : Array Value} {s : State} {j : Int32} (hj : ¬ j < 0) : (Jvm.Term.sub (Jvm.Term.index 0) (Jvm.Term.int 128)).eval args s none [j.toNatClampNeg] s = some (.int (j - 128)) := by
  have q := (back32 hj).1
  simp [Term.eval, q]
theorem ef_cpos (m : MethodId) (ar : Addr) : entryFrame m #[(.ref ar), (.int 0), (.int 0)] 5 = mkF m 0 #[.val (.ref ar), .val (.int 0), .val (.int 0), .unset, .unset] [] := by first | (simp [entryFrame, mkF, argsToLocals, Value.category]; done) | rfl
def Q_cpos (Z : State) (ar : Addr) (h0 : Heap) (v : Option Value) (h : Heap) : Prop := v = some (.int 0) ∧ h0 = h
set_option maxRecDepth 65536 in
set_option maxHeartbeats 40000000 in
theorem c_cpos (l : Launch) (Z : State) (a0 : Array Value) (hw : ∀ d ∈ tables_1, d.before a0 Z = true) (ar : Addr) (h0 : Heap) :
    Con l Z (⟨"java/lang/StringCoding", "countPositives", "([BII)I"⟩ : MethodName) jdk_123_method_3_code 5 (Option.some FieldType.int) [] ({ frames := 0, cells := 0, slots := 0, locals := 0 } : Room) #[(.ref ar), (.int 0), (.int 0)] h0 (Q_cpos Z ar h0) [] := by
  refine Con.of (plainFor_of_name pn_java_lang_StringCoding) ?_
  intro p e s m below meth c T0 B W0
  refine Go.cast (ef_cpos m ar ) ?_
  refine g_iload_n B W0 (d_jdk_123_method_3_0) rfl ?_
  refine g_iload_n B W0 (d_jdk_123_method_3_1) rfl ?_
  refine g_iadd B W0 (d_jdk_123_method_3_2)  ?_
  rw [show (0 + 0 : Int32) = 0 by decide]
  refine g_istore_n B W0 (d_jdk_123_method_3_3)  (l' := #[.val (.ref ar), .val (.int 0), .val (.int 0), .val (.int 0), .unset]) rfl ?_
  refine g_iload_n B W0 (d_jdk_123_method_3_4) rfl ?_
  refine g_istore B W0 (d_jdk_123_method_3_5)  (l' := #[.val (.ref ar), .val (.int 0), .val (.int 0), .val (.int 0), .val (.int 0)]) rfl ?_
  refine g_iload B W0 (d_jdk_123_method_3_7) rfl ?_
  refine g_iload_n B W0 (d_jdk_123_method_3_9) rfl ?_
  refine g_icmp_y B W0 (d_jdk_123_method_3_10) (XT.ii_ge_t (by decide)) (pc' := 31) (by decide) ?_
  show Go p.tables e below _ T0 (mkF m 31 #[.val (.ref ar), .val (.int 0), .val (.int 0), .val (.int 0), .val (.int 0)] [])
  refine g_iload_n B W0 (d_jdk_123_method_3_31) rfl ?_
  exact r_i B W0 (d_jdk_123_method_3_32) (by decide) (by decide) ⟨rfl, rfl⟩
theorem ef_hneg (m : MethodId) (ar : Addr) : entryFrame m #[(.ref ar), (.int 0), (.int 0)] 3 = mkF m 0 #[.val (.ref ar), .val (.int 0), .val (.int 0)] [] := by first | (simp [entryFrame, mkF, argsToLocals, Value.category]; done) | rfl
def Q_hneg (Z : State) (ar : Addr) (h0 : Heap) (v : Option Value) (h : Heap) : Prop := v = some (.int 0) ∧ h0 = h
set_option maxRecDepth 65536 in
set_option maxHeartbeats 40000000 in
theorem c_hneg (l : Launch) (Z : State) (a0 : Array Value) (hw : ∀ d ∈ tables_1, d.before a0 Z = true) (ar : Addr) (h0 : Heap) :
    Con l Z (⟨"java/lang/StringCoding", "hasNegatives", "([BII)Z"⟩ : MethodName) jdk_123_method_2_code 3 (Option.some FieldType.boolean) [] ({ frames := 1, cells := 0, slots := 0, locals := 16 } : Room) #[(.ref ar), (.int 0), (.int 0)] h0 (Q_hneg Z ar h0) [] := by
  refine Con.of (plainFor_of_name pn_java_lang_StringCoding) ?_
  intro p e s m below meth c T0 B W0
  refine Go.cast (ef_hneg m ar ) ?_
  refine g_aload_n B W0 (d_jdk_123_method_2_0) rfl rfl ?_
  refine g_iload_n B W0 (d_jdk_123_method_2_1) rfl ?_
  refine g_iload_n B W0 (d_jdk_123_method_2_2) rfl ?_
  obtain ⟨T101, h101, v101, W101, Q101, st101⟩ := x_static B W0 [(.ref ar), (.int 0), (.int 0)] (c_cpos l Z a0 hw ar h0) (by simp) (d_jdk_123_method_2_3) (tw hw 49 rfl) (tw hw 50 rfl) (tw hw 47 rfl) (tw hw 51 rfl) (by decide) (lenOf pd___BII_I rfl) #[.val (.ref ar), .val (.int 0), .val (.int 0)] [] rfl 0 rfl (by decide) (by decide) (by decide) (by decide)
  obtain ⟨rfl, rfl⟩ := Q101
  refine st101 _ ?_
  refine g_iload_n B W101 (d_jdk_123_method_2_6) rfl ?_
  refine g_icmp_y B W101 (d_jdk_123_method_2_7) (XT.ii_eq_t rfl) (pc' := 14) (by decide) ?_
  show Go p.tables e below _ T101 (mkF m 14 #[.val (.ref ar), .val (.int 0), .val (.int 0)] [])
  refine g_iconst B W101 (d_jdk_123_method_2_14) (v := 0) (by decide) ?_
  exact r_n B W101 (t := .boolean) rfl (by simp) (d_jdk_123_method_2_15) (by decide) (by decide) ⟨by rw [nar_b0], rfl⟩
theorem ef_enc8 (m : MethodId) (ar : Addr) (kb : ClassId) : entryFrame m #[(.int 0), (.ref ar), (.int 1)] 9 = mkF m 0 #[.val (.int 0), .val (.ref ar), .val (.int 1), .unset, .unset, .unset, .unset, .unset, .unset] [] := by first | (simp [entryFrame, mkF, argsToLocals, Value.category]; done) | rfl
def Q_enc8 (Z : State) (ar : Addr) (kb : ClassId) (h0 : Heap) (v : Option Value) (h : Heap) : Prop := ∃ b, v = some (.ref b) ∧ Keep h0 h [] ∧ Arv Z h b kb .byte 0 [] (.int 0)
set_option maxRecDepth 65536 in
set_option maxHeartbeats 40000000 in
theorem c_enc8 (l : Launch) (Z : State) (a0 : Array Value) (hw : ∀ d ∈ tables_1, d.before a0 Z = true) (ar : Addr) (kb : ClassId) (h0 : Heap) (A1 : Arv Z h0 ar kb .byte 0 [] (.int 0)) (E1 : Exa Z h0 ar "[B") :
    Con l Z (⟨"java/lang/String", "encodeUTF8", "(B[BZ)[B"⟩ : MethodName) jdk_42_method_46_code 9 (Option.some (FieldType.array FieldType.byte)) [] ({ frames := 2, cells := 1, slots := 0, locals := 30 } : Room) #[(.int 0), (.ref ar), (.int 1)] h0 (Q_enc8 Z ar kb h0) [] := by
  refine Con.of (plainFor_of_name pn_java_lang_String) ?_
  intro p e s m below meth c T0 B W0
  refine Go.cast (ef_enc8 m ar kb ) ?_
  refine g_iload_n B W0 (d_jdk_42_method_46_0) rfl ?_
  refine g_iconst B W0 (d_jdk_42_method_46_1) (v := 1) (by decide) ?_
  refine g_icmp_y B W0 (d_jdk_42_method_46_2) (XT.ii_ne_t (by decide)) (pc' := 11) (by decide) ?_
  show Go p.tables e below _ T0 (mkF m 11 #[.val (.int 0), .val (.ref ar), .val (.int 1), .unset, .unset, .unset, .unset, .unset, .unset] [])
  refine g_aload_n B W0 (d_jdk_42_method_46_11) rfl rfl ?_
  refine g_iconst B W0 (d_jdk_42_method_46_12) (v := 0) (by decide) ?_
  refine g_aload_n B W0 (d_jdk_42_method_46_13) rfl rfl ?_
  refine g_aalen B W0 (d_jdk_42_method_46_14) A1 ?_
  obtain ⟨T101, h101, v101, W101, Q101, st101⟩ := x_static B W0 [(.ref ar), (.int 0), (.int 0)] (c_hneg l Z a0 hw ar h0) (by simp) (d_jdk_42_method_46_15) (tw hw 45 rfl) (tw hw 46 rfl) (tw hw 47 rfl) (tw hw 48 rfl) (by decide) (lenOf pd___BII_Z rfl) #[.val (.int 0), .val (.ref ar), .val (.int 1), .unset, .unset, .unset, .unset, .unset, .unset] [] rfl 0 rfl (by decide) (by decide) (by decide) (by decide)
  obtain ⟨rfl, rfl⟩ := Q101
  refine st101 _ ?_
  refine g_if_n B W101 (d_jdk_42_method_46_18) (XT.i0_ne_f rfl) ?_
  show Go p.tables e below _ T101 (mkF m 21 #[.val (.int 0), .val (.ref ar), .val (.int 1), .unset, .unset, .unset, .unset, .unset, .unset] [])
  refine g_aload_n B W101 (d_jdk_42_method_46_21) rfl rfl ?_
  obtain ⟨T102, h102, b102, gb102, W102, K102, A102, E102, st102⟩ := x_cloneV B W101 0 (d_jdk_42_method_46_22) (tw hw 52 rfl) (tw hw 53 rfl) (tw hw 57 rfl) (tw hw 55 rfl) (tw hw 56 rfl) (tw hw 58 rfl) A1 E1 #[.val (.int 0), .val (.ref ar), .val (.int 1), .unset, .unset, .unset, .unset, .unset, .unset] [] rfl 0 rfl (by decide) (by decide) (by decide) (by decide) (by decide)
  refine st102 _ ?_
  have s103 := K102.1
  obtain ⟨T104, W104, st104⟩ := x_castY B W102 (d_jdk_42_method_46_25) (tw hw 59 rfl) (Ins.self E102) #[.val (.int 0), .val (.ref ar), .val (.int 1), .unset, .unset, .unset, .unset, .unset, .unset] []
  refine st104 _ ?_
  exact r_a B W104 rfl rfl rfl (d_jdk_42_method_46_28) (by decide) (by decide) ⟨_, rfl, ((Keep.refl h0 []).trans K102 all0), A102⟩
theorem ef_enc (m : MethodId) (ar : Addr) (kb : ClassId) (u8 : Addr) : entryFrame m #[(.ref u8), (.int 0), (.ref ar)] 3 = mkF m 0 #[.val (.ref u8), .val (.int 0), .val (.ref ar)] [] := by first | (simp [entryFrame, mkF, argsToLocals, Value.category]; done) | rfl
def Q_enc (Z : State) (ar : Addr) (kb : ClassId) (u8 : Addr) (h0 : Heap) (v : Option Value) (h : Heap) : Prop := ∃ b, v = some (.ref b) ∧ Keep h0 h [] ∧ Arv Z h b kb .byte 0 [] (.int 0)
set_option maxRecDepth 65536 in
set_option maxHeartbeats 40000000 in
theorem c_enc (l : Launch) (Z : State) (a0 : Array Value) (hw : ∀ d ∈ tables_1, d.before a0 Z = true) (ar : Addr) (kb : ClassId) (u8 : Addr) (h0 : Heap) (A1 : Arv Z h0 ar kb .byte 0 [] (.int 0)) (E1 : Exa Z h0 ar "[B") (Su8 : Sta Z Z.heap "java/nio/charset/StandardCharsets" "UTF_8" "Ljava/nio/charset/Charset;" (.ref u8)) (Sin : Sta Z Z.heap "sun/nio/cs/UTF_8" "INSTANCE" "Lsun/nio/cs/UTF_8;" (.ref u8)) :
    Con l Z (⟨"java/lang/String", "encode", "(Ljava/nio/charset/Charset;B[B)[B"⟩ : MethodName) jdk_42_method_18_code 3 (Option.some (FieldType.array FieldType.byte)) [] ({ frames := 3, cells := 1, slots := 0, locals := 50 } : Room) #[(.ref u8), (.int 0), (.ref ar)] h0 (Q_enc Z ar kb u8 h0) [] := by
  refine Con.of (plainFor_of_name pn_java_lang_String) ?_
  intro p e s m below meth c T0 B W0
  refine Go.cast (ef_enc m ar kb u8 ) ?_
  refine g_aload_n B W0 (d_jdk_42_method_18_0) rfl rfl ?_
  obtain ⟨T101, W101, st101⟩ := x_gets B W0 (host := "") (d_jdk_42_method_18_1) (Or.inl (tw hw 40 rfl)) Via.refl Sin #[.val (.ref u8), .val (.int 0), .val (.ref ar)] [(.ref u8)]
  refine st101 _ ?_
  refine g_acmp_n B W101 (d_jdk_42_method_18_4) rfl rfl (XT.aa_ne_f rfl) ?_
  show Go p.tables e below _ T101 (mkF m 7 #[.val (.ref u8), .val (.int 0), .val (.ref ar)] [])
  refine g_iload_n B W101 (d_jdk_42_method_18_7) rfl ?_
  refine g_aload_n B W101 (d_jdk_42_method_18_8) rfl rfl ?_
  refine g_iconst B W101 (d_jdk_42_method_18_9) (v := 1) (by decide) ?_
  obtain ⟨T102, h102, v102, W102, Q102, st102⟩ := x_static B W101 [(.int 0), (.ref ar), (.int 1)] (c_enc8 l Z a0 hw ar kb h0 A1 E1) (by simp) (d_jdk_42_method_18_10) (tw hw 42 rfl) (tw hw 43 rfl) (tw hw 4 rfl) (tw hw 44 rfl) (by decide) (lenOf pd__B_BZ__B rfl) #[.val (.ref u8), .val (.int 0), .val (.ref ar)] [] rfl 0 rfl (by decide) (by decide) (by decide) (by decide)
  obtain ⟨b102, rfl, K102, A102⟩ := Q102
  have s103 := K102.1
  refine st102 _ ?_
  exact r_a B W102 rfl rfl rfl (d_jdk_42_method_18_13) (by decide) (by decide) ⟨_, rfl, ((Keep.refl h0 []).trans K102 all0), A102⟩
theorem ef_coder (m : MethodId) (a1 : Addr) (cz : Int32) : entryFrame m #[(.ref a1)] 1 = mkF m 0 #[.val (.ref a1)] [] := by first | (simp [entryFrame, mkF, argsToLocals, Value.category]; done) | rfl
def Q_coder (Z : State) (a1 : Addr) (cz : Int32) (h0 : Heap) (v : Option Value) (h : Heap) : Prop := v = some (.int 0) ∧ h0 = h
set_option maxRecDepth 65536 in
set_option maxHeartbeats 40000000 in
theorem c_coder (l : Launch) (Z : State) (a0 : Array Value) (hw : ∀ d ∈ tables_1, d.before a0 Z = true) (a1 : Addr) (cz : Int32) (h0 : Heap) (Scs : Sta Z Z.heap "java/lang/String" "COMPACT_STRINGS" "Z" (.int cz)) (hcz : ¬ cz = 0) (F1 : Fld Z h0 a1 "java/lang/String" "coder" "B" (.int 0)) :
    Con l Z (⟨"java/lang/String", "coder", "()B"⟩ : MethodName) jdk_42_method_152_code 1 (Option.some FieldType.byte) [] ({ frames := 0, cells := 0, slots := 0, locals := 0 } : Room) #[(.ref a1)] h0 (Q_coder Z a1 cz h0) [] := by
  refine Con.of (plainFor_of_name pn_java_lang_String) ?_
  intro p e s m below meth c T0 B W0
  refine Go.cast (ef_coder m a1 cz ) ?_
  obtain ⟨T101, W101, st101⟩ := x_gets B W0 (host := "") (d_jdk_42_method_152_0) (Or.inl (tw hw 34 rfl)) Via.refl Scs #[.val (.ref a1)] []
  refine st101 _ ?_
  refine g_if_n B W101 (d_jdk_42_method_152_3) (XT.i0_eq_f hcz) ?_
  show Go p.tables e below _ T101 (mkF m 6 #[.val (.ref a1)] [])
  refine g_aload_n B W101 (d_jdk_42_method_152_6) rfl rfl ?_
  obtain ⟨T102, W102, st102⟩ := x_get B W101 (host := "") (d_jdk_42_method_152_7) (Or.inl (tw hw 35 rfl)) Via.refl F1 #[.val (.ref a1)] []
  refine st102 _ ?_
  refine g_goto B W102 (d_jdk_42_method_152_10) (pc' := 14) (by decide) ?_
  show Go p.tables e below _ T102 (mkF m 14 #[.val (.ref a1)] [(.int 0)])
  exact r_n B W102 (t := .byte) rfl (by simp) (d_jdk_42_method_152_14) (by decide) (by decide) ⟨rfl, rfl⟩
theorem ef_getBytes (m : MethodId) (a1 : Addr) (ar : Addr) (kb : ClassId) (u8 : Addr) (cz : Int32) : entryFrame m #[(.ref a1), (.ref u8)] 2 = mkF m 0 #[.val (.ref a1), .val (.ref u8)] [] := by first | (simp [entryFrame, mkF, argsToLocals, Value.category]; done) | rfl
def Q_getBytes (Z : State) (a1 : Addr) (ar : Addr) (kb : ClassId) (u8 : Addr) (cz : Int32) (h0 : Heap) (v : Option Value) (h : Heap) : Prop := ∃ b, v = some (.ref b) ∧ Keep h0 h [] ∧ Arv Z h b kb .byte 0 [] (.int 0)
set_option maxRecDepth 65536 in
set_option maxHeartbeats 40000000 in
theorem c_getBytes (l : Launch) (Z : State) (a0 : Array Value) (hw : ∀ d ∈ tables_1, d.before a0 Z = true) (a1 : Addr) (ar : Addr) (kb : ClassId) (u8 : Addr) (cz : Int32) (h0 : Heap) (E0 : Exa Z h0 a1 "java/lang/String") (F1 : Fld Z h0 a1 "java/lang/String" "value" "[B" (.ref ar)) (F2 : Fld Z h0 a1 "java/lang/String" "coder" "B" (.int 0)) (A1 : Arv Z h0 ar kb .byte 0 [] (.int 0)) (E1 : Exa Z h0 ar "[B") (Su8 : Sta Z Z.heap "java/nio/charset/StandardCharsets" "UTF_8" "Ljava/nio/charset/Charset;" (.ref u8)) (Sin : Sta Z Z.heap "sun/nio/cs/UTF_8" "INSTANCE" "Lsun/nio/cs/UTF_8;" (.ref u8)) (Scs : Sta Z Z.heap "java/lang/String" "COMPACT_STRINGS" "Z" (.int cz)) (hcz : ¬ cz = 0) :
    Con l Z (⟨"java/lang/String", "getBytes", "(Ljava/nio/charset/Charset;)[B"⟩ : MethodName) jdk_42_method_64_code 2 (Option.some (FieldType.array FieldType.byte)) [] ({ frames := 4, cells := 1, slots := 0, locals := 64 } : Room) #[(.ref a1), (.ref u8)] h0 (Q_getBytes Z a1 ar kb u8 cz h0) [] := by
  refine Con.of (plainFor_of_name pn_java_lang_String) ?_
  intro p e s m below meth c T0 B W0
  refine Go.cast (ef_getBytes m a1 ar kb u8 cz ) ?_
  refine g_aload_n B W0 (d_jdk_42_method_64_0) rfl rfl ?_
  refine g_ifnonnull_y B W0 (d_jdk_42_method_64_1) (pc' := 12) (by decide) ?_
  show Go p.tables e below _ T0 (mkF m 12 #[.val (.ref a1), .val (.ref u8)] [])
  refine g_aload_n B W0 (d_jdk_42_method_64_12) rfl rfl ?_
  refine g_aload_n B W0 (d_jdk_42_method_64_13) rfl rfl ?_
  obtain ⟨T101, h101, v101, W101, Q101, st101⟩ := x_virtual B W0 (b := a1) [] (c_coder l Z a0 hw a1 cz h0 Scs hcz F2) (by simp) E0 (d_jdk_42_method_64_14) (tw hw 29 rfl) (tw hw 30 rfl) (tw hw 32 rfl) (tw hw 31 rfl) (tw hw 4 rfl) (tw hw 33 rfl) (by decide) (lenOf pd___B rfl) #[.val (.ref a1), .val (.ref u8)] [(.ref u8)] rfl 1 rfl (by decide) (by decide) (by decide) (by decide)
  obtain ⟨rfl, rfl⟩ := Q101
  refine st101 _ ?_
  refine g_aload_n B W101 (d_jdk_42_method_64_17) rfl rfl ?_
  obtain ⟨T102, W102, st102⟩ := x_get B W101 (host := "") (d_jdk_42_method_64_18) (Or.inl (tw hw 36 rfl)) Via.refl F1 #[.val (.ref a1), .val (.ref u8)] [(.int 0), (.ref u8)]
  refine st102 _ ?_
  obtain ⟨T103, h103, v103, W103, Q103, st103⟩ := x_static B W102 [(.ref u8), (.int 0), (.ref ar)] (c_enc l Z a0 hw ar kb u8 h0 A1 E1 Su8 Sin) (by simp) (d_jdk_42_method_64_21) (tw hw 37 rfl) (tw hw 38 rfl) (tw hw 4 rfl) (tw hw 39 rfl) (by decide) (lenOf pd__Ljava_nio_charset_Charset_B_B__B rfl) #[.val (.ref a1), .val (.ref u8)] [] rfl 0 rfl (by decide) (by decide) (by decide) (by decide)
  obtain ⟨b103, rfl, K103, A103⟩ := Q103
  have s104 := K103.1
  refine st103 _ ?_
  exact r_a B W103 rfl rfl rfl (d_jdk_42_method_64_24) (by decide) (by decide) ⟨_, rfl, ((Keep.refl h0 []).trans K103 all0), A103⟩
theorem ef_reqNN (m : MethodId) (a1 : Addr) (a2 : Addr) : entryFrame m #[(.ref a1), (.ref a2)] 2 = mkF m 0 #[.val (.ref a1), .val (.ref a2)] [] := by first | (simp [entryFrame, mkF, argsToLocals, Value.category]; done) | rfl
def Q_reqNN (Z : State) (a1 : Addr) (a2 : Addr) (h0 : Heap) (v : Option Value) (h : Heap) : Prop := v = some (.ref a1) ∧ h0 = h
set_option maxRecDepth 65536 in
set_option maxHeartbeats 40000000 in
theorem c_reqNN (l : Launch) (Z : State) (a0 : Array Value) (hw : ∀ d ∈ tables_1, d.before a0 Z = true) (a1 : Addr) (a2 : Addr) (h0 : Heap) :
    Con l Z (⟨"java/util/Objects", "requireNonNull", "(Ljava/lang/Object;Ljava/lang/String;)Ljava/lang/Object;"⟩ : MethodName) jdk_31_method_11_code 2 (Option.some (FieldType.object "java/lang/Object")) [] ({ frames := 0, cells := 0, slots := 0, locals := 0 } : Room) #[(.ref a1), (.ref a2)] h0 (Q_reqNN Z a1 a2 h0) [] := by
  refine Con.of (plainFor_of_name pn_java_util_Objects) ?_
  intro p e s m below meth c T0 B W0
  refine Go.cast (ef_reqNN m a1 a2 ) ?_
  refine g_aload_n B W0 (d_jdk_31_method_11_0) rfl rfl ?_
  refine g_ifnonnull_y B W0 (d_jdk_31_method_11_1) (pc' := 13) (by decide) ?_
  show Go p.tables e below _ T0 (mkF m 13 #[.val (.ref a1), .val (.ref a2)] [])
  refine g_aload_n B W0 (d_jdk_31_method_11_13) rfl rfl ?_
  exact r_a B W0 rfl rfl rfl (d_jdk_31_method_11_14) (by decide) (by decide) ⟨rfl, rfl⟩
theorem ef_reqU8 (m : MethodId) (mg : Addr) (nn : Int32) (a1 : Addr) (ar : Addr) (kb : ClassId) (u8 : Addr) (cz : Int32) : entryFrame m #[(.ref mg), (.ref a1), (.int nn)] 3 = mkF m 0 #[.val (.ref mg), .val (.ref a1), .val (.int nn)] [] := by first | (simp [entryFrame, mkF, argsToLocals, Value.category]; done) | rfl
def Q_reqU8 (Z : State) (mg : Addr) (nn : Int32) (a1 : Addr) (ar : Addr) (kb : ClassId) (u8 : Addr) (cz : Int32) (h0 : Heap) (v : Option Value) (h : Heap) : Prop := v = some (.ref a1) ∧ Keep h0 h []
set_option maxRecDepth 65536 in
set_option maxHeartbeats 40000000 in
theorem c_reqU8 (l : Launch) (Z : State) (a0 : Array Value) (hw : ∀ d ∈ tables_1, d.before a0 Z = true) (mg : Addr) (nn : Int32) (a1 : Addr) (ar : Addr) (kb : ClassId) (u8 : Addr) (cz : Int32) (h0 : Heap) (hnn : ¬ nn < 0) (E0 : Exa Z h0 a1 "java/lang/String") (F1 : Fld Z h0 a1 "java/lang/String" "value" "[B" (.ref ar)) (F2 : Fld Z h0 a1 "java/lang/String" "coder" "B" (.int 0)) (A1 : Arv Z h0 ar kb .byte 0 [] (.int 0)) (E1 : Exa Z h0 ar "[B") (Su8 : Sta Z Z.heap "java/nio/charset/StandardCharsets" "UTF_8" "Ljava/nio/charset/Charset;" (.ref u8)) (Sin : Sta Z Z.heap "sun/nio/cs/UTF_8" "INSTANCE" "Lsun/nio/cs/UTF_8;" (.ref u8)) (Scs : Sta Z Z.heap "java/lang/String" "COMPACT_STRINGS" "Z" (.int cz)) (hcz : ¬ cz = 0) :
    Con l Z (⟨"com/example/outbox_relay/outboxrelay/OutboxMessage", "requireUtf8AtMost", "(Ljava/lang/String;Ljava/lang/String;I)Ljava/lang/String;"⟩ : MethodName) prog_1_method_12_code 3 (Option.some (FieldType.object "java/lang/String")) [] ({ frames := 5, cells := 1, slots := 0, locals := 77 } : Room) #[(.ref mg), (.ref a1), (.int nn)] h0 (Q_reqU8 Z mg nn a1 ar kb u8 cz h0) [] := by
  refine Con.of (plainFor_of_name pn_com_example_outbox_relay_outboxrelay_OutboxMessage) ?_
  intro p e s m below meth c T0 B W0
  refine Go.cast (ef_reqU8 m mg nn a1 ar kb u8 cz ) ?_
  refine g_aload_n B W0 (d_prog_1_method_12_0) rfl rfl ?_
  refine g_aload_n B W0 (d_prog_1_method_12_1) rfl rfl ?_
  obtain ⟨T101, h101, v101, W101, Q101, st101⟩ := x_static B W0 [(.ref a1), (.ref mg)] (c_reqNN l Z a0 hw a1 mg h0) (by simp) (d_prog_1_method_12_2) (tw hw 18 rfl) (tw hw 19 rfl) (tw hw 20 rfl) (tw hw 21 rfl) (by decide) (lenOf pd__Ljava_lang_Object_Ljava_lang_String__Ljava_lang_Object_ rfl) #[.val (.ref mg), .val (.ref a1), .val (.int nn)] [] rfl 0 rfl (by decide) (by decide) (by decide) (by decide)
  obtain ⟨rfl, rfl⟩ := Q101
  refine st101 _ ?_
  refine g_pop B W101 (d_prog_1_method_12_5) rfl ?_
  refine g_aload_n B W101 (d_prog_1_method_12_6) rfl rfl ?_
  obtain ⟨T102, W102, st102⟩ := x_gets B W101 (host := "") (d_prog_1_method_12_7) (Or.inl (tw hw 22 rfl)) Via.refl Su8 #[.val (.ref mg), .val (.ref a1), .val (.int nn)] [(.ref a1)]
  refine st102 _ ?_
  obtain ⟨T103, h103, v103, W103, Q103, st103⟩ := x_virtual B W102 (b := a1) [(.ref u8)] (c_getBytes l Z a0 hw a1 ar kb u8 cz h0 E0 F1 F2 A1 E1 Su8 Sin Scs hcz) (by simp) E0 (d_prog_1_method_12_10) (tw hw 24 rfl) (tw hw 25 rfl) (tw hw 27 rfl) (tw hw 26 rfl) (tw hw 4 rfl) (tw hw 28 rfl) (by decide) (lenOf pd__Ljava_nio_charset_Charset___B rfl) #[.val (.ref mg), .val (.ref a1), .val (.int nn)] [] rfl 0 rfl (by decide) (by decide) (by decide) (by decide)
  obtain ⟨b103, rfl, K103, A103⟩ := Q103
  have s104 := K103.1
  refine st103 _ ?_
  refine g_aalen B W103 (d_prog_1_method_12_13) A103 ?_
  refine g_iload_n B W103 (d_prog_1_method_12_14) rfl ?_
  refine g_icmp_y B W103 (d_prog_1_method_12_15) (XT.ii_le_t hnn) (pc' := 33) (by decide) ?_
  show Go p.tables e below _ T103 (mkF m 33 #[.val (.ref mg), .val (.ref a1), .val (.int nn)] [])
  refine g_aload_n B W103 (d_prog_1_method_12_33) rfl rfl ?_
  exact r_a B W103 rfl rfl rfl (d_prog_1_method_12_34) (by decide) (by decide) ⟨rfl, ((Keep.refl h0 []).trans K103 all0)⟩
theorem ef_om6 (m : MethodId) (a1 : Addr) (s1 : Addr) (s2 : Addr) (s3 : Addr) (p4 : Value) (p5 : Value) (p6 : Value) (r4 : p4.isRef = true) (r5 : p5.isRef = true) (r6 : p6.isRef = true) : entryFrame m #[(.ref a1), (.ref s1), (.ref s2), (.ref s3), p4, p5, p6] 7 = mkF m 0 #[.val (.ref a1), .val (.ref s1), .val (.ref s2), .val (.ref s3), .val p4, .val p5, .val p6] [] := by
  (cases p4 <;> try cases r4)
  all_goals (cases p5 <;> try cases r5)
  all_goals (cases p6 <;> try cases r6)
  all_goals first | (simp [entryFrame, mkF, argsToLocals, Value.category]; done) | rfl
def Q_om6 (Z : State) (a1 : Addr) (s1 : Addr) (s2 : Addr) (s3 : Addr) (p4 : Value) (p5 : Value) (p6 : Value) (h0 : Heap) (v : Option Value) (h : Heap) : Prop := v = none ∧ Keep h0 h [a1] ∧ Exa Z h a1 "com/example/outbox_relay/outboxrelay/OutboxMessage" ∧ Fld Z h a1 "com/example/outbox_relay/outboxrelay/OutboxMessage" "exchange" "Ljava/lang/String;" (.ref s1) ∧ Fld Z h a1 "com/example/outbox_relay/outboxrelay/OutboxMessage" "routingKey" "Ljava/lang/String;" (.ref s2) ∧ Fld Z h a1 "com/example/outbox_relay/outboxrelay/OutboxMessage" "payload" "Ljava/lang/String;" (.ref s3) ∧ Fld Z h a1 "com/example/outbox_relay/outboxrelay/OutboxMessage" "messageId" "Ljava/lang/String;" p4 ∧ Fld Z h a1 "com/example/outbox_relay/outboxrelay/OutboxMessage" "businessModule" "Ljava/lang/String;" p5 ∧ Fld Z h a1 "com/example/outbox_relay/outboxrelay/OutboxMessage" "businessKey" "Ljava/lang/String;" p6
set_option maxRecDepth 65536 in
set_option maxHeartbeats 40000000 in
theorem c_om6 (l : Launch) (Z : State) (a0 : Array Value) (hw : ∀ d ∈ tables_1, d.before a0 Z = true) (a1 : Addr) (s1 : Addr) (s2 : Addr) (s3 : Addr) (p4 : Value) (p5 : Value) (p6 : Value) (h0 : Heap) (r4 : p4.isRef = true) (r5 : p5.isRef = true) (r6 : p6.isRef = true) (E1 : Exa Z h0 a1 "com/example/outbox_relay/outboxrelay/OutboxMessage") (F0 : Fld Z h0 a1 "com/example/outbox_relay/outboxrelay/OutboxMessage" "exchange" "Ljava/lang/String;" .null) (F1 : Fld Z h0 a1 "com/example/outbox_relay/outboxrelay/OutboxMessage" "routingKey" "Ljava/lang/String;" .null) (F2 : Fld Z h0 a1 "com/example/outbox_relay/outboxrelay/OutboxMessage" "payload" "Ljava/lang/String;" .null) (F3 : Fld Z h0 a1 "com/example/outbox_relay/outboxrelay/OutboxMessage" "messageId" "Ljava/lang/String;" .null) (F4 : Fld Z h0 a1 "com/example/outbox_relay/outboxrelay/OutboxMessage" "businessModule" "Ljava/lang/String;" .null) (F5 : Fld Z h0 a1 "com/example/outbox_relay/outboxrelay/OutboxMessage" "businessKey" "Ljava/lang/String;" .null) (g1 : Z.heap.size ≤ a1) :
    Con l Z (⟨"com/example/outbox_relay/outboxrelay/OutboxMessage", "<init>", "(Ljava/lang/String;Ljava/lang/String;Ljava/lang/String;Ljava/lang/String;Ljava/lang/String;Ljava/lang/String;)V"⟩ : MethodName) prog_1_method_2_code 7 (Option.none : Option FieldType) [] ({ frames := 1, cells := 0, slots := 0, locals := 12 } : Room) #[(.ref a1), (.ref s1), (.ref s2), (.ref s3), p4, p5, p6] h0 (Q_om6 Z a1 s1 s2 s3 p4 p5 p6 h0) [] := by
  refine Con.of (plainFor_of_name pn_com_example_outbox_relay_outboxrelay_OutboxMessage) ?_
  intro p e s m below meth c T0 B W0
  refine Go.cast (ef_om6 m a1 s1 s2 s3 p4 p5 p6 r4 r5 r6) ?_
  have l_a1 := nlt E1.lt
  refine g_aload_n B W0 (d_prog_1_method_2_0) rfl rfl ?_
  obtain ⟨T101, W101, st101⟩ := x_init B W0 (d_prog_1_method_2_1) (tw hw 67 rfl) (tw hw 68 rfl) (tw hw 69 rfl) a1 #[.val (.ref a1), .val (.ref s1), .val (.ref s2), .val (.ref s3), .val p4, .val p5, .val p6] [] rfl 0 rfl (by decide) (by decide)
  refine st101 _ ?_
  refine g_aload_n B W101 (d_prog_1_method_2_4) rfl rfl ?_
  refine g_aload_n B W101 (d_prog_1_method_2_5) rfl rfl ?_
  obtain ⟨T102, h102, W102, K102, R102, F102, E102, st102⟩ := x_put B W101 (d_prog_1_method_2_6) ((tw hw 70 rfl)) Via.refl F0 E1 (Or.inr ⟨ (tw hw 71 rfl), rfl, rfl⟩) (tw hw 1 rfl) (ty := (.object "java/lang/String")) (v := (.ref s1)) (v' := (.ref s1)) (by decide) rfl rfl (by omega) (Or.inl (by decide)) #[.val (.ref a1), .val (.ref s1), .val (.ref s2), .val (.ref s3), .val p4, .val p5, .val p6] []
  refine st102 _ ?_
  have f103 := F1.other R102 (Or.inr (slot_ne (Or.inr (tw hw 73 rfl)) (Or.inr (tw hw 71 rfl)) (by decide) (t := (.object "java/lang/String")) (t' := (.object "java/lang/String")) (by decide) (by decide)))
  have f104 := F2.other R102 (Or.inr (slot_ne (Or.inr (tw hw 75 rfl)) (Or.inr (tw hw 71 rfl)) (by decide) (t := (.object "java/lang/String")) (t' := (.object "java/lang/String")) (by decide) (by decide)))
  have f105 := F3.other R102 (Or.inr (slot_ne (Or.inr (tw hw 77 rfl)) (Or.inr (tw hw 71 rfl)) (by decide) (t := (.object "java/lang/String")) (t' := (.object "java/lang/String")) (by decide) (by decide)))
  have f106 := F4.other R102 (Or.inr (slot_ne (Or.inr (tw hw 79 rfl)) (Or.inr (tw hw 71 rfl)) (by decide) (t := (.object "java/lang/String")) (t' := (.object "java/lang/String")) (by decide) (by decide)))
  have f107 := F5.other R102 (Or.inr (slot_ne (Or.inr (tw hw 81 rfl)) (Or.inr (tw hw 71 rfl)) (by decide) (t := (.object "java/lang/String")) (t' := (.object "java/lang/String")) (by decide) (by decide)))
  have s108 := K102.1
  refine g_aload_n B W102 (d_prog_1_method_2_9) rfl rfl ?_
  refine g_aload_n B W102 (d_prog_1_method_2_10) rfl rfl ?_
  obtain ⟨T109, h109, W109, K109, R109, F109, E109, st109⟩ := x_put B W102 (d_prog_1_method_2_11) ((tw hw 72 rfl)) Via.refl f103 E102 (Or.inr ⟨ (tw hw 73 rfl), rfl, rfl⟩) (tw hw 1 rfl) (ty := (.object "java/lang/String")) (v := (.ref s2)) (v' := (.ref s2)) (by decide) rfl rfl (by omega) (Or.inl (by decide)) #[.val (.ref a1), .val (.ref s1), .val (.ref s2), .val (.ref s3), .val p4, .val p5, .val p6] []
  refine st109 _ ?_
  have f110 := F102.other R109 (Or.inr (slot_ne (Or.inr (tw hw 71 rfl)) (Or.inr (tw hw 73 rfl)) (by decide) (t := (.object "java/lang/String")) (t' := (.object "java/lang/String")) (by decide) (by decide)))
  have f111 := f104.other R109 (Or.inr (slot_ne (Or.inr (tw hw 75 rfl)) (Or.inr (tw hw 73 rfl)) (by decide) (t := (.object "java/lang/String")) (t' := (.object "java/lang/String")) (by decide) (by decide)))
  have f112 := f105.other R109 (Or.inr (slot_ne (Or.inr (tw hw 77 rfl)) (Or.inr (tw hw 73 rfl)) (by decide) (t := (.object "java/lang/String")) (t' := (.object "java/lang/String")) (by decide) (by decide)))
  have f113 := f106.other R109 (Or.inr (slot_ne (Or.inr (tw hw 79 rfl)) (Or.inr (tw hw 73 rfl)) (by decide) (t := (.object "java/lang/String")) (t' := (.object "java/lang/String")) (by decide) (by decide)))
  have f114 := f107.other R109 (Or.inr (slot_ne (Or.inr (tw hw 81 rfl)) (Or.inr (tw hw 73 rfl)) (by decide) (t := (.object "java/lang/String")) (t' := (.object "java/lang/String")) (by decide) (by decide)))
  have s115 := K109.1
  refine g_aload_n B W109 (d_prog_1_method_2_14) rfl rfl ?_
  refine g_aload_n B W109 (d_prog_1_method_2_15) rfl rfl ?_
  obtain ⟨T116, h116, W116, K116, R116, F116, E116, st116⟩ := x_put B W109 (d_prog_1_method_2_16) ((tw hw 74 rfl)) Via.refl f111 E109 (Or.inr ⟨ (tw hw 75 rfl), rfl, rfl⟩) (tw hw 1 rfl) (ty := (.object "java/lang/String")) (v := (.ref s3)) (v' := (.ref s3)) (by decide) rfl rfl (by omega) (Or.inl (by decide)) #[.val (.ref a1), .val (.ref s1), .val (.ref s2), .val (.ref s3), .val p4, .val p5, .val p6] []
  refine st116 _ ?_
  have f117 := f110.other R116 (Or.inr (slot_ne (Or.inr (tw hw 71 rfl)) (Or.inr (tw hw 75 rfl)) (by decide) (t := (.object "java/lang/String")) (t' := (.object "java/lang/String")) (by decide) (by decide)))
  have f118 := F109.other R116 (Or.inr (slot_ne (Or.inr (tw hw 73 rfl)) (Or.inr (tw hw 75 rfl)) (by decide) (t := (.object "java/lang/String")) (t' := (.object "java/lang/String")) (by decide) (by decide)))
  have f119 := f112.other R116 (Or.inr (slot_ne (Or.inr (tw hw 77 rfl)) (Or.inr (tw hw 75 rfl)) (by decide) (t := (.object "java/lang/String")) (t' := (.object "java/lang/String")) (by decide) (by decide)))
  have f120 := f113.other R116 (Or.inr (slot_ne (Or.inr (tw hw 79 rfl)) (Or.inr (tw hw 75 rfl)) (by decide) (t := (.object "java/lang/String")) (t' := (.object "java/lang/String")) (by decide) (by decide)))
  have f121 := f114.other R116 (Or.inr (slot_ne (Or.inr (tw hw 81 rfl)) (Or.inr (tw hw 75 rfl)) (by decide) (t := (.object "java/lang/String")) (t' := (.object "java/lang/String")) (by decide) (by decide)))
  have s122 := K116.1
  refine g_aload_n B W116 (d_prog_1_method_2_19) rfl rfl ?_
  refine g_aload B W116 (d_prog_1_method_2_20) rfl r4 ?_
  obtain ⟨T123, h123, W123, K123, R123, F123, E123, st123⟩ := x_put B W116 (d_prog_1_method_2_22) ((tw hw 76 rfl)) Via.refl f119 E116 (Or.inr ⟨ (tw hw 77 rfl), rfl, rfl⟩) (tw hw 1 rfl) (ty := (.object "java/lang/String")) (v := p4) (v' := p4) (by decide) (nar_ref rfl) (own_fr rfl r4) (by omega) (Or.inl (by decide)) #[.val (.ref a1), .val (.ref s1), .val (.ref s2), .val (.ref s3), .val p4, .val p5, .val p6] []
  refine st123 _ ?_
  have f124 := f117.other R123 (Or.inr (slot_ne (Or.inr (tw hw 71 rfl)) (Or.inr (tw hw 77 rfl)) (by decide) (t := (.object "java/lang/String")) (t' := (.object "java/lang/String")) (by decide) (by decide)))
  have f125 := f118.other R123 (Or.inr (slot_ne (Or.inr (tw hw 73 rfl)) (Or.inr (tw hw 77 rfl)) (by decide) (t := (.object "java/lang/String")) (t' := (.object "java/lang/String")) (by decide) (by decide)))
  have f126 := F116.other R123 (Or.inr (slot_ne (Or.inr (tw hw 75 rfl)) (Or.inr (tw hw 77 rfl)) (by decide) (t := (.object "java/lang/String")) (t' := (.object "java/lang/String")) (by decide) (by decide)))
  have f127 := f120.other R123 (Or.inr (slot_ne (Or.inr (tw hw 79 rfl)) (Or.inr (tw hw 77 rfl)) (by decide) (t := (.object "java/lang/String")) (t' := (.object "java/lang/String")) (by decide) (by decide)))
  have f128 := f121.other R123 (Or.inr (slot_ne (Or.inr (tw hw 81 rfl)) (Or.inr (tw hw 77 rfl)) (by decide) (t := (.object "java/lang/String")) (t' := (.object "java/lang/String")) (by decide) (by decide)))
  have s129 := K123.1
  refine g_aload_n B W123 (d_prog_1_method_2_25) rfl rfl ?_
  refine g_aload B W123 (d_prog_1_method_2_26) rfl r5 ?_
  obtain ⟨T130, h130, W130, K130, R130, F130, E130, st130⟩ := x_put B W123 (d_prog_1_method_2_28) ((tw hw 78 rfl)) Via.refl f127 E123 (Or.inr ⟨ (tw hw 79 rfl), rfl, rfl⟩) (tw hw 1 rfl) (ty := (.object "java/lang/String")) (v := p5) (v' := p5) (by decide) (nar_ref rfl) (own_fr rfl r5) (by omega) (Or.inl (by decide)) #[.val (.ref a1), .val (.ref s1), .val (.ref s2), .val (.ref s3), .val p4, .val p5, .val p6] []
  refine st130 _ ?_
  have f131 := f124.other R130 (Or.inr (slot_ne (Or.inr (tw hw 71 rfl)) (Or.inr (tw hw 79 rfl)) (by decide) (t := (.object "java/lang/String")) (t' := (.object "java/lang/String")) (by decide) (by decide)))
  have f132 := f125.other R130 (Or.inr (slot_ne (Or.inr (tw hw 73 rfl)) (Or.inr (tw hw 79 rfl)) (by decide) (t := (.object "java/lang/String")) (t' := (.object "java/lang/String")) (by decide) (by decide)))
  have f133 := f126.other R130 (Or.inr (slot_ne (Or.inr (tw hw 75 rfl)) (Or.inr (tw hw 79 rfl)) (by decide) (t := (.object "java/lang/String")) (t' := (.object "java/lang/String")) (by decide) (by decide)))
  have f134 := F123.other R130 (Or.inr (slot_ne (Or.inr (tw hw 77 rfl)) (Or.inr (tw hw 79 rfl)) (by decide) (t := (.object "java/lang/String")) (t' := (.object "java/lang/String")) (by decide) (by decide)))
  have f135 := f128.other R130 (Or.inr (slot_ne (Or.inr (tw hw 81 rfl)) (Or.inr (tw hw 79 rfl)) (by decide) (t := (.object "java/lang/String")) (t' := (.object "java/lang/String")) (by decide) (by decide)))
  have s136 := K130.1
  refine g_aload_n B W130 (d_prog_1_method_2_31) rfl rfl ?_
  refine g_aload B W130 (d_prog_1_method_2_32) rfl r6 ?_
  obtain ⟨T137, h137, W137, K137, R137, F137, E137, st137⟩ := x_put B W130 (d_prog_1_method_2_34) ((tw hw 80 rfl)) Via.refl f135 E130 (Or.inr ⟨ (tw hw 81 rfl), rfl, rfl⟩) (tw hw 1 rfl) (ty := (.object "java/lang/String")) (v := p6) (v' := p6) (by decide) (nar_ref rfl) (own_fr rfl r6) (by omega) (Or.inl (by decide)) #[.val (.ref a1), .val (.ref s1), .val (.ref s2), .val (.ref s3), .val p4, .val p5, .val p6] []
  refine st137 _ ?_
  have f138 := f131.other R137 (Or.inr (slot_ne (Or.inr (tw hw 71 rfl)) (Or.inr (tw hw 81 rfl)) (by decide) (t := (.object "java/lang/String")) (t' := (.object "java/lang/String")) (by decide) (by decide)))
  have f139 := f132.other R137 (Or.inr (slot_ne (Or.inr (tw hw 73 rfl)) (Or.inr (tw hw 81 rfl)) (by decide) (t := (.object "java/lang/String")) (t' := (.object "java/lang/String")) (by decide) (by decide)))
  have f140 := f133.other R137 (Or.inr (slot_ne (Or.inr (tw hw 75 rfl)) (Or.inr (tw hw 81 rfl)) (by decide) (t := (.object "java/lang/String")) (t' := (.object "java/lang/String")) (by decide) (by decide)))
  have f141 := f134.other R137 (Or.inr (slot_ne (Or.inr (tw hw 77 rfl)) (Or.inr (tw hw 81 rfl)) (by decide) (t := (.object "java/lang/String")) (t' := (.object "java/lang/String")) (by decide) (by decide)))
  have f142 := F130.other R137 (Or.inr (slot_ne (Or.inr (tw hw 79 rfl)) (Or.inr (tw hw 81 rfl)) (by decide) (t := (.object "java/lang/String")) (t' := (.object "java/lang/String")) (by decide) (by decide)))
  have s143 := K137.1
  exact r_v B W137 (d_prog_1_method_2_37) (by decide) (by decide) ⟨rfl, (((((((Keep.refl h0 [a1]).trans K102 (allS (Or.inl (by simp)) all0)).trans K109 (allS (Or.inl (by simp)) all0)).trans K116 (allS (Or.inl (by simp)) all0)).trans K123 (allS (Or.inl (by simp)) all0)).trans K130 (allS (Or.inl (by simp)) all0)).trans K137 (allS (Or.inl (by simp)) all0)), E137, f138, f139, f140, f141, f142, F137⟩
theorem ef_om3 (m : MethodId) (a1 : Addr) (s1 : Addr) (t1 : Addr) (kb1 : ClassId) (s2 : Addr) (t2 : Addr) (kb2 : ClassId) (s3 : Addr) (t3 : Addr) (kb3 : ClassId) (u8 : Addr) (cz : Int32) : entryFrame m #[(.ref a1), (.ref s1), (.ref s2), (.ref s3)] 4 = mkF m 0 #[.val (.ref a1), .val (.ref s1), .val (.ref s2), .val (.ref s3)] [] := by first | (simp [entryFrame, mkF, argsToLocals, Value.category]; done) | rfl
def Q_om3 (Z : State) (a1 : Addr) (s1 : Addr) (t1 : Addr) (kb1 : ClassId) (s2 : Addr) (t2 : Addr) (kb2 : ClassId) (s3 : Addr) (t3 : Addr) (kb3 : ClassId) (u8 : Addr) (cz : Int32) (h0 : Heap) (v : Option Value) (h : Heap) : Prop := v = none ∧ Keep h0 h [a1] ∧ Exa Z h a1 "com/example/outbox_relay/outboxrelay/OutboxMessage" ∧ Fld Z h a1 "com/example/outbox_relay/outboxrelay/OutboxMessage" "exchange" "Ljava/lang/String;" (.ref s1) ∧ Fld Z h a1 "com/example/outbox_relay/outboxrelay/OutboxMessage" "routingKey" "Ljava/lang/String;" (.ref s2) ∧ Fld Z h a1 "com/example/outbox_relay/outboxrelay/OutboxMessage" "payload" "Ljava/lang/String;" (.ref s3) ∧ Fld Z h a1 "com/example/outbox_relay/outboxrelay/OutboxMessage" "messageId" "Ljava/lang/String;" .null ∧ Fld Z h a1 "com/example/outbox_relay/outboxrelay/OutboxMessage" "businessModule" "Ljava/lang/String;" .null ∧ Fld Z h a1 "com/example/outbox_relay/outboxrelay/OutboxMessage" "businessKey" "Ljava/lang/String;" .null
set_option maxRecDepth 65536 in
set_option maxHeartbeats 40000000 in
theorem c_om3 (l : Launch) (Z : State) (a0 : Array Value) (hw : ∀ d ∈ tables_1, d.before a0 Z = true) (a1 : Addr) (s1 : Addr) (t1 : Addr) (kb1 : ClassId) (s2 : Addr) (t2 : Addr) (kb2 : ClassId) (s3 : Addr) (t3 : Addr) (kb3 : ClassId) (u8 : Addr) (cz : Int32) (h0 : Heap) (E1 : Exa Z h0 a1 "com/example/outbox_relay/outboxrelay/OutboxMessage") (F0 : Fld Z h0 a1 "com/example/outbox_relay/outboxrelay/OutboxMessage" "exchange" "Ljava/lang/String;" .null) (F1 : Fld Z h0 a1 "com/example/outbox_relay/outboxrelay/OutboxMessage" "routingKey" "Ljava/lang/String;" .null) (F2 : Fld Z h0 a1 "com/example/outbox_relay/outboxrelay/OutboxMessage" "payload" "Ljava/lang/String;" .null) (F3 : Fld Z h0 a1 "com/example/outbox_relay/outboxrelay/OutboxMessage" "messageId" "Ljava/lang/String;" .null) (F4 : Fld Z h0 a1 "com/example/outbox_relay/outboxrelay/OutboxMessage" "businessModule" "Ljava/lang/String;" .null) (F5 : Fld Z h0 a1 "com/example/outbox_relay/outboxrelay/OutboxMessage" "businessKey" "Ljava/lang/String;" .null) (g1 : Z.heap.size ≤ a1) (Es1 : Exa Z h0 s1 "java/lang/String") (Fv1 : Fld Z h0 s1 "java/lang/String" "value" "[B" (.ref t1)) (Fc1 : Fld Z h0 s1 "java/lang/String" "coder" "B" (.int 0)) (At1 : Arv Z h0 t1 kb1 .byte 0 [] (.int 0)) (Et1 : Exa Z h0 t1 "[B") (Es2 : Exa Z h0 s2 "java/lang/String") (Fv2 : Fld Z h0 s2 "java/lang/String" "value" "[B" (.ref t2)) (Fc2 : Fld Z h0 s2 "java/lang/String" "coder" "B" (.int 0)) (At2 : Arv Z h0 t2 kb2 .byte 0 [] (.int 0)) (Et2 : Exa Z h0 t2 "[B") (Es3 : Exa Z h0 s3 "java/lang/String") (Fv3 : Fld Z h0 s3 "java/lang/String" "value" "[B" (.ref t3)) (Fc3 : Fld Z h0 s3 "java/lang/String" "coder" "B" (.int 0)) (At3 : Arv Z h0 t3 kb3 .byte 0 [] (.int 0)) (Et3 : Exa Z h0 t3 "[B") (Su8 : Sta Z Z.heap "java/nio/charset/StandardCharsets" "UTF_8" "Ljava/nio/charset/Charset;" (.ref u8)) (Sin : Sta Z Z.heap "sun/nio/cs/UTF_8" "INSTANCE" "Lsun/nio/cs/UTF_8;" (.ref u8)) (Scs : Sta Z Z.heap "java/lang/String" "COMPACT_STRINGS" "Z" (.int cz)) (hcz : ¬ cz = 0) :
    Con l Z (⟨"com/example/outbox_relay/outboxrelay/OutboxMessage", "<init>", "(Ljava/lang/String;Ljava/lang/String;Ljava/lang/String;)V"⟩ : MethodName) prog_1_method_1_code 4 (Option.none : Option FieldType) [] ({ frames := 6, cells := 9, slots := 116, locals := 94 } : Room) #[(.ref a1), (.ref s1), (.ref s2), (.ref s3)] h0 (Q_om3 Z a1 s1 t1 kb1 s2 t2 kb2 s3 t3 kb3 u8 cz h0) [] := by
  refine Con.of (plainFor_of_name pn_com_example_outbox_relay_outboxrelay_OutboxMessage) ?_
  intro p e s m below meth c T0 B W0
  refine Go.cast (ef_om3 m a1 s1 t1 kb1 s2 t2 kb2 s3 t3 kb3 u8 cz ) ?_
  have l_a1 := nlt E1.lt
  refine g_aload_n B W0 (d_prog_1_method_1_0) rfl rfl ?_
  obtain ⟨T101, h101, b101, W101, K101, st101⟩ := x_ldcS B W0 32 (d_prog_1_method_1_1) (tw hw 14 rfl) (own_wS hw) (own_EL hw) (by decide) (by decide) (by decide) (by decide) #[.val (.ref a1), .val (.ref s1), .val (.ref s2), .val (.ref s3)] [(.ref a1)]
  refine st101 _ ?_
  have s102 := K101.1
  refine g_aload_n B W101 (d_prog_1_method_1_3) rfl rfl ?_
  refine g_sipush B W101 (d_prog_1_method_1_4) (v := 255) (by decide) ?_
  have f103 := (Es1.keep K101)
  have f104 := (Fv1.keep K101 nin0)
  have f105 := (Fc1.keep K101 nin0)
  have f106 := (At1.keep K101 nin0)
  have f107 := (Et1.keep K101)
  obtain ⟨T108, h108, v108, W108, Q108, st108⟩ := x_static B W101 [(.ref b101), (.ref s1), (.int 255)] (c_reqU8 l Z a0 hw b101 255 s1 t1 kb1 u8 cz h101 (by decide) f103 f104 f105 f106 f107 Su8 Sin Scs hcz) (by simp) (d_prog_1_method_1_7) (tw hw 15 rfl) (tw hw 16 rfl) (tw hw 2 rfl) (tw hw 17 rfl) (by decide) (lenOf pd__Ljava_lang_String_Ljava_lang_String_I_Ljava_lang_String_ rfl) #[.val (.ref a1), .val (.ref s1), .val (.ref s2), .val (.ref s3)] [(.ref a1)] rfl 1 rfl (by decide) (by decide) (by decide) (by decide)
  obtain ⟨rfl, K108⟩ := Q108
  have s109 := K108.1
  refine st108 _ ?_
  obtain ⟨T110, h110, b110, W110, K110, st110⟩ := x_ldcS B W108 44 (d_prog_1_method_1_10) (tw hw 61 rfl) (own_wS hw) (own_EL hw) (by decide) (by decide) (by decide) (by decide) #[.val (.ref a1), .val (.ref s1), .val (.ref s2), .val (.ref s3)] [(.ref s1), (.ref a1)]
  refine st110 _ ?_
  have s111 := K110.1
  refine g_aload_n B W110 (d_prog_1_method_1_12) rfl rfl ?_
  refine g_sipush B W110 (d_prog_1_method_1_13) (v := 255) (by decide) ?_
  have f112 := (((Es2.keep K101).keep K108).keep K110)
  have f113 := (((Fv2.keep K101 nin0).keep K108 nin0).keep K110 nin0)
  have f114 := (((Fc2.keep K101 nin0).keep K108 nin0).keep K110 nin0)
  have f115 := (((At2.keep K101 nin0).keep K108 nin0).keep K110 nin0)
  have f116 := (((Et2.keep K101).keep K108).keep K110)
  obtain ⟨T117, h117, v117, W117, Q117, st117⟩ := x_static B W110 [(.ref b110), (.ref s2), (.int 255)] (c_reqU8 l Z a0 hw b110 255 s2 t2 kb2 u8 cz h110 (by decide) f112 f113 f114 f115 f116 Su8 Sin Scs hcz) (by simp) (d_prog_1_method_1_16) (tw hw 15 rfl) (tw hw 16 rfl) (tw hw 2 rfl) (tw hw 17 rfl) (by decide) (lenOf pd__Ljava_lang_String_Ljava_lang_String_I_Ljava_lang_String_ rfl) #[.val (.ref a1), .val (.ref s1), .val (.ref s2), .val (.ref s3)] [(.ref s1), (.ref a1)] rfl 2 rfl (by decide) (by decide) (by decide) (by decide)
  obtain ⟨rfl, K117⟩ := Q117
  have s118 := K117.1
  refine st117 _ ?_
  obtain ⟨T119, h119, b119, W119, K119, st119⟩ := x_ldcS B W117 28 (d_prog_1_method_1_19) (tw hw 62 rfl) (own_wS hw) (own_EL hw) (by decide) (by decide) (by decide) (by decide) #[.val (.ref a1), .val (.ref s1), .val (.ref s2), .val (.ref s3)] [(.ref s2), (.ref s1), (.ref a1)]
  refine st119 _ ?_
  have s120 := K119.1
  refine g_aload_n B W119 (d_prog_1_method_1_21) rfl rfl ?_
  refine g_ldcI B W119 (d_prog_1_method_1_22) (tw hw 63 rfl) ?_
  have f121 := (((((Es3.keep K101).keep K108).keep K110).keep K117).keep K119)
  have f122 := (((((Fv3.keep K101 nin0).keep K108 nin0).keep K110 nin0).keep K117 nin0).keep K119 nin0)
  have f123 := (((((Fc3.keep K101 nin0).keep K108 nin0).keep K110 nin0).keep K117 nin0).keep K119 nin0)
  have f124 := (((((At3.keep K101 nin0).keep K108 nin0).keep K110 nin0).keep K117 nin0).keep K119 nin0)
  have f125 := (((((Et3.keep K101).keep K108).keep K110).keep K117).keep K119)
  obtain ⟨T126, h126, v126, W126, Q126, st126⟩ := x_static B W119 [(.ref b119), (.ref s3), (.int 1048576)] (c_reqU8 l Z a0 hw b119 1048576 s3 t3 kb3 u8 cz h119 (by decide) f121 f122 f123 f124 f125 Su8 Sin Scs hcz) (by simp) (d_prog_1_method_1_24) (tw hw 15 rfl) (tw hw 16 rfl) (tw hw 2 rfl) (tw hw 17 rfl) (by decide) (lenOf pd__Ljava_lang_String_Ljava_lang_String_I_Ljava_lang_String_ rfl) #[.val (.ref a1), .val (.ref s1), .val (.ref s2), .val (.ref s3)] [(.ref s2), (.ref s1), (.ref a1)] rfl 3 rfl (by decide) (by decide) (by decide) (by decide)
  obtain ⟨rfl, K126⟩ := Q126
  have s127 := K126.1
  refine st126 _ ?_
  refine g_aconst_null B W126 (d_prog_1_method_1_27)  ?_
  refine g_aconst_null B W126 (d_prog_1_method_1_28)  ?_
  refine g_aconst_null B W126 (d_prog_1_method_1_29)  ?_
  have f128 := ((((((E1.keep K101).keep K108).keep K110).keep K117).keep K119).keep K126)
  have f129 := ((((((F0.keep K101 nin0).keep K108 nin0).keep K110 nin0).keep K117 nin0).keep K119 nin0).keep K126 nin0)
  have f130 := ((((((F1.keep K101 nin0).keep K108 nin0).keep K110 nin0).keep K117 nin0).keep K119 nin0).keep K126 nin0)
  have f131 := ((((((F2.keep K101 nin0).keep K108 nin0).keep K110 nin0).keep K117 nin0).keep K119 nin0).keep K126 nin0)
  have f132 := ((((((F3.keep K101 nin0).keep K108 nin0).keep K110 nin0).keep K117 nin0).keep K119 nin0).keep K126 nin0)
  have f133 := ((((((F4.keep K101 nin0).keep K108 nin0).keep K110 nin0).keep K117 nin0).keep K119 nin0).keep K126 nin0)
  have f134 := ((((((F5.keep K101 nin0).keep K108 nin0).keep K110 nin0).keep K117 nin0).keep K119 nin0).keep K126 nin0)
  obtain ⟨T135, h135, v135, W135, Q135, st135⟩ := x_special B W126 (b := a1) [(.ref s1), (.ref s2), (.ref s3), .null, .null, .null] (c_om6 l Z a0 hw a1 s1 s2 s3 .null .null .null h126 rfl rfl rfl f128 f129 f130 f131 f132 f133 f134 (by omega)) (by simp) (d_prog_1_method_1_30) rfl (tw hw 64 rfl) (tw hw 65 rfl) (tw hw 2 rfl) (tw hw 66 rfl) (by decide) (lenOf pd__Ljava_lang_String_Ljava_lang_String_Ljava_lang_String_Ljava_lang_String_Ljava_lang_String_Ljava_lang_String__V rfl) #[.val (.ref a1), .val (.ref s1), .val (.ref s2), .val (.ref s3)] [] rfl 0 rfl (by decide) (by decide) (by decide) (by decide)
  obtain ⟨rfl, K135, E135, F0_135, F1_135, F2_135, F3_135, F4_135, F5_135⟩ := Q135
  have s136 := K135.1
  refine st135 _ ?_
  exact r_v B W135 (d_prog_1_method_1_33) (by decide) (by decide) ⟨rfl, ((((((((Keep.refl h0 [a1]).trans K101 all0).trans K108 all0).trans K110 all0).trans K117 all0).trans K119 all0).trans K126 all0).trans K135 (allS (Or.inl (by simp)) all0)), E135, F0_135, F1_135, F2_135, F3_135, F4_135, F5_135⟩
theorem ef_recInit (m : MethodId) (a1 : Addr) (pj : Int64) (pi : Int32) (pm : Value) (r1 : pm.isRef = true) : entryFrame m #[(.ref a1), (.long pj), (.int pi), pm] 5 = mkF m 0 #[.val (.ref a1), .val (.long pj), .second, .val (.int pi), .val pm] [] := by
  (cases pm <;> try cases r1)
  all_goals first | (simp [entryFrame, mkF, argsToLocals, Value.category]; done) | rfl
def Q_recInit (Z : State) (a1 : Addr) (pj : Int64) (pi : Int32) (pm : Value) (h0 : Heap) (v : Option Value) (h : Heap) : Prop := v = none ∧ Keep h0 h [a1] ∧ Exa Z h a1 "com/example/outbox_relay/outboxrelay/OutboxRecord" ∧ Fld Z h a1 "com/example/outbox_relay/outboxrelay/OutboxRecord" "id" "J" (.long pj)
set_option maxRecDepth 65536 in
set_option maxHeartbeats 40000000 in
theorem c_recInit (l : Launch) (Z : State) (a0 : Array Value) (hw : ∀ d ∈ tables_1, d.before a0 Z = true) (a1 : Addr) (pj : Int64) (pi : Int32) (pm : Value) (h0 : Heap) (r1 : pm.isRef = true) (E1 : Exa Z h0 a1 "com/example/outbox_relay/outboxrelay/OutboxRecord") (F0 : Fld Z h0 a1 "com/example/outbox_relay/outboxrelay/OutboxRecord" "id" "J" (.long 0)) (F1 : Fld Z h0 a1 "com/example/outbox_relay/outboxrelay/OutboxRecord" "attempts" "I" (.int 0)) (F2 : Fld Z h0 a1 "com/example/outbox_relay/outboxrelay/OutboxRecord" "message" "Lcom/example/outbox_relay/outboxrelay/OutboxMessage;" .null) (g1 : Z.heap.size ≤ a1) :
    Con l Z (⟨"com/example/outbox_relay/outboxrelay/OutboxRecord", "<init>", "(JILcom/example/outbox_relay/outboxrelay/OutboxMessage;)V"⟩ : MethodName) prog_2_method_1_code 5 (Option.none : Option FieldType) [] ({ frames := 1, cells := 0, slots := 0, locals := 12 } : Room) #[(.ref a1), (.long pj), (.int pi), pm] h0 (Q_recInit Z a1 pj pi pm h0) [] := by
  refine Con.of (plainFor_of_name pn_com_example_outbox_relay_outboxrelay_OutboxRecord) ?_
  intro p e s m below meth c T0 B W0
  refine Go.cast (ef_recInit m a1 pj pi pm r1) ?_
  have l_a1 := nlt E1.lt
  refine g_aload_n B W0 (d_prog_2_method_1_0) rfl rfl ?_
  obtain ⟨T101, W101, st101⟩ := x_init B W0 (d_prog_2_method_1_1) (tw hw 88 rfl) (tw hw 68 rfl) (tw hw 69 rfl) a1 #[.val (.ref a1), .val (.long pj), .second, .val (.int pi), .val pm] [] rfl 0 rfl (by decide) (by decide)
  refine st101 _ ?_
  refine g_aload_n B W101 (d_prog_2_method_1_4) rfl rfl ?_
  refine g_lload_n B W101 (d_prog_2_method_1_5) rfl ?_
  obtain ⟨T102, h102, W102, K102, R102, F102, E102, st102⟩ := x_put B W101 (d_prog_2_method_1_6) ((tw hw 89 rfl)) Via.refl F0 E1 (Or.inr ⟨ (tw hw 90 rfl), rfl, rfl⟩) (tw hw 83 rfl) (ty := .long) (v := (.long pj)) (v' := (.long pj)) (by decide) rfl rfl (by omega) (Or.inl (by decide)) #[.val (.ref a1), .val (.long pj), .second, .val (.int pi), .val pm] []
  refine st102 _ ?_
  have f103 := F1.other R102 (Or.inr (slot_ne (Or.inr (tw hw 92 rfl)) (Or.inr (tw hw 90 rfl)) (by decide) (t := .int) (t' := .long) (by decide) (by decide)))
  have f104 := F2.other R102 (Or.inr (slot_ne (Or.inr (tw hw 94 rfl)) (Or.inr (tw hw 90 rfl)) (by decide) (t := (.object "com/example/outbox_relay/outboxrelay/OutboxMessage")) (t' := .long) (by decide) (by decide)))
  have s105 := K102.1
  refine g_aload_n B W102 (d_prog_2_method_1_9) rfl rfl ?_
  refine g_iload_n B W102 (d_prog_2_method_1_10) rfl ?_
  obtain ⟨T106, h106, W106, K106, R106, F106, E106, st106⟩ := x_put B W102 (d_prog_2_method_1_11) ((tw hw 91 rfl)) Via.refl f103 E102 (Or.inr ⟨ (tw hw 92 rfl), rfl, rfl⟩) (tw hw 83 rfl) (ty := .int) (v := (.int pi)) (v' := (.int pi)) (by decide) rfl rfl (by omega) (Or.inl (by decide)) #[.val (.ref a1), .val (.long pj), .second, .val (.int pi), .val pm] []
  refine st106 _ ?_
  have f107 := F102.other R106 (Or.inr (slot_ne (Or.inr (tw hw 90 rfl)) (Or.inr (tw hw 92 rfl)) (by decide) (t := .long) (t' := .int) (by decide) (by decide)))
  have f108 := f104.other R106 (Or.inr (slot_ne (Or.inr (tw hw 94 rfl)) (Or.inr (tw hw 92 rfl)) (by decide) (t := (.object "com/example/outbox_relay/outboxrelay/OutboxMessage")) (t' := .int) (by decide) (by decide)))
  have s109 := K106.1
  refine g_aload_n B W106 (d_prog_2_method_1_14) rfl rfl ?_
  refine g_aload B W106 (d_prog_2_method_1_15) rfl r1 ?_
  obtain ⟨T110, h110, W110, K110, R110, F110, E110, st110⟩ := x_put B W106 (d_prog_2_method_1_17) ((tw hw 93 rfl)) Via.refl f108 E106 (Or.inr ⟨ (tw hw 94 rfl), rfl, rfl⟩) (tw hw 83 rfl) (ty := (.object "com/example/outbox_relay/outboxrelay/OutboxMessage")) (v := pm) (v' := pm) (by decide) (nar_ref rfl) (own_fr rfl r1) (by omega) (Or.inl (by decide)) #[.val (.ref a1), .val (.long pj), .second, .val (.int pi), .val pm] []
  refine st110 _ ?_
  have f111 := f107.other R110 (Or.inr (slot_ne (Or.inr (tw hw 90 rfl)) (Or.inr (tw hw 94 rfl)) (by decide) (t := .long) (t' := (.object "com/example/outbox_relay/outboxrelay/OutboxMessage")) (by decide) (by decide)))
  have f112 := F106.other R110 (Or.inr (slot_ne (Or.inr (tw hw 92 rfl)) (Or.inr (tw hw 94 rfl)) (by decide) (t := .int) (t' := (.object "com/example/outbox_relay/outboxrelay/OutboxMessage")) (by decide) (by decide)))
  have s113 := K110.1
  exact r_v B W110 (d_prog_2_method_1_20) (by decide) (by decide) ⟨rfl, ((((Keep.refl h0 [a1]).trans K102 (allS (Or.inl (by simp)) all0)).trans K106 (allS (Or.inl (by simp)) all0)).trans K110 (allS (Or.inl (by simp)) all0)), E110, f111⟩
theorem ef_numInit (m : MethodId) (a1 : Addr) : entryFrame m #[(.ref a1)] 1 = mkF m 0 #[.val (.ref a1)] [] := by first | (simp [entryFrame, mkF, argsToLocals, Value.category]; done) | rfl
def Q_numInit (Z : State) (a1 : Addr) (h0 : Heap) (v : Option Value) (h : Heap) : Prop := v = none ∧ h0 = h
set_option maxRecDepth 65536 in
set_option maxHeartbeats 40000000 in
theorem c_numInit (l : Launch) (Z : State) (a0 : Array Value) (hw : ∀ d ∈ tables_1, d.before a0 Z = true) (a1 : Addr) (h0 : Heap) :
    Con l Z (⟨"java/lang/Number", "<init>", "()V"⟩ : MethodName) jdk_18_method_1_code 1 (Option.none : Option FieldType) [] ({ frames := 1, cells := 0, slots := 0, locals := 12 } : Room) #[(.ref a1)] h0 (Q_numInit Z a1 h0) [] := by
  refine Con.of (plainFor_of_name pn_java_lang_Number) ?_
  intro p e s m below meth c T0 B W0
  refine Go.cast (ef_numInit m a1 ) ?_
  refine g_aload_n B W0 (d_jdk_18_method_1_0) rfl rfl ?_
  obtain ⟨T101, W101, st101⟩ := x_init B W0 (d_jdk_18_method_1_1) (tw hw 125 rfl) (tw hw 68 rfl) (tw hw 69 rfl) a1 #[.val (.ref a1)] [] rfl 0 rfl (by decide) (by decide)
  refine st101 _ ?_
  exact r_v B W101 (d_jdk_18_method_1_4) (by decide) (by decide) ⟨rfl, rfl⟩
theorem ef_longInit (m : MethodId) (a1 : Addr) (p2 : Int64) : entryFrame m #[(.ref a1), (.long p2)] 3 = mkF m 0 #[.val (.ref a1), .val (.long p2), .second] [] := by first | (simp [entryFrame, mkF, argsToLocals, Value.category]; done) | rfl
def Q_longInit (Z : State) (a1 : Addr) (p2 : Int64) (h0 : Heap) (v : Option Value) (h : Heap) : Prop := v = none ∧ Keep h0 h [a1] ∧ Exa Z h a1 "java/lang/Long"
set_option maxRecDepth 65536 in
set_option maxHeartbeats 40000000 in
theorem c_longInit (l : Launch) (Z : State) (a0 : Array Value) (hw : ∀ d ∈ tables_1, d.before a0 Z = true) (a1 : Addr) (p2 : Int64) (h0 : Heap) (E1 : Exa Z h0 a1 "java/lang/Long") (F1 : Fld Z h0 a1 "java/lang/Long" "value" "J" (.long 0)) (g1 : Z.heap.size ≤ a1) :
    Con l Z (⟨"java/lang/Long", "<init>", "(J)V"⟩ : MethodName) jdk_35_method_26_code 3 (Option.none : Option FieldType) [] ({ frames := 2, cells := 0, slots := 0, locals := 24 } : Room) #[(.ref a1), (.long p2)] h0 (Q_longInit Z a1 p2 h0) [] := by
  refine Con.of (plainFor_of_name pn_java_lang_Long) ?_
  intro p e s m below meth c T0 B W0
  refine Go.cast (ef_longInit m a1 p2 ) ?_
  refine g_aload_n B W0 (d_jdk_35_method_26_0) rfl rfl ?_
  obtain ⟨T101, h101, v101, W101, Q101, st101⟩ := x_special B W0 (b := a1) [] (c_numInit l Z a0 hw a1 h0) (by simp) (d_jdk_35_method_26_1) rfl (tw hw 119 rfl) (tw hw 120 rfl) (tw hw 123 rfl) (tw hw 124 rfl) (by decide) (lenOf pd___V rfl) #[.val (.ref a1), .val (.long p2), .second] [] rfl 0 rfl (by decide) (by decide) (by decide) (by decide)
  obtain ⟨rfl, rfl⟩ := Q101
  refine st101 _ ?_
  refine g_aload_n B W101 (d_jdk_35_method_26_4) rfl rfl ?_
  refine g_lload_n B W101 (d_jdk_35_method_26_5) rfl ?_
  obtain ⟨T102, h102, W102, K102, R102, F102, E102, st102⟩ := x_put B W101 (d_jdk_35_method_26_6) ((tw hw 126 rfl)) Via.refl F1 E1 (Or.inr ⟨ (tw hw 127 rfl), rfl, rfl⟩) (tw hw 114 rfl) (ty := .long) (v := (.long p2)) (v' := (.long p2)) (by decide) rfl rfl (by omega) (Or.inl (by decide)) #[.val (.ref a1), .val (.long p2), .second] []
  refine st102 _ ?_
  have s103 := K102.1
  exact r_v B W102 (d_jdk_35_method_26_9) (by decide) (by decide) ⟨rfl, ((Keep.refl h0 [a1]).trans K102 (allS (Or.inl (by simp)) all0)), E102⟩
theorem own_cacheL {p : Int64} (h1 : ¬ p < -128) (h2 : ¬ 127 < p) : ¬ p.toInt32 + 128 < 0 ∧ p.toInt32 + 128 < 256 := by
  have a := c_iadd p.toInt32 128; have b := c_l2i p; have r := rng32 p.toInt32; have r2 := rng32 (p.toInt32 + 128)
  have e1 : (-128 : Int64).toInt = -128 := by decide
  have e2 : (127 : Int64).toInt = 127 := by decide
  rw [Int64.lt_iff_toInt_lt] at h1 h2
  simp only [Int32.lt_iff_toInt_lt, Int32.reduceToInt] at *; omega
theorem own_bxL {Z : State} {ca : Addr} {cl : Cell} {p : Int64} (Bx : Bxs Z ca cl "java/lang/Long" "J" 256 (fun j => .long ((j - 128).toInt64))) (h1 : ¬ p < -128) (h2 : ¬ 127 < p) : ¬ (p.toInt32 + 128 < 0 ∨ cl.slots.size ≤ (p.toInt32 + 128).toNatClampNeg) ∧ ∃ b : Addr, cl.slots[(p.toInt32 + 128).toNatClampNeg]? = some (.ref b) ∧ Exa Z Z.heap b "java/lang/Long" := by
  have q := inb_of Bx.2.1 (own_cacheL h1 h2)
  refine ⟨q, ?_⟩
  obtain ⟨b, e1, e2, -⟩ := Bx.2.2.2 _ q
  exact ⟨b, e1, e2⟩
theorem ef_valueOf (m : MethodId) (p1 : Int64) (ca : Addr) (cl : Cell) : entryFrame m #[(.long p1)] 3 = mkF m 0 #[.val (.long p1), .second, .unset] [] := by first | (simp [entryFrame, mkF, argsToLocals, Value.category]; done) | rfl
def Q_valueOf (Z : State) (p1 : Int64) (ca : Addr) (cl : Cell) (h0 : Heap) (v : Option Value) (h : Heap) : Prop := ∃ b, v = some (.ref b) ∧ Keep h0 h [] ∧ Exa Z h b "java/lang/Long"
set_option maxRecDepth 65536 in
set_option maxHeartbeats 40000000 in
theorem c_valueOf (l : Launch) (Z : State) (a0 : Array Value) (hw : ∀ d ∈ tables_1, d.before a0 Z = true) (p1 : Int64) (ca : Addr) (cl : Cell) (h0 : Heap) (Sc : Sta Z Z.heap "java/lang/Long$LongCache" "cache" "[Ljava/lang/Long;" (.ref ca)) (Bx : Bxs Z ca cl "java/lang/Long" "J" 256 (fun j => .long ((j - 128).toInt64))) :
    Con l Z (⟨"java/lang/Long", "valueOf", "(J)Ljava/lang/Long;"⟩ : MethodName) jdk_35_method_24_code 3 (Option.some (FieldType.object "java/lang/Long")) [] ({ frames := 3, cells := 1, slots := 1, locals := 39 } : Room) #[(.long p1)] h0 (Q_valueOf Z p1 ca cl h0) [] := by
  refine Con.of (plainFor_of_name pn_java_lang_Long) ?_
  intro p e s m below meth c T0 B W0
  refine Go.cast (ef_valueOf m p1 ca cl ) ?_
  refine g_sipush B W0 (d_jdk_35_method_24_0) (v := 128) (by decide) ?_
  refine g_istore_n B W0 (d_jdk_35_method_24_3)  (l' := #[.val (.long p1), .second, .val (.int 128)]) rfl ?_
  refine g_lload_n B W0 (d_jdk_35_method_24_4) rfl ?_
  refine g_ldcL B W0 (d_jdk_35_method_24_5) (tw hw 99 rfl) ?_
  refine g_lcmp B W0 (d_jdk_35_method_24_8)  ?_
  by_cases hc101 : p1 < (-128)
  · skip
    refine g_if_y B W0 (d_jdk_35_method_24_9) (XT.ll_lt_t hc101) (pc' := 31) (by decide) ?_
    show Go p.tables e below _ T0 (mkF m 31 #[.val (.long p1), .second, .val (.int 128)] [])
    obtain ⟨T102, h102, b102, gb102, W102, K102, E102, D102, st102⟩ := x_new B W0 (d_jdk_35_method_24_31) (tw hw 113 rfl) (tw hw 114 rfl) (tw hw 97 rfl) (by decide) (by decide) #[.val (.long p1), .second, .val (.int 128)] []
    have l102 := nlt E102.lt
    have z102 := W0.size
    refine st102 _ ?_
    have s103 := K102.1
    have f104 : Fld Z h102 b102 "java/lang/Long" "value" "J" (.long 0) := D102 (Or.inr (tw hw 127 rfl)) (ty := .long) (by decide)
    refine g_dup B W102 (d_jdk_35_method_24_34) rfl ?_
    refine g_lload_n B W102 (d_jdk_35_method_24_35) rfl ?_
    obtain ⟨T105, h105, v105, W105, Q105, st105⟩ := x_special B W102 (b := b102) [(.long p1)] (c_longInit l Z a0 hw b102 p1 h102 E102 f104 (by omega)) (by simp) (d_jdk_35_method_24_36) rfl (tw hw 115 rfl) (tw hw 116 rfl) (tw hw 97 rfl) (tw hw 118 rfl) (by decide) (lenOf pd__J_V rfl) #[.val (.long p1), .second, .val (.int 128)] [(.ref b102)] rfl 1 rfl (by decide) (by decide) (by decide) (by decide)
    obtain ⟨rfl, K105, E105⟩ := Q105
    have s106 := K105.1
    refine st105 _ ?_
    exact r_a B W105 rfl rfl rfl (d_jdk_35_method_24_39) (by decide) (by decide) ⟨_, rfl, (((Keep.refl h0 []).trans K102 all0).trans K105 (allS (Or.inr (by omega)) all0)), E105⟩
  · skip
    refine g_if_n B W0 (d_jdk_35_method_24_9) (XT.ll_lt_f hc101) ?_
    show Go p.tables e below _ T0 (mkF m 12 #[.val (.long p1), .second, .val (.int 128)] [])
    refine g_lload_n B W0 (d_jdk_35_method_24_12) rfl ?_
    refine g_ldcL B W0 (d_jdk_35_method_24_13) (tw hw 100 rfl) ?_
    refine g_lcmp B W0 (d_jdk_35_method_24_16)  ?_
    by_cases hc107 : 127 < p1
    · skip
      refine g_if_y B W0 (d_jdk_35_method_24_17) (XT.ll_gt_t hc107) (pc' := 31) (by decide) ?_
      show Go p.tables e below _ T0 (mkF m 31 #[.val (.long p1), .second, .val (.int 128)] [])
      obtain ⟨T108, h108, b108, gb108, W108, K108, E108, D108, st108⟩ := x_new B W0 (d_jdk_35_method_24_31) (tw hw 113 rfl) (tw hw 114 rfl) (tw hw 97 rfl) (by decide) (by decide) #[.val (.long p1), .second, .val (.int 128)] []
      have l108 := nlt E108.lt
      have z108 := W0.size
      refine st108 _ ?_
      have s109 := K108.1
      have f110 : Fld Z h108 b108 "java/lang/Long" "value" "J" (.long 0) := D108 (Or.inr (tw hw 127 rfl)) (ty := .long) (by decide)
      refine g_dup B W108 (d_jdk_35_method_24_34) rfl ?_
      refine g_lload_n B W108 (d_jdk_35_method_24_35) rfl ?_
      obtain ⟨T111, h111, v111, W111, Q111, st111⟩ := x_special B W108 (b := b108) [(.long p1)] (c_longInit l Z a0 hw b108 p1 h108 E108 f110 (by omega)) (by simp) (d_jdk_35_method_24_36) rfl (tw hw 115 rfl) (tw hw 116 rfl) (tw hw 97 rfl) (tw hw 118 rfl) (by decide) (lenOf pd__J_V rfl) #[.val (.long p1), .second, .val (.int 128)] [(.ref b108)] rfl 1 rfl (by decide) (by decide) (by decide) (by decide)
      obtain ⟨rfl, K111, E111⟩ := Q111
      have s112 := K111.1
      refine st111 _ ?_
      exact r_a B W111 rfl rfl rfl (d_jdk_35_method_24_39) (by decide) (by decide) ⟨_, rfl, (((Keep.refl h0 []).trans K108 all0).trans K111 (allS (Or.inr (by omega)) all0)), E111⟩
    · skip
      refine g_if_n B W0 (d_jdk_35_method_24_17) (XT.ll_gt_f hc107) ?_
      show Go p.tables e below _ T0 (mkF m 20 #[.val (.long p1), .second, .val (.int 128)] [])
      obtain ⟨T113, W113, st113⟩ := x_gets B W0 (host := "") (d_jdk_35_method_24_20) (Or.inl (tw hw 101 rfl)) Via.refl Sc #[.val (.long p1), .second, .val (.int 128)] []
      refine st113 _ ?_
      refine g_lload_n B W113 (d_jdk_35_method_24_23) rfl ?_
      refine g_l2i B W113 (d_jdk_35_method_24_24)  ?_
      refine g_sipush B W113 (d_jdk_35_method_24_25) (v := 128) (by decide) ?_
      refine g_iadd B W113 (d_jdk_35_method_24_28)  ?_
      obtain ⟨hin, b, hat, Eb⟩ := own_bxL Bx hc101 hc107
      refine g_aaload B W113 (d_jdk_35_method_24_29) (Bx.1.ext W113.old.2) rfl hin hat ?_
      show Go p.tables e below _ T113 (mkF m 30 #[.val (.long p1), .second, .val (.int 128)] [(.ref b)])
      exact r_a B W113 rfl rfl rfl (d_jdk_35_method_24_30) (by decide) (by decide) ⟨_, rfl, (Keep.refl h0 []), (Eb.ext W113.old.2)⟩
theorem ef_eqR (m : MethodId) (a1 : Addr) (a2 : Addr) (pj : Int64) (pk : Int64) : entryFrame m #[(.ref a1), (.ref a2)] 2 = mkF m 0 #[.val (.ref a1), .val (.ref a2)] [] := by first | (simp [entryFrame, mkF, argsToLocals, Value.category]; done) | rfl
def Q_eqR (Z : State) (a1 : Addr) (a2 : Addr) (pj : Int64) (pk : Int64) (h0 : Heap) (v : Option Value) (h : Heap) : Prop := v = some (.int (bi (decide (pk = pj)))) ∧ h0 = h
set_option maxRecDepth 65536 in
set_option maxHeartbeats 40000000 in
theorem c_eqR (l : Launch) (Z : State) (a0 : Array Value) (hw : ∀ d ∈ tables_1, d.before a0 Z = true) (a1 : Addr) (a2 : Addr) (pj : Int64) (pk : Int64) (h0 : Heap) (F1 : Fld Z h0 a1 "com/example/outbox_relay/outboxrelay/OutboxRecord" "id" "J" (.long pj)) (E2 : Exa Z h0 a2 "com/example/outbox_relay/outboxrelay/OutboxRecord") (F2 : Fld Z h0 a2 "com/example/outbox_relay/outboxrelay/OutboxRecord" "id" "J" (.long pk)) :
    Con l Z (⟨"com/example/outbox_relay/outboxrelay/OutboxRecord", "equals", "(Ljava/lang/Object;)Z"⟩ : MethodName) prog_2_method_5_code 2 (Option.some FieldType.boolean) [] ({ frames := 0, cells := 0, slots := 0, locals := 0 } : Room) #[(.ref a1), (.ref a2)] h0 (Q_eqR Z a1 a2 pj pk h0) [] := by
  refine Con.of (plainFor_of_name pn_com_example_outbox_relay_outboxrelay_OutboxRecord) ?_
  intro p e s m below meth c T0 B W0
  refine Go.cast (ef_eqR m a1 a2 pj pk ) ?_
  refine g_aload_n B W0 (d_prog_2_method_5_0) rfl rfl ?_
  obtain ⟨T101, W101, st101⟩ := x_instY B W0 (d_prog_2_method_5_1) (tw hw 108 rfl) (Ins.self E2) #[.val (.ref a1), .val (.ref a2)] []
  refine st101 _ ?_
  refine g_if_n B W101 (d_prog_2_method_5_4) (XT.i0_eq_f (by decide)) ?_
  show Go p.tables e below _ T101 (mkF m 7 #[.val (.ref a1), .val (.ref a2)] [])
  refine g_aload_n B W101 (d_prog_2_method_5_7) rfl rfl ?_
  obtain ⟨T102, W102, st102⟩ := x_castY B W101 (d_prog_2_method_5_8) (tw hw 108 rfl) (Ins.self E2) #[.val (.ref a1), .val (.ref a2)] []
  refine st102 _ ?_
  obtain ⟨T103, W103, st103⟩ := x_get B W102 (host := "") (d_prog_2_method_5_11) (Or.inl (tw hw 89 rfl)) Via.refl F2 #[.val (.ref a1), .val (.ref a2)] []
  refine st103 _ ?_
  refine g_aload_n B W103 (d_prog_2_method_5_14) rfl rfl ?_
  obtain ⟨T104, W104, st104⟩ := x_get B W103 (host := "") (d_prog_2_method_5_15) (Or.inl (tw hw 89 rfl)) Via.refl F1 #[.val (.ref a1), .val (.ref a2)] [(.long pk)]
  refine st104 _ ?_
  refine g_lcmp B W104 (d_prog_2_method_5_18)  ?_
  refine g_diab (decide (pk = pj)) (m := m) (ls := #[.val (.ref a1), .val (.ref a2)]) (st := []) (pc' := 27) (fun hd1 q => ?_) (fun hd1 q => ?_) ?_
  · refine g_if_n B W104 (d_prog_2_method_5_19) (XT.ll_ne_f (of_decide_eq_true hd1)) ?_
    refine g_iconst B W104 (d_prog_2_method_5_22) (v := 1) (by decide) ?_
    exact g_goto B W104 (d_prog_2_method_5_23) (pc' := 27) (by decide) q
  · refine g_if_y B W104 (d_prog_2_method_5_19) (XT.ll_ne_t (of_decide_eq_false hd1)) (pc' := 26) (by decide) ?_
    exact g_iconst B W104 (d_prog_2_method_5_26) (v := 0) (by decide) q
  show Go p.tables e below _ T104 (mkF m 27 #[.val (.ref a1), .val (.ref a2)] [(.int (bi (decide (pk = pj))))])
  exact r_b B W104 (d_prog_2_method_5_27) (by decide) (by decide) ⟨rfl, rfl⟩
theorem ef_eqN (m : MethodId) (a1 : Addr) : entryFrame m #[(.ref a1), .null] 2 = mkF m 0 #[.val (.ref a1), .val .null] [] := by first | (simp [entryFrame, mkF, argsToLocals, Value.category]; done) | rfl
def Q_eqN (Z : State) (a1 : Addr) (h0 : Heap) (v : Option Value) (h : Heap) : Prop := v = some (.int 0) ∧ h0 = h
set_option maxRecDepth 65536 in
set_option maxHeartbeats 40000000 in
theorem c_eqN (l : Launch) (Z : State) (a0 : Array Value) (hw : ∀ d ∈ tables_1, d.before a0 Z = true) (a1 : Addr) (h0 : Heap) :
    Con l Z (⟨"com/example/outbox_relay/outboxrelay/OutboxRecord", "equals", "(Ljava/lang/Object;)Z"⟩ : MethodName) prog_2_method_5_code 2 (Option.some FieldType.boolean) [] ({ frames := 0, cells := 0, slots := 0, locals := 0 } : Room) #[(.ref a1), .null] h0 (Q_eqN Z a1 h0) [] := by
  refine Con.of (plainFor_of_name pn_com_example_outbox_relay_outboxrelay_OutboxRecord) ?_
  intro p e s m below meth c T0 B W0
  refine Go.cast (ef_eqN m a1 ) ?_
  refine g_aload_n B W0 (d_prog_2_method_5_0) rfl rfl ?_
  refine g_instNull B W0 (d_prog_2_method_5_1)  ?_
  refine g_if_y B W0 (d_prog_2_method_5_4) (XT.i0_eq_t rfl) (pc' := 26) (by decide) ?_
  show Go p.tables e below _ T0 (mkF m 26 #[.val (.ref a1), .val .null] [])
  refine g_iconst B W0 (d_prog_2_method_5_26) (v := 0) (by decide) ?_
  exact r_n B W0 (t := .boolean) rfl (by simp) (d_prog_2_method_5_27) (by decide) (by decide) ⟨by rw [nar_b0], rfl⟩
theorem ef_eqL (m : MethodId) (a1 : Addr) (a2 : Addr) : entryFrame m #[(.ref a1), (.ref a2)] 2 = mkF m 0 #[.val (.ref a1), .val (.ref a2)] [] := by first | (simp [entryFrame, mkF, argsToLocals, Value.category]; done) | rfl
def Q_eqL (Z : State) (a1 : Addr) (a2 : Addr) (h0 : Heap) (v : Option Value) (h : Heap) : Prop := v = some (.int 0) ∧ h0 = h
set_option maxRecDepth 65536 in
set_option maxHeartbeats 40000000 in
theorem c_eqL (l : Launch) (Z : State) (a0 : Array Value) (hw : ∀ d ∈ tables_1, d.before a0 Z = true) (a1 : Addr) (a2 : Addr) (h0 : Heap) (E2 : Exa Z h0 a2 "java/lang/Long") :
    Con l Z (⟨"com/example/outbox_relay/outboxrelay/OutboxRecord", "equals", "(Ljava/lang/Object;)Z"⟩ : MethodName) prog_2_method_5_code 2 (Option.some FieldType.boolean) [] ({ frames := 0, cells := 0, slots := 0, locals := 0 } : Room) #[(.ref a1), (.ref a2)] h0 (Q_eqL Z a1 a2 h0) [] := by
  refine Con.of (plainFor_of_name pn_com_example_outbox_relay_outboxrelay_OutboxRecord) ?_
  intro p e s m below meth c T0 B W0
  refine Go.cast (ef_eqL m a1 a2 ) ?_
  refine g_aload_n B W0 (d_prog_2_method_5_0) rfl rfl ?_
  obtain ⟨T101, W101, st101⟩ := x_instN B W0 (d_prog_2_method_5_1) (tw hw 108 rfl) E2 (own_no (tw hw 110 rfl) (tw hw 83 rfl) (NS.step (tw hw 110 rfl) (NS.step (tw hw 111 rfl) (own_root (tw hw 112 rfl) (tw hw 83 rfl) (by decide)) (by decide)) (by decide)) (by decide)) #[.val (.ref a1), .val (.ref a2)] []
  refine st101 _ ?_
  refine g_if_y B W101 (d_prog_2_method_5_4) (XT.i0_eq_t rfl) (pc' := 26) (by decide) ?_
  show Go p.tables e below _ T101 (mkF m 26 #[.val (.ref a1), .val (.ref a2)] [])
  refine g_iconst B W101 (d_prog_2_method_5_26) (v := 0) (by decide) ?_
  exact r_n B W101 (t := .boolean) rfl (by simp) (d_prog_2_method_5_27) (by decide) (by decide) ⟨by rw [nar_b0], rfl⟩
theorem ef_law (m : MethodId) (p1 : Int64) (p2 : Int64) (p3 : Int32) (p4 : Int32) (p5 : Int32) (cz : Int32) (u8 : Addr) (ca : Addr) (cl : Cell) : entryFrame m #[(.long p1), (.long p2), (.int p3), (.int p4), (.int p5)] maxLocals = mkF m 0 #[.val (.long p1), .second, .val (.long p2), .second, .val (.int p3), .val (.int p4), .val (.int p5), .unset, .unset, .unset, .unset, .unset, .unset, .unset] [] := by first | (simp [entryFrame, mkF, argsToLocals, Value.category, maxLocals]; done) | rfl
def Q_law (Z : State) (p1 : Int64) (p2 : Int64) (p3 : Int32) (p4 : Int32) (p5 : Int32) (cz : Int32) (u8 : Addr) (ca : Addr) (cl : Cell) (h0 : Heap) (v : Option Value) (h : Heap) : Prop := v = some (.int 1)
set_option maxRecDepth 65536 in
set_option maxHeartbeats 40000000 in
theorem c_law (l : Launch) (Z : State) (a0 : Array Value) (hw : ∀ d ∈ tables_1, d.before a0 Z = true) (ws : List Jvm.Cond) (p1 : Int64) (p2 : Int64) (p3 : Int32) (p4 : Int32) (p5 : Int32) (cz : Int32) (u8 : Addr) (ca : Addr) (cl : Cell) (h0 : Heap) (Scs : Sta Z Z.heap "java/lang/String" "COMPACT_STRINGS" "Z" (.int cz)) (hcz : ¬ cz = 0) (Su8 : Sta Z Z.heap "java/nio/charset/StandardCharsets" "UTF_8" "Ljava/nio/charset/Charset;" (.ref u8)) (Sin : Sta Z Z.heap "sun/nio/cs/UTF_8" "INSTANCE" "Lsun/nio/cs/UTF_8;" (.ref u8)) (Sc : Sta Z Z.heap "java/lang/Long$LongCache" "cache" "[Ljava/lang/Long;" (.ref ca)) (Bx : Bxs Z ca cl "java/lang/Long" "J" 256 (fun j => .long ((j - 128).toInt64))) :
    Con l Z x code maxLocals ret ws room_1 #[(.long p1), (.long p2), (.int p3), (.int p4), (.int p5)] h0 (Q_law Z p1 p2 p3 p4 p5 cz u8 ca cl h0) [] := by
  refine Con.of (plainFor_of_name pn_com_example_outbox_relay_outboxrelay_OutboxRecordEqualsPinLaw) ?_
  intro p e s m below meth c T0 B W0
  refine Go.cast (ef_law m p1 p2 p3 p4 p5 cz u8 ca cl ) ?_
  refine g_iload B W0 at_0 rfl ?_
  refine g_iconst B W0 at_2 (v := 1) (by decide) ?_
  refine g_iand B W0 at_3  ?_
  by_cases hc101 : (p5 &&& 1) = 0
  · skip
    refine g_if_y B W0 at_4 (XT.i0_eq_t hc101) (pc' := 11) (by decide) ?_
    show Go p.tables e below _ T0 (mkF m 11 #[.val (.long p1), .second, .val (.long p2), .second, .val (.int p3), .val (.int p4), .val (.int p5), .unset, .unset, .unset, .unset, .unset, .unset, .unset] [])
    refine g_lload_n B W0 at_11 rfl ?_
    refine g_lstore B W0 at_12  (l' := #[.val (.long p1), .second, .val (.long p2), .second, .val (.int p3), .val (.int p4), .val (.int p5), .val (.long p2), .second, .unset, .unset, .unset, .unset, .unset]) rfl ?_
    obtain ⟨T102, h102, b102, gb102, W102, K102, E102, D102, st102⟩ := x_new B W0 at_14 (tw hw 0 rfl) (tw hw 1 rfl) (tw hw 2 rfl) (by decide) (by decide) #[.val (.long p1), .second, .val (.long p2), .second, .val (.int p3), .val (.int p4), .val (.int p5), .val (.long p2), .second, .unset, .unset, .unset, .unset, .unset] []
    have l102 := nlt E102.lt
    have z102 := W0.size
    refine st102 _ ?_
    have s103 := K102.1
    have f104 : Fld Z h102 b102 "com/example/outbox_relay/outboxrelay/OutboxMessage" "exchange" "Ljava/lang/String;" .null := D102 (Or.inr (tw hw 71 rfl)) (ty := (.object "java/lang/String")) (by decide)
    have f105 : Fld Z h102 b102 "com/example/outbox_relay/outboxrelay/OutboxMessage" "routingKey" "Ljava/lang/String;" .null := D102 (Or.inr (tw hw 73 rfl)) (ty := (.object "java/lang/String")) (by decide)
    have f106 : Fld Z h102 b102 "com/example/outbox_relay/outboxrelay/OutboxMessage" "payload" "Ljava/lang/String;" .null := D102 (Or.inr (tw hw 75 rfl)) (ty := (.object "java/lang/String")) (by decide)
    have f107 : Fld Z h102 b102 "com/example/outbox_relay/outboxrelay/OutboxMessage" "messageId" "Ljava/lang/String;" .null := D102 (Or.inr (tw hw 77 rfl)) (ty := (.object "java/lang/String")) (by decide)
    have f108 : Fld Z h102 b102 "com/example/outbox_relay/outboxrelay/OutboxMessage" "businessModule" "Ljava/lang/String;" .null := D102 (Or.inr (tw hw 79 rfl)) (ty := (.object "java/lang/String")) (by decide)
    have f109 : Fld Z h102 b102 "com/example/outbox_relay/outboxrelay/OutboxMessage" "businessKey" "Ljava/lang/String;" .null := D102 (Or.inr (tw hw 81 rfl)) (ty := (.object "java/lang/String")) (by decide)
    refine g_dup B W102 at_17 rfl ?_
    obtain ⟨T110, h110, b110, t110, kc110, W110, K110, E110, Fc110, Fv110, A110, Et110, ne110, st110⟩ := x_ldcT B W102 0 (vs := []) (z := 0) at_18 (tw hw 3 rfl) (own_wS hw) (own_EL hw) (by decide) ⟨by decide, by decide⟩ (by decide) (by decide) (by decide) (by decide) (by decide) (by decide) #[.val (.long p1), .second, .val (.long p2), .second, .val (.int p3), .val (.int p4), .val (.int p5), .val (.long p2), .second, .unset, .unset, .unset, .unset, .unset] [(.ref b102), (.ref b102)]
    have nb110_0 : ¬ @Eq Nat b102 b110 := (ne110 b102 (by simp)).1
    have nt110_0 : ¬ @Eq Nat b102 t110 := (ne110 b102 (by simp)).2
    refine st110 _ ?_
    have s111 := K110.1
    obtain ⟨T112, h112, b112, t112, kc112, W112, K112, E112, Fc112, Fv112, A112, Et112, ne112, st112⟩ := x_ldcT B W110 0 (vs := []) (z := 0) at_20 (tw hw 3 rfl) (own_wS hw) (own_EL hw) (by decide) ⟨by decide, by decide⟩ (by decide) (by decide) (by decide) (by decide) (by decide) (by decide) #[.val (.long p1), .second, .val (.long p2), .second, .val (.int p3), .val (.int p4), .val (.int p5), .val (.long p2), .second, .unset, .unset, .unset, .unset, .unset] [(.ref b110), (.ref b102), (.ref b102)]
    have nb112_0 : ¬ @Eq Nat b102 b112 := (ne112 b102 (by simp)).1
    have nt112_0 : ¬ @Eq Nat b102 t112 := (ne112 b102 (by simp)).2
    refine st112 _ ?_
    have s113 := K112.1
    obtain ⟨T114, h114, b114, t114, kc114, W114, K114, E114, Fc114, Fv114, A114, Et114, ne114, st114⟩ := x_ldcT B W112 0 (vs := []) (z := 0) at_22 (tw hw 3 rfl) (own_wS hw) (own_EL hw) (by decide) ⟨by decide, by decide⟩ (by decide) (by decide) (by decide) (by decide) (by decide) (by decide) #[.val (.long p1), .second, .val (.long p2), .second, .val (.int p3), .val (.int p4), .val (.int p5), .val (.long p2), .second, .unset, .unset, .unset, .unset, .unset] [(.ref b112), (.ref b110), (.ref b102), (.ref b102)]
    have nb114_0 : ¬ @Eq Nat b102 b114 := (ne114 b102 (by simp)).1
    have nt114_0 : ¬ @Eq Nat b102 t114 := (ne114 b102 (by simp)).2
    refine st114 _ ?_
    have s115 := K114.1
    have f116 := (((E102.keep K110).keep K112).keep K114)
    have f117 := (((f104.keep K110 nin0).keep K112 nin0).keep K114 nin0)
    have f118 := (((f105.keep K110 nin0).keep K112 nin0).keep K114 nin0)
    have f119 := (((f106.keep K110 nin0).keep K112 nin0).keep K114 nin0)
    have f120 := (((f107.keep K110 nin0).keep K112 nin0).keep K114 nin0)
    have f121 := (((f108.keep K110 nin0).keep K112 nin0).keep K114 nin0)
    have f122 := (((f109.keep K110 nin0).keep K112 nin0).keep K114 nin0)
    have f123 := ((E110.keep K112).keep K114)
    have f124 := ((Fv110.keep K112 nin0).keep K114 nin0)
    have f125 := ((Fc110.keep K112 nin0).keep K114 nin0)
    have f126 := ((A110.keep K112 nin0).keep K114 nin0)
    have f127 := ((Et110.keep K112).keep K114)
    have f128 := (E112.keep K114)
    have f129 := (Fv112.keep K114 nin0)
    have f130 := (Fc112.keep K114 nin0)
    have f131 := (A112.keep K114 nin0)
    have f132 := (Et112.keep K114)
    obtain ⟨T133, h133, v133, W133, Q133, st133⟩ := x_special B W114 (b := b102) [(.ref b110), (.ref b112), (.ref b114)] (c_om3 l Z a0 hw b102 b110 t110 kc110 b112 t112 kc112 b114 t114 kc114 u8 cz h114 f116 f117 f118 f119 f120 f121 f122 (by omega) f123 f124 f125 f126 f127 f128 f129 f130 f131 f132 E114 Fv114 Fc114 A114 Et114 Su8 Sin Scs hcz) (by simp) at_24 rfl (tw hw 11 rfl) (tw hw 12 rfl) (tw hw 2 rfl) (tw hw 13 rfl) (by decide) (lenOf pd__Ljava_lang_String_Ljava_lang_String_Ljava_lang_String__V rfl) #[.val (.long p1), .second, .val (.long p2), .second, .val (.int p3), .val (.int p4), .val (.int p5), .val (.long p2), .second, .unset, .unset, .unset, .unset, .unset] [(.ref b102)] rfl 1 rfl (by decide) (by decide) (by decide) (by decide)
    obtain ⟨rfl, K133, E133, F0_133, F1_133, F2_133, F3_133, F4_133, F5_133⟩ := Q133
    have s134 := K133.1
    refine st133 _ ?_
    refine g_astore B W133 at_27 rfl (l' := #[.val (.long p1), .second, .val (.long p2), .second, .val (.int p3), .val (.int p4), .val (.int p5), .val (.long p2), .second, .val (.ref b102), .unset, .unset, .unset, .unset]) rfl ?_
    obtain ⟨T135, h135, b135, gb135, W135, K135, E135, D135, st135⟩ := x_new B W133 at_29 (tw hw 82 rfl) (tw hw 83 rfl) (tw hw 84 rfl) (by decide) (by decide) #[.val (.long p1), .second, .val (.long p2), .second, .val (.int p3), .val (.int p4), .val (.int p5), .val (.long p2), .second, .val (.ref b102), .unset, .unset, .unset, .unset] []
    have l135 := nlt E135.lt
    have z135 := W133.size
    refine st135 _ ?_
    have s136 := K135.1
    have f137 : Fld Z h135 b135 "com/example/outbox_relay/outboxrelay/OutboxRecord" "id" "J" (.long 0) := D135 (Or.inr (tw hw 90 rfl)) (ty := .long) (by decide)
    have f138 : Fld Z h135 b135 "com/example/outbox_relay/outboxrelay/OutboxRecord" "attempts" "I" (.int 0) := D135 (Or.inr (tw hw 92 rfl)) (ty := .int) (by decide)
    have f139 : Fld Z h135 b135 "com/example/outbox_relay/outboxrelay/OutboxRecord" "message" "Lcom/example/outbox_relay/outboxrelay/OutboxMessage;" .null := D135 (Or.inr (tw hw 94 rfl)) (ty := (.object "com/example/outbox_relay/outboxrelay/OutboxMessage")) (by decide)
    refine g_dup B W135 at_32 rfl ?_
    refine g_lload_n B W135 at_33 rfl ?_
    refine g_iload B W135 at_34 rfl ?_
    refine g_aconst_null B W135 at_36  ?_
    obtain ⟨T140, h140, v140, W140, Q140, st140⟩ := x_special B W135 (b := b135) [(.long p1), (.int p3), .null] (c_recInit l Z a0 hw b135 p1 p3 .null h135 rfl E135 f137 f138 f139 (by omega)) (by simp) at_37 rfl (tw hw 85 rfl) (tw hw 86 rfl) (tw hw 84 rfl) (tw hw 87 rfl) (by decide) (lenOf pd__JILcom_example_outbox_relay_outboxrelay_OutboxMessage__V rfl) #[.val (.long p1), .second, .val (.long p2), .second, .val (.int p3), .val (.int p4), .val (.int p5), .val (.long p2), .second, .val (.ref b102), .unset, .unset, .unset, .unset] [(.ref b135)] rfl 1 rfl (by decide) (by decide) (by decide) (by decide)
    obtain ⟨rfl, K140, E140, F140⟩ := Q140
    have s141 := K140.1
    refine st140 _ ?_
    refine g_astore B W140 at_40 rfl (l' := #[.val (.long p1), .second, .val (.long p2), .second, .val (.int p3), .val (.int p4), .val (.int p5), .val (.long p2), .second, .val (.ref b102), .val (.ref b135), .unset, .unset, .unset]) rfl ?_
    obtain ⟨T142, h142, b142, gb142, W142, K142, E142, D142, st142⟩ := x_new B W140 at_42 (tw hw 82 rfl) (tw hw 83 rfl) (tw hw 84 rfl) (by decide) (by decide) #[.val (.long p1), .second, .val (.long p2), .second, .val (.int p3), .val (.int p4), .val (.int p5), .val (.long p2), .second, .val (.ref b102), .val (.ref b135), .unset, .unset, .unset] []
    have l142 := nlt E142.lt
    have z142 := W140.size
    refine st142 _ ?_
    have s143 := K142.1
    have f144 : Fld Z h142 b142 "com/example/outbox_relay/outboxrelay/OutboxRecord" "id" "J" (.long 0) := D142 (Or.inr (tw hw 90 rfl)) (ty := .long) (by decide)
    have f145 : Fld Z h142 b142 "com/example/outbox_relay/outboxrelay/OutboxRecord" "attempts" "I" (.int 0) := D142 (Or.inr (tw hw 92 rfl)) (ty := .int) (by decide)
    have f146 : Fld Z h142 b142 "com/example/outbox_relay/outboxrelay/OutboxRecord" "message" "Lcom/example/outbox_relay/outboxrelay/OutboxMessage;" .null := D142 (Or.inr (tw hw 94 rfl)) (ty := (.object "com/example/outbox_relay/outboxrelay/OutboxMessage")) (by decide)
    refine g_dup B W142 at_45 rfl ?_
    refine g_lload B W142 at_46 rfl ?_
    refine g_iload B W142 at_48 rfl ?_
    refine g_aload B W142 at_50 rfl rfl ?_
    obtain ⟨T147, h147, v147, W147, Q147, st147⟩ := x_special B W142 (b := b142) [(.long p2), (.int p4), (.ref b102)] (c_recInit l Z a0 hw b142 p2 p4 (.ref b102) h142 rfl E142 f144 f145 f146 (by omega)) (by simp) at_52 rfl (tw hw 85 rfl) (tw hw 86 rfl) (tw hw 84 rfl) (tw hw 87 rfl) (by decide) (lenOf pd__JILcom_example_outbox_relay_outboxrelay_OutboxMessage__V rfl) #[.val (.long p1), .second, .val (.long p2), .second, .val (.int p3), .val (.int p4), .val (.int p5), .val (.long p2), .second, .val (.ref b102), .val (.ref b135), .unset, .unset, .unset] [(.ref b142)] rfl 1 rfl (by decide) (by decide) (by decide) (by decide)
    obtain ⟨rfl, K147, E147, F147⟩ := Q147
    have s148 := K147.1
    refine st147 _ ?_
    refine g_astore B W147 at_55 rfl (l' := #[.val (.long p1), .second, .val (.long p2), .second, .val (.int p3), .val (.int p4), .val (.int p5), .val (.long p2), .second, .val (.ref b102), .val (.ref b135), .val (.ref b142), .unset, .unset]) rfl ?_
    refine g_lload_n B W147 at_57 rfl ?_
    obtain ⟨T149, h149, v149, W149, Q149, st149⟩ := x_static B W147 [(.long p1)] (c_valueOf l Z a0 hw p1 ca cl h147 Sc Bx) (by simp) at_58 (tw hw 95 rfl) (tw hw 96 rfl) (tw hw 97 rfl) (tw hw 98 rfl) (by decide) (lenOf pd__J_Ljava_lang_Long_ rfl) #[.val (.long p1), .second, .val (.long p2), .second, .val (.int p3), .val (.int p4), .val (.int p5), .val (.long p2), .second, .val (.ref b102), .val (.ref b135), .val (.ref b142), .unset, .unset] [] rfl 0 rfl (by decide) (by decide) (by decide) (by decide)
    obtain ⟨b149, rfl, K149, E149⟩ := Q149
    have s150 := K149.1
    refine st149 _ ?_
    refine g_astore B W149 at_61 rfl (l' := #[.val (.long p1), .second, .val (.long p2), .second, .val (.int p3), .val (.int p4), .val (.int p5), .val (.long p2), .second, .val (.ref b102), .val (.ref b135), .val (.ref b142), .val (.ref b149), .unset]) rfl ?_
    refine g_lload_n B W149 at_63 rfl ?_
    refine g_lload B W149 at_64 rfl ?_
    refine g_lcmp B W149 at_66  ?_
    refine g_diab (decide (p1 = p2)) (m := m) (ls := #[.val (.long p1), .second, .val (.long p2), .second, .val (.int p3), .val (.int p4), .val (.int p5), .val (.long p2), .second, .val (.ref b102), .val (.ref b135), .val (.ref b142), .val (.ref b149), .unset]) (st := []) (pc' := 75) (fun hd1 q => ?_) (fun hd1 q => ?_) ?_
    · refine g_if_n B W149 at_67 (XT.ll_ne_f (of_decide_eq_true hd1)) ?_
      refine g_iconst B W149 at_70 (v := 1) (by decide) ?_
      exact g_goto B W149 at_71 (pc' := 75) (by decide) q
    · refine g_if_y B W149 at_67 (XT.ll_ne_t (of_decide_eq_false hd1)) (pc' := 74) (by decide) ?_
      exact g_iconst B W149 at_74 (v := 0) (by decide) q
    show Go p.tables e below _ T149 (mkF m 75 #[.val (.long p1), .second, .val (.long p2), .second, .val (.int p3), .val (.int p4), .val (.int p5), .val (.long p2), .second, .val (.ref b102), .val (.ref b135), .val (.ref b142), .val (.ref b149), .unset] [(.int (bi (decide (p1 = p2))))])
    refine g_istore B W149 at_75  (l' := #[.val (.long p1), .second, .val (.long p2), .second, .val (.int p3), .val (.int p4), .val (.int p5), .val (.long p2), .second, .val (.ref b102), .val (.ref b135), .val (.ref b142), .val (.ref b149), .val (.int (bi (decide (p1 = p2))))]) rfl ?_
    refine g_aload B W149 at_77 rfl rfl ?_
    refine g_aload B W149 at_79 rfl rfl ?_
    have f151 := (F140.keep K142 nin0)
    have f152 := ((f151.keep K147 (ninS (nne (by have q := nlt f151.lt; omega)) nin0)).keep K149 nin0)
    have f153 := (E147.keep K149)
    have f154 := (F147.keep K149 nin0)
    have f156 := (((E140.keep K142).keep K147).keep K149)
    obtain ⟨T155, h155, v155, W155, Q155, st155⟩ := x_virtual B W149 (b := b135) [(.ref b142)] (c_eqR l Z a0 hw b135 b142 p1 p2 h149 f152 f153 f154) (by simp) f156 at_81 (tw hw 103 rfl) (tw hw 104 rfl) (tw hw 106 rfl) (tw hw 105 rfl) (tw hw 84 rfl) (tw hw 107 rfl) (by decide) (lenOf pd__Ljava_lang_Object__Z rfl) #[.val (.long p1), .second, .val (.long p2), .second, .val (.int p3), .val (.int p4), .val (.int p5), .val (.long p2), .second, .val (.ref b102), .val (.ref b135), .val (.ref b142), .val (.ref b149), .val (.int (bi (decide (p1 = p2))))] [] rfl 0 rfl (by decide) (by decide) (by decide) (by decide)
    obtain ⟨rfl, rfl⟩ := Q155
    refine st155 _ ?_
    refine g_iload B W155 at_84 rfl ?_
    refine g_icmp_n B W155 at_86 (XT.ii_ne_f (congrArg bi (decide_eq_decide.mpr eq_comm))) ?_
    show Go p.tables e below _ T155 (mkF m 89 #[.val (.long p1), .second, .val (.long p2), .second, .val (.int p3), .val (.int p4), .val (.int p5), .val (.long p2), .second, .val (.ref b102), .val (.ref b135), .val (.ref b142), .val (.ref b149), .val (.int (bi (decide (p1 = p2))))] [])
    refine g_aload B W155 at_89 rfl rfl ?_
    refine g_aload B W155 at_91 rfl rfl ?_
    obtain ⟨T157, h157, v157, W157, Q157, st157⟩ := x_virtual B W155 (b := b142) [(.ref b135)] (c_eqR l Z a0 hw b142 b135 p2 p1 h149 f154 f156 f152) (by simp) f153 at_93 (tw hw 103 rfl) (tw hw 104 rfl) (tw hw 106 rfl) (tw hw 105 rfl) (tw hw 84 rfl) (tw hw 107 rfl) (by decide) (lenOf pd__Ljava_lang_Object__Z rfl) #[.val (.long p1), .second, .val (.long p2), .second, .val (.int p3), .val (.int p4), .val (.int p5), .val (.long p2), .second, .val (.ref b102), .val (.ref b135), .val (.ref b142), .val (.ref b149), .val (.int (bi (decide (p1 = p2))))] [] rfl 0 rfl (by decide) (by decide) (by decide) (by decide)
    obtain ⟨rfl, rfl⟩ := Q157
    refine st157 _ ?_
    refine g_iload B W157 at_96 rfl ?_
    refine g_icmp_n B W157 at_98 (XT.ii_ne_f rfl) ?_
    show Go p.tables e below _ T157 (mkF m 101 #[.val (.long p1), .second, .val (.long p2), .second, .val (.int p3), .val (.int p4), .val (.int p5), .val (.long p2), .second, .val (.ref b102), .val (.ref b135), .val (.ref b142), .val (.ref b149), .val (.int (bi (decide (p1 = p2))))] [])
    refine g_aload B W157 at_101 rfl rfl ?_
    refine g_aload B W157 at_103 rfl rfl ?_
    obtain ⟨T158, h158, v158, W158, Q158, st158⟩ := x_virtual B W157 (b := b135) [(.ref b135)] (c_eqR l Z a0 hw b135 b135 p1 p1 h149 f152 f156 f152) (by simp) f156 at_105 (tw hw 103 rfl) (tw hw 104 rfl) (tw hw 106 rfl) (tw hw 105 rfl) (tw hw 84 rfl) (tw hw 107 rfl) (by decide) (lenOf pd__Ljava_lang_Object__Z rfl) #[.val (.long p1), .second, .val (.long p2), .second, .val (.int p3), .val (.int p4), .val (.int p5), .val (.long p2), .second, .val (.ref b102), .val (.ref b135), .val (.ref b142), .val (.ref b149), .val (.int (bi (decide (p1 = p2))))] [] rfl 0 rfl (by decide) (by decide) (by decide) (by decide)
    obtain ⟨rfl, rfl⟩ := Q158
    refine st158 _ ?_
    refine g_if_n B W158 at_108 (XT.i0_eq_f (bi_t (decide_eq_true rfl))) ?_
    show Go p.tables e below _ T158 (mkF m 111 #[.val (.long p1), .second, .val (.long p2), .second, .val (.int p3), .val (.int p4), .val (.int p5), .val (.long p2), .second, .val (.ref b102), .val (.ref b135), .val (.ref b142), .val (.ref b149), .val (.int (bi (decide (p1 = p2))))] [])
    refine g_aload B W158 at_111 rfl rfl ?_
    refine g_aconst_null B W158 at_113  ?_
    obtain ⟨T159, h159, v159, W159, Q159, st159⟩ := x_virtual B W158 (b := b135) [.null] (c_eqN l Z a0 hw b135 h149) (by simp) f156 at_114 (tw hw 103 rfl) (tw hw 104 rfl) (tw hw 106 rfl) (tw hw 105 rfl) (tw hw 84 rfl) (tw hw 107 rfl) (by decide) (lenOf pd__Ljava_lang_Object__Z rfl) #[.val (.long p1), .second, .val (.long p2), .second, .val (.int p3), .val (.int p4), .val (.int p5), .val (.long p2), .second, .val (.ref b102), .val (.ref b135), .val (.ref b142), .val (.ref b149), .val (.int (bi (decide (p1 = p2))))] [] rfl 0 rfl (by decide) (by decide) (by decide) (by decide)
    obtain ⟨rfl, rfl⟩ := Q159
    refine st159 _ ?_
    refine g_if_n B W159 at_117 (XT.i0_ne_f rfl) ?_
    show Go p.tables e below _ T159 (mkF m 120 #[.val (.long p1), .second, .val (.long p2), .second, .val (.int p3), .val (.int p4), .val (.int p5), .val (.long p2), .second, .val (.ref b102), .val (.ref b135), .val (.ref b142), .val (.ref b149), .val (.int (bi (decide (p1 = p2))))] [])
    refine g_aload B W159 at_120 rfl rfl ?_
    refine g_aload B W159 at_122 rfl rfl ?_
    obtain ⟨T160, h160, v160, W160, Q160, st160⟩ := x_virtual B W159 (b := b135) [(.ref b149)] (c_eqL l Z a0 hw b135 b149 h149 E149) (by simp) f156 at_124 (tw hw 103 rfl) (tw hw 104 rfl) (tw hw 106 rfl) (tw hw 105 rfl) (tw hw 84 rfl) (tw hw 107 rfl) (by decide) (lenOf pd__Ljava_lang_Object__Z rfl) #[.val (.long p1), .second, .val (.long p2), .second, .val (.int p3), .val (.int p4), .val (.int p5), .val (.long p2), .second, .val (.ref b102), .val (.ref b135), .val (.ref b142), .val (.ref b149), .val (.int (bi (decide (p1 = p2))))] [] rfl 0 rfl (by decide) (by decide) (by decide) (by decide)
    obtain ⟨rfl, rfl⟩ := Q160
    refine st160 _ ?_
    refine g_if_n B W160 at_127 (XT.i0_ne_f rfl) ?_
    show Go p.tables e below _ T160 (mkF m 130 #[.val (.long p1), .second, .val (.long p2), .second, .val (.int p3), .val (.int p4), .val (.int p5), .val (.long p2), .second, .val (.ref b102), .val (.ref b135), .val (.ref b142), .val (.ref b149), .val (.int (bi (decide (p1 = p2))))] [])
    refine g_iconst B W160 at_130 (v := 1) (by decide) ?_
    refine g_goto B W160 at_131 (pc' := 135) (by decide) ?_
    show Go p.tables e below _ T160 (mkF m 135 #[.val (.long p1), .second, .val (.long p2), .second, .val (.int p3), .val (.int p4), .val (.int p5), .val (.long p2), .second, .val (.ref b102), .val (.ref b135), .val (.ref b142), .val (.ref b149), .val (.int (bi (decide (p1 = p2))))] [(.int 1)])
    exact r_n B W160 (t := .boolean) rfl (by simp) at_135 (by decide) (by decide) (by show some (Value.int (nar .boolean 1)) = _; rw [nar_b1])
  · skip
    refine g_if_n B W0 at_4 (XT.i0_eq_f hc101) ?_
    show Go p.tables e below _ T0 (mkF m 7 #[.val (.long p1), .second, .val (.long p2), .second, .val (.int p3), .val (.int p4), .val (.int p5), .unset, .unset, .unset, .unset, .unset, .unset, .unset] [])
    refine g_lload_n B W0 at_7 rfl ?_
    refine g_goto B W0 at_8 (pc' := 12) (by decide) ?_
    show Go p.tables e below _ T0 (mkF m 12 #[.val (.long p1), .second, .val (.long p2), .second, .val (.int p3), .val (.int p4), .val (.int p5), .unset, .unset, .unset, .unset, .unset, .unset, .unset] [(.long p1)])
    refine g_lstore B W0 at_12  (l' := #[.val (.long p1), .second, .val (.long p2), .second, .val (.int p3), .val (.int p4), .val (.int p5), .val (.long p1), .second, .unset, .unset, .unset, .unset, .unset]) rfl ?_
    obtain ⟨T161, h161, b161, gb161, W161, K161, E161, D161, st161⟩ := x_new B W0 at_14 (tw hw 0 rfl) (tw hw 1 rfl) (tw hw 2 rfl) (by decide) (by decide) #[.val (.long p1), .second, .val (.long p2), .second, .val (.int p3), .val (.int p4), .val (.int p5), .val (.long p1), .second, .unset, .unset, .unset, .unset, .unset] []
    have l161 := nlt E161.lt
    have z161 := W0.size
    refine st161 _ ?_
    have s162 := K161.1
    have f163 : Fld Z h161 b161 "com/example/outbox_relay/outboxrelay/OutboxMessage" "exchange" "Ljava/lang/String;" .null := D161 (Or.inr (tw hw 71 rfl)) (ty := (.object "java/lang/String")) (by decide)
    have f164 : Fld Z h161 b161 "com/example/outbox_relay/outboxrelay/OutboxMessage" "routingKey" "Ljava/lang/String;" .null := D161 (Or.inr (tw hw 73 rfl)) (ty := (.object "java/lang/String")) (by decide)
    have f165 : Fld Z h161 b161 "com/example/outbox_relay/outboxrelay/OutboxMessage" "payload" "Ljava/lang/String;" .null := D161 (Or.inr (tw hw 75 rfl)) (ty := (.object "java/lang/String")) (by decide)
    have f166 : Fld Z h161 b161 "com/example/outbox_relay/outboxrelay/OutboxMessage" "messageId" "Ljava/lang/String;" .null := D161 (Or.inr (tw hw 77 rfl)) (ty := (.object "java/lang/String")) (by decide)
    have f167 : Fld Z h161 b161 "com/example/outbox_relay/outboxrelay/OutboxMessage" "businessModule" "Ljava/lang/String;" .null := D161 (Or.inr (tw hw 79 rfl)) (ty := (.object "java/lang/String")) (by decide)
    have f168 : Fld Z h161 b161 "com/example/outbox_relay/outboxrelay/OutboxMessage" "businessKey" "Ljava/lang/String;" .null := D161 (Or.inr (tw hw 81 rfl)) (ty := (.object "java/lang/String")) (by decide)
    refine g_dup B W161 at_17 rfl ?_
    obtain ⟨T169, h169, b169, t169, kc169, W169, K169, E169, Fc169, Fv169, A169, Et169, ne169, st169⟩ := x_ldcT B W161 0 (vs := []) (z := 0) at_18 (tw hw 3 rfl) (own_wS hw) (own_EL hw) (by decide) ⟨by decide, by decide⟩ (by decide) (by decide) (by decide) (by decide) (by decide) (by decide) #[.val (.long p1), .second, .val (.long p2), .second, .val (.int p3), .val (.int p4), .val (.int p5), .val (.long p1), .second, .unset, .unset, .unset, .unset, .unset] [(.ref b161), (.ref b161)]
    have nb169_0 : ¬ @Eq Nat b161 b169 := (ne169 b161 (by simp)).1
    have nt169_0 : ¬ @Eq Nat b161 t169 := (ne169 b161 (by simp)).2
    refine st169 _ ?_
    have s170 := K169.1
    obtain ⟨T171, h171, b171, t171, kc171, W171, K171, E171, Fc171, Fv171, A171, Et171, ne171, st171⟩ := x_ldcT B W169 0 (vs := []) (z := 0) at_20 (tw hw 3 rfl) (own_wS hw) (own_EL hw) (by decide) ⟨by decide, by decide⟩ (by decide) (by decide) (by decide) (by decide) (by decide) (by decide) #[.val (.long p1), .second, .val (.long p2), .second, .val (.int p3), .val (.int p4), .val (.int p5), .val (.long p1), .second, .unset, .unset, .unset, .unset, .unset] [(.ref b169), (.ref b161), (.ref b161)]
    have nb171_0 : ¬ @Eq Nat b161 b171 := (ne171 b161 (by simp)).1
    have nt171_0 : ¬ @Eq Nat b161 t171 := (ne171 b161 (by simp)).2
    refine st171 _ ?_
    have s172 := K171.1
    obtain ⟨T173, h173, b173, t173, kc173, W173, K173, E173, Fc173, Fv173, A173, Et173, ne173, st173⟩ := x_ldcT B W171 0 (vs := []) (z := 0) at_22 (tw hw 3 rfl) (own_wS hw) (own_EL hw) (by decide) ⟨by decide, by decide⟩ (by decide) (by decide) (by decide) (by decide) (by decide) (by decide) #[.val (.long p1), .second, .val (.long p2), .second, .val (.int p3), .val (.int p4), .val (.int p5), .val (.long p1), .second, .unset, .unset, .unset, .unset, .unset] [(.ref b171), (.ref b169), (.ref b161), (.ref b161)]
    have nb173_0 : ¬ @Eq Nat b161 b173 := (ne173 b161 (by simp)).1
    have nt173_0 : ¬ @Eq Nat b161 t173 := (ne173 b161 (by simp)).2
    refine st173 _ ?_
    have s174 := K173.1
    have f175 := (((E161.keep K169).keep K171).keep K173)
    have f176 := (((f163.keep K169 nin0).keep K171 nin0).keep K173 nin0)
    have f177 := (((f164.keep K169 nin0).keep K171 nin0).keep K173 nin0)
    have f178 := (((f165.keep K169 nin0).keep K171 nin0).keep K173 nin0)
    have f179 := (((f166.keep K169 nin0).keep K171 nin0).keep K173 nin0)
    have f180 := (((f167.keep K169 nin0).keep K171 nin0).keep K173 nin0)
    have f181 := (((f168.keep K169 nin0).keep K171 nin0).keep K173 nin0)
    have f182 := ((E169.keep K171).keep K173)
    have f183 := ((Fv169.keep K171 nin0).keep K173 nin0)
    have f184 := ((Fc169.keep K171 nin0).keep K173 nin0)
    have f185 := ((A169.keep K171 nin0).keep K173 nin0)
    have f186 := ((Et169.keep K171).keep K173)
    have f187 := (E171.keep K173)
    have f188 := (Fv171.keep K173 nin0)
    have f189 := (Fc171.keep K173 nin0)
    have f190 := (A171.keep K173 nin0)
    have f191 := (Et171.keep K173)
    obtain ⟨T192, h192, v192, W192, Q192, st192⟩ := x_special B W173 (b := b161) [(.ref b169), (.ref b171), (.ref b173)] (c_om3 l Z a0 hw b161 b169 t169 kc169 b171 t171 kc171 b173 t173 kc173 u8 cz h173 f175 f176 f177 f178 f179 f180 f181 (by omega) f182 f183 f184 f185 f186 f187 f188 f189 f190 f191 E173 Fv173 Fc173 A173 Et173 Su8 Sin Scs hcz) (by simp) at_24 rfl (tw hw 11 rfl) (tw hw 12 rfl) (tw hw 2 rfl) (tw hw 13 rfl) (by decide) (lenOf pd__Ljava_lang_String_Ljava_lang_String_Ljava_lang_String__V rfl) #[.val (.long p1), .second, .val (.long p2), .second, .val (.int p3), .val (.int p4), .val (.int p5), .val (.long p1), .second, .unset, .unset, .unset, .unset, .unset] [(.ref b161)] rfl 1 rfl (by decide) (by decide) (by decide) (by decide)
    obtain ⟨rfl, K192, E192, F0_192, F1_192, F2_192, F3_192, F4_192, F5_192⟩ := Q192
    have s193 := K192.1
    refine st192 _ ?_
    refine g_astore B W192 at_27 rfl (l' := #[.val (.long p1), .second, .val (.long p2), .second, .val (.int p3), .val (.int p4), .val (.int p5), .val (.long p1), .second, .val (.ref b161), .unset, .unset, .unset, .unset]) rfl ?_
    obtain ⟨T194, h194, b194, gb194, W194, K194, E194, D194, st194⟩ := x_new B W192 at_29 (tw hw 82 rfl) (tw hw 83 rfl) (tw hw 84 rfl) (by decide) (by decide) #[.val (.long p1), .second, .val (.long p2), .second, .val (.int p3), .val (.int p4), .val (.int p5), .val (.long p1), .second, .val (.ref b161), .unset, .unset, .unset, .unset] []
    have l194 := nlt E194.lt
    have z194 := W192.size
    refine st194 _ ?_
    have s195 := K194.1
    have f196 : Fld Z h194 b194 "com/example/outbox_relay/outboxrelay/OutboxRecord" "id" "J" (.long 0) := D194 (Or.inr (tw hw 90 rfl)) (ty := .long) (by decide)
    have f197 : Fld Z h194 b194 "com/example/outbox_relay/outboxrelay/OutboxRecord" "attempts" "I" (.int 0) := D194 (Or.inr (tw hw 92 rfl)) (ty := .int) (by decide)
    have f198 : Fld Z h194 b194 "com/example/outbox_relay/outboxrelay/OutboxRecord" "message" "Lcom/example/outbox_relay/outboxrelay/OutboxMessage;" .null := D194 (Or.inr (tw hw 94 rfl)) (ty := (.object "com/example/outbox_relay/outboxrelay/OutboxMessage")) (by decide)
    refine g_dup B W194 at_32 rfl ?_
    refine g_lload_n B W194 at_33 rfl ?_
    refine g_iload B W194 at_34 rfl ?_
    refine g_aconst_null B W194 at_36  ?_
    obtain ⟨T199, h199, v199, W199, Q199, st199⟩ := x_special B W194 (b := b194) [(.long p1), (.int p3), .null] (c_recInit l Z a0 hw b194 p1 p3 .null h194 rfl E194 f196 f197 f198 (by omega)) (by simp) at_37 rfl (tw hw 85 rfl) (tw hw 86 rfl) (tw hw 84 rfl) (tw hw 87 rfl) (by decide) (lenOf pd__JILcom_example_outbox_relay_outboxrelay_OutboxMessage__V rfl) #[.val (.long p1), .second, .val (.long p2), .second, .val (.int p3), .val (.int p4), .val (.int p5), .val (.long p1), .second, .val (.ref b161), .unset, .unset, .unset, .unset] [(.ref b194)] rfl 1 rfl (by decide) (by decide) (by decide) (by decide)
    obtain ⟨rfl, K199, E199, F199⟩ := Q199
    have s200 := K199.1
    refine st199 _ ?_
    refine g_astore B W199 at_40 rfl (l' := #[.val (.long p1), .second, .val (.long p2), .second, .val (.int p3), .val (.int p4), .val (.int p5), .val (.long p1), .second, .val (.ref b161), .val (.ref b194), .unset, .unset, .unset]) rfl ?_
    obtain ⟨T201, h201, b201, gb201, W201, K201, E201, D201, st201⟩ := x_new B W199 at_42 (tw hw 82 rfl) (tw hw 83 rfl) (tw hw 84 rfl) (by decide) (by decide) #[.val (.long p1), .second, .val (.long p2), .second, .val (.int p3), .val (.int p4), .val (.int p5), .val (.long p1), .second, .val (.ref b161), .val (.ref b194), .unset, .unset, .unset] []
    have l201 := nlt E201.lt
    have z201 := W199.size
    refine st201 _ ?_
    have s202 := K201.1
    have f203 : Fld Z h201 b201 "com/example/outbox_relay/outboxrelay/OutboxRecord" "id" "J" (.long 0) := D201 (Or.inr (tw hw 90 rfl)) (ty := .long) (by decide)
    have f204 : Fld Z h201 b201 "com/example/outbox_relay/outboxrelay/OutboxRecord" "attempts" "I" (.int 0) := D201 (Or.inr (tw hw 92 rfl)) (ty := .int) (by decide)
    have f205 : Fld Z h201 b201 "com/example/outbox_relay/outboxrelay/OutboxRecord" "message" "Lcom/example/outbox_relay/outboxrelay/OutboxMessage;" .null := D201 (Or.inr (tw hw 94 rfl)) (ty := (.object "com/example/outbox_relay/outboxrelay/OutboxMessage")) (by decide)
    refine g_dup B W201 at_45 rfl ?_
    refine g_lload B W201 at_46 rfl ?_
    refine g_iload B W201 at_48 rfl ?_
    refine g_aload B W201 at_50 rfl rfl ?_
    obtain ⟨T206, h206, v206, W206, Q206, st206⟩ := x_special B W201 (b := b201) [(.long p1), (.int p4), (.ref b161)] (c_recInit l Z a0 hw b201 p1 p4 (.ref b161) h201 rfl E201 f203 f204 f205 (by omega)) (by simp) at_52 rfl (tw hw 85 rfl) (tw hw 86 rfl) (tw hw 84 rfl) (tw hw 87 rfl) (by decide) (lenOf pd__JILcom_example_outbox_relay_outboxrelay_OutboxMessage__V rfl) #[.val (.long p1), .second, .val (.long p2), .second, .val (.int p3), .val (.int p4), .val (.int p5), .val (.long p1), .second, .val (.ref b161), .val (.ref b194), .unset, .unset, .unset] [(.ref b201)] rfl 1 rfl (by decide) (by decide) (by decide) (by decide)
    obtain ⟨rfl, K206, E206, F206⟩ := Q206
    have s207 := K206.1
    refine st206 _ ?_
    refine g_astore B W206 at_55 rfl (l' := #[.val (.long p1), .second, .val (.long p2), .second, .val (.int p3), .val (.int p4), .val (.int p5), .val (.long p1), .second, .val (.ref b161), .val (.ref b194), .val (.ref b201), .unset, .unset]) rfl ?_
    refine g_lload_n B W206 at_57 rfl ?_
    obtain ⟨T208, h208, v208, W208, Q208, st208⟩ := x_static B W206 [(.long p1)] (c_valueOf l Z a0 hw p1 ca cl h206 Sc Bx) (by simp) at_58 (tw hw 95 rfl) (tw hw 96 rfl) (tw hw 97 rfl) (tw hw 98 rfl) (by decide) (lenOf pd__J_Ljava_lang_Long_ rfl) #[.val (.long p1), .second, .val (.long p2), .second, .val (.int p3), .val (.int p4), .val (.int p5), .val (.long p1), .second, .val (.ref b161), .val (.ref b194), .val (.ref b201), .unset, .unset] [] rfl 0 rfl (by decide) (by decide) (by decide) (by decide)
    obtain ⟨b208, rfl, K208, E208⟩ := Q208
    have s209 := K208.1
    refine st208 _ ?_
    refine g_astore B W208 at_61 rfl (l' := #[.val (.long p1), .second, .val (.long p2), .second, .val (.int p3), .val (.int p4), .val (.int p5), .val (.long p1), .second, .val (.ref b161), .val (.ref b194), .val (.ref b201), .val (.ref b208), .unset]) rfl ?_
    refine g_lload_n B W208 at_63 rfl ?_
    refine g_lload B W208 at_64 rfl ?_
    refine g_lcmp B W208 at_66  ?_
    refine g_diab (decide (p1 = p1)) (m := m) (ls := #[.val (.long p1), .second, .val (.long p2), .second, .val (.int p3), .val (.int p4), .val (.int p5), .val (.long p1), .second, .val (.ref b161), .val (.ref b194), .val (.ref b201), .val (.ref b208), .unset]) (st := []) (pc' := 75) (fun hd1 q => ?_) (fun hd1 q => ?_) ?_
    · refine g_if_n B W208 at_67 (XT.ll_ne_f (of_decide_eq_true hd1)) ?_
      refine g_iconst B W208 at_70 (v := 1) (by decide) ?_
      exact g_goto B W208 at_71 (pc' := 75) (by decide) q
    · refine g_if_y B W208 at_67 (XT.ll_ne_t (of_decide_eq_false hd1)) (pc' := 74) (by decide) ?_
      exact g_iconst B W208 at_74 (v := 0) (by decide) q
    show Go p.tables e below _ T208 (mkF m 75 #[.val (.long p1), .second, .val (.long p2), .second, .val (.int p3), .val (.int p4), .val (.int p5), .val (.long p1), .second, .val (.ref b161), .val (.ref b194), .val (.ref b201), .val (.ref b208), .unset] [(.int (bi (decide (p1 = p1))))])
    refine g_istore B W208 at_75  (l' := #[.val (.long p1), .second, .val (.long p2), .second, .val (.int p3), .val (.int p4), .val (.int p5), .val (.long p1), .second, .val (.ref b161), .val (.ref b194), .val (.ref b201), .val (.ref b208), .val (.int (bi (decide (p1 = p1))))]) rfl ?_
    refine g_aload B W208 at_77 rfl rfl ?_
    refine g_aload B W208 at_79 rfl rfl ?_
    have f210 := (F199.keep K201 nin0)
    have f211 := ((f210.keep K206 (ninS (nne (by have q := nlt f210.lt; omega)) nin0)).keep K208 nin0)
    have f212 := (E206.keep K208)
    have f213 := (F206.keep K208 nin0)
    have f215 := (((E199.keep K201).keep K206).keep K208)
    obtain ⟨T214, h214, v214, W214, Q214, st214⟩ := x_virtual B W208 (b := b194) [(.ref b201)] (c_eqR l Z a0 hw b194 b201 p1 p1 h208 f211 f212 f213) (by simp) f215 at_81 (tw hw 103 rfl) (tw hw 104 rfl) (tw hw 106 rfl) (tw hw 105 rfl) (tw hw 84 rfl) (tw hw 107 rfl) (by decide) (lenOf pd__Ljava_lang_Object__Z rfl) #[.val (.long p1), .second, .val (.long p2), .second, .val (.int p3), .val (.int p4), .val (.int p5), .val (.long p1), .second, .val (.ref b161), .val (.ref b194), .val (.ref b201), .val (.ref b208), .val (.int (bi (decide (p1 = p1))))] [] rfl 0 rfl (by decide) (by decide) (by decide) (by decide)
    obtain ⟨rfl, rfl⟩ := Q214
    refine st214 _ ?_
    refine g_iload B W214 at_84 rfl ?_
    refine g_icmp_n B W214 at_86 (XT.ii_ne_f (congrArg bi (decide_eq_decide.mpr eq_comm))) ?_
    show Go p.tables e below _ T214 (mkF m 89 #[.val (.long p1), .second, .val (.long p2), .second, .val (.int p3), .val (.int p4), .val (.int p5), .val (.long p1), .second, .val (.ref b161), .val (.ref b194), .val (.ref b201), .val (.ref b208), .val (.int (bi (decide (p1 = p1))))] [])
    refine g_aload B W214 at_89 rfl rfl ?_
    refine g_aload B W214 at_91 rfl rfl ?_
    obtain ⟨T216, h216, v216, W216, Q216, st216⟩ := x_virtual B W214 (b := b201) [(.ref b194)] (c_eqR l Z a0 hw b201 b194 p1 p1 h208 f213 f215 f211) (by simp) f212 at_93 (tw hw 103 rfl) (tw hw 104 rfl) (tw hw 106 rfl) (tw hw 105 rfl) (tw hw 84 rfl) (tw hw 107 rfl) (by decide) (lenOf pd__Ljava_lang_Object__Z rfl) #[.val (.long p1), .second, .val (.long p2), .second, .val (.int p3), .val (.int p4), .val (.int p5), .val (.long p1), .second, .val (.ref b161), .val (.ref b194), .val (.ref b201), .val (.ref b208), .val (.int (bi (decide (p1 = p1))))] [] rfl 0 rfl (by decide) (by decide) (by decide) (by decide)
    obtain ⟨rfl, rfl⟩ := Q216
    refine st216 _ ?_
    refine g_iload B W216 at_96 rfl ?_
    refine g_icmp_n B W216 at_98 (XT.ii_ne_f rfl) ?_
    show Go p.tables e below _ T216 (mkF m 101 #[.val (.long p1), .second, .val (.long p2), .second, .val (.int p3), .val (.int p4), .val (.int p5), .val (.long p1), .second, .val (.ref b161), .val (.ref b194), .val (.ref b201), .val (.ref b208), .val (.int (bi (decide (p1 = p1))))] [])
    refine g_aload B W216 at_101 rfl rfl ?_
    refine g_aload B W216 at_103 rfl rfl ?_
    obtain ⟨T217, h217, v217, W217, Q217, st217⟩ := x_virtual B W216 (b := b194) [(.ref b194)] (c_eqR l Z a0 hw b194 b194 p1 p1 h208 f211 f215 f211) (by simp) f215 at_105 (tw hw 103 rfl) (tw hw 104 rfl) (tw hw 106 rfl) (tw hw 105 rfl) (tw hw 84 rfl) (tw hw 107 rfl) (by decide) (lenOf pd__Ljava_lang_Object__Z rfl) #[.val (.long p1), .second, .val (.long p2), .second, .val (.int p3), .val (.int p4), .val (.int p5), .val (.long p1), .second, .val (.ref b161), .val (.ref b194), .val (.ref b201), .val (.ref b208), .val (.int (bi (decide (p1 = p1))))] [] rfl 0 rfl (by decide) (by decide) (by decide) (by decide)
    obtain ⟨rfl, rfl⟩ := Q217
    refine st217 _ ?_
    refine g_if_n B W217 at_108 (XT.i0_eq_f (bi_t (decide_eq_true rfl))) ?_
    show Go p.tables e below _ T217 (mkF m 111 #[.val (.long p1), .second, .val (.long p2), .second, .val (.int p3), .val (.int p4), .val (.int p5), .val (.long p1), .second, .val (.ref b161), .val (.ref b194), .val (.ref b201), .val (.ref b208), .val (.int (bi (decide (p1 = p1))))] [])
    refine g_aload B W217 at_111 rfl rfl ?_
    refine g_aconst_null B W217 at_113  ?_
    obtain ⟨T218, h218, v218, W218, Q218, st218⟩ := x_virtual B W217 (b := b194) [.null] (c_eqN l Z a0 hw b194 h208) (by simp) f215 at_114 (tw hw 103 rfl) (tw hw 104 rfl) (tw hw 106 rfl) (tw hw 105 rfl) (tw hw 84 rfl) (tw hw 107 rfl) (by decide) (lenOf pd__Ljava_lang_Object__Z rfl) #[.val (.long p1), .second, .val (.long p2), .second, .val (.int p3), .val (.int p4), .val (.int p5), .val (.long p1), .second, .val (.ref b161), .val (.ref b194), .val (.ref b201), .val (.ref b208), .val (.int (bi (decide (p1 = p1))))] [] rfl 0 rfl (by decide) (by decide) (by decide) (by decide)
    obtain ⟨rfl, rfl⟩ := Q218
    refine st218 _ ?_
    refine g_if_n B W218 at_117 (XT.i0_ne_f rfl) ?_
    show Go p.tables e below _ T218 (mkF m 120 #[.val (.long p1), .second, .val (.long p2), .second, .val (.int p3), .val (.int p4), .val (.int p5), .val (.long p1), .second, .val (.ref b161), .val (.ref b194), .val (.ref b201), .val (.ref b208), .val (.int (bi (decide (p1 = p1))))] [])
    refine g_aload B W218 at_120 rfl rfl ?_
    refine g_aload B W218 at_122 rfl rfl ?_
    obtain ⟨T219, h219, v219, W219, Q219, st219⟩ := x_virtual B W218 (b := b194) [(.ref b208)] (c_eqL l Z a0 hw b194 b208 h208 E208) (by simp) f215 at_124 (tw hw 103 rfl) (tw hw 104 rfl) (tw hw 106 rfl) (tw hw 105 rfl) (tw hw 84 rfl) (tw hw 107 rfl) (by decide) (lenOf pd__Ljava_lang_Object__Z rfl) #[.val (.long p1), .second, .val (.long p2), .second, .val (.int p3), .val (.int p4), .val (.int p5), .val (.long p1), .second, .val (.ref b161), .val (.ref b194), .val (.ref b201), .val (.ref b208), .val (.int (bi (decide (p1 = p1))))] [] rfl 0 rfl (by decide) (by decide) (by decide) (by decide)
    obtain ⟨rfl, rfl⟩ := Q219
    refine st219 _ ?_
    refine g_if_n B W219 at_127 (XT.i0_ne_f rfl) ?_
    show Go p.tables e below _ T219 (mkF m 130 #[.val (.long p1), .second, .val (.long p2), .second, .val (.int p3), .val (.int p4), .val (.int p5), .val (.long p1), .second, .val (.ref b161), .val (.ref b194), .val (.ref b201), .val (.ref b208), .val (.int (bi (decide (p1 = p1))))] [])
    refine g_iconst B W219 at_130 (v := 1) (by decide) ?_
    refine g_goto B W219 at_131 (pc' := 135) (by decide) ?_
    show Go p.tables e below _ T219 (mkF m 135 #[.val (.long p1), .second, .val (.long p2), .second, .val (.int p3), .val (.int p4), .val (.int p5), .val (.long p1), .second, .val (.ref b161), .val (.ref b194), .val (.ref b201), .val (.ref b208), .val (.int (bi (decide (p1 = p1))))] [(.int 1)])
    exact r_n B W219 (t := .boolean) rfl (by simp) at_135 (by decide) (by decide) (by show some (Value.int (nar .boolean 1)) = _; rw [nar_b1])
theorem own_ELc : ∀ p ∈ Jvm.OwnK.EL, p ∈ consts_1 := by decide
set_option maxRecDepth 65536 in
set_option maxHeartbeats 40000000 in
theorem comes_1 {Post : Tables → Env → Array Value → State → Outcome → State → Prop} (hpost : ∀ tb e args s v u, (limb_1_1.after args s (.returned v) u = true ∧ limb_1_2.after args s (.returned v) u = true ∧ True) → ReturnedEndW s (.returned v) u (Jvm.fieldLocs frame_1_writes args s ++ Jvm.arrayLocs frame_1_arrays args s ++ Jvm.staticLocs frame_1_statics s) 32 4224 → Post tb e args s (.returned v) u) :
    ArmFor flags0 classFile x code maxLocals ret World_1 tables_1 room_1 Calls_1 rest_1 Pre_1 Post := by
  intro l hfl _ _ p e ha hc hk s m args below hf hA hF happ hP
  obtain ⟨hcalls, hrest, hpre⟩ := hP
  obtain ⟨-, -, -, hnamed, -, -, -, hat⟩ := (Spec.applies_iff hf).mp happ
  obtain ⟨hg, hn⟩ := and_e (Cond.before_iff.mp (show (Jvm.Cond.and given_1 narrow_1).before args s = true from hpre))
  obtain ⟨hcnt, hgs⟩ := and_e hg
  obtain ⟨ha0, hr0⟩ := and_e hgs
  obtain ⟨ha1, hr1⟩ := and_e hr0
  obtain ⟨ha2, hr2⟩ := and_e hr1
  obtain ⟨ha3, hr3⟩ := and_e hr2
  have ha4 := hr3
  obtain ⟨w0, w1, w2, w3, w4, rfl⟩ : ∃ w0 w1 w2 w3 w4 : Value, args = #[w0, w1, w2, w3, w4] := by
    have hs : args.size = 5 := by simpa [Cond.value, given_1] using hcnt
    obtain ⟨L⟩ := args
    match L, hs with
    | [w0, w1, w2, w3, w4], _ => exact ⟨w0, w1, w2, w3, w4, rfl⟩
  have hw := fun d (hd : d ∈ tables_1) => atoms_spec (ws := Jvm.Cond.code x code maxLocals ret :: tables_1) hat d (List.mem_cons_of_mem _ hd)
  obtain ⟨hsets, hown0⟩ := atoms_of _ (rest_1_c_eq ▸ (show rest_1_c.before _ s = true from hrest))
  have hfit : Fit s := fun {y c} hc i hi => by
    obtain ⟨ha, rfl⟩ := Array.getElem?_eq_some_iff.mp hc
    have q := List.all_eq_true.mp ((Array.all_eq_true_iff_forall_mem.mp hF) _ (Array.getElem_mem ha)) i (List.mem_range.mpr hi)
    simpa [Array.getElem?_eq_getElem hi] using q
  obtain ⟨i0, ei0⟩ := isL_v ha0
  obtain rfl : w0 = (.long i0) := Option.some.inj ei0
  obtain ⟨i1, ei1⟩ := isL_v ha1
  obtain rfl : w1 = (.long i1) := Option.some.inj ei1
  obtain ⟨i2, ei2⟩ := is_v ha2
  obtain rfl : w2 = (.int i2) := Option.some.inj ei2
  obtain ⟨i3, ei3⟩ := is_v ha3
  obtain rfl : w3 = (.int i3) := Option.some.inj ei3
  obtain ⟨i4, ei4⟩ := is_v ha4
  obtain rfl : w4 = (.int i4) := Option.some.inj ei4
  obtain ⟨cz, ecz⟩ := is_v (Cond.before_iff.mp (hsets _ (List.mem_of_getElem? (i := 7) rfl)))
  have Scs : Sta s s.heap "java/lang/String" "COMPACT_STRINGS" "Z" (.int cz) := Sta.start ecz (Or.inl (hsets _ (List.mem_of_getElem? (i := 6) rfl)))
  have hcz : ¬ (cz = (0 : Int32)) := gotF (Cond.eq_ints ecz (Term.int_eval (0))) (not_v (Cond.before_iff.mp (hsets _ (List.mem_of_getElem? (i := 8) rfl))))
  have hEL : EW s _ Jvm.OwnK.EL := own_EL hw
  have hWd : Wd s := ⟨_, hEL, own_wS hw⟩
  have hCH : CHv s Jvm.OwnK.EL s.vm s.heap := CHv.start hEL (fun p hp => hcalls.1 p (own_ELc p hp)) (hsets _ (List.mem_of_getElem? (i := 8) rfl)) (own_wS hw _ (by simp [Bundle.stringAtoms])) (own_wS hw _ (by simp [Bundle.stringAtoms, Bundle.sN]))
  obtain ⟨u8, eu⟩ := exa_v (Cond.before_iff.mp (hsets _ (List.mem_of_getElem? (i := 17) rfl)))
  have Sin : Sta s s.heap "sun/nio/cs/UTF_8" "INSTANCE" "Lsun/nio/cs/UTF_8;" (.ref u8) := Sta.start eu (Or.inl (hsets _ (List.mem_of_getElem? (i := 16) rfl)))
  have Su8 : Sta s s.heap "java/nio/charset/StandardCharsets" "UTF_8" "Ljava/nio/charset/Charset;" (.ref u8) := Sta.start (own_eqr eu (Cond.before_iff.mp (hsets _ (List.mem_of_getElem? (i := 4) rfl)))) (Or.inl (hsets _ (List.mem_of_getElem? (i := 1) rfl)))
  obtain ⟨ca, eca⟩ := exa_v (Cond.before_iff.mp (hsets _ (List.mem_of_getElem? (i := 21) rfl)))
  have Sc : Sta s s.heap "java/lang/Long$LongCache" "cache" "[Ljava/lang/Long;" (.ref ca) := Sta.start eca (Or.inl (hsets _ (List.mem_of_getElem? (i := 19) rfl)))
  obtain ⟨cl, Acl⟩ := Arr.start eca (Cond.before_iff.mp (hsets _ (List.mem_of_getElem? (i := 20) rfl)))
  obtain ⟨qlen, elen⟩ := own_len Acl eca (Cond.before_iff.mp (hsets _ (List.mem_of_getElem? (i := 22) rfl)))
  have Bx : Bxs s ca cl "java/lang/Long" "J" 256 (fun j => .long ((j - 128).toInt64)) := Bxs.start (fun _ => eca) Acl qlen elen (by decide) (Cond.before_iff.mp (hsets _ (List.mem_of_getElem? (i := 23) rfl))) (fun X j hj h => eqv_l (i2l_at (own_ix hj)) h)
  obtain ⟨n, o, h1, h2, h3, v, L, rfl, ⟨hQ, N, -⟩, hch, hq⟩ := c_law l s _ hw tables_1 i0 i1 i2 i3 i4 cz u8 ca cl s.heap Scs hcz Su8 Sin Sc Bx hWd (Old.start s) p e ha hc hk s m _ below hf ((Spec.applies_iff_loose hf).mp happ).1 ⟨rfl, State.Warmed39.refl s, rfl, hCH, fun _ q => nomatch q⟩ trivial
  obtain rfl := hQ
  exact ⟨n, _, h1, h2, h3, hpost _ _ _ _ _ _ ⟨Cond.after_iff.mpr rfl, Cond.after_iff.mpr (eq_i res_at (Term.int_eval (1)) rfl), trivial⟩ ⟨hq.1, hq.2.1, hq.2.2.1, (hq.2.2.2.sift fun y hy => Or.inr (N y hy)).mono (by decide) (by decide)⟩⟩
theorem main_1_1 : Claimed_1_1 := comes_1 fun _ _ _ _ _ _ h hF => ⟨h.1, hF⟩
theorem main_1_2 : Claimed_1_2 := comes_1 fun _ _ _ _ _ _ h hF => ⟨h.2.1, hF⟩
end Jvm.Pilot.@@N@@
namespace Jvm.Pilot.@@N@@
open Jvm Jvm.ClassFile Sem Op Lib Jvm.Free Jvm.Stand Jvm.Pilot.@@N@@.Jvm.D
/-! MADE BY PROGRAM (witnessworld.py) out of the Statement's table words and the real class files: 29 classes; the members and pool entries that the words name. The judged class is class 1, her method 1. -/
namespace start1
open Jvm.ClassFile
def u (s : String) : CpInfo := .utf8 (stringToUtf16 s)
/-- a pool by its gaps: so many unusable entries, then the entry; so many at the end -/
def gap : Nat → List CpInfo → List CpInfo
  | 0, r => r
  | n + 1, r => .unusable :: gap n r
def poolList (es : List (Nat × CpInfo)) (last : Nat) : List CpInfo := es.foldr (fun e r => gap e.1 (e.2 :: r)) (gap last [])
def pool (es : List (Nat × CpInfo)) (last : Nat) : Array CpInfo := ⟨poolList es last⟩
def fileOf (pool : Array CpInfo) (this : Nat) (attrs : Array Attribute := #[]) (ms : Array MethodInfo := #[]) (fl : Nat := 33) (sup : Nat := 0) (ifs : Array Nat := #[]) (fds : Array FieldInfo := #[]) : ClassFile where
  minorVersion := 0
  majorVersion := 65
  constantPool := pool
  accessFlags := fl
  thisClass := this
  superClass := sup
  interfaces := ifs
  fields := fds
  methods := ms
  attributes := attrs
def plain (name : String) (sup : Option ClassId) : Class where
  name := name
  kind := .ordinary
  loader := none
  accessFlags := 33
  super := sup
  interfaces := #[]
  cf := none
  fields := #[]
  methods := #[]
  instanceTypes := #[]
  staticTypes := #[]
  resolved := #[]
  callSites := []
  init := .initialized
  statics := none
  mirror := none

def pool0 : Array CpInfo := pool [(5, u "<init>"), (0, u "()V"), (1, .class_ 10), (1, u "java/lang/Object"), (85, u "clone"), (0, u "()Ljava/lang/Object;")] 26

def k0c0 : Code := { maxStack := 0, maxLocals := 1, code := object_method_1_code, exceptionTable := #[], attributes := #[] }
def k0m0 : Method := { name := "<init>", desc := "()V", sig := { parameters := [], returnType := none }, accessFlags := 1, code := some k0c0 }
def k0m1 : Method := { name := "clone", desc := "()Ljava/lang/Object;", sig := { parameters := [], returnType := some (.object "java/lang/Object") }, accessFlags := 260, code := none }
/-- java/lang/Object -/
def k0 : Class := { plain "java/lang/Object" none with
  accessFlags := 33
  interfaces := #[]
  cf := some (fileOf pool0 8 #[] #[{ accessFlags := 1, nameIndex := 5, descriptorIndex := 6, attributes := #[] }, { accessFlags := 260, nameIndex := 96, descriptorIndex := 97, attributes := #[] }] 33 0 #[] #[])
  fields := #[]
  methods := #[k0m0, k0m1]
  instanceTypes := #[]
  staticTypes := #[]
  resolved := Array.replicate 124 none
  statics := none }

def pool1 : Array CpInfo := pool [(2, .class_ 4), (1, u "java/lang/Object"), (0, u "<init>"), (0, u "()V"), (0, .class_ 8), (0, u "com/example/outbox_relay/outboxrelay/OutboxMessage"), (0, .string 10), (0, u ""), (0, .methodref 7 12), (0, .nameAndType 5 13), (0, u "(Ljava/lang/String;Ljava/lang/String;Ljava/lang/String;)V"), (0, .class_ 15), (0, u "com/example/outbox_relay/outboxrelay/OutboxRecord"), (0, .methodref 14 17), (0, .nameAndType 5 18), (0, u "(JILcom/example/outbox_relay/outboxrelay/OutboxMessage;)V"), (0, .methodref 20 21), (0, .class_ 22), (0, .nameAndType 23 24), (0, u "java/lang/Long"), (0, u "valueOf"), (0, u "(J)Ljava/lang/Long;"), (0, .methodref 14 26), (0, .nameAndType 27 28), (0, u "equals"), (0, u "(Ljava/lang/Object;)Z"), (0, .class_ 30), (0, u "com/example/outbox_relay/outboxrelay/OutboxRecordEqualsPinLaw"), (2, u "law"), (0, u "(JJIII)Z")] 3

def k1m0 : Method := { name := "<init>", desc := "()V", sig := { parameters := [], returnType := none }, accessFlags := 1, code := none }
def k1c1 : Code := { maxStack := 6, maxLocals := 14, code := code, exceptionTable := #[], attributes := #[] }
def k1m1 : Method := { name := "law", desc := "(JJIII)Z", sig := { parameters := [.long, .long, .int, .int, .int], returnType := some .boolean }, accessFlags := 9, code := some k1c1 }
/-- com/example/outbox_relay/outboxrelay/OutboxRecordEqualsPinLaw -/
def k1 : Class := { plain "com/example/outbox_relay/outboxrelay/OutboxRecordEqualsPinLaw" (some 0) with
  accessFlags := 49
  interfaces := #[]
  cf := some (fileOf pool1 29 #[] #[{ accessFlags := 1, nameIndex := 5, descriptorIndex := 6, attributes := #[] }, { accessFlags := 9, nameIndex := 33, descriptorIndex := 34, attributes := #[] }] 49 2 #[] #[])
  fields := #[]
  methods := #[k1m0, k1m1]
  instanceTypes := #[]
  staticTypes := #[]
  resolved := Array.replicate 38 none
  statics := none }

def pool2 : Array CpInfo := pool [(1, .string 2), (0, u "exchange"), (0, .class_ 4), (0, u "com/example/outbox_relay/outboxrelay/OutboxMessage"), (0, .methodref 3 6), (0, .nameAndType 7 8), (0, u "requireUtf8AtMost"), (0, u "(Ljava/lang/String;Ljava/lang/String;I)Ljava/lang/String;"), (0, .string 10), (0, u "routing key"), (0, .string 12), (0, u "payload"), (0, .integer 1048576), (0, .methodref 3 15), (0, .nameAndType 16 17), (0, u "<init>"), (0, u "(Ljava/lang/String;Ljava/lang/String;Ljava/lang/String;Ljava/lang/String;Ljava/lang/String;Ljava/lang/String;)V"), (0, .methodref 19 20), (0, .class_ 21), (0, .nameAndType 16 22), (0, u "java/lang/Object"), (0, u "()V"), (0, .fieldref 3 24), (0, .nameAndType 2 25), (0, u "Ljava/lang/String;"), (0, .fieldref 3 27), (0, .nameAndType 28 25), (0, u "routingKey"), (0, .fieldref 3 30), (0, .nameAndType 12 25), (0, .fieldref 3 32), (0, .nameAndType 33 25), (0, u "messageId"), (0, .fieldref 3 35), (0, .nameAndType 36 25), (0, u "businessModule"), (0, .fieldref 3 38), (0, .nameAndType 39 25), (0, u "businessKey"), (2, .methodref 43 44), (0, .class_ 45), (0, .nameAndType 46 47), (0, u "java/util/Objects"), (0, u "requireNonNull"), (0, u "(Ljava/lang/Object;Ljava/lang/String;)Ljava/lang/Object;"), (1, .class_ 51), (1, u "java/lang/String"), (13, .fieldref 66 67), (0, .class_ 68), (0, .nameAndType 69 70), (0, u "java/nio/charset/StandardCharsets"), (0, u "UTF_8"), (0, u "Ljava/nio/charset/Charset;"), (0, .methodref 49 72), (0, .nameAndType 73 74), (0, u "getBytes"), (0, u "(Ljava/nio/charset/Charset;)[B"), (4, u "MAX_NAME_BYTES"), (0, u "I"), (2, u "MAX_PAYLOAD_BYTES"), (0, u "MAX_MESSAGE_ID_CHARS"), (1, u "(Ljava/lang/String;Ljava/lang/String;Ljava/lang/String;)V")] 31

def k2c0 : Code := { maxStack := 7, maxLocals := 4, code := prog_1_method_1_code, exceptionTable := #[], attributes := #[] }
def k2m0 : Method := { name := "<init>", desc := "(Ljava/lang/String;Ljava/lang/String;Ljava/lang/String;)V", sig := { parameters := [(.object "java/lang/String"), (.object "java/lang/String"), (.object "java/lang/String")], returnType := none }, accessFlags := 1, code := some k2c0 }
def k2c1 : Code := { maxStack := 2, maxLocals := 7, code := prog_1_method_2_code, exceptionTable := #[], attributes := #[] }
def k2m1 : Method := { name := "<init>", desc := "(Ljava/lang/String;Ljava/lang/String;Ljava/lang/String;Ljava/lang/String;Ljava/lang/String;Ljava/lang/String;)V", sig := { parameters := [(.object "java/lang/String"), (.object "java/lang/String"), (.object "java/lang/String"), (.object "java/lang/String"), (.object "java/lang/String"), (.object "java/lang/String")], returnType := none }, accessFlags := 2, code := some k2c1 }
def k2c2 : Code := { maxStack := 4, maxLocals := 3, code := prog_1_method_12_code, exceptionTable := #[], attributes := #[] }
def k2m2 : Method := { name := "requireUtf8AtMost", desc := "(Ljava/lang/String;Ljava/lang/String;I)Ljava/lang/String;", sig := { parameters := [(.object "java/lang/String"), (.object "java/lang/String"), .int], returnType := some (.object "java/lang/String") }, accessFlags := 10, code := some k2c2 }
/-- com/example/outbox_relay/outboxrelay/OutboxMessage -/
def k2 : Class := { plain "com/example/outbox_relay/outboxrelay/OutboxMessage" (some 0) with
  accessFlags := 33
  interfaces := #[]
  cf := some (fileOf pool2 3 #[] #[{ accessFlags := 1, nameIndex := 16, descriptorIndex := 86, attributes := #[] }, { accessFlags := 2, nameIndex := 16, descriptorIndex := 17, attributes := #[] }, { accessFlags := 10, nameIndex := 7, descriptorIndex := 8, attributes := #[] }] 33 19 #[] #[{ accessFlags := 24, nameIndex := 79, descriptorIndex := 80, attributes := #[] }, { accessFlags := 24, nameIndex := 83, descriptorIndex := 80, attributes := #[] }, { accessFlags := 24, nameIndex := 84, descriptorIndex := 80, attributes := #[] }, { accessFlags := 18, nameIndex := 2, descriptorIndex := 25, attributes := #[] }, { accessFlags := 18, nameIndex := 28, descriptorIndex := 25, attributes := #[] }, { accessFlags := 18, nameIndex := 12, descriptorIndex := 25, attributes := #[] }, { accessFlags := 18, nameIndex := 33, descriptorIndex := 25, attributes := #[] }, { accessFlags := 18, nameIndex := 36, descriptorIndex := 25, attributes := #[] }, { accessFlags := 18, nameIndex := 39, descriptorIndex := 25, attributes := #[] }])
  fields := #[{ name := "MAX_NAME_BYTES", type := .int, accessFlags := 24, slot := 0, constantValue := 0 }, { name := "MAX_PAYLOAD_BYTES", type := .int, accessFlags := 24, slot := 1, constantValue := 0 }, { name := "MAX_MESSAGE_ID_CHARS", type := .int, accessFlags := 24, slot := 2, constantValue := 0 }, { name := "exchange", type := (.object "java/lang/String"), accessFlags := 18, slot := 0, constantValue := 0 }, { name := "routingKey", type := (.object "java/lang/String"), accessFlags := 18, slot := 1, constantValue := 0 }, { name := "payload", type := (.object "java/lang/String"), accessFlags := 18, slot := 2, constantValue := 0 }, { name := "messageId", type := (.object "java/lang/String"), accessFlags := 18, slot := 3, constantValue := 0 }, { name := "businessModule", type := (.object "java/lang/String"), accessFlags := 18, slot := 4, constantValue := 0 }, { name := "businessKey", type := (.object "java/lang/String"), accessFlags := 18, slot := 5, constantValue := 0 }]
  methods := #[k2m0, k2m1, k2m2]
  instanceTypes := #[(.object "java/lang/String"), (.object "java/lang/String"), (.object "java/lang/String"), (.object "java/lang/String"), (.object "java/lang/String"), (.object "java/lang/String")]
  staticTypes := #[.int, .int, .int]
  resolved := Array.replicate 118 none
  statics := none }

def pool3 : Array CpInfo := pool [(1, .class_ 2), (0, u "java/io/Serializable"), (0, .class_ 4), (0, u "java/lang/Object")] 2

/-- java/io/Serializable -/
def k3 : Class := { plain "java/io/Serializable" (some 0) with
  accessFlags := 1537
  interfaces := #[]
  cf := some (fileOf pool3 1 #[] #[] 1537 3 #[] #[])
  fields := #[]
  methods := #[]
  instanceTypes := #[]
  staticTypes := #[]
  resolved := Array.replicate 7 none
  statics := none }

def pool4 : Array CpInfo := pool [(1, .class_ 2), (0, u "java/lang/Comparable"), (0, .class_ 4), (0, u "java/lang/Object")] 7

/-- java/lang/Comparable -/
def k4 : Class := { plain "java/lang/Comparable" (some 0) with
  accessFlags := 1537
  interfaces := #[]
  cf := some (fileOf pool4 1 #[] #[] 1537 3 #[] #[])
  fields := #[]
  methods := #[]
  instanceTypes := #[]
  staticTypes := #[]
  resolved := Array.replicate 12 none
  statics := none }

def pool5 : Array CpInfo := pool [(2, .class_ 4), (1, u "java/lang/CharSequence"), (42, .class_ 48), (0, u "java/lang/CharSequence$1CodePointIterator"), (10, .class_ 60), (0, u "java/lang/CharSequence$1CharIterator"), (5, .class_ 67), (0, u "java/lang/Object")] 63

/-- java/lang/CharSequence -/
def k5 : Class := { plain "java/lang/CharSequence" (some 0) with
  accessFlags := 1537
  interfaces := #[]
  cf := some (fileOf pool5 2 #[.nestMembers #[47, 59]] #[] 1537 66 #[] #[])
  fields := #[]
  methods := #[]
  instanceTypes := #[]
  staticTypes := #[]
  resolved := Array.replicate 131 none
  statics := none }

def pool6 : Array CpInfo := pool [(1, .class_ 2), (0, u "java/lang/constant/Constable"), (0, .class_ 4), (0, u "java/lang/Object")] 6

/-- java/lang/constant/Constable -/
def k6 : Class := { plain "java/lang/constant/Constable" (some 0) with
  accessFlags := 1537
  interfaces := #[]
  cf := some (fileOf pool6 1 #[] #[] 1537 3 #[] #[])
  fields := #[]
  methods := #[]
  instanceTypes := #[]
  staticTypes := #[]
  resolved := Array.replicate 11 none
  statics := none }

def pool7 : Array CpInfo := pool [(1, .class_ 2), (0, u "java/lang/constant/ConstantDesc"), (0, .class_ 4), (0, u "java/lang/Object")] 32

/-- java/lang/constant/ConstantDesc -/
def k7 : Class := { plain "java/lang/constant/ConstantDesc" (some 0) with
  accessFlags := 1537
  interfaces := #[]
  cf := some (fileOf pool7 1 #[] #[] 1537 3 #[] #[])
  fields := #[]
  methods := #[]
  instanceTypes := #[]
  staticTypes := #[]
  resolved := Array.replicate 37 none
  statics := none }

def pool8 : Array CpInfo := pool [(2, .class_ 4), (1, u "java/lang/Object"), (0, u "<init>"), (0, u "()V"), (2, .fieldref 10 11), (0, .class_ 12), (0, .nameAndType 13 14), (0, u "java/lang/String"), (0, u "value"), (0, u "[B"), (0, .fieldref 10 16), (0, .nameAndType 17 18), (0, u "coder"), (0, u "B"), (2, u "hash"), (0, u "I"), (2, u "hashIsZero"), (0, u "Z"), (11, .fieldref 10 39), (0, .nameAndType 40 26), (0, u "COMPACT_STRINGS"), (45, .fieldref 87 88), (0, .class_ 89), (0, .nameAndType 90 91), (0, u "sun/nio/cs/UTF_8"), (0, u "INSTANCE"), (0, u "Lsun/nio/cs/UTF_8;"), (1, .class_ 95), (1, u "java/lang/StringCoding"), (32, .methodref 93 129), (0, .nameAndType 130 131), (0, u "hasNegatives"), (0, u "([BII)Z"), (120, .methodref 10 253), (0, .nameAndType 254 255), (0, u "encodeUTF8"), (0, u "(B[BZ)[B"), (23, .methodref 280 281), (0, .class_ 14), (0, .nameAndType 282 283), (0, u "clone"), (0, u "()Ljava/lang/Object;"), (33, u "encode"), (17, .methodref 10 336), (0, .nameAndType 17 337), (0, u "()B"), (194, u "getBytes"), (2, .methodref 10 536), (0, .nameAndType 317 537), (0, u "(Ljava/nio/charset/Charset;B[B)[B"), (37, .class_ 576), (0, u "java/lang/CharSequence"), (22, u "CASE_INSENSITIVE_ORDER"), (0, u "Ljava/util/Comparator;"), (500, u "serialPersistentFields"), (0, u "[Ljava/io/ObjectStreamField;"), (0, .class_ 1104), (0, u "java/lang/String$CaseInsensitiveComparator"), (1, .class_ 1107), (0, u "java/io/Serializable"), (0, .class_ 1109), (0, u "java/lang/Comparable"), (0, .class_ 1111), (0, u "java/lang/constant/Constable"), (0, .class_ 1113), (0, u "java/lang/constant/ConstantDesc"), (2, u "serialVersionUID"), (0, u "J"), (3, u "REPL"), (0, u "C"), (2, u "LATIN1"), (1, u "UTF16"), (117, u "(Ljava/nio/charset/Charset;)[B")] 205

def k8m0 : Method := { name := "<init>", desc := "()V", sig := { parameters := [], returnType := none }, accessFlags := 1, code := none }
def k8c1 : Code := { maxStack := 4, maxLocals := 3, code := jdk_42_method_18_code, exceptionTable := #[], attributes := #[] }
def k8m1 : Method := { name := "encode", desc := "(Ljava/nio/charset/Charset;B[B)[B", sig := { parameters := [(.object "java/nio/charset/Charset"), .byte, (.array .byte)], returnType := some (.array .byte) }, accessFlags := 10, code := some k8c1 }
def k8c2 : Code := { maxStack := 5, maxLocals := 9, code := jdk_42_method_46_code, exceptionTable := #[], attributes := #[] }
def k8m2 : Method := { name := "encodeUTF8", desc := "(B[BZ)[B", sig := { parameters := [.byte, (.array .byte), .boolean], returnType := some (.array .byte) }, accessFlags := 10, code := some k8c2 }
def k8c3 : Code := { maxStack := 3, maxLocals := 2, code := jdk_42_method_64_code, exceptionTable := #[], attributes := #[] }
def k8m3 : Method := { name := "getBytes", desc := "(Ljava/nio/charset/Charset;)[B", sig := { parameters := [(.object "java/nio/charset/Charset")], returnType := some (.array .byte) }, accessFlags := 1, code := some k8c3 }
def k8c4 : Code := { maxStack := 1, maxLocals := 1, code := jdk_42_method_152_code, exceptionTable := #[], attributes := #[] }
def k8m4 : Method := { name := "coder", desc := "()B", sig := { parameters := [], returnType := some .byte }, accessFlags := 0, code := some k8c4 }
/-- java/lang/String -/
def k8 : Class := { plain "java/lang/String" (some 0) with
  accessFlags := 49
  interfaces := #[3, 4, 5, 6, 7]
  cf := some (fileOf pool8 10 #[.nestMembers #[1103]] #[{ accessFlags := 1, nameIndex := 5, descriptorIndex := 6, attributes := #[] }, { accessFlags := 10, nameIndex := 317, descriptorIndex := 537, attributes := #[] }, { accessFlags := 10, nameIndex := 254, descriptorIndex := 255, attributes := #[] }, { accessFlags := 1, nameIndex := 532, descriptorIndex := 1245, attributes := #[] }, { accessFlags := 0, nameIndex := 17, descriptorIndex := 337, attributes := #[] }] 49 2 #[1106, 1108, 575, 1110, 1112] #[{ accessFlags := 18, nameIndex := 13, descriptorIndex := 14, attributes := #[] }, { accessFlags := 18, nameIndex := 17, descriptorIndex := 18, attributes := #[] }, { accessFlags := 2, nameIndex := 21, descriptorIndex := 22, attributes := #[] }, { accessFlags := 2, nameIndex := 25, descriptorIndex := 26, attributes := #[] }, { accessFlags := 26, nameIndex := 1116, descriptorIndex := 1117, attributes := #[] }, { accessFlags := 24, nameIndex := 40, descriptorIndex := 26, attributes := #[] }, { accessFlags := 26, nameIndex := 1101, descriptorIndex := 1102, attributes := #[] }, { accessFlags := 26, nameIndex := 1121, descriptorIndex := 1122, attributes := #[] }, { accessFlags := 25, nameIndex := 599, descriptorIndex := 600, attributes := #[] }, { accessFlags := 24, nameIndex := 1125, descriptorIndex := 18, attributes := #[] }, { accessFlags := 24, nameIndex := 1127, descriptorIndex := 18, attributes := #[] }])
  fields := #[{ name := "value", type := (.array .byte), accessFlags := 18, slot := 0, constantValue := 0 }, { name := "coder", type := .byte, accessFlags := 18, slot := 1, constantValue := 0 }, { name := "hash", type := .int, accessFlags := 2, slot := 2, constantValue := 0 }, { name := "hashIsZero", type := .boolean, accessFlags := 2, slot := 3, constantValue := 0 }, { name := "serialVersionUID", type := .long, accessFlags := 26, slot := 0, constantValue := 0 }, { name := "COMPACT_STRINGS", type := .boolean, accessFlags := 24, slot := 1, constantValue := 0 }, { name := "serialPersistentFields", type := (.array (.object "java/io/ObjectStreamField")), accessFlags := 26, slot := 2, constantValue := 0 }, { name := "REPL", type := .char, accessFlags := 26, slot := 3, constantValue := 0 }, { name := "CASE_INSENSITIVE_ORDER", type := (.object "java/util/Comparator"), accessFlags := 25, slot := 4, constantValue := 0 }, { name := "LATIN1", type := .byte, accessFlags := 24, slot := 5, constantValue := 0 }, { name := "UTF16", type := .byte, accessFlags := 24, slot := 6, constantValue := 0 }]
  methods := #[k8m0, k8m1, k8m2, k8m3, k8m4]
  instanceTypes := #[(.array .byte), .byte, .int, .boolean]
  staticTypes := #[.long, .boolean, (.array (.object "java/io/ObjectStreamField")), .char, (.object "java/util/Comparator"), .byte, .byte]
  resolved := Array.replicate 1451 none
  statics := some 0 }

def pool9 : Array CpInfo := pool [(2, .class_ 4), (1, u "java/lang/Object"), (0, u "<init>"), (0, u "()V"), (35, .class_ 44), (1, u "java/util/Objects"), (0, u "requireNonNull"), (48, u "(Ljava/lang/Object;Ljava/lang/String;)Ljava/lang/Object;")] 89

def k9m0 : Method := { name := "<init>", desc := "()V", sig := { parameters := [], returnType := none }, accessFlags := 2, code := none }
def k9c1 : Code := { maxStack := 3, maxLocals := 2, code := jdk_31_method_11_code, exceptionTable := #[], attributes := #[] }
def k9m1 : Method := { name := "requireNonNull", desc := "(Ljava/lang/Object;Ljava/lang/String;)Ljava/lang/Object;", sig := { parameters := [(.object "java/lang/Object"), (.object "java/lang/String")], returnType := some (.object "java/lang/Object") }, accessFlags := 9, code := some k9c1 }
/-- java/util/Objects -/
def k9 : Class := { plain "java/util/Objects" (some 0) with
  accessFlags := 49
  interfaces := #[]
  cf := some (fileOf pool9 42 #[] #[{ accessFlags := 2, nameIndex := 5, descriptorIndex := 6, attributes := #[] }, { accessFlags := 9, nameIndex := 45, descriptorIndex := 94, attributes := #[] }] 49 2 #[] #[])
  fields := #[]
  methods := #[k9m0, k9m1]
  instanceTypes := #[]
  staticTypes := #[]
  resolved := Array.replicate 184 none
  statics := none }

def pool10 : Array CpInfo := pool [(2, .class_ 4), (1, u "java/lang/Object"), (0, u "<init>"), (0, u "()V"), (14, .class_ 23), (1, u "java/nio/charset/StandardCharsets"), (0, u "US_ASCII"), (0, u "Ljava/nio/charset/Charset;"), (7, u "ISO_8859_1"), (7, u "UTF_8"), (5, u "UTF_16BE"), (5, u "UTF_16LE"), (5, u "UTF_16")] 8

def k10m0 : Method := { name := "<init>", desc := "()V", sig := { parameters := [], returnType := none }, accessFlags := 2, code := none }
/-- java/nio/charset/StandardCharsets -/
def k10 : Class := { plain "java/nio/charset/StandardCharsets" (some 0) with
  accessFlags := 49
  interfaces := #[]
  cf := some (fileOf pool10 21 #[] #[{ accessFlags := 2, nameIndex := 5, descriptorIndex := 6, attributes := #[] }] 49 2 #[] #[{ accessFlags := 25, nameIndex := 24, descriptorIndex := 25, attributes := #[] }, { accessFlags := 25, nameIndex := 33, descriptorIndex := 25, attributes := #[] }, { accessFlags := 25, nameIndex := 41, descriptorIndex := 25, attributes := #[] }, { accessFlags := 25, nameIndex := 47, descriptorIndex := 25, attributes := #[] }, { accessFlags := 25, nameIndex := 53, descriptorIndex := 25, attributes := #[] }, { accessFlags := 25, nameIndex := 59, descriptorIndex := 25, attributes := #[] }])
  fields := #[{ name := "US_ASCII", type := (.object "java/nio/charset/Charset"), accessFlags := 25, slot := 0, constantValue := 0 }, { name := "ISO_8859_1", type := (.object "java/nio/charset/Charset"), accessFlags := 25, slot := 1, constantValue := 0 }, { name := "UTF_8", type := (.object "java/nio/charset/Charset"), accessFlags := 25, slot := 2, constantValue := 0 }, { name := "UTF_16BE", type := (.object "java/nio/charset/Charset"), accessFlags := 25, slot := 3, constantValue := 0 }, { name := "UTF_16LE", type := (.object "java/nio/charset/Charset"), accessFlags := 25, slot := 4, constantValue := 0 }, { name := "UTF_16", type := (.object "java/nio/charset/Charset"), accessFlags := 25, slot := 5, constantValue := 0 }]
  methods := #[k10m0]
  instanceTypes := #[]
  staticTypes := #[(.object "java/nio/charset/Charset"), (.object "java/nio/charset/Charset"), (.object "java/nio/charset/Charset"), (.object "java/nio/charset/Charset"), (.object "java/nio/charset/Charset"), (.object "java/nio/charset/Charset")]
  resolved := Array.replicate 68 none
  statics := some 1 }

def pool11 : Array CpInfo := pool [(18, .class_ 20), (1, u "java/nio/charset/Charset"), (0, u "cache1"), (0, u "[Ljava/lang/Object;"), (2, u "cache2"), (0, .class_ 27), (0, u "java/lang/Object"), (0, .class_ 29), (0, u "java/nio/charset/Charset$1"), (4, .class_ 36), (1, u "java/nio/charset/Charset$ThreadTrackHolder"), (21, .class_ 59), (0, u "java/nio/charset/Charset$2"), (11, .class_ 73), (1, u "java/nio/charset/Charset$ExtendedProviderHolder"), (22, u "standardProvider"), (0, u "Ljava/nio/charset/spi/CharsetProvider;"), (29, u "name"), (7, .class_ 136), (0, u "java/nio/charset/Charset$3"), (5, u "defaultCharset"), (0, u "Ljava/nio/charset/Charset;"), (14, u "zeroAliases"), (0, u "[Ljava/lang/String;"), (29, u "Ljava/lang/String;"), (2, u "aliases"), (2, u "aliasSet"), (0, u "Ljava/util/Set;"), (82, .class_ 280), (0, u "java/lang/Comparable"), (84, .class_ 366), (0, u "java/nio/charset/Charset$ExtendedProviderHolder$1")] 3

/-- java/nio/charset/Charset -/
def k11 : Class := { plain "java/nio/charset/Charset" (some 0) with
  accessFlags := 1057
  interfaces := #[4]
  cf := some (fileOf pool11 18 #[.nestMembers #[71, 365, 34, 135, 58, 28]] #[] 1057 26 #[279] #[{ accessFlags := 26, nameIndex := 96, descriptorIndex := 97, attributes := #[] }, { accessFlags := 26, nameIndex := 158, descriptorIndex := 159, attributes := #[] }, { accessFlags := 74, nameIndex := 21, descriptorIndex := 22, attributes := #[] }, { accessFlags := 74, nameIndex := 25, descriptorIndex := 22, attributes := #[] }, { accessFlags := 10, nameIndex := 142, descriptorIndex := 143, attributes := #[] }, { accessFlags := 18, nameIndex := 127, descriptorIndex := 189, attributes := #[] }, { accessFlags := 18, nameIndex := 192, descriptorIndex := 159, attributes := #[] }, { accessFlags := 2, nameIndex := 195, descriptorIndex := 196, attributes := #[] }])
  fields := #[{ name := "standardProvider", type := (.object "java/nio/charset/spi/CharsetProvider"), accessFlags := 26, slot := 0, constantValue := 0 }, { name := "zeroAliases", type := (.array (.object "java/lang/String")), accessFlags := 26, slot := 1, constantValue := 0 }, { name := "cache1", type := (.array (.object "java/lang/Object")), accessFlags := 74, slot := 2, constantValue := 0 }, { name := "cache2", type := (.array (.object "java/lang/Object")), accessFlags := 74, slot := 3, constantValue := 0 }, { name := "defaultCharset", type := (.object "java/nio/charset/Charset"), accessFlags := 10, slot := 4, constantValue := 0 }, { name := "name", type := (.object "java/lang/String"), accessFlags := 18, slot := 0, constantValue := 0 }, { name := "aliases", type := (.array (.object "java/lang/String")), accessFlags := 18, slot := 1, constantValue := 0 }, { name := "aliasSet", type := (.object "java/util/Set"), accessFlags := 2, slot := 2, constantValue := 0 }]
  methods := #[]
  instanceTypes := #[(.object "java/lang/String"), (.array (.object "java/lang/String")), (.object "java/util/Set")]
  staticTypes := #[(.object "java/nio/charset/spi/CharsetProvider"), (.array (.object "java/lang/String")), (.array (.object "java/lang/Object")), (.array (.object "java/lang/Object")), (.object "java/nio/charset/Charset")]
  resolved := Array.replicate 370 none
  statics := none }

def pool12 : Array CpInfo := pool [(1, .class_ 2), (0, u "sun/nio/cs/HistoricallyNamedCharset"), (0, .class_ 4), (0, u "java/lang/Object")] 4

/-- sun/nio/cs/HistoricallyNamedCharset -/
def k12 : Class := { plain "sun/nio/cs/HistoricallyNamedCharset" (some 0) with
  accessFlags := 1537
  interfaces := #[]
  cf := some (fileOf pool12 1 #[] #[] 1537 3 #[] #[])
  fields := #[]
  methods := #[]
  instanceTypes := #[]
  staticTypes := #[]
  resolved := Array.replicate 9 none
  statics := none }

def pool13 : Array CpInfo := pool [(2, .class_ 4), (1, u "java/nio/charset/Charset"), (130, .class_ 136), (0, u "sun/nio/cs/Unicode"), (0, .class_ 138), (0, u "sun/nio/cs/HistoricallyNamedCharset")] 15

/-- sun/nio/cs/Unicode -/
def k13 : Class := { plain "sun/nio/cs/Unicode" (some 11) with
  accessFlags := 1056
  interfaces := #[12]
  cf := some (fileOf pool13 135 #[] #[] 1056 2 #[137] #[])
  fields := #[]
  methods := #[]
  instanceTypes := #[(.object "java/lang/String"), (.array (.object "java/lang/String")), (.object "java/util/Set")]
  staticTypes := #[]
  resolved := Array.replicate 154 none
  statics := none }

def pool14 : Array CpInfo := pool [(10, .class_ 12), (1, u "sun/nio/cs/Unicode"), (0, u "<init>"), (3, .class_ 18), (0, u "sun/nio/cs/UTF_8$Decoder"), (3, .class_ 23), (0, u "sun/nio/cs/UTF_8$Encoder"), (15, .class_ 40), (0, u "sun/nio/cs/UTF_8"), (2, u "()V"), (2, u "INSTANCE"), (0, u "Lsun/nio/cs/UTF_8;"), (8, u "JLA"), (0, u "Ljdk/internal/access/JavaLangAccess;")] 26

def k14m0 : Method := { name := "<init>", desc := "()V", sig := { parameters := [], returnType := none }, accessFlags := 1, code := none }
/-- sun/nio/cs/UTF_8 -/
def k14 : Class := { plain "sun/nio/cs/UTF_8" (some 13) with
  accessFlags := 49
  interfaces := #[]
  cf := some (fileOf pool14 39 #[.nestMembers #[22, 17]] #[{ accessFlags := 1, nameIndex := 13, descriptorIndex := 43, attributes := #[] }] 49 10 #[] #[{ accessFlags := 25, nameIndex := 46, descriptorIndex := 47, attributes := #[] }, { accessFlags := 26, nameIndex := 56, descriptorIndex := 57, attributes := #[] }])
  fields := #[{ name := "INSTANCE", type := (.object "sun/nio/cs/UTF_8"), accessFlags := 25, slot := 0, constantValue := 0 }, { name := "JLA", type := (.object "jdk/internal/access/JavaLangAccess"), accessFlags := 26, slot := 1, constantValue := 0 }]
  methods := #[k14m0]
  instanceTypes := #[(.object "java/lang/String"), (.array (.object "java/lang/String")), (.object "java/util/Set")]
  staticTypes := #[(.object "sun/nio/cs/UTF_8"), (.object "jdk/internal/access/JavaLangAccess")]
  resolved := Array.replicate 84 none
  statics := some 2 }

def pool15 : Array CpInfo := pool [(2, .class_ 4), (1, u "java/lang/Object"), (0, u "<init>"), (0, u "()V"), (0, .methodref 8 9), (0, .class_ 10), (0, .nameAndType 11 12), (0, u "java/lang/StringCoding"), (0, u "countPositives"), (0, u "([BII)I"), (11, u "hasNegatives"), (0, u "([BII)Z")] 23

def k15m0 : Method := { name := "<init>", desc := "()V", sig := { parameters := [], returnType := none }, accessFlags := 2, code := none }
def k15c1 : Code := { maxStack := 3, maxLocals := 3, code := jdk_123_method_2_code, exceptionTable := #[], attributes := #[] }
def k15m1 : Method := { name := "hasNegatives", desc := "([BII)Z", sig := { parameters := [(.array .byte), .int, .int], returnType := some .boolean }, accessFlags := 9, code := some k15c1 }
def k15c2 : Code := { maxStack := 2, maxLocals := 5, code := jdk_123_method_3_code, exceptionTable := #[], attributes := #[] }
def k15m2 : Method := { name := "countPositives", desc := "([BII)I", sig := { parameters := [(.array .byte), .int, .int], returnType := some .int }, accessFlags := 9, code := some k15c2 }
/-- java/lang/StringCoding -/
def k15 : Class := { plain "java/lang/StringCoding" (some 0) with
  accessFlags := 32
  interfaces := #[]
  cf := some (fileOf pool15 8 #[] #[{ accessFlags := 2, nameIndex := 5, descriptorIndex := 6, attributes := #[] }, { accessFlags := 9, nameIndex := 24, descriptorIndex := 25, attributes := #[] }, { accessFlags := 9, nameIndex := 11, descriptorIndex := 12, attributes := #[] }] 32 2 #[] #[])
  fields := #[]
  methods := #[k15m0, k15m1, k15m2]
  instanceTypes := #[]
  staticTypes := #[]
  resolved := Array.replicate 49 none
  statics := none }

def pool16 : Array CpInfo := pool [(1, .class_ 2), (0, u "java/lang/Cloneable"), (0, .class_ 4), (0, u "java/lang/Object")] 2

/-- java/lang/Cloneable -/
def k16 : Class := { plain "java/lang/Cloneable" (some 0) with
  accessFlags := 1537
  interfaces := #[]
  cf := some (fileOf pool16 1 #[] #[] 1537 3 #[] #[])
  fields := #[]
  methods := #[]
  instanceTypes := #[]
  staticTypes := #[]
  resolved := Array.replicate 7 none
  statics := none }

def pool17 : Array CpInfo := pool [(1, .methodref 2 3), (0, .class_ 4), (0, .nameAndType 5 6), (0, u "java/lang/Object"), (0, u "<init>"), (0, u "()V"), (0, .fieldref 8 9), (0, .class_ 10), (0, .nameAndType 11 12), (0, u "com/example/outbox_relay/outboxrelay/OutboxRecord"), (0, u "id"), (0, u "J"), (0, .fieldref 8 14), (0, .nameAndType 15 16), (0, u "attempts"), (0, u "I"), (0, .fieldref 8 18), (0, .nameAndType 19 20), (0, u "message"), (0, u "Lcom/example/outbox_relay/outboxrelay/OutboxMessage;"), (6, u "(JILcom/example/outbox_relay/outboxrelay/OutboxMessage;)V"), (8, u "equals"), (0, u "(Ljava/lang/Object;)Z")] 3

def k17c0 : Code := { maxStack := 3, maxLocals := 5, code := prog_2_method_1_code, exceptionTable := #[], attributes := #[] }
def k17m0 : Method := { name := "<init>", desc := "(JILcom/example/outbox_relay/outboxrelay/OutboxMessage;)V", sig := { parameters := [.long, .int, (.object "com/example/outbox_relay/outboxrelay/OutboxMessage")], returnType := none }, accessFlags := 0, code := some k17c0 }
def k17c1 : Code := { maxStack := 4, maxLocals := 2, code := prog_2_method_5_code, exceptionTable := #[], attributes := #[] }
def k17m1 : Method := { name := "equals", desc := "(Ljava/lang/Object;)Z", sig := { parameters := [(.object "java/lang/Object")], returnType := some .boolean }, accessFlags := 1, code := some k17c1 }
/-- com/example/outbox_relay/outboxrelay/OutboxRecord -/
def k17 : Class := { plain "com/example/outbox_relay/outboxrelay/OutboxRecord" (some 0) with
  accessFlags := 32
  interfaces := #[]
  cf := some (fileOf pool17 8 #[] #[{ accessFlags := 0, nameIndex := 5, descriptorIndex := 27, attributes := #[] }, { accessFlags := 1, nameIndex := 36, descriptorIndex := 37, attributes := #[] }] 32 2 #[] #[{ accessFlags := 18, nameIndex := 11, descriptorIndex := 12, attributes := #[] }, { accessFlags := 18, nameIndex := 15, descriptorIndex := 16, attributes := #[] }, { accessFlags := 18, nameIndex := 19, descriptorIndex := 20, attributes := #[] }])
  fields := #[{ name := "id", type := .long, accessFlags := 18, slot := 0, constantValue := 0 }, { name := "attempts", type := .int, accessFlags := 18, slot := 1, constantValue := 0 }, { name := "message", type := (.object "com/example/outbox_relay/outboxrelay/OutboxMessage"), accessFlags := 18, slot := 2, constantValue := 0 }]
  methods := #[k17m0, k17m1]
  instanceTypes := #[.long, .int, (.object "com/example/outbox_relay/outboxrelay/OutboxMessage")]
  staticTypes := #[]
  resolved := Array.replicate 41 none
  statics := none }

def pool18 : Array CpInfo := pool [(1, .methodref 2 3), (0, .class_ 4), (0, .nameAndType 5 6), (0, u "java/lang/Object"), (0, u "<init>"), (0, u "()V"), (1, .class_ 10), (1, u "java/lang/Number"), (2, .class_ 14), (0, u "java/io/Serializable"), (0, u "serialVersionUID"), (0, u "J")] 20

def k18c0 : Code := { maxStack := 1, maxLocals := 1, code := jdk_18_method_1_code, exceptionTable := #[], attributes := #[] }
def k18m0 : Method := { name := "<init>", desc := "()V", sig := { parameters := [], returnType := none }, accessFlags := 1, code := some k18c0 }
/-- java/lang/Number -/
def k18 : Class := { plain "java/lang/Number" (some 0) with
  accessFlags := 1057
  interfaces := #[3]
  cf := some (fileOf pool18 8 #[] #[{ accessFlags := 1, nameIndex := 5, descriptorIndex := 6, attributes := #[] }] 1057 2 #[13] #[{ accessFlags := 26, nameIndex := 15, descriptorIndex := 16, attributes := #[] }])
  fields := #[{ name := "serialVersionUID", type := .long, accessFlags := 26, slot := 0, constantValue := 0 }]
  methods := #[k18m0]
  instanceTypes := #[]
  staticTypes := #[.long]
  resolved := Array.replicate 37 none
  statics := none }

def pool19 : Array CpInfo := pool [(1, .class_ 2), (0, u "java/lang/Long"), (55, .nameAndType 59 60), (0, u "<init>"), (0, u "()V"), (24, u "valueOf"), (143, u "(J)Ljava/lang/Long;"), (0, .long 18446744073709551488), (1, .long 127), (1, .fieldref 235 236), (0, .class_ 237), (0, .nameAndType 238 239), (0, u "java/lang/Long$LongCache"), (0, u "cache"), (0, u "[Ljava/lang/Long;"), (0, .methodref 1 241), (0, .nameAndType 59 242), (0, u "(J)V"), (27, .methodref 271 58), (0, .class_ 272), (0, u "java/lang/Number"), (0, .fieldref 1 274), (0, .nameAndType 275 276), (0, u "value"), (0, u "J"), (84, u "TYPE"), (0, u "Ljava/lang/Class;"), (0, .class_ 364), (0, u "java/lang/Comparable"), (0, .class_ 366), (0, u "java/lang/constant/Constable"), (0, .class_ 368), (0, u "java/lang/constant/ConstantDesc"), (0, u "MIN_VALUE"), (1, u "MAX_VALUE"), (4, u "SIZE"), (0, u "I"), (1, u "BYTES"), (1, u "serialVersionUID")] 142

def k19c0 : Code := { maxStack := 4, maxLocals := 3, code := jdk_35_method_24_code, exceptionTable := #[], attributes := #[] }
def k19m0 : Method := { name := "valueOf", desc := "(J)Ljava/lang/Long;", sig := { parameters := [.long], returnType := some (.object "java/lang/Long") }, accessFlags := 9, code := some k19c0 }
def k19c1 : Code := { maxStack := 3, maxLocals := 3, code := jdk_35_method_26_code, exceptionTable := #[], attributes := #[] }
def k19m1 : Method := { name := "<init>", desc := "(J)V", sig := { parameters := [.long], returnType := none }, accessFlags := 1, code := some k19c1 }
/-- java/lang/Long -/
def k19 : Class := { plain "java/lang/Long" (some 18) with
  accessFlags := 49
  interfaces := #[4, 6, 7]
  cf := some (fileOf pool19 1 #[.nestMembers #[235]] #[{ accessFlags := 9, nameIndex := 85, descriptorIndex := 229, attributes := #[] }, { accessFlags := 1, nameIndex := 59, descriptorIndex := 242, attributes := #[] }] 49 271 #[363, 365, 367] #[{ accessFlags := 25, nameIndex := 369, descriptorIndex := 276, attributes := #[] }, { accessFlags := 25, nameIndex := 371, descriptorIndex := 276, attributes := #[] }, { accessFlags := 25, nameIndex := 361, descriptorIndex := 362, attributes := #[] }, { accessFlags := 18, nameIndex := 275, descriptorIndex := 276, attributes := #[] }, { accessFlags := 25, nameIndex := 376, descriptorIndex := 377, attributes := #[] }, { accessFlags := 25, nameIndex := 379, descriptorIndex := 377, attributes := #[] }, { accessFlags := 26, nameIndex := 381, descriptorIndex := 276, attributes := #[] }])
  fields := #[{ name := "MIN_VALUE", type := .long, accessFlags := 25, slot := 0, constantValue := 0 }, { name := "MAX_VALUE", type := .long, accessFlags := 25, slot := 1, constantValue := 0 }, { name := "TYPE", type := (.object "java/lang/Class"), accessFlags := 25, slot := 2, constantValue := 0 }, { name := "value", type := .long, accessFlags := 18, slot := 0, constantValue := 0 }, { name := "SIZE", type := .int, accessFlags := 25, slot := 3, constantValue := 0 }, { name := "BYTES", type := .int, accessFlags := 25, slot := 4, constantValue := 0 }, { name := "serialVersionUID", type := .long, accessFlags := 26, slot := 5, constantValue := 0 }]
  methods := #[k19m0, k19m1]
  instanceTypes := #[.long]
  staticTypes := #[.long, .long, (.object "java/lang/Class"), .int, .int, .long]
  resolved := Array.replicate 524 none
  statics := none }

def pool20 : Array CpInfo := pool [(2, .class_ 4), (1, u "java/lang/Object"), (0, u "<init>"), (0, u "()V"), (0, .class_ 8), (0, u "java/lang/Long"), (7, .class_ 18), (1, u "java/lang/Long$LongCache"), (0, u "$assertionsDisabled"), (0, u "Z"), (8, u "archivedCache"), (0, u "[Ljava/lang/Long;"), (7, u "cache")] 24

def k20m0 : Method := { name := "<init>", desc := "()V", sig := { parameters := [], returnType := none }, accessFlags := 2, code := none }
/-- java/lang/Long$LongCache -/
def k20 : Class := { plain "java/lang/Long$LongCache" (some 0) with
  accessFlags := 48
  interfaces := #[]
  cf := some (fileOf pool20 16 #[.nestHost 7] #[{ accessFlags := 2, nameIndex := 5, descriptorIndex := 6, attributes := #[] }] 48 2 #[] #[{ accessFlags := 24, nameIndex := 38, descriptorIndex := 30, attributes := #[] }, { accessFlags := 8, nameIndex := 29, descriptorIndex := 30, attributes := #[] }, { accessFlags := 4120, nameIndex := 19, descriptorIndex := 20, attributes := #[] }])
  fields := #[{ name := "cache", type := (.array (.object "java/lang/Long")), accessFlags := 24, slot := 0, constantValue := 0 }, { name := "archivedCache", type := (.array (.object "java/lang/Long")), accessFlags := 8, slot := 1, constantValue := 0 }, { name := "$assertionsDisabled", type := .boolean, accessFlags := 4120, slot := 2, constantValue := 0 }]
  methods := #[k20m0]
  instanceTypes := #[]
  staticTypes := #[(.array (.object "java/lang/Long")), (.array (.object "java/lang/Long")), .boolean]
  resolved := Array.replicate 63 none
  statics := some 3 }

def pool21 : Array CpInfo := pool [(4, .class_ 6), (1, u "java/lang/Object"), (0, u "<init>"), (0, u "()V"), (5, .class_ 16), (1, u "java/lang/StringLatin1"), (104, u "$assertionsDisabled"), (0, u "Z"), (98, .class_ 223), (1, u "java/lang/StringLatin1$LinesSpliterator"), (166, .class_ 391), (0, u "java/lang/StringLatin1$CharsSpliterator")] 3

def k21m0 : Method := { name := "<init>", desc := "()V", sig := { parameters := [], returnType := none }, accessFlags := 0, code := none }
/-- java/lang/StringLatin1 -/
def k21 : Class := { plain "java/lang/StringLatin1" (some 0) with
  accessFlags := 48
  interfaces := #[]
  cf := some (fileOf pool21 14 #[.nestMembers #[390, 221]] #[{ accessFlags := 0, nameIndex := 7, descriptorIndex := 8, attributes := #[] }] 48 4 #[] #[{ accessFlags := 4120, nameIndex := 121, descriptorIndex := 122, attributes := #[] }])
  fields := #[{ name := "$assertionsDisabled", type := .boolean, accessFlags := 4120, slot := 0, constantValue := 0 }]
  methods := #[k21m0]
  instanceTypes := #[]
  staticTypes := #[.boolean]
  resolved := Array.replicate 395 none
  statics := none }

def pool22 : Array CpInfo := pool [(2, .class_ 4), (1, u "java/lang/Object"), (0, u "<init>"), (0, u "()V"), (17, .class_ 26), (1, u "jdk/internal/util/Preconditions"), (28, .class_ 56), (0, u "jdk/internal/util/Preconditions$4"), (57, .class_ 115), (0, u "jdk/internal/util/Preconditions$1"), (7, u "SIOOBE_FORMATTER"), (0, u "Ljava/util/function/BiFunction;"), (0, .class_ 126), (0, u "jdk/internal/util/Preconditions$2"), (3, u "AIOOBE_FORMATTER"), (0, .class_ 132), (0, u "jdk/internal/util/Preconditions$3"), (3, u "IOOBE_FORMATTER")] 57

def k22m0 : Method := { name := "<init>", desc := "()V", sig := { parameters := [], returnType := none }, accessFlags := 1, code := none }
/-- jdk/internal/util/Preconditions -/
def k22 : Class := { plain "jdk/internal/util/Preconditions" (some 0) with
  accessFlags := 33
  interfaces := #[]
  cf := some (fileOf pool22 24 #[.nestMembers #[55, 131, 125, 114]] #[{ accessFlags := 1, nameIndex := 5, descriptorIndex := 6, attributes := #[] }] 33 2 #[] #[{ accessFlags := 25, nameIndex := 123, descriptorIndex := 124, attributes := #[] }, { accessFlags := 25, nameIndex := 130, descriptorIndex := 124, attributes := #[] }, { accessFlags := 25, nameIndex := 136, descriptorIndex := 124, attributes := #[] }])
  fields := #[{ name := "SIOOBE_FORMATTER", type := (.object "java/util/function/BiFunction"), accessFlags := 25, slot := 0, constantValue := 0 }, { name := "AIOOBE_FORMATTER", type := (.object "java/util/function/BiFunction"), accessFlags := 25, slot := 1, constantValue := 0 }, { name := "IOOBE_FORMATTER", type := (.object "java/util/function/BiFunction"), accessFlags := 25, slot := 2, constantValue := 0 }]
  methods := #[k22m0]
  instanceTypes := #[]
  staticTypes := #[(.object "java/util/function/BiFunction"), (.object "java/util/function/BiFunction"), (.object "java/util/function/BiFunction")]
  resolved := Array.replicate 194 none
  statics := some 4 }

def pool23 : Array CpInfo := pool [(9, u "<init>"), (6, .class_ 18), (1, u "java/lang/Object"), (0, u "()V"), (1, .class_ 23), (1, u "jdk/internal/util/ArraysSupport"), (0, u "LOG2_ARRAY_LONG_INDEX_SCALE"), (0, u "I"), (2, u "U"), (0, u "Ljdk/internal/misc/Unsafe;"), (8, u "BIG_ENDIAN"), (0, u "Z"), (8, u "LOG2_BYTE_BIT_SIZE"), (4, u "LOG2_ARRAY_INT_INDEX_SCALE"), (54, u "JLA"), (0, u "Ljdk/internal/access/JavaLangAccess;"), (11, u "LOG2_ARRAY_BOOLEAN_INDEX_SCALE"), (9, u "LOG2_ARRAY_BYTE_INDEX_SCALE"), (5, u "LOG2_ARRAY_CHAR_INDEX_SCALE"), (5, u "LOG2_ARRAY_SHORT_INDEX_SCALE"), (18, u "LOG2_ARRAY_FLOAT_INDEX_SCALE"), (24, u "LOG2_ARRAY_DOUBLE_INDEX_SCALE"), (89, u "T_BOOLEAN"), (2, u "T_CHAR"), (1, u "T_FLOAT"), (1, u "T_DOUBLE"), (1, u "T_BYTE"), (1, u "T_SHORT"), (1, u "T_INT"), (1, u "T_LONG"), (1, u "SOFT_MAX_ARRAY_LENGTH")] 83

def k23m0 : Method := { name := "<init>", desc := "()V", sig := { parameters := [], returnType := none }, accessFlags := 2, code := none }
/-- jdk/internal/util/ArraysSupport -/
def k23 : Class := { plain "jdk/internal/util/ArraysSupport" (some 0) with
  accessFlags := 33
  interfaces := #[]
  cf := some (fileOf pool23 21 #[] #[{ accessFlags := 2, nameIndex := 9, descriptorIndex := 19, attributes := #[] }] 33 16 #[] #[{ accessFlags := 24, nameIndex := 28, descriptorIndex := 29, attributes := #[] }, { accessFlags := 26, nameIndex := 38, descriptorIndex := 39, attributes := #[] }, { accessFlags := 25, nameIndex := 121, descriptorIndex := 25, attributes := #[] }, { accessFlags := 25, nameIndex := 131, descriptorIndex := 25, attributes := #[] }, { accessFlags := 25, nameIndex := 137, descriptorIndex := 25, attributes := #[] }, { accessFlags := 25, nameIndex := 143, descriptorIndex := 25, attributes := #[] }, { accessFlags := 25, nameIndex := 53, descriptorIndex := 25, attributes := #[] }, { accessFlags := 25, nameIndex := 24, descriptorIndex := 25, attributes := #[] }, { accessFlags := 25, nameIndex := 162, descriptorIndex := 25, attributes := #[] }, { accessFlags := 25, nameIndex := 187, descriptorIndex := 25, attributes := #[] }, { accessFlags := 26, nameIndex := 48, descriptorIndex := 25, attributes := #[] }, { accessFlags := 25, nameIndex := 277, descriptorIndex := 25, attributes := #[] }, { accessFlags := 25, nameIndex := 280, descriptorIndex := 25, attributes := #[] }, { accessFlags := 25, nameIndex := 282, descriptorIndex := 25, attributes := #[] }, { accessFlags := 25, nameIndex := 284, descriptorIndex := 25, attributes := #[] }, { accessFlags := 25, nameIndex := 286, descriptorIndex := 25, attributes := #[] }, { accessFlags := 25, nameIndex := 288, descriptorIndex := 25, attributes := #[] }, { accessFlags := 25, nameIndex := 290, descriptorIndex := 25, attributes := #[] }, { accessFlags := 25, nameIndex := 292, descriptorIndex := 25, attributes := #[] }, { accessFlags := 26, nameIndex := 108, descriptorIndex := 109, attributes := #[] }, { accessFlags := 25, nameIndex := 294, descriptorIndex := 25, attributes := #[] }])
  fields := #[{ name := "U", type := (.object "jdk/internal/misc/Unsafe"), accessFlags := 24, slot := 0, constantValue := 0 }, { name := "BIG_ENDIAN", type := .boolean, accessFlags := 26, slot := 1, constantValue := 0 }, { name := "LOG2_ARRAY_BOOLEAN_INDEX_SCALE", type := .int, accessFlags := 25, slot := 2, constantValue := 0 }, { name := "LOG2_ARRAY_BYTE_INDEX_SCALE", type := .int, accessFlags := 25, slot := 3, constantValue := 0 }, { name := "LOG2_ARRAY_CHAR_INDEX_SCALE", type := .int, accessFlags := 25, slot := 4, constantValue := 0 }, { name := "LOG2_ARRAY_SHORT_INDEX_SCALE", type := .int, accessFlags := 25, slot := 5, constantValue := 0 }, { name := "LOG2_ARRAY_INT_INDEX_SCALE", type := .int, accessFlags := 25, slot := 6, constantValue := 0 }, { name := "LOG2_ARRAY_LONG_INDEX_SCALE", type := .int, accessFlags := 25, slot := 7, constantValue := 0 }, { name := "LOG2_ARRAY_FLOAT_INDEX_SCALE", type := .int, accessFlags := 25, slot := 8, constantValue := 0 }, { name := "LOG2_ARRAY_DOUBLE_INDEX_SCALE", type := .int, accessFlags := 25, slot := 9, constantValue := 0 }, { name := "LOG2_BYTE_BIT_SIZE", type := .int, accessFlags := 26, slot := 10, constantValue := 0 }, { name := "T_BOOLEAN", type := .int, accessFlags := 25, slot := 11, constantValue := 0 }, { name := "T_CHAR", type := .int, accessFlags := 25, slot := 12, constantValue := 0 }, { name := "T_FLOAT", type := .int, accessFlags := 25, slot := 13, constantValue := 0 }, { name := "T_DOUBLE", type := .int, accessFlags := 25, slot := 14, constantValue := 0 }, { name := "T_BYTE", type := .int, accessFlags := 25, slot := 15, constantValue := 0 }, { name := "T_SHORT", type := .int, accessFlags := 25, slot := 16, constantValue := 0 }, { name := "T_INT", type := .int, accessFlags := 25, slot := 17, constantValue := 0 }, { name := "T_LONG", type := .int, accessFlags := 25, slot := 18, constantValue := 0 }, { name := "JLA", type := (.object "jdk/internal/access/JavaLangAccess"), accessFlags := 26, slot := 19, constantValue := 0 }, { name := "SOFT_MAX_ARRAY_LENGTH", type := .int, accessFlags := 25, slot := 20, constantValue := 0 }]
  methods := #[k23m0]
  instanceTypes := #[]
  staticTypes := #[(.object "jdk/internal/misc/Unsafe"), .boolean, .int, .int, .int, .int, .int, .int, .int, .int, .int, .int, .int, .int, .int, .int, .int, .int, .int, (.object "jdk/internal/access/JavaLangAccess"), .int]
  resolved := Array.replicate 378 none
  statics := none }

/-- the primitive byte -/
def k24 : Class := { plain "byte" none with kind := .primitive 'B', accessFlags := 0x411 }
/-- [B -/
def k25 : Class := { plain "[B" (some 0) with kind := .array 24 .byte, interfaces := #[16, 3], accessFlags := 1041 }

/-- the primitive int -/
def k26 : Class := { plain "int" none with kind := .primitive 'I', accessFlags := 0x411 }
/-- [I -/
def k27 : Class := { plain "[I" (some 0) with kind := .array 26 .int, interfaces := #[16, 3], accessFlags := 1041 }

/-- [Ljava/lang/Long; -/
def k28 : Class := { plain "[Ljava/lang/Long;" (some 0) with kind := .array 19 (.object "java/lang/Long"), interfaces := #[16, 3], accessFlags := 1041 }

def heap : Heap := #[{ cls := 8, slots := #[.long 0, .int 1, .null, .int 0, .null, .int 0, .int 0], vm := .statics 8 },
  { cls := 10, slots := #[.null, .null, .ref 262, .null, .null, .null], vm := .statics 10 },
  { cls := 14, slots := #[.ref 262, .null], vm := .statics 14 },
  { cls := 20, slots := #[.ref 5, .null, .int 0], vm := .statics 20 },
  { cls := 22, slots := #[.null, .null, .null], vm := .statics 22 },
  { cls := 28, slots := #[.ref 6, .ref 7, .ref 8, .ref 9, .ref 10, .ref 11, .ref 12, .ref 13, .ref 14, .ref 15, .ref 16, .ref 17, .ref 18, .ref 19, .ref 20, .ref 21, .ref 22, .ref 23, .ref 24, .ref 25, .ref 26, .ref 27, .ref 28, .ref 29, .ref 30, .ref 31, .ref 32, .ref 33, .ref 34, .ref 35, .ref 36, .ref 37, .ref 38, .ref 39, .ref 40, .ref 41, .ref 42, .ref 43, .ref 44, .ref 45, .ref 46, .ref 47, .ref 48, .ref 49, .ref 50, .ref 51, .ref 52, .ref 53, .ref 54, .ref 55, .ref 56, .ref 57, .ref 58, .ref 59, .ref 60, .ref 61, .ref 62, .ref 63, .ref 64, .ref 65, .ref 66, .ref 67, .ref 68, .ref 69, .ref 70, .ref 71, .ref 72, .ref 73, .ref 74, .ref 75, .ref 76, .ref 77, .ref 78, .ref 79, .ref 80, .ref 81, .ref 82, .ref 83, .ref 84, .ref 85, .ref 86, .ref 87, .ref 88, .ref 89, .ref 90, .ref 91, .ref 92, .ref 93, .ref 94, .ref 95, .ref 96, .ref 97, .ref 98, .ref 99, .ref 100, .ref 101, .ref 102, .ref 103, .ref 104, .ref 105, .ref 106, .ref 107, .ref 108, .ref 109, .ref 110, .ref 111, .ref 112, .ref 113, .ref 114, .ref 115, .ref 116, .ref 117, .ref 118, .ref 119, .ref 120, .ref 121, .ref 122, .ref 123, .ref 124, .ref 125, .ref 126, .ref 127, .ref 128, .ref 129, .ref 130, .ref 131, .ref 132, .ref 133, .ref 134, .ref 135, .ref 136, .ref 137, .ref 138, .ref 139, .ref 140, .ref 141, .ref 142, .ref 143, .ref 144, .ref 145, .ref 146, .ref 147, .ref 148, .ref 149, .ref 150, .ref 151, .ref 152, .ref 153, .ref 154, .ref 155, .ref 156, .ref 157, .ref 158, .ref 159, .ref 160, .ref 161, .ref 162, .ref 163, .ref 164, .ref 165, .ref 166, .ref 167, .ref 168, .ref 169, .ref 170, .ref 171, .ref 172, .ref 173, .ref 174, .ref 175, .ref 176, .ref 177, .ref 178, .ref 179, .ref 180, .ref 181, .ref 182, .ref 183, .ref 184, .ref 185, .ref 186, .ref 187, .ref 188, .ref 189, .ref 190, .ref 191, .ref 192, .ref 193, .ref 194, .ref 195, .ref 196, .ref 197, .ref 198, .ref 199, .ref 200, .ref 201, .ref 202, .ref 203, .ref 204, .ref 205, .ref 206, .ref 207, .ref 208, .ref 209, .ref 210, .ref 211, .ref 212, .ref 213, .ref 214, .ref 215, .ref 216, .ref 217, .ref 218, .ref 219, .ref 220, .ref 221, .ref 222, .ref 223, .ref 224, .ref 225, .ref 226, .ref 227, .ref 228, .ref 229, .ref 230, .ref 231, .ref 232, .ref 233, .ref 234, .ref 235, .ref 236, .ref 237, .ref 238, .ref 239, .ref 240, .ref 241, .ref 242, .ref 243, .ref 244, .ref 245, .ref 246, .ref 247, .ref 248, .ref 249, .ref 250, .ref 251, .ref 252, .ref 253, .ref 254, .ref 255, .ref 256, .ref 257, .ref 258, .ref 259, .ref 260, .ref 261], vm := .none },
  { cls := 19, slots := #[.long (-128)], vm := .none },
  { cls := 19, slots := #[.long (-127)], vm := .none },
  { cls := 19, slots := #[.long (-126)], vm := .none },
  { cls := 19, slots := #[.long (-125)], vm := .none },
  { cls := 19, slots := #[.long (-124)], vm := .none },
  { cls := 19, slots := #[.long (-123)], vm := .none },
  { cls := 19, slots := #[.long (-122)], vm := .none },
  { cls := 19, slots := #[.long (-121)], vm := .none },
  { cls := 19, slots := #[.long (-120)], vm := .none },
  { cls := 19, slots := #[.long (-119)], vm := .none },
  { cls := 19, slots := #[.long (-118)], vm := .none },
  { cls := 19, slots := #[.long (-117)], vm := .none },
  { cls := 19, slots := #[.long (-116)], vm := .none },
  { cls := 19, slots := #[.long (-115)], vm := .none },
  { cls := 19, slots := #[.long (-114)], vm := .none },
  { cls := 19, slots := #[.long (-113)], vm := .none },
  { cls := 19, slots := #[.long (-112)], vm := .none },
  { cls := 19, slots := #[.long (-111)], vm := .none },
  { cls := 19, slots := #[.long (-110)], vm := .none },
  { cls := 19, slots := #[.long (-109)], vm := .none },
  { cls := 19, slots := #[.long (-108)], vm := .none },
  { cls := 19, slots := #[.long (-107)], vm := .none },
  { cls := 19, slots := #[.long (-106)], vm := .none },
  { cls := 19, slots := #[.long (-105)], vm := .none },
  { cls := 19, slots := #[.long (-104)], vm := .none },
  { cls := 19, slots := #[.long (-103)], vm := .none },
  { cls := 19, slots := #[.long (-102)], vm := .none },
  { cls := 19, slots := #[.long (-101)], vm := .none },
  { cls := 19, slots := #[.long (-100)], vm := .none },
  { cls := 19, slots := #[.long (-99)], vm := .none },
  { cls := 19, slots := #[.long (-98)], vm := .none },
  { cls := 19, slots := #[.long (-97)], vm := .none },
  { cls := 19, slots := #[.long (-96)], vm := .none },
  { cls := 19, slots := #[.long (-95)], vm := .none },
  { cls := 19, slots := #[.long (-94)], vm := .none },
  { cls := 19, slots := #[.long (-93)], vm := .none },
  { cls := 19, slots := #[.long (-92)], vm := .none },
  { cls := 19, slots := #[.long (-91)], vm := .none },
  { cls := 19, slots := #[.long (-90)], vm := .none },
  { cls := 19, slots := #[.long (-89)], vm := .none },
  { cls := 19, slots := #[.long (-88)], vm := .none },
  { cls := 19, slots := #[.long (-87)], vm := .none },
  { cls := 19, slots := #[.long (-86)], vm := .none },
  { cls := 19, slots := #[.long (-85)], vm := .none },
  { cls := 19, slots := #[.long (-84)], vm := .none },
  { cls := 19, slots := #[.long (-83)], vm := .none },
  { cls := 19, slots := #[.long (-82)], vm := .none },
  { cls := 19, slots := #[.long (-81)], vm := .none },
  { cls := 19, slots := #[.long (-80)], vm := .none },
  { cls := 19, slots := #[.long (-79)], vm := .none },
  { cls := 19, slots := #[.long (-78)], vm := .none },
  { cls := 19, slots := #[.long (-77)], vm := .none },
  { cls := 19, slots := #[.long (-76)], vm := .none },
  { cls := 19, slots := #[.long (-75)], vm := .none },
  { cls := 19, slots := #[.long (-74)], vm := .none },
  { cls := 19, slots := #[.long (-73)], vm := .none },
  { cls := 19, slots := #[.long (-72)], vm := .none },
  { cls := 19, slots := #[.long (-71)], vm := .none },
  { cls := 19, slots := #[.long (-70)], vm := .none },
  { cls := 19, slots := #[.long (-69)], vm := .none },
  { cls := 19, slots := #[.long (-68)], vm := .none },
  { cls := 19, slots := #[.long (-67)], vm := .none },
  { cls := 19, slots := #[.long (-66)], vm := .none },
  { cls := 19, slots := #[.long (-65)], vm := .none },
  { cls := 19, slots := #[.long (-64)], vm := .none },
  { cls := 19, slots := #[.long (-63)], vm := .none },
  { cls := 19, slots := #[.long (-62)], vm := .none },
  { cls := 19, slots := #[.long (-61)], vm := .none },
  { cls := 19, slots := #[.long (-60)], vm := .none },
  { cls := 19, slots := #[.long (-59)], vm := .none },
  { cls := 19, slots := #[.long (-58)], vm := .none },
  { cls := 19, slots := #[.long (-57)], vm := .none },
  { cls := 19, slots := #[.long (-56)], vm := .none },
  { cls := 19, slots := #[.long (-55)], vm := .none },
  { cls := 19, slots := #[.long (-54)], vm := .none },
  { cls := 19, slots := #[.long (-53)], vm := .none },
  { cls := 19, slots := #[.long (-52)], vm := .none },
  { cls := 19, slots := #[.long (-51)], vm := .none },
  { cls := 19, slots := #[.long (-50)], vm := .none },
  { cls := 19, slots := #[.long (-49)], vm := .none },
  { cls := 19, slots := #[.long (-48)], vm := .none },
  { cls := 19, slots := #[.long (-47)], vm := .none },
  { cls := 19, slots := #[.long (-46)], vm := .none },
  { cls := 19, slots := #[.long (-45)], vm := .none },
  { cls := 19, slots := #[.long (-44)], vm := .none },
  { cls := 19, slots := #[.long (-43)], vm := .none },
  { cls := 19, slots := #[.long (-42)], vm := .none },
  { cls := 19, slots := #[.long (-41)], vm := .none },
  { cls := 19, slots := #[.long (-40)], vm := .none },
  { cls := 19, slots := #[.long (-39)], vm := .none },
  { cls := 19, slots := #[.long (-38)], vm := .none },
  { cls := 19, slots := #[.long (-37)], vm := .none },
  { cls := 19, slots := #[.long (-36)], vm := .none },
  { cls := 19, slots := #[.long (-35)], vm := .none },
  { cls := 19, slots := #[.long (-34)], vm := .none },
  { cls := 19, slots := #[.long (-33)], vm := .none },
  { cls := 19, slots := #[.long (-32)], vm := .none },
  { cls := 19, slots := #[.long (-31)], vm := .none },
  { cls := 19, slots := #[.long (-30)], vm := .none },
  { cls := 19, slots := #[.long (-29)], vm := .none },
  { cls := 19, slots := #[.long (-28)], vm := .none },
  { cls := 19, slots := #[.long (-27)], vm := .none },
  { cls := 19, slots := #[.long (-26)], vm := .none },
  { cls := 19, slots := #[.long (-25)], vm := .none },
  { cls := 19, slots := #[.long (-24)], vm := .none },
  { cls := 19, slots := #[.long (-23)], vm := .none },
  { cls := 19, slots := #[.long (-22)], vm := .none },
  { cls := 19, slots := #[.long (-21)], vm := .none },
  { cls := 19, slots := #[.long (-20)], vm := .none },
  { cls := 19, slots := #[.long (-19)], vm := .none },
  { cls := 19, slots := #[.long (-18)], vm := .none },
  { cls := 19, slots := #[.long (-17)], vm := .none },
  { cls := 19, slots := #[.long (-16)], vm := .none },
  { cls := 19, slots := #[.long (-15)], vm := .none },
  { cls := 19, slots := #[.long (-14)], vm := .none },
  { cls := 19, slots := #[.long (-13)], vm := .none },
  { cls := 19, slots := #[.long (-12)], vm := .none },
  { cls := 19, slots := #[.long (-11)], vm := .none },
  { cls := 19, slots := #[.long (-10)], vm := .none },
  { cls := 19, slots := #[.long (-9)], vm := .none },
  { cls := 19, slots := #[.long (-8)], vm := .none },
  { cls := 19, slots := #[.long (-7)], vm := .none },
  { cls := 19, slots := #[.long (-6)], vm := .none },
  { cls := 19, slots := #[.long (-5)], vm := .none },
  { cls := 19, slots := #[.long (-4)], vm := .none },
  { cls := 19, slots := #[.long (-3)], vm := .none },
  { cls := 19, slots := #[.long (-2)], vm := .none },
  { cls := 19, slots := #[.long (-1)], vm := .none },
  { cls := 19, slots := #[.long (0)], vm := .none },
  { cls := 19, slots := #[.long (1)], vm := .none },
  { cls := 19, slots := #[.long (2)], vm := .none },
  { cls := 19, slots := #[.long (3)], vm := .none },
  { cls := 19, slots := #[.long (4)], vm := .none },
  { cls := 19, slots := #[.long (5)], vm := .none },
  { cls := 19, slots := #[.long (6)], vm := .none },
  { cls := 19, slots := #[.long (7)], vm := .none },
  { cls := 19, slots := #[.long (8)], vm := .none },
  { cls := 19, slots := #[.long (9)], vm := .none },
  { cls := 19, slots := #[.long (10)], vm := .none },
  { cls := 19, slots := #[.long (11)], vm := .none },
  { cls := 19, slots := #[.long (12)], vm := .none },
  { cls := 19, slots := #[.long (13)], vm := .none },
  { cls := 19, slots := #[.long (14)], vm := .none },
  { cls := 19, slots := #[.long (15)], vm := .none },
  { cls := 19, slots := #[.long (16)], vm := .none },
  { cls := 19, slots := #[.long (17)], vm := .none },
  { cls := 19, slots := #[.long (18)], vm := .none },
  { cls := 19, slots := #[.long (19)], vm := .none },
  { cls := 19, slots := #[.long (20)], vm := .none },
  { cls := 19, slots := #[.long (21)], vm := .none },
  { cls := 19, slots := #[.long (22)], vm := .none },
  { cls := 19, slots := #[.long (23)], vm := .none },
  { cls := 19, slots := #[.long (24)], vm := .none },
  { cls := 19, slots := #[.long (25)], vm := .none },
  { cls := 19, slots := #[.long (26)], vm := .none },
  { cls := 19, slots := #[.long (27)], vm := .none },
  { cls := 19, slots := #[.long (28)], vm := .none },
  { cls := 19, slots := #[.long (29)], vm := .none },
  { cls := 19, slots := #[.long (30)], vm := .none },
  { cls := 19, slots := #[.long (31)], vm := .none },
  { cls := 19, slots := #[.long (32)], vm := .none },
  { cls := 19, slots := #[.long (33)], vm := .none },
  { cls := 19, slots := #[.long (34)], vm := .none },
  { cls := 19, slots := #[.long (35)], vm := .none },
  { cls := 19, slots := #[.long (36)], vm := .none },
  { cls := 19, slots := #[.long (37)], vm := .none },
  { cls := 19, slots := #[.long (38)], vm := .none },
  { cls := 19, slots := #[.long (39)], vm := .none },
  { cls := 19, slots := #[.long (40)], vm := .none },
  { cls := 19, slots := #[.long (41)], vm := .none },
  { cls := 19, slots := #[.long (42)], vm := .none },
  { cls := 19, slots := #[.long (43)], vm := .none },
  { cls := 19, slots := #[.long (44)], vm := .none },
  { cls := 19, slots := #[.long (45)], vm := .none },
  { cls := 19, slots := #[.long (46)], vm := .none },
  { cls := 19, slots := #[.long (47)], vm := .none },
  { cls := 19, slots := #[.long (48)], vm := .none },
  { cls := 19, slots := #[.long (49)], vm := .none },
  { cls := 19, slots := #[.long (50)], vm := .none },
  { cls := 19, slots := #[.long (51)], vm := .none },
  { cls := 19, slots := #[.long (52)], vm := .none },
  { cls := 19, slots := #[.long (53)], vm := .none },
  { cls := 19, slots := #[.long (54)], vm := .none },
  { cls := 19, slots := #[.long (55)], vm := .none },
  { cls := 19, slots := #[.long (56)], vm := .none },
  { cls := 19, slots := #[.long (57)], vm := .none },
  { cls := 19, slots := #[.long (58)], vm := .none },
  { cls := 19, slots := #[.long (59)], vm := .none },
  { cls := 19, slots := #[.long (60)], vm := .none },
  { cls := 19, slots := #[.long (61)], vm := .none },
  { cls := 19, slots := #[.long (62)], vm := .none },
  { cls := 19, slots := #[.long (63)], vm := .none },
  { cls := 19, slots := #[.long (64)], vm := .none },
  { cls := 19, slots := #[.long (65)], vm := .none },
  { cls := 19, slots := #[.long (66)], vm := .none },
  { cls := 19, slots := #[.long (67)], vm := .none },
  { cls := 19, slots := #[.long (68)], vm := .none },
  { cls := 19, slots := #[.long (69)], vm := .none },
  { cls := 19, slots := #[.long (70)], vm := .none },
  { cls := 19, slots := #[.long (71)], vm := .none },
  { cls := 19, slots := #[.long (72)], vm := .none },
  { cls := 19, slots := #[.long (73)], vm := .none },
  { cls := 19, slots := #[.long (74)], vm := .none },
  { cls := 19, slots := #[.long (75)], vm := .none },
  { cls := 19, slots := #[.long (76)], vm := .none },
  { cls := 19, slots := #[.long (77)], vm := .none },
  { cls := 19, slots := #[.long (78)], vm := .none },
  { cls := 19, slots := #[.long (79)], vm := .none },
  { cls := 19, slots := #[.long (80)], vm := .none },
  { cls := 19, slots := #[.long (81)], vm := .none },
  { cls := 19, slots := #[.long (82)], vm := .none },
  { cls := 19, slots := #[.long (83)], vm := .none },
  { cls := 19, slots := #[.long (84)], vm := .none },
  { cls := 19, slots := #[.long (85)], vm := .none },
  { cls := 19, slots := #[.long (86)], vm := .none },
  { cls := 19, slots := #[.long (87)], vm := .none },
  { cls := 19, slots := #[.long (88)], vm := .none },
  { cls := 19, slots := #[.long (89)], vm := .none },
  { cls := 19, slots := #[.long (90)], vm := .none },
  { cls := 19, slots := #[.long (91)], vm := .none },
  { cls := 19, slots := #[.long (92)], vm := .none },
  { cls := 19, slots := #[.long (93)], vm := .none },
  { cls := 19, slots := #[.long (94)], vm := .none },
  { cls := 19, slots := #[.long (95)], vm := .none },
  { cls := 19, slots := #[.long (96)], vm := .none },
  { cls := 19, slots := #[.long (97)], vm := .none },
  { cls := 19, slots := #[.long (98)], vm := .none },
  { cls := 19, slots := #[.long (99)], vm := .none },
  { cls := 19, slots := #[.long (100)], vm := .none },
  { cls := 19, slots := #[.long (101)], vm := .none },
  { cls := 19, slots := #[.long (102)], vm := .none },
  { cls := 19, slots := #[.long (103)], vm := .none },
  { cls := 19, slots := #[.long (104)], vm := .none },
  { cls := 19, slots := #[.long (105)], vm := .none },
  { cls := 19, slots := #[.long (106)], vm := .none },
  { cls := 19, slots := #[.long (107)], vm := .none },
  { cls := 19, slots := #[.long (108)], vm := .none },
  { cls := 19, slots := #[.long (109)], vm := .none },
  { cls := 19, slots := #[.long (110)], vm := .none },
  { cls := 19, slots := #[.long (111)], vm := .none },
  { cls := 19, slots := #[.long (112)], vm := .none },
  { cls := 19, slots := #[.long (113)], vm := .none },
  { cls := 19, slots := #[.long (114)], vm := .none },
  { cls := 19, slots := #[.long (115)], vm := .none },
  { cls := 19, slots := #[.long (116)], vm := .none },
  { cls := 19, slots := #[.long (117)], vm := .none },
  { cls := 19, slots := #[.long (118)], vm := .none },
  { cls := 19, slots := #[.long (119)], vm := .none },
  { cls := 19, slots := #[.long (120)], vm := .none },
  { cls := 19, slots := #[.long (121)], vm := .none },
  { cls := 19, slots := #[.long (122)], vm := .none },
  { cls := 19, slots := #[.long (123)], vm := .none },
  { cls := 19, slots := #[.long (124)], vm := .none },
  { cls := 19, slots := #[.long (125)], vm := .none },
  { cls := 19, slots := #[.long (126)], vm := .none },
  { cls := 19, slots := #[.long (127)], vm := .none },
  { cls := 14, slots := #[.null, .null, .null], vm := .none }]
def classes : Array Class := #[k0, k1, k2, k3, k4, k5, k6, k7, k8, k9, k10, k11, k12, k13, k14, k15, k16, k17, k18, k19, k20, k21, k22, k23, k24, k25, k26, k27, k28]
def interned : List (Array UInt16 × Addr) := []
def slotsUsed : Nat := 536
def theMethod : MethodId := ⟨1, 1⟩
def args0 : Array Value := #[.long 1, .long 2, .int 3, .int 4, .int 1]
def aboutOver (below : List Frame) : State where
  vm := { classes := classes, interned := interned.toArray }
  heap := heap
  slotsUsed := slotsUsed
  threads := #[{ frames := .invoking theMethod args0 :: below }]
def below0 : List Frame := [.native { method := ⟨0, 0⟩, args := #[] }]
def about1 : State := aboutOver below0
def p0 : Program := .bare "" "" ""
def e0 : Env := launch0.env 0 0 0
theorem w_frames : about1.frames = Frame.invoking theMethod args0 :: below0 := rfl
set_option maxRecDepth 65536 in
theorem w_args : argsFit about1.vm theMethod args0 = true := by decide +kernel
set_option maxRecDepth 65536 in
theorem w_heap : heapFits about1 = true := by decide +kernel
set_option maxRecDepth 65536 in
theorem w_runnable : about1.curStatus? = some .runnable := by decide +kernel
set_option maxRecDepth 65536 in
theorem w_alone : about1.alone = true := by decide +kernel
set_option maxRecDepth 65536 in
theorem w_named : about1.methodNamed? x = some theMethod := by decide +kernel
set_option maxRecDepth 65536 in
theorem w_hears : about1.hears theMethod below0 = true := by decide +kernel
set_option maxRecDepth 65536 in
theorem w_ripe : about1.ripe theMethod args0 below0 = true := by decide +kernel
theorem w_running : about1.status = .running := rfl
set_option maxRecDepth 65536 in
theorem w_room : about1.hasRoom e0.platform room_1 = true :=
  launch0.hasRoom_least _ room_1 (by decide +kernel) (by decide +kernel) (by decide +kernel) (by decide +kernel) (by decide +kernel) (by decide +kernel)
theorem allAtoms_all (ts : List Jvm.Cond) (a : Array Jvm.Value) (st : Jvm.State) : (allAtoms ts).before a st = ts.all (fun c => c.before a st) := by
  induction ts with
  | nil => rfl
  | cons c t ih =>
    show (Jvm.Cond.and c (allAtoms t)).before a st = _
    rw [Jvm.Cond.before_and, ih, List.all_cons]
def words1 : List Jvm.Cond := Jvm.Cond.code x code maxLocals ret :: tables_1
/-- a 'code' word, met by the world's own term for the bytes: nothing is compared byte by byte -/
theorem code_word {y : MethodName} {bytes : ByteArray} {mx : Nat} {rt : Option FieldType} {a : Array Value} {s : State} {m : MethodId} {meth : Method} {c : Code} (h1 : s.methodNamed? y = some m) (h2 : s.vm.method? m = some meth) (h3 : meth.code = some c) (h4 : c.code = bytes)
    (h5 : (c.maxLocals == mx && c.exceptionTable.isEmpty && decide (c.maxStack ≤ mostOperands) && decide (meth.sig.returnType = rt) && !meth.locks && decide (parseMethodDescriptor y.desc = some meth.sig)) = true) : (Jvm.Cond.code y bytes mx rt).before a s = true := by
  simp only [Bool.and_eq_true, beq_iff_eq, Bool.not_eq_true', decide_eq_true_eq] at h5
  obtain ⟨⟨⟨⟨⟨g1, g2⟩, g3⟩, g4⟩, g5⟩, g6⟩ := h5
  simp [Cond.before, Cond.holds, Cond.value, h1, h2, h3, h4, g1, g2, g3, g4, g5, g6]
def isCode : Jvm.Cond → Bool
  | .code _ _ _ _ => true
  | _ => false
theorem all_split {L : List Jvm.Cond} {P : Jvm.Cond → Bool} (h1 : L.all (fun c => isCode c || P c) = true) (h2 : ∀ c ∈ L.filter isCode, P c = true) : L.all P = true := by
  refine List.all_eq_true.mpr fun c hc => ?_
  have h := List.all_eq_true.mp h1 c hc
  rcases Bool.eq_false_or_eq_true (isCode c) with hi | hi
  · exact h2 c (List.mem_filter.mpr ⟨hc, hi⟩)
  · simpa [hi] using h
set_option maxRecDepth 65536 in
theorem w_c0 : (Jvm.Cond.code x code maxLocals ret).before args0 about1 = true := code_word (m := ⟨1, 1⟩) (meth := k1m1) (c := k1c1) (by decide +kernel) rfl rfl rfl (by decide +kernel)
set_option maxRecDepth 65536 in
theorem w_c1 : (Jvm.Cond.code ({ cls := "com/example/outbox_relay/outboxrelay/OutboxMessage", name := "<init>", desc := "(Ljava/lang/String;Ljava/lang/String;Ljava/lang/String;)V" } : Jvm.MethodName) prog_1_method_1_code (4 : Nat) (Option.none : Option Jvm.ClassFile.FieldType)).before args0 about1 = true := code_word (m := ⟨2, 0⟩) (meth := k2m0) (c := k2c0) (by decide +kernel) rfl rfl rfl (by decide +kernel)
set_option maxRecDepth 65536 in
theorem w_c2 : (Jvm.Cond.code ({ cls := "com/example/outbox_relay/outboxrelay/OutboxMessage", name := "requireUtf8AtMost", desc := "(Ljava/lang/String;Ljava/lang/String;I)Ljava/lang/String;" } : Jvm.MethodName) prog_1_method_12_code (3 : Nat) (Option.some (Jvm.ClassFile.FieldType.object "java/lang/String"))).before args0 about1 = true := code_word (m := ⟨2, 2⟩) (meth := k2m2) (c := k2c2) (by decide +kernel) rfl rfl rfl (by decide +kernel)
set_option maxRecDepth 65536 in
theorem w_c3 : (Jvm.Cond.code ({ cls := "java/util/Objects", name := "requireNonNull", desc := "(Ljava/lang/Object;Ljava/lang/String;)Ljava/lang/Object;" } : Jvm.MethodName) jdk_31_method_11_code (2 : Nat) (Option.some (Jvm.ClassFile.FieldType.object "java/lang/Object"))).before args0 about1 = true := code_word (m := ⟨9, 1⟩) (meth := k9m1) (c := k9c1) (by decide +kernel) rfl rfl rfl (by decide +kernel)
set_option maxRecDepth 65536 in
theorem w_c4 : (Jvm.Cond.code ({ cls := "java/lang/String", name := "getBytes", desc := "(Ljava/nio/charset/Charset;)[B" } : Jvm.MethodName) jdk_42_method_64_code (2 : Nat) (Option.some (Jvm.ClassFile.FieldType.array Jvm.ClassFile.FieldType.byte))).before args0 about1 = true := code_word (m := ⟨8, 3⟩) (meth := k8m3) (c := k8c3) (by decide +kernel) rfl rfl rfl (by decide +kernel)
set_option maxRecDepth 65536 in
theorem w_c5 : (Jvm.Cond.code ({ cls := "java/lang/String", name := "coder", desc := "()B" } : Jvm.MethodName) jdk_42_method_152_code (1 : Nat) (Option.some Jvm.ClassFile.FieldType.byte)).before args0 about1 = true := code_word (m := ⟨8, 4⟩) (meth := k8m4) (c := k8c4) (by decide +kernel) rfl rfl rfl (by decide +kernel)
set_option maxRecDepth 65536 in
theorem w_c6 : (Jvm.Cond.code ({ cls := "java/lang/String", name := "encode", desc := "(Ljava/nio/charset/Charset;B[B)[B" } : Jvm.MethodName) jdk_42_method_18_code (3 : Nat) (Option.some (Jvm.ClassFile.FieldType.array Jvm.ClassFile.FieldType.byte))).before args0 about1 = true := code_word (m := ⟨8, 1⟩) (meth := k8m1) (c := k8c1) (by decide +kernel) rfl rfl rfl (by decide +kernel)
set_option maxRecDepth 65536 in
theorem w_c7 : (Jvm.Cond.code ({ cls := "java/lang/String", name := "encodeUTF8", desc := "(B[BZ)[B" } : Jvm.MethodName) jdk_42_method_46_code (9 : Nat) (Option.some (Jvm.ClassFile.FieldType.array Jvm.ClassFile.FieldType.byte))).before args0 about1 = true := code_word (m := ⟨8, 2⟩) (meth := k8m2) (c := k8c2) (by decide +kernel) rfl rfl rfl (by decide +kernel)
set_option maxRecDepth 65536 in
theorem w_c8 : (Jvm.Cond.code ({ cls := "java/lang/StringCoding", name := "hasNegatives", desc := "([BII)Z" } : Jvm.MethodName) jdk_123_method_2_code (3 : Nat) (Option.some Jvm.ClassFile.FieldType.boolean)).before args0 about1 = true := code_word (m := ⟨15, 1⟩) (meth := k15m1) (c := k15c1) (by decide +kernel) rfl rfl rfl (by decide +kernel)
set_option maxRecDepth 65536 in
theorem w_c9 : (Jvm.Cond.code ({ cls := "java/lang/StringCoding", name := "countPositives", desc := "([BII)I" } : Jvm.MethodName) jdk_123_method_3_code (5 : Nat) (Option.some Jvm.ClassFile.FieldType.int)).before args0 about1 = true := code_word (m := ⟨15, 2⟩) (meth := k15m2) (c := k15c2) (by decide +kernel) rfl rfl rfl (by decide +kernel)
set_option maxRecDepth 65536 in
theorem w_c10 : (Jvm.Cond.code ({ cls := "com/example/outbox_relay/outboxrelay/OutboxMessage", name := "<init>", desc := "(Ljava/lang/String;Ljava/lang/String;Ljava/lang/String;Ljava/lang/String;Ljava/lang/String;Ljava/lang/String;)V" } : Jvm.MethodName) prog_1_method_2_code (7 : Nat) (Option.none : Option Jvm.ClassFile.FieldType)).before args0 about1 = true := code_word (m := ⟨2, 1⟩) (meth := k2m1) (c := k2c1) (by decide +kernel) rfl rfl rfl (by decide +kernel)
set_option maxRecDepth 65536 in
theorem w_c11 : (Jvm.Cond.code ({ cls := "java/lang/Object", name := "<init>", desc := "()V" } : Jvm.MethodName) object_method_1_code (1 : Nat) (Option.none : Option Jvm.ClassFile.FieldType)).before args0 about1 = true := code_word (m := ⟨0, 0⟩) (meth := k0m0) (c := k0c0) (by decide +kernel) rfl rfl rfl (by decide +kernel)
set_option maxRecDepth 65536 in
theorem w_c12 : (Jvm.Cond.code ({ cls := "com/example/outbox_relay/outboxrelay/OutboxRecord", name := "<init>", desc := "(JILcom/example/outbox_relay/outboxrelay/OutboxMessage;)V" } : Jvm.MethodName) prog_2_method_1_code (5 : Nat) (Option.none : Option Jvm.ClassFile.FieldType)).before args0 about1 = true := code_word (m := ⟨17, 0⟩) (meth := k17m0) (c := k17c0) (by decide +kernel) rfl rfl rfl (by decide +kernel)
set_option maxRecDepth 65536 in
theorem w_c13 : (Jvm.Cond.code ({ cls := "java/lang/Long", name := "valueOf", desc := "(J)Ljava/lang/Long;" } : Jvm.MethodName) jdk_35_method_24_code (3 : Nat) (Option.some (Jvm.ClassFile.FieldType.object "java/lang/Long"))).before args0 about1 = true := code_word (m := ⟨19, 0⟩) (meth := k19m0) (c := k19c0) (by decide +kernel) rfl rfl rfl (by decide +kernel)
set_option maxRecDepth 65536 in
theorem w_c14 : (Jvm.Cond.code ({ cls := "com/example/outbox_relay/outboxrelay/OutboxRecord", name := "equals", desc := "(Ljava/lang/Object;)Z" } : Jvm.MethodName) prog_2_method_5_code (2 : Nat) (Option.some Jvm.ClassFile.FieldType.boolean)).before args0 about1 = true := code_word (m := ⟨17, 1⟩) (meth := k17m1) (c := k17c1) (by decide +kernel) rfl rfl rfl (by decide +kernel)
set_option maxRecDepth 65536 in
theorem w_c15 : (Jvm.Cond.code ({ cls := "java/lang/Long", name := "<init>", desc := "(J)V" } : Jvm.MethodName) jdk_35_method_26_code (3 : Nat) (Option.none : Option Jvm.ClassFile.FieldType)).before args0 about1 = true := code_word (m := ⟨19, 1⟩) (meth := k19m1) (c := k19c1) (by decide +kernel) rfl rfl rfl (by decide +kernel)
set_option maxRecDepth 65536 in
theorem w_c16 : (Jvm.Cond.code ({ cls := "java/lang/Number", name := "<init>", desc := "()V" } : Jvm.MethodName) jdk_18_method_1_code (1 : Nat) (Option.none : Option Jvm.ClassFile.FieldType)).before args0 about1 = true := code_word (m := ⟨18, 0⟩) (meth := k18m0) (c := k18c0) (by decide +kernel) rfl rfl rfl (by decide +kernel)
def codes1 : List Jvm.Cond := [Jvm.Cond.code x code maxLocals ret, Jvm.Cond.code ({ cls := "com/example/outbox_relay/outboxrelay/OutboxMessage", name := "<init>", desc := "(Ljava/lang/String;Ljava/lang/String;Ljava/lang/String;)V" } : Jvm.MethodName) prog_1_method_1_code (4 : Nat) (Option.none : Option Jvm.ClassFile.FieldType), Jvm.Cond.code ({ cls := "com/example/outbox_relay/outboxrelay/OutboxMessage", name := "requireUtf8AtMost", desc := "(Ljava/lang/String;Ljava/lang/String;I)Ljava/lang/String;" } : Jvm.MethodName) prog_1_method_12_code (3 : Nat) (Option.some (Jvm.ClassFile.FieldType.object "java/lang/String")), Jvm.Cond.code ({ cls := "java/util/Objects", name := "requireNonNull", desc := "(Ljava/lang/Object;Ljava/lang/String;)Ljava/lang/Object;" } : Jvm.MethodName) jdk_31_method_11_code (2 : Nat) (Option.some (Jvm.ClassFile.FieldType.object "java/lang/Object")), Jvm.Cond.code ({ cls := "java/lang/String", name := "getBytes", desc := "(Ljava/nio/charset/Charset;)[B" } : Jvm.MethodName) jdk_42_method_64_code (2 : Nat) (Option.some (Jvm.ClassFile.FieldType.array Jvm.ClassFile.FieldType.byte)), Jvm.Cond.code ({ cls := "java/lang/String", name := "coder", desc := "()B" } : Jvm.MethodName) jdk_42_method_152_code (1 : Nat) (Option.some Jvm.ClassFile.FieldType.byte), Jvm.Cond.code ({ cls := "java/lang/String", name := "encode", desc := "(Ljava/nio/charset/Charset;B[B)[B" } : Jvm.MethodName) jdk_42_method_18_code (3 : Nat) (Option.some (Jvm.ClassFile.FieldType.array Jvm.ClassFile.FieldType.byte)), Jvm.Cond.code ({ cls := "java/lang/String", name := "encodeUTF8", desc := "(B[BZ)[B" } : Jvm.MethodName) jdk_42_method_46_code (9 : Nat) (Option.some (Jvm.ClassFile.FieldType.array Jvm.ClassFile.FieldType.byte)), Jvm.Cond.code ({ cls := "java/lang/StringCoding", name := "hasNegatives", desc := "([BII)Z" } : Jvm.MethodName) jdk_123_method_2_code (3 : Nat) (Option.some Jvm.ClassFile.FieldType.boolean), Jvm.Cond.code ({ cls := "java/lang/StringCoding", name := "countPositives", desc := "([BII)I" } : Jvm.MethodName) jdk_123_method_3_code (5 : Nat) (Option.some Jvm.ClassFile.FieldType.int), Jvm.Cond.code ({ cls := "com/example/outbox_relay/outboxrelay/OutboxMessage", name := "<init>", desc := "(Ljava/lang/String;Ljava/lang/String;Ljava/lang/String;Ljava/lang/String;Ljava/lang/String;Ljava/lang/String;)V" } : Jvm.MethodName) prog_1_method_2_code (7 : Nat) (Option.none : Option Jvm.ClassFile.FieldType), Jvm.Cond.code ({ cls := "java/lang/Object", name := "<init>", desc := "()V" } : Jvm.MethodName) object_method_1_code (1 : Nat) (Option.none : Option Jvm.ClassFile.FieldType), Jvm.Cond.code ({ cls := "com/example/outbox_relay/outboxrelay/OutboxRecord", name := "<init>", desc := "(JILcom/example/outbox_relay/outboxrelay/OutboxMessage;)V" } : Jvm.MethodName) prog_2_method_1_code (5 : Nat) (Option.none : Option Jvm.ClassFile.FieldType), Jvm.Cond.code ({ cls := "java/lang/Long", name := "valueOf", desc := "(J)Ljava/lang/Long;" } : Jvm.MethodName) jdk_35_method_24_code (3 : Nat) (Option.some (Jvm.ClassFile.FieldType.object "java/lang/Long")), Jvm.Cond.code ({ cls := "com/example/outbox_relay/outboxrelay/OutboxRecord", name := "equals", desc := "(Ljava/lang/Object;)Z" } : Jvm.MethodName) prog_2_method_5_code (2 : Nat) (Option.some Jvm.ClassFile.FieldType.boolean), Jvm.Cond.code ({ cls := "java/lang/Long", name := "<init>", desc := "(J)V" } : Jvm.MethodName) jdk_35_method_26_code (3 : Nat) (Option.none : Option Jvm.ClassFile.FieldType), Jvm.Cond.code ({ cls := "java/lang/Number", name := "<init>", desc := "()V" } : Jvm.MethodName) jdk_18_method_1_code (1 : Nat) (Option.none : Option Jvm.ClassFile.FieldType)]
set_option maxRecDepth 65536 in
theorem codes_eq : words1.filter isCode = codes1 := rfl
theorem w_codes : ∀ c ∈ words1.filter isCode, c.before args0 about1 = true := by
  rw [codes_eq]
  intro c hc
  simp only [codes1, List.mem_cons, List.not_mem_nil, or_false] at hc
  rcases hc with rfl | rfl | rfl | rfl | rfl | rfl | rfl | rfl | rfl | rfl | rfl | rfl | rfl | rfl | rfl | rfl | rfl
  · exact w_c0
  · exact w_c1
  · exact w_c2
  · exact w_c3
  · exact w_c4
  · exact w_c5
  · exact w_c6
  · exact w_c7
  · exact w_c8
  · exact w_c9
  · exact w_c10
  · exact w_c11
  · exact w_c12
  · exact w_c13
  · exact w_c14
  · exact w_c15
  · exact w_c16
set_option maxRecDepth 65536 in
theorem w_t1 : (words1.take 24).all (fun c => isCode c || c.before args0 about1) = true := by decide +kernel
set_option maxRecDepth 65536 in
theorem w_t2 : ((words1.drop 24).take 24).all (fun c => isCode c || c.before args0 about1) = true := by decide +kernel
set_option maxRecDepth 65536 in
theorem w_t3 : (((words1.drop 24).drop 24).take 24).all (fun c => isCode c || c.before args0 about1) = true := by decide +kernel
set_option maxRecDepth 65536 in
theorem w_t4 : ((((words1.drop 24).drop 24).drop 24).take 24).all (fun c => isCode c || c.before args0 about1) = true := by decide +kernel
set_option maxRecDepth 65536 in
theorem w_t5 : (((((words1.drop 24).drop 24).drop 24).drop 24).take 24).all (fun c => isCode c || c.before args0 about1) = true := by decide +kernel
set_option maxRecDepth 65536 in
theorem w_t6 : (((((words1.drop 24).drop 24).drop 24).drop 24).drop 24).all (fun c => isCode c || c.before args0 about1) = true := by decide +kernel
theorem w_tables : (allAtoms (Jvm.Cond.code x code maxLocals ret :: tables_1)).before args0 about1 = true := by
  rw [allAtoms_all]
  show words1.all (fun c => c.before args0 about1) = true
  refine all_split ?_ w_codes
  rw [← List.take_append_drop 24 words1, List.all_append, w_t1, ← List.take_append_drop 24 (words1.drop 24), List.all_append, w_t2, ← List.take_append_drop 24 ((words1.drop 24).drop 24), List.all_append, w_t3, ← List.take_append_drop 24 (((words1.drop 24).drop 24).drop 24), List.all_append, w_t4, ← List.take_append_drop 24 ((((words1.drop 24).drop 24).drop 24).drop 24), List.all_append, w_t5, w_t6]
  rfl
set_option maxRecDepth 65536 in
theorem w_rest : rest_1_c.before args0 about1 = true := by decide +kernel
set_option maxRecDepth 65536 in
theorem w_case : (Jvm.Cond.and given_1 narrow_1).before args0 about1 = true := by decide +kernel
set_option maxRecDepth 65536 in
theorem w_consts : constsHeld consts_1 about1 := Jvm.Lit.constsHeldB_iff.mp (by decide +kernel)
theorem w_applies : (headSpec (Jvm.Cond.code x code maxLocals ret :: tables_1) room_1).applies x e0.platform about1 = true :=
  (Spec.applies_iff w_frames).mpr ⟨w_running, w_runnable, w_alone, w_named, w_hears, w_ripe, w_room, w_tables⟩
theorem atStart : AtStart classFile x code maxLocals ret World_1 tables_1 room_1 Calls_1 rest_1 Pre_1 launch0 p0 e0 about1 theMethod args0 below0 :=
  ⟨lists_1, trivial, launch0.admits_env _ _ _, launch0.least_env, fairChoices_fair.cas, fairChoices_fair.clock, w_frames, w_args, w_heap, w_applies, ⟨w_consts, trivial⟩, w_rest, w_case⟩
end start1
theorem witness_1 : WitnessClaimed_1 := ⟨start1.p0, start1.e0, start1.about1, start1.theMethod, start1.args0, start1.below0, start1.atStart⟩
end Jvm.Pilot.@@N@@
