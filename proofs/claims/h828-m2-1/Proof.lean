import JvmDerived
import JvmDerived.Pilot.@@N@@Statement
import JvmDerived.Pilot.@@N@@Code
set_option linter.unusedVariables false
set_option linter.unusedSimpArgs false
namespace Jvm.OwnK
def EL : List (String × Nat) := [("java/lang/String", 7)]
end Jvm.OwnK
namespace Jvm.OwnK
open Sem ClassFile Op Lib Jvm.Stand Jvm.Free Jvm.LawKit Jvm.RoadKit
/-- what a body leaves: Q of its value and heap; what it wrote lies in new cells; the old cells stand -/
def Out (Z s : State) (Q : Option Value → Heap → Prop) (k n : Nat) (o : Outcome) (U : State) : Prop :=
  ∃ v L, o = .returned v ∧ (Q v U.heap ∧ Fr Z.heap.size L ∧ Old Z Z.heap.size U.heap) ∧ CHr Z EL s.vm s.heap U.vm U.heap ∧ ReturnedEndW s o U L k n
/-- the words under which String constants are loaded -/
def Wd (Z : State) : Prop := ∃ a0, EW Z a0 EL ∧ ∀ a ∈ Bundle.stringAtoms, a.before a0 Z = true
/-- from here the walk ends, and G holds of its end -/
def Go (tb : Tables) (e : Env) (below : List Frame) (G : Outcome → State → Prop) (T : State) (F : JFrame) : Prop :=
  ∃ s₂ o, Steps tb e below (T.setTop F) s₂ ∧ s₂.status = .running ∧ Ended s₂ below o ∧ G o s₂
/-- where the walk stands, with its heap -/
def Wk (p : Program) (l : Launch) (e : Env) (R : Room) (s : State) (m : MethodId) (args : Array Value) (below : List Frame) (meth : Method) (c : Code) (Z T : State) (h : Heap) (k n : Nat) (ss : List Addr) : Prop :=
  ∃ locs vm0 k0, Stand p l e R (s.setVm vm0) m args below meth c T locs k n ∧ T.heap = h ∧ Fr Z.heap.size locs ∧ Old Z Z.heap.size h ∧ s.Since vm0 k0 ∧ k0 ≤ h.size ∧ CHr Z EL s.vm s.heap vm0 h ∧ ∀ x ∈ ss, x < h.size ∧ Safe Z EL vm0 h x
/-- what is known of the body -/
def Bdy (p : Program) (Z s : State) (m : MethodId) (meth : Method) (c : Code) (own : String) (bytes : ByteArray) (maxL : Nat) (ret : Option FieldType) (nm : String) : Prop :=
  p.tables.exec = Jvm.exec ∧ Z.Warmed39 s.vm ∧ s.vm.findClass own = some m.cls ∧ c.code = bytes ∧ c.maxLocals = maxL ∧ meth.sig.returnType = ret ∧ meth.locks = false ∧ meth.name = nm ∧ Wd Z
/-- a contract -/
def Con (l : Launch) (Z : State) (y : MethodName) (bytes : ByteArray) (maxL : Nat) (ret : Option FieldType) (ws : List Cond) (rm : Room) (as' : Array Value) (h0 : Heap) (Q : Option Value → Heap → Prop) (ss : List Addr) : Prop :=
  Wd Z → Old Z Z.heap.size h0 → MetFree l y (head1 (Cond.code y bytes maxL ret :: ws) rm) (fun a U => a = as' ∧ Z.Warmed39 U.vm ∧ U.heap = h0 ∧ CHv Z EL U.vm h0 ∧ ∀ x ∈ ss, x < h0.size ∧ Safe Z EL U.vm h0 x) (fun _ _ _ _ _ => True) (fun _ U o U' => Out Z U Q rm.cells rm.slots o U')
def bi (b : Bool) : Int32 := if b then 1 else 0
theorem bi_t {b : Bool} (h : b = true) : ¬ bi b = 0 := by subst h; decide
theorem bi_f {b : Bool} (h : b = false) : bi b = 0 := by subst h; rfl
theorem bi_nar (b : Bool) : nar .boolean (bi b) = bi b := by cases b <;> rfl
theorem bi_tt : bi true = 1 := rfl
theorem bi_ff : bi false = 0 := rfl
theorem bi_inj {a b : Bool} : (bi a = bi b) = (a = b) := by cases a <;> cases b <;> decide
theorem own_nb (b : Bool) : narrow .boolean (.int (bi b)) = .int (bi b) := by cases b <;> rfl
theorem own_fb (b : Bool) : fits .boolean (.int (bi b)) = true := by cases b <;> rfl
theorem own_fr {t : FieldType} {v : Value} (ht : t.isReference = true) (hv : v.isRef = true) : fits t v = true := by cases t <;> cases v <;> first | rfl | (exfalso; revert ht hv; simp [FieldType.isReference, Value.isRef]; done)
theorem own_i2c (a : Int32) : ∃ x : Int32, a.toUInt32.toUInt16.toUInt32.toInt32 = x ∧ nar .char x = x ∧ 0 ≤ x.toInt ∧ x.toInt < 65536 := by
  refine ⟨_, rfl, ?_, (c_i2c a).2.1, (c_i2c a).2.2⟩
  show (a.toUInt32.toUInt16.toUInt32.toInt32).toUInt32.toUInt16.toUInt32.toInt32 = _
  simp only [UInt32.toUInt32_toInt32, UInt16.toUInt16_toUInt32]
theorem own_i2cm (a : Int32) : ∃ x : Int32, (a &&& 255).toUInt32.toUInt16.toUInt32.toInt32 = x ∧ nar .char x = x ∧ ¬ x < 0 ∧ ¬ 255 < x := by
  refine ⟨_, rfl, ?_, ?_⟩
  · show ((a &&& 255).toUInt32.toUInt16.toUInt32.toInt32).toUInt32.toUInt16.toUInt32.toInt32 = _
    simp only [UInt32.toUInt32_toInt32, UInt16.toUInt16_toUInt32]
  · rw [i2c_mask]
    have q := c_and a 255 (by decide)
    simp only [Int32.lt_iff_toInt_lt, Int32.reduceToInt] at *; omega
theorem own_and1 {a b : Bool} (h : b = true) : (bi a &&& 1) = bi (a && b) := by subst h; cases a <;> decide
theorem own_and0 {a b : Bool} (h : b = false) : (bi a &&& 0) = bi (a && b) := by subst h; cases a <;> decide
theorem own_andb (a b : Bool) : (bi a &&& bi b) = bi (a && b) := by cases a <;> cases b <;> decide
theorem own_inc (i : Nat) : Int32.ofNat i + 1 = Int32.ofNat (i + 1) := (Int32.ofNat_add i 1).symm
theorem own_ofNat {i : Nat} (h : i < 2147483648) : (Int32.ofNat i).toInt = i := by
  have := Int32.toInt_ofNat_of_lt (n := i) (by omega); exact this
theorem own_clamp {i : Nat} (h : i < 2147483648) : (Int32.ofNat i).toNatClampNeg = i := by
  simp only [Int32.toNatClampNeg, own_ofNat h]; omega
theorem own_lt {i j : Nat} (hi : i < 2147483648) (hj : j < 2147483648) : (Int32.ofNat i < Int32.ofNat j) ↔ i < j := by
  rw [Int32.lt_iff_toInt_lt, own_ofNat hi, own_ofNat hj]; omega
theorem own_ixok {i n : Nat} (hi : i < n) (hn : n < 2147483648) : ¬ Int32.ofNat i < 0 ∧ Int32.ofNat i < Int32.ofNat n := by
  refine ⟨?_, (own_lt (by omega) hn).mpr hi⟩
  rw [Int32.lt_iff_toInt_lt, own_ofNat (by omega)]; show ¬ ((i : Int) < 0); omega
theorem nar_b0 : nar .boolean 0 = 0 := by decide
theorem nar_b1 : nar .boolean 1 = 1 := by decide
theorem old_le {Z : State} {h : Heap} (O : Old Z Z.heap.size h) : Z.heap.size ≤ h.size := O.2.1
theorem nlt {x : Addr} {n : Nat} (h : x < n) : @LT.lt Nat _ x n := h
theorem nne {x y : Addr} (h : ¬ @Eq Nat x y) : x ≠ y := h
theorem own_root {Z : State} {a0 : Array Value} {O K : String} {kk : Nat} (w : (Cond.noSuperclass O).before a0 Z = true) (wk : (Cond.instantiable K kk).before a0 Z = true) (hn : O ≠ K) : NS Z O K := by
  obtain ⟨c, k, h1, h2, h3, -, -⟩ := Cond.noSuperclass_spec w
  obtain ⟨t, kt, g1, -⟩ := Cond.instantiable_spec wk
  have ne := ids_ne h1 g1 hn
  refine ⟨c, t, h1, g1, fun fuel => ?_⟩
  cases fuel with
  | zero => rfl
  | succ f => simp [Vm.isSubclassAux, ne, h2, h3]
theorem own_no {Z : State} {a0 : Array Value} {C S K : String} {kk : Nat} (w : (Cond.superclass C S).before a0 Z = true) (wk : (Cond.instantiable K kk).before a0 Z = true) (n : NS Z C K) (hn : C ≠ K) : ∃ c t, Z.vm.findClass C = some c ∧ Z.vm.findClass K = some t ∧ Z.vm.assignable c t = false := by
  obtain ⟨c, t, h0, g0, n3⟩ := n
  obtain ⟨p, k, kp, h1, h2, h3, h4, h5, -, h7⟩ := Cond.superclass_spec h0 w
  obtain ⟨t', kt, g1, g2, g3, g4, -⟩ := Cond.instantiable_spec wk
  cases g0.symm.trans g1
  have ne := ids_ne h0 g0 hn
  have g5 : kt.isInterface = false := by cases hq : kt.isInterface <;> simp [hq] at g4 ⊢
  refine ⟨c, t, h0, g0, ?_⟩
  show Z.vm.assignableAux (255 + 1) c t = false
  simp [Vm.assignableAux, ne, h2, g2, h5, g3, g5, Vm.isSubclass, n3]
theorem own_03 (x : Int32) : (x &&& 3) = 0 ∨ (x &&& 3) = 1 ∨ (x &&& 3) = 2 ∨ (x &&& 3) = 3 := by
  have q := c_and x 3 (by decide)
  simp only [← Int32.toInt_inj, Int32.reduceToInt] at *; omega
section K
variable {p : Program} {l : Launch} {e : Env} {R : Room} {s : State} {m : MethodId} {args : Array Value} {below : List Frame} {meth : Method} {c : Code} {Z T T' : State} {h h' : Heap} {k n : Nat} {own nm : String} {bytes : ByteArray} {maxL : Nat} {ret : Option FieldType} {G : Outcome → State → Prop} {pc : Nat} {ls : Array Slot} {st : List Value} {Q : Option Value → Heap → Prop} {a0 : Array Value} {ss : List Addr}
theorem Bdy.nameOf (B : Bdy p Z s m meth c own bytes maxL ret nm) : meth.name = nm := B.2.2.2.2.2.2.2.1
theorem Go.by {tb : Tables} {F F' : JFrame} (hs : ∀ t, Steps tb e below (T'.setTop F') t → Steps tb e below (T.setTop F) t) (q : Go tb e below G T' F') : Go tb e below G T F := by
  obtain ⟨s2, o, a, b⟩ := q; exact ⟨s2, o, hs _ a, b⟩
theorem own_gc {tb : Tables} {v v' : Int32} (hv : v = v') (q : Go tb e below G T (mkF m pc ls (.int v :: st))) : Go tb e below G T (mkF m pc ls (.int v' :: st)) := hv ▸ q
theorem Go.cast {tb : Tables} {F F' : JFrame} (hs : F = F') (q : Go tb e below G T F') : Go tb e below G T F := hs ▸ q
theorem Con.of {y : MethodName} {ws : List Cond} {rm : Room} {as' : Array Value} {h0 : Heap} (hpl : plainFor y = true)
    (body : ∀ p e s m below meth c T, Bdy p Z s m meth c y.cls bytes maxL ret y.name → Wk p l e rm s m as' below meth c Z T h0 0 0 ss → Go p.tables e below (Out Z s Q rm.cells rm.slots) T (entryFrame m as' maxL)) : Con l Z y bytes maxL ret ws rm as' h0 Q ss := by
  intro hWd hO
  refine MetFree.of_bodySF hpl hisR ?_
  intro p e s m args below meth c s₁ Bd hml0 hP hK
  obtain ⟨rfl, hZ, hh, hC, hss⟩ := hP
  subst hh
  exact body p e s m below meth c s₁ ⟨Bd.exec, hZ, findClass_of_methodNamed Bd.named, Bd.bytes, hml0, Bd.returns, Bd.notSynchronized, (name_of_methodNamed Bd.named Bd.method).1, hWd⟩ ⟨[], s.vm, s.heap.size, Stand.of_body Bd, by rw [Bd.state]; rfl, Fr.nil _, hO, (State.WarmedH.refl s).since _, Nat.le_refl _, CHr.refl hC, hss⟩
theorem Bdy.at {vm0 : Vm} {k0 : Nat} (B : Bdy p Z s m meth c own bytes maxL ret nm) (S : s.Since vm0 k0) : Bdy p Z (s.setVm vm0) m meth c own bytes maxL ret nm :=
  ⟨B.1, State.Warmed39.trans B.2.1 S.1, (S.1.alike.findClass _ _).trans B.2.2.1, B.2.2.2⟩
theorem Wk.size (W : Wk p l e R s m args below meth c Z T h k n ss) : Z.heap.size ≤ h.size := by obtain ⟨_, _, _, _, _, _, O, _⟩ := W; exact O.2.1
theorem Wk.old (W : Wk p l e R s m args below meth c Z T h k n ss) : Old Z Z.heap.size h := by obtain ⟨_, _, _, _, _, _, O, _⟩ := W; exact O
theorem Sta.old {C nf d : String} {v : Value} (F : Sta Z Z.heap C nf d v) (W : Old Z Z.heap.size h) : Sta Z h C nf d v := F.ext W.2
theorem Wk.sub {ss' : List Addr} (W : Wk p l e R s m args below meth c Z T h k n ss) (hs : ∀ x ∈ ss', x ∈ ss) : Wk p l e R s m args below meth c Z T h k n ss' := by
  obtain ⟨locs, vm0, k0, X, eT, N, O, S, hk, H, hss⟩ := W
  exact ⟨locs, vm0, k0, X, eT, N, O, S, hk, H, fun x q => hss x (hs x q)⟩
theorem Wk.more {k' n' : Nat} (W : Wk p l e R s m args below meth c Z T h k n ss) (hk : k ≤ k') (hn : n ≤ n') : Wk p l e R s m args below meth c Z T h k' n' ss := by
  obtain ⟨locs, vm0, k0, X, r⟩ := W; exact ⟨locs, vm0, k0, X.more hk hn, r⟩
/-! ### the ends -/
theorem go_end (B : Bdy p Z s m meth c own bytes maxL ret nm) (W : Wk p l e R s m args below meth c Z T h k n ss) {F : JFrame} {v : Option Value} {k' n' : Nat} (hv : ret = none → v = none) (hQ : Q v h) (hk : k ≤ k') (hn : n ≤ n')
    (hst : ∀ (s : State) (locs : List Loc) (fs : List Frame), Stand p l e R s m args below meth c T locs k n → (∀ (f : JFrame) (acts : List Action), f.method = m → f.locked = none → f.entered = [] → (doReturn e (T.setTop f) acts v).1 = T.setFrames fs) → Steps p.tables e below (T.setTop F) (T.setFrames fs)) :
    Go p.tables e below (Out Z s Q k' n') T F := by
  obtain ⟨locs, vm0, k0, X, eT, N, O, S, hk0, H, hss⟩ := W
  have B' := B.at S
  obtain ⟨a0, hEW, -⟩ := B.2.2.2.2.2.2.2.2
  obtain ⟨fs, hr, hrun, hended, e1, e2, e3, e4⟩ := X.leaveW S (by rw [eT]; exact hk0) (v := v) (fun q => hv (B.2.2.2.2.2.1 ▸ q)) B.2.2.2.2.2.2.1
  have eT' : (T.setFrames fs).heap = h := eT
  have H2 := H.trans (CHv.at X B'.2.1 hEW H.1)
  exact ⟨_, _, hst _ locs fs X hr, hrun, hended, _, _, rfl, ⟨by rw [eT']; exact hQ, N, by rw [eT']; exact O⟩, by rw [eT']; exact H2, e1, e2, e3, e4.mono hk hn⟩
theorem r_i (B : Bdy p Z s m meth c own bytes maxL (some .int) nm) (W : Wk p l e R s m args below meth c Z T h k n ss) {z : Int32} {k' n' : Nat} (hd : decode bytes pc = .ok (.ireturn, 1)) (hk : k ≤ k') (hn : n ≤ n') (hQ : Q (some (.int z)) h) : Go p.tables e below (Out Z s Q k' n') T (mkF m pc ls (.int z :: st)) :=
  go_end B W (fun q => by cases q) hQ hk hn fun _ _ _ X hr => retOut X B.1 B.2.2.2.2.2.1 rfl (Or.inl ⟨rfl, Or.inl rfl, _, rfl⟩) (hb B.2.2.2.1 hd) hr
theorem r_b (B : Bdy p Z s m meth c own bytes maxL (some .boolean) nm) (W : Wk p l e R s m args below meth c Z T h k n ss) {b : Bool} {k' n' : Nat} (hd : decode bytes pc = .ok (.ireturn, 1)) (hk : k ≤ k') (hn : n ≤ n') (hQ : Q (some (.int (bi b))) h) : Go p.tables e below (Out Z s Q k' n') T (mkF m pc ls (.int (bi b) :: st)) :=
  go_end B W (fun q => by cases q) (v := some (.int (nar .boolean (bi b)))) (by rw [bi_nar]; exact hQ) hk hn fun _ _ _ X hr => retN X B.1 B.2.2.2.2.2.1 (Or.inl rfl) (hb B.2.2.2.1 hd) hr
theorem r_n (B : Bdy p Z s m meth c own bytes maxL ret nm) (W : Wk p l e R s m args below meth c Z T h k n ss) {t : FieldType} {z : Int32} {k' n' : Nat} (hret : ret = some t) (ht : t = .boolean ∨ t = .byte ∨ t = .char ∨ t = .short) (hd : decode bytes pc = .ok (.ireturn, 1)) (hk : k ≤ k') (hn : n ≤ n') (hQ : Q (some (.int (nar t z))) h) : Go p.tables e below (Out Z s Q k' n') T (mkF m pc ls (.int z :: st)) :=
  go_end B W (fun q => by rw [hret] at q; cases q) hQ hk hn fun _ _ _ X hr => retN X B.1 (B.2.2.2.2.2.1.trans hret) ht (hb B.2.2.2.1 hd) hr
theorem nar_ref {t : FieldType} {v : Value} (ht : t.isReference = true) : narrow t v = v := by cases t <;> first | rfl | (exfalso; revert ht; simp [FieldType.isReference]; done) | (cases v <;> rfl)
theorem r_a (B : Bdy p Z s m meth c own bytes maxL ret nm) (W : Wk p l e R s m args below meth c Z T h k n ss) {t : FieldType} {v : Value} {k' n' : Nat} (hret : ret = some t) (ht : t.isReference = true) (hv : v.isRef = true) (hd : decode bytes pc = .ok (.areturn, 1)) (hk : k ≤ k') (hn : n ≤ n') (hQ : Q (some v) h) : Go p.tables e below (Out Z s Q k' n') T (mkF m pc ls (v :: st)) :=
  go_end B W (fun q => by rw [hret] at q; cases q) hQ hk hn fun _ _ _ X hr => retOut X B.1 (B.2.2.2.2.2.1.trans hret) (nar_ref ht) (Or.inr (Or.inr (Or.inr (Or.inr ⟨rfl, ht, hv⟩)))) (hb B.2.2.2.1 hd) hr
theorem r_v (B : Bdy p Z s m meth c own bytes maxL none nm) (W : Wk p l e R s m args below meth c Z T h k n ss) {k' n' : Nat} (hd : decode bytes pc = .ok (.return_, 1)) (hk : k ≤ k') (hn : n ≤ n') (hQ : Q none h) : Go p.tables e below (Out Z s Q k' n') T (mkF m pc ls []) :=
  go_end B W (fun _ => rfl) hQ hk hn fun _ _ _ X hr => X.returnOut B.1 B.2.2.2.2.2.1 (hb B.2.2.2.1 hd) hr
theorem r_l (B : Bdy p Z s m meth c own bytes maxL (some .long) nm) (W : Wk p l e R s m args below meth c Z T h k n ss) {z : Int64} {k' n' : Nat} (hd : decode bytes pc = .ok (.lreturn, 1)) (hk : k ≤ k') (hn : n ≤ n') (hQ : Q (some (.long z)) h) : Go p.tables e below (Out Z s Q k' n') T (mkF m pc ls (.long z :: st)) :=
  go_end B W (fun q => by cases q) hQ hk hn fun _ _ _ X hr => retOut X B.1 B.2.2.2.2.2.1 rfl (Or.inr (Or.inl ⟨rfl, rfl, _, rfl⟩)) (hb B.2.2.2.1 hd) hr
/-! ### plain steps -/
theorem g_aload_n (B : Bdy p Z s m meth c own bytes maxL ret nm) (W : Wk p l e R s m args below meth c Z T h k n ss) {i : Fin 4} {v : Value} (hd : decode bytes pc = .ok (.aload_n i, 1)) (hl : ls[i.val]? = some (.val v)) (hv : v.isRef = true) (q : Go p.tables e below G T (mkF m (pc + 1) ls (v :: st))) : Go p.tables e below G T (mkF m pc ls st) := by
  obtain ⟨_, _, _, X, -⟩ := W
  exact Go.by (fun t q => XS.aloadN X.here B.1 rfl (hb B.2.2.2.1 hd) hl hv q) q
theorem g_aload (B : Bdy p Z s m meth c own bytes maxL ret nm) (W : Wk p l e R s m args below meth c Z T h k n ss) {i : Nat} {v : Value} (hd : decode bytes pc = .ok (.aload i, 2)) (hl : ls[i]? = some (.val v)) (hv : v.isRef = true) (q : Go p.tables e below G T (mkF m (pc + 2) ls (v :: st))) : Go p.tables e below G T (mkF m pc ls st) := by
  obtain ⟨_, _, _, X, -⟩ := W
  exact Go.by (fun t q => XS.aload X.here B.1 rfl (hb B.2.2.2.1 hd) hl hv q) q
theorem g_iload_n (B : Bdy p Z s m meth c own bytes maxL ret nm) (W : Wk p l e R s m args below meth c Z T h k n ss) {i : Fin 4} {v : Int32} (hd : decode bytes pc = .ok (.iload_n i, 1)) (hl : ls[i.val]? = some (.val (.int v))) (q : Go p.tables e below G T (mkF m (pc + 1) ls (.int v :: st))) : Go p.tables e below G T (mkF m pc ls st) := by
  obtain ⟨_, _, _, X, -⟩ := W
  exact Go.by (fun t q => XS.iloadN X.here B.1 rfl (hb B.2.2.2.1 hd) hl q) q
theorem g_iload (B : Bdy p Z s m meth c own bytes maxL ret nm) (W : Wk p l e R s m args below meth c Z T h k n ss) {i : Nat} {v : Int32} (hd : decode bytes pc = .ok (.iload i, 2)) (hl : ls[i]? = some (.val (.int v))) (q : Go p.tables e below G T (mkF m (pc + 2) ls (.int v :: st))) : Go p.tables e below G T (mkF m pc ls st) := by
  obtain ⟨_, _, _, X, -⟩ := W
  exact Go.by (fun t q => XS.iload X.here B.1 rfl (hb B.2.2.2.1 hd) hl q) q
theorem g_lload_n (B : Bdy p Z s m meth c own bytes maxL ret nm) (W : Wk p l e R s m args below meth c Z T h k n ss) {i : Fin 4} {v : Int64} (hd : decode bytes pc = .ok (.lload_n i, 1)) (hl : ls[i.val]? = some (.val (.long v))) (q : Go p.tables e below G T (mkF m (pc + 1) ls (.long v :: st))) : Go p.tables e below G T (mkF m pc ls st) := by
  obtain ⟨_, _, _, X, -⟩ := W
  exact Go.by (fun t q => XT.lloadN X.here B.1 rfl (hb B.2.2.2.1 hd) hl q) q
theorem g_lload (B : Bdy p Z s m meth c own bytes maxL ret nm) (W : Wk p l e R s m args below meth c Z T h k n ss) {i : Nat} {v : Int64} (hd : decode bytes pc = .ok (.lload i, 2)) (hl : ls[i]? = some (.val (.long v))) (q : Go p.tables e below G T (mkF m (pc + 2) ls (.long v :: st))) : Go p.tables e below G T (mkF m pc ls st) := by
  obtain ⟨_, _, _, X, -⟩ := W
  exact Go.by (fun t q => XT.lload X.here B.1 rfl (hb B.2.2.2.1 hd) hl q) q
theorem g_istore_n (B : Bdy p Z s m meth c own bytes maxL ret nm) (W : Wk p l e R s m args below meth c Z T h k n ss) {i : Fin 4} {v : Int32} {l' : Array Slot} (hd : decode bytes pc = .ok (.istore_n i, 1)) (hl : storeLocals ls i.val (.int v) = some l') (q : Go p.tables e below G T (mkF m (pc + 1) l' st)) : Go p.tables e below G T (mkF m pc ls (.int v :: st)) := by
  obtain ⟨_, _, _, X, -⟩ := W
  exact Go.by (fun t q => XS.istoreN X.here B.1 rfl (hb B.2.2.2.1 hd) rfl hl q) q
theorem g_istore (B : Bdy p Z s m meth c own bytes maxL ret nm) (W : Wk p l e R s m args below meth c Z T h k n ss) {i : Nat} {v : Int32} {l' : Array Slot} (hd : decode bytes pc = .ok (.istore i, 2)) (hl : storeLocals ls i (.int v) = some l') (q : Go p.tables e below G T (mkF m (pc + 2) l' st)) : Go p.tables e below G T (mkF m pc ls (.int v :: st)) := by
  obtain ⟨_, _, _, X, -⟩ := W
  exact Go.by (fun t q => XS.istore X.here B.1 rfl (hb B.2.2.2.1 hd) rfl hl q) q
theorem g_lstore_n (B : Bdy p Z s m meth c own bytes maxL ret nm) (W : Wk p l e R s m args below meth c Z T h k n ss) {i : Fin 4} {v : Int64} {l' : Array Slot} (hd : decode bytes pc = .ok (.lstore_n i, 1)) (hl : storeLocals ls i.val (.long v) = some l') (q : Go p.tables e below G T (mkF m (pc + 1) l' st)) : Go p.tables e below G T (mkF m pc ls (.long v :: st)) := by
  obtain ⟨_, _, _, X, -⟩ := W
  exact Go.by (fun t q => XT.lstoreN X.here B.1 rfl (hb B.2.2.2.1 hd) rfl hl q) q
theorem g_lstore (B : Bdy p Z s m meth c own bytes maxL ret nm) (W : Wk p l e R s m args below meth c Z T h k n ss) {i : Nat} {v : Int64} {l' : Array Slot} (hd : decode bytes pc = .ok (.lstore i, 2)) (hl : storeLocals ls i (.long v) = some l') (q : Go p.tables e below G T (mkF m (pc + 2) l' st)) : Go p.tables e below G T (mkF m pc ls (.long v :: st)) := by
  obtain ⟨_, _, _, X, -⟩ := W
  exact Go.by (fun t q => XT.lstore X.here B.1 rfl (hb B.2.2.2.1 hd) rfl hl q) q
theorem g_astore_n (B : Bdy p Z s m meth c own bytes maxL ret nm) (W : Wk p l e R s m args below meth c Z T h k n ss) {i : Fin 4} {v : Value} {l' : Array Slot} (hd : decode bytes pc = .ok (.astore_n i, 1)) (hv : v.isRef = true) (hl : storeLocals ls i.val v = some l') (q : Go p.tables e below G T (mkF m (pc + 1) l' st)) : Go p.tables e below G T (mkF m pc ls (v :: st)) := by
  obtain ⟨_, _, _, X, -⟩ := W
  exact Go.by (fun t q => XS.astoreN X.here B.1 rfl (hb B.2.2.2.1 hd) rfl hv hl q) q
theorem g_astore (B : Bdy p Z s m meth c own bytes maxL ret nm) (W : Wk p l e R s m args below meth c Z T h k n ss) {i : Nat} {v : Value} {l' : Array Slot} (hd : decode bytes pc = .ok (.astore i, 2)) (hv : v.isRef = true) (hl : storeLocals ls i v = some l') (q : Go p.tables e below G T (mkF m (pc + 2) l' st)) : Go p.tables e below G T (mkF m pc ls (v :: st)) := by
  obtain ⟨_, _, _, X, -⟩ := W
  exact Go.by (fun t q => XS.astore X.here B.1 rfl (hb B.2.2.2.1 hd) rfl hv hl q) q
theorem g_iconst (B : Bdy p Z s m meth c own bytes maxL ret nm) (W : Wk p l e R s m args below meth c Z T h k n ss) {i : Int} {v : Int32} (hd : decode bytes pc = .ok (.iconst i, 1)) (hv : Int32.ofInt i = v) (q : Go p.tables e below G T (mkF m (pc + 1) ls (.int v :: st))) : Go p.tables e below G T (mkF m pc ls st) := by
  obtain ⟨_, _, _, X, -⟩ := W
  exact Go.by (fun t q => XT.iconstV X.here B.1 rfl _ (hb B.2.2.2.1 hd) hv q) q
theorem g_bipush (B : Bdy p Z s m meth c own bytes maxL ret nm) (W : Wk p l e R s m args below meth c Z T h k n ss) {i : Int} {v : Int32} (hd : decode bytes pc = .ok (.bipush i, 2)) (hv : (Int8.ofInt i).toInt32 = v) (q : Go p.tables e below G T (mkF m (pc + 2) ls (.int v :: st))) : Go p.tables e below G T (mkF m pc ls st) := by
  obtain ⟨_, _, _, X, -⟩ := W
  exact Go.by (fun t q => XT.bipushV X.here B.1 rfl _ (hb B.2.2.2.1 hd) hv q) q
theorem g_sipush (B : Bdy p Z s m meth c own bytes maxL ret nm) (W : Wk p l e R s m args below meth c Z T h k n ss) {i : Int} {v : Int32} (hd : decode bytes pc = .ok (.sipush i, 3)) (hv : (Int16.ofInt i).toInt32 = v) (q : Go p.tables e below G T (mkF m (pc + 3) ls (.int v :: st))) : Go p.tables e below G T (mkF m pc ls st) := by
  obtain ⟨_, _, _, X, -⟩ := W
  exact Go.by (fun t q => XT.sipushV X.here B.1 rfl _ (hb B.2.2.2.1 hd) hv q) q
theorem g_lconst (B : Bdy p Z s m meth c own bytes maxL ret nm) (W : Wk p l e R s m args below meth c Z T h k n ss) {i : Fin 2} {v : Int64} (hd : decode bytes pc = .ok (.lconst i, 1)) (hv : Int64.ofNat i = v) (q : Go p.tables e below G T (mkF m (pc + 1) ls (.long v :: st))) : Go p.tables e below G T (mkF m pc ls st) := by
  obtain ⟨_, _, _, X, -⟩ := W
  exact Go.by (fun t q => XT.lconstV X.here B.1 rfl _ (hb B.2.2.2.1 hd) hv q) q
theorem g_aconst_null (B : Bdy p Z s m meth c own bytes maxL ret nm) (W : Wk p l e R s m args below meth c Z T h k n ss)  (hd : decode bytes pc = .ok (.aconst_null, 1))  (q : Go p.tables e below G T (mkF m (pc + 1) ls (.null :: st))) : Go p.tables e below G T (mkF m pc ls st) := by
  obtain ⟨_, _, _, X, -⟩ := W
  exact Go.by (fun t q => XS.aconstNull X.here B.1 rfl (hb B.2.2.2.1 hd) q) q
theorem g_iadd (B : Bdy p Z s m meth c own bytes maxL ret nm) (W : Wk p l e R s m args below meth c Z T h k n ss) {x y : Int32} (hd : decode bytes pc = .ok (.iadd, 1))  (q : Go p.tables e below G T (mkF m (pc + 1) ls (.int (x + y) :: st))) : Go p.tables e below G T (mkF m pc ls (.int y :: .int x :: st)) := by
  obtain ⟨_, _, _, X, -⟩ := W
  exact Go.by (fun t q => XS.iadd X.here B.1 rfl (hb B.2.2.2.1 hd) rfl q) q
theorem g_isub (B : Bdy p Z s m meth c own bytes maxL ret nm) (W : Wk p l e R s m args below meth c Z T h k n ss) {x y : Int32} (hd : decode bytes pc = .ok (.isub, 1))  (q : Go p.tables e below G T (mkF m (pc + 1) ls (.int (x - y) :: st))) : Go p.tables e below G T (mkF m pc ls (.int y :: .int x :: st)) := by
  obtain ⟨_, _, _, X, -⟩ := W
  exact Go.by (fun t q => XS.isub X.here B.1 rfl (hb B.2.2.2.1 hd) rfl q) q
theorem g_iand (B : Bdy p Z s m meth c own bytes maxL ret nm) (W : Wk p l e R s m args below meth c Z T h k n ss) {x y : Int32} (hd : decode bytes pc = .ok (.iand, 1))  (q : Go p.tables e below G T (mkF m (pc + 1) ls (.int (x &&& y) :: st))) : Go p.tables e below G T (mkF m pc ls (.int y :: .int x :: st)) := by
  obtain ⟨_, _, _, X, -⟩ := W
  exact Go.by (fun t q => XS.iand X.here B.1 rfl (hb B.2.2.2.1 hd) rfl q) q
theorem g_imul (B : Bdy p Z s m meth c own bytes maxL ret nm) (W : Wk p l e R s m args below meth c Z T h k n ss) {x y : Int32} (hd : decode bytes pc = .ok (.imul, 1))  (q : Go p.tables e below G T (mkF m (pc + 1) ls (.int (x * y) :: st))) : Go p.tables e below G T (mkF m pc ls (.int y :: .int x :: st)) := by
  obtain ⟨_, _, _, X, -⟩ := W
  exact Go.by (fun t q => XS.imul X.here B.1 rfl (hb B.2.2.2.1 hd) rfl q) q
theorem g_ior (B : Bdy p Z s m meth c own bytes maxL ret nm) (W : Wk p l e R s m args below meth c Z T h k n ss) {x y : Int32} (hd : decode bytes pc = .ok (.ior, 1))  (q : Go p.tables e below G T (mkF m (pc + 1) ls (.int (x ||| y) :: st))) : Go p.tables e below G T (mkF m pc ls (.int y :: .int x :: st)) := by
  obtain ⟨_, _, _, X, -⟩ := W
  exact Go.by (fun t q => XT.ior X.here B.1 rfl (hb B.2.2.2.1 hd) rfl q) q
theorem g_ixor (B : Bdy p Z s m meth c own bytes maxL ret nm) (W : Wk p l e R s m args below meth c Z T h k n ss) {x y : Int32} (hd : decode bytes pc = .ok (.ixor, 1))  (q : Go p.tables e below G T (mkF m (pc + 1) ls (.int (x ^^^ y) :: st))) : Go p.tables e below G T (mkF m pc ls (.int y :: .int x :: st)) := by
  obtain ⟨_, _, _, X, -⟩ := W
  exact Go.by (fun t q => XT.ixor X.here B.1 rfl (hb B.2.2.2.1 hd) rfl q) q
theorem g_ishl (B : Bdy p Z s m meth c own bytes maxL ret nm) (W : Wk p l e R s m args below meth c Z T h k n ss) {x y : Int32} (hd : decode bytes pc = .ok (.ishl, 1))  (q : Go p.tables e below G T (mkF m (pc + 1) ls (.int (x <<< (y &&& 31)) :: st))) : Go p.tables e below G T (mkF m pc ls (.int y :: .int x :: st)) := by
  obtain ⟨_, _, _, X, -⟩ := W
  exact Go.by (fun t q => XT.ishl X.here B.1 rfl (hb B.2.2.2.1 hd) rfl q) q
theorem g_ishr (B : Bdy p Z s m meth c own bytes maxL ret nm) (W : Wk p l e R s m args below meth c Z T h k n ss) {x y : Int32} (hd : decode bytes pc = .ok (.ishr, 1))  (q : Go p.tables e below G T (mkF m (pc + 1) ls (.int (x >>> (y &&& 31)) :: st))) : Go p.tables e below G T (mkF m pc ls (.int y :: .int x :: st)) := by
  obtain ⟨_, _, _, X, -⟩ := W
  exact Go.by (fun t q => XT.ishr X.here B.1 rfl (hb B.2.2.2.1 hd) rfl q) q
theorem g_iushr (B : Bdy p Z s m meth c own bytes maxL ret nm) (W : Wk p l e R s m args below meth c Z T h k n ss) {x y : Int32} (hd : decode bytes pc = .ok (.iushr, 1))  (q : Go p.tables e below G T (mkF m (pc + 1) ls (.int (XT.ushr x y) :: st))) : Go p.tables e below G T (mkF m pc ls (.int y :: .int x :: st)) := by
  obtain ⟨_, _, _, X, -⟩ := W
  exact Go.by (fun t q => XT.iushr X.here B.1 rfl (hb B.2.2.2.1 hd) rfl q) q
theorem g_idiv (B : Bdy p Z s m meth c own bytes maxL ret nm) (W : Wk p l e R s m args below meth c Z T h k n ss) {x y : Int32} (hd : decode bytes pc = .ok (.idiv, 1)) (hy : y ≠ 0) (q : Go p.tables e below G T (mkF m (pc + 1) ls (.int (x / y) :: st))) : Go p.tables e below G T (mkF m pc ls (.int y :: .int x :: st)) := by
  obtain ⟨_, _, _, X, -⟩ := W
  exact Go.by (fun t q => XS.idiv X.here B.1 rfl (hb B.2.2.2.1 hd) rfl hy q) q
theorem g_irem (B : Bdy p Z s m meth c own bytes maxL ret nm) (W : Wk p l e R s m args below meth c Z T h k n ss) {x y : Int32} (hd : decode bytes pc = .ok (.irem, 1)) (hy : y ≠ 0) (q : Go p.tables e below G T (mkF m (pc + 1) ls (.int (x % y) :: st))) : Go p.tables e below G T (mkF m pc ls (.int y :: .int x :: st))   := by
  obtain ⟨_, _, _, X, -⟩ := W
  exact Go.by (fun t q => iremM X B.1 rfl (hb B.2.2.2.1 hd) rfl hy q) q
theorem g_ineg (B : Bdy p Z s m meth c own bytes maxL ret nm) (W : Wk p l e R s m args below meth c Z T h k n ss) {x : Int32} (hd : decode bytes pc = .ok (.ineg, 1))  (q : Go p.tables e below G T (mkF m (pc + 1) ls (.int (-x) :: st))) : Go p.tables e below G T (mkF m pc ls (.int x :: st)) := by
  obtain ⟨_, _, _, X, -⟩ := W
  exact Go.by (fun t q => XS.ineg X.here B.1 rfl (hb B.2.2.2.1 hd) rfl q) q
theorem g_i2c (B : Bdy p Z s m meth c own bytes maxL ret nm) (W : Wk p l e R s m args below meth c Z T h k n ss) {x : Int32} (hd : decode bytes pc = .ok (.i2c, 1))  (q : Go p.tables e below G T (mkF m (pc + 1) ls (.int x.toUInt32.toUInt16.toUInt32.toInt32 :: st))) : Go p.tables e below G T (mkF m pc ls (.int x :: st)) := by
  obtain ⟨_, _, _, X, -⟩ := W
  exact Go.by (fun t q => XT.i2c X.here B.1 rfl (hb B.2.2.2.1 hd) rfl q) q
theorem g_i2b (B : Bdy p Z s m meth c own bytes maxL ret nm) (W : Wk p l e R s m args below meth c Z T h k n ss) {x : Int32} (hd : decode bytes pc = .ok (.i2b, 1))  (q : Go p.tables e below G T (mkF m (pc + 1) ls (.int x.toInt8.toInt32 :: st))) : Go p.tables e below G T (mkF m pc ls (.int x :: st)) := by
  obtain ⟨_, _, _, X, -⟩ := W
  exact Go.by (fun t q => XT.i2b X.here B.1 rfl (hb B.2.2.2.1 hd) rfl q) q
theorem g_i2l (B : Bdy p Z s m meth c own bytes maxL ret nm) (W : Wk p l e R s m args below meth c Z T h k n ss) {x : Int32} (hd : decode bytes pc = .ok (.i2l, 1))  (q : Go p.tables e below G T (mkF m (pc + 1) ls (.long x.toInt64 :: st))) : Go p.tables e below G T (mkF m pc ls (.int x :: st)) := by
  obtain ⟨_, _, _, X, -⟩ := W
  exact Go.by (fun t q => XT.i2l X.here B.1 rfl (hb B.2.2.2.1 hd) rfl q) q
theorem g_l2i (B : Bdy p Z s m meth c own bytes maxL ret nm) (W : Wk p l e R s m args below meth c Z T h k n ss) {x : Int64} (hd : decode bytes pc = .ok (.l2i, 1))  (q : Go p.tables e below G T (mkF m (pc + 1) ls (.int x.toInt32 :: st))) : Go p.tables e below G T (mkF m pc ls (.long x :: st)) := by
  obtain ⟨_, _, _, X, -⟩ := W
  exact Go.by (fun t q => XT.l2i X.here B.1 rfl (hb B.2.2.2.1 hd) rfl q) q
theorem g_land (B : Bdy p Z s m meth c own bytes maxL ret nm) (W : Wk p l e R s m args below meth c Z T h k n ss) {x y : Int64} (hd : decode bytes pc = .ok (.land, 1))  (q : Go p.tables e below G T (mkF m (pc + 1) ls (.long (x &&& y) :: st))) : Go p.tables e below G T (mkF m pc ls (.long y :: .long x :: st)) := by
  obtain ⟨_, _, _, X, -⟩ := W
  exact Go.by (fun t q => XT.land X.here B.1 rfl (hb B.2.2.2.1 hd) rfl q) q
theorem g_ladd (B : Bdy p Z s m meth c own bytes maxL ret nm) (W : Wk p l e R s m args below meth c Z T h k n ss) {x y : Int64} (hd : decode bytes pc = .ok (.ladd, 1))  (q : Go p.tables e below G T (mkF m (pc + 1) ls (.long (x + y) :: st))) : Go p.tables e below G T (mkF m pc ls (.long y :: .long x :: st)) := by
  obtain ⟨_, _, _, X, -⟩ := W
  exact Go.by (fun t q => XT.ladd X.here B.1 rfl (hb B.2.2.2.1 hd) rfl q) q
theorem g_lcmp (B : Bdy p Z s m meth c own bytes maxL ret nm) (W : Wk p l e R s m args below meth c Z T h k n ss) {x y : Int64} (hd : decode bytes pc = .ok (.lcmp, 1))  (q : Go p.tables e below G T (mkF m (pc + 1) ls (.int (XT.cmpL x y) :: st))) : Go p.tables e below G T (mkF m pc ls (.long y :: .long x :: st)) := by
  obtain ⟨_, _, _, X, -⟩ := W
  exact Go.by (fun t q => XT.lcmp X.here B.1 rfl (hb B.2.2.2.1 hd) rfl q) q
theorem g_lushr (B : Bdy p Z s m meth c own bytes maxL ret nm) (W : Wk p l e R s m args below meth c Z T h k n ss) {x : Int64} {y : Int32} (hd : decode bytes pc = .ok (.lushr, 1))  (q : Go p.tables e below G T (mkF m (pc + 1) ls (.long (XT.ushrL x y) :: st))) : Go p.tables e below G T (mkF m pc ls (.int y :: .long x :: st)) := by
  obtain ⟨_, _, _, X, -⟩ := W
  exact Go.by (fun t q => XT.lushr X.here B.1 rfl (hb B.2.2.2.1 hd) rfl q) q
theorem g_iinc (B : Bdy p Z s m meth c own bytes maxL ret nm) (W : Wk p l e R s m args below meth c Z T h k n ss) {i : Nat} {cst : Int} {x v : Int32} {l' : Array Slot} (hd : decode bytes pc = .ok (.iinc i cst, 3)) (hv : Int32.ofInt cst = v) (hl : ls[i]? = some (.val (.int x))) (hl' : storeLocals ls i (.int (x + v)) = some l') (q : Go p.tables e below G T (mkF m (pc + 3) l' st)) : Go p.tables e below G T (mkF m pc ls st) := by
  obtain ⟨_, _, _, X, -⟩ := W
  exact Go.by (fun t q => XT.iincV X.here B.1 rfl _ (hb B.2.2.2.1 hd) hv hl hl' q) q
theorem g_dup (B : Bdy p Z s m meth c own bytes maxL ret nm) (W : Wk p l e R s m args below meth c Z T h k n ss) {v : Value} (hd : decode bytes pc = .ok (.dup, 1)) (hv : v.category = 1) (q : Go p.tables e below G T (mkF m (pc + 1) ls (v :: v :: st))) : Go p.tables e below G T (mkF m pc ls (v :: st)) := by
  obtain ⟨_, _, _, X, -⟩ := W
  exact Go.by (fun t q => XS.dup X.here B.1 rfl (hb B.2.2.2.1 hd) rfl hv q) q
theorem g_dup_x1 (B : Bdy p Z s m meth c own bytes maxL ret nm) (W : Wk p l e R s m args below meth c Z T h k n ss) {v w : Value} (hd : decode bytes pc = .ok (.dup_x1, 1)) (hv : v.category = 1) (hw' : w.category = 1) (q : Go p.tables e below G T (mkF m (pc + 1) ls (v :: w :: v :: st))) : Go p.tables e below G T (mkF m pc ls (v :: w :: st)) := by
  obtain ⟨_, _, _, X, -⟩ := W
  exact Go.by (fun t q => XT.dupX1 X.here B.1 rfl (hb B.2.2.2.1 hd) rfl hv hw' q) q
theorem g_pop (B : Bdy p Z s m meth c own bytes maxL ret nm) (W : Wk p l e R s m args below meth c Z T h k n ss) {v : Value} (hd : decode bytes pc = .ok (.pop, 1)) (hv : v.category = 1) (q : Go p.tables e below G T (mkF m (pc + 1) ls st)) : Go p.tables e below G T (mkF m pc ls (v :: st)) := by
  obtain ⟨_, _, _, X, -⟩ := W
  exact Go.by (fun t q => XT.pop X.here B.1 rfl (hb B.2.2.2.1 hd) rfl hv q) q
theorem g_goto (B : Bdy p Z s m meth c own bytes maxL ret nm) (W : Wk p l e R s m args below meth c Z T h k n ss)  {o : Int} {pc' : Nat} (hd : decode bytes pc = .ok (.goto o, 3))  (hp : (pc : Int) + o = (pc' : Int)) (q : Go p.tables e below G T (mkF m pc' ls st)) : Go p.tables e below G T (mkF m pc ls st)   := by
  obtain ⟨_, _, _, X, -⟩ := W
  exact Go.by (fun t q => XS.goto X.here B.1 rfl rfl (hb B.2.2.2.1 hd)  (by rw [hp]; exact Int.natCast_nonneg _) (by rw [hp]; exact Int.toNat_natCast _) q) q
theorem g_if_y (B : Bdy p Z s m meth c own bytes maxL ret nm) (W : Wk p l e R s m args below meth c Z T h k n ss) {cd : ClassFile.Cond} {x : Int32} {o : Int} {pc' : Nat} (hd : decode bytes pc = .ok (.ifCond cd o, 3)) (hc : ifCond.holds cd x = true) (hp : (pc : Int) + o = (pc' : Int)) (q : Go p.tables e below G T (mkF m pc' ls st)) : Go p.tables e below G T (mkF m pc ls (.int x :: st))   := by
  obtain ⟨_, _, _, X, -⟩ := W
  exact Go.by (fun t q => XS.ifYes X.here B.1 rfl rfl (hb B.2.2.2.1 hd) rfl hc (by rw [hp]; exact Int.natCast_nonneg _) (by rw [hp]; exact Int.toNat_natCast _) q) q
theorem g_if_n (B : Bdy p Z s m meth c own bytes maxL ret nm) (W : Wk p l e R s m args below meth c Z T h k n ss) {cd : ClassFile.Cond} {x : Int32} {o : Int} (hd : decode bytes pc = .ok (.ifCond cd o, 3)) (hc : ifCond.holds cd x = false) (q : Go p.tables e below G T (mkF m (pc + 3) ls st)) : Go p.tables e below G T (mkF m pc ls (.int x :: st))   := by
  obtain ⟨_, _, _, X, -⟩ := W
  exact Go.by (fun t q => XS.ifNo X.here B.1 rfl (hb B.2.2.2.1 hd) rfl hc q) q
theorem g_icmp_y (B : Bdy p Z s m meth c own bytes maxL ret nm) (W : Wk p l e R s m args below meth c Z T h k n ss) {cd : ClassFile.Cond} {x y : Int32} {o : Int} {pc' : Nat} (hd : decode bytes pc = .ok (.if_icmp cd o, 3)) (hc : if_icmp.holds cd x y = true) (hp : (pc : Int) + o = (pc' : Int)) (q : Go p.tables e below G T (mkF m pc' ls st)) : Go p.tables e below G T (mkF m pc ls (.int y :: .int x :: st))   := by
  obtain ⟨_, _, _, X, -⟩ := W
  exact Go.by (fun t q => XS.icmpYes X.here B.1 rfl rfl (hb B.2.2.2.1 hd) rfl hc (by rw [hp]; exact Int.natCast_nonneg _) (by rw [hp]; exact Int.toNat_natCast _) q) q
theorem g_icmp_n (B : Bdy p Z s m meth c own bytes maxL ret nm) (W : Wk p l e R s m args below meth c Z T h k n ss) {cd : ClassFile.Cond} {x y : Int32} {o : Int} (hd : decode bytes pc = .ok (.if_icmp cd o, 3)) (hc : if_icmp.holds cd x y = false) (q : Go p.tables e below G T (mkF m (pc + 3) ls st)) : Go p.tables e below G T (mkF m pc ls (.int y :: .int x :: st))   := by
  obtain ⟨_, _, _, X, -⟩ := W
  exact Go.by (fun t q => XS.icmpNo X.here B.1 rfl (hb B.2.2.2.1 hd) rfl hc q) q
theorem g_ifnull_y (B : Bdy p Z s m meth c own bytes maxL ret nm) (W : Wk p l e R s m args below meth c Z T h k n ss)  {o : Int} {pc' : Nat} (hd : decode bytes pc = .ok (.ifnull o, 3))  (hp : (pc : Int) + o = (pc' : Int)) (q : Go p.tables e below G T (mkF m pc' ls st)) : Go p.tables e below G T (mkF m pc ls (.null :: st))   := by
  obtain ⟨_, _, _, X, -⟩ := W
  exact Go.by (fun t q => XS.ifnullYes X.here B.1 rfl rfl (hb B.2.2.2.1 hd) rfl (by rw [hp]; exact Int.natCast_nonneg _) (by rw [hp]; exact Int.toNat_natCast _) q) q
theorem g_ifnull_n (B : Bdy p Z s m meth c own bytes maxL ret nm) (W : Wk p l e R s m args below meth c Z T h k n ss) {a : Addr} {o : Int} (hd : decode bytes pc = .ok (.ifnull o, 3))  (q : Go p.tables e below G T (mkF m (pc + 3) ls st)) : Go p.tables e below G T (mkF m pc ls (.ref a :: st))   := by
  obtain ⟨_, _, _, X, -⟩ := W
  exact Go.by (fun t q => XS.ifnullNo X.here B.1 rfl (hb B.2.2.2.1 hd) rfl q) q
theorem g_ifnonnull_y (B : Bdy p Z s m meth c own bytes maxL ret nm) (W : Wk p l e R s m args below meth c Z T h k n ss) {a : Addr} {o : Int} {pc' : Nat} (hd : decode bytes pc = .ok (.ifnonnull o, 3))  (hp : (pc : Int) + o = (pc' : Int)) (q : Go p.tables e below G T (mkF m pc' ls st)) : Go p.tables e below G T (mkF m pc ls (.ref a :: st))   := by
  obtain ⟨_, _, _, X, -⟩ := W
  exact Go.by (fun t q => XT.ifnonnullYes X.here B.1 rfl rfl (hb B.2.2.2.1 hd) rfl (by rw [hp]; exact Int.natCast_nonneg _) (by rw [hp]; exact Int.toNat_natCast _) q) q
theorem g_ifnonnull_n (B : Bdy p Z s m meth c own bytes maxL ret nm) (W : Wk p l e R s m args below meth c Z T h k n ss)  {o : Int} (hd : decode bytes pc = .ok (.ifnonnull o, 3))  (q : Go p.tables e below G T (mkF m (pc + 3) ls st)) : Go p.tables e below G T (mkF m pc ls (.null :: st))   := by
  obtain ⟨_, _, _, X, -⟩ := W
  exact Go.by (fun t q => XT.ifnonnullNo X.here B.1 rfl (hb B.2.2.2.1 hd) rfl q) q
theorem g_acmp_y (B : Bdy p Z s m meth c own bytes maxL ret nm) (W : Wk p l e R s m args below meth c Z T h k n ss) {cd : ClassFile.ACond} {x y : Value} {o : Int} {pc' : Nat} (hd : decode bytes pc = .ok (.if_acmp cd o, 3)) (hx' : x.isRef = true) (hy' : y.isRef = true) (hc : XT.acmp cd x y = true) (hp : (pc : Int) + o = (pc' : Int)) (q : Go p.tables e below G T (mkF m pc' ls st)) : Go p.tables e below G T (mkF m pc ls (y :: x :: st))   := by
  obtain ⟨_, _, _, X, -⟩ := W
  exact Go.by (fun t q => XT.acmpYes X.here B.1 rfl rfl (hb B.2.2.2.1 hd) rfl hx' hy' hc (by rw [hp]; exact Int.natCast_nonneg _) (by rw [hp]; exact Int.toNat_natCast _) q) q
theorem g_acmp_n (B : Bdy p Z s m meth c own bytes maxL ret nm) (W : Wk p l e R s m args below meth c Z T h k n ss) {cd : ClassFile.ACond} {x y : Value} {o : Int} (hd : decode bytes pc = .ok (.if_acmp cd o, 3)) (hx' : x.isRef = true) (hy' : y.isRef = true) (hc : XT.acmp cd x y = false) (q : Go p.tables e below G T (mkF m (pc + 3) ls st)) : Go p.tables e below G T (mkF m pc ls (y :: x :: st))   := by
  obtain ⟨_, _, _, X, -⟩ := W
  exact Go.by (fun t q => XT.acmpNo X.here B.1 rfl (hb B.2.2.2.1 hd) rfl hx' hy' hc q) q
theorem ss_mono {vm0 vm1 : Vm} (A : CHr Z EL vm0 h vm1 h') (hss : ∀ x ∈ ss, x < h.size ∧ Safe Z EL vm0 h x) : ∀ x ∈ ss, x < h'.size ∧ Safe Z EL vm1 h' x := fun x q => ⟨Nat.lt_of_lt_of_le (hss x q).1 A.2.1, A.safe (hss x q).1 (hss x q).2⟩
theorem own_ssn {vm0 : Vm} (E : Ext h h') (H : CHv Z EL vm0 h) (hlt : h.size < h'.size) (hss : ∀ x ∈ ss, x < h.size ∧ Safe Z EL vm0 h x) : ∀ x ∈ h.size :: ss, x < h'.size ∧ Safe Z EL vm0 h' x := fun x q => by
  rcases List.mem_cons.mp q with rfl | q
  · exact ⟨hlt, Safe.ext E H (Safe.new (Nat.le_refl _))⟩
  · exact ss_mono (CHr.ext E H) hss x q
theorem g_dia (P : Prop) [Decidable P] {tb : Tables} {F : JFrame} {pc' : Nat} (h1 : P → Go tb e below G T (mkF m pc' ls (.int 1 :: st)) → Go tb e below G T F) (h0 : ¬ P → Go tb e below G T (mkF m pc' ls (.int 0 :: st)) → Go tb e below G T F) (q : Go tb e below G T (mkF m pc' ls (.int (bi (decide P)) :: st))) : Go tb e below G T F := by
  by_cases hp : P
  · rw [decide_eq_true hp] at q; exact h1 hp q
  · rw [decide_eq_false hp] at q; exact h0 hp q
theorem g_diab (b : Bool) {tb : Tables} {F : JFrame} {pc' : Nat} (h1 : b = true → Go tb e below G T (mkF m pc' ls (.int 1 :: st)) → Go tb e below G T F) (h0 : b = false → Go tb e below G T (mkF m pc' ls (.int 0 :: st)) → Go tb e below G T F) (q : Go tb e below G T (mkF m pc' ls (.int (bi b) :: st))) : Go tb e below G T F := by
  cases b
  · exact h0 rfl q
  · exact h1 rfl q
theorem g_ldcI (B : Bdy p Z s m meth c own bytes maxL ret nm) (W : Wk p l e R s m args below meth c Z T h k n ss) {i : Nat} {v : Int32} (hd : decode bytes pc = .ok (.ldc i, 2)) (w : (Cond.constant own i v).before a0 Z = true) (q : Go p.tables e below G T (mkF m (pc + 2) ls (.int v :: st))) : Go p.tables e below G T (mkF m pc ls st) := by
  obtain ⟨_, _, _, X, _, _, _, S, -⟩ := W
  have B := B.at S
  exact Go.by (fun t q => X.ldcI B.1 B.2.2.1 (mv B.2.1 w) rfl (hb B.2.2.2.1 hd) q) q
theorem g_ldcL (B : Bdy p Z s m meth c own bytes maxL ret nm) (W : Wk p l e R s m args below meth c Z T h k n ss) {i : Nat} {v : Int64} (hd : decode bytes pc = .ok (.ldc2_w i, 3)) (w : (Cond.constantLong own i v).before a0 Z = true) (q : Go p.tables e below G T (mkF m (pc + 3) ls (.long v :: st))) : Go p.tables e below G T (mkF m pc ls st) := by
  obtain ⟨_, _, _, X, _, _, _, S, -⟩ := W
  have B := B.at S
  exact Go.by (fun t q => X.ldc2J B.1 B.2.2.1 (mv B.2.1 w) rfl (hb B.2.2.2.1 hd) q) q
/-! ### the heap's steps -/
theorem x_new (B : Bdy p Z s m meth c own bytes maxL ret nm) (W : Wk p l e R s m args below meth c Z T h k n ss) {C : String} {i sz : Nat} (hd : decode bytes pc = .ok (.new i, 3)) (w : (Cond.classLink own i C).before a0 Z = true) (wi : (Cond.instantiable C sz).before a0 Z = true) (wz : (Cond.initialized C).before a0 Z = true) (hc : k + 1 ≤ R.cells) (hl : n + sz ≤ R.slots) (ls : Array Slot) (st : List Value) :
    ∃ T' h' b, b = h.size ∧ Wk p l e R s m args below meth c Z T' h' (k + 1) (n + sz) (b :: ss) ∧ Keep h h' [] ∧ Exa Z h' b C ∧ (∀ {O nf d : String} {ty : FieldType}, Laid Z a0 C O nf d → parseFieldDescriptor d = some ty → Fld Z h' b O nf d (defaultValue ty)) ∧
      (∀ G, Go p.tables e below G T' (mkF m (pc + 3) ls (.ref b :: st)) → Go p.tables e below G T (mkF m pc ls st)) := by
  obtain ⟨locs, vm0, k0, X, eT, N, O, S, hk, H, hss⟩ := W
  have B := B.at S
  obtain ⟨T', h', X', e', E', A', D', -, st'⟩ := newO X B.1 B.2.1 B.2.2.1 w wi wz eT (g := mkF m pc ls st) rfl (hb B.2.2.2.1 hd) hc hl
  exact ⟨T', h', _, rfl, ⟨locs, vm0, k0, X', e', N, O.ext E', S, Nat.le_trans hk E'.1, H.trans (CHr.ext E' H.1), own_ssn E' H.1 (by first | exact A'.lt | exact (Arv.new A' hn).lt) hss⟩, (Keep.refl h []).ext E', A', D', fun G q => Go.by st' q⟩
theorem x_init (B : Bdy p Z s m meth c own bytes maxL ret nm) (W : Wk p l e R s m args below meth c Z T h k n ss) {i : Nat} (hd : decode bytes pc = .ok (.invokespecial i, 3)) (w1 : (Cond.methodLink own i Lib.objectInit).before a0 Z = true) (w2 : (Cond.instanceMethod Lib.objectInit).before a0 Z = true)
    (w3 : (Cond.code Lib.objectInit ⟨#[0xb1]⟩ 1 none).before a0 Z = true) (b : Addr) (ls : Array Slot) (st : List Value) (hsz : ls.size = maxL) (V : Nat) (hV : (st.map fun v => v.category).sum = V) (hf : 1 ≤ R.frames) (hl : V + 12 ≤ R.locals) :
    ∃ T', Wk p l e R s m args below meth c Z T' h k n ss ∧ (∀ G, Go p.tables e below G T' (mkF m (pc + 3) ls st) → Go p.tables e below G T (mkF m pc ls (.ref b :: st))) := by
  obtain ⟨locs, vm0, k0, X, eT, N, O, S, hk, H, hss⟩ := W
  have B := B.at S
  obtain ⟨T', X', e', st'⟩ := initO X B.1 B.2.1 B.2.2.1 w1 w2 w3 eT (g := mkF m pc ls (.ref b :: st)) rfl (hsz.trans B.2.2.2.2.1.symm) rfl (hb B.2.2.2.1 hd) hf (W := V) (by show 2 * 0 + _ ≤ _; omega) hl
  exact ⟨T', ⟨locs, vm0, k0, X', e', N, O, S, hk, H, hss⟩, fun G q => Go.by st' q⟩
theorem x_get (B : Bdy p Z s m meth c own bytes maxL ret nm) (W : Wk p l e R s m args below meth c Z T h k n ss) {R0 O nf d host : String} {i : Nat} {b : Addr} {v : Value} (hd : decode bytes pc = .ok (.getfield i, 3)) (w : (Cond.fieldLink own i R0 nf d).before a0 Z = true ∨ (Cond.fieldLinkNest own i R0 nf d host).before a0 Z = true) (via : Via Z R0 O nf d) (F : Fld Z h b O nf d v) (ls : Array Slot) (st : List Value) :
    ∃ T', Wk p l e R s m args below meth c Z T' h k n ss ∧ (∀ G, Go p.tables e below G T' (mkF m (pc + 3) ls (v :: st)) → Go p.tables e below G T (mkF m pc ls (.ref b :: st))) := by
  obtain ⟨locs, vm0, k0, X, eT, N, O', S, hk, H, hss⟩ := W
  have B := B.at S
  obtain ⟨T', X', e', st'⟩ := getF X B.1 B.2.1 B.2.2.1 w via eT F (g := mkF m pc ls (.ref b :: st)) rfl rfl (hb B.2.2.2.1 hd)
  exact ⟨T', ⟨locs, vm0, k0, X', e', N, O', S, hk, H, hss⟩, fun G q => Go.by st' q⟩
theorem x_gets (B : Bdy p Z s m meth c own bytes maxL ret nm) (W : Wk p l e R s m args below meth c Z T h k n ss) {R0 O nf d host : String} {i : Nat} {v : Value} (hd : decode bytes pc = .ok (.getstatic i, 3)) (w : (Cond.fieldLink own i R0 nf d).before a0 Z = true ∨ (Cond.fieldLinkNest own i R0 nf d host).before a0 Z = true) (via : Via Z R0 O nf d) (F : Sta Z Z.heap O nf d v) (ls : Array Slot) (st : List Value) :
    ∃ T', Wk p l e R s m args below meth c Z T' h k n ss ∧ (∀ G, Go p.tables e below G T' (mkF m (pc + 3) ls (v :: st)) → Go p.tables e below G T (mkF m pc ls st)) := by
  obtain ⟨locs, vm0, k0, X, eT, N, O', S, hk, H, hss⟩ := W
  have B := B.at S
  obtain ⟨T', X', e', st'⟩ := getS2 X B.1 B.2.1 B.2.2.1 w via eT (F.ext O'.2) (g := mkF m pc ls st) rfl (hb B.2.2.2.1 hd)
  exact ⟨T', ⟨locs, vm0, k0, X', e', N, O', S, hk, H, hss⟩, fun G q => Go.by st' q⟩
theorem x_put (B : Bdy p Z s m meth c own bytes maxL ret nm) (W : Wk p l e R s m args below meth c Z T h k n ss) {R0 O nf d C : String} {i kk : Nat} {ty : FieldType} {b : Addr} {v v' old : Value} (hd : decode bytes pc = .ok (.putfield i, 3)) (w : (Cond.fieldLink own i R0 nf d).before a0 Z = true) (via : Via Z R0 O nf d) (F : Fld Z h b O nf d old) (E : Exa Z h b C) (L : (Cond.lays C O nf d).before a0 Z = true ∨ ((Cond.laysFinal C O nf d).before a0 Z = true ∧ own = O ∧ nm = "<init>")) (wi : (Cond.instantiable C kk).before a0 Z = true)
    (hty : parseFieldDescriptor d = some ty) (hn : narrow ty v = v') (hf : fits ty v' = true) (hb' : Z.heap.size ≤ b) (hsf : (C ≠ "java/lang/String" ∧ C ≠ "[B") ∨ b ∈ ss) (ls : Array Slot) (st : List Value) :
    ∃ T' h', Wk p l e R s m args below meth c Z T' h' k n ss ∧ Keep h h' [b] ∧ Wr h h' b (RoadKit.slotOf Z O nf d) v' ∧ Fld Z h' b O nf d v' ∧ Exa Z h' b C ∧ (∀ G, Go p.tables e below G T' (mkF m (pc + 3) ls st) → Go p.tables e below G T (mkF m pc ls (v :: .ref b :: st))) := by
  obtain ⟨locs, vm0, k0, X, eT, N, O', S, hk, H, hss⟩ := W
  have B := B.at S
  obtain ⟨T', h', X', e', W', st'⟩ := putFN X B.1 B.2.1 B.2.2.1 w via eT F E (L.imp id fun q => ⟨q.1, q.2.1, B.nameOf.trans q.2.2⟩) wi hty hn hf (g := mkF m pc ls (v :: .ref b :: st)) rfl rfl (hb B.2.2.2.1 hd)
  exact ⟨T', h', ⟨_, vm0, k0, X', e', Fr.snoc X' N hb', O'.wr W' hb', S, by rw [W'.size]; exact hk, H.trans (CHr.wr W' (hsf.elim (fun q => Safe.exa B.2.1.alike E q.1 q.2) fun q => (hss _ q).2) H.1), ss_mono (CHr.wr W' (hsf.elim (fun q => Safe.exa B.2.1.alike E q.1 q.2) fun q => (hss _ q).2) H.1) hss⟩, Keep.of_wr W', W', F.same W', E.wr W', fun G q => Go.by st' q⟩
theorem x_instY (B : Bdy p Z s m meth c own bytes maxL ret nm) (W : Wk p l e R s m args below meth c Z T h k n ss) {K : String} {i : Nat} {b : Addr} (hd : decode bytes pc = .ok (.instanceof i, 3)) (w : (Cond.classLink own i K).before a0 Z = true) (F : Ins Z h b K true) (ls : Array Slot) (st : List Value) :
    ∃ T', Wk p l e R s m args below meth c Z T' h k n ss ∧ (∀ G, Go p.tables e below G T' (mkF m (pc + 3) ls (.int 1 :: st)) → Go p.tables e below G T (mkF m pc ls (.ref b :: st))) := by
  obtain ⟨locs, vm0, k0, X, eT, N, O, S, hk, H, hss⟩ := W
  have B := B.at S
  obtain ⟨T', X', e', st'⟩ := instY X B.1 B.2.1 B.2.2.1 w eT F (g := mkF m pc ls (.ref b :: st)) rfl rfl (hb B.2.2.2.1 hd)
  exact ⟨T', ⟨locs, vm0, k0, X', e', N, O, S, hk, H, hss⟩, fun G q => Go.by st' q⟩
theorem x_instN (B : Bdy p Z s m meth c own bytes maxL ret nm) (W : Wk p l e R s m args below meth c Z T h k n ss) {K C : String} {i : Nat} {b : Addr} (hd : decode bytes pc = .ok (.instanceof i, 3)) (w : (Cond.classLink own i K).before a0 Z = true) (E : Exa Z h b C) (F : ∃ c t, Z.vm.findClass C = some c ∧ Z.vm.findClass K = some t ∧ Z.vm.assignable c t = false) (ls : Array Slot) (st : List Value) :
    ∃ T', Wk p l e R s m args below meth c Z T' h k n ss ∧ (∀ G, Go p.tables e below G T' (mkF m (pc + 3) ls (.int 0 :: st)) → Go p.tables e below G T (mkF m pc ls (.ref b :: st))) := by
  obtain ⟨locs, vm0, k0, X, eT, N, O, S, hk, H, hss⟩ := W
  have B := B.at S
  obtain ⟨T', X', e', st'⟩ := instNo X B.1 B.2.1 B.2.2.1 w eT E F (g := mkF m pc ls (.ref b :: st)) rfl rfl (hb B.2.2.2.1 hd)
  exact ⟨T', ⟨locs, vm0, k0, X', e', N, O, S, hk, H, hss⟩, fun G q => Go.by st' q⟩
theorem x_castY (B : Bdy p Z s m meth c own bytes maxL ret nm) (W : Wk p l e R s m args below meth c Z T h k n ss) {K : String} {i : Nat} {b : Addr} (hd : decode bytes pc = .ok (.checkcast i, 3)) (w : (Cond.classLink own i K).before a0 Z = true) (F : Ins Z h b K true) (ls : Array Slot) (st : List Value) :
    ∃ T', Wk p l e R s m args below meth c Z T' h k n ss ∧ (∀ G, Go p.tables e below G T' (mkF m (pc + 3) ls (.ref b :: st)) → Go p.tables e below G T (mkF m pc ls (.ref b :: st))) := by
  obtain ⟨locs, vm0, k0, X, eT, N, O, S, hk, H, hss⟩ := W
  have B := B.at S
  obtain ⟨T', X', e', st'⟩ := castY X B.1 B.2.1 B.2.2.1 w eT F (g := mkF m pc ls (.ref b :: st)) rfl rfl (hb B.2.2.2.1 hd)
  exact ⟨T', ⟨locs, vm0, k0, X', e', N, O, S, hk, H, hss⟩, fun G q => Go.by st' q⟩
/-! ### arrays -/
theorem x_newA (B : Bdy p Z s m meth c own bytes maxL ret nm) (W : Wk p l e R s m args below meth c Z T h k n ss) {aty : ArrayType} {z : Int32} (cap : Nat) (hd : decode bytes pc = .ok (.newarray aty, 2)) (w : (Cond.arrayClass (newarray.typeOf aty)).before a0 Z = true) (hn : ¬ z < 0) (hcap : z.toNatClampNeg ≤ cap) (hbg : cap * 8 ≤ 536870912) (hc : k + 1 ≤ R.cells) (hl : n + cap ≤ R.slots) (ls : Array Slot) (st : List Value) :
    ∃ T' h' b cA, b = h.size ∧ Wk p l e R s m args below meth c Z T' h' (k + 1) (n + cap) (b :: ss) ∧ Keep h h' [] ∧ Arv Z h' b cA (newarray.typeOf aty) z (List.replicate cap (defaultValue (newarray.typeOf aty))) (defaultValue (newarray.typeOf aty)) ∧
      (∀ G, Go p.tables e below G T' (mkF m (pc + 2) ls (.ref b :: st)) → Go p.tables e below G T (mkF m pc ls (.int z :: st))) := by
  obtain ⟨locs, vm0, k0, X, eT, N, O, S, hk, H, hss⟩ := W
  have B := B.at S
  obtain ⟨T', h', cA, X', e', E', A', st'⟩ := newP X B.1 B.2.1 w eT (g := mkF m pc ls (.int z :: st)) rfl (hb B.2.2.2.1 hd) rfl hn hcap hbg hc hl
  exact ⟨T', h', _, cA, rfl, ⟨locs, vm0, k0, X', e', N, O.ext E', S, Nat.le_trans hk E'.1, H.trans (CHr.ext E' H.1), own_ssn E' H.1 (by first | exact A'.lt | exact (Arv.new A' hn).lt) hss⟩, (Keep.refl h []).ext E', (Arv.new A' hn).pad (vs' := [] ++ List.replicate cap _) (pad_rep [] _ cap), fun G q => Go.by st' q⟩
theorem arv_put {kc : ClassId} {ty : FieldType} {z j : Int32} {vs : List Value} {dv v : Value} {b : Addr} (F : Arv Z h b kc ty z vs dv) (hv : fits ty v = true) (hW : Wr h h' b j.toNatClampNeg v) (hi : j.toNatClampNeg < vs.length) : Arv Z h' b kc ty z (vs.set j.toNatClampNeg v) dv := by
  obtain ⟨cl, A, r1, r2, r3, H, Gf⟩ := F
  exact Arv.set A r1 r2 r3 H Gf hv hW _ rfl hi
theorem x_castore (B : Bdy p Z s m meth c own bytes maxL ret nm) (W : Wk p l e R s m args below meth c Z T h k n ss) {kc : ClassId} {z j x : Int32} {vs : List Value} {dv : Value} {b : Addr} (hd : decode bytes pc = .ok (.castore, 1)) (F : Arv Z h b kc .char z vs dv) (hj : ¬ j < 0 ∧ j < z) (hi : j.toNatClampNeg < vs.length) (hb' : Z.heap.size ≤ b) (ls : Array Slot) (st : List Value) :
    ∃ T' h', Wk p l e R s m args below meth c Z T' h' k n ss ∧ Keep h h' [b] ∧ Arv Z h' b kc .char z (vs.set j.toNatClampNeg (.int (nar .char x))) dv ∧ (∀ G, Go p.tables e below G T' (mkF m (pc + 1) ls st) → Go p.tables e below G T (mkF m pc ls (.int x :: .int j :: .ref b :: st))) := by
  obtain ⟨locs, vm0, k0, X, eT, N, O, S, hk, H, hss⟩ := W
  have B := B.at S
  have F' := F
  obtain ⟨cl, A, r1, r2, r3, Hs, Gf⟩ := F
  obtain ⟨T', h', X', e', W', st'⟩ := stC X B.1 B.2.1 eT A (inb_of r2 hj) (g := mkF m pc ls (.int x :: .int j :: .ref b :: st)) rfl rfl (hb B.2.2.2.1 hd)
  exact ⟨T', h', ⟨_, vm0, k0, X', e', Fr.snoc X' N hb', O.wr W' hb', S, by rw [W'.size]; exact hk, H.trans (CHr.wr W' (Safe.arv B.2.1.alike F' (by decide)) H.1), ss_mono (CHr.wr W' (Safe.arv B.2.1.alike F' (by decide)) H.1) hss⟩, Keep.of_wr W', arv_put F' (fits_nar_char _) W' hi, fun G q => Go.by st' q⟩
theorem arv_read {kc : ClassId} {ty : FieldType} {z : Int32} {vs : List Value} {dv : Value} {b : Addr} (F : Arv Z h b kc ty z vs dv) {j : Int32} (hj : ¬ j < 0 ∧ j < z) {v : Value} (hv : vs.getD j.toNatClampNeg dv = v) : ∃ cl : Cell, Arr Z h b cl ty ∧ ¬ (j < 0 ∨ cl.slots.size ≤ j.toNatClampNeg) ∧ cl.slots[j.toNatClampNeg]? = some v := by
  obtain ⟨cl, A, r1, r2, r3, H, -⟩ := F
  exact ⟨cl, A, inb_of r2 hj, H.at (inb_of r2 hj) hv⟩
theorem g_caload (B : Bdy p Z s m meth c own bytes maxL ret nm) (W : Wk p l e R s m args below meth c Z T h k n ss) {kc : ClassId} {z j : Int32} {vs : List Value} {dv v : Value} {b : Addr} (hd : decode bytes pc = .ok (.caload, 1)) (F : Arv Z h b kc .char z vs dv) (hj : ¬ j < 0 ∧ j < z) (hv : vs.getD j.toNatClampNeg dv = v)
    (q : Go p.tables e below G T (mkF m (pc + 1) ls (v :: st))) : Go p.tables e below G T (mkF m pc ls (.int j :: .ref b :: st)) := by
  obtain ⟨locs, vm0, k0, X, eT, N, O, S, hk, H, hss⟩ := W
  have B := B.at S
  obtain ⟨cl, A, hin, hat⟩ := arv_read F hj hv
  exact Go.by (X.caload B.1 (by rw [eT]; exact A.1) (State.isArrayOf_alike B.2.1.alike A.2.1) A.2.2 hin hat (g := mkF m pc ls (.int j :: .ref b :: st)) rfl rfl (hb B.2.2.2.1 hd)) q
theorem g_caloadK (B : Bdy p Z s m meth c own bytes maxL ret nm) (W : Wk p l e R s m args below meth c Z T h k n ss) {j : Int32} {v : Value} {cl : Cell} {b : Addr} (hd : decode bytes pc = .ok (.caload, 1)) (A : Arr Z h b cl .char) (hin : ¬ (j < 0 ∨ cl.slots.size ≤ j.toNatClampNeg)) (hat : cl.slots[j.toNatClampNeg]? = some v)
    (q : Go p.tables e below G T (mkF m (pc + 1) ls (v :: st))) : Go p.tables e below G T (mkF m pc ls (.int j :: .ref b :: st)) := by
  obtain ⟨locs, vm0, k0, X, eT, N, O, S, hk, H, hss⟩ := W
  have B := B.at S
  exact Go.by (X.caload B.1 (by rw [eT]; exact A.1) (State.isArrayOf_alike B.2.1.alike A.2.1) A.2.2 hin hat (g := mkF m pc ls (.int j :: .ref b :: st)) rfl rfl (hb B.2.2.2.1 hd)) q
theorem g_alenK (B : Bdy p Z s m meth c own bytes maxL ret nm) (W : Wk p l e R s m args below meth c Z T h k n ss) {ty : FieldType} {z : Int32} {cl : Cell} {b : Addr} (hd : decode bytes pc = .ok (.arraylength, 1)) (A : Arr Z h b cl ty) (hz : cl.slots.size.toInt32 = z)
    (q : Go p.tables e below G T (mkF m (pc + 1) ls (.int z :: st))) : Go p.tables e below G T (mkF m pc ls (.ref b :: st)) := by
  obtain ⟨locs, vm0, k0, X, eT, N, O, S, hk, H, hss⟩ := W
  have B := B.at S
  refine Go.by (X.arraylength B.1 (by rw [eT]; exact A.1) (State.isArrayOf_alike B.2.1.alike A.2.1) (g := mkF m pc ls (.ref b :: st)) rfl rfl (hb B.2.2.2.1 hd)) ?_
  rw [hz]; exact q
theorem g_aalen (B : Bdy p Z s m meth c own bytes maxL ret nm) (W : Wk p l e R s m args below meth c Z T h k n ss) {kc : ClassId} {ty : FieldType} {z : Int32} {vs : List Value} {dv : Value} {b : Addr} (hd : decode bytes pc = .ok (.arraylength, 1)) (F : Arv Z h b kc ty z vs dv)
    (q : Go p.tables e below G T (mkF m (pc + 1) ls (.int z :: st))) : Go p.tables e below G T (mkF m pc ls (.ref b :: st)) := by
  obtain ⟨locs, vm0, k0, X, eT, N, O, S, hk, H, hss⟩ := W
  have B := B.at S
  obtain ⟨cl, A, r1, r2, r3, H, -⟩ := F
  refine Go.by (X.arraylength B.1 (by rw [eT]; exact A.1) (State.isArrayOf_alike B.2.1.alike A.2.1) (g := mkF m pc ls (.ref b :: st)) rfl rfl (hb B.2.2.2.1 hd)) ?_
  rw [len_of r2 r3]; exact q
theorem g_aaload (B : Bdy p Z s m meth c own bytes maxL ret nm) (W : Wk p l e R s m args below meth c Z T h k n ss) {ty : FieldType} {j : Int32} {v : Value} {cl : Cell} {b : Addr} (hd : decode bytes pc = .ok (.aaload, 1)) (A : Arr Z h b cl ty) (ht : ty.isReference = true) (hin : ¬ (j < 0 ∨ cl.slots.size ≤ j.toNatClampNeg)) (hat : cl.slots[j.toNatClampNeg]? = some v)
    (q : Go p.tables e below G T (mkF m (pc + 1) ls (v :: st))) : Go p.tables e below G T (mkF m pc ls (.int j :: .ref b :: st)) := by
  obtain ⟨locs, vm0, k0, X, eT, N, O, S, hk, H, hss⟩ := W
  have B := B.at S
  exact Go.by (X.aaload B.1 (by rw [eT]; exact A.1) (State.isArrayOf_alike B.2.1.alike A.2.1) ht A.2.2 hin hat (g := mkF m pc ls (.int j :: .ref b :: st)) rfl rfl (hb B.2.2.2.1 hd)) q
theorem g_instNull (B : Bdy p Z s m meth c own bytes maxL ret nm) (W : Wk p l e R s m args below meth c Z T h k n ss) {i : Nat} (hd : decode bytes pc = .ok (.instanceof i, 3)) (q : Go p.tables e below G T (mkF m (pc + 3) ls (.int 0 :: st))) : Go p.tables e below G T (mkF m pc ls (.null :: st)) := by
  obtain ⟨_, _, _, X, _, _, _, S, -⟩ := W
  have B := B.at S
  exact Go.by (X.instanceofNull B.1 (g := mkF m pc ls (.null :: st)) rfl rfl (hb B.2.2.2.1 hd)) q
theorem g_castNull (B : Bdy p Z s m meth c own bytes maxL ret nm) (W : Wk p l e R s m args below meth c Z T h k n ss) {i : Nat} (hd : decode bytes pc = .ok (.checkcast i, 3)) (q : Go p.tables e below G T (mkF m (pc + 3) ls (.null :: st))) : Go p.tables e below G T (mkF m pc ls (.null :: st)) := by
  obtain ⟨_, _, _, X, _, _, _, S, -⟩ := W
  have B := B.at S
  refine Go.by (fun t q => ?_) q
  jvm_step X.here [B.1, (hb B.2.2.2.1 hd), checkcast.sem]
  exact q
theorem x_newR (B : Bdy p Z s m meth c own bytes maxL ret nm) (W : Wk p l e R s m args below meth c Z T h k n ss) {C : String} {i : Nat} {z : Int32} (cap : Nat) (hd : decode bytes pc = .ok (.anewarray i, 3)) (w1 : (Cond.classLink own i C).before a0 Z = true) (w2 : (Cond.arrayOver (.object C)).before a0 Z = true) (hn : ¬ z < 0) (hcap : z.toNatClampNeg ≤ cap) (hbg : cap * 8 ≤ 536870912) (hc : k + 1 ≤ R.cells) (hl : n + cap ≤ R.slots) (ls : Array Slot) (st : List Value) :
    ∃ T' h' b cA, b = h.size ∧ Wk p l e R s m args below meth c Z T' h' (k + 1) (n + cap) (b :: ss) ∧ Keep h h' [] ∧ Arv Z h' b cA (.object C) z (List.replicate cap .null) .null ∧ Ovr Z cA C ∧
      (∀ G, Go p.tables e below G T' (mkF m (pc + 3) ls (.ref b :: st)) → Go p.tables e below G T (mkF m pc ls (.int z :: st))) := by
  obtain ⟨locs, vm0, k0, X, eT, N, O, S, hk, H, hss⟩ := W
  have B := B.at S
  obtain ⟨T', h', cA, X', e', E', A', Ov', st'⟩ := newR X B.1 B.2.1 B.2.2.1 w1 w2 eT (g := mkF m pc ls (.int z :: st)) rfl (hb B.2.2.2.1 hd) rfl hn hcap hbg hc hl
  exact ⟨T', h', _, cA, rfl, ⟨locs, vm0, k0, X', e', N, O.ext E', S, Nat.le_trans hk E'.1, H.trans (CHr.ext E' H.1), own_ssn E' H.1 (by first | exact A'.lt | exact (Arv.new A' hn).lt) hss⟩, (Keep.refl h []).ext E', (Arv.new A' hn).pad (vs' := [] ++ List.replicate cap _) (pad_rep [] _ cap), Ov', fun G q => Go.by st' q⟩
theorem x_aastore (B : Bdy p Z s m meth c own bytes maxL ret nm) (W : Wk p l e R s m args below meth c Z T h k n ss) {kc : ClassId} {ty : FieldType} {z j : Int32} {vs : List Value} {dv v : Value} {b : Addr} (hd : decode bytes pc = .ok (.aastore, 1)) (F : Arv Z h b kc ty z vs dv) (ht : ty.isReference = true) (hj : ¬ j < 0 ∧ j < z) (hi : j.toNatClampNeg < vs.length) (hv : v.isRef = true) (hS : ∀ cl, Arr Z h b cl ty → cl.cls = kc → Sto Z h b v) (hb' : Z.heap.size ≤ b) (ls : Array Slot) (st : List Value) :
    ∃ T' h', Wk p l e R s m args below meth c Z T' h' k n ss ∧ Keep h h' [b] ∧ Arv Z h' b kc ty z (vs.set j.toNatClampNeg v) dv ∧ (∀ G, Go p.tables e below G T' (mkF m (pc + 1) ls st) → Go p.tables e below G T (mkF m pc ls (v :: .int j :: .ref b :: st))) := by
  obtain ⟨locs, vm0, k0, X, eT, N, O, S, hk, H, hss⟩ := W
  have B := B.at S
  have F' := F
  have hby : ty ≠ .byte := fun q => by rw [q] at ht; cases ht
  obtain ⟨cl, A, r1, r2, r3, Hs, Gf⟩ := F
  obtain ⟨T', h', X', e', W', st'⟩ := stR X B.1 B.2.1 eT A (inb_of r2 hj) ht (hS cl A r1) (g := mkF m pc ls (v :: .int j :: .ref b :: st)) rfl rfl (hb B.2.2.2.1 hd)
  exact ⟨T', h', ⟨_, vm0, k0, X', e', Fr.snoc X' N hb', O.wr W' hb', S, by rw [W'.size]; exact hk, H.trans (CHr.wr W' (Safe.arv B.2.1.alike F' hby) H.1), ss_mono (CHr.wr W' (Safe.arv B.2.1.alike F' hby) H.1) hss⟩, Keep.of_wr W', arv_put F' (own_fr ht hv) W' hi, fun G q => Go.by st' q⟩
theorem g_aaloadV (B : Bdy p Z s m meth c own bytes maxL ret nm) (W : Wk p l e R s m args below meth c Z T h k n ss) {kc : ClassId} {ty : FieldType} {z j : Int32} {vs : List Value} {dv v : Value} {b : Addr} (hd : decode bytes pc = .ok (.aaload, 1)) (F : Arv Z h b kc ty z vs dv) (ht : ty.isReference = true) (hj : ¬ j < 0 ∧ j < z) (hv : vs.getD j.toNatClampNeg dv = v)
    (q : Go p.tables e below G T (mkF m (pc + 1) ls (v :: st))) : Go p.tables e below G T (mkF m pc ls (.int j :: .ref b :: st)) := by
  obtain ⟨cl, A, hin, hat⟩ := arv_read F hj hv
  exact g_aaload B W hd A ht hin hat q
theorem x_clone (B : Bdy p Z s m meth c own bytes maxL ret nm) (W : Wk p l e R s m args below meth c Z T h k n ss) {ad : String} {i : Nat} {b : Addr} {cl : Cell} {ty : FieldType} (cap : Nat) (hd : decode bytes pc = .ok (.invokevirtual i, 3)) (w1 : (Cond.methodLink own i ⟨ad, "clone", "()Ljava/lang/Object;"⟩).before a0 Z = true) (w2 : (Cond.sameMethod ad "java/lang/Object" "clone" "()Ljava/lang/Object;").before a0 Z = true) (w3 : (Cond.native ⟨"java/lang/Object", "clone", "()Ljava/lang/Object;"⟩).before a0 Z = true)
    (w4 : (Cond.instanceMethod ⟨"java/lang/Object", "clone", "()Ljava/lang/Object;"⟩).before a0 Z = true) (w5 : (Cond.selects ad ⟨ad, "clone", "()Ljava/lang/Object;"⟩ ⟨"java/lang/Object", "clone", "()Ljava/lang/Object;"⟩).before a0 Z = true) (w6 : (Cond.castable ad "java/lang/Cloneable").before a0 Z = true) (A : Arr Z h b cl ty) (E : Exa Z h b ad) (F : FitC Z cl)
    (ls : Array Slot) (st : List Value) (hsz : ls.size = maxL) (V : Nat) (hV : (st.map fun v => v.category).sum = V) (hf : 1 ≤ R.frames) (hl : V + 14 ≤ R.locals) (hcap : cl.slots.size ≤ cap) (hc : k + 1 ≤ R.cells) (hs : n + cap ≤ R.slots) :
    ∃ T' h' b', b' = h.size ∧ Wk p l e R s m args below meth c Z T' h' (k + 1) (n + cap) (b' :: ss) ∧ Keep h h' [] ∧ Arr Z h' b' (cloneOf cl) ty ∧ Exa Z h' b' ad ∧ (∀ G, Go p.tables e below G T' (mkF m (pc + 3) ls (.ref b' :: st)) → Go p.tables e below G T (mkF m pc ls (.ref b :: st))) := by
  obtain ⟨locs, vm0, k0, X, eT, N, O, S, hk, H, hss⟩ := W
  have B := B.at S
  obtain ⟨T', h', X', e', E', A', Ex', st'⟩ := cloneA X B.1 B.2.1 B.2.2.1 w1 w2 w3 w4 w5 w6 eT A E F (g := mkF m pc ls (.ref b :: st)) rfl (hsz.trans B.2.2.2.2.1.symm) rfl (hb B.2.2.2.1 hd) hf (W := V) (by show 2 * 0 + _ ≤ _; omega) hl hcap hc hs
  exact ⟨T', h', _, rfl, ⟨locs, vm0, k0, X', e', N, O.ext E', S, Nat.le_trans hk E'.1, H.trans (CHr.ext E' H.1), own_ssn E' H.1 (by first | exact A'.lt | exact (Arv.new A' hn).lt) hss⟩, (Keep.refl h []).ext E', A', Ex', fun G q => Go.by st' q⟩
theorem x_cloneV (B : Bdy p Z s m meth c own bytes maxL ret nm) (W : Wk p l e R s m args below meth c Z T h k n ss) {ad : String} {i : Nat} {b : Addr} {kc : ClassId} {ty : FieldType} {z : Int32} {vs : List Value} {dv : Value} (cap : Nat) (hd : decode bytes pc = .ok (.invokevirtual i, 3)) (w1 : (Cond.methodLink own i ⟨ad, "clone", "()Ljava/lang/Object;"⟩).before a0 Z = true) (w2 : (Cond.sameMethod ad "java/lang/Object" "clone" "()Ljava/lang/Object;").before a0 Z = true) (w3 : (Cond.native ⟨"java/lang/Object", "clone", "()Ljava/lang/Object;"⟩).before a0 Z = true)
    (w4 : (Cond.instanceMethod ⟨"java/lang/Object", "clone", "()Ljava/lang/Object;"⟩).before a0 Z = true) (w5 : (Cond.selects ad ⟨ad, "clone", "()Ljava/lang/Object;"⟩ ⟨"java/lang/Object", "clone", "()Ljava/lang/Object;"⟩).before a0 Z = true) (w6 : (Cond.castable ad "java/lang/Cloneable").before a0 Z = true) (F : Arv Z h b kc ty z vs dv) (E : Exa Z h b ad)
    (ls : Array Slot) (st : List Value) (hsz : ls.size = maxL) (V : Nat) (hV : (st.map fun v => v.category).sum = V) (hf : 1 ≤ R.frames) (hl : V + 14 ≤ R.locals) (hcap : z.toNatClampNeg ≤ cap) (hc : k + 1 ≤ R.cells) (hs : n + cap ≤ R.slots) :
    ∃ T' h' b', b' = h.size ∧ Wk p l e R s m args below meth c Z T' h' (k + 1) (n + cap) (b' :: ss) ∧ Keep h h' [] ∧ Arv Z h' b' kc ty z vs dv ∧ Exa Z h' b' ad ∧ (∀ G, Go p.tables e below G T' (mkF m (pc + 3) ls (.ref b' :: st)) → Go p.tables e below G T (mkF m pc ls (.ref b :: st))) := by
  obtain ⟨cl, A, r1, r2, r3, H, G⟩ := F
  obtain ⟨T', h', b', eb, W', K, A', E', st'⟩ := x_clone B W cap hd w1 w2 w3 w4 w5 w6 A E (fitC_of A (fun i hi v hv => by have q := H i hi; rw [hv] at q; cases q; exact G i hi)) ls st hsz V hV hf hl (r2 ▸ hcap) hc hs
  exact ⟨T', h', b', eb, W', K, ⟨_, A', r1, r2, r3, H, G⟩, E', st'⟩
theorem x_newE (B : Bdy p Z s m meth c own bytes maxL ret nm) (W : Wk p l e R s m args below meth c Z T h k n ss) {aty : ArrayType} {z : Int32} {ad : String} (cap : Nat) (hd : decode bytes pc = .ok (.newarray aty, 2)) (w : (Cond.arrayClass (newarray.typeOf aty)).before a0 Z = true) (hn : ¬ z < 0) (hcap : z.toNatClampNeg ≤ cap) (hbg : cap * 8 ≤ 536870912) (hc : k + 1 ≤ R.cells) (hl : n + cap ≤ R.slots) (had : "[" ++ (newarray.typeOf aty).toString = ad) (ls : Array Slot) (st : List Value) :
    ∃ T' h' b cA, b = h.size ∧ Wk p l e R s m args below meth c Z T' h' (k + 1) (n + cap) (b :: ss) ∧ Keep h h' [] ∧ Arv Z h' b cA (newarray.typeOf aty) z (List.replicate cap (defaultValue (newarray.typeOf aty))) (defaultValue (newarray.typeOf aty)) ∧ Exa Z h' b ad ∧
      (∀ G, Go p.tables e below G T' (mkF m (pc + 2) ls (.ref b :: st)) → Go p.tables e below G T (mkF m pc ls (.int z :: st))) := by
  obtain ⟨locs, vm0, k0, X, eT, N, O, S, hk, H, hss⟩ := W
  have B := B.at S
  obtain ⟨T', h', cA, X', e', E', A', Ex', st'⟩ := newPE X B.1 B.2.1 w eT (g := mkF m pc ls (.int z :: st)) rfl (hb B.2.2.2.1 hd) rfl hn hcap hbg hc hl had
  exact ⟨T', h', _, cA, rfl, ⟨locs, vm0, k0, X', e', N, O.ext E', S, Nat.le_trans hk E'.1, H.trans (CHr.ext E' H.1), own_ssn E' H.1 (by first | exact A'.lt | exact (Arv.new A' hn).lt) hss⟩, (Keep.refl h []).ext E', (Arv.new A' hn).pad (vs' := [] ++ List.replicate cap _) (pad_rep [] _ cap), Ex', fun G q => Go.by st' q⟩
theorem x_bastore (B : Bdy p Z s m meth c own bytes maxL ret nm) (W : Wk p l e R s m args below meth c Z T h k n ss) {kc : ClassId} {z j x : Int32} {vs : List Value} {dv : Value} {b : Addr} (hd : decode bytes pc = .ok (.bastore, 1)) (F : Arv Z h b kc .byte z vs dv) (hj : ¬ j < 0 ∧ j < z) (hi : j.toNatClampNeg < vs.length) (hb' : Z.heap.size ≤ b) (hsb : b ∈ ss) (ls : Array Slot) (st : List Value) :
    ∃ T' h', Wk p l e R s m args below meth c Z T' h' k n ss ∧ Keep h h' [b] ∧ Arv Z h' b kc .byte z (vs.set j.toNatClampNeg (.int (nar .byte x))) dv ∧ (∀ G, Go p.tables e below G T' (mkF m (pc + 1) ls st) → Go p.tables e below G T (mkF m pc ls (.int x :: .int j :: .ref b :: st))) := by
  obtain ⟨locs, vm0, k0, X, eT, N, O, S, hk, H, hss⟩ := W
  have B := B.at S
  have F' := F
  obtain ⟨cl, A, r1, r2, r3, Hs, Gf⟩ := F
  obtain ⟨T', h', X', e', W', st'⟩ := stB X B.1 B.2.1 eT A (inb_of r2 hj) (g := mkF m pc ls (.int x :: .int j :: .ref b :: st)) rfl rfl (hb B.2.2.2.1 hd)
  exact ⟨T', h', ⟨_, vm0, k0, X', e', Fr.snoc X' N hb', O.wr W' hb', S, by rw [W'.size]; exact hk, H.trans (CHr.wr W' (hss _ hsb).2 H.1), ss_mono (CHr.wr W' (hss _ hsb).2 H.1) hss⟩, Keep.of_wr W', arv_put F' (fits_nar_byte _) W' hi, fun G q => Go.by st' q⟩
theorem g_baload (B : Bdy p Z s m meth c own bytes maxL ret nm) (W : Wk p l e R s m args below meth c Z T h k n ss) {kc : ClassId} {z j : Int32} {vs : List Value} {dv v : Value} {b : Addr} (hd : decode bytes pc = .ok (.baload, 1)) (F : Arv Z h b kc .byte z vs dv) (hj : ¬ j < 0 ∧ j < z) (hv : vs.getD j.toNatClampNeg dv = v)
    (q : Go p.tables e below G T (mkF m (pc + 1) ls (v :: st))) : Go p.tables e below G T (mkF m pc ls (.int j :: .ref b :: st)) := by
  obtain ⟨locs, vm0, k0, X, eT, N, O, S, hk, H, hss⟩ := W
  have B := B.at S
  obtain ⟨cl, A, hin, hat⟩ := arv_read F hj hv
  exact Go.by (X.baloadBytes B.1 (by rw [eT]; exact A.1) (State.isArrayOf_alike B.2.1.alike A.2.1) A.2.2 hin hat (g := mkF m pc ls (.int j :: .ref b :: st)) rfl rfl (hb B.2.2.2.1 hd)) q
theorem x_acopy (B : Bdy p Z s m meth c own bytes maxL ret nm) (W : Wk p l e R s m args below meth c Z T h k n ss) {i : Nat} {ka kb : ClassId} {ty ty' : FieldType} {za zb sp dp nn : Int32} {va vb us : List Value} {da db : Value} {a b : Addr} (hd : decode bytes pc = .ok (.invokestatic i, 3)) (w1 : (Cond.methodLink own i Jvm.Stand.acN).before a0 Z = true) (w2 : (Cond.native Jvm.Stand.acN).before a0 Z = true) (w3 : (Cond.static Jvm.Stand.acN).before a0 Z = true) (w4 : (Cond.initialized "java/lang/System").before a0 Z = true)
    (A : Arv Z h a ka ty za va da) (A' : Arv Z h b kb ty' zb vb db) (hty : (ty = ty' ∧ refKind ty = false) ∨ (refKind ty = true ∧ refKind ty' = true ∧ StoL Z h b us)) (h1 : ¬ sp < 0) (h2 : ¬ dp < 0) (h3 : ¬ nn < 0) (h4 : sp.toNatClampNeg + nn.toNatClampNeg ≤ za.toNatClampNeg) (h5 : dp.toNatClampNeg + nn.toNatClampNeg ≤ zb.toNatClampNeg)
    (hus : us = (List.range nn.toNatClampNeg).map fun i => va.getD (sp.toNatClampNeg + i) da) (hl : dp.toNatClampNeg + nn.toNatClampNeg ≤ vb.length) (hb' : Z.heap.size ≤ b) (hsb : b ∈ ss) (ls : Array Slot) (st : List Value) (hsz : ls.size = maxL) (V : Nat) (hV : (st.map fun v => v.category).sum = V) (hf : 1 ≤ R.frames) (hlo : V + (nativeFrameWords "java/lang/System" "arraycopy" 5 + 11) ≤ R.locals) :
    ∃ T' h', Wk p l e R s m args below meth c Z T' h' k n ss ∧ Keep h h' [b] ∧ Arv Z h' b kb ty' zb (vb.take dp.toNatClampNeg ++ us ++ vb.drop (dp.toNatClampNeg + nn.toNatClampNeg)) db ∧ (∀ G, Go p.tables e below G T' (mkF m (pc + 3) ls st) → Go p.tables e below G T (mkF m pc ls (.int nn :: .int dp :: .ref b :: .int sp :: .ref a :: st))) := by
  obtain ⟨locs, vm0, k0, X, eT, N, O, S, hk, H, hss⟩ := W
  have B := B.at S
  obtain ⟨T', h', L', X', e', N', K', F', st'⟩ := cpA X B.1 B.2.1 B.2.2.1 w1 w2 w3 w4 eT A A' hty h1 h2 h3 h4 h5 hus hl N hb' (g := mkF m pc ls (.int nn :: .int dp :: .ref b :: .int sp :: .ref a :: st)) rfl (hsz.trans B.2.2.2.2.1.symm) rfl (hb B.2.2.2.1 hd) hf (W := V) (by show 2 * 0 + _ ≤ _; omega) hlo
  exact ⟨T', h', ⟨_, vm0, k0, X', e', N', O.keep K' (allS hb' all0), S, Nat.le_trans hk K'.1, H.trans (CHr.keep K' (allS (hss _ hsb).2 all0) H.1), ss_mono (CHr.keep K' (allS (hss _ hsb).2 all0) H.1) hss⟩, K', F', fun G q => Go.by st' q⟩
/-! ### calls -/
theorem backC {vm0 : Vm} {y : MethodName} {yb : ByteArray} {yL : Nat} {yr : Option FieldType} {rm : Room} {len V : Nat} {as' : Array Value} {s0 : List Addr} (C : Con l Z y yb yL yr [] rm as' h Q s0) (O : Old Z Z.heap.size h) (hWd : Wd Z)
    (hZ : Z.Warmed39 vm0) (wc : (Cond.code y yb yL yr).before a0 Z = true) (wz : (Cond.initialized y.cls).before a0 Z = true) (hf : rm.frames + 1 ≤ R.frames) (hl : V + (yL + 11) + rm.locals ≤ R.locals) (H : CHv Z EL vm0 h) (hs0 : ∀ x ∈ s0, x < h.size ∧ Safe Z EL vm0 h x) :
    BackS l R p e below (s.setVm vm0) args y len V (fun A a => a = as' ∧ A.U.heap = h ∧ A.cells + rm.cells ≤ R.cells ∧ A.slots + rm.slots ≤ R.slots)
      (fun A _ v B => ∃ L, (Q v B.U.heap ∧ Fr Z.heap.size L ∧ Old Z Z.heap.size B.U.heap) ∧ B.locs = A.locs ++ L ∧ B.cells = A.cells + rm.cells ∧ B.slots = A.slots + rm.slots ∧ CHr Z EL vm0 h B.U.vm B.U.heap) := by
  obtain ⟨a1, hEL, -⟩ := id hWd
  refine BackS.of_freeW (bytes := yb) (maxL := yL) (ret := yr) (E := fun _ first o t L k n => (k = rm.cells ∧ n = rm.slots) ∧ ∃ v, o = .returned v ∧ (Q v t.heap ∧ Fr Z.heap.size L ∧ Old Z Z.heap.size t.heap) ∧ CHr Z EL first.vm first.heap t.vm t.heap) (C hWd O) hf hl ?_ ?_ (fun _ _ _ _ _ _ _ _ _ => trivial) ?_ ?_
  · intro m meth c A a Y hp
    have hU : Z.Warmed39 A.U.vm := wtrans (s := s.setVm vm0) hZ Y.warmed
    exact ⟨by show (Cond.and _ .tt).before a A.U = true; rw [Cond.before_and, mv hU wc]; rfl, mv hU wc, mv hU wz, hp.2.2.1, hp.2.2.2⟩
  · intro m meth c A a g mk Y hp
    have q := CHv.at Y hZ hEL H
    exact ⟨hp.1, wtrans (s := s.setVm vm0) hZ Y.warmed, hp.2.1, q.1, ss_mono q hs0⟩
  · rintro _ _ _ _ ⟨v, L, h1, h2, h3, h4⟩
    exact ⟨L, _, _, h4, ⟨rfl, rfl⟩, v, h1, h2, h3⟩
  · rintro m meth c A a g mk v t L k n Y hp _ _ ⟨⟨rfl, rfl⟩, v', e3, e4, e5⟩
    cases e3
    refine ⟨L, e4, rfl, rfl, rfl, (CHv.at Y hZ hEL H).trans ?_⟩
    have e6 : (A.U.calling g mk a).heap = h := hp.2.1
    rw [← e6]; exact e5
theorem x_static (B : Bdy p Z s m meth c own bytes maxL ret nm) (W : Wk p l e R s m args below meth c Z T h k n ss) {y : MethodName} {yb : ByteArray} {yL i : Nat} {yr : Option FieldType} {rm : Room} (argsL : List Value) {s0 : List Addr} (C : Con l Z y yb yL yr [] rm argsL.toArray h Q s0) (hs0 : ∀ x ∈ s0, x ∈ ss)
    (hd : decode bytes pc = .ok (.invokestatic i, 3)) (w1 : (Cond.methodLink own i y).before a0 Z = true) (w2 : (Cond.static y).before a0 Z = true) (wz : (Cond.initialized y.cls).before a0 Z = true) (wc : (Cond.code y yb yL yr).before a0 Z = true) (hy : y.cls ≠ "java/lang/invoke/MethodHandle" ∧ y.cls ≠ "java/lang/invoke/VarHandle")
    (hlen : ∀ sig, parseMethodDescriptor y.desc = some sig → argsL.length = sig.parameters.length) (ls : Array Slot) (st : List Value) (hsz : ls.size = maxL) (V : Nat) (hV : (st.map fun v => v.category).sum = V) (hf : rm.frames + 1 ≤ R.frames) (hl : V + (yL + 11) + rm.locals ≤ R.locals) (hc : k + rm.cells ≤ R.cells) (hs : n + rm.slots ≤ R.slots) :
    ∃ T' h' v, Wk p l e R s m args below meth c Z T' h' (k + rm.cells) (n + rm.slots) ss ∧ Q v h' ∧ (∀ G, Go p.tables e below G T' (mkF m (pc + 3) ls (v.toList ++ st)) → Go p.tables e below G T (mkF m pc ls (argsL.reverse ++ st))) := by
  obtain ⟨locs, vm0, k0, X, eT, N, O, S, hk, H, hss⟩ := W
  have B := B.at S
  obtain ⟨v, _, ⟨T', L', k', n'⟩, -, X', S', hg', ⟨Lc, hQ, l1, l2, l3, A'⟩, st'⟩ := callSS X B.1 (y := y) B.2.2.1 (mvT B.2.1 w1) (mvT B.2.1 w2) (mvT B.2.1 wz) (mvT B.2.1 wc) hy (backC (V := V) C O B.2.2.2.2.2.2.2.2 B.2.1 wc wz hf hl H.1 (fun x q => hss x (hs0 x q))) (g := mkF m pc ls (argsL.reverse ++ st)) rfl (hsz.trans B.2.2.2.2.1.symm) (argsL := argsL) (rest := st) hlen rfl (by show 2 * 0 + _ ≤ _; omega) (hb B.2.2.2.1 hd) (fun _ _ => ⟨rfl, eT, hc, hs⟩)
  dsimp only [Pt.U, Pt.locs, Pt.cells, Pt.slots] at X' S' hg' A' l1 l2 l3 st' hQ
  subst l1 l2 l3
  exact ⟨T', T'.heap, v, ⟨_, T'.vm, T'.heap.size, X', rfl, N.app hQ.2.1, hQ.2.2, S.trans S' (Nat.le_trans hk A'.2.1), Nat.le_refl _, H.trans A', ss_mono A' hss⟩, hQ.1, fun G q => Go.by (fun t q => st'.trans q) q⟩
theorem x_special (B : Bdy p Z s m meth c own bytes maxL ret nm) (W : Wk p l e R s m args below meth c Z T h k n ss) {y : MethodName} {yb : ByteArray} {yL i : Nat} {rm : Room} {b : Addr} (argsL : List Value) {s0 : List Addr} (C : Con l Z y yb yL none [] rm (.ref b :: argsL).toArray h Q s0) (hs0 : ∀ x ∈ s0, x ∈ ss)
    (hd : decode bytes pc = .ok (.invokespecial i, 3)) (hy1 : y.name = "<init>") (w1 : (Cond.methodLink own i y).before a0 Z = true) (w2 : (Cond.instanceMethod y).before a0 Z = true) (wz : (Cond.initialized y.cls).before a0 Z = true) (wc : (Cond.code y yb yL none).before a0 Z = true) (hy : y.cls ≠ "java/lang/invoke/MethodHandle" ∧ y.cls ≠ "java/lang/invoke/VarHandle")
    (hlen : ∀ sig, parseMethodDescriptor y.desc = some sig → argsL.length = sig.parameters.length) (ls : Array Slot) (st : List Value) (hsz : ls.size = maxL) (V : Nat) (hV : (st.map fun v => v.category).sum = V) (hf : rm.frames + 1 ≤ R.frames) (hl : V + (yL + 11) + rm.locals ≤ R.locals) (hc : k + rm.cells ≤ R.cells) (hs : n + rm.slots ≤ R.slots) :
    ∃ T' h' v, Wk p l e R s m args below meth c Z T' h' (k + rm.cells) (n + rm.slots) ss ∧ Q v h' ∧ (∀ G, Go p.tables e below G T' (mkF m (pc + 3) ls (v.toList ++ st)) → Go p.tables e below G T (mkF m pc ls (argsL.reverse ++ .ref b :: st))) := by
  obtain ⟨locs, vm0, k0, X, eT, N, O, S, hk, H, hss⟩ := W
  have B := B.at S
  obtain ⟨v, _, ⟨T', L', k', n'⟩, -, X', S', hg', ⟨Lc, hQ, l1, l2, l3, A'⟩, st'⟩ := X.specialBackS B.1 (y := y) hy1 B.2.2.1 (mvT B.2.1 w1) (mvT B.2.1 w2) (mvT B.2.1 wc) hy (backC (V := V) C O B.2.2.2.2.2.2.2.2 B.2.1 wc wz hf hl H.1 (fun x q => hss x (hs0 x q))) (g := mkF m pc ls (argsL.reverse ++ .ref b :: st)) rfl (hsz.trans B.2.2.2.2.1.symm) (Steps.refl _) (a := b) (argsL := argsL) (rest := st) hlen rfl (by show 2 * 0 + _ ≤ _; omega) (hb B.2.2.2.1 hd) (fun _ _ => ⟨rfl, eT, hc, hs⟩)
  dsimp only [Pt.U, Pt.locs, Pt.cells, Pt.slots] at X' S' hg' A' l1 l2 l3 st' hQ
  subst l1 l2 l3
  exact ⟨T', T'.heap, v, ⟨_, T'.vm, T'.heap.size, X', rfl, N.app hQ.2.1, hQ.2.2, S.trans S' (Nat.le_trans hk A'.2.1), Nat.le_refl _, H.trans A', ss_mono A' hss⟩, hQ.1, fun G q => Go.by (fun t q => st'.trans q) q⟩
theorem x_virtual (B : Bdy p Z s m meth c own bytes maxL ret nm) (W : Wk p l e R s m args below meth c Z T h k n ss) {y : MethodName} {yb : ByteArray} {yL i : Nat} {yr : Option FieldType} {rm : Room} {b : Addr} {D : String} (argsL : List Value) {s0 : List Addr} (C : Con l Z y yb yL yr [] rm (.ref b :: argsL).toArray h Q s0) (hs0 : ∀ x ∈ s0, x ∈ ss) (E : Exa Z h b D)
    (hd : decode bytes pc = .ok (.invokevirtual i, 3)) (w1 : (Cond.methodLink own i y).before a0 Z = true) (w2 : (Cond.declares y).before a0 Z = true) (w3 : (Cond.selects D y y).before a0 Z = true) (w4 : (Cond.instanceMethod y).before a0 Z = true) (wz : (Cond.initialized y.cls).before a0 Z = true) (wc : (Cond.code y yb yL yr).before a0 Z = true) (hy : y.cls ≠ "java/lang/invoke/MethodHandle" ∧ y.cls ≠ "java/lang/invoke/VarHandle")
    (hlen : ∀ sig, parseMethodDescriptor y.desc = some sig → argsL.length = sig.parameters.length) (ls : Array Slot) (st : List Value) (hsz : ls.size = maxL) (V : Nat) (hV : (st.map fun v => v.category).sum = V) (hf : rm.frames + 1 ≤ R.frames) (hl : V + (yL + 11) + rm.locals ≤ R.locals) (hc : k + rm.cells ≤ R.cells) (hs : n + rm.slots ≤ R.slots) :
    ∃ T' h' v, Wk p l e R s m args below meth c Z T' h' (k + rm.cells) (n + rm.slots) ss ∧ Q v h' ∧ (∀ G, Go p.tables e below G T' (mkF m (pc + 3) ls (v.toList ++ st)) → Go p.tables e below G T (mkF m pc ls (argsL.reverse ++ .ref b :: st))) := by
  obtain ⟨locs, vm0, k0, X, eT, N, O, S, hk, H, hss⟩ := W
  have B := B.at S
  obtain ⟨cq, kq, qa, qb, qc⟩ := isOf B.2.1 eT E
  obtain ⟨v, _, ⟨T', L', k', n'⟩, -, X', S', hg', ⟨Lc, hQ, l1, l2, l3, A'⟩, st'⟩ := X.virtualBackS B.1 (y := y) (z := y) B.2.2.1 (mvT B.2.1 w1) (mvT B.2.1 w2) (notFace_of_selects (args := #[]) (mvT B.2.1 w3)) (mvT B.2.1 w3) (mvT B.2.1 w4) hy (backC (V := V) C O B.2.2.2.2.2.2.2.2 B.2.1 wc wz hf hl H.1 (fun x q => hss x (hs0 x q))) qa qc (g := mkF m pc ls (argsL.reverse ++ .ref b :: st)) rfl (hsz.trans B.2.2.2.2.1.symm) (Steps.refl _) (argsL := argsL) (rest := st) hlen rfl (by show 2 * 0 + _ ≤ _; omega) (hb B.2.2.2.1 hd) (fun _ _ => ⟨rfl, eT, hc, hs⟩)
  dsimp only [Pt.U, Pt.locs, Pt.cells, Pt.slots] at X' S' hg' A' l1 l2 l3 st' hQ
  subst l1 l2 l3
  exact ⟨T', T'.heap, v, ⟨_, T'.vm, T'.heap.size, X', rfl, N.app hQ.2.1, hQ.2.2, S.trans S' (Nat.le_trans hk A'.2.1), Nat.le_refl _, H.trans A', ss_mono A' hss⟩, hQ.1, fun G q => Go.by (fun t q => st'.trans q) q⟩
theorem x_iface (B : Bdy p Z s m meth c own bytes maxL ret nm) (W : Wk p l e R s m args below meth c Z T h k n ss) {xi y : MethodName} {count : Nat} {D : String} {yb : ByteArray} {yL i : Nat} {yr : Option FieldType} {rm : Room} {b : Addr} (argsL : List Value) {s0 : List Addr} (C : Con l Z y yb yL yr [] rm (.ref b :: argsL).toArray h Q s0) (hs0 : ∀ x ∈ s0, x ∈ ss) (E : Exa Z h b D)
    (hd : decode bytes pc = .ok (.invokeinterface i count, 5)) (w1 : (Cond.methodLink own i xi).before a0 Z = true) (w2 : (Cond.declares xi).before a0 Z = true) (w3 : (Cond.interfaceMethod xi.cls xi.cls xi.name xi.desc).before a0 Z = true) (w4 : (Cond.selects D xi y).before a0 Z = true) (w5 : (Cond.instanceMethod y).before a0 Z = true) (w6 : (Cond.publicMethod y).before a0 Z = true) (w7 : (Cond.unhidden D xi.name xi.desc).before a0 Z = true) (w8 : (Cond.castable D xi.cls).before a0 Z = true) (hk3 : ((Cond.interfaceMethod xi.cls xi.cls xi.name xi.desc).onTables && (Cond.interfaceMethod xi.cls xi.cls xi.name xi.desc).keepsFace) = true) (wz : (Cond.initialized y.cls).before a0 Z = true) (wc : (Cond.code y yb yL yr).before a0 Z = true) (hy : xi.cls ≠ "java/lang/invoke/MethodHandle" ∧ xi.cls ≠ "java/lang/invoke/VarHandle")
    (hlen : ∀ sig, parseMethodDescriptor xi.desc = some sig → argsL.length = sig.parameters.length) (ls : Array Slot) (st : List Value) (hsz : ls.size = maxL) (V : Nat) (hV : (st.map fun v => v.category).sum = V) (hf : rm.frames + 1 ≤ R.frames) (hl : V + (yL + 11) + rm.locals ≤ R.locals) (hc : k + rm.cells ≤ R.cells) (hs : n + rm.slots ≤ R.slots) :
    ∃ T' h' v, Wk p l e R s m args below meth c Z T' h' (k + rm.cells) (n + rm.slots) ss ∧ Q v h' ∧ (∀ G, Go p.tables e below G T' (mkF m (pc + 5) ls (v.toList ++ st)) → Go p.tables e below G T (mkF m pc ls (argsL.reverse ++ .ref b :: st))) := by
  obtain ⟨locs, vm0, k0, X, eT, N, O, S, hk, H, hss⟩ := W
  have B := B.at S
  obtain ⟨cq, kq, qa, qb, qc⟩ := isOf B.2.1 eT E
  obtain ⟨v, _, ⟨T', L', k', n'⟩, -, X', S', hg', ⟨Lc, hQ, l1, l2, l3, A'⟩, st'⟩ := X.interfaceBackS B.1 (xi := xi) (y := y) B.2.2.1 (mvT B.2.1 w1) (mvT B.2.1 w2) (mvT B.2.1 w3 hk3) (mvT B.2.1 w4) (mvT B.2.1 w5) (mvT B.2.1 w6) (mvT B.2.1 w7) (mvT B.2.1 w8) hy (backC (V := V) C O B.2.2.2.2.2.2.2.2 B.2.1 wc wz hf hl H.1 (fun x q => hss x (hs0 x q))) qa qb qc (g := mkF m pc ls (argsL.reverse ++ .ref b :: st)) rfl (hsz.trans B.2.2.2.2.1.symm) (Steps.refl _) (argsL := argsL) (rest := st) hlen rfl (by show 2 * 0 + _ ≤ _; omega) (hb B.2.2.2.1 hd) (fun _ _ => ⟨rfl, eT, hc, hs⟩)
  dsimp only [Pt.U, Pt.locs, Pt.cells, Pt.slots] at X' S' hg' A' l1 l2 l3 st' hQ
  subst l1 l2 l3
  exact ⟨T', T'.heap, v, ⟨_, T'.vm, T'.heap.size, X', rfl, N.app hQ.2.1, hQ.2.2, S.trans S' (Nat.le_trans hk A'.2.1), Nat.le_refl _, H.trans A', ss_mono A' hss⟩, hQ.1, fun G q => Go.by (fun t q => st'.trans q) q⟩
theorem x_private (B : Bdy p Z s m meth c own bytes maxL ret nm) (W : Wk p l e R s m args below meth c Z T h k n ss) {y : MethodName} {D : String} {yb : ByteArray} {yL i : Nat} {yr : Option FieldType} {rm : Room} {b : Addr} (argsL : List Value) {s0 : List Addr} (C : Con l Z y yb yL yr [] rm (.ref b :: argsL).toArray h Q s0) (hs0 : ∀ x ∈ s0, x ∈ ss) (E : Exa Z h b D)
    (hd : decode bytes pc = .ok (.invokevirtual i, 3)) (w1 : (Cond.methodLink own i y).before a0 Z = true) (w2 : (Cond.instanceMethod y).before a0 Z = true) (w3 : (Cond.selects y.cls y y).before a0 Z = true) (w4 : (Cond.privateMethod y).before a0 Z = true) (wz : (Cond.initialized y.cls).before a0 Z = true) (wc : (Cond.code y yb yL yr).before a0 Z = true) (hy : y.cls ≠ "java/lang/invoke/MethodHandle" ∧ y.cls ≠ "java/lang/invoke/VarHandle")
    (hlen : ∀ sig, parseMethodDescriptor y.desc = some sig → argsL.length = sig.parameters.length) (ls : Array Slot) (st : List Value) (hsz : ls.size = maxL) (V : Nat) (hV : (st.map fun v => v.category).sum = V) (hf : rm.frames + 1 ≤ R.frames) (hl : V + (yL + 11) + rm.locals ≤ R.locals) (hc : k + rm.cells ≤ R.cells) (hs : n + rm.slots ≤ R.slots) :
    ∃ T' h' v, Wk p l e R s m args below meth c Z T' h' (k + rm.cells) (n + rm.slots) ss ∧ Q v h' ∧ (∀ G, Go p.tables e below G T' (mkF m (pc + 3) ls (v.toList ++ st)) → Go p.tables e below G T (mkF m pc ls (argsL.reverse ++ .ref b :: st))) := by
  obtain ⟨locs, vm0, k0, X, eT, N, O, S, hk, H, hss⟩ := W
  have B := B.at S
  obtain ⟨cell, qa, qb⟩ := Exa.cell E
  obtain ⟨v, _, ⟨T', L', k', n'⟩, -, X', S', hg', ⟨Lc, hQ, l1, l2, l3, A'⟩, st'⟩ := X.privateBackS B.1 (y := y) B.2.2.1 (mvT B.2.1 w1) (mvT B.2.1 w2) (mvT B.2.1 w3) (Cond.privateMethod_at (mvP B.2.1 w4 (args := #[]))) (mvT B.2.1 wc) hy (backC (V := V) C O B.2.2.2.2.2.2.2.2 B.2.1 wc wz hf hl H.1 (fun x q => hss x (hs0 x q))) (g := mkF m pc ls (argsL.reverse ++ .ref b :: st)) rfl (hsz.trans B.2.2.2.2.1.symm) (Steps.refl _) (a := b) (by rw [eT]; exact qa) qb (argsL := argsL) (rest := st) hlen rfl (by show 2 * 0 + _ ≤ _; omega) (hb B.2.2.2.1 hd) (fun _ _ => ⟨rfl, eT, hc, hs⟩)
  dsimp only [Pt.U, Pt.locs, Pt.cells, Pt.slots] at X' S' hg' A' l1 l2 l3 st' hQ
  subst l1 l2 l3
  exact ⟨T', T'.heap, v, ⟨_, T'.vm, T'.heap.size, X', rfl, N.app hQ.2.1, hQ.2.2, S.trans S' (Nat.le_trans hk A'.2.1), Nat.le_refl _, H.trans A', ss_mono A' hss⟩, hQ.1, fun G q => Go.by (fun t q => st'.trans q) q⟩
theorem x_specialB (B : Bdy p Z s m meth c own bytes maxL ret nm) (W : Wk p l e R s m args below meth c Z T h k n ss) {y : MethodName} {yb : ByteArray} {yL i V rc rs : Nat} {b : Addr} {QL : Option Value → Heap → List Loc → Prop} (argsL : List Value) (hK : ∀ s' : State, Z.Warmed39 s'.vm → Back l R p e below s' args y 3 V (fun A a => a = (.ref b :: argsL).toArray ∧ A.U.heap = h ∧ A.cells + rc ≤ R.cells ∧ A.slots + rs ≤ R.slots) (fun A _ v B => ∃ L, QL v B.U.heap L ∧ B.locs = A.locs ++ L ∧ B.cells = A.cells + rc ∧ B.slots = A.slots + rs))
    (hd : decode bytes pc = .ok (.invokespecial i, 3)) (hy1 : y.name = "<init>") (w1 : (Cond.methodLink own i y).before a0 Z = true) (w2 : (Cond.instanceMethod y).before a0 Z = true) (wc : (Cond.code y yb yL none).before a0 Z = true) (hy : y.cls ≠ "java/lang/invoke/MethodHandle" ∧ y.cls ≠ "java/lang/invoke/VarHandle")
    (hlen : ∀ sig, parseMethodDescriptor y.desc = some sig → argsL.length = sig.parameters.length) (ls : Array Slot) (st : List Value) (hsz : ls.size = maxL) (hV : (st.map fun v => v.category).sum = V) (hc : k + rc ≤ R.cells) (hs : n + rs ≤ R.slots) (wl : List Addr) (hwl : ∀ x ∈ wl, Z.heap.size ≤ x) (hsf : ∀ x ∈ wl, x ∈ ss) (hq : ∀ v h' L, QL v h' L → Fr Z.heap.size L ∧ Keep h h' wl) : ∃ T' h' v L, Wk p l e R s m args below meth c Z T' h' (k + rc) (n + rs) ss ∧ QL v h' L ∧ (∀ G, Go p.tables e below G T' (mkF m (pc + 3) ls (v.toList ++ st)) → Go p.tables e below G T (mkF m pc ls (argsL.reverse ++ .ref b :: st))) := by
  obtain ⟨locs, vm0, k0, X, eT, N, O, S, hk, H, hss⟩ := W
  have B := B.at S
  obtain ⟨v, _, ⟨T', L', k', n'⟩, -, X', ⟨Lc, hQ, l1, l2, l3⟩, st'⟩ := X.specialBack B.1 (y := y) hy1 B.2.2.1 (mvT B.2.1 w1) (mvT B.2.1 w2) (mvT B.2.1 wc) hy (hK _ B.2.1) (g := mkF m pc ls (argsL.reverse ++ .ref b :: st)) rfl (hsz.trans B.2.2.2.2.1.symm) (Steps.refl _) (a := b) (argsL := argsL) (rest := st) hlen rfl (by show 2 * 0 + _ ≤ _; omega) (hb B.2.2.2.1 hd) (fun _ _ => ⟨rfl, eT, hc, hs⟩)
  dsimp only [Pt.U, Pt.locs, Pt.cells, Pt.slots] at X' l1 l2 l3 st' hQ
  subst l1 l2 l3
  obtain ⟨hF, hKp⟩ := hq _ _ _ hQ
  exact ⟨T', T'.heap, v, Lc, ⟨_, vm0, k0, X', rfl, N.app hF, O.keep hKp hwl, S, Nat.le_trans hk hKp.1, H.trans (CHr.keep hKp (fun x q => (hss x (hsf x q)).2) H.1), ss_mono (CHr.keep hKp (fun x q => (hss x (hsf x q)).2) H.1) hss⟩, hQ, fun G q => Go.by (fun t q => st'.trans q) q⟩
theorem x_virtualB (B : Bdy p Z s m meth c own bytes maxL ret nm) (W : Wk p l e R s m args below meth c Z T h k n ss) {y : MethodName} {D : String} {i V rc rs : Nat} {b : Addr} {QL : Option Value → Heap → List Loc → Prop} (argsL : List Value) (hK : ∀ s' : State, Z.Warmed39 s'.vm → Back l R p e below s' args y 3 V (fun A a => a = (.ref b :: argsL).toArray ∧ A.U.heap = h ∧ A.cells + rc ≤ R.cells ∧ A.slots + rs ≤ R.slots) (fun A _ v B => ∃ L, QL v B.U.heap L ∧ B.locs = A.locs ++ L ∧ B.cells = A.cells + rc ∧ B.slots = A.slots + rs)) (E : Exa Z h b D)
    (hd : decode bytes pc = .ok (.invokevirtual i, 3)) (w1 : (Cond.methodLink own i y).before a0 Z = true) (w2 : (Cond.declares y).before a0 Z = true) (w3 : (Cond.selects D y y).before a0 Z = true) (w4 : (Cond.instanceMethod y).before a0 Z = true) (hy : y.cls ≠ "java/lang/invoke/MethodHandle" ∧ y.cls ≠ "java/lang/invoke/VarHandle")
    (hlen : ∀ sig, parseMethodDescriptor y.desc = some sig → argsL.length = sig.parameters.length) (ls : Array Slot) (st : List Value) (hsz : ls.size = maxL) (hV : (st.map fun v => v.category).sum = V) (hc : k + rc ≤ R.cells) (hs : n + rs ≤ R.slots) (wl : List Addr) (hwl : ∀ x ∈ wl, Z.heap.size ≤ x) (hsf : ∀ x ∈ wl, x ∈ ss) (hq : ∀ v h' L, QL v h' L → Fr Z.heap.size L ∧ Keep h h' wl) : ∃ T' h' v L, Wk p l e R s m args below meth c Z T' h' (k + rc) (n + rs) ss ∧ QL v h' L ∧ (∀ G, Go p.tables e below G T' (mkF m (pc + 3) ls (v.toList ++ st)) → Go p.tables e below G T (mkF m pc ls (argsL.reverse ++ .ref b :: st))) := by
  obtain ⟨locs, vm0, k0, X, eT, N, O, S, hk, H, hss⟩ := W
  have B := B.at S
  obtain ⟨cq, kq, qa, qb, qc⟩ := isOf B.2.1 eT E
  obtain ⟨v, _, ⟨T', L', k', n'⟩, -, X', ⟨Lc, hQ, l1, l2, l3⟩, st'⟩ := X.virtualBack B.1 (y := y) (z := y) B.2.2.1 (mvT B.2.1 w1) (mvT B.2.1 w2) (notFace_of_selects (args := #[]) (mvT B.2.1 w3)) (mvT B.2.1 w3) (mvT B.2.1 w4) hy (hK _ B.2.1) qa qc (g := mkF m pc ls (argsL.reverse ++ .ref b :: st)) rfl (hsz.trans B.2.2.2.2.1.symm) (Steps.refl _) (argsL := argsL) (rest := st) hlen rfl (by show 2 * 0 + _ ≤ _; omega) (hb B.2.2.2.1 hd) (fun _ _ => ⟨rfl, eT, hc, hs⟩)
  dsimp only [Pt.U, Pt.locs, Pt.cells, Pt.slots] at X' l1 l2 l3 st' hQ
  subst l1 l2 l3
  obtain ⟨hF, hKp⟩ := hq _ _ _ hQ
  exact ⟨T', T'.heap, v, Lc, ⟨_, vm0, k0, X', rfl, N.app hF, O.keep hKp hwl, S, Nat.le_trans hk hKp.1, H.trans (CHr.keep hKp (fun x q => (hss x (hsf x q)).2) H.1), ss_mono (CHr.keep hKp (fun x q => (hss x (hsf x q)).2) H.1) hss⟩, hQ, fun G q => Go.by (fun t q => st'.trans q) q⟩
theorem x_ldcS (B : Bdy p Z s m meth c own bytes maxL ret nm) (W : Wk p l e R s m args below meth c Z T h k n ss) {i : Nat} {text : String} (sz : Nat) (hd : decode bytes pc = .ok (.ldc i, 2)) (w : (Cond.stringLink own i text).before a0 Z = true) (wS : ∀ a ∈ Bundle.stringAtoms, a.before a0 Z = true) (hEL : EW Z a0 EL) (hn : 4 * text.toList.length ≤ sz) (hbig : sz ≤ 536870912) (hc : k + 2 ≤ R.cells) (hl : n + (sz + 4) ≤ R.slots) (ls : Array Slot) (st : List Value) :
    ∃ T' h' b, Wk p l e R s m args below meth c Z T' h' (k + 2) (n + (sz + 4)) ss ∧ Keep h h' [] ∧ (∀ G, Go p.tables e below G T' (mkF m (pc + 2) ls (.ref b :: st)) → Go p.tables e below G T (mkF m pc ls st)) := by
  obtain ⟨locs, vm0, k0, X, eT, N, O, S, hk, H, hss⟩ := W
  have B := B.at S
  obtain ⟨b, T', h', k1, X', e', E', S', hk', hZ', hf', A', -, st'⟩ := ldcOH X B.1 B.2.1 B.2.2.1 w wS eT S hk hEL H.1 (g := mkF m pc ls st) rfl (hb B.2.2.2.1 hd) hn hbig hc hl
  exact ⟨T', h', b, ⟨locs, T'.vm, k1, X', e', N, O.ext E', S', hk', H.trans A', ss_mono A' hss⟩, (Keep.refl h []).ext E', fun G q => Go.by st' q⟩
def OutR (Z s : State) (Q : Option Value → Heap → Prop) (k n : Nat) (o : Outcome) (U : State) : Prop := Out Z s Q k n o U ∧ ∀ x, o = .returned (some (.ref x)) → x < U.heap.size ∧ Safe Z EL U.vm U.heap x
/-- a contract of a body whose answer may be written to later -/
def ConR (l : Launch) (Z : State) (y : MethodName) (bytes : ByteArray) (maxL : Nat) (ret : Option FieldType) (ws : List Cond) (rm : Room) (as' : Array Value) (h0 : Heap) (Q : Option Value → Heap → Prop) (ss : List Addr) : Prop :=
  Wd Z → Old Z Z.heap.size h0 → MetFree l y (head1 (Cond.code y bytes maxL ret :: ws) rm) (fun a U => a = as' ∧ Z.Warmed39 U.vm ∧ U.heap = h0 ∧ CHv Z EL U.vm h0 ∧ ∀ x ∈ ss, x < h0.size ∧ Safe Z EL U.vm h0 x) (fun _ _ _ _ _ => True) (fun _ U o U' => OutR Z U Q rm.cells rm.slots o U')
theorem ConR.of {y : MethodName} {ws : List Cond} {rm : Room} {as' : Array Value} {h0 : Heap} (hpl : plainFor y = true)
    (body : ∀ p e s m below meth c T, Bdy p Z s m meth c y.cls bytes maxL ret y.name → Wk p l e rm s m as' below meth c Z T h0 0 0 ss → Go p.tables e below (OutR Z s Q rm.cells rm.slots) T (entryFrame m as' maxL)) : ConR l Z y bytes maxL ret ws rm as' h0 Q ss := by
  intro hWd hO
  refine MetFree.of_bodySF hpl hisR ?_
  intro p e s m args below meth c s₁ Bd hml0 hP hK
  obtain ⟨rfl, hZ, hh, hC, hss⟩ := hP
  subst hh
  exact body p e s m below meth c s₁ ⟨Bd.exec, hZ, findClass_of_methodNamed Bd.named, Bd.bytes, hml0, Bd.returns, Bd.notSynchronized, (name_of_methodNamed Bd.named Bd.method).1, hWd⟩ ⟨[], s.vm, s.heap.size, Stand.of_body Bd, by rw [Bd.state]; rfl, Fr.nil _, hO, (State.WarmedH.refl s).since _, Nat.le_refl _, CHr.refl hC, hss⟩
theorem r_aR (B : Bdy p Z s m meth c own bytes maxL ret nm) (W : Wk p l e R s m args below meth c Z T h k n ss) {t : FieldType} {b : Addr} {k' n' : Nat} (hret : ret = some t) (ht : t.isReference = true) (hd : decode bytes pc = .ok (.areturn, 1)) (hk : k ≤ k') (hn : n ≤ n') (hQ : Q (some (.ref b)) h) (hs : b ∈ ss) : Go p.tables e below (OutR Z s Q k' n') T (mkF m pc ls (.ref b :: st)) := by
  obtain ⟨locs, vm0, k0, X, eT, N, O, S, hk0, H, hss⟩ := W
  have B' := B.at S
  obtain ⟨a0, hEW, -⟩ := B.2.2.2.2.2.2.2.2
  obtain ⟨fs, hr, hrun, hended, e1, e2, e3, e4⟩ := X.leaveW S (by rw [eT]; exact hk0) (v := some (.ref b)) (fun q => by rw [B.2.2.2.2.2.1, hret] at q; cases q) B.2.2.2.2.2.2.1
  have eT' : (T.setFrames fs).heap = h := eT
  have A := CHv.at X B'.2.1 hEW H.1
  have H2 := H.trans A
  have hS := ss_mono A hss b hs
  exact ⟨_, _, retOut X B.1 (B.2.2.2.2.2.1.trans hret) (nar_ref ht) (Or.inr (Or.inr (Or.inr (Or.inr ⟨rfl, ht, rfl⟩)))) (hb B.2.2.2.1 hd) hr, hrun, hended, ⟨_, _, rfl, ⟨by rw [eT']; exact hQ, N, by rw [eT']; exact O⟩, by rw [eT']; exact H2, e1, e2, e3, e4.mono hk hn⟩, fun x q => by cases q; rw [eT']; exact hS⟩
theorem backCR {vm0 : Vm} {y : MethodName} {yb : ByteArray} {yL : Nat} {yr : Option FieldType} {rm : Room} {len V : Nat} {as' : Array Value} {s0 : List Addr} (C : ConR l Z y yb yL yr [] rm as' h Q s0) (O : Old Z Z.heap.size h) (hWd : Wd Z)
    (hZ : Z.Warmed39 vm0) (wc : (Cond.code y yb yL yr).before a0 Z = true) (wz : (Cond.initialized y.cls).before a0 Z = true) (hf : rm.frames + 1 ≤ R.frames) (hl : V + (yL + 11) + rm.locals ≤ R.locals) (H : CHv Z EL vm0 h) (hs0 : ∀ x ∈ s0, x < h.size ∧ Safe Z EL vm0 h x) :
    BackS l R p e below (s.setVm vm0) args y len V (fun A a => a = as' ∧ A.U.heap = h ∧ A.cells + rm.cells ≤ R.cells ∧ A.slots + rm.slots ≤ R.slots)
      (fun A _ v B => ∃ L, (Q v B.U.heap ∧ Fr Z.heap.size L ∧ Old Z Z.heap.size B.U.heap) ∧ B.locs = A.locs ++ L ∧ B.cells = A.cells + rm.cells ∧ B.slots = A.slots + rm.slots ∧ CHr Z EL vm0 h B.U.vm B.U.heap ∧ ∀ x, v = some (.ref x) → x < B.U.heap.size ∧ Safe Z EL B.U.vm B.U.heap x) := by
  obtain ⟨a1, hEL, -⟩ := id hWd
  refine BackS.of_freeW (bytes := yb) (maxL := yL) (ret := yr) (E := fun _ first o t L k n => (k = rm.cells ∧ n = rm.slots) ∧ ∃ v, o = .returned v ∧ (Q v t.heap ∧ Fr Z.heap.size L ∧ Old Z Z.heap.size t.heap) ∧ CHr Z EL first.vm first.heap t.vm t.heap ∧ ∀ x, v = some (.ref x) → x < t.heap.size ∧ Safe Z EL t.vm t.heap x) (C hWd O) hf hl ?_ ?_ (fun _ _ _ _ _ _ _ _ _ => trivial) ?_ ?_
  · intro m meth c A a Y hp
    have hU : Z.Warmed39 A.U.vm := wtrans (s := s.setVm vm0) hZ Y.warmed
    exact ⟨by show (Cond.and _ .tt).before a A.U = true; rw [Cond.before_and, mv hU wc]; rfl, mv hU wc, mv hU wz, hp.2.2.1, hp.2.2.2⟩
  · intro m meth c A a g mk Y hp
    have q := CHv.at Y hZ hEL H
    exact ⟨hp.1, wtrans (s := s.setVm vm0) hZ Y.warmed, hp.2.1, q.1, ss_mono q hs0⟩
  · rintro _ _ _ _ ⟨⟨v, L, h1, h2, h3, h4⟩, h5⟩
    exact ⟨L, _, _, h4, ⟨rfl, rfl⟩, v, h1, h2, h3, fun x q => h5 x (by rw [h1, q])⟩
  · rintro m meth c A a g mk v t L k n Y hp _ _ ⟨⟨rfl, rfl⟩, v', e3, e4, e5, e8⟩
    cases e3
    refine ⟨L, e4, rfl, rfl, rfl, (CHv.at Y hZ hEL H).trans ?_, e8⟩
    have e6 : (A.U.calling g mk a).heap = h := hp.2.1
    rw [← e6]; exact e5
theorem x_staticR (B : Bdy p Z s m meth c own bytes maxL ret nm) (W : Wk p l e R s m args below meth c Z T h k n ss) {y : MethodName} {yb : ByteArray} {yL i : Nat} {yr : Option FieldType} {rm : Room} (argsL : List Value) {s0 : List Addr} (C : ConR l Z y yb yL yr [] rm argsL.toArray h Q s0) (hs0 : ∀ x ∈ s0, x ∈ ss) (hQr : ∀ v h', Q v h' → ∃ b, v = some (.ref b))
    (hd : decode bytes pc = .ok (.invokestatic i, 3)) (w1 : (Cond.methodLink own i y).before a0 Z = true) (w2 : (Cond.static y).before a0 Z = true) (wz : (Cond.initialized y.cls).before a0 Z = true) (wc : (Cond.code y yb yL yr).before a0 Z = true) (hy : y.cls ≠ "java/lang/invoke/MethodHandle" ∧ y.cls ≠ "java/lang/invoke/VarHandle")
    (hlen : ∀ sig, parseMethodDescriptor y.desc = some sig → argsL.length = sig.parameters.length) (ls : Array Slot) (st : List Value) (hsz : ls.size = maxL) (V : Nat) (hV : (st.map fun v => v.category).sum = V) (hf : rm.frames + 1 ≤ R.frames) (hl : V + (yL + 11) + rm.locals ≤ R.locals) (hc : k + rm.cells ≤ R.cells) (hs : n + rm.slots ≤ R.slots) :
    ∃ T' h' b, Wk p l e R s m args below meth c Z T' h' (k + rm.cells) (n + rm.slots) (b :: ss) ∧ Q (some (.ref b)) h' ∧ (∀ G, Go p.tables e below G T' (mkF m (pc + 3) ls (.ref b :: st)) → Go p.tables e below G T (mkF m pc ls (argsL.reverse ++ st))) := by
  obtain ⟨locs, vm0, k0, X, eT, N, O, S, hk, H, hss⟩ := W
  have B := B.at S
  obtain ⟨v, _, ⟨T', L', k', n'⟩, -, X', S', hg', ⟨Lc, hQ, l1, l2, l3, A', hR⟩, st'⟩ := callSS X B.1 (y := y) B.2.2.1 (mvT B.2.1 w1) (mvT B.2.1 w2) (mvT B.2.1 wz) (mvT B.2.1 wc) hy (backCR (V := V) C O B.2.2.2.2.2.2.2.2 B.2.1 wc wz hf hl H.1 (fun x q => hss x (hs0 x q))) (g := mkF m pc ls (argsL.reverse ++ st)) rfl (hsz.trans B.2.2.2.2.1.symm) (argsL := argsL) (rest := st) hlen rfl (by show 2 * 0 + _ ≤ _; omega) (hb B.2.2.2.1 hd) (fun _ _ => ⟨rfl, eT, hc, hs⟩)
  dsimp only [Pt.U, Pt.locs, Pt.cells, Pt.slots] at X' S' hg' A' l1 l2 l3 st' hQ hR
  subst l1 l2 l3
  obtain ⟨b, rfl⟩ := hQr _ _ hQ.1
  exact ⟨T', T'.heap, b, ⟨_, T'.vm, T'.heap.size, X', rfl, N.app hQ.2.1, hQ.2.2, S.trans S' (Nat.le_trans hk A'.2.1), Nat.le_refl _, H.trans A', fun x q => by
    rcases List.mem_cons.mp q with rfl | q
    · exact hR _ rfl
    · exact ss_mono A' hss x q⟩, hQ.1, fun G q => Go.by (fun t q => st'.trans q) q⟩
theorem own_litB {vm : Vm} {own text : String} {i : Nat} {a t : Addr} (hW : Z.Warmed39 vm) (H : CHv Z EL vm h) (hmem : (own, i) ∈ EL) (w : (Cond.stringLink own i text).before a0 Z = true) (L : Lit (s.setVm vm) own i a) (V : Fld Z h a "java/lang/String" "value" "[B" (.ref t)) : Exa Z h t "[B" := by
  have hal : Z.vm.Alike vm := hW.alike
  have w2 : (Cond.stringLink own i text).before a0 (Wst Z vm h) = true := mvS (s := { Z with heap := h }) hW w
  have hq0 : (s.setVm vm).resolvedAt? own i = some (.string a) := L
  cases hf : vm.findClass own with
  | none => simp [State.resolvedAt?, hf] at hq0
  | some cc =>
    obtain ⟨k0', cf, i', units, hkx, hcf, hp, hu, -, htext, -⟩ := Cond.stringLink_spec (s := Wst Z vm h) hf w2
    have hk' : vm.classes[cc]? = some k0' := hkx
    have hres : k0'.resolved[i]? = some (some (.string a)) := by
      simp [State.resolvedAt?, hf, hk'] at hq0
      cases hr : k0'.resolved[i]? with
      | none => rw [hr] at hq0; cases hq0
      | some o => rw [hr] at hq0; cases o with
        | none => cases hq0
        | some r => simpa using hq0
    have hB0 : Booksv vm own i units a := ⟨cc, k0', cf, i', hf, hkx, hcf, hp, hu, Or.inl hres⟩
    obtain ⟨q, hqa, F⟩ := SlB.of (H _ hmem units a hB0)
    obtain ⟨cS, ⟨⟨s1, s2, s3, ⟨cv, kv, iv, s4, s4'⟩, -, s6, s7, s8, s9, s10, s11, -⟩, hfS, hcS⟩, -, hB, -⟩ := F
    subst hqa
    obtain ⟨kv', z4⟩ := ff_back (U := Wst Z vm h) hal s4
    obtain ⟨cell, cf2, k2, i2, f2, v1, v2, -, -, -, -, v7⟩ := V
    cases z4.symm.trans v2
    cases (show h[q.sa]? = some q.sC from s1).symm.trans v1
    have et : t = q.sd := by have := s8.symm.trans v7; simpa using this.symm
    subst et
    have hBZ : Z.vm.findClass "[B" = some q.SA.cls := by rw [← hal.findClass]; exact hB
    obtain ⟨kb, hkb, -⟩ := Vm.findClass_spec hBZ
    obtain ⟨kb', hkb', ekb⟩ := hal.2.2 _ _ hkb
    obtain ⟨hst, k9, hk9, comp, hkind9⟩ := s11
    have hk9 : vm.classes[q.SA.cls]? = some k9 := hk9
    have ek9 : k9 = kb' := Option.some.inj (hk9.symm.trans hkb')
    refine ⟨q.SA, kb, s10, hBZ, hkb, ?_, fun ho => ?_⟩
    · cases hq : q.SA.vm <;> first | rfl | exact absurd hq (hst _)
    · rw [ek9, ekb] at hkind9
      have := hkind9.symm.trans ho
      cases this
theorem x_ldcT (B : Bdy p Z s m meth c own bytes maxL ret nm) (W : Wk p l e R s m args below meth c Z T h k n ss) {i : Nat} {text : String} (sz : Nat) {vs : List Value} {z : Int32} (hd : decode bytes pc = .ok (.ldc i, 2)) (w : (Cond.stringLink own i text).before a0 Z = true) (wS : ∀ a ∈ Bundle.stringAtoms, a.before a0 Z = true) (hEL : EW Z a0 EL) (hmem : (own, i) ∈ EL) (ht : (∀ c ∈ text.toList, c.toNat < 256) ∧ text.toList.map (fun c => Value.int (Jvm.Lit.byteI c.toNat.toUInt16)) = vs) (hz : ¬ z < 0) (hlz : z.toNatClampNeg = vs.length) (hn : 4 * text.toList.length ≤ sz) (hbig : sz ≤ 536870912) (hc : k + 2 ≤ R.cells) (hl : n + (sz + 4) ≤ R.slots) (ls : Array Slot) (st : List Value) :
    ∃ T' h' b t kc, Wk p l e R s m args below meth c Z T' h' (k + 2) (n + (sz + 4)) ss ∧ Keep h h' [] ∧ Exa Z h' b "java/lang/String" ∧ Fld Z h' b "java/lang/String" "coder" "B" (.int 0) ∧ Fld Z h' b "java/lang/String" "value" "[B" (.ref t) ∧ Arv Z h' t kc .byte z vs (.int 0) ∧ Exa Z h' t "[B" ∧ (∀ x ∈ ss, x ≠ b ∧ x ≠ t) ∧ (∀ G, Go p.tables e below G T' (mkF m (pc + 2) ls (.ref b :: st)) → Go p.tables e below G T (mkF m pc ls st)) := by
  obtain ⟨locs, vm0, k0, X, eT, N, O, S, hk, H, hss⟩ := W
  have B := B.at S
  obtain ⟨b, T', h', k1, t, kc, X', e', E', S', hk', hZ', hf', q1, q2, q3, q4, -, -, A', Lt, q5, st'⟩ := ldcCH X B.1 B.2.1 B.2.2.1 w wS eT S hk hEL hmem H.1 ht hz hlz (g := mkF m pc ls st) rfl (hb B.2.2.2.1 hd) hn hbig hc hl
  have hs2 := ss_mono A' hss
  exact ⟨T', h', b, t, kc, ⟨locs, T'.vm, k1, X', e', N, O.ext E', S', hk', H.trans A', hs2⟩, (Keep.refl h []).ext E', q1, q2, q3, q4, own_litB hZ' A'.1 hmem w Lt q3, fun x hx => q5 x (hs2 x hx).2, fun G q => Go.by st' q⟩
end K
end Jvm.OwnK
namespace Jvm.Pilot.@@N@@
open Jvm Jvm.ClassFile Sem Op Lib Jvm.Free Jvm.Stand Jvm.LawKit Jvm.RoadKit Jvm.OwnK Bundle Jvm.Pilot.@@N@@.Jvm.D
theorem tw {Z : State} {a0 : Array Value} (hw : ∀ d ∈ tables_1, d.before a0 Z = true) (i : Nat) {d : Jvm.Cond} (h : tables_1[i]? = some d) : d.before a0 Z = true := hw _ (List.mem_of_getElem? h)
theorem d_method_2_0 : decode method_2_code 0 = .ok (.iload_n 0, 1) := by decide +kernel
theorem d_method_2_1 : decode method_2_code 1 = .ok (.bipush 16, 2) := by decide +kernel
theorem d_method_2_3 : decode method_2_code 3 = .ok (.iushr, 1) := by decide +kernel
theorem d_method_2_4 : decode method_2_code 4 = .ok (.sipush 32767, 3) := by decide +kernel
theorem d_method_2_7 : decode method_2_code 7 = .ok (.iand, 1) := by decide +kernel
theorem d_method_2_8 : decode method_2_code 8 = .ok (.iconst 3, 1) := by decide +kernel
theorem d_method_2_9 : decode method_2_code 9 = .ok (.irem, 1) := by decide +kernel
theorem d_method_2_10 : decode method_2_code 10 = .ok (.istore_n 1, 1) := by decide +kernel
theorem d_method_2_11 : decode method_2_code 11 = .ok (.iload_n 0, 1) := by decide +kernel
theorem d_method_2_12 : decode method_2_code 12 = .ok (.sipush 255, 3) := by decide +kernel
theorem d_method_2_15 : decode method_2_code 15 = .ok (.iand, 1) := by decide +kernel
theorem d_method_2_16 : decode method_2_code 16 = .ok (.i2c, 1) := by decide +kernel
theorem d_method_2_17 : decode method_2_code 17 = .ok (.istore_n 2, 1) := by decide +kernel
theorem d_method_2_18 : decode method_2_code 18 = .ok (.iload_n 0, 1) := by decide +kernel
theorem d_method_2_19 : decode method_2_code 19 = .ok (.bipush 8, 2) := by decide +kernel
theorem d_method_2_21 : decode method_2_code 21 = .ok (.iushr, 1) := by decide +kernel
theorem d_method_2_22 : decode method_2_code 22 = .ok (.sipush 255, 3) := by decide +kernel
theorem d_method_2_25 : decode method_2_code 25 = .ok (.iand, 1) := by decide +kernel
theorem d_method_2_26 : decode method_2_code 26 = .ok (.i2c, 1) := by decide +kernel
theorem d_method_2_27 : decode method_2_code 27 = .ok (.istore_n 3, 1) := by decide +kernel
theorem d_method_2_28 : decode method_2_code 28 = .ok (.iload_n 1, 1) := by decide +kernel
theorem d_method_2_29 : decode method_2_code 29 = .ok (.ifCond .ne 14, 3) := by decide +kernel
theorem d_method_2_32 : decode method_2_code 32 = .ok (.new 7, 3) := by decide +kernel
theorem d_method_2_35 : decode method_2_code 35 = .ok (.dup, 1) := by decide +kernel
theorem d_method_2_36 : decode method_2_code 36 = .ok (.iconst 0, 1) := by decide +kernel
theorem d_method_2_37 : decode method_2_code 37 = .ok (.newarray .char, 2) := by decide +kernel
theorem d_method_2_39 : decode method_2_code 39 = .ok (.invokespecial 9, 3) := by decide +kernel
theorem d_method_2_42 : decode method_2_code 42 = .ok (.areturn, 1) := by decide +kernel
theorem d_method_2_43 : decode method_2_code 43 = .ok (.iload_n 1, 1) := by decide +kernel
theorem d_method_2_44 : decode method_2_code 44 = .ok (.iconst 1, 1) := by decide +kernel
theorem d_method_2_45 : decode method_2_code 45 = .ok (.if_icmp .ne 8, 3) := by decide +kernel
theorem d_method_2_48 : decode method_2_code 48 = .ok (.iload_n 2, 1) := by decide +kernel
theorem d_method_2_49 : decode method_2_code 49 = .ok (.invokestatic 12, 3) := by decide +kernel
theorem d_method_2_52 : decode method_2_code 52 = .ok (.areturn, 1) := by decide +kernel
theorem d_method_2_53 : decode method_2_code 53 = .ok (.iconst 2, 1) := by decide +kernel
theorem d_method_2_54 : decode method_2_code 54 = .ok (.newarray .char, 2) := by decide +kernel
theorem d_method_2_56 : decode method_2_code 56 = .ok (.astore 4, 2) := by decide +kernel
theorem d_method_2_58 : decode method_2_code 58 = .ok (.aload 4, 2) := by decide +kernel
theorem d_method_2_60 : decode method_2_code 60 = .ok (.iconst 0, 1) := by decide +kernel
theorem d_method_2_61 : decode method_2_code 61 = .ok (.iload_n 2, 1) := by decide +kernel
theorem d_method_2_62 : decode method_2_code 62 = .ok (.castore, 1) := by decide +kernel
theorem d_method_2_63 : decode method_2_code 63 = .ok (.aload 4, 2) := by decide +kernel
theorem d_method_2_65 : decode method_2_code 65 = .ok (.iconst 1, 1) := by decide +kernel
theorem d_method_2_66 : decode method_2_code 66 = .ok (.iload_n 3, 1) := by decide +kernel
theorem d_method_2_67 : decode method_2_code 67 = .ok (.castore, 1) := by decide +kernel
theorem d_method_2_68 : decode method_2_code 68 = .ok (.new 7, 3) := by decide +kernel
theorem d_method_2_71 : decode method_2_code 71 = .ok (.dup, 1) := by decide +kernel
theorem d_method_2_72 : decode method_2_code 72 = .ok (.aload 4, 2) := by decide +kernel
theorem d_method_2_74 : decode method_2_code 74 = .ok (.invokespecial 9, 3) := by decide +kernel
theorem d_method_2_77 : decode method_2_code 77 = .ok (.areturn, 1) := by decide +kernel
theorem d_jdk_42_method_3_0 : decode jdk_42_method_3_code 0 = .ok (.aload_n 0, 1) := by decide +kernel
theorem d_jdk_42_method_3_1 : decode jdk_42_method_3_code 1 = .ok (.aload_n 1, 1) := by decide +kernel
theorem d_jdk_42_method_3_2 : decode jdk_42_method_3_code 2 = .ok (.iconst 0, 1) := by decide +kernel
theorem d_jdk_42_method_3_3 : decode jdk_42_method_3_code 3 = .ok (.aload_n 1, 1) := by decide +kernel
theorem d_jdk_42_method_3_4 : decode jdk_42_method_3_code 4 = .ok (.arraylength, 1) := by decide +kernel
theorem d_jdk_42_method_3_5 : decode jdk_42_method_3_code 5 = .ok (.aconst_null, 1) := by decide +kernel
theorem d_jdk_42_method_3_6 : decode jdk_42_method_3_code 6 = .ok (.invokespecial 27, 3) := by decide +kernel
theorem d_jdk_42_method_3_9 : decode jdk_42_method_3_code 9 = .ok (.return_, 1) := by decide +kernel
theorem d_jdk_42_method_149_0 : decode jdk_42_method_149_code 0 = .ok (.aload_n 0, 1) := by decide +kernel
theorem d_jdk_42_method_149_1 : decode jdk_42_method_149_code 1 = .ok (.invokespecial 1, 3) := by decide +kernel
theorem d_jdk_42_method_149_4 : decode jdk_42_method_149_code 4 = .ok (.iload_n 3, 1) := by decide +kernel
theorem d_jdk_42_method_149_5 : decode jdk_42_method_149_code 5 = .ok (.ifCond .ne 22, 3) := by decide +kernel
theorem d_jdk_42_method_149_8 : decode jdk_42_method_149_code 8 = .ok (.aload_n 0, 1) := by decide +kernel
theorem d_jdk_42_method_149_9 : decode jdk_42_method_149_code 9 = .ok (.ldc 7, 2) := by decide +kernel
theorem d_jdk_42_method_149_11 : decode jdk_42_method_149_code 11 = .ok (.getfield 9, 3) := by decide +kernel
theorem d_jdk_42_method_149_14 : decode jdk_42_method_149_code 14 = .ok (.putfield 9, 3) := by decide +kernel
theorem d_jdk_42_method_149_17 : decode jdk_42_method_149_code 17 = .ok (.aload_n 0, 1) := by decide +kernel
theorem d_jdk_42_method_149_18 : decode jdk_42_method_149_code 18 = .ok (.ldc 7, 2) := by decide +kernel
theorem d_jdk_42_method_149_20 : decode jdk_42_method_149_code 20 = .ok (.getfield 15, 3) := by decide +kernel
theorem d_jdk_42_method_149_23 : decode jdk_42_method_149_code 23 = .ok (.putfield 15, 3) := by decide +kernel
theorem d_jdk_42_method_149_26 : decode jdk_42_method_149_code 26 = .ok (.return_, 1) := by decide +kernel
theorem d_jdk_42_method_149_27 : decode jdk_42_method_149_code 27 = .ok (.getstatic 38, 3) := by decide +kernel
theorem d_jdk_42_method_149_30 : decode jdk_42_method_149_code 30 = .ok (.ifCond .eq 28, 3) := by decide +kernel
theorem d_jdk_42_method_149_33 : decode jdk_42_method_149_code 33 = .ok (.aload_n 1, 1) := by decide +kernel
theorem d_jdk_42_method_149_34 : decode jdk_42_method_149_code 34 = .ok (.iload_n 2, 1) := by decide +kernel
theorem d_jdk_42_method_149_35 : decode jdk_42_method_149_code 35 = .ok (.iload_n 3, 1) := by decide +kernel
theorem d_jdk_42_method_149_36 : decode jdk_42_method_149_code 36 = .ok (.invokestatic 177, 3) := by decide +kernel
theorem d_jdk_42_method_149_39 : decode jdk_42_method_149_code 39 = .ok (.astore 5, 2) := by decide +kernel
theorem d_jdk_42_method_149_41 : decode jdk_42_method_149_code 41 = .ok (.aload_n 0, 1) := by decide +kernel
theorem d_jdk_42_method_149_42 : decode jdk_42_method_149_code 42 = .ok (.aload 5, 2) := by decide +kernel
theorem d_jdk_42_method_149_44 : decode jdk_42_method_149_code 44 = .ok (.iload_n 3, 1) := by decide +kernel
theorem d_jdk_42_method_149_45 : decode jdk_42_method_149_code 45 = .ok (.invokestatic 47, 3) := by decide +kernel
theorem d_jdk_42_method_149_48 : decode jdk_42_method_149_code 48 = .ok (.putfield 15, 3) := by decide +kernel
theorem d_jdk_42_method_149_51 : decode jdk_42_method_149_code 51 = .ok (.aload_n 0, 1) := by decide +kernel
theorem d_jdk_42_method_149_52 : decode jdk_42_method_149_code 52 = .ok (.aload 5, 2) := by decide +kernel
theorem d_jdk_42_method_149_54 : decode jdk_42_method_149_code 54 = .ok (.putfield 9, 3) := by decide +kernel
theorem d_jdk_42_method_149_57 : decode jdk_42_method_149_code 57 = .ok (.return_, 1) := by decide +kernel
theorem d_jdk_42_method_149_58 : decode jdk_42_method_149_code 58 = .ok (.aload_n 0, 1) := by decide +kernel
theorem d_jdk_42_method_149_59 : decode jdk_42_method_149_code 59 = .ok (.iconst 1, 1) := by decide +kernel
theorem d_jdk_42_method_149_60 : decode jdk_42_method_149_code 60 = .ok (.putfield 15, 3) := by decide +kernel
theorem d_jdk_42_method_149_63 : decode jdk_42_method_149_code 63 = .ok (.aload_n 0, 1) := by decide +kernel
theorem d_jdk_42_method_149_64 : decode jdk_42_method_149_code 64 = .ok (.aload_n 1, 1) := by decide +kernel
theorem d_jdk_42_method_149_65 : decode jdk_42_method_149_code 65 = .ok (.iload_n 2, 1) := by decide +kernel
theorem d_jdk_42_method_149_66 : decode jdk_42_method_149_code 66 = .ok (.iload_n 3, 1) := by decide +kernel
theorem d_jdk_42_method_149_67 : decode jdk_42_method_149_code 67 = .ok (.invokestatic 180, 3) := by decide +kernel
theorem d_jdk_42_method_149_70 : decode jdk_42_method_149_code 70 = .ok (.putfield 9, 3) := by decide +kernel
theorem d_jdk_42_method_149_73 : decode jdk_42_method_149_code 73 = .ok (.return_, 1) := by decide +kernel
theorem d_prog_1_method_1_0 : decode prog_1_method_1_code 0 = .ok (.aload_n 0, 1) := by decide +kernel
theorem d_prog_1_method_1_1 : decode prog_1_method_1_code 1 = .ok (.ldc 1, 2) := by decide +kernel
theorem d_prog_1_method_1_3 : decode prog_1_method_1_code 3 = .ok (.aload_n 1, 1) := by decide +kernel
theorem d_prog_1_method_1_4 : decode prog_1_method_1_code 4 = .ok (.sipush 255, 3) := by decide +kernel
theorem d_prog_1_method_1_7 : decode prog_1_method_1_code 7 = .ok (.invokestatic 5, 3) := by decide +kernel
theorem d_prog_1_method_1_10 : decode prog_1_method_1_code 10 = .ok (.ldc 9, 2) := by decide +kernel
theorem d_prog_1_method_1_12 : decode prog_1_method_1_code 12 = .ok (.aload_n 2, 1) := by decide +kernel
theorem d_prog_1_method_1_13 : decode prog_1_method_1_code 13 = .ok (.sipush 255, 3) := by decide +kernel
theorem d_prog_1_method_1_16 : decode prog_1_method_1_code 16 = .ok (.invokestatic 5, 3) := by decide +kernel
theorem d_prog_1_method_1_19 : decode prog_1_method_1_code 19 = .ok (.ldc 11, 2) := by decide +kernel
theorem d_prog_1_method_1_21 : decode prog_1_method_1_code 21 = .ok (.aload_n 3, 1) := by decide +kernel
theorem d_prog_1_method_1_22 : decode prog_1_method_1_code 22 = .ok (.ldc 13, 2) := by decide +kernel
theorem d_prog_1_method_1_24 : decode prog_1_method_1_code 24 = .ok (.invokestatic 5, 3) := by decide +kernel
theorem d_prog_1_method_1_27 : decode prog_1_method_1_code 27 = .ok (.aconst_null, 1) := by decide +kernel
theorem d_prog_1_method_1_28 : decode prog_1_method_1_code 28 = .ok (.aconst_null, 1) := by decide +kernel
theorem d_prog_1_method_1_29 : decode prog_1_method_1_code 29 = .ok (.aconst_null, 1) := by decide +kernel
theorem d_prog_1_method_1_30 : decode prog_1_method_1_code 30 = .ok (.invokespecial 14, 3) := by decide +kernel
theorem d_prog_1_method_1_33 : decode prog_1_method_1_code 33 = .ok (.return_, 1) := by decide +kernel
theorem d_prog_1_method_12_0 : decode prog_1_method_12_code 0 = .ok (.aload_n 1, 1) := by decide +kernel
theorem d_prog_1_method_12_1 : decode prog_1_method_12_code 1 = .ok (.aload_n 0, 1) := by decide +kernel
theorem d_prog_1_method_12_2 : decode prog_1_method_12_code 2 = .ok (.invokestatic 42, 3) := by decide +kernel
theorem d_prog_1_method_12_5 : decode prog_1_method_12_code 5 = .ok (.pop, 1) := by decide +kernel
theorem d_prog_1_method_12_6 : decode prog_1_method_12_code 6 = .ok (.aload_n 1, 1) := by decide +kernel
theorem d_prog_1_method_12_7 : decode prog_1_method_12_code 7 = .ok (.getstatic 65, 3) := by decide +kernel
theorem d_prog_1_method_12_10 : decode prog_1_method_12_code 10 = .ok (.invokevirtual 71, 3) := by decide +kernel
theorem d_prog_1_method_12_13 : decode prog_1_method_12_code 13 = .ok (.arraylength, 1) := by decide +kernel
theorem d_prog_1_method_12_14 : decode prog_1_method_12_code 14 = .ok (.iload_n 2, 1) := by decide +kernel
theorem d_prog_1_method_12_15 : decode prog_1_method_12_code 15 = .ok (.if_icmp .le 18, 3) := by decide +kernel
theorem d_prog_1_method_12_18 : decode prog_1_method_12_code 18 = .ok (.new 58, 3) := by decide +kernel
theorem d_prog_1_method_12_21 : decode prog_1_method_12_code 21 = .ok (.dup, 1) := by decide +kernel
theorem d_prog_1_method_12_22 : decode prog_1_method_12_code 22 = .ok (.aload_n 0, 1) := by decide +kernel
theorem d_prog_1_method_12_23 : decode prog_1_method_12_code 23 = .ok (.iload_n 2, 1) := by decide +kernel
theorem d_prog_1_method_12_29 : decode prog_1_method_12_code 29 = .ok (.invokespecial 62, 3) := by decide +kernel
theorem d_prog_1_method_12_32 : decode prog_1_method_12_code 32 = .ok (.athrow, 1) := by decide +kernel
theorem d_prog_1_method_12_33 : decode prog_1_method_12_code 33 = .ok (.aload_n 1, 1) := by decide +kernel
theorem d_prog_1_method_12_34 : decode prog_1_method_12_code 34 = .ok (.areturn, 1) := by decide +kernel
theorem d_jdk_31_method_11_0 : decode jdk_31_method_11_code 0 = .ok (.aload_n 0, 1) := by decide +kernel
theorem d_jdk_31_method_11_1 : decode jdk_31_method_11_code 1 = .ok (.ifnonnull 12, 3) := by decide +kernel
theorem d_jdk_31_method_11_4 : decode jdk_31_method_11_code 4 = .ok (.new 84, 3) := by decide +kernel
theorem d_jdk_31_method_11_7 : decode jdk_31_method_11_code 7 = .ok (.dup, 1) := by decide +kernel
theorem d_jdk_31_method_11_8 : decode jdk_31_method_11_code 8 = .ok (.aload_n 1, 1) := by decide +kernel
theorem d_jdk_31_method_11_9 : decode jdk_31_method_11_code 9 = .ok (.invokespecial 87, 3) := by decide +kernel
theorem d_jdk_31_method_11_12 : decode jdk_31_method_11_code 12 = .ok (.athrow, 1) := by decide +kernel
theorem d_jdk_31_method_11_13 : decode jdk_31_method_11_code 13 = .ok (.aload_n 0, 1) := by decide +kernel
theorem d_jdk_31_method_11_14 : decode jdk_31_method_11_code 14 = .ok (.areturn, 1) := by decide +kernel
theorem d_jdk_42_method_64_0 : decode jdk_42_method_64_code 0 = .ok (.aload_n 1, 1) := by decide +kernel
theorem d_jdk_42_method_64_1 : decode jdk_42_method_64_code 1 = .ok (.ifnonnull 11, 3) := by decide +kernel
theorem d_jdk_42_method_64_4 : decode jdk_42_method_64_code 4 = .ok (.new 538, 3) := by decide +kernel
theorem d_jdk_42_method_64_7 : decode jdk_42_method_64_code 7 = .ok (.dup, 1) := by decide +kernel
theorem d_jdk_42_method_64_8 : decode jdk_42_method_64_code 8 = .ok (.invokespecial 540, 3) := by decide +kernel
theorem d_jdk_42_method_64_11 : decode jdk_42_method_64_code 11 = .ok (.athrow, 1) := by decide +kernel
theorem d_jdk_42_method_64_12 : decode jdk_42_method_64_code 12 = .ok (.aload_n 1, 1) := by decide +kernel
theorem d_jdk_42_method_64_13 : decode jdk_42_method_64_code 13 = .ok (.aload_n 0, 1) := by decide +kernel
theorem d_jdk_42_method_64_14 : decode jdk_42_method_64_code 14 = .ok (.invokevirtual 335, 3) := by decide +kernel
theorem d_jdk_42_method_64_17 : decode jdk_42_method_64_code 17 = .ok (.aload_n 0, 1) := by decide +kernel
theorem d_jdk_42_method_64_18 : decode jdk_42_method_64_code 18 = .ok (.getfield 9, 3) := by decide +kernel
theorem d_jdk_42_method_64_21 : decode jdk_42_method_64_code 21 = .ok (.invokestatic 535, 3) := by decide +kernel
theorem d_jdk_42_method_64_24 : decode jdk_42_method_64_code 24 = .ok (.areturn, 1) := by decide +kernel
theorem d_jdk_42_method_152_0 : decode jdk_42_method_152_code 0 = .ok (.getstatic 38, 3) := by decide +kernel
theorem d_jdk_42_method_152_3 : decode jdk_42_method_152_code 3 = .ok (.ifCond .eq 10, 3) := by decide +kernel
theorem d_jdk_42_method_152_6 : decode jdk_42_method_152_code 6 = .ok (.aload_n 0, 1) := by decide +kernel
theorem d_jdk_42_method_152_7 : decode jdk_42_method_152_code 7 = .ok (.getfield 15, 3) := by decide +kernel
theorem d_jdk_42_method_152_10 : decode jdk_42_method_152_code 10 = .ok (.goto 4, 3) := by decide +kernel
theorem d_jdk_42_method_152_13 : decode jdk_42_method_152_code 13 = .ok (.iconst 1, 1) := by decide +kernel
theorem d_jdk_42_method_152_14 : decode jdk_42_method_152_code 14 = .ok (.ireturn, 1) := by decide +kernel
theorem d_jdk_42_method_18_0 : decode jdk_42_method_18_code 0 = .ok (.aload_n 0, 1) := by decide +kernel
theorem d_jdk_42_method_18_1 : decode jdk_42_method_18_code 1 = .ok (.getstatic 86, 3) := by decide +kernel
theorem d_jdk_42_method_18_4 : decode jdk_42_method_18_code 4 = .ok (.if_acmp .ne 10, 3) := by decide +kernel
theorem d_jdk_42_method_18_7 : decode jdk_42_method_18_code 7 = .ok (.iload_n 1, 1) := by decide +kernel
theorem d_jdk_42_method_18_8 : decode jdk_42_method_18_code 8 = .ok (.aload_n 2, 1) := by decide +kernel
theorem d_jdk_42_method_18_9 : decode jdk_42_method_18_code 9 = .ok (.iconst 1, 1) := by decide +kernel
theorem d_jdk_42_method_18_10 : decode jdk_42_method_18_code 10 = .ok (.invokestatic 252, 3) := by decide +kernel
theorem d_jdk_42_method_18_13 : decode jdk_42_method_18_code 13 = .ok (.areturn, 1) := by decide +kernel
theorem d_jdk_42_method_18_14 : decode jdk_42_method_18_code 14 = .ok (.aload_n 0, 1) := by decide +kernel
theorem d_jdk_42_method_18_15 : decode jdk_42_method_18_code 15 = .ok (.getstatic 116, 3) := by decide +kernel
theorem d_jdk_42_method_18_18 : decode jdk_42_method_18_code 18 = .ok (.if_acmp .ne 9, 3) := by decide +kernel
theorem d_jdk_42_method_18_21 : decode jdk_42_method_18_code 21 = .ok (.iload_n 1, 1) := by decide +kernel
theorem d_jdk_42_method_18_22 : decode jdk_42_method_18_code 22 = .ok (.aload_n 2, 1) := by decide +kernel
theorem d_jdk_42_method_18_23 : decode jdk_42_method_18_code 23 = .ok (.invokestatic 256, 3) := by decide +kernel
theorem d_jdk_42_method_18_26 : decode jdk_42_method_18_code 26 = .ok (.areturn, 1) := by decide +kernel
theorem d_jdk_42_method_18_27 : decode jdk_42_method_18_code 27 = .ok (.aload_n 0, 1) := by decide +kernel
theorem d_jdk_42_method_18_28 : decode jdk_42_method_18_code 28 = .ok (.getstatic 123, 3) := by decide +kernel
theorem d_jdk_42_method_18_31 : decode jdk_42_method_18_code 31 = .ok (.if_acmp .ne 9, 3) := by decide +kernel
theorem d_jdk_42_method_18_34 : decode jdk_42_method_18_code 34 = .ok (.iload_n 1, 1) := by decide +kernel
theorem d_jdk_42_method_18_35 : decode jdk_42_method_18_code 35 = .ok (.aload_n 2, 1) := by decide +kernel
theorem d_jdk_42_method_18_36 : decode jdk_42_method_18_code 36 = .ok (.invokestatic 260, 3) := by decide +kernel
theorem d_jdk_42_method_18_39 : decode jdk_42_method_18_code 39 = .ok (.areturn, 1) := by decide +kernel
theorem d_jdk_42_method_18_40 : decode jdk_42_method_18_code 40 = .ok (.aload_n 0, 1) := by decide +kernel
theorem d_jdk_42_method_18_41 : decode jdk_42_method_18_code 41 = .ok (.iload_n 1, 1) := by decide +kernel
theorem d_jdk_42_method_18_42 : decode jdk_42_method_18_code 42 = .ok (.aload_n 2, 1) := by decide +kernel
theorem d_jdk_42_method_18_43 : decode jdk_42_method_18_code 43 = .ok (.iconst 1, 1) := by decide +kernel
theorem d_jdk_42_method_18_44 : decode jdk_42_method_18_code 44 = .ok (.invokestatic 263, 3) := by decide +kernel
theorem d_jdk_42_method_18_47 : decode jdk_42_method_18_code 47 = .ok (.areturn, 1) := by decide +kernel
theorem d_jdk_42_method_46_0 : decode jdk_42_method_46_code 0 = .ok (.iload_n 0, 1) := by decide +kernel
theorem d_jdk_42_method_46_1 : decode jdk_42_method_46_code 1 = .ok (.iconst 1, 1) := by decide +kernel
theorem d_jdk_42_method_46_2 : decode jdk_42_method_46_code 2 = .ok (.if_icmp .ne 9, 3) := by decide +kernel
theorem d_jdk_42_method_46_5 : decode jdk_42_method_46_code 5 = .ok (.aload_n 1, 1) := by decide +kernel
theorem d_jdk_42_method_46_6 : decode jdk_42_method_46_code 6 = .ok (.iload_n 2, 1) := by decide +kernel
theorem d_jdk_42_method_46_7 : decode jdk_42_method_46_code 7 = .ok (.invokestatic 473, 3) := by decide +kernel
theorem d_jdk_42_method_46_10 : decode jdk_42_method_46_code 10 = .ok (.areturn, 1) := by decide +kernel
theorem d_jdk_42_method_46_11 : decode jdk_42_method_46_code 11 = .ok (.aload_n 1, 1) := by decide +kernel
theorem d_jdk_42_method_46_12 : decode jdk_42_method_46_code 12 = .ok (.iconst 0, 1) := by decide +kernel
theorem d_jdk_42_method_46_13 : decode jdk_42_method_46_code 13 = .ok (.aload_n 1, 1) := by decide +kernel
theorem d_jdk_42_method_46_14 : decode jdk_42_method_46_code 14 = .ok (.arraylength, 1) := by decide +kernel
theorem d_jdk_42_method_46_15 : decode jdk_42_method_46_code 15 = .ok (.invokestatic 128, 3) := by decide +kernel
theorem d_jdk_42_method_46_18 : decode jdk_42_method_46_code 18 = .ok (.ifCond .ne 11, 3) := by decide +kernel
theorem d_jdk_42_method_46_21 : decode jdk_42_method_46_code 21 = .ok (.aload_n 1, 1) := by decide +kernel
theorem d_jdk_42_method_46_22 : decode jdk_42_method_46_code 22 = .ok (.invokevirtual 279, 3) := by decide +kernel
theorem d_jdk_42_method_46_25 : decode jdk_42_method_46_code 25 = .ok (.checkcast 280, 3) := by decide +kernel
theorem d_jdk_42_method_46_28 : decode jdk_42_method_46_code 28 = .ok (.areturn, 1) := by decide +kernel
theorem d_jdk_42_method_46_29 : decode jdk_42_method_46_code 29 = .ok (.iconst 0, 1) := by decide +kernel
theorem d_jdk_42_method_46_30 : decode jdk_42_method_46_code 30 = .ok (.istore_n 3, 1) := by decide +kernel
theorem d_jdk_42_method_46_31 : decode jdk_42_method_46_code 31 = .ok (.aload_n 1, 1) := by decide +kernel
theorem d_jdk_42_method_46_32 : decode jdk_42_method_46_code 32 = .ok (.arraylength, 1) := by decide +kernel
theorem d_jdk_42_method_46_33 : decode jdk_42_method_46_code 33 = .ok (.invokestatic 60, 3) := by decide +kernel
theorem d_jdk_42_method_46_36 : decode jdk_42_method_46_code 36 = .ok (.astore 4, 2) := by decide +kernel
theorem d_jdk_42_method_46_38 : decode jdk_42_method_46_code 38 = .ok (.aload_n 1, 1) := by decide +kernel
theorem d_jdk_42_method_46_39 : decode jdk_42_method_46_code 39 = .ok (.astore 5, 2) := by decide +kernel
theorem d_jdk_42_method_46_41 : decode jdk_42_method_46_code 41 = .ok (.aload 5, 2) := by decide +kernel
theorem d_jdk_42_method_46_43 : decode jdk_42_method_46_code 43 = .ok (.arraylength, 1) := by decide +kernel
theorem d_jdk_42_method_46_44 : decode jdk_42_method_46_code 44 = .ok (.istore 6, 2) := by decide +kernel
theorem d_jdk_42_method_46_46 : decode jdk_42_method_46_code 46 = .ok (.iconst 0, 1) := by decide +kernel
theorem d_jdk_42_method_46_47 : decode jdk_42_method_46_code 47 = .ok (.istore 7, 2) := by decide +kernel
theorem d_jdk_42_method_46_49 : decode jdk_42_method_46_code 49 = .ok (.iload 7, 2) := by decide +kernel
theorem d_jdk_42_method_46_51 : decode jdk_42_method_46_code 51 = .ok (.iload 6, 2) := by decide +kernel
theorem d_jdk_42_method_46_53 : decode jdk_42_method_46_code 53 = .ok (.if_icmp .ge 71, 3) := by decide +kernel
theorem d_jdk_42_method_46_56 : decode jdk_42_method_46_code 56 = .ok (.aload 5, 2) := by decide +kernel
theorem d_jdk_42_method_46_58 : decode jdk_42_method_46_code 58 = .ok (.iload 7, 2) := by decide +kernel
theorem d_jdk_42_method_46_60 : decode jdk_42_method_46_code 60 = .ok (.baload, 1) := by decide +kernel
theorem d_jdk_42_method_46_61 : decode jdk_42_method_46_code 61 = .ok (.istore 8, 2) := by decide +kernel
theorem d_jdk_42_method_46_63 : decode jdk_42_method_46_code 63 = .ok (.iload 8, 2) := by decide +kernel
theorem d_jdk_42_method_46_65 : decode jdk_42_method_46_code 65 = .ok (.ifCond .ge 44, 3) := by decide +kernel
theorem d_jdk_42_method_46_68 : decode jdk_42_method_46_code 68 = .ok (.aload 4, 2) := by decide +kernel
theorem d_jdk_42_method_46_70 : decode jdk_42_method_46_code 70 = .ok (.iload_n 3, 1) := by decide +kernel
theorem d_jdk_42_method_46_71 : decode jdk_42_method_46_code 71 = .ok (.iinc 3 1, 3) := by decide +kernel
theorem d_jdk_42_method_46_74 : decode jdk_42_method_46_code 74 = .ok (.sipush 192, 3) := by decide +kernel
theorem d_jdk_42_method_46_77 : decode jdk_42_method_46_code 77 = .ok (.iload 8, 2) := by decide +kernel
theorem d_jdk_42_method_46_79 : decode jdk_42_method_46_code 79 = .ok (.sipush 255, 3) := by decide +kernel
theorem d_jdk_42_method_46_82 : decode jdk_42_method_46_code 82 = .ok (.iand, 1) := by decide +kernel
theorem d_jdk_42_method_46_83 : decode jdk_42_method_46_code 83 = .ok (.bipush 6, 2) := by decide +kernel
theorem d_jdk_42_method_46_85 : decode jdk_42_method_46_code 85 = .ok (.ishr, 1) := by decide +kernel
theorem d_jdk_42_method_46_86 : decode jdk_42_method_46_code 86 = .ok (.ior, 1) := by decide +kernel
theorem d_jdk_42_method_46_87 : decode jdk_42_method_46_code 87 = .ok (.i2b, 1) := by decide +kernel
theorem d_jdk_42_method_46_88 : decode jdk_42_method_46_code 88 = .ok (.bastore, 1) := by decide +kernel
theorem d_jdk_42_method_46_89 : decode jdk_42_method_46_code 89 = .ok (.aload 4, 2) := by decide +kernel
theorem d_jdk_42_method_46_91 : decode jdk_42_method_46_code 91 = .ok (.iload_n 3, 1) := by decide +kernel
theorem d_jdk_42_method_46_92 : decode jdk_42_method_46_code 92 = .ok (.iinc 3 1, 3) := by decide +kernel
theorem d_jdk_42_method_46_95 : decode jdk_42_method_46_code 95 = .ok (.sipush 128, 3) := by decide +kernel
theorem d_jdk_42_method_46_98 : decode jdk_42_method_46_code 98 = .ok (.iload 8, 2) := by decide +kernel
theorem d_jdk_42_method_46_100 : decode jdk_42_method_46_code 100 = .ok (.bipush 63, 2) := by decide +kernel
theorem d_jdk_42_method_46_102 : decode jdk_42_method_46_code 102 = .ok (.iand, 1) := by decide +kernel
theorem d_jdk_42_method_46_103 : decode jdk_42_method_46_code 103 = .ok (.ior, 1) := by decide +kernel
theorem d_jdk_42_method_46_104 : decode jdk_42_method_46_code 104 = .ok (.i2b, 1) := by decide +kernel
theorem d_jdk_42_method_46_105 : decode jdk_42_method_46_code 105 = .ok (.bastore, 1) := by decide +kernel
theorem d_jdk_42_method_46_106 : decode jdk_42_method_46_code 106 = .ok (.goto 12, 3) := by decide +kernel
theorem d_jdk_42_method_46_109 : decode jdk_42_method_46_code 109 = .ok (.aload 4, 2) := by decide +kernel
theorem d_jdk_42_method_46_111 : decode jdk_42_method_46_code 111 = .ok (.iload_n 3, 1) := by decide +kernel
theorem d_jdk_42_method_46_112 : decode jdk_42_method_46_code 112 = .ok (.iinc 3 1, 3) := by decide +kernel
theorem d_jdk_42_method_46_115 : decode jdk_42_method_46_code 115 = .ok (.iload 8, 2) := by decide +kernel
theorem d_jdk_42_method_46_117 : decode jdk_42_method_46_code 117 = .ok (.bastore, 1) := by decide +kernel
theorem d_jdk_42_method_46_118 : decode jdk_42_method_46_code 118 = .ok (.iinc 7 1, 3) := by decide +kernel
theorem d_jdk_42_method_46_121 : decode jdk_42_method_46_code 121 = .ok (.goto (-72), 3) := by decide +kernel
theorem d_jdk_42_method_46_124 : decode jdk_42_method_46_code 124 = .ok (.iload_n 3, 1) := by decide +kernel
theorem d_jdk_42_method_46_125 : decode jdk_42_method_46_code 125 = .ok (.aload 4, 2) := by decide +kernel
theorem d_jdk_42_method_46_127 : decode jdk_42_method_46_code 127 = .ok (.arraylength, 1) := by decide +kernel
theorem d_jdk_42_method_46_128 : decode jdk_42_method_46_code 128 = .ok (.if_icmp .ne 6, 3) := by decide +kernel
theorem d_jdk_42_method_46_131 : decode jdk_42_method_46_code 131 = .ok (.aload 4, 2) := by decide +kernel
theorem d_jdk_42_method_46_133 : decode jdk_42_method_46_code 133 = .ok (.areturn, 1) := by decide +kernel
theorem d_jdk_42_method_46_134 : decode jdk_42_method_46_code 134 = .ok (.aload 4, 2) := by decide +kernel
theorem d_jdk_42_method_46_136 : decode jdk_42_method_46_code 136 = .ok (.iload_n 3, 1) := by decide +kernel
theorem d_jdk_42_method_46_137 : decode jdk_42_method_46_code 137 = .ok (.invokestatic 102, 3) := by decide +kernel
theorem d_jdk_42_method_46_140 : decode jdk_42_method_46_code 140 = .ok (.areturn, 1) := by decide +kernel
theorem d_jdk_123_method_2_0 : decode jdk_123_method_2_code 0 = .ok (.aload_n 0, 1) := by decide +kernel
theorem d_jdk_123_method_2_1 : decode jdk_123_method_2_code 1 = .ok (.iload_n 1, 1) := by decide +kernel
theorem d_jdk_123_method_2_2 : decode jdk_123_method_2_code 2 = .ok (.iload_n 2, 1) := by decide +kernel
theorem d_jdk_123_method_2_3 : decode jdk_123_method_2_code 3 = .ok (.invokestatic 7, 3) := by decide +kernel
theorem d_jdk_123_method_2_6 : decode jdk_123_method_2_code 6 = .ok (.iload_n 2, 1) := by decide +kernel
theorem d_jdk_123_method_2_7 : decode jdk_123_method_2_code 7 = .ok (.if_icmp .eq 7, 3) := by decide +kernel
theorem d_jdk_123_method_2_10 : decode jdk_123_method_2_code 10 = .ok (.iconst 1, 1) := by decide +kernel
theorem d_jdk_123_method_2_11 : decode jdk_123_method_2_code 11 = .ok (.goto 4, 3) := by decide +kernel
theorem d_jdk_123_method_2_14 : decode jdk_123_method_2_code 14 = .ok (.iconst 0, 1) := by decide +kernel
theorem d_jdk_123_method_2_15 : decode jdk_123_method_2_code 15 = .ok (.ireturn, 1) := by decide +kernel
theorem d_jdk_123_method_3_0 : decode jdk_123_method_3_code 0 = .ok (.iload_n 1, 1) := by decide +kernel
theorem d_jdk_123_method_3_1 : decode jdk_123_method_3_code 1 = .ok (.iload_n 2, 1) := by decide +kernel
theorem d_jdk_123_method_3_2 : decode jdk_123_method_3_code 2 = .ok (.iadd, 1) := by decide +kernel
theorem d_jdk_123_method_3_3 : decode jdk_123_method_3_code 3 = .ok (.istore_n 3, 1) := by decide +kernel
theorem d_jdk_123_method_3_4 : decode jdk_123_method_3_code 4 = .ok (.iload_n 1, 1) := by decide +kernel
theorem d_jdk_123_method_3_5 : decode jdk_123_method_3_code 5 = .ok (.istore 4, 2) := by decide +kernel
theorem d_jdk_123_method_3_7 : decode jdk_123_method_3_code 7 = .ok (.iload 4, 2) := by decide +kernel
theorem d_jdk_123_method_3_9 : decode jdk_123_method_3_code 9 = .ok (.iload_n 3, 1) := by decide +kernel
theorem d_jdk_123_method_3_10 : decode jdk_123_method_3_code 10 = .ok (.if_icmp .ge 21, 3) := by decide +kernel
theorem d_jdk_123_method_3_13 : decode jdk_123_method_3_code 13 = .ok (.aload_n 0, 1) := by decide +kernel
theorem d_jdk_123_method_3_14 : decode jdk_123_method_3_code 14 = .ok (.iload 4, 2) := by decide +kernel
theorem d_jdk_123_method_3_16 : decode jdk_123_method_3_code 16 = .ok (.baload, 1) := by decide +kernel
theorem d_jdk_123_method_3_17 : decode jdk_123_method_3_code 17 = .ok (.ifCond .ge 8, 3) := by decide +kernel
theorem d_jdk_123_method_3_20 : decode jdk_123_method_3_code 20 = .ok (.iload 4, 2) := by decide +kernel
theorem d_jdk_123_method_3_22 : decode jdk_123_method_3_code 22 = .ok (.iload_n 1, 1) := by decide +kernel
theorem d_jdk_123_method_3_23 : decode jdk_123_method_3_code 23 = .ok (.isub, 1) := by decide +kernel
theorem d_jdk_123_method_3_24 : decode jdk_123_method_3_code 24 = .ok (.ireturn, 1) := by decide +kernel
theorem d_jdk_123_method_3_25 : decode jdk_123_method_3_code 25 = .ok (.iinc 4 1, 3) := by decide +kernel
theorem d_jdk_123_method_3_28 : decode jdk_123_method_3_code 28 = .ok (.goto (-21), 3) := by decide +kernel
theorem d_jdk_123_method_3_31 : decode jdk_123_method_3_code 31 = .ok (.iload_n 2, 1) := by decide +kernel
theorem d_jdk_123_method_3_32 : decode jdk_123_method_3_code 32 = .ok (.ireturn, 1) := by decide +kernel
theorem d_prog_1_method_2_0 : decode prog_1_method_2_code 0 = .ok (.aload_n 0, 1) := by decide +kernel
theorem d_prog_1_method_2_1 : decode prog_1_method_2_code 1 = .ok (.invokespecial 18, 3) := by decide +kernel
theorem d_prog_1_method_2_4 : decode prog_1_method_2_code 4 = .ok (.aload_n 0, 1) := by decide +kernel
theorem d_prog_1_method_2_5 : decode prog_1_method_2_code 5 = .ok (.aload_n 1, 1) := by decide +kernel
theorem d_prog_1_method_2_6 : decode prog_1_method_2_code 6 = .ok (.putfield 23, 3) := by decide +kernel
theorem d_prog_1_method_2_9 : decode prog_1_method_2_code 9 = .ok (.aload_n 0, 1) := by decide +kernel
theorem d_prog_1_method_2_10 : decode prog_1_method_2_code 10 = .ok (.aload_n 2, 1) := by decide +kernel
theorem d_prog_1_method_2_11 : decode prog_1_method_2_code 11 = .ok (.putfield 26, 3) := by decide +kernel
theorem d_prog_1_method_2_14 : decode prog_1_method_2_code 14 = .ok (.aload_n 0, 1) := by decide +kernel
theorem d_prog_1_method_2_15 : decode prog_1_method_2_code 15 = .ok (.aload_n 3, 1) := by decide +kernel
theorem d_prog_1_method_2_16 : decode prog_1_method_2_code 16 = .ok (.putfield 29, 3) := by decide +kernel
theorem d_prog_1_method_2_19 : decode prog_1_method_2_code 19 = .ok (.aload_n 0, 1) := by decide +kernel
theorem d_prog_1_method_2_20 : decode prog_1_method_2_code 20 = .ok (.aload 4, 2) := by decide +kernel
theorem d_prog_1_method_2_22 : decode prog_1_method_2_code 22 = .ok (.putfield 31, 3) := by decide +kernel
theorem d_prog_1_method_2_25 : decode prog_1_method_2_code 25 = .ok (.aload_n 0, 1) := by decide +kernel
theorem d_prog_1_method_2_26 : decode prog_1_method_2_code 26 = .ok (.aload 5, 2) := by decide +kernel
theorem d_prog_1_method_2_28 : decode prog_1_method_2_code 28 = .ok (.putfield 34, 3) := by decide +kernel
theorem d_prog_1_method_2_31 : decode prog_1_method_2_code 31 = .ok (.aload_n 0, 1) := by decide +kernel
theorem d_prog_1_method_2_32 : decode prog_1_method_2_code 32 = .ok (.aload 6, 2) := by decide +kernel
theorem d_prog_1_method_2_34 : decode prog_1_method_2_code 34 = .ok (.putfield 37, 3) := by decide +kernel
theorem d_prog_1_method_2_37 : decode prog_1_method_2_code 37 = .ok (.return_, 1) := by decide +kernel
theorem d_prog_1_method_4_0 : decode prog_1_method_4_code 0 = .ok (.new 3, 3) := by decide +kernel
theorem d_prog_1_method_4_3 : decode prog_1_method_4_code 3 = .ok (.dup, 1) := by decide +kernel
theorem d_prog_1_method_4_4 : decode prog_1_method_4_code 4 = .ok (.aload_n 0, 1) := by decide +kernel
theorem d_prog_1_method_4_5 : decode prog_1_method_4_code 5 = .ok (.getfield 23, 3) := by decide +kernel
theorem d_prog_1_method_4_8 : decode prog_1_method_4_code 8 = .ok (.aload_n 0, 1) := by decide +kernel
theorem d_prog_1_method_4_9 : decode prog_1_method_4_code 9 = .ok (.getfield 26, 3) := by decide +kernel
theorem d_prog_1_method_4_12 : decode prog_1_method_4_code 12 = .ok (.aload_n 0, 1) := by decide +kernel
theorem d_prog_1_method_4_13 : decode prog_1_method_4_code 13 = .ok (.getfield 29, 3) := by decide +kernel
theorem d_prog_1_method_4_16 : decode prog_1_method_4_code 16 = .ok (.aload_n 0, 1) := by decide +kernel
theorem d_prog_1_method_4_17 : decode prog_1_method_4_code 17 = .ok (.getfield 31, 3) := by decide +kernel
theorem d_prog_1_method_4_20 : decode prog_1_method_4_code 20 = .ok (.aload_n 1, 1) := by decide +kernel
theorem d_prog_1_method_4_21 : decode prog_1_method_4_code 21 = .ok (.aload_n 0, 1) := by decide +kernel
theorem d_prog_1_method_4_22 : decode prog_1_method_4_code 22 = .ok (.getfield 37, 3) := by decide +kernel
theorem d_prog_1_method_4_25 : decode prog_1_method_4_code 25 = .ok (.invokespecial 14, 3) := by decide +kernel
theorem d_prog_1_method_4_28 : decode prog_1_method_4_code 28 = .ok (.areturn, 1) := by decide +kernel
theorem d_prog_1_method_5_0 : decode prog_1_method_5_code 0 = .ok (.new 3, 3) := by decide +kernel
theorem d_prog_1_method_5_3 : decode prog_1_method_5_code 3 = .ok (.dup, 1) := by decide +kernel
theorem d_prog_1_method_5_4 : decode prog_1_method_5_code 4 = .ok (.aload_n 0, 1) := by decide +kernel
theorem d_prog_1_method_5_5 : decode prog_1_method_5_code 5 = .ok (.getfield 23, 3) := by decide +kernel
theorem d_prog_1_method_5_8 : decode prog_1_method_5_code 8 = .ok (.aload_n 0, 1) := by decide +kernel
theorem d_prog_1_method_5_9 : decode prog_1_method_5_code 9 = .ok (.getfield 26, 3) := by decide +kernel
theorem d_prog_1_method_5_12 : decode prog_1_method_5_code 12 = .ok (.aload_n 0, 1) := by decide +kernel
theorem d_prog_1_method_5_13 : decode prog_1_method_5_code 13 = .ok (.getfield 29, 3) := by decide +kernel
theorem d_prog_1_method_5_16 : decode prog_1_method_5_code 16 = .ok (.aload_n 0, 1) := by decide +kernel
theorem d_prog_1_method_5_17 : decode prog_1_method_5_code 17 = .ok (.getfield 31, 3) := by decide +kernel
theorem d_prog_1_method_5_20 : decode prog_1_method_5_code 20 = .ok (.aload_n 0, 1) := by decide +kernel
theorem d_prog_1_method_5_21 : decode prog_1_method_5_code 21 = .ok (.getfield 34, 3) := by decide +kernel
theorem d_prog_1_method_5_24 : decode prog_1_method_5_code 24 = .ok (.aload_n 1, 1) := by decide +kernel
theorem d_prog_1_method_5_25 : decode prog_1_method_5_code 25 = .ok (.invokespecial 14, 3) := by decide +kernel
theorem d_prog_1_method_5_28 : decode prog_1_method_5_code 28 = .ok (.areturn, 1) := by decide +kernel
theorem d_prog_1_method_11_0 : decode prog_1_method_11_code 0 = .ok (.aload_n 0, 1) := by decide +kernel
theorem d_prog_1_method_11_1 : decode prog_1_method_11_code 1 = .ok (.getfield 37, 3) := by decide +kernel
theorem d_prog_1_method_11_4 : decode prog_1_method_11_code 4 = .ok (.areturn, 1) := by decide +kernel
theorem d_method_3_0 : decode method_3_code 0 = .ok (.aload_n 0, 1) := by decide +kernel
theorem d_method_3_1 : decode method_3_code 1 = .ok (.ifnonnull 13, 3) := by decide +kernel
theorem d_method_3_4 : decode method_3_code 4 = .ok (.aload_n 1, 1) := by decide +kernel
theorem d_method_3_5 : decode method_3_code 5 = .ok (.ifnonnull 7, 3) := by decide +kernel
theorem d_method_3_8 : decode method_3_code 8 = .ok (.iconst 1, 1) := by decide +kernel
theorem d_method_3_9 : decode method_3_code 9 = .ok (.goto 4, 3) := by decide +kernel
theorem d_method_3_12 : decode method_3_code 12 = .ok (.iconst 0, 1) := by decide +kernel
theorem d_method_3_13 : decode method_3_code 13 = .ok (.ireturn, 1) := by decide +kernel
theorem d_method_3_14 : decode method_3_code 14 = .ok (.aload_n 1, 1) := by decide +kernel
theorem d_method_3_15 : decode method_3_code 15 = .ok (.ifnonnull 5, 3) := by decide +kernel
theorem d_method_3_18 : decode method_3_code 18 = .ok (.iconst 0, 1) := by decide +kernel
theorem d_method_3_19 : decode method_3_code 19 = .ok (.ireturn, 1) := by decide +kernel
theorem d_method_3_20 : decode method_3_code 20 = .ok (.aload_n 0, 1) := by decide +kernel
theorem d_method_3_21 : decode method_3_code 21 = .ok (.aload_n 1, 1) := by decide +kernel
theorem d_method_3_22 : decode method_3_code 22 = .ok (.invokevirtual 16, 3) := by decide +kernel
theorem d_method_3_25 : decode method_3_code 25 = .ok (.ireturn, 1) := by decide +kernel
theorem d_prog_1_method_6_0 : decode prog_1_method_6_code 0 = .ok (.aload_n 0, 1) := by decide +kernel
theorem d_prog_1_method_6_1 : decode prog_1_method_6_code 1 = .ok (.getfield 23, 3) := by decide +kernel
theorem d_prog_1_method_6_4 : decode prog_1_method_6_code 4 = .ok (.areturn, 1) := by decide +kernel
theorem d_jdk_42_method_66_0 : decode jdk_42_method_66_code 0 = .ok (.aload_n 0, 1) := by decide +kernel
theorem d_jdk_42_method_66_1 : decode jdk_42_method_66_code 1 = .ok (.aload_n 1, 1) := by decide +kernel
theorem d_jdk_42_method_66_2 : decode jdk_42_method_66_code 2 = .ok (.if_acmp .ne 5, 3) := by decide +kernel
theorem d_jdk_42_method_66_5 : decode jdk_42_method_66_code 5 = .ok (.iconst 1, 1) := by decide +kernel
theorem d_jdk_42_method_66_6 : decode jdk_42_method_66_code 6 = .ok (.ireturn, 1) := by decide +kernel
theorem d_jdk_42_method_66_7 : decode jdk_42_method_66_code 7 = .ok (.aload_n 1, 1) := by decide +kernel
theorem d_jdk_42_method_66_8 : decode jdk_42_method_66_code 8 = .ok (.instanceof 10, 3) := by decide +kernel
theorem d_jdk_42_method_66_11 : decode jdk_42_method_66_code 11 = .ok (.ifCond .eq 43, 3) := by decide +kernel
theorem d_jdk_42_method_66_14 : decode jdk_42_method_66_code 14 = .ok (.aload_n 1, 1) := by decide +kernel
theorem d_jdk_42_method_66_15 : decode jdk_42_method_66_code 15 = .ok (.checkcast 10, 3) := by decide +kernel
theorem d_jdk_42_method_66_18 : decode jdk_42_method_66_code 18 = .ok (.astore_n 2, 1) := by decide +kernel
theorem d_jdk_42_method_66_19 : decode jdk_42_method_66_code 19 = .ok (.getstatic 38, 3) := by decide +kernel
theorem d_jdk_42_method_66_22 : decode jdk_42_method_66_code 22 = .ok (.ifCond .eq 14, 3) := by decide +kernel
theorem d_jdk_42_method_66_25 : decode jdk_42_method_66_code 25 = .ok (.aload_n 0, 1) := by decide +kernel
theorem d_jdk_42_method_66_26 : decode jdk_42_method_66_code 26 = .ok (.getfield 15, 3) := by decide +kernel
theorem d_jdk_42_method_66_29 : decode jdk_42_method_66_code 29 = .ok (.aload_n 2, 1) := by decide +kernel
theorem d_jdk_42_method_66_30 : decode jdk_42_method_66_code 30 = .ok (.getfield 15, 3) := by decide +kernel
theorem d_jdk_42_method_66_33 : decode jdk_42_method_66_code 33 = .ok (.if_icmp .ne 21, 3) := by decide +kernel
theorem d_jdk_42_method_66_36 : decode jdk_42_method_66_code 36 = .ok (.aload_n 0, 1) := by decide +kernel
theorem d_jdk_42_method_66_37 : decode jdk_42_method_66_code 37 = .ok (.getfield 9, 3) := by decide +kernel
theorem d_jdk_42_method_66_40 : decode jdk_42_method_66_code 40 = .ok (.aload_n 2, 1) := by decide +kernel
theorem d_jdk_42_method_66_41 : decode jdk_42_method_66_code 41 = .ok (.getfield 9, 3) := by decide +kernel
theorem d_jdk_42_method_66_44 : decode jdk_42_method_66_code 44 = .ok (.invokestatic 541, 3) := by decide +kernel
theorem d_jdk_42_method_66_47 : decode jdk_42_method_66_code 47 = .ok (.ifCond .eq 7, 3) := by decide +kernel
theorem d_jdk_42_method_66_50 : decode jdk_42_method_66_code 50 = .ok (.iconst 1, 1) := by decide +kernel
theorem d_jdk_42_method_66_51 : decode jdk_42_method_66_code 51 = .ok (.goto 4, 3) := by decide +kernel
theorem d_jdk_42_method_66_54 : decode jdk_42_method_66_code 54 = .ok (.iconst 0, 1) := by decide +kernel
theorem d_jdk_42_method_66_55 : decode jdk_42_method_66_code 55 = .ok (.ireturn, 1) := by decide +kernel
theorem d_prog_1_method_7_0 : decode prog_1_method_7_code 0 = .ok (.aload_n 0, 1) := by decide +kernel
theorem d_prog_1_method_7_1 : decode prog_1_method_7_code 1 = .ok (.getfield 26, 3) := by decide +kernel
theorem d_prog_1_method_7_4 : decode prog_1_method_7_code 4 = .ok (.areturn, 1) := by decide +kernel
theorem d_prog_1_method_8_0 : decode prog_1_method_8_code 0 = .ok (.aload_n 0, 1) := by decide +kernel
theorem d_prog_1_method_8_1 : decode prog_1_method_8_code 1 = .ok (.getfield 29, 3) := by decide +kernel
theorem d_prog_1_method_8_4 : decode prog_1_method_8_code 4 = .ok (.areturn, 1) := by decide +kernel
theorem d_prog_1_method_9_0 : decode prog_1_method_9_code 0 = .ok (.aload_n 0, 1) := by decide +kernel
theorem d_prog_1_method_9_1 : decode prog_1_method_9_code 1 = .ok (.getfield 31, 3) := by decide +kernel
theorem d_prog_1_method_9_4 : decode prog_1_method_9_code 4 = .ok (.areturn, 1) := by decide +kernel
theorem d_prog_1_method_10_0 : decode prog_1_method_10_code 0 = .ok (.aload_n 0, 1) := by decide +kernel
theorem d_prog_1_method_10_1 : decode prog_1_method_10_code 1 = .ok (.getfield 34, 3) := by decide +kernel
theorem d_prog_1_method_10_4 : decode prog_1_method_10_code 4 = .ok (.areturn, 1) := by decide +kernel
theorem d_jdk_52_method_16_0 : decode jdk_52_method_16_code 0 = .ok (.iload_n 2, 1) := by decide +kernel
theorem d_jdk_52_method_16_1 : decode jdk_52_method_16_code 1 = .ok (.newarray .byte, 2) := by decide +kernel
theorem d_jdk_52_method_16_3 : decode jdk_52_method_16_code 3 = .ok (.astore_n 3, 1) := by decide +kernel
theorem d_jdk_52_method_16_4 : decode jdk_52_method_16_code 4 = .ok (.aload_n 0, 1) := by decide +kernel
theorem d_jdk_52_method_16_5 : decode jdk_52_method_16_code 5 = .ok (.iload_n 1, 1) := by decide +kernel
theorem d_jdk_52_method_16_6 : decode jdk_52_method_16_code 6 = .ok (.aload_n 3, 1) := by decide +kernel
theorem d_jdk_52_method_16_7 : decode jdk_52_method_16_code 7 = .ok (.iconst 0, 1) := by decide +kernel
theorem d_jdk_52_method_16_8 : decode jdk_52_method_16_code 8 = .ok (.iload_n 2, 1) := by decide +kernel
theorem d_jdk_52_method_16_9 : decode jdk_52_method_16_code 9 = .ok (.invokestatic 115, 3) := by decide +kernel
theorem d_jdk_52_method_16_12 : decode jdk_52_method_16_code 12 = .ok (.istore 4, 2) := by decide +kernel
theorem d_jdk_52_method_16_14 : decode jdk_52_method_16_code 14 = .ok (.iload 4, 2) := by decide +kernel
theorem d_jdk_52_method_16_16 : decode jdk_52_method_16_code 16 = .ok (.iload_n 2, 1) := by decide +kernel
theorem d_jdk_52_method_16_17 : decode jdk_52_method_16_code 17 = .ok (.if_icmp .eq 40, 3) := by decide +kernel
theorem d_jdk_52_method_16_20 : decode jdk_52_method_16_code 20 = .ok (.aload_n 0, 1) := by decide +kernel
theorem d_jdk_52_method_16_21 : decode jdk_52_method_16_code 21 = .ok (.iload_n 1, 1) := by decide +kernel
theorem d_jdk_52_method_16_22 : decode jdk_52_method_16_code 22 = .ok (.iload_n 2, 1) := by decide +kernel
theorem d_jdk_52_method_16_23 : decode jdk_52_method_16_code 23 = .ok (.invokestatic 119, 3) := by decide +kernel
theorem d_jdk_52_method_16_26 : decode jdk_52_method_16_code 26 = .ok (.astore 5, 2) := by decide +kernel
theorem d_jdk_52_method_16_28 : decode jdk_52_method_16_code 28 = .ok (.aload 5, 2) := by decide +kernel
theorem d_jdk_52_method_16_30 : decode jdk_52_method_16_code 30 = .ok (.iload 4, 2) := by decide +kernel
theorem d_jdk_52_method_16_32 : decode jdk_52_method_16_code 32 = .ok (.invokestatic 71, 3) := by decide +kernel
theorem d_jdk_52_method_16_35 : decode jdk_52_method_16_code 35 = .ok (.sipush 255, 3) := by decide +kernel
theorem d_jdk_52_method_16_38 : decode jdk_52_method_16_code 38 = .ok (.if_icmp .gt 16, 3) := by decide +kernel
theorem d_jdk_52_method_16_41 : decode jdk_52_method_16_code 41 = .ok (.aload 5, 2) := by decide +kernel
theorem d_jdk_52_method_16_43 : decode jdk_52_method_16_code 43 = .ok (.iconst 0, 1) := by decide +kernel
theorem d_jdk_52_method_16_44 : decode jdk_52_method_16_code 44 = .ok (.aload_n 3, 1) := by decide +kernel
theorem d_jdk_52_method_16_45 : decode jdk_52_method_16_code 45 = .ok (.iconst 0, 1) := by decide +kernel
theorem d_jdk_52_method_16_46 : decode jdk_52_method_16_code 46 = .ok (.iload_n 2, 1) := by decide +kernel
theorem d_jdk_52_method_16_47 : decode jdk_52_method_16_code 47 = .ok (.invokestatic 123, 3) := by decide +kernel
theorem d_jdk_52_method_16_50 : decode jdk_52_method_16_code 50 = .ok (.iload_n 2, 1) := by decide +kernel
theorem d_jdk_52_method_16_51 : decode jdk_52_method_16_code 51 = .ok (.if_icmp .eq 6, 3) := by decide +kernel
theorem d_jdk_52_method_16_54 : decode jdk_52_method_16_code 54 = .ok (.aload 5, 2) := by decide +kernel
theorem d_jdk_52_method_16_56 : decode jdk_52_method_16_code 56 = .ok (.areturn, 1) := by decide +kernel
theorem d_jdk_52_method_16_57 : decode jdk_52_method_16_code 57 = .ok (.aload_n 3, 1) := by decide +kernel
theorem d_jdk_52_method_16_58 : decode jdk_52_method_16_code 58 = .ok (.areturn, 1) := by decide +kernel
theorem d_jdk_52_method_21_0 : decode jdk_52_method_21_code 0 = .ok (.iconst 0, 1) := by decide +kernel
theorem d_jdk_52_method_21_1 : decode jdk_52_method_21_code 1 = .ok (.istore 5, 2) := by decide +kernel
theorem d_jdk_52_method_21_3 : decode jdk_52_method_21_code 3 = .ok (.iload 5, 2) := by decide +kernel
theorem d_jdk_52_method_21_5 : decode jdk_52_method_21_code 5 = .ok (.iload 4, 2) := by decide +kernel
theorem d_jdk_52_method_21_7 : decode jdk_52_method_21_code 7 = .ok (.if_icmp .ge 37, 3) := by decide +kernel
theorem d_jdk_52_method_21_10 : decode jdk_52_method_21_code 10 = .ok (.aload_n 0, 1) := by decide +kernel
theorem d_jdk_52_method_21_11 : decode jdk_52_method_21_code 11 = .ok (.iload_n 1, 1) := by decide +kernel
theorem d_jdk_52_method_21_12 : decode jdk_52_method_21_code 12 = .ok (.caload, 1) := by decide +kernel
theorem d_jdk_52_method_21_13 : decode jdk_52_method_21_code 13 = .ok (.istore 6, 2) := by decide +kernel
theorem d_jdk_52_method_21_15 : decode jdk_52_method_21_code 15 = .ok (.iload 6, 2) := by decide +kernel
theorem d_jdk_52_method_21_17 : decode jdk_52_method_21_code 17 = .ok (.sipush 255, 3) := by decide +kernel
theorem d_jdk_52_method_21_20 : decode jdk_52_method_21_code 20 = .ok (.if_icmp .le 6, 3) := by decide +kernel
theorem d_jdk_52_method_21_23 : decode jdk_52_method_21_code 23 = .ok (.iload 5, 2) := by decide +kernel
theorem d_jdk_52_method_21_25 : decode jdk_52_method_21_code 25 = .ok (.ireturn, 1) := by decide +kernel
theorem d_jdk_52_method_21_26 : decode jdk_52_method_21_code 26 = .ok (.aload_n 2, 1) := by decide +kernel
theorem d_jdk_52_method_21_27 : decode jdk_52_method_21_code 27 = .ok (.iload_n 3, 1) := by decide +kernel
theorem d_jdk_52_method_21_28 : decode jdk_52_method_21_code 28 = .ok (.iload 6, 2) := by decide +kernel
theorem d_jdk_52_method_21_30 : decode jdk_52_method_21_code 30 = .ok (.i2b, 1) := by decide +kernel
theorem d_jdk_52_method_21_31 : decode jdk_52_method_21_code 31 = .ok (.bastore, 1) := by decide +kernel
theorem d_jdk_52_method_21_32 : decode jdk_52_method_21_code 32 = .ok (.iinc 1 1, 3) := by decide +kernel
theorem d_jdk_52_method_21_35 : decode jdk_52_method_21_code 35 = .ok (.iinc 3 1, 3) := by decide +kernel
theorem d_jdk_52_method_21_38 : decode jdk_52_method_21_code 38 = .ok (.iinc 5 1, 3) := by decide +kernel
theorem d_jdk_52_method_21_41 : decode jdk_52_method_21_code 41 = .ok (.goto (-38), 3) := by decide +kernel
theorem d_jdk_52_method_21_44 : decode jdk_52_method_21_code 44 = .ok (.iload 4, 2) := by decide +kernel
theorem d_jdk_52_method_21_46 : decode jdk_52_method_21_code 46 = .ok (.ireturn, 1) := by decide +kernel
theorem d_jdk_52_method_15_0 : decode jdk_52_method_15_code 0 = .ok (.iload_n 1, 1) := by decide +kernel
theorem d_jdk_52_method_15_1 : decode jdk_52_method_15_code 1 = .ok (.aload_n 0, 1) := by decide +kernel
theorem d_jdk_52_method_15_2 : decode jdk_52_method_15_code 2 = .ok (.arraylength, 1) := by decide +kernel
theorem d_jdk_52_method_15_3 : decode jdk_52_method_15_code 3 = .ok (.isub, 1) := by decide +kernel
theorem d_jdk_52_method_15_4 : decode jdk_52_method_15_code 4 = .ok (.bipush 31, 2) := by decide +kernel
theorem d_jdk_52_method_15_6 : decode jdk_52_method_15_code 6 = .ok (.iushr, 1) := by decide +kernel
theorem d_jdk_52_method_15_7 : decode jdk_52_method_15_code 7 = .ok (.i2b, 1) := by decide +kernel
theorem d_jdk_52_method_15_8 : decode jdk_52_method_15_code 8 = .ok (.ireturn, 1) := by decide +kernel
theorem d_jdk_42_method_139_0 : decode jdk_42_method_139_code 0 = .ok (.getstatic 38, 3) := by decide +kernel
theorem d_jdk_42_method_139_3 : decode jdk_42_method_139_code 3 = .ok (.ifCond .eq 23, 3) := by decide +kernel
theorem d_jdk_42_method_139_6 : decode jdk_42_method_139_code 6 = .ok (.iload_n 0, 1) := by decide +kernel
theorem d_jdk_42_method_139_7 : decode jdk_42_method_139_code 7 = .ok (.invokestatic 1015, 3) := by decide +kernel
theorem d_jdk_42_method_139_10 : decode jdk_42_method_139_code 10 = .ok (.ifCond .eq 16, 3) := by decide +kernel
theorem d_jdk_42_method_139_13 : decode jdk_42_method_139_code 13 = .ok (.new 10, 3) := by decide +kernel
theorem d_jdk_42_method_139_16 : decode jdk_42_method_139_code 16 = .ok (.dup, 1) := by decide +kernel
theorem d_jdk_42_method_139_17 : decode jdk_42_method_139_code 17 = .ok (.iload_n 0, 1) := by decide +kernel
theorem d_jdk_42_method_139_18 : decode jdk_42_method_139_code 18 = .ok (.invokestatic 1018, 3) := by decide +kernel
theorem d_jdk_42_method_139_21 : decode jdk_42_method_139_code 21 = .ok (.iconst 0, 1) := by decide +kernel
theorem d_jdk_42_method_139_22 : decode jdk_42_method_139_code 22 = .ok (.invokespecial 209, 3) := by decide +kernel
theorem d_jdk_42_method_139_25 : decode jdk_42_method_139_code 25 = .ok (.areturn, 1) := by decide +kernel
theorem d_jdk_42_method_139_26 : decode jdk_42_method_139_code 26 = .ok (.new 10, 3) := by decide +kernel
theorem d_jdk_42_method_139_29 : decode jdk_42_method_139_code 29 = .ok (.dup, 1) := by decide +kernel
theorem d_jdk_42_method_139_30 : decode jdk_42_method_139_code 30 = .ok (.iload_n 0, 1) := by decide +kernel
theorem d_jdk_42_method_139_31 : decode jdk_42_method_139_code 31 = .ok (.invokestatic 1021, 3) := by decide +kernel
theorem d_jdk_42_method_139_34 : decode jdk_42_method_139_code 34 = .ok (.iconst 1, 1) := by decide +kernel
theorem d_jdk_42_method_139_35 : decode jdk_42_method_139_code 35 = .ok (.invokespecial 209, 3) := by decide +kernel
theorem d_jdk_42_method_139_38 : decode jdk_42_method_139_code 38 = .ok (.areturn, 1) := by decide +kernel
theorem d_jdk_43_method_3_0 : decode jdk_43_method_3_code 0 = .ok (.iload_n 0, 1) := by decide +kernel
theorem d_jdk_43_method_3_1 : decode jdk_43_method_3_code 1 = .ok (.sipush 255, 3) := by decide +kernel
theorem d_jdk_43_method_3_4 : decode jdk_43_method_3_code 4 = .ok (.if_icmp .gt 7, 3) := by decide +kernel
theorem d_jdk_43_method_3_7 : decode jdk_43_method_3_code 7 = .ok (.iconst 1, 1) := by decide +kernel
theorem d_jdk_43_method_3_8 : decode jdk_43_method_3_code 8 = .ok (.goto 4, 3) := by decide +kernel
theorem d_jdk_43_method_3_11 : decode jdk_43_method_3_code 11 = .ok (.iconst 0, 1) := by decide +kernel
theorem d_jdk_43_method_3_12 : decode jdk_43_method_3_code 12 = .ok (.ireturn, 1) := by decide +kernel
theorem d_jdk_43_method_46_0 : decode jdk_43_method_46_code 0 = .ok (.iconst 1, 1) := by decide +kernel
theorem d_jdk_43_method_46_1 : decode jdk_43_method_46_code 1 = .ok (.newarray .byte, 2) := by decide +kernel
theorem d_jdk_43_method_46_3 : decode jdk_43_method_46_code 3 = .ok (.dup, 1) := by decide +kernel
theorem d_jdk_43_method_46_4 : decode jdk_43_method_46_code 4 = .ok (.iconst 0, 1) := by decide +kernel
theorem d_jdk_43_method_46_5 : decode jdk_43_method_46_code 5 = .ok (.iload_n 0, 1) := by decide +kernel
theorem d_jdk_43_method_46_6 : decode jdk_43_method_46_code 6 = .ok (.i2b, 1) := by decide +kernel
theorem d_jdk_43_method_46_7 : decode jdk_43_method_46_code 7 = .ok (.bastore, 1) := by decide +kernel
theorem d_jdk_43_method_46_8 : decode jdk_43_method_46_code 8 = .ok (.areturn, 1) := by decide +kernel
theorem d_jdk_42_method_151_0 : decode jdk_42_method_151_code 0 = .ok (.aload_n 0, 1) := by decide +kernel
theorem d_jdk_42_method_151_1 : decode jdk_42_method_151_code 1 = .ok (.invokespecial 1, 3) := by decide +kernel
theorem d_jdk_42_method_151_4 : decode jdk_42_method_151_code 4 = .ok (.aload_n 0, 1) := by decide +kernel
theorem d_jdk_42_method_151_5 : decode jdk_42_method_151_code 5 = .ok (.aload_n 1, 1) := by decide +kernel
theorem d_jdk_42_method_151_6 : decode jdk_42_method_151_code 6 = .ok (.putfield 9, 3) := by decide +kernel
theorem d_jdk_42_method_151_9 : decode jdk_42_method_151_code 9 = .ok (.aload_n 0, 1) := by decide +kernel
theorem d_jdk_42_method_151_10 : decode jdk_42_method_151_code 10 = .ok (.iload_n 2, 1) := by decide +kernel
theorem d_jdk_42_method_151_11 : decode jdk_42_method_151_code 11 = .ok (.putfield 15, 3) := by decide +kernel
theorem d_jdk_42_method_151_14 : decode jdk_42_method_151_code 14 = .ok (.return_, 1) := by decide +kernel
theorem d_jdk_52_method_2_0 : decode jdk_52_method_2_code 0 = .ok (.iload_n 0, 1) := by decide +kernel
theorem d_jdk_52_method_2_1 : decode jdk_52_method_2_code 1 = .ok (.invokestatic 11, 3) := by decide +kernel
theorem d_jdk_52_method_2_4 : decode jdk_52_method_2_code 4 = .ok (.newarray .byte, 2) := by decide +kernel
theorem d_jdk_52_method_2_6 : decode jdk_52_method_2_code 6 = .ok (.areturn, 1) := by decide +kernel
theorem d_jdk_52_method_3_0 : decode jdk_52_method_3_code 0 = .ok (.iload_n 0, 1) := by decide +kernel
theorem d_jdk_52_method_3_1 : decode jdk_52_method_3_code 1 = .ok (.ifCond .ge 11, 3) := by decide +kernel
theorem d_jdk_52_method_3_4 : decode jdk_52_method_3_code 4 = .ok (.new 17, 3) := by decide +kernel
theorem d_jdk_52_method_3_7 : decode jdk_52_method_3_code 7 = .ok (.dup, 1) := by decide +kernel
theorem d_jdk_52_method_3_8 : decode jdk_52_method_3_code 8 = .ok (.invokespecial 19, 3) := by decide +kernel
theorem d_jdk_52_method_3_11 : decode jdk_52_method_3_code 11 = .ok (.athrow, 1) := by decide +kernel
theorem d_jdk_52_method_3_12 : decode jdk_52_method_3_code 12 = .ok (.iload_n 0, 1) := by decide +kernel
theorem d_jdk_52_method_3_13 : decode jdk_52_method_3_code 13 = .ok (.ldc 20, 2) := by decide +kernel
theorem d_jdk_52_method_3_15 : decode jdk_52_method_3_code 15 = .ok (.if_icmp .lt 40, 3) := by decide +kernel
theorem d_jdk_52_method_3_18 : decode jdk_52_method_3_code 18 = .ok (.new 21, 3) := by decide +kernel
theorem d_jdk_52_method_3_21 : decode jdk_52_method_3_code 21 = .ok (.dup, 1) := by decide +kernel
theorem d_jdk_52_method_3_22 : decode jdk_52_method_3_code 22 = .ok (.new 23, 3) := by decide +kernel
theorem d_jdk_52_method_3_25 : decode jdk_52_method_3_code 25 = .ok (.dup, 1) := by decide +kernel
theorem d_jdk_52_method_3_26 : decode jdk_52_method_3_code 26 = .ok (.invokespecial 25, 3) := by decide +kernel
theorem d_jdk_52_method_3_29 : decode jdk_52_method_3_code 29 = .ok (.ldc 26, 2) := by decide +kernel
theorem d_jdk_52_method_3_31 : decode jdk_52_method_3_code 31 = .ok (.invokevirtual 28, 3) := by decide +kernel
theorem d_jdk_52_method_3_34 : decode jdk_52_method_3_code 34 = .ok (.iload_n 0, 1) := by decide +kernel
theorem d_jdk_52_method_3_35 : decode jdk_52_method_3_code 35 = .ok (.invokevirtual 32, 3) := by decide +kernel
theorem d_jdk_52_method_3_38 : decode jdk_52_method_3_code 38 = .ok (.ldc 35, 2) := by decide +kernel
theorem d_jdk_52_method_3_40 : decode jdk_52_method_3_code 40 = .ok (.invokevirtual 28, 3) := by decide +kernel
theorem d_jdk_52_method_3_43 : decode jdk_52_method_3_code 43 = .ok (.ldc 20, 2) := by decide +kernel
theorem d_jdk_52_method_3_45 : decode jdk_52_method_3_code 45 = .ok (.invokevirtual 32, 3) := by decide +kernel
theorem d_jdk_52_method_3_48 : decode jdk_52_method_3_code 48 = .ok (.invokevirtual 37, 3) := by decide +kernel
theorem d_jdk_52_method_3_51 : decode jdk_52_method_3_code 51 = .ok (.invokespecial 41, 3) := by decide +kernel
theorem d_jdk_52_method_3_54 : decode jdk_52_method_3_code 54 = .ok (.athrow, 1) := by decide +kernel
theorem d_jdk_52_method_3_55 : decode jdk_52_method_3_code 55 = .ok (.iload_n 0, 1) := by decide +kernel
theorem d_jdk_52_method_3_56 : decode jdk_52_method_3_code 56 = .ok (.iconst 1, 1) := by decide +kernel
theorem d_jdk_52_method_3_57 : decode jdk_52_method_3_code 57 = .ok (.ishl, 1) := by decide +kernel
theorem d_jdk_52_method_3_58 : decode jdk_52_method_3_code 58 = .ok (.ireturn, 1) := by decide +kernel
theorem d_jdk_65_method_121_0 : decode jdk_65_method_121_code 0 = .ok (.iload_n 1, 1) := by decide +kernel
theorem d_jdk_65_method_121_1 : decode jdk_65_method_121_code 1 = .ok (.aload_n 0, 1) := by decide +kernel
theorem d_jdk_65_method_121_2 : decode jdk_65_method_121_code 2 = .ok (.arraylength, 1) := by decide +kernel
theorem d_jdk_65_method_121_3 : decode jdk_65_method_121_code 3 = .ok (.if_icmp .ne 11, 3) := by decide +kernel
theorem d_jdk_65_method_121_6 : decode jdk_65_method_121_code 6 = .ok (.aload_n 0, 1) := by decide +kernel
theorem d_jdk_65_method_121_7 : decode jdk_65_method_121_code 7 = .ok (.invokevirtual 310, 3) := by decide +kernel
theorem d_jdk_65_method_121_10 : decode jdk_65_method_121_code 10 = .ok (.checkcast 311, 3) := by decide +kernel
theorem d_jdk_65_method_121_13 : decode jdk_65_method_121_code 13 = .ok (.areturn, 1) := by decide +kernel
theorem d_jdk_65_method_121_14 : decode jdk_65_method_121_code 14 = .ok (.iload_n 1, 1) := by decide +kernel
theorem d_jdk_65_method_121_15 : decode jdk_65_method_121_code 15 = .ok (.newarray .byte, 2) := by decide +kernel
theorem d_jdk_65_method_121_17 : decode jdk_65_method_121_code 17 = .ok (.astore_n 2, 1) := by decide +kernel
theorem d_jdk_65_method_121_18 : decode jdk_65_method_121_code 18 = .ok (.aload_n 0, 1) := by decide +kernel
theorem d_jdk_65_method_121_19 : decode jdk_65_method_121_code 19 = .ok (.iconst 0, 1) := by decide +kernel
theorem d_jdk_65_method_121_20 : decode jdk_65_method_121_code 20 = .ok (.aload_n 2, 1) := by decide +kernel
theorem d_jdk_65_method_121_21 : decode jdk_65_method_121_code 21 = .ok (.iconst 0, 1) := by decide +kernel
theorem d_jdk_65_method_121_22 : decode jdk_65_method_121_code 22 = .ok (.aload_n 0, 1) := by decide +kernel
theorem d_jdk_65_method_121_23 : decode jdk_65_method_121_code 23 = .ok (.arraylength, 1) := by decide +kernel
theorem d_jdk_65_method_121_24 : decode jdk_65_method_121_code 24 = .ok (.iload_n 1, 1) := by decide +kernel
theorem d_jdk_65_method_121_25 : decode jdk_65_method_121_code 25 = .ok (.invokestatic 304, 3) := by decide +kernel
theorem d_jdk_65_method_121_28 : decode jdk_65_method_121_code 28 = .ok (.invokestatic 150, 3) := by decide +kernel
theorem d_jdk_65_method_121_31 : decode jdk_65_method_121_code 31 = .ok (.aload_n 2, 1) := by decide +kernel
theorem d_jdk_65_method_121_32 : decode jdk_65_method_121_code 32 = .ok (.areturn, 1) := by decide +kernel
theorem d_jdk_29_method_69_0 : decode jdk_29_method_69_code 0 = .ok (.iload_n 0, 1) := by decide +kernel
theorem d_jdk_29_method_69_1 : decode jdk_29_method_69_code 1 = .ok (.iload_n 1, 1) := by decide +kernel
theorem d_jdk_29_method_69_2 : decode jdk_29_method_69_code 2 = .ok (.if_icmp .gt 7, 3) := by decide +kernel
theorem d_jdk_29_method_69_5 : decode jdk_29_method_69_code 5 = .ok (.iload_n 0, 1) := by decide +kernel
theorem d_jdk_29_method_69_6 : decode jdk_29_method_69_code 6 = .ok (.goto 4, 3) := by decide +kernel
theorem d_jdk_29_method_69_9 : decode jdk_29_method_69_code 9 = .ok (.iload_n 1, 1) := by decide +kernel
theorem d_jdk_29_method_69_10 : decode jdk_29_method_69_code 10 = .ok (.ireturn, 1) := by decide +kernel
theorem d_prog_1_method_3_0 : decode prog_1_method_3_code 0 = .ok (.aload_n 1, 1) := by decide +kernel
theorem d_prog_1_method_3_1 : decode prog_1_method_3_code 1 = .ok (.ldc 40, 2) := by decide +kernel
theorem d_prog_1_method_3_3 : decode prog_1_method_3_code 3 = .ok (.invokestatic 42, 3) := by decide +kernel
theorem d_prog_1_method_3_6 : decode prog_1_method_3_code 6 = .ok (.pop, 1) := by decide +kernel
theorem d_prog_1_method_3_7 : decode prog_1_method_3_code 7 = .ok (.aload_n 1, 1) := by decide +kernel
theorem d_prog_1_method_3_8 : decode prog_1_method_3_code 8 = .ok (.iconst 0, 1) := by decide +kernel
theorem d_prog_1_method_3_9 : decode prog_1_method_3_code 9 = .ok (.aload_n 1, 1) := by decide +kernel
theorem d_prog_1_method_3_10 : decode prog_1_method_3_code 10 = .ok (.invokevirtual 48, 3) := by decide +kernel
theorem d_prog_1_method_3_13 : decode prog_1_method_3_code 13 = .ok (.invokevirtual 54, 3) := by decide +kernel
theorem d_prog_1_method_3_16 : decode prog_1_method_3_code 16 = .ok (.bipush 64, 2) := by decide +kernel
theorem d_prog_1_method_3_18 : decode prog_1_method_3_code 18 = .ok (.if_icmp .le 13, 3) := by decide +kernel
theorem d_prog_1_method_3_21 : decode prog_1_method_3_code 21 = .ok (.new 58, 3) := by decide +kernel
theorem d_prog_1_method_3_24 : decode prog_1_method_3_code 24 = .ok (.dup, 1) := by decide +kernel
theorem d_prog_1_method_3_25 : decode prog_1_method_3_code 25 = .ok (.ldc 60, 2) := by decide +kernel
theorem d_prog_1_method_3_27 : decode prog_1_method_3_code 27 = .ok (.invokespecial 62, 3) := by decide +kernel
theorem d_prog_1_method_3_30 : decode prog_1_method_3_code 30 = .ok (.athrow, 1) := by decide +kernel
theorem d_prog_1_method_3_31 : decode prog_1_method_3_code 31 = .ok (.new 3, 3) := by decide +kernel
theorem d_prog_1_method_3_34 : decode prog_1_method_3_code 34 = .ok (.dup, 1) := by decide +kernel
theorem d_prog_1_method_3_35 : decode prog_1_method_3_code 35 = .ok (.aload_n 0, 1) := by decide +kernel
theorem d_prog_1_method_3_36 : decode prog_1_method_3_code 36 = .ok (.getfield 23, 3) := by decide +kernel
theorem d_prog_1_method_3_39 : decode prog_1_method_3_code 39 = .ok (.aload_n 0, 1) := by decide +kernel
theorem d_prog_1_method_3_40 : decode prog_1_method_3_code 40 = .ok (.getfield 26, 3) := by decide +kernel
theorem d_prog_1_method_3_43 : decode prog_1_method_3_code 43 = .ok (.aload_n 0, 1) := by decide +kernel
theorem d_prog_1_method_3_44 : decode prog_1_method_3_code 44 = .ok (.getfield 29, 3) := by decide +kernel
theorem d_prog_1_method_3_47 : decode prog_1_method_3_code 47 = .ok (.aload_n 1, 1) := by decide +kernel
theorem d_prog_1_method_3_48 : decode prog_1_method_3_code 48 = .ok (.aload_n 0, 1) := by decide +kernel
theorem d_prog_1_method_3_49 : decode prog_1_method_3_code 49 = .ok (.getfield 34, 3) := by decide +kernel
theorem d_prog_1_method_3_52 : decode prog_1_method_3_code 52 = .ok (.aload_n 0, 1) := by decide +kernel
theorem d_prog_1_method_3_53 : decode prog_1_method_3_code 53 = .ok (.getfield 37, 3) := by decide +kernel
theorem d_prog_1_method_3_56 : decode prog_1_method_3_code 56 = .ok (.invokespecial 14, 3) := by decide +kernel
theorem d_prog_1_method_3_59 : decode prog_1_method_3_code 59 = .ok (.areturn, 1) := by decide +kernel
theorem d_jdk_42_method_54_0 : decode jdk_42_method_54_code 0 = .ok (.aload_n 0, 1) := by decide +kernel
theorem d_jdk_42_method_54_1 : decode jdk_42_method_54_code 1 = .ok (.getfield 9, 3) := by decide +kernel
theorem d_jdk_42_method_54_4 : decode jdk_42_method_54_code 4 = .ok (.arraylength, 1) := by decide +kernel
theorem d_jdk_42_method_54_5 : decode jdk_42_method_54_code 5 = .ok (.aload_n 0, 1) := by decide +kernel
theorem d_jdk_42_method_54_6 : decode jdk_42_method_54_code 6 = .ok (.invokevirtual 335, 3) := by decide +kernel
theorem d_jdk_42_method_54_9 : decode jdk_42_method_54_code 9 = .ok (.ishr, 1) := by decide +kernel
theorem d_jdk_42_method_54_10 : decode jdk_42_method_54_code 10 = .ok (.ireturn, 1) := by decide +kernel
theorem d_jdk_42_method_59_0 : decode jdk_42_method_59_code 0 = .ok (.iload_n 1, 1) := by decide +kernel
theorem d_jdk_42_method_59_1 : decode jdk_42_method_59_code 1 = .ok (.iload_n 2, 1) := by decide +kernel
theorem d_jdk_42_method_59_2 : decode jdk_42_method_59_code 2 = .ok (.aload_n 0, 1) := by decide +kernel
theorem d_jdk_42_method_59_3 : decode jdk_42_method_59_code 3 = .ok (.invokevirtual 505, 3) := by decide +kernel
theorem d_jdk_42_method_59_6 : decode jdk_42_method_59_code 6 = .ok (.invokestatic 511, 3) := by decide +kernel
theorem d_jdk_42_method_59_9 : decode jdk_42_method_59_code 9 = .ok (.pop, 1) := by decide +kernel
theorem d_jdk_42_method_59_10 : decode jdk_42_method_59_code 10 = .ok (.aload_n 0, 1) := by decide +kernel
theorem d_jdk_42_method_59_11 : decode jdk_42_method_59_code 11 = .ok (.invokevirtual 492, 3) := by decide +kernel
theorem d_jdk_42_method_59_14 : decode jdk_42_method_59_code 14 = .ok (.ifCond .eq 7, 3) := by decide +kernel
theorem d_jdk_42_method_59_17 : decode jdk_42_method_59_code 17 = .ok (.iload_n 2, 1) := by decide +kernel
theorem d_jdk_42_method_59_18 : decode jdk_42_method_59_code 18 = .ok (.iload_n 1, 1) := by decide +kernel
theorem d_jdk_42_method_59_19 : decode jdk_42_method_59_code 19 = .ok (.isub, 1) := by decide +kernel
theorem d_jdk_42_method_59_20 : decode jdk_42_method_59_code 20 = .ok (.ireturn, 1) := by decide +kernel
theorem d_jdk_42_method_59_21 : decode jdk_42_method_59_code 21 = .ok (.aload_n 0, 1) := by decide +kernel
theorem d_jdk_42_method_59_22 : decode jdk_42_method_59_code 22 = .ok (.getfield 9, 3) := by decide +kernel
theorem d_jdk_42_method_59_25 : decode jdk_42_method_59_code 25 = .ok (.iload_n 1, 1) := by decide +kernel
theorem d_jdk_42_method_59_26 : decode jdk_42_method_59_code 26 = .ok (.iload_n 2, 1) := by decide +kernel
theorem d_jdk_42_method_59_27 : decode jdk_42_method_59_code 27 = .ok (.invokestatic 514, 3) := by decide +kernel
theorem d_jdk_42_method_59_30 : decode jdk_42_method_59_code 30 = .ok (.ireturn, 1) := by decide +kernel
theorem d_jdk_31_method_18_0 : decode jdk_31_method_18_code 0 = .ok (.iload_n 0, 1) := by decide +kernel
theorem d_jdk_31_method_18_1 : decode jdk_31_method_18_code 1 = .ok (.iload_n 1, 1) := by decide +kernel
theorem d_jdk_31_method_18_2 : decode jdk_31_method_18_code 2 = .ok (.iload_n 2, 1) := by decide +kernel
theorem d_jdk_31_method_18_3 : decode jdk_31_method_18_code 3 = .ok (.aconst_null, 1) := by decide +kernel
theorem d_jdk_31_method_18_4 : decode jdk_31_method_18_code 4 = .ok (.invokestatic 111, 3) := by decide +kernel
theorem d_jdk_31_method_18_7 : decode jdk_31_method_18_code 7 = .ok (.ireturn, 1) := by decide +kernel
theorem d_jdk_41_method_12_0 : decode jdk_41_method_12_code 0 = .ok (.iload_n 0, 1) := by decide +kernel
theorem d_jdk_41_method_12_1 : decode jdk_41_method_12_code 1 = .ok (.ifCond .lt 13, 3) := by decide +kernel
theorem d_jdk_41_method_12_4 : decode jdk_41_method_12_code 4 = .ok (.iload_n 0, 1) := by decide +kernel
theorem d_jdk_41_method_12_5 : decode jdk_41_method_12_code 5 = .ok (.iload_n 1, 1) := by decide +kernel
theorem d_jdk_41_method_12_6 : decode jdk_41_method_12_code 6 = .ok (.if_icmp .gt 8, 3) := by decide +kernel
theorem d_jdk_41_method_12_9 : decode jdk_41_method_12_code 9 = .ok (.iload_n 1, 1) := by decide +kernel
theorem d_jdk_41_method_12_10 : decode jdk_41_method_12_code 10 = .ok (.iload_n 2, 1) := by decide +kernel
theorem d_jdk_41_method_12_11 : decode jdk_41_method_12_code 11 = .ok (.if_icmp .le 11, 3) := by decide +kernel
theorem d_jdk_41_method_12_14 : decode jdk_41_method_12_code 14 = .ok (.aload_n 3, 1) := by decide +kernel
theorem d_jdk_41_method_12_15 : decode jdk_41_method_12_code 15 = .ok (.iload_n 0, 1) := by decide +kernel
theorem d_jdk_41_method_12_16 : decode jdk_41_method_12_code 16 = .ok (.iload_n 1, 1) := by decide +kernel
theorem d_jdk_41_method_12_17 : decode jdk_41_method_12_code 17 = .ok (.iload_n 2, 1) := by decide +kernel
theorem d_jdk_41_method_12_18 : decode jdk_41_method_12_code 18 = .ok (.invokestatic 99, 3) := by decide +kernel
theorem d_jdk_41_method_12_21 : decode jdk_41_method_12_code 21 = .ok (.athrow, 1) := by decide +kernel
theorem d_jdk_41_method_12_22 : decode jdk_41_method_12_code 22 = .ok (.iload_n 0, 1) := by decide +kernel
theorem d_jdk_41_method_12_23 : decode jdk_41_method_12_code 23 = .ok (.ireturn, 1) := by decide +kernel
theorem d_jdk_42_method_154_0 : decode jdk_42_method_154_code 0 = .ok (.getstatic 38, 3) := by decide +kernel
theorem d_jdk_42_method_154_3 : decode jdk_42_method_154_code 3 = .ok (.ifCond .eq 14, 3) := by decide +kernel
theorem d_jdk_42_method_154_6 : decode jdk_42_method_154_code 6 = .ok (.aload_n 0, 1) := by decide +kernel
theorem d_jdk_42_method_154_7 : decode jdk_42_method_154_code 7 = .ok (.getfield 15, 3) := by decide +kernel
theorem d_jdk_42_method_154_10 : decode jdk_42_method_154_code 10 = .ok (.ifCond .ne 7, 3) := by decide +kernel
theorem d_jdk_42_method_154_13 : decode jdk_42_method_154_code 13 = .ok (.iconst 1, 1) := by decide +kernel
theorem d_jdk_42_method_154_14 : decode jdk_42_method_154_code 14 = .ok (.goto 4, 3) := by decide +kernel
theorem d_jdk_42_method_154_17 : decode jdk_42_method_154_code 17 = .ok (.iconst 0, 1) := by decide +kernel
theorem d_jdk_42_method_154_18 : decode jdk_42_method_154_code 18 = .ok (.ireturn, 1) := by decide +kernel
theorem pn_com_example_outbox_relay_outboxrelay_OutboxMessageWithBusinessKeyPinLaw : plainName "com/example/outbox_relay/outboxrelay/OutboxMessageWithBusinessKeyPinLaw" = true := by first | (simp [plainName, overriddenIn]; done) | decide +kernel
theorem pd__I_Ljava_lang_String_ : parseMethodDescriptor "(I)Ljava/lang/String;" = some ⟨[.int], some (.object "java/lang/String")⟩ := by decide +kernel
theorem pd___C_V : parseMethodDescriptor "([C)V" = some ⟨[(.array .char)], none⟩ := by decide +kernel
theorem pd__C_Ljava_lang_String_ : parseMethodDescriptor "(C)Ljava/lang/String;" = some ⟨[.char], some (.object "java/lang/String")⟩ := by decide +kernel
theorem pn_java_lang_String : plainName "java/lang/String" = true := by first | (simp [plainName, overriddenIn]; done) | decide +kernel
theorem pd___CIILjava_lang_Void__V : parseMethodDescriptor "([CIILjava/lang/Void;)V" = some ⟨[(.array .char), .int, .int, (.object "java/lang/Void")], none⟩ := by decide +kernel
theorem pd___V : parseMethodDescriptor "()V" = some ⟨[], none⟩ := by decide +kernel
theorem pd___CII__B : parseMethodDescriptor "([CII)[B" = some ⟨[(.array .char), .int, .int], some (.array .byte)⟩ := by decide +kernel
theorem pd___BI_B : parseMethodDescriptor "([BI)B" = some ⟨[(.array .byte), .int], some .byte⟩ := by decide +kernel
theorem pn_com_example_outbox_relay_outboxrelay_OutboxMessage : plainName "com/example/outbox_relay/outboxrelay/OutboxMessage" = true := by first | (simp [plainName, overriddenIn]; done) | decide +kernel
theorem pd__Ljava_lang_String_Ljava_lang_String_Ljava_lang_String__V : parseMethodDescriptor "(Ljava/lang/String;Ljava/lang/String;Ljava/lang/String;)V" = some ⟨[(.object "java/lang/String"), (.object "java/lang/String"), (.object "java/lang/String")], none⟩ := by decide +kernel
theorem pd__Ljava_lang_String_Ljava_lang_String_I_Ljava_lang_String_ : parseMethodDescriptor "(Ljava/lang/String;Ljava/lang/String;I)Ljava/lang/String;" = some ⟨[(.object "java/lang/String"), (.object "java/lang/String"), .int], some (.object "java/lang/String")⟩ := by decide +kernel
theorem pd__Ljava_lang_String_Ljava_lang_String_Ljava_lang_String_Ljava_lang_String_Ljava_lang_String_Ljava_lang_String__V : parseMethodDescriptor "(Ljava/lang/String;Ljava/lang/String;Ljava/lang/String;Ljava/lang/String;Ljava/lang/String;Ljava/lang/String;)V" = some ⟨[(.object "java/lang/String"), (.object "java/lang/String"), (.object "java/lang/String"), (.object "java/lang/String"), (.object "java/lang/String"), (.object "java/lang/String")], none⟩ := by decide +kernel
theorem pd__Ljava_lang_Object_Ljava_lang_String__Ljava_lang_Object_ : parseMethodDescriptor "(Ljava/lang/Object;Ljava/lang/String;)Ljava/lang/Object;" = some ⟨[(.object "java/lang/Object"), (.object "java/lang/String")], some (.object "java/lang/Object")⟩ := by decide +kernel
theorem pd__Ljava_nio_charset_Charset___B : parseMethodDescriptor "(Ljava/nio/charset/Charset;)[B" = some ⟨[(.object "java/nio/charset/Charset")], some (.array .byte)⟩ := by decide +kernel
theorem pn_java_util_Objects : plainName "java/util/Objects" = true := by first | (simp [plainName, overriddenIn]; done) | decide +kernel
theorem pd___B : parseMethodDescriptor "()B" = some ⟨[], some .byte⟩ := by decide +kernel
theorem pd__Ljava_nio_charset_Charset_B_B__B : parseMethodDescriptor "(Ljava/nio/charset/Charset;B[B)[B" = some ⟨[(.object "java/nio/charset/Charset"), .byte, (.array .byte)], some (.array .byte)⟩ := by decide +kernel
theorem pd__B_BZ__B : parseMethodDescriptor "(B[BZ)[B" = some ⟨[.byte, (.array .byte), .boolean], some (.array .byte)⟩ := by decide +kernel
theorem pd___BII_Z : parseMethodDescriptor "([BII)Z" = some ⟨[(.array .byte), .int, .int], some .boolean⟩ := by decide +kernel
theorem pd___Ljava_lang_Object_ : parseMethodDescriptor "()Ljava/lang/Object;" = some ⟨[], some (.object "java/lang/Object")⟩ := by decide +kernel
theorem pd__I__B : parseMethodDescriptor "(I)[B" = some ⟨[.int], some (.array .byte)⟩ := by decide +kernel
theorem pd___BI__B : parseMethodDescriptor "([BI)[B" = some ⟨[(.array .byte), .int], some (.array .byte)⟩ := by decide +kernel
theorem pn_java_lang_StringCoding : plainName "java/lang/StringCoding" = true := by first | (simp [plainName, overriddenIn]; done) | decide +kernel
theorem pd___BII_I : parseMethodDescriptor "([BII)I" = some ⟨[(.array .byte), .int, .int], some .int⟩ := by decide +kernel
theorem pd__Ljava_lang_String__Lcom_example_outbox_relay_outboxrelay_OutboxMessage_ : parseMethodDescriptor "(Ljava/lang/String;)Lcom/example/outbox_relay/outboxrelay/OutboxMessage;" = some ⟨[(.object "java/lang/String")], some (.object "com/example/outbox_relay/outboxrelay/OutboxMessage")⟩ := by decide +kernel
theorem pd___Ljava_lang_String_ : parseMethodDescriptor "()Ljava/lang/String;" = some ⟨[], some (.object "java/lang/String")⟩ := by decide +kernel
theorem pd__Ljava_lang_String_Ljava_lang_String__Z : parseMethodDescriptor "(Ljava/lang/String;Ljava/lang/String;)Z" = some ⟨[(.object "java/lang/String"), (.object "java/lang/String")], some .boolean⟩ := by decide +kernel
theorem pd__Ljava_lang_Object__Z : parseMethodDescriptor "(Ljava/lang/Object;)Z" = some ⟨[(.object "java/lang/Object")], some .boolean⟩ := by decide +kernel
theorem pn_java_lang_StringUTF16 : plainName "java/lang/StringUTF16" = true := by first | (simp [plainName, overriddenIn]; done) | decide +kernel
theorem pd___CI_BII_I : parseMethodDescriptor "([CI[BII)I" = some ⟨[(.array .char), .int, (.array .byte), .int, .int], some .int⟩ := by decide +kernel
theorem pd__C_Z : parseMethodDescriptor "(C)Z" = some ⟨[.char], some .boolean⟩ := by decide +kernel
theorem pd__C__B : parseMethodDescriptor "(C)[B" = some ⟨[.char], some (.array .byte)⟩ := by decide +kernel
theorem pd___BB_V : parseMethodDescriptor "([BB)V" = some ⟨[(.array .byte), .byte], none⟩ := by decide +kernel
theorem pn_java_lang_StringLatin1 : plainName "java/lang/StringLatin1" = true := by first | (simp [plainName, overriddenIn]; done) | decide +kernel
theorem pd__I_I : parseMethodDescriptor "(I)I" = some ⟨[.int], some .int⟩ := by decide +kernel
theorem pn_java_util_Arrays : plainName "java/util/Arrays" = true := by first | (simp [plainName, overriddenIn]; done) | decide +kernel
theorem pd__II_I : parseMethodDescriptor "(II)I" = some ⟨[.int, .int], some .int⟩ := by decide +kernel
theorem pd__Ljava_lang_Object_ILjava_lang_Object_II_V : parseMethodDescriptor "(Ljava/lang/Object;ILjava/lang/Object;II)V" = some ⟨[(.object "java/lang/Object"), .int, (.object "java/lang/Object"), .int, .int], none⟩ := by decide +kernel
theorem pd___I : parseMethodDescriptor "()I" = some ⟨[], some .int⟩ := by decide +kernel
theorem pd__III_I : parseMethodDescriptor "(III)I" = some ⟨[.int, .int, .int], some .int⟩ := by decide +kernel
theorem pd___Z : parseMethodDescriptor "()Z" = some ⟨[], some .boolean⟩ := by decide +kernel
theorem pd__IIILjava_util_function_BiFunction__I : parseMethodDescriptor "(IIILjava/util/function/BiFunction;)I" = some ⟨[.int, .int, .int, (.object "java/util/function/BiFunction")], some .int⟩ := by decide +kernel
theorem pn_jdk_internal_util_Preconditions : plainName "jdk/internal/util/Preconditions" = true := by first | (simp [plainName, overriddenIn]; done) | decide +kernel
theorem pd__IIIIII_Z : parseMethodDescriptor "(IIIIII)Z" = some ⟨[.int, .int, .int, .int, .int, .int], some .boolean⟩ := by decide +kernel
theorem own_sA : ∀ d ∈ Bundle.stringAtoms, d ∈ tables_1 := by decide +kernel
theorem own_wS {Z : State} {a0 : Array Value} (hw : ∀ d ∈ tables_1, d.before a0 Z = true) : ∀ a ∈ Bundle.stringAtoms, a.before a0 Z = true := fun d hd => hw d (own_sA d hd)
theorem own_EL {Z : State} {a0 : Array Value} (hw : ∀ d ∈ tables_1, d.before a0 Z = true) : EW Z a0 Jvm.OwnK.EL := (EW.cons (tw hw 18 rfl) (by decide) EW.nil)
def StrIs (Z : State) (h : Heap) (b : Addr) (cs : List Int32) : Prop := ∃ (t : Addr) (kb : ClassId), Exa Z h b "java/lang/String" ∧ Fld Z h b "java/lang/String" "coder" "B" (.int 0) ∧ Fld Z h b "java/lang/String" "value" "[B" (.ref t) ∧ Arv Z h t kb .byte (Int32.ofNat cs.length) ((cs.map fun c => c.toInt8.toInt32).map Value.int) (.int 0) ∧ (∀ c ∈ cs, ¬ c < 0 ∧ ¬ 255 < c) ∧ cs.length ≤ 4000
theorem StrIs.keep {Z : State} {h h' : Heap} {b : Addr} {cs : List Int32} (F : StrIs Z h b cs) (K : Keep h h' []) : StrIs Z h' b cs := by
  obtain ⟨t, kb, q1, q2, q3, q4, r⟩ := F
  exact ⟨t, kb, q1.keep K, q2.keep K nin0, q3.keep K nin0, q4.keep K nin0, r⟩
theorem StrIs.ext {Z : State} {h h' : Heap} {b : Addr} {cs : List Int32} (F : StrIs Z h b cs) (K : Ext h h') : StrIs Z h' b cs := F.keep ((Keep.refl h []).ext K)
theorem StrIs.exa {Z : State} {h : Heap} {b : Addr} {cs : List Int32} (F : StrIs Z h b cs) : Exa Z h b "java/lang/String" := by obtain ⟨t, kb, q, -⟩ := F; exact q
theorem own_up {cs : List Int32} (h : ∀ c ∈ cs, ¬ c < 0 ∧ ¬ (255 : Int32) < c) : ∀ c ∈ cs, ¬ c < 0 ∧ ¬ (65535 : Int32) < c := fun c hc => by
  have q := h c hc
  simp only [Int32.lt_iff_toInt_lt, Int32.reduceToInt] at *; omega
theorem own_eqv {v : Option Value} {P : Prop} [Decidable P] (h : (v = some (.int 1) ∧ P) ∨ (v = some (.int 0) ∧ ¬ P)) : v = some (.int (bi (decide P))) := by
  rcases h with ⟨h, q⟩ | ⟨h, q⟩
  · rw [h, decide_eq_true q]; rfl
  · rw [h, decide_eq_false q]; rfl
theorem own_eqr {args : Array Value} {Z : State} {X F : Term} {idx : List Nat} {y : Addr} (hF : F.eval args Z none idx Z = some (.ref y)) (h : (Jvm.Cond.eq X F).value args Z none Z idx = some true) : X.eval args Z none idx Z = some (.ref y) := by
  cases hX : X.eval args Z none idx Z with
  | none => simp [Cond.value, hX] at h
  | some x => cases x <;> simp [Cond.value, hX, hF] at h ⊢ <;> exact h
def By2 (Z : State) (h : Heap) (t : Addr) : Prop := Exa Z h t "[B" ∧ ∃ kb : ClassId, Arv Z h t kb .byte 0 [] (.int 0) ∨ (∃ c : Int32, Arv Z h t kb .byte 1 [.int c] (.int 0)) ∨ (∃ c d : Int32, Arv Z h t kb .byte 2 [.int c, .int d] (.int 0))
theorem By2.keep {Z : State} {h h' : Heap} {t : Addr} (F : By2 Z h t) (K : Keep h h' []) : By2 Z h' t := by
  obtain ⟨E, kb, A | ⟨c, A⟩ | ⟨c, d, A⟩⟩ := F
  · exact ⟨E.keep K, kb, Or.inl (A.keep K nin0)⟩
  · exact ⟨E.keep K, kb, Or.inr (Or.inl ⟨c, A.keep K nin0⟩)⟩
  · exact ⟨E.keep K, kb, Or.inr (Or.inr ⟨c, d, A.keep K nin0⟩)⟩
def Str2 (Z : State) (h : Heap) (b : Addr) : Prop := ∃ t : Addr, Exa Z h b "java/lang/String" ∧ Fld Z h b "java/lang/String" "coder" "B" (.int 0) ∧ Fld Z h b "java/lang/String" "value" "[B" (.ref t) ∧ By2 Z h t
theorem Str2.keep {Z : State} {h h' : Heap} {b : Addr} (F : Str2 Z h b) (K : Keep h h' []) : Str2 Z h' b := by
  obtain ⟨t, E, C, V, B⟩ := F
  exact ⟨t, E.keep K, C.keep K nin0, V.keep K nin0, B.keep K⟩
theorem Str2.exa {Z : State} {h : Heap} {b : Addr} (F : Str2 Z h b) : Exa Z h b "java/lang/String" := by obtain ⟨t, E, -⟩ := F; exact E
theorem Str2.len {Z : State} {h : Heap} {b : Addr} (F : Str2 Z h b) : ∃ (t : Addr) (kb : ClassId) (z : Int32) (vs : List Value), Exa Z h b "java/lang/String" ∧ Fld Z h b "java/lang/String" "coder" "B" (.int 0) ∧ Fld Z h b "java/lang/String" "value" "[B" (.ref t) ∧ Arv Z h t kb .byte z vs (.int 0) ∧ ¬ z < 0 ∧ ¬ 64 < z := by
  obtain ⟨t, E, C, V, -, kb, A | ⟨c, A⟩ | ⟨c, d, A⟩⟩ := F
  · exact ⟨t, kb, _, _, E, C, V, A, by decide, by decide⟩
  · exact ⟨t, kb, _, _, E, C, V, A, by decide, by decide⟩
  · exact ⟨t, kb, _, _, E, C, V, A, by decide, by decide⟩
def N2 (Z : State) (h : Heap) (v : Value) : Prop := v = .null ∨ ∃ b, v = .ref b ∧ Str2 Z h b
theorem N2.keep {Z : State} {h h' : Heap} {v : Value} (F : N2 Z h v) (K : Keep h h' []) : N2 Z h' v := by
  rcases F with F | ⟨b, F, S⟩
  · exact Or.inl F
  · exact Or.inr ⟨b, F, S.keep K⟩
theorem N2.isRef {Z : State} {h : Heap} {v : Value} (F : N2 Z h v) : v.isRef = true := by
  rcases F with rfl | ⟨b, rfl, S⟩ <;> rfl
theorem own_shr0 (z : Int32) : z >>> (0 &&& 31) = z := by
  rw [show (0 &&& 31 : Int32) = 0 by decide]; simp
theorem own_le4 {z nn : Int32} (h : ¬ 4 < z) (h2 : ¬ nn < 4) : ¬ nn < z := by
  simp only [Int32.lt_iff_toInt_lt, Int32.reduceToInt] at *; omega
theorem ef_sI4e (m : MethodId) (a1 : Addr) (ar : Addr) : entryFrame m #[(.ref a1), (.ref ar), (.int 0), (.int 0), .null] 6 = mkF m 0 #[.val (.ref a1), .val (.ref ar), .val (.int 0), .val (.int 0), .val .null, .unset] [] := by first | (simp [entryFrame, mkF, argsToLocals, Value.category]; done) | rfl
def Q_sI4e (Z : State) (a1 : Addr) (ar : Addr) (h0 : Heap) (v : Option Value) (h : Heap) : Prop := v = none ∧ Keep h0 h [a1] ∧ Str2 Z h a1
set_option maxRecDepth 65536 in
set_option maxHeartbeats 40000000 in
theorem c_sI4e (l : Launch) (Z : State) (a0 : Array Value) (hw : ∀ d ∈ tables_1, d.before a0 Z = true) (a1 : Addr) (ar : Addr) (h0 : Heap) (E1 : Exa Z h0 a1 "java/lang/String") (F1 : Fld Z h0 a1 "java/lang/String" "value" "[B" .null) (F2 : Fld Z h0 a1 "java/lang/String" "coder" "B" (.int 0)) (g1 : Z.heap.size ≤ a1) :
    Con l Z (⟨"java/lang/String", "<init>", "([CIILjava/lang/Void;)V"⟩ : MethodName) jdk_42_method_149_code 6 (Option.none : Option FieldType) [] ({ frames := 1, cells := 4, slots := 8, locals := 12 } : Room) #[(.ref a1), (.ref ar), (.int 0), (.int 0), .null] h0 (Q_sI4e Z a1 ar h0) [a1] := by
  refine Con.of (plainFor_of_name pn_java_lang_String) ?_
  intro p e s m below meth c T0 B W0
  refine Go.cast (ef_sI4e m a1 ar ) ?_
  have l_a1 := nlt E1.lt
  refine g_aload_n B W0 (d_jdk_42_method_149_0) rfl rfl ?_
  obtain ⟨T101, W101, st101⟩ := x_init B W0 (d_jdk_42_method_149_1) (tw hw 15 rfl) (tw hw 16 rfl) (tw hw 17 rfl) a1 #[.val (.ref a1), .val (.ref ar), .val (.int 0), .val (.int 0), .val .null, .unset] [] rfl 0 rfl (by decide) (by decide)
  refine st101 _ ?_
  refine g_iload_n B W101 (d_jdk_42_method_149_4) rfl ?_
  refine g_if_n B W101 (d_jdk_42_method_149_5) (XT.i0_ne_f (by decide)) ?_
  show Go p.tables e below _ T101 (mkF m 8 #[.val (.ref a1), .val (.ref ar), .val (.int 0), .val (.int 0), .val .null, .unset] [])
  refine g_aload_n B W101 (d_jdk_42_method_149_8) rfl rfl ?_
  obtain ⟨T102, h102, b102, t102, kc102, W102, K102, E102, Fc102, Fv102, A102, Et102, ne102, st102⟩ := x_ldcT B W101 0 (vs := []) (z := 0) (d_jdk_42_method_149_9) (tw hw 18 rfl) (own_wS hw) (own_EL hw) (by decide) ⟨by decide, by decide⟩ (by decide) (by decide) (by decide) (by decide) (by decide) (by decide) #[.val (.ref a1), .val (.ref ar), .val (.int 0), .val (.int 0), .val .null, .unset] [(.ref a1)]
  have nb102_0 : ¬ @Eq Nat a1 b102 := (ne102 a1 (by simp)).1
  have nt102_0 : ¬ @Eq Nat a1 t102 := (ne102 a1 (by simp)).2
  refine st102 _ ?_
  have s103 := K102.1
  obtain ⟨T104, W104, st104⟩ := x_get B W102 (host := "") (d_jdk_42_method_149_11) (Or.inl (tw hw 24 rfl)) Via.refl Fv102 #[.val (.ref a1), .val (.ref ar), .val (.int 0), .val (.int 0), .val .null, .unset] [(.ref a1)]
  refine st104 _ ?_
  have f105 := (F1.keep K102 nin0)
  have f106 := (E1.keep K102)
  obtain ⟨T107, h107, W107, K107, R107, F107, E107, st107⟩ := x_put B W104 (d_jdk_42_method_149_14) ((tw hw 24 rfl)) Via.refl f105 f106 (Or.inr ⟨ (tw hw 20 rfl), rfl, rfl⟩) (tw hw 5 rfl) (ty := (.array .byte)) (v := (.ref t102)) (v' := (.ref t102)) (by decide) rfl rfl (by omega) (Or.inr (by simp)) #[.val (.ref a1), .val (.ref ar), .val (.int 0), .val (.int 0), .val .null, .unset] []
  refine st107 _ ?_
  have f108 := (F2.keep K102 nin0)
  have f109 := f108.other R107 (Or.inr (slot_ne (Or.inr (tw hw 21 rfl)) (Or.inr (tw hw 20 rfl)) (by decide) (t := .byte) (t' := (.array .byte)) (by decide) (by decide)))
  have s110 := K107.1
  refine g_aload_n B W107 (d_jdk_42_method_149_17) rfl rfl ?_
  obtain ⟨T111, h111, b111, t111, kc111, W111, K111, E111, Fc111, Fv111, A111, Et111, ne111, st111⟩ := x_ldcT B W107 0 (vs := []) (z := 0) (d_jdk_42_method_149_18) (tw hw 18 rfl) (own_wS hw) (own_EL hw) (by decide) ⟨by decide, by decide⟩ (by decide) (by decide) (by decide) (by decide) (by decide) (by decide) #[.val (.ref a1), .val (.ref ar), .val (.int 0), .val (.int 0), .val .null, .unset] [(.ref a1)]
  have nb111_0 : ¬ @Eq Nat a1 b111 := (ne111 a1 (by simp)).1
  have nt111_0 : ¬ @Eq Nat a1 t111 := (ne111 a1 (by simp)).2
  refine st111 _ ?_
  have s112 := K111.1
  obtain ⟨T113, W113, st113⟩ := x_get B W111 (host := "") (d_jdk_42_method_149_20) (Or.inl (tw hw 25 rfl)) Via.refl Fc111 #[.val (.ref a1), .val (.ref ar), .val (.int 0), .val (.int 0), .val .null, .unset] [(.ref a1)]
  refine st113 _ ?_
  have f114 := (f109.keep K111 nin0)
  have f115 := (E107.keep K111)
  obtain ⟨T116, h116, W116, K116, R116, F116, E116, st116⟩ := x_put B W113 (d_jdk_42_method_149_23) ((tw hw 25 rfl)) Via.refl f114 f115 (Or.inr ⟨ (tw hw 21 rfl), rfl, rfl⟩) (tw hw 5 rfl) (ty := .byte) (v := (.int 0)) (v' := (.int 0)) (by decide) rfl rfl (by omega) (Or.inr (by simp)) #[.val (.ref a1), .val (.ref ar), .val (.int 0), .val (.int 0), .val .null, .unset] []
  refine st116 _ ?_
  have f117 := (F107.keep K111 nin0)
  have f118 := f117.other R116 (Or.inr (slot_ne (Or.inr (tw hw 20 rfl)) (Or.inr (tw hw 21 rfl)) (by decide) (t := (.array .byte)) (t' := .byte) (by decide) (by decide)))
  have s119 := K116.1
  have f120 := (((Et102.keep K107).keep K111).keep K116)
  have f121 := ((A102.keep K107 (ninS (nne (by have q := nlt A102.lt; omega)) nin0)).keep K111 nin0)
  have f122 := (f121.keep K116 (ninS (nne (by have q := nlt f121.lt; omega)) nin0))
  exact r_v B W116 (d_jdk_42_method_149_26) (by decide) (by decide) ⟨rfl, (((((Keep.refl h0 [a1]).trans K102 all0).trans K107 (allS (Or.inl (by simp)) all0)).trans K111 all0).trans K116 (allS (Or.inl (by simp)) all0)), ⟨_, E116, F116, f118, f120, _, Or.inl f122⟩⟩
theorem ef_sI1e (m : MethodId) (a1 : Addr) (ar : Addr) (kA : ClassId) : entryFrame m #[(.ref a1), (.ref ar)] 2 = mkF m 0 #[.val (.ref a1), .val (.ref ar)] [] := by first | (simp [entryFrame, mkF, argsToLocals, Value.category]; done) | rfl
def Q_sI1e (Z : State) (a1 : Addr) (ar : Addr) (kA : ClassId) (h0 : Heap) (v : Option Value) (h : Heap) : Prop := v = none ∧ Keep h0 h [a1] ∧ Str2 Z h a1
set_option maxRecDepth 65536 in
set_option maxHeartbeats 40000000 in
theorem c_sI1e (l : Launch) (Z : State) (a0 : Array Value) (hw : ∀ d ∈ tables_1, d.before a0 Z = true) (a1 : Addr) (ar : Addr) (kA : ClassId) (h0 : Heap) (E1 : Exa Z h0 a1 "java/lang/String") (F1 : Fld Z h0 a1 "java/lang/String" "value" "[B" .null) (F2 : Fld Z h0 a1 "java/lang/String" "coder" "B" (.int 0)) (g1 : Z.heap.size ≤ a1) (A1 : Arv Z h0 ar kA .char 0 [] (.int 0)) :
    Con l Z (⟨"java/lang/String", "<init>", "([C)V"⟩ : MethodName) jdk_42_method_3_code 2 (Option.none : Option FieldType) [] ({ frames := 2, cells := 4, slots := 8, locals := 40 } : Room) #[(.ref a1), (.ref ar)] h0 (Q_sI1e Z a1 ar kA h0) [a1] := by
  refine Con.of (plainFor_of_name pn_java_lang_String) ?_
  intro p e s m below meth c T0 B W0
  refine Go.cast (ef_sI1e m a1 ar kA ) ?_
  have l_a1 := nlt E1.lt
  refine g_aload_n B W0 (d_jdk_42_method_3_0) rfl rfl ?_
  refine g_aload_n B W0 (d_jdk_42_method_3_1) rfl rfl ?_
  refine g_iconst B W0 (d_jdk_42_method_3_2) (v := 0) (by decide) ?_
  refine g_aload_n B W0 (d_jdk_42_method_3_3) rfl rfl ?_
  refine g_aalen B W0 (d_jdk_42_method_3_4) A1 ?_
  refine g_aconst_null B W0 (d_jdk_42_method_3_5)  ?_
  obtain ⟨T101, h101, v101, W101, Q101, st101⟩ := x_special B W0 (b := a1) [(.ref ar), (.int 0), (.int 0), .null] (c_sI4e l Z a0 hw a1 ar h0 E1 F1 F2 g1) (by simp) (d_jdk_42_method_3_6) rfl (tw hw 11 rfl) (tw hw 12 rfl) (tw hw 6 rfl) (tw hw 14 rfl) (by decide) (lenOf pd___CIILjava_lang_Void__V rfl) #[.val (.ref a1), .val (.ref ar)] [] rfl 0 rfl (by decide) (by decide) (by decide) (by decide)
  obtain ⟨rfl, K101, S101⟩ := Q101
  have s102 := K101.1
  refine st101 _ ?_
  exact r_v B W101 (d_jdk_42_method_3_9) (by decide) (by decide) ⟨rfl, K101, S101⟩
theorem ef_comp5 (m : MethodId) (ar : Addr) (kA : ClassId) (bt : Addr) (kb : ClassId) (q0 : Int32) (q1 : Int32) : entryFrame m #[(.ref ar), (.int 0), (.ref bt), (.int 0), (.int 2)] 7 = mkF m 0 #[.val (.ref ar), .val (.int 0), .val (.ref bt), .val (.int 0), .val (.int 2), .unset, .unset] [] := by first | (simp [entryFrame, mkF, argsToLocals, Value.category]; done) | rfl
def Q_comp5 (Z : State) (ar : Addr) (kA : ClassId) (bt : Addr) (kb : ClassId) (q0 : Int32) (q1 : Int32) (h0 : Heap) (v : Option Value) (h : Heap) : Prop := v = some (.int 2) ∧ Keep h0 h [bt] ∧ ∃ x y : Int32, Arv Z h bt kb .byte 2 [.int x, .int y] (.int 0)
set_option maxRecDepth 65536 in
set_option maxHeartbeats 40000000 in
theorem c_comp5 (l : Launch) (Z : State) (a0 : Array Value) (hw : ∀ d ∈ tables_1, d.before a0 Z = true) (ar : Addr) (kA : ClassId) (bt : Addr) (kb : ClassId) (q0 : Int32) (q1 : Int32) (h0 : Heap) (A1 : Arv Z h0 ar kA .char 2 [.int q0, .int q1] (.int 0)) (A2 : Arv Z h0 bt kb .byte 2 [.int 0, .int 0] (.int 0)) (g1 : Z.heap.size ≤ bt) (nb : ¬ @Eq Nat ar bt) (rq0 : ¬ q0 < 0 ∧ ¬ 255 < q0) (rq1 : ¬ q1 < 0 ∧ ¬ 255 < q1) :
    Con l Z (⟨"java/lang/StringUTF16", "compress", "([CI[BII)I"⟩ : MethodName) jdk_52_method_21_code 7 (Option.some FieldType.int) [] ({ frames := 0, cells := 0, slots := 0, locals := 0 } : Room) #[(.ref ar), (.int 0), (.ref bt), (.int 0), (.int 2)] h0 (Q_comp5 Z ar kA bt kb q0 q1 h0) [bt] := by
  refine Con.of (plainFor_of_name pn_java_lang_StringUTF16) ?_
  intro p e s m below meth c T0 B W0
  refine Go.cast (ef_comp5 m ar kA bt kb q0 q1 ) ?_
  refine g_iconst B W0 (d_jdk_52_method_21_0) (v := 0) (by decide) ?_
  refine g_istore B W0 (d_jdk_52_method_21_1)  (l' := #[.val (.ref ar), .val (.int 0), .val (.ref bt), .val (.int 0), .val (.int 2), .val (.int 0), .unset]) rfl ?_
  refine g_iload B W0 (d_jdk_52_method_21_3) rfl ?_
  refine g_iload B W0 (d_jdk_52_method_21_5) rfl ?_
  refine g_icmp_n B W0 (d_jdk_52_method_21_7) (XT.ii_ge_f (by decide)) ?_
  show Go p.tables e below _ T0 (mkF m 10 #[.val (.ref ar), .val (.int 0), .val (.ref bt), .val (.int 0), .val (.int 2), .val (.int 0), .unset] [])
  refine g_aload_n B W0 (d_jdk_52_method_21_10) rfl rfl ?_
  refine g_iload_n B W0 (d_jdk_52_method_21_11) rfl ?_
  refine g_caload B W0 (d_jdk_52_method_21_12) A1 (by decide) (show List.getD ([(.int q0), (.int q1)] : List Value) _ _ = (.int q0) from rfl) ?_
  refine g_istore B W0 (d_jdk_52_method_21_13)  (l' := #[.val (.ref ar), .val (.int 0), .val (.ref bt), .val (.int 0), .val (.int 2), .val (.int 0), .val (.int q0)]) rfl ?_
  refine g_iload B W0 (d_jdk_52_method_21_15) rfl ?_
  refine g_sipush B W0 (d_jdk_52_method_21_17) (v := 255) (by decide) ?_
  refine g_icmp_y B W0 (d_jdk_52_method_21_20) (XT.ii_le_t rq0.2) (pc' := 26) (by decide) ?_
  show Go p.tables e below _ T0 (mkF m 26 #[.val (.ref ar), .val (.int 0), .val (.ref bt), .val (.int 0), .val (.int 2), .val (.int 0), .val (.int q0)] [])
  refine g_aload_n B W0 (d_jdk_52_method_21_26) rfl rfl ?_
  refine g_iload_n B W0 (d_jdk_52_method_21_27) rfl ?_
  refine g_iload B W0 (d_jdk_52_method_21_28) rfl ?_
  refine g_i2b B W0 (d_jdk_52_method_21_30)  ?_
  obtain ⟨T101, h101, W101, K101, A101, st101⟩ := x_bastore B W0 (j := 0) (x := (q0 : Int32).toInt8.toInt32) (d_jdk_52_method_21_31) A2 (by decide) (Nat.lt_of_lt_of_eq (show Int32.toNatClampNeg 0 < 2 by decide) rfl) (by omega) (by simp) #[.val (.ref ar), .val (.int 0), .val (.ref bt), .val (.int 0), .val (.int 2), .val (.int 0), .val (.int q0)] []
  refine st101 _ ?_
  generalize nar .byte (q0 : Int32).toInt8.toInt32 = yb101 at A101
  have A101 : Arv Z h101 bt kb .byte 2 [(.int yb101), (.int 0)] (.int 0) := A101
  have s102 := K101.1
  refine g_iinc B W101 (d_jdk_52_method_21_32) (v := 1) (l' := #[.val (.ref ar), .val (.int (0 + 1)), .val (.ref bt), .val (.int 0), .val (.int 2), .val (.int 0), .val (.int q0)]) (by decide) rfl rfl ?_
  rw [show (0 + 1 : Int32) = 1 by decide]
  refine g_iinc B W101 (d_jdk_52_method_21_35) (v := 1) (l' := #[.val (.ref ar), .val (.int 1), .val (.ref bt), .val (.int (0 + 1)), .val (.int 2), .val (.int 0), .val (.int q0)]) (by decide) rfl rfl ?_
  rw [show (0 + 1 : Int32) = 1 by decide]
  refine g_iinc B W101 (d_jdk_52_method_21_38) (v := 1) (l' := #[.val (.ref ar), .val (.int 1), .val (.ref bt), .val (.int 1), .val (.int 2), .val (.int (0 + 1)), .val (.int q0)]) (by decide) rfl rfl ?_
  rw [show (0 + 1 : Int32) = 1 by decide]
  refine g_goto B W101 (d_jdk_52_method_21_41) (pc' := 3) (by decide) ?_
  show Go p.tables e below _ T101 (mkF m 3 #[.val (.ref ar), .val (.int 1), .val (.ref bt), .val (.int 1), .val (.int 2), .val (.int 1), .val (.int q0)] [])
  refine g_iload B W101 (d_jdk_52_method_21_3) rfl ?_
  refine g_iload B W101 (d_jdk_52_method_21_5) rfl ?_
  refine g_icmp_n B W101 (d_jdk_52_method_21_7) (XT.ii_ge_f (by decide)) ?_
  show Go p.tables e below _ T101 (mkF m 10 #[.val (.ref ar), .val (.int 1), .val (.ref bt), .val (.int 1), .val (.int 2), .val (.int 1), .val (.int q0)] [])
  refine g_aload_n B W101 (d_jdk_52_method_21_10) rfl rfl ?_
  refine g_iload_n B W101 (d_jdk_52_method_21_11) rfl ?_
  have f103 := (A1.keep K101 (ninS (nne (by have q := nlt A1.lt; omega)) nin0))
  refine g_caload B W101 (d_jdk_52_method_21_12) f103 (by decide) (show List.getD ([(.int q0), (.int q1)] : List Value) _ _ = (.int q1) from rfl) ?_
  refine g_istore B W101 (d_jdk_52_method_21_13)  (l' := #[.val (.ref ar), .val (.int 1), .val (.ref bt), .val (.int 1), .val (.int 2), .val (.int 1), .val (.int q1)]) rfl ?_
  refine g_iload B W101 (d_jdk_52_method_21_15) rfl ?_
  refine g_sipush B W101 (d_jdk_52_method_21_17) (v := 255) (by decide) ?_
  refine g_icmp_y B W101 (d_jdk_52_method_21_20) (XT.ii_le_t rq1.2) (pc' := 26) (by decide) ?_
  show Go p.tables e below _ T101 (mkF m 26 #[.val (.ref ar), .val (.int 1), .val (.ref bt), .val (.int 1), .val (.int 2), .val (.int 1), .val (.int q1)] [])
  refine g_aload_n B W101 (d_jdk_52_method_21_26) rfl rfl ?_
  refine g_iload_n B W101 (d_jdk_52_method_21_27) rfl ?_
  refine g_iload B W101 (d_jdk_52_method_21_28) rfl ?_
  refine g_i2b B W101 (d_jdk_52_method_21_30)  ?_
  obtain ⟨T104, h104, W104, K104, A104, st104⟩ := x_bastore B W101 (j := 1) (x := (q1 : Int32).toInt8.toInt32) (d_jdk_52_method_21_31) A101 (by decide) (Nat.lt_of_lt_of_eq (show Int32.toNatClampNeg 1 < 2 by decide) rfl) (by omega) (by simp) #[.val (.ref ar), .val (.int 1), .val (.ref bt), .val (.int 1), .val (.int 2), .val (.int 1), .val (.int q1)] []
  refine st104 _ ?_
  generalize nar .byte (q1 : Int32).toInt8.toInt32 = yb104 at A104
  have A104 : Arv Z h104 bt kb .byte 2 [(.int yb101), (.int yb104)] (.int 0) := A104
  have s105 := K104.1
  refine g_iinc B W104 (d_jdk_52_method_21_32) (v := 1) (l' := #[.val (.ref ar), .val (.int (1 + 1)), .val (.ref bt), .val (.int 1), .val (.int 2), .val (.int 1), .val (.int q1)]) (by decide) rfl rfl ?_
  rw [show (1 + 1 : Int32) = 2 by decide]
  refine g_iinc B W104 (d_jdk_52_method_21_35) (v := 1) (l' := #[.val (.ref ar), .val (.int 2), .val (.ref bt), .val (.int (1 + 1)), .val (.int 2), .val (.int 1), .val (.int q1)]) (by decide) rfl rfl ?_
  rw [show (1 + 1 : Int32) = 2 by decide]
  refine g_iinc B W104 (d_jdk_52_method_21_38) (v := 1) (l' := #[.val (.ref ar), .val (.int 2), .val (.ref bt), .val (.int 2), .val (.int 2), .val (.int (1 + 1)), .val (.int q1)]) (by decide) rfl rfl ?_
  rw [show (1 + 1 : Int32) = 2 by decide]
  refine g_goto B W104 (d_jdk_52_method_21_41) (pc' := 3) (by decide) ?_
  show Go p.tables e below _ T104 (mkF m 3 #[.val (.ref ar), .val (.int 2), .val (.ref bt), .val (.int 2), .val (.int 2), .val (.int 2), .val (.int q1)] [])
  refine g_iload B W104 (d_jdk_52_method_21_3) rfl ?_
  refine g_iload B W104 (d_jdk_52_method_21_5) rfl ?_
  refine g_icmp_y B W104 (d_jdk_52_method_21_7) (XT.ii_ge_t (by decide)) (pc' := 44) (by decide) ?_
  show Go p.tables e below _ T104 (mkF m 44 #[.val (.ref ar), .val (.int 2), .val (.ref bt), .val (.int 2), .val (.int 2), .val (.int 2), .val (.int q1)] [])
  refine g_iload B W104 (d_jdk_52_method_21_44) rfl ?_
  exact r_i B W104 (d_jdk_52_method_21_46) (by decide) (by decide) ⟨rfl, (((Keep.refl h0 [bt]).trans K101 (allS (Or.inl (by simp)) all0)).trans K104 (allS (Or.inl (by simp)) all0)), _, _, A104⟩
theorem ef_comp3 (m : MethodId) (ar : Addr) (kA : ClassId) (q0 : Int32) (q1 : Int32) : entryFrame m #[(.ref ar), (.int 0), (.int 2)] 6 = mkF m 0 #[.val (.ref ar), .val (.int 0), .val (.int 2), .unset, .unset, .unset] [] := by first | (simp [entryFrame, mkF, argsToLocals, Value.category]; done) | rfl
def Q_comp3 (Z : State) (ar : Addr) (kA : ClassId) (q0 : Int32) (q1 : Int32) (h0 : Heap) (v : Option Value) (h : Heap) : Prop := h0.size ≤ h.size ∧ ∃ (b : Addr) (kb : ClassId) (x y : Int32), v = some (.ref b) ∧ h0.size ≤ b ∧ Keep h0 h [] ∧ Exa Z h b "[B" ∧ Arv Z h b kb .byte 2 [.int x, .int y] (.int 0)
set_option maxRecDepth 65536 in
set_option maxHeartbeats 40000000 in
theorem c_comp3 (l : Launch) (Z : State) (a0 : Array Value) (hw : ∀ d ∈ tables_1, d.before a0 Z = true) (ar : Addr) (kA : ClassId) (q0 : Int32) (q1 : Int32) (h0 : Heap) (A1 : Arv Z h0 ar kA .char 2 [.int q0, .int q1] (.int 0)) (rq0 : ¬ q0 < 0 ∧ ¬ 255 < q0) (rq1 : ¬ q1 < 0 ∧ ¬ 255 < q1) :
    Con l Z (⟨"java/lang/StringUTF16", "compress", "([CII)[B"⟩ : MethodName) jdk_52_method_16_code 6 (Option.some (FieldType.array FieldType.byte)) [] ({ frames := 1, cells := 1, slots := 2, locals := 18 } : Room) #[(.ref ar), (.int 0), (.int 2)] h0 (Q_comp3 Z ar kA q0 q1 h0) [] := by
  refine Con.of (plainFor_of_name pn_java_lang_StringUTF16) ?_
  intro p e s m below meth c T0 B W0
  refine Go.cast (ef_comp3 m ar kA q0 q1 ) ?_
  have l_ar := nlt A1.lt
  refine g_iload_n B W0 (d_jdk_52_method_16_0) rfl ?_
  obtain ⟨T101, h101, b101, cA101, gb101, W101, K101, A101, E101, st101⟩ := x_newE B W0 (z := 2) (ad := "[B") 2 (d_jdk_52_method_16_1) (tw hw 19 rfl) (by decide) (by decide) (by decide) (by decide) (by decide) rfl #[.val (.ref ar), .val (.int 0), .val (.int 2), .unset, .unset, .unset] []
  have l101 := nlt A101.lt
  have z101 := W0.size
  refine st101 _ ?_
  have s102 := K101.1
  refine g_astore_n B W101 (d_jdk_52_method_16_3) rfl (l' := #[.val (.ref ar), .val (.int 0), .val (.int 2), .val (.ref b101), .unset, .unset]) rfl ?_
  refine g_aload_n B W101 (d_jdk_52_method_16_4) rfl rfl ?_
  refine g_iload_n B W101 (d_jdk_52_method_16_5) rfl ?_
  refine g_aload_n B W101 (d_jdk_52_method_16_6) rfl rfl ?_
  refine g_iconst B W101 (d_jdk_52_method_16_7) (v := 0) (by decide) ?_
  refine g_iload_n B W101 (d_jdk_52_method_16_8) rfl ?_
  have f103 := (A1.keep K101 nin0)
  obtain ⟨T104, h104, v104, W104, Q104, st104⟩ := x_static B W101 [(.ref ar), (.int 0), (.ref b101), (.int 0), (.int 2)] (c_comp5 l Z a0 hw ar kA b101 cA101 q0 q1 h101 f103 A101 (by omega) (by omega) rq0 rq1) (by simp) (d_jdk_52_method_16_9) (tw hw 149 rfl) (tw hw 150 rfl) (tw hw 147 rfl) (tw hw 151 rfl) (by decide) (lenOf pd___CI_BII_I rfl) #[.val (.ref ar), .val (.int 0), .val (.int 2), .val (.ref b101), .unset, .unset] [] rfl 0 rfl (by decide) (by decide) (by decide) (by decide)
  obtain ⟨rfl, K104, x104, y104, A104⟩ := Q104
  have s105 := K104.1
  refine st104 _ ?_
  refine g_istore B W104 (d_jdk_52_method_16_12)  (l' := #[.val (.ref ar), .val (.int 0), .val (.int 2), .val (.ref b101), .val (.int 2), .unset]) rfl ?_
  refine g_iload B W104 (d_jdk_52_method_16_14) rfl ?_
  refine g_iload_n B W104 (d_jdk_52_method_16_16) rfl ?_
  refine g_icmp_y B W104 (d_jdk_52_method_16_17) (XT.ii_eq_t (by decide)) (pc' := 57) (by decide) ?_
  show Go p.tables e below _ T104 (mkF m 57 #[.val (.ref ar), .val (.int 0), .val (.int 2), .val (.ref b101), .val (.int 2), .unset] [])
  refine g_aload_n B W104 (d_jdk_52_method_16_57) rfl rfl ?_
  have f106 := (E101.keep K104)
  exact r_a B W104 rfl rfl rfl (d_jdk_52_method_16_58) (by decide) (by decide) ⟨by omega, _, _, _, _, rfl, by omega, (((Keep.refl h0 []).trans K101 all0).trans K104 (allS (Or.inr (by omega)) all0)), f106, A104⟩
theorem ef_cfal (m : MethodId) (ar : Addr) (kb : ClassId) (x : Int32) (y : Int32) : entryFrame m #[(.ref ar), (.int 2)] 2 = mkF m 0 #[.val (.ref ar), .val (.int 2)] [] := by first | (simp [entryFrame, mkF, argsToLocals, Value.category]; done) | rfl
def Q_cfal (Z : State) (ar : Addr) (kb : ClassId) (x : Int32) (y : Int32) (h0 : Heap) (v : Option Value) (h : Heap) : Prop := v = some (.int 0) ∧ h0 = h
set_option maxRecDepth 65536 in
set_option maxHeartbeats 40000000 in
theorem c_cfal (l : Launch) (Z : State) (a0 : Array Value) (hw : ∀ d ∈ tables_1, d.before a0 Z = true) (ar : Addr) (kb : ClassId) (x : Int32) (y : Int32) (h0 : Heap) (A1 : Arv Z h0 ar kb .byte 2 [.int x, .int y] (.int 0)) :
    Con l Z (⟨"java/lang/StringUTF16", "coderFromArrayLen", "([BI)B"⟩ : MethodName) jdk_52_method_15_code 2 (Option.some FieldType.byte) [] ({ frames := 0, cells := 0, slots := 0, locals := 0 } : Room) #[(.ref ar), (.int 2)] h0 (Q_cfal Z ar kb x y h0) [] := by
  refine Con.of (plainFor_of_name pn_java_lang_StringUTF16) ?_
  intro p e s m below meth c T0 B W0
  refine Go.cast (ef_cfal m ar kb x y ) ?_
  refine g_iload_n B W0 (d_jdk_52_method_15_0) rfl ?_
  refine g_aload_n B W0 (d_jdk_52_method_15_1) rfl rfl ?_
  refine g_aalen B W0 (d_jdk_52_method_15_2) A1 ?_
  refine g_isub B W0 (d_jdk_52_method_15_3)  ?_
  rw [show (2 - 2 : Int32) = 0 by decide]
  refine g_bipush B W0 (d_jdk_52_method_15_4) (v := 31) (by decide) ?_
  refine g_iushr B W0 (d_jdk_52_method_15_6)  ?_
  refine g_i2b B W0 (d_jdk_52_method_15_7)  ?_
  exact r_n B W0 (t := .byte) rfl (by simp) (d_jdk_52_method_15_8) (by decide) (by decide) ⟨congrArg (fun q => some (Value.int q)) (by decide), rfl⟩
theorem ef_sI4t (m : MethodId) (a1 : Addr) (ar : Addr) (kA : ClassId) (q0 : Int32) (q1 : Int32) (cz : Int32) : entryFrame m #[(.ref a1), (.ref ar), (.int 0), (.int 2), .null] 6 = mkF m 0 #[.val (.ref a1), .val (.ref ar), .val (.int 0), .val (.int 2), .val .null, .unset] [] := by first | (simp [entryFrame, mkF, argsToLocals, Value.category]; done) | rfl
def Q_sI4t (Z : State) (a1 : Addr) (ar : Addr) (kA : ClassId) (q0 : Int32) (q1 : Int32) (cz : Int32) (h0 : Heap) (v : Option Value) (h : Heap) : Prop := v = none ∧ Keep h0 h [a1] ∧ Str2 Z h a1
set_option maxRecDepth 65536 in
set_option maxHeartbeats 40000000 in
theorem c_sI4t (l : Launch) (Z : State) (a0 : Array Value) (hw : ∀ d ∈ tables_1, d.before a0 Z = true) (a1 : Addr) (ar : Addr) (kA : ClassId) (q0 : Int32) (q1 : Int32) (cz : Int32) (h0 : Heap) (E1 : Exa Z h0 a1 "java/lang/String") (F1 : Fld Z h0 a1 "java/lang/String" "value" "[B" .null) (F2 : Fld Z h0 a1 "java/lang/String" "coder" "B" (.int 0)) (g1 : Z.heap.size ≤ a1) (A1 : Arv Z h0 ar kA .char 2 [.int q0, .int q1] (.int 0)) (rq0 : ¬ q0 < 0 ∧ ¬ 255 < q0) (rq1 : ¬ q1 < 0 ∧ ¬ 255 < q1) (Scs : Sta Z Z.heap "java/lang/String" "COMPACT_STRINGS" "Z" (.int cz)) (hcz : ¬ cz = 0) :
    Con l Z (⟨"java/lang/String", "<init>", "([CIILjava/lang/Void;)V"⟩ : MethodName) jdk_42_method_149_code 6 (Option.none : Option FieldType) [] ({ frames := 2, cells := 1, slots := 2, locals := 35 } : Room) #[(.ref a1), (.ref ar), (.int 0), (.int 2), .null] h0 (Q_sI4t Z a1 ar kA q0 q1 cz h0) [a1] := by
  refine Con.of (plainFor_of_name pn_java_lang_String) ?_
  intro p e s m below meth c T0 B W0
  refine Go.cast (ef_sI4t m a1 ar kA q0 q1 cz ) ?_
  have l_a1 := nlt E1.lt
  have l_ar := nlt A1.lt
  refine g_aload_n B W0 (d_jdk_42_method_149_0) rfl rfl ?_
  obtain ⟨T101, W101, st101⟩ := x_init B W0 (d_jdk_42_method_149_1) (tw hw 15 rfl) (tw hw 16 rfl) (tw hw 17 rfl) a1 #[.val (.ref a1), .val (.ref ar), .val (.int 0), .val (.int 2), .val .null, .unset] [] rfl 0 rfl (by decide) (by decide)
  refine st101 _ ?_
  refine g_iload_n B W101 (d_jdk_42_method_149_4) rfl ?_
  refine g_if_y B W101 (d_jdk_42_method_149_5) (XT.i0_ne_t (by decide)) (pc' := 27) (by decide) ?_
  show Go p.tables e below _ T101 (mkF m 27 #[.val (.ref a1), .val (.ref ar), .val (.int 0), .val (.int 2), .val .null, .unset] [])
  obtain ⟨T102, W102, st102⟩ := x_gets B W101 (host := "") (d_jdk_42_method_149_27) (Or.inl (tw hw 52 rfl)) Via.refl Scs #[.val (.ref a1), .val (.ref ar), .val (.int 0), .val (.int 2), .val .null, .unset] []
  refine st102 _ ?_
  refine g_if_n B W102 (d_jdk_42_method_149_30) (XT.i0_eq_f hcz) ?_
  show Go p.tables e below _ T102 (mkF m 33 #[.val (.ref a1), .val (.ref ar), .val (.int 0), .val (.int 2), .val .null, .unset] [])
  refine g_aload_n B W102 (d_jdk_42_method_149_33) rfl rfl ?_
  refine g_iload_n B W102 (d_jdk_42_method_149_34) rfl ?_
  refine g_iload_n B W102 (d_jdk_42_method_149_35) rfl ?_
  obtain ⟨T103, h103, v103, W103, Q103, st103⟩ := x_static B W102 [(.ref ar), (.int 0), (.int 2)] (c_comp3 l Z a0 hw ar kA q0 q1 h0 A1 rq0 rq1) (by simp) (d_jdk_42_method_149_36) (tw hw 145 rfl) (tw hw 146 rfl) (tw hw 147 rfl) (tw hw 148 rfl) (by decide) (lenOf pd___CII__B rfl) #[.val (.ref a1), .val (.ref ar), .val (.int 0), .val (.int 2), .val .null, .unset] [] rfl 0 rfl (by decide) (by decide) (by decide) (by decide)
  obtain ⟨-, b103, kb103, x103, y103, rfl, g103, K103, E103, A103⟩ := Q103
  have s104 := K103.1
  refine st103 _ ?_
  have l103 := nlt A103.lt
  refine g_astore B W103 (d_jdk_42_method_149_39) rfl (l' := #[.val (.ref a1), .val (.ref ar), .val (.int 0), .val (.int 2), .val .null, .val (.ref b103)]) rfl ?_
  refine g_aload_n B W103 (d_jdk_42_method_149_41) rfl rfl ?_
  refine g_aload B W103 (d_jdk_42_method_149_42) rfl rfl ?_
  refine g_iload_n B W103 (d_jdk_42_method_149_44) rfl ?_
  obtain ⟨T105, h105, v105, W105, Q105, st105⟩ := x_static B W103 [(.ref b103), (.int 2)] (c_cfal l Z a0 hw b103 kb103 x103 y103 h103 A103) (by simp) (d_jdk_42_method_149_45) (tw hw 152 rfl) (tw hw 153 rfl) (tw hw 147 rfl) (tw hw 154 rfl) (by decide) (lenOf pd___BI_B rfl) #[.val (.ref a1), .val (.ref ar), .val (.int 0), .val (.int 2), .val .null, .val (.ref b103)] [(.ref a1)] rfl 1 rfl (by decide) (by decide) (by decide) (by decide)
  obtain ⟨rfl, rfl⟩ := Q105
  refine st105 _ ?_
  have f106 := (F2.keep K103 nin0)
  have f107 := (E1.keep K103)
  obtain ⟨T108, h108, W108, K108, R108, F108, E108, st108⟩ := x_put B W105 (d_jdk_42_method_149_48) ((tw hw 25 rfl)) Via.refl f106 f107 (Or.inr ⟨ (tw hw 21 rfl), rfl, rfl⟩) (tw hw 5 rfl) (ty := .byte) (v := (.int 0)) (v' := (.int 0)) (by decide) rfl rfl (by omega) (Or.inr (by simp)) #[.val (.ref a1), .val (.ref ar), .val (.int 0), .val (.int 2), .val .null, .val (.ref b103)] []
  refine st108 _ ?_
  have f109 := (F1.keep K103 nin0)
  have f110 := f109.other R108 (Or.inr (slot_ne (Or.inr (tw hw 20 rfl)) (Or.inr (tw hw 21 rfl)) (by decide) (t := (.array .byte)) (t' := .byte) (by decide) (by decide)))
  have s111 := K108.1
  refine g_aload_n B W108 (d_jdk_42_method_149_51) rfl rfl ?_
  refine g_aload B W108 (d_jdk_42_method_149_52) rfl rfl ?_
  obtain ⟨T112, h112, W112, K112, R112, F112, E112, st112⟩ := x_put B W108 (d_jdk_42_method_149_54) ((tw hw 24 rfl)) Via.refl f110 E108 (Or.inr ⟨ (tw hw 20 rfl), rfl, rfl⟩) (tw hw 5 rfl) (ty := (.array .byte)) (v := (.ref b103)) (v' := (.ref b103)) (by decide) rfl rfl (by omega) (Or.inr (by simp)) #[.val (.ref a1), .val (.ref ar), .val (.int 0), .val (.int 2), .val .null, .val (.ref b103)] []
  refine st112 _ ?_
  have f113 := F108.other R112 (Or.inr (slot_ne (Or.inr (tw hw 21 rfl)) (Or.inr (tw hw 20 rfl)) (by decide) (t := .byte) (t' := (.array .byte)) (by decide) (by decide)))
  have s114 := K112.1
  have f115 := ((E103.keep K108).keep K112)
  have f116 := (A103.keep K108 (ninS (nne (by have q := nlt A103.lt; omega)) nin0))
  have f117 := (f116.keep K112 (ninS (nne (by have q := nlt f116.lt; omega)) nin0))
  exact r_v B W112 (d_jdk_42_method_149_57) (by decide) (by decide) ⟨rfl, ((((Keep.refl h0 [a1]).trans K103 all0).trans K108 (allS (Or.inl (by simp)) all0)).trans K112 (allS (Or.inl (by simp)) all0)), ⟨_, E112, f113, F112, f115, _, Or.inr (Or.inr ⟨_, _, f117⟩)⟩⟩
theorem ef_sI1t (m : MethodId) (a1 : Addr) (ar : Addr) (kA : ClassId) (q0 : Int32) (q1 : Int32) (cz : Int32) : entryFrame m #[(.ref a1), (.ref ar)] 2 = mkF m 0 #[.val (.ref a1), .val (.ref ar)] [] := by first | (simp [entryFrame, mkF, argsToLocals, Value.category]; done) | rfl
def Q_sI1t (Z : State) (a1 : Addr) (ar : Addr) (kA : ClassId) (q0 : Int32) (q1 : Int32) (cz : Int32) (h0 : Heap) (v : Option Value) (h : Heap) : Prop := v = none ∧ Keep h0 h [a1] ∧ Str2 Z h a1
set_option maxRecDepth 65536 in
set_option maxHeartbeats 40000000 in
theorem c_sI1t (l : Launch) (Z : State) (a0 : Array Value) (hw : ∀ d ∈ tables_1, d.before a0 Z = true) (a1 : Addr) (ar : Addr) (kA : ClassId) (q0 : Int32) (q1 : Int32) (cz : Int32) (h0 : Heap) (E1 : Exa Z h0 a1 "java/lang/String") (F1 : Fld Z h0 a1 "java/lang/String" "value" "[B" .null) (F2 : Fld Z h0 a1 "java/lang/String" "coder" "B" (.int 0)) (g1 : Z.heap.size ≤ a1) (A1 : Arv Z h0 ar kA .char 2 [.int q0, .int q1] (.int 0)) (rq0 : ¬ q0 < 0 ∧ ¬ 255 < q0) (rq1 : ¬ q1 < 0 ∧ ¬ 255 < q1) (Scs : Sta Z Z.heap "java/lang/String" "COMPACT_STRINGS" "Z" (.int cz)) (hcz : ¬ cz = 0) :
    Con l Z (⟨"java/lang/String", "<init>", "([C)V"⟩ : MethodName) jdk_42_method_3_code 2 (Option.none : Option FieldType) [] ({ frames := 3, cells := 1, slots := 2, locals := 52 } : Room) #[(.ref a1), (.ref ar)] h0 (Q_sI1t Z a1 ar kA q0 q1 cz h0) [a1] := by
  refine Con.of (plainFor_of_name pn_java_lang_String) ?_
  intro p e s m below meth c T0 B W0
  refine Go.cast (ef_sI1t m a1 ar kA q0 q1 cz ) ?_
  have l_a1 := nlt E1.lt
  refine g_aload_n B W0 (d_jdk_42_method_3_0) rfl rfl ?_
  refine g_aload_n B W0 (d_jdk_42_method_3_1) rfl rfl ?_
  refine g_iconst B W0 (d_jdk_42_method_3_2) (v := 0) (by decide) ?_
  refine g_aload_n B W0 (d_jdk_42_method_3_3) rfl rfl ?_
  refine g_aalen B W0 (d_jdk_42_method_3_4) A1 ?_
  refine g_aconst_null B W0 (d_jdk_42_method_3_5)  ?_
  obtain ⟨T101, h101, v101, W101, Q101, st101⟩ := x_special B W0 (b := a1) [(.ref ar), (.int 0), (.int 2), .null] (c_sI4t l Z a0 hw a1 ar kA q0 q1 cz h0 E1 F1 F2 g1 A1 rq0 rq1 Scs hcz) (by simp) (d_jdk_42_method_3_6) rfl (tw hw 11 rfl) (tw hw 12 rfl) (tw hw 6 rfl) (tw hw 14 rfl) (by decide) (lenOf pd___CIILjava_lang_Void__V rfl) #[.val (.ref a1), .val (.ref ar)] [] rfl 0 rfl (by decide) (by decide) (by decide) (by decide)
  obtain ⟨rfl, K101, S101⟩ := Q101
  have s102 := K101.1
  refine st101 _ ?_
  exact r_v B W101 (d_jdk_42_method_3_9) (by decide) (by decide) ⟨rfl, K101, S101⟩
theorem ef_canEnc (m : MethodId) (q0 : Int32) : entryFrame m #[(.int q0)] 1 = mkF m 0 #[.val (.int q0)] [] := by first | (simp [entryFrame, mkF, argsToLocals, Value.category]; done) | rfl
def Q_canEnc (Z : State) (q0 : Int32) (h0 : Heap) (v : Option Value) (h : Heap) : Prop := v = some (.int 1) ∧ h0 = h
set_option maxRecDepth 65536 in
set_option maxHeartbeats 40000000 in
theorem c_canEnc (l : Launch) (Z : State) (a0 : Array Value) (hw : ∀ d ∈ tables_1, d.before a0 Z = true) (q0 : Int32) (h0 : Heap) (rq0 : ¬ q0 < 0 ∧ ¬ 255 < q0) :
    Con l Z (⟨"java/lang/StringLatin1", "canEncode", "(C)Z"⟩ : MethodName) jdk_43_method_3_code 1 (Option.some FieldType.boolean) [] ({ frames := 0, cells := 0, slots := 0, locals := 0 } : Room) #[(.int q0)] h0 (Q_canEnc Z q0 h0) [] := by
  refine Con.of (plainFor_of_name pn_java_lang_StringLatin1) ?_
  intro p e s m below meth c T0 B W0
  refine Go.cast (ef_canEnc m q0 ) ?_
  refine g_iload_n B W0 (d_jdk_43_method_3_0) rfl ?_
  refine g_sipush B W0 (d_jdk_43_method_3_1) (v := 255) (by decide) ?_
  refine g_icmp_n B W0 (d_jdk_43_method_3_4) (XT.ii_gt_f rq0.2) ?_
  show Go p.tables e below _ T0 (mkF m 7 #[.val (.int q0)] [])
  refine g_iconst B W0 (d_jdk_43_method_3_7) (v := 1) (by decide) ?_
  refine g_goto B W0 (d_jdk_43_method_3_8) (pc' := 12) (by decide) ?_
  show Go p.tables e below _ T0 (mkF m 12 #[.val (.int q0)] [(.int 1)])
  exact r_n B W0 (t := .boolean) rfl (by simp) (d_jdk_43_method_3_12) (by decide) (by decide) ⟨by rw [nar_b1], rfl⟩
theorem ef_toB (m : MethodId) (q0 : Int32) : entryFrame m #[(.int q0)] 1 = mkF m 0 #[.val (.int q0)] [] := by first | (simp [entryFrame, mkF, argsToLocals, Value.category]; done) | rfl
def Q_toB (Z : State) (q0 : Int32) (h0 : Heap) (v : Option Value) (h : Heap) : Prop := ∃ (b : Addr) (kb : ClassId) (x : Int32), v = some (.ref b) ∧ h0.size ≤ b ∧ Keep h0 h [] ∧ Exa Z h b "[B" ∧ Arv Z h b kb .byte 1 [.int x] (.int 0)
set_option maxRecDepth 65536 in
set_option maxHeartbeats 40000000 in
theorem c_toB (l : Launch) (Z : State) (a0 : Array Value) (hw : ∀ d ∈ tables_1, d.before a0 Z = true) (q0 : Int32) (h0 : Heap) :
    Con l Z (⟨"java/lang/StringLatin1", "toBytes", "(C)[B"⟩ : MethodName) jdk_43_method_46_code 1 (Option.some (FieldType.array FieldType.byte)) [] ({ frames := 0, cells := 1, slots := 1, locals := 0 } : Room) #[(.int q0)] h0 (Q_toB Z q0 h0) [] := by
  refine Con.of (plainFor_of_name pn_java_lang_StringLatin1) ?_
  intro p e s m below meth c T0 B W0
  refine Go.cast (ef_toB m q0 ) ?_
  refine g_iconst B W0 (d_jdk_43_method_46_0) (v := 1) (by decide) ?_
  obtain ⟨T101, h101, b101, cA101, gb101, W101, K101, A101, E101, st101⟩ := x_newE B W0 (z := 1) (ad := "[B") 1 (d_jdk_43_method_46_1) (tw hw 19 rfl) (by decide) (by decide) (by decide) (by decide) (by decide) rfl #[.val (.int q0)] []
  have l101 := nlt A101.lt
  have z101 := W0.size
  refine st101 _ ?_
  have s102 := K101.1
  refine g_dup B W101 (d_jdk_43_method_46_3) rfl ?_
  refine g_iconst B W101 (d_jdk_43_method_46_4) (v := 0) (by decide) ?_
  refine g_iload_n B W101 (d_jdk_43_method_46_5) rfl ?_
  refine g_i2b B W101 (d_jdk_43_method_46_6)  ?_
  obtain ⟨T103, h103, W103, K103, A103, st103⟩ := x_bastore B W101 (j := 0) (x := (q0 : Int32).toInt8.toInt32) (d_jdk_43_method_46_7) A101 (by decide) (Nat.lt_of_lt_of_eq (show Int32.toNatClampNeg 0 < 1 by decide) rfl) (by omega) (by simp) #[.val (.int q0)] [(.ref b101)]
  refine st103 _ ?_
  generalize nar .byte (q0 : Int32).toInt8.toInt32 = yb103 at A103
  have A103 : Arv Z h103 b101 cA101 .byte 1 [(.int yb103)] (.int 0) := A103
  have s104 := K103.1
  have f105 := (E101.keep K103)
  exact r_a B W103 rfl rfl rfl (d_jdk_43_method_46_8) (by decide) (by decide) ⟨_, _, _, rfl, by omega, (((Keep.refl h0 []).trans K101 all0).trans K103 (allS (Or.inr (by omega)) all0)), f105, A103⟩
theorem ef_siB (m : MethodId) (a1 : Addr) (ar : Addr) : entryFrame m #[(.ref a1), (.ref ar), (.int 0)] 3 = mkF m 0 #[.val (.ref a1), .val (.ref ar), .val (.int 0)] [] := by first | (simp [entryFrame, mkF, argsToLocals, Value.category]; done) | rfl
def Q_siB (Z : State) (a1 : Addr) (ar : Addr) (h0 : Heap) (v : Option Value) (h : Heap) : Prop := v = none ∧ Keep h0 h [a1] ∧ Exa Z h a1 "java/lang/String" ∧ Fld Z h a1 "java/lang/String" "value" "[B" (.ref ar) ∧ Fld Z h a1 "java/lang/String" "coder" "B" (.int 0)
set_option maxRecDepth 65536 in
set_option maxHeartbeats 40000000 in
theorem c_siB (l : Launch) (Z : State) (a0 : Array Value) (hw : ∀ d ∈ tables_1, d.before a0 Z = true) (a1 : Addr) (ar : Addr) (h0 : Heap) (E1 : Exa Z h0 a1 "java/lang/String") (F1 : Fld Z h0 a1 "java/lang/String" "value" "[B" .null) (F2 : Fld Z h0 a1 "java/lang/String" "coder" "B" (.int 0)) (g1 : Z.heap.size ≤ a1) :
    Con l Z (⟨"java/lang/String", "<init>", "([BB)V"⟩ : MethodName) jdk_42_method_151_code 3 (Option.none : Option FieldType) [] ({ frames := 1, cells := 0, slots := 0, locals := 12 } : Room) #[(.ref a1), (.ref ar), (.int 0)] h0 (Q_siB Z a1 ar h0) [a1] := by
  refine Con.of (plainFor_of_name pn_java_lang_String) ?_
  intro p e s m below meth c T0 B W0
  refine Go.cast (ef_siB m a1 ar ) ?_
  have l_a1 := nlt E1.lt
  refine g_aload_n B W0 (d_jdk_42_method_151_0) rfl rfl ?_
  obtain ⟨T101, W101, st101⟩ := x_init B W0 (d_jdk_42_method_151_1) (tw hw 15 rfl) (tw hw 16 rfl) (tw hw 17 rfl) a1 #[.val (.ref a1), .val (.ref ar), .val (.int 0)] [] rfl 0 rfl (by decide) (by decide)
  refine st101 _ ?_
  refine g_aload_n B W101 (d_jdk_42_method_151_4) rfl rfl ?_
  refine g_aload_n B W101 (d_jdk_42_method_151_5) rfl rfl ?_
  obtain ⟨T102, h102, W102, K102, R102, F102, E102, st102⟩ := x_put B W101 (d_jdk_42_method_151_6) ((tw hw 24 rfl)) Via.refl F1 E1 (Or.inr ⟨ (tw hw 20 rfl), rfl, rfl⟩) (tw hw 5 rfl) (ty := (.array .byte)) (v := (.ref ar)) (v' := (.ref ar)) (by decide) rfl rfl (by omega) (Or.inr (by simp)) #[.val (.ref a1), .val (.ref ar), .val (.int 0)] []
  refine st102 _ ?_
  have f103 := F2.other R102 (Or.inr (slot_ne (Or.inr (tw hw 21 rfl)) (Or.inr (tw hw 20 rfl)) (by decide) (t := .byte) (t' := (.array .byte)) (by decide) (by decide)))
  have s104 := K102.1
  refine g_aload_n B W102 (d_jdk_42_method_151_9) rfl rfl ?_
  refine g_iload_n B W102 (d_jdk_42_method_151_10) rfl ?_
  obtain ⟨T105, h105, W105, K105, R105, F105, E105, st105⟩ := x_put B W102 (d_jdk_42_method_151_11) ((tw hw 25 rfl)) Via.refl f103 E102 (Or.inr ⟨ (tw hw 21 rfl), rfl, rfl⟩) (tw hw 5 rfl) (ty := .byte) (v := (.int 0)) (v' := (.int 0)) (by decide) rfl rfl (by omega) (Or.inr (by simp)) #[.val (.ref a1), .val (.ref ar), .val (.int 0)] []
  refine st105 _ ?_
  have f106 := F102.other R105 (Or.inr (slot_ne (Or.inr (tw hw 20 rfl)) (Or.inr (tw hw 21 rfl)) (by decide) (t := (.array .byte)) (t' := .byte) (by decide) (by decide)))
  have s107 := K105.1
  exact r_v B W105 (d_jdk_42_method_151_14) (by decide) (by decide) ⟨rfl, (((Keep.refl h0 [a1]).trans K102 (allS (Or.inl (by simp)) all0)).trans K105 (allS (Or.inl (by simp)) all0)), E105, f106, F105⟩
theorem ef_vOf (m : MethodId) (q0 : Int32) (cz : Int32) : entryFrame m #[(.int q0)] 1 = mkF m 0 #[.val (.int q0)] [] := by first | (simp [entryFrame, mkF, argsToLocals, Value.category]; done) | rfl
def Q_vOf (Z : State) (q0 : Int32) (cz : Int32) (h0 : Heap) (v : Option Value) (h : Heap) : Prop := ∃ b, v = some (.ref b) ∧ Keep h0 h [] ∧ Str2 Z h b
set_option maxRecDepth 65536 in
set_option maxHeartbeats 40000000 in
theorem c_vOf (l : Launch) (Z : State) (a0 : Array Value) (hw : ∀ d ∈ tables_1, d.before a0 Z = true) (q0 : Int32) (cz : Int32) (h0 : Heap) (rq0 : ¬ q0 < 0 ∧ ¬ 255 < q0) (Scs : Sta Z Z.heap "java/lang/String" "COMPACT_STRINGS" "Z" (.int cz)) (hcz : ¬ cz = 0) :
    Con l Z (⟨"java/lang/String", "valueOf", "(C)Ljava/lang/String;"⟩ : MethodName) jdk_42_method_139_code 1 (Option.some (FieldType.object "java/lang/String")) [] ({ frames := 2, cells := 2, slots := 5, locals := 27 } : Room) #[(.int q0)] h0 (Q_vOf Z q0 cz h0) [] := by
  refine Con.of (plainFor_of_name pn_java_lang_String) ?_
  intro p e s m below meth c T0 B W0
  refine Go.cast (ef_vOf m q0 cz ) ?_
  obtain ⟨T101, W101, st101⟩ := x_gets B W0 (host := "") (d_jdk_42_method_139_0) (Or.inl (tw hw 52 rfl)) Via.refl Scs #[.val (.int q0)] []
  refine st101 _ ?_
  refine g_if_n B W101 (d_jdk_42_method_139_3) (XT.i0_eq_f hcz) ?_
  show Go p.tables e below _ T101 (mkF m 6 #[.val (.int q0)] [])
  refine g_iload_n B W101 (d_jdk_42_method_139_6) rfl ?_
  obtain ⟨T102, h102, v102, W102, Q102, st102⟩ := x_static B W101 [(.int q0)] (c_canEnc l Z a0 hw q0 h0 rq0) (by simp) (d_jdk_42_method_139_7) (tw hw 158 rfl) (tw hw 159 rfl) (tw hw 160 rfl) (tw hw 161 rfl) (by decide) (lenOf pd__C_Z rfl) #[.val (.int q0)] [] rfl 0 rfl (by decide) (by decide) (by decide) (by decide)
  obtain ⟨rfl, rfl⟩ := Q102
  refine st102 _ ?_
  refine g_if_n B W102 (d_jdk_42_method_139_10) (XT.i0_eq_f (by decide)) ?_
  show Go p.tables e below _ T102 (mkF m 13 #[.val (.int q0)] [])
  obtain ⟨T103, h103, b103, gb103, W103, K103, E103, D103, st103⟩ := x_new B W102 (d_jdk_42_method_139_13) (tw hw 162 rfl) (tw hw 5 rfl) (tw hw 6 rfl) (by decide) (by decide) #[.val (.int q0)] []
  have l103 := nlt E103.lt
  have z103 := W102.size
  refine st103 _ ?_
  have s104 := K103.1
  have f105 : Fld Z h103 b103 "java/lang/String" "value" "[B" .null := D103 (Or.inr (tw hw 20 rfl)) (ty := (.array .byte)) (by decide)
  have f106 : Fld Z h103 b103 "java/lang/String" "coder" "B" (.int 0) := D103 (Or.inr (tw hw 21 rfl)) (ty := .byte) (by decide)
  refine g_dup B W103 (d_jdk_42_method_139_16) rfl ?_
  refine g_iload_n B W103 (d_jdk_42_method_139_17) rfl ?_
  obtain ⟨T107, h107, v107, W107, Q107, st107⟩ := x_static B W103 [(.int q0)] (c_toB l Z a0 hw q0 h103) (by simp) (d_jdk_42_method_139_18) (tw hw 163 rfl) (tw hw 164 rfl) (tw hw 160 rfl) (tw hw 165 rfl) (by decide) (lenOf pd__C__B rfl) #[.val (.int q0)] [(.ref b103), (.ref b103)] rfl 2 rfl (by decide) (by decide) (by decide) (by decide)
  obtain ⟨b107, kb107, x107, rfl, g107, K107, E107, A107⟩ := Q107
  have s108 := K107.1
  refine st107 _ ?_
  have l107 := nlt A107.lt
  refine g_iconst B W107 (d_jdk_42_method_139_21) (v := 0) (by decide) ?_
  have f109 := (E103.keep K107)
  have f110 := (f105.keep K107 nin0)
  have f111 := (f106.keep K107 nin0)
  obtain ⟨T112, h112, v112, W112, Q112, st112⟩ := x_special B W107 (b := b103) [(.ref b107), (.int 0)] (c_siB l Z a0 hw b103 b107 h107 f109 f110 f111 (by omega)) (by simp) (d_jdk_42_method_139_22) rfl (tw hw 166 rfl) (tw hw 167 rfl) (tw hw 6 rfl) (tw hw 168 rfl) (by decide) (lenOf pd___BB_V rfl) #[.val (.int q0)] [(.ref b103)] rfl 1 rfl (by decide) (by decide) (by decide) (by decide)
  obtain ⟨rfl, K112, E112, Fv112, Fc112⟩ := Q112
  have s113 := K112.1
  refine st112 _ ?_
  have f114 := (E107.keep K112)
  have f115 := (A107.keep K112 (ninS (nne (by have q := nlt A107.lt; omega)) nin0))
  exact r_a B W112 rfl rfl rfl (d_jdk_42_method_139_25) (by decide) (by decide) ⟨_, rfl, ((((Keep.refl h0 []).trans K103 all0).trans K107 all0).trans K112 (allS (Or.inr (by omega)) all0)), ⟨_, E112, Fc112, Fv112, f114, _, Or.inr (Or.inl ⟨_, f115⟩)⟩⟩
theorem ef_mk (m : MethodId) (px : Int32) (cz : Int32) : entryFrame m #[(.int px)] 5 = mkF m 0 #[.val (.int px), .unset, .unset, .unset, .unset] [] := by first | (simp [entryFrame, mkF, argsToLocals, Value.category]; done) | rfl
def Q_mk (Z : State) (px : Int32) (cz : Int32) (h0 : Heap) (v : Option Value) (h : Heap) : Prop := ∃ b, v = some (.ref b) ∧ Keep h0 h [] ∧ Str2 Z h b
set_option maxRecDepth 65536 in
set_option maxHeartbeats 40000000 in
theorem c_mk (l : Launch) (Z : State) (a0 : Array Value) (hw : ∀ d ∈ tables_1, d.before a0 Z = true) (px : Int32) (cz : Int32) (h0 : Heap) (Scs : Sta Z Z.heap "java/lang/String" "COMPACT_STRINGS" "Z" (.int cz)) (hcz : ¬ cz = 0) :
    Con l Z (⟨"com/example/outbox_relay/outboxrelay/OutboxMessageWithBusinessKeyPinLaw", "mk", "(I)Ljava/lang/String;"⟩ : MethodName) method_2_code 5 (Option.some (FieldType.object "java/lang/String")) [] ({ frames := 4, cells := 6, slots := 12, locals := 66 } : Room) #[(.int px)] h0 (Q_mk Z px cz h0) [] := by
  refine Con.of (plainFor_of_name pn_com_example_outbox_relay_outboxrelay_OutboxMessageWithBusinessKeyPinLaw) ?_
  intro p e s m below meth c T0 B W0
  refine Go.cast (ef_mk m px cz ) ?_
  refine g_iload_n B W0 (d_method_2_0) rfl ?_
  refine g_bipush B W0 (d_method_2_1) (v := 16) (by decide) ?_
  refine g_iushr B W0 (d_method_2_3)  ?_
  refine g_sipush B W0 (d_method_2_4) (v := 32767) (by decide) ?_
  refine g_iand B W0 (d_method_2_7)  ?_
  refine g_iconst B W0 (d_method_2_8) (v := 3) (by decide) ?_
  refine g_irem B W0 (d_method_2_9) (by decide) ?_
  refine g_istore_n B W0 (d_method_2_10)  (l' := #[.val (.int px), .val (.int (((XT.ushr px 16) &&& 32767) % 3)), .unset, .unset, .unset]) rfl ?_
  refine g_iload_n B W0 (d_method_2_11) rfl ?_
  refine g_sipush B W0 (d_method_2_12) (v := 255) (by decide) ?_
  refine g_iand B W0 (d_method_2_15)  ?_
  refine g_i2c B W0 (d_method_2_16)  ?_
  obtain ⟨x101, ex101, nx101, rx101⟩ := own_i2cm px
  rw [ex101]
  refine g_istore_n B W0 (d_method_2_17)  (l' := #[.val (.int px), .val (.int (((XT.ushr px 16) &&& 32767) % 3)), .val (.int x101), .unset, .unset]) rfl ?_
  refine g_iload_n B W0 (d_method_2_18) rfl ?_
  refine g_bipush B W0 (d_method_2_19) (v := 8) (by decide) ?_
  refine g_iushr B W0 (d_method_2_21)  ?_
  refine g_sipush B W0 (d_method_2_22) (v := 255) (by decide) ?_
  refine g_iand B W0 (d_method_2_25)  ?_
  refine g_i2c B W0 (d_method_2_26)  ?_
  obtain ⟨x102, ex102, nx102, rx102⟩ := own_i2cm (XT.ushr px 8)
  rw [ex102]
  refine g_istore_n B W0 (d_method_2_27)  (l' := #[.val (.int px), .val (.int (((XT.ushr px 16) &&& 32767) % 3)), .val (.int x101), .val (.int x102), .unset]) rfl ?_
  refine g_iload_n B W0 (d_method_2_28) rfl ?_
  by_cases hc103 : (((XT.ushr px 16) &&& 32767) % 3) = 0
  · skip
    refine g_if_n B W0 (d_method_2_29) (XT.i0_ne_f hc103) ?_
    show Go p.tables e below _ T0 (mkF m 32 #[.val (.int px), .val (.int (((XT.ushr px 16) &&& 32767) % 3)), .val (.int x101), .val (.int x102), .unset] [])
    obtain ⟨T104, h104, b104, gb104, W104, K104, E104, D104, st104⟩ := x_new B W0 (d_method_2_32) (tw hw 4 rfl) (tw hw 5 rfl) (tw hw 6 rfl) (by decide) (by decide) #[.val (.int px), .val (.int (((XT.ushr px 16) &&& 32767) % 3)), .val (.int x101), .val (.int x102), .unset] []
    have l104 := nlt E104.lt
    have z104 := W0.size
    refine st104 _ ?_
    have s105 := K104.1
    have f106 : Fld Z h104 b104 "java/lang/String" "value" "[B" .null := D104 (Or.inr (tw hw 20 rfl)) (ty := (.array .byte)) (by decide)
    have f107 : Fld Z h104 b104 "java/lang/String" "coder" "B" (.int 0) := D104 (Or.inr (tw hw 21 rfl)) (ty := .byte) (by decide)
    refine g_dup B W104 (d_method_2_35) rfl ?_
    refine g_iconst B W104 (d_method_2_36) (v := 0) (by decide) ?_
    obtain ⟨T108, h108, b108, cA108, gb108, W108, K108, A108, st108⟩ := x_newA B W104 (z := 0) 0 (d_method_2_37) (tw hw 7 rfl) (by decide) (by decide) (by decide) (by decide) (by decide) #[.val (.int px), .val (.int (((XT.ushr px 16) &&& 32767) % 3)), .val (.int x101), .val (.int x102), .unset] [(.ref b104), (.ref b104)]
    have l108 := nlt A108.lt
    have z108 := W104.size
    refine st108 _ ?_
    have s109 := K108.1
    have f110 := (E104.keep K108)
    have f111 := (f106.keep K108 nin0)
    have f112 := (f107.keep K108 nin0)
    obtain ⟨T113, h113, v113, W113, Q113, st113⟩ := x_special B W108 (b := b104) [(.ref b108)] (c_sI1e l Z a0 hw b104 b108 cA108 h108 f110 f111 f112 (by omega) A108) (by simp) (d_method_2_39) rfl (tw hw 8 rfl) (tw hw 9 rfl) (tw hw 6 rfl) (tw hw 10 rfl) (by decide) (lenOf pd___C_V rfl) #[.val (.int px), .val (.int (((XT.ushr px 16) &&& 32767) % 3)), .val (.int x101), .val (.int x102), .unset] [(.ref b104)] rfl 1 rfl (by decide) (by decide) (by decide) (by decide)
    obtain ⟨rfl, K113, S113⟩ := Q113
    have s114 := K113.1
    refine st113 _ ?_
    exact r_a B W113 rfl rfl rfl (d_method_2_42) (by decide) (by decide) ⟨_, rfl, ((((Keep.refl h0 []).trans K104 all0).trans K108 all0).trans K113 (allS (Or.inr (by omega)) all0)), S113⟩
  · skip
    refine g_if_y B W0 (d_method_2_29) (XT.i0_ne_t hc103) (pc' := 43) (by decide) ?_
    show Go p.tables e below _ T0 (mkF m 43 #[.val (.int px), .val (.int (((XT.ushr px 16) &&& 32767) % 3)), .val (.int x101), .val (.int x102), .unset] [])
    refine g_iload_n B W0 (d_method_2_43) rfl ?_
    refine g_iconst B W0 (d_method_2_44) (v := 1) (by decide) ?_
    by_cases hc115 : (((XT.ushr px 16) &&& 32767) % 3) = 1
    · skip
      refine g_icmp_n B W0 (d_method_2_45) (XT.ii_ne_f hc115) ?_
      show Go p.tables e below _ T0 (mkF m 48 #[.val (.int px), .val (.int (((XT.ushr px 16) &&& 32767) % 3)), .val (.int x101), .val (.int x102), .unset] [])
      refine g_iload_n B W0 (d_method_2_48) rfl ?_
      obtain ⟨T116, h116, v116, W116, Q116, st116⟩ := x_static B W0 [(.int x101)] (c_vOf l Z a0 hw x101 cz h0 rx101 Scs hcz) (by simp) (d_method_2_49) (tw hw 155 rfl) (tw hw 156 rfl) (tw hw 6 rfl) (tw hw 157 rfl) (by decide) (lenOf pd__C_Ljava_lang_String_ rfl) #[.val (.int px), .val (.int (((XT.ushr px 16) &&& 32767) % 3)), .val (.int x101), .val (.int x102), .unset] [] rfl 0 rfl (by decide) (by decide) (by decide) (by decide)
      obtain ⟨b116, rfl, K116, S116⟩ := Q116
      have s117 := K116.1
      refine st116 _ ?_
      exact r_a B W116 rfl rfl rfl (d_method_2_52) (by decide) (by decide) ⟨_, rfl, ((Keep.refl h0 []).trans K116 all0), S116⟩
    · skip
      refine g_icmp_y B W0 (d_method_2_45) (XT.ii_ne_t hc115) (pc' := 53) (by decide) ?_
      show Go p.tables e below _ T0 (mkF m 53 #[.val (.int px), .val (.int (((XT.ushr px 16) &&& 32767) % 3)), .val (.int x101), .val (.int x102), .unset] [])
      refine g_iconst B W0 (d_method_2_53) (v := 2) (by decide) ?_
      obtain ⟨T118, h118, b118, cA118, gb118, W118, K118, A118, st118⟩ := x_newA B W0 (z := 2) 2 (d_method_2_54) (tw hw 7 rfl) (by decide) (by decide) (by decide) (by decide) (by decide) #[.val (.int px), .val (.int (((XT.ushr px 16) &&& 32767) % 3)), .val (.int x101), .val (.int x102), .unset] []
      have l118 := nlt A118.lt
      have z118 := W0.size
      refine st118 _ ?_
      have s119 := K118.1
      refine g_astore B W118 (d_method_2_56) rfl (l' := #[.val (.int px), .val (.int (((XT.ushr px 16) &&& 32767) % 3)), .val (.int x101), .val (.int x102), .val (.ref b118)]) rfl ?_
      refine g_aload B W118 (d_method_2_58) rfl rfl ?_
      refine g_iconst B W118 (d_method_2_60) (v := 0) (by decide) ?_
      refine g_iload_n B W118 (d_method_2_61) rfl ?_
      obtain ⟨T120, h120, W120, K120, A120, st120⟩ := x_castore B W118 (j := 0) (x := x101) (d_method_2_62) A118 (by decide) (Nat.lt_of_lt_of_eq (show Int32.toNatClampNeg 0 < 2 by decide) rfl) (by omega) #[.val (.int px), .val (.int (((XT.ushr px 16) &&& 32767) % 3)), .val (.int x101), .val (.int x102), .val (.ref b118)] []
      refine st120 _ ?_
      rw [nx101] at A120
      have A120 : Arv Z h120 b118 cA118 .char 2 [(.int x101), (.int 0)] (.int 0) := A120
      have s121 := K120.1
      refine g_aload B W120 (d_method_2_63) rfl rfl ?_
      refine g_iconst B W120 (d_method_2_65) (v := 1) (by decide) ?_
      refine g_iload_n B W120 (d_method_2_66) rfl ?_
      obtain ⟨T122, h122, W122, K122, A122, st122⟩ := x_castore B W120 (j := 1) (x := x102) (d_method_2_67) A120 (by decide) (Nat.lt_of_lt_of_eq (show Int32.toNatClampNeg 1 < 2 by decide) rfl) (by omega) #[.val (.int px), .val (.int (((XT.ushr px 16) &&& 32767) % 3)), .val (.int x101), .val (.int x102), .val (.ref b118)] []
      refine st122 _ ?_
      rw [nx102] at A122
      have A122 : Arv Z h122 b118 cA118 .char 2 [(.int x101), (.int x102)] (.int 0) := A122
      have s123 := K122.1
      obtain ⟨T124, h124, b124, gb124, W124, K124, E124, D124, st124⟩ := x_new B W122 (d_method_2_68) (tw hw 4 rfl) (tw hw 5 rfl) (tw hw 6 rfl) (by decide) (by decide) #[.val (.int px), .val (.int (((XT.ushr px 16) &&& 32767) % 3)), .val (.int x101), .val (.int x102), .val (.ref b118)] []
      have l124 := nlt E124.lt
      have z124 := W122.size
      refine st124 _ ?_
      have s125 := K124.1
      have f126 : Fld Z h124 b124 "java/lang/String" "value" "[B" .null := D124 (Or.inr (tw hw 20 rfl)) (ty := (.array .byte)) (by decide)
      have f127 : Fld Z h124 b124 "java/lang/String" "coder" "B" (.int 0) := D124 (Or.inr (tw hw 21 rfl)) (ty := .byte) (by decide)
      refine g_dup B W124 (d_method_2_71) rfl ?_
      refine g_aload B W124 (d_method_2_72) rfl rfl ?_
      have f128 := (A122.keep K124 nin0)
      obtain ⟨T129, h129, v129, W129, Q129, st129⟩ := x_special B W124 (b := b124) [(.ref b118)] (c_sI1t l Z a0 hw b124 b118 cA118 x101 x102 cz h124 E124 f126 f127 (by omega) f128 rx101 rx102 Scs hcz) (by simp) (d_method_2_74) rfl (tw hw 8 rfl) (tw hw 9 rfl) (tw hw 6 rfl) (tw hw 10 rfl) (by decide) (lenOf pd___C_V rfl) #[.val (.int px), .val (.int (((XT.ushr px 16) &&& 32767) % 3)), .val (.int x101), .val (.int x102), .val (.ref b118)] [(.ref b124)] rfl 1 rfl (by decide) (by decide) (by decide) (by decide)
      obtain ⟨rfl, K129, S129⟩ := Q129
      have s130 := K129.1
      refine st129 _ ?_
      exact r_a B W129 rfl rfl rfl (d_method_2_77) (by decide) (by decide) ⟨_, rfl, ((((((Keep.refl h0 []).trans K118 all0).trans K120 (allS (Or.inr (by omega)) all0)).trans K122 (allS (Or.inr (by omega)) all0)).trans K124 all0).trans K129 (allS (Or.inr (by omega)) all0)), S129⟩
theorem ef_cpos0 (m : MethodId) (ar : Addr) (kb : ClassId) : entryFrame m #[(.ref ar), (.int 0), (.int 0)] 5 = mkF m 0 #[.val (.ref ar), .val (.int 0), .val (.int 0), .unset, .unset] [] := by first | (simp [entryFrame, mkF, argsToLocals, Value.category]; done) | rfl
def Q_cpos0 (Z : State) (ar : Addr) (kb : ClassId) (h0 : Heap) (v : Option Value) (h : Heap) : Prop := ∃ r : Int32, v = some (.int r) ∧ h0 = h
set_option maxRecDepth 65536 in
set_option maxHeartbeats 40000000 in
theorem c_cpos0 (l : Launch) (Z : State) (a0 : Array Value) (hw : ∀ d ∈ tables_1, d.before a0 Z = true) (ar : Addr) (kb : ClassId) (h0 : Heap) (A1 : Arv Z h0 ar kb .byte 0 [] (.int 0)) :
    Con l Z (⟨"java/lang/StringCoding", "countPositives", "([BII)I"⟩ : MethodName) jdk_123_method_3_code 5 (Option.some FieldType.int) [] ({ frames := 0, cells := 0, slots := 0, locals := 0 } : Room) #[(.ref ar), (.int 0), (.int 0)] h0 (Q_cpos0 Z ar kb h0) [] := by
  refine Con.of (plainFor_of_name pn_java_lang_StringCoding) ?_
  intro p e s m below meth c T0 B W0
  refine Go.cast (ef_cpos0 m ar kb ) ?_
  refine g_iload_n B W0 (d_jdk_123_method_3_0) rfl ?_
  refine g_iload_n B W0 (d_jdk_123_method_3_1) rfl ?_
  refine g_iadd B W0 (d_jdk_123_method_3_2)  ?_
  rw [show (0 + 0 : Int32) = 0 by decide]
  refine g_istore_n B W0 (d_jdk_123_method_3_3)  (l' := #[.val (.ref ar), .val (.int 0), .val (.int 0), .val (.int 0), .unset]) rfl ?_
  refine g_iload_n B W0 (d_jdk_123_method_3_4) rfl ?_
  refine g_istore B W0 (d_jdk_123_method_3_5)  (l' := #[.val (.ref ar), .val (.int 0), .val (.int 0), .val (.int 0), .val (.int 0)]) rfl ?_
  refine g_iload B W0 (d_jdk_123_method_3_7) rfl ?_
  refine g_iload_n B W0 (d_jdk_123_method_3_9) rfl ?_
  refine g_icmp_y B W0 (d_jdk_123_method_3_10) (XT.ii_ge_t (by decide)) (pc' := 31) (by decide) ?_
  show Go p.tables e below _ T0 (mkF m 31 #[.val (.ref ar), .val (.int 0), .val (.int 0), .val (.int 0), .val (.int 0)] [])
  refine g_iload_n B W0 (d_jdk_123_method_3_31) rfl ?_
  exact r_i B W0 (d_jdk_123_method_3_32) (by decide) (by decide) ⟨_, rfl, rfl⟩
theorem ef_cpos1 (m : MethodId) (ar : Addr) (kb : ClassId) (q0 : Int32) : entryFrame m #[(.ref ar), (.int 0), (.int 1)] 5 = mkF m 0 #[.val (.ref ar), .val (.int 0), .val (.int 1), .unset, .unset] [] := by first | (simp [entryFrame, mkF, argsToLocals, Value.category]; done) | rfl
def Q_cpos1 (Z : State) (ar : Addr) (kb : ClassId) (q0 : Int32) (h0 : Heap) (v : Option Value) (h : Heap) : Prop := ∃ r : Int32, v = some (.int r) ∧ h0 = h
set_option maxRecDepth 65536 in
set_option maxHeartbeats 40000000 in
theorem c_cpos1 (l : Launch) (Z : State) (a0 : Array Value) (hw : ∀ d ∈ tables_1, d.before a0 Z = true) (ar : Addr) (kb : ClassId) (q0 : Int32) (h0 : Heap) (A1 : Arv Z h0 ar kb .byte 1 [.int q0] (.int 0)) :
    Con l Z (⟨"java/lang/StringCoding", "countPositives", "([BII)I"⟩ : MethodName) jdk_123_method_3_code 5 (Option.some FieldType.int) [] ({ frames := 0, cells := 0, slots := 0, locals := 0 } : Room) #[(.ref ar), (.int 0), (.int 1)] h0 (Q_cpos1 Z ar kb q0 h0) [] := by
  refine Con.of (plainFor_of_name pn_java_lang_StringCoding) ?_
  intro p e s m below meth c T0 B W0
  refine Go.cast (ef_cpos1 m ar kb q0 ) ?_
  refine g_iload_n B W0 (d_jdk_123_method_3_0) rfl ?_
  refine g_iload_n B W0 (d_jdk_123_method_3_1) rfl ?_
  refine g_iadd B W0 (d_jdk_123_method_3_2)  ?_
  rw [show (0 + 1 : Int32) = 1 by decide]
  refine g_istore_n B W0 (d_jdk_123_method_3_3)  (l' := #[.val (.ref ar), .val (.int 0), .val (.int 1), .val (.int 1), .unset]) rfl ?_
  refine g_iload_n B W0 (d_jdk_123_method_3_4) rfl ?_
  refine g_istore B W0 (d_jdk_123_method_3_5)  (l' := #[.val (.ref ar), .val (.int 0), .val (.int 1), .val (.int 1), .val (.int 0)]) rfl ?_
  refine g_iload B W0 (d_jdk_123_method_3_7) rfl ?_
  refine g_iload_n B W0 (d_jdk_123_method_3_9) rfl ?_
  refine g_icmp_n B W0 (d_jdk_123_method_3_10) (XT.ii_ge_f (by decide)) ?_
  show Go p.tables e below _ T0 (mkF m 13 #[.val (.ref ar), .val (.int 0), .val (.int 1), .val (.int 1), .val (.int 0)] [])
  refine g_aload_n B W0 (d_jdk_123_method_3_13) rfl rfl ?_
  refine g_iload B W0 (d_jdk_123_method_3_14) rfl ?_
  refine g_baload B W0 (d_jdk_123_method_3_16) A1 (by decide) (show List.getD ([(.int q0)] : List Value) _ _ = (.int q0) from rfl) ?_
  by_cases hc101 : q0 < 0
  · skip
    refine g_if_n B W0 (d_jdk_123_method_3_17) (XT.i0_ge_f hc101) ?_
    show Go p.tables e below _ T0 (mkF m 20 #[.val (.ref ar), .val (.int 0), .val (.int 1), .val (.int 1), .val (.int 0)] [])
    refine g_iload B W0 (d_jdk_123_method_3_20) rfl ?_
    refine g_iload_n B W0 (d_jdk_123_method_3_22) rfl ?_
    refine g_isub B W0 (d_jdk_123_method_3_23)  ?_
    rw [show (0 - 0 : Int32) = 0 by decide]
    exact r_i B W0 (d_jdk_123_method_3_24) (by decide) (by decide) ⟨_, rfl, rfl⟩
  · skip
    refine g_if_y B W0 (d_jdk_123_method_3_17) (XT.i0_ge_t hc101) (pc' := 25) (by decide) ?_
    show Go p.tables e below _ T0 (mkF m 25 #[.val (.ref ar), .val (.int 0), .val (.int 1), .val (.int 1), .val (.int 0)] [])
    refine g_iinc B W0 (d_jdk_123_method_3_25) (v := 1) (l' := #[.val (.ref ar), .val (.int 0), .val (.int 1), .val (.int 1), .val (.int (0 + 1))]) (by decide) rfl rfl ?_
    rw [show (0 + 1 : Int32) = 1 by decide]
    refine g_goto B W0 (d_jdk_123_method_3_28) (pc' := 7) (by decide) ?_
    show Go p.tables e below _ T0 (mkF m 7 #[.val (.ref ar), .val (.int 0), .val (.int 1), .val (.int 1), .val (.int 1)] [])
    refine g_iload B W0 (d_jdk_123_method_3_7) rfl ?_
    refine g_iload_n B W0 (d_jdk_123_method_3_9) rfl ?_
    refine g_icmp_y B W0 (d_jdk_123_method_3_10) (XT.ii_ge_t (by decide)) (pc' := 31) (by decide) ?_
    show Go p.tables e below _ T0 (mkF m 31 #[.val (.ref ar), .val (.int 0), .val (.int 1), .val (.int 1), .val (.int 1)] [])
    refine g_iload_n B W0 (d_jdk_123_method_3_31) rfl ?_
    exact r_i B W0 (d_jdk_123_method_3_32) (by decide) (by decide) ⟨_, rfl, rfl⟩
theorem ef_cpos2 (m : MethodId) (ar : Addr) (kb : ClassId) (q0 : Int32) (q1 : Int32) : entryFrame m #[(.ref ar), (.int 0), (.int 2)] 5 = mkF m 0 #[.val (.ref ar), .val (.int 0), .val (.int 2), .unset, .unset] [] := by first | (simp [entryFrame, mkF, argsToLocals, Value.category]; done) | rfl
def Q_cpos2 (Z : State) (ar : Addr) (kb : ClassId) (q0 : Int32) (q1 : Int32) (h0 : Heap) (v : Option Value) (h : Heap) : Prop := ∃ r : Int32, v = some (.int r) ∧ h0 = h
set_option maxRecDepth 65536 in
set_option maxHeartbeats 40000000 in
theorem c_cpos2 (l : Launch) (Z : State) (a0 : Array Value) (hw : ∀ d ∈ tables_1, d.before a0 Z = true) (ar : Addr) (kb : ClassId) (q0 : Int32) (q1 : Int32) (h0 : Heap) (A1 : Arv Z h0 ar kb .byte 2 [.int q0, .int q1] (.int 0)) :
    Con l Z (⟨"java/lang/StringCoding", "countPositives", "([BII)I"⟩ : MethodName) jdk_123_method_3_code 5 (Option.some FieldType.int) [] ({ frames := 0, cells := 0, slots := 0, locals := 0 } : Room) #[(.ref ar), (.int 0), (.int 2)] h0 (Q_cpos2 Z ar kb q0 q1 h0) [] := by
  refine Con.of (plainFor_of_name pn_java_lang_StringCoding) ?_
  intro p e s m below meth c T0 B W0
  refine Go.cast (ef_cpos2 m ar kb q0 q1 ) ?_
  refine g_iload_n B W0 (d_jdk_123_method_3_0) rfl ?_
  refine g_iload_n B W0 (d_jdk_123_method_3_1) rfl ?_
  refine g_iadd B W0 (d_jdk_123_method_3_2)  ?_
  rw [show (0 + 2 : Int32) = 2 by decide]
  refine g_istore_n B W0 (d_jdk_123_method_3_3)  (l' := #[.val (.ref ar), .val (.int 0), .val (.int 2), .val (.int 2), .unset]) rfl ?_
  refine g_iload_n B W0 (d_jdk_123_method_3_4) rfl ?_
  refine g_istore B W0 (d_jdk_123_method_3_5)  (l' := #[.val (.ref ar), .val (.int 0), .val (.int 2), .val (.int 2), .val (.int 0)]) rfl ?_
  refine g_iload B W0 (d_jdk_123_method_3_7) rfl ?_
  refine g_iload_n B W0 (d_jdk_123_method_3_9) rfl ?_
  refine g_icmp_n B W0 (d_jdk_123_method_3_10) (XT.ii_ge_f (by decide)) ?_
  show Go p.tables e below _ T0 (mkF m 13 #[.val (.ref ar), .val (.int 0), .val (.int 2), .val (.int 2), .val (.int 0)] [])
  refine g_aload_n B W0 (d_jdk_123_method_3_13) rfl rfl ?_
  refine g_iload B W0 (d_jdk_123_method_3_14) rfl ?_
  refine g_baload B W0 (d_jdk_123_method_3_16) A1 (by decide) (show List.getD ([(.int q0), (.int q1)] : List Value) _ _ = (.int q0) from rfl) ?_
  by_cases hc101 : q0 < 0
  · skip
    refine g_if_n B W0 (d_jdk_123_method_3_17) (XT.i0_ge_f hc101) ?_
    show Go p.tables e below _ T0 (mkF m 20 #[.val (.ref ar), .val (.int 0), .val (.int 2), .val (.int 2), .val (.int 0)] [])
    refine g_iload B W0 (d_jdk_123_method_3_20) rfl ?_
    refine g_iload_n B W0 (d_jdk_123_method_3_22) rfl ?_
    refine g_isub B W0 (d_jdk_123_method_3_23)  ?_
    rw [show (0 - 0 : Int32) = 0 by decide]
    exact r_i B W0 (d_jdk_123_method_3_24) (by decide) (by decide) ⟨_, rfl, rfl⟩
  · skip
    refine g_if_y B W0 (d_jdk_123_method_3_17) (XT.i0_ge_t hc101) (pc' := 25) (by decide) ?_
    show Go p.tables e below _ T0 (mkF m 25 #[.val (.ref ar), .val (.int 0), .val (.int 2), .val (.int 2), .val (.int 0)] [])
    refine g_iinc B W0 (d_jdk_123_method_3_25) (v := 1) (l' := #[.val (.ref ar), .val (.int 0), .val (.int 2), .val (.int 2), .val (.int (0 + 1))]) (by decide) rfl rfl ?_
    rw [show (0 + 1 : Int32) = 1 by decide]
    refine g_goto B W0 (d_jdk_123_method_3_28) (pc' := 7) (by decide) ?_
    show Go p.tables e below _ T0 (mkF m 7 #[.val (.ref ar), .val (.int 0), .val (.int 2), .val (.int 2), .val (.int 1)] [])
    refine g_iload B W0 (d_jdk_123_method_3_7) rfl ?_
    refine g_iload_n B W0 (d_jdk_123_method_3_9) rfl ?_
    refine g_icmp_n B W0 (d_jdk_123_method_3_10) (XT.ii_ge_f (by decide)) ?_
    show Go p.tables e below _ T0 (mkF m 13 #[.val (.ref ar), .val (.int 0), .val (.int 2), .val (.int 2), .val (.int 1)] [])
    refine g_aload_n B W0 (d_jdk_123_method_3_13) rfl rfl ?_
    refine g_iload B W0 (d_jdk_123_method_3_14) rfl ?_
    refine g_baload B W0 (d_jdk_123_method_3_16) A1 (by decide) (show List.getD ([(.int q0), (.int q1)] : List Value) _ _ = (.int q1) from rfl) ?_
    by_cases hc102 : q1 < 0
    · skip
      refine g_if_n B W0 (d_jdk_123_method_3_17) (XT.i0_ge_f hc102) ?_
      show Go p.tables e below _ T0 (mkF m 20 #[.val (.ref ar), .val (.int 0), .val (.int 2), .val (.int 2), .val (.int 1)] [])
      refine g_iload B W0 (d_jdk_123_method_3_20) rfl ?_
      refine g_iload_n B W0 (d_jdk_123_method_3_22) rfl ?_
      refine g_isub B W0 (d_jdk_123_method_3_23)  ?_
      rw [show (1 - 0 : Int32) = 1 by decide]
      exact r_i B W0 (d_jdk_123_method_3_24) (by decide) (by decide) ⟨_, rfl, rfl⟩
    · skip
      refine g_if_y B W0 (d_jdk_123_method_3_17) (XT.i0_ge_t hc102) (pc' := 25) (by decide) ?_
      show Go p.tables e below _ T0 (mkF m 25 #[.val (.ref ar), .val (.int 0), .val (.int 2), .val (.int 2), .val (.int 1)] [])
      refine g_iinc B W0 (d_jdk_123_method_3_25) (v := 1) (l' := #[.val (.ref ar), .val (.int 0), .val (.int 2), .val (.int 2), .val (.int (1 + 1))]) (by decide) rfl rfl ?_
      rw [show (1 + 1 : Int32) = 2 by decide]
      refine g_goto B W0 (d_jdk_123_method_3_28) (pc' := 7) (by decide) ?_
      show Go p.tables e below _ T0 (mkF m 7 #[.val (.ref ar), .val (.int 0), .val (.int 2), .val (.int 2), .val (.int 2)] [])
      refine g_iload B W0 (d_jdk_123_method_3_7) rfl ?_
      refine g_iload_n B W0 (d_jdk_123_method_3_9) rfl ?_
      refine g_icmp_y B W0 (d_jdk_123_method_3_10) (XT.ii_ge_t (by decide)) (pc' := 31) (by decide) ?_
      show Go p.tables e below _ T0 (mkF m 31 #[.val (.ref ar), .val (.int 0), .val (.int 2), .val (.int 2), .val (.int 2)] [])
      refine g_iload_n B W0 (d_jdk_123_method_3_31) rfl ?_
      exact r_i B W0 (d_jdk_123_method_3_32) (by decide) (by decide) ⟨_, rfl, rfl⟩
theorem ef_hneg0 (m : MethodId) (ar : Addr) (kb : ClassId) : entryFrame m #[(.ref ar), (.int 0), (.int 0)] 3 = mkF m 0 #[.val (.ref ar), .val (.int 0), .val (.int 0)] [] := by first | (simp [entryFrame, mkF, argsToLocals, Value.category]; done) | rfl
def Q_hneg0 (Z : State) (ar : Addr) (kb : ClassId) (h0 : Heap) (v : Option Value) (h : Heap) : Prop := ∃ r : Bool, v = some (.int (bi r)) ∧ h0 = h
set_option maxRecDepth 65536 in
set_option maxHeartbeats 40000000 in
theorem c_hneg0 (l : Launch) (Z : State) (a0 : Array Value) (hw : ∀ d ∈ tables_1, d.before a0 Z = true) (ar : Addr) (kb : ClassId) (h0 : Heap) (A1 : Arv Z h0 ar kb .byte 0 [] (.int 0)) :
    Con l Z (⟨"java/lang/StringCoding", "hasNegatives", "([BII)Z"⟩ : MethodName) jdk_123_method_2_code 3 (Option.some FieldType.boolean) [] ({ frames := 1, cells := 0, slots := 0, locals := 16 } : Room) #[(.ref ar), (.int 0), (.int 0)] h0 (Q_hneg0 Z ar kb h0) [] := by
  refine Con.of (plainFor_of_name pn_java_lang_StringCoding) ?_
  intro p e s m below meth c T0 B W0
  refine Go.cast (ef_hneg0 m ar kb ) ?_
  refine g_aload_n B W0 (d_jdk_123_method_2_0) rfl rfl ?_
  refine g_iload_n B W0 (d_jdk_123_method_2_1) rfl ?_
  refine g_iload_n B W0 (d_jdk_123_method_2_2) rfl ?_
  obtain ⟨T101, h101, v101, W101, Q101, st101⟩ := x_static B W0 [(.ref ar), (.int 0), (.int 0)] (c_cpos0 l Z a0 hw ar kb  h0 A1) (by simp) (d_jdk_123_method_2_3) (tw hw 65 rfl) (tw hw 66 rfl) (tw hw 63 rfl) (tw hw 67 rfl) (by decide) (lenOf pd___BII_I rfl) #[.val (.ref ar), .val (.int 0), .val (.int 0)] [] rfl 0 rfl (by decide) (by decide) (by decide) (by decide)
  obtain ⟨r101, rfl, rfl⟩ := Q101
  refine st101 _ ?_
  refine g_iload_n B W101 (d_jdk_123_method_2_6) rfl ?_
  refine g_diab (!decide (r101 = 0)) (m := m) (ls := #[.val (.ref ar), .val (.int 0), .val (.int 0)]) (st := []) (pc' := 15) (fun hd1 q => ?_) (fun hd1 q => ?_) ?_
  · refine g_icmp_n B W101 (d_jdk_123_method_2_7) (XT.ii_eq_f (by simpa using hd1)) ?_
    refine g_iconst B W101 (d_jdk_123_method_2_10) (v := 1) (by decide) ?_
    exact g_goto B W101 (d_jdk_123_method_2_11) (pc' := 15) (by decide) q
  · refine g_icmp_y B W101 (d_jdk_123_method_2_7) (XT.ii_eq_t (by simpa using hd1)) (pc' := 14) (by decide) ?_
    exact g_iconst B W101 (d_jdk_123_method_2_14) (v := 0) (by decide) q
  show Go p.tables e below _ T101 (mkF m 15 #[.val (.ref ar), .val (.int 0), .val (.int 0)] [(.int (bi (!decide (r101 = 0))))])
  exact r_b B W101 (d_jdk_123_method_2_15) (by decide) (by decide) ⟨_, rfl, rfl⟩
theorem ef_hneg1 (m : MethodId) (ar : Addr) (kb : ClassId) (q0 : Int32) : entryFrame m #[(.ref ar), (.int 0), (.int 1)] 3 = mkF m 0 #[.val (.ref ar), .val (.int 0), .val (.int 1)] [] := by first | (simp [entryFrame, mkF, argsToLocals, Value.category]; done) | rfl
def Q_hneg1 (Z : State) (ar : Addr) (kb : ClassId) (q0 : Int32) (h0 : Heap) (v : Option Value) (h : Heap) : Prop := ∃ r : Bool, v = some (.int (bi r)) ∧ h0 = h
set_option maxRecDepth 65536 in
set_option maxHeartbeats 40000000 in
theorem c_hneg1 (l : Launch) (Z : State) (a0 : Array Value) (hw : ∀ d ∈ tables_1, d.before a0 Z = true) (ar : Addr) (kb : ClassId) (q0 : Int32) (h0 : Heap) (A1 : Arv Z h0 ar kb .byte 1 [.int q0] (.int 0)) :
    Con l Z (⟨"java/lang/StringCoding", "hasNegatives", "([BII)Z"⟩ : MethodName) jdk_123_method_2_code 3 (Option.some FieldType.boolean) [] ({ frames := 1, cells := 0, slots := 0, locals := 16 } : Room) #[(.ref ar), (.int 0), (.int 1)] h0 (Q_hneg1 Z ar kb q0 h0) [] := by
  refine Con.of (plainFor_of_name pn_java_lang_StringCoding) ?_
  intro p e s m below meth c T0 B W0
  refine Go.cast (ef_hneg1 m ar kb q0 ) ?_
  refine g_aload_n B W0 (d_jdk_123_method_2_0) rfl rfl ?_
  refine g_iload_n B W0 (d_jdk_123_method_2_1) rfl ?_
  refine g_iload_n B W0 (d_jdk_123_method_2_2) rfl ?_
  obtain ⟨T101, h101, v101, W101, Q101, st101⟩ := x_static B W0 [(.ref ar), (.int 0), (.int 1)] (c_cpos1 l Z a0 hw ar kb q0 h0 A1) (by simp) (d_jdk_123_method_2_3) (tw hw 65 rfl) (tw hw 66 rfl) (tw hw 63 rfl) (tw hw 67 rfl) (by decide) (lenOf pd___BII_I rfl) #[.val (.ref ar), .val (.int 0), .val (.int 1)] [] rfl 0 rfl (by decide) (by decide) (by decide) (by decide)
  obtain ⟨r101, rfl, rfl⟩ := Q101
  refine st101 _ ?_
  refine g_iload_n B W101 (d_jdk_123_method_2_6) rfl ?_
  refine g_diab (!decide (r101 = 1)) (m := m) (ls := #[.val (.ref ar), .val (.int 0), .val (.int 1)]) (st := []) (pc' := 15) (fun hd1 q => ?_) (fun hd1 q => ?_) ?_
  · refine g_icmp_n B W101 (d_jdk_123_method_2_7) (XT.ii_eq_f (by simpa using hd1)) ?_
    refine g_iconst B W101 (d_jdk_123_method_2_10) (v := 1) (by decide) ?_
    exact g_goto B W101 (d_jdk_123_method_2_11) (pc' := 15) (by decide) q
  · refine g_icmp_y B W101 (d_jdk_123_method_2_7) (XT.ii_eq_t (by simpa using hd1)) (pc' := 14) (by decide) ?_
    exact g_iconst B W101 (d_jdk_123_method_2_14) (v := 0) (by decide) q
  show Go p.tables e below _ T101 (mkF m 15 #[.val (.ref ar), .val (.int 0), .val (.int 1)] [(.int (bi (!decide (r101 = 1))))])
  exact r_b B W101 (d_jdk_123_method_2_15) (by decide) (by decide) ⟨_, rfl, rfl⟩
theorem ef_hneg2 (m : MethodId) (ar : Addr) (kb : ClassId) (q0 : Int32) (q1 : Int32) : entryFrame m #[(.ref ar), (.int 0), (.int 2)] 3 = mkF m 0 #[.val (.ref ar), .val (.int 0), .val (.int 2)] [] := by first | (simp [entryFrame, mkF, argsToLocals, Value.category]; done) | rfl
def Q_hneg2 (Z : State) (ar : Addr) (kb : ClassId) (q0 : Int32) (q1 : Int32) (h0 : Heap) (v : Option Value) (h : Heap) : Prop := ∃ r : Bool, v = some (.int (bi r)) ∧ h0 = h
set_option maxRecDepth 65536 in
set_option maxHeartbeats 40000000 in
theorem c_hneg2 (l : Launch) (Z : State) (a0 : Array Value) (hw : ∀ d ∈ tables_1, d.before a0 Z = true) (ar : Addr) (kb : ClassId) (q0 : Int32) (q1 : Int32) (h0 : Heap) (A1 : Arv Z h0 ar kb .byte 2 [.int q0, .int q1] (.int 0)) :
    Con l Z (⟨"java/lang/StringCoding", "hasNegatives", "([BII)Z"⟩ : MethodName) jdk_123_method_2_code 3 (Option.some FieldType.boolean) [] ({ frames := 1, cells := 0, slots := 0, locals := 16 } : Room) #[(.ref ar), (.int 0), (.int 2)] h0 (Q_hneg2 Z ar kb q0 q1 h0) [] := by
  refine Con.of (plainFor_of_name pn_java_lang_StringCoding) ?_
  intro p e s m below meth c T0 B W0
  refine Go.cast (ef_hneg2 m ar kb q0 q1 ) ?_
  refine g_aload_n B W0 (d_jdk_123_method_2_0) rfl rfl ?_
  refine g_iload_n B W0 (d_jdk_123_method_2_1) rfl ?_
  refine g_iload_n B W0 (d_jdk_123_method_2_2) rfl ?_
  obtain ⟨T101, h101, v101, W101, Q101, st101⟩ := x_static B W0 [(.ref ar), (.int 0), (.int 2)] (c_cpos2 l Z a0 hw ar kb q0 q1 h0 A1) (by simp) (d_jdk_123_method_2_3) (tw hw 65 rfl) (tw hw 66 rfl) (tw hw 63 rfl) (tw hw 67 rfl) (by decide) (lenOf pd___BII_I rfl) #[.val (.ref ar), .val (.int 0), .val (.int 2)] [] rfl 0 rfl (by decide) (by decide) (by decide) (by decide)
  obtain ⟨r101, rfl, rfl⟩ := Q101
  refine st101 _ ?_
  refine g_iload_n B W101 (d_jdk_123_method_2_6) rfl ?_
  refine g_diab (!decide (r101 = 2)) (m := m) (ls := #[.val (.ref ar), .val (.int 0), .val (.int 2)]) (st := []) (pc' := 15) (fun hd1 q => ?_) (fun hd1 q => ?_) ?_
  · refine g_icmp_n B W101 (d_jdk_123_method_2_7) (XT.ii_eq_f (by simpa using hd1)) ?_
    refine g_iconst B W101 (d_jdk_123_method_2_10) (v := 1) (by decide) ?_
    exact g_goto B W101 (d_jdk_123_method_2_11) (pc' := 15) (by decide) q
  · refine g_icmp_y B W101 (d_jdk_123_method_2_7) (XT.ii_eq_t (by simpa using hd1)) (pc' := 14) (by decide) ?_
    exact g_iconst B W101 (d_jdk_123_method_2_14) (v := 0) (by decide) q
  show Go p.tables e below _ T101 (mkF m 15 #[.val (.ref ar), .val (.int 0), .val (.int 2)] [(.int (bi (!decide (r101 = 2))))])
  exact r_b B W101 (d_jdk_123_method_2_15) (by decide) (by decide) ⟨_, rfl, rfl⟩
theorem ef_nbl0 (m : MethodId)  : entryFrame m #[(.int 0)] 1 = mkF m 0 #[.val (.int 0)] [] := by first | (simp [entryFrame, mkF, argsToLocals, Value.category]; done) | rfl
def Q_nbl0 (Z : State)  (h0 : Heap) (v : Option Value) (h : Heap) : Prop := v = some (.int 0) ∧ h0 = h
set_option maxRecDepth 65536 in
set_option maxHeartbeats 40000000 in
theorem c_nbl0 (l : Launch) (Z : State) (a0 : Array Value) (hw : ∀ d ∈ tables_1, d.before a0 Z = true)  (h0 : Heap) :
    Con l Z (⟨"java/lang/StringUTF16", "newBytesLength", "(I)I"⟩ : MethodName) jdk_52_method_3_code 1 (Option.some FieldType.int) [] ({ frames := 0, cells := 0, slots := 0, locals := 0 } : Room) #[(.int 0)] h0 (Q_nbl0 Z  h0) [] := by
  refine Con.of (plainFor_of_name pn_java_lang_StringUTF16) ?_
  intro p e s m below meth c T0 B W0
  refine Go.cast (ef_nbl0 m  ) ?_
  refine g_iload_n B W0 (d_jdk_52_method_3_0) rfl ?_
  refine g_if_y B W0 (d_jdk_52_method_3_1) (XT.i0_ge_t (by decide)) (pc' := 12) (by decide) ?_
  show Go p.tables e below _ T0 (mkF m 12 #[.val (.int 0)] [])
  refine g_iload_n B W0 (d_jdk_52_method_3_12) rfl ?_
  refine g_ldcI B W0 (d_jdk_52_method_3_13) (tw hw 176 rfl) ?_
  refine g_icmp_y B W0 (d_jdk_52_method_3_15) (XT.ii_lt_t (by decide)) (pc' := 55) (by decide) ?_
  show Go p.tables e below _ T0 (mkF m 55 #[.val (.int 0)] [])
  refine g_iload_n B W0 (d_jdk_52_method_3_55) rfl ?_
  refine g_iconst B W0 (d_jdk_52_method_3_56) (v := 1) (by decide) ?_
  refine g_ishl B W0 (d_jdk_52_method_3_57)  ?_
  rw [show ((0 : Int32) <<< ((1 : Int32) &&& 31)) = 0 by decide]
  exact r_i B W0 (d_jdk_52_method_3_58) (by decide) (by decide) ⟨rfl, rfl⟩
theorem ef_nbl1 (m : MethodId)  : entryFrame m #[(.int 1)] 1 = mkF m 0 #[.val (.int 1)] [] := by first | (simp [entryFrame, mkF, argsToLocals, Value.category]; done) | rfl
def Q_nbl1 (Z : State)  (h0 : Heap) (v : Option Value) (h : Heap) : Prop := v = some (.int 2) ∧ h0 = h
set_option maxRecDepth 65536 in
set_option maxHeartbeats 40000000 in
theorem c_nbl1 (l : Launch) (Z : State) (a0 : Array Value) (hw : ∀ d ∈ tables_1, d.before a0 Z = true)  (h0 : Heap) :
    Con l Z (⟨"java/lang/StringUTF16", "newBytesLength", "(I)I"⟩ : MethodName) jdk_52_method_3_code 1 (Option.some FieldType.int) [] ({ frames := 0, cells := 0, slots := 0, locals := 0 } : Room) #[(.int 1)] h0 (Q_nbl1 Z  h0) [] := by
  refine Con.of (plainFor_of_name pn_java_lang_StringUTF16) ?_
  intro p e s m below meth c T0 B W0
  refine Go.cast (ef_nbl1 m  ) ?_
  refine g_iload_n B W0 (d_jdk_52_method_3_0) rfl ?_
  refine g_if_y B W0 (d_jdk_52_method_3_1) (XT.i0_ge_t (by decide)) (pc' := 12) (by decide) ?_
  show Go p.tables e below _ T0 (mkF m 12 #[.val (.int 1)] [])
  refine g_iload_n B W0 (d_jdk_52_method_3_12) rfl ?_
  refine g_ldcI B W0 (d_jdk_52_method_3_13) (tw hw 176 rfl) ?_
  refine g_icmp_y B W0 (d_jdk_52_method_3_15) (XT.ii_lt_t (by decide)) (pc' := 55) (by decide) ?_
  show Go p.tables e below _ T0 (mkF m 55 #[.val (.int 1)] [])
  refine g_iload_n B W0 (d_jdk_52_method_3_55) rfl ?_
  refine g_iconst B W0 (d_jdk_52_method_3_56) (v := 1) (by decide) ?_
  refine g_ishl B W0 (d_jdk_52_method_3_57)  ?_
  rw [show ((1 : Int32) <<< ((1 : Int32) &&& 31)) = 2 by decide]
  exact r_i B W0 (d_jdk_52_method_3_58) (by decide) (by decide) ⟨rfl, rfl⟩
theorem ef_nbl2 (m : MethodId)  : entryFrame m #[(.int 2)] 1 = mkF m 0 #[.val (.int 2)] [] := by first | (simp [entryFrame, mkF, argsToLocals, Value.category]; done) | rfl
def Q_nbl2 (Z : State)  (h0 : Heap) (v : Option Value) (h : Heap) : Prop := v = some (.int 4) ∧ h0 = h
set_option maxRecDepth 65536 in
set_option maxHeartbeats 40000000 in
theorem c_nbl2 (l : Launch) (Z : State) (a0 : Array Value) (hw : ∀ d ∈ tables_1, d.before a0 Z = true)  (h0 : Heap) :
    Con l Z (⟨"java/lang/StringUTF16", "newBytesLength", "(I)I"⟩ : MethodName) jdk_52_method_3_code 1 (Option.some FieldType.int) [] ({ frames := 0, cells := 0, slots := 0, locals := 0 } : Room) #[(.int 2)] h0 (Q_nbl2 Z  h0) [] := by
  refine Con.of (plainFor_of_name pn_java_lang_StringUTF16) ?_
  intro p e s m below meth c T0 B W0
  refine Go.cast (ef_nbl2 m  ) ?_
  refine g_iload_n B W0 (d_jdk_52_method_3_0) rfl ?_
  refine g_if_y B W0 (d_jdk_52_method_3_1) (XT.i0_ge_t (by decide)) (pc' := 12) (by decide) ?_
  show Go p.tables e below _ T0 (mkF m 12 #[.val (.int 2)] [])
  refine g_iload_n B W0 (d_jdk_52_method_3_12) rfl ?_
  refine g_ldcI B W0 (d_jdk_52_method_3_13) (tw hw 176 rfl) ?_
  refine g_icmp_y B W0 (d_jdk_52_method_3_15) (XT.ii_lt_t (by decide)) (pc' := 55) (by decide) ?_
  show Go p.tables e below _ T0 (mkF m 55 #[.val (.int 2)] [])
  refine g_iload_n B W0 (d_jdk_52_method_3_55) rfl ?_
  refine g_iconst B W0 (d_jdk_52_method_3_56) (v := 1) (by decide) ?_
  refine g_ishl B W0 (d_jdk_52_method_3_57)  ?_
  rw [show ((2 : Int32) <<< ((1 : Int32) &&& 31)) = 4 by decide]
  exact r_i B W0 (d_jdk_52_method_3_58) (by decide) (by decide) ⟨rfl, rfl⟩
theorem ef_nbf0 (m : MethodId)  : entryFrame m #[(.int 0)] 1 = mkF m 0 #[.val (.int 0)] [] := by first | (simp [entryFrame, mkF, argsToLocals, Value.category]; done) | rfl
def Q_nbf0 (Z : State)  (h0 : Heap) (v : Option Value) (h : Heap) : Prop := ∃ (b : Addr) (kb : ClassId), v = some (.ref b) ∧ h0.size ≤ b ∧ Keep h0 h [] ∧ Arv Z h b kb .byte 0 [] (.int 0)
set_option maxRecDepth 65536 in
set_option maxHeartbeats 40000000 in
theorem c_nbf0 (l : Launch) (Z : State) (a0 : Array Value) (hw : ∀ d ∈ tables_1, d.before a0 Z = true)  (h0 : Heap) :
    ConR l Z (⟨"java/lang/StringUTF16", "newBytesFor", "(I)[B"⟩ : MethodName) jdk_52_method_2_code 1 (Option.some (FieldType.array FieldType.byte)) [] ({ frames := 1, cells := 1, slots := 0, locals := 12 } : Room) #[(.int 0)] h0 (Q_nbf0 Z  h0) [] := by
  refine ConR.of (plainFor_of_name pn_java_lang_StringUTF16) ?_
  intro p e s m below meth c T0 B W0
  refine Go.cast (ef_nbf0 m  ) ?_
  refine g_iload_n B W0 (d_jdk_52_method_2_0) rfl ?_
  obtain ⟨T101, h101, v101, W101, Q101, st101⟩ := x_static B W0 [(.int 0)] (c_nbl0 l Z a0 hw h0) (by simp) (d_jdk_52_method_2_1) (tw hw 173 rfl) (tw hw 174 rfl) (tw hw 147 rfl) (tw hw 175 rfl) (by decide) (lenOf pd__I_I rfl) #[.val (.int 0)] [] rfl 0 rfl (by decide) (by decide) (by decide) (by decide)
  obtain ⟨rfl, rfl⟩ := Q101
  refine st101 _ ?_
  obtain ⟨T102, h102, b102, cA102, gb102, W102, K102, A102, E102, st102⟩ := x_newE B W101 (z := 0) (ad := "[B") 0 (d_jdk_52_method_2_4) (tw hw 19 rfl) (by decide) (by decide) (by decide) (by decide) (by decide) rfl #[.val (.int 0)] []
  have l102 := nlt A102.lt
  have z102 := W101.size
  refine st102 _ ?_
  have s103 := K102.1
  exact r_aR B W102 rfl rfl (d_jdk_52_method_2_6) (by decide) (by decide) ⟨_, _, rfl, by omega, ((Keep.refl h0 []).trans K102 all0), A102⟩ (by simp)
theorem ef_nbf1 (m : MethodId)  : entryFrame m #[(.int 1)] 1 = mkF m 0 #[.val (.int 1)] [] := by first | (simp [entryFrame, mkF, argsToLocals, Value.category]; done) | rfl
def Q_nbf1 (Z : State)  (h0 : Heap) (v : Option Value) (h : Heap) : Prop := ∃ (b : Addr) (kb : ClassId), v = some (.ref b) ∧ h0.size ≤ b ∧ Keep h0 h [] ∧ Arv Z h b kb .byte 2 [.int 0, .int 0] (.int 0)
set_option maxRecDepth 65536 in
set_option maxHeartbeats 40000000 in
theorem c_nbf1 (l : Launch) (Z : State) (a0 : Array Value) (hw : ∀ d ∈ tables_1, d.before a0 Z = true)  (h0 : Heap) :
    ConR l Z (⟨"java/lang/StringUTF16", "newBytesFor", "(I)[B"⟩ : MethodName) jdk_52_method_2_code 1 (Option.some (FieldType.array FieldType.byte)) [] ({ frames := 1, cells := 1, slots := 2, locals := 12 } : Room) #[(.int 1)] h0 (Q_nbf1 Z  h0) [] := by
  refine ConR.of (plainFor_of_name pn_java_lang_StringUTF16) ?_
  intro p e s m below meth c T0 B W0
  refine Go.cast (ef_nbf1 m  ) ?_
  refine g_iload_n B W0 (d_jdk_52_method_2_0) rfl ?_
  obtain ⟨T101, h101, v101, W101, Q101, st101⟩ := x_static B W0 [(.int 1)] (c_nbl1 l Z a0 hw h0) (by simp) (d_jdk_52_method_2_1) (tw hw 173 rfl) (tw hw 174 rfl) (tw hw 147 rfl) (tw hw 175 rfl) (by decide) (lenOf pd__I_I rfl) #[.val (.int 1)] [] rfl 0 rfl (by decide) (by decide) (by decide) (by decide)
  obtain ⟨rfl, rfl⟩ := Q101
  refine st101 _ ?_
  obtain ⟨T102, h102, b102, cA102, gb102, W102, K102, A102, E102, st102⟩ := x_newE B W101 (z := 2) (ad := "[B") 2 (d_jdk_52_method_2_4) (tw hw 19 rfl) (by decide) (by decide) (by decide) (by decide) (by decide) rfl #[.val (.int 1)] []
  have l102 := nlt A102.lt
  have z102 := W101.size
  refine st102 _ ?_
  have s103 := K102.1
  exact r_aR B W102 rfl rfl (d_jdk_52_method_2_6) (by decide) (by decide) ⟨_, _, rfl, by omega, ((Keep.refl h0 []).trans K102 all0), A102⟩ (by simp)
theorem ef_nbf2 (m : MethodId)  : entryFrame m #[(.int 2)] 1 = mkF m 0 #[.val (.int 2)] [] := by first | (simp [entryFrame, mkF, argsToLocals, Value.category]; done) | rfl
def Q_nbf2 (Z : State)  (h0 : Heap) (v : Option Value) (h : Heap) : Prop := ∃ (b : Addr) (kb : ClassId), v = some (.ref b) ∧ h0.size ≤ b ∧ Keep h0 h [] ∧ Arv Z h b kb .byte 4 [.int 0, .int 0, .int 0, .int 0] (.int 0)
set_option maxRecDepth 65536 in
set_option maxHeartbeats 40000000 in
theorem c_nbf2 (l : Launch) (Z : State) (a0 : Array Value) (hw : ∀ d ∈ tables_1, d.before a0 Z = true)  (h0 : Heap) :
    ConR l Z (⟨"java/lang/StringUTF16", "newBytesFor", "(I)[B"⟩ : MethodName) jdk_52_method_2_code 1 (Option.some (FieldType.array FieldType.byte)) [] ({ frames := 1, cells := 1, slots := 4, locals := 12 } : Room) #[(.int 2)] h0 (Q_nbf2 Z  h0) [] := by
  refine ConR.of (plainFor_of_name pn_java_lang_StringUTF16) ?_
  intro p e s m below meth c T0 B W0
  refine Go.cast (ef_nbf2 m  ) ?_
  refine g_iload_n B W0 (d_jdk_52_method_2_0) rfl ?_
  obtain ⟨T101, h101, v101, W101, Q101, st101⟩ := x_static B W0 [(.int 2)] (c_nbl2 l Z a0 hw h0) (by simp) (d_jdk_52_method_2_1) (tw hw 173 rfl) (tw hw 174 rfl) (tw hw 147 rfl) (tw hw 175 rfl) (by decide) (lenOf pd__I_I rfl) #[.val (.int 2)] [] rfl 0 rfl (by decide) (by decide) (by decide) (by decide)
  obtain ⟨rfl, rfl⟩ := Q101
  refine st101 _ ?_
  obtain ⟨T102, h102, b102, cA102, gb102, W102, K102, A102, E102, st102⟩ := x_newE B W101 (z := 4) (ad := "[B") 4 (d_jdk_52_method_2_4) (tw hw 19 rfl) (by decide) (by decide) (by decide) (by decide) (by decide) rfl #[.val (.int 2)] []
  have l102 := nlt A102.lt
  have z102 := W101.size
  refine st102 _ ?_
  have s103 := K102.1
  exact r_aR B W102 rfl rfl (d_jdk_52_method_2_6) (by decide) (by decide) ⟨_, _, rfl, by omega, ((Keep.refl h0 []).trans K102 all0), A102⟩ (by simp)
theorem ef_min21 (m : MethodId)  : entryFrame m #[(.int 2), (.int 1)] 2 = mkF m 0 #[.val (.int 2), .val (.int 1)] [] := by first | (simp [entryFrame, mkF, argsToLocals, Value.category]; done) | rfl
def Q_min21 (Z : State)  (h0 : Heap) (v : Option Value) (h : Heap) : Prop := v = some (.int 1) ∧ h0 = h
set_option maxRecDepth 65536 in
set_option maxHeartbeats 40000000 in
theorem c_min21 (l : Launch) (Z : State) (a0 : Array Value) (hw : ∀ d ∈ tables_1, d.before a0 Z = true)  (h0 : Heap) :
    Con l Z (⟨"java/lang/Math", "min", "(II)I"⟩ : MethodName) jdk_29_method_69_code 2 (Option.some FieldType.int) [] ({ frames := 0, cells := 0, slots := 0, locals := 0 } : Room) #[(.int 2), (.int 1)] h0 (Q_min21 Z  h0) [] := by
  refine Con.of (Jvm.Free.JP.mathPlain rfl (by decide +kernel)) ?_
  intro p e s m below meth c T0 B W0
  refine Go.cast (ef_min21 m  ) ?_
  refine g_iload_n B W0 (d_jdk_29_method_69_0) rfl ?_
  refine g_iload_n B W0 (d_jdk_29_method_69_1) rfl ?_
  refine g_icmp_y B W0 (d_jdk_29_method_69_2) (XT.ii_gt_t (by decide)) (pc' := 9) (by decide) ?_
  show Go p.tables e below _ T0 (mkF m 9 #[.val (.int 2), .val (.int 1)] [])
  refine g_iload_n B W0 (d_jdk_29_method_69_9) rfl ?_
  exact r_i B W0 (d_jdk_29_method_69_10) (by decide) (by decide) ⟨rfl, rfl⟩
theorem ef_copyOf21 (m : MethodId) (ar : Addr) (kb : ClassId) (x1 : Int32) (x2 : Int32) : entryFrame m #[(.ref ar), (.int 1)] 3 = mkF m 0 #[.val (.ref ar), .val (.int 1), .unset] [] := by first | (simp [entryFrame, mkF, argsToLocals, Value.category]; done) | rfl
def Q_copyOf21 (Z : State) (ar : Addr) (kb : ClassId) (x1 : Int32) (x2 : Int32) (h0 : Heap) (v : Option Value) (h : Heap) : Prop := ∃ (b : Addr) (kc : ClassId) (vs : List Value), v = some (.ref b) ∧ Keep h0 h [] ∧ Arv Z h b kc .byte 1 vs (.int 0)
set_option maxRecDepth 65536 in
set_option maxHeartbeats 40000000 in
theorem c_copyOf21 (l : Launch) (Z : State) (a0 : Array Value) (hw : ∀ d ∈ tables_1, d.before a0 Z = true) (ar : Addr) (kb : ClassId) (x1 : Int32) (x2 : Int32) (h0 : Heap) (A1 : Arv Z h0 ar kb .byte 2 [.int x1, .int x2] (.int 0)) :
    Con l Z (⟨"java/util/Arrays", "copyOf", "([BI)[B"⟩ : MethodName) jdk_65_method_121_code 3 (Option.some (FieldType.array FieldType.byte)) [] ({ frames := 1, cells := 1, slots := 3, locals := 40 } : Room) #[(.ref ar), (.int 1)] h0 (Q_copyOf21 Z ar kb x1 x2 h0) [] := by
  refine Con.of (plainFor_of_name pn_java_util_Arrays) ?_
  intro p e s m below meth c T0 B W0
  refine Go.cast (ef_copyOf21 m ar kb x1 x2 ) ?_
  have l_ar := nlt A1.lt
  refine g_iload_n B W0 (d_jdk_65_method_121_0) rfl ?_
  refine g_aload_n B W0 (d_jdk_65_method_121_1) rfl rfl ?_
  refine g_aalen B W0 (d_jdk_65_method_121_2) A1 ?_
  refine g_icmp_y B W0 (d_jdk_65_method_121_3) (XT.ii_ne_t (by decide)) (pc' := 14) (by decide) ?_
  show Go p.tables e below _ T0 (mkF m 14 #[.val (.ref ar), .val (.int 1), .unset] [])
  refine g_iload_n B W0 (d_jdk_65_method_121_14) rfl ?_
  obtain ⟨T101, h101, b101, cA101, gb101, W101, K101, A101, E101, st101⟩ := x_newE B W0 (z := 1) (ad := "[B") 1 (d_jdk_65_method_121_15) (tw hw 19 rfl) (by decide) (by decide) (by decide) (by decide) (by decide) rfl #[.val (.ref ar), .val (.int 1), .unset] []
  have l101 := nlt A101.lt
  have z101 := W0.size
  refine st101 _ ?_
  have s102 := K101.1
  refine g_astore_n B W101 (d_jdk_65_method_121_17) rfl (l' := #[.val (.ref ar), .val (.int 1), .val (.ref b101)]) rfl ?_
  refine g_aload_n B W101 (d_jdk_65_method_121_18) rfl rfl ?_
  refine g_iconst B W101 (d_jdk_65_method_121_19) (v := 0) (by decide) ?_
  refine g_aload_n B W101 (d_jdk_65_method_121_20) rfl rfl ?_
  refine g_iconst B W101 (d_jdk_65_method_121_21) (v := 0) (by decide) ?_
  refine g_aload_n B W101 (d_jdk_65_method_121_22) rfl rfl ?_
  have f103 := (A1.keep K101 nin0)
  refine g_aalen B W101 (d_jdk_65_method_121_23) f103 ?_
  refine g_iload_n B W101 (d_jdk_65_method_121_24) rfl ?_
  obtain ⟨T104, h104, v104, W104, Q104, st104⟩ := x_static B W101 [(.int 2), (.int 1)] (c_min21 l Z a0 hw h101) (by simp) (d_jdk_65_method_121_25) (tw hw 181 rfl) (tw hw 182 rfl) (tw hw 183 rfl) (tw hw 184 rfl) (by decide) (lenOf pd__II_I rfl) #[.val (.ref ar), .val (.int 1), .val (.ref b101)] [(.int 0), (.ref b101), (.int 0), (.ref ar)] rfl 4 rfl (by decide) (by decide) (by decide) (by decide)
  obtain ⟨rfl, rfl⟩ := Q104
  refine st104 _ ?_
  obtain ⟨T105, h105, W105, K105, A105, st105⟩ := x_acopy B W104 (sp := 0) (dp := 0) (nn := 1) (us := [.int x1]) (d_jdk_65_method_121_28) (tw hw 185 rfl) (tw hw 188 rfl) (tw hw 186 rfl) (tw hw 187 rfl) f103 A101 (Or.inl ⟨rfl, rfl⟩) (by decide) (by decide) (by decide) (by decide) (by decide) rfl (by decide) (by omega) (by simp) #[.val (.ref ar), .val (.int 1), .val (.ref b101)] [] rfl 0 rfl (by decide) (by decide)
  refine st105 _ ?_
  have s106 := K105.1
  refine g_aload_n B W105 (d_jdk_65_method_121_31) rfl rfl ?_
  exact r_a B W105 rfl rfl rfl (d_jdk_65_method_121_32) (by decide) (by decide) ⟨_, _, _, rfl, (((Keep.refl h0 []).trans K101 all0).trans K105 (allS (Or.inr (by omega)) all0)), A105⟩
theorem ef_min42 (m : MethodId)  : entryFrame m #[(.int 4), (.int 2)] 2 = mkF m 0 #[.val (.int 4), .val (.int 2)] [] := by first | (simp [entryFrame, mkF, argsToLocals, Value.category]; done) | rfl
def Q_min42 (Z : State)  (h0 : Heap) (v : Option Value) (h : Heap) : Prop := v = some (.int 2) ∧ h0 = h
set_option maxRecDepth 65536 in
set_option maxHeartbeats 40000000 in
theorem c_min42 (l : Launch) (Z : State) (a0 : Array Value) (hw : ∀ d ∈ tables_1, d.before a0 Z = true)  (h0 : Heap) :
    Con l Z (⟨"java/lang/Math", "min", "(II)I"⟩ : MethodName) jdk_29_method_69_code 2 (Option.some FieldType.int) [] ({ frames := 0, cells := 0, slots := 0, locals := 0 } : Room) #[(.int 4), (.int 2)] h0 (Q_min42 Z  h0) [] := by
  refine Con.of (Jvm.Free.JP.mathPlain rfl (by decide +kernel)) ?_
  intro p e s m below meth c T0 B W0
  refine Go.cast (ef_min42 m  ) ?_
  refine g_iload_n B W0 (d_jdk_29_method_69_0) rfl ?_
  refine g_iload_n B W0 (d_jdk_29_method_69_1) rfl ?_
  refine g_icmp_y B W0 (d_jdk_29_method_69_2) (XT.ii_gt_t (by decide)) (pc' := 9) (by decide) ?_
  show Go p.tables e below _ T0 (mkF m 9 #[.val (.int 4), .val (.int 2)] [])
  refine g_iload_n B W0 (d_jdk_29_method_69_9) rfl ?_
  exact r_i B W0 (d_jdk_29_method_69_10) (by decide) (by decide) ⟨rfl, rfl⟩
theorem ef_copyOf42 (m : MethodId) (ar : Addr) (kb : ClassId) (x1 : Int32) (x2 : Int32) (x3 : Int32) (x4 : Int32) : entryFrame m #[(.ref ar), (.int 2)] 3 = mkF m 0 #[.val (.ref ar), .val (.int 2), .unset] [] := by first | (simp [entryFrame, mkF, argsToLocals, Value.category]; done) | rfl
def Q_copyOf42 (Z : State) (ar : Addr) (kb : ClassId) (x1 : Int32) (x2 : Int32) (x3 : Int32) (x4 : Int32) (h0 : Heap) (v : Option Value) (h : Heap) : Prop := ∃ (b : Addr) (kc : ClassId) (vs : List Value), v = some (.ref b) ∧ Keep h0 h [] ∧ Arv Z h b kc .byte 2 vs (.int 0)
set_option maxRecDepth 65536 in
set_option maxHeartbeats 40000000 in
theorem c_copyOf42 (l : Launch) (Z : State) (a0 : Array Value) (hw : ∀ d ∈ tables_1, d.before a0 Z = true) (ar : Addr) (kb : ClassId) (x1 : Int32) (x2 : Int32) (x3 : Int32) (x4 : Int32) (h0 : Heap) (A1 : Arv Z h0 ar kb .byte 4 [.int x1, .int x2, .int x3, .int x4] (.int 0)) :
    Con l Z (⟨"java/util/Arrays", "copyOf", "([BI)[B"⟩ : MethodName) jdk_65_method_121_code 3 (Option.some (FieldType.array FieldType.byte)) [] ({ frames := 1, cells := 1, slots := 3, locals := 40 } : Room) #[(.ref ar), (.int 2)] h0 (Q_copyOf42 Z ar kb x1 x2 x3 x4 h0) [] := by
  refine Con.of (plainFor_of_name pn_java_util_Arrays) ?_
  intro p e s m below meth c T0 B W0
  refine Go.cast (ef_copyOf42 m ar kb x1 x2 x3 x4 ) ?_
  have l_ar := nlt A1.lt
  refine g_iload_n B W0 (d_jdk_65_method_121_0) rfl ?_
  refine g_aload_n B W0 (d_jdk_65_method_121_1) rfl rfl ?_
  refine g_aalen B W0 (d_jdk_65_method_121_2) A1 ?_
  refine g_icmp_y B W0 (d_jdk_65_method_121_3) (XT.ii_ne_t (by decide)) (pc' := 14) (by decide) ?_
  show Go p.tables e below _ T0 (mkF m 14 #[.val (.ref ar), .val (.int 2), .unset] [])
  refine g_iload_n B W0 (d_jdk_65_method_121_14) rfl ?_
  obtain ⟨T101, h101, b101, cA101, gb101, W101, K101, A101, E101, st101⟩ := x_newE B W0 (z := 2) (ad := "[B") 2 (d_jdk_65_method_121_15) (tw hw 19 rfl) (by decide) (by decide) (by decide) (by decide) (by decide) rfl #[.val (.ref ar), .val (.int 2), .unset] []
  have l101 := nlt A101.lt
  have z101 := W0.size
  refine st101 _ ?_
  have s102 := K101.1
  refine g_astore_n B W101 (d_jdk_65_method_121_17) rfl (l' := #[.val (.ref ar), .val (.int 2), .val (.ref b101)]) rfl ?_
  refine g_aload_n B W101 (d_jdk_65_method_121_18) rfl rfl ?_
  refine g_iconst B W101 (d_jdk_65_method_121_19) (v := 0) (by decide) ?_
  refine g_aload_n B W101 (d_jdk_65_method_121_20) rfl rfl ?_
  refine g_iconst B W101 (d_jdk_65_method_121_21) (v := 0) (by decide) ?_
  refine g_aload_n B W101 (d_jdk_65_method_121_22) rfl rfl ?_
  have f103 := (A1.keep K101 nin0)
  refine g_aalen B W101 (d_jdk_65_method_121_23) f103 ?_
  refine g_iload_n B W101 (d_jdk_65_method_121_24) rfl ?_
  obtain ⟨T104, h104, v104, W104, Q104, st104⟩ := x_static B W101 [(.int 4), (.int 2)] (c_min42 l Z a0 hw h101) (by simp) (d_jdk_65_method_121_25) (tw hw 181 rfl) (tw hw 182 rfl) (tw hw 183 rfl) (tw hw 184 rfl) (by decide) (lenOf pd__II_I rfl) #[.val (.ref ar), .val (.int 2), .val (.ref b101)] [(.int 0), (.ref b101), (.int 0), (.ref ar)] rfl 4 rfl (by decide) (by decide) (by decide) (by decide)
  obtain ⟨rfl, rfl⟩ := Q104
  refine st104 _ ?_
  obtain ⟨T105, h105, W105, K105, A105, st105⟩ := x_acopy B W104 (sp := 0) (dp := 0) (nn := 2) (us := [.int x1, .int x2]) (d_jdk_65_method_121_28) (tw hw 185 rfl) (tw hw 188 rfl) (tw hw 186 rfl) (tw hw 187 rfl) f103 A101 (Or.inl ⟨rfl, rfl⟩) (by decide) (by decide) (by decide) (by decide) (by decide) rfl (by decide) (by omega) (by simp) #[.val (.ref ar), .val (.int 2), .val (.ref b101)] [] rfl 0 rfl (by decide) (by decide)
  refine st105 _ ?_
  have s106 := K105.1
  refine g_aload_n B W105 (d_jdk_65_method_121_31) rfl rfl ?_
  exact r_a B W105 rfl rfl rfl (d_jdk_65_method_121_32) (by decide) (by decide) ⟨_, _, _, rfl, (((Keep.refl h0 []).trans K101 all0).trans K105 (allS (Or.inr (by omega)) all0)), A105⟩
theorem ef_min43 (m : MethodId)  : entryFrame m #[(.int 4), (.int 3)] 2 = mkF m 0 #[.val (.int 4), .val (.int 3)] [] := by first | (simp [entryFrame, mkF, argsToLocals, Value.category]; done) | rfl
def Q_min43 (Z : State)  (h0 : Heap) (v : Option Value) (h : Heap) : Prop := v = some (.int 3) ∧ h0 = h
set_option maxRecDepth 65536 in
set_option maxHeartbeats 40000000 in
theorem c_min43 (l : Launch) (Z : State) (a0 : Array Value) (hw : ∀ d ∈ tables_1, d.before a0 Z = true)  (h0 : Heap) :
    Con l Z (⟨"java/lang/Math", "min", "(II)I"⟩ : MethodName) jdk_29_method_69_code 2 (Option.some FieldType.int) [] ({ frames := 0, cells := 0, slots := 0, locals := 0 } : Room) #[(.int 4), (.int 3)] h0 (Q_min43 Z  h0) [] := by
  refine Con.of (Jvm.Free.JP.mathPlain rfl (by decide +kernel)) ?_
  intro p e s m below meth c T0 B W0
  refine Go.cast (ef_min43 m  ) ?_
  refine g_iload_n B W0 (d_jdk_29_method_69_0) rfl ?_
  refine g_iload_n B W0 (d_jdk_29_method_69_1) rfl ?_
  refine g_icmp_y B W0 (d_jdk_29_method_69_2) (XT.ii_gt_t (by decide)) (pc' := 9) (by decide) ?_
  show Go p.tables e below _ T0 (mkF m 9 #[.val (.int 4), .val (.int 3)] [])
  refine g_iload_n B W0 (d_jdk_29_method_69_9) rfl ?_
  exact r_i B W0 (d_jdk_29_method_69_10) (by decide) (by decide) ⟨rfl, rfl⟩
theorem ef_copyOf43 (m : MethodId) (ar : Addr) (kb : ClassId) (x1 : Int32) (x2 : Int32) (x3 : Int32) (x4 : Int32) : entryFrame m #[(.ref ar), (.int 3)] 3 = mkF m 0 #[.val (.ref ar), .val (.int 3), .unset] [] := by first | (simp [entryFrame, mkF, argsToLocals, Value.category]; done) | rfl
def Q_copyOf43 (Z : State) (ar : Addr) (kb : ClassId) (x1 : Int32) (x2 : Int32) (x3 : Int32) (x4 : Int32) (h0 : Heap) (v : Option Value) (h : Heap) : Prop := ∃ (b : Addr) (kc : ClassId) (vs : List Value), v = some (.ref b) ∧ Keep h0 h [] ∧ Arv Z h b kc .byte 3 vs (.int 0)
set_option maxRecDepth 65536 in
set_option maxHeartbeats 40000000 in
theorem c_copyOf43 (l : Launch) (Z : State) (a0 : Array Value) (hw : ∀ d ∈ tables_1, d.before a0 Z = true) (ar : Addr) (kb : ClassId) (x1 : Int32) (x2 : Int32) (x3 : Int32) (x4 : Int32) (h0 : Heap) (A1 : Arv Z h0 ar kb .byte 4 [.int x1, .int x2, .int x3, .int x4] (.int 0)) :
    Con l Z (⟨"java/util/Arrays", "copyOf", "([BI)[B"⟩ : MethodName) jdk_65_method_121_code 3 (Option.some (FieldType.array FieldType.byte)) [] ({ frames := 1, cells := 1, slots := 3, locals := 40 } : Room) #[(.ref ar), (.int 3)] h0 (Q_copyOf43 Z ar kb x1 x2 x3 x4 h0) [] := by
  refine Con.of (plainFor_of_name pn_java_util_Arrays) ?_
  intro p e s m below meth c T0 B W0
  refine Go.cast (ef_copyOf43 m ar kb x1 x2 x3 x4 ) ?_
  have l_ar := nlt A1.lt
  refine g_iload_n B W0 (d_jdk_65_method_121_0) rfl ?_
  refine g_aload_n B W0 (d_jdk_65_method_121_1) rfl rfl ?_
  refine g_aalen B W0 (d_jdk_65_method_121_2) A1 ?_
  refine g_icmp_y B W0 (d_jdk_65_method_121_3) (XT.ii_ne_t (by decide)) (pc' := 14) (by decide) ?_
  show Go p.tables e below _ T0 (mkF m 14 #[.val (.ref ar), .val (.int 3), .unset] [])
  refine g_iload_n B W0 (d_jdk_65_method_121_14) rfl ?_
  obtain ⟨T101, h101, b101, cA101, gb101, W101, K101, A101, E101, st101⟩ := x_newE B W0 (z := 3) (ad := "[B") 3 (d_jdk_65_method_121_15) (tw hw 19 rfl) (by decide) (by decide) (by decide) (by decide) (by decide) rfl #[.val (.ref ar), .val (.int 3), .unset] []
  have l101 := nlt A101.lt
  have z101 := W0.size
  refine st101 _ ?_
  have s102 := K101.1
  refine g_astore_n B W101 (d_jdk_65_method_121_17) rfl (l' := #[.val (.ref ar), .val (.int 3), .val (.ref b101)]) rfl ?_
  refine g_aload_n B W101 (d_jdk_65_method_121_18) rfl rfl ?_
  refine g_iconst B W101 (d_jdk_65_method_121_19) (v := 0) (by decide) ?_
  refine g_aload_n B W101 (d_jdk_65_method_121_20) rfl rfl ?_
  refine g_iconst B W101 (d_jdk_65_method_121_21) (v := 0) (by decide) ?_
  refine g_aload_n B W101 (d_jdk_65_method_121_22) rfl rfl ?_
  have f103 := (A1.keep K101 nin0)
  refine g_aalen B W101 (d_jdk_65_method_121_23) f103 ?_
  refine g_iload_n B W101 (d_jdk_65_method_121_24) rfl ?_
  obtain ⟨T104, h104, v104, W104, Q104, st104⟩ := x_static B W101 [(.int 4), (.int 3)] (c_min43 l Z a0 hw h101) (by simp) (d_jdk_65_method_121_25) (tw hw 181 rfl) (tw hw 182 rfl) (tw hw 183 rfl) (tw hw 184 rfl) (by decide) (lenOf pd__II_I rfl) #[.val (.ref ar), .val (.int 3), .val (.ref b101)] [(.int 0), (.ref b101), (.int 0), (.ref ar)] rfl 4 rfl (by decide) (by decide) (by decide) (by decide)
  obtain ⟨rfl, rfl⟩ := Q104
  refine st104 _ ?_
  obtain ⟨T105, h105, W105, K105, A105, st105⟩ := x_acopy B W104 (sp := 0) (dp := 0) (nn := 3) (us := [.int x1, .int x2, .int x3]) (d_jdk_65_method_121_28) (tw hw 185 rfl) (tw hw 188 rfl) (tw hw 186 rfl) (tw hw 187 rfl) f103 A101 (Or.inl ⟨rfl, rfl⟩) (by decide) (by decide) (by decide) (by decide) (by decide) rfl (by decide) (by omega) (by simp) #[.val (.ref ar), .val (.int 3), .val (.ref b101)] [] rfl 0 rfl (by decide) (by decide)
  refine st105 _ ?_
  have s106 := K105.1
  refine g_aload_n B W105 (d_jdk_65_method_121_31) rfl rfl ?_
  exact r_a B W105 rfl rfl rfl (d_jdk_65_method_121_32) (by decide) (by decide) ⟨_, _, _, rfl, (((Keep.refl h0 []).trans K101 all0).trans K105 (allS (Or.inr (by omega)) all0)), A105⟩
theorem ef_enc8_0 (m : MethodId) (ar : Addr) (kb : ClassId) : entryFrame m #[(.int 0), (.ref ar), (.int 1)] 9 = mkF m 0 #[.val (.int 0), .val (.ref ar), .val (.int 1), .unset, .unset, .unset, .unset, .unset, .unset] [] := by first | (simp [entryFrame, mkF, argsToLocals, Value.category]; done) | rfl
def Q_enc8_0 (Z : State) (ar : Addr) (kb : ClassId) (h0 : Heap) (v : Option Value) (h : Heap) : Prop := ∃ (b : Addr) (kc : ClassId) (z : Int32) (vs : List Value), v = some (.ref b) ∧ Keep h0 h [] ∧ Arv Z h b kc .byte z vs (.int 0) ∧ ¬ 4 < z
set_option maxRecDepth 65536 in
set_option maxHeartbeats 40000000 in
theorem c_enc8_0 (l : Launch) (Z : State) (a0 : Array Value) (hw : ∀ d ∈ tables_1, d.before a0 Z = true) (ar : Addr) (kb : ClassId) (h0 : Heap) (A1 : Arv Z h0 ar kb .byte 0 [] (.int 0)) (E1 : Exa Z h0 ar "[B") :
    Con l Z (⟨"java/lang/String", "encodeUTF8", "(B[BZ)[B"⟩ : MethodName) jdk_42_method_46_code 9 (Option.some (FieldType.array FieldType.byte)) [] ({ frames := 2, cells := 2, slots := 7, locals := 54 } : Room) #[(.int 0), (.ref ar), (.int 1)] h0 (Q_enc8_0 Z ar kb h0) [] := by
  refine Con.of (plainFor_of_name pn_java_lang_String) ?_
  intro p e s m below meth c T0 B W0
  refine Go.cast (ef_enc8_0 m ar kb ) ?_
  have l_ar := nlt A1.lt
  refine g_iload_n B W0 (d_jdk_42_method_46_0) rfl ?_
  refine g_iconst B W0 (d_jdk_42_method_46_1) (v := 1) (by decide) ?_
  refine g_icmp_y B W0 (d_jdk_42_method_46_2) (XT.ii_ne_t (by decide)) (pc' := 11) (by decide) ?_
  show Go p.tables e below _ T0 (mkF m 11 #[.val (.int 0), .val (.ref ar), .val (.int 1), .unset, .unset, .unset, .unset, .unset, .unset] [])
  refine g_aload_n B W0 (d_jdk_42_method_46_11) rfl rfl ?_
  refine g_iconst B W0 (d_jdk_42_method_46_12) (v := 0) (by decide) ?_
  refine g_aload_n B W0 (d_jdk_42_method_46_13) rfl rfl ?_
  refine g_aalen B W0 (d_jdk_42_method_46_14) A1 ?_
  obtain ⟨T101, h101, v101, W101, Q101, st101⟩ := x_static B W0 [(.ref ar), (.int 0), (.int 0)] (c_hneg0 l Z a0 hw ar kb  h0 A1) (by simp) (d_jdk_42_method_46_15) (tw hw 61 rfl) (tw hw 62 rfl) (tw hw 63 rfl) (tw hw 64 rfl) (by decide) (lenOf pd___BII_Z rfl) #[.val (.int 0), .val (.ref ar), .val (.int 1), .unset, .unset, .unset, .unset, .unset, .unset] [] rfl 0 rfl (by decide) (by decide) (by decide) (by decide)
  obtain ⟨r101, rfl, rfl⟩ := Q101
  refine st101 _ ?_
  by_cases hc102 : r101 = true
  · skip
    refine g_if_y B W101 (d_jdk_42_method_46_18) (XT.i0_ne_t (bi_t hc102)) (pc' := 29) (by decide) ?_
    show Go p.tables e below _ T101 (mkF m 29 #[.val (.int 0), .val (.ref ar), .val (.int 1), .unset, .unset, .unset, .unset, .unset, .unset] [])
    refine g_iconst B W101 (d_jdk_42_method_46_29) (v := 0) (by decide) ?_
    refine g_istore_n B W101 (d_jdk_42_method_46_30)  (l' := #[.val (.int 0), .val (.ref ar), .val (.int 1), .val (.int 0), .unset, .unset, .unset, .unset, .unset]) rfl ?_
    refine g_aload_n B W101 (d_jdk_42_method_46_31) rfl rfl ?_
    refine g_aalen B W101 (d_jdk_42_method_46_32) A1 ?_
    have z103 := W101.size
    obtain ⟨T104, h104, b104, W104, Q104, st104⟩ := x_staticR B W101 [(.int 0)] (c_nbf0 l Z a0 hw h0) (by simp) (fun v h' q => by obtain ⟨b, -, hb, -⟩ := q; exact ⟨b, hb⟩) (d_jdk_42_method_46_33) (tw hw 170 rfl) (tw hw 171 rfl) (tw hw 147 rfl) (tw hw 172 rfl) (by decide) (lenOf pd__I__B rfl) #[.val (.int 0), .val (.ref ar), .val (.int 1), .val (.int 0), .unset, .unset, .unset, .unset, .unset] [] rfl 0 rfl (by decide) (by decide) (by decide) (by decide)
    obtain ⟨bb104, kb104, eb104, g104, K104, A104⟩ := Q104
    have s105 := K104.1
    refine st104 _ ?_
    obtain rfl : b104 = bb104 := by simpa using eb104
    have l104 := nlt A104.lt
    refine g_astore B W104 (d_jdk_42_method_46_36) rfl (l' := #[.val (.int 0), .val (.ref ar), .val (.int 1), .val (.int 0), .val (.ref b104), .unset, .unset, .unset, .unset]) rfl ?_
    refine g_aload_n B W104 (d_jdk_42_method_46_38) rfl rfl ?_
    refine g_astore B W104 (d_jdk_42_method_46_39) rfl (l' := #[.val (.int 0), .val (.ref ar), .val (.int 1), .val (.int 0), .val (.ref b104), .val (.ref ar), .unset, .unset, .unset]) rfl ?_
    refine g_aload B W104 (d_jdk_42_method_46_41) rfl rfl ?_
    have f106 := (A1.keep K104 nin0)
    refine g_aalen B W104 (d_jdk_42_method_46_43) f106 ?_
    refine g_istore B W104 (d_jdk_42_method_46_44)  (l' := #[.val (.int 0), .val (.ref ar), .val (.int 1), .val (.int 0), .val (.ref b104), .val (.ref ar), .val (.int 0), .unset, .unset]) rfl ?_
    refine g_iconst B W104 (d_jdk_42_method_46_46) (v := 0) (by decide) ?_
    refine g_istore B W104 (d_jdk_42_method_46_47)  (l' := #[.val (.int 0), .val (.ref ar), .val (.int 1), .val (.int 0), .val (.ref b104), .val (.ref ar), .val (.int 0), .val (.int 0), .unset]) rfl ?_
    refine g_iload B W104 (d_jdk_42_method_46_49) rfl ?_
    refine g_iload B W104 (d_jdk_42_method_46_51) rfl ?_
    refine g_icmp_y B W104 (d_jdk_42_method_46_53) (XT.ii_ge_t (by decide)) (pc' := 124) (by decide) ?_
    show Go p.tables e below _ T104 (mkF m 124 #[.val (.int 0), .val (.ref ar), .val (.int 1), .val (.int 0), .val (.ref b104), .val (.ref ar), .val (.int 0), .val (.int 0), .unset] [])
    refine g_iload_n B W104 (d_jdk_42_method_46_124) rfl ?_
    refine g_aload B W104 (d_jdk_42_method_46_125) rfl rfl ?_
    refine g_aalen B W104 (d_jdk_42_method_46_127) A104 ?_
    refine g_icmp_n B W104 (d_jdk_42_method_46_128) (XT.ii_ne_f (by decide)) ?_
    show Go p.tables e below _ T104 (mkF m 131 #[.val (.int 0), .val (.ref ar), .val (.int 1), .val (.int 0), .val (.ref b104), .val (.ref ar), .val (.int 0), .val (.int 0), .unset] [])
    refine g_aload B W104 (d_jdk_42_method_46_131) rfl rfl ?_
    exact r_a B W104 rfl rfl rfl (d_jdk_42_method_46_133) (by decide) (by decide) ⟨_, _, _, _, rfl, ((Keep.refl h0 []).trans K104 all0), A104, by decide⟩
  · skip
    refine g_if_n B W101 (d_jdk_42_method_46_18) (XT.i0_ne_f (bi_f (Bool.eq_false_iff.mpr hc102))) ?_
    show Go p.tables e below _ T101 (mkF m 21 #[.val (.int 0), .val (.ref ar), .val (.int 1), .unset, .unset, .unset, .unset, .unset, .unset] [])
    refine g_aload_n B W101 (d_jdk_42_method_46_21) rfl rfl ?_
    obtain ⟨T107, h107, b107, gb107, W107, K107, A107, E107, st107⟩ := x_cloneV B W101 0 (d_jdk_42_method_46_22) (tw hw 68 rfl) (tw hw 69 rfl) (tw hw 73 rfl) (tw hw 71 rfl) (tw hw 72 rfl) (tw hw 74 rfl) A1 E1 #[.val (.int 0), .val (.ref ar), .val (.int 1), .unset, .unset, .unset, .unset, .unset, .unset] [] rfl 0 rfl (by decide) (by decide) (by decide) (by decide) (by decide)
    refine st107 _ ?_
    have s108 := K107.1
    obtain ⟨T109, W109, st109⟩ := x_castY B W107 (d_jdk_42_method_46_25) (tw hw 75 rfl) (Ins.self E107) #[.val (.int 0), .val (.ref ar), .val (.int 1), .unset, .unset, .unset, .unset, .unset, .unset] []
    refine st109 _ ?_
    exact r_a B W109 rfl rfl rfl (d_jdk_42_method_46_28) (by decide) (by decide) ⟨_, _, _, _, rfl, ((Keep.refl h0 []).trans K107 all0), A107, by decide⟩
theorem ef_enc8_1 (m : MethodId) (ar : Addr) (kb : ClassId) (q0 : Int32) : entryFrame m #[(.int 0), (.ref ar), (.int 1)] 9 = mkF m 0 #[.val (.int 0), .val (.ref ar), .val (.int 1), .unset, .unset, .unset, .unset, .unset, .unset] [] := by first | (simp [entryFrame, mkF, argsToLocals, Value.category]; done) | rfl
def Q_enc8_1 (Z : State) (ar : Addr) (kb : ClassId) (q0 : Int32) (h0 : Heap) (v : Option Value) (h : Heap) : Prop := ∃ (b : Addr) (kc : ClassId) (z : Int32) (vs : List Value), v = some (.ref b) ∧ Keep h0 h [] ∧ Arv Z h b kc .byte z vs (.int 0) ∧ ¬ 4 < z
set_option maxRecDepth 65536 in
set_option maxHeartbeats 40000000 in
theorem c_enc8_1 (l : Launch) (Z : State) (a0 : Array Value) (hw : ∀ d ∈ tables_1, d.before a0 Z = true) (ar : Addr) (kb : ClassId) (q0 : Int32) (h0 : Heap) (A1 : Arv Z h0 ar kb .byte 1 [.int q0] (.int 0)) (E1 : Exa Z h0 ar "[B") :
    Con l Z (⟨"java/lang/String", "encodeUTF8", "(B[BZ)[B"⟩ : MethodName) jdk_42_method_46_code 9 (Option.some (FieldType.array FieldType.byte)) [] ({ frames := 2, cells := 2, slots := 7, locals := 54 } : Room) #[(.int 0), (.ref ar), (.int 1)] h0 (Q_enc8_1 Z ar kb q0 h0) [] := by
  refine Con.of (plainFor_of_name pn_java_lang_String) ?_
  intro p e s m below meth c T0 B W0
  refine Go.cast (ef_enc8_1 m ar kb q0 ) ?_
  have l_ar := nlt A1.lt
  refine g_iload_n B W0 (d_jdk_42_method_46_0) rfl ?_
  refine g_iconst B W0 (d_jdk_42_method_46_1) (v := 1) (by decide) ?_
  refine g_icmp_y B W0 (d_jdk_42_method_46_2) (XT.ii_ne_t (by decide)) (pc' := 11) (by decide) ?_
  show Go p.tables e below _ T0 (mkF m 11 #[.val (.int 0), .val (.ref ar), .val (.int 1), .unset, .unset, .unset, .unset, .unset, .unset] [])
  refine g_aload_n B W0 (d_jdk_42_method_46_11) rfl rfl ?_
  refine g_iconst B W0 (d_jdk_42_method_46_12) (v := 0) (by decide) ?_
  refine g_aload_n B W0 (d_jdk_42_method_46_13) rfl rfl ?_
  refine g_aalen B W0 (d_jdk_42_method_46_14) A1 ?_
  obtain ⟨T101, h101, v101, W101, Q101, st101⟩ := x_static B W0 [(.ref ar), (.int 0), (.int 1)] (c_hneg1 l Z a0 hw ar kb q0 h0 A1) (by simp) (d_jdk_42_method_46_15) (tw hw 61 rfl) (tw hw 62 rfl) (tw hw 63 rfl) (tw hw 64 rfl) (by decide) (lenOf pd___BII_Z rfl) #[.val (.int 0), .val (.ref ar), .val (.int 1), .unset, .unset, .unset, .unset, .unset, .unset] [] rfl 0 rfl (by decide) (by decide) (by decide) (by decide)
  obtain ⟨r101, rfl, rfl⟩ := Q101
  refine st101 _ ?_
  by_cases hc102 : r101 = true
  · skip
    refine g_if_y B W101 (d_jdk_42_method_46_18) (XT.i0_ne_t (bi_t hc102)) (pc' := 29) (by decide) ?_
    show Go p.tables e below _ T101 (mkF m 29 #[.val (.int 0), .val (.ref ar), .val (.int 1), .unset, .unset, .unset, .unset, .unset, .unset] [])
    refine g_iconst B W101 (d_jdk_42_method_46_29) (v := 0) (by decide) ?_
    refine g_istore_n B W101 (d_jdk_42_method_46_30)  (l' := #[.val (.int 0), .val (.ref ar), .val (.int 1), .val (.int 0), .unset, .unset, .unset, .unset, .unset]) rfl ?_
    refine g_aload_n B W101 (d_jdk_42_method_46_31) rfl rfl ?_
    refine g_aalen B W101 (d_jdk_42_method_46_32) A1 ?_
    have z103 := W101.size
    obtain ⟨T104, h104, b104, W104, Q104, st104⟩ := x_staticR B W101 [(.int 1)] (c_nbf1 l Z a0 hw h0) (by simp) (fun v h' q => by obtain ⟨b, -, hb, -⟩ := q; exact ⟨b, hb⟩) (d_jdk_42_method_46_33) (tw hw 170 rfl) (tw hw 171 rfl) (tw hw 147 rfl) (tw hw 172 rfl) (by decide) (lenOf pd__I__B rfl) #[.val (.int 0), .val (.ref ar), .val (.int 1), .val (.int 0), .unset, .unset, .unset, .unset, .unset] [] rfl 0 rfl (by decide) (by decide) (by decide) (by decide)
    obtain ⟨bb104, kb104, eb104, g104, K104, A104⟩ := Q104
    have s105 := K104.1
    refine st104 _ ?_
    obtain rfl : b104 = bb104 := by simpa using eb104
    have l104 := nlt A104.lt
    refine g_astore B W104 (d_jdk_42_method_46_36) rfl (l' := #[.val (.int 0), .val (.ref ar), .val (.int 1), .val (.int 0), .val (.ref b104), .unset, .unset, .unset, .unset]) rfl ?_
    refine g_aload_n B W104 (d_jdk_42_method_46_38) rfl rfl ?_
    refine g_astore B W104 (d_jdk_42_method_46_39) rfl (l' := #[.val (.int 0), .val (.ref ar), .val (.int 1), .val (.int 0), .val (.ref b104), .val (.ref ar), .unset, .unset, .unset]) rfl ?_
    refine g_aload B W104 (d_jdk_42_method_46_41) rfl rfl ?_
    have f106 := (A1.keep K104 nin0)
    refine g_aalen B W104 (d_jdk_42_method_46_43) f106 ?_
    refine g_istore B W104 (d_jdk_42_method_46_44)  (l' := #[.val (.int 0), .val (.ref ar), .val (.int 1), .val (.int 0), .val (.ref b104), .val (.ref ar), .val (.int 1), .unset, .unset]) rfl ?_
    refine g_iconst B W104 (d_jdk_42_method_46_46) (v := 0) (by decide) ?_
    refine g_istore B W104 (d_jdk_42_method_46_47)  (l' := #[.val (.int 0), .val (.ref ar), .val (.int 1), .val (.int 0), .val (.ref b104), .val (.ref ar), .val (.int 1), .val (.int 0), .unset]) rfl ?_
    refine g_iload B W104 (d_jdk_42_method_46_49) rfl ?_
    refine g_iload B W104 (d_jdk_42_method_46_51) rfl ?_
    refine g_icmp_n B W104 (d_jdk_42_method_46_53) (XT.ii_ge_f (by decide)) ?_
    show Go p.tables e below _ T104 (mkF m 56 #[.val (.int 0), .val (.ref ar), .val (.int 1), .val (.int 0), .val (.ref b104), .val (.ref ar), .val (.int 1), .val (.int 0), .unset] [])
    refine g_aload B W104 (d_jdk_42_method_46_56) rfl rfl ?_
    refine g_iload B W104 (d_jdk_42_method_46_58) rfl ?_
    refine g_baload B W104 (d_jdk_42_method_46_60) f106 (by decide) (show List.getD ([(.int q0)] : List Value) _ _ = (.int q0) from rfl) ?_
    refine g_istore B W104 (d_jdk_42_method_46_61)  (l' := #[.val (.int 0), .val (.ref ar), .val (.int 1), .val (.int 0), .val (.ref b104), .val (.ref ar), .val (.int 1), .val (.int 0), .val (.int q0)]) rfl ?_
    refine g_iload B W104 (d_jdk_42_method_46_63) rfl ?_
    by_cases hc107 : q0 < 0
    · skip
      refine g_if_n B W104 (d_jdk_42_method_46_65) (XT.i0_ge_f hc107) ?_
      show Go p.tables e below _ T104 (mkF m 68 #[.val (.int 0), .val (.ref ar), .val (.int 1), .val (.int 0), .val (.ref b104), .val (.ref ar), .val (.int 1), .val (.int 0), .val (.int q0)] [])
      refine g_aload B W104 (d_jdk_42_method_46_68) rfl rfl ?_
      refine g_iload_n B W104 (d_jdk_42_method_46_70) rfl ?_
      refine g_iinc B W104 (d_jdk_42_method_46_71) (v := 1) (l' := #[.val (.int 0), .val (.ref ar), .val (.int 1), .val (.int (0 + 1)), .val (.ref b104), .val (.ref ar), .val (.int 1), .val (.int 0), .val (.int q0)]) (by decide) rfl rfl ?_
      rw [show (0 + 1 : Int32) = 1 by decide]
      refine g_sipush B W104 (d_jdk_42_method_46_74) (v := 192) (by decide) ?_
      refine g_iload B W104 (d_jdk_42_method_46_77) rfl ?_
      refine g_sipush B W104 (d_jdk_42_method_46_79) (v := 255) (by decide) ?_
      refine g_iand B W104 (d_jdk_42_method_46_82)  ?_
      refine g_bipush B W104 (d_jdk_42_method_46_83) (v := 6) (by decide) ?_
      refine g_ishr B W104 (d_jdk_42_method_46_85)  ?_
      refine g_ior B W104 (d_jdk_42_method_46_86)  ?_
      refine g_i2b B W104 (d_jdk_42_method_46_87)  ?_
      obtain ⟨T108, h108, W108, K108, A108, st108⟩ := x_bastore B W104 (j := 0) (x := ((192 ||| (((q0 &&& 255) : Int32) >>> ((6 : Int32) &&& 31))) : Int32).toInt8.toInt32) (d_jdk_42_method_46_88) A104 (by decide) (Nat.lt_of_lt_of_eq (show Int32.toNatClampNeg 0 < 2 by decide) rfl) (by omega) (by simp) #[.val (.int 0), .val (.ref ar), .val (.int 1), .val (.int 1), .val (.ref b104), .val (.ref ar), .val (.int 1), .val (.int 0), .val (.int q0)] []
      refine st108 _ ?_
      generalize nar .byte ((192 ||| (((q0 &&& 255) : Int32) >>> ((6 : Int32) &&& 31))) : Int32).toInt8.toInt32 = yb108 at A108
      have A108 : Arv Z h108 b104 kb104 .byte 2 [(.int yb108), (.int 0)] (.int 0) := A108
      have s109 := K108.1
      refine g_aload B W108 (d_jdk_42_method_46_89) rfl rfl ?_
      refine g_iload_n B W108 (d_jdk_42_method_46_91) rfl ?_
      refine g_iinc B W108 (d_jdk_42_method_46_92) (v := 1) (l' := #[.val (.int 0), .val (.ref ar), .val (.int 1), .val (.int (1 + 1)), .val (.ref b104), .val (.ref ar), .val (.int 1), .val (.int 0), .val (.int q0)]) (by decide) rfl rfl ?_
      rw [show (1 + 1 : Int32) = 2 by decide]
      refine g_sipush B W108 (d_jdk_42_method_46_95) (v := 128) (by decide) ?_
      refine g_iload B W108 (d_jdk_42_method_46_98) rfl ?_
      refine g_bipush B W108 (d_jdk_42_method_46_100) (v := 63) (by decide) ?_
      refine g_iand B W108 (d_jdk_42_method_46_102)  ?_
      refine g_ior B W108 (d_jdk_42_method_46_103)  ?_
      refine g_i2b B W108 (d_jdk_42_method_46_104)  ?_
      obtain ⟨T110, h110, W110, K110, A110, st110⟩ := x_bastore B W108 (j := 1) (x := ((128 ||| (q0 &&& 63)) : Int32).toInt8.toInt32) (d_jdk_42_method_46_105) A108 (by decide) (Nat.lt_of_lt_of_eq (show Int32.toNatClampNeg 1 < 2 by decide) rfl) (by omega) (by simp) #[.val (.int 0), .val (.ref ar), .val (.int 1), .val (.int 2), .val (.ref b104), .val (.ref ar), .val (.int 1), .val (.int 0), .val (.int q0)] []
      refine st110 _ ?_
      generalize nar .byte ((128 ||| (q0 &&& 63)) : Int32).toInt8.toInt32 = yb110 at A110
      have A110 : Arv Z h110 b104 kb104 .byte 2 [(.int yb108), (.int yb110)] (.int 0) := A110
      have s111 := K110.1
      refine g_goto B W110 (d_jdk_42_method_46_106) (pc' := 118) (by decide) ?_
      show Go p.tables e below _ T110 (mkF m 118 #[.val (.int 0), .val (.ref ar), .val (.int 1), .val (.int 2), .val (.ref b104), .val (.ref ar), .val (.int 1), .val (.int 0), .val (.int q0)] [])
      refine g_iinc B W110 (d_jdk_42_method_46_118) (v := 1) (l' := #[.val (.int 0), .val (.ref ar), .val (.int 1), .val (.int 2), .val (.ref b104), .val (.ref ar), .val (.int 1), .val (.int (0 + 1)), .val (.int q0)]) (by decide) rfl rfl ?_
      rw [show (0 + 1 : Int32) = 1 by decide]
      refine g_goto B W110 (d_jdk_42_method_46_121) (pc' := 49) (by decide) ?_
      show Go p.tables e below _ T110 (mkF m 49 #[.val (.int 0), .val (.ref ar), .val (.int 1), .val (.int 2), .val (.ref b104), .val (.ref ar), .val (.int 1), .val (.int 1), .val (.int q0)] [])
      refine g_iload B W110 (d_jdk_42_method_46_49) rfl ?_
      refine g_iload B W110 (d_jdk_42_method_46_51) rfl ?_
      refine g_icmp_y B W110 (d_jdk_42_method_46_53) (XT.ii_ge_t (by decide)) (pc' := 124) (by decide) ?_
      show Go p.tables e below _ T110 (mkF m 124 #[.val (.int 0), .val (.ref ar), .val (.int 1), .val (.int 2), .val (.ref b104), .val (.ref ar), .val (.int 1), .val (.int 1), .val (.int q0)] [])
      refine g_iload_n B W110 (d_jdk_42_method_46_124) rfl ?_
      refine g_aload B W110 (d_jdk_42_method_46_125) rfl rfl ?_
      refine g_aalen B W110 (d_jdk_42_method_46_127) A110 ?_
      refine g_icmp_n B W110 (d_jdk_42_method_46_128) (XT.ii_ne_f (by decide)) ?_
      show Go p.tables e below _ T110 (mkF m 131 #[.val (.int 0), .val (.ref ar), .val (.int 1), .val (.int 2), .val (.ref b104), .val (.ref ar), .val (.int 1), .val (.int 1), .val (.int q0)] [])
      refine g_aload B W110 (d_jdk_42_method_46_131) rfl rfl ?_
      exact r_a B W110 rfl rfl rfl (d_jdk_42_method_46_133) (by decide) (by decide) ⟨_, _, _, _, rfl, ((((Keep.refl h0 []).trans K104 all0).trans K108 (allS (Or.inr (by omega)) all0)).trans K110 (allS (Or.inr (by omega)) all0)), A110, by decide⟩
    · skip
      refine g_if_y B W104 (d_jdk_42_method_46_65) (XT.i0_ge_t hc107) (pc' := 109) (by decide) ?_
      show Go p.tables e below _ T104 (mkF m 109 #[.val (.int 0), .val (.ref ar), .val (.int 1), .val (.int 0), .val (.ref b104), .val (.ref ar), .val (.int 1), .val (.int 0), .val (.int q0)] [])
      refine g_aload B W104 (d_jdk_42_method_46_109) rfl rfl ?_
      refine g_iload_n B W104 (d_jdk_42_method_46_111) rfl ?_
      refine g_iinc B W104 (d_jdk_42_method_46_112) (v := 1) (l' := #[.val (.int 0), .val (.ref ar), .val (.int 1), .val (.int (0 + 1)), .val (.ref b104), .val (.ref ar), .val (.int 1), .val (.int 0), .val (.int q0)]) (by decide) rfl rfl ?_
      rw [show (0 + 1 : Int32) = 1 by decide]
      refine g_iload B W104 (d_jdk_42_method_46_115) rfl ?_
      obtain ⟨T112, h112, W112, K112, A112, st112⟩ := x_bastore B W104 (j := 0) (x := q0) (d_jdk_42_method_46_117) A104 (by decide) (Nat.lt_of_lt_of_eq (show Int32.toNatClampNeg 0 < 2 by decide) rfl) (by omega) (by simp) #[.val (.int 0), .val (.ref ar), .val (.int 1), .val (.int 1), .val (.ref b104), .val (.ref ar), .val (.int 1), .val (.int 0), .val (.int q0)] []
      refine st112 _ ?_
      generalize nar .byte q0 = yb112 at A112
      have A112 : Arv Z h112 b104 kb104 .byte 2 [(.int yb112), (.int 0)] (.int 0) := A112
      have s113 := K112.1
      refine g_iinc B W112 (d_jdk_42_method_46_118) (v := 1) (l' := #[.val (.int 0), .val (.ref ar), .val (.int 1), .val (.int 1), .val (.ref b104), .val (.ref ar), .val (.int 1), .val (.int (0 + 1)), .val (.int q0)]) (by decide) rfl rfl ?_
      rw [show (0 + 1 : Int32) = 1 by decide]
      refine g_goto B W112 (d_jdk_42_method_46_121) (pc' := 49) (by decide) ?_
      show Go p.tables e below _ T112 (mkF m 49 #[.val (.int 0), .val (.ref ar), .val (.int 1), .val (.int 1), .val (.ref b104), .val (.ref ar), .val (.int 1), .val (.int 1), .val (.int q0)] [])
      refine g_iload B W112 (d_jdk_42_method_46_49) rfl ?_
      refine g_iload B W112 (d_jdk_42_method_46_51) rfl ?_
      refine g_icmp_y B W112 (d_jdk_42_method_46_53) (XT.ii_ge_t (by decide)) (pc' := 124) (by decide) ?_
      show Go p.tables e below _ T112 (mkF m 124 #[.val (.int 0), .val (.ref ar), .val (.int 1), .val (.int 1), .val (.ref b104), .val (.ref ar), .val (.int 1), .val (.int 1), .val (.int q0)] [])
      refine g_iload_n B W112 (d_jdk_42_method_46_124) rfl ?_
      refine g_aload B W112 (d_jdk_42_method_46_125) rfl rfl ?_
      refine g_aalen B W112 (d_jdk_42_method_46_127) A112 ?_
      refine g_icmp_y B W112 (d_jdk_42_method_46_128) (XT.ii_ne_t (by decide)) (pc' := 134) (by decide) ?_
      show Go p.tables e below _ T112 (mkF m 134 #[.val (.int 0), .val (.ref ar), .val (.int 1), .val (.int 1), .val (.ref b104), .val (.ref ar), .val (.int 1), .val (.int 1), .val (.int q0)] [])
      refine g_aload B W112 (d_jdk_42_method_46_134) rfl rfl ?_
      refine g_iload_n B W112 (d_jdk_42_method_46_136) rfl ?_
      obtain ⟨T114, h114, v114, W114, Q114, st114⟩ := x_static B W112 [(.ref b104), (.int 1)] (c_copyOf21 l Z a0 hw b104 kb104 yb112 0 h112 A112) (by simp) (d_jdk_42_method_46_137) (tw hw 177 rfl) (tw hw 178 rfl) (tw hw 179 rfl) (tw hw 180 rfl) (by decide) (lenOf pd___BI__B rfl) #[.val (.int 0), .val (.ref ar), .val (.int 1), .val (.int 1), .val (.ref b104), .val (.ref ar), .val (.int 1), .val (.int 1), .val (.int q0)] [] rfl 0 rfl (by decide) (by decide) (by decide) (by decide)
      obtain ⟨b114, kc114, vs114, rfl, K114, A114⟩ := Q114
      have s115 := K114.1
      refine st114 _ ?_
      exact r_a B W114 rfl rfl rfl (d_jdk_42_method_46_140) (by decide) (by decide) ⟨_, _, _, _, rfl, ((((Keep.refl h0 []).trans K104 all0).trans K112 (allS (Or.inr (by omega)) all0)).trans K114 all0), A114, by decide⟩
  · skip
    refine g_if_n B W101 (d_jdk_42_method_46_18) (XT.i0_ne_f (bi_f (Bool.eq_false_iff.mpr hc102))) ?_
    show Go p.tables e below _ T101 (mkF m 21 #[.val (.int 0), .val (.ref ar), .val (.int 1), .unset, .unset, .unset, .unset, .unset, .unset] [])
    refine g_aload_n B W101 (d_jdk_42_method_46_21) rfl rfl ?_
    obtain ⟨T116, h116, b116, gb116, W116, K116, A116, E116, st116⟩ := x_cloneV B W101 1 (d_jdk_42_method_46_22) (tw hw 68 rfl) (tw hw 69 rfl) (tw hw 73 rfl) (tw hw 71 rfl) (tw hw 72 rfl) (tw hw 74 rfl) A1 E1 #[.val (.int 0), .val (.ref ar), .val (.int 1), .unset, .unset, .unset, .unset, .unset, .unset] [] rfl 0 rfl (by decide) (by decide) (by decide) (by decide) (by decide)
    refine st116 _ ?_
    have s117 := K116.1
    obtain ⟨T118, W118, st118⟩ := x_castY B W116 (d_jdk_42_method_46_25) (tw hw 75 rfl) (Ins.self E116) #[.val (.int 0), .val (.ref ar), .val (.int 1), .unset, .unset, .unset, .unset, .unset, .unset] []
    refine st118 _ ?_
    exact r_a B W118 rfl rfl rfl (d_jdk_42_method_46_28) (by decide) (by decide) ⟨_, _, _, _, rfl, ((Keep.refl h0 []).trans K116 all0), A116, by decide⟩
theorem ef_enc8_2 (m : MethodId) (ar : Addr) (kb : ClassId) (q0 : Int32) (q1 : Int32) : entryFrame m #[(.int 0), (.ref ar), (.int 1)] 9 = mkF m 0 #[.val (.int 0), .val (.ref ar), .val (.int 1), .unset, .unset, .unset, .unset, .unset, .unset] [] := by first | (simp [entryFrame, mkF, argsToLocals, Value.category]; done) | rfl
def Q_enc8_2 (Z : State) (ar : Addr) (kb : ClassId) (q0 : Int32) (q1 : Int32) (h0 : Heap) (v : Option Value) (h : Heap) : Prop := ∃ (b : Addr) (kc : ClassId) (z : Int32) (vs : List Value), v = some (.ref b) ∧ Keep h0 h [] ∧ Arv Z h b kc .byte z vs (.int 0) ∧ ¬ 4 < z
set_option maxRecDepth 65536 in
set_option maxHeartbeats 40000000 in
theorem c_enc8_2 (l : Launch) (Z : State) (a0 : Array Value) (hw : ∀ d ∈ tables_1, d.before a0 Z = true) (ar : Addr) (kb : ClassId) (q0 : Int32) (q1 : Int32) (h0 : Heap) (A1 : Arv Z h0 ar kb .byte 2 [.int q0, .int q1] (.int 0)) (E1 : Exa Z h0 ar "[B") :
    Con l Z (⟨"java/lang/String", "encodeUTF8", "(B[BZ)[B"⟩ : MethodName) jdk_42_method_46_code 9 (Option.some (FieldType.array FieldType.byte)) [] ({ frames := 2, cells := 2, slots := 7, locals := 54 } : Room) #[(.int 0), (.ref ar), (.int 1)] h0 (Q_enc8_2 Z ar kb q0 q1 h0) [] := by
  refine Con.of (plainFor_of_name pn_java_lang_String) ?_
  intro p e s m below meth c T0 B W0
  refine Go.cast (ef_enc8_2 m ar kb q0 q1 ) ?_
  have l_ar := nlt A1.lt
  refine g_iload_n B W0 (d_jdk_42_method_46_0) rfl ?_
  refine g_iconst B W0 (d_jdk_42_method_46_1) (v := 1) (by decide) ?_
  refine g_icmp_y B W0 (d_jdk_42_method_46_2) (XT.ii_ne_t (by decide)) (pc' := 11) (by decide) ?_
  show Go p.tables e below _ T0 (mkF m 11 #[.val (.int 0), .val (.ref ar), .val (.int 1), .unset, .unset, .unset, .unset, .unset, .unset] [])
  refine g_aload_n B W0 (d_jdk_42_method_46_11) rfl rfl ?_
  refine g_iconst B W0 (d_jdk_42_method_46_12) (v := 0) (by decide) ?_
  refine g_aload_n B W0 (d_jdk_42_method_46_13) rfl rfl ?_
  refine g_aalen B W0 (d_jdk_42_method_46_14) A1 ?_
  obtain ⟨T101, h101, v101, W101, Q101, st101⟩ := x_static B W0 [(.ref ar), (.int 0), (.int 2)] (c_hneg2 l Z a0 hw ar kb q0 q1 h0 A1) (by simp) (d_jdk_42_method_46_15) (tw hw 61 rfl) (tw hw 62 rfl) (tw hw 63 rfl) (tw hw 64 rfl) (by decide) (lenOf pd___BII_Z rfl) #[.val (.int 0), .val (.ref ar), .val (.int 1), .unset, .unset, .unset, .unset, .unset, .unset] [] rfl 0 rfl (by decide) (by decide) (by decide) (by decide)
  obtain ⟨r101, rfl, rfl⟩ := Q101
  refine st101 _ ?_
  by_cases hc102 : r101 = true
  · skip
    refine g_if_y B W101 (d_jdk_42_method_46_18) (XT.i0_ne_t (bi_t hc102)) (pc' := 29) (by decide) ?_
    show Go p.tables e below _ T101 (mkF m 29 #[.val (.int 0), .val (.ref ar), .val (.int 1), .unset, .unset, .unset, .unset, .unset, .unset] [])
    refine g_iconst B W101 (d_jdk_42_method_46_29) (v := 0) (by decide) ?_
    refine g_istore_n B W101 (d_jdk_42_method_46_30)  (l' := #[.val (.int 0), .val (.ref ar), .val (.int 1), .val (.int 0), .unset, .unset, .unset, .unset, .unset]) rfl ?_
    refine g_aload_n B W101 (d_jdk_42_method_46_31) rfl rfl ?_
    refine g_aalen B W101 (d_jdk_42_method_46_32) A1 ?_
    have z103 := W101.size
    obtain ⟨T104, h104, b104, W104, Q104, st104⟩ := x_staticR B W101 [(.int 2)] (c_nbf2 l Z a0 hw h0) (by simp) (fun v h' q => by obtain ⟨b, -, hb, -⟩ := q; exact ⟨b, hb⟩) (d_jdk_42_method_46_33) (tw hw 170 rfl) (tw hw 171 rfl) (tw hw 147 rfl) (tw hw 172 rfl) (by decide) (lenOf pd__I__B rfl) #[.val (.int 0), .val (.ref ar), .val (.int 1), .val (.int 0), .unset, .unset, .unset, .unset, .unset] [] rfl 0 rfl (by decide) (by decide) (by decide) (by decide)
    obtain ⟨bb104, kb104, eb104, g104, K104, A104⟩ := Q104
    have s105 := K104.1
    refine st104 _ ?_
    obtain rfl : b104 = bb104 := by simpa using eb104
    have l104 := nlt A104.lt
    refine g_astore B W104 (d_jdk_42_method_46_36) rfl (l' := #[.val (.int 0), .val (.ref ar), .val (.int 1), .val (.int 0), .val (.ref b104), .unset, .unset, .unset, .unset]) rfl ?_
    refine g_aload_n B W104 (d_jdk_42_method_46_38) rfl rfl ?_
    refine g_astore B W104 (d_jdk_42_method_46_39) rfl (l' := #[.val (.int 0), .val (.ref ar), .val (.int 1), .val (.int 0), .val (.ref b104), .val (.ref ar), .unset, .unset, .unset]) rfl ?_
    refine g_aload B W104 (d_jdk_42_method_46_41) rfl rfl ?_
    have f106 := (A1.keep K104 nin0)
    refine g_aalen B W104 (d_jdk_42_method_46_43) f106 ?_
    refine g_istore B W104 (d_jdk_42_method_46_44)  (l' := #[.val (.int 0), .val (.ref ar), .val (.int 1), .val (.int 0), .val (.ref b104), .val (.ref ar), .val (.int 2), .unset, .unset]) rfl ?_
    refine g_iconst B W104 (d_jdk_42_method_46_46) (v := 0) (by decide) ?_
    refine g_istore B W104 (d_jdk_42_method_46_47)  (l' := #[.val (.int 0), .val (.ref ar), .val (.int 1), .val (.int 0), .val (.ref b104), .val (.ref ar), .val (.int 2), .val (.int 0), .unset]) rfl ?_
    refine g_iload B W104 (d_jdk_42_method_46_49) rfl ?_
    refine g_iload B W104 (d_jdk_42_method_46_51) rfl ?_
    refine g_icmp_n B W104 (d_jdk_42_method_46_53) (XT.ii_ge_f (by decide)) ?_
    show Go p.tables e below _ T104 (mkF m 56 #[.val (.int 0), .val (.ref ar), .val (.int 1), .val (.int 0), .val (.ref b104), .val (.ref ar), .val (.int 2), .val (.int 0), .unset] [])
    refine g_aload B W104 (d_jdk_42_method_46_56) rfl rfl ?_
    refine g_iload B W104 (d_jdk_42_method_46_58) rfl ?_
    refine g_baload B W104 (d_jdk_42_method_46_60) f106 (by decide) (show List.getD ([(.int q0), (.int q1)] : List Value) _ _ = (.int q0) from rfl) ?_
    refine g_istore B W104 (d_jdk_42_method_46_61)  (l' := #[.val (.int 0), .val (.ref ar), .val (.int 1), .val (.int 0), .val (.ref b104), .val (.ref ar), .val (.int 2), .val (.int 0), .val (.int q0)]) rfl ?_
    refine g_iload B W104 (d_jdk_42_method_46_63) rfl ?_
    by_cases hc107 : q0 < 0
    · skip
      refine g_if_n B W104 (d_jdk_42_method_46_65) (XT.i0_ge_f hc107) ?_
      show Go p.tables e below _ T104 (mkF m 68 #[.val (.int 0), .val (.ref ar), .val (.int 1), .val (.int 0), .val (.ref b104), .val (.ref ar), .val (.int 2), .val (.int 0), .val (.int q0)] [])
      refine g_aload B W104 (d_jdk_42_method_46_68) rfl rfl ?_
      refine g_iload_n B W104 (d_jdk_42_method_46_70) rfl ?_
      refine g_iinc B W104 (d_jdk_42_method_46_71) (v := 1) (l' := #[.val (.int 0), .val (.ref ar), .val (.int 1), .val (.int (0 + 1)), .val (.ref b104), .val (.ref ar), .val (.int 2), .val (.int 0), .val (.int q0)]) (by decide) rfl rfl ?_
      rw [show (0 + 1 : Int32) = 1 by decide]
      refine g_sipush B W104 (d_jdk_42_method_46_74) (v := 192) (by decide) ?_
      refine g_iload B W104 (d_jdk_42_method_46_77) rfl ?_
      refine g_sipush B W104 (d_jdk_42_method_46_79) (v := 255) (by decide) ?_
      refine g_iand B W104 (d_jdk_42_method_46_82)  ?_
      refine g_bipush B W104 (d_jdk_42_method_46_83) (v := 6) (by decide) ?_
      refine g_ishr B W104 (d_jdk_42_method_46_85)  ?_
      refine g_ior B W104 (d_jdk_42_method_46_86)  ?_
      refine g_i2b B W104 (d_jdk_42_method_46_87)  ?_
      obtain ⟨T108, h108, W108, K108, A108, st108⟩ := x_bastore B W104 (j := 0) (x := ((192 ||| (((q0 &&& 255) : Int32) >>> ((6 : Int32) &&& 31))) : Int32).toInt8.toInt32) (d_jdk_42_method_46_88) A104 (by decide) (Nat.lt_of_lt_of_eq (show Int32.toNatClampNeg 0 < 4 by decide) rfl) (by omega) (by simp) #[.val (.int 0), .val (.ref ar), .val (.int 1), .val (.int 1), .val (.ref b104), .val (.ref ar), .val (.int 2), .val (.int 0), .val (.int q0)] []
      refine st108 _ ?_
      generalize nar .byte ((192 ||| (((q0 &&& 255) : Int32) >>> ((6 : Int32) &&& 31))) : Int32).toInt8.toInt32 = yb108 at A108
      have A108 : Arv Z h108 b104 kb104 .byte 4 [(.int yb108), (.int 0), (.int 0), (.int 0)] (.int 0) := A108
      have s109 := K108.1
      refine g_aload B W108 (d_jdk_42_method_46_89) rfl rfl ?_
      refine g_iload_n B W108 (d_jdk_42_method_46_91) rfl ?_
      refine g_iinc B W108 (d_jdk_42_method_46_92) (v := 1) (l' := #[.val (.int 0), .val (.ref ar), .val (.int 1), .val (.int (1 + 1)), .val (.ref b104), .val (.ref ar), .val (.int 2), .val (.int 0), .val (.int q0)]) (by decide) rfl rfl ?_
      rw [show (1 + 1 : Int32) = 2 by decide]
      refine g_sipush B W108 (d_jdk_42_method_46_95) (v := 128) (by decide) ?_
      refine g_iload B W108 (d_jdk_42_method_46_98) rfl ?_
      refine g_bipush B W108 (d_jdk_42_method_46_100) (v := 63) (by decide) ?_
      refine g_iand B W108 (d_jdk_42_method_46_102)  ?_
      refine g_ior B W108 (d_jdk_42_method_46_103)  ?_
      refine g_i2b B W108 (d_jdk_42_method_46_104)  ?_
      obtain ⟨T110, h110, W110, K110, A110, st110⟩ := x_bastore B W108 (j := 1) (x := ((128 ||| (q0 &&& 63)) : Int32).toInt8.toInt32) (d_jdk_42_method_46_105) A108 (by decide) (Nat.lt_of_lt_of_eq (show Int32.toNatClampNeg 1 < 4 by decide) rfl) (by omega) (by simp) #[.val (.int 0), .val (.ref ar), .val (.int 1), .val (.int 2), .val (.ref b104), .val (.ref ar), .val (.int 2), .val (.int 0), .val (.int q0)] []
      refine st110 _ ?_
      generalize nar .byte ((128 ||| (q0 &&& 63)) : Int32).toInt8.toInt32 = yb110 at A110
      have A110 : Arv Z h110 b104 kb104 .byte 4 [(.int yb108), (.int yb110), (.int 0), (.int 0)] (.int 0) := A110
      have s111 := K110.1
      refine g_goto B W110 (d_jdk_42_method_46_106) (pc' := 118) (by decide) ?_
      show Go p.tables e below _ T110 (mkF m 118 #[.val (.int 0), .val (.ref ar), .val (.int 1), .val (.int 2), .val (.ref b104), .val (.ref ar), .val (.int 2), .val (.int 0), .val (.int q0)] [])
      refine g_iinc B W110 (d_jdk_42_method_46_118) (v := 1) (l' := #[.val (.int 0), .val (.ref ar), .val (.int 1), .val (.int 2), .val (.ref b104), .val (.ref ar), .val (.int 2), .val (.int (0 + 1)), .val (.int q0)]) (by decide) rfl rfl ?_
      rw [show (0 + 1 : Int32) = 1 by decide]
      refine g_goto B W110 (d_jdk_42_method_46_121) (pc' := 49) (by decide) ?_
      show Go p.tables e below _ T110 (mkF m 49 #[.val (.int 0), .val (.ref ar), .val (.int 1), .val (.int 2), .val (.ref b104), .val (.ref ar), .val (.int 2), .val (.int 1), .val (.int q0)] [])
      refine g_iload B W110 (d_jdk_42_method_46_49) rfl ?_
      refine g_iload B W110 (d_jdk_42_method_46_51) rfl ?_
      refine g_icmp_n B W110 (d_jdk_42_method_46_53) (XT.ii_ge_f (by decide)) ?_
      show Go p.tables e below _ T110 (mkF m 56 #[.val (.int 0), .val (.ref ar), .val (.int 1), .val (.int 2), .val (.ref b104), .val (.ref ar), .val (.int 2), .val (.int 1), .val (.int q0)] [])
      refine g_aload B W110 (d_jdk_42_method_46_56) rfl rfl ?_
      refine g_iload B W110 (d_jdk_42_method_46_58) rfl ?_
      have f112 := (f106.keep K108 (ninS (nne (by have q := nlt f106.lt; omega)) nin0))
      have f113 := (f112.keep K110 (ninS (nne (by have q := nlt f112.lt; omega)) nin0))
      refine g_baload B W110 (d_jdk_42_method_46_60) f113 (by decide) (show List.getD ([(.int q0), (.int q1)] : List Value) _ _ = (.int q1) from rfl) ?_
      refine g_istore B W110 (d_jdk_42_method_46_61)  (l' := #[.val (.int 0), .val (.ref ar), .val (.int 1), .val (.int 2), .val (.ref b104), .val (.ref ar), .val (.int 2), .val (.int 1), .val (.int q1)]) rfl ?_
      refine g_iload B W110 (d_jdk_42_method_46_63) rfl ?_
      by_cases hc114 : q1 < 0
      · skip
        refine g_if_n B W110 (d_jdk_42_method_46_65) (XT.i0_ge_f hc114) ?_
        show Go p.tables e below _ T110 (mkF m 68 #[.val (.int 0), .val (.ref ar), .val (.int 1), .val (.int 2), .val (.ref b104), .val (.ref ar), .val (.int 2), .val (.int 1), .val (.int q1)] [])
        refine g_aload B W110 (d_jdk_42_method_46_68) rfl rfl ?_
        refine g_iload_n B W110 (d_jdk_42_method_46_70) rfl ?_
        refine g_iinc B W110 (d_jdk_42_method_46_71) (v := 1) (l' := #[.val (.int 0), .val (.ref ar), .val (.int 1), .val (.int (2 + 1)), .val (.ref b104), .val (.ref ar), .val (.int 2), .val (.int 1), .val (.int q1)]) (by decide) rfl rfl ?_
        rw [show (2 + 1 : Int32) = 3 by decide]
        refine g_sipush B W110 (d_jdk_42_method_46_74) (v := 192) (by decide) ?_
        refine g_iload B W110 (d_jdk_42_method_46_77) rfl ?_
        refine g_sipush B W110 (d_jdk_42_method_46_79) (v := 255) (by decide) ?_
        refine g_iand B W110 (d_jdk_42_method_46_82)  ?_
        refine g_bipush B W110 (d_jdk_42_method_46_83) (v := 6) (by decide) ?_
        refine g_ishr B W110 (d_jdk_42_method_46_85)  ?_
        refine g_ior B W110 (d_jdk_42_method_46_86)  ?_
        refine g_i2b B W110 (d_jdk_42_method_46_87)  ?_
        obtain ⟨T115, h115, W115, K115, A115, st115⟩ := x_bastore B W110 (j := 2) (x := ((192 ||| (((q1 &&& 255) : Int32) >>> ((6 : Int32) &&& 31))) : Int32).toInt8.toInt32) (d_jdk_42_method_46_88) A110 (by decide) (Nat.lt_of_lt_of_eq (show Int32.toNatClampNeg 2 < 4 by decide) rfl) (by omega) (by simp) #[.val (.int 0), .val (.ref ar), .val (.int 1), .val (.int 3), .val (.ref b104), .val (.ref ar), .val (.int 2), .val (.int 1), .val (.int q1)] []
        refine st115 _ ?_
        generalize nar .byte ((192 ||| (((q1 &&& 255) : Int32) >>> ((6 : Int32) &&& 31))) : Int32).toInt8.toInt32 = yb115 at A115
        have A115 : Arv Z h115 b104 kb104 .byte 4 [(.int yb108), (.int yb110), (.int yb115), (.int 0)] (.int 0) := A115
        have s116 := K115.1
        refine g_aload B W115 (d_jdk_42_method_46_89) rfl rfl ?_
        refine g_iload_n B W115 (d_jdk_42_method_46_91) rfl ?_
        refine g_iinc B W115 (d_jdk_42_method_46_92) (v := 1) (l' := #[.val (.int 0), .val (.ref ar), .val (.int 1), .val (.int (3 + 1)), .val (.ref b104), .val (.ref ar), .val (.int 2), .val (.int 1), .val (.int q1)]) (by decide) rfl rfl ?_
        rw [show (3 + 1 : Int32) = 4 by decide]
        refine g_sipush B W115 (d_jdk_42_method_46_95) (v := 128) (by decide) ?_
        refine g_iload B W115 (d_jdk_42_method_46_98) rfl ?_
        refine g_bipush B W115 (d_jdk_42_method_46_100) (v := 63) (by decide) ?_
        refine g_iand B W115 (d_jdk_42_method_46_102)  ?_
        refine g_ior B W115 (d_jdk_42_method_46_103)  ?_
        refine g_i2b B W115 (d_jdk_42_method_46_104)  ?_
        obtain ⟨T117, h117, W117, K117, A117, st117⟩ := x_bastore B W115 (j := 3) (x := ((128 ||| (q1 &&& 63)) : Int32).toInt8.toInt32) (d_jdk_42_method_46_105) A115 (by decide) (Nat.lt_of_lt_of_eq (show Int32.toNatClampNeg 3 < 4 by decide) rfl) (by omega) (by simp) #[.val (.int 0), .val (.ref ar), .val (.int 1), .val (.int 4), .val (.ref b104), .val (.ref ar), .val (.int 2), .val (.int 1), .val (.int q1)] []
        refine st117 _ ?_
        generalize nar .byte ((128 ||| (q1 &&& 63)) : Int32).toInt8.toInt32 = yb117 at A117
        have A117 : Arv Z h117 b104 kb104 .byte 4 [(.int yb108), (.int yb110), (.int yb115), (.int yb117)] (.int 0) := A117
        have s118 := K117.1
        refine g_goto B W117 (d_jdk_42_method_46_106) (pc' := 118) (by decide) ?_
        show Go p.tables e below _ T117 (mkF m 118 #[.val (.int 0), .val (.ref ar), .val (.int 1), .val (.int 4), .val (.ref b104), .val (.ref ar), .val (.int 2), .val (.int 1), .val (.int q1)] [])
        refine g_iinc B W117 (d_jdk_42_method_46_118) (v := 1) (l' := #[.val (.int 0), .val (.ref ar), .val (.int 1), .val (.int 4), .val (.ref b104), .val (.ref ar), .val (.int 2), .val (.int (1 + 1)), .val (.int q1)]) (by decide) rfl rfl ?_
        rw [show (1 + 1 : Int32) = 2 by decide]
        refine g_goto B W117 (d_jdk_42_method_46_121) (pc' := 49) (by decide) ?_
        show Go p.tables e below _ T117 (mkF m 49 #[.val (.int 0), .val (.ref ar), .val (.int 1), .val (.int 4), .val (.ref b104), .val (.ref ar), .val (.int 2), .val (.int 2), .val (.int q1)] [])
        refine g_iload B W117 (d_jdk_42_method_46_49) rfl ?_
        refine g_iload B W117 (d_jdk_42_method_46_51) rfl ?_
        refine g_icmp_y B W117 (d_jdk_42_method_46_53) (XT.ii_ge_t (by decide)) (pc' := 124) (by decide) ?_
        show Go p.tables e below _ T117 (mkF m 124 #[.val (.int 0), .val (.ref ar), .val (.int 1), .val (.int 4), .val (.ref b104), .val (.ref ar), .val (.int 2), .val (.int 2), .val (.int q1)] [])
        refine g_iload_n B W117 (d_jdk_42_method_46_124) rfl ?_
        refine g_aload B W117 (d_jdk_42_method_46_125) rfl rfl ?_
        refine g_aalen B W117 (d_jdk_42_method_46_127) A117 ?_
        refine g_icmp_n B W117 (d_jdk_42_method_46_128) (XT.ii_ne_f (by decide)) ?_
        show Go p.tables e below _ T117 (mkF m 131 #[.val (.int 0), .val (.ref ar), .val (.int 1), .val (.int 4), .val (.ref b104), .val (.ref ar), .val (.int 2), .val (.int 2), .val (.int q1)] [])
        refine g_aload B W117 (d_jdk_42_method_46_131) rfl rfl ?_
        exact r_a B W117 rfl rfl rfl (d_jdk_42_method_46_133) (by decide) (by decide) ⟨_, _, _, _, rfl, ((((((Keep.refl h0 []).trans K104 all0).trans K108 (allS (Or.inr (by omega)) all0)).trans K110 (allS (Or.inr (by omega)) all0)).trans K115 (allS (Or.inr (by omega)) all0)).trans K117 (allS (Or.inr (by omega)) all0)), A117, by decide⟩
      · skip
        refine g_if_y B W110 (d_jdk_42_method_46_65) (XT.i0_ge_t hc114) (pc' := 109) (by decide) ?_
        show Go p.tables e below _ T110 (mkF m 109 #[.val (.int 0), .val (.ref ar), .val (.int 1), .val (.int 2), .val (.ref b104), .val (.ref ar), .val (.int 2), .val (.int 1), .val (.int q1)] [])
        refine g_aload B W110 (d_jdk_42_method_46_109) rfl rfl ?_
        refine g_iload_n B W110 (d_jdk_42_method_46_111) rfl ?_
        refine g_iinc B W110 (d_jdk_42_method_46_112) (v := 1) (l' := #[.val (.int 0), .val (.ref ar), .val (.int 1), .val (.int (2 + 1)), .val (.ref b104), .val (.ref ar), .val (.int 2), .val (.int 1), .val (.int q1)]) (by decide) rfl rfl ?_
        rw [show (2 + 1 : Int32) = 3 by decide]
        refine g_iload B W110 (d_jdk_42_method_46_115) rfl ?_
        obtain ⟨T119, h119, W119, K119, A119, st119⟩ := x_bastore B W110 (j := 2) (x := q1) (d_jdk_42_method_46_117) A110 (by decide) (Nat.lt_of_lt_of_eq (show Int32.toNatClampNeg 2 < 4 by decide) rfl) (by omega) (by simp) #[.val (.int 0), .val (.ref ar), .val (.int 1), .val (.int 3), .val (.ref b104), .val (.ref ar), .val (.int 2), .val (.int 1), .val (.int q1)] []
        refine st119 _ ?_
        generalize nar .byte q1 = yb119 at A119
        have A119 : Arv Z h119 b104 kb104 .byte 4 [(.int yb108), (.int yb110), (.int yb119), (.int 0)] (.int 0) := A119
        have s120 := K119.1
        refine g_iinc B W119 (d_jdk_42_method_46_118) (v := 1) (l' := #[.val (.int 0), .val (.ref ar), .val (.int 1), .val (.int 3), .val (.ref b104), .val (.ref ar), .val (.int 2), .val (.int (1 + 1)), .val (.int q1)]) (by decide) rfl rfl ?_
        rw [show (1 + 1 : Int32) = 2 by decide]
        refine g_goto B W119 (d_jdk_42_method_46_121) (pc' := 49) (by decide) ?_
        show Go p.tables e below _ T119 (mkF m 49 #[.val (.int 0), .val (.ref ar), .val (.int 1), .val (.int 3), .val (.ref b104), .val (.ref ar), .val (.int 2), .val (.int 2), .val (.int q1)] [])
        refine g_iload B W119 (d_jdk_42_method_46_49) rfl ?_
        refine g_iload B W119 (d_jdk_42_method_46_51) rfl ?_
        refine g_icmp_y B W119 (d_jdk_42_method_46_53) (XT.ii_ge_t (by decide)) (pc' := 124) (by decide) ?_
        show Go p.tables e below _ T119 (mkF m 124 #[.val (.int 0), .val (.ref ar), .val (.int 1), .val (.int 3), .val (.ref b104), .val (.ref ar), .val (.int 2), .val (.int 2), .val (.int q1)] [])
        refine g_iload_n B W119 (d_jdk_42_method_46_124) rfl ?_
        refine g_aload B W119 (d_jdk_42_method_46_125) rfl rfl ?_
        refine g_aalen B W119 (d_jdk_42_method_46_127) A119 ?_
        refine g_icmp_y B W119 (d_jdk_42_method_46_128) (XT.ii_ne_t (by decide)) (pc' := 134) (by decide) ?_
        show Go p.tables e below _ T119 (mkF m 134 #[.val (.int 0), .val (.ref ar), .val (.int 1), .val (.int 3), .val (.ref b104), .val (.ref ar), .val (.int 2), .val (.int 2), .val (.int q1)] [])
        refine g_aload B W119 (d_jdk_42_method_46_134) rfl rfl ?_
        refine g_iload_n B W119 (d_jdk_42_method_46_136) rfl ?_
        obtain ⟨T121, h121, v121, W121, Q121, st121⟩ := x_static B W119 [(.ref b104), (.int 3)] (c_copyOf43 l Z a0 hw b104 kb104 yb108 yb110 yb119 0 h119 A119) (by simp) (d_jdk_42_method_46_137) (tw hw 177 rfl) (tw hw 178 rfl) (tw hw 179 rfl) (tw hw 180 rfl) (by decide) (lenOf pd___BI__B rfl) #[.val (.int 0), .val (.ref ar), .val (.int 1), .val (.int 3), .val (.ref b104), .val (.ref ar), .val (.int 2), .val (.int 2), .val (.int q1)] [] rfl 0 rfl (by decide) (by decide) (by decide) (by decide)
        obtain ⟨b121, kc121, vs121, rfl, K121, A121⟩ := Q121
        have s122 := K121.1
        refine st121 _ ?_
        exact r_a B W121 rfl rfl rfl (d_jdk_42_method_46_140) (by decide) (by decide) ⟨_, _, _, _, rfl, ((((((Keep.refl h0 []).trans K104 all0).trans K108 (allS (Or.inr (by omega)) all0)).trans K110 (allS (Or.inr (by omega)) all0)).trans K119 (allS (Or.inr (by omega)) all0)).trans K121 all0), A121, by decide⟩
    · skip
      refine g_if_y B W104 (d_jdk_42_method_46_65) (XT.i0_ge_t hc107) (pc' := 109) (by decide) ?_
      show Go p.tables e below _ T104 (mkF m 109 #[.val (.int 0), .val (.ref ar), .val (.int 1), .val (.int 0), .val (.ref b104), .val (.ref ar), .val (.int 2), .val (.int 0), .val (.int q0)] [])
      refine g_aload B W104 (d_jdk_42_method_46_109) rfl rfl ?_
      refine g_iload_n B W104 (d_jdk_42_method_46_111) rfl ?_
      refine g_iinc B W104 (d_jdk_42_method_46_112) (v := 1) (l' := #[.val (.int 0), .val (.ref ar), .val (.int 1), .val (.int (0 + 1)), .val (.ref b104), .val (.ref ar), .val (.int 2), .val (.int 0), .val (.int q0)]) (by decide) rfl rfl ?_
      rw [show (0 + 1 : Int32) = 1 by decide]
      refine g_iload B W104 (d_jdk_42_method_46_115) rfl ?_
      obtain ⟨T123, h123, W123, K123, A123, st123⟩ := x_bastore B W104 (j := 0) (x := q0) (d_jdk_42_method_46_117) A104 (by decide) (Nat.lt_of_lt_of_eq (show Int32.toNatClampNeg 0 < 4 by decide) rfl) (by omega) (by simp) #[.val (.int 0), .val (.ref ar), .val (.int 1), .val (.int 1), .val (.ref b104), .val (.ref ar), .val (.int 2), .val (.int 0), .val (.int q0)] []
      refine st123 _ ?_
      generalize nar .byte q0 = yb123 at A123
      have A123 : Arv Z h123 b104 kb104 .byte 4 [(.int yb123), (.int 0), (.int 0), (.int 0)] (.int 0) := A123
      have s124 := K123.1
      refine g_iinc B W123 (d_jdk_42_method_46_118) (v := 1) (l' := #[.val (.int 0), .val (.ref ar), .val (.int 1), .val (.int 1), .val (.ref b104), .val (.ref ar), .val (.int 2), .val (.int (0 + 1)), .val (.int q0)]) (by decide) rfl rfl ?_
      rw [show (0 + 1 : Int32) = 1 by decide]
      refine g_goto B W123 (d_jdk_42_method_46_121) (pc' := 49) (by decide) ?_
      show Go p.tables e below _ T123 (mkF m 49 #[.val (.int 0), .val (.ref ar), .val (.int 1), .val (.int 1), .val (.ref b104), .val (.ref ar), .val (.int 2), .val (.int 1), .val (.int q0)] [])
      refine g_iload B W123 (d_jdk_42_method_46_49) rfl ?_
      refine g_iload B W123 (d_jdk_42_method_46_51) rfl ?_
      refine g_icmp_n B W123 (d_jdk_42_method_46_53) (XT.ii_ge_f (by decide)) ?_
      show Go p.tables e below _ T123 (mkF m 56 #[.val (.int 0), .val (.ref ar), .val (.int 1), .val (.int 1), .val (.ref b104), .val (.ref ar), .val (.int 2), .val (.int 1), .val (.int q0)] [])
      refine g_aload B W123 (d_jdk_42_method_46_56) rfl rfl ?_
      refine g_iload B W123 (d_jdk_42_method_46_58) rfl ?_
      have f125 := (f106.keep K123 (ninS (nne (by have q := nlt f106.lt; omega)) nin0))
      refine g_baload B W123 (d_jdk_42_method_46_60) f125 (by decide) (show List.getD ([(.int q0), (.int q1)] : List Value) _ _ = (.int q1) from rfl) ?_
      refine g_istore B W123 (d_jdk_42_method_46_61)  (l' := #[.val (.int 0), .val (.ref ar), .val (.int 1), .val (.int 1), .val (.ref b104), .val (.ref ar), .val (.int 2), .val (.int 1), .val (.int q1)]) rfl ?_
      refine g_iload B W123 (d_jdk_42_method_46_63) rfl ?_
      by_cases hc126 : q1 < 0
      · skip
        refine g_if_n B W123 (d_jdk_42_method_46_65) (XT.i0_ge_f hc126) ?_
        show Go p.tables e below _ T123 (mkF m 68 #[.val (.int 0), .val (.ref ar), .val (.int 1), .val (.int 1), .val (.ref b104), .val (.ref ar), .val (.int 2), .val (.int 1), .val (.int q1)] [])
        refine g_aload B W123 (d_jdk_42_method_46_68) rfl rfl ?_
        refine g_iload_n B W123 (d_jdk_42_method_46_70) rfl ?_
        refine g_iinc B W123 (d_jdk_42_method_46_71) (v := 1) (l' := #[.val (.int 0), .val (.ref ar), .val (.int 1), .val (.int (1 + 1)), .val (.ref b104), .val (.ref ar), .val (.int 2), .val (.int 1), .val (.int q1)]) (by decide) rfl rfl ?_
        rw [show (1 + 1 : Int32) = 2 by decide]
        refine g_sipush B W123 (d_jdk_42_method_46_74) (v := 192) (by decide) ?_
        refine g_iload B W123 (d_jdk_42_method_46_77) rfl ?_
        refine g_sipush B W123 (d_jdk_42_method_46_79) (v := 255) (by decide) ?_
        refine g_iand B W123 (d_jdk_42_method_46_82)  ?_
        refine g_bipush B W123 (d_jdk_42_method_46_83) (v := 6) (by decide) ?_
        refine g_ishr B W123 (d_jdk_42_method_46_85)  ?_
        refine g_ior B W123 (d_jdk_42_method_46_86)  ?_
        refine g_i2b B W123 (d_jdk_42_method_46_87)  ?_
        obtain ⟨T127, h127, W127, K127, A127, st127⟩ := x_bastore B W123 (j := 1) (x := ((192 ||| (((q1 &&& 255) : Int32) >>> ((6 : Int32) &&& 31))) : Int32).toInt8.toInt32) (d_jdk_42_method_46_88) A123 (by decide) (Nat.lt_of_lt_of_eq (show Int32.toNatClampNeg 1 < 4 by decide) rfl) (by omega) (by simp) #[.val (.int 0), .val (.ref ar), .val (.int 1), .val (.int 2), .val (.ref b104), .val (.ref ar), .val (.int 2), .val (.int 1), .val (.int q1)] []
        refine st127 _ ?_
        generalize nar .byte ((192 ||| (((q1 &&& 255) : Int32) >>> ((6 : Int32) &&& 31))) : Int32).toInt8.toInt32 = yb127 at A127
        have A127 : Arv Z h127 b104 kb104 .byte 4 [(.int yb123), (.int yb127), (.int 0), (.int 0)] (.int 0) := A127
        have s128 := K127.1
        refine g_aload B W127 (d_jdk_42_method_46_89) rfl rfl ?_
        refine g_iload_n B W127 (d_jdk_42_method_46_91) rfl ?_
        refine g_iinc B W127 (d_jdk_42_method_46_92) (v := 1) (l' := #[.val (.int 0), .val (.ref ar), .val (.int 1), .val (.int (2 + 1)), .val (.ref b104), .val (.ref ar), .val (.int 2), .val (.int 1), .val (.int q1)]) (by decide) rfl rfl ?_
        rw [show (2 + 1 : Int32) = 3 by decide]
        refine g_sipush B W127 (d_jdk_42_method_46_95) (v := 128) (by decide) ?_
        refine g_iload B W127 (d_jdk_42_method_46_98) rfl ?_
        refine g_bipush B W127 (d_jdk_42_method_46_100) (v := 63) (by decide) ?_
        refine g_iand B W127 (d_jdk_42_method_46_102)  ?_
        refine g_ior B W127 (d_jdk_42_method_46_103)  ?_
        refine g_i2b B W127 (d_jdk_42_method_46_104)  ?_
        obtain ⟨T129, h129, W129, K129, A129, st129⟩ := x_bastore B W127 (j := 2) (x := ((128 ||| (q1 &&& 63)) : Int32).toInt8.toInt32) (d_jdk_42_method_46_105) A127 (by decide) (Nat.lt_of_lt_of_eq (show Int32.toNatClampNeg 2 < 4 by decide) rfl) (by omega) (by simp) #[.val (.int 0), .val (.ref ar), .val (.int 1), .val (.int 3), .val (.ref b104), .val (.ref ar), .val (.int 2), .val (.int 1), .val (.int q1)] []
        refine st129 _ ?_
        generalize nar .byte ((128 ||| (q1 &&& 63)) : Int32).toInt8.toInt32 = yb129 at A129
        have A129 : Arv Z h129 b104 kb104 .byte 4 [(.int yb123), (.int yb127), (.int yb129), (.int 0)] (.int 0) := A129
        have s130 := K129.1
        refine g_goto B W129 (d_jdk_42_method_46_106) (pc' := 118) (by decide) ?_
        show Go p.tables e below _ T129 (mkF m 118 #[.val (.int 0), .val (.ref ar), .val (.int 1), .val (.int 3), .val (.ref b104), .val (.ref ar), .val (.int 2), .val (.int 1), .val (.int q1)] [])
        refine g_iinc B W129 (d_jdk_42_method_46_118) (v := 1) (l' := #[.val (.int 0), .val (.ref ar), .val (.int 1), .val (.int 3), .val (.ref b104), .val (.ref ar), .val (.int 2), .val (.int (1 + 1)), .val (.int q1)]) (by decide) rfl rfl ?_
        rw [show (1 + 1 : Int32) = 2 by decide]
        refine g_goto B W129 (d_jdk_42_method_46_121) (pc' := 49) (by decide) ?_
        show Go p.tables e below _ T129 (mkF m 49 #[.val (.int 0), .val (.ref ar), .val (.int 1), .val (.int 3), .val (.ref b104), .val (.ref ar), .val (.int 2), .val (.int 2), .val (.int q1)] [])
        refine g_iload B W129 (d_jdk_42_method_46_49) rfl ?_
        refine g_iload B W129 (d_jdk_42_method_46_51) rfl ?_
        refine g_icmp_y B W129 (d_jdk_42_method_46_53) (XT.ii_ge_t (by decide)) (pc' := 124) (by decide) ?_
        show Go p.tables e below _ T129 (mkF m 124 #[.val (.int 0), .val (.ref ar), .val (.int 1), .val (.int 3), .val (.ref b104), .val (.ref ar), .val (.int 2), .val (.int 2), .val (.int q1)] [])
        refine g_iload_n B W129 (d_jdk_42_method_46_124) rfl ?_
        refine g_aload B W129 (d_jdk_42_method_46_125) rfl rfl ?_
        refine g_aalen B W129 (d_jdk_42_method_46_127) A129 ?_
        refine g_icmp_y B W129 (d_jdk_42_method_46_128) (XT.ii_ne_t (by decide)) (pc' := 134) (by decide) ?_
        show Go p.tables e below _ T129 (mkF m 134 #[.val (.int 0), .val (.ref ar), .val (.int 1), .val (.int 3), .val (.ref b104), .val (.ref ar), .val (.int 2), .val (.int 2), .val (.int q1)] [])
        refine g_aload B W129 (d_jdk_42_method_46_134) rfl rfl ?_
        refine g_iload_n B W129 (d_jdk_42_method_46_136) rfl ?_
        obtain ⟨T131, h131, v131, W131, Q131, st131⟩ := x_static B W129 [(.ref b104), (.int 3)] (c_copyOf43 l Z a0 hw b104 kb104 yb123 yb127 yb129 0 h129 A129) (by simp) (d_jdk_42_method_46_137) (tw hw 177 rfl) (tw hw 178 rfl) (tw hw 179 rfl) (tw hw 180 rfl) (by decide) (lenOf pd___BI__B rfl) #[.val (.int 0), .val (.ref ar), .val (.int 1), .val (.int 3), .val (.ref b104), .val (.ref ar), .val (.int 2), .val (.int 2), .val (.int q1)] [] rfl 0 rfl (by decide) (by decide) (by decide) (by decide)
        obtain ⟨b131, kc131, vs131, rfl, K131, A131⟩ := Q131
        have s132 := K131.1
        refine st131 _ ?_
        exact r_a B W131 rfl rfl rfl (d_jdk_42_method_46_140) (by decide) (by decide) ⟨_, _, _, _, rfl, ((((((Keep.refl h0 []).trans K104 all0).trans K123 (allS (Or.inr (by omega)) all0)).trans K127 (allS (Or.inr (by omega)) all0)).trans K129 (allS (Or.inr (by omega)) all0)).trans K131 all0), A131, by decide⟩
      · skip
        refine g_if_y B W123 (d_jdk_42_method_46_65) (XT.i0_ge_t hc126) (pc' := 109) (by decide) ?_
        show Go p.tables e below _ T123 (mkF m 109 #[.val (.int 0), .val (.ref ar), .val (.int 1), .val (.int 1), .val (.ref b104), .val (.ref ar), .val (.int 2), .val (.int 1), .val (.int q1)] [])
        refine g_aload B W123 (d_jdk_42_method_46_109) rfl rfl ?_
        refine g_iload_n B W123 (d_jdk_42_method_46_111) rfl ?_
        refine g_iinc B W123 (d_jdk_42_method_46_112) (v := 1) (l' := #[.val (.int 0), .val (.ref ar), .val (.int 1), .val (.int (1 + 1)), .val (.ref b104), .val (.ref ar), .val (.int 2), .val (.int 1), .val (.int q1)]) (by decide) rfl rfl ?_
        rw [show (1 + 1 : Int32) = 2 by decide]
        refine g_iload B W123 (d_jdk_42_method_46_115) rfl ?_
        obtain ⟨T133, h133, W133, K133, A133, st133⟩ := x_bastore B W123 (j := 1) (x := q1) (d_jdk_42_method_46_117) A123 (by decide) (Nat.lt_of_lt_of_eq (show Int32.toNatClampNeg 1 < 4 by decide) rfl) (by omega) (by simp) #[.val (.int 0), .val (.ref ar), .val (.int 1), .val (.int 2), .val (.ref b104), .val (.ref ar), .val (.int 2), .val (.int 1), .val (.int q1)] []
        refine st133 _ ?_
        generalize nar .byte q1 = yb133 at A133
        have A133 : Arv Z h133 b104 kb104 .byte 4 [(.int yb123), (.int yb133), (.int 0), (.int 0)] (.int 0) := A133
        have s134 := K133.1
        refine g_iinc B W133 (d_jdk_42_method_46_118) (v := 1) (l' := #[.val (.int 0), .val (.ref ar), .val (.int 1), .val (.int 2), .val (.ref b104), .val (.ref ar), .val (.int 2), .val (.int (1 + 1)), .val (.int q1)]) (by decide) rfl rfl ?_
        rw [show (1 + 1 : Int32) = 2 by decide]
        refine g_goto B W133 (d_jdk_42_method_46_121) (pc' := 49) (by decide) ?_
        show Go p.tables e below _ T133 (mkF m 49 #[.val (.int 0), .val (.ref ar), .val (.int 1), .val (.int 2), .val (.ref b104), .val (.ref ar), .val (.int 2), .val (.int 2), .val (.int q1)] [])
        refine g_iload B W133 (d_jdk_42_method_46_49) rfl ?_
        refine g_iload B W133 (d_jdk_42_method_46_51) rfl ?_
        refine g_icmp_y B W133 (d_jdk_42_method_46_53) (XT.ii_ge_t (by decide)) (pc' := 124) (by decide) ?_
        show Go p.tables e below _ T133 (mkF m 124 #[.val (.int 0), .val (.ref ar), .val (.int 1), .val (.int 2), .val (.ref b104), .val (.ref ar), .val (.int 2), .val (.int 2), .val (.int q1)] [])
        refine g_iload_n B W133 (d_jdk_42_method_46_124) rfl ?_
        refine g_aload B W133 (d_jdk_42_method_46_125) rfl rfl ?_
        refine g_aalen B W133 (d_jdk_42_method_46_127) A133 ?_
        refine g_icmp_y B W133 (d_jdk_42_method_46_128) (XT.ii_ne_t (by decide)) (pc' := 134) (by decide) ?_
        show Go p.tables e below _ T133 (mkF m 134 #[.val (.int 0), .val (.ref ar), .val (.int 1), .val (.int 2), .val (.ref b104), .val (.ref ar), .val (.int 2), .val (.int 2), .val (.int q1)] [])
        refine g_aload B W133 (d_jdk_42_method_46_134) rfl rfl ?_
        refine g_iload_n B W133 (d_jdk_42_method_46_136) rfl ?_
        obtain ⟨T135, h135, v135, W135, Q135, st135⟩ := x_static B W133 [(.ref b104), (.int 2)] (c_copyOf42 l Z a0 hw b104 kb104 yb123 yb133 0 0 h133 A133) (by simp) (d_jdk_42_method_46_137) (tw hw 177 rfl) (tw hw 178 rfl) (tw hw 179 rfl) (tw hw 180 rfl) (by decide) (lenOf pd___BI__B rfl) #[.val (.int 0), .val (.ref ar), .val (.int 1), .val (.int 2), .val (.ref b104), .val (.ref ar), .val (.int 2), .val (.int 2), .val (.int q1)] [] rfl 0 rfl (by decide) (by decide) (by decide) (by decide)
        obtain ⟨b135, kc135, vs135, rfl, K135, A135⟩ := Q135
        have s136 := K135.1
        refine st135 _ ?_
        exact r_a B W135 rfl rfl rfl (d_jdk_42_method_46_140) (by decide) (by decide) ⟨_, _, _, _, rfl, (((((Keep.refl h0 []).trans K104 all0).trans K123 (allS (Or.inr (by omega)) all0)).trans K133 (allS (Or.inr (by omega)) all0)).trans K135 all0), A135, by decide⟩
  · skip
    refine g_if_n B W101 (d_jdk_42_method_46_18) (XT.i0_ne_f (bi_f (Bool.eq_false_iff.mpr hc102))) ?_
    show Go p.tables e below _ T101 (mkF m 21 #[.val (.int 0), .val (.ref ar), .val (.int 1), .unset, .unset, .unset, .unset, .unset, .unset] [])
    refine g_aload_n B W101 (d_jdk_42_method_46_21) rfl rfl ?_
    obtain ⟨T137, h137, b137, gb137, W137, K137, A137, E137, st137⟩ := x_cloneV B W101 2 (d_jdk_42_method_46_22) (tw hw 68 rfl) (tw hw 69 rfl) (tw hw 73 rfl) (tw hw 71 rfl) (tw hw 72 rfl) (tw hw 74 rfl) A1 E1 #[.val (.int 0), .val (.ref ar), .val (.int 1), .unset, .unset, .unset, .unset, .unset, .unset] [] rfl 0 rfl (by decide) (by decide) (by decide) (by decide) (by decide)
    refine st137 _ ?_
    have s138 := K137.1
    obtain ⟨T139, W139, st139⟩ := x_castY B W137 (d_jdk_42_method_46_25) (tw hw 75 rfl) (Ins.self E137) #[.val (.int 0), .val (.ref ar), .val (.int 1), .unset, .unset, .unset, .unset, .unset, .unset] []
    refine st139 _ ?_
    exact r_a B W139 rfl rfl rfl (d_jdk_42_method_46_28) (by decide) (by decide) ⟨_, _, _, _, rfl, ((Keep.refl h0 []).trans K137 all0), A137, by decide⟩
theorem ef_enc (m : MethodId) (ar : Addr) (u8 : Addr) : entryFrame m #[(.ref u8), (.int 0), (.ref ar)] 3 = mkF m 0 #[.val (.ref u8), .val (.int 0), .val (.ref ar)] [] := by first | (simp [entryFrame, mkF, argsToLocals, Value.category]; done) | rfl
def Q_enc (Z : State) (ar : Addr) (u8 : Addr) (h0 : Heap) (v : Option Value) (h : Heap) : Prop := ∃ (b : Addr) (kc : ClassId) (z : Int32) (vs : List Value), v = some (.ref b) ∧ Keep h0 h [] ∧ Arv Z h b kc .byte z vs (.int 0) ∧ ¬ 4 < z
set_option maxRecDepth 65536 in
set_option maxHeartbeats 40000000 in
theorem c_enc (l : Launch) (Z : State) (a0 : Array Value) (hw : ∀ d ∈ tables_1, d.before a0 Z = true) (ar : Addr) (u8 : Addr) (h0 : Heap) (HB : By2 Z h0 ar) (Su8 : Sta Z Z.heap "java/nio/charset/StandardCharsets" "UTF_8" "Ljava/nio/charset/Charset;" (.ref u8)) (Sin : Sta Z Z.heap "sun/nio/cs/UTF_8" "INSTANCE" "Lsun/nio/cs/UTF_8;" (.ref u8)) :
    Con l Z (⟨"java/lang/String", "encode", "(Ljava/nio/charset/Charset;B[B)[B"⟩ : MethodName) jdk_42_method_18_code 3 (Option.some (FieldType.array FieldType.byte)) [] ({ frames := 3, cells := 2, slots := 7, locals := 74 } : Room) #[(.ref u8), (.int 0), (.ref ar)] h0 (Q_enc Z ar u8 h0) [] := by
  refine Con.of (plainFor_of_name pn_java_lang_String) ?_
  intro p e s m below meth c T0 B W0
  refine Go.cast (ef_enc m ar u8 ) ?_
  obtain ⟨E1, kb, A1 | ⟨q0, A1⟩ | ⟨q0, q1, A1⟩⟩ := HB
  · skip
    refine g_aload_n B W0 (d_jdk_42_method_18_0) rfl rfl ?_
    obtain ⟨T101, W101, st101⟩ := x_gets B W0 (host := "") (d_jdk_42_method_18_1) (Or.inl (tw hw 56 rfl)) Via.refl Sin #[.val (.ref u8), .val (.int 0), .val (.ref ar)] [(.ref u8)]
    refine st101 _ ?_
    refine g_acmp_n B W101 (d_jdk_42_method_18_4) rfl rfl (XT.aa_ne_f rfl) ?_
    show Go p.tables e below _ T101 (mkF m 7 #[.val (.ref u8), .val (.int 0), .val (.ref ar)] [])
    refine g_iload_n B W101 (d_jdk_42_method_18_7) rfl ?_
    refine g_aload_n B W101 (d_jdk_42_method_18_8) rfl rfl ?_
    refine g_iconst B W101 (d_jdk_42_method_18_9) (v := 1) (by decide) ?_
    obtain ⟨T102, h102, v102, W102, Q102, st102⟩ := x_static B W101 [(.int 0), (.ref ar), (.int 1)] (c_enc8_0 l Z a0 hw ar kb  h0 A1 E1) (by simp) (d_jdk_42_method_18_10) (tw hw 58 rfl) (tw hw 59 rfl) (tw hw 6 rfl) (tw hw 60 rfl) (by decide) (lenOf pd__B_BZ__B rfl) #[.val (.ref u8), .val (.int 0), .val (.ref ar)] [] rfl 0 rfl (by decide) (by decide) (by decide) (by decide)
    obtain ⟨b102, kc102, z102, vs102, rfl, K102, A102, hz102⟩ := Q102
    have s103 := K102.1
    refine st102 _ ?_
    exact r_a B W102 rfl rfl rfl (d_jdk_42_method_18_13) (by decide) (by decide) ⟨_, _, _, _, rfl, ((Keep.refl h0 []).trans K102 all0), A102, hz102⟩
  · skip
    refine g_aload_n B W0 (d_jdk_42_method_18_0) rfl rfl ?_
    obtain ⟨T104, W104, st104⟩ := x_gets B W0 (host := "") (d_jdk_42_method_18_1) (Or.inl (tw hw 56 rfl)) Via.refl Sin #[.val (.ref u8), .val (.int 0), .val (.ref ar)] [(.ref u8)]
    refine st104 _ ?_
    refine g_acmp_n B W104 (d_jdk_42_method_18_4) rfl rfl (XT.aa_ne_f rfl) ?_
    show Go p.tables e below _ T104 (mkF m 7 #[.val (.ref u8), .val (.int 0), .val (.ref ar)] [])
    refine g_iload_n B W104 (d_jdk_42_method_18_7) rfl ?_
    refine g_aload_n B W104 (d_jdk_42_method_18_8) rfl rfl ?_
    refine g_iconst B W104 (d_jdk_42_method_18_9) (v := 1) (by decide) ?_
    obtain ⟨T105, h105, v105, W105, Q105, st105⟩ := x_static B W104 [(.int 0), (.ref ar), (.int 1)] (c_enc8_1 l Z a0 hw ar kb q0 h0 A1 E1) (by simp) (d_jdk_42_method_18_10) (tw hw 58 rfl) (tw hw 59 rfl) (tw hw 6 rfl) (tw hw 60 rfl) (by decide) (lenOf pd__B_BZ__B rfl) #[.val (.ref u8), .val (.int 0), .val (.ref ar)] [] rfl 0 rfl (by decide) (by decide) (by decide) (by decide)
    obtain ⟨b105, kc105, z105, vs105, rfl, K105, A105, hz105⟩ := Q105
    have s106 := K105.1
    refine st105 _ ?_
    exact r_a B W105 rfl rfl rfl (d_jdk_42_method_18_13) (by decide) (by decide) ⟨_, _, _, _, rfl, ((Keep.refl h0 []).trans K105 all0), A105, hz105⟩
  · skip
    refine g_aload_n B W0 (d_jdk_42_method_18_0) rfl rfl ?_
    obtain ⟨T107, W107, st107⟩ := x_gets B W0 (host := "") (d_jdk_42_method_18_1) (Or.inl (tw hw 56 rfl)) Via.refl Sin #[.val (.ref u8), .val (.int 0), .val (.ref ar)] [(.ref u8)]
    refine st107 _ ?_
    refine g_acmp_n B W107 (d_jdk_42_method_18_4) rfl rfl (XT.aa_ne_f rfl) ?_
    show Go p.tables e below _ T107 (mkF m 7 #[.val (.ref u8), .val (.int 0), .val (.ref ar)] [])
    refine g_iload_n B W107 (d_jdk_42_method_18_7) rfl ?_
    refine g_aload_n B W107 (d_jdk_42_method_18_8) rfl rfl ?_
    refine g_iconst B W107 (d_jdk_42_method_18_9) (v := 1) (by decide) ?_
    obtain ⟨T108, h108, v108, W108, Q108, st108⟩ := x_static B W107 [(.int 0), (.ref ar), (.int 1)] (c_enc8_2 l Z a0 hw ar kb q0 q1 h0 A1 E1) (by simp) (d_jdk_42_method_18_10) (tw hw 58 rfl) (tw hw 59 rfl) (tw hw 6 rfl) (tw hw 60 rfl) (by decide) (lenOf pd__B_BZ__B rfl) #[.val (.ref u8), .val (.int 0), .val (.ref ar)] [] rfl 0 rfl (by decide) (by decide) (by decide) (by decide)
    obtain ⟨b108, kc108, z108, vs108, rfl, K108, A108, hz108⟩ := Q108
    have s109 := K108.1
    refine st108 _ ?_
    exact r_a B W108 rfl rfl rfl (d_jdk_42_method_18_13) (by decide) (by decide) ⟨_, _, _, _, rfl, ((Keep.refl h0 []).trans K108 all0), A108, hz108⟩
theorem ef_coder (m : MethodId) (a1 : Addr) (cz : Int32) : entryFrame m #[(.ref a1)] 1 = mkF m 0 #[.val (.ref a1)] [] := by first | (simp [entryFrame, mkF, argsToLocals, Value.category]; done) | rfl
def Q_coder (Z : State) (a1 : Addr) (cz : Int32) (h0 : Heap) (v : Option Value) (h : Heap) : Prop := v = some (.int 0) ∧ h0 = h
set_option maxRecDepth 65536 in
set_option maxHeartbeats 40000000 in
theorem c_coder (l : Launch) (Z : State) (a0 : Array Value) (hw : ∀ d ∈ tables_1, d.before a0 Z = true) (a1 : Addr) (cz : Int32) (h0 : Heap) (Scs : Sta Z Z.heap "java/lang/String" "COMPACT_STRINGS" "Z" (.int cz)) (hcz : ¬ cz = 0) (F1 : Fld Z h0 a1 "java/lang/String" "coder" "B" (.int 0)) :
    Con l Z (⟨"java/lang/String", "coder", "()B"⟩ : MethodName) jdk_42_method_152_code 1 (Option.some FieldType.byte) [] ({ frames := 0, cells := 0, slots := 0, locals := 0 } : Room) #[(.ref a1)] h0 (Q_coder Z a1 cz h0) [] := by
  refine Con.of (plainFor_of_name pn_java_lang_String) ?_
  intro p e s m below meth c T0 B W0
  refine Go.cast (ef_coder m a1 cz ) ?_
  obtain ⟨T101, W101, st101⟩ := x_gets B W0 (host := "") (d_jdk_42_method_152_0) (Or.inl (tw hw 52 rfl)) Via.refl Scs #[.val (.ref a1)] []
  refine st101 _ ?_
  refine g_if_n B W101 (d_jdk_42_method_152_3) (XT.i0_eq_f hcz) ?_
  show Go p.tables e below _ T101 (mkF m 6 #[.val (.ref a1)] [])
  refine g_aload_n B W101 (d_jdk_42_method_152_6) rfl rfl ?_
  obtain ⟨T102, W102, st102⟩ := x_get B W101 (host := "") (d_jdk_42_method_152_7) (Or.inl (tw hw 25 rfl)) Via.refl F1 #[.val (.ref a1)] []
  refine st102 _ ?_
  refine g_goto B W102 (d_jdk_42_method_152_10) (pc' := 14) (by decide) ?_
  show Go p.tables e below _ T102 (mkF m 14 #[.val (.ref a1)] [(.int 0)])
  exact r_n B W102 (t := .byte) rfl (by simp) (d_jdk_42_method_152_14) (by decide) (by decide) ⟨rfl, rfl⟩
theorem ef_getBytes (m : MethodId) (a1 : Addr) (u8 : Addr) (cz : Int32) : entryFrame m #[(.ref a1), (.ref u8)] 2 = mkF m 0 #[.val (.ref a1), .val (.ref u8)] [] := by first | (simp [entryFrame, mkF, argsToLocals, Value.category]; done) | rfl
def Q_getBytes (Z : State) (a1 : Addr) (u8 : Addr) (cz : Int32) (h0 : Heap) (v : Option Value) (h : Heap) : Prop := ∃ (b : Addr) (kc : ClassId) (z : Int32) (vs : List Value), v = some (.ref b) ∧ Keep h0 h [] ∧ Arv Z h b kc .byte z vs (.int 0) ∧ ¬ 4 < z
set_option maxRecDepth 65536 in
set_option maxHeartbeats 40000000 in
theorem c_getBytes (l : Launch) (Z : State) (a0 : Array Value) (hw : ∀ d ∈ tables_1, d.before a0 Z = true) (a1 : Addr) (u8 : Addr) (cz : Int32) (h0 : Heap) (S1 : Str2 Z h0 a1) (Su8 : Sta Z Z.heap "java/nio/charset/StandardCharsets" "UTF_8" "Ljava/nio/charset/Charset;" (.ref u8)) (Sin : Sta Z Z.heap "sun/nio/cs/UTF_8" "INSTANCE" "Lsun/nio/cs/UTF_8;" (.ref u8)) (Scs : Sta Z Z.heap "java/lang/String" "COMPACT_STRINGS" "Z" (.int cz)) (hcz : ¬ cz = 0) :
    Con l Z (⟨"java/lang/String", "getBytes", "(Ljava/nio/charset/Charset;)[B"⟩ : MethodName) jdk_42_method_64_code 2 (Option.some (FieldType.array FieldType.byte)) [] ({ frames := 4, cells := 2, slots := 7, locals := 88 } : Room) #[(.ref a1), (.ref u8)] h0 (Q_getBytes Z a1 u8 cz h0) [] := by
  refine Con.of (plainFor_of_name pn_java_lang_String) ?_
  intro p e s m below meth c T0 B W0
  refine Go.cast (ef_getBytes m a1 u8 cz ) ?_
  obtain ⟨t1, E0, F2, F1, HB⟩ := S1
  refine g_aload_n B W0 (d_jdk_42_method_64_0) rfl rfl ?_
  refine g_ifnonnull_y B W0 (d_jdk_42_method_64_1) (pc' := 12) (by decide) ?_
  show Go p.tables e below _ T0 (mkF m 12 #[.val (.ref a1), .val (.ref u8)] [])
  refine g_aload_n B W0 (d_jdk_42_method_64_12) rfl rfl ?_
  refine g_aload_n B W0 (d_jdk_42_method_64_13) rfl rfl ?_
  obtain ⟨T101, h101, v101, W101, Q101, st101⟩ := x_virtual B W0 (b := a1) [] (c_coder l Z a0 hw a1 cz h0 Scs hcz F2) (by simp) E0 (d_jdk_42_method_64_14) (tw hw 47 rfl) (tw hw 48 rfl) (tw hw 50 rfl) (tw hw 49 rfl) (tw hw 6 rfl) (tw hw 51 rfl) (by decide) (lenOf pd___B rfl) #[.val (.ref a1), .val (.ref u8)] [(.ref u8)] rfl 1 rfl (by decide) (by decide) (by decide) (by decide)
  obtain ⟨rfl, rfl⟩ := Q101
  refine st101 _ ?_
  refine g_aload_n B W101 (d_jdk_42_method_64_17) rfl rfl ?_
  obtain ⟨T102, W102, st102⟩ := x_get B W101 (host := "") (d_jdk_42_method_64_18) (Or.inl (tw hw 24 rfl)) Via.refl F1 #[.val (.ref a1), .val (.ref u8)] [(.int 0), (.ref u8)]
  refine st102 _ ?_
  obtain ⟨T103, h103, v103, W103, Q103, st103⟩ := x_static B W102 [(.ref u8), (.int 0), (.ref t1)] (c_enc l Z a0 hw t1 u8 h0 HB Su8 Sin) (by simp) (d_jdk_42_method_64_21) (tw hw 53 rfl) (tw hw 54 rfl) (tw hw 6 rfl) (tw hw 55 rfl) (by decide) (lenOf pd__Ljava_nio_charset_Charset_B_B__B rfl) #[.val (.ref a1), .val (.ref u8)] [] rfl 0 rfl (by decide) (by decide) (by decide) (by decide)
  obtain ⟨b103, kc103, z103, vs103, rfl, K103, A103, hz103⟩ := Q103
  have s104 := K103.1
  refine st103 _ ?_
  exact r_a B W103 rfl rfl rfl (d_jdk_42_method_64_24) (by decide) (by decide) ⟨_, _, _, _, rfl, ((Keep.refl h0 []).trans K103 all0), A103, hz103⟩
theorem ef_reqNN (m : MethodId) (a1 : Addr) (a2 : Addr) : entryFrame m #[(.ref a1), (.ref a2)] 2 = mkF m 0 #[.val (.ref a1), .val (.ref a2)] [] := by first | (simp [entryFrame, mkF, argsToLocals, Value.category]; done) | rfl
def Q_reqNN (Z : State) (a1 : Addr) (a2 : Addr) (h0 : Heap) (v : Option Value) (h : Heap) : Prop := v = some (.ref a1) ∧ h0 = h
set_option maxRecDepth 65536 in
set_option maxHeartbeats 40000000 in
theorem c_reqNN (l : Launch) (Z : State) (a0 : Array Value) (hw : ∀ d ∈ tables_1, d.before a0 Z = true) (a1 : Addr) (a2 : Addr) (h0 : Heap) :
    Con l Z (⟨"java/util/Objects", "requireNonNull", "(Ljava/lang/Object;Ljava/lang/String;)Ljava/lang/Object;"⟩ : MethodName) jdk_31_method_11_code 2 (Option.some (FieldType.object "java/lang/Object")) [] ({ frames := 0, cells := 0, slots := 0, locals := 0 } : Room) #[(.ref a1), (.ref a2)] h0 (Q_reqNN Z a1 a2 h0) [] := by
  refine Con.of (plainFor_of_name pn_java_util_Objects) ?_
  intro p e s m below meth c T0 B W0
  refine Go.cast (ef_reqNN m a1 a2 ) ?_
  refine g_aload_n B W0 (d_jdk_31_method_11_0) rfl rfl ?_
  refine g_ifnonnull_y B W0 (d_jdk_31_method_11_1) (pc' := 13) (by decide) ?_
  show Go p.tables e below _ T0 (mkF m 13 #[.val (.ref a1), .val (.ref a2)] [])
  refine g_aload_n B W0 (d_jdk_31_method_11_13) rfl rfl ?_
  exact r_a B W0 rfl rfl rfl (d_jdk_31_method_11_14) (by decide) (by decide) ⟨rfl, rfl⟩
theorem ef_reqU8 (m : MethodId) (mg : Addr) (nn : Int32) (a1 : Addr) (u8 : Addr) (cz : Int32) : entryFrame m #[(.ref mg), (.ref a1), (.int nn)] 3 = mkF m 0 #[.val (.ref mg), .val (.ref a1), .val (.int nn)] [] := by first | (simp [entryFrame, mkF, argsToLocals, Value.category]; done) | rfl
def Q_reqU8 (Z : State) (mg : Addr) (nn : Int32) (a1 : Addr) (u8 : Addr) (cz : Int32) (h0 : Heap) (v : Option Value) (h : Heap) : Prop := v = some (.ref a1) ∧ Keep h0 h []
set_option maxRecDepth 65536 in
set_option maxHeartbeats 40000000 in
theorem c_reqU8 (l : Launch) (Z : State) (a0 : Array Value) (hw : ∀ d ∈ tables_1, d.before a0 Z = true) (mg : Addr) (nn : Int32) (a1 : Addr) (u8 : Addr) (cz : Int32) (h0 : Heap) (hnn : ¬ nn < 4) (S1 : Str2 Z h0 a1) (Su8 : Sta Z Z.heap "java/nio/charset/StandardCharsets" "UTF_8" "Ljava/nio/charset/Charset;" (.ref u8)) (Sin : Sta Z Z.heap "sun/nio/cs/UTF_8" "INSTANCE" "Lsun/nio/cs/UTF_8;" (.ref u8)) (Scs : Sta Z Z.heap "java/lang/String" "COMPACT_STRINGS" "Z" (.int cz)) (hcz : ¬ cz = 0) :
    Con l Z (⟨"com/example/outbox_relay/outboxrelay/OutboxMessage", "requireUtf8AtMost", "(Ljava/lang/String;Ljava/lang/String;I)Ljava/lang/String;"⟩ : MethodName) prog_1_method_12_code 3 (Option.some (FieldType.object "java/lang/String")) [] ({ frames := 5, cells := 2, slots := 7, locals := 101 } : Room) #[(.ref mg), (.ref a1), (.int nn)] h0 (Q_reqU8 Z mg nn a1 u8 cz h0) [] := by
  refine Con.of (plainFor_of_name pn_com_example_outbox_relay_outboxrelay_OutboxMessage) ?_
  intro p e s m below meth c T0 B W0
  refine Go.cast (ef_reqU8 m mg nn a1 u8 cz ) ?_
  have E0 := S1.exa
  refine g_aload_n B W0 (d_prog_1_method_12_0) rfl rfl ?_
  refine g_aload_n B W0 (d_prog_1_method_12_1) rfl rfl ?_
  obtain ⟨T101, h101, v101, W101, Q101, st101⟩ := x_static B W0 [(.ref a1), (.ref mg)] (c_reqNN l Z a0 hw a1 mg h0) (by simp) (d_prog_1_method_12_2) (tw hw 36 rfl) (tw hw 37 rfl) (tw hw 38 rfl) (tw hw 39 rfl) (by decide) (lenOf pd__Ljava_lang_Object_Ljava_lang_String__Ljava_lang_Object_ rfl) #[.val (.ref mg), .val (.ref a1), .val (.int nn)] [] rfl 0 rfl (by decide) (by decide) (by decide) (by decide)
  obtain ⟨rfl, rfl⟩ := Q101
  refine st101 _ ?_
  refine g_pop B W101 (d_prog_1_method_12_5) rfl ?_
  refine g_aload_n B W101 (d_prog_1_method_12_6) rfl rfl ?_
  obtain ⟨T102, W102, st102⟩ := x_gets B W101 (host := "") (d_prog_1_method_12_7) (Or.inl (tw hw 40 rfl)) Via.refl Su8 #[.val (.ref mg), .val (.ref a1), .val (.int nn)] [(.ref a1)]
  refine st102 _ ?_
  obtain ⟨T103, h103, v103, W103, Q103, st103⟩ := x_virtual B W102 (b := a1) [(.ref u8)] (c_getBytes l Z a0 hw a1 u8 cz h0 S1 Su8 Sin Scs hcz) (by simp) E0 (d_prog_1_method_12_10) (tw hw 42 rfl) (tw hw 43 rfl) (tw hw 45 rfl) (tw hw 44 rfl) (tw hw 6 rfl) (tw hw 46 rfl) (by decide) (lenOf pd__Ljava_nio_charset_Charset___B rfl) #[.val (.ref mg), .val (.ref a1), .val (.int nn)] [] rfl 0 rfl (by decide) (by decide) (by decide) (by decide)
  obtain ⟨b103, kc103, z103, vs103, rfl, K103, A103, hz103⟩ := Q103
  have s104 := K103.1
  refine st103 _ ?_
  refine g_aalen B W103 (d_prog_1_method_12_13) A103 ?_
  refine g_iload_n B W103 (d_prog_1_method_12_14) rfl ?_
  refine g_icmp_y B W103 (d_prog_1_method_12_15) (XT.ii_le_t (own_le4 hz103 hnn)) (pc' := 33) (by decide) ?_
  show Go p.tables e below _ T103 (mkF m 33 #[.val (.ref mg), .val (.ref a1), .val (.int nn)] [])
  refine g_aload_n B W103 (d_prog_1_method_12_33) rfl rfl ?_
  exact r_a B W103 rfl rfl rfl (d_prog_1_method_12_34) (by decide) (by decide) ⟨rfl, ((Keep.refl h0 []).trans K103 all0)⟩
theorem ef_om6 (m : MethodId) (a1 : Addr) (s1 : Addr) (s2 : Addr) (s3 : Addr) (p4 : Value) (p5 : Value) (p6 : Value) (r4 : p4.isRef = true) (r5 : p5.isRef = true) (r6 : p6.isRef = true) : entryFrame m #[(.ref a1), (.ref s1), (.ref s2), (.ref s3), p4, p5, p6] 7 = mkF m 0 #[.val (.ref a1), .val (.ref s1), .val (.ref s2), .val (.ref s3), .val p4, .val p5, .val p6] [] := by
  (cases p4 <;> try cases r4)
  all_goals (cases p5 <;> try cases r5)
  all_goals (cases p6 <;> try cases r6)
  all_goals first | (simp [entryFrame, mkF, argsToLocals, Value.category]; done) | rfl
def Q_om6 (Z : State) (a1 : Addr) (s1 : Addr) (s2 : Addr) (s3 : Addr) (p4 : Value) (p5 : Value) (p6 : Value) (h0 : Heap) (v : Option Value) (h : Heap) : Prop := v = none ∧ Keep h0 h [a1] ∧ Exa Z h a1 "com/example/outbox_relay/outboxrelay/OutboxMessage" ∧ Fld Z h a1 "com/example/outbox_relay/outboxrelay/OutboxMessage" "exchange" "Ljava/lang/String;" (.ref s1) ∧ Fld Z h a1 "com/example/outbox_relay/outboxrelay/OutboxMessage" "routingKey" "Ljava/lang/String;" (.ref s2) ∧ Fld Z h a1 "com/example/outbox_relay/outboxrelay/OutboxMessage" "payload" "Ljava/lang/String;" (.ref s3) ∧ Fld Z h a1 "com/example/outbox_relay/outboxrelay/OutboxMessage" "messageId" "Ljava/lang/String;" p4 ∧ Fld Z h a1 "com/example/outbox_relay/outboxrelay/OutboxMessage" "businessModule" "Ljava/lang/String;" p5 ∧ Fld Z h a1 "com/example/outbox_relay/outboxrelay/OutboxMessage" "businessKey" "Ljava/lang/String;" p6
set_option maxRecDepth 65536 in
set_option maxHeartbeats 40000000 in
theorem c_om6 (l : Launch) (Z : State) (a0 : Array Value) (hw : ∀ d ∈ tables_1, d.before a0 Z = true) (a1 : Addr) (s1 : Addr) (s2 : Addr) (s3 : Addr) (p4 : Value) (p5 : Value) (p6 : Value) (h0 : Heap) (r4 : p4.isRef = true) (r5 : p5.isRef = true) (r6 : p6.isRef = true) (E1 : Exa Z h0 a1 "com/example/outbox_relay/outboxrelay/OutboxMessage") (F0 : Fld Z h0 a1 "com/example/outbox_relay/outboxrelay/OutboxMessage" "exchange" "Ljava/lang/String;" .null) (F1 : Fld Z h0 a1 "com/example/outbox_relay/outboxrelay/OutboxMessage" "routingKey" "Ljava/lang/String;" .null) (F2 : Fld Z h0 a1 "com/example/outbox_relay/outboxrelay/OutboxMessage" "payload" "Ljava/lang/String;" .null) (F3 : Fld Z h0 a1 "com/example/outbox_relay/outboxrelay/OutboxMessage" "messageId" "Ljava/lang/String;" .null) (F4 : Fld Z h0 a1 "com/example/outbox_relay/outboxrelay/OutboxMessage" "businessModule" "Ljava/lang/String;" .null) (F5 : Fld Z h0 a1 "com/example/outbox_relay/outboxrelay/OutboxMessage" "businessKey" "Ljava/lang/String;" .null) (g1 : Z.heap.size ≤ a1) :
    Con l Z (⟨"com/example/outbox_relay/outboxrelay/OutboxMessage", "<init>", "(Ljava/lang/String;Ljava/lang/String;Ljava/lang/String;Ljava/lang/String;Ljava/lang/String;Ljava/lang/String;)V"⟩ : MethodName) prog_1_method_2_code 7 (Option.none : Option FieldType) [] ({ frames := 1, cells := 0, slots := 0, locals := 12 } : Room) #[(.ref a1), (.ref s1), (.ref s2), (.ref s3), p4, p5, p6] h0 (Q_om6 Z a1 s1 s2 s3 p4 p5 p6 h0) [] := by
  refine Con.of (plainFor_of_name pn_com_example_outbox_relay_outboxrelay_OutboxMessage) ?_
  intro p e s m below meth c T0 B W0
  refine Go.cast (ef_om6 m a1 s1 s2 s3 p4 p5 p6 r4 r5 r6) ?_
  have l_a1 := nlt E1.lt
  refine g_aload_n B W0 (d_prog_1_method_2_0) rfl rfl ?_
  obtain ⟨T101, W101, st101⟩ := x_init B W0 (d_prog_1_method_2_1) (tw hw 83 rfl) (tw hw 16 rfl) (tw hw 17 rfl) a1 #[.val (.ref a1), .val (.ref s1), .val (.ref s2), .val (.ref s3), .val p4, .val p5, .val p6] [] rfl 0 rfl (by decide) (by decide)
  refine st101 _ ?_
  refine g_aload_n B W101 (d_prog_1_method_2_4) rfl rfl ?_
  refine g_aload_n B W101 (d_prog_1_method_2_5) rfl rfl ?_
  obtain ⟨T102, h102, W102, K102, R102, F102, E102, st102⟩ := x_put B W101 (d_prog_1_method_2_6) ((tw hw 84 rfl)) Via.refl F0 E1 (Or.inr ⟨ (tw hw 85 rfl), rfl, rfl⟩) (tw hw 27 rfl) (ty := (.object "java/lang/String")) (v := (.ref s1)) (v' := (.ref s1)) (by decide) rfl rfl (by omega) (Or.inl (by decide)) #[.val (.ref a1), .val (.ref s1), .val (.ref s2), .val (.ref s3), .val p4, .val p5, .val p6] []
  refine st102 _ ?_
  have f103 := F1.other R102 (Or.inr (slot_ne (Or.inr (tw hw 87 rfl)) (Or.inr (tw hw 85 rfl)) (by decide) (t := (.object "java/lang/String")) (t' := (.object "java/lang/String")) (by decide) (by decide)))
  have f104 := F2.other R102 (Or.inr (slot_ne (Or.inr (tw hw 89 rfl)) (Or.inr (tw hw 85 rfl)) (by decide) (t := (.object "java/lang/String")) (t' := (.object "java/lang/String")) (by decide) (by decide)))
  have f105 := F3.other R102 (Or.inr (slot_ne (Or.inr (tw hw 91 rfl)) (Or.inr (tw hw 85 rfl)) (by decide) (t := (.object "java/lang/String")) (t' := (.object "java/lang/String")) (by decide) (by decide)))
  have f106 := F4.other R102 (Or.inr (slot_ne (Or.inr (tw hw 93 rfl)) (Or.inr (tw hw 85 rfl)) (by decide) (t := (.object "java/lang/String")) (t' := (.object "java/lang/String")) (by decide) (by decide)))
  have f107 := F5.other R102 (Or.inr (slot_ne (Or.inr (tw hw 95 rfl)) (Or.inr (tw hw 85 rfl)) (by decide) (t := (.object "java/lang/String")) (t' := (.object "java/lang/String")) (by decide) (by decide)))
  have s108 := K102.1
  refine g_aload_n B W102 (d_prog_1_method_2_9) rfl rfl ?_
  refine g_aload_n B W102 (d_prog_1_method_2_10) rfl rfl ?_
  obtain ⟨T109, h109, W109, K109, R109, F109, E109, st109⟩ := x_put B W102 (d_prog_1_method_2_11) ((tw hw 86 rfl)) Via.refl f103 E102 (Or.inr ⟨ (tw hw 87 rfl), rfl, rfl⟩) (tw hw 27 rfl) (ty := (.object "java/lang/String")) (v := (.ref s2)) (v' := (.ref s2)) (by decide) rfl rfl (by omega) (Or.inl (by decide)) #[.val (.ref a1), .val (.ref s1), .val (.ref s2), .val (.ref s3), .val p4, .val p5, .val p6] []
  refine st109 _ ?_
  have f110 := F102.other R109 (Or.inr (slot_ne (Or.inr (tw hw 85 rfl)) (Or.inr (tw hw 87 rfl)) (by decide) (t := (.object "java/lang/String")) (t' := (.object "java/lang/String")) (by decide) (by decide)))
  have f111 := f104.other R109 (Or.inr (slot_ne (Or.inr (tw hw 89 rfl)) (Or.inr (tw hw 87 rfl)) (by decide) (t := (.object "java/lang/String")) (t' := (.object "java/lang/String")) (by decide) (by decide)))
  have f112 := f105.other R109 (Or.inr (slot_ne (Or.inr (tw hw 91 rfl)) (Or.inr (tw hw 87 rfl)) (by decide) (t := (.object "java/lang/String")) (t' := (.object "java/lang/String")) (by decide) (by decide)))
  have f113 := f106.other R109 (Or.inr (slot_ne (Or.inr (tw hw 93 rfl)) (Or.inr (tw hw 87 rfl)) (by decide) (t := (.object "java/lang/String")) (t' := (.object "java/lang/String")) (by decide) (by decide)))
  have f114 := f107.other R109 (Or.inr (slot_ne (Or.inr (tw hw 95 rfl)) (Or.inr (tw hw 87 rfl)) (by decide) (t := (.object "java/lang/String")) (t' := (.object "java/lang/String")) (by decide) (by decide)))
  have s115 := K109.1
  refine g_aload_n B W109 (d_prog_1_method_2_14) rfl rfl ?_
  refine g_aload_n B W109 (d_prog_1_method_2_15) rfl rfl ?_
  obtain ⟨T116, h116, W116, K116, R116, F116, E116, st116⟩ := x_put B W109 (d_prog_1_method_2_16) ((tw hw 88 rfl)) Via.refl f111 E109 (Or.inr ⟨ (tw hw 89 rfl), rfl, rfl⟩) (tw hw 27 rfl) (ty := (.object "java/lang/String")) (v := (.ref s3)) (v' := (.ref s3)) (by decide) rfl rfl (by omega) (Or.inl (by decide)) #[.val (.ref a1), .val (.ref s1), .val (.ref s2), .val (.ref s3), .val p4, .val p5, .val p6] []
  refine st116 _ ?_
  have f117 := f110.other R116 (Or.inr (slot_ne (Or.inr (tw hw 85 rfl)) (Or.inr (tw hw 89 rfl)) (by decide) (t := (.object "java/lang/String")) (t' := (.object "java/lang/String")) (by decide) (by decide)))
  have f118 := F109.other R116 (Or.inr (slot_ne (Or.inr (tw hw 87 rfl)) (Or.inr (tw hw 89 rfl)) (by decide) (t := (.object "java/lang/String")) (t' := (.object "java/lang/String")) (by decide) (by decide)))
  have f119 := f112.other R116 (Or.inr (slot_ne (Or.inr (tw hw 91 rfl)) (Or.inr (tw hw 89 rfl)) (by decide) (t := (.object "java/lang/String")) (t' := (.object "java/lang/String")) (by decide) (by decide)))
  have f120 := f113.other R116 (Or.inr (slot_ne (Or.inr (tw hw 93 rfl)) (Or.inr (tw hw 89 rfl)) (by decide) (t := (.object "java/lang/String")) (t' := (.object "java/lang/String")) (by decide) (by decide)))
  have f121 := f114.other R116 (Or.inr (slot_ne (Or.inr (tw hw 95 rfl)) (Or.inr (tw hw 89 rfl)) (by decide) (t := (.object "java/lang/String")) (t' := (.object "java/lang/String")) (by decide) (by decide)))
  have s122 := K116.1
  refine g_aload_n B W116 (d_prog_1_method_2_19) rfl rfl ?_
  refine g_aload B W116 (d_prog_1_method_2_20) rfl r4 ?_
  obtain ⟨T123, h123, W123, K123, R123, F123, E123, st123⟩ := x_put B W116 (d_prog_1_method_2_22) ((tw hw 90 rfl)) Via.refl f119 E116 (Or.inr ⟨ (tw hw 91 rfl), rfl, rfl⟩) (tw hw 27 rfl) (ty := (.object "java/lang/String")) (v := p4) (v' := p4) (by decide) (nar_ref rfl) (own_fr rfl r4) (by omega) (Or.inl (by decide)) #[.val (.ref a1), .val (.ref s1), .val (.ref s2), .val (.ref s3), .val p4, .val p5, .val p6] []
  refine st123 _ ?_
  have f124 := f117.other R123 (Or.inr (slot_ne (Or.inr (tw hw 85 rfl)) (Or.inr (tw hw 91 rfl)) (by decide) (t := (.object "java/lang/String")) (t' := (.object "java/lang/String")) (by decide) (by decide)))
  have f125 := f118.other R123 (Or.inr (slot_ne (Or.inr (tw hw 87 rfl)) (Or.inr (tw hw 91 rfl)) (by decide) (t := (.object "java/lang/String")) (t' := (.object "java/lang/String")) (by decide) (by decide)))
  have f126 := F116.other R123 (Or.inr (slot_ne (Or.inr (tw hw 89 rfl)) (Or.inr (tw hw 91 rfl)) (by decide) (t := (.object "java/lang/String")) (t' := (.object "java/lang/String")) (by decide) (by decide)))
  have f127 := f120.other R123 (Or.inr (slot_ne (Or.inr (tw hw 93 rfl)) (Or.inr (tw hw 91 rfl)) (by decide) (t := (.object "java/lang/String")) (t' := (.object "java/lang/String")) (by decide) (by decide)))
  have f128 := f121.other R123 (Or.inr (slot_ne (Or.inr (tw hw 95 rfl)) (Or.inr (tw hw 91 rfl)) (by decide) (t := (.object "java/lang/String")) (t' := (.object "java/lang/String")) (by decide) (by decide)))
  have s129 := K123.1
  refine g_aload_n B W123 (d_prog_1_method_2_25) rfl rfl ?_
  refine g_aload B W123 (d_prog_1_method_2_26) rfl r5 ?_
  obtain ⟨T130, h130, W130, K130, R130, F130, E130, st130⟩ := x_put B W123 (d_prog_1_method_2_28) ((tw hw 92 rfl)) Via.refl f127 E123 (Or.inr ⟨ (tw hw 93 rfl), rfl, rfl⟩) (tw hw 27 rfl) (ty := (.object "java/lang/String")) (v := p5) (v' := p5) (by decide) (nar_ref rfl) (own_fr rfl r5) (by omega) (Or.inl (by decide)) #[.val (.ref a1), .val (.ref s1), .val (.ref s2), .val (.ref s3), .val p4, .val p5, .val p6] []
  refine st130 _ ?_
  have f131 := f124.other R130 (Or.inr (slot_ne (Or.inr (tw hw 85 rfl)) (Or.inr (tw hw 93 rfl)) (by decide) (t := (.object "java/lang/String")) (t' := (.object "java/lang/String")) (by decide) (by decide)))
  have f132 := f125.other R130 (Or.inr (slot_ne (Or.inr (tw hw 87 rfl)) (Or.inr (tw hw 93 rfl)) (by decide) (t := (.object "java/lang/String")) (t' := (.object "java/lang/String")) (by decide) (by decide)))
  have f133 := f126.other R130 (Or.inr (slot_ne (Or.inr (tw hw 89 rfl)) (Or.inr (tw hw 93 rfl)) (by decide) (t := (.object "java/lang/String")) (t' := (.object "java/lang/String")) (by decide) (by decide)))
  have f134 := F123.other R130 (Or.inr (slot_ne (Or.inr (tw hw 91 rfl)) (Or.inr (tw hw 93 rfl)) (by decide) (t := (.object "java/lang/String")) (t' := (.object "java/lang/String")) (by decide) (by decide)))
  have f135 := f128.other R130 (Or.inr (slot_ne (Or.inr (tw hw 95 rfl)) (Or.inr (tw hw 93 rfl)) (by decide) (t := (.object "java/lang/String")) (t' := (.object "java/lang/String")) (by decide) (by decide)))
  have s136 := K130.1
  refine g_aload_n B W130 (d_prog_1_method_2_31) rfl rfl ?_
  refine g_aload B W130 (d_prog_1_method_2_32) rfl r6 ?_
  obtain ⟨T137, h137, W137, K137, R137, F137, E137, st137⟩ := x_put B W130 (d_prog_1_method_2_34) ((tw hw 94 rfl)) Via.refl f135 E130 (Or.inr ⟨ (tw hw 95 rfl), rfl, rfl⟩) (tw hw 27 rfl) (ty := (.object "java/lang/String")) (v := p6) (v' := p6) (by decide) (nar_ref rfl) (own_fr rfl r6) (by omega) (Or.inl (by decide)) #[.val (.ref a1), .val (.ref s1), .val (.ref s2), .val (.ref s3), .val p4, .val p5, .val p6] []
  refine st137 _ ?_
  have f138 := f131.other R137 (Or.inr (slot_ne (Or.inr (tw hw 85 rfl)) (Or.inr (tw hw 95 rfl)) (by decide) (t := (.object "java/lang/String")) (t' := (.object "java/lang/String")) (by decide) (by decide)))
  have f139 := f132.other R137 (Or.inr (slot_ne (Or.inr (tw hw 87 rfl)) (Or.inr (tw hw 95 rfl)) (by decide) (t := (.object "java/lang/String")) (t' := (.object "java/lang/String")) (by decide) (by decide)))
  have f140 := f133.other R137 (Or.inr (slot_ne (Or.inr (tw hw 89 rfl)) (Or.inr (tw hw 95 rfl)) (by decide) (t := (.object "java/lang/String")) (t' := (.object "java/lang/String")) (by decide) (by decide)))
  have f141 := f134.other R137 (Or.inr (slot_ne (Or.inr (tw hw 91 rfl)) (Or.inr (tw hw 95 rfl)) (by decide) (t := (.object "java/lang/String")) (t' := (.object "java/lang/String")) (by decide) (by decide)))
  have f142 := F130.other R137 (Or.inr (slot_ne (Or.inr (tw hw 93 rfl)) (Or.inr (tw hw 95 rfl)) (by decide) (t := (.object "java/lang/String")) (t' := (.object "java/lang/String")) (by decide) (by decide)))
  have s143 := K137.1
  exact r_v B W137 (d_prog_1_method_2_37) (by decide) (by decide) ⟨rfl, (((((((Keep.refl h0 [a1]).trans K102 (allS (Or.inl (by simp)) all0)).trans K109 (allS (Or.inl (by simp)) all0)).trans K116 (allS (Or.inl (by simp)) all0)).trans K123 (allS (Or.inl (by simp)) all0)).trans K130 (allS (Or.inl (by simp)) all0)).trans K137 (allS (Or.inl (by simp)) all0)), E137, f138, f139, f140, f141, f142, F137⟩
theorem ef_om3 (m : MethodId) (a1 : Addr) (s1 : Addr) (s2 : Addr) (s3 : Addr) (u8 : Addr) (cz : Int32) : entryFrame m #[(.ref a1), (.ref s1), (.ref s2), (.ref s3)] 4 = mkF m 0 #[.val (.ref a1), .val (.ref s1), .val (.ref s2), .val (.ref s3)] [] := by first | (simp [entryFrame, mkF, argsToLocals, Value.category]; done) | rfl
def Q_om3 (Z : State) (a1 : Addr) (s1 : Addr) (s2 : Addr) (s3 : Addr) (u8 : Addr) (cz : Int32) (h0 : Heap) (v : Option Value) (h : Heap) : Prop := v = none ∧ Keep h0 h [a1] ∧ Exa Z h a1 "com/example/outbox_relay/outboxrelay/OutboxMessage" ∧ Fld Z h a1 "com/example/outbox_relay/outboxrelay/OutboxMessage" "exchange" "Ljava/lang/String;" (.ref s1) ∧ Fld Z h a1 "com/example/outbox_relay/outboxrelay/OutboxMessage" "routingKey" "Ljava/lang/String;" (.ref s2) ∧ Fld Z h a1 "com/example/outbox_relay/outboxrelay/OutboxMessage" "payload" "Ljava/lang/String;" (.ref s3) ∧ Fld Z h a1 "com/example/outbox_relay/outboxrelay/OutboxMessage" "messageId" "Ljava/lang/String;" .null ∧ Fld Z h a1 "com/example/outbox_relay/outboxrelay/OutboxMessage" "businessModule" "Ljava/lang/String;" .null ∧ Fld Z h a1 "com/example/outbox_relay/outboxrelay/OutboxMessage" "businessKey" "Ljava/lang/String;" .null
set_option maxRecDepth 65536 in
set_option maxHeartbeats 40000000 in
theorem c_om3 (l : Launch) (Z : State) (a0 : Array Value) (hw : ∀ d ∈ tables_1, d.before a0 Z = true) (a1 : Addr) (s1 : Addr) (s2 : Addr) (s3 : Addr) (u8 : Addr) (cz : Int32) (h0 : Heap) (E1 : Exa Z h0 a1 "com/example/outbox_relay/outboxrelay/OutboxMessage") (F0 : Fld Z h0 a1 "com/example/outbox_relay/outboxrelay/OutboxMessage" "exchange" "Ljava/lang/String;" .null) (F1 : Fld Z h0 a1 "com/example/outbox_relay/outboxrelay/OutboxMessage" "routingKey" "Ljava/lang/String;" .null) (F2 : Fld Z h0 a1 "com/example/outbox_relay/outboxrelay/OutboxMessage" "payload" "Ljava/lang/String;" .null) (F3 : Fld Z h0 a1 "com/example/outbox_relay/outboxrelay/OutboxMessage" "messageId" "Ljava/lang/String;" .null) (F4 : Fld Z h0 a1 "com/example/outbox_relay/outboxrelay/OutboxMessage" "businessModule" "Ljava/lang/String;" .null) (F5 : Fld Z h0 a1 "com/example/outbox_relay/outboxrelay/OutboxMessage" "businessKey" "Ljava/lang/String;" .null) (g1 : Z.heap.size ≤ a1) (S1 : Str2 Z h0 s1) (S2 : Str2 Z h0 s2) (S3 : Str2 Z h0 s3) (Su8 : Sta Z Z.heap "java/nio/charset/StandardCharsets" "UTF_8" "Ljava/nio/charset/Charset;" (.ref u8)) (Sin : Sta Z Z.heap "sun/nio/cs/UTF_8" "INSTANCE" "Lsun/nio/cs/UTF_8;" (.ref u8)) (Scs : Sta Z Z.heap "java/lang/String" "COMPACT_STRINGS" "Z" (.int cz)) (hcz : ¬ cz = 0) :
    Con l Z (⟨"com/example/outbox_relay/outboxrelay/OutboxMessage", "<init>", "(Ljava/lang/String;Ljava/lang/String;Ljava/lang/String;)V"⟩ : MethodName) prog_1_method_1_code 4 (Option.none : Option FieldType) [] ({ frames := 6, cells := 12, slots := 137, locals := 118 } : Room) #[(.ref a1), (.ref s1), (.ref s2), (.ref s3)] h0 (Q_om3 Z a1 s1 s2 s3 u8 cz h0) [] := by
  refine Con.of (plainFor_of_name pn_com_example_outbox_relay_outboxrelay_OutboxMessage) ?_
  intro p e s m below meth c T0 B W0
  refine Go.cast (ef_om3 m a1 s1 s2 s3 u8 cz ) ?_
  have l_a1 := nlt E1.lt
  refine g_aload_n B W0 (d_prog_1_method_1_0) rfl rfl ?_
  obtain ⟨T101, h101, b101, W101, K101, st101⟩ := x_ldcS B W0 32 (d_prog_1_method_1_1) (tw hw 32 rfl) (own_wS hw) (own_EL hw) (by decide) (by decide) (by decide) (by decide) #[.val (.ref a1), .val (.ref s1), .val (.ref s2), .val (.ref s3)] [(.ref a1)]
  refine st101 _ ?_
  have s102 := K101.1
  refine g_aload_n B W101 (d_prog_1_method_1_3) rfl rfl ?_
  refine g_sipush B W101 (d_prog_1_method_1_4) (v := 255) (by decide) ?_
  have f103 := S1.keep ((Keep.refl h0 []).trans K101 all0)
  obtain ⟨T104, h104, v104, W104, Q104, st104⟩ := x_static B W101 [(.ref b101), (.ref s1), (.int 255)] (c_reqU8 l Z a0 hw b101 255 s1 u8 cz h101 (by decide) f103 Su8 Sin Scs hcz) (by simp) (d_prog_1_method_1_7) (tw hw 33 rfl) (tw hw 34 rfl) (tw hw 28 rfl) (tw hw 35 rfl) (by decide) (lenOf pd__Ljava_lang_String_Ljava_lang_String_I_Ljava_lang_String_ rfl) #[.val (.ref a1), .val (.ref s1), .val (.ref s2), .val (.ref s3)] [(.ref a1)] rfl 1 rfl (by decide) (by decide) (by decide) (by decide)
  obtain ⟨rfl, K104⟩ := Q104
  have s105 := K104.1
  refine st104 _ ?_
  obtain ⟨T106, h106, b106, W106, K106, st106⟩ := x_ldcS B W104 44 (d_prog_1_method_1_10) (tw hw 77 rfl) (own_wS hw) (own_EL hw) (by decide) (by decide) (by decide) (by decide) #[.val (.ref a1), .val (.ref s1), .val (.ref s2), .val (.ref s3)] [(.ref s1), (.ref a1)]
  refine st106 _ ?_
  have s107 := K106.1
  refine g_aload_n B W106 (d_prog_1_method_1_12) rfl rfl ?_
  refine g_sipush B W106 (d_prog_1_method_1_13) (v := 255) (by decide) ?_
  have f108 := S2.keep ((((Keep.refl h0 []).trans K101 all0).trans K104 all0).trans K106 all0)
  obtain ⟨T109, h109, v109, W109, Q109, st109⟩ := x_static B W106 [(.ref b106), (.ref s2), (.int 255)] (c_reqU8 l Z a0 hw b106 255 s2 u8 cz h106 (by decide) f108 Su8 Sin Scs hcz) (by simp) (d_prog_1_method_1_16) (tw hw 33 rfl) (tw hw 34 rfl) (tw hw 28 rfl) (tw hw 35 rfl) (by decide) (lenOf pd__Ljava_lang_String_Ljava_lang_String_I_Ljava_lang_String_ rfl) #[.val (.ref a1), .val (.ref s1), .val (.ref s2), .val (.ref s3)] [(.ref s1), (.ref a1)] rfl 2 rfl (by decide) (by decide) (by decide) (by decide)
  obtain ⟨rfl, K109⟩ := Q109
  have s110 := K109.1
  refine st109 _ ?_
  obtain ⟨T111, h111, b111, W111, K111, st111⟩ := x_ldcS B W109 28 (d_prog_1_method_1_19) (tw hw 78 rfl) (own_wS hw) (own_EL hw) (by decide) (by decide) (by decide) (by decide) #[.val (.ref a1), .val (.ref s1), .val (.ref s2), .val (.ref s3)] [(.ref s2), (.ref s1), (.ref a1)]
  refine st111 _ ?_
  have s112 := K111.1
  refine g_aload_n B W111 (d_prog_1_method_1_21) rfl rfl ?_
  refine g_ldcI B W111 (d_prog_1_method_1_22) (tw hw 79 rfl) ?_
  have f113 := S3.keep ((((((Keep.refl h0 []).trans K101 all0).trans K104 all0).trans K106 all0).trans K109 all0).trans K111 all0)
  obtain ⟨T114, h114, v114, W114, Q114, st114⟩ := x_static B W111 [(.ref b111), (.ref s3), (.int 1048576)] (c_reqU8 l Z a0 hw b111 1048576 s3 u8 cz h111 (by decide) f113 Su8 Sin Scs hcz) (by simp) (d_prog_1_method_1_24) (tw hw 33 rfl) (tw hw 34 rfl) (tw hw 28 rfl) (tw hw 35 rfl) (by decide) (lenOf pd__Ljava_lang_String_Ljava_lang_String_I_Ljava_lang_String_ rfl) #[.val (.ref a1), .val (.ref s1), .val (.ref s2), .val (.ref s3)] [(.ref s2), (.ref s1), (.ref a1)] rfl 3 rfl (by decide) (by decide) (by decide) (by decide)
  obtain ⟨rfl, K114⟩ := Q114
  have s115 := K114.1
  refine st114 _ ?_
  refine g_aconst_null B W114 (d_prog_1_method_1_27)  ?_
  refine g_aconst_null B W114 (d_prog_1_method_1_28)  ?_
  refine g_aconst_null B W114 (d_prog_1_method_1_29)  ?_
  have f116 := ((((((E1.keep K101).keep K104).keep K106).keep K109).keep K111).keep K114)
  have f117 := ((((((F0.keep K101 nin0).keep K104 nin0).keep K106 nin0).keep K109 nin0).keep K111 nin0).keep K114 nin0)
  have f118 := ((((((F1.keep K101 nin0).keep K104 nin0).keep K106 nin0).keep K109 nin0).keep K111 nin0).keep K114 nin0)
  have f119 := ((((((F2.keep K101 nin0).keep K104 nin0).keep K106 nin0).keep K109 nin0).keep K111 nin0).keep K114 nin0)
  have f120 := ((((((F3.keep K101 nin0).keep K104 nin0).keep K106 nin0).keep K109 nin0).keep K111 nin0).keep K114 nin0)
  have f121 := ((((((F4.keep K101 nin0).keep K104 nin0).keep K106 nin0).keep K109 nin0).keep K111 nin0).keep K114 nin0)
  have f122 := ((((((F5.keep K101 nin0).keep K104 nin0).keep K106 nin0).keep K109 nin0).keep K111 nin0).keep K114 nin0)
  obtain ⟨T123, h123, v123, W123, Q123, st123⟩ := x_special B W114 (b := a1) [(.ref s1), (.ref s2), (.ref s3), .null, .null, .null] (c_om6 l Z a0 hw a1 s1 s2 s3 .null .null .null h114 rfl rfl rfl f116 f117 f118 f119 f120 f121 f122 (by omega)) (by simp) (d_prog_1_method_1_30) rfl (tw hw 80 rfl) (tw hw 81 rfl) (tw hw 28 rfl) (tw hw 82 rfl) (by decide) (lenOf pd__Ljava_lang_String_Ljava_lang_String_Ljava_lang_String_Ljava_lang_String_Ljava_lang_String_Ljava_lang_String__V rfl) #[.val (.ref a1), .val (.ref s1), .val (.ref s2), .val (.ref s3)] [] rfl 0 rfl (by decide) (by decide) (by decide) (by decide)
  obtain ⟨rfl, K123, E123, F0_123, F1_123, F2_123, F3_123, F4_123, F5_123⟩ := Q123
  have s124 := K123.1
  refine st123 _ ?_
  exact r_v B W123 (d_prog_1_method_1_33) (by decide) (by decide) ⟨rfl, ((((((((Keep.refl h0 [a1]).trans K101 all0).trans K104 all0).trans K106 all0).trans K109 all0).trans K111 all0).trans K114 all0).trans K123 (allS (Or.inl (by simp)) all0)), E123, F0_123, F1_123, F2_123, F3_123, F4_123, F5_123⟩
theorem ef_len (m : MethodId) (a1 : Addr) (t1 : Addr) (kb : ClassId) (z : Int32) (vs : List Value) (cz : Int32) : entryFrame m #[(.ref a1)] 1 = mkF m 0 #[.val (.ref a1)] [] := by first | (simp [entryFrame, mkF, argsToLocals, Value.category]; done) | rfl
def Q_len (Z : State) (a1 : Addr) (t1 : Addr) (kb : ClassId) (z : Int32) (vs : List Value) (cz : Int32) (h0 : Heap) (v : Option Value) (h : Heap) : Prop := v = some (.int z) ∧ h0 = h
set_option maxRecDepth 65536 in
set_option maxHeartbeats 40000000 in
theorem c_len (l : Launch) (Z : State) (a0 : Array Value) (hw : ∀ d ∈ tables_1, d.before a0 Z = true) (a1 : Addr) (t1 : Addr) (kb : ClassId) (z : Int32) (vs : List Value) (cz : Int32) (h0 : Heap) (F1 : Fld Z h0 a1 "java/lang/String" "value" "[B" (.ref t1)) (F2 : Fld Z h0 a1 "java/lang/String" "coder" "B" (.int 0)) (A1 : Arv Z h0 t1 kb .byte z vs (.int 0)) (E0 : Exa Z h0 a1 "java/lang/String") (Scs : Sta Z Z.heap "java/lang/String" "COMPACT_STRINGS" "Z" (.int cz)) (hcz : ¬ cz = 0) :
    Con l Z (⟨"java/lang/String", "length", "()I"⟩ : MethodName) jdk_42_method_54_code 1 (Option.some FieldType.int) [] ({ frames := 1, cells := 0, slots := 0, locals := 13 } : Room) #[(.ref a1)] h0 (Q_len Z a1 t1 kb z vs cz h0) [] := by
  refine Con.of (plainFor_of_name pn_java_lang_String) ?_
  intro p e s m below meth c T0 B W0
  refine Go.cast (ef_len m a1 t1 kb z vs cz ) ?_
  refine g_aload_n B W0 (d_jdk_42_method_54_0) rfl rfl ?_
  obtain ⟨T101, W101, st101⟩ := x_get B W0 (host := "") (d_jdk_42_method_54_1) (Or.inl (tw hw 24 rfl)) Via.refl F1 #[.val (.ref a1)] []
  refine st101 _ ?_
  refine g_aalen B W101 (d_jdk_42_method_54_4) A1 ?_
  refine g_aload_n B W101 (d_jdk_42_method_54_5) rfl rfl ?_
  obtain ⟨T102, h102, v102, W102, Q102, st102⟩ := x_virtual B W101 (b := a1) [] (c_coder l Z a0 hw a1 cz h0 Scs hcz F2) (by simp) E0 (d_jdk_42_method_54_6) (tw hw 47 rfl) (tw hw 48 rfl) (tw hw 50 rfl) (tw hw 49 rfl) (tw hw 6 rfl) (tw hw 51 rfl) (by decide) (lenOf pd___B rfl) #[.val (.ref a1)] [(.int z)] rfl 1 rfl (by decide) (by decide) (by decide) (by decide)
  obtain ⟨rfl, rfl⟩ := Q102
  refine st102 _ ?_
  refine g_ishr B W102 (d_jdk_42_method_54_9)  ?_
  rw [own_shr0]
  show Go p.tables e below _ T102 (mkF m 10 #[.val (.ref a1)] [(.int z)])
  exact r_i B W102 (d_jdk_42_method_54_10) (by decide) (by decide) ⟨rfl, rfl⟩
theorem ef_isLat (m : MethodId) (a1 : Addr) (cz : Int32) : entryFrame m #[(.ref a1)] 1 = mkF m 0 #[.val (.ref a1)] [] := by first | (simp [entryFrame, mkF, argsToLocals, Value.category]; done) | rfl
def Q_isLat (Z : State) (a1 : Addr) (cz : Int32) (h0 : Heap) (v : Option Value) (h : Heap) : Prop := v = some (.int 1) ∧ h0 = h
set_option maxRecDepth 65536 in
set_option maxHeartbeats 40000000 in
theorem c_isLat (l : Launch) (Z : State) (a0 : Array Value) (hw : ∀ d ∈ tables_1, d.before a0 Z = true) (a1 : Addr) (cz : Int32) (h0 : Heap) (Scs : Sta Z Z.heap "java/lang/String" "COMPACT_STRINGS" "Z" (.int cz)) (hcz : ¬ cz = 0) (F2 : Fld Z h0 a1 "java/lang/String" "coder" "B" (.int 0)) :
    Con l Z (⟨"java/lang/String", "isLatin1", "()Z"⟩ : MethodName) jdk_42_method_154_code 1 (Option.some FieldType.boolean) [] ({ frames := 0, cells := 0, slots := 0, locals := 0 } : Room) #[(.ref a1)] h0 (Q_isLat Z a1 cz h0) [] := by
  refine Con.of (plainFor_of_name pn_java_lang_String) ?_
  intro p e s m below meth c T0 B W0
  refine Go.cast (ef_isLat m a1 cz ) ?_
  obtain ⟨T101, W101, st101⟩ := x_gets B W0 (host := "") (d_jdk_42_method_154_0) (Or.inl (tw hw 52 rfl)) Via.refl Scs #[.val (.ref a1)] []
  refine st101 _ ?_
  refine g_if_n B W101 (d_jdk_42_method_154_3) (XT.i0_eq_f hcz) ?_
  show Go p.tables e below _ T101 (mkF m 6 #[.val (.ref a1)] [])
  refine g_aload_n B W101 (d_jdk_42_method_154_6) rfl rfl ?_
  obtain ⟨T102, W102, st102⟩ := x_get B W101 (host := "") (d_jdk_42_method_154_7) (Or.inl (tw hw 25 rfl)) Via.refl F2 #[.val (.ref a1)] []
  refine st102 _ ?_
  refine g_if_n B W102 (d_jdk_42_method_154_10) (XT.i0_ne_f (by decide)) ?_
  show Go p.tables e below _ T102 (mkF m 13 #[.val (.ref a1)] [])
  refine g_iconst B W102 (d_jdk_42_method_154_13) (v := 1) (by decide) ?_
  refine g_goto B W102 (d_jdk_42_method_154_14) (pc' := 18) (by decide) ?_
  show Go p.tables e below _ T102 (mkF m 18 #[.val (.ref a1)] [(.int 1)])
  exact r_n B W102 (t := .boolean) rfl (by simp) (d_jdk_42_method_154_18) (by decide) (by decide) ⟨by rw [nar_b1], rfl⟩
theorem ef_pcf (m : MethodId) (z : Int32) : entryFrame m #[(.int 0), (.int z), (.int z), .null] 4 = mkF m 0 #[.val (.int 0), .val (.int z), .val (.int z), .val .null] [] := by first | (simp [entryFrame, mkF, argsToLocals, Value.category]; done) | rfl
def Q_pcf (Z : State) (z : Int32) (h0 : Heap) (v : Option Value) (h : Heap) : Prop := v = some (.int 0) ∧ h0 = h
set_option maxRecDepth 65536 in
set_option maxHeartbeats 40000000 in
theorem c_pcf (l : Launch) (Z : State) (a0 : Array Value) (hw : ∀ d ∈ tables_1, d.before a0 Z = true) (z : Int32) (h0 : Heap) (hz : ¬ z < 0) :
    Con l Z (⟨"jdk/internal/util/Preconditions", "checkFromToIndex", "(IIILjava/util/function/BiFunction;)I"⟩ : MethodName) jdk_41_method_12_code 4 (Option.some FieldType.int) [] ({ frames := 0, cells := 0, slots := 0, locals := 0 } : Room) #[(.int 0), (.int z), (.int z), .null] h0 (Q_pcf Z z h0) [] := by
  refine Con.of (plainFor_of_name pn_jdk_internal_util_Preconditions) ?_
  intro p e s m below meth c T0 B W0
  refine Go.cast (ef_pcf m z ) ?_
  refine g_iload_n B W0 (d_jdk_41_method_12_0) rfl ?_
  refine g_if_n B W0 (d_jdk_41_method_12_1) (XT.i0_lt_f (by decide)) ?_
  show Go p.tables e below _ T0 (mkF m 4 #[.val (.int 0), .val (.int z), .val (.int z), .val .null] [])
  refine g_iload_n B W0 (d_jdk_41_method_12_4) rfl ?_
  refine g_iload_n B W0 (d_jdk_41_method_12_5) rfl ?_
  refine g_icmp_n B W0 (d_jdk_41_method_12_6) (XT.ii_gt_f hz) ?_
  show Go p.tables e below _ T0 (mkF m 9 #[.val (.int 0), .val (.int z), .val (.int z), .val .null] [])
  refine g_iload_n B W0 (d_jdk_41_method_12_9) rfl ?_
  refine g_iload_n B W0 (d_jdk_41_method_12_10) rfl ?_
  refine g_icmp_y B W0 (d_jdk_41_method_12_11) (XT.ii_le_t Int32.lt_irrefl) (pc' := 22) (by decide) ?_
  show Go p.tables e below _ T0 (mkF m 22 #[.val (.int 0), .val (.int z), .val (.int z), .val .null] [])
  refine g_iload_n B W0 (d_jdk_41_method_12_22) rfl ?_
  exact r_i B W0 (d_jdk_41_method_12_23) (by decide) (by decide) ⟨rfl, rfl⟩
theorem ef_ocf (m : MethodId) (z : Int32) : entryFrame m #[(.int 0), (.int z), (.int z)] 3 = mkF m 0 #[.val (.int 0), .val (.int z), .val (.int z)] [] := by first | (simp [entryFrame, mkF, argsToLocals, Value.category]; done) | rfl
def Q_ocf (Z : State) (z : Int32) (h0 : Heap) (v : Option Value) (h : Heap) : Prop := v = some (.int 0) ∧ h0 = h
set_option maxRecDepth 65536 in
set_option maxHeartbeats 40000000 in
theorem c_ocf (l : Launch) (Z : State) (a0 : Array Value) (hw : ∀ d ∈ tables_1, d.before a0 Z = true) (z : Int32) (h0 : Heap) (hz : ¬ z < 0) :
    Con l Z (⟨"java/util/Objects", "checkFromToIndex", "(III)I"⟩ : MethodName) jdk_31_method_18_code 3 (Option.some FieldType.int) [] ({ frames := 1, cells := 0, slots := 0, locals := 15 } : Room) #[(.int 0), (.int z), (.int z)] h0 (Q_ocf Z z h0) [] := by
  refine Con.of (plainFor_of_name pn_java_util_Objects) ?_
  intro p e s m below meth c T0 B W0
  refine Go.cast (ef_ocf m z ) ?_
  refine g_iload_n B W0 (d_jdk_31_method_18_0) rfl ?_
  refine g_iload_n B W0 (d_jdk_31_method_18_1) rfl ?_
  refine g_iload_n B W0 (d_jdk_31_method_18_2) rfl ?_
  refine g_aconst_null B W0 (d_jdk_31_method_18_3)  ?_
  obtain ⟨T101, h101, v101, W101, Q101, st101⟩ := x_static B W0 [(.int 0), (.int z), (.int z), .null] (c_pcf l Z a0 hw z h0 hz) (by simp) (d_jdk_31_method_18_4) (tw hw 209 rfl) (tw hw 210 rfl) (tw hw 211 rfl) (tw hw 212 rfl) (by decide) (lenOf pd__IIILjava_util_function_BiFunction__I rfl) #[.val (.int 0), .val (.int z), .val (.int z)] [] rfl 0 rfl (by decide) (by decide) (by decide) (by decide)
  obtain ⟨rfl, rfl⟩ := Q101
  refine st101 _ ?_
  exact r_i B W101 (d_jdk_31_method_18_7) (by decide) (by decide) ⟨rfl, rfl⟩
theorem ef_cpc (m : MethodId) (a1 : Addr) (t1 : Addr) (kb : ClassId) (z : Int32) (vs : List Value) (cz : Int32) : entryFrame m #[(.ref a1), (.int 0), (.int z)] 3 = mkF m 0 #[.val (.ref a1), .val (.int 0), .val (.int z)] [] := by first | (simp [entryFrame, mkF, argsToLocals, Value.category]; done) | rfl
def Q_cpc (Z : State) (a1 : Addr) (t1 : Addr) (kb : ClassId) (z : Int32) (vs : List Value) (cz : Int32) (h0 : Heap) (v : Option Value) (h : Heap) : Prop := v = some (.int z) ∧ h0 = h
set_option maxRecDepth 65536 in
set_option maxHeartbeats 40000000 in
theorem c_cpc (l : Launch) (Z : State) (a0 : Array Value) (hw : ∀ d ∈ tables_1, d.before a0 Z = true) (a1 : Addr) (t1 : Addr) (kb : ClassId) (z : Int32) (vs : List Value) (cz : Int32) (h0 : Heap) (F1 : Fld Z h0 a1 "java/lang/String" "value" "[B" (.ref t1)) (F2 : Fld Z h0 a1 "java/lang/String" "coder" "B" (.int 0)) (A1 : Arv Z h0 t1 kb .byte z vs (.int 0)) (E0 : Exa Z h0 a1 "java/lang/String") (Scs : Sta Z Z.heap "java/lang/String" "COMPACT_STRINGS" "Z" (.int cz)) (hcz : ¬ cz = 0) (hz : ¬ z < 0) :
    Con l Z (⟨"java/lang/String", "codePointCount", "(II)I"⟩ : MethodName) jdk_42_method_59_code 3 (Option.some FieldType.int) [] ({ frames := 2, cells := 0, slots := 0, locals := 29 } : Room) #[(.ref a1), (.int 0), (.int z)] h0 (Q_cpc Z a1 t1 kb z vs cz h0) [] := by
  refine Con.of (plainFor_of_name pn_java_lang_String) ?_
  intro p e s m below meth c T0 B W0
  refine Go.cast (ef_cpc m a1 t1 kb z vs cz ) ?_
  refine g_iload_n B W0 (d_jdk_42_method_59_0) rfl ?_
  refine g_iload_n B W0 (d_jdk_42_method_59_1) rfl ?_
  refine g_aload_n B W0 (d_jdk_42_method_59_2) rfl rfl ?_
  obtain ⟨T101, h101, v101, W101, Q101, st101⟩ := x_virtual B W0 (b := a1) [] (c_len l Z a0 hw a1 t1 kb z vs cz h0 F1 F2 A1 E0 Scs hcz) (by simp) E0 (d_jdk_42_method_59_3) (tw hw 205 rfl) (tw hw 196 rfl) (tw hw 198 rfl) (tw hw 197 rfl) (tw hw 6 rfl) (tw hw 199 rfl) (by decide) (lenOf pd___I rfl) #[.val (.ref a1), .val (.int 0), .val (.int z)] [(.int z), (.int 0)] rfl 2 rfl (by decide) (by decide) (by decide) (by decide)
  obtain ⟨rfl, rfl⟩ := Q101
  refine st101 _ ?_
  obtain ⟨T102, h102, v102, W102, Q102, st102⟩ := x_static B W101 [(.int 0), (.int z), (.int z)] (c_ocf l Z a0 hw z h0 hz) (by simp) (d_jdk_42_method_59_6) (tw hw 206 rfl) (tw hw 207 rfl) (tw hw 38 rfl) (tw hw 208 rfl) (by decide) (lenOf pd__III_I rfl) #[.val (.ref a1), .val (.int 0), .val (.int z)] [] rfl 0 rfl (by decide) (by decide) (by decide) (by decide)
  obtain ⟨rfl, rfl⟩ := Q102
  refine st102 _ ?_
  refine g_pop B W102 (d_jdk_42_method_59_9) rfl ?_
  refine g_aload_n B W102 (d_jdk_42_method_59_10) rfl rfl ?_
  obtain ⟨T103, h103, v103, W103, Q103, st103⟩ := x_virtual B W102 (b := a1) [] (c_isLat l Z a0 hw a1 cz h0 Scs hcz F2) (by simp) E0 (d_jdk_42_method_59_11) (tw hw 213 rfl) (tw hw 214 rfl) (tw hw 216 rfl) (tw hw 215 rfl) (tw hw 6 rfl) (tw hw 217 rfl) (by decide) (lenOf pd___Z rfl) #[.val (.ref a1), .val (.int 0), .val (.int z)] [] rfl 0 rfl (by decide) (by decide) (by decide) (by decide)
  obtain ⟨rfl, rfl⟩ := Q103
  refine st103 _ ?_
  refine g_if_n B W103 (d_jdk_42_method_59_14) (XT.i0_eq_f (by decide)) ?_
  show Go p.tables e below _ T103 (mkF m 17 #[.val (.ref a1), .val (.int 0), .val (.int z)] [])
  refine g_iload_n B W103 (d_jdk_42_method_59_17) rfl ?_
  refine g_iload_n B W103 (d_jdk_42_method_59_18) rfl ?_
  refine g_isub B W103 (d_jdk_42_method_59_19)  ?_
  exact r_i B W103 (d_jdk_42_method_59_20) (by decide) (by decide) ⟨by rw [Int32.sub_zero], rfl⟩
theorem ef_wMid (m : MethodId) (a1 : Addr) (s1 : Addr) (s2 : Addr) (s3 : Addr) (p4 : Value) (p5 : Value) (p6 : Value) (sx : Addr) (cz : Int32) (r4 : p4.isRef = true) (r5 : p5.isRef = true) (r6 : p6.isRef = true) : entryFrame m #[(.ref a1), (.ref sx)] 2 = mkF m 0 #[.val (.ref a1), .val (.ref sx)] [] := by
  (cases p4 <;> try cases r4)
  all_goals (cases p5 <;> try cases r5)
  all_goals (cases p6 <;> try cases r6)
  all_goals first | (simp [entryFrame, mkF, argsToLocals, Value.category]; done) | rfl
def Q_wMid (Z : State) (a1 : Addr) (s1 : Addr) (s2 : Addr) (s3 : Addr) (p4 : Value) (p5 : Value) (p6 : Value) (sx : Addr) (cz : Int32) (h0 : Heap) (v : Option Value) (h : Heap) : Prop := h0.size ≤ h.size ∧ ∃ b, v = some (.ref b) ∧ h0.size ≤ b ∧ Keep h0 h [] ∧ Exa Z h b "com/example/outbox_relay/outboxrelay/OutboxMessage" ∧ Fld Z h b "com/example/outbox_relay/outboxrelay/OutboxMessage" "exchange" "Ljava/lang/String;" (.ref s1) ∧ Fld Z h b "com/example/outbox_relay/outboxrelay/OutboxMessage" "routingKey" "Ljava/lang/String;" (.ref s2) ∧ Fld Z h b "com/example/outbox_relay/outboxrelay/OutboxMessage" "payload" "Ljava/lang/String;" (.ref s3) ∧ Fld Z h b "com/example/outbox_relay/outboxrelay/OutboxMessage" "messageId" "Ljava/lang/String;" (.ref sx) ∧ Fld Z h b "com/example/outbox_relay/outboxrelay/OutboxMessage" "businessModule" "Ljava/lang/String;" p5 ∧ Fld Z h b "com/example/outbox_relay/outboxrelay/OutboxMessage" "businessKey" "Ljava/lang/String;" p6
set_option maxRecDepth 65536 in
set_option maxHeartbeats 40000000 in
theorem c_wMid (l : Launch) (Z : State) (a0 : Array Value) (hw : ∀ d ∈ tables_1, d.before a0 Z = true) (a1 : Addr) (s1 : Addr) (s2 : Addr) (s3 : Addr) (p4 : Value) (p5 : Value) (p6 : Value) (sx : Addr) (cz : Int32) (h0 : Heap) (r4 : p4.isRef = true) (r5 : p5.isRef = true) (r6 : p6.isRef = true) (S1 : Str2 Z h0 sx) (Scs : Sta Z Z.heap "java/lang/String" "COMPACT_STRINGS" "Z" (.int cz)) (hcz : ¬ cz = 0) (F0 : Fld Z h0 a1 "com/example/outbox_relay/outboxrelay/OutboxMessage" "exchange" "Ljava/lang/String;" (.ref s1)) (F1 : Fld Z h0 a1 "com/example/outbox_relay/outboxrelay/OutboxMessage" "routingKey" "Ljava/lang/String;" (.ref s2)) (F2 : Fld Z h0 a1 "com/example/outbox_relay/outboxrelay/OutboxMessage" "payload" "Ljava/lang/String;" (.ref s3)) (F3 : Fld Z h0 a1 "com/example/outbox_relay/outboxrelay/OutboxMessage" "messageId" "Ljava/lang/String;" p4) (F4 : Fld Z h0 a1 "com/example/outbox_relay/outboxrelay/OutboxMessage" "businessModule" "Ljava/lang/String;" p5) (F5 : Fld Z h0 a1 "com/example/outbox_relay/outboxrelay/OutboxMessage" "businessKey" "Ljava/lang/String;" p6) :
    Con l Z (⟨"com/example/outbox_relay/outboxrelay/OutboxMessage", "withMessageId", "(Ljava/lang/String;)Lcom/example/outbox_relay/outboxrelay/OutboxMessage;"⟩ : MethodName) prog_1_method_3_code 2 (Option.some (FieldType.object "com/example/outbox_relay/outboxrelay/OutboxMessage")) [] ({ frames := 3, cells := 3, slots := 50, locals := 43 } : Room) #[(.ref a1), (.ref sx)] h0 (Q_wMid Z a1 s1 s2 s3 p4 p5 p6 sx cz h0) [] := by
  refine Con.of (plainFor_of_name pn_com_example_outbox_relay_outboxrelay_OutboxMessage) ?_
  intro p e s m below meth c T0 B W0
  refine Go.cast (ef_wMid m a1 s1 s2 s3 p4 p5 p6 sx cz r4 r5 r6) ?_
  obtain ⟨t1, kb1, z1, vs1, E0, Fc0, Fv0, A0, hz0, hz64⟩ := S1.len
  refine g_aload_n B W0 (d_prog_1_method_3_0) rfl rfl ?_
  obtain ⟨T101, h101, b101, W101, K101, st101⟩ := x_ldcS B W0 40 (d_prog_1_method_3_1) (tw hw 194 rfl) (own_wS hw) (own_EL hw) (by decide) (by decide) (by decide) (by decide) #[.val (.ref a1), .val (.ref sx)] [(.ref sx)]
  refine st101 _ ?_
  have s102 := K101.1
  obtain ⟨T103, h103, v103, W103, Q103, st103⟩ := x_static B W101 [(.ref sx), (.ref b101)] (c_reqNN l Z a0 hw sx b101 h101) (by simp) (d_prog_1_method_3_3) (tw hw 36 rfl) (tw hw 37 rfl) (tw hw 38 rfl) (tw hw 39 rfl) (by decide) (lenOf pd__Ljava_lang_Object_Ljava_lang_String__Ljava_lang_Object_ rfl) #[.val (.ref a1), .val (.ref sx)] [] rfl 0 rfl (by decide) (by decide) (by decide) (by decide)
  obtain ⟨rfl, rfl⟩ := Q103
  refine st103 _ ?_
  refine g_pop B W103 (d_prog_1_method_3_6) rfl ?_
  refine g_aload_n B W103 (d_prog_1_method_3_7) rfl rfl ?_
  refine g_iconst B W103 (d_prog_1_method_3_8) (v := 0) (by decide) ?_
  refine g_aload_n B W103 (d_prog_1_method_3_9) rfl rfl ?_
  have f104 := (Fv0.keep K101 nin0)
  have f105 := (Fc0.keep K101 nin0)
  have f106 := (A0.keep K101 nin0)
  have f107 := (E0.keep K101)
  obtain ⟨T108, h108, v108, W108, Q108, st108⟩ := x_virtual B W103 (b := sx) [] (c_len l Z a0 hw sx t1 kb1 z1 vs1 cz h101 f104 f105 f106 f107 Scs hcz) (by simp) f107 (d_prog_1_method_3_10) (tw hw 195 rfl) (tw hw 196 rfl) (tw hw 198 rfl) (tw hw 197 rfl) (tw hw 6 rfl) (tw hw 199 rfl) (by decide) (lenOf pd___I rfl) #[.val (.ref a1), .val (.ref sx)] [(.int 0), (.ref sx)] rfl 2 rfl (by decide) (by decide) (by decide) (by decide)
  obtain ⟨rfl, rfl⟩ := Q108
  refine st108 _ ?_
  obtain ⟨T109, h109, v109, W109, Q109, st109⟩ := x_virtual B W108 (b := sx) [(.int 0), (.int z1)] (c_cpc l Z a0 hw sx t1 kb1 z1 vs1 cz h101 f104 f105 f106 f107 Scs hcz hz0) (by simp) f107 (d_prog_1_method_3_13) (tw hw 200 rfl) (tw hw 201 rfl) (tw hw 203 rfl) (tw hw 202 rfl) (tw hw 6 rfl) (tw hw 204 rfl) (by decide) (lenOf pd__II_I rfl) #[.val (.ref a1), .val (.ref sx)] [] rfl 0 rfl (by decide) (by decide) (by decide) (by decide)
  obtain ⟨rfl, rfl⟩ := Q109
  refine st109 _ ?_
  refine g_bipush B W109 (d_prog_1_method_3_16) (v := 64) (by decide) ?_
  refine g_icmp_y B W109 (d_prog_1_method_3_18) (XT.ii_le_t hz64) (pc' := 31) (by decide) ?_
  show Go p.tables e below _ T109 (mkF m 31 #[.val (.ref a1), .val (.ref sx)] [])
  obtain ⟨T110, h110, b110, gb110, W110, K110, E110, D110, st110⟩ := x_new B W109 (d_prog_1_method_3_31) (tw hw 101 rfl) (tw hw 27 rfl) (tw hw 28 rfl) (by decide) (by decide) #[.val (.ref a1), .val (.ref sx)] []
  have l110 := nlt E110.lt
  have z110 := W109.size
  refine st110 _ ?_
  have s111 := K110.1
  have f112 : Fld Z h110 b110 "com/example/outbox_relay/outboxrelay/OutboxMessage" "exchange" "Ljava/lang/String;" .null := D110 (Or.inr (tw hw 85 rfl)) (ty := (.object "java/lang/String")) (by decide)
  have f113 : Fld Z h110 b110 "com/example/outbox_relay/outboxrelay/OutboxMessage" "routingKey" "Ljava/lang/String;" .null := D110 (Or.inr (tw hw 87 rfl)) (ty := (.object "java/lang/String")) (by decide)
  have f114 : Fld Z h110 b110 "com/example/outbox_relay/outboxrelay/OutboxMessage" "payload" "Ljava/lang/String;" .null := D110 (Or.inr (tw hw 89 rfl)) (ty := (.object "java/lang/String")) (by decide)
  have f115 : Fld Z h110 b110 "com/example/outbox_relay/outboxrelay/OutboxMessage" "messageId" "Ljava/lang/String;" .null := D110 (Or.inr (tw hw 91 rfl)) (ty := (.object "java/lang/String")) (by decide)
  have f116 : Fld Z h110 b110 "com/example/outbox_relay/outboxrelay/OutboxMessage" "businessModule" "Ljava/lang/String;" .null := D110 (Or.inr (tw hw 93 rfl)) (ty := (.object "java/lang/String")) (by decide)
  have f117 : Fld Z h110 b110 "com/example/outbox_relay/outboxrelay/OutboxMessage" "businessKey" "Ljava/lang/String;" .null := D110 (Or.inr (tw hw 95 rfl)) (ty := (.object "java/lang/String")) (by decide)
  refine g_dup B W110 (d_prog_1_method_3_34) rfl ?_
  refine g_aload_n B W110 (d_prog_1_method_3_35) rfl rfl ?_
  have f118 := ((F0.keep K101 nin0).keep K110 nin0)
  obtain ⟨T119, W119, st119⟩ := x_get B W110 (host := "") (d_prog_1_method_3_36) (Or.inl (tw hw 84 rfl)) Via.refl f118 #[.val (.ref a1), .val (.ref sx)] [(.ref b110), (.ref b110)]
  refine st119 _ ?_
  refine g_aload_n B W119 (d_prog_1_method_3_39) rfl rfl ?_
  have f120 := ((F1.keep K101 nin0).keep K110 nin0)
  obtain ⟨T121, W121, st121⟩ := x_get B W119 (host := "") (d_prog_1_method_3_40) (Or.inl (tw hw 86 rfl)) Via.refl f120 #[.val (.ref a1), .val (.ref sx)] [(.ref s1), (.ref b110), (.ref b110)]
  refine st121 _ ?_
  refine g_aload_n B W121 (d_prog_1_method_3_43) rfl rfl ?_
  have f122 := ((F2.keep K101 nin0).keep K110 nin0)
  obtain ⟨T123, W123, st123⟩ := x_get B W121 (host := "") (d_prog_1_method_3_44) (Or.inl (tw hw 88 rfl)) Via.refl f122 #[.val (.ref a1), .val (.ref sx)] [(.ref s2), (.ref s1), (.ref b110), (.ref b110)]
  refine st123 _ ?_
  refine g_aload_n B W123 (d_prog_1_method_3_47) rfl rfl ?_
  refine g_aload_n B W123 (d_prog_1_method_3_48) rfl rfl ?_
  have f124 := ((F4.keep K101 nin0).keep K110 nin0)
  obtain ⟨T125, W125, st125⟩ := x_get B W123 (host := "") (d_prog_1_method_3_49) (Or.inl (tw hw 92 rfl)) Via.refl f124 #[.val (.ref a1), .val (.ref sx)] [(.ref sx), (.ref s3), (.ref s2), (.ref s1), (.ref b110), (.ref b110)]
  refine st125 _ ?_
  refine g_aload_n B W125 (d_prog_1_method_3_52) rfl rfl ?_
  have f126 := ((F5.keep K101 nin0).keep K110 nin0)
  obtain ⟨T127, W127, st127⟩ := x_get B W125 (host := "") (d_prog_1_method_3_53) (Or.inl (tw hw 94 rfl)) Via.refl f126 #[.val (.ref a1), .val (.ref sx)] [p5, (.ref sx), (.ref s3), (.ref s2), (.ref s1), (.ref b110), (.ref b110)]
  refine st127 _ ?_
  obtain ⟨T128, h128, v128, W128, Q128, st128⟩ := x_special B W127 (b := b110) [(.ref s1), (.ref s2), (.ref s3), (.ref sx), p5, p6] (c_om6 l Z a0 hw b110 s1 s2 s3 (.ref sx) p5 p6 h110 rfl r5 r6 E110 f112 f113 f114 f115 f116 f117 (by omega)) (by simp) (d_prog_1_method_3_56) rfl (tw hw 80 rfl) (tw hw 81 rfl) (tw hw 28 rfl) (tw hw 82 rfl) (by decide) (lenOf pd__Ljava_lang_String_Ljava_lang_String_Ljava_lang_String_Ljava_lang_String_Ljava_lang_String_Ljava_lang_String__V rfl) #[.val (.ref a1), .val (.ref sx)] [(.ref b110)] rfl 1 rfl (by decide) (by decide) (by decide) (by decide)
  obtain ⟨rfl, K128, E128, F0_128, F1_128, F2_128, F3_128, F4_128, F5_128⟩ := Q128
  have s129 := K128.1
  refine st128 _ ?_
  exact r_a B W128 rfl rfl rfl (d_prog_1_method_3_59) (by decide) (by decide) ⟨by omega, _, rfl, by omega, ((((Keep.refl h0 []).trans K101 all0).trans K110 all0).trans K128 (allS (Or.inr (by omega)) all0)), E128, F0_128, F1_128, F2_128, F3_128, F4_128, F5_128⟩
theorem ef_wBM (m : MethodId) (a1 : Addr) (s1 : Addr) (s2 : Addr) (s3 : Addr) (p4 : Value) (p5 : Value) (p6 : Value) (px : Value) (r4 : p4.isRef = true) (r5 : p5.isRef = true) (r6 : p6.isRef = true) (rx : px.isRef = true) : entryFrame m #[(.ref a1), px] 2 = mkF m 0 #[.val (.ref a1), .val px] [] := by
  (cases p4 <;> try cases r4)
  all_goals (cases p5 <;> try cases r5)
  all_goals (cases p6 <;> try cases r6)
  all_goals (cases px <;> try cases rx)
  all_goals first | (simp [entryFrame, mkF, argsToLocals, Value.category]; done) | rfl
def Q_wBM (Z : State) (a1 : Addr) (s1 : Addr) (s2 : Addr) (s3 : Addr) (p4 : Value) (p5 : Value) (p6 : Value) (px : Value) (h0 : Heap) (v : Option Value) (h : Heap) : Prop := h0.size ≤ h.size ∧ ∃ b, v = some (.ref b) ∧ h0.size ≤ b ∧ Keep h0 h [] ∧ Exa Z h b "com/example/outbox_relay/outboxrelay/OutboxMessage" ∧ Fld Z h b "com/example/outbox_relay/outboxrelay/OutboxMessage" "exchange" "Ljava/lang/String;" (.ref s1) ∧ Fld Z h b "com/example/outbox_relay/outboxrelay/OutboxMessage" "routingKey" "Ljava/lang/String;" (.ref s2) ∧ Fld Z h b "com/example/outbox_relay/outboxrelay/OutboxMessage" "payload" "Ljava/lang/String;" (.ref s3) ∧ Fld Z h b "com/example/outbox_relay/outboxrelay/OutboxMessage" "messageId" "Ljava/lang/String;" p4 ∧ Fld Z h b "com/example/outbox_relay/outboxrelay/OutboxMessage" "businessModule" "Ljava/lang/String;" px ∧ Fld Z h b "com/example/outbox_relay/outboxrelay/OutboxMessage" "businessKey" "Ljava/lang/String;" p6
set_option maxRecDepth 65536 in
set_option maxHeartbeats 40000000 in
theorem c_wBM (l : Launch) (Z : State) (a0 : Array Value) (hw : ∀ d ∈ tables_1, d.before a0 Z = true) (a1 : Addr) (s1 : Addr) (s2 : Addr) (s3 : Addr) (p4 : Value) (p5 : Value) (p6 : Value) (px : Value) (h0 : Heap) (r4 : p4.isRef = true) (r5 : p5.isRef = true) (r6 : p6.isRef = true) (rx : px.isRef = true) (F0 : Fld Z h0 a1 "com/example/outbox_relay/outboxrelay/OutboxMessage" "exchange" "Ljava/lang/String;" (.ref s1)) (F1 : Fld Z h0 a1 "com/example/outbox_relay/outboxrelay/OutboxMessage" "routingKey" "Ljava/lang/String;" (.ref s2)) (F2 : Fld Z h0 a1 "com/example/outbox_relay/outboxrelay/OutboxMessage" "payload" "Ljava/lang/String;" (.ref s3)) (F3 : Fld Z h0 a1 "com/example/outbox_relay/outboxrelay/OutboxMessage" "messageId" "Ljava/lang/String;" p4) (F4 : Fld Z h0 a1 "com/example/outbox_relay/outboxrelay/OutboxMessage" "businessModule" "Ljava/lang/String;" p5) (F5 : Fld Z h0 a1 "com/example/outbox_relay/outboxrelay/OutboxMessage" "businessKey" "Ljava/lang/String;" p6) :
    Con l Z (⟨"com/example/outbox_relay/outboxrelay/OutboxMessage", "withBusinessModule", "(Ljava/lang/String;)Lcom/example/outbox_relay/outboxrelay/OutboxMessage;"⟩ : MethodName) prog_1_method_4_code 2 (Option.some (FieldType.object "com/example/outbox_relay/outboxrelay/OutboxMessage")) [] ({ frames := 2, cells := 1, slots := 6, locals := 31 } : Room) #[(.ref a1), px] h0 (Q_wBM Z a1 s1 s2 s3 p4 p5 p6 px h0) [] := by
  refine Con.of (plainFor_of_name pn_com_example_outbox_relay_outboxrelay_OutboxMessage) ?_
  intro p e s m below meth c T0 B W0
  refine Go.cast (ef_wBM m a1 s1 s2 s3 p4 p5 p6 px r4 r5 r6 rx) ?_
  obtain ⟨T101, h101, b101, gb101, W101, K101, E101, D101, st101⟩ := x_new B W0 (d_prog_1_method_4_0) (tw hw 101 rfl) (tw hw 27 rfl) (tw hw 28 rfl) (by decide) (by decide) #[.val (.ref a1), .val px] []
  have l101 := nlt E101.lt
  have z101 := W0.size
  refine st101 _ ?_
  have s102 := K101.1
  have f103 : Fld Z h101 b101 "com/example/outbox_relay/outboxrelay/OutboxMessage" "exchange" "Ljava/lang/String;" .null := D101 (Or.inr (tw hw 85 rfl)) (ty := (.object "java/lang/String")) (by decide)
  have f104 : Fld Z h101 b101 "com/example/outbox_relay/outboxrelay/OutboxMessage" "routingKey" "Ljava/lang/String;" .null := D101 (Or.inr (tw hw 87 rfl)) (ty := (.object "java/lang/String")) (by decide)
  have f105 : Fld Z h101 b101 "com/example/outbox_relay/outboxrelay/OutboxMessage" "payload" "Ljava/lang/String;" .null := D101 (Or.inr (tw hw 89 rfl)) (ty := (.object "java/lang/String")) (by decide)
  have f106 : Fld Z h101 b101 "com/example/outbox_relay/outboxrelay/OutboxMessage" "messageId" "Ljava/lang/String;" .null := D101 (Or.inr (tw hw 91 rfl)) (ty := (.object "java/lang/String")) (by decide)
  have f107 : Fld Z h101 b101 "com/example/outbox_relay/outboxrelay/OutboxMessage" "businessModule" "Ljava/lang/String;" .null := D101 (Or.inr (tw hw 93 rfl)) (ty := (.object "java/lang/String")) (by decide)
  have f108 : Fld Z h101 b101 "com/example/outbox_relay/outboxrelay/OutboxMessage" "businessKey" "Ljava/lang/String;" .null := D101 (Or.inr (tw hw 95 rfl)) (ty := (.object "java/lang/String")) (by decide)
  refine g_dup B W101 (d_prog_1_method_4_3) rfl ?_
  refine g_aload_n B W101 (d_prog_1_method_4_4) rfl rfl ?_
  have f109 := (F0.keep K101 nin0)
  obtain ⟨T110, W110, st110⟩ := x_get B W101 (host := "") (d_prog_1_method_4_5) (Or.inl (tw hw 84 rfl)) Via.refl f109 #[.val (.ref a1), .val px] [(.ref b101), (.ref b101)]
  refine st110 _ ?_
  refine g_aload_n B W110 (d_prog_1_method_4_8) rfl rfl ?_
  have f111 := (F1.keep K101 nin0)
  obtain ⟨T112, W112, st112⟩ := x_get B W110 (host := "") (d_prog_1_method_4_9) (Or.inl (tw hw 86 rfl)) Via.refl f111 #[.val (.ref a1), .val px] [(.ref s1), (.ref b101), (.ref b101)]
  refine st112 _ ?_
  refine g_aload_n B W112 (d_prog_1_method_4_12) rfl rfl ?_
  have f113 := (F2.keep K101 nin0)
  obtain ⟨T114, W114, st114⟩ := x_get B W112 (host := "") (d_prog_1_method_4_13) (Or.inl (tw hw 88 rfl)) Via.refl f113 #[.val (.ref a1), .val px] [(.ref s2), (.ref s1), (.ref b101), (.ref b101)]
  refine st114 _ ?_
  refine g_aload_n B W114 (d_prog_1_method_4_16) rfl rfl ?_
  have f115 := (F3.keep K101 nin0)
  obtain ⟨T116, W116, st116⟩ := x_get B W114 (host := "") (d_prog_1_method_4_17) (Or.inl (tw hw 90 rfl)) Via.refl f115 #[.val (.ref a1), .val px] [(.ref s3), (.ref s2), (.ref s1), (.ref b101), (.ref b101)]
  refine st116 _ ?_
  refine g_aload_n B W116 (d_prog_1_method_4_20) rfl rx ?_
  refine g_aload_n B W116 (d_prog_1_method_4_21) rfl rfl ?_
  have f117 := (F5.keep K101 nin0)
  obtain ⟨T118, W118, st118⟩ := x_get B W116 (host := "") (d_prog_1_method_4_22) (Or.inl (tw hw 94 rfl)) Via.refl f117 #[.val (.ref a1), .val px] [px, p4, (.ref s3), (.ref s2), (.ref s1), (.ref b101), (.ref b101)]
  refine st118 _ ?_
  obtain ⟨T119, h119, v119, W119, Q119, st119⟩ := x_special B W118 (b := b101) [(.ref s1), (.ref s2), (.ref s3), p4, px, p6] (c_om6 l Z a0 hw b101 s1 s2 s3 p4 px p6 h101 r4 rx r6 E101 f103 f104 f105 f106 f107 f108 (by omega)) (by simp) (d_prog_1_method_4_25) rfl (tw hw 80 rfl) (tw hw 81 rfl) (tw hw 28 rfl) (tw hw 82 rfl) (by decide) (lenOf pd__Ljava_lang_String_Ljava_lang_String_Ljava_lang_String_Ljava_lang_String_Ljava_lang_String_Ljava_lang_String__V rfl) #[.val (.ref a1), .val px] [(.ref b101)] rfl 1 rfl (by decide) (by decide) (by decide) (by decide)
  obtain ⟨rfl, K119, E119, F0_119, F1_119, F2_119, F3_119, F4_119, F5_119⟩ := Q119
  have s120 := K119.1
  refine st119 _ ?_
  exact r_a B W119 rfl rfl rfl (d_prog_1_method_4_28) (by decide) (by decide) ⟨by omega, _, rfl, by omega, (((Keep.refl h0 []).trans K101 all0).trans K119 (allS (Or.inr (by omega)) all0)), E119, F0_119, F1_119, F2_119, F3_119, F4_119, F5_119⟩
theorem ef_wBK (m : MethodId) (a1 : Addr) (s1 : Addr) (s2 : Addr) (s3 : Addr) (p4 : Value) (p5 : Value) (p6 : Value) (px : Value) (r4 : p4.isRef = true) (r5 : p5.isRef = true) (r6 : p6.isRef = true) (rx : px.isRef = true) : entryFrame m #[(.ref a1), px] 2 = mkF m 0 #[.val (.ref a1), .val px] [] := by
  (cases p4 <;> try cases r4)
  all_goals (cases p5 <;> try cases r5)
  all_goals (cases p6 <;> try cases r6)
  all_goals (cases px <;> try cases rx)
  all_goals first | (simp [entryFrame, mkF, argsToLocals, Value.category]; done) | rfl
def Q_wBK (Z : State) (a1 : Addr) (s1 : Addr) (s2 : Addr) (s3 : Addr) (p4 : Value) (p5 : Value) (p6 : Value) (px : Value) (h0 : Heap) (v : Option Value) (h : Heap) : Prop := h0.size ≤ h.size ∧ ∃ b, v = some (.ref b) ∧ h0.size ≤ b ∧ Keep h0 h [] ∧ Exa Z h b "com/example/outbox_relay/outboxrelay/OutboxMessage" ∧ Fld Z h b "com/example/outbox_relay/outboxrelay/OutboxMessage" "exchange" "Ljava/lang/String;" (.ref s1) ∧ Fld Z h b "com/example/outbox_relay/outboxrelay/OutboxMessage" "routingKey" "Ljava/lang/String;" (.ref s2) ∧ Fld Z h b "com/example/outbox_relay/outboxrelay/OutboxMessage" "payload" "Ljava/lang/String;" (.ref s3) ∧ Fld Z h b "com/example/outbox_relay/outboxrelay/OutboxMessage" "messageId" "Ljava/lang/String;" p4 ∧ Fld Z h b "com/example/outbox_relay/outboxrelay/OutboxMessage" "businessModule" "Ljava/lang/String;" p5 ∧ Fld Z h b "com/example/outbox_relay/outboxrelay/OutboxMessage" "businessKey" "Ljava/lang/String;" px
set_option maxRecDepth 65536 in
set_option maxHeartbeats 40000000 in
theorem c_wBK (l : Launch) (Z : State) (a0 : Array Value) (hw : ∀ d ∈ tables_1, d.before a0 Z = true) (a1 : Addr) (s1 : Addr) (s2 : Addr) (s3 : Addr) (p4 : Value) (p5 : Value) (p6 : Value) (px : Value) (h0 : Heap) (r4 : p4.isRef = true) (r5 : p5.isRef = true) (r6 : p6.isRef = true) (rx : px.isRef = true) (F0 : Fld Z h0 a1 "com/example/outbox_relay/outboxrelay/OutboxMessage" "exchange" "Ljava/lang/String;" (.ref s1)) (F1 : Fld Z h0 a1 "com/example/outbox_relay/outboxrelay/OutboxMessage" "routingKey" "Ljava/lang/String;" (.ref s2)) (F2 : Fld Z h0 a1 "com/example/outbox_relay/outboxrelay/OutboxMessage" "payload" "Ljava/lang/String;" (.ref s3)) (F3 : Fld Z h0 a1 "com/example/outbox_relay/outboxrelay/OutboxMessage" "messageId" "Ljava/lang/String;" p4) (F4 : Fld Z h0 a1 "com/example/outbox_relay/outboxrelay/OutboxMessage" "businessModule" "Ljava/lang/String;" p5) (F5 : Fld Z h0 a1 "com/example/outbox_relay/outboxrelay/OutboxMessage" "businessKey" "Ljava/lang/String;" p6) :
    Con l Z (⟨"com/example/outbox_relay/outboxrelay/OutboxMessage", "withBusinessKey", "(Ljava/lang/String;)Lcom/example/outbox_relay/outboxrelay/OutboxMessage;"⟩ : MethodName) prog_1_method_5_code 2 (Option.some (FieldType.object "com/example/outbox_relay/outboxrelay/OutboxMessage")) [] ({ frames := 2, cells := 1, slots := 6, locals := 31 } : Room) #[(.ref a1), px] h0 (Q_wBK Z a1 s1 s2 s3 p4 p5 p6 px h0) [] := by
  refine Con.of (plainFor_of_name pn_com_example_outbox_relay_outboxrelay_OutboxMessage) ?_
  intro p e s m below meth c T0 B W0
  refine Go.cast (ef_wBK m a1 s1 s2 s3 p4 p5 p6 px r4 r5 r6 rx) ?_
  obtain ⟨T101, h101, b101, gb101, W101, K101, E101, D101, st101⟩ := x_new B W0 (d_prog_1_method_5_0) (tw hw 101 rfl) (tw hw 27 rfl) (tw hw 28 rfl) (by decide) (by decide) #[.val (.ref a1), .val px] []
  have l101 := nlt E101.lt
  have z101 := W0.size
  refine st101 _ ?_
  have s102 := K101.1
  have f103 : Fld Z h101 b101 "com/example/outbox_relay/outboxrelay/OutboxMessage" "exchange" "Ljava/lang/String;" .null := D101 (Or.inr (tw hw 85 rfl)) (ty := (.object "java/lang/String")) (by decide)
  have f104 : Fld Z h101 b101 "com/example/outbox_relay/outboxrelay/OutboxMessage" "routingKey" "Ljava/lang/String;" .null := D101 (Or.inr (tw hw 87 rfl)) (ty := (.object "java/lang/String")) (by decide)
  have f105 : Fld Z h101 b101 "com/example/outbox_relay/outboxrelay/OutboxMessage" "payload" "Ljava/lang/String;" .null := D101 (Or.inr (tw hw 89 rfl)) (ty := (.object "java/lang/String")) (by decide)
  have f106 : Fld Z h101 b101 "com/example/outbox_relay/outboxrelay/OutboxMessage" "messageId" "Ljava/lang/String;" .null := D101 (Or.inr (tw hw 91 rfl)) (ty := (.object "java/lang/String")) (by decide)
  have f107 : Fld Z h101 b101 "com/example/outbox_relay/outboxrelay/OutboxMessage" "businessModule" "Ljava/lang/String;" .null := D101 (Or.inr (tw hw 93 rfl)) (ty := (.object "java/lang/String")) (by decide)
  have f108 : Fld Z h101 b101 "com/example/outbox_relay/outboxrelay/OutboxMessage" "businessKey" "Ljava/lang/String;" .null := D101 (Or.inr (tw hw 95 rfl)) (ty := (.object "java/lang/String")) (by decide)
  refine g_dup B W101 (d_prog_1_method_5_3) rfl ?_
  refine g_aload_n B W101 (d_prog_1_method_5_4) rfl rfl ?_
  have f109 := (F0.keep K101 nin0)
  obtain ⟨T110, W110, st110⟩ := x_get B W101 (host := "") (d_prog_1_method_5_5) (Or.inl (tw hw 84 rfl)) Via.refl f109 #[.val (.ref a1), .val px] [(.ref b101), (.ref b101)]
  refine st110 _ ?_
  refine g_aload_n B W110 (d_prog_1_method_5_8) rfl rfl ?_
  have f111 := (F1.keep K101 nin0)
  obtain ⟨T112, W112, st112⟩ := x_get B W110 (host := "") (d_prog_1_method_5_9) (Or.inl (tw hw 86 rfl)) Via.refl f111 #[.val (.ref a1), .val px] [(.ref s1), (.ref b101), (.ref b101)]
  refine st112 _ ?_
  refine g_aload_n B W112 (d_prog_1_method_5_12) rfl rfl ?_
  have f113 := (F2.keep K101 nin0)
  obtain ⟨T114, W114, st114⟩ := x_get B W112 (host := "") (d_prog_1_method_5_13) (Or.inl (tw hw 88 rfl)) Via.refl f113 #[.val (.ref a1), .val px] [(.ref s2), (.ref s1), (.ref b101), (.ref b101)]
  refine st114 _ ?_
  refine g_aload_n B W114 (d_prog_1_method_5_16) rfl rfl ?_
  have f115 := (F3.keep K101 nin0)
  obtain ⟨T116, W116, st116⟩ := x_get B W114 (host := "") (d_prog_1_method_5_17) (Or.inl (tw hw 90 rfl)) Via.refl f115 #[.val (.ref a1), .val px] [(.ref s3), (.ref s2), (.ref s1), (.ref b101), (.ref b101)]
  refine st116 _ ?_
  refine g_aload_n B W116 (d_prog_1_method_5_20) rfl rfl ?_
  have f117 := (F4.keep K101 nin0)
  obtain ⟨T118, W118, st118⟩ := x_get B W116 (host := "") (d_prog_1_method_5_21) (Or.inl (tw hw 92 rfl)) Via.refl f117 #[.val (.ref a1), .val px] [p4, (.ref s3), (.ref s2), (.ref s1), (.ref b101), (.ref b101)]
  refine st118 _ ?_
  refine g_aload_n B W118 (d_prog_1_method_5_24) rfl rx ?_
  obtain ⟨T119, h119, v119, W119, Q119, st119⟩ := x_special B W118 (b := b101) [(.ref s1), (.ref s2), (.ref s3), p4, p5, px] (c_om6 l Z a0 hw b101 s1 s2 s3 p4 p5 px h101 r4 r5 rx E101 f103 f104 f105 f106 f107 f108 (by omega)) (by simp) (d_prog_1_method_5_25) rfl (tw hw 80 rfl) (tw hw 81 rfl) (tw hw 28 rfl) (tw hw 82 rfl) (by decide) (lenOf pd__Ljava_lang_String_Ljava_lang_String_Ljava_lang_String_Ljava_lang_String_Ljava_lang_String_Ljava_lang_String__V rfl) #[.val (.ref a1), .val px] [(.ref b101)] rfl 1 rfl (by decide) (by decide) (by decide) (by decide)
  obtain ⟨rfl, K119, E119, F0_119, F1_119, F2_119, F3_119, F4_119, F5_119⟩ := Q119
  have s120 := K119.1
  refine st119 _ ?_
  exact r_a B W119 rfl rfl rfl (d_prog_1_method_5_28) (by decide) (by decide) ⟨by omega, _, rfl, by omega, (((Keep.refl h0 []).trans K101 all0).trans K119 (allS (Or.inr (by omega)) all0)), E119, F0_119, F1_119, F2_119, F3_119, F4_119, F5_119⟩
theorem ef_getExchange (m : MethodId) (a1 : Addr) (px : Value) (rx : px.isRef = true) : entryFrame m #[(.ref a1)] 1 = mkF m 0 #[.val (.ref a1)] [] := by
  (cases px <;> try cases rx)
  all_goals first | (simp [entryFrame, mkF, argsToLocals, Value.category]; done) | rfl
def Q_getExchange (Z : State) (a1 : Addr) (px : Value) (h0 : Heap) (v : Option Value) (h : Heap) : Prop := v = some px ∧ h0 = h
set_option maxRecDepth 65536 in
set_option maxHeartbeats 40000000 in
theorem c_getExchange (l : Launch) (Z : State) (a0 : Array Value) (hw : ∀ d ∈ tables_1, d.before a0 Z = true) (a1 : Addr) (px : Value) (h0 : Heap) (rx : px.isRef = true) (F1 : Fld Z h0 a1 "com/example/outbox_relay/outboxrelay/OutboxMessage" "exchange" "Ljava/lang/String;" px) :
    Con l Z (⟨"com/example/outbox_relay/outboxrelay/OutboxMessage", "getExchange", "()Ljava/lang/String;"⟩ : MethodName) prog_1_method_6_code 1 (Option.some (FieldType.object "java/lang/String")) [] ({ frames := 0, cells := 0, slots := 0, locals := 0 } : Room) #[(.ref a1)] h0 (Q_getExchange Z a1 px h0) [] := by
  refine Con.of (plainFor_of_name pn_com_example_outbox_relay_outboxrelay_OutboxMessage) ?_
  intro p e s m below meth c T0 B W0
  refine Go.cast (ef_getExchange m a1 px rx) ?_
  refine g_aload_n B W0 (d_prog_1_method_6_0) rfl rfl ?_
  obtain ⟨T101, W101, st101⟩ := x_get B W0 (host := "") (d_prog_1_method_6_1) (Or.inl (tw hw 84 rfl)) Via.refl F1 #[.val (.ref a1)] []
  refine st101 _ ?_
  exact r_a B W101 rfl rfl rx (d_prog_1_method_6_4) (by decide) (by decide) ⟨rfl, rfl⟩
theorem ef_getRoutingKey (m : MethodId) (a1 : Addr) (px : Value) (rx : px.isRef = true) : entryFrame m #[(.ref a1)] 1 = mkF m 0 #[.val (.ref a1)] [] := by
  (cases px <;> try cases rx)
  all_goals first | (simp [entryFrame, mkF, argsToLocals, Value.category]; done) | rfl
def Q_getRoutingKey (Z : State) (a1 : Addr) (px : Value) (h0 : Heap) (v : Option Value) (h : Heap) : Prop := v = some px ∧ h0 = h
set_option maxRecDepth 65536 in
set_option maxHeartbeats 40000000 in
theorem c_getRoutingKey (l : Launch) (Z : State) (a0 : Array Value) (hw : ∀ d ∈ tables_1, d.before a0 Z = true) (a1 : Addr) (px : Value) (h0 : Heap) (rx : px.isRef = true) (F1 : Fld Z h0 a1 "com/example/outbox_relay/outboxrelay/OutboxMessage" "routingKey" "Ljava/lang/String;" px) :
    Con l Z (⟨"com/example/outbox_relay/outboxrelay/OutboxMessage", "getRoutingKey", "()Ljava/lang/String;"⟩ : MethodName) prog_1_method_7_code 1 (Option.some (FieldType.object "java/lang/String")) [] ({ frames := 0, cells := 0, slots := 0, locals := 0 } : Room) #[(.ref a1)] h0 (Q_getRoutingKey Z a1 px h0) [] := by
  refine Con.of (plainFor_of_name pn_com_example_outbox_relay_outboxrelay_OutboxMessage) ?_
  intro p e s m below meth c T0 B W0
  refine Go.cast (ef_getRoutingKey m a1 px rx) ?_
  refine g_aload_n B W0 (d_prog_1_method_7_0) rfl rfl ?_
  obtain ⟨T101, W101, st101⟩ := x_get B W0 (host := "") (d_prog_1_method_7_1) (Or.inl (tw hw 86 rfl)) Via.refl F1 #[.val (.ref a1)] []
  refine st101 _ ?_
  exact r_a B W101 rfl rfl rx (d_prog_1_method_7_4) (by decide) (by decide) ⟨rfl, rfl⟩
theorem ef_getPayload (m : MethodId) (a1 : Addr) (px : Value) (rx : px.isRef = true) : entryFrame m #[(.ref a1)] 1 = mkF m 0 #[.val (.ref a1)] [] := by
  (cases px <;> try cases rx)
  all_goals first | (simp [entryFrame, mkF, argsToLocals, Value.category]; done) | rfl
def Q_getPayload (Z : State) (a1 : Addr) (px : Value) (h0 : Heap) (v : Option Value) (h : Heap) : Prop := v = some px ∧ h0 = h
set_option maxRecDepth 65536 in
set_option maxHeartbeats 40000000 in
theorem c_getPayload (l : Launch) (Z : State) (a0 : Array Value) (hw : ∀ d ∈ tables_1, d.before a0 Z = true) (a1 : Addr) (px : Value) (h0 : Heap) (rx : px.isRef = true) (F1 : Fld Z h0 a1 "com/example/outbox_relay/outboxrelay/OutboxMessage" "payload" "Ljava/lang/String;" px) :
    Con l Z (⟨"com/example/outbox_relay/outboxrelay/OutboxMessage", "getPayload", "()Ljava/lang/String;"⟩ : MethodName) prog_1_method_8_code 1 (Option.some (FieldType.object "java/lang/String")) [] ({ frames := 0, cells := 0, slots := 0, locals := 0 } : Room) #[(.ref a1)] h0 (Q_getPayload Z a1 px h0) [] := by
  refine Con.of (plainFor_of_name pn_com_example_outbox_relay_outboxrelay_OutboxMessage) ?_
  intro p e s m below meth c T0 B W0
  refine Go.cast (ef_getPayload m a1 px rx) ?_
  refine g_aload_n B W0 (d_prog_1_method_8_0) rfl rfl ?_
  obtain ⟨T101, W101, st101⟩ := x_get B W0 (host := "") (d_prog_1_method_8_1) (Or.inl (tw hw 88 rfl)) Via.refl F1 #[.val (.ref a1)] []
  refine st101 _ ?_
  exact r_a B W101 rfl rfl rx (d_prog_1_method_8_4) (by decide) (by decide) ⟨rfl, rfl⟩
theorem ef_getMessageId (m : MethodId) (a1 : Addr) (px : Value) (rx : px.isRef = true) : entryFrame m #[(.ref a1)] 1 = mkF m 0 #[.val (.ref a1)] [] := by
  (cases px <;> try cases rx)
  all_goals first | (simp [entryFrame, mkF, argsToLocals, Value.category]; done) | rfl
def Q_getMessageId (Z : State) (a1 : Addr) (px : Value) (h0 : Heap) (v : Option Value) (h : Heap) : Prop := v = some px ∧ h0 = h
set_option maxRecDepth 65536 in
set_option maxHeartbeats 40000000 in
theorem c_getMessageId (l : Launch) (Z : State) (a0 : Array Value) (hw : ∀ d ∈ tables_1, d.before a0 Z = true) (a1 : Addr) (px : Value) (h0 : Heap) (rx : px.isRef = true) (F1 : Fld Z h0 a1 "com/example/outbox_relay/outboxrelay/OutboxMessage" "messageId" "Ljava/lang/String;" px) :
    Con l Z (⟨"com/example/outbox_relay/outboxrelay/OutboxMessage", "getMessageId", "()Ljava/lang/String;"⟩ : MethodName) prog_1_method_9_code 1 (Option.some (FieldType.object "java/lang/String")) [] ({ frames := 0, cells := 0, slots := 0, locals := 0 } : Room) #[(.ref a1)] h0 (Q_getMessageId Z a1 px h0) [] := by
  refine Con.of (plainFor_of_name pn_com_example_outbox_relay_outboxrelay_OutboxMessage) ?_
  intro p e s m below meth c T0 B W0
  refine Go.cast (ef_getMessageId m a1 px rx) ?_
  refine g_aload_n B W0 (d_prog_1_method_9_0) rfl rfl ?_
  obtain ⟨T101, W101, st101⟩ := x_get B W0 (host := "") (d_prog_1_method_9_1) (Or.inl (tw hw 90 rfl)) Via.refl F1 #[.val (.ref a1)] []
  refine st101 _ ?_
  exact r_a B W101 rfl rfl rx (d_prog_1_method_9_4) (by decide) (by decide) ⟨rfl, rfl⟩
theorem ef_getBusinessModule (m : MethodId) (a1 : Addr) (px : Value) (rx : px.isRef = true) : entryFrame m #[(.ref a1)] 1 = mkF m 0 #[.val (.ref a1)] [] := by
  (cases px <;> try cases rx)
  all_goals first | (simp [entryFrame, mkF, argsToLocals, Value.category]; done) | rfl
def Q_getBusinessModule (Z : State) (a1 : Addr) (px : Value) (h0 : Heap) (v : Option Value) (h : Heap) : Prop := v = some px ∧ h0 = h
set_option maxRecDepth 65536 in
set_option maxHeartbeats 40000000 in
theorem c_getBusinessModule (l : Launch) (Z : State) (a0 : Array Value) (hw : ∀ d ∈ tables_1, d.before a0 Z = true) (a1 : Addr) (px : Value) (h0 : Heap) (rx : px.isRef = true) (F1 : Fld Z h0 a1 "com/example/outbox_relay/outboxrelay/OutboxMessage" "businessModule" "Ljava/lang/String;" px) :
    Con l Z (⟨"com/example/outbox_relay/outboxrelay/OutboxMessage", "getBusinessModule", "()Ljava/lang/String;"⟩ : MethodName) prog_1_method_10_code 1 (Option.some (FieldType.object "java/lang/String")) [] ({ frames := 0, cells := 0, slots := 0, locals := 0 } : Room) #[(.ref a1)] h0 (Q_getBusinessModule Z a1 px h0) [] := by
  refine Con.of (plainFor_of_name pn_com_example_outbox_relay_outboxrelay_OutboxMessage) ?_
  intro p e s m below meth c T0 B W0
  refine Go.cast (ef_getBusinessModule m a1 px rx) ?_
  refine g_aload_n B W0 (d_prog_1_method_10_0) rfl rfl ?_
  obtain ⟨T101, W101, st101⟩ := x_get B W0 (host := "") (d_prog_1_method_10_1) (Or.inl (tw hw 92 rfl)) Via.refl F1 #[.val (.ref a1)] []
  refine st101 _ ?_
  exact r_a B W101 rfl rfl rx (d_prog_1_method_10_4) (by decide) (by decide) ⟨rfl, rfl⟩
theorem ef_getBusinessKey (m : MethodId) (a1 : Addr) (px : Value) (rx : px.isRef = true) : entryFrame m #[(.ref a1)] 1 = mkF m 0 #[.val (.ref a1)] [] := by
  (cases px <;> try cases rx)
  all_goals first | (simp [entryFrame, mkF, argsToLocals, Value.category]; done) | rfl
def Q_getBusinessKey (Z : State) (a1 : Addr) (px : Value) (h0 : Heap) (v : Option Value) (h : Heap) : Prop := v = some px ∧ h0 = h
set_option maxRecDepth 65536 in
set_option maxHeartbeats 40000000 in
theorem c_getBusinessKey (l : Launch) (Z : State) (a0 : Array Value) (hw : ∀ d ∈ tables_1, d.before a0 Z = true) (a1 : Addr) (px : Value) (h0 : Heap) (rx : px.isRef = true) (F1 : Fld Z h0 a1 "com/example/outbox_relay/outboxrelay/OutboxMessage" "businessKey" "Ljava/lang/String;" px) :
    Con l Z (⟨"com/example/outbox_relay/outboxrelay/OutboxMessage", "getBusinessKey", "()Ljava/lang/String;"⟩ : MethodName) prog_1_method_11_code 1 (Option.some (FieldType.object "java/lang/String")) [] ({ frames := 0, cells := 0, slots := 0, locals := 0 } : Room) #[(.ref a1)] h0 (Q_getBusinessKey Z a1 px h0) [] := by
  refine Con.of (plainFor_of_name pn_com_example_outbox_relay_outboxrelay_OutboxMessage) ?_
  intro p e s m below meth c T0 B W0
  refine Go.cast (ef_getBusinessKey m a1 px rx) ?_
  refine g_aload_n B W0 (d_prog_1_method_11_0) rfl rfl ?_
  obtain ⟨T101, W101, st101⟩ := x_get B W0 (host := "") (d_prog_1_method_11_1) (Or.inl (tw hw 94 rfl)) Via.refl F1 #[.val (.ref a1)] []
  refine st101 _ ?_
  exact r_a B W101 rfl rfl rx (d_prog_1_method_11_4) (by decide) (by decide) ⟨rfl, rfl⟩
theorem ef_eqS (m : MethodId) (a1 : Addr) : entryFrame m #[(.ref a1), (.ref a1)] 3 = mkF m 0 #[.val (.ref a1), .val (.ref a1), .unset] [] := by first | (simp [entryFrame, mkF, argsToLocals, Value.category]; done) | rfl
def Q_eqS (Z : State) (a1 : Addr) (h0 : Heap) (v : Option Value) (h : Heap) : Prop := v = some (.int 1) ∧ h0 = h
set_option maxRecDepth 65536 in
set_option maxHeartbeats 40000000 in
theorem c_eqS (l : Launch) (Z : State) (a0 : Array Value) (hw : ∀ d ∈ tables_1, d.before a0 Z = true) (a1 : Addr) (h0 : Heap) :
    Con l Z (⟨"java/lang/String", "equals", "(Ljava/lang/Object;)Z"⟩ : MethodName) jdk_42_method_66_code 3 (Option.some FieldType.boolean) [] ({ frames := 0, cells := 0, slots := 0, locals := 0 } : Room) #[(.ref a1), (.ref a1)] h0 (Q_eqS Z a1 h0) [] := by
  refine Con.of (plainFor_of_name pn_java_lang_String) ?_
  intro p e s m below meth c T0 B W0
  refine Go.cast (ef_eqS m a1 ) ?_
  refine g_aload_n B W0 (d_jdk_42_method_66_0) rfl rfl ?_
  refine g_aload_n B W0 (d_jdk_42_method_66_1) rfl rfl ?_
  refine g_acmp_n B W0 (d_jdk_42_method_66_2) rfl rfl (XT.aa_ne_f rfl) ?_
  show Go p.tables e below _ T0 (mkF m 5 #[.val (.ref a1), .val (.ref a1), .unset] [])
  refine g_iconst B W0 (d_jdk_42_method_66_5) (v := 1) (by decide) ?_
  exact r_n B W0 (t := .boolean) rfl (by simp) (d_jdk_42_method_66_6) (by decide) (by decide) ⟨by rw [nar_b1], rfl⟩
theorem ef_sameN (m : MethodId)  : entryFrame m #[.null, .null] 2 = mkF m 0 #[.val .null, .val .null] [] := by first | (simp [entryFrame, mkF, argsToLocals, Value.category]; done) | rfl
def Q_sameN (Z : State)  (h0 : Heap) (v : Option Value) (h : Heap) : Prop := v = some (.int 1) ∧ h0 = h
set_option maxRecDepth 65536 in
set_option maxHeartbeats 40000000 in
theorem c_sameN (l : Launch) (Z : State) (a0 : Array Value) (hw : ∀ d ∈ tables_1, d.before a0 Z = true)  (h0 : Heap) :
    Con l Z (⟨"com/example/outbox_relay/outboxrelay/OutboxMessageWithBusinessKeyPinLaw", "same", "(Ljava/lang/String;Ljava/lang/String;)Z"⟩ : MethodName) method_3_code 2 (Option.some FieldType.boolean) [] ({ frames := 1, cells := 0, slots := 0, locals := 14 } : Room) #[.null, .null] h0 (Q_sameN Z  h0) [] := by
  refine Con.of (plainFor_of_name pn_com_example_outbox_relay_outboxrelay_OutboxMessageWithBusinessKeyPinLaw) ?_
  intro p e s m below meth c T0 B W0
  refine Go.cast (ef_sameN m  ) ?_
  refine g_aload_n B W0 (d_method_3_0) rfl rfl ?_
  refine g_ifnonnull_n B W0 (d_method_3_1)  ?_
  show Go p.tables e below _ T0 (mkF m 4 #[.val .null, .val .null] [])
  refine g_aload_n B W0 (d_method_3_4) rfl rfl ?_
  refine g_ifnonnull_n B W0 (d_method_3_5)  ?_
  show Go p.tables e below _ T0 (mkF m 8 #[.val .null, .val .null] [])
  refine g_iconst B W0 (d_method_3_8) (v := 1) (by decide) ?_
  refine g_goto B W0 (d_method_3_9) (pc' := 13) (by decide) ?_
  show Go p.tables e below _ T0 (mkF m 13 #[.val .null, .val .null] [(.int 1)])
  exact r_n B W0 (t := .boolean) rfl (by simp) (d_method_3_13) (by decide) (by decide) ⟨by rw [nar_b1], rfl⟩
theorem ef_sameR (m : MethodId) (a1 : Addr) : entryFrame m #[(.ref a1), (.ref a1)] 2 = mkF m 0 #[.val (.ref a1), .val (.ref a1)] [] := by first | (simp [entryFrame, mkF, argsToLocals, Value.category]; done) | rfl
def Q_sameR (Z : State) (a1 : Addr) (h0 : Heap) (v : Option Value) (h : Heap) : Prop := v = some (.int 1) ∧ h0 = h
set_option maxRecDepth 65536 in
set_option maxHeartbeats 40000000 in
theorem c_sameR (l : Launch) (Z : State) (a0 : Array Value) (hw : ∀ d ∈ tables_1, d.before a0 Z = true) (a1 : Addr) (h0 : Heap) (E1 : Exa Z h0 a1 "java/lang/String") :
    Con l Z (⟨"com/example/outbox_relay/outboxrelay/OutboxMessageWithBusinessKeyPinLaw", "same", "(Ljava/lang/String;Ljava/lang/String;)Z"⟩ : MethodName) method_3_code 2 (Option.some FieldType.boolean) [] ({ frames := 1, cells := 0, slots := 0, locals := 14 } : Room) #[(.ref a1), (.ref a1)] h0 (Q_sameR Z a1 h0) [] := by
  refine Con.of (plainFor_of_name pn_com_example_outbox_relay_outboxrelay_OutboxMessageWithBusinessKeyPinLaw) ?_
  intro p e s m below meth c T0 B W0
  refine Go.cast (ef_sameR m a1 ) ?_
  refine g_aload_n B W0 (d_method_3_0) rfl rfl ?_
  refine g_ifnonnull_y B W0 (d_method_3_1) (pc' := 14) (by decide) ?_
  show Go p.tables e below _ T0 (mkF m 14 #[.val (.ref a1), .val (.ref a1)] [])
  refine g_aload_n B W0 (d_method_3_14) rfl rfl ?_
  refine g_ifnonnull_y B W0 (d_method_3_15) (pc' := 20) (by decide) ?_
  show Go p.tables e below _ T0 (mkF m 20 #[.val (.ref a1), .val (.ref a1)] [])
  refine g_aload_n B W0 (d_method_3_20) rfl rfl ?_
  refine g_aload_n B W0 (d_method_3_21) rfl rfl ?_
  obtain ⟨T101, h101, v101, W101, Q101, st101⟩ := x_virtual B W0 (b := a1) [(.ref a1)] (c_eqS l Z a0 hw a1 h0) (by simp) E1 (d_method_3_22) (tw hw 120 rfl) (tw hw 121 rfl) (tw hw 123 rfl) (tw hw 122 rfl) (tw hw 6 rfl) (tw hw 124 rfl) (by decide) (lenOf pd__Ljava_lang_Object__Z rfl) #[.val (.ref a1), .val (.ref a1)] [] rfl 0 rfl (by decide) (by decide) (by decide) (by decide)
  obtain ⟨rfl, rfl⟩ := Q101
  refine st101 _ ?_
  exact r_n B W101 (t := .boolean) rfl (by simp) (d_method_3_25) (by decide) (by decide) ⟨by rw [nar_b1], rfl⟩
theorem c_same (l : Launch) (Z : State) (a0 : Array Value) (hw : ∀ d ∈ tables_1, d.before a0 Z = true) (x : Value) (h0 : Heap) (hx : N2 Z h0 x) : Con l Z (⟨"com/example/outbox_relay/outboxrelay/OutboxMessageWithBusinessKeyPinLaw", "same", "(Ljava/lang/String;Ljava/lang/String;)Z"⟩ : MethodName) method_3_code 2 (Option.some FieldType.boolean) [] ({ frames := 1, cells := 0, slots := 0, locals := 14 } : Room) #[x, x] h0 (Q_sameN Z h0) [] := by
  rcases hx with rfl | ⟨b, rfl, S⟩
  · exact c_sameN l Z a0 hw h0
  · exact c_sameR l Z a0 hw b h0 S.exa
theorem ef_law (m : MethodId) (p1 : Int32) (p2 : Int32) (p3 : Int32) (p4 : Int32) (p5 : Int32) (p6 : Int32) (cz : Int32) (u8 : Addr) : entryFrame m #[(.int p1), (.int p2), (.int p3), (.int p4), (.int p5), (.int p6)] maxLocals = mkF m 0 #[.val (.int p1), .val (.int p2), .val (.int p3), .val (.int p4), .val (.int p5), .val (.int p6), .unset, .unset, .unset, .unset, .unset, .unset, .unset, .unset, .unset] [] := by first | (simp [entryFrame, mkF, argsToLocals, Value.category, maxLocals]; done) | rfl
def Q_law (Z : State) (p1 : Int32) (p2 : Int32) (p3 : Int32) (p4 : Int32) (p5 : Int32) (p6 : Int32) (cz : Int32) (u8 : Addr) (h0 : Heap) (v : Option Value) (h : Heap) : Prop := v = some (.int 1)
set_option maxRecDepth 65536 in
set_option maxHeartbeats 40000000 in
theorem c_law (l : Launch) (Z : State) (a0 : Array Value) (hw : ∀ d ∈ tables_1, d.before a0 Z = true) (ws : List Jvm.Cond) (p1 : Int32) (p2 : Int32) (p3 : Int32) (p4 : Int32) (p5 : Int32) (p6 : Int32) (cz : Int32) (u8 : Addr) (h0 : Heap) (Scs : Sta Z Z.heap "java/lang/String" "COMPACT_STRINGS" "Z" (.int cz)) (hcz : ¬ cz = 0) (Su8 : Sta Z Z.heap "java/nio/charset/StandardCharsets" "UTF_8" "Ljava/nio/charset/Charset;" (.ref u8)) (Sin : Sta Z Z.heap "sun/nio/cs/UTF_8" "INSTANCE" "Lsun/nio/cs/UTF_8;" (.ref u8)) :
    Con l Z x code maxLocals ret ws room_1 #[(.int p1), (.int p2), (.int p3), (.int p4), (.int p5), (.int p6)] h0 (Q_law Z p1 p2 p3 p4 p5 p6 cz u8 h0) [] := by
  refine Con.of (plainFor_of_name pn_com_example_outbox_relay_outboxrelay_OutboxMessageWithBusinessKeyPinLaw) ?_
  intro p e s m below meth c T0 B W0
  refine Go.cast (ef_law m p1 p2 p3 p4 p5 p6 cz u8 ) ?_
  refine g_iload_n B W0 at_0 rfl ?_
  obtain ⟨T101, h101, v101, W101, Q101, st101⟩ := x_static B W0 [(.int p1)] (c_mk l Z a0 hw p1 cz h0 Scs hcz) (by simp) at_1 (tw hw 0 rfl) (tw hw 1 rfl) (tw hw 2 rfl) (tw hw 3 rfl) (by decide) (lenOf pd__I_Ljava_lang_String_ rfl) #[.val (.int p1), .val (.int p2), .val (.int p3), .val (.int p4), .val (.int p5), .val (.int p6), .unset, .unset, .unset, .unset, .unset, .unset, .unset, .unset, .unset] [] rfl 0 rfl (by decide) (by decide) (by decide) (by decide)
  obtain ⟨b101, rfl, K101, S101⟩ := Q101
  have s102 := K101.1
  refine st101 _ ?_
  refine g_astore B W101 at_4 rfl (l' := #[.val (.int p1), .val (.int p2), .val (.int p3), .val (.int p4), .val (.int p5), .val (.int p6), .val (.ref b101), .unset, .unset, .unset, .unset, .unset, .unset, .unset, .unset]) rfl ?_
  refine g_iload_n B W101 at_6 rfl ?_
  obtain ⟨T103, h103, v103, W103, Q103, st103⟩ := x_static B W101 [(.int p2)] (c_mk l Z a0 hw p2 cz h101 Scs hcz) (by simp) at_7 (tw hw 0 rfl) (tw hw 1 rfl) (tw hw 2 rfl) (tw hw 3 rfl) (by decide) (lenOf pd__I_Ljava_lang_String_ rfl) #[.val (.int p1), .val (.int p2), .val (.int p3), .val (.int p4), .val (.int p5), .val (.int p6), .val (.ref b101), .unset, .unset, .unset, .unset, .unset, .unset, .unset, .unset] [] rfl 0 rfl (by decide) (by decide) (by decide) (by decide)
  obtain ⟨b103, rfl, K103, S103⟩ := Q103
  have s104 := K103.1
  refine st103 _ ?_
  refine g_astore B W103 at_10 rfl (l' := #[.val (.int p1), .val (.int p2), .val (.int p3), .val (.int p4), .val (.int p5), .val (.int p6), .val (.ref b101), .val (.ref b103), .unset, .unset, .unset, .unset, .unset, .unset, .unset]) rfl ?_
  refine g_iload_n B W103 at_12 rfl ?_
  obtain ⟨T105, h105, v105, W105, Q105, st105⟩ := x_static B W103 [(.int p3)] (c_mk l Z a0 hw p3 cz h103 Scs hcz) (by simp) at_13 (tw hw 0 rfl) (tw hw 1 rfl) (tw hw 2 rfl) (tw hw 3 rfl) (by decide) (lenOf pd__I_Ljava_lang_String_ rfl) #[.val (.int p1), .val (.int p2), .val (.int p3), .val (.int p4), .val (.int p5), .val (.int p6), .val (.ref b101), .val (.ref b103), .unset, .unset, .unset, .unset, .unset, .unset, .unset] [] rfl 0 rfl (by decide) (by decide) (by decide) (by decide)
  obtain ⟨b105, rfl, K105, S105⟩ := Q105
  have s106 := K105.1
  refine st105 _ ?_
  refine g_astore B W105 at_16 rfl (l' := #[.val (.int p1), .val (.int p2), .val (.int p3), .val (.int p4), .val (.int p5), .val (.int p6), .val (.ref b101), .val (.ref b103), .val (.ref b105), .unset, .unset, .unset, .unset, .unset, .unset]) rfl ?_
  refine g_iload_n B W105 at_18 rfl ?_
  refine g_bipush B W105 at_19 (v := 31) (by decide) ?_
  refine g_iushr B W105 at_21  ?_
  suffices qj107 : ∀ (T' : State) (h' : Heap) (v : Value), Wk p l e room_1 s m #[(.int p1), (.int p2), (.int p3), (.int p4), (.int p5), (.int p6)] below meth c Z T' h' 24 48 [] → Keep h105 h' [] → v.isRef = true → (N2 Z h' v) → Go p.tables e below (Jvm.OwnK.Out Z s (Q_law Z p1 p2 p3 p4 p5 p6 cz u8 h0) room_1.cells room_1.slots) T' (mkF m 33 #[.val (.int p1), .val (.int p2), .val (.int p3), .val (.int p4), .val (.int p5), .val (.int p6), .val (.ref b101), .val (.ref b103), .val (.ref b105), .unset, .unset, .unset, .unset, .unset, .unset] (v :: [])) by
    by_cases hc108 : (XT.ushr p4 31) = 0
    · skip
      refine g_if_y B W105 at_22 (XT.i0_eq_t hc108) (pc' := 32) (by decide) ?_
      show Go p.tables e below _ T105 (mkF m 32 #[.val (.int p1), .val (.int p2), .val (.int p3), .val (.int p4), .val (.int p5), .val (.int p6), .val (.ref b101), .val (.ref b103), .val (.ref b105), .unset, .unset, .unset, .unset, .unset, .unset] [])
      refine g_aconst_null B W105 at_32  ?_
      exact qj107 _ _ _ (Wk.sub (Wk.more W105 (by decide) (by decide)) (by simp)) (Keep.refl h105 []) rfl (Or.inl rfl)
    · skip
      refine g_if_n B W105 at_22 (XT.i0_eq_f hc108) ?_
      show Go p.tables e below _ T105 (mkF m 25 #[.val (.int p1), .val (.int p2), .val (.int p3), .val (.int p4), .val (.int p5), .val (.int p6), .val (.ref b101), .val (.ref b103), .val (.ref b105), .unset, .unset, .unset, .unset, .unset, .unset] [])
      refine g_iload_n B W105 at_25 rfl ?_
      obtain ⟨T109, h109, v109, W109, Q109, st109⟩ := x_static B W105 [(.int p4)] (c_mk l Z a0 hw p4 cz h105 Scs hcz) (by simp) at_26 (tw hw 0 rfl) (tw hw 1 rfl) (tw hw 2 rfl) (tw hw 3 rfl) (by decide) (lenOf pd__I_Ljava_lang_String_ rfl) #[.val (.int p1), .val (.int p2), .val (.int p3), .val (.int p4), .val (.int p5), .val (.int p6), .val (.ref b101), .val (.ref b103), .val (.ref b105), .unset, .unset, .unset, .unset, .unset, .unset] [] rfl 0 rfl (by decide) (by decide) (by decide) (by decide)
      obtain ⟨b109, rfl, K109, S109⟩ := Q109
      have s110 := K109.1
      refine st109 _ ?_
      refine g_goto B W109 at_29 (pc' := 33) (by decide) ?_
      show Go p.tables e below _ T109 (mkF m 33 #[.val (.int p1), .val (.int p2), .val (.int p3), .val (.int p4), .val (.int p5), .val (.int p6), .val (.ref b101), .val (.ref b103), .val (.ref b105), .unset, .unset, .unset, .unset, .unset, .unset] [(.ref b109)])
      exact qj107 _ _ _ (Wk.sub (Wk.more W109 (by decide) (by decide)) (by simp)) ((Keep.refl h105 []).trans K109 all0) rfl (Or.inr ⟨_, rfl, S109⟩)
  intro T107 h107 v107 W107 K107 r107 p107
  have s111 := K107.1
  show Go p.tables e below _ T107 (mkF m 33 #[.val (.int p1), .val (.int p2), .val (.int p3), .val (.int p4), .val (.int p5), .val (.int p6), .val (.ref b101), .val (.ref b103), .val (.ref b105), .unset, .unset, .unset, .unset, .unset, .unset] [v107])
  refine g_astore B W107 at_33 r107 (l' := #[.val (.int p1), .val (.int p2), .val (.int p3), .val (.int p4), .val (.int p5), .val (.int p6), .val (.ref b101), .val (.ref b103), .val (.ref b105), .val v107, .unset, .unset, .unset, .unset, .unset]) (by first | rfl | (refine XS.store1 rfl ?_ ?_ <;> first | exact Or.inl rfl | exact (XT.cat1 r107) | exact XT.slot1 rfl | exact Or.inr ⟨_, rfl, rfl⟩ | rfl)) ?_
  refine g_iload B W107 at_35 rfl ?_
  refine g_bipush B W107 at_37 (v := 31) (by decide) ?_
  refine g_iushr B W107 at_39  ?_
  suffices qj112 : ∀ (T' : State) (h' : Heap) (v : Value), Wk p l e room_1 s m #[(.int p1), (.int p2), (.int p3), (.int p4), (.int p5), (.int p6)] below meth c Z T' h' 30 60 [] → Keep h107 h' [] → v.isRef = true → (N2 Z h' v) → Go p.tables e below (Jvm.OwnK.Out Z s (Q_law Z p1 p2 p3 p4 p5 p6 cz u8 h0) room_1.cells room_1.slots) T' (mkF m 52 #[.val (.int p1), .val (.int p2), .val (.int p3), .val (.int p4), .val (.int p5), .val (.int p6), .val (.ref b101), .val (.ref b103), .val (.ref b105), .val v107, .unset, .unset, .unset, .unset, .unset] (v :: [])) by
    by_cases hc113 : (XT.ushr p5 31) = 0
    · skip
      refine g_if_y B W107 at_40 (XT.i0_eq_t hc113) (pc' := 51) (by decide) ?_
      show Go p.tables e below _ T107 (mkF m 51 #[.val (.int p1), .val (.int p2), .val (.int p3), .val (.int p4), .val (.int p5), .val (.int p6), .val (.ref b101), .val (.ref b103), .val (.ref b105), .val v107, .unset, .unset, .unset, .unset, .unset] [])
      refine g_aconst_null B W107 at_51  ?_
      exact qj112 _ _ _ (Wk.sub (Wk.more W107 (by decide) (by decide)) (by simp)) (Keep.refl h107 []) rfl (Or.inl rfl)
    · skip
      refine g_if_n B W107 at_40 (XT.i0_eq_f hc113) ?_
      show Go p.tables e below _ T107 (mkF m 43 #[.val (.int p1), .val (.int p2), .val (.int p3), .val (.int p4), .val (.int p5), .val (.int p6), .val (.ref b101), .val (.ref b103), .val (.ref b105), .val v107, .unset, .unset, .unset, .unset, .unset] [])
      refine g_iload B W107 at_43 rfl ?_
      obtain ⟨T114, h114, v114, W114, Q114, st114⟩ := x_static B W107 [(.int p5)] (c_mk l Z a0 hw p5 cz h107 Scs hcz) (by simp) at_45 (tw hw 0 rfl) (tw hw 1 rfl) (tw hw 2 rfl) (tw hw 3 rfl) (by decide) (lenOf pd__I_Ljava_lang_String_ rfl) #[.val (.int p1), .val (.int p2), .val (.int p3), .val (.int p4), .val (.int p5), .val (.int p6), .val (.ref b101), .val (.ref b103), .val (.ref b105), .val v107, .unset, .unset, .unset, .unset, .unset] [] rfl 0 rfl (by decide) (by decide) (by decide) (by decide)
      obtain ⟨b114, rfl, K114, S114⟩ := Q114
      have s115 := K114.1
      refine st114 _ ?_
      refine g_goto B W114 at_48 (pc' := 52) (by decide) ?_
      show Go p.tables e below _ T114 (mkF m 52 #[.val (.int p1), .val (.int p2), .val (.int p3), .val (.int p4), .val (.int p5), .val (.int p6), .val (.ref b101), .val (.ref b103), .val (.ref b105), .val v107, .unset, .unset, .unset, .unset, .unset] [(.ref b114)])
      exact qj112 _ _ _ (Wk.sub (Wk.more W114 (by decide) (by decide)) (by simp)) ((Keep.refl h107 []).trans K114 all0) rfl (Or.inr ⟨_, rfl, S114⟩)
  intro T112 h112 v112 W112 K112 r112 p112
  have s116 := K112.1
  show Go p.tables e below _ T112 (mkF m 52 #[.val (.int p1), .val (.int p2), .val (.int p3), .val (.int p4), .val (.int p5), .val (.int p6), .val (.ref b101), .val (.ref b103), .val (.ref b105), .val v107, .unset, .unset, .unset, .unset, .unset] [v112])
  refine g_astore B W112 at_52 r112 (l' := #[.val (.int p1), .val (.int p2), .val (.int p3), .val (.int p4), .val (.int p5), .val (.int p6), .val (.ref b101), .val (.ref b103), .val (.ref b105), .val v107, .val v112, .unset, .unset, .unset, .unset]) (by first | rfl | (refine XS.store1 rfl ?_ ?_ <;> first | exact Or.inl rfl | exact (XT.cat1 r112) | exact XT.slot1 rfl | exact Or.inr ⟨_, rfl, rfl⟩ | rfl)) ?_
  refine g_iload_n B W112 at_54 rfl ?_
  refine g_bipush B W112 at_55 (v := 31) (by decide) ?_
  refine g_iushr B W112 at_57  ?_
  suffices qj117 : ∀ (T' : State) (h' : Heap) (v : Value), Wk p l e room_1 s m #[(.int p1), (.int p2), (.int p3), (.int p4), (.int p5), (.int p6)] below meth c Z T' h' 36 72 [] → Keep h112 h' [] → v.isRef = true → (N2 Z h' v) → Go p.tables e below (Jvm.OwnK.Out Z s (Q_law Z p1 p2 p3 p4 p5 p6 cz u8 h0) room_1.cells room_1.slots) T' (mkF m 72 #[.val (.int p1), .val (.int p2), .val (.int p3), .val (.int p4), .val (.int p5), .val (.int p6), .val (.ref b101), .val (.ref b103), .val (.ref b105), .val v107, .val v112, .unset, .unset, .unset, .unset] (v :: [])) by
    by_cases hc118 : (XT.ushr p1 31) = 0
    · skip
      refine g_if_y B W112 at_58 (XT.i0_eq_t hc118) (pc' := 71) (by decide) ?_
      show Go p.tables e below _ T112 (mkF m 71 #[.val (.int p1), .val (.int p2), .val (.int p3), .val (.int p4), .val (.int p5), .val (.int p6), .val (.ref b101), .val (.ref b103), .val (.ref b105), .val v107, .val v112, .unset, .unset, .unset, .unset] [])
      refine g_aconst_null B W112 at_71  ?_
      exact qj117 _ _ _ (Wk.sub (Wk.more W112 (by decide) (by decide)) (by simp)) (Keep.refl h112 []) rfl (Or.inl rfl)
    · skip
      refine g_if_n B W112 at_58 (XT.i0_eq_f hc118) ?_
      show Go p.tables e below _ T112 (mkF m 61 #[.val (.int p1), .val (.int p2), .val (.int p3), .val (.int p4), .val (.int p5), .val (.int p6), .val (.ref b101), .val (.ref b103), .val (.ref b105), .val v107, .val v112, .unset, .unset, .unset, .unset] [])
      refine g_iload_n B W112 at_61 rfl ?_
      refine g_ldcI B W112 at_62 (tw hw 169 rfl) ?_
      refine g_ixor B W112 at_64  ?_
      obtain ⟨T119, h119, v119, W119, Q119, st119⟩ := x_static B W112 [(.int (p2 ^^^ 88666))] (c_mk l Z a0 hw (p2 ^^^ 88666) cz h112 Scs hcz) (by simp) at_65 (tw hw 0 rfl) (tw hw 1 rfl) (tw hw 2 rfl) (tw hw 3 rfl) (by decide) (lenOf pd__I_Ljava_lang_String_ rfl) #[.val (.int p1), .val (.int p2), .val (.int p3), .val (.int p4), .val (.int p5), .val (.int p6), .val (.ref b101), .val (.ref b103), .val (.ref b105), .val v107, .val v112, .unset, .unset, .unset, .unset] [] rfl 0 rfl (by decide) (by decide) (by decide) (by decide)
      obtain ⟨b119, rfl, K119, S119⟩ := Q119
      have s120 := K119.1
      refine st119 _ ?_
      refine g_goto B W119 at_68 (pc' := 72) (by decide) ?_
      show Go p.tables e below _ T119 (mkF m 72 #[.val (.int p1), .val (.int p2), .val (.int p3), .val (.int p4), .val (.int p5), .val (.int p6), .val (.ref b101), .val (.ref b103), .val (.ref b105), .val v107, .val v112, .unset, .unset, .unset, .unset] [(.ref b119)])
      exact qj117 _ _ _ (Wk.sub (Wk.more W119 (by decide) (by decide)) (by simp)) ((Keep.refl h112 []).trans K119 all0) rfl (Or.inr ⟨_, rfl, S119⟩)
  intro T117 h117 v117 W117 K117 r117 p117
  have s121 := K117.1
  show Go p.tables e below _ T117 (mkF m 72 #[.val (.int p1), .val (.int p2), .val (.int p3), .val (.int p4), .val (.int p5), .val (.int p6), .val (.ref b101), .val (.ref b103), .val (.ref b105), .val v107, .val v112, .unset, .unset, .unset, .unset] [v117])
  refine g_astore B W117 at_72 r117 (l' := #[.val (.int p1), .val (.int p2), .val (.int p3), .val (.int p4), .val (.int p5), .val (.int p6), .val (.ref b101), .val (.ref b103), .val (.ref b105), .val v107, .val v112, .val v117, .unset, .unset, .unset]) (by first | rfl | (refine XS.store1 rfl ?_ ?_ <;> first | exact Or.inl rfl | exact (XT.cat1 r117) | exact XT.slot1 rfl | exact Or.inr ⟨_, rfl, rfl⟩ | rfl)) ?_
  refine g_iload B W117 at_74 rfl ?_
  refine g_bipush B W117 at_76 (v := 31) (by decide) ?_
  refine g_iushr B W117 at_78  ?_
  suffices qj122 : ∀ (T' : State) (h' : Heap) (v : Value), Wk p l e room_1 s m #[(.int p1), (.int p2), (.int p3), (.int p4), (.int p5), (.int p6)] below meth c Z T' h' 42 84 [] → Keep h117 h' [] → v.isRef = true → (N2 Z h' v) → Go p.tables e below (Jvm.OwnK.Out Z s (Q_law Z p1 p2 p3 p4 p5 p6 cz u8 h0) room_1.cells room_1.slots) T' (mkF m 91 #[.val (.int p1), .val (.int p2), .val (.int p3), .val (.int p4), .val (.int p5), .val (.int p6), .val (.ref b101), .val (.ref b103), .val (.ref b105), .val v107, .val v112, .val v117, .unset, .unset, .unset] (v :: [])) by
    by_cases hc123 : (XT.ushr p6 31) = 0
    · skip
      refine g_if_y B W117 at_79 (XT.i0_eq_t hc123) (pc' := 90) (by decide) ?_
      show Go p.tables e below _ T117 (mkF m 90 #[.val (.int p1), .val (.int p2), .val (.int p3), .val (.int p4), .val (.int p5), .val (.int p6), .val (.ref b101), .val (.ref b103), .val (.ref b105), .val v107, .val v112, .val v117, .unset, .unset, .unset] [])
      refine g_aconst_null B W117 at_90  ?_
      exact qj122 _ _ _ (Wk.sub (Wk.more W117 (by decide) (by decide)) (by simp)) (Keep.refl h117 []) rfl (Or.inl rfl)
    · skip
      refine g_if_n B W117 at_79 (XT.i0_eq_f hc123) ?_
      show Go p.tables e below _ T117 (mkF m 82 #[.val (.int p1), .val (.int p2), .val (.int p3), .val (.int p4), .val (.int p5), .val (.int p6), .val (.ref b101), .val (.ref b103), .val (.ref b105), .val v107, .val v112, .val v117, .unset, .unset, .unset] [])
      refine g_iload B W117 at_82 rfl ?_
      obtain ⟨T124, h124, v124, W124, Q124, st124⟩ := x_static B W117 [(.int p6)] (c_mk l Z a0 hw p6 cz h117 Scs hcz) (by simp) at_84 (tw hw 0 rfl) (tw hw 1 rfl) (tw hw 2 rfl) (tw hw 3 rfl) (by decide) (lenOf pd__I_Ljava_lang_String_ rfl) #[.val (.int p1), .val (.int p2), .val (.int p3), .val (.int p4), .val (.int p5), .val (.int p6), .val (.ref b101), .val (.ref b103), .val (.ref b105), .val v107, .val v112, .val v117, .unset, .unset, .unset] [] rfl 0 rfl (by decide) (by decide) (by decide) (by decide)
      obtain ⟨b124, rfl, K124, S124⟩ := Q124
      have s125 := K124.1
      refine st124 _ ?_
      refine g_goto B W124 at_87 (pc' := 91) (by decide) ?_
      show Go p.tables e below _ T124 (mkF m 91 #[.val (.int p1), .val (.int p2), .val (.int p3), .val (.int p4), .val (.int p5), .val (.int p6), .val (.ref b101), .val (.ref b103), .val (.ref b105), .val v107, .val v112, .val v117, .unset, .unset, .unset] [(.ref b124)])
      exact qj122 _ _ _ (Wk.sub (Wk.more W124 (by decide) (by decide)) (by simp)) ((Keep.refl h117 []).trans K124 all0) rfl (Or.inr ⟨_, rfl, S124⟩)
  intro T122 h122 v122 W122 K122 r122 p122
  have s126 := K122.1
  show Go p.tables e below _ T122 (mkF m 91 #[.val (.int p1), .val (.int p2), .val (.int p3), .val (.int p4), .val (.int p5), .val (.int p6), .val (.ref b101), .val (.ref b103), .val (.ref b105), .val v107, .val v112, .val v117, .unset, .unset, .unset] [v122])
  refine g_astore B W122 at_91 r122 (l' := #[.val (.int p1), .val (.int p2), .val (.int p3), .val (.int p4), .val (.int p5), .val (.int p6), .val (.ref b101), .val (.ref b103), .val (.ref b105), .val v107, .val v112, .val v117, .val v122, .unset, .unset]) (by first | rfl | (refine XS.store1 rfl ?_ ?_ <;> first | exact Or.inl rfl | exact (XT.cat1 r122) | exact XT.slot1 rfl | exact Or.inr ⟨_, rfl, rfl⟩ | rfl)) ?_
  obtain ⟨T127, h127, b127, gb127, W127, K127, E127, D127, st127⟩ := x_new B W122 at_93 (tw hw 26 rfl) (tw hw 27 rfl) (tw hw 28 rfl) (by decide) (by decide) #[.val (.int p1), .val (.int p2), .val (.int p3), .val (.int p4), .val (.int p5), .val (.int p6), .val (.ref b101), .val (.ref b103), .val (.ref b105), .val v107, .val v112, .val v117, .val v122, .unset, .unset] []
  have l127 := nlt E127.lt
  have z127 := W122.size
  refine st127 _ ?_
  have s128 := K127.1
  have f129 : Fld Z h127 b127 "com/example/outbox_relay/outboxrelay/OutboxMessage" "exchange" "Ljava/lang/String;" .null := D127 (Or.inr (tw hw 85 rfl)) (ty := (.object "java/lang/String")) (by decide)
  have f130 : Fld Z h127 b127 "com/example/outbox_relay/outboxrelay/OutboxMessage" "routingKey" "Ljava/lang/String;" .null := D127 (Or.inr (tw hw 87 rfl)) (ty := (.object "java/lang/String")) (by decide)
  have f131 : Fld Z h127 b127 "com/example/outbox_relay/outboxrelay/OutboxMessage" "payload" "Ljava/lang/String;" .null := D127 (Or.inr (tw hw 89 rfl)) (ty := (.object "java/lang/String")) (by decide)
  have f132 : Fld Z h127 b127 "com/example/outbox_relay/outboxrelay/OutboxMessage" "messageId" "Ljava/lang/String;" .null := D127 (Or.inr (tw hw 91 rfl)) (ty := (.object "java/lang/String")) (by decide)
  have f133 : Fld Z h127 b127 "com/example/outbox_relay/outboxrelay/OutboxMessage" "businessModule" "Ljava/lang/String;" .null := D127 (Or.inr (tw hw 93 rfl)) (ty := (.object "java/lang/String")) (by decide)
  have f134 : Fld Z h127 b127 "com/example/outbox_relay/outboxrelay/OutboxMessage" "businessKey" "Ljava/lang/String;" .null := D127 (Or.inr (tw hw 95 rfl)) (ty := (.object "java/lang/String")) (by decide)
  refine g_dup B W127 at_96 rfl ?_
  refine g_aload B W127 at_97 rfl rfl ?_
  refine g_aload B W127 at_99 rfl rfl ?_
  refine g_aload B W127 at_101 rfl rfl ?_
  have f135 := S101.keep ((((((((Keep.refl h101 []).trans K103 all0).trans K105 all0).trans K107 all0).trans K112 all0).trans K117 all0).trans K122 all0).trans K127 all0)
  have f136 := S103.keep (((((((Keep.refl h103 []).trans K105 all0).trans K107 all0).trans K112 all0).trans K117 all0).trans K122 all0).trans K127 all0)
  have f137 := S105.keep ((((((Keep.refl h105 []).trans K107 all0).trans K112 all0).trans K117 all0).trans K122 all0).trans K127 all0)
  obtain ⟨T138, h138, v138, W138, Q138, st138⟩ := x_special B W127 (b := b127) [(.ref b101), (.ref b103), (.ref b105)] (c_om3 l Z a0 hw b127 b101 b103 b105 u8 cz h127 E127 f129 f130 f131 f132 f133 f134 (by omega) f135 f136 f137 Su8 Sin Scs hcz) (by simp) at_103 rfl (tw hw 29 rfl) (tw hw 30 rfl) (tw hw 28 rfl) (tw hw 31 rfl) (by decide) (lenOf pd__Ljava_lang_String_Ljava_lang_String_Ljava_lang_String__V rfl) #[.val (.int p1), .val (.int p2), .val (.int p3), .val (.int p4), .val (.int p5), .val (.int p6), .val (.ref b101), .val (.ref b103), .val (.ref b105), .val v107, .val v112, .val v117, .val v122, .unset, .unset] [(.ref b127)] rfl 1 rfl (by decide) (by decide) (by decide) (by decide)
  obtain ⟨rfl, K138, E138, F0_138, F1_138, F2_138, F3_138, F4_138, F5_138⟩ := Q138
  have s139 := K138.1
  refine st138 _ ?_
  refine g_astore B W138 at_106 rfl (l' := #[.val (.int p1), .val (.int p2), .val (.int p3), .val (.int p4), .val (.int p5), .val (.int p6), .val (.ref b101), .val (.ref b103), .val (.ref b105), .val v107, .val v112, .val v117, .val v122, .val (.ref b127), .unset]) rfl ?_
  refine g_aload B W138 at_108 rfl r107 ?_
  rcases p107 with rfl | ⟨b140, rfl, S140⟩
  · skip
    show Go p.tables e below _ T138 (mkF m 110 #[.val (.int p1), .val (.int p2), .val (.int p3), .val (.int p4), .val (.int p5), .val (.int p6), .val (.ref b101), .val (.ref b103), .val (.ref b105), .val .null, .val v112, .val v117, .val v122, .val (.ref b127), .unset] [.null])
    refine g_ifnull_y B W138 at_110 (pc' := 122) (by decide) ?_
    show Go p.tables e below _ T138 (mkF m 122 #[.val (.int p1), .val (.int p2), .val (.int p3), .val (.int p4), .val (.int p5), .val (.int p6), .val (.ref b101), .val (.ref b103), .val (.ref b105), .val .null, .val v112, .val v117, .val v122, .val (.ref b127), .unset] [])
    refine g_aload B W138 at_122 rfl rfl ?_
    refine g_aload B W138 at_124 rfl r112 ?_
    obtain ⟨T141, h141, v141, W141, Q141, st141⟩ := x_virtual B W138 (b := b127) [v112] (c_wBM l Z a0 hw b127 b101 b103 b105 .null .null .null v112 h138 rfl rfl rfl r112 F0_138 F1_138 F2_138 F3_138 F4_138 F5_138) (by simp) E138 at_126 (tw hw 96 rfl) (tw hw 97 rfl) (tw hw 99 rfl) (tw hw 98 rfl) (tw hw 28 rfl) (tw hw 100 rfl) (by decide) (lenOf pd__Ljava_lang_String__Lcom_example_outbox_relay_outboxrelay_OutboxMessage_ rfl) #[.val (.int p1), .val (.int p2), .val (.int p3), .val (.int p4), .val (.int p5), .val (.int p6), .val (.ref b101), .val (.ref b103), .val (.ref b105), .val .null, .val v112, .val v117, .val v122, .val (.ref b127), .unset] [] rfl 0 rfl (by decide) (by decide) (by decide) (by decide)
    obtain ⟨-, b141, rfl, g141, K141, E141, F0_141, F1_141, F2_141, F3_141, F4_141, F5_141⟩ := Q141
    have s142 := K141.1
    refine st141 _ ?_
    have l141 := nlt E141.lt
    refine g_astore B W141 at_129 rfl (l' := #[.val (.int p1), .val (.int p2), .val (.int p3), .val (.int p4), .val (.int p5), .val (.int p6), .val (.ref b101), .val (.ref b103), .val (.ref b105), .val .null, .val v112, .val v117, .val v122, .val (.ref b141), .unset]) rfl ?_
    refine g_aload B W141 at_131 rfl rfl ?_
    refine g_aload B W141 at_133 rfl r117 ?_
    obtain ⟨T143, h143, v143, W143, Q143, st143⟩ := x_virtual B W141 (b := b141) [v117] (c_wBK l Z a0 hw b141 b101 b103 b105 .null v112 .null v117 h141 rfl r112 rfl r117 F0_141 F1_141 F2_141 F3_141 F4_141 F5_141) (by simp) E141 at_135 (tw hw 102 rfl) (tw hw 103 rfl) (tw hw 105 rfl) (tw hw 104 rfl) (tw hw 28 rfl) (tw hw 106 rfl) (by decide) (lenOf pd__Ljava_lang_String__Lcom_example_outbox_relay_outboxrelay_OutboxMessage_ rfl) #[.val (.int p1), .val (.int p2), .val (.int p3), .val (.int p4), .val (.int p5), .val (.int p6), .val (.ref b101), .val (.ref b103), .val (.ref b105), .val .null, .val v112, .val v117, .val v122, .val (.ref b141), .unset] [] rfl 0 rfl (by decide) (by decide) (by decide) (by decide)
    obtain ⟨-, b143, rfl, g143, K143, E143, F0_143, F1_143, F2_143, F3_143, F4_143, F5_143⟩ := Q143
    have s144 := K143.1
    refine st143 _ ?_
    have l143 := nlt E143.lt
    refine g_astore B W143 at_138 rfl (l' := #[.val (.int p1), .val (.int p2), .val (.int p3), .val (.int p4), .val (.int p5), .val (.int p6), .val (.ref b101), .val (.ref b103), .val (.ref b105), .val .null, .val v112, .val v117, .val v122, .val (.ref b143), .unset]) rfl ?_
    refine g_aload B W143 at_140 rfl rfl ?_
    refine g_aload B W143 at_142 rfl r122 ?_
    obtain ⟨T145, h145, v145, W145, Q145, st145⟩ := x_virtual B W143 (b := b143) [v122] (c_wBK l Z a0 hw b143 b101 b103 b105 .null v112 v117 v122 h143 rfl r112 r117 r122 F0_143 F1_143 F2_143 F3_143 F4_143 F5_143) (by simp) E143 at_144 (tw hw 102 rfl) (tw hw 103 rfl) (tw hw 105 rfl) (tw hw 104 rfl) (tw hw 28 rfl) (tw hw 106 rfl) (by decide) (lenOf pd__Ljava_lang_String__Lcom_example_outbox_relay_outboxrelay_OutboxMessage_ rfl) #[.val (.int p1), .val (.int p2), .val (.int p3), .val (.int p4), .val (.int p5), .val (.int p6), .val (.ref b101), .val (.ref b103), .val (.ref b105), .val .null, .val v112, .val v117, .val v122, .val (.ref b143), .unset] [] rfl 0 rfl (by decide) (by decide) (by decide) (by decide)
    obtain ⟨-, b145, rfl, g145, K145, E145, F0_145, F1_145, F2_145, F3_145, F4_145, F5_145⟩ := Q145
    have s146 := K145.1
    refine st145 _ ?_
    have l145 := nlt E145.lt
    refine g_astore B W145 at_147 rfl (l' := #[.val (.int p1), .val (.int p2), .val (.int p3), .val (.int p4), .val (.int p5), .val (.int p6), .val (.ref b101), .val (.ref b103), .val (.ref b105), .val .null, .val v112, .val v117, .val v122, .val (.ref b143), .val (.ref b145)]) rfl ?_
    refine g_aload B W145 at_149 rfl rfl ?_
    refine g_aload B W145 at_151 rfl rfl ?_
    refine g_acmp_n B W145 at_153 rfl rfl (XT.aa_eq_f (fun q => by have q2 := Value.ref.inj q; revert q2; exact nne (by omega))) ?_
    show Go p.tables e below _ T145 (mkF m 156 #[.val (.int p1), .val (.int p2), .val (.int p3), .val (.int p4), .val (.int p5), .val (.int p6), .val (.ref b101), .val (.ref b103), .val (.ref b105), .val .null, .val v112, .val v117, .val v122, .val (.ref b143), .val (.ref b145)] [])
    refine g_aload B W145 at_156 rfl rfl ?_
    obtain ⟨T147, h147, v147, W147, Q147, st147⟩ := x_virtual B W145 (b := b145) [] (c_getBusinessKey l Z a0 hw b145 v122 h145 r122 F5_145) (by simp) E145 at_158 (tw hw 107 rfl) (tw hw 108 rfl) (tw hw 110 rfl) (tw hw 109 rfl) (tw hw 28 rfl) (tw hw 111 rfl) (by decide) (lenOf pd___Ljava_lang_String_ rfl) #[.val (.int p1), .val (.int p2), .val (.int p3), .val (.int p4), .val (.int p5), .val (.int p6), .val (.ref b101), .val (.ref b103), .val (.ref b105), .val .null, .val v112, .val v117, .val v122, .val (.ref b143), .val (.ref b145)] [] rfl 0 rfl (by decide) (by decide) (by decide) (by decide)
    obtain ⟨rfl, rfl⟩ := Q147
    refine st147 _ ?_
    refine g_aload B W147 at_161 rfl r122 ?_
    have f148 := p122.keep ((((((Keep.refl h122 []).trans K127 all0).trans K138 (allS (Or.inr (by omega)) all0)).trans K141 all0).trans K143 all0).trans K145 all0)
    obtain ⟨T149, h149, v149, W149, Q149, st149⟩ := x_static B W147 [v122, v122] (c_same l Z a0 hw v122 h145 f148) (by simp) at_163 (tw hw 112 rfl) (tw hw 113 rfl) (tw hw 2 rfl) (tw hw 114 rfl) (by decide) (lenOf pd__Ljava_lang_String_Ljava_lang_String__Z rfl) #[.val (.int p1), .val (.int p2), .val (.int p3), .val (.int p4), .val (.int p5), .val (.int p6), .val (.ref b101), .val (.ref b103), .val (.ref b105), .val .null, .val v112, .val v117, .val v122, .val (.ref b143), .val (.ref b145)] [] rfl 0 rfl (by decide) (by decide) (by decide) (by decide)
    obtain ⟨rfl, rfl⟩ := Q149
    refine st149 _ ?_
    refine g_if_n B W149 at_166 (XT.i0_eq_f (by decide)) ?_
    show Go p.tables e below _ T149 (mkF m 169 #[.val (.int p1), .val (.int p2), .val (.int p3), .val (.int p4), .val (.int p5), .val (.int p6), .val (.ref b101), .val (.ref b103), .val (.ref b105), .val .null, .val v112, .val v117, .val v122, .val (.ref b143), .val (.ref b145)] [])
    refine g_aload B W149 at_169 rfl rfl ?_
    obtain ⟨T150, h150, v150, W150, Q150, st150⟩ := x_virtual B W149 (b := b145) [] (c_getExchange l Z a0 hw b145 (.ref b101) h145 rfl F0_145) (by simp) E145 at_171 (tw hw 115 rfl) (tw hw 116 rfl) (tw hw 118 rfl) (tw hw 117 rfl) (tw hw 28 rfl) (tw hw 119 rfl) (by decide) (lenOf pd___Ljava_lang_String_ rfl) #[.val (.int p1), .val (.int p2), .val (.int p3), .val (.int p4), .val (.int p5), .val (.int p6), .val (.ref b101), .val (.ref b103), .val (.ref b105), .val .null, .val v112, .val v117, .val v122, .val (.ref b143), .val (.ref b145)] [] rfl 0 rfl (by decide) (by decide) (by decide) (by decide)
    obtain ⟨rfl, rfl⟩ := Q150
    refine st150 _ ?_
    refine g_aload B W150 at_174 rfl rfl ?_
    have f151 := S101.keep ((((((((((((Keep.refl h101 []).trans K103 all0).trans K105 all0).trans K107 all0).trans K112 all0).trans K117 all0).trans K122 all0).trans K127 all0).trans K138 (allS (Or.inr (by omega)) all0)).trans K141 all0).trans K143 all0).trans K145 all0)
    obtain ⟨T152, h152, v152, W152, Q152, st152⟩ := x_static B W150 [(.ref b101), (.ref b101)] (c_same l Z a0 hw (.ref b101) h145 (Or.inr ⟨_, rfl, f151⟩)) (by simp) at_176 (tw hw 112 rfl) (tw hw 113 rfl) (tw hw 2 rfl) (tw hw 114 rfl) (by decide) (lenOf pd__Ljava_lang_String_Ljava_lang_String__Z rfl) #[.val (.int p1), .val (.int p2), .val (.int p3), .val (.int p4), .val (.int p5), .val (.int p6), .val (.ref b101), .val (.ref b103), .val (.ref b105), .val .null, .val v112, .val v117, .val v122, .val (.ref b143), .val (.ref b145)] [] rfl 0 rfl (by decide) (by decide) (by decide) (by decide)
    obtain ⟨rfl, rfl⟩ := Q152
    refine st152 _ ?_
    refine g_if_n B W152 at_179 (XT.i0_eq_f (by decide)) ?_
    show Go p.tables e below _ T152 (mkF m 182 #[.val (.int p1), .val (.int p2), .val (.int p3), .val (.int p4), .val (.int p5), .val (.int p6), .val (.ref b101), .val (.ref b103), .val (.ref b105), .val .null, .val v112, .val v117, .val v122, .val (.ref b143), .val (.ref b145)] [])
    refine g_aload B W152 at_182 rfl rfl ?_
    obtain ⟨T153, h153, v153, W153, Q153, st153⟩ := x_virtual B W152 (b := b145) [] (c_getRoutingKey l Z a0 hw b145 (.ref b103) h145 rfl F1_145) (by simp) E145 at_184 (tw hw 125 rfl) (tw hw 126 rfl) (tw hw 128 rfl) (tw hw 127 rfl) (tw hw 28 rfl) (tw hw 129 rfl) (by decide) (lenOf pd___Ljava_lang_String_ rfl) #[.val (.int p1), .val (.int p2), .val (.int p3), .val (.int p4), .val (.int p5), .val (.int p6), .val (.ref b101), .val (.ref b103), .val (.ref b105), .val .null, .val v112, .val v117, .val v122, .val (.ref b143), .val (.ref b145)] [] rfl 0 rfl (by decide) (by decide) (by decide) (by decide)
    obtain ⟨rfl, rfl⟩ := Q153
    refine st153 _ ?_
    refine g_aload B W153 at_187 rfl rfl ?_
    have f154 := S103.keep (((((((((((Keep.refl h103 []).trans K105 all0).trans K107 all0).trans K112 all0).trans K117 all0).trans K122 all0).trans K127 all0).trans K138 (allS (Or.inr (by omega)) all0)).trans K141 all0).trans K143 all0).trans K145 all0)
    obtain ⟨T155, h155, v155, W155, Q155, st155⟩ := x_static B W153 [(.ref b103), (.ref b103)] (c_same l Z a0 hw (.ref b103) h145 (Or.inr ⟨_, rfl, f154⟩)) (by simp) at_189 (tw hw 112 rfl) (tw hw 113 rfl) (tw hw 2 rfl) (tw hw 114 rfl) (by decide) (lenOf pd__Ljava_lang_String_Ljava_lang_String__Z rfl) #[.val (.int p1), .val (.int p2), .val (.int p3), .val (.int p4), .val (.int p5), .val (.int p6), .val (.ref b101), .val (.ref b103), .val (.ref b105), .val .null, .val v112, .val v117, .val v122, .val (.ref b143), .val (.ref b145)] [] rfl 0 rfl (by decide) (by decide) (by decide) (by decide)
    obtain ⟨rfl, rfl⟩ := Q155
    refine st155 _ ?_
    refine g_if_n B W155 at_192 (XT.i0_eq_f (by decide)) ?_
    show Go p.tables e below _ T155 (mkF m 195 #[.val (.int p1), .val (.int p2), .val (.int p3), .val (.int p4), .val (.int p5), .val (.int p6), .val (.ref b101), .val (.ref b103), .val (.ref b105), .val .null, .val v112, .val v117, .val v122, .val (.ref b143), .val (.ref b145)] [])
    refine g_aload B W155 at_195 rfl rfl ?_
    obtain ⟨T156, h156, v156, W156, Q156, st156⟩ := x_virtual B W155 (b := b145) [] (c_getPayload l Z a0 hw b145 (.ref b105) h145 rfl F2_145) (by simp) E145 at_197 (tw hw 130 rfl) (tw hw 131 rfl) (tw hw 133 rfl) (tw hw 132 rfl) (tw hw 28 rfl) (tw hw 134 rfl) (by decide) (lenOf pd___Ljava_lang_String_ rfl) #[.val (.int p1), .val (.int p2), .val (.int p3), .val (.int p4), .val (.int p5), .val (.int p6), .val (.ref b101), .val (.ref b103), .val (.ref b105), .val .null, .val v112, .val v117, .val v122, .val (.ref b143), .val (.ref b145)] [] rfl 0 rfl (by decide) (by decide) (by decide) (by decide)
    obtain ⟨rfl, rfl⟩ := Q156
    refine st156 _ ?_
    refine g_aload B W156 at_200 rfl rfl ?_
    have f157 := S105.keep ((((((((((Keep.refl h105 []).trans K107 all0).trans K112 all0).trans K117 all0).trans K122 all0).trans K127 all0).trans K138 (allS (Or.inr (by omega)) all0)).trans K141 all0).trans K143 all0).trans K145 all0)
    obtain ⟨T158, h158, v158, W158, Q158, st158⟩ := x_static B W156 [(.ref b105), (.ref b105)] (c_same l Z a0 hw (.ref b105) h145 (Or.inr ⟨_, rfl, f157⟩)) (by simp) at_202 (tw hw 112 rfl) (tw hw 113 rfl) (tw hw 2 rfl) (tw hw 114 rfl) (by decide) (lenOf pd__Ljava_lang_String_Ljava_lang_String__Z rfl) #[.val (.int p1), .val (.int p2), .val (.int p3), .val (.int p4), .val (.int p5), .val (.int p6), .val (.ref b101), .val (.ref b103), .val (.ref b105), .val .null, .val v112, .val v117, .val v122, .val (.ref b143), .val (.ref b145)] [] rfl 0 rfl (by decide) (by decide) (by decide) (by decide)
    obtain ⟨rfl, rfl⟩ := Q158
    refine st158 _ ?_
    refine g_if_n B W158 at_205 (XT.i0_eq_f (by decide)) ?_
    show Go p.tables e below _ T158 (mkF m 208 #[.val (.int p1), .val (.int p2), .val (.int p3), .val (.int p4), .val (.int p5), .val (.int p6), .val (.ref b101), .val (.ref b103), .val (.ref b105), .val .null, .val v112, .val v117, .val v122, .val (.ref b143), .val (.ref b145)] [])
    refine g_aload B W158 at_208 rfl rfl ?_
    obtain ⟨T159, h159, v159, W159, Q159, st159⟩ := x_virtual B W158 (b := b145) [] (c_getMessageId l Z a0 hw b145 .null h145 rfl F3_145) (by simp) E145 at_210 (tw hw 135 rfl) (tw hw 136 rfl) (tw hw 138 rfl) (tw hw 137 rfl) (tw hw 28 rfl) (tw hw 139 rfl) (by decide) (lenOf pd___Ljava_lang_String_ rfl) #[.val (.int p1), .val (.int p2), .val (.int p3), .val (.int p4), .val (.int p5), .val (.int p6), .val (.ref b101), .val (.ref b103), .val (.ref b105), .val .null, .val v112, .val v117, .val v122, .val (.ref b143), .val (.ref b145)] [] rfl 0 rfl (by decide) (by decide) (by decide) (by decide)
    obtain ⟨rfl, rfl⟩ := Q159
    refine st159 _ ?_
    refine g_aload B W159 at_213 rfl rfl ?_
    obtain ⟨T160, h160, v160, W160, Q160, st160⟩ := x_static B W159 [.null, .null] (c_same l Z a0 hw .null h145 (Or.inl rfl)) (by simp) at_215 (tw hw 112 rfl) (tw hw 113 rfl) (tw hw 2 rfl) (tw hw 114 rfl) (by decide) (lenOf pd__Ljava_lang_String_Ljava_lang_String__Z rfl) #[.val (.int p1), .val (.int p2), .val (.int p3), .val (.int p4), .val (.int p5), .val (.int p6), .val (.ref b101), .val (.ref b103), .val (.ref b105), .val .null, .val v112, .val v117, .val v122, .val (.ref b143), .val (.ref b145)] [] rfl 0 rfl (by decide) (by decide) (by decide) (by decide)
    obtain ⟨rfl, rfl⟩ := Q160
    refine st160 _ ?_
    refine g_if_n B W160 at_218 (XT.i0_eq_f (by decide)) ?_
    show Go p.tables e below _ T160 (mkF m 221 #[.val (.int p1), .val (.int p2), .val (.int p3), .val (.int p4), .val (.int p5), .val (.int p6), .val (.ref b101), .val (.ref b103), .val (.ref b105), .val .null, .val v112, .val v117, .val v122, .val (.ref b143), .val (.ref b145)] [])
    refine g_aload B W160 at_221 rfl rfl ?_
    obtain ⟨T161, h161, v161, W161, Q161, st161⟩ := x_virtual B W160 (b := b145) [] (c_getBusinessModule l Z a0 hw b145 v112 h145 r112 F4_145) (by simp) E145 at_223 (tw hw 140 rfl) (tw hw 141 rfl) (tw hw 143 rfl) (tw hw 142 rfl) (tw hw 28 rfl) (tw hw 144 rfl) (by decide) (lenOf pd___Ljava_lang_String_ rfl) #[.val (.int p1), .val (.int p2), .val (.int p3), .val (.int p4), .val (.int p5), .val (.int p6), .val (.ref b101), .val (.ref b103), .val (.ref b105), .val .null, .val v112, .val v117, .val v122, .val (.ref b143), .val (.ref b145)] [] rfl 0 rfl (by decide) (by decide) (by decide) (by decide)
    obtain ⟨rfl, rfl⟩ := Q161
    refine st161 _ ?_
    refine g_aload B W161 at_226 rfl r112 ?_
    have f162 := p112.keep ((((((((Keep.refl h112 []).trans K117 all0).trans K122 all0).trans K127 all0).trans K138 (allS (Or.inr (by omega)) all0)).trans K141 all0).trans K143 all0).trans K145 all0)
    obtain ⟨T163, h163, v163, W163, Q163, st163⟩ := x_static B W161 [v112, v112] (c_same l Z a0 hw v112 h145 f162) (by simp) at_228 (tw hw 112 rfl) (tw hw 113 rfl) (tw hw 2 rfl) (tw hw 114 rfl) (by decide) (lenOf pd__Ljava_lang_String_Ljava_lang_String__Z rfl) #[.val (.int p1), .val (.int p2), .val (.int p3), .val (.int p4), .val (.int p5), .val (.int p6), .val (.ref b101), .val (.ref b103), .val (.ref b105), .val .null, .val v112, .val v117, .val v122, .val (.ref b143), .val (.ref b145)] [] rfl 0 rfl (by decide) (by decide) (by decide) (by decide)
    obtain ⟨rfl, rfl⟩ := Q163
    refine st163 _ ?_
    refine g_if_n B W163 at_231 (XT.i0_eq_f (by decide)) ?_
    show Go p.tables e below _ T163 (mkF m 234 #[.val (.int p1), .val (.int p2), .val (.int p3), .val (.int p4), .val (.int p5), .val (.int p6), .val (.ref b101), .val (.ref b103), .val (.ref b105), .val .null, .val v112, .val v117, .val v122, .val (.ref b143), .val (.ref b145)] [])
    refine g_iconst B W163 at_234 (v := 1) (by decide) ?_
    refine g_goto B W163 at_235 (pc' := 239) (by decide) ?_
    show Go p.tables e below _ T163 (mkF m 239 #[.val (.int p1), .val (.int p2), .val (.int p3), .val (.int p4), .val (.int p5), .val (.int p6), .val (.ref b101), .val (.ref b103), .val (.ref b105), .val .null, .val v112, .val v117, .val v122, .val (.ref b143), .val (.ref b145)] [(.int 1)])
    exact r_n B W163 (t := .boolean) rfl (by simp) at_239 (by decide) (by decide) (by show some (Value.int (nar .boolean 1)) = _; rw [nar_b1])
  · skip
    show Go p.tables e below _ T138 (mkF m 110 #[.val (.int p1), .val (.int p2), .val (.int p3), .val (.int p4), .val (.int p5), .val (.int p6), .val (.ref b101), .val (.ref b103), .val (.ref b105), .val (.ref b140), .val v112, .val v117, .val v122, .val (.ref b127), .unset] [(.ref b140)])
    refine g_ifnull_n B W138 at_110  ?_
    show Go p.tables e below _ T138 (mkF m 113 #[.val (.int p1), .val (.int p2), .val (.int p3), .val (.int p4), .val (.int p5), .val (.int p6), .val (.ref b101), .val (.ref b103), .val (.ref b105), .val (.ref b140), .val v112, .val v117, .val v122, .val (.ref b127), .unset] [])
    refine g_aload B W138 at_113 rfl rfl ?_
    refine g_aload B W138 at_115 rfl rfl ?_
    have f164 := S140.keep ((((((Keep.refl h107 []).trans K112 all0).trans K117 all0).trans K122 all0).trans K127 all0).trans K138 (allS (Or.inr (by omega)) all0))
    obtain ⟨T165, h165, v165, W165, Q165, st165⟩ := x_virtual B W138 (b := b127) [(.ref b140)] (c_wMid l Z a0 hw b127 b101 b103 b105 .null .null .null b140 cz h138 rfl rfl rfl f164 Scs hcz F0_138 F1_138 F2_138 F3_138 F4_138 F5_138) (by simp) E138 at_117 (tw hw 189 rfl) (tw hw 190 rfl) (tw hw 192 rfl) (tw hw 191 rfl) (tw hw 28 rfl) (tw hw 193 rfl) (by decide) (lenOf pd__Ljava_lang_String__Lcom_example_outbox_relay_outboxrelay_OutboxMessage_ rfl) #[.val (.int p1), .val (.int p2), .val (.int p3), .val (.int p4), .val (.int p5), .val (.int p6), .val (.ref b101), .val (.ref b103), .val (.ref b105), .val (.ref b140), .val v112, .val v117, .val v122, .val (.ref b127), .unset] [] rfl 0 rfl (by decide) (by decide) (by decide) (by decide)
    obtain ⟨-, b165, rfl, g165, K165, E165, F0_165, F1_165, F2_165, F3_165, F4_165, F5_165⟩ := Q165
    have s166 := K165.1
    refine st165 _ ?_
    have l165 := nlt E165.lt
    refine g_astore B W165 at_120 rfl (l' := #[.val (.int p1), .val (.int p2), .val (.int p3), .val (.int p4), .val (.int p5), .val (.int p6), .val (.ref b101), .val (.ref b103), .val (.ref b105), .val (.ref b140), .val v112, .val v117, .val v122, .val (.ref b165), .unset]) rfl ?_
    refine g_aload B W165 at_122 rfl rfl ?_
    refine g_aload B W165 at_124 rfl r112 ?_
    obtain ⟨T167, h167, v167, W167, Q167, st167⟩ := x_virtual B W165 (b := b165) [v112] (c_wBM l Z a0 hw b165 b101 b103 b105 (.ref b140) .null .null v112 h165 rfl rfl rfl r112 F0_165 F1_165 F2_165 F3_165 F4_165 F5_165) (by simp) E165 at_126 (tw hw 96 rfl) (tw hw 97 rfl) (tw hw 99 rfl) (tw hw 98 rfl) (tw hw 28 rfl) (tw hw 100 rfl) (by decide) (lenOf pd__Ljava_lang_String__Lcom_example_outbox_relay_outboxrelay_OutboxMessage_ rfl) #[.val (.int p1), .val (.int p2), .val (.int p3), .val (.int p4), .val (.int p5), .val (.int p6), .val (.ref b101), .val (.ref b103), .val (.ref b105), .val (.ref b140), .val v112, .val v117, .val v122, .val (.ref b165), .unset] [] rfl 0 rfl (by decide) (by decide) (by decide) (by decide)
    obtain ⟨-, b167, rfl, g167, K167, E167, F0_167, F1_167, F2_167, F3_167, F4_167, F5_167⟩ := Q167
    have s168 := K167.1
    refine st167 _ ?_
    have l167 := nlt E167.lt
    refine g_astore B W167 at_129 rfl (l' := #[.val (.int p1), .val (.int p2), .val (.int p3), .val (.int p4), .val (.int p5), .val (.int p6), .val (.ref b101), .val (.ref b103), .val (.ref b105), .val (.ref b140), .val v112, .val v117, .val v122, .val (.ref b167), .unset]) rfl ?_
    refine g_aload B W167 at_131 rfl rfl ?_
    refine g_aload B W167 at_133 rfl r117 ?_
    obtain ⟨T169, h169, v169, W169, Q169, st169⟩ := x_virtual B W167 (b := b167) [v117] (c_wBK l Z a0 hw b167 b101 b103 b105 (.ref b140) v112 .null v117 h167 rfl r112 rfl r117 F0_167 F1_167 F2_167 F3_167 F4_167 F5_167) (by simp) E167 at_135 (tw hw 102 rfl) (tw hw 103 rfl) (tw hw 105 rfl) (tw hw 104 rfl) (tw hw 28 rfl) (tw hw 106 rfl) (by decide) (lenOf pd__Ljava_lang_String__Lcom_example_outbox_relay_outboxrelay_OutboxMessage_ rfl) #[.val (.int p1), .val (.int p2), .val (.int p3), .val (.int p4), .val (.int p5), .val (.int p6), .val (.ref b101), .val (.ref b103), .val (.ref b105), .val (.ref b140), .val v112, .val v117, .val v122, .val (.ref b167), .unset] [] rfl 0 rfl (by decide) (by decide) (by decide) (by decide)
    obtain ⟨-, b169, rfl, g169, K169, E169, F0_169, F1_169, F2_169, F3_169, F4_169, F5_169⟩ := Q169
    have s170 := K169.1
    refine st169 _ ?_
    have l169 := nlt E169.lt
    refine g_astore B W169 at_138 rfl (l' := #[.val (.int p1), .val (.int p2), .val (.int p3), .val (.int p4), .val (.int p5), .val (.int p6), .val (.ref b101), .val (.ref b103), .val (.ref b105), .val (.ref b140), .val v112, .val v117, .val v122, .val (.ref b169), .unset]) rfl ?_
    refine g_aload B W169 at_140 rfl rfl ?_
    refine g_aload B W169 at_142 rfl r122 ?_
    obtain ⟨T171, h171, v171, W171, Q171, st171⟩ := x_virtual B W169 (b := b169) [v122] (c_wBK l Z a0 hw b169 b101 b103 b105 (.ref b140) v112 v117 v122 h169 rfl r112 r117 r122 F0_169 F1_169 F2_169 F3_169 F4_169 F5_169) (by simp) E169 at_144 (tw hw 102 rfl) (tw hw 103 rfl) (tw hw 105 rfl) (tw hw 104 rfl) (tw hw 28 rfl) (tw hw 106 rfl) (by decide) (lenOf pd__Ljava_lang_String__Lcom_example_outbox_relay_outboxrelay_OutboxMessage_ rfl) #[.val (.int p1), .val (.int p2), .val (.int p3), .val (.int p4), .val (.int p5), .val (.int p6), .val (.ref b101), .val (.ref b103), .val (.ref b105), .val (.ref b140), .val v112, .val v117, .val v122, .val (.ref b169), .unset] [] rfl 0 rfl (by decide) (by decide) (by decide) (by decide)
    obtain ⟨-, b171, rfl, g171, K171, E171, F0_171, F1_171, F2_171, F3_171, F4_171, F5_171⟩ := Q171
    have s172 := K171.1
    refine st171 _ ?_
    have l171 := nlt E171.lt
    refine g_astore B W171 at_147 rfl (l' := #[.val (.int p1), .val (.int p2), .val (.int p3), .val (.int p4), .val (.int p5), .val (.int p6), .val (.ref b101), .val (.ref b103), .val (.ref b105), .val (.ref b140), .val v112, .val v117, .val v122, .val (.ref b169), .val (.ref b171)]) rfl ?_
    refine g_aload B W171 at_149 rfl rfl ?_
    refine g_aload B W171 at_151 rfl rfl ?_
    refine g_acmp_n B W171 at_153 rfl rfl (XT.aa_eq_f (fun q => by have q2 := Value.ref.inj q; revert q2; exact nne (by omega))) ?_
    show Go p.tables e below _ T171 (mkF m 156 #[.val (.int p1), .val (.int p2), .val (.int p3), .val (.int p4), .val (.int p5), .val (.int p6), .val (.ref b101), .val (.ref b103), .val (.ref b105), .val (.ref b140), .val v112, .val v117, .val v122, .val (.ref b169), .val (.ref b171)] [])
    refine g_aload B W171 at_156 rfl rfl ?_
    obtain ⟨T173, h173, v173, W173, Q173, st173⟩ := x_virtual B W171 (b := b171) [] (c_getBusinessKey l Z a0 hw b171 v122 h171 r122 F5_171) (by simp) E171 at_158 (tw hw 107 rfl) (tw hw 108 rfl) (tw hw 110 rfl) (tw hw 109 rfl) (tw hw 28 rfl) (tw hw 111 rfl) (by decide) (lenOf pd___Ljava_lang_String_ rfl) #[.val (.int p1), .val (.int p2), .val (.int p3), .val (.int p4), .val (.int p5), .val (.int p6), .val (.ref b101), .val (.ref b103), .val (.ref b105), .val (.ref b140), .val v112, .val v117, .val v122, .val (.ref b169), .val (.ref b171)] [] rfl 0 rfl (by decide) (by decide) (by decide) (by decide)
    obtain ⟨rfl, rfl⟩ := Q173
    refine st173 _ ?_
    refine g_aload B W173 at_161 rfl r122 ?_
    have f174 := p122.keep (((((((Keep.refl h122 []).trans K127 all0).trans K138 (allS (Or.inr (by omega)) all0)).trans K165 all0).trans K167 all0).trans K169 all0).trans K171 all0)
    obtain ⟨T175, h175, v175, W175, Q175, st175⟩ := x_static B W173 [v122, v122] (c_same l Z a0 hw v122 h171 f174) (by simp) at_163 (tw hw 112 rfl) (tw hw 113 rfl) (tw hw 2 rfl) (tw hw 114 rfl) (by decide) (lenOf pd__Ljava_lang_String_Ljava_lang_String__Z rfl) #[.val (.int p1), .val (.int p2), .val (.int p3), .val (.int p4), .val (.int p5), .val (.int p6), .val (.ref b101), .val (.ref b103), .val (.ref b105), .val (.ref b140), .val v112, .val v117, .val v122, .val (.ref b169), .val (.ref b171)] [] rfl 0 rfl (by decide) (by decide) (by decide) (by decide)
    obtain ⟨rfl, rfl⟩ := Q175
    refine st175 _ ?_
    refine g_if_n B W175 at_166 (XT.i0_eq_f (by decide)) ?_
    show Go p.tables e below _ T175 (mkF m 169 #[.val (.int p1), .val (.int p2), .val (.int p3), .val (.int p4), .val (.int p5), .val (.int p6), .val (.ref b101), .val (.ref b103), .val (.ref b105), .val (.ref b140), .val v112, .val v117, .val v122, .val (.ref b169), .val (.ref b171)] [])
    refine g_aload B W175 at_169 rfl rfl ?_
    obtain ⟨T176, h176, v176, W176, Q176, st176⟩ := x_virtual B W175 (b := b171) [] (c_getExchange l Z a0 hw b171 (.ref b101) h171 rfl F0_171) (by simp) E171 at_171 (tw hw 115 rfl) (tw hw 116 rfl) (tw hw 118 rfl) (tw hw 117 rfl) (tw hw 28 rfl) (tw hw 119 rfl) (by decide) (lenOf pd___Ljava_lang_String_ rfl) #[.val (.int p1), .val (.int p2), .val (.int p3), .val (.int p4), .val (.int p5), .val (.int p6), .val (.ref b101), .val (.ref b103), .val (.ref b105), .val (.ref b140), .val v112, .val v117, .val v122, .val (.ref b169), .val (.ref b171)] [] rfl 0 rfl (by decide) (by decide) (by decide) (by decide)
    obtain ⟨rfl, rfl⟩ := Q176
    refine st176 _ ?_
    refine g_aload B W176 at_174 rfl rfl ?_
    have f177 := S101.keep (((((((((((((Keep.refl h101 []).trans K103 all0).trans K105 all0).trans K107 all0).trans K112 all0).trans K117 all0).trans K122 all0).trans K127 all0).trans K138 (allS (Or.inr (by omega)) all0)).trans K165 all0).trans K167 all0).trans K169 all0).trans K171 all0)
    obtain ⟨T178, h178, v178, W178, Q178, st178⟩ := x_static B W176 [(.ref b101), (.ref b101)] (c_same l Z a0 hw (.ref b101) h171 (Or.inr ⟨_, rfl, f177⟩)) (by simp) at_176 (tw hw 112 rfl) (tw hw 113 rfl) (tw hw 2 rfl) (tw hw 114 rfl) (by decide) (lenOf pd__Ljava_lang_String_Ljava_lang_String__Z rfl) #[.val (.int p1), .val (.int p2), .val (.int p3), .val (.int p4), .val (.int p5), .val (.int p6), .val (.ref b101), .val (.ref b103), .val (.ref b105), .val (.ref b140), .val v112, .val v117, .val v122, .val (.ref b169), .val (.ref b171)] [] rfl 0 rfl (by decide) (by decide) (by decide) (by decide)
    obtain ⟨rfl, rfl⟩ := Q178
    refine st178 _ ?_
    refine g_if_n B W178 at_179 (XT.i0_eq_f (by decide)) ?_
    show Go p.tables e below _ T178 (mkF m 182 #[.val (.int p1), .val (.int p2), .val (.int p3), .val (.int p4), .val (.int p5), .val (.int p6), .val (.ref b101), .val (.ref b103), .val (.ref b105), .val (.ref b140), .val v112, .val v117, .val v122, .val (.ref b169), .val (.ref b171)] [])
    refine g_aload B W178 at_182 rfl rfl ?_
    obtain ⟨T179, h179, v179, W179, Q179, st179⟩ := x_virtual B W178 (b := b171) [] (c_getRoutingKey l Z a0 hw b171 (.ref b103) h171 rfl F1_171) (by simp) E171 at_184 (tw hw 125 rfl) (tw hw 126 rfl) (tw hw 128 rfl) (tw hw 127 rfl) (tw hw 28 rfl) (tw hw 129 rfl) (by decide) (lenOf pd___Ljava_lang_String_ rfl) #[.val (.int p1), .val (.int p2), .val (.int p3), .val (.int p4), .val (.int p5), .val (.int p6), .val (.ref b101), .val (.ref b103), .val (.ref b105), .val (.ref b140), .val v112, .val v117, .val v122, .val (.ref b169), .val (.ref b171)] [] rfl 0 rfl (by decide) (by decide) (by decide) (by decide)
    obtain ⟨rfl, rfl⟩ := Q179
    refine st179 _ ?_
    refine g_aload B W179 at_187 rfl rfl ?_
    have f180 := S103.keep ((((((((((((Keep.refl h103 []).trans K105 all0).trans K107 all0).trans K112 all0).trans K117 all0).trans K122 all0).trans K127 all0).trans K138 (allS (Or.inr (by omega)) all0)).trans K165 all0).trans K167 all0).trans K169 all0).trans K171 all0)
    obtain ⟨T181, h181, v181, W181, Q181, st181⟩ := x_static B W179 [(.ref b103), (.ref b103)] (c_same l Z a0 hw (.ref b103) h171 (Or.inr ⟨_, rfl, f180⟩)) (by simp) at_189 (tw hw 112 rfl) (tw hw 113 rfl) (tw hw 2 rfl) (tw hw 114 rfl) (by decide) (lenOf pd__Ljava_lang_String_Ljava_lang_String__Z rfl) #[.val (.int p1), .val (.int p2), .val (.int p3), .val (.int p4), .val (.int p5), .val (.int p6), .val (.ref b101), .val (.ref b103), .val (.ref b105), .val (.ref b140), .val v112, .val v117, .val v122, .val (.ref b169), .val (.ref b171)] [] rfl 0 rfl (by decide) (by decide) (by decide) (by decide)
    obtain ⟨rfl, rfl⟩ := Q181
    refine st181 _ ?_
    refine g_if_n B W181 at_192 (XT.i0_eq_f (by decide)) ?_
    show Go p.tables e below _ T181 (mkF m 195 #[.val (.int p1), .val (.int p2), .val (.int p3), .val (.int p4), .val (.int p5), .val (.int p6), .val (.ref b101), .val (.ref b103), .val (.ref b105), .val (.ref b140), .val v112, .val v117, .val v122, .val (.ref b169), .val (.ref b171)] [])
    refine g_aload B W181 at_195 rfl rfl ?_
    obtain ⟨T182, h182, v182, W182, Q182, st182⟩ := x_virtual B W181 (b := b171) [] (c_getPayload l Z a0 hw b171 (.ref b105) h171 rfl F2_171) (by simp) E171 at_197 (tw hw 130 rfl) (tw hw 131 rfl) (tw hw 133 rfl) (tw hw 132 rfl) (tw hw 28 rfl) (tw hw 134 rfl) (by decide) (lenOf pd___Ljava_lang_String_ rfl) #[.val (.int p1), .val (.int p2), .val (.int p3), .val (.int p4), .val (.int p5), .val (.int p6), .val (.ref b101), .val (.ref b103), .val (.ref b105), .val (.ref b140), .val v112, .val v117, .val v122, .val (.ref b169), .val (.ref b171)] [] rfl 0 rfl (by decide) (by decide) (by decide) (by decide)
    obtain ⟨rfl, rfl⟩ := Q182
    refine st182 _ ?_
    refine g_aload B W182 at_200 rfl rfl ?_
    have f183 := S105.keep (((((((((((Keep.refl h105 []).trans K107 all0).trans K112 all0).trans K117 all0).trans K122 all0).trans K127 all0).trans K138 (allS (Or.inr (by omega)) all0)).trans K165 all0).trans K167 all0).trans K169 all0).trans K171 all0)
    obtain ⟨T184, h184, v184, W184, Q184, st184⟩ := x_static B W182 [(.ref b105), (.ref b105)] (c_same l Z a0 hw (.ref b105) h171 (Or.inr ⟨_, rfl, f183⟩)) (by simp) at_202 (tw hw 112 rfl) (tw hw 113 rfl) (tw hw 2 rfl) (tw hw 114 rfl) (by decide) (lenOf pd__Ljava_lang_String_Ljava_lang_String__Z rfl) #[.val (.int p1), .val (.int p2), .val (.int p3), .val (.int p4), .val (.int p5), .val (.int p6), .val (.ref b101), .val (.ref b103), .val (.ref b105), .val (.ref b140), .val v112, .val v117, .val v122, .val (.ref b169), .val (.ref b171)] [] rfl 0 rfl (by decide) (by decide) (by decide) (by decide)
    obtain ⟨rfl, rfl⟩ := Q184
    refine st184 _ ?_
    refine g_if_n B W184 at_205 (XT.i0_eq_f (by decide)) ?_
    show Go p.tables e below _ T184 (mkF m 208 #[.val (.int p1), .val (.int p2), .val (.int p3), .val (.int p4), .val (.int p5), .val (.int p6), .val (.ref b101), .val (.ref b103), .val (.ref b105), .val (.ref b140), .val v112, .val v117, .val v122, .val (.ref b169), .val (.ref b171)] [])
    refine g_aload B W184 at_208 rfl rfl ?_
    obtain ⟨T185, h185, v185, W185, Q185, st185⟩ := x_virtual B W184 (b := b171) [] (c_getMessageId l Z a0 hw b171 (.ref b140) h171 rfl F3_171) (by simp) E171 at_210 (tw hw 135 rfl) (tw hw 136 rfl) (tw hw 138 rfl) (tw hw 137 rfl) (tw hw 28 rfl) (tw hw 139 rfl) (by decide) (lenOf pd___Ljava_lang_String_ rfl) #[.val (.int p1), .val (.int p2), .val (.int p3), .val (.int p4), .val (.int p5), .val (.int p6), .val (.ref b101), .val (.ref b103), .val (.ref b105), .val (.ref b140), .val v112, .val v117, .val v122, .val (.ref b169), .val (.ref b171)] [] rfl 0 rfl (by decide) (by decide) (by decide) (by decide)
    obtain ⟨rfl, rfl⟩ := Q185
    refine st185 _ ?_
    refine g_aload B W185 at_213 rfl rfl ?_
    have f186 := S140.keep ((((((((((Keep.refl h107 []).trans K112 all0).trans K117 all0).trans K122 all0).trans K127 all0).trans K138 (allS (Or.inr (by omega)) all0)).trans K165 all0).trans K167 all0).trans K169 all0).trans K171 all0)
    obtain ⟨T187, h187, v187, W187, Q187, st187⟩ := x_static B W185 [(.ref b140), (.ref b140)] (c_same l Z a0 hw (.ref b140) h171 (Or.inr ⟨_, rfl, f186⟩)) (by simp) at_215 (tw hw 112 rfl) (tw hw 113 rfl) (tw hw 2 rfl) (tw hw 114 rfl) (by decide) (lenOf pd__Ljava_lang_String_Ljava_lang_String__Z rfl) #[.val (.int p1), .val (.int p2), .val (.int p3), .val (.int p4), .val (.int p5), .val (.int p6), .val (.ref b101), .val (.ref b103), .val (.ref b105), .val (.ref b140), .val v112, .val v117, .val v122, .val (.ref b169), .val (.ref b171)] [] rfl 0 rfl (by decide) (by decide) (by decide) (by decide)
    obtain ⟨rfl, rfl⟩ := Q187
    refine st187 _ ?_
    refine g_if_n B W187 at_218 (XT.i0_eq_f (by decide)) ?_
    show Go p.tables e below _ T187 (mkF m 221 #[.val (.int p1), .val (.int p2), .val (.int p3), .val (.int p4), .val (.int p5), .val (.int p6), .val (.ref b101), .val (.ref b103), .val (.ref b105), .val (.ref b140), .val v112, .val v117, .val v122, .val (.ref b169), .val (.ref b171)] [])
    refine g_aload B W187 at_221 rfl rfl ?_
    obtain ⟨T188, h188, v188, W188, Q188, st188⟩ := x_virtual B W187 (b := b171) [] (c_getBusinessModule l Z a0 hw b171 v112 h171 r112 F4_171) (by simp) E171 at_223 (tw hw 140 rfl) (tw hw 141 rfl) (tw hw 143 rfl) (tw hw 142 rfl) (tw hw 28 rfl) (tw hw 144 rfl) (by decide) (lenOf pd___Ljava_lang_String_ rfl) #[.val (.int p1), .val (.int p2), .val (.int p3), .val (.int p4), .val (.int p5), .val (.int p6), .val (.ref b101), .val (.ref b103), .val (.ref b105), .val (.ref b140), .val v112, .val v117, .val v122, .val (.ref b169), .val (.ref b171)] [] rfl 0 rfl (by decide) (by decide) (by decide) (by decide)
    obtain ⟨rfl, rfl⟩ := Q188
    refine st188 _ ?_
    refine g_aload B W188 at_226 rfl r112 ?_
    have f189 := p112.keep (((((((((Keep.refl h112 []).trans K117 all0).trans K122 all0).trans K127 all0).trans K138 (allS (Or.inr (by omega)) all0)).trans K165 all0).trans K167 all0).trans K169 all0).trans K171 all0)
    obtain ⟨T190, h190, v190, W190, Q190, st190⟩ := x_static B W188 [v112, v112] (c_same l Z a0 hw v112 h171 f189) (by simp) at_228 (tw hw 112 rfl) (tw hw 113 rfl) (tw hw 2 rfl) (tw hw 114 rfl) (by decide) (lenOf pd__Ljava_lang_String_Ljava_lang_String__Z rfl) #[.val (.int p1), .val (.int p2), .val (.int p3), .val (.int p4), .val (.int p5), .val (.int p6), .val (.ref b101), .val (.ref b103), .val (.ref b105), .val (.ref b140), .val v112, .val v117, .val v122, .val (.ref b169), .val (.ref b171)] [] rfl 0 rfl (by decide) (by decide) (by decide) (by decide)
    obtain ⟨rfl, rfl⟩ := Q190
    refine st190 _ ?_
    refine g_if_n B W190 at_231 (XT.i0_eq_f (by decide)) ?_
    show Go p.tables e below _ T190 (mkF m 234 #[.val (.int p1), .val (.int p2), .val (.int p3), .val (.int p4), .val (.int p5), .val (.int p6), .val (.ref b101), .val (.ref b103), .val (.ref b105), .val (.ref b140), .val v112, .val v117, .val v122, .val (.ref b169), .val (.ref b171)] [])
    refine g_iconst B W190 at_234 (v := 1) (by decide) ?_
    refine g_goto B W190 at_235 (pc' := 239) (by decide) ?_
    show Go p.tables e below _ T190 (mkF m 239 #[.val (.int p1), .val (.int p2), .val (.int p3), .val (.int p4), .val (.int p5), .val (.int p6), .val (.ref b101), .val (.ref b103), .val (.ref b105), .val (.ref b140), .val v112, .val v117, .val v122, .val (.ref b169), .val (.ref b171)] [(.int 1)])
    exact r_n B W190 (t := .boolean) rfl (by simp) at_239 (by decide) (by decide) (by show some (Value.int (nar .boolean 1)) = _; rw [nar_b1])
theorem own_ELc : ∀ p ∈ Jvm.OwnK.EL, p ∈ consts_1 := by decide
set_option maxRecDepth 65536 in
set_option maxHeartbeats 40000000 in
theorem comes_1 {Post : Tables → Env → Array Value → State → Outcome → State → Prop} (hpost : ∀ tb e args s v u, (limb_1_1.after args s (.returned v) u = true ∧ limb_1_2.after args s (.returned v) u = true ∧ True) → ReturnedEndW s (.returned v) u (Jvm.fieldLocs frame_1_writes args s ++ Jvm.arrayLocs frame_1_arrays args s ++ Jvm.staticLocs frame_1_statics s) 72 5440 → Post tb e args s (.returned v) u) :
    ArmFor flags0 classFile x code maxLocals ret World_1 tables_1 room_1 Calls_1 rest_1 Pre_1 Post := by
  intro l hfl _ _ p e ha hc hk s m args below hf hA hF happ hP
  obtain ⟨hcalls, hrest, hpre⟩ := hP
  obtain ⟨-, -, -, hnamed, -, -, -, hat⟩ := (Spec.applies_iff hf).mp happ
  obtain ⟨hg, hn⟩ := and_e (Cond.before_iff.mp (show (Jvm.Cond.and given_1 narrow_1).before args s = true from hpre))
  obtain ⟨hcnt, hgs⟩ := and_e hg
  obtain ⟨ha0, hr0⟩ := and_e hgs
  obtain ⟨ha1, hr1⟩ := and_e hr0
  obtain ⟨ha2, hr2⟩ := and_e hr1
  obtain ⟨ha3, hr3⟩ := and_e hr2
  obtain ⟨ha4, hr4⟩ := and_e hr3
  have ha5 := hr4
  obtain ⟨w0, w1, w2, w3, w4, w5, rfl⟩ : ∃ w0 w1 w2 w3 w4 w5 : Value, args = #[w0, w1, w2, w3, w4, w5] := by
    have hs : args.size = 6 := by simpa [Cond.value, given_1] using hcnt
    obtain ⟨L⟩ := args
    match L, hs with
    | [w0, w1, w2, w3, w4, w5], _ => exact ⟨w0, w1, w2, w3, w4, w5, rfl⟩
  have hw := fun d (hd : d ∈ tables_1) => atoms_spec (ws := Jvm.Cond.code x code maxLocals ret :: tables_1) hat d (List.mem_cons_of_mem _ hd)
  obtain ⟨hsets, hown0⟩ := atoms_of _ (rest_1_c_eq ▸ (show rest_1_c.before _ s = true from hrest))
  have hfit : Fit s := fun {y c} hc i hi => by
    obtain ⟨ha, rfl⟩ := Array.getElem?_eq_some_iff.mp hc
    have q := List.all_eq_true.mp ((Array.all_eq_true_iff_forall_mem.mp hF) _ (Array.getElem_mem ha)) i (List.mem_range.mpr hi)
    simpa [Array.getElem?_eq_getElem hi] using q
  obtain ⟨i0, ei0⟩ := is_v ha0
  obtain rfl : w0 = (.int i0) := Option.some.inj ei0
  obtain ⟨i1, ei1⟩ := is_v ha1
  obtain rfl : w1 = (.int i1) := Option.some.inj ei1
  obtain ⟨i2, ei2⟩ := is_v ha2
  obtain rfl : w2 = (.int i2) := Option.some.inj ei2
  obtain ⟨i3, ei3⟩ := is_v ha3
  obtain rfl : w3 = (.int i3) := Option.some.inj ei3
  obtain ⟨i4, ei4⟩ := is_v ha4
  obtain rfl : w4 = (.int i4) := Option.some.inj ei4
  obtain ⟨i5, ei5⟩ := is_v ha5
  obtain rfl : w5 = (.int i5) := Option.some.inj ei5
  obtain ⟨cz, ecz⟩ := is_v (Cond.before_iff.mp (hsets _ (List.mem_of_getElem? (i := 7) rfl)))
  have Scs : Sta s s.heap "java/lang/String" "COMPACT_STRINGS" "Z" (.int cz) := Sta.start ecz (Or.inl (hsets _ (List.mem_of_getElem? (i := 6) rfl)))
  have hcz : ¬ (cz = (0 : Int32)) := gotF (Cond.eq_ints ecz (Term.int_eval (0))) (not_v (Cond.before_iff.mp (hsets _ (List.mem_of_getElem? (i := 8) rfl))))
  have hEL : EW s _ Jvm.OwnK.EL := own_EL hw
  have hWd : Wd s := ⟨_, hEL, own_wS hw⟩
  have hCH : CHv s Jvm.OwnK.EL s.vm s.heap := CHv.start hEL (fun p hp => hcalls.1 p (own_ELc p hp)) (hsets _ (List.mem_of_getElem? (i := 8) rfl)) (own_wS hw _ (by simp [Bundle.stringAtoms])) (own_wS hw _ (by simp [Bundle.stringAtoms, Bundle.sN]))
  obtain ⟨u8, eu⟩ := exa_v (Cond.before_iff.mp (hsets _ (List.mem_of_getElem? (i := 17) rfl)))
  have Sin : Sta s s.heap "sun/nio/cs/UTF_8" "INSTANCE" "Lsun/nio/cs/UTF_8;" (.ref u8) := Sta.start eu (Or.inl (hsets _ (List.mem_of_getElem? (i := 16) rfl)))
  have Su8 : Sta s s.heap "java/nio/charset/StandardCharsets" "UTF_8" "Ljava/nio/charset/Charset;" (.ref u8) := Sta.start (own_eqr eu (Cond.before_iff.mp (hsets _ (List.mem_of_getElem? (i := 4) rfl)))) (Or.inl (hsets _ (List.mem_of_getElem? (i := 1) rfl)))
  obtain ⟨n, o, h1, h2, h3, v, L, rfl, ⟨hQ, N, -⟩, hch, hq⟩ := c_law l s _ hw tables_1 i0 i1 i2 i3 i4 i5 cz u8 s.heap Scs hcz Su8 Sin hWd (Old.start s) p e ha hc hk s m _ below hf ((Spec.applies_iff_loose hf).mp happ).1 ⟨rfl, State.Warmed39.refl s, rfl, hCH, fun _ q => nomatch q⟩ trivial
  obtain rfl := hQ
  exact ⟨n, _, h1, h2, h3, hpost _ _ _ _ _ _ ⟨Cond.after_iff.mpr rfl, Cond.after_iff.mpr (eq_i res_at (Term.int_eval (1)) rfl), trivial⟩ ⟨hq.1, hq.2.1, hq.2.2.1, (hq.2.2.2.sift fun y hy => Or.inr (N y hy)).mono (by decide) (by decide)⟩⟩
theorem main_1_1 : Claimed_1_1 := comes_1 fun _ _ _ _ _ _ h hF => ⟨h.1, hF⟩
theorem main_1_2 : Claimed_1_2 := comes_1 fun _ _ _ _ _ _ h hF => ⟨h.2.1, hF⟩
end Jvm.Pilot.@@N@@
namespace Jvm.Pilot.@@N@@
open Jvm Jvm.ClassFile Sem Op Lib Jvm.Free Jvm.Stand Jvm.Pilot.@@N@@.Jvm.D
/-! MADE BY PROGRAM (witnessworld.py) out of the Statement's table words and the real class files: 30 classes; the members and pool entries that the words name. The judged class is class 1, her method 3. -/
namespace start1
open Jvm.ClassFile
def u (s : String) : CpInfo := .utf8 (stringToUtf16 s)
/-- a pool by its gaps: so many unusable entries, then the entry; so many at the end -/
def gap : Nat → List CpInfo → List CpInfo
  | 0, r => r
  | n + 1, r => .unusable :: gap n r
def poolList (es : List (Nat × CpInfo)) (last : Nat) : List CpInfo := es.foldr (fun e r => gap e.1 (e.2 :: r)) (gap last [])
def pool (es : List (Nat × CpInfo)) (last : Nat) : Array CpInfo := ⟨poolList es last⟩
def fileOf (pool : Array CpInfo) (this : Nat) (attrs : Array Attribute := #[]) (ms : Array MethodInfo := #[]) (fl : Nat := 33) (sup : Nat := 0) (ifs : Array Nat := #[]) (fds : Array FieldInfo := #[]) : ClassFile where
  minorVersion := 0
  majorVersion := 65
  constantPool := pool
  accessFlags := fl
  thisClass := this
  superClass := sup
  interfaces := ifs
  fields := fds
  methods := ms
  attributes := attrs
def plain (name : String) (sup : Option ClassId) : Class where
  name := name
  kind := .ordinary
  loader := none
  accessFlags := 33
  super := sup
  interfaces := #[]
  cf := none
  fields := #[]
  methods := #[]
  instanceTypes := #[]
  staticTypes := #[]
  resolved := #[]
  callSites := []
  init := .initialized
  statics := none
  mirror := none

def pool0 : Array CpInfo := pool [(5, u "<init>"), (0, u "()V"), (1, .class_ 10), (1, u "java/lang/Object"), (85, u "clone"), (0, u "()Ljava/lang/Object;")] 26

def k0c0 : Code := { maxStack := 0, maxLocals := 1, code := object_method_1_code, exceptionTable := #[], attributes := #[] }
def k0m0 : Method := { name := "<init>", desc := "()V", sig := { parameters := [], returnType := none }, accessFlags := 1, code := some k0c0 }
def k0m1 : Method := { name := "clone", desc := "()Ljava/lang/Object;", sig := { parameters := [], returnType := some (.object "java/lang/Object") }, accessFlags := 260, code := none }
/-- java/lang/Object -/
def k0 : Class := { plain "java/lang/Object" none with
  accessFlags := 33
  interfaces := #[]
  cf := some (fileOf pool0 8 #[] #[{ accessFlags := 1, nameIndex := 5, descriptorIndex := 6, attributes := #[] }, { accessFlags := 260, nameIndex := 96, descriptorIndex := 97, attributes := #[] }] 33 0 #[] #[])
  fields := #[]
  methods := #[k0m0, k0m1]
  instanceTypes := #[]
  staticTypes := #[]
  resolved := Array.replicate 124 none
  statics := none }

def pool1 : Array CpInfo := pool [(2, .class_ 4), (1, u "java/lang/Object"), (0, u "<init>"), (0, u "()V"), (0, .class_ 8), (0, u "java/lang/String"), (0, .methodref 7 10), (0, .nameAndType 5 11), (0, u "([C)V"), (0, .methodref 7 13), (0, .nameAndType 14 15), (0, u "valueOf"), (0, u "(C)Ljava/lang/String;"), (0, .methodref 7 17), (0, .nameAndType 18 19), (0, u "equals"), (0, u "(Ljava/lang/Object;)Z"), (0, .methodref 21 22), (0, .class_ 23), (0, .nameAndType 24 25), (0, u "com/example/outbox_relay/outboxrelay/OutboxMessageWithBusinessKeyPinLaw"), (0, u "mk"), (0, u "(I)Ljava/lang/String;"), (0, .integer 88666), (0, .class_ 28), (0, u "com/example/outbox_relay/outboxrelay/OutboxMessage"), (0, .methodref 27 30), (0, .nameAndType 5 31), (0, u "(Ljava/lang/String;Ljava/lang/String;Ljava/lang/String;)V"), (0, .methodref 27 33), (0, .nameAndType 34 35), (0, u "withMessageId"), (0, u "(Ljava/lang/String;)Lcom/example/outbox_relay/outboxrelay/OutboxMessage;"), (0, .methodref 27 37), (0, .nameAndType 38 35), (0, u "withBusinessModule"), (0, .methodref 27 40), (0, .nameAndType 41 35), (0, u "withBusinessKey"), (0, .methodref 27 43), (0, .nameAndType 44 45), (0, u "getBusinessKey"), (0, u "()Ljava/lang/String;"), (0, .methodref 21 47), (0, .nameAndType 48 49), (0, u "same"), (0, u "(Ljava/lang/String;Ljava/lang/String;)Z"), (0, .methodref 27 51), (0, .nameAndType 52 45), (0, u "getExchange"), (0, .methodref 27 54), (0, .nameAndType 55 45), (0, u "getRoutingKey"), (0, .methodref 27 57), (0, .nameAndType 58 45), (0, u "getPayload"), (0, .methodref 27 60), (0, .nameAndType 61 45), (0, u "getMessageId"), (0, .methodref 27 63), (0, .nameAndType 64 45), (0, u "getBusinessModule"), (3, u "law"), (0, u "(IIIIII)Z")] 2

def k1m0 : Method := { name := "<init>", desc := "()V", sig := { parameters := [], returnType := none }, accessFlags := 1, code := none }
def k1c1 : Code := { maxStack := 3, maxLocals := 5, code := method_2_code, exceptionTable := #[], attributes := #[] }
def k1m1 : Method := { name := "mk", desc := "(I)Ljava/lang/String;", sig := { parameters := [.int], returnType := some (.object "java/lang/String") }, accessFlags := 10, code := some k1c1 }
def k1c2 : Code := { maxStack := 2, maxLocals := 2, code := method_3_code, exceptionTable := #[], attributes := #[] }
def k1m2 : Method := { name := "same", desc := "(Ljava/lang/String;Ljava/lang/String;)Z", sig := { parameters := [(.object "java/lang/String"), (.object "java/lang/String")], returnType := some .boolean }, accessFlags := 10, code := some k1c2 }
def k1c3 : Code := { maxStack := 5, maxLocals := 15, code := code, exceptionTable := #[], attributes := #[] }
def k1m3 : Method := { name := "law", desc := "(IIIIII)Z", sig := { parameters := [.int, .int, .int, .int, .int, .int], returnType := some .boolean }, accessFlags := 9, code := some k1c3 }
/-- com/example/outbox_relay/outboxrelay/OutboxMessageWithBusinessKeyPinLaw -/
def k1 : Class := { plain "com/example/outbox_relay/outboxrelay/OutboxMessageWithBusinessKeyPinLaw" (some 0) with
  accessFlags := 49
  interfaces := #[]
  cf := some (fileOf pool1 21 #[] #[{ accessFlags := 1, nameIndex := 5, descriptorIndex := 6, attributes := #[] }, { accessFlags := 10, nameIndex := 24, descriptorIndex := 25, attributes := #[] }, { accessFlags := 10, nameIndex := 48, descriptorIndex := 49, attributes := #[] }, { accessFlags := 9, nameIndex := 68, descriptorIndex := 69, attributes := #[] }] 49 2 #[] #[])
  fields := #[]
  methods := #[k1m0, k1m1, k1m2, k1m3]
  instanceTypes := #[]
  staticTypes := #[]
  resolved := Array.replicate 72 none
  statics := none }

def pool2 : Array CpInfo := pool [(1, .class_ 2), (0, u "java/io/Serializable"), (0, .class_ 4), (0, u "java/lang/Object")] 2

/-- java/io/Serializable -/
def k2 : Class := { plain "java/io/Serializable" (some 0) with
  accessFlags := 1537
  interfaces := #[]
  cf := some (fileOf pool2 1 #[] #[] 1537 3 #[] #[])
  fields := #[]
  methods := #[]
  instanceTypes := #[]
  staticTypes := #[]
  resolved := Array.replicate 7 none
  statics := none }

def pool3 : Array CpInfo := pool [(1, .class_ 2), (0, u "java/lang/Comparable"), (0, .class_ 4), (0, u "java/lang/Object")] 7

/-- java/lang/Comparable -/
def k3 : Class := { plain "java/lang/Comparable" (some 0) with
  accessFlags := 1537
  interfaces := #[]
  cf := some (fileOf pool3 1 #[] #[] 1537 3 #[] #[])
  fields := #[]
  methods := #[]
  instanceTypes := #[]
  staticTypes := #[]
  resolved := Array.replicate 12 none
  statics := none }

def pool4 : Array CpInfo := pool [(2, .class_ 4), (1, u "java/lang/CharSequence"), (42, .class_ 48), (0, u "java/lang/CharSequence$1CodePointIterator"), (10, .class_ 60), (0, u "java/lang/CharSequence$1CharIterator"), (5, .class_ 67), (0, u "java/lang/Object")] 63

/-- java/lang/CharSequence -/
def k4 : Class := { plain "java/lang/CharSequence" (some 0) with
  accessFlags := 1537
  interfaces := #[]
  cf := some (fileOf pool4 2 #[.nestMembers #[47, 59]] #[] 1537 66 #[] #[])
  fields := #[]
  methods := #[]
  instanceTypes := #[]
  staticTypes := #[]
  resolved := Array.replicate 131 none
  statics := none }

def pool5 : Array CpInfo := pool [(1, .class_ 2), (0, u "java/lang/constant/Constable"), (0, .class_ 4), (0, u "java/lang/Object")] 6

/-- java/lang/constant/Constable -/
def k5 : Class := { plain "java/lang/constant/Constable" (some 0) with
  accessFlags := 1537
  interfaces := #[]
  cf := some (fileOf pool5 1 #[] #[] 1537 3 #[] #[])
  fields := #[]
  methods := #[]
  instanceTypes := #[]
  staticTypes := #[]
  resolved := Array.replicate 11 none
  statics := none }

def pool6 : Array CpInfo := pool [(1, .class_ 2), (0, u "java/lang/constant/ConstantDesc"), (0, .class_ 4), (0, u "java/lang/Object")] 32

/-- java/lang/constant/ConstantDesc -/
def k6 : Class := { plain "java/lang/constant/ConstantDesc" (some 0) with
  accessFlags := 1537
  interfaces := #[]
  cf := some (fileOf pool6 1 #[] #[] 1537 3 #[] #[])
  fields := #[]
  methods := #[]
  instanceTypes := #[]
  staticTypes := #[]
  resolved := Array.replicate 37 none
  statics := none }

def pool7 : Array CpInfo := pool [(1, .methodref 2 3), (0, .class_ 4), (0, .nameAndType 5 6), (0, u "java/lang/Object"), (0, u "<init>"), (0, u "()V"), (0, .string 8), (0, u ""), (0, .fieldref 10 11), (0, .class_ 12), (0, .nameAndType 13 14), (0, u "java/lang/String"), (0, u "value"), (0, u "[B"), (0, .fieldref 10 16), (0, .nameAndType 17 18), (0, u "coder"), (0, u "B"), (2, u "hash"), (0, u "I"), (2, u "hashIsZero"), (0, u "Z"), (0, .methodref 10 28), (0, .nameAndType 5 29), (0, u "([CIILjava/lang/Void;)V"), (7, u "(III)I"), (0, .fieldref 10 39), (0, .nameAndType 40 26), (0, u "COMPACT_STRINGS"), (1, .class_ 44), (1, u "java/lang/StringUTF16"), (0, u "compress"), (1, .methodref 42 48), (0, .nameAndType 49 50), (0, u "coderFromArrayLen"), (0, u "([BI)B"), (2, u "toBytes"), (1, .class_ 57), (1, u "java/util/Arrays"), (2, .methodref 42 61), (0, .nameAndType 62 63), (0, u "newBytesFor"), (0, u "(I)[B"), (15, .class_ 81), (1, u "java/util/Objects"), (4, .fieldref 87 88), (0, .class_ 89), (0, .nameAndType 90 91), (0, u "sun/nio/cs/UTF_8"), (0, u "INSTANCE"), (0, u "Lsun/nio/cs/UTF_8;"), (1, .class_ 95), (1, u "java/lang/StringCoding"), (6, .methodref 55 103), (0, .nameAndType 104 105), (0, u "copyOf"), (0, u "([BI)[B"), (1, .class_ 109), (1, u "java/lang/StringLatin1"), (18, .methodref 93 129), (0, .nameAndType 130 131), (0, u "hasNegatives"), (0, u "([BII)Z"), (10, u "()Z"), (34, .methodref 42 178), (0, .nameAndType 45 179), (0, u "([CII)[B"), (29, .methodref 10 210), (0, .nameAndType 5 211), (0, u "([BB)V"), (40, .methodref 10 253), (0, .nameAndType 254 255), (0, u "encodeUTF8"), (0, u "(B[BZ)[B"), (23, .methodref 280 281), (0, .class_ 14), (0, .nameAndType 282 283), (0, u "clone"), (0, u "()Ljava/lang/Object;"), (33, u "encode"), (16, u "()I"), (0, .methodref 10 336), (0, .nameAndType 17 337), (0, u "()B"), (31, u "(C)Z"), (122, .methodref 10 493), (0, .nameAndType 494 142), (0, u "isLatin1"), (10, .methodref 10 506), (0, .nameAndType 507 334), (0, u "length"), (3, .methodref 79 512), (0, .nameAndType 513 37), (0, u "checkFromToIndex"), (2, u "codePointCount"), (15, u "getBytes"), (2, .methodref 10 536), (0, .nameAndType 317 537), (0, u "(Ljava/nio/charset/Charset;B[B)[B"), (5, u "equals"), (29, u "(Ljava/lang/Object;)Z"), (1, .class_ 576), (0, u "java/lang/CharSequence"), (22, u "CASE_INSENSITIVE_ORDER"), (0, u "Ljava/util/Comparator;"), (35, u "(II)I"), (145, u "valueOf"), (0, u "(C)Ljava/lang/String;"), (226, u "([C)V"), (4, .methodref 107 1016), (0, .nameAndType 1017 369), (0, u "canEncode"), (0, .methodref 107 1019), (0, .nameAndType 53 1020), (0, u "(C)[B"), (80, u "serialPersistentFields"), (0, u "[Ljava/io/ObjectStreamField;"), (0, .class_ 1104), (0, u "java/lang/String$CaseInsensitiveComparator"), (1, .class_ 1107), (0, u "java/io/Serializable"), (0, .class_ 1109), (0, u "java/lang/Comparable"), (0, .class_ 1111), (0, u "java/lang/constant/Constable"), (0, .class_ 1113), (0, u "java/lang/constant/ConstantDesc"), (2, u "serialVersionUID"), (0, u "J"), (3, u "REPL"), (0, u "C"), (2, u "LATIN1"), (1, u "UTF16"), (117, u "(Ljava/nio/charset/Charset;)[B")] 205

def k7m0 : Method := { name := "<init>", desc := "()V", sig := { parameters := [], returnType := none }, accessFlags := 1, code := none }
def k7c1 : Code := { maxStack := 5, maxLocals := 2, code := jdk_42_method_3_code, exceptionTable := #[], attributes := #[] }
def k7m1 : Method := { name := "<init>", desc := "([C)V", sig := { parameters := [(.array .char)], returnType := none }, accessFlags := 1, code := some k7c1 }
def k7c2 : Code := { maxStack := 4, maxLocals := 3, code := jdk_42_method_18_code, exceptionTable := #[], attributes := #[] }
def k7m2 : Method := { name := "encode", desc := "(Ljava/nio/charset/Charset;B[B)[B", sig := { parameters := [(.object "java/nio/charset/Charset"), .byte, (.array .byte)], returnType := some (.array .byte) }, accessFlags := 10, code := some k7c2 }
def k7c3 : Code := { maxStack := 5, maxLocals := 9, code := jdk_42_method_46_code, exceptionTable := #[], attributes := #[] }
def k7m3 : Method := { name := "encodeUTF8", desc := "(B[BZ)[B", sig := { parameters := [.byte, (.array .byte), .boolean], returnType := some (.array .byte) }, accessFlags := 10, code := some k7c3 }
def k7c4 : Code := { maxStack := 2, maxLocals := 1, code := jdk_42_method_54_code, exceptionTable := #[], attributes := #[] }
def k7m4 : Method := { name := "length", desc := "()I", sig := { parameters := [], returnType := some .int }, accessFlags := 1, code := some k7c4 }
def k7c5 : Code := { maxStack := 3, maxLocals := 3, code := jdk_42_method_59_code, exceptionTable := #[], attributes := #[] }
def k7m5 : Method := { name := "codePointCount", desc := "(II)I", sig := { parameters := [.int, .int], returnType := some .int }, accessFlags := 1, code := some k7c5 }
def k7c6 : Code := { maxStack := 3, maxLocals := 2, code := jdk_42_method_64_code, exceptionTable := #[], attributes := #[] }
def k7m6 : Method := { name := "getBytes", desc := "(Ljava/nio/charset/Charset;)[B", sig := { parameters := [(.object "java/nio/charset/Charset")], returnType := some (.array .byte) }, accessFlags := 1, code := some k7c6 }
def k7c7 : Code := { maxStack := 2, maxLocals := 3, code := jdk_42_method_66_code, exceptionTable := #[], attributes := #[] }
def k7m7 : Method := { name := "equals", desc := "(Ljava/lang/Object;)Z", sig := { parameters := [(.object "java/lang/Object")], returnType := some .boolean }, accessFlags := 1, code := some k7c7 }
def k7c8 : Code := { maxStack := 4, maxLocals := 1, code := jdk_42_method_139_code, exceptionTable := #[], attributes := #[] }
def k7m8 : Method := { name := "valueOf", desc := "(C)Ljava/lang/String;", sig := { parameters := [.char], returnType := some (.object "java/lang/String") }, accessFlags := 9, code := some k7c8 }
def k7c9 : Code := { maxStack := 4, maxLocals := 6, code := jdk_42_method_149_code, exceptionTable := #[], attributes := #[] }
def k7m9 : Method := { name := "<init>", desc := "([CIILjava/lang/Void;)V", sig := { parameters := [(.array .char), .int, .int, (.object "java/lang/Void")], returnType := none }, accessFlags := 2, code := some k7c9 }
def k7c10 : Code := { maxStack := 2, maxLocals := 3, code := jdk_42_method_151_code, exceptionTable := #[], attributes := #[] }
def k7m10 : Method := { name := "<init>", desc := "([BB)V", sig := { parameters := [(.array .byte), .byte], returnType := none }, accessFlags := 0, code := some k7c10 }
def k7c11 : Code := { maxStack := 1, maxLocals := 1, code := jdk_42_method_152_code, exceptionTable := #[], attributes := #[] }
def k7m11 : Method := { name := "coder", desc := "()B", sig := { parameters := [], returnType := some .byte }, accessFlags := 0, code := some k7c11 }
def k7c12 : Code := { maxStack := 1, maxLocals := 1, code := jdk_42_method_154_code, exceptionTable := #[], attributes := #[] }
def k7m12 : Method := { name := "isLatin1", desc := "()Z", sig := { parameters := [], returnType := some .boolean }, accessFlags := 0, code := some k7c12 }
/-- java/lang/String -/
def k7 : Class := { plain "java/lang/String" (some 0) with
  accessFlags := 49
  interfaces := #[2, 3, 4, 5, 6]
  cf := some (fileOf pool7 10 #[.nestMembers #[1103]] #[{ accessFlags := 1, nameIndex := 5, descriptorIndex := 6, attributes := #[] }, { accessFlags := 1, nameIndex := 5, descriptorIndex := 1010, attributes := #[] }, { accessFlags := 10, nameIndex := 317, descriptorIndex := 537, attributes := #[] }, { accessFlags := 10, nameIndex := 254, descriptorIndex := 255, attributes := #[] }, { accessFlags := 1, nameIndex := 507, descriptorIndex := 334, attributes := #[] }, { accessFlags := 1, nameIndex := 516, descriptorIndex := 636, attributes := #[] }, { accessFlags := 1, nameIndex := 532, descriptorIndex := 1245, attributes := #[] }, { accessFlags := 1, nameIndex := 543, descriptorIndex := 573, attributes := #[] }, { accessFlags := 9, nameIndex := 782, descriptorIndex := 783, attributes := #[] }, { accessFlags := 2, nameIndex := 5, descriptorIndex := 29, attributes := #[] }, { accessFlags := 0, nameIndex := 5, descriptorIndex := 211, attributes := #[] }, { accessFlags := 0, nameIndex := 17, descriptorIndex := 337, attributes := #[] }, { accessFlags := 0, nameIndex := 494, descriptorIndex := 142, attributes := #[] }] 49 2 #[1106, 1108, 575, 1110, 1112] #[{ accessFlags := 18, nameIndex := 13, descriptorIndex := 14, attributes := #[] }, { accessFlags := 18, nameIndex := 17, descriptorIndex := 18, attributes := #[] }, { accessFlags := 2, nameIndex := 21, descriptorIndex := 22, attributes := #[] }, { accessFlags := 2, nameIndex := 25, descriptorIndex := 26, attributes := #[] }, { accessFlags := 26, nameIndex := 1116, descriptorIndex := 1117, attributes := #[] }, { accessFlags := 24, nameIndex := 40, descriptorIndex := 26, attributes := #[] }, { accessFlags := 26, nameIndex := 1101, descriptorIndex := 1102, attributes := #[] }, { accessFlags := 26, nameIndex := 1121, descriptorIndex := 1122, attributes := #[] }, { accessFlags := 25, nameIndex := 599, descriptorIndex := 600, attributes := #[] }, { accessFlags := 24, nameIndex := 1125, descriptorIndex := 18, attributes := #[] }, { accessFlags := 24, nameIndex := 1127, descriptorIndex := 18, attributes := #[] }])
  fields := #[{ name := "value", type := (.array .byte), accessFlags := 18, slot := 0, constantValue := 0 }, { name := "coder", type := .byte, accessFlags := 18, slot := 1, constantValue := 0 }, { name := "hash", type := .int, accessFlags := 2, slot := 2, constantValue := 0 }, { name := "hashIsZero", type := .boolean, accessFlags := 2, slot := 3, constantValue := 0 }, { name := "serialVersionUID", type := .long, accessFlags := 26, slot := 0, constantValue := 0 }, { name := "COMPACT_STRINGS", type := .boolean, accessFlags := 24, slot := 1, constantValue := 0 }, { name := "serialPersistentFields", type := (.array (.object "java/io/ObjectStreamField")), accessFlags := 26, slot := 2, constantValue := 0 }, { name := "REPL", type := .char, accessFlags := 26, slot := 3, constantValue := 0 }, { name := "CASE_INSENSITIVE_ORDER", type := (.object "java/util/Comparator"), accessFlags := 25, slot := 4, constantValue := 0 }, { name := "LATIN1", type := .byte, accessFlags := 24, slot := 5, constantValue := 0 }, { name := "UTF16", type := .byte, accessFlags := 24, slot := 6, constantValue := 0 }]
  methods := #[k7m0, k7m1, k7m2, k7m3, k7m4, k7m5, k7m6, k7m7, k7m8, k7m9, k7m10, k7m11, k7m12]
  instanceTypes := #[(.array .byte), .byte, .int, .boolean]
  staticTypes := #[.long, .boolean, (.array (.object "java/io/ObjectStreamField")), .char, (.object "java/util/Comparator"), .byte, .byte]
  resolved := Array.replicate 1451 none
  statics := some 0 }

def pool8 : Array CpInfo := pool [(1, .string 2), (0, u "exchange"), (0, .class_ 4), (0, u "com/example/outbox_relay/outboxrelay/OutboxMessage"), (0, .methodref 3 6), (0, .nameAndType 7 8), (0, u "requireUtf8AtMost"), (0, u "(Ljava/lang/String;Ljava/lang/String;I)Ljava/lang/String;"), (0, .string 10), (0, u "routing key"), (0, .string 12), (0, u "payload"), (0, .integer 1048576), (0, .methodref 3 15), (0, .nameAndType 16 17), (0, u "<init>"), (0, u "(Ljava/lang/String;Ljava/lang/String;Ljava/lang/String;Ljava/lang/String;Ljava/lang/String;Ljava/lang/String;)V"), (0, .methodref 19 20), (0, .class_ 21), (0, .nameAndType 16 22), (0, u "java/lang/Object"), (0, u "()V"), (0, .fieldref 3 24), (0, .nameAndType 2 25), (0, u "Ljava/lang/String;"), (0, .fieldref 3 27), (0, .nameAndType 28 25), (0, u "routingKey"), (0, .fieldref 3 30), (0, .nameAndType 12 25), (0, .fieldref 3 32), (0, .nameAndType 33 25), (0, u "messageId"), (0, .fieldref 3 35), (0, .nameAndType 36 25), (0, u "businessModule"), (0, .fieldref 3 38), (0, .nameAndType 39 25), (0, u "businessKey"), (0, .string 41), (0, u "message id"), (0, .methodref 43 44), (0, .class_ 45), (0, .nameAndType 46 47), (0, u "java/util/Objects"), (0, u "requireNonNull"), (0, u "(Ljava/lang/Object;Ljava/lang/String;)Ljava/lang/Object;"), (0, .methodref 49 50), (0, .class_ 51), (0, .nameAndType 52 53), (0, u "java/lang/String"), (0, u "length"), (0, u "()I"), (0, .methodref 49 55), (0, .nameAndType 56 57), (0, u "codePointCount"), (0, u "(II)I"), (7, .fieldref 66 67), (0, .class_ 68), (0, .nameAndType 69 70), (0, u "java/nio/charset/StandardCharsets"), (0, u "UTF_8"), (0, u "Ljava/nio/charset/Charset;"), (0, .methodref 49 72), (0, .nameAndType 73 74), (0, u "getBytes"), (0, u "(Ljava/nio/charset/Charset;)[B"), (4, u "MAX_NAME_BYTES"), (0, u "I"), (2, u "MAX_PAYLOAD_BYTES"), (0, u "MAX_MESSAGE_ID_CHARS"), (1, u "(Ljava/lang/String;Ljava/lang/String;Ljava/lang/String;)V"), (2, u "withMessageId"), (0, u "(Ljava/lang/String;)Lcom/example/outbox_relay/outboxrelay/OutboxMessage;"), (1, u "withBusinessModule"), (0, u "withBusinessKey"), (0, u "getExchange"), (0, u "()Ljava/lang/String;"), (0, u "getRoutingKey"), (0, u "getPayload"), (0, u "getMessageId"), (0, u "getBusinessModule"), (0, u "getBusinessKey")] 17

def k8c0 : Code := { maxStack := 7, maxLocals := 4, code := prog_1_method_1_code, exceptionTable := #[], attributes := #[] }
def k8m0 : Method := { name := "<init>", desc := "(Ljava/lang/String;Ljava/lang/String;Ljava/lang/String;)V", sig := { parameters := [(.object "java/lang/String"), (.object "java/lang/String"), (.object "java/lang/String")], returnType := none }, accessFlags := 1, code := some k8c0 }
def k8c1 : Code := { maxStack := 2, maxLocals := 7, code := prog_1_method_2_code, exceptionTable := #[], attributes := #[] }
def k8m1 : Method := { name := "<init>", desc := "(Ljava/lang/String;Ljava/lang/String;Ljava/lang/String;Ljava/lang/String;Ljava/lang/String;Ljava/lang/String;)V", sig := { parameters := [(.object "java/lang/String"), (.object "java/lang/String"), (.object "java/lang/String"), (.object "java/lang/String"), (.object "java/lang/String"), (.object "java/lang/String")], returnType := none }, accessFlags := 2, code := some k8c1 }
def k8c2 : Code := { maxStack := 8, maxLocals := 2, code := prog_1_method_3_code, exceptionTable := #[], attributes := #[] }
def k8m2 : Method := { name := "withMessageId", desc := "(Ljava/lang/String;)Lcom/example/outbox_relay/outboxrelay/OutboxMessage;", sig := { parameters := [(.object "java/lang/String")], returnType := some (.object "com/example/outbox_relay/outboxrelay/OutboxMessage") }, accessFlags := 1, code := some k8c2 }
def k8c3 : Code := { maxStack := 8, maxLocals := 2, code := prog_1_method_4_code, exceptionTable := #[], attributes := #[] }
def k8m3 : Method := { name := "withBusinessModule", desc := "(Ljava/lang/String;)Lcom/example/outbox_relay/outboxrelay/OutboxMessage;", sig := { parameters := [(.object "java/lang/String")], returnType := some (.object "com/example/outbox_relay/outboxrelay/OutboxMessage") }, accessFlags := 1, code := some k8c3 }
def k8c4 : Code := { maxStack := 8, maxLocals := 2, code := prog_1_method_5_code, exceptionTable := #[], attributes := #[] }
def k8m4 : Method := { name := "withBusinessKey", desc := "(Ljava/lang/String;)Lcom/example/outbox_relay/outboxrelay/OutboxMessage;", sig := { parameters := [(.object "java/lang/String")], returnType := some (.object "com/example/outbox_relay/outboxrelay/OutboxMessage") }, accessFlags := 1, code := some k8c4 }
def k8c5 : Code := { maxStack := 1, maxLocals := 1, code := prog_1_method_6_code, exceptionTable := #[], attributes := #[] }
def k8m5 : Method := { name := "getExchange", desc := "()Ljava/lang/String;", sig := { parameters := [], returnType := some (.object "java/lang/String") }, accessFlags := 1, code := some k8c5 }
def k8c6 : Code := { maxStack := 1, maxLocals := 1, code := prog_1_method_7_code, exceptionTable := #[], attributes := #[] }
def k8m6 : Method := { name := "getRoutingKey", desc := "()Ljava/lang/String;", sig := { parameters := [], returnType := some (.object "java/lang/String") }, accessFlags := 1, code := some k8c6 }
def k8c7 : Code := { maxStack := 1, maxLocals := 1, code := prog_1_method_8_code, exceptionTable := #[], attributes := #[] }
def k8m7 : Method := { name := "getPayload", desc := "()Ljava/lang/String;", sig := { parameters := [], returnType := some (.object "java/lang/String") }, accessFlags := 1, code := some k8c7 }
def k8c8 : Code := { maxStack := 1, maxLocals := 1, code := prog_1_method_9_code, exceptionTable := #[], attributes := #[] }
def k8m8 : Method := { name := "getMessageId", desc := "()Ljava/lang/String;", sig := { parameters := [], returnType := some (.object "java/lang/String") }, accessFlags := 1, code := some k8c8 }
def k8c9 : Code := { maxStack := 1, maxLocals := 1, code := prog_1_method_10_code, exceptionTable := #[], attributes := #[] }
def k8m9 : Method := { name := "getBusinessModule", desc := "()Ljava/lang/String;", sig := { parameters := [], returnType := some (.object "java/lang/String") }, accessFlags := 1, code := some k8c9 }
def k8c10 : Code := { maxStack := 1, maxLocals := 1, code := prog_1_method_11_code, exceptionTable := #[], attributes := #[] }
def k8m10 : Method := { name := "getBusinessKey", desc := "()Ljava/lang/String;", sig := { parameters := [], returnType := some (.object "java/lang/String") }, accessFlags := 1, code := some k8c10 }
def k8c11 : Code := { maxStack := 4, maxLocals := 3, code := prog_1_method_12_code, exceptionTable := #[], attributes := #[] }
def k8m11 : Method := { name := "requireUtf8AtMost", desc := "(Ljava/lang/String;Ljava/lang/String;I)Ljava/lang/String;", sig := { parameters := [(.object "java/lang/String"), (.object "java/lang/String"), .int], returnType := some (.object "java/lang/String") }, accessFlags := 10, code := some k8c11 }
/-- com/example/outbox_relay/outboxrelay/OutboxMessage -/
def k8 : Class := { plain "com/example/outbox_relay/outboxrelay/OutboxMessage" (some 0) with
  accessFlags := 33
  interfaces := #[]
  cf := some (fileOf pool8 3 #[] #[{ accessFlags := 1, nameIndex := 16, descriptorIndex := 86, attributes := #[] }, { accessFlags := 2, nameIndex := 16, descriptorIndex := 17, attributes := #[] }, { accessFlags := 1, nameIndex := 89, descriptorIndex := 90, attributes := #[] }, { accessFlags := 1, nameIndex := 92, descriptorIndex := 90, attributes := #[] }, { accessFlags := 1, nameIndex := 93, descriptorIndex := 90, attributes := #[] }, { accessFlags := 1, nameIndex := 94, descriptorIndex := 95, attributes := #[] }, { accessFlags := 1, nameIndex := 96, descriptorIndex := 95, attributes := #[] }, { accessFlags := 1, nameIndex := 97, descriptorIndex := 95, attributes := #[] }, { accessFlags := 1, nameIndex := 98, descriptorIndex := 95, attributes := #[] }, { accessFlags := 1, nameIndex := 99, descriptorIndex := 95, attributes := #[] }, { accessFlags := 1, nameIndex := 100, descriptorIndex := 95, attributes := #[] }, { accessFlags := 10, nameIndex := 7, descriptorIndex := 8, attributes := #[] }] 33 19 #[] #[{ accessFlags := 24, nameIndex := 79, descriptorIndex := 80, attributes := #[] }, { accessFlags := 24, nameIndex := 83, descriptorIndex := 80, attributes := #[] }, { accessFlags := 24, nameIndex := 84, descriptorIndex := 80, attributes := #[] }, { accessFlags := 18, nameIndex := 2, descriptorIndex := 25, attributes := #[] }, { accessFlags := 18, nameIndex := 28, descriptorIndex := 25, attributes := #[] }, { accessFlags := 18, nameIndex := 12, descriptorIndex := 25, attributes := #[] }, { accessFlags := 18, nameIndex := 33, descriptorIndex := 25, attributes := #[] }, { accessFlags := 18, nameIndex := 36, descriptorIndex := 25, attributes := #[] }, { accessFlags := 18, nameIndex := 39, descriptorIndex := 25, attributes := #[] }])
  fields := #[{ name := "MAX_NAME_BYTES", type := .int, accessFlags := 24, slot := 0, constantValue := 0 }, { name := "MAX_PAYLOAD_BYTES", type := .int, accessFlags := 24, slot := 1, constantValue := 0 }, { name := "MAX_MESSAGE_ID_CHARS", type := .int, accessFlags := 24, slot := 2, constantValue := 0 }, { name := "exchange", type := (.object "java/lang/String"), accessFlags := 18, slot := 0, constantValue := 0 }, { name := "routingKey", type := (.object "java/lang/String"), accessFlags := 18, slot := 1, constantValue := 0 }, { name := "payload", type := (.object "java/lang/String"), accessFlags := 18, slot := 2, constantValue := 0 }, { name := "messageId", type := (.object "java/lang/String"), accessFlags := 18, slot := 3, constantValue := 0 }, { name := "businessModule", type := (.object "java/lang/String"), accessFlags := 18, slot := 4, constantValue := 0 }, { name := "businessKey", type := (.object "java/lang/String"), accessFlags := 18, slot := 5, constantValue := 0 }]
  methods := #[k8m0, k8m1, k8m2, k8m3, k8m4, k8m5, k8m6, k8m7, k8m8, k8m9, k8m10, k8m11]
  instanceTypes := #[(.object "java/lang/String"), (.object "java/lang/String"), (.object "java/lang/String"), (.object "java/lang/String"), (.object "java/lang/String"), (.object "java/lang/String")]
  staticTypes := #[.int, .int, .int]
  resolved := Array.replicate 118 none
  statics := none }

def pool9 : Array CpInfo := pool [(2, .class_ 4), (1, u "java/lang/Object"), (0, u "<init>"), (0, u "()V"), (35, .class_ 44), (1, u "java/util/Objects"), (0, u "requireNonNull"), (48, u "(Ljava/lang/Object;Ljava/lang/String;)Ljava/lang/Object;"), (11, .class_ 108), (1, u "jdk/internal/util/Preconditions"), (2, .methodref 106 112), (0, .nameAndType 113 114), (0, u "checkFromToIndex"), (0, u "(IIILjava/util/function/BiFunction;)I"), (60, u "(III)I")] 8

def k9m0 : Method := { name := "<init>", desc := "()V", sig := { parameters := [], returnType := none }, accessFlags := 2, code := none }
def k9c1 : Code := { maxStack := 3, maxLocals := 2, code := jdk_31_method_11_code, exceptionTable := #[], attributes := #[] }
def k9m1 : Method := { name := "requireNonNull", desc := "(Ljava/lang/Object;Ljava/lang/String;)Ljava/lang/Object;", sig := { parameters := [(.object "java/lang/Object"), (.object "java/lang/String")], returnType := some (.object "java/lang/Object") }, accessFlags := 9, code := some k9c1 }
def k9c2 : Code := { maxStack := 4, maxLocals := 3, code := jdk_31_method_18_code, exceptionTable := #[], attributes := #[] }
def k9m2 : Method := { name := "checkFromToIndex", desc := "(III)I", sig := { parameters := [.int, .int, .int], returnType := some .int }, accessFlags := 9, code := some k9c2 }
/-- java/util/Objects -/
def k9 : Class := { plain "java/util/Objects" (some 0) with
  accessFlags := 49
  interfaces := #[]
  cf := some (fileOf pool9 42 #[] #[{ accessFlags := 2, nameIndex := 5, descriptorIndex := 6, attributes := #[] }, { accessFlags := 9, nameIndex := 45, descriptorIndex := 94, attributes := #[] }, { accessFlags := 9, nameIndex := 113, descriptorIndex := 175, attributes := #[] }] 49 2 #[] #[])
  fields := #[]
  methods := #[k9m0, k9m1, k9m2]
  instanceTypes := #[]
  staticTypes := #[]
  resolved := Array.replicate 184 none
  statics := none }

def pool10 : Array CpInfo := pool [(2, .class_ 4), (1, u "java/lang/Object"), (0, u "<init>"), (0, u "()V"), (14, .class_ 23), (1, u "java/nio/charset/StandardCharsets"), (0, u "US_ASCII"), (0, u "Ljava/nio/charset/Charset;"), (7, u "ISO_8859_1"), (7, u "UTF_8"), (5, u "UTF_16BE"), (5, u "UTF_16LE"), (5, u "UTF_16")] 8

def k10m0 : Method := { name := "<init>", desc := "()V", sig := { parameters := [], returnType := none }, accessFlags := 2, code := none }
/-- java/nio/charset/StandardCharsets -/
def k10 : Class := { plain "java/nio/charset/StandardCharsets" (some 0) with
  accessFlags := 49
  interfaces := #[]
  cf := some (fileOf pool10 21 #[] #[{ accessFlags := 2, nameIndex := 5, descriptorIndex := 6, attributes := #[] }] 49 2 #[] #[{ accessFlags := 25, nameIndex := 24, descriptorIndex := 25, attributes := #[] }, { accessFlags := 25, nameIndex := 33, descriptorIndex := 25, attributes := #[] }, { accessFlags := 25, nameIndex := 41, descriptorIndex := 25, attributes := #[] }, { accessFlags := 25, nameIndex := 47, descriptorIndex := 25, attributes := #[] }, { accessFlags := 25, nameIndex := 53, descriptorIndex := 25, attributes := #[] }, { accessFlags := 25, nameIndex := 59, descriptorIndex := 25, attributes := #[] }])
  fields := #[{ name := "US_ASCII", type := (.object "java/nio/charset/Charset"), accessFlags := 25, slot := 0, constantValue := 0 }, { name := "ISO_8859_1", type := (.object "java/nio/charset/Charset"), accessFlags := 25, slot := 1, constantValue := 0 }, { name := "UTF_8", type := (.object "java/nio/charset/Charset"), accessFlags := 25, slot := 2, constantValue := 0 }, { name := "UTF_16BE", type := (.object "java/nio/charset/Charset"), accessFlags := 25, slot := 3, constantValue := 0 }, { name := "UTF_16LE", type := (.object "java/nio/charset/Charset"), accessFlags := 25, slot := 4, constantValue := 0 }, { name := "UTF_16", type := (.object "java/nio/charset/Charset"), accessFlags := 25, slot := 5, constantValue := 0 }]
  methods := #[k10m0]
  instanceTypes := #[]
  staticTypes := #[(.object "java/nio/charset/Charset"), (.object "java/nio/charset/Charset"), (.object "java/nio/charset/Charset"), (.object "java/nio/charset/Charset"), (.object "java/nio/charset/Charset"), (.object "java/nio/charset/Charset")]
  resolved := Array.replicate 68 none
  statics := some 1 }

def pool11 : Array CpInfo := pool [(18, .class_ 20), (1, u "java/nio/charset/Charset"), (0, u "cache1"), (0, u "[Ljava/lang/Object;"), (2, u "cache2"), (0, .class_ 27), (0, u "java/lang/Object"), (0, .class_ 29), (0, u "java/nio/charset/Charset$1"), (4, .class_ 36), (1, u "java/nio/charset/Charset$ThreadTrackHolder"), (21, .class_ 59), (0, u "java/nio/charset/Charset$2"), (11, .class_ 73), (1, u "java/nio/charset/Charset$ExtendedProviderHolder"), (22, u "standardProvider"), (0, u "Ljava/nio/charset/spi/CharsetProvider;"), (29, u "name"), (7, .class_ 136), (0, u "java/nio/charset/Charset$3"), (5, u "defaultCharset"), (0, u "Ljava/nio/charset/Charset;"), (14, u "zeroAliases"), (0, u "[Ljava/lang/String;"), (29, u "Ljava/lang/String;"), (2, u "aliases"), (2, u "aliasSet"), (0, u "Ljava/util/Set;"), (82, .class_ 280), (0, u "java/lang/Comparable"), (84, .class_ 366), (0, u "java/nio/charset/Charset$ExtendedProviderHolder$1")] 3

/-- java/nio/charset/Charset -/
def k11 : Class := { plain "java/nio/charset/Charset" (some 0) with
  accessFlags := 1057
  interfaces := #[3]
  cf := some (fileOf pool11 18 #[.nestMembers #[71, 365, 34, 135, 58, 28]] #[] 1057 26 #[279] #[{ accessFlags := 26, nameIndex := 96, descriptorIndex := 97, attributes := #[] }, { accessFlags := 26, nameIndex := 158, descriptorIndex := 159, attributes := #[] }, { accessFlags := 74, nameIndex := 21, descriptorIndex := 22, attributes := #[] }, { accessFlags := 74, nameIndex := 25, descriptorIndex := 22, attributes := #[] }, { accessFlags := 10, nameIndex := 142, descriptorIndex := 143, attributes := #[] }, { accessFlags := 18, nameIndex := 127, descriptorIndex := 189, attributes := #[] }, { accessFlags := 18, nameIndex := 192, descriptorIndex := 159, attributes := #[] }, { accessFlags := 2, nameIndex := 195, descriptorIndex := 196, attributes := #[] }])
  fields := #[{ name := "standardProvider", type := (.object "java/nio/charset/spi/CharsetProvider"), accessFlags := 26, slot := 0, constantValue := 0 }, { name := "zeroAliases", type := (.array (.object "java/lang/String")), accessFlags := 26, slot := 1, constantValue := 0 }, { name := "cache1", type := (.array (.object "java/lang/Object")), accessFlags := 74, slot := 2, constantValue := 0 }, { name := "cache2", type := (.array (.object "java/lang/Object")), accessFlags := 74, slot := 3, constantValue := 0 }, { name := "defaultCharset", type := (.object "java/nio/charset/Charset"), accessFlags := 10, slot := 4, constantValue := 0 }, { name := "name", type := (.object "java/lang/String"), accessFlags := 18, slot := 0, constantValue := 0 }, { name := "aliases", type := (.array (.object "java/lang/String")), accessFlags := 18, slot := 1, constantValue := 0 }, { name := "aliasSet", type := (.object "java/util/Set"), accessFlags := 2, slot := 2, constantValue := 0 }]
  methods := #[]
  instanceTypes := #[(.object "java/lang/String"), (.array (.object "java/lang/String")), (.object "java/util/Set")]
  staticTypes := #[(.object "java/nio/charset/spi/CharsetProvider"), (.array (.object "java/lang/String")), (.array (.object "java/lang/Object")), (.array (.object "java/lang/Object")), (.object "java/nio/charset/Charset")]
  resolved := Array.replicate 370 none
  statics := none }

def pool12 : Array CpInfo := pool [(1, .class_ 2), (0, u "sun/nio/cs/HistoricallyNamedCharset"), (0, .class_ 4), (0, u "java/lang/Object")] 4

/-- sun/nio/cs/HistoricallyNamedCharset -/
def k12 : Class := { plain "sun/nio/cs/HistoricallyNamedCharset" (some 0) with
  accessFlags := 1537
  interfaces := #[]
  cf := some (fileOf pool12 1 #[] #[] 1537 3 #[] #[])
  fields := #[]
  methods := #[]
  instanceTypes := #[]
  staticTypes := #[]
  resolved := Array.replicate 9 none
  statics := none }

def pool13 : Array CpInfo := pool [(2, .class_ 4), (1, u "java/nio/charset/Charset"), (130, .class_ 136), (0, u "sun/nio/cs/Unicode"), (0, .class_ 138), (0, u "sun/nio/cs/HistoricallyNamedCharset")] 15

/-- sun/nio/cs/Unicode -/
def k13 : Class := { plain "sun/nio/cs/Unicode" (some 11) with
  accessFlags := 1056
  interfaces := #[12]
  cf := some (fileOf pool13 135 #[] #[] 1056 2 #[137] #[])
  fields := #[]
  methods := #[]
  instanceTypes := #[(.object "java/lang/String"), (.array (.object "java/lang/String")), (.object "java/util/Set")]
  staticTypes := #[]
  resolved := Array.replicate 154 none
  statics := none }

def pool14 : Array CpInfo := pool [(10, .class_ 12), (1, u "sun/nio/cs/Unicode"), (0, u "<init>"), (3, .class_ 18), (0, u "sun/nio/cs/UTF_8$Decoder"), (3, .class_ 23), (0, u "sun/nio/cs/UTF_8$Encoder"), (15, .class_ 40), (0, u "sun/nio/cs/UTF_8"), (2, u "()V"), (2, u "INSTANCE"), (0, u "Lsun/nio/cs/UTF_8;"), (8, u "JLA"), (0, u "Ljdk/internal/access/JavaLangAccess;")] 26

def k14m0 : Method := { name := "<init>", desc := "()V", sig := { parameters := [], returnType := none }, accessFlags := 1, code := none }
/-- sun/nio/cs/UTF_8 -/
def k14 : Class := { plain "sun/nio/cs/UTF_8" (some 13) with
  accessFlags := 49
  interfaces := #[]
  cf := some (fileOf pool14 39 #[.nestMembers #[22, 17]] #[{ accessFlags := 1, nameIndex := 13, descriptorIndex := 43, attributes := #[] }] 49 10 #[] #[{ accessFlags := 25, nameIndex := 46, descriptorIndex := 47, attributes := #[] }, { accessFlags := 26, nameIndex := 56, descriptorIndex := 57, attributes := #[] }])
  fields := #[{ name := "INSTANCE", type := (.object "sun/nio/cs/UTF_8"), accessFlags := 25, slot := 0, constantValue := 0 }, { name := "JLA", type := (.object "jdk/internal/access/JavaLangAccess"), accessFlags := 26, slot := 1, constantValue := 0 }]
  methods := #[k14m0]
  instanceTypes := #[(.object "java/lang/String"), (.array (.object "java/lang/String")), (.object "java/util/Set")]
  staticTypes := #[(.object "sun/nio/cs/UTF_8"), (.object "jdk/internal/access/JavaLangAccess")]
  resolved := Array.replicate 84 none
  statics := some 2 }

def pool15 : Array CpInfo := pool [(2, .class_ 4), (1, u "java/lang/Object"), (0, u "<init>"), (0, u "()V"), (0, .methodref 8 9), (0, .class_ 10), (0, .nameAndType 11 12), (0, u "java/lang/StringCoding"), (0, u "countPositives"), (0, u "([BII)I"), (11, u "hasNegatives"), (0, u "([BII)Z")] 23

def k15m0 : Method := { name := "<init>", desc := "()V", sig := { parameters := [], returnType := none }, accessFlags := 2, code := none }
def k15c1 : Code := { maxStack := 3, maxLocals := 3, code := jdk_123_method_2_code, exceptionTable := #[], attributes := #[] }
def k15m1 : Method := { name := "hasNegatives", desc := "([BII)Z", sig := { parameters := [(.array .byte), .int, .int], returnType := some .boolean }, accessFlags := 9, code := some k15c1 }
def k15c2 : Code := { maxStack := 2, maxLocals := 5, code := jdk_123_method_3_code, exceptionTable := #[], attributes := #[] }
def k15m2 : Method := { name := "countPositives", desc := "([BII)I", sig := { parameters := [(.array .byte), .int, .int], returnType := some .int }, accessFlags := 9, code := some k15c2 }
/-- java/lang/StringCoding -/
def k15 : Class := { plain "java/lang/StringCoding" (some 0) with
  accessFlags := 32
  interfaces := #[]
  cf := some (fileOf pool15 8 #[] #[{ accessFlags := 2, nameIndex := 5, descriptorIndex := 6, attributes := #[] }, { accessFlags := 9, nameIndex := 24, descriptorIndex := 25, attributes := #[] }, { accessFlags := 9, nameIndex := 11, descriptorIndex := 12, attributes := #[] }] 32 2 #[] #[])
  fields := #[]
  methods := #[k15m0, k15m1, k15m2]
  instanceTypes := #[]
  staticTypes := #[]
  resolved := Array.replicate 49 none
  statics := none }

def pool16 : Array CpInfo := pool [(1, .class_ 2), (0, u "java/lang/Cloneable"), (0, .class_ 4), (0, u "java/lang/Object")] 2

/-- java/lang/Cloneable -/
def k16 : Class := { plain "java/lang/Cloneable" (some 0) with
  accessFlags := 1537
  interfaces := #[]
  cf := some (fileOf pool16 1 #[] #[] 1537 3 #[] #[])
  fields := #[]
  methods := #[]
  instanceTypes := #[]
  staticTypes := #[]
  resolved := Array.replicate 7 none
  statics := none }

def pool17 : Array CpInfo := pool [(6, .class_ 8), (1, u "java/lang/Object"), (0, u "<init>"), (0, u "()V"), (0, .methodref 12 13), (0, .class_ 14), (0, .nameAndType 15 16), (0, u "java/lang/StringUTF16"), (0, u "newBytesLength"), (0, u "(I)I"), (3, .integer 1073741823), (25, u "$assertionsDisabled"), (0, u "Z"), (13, u "HI_BYTE_SHIFT"), (0, u "I"), (2, u "LO_BYTE_SHIFT"), (43, u "newBytesFor"), (0, u "(I)[B"), (4, .methodref 12 116), (0, .nameAndType 117 118), (0, u "compress"), (0, u "([CI[BII)I"), (3, u "([CII)[B"), (138, u "coderFromArrayLen"), (0, u "([BI)B"), (106, .class_ 371), (1, u "java/lang/StringUTF16$LinesSpliterator"), (58, u "MAX_LENGTH"), (196, .class_ 628), (0, u "java/lang/StringUTF16$CodePointsSpliterator"), (0, .class_ 630), (0, u "java/lang/StringUTF16$CharsSpliterator")] 4

def k17m0 : Method := { name := "<init>", desc := "()V", sig := { parameters := [], returnType := none }, accessFlags := 0, code := none }
def k17c1 : Code := { maxStack := 1, maxLocals := 1, code := jdk_52_method_2_code, exceptionTable := #[], attributes := #[] }
def k17m1 : Method := { name := "newBytesFor", desc := "(I)[B", sig := { parameters := [.int], returnType := some (.array .byte) }, accessFlags := 9, code := some k17c1 }
def k17c2 : Code := { maxStack := 4, maxLocals := 1, code := jdk_52_method_3_code, exceptionTable := #[], attributes := #[] }
def k17m2 : Method := { name := "newBytesLength", desc := "(I)I", sig := { parameters := [.int], returnType := some .int }, accessFlags := 9, code := some k17c2 }
def k17c3 : Code := { maxStack := 2, maxLocals := 2, code := jdk_52_method_15_code, exceptionTable := #[], attributes := #[] }
def k17m3 : Method := { name := "coderFromArrayLen", desc := "([BI)B", sig := { parameters := [(.array .byte), .int], returnType := some .byte }, accessFlags := 8, code := some k17c3 }
def k17c4 : Code := { maxStack := 5, maxLocals := 6, code := jdk_52_method_16_code, exceptionTable := #[], attributes := #[] }
def k17m4 : Method := { name := "compress", desc := "([CII)[B", sig := { parameters := [(.array .char), .int, .int], returnType := some (.array .byte) }, accessFlags := 9, code := some k17c4 }
def k17c5 : Code := { maxStack := 3, maxLocals := 7, code := jdk_52_method_21_code, exceptionTable := #[], attributes := #[] }
def k17m5 : Method := { name := "compress", desc := "([CI[BII)I", sig := { parameters := [(.array .char), .int, (.array .byte), .int, .int], returnType := some .int }, accessFlags := 9, code := some k17c5 }
/-- java/lang/StringUTF16 -/
def k17 : Class := { plain "java/lang/StringUTF16" (some 0) with
  accessFlags := 48
  interfaces := #[]
  cf := some (fileOf pool17 12 #[.nestMembers #[627, 629, 369]] #[{ accessFlags := 0, nameIndex := 9, descriptorIndex := 10, attributes := #[] }, { accessFlags := 9, nameIndex := 109, descriptorIndex := 110, attributes := #[] }, { accessFlags := 9, nameIndex := 15, descriptorIndex := 16, attributes := #[] }, { accessFlags := 8, nameIndex := 261, descriptorIndex := 262, attributes := #[] }, { accessFlags := 9, nameIndex := 117, descriptorIndex := 122, attributes := #[] }, { accessFlags := 9, nameIndex := 117, descriptorIndex := 118, attributes := #[] }] 48 6 #[] #[{ accessFlags := 26, nameIndex := 61, descriptorIndex := 62, attributes := #[] }, { accessFlags := 26, nameIndex := 65, descriptorIndex := 62, attributes := #[] }, { accessFlags := 24, nameIndex := 430, descriptorIndex := 62, attributes := #[] }, { accessFlags := 4120, nameIndex := 46, descriptorIndex := 47, attributes := #[] }])
  fields := #[{ name := "HI_BYTE_SHIFT", type := .int, accessFlags := 26, slot := 0, constantValue := 0 }, { name := "LO_BYTE_SHIFT", type := .int, accessFlags := 26, slot := 1, constantValue := 0 }, { name := "MAX_LENGTH", type := .int, accessFlags := 24, slot := 2, constantValue := 0 }, { name := "$assertionsDisabled", type := .boolean, accessFlags := 4120, slot := 3, constantValue := 0 }]
  methods := #[k17m0, k17m1, k17m2, k17m3, k17m4, k17m5]
  instanceTypes := #[]
  staticTypes := #[.int, .int, .int, .boolean]
  resolved := Array.replicate 635 none
  statics := none }

def pool18 : Array CpInfo := pool [(4, .class_ 6), (1, u "java/lang/Object"), (0, u "<init>"), (0, u "()V"), (5, .class_ 16), (1, u "java/lang/StringLatin1"), (73, u "canEncode"), (14, u "(C)Z"), (15, u "$assertionsDisabled"), (0, u "Z"), (98, .class_ 223), (1, u "java/lang/StringLatin1$LinesSpliterator"), (156, u "toBytes"), (1, u "(C)[B"), (7, .class_ 391), (0, u "java/lang/StringLatin1$CharsSpliterator")] 3

def k18m0 : Method := { name := "<init>", desc := "()V", sig := { parameters := [], returnType := none }, accessFlags := 0, code := none }
def k18c1 : Code := { maxStack := 2, maxLocals := 1, code := jdk_43_method_3_code, exceptionTable := #[], attributes := #[] }
def k18m1 : Method := { name := "canEncode", desc := "(C)Z", sig := { parameters := [.char], returnType := some .boolean }, accessFlags := 9, code := some k18c1 }
def k18c2 : Code := { maxStack := 4, maxLocals := 1, code := jdk_43_method_46_code, exceptionTable := #[], attributes := #[] }
def k18m2 : Method := { name := "toBytes", desc := "(C)[B", sig := { parameters := [.char], returnType := some (.array .byte) }, accessFlags := 9, code := some k18c2 }
/-- java/lang/StringLatin1 -/
def k18 : Class := { plain "java/lang/StringLatin1" (some 0) with
  accessFlags := 48
  interfaces := #[]
  cf := some (fileOf pool18 14 #[.nestMembers #[390, 221]] #[{ accessFlags := 0, nameIndex := 7, descriptorIndex := 8, attributes := #[] }, { accessFlags := 9, nameIndex := 90, descriptorIndex := 105, attributes := #[] }, { accessFlags := 9, nameIndex := 380, descriptorIndex := 382, attributes := #[] }] 48 4 #[] #[{ accessFlags := 4120, nameIndex := 121, descriptorIndex := 122, attributes := #[] }])
  fields := #[{ name := "$assertionsDisabled", type := .boolean, accessFlags := 4120, slot := 0, constantValue := 0 }]
  methods := #[k18m0, k18m1, k18m2]
  instanceTypes := #[]
  staticTypes := #[.boolean]
  resolved := Array.replicate 395 none
  statics := none }

def pool19 : Array CpInfo := pool [(2, .class_ 4), (1, u "java/lang/Object"), (0, u "<init>"), (0, u "()V"), (7, .class_ 16), (1, u "java/util/Arrays"), (57, .class_ 76), (1, u "java/util/Arrays$NaturalOrder"), (36, .class_ 115), (1, u "java/util/Arrays$LegacyMergeSort"), (1, u "Z"), (32, .methodref 151 152), (0, .class_ 153), (0, .nameAndType 154 155), (0, u "java/lang/System"), (0, u "arraycopy"), (0, u "(Ljava/lang/Object;ILjava/lang/Object;II)V"), (146, u "copyOf"), (1, .methodref 305 306), (0, .class_ 307), (0, .nameAndType 308 309), (0, u "java/lang/Math"), (0, u "min"), (0, u "(II)I"), (65, .class_ 376), (0, u "java/util/Arrays$ArrayList"), (68, u "$assertionsDisabled"), (269, u "MIN_ARRAY_SORT_GRAN"), (0, u "I"), (2, u "INSERTIONSORT_THRESHOLD"), (149, u "([BI)[B"), (105, .class_ 976), (0, u "java/util/Arrays$ArrayItr")] 52

def k19m0 : Method := { name := "<init>", desc := "()V", sig := { parameters := [], returnType := none }, accessFlags := 2, code := none }
def k19c1 : Code := { maxStack := 6, maxLocals := 3, code := jdk_65_method_121_code, exceptionTable := #[], attributes := #[] }
def k19m1 : Method := { name := "copyOf", desc := "([BI)[B", sig := { parameters := [(.array .byte), .int], returnType := some (.array .byte) }, accessFlags := 9, code := some k19c1 }
/-- java/util/Arrays -/
def k19 : Class := { plain "java/util/Arrays" (some 0) with
  accessFlags := 49
  interfaces := #[]
  cf := some (fileOf pool19 14 #[.nestMembers #[975, 375, 113, 74]] #[{ accessFlags := 2, nameIndex := 5, descriptorIndex := 6, attributes := #[] }, { accessFlags := 9, nameIndex := 302, descriptorIndex := 869, attributes := #[] }] 49 2 #[] #[{ accessFlags := 26, nameIndex := 715, descriptorIndex := 716, attributes := #[] }, { accessFlags := 26, nameIndex := 719, descriptorIndex := 716, attributes := #[] }, { accessFlags := 4120, nameIndex := 445, descriptorIndex := 117, attributes := #[] }])
  fields := #[{ name := "MIN_ARRAY_SORT_GRAN", type := .int, accessFlags := 26, slot := 0, constantValue := 0 }, { name := "INSERTIONSORT_THRESHOLD", type := .int, accessFlags := 26, slot := 1, constantValue := 0 }, { name := "$assertionsDisabled", type := .boolean, accessFlags := 4120, slot := 2, constantValue := 0 }]
  methods := #[k19m0, k19m1]
  instanceTypes := #[]
  staticTypes := #[.int, .int, .boolean]
  resolved := Array.replicate 1029 none
  statics := none }

def pool20 : Array CpInfo := pool [(1, .class_ 2), (0, u "java/lang/Math"), (1, .class_ 6), (1, u "java/lang/Object"), (0, u "<init>"), (0, u "()V"), (89, .class_ 100), (1, u "java/lang/Math$RandomNumberGeneratorHolder"), (71, u "negativeZeroFloatBits"), (0, u "J"), (2, u "negativeZeroDoubleBits"), (24, u "min"), (43, u "$assertionsDisabled"), (0, u "Z"), (88, u "(II)I"), (2, u "twoToTheDoubleScaleDown"), (0, u "D"), (4, u "twoToTheDoubleScaleUp"), (9, u "E"), (3, u "PI"), (2, u "TAU"), (2, u "DEGREES_TO_RADIANS"), (0, u "RADIANS_TO_DEGREES")] 94

def k20m0 : Method := { name := "<init>", desc := "()V", sig := { parameters := [], returnType := none }, accessFlags := 2, code := none }
def k20c1 : Code := { maxStack := 2, maxLocals := 2, code := jdk_29_method_69_code, exceptionTable := #[], attributes := #[] }
def k20m1 : Method := { name := "min", desc := "(II)I", sig := { parameters := [.int, .int], returnType := some .int }, accessFlags := 9, code := some k20c1 }
/-- java/lang/Math -/
def k20 : Class := { plain "java/lang/Math" (some 0) with
  accessFlags := 49
  interfaces := #[]
  cf := some (fileOf pool20 1 #[.nestMembers #[98]] #[{ accessFlags := 2, nameIndex := 7, descriptorIndex := 8, attributes := #[] }, { accessFlags := 9, nameIndex := 201, descriptorIndex := 335, attributes := #[] }] 49 4 #[] #[{ accessFlags := 25, nameIndex := 354, descriptorIndex := 339, attributes := #[] }, { accessFlags := 25, nameIndex := 358, descriptorIndex := 339, attributes := #[] }, { accessFlags := 25, nameIndex := 361, descriptorIndex := 339, attributes := #[] }, { accessFlags := 26, nameIndex := 364, descriptorIndex := 339, attributes := #[] }, { accessFlags := 26, nameIndex := 365, descriptorIndex := 339, attributes := #[] }, { accessFlags := 26, nameIndex := 172, descriptorIndex := 173, attributes := #[] }, { accessFlags := 26, nameIndex := 176, descriptorIndex := 173, attributes := #[] }, { accessFlags := 8, nameIndex := 344, descriptorIndex := 339, attributes := #[] }, { accessFlags := 8, nameIndex := 338, descriptorIndex := 339, attributes := #[] }, { accessFlags := 4120, nameIndex := 245, descriptorIndex := 246, attributes := #[] }])
  fields := #[{ name := "E", type := .double, accessFlags := 25, slot := 0, constantValue := 0 }, { name := "PI", type := .double, accessFlags := 25, slot := 1, constantValue := 0 }, { name := "TAU", type := .double, accessFlags := 25, slot := 2, constantValue := 0 }, { name := "DEGREES_TO_RADIANS", type := .double, accessFlags := 26, slot := 3, constantValue := 0 }, { name := "RADIANS_TO_DEGREES", type := .double, accessFlags := 26, slot := 4, constantValue := 0 }, { name := "negativeZeroFloatBits", type := .long, accessFlags := 26, slot := 5, constantValue := 0 }, { name := "negativeZeroDoubleBits", type := .long, accessFlags := 26, slot := 6, constantValue := 0 }, { name := "twoToTheDoubleScaleUp", type := .double, accessFlags := 8, slot := 7, constantValue := 0 }, { name := "twoToTheDoubleScaleDown", type := .double, accessFlags := 8, slot := 8, constantValue := 0 }, { name := "$assertionsDisabled", type := .boolean, accessFlags := 4120, slot := 9, constantValue := 0 }]
  methods := #[k20m0, k20m1]
  instanceTypes := #[]
  staticTypes := #[.double, .double, .double, .double, .double, .long, .long, .double, .double, .boolean]
  resolved := Array.replicate 460 none
  statics := none }

def pool21 : Array CpInfo := pool [(2, .class_ 4), (1, u "java/lang/Object"), (0, u "<init>"), (0, u "()V"), (1, .class_ 10), (1, u "java/lang/System"), (0, u "allowSecurityManager"), (0, u "I"), (16, u "cons"), (0, u "Ljava/io/Console;"), (77, .class_ 110), (1, u "java/lang/System$CallersHolder"), (43, u "initialErrStream"), (0, u "Ljava/io/PrintStream;"), (19, u "security"), (0, u "Ljava/lang/SecurityManager;"), (31, .class_ 209), (0, u "java/lang/System$1"), (7, u "props"), (0, u "Ljava/util/Properties;"), (2, u "lineSeparator"), (0, u "Ljava/lang/String;"), (96, .class_ 321), (1, u "java/lang/System$LoggerFinder"), (5, .class_ 328), (0, u "java/lang/System$Logger"), (67, u "err"), (2, u "out"), (91, u "notSupportedJnuEncoding"), (15, u "in"), (17, u "initialIn"), (0, u "Ljava/io/InputStream;"), (35, u "bootLayer"), (0, u "Ljava/lang/ModuleLayer;"), (99, .class_ 664), (0, u "java/lang/System$2"), (9, u "NEVER"), (2, u "MAYBE"), (49, u "arraycopy"), (0, u "(Ljava/lang/Object;ILjava/lang/Object;II)V"), (72, .class_ 802), (0, u "java/lang/System$Logger$Level")] 31

def k21m0 : Method := { name := "<init>", desc := "()V", sig := { parameters := [], returnType := none }, accessFlags := 2, code := none }
def k21m1 : Method := { name := "arraycopy", desc := "(Ljava/lang/Object;ILjava/lang/Object;II)V", sig := { parameters := [(.object "java/lang/Object"), .int, (.object "java/lang/Object"), .int, .int], returnType := none }, accessFlags := 265, code := none }
/-- java/lang/System -/
def k21 : Class := { plain "java/lang/System" (some 0) with
  accessFlags := 49
  interfaces := #[]
  cf := some (fileOf pool21 8 #[.nestMembers #[319, 327, 801, 108, 663, 208]] #[{ accessFlags := 2, nameIndex := 5, descriptorIndex := 6, attributes := #[] }, { accessFlags := 265, nameIndex := 727, descriptorIndex := 728, attributes := #[] }] 49 2 #[] #[{ accessFlags := 25, nameIndex := 507, descriptorIndex := 526, attributes := #[] }, { accessFlags := 25, nameIndex := 399, descriptorIndex := 155, attributes := #[] }, { accessFlags := 25, nameIndex := 396, descriptorIndex := 155, attributes := #[] }, { accessFlags := 10, nameIndex := 525, descriptorIndex := 526, attributes := #[] }, { accessFlags := 26, nameIndex := 674, descriptorIndex := 12, attributes := #[] }, { accessFlags := 26, nameIndex := 677, descriptorIndex := 12, attributes := #[] }, { accessFlags := 10, nameIndex := 11, descriptorIndex := 12, attributes := #[] }, { accessFlags := 74, nameIndex := 175, descriptorIndex := 176, attributes := #[] }, { accessFlags := 10, nameIndex := 491, descriptorIndex := 222, attributes := #[] }, { accessFlags := 74, nameIndex := 29, descriptorIndex := 30, attributes := #[] }, { accessFlags := 74, nameIndex := 154, descriptorIndex := 155, attributes := #[] }, { accessFlags := 10, nameIndex := 217, descriptorIndex := 218, attributes := #[] }, { accessFlags := 10, nameIndex := 221, descriptorIndex := 222, attributes := #[] }, { accessFlags := 8, nameIndex := 562, descriptorIndex := 563, attributes := #[] }])
  fields := #[{ name := "in", type := (.object "java/io/InputStream"), accessFlags := 25, slot := 0, constantValue := 0 }, { name := "out", type := (.object "java/io/PrintStream"), accessFlags := 25, slot := 1, constantValue := 0 }, { name := "err", type := (.object "java/io/PrintStream"), accessFlags := 25, slot := 2, constantValue := 0 }, { name := "initialIn", type := (.object "java/io/InputStream"), accessFlags := 10, slot := 3, constantValue := 0 }, { name := "NEVER", type := .int, accessFlags := 26, slot := 4, constantValue := 0 }, { name := "MAYBE", type := .int, accessFlags := 26, slot := 5, constantValue := 0 }, { name := "allowSecurityManager", type := .int, accessFlags := 10, slot := 6, constantValue := 0 }, { name := "security", type := (.object "java/lang/SecurityManager"), accessFlags := 74, slot := 7, constantValue := 0 }, { name := "notSupportedJnuEncoding", type := (.object "java/lang/String"), accessFlags := 10, slot := 8, constantValue := 0 }, { name := "cons", type := (.object "java/io/Console"), accessFlags := 74, slot := 9, constantValue := 0 }, { name := "initialErrStream", type := (.object "java/io/PrintStream"), accessFlags := 74, slot := 10, constantValue := 0 }, { name := "props", type := (.object "java/util/Properties"), accessFlags := 10, slot := 11, constantValue := 0 }, { name := "lineSeparator", type := (.object "java/lang/String"), accessFlags := 10, slot := 12, constantValue := 0 }, { name := "bootLayer", type := (.object "java/lang/ModuleLayer"), accessFlags := 8, slot := 13, constantValue := 0 }]
  methods := #[k21m0, k21m1]
  instanceTypes := #[]
  staticTypes := #[(.object "java/io/InputStream"), (.object "java/io/PrintStream"), (.object "java/io/PrintStream"), (.object "java/io/InputStream"), .int, .int, .int, (.object "java/lang/SecurityManager"), (.object "java/lang/String"), (.object "java/io/Console"), (.object "java/io/PrintStream"), (.object "java/util/Properties"), (.object "java/lang/String"), (.object "java/lang/ModuleLayer")]
  resolved := Array.replicate 834 none
  statics := none }

def pool22 : Array CpInfo := pool [(2, .class_ 4), (1, u "java/lang/Object"), (0, u "<init>"), (0, u "()V"), (17, .class_ 26), (1, u "jdk/internal/util/Preconditions"), (20, u "checkFromToIndex"), (7, .class_ 56), (0, u "jdk/internal/util/Preconditions$4"), (57, .class_ 115), (0, u "jdk/internal/util/Preconditions$1"), (7, u "SIOOBE_FORMATTER"), (0, u "Ljava/util/function/BiFunction;"), (0, .class_ 126), (0, u "jdk/internal/util/Preconditions$2"), (3, u "AIOOBE_FORMATTER"), (0, .class_ 132), (0, u "jdk/internal/util/Preconditions$3"), (3, u "IOOBE_FORMATTER"), (46, u "(IIILjava/util/function/BiFunction;)I")] 10

def k22m0 : Method := { name := "<init>", desc := "()V", sig := { parameters := [], returnType := none }, accessFlags := 1, code := none }
def k22c1 : Code := { maxStack := 4, maxLocals := 4, code := jdk_41_method_12_code, exceptionTable := #[], attributes := #[] }
def k22m1 : Method := { name := "checkFromToIndex", desc := "(IIILjava/util/function/BiFunction;)I", sig := { parameters := [.int, .int, .int, (.object "java/util/function/BiFunction")], returnType := some .int }, accessFlags := 9, code := some k22c1 }
/-- jdk/internal/util/Preconditions -/
def k22 : Class := { plain "jdk/internal/util/Preconditions" (some 0) with
  accessFlags := 33
  interfaces := #[]
  cf := some (fileOf pool22 24 #[.nestMembers #[55, 131, 125, 114]] #[{ accessFlags := 1, nameIndex := 5, descriptorIndex := 6, attributes := #[] }, { accessFlags := 9, nameIndex := 47, descriptorIndex := 183, attributes := #[] }] 33 2 #[] #[{ accessFlags := 25, nameIndex := 123, descriptorIndex := 124, attributes := #[] }, { accessFlags := 25, nameIndex := 130, descriptorIndex := 124, attributes := #[] }, { accessFlags := 25, nameIndex := 136, descriptorIndex := 124, attributes := #[] }])
  fields := #[{ name := "SIOOBE_FORMATTER", type := (.object "java/util/function/BiFunction"), accessFlags := 25, slot := 0, constantValue := 0 }, { name := "AIOOBE_FORMATTER", type := (.object "java/util/function/BiFunction"), accessFlags := 25, slot := 1, constantValue := 0 }, { name := "IOOBE_FORMATTER", type := (.object "java/util/function/BiFunction"), accessFlags := 25, slot := 2, constantValue := 0 }]
  methods := #[k22m0, k22m1]
  instanceTypes := #[]
  staticTypes := #[(.object "java/util/function/BiFunction"), (.object "java/util/function/BiFunction"), (.object "java/util/function/BiFunction")]
  resolved := Array.replicate 194 none
  statics := some 3 }

def pool23 : Array CpInfo := pool [(9, u "<init>"), (6, .class_ 18), (1, u "java/lang/Object"), (0, u "()V"), (1, .class_ 23), (1, u "jdk/internal/util/ArraysSupport"), (0, u "LOG2_ARRAY_LONG_INDEX_SCALE"), (0, u "I"), (2, u "U"), (0, u "Ljdk/internal/misc/Unsafe;"), (8, u "BIG_ENDIAN"), (0, u "Z"), (8, u "LOG2_BYTE_BIT_SIZE"), (4, u "LOG2_ARRAY_INT_INDEX_SCALE"), (54, u "JLA"), (0, u "Ljdk/internal/access/JavaLangAccess;"), (11, u "LOG2_ARRAY_BOOLEAN_INDEX_SCALE"), (9, u "LOG2_ARRAY_BYTE_INDEX_SCALE"), (5, u "LOG2_ARRAY_CHAR_INDEX_SCALE"), (5, u "LOG2_ARRAY_SHORT_INDEX_SCALE"), (18, u "LOG2_ARRAY_FLOAT_INDEX_SCALE"), (24, u "LOG2_ARRAY_DOUBLE_INDEX_SCALE"), (89, u "T_BOOLEAN"), (2, u "T_CHAR"), (1, u "T_FLOAT"), (1, u "T_DOUBLE"), (1, u "T_BYTE"), (1, u "T_SHORT"), (1, u "T_INT"), (1, u "T_LONG"), (1, u "SOFT_MAX_ARRAY_LENGTH")] 83

def k23m0 : Method := { name := "<init>", desc := "()V", sig := { parameters := [], returnType := none }, accessFlags := 2, code := none }
/-- jdk/internal/util/ArraysSupport -/
def k23 : Class := { plain "jdk/internal/util/ArraysSupport" (some 0) with
  accessFlags := 33
  interfaces := #[]
  cf := some (fileOf pool23 21 #[] #[{ accessFlags := 2, nameIndex := 9, descriptorIndex := 19, attributes := #[] }] 33 16 #[] #[{ accessFlags := 24, nameIndex := 28, descriptorIndex := 29, attributes := #[] }, { accessFlags := 26, nameIndex := 38, descriptorIndex := 39, attributes := #[] }, { accessFlags := 25, nameIndex := 121, descriptorIndex := 25, attributes := #[] }, { accessFlags := 25, nameIndex := 131, descriptorIndex := 25, attributes := #[] }, { accessFlags := 25, nameIndex := 137, descriptorIndex := 25, attributes := #[] }, { accessFlags := 25, nameIndex := 143, descriptorIndex := 25, attributes := #[] }, { accessFlags := 25, nameIndex := 53, descriptorIndex := 25, attributes := #[] }, { accessFlags := 25, nameIndex := 24, descriptorIndex := 25, attributes := #[] }, { accessFlags := 25, nameIndex := 162, descriptorIndex := 25, attributes := #[] }, { accessFlags := 25, nameIndex := 187, descriptorIndex := 25, attributes := #[] }, { accessFlags := 26, nameIndex := 48, descriptorIndex := 25, attributes := #[] }, { accessFlags := 25, nameIndex := 277, descriptorIndex := 25, attributes := #[] }, { accessFlags := 25, nameIndex := 280, descriptorIndex := 25, attributes := #[] }, { accessFlags := 25, nameIndex := 282, descriptorIndex := 25, attributes := #[] }, { accessFlags := 25, nameIndex := 284, descriptorIndex := 25, attributes := #[] }, { accessFlags := 25, nameIndex := 286, descriptorIndex := 25, attributes := #[] }, { accessFlags := 25, nameIndex := 288, descriptorIndex := 25, attributes := #[] }, { accessFlags := 25, nameIndex := 290, descriptorIndex := 25, attributes := #[] }, { accessFlags := 25, nameIndex := 292, descriptorIndex := 25, attributes := #[] }, { accessFlags := 26, nameIndex := 108, descriptorIndex := 109, attributes := #[] }, { accessFlags := 25, nameIndex := 294, descriptorIndex := 25, attributes := #[] }])
  fields := #[{ name := "U", type := (.object "jdk/internal/misc/Unsafe"), accessFlags := 24, slot := 0, constantValue := 0 }, { name := "BIG_ENDIAN", type := .boolean, accessFlags := 26, slot := 1, constantValue := 0 }, { name := "LOG2_ARRAY_BOOLEAN_INDEX_SCALE", type := .int, accessFlags := 25, slot := 2, constantValue := 0 }, { name := "LOG2_ARRAY_BYTE_INDEX_SCALE", type := .int, accessFlags := 25, slot := 3, constantValue := 0 }, { name := "LOG2_ARRAY_CHAR_INDEX_SCALE", type := .int, accessFlags := 25, slot := 4, constantValue := 0 }, { name := "LOG2_ARRAY_SHORT_INDEX_SCALE", type := .int, accessFlags := 25, slot := 5, constantValue := 0 }, { name := "LOG2_ARRAY_INT_INDEX_SCALE", type := .int, accessFlags := 25, slot := 6, constantValue := 0 }, { name := "LOG2_ARRAY_LONG_INDEX_SCALE", type := .int, accessFlags := 25, slot := 7, constantValue := 0 }, { name := "LOG2_ARRAY_FLOAT_INDEX_SCALE", type := .int, accessFlags := 25, slot := 8, constantValue := 0 }, { name := "LOG2_ARRAY_DOUBLE_INDEX_SCALE", type := .int, accessFlags := 25, slot := 9, constantValue := 0 }, { name := "LOG2_BYTE_BIT_SIZE", type := .int, accessFlags := 26, slot := 10, constantValue := 0 }, { name := "T_BOOLEAN", type := .int, accessFlags := 25, slot := 11, constantValue := 0 }, { name := "T_CHAR", type := .int, accessFlags := 25, slot := 12, constantValue := 0 }, { name := "T_FLOAT", type := .int, accessFlags := 25, slot := 13, constantValue := 0 }, { name := "T_DOUBLE", type := .int, accessFlags := 25, slot := 14, constantValue := 0 }, { name := "T_BYTE", type := .int, accessFlags := 25, slot := 15, constantValue := 0 }, { name := "T_SHORT", type := .int, accessFlags := 25, slot := 16, constantValue := 0 }, { name := "T_INT", type := .int, accessFlags := 25, slot := 17, constantValue := 0 }, { name := "T_LONG", type := .int, accessFlags := 25, slot := 18, constantValue := 0 }, { name := "JLA", type := (.object "jdk/internal/access/JavaLangAccess"), accessFlags := 26, slot := 19, constantValue := 0 }, { name := "SOFT_MAX_ARRAY_LENGTH", type := .int, accessFlags := 25, slot := 20, constantValue := 0 }]
  methods := #[k23m0]
  instanceTypes := #[]
  staticTypes := #[(.object "jdk/internal/misc/Unsafe"), .boolean, .int, .int, .int, .int, .int, .int, .int, .int, .int, .int, .int, .int, .int, .int, .int, .int, .int, (.object "jdk/internal/access/JavaLangAccess"), .int]
  resolved := Array.replicate 378 none
  statics := none }

/-- the primitive byte -/
def k24 : Class := { plain "byte" none with kind := .primitive 'B', accessFlags := 0x411 }
/-- [B -/
def k25 : Class := { plain "[B" (some 0) with kind := .array 24 .byte, interfaces := #[16, 2], accessFlags := 1041 }

/-- the primitive char -/
def k26 : Class := { plain "char" none with kind := .primitive 'C', accessFlags := 0x411 }
/-- [C -/
def k27 : Class := { plain "[C" (some 0) with kind := .array 26 .char, interfaces := #[16, 2], accessFlags := 1041 }

/-- the primitive int -/
def k28 : Class := { plain "int" none with kind := .primitive 'I', accessFlags := 0x411 }
/-- [I -/
def k29 : Class := { plain "[I" (some 0) with kind := .array 28 .int, interfaces := #[16, 2], accessFlags := 1041 }

def heap : Heap := #[{ cls := 7, slots := #[.long 0, .int 1, .null, .int 0, .null, .int 0, .int 0], vm := .statics 7 },
  { cls := 10, slots := #[.null, .null, .ref 4, .null, .null, .null], vm := .statics 10 },
  { cls := 14, slots := #[.ref 4, .null], vm := .statics 14 },
  { cls := 22, slots := #[.null, .null, .null], vm := .statics 22 },
  { cls := 14, slots := #[.null, .null, .null], vm := .none }]
def classes : Array Class := #[k0, k1, k2, k3, k4, k5, k6, k7, k8, k9, k10, k11, k12, k13, k14, k15, k16, k17, k18, k19, k20, k21, k22, k23, k24, k25, k26, k27, k28, k29]
def interned : List (Array UInt16 × Addr) := []
def slotsUsed : Nat := 21
def theMethod : MethodId := ⟨1, 3⟩
def args0 : Array Value := #[.int 65601, .int 131137, .int 65601, .int (-1), .int (-2), .int (-3)]
def aboutOver (below : List Frame) : State where
  vm := { classes := classes, interned := interned.toArray }
  heap := heap
  slotsUsed := slotsUsed
  threads := #[{ frames := .invoking theMethod args0 :: below }]
def below0 : List Frame := [.native { method := ⟨0, 0⟩, args := #[] }]
def about1 : State := aboutOver below0
def p0 : Program := .bare "" "" ""
def e0 : Env := launch0.env 0 0 0
theorem w_frames : about1.frames = Frame.invoking theMethod args0 :: below0 := rfl
set_option maxRecDepth 65536 in
theorem w_args : argsFit about1.vm theMethod args0 = true := by decide +kernel
set_option maxRecDepth 65536 in
theorem w_heap : heapFits about1 = true := by decide +kernel
set_option maxRecDepth 65536 in
theorem w_runnable : about1.curStatus? = some .runnable := by decide +kernel
set_option maxRecDepth 65536 in
theorem w_alone : about1.alone = true := by decide +kernel
set_option maxRecDepth 65536 in
theorem w_named : about1.methodNamed? x = some theMethod := by decide +kernel
set_option maxRecDepth 65536 in
theorem w_hears : about1.hears theMethod below0 = true := by decide +kernel
set_option maxRecDepth 65536 in
theorem w_ripe : about1.ripe theMethod args0 below0 = true := by decide +kernel
theorem w_running : about1.status = .running := rfl
set_option maxRecDepth 65536 in
theorem w_room : about1.hasRoom e0.platform room_1 = true :=
  launch0.hasRoom_least _ room_1 (by decide +kernel) (by decide +kernel) (by decide +kernel) (by decide +kernel) (by decide +kernel) (by decide +kernel)
theorem allAtoms_all (ts : List Jvm.Cond) (a : Array Jvm.Value) (st : Jvm.State) : (allAtoms ts).before a st = ts.all (fun c => c.before a st) := by
  induction ts with
  | nil => rfl
  | cons c t ih =>
    show (Jvm.Cond.and c (allAtoms t)).before a st = _
    rw [Jvm.Cond.before_and, ih, List.all_cons]
def words1 : List Jvm.Cond := Jvm.Cond.code x code maxLocals ret :: tables_1
/-- a 'code' word, met by the world's own term for the bytes: nothing is compared byte by byte -/
theorem code_word {y : MethodName} {bytes : ByteArray} {mx : Nat} {rt : Option FieldType} {a : Array Value} {s : State} {m : MethodId} {meth : Method} {c : Code} (h1 : s.methodNamed? y = some m) (h2 : s.vm.method? m = some meth) (h3 : meth.code = some c) (h4 : c.code = bytes)
    (h5 : (c.maxLocals == mx && c.exceptionTable.isEmpty && decide (c.maxStack ≤ mostOperands) && decide (meth.sig.returnType = rt) && !meth.locks && decide (parseMethodDescriptor y.desc = some meth.sig)) = true) : (Jvm.Cond.code y bytes mx rt).before a s = true := by
  simp only [Bool.and_eq_true, beq_iff_eq, Bool.not_eq_true', decide_eq_true_eq] at h5
  obtain ⟨⟨⟨⟨⟨g1, g2⟩, g3⟩, g4⟩, g5⟩, g6⟩ := h5
  simp [Cond.before, Cond.holds, Cond.value, h1, h2, h3, h4, g1, g2, g3, g4, g5, g6]
def isCode : Jvm.Cond → Bool
  | .code _ _ _ _ => true
  | _ => false
theorem all_split {L : List Jvm.Cond} {P : Jvm.Cond → Bool} (h1 : L.all (fun c => isCode c || P c) = true) (h2 : ∀ c ∈ L.filter isCode, P c = true) : L.all P = true := by
  refine List.all_eq_true.mpr fun c hc => ?_
  have h := List.all_eq_true.mp h1 c hc
  rcases Bool.eq_false_or_eq_true (isCode c) with hi | hi
  · exact h2 c (List.mem_filter.mpr ⟨hc, hi⟩)
  · simpa [hi] using h
set_option maxRecDepth 65536 in
theorem w_c0 : (Jvm.Cond.code x code maxLocals ret).before args0 about1 = true := code_word (m := ⟨1, 3⟩) (meth := k1m3) (c := k1c3) (by decide +kernel) rfl rfl rfl (by decide +kernel)
set_option maxRecDepth 65536 in
theorem w_c1 : (Jvm.Cond.code ({ cls := "com/example/outbox_relay/outboxrelay/OutboxMessageWithBusinessKeyPinLaw", name := "mk", desc := "(I)Ljava/lang/String;" } : Jvm.MethodName) method_2_code (5 : Nat) (Option.some (Jvm.ClassFile.FieldType.object "java/lang/String"))).before args0 about1 = true := code_word (m := ⟨1, 1⟩) (meth := k1m1) (c := k1c1) (by decide +kernel) rfl rfl rfl (by decide +kernel)
set_option maxRecDepth 65536 in
theorem w_c2 : (Jvm.Cond.code ({ cls := "java/lang/String", name := "<init>", desc := "([C)V" } : Jvm.MethodName) jdk_42_method_3_code (2 : Nat) (Option.none : Option Jvm.ClassFile.FieldType)).before args0 about1 = true := code_word (m := ⟨7, 1⟩) (meth := k7m1) (c := k7c1) (by decide +kernel) rfl rfl rfl (by decide +kernel)
set_option maxRecDepth 65536 in
theorem w_c3 : (Jvm.Cond.code ({ cls := "java/lang/String", name := "<init>", desc := "([CIILjava/lang/Void;)V" } : Jvm.MethodName) jdk_42_method_149_code (6 : Nat) (Option.none : Option Jvm.ClassFile.FieldType)).before args0 about1 = true := code_word (m := ⟨7, 9⟩) (meth := k7m9) (c := k7c9) (by decide +kernel) rfl rfl rfl (by decide +kernel)
set_option maxRecDepth 65536 in
theorem w_c4 : (Jvm.Cond.code ({ cls := "java/lang/Object", name := "<init>", desc := "()V" } : Jvm.MethodName) object_method_1_code (1 : Nat) (Option.none : Option Jvm.ClassFile.FieldType)).before args0 about1 = true := code_word (m := ⟨0, 0⟩) (meth := k0m0) (c := k0c0) (by decide +kernel) rfl rfl rfl (by decide +kernel)
set_option maxRecDepth 65536 in
theorem w_c5 : (Jvm.Cond.code ({ cls := "com/example/outbox_relay/outboxrelay/OutboxMessage", name := "<init>", desc := "(Ljava/lang/String;Ljava/lang/String;Ljava/lang/String;)V" } : Jvm.MethodName) prog_1_method_1_code (4 : Nat) (Option.none : Option Jvm.ClassFile.FieldType)).before args0 about1 = true := code_word (m := ⟨8, 0⟩) (meth := k8m0) (c := k8c0) (by decide +kernel) rfl rfl rfl (by decide +kernel)
set_option maxRecDepth 65536 in
theorem w_c6 : (Jvm.Cond.code ({ cls := "com/example/outbox_relay/outboxrelay/OutboxMessage", name := "requireUtf8AtMost", desc := "(Ljava/lang/String;Ljava/lang/String;I)Ljava/lang/String;" } : Jvm.MethodName) prog_1_method_12_code (3 : Nat) (Option.some (Jvm.ClassFile.FieldType.object "java/lang/String"))).before args0 about1 = true := code_word (m := ⟨8, 11⟩) (meth := k8m11) (c := k8c11) (by decide +kernel) rfl rfl rfl (by decide +kernel)
set_option maxRecDepth 65536 in
theorem w_c7 : (Jvm.Cond.code ({ cls := "java/util/Objects", name := "requireNonNull", desc := "(Ljava/lang/Object;Ljava/lang/String;)Ljava/lang/Object;" } : Jvm.MethodName) jdk_31_method_11_code (2 : Nat) (Option.some (Jvm.ClassFile.FieldType.object "java/lang/Object"))).before args0 about1 = true := code_word (m := ⟨9, 1⟩) (meth := k9m1) (c := k9c1) (by decide +kernel) rfl rfl rfl (by decide +kernel)
set_option maxRecDepth 65536 in
theorem w_c8 : (Jvm.Cond.code ({ cls := "java/lang/String", name := "getBytes", desc := "(Ljava/nio/charset/Charset;)[B" } : Jvm.MethodName) jdk_42_method_64_code (2 : Nat) (Option.some (Jvm.ClassFile.FieldType.array Jvm.ClassFile.FieldType.byte))).before args0 about1 = true := code_word (m := ⟨7, 6⟩) (meth := k7m6) (c := k7c6) (by decide +kernel) rfl rfl rfl (by decide +kernel)
set_option maxRecDepth 65536 in
theorem w_c9 : (Jvm.Cond.code ({ cls := "java/lang/String", name := "coder", desc := "()B" } : Jvm.MethodName) jdk_42_method_152_code (1 : Nat) (Option.some Jvm.ClassFile.FieldType.byte)).before args0 about1 = true := code_word (m := ⟨7, 11⟩) (meth := k7m11) (c := k7c11) (by decide +kernel) rfl rfl rfl (by decide +kernel)
set_option maxRecDepth 65536 in
theorem w_c10 : (Jvm.Cond.code ({ cls := "java/lang/String", name := "encode", desc := "(Ljava/nio/charset/Charset;B[B)[B" } : Jvm.MethodName) jdk_42_method_18_code (3 : Nat) (Option.some (Jvm.ClassFile.FieldType.array Jvm.ClassFile.FieldType.byte))).before args0 about1 = true := code_word (m := ⟨7, 2⟩) (meth := k7m2) (c := k7c2) (by decide +kernel) rfl rfl rfl (by decide +kernel)
set_option maxRecDepth 65536 in
theorem w_c11 : (Jvm.Cond.code ({ cls := "java/lang/String", name := "encodeUTF8", desc := "(B[BZ)[B" } : Jvm.MethodName) jdk_42_method_46_code (9 : Nat) (Option.some (Jvm.ClassFile.FieldType.array Jvm.ClassFile.FieldType.byte))).before args0 about1 = true := code_word (m := ⟨7, 3⟩) (meth := k7m3) (c := k7c3) (by decide +kernel) rfl rfl rfl (by decide +kernel)
set_option maxRecDepth 65536 in
theorem w_c12 : (Jvm.Cond.code ({ cls := "java/lang/StringCoding", name := "hasNegatives", desc := "([BII)Z" } : Jvm.MethodName) jdk_123_method_2_code (3 : Nat) (Option.some Jvm.ClassFile.FieldType.boolean)).before args0 about1 = true := code_word (m := ⟨15, 1⟩) (meth := k15m1) (c := k15c1) (by decide +kernel) rfl rfl rfl (by decide +kernel)
set_option maxRecDepth 65536 in
theorem w_c13 : (Jvm.Cond.code ({ cls := "java/lang/StringCoding", name := "countPositives", desc := "([BII)I" } : Jvm.MethodName) jdk_123_method_3_code (5 : Nat) (Option.some Jvm.ClassFile.FieldType.int)).before args0 about1 = true := code_word (m := ⟨15, 2⟩) (meth := k15m2) (c := k15c2) (by decide +kernel) rfl rfl rfl (by decide +kernel)
set_option maxRecDepth 65536 in
theorem w_c14 : (Jvm.Cond.code ({ cls := "com/example/outbox_relay/outboxrelay/OutboxMessage", name := "<init>", desc := "(Ljava/lang/String;Ljava/lang/String;Ljava/lang/String;Ljava/lang/String;Ljava/lang/String;Ljava/lang/String;)V" } : Jvm.MethodName) prog_1_method_2_code (7 : Nat) (Option.none : Option Jvm.ClassFile.FieldType)).before args0 about1 = true := code_word (m := ⟨8, 1⟩) (meth := k8m1) (c := k8c1) (by decide +kernel) rfl rfl rfl (by decide +kernel)
set_option maxRecDepth 65536 in
theorem w_c15 : (Jvm.Cond.code ({ cls := "com/example/outbox_relay/outboxrelay/OutboxMessage", name := "withBusinessModule", desc := "(Ljava/lang/String;)Lcom/example/outbox_relay/outboxrelay/OutboxMessage;" } : Jvm.MethodName) prog_1_method_4_code (2 : Nat) (Option.some (Jvm.ClassFile.FieldType.object "com/example/outbox_relay/outboxrelay/OutboxMessage"))).before args0 about1 = true := code_word (m := ⟨8, 3⟩) (meth := k8m3) (c := k8c3) (by decide +kernel) rfl rfl rfl (by decide +kernel)
set_option maxRecDepth 65536 in
theorem w_c16 : (Jvm.Cond.code ({ cls := "com/example/outbox_relay/outboxrelay/OutboxMessage", name := "withBusinessKey", desc := "(Ljava/lang/String;)Lcom/example/outbox_relay/outboxrelay/OutboxMessage;" } : Jvm.MethodName) prog_1_method_5_code (2 : Nat) (Option.some (Jvm.ClassFile.FieldType.object "com/example/outbox_relay/outboxrelay/OutboxMessage"))).before args0 about1 = true := code_word (m := ⟨8, 4⟩) (meth := k8m4) (c := k8c4) (by decide +kernel) rfl rfl rfl (by decide +kernel)
set_option maxRecDepth 65536 in
theorem w_c17 : (Jvm.Cond.code ({ cls := "com/example/outbox_relay/outboxrelay/OutboxMessage", name := "getBusinessKey", desc := "()Ljava/lang/String;" } : Jvm.MethodName) prog_1_method_11_code (1 : Nat) (Option.some (Jvm.ClassFile.FieldType.object "java/lang/String"))).before args0 about1 = true := code_word (m := ⟨8, 10⟩) (meth := k8m10) (c := k8c10) (by decide +kernel) rfl rfl rfl (by decide +kernel)
set_option maxRecDepth 65536 in
theorem w_c18 : (Jvm.Cond.code ({ cls := "com/example/outbox_relay/outboxrelay/OutboxMessageWithBusinessKeyPinLaw", name := "same", desc := "(Ljava/lang/String;Ljava/lang/String;)Z" } : Jvm.MethodName) method_3_code (2 : Nat) (Option.some Jvm.ClassFile.FieldType.boolean)).before args0 about1 = true := code_word (m := ⟨1, 2⟩) (meth := k1m2) (c := k1c2) (by decide +kernel) rfl rfl rfl (by decide +kernel)
set_option maxRecDepth 65536 in
theorem w_c19 : (Jvm.Cond.code ({ cls := "com/example/outbox_relay/outboxrelay/OutboxMessage", name := "getExchange", desc := "()Ljava/lang/String;" } : Jvm.MethodName) prog_1_method_6_code (1 : Nat) (Option.some (Jvm.ClassFile.FieldType.object "java/lang/String"))).before args0 about1 = true := code_word (m := ⟨8, 5⟩) (meth := k8m5) (c := k8c5) (by decide +kernel) rfl rfl rfl (by decide +kernel)
set_option maxRecDepth 65536 in
theorem w_c20 : (Jvm.Cond.code ({ cls := "java/lang/String", name := "equals", desc := "(Ljava/lang/Object;)Z" } : Jvm.MethodName) jdk_42_method_66_code (3 : Nat) (Option.some Jvm.ClassFile.FieldType.boolean)).before args0 about1 = true := code_word (m := ⟨7, 7⟩) (meth := k7m7) (c := k7c7) (by decide +kernel) rfl rfl rfl (by decide +kernel)
set_option maxRecDepth 65536 in
theorem w_c21 : (Jvm.Cond.code ({ cls := "com/example/outbox_relay/outboxrelay/OutboxMessage", name := "getRoutingKey", desc := "()Ljava/lang/String;" } : Jvm.MethodName) prog_1_method_7_code (1 : Nat) (Option.some (Jvm.ClassFile.FieldType.object "java/lang/String"))).before args0 about1 = true := code_word (m := ⟨8, 6⟩) (meth := k8m6) (c := k8c6) (by decide +kernel) rfl rfl rfl (by decide +kernel)
set_option maxRecDepth 65536 in
theorem w_c22 : (Jvm.Cond.code ({ cls := "com/example/outbox_relay/outboxrelay/OutboxMessage", name := "getPayload", desc := "()Ljava/lang/String;" } : Jvm.MethodName) prog_1_method_8_code (1 : Nat) (Option.some (Jvm.ClassFile.FieldType.object "java/lang/String"))).before args0 about1 = true := code_word (m := ⟨8, 7⟩) (meth := k8m7) (c := k8c7) (by decide +kernel) rfl rfl rfl (by decide +kernel)
set_option maxRecDepth 65536 in
theorem w_c23 : (Jvm.Cond.code ({ cls := "com/example/outbox_relay/outboxrelay/OutboxMessage", name := "getMessageId", desc := "()Ljava/lang/String;" } : Jvm.MethodName) prog_1_method_9_code (1 : Nat) (Option.some (Jvm.ClassFile.FieldType.object "java/lang/String"))).before args0 about1 = true := code_word (m := ⟨8, 8⟩) (meth := k8m8) (c := k8c8) (by decide +kernel) rfl rfl rfl (by decide +kernel)
set_option maxRecDepth 65536 in
theorem w_c24 : (Jvm.Cond.code ({ cls := "com/example/outbox_relay/outboxrelay/OutboxMessage", name := "getBusinessModule", desc := "()Ljava/lang/String;" } : Jvm.MethodName) prog_1_method_10_code (1 : Nat) (Option.some (Jvm.ClassFile.FieldType.object "java/lang/String"))).before args0 about1 = true := code_word (m := ⟨8, 9⟩) (meth := k8m9) (c := k8c9) (by decide +kernel) rfl rfl rfl (by decide +kernel)
set_option maxRecDepth 65536 in
theorem w_c25 : (Jvm.Cond.code ({ cls := "java/lang/StringUTF16", name := "compress", desc := "([CII)[B" } : Jvm.MethodName) jdk_52_method_16_code (6 : Nat) (Option.some (Jvm.ClassFile.FieldType.array Jvm.ClassFile.FieldType.byte))).before args0 about1 = true := code_word (m := ⟨17, 4⟩) (meth := k17m4) (c := k17c4) (by decide +kernel) rfl rfl rfl (by decide +kernel)
set_option maxRecDepth 65536 in
theorem w_c26 : (Jvm.Cond.code ({ cls := "java/lang/StringUTF16", name := "compress", desc := "([CI[BII)I" } : Jvm.MethodName) jdk_52_method_21_code (7 : Nat) (Option.some Jvm.ClassFile.FieldType.int)).before args0 about1 = true := code_word (m := ⟨17, 5⟩) (meth := k17m5) (c := k17c5) (by decide +kernel) rfl rfl rfl (by decide +kernel)
set_option maxRecDepth 65536 in
theorem w_c27 : (Jvm.Cond.code ({ cls := "java/lang/StringUTF16", name := "coderFromArrayLen", desc := "([BI)B" } : Jvm.MethodName) jdk_52_method_15_code (2 : Nat) (Option.some Jvm.ClassFile.FieldType.byte)).before args0 about1 = true := code_word (m := ⟨17, 3⟩) (meth := k17m3) (c := k17c3) (by decide +kernel) rfl rfl rfl (by decide +kernel)
set_option maxRecDepth 65536 in
theorem w_c28 : (Jvm.Cond.code ({ cls := "java/lang/String", name := "valueOf", desc := "(C)Ljava/lang/String;" } : Jvm.MethodName) jdk_42_method_139_code (1 : Nat) (Option.some (Jvm.ClassFile.FieldType.object "java/lang/String"))).before args0 about1 = true := code_word (m := ⟨7, 8⟩) (meth := k7m8) (c := k7c8) (by decide +kernel) rfl rfl rfl (by decide +kernel)
set_option maxRecDepth 65536 in
theorem w_c29 : (Jvm.Cond.code ({ cls := "java/lang/StringLatin1", name := "canEncode", desc := "(C)Z" } : Jvm.MethodName) jdk_43_method_3_code (1 : Nat) (Option.some Jvm.ClassFile.FieldType.boolean)).before args0 about1 = true := code_word (m := ⟨18, 1⟩) (meth := k18m1) (c := k18c1) (by decide +kernel) rfl rfl rfl (by decide +kernel)
set_option maxRecDepth 65536 in
theorem w_c30 : (Jvm.Cond.code ({ cls := "java/lang/StringLatin1", name := "toBytes", desc := "(C)[B" } : Jvm.MethodName) jdk_43_method_46_code (1 : Nat) (Option.some (Jvm.ClassFile.FieldType.array Jvm.ClassFile.FieldType.byte))).before args0 about1 = true := code_word (m := ⟨18, 2⟩) (meth := k18m2) (c := k18c2) (by decide +kernel) rfl rfl rfl (by decide +kernel)
set_option maxRecDepth 65536 in
theorem w_c31 : (Jvm.Cond.code ({ cls := "java/lang/String", name := "<init>", desc := "([BB)V" } : Jvm.MethodName) jdk_42_method_151_code (3 : Nat) (Option.none : Option Jvm.ClassFile.FieldType)).before args0 about1 = true := code_word (m := ⟨7, 10⟩) (meth := k7m10) (c := k7c10) (by decide +kernel) rfl rfl rfl (by decide +kernel)
set_option maxRecDepth 65536 in
theorem w_c32 : (Jvm.Cond.code ({ cls := "java/lang/StringUTF16", name := "newBytesFor", desc := "(I)[B" } : Jvm.MethodName) jdk_52_method_2_code (1 : Nat) (Option.some (Jvm.ClassFile.FieldType.array Jvm.ClassFile.FieldType.byte))).before args0 about1 = true := code_word (m := ⟨17, 1⟩) (meth := k17m1) (c := k17c1) (by decide +kernel) rfl rfl rfl (by decide +kernel)
set_option maxRecDepth 65536 in
theorem w_c33 : (Jvm.Cond.code ({ cls := "java/lang/StringUTF16", name := "newBytesLength", desc := "(I)I" } : Jvm.MethodName) jdk_52_method_3_code (1 : Nat) (Option.some Jvm.ClassFile.FieldType.int)).before args0 about1 = true := code_word (m := ⟨17, 2⟩) (meth := k17m2) (c := k17c2) (by decide +kernel) rfl rfl rfl (by decide +kernel)
set_option maxRecDepth 65536 in
theorem w_c34 : (Jvm.Cond.code ({ cls := "java/util/Arrays", name := "copyOf", desc := "([BI)[B" } : Jvm.MethodName) jdk_65_method_121_code (3 : Nat) (Option.some (Jvm.ClassFile.FieldType.array Jvm.ClassFile.FieldType.byte))).before args0 about1 = true := code_word (m := ⟨19, 1⟩) (meth := k19m1) (c := k19c1) (by decide +kernel) rfl rfl rfl (by decide +kernel)
set_option maxRecDepth 65536 in
theorem w_c35 : (Jvm.Cond.code ({ cls := "java/lang/Math", name := "min", desc := "(II)I" } : Jvm.MethodName) jdk_29_method_69_code (2 : Nat) (Option.some Jvm.ClassFile.FieldType.int)).before args0 about1 = true := code_word (m := ⟨20, 1⟩) (meth := k20m1) (c := k20c1) (by decide +kernel) rfl rfl rfl (by decide +kernel)
set_option maxRecDepth 65536 in
theorem w_c36 : (Jvm.Cond.code ({ cls := "com/example/outbox_relay/outboxrelay/OutboxMessage", name := "withMessageId", desc := "(Ljava/lang/String;)Lcom/example/outbox_relay/outboxrelay/OutboxMessage;" } : Jvm.MethodName) prog_1_method_3_code (2 : Nat) (Option.some (Jvm.ClassFile.FieldType.object "com/example/outbox_relay/outboxrelay/OutboxMessage"))).before args0 about1 = true := code_word (m := ⟨8, 2⟩) (meth := k8m2) (c := k8c2) (by decide +kernel) rfl rfl rfl (by decide +kernel)
set_option maxRecDepth 65536 in
theorem w_c37 : (Jvm.Cond.code ({ cls := "java/lang/String", name := "length", desc := "()I" } : Jvm.MethodName) jdk_42_method_54_code (1 : Nat) (Option.some Jvm.ClassFile.FieldType.int)).before args0 about1 = true := code_word (m := ⟨7, 4⟩) (meth := k7m4) (c := k7c4) (by decide +kernel) rfl rfl rfl (by decide +kernel)
set_option maxRecDepth 65536 in
theorem w_c38 : (Jvm.Cond.code ({ cls := "java/lang/String", name := "codePointCount", desc := "(II)I" } : Jvm.MethodName) jdk_42_method_59_code (3 : Nat) (Option.some Jvm.ClassFile.FieldType.int)).before args0 about1 = true := code_word (m := ⟨7, 5⟩) (meth := k7m5) (c := k7c5) (by decide +kernel) rfl rfl rfl (by decide +kernel)
set_option maxRecDepth 65536 in
theorem w_c39 : (Jvm.Cond.code ({ cls := "java/util/Objects", name := "checkFromToIndex", desc := "(III)I" } : Jvm.MethodName) jdk_31_method_18_code (3 : Nat) (Option.some Jvm.ClassFile.FieldType.int)).before args0 about1 = true := code_word (m := ⟨9, 2⟩) (meth := k9m2) (c := k9c2) (by decide +kernel) rfl rfl rfl (by decide +kernel)
set_option maxRecDepth 65536 in
theorem w_c40 : (Jvm.Cond.code ({ cls := "jdk/internal/util/Preconditions", name := "checkFromToIndex", desc := "(IIILjava/util/function/BiFunction;)I" } : Jvm.MethodName) jdk_41_method_12_code (4 : Nat) (Option.some Jvm.ClassFile.FieldType.int)).before args0 about1 = true := code_word (m := ⟨22, 1⟩) (meth := k22m1) (c := k22c1) (by decide +kernel) rfl rfl rfl (by decide +kernel)
set_option maxRecDepth 65536 in
theorem w_c41 : (Jvm.Cond.code ({ cls := "java/lang/String", name := "isLatin1", desc := "()Z" } : Jvm.MethodName) jdk_42_method_154_code (1 : Nat) (Option.some Jvm.ClassFile.FieldType.boolean)).before args0 about1 = true := code_word (m := ⟨7, 12⟩) (meth := k7m12) (c := k7c12) (by decide +kernel) rfl rfl rfl (by decide +kernel)
def codes1 : List Jvm.Cond := [Jvm.Cond.code x code maxLocals ret, Jvm.Cond.code ({ cls := "com/example/outbox_relay/outboxrelay/OutboxMessageWithBusinessKeyPinLaw", name := "mk", desc := "(I)Ljava/lang/String;" } : Jvm.MethodName) method_2_code (5 : Nat) (Option.some (Jvm.ClassFile.FieldType.object "java/lang/String")), Jvm.Cond.code ({ cls := "java/lang/String", name := "<init>", desc := "([C)V" } : Jvm.MethodName) jdk_42_method_3_code (2 : Nat) (Option.none : Option Jvm.ClassFile.FieldType), Jvm.Cond.code ({ cls := "java/lang/String", name := "<init>", desc := "([CIILjava/lang/Void;)V" } : Jvm.MethodName) jdk_42_method_149_code (6 : Nat) (Option.none : Option Jvm.ClassFile.FieldType), Jvm.Cond.code ({ cls := "java/lang/Object", name := "<init>", desc := "()V" } : Jvm.MethodName) object_method_1_code (1 : Nat) (Option.none : Option Jvm.ClassFile.FieldType), Jvm.Cond.code ({ cls := "com/example/outbox_relay/outboxrelay/OutboxMessage", name := "<init>", desc := "(Ljava/lang/String;Ljava/lang/String;Ljava/lang/String;)V" } : Jvm.MethodName) prog_1_method_1_code (4 : Nat) (Option.none : Option Jvm.ClassFile.FieldType), Jvm.Cond.code ({ cls := "com/example/outbox_relay/outboxrelay/OutboxMessage", name := "requireUtf8AtMost", desc := "(Ljava/lang/String;Ljava/lang/String;I)Ljava/lang/String;" } : Jvm.MethodName) prog_1_method_12_code (3 : Nat) (Option.some (Jvm.ClassFile.FieldType.object "java/lang/String")), Jvm.Cond.code ({ cls := "java/util/Objects", name := "requireNonNull", desc := "(Ljava/lang/Object;Ljava/lang/String;)Ljava/lang/Object;" } : Jvm.MethodName) jdk_31_method_11_code (2 : Nat) (Option.some (Jvm.ClassFile.FieldType.object "java/lang/Object")), Jvm.Cond.code ({ cls := "java/lang/String", name := "getBytes", desc := "(Ljava/nio/charset/Charset;)[B" } : Jvm.MethodName) jdk_42_method_64_code (2 : Nat) (Option.some (Jvm.ClassFile.FieldType.array Jvm.ClassFile.FieldType.byte)), Jvm.Cond.code ({ cls := "java/lang/String", name := "coder", desc := "()B" } : Jvm.MethodName) jdk_42_method_152_code (1 : Nat) (Option.some Jvm.ClassFile.FieldType.byte), Jvm.Cond.code ({ cls := "java/lang/String", name := "encode", desc := "(Ljava/nio/charset/Charset;B[B)[B" } : Jvm.MethodName) jdk_42_method_18_code (3 : Nat) (Option.some (Jvm.ClassFile.FieldType.array Jvm.ClassFile.FieldType.byte)), Jvm.Cond.code ({ cls := "java/lang/String", name := "encodeUTF8", desc := "(B[BZ)[B" } : Jvm.MethodName) jdk_42_method_46_code (9 : Nat) (Option.some (Jvm.ClassFile.FieldType.array Jvm.ClassFile.FieldType.byte)), Jvm.Cond.code ({ cls := "java/lang/StringCoding", name := "hasNegatives", desc := "([BII)Z" } : Jvm.MethodName) jdk_123_method_2_code (3 : Nat) (Option.some Jvm.ClassFile.FieldType.boolean), Jvm.Cond.code ({ cls := "java/lang/StringCoding", name := "countPositives", desc := "([BII)I" } : Jvm.MethodName) jdk_123_method_3_code (5 : Nat) (Option.some Jvm.ClassFile.FieldType.int), Jvm.Cond.code ({ cls := "com/example/outbox_relay/outboxrelay/OutboxMessage", name := "<init>", desc := "(Ljava/lang/String;Ljava/lang/String;Ljava/lang/String;Ljava/lang/String;Ljava/lang/String;Ljava/lang/String;)V" } : Jvm.MethodName) prog_1_method_2_code (7 : Nat) (Option.none : Option Jvm.ClassFile.FieldType), Jvm.Cond.code ({ cls := "com/example/outbox_relay/outboxrelay/OutboxMessage", name := "withBusinessModule", desc := "(Ljava/lang/String;)Lcom/example/outbox_relay/outboxrelay/OutboxMessage;" } : Jvm.MethodName) prog_1_method_4_code (2 : Nat) (Option.some (Jvm.ClassFile.FieldType.object "com/example/outbox_relay/outboxrelay/OutboxMessage")), Jvm.Cond.code ({ cls := "com/example/outbox_relay/outboxrelay/OutboxMessage", name := "withBusinessKey", desc := "(Ljava/lang/String;)Lcom/example/outbox_relay/outboxrelay/OutboxMessage;" } : Jvm.MethodName) prog_1_method_5_code (2 : Nat) (Option.some (Jvm.ClassFile.FieldType.object "com/example/outbox_relay/outboxrelay/OutboxMessage")), Jvm.Cond.code ({ cls := "com/example/outbox_relay/outboxrelay/OutboxMessage", name := "getBusinessKey", desc := "()Ljava/lang/String;" } : Jvm.MethodName) prog_1_method_11_code (1 : Nat) (Option.some (Jvm.ClassFile.FieldType.object "java/lang/String")), Jvm.Cond.code ({ cls := "com/example/outbox_relay/outboxrelay/OutboxMessageWithBusinessKeyPinLaw", name := "same", desc := "(Ljava/lang/String;Ljava/lang/String;)Z" } : Jvm.MethodName) method_3_code (2 : Nat) (Option.some Jvm.ClassFile.FieldType.boolean), Jvm.Cond.code ({ cls := "com/example/outbox_relay/outboxrelay/OutboxMessage", name := "getExchange", desc := "()Ljava/lang/String;" } : Jvm.MethodName) prog_1_method_6_code (1 : Nat) (Option.some (Jvm.ClassFile.FieldType.object "java/lang/String")), Jvm.Cond.code ({ cls := "java/lang/String", name := "equals", desc := "(Ljava/lang/Object;)Z" } : Jvm.MethodName) jdk_42_method_66_code (3 : Nat) (Option.some Jvm.ClassFile.FieldType.boolean), Jvm.Cond.code ({ cls := "com/example/outbox_relay/outboxrelay/OutboxMessage", name := "getRoutingKey", desc := "()Ljava/lang/String;" } : Jvm.MethodName) prog_1_method_7_code (1 : Nat) (Option.some (Jvm.ClassFile.FieldType.object "java/lang/String")), Jvm.Cond.code ({ cls := "com/example/outbox_relay/outboxrelay/OutboxMessage", name := "getPayload", desc := "()Ljava/lang/String;" } : Jvm.MethodName) prog_1_method_8_code (1 : Nat) (Option.some (Jvm.ClassFile.FieldType.object "java/lang/String")), Jvm.Cond.code ({ cls := "com/example/outbox_relay/outboxrelay/OutboxMessage", name := "getMessageId", desc := "()Ljava/lang/String;" } : Jvm.MethodName) prog_1_method_9_code (1 : Nat) (Option.some (Jvm.ClassFile.FieldType.object "java/lang/String")), Jvm.Cond.code ({ cls := "com/example/outbox_relay/outboxrelay/OutboxMessage", name := "getBusinessModule", desc := "()Ljava/lang/String;" } : Jvm.MethodName) prog_1_method_10_code (1 : Nat) (Option.some (Jvm.ClassFile.FieldType.object "java/lang/String")), Jvm.Cond.code ({ cls := "java/lang/StringUTF16", name := "compress", desc := "([CII)[B" } : Jvm.MethodName) jdk_52_method_16_code (6 : Nat) (Option.some (Jvm.ClassFile.FieldType.array Jvm.ClassFile.FieldType.byte)), Jvm.Cond.code ({ cls := "java/lang/StringUTF16", name := "compress", desc := "([CI[BII)I" } : Jvm.MethodName) jdk_52_method_21_code (7 : Nat) (Option.some Jvm.ClassFile.FieldType.int), Jvm.Cond.code ({ cls := "java/lang/StringUTF16", name := "coderFromArrayLen", desc := "([BI)B" } : Jvm.MethodName) jdk_52_method_15_code (2 : Nat) (Option.some Jvm.ClassFile.FieldType.byte), Jvm.Cond.code ({ cls := "java/lang/String", name := "valueOf", desc := "(C)Ljava/lang/String;" } : Jvm.MethodName) jdk_42_method_139_code (1 : Nat) (Option.some (Jvm.ClassFile.FieldType.object "java/lang/String")), Jvm.Cond.code ({ cls := "java/lang/StringLatin1", name := "canEncode", desc := "(C)Z" } : Jvm.MethodName) jdk_43_method_3_code (1 : Nat) (Option.some Jvm.ClassFile.FieldType.boolean), Jvm.Cond.code ({ cls := "java/lang/StringLatin1", name := "toBytes", desc := "(C)[B" } : Jvm.MethodName) jdk_43_method_46_code (1 : Nat) (Option.some (Jvm.ClassFile.FieldType.array Jvm.ClassFile.FieldType.byte)), Jvm.Cond.code ({ cls := "java/lang/String", name := "<init>", desc := "([BB)V" } : Jvm.MethodName) jdk_42_method_151_code (3 : Nat) (Option.none : Option Jvm.ClassFile.FieldType), Jvm.Cond.code ({ cls := "java/lang/StringUTF16", name := "newBytesFor", desc := "(I)[B" } : Jvm.MethodName) jdk_52_method_2_code (1 : Nat) (Option.some (Jvm.ClassFile.FieldType.array Jvm.ClassFile.FieldType.byte)), Jvm.Cond.code ({ cls := "java/lang/StringUTF16", name := "newBytesLength", desc := "(I)I" } : Jvm.MethodName) jdk_52_method_3_code (1 : Nat) (Option.some Jvm.ClassFile.FieldType.int), Jvm.Cond.code ({ cls := "java/util/Arrays", name := "copyOf", desc := "([BI)[B" } : Jvm.MethodName) jdk_65_method_121_code (3 : Nat) (Option.some (Jvm.ClassFile.FieldType.array Jvm.ClassFile.FieldType.byte)), Jvm.Cond.code ({ cls := "java/lang/Math", name := "min", desc := "(II)I" } : Jvm.MethodName) jdk_29_method_69_code (2 : Nat) (Option.some Jvm.ClassFile.FieldType.int), Jvm.Cond.code ({ cls := "com/example/outbox_relay/outboxrelay/OutboxMessage", name := "withMessageId", desc := "(Ljava/lang/String;)Lcom/example/outbox_relay/outboxrelay/OutboxMessage;" } : Jvm.MethodName) prog_1_method_3_code (2 : Nat) (Option.some (Jvm.ClassFile.FieldType.object "com/example/outbox_relay/outboxrelay/OutboxMessage")), Jvm.Cond.code ({ cls := "java/lang/String", name := "length", desc := "()I" } : Jvm.MethodName) jdk_42_method_54_code (1 : Nat) (Option.some Jvm.ClassFile.FieldType.int), Jvm.Cond.code ({ cls := "java/lang/String", name := "codePointCount", desc := "(II)I" } : Jvm.MethodName) jdk_42_method_59_code (3 : Nat) (Option.some Jvm.ClassFile.FieldType.int), Jvm.Cond.code ({ cls := "java/util/Objects", name := "checkFromToIndex", desc := "(III)I" } : Jvm.MethodName) jdk_31_method_18_code (3 : Nat) (Option.some Jvm.ClassFile.FieldType.int), Jvm.Cond.code ({ cls := "jdk/internal/util/Preconditions", name := "checkFromToIndex", desc := "(IIILjava/util/function/BiFunction;)I" } : Jvm.MethodName) jdk_41_method_12_code (4 : Nat) (Option.some Jvm.ClassFile.FieldType.int), Jvm.Cond.code ({ cls := "java/lang/String", name := "isLatin1", desc := "()Z" } : Jvm.MethodName) jdk_42_method_154_code (1 : Nat) (Option.some Jvm.ClassFile.FieldType.boolean)]
set_option maxRecDepth 65536 in
theorem codes_eq : words1.filter isCode = codes1 := rfl
theorem w_codes : ∀ c ∈ words1.filter isCode, c.before args0 about1 = true := by
  rw [codes_eq]
  intro c hc
  simp only [codes1, List.mem_cons, List.not_mem_nil, or_false] at hc
  rcases hc with rfl | rfl | rfl | rfl | rfl | rfl | rfl | rfl | rfl | rfl | rfl | rfl | rfl | rfl | rfl | rfl | rfl | rfl | rfl | rfl | rfl | rfl | rfl | rfl | rfl | rfl | rfl | rfl | rfl | rfl | rfl | rfl | rfl | rfl | rfl | rfl | rfl | rfl | rfl | rfl | rfl | rfl
  · exact w_c0
  · exact w_c1
  · exact w_c2
  · exact w_c3
  · exact w_c4
  · exact w_c5
  · exact w_c6
  · exact w_c7
  · exact w_c8
  · exact w_c9
  · exact w_c10
  · exact w_c11
  · exact w_c12
  · exact w_c13
  · exact w_c14
  · exact w_c15
  · exact w_c16
  · exact w_c17
  · exact w_c18
  · exact w_c19
  · exact w_c20
  · exact w_c21
  · exact w_c22
  · exact w_c23
  · exact w_c24
  · exact w_c25
  · exact w_c26
  · exact w_c27
  · exact w_c28
  · exact w_c29
  · exact w_c30
  · exact w_c31
  · exact w_c32
  · exact w_c33
  · exact w_c34
  · exact w_c35
  · exact w_c36
  · exact w_c37
  · exact w_c38
  · exact w_c39
  · exact w_c40
  · exact w_c41
set_option maxRecDepth 65536 in
theorem w_t1 : (words1.take 24).all (fun c => isCode c || c.before args0 about1) = true := by decide +kernel
set_option maxRecDepth 65536 in
theorem w_t2 : ((words1.drop 24).take 24).all (fun c => isCode c || c.before args0 about1) = true := by decide +kernel
set_option maxRecDepth 65536 in
theorem w_t3 : (((words1.drop 24).drop 24).take 24).all (fun c => isCode c || c.before args0 about1) = true := by decide +kernel
set_option maxRecDepth 65536 in
theorem w_t4 : ((((words1.drop 24).drop 24).drop 24).take 24).all (fun c => isCode c || c.before args0 about1) = true := by decide +kernel
set_option maxRecDepth 65536 in
theorem w_t5 : (((((words1.drop 24).drop 24).drop 24).drop 24).take 24).all (fun c => isCode c || c.before args0 about1) = true := by decide +kernel
set_option maxRecDepth 65536 in
theorem w_t6 : ((((((words1.drop 24).drop 24).drop 24).drop 24).drop 24).take 24).all (fun c => isCode c || c.before args0 about1) = true := by decide +kernel
set_option maxRecDepth 65536 in
theorem w_t7 : (((((((words1.drop 24).drop 24).drop 24).drop 24).drop 24).drop 24).take 24).all (fun c => isCode c || c.before args0 about1) = true := by decide +kernel
set_option maxRecDepth 65536 in
theorem w_t8 : ((((((((words1.drop 24).drop 24).drop 24).drop 24).drop 24).drop 24).drop 24).take 24).all (fun c => isCode c || c.before args0 about1) = true := by decide +kernel
set_option maxRecDepth 65536 in
theorem w_t9 : (((((((((words1.drop 24).drop 24).drop 24).drop 24).drop 24).drop 24).drop 24).drop 24).take 24).all (fun c => isCode c || c.before args0 about1) = true := by decide +kernel
set_option maxRecDepth 65536 in
theorem w_t10 : (((((((((words1.drop 24).drop 24).drop 24).drop 24).drop 24).drop 24).drop 24).drop 24).drop 24).all (fun c => isCode c || c.before args0 about1) = true := by decide +kernel
theorem w_tables : (allAtoms (Jvm.Cond.code x code maxLocals ret :: tables_1)).before args0 about1 = true := by
  rw [allAtoms_all]
  show words1.all (fun c => c.before args0 about1) = true
  refine all_split ?_ w_codes
  rw [← List.take_append_drop 24 words1, List.all_append, w_t1, ← List.take_append_drop 24 (words1.drop 24), List.all_append, w_t2, ← List.take_append_drop 24 ((words1.drop 24).drop 24), List.all_append, w_t3, ← List.take_append_drop 24 (((words1.drop 24).drop 24).drop 24), List.all_append, w_t4, ← List.take_append_drop 24 ((((words1.drop 24).drop 24).drop 24).drop 24), List.all_append, w_t5, ← List.take_append_drop 24 (((((words1.drop 24).drop 24).drop 24).drop 24).drop 24), List.all_append, w_t6, ← List.take_append_drop 24 ((((((words1.drop 24).drop 24).drop 24).drop 24).drop 24).drop 24), List.all_append, w_t7, ← List.take_append_drop 24 (((((((words1.drop 24).drop 24).drop 24).drop 24).drop 24).drop 24).drop 24), List.all_append, w_t8, ← List.take_append_drop 24 ((((((((words1.drop 24).drop 24).drop 24).drop 24).drop 24).drop 24).drop 24).drop 24), List.all_append, w_t9, w_t10]
  rfl
set_option maxRecDepth 65536 in
theorem w_rest : rest_1_c.before args0 about1 = true := by decide +kernel
set_option maxRecDepth 65536 in
theorem w_case : (Jvm.Cond.and given_1 narrow_1).before args0 about1 = true := by decide +kernel
set_option maxRecDepth 65536 in
theorem w_consts : constsHeld consts_1 about1 := Jvm.Lit.constsHeldB_iff.mp (by decide +kernel)
theorem w_applies : (headSpec (Jvm.Cond.code x code maxLocals ret :: tables_1) room_1).applies x e0.platform about1 = true :=
  (Spec.applies_iff w_frames).mpr ⟨w_running, w_runnable, w_alone, w_named, w_hears, w_ripe, w_room, w_tables⟩
theorem atStart : AtStart classFile x code maxLocals ret World_1 tables_1 room_1 Calls_1 rest_1 Pre_1 launch0 p0 e0 about1 theMethod args0 below0 :=
  ⟨lists_1, trivial, launch0.admits_env _ _ _, launch0.least_env, fairChoices_fair.cas, fairChoices_fair.clock, w_frames, w_args, w_heap, w_applies, ⟨w_consts, trivial⟩, w_rest, w_case⟩
end start1
theorem witness_1 : WitnessClaimed_1 := ⟨start1.p0, start1.e0, start1.about1, start1.theMethod, start1.args0, start1.below0, start1.atStart⟩
end Jvm.Pilot.@@N@@
