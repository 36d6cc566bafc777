import JvmDerived
import JvmDerived.Pilot.@@N@@Statement
import JvmDerived.Pilot.@@N@@Code
set_option linter.unusedVariables false
set_option linter.unusedSimpArgs false
namespace Jvm.OwnK
open Sem ClassFile Op Lib Jvm.Stand Jvm.Free Jvm.LawKit Jvm.RoadKit
/-- what a body leaves: Q of its value and heap; what it wrote lies in new cells; the old cells stand -/
def Out (Z s : State) (Q : Option Value → Heap → Prop) (k n : Nat) (o : Outcome) (U : State) : Prop :=
  ∃ v L, o = .returned v ∧ (Q v U.heap ∧ Fr Z.heap.size L ∧ Old Z Z.heap.size U.heap) ∧ FrameEnd s o U L k n
/-- from here the walk ends, and G holds of its end -/
def Go (tb : Tables) (e : Env) (below : List Frame) (G : Outcome → State → Prop) (T : State) (F : JFrame) : Prop :=
  ∃ s₂ o, Steps tb e below (T.setTop F) s₂ ∧ s₂.status = .running ∧ Ended s₂ below o ∧ G o s₂
/-- where the walk stands, with its heap -/
def Wk (p : Program) (l : Launch) (e : Env) (R : Room) (s : State) (m : MethodId) (args : Array Value) (below : List Frame) (meth : Method) (c : Code) (Z T : State) (h : Heap) (k n : Nat) : Prop :=
  ∃ locs, Stand p l e R s m args below meth c T locs k n ∧ T.heap = h ∧ Fr Z.heap.size locs ∧ Old Z Z.heap.size h
/-- what is known of the body -/
def Bdy (p : Program) (Z s : State) (m : MethodId) (meth : Method) (c : Code) (own : String) (bytes : ByteArray) (maxL : Nat) (ret : Option FieldType) (nm : String) : Prop :=
  p.tables.exec = Jvm.exec ∧ Z.Warmed39 s.vm ∧ s.vm.findClass own = some m.cls ∧ c.code = bytes ∧ c.maxLocals = maxL ∧ meth.sig.returnType = ret ∧ meth.locks = false ∧ meth.name = nm
/-- a contract -/
def Con (l : Launch) (Z : State) (y : MethodName) (bytes : ByteArray) (maxL : Nat) (ret : Option FieldType) (ws : List Cond) (rm : Room) (as' : Array Value) (h0 : Heap) (Q : Option Value → Heap → Prop) : Prop :=
  Old Z Z.heap.size h0 → MetFree l y (head1 (Cond.code y bytes maxL ret :: ws) rm) (fun a U => a = as' ∧ Z.Warmed39 U.vm ∧ U.heap = h0) (fun _ _ _ _ _ => True) (fun _ U o U' => Out Z U Q rm.cells rm.slots o U')
def bi (b : Bool) : Int32 := if b then 1 else 0
theorem bi_t {b : Bool} (h : b = true) : ¬ bi b = 0 := by subst h; decide
theorem bi_f {b : Bool} (h : b = false) : bi b = 0 := by subst h; rfl
theorem bi_nar (b : Bool) : nar .boolean (bi b) = bi b := by cases b <;> rfl
theorem bi_tt : bi true = 1 := rfl
theorem bi_ff : bi false = 0 := rfl
theorem bi_inj {a b : Bool} : (bi a = bi b) = (a = b) := by cases a <;> cases b <;> decide
theorem own_nb (b : Bool) : narrow .boolean (.int (bi b)) = .int (bi b) := by cases b <;> rfl
theorem own_fb (b : Bool) : fits .boolean (.int (bi b)) = true := by cases b <;> rfl
theorem own_fr {t : FieldType} {v : Value} (ht : t.isReference = true) (hv : v.isRef = true) : fits t v = true := by cases t <;> cases v <;> first | rfl | (exfalso; revert ht hv; simp [FieldType.isReference, Value.isRef]; done)
theorem own_i2c (a : Int32) : ∃ x : Int32, a.toUInt32.toUInt16.toUInt32.toInt32 = x ∧ nar .char x = x ∧ 0 ≤ x.toInt ∧ x.toInt < 65536 := by
  refine ⟨_, rfl, ?_, (c_i2c a).2.1, (c_i2c a).2.2⟩
  show (a.toUInt32.toUInt16.toUInt32.toInt32).toUInt32.toUInt16.toUInt32.toInt32 = _
  simp only [UInt32.toUInt32_toInt32, UInt16.toUInt16_toUInt32]
theorem own_i2cm (a : Int32) : ∃ x : Int32, (a &&& 255).toUInt32.toUInt16.toUInt32.toInt32 = x ∧ nar .char x = x ∧ ¬ x < 0 ∧ ¬ 255 < x := by
  refine ⟨_, rfl, ?_, ?_⟩
  · show ((a &&& 255).toUInt32.toUInt16.toUInt32.toInt32).toUInt32.toUInt16.toUInt32.toInt32 = _
    simp only [UInt32.toUInt32_toInt32, UInt16.toUInt16_toUInt32]
  · rw [i2c_mask]
    have q := c_and a 255 (by decide)
    simp only [Int32.lt_iff_toInt_lt, Int32.reduceToInt] at *; omega
theorem own_and1 {a b : Bool} (h : b = true) : (bi a &&& 1) = bi (a && b) := by subst h; cases a <;> decide
theorem own_and0 {a b : Bool} (h : b = false) : (bi a &&& 0) = bi (a && b) := by subst h; cases a <;> decide
theorem own_andb (a b : Bool) : (bi a &&& bi b) = bi (a && b) := by cases a <;> cases b <;> decide
theorem own_inc (i : Nat) : Int32.ofNat i + 1 = Int32.ofNat (i + 1) := (Int32.ofNat_add i 1).symm
theorem own_ofNat {i : Nat} (h : i < 2147483648) : (Int32.ofNat i).toInt = i := by
  have := Int32.toInt_ofNat_of_lt (n := i) (by omega); exact this
theorem own_clamp {i : Nat} (h : i < 2147483648) : (Int32.ofNat i).toNatClampNeg = i := by
  simp only [Int32.toNatClampNeg, own_ofNat h]; omega
theorem own_lt {i j : Nat} (hi : i < 2147483648) (hj : j < 2147483648) : (Int32.ofNat i < Int32.ofNat j) ↔ i < j := by
  rw [Int32.lt_iff_toInt_lt, own_ofNat hi, own_ofNat hj]; omega
theorem own_ixok {i n : Nat} (hi : i < n) (hn : n < 2147483648) : ¬ Int32.ofNat i < 0 ∧ Int32.ofNat i < Int32.ofNat n := by
  refine ⟨?_, (own_lt (by omega) hn).mpr hi⟩
  rw [Int32.lt_iff_toInt_lt, own_ofNat (by omega)]; show ¬ ((i : Int) < 0); omega
theorem nar_b0 : nar .boolean 0 = 0 := by decide
theorem nar_b1 : nar .boolean 1 = 1 := by decide
theorem old_le {Z : State} {h : Heap} (O : Old Z Z.heap.size h) : Z.heap.size ≤ h.size := O.2.1
theorem nlt {x : Addr} {n : Nat} (h : x < n) : @LT.lt Nat _ x n := h
theorem nne {x y : Addr} (h : ¬ @Eq Nat x y) : x ≠ y := h
theorem own_root {Z : State} {a0 : Array Value} {O K : String} {kk : Nat} (w : (Cond.noSuperclass O).before a0 Z = true) (wk : (Cond.instantiable K kk).before a0 Z = true) (hn : O ≠ K) : NS Z O K := by
  obtain ⟨c, k, h1, h2, h3, -, -⟩ := Cond.noSuperclass_spec w
  obtain ⟨t, kt, g1, -⟩ := Cond.instantiable_spec wk
  have ne := ids_ne h1 g1 hn
  refine ⟨c, t, h1, g1, fun fuel => ?_⟩
  cases fuel with
  | zero => rfl
  | succ f => simp [Vm.isSubclassAux, ne, h2, h3]
theorem own_no {Z : State} {a0 : Array Value} {C S K : String} {kk : Nat} (w : (Cond.superclass C S).before a0 Z = true) (wk : (Cond.instantiable K kk).before a0 Z = true) (n : NS Z C K) (hn : C ≠ K) : ∃ c t, Z.vm.findClass C = some c ∧ Z.vm.findClass K = some t ∧ Z.vm.assignable c t = false := by
  obtain ⟨c, t, h0, g0, n3⟩ := n
  obtain ⟨p, k, kp, h1, h2, h3, h4, h5, -, h7⟩ := Cond.superclass_spec h0 w
  obtain ⟨t', kt, g1, g2, g3, g4, -⟩ := Cond.instantiable_spec wk
  cases g0.symm.trans g1
  have ne := ids_ne h0 g0 hn
  have g5 : kt.isInterface = false := by cases hq : kt.isInterface <;> simp [hq] at g4 ⊢
  refine ⟨c, t, h0, g0, ?_⟩
  show Z.vm.assignableAux (255 + 1) c t = false
  simp [Vm.assignableAux, ne, h2, g2, h5, g3, g5, Vm.isSubclass, n3]
theorem own_03 (x : Int32) : (x &&& 3) = 0 ∨ (x &&& 3) = 1 ∨ (x &&& 3) = 2 ∨ (x &&& 3) = 3 := by
  have q := c_and x 3 (by decide)
  simp only [← Int32.toInt_inj, Int32.reduceToInt] at *; omega
section K
variable {p : Program} {l : Launch} {e : Env} {R : Room} {s : State} {m : MethodId} {args : Array Value} {below : List Frame} {meth : Method} {c : Code} {Z T T' : State} {h h' : Heap} {k n : Nat} {own nm : String} {bytes : ByteArray} {maxL : Nat} {ret : Option FieldType} {G : Outcome → State → Prop} {pc : Nat} {ls : Array Slot} {st : List Value} {Q : Option Value → Heap → Prop} {a0 : Array Value}
theorem Bdy.nameOf (B : Bdy p Z s m meth c own bytes maxL ret nm) : meth.name = nm := B.2.2.2.2.2.2.2
theorem Go.by {tb : Tables} {F F' : JFrame} (hs : ∀ t, Steps tb e below (T'.setTop F') t → Steps tb e below (T.setTop F) t) (q : Go tb e below G T' F') : Go tb e below G T F := by
  obtain ⟨s2, o, a, b⟩ := q; exact ⟨s2, o, hs _ a, b⟩
theorem own_gc {tb : Tables} {v v' : Int32} (hv : v = v') (q : Go tb e below G T (mkF m pc ls (.int v :: st))) : Go tb e below G T (mkF m pc ls (.int v' :: st)) := hv ▸ q
theorem Go.cast {tb : Tables} {F F' : JFrame} (hs : F = F') (q : Go tb e below G T F') : Go tb e below G T F := hs ▸ q
theorem Con.of {y : MethodName} {ws : List Cond} {rm : Room} {as' : Array Value} {h0 : Heap} (hpl : plainFor y = true)
    (body : ∀ p e s m below meth c T, Bdy p Z s m meth c y.cls bytes maxL ret y.name → Wk p l e rm s m as' below meth c Z T h0 0 0 → Go p.tables e below (Out Z s Q rm.cells rm.slots) T (entryFrame m as' maxL)) : Con l Z y bytes maxL ret ws rm as' h0 Q := by
  intro hO
  refine MetFree.of_bodySF hpl hisR ?_
  intro p e s m args below meth c s₁ Bd hml0 hP hK
  obtain ⟨rfl, hZ, hh⟩ := hP
  exact body p e s m below meth c s₁ ⟨Bd.exec, hZ, findClass_of_methodNamed Bd.named, Bd.bytes, hml0, Bd.returns, Bd.notSynchronized, (name_of_methodNamed Bd.named Bd.method).1⟩ ⟨[], Stand.of_body Bd, by rw [← hh, Bd.state]; rfl, Fr.nil _, hO⟩
theorem Wk.size (W : Wk p l e R s m args below meth c Z T h k n) : Z.heap.size ≤ h.size := by obtain ⟨_, _, _, _, O⟩ := W; exact O.2.1
theorem Wk.old (W : Wk p l e R s m args below meth c Z T h k n) : Old Z Z.heap.size h := by obtain ⟨_, _, _, _, O⟩ := W; exact O
theorem Sta.old {C nf d : String} {v : Value} (F : Sta Z Z.heap C nf d v) (W : Old Z Z.heap.size h) : Sta Z h C nf d v := F.ext W.2
theorem Wk.more {k' n' : Nat} (W : Wk p l e R s m args below meth c Z T h k n) (hk : k ≤ k') (hn : n ≤ n') : Wk p l e R s m args below meth c Z T h k' n' := by
  obtain ⟨locs, X, r⟩ := W; exact ⟨locs, X.more hk hn, r⟩
/-! ### the ends -/
theorem go_end (B : Bdy p Z s m meth c own bytes maxL ret nm) (W : Wk p l e R s m args below meth c Z T h k n) {F : JFrame} {v : Option Value} {k' n' : Nat} (hv : ret = none → v = none) (hQ : Q v h) (hk : k ≤ k') (hn : n ≤ n')
    (hst : ∀ (locs : List Loc) (fs : List Frame), Stand p l e R s m args below meth c T locs k n → (∀ (f : JFrame) (acts : List Action), f.method = m → f.locked = none → f.entered = [] → (doReturn e (T.setTop f) acts v).1 = T.setFrames fs) → Steps p.tables e below (T.setTop F) (T.setFrames fs)) :
    Go p.tables e below (Out Z s Q k' n') T F := by
  obtain ⟨locs, X, eT, N, O⟩ := W
  obtain ⟨fs, hr, hrun, hended, hW, hsame⟩ := X.leave (v := v) (fun q => hv (B.2.2.2.2.2.1 ▸ q)) B.2.2.2.2.2.2.1
  have eT' : (T.setFrames fs).heap = h := eT
  exact ⟨_, _, hst locs fs X hr, hrun, hended, _, _, rfl, ⟨by rw [eT']; exact hQ, N, by rw [eT']; exact O⟩, ⟨_, rfl⟩, hW, hsame.mono hk hn⟩
theorem r_i (B : Bdy p Z s m meth c own bytes maxL (some .int) nm) (W : Wk p l e R s m args below meth c Z T h k n) {z : Int32} {k' n' : Nat} (hd : decode bytes pc = .ok (.ireturn, 1)) (hk : k ≤ k') (hn : n ≤ n') (hQ : Q (some (.int z)) h) : Go p.tables e below (Out Z s Q k' n') T (mkF m pc ls (.int z :: st)) :=
  go_end B W (fun q => by cases q) hQ hk hn fun _ _ X hr => retOut X B.1 B.2.2.2.2.2.1 rfl (Or.inl ⟨rfl, Or.inl rfl, _, rfl⟩) (hb B.2.2.2.1 hd) hr
theorem r_b (B : Bdy p Z s m meth c own bytes maxL (some .boolean) nm) (W : Wk p l e R s m args below meth c Z T h k n) {b : Bool} {k' n' : Nat} (hd : decode bytes pc = .ok (.ireturn, 1)) (hk : k ≤ k') (hn : n ≤ n') (hQ : Q (some (.int (bi b))) h) : Go p.tables e below (Out Z s Q k' n') T (mkF m pc ls (.int (bi b) :: st)) :=
  go_end B W (fun q => by cases q) (v := some (.int (nar .boolean (bi b)))) (by rw [bi_nar]; exact hQ) hk hn fun _ _ X hr => retN X B.1 B.2.2.2.2.2.1 (Or.inl rfl) (hb B.2.2.2.1 hd) hr
theorem r_n (B : Bdy p Z s m meth c own bytes maxL ret nm) (W : Wk p l e R s m args below meth c Z T h k n) {t : FieldType} {z : Int32} {k' n' : Nat} (hret : ret = some t) (ht : t = .boolean ∨ t = .byte ∨ t = .char ∨ t = .short) (hd : decode bytes pc = .ok (.ireturn, 1)) (hk : k ≤ k') (hn : n ≤ n') (hQ : Q (some (.int (nar t z))) h) : Go p.tables e below (Out Z s Q k' n') T (mkF m pc ls (.int z :: st)) :=
  go_end B W (fun q => by rw [hret] at q; cases q) hQ hk hn fun _ _ X hr => retN X B.1 (B.2.2.2.2.2.1.trans hret) ht (hb B.2.2.2.1 hd) hr
theorem nar_ref {t : FieldType} {v : Value} (ht : t.isReference = true) : narrow t v = v := by cases t <;> first | rfl | (exfalso; revert ht; simp [FieldType.isReference]; done) | (cases v <;> rfl)
theorem r_a (B : Bdy p Z s m meth c own bytes maxL ret nm) (W : Wk p l e R s m args below meth c Z T h k n) {t : FieldType} {v : Value} {k' n' : Nat} (hret : ret = some t) (ht : t.isReference = true) (hv : v.isRef = true) (hd : decode bytes pc = .ok (.areturn, 1)) (hk : k ≤ k') (hn : n ≤ n') (hQ : Q (some v) h) : Go p.tables e below (Out Z s Q k' n') T (mkF m pc ls (v :: st)) :=
  go_end B W (fun q => by rw [hret] at q; cases q) hQ hk hn fun _ _ X hr => retOut X B.1 (B.2.2.2.2.2.1.trans hret) (nar_ref ht) (Or.inr (Or.inr (Or.inr (Or.inr ⟨rfl, ht, hv⟩)))) (hb B.2.2.2.1 hd) hr
theorem r_v (B : Bdy p Z s m meth c own bytes maxL none nm) (W : Wk p l e R s m args below meth c Z T h k n) {k' n' : Nat} (hd : decode bytes pc = .ok (.return_, 1)) (hk : k ≤ k') (hn : n ≤ n') (hQ : Q none h) : Go p.tables e below (Out Z s Q k' n') T (mkF m pc ls []) :=
  go_end B W (fun _ => rfl) hQ hk hn fun _ _ X hr => X.returnOut B.1 B.2.2.2.2.2.1 (hb B.2.2.2.1 hd) hr
theorem r_l (B : Bdy p Z s m meth c own bytes maxL (some .long) nm) (W : Wk p l e R s m args below meth c Z T h k n) {z : Int64} {k' n' : Nat} (hd : decode bytes pc = .ok (.lreturn, 1)) (hk : k ≤ k') (hn : n ≤ n') (hQ : Q (some (.long z)) h) : Go p.tables e below (Out Z s Q k' n') T (mkF m pc ls (.long z :: st)) :=
  go_end B W (fun q => by cases q) hQ hk hn fun _ _ X hr => retOut X B.1 B.2.2.2.2.2.1 rfl (Or.inr (Or.inl ⟨rfl, rfl, _, rfl⟩)) (hb B.2.2.2.1 hd) hr
/-! ### plain steps -/
theorem g_aload_n (B : Bdy p Z s m meth c own bytes maxL ret nm) (W : Wk p l e R s m args below meth c Z T h k n) {i : Fin 4} {v : Value} (hd : decode bytes pc = .ok (.aload_n i, 1)) (hl : ls[i.val]? = some (.val v)) (hv : v.isRef = true) (q : Go p.tables e below G T (mkF m (pc + 1) ls (v :: st))) : Go p.tables e below G T (mkF m pc ls st) := by
  obtain ⟨_, X, -⟩ := W
  exact Go.by (fun t q => XS.aloadN X.here B.1 rfl (hb B.2.2.2.1 hd) hl hv q) q
theorem g_aload (B : Bdy p Z s m meth c own bytes maxL ret nm) (W : Wk p l e R s m args below meth c Z T h k n) {i : Nat} {v : Value} (hd : decode bytes pc = .ok (.aload i, 2)) (hl : ls[i]? = some (.val v)) (hv : v.isRef = true) (q : Go p.tables e below G T (mkF m (pc + 2) ls (v :: st))) : Go p.tables e below G T (mkF m pc ls st) := by
  obtain ⟨_, X, -⟩ := W
  exact Go.by (fun t q => XS.aload X.here B.1 rfl (hb B.2.2.2.1 hd) hl hv q) q
theorem g_iload_n (B : Bdy p Z s m meth c own bytes maxL ret nm) (W : Wk p l e R s m args below meth c Z T h k n) {i : Fin 4} {v : Int32} (hd : decode bytes pc = .ok (.iload_n i, 1)) (hl : ls[i.val]? = some (.val (.int v))) (q : Go p.tables e below G T (mkF m (pc + 1) ls (.int v :: st))) : Go p.tables e below G T (mkF m pc ls st) := by
  obtain ⟨_, X, -⟩ := W
  exact Go.by (fun t q => XS.iloadN X.here B.1 rfl (hb B.2.2.2.1 hd) hl q) q
theorem g_iload (B : Bdy p Z s m meth c own bytes maxL ret nm) (W : Wk p l e R s m args below meth c Z T h k n) {i : Nat} {v : Int32} (hd : decode bytes pc = .ok (.iload i, 2)) (hl : ls[i]? = some (.val (.int v))) (q : Go p.tables e below G T (mkF m (pc + 2) ls (.int v :: st))) : Go p.tables e below G T (mkF m pc ls st) := by
  obtain ⟨_, X, -⟩ := W
  exact Go.by (fun t q => XS.iload X.here B.1 rfl (hb B.2.2.2.1 hd) hl q) q
theorem g_lload_n (B : Bdy p Z s m meth c own bytes maxL ret nm) (W : Wk p l e R s m args below meth c Z T h k n) {i : Fin 4} {v : Int64} (hd : decode bytes pc = .ok (.lload_n i, 1)) (hl : ls[i.val]? = some (.val (.long v))) (q : Go p.tables e below G T (mkF m (pc + 1) ls (.long v :: st))) : Go p.tables e below G T (mkF m pc ls st) := by
  obtain ⟨_, X, -⟩ := W
  exact Go.by (fun t q => XT.lloadN X.here B.1 rfl (hb B.2.2.2.1 hd) hl q) q
theorem g_lload (B : Bdy p Z s m meth c own bytes maxL ret nm) (W : Wk p l e R s m args below meth c Z T h k n) {i : Nat} {v : Int64} (hd : decode bytes pc = .ok (.lload i, 2)) (hl : ls[i]? = some (.val (.long v))) (q : Go p.tables e below G T (mkF m (pc + 2) ls (.long v :: st))) : Go p.tables e below G T (mkF m pc ls st) := by
  obtain ⟨_, X, -⟩ := W
  exact Go.by (fun t q => XT.lload X.here B.1 rfl (hb B.2.2.2.1 hd) hl q) q
theorem g_istore_n (B : Bdy p Z s m meth c own bytes maxL ret nm) (W : Wk p l e R s m args below meth c Z T h k n) {i : Fin 4} {v : Int32} {l' : Array Slot} (hd : decode bytes pc = .ok (.istore_n i, 1)) (hl : storeLocals ls i.val (.int v) = some l') (q : Go p.tables e below G T (mkF m (pc + 1) l' st)) : Go p.tables e below G T (mkF m pc ls (.int v :: st)) := by
  obtain ⟨_, X, -⟩ := W
  exact Go.by (fun t q => XS.istoreN X.here B.1 rfl (hb B.2.2.2.1 hd) rfl hl q) q
theorem g_istore (B : Bdy p Z s m meth c own bytes maxL ret nm) (W : Wk p l e R s m args below meth c Z T h k n) {i : Nat} {v : Int32} {l' : Array Slot} (hd : decode bytes pc = .ok (.istore i, 2)) (hl : storeLocals ls i (.int v) = some l') (q : Go p.tables e below G T (mkF m (pc + 2) l' st)) : Go p.tables e below G T (mkF m pc ls (.int v :: st)) := by
  obtain ⟨_, X, -⟩ := W
  exact Go.by (fun t q => XS.istore X.here B.1 rfl (hb B.2.2.2.1 hd) rfl hl q) q
theorem g_lstore_n (B : Bdy p Z s m meth c own bytes maxL ret nm) (W : Wk p l e R s m args below meth c Z T h k n) {i : Fin 4} {v : Int64} {l' : Array Slot} (hd : decode bytes pc = .ok (.lstore_n i, 1)) (hl : storeLocals ls i.val (.long v) = some l') (q : Go p.tables e below G T (mkF m (pc + 1) l' st)) : Go p.tables e below G T (mkF m pc ls (.long v :: st)) := by
  obtain ⟨_, X, -⟩ := W
  exact Go.by (fun t q => XT.lstoreN X.here B.1 rfl (hb B.2.2.2.1 hd) rfl hl q) q
theorem g_lstore (B : Bdy p Z s m meth c own bytes maxL ret nm) (W : Wk p l e R s m args below meth c Z T h k n) {i : Nat} {v : Int64} {l' : Array Slot} (hd : decode bytes pc = .ok (.lstore i, 2)) (hl : storeLocals ls i (.long v) = some l') (q : Go p.tables e below G T (mkF m (pc + 2) l' st)) : Go p.tables e below G T (mkF m pc ls (.long v :: st)) := by
  obtain ⟨_, X, -⟩ := W
  exact Go.by (fun t q => XT.lstore X.here B.1 rfl (hb B.2.2.2.1 hd) rfl hl q) q
theorem g_astore_n (B : Bdy p Z s m meth c own bytes maxL ret nm) (W : Wk p l e R s m args below meth c Z T h k n) {i : Fin 4} {v : Value} {l' : Array Slot} (hd : decode bytes pc = .ok (.astore_n i, 1)) (hv : v.isRef = true) (hl : storeLocals ls i.val v = some l') (q : Go p.tables e below G T (mkF m (pc + 1) l' st)) : Go p.tables e below G T (mkF m pc ls (v :: st)) := by
  obtain ⟨_, X, -⟩ := W
  exact Go.by (fun t q => XS.astoreN X.here B.1 rfl (hb B.2.2.2.1 hd) rfl hv hl q) q
theorem g_astore (B : Bdy p Z s m meth c own bytes maxL ret nm) (W : Wk p l e R s m args below meth c Z T h k n) {i : Nat} {v : Value} {l' : Array Slot} (hd : decode bytes pc = .ok (.astore i, 2)) (hv : v.isRef = true) (hl : storeLocals ls i v = some l') (q : Go p.tables e below G T (mkF m (pc + 2) l' st)) : Go p.tables e below G T (mkF m pc ls (v :: st)) := by
  obtain ⟨_, X, -⟩ := W
  exact Go.by (fun t q => XS.astore X.here B.1 rfl (hb B.2.2.2.1 hd) rfl hv hl q) q
theorem g_iconst (B : Bdy p Z s m meth c own bytes maxL ret nm) (W : Wk p l e R s m args below meth c Z T h k n) {i : Int} {v : Int32} (hd : decode bytes pc = .ok (.iconst i, 1)) (hv : Int32.ofInt i = v) (q : Go p.tables e below G T (mkF m (pc + 1) ls (.int v :: st))) : Go p.tables e below G T (mkF m pc ls st) := by
  obtain ⟨_, X, -⟩ := W
  exact Go.by (fun t q => XT.iconstV X.here B.1 rfl _ (hb B.2.2.2.1 hd) hv q) q
theorem g_bipush (B : Bdy p Z s m meth c own bytes maxL ret nm) (W : Wk p l e R s m args below meth c Z T h k n) {i : Int} {v : Int32} (hd : decode bytes pc = .ok (.bipush i, 2)) (hv : (Int8.ofInt i).toInt32 = v) (q : Go p.tables e below G T (mkF m (pc + 2) ls (.int v :: st))) : Go p.tables e below G T (mkF m pc ls st) := by
  obtain ⟨_, X, -⟩ := W
  exact Go.by (fun t q => XT.bipushV X.here B.1 rfl _ (hb B.2.2.2.1 hd) hv q) q
theorem g_sipush (B : Bdy p Z s m meth c own bytes maxL ret nm) (W : Wk p l e R s m args below meth c Z T h k n) {i : Int} {v : Int32} (hd : decode bytes pc = .ok (.sipush i, 3)) (hv : (Int16.ofInt i).toInt32 = v) (q : Go p.tables e below G T (mkF m (pc + 3) ls (.int v :: st))) : Go p.tables e below G T (mkF m pc ls st) := by
  obtain ⟨_, X, -⟩ := W
  exact Go.by (fun t q => XT.sipushV X.here B.1 rfl _ (hb B.2.2.2.1 hd) hv q) q
theorem g_lconst (B : Bdy p Z s m meth c own bytes maxL ret nm) (W : Wk p l e R s m args below meth c Z T h k n) {i : Fin 2} {v : Int64} (hd : decode bytes pc = .ok (.lconst i, 1)) (hv : Int64.ofNat i = v) (q : Go p.tables e below G T (mkF m (pc + 1) ls (.long v :: st))) : Go p.tables e below G T (mkF m pc ls st) := by
  obtain ⟨_, X, -⟩ := W
  exact Go.by (fun t q => XT.lconstV X.here B.1 rfl _ (hb B.2.2.2.1 hd) hv q) q
theorem g_aconst_null (B : Bdy p Z s m meth c own bytes maxL ret nm) (W : Wk p l e R s m args below meth c Z T h k n)  (hd : decode bytes pc = .ok (.aconst_null, 1))  (q : Go p.tables e below G T (mkF m (pc + 1) ls (.null :: st))) : Go p.tables e below G T (mkF m pc ls st) := by
  obtain ⟨_, X, -⟩ := W
  exact Go.by (fun t q => XS.aconstNull X.here B.1 rfl (hb B.2.2.2.1 hd) q) q
theorem g_iadd (B : Bdy p Z s m meth c own bytes maxL ret nm) (W : Wk p l e R s m args below meth c Z T h k n) {x y : Int32} (hd : decode bytes pc = .ok (.iadd, 1))  (q : Go p.tables e below G T (mkF m (pc + 1) ls (.int (x + y) :: st))) : Go p.tables e below G T (mkF m pc ls (.int y :: .int x :: st)) := by
  obtain ⟨_, X, -⟩ := W
  exact Go.by (fun t q => XS.iadd X.here B.1 rfl (hb B.2.2.2.1 hd) rfl q) q
theorem g_isub (B : Bdy p Z s m meth c own bytes maxL ret nm) (W : Wk p l e R s m args below meth c Z T h k n) {x y : Int32} (hd : decode bytes pc = .ok (.isub, 1))  (q : Go p.tables e below G T (mkF m (pc + 1) ls (.int (x - y) :: st))) : Go p.tables e below G T (mkF m pc ls (.int y :: .int x :: st)) := by
  obtain ⟨_, X, -⟩ := W
  exact Go.by (fun t q => XS.isub X.here B.1 rfl (hb B.2.2.2.1 hd) rfl q) q
theorem g_iand (B : Bdy p Z s m meth c own bytes maxL ret nm) (W : Wk p l e R s m args below meth c Z T h k n) {x y : Int32} (hd : decode bytes pc = .ok (.iand, 1))  (q : Go p.tables e below G T (mkF m (pc + 1) ls (.int (x &&& y) :: st))) : Go p.tables e below G T (mkF m pc ls (.int y :: .int x :: st)) := by
  obtain ⟨_, X, -⟩ := W
  exact Go.by (fun t q => XS.iand X.here B.1 rfl (hb B.2.2.2.1 hd) rfl q) q
theorem g_imul (B : Bdy p Z s m meth c own bytes maxL ret nm) (W : Wk p l e R s m args below meth c Z T h k n) {x y : Int32} (hd : decode bytes pc = .ok (.imul, 1))  (q : Go p.tables e below G T (mkF m (pc + 1) ls (.int (x * y) :: st))) : Go p.tables e below G T (mkF m pc ls (.int y :: .int x :: st)) := by
  obtain ⟨_, X, -⟩ := W
  exact Go.by (fun t q => XS.imul X.here B.1 rfl (hb B.2.2.2.1 hd) rfl q) q
theorem g_ior (B : Bdy p Z s m meth c own bytes maxL ret nm) (W : Wk p l e R s m args below meth c Z T h k n) {x y : Int32} (hd : decode bytes pc = .ok (.ior, 1))  (q : Go p.tables e below G T (mkF m (pc + 1) ls (.int (x ||| y) :: st))) : Go p.tables e below G T (mkF m pc ls (.int y :: .int x :: st)) := by
  obtain ⟨_, X, -⟩ := W
  exact Go.by (fun t q => XT.ior X.here B.1 rfl (hb B.2.2.2.1 hd) rfl q) q
theorem g_ixor (B : Bdy p Z s m meth c own bytes maxL ret nm) (W : Wk p l e R s m args below meth c Z T h k n) {x y : Int32} (hd : decode bytes pc = .ok (.ixor, 1))  (q : Go p.tables e below G T (mkF m (pc + 1) ls (.int (x ^^^ y) :: st))) : Go p.tables e below G T (mkF m pc ls (.int y :: .int x :: st)) := by
  obtain ⟨_, X, -⟩ := W
  exact Go.by (fun t q => XT.ixor X.here B.1 rfl (hb B.2.2.2.1 hd) rfl q) q
theorem g_ishl (B : Bdy p Z s m meth c own bytes maxL ret nm) (W : Wk p l e R s m args below meth c Z T h k n) {x y : Int32} (hd : decode bytes pc = .ok (.ishl, 1))  (q : Go p.tables e below G T (mkF m (pc + 1) ls (.int (x <<< (y &&& 31)) :: st))) : Go p.tables e below G T (mkF m pc ls (.int y :: .int x :: st)) := by
  obtain ⟨_, X, -⟩ := W
  exact Go.by (fun t q => XT.ishl X.here B.1 rfl (hb B.2.2.2.1 hd) rfl q) q
theorem g_ishr (B : Bdy p Z s m meth c own bytes maxL ret nm) (W : Wk p l e R s m args below meth c Z T h k n) {x y : Int32} (hd : decode bytes pc = .ok (.ishr, 1))  (q : Go p.tables e below G T (mkF m (pc + 1) ls (.int (x >>> (y &&& 31)) :: st))) : Go p.tables e below G T (mkF m pc ls (.int y :: .int x :: st)) := by
  obtain ⟨_, X, -⟩ := W
  exact Go.by (fun t q => XT.ishr X.here B.1 rfl (hb B.2.2.2.1 hd) rfl q) q
theorem g_iushr (B : Bdy p Z s m meth c own bytes maxL ret nm) (W : Wk p l e R s m args below meth c Z T h k n) {x y : Int32} (hd : decode bytes pc = .ok (.iushr, 1))  (q : Go p.tables e below G T (mkF m (pc + 1) ls (.int (XT.ushr x y) :: st))) : Go p.tables e below G T (mkF m pc ls (.int y :: .int x :: st)) := by
  obtain ⟨_, X, -⟩ := W
  exact Go.by (fun t q => XT.iushr X.here B.1 rfl (hb B.2.2.2.1 hd) rfl q) q
theorem g_idiv (B : Bdy p Z s m meth c own bytes maxL ret nm) (W : Wk p l e R s m args below meth c Z T h k n) {x y : Int32} (hd : decode bytes pc = .ok (.idiv, 1)) (hy : y ≠ 0) (q : Go p.tables e below G T (mkF m (pc + 1) ls (.int (x / y) :: st))) : Go p.tables e below G T (mkF m pc ls (.int y :: .int x :: st)) := by
  obtain ⟨_, X, -⟩ := W
  exact Go.by (fun t q => XS.idiv X.here B.1 rfl (hb B.2.2.2.1 hd) rfl hy q) q
theorem g_irem (B : Bdy p Z s m meth c own bytes maxL ret nm) (W : Wk p l e R s m args below meth c Z T h k n) {x y : Int32} (hd : decode bytes pc = .ok (.irem, 1)) (hy : y ≠ 0) (q : Go p.tables e below G T (mkF m (pc + 1) ls (.int (x % y) :: st))) : Go p.tables e below G T (mkF m pc ls (.int y :: .int x :: st))   := by
  obtain ⟨_, X, -⟩ := W
  exact Go.by (fun t q => iremM X B.1 rfl (hb B.2.2.2.1 hd) rfl hy q) q
theorem g_ineg (B : Bdy p Z s m meth c own bytes maxL ret nm) (W : Wk p l e R s m args below meth c Z T h k n) {x : Int32} (hd : decode bytes pc = .ok (.ineg, 1))  (q : Go p.tables e below G T (mkF m (pc + 1) ls (.int (-x) :: st))) : Go p.tables e below G T (mkF m pc ls (.int x :: st)) := by
  obtain ⟨_, X, -⟩ := W
  exact Go.by (fun t q => XS.ineg X.here B.1 rfl (hb B.2.2.2.1 hd) rfl q) q
theorem g_i2c (B : Bdy p Z s m meth c own bytes maxL ret nm) (W : Wk p l e R s m args below meth c Z T h k n) {x : Int32} (hd : decode bytes pc = .ok (.i2c, 1))  (q : Go p.tables e below G T (mkF m (pc + 1) ls (.int x.toUInt32.toUInt16.toUInt32.toInt32 :: st))) : Go p.tables e below G T (mkF m pc ls (.int x :: st)) := by
  obtain ⟨_, X, -⟩ := W
  exact Go.by (fun t q => XT.i2c X.here B.1 rfl (hb B.2.2.2.1 hd) rfl q) q
theorem g_i2b (B : Bdy p Z s m meth c own bytes maxL ret nm) (W : Wk p l e R s m args below meth c Z T h k n) {x : Int32} (hd : decode bytes pc = .ok (.i2b, 1))  (q : Go p.tables e below G T (mkF m (pc + 1) ls (.int x.toInt8.toInt32 :: st))) : Go p.tables e below G T (mkF m pc ls (.int x :: st)) := by
  obtain ⟨_, X, -⟩ := W
  exact Go.by (fun t q => XT.i2b X.here B.1 rfl (hb B.2.2.2.1 hd) rfl q) q
theorem g_i2l (B : Bdy p Z s m meth c own bytes maxL ret nm) (W : Wk p l e R s m args below meth c Z T h k n) {x : Int32} (hd : decode bytes pc = .ok (.i2l, 1))  (q : Go p.tables e below G T (mkF m (pc + 1) ls (.long x.toInt64 :: st))) : Go p.tables e below G T (mkF m pc ls (.int x :: st)) := by
  obtain ⟨_, X, -⟩ := W
  exact Go.by (fun t q => XT.i2l X.here B.1 rfl (hb B.2.2.2.1 hd) rfl q) q
theorem g_l2i (B : Bdy p Z s m meth c own bytes maxL ret nm) (W : Wk p l e R s m args below meth c Z T h k n) {x : Int64} (hd : decode bytes pc = .ok (.l2i, 1))  (q : Go p.tables e below G T (mkF m (pc + 1) ls (.int x.toInt32 :: st))) : Go p.tables e below G T (mkF m pc ls (.long x :: st)) := by
  obtain ⟨_, X, -⟩ := W
  exact Go.by (fun t q => XT.l2i X.here B.1 rfl (hb B.2.2.2.1 hd) rfl q) q
theorem g_land (B : Bdy p Z s m meth c own bytes maxL ret nm) (W : Wk p l e R s m args below meth c Z T h k n) {x y : Int64} (hd : decode bytes pc = .ok (.land, 1))  (q : Go p.tables e below G T (mkF m (pc + 1) ls (.long (x &&& y) :: st))) : Go p.tables e below G T (mkF m pc ls (.long y :: .long x :: st)) := by
  obtain ⟨_, X, -⟩ := W
  exact Go.by (fun t q => XT.land X.here B.1 rfl (hb B.2.2.2.1 hd) rfl q) q
theorem g_ladd (B : Bdy p Z s m meth c own bytes maxL ret nm) (W : Wk p l e R s m args below meth c Z T h k n) {x y : Int64} (hd : decode bytes pc = .ok (.ladd, 1))  (q : Go p.tables e below G T (mkF m (pc + 1) ls (.long (x + y) :: st))) : Go p.tables e below G T (mkF m pc ls (.long y :: .long x :: st)) := by
  obtain ⟨_, X, -⟩ := W
  exact Go.by (fun t q => XT.ladd X.here B.1 rfl (hb B.2.2.2.1 hd) rfl q) q
theorem g_lcmp (B : Bdy p Z s m meth c own bytes maxL ret nm) (W : Wk p l e R s m args below meth c Z T h k n) {x y : Int64} (hd : decode bytes pc = .ok (.lcmp, 1))  (q : Go p.tables e below G T (mkF m (pc + 1) ls (.int (XT.cmpL x y) :: st))) : Go p.tables e below G T (mkF m pc ls (.long y :: .long x :: st)) := by
  obtain ⟨_, X, -⟩ := W
  exact Go.by (fun t q => XT.lcmp X.here B.1 rfl (hb B.2.2.2.1 hd) rfl q) q
theorem g_lushr (B : Bdy p Z s m meth c own bytes maxL ret nm) (W : Wk p l e R s m args below meth c Z T h k n) {x : Int64} {y : Int32} (hd : decode bytes pc = .ok (.lushr, 1))  (q : Go p.tables e below G T (mkF m (pc + 1) ls (.long (XT.ushrL x y) :: st))) : Go p.tables e below G T (mkF m pc ls (.int y :: .long x :: st)) := by
  obtain ⟨_, X, -⟩ := W
  exact Go.by (fun t q => XT.lushr X.here B.1 rfl (hb B.2.2.2.1 hd) rfl q) q
theorem g_iinc (B : Bdy p Z s m meth c own bytes maxL ret nm) (W : Wk p l e R s m args below meth c Z T h k n) {i : Nat} {cst : Int} {x v : Int32} {l' : Array Slot} (hd : decode bytes pc = .ok (.iinc i cst, 3)) (hv : Int32.ofInt cst = v) (hl : ls[i]? = some (.val (.int x))) (hl' : storeLocals ls i (.int (x + v)) = some l') (q : Go p.tables e below G T (mkF m (pc + 3) l' st)) : Go p.tables e below G T (mkF m pc ls st) := by
  obtain ⟨_, X, -⟩ := W
  exact Go.by (fun t q => XT.iincV X.here B.1 rfl _ (hb B.2.2.2.1 hd) hv hl hl' q) q
theorem g_dup (B : Bdy p Z s m meth c own bytes maxL ret nm) (W : Wk p l e R s m args below meth c Z T h k n) {v : Value} (hd : decode bytes pc = .ok (.dup, 1)) (hv : v.category = 1) (q : Go p.tables e below G T (mkF m (pc + 1) ls (v :: v :: st))) : Go p.tables e below G T (mkF m pc ls (v :: st)) := by
  obtain ⟨_, X, -⟩ := W
  exact Go.by (fun t q => XS.dup X.here B.1 rfl (hb B.2.2.2.1 hd) rfl hv q) q
theorem g_dup_x1 (B : Bdy p Z s m meth c own bytes maxL ret nm) (W : Wk p l e R s m args below meth c Z T h k n) {v w : Value} (hd : decode bytes pc = .ok (.dup_x1, 1)) (hv : v.category = 1) (hw' : w.category = 1) (q : Go p.tables e below G T (mkF m (pc + 1) ls (v :: w :: v :: st))) : Go p.tables e below G T (mkF m pc ls (v :: w :: st)) := by
  obtain ⟨_, X, -⟩ := W
  exact Go.by (fun t q => XT.dupX1 X.here B.1 rfl (hb B.2.2.2.1 hd) rfl hv hw' q) q
theorem g_pop (B : Bdy p Z s m meth c own bytes maxL ret nm) (W : Wk p l e R s m args below meth c Z T h k n) {v : Value} (hd : decode bytes pc = .ok (.pop, 1)) (hv : v.category = 1) (q : Go p.tables e below G T (mkF m (pc + 1) ls st)) : Go p.tables e below G T (mkF m pc ls (v :: st)) := by
  obtain ⟨_, X, -⟩ := W
  exact Go.by (fun t q => XT.pop X.here B.1 rfl (hb B.2.2.2.1 hd) rfl hv q) q
theorem g_goto (B : Bdy p Z s m meth c own bytes maxL ret nm) (W : Wk p l e R s m args below meth c Z T h k n)  {o : Int} {pc' : Nat} (hd : decode bytes pc = .ok (.goto o, 3))  (hp : (pc : Int) + o = (pc' : Int)) (q : Go p.tables e below G T (mkF m pc' ls st)) : Go p.tables e below G T (mkF m pc ls st)   := by
  obtain ⟨_, X, -⟩ := W
  exact Go.by (fun t q => XS.goto X.here B.1 rfl rfl (hb B.2.2.2.1 hd)  (by rw [hp]; exact Int.natCast_nonneg _) (by rw [hp]; exact Int.toNat_natCast _) q) q
theorem g_if_y (B : Bdy p Z s m meth c own bytes maxL ret nm) (W : Wk p l e R s m args below meth c Z T h k n) {cd : ClassFile.Cond} {x : Int32} {o : Int} {pc' : Nat} (hd : decode bytes pc = .ok (.ifCond cd o, 3)) (hc : ifCond.holds cd x = true) (hp : (pc : Int) + o = (pc' : Int)) (q : Go p.tables e below G T (mkF m pc' ls st)) : Go p.tables e below G T (mkF m pc ls (.int x :: st))   := by
  obtain ⟨_, X, -⟩ := W
  exact Go.by (fun t q => XS.ifYes X.here B.1 rfl rfl (hb B.2.2.2.1 hd) rfl hc (by rw [hp]; exact Int.natCast_nonneg _) (by rw [hp]; exact Int.toNat_natCast _) q) q
theorem g_if_n (B : Bdy p Z s m meth c own bytes maxL ret nm) (W : Wk p l e R s m args below meth c Z T h k n) {cd : ClassFile.Cond} {x : Int32} {o : Int} (hd : decode bytes pc = .ok (.ifCond cd o, 3)) (hc : ifCond.holds cd x = false) (q : Go p.tables e below G T (mkF m (pc + 3) ls st)) : Go p.tables e below G T (mkF m pc ls (.int x :: st))   := by
  obtain ⟨_, X, -⟩ := W
  exact Go.by (fun t q => XS.ifNo X.here B.1 rfl (hb B.2.2.2.1 hd) rfl hc q) q
theorem g_icmp_y (B : Bdy p Z s m meth c own bytes maxL ret nm) (W : Wk p l e R s m args below meth c Z T h k n) {cd : ClassFile.Cond} {x y : Int32} {o : Int} {pc' : Nat} (hd : decode bytes pc = .ok (.if_icmp cd o, 3)) (hc : if_icmp.holds cd x y = true) (hp : (pc : Int) + o = (pc' : Int)) (q : Go p.tables e below G T (mkF m pc' ls st)) : Go p.tables e below G T (mkF m pc ls (.int y :: .int x :: st))   := by
  obtain ⟨_, X, -⟩ := W
  exact Go.by (fun t q => XS.icmpYes X.here B.1 rfl rfl (hb B.2.2.2.1 hd) rfl hc (by rw [hp]; exact Int.natCast_nonneg _) (by rw [hp]; exact Int.toNat_natCast _) q) q
theorem g_icmp_n (B : Bdy p Z s m meth c own bytes maxL ret nm) (W : Wk p l e R s m args below meth c Z T h k n) {cd : ClassFile.Cond} {x y : Int32} {o : Int} (hd : decode bytes pc = .ok (.if_icmp cd o, 3)) (hc : if_icmp.holds cd x y = false) (q : Go p.tables e below G T (mkF m (pc + 3) ls st)) : Go p.tables e below G T (mkF m pc ls (.int y :: .int x :: st))   := by
  obtain ⟨_, X, -⟩ := W
  exact Go.by (fun t q => XS.icmpNo X.here B.1 rfl (hb B.2.2.2.1 hd) rfl hc q) q
theorem g_ifnull_y (B : Bdy p Z s m meth c own bytes maxL ret nm) (W : Wk p l e R s m args below meth c Z T h k n)  {o : Int} {pc' : Nat} (hd : decode bytes pc = .ok (.ifnull o, 3))  (hp : (pc : Int) + o = (pc' : Int)) (q : Go p.tables e below G T (mkF m pc' ls st)) : Go p.tables e below G T (mkF m pc ls (.null :: st))   := by
  obtain ⟨_, X, -⟩ := W
  exact Go.by (fun t q => XS.ifnullYes X.here B.1 rfl rfl (hb B.2.2.2.1 hd) rfl (by rw [hp]; exact Int.natCast_nonneg _) (by rw [hp]; exact Int.toNat_natCast _) q) q
theorem g_ifnull_n (B : Bdy p Z s m meth c own bytes maxL ret nm) (W : Wk p l e R s m args below meth c Z T h k n) {a : Addr} {o : Int} (hd : decode bytes pc = .ok (.ifnull o, 3))  (q : Go p.tables e below G T (mkF m (pc + 3) ls st)) : Go p.tables e below G T (mkF m pc ls (.ref a :: st))   := by
  obtain ⟨_, X, -⟩ := W
  exact Go.by (fun t q => XS.ifnullNo X.here B.1 rfl (hb B.2.2.2.1 hd) rfl q) q
theorem g_ifnonnull_y (B : Bdy p Z s m meth c own bytes maxL ret nm) (W : Wk p l e R s m args below meth c Z T h k n) {a : Addr} {o : Int} {pc' : Nat} (hd : decode bytes pc = .ok (.ifnonnull o, 3))  (hp : (pc : Int) + o = (pc' : Int)) (q : Go p.tables e below G T (mkF m pc' ls st)) : Go p.tables e below G T (mkF m pc ls (.ref a :: st))   := by
  obtain ⟨_, X, -⟩ := W
  exact Go.by (fun t q => XT.ifnonnullYes X.here B.1 rfl rfl (hb B.2.2.2.1 hd) rfl (by rw [hp]; exact Int.natCast_nonneg _) (by rw [hp]; exact Int.toNat_natCast _) q) q
theorem g_ifnonnull_n (B : Bdy p Z s m meth c own bytes maxL ret nm) (W : Wk p l e R s m args below meth c Z T h k n)  {o : Int} (hd : decode bytes pc = .ok (.ifnonnull o, 3))  (q : Go p.tables e below G T (mkF m (pc + 3) ls st)) : Go p.tables e below G T (mkF m pc ls (.null :: st))   := by
  obtain ⟨_, X, -⟩ := W
  exact Go.by (fun t q => XT.ifnonnullNo X.here B.1 rfl (hb B.2.2.2.1 hd) rfl q) q
theorem g_acmp_y (B : Bdy p Z s m meth c own bytes maxL ret nm) (W : Wk p l e R s m args below meth c Z T h k n) {cd : ClassFile.ACond} {x y : Value} {o : Int} {pc' : Nat} (hd : decode bytes pc = .ok (.if_acmp cd o, 3)) (hx' : x.isRef = true) (hy' : y.isRef = true) (hc : XT.acmp cd x y = true) (hp : (pc : Int) + o = (pc' : Int)) (q : Go p.tables e below G T (mkF m pc' ls st)) : Go p.tables e below G T (mkF m pc ls (y :: x :: st))   := by
  obtain ⟨_, X, -⟩ := W
  exact Go.by (fun t q => XT.acmpYes X.here B.1 rfl rfl (hb B.2.2.2.1 hd) rfl hx' hy' hc (by rw [hp]; exact Int.natCast_nonneg _) (by rw [hp]; exact Int.toNat_natCast _) q) q
theorem g_acmp_n (B : Bdy p Z s m meth c own bytes maxL ret nm) (W : Wk p l e R s m args below meth c Z T h k n) {cd : ClassFile.ACond} {x y : Value} {o : Int} (hd : decode bytes pc = .ok (.if_acmp cd o, 3)) (hx' : x.isRef = true) (hy' : y.isRef = true) (hc : XT.acmp cd x y = false) (q : Go p.tables e below G T (mkF m (pc + 3) ls st)) : Go p.tables e below G T (mkF m pc ls (y :: x :: st))   := by
  obtain ⟨_, X, -⟩ := W
  exact Go.by (fun t q => XT.acmpNo X.here B.1 rfl (hb B.2.2.2.1 hd) rfl hx' hy' hc q) q
theorem g_dia (P : Prop) [Decidable P] {tb : Tables} {F : JFrame} {pc' : Nat} (h1 : P → Go tb e below G T (mkF m pc' ls (.int 1 :: st)) → Go tb e below G T F) (h0 : ¬ P → Go tb e below G T (mkF m pc' ls (.int 0 :: st)) → Go tb e below G T F) (q : Go tb e below G T (mkF m pc' ls (.int (bi (decide P)) :: st))) : Go tb e below G T F := by
  by_cases hp : P
  · rw [decide_eq_true hp] at q; exact h1 hp q
  · rw [decide_eq_false hp] at q; exact h0 hp q
theorem g_diab (b : Bool) {tb : Tables} {F : JFrame} {pc' : Nat} (h1 : b = true → Go tb e below G T (mkF m pc' ls (.int 1 :: st)) → Go tb e below G T F) (h0 : b = false → Go tb e below G T (mkF m pc' ls (.int 0 :: st)) → Go tb e below G T F) (q : Go tb e below G T (mkF m pc' ls (.int (bi b) :: st))) : Go tb e below G T F := by
  cases b
  · exact h0 rfl q
  · exact h1 rfl q
theorem g_ldcI (B : Bdy p Z s m meth c own bytes maxL ret nm) (W : Wk p l e R s m args below meth c Z T h k n) {i : Nat} {v : Int32} (hd : decode bytes pc = .ok (.ldc i, 2)) (w : (Cond.constant own i v).before a0 Z = true) (q : Go p.tables e below G T (mkF m (pc + 2) ls (.int v :: st))) : Go p.tables e below G T (mkF m pc ls st) := by
  obtain ⟨_, X, -⟩ := W
  exact Go.by (fun t q => X.ldcI B.1 B.2.2.1 (mv B.2.1 w) rfl (hb B.2.2.2.1 hd) q) q
theorem g_ldcL (B : Bdy p Z s m meth c own bytes maxL ret nm) (W : Wk p l e R s m args below meth c Z T h k n) {i : Nat} {v : Int64} (hd : decode bytes pc = .ok (.ldc2_w i, 3)) (w : (Cond.constantLong own i v).before a0 Z = true) (q : Go p.tables e below G T (mkF m (pc + 3) ls (.long v :: st))) : Go p.tables e below G T (mkF m pc ls st) := by
  obtain ⟨_, X, -⟩ := W
  exact Go.by (fun t q => X.ldc2J B.1 B.2.2.1 (mv B.2.1 w) rfl (hb B.2.2.2.1 hd) q) q
/-! ### the heap's steps -/
theorem x_new (B : Bdy p Z s m meth c own bytes maxL ret nm) (W : Wk p l e R s m args below meth c Z T h k n) {C : String} {i sz : Nat} (hd : decode bytes pc = .ok (.new i, 3)) (w : (Cond.classLink own i C).before a0 Z = true) (wi : (Cond.instantiable C sz).before a0 Z = true) (wz : (Cond.initialized C).before a0 Z = true) (hc : k + 1 ≤ R.cells) (hl : n + sz ≤ R.slots) (ls : Array Slot) (st : List Value) :
    ∃ T' h' b, b = h.size ∧ Wk p l e R s m args below meth c Z T' h' (k + 1) (n + sz) ∧ Keep h h' [] ∧ Exa Z h' b C ∧ (∀ {O nf d : String} {ty : FieldType}, Laid Z a0 C O nf d → parseFieldDescriptor d = some ty → Fld Z h' b O nf d (defaultValue ty)) ∧
      (∀ G, Go p.tables e below G T' (mkF m (pc + 3) ls (.ref b :: st)) → Go p.tables e below G T (mkF m pc ls st)) := by
  obtain ⟨locs, X, eT, N, O⟩ := W
  obtain ⟨T', h', X', e', E', A', D', -, st'⟩ := newO X B.1 B.2.1 B.2.2.1 w wi wz eT (g := mkF m pc ls st) rfl (hb B.2.2.2.1 hd) hc hl
  exact ⟨T', h', _, rfl, ⟨locs, X', e', N, O.ext E'⟩, (Keep.refl h []).ext E', A', D', fun G q => Go.by st' q⟩
theorem x_init (B : Bdy p Z s m meth c own bytes maxL ret nm) (W : Wk p l e R s m args below meth c Z T h k n) {i : Nat} (hd : decode bytes pc = .ok (.invokespecial i, 3)) (w1 : (Cond.methodLink own i Lib.objectInit).before a0 Z = true) (w2 : (Cond.instanceMethod Lib.objectInit).before a0 Z = true)
    (w3 : (Cond.code Lib.objectInit ⟨#[0xb1]⟩ 1 none).before a0 Z = true) (b : Addr) (ls : Array Slot) (st : List Value) (hsz : ls.size = maxL) (V : Nat) (hV : (st.map fun v => v.category).sum = V) (hf : 1 ≤ R.frames) (hl : V + 12 ≤ R.locals) :
    ∃ T', Wk p l e R s m args below meth c Z T' h k n ∧ (∀ G, Go p.tables e below G T' (mkF m (pc + 3) ls st) → Go p.tables e below G T (mkF m pc ls (.ref b :: st))) := by
  obtain ⟨locs, X, eT, N, O⟩ := W
  obtain ⟨T', X', e', st'⟩ := initO X B.1 B.2.1 B.2.2.1 w1 w2 w3 eT (g := mkF m pc ls (.ref b :: st)) rfl (hsz.trans B.2.2.2.2.1.symm) rfl (hb B.2.2.2.1 hd) hf (W := V) (by show 2 * 0 + _ ≤ _; omega) hl
  exact ⟨T', ⟨locs, X', e', N, O⟩, fun G q => Go.by st' q⟩
theorem x_get (B : Bdy p Z s m meth c own bytes maxL ret nm) (W : Wk p l e R s m args below meth c Z T h k n) {R0 O nf d host : String} {i : Nat} {b : Addr} {v : Value} (hd : decode bytes pc = .ok (.getfield i, 3)) (w : (Cond.fieldLink own i R0 nf d).before a0 Z = true ∨ (Cond.fieldLinkNest own i R0 nf d host).before a0 Z = true) (via : Via Z R0 O nf d) (F : Fld Z h b O nf d v) (ls : Array Slot) (st : List Value) :
    ∃ T', Wk p l e R s m args below meth c Z T' h k n ∧ (∀ G, Go p.tables e below G T' (mkF m (pc + 3) ls (v :: st)) → Go p.tables e below G T (mkF m pc ls (.ref b :: st))) := by
  obtain ⟨locs, X, eT, N, O'⟩ := W
  obtain ⟨T', X', e', st'⟩ := getF X B.1 B.2.1 B.2.2.1 w via eT F (g := mkF m pc ls (.ref b :: st)) rfl rfl (hb B.2.2.2.1 hd)
  exact ⟨T', ⟨locs, X', e', N, O'⟩, fun G q => Go.by st' q⟩
theorem x_gets (B : Bdy p Z s m meth c own bytes maxL ret nm) (W : Wk p l e R s m args below meth c Z T h k n) {R0 O nf d host : String} {i : Nat} {v : Value} (hd : decode bytes pc = .ok (.getstatic i, 3)) (w : (Cond.fieldLink own i R0 nf d).before a0 Z = true ∨ (Cond.fieldLinkNest own i R0 nf d host).before a0 Z = true) (via : Via Z R0 O nf d) (F : Sta Z Z.heap O nf d v) (ls : Array Slot) (st : List Value) :
    ∃ T', Wk p l e R s m args below meth c Z T' h k n ∧ (∀ G, Go p.tables e below G T' (mkF m (pc + 3) ls (v :: st)) → Go p.tables e below G T (mkF m pc ls st)) := by
  obtain ⟨locs, X, eT, N, O'⟩ := W
  obtain ⟨T', X', e', st'⟩ := getS2 X B.1 B.2.1 B.2.2.1 w via eT (F.ext O'.2) (g := mkF m pc ls st) rfl (hb B.2.2.2.1 hd)
  exact ⟨T', ⟨locs, X', e', N, O'⟩, fun G q => Go.by st' q⟩
theorem x_put (B : Bdy p Z s m meth c own bytes maxL ret nm) (W : Wk p l e R s m args below meth c Z T h k n) {R0 O nf d C : String} {i kk : Nat} {ty : FieldType} {b : Addr} {v v' old : Value} (hd : decode bytes pc = .ok (.putfield i, 3)) (w : (Cond.fieldLink own i R0 nf d).before a0 Z = true) (via : Via Z R0 O nf d) (F : Fld Z h b O nf d old) (E : Exa Z h b C) (L : (Cond.lays C O nf d).before a0 Z = true ∨ ((Cond.laysFinal C O nf d).before a0 Z = true ∧ own = O ∧ nm = "<init>")) (wi : (Cond.instantiable C kk).before a0 Z = true)
    (hty : parseFieldDescriptor d = some ty) (hn : narrow ty v = v') (hf : fits ty v' = true) (hb' : Z.heap.size ≤ b) (ls : Array Slot) (st : List Value) :
    ∃ T' h', Wk p l e R s m args below meth c Z T' h' k n ∧ Keep h h' [b] ∧ Wr h h' b (RoadKit.slotOf Z O nf d) v' ∧ Fld Z h' b O nf d v' ∧ Exa Z h' b C ∧ (∀ G, Go p.tables e below G T' (mkF m (pc + 3) ls st) → Go p.tables e below G T (mkF m pc ls (v :: .ref b :: st))) := by
  obtain ⟨locs, X, eT, N, O'⟩ := W
  obtain ⟨T', h', X', e', W', st'⟩ := putFN X B.1 B.2.1 B.2.2.1 w via eT F E (L.imp id fun q => ⟨q.1, q.2.1, B.nameOf.trans q.2.2⟩) wi hty hn hf (g := mkF m pc ls (v :: .ref b :: st)) rfl rfl (hb B.2.2.2.1 hd)
  exact ⟨T', h', ⟨_, X', e', Fr.snoc X' N hb', O'.wr W' hb'⟩, Keep.of_wr W', W', F.same W', E.wr W', fun G q => Go.by st' q⟩
theorem x_instY (B : Bdy p Z s m meth c own bytes maxL ret nm) (W : Wk p l e R s m args below meth c Z T h k n) {K : String} {i : Nat} {b : Addr} (hd : decode bytes pc = .ok (.instanceof i, 3)) (w : (Cond.classLink own i K).before a0 Z = true) (F : Ins Z h b K true) (ls : Array Slot) (st : List Value) :
    ∃ T', Wk p l e R s m args below meth c Z T' h k n ∧ (∀ G, Go p.tables e below G T' (mkF m (pc + 3) ls (.int 1 :: st)) → Go p.tables e below G T (mkF m pc ls (.ref b :: st))) := by
  obtain ⟨locs, X, eT, N, O⟩ := W
  obtain ⟨T', X', e', st'⟩ := instY X B.1 B.2.1 B.2.2.1 w eT F (g := mkF m pc ls (.ref b :: st)) rfl rfl (hb B.2.2.2.1 hd)
  exact ⟨T', ⟨locs, X', e', N, O⟩, fun G q => Go.by st' q⟩
theorem x_instN (B : Bdy p Z s m meth c own bytes maxL ret nm) (W : Wk p l e R s m args below meth c Z T h k n) {K C : String} {i : Nat} {b : Addr} (hd : decode bytes pc = .ok (.instanceof i, 3)) (w : (Cond.classLink own i K).before a0 Z = true) (E : Exa Z h b C) (F : ∃ c t, Z.vm.findClass C = some c ∧ Z.vm.findClass K = some t ∧ Z.vm.assignable c t = false) (ls : Array Slot) (st : List Value) :
    ∃ T', Wk p l e R s m args below meth c Z T' h k n ∧ (∀ G, Go p.tables e below G T' (mkF m (pc + 3) ls (.int 0 :: st)) → Go p.tables e below G T (mkF m pc ls (.ref b :: st))) := by
  obtain ⟨locs, X, eT, N, O⟩ := W
  obtain ⟨T', X', e', st'⟩ := instNo X B.1 B.2.1 B.2.2.1 w eT E F (g := mkF m pc ls (.ref b :: st)) rfl rfl (hb B.2.2.2.1 hd)
  exact ⟨T', ⟨locs, X', e', N, O⟩, fun G q => Go.by st' q⟩
theorem x_castY (B : Bdy p Z s m meth c own bytes maxL ret nm) (W : Wk p l e R s m args below meth c Z T h k n) {K : String} {i : Nat} {b : Addr} (hd : decode bytes pc = .ok (.checkcast i, 3)) (w : (Cond.classLink own i K).before a0 Z = true) (F : Ins Z h b K true) (ls : Array Slot) (st : List Value) :
    ∃ T', Wk p l e R s m args below meth c Z T' h k n ∧ (∀ G, Go p.tables e below G T' (mkF m (pc + 3) ls (.ref b :: st)) → Go p.tables e below G T (mkF m pc ls (.ref b :: st))) := by
  obtain ⟨locs, X, eT, N, O⟩ := W
  obtain ⟨T', X', e', st'⟩ := castY X B.1 B.2.1 B.2.2.1 w eT F (g := mkF m pc ls (.ref b :: st)) rfl rfl (hb B.2.2.2.1 hd)
  exact ⟨T', ⟨locs, X', e', N, O⟩, fun G q => Go.by st' q⟩
/-! ### arrays -/
theorem x_newA (B : Bdy p Z s m meth c own bytes maxL ret nm) (W : Wk p l e R s m args below meth c Z T h k n) {aty : ArrayType} {z : Int32} (cap : Nat) (hd : decode bytes pc = .ok (.newarray aty, 2)) (w : (Cond.arrayClass (newarray.typeOf aty)).before a0 Z = true) (hn : ¬ z < 0) (hcap : z.toNatClampNeg ≤ cap) (hbg : cap * 8 ≤ 536870912) (hc : k + 1 ≤ R.cells) (hl : n + cap ≤ R.slots) (ls : Array Slot) (st : List Value) :
    ∃ T' h' b cA, b = h.size ∧ Wk p l e R s m args below meth c Z T' h' (k + 1) (n + cap) ∧ Keep h h' [] ∧ Arv Z h' b cA (newarray.typeOf aty) z (List.replicate cap (defaultValue (newarray.typeOf aty))) (defaultValue (newarray.typeOf aty)) ∧
      (∀ G, Go p.tables e below G T' (mkF m (pc + 2) ls (.ref b :: st)) → Go p.tables e below G T (mkF m pc ls (.int z :: st))) := by
  obtain ⟨locs, X, eT, N, O⟩ := W
  obtain ⟨T', h', cA, X', e', E', A', st'⟩ := newP X B.1 B.2.1 w eT (g := mkF m pc ls (.int z :: st)) rfl (hb B.2.2.2.1 hd) rfl hn hcap hbg hc hl
  exact ⟨T', h', _, cA, rfl, ⟨locs, X', e', N, O.ext E'⟩, (Keep.refl h []).ext E', (Arv.new A' hn).pad (vs' := [] ++ List.replicate cap _) (pad_rep [] _ cap), fun G q => Go.by st' q⟩
theorem arv_put {kc : ClassId} {ty : FieldType} {z j : Int32} {vs : List Value} {dv v : Value} {b : Addr} (F : Arv Z h b kc ty z vs dv) (hv : fits ty v = true) (hW : Wr h h' b j.toNatClampNeg v) (hi : j.toNatClampNeg < vs.length) : Arv Z h' b kc ty z (vs.set j.toNatClampNeg v) dv := by
  obtain ⟨cl, A, r1, r2, r3, H, Gf⟩ := F
  exact Arv.set A r1 r2 r3 H Gf hv hW _ rfl hi
theorem x_castore (B : Bdy p Z s m meth c own bytes maxL ret nm) (W : Wk p l e R s m args below meth c Z T h k n) {kc : ClassId} {z j x : Int32} {vs : List Value} {dv : Value} {b : Addr} (hd : decode bytes pc = .ok (.castore, 1)) (F : Arv Z h b kc .char z vs dv) (hj : ¬ j < 0 ∧ j < z) (hi : j.toNatClampNeg < vs.length) (hb' : Z.heap.size ≤ b) (ls : Array Slot) (st : List Value) :
    ∃ T' h', Wk p l e R s m args below meth c Z T' h' k n ∧ Keep h h' [b] ∧ Arv Z h' b kc .char z (vs.set j.toNatClampNeg (.int (nar .char x))) dv ∧ (∀ G, Go p.tables e below G T' (mkF m (pc + 1) ls st) → Go p.tables e below G T (mkF m pc ls (.int x :: .int j :: .ref b :: st))) := by
  obtain ⟨locs, X, eT, N, O⟩ := W
  have F' := F
  obtain ⟨cl, A, r1, r2, r3, Hs, Gf⟩ := F
  obtain ⟨T', h', X', e', W', st'⟩ := stC X B.1 B.2.1 eT A (inb_of r2 hj) (g := mkF m pc ls (.int x :: .int j :: .ref b :: st)) rfl rfl (hb B.2.2.2.1 hd)
  exact ⟨T', h', ⟨_, X', e', Fr.snoc X' N hb', O.wr W' hb'⟩, Keep.of_wr W', arv_put F' (fits_nar_char _) W' hi, fun G q => Go.by st' q⟩
theorem arv_read {kc : ClassId} {ty : FieldType} {z : Int32} {vs : List Value} {dv : Value} {b : Addr} (F : Arv Z h b kc ty z vs dv) {j : Int32} (hj : ¬ j < 0 ∧ j < z) {v : Value} (hv : vs.getD j.toNatClampNeg dv = v) : ∃ cl : Cell, Arr Z h b cl ty ∧ ¬ (j < 0 ∨ cl.slots.size ≤ j.toNatClampNeg) ∧ cl.slots[j.toNatClampNeg]? = some v := by
  obtain ⟨cl, A, r1, r2, r3, H, -⟩ := F
  exact ⟨cl, A, inb_of r2 hj, H.at (inb_of r2 hj) hv⟩
theorem g_caload (B : Bdy p Z s m meth c own bytes maxL ret nm) (W : Wk p l e R s m args below meth c Z T h k n) {kc : ClassId} {z j : Int32} {vs : List Value} {dv v : Value} {b : Addr} (hd : decode bytes pc = .ok (.caload, 1)) (F : Arv Z h b kc .char z vs dv) (hj : ¬ j < 0 ∧ j < z) (hv : vs.getD j.toNatClampNeg dv = v)
    (q : Go p.tables e below G T (mkF m (pc + 1) ls (v :: st))) : Go p.tables e below G T (mkF m pc ls (.int j :: .ref b :: st)) := by
  obtain ⟨locs, X, eT, N, O⟩ := W
  obtain ⟨cl, A, hin, hat⟩ := arv_read F hj hv
  exact Go.by (X.caload B.1 (by rw [eT]; exact A.1) (State.isArrayOf_alike B.2.1.alike A.2.1) A.2.2 hin hat (g := mkF m pc ls (.int j :: .ref b :: st)) rfl rfl (hb B.2.2.2.1 hd)) q
theorem g_caloadK (B : Bdy p Z s m meth c own bytes maxL ret nm) (W : Wk p l e R s m args below meth c Z T h k n) {j : Int32} {v : Value} {cl : Cell} {b : Addr} (hd : decode bytes pc = .ok (.caload, 1)) (A : Arr Z h b cl .char) (hin : ¬ (j < 0 ∨ cl.slots.size ≤ j.toNatClampNeg)) (hat : cl.slots[j.toNatClampNeg]? = some v)
    (q : Go p.tables e below G T (mkF m (pc + 1) ls (v :: st))) : Go p.tables e below G T (mkF m pc ls (.int j :: .ref b :: st)) := by
  obtain ⟨locs, X, eT, N, O⟩ := W
  exact Go.by (X.caload B.1 (by rw [eT]; exact A.1) (State.isArrayOf_alike B.2.1.alike A.2.1) A.2.2 hin hat (g := mkF m pc ls (.int j :: .ref b :: st)) rfl rfl (hb B.2.2.2.1 hd)) q
theorem g_alenK (B : Bdy p Z s m meth c own bytes maxL ret nm) (W : Wk p l e R s m args below meth c Z T h k n) {ty : FieldType} {z : Int32} {cl : Cell} {b : Addr} (hd : decode bytes pc = .ok (.arraylength, 1)) (A : Arr Z h b cl ty) (hz : cl.slots.size.toInt32 = z)
    (q : Go p.tables e below G T (mkF m (pc + 1) ls (.int z :: st))) : Go p.tables e below G T (mkF m pc ls (.ref b :: st)) := by
  obtain ⟨locs, X, eT, N, O⟩ := W
  refine Go.by (X.arraylength B.1 (by rw [eT]; exact A.1) (State.isArrayOf_alike B.2.1.alike A.2.1) (g := mkF m pc ls (.ref b :: st)) rfl rfl (hb B.2.2.2.1 hd)) ?_
  rw [hz]; exact q
theorem g_aalen (B : Bdy p Z s m meth c own bytes maxL ret nm) (W : Wk p l e R s m args below meth c Z T h k n) {kc : ClassId} {ty : FieldType} {z : Int32} {vs : List Value} {dv : Value} {b : Addr} (hd : decode bytes pc = .ok (.arraylength, 1)) (F : Arv Z h b kc ty z vs dv)
    (q : Go p.tables e below G T (mkF m (pc + 1) ls (.int z :: st))) : Go p.tables e below G T (mkF m pc ls (.ref b :: st)) := by
  obtain ⟨locs, X, eT, N, O⟩ := W
  obtain ⟨cl, A, r1, r2, r3, H, -⟩ := F
  refine Go.by (X.arraylength B.1 (by rw [eT]; exact A.1) (State.isArrayOf_alike B.2.1.alike A.2.1) (g := mkF m pc ls (.ref b :: st)) rfl rfl (hb B.2.2.2.1 hd)) ?_
  rw [len_of r2 r3]; exact q
theorem g_aaload (B : Bdy p Z s m meth c own bytes maxL ret nm) (W : Wk p l e R s m args below meth c Z T h k n) {ty : FieldType} {j : Int32} {v : Value} {cl : Cell} {b : Addr} (hd : decode bytes pc = .ok (.aaload, 1)) (A : Arr Z h b cl ty) (ht : ty.isReference = true) (hin : ¬ (j < 0 ∨ cl.slots.size ≤ j.toNatClampNeg)) (hat : cl.slots[j.toNatClampNeg]? = some v)
    (q : Go p.tables e below G T (mkF m (pc + 1) ls (v :: st))) : Go p.tables e below G T (mkF m pc ls (.int j :: .ref b :: st)) := by
  obtain ⟨locs, X, eT, N, O⟩ := W
  exact Go.by (X.aaload B.1 (by rw [eT]; exact A.1) (State.isArrayOf_alike B.2.1.alike A.2.1) ht A.2.2 hin hat (g := mkF m pc ls (.int j :: .ref b :: st)) rfl rfl (hb B.2.2.2.1 hd)) q
theorem g_instNull (B : Bdy p Z s m meth c own bytes maxL ret nm) (W : Wk p l e R s m args below meth c Z T h k n) {i : Nat} (hd : decode bytes pc = .ok (.instanceof i, 3)) (q : Go p.tables e below G T (mkF m (pc + 3) ls (.int 0 :: st))) : Go p.tables e below G T (mkF m pc ls (.null :: st)) := by
  obtain ⟨_, X, -⟩ := W
  exact Go.by (X.instanceofNull B.1 (g := mkF m pc ls (.null :: st)) rfl rfl (hb B.2.2.2.1 hd)) q
theorem g_castNull (B : Bdy p Z s m meth c own bytes maxL ret nm) (W : Wk p l e R s m args below meth c Z T h k n) {i : Nat} (hd : decode bytes pc = .ok (.checkcast i, 3)) (q : Go p.tables e below G T (mkF m (pc + 3) ls (.null :: st))) : Go p.tables e below G T (mkF m pc ls (.null :: st)) := by
  obtain ⟨_, X, -⟩ := W
  refine Go.by (fun t q => ?_) q
  jvm_step X.here [B.1, (hb B.2.2.2.1 hd), checkcast.sem]
  exact q
theorem x_newR (B : Bdy p Z s m meth c own bytes maxL ret nm) (W : Wk p l e R s m args below meth c Z T h k n) {C : String} {i : Nat} {z : Int32} (cap : Nat) (hd : decode bytes pc = .ok (.anewarray i, 3)) (w1 : (Cond.classLink own i C).before a0 Z = true) (w2 : (Cond.arrayOver (.object C)).before a0 Z = true) (hn : ¬ z < 0) (hcap : z.toNatClampNeg ≤ cap) (hbg : cap * 8 ≤ 536870912) (hc : k + 1 ≤ R.cells) (hl : n + cap ≤ R.slots) (ls : Array Slot) (st : List Value) :
    ∃ T' h' b cA, b = h.size ∧ Wk p l e R s m args below meth c Z T' h' (k + 1) (n + cap) ∧ Keep h h' [] ∧ Arv Z h' b cA (.object C) z (List.replicate cap .null) .null ∧ Ovr Z cA C ∧
      (∀ G, Go p.tables e below G T' (mkF m (pc + 3) ls (.ref b :: st)) → Go p.tables e below G T (mkF m pc ls (.int z :: st))) := by
  obtain ⟨locs, X, eT, N, O⟩ := W
  obtain ⟨T', h', cA, X', e', E', A', Ov', st'⟩ := newR X B.1 B.2.1 B.2.2.1 w1 w2 eT (g := mkF m pc ls (.int z :: st)) rfl (hb B.2.2.2.1 hd) rfl hn hcap hbg hc hl
  exact ⟨T', h', _, cA, rfl, ⟨locs, X', e', N, O.ext E'⟩, (Keep.refl h []).ext E', (Arv.new A' hn).pad (vs' := [] ++ List.replicate cap _) (pad_rep [] _ cap), Ov', fun G q => Go.by st' q⟩
theorem x_aastore (B : Bdy p Z s m meth c own bytes maxL ret nm) (W : Wk p l e R s m args below meth c Z T h k n) {kc : ClassId} {ty : FieldType} {z j : Int32} {vs : List Value} {dv v : Value} {b : Addr} (hd : decode bytes pc = .ok (.aastore, 1)) (F : Arv Z h b kc ty z vs dv) (ht : ty.isReference = true) (hj : ¬ j < 0 ∧ j < z) (hi : j.toNatClampNeg < vs.length) (hv : v.isRef = true) (hS : ∀ cl, Arr Z h b cl ty → cl.cls = kc → Sto Z h b v) (hb' : Z.heap.size ≤ b) (ls : Array Slot) (st : List Value) :
    ∃ T' h', Wk p l e R s m args below meth c Z T' h' k n ∧ Keep h h' [b] ∧ Arv Z h' b kc ty z (vs.set j.toNatClampNeg v) dv ∧ (∀ G, Go p.tables e below G T' (mkF m (pc + 1) ls st) → Go p.tables e below G T (mkF m pc ls (v :: .int j :: .ref b :: st))) := by
  obtain ⟨locs, X, eT, N, O⟩ := W
  have F' := F
  have hby : ty ≠ .byte := fun q => by rw [q] at ht; cases ht
  obtain ⟨cl, A, r1, r2, r3, Hs, Gf⟩ := F
  obtain ⟨T', h', X', e', W', st'⟩ := stR X B.1 B.2.1 eT A (inb_of r2 hj) ht (hS cl A r1) (g := mkF m pc ls (v :: .int j :: .ref b :: st)) rfl rfl (hb B.2.2.2.1 hd)
  exact ⟨T', h', ⟨_, X', e', Fr.snoc X' N hb', O.wr W' hb'⟩, Keep.of_wr W', arv_put F' (own_fr ht hv) W' hi, fun G q => Go.by st' q⟩
theorem g_aaloadV (B : Bdy p Z s m meth c own bytes maxL ret nm) (W : Wk p l e R s m args below meth c Z T h k n) {kc : ClassId} {ty : FieldType} {z j : Int32} {vs : List Value} {dv v : Value} {b : Addr} (hd : decode bytes pc = .ok (.aaload, 1)) (F : Arv Z h b kc ty z vs dv) (ht : ty.isReference = true) (hj : ¬ j < 0 ∧ j < z) (hv : vs.getD j.toNatClampNeg dv = v)
    (q : Go p.tables e below G T (mkF m (pc + 1) ls (v :: st))) : Go p.tables e below G T (mkF m pc ls (.int j :: .ref b :: st)) := by
  obtain ⟨cl, A, hin, hat⟩ := arv_read F hj hv
  exact g_aaload B W hd A ht hin hat q
theorem x_clone (B : Bdy p Z s m meth c own bytes maxL ret nm) (W : Wk p l e R s m args below meth c Z T h k n) {ad : String} {i : Nat} {b : Addr} {cl : Cell} {ty : FieldType} (cap : Nat) (hd : decode bytes pc = .ok (.invokevirtual i, 3)) (w1 : (Cond.methodLink own i ⟨ad, "clone", "()Ljava/lang/Object;"⟩).before a0 Z = true) (w2 : (Cond.sameMethod ad "java/lang/Object" "clone" "()Ljava/lang/Object;").before a0 Z = true) (w3 : (Cond.native ⟨"java/lang/Object", "clone", "()Ljava/lang/Object;"⟩).before a0 Z = true)
    (w4 : (Cond.instanceMethod ⟨"java/lang/Object", "clone", "()Ljava/lang/Object;"⟩).before a0 Z = true) (w5 : (Cond.selects ad ⟨ad, "clone", "()Ljava/lang/Object;"⟩ ⟨"java/lang/Object", "clone", "()Ljava/lang/Object;"⟩).before a0 Z = true) (w6 : (Cond.castable ad "java/lang/Cloneable").before a0 Z = true) (A : Arr Z h b cl ty) (E : Exa Z h b ad) (F : FitC Z cl)
    (ls : Array Slot) (st : List Value) (hsz : ls.size = maxL) (V : Nat) (hV : (st.map fun v => v.category).sum = V) (hf : 1 ≤ R.frames) (hl : V + 14 ≤ R.locals) (hcap : cl.slots.size ≤ cap) (hc : k + 1 ≤ R.cells) (hs : n + cap ≤ R.slots) :
    ∃ T' h' b', b' = h.size ∧ Wk p l e R s m args below meth c Z T' h' (k + 1) (n + cap) ∧ Keep h h' [] ∧ Arr Z h' b' (cloneOf cl) ty ∧ Exa Z h' b' ad ∧ (∀ G, Go p.tables e below G T' (mkF m (pc + 3) ls (.ref b' :: st)) → Go p.tables e below G T (mkF m pc ls (.ref b :: st))) := by
  obtain ⟨locs, X, eT, N, O⟩ := W
  obtain ⟨T', h', X', e', E', A', Ex', st'⟩ := cloneA X B.1 B.2.1 B.2.2.1 w1 w2 w3 w4 w5 w6 eT A E F (g := mkF m pc ls (.ref b :: st)) rfl (hsz.trans B.2.2.2.2.1.symm) rfl (hb B.2.2.2.1 hd) hf (W := V) (by show 2 * 0 + _ ≤ _; omega) hl hcap hc hs
  exact ⟨T', h', _, rfl, ⟨locs, X', e', N, O.ext E'⟩, (Keep.refl h []).ext E', A', Ex', fun G q => Go.by st' q⟩
theorem x_cloneV (B : Bdy p Z s m meth c own bytes maxL ret nm) (W : Wk p l e R s m args below meth c Z T h k n) {ad : String} {i : Nat} {b : Addr} {kc : ClassId} {ty : FieldType} {z : Int32} {vs : List Value} {dv : Value} (cap : Nat) (hd : decode bytes pc = .ok (.invokevirtual i, 3)) (w1 : (Cond.methodLink own i ⟨ad, "clone", "()Ljava/lang/Object;"⟩).before a0 Z = true) (w2 : (Cond.sameMethod ad "java/lang/Object" "clone" "()Ljava/lang/Object;").before a0 Z = true) (w3 : (Cond.native ⟨"java/lang/Object", "clone", "()Ljava/lang/Object;"⟩).before a0 Z = true)
    (w4 : (Cond.instanceMethod ⟨"java/lang/Object", "clone", "()Ljava/lang/Object;"⟩).before a0 Z = true) (w5 : (Cond.selects ad ⟨ad, "clone", "()Ljava/lang/Object;"⟩ ⟨"java/lang/Object", "clone", "()Ljava/lang/Object;"⟩).before a0 Z = true) (w6 : (Cond.castable ad "java/lang/Cloneable").before a0 Z = true) (F : Arv Z h b kc ty z vs dv) (E : Exa Z h b ad)
    (ls : Array Slot) (st : List Value) (hsz : ls.size = maxL) (V : Nat) (hV : (st.map fun v => v.category).sum = V) (hf : 1 ≤ R.frames) (hl : V + 14 ≤ R.locals) (hcap : z.toNatClampNeg ≤ cap) (hc : k + 1 ≤ R.cells) (hs : n + cap ≤ R.slots) :
    ∃ T' h' b', b' = h.size ∧ Wk p l e R s m args below meth c Z T' h' (k + 1) (n + cap) ∧ Keep h h' [] ∧ Arv Z h' b' kc ty z vs dv ∧ Exa Z h' b' ad ∧ (∀ G, Go p.tables e below G T' (mkF m (pc + 3) ls (.ref b' :: st)) → Go p.tables e below G T (mkF m pc ls (.ref b :: st))) := by
  obtain ⟨cl, A, r1, r2, r3, H, G⟩ := F
  obtain ⟨T', h', b', eb, W', K, A', E', st'⟩ := x_clone B W cap hd w1 w2 w3 w4 w5 w6 A E (fitC_of A (fun i hi v hv => by have q := H i hi; rw [hv] at q; cases q; exact G i hi)) ls st hsz V hV hf hl (r2 ▸ hcap) hc hs
  exact ⟨T', h', b', eb, W', K, ⟨_, A', r1, r2, r3, H, G⟩, E', st'⟩
theorem x_newE (B : Bdy p Z s m meth c own bytes maxL ret nm) (W : Wk p l e R s m args below meth c Z T h k n) {aty : ArrayType} {z : Int32} {ad : String} (cap : Nat) (hd : decode bytes pc = .ok (.newarray aty, 2)) (w : (Cond.arrayClass (newarray.typeOf aty)).before a0 Z = true) (hn : ¬ z < 0) (hcap : z.toNatClampNeg ≤ cap) (hbg : cap * 8 ≤ 536870912) (hc : k + 1 ≤ R.cells) (hl : n + cap ≤ R.slots) (had : "[" ++ (newarray.typeOf aty).toString = ad) (ls : Array Slot) (st : List Value) :
    ∃ T' h' b cA, b = h.size ∧ Wk p l e R s m args below meth c Z T' h' (k + 1) (n + cap) ∧ Keep h h' [] ∧ Arv Z h' b cA (newarray.typeOf aty) z (List.replicate cap (defaultValue (newarray.typeOf aty))) (defaultValue (newarray.typeOf aty)) ∧ Exa Z h' b ad ∧
      (∀ G, Go p.tables e below G T' (mkF m (pc + 2) ls (.ref b :: st)) → Go p.tables e below G T (mkF m pc ls (.int z :: st))) := by
  obtain ⟨locs, X, eT, N, O⟩ := W
  obtain ⟨T', h', cA, X', e', E', A', Ex', st'⟩ := newPE X B.1 B.2.1 w eT (g := mkF m pc ls (.int z :: st)) rfl (hb B.2.2.2.1 hd) rfl hn hcap hbg hc hl had
  exact ⟨T', h', _, cA, rfl, ⟨locs, X', e', N, O.ext E'⟩, (Keep.refl h []).ext E', (Arv.new A' hn).pad (vs' := [] ++ List.replicate cap _) (pad_rep [] _ cap), Ex', fun G q => Go.by st' q⟩
theorem x_bastore (B : Bdy p Z s m meth c own bytes maxL ret nm) (W : Wk p l e R s m args below meth c Z T h k n) {kc : ClassId} {z j x : Int32} {vs : List Value} {dv : Value} {b : Addr} (hd : decode bytes pc = .ok (.bastore, 1)) (F : Arv Z h b kc .byte z vs dv) (hj : ¬ j < 0 ∧ j < z) (hi : j.toNatClampNeg < vs.length) (hb' : Z.heap.size ≤ b) (ls : Array Slot) (st : List Value) :
    ∃ T' h', Wk p l e R s m args below meth c Z T' h' k n ∧ Keep h h' [b] ∧ Arv Z h' b kc .byte z (vs.set j.toNatClampNeg (.int (nar .byte x))) dv ∧ (∀ G, Go p.tables e below G T' (mkF m (pc + 1) ls st) → Go p.tables e below G T (mkF m pc ls (.int x :: .int j :: .ref b :: st))) := by
  obtain ⟨locs, X, eT, N, O⟩ := W
  have F' := F
  obtain ⟨cl, A, r1, r2, r3, Hs, Gf⟩ := F
  obtain ⟨T', h', X', e', W', st'⟩ := stB X B.1 B.2.1 eT A (inb_of r2 hj) (g := mkF m pc ls (.int x :: .int j :: .ref b :: st)) rfl rfl (hb B.2.2.2.1 hd)
  exact ⟨T', h', ⟨_, X', e', Fr.snoc X' N hb', O.wr W' hb'⟩, Keep.of_wr W', arv_put F' (fits_nar_byte _) W' hi, fun G q => Go.by st' q⟩
theorem g_baload (B : Bdy p Z s m meth c own bytes maxL ret nm) (W : Wk p l e R s m args below meth c Z T h k n) {kc : ClassId} {z j : Int32} {vs : List Value} {dv v : Value} {b : Addr} (hd : decode bytes pc = .ok (.baload, 1)) (F : Arv Z h b kc .byte z vs dv) (hj : ¬ j < 0 ∧ j < z) (hv : vs.getD j.toNatClampNeg dv = v)
    (q : Go p.tables e below G T (mkF m (pc + 1) ls (v :: st))) : Go p.tables e below G T (mkF m pc ls (.int j :: .ref b :: st)) := by
  obtain ⟨locs, X, eT, N, O⟩ := W
  obtain ⟨cl, A, hin, hat⟩ := arv_read F hj hv
  exact Go.by (X.baloadBytes B.1 (by rw [eT]; exact A.1) (State.isArrayOf_alike B.2.1.alike A.2.1) A.2.2 hin hat (g := mkF m pc ls (.int j :: .ref b :: st)) rfl rfl (hb B.2.2.2.1 hd)) q
theorem x_acopy (B : Bdy p Z s m meth c own bytes maxL ret nm) (W : Wk p l e R s m args below meth c Z T h k n) {i : Nat} {ka kb : ClassId} {ty ty' : FieldType} {za zb sp dp nn : Int32} {va vb us : List Value} {da db : Value} {a b : Addr} (hd : decode bytes pc = .ok (.invokestatic i, 3)) (w1 : (Cond.methodLink own i Jvm.Stand.acN).before a0 Z = true) (w2 : (Cond.native Jvm.Stand.acN).before a0 Z = true) (w3 : (Cond.static Jvm.Stand.acN).before a0 Z = true) (w4 : (Cond.initialized "java/lang/System").before a0 Z = true)
    (A : Arv Z h a ka ty za va da) (A' : Arv Z h b kb ty' zb vb db) (hty : (ty = ty' ∧ refKind ty = false) ∨ (refKind ty = true ∧ refKind ty' = true ∧ StoL Z h b us)) (h1 : ¬ sp < 0) (h2 : ¬ dp < 0) (h3 : ¬ nn < 0) (h4 : sp.toNatClampNeg + nn.toNatClampNeg ≤ za.toNatClampNeg) (h5 : dp.toNatClampNeg + nn.toNatClampNeg ≤ zb.toNatClampNeg)
    (hus : us = (List.range nn.toNatClampNeg).map fun i => va.getD (sp.toNatClampNeg + i) da) (hl : dp.toNatClampNeg + nn.toNatClampNeg ≤ vb.length) (hb' : Z.heap.size ≤ b) (ls : Array Slot) (st : List Value) (hsz : ls.size = maxL) (V : Nat) (hV : (st.map fun v => v.category).sum = V) (hf : 1 ≤ R.frames) (hlo : V + (nativeFrameWords "java/lang/System" "arraycopy" 5 + 11) ≤ R.locals) :
    ∃ T' h', Wk p l e R s m args below meth c Z T' h' k n ∧ Keep h h' [b] ∧ Arv Z h' b kb ty' zb (vb.take dp.toNatClampNeg ++ us ++ vb.drop (dp.toNatClampNeg + nn.toNatClampNeg)) db ∧ (∀ G, Go p.tables e below G T' (mkF m (pc + 3) ls st) → Go p.tables e below G T (mkF m pc ls (.int nn :: .int dp :: .ref b :: .int sp :: .ref a :: st))) := by
  obtain ⟨locs, X, eT, N, O⟩ := W
  obtain ⟨T', h', L', X', e', N', K', F', st'⟩ := cpA X B.1 B.2.1 B.2.2.1 w1 w2 w3 w4 eT A A' hty h1 h2 h3 h4 h5 hus hl N hb' (g := mkF m pc ls (.int nn :: .int dp :: .ref b :: .int sp :: .ref a :: st)) rfl (hsz.trans B.2.2.2.2.1.symm) rfl (hb B.2.2.2.1 hd) hf (W := V) (by show 2 * 0 + _ ≤ _; omega) hlo
  exact ⟨T', h', ⟨_, X', e', N', O.keep K' (allS hb' all0)⟩, K', F', fun G q => Go.by st' q⟩
def Mi (Z : State) (C : String) (mr : Addr) : Prop := ∃ (c : ClassId) (k : Class), Z.vm.findClass C = some c ∧ Z.vm.classes[c]? = some k ∧ k.mirror = some mr
theorem x_getClass (B : Bdy p Z s m meth c own bytes maxL ret nm) (W : Wk p l e R s m args below meth c Z T h k n) {C : String} {i : Nat} {b mr : Addr} (hd : decode bytes pc = .ok (.invokevirtual i, 3)) (w1 : (Cond.methodLink own i ⟨"java/lang/Object", "getClass", "()Ljava/lang/Class;"⟩).before a0 Z = true) (w2 : (Cond.declares ⟨"java/lang/Object", "getClass", "()Ljava/lang/Class;"⟩).before a0 Z = true) (w4 : (Cond.selects C ⟨"java/lang/Object", "getClass", "()Ljava/lang/Class;"⟩ ⟨"java/lang/Object", "getClass", "()Ljava/lang/Class;"⟩).before a0 Z = true)
    (w5 : (Cond.instanceMethod ⟨"java/lang/Object", "getClass", "()Ljava/lang/Class;"⟩).before a0 Z = true) (w6 : (Cond.native ⟨"java/lang/Object", "getClass", "()Ljava/lang/Class;"⟩).before a0 Z = true) (E : Exa Z h b C) (M : Mi Z C mr) (ls : Array Slot) (st : List Value) (hsz : ls.size = maxL) (V : Nat) (hV : (st.map fun v => v.category).sum = V) (hf : 1 ≤ R.frames) (hl : V + (nativeFrameWords "java/lang/Object" "getClass" 1 + 11) ≤ R.locals) :
    ∃ T', Wk p l e R s m args below meth c Z T' h k n ∧ (∀ G, Go p.tables e below G T' (mkF m (pc + 3) ls (.ref mr :: st)) → Go p.tables e below G T (mkF m pc ls (.ref b :: st))) := by
  obtain ⟨locs, X, eT, N, O⟩ := W
  obtain ⟨cB, kB, i1, i2, i3⟩ := isOf B.2.1 eT E
  obtain ⟨cc, kc, m1, m2, m3⟩ := M
  rw [B.2.1.alike.findClass] at i1
  cases i1.symm.trans m1
  obtain ⟨k', q, ek⟩ := B.2.1.alike.2.2 _ _ m2
  obtain ⟨vm', X', st'⟩ := X.getClassOf B.1 B.2.2.1 (mvT B.2.1 w1) (mvT B.2.1 w2) (notFace_of_selects (args := #[]) (mvT B.2.1 w4)) (mvT B.2.1 w4) (mvT B.2.1 w5) (mvT B.2.1 w6) (by rw [B.2.1.alike.findClass]; exact m1) i3 q (by rw [ek]; exact m3) (g := mkF m pc ls (.ref b :: st)) rfl (hsz.trans B.2.2.2.2.1.symm) rfl (hb B.2.2.2.1 hd) hf (by show 2 * 0 + _ + _ ≤ _; omega)
  have e' : (T.setVm vm').heap = h := eT
  have X' := X'
  exact ⟨_, ⟨locs, X', e', N, O⟩, fun G q => Go.by st' q⟩
theorem x_ldcM (B : Bdy p Z s m meth c own bytes maxL ret nm) (W : Wk p l e R s m args below meth c Z T h k n) {C : String} {i : Nat} {mr : Addr} (hd : decode bytes pc = .ok (.ldc i, 2)) (w : (Cond.classLink own i C).before a0 Z = true) (M : Mi Z C mr) (ls : Array Slot) (st : List Value) :
    ∃ T', Wk p l e R s m args below meth c Z T' h k n ∧ (∀ G, Go p.tables e below G T' (mkF m (pc + 2) ls (.ref mr :: st)) → Go p.tables e below G T (mkF m pc ls st)) := by
  obtain ⟨locs, X, eT, N, O⟩ := W
  obtain ⟨cc, kc, m1, m2, m3⟩ := M
  obtain ⟨k', q, ek⟩ := B.2.1.alike.2.2 _ _ m2
  have m1' := (B.2.1.alike.findClass C none).trans m1
  have e0 : k'.mirror = some mr := by rw [ek]; exact m3
  obtain ⟨vm', X', st'⟩ := X.ldcMirror B.1 B.2.2.1 (mv B.2.1 w) (C := C) (a := mr) (by first | (simp [Term.eval, m1', q, e0]; done) | (simp [State.setVm] at m1' q; simp [Term.eval, State.setVm, m1', q, e0]; done)) (g := mkF m pc ls st) rfl (hb B.2.2.2.1 hd)
  have e' : (T.setVm vm').heap = h := eT
  exact ⟨_, ⟨locs, X', e', N, O⟩, fun G q => Go.by st' q⟩
theorem x_newRE (B : Bdy p Z s m meth c own bytes maxL ret nm) (W : Wk p l e R s m args below meth c Z T h k n) {C ad : String} {i : Nat} {z : Int32} (cap : Nat) (hd : decode bytes pc = .ok (.anewarray i, 3)) (w1 : (Cond.classLink own i C).before a0 Z = true) (w2 : (Cond.arrayOver (.object C)).before a0 Z = true) (hn : ¬ z < 0) (hcap : z.toNatClampNeg ≤ cap) (hbg : cap * 8 ≤ 536870912) (hc : k + 1 ≤ R.cells) (hl : n + cap ≤ R.slots) (had : "[" ++ (FieldType.object C).toString = ad) (ls : Array Slot) (st : List Value) :
    ∃ T' h' b cA, b = h.size ∧ Wk p l e R s m args below meth c Z T' h' (k + 1) (n + cap) ∧ Keep h h' [] ∧ Arv Z h' b cA (.object C) z (List.replicate cap .null) .null ∧ Ovr Z cA C ∧ Exa Z h' b ad ∧
      (∀ G, Go p.tables e below G T' (mkF m (pc + 3) ls (.ref b :: st)) → Go p.tables e below G T (mkF m pc ls (.int z :: st))) := by
  obtain ⟨locs, X, eT, N, O⟩ := W
  obtain ⟨T', h', cA, X', e', E', A', Ex', Ov', st'⟩ := newRE X B.1 B.2.1 B.2.2.1 w1 w2 eT (g := mkF m pc ls (.int z :: st)) rfl (hb B.2.2.2.1 hd) rfl hn hcap hbg hc hl had
  exact ⟨T', h', _, cA, rfl, ⟨locs, X', e', N, O.ext E'⟩, (Keep.refl h []).ext E', (Arv.new A' hn).pad (vs' := [] ++ List.replicate cap _) (pad_rep [] _ cap), Ov', Ex', fun G q => Go.by st' q⟩
/-! ### calls -/
theorem backC {y : MethodName} {yb : ByteArray} {yL : Nat} {yr : Option FieldType} {rm : Room} {len V : Nat} {as' : Array Value} (C : Con l Z y yb yL yr [] rm as' h Q) (O : Old Z Z.heap.size h)
    (hZ : Z.Warmed39 s.vm) (wc : (Cond.code y yb yL yr).before a0 Z = true) (wz : (Cond.initialized y.cls).before a0 Z = true) (hf : rm.frames + 1 ≤ R.frames) (hl : V + (yL + 11) + rm.locals ≤ R.locals) :
    Back l R p e below s args y len V (fun A a => a = as' ∧ A.U.heap = h ∧ A.cells + rm.cells ≤ R.cells ∧ A.slots + rm.slots ≤ R.slots)
      (fun A _ v B => ∃ L, (Q v B.U.heap ∧ Fr Z.heap.size L ∧ Old Z Z.heap.size B.U.heap) ∧ B.locs = A.locs ++ L ∧ B.cells = A.cells + rm.cells ∧ B.slots = A.slots + rm.slots) :=
  backOf (Q := fun v h L => Q v h ∧ Fr Z.heap.size L ∧ Old Z Z.heap.size h) (C O) hZ wc wz hf hl
theorem x_static (B : Bdy p Z s m meth c own bytes maxL ret nm) (W : Wk p l e R s m args below meth c Z T h k n) {y : MethodName} {yb : ByteArray} {yL i : Nat} {yr : Option FieldType} {rm : Room} (argsL : List Value) (C : Con l Z y yb yL yr [] rm argsL.toArray h Q)
    (hd : decode bytes pc = .ok (.invokestatic i, 3)) (w1 : (Cond.methodLink own i y).before a0 Z = true) (w2 : (Cond.static y).before a0 Z = true) (wz : (Cond.initialized y.cls).before a0 Z = true) (wc : (Cond.code y yb yL yr).before a0 Z = true) (hy : y.cls ≠ "java/lang/invoke/MethodHandle" ∧ y.cls ≠ "java/lang/invoke/VarHandle")
    (hlen : ∀ sig, parseMethodDescriptor y.desc = some sig → argsL.length = sig.parameters.length) (ls : Array Slot) (st : List Value) (hsz : ls.size = maxL) (V : Nat) (hV : (st.map fun v => v.category).sum = V) (hf : rm.frames + 1 ≤ R.frames) (hl : V + (yL + 11) + rm.locals ≤ R.locals) (hc : k + rm.cells ≤ R.cells) (hs : n + rm.slots ≤ R.slots) :
    ∃ T' h' v, Wk p l e R s m args below meth c Z T' h' (k + rm.cells) (n + rm.slots) ∧ Q v h' ∧ (∀ G, Go p.tables e below G T' (mkF m (pc + 3) ls (v.toList ++ st)) → Go p.tables e below G T (mkF m pc ls (argsL.reverse ++ st))) := by
  obtain ⟨locs, X, eT, N, O⟩ := W
  obtain ⟨v, _, ⟨T', L', k', n'⟩, -, X', ⟨Lc, hQ, l1, l2, l3⟩, st'⟩ := Jvm.LawKit.callS X B.1 (y := y) B.2.2.1 (mvT B.2.1 w1) (mvT B.2.1 w2) (mvT B.2.1 wz) (mvT B.2.1 wc) hy (backC (V := V) C O B.2.1 wc wz hf hl) (g := mkF m pc ls (argsL.reverse ++ st)) rfl (hsz.trans B.2.2.2.2.1.symm) (argsL := argsL) (rest := st) hlen rfl (by show 2 * 0 + _ ≤ _; omega) (hb B.2.2.2.1 hd) (fun _ _ => ⟨rfl, eT, hc, hs⟩)
  dsimp only [Pt.U, Pt.locs, Pt.cells, Pt.slots] at X' l1 l2 l3 st' hQ
  subst l1 l2 l3
  exact ⟨T', T'.heap, v, ⟨_, X', rfl, N.app hQ.2.1, hQ.2.2⟩, hQ.1, fun G q => Go.by st' q⟩
theorem x_special (B : Bdy p Z s m meth c own bytes maxL ret nm) (W : Wk p l e R s m args below meth c Z T h k n) {y : MethodName} {yb : ByteArray} {yL i : Nat} {rm : Room} {b : Addr} (argsL : List Value) (C : Con l Z y yb yL none [] rm (.ref b :: argsL).toArray h Q)
    (hd : decode bytes pc = .ok (.invokespecial i, 3)) (hy1 : y.name = "<init>") (w1 : (Cond.methodLink own i y).before a0 Z = true) (w2 : (Cond.instanceMethod y).before a0 Z = true) (wz : (Cond.initialized y.cls).before a0 Z = true) (wc : (Cond.code y yb yL none).before a0 Z = true) (hy : y.cls ≠ "java/lang/invoke/MethodHandle" ∧ y.cls ≠ "java/lang/invoke/VarHandle")
    (hlen : ∀ sig, parseMethodDescriptor y.desc = some sig → argsL.length = sig.parameters.length) (ls : Array Slot) (st : List Value) (hsz : ls.size = maxL) (V : Nat) (hV : (st.map fun v => v.category).sum = V) (hf : rm.frames + 1 ≤ R.frames) (hl : V + (yL + 11) + rm.locals ≤ R.locals) (hc : k + rm.cells ≤ R.cells) (hs : n + rm.slots ≤ R.slots) :
    ∃ T' h' v, Wk p l e R s m args below meth c Z T' h' (k + rm.cells) (n + rm.slots) ∧ Q v h' ∧ (∀ G, Go p.tables e below G T' (mkF m (pc + 3) ls (v.toList ++ st)) → Go p.tables e below G T (mkF m pc ls (argsL.reverse ++ .ref b :: st))) := by
  obtain ⟨locs, X, eT, N, O⟩ := W
  obtain ⟨v, _, ⟨T', L', k', n'⟩, -, X', ⟨Lc, hQ, l1, l2, l3⟩, st'⟩ := X.specialBack B.1 (y := y) hy1 B.2.2.1 (mvT B.2.1 w1) (mvT B.2.1 w2) (mvT B.2.1 wc) hy (backC (V := V) C O B.2.1 wc wz hf hl) (g := mkF m pc ls (argsL.reverse ++ .ref b :: st)) rfl (hsz.trans B.2.2.2.2.1.symm) (Steps.refl _) (a := b) (argsL := argsL) (rest := st) hlen rfl (by show 2 * 0 + _ ≤ _; omega) (hb B.2.2.2.1 hd) (fun _ _ => ⟨rfl, eT, hc, hs⟩)
  dsimp only [Pt.U, Pt.locs, Pt.cells, Pt.slots] at X' l1 l2 l3 st' hQ
  subst l1 l2 l3
  exact ⟨T', T'.heap, v, ⟨_, X', rfl, N.app hQ.2.1, hQ.2.2⟩, hQ.1, fun G q => Go.by (fun t q => st'.trans q) q⟩
theorem x_virtual (B : Bdy p Z s m meth c own bytes maxL ret nm) (W : Wk p l e R s m args below meth c Z T h k n) {y : MethodName} {yb : ByteArray} {yL i : Nat} {yr : Option FieldType} {rm : Room} {b : Addr} {D : String} (argsL : List Value) (C : Con l Z y yb yL yr [] rm (.ref b :: argsL).toArray h Q) (E : Exa Z h b D)
    (hd : decode bytes pc = .ok (.invokevirtual i, 3)) (w1 : (Cond.methodLink own i y).before a0 Z = true) (w2 : (Cond.declares y).before a0 Z = true) (w3 : (Cond.selects D y y).before a0 Z = true) (w4 : (Cond.instanceMethod y).before a0 Z = true) (wz : (Cond.initialized y.cls).before a0 Z = true) (wc : (Cond.code y yb yL yr).before a0 Z = true) (hy : y.cls ≠ "java/lang/invoke/MethodHandle" ∧ y.cls ≠ "java/lang/invoke/VarHandle")
    (hlen : ∀ sig, parseMethodDescriptor y.desc = some sig → argsL.length = sig.parameters.length) (ls : Array Slot) (st : List Value) (hsz : ls.size = maxL) (V : Nat) (hV : (st.map fun v => v.category).sum = V) (hf : rm.frames + 1 ≤ R.frames) (hl : V + (yL + 11) + rm.locals ≤ R.locals) (hc : k + rm.cells ≤ R.cells) (hs : n + rm.slots ≤ R.slots) :
    ∃ T' h' v, Wk p l e R s m args below meth c Z T' h' (k + rm.cells) (n + rm.slots) ∧ Q v h' ∧ (∀ G, Go p.tables e below G T' (mkF m (pc + 3) ls (v.toList ++ st)) → Go p.tables e below G T (mkF m pc ls (argsL.reverse ++ .ref b :: st))) := by
  obtain ⟨locs, X, eT, N, O⟩ := W
  obtain ⟨cq, kq, qa, qb, qc⟩ := isOf B.2.1 eT E
  obtain ⟨v, _, ⟨T', L', k', n'⟩, -, X', ⟨Lc, hQ, l1, l2, l3⟩, st'⟩ := X.virtualBack B.1 (y := y) (z := y) B.2.2.1 (mvT B.2.1 w1) (mvT B.2.1 w2) (notFace_of_selects (args := #[]) (mvT B.2.1 w3)) (mvT B.2.1 w3) (mvT B.2.1 w4) hy (backC (V := V) C O B.2.1 wc wz hf hl) qa qc (g := mkF m pc ls (argsL.reverse ++ .ref b :: st)) rfl (hsz.trans B.2.2.2.2.1.symm) (Steps.refl _) (argsL := argsL) (rest := st) hlen rfl (by show 2 * 0 + _ ≤ _; omega) (hb B.2.2.2.1 hd) (fun _ _ => ⟨rfl, eT, hc, hs⟩)
  dsimp only [Pt.U, Pt.locs, Pt.cells, Pt.slots] at X' l1 l2 l3 st' hQ
  subst l1 l2 l3
  exact ⟨T', T'.heap, v, ⟨_, X', rfl, N.app hQ.2.1, hQ.2.2⟩, hQ.1, fun G q => Go.by (fun t q => st'.trans q) q⟩
theorem x_iface (B : Bdy p Z s m meth c own bytes maxL ret nm) (W : Wk p l e R s m args below meth c Z T h k n) {xi y : MethodName} {count : Nat} {D : String} {yb : ByteArray} {yL i : Nat} {yr : Option FieldType} {rm : Room} {b : Addr} (argsL : List Value) (C : Con l Z y yb yL yr [] rm (.ref b :: argsL).toArray h Q) (E : Exa Z h b D)
    (hd : decode bytes pc = .ok (.invokeinterface i count, 5)) (w1 : (Cond.methodLink own i xi).before a0 Z = true) (w2 : (Cond.declares xi).before a0 Z = true) (w3 : (Cond.interfaceMethod xi.cls xi.cls xi.name xi.desc).before a0 Z = true) (w4 : (Cond.selects D xi y).before a0 Z = true) (w5 : (Cond.instanceMethod y).before a0 Z = true) (w6 : (Cond.publicMethod y).before a0 Z = true) (w7 : (Cond.unhidden D xi.name xi.desc).before a0 Z = true) (w8 : (Cond.castable D xi.cls).before a0 Z = true) (hk3 : ((Cond.interfaceMethod xi.cls xi.cls xi.name xi.desc).onTables && (Cond.interfaceMethod xi.cls xi.cls xi.name xi.desc).keepsFace) = true) (wz : (Cond.initialized y.cls).before a0 Z = true) (wc : (Cond.code y yb yL yr).before a0 Z = true) (hy : xi.cls ≠ "java/lang/invoke/MethodHandle" ∧ xi.cls ≠ "java/lang/invoke/VarHandle")
    (hlen : ∀ sig, parseMethodDescriptor xi.desc = some sig → argsL.length = sig.parameters.length) (ls : Array Slot) (st : List Value) (hsz : ls.size = maxL) (V : Nat) (hV : (st.map fun v => v.category).sum = V) (hf : rm.frames + 1 ≤ R.frames) (hl : V + (yL + 11) + rm.locals ≤ R.locals) (hc : k + rm.cells ≤ R.cells) (hs : n + rm.slots ≤ R.slots) :
    ∃ T' h' v, Wk p l e R s m args below meth c Z T' h' (k + rm.cells) (n + rm.slots) ∧ Q v h' ∧ (∀ G, Go p.tables e below G T' (mkF m (pc + 5) ls (v.toList ++ st)) → Go p.tables e below G T (mkF m pc ls (argsL.reverse ++ .ref b :: st))) := by
  obtain ⟨locs, X, eT, N, O⟩ := W
  obtain ⟨cq, kq, qa, qb, qc⟩ := isOf B.2.1 eT E
  obtain ⟨v, _, ⟨T', L', k', n'⟩, -, X', ⟨Lc, hQ, l1, l2, l3⟩, st'⟩ := X.interfaceBack B.1 (xi := xi) (y := y) B.2.2.1 (mvT B.2.1 w1) (mvT B.2.1 w2) (mvT B.2.1 w3 hk3) (mvT B.2.1 w4) (mvT B.2.1 w5) (mvT B.2.1 w6) (mvT B.2.1 w7) (mvT B.2.1 w8) hy (backC (V := V) C O B.2.1 wc wz hf hl) qa qb qc (g := mkF m pc ls (argsL.reverse ++ .ref b :: st)) rfl (hsz.trans B.2.2.2.2.1.symm) (Steps.refl _) (argsL := argsL) (rest := st) hlen rfl (by show 2 * 0 + _ ≤ _; omega) (hb B.2.2.2.1 hd) (fun _ _ => ⟨rfl, eT, hc, hs⟩)
  dsimp only [Pt.U, Pt.locs, Pt.cells, Pt.slots] at X' l1 l2 l3 st' hQ
  subst l1 l2 l3
  exact ⟨T', T'.heap, v, ⟨_, X', rfl, N.app hQ.2.1, hQ.2.2⟩, hQ.1, fun G q => Go.by (fun t q => st'.trans q) q⟩
theorem x_private (B : Bdy p Z s m meth c own bytes maxL ret nm) (W : Wk p l e R s m args below meth c Z T h k n) {y : MethodName} {D : String} {yb : ByteArray} {yL i : Nat} {yr : Option FieldType} {rm : Room} {b : Addr} (argsL : List Value) (C : Con l Z y yb yL yr [] rm (.ref b :: argsL).toArray h Q) (E : Exa Z h b D)
    (hd : decode bytes pc = .ok (.invokevirtual i, 3)) (w1 : (Cond.methodLink own i y).before a0 Z = true) (w2 : (Cond.instanceMethod y).before a0 Z = true) (w3 : (Cond.selects y.cls y y).before a0 Z = true) (w4 : (Cond.privateMethod y).before a0 Z = true) (wz : (Cond.initialized y.cls).before a0 Z = true) (wc : (Cond.code y yb yL yr).before a0 Z = true) (hy : y.cls ≠ "java/lang/invoke/MethodHandle" ∧ y.cls ≠ "java/lang/invoke/VarHandle")
    (hlen : ∀ sig, parseMethodDescriptor y.desc = some sig → argsL.length = sig.parameters.length) (ls : Array Slot) (st : List Value) (hsz : ls.size = maxL) (V : Nat) (hV : (st.map fun v => v.category).sum = V) (hf : rm.frames + 1 ≤ R.frames) (hl : V + (yL + 11) + rm.locals ≤ R.locals) (hc : k + rm.cells ≤ R.cells) (hs : n + rm.slots ≤ R.slots) :
    ∃ T' h' v, Wk p l e R s m args below meth c Z T' h' (k + rm.cells) (n + rm.slots) ∧ Q v h' ∧ (∀ G, Go p.tables e below G T' (mkF m (pc + 3) ls (v.toList ++ st)) → Go p.tables e below G T (mkF m pc ls (argsL.reverse ++ .ref b :: st))) := by
  obtain ⟨locs, X, eT, N, O⟩ := W
  obtain ⟨cell, qa, qb⟩ := Exa.cell E
  obtain ⟨v, _, ⟨T', L', k', n'⟩, -, X', ⟨Lc, hQ, l1, l2, l3⟩, st'⟩ := X.privateBack B.1 (y := y) B.2.2.1 (mvT B.2.1 w1) (mvT B.2.1 w2) (mvT B.2.1 w3) (Cond.privateMethod_at (mvP B.2.1 w4 (args := #[]))) (mvT B.2.1 wc) hy (backC (V := V) C O B.2.1 wc wz hf hl) (g := mkF m pc ls (argsL.reverse ++ .ref b :: st)) rfl (hsz.trans B.2.2.2.2.1.symm) (Steps.refl _) (a := b) (by rw [eT]; exact qa) qb (argsL := argsL) (rest := st) hlen rfl (by show 2 * 0 + _ ≤ _; omega) (hb B.2.2.2.1 hd) (fun _ _ => ⟨rfl, eT, hc, hs⟩)
  dsimp only [Pt.U, Pt.locs, Pt.cells, Pt.slots] at X' l1 l2 l3 st' hQ
  subst l1 l2 l3
  exact ⟨T', T'.heap, v, ⟨_, X', rfl, N.app hQ.2.1, hQ.2.2⟩, hQ.1, fun G q => Go.by (fun t q => st'.trans q) q⟩
theorem x_specialB (B : Bdy p Z s m meth c own bytes maxL ret nm) (W : Wk p l e R s m args below meth c Z T h k n) {y : MethodName} {yb : ByteArray} {yL i V rc rs : Nat} {b : Addr} {QL : Option Value → Heap → List Loc → Prop} (argsL : List Value) (hK : ∀ s' : State, Z.Warmed39 s'.vm → Back l R p e below s' args y 3 V (fun A a => a = (.ref b :: argsL).toArray ∧ A.U.heap = h ∧ A.cells + rc ≤ R.cells ∧ A.slots + rs ≤ R.slots) (fun A _ v B => ∃ L, QL v B.U.heap L ∧ B.locs = A.locs ++ L ∧ B.cells = A.cells + rc ∧ B.slots = A.slots + rs))
    (hd : decode bytes pc = .ok (.invokespecial i, 3)) (hy1 : y.name = "<init>") (w1 : (Cond.methodLink own i y).before a0 Z = true) (w2 : (Cond.instanceMethod y).before a0 Z = true) (wc : (Cond.code y yb yL none).before a0 Z = true) (hy : y.cls ≠ "java/lang/invoke/MethodHandle" ∧ y.cls ≠ "java/lang/invoke/VarHandle")
    (hlen : ∀ sig, parseMethodDescriptor y.desc = some sig → argsL.length = sig.parameters.length) (ls : Array Slot) (st : List Value) (hsz : ls.size = maxL) (hV : (st.map fun v => v.category).sum = V) (hc : k + rc ≤ R.cells) (hs : n + rs ≤ R.slots) (wl : List Addr) (hwl : ∀ x ∈ wl, Z.heap.size ≤ x) (hq : ∀ v h' L, QL v h' L → Fr Z.heap.size L ∧ Keep h h' wl) : ∃ T' h' v L, Wk p l e R s m args below meth c Z T' h' (k + rc) (n + rs) ∧ QL v h' L ∧ (∀ G, Go p.tables e below G T' (mkF m (pc + 3) ls (v.toList ++ st)) → Go p.tables e below G T (mkF m pc ls (argsL.reverse ++ .ref b :: st))) := by
  obtain ⟨locs, X, eT, N, O⟩ := W
  obtain ⟨v, _, ⟨T', L', k', n'⟩, -, X', ⟨Lc, hQ, l1, l2, l3⟩, st'⟩ := X.specialBack B.1 (y := y) hy1 B.2.2.1 (mvT B.2.1 w1) (mvT B.2.1 w2) (mvT B.2.1 wc) hy (hK _ B.2.1) (g := mkF m pc ls (argsL.reverse ++ .ref b :: st)) rfl (hsz.trans B.2.2.2.2.1.symm) (Steps.refl _) (a := b) (argsL := argsL) (rest := st) hlen rfl (by show 2 * 0 + _ ≤ _; omega) (hb B.2.2.2.1 hd) (fun _ _ => ⟨rfl, eT, hc, hs⟩)
  dsimp only [Pt.U, Pt.locs, Pt.cells, Pt.slots] at X' l1 l2 l3 st' hQ
  subst l1 l2 l3
  obtain ⟨hF, hKp⟩ := hq _ _ _ hQ
  exact ⟨T', T'.heap, v, Lc, ⟨_, X', rfl, N.app hF, O.keep hKp hwl⟩, hQ, fun G q => Go.by (fun t q => st'.trans q) q⟩
theorem x_virtualB (B : Bdy p Z s m meth c own bytes maxL ret nm) (W : Wk p l e R s m args below meth c Z T h k n) {y : MethodName} {D : String} {i V rc rs : Nat} {b : Addr} {QL : Option Value → Heap → List Loc → Prop} (argsL : List Value) (hK : ∀ s' : State, Z.Warmed39 s'.vm → Back l R p e below s' args y 3 V (fun A a => a = (.ref b :: argsL).toArray ∧ A.U.heap = h ∧ A.cells + rc ≤ R.cells ∧ A.slots + rs ≤ R.slots) (fun A _ v B => ∃ L, QL v B.U.heap L ∧ B.locs = A.locs ++ L ∧ B.cells = A.cells + rc ∧ B.slots = A.slots + rs)) (E : Exa Z h b D)
    (hd : decode bytes pc = .ok (.invokevirtual i, 3)) (w1 : (Cond.methodLink own i y).before a0 Z = true) (w2 : (Cond.declares y).before a0 Z = true) (w3 : (Cond.selects D y y).before a0 Z = true) (w4 : (Cond.instanceMethod y).before a0 Z = true) (hy : y.cls ≠ "java/lang/invoke/MethodHandle" ∧ y.cls ≠ "java/lang/invoke/VarHandle")
    (hlen : ∀ sig, parseMethodDescriptor y.desc = some sig → argsL.length = sig.parameters.length) (ls : Array Slot) (st : List Value) (hsz : ls.size = maxL) (hV : (st.map fun v => v.category).sum = V) (hc : k + rc ≤ R.cells) (hs : n + rs ≤ R.slots) (wl : List Addr) (hwl : ∀ x ∈ wl, Z.heap.size ≤ x) (hq : ∀ v h' L, QL v h' L → Fr Z.heap.size L ∧ Keep h h' wl) : ∃ T' h' v L, Wk p l e R s m args below meth c Z T' h' (k + rc) (n + rs) ∧ QL v h' L ∧ (∀ G, Go p.tables e below G T' (mkF m (pc + 3) ls (v.toList ++ st)) → Go p.tables e below G T (mkF m pc ls (argsL.reverse ++ .ref b :: st))) := by
  obtain ⟨locs, X, eT, N, O⟩ := W
  obtain ⟨cq, kq, qa, qb, qc⟩ := isOf B.2.1 eT E
  obtain ⟨v, _, ⟨T', L', k', n'⟩, -, X', ⟨Lc, hQ, l1, l2, l3⟩, st'⟩ := X.virtualBack B.1 (y := y) (z := y) B.2.2.1 (mvT B.2.1 w1) (mvT B.2.1 w2) (notFace_of_selects (args := #[]) (mvT B.2.1 w3)) (mvT B.2.1 w3) (mvT B.2.1 w4) hy (hK _ B.2.1) qa qc (g := mkF m pc ls (argsL.reverse ++ .ref b :: st)) rfl (hsz.trans B.2.2.2.2.1.symm) (Steps.refl _) (argsL := argsL) (rest := st) hlen rfl (by show 2 * 0 + _ ≤ _; omega) (hb B.2.2.2.1 hd) (fun _ _ => ⟨rfl, eT, hc, hs⟩)
  dsimp only [Pt.U, Pt.locs, Pt.cells, Pt.slots] at X' l1 l2 l3 st' hQ
  subst l1 l2 l3
  obtain ⟨hF, hKp⟩ := hq _ _ _ hQ
  exact ⟨T', T'.heap, v, Lc, ⟨_, X', rfl, N.app hF, O.keep hKp hwl⟩, hQ, fun G q => Go.by (fun t q => st'.trans q) q⟩
theorem x_staticUp (B : Bdy p Z s m meth c own bytes maxL ret nm) (W : Wk p l e R s m args below meth c Z T h k n) {xc owner xn xd : String} {yb : ByteArray} {yL i : Nat} {yr : Option FieldType} {rm : Room} (argsL : List Value) (C : Con l Z ⟨owner, xn, xd⟩ yb yL yr [] rm argsL.toArray h Q)
    (hd : decode bytes pc = .ok (.invokestatic i, 3)) (w1 : (Cond.methodLink own i ⟨xc, xn, xd⟩).before a0 Z = true) (w1' : (Cond.sameMethod xc owner xn xd).before a0 Z = true) (w2 : (Cond.static ⟨owner, xn, xd⟩).before a0 Z = true) (wz : (Cond.initialized owner).before a0 Z = true) (wc : (Cond.code ⟨owner, xn, xd⟩ yb yL yr).before a0 Z = true) (hy : owner ≠ "java/lang/invoke/MethodHandle" ∧ owner ≠ "java/lang/invoke/VarHandle")
    (hlen : ∀ sig, parseMethodDescriptor xd = some sig → argsL.length = sig.parameters.length) (ls : Array Slot) (st : List Value) (hsz : ls.size = maxL) (V : Nat) (hV : (st.map fun v => v.category).sum = V) (hf : rm.frames + 1 ≤ R.frames) (hl : V + (yL + 11) + rm.locals ≤ R.locals) (hc : k + rm.cells ≤ R.cells) (hs : n + rm.slots ≤ R.slots) :
    ∃ T' h' v, Wk p l e R s m args below meth c Z T' h' (k + rm.cells) (n + rm.slots) ∧ Q v h' ∧ (∀ G, Go p.tables e below G T' (mkF m (pc + 3) ls (v.toList ++ st)) → Go p.tables e below G T (mkF m pc ls (argsL.reverse ++ st))) := by
  obtain ⟨locs, X, eT, N, O⟩ := W
  have wcs : (Cond.code ⟨owner, xn, xd⟩ yb yL yr).before args s = true := mvT B.2.1 wc
  obtain ⟨mk, hnamed⟩ := Cond.code_named wcs
  obtain ⟨methM, cM, hmethM, -, -, -, -, -, -, hsigM⟩ := Cond.code_spec hnamed wcs
  obtain ⟨v, _, ⟨T', L', k', n'⟩, -, X', ⟨Lc, hQ, l1, l2, l3⟩, st'⟩ := X.staticBackUp B.1 (x := ⟨xc, xn, xd⟩) (owner := owner) B.2.2.1 (mvT B.2.1 w1) (mvT B.2.1 w1') (mvT B.2.1 w2) (mvT B.2.1 wz) hnamed hmethM hsigM hy (backC (V := V) C O B.2.1 wc wz hf hl) (g := mkF m pc ls (argsL.reverse ++ st)) rfl (hsz.trans B.2.2.2.2.1.symm) (Steps.refl _) (argsL := argsL) (rest := st) hlen rfl (by show 2 * 0 + _ ≤ _; omega) (hb B.2.2.2.1 hd) (fun _ _ => ⟨rfl, eT, hc, hs⟩)
  dsimp only [Pt.U, Pt.locs, Pt.cells, Pt.slots] at X' l1 l2 l3 st' hQ
  subst l1 l2 l3
  exact ⟨T', T'.heap, v, ⟨_, X', rfl, N.app hQ.2.1, hQ.2.2⟩, hQ.1, fun G q => Go.by (fun t q => st'.trans q) q⟩
end K
end Jvm.OwnK
namespace Jvm.Pilot.@@N@@
open Jvm Jvm.ClassFile Sem Op Lib Jvm.Free Jvm.Stand Jvm.LawKit Jvm.RoadKit Jvm.OwnK Bundle Jvm.Pilot.@@N@@.Jvm.D
theorem tw {Z : State} {a0 : Array Value} (hw : ∀ d ∈ tables_1, d.before a0 Z = true) (i : Nat) {d : Jvm.Cond} (h : tables_1[i]? = some d) : d.before a0 Z = true := hw _ (List.mem_of_getElem? h)
theorem d_jdk_38_method_2_0 : decode jdk_38_method_2_code 0 = .ok (.aload_n 0, 1) := by decide +kernel
theorem d_jdk_38_method_2_1 : decode jdk_38_method_2_code 1 = .ok (.invokespecial 1, 3) := by decide +kernel
theorem d_jdk_38_method_2_4 : decode jdk_38_method_2_code 4 = .ok (.aload_n 0, 1) := by decide +kernel
theorem d_jdk_38_method_2_5 : decode jdk_38_method_2_code 5 = .ok (.getstatic 39, 3) := by decide +kernel
theorem d_jdk_38_method_2_8 : decode jdk_38_method_2_code 8 = .ok (.putfield 9, 3) := by decide +kernel
theorem d_jdk_38_method_2_11 : decode jdk_38_method_2_code 11 = .ok (.return_, 1) := by decide +kernel
theorem d_jdk_39_method_1_0 : decode jdk_39_method_1_code 0 = .ok (.aload_n 0, 1) := by decide +kernel
theorem d_jdk_39_method_1_1 : decode jdk_39_method_1_code 1 = .ok (.invokespecial 1, 3) := by decide +kernel
theorem d_jdk_39_method_1_4 : decode jdk_39_method_1_code 4 = .ok (.aload_n 0, 1) := by decide +kernel
theorem d_jdk_39_method_1_5 : decode jdk_39_method_1_code 5 = .ok (.iconst 0, 1) := by decide +kernel
theorem d_jdk_39_method_1_6 : decode jdk_39_method_1_code 6 = .ok (.putfield 7, 3) := by decide +kernel
theorem d_jdk_39_method_1_9 : decode jdk_39_method_1_code 9 = .ok (.return_, 1) := by decide +kernel
theorem d_jdk_22_method_1_0 : decode jdk_22_method_1_code 0 = .ok (.aload_n 0, 1) := by decide +kernel
theorem d_jdk_22_method_1_1 : decode jdk_22_method_1_code 1 = .ok (.invokespecial 1, 3) := by decide +kernel
theorem d_jdk_22_method_1_4 : decode jdk_22_method_1_code 4 = .ok (.return_, 1) := by decide +kernel
theorem d_method_2_0 : decode method_2_code 0 = .ok (.iload_n 2, 1) := by decide +kernel
theorem d_method_2_1 : decode method_2_code 1 = .ok (.iload_n 1, 1) := by decide +kernel
theorem d_method_2_2 : decode method_2_code 2 = .ok (.if_icmp .ge 12, 3) := by decide +kernel
theorem d_method_2_5 : decode method_2_code 5 = .ok (.aload_n 0, 1) := by decide +kernel
theorem d_method_2_6 : decode method_2_code 6 = .ok (.iload_n 2, 1) := by decide +kernel
theorem d_method_2_7 : decode method_2_code 7 = .ok (.invokestatic 7, 3) := by decide +kernel
theorem d_method_2_10 : decode method_2_code 10 = .ok (.invokevirtual 13, 3) := by decide +kernel
theorem d_method_2_13 : decode method_2_code 13 = .ok (.pop, 1) := by decide +kernel
theorem d_method_2_14 : decode method_2_code 14 = .ok (.iload_n 2, 1) := by decide +kernel
theorem d_method_2_15 : decode method_2_code 15 = .ok (.iconst 1, 1) := by decide +kernel
theorem d_method_2_16 : decode method_2_code 16 = .ok (.iadd, 1) := by decide +kernel
theorem d_method_2_17 : decode method_2_code 17 = .ok (.iload_n 1, 1) := by decide +kernel
theorem d_method_2_18 : decode method_2_code 18 = .ok (.if_icmp .ge 14, 3) := by decide +kernel
theorem d_method_2_21 : decode method_2_code 21 = .ok (.aload_n 0, 1) := by decide +kernel
theorem d_method_2_22 : decode method_2_code 22 = .ok (.iload_n 2, 1) := by decide +kernel
theorem d_method_2_23 : decode method_2_code 23 = .ok (.iconst 1, 1) := by decide +kernel
theorem d_method_2_24 : decode method_2_code 24 = .ok (.iadd, 1) := by decide +kernel
theorem d_method_2_25 : decode method_2_code 25 = .ok (.invokestatic 7, 3) := by decide +kernel
theorem d_method_2_28 : decode method_2_code 28 = .ok (.invokevirtual 13, 3) := by decide +kernel
theorem d_method_2_31 : decode method_2_code 31 = .ok (.pop, 1) := by decide +kernel
theorem d_method_2_32 : decode method_2_code 32 = .ok (.iload_n 2, 1) := by decide +kernel
theorem d_method_2_33 : decode method_2_code 33 = .ok (.iconst 2, 1) := by decide +kernel
theorem d_method_2_34 : decode method_2_code 34 = .ok (.iadd, 1) := by decide +kernel
theorem d_method_2_35 : decode method_2_code 35 = .ok (.iload_n 1, 1) := by decide +kernel
theorem d_method_2_36 : decode method_2_code 36 = .ok (.if_icmp .ge 14, 3) := by decide +kernel
theorem d_method_2_39 : decode method_2_code 39 = .ok (.aload_n 0, 1) := by decide +kernel
theorem d_method_2_40 : decode method_2_code 40 = .ok (.iload_n 2, 1) := by decide +kernel
theorem d_method_2_41 : decode method_2_code 41 = .ok (.iconst 2, 1) := by decide +kernel
theorem d_method_2_42 : decode method_2_code 42 = .ok (.iadd, 1) := by decide +kernel
theorem d_method_2_43 : decode method_2_code 43 = .ok (.invokestatic 7, 3) := by decide +kernel
theorem d_method_2_46 : decode method_2_code 46 = .ok (.invokevirtual 13, 3) := by decide +kernel
theorem d_method_2_49 : decode method_2_code 49 = .ok (.pop, 1) := by decide +kernel
theorem d_method_2_50 : decode method_2_code 50 = .ok (.iload_n 2, 1) := by decide +kernel
theorem d_method_2_51 : decode method_2_code 51 = .ok (.iconst 3, 1) := by decide +kernel
theorem d_method_2_52 : decode method_2_code 52 = .ok (.iadd, 1) := by decide +kernel
theorem d_method_2_53 : decode method_2_code 53 = .ok (.iload_n 1, 1) := by decide +kernel
theorem d_method_2_54 : decode method_2_code 54 = .ok (.if_icmp .ge 14, 3) := by decide +kernel
theorem d_method_2_57 : decode method_2_code 57 = .ok (.aload_n 0, 1) := by decide +kernel
theorem d_method_2_58 : decode method_2_code 58 = .ok (.iload_n 2, 1) := by decide +kernel
theorem d_method_2_59 : decode method_2_code 59 = .ok (.iconst 3, 1) := by decide +kernel
theorem d_method_2_60 : decode method_2_code 60 = .ok (.iadd, 1) := by decide +kernel
theorem d_method_2_61 : decode method_2_code 61 = .ok (.invokestatic 7, 3) := by decide +kernel
theorem d_method_2_64 : decode method_2_code 64 = .ok (.invokevirtual 13, 3) := by decide +kernel
theorem d_method_2_67 : decode method_2_code 67 = .ok (.pop, 1) := by decide +kernel
theorem d_method_2_68 : decode method_2_code 68 = .ok (.iload_n 2, 1) := by decide +kernel
theorem d_method_2_69 : decode method_2_code 69 = .ok (.iconst 4, 1) := by decide +kernel
theorem d_method_2_70 : decode method_2_code 70 = .ok (.iadd, 1) := by decide +kernel
theorem d_method_2_71 : decode method_2_code 71 = .ok (.iload_n 1, 1) := by decide +kernel
theorem d_method_2_72 : decode method_2_code 72 = .ok (.if_icmp .ge 14, 3) := by decide +kernel
theorem d_method_2_75 : decode method_2_code 75 = .ok (.aload_n 0, 1) := by decide +kernel
theorem d_method_2_76 : decode method_2_code 76 = .ok (.iload_n 2, 1) := by decide +kernel
theorem d_method_2_77 : decode method_2_code 77 = .ok (.iconst 4, 1) := by decide +kernel
theorem d_method_2_78 : decode method_2_code 78 = .ok (.iadd, 1) := by decide +kernel
theorem d_method_2_79 : decode method_2_code 79 = .ok (.invokestatic 7, 3) := by decide +kernel
theorem d_method_2_82 : decode method_2_code 82 = .ok (.invokevirtual 13, 3) := by decide +kernel
theorem d_method_2_85 : decode method_2_code 85 = .ok (.pop, 1) := by decide +kernel
theorem d_method_2_86 : decode method_2_code 86 = .ok (.iload_n 2, 1) := by decide +kernel
theorem d_method_2_87 : decode method_2_code 87 = .ok (.iconst 5, 1) := by decide +kernel
theorem d_method_2_88 : decode method_2_code 88 = .ok (.iadd, 1) := by decide +kernel
theorem d_method_2_89 : decode method_2_code 89 = .ok (.iload_n 1, 1) := by decide +kernel
theorem d_method_2_90 : decode method_2_code 90 = .ok (.if_icmp .ge 14, 3) := by decide +kernel
theorem d_method_2_93 : decode method_2_code 93 = .ok (.aload_n 0, 1) := by decide +kernel
theorem d_method_2_94 : decode method_2_code 94 = .ok (.iload_n 2, 1) := by decide +kernel
theorem d_method_2_95 : decode method_2_code 95 = .ok (.iconst 5, 1) := by decide +kernel
theorem d_method_2_96 : decode method_2_code 96 = .ok (.iadd, 1) := by decide +kernel
theorem d_method_2_97 : decode method_2_code 97 = .ok (.invokestatic 7, 3) := by decide +kernel
theorem d_method_2_100 : decode method_2_code 100 = .ok (.invokevirtual 13, 3) := by decide +kernel
theorem d_method_2_103 : decode method_2_code 103 = .ok (.pop, 1) := by decide +kernel
theorem d_method_2_104 : decode method_2_code 104 = .ok (.iload_n 2, 1) := by decide +kernel
theorem d_method_2_105 : decode method_2_code 105 = .ok (.bipush 6, 2) := by decide +kernel
theorem d_method_2_107 : decode method_2_code 107 = .ok (.iadd, 1) := by decide +kernel
theorem d_method_2_108 : decode method_2_code 108 = .ok (.iload_n 1, 1) := by decide +kernel
theorem d_method_2_109 : decode method_2_code 109 = .ok (.if_icmp .ge 15, 3) := by decide +kernel
theorem d_method_2_112 : decode method_2_code 112 = .ok (.aload_n 0, 1) := by decide +kernel
theorem d_method_2_113 : decode method_2_code 113 = .ok (.iload_n 2, 1) := by decide +kernel
theorem d_method_2_114 : decode method_2_code 114 = .ok (.bipush 6, 2) := by decide +kernel
theorem d_method_2_116 : decode method_2_code 116 = .ok (.iadd, 1) := by decide +kernel
theorem d_method_2_117 : decode method_2_code 117 = .ok (.invokestatic 7, 3) := by decide +kernel
theorem d_method_2_120 : decode method_2_code 120 = .ok (.invokevirtual 13, 3) := by decide +kernel
theorem d_method_2_123 : decode method_2_code 123 = .ok (.pop, 1) := by decide +kernel
theorem d_method_2_124 : decode method_2_code 124 = .ok (.iload_n 2, 1) := by decide +kernel
theorem d_method_2_125 : decode method_2_code 125 = .ok (.bipush 7, 2) := by decide +kernel
theorem d_method_2_127 : decode method_2_code 127 = .ok (.iadd, 1) := by decide +kernel
theorem d_method_2_128 : decode method_2_code 128 = .ok (.iload_n 1, 1) := by decide +kernel
theorem d_method_2_129 : decode method_2_code 129 = .ok (.if_icmp .ge 15, 3) := by decide +kernel
theorem d_method_2_132 : decode method_2_code 132 = .ok (.aload_n 0, 1) := by decide +kernel
theorem d_method_2_133 : decode method_2_code 133 = .ok (.iload_n 2, 1) := by decide +kernel
theorem d_method_2_134 : decode method_2_code 134 = .ok (.bipush 7, 2) := by decide +kernel
theorem d_method_2_136 : decode method_2_code 136 = .ok (.iadd, 1) := by decide +kernel
theorem d_method_2_137 : decode method_2_code 137 = .ok (.invokestatic 7, 3) := by decide +kernel
theorem d_method_2_140 : decode method_2_code 140 = .ok (.invokevirtual 13, 3) := by decide +kernel
theorem d_method_2_143 : decode method_2_code 143 = .ok (.pop, 1) := by decide +kernel
theorem d_method_2_144 : decode method_2_code 144 = .ok (.return_, 1) := by decide +kernel
theorem d_prog_12_method_2_0 : decode prog_12_method_2_code 0 = .ok (.new 7, 3) := by decide +kernel
theorem d_prog_12_method_2_3 : decode prog_12_method_2_code 3 = .ok (.dup, 1) := by decide +kernel
theorem d_prog_12_method_2_4 : decode prog_12_method_2_code 4 = .ok (.invokespecial 9, 3) := by decide +kernel
theorem d_prog_12_method_2_7 : decode prog_12_method_2_code 7 = .ok (.astore_n 1, 1) := by decide +kernel
theorem d_prog_12_method_2_8 : decode prog_12_method_2_code 8 = .ok (.iconst 0, 1) := by decide +kernel
theorem d_prog_12_method_2_9 : decode prog_12_method_2_code 9 = .ok (.istore_n 2, 1) := by decide +kernel
theorem d_prog_12_method_2_10 : decode prog_12_method_2_code 10 = .ok (.aload_n 1, 1) := by decide +kernel
theorem d_prog_12_method_2_11 : decode prog_12_method_2_code 11 = .ok (.aload_n 0, 1) := by decide +kernel
theorem d_prog_12_method_2_12 : decode prog_12_method_2_code 12 = .ok (.iload_n 2, 1) := by decide +kernel
theorem d_prog_12_method_2_13 : decode prog_12_method_2_code 13 = .ok (.iload_n 2, 1) := by decide +kernel
theorem d_prog_12_method_2_14 : decode prog_12_method_2_code 14 = .ok (.bipush 20, 2) := by decide +kernel
theorem d_prog_12_method_2_16 : decode prog_12_method_2_code 16 = .ok (.iadd, 1) := by decide +kernel
theorem d_prog_12_method_2_17 : decode prog_12_method_2_code 17 = .ok (.aload_n 0, 1) := by decide +kernel
theorem d_prog_12_method_2_18 : decode prog_12_method_2_code 18 = .ok (.invokeinterface 12 1, 5) := by decide +kernel
theorem d_prog_12_method_2_23 : decode prog_12_method_2_code 23 = .ok (.invokestatic 18, 3) := by decide +kernel
theorem d_prog_12_method_2_26 : decode prog_12_method_2_code 26 = .ok (.invokeinterface 24 3, 5) := by decide +kernel
theorem d_prog_12_method_2_31 : decode prog_12_method_2_code 31 = .ok (.invokeinterface 28 2, 5) := by decide +kernel
theorem d_prog_12_method_2_36 : decode prog_12_method_2_code 36 = .ok (.pop, 1) := by decide +kernel
theorem d_prog_12_method_2_37 : decode prog_12_method_2_code 37 = .ok (.iinc 2 20, 3) := by decide +kernel
theorem d_prog_12_method_2_40 : decode prog_12_method_2_code 40 = .ok (.iload_n 2, 1) := by decide +kernel
theorem d_prog_12_method_2_41 : decode prog_12_method_2_code 41 = .ok (.aload_n 0, 1) := by decide +kernel
theorem d_prog_12_method_2_42 : decode prog_12_method_2_code 42 = .ok (.invokeinterface 12 1, 5) := by decide +kernel
theorem d_prog_12_method_2_47 : decode prog_12_method_2_code 47 = .ok (.if_icmp .lt (-37), 3) := by decide +kernel
theorem d_prog_12_method_2_50 : decode prog_12_method_2_code 50 = .ok (.aload_n 1, 1) := by decide +kernel
theorem d_prog_12_method_2_51 : decode prog_12_method_2_code 51 = .ok (.areturn, 1) := by decide +kernel
theorem d_jdk_38_method_8_0 : decode jdk_38_method_8_code 0 = .ok (.aload_n 0, 1) := by decide +kernel
theorem d_jdk_38_method_8_1 : decode jdk_38_method_8_code 1 = .ok (.getfield 48, 3) := by decide +kernel
theorem d_jdk_38_method_8_4 : decode jdk_38_method_8_code 4 = .ok (.ireturn, 1) := by decide +kernel
theorem d_jdk_29_method_69_0 : decode jdk_29_method_69_code 0 = .ok (.iload_n 0, 1) := by decide +kernel
theorem d_jdk_29_method_69_1 : decode jdk_29_method_69_code 1 = .ok (.iload_n 1, 1) := by decide +kernel
theorem d_jdk_29_method_69_2 : decode jdk_29_method_69_code 2 = .ok (.if_icmp .gt 7, 3) := by decide +kernel
theorem d_jdk_29_method_69_5 : decode jdk_29_method_69_code 5 = .ok (.iload_n 0, 1) := by decide +kernel
theorem d_jdk_29_method_69_6 : decode jdk_29_method_69_code 6 = .ok (.goto 4, 3) := by decide +kernel
theorem d_jdk_29_method_69_9 : decode jdk_29_method_69_code 9 = .ok (.iload_n 1, 1) := by decide +kernel
theorem d_jdk_29_method_69_10 : decode jdk_29_method_69_code 10 = .ok (.ireturn, 1) := by decide +kernel
theorem d_jdk_38_method_56_0 : decode jdk_38_method_56_code 0 = .ok (.iload_n 1, 1) := by decide +kernel
theorem d_jdk_38_method_56_1 : decode jdk_38_method_56_code 1 = .ok (.iload_n 2, 1) := by decide +kernel
theorem d_jdk_38_method_56_2 : decode jdk_38_method_56_code 2 = .ok (.aload_n 0, 1) := by decide +kernel
theorem d_jdk_38_method_56_3 : decode jdk_38_method_56_code 3 = .ok (.getfield 48, 3) := by decide +kernel
theorem d_jdk_38_method_56_6 : decode jdk_38_method_56_code 6 = .ok (.invokestatic 272, 3) := by decide +kernel
theorem d_jdk_38_method_56_9 : decode jdk_38_method_56_code 9 = .ok (.new 276, 3) := by decide +kernel
theorem d_jdk_38_method_56_12 : decode jdk_38_method_56_code 12 = .ok (.dup, 1) := by decide +kernel
theorem d_jdk_38_method_56_13 : decode jdk_38_method_56_code 13 = .ok (.aload_n 0, 1) := by decide +kernel
theorem d_jdk_38_method_56_14 : decode jdk_38_method_56_code 14 = .ok (.iload_n 1, 1) := by decide +kernel
theorem d_jdk_38_method_56_15 : decode jdk_38_method_56_code 15 = .ok (.iload_n 2, 1) := by decide +kernel
theorem d_jdk_38_method_56_16 : decode jdk_38_method_56_code 16 = .ok (.invokespecial 278, 3) := by decide +kernel
theorem d_jdk_38_method_56_19 : decode jdk_38_method_56_code 19 = .ok (.areturn, 1) := by decide +kernel
theorem d_jdk_39_method_15_0 : decode jdk_39_method_15_code 0 = .ok (.iload_n 0, 1) := by decide +kernel
theorem d_jdk_39_method_15_1 : decode jdk_39_method_15_code 1 = .ok (.ifCond .ge 30, 3) := by decide +kernel
theorem d_jdk_39_method_15_31 : decode jdk_39_method_15_code 31 = .ok (.iload_n 1, 1) := by decide +kernel
theorem d_jdk_39_method_15_32 : decode jdk_39_method_15_code 32 = .ok (.iload_n 2, 1) := by decide +kernel
theorem d_jdk_39_method_15_33 : decode jdk_39_method_15_code 33 = .ok (.if_icmp .le 30, 3) := by decide +kernel
theorem d_jdk_39_method_15_63 : decode jdk_39_method_15_code 63 = .ok (.iload_n 0, 1) := by decide +kernel
theorem d_jdk_39_method_15_64 : decode jdk_39_method_15_code 64 = .ok (.iload_n 1, 1) := by decide +kernel
theorem d_jdk_39_method_15_65 : decode jdk_39_method_15_code 65 = .ok (.if_icmp .le 44, 3) := by decide +kernel
theorem d_jdk_39_method_15_109 : decode jdk_39_method_15_code 109 = .ok (.return_, 1) := by decide +kernel
theorem d_jdk_130_method_1_0 : decode jdk_130_method_1_code 0 = .ok (.aload_n 0, 1) := by decide +kernel
theorem d_jdk_130_method_1_1 : decode jdk_130_method_1_code 1 = .ok (.invokespecial 1, 3) := by decide +kernel
theorem d_jdk_130_method_1_4 : decode jdk_130_method_1_code 4 = .ok (.aload_n 0, 1) := by decide +kernel
theorem d_jdk_130_method_1_5 : decode jdk_130_method_1_code 5 = .ok (.aload_n 1, 1) := by decide +kernel
theorem d_jdk_130_method_1_6 : decode jdk_130_method_1_code 6 = .ok (.putfield 7, 3) := by decide +kernel
theorem d_jdk_130_method_1_9 : decode jdk_130_method_1_code 9 = .ok (.aload_n 0, 1) := by decide +kernel
theorem d_jdk_130_method_1_10 : decode jdk_130_method_1_code 10 = .ok (.aconst_null, 1) := by decide +kernel
theorem d_jdk_130_method_1_11 : decode jdk_130_method_1_code 11 = .ok (.putfield 13, 3) := by decide +kernel
theorem d_jdk_130_method_1_14 : decode jdk_130_method_1_code 14 = .ok (.aload_n 0, 1) := by decide +kernel
theorem d_jdk_130_method_1_15 : decode jdk_130_method_1_code 15 = .ok (.iload_n 2, 1) := by decide +kernel
theorem d_jdk_130_method_1_16 : decode jdk_130_method_1_code 16 = .ok (.putfield 17, 3) := by decide +kernel
theorem d_jdk_130_method_1_19 : decode jdk_130_method_1_code 19 = .ok (.aload_n 0, 1) := by decide +kernel
theorem d_jdk_130_method_1_20 : decode jdk_130_method_1_code 20 = .ok (.iload_n 3, 1) := by decide +kernel
theorem d_jdk_130_method_1_21 : decode jdk_130_method_1_code 21 = .ok (.iload_n 2, 1) := by decide +kernel
theorem d_jdk_130_method_1_22 : decode jdk_130_method_1_code 22 = .ok (.isub, 1) := by decide +kernel
theorem d_jdk_130_method_1_23 : decode jdk_130_method_1_code 23 = .ok (.putfield 21, 3) := by decide +kernel
theorem d_jdk_130_method_1_26 : decode jdk_130_method_1_code 26 = .ok (.aload_n 0, 1) := by decide +kernel
theorem d_jdk_130_method_1_27 : decode jdk_130_method_1_code 27 = .ok (.aload_n 1, 1) := by decide +kernel
theorem d_jdk_130_method_1_28 : decode jdk_130_method_1_code 28 = .ok (.getfield 24, 3) := by decide +kernel
theorem d_jdk_130_method_1_31 : decode jdk_130_method_1_code 31 = .ok (.putfield 29, 3) := by decide +kernel
theorem d_jdk_130_method_1_34 : decode jdk_130_method_1_code 34 = .ok (.return_, 1) := by decide +kernel
theorem d_jdk_38_method_25_0 : decode jdk_38_method_25_code 0 = .ok (.aload_n 0, 1) := by decide +kernel
theorem d_jdk_38_method_25_1 : decode jdk_38_method_25_code 1 = .ok (.dup, 1) := by decide +kernel
theorem d_jdk_38_method_25_2 : decode jdk_38_method_25_code 2 = .ok (.getfield 63, 3) := by decide +kernel
theorem d_jdk_38_method_25_5 : decode jdk_38_method_25_code 5 = .ok (.iconst 1, 1) := by decide +kernel
theorem d_jdk_38_method_25_6 : decode jdk_38_method_25_code 6 = .ok (.iadd, 1) := by decide +kernel
theorem d_jdk_38_method_25_7 : decode jdk_38_method_25_code 7 = .ok (.putfield 63, 3) := by decide +kernel
theorem d_jdk_38_method_25_10 : decode jdk_38_method_25_code 10 = .ok (.aload_n 0, 1) := by decide +kernel
theorem d_jdk_38_method_25_11 : decode jdk_38_method_25_code 11 = .ok (.aload_n 1, 1) := by decide +kernel
theorem d_jdk_38_method_25_12 : decode jdk_38_method_25_code 12 = .ok (.aload_n 0, 1) := by decide +kernel
theorem d_jdk_38_method_25_13 : decode jdk_38_method_25_code 13 = .ok (.getfield 9, 3) := by decide +kernel
theorem d_jdk_38_method_25_16 : decode jdk_38_method_25_code 16 = .ok (.aload_n 0, 1) := by decide +kernel
theorem d_jdk_38_method_25_17 : decode jdk_38_method_25_code 17 = .ok (.getfield 48, 3) := by decide +kernel
theorem d_jdk_38_method_25_20 : decode jdk_38_method_25_code 20 = .ok (.invokevirtual 131, 3) := by decide +kernel
theorem d_jdk_38_method_25_23 : decode jdk_38_method_25_code 23 = .ok (.iconst 1, 1) := by decide +kernel
theorem d_jdk_38_method_25_24 : decode jdk_38_method_25_code 24 = .ok (.ireturn, 1) := by decide +kernel
theorem d_jdk_38_method_24_0 : decode jdk_38_method_24_code 0 = .ok (.iload_n 3, 1) := by decide +kernel
theorem d_jdk_38_method_24_1 : decode jdk_38_method_24_code 1 = .ok (.aload_n 2, 1) := by decide +kernel
theorem d_jdk_38_method_24_2 : decode jdk_38_method_24_code 2 = .ok (.arraylength, 1) := by decide +kernel
theorem d_jdk_38_method_24_3 : decode jdk_38_method_24_code 3 = .ok (.if_icmp .ne 8, 3) := by decide +kernel
theorem d_jdk_38_method_24_6 : decode jdk_38_method_24_code 6 = .ok (.aload_n 0, 1) := by decide +kernel
theorem d_jdk_38_method_24_7 : decode jdk_38_method_24_code 7 = .ok (.invokevirtual 129, 3) := by decide +kernel
theorem d_jdk_38_method_24_10 : decode jdk_38_method_24_code 10 = .ok (.astore_n 2, 1) := by decide +kernel
theorem d_jdk_38_method_24_11 : decode jdk_38_method_24_code 11 = .ok (.aload_n 2, 1) := by decide +kernel
theorem d_jdk_38_method_24_12 : decode jdk_38_method_24_code 12 = .ok (.iload_n 3, 1) := by decide +kernel
theorem d_jdk_38_method_24_13 : decode jdk_38_method_24_code 13 = .ok (.aload_n 1, 1) := by decide +kernel
theorem d_jdk_38_method_24_14 : decode jdk_38_method_24_code 14 = .ok (.aastore, 1) := by decide +kernel
theorem d_jdk_38_method_24_15 : decode jdk_38_method_24_code 15 = .ok (.aload_n 0, 1) := by decide +kernel
theorem d_jdk_38_method_24_16 : decode jdk_38_method_24_code 16 = .ok (.iload_n 3, 1) := by decide +kernel
theorem d_jdk_38_method_24_17 : decode jdk_38_method_24_code 17 = .ok (.iconst 1, 1) := by decide +kernel
theorem d_jdk_38_method_24_18 : decode jdk_38_method_24_code 18 = .ok (.iadd, 1) := by decide +kernel
theorem d_jdk_38_method_24_19 : decode jdk_38_method_24_code 19 = .ok (.putfield 48, 3) := by decide +kernel
theorem d_jdk_38_method_24_22 : decode jdk_38_method_24_code 22 = .ok (.return_, 1) := by decide +kernel
theorem d_jdk_38_method_7_0 : decode jdk_38_method_7_code 0 = .ok (.aload_n 0, 1) := by decide +kernel
theorem d_jdk_38_method_7_1 : decode jdk_38_method_7_code 1 = .ok (.aload_n 0, 1) := by decide +kernel
theorem d_jdk_38_method_7_2 : decode jdk_38_method_7_code 2 = .ok (.getfield 48, 3) := by decide +kernel
theorem d_jdk_38_method_7_5 : decode jdk_38_method_7_code 5 = .ok (.iconst 1, 1) := by decide +kernel
theorem d_jdk_38_method_7_6 : decode jdk_38_method_7_code 6 = .ok (.iadd, 1) := by decide +kernel
theorem d_jdk_38_method_7_7 : decode jdk_38_method_7_code 7 = .ok (.invokevirtual 69, 3) := by decide +kernel
theorem d_jdk_38_method_7_10 : decode jdk_38_method_7_code 10 = .ok (.areturn, 1) := by decide +kernel
theorem d_jdk_38_method_6_0 : decode jdk_38_method_6_code 0 = .ok (.aload_n 0, 1) := by decide +kernel
theorem d_jdk_38_method_6_1 : decode jdk_38_method_6_code 1 = .ok (.getfield 9, 3) := by decide +kernel
theorem d_jdk_38_method_6_4 : decode jdk_38_method_6_code 4 = .ok (.arraylength, 1) := by decide +kernel
theorem d_jdk_38_method_6_5 : decode jdk_38_method_6_code 5 = .ok (.istore_n 2, 1) := by decide +kernel
theorem d_jdk_38_method_6_6 : decode jdk_38_method_6_code 6 = .ok (.iload_n 2, 1) := by decide +kernel
theorem d_jdk_38_method_6_7 : decode jdk_38_method_6_code 7 = .ok (.ifCond .gt 13, 3) := by decide +kernel
theorem d_jdk_38_method_6_10 : decode jdk_38_method_6_code 10 = .ok (.aload_n 0, 1) := by decide +kernel
theorem d_jdk_38_method_6_11 : decode jdk_38_method_6_code 11 = .ok (.getfield 9, 3) := by decide +kernel
theorem d_jdk_38_method_6_14 : decode jdk_38_method_6_code 14 = .ok (.getstatic 39, 3) := by decide +kernel
theorem d_jdk_38_method_6_17 : decode jdk_38_method_6_code 17 = .ok (.if_acmp .eq 28, 3) := by decide +kernel
theorem d_jdk_38_method_6_20 : decode jdk_38_method_6_code 20 = .ok (.iload_n 2, 1) := by decide +kernel
theorem d_jdk_38_method_6_21 : decode jdk_38_method_6_code 21 = .ok (.iload_n 1, 1) := by decide +kernel
theorem d_jdk_38_method_6_22 : decode jdk_38_method_6_code 22 = .ok (.iload_n 2, 1) := by decide +kernel
theorem d_jdk_38_method_6_23 : decode jdk_38_method_6_code 23 = .ok (.isub, 1) := by decide +kernel
theorem d_jdk_38_method_6_24 : decode jdk_38_method_6_code 24 = .ok (.iload_n 2, 1) := by decide +kernel
theorem d_jdk_38_method_6_25 : decode jdk_38_method_6_code 25 = .ok (.iconst 1, 1) := by decide +kernel
theorem d_jdk_38_method_6_26 : decode jdk_38_method_6_code 26 = .ok (.ishr, 1) := by decide +kernel
theorem d_jdk_38_method_6_27 : decode jdk_38_method_6_code 27 = .ok (.invokestatic 73, 3) := by decide +kernel
theorem d_jdk_38_method_6_30 : decode jdk_38_method_6_code 30 = .ok (.istore_n 3, 1) := by decide +kernel
theorem d_jdk_38_method_6_31 : decode jdk_38_method_6_code 31 = .ok (.aload_n 0, 1) := by decide +kernel
theorem d_jdk_38_method_6_32 : decode jdk_38_method_6_code 32 = .ok (.aload_n 0, 1) := by decide +kernel
theorem d_jdk_38_method_6_33 : decode jdk_38_method_6_code 33 = .ok (.getfield 9, 3) := by decide +kernel
theorem d_jdk_38_method_6_36 : decode jdk_38_method_6_code 36 = .ok (.iload_n 3, 1) := by decide +kernel
theorem d_jdk_38_method_6_37 : decode jdk_38_method_6_code 37 = .ok (.invokestatic 66, 3) := by decide +kernel
theorem d_jdk_38_method_6_40 : decode jdk_38_method_6_code 40 = .ok (.dup_x1, 1) := by decide +kernel
theorem d_jdk_38_method_6_41 : decode jdk_38_method_6_code 41 = .ok (.putfield 9, 3) := by decide +kernel
theorem d_jdk_38_method_6_44 : decode jdk_38_method_6_code 44 = .ok (.areturn, 1) := by decide +kernel
theorem d_jdk_38_method_6_45 : decode jdk_38_method_6_code 45 = .ok (.aload_n 0, 1) := by decide +kernel
theorem d_jdk_38_method_6_46 : decode jdk_38_method_6_code 46 = .ok (.bipush 10, 2) := by decide +kernel
theorem d_jdk_38_method_6_48 : decode jdk_38_method_6_code 48 = .ok (.iload_n 1, 1) := by decide +kernel
theorem d_jdk_38_method_6_49 : decode jdk_38_method_6_code 49 = .ok (.invokestatic 79, 3) := by decide +kernel
theorem d_jdk_38_method_6_52 : decode jdk_38_method_6_code 52 = .ok (.anewarray 7, 3) := by decide +kernel
theorem d_jdk_38_method_6_55 : decode jdk_38_method_6_code 55 = .ok (.dup_x1, 1) := by decide +kernel
theorem d_jdk_38_method_6_56 : decode jdk_38_method_6_code 56 = .ok (.putfield 9, 3) := by decide +kernel
theorem d_jdk_38_method_6_59 : decode jdk_38_method_6_code 59 = .ok (.areturn, 1) := by decide +kernel
theorem d_jdk_29_method_65_0 : decode jdk_29_method_65_code 0 = .ok (.iload_n 0, 1) := by decide +kernel
theorem d_jdk_29_method_65_1 : decode jdk_29_method_65_code 1 = .ok (.iload_n 1, 1) := by decide +kernel
theorem d_jdk_29_method_65_2 : decode jdk_29_method_65_code 2 = .ok (.if_icmp .lt 7, 3) := by decide +kernel
theorem d_jdk_29_method_65_5 : decode jdk_29_method_65_code 5 = .ok (.iload_n 0, 1) := by decide +kernel
theorem d_jdk_29_method_65_6 : decode jdk_29_method_65_code 6 = .ok (.goto 4, 3) := by decide +kernel
theorem d_jdk_29_method_65_9 : decode jdk_29_method_65_code 9 = .ok (.iload_n 1, 1) := by decide +kernel
theorem d_jdk_29_method_65_10 : decode jdk_29_method_65_code 10 = .ok (.ireturn, 1) := by decide +kernel
theorem d_jdk_38_method_20_0 : decode jdk_38_method_20_code 0 = .ok (.iload_n 1, 1) := by decide +kernel
theorem d_jdk_38_method_20_1 : decode jdk_38_method_20_code 1 = .ok (.aload_n 0, 1) := by decide +kernel
theorem d_jdk_38_method_20_2 : decode jdk_38_method_20_code 2 = .ok (.getfield 48, 3) := by decide +kernel
theorem d_jdk_38_method_20_5 : decode jdk_38_method_20_code 5 = .ok (.invokestatic 118, 3) := by decide +kernel
theorem d_jdk_38_method_20_8 : decode jdk_38_method_20_code 8 = .ok (.pop, 1) := by decide +kernel
theorem d_jdk_38_method_20_9 : decode jdk_38_method_20_code 9 = .ok (.aload_n 0, 1) := by decide +kernel
theorem d_jdk_38_method_20_10 : decode jdk_38_method_20_code 10 = .ok (.iload_n 1, 1) := by decide +kernel
theorem d_jdk_38_method_20_11 : decode jdk_38_method_20_code 11 = .ok (.invokevirtual 123, 3) := by decide +kernel
theorem d_jdk_38_method_20_14 : decode jdk_38_method_20_code 14 = .ok (.areturn, 1) := by decide +kernel
theorem d_jdk_31_method_17_0 : decode jdk_31_method_17_code 0 = .ok (.iload_n 0, 1) := by decide +kernel
theorem d_jdk_31_method_17_1 : decode jdk_31_method_17_code 1 = .ok (.iload_n 1, 1) := by decide +kernel
theorem d_jdk_31_method_17_2 : decode jdk_31_method_17_code 2 = .ok (.aconst_null, 1) := by decide +kernel
theorem d_jdk_31_method_17_3 : decode jdk_31_method_17_code 3 = .ok (.invokestatic 105, 3) := by decide +kernel
theorem d_jdk_31_method_17_6 : decode jdk_31_method_17_code 6 = .ok (.ireturn, 1) := by decide +kernel
theorem d_jdk_41_method_11_0 : decode jdk_41_method_11_code 0 = .ok (.iload_n 0, 1) := by decide +kernel
theorem d_jdk_41_method_11_1 : decode jdk_41_method_11_code 1 = .ok (.ifCond .lt 8, 3) := by decide +kernel
theorem d_jdk_41_method_11_4 : decode jdk_41_method_11_code 4 = .ok (.iload_n 0, 1) := by decide +kernel
theorem d_jdk_41_method_11_5 : decode jdk_41_method_11_code 5 = .ok (.iload_n 1, 1) := by decide +kernel
theorem d_jdk_41_method_11_6 : decode jdk_41_method_11_code 6 = .ok (.if_icmp .lt 10, 3) := by decide +kernel
theorem d_jdk_41_method_11_16 : decode jdk_41_method_11_code 16 = .ok (.iload_n 0, 1) := by decide +kernel
theorem d_jdk_41_method_11_17 : decode jdk_41_method_11_code 17 = .ok (.ireturn, 1) := by decide +kernel
theorem d_jdk_38_method_18_0 : decode jdk_38_method_18_code 0 = .ok (.aload_n 0, 1) := by decide +kernel
theorem d_jdk_38_method_18_1 : decode jdk_38_method_18_code 1 = .ok (.getfield 9, 3) := by decide +kernel
theorem d_jdk_38_method_18_4 : decode jdk_38_method_18_code 4 = .ok (.iload_n 1, 1) := by decide +kernel
theorem d_jdk_38_method_18_5 : decode jdk_38_method_18_code 5 = .ok (.aaload, 1) := by decide +kernel
theorem d_jdk_38_method_18_6 : decode jdk_38_method_18_code 6 = .ok (.areturn, 1) := by decide +kernel
theorem d_jdk_130_method_5_0 : decode jdk_130_method_5_code 0 = .ok (.aload_n 0, 1) := by decide +kernel
theorem d_jdk_130_method_5_1 : decode jdk_130_method_5_code 1 = .ok (.invokevirtual 36, 3) := by decide +kernel
theorem d_jdk_130_method_5_4 : decode jdk_130_method_5_code 4 = .ok (.aload_n 0, 1) := by decide +kernel
theorem d_jdk_130_method_5_5 : decode jdk_130_method_5_code 5 = .ok (.getfield 21, 3) := by decide +kernel
theorem d_jdk_130_method_5_8 : decode jdk_130_method_5_code 8 = .ok (.ireturn, 1) := by decide +kernel
theorem d_jdk_130_method_28_0 : decode jdk_130_method_28_code 0 = .ok (.aload_n 0, 1) := by decide +kernel
theorem d_jdk_130_method_28_1 : decode jdk_130_method_28_code 1 = .ok (.getfield 7, 3) := by decide +kernel
theorem d_jdk_130_method_28_4 : decode jdk_130_method_28_code 4 = .ok (.getfield 24, 3) := by decide +kernel
theorem d_jdk_130_method_28_7 : decode jdk_130_method_28_code 7 = .ok (.aload_n 0, 1) := by decide +kernel
theorem d_jdk_130_method_28_8 : decode jdk_130_method_28_code 8 = .ok (.getfield 29, 3) := by decide +kernel
theorem d_jdk_130_method_28_11 : decode jdk_130_method_28_code 11 = .ok (.if_icmp .eq 11, 3) := by decide +kernel
theorem d_jdk_130_method_28_22 : decode jdk_130_method_28_code 22 = .ok (.return_, 1) := by decide +kernel
theorem d_jdk_33_method_22_0 : decode jdk_33_method_22_code 0 = .ok (.iload_n 0, 1) := by decide +kernel
theorem d_jdk_33_method_22_1 : decode jdk_33_method_22_code 1 = .ok (.bipush (-128), 2) := by decide +kernel
theorem d_jdk_33_method_22_3 : decode jdk_33_method_22_code 3 = .ok (.if_icmp .lt 20, 3) := by decide +kernel
theorem d_jdk_33_method_22_6 : decode jdk_33_method_22_code 6 = .ok (.iload_n 0, 1) := by decide +kernel
theorem d_jdk_33_method_22_7 : decode jdk_33_method_22_code 7 = .ok (.getstatic 191, 3) := by decide +kernel
theorem d_jdk_33_method_22_10 : decode jdk_33_method_22_code 10 = .ok (.if_icmp .gt 13, 3) := by decide +kernel
theorem d_jdk_33_method_22_13 : decode jdk_33_method_22_code 13 = .ok (.getstatic 195, 3) := by decide +kernel
theorem d_jdk_33_method_22_16 : decode jdk_33_method_22_code 16 = .ok (.iload_n 0, 1) := by decide +kernel
theorem d_jdk_33_method_22_17 : decode jdk_33_method_22_code 17 = .ok (.sipush 128, 3) := by decide +kernel
theorem d_jdk_33_method_22_20 : decode jdk_33_method_22_code 20 = .ok (.iadd, 1) := by decide +kernel
theorem d_jdk_33_method_22_21 : decode jdk_33_method_22_code 21 = .ok (.aaload, 1) := by decide +kernel
theorem d_jdk_33_method_22_22 : decode jdk_33_method_22_code 22 = .ok (.areturn, 1) := by decide +kernel
theorem d_jdk_130_method_4_0 : decode jdk_130_method_4_code 0 = .ok (.iload_n 1, 1) := by decide +kernel
theorem d_jdk_130_method_4_1 : decode jdk_130_method_4_code 1 = .ok (.aload_n 0, 1) := by decide +kernel
theorem d_jdk_130_method_4_2 : decode jdk_130_method_4_code 2 = .ok (.getfield 21, 3) := by decide +kernel
theorem d_jdk_130_method_4_5 : decode jdk_130_method_4_code 5 = .ok (.invokestatic 30, 3) := by decide +kernel
theorem d_jdk_130_method_4_8 : decode jdk_130_method_4_code 8 = .ok (.pop, 1) := by decide +kernel
theorem d_jdk_130_method_4_9 : decode jdk_130_method_4_code 9 = .ok (.aload_n 0, 1) := by decide +kernel
theorem d_jdk_130_method_4_10 : decode jdk_130_method_4_code 10 = .ok (.invokevirtual 36, 3) := by decide +kernel
theorem d_jdk_130_method_4_13 : decode jdk_130_method_4_code 13 = .ok (.aload_n 0, 1) := by decide +kernel
theorem d_jdk_130_method_4_14 : decode jdk_130_method_4_code 14 = .ok (.getfield 7, 3) := by decide +kernel
theorem d_jdk_130_method_4_17 : decode jdk_130_method_4_code 17 = .ok (.aload_n 0, 1) := by decide +kernel
theorem d_jdk_130_method_4_18 : decode jdk_130_method_4_code 18 = .ok (.getfield 17, 3) := by decide +kernel
theorem d_jdk_130_method_4_21 : decode jdk_130_method_4_code 21 = .ok (.iload_n 1, 1) := by decide +kernel
theorem d_jdk_130_method_4_22 : decode jdk_130_method_4_code 22 = .ok (.iadd, 1) := by decide +kernel
theorem d_jdk_130_method_4_23 : decode jdk_130_method_4_code 23 = .ok (.invokevirtual 39, 3) := by decide +kernel
theorem d_jdk_130_method_4_26 : decode jdk_130_method_4_code 26 = .ok (.areturn, 1) := by decide +kernel
theorem d_jdk_33_method_27_0 : decode jdk_33_method_27_code 0 = .ok (.aload_n 0, 1) := by decide +kernel
theorem d_jdk_33_method_27_1 : decode jdk_33_method_27_code 1 = .ok (.getfield 205, 3) := by decide +kernel
theorem d_jdk_33_method_27_4 : decode jdk_33_method_27_code 4 = .ok (.ireturn, 1) := by decide +kernel
theorem d_jdk_48_method_27_0 : decode jdk_48_method_27_code 0 = .ok (.iload_n 0, 1) := by decide +kernel
theorem d_jdk_48_method_27_1 : decode jdk_48_method_27_code 1 = .ok (.iload_n 1, 1) := by decide +kernel
theorem d_jdk_48_method_27_2 : decode jdk_48_method_27_code 2 = .ok (.iload_n 2, 1) := by decide +kernel
theorem d_jdk_48_method_27_3 : decode jdk_48_method_27_code 3 = .ok (.invokestatic 194, 3) := by decide +kernel
theorem d_jdk_48_method_27_6 : decode jdk_48_method_27_code 6 = .ok (.iadd, 1) := by decide +kernel
theorem d_jdk_48_method_27_7 : decode jdk_48_method_27_code 7 = .ok (.istore_n 3, 1) := by decide +kernel
theorem d_jdk_48_method_27_8 : decode jdk_48_method_27_code 8 = .ok (.iconst 0, 1) := by decide +kernel
theorem d_jdk_48_method_27_9 : decode jdk_48_method_27_code 9 = .ok (.iload_n 3, 1) := by decide +kernel
theorem d_jdk_48_method_27_10 : decode jdk_48_method_27_code 10 = .ok (.if_icmp .ge 11, 3) := by decide +kernel
theorem d_jdk_48_method_27_13 : decode jdk_48_method_27_code 13 = .ok (.iload_n 3, 1) := by decide +kernel
theorem d_jdk_48_method_27_14 : decode jdk_48_method_27_code 14 = .ok (.ldc 200, 2) := by decide +kernel
theorem d_jdk_48_method_27_16 : decode jdk_48_method_27_code 16 = .ok (.if_icmp .gt 5, 3) := by decide +kernel
theorem d_jdk_48_method_27_19 : decode jdk_48_method_27_code 19 = .ok (.iload_n 3, 1) := by decide +kernel
theorem d_jdk_48_method_27_20 : decode jdk_48_method_27_code 20 = .ok (.ireturn, 1) := by decide +kernel
theorem d_jdk_65_method_119_0 : decode jdk_65_method_119_code 0 = .ok (.aload_n 0, 1) := by decide +kernel
theorem d_jdk_65_method_119_1 : decode jdk_65_method_119_code 1 = .ok (.iload_n 1, 1) := by decide +kernel
theorem d_jdk_65_method_119_2 : decode jdk_65_method_119_code 2 = .ok (.aload_n 0, 1) := by decide +kernel
theorem d_jdk_65_method_119_3 : decode jdk_65_method_119_code 3 = .ok (.invokevirtual 86, 3) := by decide +kernel
theorem d_jdk_65_method_119_6 : decode jdk_65_method_119_code 6 = .ok (.invokestatic 300, 3) := by decide +kernel
theorem d_jdk_65_method_119_9 : decode jdk_65_method_119_code 9 = .ok (.areturn, 1) := by decide +kernel
theorem d_jdk_65_method_120_0 : decode jdk_65_method_120_code 0 = .ok (.aload_n 2, 1) := by decide +kernel
theorem d_jdk_65_method_120_1 : decode jdk_65_method_120_code 1 = .ok (.ldc 110, 2) := by decide +kernel
theorem d_jdk_65_method_120_3 : decode jdk_65_method_120_code 3 = .ok (.if_acmp .ne 10, 3) := by decide +kernel
theorem d_jdk_65_method_120_6 : decode jdk_65_method_120_code 6 = .ok (.iload_n 1, 1) := by decide +kernel
theorem d_jdk_65_method_120_7 : decode jdk_65_method_120_code 7 = .ok (.anewarray 2, 3) := by decide +kernel
theorem d_jdk_65_method_120_10 : decode jdk_65_method_120_code 10 = .ok (.goto 14, 3) := by decide +kernel
theorem d_jdk_65_method_120_24 : decode jdk_65_method_120_code 24 = .ok (.astore_n 3, 1) := by decide +kernel
theorem d_jdk_65_method_120_25 : decode jdk_65_method_120_code 25 = .ok (.aload_n 0, 1) := by decide +kernel
theorem d_jdk_65_method_120_26 : decode jdk_65_method_120_code 26 = .ok (.iconst 0, 1) := by decide +kernel
theorem d_jdk_65_method_120_27 : decode jdk_65_method_120_code 27 = .ok (.aload_n 3, 1) := by decide +kernel
theorem d_jdk_65_method_120_28 : decode jdk_65_method_120_code 28 = .ok (.iconst 0, 1) := by decide +kernel
theorem d_jdk_65_method_120_29 : decode jdk_65_method_120_code 29 = .ok (.aload_n 0, 1) := by decide +kernel
theorem d_jdk_65_method_120_30 : decode jdk_65_method_120_code 30 = .ok (.arraylength, 1) := by decide +kernel
theorem d_jdk_65_method_120_31 : decode jdk_65_method_120_code 31 = .ok (.iload_n 1, 1) := by decide +kernel
theorem d_jdk_65_method_120_32 : decode jdk_65_method_120_code 32 = .ok (.invokestatic 304, 3) := by decide +kernel
theorem d_jdk_65_method_120_35 : decode jdk_65_method_120_code 35 = .ok (.invokestatic 150, 3) := by decide +kernel
theorem d_jdk_65_method_120_38 : decode jdk_65_method_120_code 38 = .ok (.aload_n 3, 1) := by decide +kernel
theorem d_jdk_65_method_120_39 : decode jdk_65_method_120_code 39 = .ok (.areturn, 1) := by decide +kernel
theorem pn_java_util_ArrayList : plainName "java/util/ArrayList" = true := by first | (simp [plainName, overriddenIn]; done) | decide +kernel
theorem pd___V : parseMethodDescriptor "()V" = some ⟨[], none⟩ := by decide +kernel
theorem pn_java_util_AbstractList : plainName "java/util/AbstractList" = true := by first | (simp [plainName, overriddenIn]; done) | decide +kernel
theorem pn_java_util_AbstractCollection : plainName "java/util/AbstractCollection" = true := by first | (simp [plainName, overriddenIn]; done) | decide +kernel
theorem pn_com_example_presswright_presswright_publishing_PagingPagesPinLaw : plainName "com/example/presswright/presswright/publishing/PagingPagesPinLaw" = true := by first | (simp [plainName, overriddenIn]; done) | decide +kernel
theorem pd__Ljava_util_ArrayList_II_V : parseMethodDescriptor "(Ljava/util/ArrayList;II)V" = some ⟨[(.object "java/util/ArrayList"), .int, .int], none⟩ := by decide +kernel
theorem pd__I_Ljava_lang_Integer_ : parseMethodDescriptor "(I)Ljava/lang/Integer;" = some ⟨[.int], some (.object "java/lang/Integer")⟩ := by decide +kernel
theorem pd__Ljava_lang_Object__Z : parseMethodDescriptor "(Ljava/lang/Object;)Z" = some ⟨[(.object "java/lang/Object")], some .boolean⟩ := by decide +kernel
theorem pn_com_example_presswright_presswright_publishing_Paging : plainName "com/example/presswright/presswright/publishing/Paging" = true := by first | (simp [plainName, overriddenIn]; done) | decide +kernel
theorem pd__Ljava_util_List__Ljava_util_List_ : parseMethodDescriptor "(Ljava/util/List;)Ljava/util/List;" = some ⟨[(.object "java/util/List")], some (.object "java/util/List")⟩ := by decide +kernel
theorem pd___I : parseMethodDescriptor "()I" = some ⟨[], some .int⟩ := by decide +kernel
theorem pd__II_I : parseMethodDescriptor "(II)I" = some ⟨[.int, .int], some .int⟩ := by decide +kernel
theorem pd__II_Ljava_util_List_ : parseMethodDescriptor "(II)Ljava/util/List;" = some ⟨[.int, .int], some (.object "java/util/List")⟩ := by decide +kernel
theorem pd__III_V : parseMethodDescriptor "(III)V" = some ⟨[.int, .int, .int], none⟩ := by decide +kernel
theorem pn_java_util_ArrayList_SubList : plainName "java/util/ArrayList$SubList" = true := by first | (simp [plainName, overriddenIn]; done) | decide +kernel
theorem pd__Ljava_lang_Object__Ljava_lang_Object_I_V : parseMethodDescriptor "(Ljava/lang/Object;[Ljava/lang/Object;I)V" = some ⟨[(.object "java/lang/Object"), (.array (.object "java/lang/Object")), .int], none⟩ := by decide +kernel
theorem pd____Ljava_lang_Object_ : parseMethodDescriptor "()[Ljava/lang/Object;" = some ⟨[], some (.array (.object "java/lang/Object"))⟩ := by decide +kernel
theorem pd__I__Ljava_lang_Object_ : parseMethodDescriptor "(I)[Ljava/lang/Object;" = some ⟨[.int], some (.array (.object "java/lang/Object"))⟩ := by decide +kernel
theorem pd__III_I : parseMethodDescriptor "(III)I" = some ⟨[.int, .int, .int], some .int⟩ := by decide +kernel
theorem pd___Ljava_lang_Object_I__Ljava_lang_Object_ : parseMethodDescriptor "([Ljava/lang/Object;I)[Ljava/lang/Object;" = some ⟨[(.array (.object "java/lang/Object")), .int], some (.array (.object "java/lang/Object"))⟩ := by decide +kernel
theorem pd__I_Ljava_lang_Object_ : parseMethodDescriptor "(I)Ljava/lang/Object;" = some ⟨[.int], some (.object "java/lang/Object")⟩ := by decide +kernel
theorem pn_java_util_Objects : plainName "java/util/Objects" = true := by first | (simp [plainName, overriddenIn]; done) | decide +kernel
theorem pd__IILjava_util_function_BiFunction__I : parseMethodDescriptor "(IILjava/util/function/BiFunction;)I" = some ⟨[.int, .int, (.object "java/util/function/BiFunction")], some .int⟩ := by decide +kernel
theorem pn_jdk_internal_util_Preconditions : plainName "jdk/internal/util/Preconditions" = true := by first | (simp [plainName, overriddenIn]; done) | decide +kernel
theorem pn_java_lang_Integer : plainName "java/lang/Integer" = true := by first | (simp [plainName, overriddenIn]; done) | decide +kernel
theorem pn_jdk_internal_util_ArraysSupport : plainName "jdk/internal/util/ArraysSupport" = true := by first | (simp [plainName, overriddenIn]; done) | decide +kernel
theorem pn_java_util_Arrays : plainName "java/util/Arrays" = true := by first | (simp [plainName, overriddenIn]; done) | decide +kernel
theorem pd___Ljava_lang_Object_ILjava_lang_Class___Ljava_lang_Object_ : parseMethodDescriptor "([Ljava/lang/Object;ILjava/lang/Class;)[Ljava/lang/Object;" = some ⟨[(.array (.object "java/lang/Object")), .int, (.object "java/lang/Class")], some (.array (.object "java/lang/Object"))⟩ := by decide +kernel
theorem own_len {args : Array Value} {s : State} {t : Term} {a : Addr} {c : Cell} {ty : FieldType} {n : Int32} (A : Arr s s.heap a c ty) (et : t.eval args s none [] s = some (.ref a)) (h : (Jvm.Cond.eq (Term.length t) (Term.int n)).value args s none s [] = some true) : c.slots.size < 2 ^ 31 ∧ c.slots.size.toInt32 = n := by
  have e := eqv_i (Term.int_eval n) h
  by_cases q : c.slots.size < 2 ^ 31
  · rw [len_f et (A.fin (Vm.Alike.refl _)) q] at e
    exact ⟨q, by simpa using e⟩
  · simp [Term.eval, et, A.fin (Vm.Alike.refl _), q] at e
theorem own_ix {args : Array Value} {s : State} {j : Int32} (hj : ¬ j < 0) : (Jvm.Term.sub (Jvm.Term.index 0) (Jvm.Term.int 128)).eval args s none [j.toNatClampNeg] s = some (.int (j - 128)) := by
  have q := (back32 hj).1
  simp [Term.eval, q]
def capI (c : Int32) : Int32 := if c ≤ 10 then 10 else if c ≤ 15 then 15 else if c ≤ 22 then 22 else if c ≤ 33 then 33 else if c ≤ 49 then 49 else 73
def mn (x y : Int32) : Int32 := if x < y then x else y
def mi (x y : Int32) : Int32 := if y < x then y else x
def exP (n : Int32) : Int32 := if n = 0 then 1 else (n + 19) / 20
def Bxl (Z : State) (vs : List Value) (c : Int32) : Prop := ∀ i : Nat, i < c.toNatClampNeg → ∃ b : Addr, vs.getD i .null = .ref b ∧ Exa Z Z.heap b "java/lang/Integer" ∧ Fld Z Z.heap b "java/lang/Integer" "value" "I" (.int (Int32.ofNat i))
def LI (Z : State) (h : Heap) (a de : Addr) (c : Int32) : Prop := Exa Z h a "java/util/ArrayList" ∧ Fld Z h a "java/util/ArrayList" "size" "I" (.int c) ∧ Fld Z h a "java/util/AbstractList" "modCount" "I" (.int c) ∧ ((c = 0 ∧ Fld Z h a "java/util/ArrayList" "elementData" "[Ljava/lang/Object;" (.ref de)) ∨ (0 < c ∧ ∃ (ea : Addr) (kA : ClassId) (vs : List Value), Fld Z h a "java/util/ArrayList" "elementData" "[Ljava/lang/Object;" (.ref ea) ∧ Arv Z h ea kA (.object "java/lang/Object") (capI c) vs .null ∧ vs.length = (capI c).toNatClampNeg ∧ Ovr Z kA "java/lang/Object" ∧ Exa Z h ea "[Ljava/lang/Object;" ∧ Z.heap.size ≤ ea ∧ (¬ @Eq Nat ea a) ∧ Bxl Z vs c))
theorem LI.mk {Z : State} {h : Heap} {a de ea : Addr} {kA : ClassId} {vs : List Value} {c cap : Int32} (hc : capI c = cap) (h0 : 0 < c) (E : Exa Z h a "java/util/ArrayList") (Fs : Fld Z h a "java/util/ArrayList" "size" "I" (.int c)) (Fe : Fld Z h a "java/util/ArrayList" "elementData" "[Ljava/lang/Object;" (.ref ea)) (Fm : Fld Z h a "java/util/AbstractList" "modCount" "I" (.int c)) (A : Arv Z h ea kA (.object "java/lang/Object") cap vs .null) (vl : vs.length = cap.toNatClampNeg) (O : Ovr Z kA "java/lang/Object") (X : Exa Z h ea "[Ljava/lang/Object;") (g : Z.heap.size ≤ ea) (ne : ¬ @Eq Nat ea a) (bx : Bxl Z vs c) : LI Z h a de c := by
  subst hc; exact ⟨E, Fs, Fm, Or.inr ⟨h0, ea, kA, vs, Fe, A, vl, O, X, g, ne, bx⟩⟩
theorem LI.keep {Z : State} {h h' : Heap} {a de : Addr} {c : Int32} (F : LI Z h a de c) (K : Keep h h' []) : LI Z h' a de c := by
  obtain ⟨E, Fs, Fm, ⟨q, Fe⟩ | ⟨h0, ea, kA, vs, Fe, A, vl, O, X, r⟩⟩ := F
  · exact ⟨E.keep K, Fs.keep K nin0, Fm.keep K nin0, Or.inl ⟨q, Fe.keep K nin0⟩⟩
  · exact ⟨E.keep K, Fs.keep K nin0, Fm.keep K nin0, Or.inr ⟨h0, ea, kA, vs, Fe.keep K nin0, A.keep K nin0, vl, O, X.keep K, r⟩⟩
theorem Bxl.nil {Z : State} {vs : List Value} : Bxl Z vs 0 := fun i hi => by
  have : (0 : Int32).toNatClampNeg = 0 := by decide
  omega
theorem Bxl.agree {Z : State} {vs vs' : List Value} {c : Int32} (F : Bxl Z vs c) (h : ∀ i, i < c.toNatClampNeg → vs'.getD i .null = vs.getD i .null) : Bxl Z vs' c := fun i hi => by
  rw [h i hi]; exact F i hi
theorem Bxl.push {Z : State} {vs : List Value} {n n2 : Int32} {b : Addr} (F : Bxl Z vs n) (hl : n.toNatClampNeg < vs.length) (hn : ¬ n < 0) (h2 : n2.toNatClampNeg = n.toNatClampNeg + 1) (E : Exa Z Z.heap b "java/lang/Integer") (V : Fld Z Z.heap b "java/lang/Integer" "value" "I" (.int n)) : Bxl Z (vs.set n.toNatClampNeg (.ref b)) n2 := fun i hi => by
  by_cases q : i = n.toNatClampNeg
  · subst q
    refine ⟨b, by simp [List.getD_eq_getElem?_getD, hl], E, ?_⟩
    have e : Int32.ofNat n.toNatClampNeg = n := (back32 hn).1
    rw [e]; exact V
  · obtain ⟨y, e, r⟩ := F i (by omega)
    refine ⟨y, ?_, r⟩
    rw [← e]; simp [List.getD_eq_getElem?_getD, List.getElem?_set, Ne.symm q]
theorem own_mn1 {i n : Int32} (h : i < n) : mn i n = i := if_pos h
theorem own_mn2 {i j n : Int32} (h : i < n) (hj : i + 1 = j) (hi : ¬ i < 0 ∧ i < 100) : mn j n = j := by
  have a := c_iadd i 1; rw [hj] at a; have r := rng32 j
  unfold mn; split
  · rfl
  · rename_i q
    rw [← Int32.toInt_inj]; simp only [Int32.lt_iff_toInt_lt, Int32.reduceToInt] at *; omega
theorem own_mn3 {i j n : Int32} (h : ¬ i < n) (hj : i < j) : mn i n = mn j n := by
  have q : ¬ j < n := by simp only [Int32.lt_iff_toInt_lt] at *; omega
  unfold mn; rw [if_neg h, if_neg q]
theorem own_gro (vs : List Value) (k m : Nat) (hk : k ≤ m) : ((List.replicate m Value.null).take 0 ++ (List.range k).map (fun i => vs.getD (0 + i) .null) ++ (List.replicate m Value.null).drop (0 + k)).length = m ∧ ∀ i, i < k → ((List.replicate m Value.null).take 0 ++ (List.range k).map (fun i => vs.getD (0 + i) .null) ++ (List.replicate m Value.null).drop (0 + k)).getD i .null = vs.getD i .null := by
  refine ⟨by simp; omega, fun i hi => ?_⟩
  simp only [List.take_zero, List.nil_append, List.getD_eq_getElem?_getD]
  rw [List.getElem?_append_left (by simpa using hi)]
  simp [hi]
theorem own_stoL {Z : State} {h : Heap} {a : Addr} : ∀ us : List Value, (∀ v ∈ us, Sto Z h a v) → StoL Z h a us
  | [], _ => trivial
  | v :: r, H => ⟨H v (by simp), own_stoL r fun x hx => H x (by simp [hx])⟩
theorem own_stos {Z : State} {h : Heap} {b : Addr} {kB : ClassId} {z : Int32} {vb vs : List Value} {k : Nat} {a0 : Array Value} (A : Arv Z h b kB (.object "java/lang/Object") z vb .null) (O : Ovr Z kB "java/lang/Object") (Ol : Ext Z.heap h) (w : (Cond.castable "java/lang/Integer" "java/lang/Object").before a0 Z = true) (bx : ∀ i : Nat, i < k → ∃ y : Addr, vs.getD i .null = .ref y ∧ Exa Z Z.heap y "java/lang/Integer") : StoL Z h b ((List.range k).map fun i => vs.getD (0 + i) .null) := by
  refine own_stoL _ fun v hv => ?_
  obtain ⟨i, hi, rfl⟩ := List.mem_map.mp hv
  obtain ⟨y, e, E⟩ := bx i (List.mem_range.mp hi)
  obtain ⟨cl, Ar, q, -⟩ := A
  rw [Nat.zero_add, e]
  exact Sto.ofV Ar q O (Ins.of_exa (E.ext Ol) w)
theorem own_all64 {P : Int32 → Prop} (h : ∀ k : Fin 64, P (Int32.ofNat k)) {n : Int32} (h0 : ¬ n < 0) (h1 : n < 64) : P n := by
  have e := (back32 h0).1
  have q : n.toNatClampNeg < 64 := by simp only [Int32.lt_iff_toInt_lt, Int32.reduceToInt, Int32.toNatClampNeg] at *; omega
  have := h ⟨n.toNatClampNeg, q⟩
  rwa [show Int32.ofNat (⟨n.toNatClampNeg, q⟩ : Fin 64).val = n from e] at this
theorem own_n63 (x : Int32) : ¬ (x &&& 63) < 0 ∧ (x &&& 63) < 64 := by
  have q := c_and x 63 (by decide)
  simp only [Int32.lt_iff_toInt_lt, Int32.reduceToInt] at *; omega
theorem own_exP {n : Int32} (h0 : ¬ n < 0) (h1 : n < 64) : (¬ exP n < 1 ∧ exP n < 5) ∧ (¬ 20 < n → exP n = 1) ∧ (20 < n → ¬ 40 < n → exP n = 2) ∧ (40 < n → ¬ 60 < n → exP n = 3) ∧ (60 < n → exP n = 4) :=
  own_all64 (P := fun n => (¬ exP n < 1 ∧ exP n < 5) ∧ (¬ 20 < n → exP n = 1) ∧ (20 < n → ¬ 40 < n → exP n = 2) ∧ (40 < n → ¬ 60 < n → exP n = 3) ∧ (60 < n → exP n = 4)) (by decide +kernel) h0 h1
theorem own_rem {x y : Int32} (hy : 0 < y) : ¬ ((x &&& 2147483647) % y) < 0 ∧ ((x &&& 2147483647) % y) < y := by
  have q := c_and x 2147483647 (by decide)
  have r := (c_iremV (x &&& 2147483647) y).1
  simp only [Int32.lt_iff_toInt_lt, Int32.reduceToInt] at *
  have := r (by omega) (by omega); omega
theorem own_sz {n : Int32} (h0 : ¬ n < 0) (h1 : n < 64) : ∀ k : Fin 4, (Int32.ofNat (20 * k)) ≤ n → mi (Int32.ofNat (20 * k) + 20) n - Int32.ofNat (20 * k) = mi 20 (n - Int32.ofNat (20 * k)) ∧ ¬ n < mi (Int32.ofNat (20 * k) + 20) n ∧ ¬ mi (Int32.ofNat (20 * k) + 20) n < Int32.ofNat (20 * k) :=
  own_all64 (P := fun n => ∀ k : Fin 4, (Int32.ofNat (20 * k)) ≤ n → mi (Int32.ofNat (20 * k) + 20) n - Int32.ofNat (20 * k) = mi 20 (n - Int32.ofNat (20 * k)) ∧ ¬ n < mi (Int32.ofNat (20 * k) + 20) n ∧ ¬ mi (Int32.ofNat (20 * k) + 20) n < Int32.ofNat (20 * k)) (by decide +kernel) h0 h1
theorem own_p4 {p : Int32} (h0 : ¬ p < 0) (h1 : p < 5) : p = 0 ∨ p = 1 ∨ p = 2 ∨ p = 3 ∨ p = 4 := by
  simp only [← Int32.toInt_inj, Int32.lt_iff_toInt_lt, Int32.reduceToInt] at *; omega
theorem own_ix64 {n p j : Int32} (h0 : ¬ n < 0) (h1 : n < 64) (hp : ¬ p < 0 ∧ p < exP n) (hj : ¬ j < 0 ∧ j < mi 20 (n - 20 * p)) : ¬ 20 * p + j < 0 ∧ 20 * p + j < n := by
  have e := (own_exP h0 h1).1
  have hm : j < 20 ∧ j < n - 20 * p := by
    have := hj.2; unfold mi at this; split at this <;> rename_i q <;> simp only [Int32.lt_iff_toInt_lt, Int32.reduceToInt] at * <;> omega
  have h5 : p < 5 := by simp only [Int32.lt_iff_toInt_lt, Int32.reduceToInt] at *; omega
  have hn := rng32 n; have hjr := rng32 j
  have a1 := c_imul 20 p; have a2 := c_iadd (20 * p) j; have a3 := c_isub n (20 * p); have r1 := rng32 (20 * p); have r2 := rng32 (20 * p + j); have r3 := rng32 (n - 20 * p)
  have hj0 := hj.1
  have hp0 := hp.1
  clear hp hj e
  simp only [Int32.lt_iff_toInt_lt, Int32.reduceToInt] at *
  have e1 : (20 * p).toInt = 20 * p.toInt := by omega
  have e2 : (20 * p + j).toInt = 20 * p.toInt + j.toInt := by omega
  have e3 : (n - 20 * p).toInt = n.toInt - 20 * p.toInt := by omega
  omega
theorem own_sub1 {e : Int32} (h : ¬ e < 0) (hz : ¬ e = 0) : ¬ (e - 1) < 0 ∧ (e - 1) < e := by
  have a := c_isub e 1; have r := rng32 (e - 1); have r2 := rng32 e
  simp only [← Int32.toInt_inj, Int32.lt_iff_toInt_lt, Int32.reduceToInt] at *; omega
theorem own_mi0 {n p : Int32} (h0 : ¬ n < 0) (h1 : n < 64) (hp : ¬ p < 0 ∧ p < exP n) : ¬ mi 20 (n - 20 * p) < 0 := by
  have h5 : p < 5 := by have e := (own_exP h0 h1).1; simp only [Int32.lt_iff_toInt_lt, Int32.reduceToInt] at *; omega
  rcases own_p4 hp.1 h5 with rfl | rfl | rfl | rfl | rfl
  all_goals have hp2 := hp.2; clear hp h5; revert hp2
  · exact own_all64 (P := fun n => (0 : Int32) < exP n → ¬ mi 20 (n - 20 * 0) < 0) (by decide +kernel) h0 h1
  · exact own_all64 (P := fun n => (1 : Int32) < exP n → ¬ mi 20 (n - 20 * 1) < 0) (by decide +kernel) h0 h1
  · exact own_all64 (P := fun n => (2 : Int32) < exP n → ¬ mi 20 (n - 20 * 2) < 0) (by decide +kernel) h0 h1
  · exact own_all64 (P := fun n => (3 : Int32) < exP n → ¬ mi 20 (n - 20 * 3) < 0) (by decide +kernel) h0 h1
  · exact own_all64 (P := fun n => (4 : Int32) < exP n → ¬ mi 20 (n - 20 * 4) < 0) (by decide +kernel) h0 h1
theorem own_ass (a e : Int32) : a + (e - 1) = a + e - 1 := by grind
theorem own_cap {c : Int32} (h0 : 0 < c) (h1 : c < 64) : ¬ capI c < c ∧ ¬ capI c < 0 :=
  own_all64 (P := fun c => 0 < c → ¬ capI c < c ∧ ¬ capI c < 0) (by decide +kernel) (by simp only [Int32.lt_iff_toInt_lt, Int32.reduceToInt] at *; omega) h1 h0
theorem ef_acInit (m : MethodId) (a1 : Addr) : entryFrame m #[(.ref a1)] 1 = mkF m 0 #[.val (.ref a1)] [] := by first | (simp [entryFrame, mkF, argsToLocals, Value.category]; done) | rfl
def Q_acInit (Z : State) (a1 : Addr) (h0 : Heap) (v : Option Value) (h : Heap) : Prop := v = none ∧ h0 = h
set_option maxRecDepth 65536 in
set_option maxHeartbeats 40000000 in
theorem c_acInit (l : Launch) (Z : State) (a0 : Array Value) (hw : ∀ d ∈ tables_1, d.before a0 Z = true) (a1 : Addr) (h0 : Heap) :
    Con l Z (⟨"java/util/AbstractCollection", "<init>", "()V"⟩ : MethodName) jdk_22_method_1_code 1 (Option.none : Option FieldType) [] ({ frames := 1, cells := 0, slots := 0, locals := 12 } : Room) #[(.ref a1)] h0 (Q_acInit Z a1 h0) := by
  refine Con.of (plainFor_of_name pn_java_util_AbstractCollection) ?_
  intro p e s m below meth c T0 B W0
  refine Go.cast (ef_acInit m a1 ) ?_
  refine g_aload_n B W0 (d_jdk_22_method_1_0) rfl rfl ?_
  obtain ⟨T101, W101, st101⟩ := x_init B W0 (d_jdk_22_method_1_1) (tw hw 18 rfl) (tw hw 19 rfl) (tw hw 20 rfl) a1 #[.val (.ref a1)] [] rfl 0 rfl (by decide) (by decide)
  refine st101 _ ?_
  exact r_v B W101 (d_jdk_22_method_1_4) (by decide) (by decide) ⟨rfl, rfl⟩
theorem ef_abInit (m : MethodId) (a1 : Addr) : entryFrame m #[(.ref a1)] 1 = mkF m 0 #[.val (.ref a1)] [] := by first | (simp [entryFrame, mkF, argsToLocals, Value.category]; done) | rfl
def Q_abInit (Z : State) (a1 : Addr) (h0 : Heap) (v : Option Value) (h : Heap) : Prop := v = none ∧ Keep h0 h [a1] ∧ Exa Z h a1 "java/util/ArrayList" ∧ Fld Z h a1 "java/util/ArrayList" "size" "I" (.int 0) ∧ Fld Z h a1 "java/util/ArrayList" "elementData" "[Ljava/lang/Object;" .null ∧ Fld Z h a1 "java/util/AbstractList" "modCount" "I" (.int 0)
set_option maxRecDepth 65536 in
set_option maxHeartbeats 40000000 in
theorem c_abInit (l : Launch) (Z : State) (a0 : Array Value) (hw : ∀ d ∈ tables_1, d.before a0 Z = true) (a1 : Addr) (h0 : Heap) (E1 : Exa Z h0 a1 "java/util/ArrayList") (F1 : Fld Z h0 a1 "java/util/ArrayList" "size" "I" (.int 0)) (F2 : Fld Z h0 a1 "java/util/ArrayList" "elementData" "[Ljava/lang/Object;" .null) (F3 : Fld Z h0 a1 "java/util/AbstractList" "modCount" "I" (.int 0)) (g1 : Z.heap.size ≤ a1) :
    Con l Z (⟨"java/util/AbstractList", "<init>", "()V"⟩ : MethodName) jdk_39_method_1_code 1 (Option.none : Option FieldType) [] ({ frames := 2, cells := 0, slots := 0, locals := 24 } : Room) #[(.ref a1)] h0 (Q_abInit Z a1 h0) := by
  refine Con.of (plainFor_of_name pn_java_util_AbstractList) ?_
  intro p e s m below meth c T0 B W0
  refine Go.cast (ef_abInit m a1 ) ?_
  have l_a1 := nlt E1.lt
  refine g_aload_n B W0 (d_jdk_39_method_1_0) rfl rfl ?_
  obtain ⟨T101, h101, v101, W101, Q101, st101⟩ := x_special B W0 (b := a1) [] (c_acInit l Z a0 hw a1 h0) (d_jdk_39_method_1_1) rfl (tw hw 12 rfl) (tw hw 13 rfl) (tw hw 16 rfl) (tw hw 17 rfl) (by decide) (lenOf pd___V rfl) #[.val (.ref a1)] [] rfl 0 rfl (by decide) (by decide) (by decide) (by decide)
  obtain ⟨rfl, rfl⟩ := Q101
  refine st101 _ ?_
  refine g_aload_n B W101 (d_jdk_39_method_1_4) rfl rfl ?_
  refine g_iconst B W101 (d_jdk_39_method_1_5) (v := 0) (by decide) ?_
  obtain ⟨T102, h102, W102, K102, R102, F102, E102, st102⟩ := x_put B W101 (d_jdk_39_method_1_6) ((tw hw 21 rfl)) Via.refl F3 E1 (Or.inl (tw hw 22 rfl)) (tw hw 1 rfl) (ty := .int) (v := (.int 0)) (v' := (.int 0)) (by decide) rfl rfl (by omega) #[.val (.ref a1)] []
  refine st102 _ ?_
  have f103 := F1.other R102 (Or.inr (slot_ne (Or.inl (tw hw 46 rfl)) (Or.inl (tw hw 22 rfl)) (by decide) (t := .int) (t' := .int) (by decide) (by decide)))
  have f104 := F2.other R102 (Or.inr (slot_ne (Or.inl (tw hw 25 rfl)) (Or.inl (tw hw 22 rfl)) (by decide) (t := (.array (.object "java/lang/Object"))) (t' := .int) (by decide) (by decide)))
  have s105 := K102.1
  exact r_v B W102 (d_jdk_39_method_1_9) (by decide) (by decide) ⟨rfl, ((Keep.refl h0 [a1]).trans K102 (allS (Or.inl (by simp)) all0)), E102, f103, f104, F102⟩
theorem ef_alInit (m : MethodId) (a1 : Addr) (de : Addr) (dc : Cell) : entryFrame m #[(.ref a1)] 1 = mkF m 0 #[.val (.ref a1)] [] := by first | (simp [entryFrame, mkF, argsToLocals, Value.category]; done) | rfl
def Q_alInit (Z : State) (a1 : Addr) (de : Addr) (dc : Cell) (h0 : Heap) (v : Option Value) (h : Heap) : Prop := v = none ∧ Keep h0 h [a1] ∧ Exa Z h a1 "java/util/ArrayList" ∧ Fld Z h a1 "java/util/ArrayList" "size" "I" (.int 0) ∧ Fld Z h a1 "java/util/ArrayList" "elementData" "[Ljava/lang/Object;" (.ref de) ∧ Fld Z h a1 "java/util/AbstractList" "modCount" "I" (.int 0)
set_option maxRecDepth 65536 in
set_option maxHeartbeats 40000000 in
theorem c_alInit (l : Launch) (Z : State) (a0 : Array Value) (hw : ∀ d ∈ tables_1, d.before a0 Z = true) (a1 : Addr) (de : Addr) (dc : Cell) (h0 : Heap) (E1 : Exa Z h0 a1 "java/util/ArrayList") (F1 : Fld Z h0 a1 "java/util/ArrayList" "size" "I" (.int 0)) (F2 : Fld Z h0 a1 "java/util/ArrayList" "elementData" "[Ljava/lang/Object;" .null) (F3 : Fld Z h0 a1 "java/util/AbstractList" "modCount" "I" (.int 0)) (g1 : Z.heap.size ≤ a1) (Sde : Sta Z Z.heap "java/util/ArrayList" "DEFAULTCAPACITY_EMPTY_ELEMENTDATA" "[Ljava/lang/Object;" (.ref de)) (Ade : Arr Z Z.heap de dc (.object "java/lang/Object")) (lde : dc.slots.size.toInt32 = 0) :
    Con l Z (⟨"java/util/ArrayList", "<init>", "()V"⟩ : MethodName) jdk_38_method_2_code 1 (Option.none : Option FieldType) [] ({ frames := 3, cells := 0, slots := 0, locals := 36 } : Room) #[(.ref a1)] h0 (Q_alInit Z a1 de dc h0) := by
  refine Con.of (plainFor_of_name pn_java_util_ArrayList) ?_
  intro p e s m below meth c T0 B W0
  refine Go.cast (ef_alInit m a1 de dc ) ?_
  have l_a1 := nlt E1.lt
  refine g_aload_n B W0 (d_jdk_38_method_2_0) rfl rfl ?_
  obtain ⟨T101, h101, v101, W101, Q101, st101⟩ := x_special B W0 (b := a1) [] (c_abInit l Z a0 hw a1 h0 E1 F1 F2 F3 (by omega)) (d_jdk_38_method_2_1) rfl (tw hw 6 rfl) (tw hw 7 rfl) (tw hw 10 rfl) (tw hw 11 rfl) (by decide) (lenOf pd___V rfl) #[.val (.ref a1)] [] rfl 0 rfl (by decide) (by decide) (by decide) (by decide)
  obtain ⟨rfl, K101, E101, Fs101, Fe101, Fm101⟩ := Q101
  have s102 := K101.1
  refine st101 _ ?_
  refine g_aload_n B W101 (d_jdk_38_method_2_4) rfl rfl ?_
  obtain ⟨T103, W103, st103⟩ := x_gets B W101 (host := "") (d_jdk_38_method_2_5) (Or.inl (tw hw 23 rfl)) Via.refl Sde #[.val (.ref a1)] [(.ref a1)]
  refine st103 _ ?_
  obtain ⟨T104, h104, W104, K104, R104, F104, E104, st104⟩ := x_put B W103 (d_jdk_38_method_2_8) ((tw hw 24 rfl)) Via.refl Fe101 E101 (Or.inl (tw hw 25 rfl)) (tw hw 1 rfl) (ty := (.array (.object "java/lang/Object"))) (v := (.ref de)) (v' := (.ref de)) (by decide) rfl rfl (by omega) #[.val (.ref a1)] []
  refine st104 _ ?_
  have f105 := Fs101.other R104 (Or.inr (slot_ne (Or.inl (tw hw 46 rfl)) (Or.inl (tw hw 25 rfl)) (by decide) (t := .int) (t' := (.array (.object "java/lang/Object"))) (by decide) (by decide)))
  have f106 := Fm101.other R104 (Or.inr (slot_ne (Or.inl (tw hw 22 rfl)) (Or.inl (tw hw 25 rfl)) (by decide) (t := .int) (t' := (.array (.object "java/lang/Object"))) (by decide) (by decide)))
  have s107 := K104.1
  exact r_v B W104 (d_jdk_38_method_2_11) (by decide) (by decide) ⟨rfl, (((Keep.refl h0 [a1]).trans K101 (allS (Or.inl (by simp)) all0)).trans K104 (allS (Or.inl (by simp)) all0)), E104, f105, F104, f106⟩
theorem own_cache {p : Int32} (h1 : ¬ p < -128) (h2 : ¬ 127 < p) : ¬ p + 128 < 0 ∧ p + 128 < 256 := by
  have a := c_iadd p 128; have r := rng32 p; have r2 := rng32 (p + 128)
  simp only [Int32.lt_iff_toInt_lt, Int32.reduceToInt] at *; omega
theorem own_bx {Z : State} {ca : Addr} {cl : Cell} {p : Int32} (Bx : Bxs Z ca cl "java/lang/Integer" "I" 256 (fun j => .int (j - 128))) (h1 : ¬ p < -128) (h2 : ¬ 127 < p) : ¬ (p + 128 < 0 ∨ cl.slots.size ≤ (p + 128).toNatClampNeg) ∧ ∃ b : Addr, cl.slots[(p + 128).toNatClampNeg]? = some (.ref b) ∧ Exa Z Z.heap b "java/lang/Integer" ∧ Fld Z Z.heap b "java/lang/Integer" "value" "I" (.int p) := by
  have q := inb_of Bx.2.1 (own_cache h1 h2)
  refine ⟨q, ?_⟩
  obtain ⟨b, e1, e2, e3⟩ := Bx.2.2.2 _ q
  have e4 : (p + 128 - 128 : Int32) = p := Int32.add_sub_cancel _ _
  simp only [e4] at e3
  exact ⟨b, e1, e2, e3⟩
theorem own_hi {n z : Int32} {vs : List Value} (h : ¬ n < 0 ∧ n < z) (vl : vs.length = z.toNatClampNeg) : n.toNatClampNeg < vs.length := by
  rw [vl]; simp only [Int32.lt_iff_toInt_lt, Int32.reduceToInt, Int32.toNatClampNeg] at *; omega
theorem own_mn0 {n : Int32} (h : ¬ n < 0) : mn 0 n = 0 := by
  unfold mn; split
  · rfl
  · simp only [← Int32.toInt_inj, Int32.lt_iff_toInt_lt, Int32.reduceToInt] at *; omega
theorem own_mn64 {n : Int32} (h : n < 64) : mn 64 n = n := if_neg (by simp only [Int32.lt_iff_toInt_lt, Int32.reduceToInt] at *; omega)
theorem ef_valueOf (m : MethodId) (p1 : Int32) (ca : Addr) (cl : Cell) : entryFrame m #[(.int p1)] 1 = mkF m 0 #[.val (.int p1)] [] := by first | (simp [entryFrame, mkF, argsToLocals, Value.category]; done) | rfl
def Q_valueOf (Z : State) (p1 : Int32) (ca : Addr) (cl : Cell) (h0 : Heap) (v : Option Value) (h : Heap) : Prop := ∃ b, v = some (.ref b) ∧ h0 = h ∧ Exa Z Z.heap b "java/lang/Integer" ∧ Fld Z Z.heap b "java/lang/Integer" "value" "I" (.int p1)
set_option maxRecDepth 65536 in
set_option maxHeartbeats 40000000 in
theorem c_valueOf (l : Launch) (Z : State) (a0 : Array Value) (hw : ∀ d ∈ tables_1, d.before a0 Z = true) (p1 : Int32) (ca : Addr) (cl : Cell) (h0 : Heap) (hp : ¬ p1 < -128 ∧ ¬ 127 < p1) (Sh : Sta Z Z.heap "java/lang/Integer$IntegerCache" "high" "I" (.int 127)) (Sc : Sta Z Z.heap "java/lang/Integer$IntegerCache" "cache" "[Ljava/lang/Integer;" (.ref ca)) (Bx : Bxs Z ca cl "java/lang/Integer" "I" 256 (fun j => .int (j - 128))) :
    Con l Z (⟨"java/lang/Integer", "valueOf", "(I)Ljava/lang/Integer;"⟩ : MethodName) jdk_33_method_22_code 1 (Option.some (FieldType.object "java/lang/Integer")) [] ({ frames := 0, cells := 0, slots := 0, locals := 0 } : Room) #[(.int p1)] h0 (Q_valueOf Z p1 ca cl h0) := by
  refine Con.of (plainFor_of_name pn_java_lang_Integer) ?_
  intro p e s m below meth c T0 B W0
  refine Go.cast (ef_valueOf m p1 ca cl ) ?_
  refine g_iload_n B W0 (d_jdk_33_method_22_0) rfl ?_
  refine g_bipush B W0 (d_jdk_33_method_22_1) (v := -128) (by decide) ?_
  refine g_icmp_n B W0 (d_jdk_33_method_22_3) (XT.ii_lt_f hp.1) ?_
  show Go p.tables e below _ T0 (mkF m 6 #[.val (.int p1)] [])
  refine g_iload_n B W0 (d_jdk_33_method_22_6) rfl ?_
  obtain ⟨T101, W101, st101⟩ := x_gets B W0 (host := "") (d_jdk_33_method_22_7) (Or.inl (tw hw 156 rfl)) Via.refl Sh #[.val (.int p1)] [(.int p1)]
  refine st101 _ ?_
  refine g_icmp_n B W101 (d_jdk_33_method_22_10) (XT.ii_gt_f hp.2) ?_
  show Go p.tables e below _ T101 (mkF m 13 #[.val (.int p1)] [])
  obtain ⟨T102, W102, st102⟩ := x_gets B W101 (host := "") (d_jdk_33_method_22_13) (Or.inl (tw hw 158 rfl)) Via.refl Sc #[.val (.int p1)] []
  refine st102 _ ?_
  refine g_iload_n B W102 (d_jdk_33_method_22_16) rfl ?_
  refine g_sipush B W102 (d_jdk_33_method_22_17) (v := 128) (by decide) ?_
  refine g_iadd B W102 (d_jdk_33_method_22_20)  ?_
  obtain ⟨hin, b, hat, Eb, Fb⟩ := own_bx Bx hp.1 hp.2
  refine g_aaload B W102 (d_jdk_33_method_22_21) (Bx.1.ext W102.old.2) rfl hin hat ?_
  show Go p.tables e below _ T102 (mkF m 22 #[.val (.int p1)] [(.ref b)])
  exact r_a B W102 rfl rfl rfl (d_jdk_33_method_22_22) (by decide) (by decide) ⟨_, rfl, rfl, Eb, Fb⟩
theorem ef_max (m : MethodId) (p1 : Int32) (p2 : Int32) (r : Int32) : entryFrame m #[(.int p1), (.int p2)] 2 = mkF m 0 #[.val (.int p1), .val (.int p2)] [] := by first | (simp [entryFrame, mkF, argsToLocals, Value.category]; done) | rfl
def Q_max (Z : State) (p1 : Int32) (p2 : Int32) (r : Int32) (h0 : Heap) (v : Option Value) (h : Heap) : Prop := v = some (.int r) ∧ h0 = h
set_option maxRecDepth 65536 in
set_option maxHeartbeats 40000000 in
theorem c_max (l : Launch) (Z : State) (a0 : Array Value) (hw : ∀ d ∈ tables_1, d.before a0 Z = true) (p1 : Int32) (p2 : Int32) (r : Int32) (h0 : Heap) (hr : (if p1 < p2 then p2 else p1) = r) :
    Con l Z (⟨"java/lang/Math", "max", "(II)I"⟩ : MethodName) jdk_29_method_65_code 2 (Option.some FieldType.int) [] ({ frames := 0, cells := 0, slots := 0, locals := 0 } : Room) #[(.int p1), (.int p2)] h0 (Q_max Z p1 p2 r h0) := by
  refine Con.of (Jvm.Free.JP.mathPlain rfl (by decide +kernel)) ?_
  intro p e s m below meth c T0 B W0
  refine Go.cast (ef_max m p1 p2 r ) ?_
  refine g_iload_n B W0 (d_jdk_29_method_65_0) rfl ?_
  refine g_iload_n B W0 (d_jdk_29_method_65_1) rfl ?_
  by_cases hc101 : p1 < p2
  · skip
    refine g_icmp_y B W0 (d_jdk_29_method_65_2) (XT.ii_lt_t hc101) (pc' := 9) (by decide) ?_
    show Go p.tables e below _ T0 (mkF m 9 #[.val (.int p1), .val (.int p2)] [])
    refine g_iload_n B W0 (d_jdk_29_method_65_9) rfl ?_
    exact r_i B W0 (d_jdk_29_method_65_10) (by decide) (by decide) ⟨by rw [← hr]; simp [hc101], rfl⟩
  · skip
    refine g_icmp_n B W0 (d_jdk_29_method_65_2) (XT.ii_lt_f hc101) ?_
    show Go p.tables e below _ T0 (mkF m 5 #[.val (.int p1), .val (.int p2)] [])
    refine g_iload_n B W0 (d_jdk_29_method_65_5) rfl ?_
    refine g_goto B W0 (d_jdk_29_method_65_6) (pc' := 10) (by decide) ?_
    show Go p.tables e below _ T0 (mkF m 10 #[.val (.int p1), .val (.int p2)] [(.int p1)])
    exact r_i B W0 (d_jdk_29_method_65_10) (by decide) (by decide) ⟨by rw [← hr]; simp [hc101], rfl⟩
theorem ef_min (m : MethodId) (p1 : Int32) (p2 : Int32) : entryFrame m #[(.int p1), (.int p2)] 2 = mkF m 0 #[.val (.int p1), .val (.int p2)] [] := by first | (simp [entryFrame, mkF, argsToLocals, Value.category]; done) | rfl
def Q_min (Z : State) (p1 : Int32) (p2 : Int32) (h0 : Heap) (v : Option Value) (h : Heap) : Prop := v = some (.int (mi p1 p2)) ∧ h0 = h
set_option maxRecDepth 65536 in
set_option maxHeartbeats 40000000 in
theorem c_min (l : Launch) (Z : State) (a0 : Array Value) (hw : ∀ d ∈ tables_1, d.before a0 Z = true) (p1 : Int32) (p2 : Int32) (h0 : Heap) :
    Con l Z (⟨"java/lang/Math", "min", "(II)I"⟩ : MethodName) jdk_29_method_69_code 2 (Option.some FieldType.int) [] ({ frames := 0, cells := 0, slots := 0, locals := 0 } : Room) #[(.int p1), (.int p2)] h0 (Q_min Z p1 p2 h0) := by
  refine Con.of (Jvm.Free.JP.mathPlain rfl (by decide +kernel)) ?_
  intro p e s m below meth c T0 B W0
  refine Go.cast (ef_min m p1 p2 ) ?_
  refine g_iload_n B W0 (d_jdk_29_method_69_0) rfl ?_
  refine g_iload_n B W0 (d_jdk_29_method_69_1) rfl ?_
  by_cases hc101 : p2 < p1
  · skip
    refine g_icmp_y B W0 (d_jdk_29_method_69_2) (XT.ii_gt_t hc101) (pc' := 9) (by decide) ?_
    show Go p.tables e below _ T0 (mkF m 9 #[.val (.int p1), .val (.int p2)] [])
    refine g_iload_n B W0 (d_jdk_29_method_69_9) rfl ?_
    exact r_i B W0 (d_jdk_29_method_69_10) (by decide) (by decide) ⟨by unfold mi; simp [hc101], rfl⟩
  · skip
    refine g_icmp_n B W0 (d_jdk_29_method_69_2) (XT.ii_gt_f hc101) ?_
    show Go p.tables e below _ T0 (mkF m 5 #[.val (.int p1), .val (.int p2)] [])
    refine g_iload_n B W0 (d_jdk_29_method_69_5) rfl ?_
    refine g_goto B W0 (d_jdk_29_method_69_6) (pc' := 10) (by decide) ?_
    show Go p.tables e below _ T0 (mkF m 10 #[.val (.int p1), .val (.int p2)] [(.int p1)])
    exact r_i B W0 (d_jdk_29_method_69_10) (by decide) (by decide) ⟨by unfold mi; simp [hc101], rfl⟩
theorem ef_nl10 (m : MethodId)  : entryFrame m #[(.int 10), (.int 1), (.int 5)] 4 = mkF m 0 #[.val (.int 10), .val (.int 1), .val (.int 5), .unset] [] := by first | (simp [entryFrame, mkF, argsToLocals, Value.category]; done) | rfl
def Q_nl10 (Z : State)  (h0 : Heap) (v : Option Value) (h : Heap) : Prop := v = some (.int 15) ∧ h0 = h
set_option maxRecDepth 65536 in
set_option maxHeartbeats 40000000 in
theorem c_nl10 (l : Launch) (Z : State) (a0 : Array Value) (hw : ∀ d ∈ tables_1, d.before a0 Z = true)  (h0 : Heap) :
    Con l Z (⟨"jdk/internal/util/ArraysSupport", "newLength", "(III)I"⟩ : MethodName) jdk_48_method_27_code 4 (Option.some FieldType.int) [] ({ frames := 1, cells := 0, slots := 0, locals := 14 } : Room) #[(.int 10), (.int 1), (.int 5)] h0 (Q_nl10 Z  h0) := by
  refine Con.of (plainFor_of_name pn_jdk_internal_util_ArraysSupport) ?_
  intro p e s m below meth c T0 B W0
  refine Go.cast (ef_nl10 m  ) ?_
  refine g_iload_n B W0 (d_jdk_48_method_27_0) rfl ?_
  refine g_iload_n B W0 (d_jdk_48_method_27_1) rfl ?_
  refine g_iload_n B W0 (d_jdk_48_method_27_2) rfl ?_
  obtain ⟨T101, h101, v101, W101, Q101, st101⟩ := x_static B W0 [(.int 1), (.int 5)] (c_max l Z a0 hw 1 5 5 h0 (by decide)) (d_jdk_48_method_27_3) (tw hw 183 rfl) (tw hw 111 rfl) (tw hw 49 rfl) (tw hw 112 rfl) (by decide) (lenOf pd__II_I rfl) #[.val (.int 10), .val (.int 1), .val (.int 5), .unset] [(.int 10)] rfl 1 rfl (by decide) (by decide) (by decide) (by decide)
  obtain ⟨rfl, rfl⟩ := Q101
  refine st101 _ ?_
  show Go p.tables e below _ T101 (mkF m 6 #[.val (.int 10), .val (.int 1), .val (.int 5), .unset] [(.int 5), (.int 10)])
  refine g_iadd B W101 (d_jdk_48_method_27_6)  ?_
  rw [show (10 + 5 : Int32) = 15 by decide]
  refine g_istore_n B W101 (d_jdk_48_method_27_7)  (l' := #[.val (.int 10), .val (.int 1), .val (.int 5), .val (.int 15)]) rfl ?_
  refine g_iconst B W101 (d_jdk_48_method_27_8) (v := 0) (by decide) ?_
  refine g_iload_n B W101 (d_jdk_48_method_27_9) rfl ?_
  refine g_icmp_n B W101 (d_jdk_48_method_27_10) (XT.ii_ge_f (by decide)) ?_
  show Go p.tables e below _ T101 (mkF m 13 #[.val (.int 10), .val (.int 1), .val (.int 5), .val (.int 15)] [])
  refine g_iload_n B W101 (d_jdk_48_method_27_13) rfl ?_
  refine g_ldcI B W101 (d_jdk_48_method_27_14) (tw hw 184 rfl) ?_
  refine g_icmp_n B W101 (d_jdk_48_method_27_16) (XT.ii_gt_f (by decide)) ?_
  show Go p.tables e below _ T101 (mkF m 19 #[.val (.int 10), .val (.int 1), .val (.int 5), .val (.int 15)] [])
  refine g_iload_n B W101 (d_jdk_48_method_27_19) rfl ?_
  exact r_i B W101 (d_jdk_48_method_27_20) (by decide) (by decide) ⟨rfl, rfl⟩
theorem ef_nl15 (m : MethodId)  : entryFrame m #[(.int 15), (.int 1), (.int 7)] 4 = mkF m 0 #[.val (.int 15), .val (.int 1), .val (.int 7), .unset] [] := by first | (simp [entryFrame, mkF, argsToLocals, Value.category]; done) | rfl
def Q_nl15 (Z : State)  (h0 : Heap) (v : Option Value) (h : Heap) : Prop := v = some (.int 22) ∧ h0 = h
set_option maxRecDepth 65536 in
set_option maxHeartbeats 40000000 in
theorem c_nl15 (l : Launch) (Z : State) (a0 : Array Value) (hw : ∀ d ∈ tables_1, d.before a0 Z = true)  (h0 : Heap) :
    Con l Z (⟨"jdk/internal/util/ArraysSupport", "newLength", "(III)I"⟩ : MethodName) jdk_48_method_27_code 4 (Option.some FieldType.int) [] ({ frames := 1, cells := 0, slots := 0, locals := 14 } : Room) #[(.int 15), (.int 1), (.int 7)] h0 (Q_nl15 Z  h0) := by
  refine Con.of (plainFor_of_name pn_jdk_internal_util_ArraysSupport) ?_
  intro p e s m below meth c T0 B W0
  refine Go.cast (ef_nl15 m  ) ?_
  refine g_iload_n B W0 (d_jdk_48_method_27_0) rfl ?_
  refine g_iload_n B W0 (d_jdk_48_method_27_1) rfl ?_
  refine g_iload_n B W0 (d_jdk_48_method_27_2) rfl ?_
  obtain ⟨T101, h101, v101, W101, Q101, st101⟩ := x_static B W0 [(.int 1), (.int 7)] (c_max l Z a0 hw 1 7 7 h0 (by decide)) (d_jdk_48_method_27_3) (tw hw 183 rfl) (tw hw 111 rfl) (tw hw 49 rfl) (tw hw 112 rfl) (by decide) (lenOf pd__II_I rfl) #[.val (.int 15), .val (.int 1), .val (.int 7), .unset] [(.int 15)] rfl 1 rfl (by decide) (by decide) (by decide) (by decide)
  obtain ⟨rfl, rfl⟩ := Q101
  refine st101 _ ?_
  show Go p.tables e below _ T101 (mkF m 6 #[.val (.int 15), .val (.int 1), .val (.int 7), .unset] [(.int 7), (.int 15)])
  refine g_iadd B W101 (d_jdk_48_method_27_6)  ?_
  rw [show (15 + 7 : Int32) = 22 by decide]
  refine g_istore_n B W101 (d_jdk_48_method_27_7)  (l' := #[.val (.int 15), .val (.int 1), .val (.int 7), .val (.int 22)]) rfl ?_
  refine g_iconst B W101 (d_jdk_48_method_27_8) (v := 0) (by decide) ?_
  refine g_iload_n B W101 (d_jdk_48_method_27_9) rfl ?_
  refine g_icmp_n B W101 (d_jdk_48_method_27_10) (XT.ii_ge_f (by decide)) ?_
  show Go p.tables e below _ T101 (mkF m 13 #[.val (.int 15), .val (.int 1), .val (.int 7), .val (.int 22)] [])
  refine g_iload_n B W101 (d_jdk_48_method_27_13) rfl ?_
  refine g_ldcI B W101 (d_jdk_48_method_27_14) (tw hw 184 rfl) ?_
  refine g_icmp_n B W101 (d_jdk_48_method_27_16) (XT.ii_gt_f (by decide)) ?_
  show Go p.tables e below _ T101 (mkF m 19 #[.val (.int 15), .val (.int 1), .val (.int 7), .val (.int 22)] [])
  refine g_iload_n B W101 (d_jdk_48_method_27_19) rfl ?_
  exact r_i B W101 (d_jdk_48_method_27_20) (by decide) (by decide) ⟨rfl, rfl⟩
theorem ef_nl22 (m : MethodId)  : entryFrame m #[(.int 22), (.int 1), (.int 11)] 4 = mkF m 0 #[.val (.int 22), .val (.int 1), .val (.int 11), .unset] [] := by first | (simp [entryFrame, mkF, argsToLocals, Value.category]; done) | rfl
def Q_nl22 (Z : State)  (h0 : Heap) (v : Option Value) (h : Heap) : Prop := v = some (.int 33) ∧ h0 = h
set_option maxRecDepth 65536 in
set_option maxHeartbeats 40000000 in
theorem c_nl22 (l : Launch) (Z : State) (a0 : Array Value) (hw : ∀ d ∈ tables_1, d.before a0 Z = true)  (h0 : Heap) :
    Con l Z (⟨"jdk/internal/util/ArraysSupport", "newLength", "(III)I"⟩ : MethodName) jdk_48_method_27_code 4 (Option.some FieldType.int) [] ({ frames := 1, cells := 0, slots := 0, locals := 14 } : Room) #[(.int 22), (.int 1), (.int 11)] h0 (Q_nl22 Z  h0) := by
  refine Con.of (plainFor_of_name pn_jdk_internal_util_ArraysSupport) ?_
  intro p e s m below meth c T0 B W0
  refine Go.cast (ef_nl22 m  ) ?_
  refine g_iload_n B W0 (d_jdk_48_method_27_0) rfl ?_
  refine g_iload_n B W0 (d_jdk_48_method_27_1) rfl ?_
  refine g_iload_n B W0 (d_jdk_48_method_27_2) rfl ?_
  obtain ⟨T101, h101, v101, W101, Q101, st101⟩ := x_static B W0 [(.int 1), (.int 11)] (c_max l Z a0 hw 1 11 11 h0 (by decide)) (d_jdk_48_method_27_3) (tw hw 183 rfl) (tw hw 111 rfl) (tw hw 49 rfl) (tw hw 112 rfl) (by decide) (lenOf pd__II_I rfl) #[.val (.int 22), .val (.int 1), .val (.int 11), .unset] [(.int 22)] rfl 1 rfl (by decide) (by decide) (by decide) (by decide)
  obtain ⟨rfl, rfl⟩ := Q101
  refine st101 _ ?_
  show Go p.tables e below _ T101 (mkF m 6 #[.val (.int 22), .val (.int 1), .val (.int 11), .unset] [(.int 11), (.int 22)])
  refine g_iadd B W101 (d_jdk_48_method_27_6)  ?_
  rw [show (22 + 11 : Int32) = 33 by decide]
  refine g_istore_n B W101 (d_jdk_48_method_27_7)  (l' := #[.val (.int 22), .val (.int 1), .val (.int 11), .val (.int 33)]) rfl ?_
  refine g_iconst B W101 (d_jdk_48_method_27_8) (v := 0) (by decide) ?_
  refine g_iload_n B W101 (d_jdk_48_method_27_9) rfl ?_
  refine g_icmp_n B W101 (d_jdk_48_method_27_10) (XT.ii_ge_f (by decide)) ?_
  show Go p.tables e below _ T101 (mkF m 13 #[.val (.int 22), .val (.int 1), .val (.int 11), .val (.int 33)] [])
  refine g_iload_n B W101 (d_jdk_48_method_27_13) rfl ?_
  refine g_ldcI B W101 (d_jdk_48_method_27_14) (tw hw 184 rfl) ?_
  refine g_icmp_n B W101 (d_jdk_48_method_27_16) (XT.ii_gt_f (by decide)) ?_
  show Go p.tables e below _ T101 (mkF m 19 #[.val (.int 22), .val (.int 1), .val (.int 11), .val (.int 33)] [])
  refine g_iload_n B W101 (d_jdk_48_method_27_19) rfl ?_
  exact r_i B W101 (d_jdk_48_method_27_20) (by decide) (by decide) ⟨rfl, rfl⟩
theorem ef_nl33 (m : MethodId)  : entryFrame m #[(.int 33), (.int 1), (.int 16)] 4 = mkF m 0 #[.val (.int 33), .val (.int 1), .val (.int 16), .unset] [] := by first | (simp [entryFrame, mkF, argsToLocals, Value.category]; done) | rfl
def Q_nl33 (Z : State)  (h0 : Heap) (v : Option Value) (h : Heap) : Prop := v = some (.int 49) ∧ h0 = h
set_option maxRecDepth 65536 in
set_option maxHeartbeats 40000000 in
theorem c_nl33 (l : Launch) (Z : State) (a0 : Array Value) (hw : ∀ d ∈ tables_1, d.before a0 Z = true)  (h0 : Heap) :
    Con l Z (⟨"jdk/internal/util/ArraysSupport", "newLength", "(III)I"⟩ : MethodName) jdk_48_method_27_code 4 (Option.some FieldType.int) [] ({ frames := 1, cells := 0, slots := 0, locals := 14 } : Room) #[(.int 33), (.int 1), (.int 16)] h0 (Q_nl33 Z  h0) := by
  refine Con.of (plainFor_of_name pn_jdk_internal_util_ArraysSupport) ?_
  intro p e s m below meth c T0 B W0
  refine Go.cast (ef_nl33 m  ) ?_
  refine g_iload_n B W0 (d_jdk_48_method_27_0) rfl ?_
  refine g_iload_n B W0 (d_jdk_48_method_27_1) rfl ?_
  refine g_iload_n B W0 (d_jdk_48_method_27_2) rfl ?_
  obtain ⟨T101, h101, v101, W101, Q101, st101⟩ := x_static B W0 [(.int 1), (.int 16)] (c_max l Z a0 hw 1 16 16 h0 (by decide)) (d_jdk_48_method_27_3) (tw hw 183 rfl) (tw hw 111 rfl) (tw hw 49 rfl) (tw hw 112 rfl) (by decide) (lenOf pd__II_I rfl) #[.val (.int 33), .val (.int 1), .val (.int 16), .unset] [(.int 33)] rfl 1 rfl (by decide) (by decide) (by decide) (by decide)
  obtain ⟨rfl, rfl⟩ := Q101
  refine st101 _ ?_
  show Go p.tables e below _ T101 (mkF m 6 #[.val (.int 33), .val (.int 1), .val (.int 16), .unset] [(.int 16), (.int 33)])
  refine g_iadd B W101 (d_jdk_48_method_27_6)  ?_
  rw [show (33 + 16 : Int32) = 49 by decide]
  refine g_istore_n B W101 (d_jdk_48_method_27_7)  (l' := #[.val (.int 33), .val (.int 1), .val (.int 16), .val (.int 49)]) rfl ?_
  refine g_iconst B W101 (d_jdk_48_method_27_8) (v := 0) (by decide) ?_
  refine g_iload_n B W101 (d_jdk_48_method_27_9) rfl ?_
  refine g_icmp_n B W101 (d_jdk_48_method_27_10) (XT.ii_ge_f (by decide)) ?_
  show Go p.tables e below _ T101 (mkF m 13 #[.val (.int 33), .val (.int 1), .val (.int 16), .val (.int 49)] [])
  refine g_iload_n B W101 (d_jdk_48_method_27_13) rfl ?_
  refine g_ldcI B W101 (d_jdk_48_method_27_14) (tw hw 184 rfl) ?_
  refine g_icmp_n B W101 (d_jdk_48_method_27_16) (XT.ii_gt_f (by decide)) ?_
  show Go p.tables e below _ T101 (mkF m 19 #[.val (.int 33), .val (.int 1), .val (.int 16), .val (.int 49)] [])
  refine g_iload_n B W101 (d_jdk_48_method_27_19) rfl ?_
  exact r_i B W101 (d_jdk_48_method_27_20) (by decide) (by decide) ⟨rfl, rfl⟩
theorem ef_nl49 (m : MethodId)  : entryFrame m #[(.int 49), (.int 1), (.int 24)] 4 = mkF m 0 #[.val (.int 49), .val (.int 1), .val (.int 24), .unset] [] := by first | (simp [entryFrame, mkF, argsToLocals, Value.category]; done) | rfl
def Q_nl49 (Z : State)  (h0 : Heap) (v : Option Value) (h : Heap) : Prop := v = some (.int 73) ∧ h0 = h
set_option maxRecDepth 65536 in
set_option maxHeartbeats 40000000 in
theorem c_nl49 (l : Launch) (Z : State) (a0 : Array Value) (hw : ∀ d ∈ tables_1, d.before a0 Z = true)  (h0 : Heap) :
    Con l Z (⟨"jdk/internal/util/ArraysSupport", "newLength", "(III)I"⟩ : MethodName) jdk_48_method_27_code 4 (Option.some FieldType.int) [] ({ frames := 1, cells := 0, slots := 0, locals := 14 } : Room) #[(.int 49), (.int 1), (.int 24)] h0 (Q_nl49 Z  h0) := by
  refine Con.of (plainFor_of_name pn_jdk_internal_util_ArraysSupport) ?_
  intro p e s m below meth c T0 B W0
  refine Go.cast (ef_nl49 m  ) ?_
  refine g_iload_n B W0 (d_jdk_48_method_27_0) rfl ?_
  refine g_iload_n B W0 (d_jdk_48_method_27_1) rfl ?_
  refine g_iload_n B W0 (d_jdk_48_method_27_2) rfl ?_
  obtain ⟨T101, h101, v101, W101, Q101, st101⟩ := x_static B W0 [(.int 1), (.int 24)] (c_max l Z a0 hw 1 24 24 h0 (by decide)) (d_jdk_48_method_27_3) (tw hw 183 rfl) (tw hw 111 rfl) (tw hw 49 rfl) (tw hw 112 rfl) (by decide) (lenOf pd__II_I rfl) #[.val (.int 49), .val (.int 1), .val (.int 24), .unset] [(.int 49)] rfl 1 rfl (by decide) (by decide) (by decide) (by decide)
  obtain ⟨rfl, rfl⟩ := Q101
  refine st101 _ ?_
  show Go p.tables e below _ T101 (mkF m 6 #[.val (.int 49), .val (.int 1), .val (.int 24), .unset] [(.int 24), (.int 49)])
  refine g_iadd B W101 (d_jdk_48_method_27_6)  ?_
  rw [show (49 + 24 : Int32) = 73 by decide]
  refine g_istore_n B W101 (d_jdk_48_method_27_7)  (l' := #[.val (.int 49), .val (.int 1), .val (.int 24), .val (.int 73)]) rfl ?_
  refine g_iconst B W101 (d_jdk_48_method_27_8) (v := 0) (by decide) ?_
  refine g_iload_n B W101 (d_jdk_48_method_27_9) rfl ?_
  refine g_icmp_n B W101 (d_jdk_48_method_27_10) (XT.ii_ge_f (by decide)) ?_
  show Go p.tables e below _ T101 (mkF m 13 #[.val (.int 49), .val (.int 1), .val (.int 24), .val (.int 73)] [])
  refine g_iload_n B W101 (d_jdk_48_method_27_13) rfl ?_
  refine g_ldcI B W101 (d_jdk_48_method_27_14) (tw hw 184 rfl) ?_
  refine g_icmp_n B W101 (d_jdk_48_method_27_16) (XT.ii_gt_f (by decide)) ?_
  show Go p.tables e below _ T101 (mkF m 19 #[.val (.int 49), .val (.int 1), .val (.int 24), .val (.int 73)] [])
  refine g_iload_n B W101 (d_jdk_48_method_27_19) rfl ?_
  exact r_i B W101 (d_jdk_48_method_27_20) (by decide) (by decide) ⟨rfl, rfl⟩
theorem ef_cp3_10 (m : MethodId) (ar : Addr) (kA : ClassId) (vs : List Value) (mo : Addr) : entryFrame m #[(.ref ar), (.int 15), (.ref mo)] 4 = mkF m 0 #[.val (.ref ar), .val (.int 15), .val (.ref mo), .unset] [] := by first | (simp [entryFrame, mkF, argsToLocals, Value.category]; done) | rfl
def Q_cp3_10 (Z : State) (ar : Addr) (kA : ClassId) (vs : List Value) (mo : Addr) (h0 : Heap) (v : Option Value) (h : Heap) : Prop := ∃ (b : Addr) (kB : ClassId) (vs2 : List Value), v = some (.ref b) ∧ h0.size ≤ b ∧ Keep h0 h [] ∧ Arv Z h b kB (.object "java/lang/Object") 15 vs2 .null ∧ vs2.length = Int32.toNatClampNeg 15 ∧ Ovr Z kB "java/lang/Object" ∧ Exa Z h b "[Ljava/lang/Object;" ∧ ∀ i : Nat, i < Int32.toNatClampNeg 10 → vs2.getD i .null = vs.getD i .null
set_option maxRecDepth 65536 in
set_option maxHeartbeats 40000000 in
theorem c_cp3_10 (l : Launch) (Z : State) (a0 : Array Value) (hw : ∀ d ∈ tables_1, d.before a0 Z = true) (ar : Addr) (kA : ClassId) (vs : List Value) (mo : Addr) (h0 : Heap) (A1 : Arv Z h0 ar kA (.object "java/lang/Object") 10 vs .null) (hbx : ∀ i : Nat, i < Int32.toNatClampNeg 10 → ∃ y : Addr, vs.getD i .null = .ref y ∧ Exa Z Z.heap y "java/lang/Integer") (X1 : Exa Z h0 ar "[Ljava/lang/Object;") (Mo : Mi Z "[Ljava/lang/Object;" mo) :
    Con l Z (⟨"java/util/Arrays", "copyOf", "([Ljava/lang/Object;ILjava/lang/Class;)[Ljava/lang/Object;"⟩ : MethodName) jdk_65_method_120_code 4 (Option.some (FieldType.array (FieldType.object "java/lang/Object"))) [] ({ frames := 1, cells := 1, slots := 15, locals := 40 } : Room) #[(.ref ar), (.int 15), (.ref mo)] h0 (Q_cp3_10 Z ar kA vs mo h0) := by
  refine Con.of (plainFor_of_name pn_java_util_Arrays) ?_
  intro p e s m below meth c T0 B W0
  refine Go.cast (ef_cp3_10 m ar kA vs mo ) ?_
  have l_ar := nlt A1.lt
  refine g_aload_n B W0 (d_jdk_65_method_120_0) rfl rfl ?_
  obtain ⟨T101, W101, st101⟩ := x_ldcM B W0 (d_jdk_65_method_120_1) (tw hw 198 rfl) Mo #[.val (.ref ar), .val (.int 15), .val (.ref mo), .unset] [(.ref mo)]
  refine st101 _ ?_
  refine g_acmp_n B W101 (d_jdk_65_method_120_3) rfl rfl (XT.aa_ne_f rfl) ?_
  show Go p.tables e below _ T101 (mkF m 6 #[.val (.ref ar), .val (.int 15), .val (.ref mo), .unset] [])
  refine g_iload_n B W101 (d_jdk_65_method_120_6) rfl ?_
  obtain ⟨T102, h102, b102, cA102, gb102, W102, K102, A102, O102, E102, st102⟩ := x_newRE B W101 (z := 15) (ad := "[Ljava/lang/Object;") 15 (d_jdk_65_method_120_7) (tw hw 199 rfl) (tw hw 114 rfl) (by decide) (by decide) (by decide) (by decide) (by decide) (by decide +kernel) #[.val (.ref ar), .val (.int 15), .val (.ref mo), .unset] []
  have l102 := nlt A102.lt
  have z102 := W101.size
  refine st102 _ ?_
  have s103 := K102.1
  refine g_goto B W102 (d_jdk_65_method_120_10) (pc' := 24) (by decide) ?_
  show Go p.tables e below _ T102 (mkF m 24 #[.val (.ref ar), .val (.int 15), .val (.ref mo), .unset] [(.ref b102)])
  refine g_astore_n B W102 (d_jdk_65_method_120_24) rfl (l' := #[.val (.ref ar), .val (.int 15), .val (.ref mo), .val (.ref b102)]) rfl ?_
  refine g_aload_n B W102 (d_jdk_65_method_120_25) rfl rfl ?_
  refine g_iconst B W102 (d_jdk_65_method_120_26) (v := 0) (by decide) ?_
  refine g_aload_n B W102 (d_jdk_65_method_120_27) rfl rfl ?_
  refine g_iconst B W102 (d_jdk_65_method_120_28) (v := 0) (by decide) ?_
  refine g_aload_n B W102 (d_jdk_65_method_120_29) rfl rfl ?_
  have f104 := (A1.keep K102 nin0)
  refine g_aalen B W102 (d_jdk_65_method_120_30) f104 ?_
  refine g_iload_n B W102 (d_jdk_65_method_120_31) rfl ?_
  obtain ⟨T105, h105, v105, W105, Q105, st105⟩ := x_static B W102 [(.int 10), (.int 15)] (c_min l Z a0 hw 10 15 h102) (d_jdk_65_method_120_32) (tw hw 200 rfl) (tw hw 48 rfl) (tw hw 49 rfl) (tw hw 50 rfl) (by decide) (lenOf pd__II_I rfl) #[.val (.ref ar), .val (.int 15), .val (.ref mo), .val (.ref b102)] [(.int 0), (.ref b102), (.int 0), (.ref ar)] rfl 4 rfl (by decide) (by decide) (by decide) (by decide)
  obtain ⟨rfl, rfl⟩ := Q105
  refine st105 _ ?_
  rw [show mi 10 15 = 10 by decide]
  show Go p.tables e below _ T105 (mkF m 35 #[.val (.ref ar), .val (.int 15), .val (.ref mo), .val (.ref b102)] [(.int 10), (.int 0), (.ref b102), (.int 0), (.ref ar)])
  have e0 : Int32.toNatClampNeg 0 = 0 := by decide
  have ez : Int32.toNatClampNeg 10 = 10 := by decide
  obtain ⟨T106, h106, W106, K106, A106, st106⟩ := x_acopy B W105 (sp := 0) (dp := 0) (nn := 10) (us := (List.range 10).map fun i => vs.getD (0 + i) .null) (d_jdk_65_method_120_35) (tw hw 201 rfl) (tw hw 204 rfl) (tw hw 202 rfl) (tw hw 203 rfl) f104 A102 (Or.inr ⟨rfl, rfl, own_stos A102 O102 W105.old.2 (tw hw 162 rfl) (fun i hi => hbx i (by omega))⟩) (by decide) (by decide) (by decide) (by decide) (by decide) (by rw [e0, ez]) (by decide) (by omega) #[.val (.ref ar), .val (.int 15), .val (.ref mo), .val (.ref b102)] [] rfl 0 rfl (by decide) (by decide)
  rw [e0, ez] at A106
  refine st106 _ ?_
  have s107 := K106.1
  refine g_aload_n B W106 (d_jdk_65_method_120_38) rfl rfl ?_
  have f108 := (E102.keep K106)
  exact r_a B W106 rfl rfl rfl (d_jdk_65_method_120_39) (by decide) (by decide) ⟨_, _, _, rfl, by omega, (((Keep.refl h0 []).trans K102 all0).trans K106 (allS (Or.inr (by omega)) all0)), A106, (own_gro vs 10 15 (by decide)).1.trans (by decide), O102, f108, fun i hi => (own_gro vs 10 15 (by decide)).2 i (by omega)⟩
theorem ef_cp2_10 (m : MethodId) (ar : Addr) (kA : ClassId) (vs : List Value) (mo : Addr) : entryFrame m #[(.ref ar), (.int 15)] 2 = mkF m 0 #[.val (.ref ar), .val (.int 15)] [] := by first | (simp [entryFrame, mkF, argsToLocals, Value.category]; done) | rfl
def Q_cp2_10 (Z : State) (ar : Addr) (kA : ClassId) (vs : List Value) (mo : Addr) (h0 : Heap) (v : Option Value) (h : Heap) : Prop := ∃ (b : Addr) (kB : ClassId) (vs2 : List Value), v = some (.ref b) ∧ h0.size ≤ b ∧ Keep h0 h [] ∧ Arv Z h b kB (.object "java/lang/Object") 15 vs2 .null ∧ vs2.length = Int32.toNatClampNeg 15 ∧ Ovr Z kB "java/lang/Object" ∧ Exa Z h b "[Ljava/lang/Object;" ∧ ∀ i : Nat, i < Int32.toNatClampNeg 10 → vs2.getD i .null = vs.getD i .null
set_option maxRecDepth 65536 in
set_option maxHeartbeats 40000000 in
theorem c_cp2_10 (l : Launch) (Z : State) (a0 : Array Value) (hw : ∀ d ∈ tables_1, d.before a0 Z = true) (ar : Addr) (kA : ClassId) (vs : List Value) (mo : Addr) (h0 : Heap) (A1 : Arv Z h0 ar kA (.object "java/lang/Object") 10 vs .null) (hbx : ∀ i : Nat, i < Int32.toNatClampNeg 10 → ∃ y : Addr, vs.getD i .null = .ref y ∧ Exa Z Z.heap y "java/lang/Integer") (X1 : Exa Z h0 ar "[Ljava/lang/Object;") (Mo : Mi Z "[Ljava/lang/Object;" mo) :
    Con l Z (⟨"java/util/Arrays", "copyOf", "([Ljava/lang/Object;I)[Ljava/lang/Object;"⟩ : MethodName) jdk_65_method_119_code 2 (Option.some (FieldType.array (FieldType.object "java/lang/Object"))) [] ({ frames := 2, cells := 1, slots := 15, locals := 55 } : Room) #[(.ref ar), (.int 15)] h0 (Q_cp2_10 Z ar kA vs mo h0) := by
  refine Con.of (plainFor_of_name pn_java_util_Arrays) ?_
  intro p e s m below meth c T0 B W0
  refine Go.cast (ef_cp2_10 m ar kA vs mo ) ?_
  have l_ar := nlt A1.lt
  refine g_aload_n B W0 (d_jdk_65_method_119_0) rfl rfl ?_
  refine g_iload_n B W0 (d_jdk_65_method_119_1) rfl ?_
  refine g_aload_n B W0 (d_jdk_65_method_119_2) rfl rfl ?_
  obtain ⟨T101, W101, st101⟩ := x_getClass B W0 (d_jdk_65_method_119_3) (tw hw 189 rfl) (tw hw 190 rfl) (tw hw 192 rfl) (tw hw 191 rfl) (tw hw 193 rfl) X1 Mo #[.val (.ref ar), .val (.int 15)] [(.int 15), (.ref ar)] rfl 2 rfl (by decide) (by decide)
  refine st101 _ ?_
  obtain ⟨T102, h102, v102, W102, Q102, st102⟩ := x_static B W101 [(.ref ar), (.int 15), (.ref mo)] (c_cp3_10 l Z a0 hw ar kA vs mo h0 A1 hbx X1 Mo) (d_jdk_65_method_119_6) (tw hw 195 rfl) (tw hw 196 rfl) (tw hw 187 rfl) (tw hw 197 rfl) (by decide) (lenOf pd___Ljava_lang_Object_ILjava_lang_Class___Ljava_lang_Object_ rfl) #[.val (.ref ar), .val (.int 15)] [] rfl 0 rfl (by decide) (by decide) (by decide) (by decide)
  obtain ⟨b102, kB102, vs102, rfl, gb102, K102, A102, vl102, O102, X102, ag102⟩ := Q102
  have s103 := K102.1
  refine st102 _ ?_
  exact r_a B W102 rfl rfl rfl (d_jdk_65_method_119_9) (by decide) (by decide) ⟨_, _, _, rfl, by omega, ((Keep.refl h0 []).trans K102 all0), A102, vl102, O102, X102, ag102⟩
theorem ef_cp3_15 (m : MethodId) (ar : Addr) (kA : ClassId) (vs : List Value) (mo : Addr) : entryFrame m #[(.ref ar), (.int 22), (.ref mo)] 4 = mkF m 0 #[.val (.ref ar), .val (.int 22), .val (.ref mo), .unset] [] := by first | (simp [entryFrame, mkF, argsToLocals, Value.category]; done) | rfl
def Q_cp3_15 (Z : State) (ar : Addr) (kA : ClassId) (vs : List Value) (mo : Addr) (h0 : Heap) (v : Option Value) (h : Heap) : Prop := ∃ (b : Addr) (kB : ClassId) (vs2 : List Value), v = some (.ref b) ∧ h0.size ≤ b ∧ Keep h0 h [] ∧ Arv Z h b kB (.object "java/lang/Object") 22 vs2 .null ∧ vs2.length = Int32.toNatClampNeg 22 ∧ Ovr Z kB "java/lang/Object" ∧ Exa Z h b "[Ljava/lang/Object;" ∧ ∀ i : Nat, i < Int32.toNatClampNeg 15 → vs2.getD i .null = vs.getD i .null
set_option maxRecDepth 65536 in
set_option maxHeartbeats 40000000 in
theorem c_cp3_15 (l : Launch) (Z : State) (a0 : Array Value) (hw : ∀ d ∈ tables_1, d.before a0 Z = true) (ar : Addr) (kA : ClassId) (vs : List Value) (mo : Addr) (h0 : Heap) (A1 : Arv Z h0 ar kA (.object "java/lang/Object") 15 vs .null) (hbx : ∀ i : Nat, i < Int32.toNatClampNeg 15 → ∃ y : Addr, vs.getD i .null = .ref y ∧ Exa Z Z.heap y "java/lang/Integer") (X1 : Exa Z h0 ar "[Ljava/lang/Object;") (Mo : Mi Z "[Ljava/lang/Object;" mo) :
    Con l Z (⟨"java/util/Arrays", "copyOf", "([Ljava/lang/Object;ILjava/lang/Class;)[Ljava/lang/Object;"⟩ : MethodName) jdk_65_method_120_code 4 (Option.some (FieldType.array (FieldType.object "java/lang/Object"))) [] ({ frames := 1, cells := 1, slots := 22, locals := 40 } : Room) #[(.ref ar), (.int 22), (.ref mo)] h0 (Q_cp3_15 Z ar kA vs mo h0) := by
  refine Con.of (plainFor_of_name pn_java_util_Arrays) ?_
  intro p e s m below meth c T0 B W0
  refine Go.cast (ef_cp3_15 m ar kA vs mo ) ?_
  have l_ar := nlt A1.lt
  refine g_aload_n B W0 (d_jdk_65_method_120_0) rfl rfl ?_
  obtain ⟨T101, W101, st101⟩ := x_ldcM B W0 (d_jdk_65_method_120_1) (tw hw 198 rfl) Mo #[.val (.ref ar), .val (.int 22), .val (.ref mo), .unset] [(.ref mo)]
  refine st101 _ ?_
  refine g_acmp_n B W101 (d_jdk_65_method_120_3) rfl rfl (XT.aa_ne_f rfl) ?_
  show Go p.tables e below _ T101 (mkF m 6 #[.val (.ref ar), .val (.int 22), .val (.ref mo), .unset] [])
  refine g_iload_n B W101 (d_jdk_65_method_120_6) rfl ?_
  obtain ⟨T102, h102, b102, cA102, gb102, W102, K102, A102, O102, E102, st102⟩ := x_newRE B W101 (z := 22) (ad := "[Ljava/lang/Object;") 22 (d_jdk_65_method_120_7) (tw hw 199 rfl) (tw hw 114 rfl) (by decide) (by decide) (by decide) (by decide) (by decide) (by decide +kernel) #[.val (.ref ar), .val (.int 22), .val (.ref mo), .unset] []
  have l102 := nlt A102.lt
  have z102 := W101.size
  refine st102 _ ?_
  have s103 := K102.1
  refine g_goto B W102 (d_jdk_65_method_120_10) (pc' := 24) (by decide) ?_
  show Go p.tables e below _ T102 (mkF m 24 #[.val (.ref ar), .val (.int 22), .val (.ref mo), .unset] [(.ref b102)])
  refine g_astore_n B W102 (d_jdk_65_method_120_24) rfl (l' := #[.val (.ref ar), .val (.int 22), .val (.ref mo), .val (.ref b102)]) rfl ?_
  refine g_aload_n B W102 (d_jdk_65_method_120_25) rfl rfl ?_
  refine g_iconst B W102 (d_jdk_65_method_120_26) (v := 0) (by decide) ?_
  refine g_aload_n B W102 (d_jdk_65_method_120_27) rfl rfl ?_
  refine g_iconst B W102 (d_jdk_65_method_120_28) (v := 0) (by decide) ?_
  refine g_aload_n B W102 (d_jdk_65_method_120_29) rfl rfl ?_
  have f104 := (A1.keep K102 nin0)
  refine g_aalen B W102 (d_jdk_65_method_120_30) f104 ?_
  refine g_iload_n B W102 (d_jdk_65_method_120_31) rfl ?_
  obtain ⟨T105, h105, v105, W105, Q105, st105⟩ := x_static B W102 [(.int 15), (.int 22)] (c_min l Z a0 hw 15 22 h102) (d_jdk_65_method_120_32) (tw hw 200 rfl) (tw hw 48 rfl) (tw hw 49 rfl) (tw hw 50 rfl) (by decide) (lenOf pd__II_I rfl) #[.val (.ref ar), .val (.int 22), .val (.ref mo), .val (.ref b102)] [(.int 0), (.ref b102), (.int 0), (.ref ar)] rfl 4 rfl (by decide) (by decide) (by decide) (by decide)
  obtain ⟨rfl, rfl⟩ := Q105
  refine st105 _ ?_
  rw [show mi 15 22 = 15 by decide]
  show Go p.tables e below _ T105 (mkF m 35 #[.val (.ref ar), .val (.int 22), .val (.ref mo), .val (.ref b102)] [(.int 15), (.int 0), (.ref b102), (.int 0), (.ref ar)])
  have e0 : Int32.toNatClampNeg 0 = 0 := by decide
  have ez : Int32.toNatClampNeg 15 = 15 := by decide
  obtain ⟨T106, h106, W106, K106, A106, st106⟩ := x_acopy B W105 (sp := 0) (dp := 0) (nn := 15) (us := (List.range 15).map fun i => vs.getD (0 + i) .null) (d_jdk_65_method_120_35) (tw hw 201 rfl) (tw hw 204 rfl) (tw hw 202 rfl) (tw hw 203 rfl) f104 A102 (Or.inr ⟨rfl, rfl, own_stos A102 O102 W105.old.2 (tw hw 162 rfl) (fun i hi => hbx i (by omega))⟩) (by decide) (by decide) (by decide) (by decide) (by decide) (by rw [e0, ez]) (by decide) (by omega) #[.val (.ref ar), .val (.int 22), .val (.ref mo), .val (.ref b102)] [] rfl 0 rfl (by decide) (by decide)
  rw [e0, ez] at A106
  refine st106 _ ?_
  have s107 := K106.1
  refine g_aload_n B W106 (d_jdk_65_method_120_38) rfl rfl ?_
  have f108 := (E102.keep K106)
  exact r_a B W106 rfl rfl rfl (d_jdk_65_method_120_39) (by decide) (by decide) ⟨_, _, _, rfl, by omega, (((Keep.refl h0 []).trans K102 all0).trans K106 (allS (Or.inr (by omega)) all0)), A106, (own_gro vs 15 22 (by decide)).1.trans (by decide), O102, f108, fun i hi => (own_gro vs 15 22 (by decide)).2 i (by omega)⟩
theorem ef_cp2_15 (m : MethodId) (ar : Addr) (kA : ClassId) (vs : List Value) (mo : Addr) : entryFrame m #[(.ref ar), (.int 22)] 2 = mkF m 0 #[.val (.ref ar), .val (.int 22)] [] := by first | (simp [entryFrame, mkF, argsToLocals, Value.category]; done) | rfl
def Q_cp2_15 (Z : State) (ar : Addr) (kA : ClassId) (vs : List Value) (mo : Addr) (h0 : Heap) (v : Option Value) (h : Heap) : Prop := ∃ (b : Addr) (kB : ClassId) (vs2 : List Value), v = some (.ref b) ∧ h0.size ≤ b ∧ Keep h0 h [] ∧ Arv Z h b kB (.object "java/lang/Object") 22 vs2 .null ∧ vs2.length = Int32.toNatClampNeg 22 ∧ Ovr Z kB "java/lang/Object" ∧ Exa Z h b "[Ljava/lang/Object;" ∧ ∀ i : Nat, i < Int32.toNatClampNeg 15 → vs2.getD i .null = vs.getD i .null
set_option maxRecDepth 65536 in
set_option maxHeartbeats 40000000 in
theorem c_cp2_15 (l : Launch) (Z : State) (a0 : Array Value) (hw : ∀ d ∈ tables_1, d.before a0 Z = true) (ar : Addr) (kA : ClassId) (vs : List Value) (mo : Addr) (h0 : Heap) (A1 : Arv Z h0 ar kA (.object "java/lang/Object") 15 vs .null) (hbx : ∀ i : Nat, i < Int32.toNatClampNeg 15 → ∃ y : Addr, vs.getD i .null = .ref y ∧ Exa Z Z.heap y "java/lang/Integer") (X1 : Exa Z h0 ar "[Ljava/lang/Object;") (Mo : Mi Z "[Ljava/lang/Object;" mo) :
    Con l Z (⟨"java/util/Arrays", "copyOf", "([Ljava/lang/Object;I)[Ljava/lang/Object;"⟩ : MethodName) jdk_65_method_119_code 2 (Option.some (FieldType.array (FieldType.object "java/lang/Object"))) [] ({ frames := 2, cells := 1, slots := 22, locals := 55 } : Room) #[(.ref ar), (.int 22)] h0 (Q_cp2_15 Z ar kA vs mo h0) := by
  refine Con.of (plainFor_of_name pn_java_util_Arrays) ?_
  intro p e s m below meth c T0 B W0
  refine Go.cast (ef_cp2_15 m ar kA vs mo ) ?_
  have l_ar := nlt A1.lt
  refine g_aload_n B W0 (d_jdk_65_method_119_0) rfl rfl ?_
  refine g_iload_n B W0 (d_jdk_65_method_119_1) rfl ?_
  refine g_aload_n B W0 (d_jdk_65_method_119_2) rfl rfl ?_
  obtain ⟨T101, W101, st101⟩ := x_getClass B W0 (d_jdk_65_method_119_3) (tw hw 189 rfl) (tw hw 190 rfl) (tw hw 192 rfl) (tw hw 191 rfl) (tw hw 193 rfl) X1 Mo #[.val (.ref ar), .val (.int 22)] [(.int 22), (.ref ar)] rfl 2 rfl (by decide) (by decide)
  refine st101 _ ?_
  obtain ⟨T102, h102, v102, W102, Q102, st102⟩ := x_static B W101 [(.ref ar), (.int 22), (.ref mo)] (c_cp3_15 l Z a0 hw ar kA vs mo h0 A1 hbx X1 Mo) (d_jdk_65_method_119_6) (tw hw 195 rfl) (tw hw 196 rfl) (tw hw 187 rfl) (tw hw 197 rfl) (by decide) (lenOf pd___Ljava_lang_Object_ILjava_lang_Class___Ljava_lang_Object_ rfl) #[.val (.ref ar), .val (.int 22)] [] rfl 0 rfl (by decide) (by decide) (by decide) (by decide)
  obtain ⟨b102, kB102, vs102, rfl, gb102, K102, A102, vl102, O102, X102, ag102⟩ := Q102
  have s103 := K102.1
  refine st102 _ ?_
  exact r_a B W102 rfl rfl rfl (d_jdk_65_method_119_9) (by decide) (by decide) ⟨_, _, _, rfl, by omega, ((Keep.refl h0 []).trans K102 all0), A102, vl102, O102, X102, ag102⟩
theorem ef_cp3_22 (m : MethodId) (ar : Addr) (kA : ClassId) (vs : List Value) (mo : Addr) : entryFrame m #[(.ref ar), (.int 33), (.ref mo)] 4 = mkF m 0 #[.val (.ref ar), .val (.int 33), .val (.ref mo), .unset] [] := by first | (simp [entryFrame, mkF, argsToLocals, Value.category]; done) | rfl
def Q_cp3_22 (Z : State) (ar : Addr) (kA : ClassId) (vs : List Value) (mo : Addr) (h0 : Heap) (v : Option Value) (h : Heap) : Prop := ∃ (b : Addr) (kB : ClassId) (vs2 : List Value), v = some (.ref b) ∧ h0.size ≤ b ∧ Keep h0 h [] ∧ Arv Z h b kB (.object "java/lang/Object") 33 vs2 .null ∧ vs2.length = Int32.toNatClampNeg 33 ∧ Ovr Z kB "java/lang/Object" ∧ Exa Z h b "[Ljava/lang/Object;" ∧ ∀ i : Nat, i < Int32.toNatClampNeg 22 → vs2.getD i .null = vs.getD i .null
set_option maxRecDepth 65536 in
set_option maxHeartbeats 40000000 in
theorem c_cp3_22 (l : Launch) (Z : State) (a0 : Array Value) (hw : ∀ d ∈ tables_1, d.before a0 Z = true) (ar : Addr) (kA : ClassId) (vs : List Value) (mo : Addr) (h0 : Heap) (A1 : Arv Z h0 ar kA (.object "java/lang/Object") 22 vs .null) (hbx : ∀ i : Nat, i < Int32.toNatClampNeg 22 → ∃ y : Addr, vs.getD i .null = .ref y ∧ Exa Z Z.heap y "java/lang/Integer") (X1 : Exa Z h0 ar "[Ljava/lang/Object;") (Mo : Mi Z "[Ljava/lang/Object;" mo) :
    Con l Z (⟨"java/util/Arrays", "copyOf", "([Ljava/lang/Object;ILjava/lang/Class;)[Ljava/lang/Object;"⟩ : MethodName) jdk_65_method_120_code 4 (Option.some (FieldType.array (FieldType.object "java/lang/Object"))) [] ({ frames := 1, cells := 1, slots := 33, locals := 40 } : Room) #[(.ref ar), (.int 33), (.ref mo)] h0 (Q_cp3_22 Z ar kA vs mo h0) := by
  refine Con.of (plainFor_of_name pn_java_util_Arrays) ?_
  intro p e s m below meth c T0 B W0
  refine Go.cast (ef_cp3_22 m ar kA vs mo ) ?_
  have l_ar := nlt A1.lt
  refine g_aload_n B W0 (d_jdk_65_method_120_0) rfl rfl ?_
  obtain ⟨T101, W101, st101⟩ := x_ldcM B W0 (d_jdk_65_method_120_1) (tw hw 198 rfl) Mo #[.val (.ref ar), .val (.int 33), .val (.ref mo), .unset] [(.ref mo)]
  refine st101 _ ?_
  refine g_acmp_n B W101 (d_jdk_65_method_120_3) rfl rfl (XT.aa_ne_f rfl) ?_
  show Go p.tables e below _ T101 (mkF m 6 #[.val (.ref ar), .val (.int 33), .val (.ref mo), .unset] [])
  refine g_iload_n B W101 (d_jdk_65_method_120_6) rfl ?_
  obtain ⟨T102, h102, b102, cA102, gb102, W102, K102, A102, O102, E102, st102⟩ := x_newRE B W101 (z := 33) (ad := "[Ljava/lang/Object;") 33 (d_jdk_65_method_120_7) (tw hw 199 rfl) (tw hw 114 rfl) (by decide) (by decide) (by decide) (by decide) (by decide) (by decide +kernel) #[.val (.ref ar), .val (.int 33), .val (.ref mo), .unset] []
  have l102 := nlt A102.lt
  have z102 := W101.size
  refine st102 _ ?_
  have s103 := K102.1
  refine g_goto B W102 (d_jdk_65_method_120_10) (pc' := 24) (by decide) ?_
  show Go p.tables e below _ T102 (mkF m 24 #[.val (.ref ar), .val (.int 33), .val (.ref mo), .unset] [(.ref b102)])
  refine g_astore_n B W102 (d_jdk_65_method_120_24) rfl (l' := #[.val (.ref ar), .val (.int 33), .val (.ref mo), .val (.ref b102)]) rfl ?_
  refine g_aload_n B W102 (d_jdk_65_method_120_25) rfl rfl ?_
  refine g_iconst B W102 (d_jdk_65_method_120_26) (v := 0) (by decide) ?_
  refine g_aload_n B W102 (d_jdk_65_method_120_27) rfl rfl ?_
  refine g_iconst B W102 (d_jdk_65_method_120_28) (v := 0) (by decide) ?_
  refine g_aload_n B W102 (d_jdk_65_method_120_29) rfl rfl ?_
  have f104 := (A1.keep K102 nin0)
  refine g_aalen B W102 (d_jdk_65_method_120_30) f104 ?_
  refine g_iload_n B W102 (d_jdk_65_method_120_31) rfl ?_
  obtain ⟨T105, h105, v105, W105, Q105, st105⟩ := x_static B W102 [(.int 22), (.int 33)] (c_min l Z a0 hw 22 33 h102) (d_jdk_65_method_120_32) (tw hw 200 rfl) (tw hw 48 rfl) (tw hw 49 rfl) (tw hw 50 rfl) (by decide) (lenOf pd__II_I rfl) #[.val (.ref ar), .val (.int 33), .val (.ref mo), .val (.ref b102)] [(.int 0), (.ref b102), (.int 0), (.ref ar)] rfl 4 rfl (by decide) (by decide) (by decide) (by decide)
  obtain ⟨rfl, rfl⟩ := Q105
  refine st105 _ ?_
  rw [show mi 22 33 = 22 by decide]
  show Go p.tables e below _ T105 (mkF m 35 #[.val (.ref ar), .val (.int 33), .val (.ref mo), .val (.ref b102)] [(.int 22), (.int 0), (.ref b102), (.int 0), (.ref ar)])
  have e0 : Int32.toNatClampNeg 0 = 0 := by decide
  have ez : Int32.toNatClampNeg 22 = 22 := by decide
  obtain ⟨T106, h106, W106, K106, A106, st106⟩ := x_acopy B W105 (sp := 0) (dp := 0) (nn := 22) (us := (List.range 22).map fun i => vs.getD (0 + i) .null) (d_jdk_65_method_120_35) (tw hw 201 rfl) (tw hw 204 rfl) (tw hw 202 rfl) (tw hw 203 rfl) f104 A102 (Or.inr ⟨rfl, rfl, own_stos A102 O102 W105.old.2 (tw hw 162 rfl) (fun i hi => hbx i (by omega))⟩) (by decide) (by decide) (by decide) (by decide) (by decide) (by rw [e0, ez]) (by decide) (by omega) #[.val (.ref ar), .val (.int 33), .val (.ref mo), .val (.ref b102)] [] rfl 0 rfl (by decide) (by decide)
  rw [e0, ez] at A106
  refine st106 _ ?_
  have s107 := K106.1
  refine g_aload_n B W106 (d_jdk_65_method_120_38) rfl rfl ?_
  have f108 := (E102.keep K106)
  exact r_a B W106 rfl rfl rfl (d_jdk_65_method_120_39) (by decide) (by decide) ⟨_, _, _, rfl, by omega, (((Keep.refl h0 []).trans K102 all0).trans K106 (allS (Or.inr (by omega)) all0)), A106, (own_gro vs 22 33 (by decide)).1.trans (by decide), O102, f108, fun i hi => (own_gro vs 22 33 (by decide)).2 i (by omega)⟩
theorem ef_cp2_22 (m : MethodId) (ar : Addr) (kA : ClassId) (vs : List Value) (mo : Addr) : entryFrame m #[(.ref ar), (.int 33)] 2 = mkF m 0 #[.val (.ref ar), .val (.int 33)] [] := by first | (simp [entryFrame, mkF, argsToLocals, Value.category]; done) | rfl
def Q_cp2_22 (Z : State) (ar : Addr) (kA : ClassId) (vs : List Value) (mo : Addr) (h0 : Heap) (v : Option Value) (h : Heap) : Prop := ∃ (b : Addr) (kB : ClassId) (vs2 : List Value), v = some (.ref b) ∧ h0.size ≤ b ∧ Keep h0 h [] ∧ Arv Z h b kB (.object "java/lang/Object") 33 vs2 .null ∧ vs2.length = Int32.toNatClampNeg 33 ∧ Ovr Z kB "java/lang/Object" ∧ Exa Z h b "[Ljava/lang/Object;" ∧ ∀ i : Nat, i < Int32.toNatClampNeg 22 → vs2.getD i .null = vs.getD i .null
set_option maxRecDepth 65536 in
set_option maxHeartbeats 40000000 in
theorem c_cp2_22 (l : Launch) (Z : State) (a0 : Array Value) (hw : ∀ d ∈ tables_1, d.before a0 Z = true) (ar : Addr) (kA : ClassId) (vs : List Value) (mo : Addr) (h0 : Heap) (A1 : Arv Z h0 ar kA (.object "java/lang/Object") 22 vs .null) (hbx : ∀ i : Nat, i < Int32.toNatClampNeg 22 → ∃ y : Addr, vs.getD i .null = .ref y ∧ Exa Z Z.heap y "java/lang/Integer") (X1 : Exa Z h0 ar "[Ljava/lang/Object;") (Mo : Mi Z "[Ljava/lang/Object;" mo) :
    Con l Z (⟨"java/util/Arrays", "copyOf", "([Ljava/lang/Object;I)[Ljava/lang/Object;"⟩ : MethodName) jdk_65_method_119_code 2 (Option.some (FieldType.array (FieldType.object "java/lang/Object"))) [] ({ frames := 2, cells := 1, slots := 33, locals := 55 } : Room) #[(.ref ar), (.int 33)] h0 (Q_cp2_22 Z ar kA vs mo h0) := by
  refine Con.of (plainFor_of_name pn_java_util_Arrays) ?_
  intro p e s m below meth c T0 B W0
  refine Go.cast (ef_cp2_22 m ar kA vs mo ) ?_
  have l_ar := nlt A1.lt
  refine g_aload_n B W0 (d_jdk_65_method_119_0) rfl rfl ?_
  refine g_iload_n B W0 (d_jdk_65_method_119_1) rfl ?_
  refine g_aload_n B W0 (d_jdk_65_method_119_2) rfl rfl ?_
  obtain ⟨T101, W101, st101⟩ := x_getClass B W0 (d_jdk_65_method_119_3) (tw hw 189 rfl) (tw hw 190 rfl) (tw hw 192 rfl) (tw hw 191 rfl) (tw hw 193 rfl) X1 Mo #[.val (.ref ar), .val (.int 33)] [(.int 33), (.ref ar)] rfl 2 rfl (by decide) (by decide)
  refine st101 _ ?_
  obtain ⟨T102, h102, v102, W102, Q102, st102⟩ := x_static B W101 [(.ref ar), (.int 33), (.ref mo)] (c_cp3_22 l Z a0 hw ar kA vs mo h0 A1 hbx X1 Mo) (d_jdk_65_method_119_6) (tw hw 195 rfl) (tw hw 196 rfl) (tw hw 187 rfl) (tw hw 197 rfl) (by decide) (lenOf pd___Ljava_lang_Object_ILjava_lang_Class___Ljava_lang_Object_ rfl) #[.val (.ref ar), .val (.int 33)] [] rfl 0 rfl (by decide) (by decide) (by decide) (by decide)
  obtain ⟨b102, kB102, vs102, rfl, gb102, K102, A102, vl102, O102, X102, ag102⟩ := Q102
  have s103 := K102.1
  refine st102 _ ?_
  exact r_a B W102 rfl rfl rfl (d_jdk_65_method_119_9) (by decide) (by decide) ⟨_, _, _, rfl, by omega, ((Keep.refl h0 []).trans K102 all0), A102, vl102, O102, X102, ag102⟩
theorem ef_cp3_33 (m : MethodId) (ar : Addr) (kA : ClassId) (vs : List Value) (mo : Addr) : entryFrame m #[(.ref ar), (.int 49), (.ref mo)] 4 = mkF m 0 #[.val (.ref ar), .val (.int 49), .val (.ref mo), .unset] [] := by first | (simp [entryFrame, mkF, argsToLocals, Value.category]; done) | rfl
def Q_cp3_33 (Z : State) (ar : Addr) (kA : ClassId) (vs : List Value) (mo : Addr) (h0 : Heap) (v : Option Value) (h : Heap) : Prop := ∃ (b : Addr) (kB : ClassId) (vs2 : List Value), v = some (.ref b) ∧ h0.size ≤ b ∧ Keep h0 h [] ∧ Arv Z h b kB (.object "java/lang/Object") 49 vs2 .null ∧ vs2.length = Int32.toNatClampNeg 49 ∧ Ovr Z kB "java/lang/Object" ∧ Exa Z h b "[Ljava/lang/Object;" ∧ ∀ i : Nat, i < Int32.toNatClampNeg 33 → vs2.getD i .null = vs.getD i .null
set_option maxRecDepth 65536 in
set_option maxHeartbeats 40000000 in
theorem c_cp3_33 (l : Launch) (Z : State) (a0 : Array Value) (hw : ∀ d ∈ tables_1, d.before a0 Z = true) (ar : Addr) (kA : ClassId) (vs : List Value) (mo : Addr) (h0 : Heap) (A1 : Arv Z h0 ar kA (.object "java/lang/Object") 33 vs .null) (hbx : ∀ i : Nat, i < Int32.toNatClampNeg 33 → ∃ y : Addr, vs.getD i .null = .ref y ∧ Exa Z Z.heap y "java/lang/Integer") (X1 : Exa Z h0 ar "[Ljava/lang/Object;") (Mo : Mi Z "[Ljava/lang/Object;" mo) :
    Con l Z (⟨"java/util/Arrays", "copyOf", "([Ljava/lang/Object;ILjava/lang/Class;)[Ljava/lang/Object;"⟩ : MethodName) jdk_65_method_120_code 4 (Option.some (FieldType.array (FieldType.object "java/lang/Object"))) [] ({ frames := 1, cells := 1, slots := 49, locals := 40 } : Room) #[(.ref ar), (.int 49), (.ref mo)] h0 (Q_cp3_33 Z ar kA vs mo h0) := by
  refine Con.of (plainFor_of_name pn_java_util_Arrays) ?_
  intro p e s m below meth c T0 B W0
  refine Go.cast (ef_cp3_33 m ar kA vs mo ) ?_
  have l_ar := nlt A1.lt
  refine g_aload_n B W0 (d_jdk_65_method_120_0) rfl rfl ?_
  obtain ⟨T101, W101, st101⟩ := x_ldcM B W0 (d_jdk_65_method_120_1) (tw hw 198 rfl) Mo #[.val (.ref ar), .val (.int 49), .val (.ref mo), .unset] [(.ref mo)]
  refine st101 _ ?_
  refine g_acmp_n B W101 (d_jdk_65_method_120_3) rfl rfl (XT.aa_ne_f rfl) ?_
  show Go p.tables e below _ T101 (mkF m 6 #[.val (.ref ar), .val (.int 49), .val (.ref mo), .unset] [])
  refine g_iload_n B W101 (d_jdk_65_method_120_6) rfl ?_
  obtain ⟨T102, h102, b102, cA102, gb102, W102, K102, A102, O102, E102, st102⟩ := x_newRE B W101 (z := 49) (ad := "[Ljava/lang/Object;") 49 (d_jdk_65_method_120_7) (tw hw 199 rfl) (tw hw 114 rfl) (by decide) (by decide) (by decide) (by decide) (by decide) (by decide +kernel) #[.val (.ref ar), .val (.int 49), .val (.ref mo), .unset] []
  have l102 := nlt A102.lt
  have z102 := W101.size
  refine st102 _ ?_
  have s103 := K102.1
  refine g_goto B W102 (d_jdk_65_method_120_10) (pc' := 24) (by decide) ?_
  show Go p.tables e below _ T102 (mkF m 24 #[.val (.ref ar), .val (.int 49), .val (.ref mo), .unset] [(.ref b102)])
  refine g_astore_n B W102 (d_jdk_65_method_120_24) rfl (l' := #[.val (.ref ar), .val (.int 49), .val (.ref mo), .val (.ref b102)]) rfl ?_
  refine g_aload_n B W102 (d_jdk_65_method_120_25) rfl rfl ?_
  refine g_iconst B W102 (d_jdk_65_method_120_26) (v := 0) (by decide) ?_
  refine g_aload_n B W102 (d_jdk_65_method_120_27) rfl rfl ?_
  refine g_iconst B W102 (d_jdk_65_method_120_28) (v := 0) (by decide) ?_
  refine g_aload_n B W102 (d_jdk_65_method_120_29) rfl rfl ?_
  have f104 := (A1.keep K102 nin0)
  refine g_aalen B W102 (d_jdk_65_method_120_30) f104 ?_
  refine g_iload_n B W102 (d_jdk_65_method_120_31) rfl ?_
  obtain ⟨T105, h105, v105, W105, Q105, st105⟩ := x_static B W102 [(.int 33), (.int 49)] (c_min l Z a0 hw 33 49 h102) (d_jdk_65_method_120_32) (tw hw 200 rfl) (tw hw 48 rfl) (tw hw 49 rfl) (tw hw 50 rfl) (by decide) (lenOf pd__II_I rfl) #[.val (.ref ar), .val (.int 49), .val (.ref mo), .val (.ref b102)] [(.int 0), (.ref b102), (.int 0), (.ref ar)] rfl 4 rfl (by decide) (by decide) (by decide) (by decide)
  obtain ⟨rfl, rfl⟩ := Q105
  refine st105 _ ?_
  rw [show mi 33 49 = 33 by decide]
  show Go p.tables e below _ T105 (mkF m 35 #[.val (.ref ar), .val (.int 49), .val (.ref mo), .val (.ref b102)] [(.int 33), (.int 0), (.ref b102), (.int 0), (.ref ar)])
  have e0 : Int32.toNatClampNeg 0 = 0 := by decide
  have ez : Int32.toNatClampNeg 33 = 33 := by decide
  obtain ⟨T106, h106, W106, K106, A106, st106⟩ := x_acopy B W105 (sp := 0) (dp := 0) (nn := 33) (us := (List.range 33).map fun i => vs.getD (0 + i) .null) (d_jdk_65_method_120_35) (tw hw 201 rfl) (tw hw 204 rfl) (tw hw 202 rfl) (tw hw 203 rfl) f104 A102 (Or.inr ⟨rfl, rfl, own_stos A102 O102 W105.old.2 (tw hw 162 rfl) (fun i hi => hbx i (by omega))⟩) (by decide) (by decide) (by decide) (by decide) (by decide) (by rw [e0, ez]) (by decide) (by omega) #[.val (.ref ar), .val (.int 49), .val (.ref mo), .val (.ref b102)] [] rfl 0 rfl (by decide) (by decide)
  rw [e0, ez] at A106
  refine st106 _ ?_
  have s107 := K106.1
  refine g_aload_n B W106 (d_jdk_65_method_120_38) rfl rfl ?_
  have f108 := (E102.keep K106)
  exact r_a B W106 rfl rfl rfl (d_jdk_65_method_120_39) (by decide) (by decide) ⟨_, _, _, rfl, by omega, (((Keep.refl h0 []).trans K102 all0).trans K106 (allS (Or.inr (by omega)) all0)), A106, (own_gro vs 33 49 (by decide)).1.trans (by decide), O102, f108, fun i hi => (own_gro vs 33 49 (by decide)).2 i (by omega)⟩
theorem ef_cp2_33 (m : MethodId) (ar : Addr) (kA : ClassId) (vs : List Value) (mo : Addr) : entryFrame m #[(.ref ar), (.int 49)] 2 = mkF m 0 #[.val (.ref ar), .val (.int 49)] [] := by first | (simp [entryFrame, mkF, argsToLocals, Value.category]; done) | rfl
def Q_cp2_33 (Z : State) (ar : Addr) (kA : ClassId) (vs : List Value) (mo : Addr) (h0 : Heap) (v : Option Value) (h : Heap) : Prop := ∃ (b : Addr) (kB : ClassId) (vs2 : List Value), v = some (.ref b) ∧ h0.size ≤ b ∧ Keep h0 h [] ∧ Arv Z h b kB (.object "java/lang/Object") 49 vs2 .null ∧ vs2.length = Int32.toNatClampNeg 49 ∧ Ovr Z kB "java/lang/Object" ∧ Exa Z h b "[Ljava/lang/Object;" ∧ ∀ i : Nat, i < Int32.toNatClampNeg 33 → vs2.getD i .null = vs.getD i .null
set_option maxRecDepth 65536 in
set_option maxHeartbeats 40000000 in
theorem c_cp2_33 (l : Launch) (Z : State) (a0 : Array Value) (hw : ∀ d ∈ tables_1, d.before a0 Z = true) (ar : Addr) (kA : ClassId) (vs : List Value) (mo : Addr) (h0 : Heap) (A1 : Arv Z h0 ar kA (.object "java/lang/Object") 33 vs .null) (hbx : ∀ i : Nat, i < Int32.toNatClampNeg 33 → ∃ y : Addr, vs.getD i .null = .ref y ∧ Exa Z Z.heap y "java/lang/Integer") (X1 : Exa Z h0 ar "[Ljava/lang/Object;") (Mo : Mi Z "[Ljava/lang/Object;" mo) :
    Con l Z (⟨"java/util/Arrays", "copyOf", "([Ljava/lang/Object;I)[Ljava/lang/Object;"⟩ : MethodName) jdk_65_method_119_code 2 (Option.some (FieldType.array (FieldType.object "java/lang/Object"))) [] ({ frames := 2, cells := 1, slots := 49, locals := 55 } : Room) #[(.ref ar), (.int 49)] h0 (Q_cp2_33 Z ar kA vs mo h0) := by
  refine Con.of (plainFor_of_name pn_java_util_Arrays) ?_
  intro p e s m below meth c T0 B W0
  refine Go.cast (ef_cp2_33 m ar kA vs mo ) ?_
  have l_ar := nlt A1.lt
  refine g_aload_n B W0 (d_jdk_65_method_119_0) rfl rfl ?_
  refine g_iload_n B W0 (d_jdk_65_method_119_1) rfl ?_
  refine g_aload_n B W0 (d_jdk_65_method_119_2) rfl rfl ?_
  obtain ⟨T101, W101, st101⟩ := x_getClass B W0 (d_jdk_65_method_119_3) (tw hw 189 rfl) (tw hw 190 rfl) (tw hw 192 rfl) (tw hw 191 rfl) (tw hw 193 rfl) X1 Mo #[.val (.ref ar), .val (.int 49)] [(.int 49), (.ref ar)] rfl 2 rfl (by decide) (by decide)
  refine st101 _ ?_
  obtain ⟨T102, h102, v102, W102, Q102, st102⟩ := x_static B W101 [(.ref ar), (.int 49), (.ref mo)] (c_cp3_33 l Z a0 hw ar kA vs mo h0 A1 hbx X1 Mo) (d_jdk_65_method_119_6) (tw hw 195 rfl) (tw hw 196 rfl) (tw hw 187 rfl) (tw hw 197 rfl) (by decide) (lenOf pd___Ljava_lang_Object_ILjava_lang_Class___Ljava_lang_Object_ rfl) #[.val (.ref ar), .val (.int 49)] [] rfl 0 rfl (by decide) (by decide) (by decide) (by decide)
  obtain ⟨b102, kB102, vs102, rfl, gb102, K102, A102, vl102, O102, X102, ag102⟩ := Q102
  have s103 := K102.1
  refine st102 _ ?_
  exact r_a B W102 rfl rfl rfl (d_jdk_65_method_119_9) (by decide) (by decide) ⟨_, _, _, rfl, by omega, ((Keep.refl h0 []).trans K102 all0), A102, vl102, O102, X102, ag102⟩
theorem ef_cp3_49 (m : MethodId) (ar : Addr) (kA : ClassId) (vs : List Value) (mo : Addr) : entryFrame m #[(.ref ar), (.int 73), (.ref mo)] 4 = mkF m 0 #[.val (.ref ar), .val (.int 73), .val (.ref mo), .unset] [] := by first | (simp [entryFrame, mkF, argsToLocals, Value.category]; done) | rfl
def Q_cp3_49 (Z : State) (ar : Addr) (kA : ClassId) (vs : List Value) (mo : Addr) (h0 : Heap) (v : Option Value) (h : Heap) : Prop := ∃ (b : Addr) (kB : ClassId) (vs2 : List Value), v = some (.ref b) ∧ h0.size ≤ b ∧ Keep h0 h [] ∧ Arv Z h b kB (.object "java/lang/Object") 73 vs2 .null ∧ vs2.length = Int32.toNatClampNeg 73 ∧ Ovr Z kB "java/lang/Object" ∧ Exa Z h b "[Ljava/lang/Object;" ∧ ∀ i : Nat, i < Int32.toNatClampNeg 49 → vs2.getD i .null = vs.getD i .null
set_option maxRecDepth 65536 in
set_option maxHeartbeats 40000000 in
theorem c_cp3_49 (l : Launch) (Z : State) (a0 : Array Value) (hw : ∀ d ∈ tables_1, d.before a0 Z = true) (ar : Addr) (kA : ClassId) (vs : List Value) (mo : Addr) (h0 : Heap) (A1 : Arv Z h0 ar kA (.object "java/lang/Object") 49 vs .null) (hbx : ∀ i : Nat, i < Int32.toNatClampNeg 49 → ∃ y : Addr, vs.getD i .null = .ref y ∧ Exa Z Z.heap y "java/lang/Integer") (X1 : Exa Z h0 ar "[Ljava/lang/Object;") (Mo : Mi Z "[Ljava/lang/Object;" mo) :
    Con l Z (⟨"java/util/Arrays", "copyOf", "([Ljava/lang/Object;ILjava/lang/Class;)[Ljava/lang/Object;"⟩ : MethodName) jdk_65_method_120_code 4 (Option.some (FieldType.array (FieldType.object "java/lang/Object"))) [] ({ frames := 1, cells := 1, slots := 73, locals := 40 } : Room) #[(.ref ar), (.int 73), (.ref mo)] h0 (Q_cp3_49 Z ar kA vs mo h0) := by
  refine Con.of (plainFor_of_name pn_java_util_Arrays) ?_
  intro p e s m below meth c T0 B W0
  refine Go.cast (ef_cp3_49 m ar kA vs mo ) ?_
  have l_ar := nlt A1.lt
  refine g_aload_n B W0 (d_jdk_65_method_120_0) rfl rfl ?_
  obtain ⟨T101, W101, st101⟩ := x_ldcM B W0 (d_jdk_65_method_120_1) (tw hw 198 rfl) Mo #[.val (.ref ar), .val (.int 73), .val (.ref mo), .unset] [(.ref mo)]
  refine st101 _ ?_
  refine g_acmp_n B W101 (d_jdk_65_method_120_3) rfl rfl (XT.aa_ne_f rfl) ?_
  show Go p.tables e below _ T101 (mkF m 6 #[.val (.ref ar), .val (.int 73), .val (.ref mo), .unset] [])
  refine g_iload_n B W101 (d_jdk_65_method_120_6) rfl ?_
  obtain ⟨T102, h102, b102, cA102, gb102, W102, K102, A102, O102, E102, st102⟩ := x_newRE B W101 (z := 73) (ad := "[Ljava/lang/Object;") 73 (d_jdk_65_method_120_7) (tw hw 199 rfl) (tw hw 114 rfl) (by decide) (by decide) (by decide) (by decide) (by decide) (by decide +kernel) #[.val (.ref ar), .val (.int 73), .val (.ref mo), .unset] []
  have l102 := nlt A102.lt
  have z102 := W101.size
  refine st102 _ ?_
  have s103 := K102.1
  refine g_goto B W102 (d_jdk_65_method_120_10) (pc' := 24) (by decide) ?_
  show Go p.tables e below _ T102 (mkF m 24 #[.val (.ref ar), .val (.int 73), .val (.ref mo), .unset] [(.ref b102)])
  refine g_astore_n B W102 (d_jdk_65_method_120_24) rfl (l' := #[.val (.ref ar), .val (.int 73), .val (.ref mo), .val (.ref b102)]) rfl ?_
  refine g_aload_n B W102 (d_jdk_65_method_120_25) rfl rfl ?_
  refine g_iconst B W102 (d_jdk_65_method_120_26) (v := 0) (by decide) ?_
  refine g_aload_n B W102 (d_jdk_65_method_120_27) rfl rfl ?_
  refine g_iconst B W102 (d_jdk_65_method_120_28) (v := 0) (by decide) ?_
  refine g_aload_n B W102 (d_jdk_65_method_120_29) rfl rfl ?_
  have f104 := (A1.keep K102 nin0)
  refine g_aalen B W102 (d_jdk_65_method_120_30) f104 ?_
  refine g_iload_n B W102 (d_jdk_65_method_120_31) rfl ?_
  obtain ⟨T105, h105, v105, W105, Q105, st105⟩ := x_static B W102 [(.int 49), (.int 73)] (c_min l Z a0 hw 49 73 h102) (d_jdk_65_method_120_32) (tw hw 200 rfl) (tw hw 48 rfl) (tw hw 49 rfl) (tw hw 50 rfl) (by decide) (lenOf pd__II_I rfl) #[.val (.ref ar), .val (.int 73), .val (.ref mo), .val (.ref b102)] [(.int 0), (.ref b102), (.int 0), (.ref ar)] rfl 4 rfl (by decide) (by decide) (by decide) (by decide)
  obtain ⟨rfl, rfl⟩ := Q105
  refine st105 _ ?_
  rw [show mi 49 73 = 49 by decide]
  show Go p.tables e below _ T105 (mkF m 35 #[.val (.ref ar), .val (.int 73), .val (.ref mo), .val (.ref b102)] [(.int 49), (.int 0), (.ref b102), (.int 0), (.ref ar)])
  have e0 : Int32.toNatClampNeg 0 = 0 := by decide
  have ez : Int32.toNatClampNeg 49 = 49 := by decide
  obtain ⟨T106, h106, W106, K106, A106, st106⟩ := x_acopy B W105 (sp := 0) (dp := 0) (nn := 49) (us := (List.range 49).map fun i => vs.getD (0 + i) .null) (d_jdk_65_method_120_35) (tw hw 201 rfl) (tw hw 204 rfl) (tw hw 202 rfl) (tw hw 203 rfl) f104 A102 (Or.inr ⟨rfl, rfl, own_stos A102 O102 W105.old.2 (tw hw 162 rfl) (fun i hi => hbx i (by omega))⟩) (by decide) (by decide) (by decide) (by decide) (by decide) (by rw [e0, ez]) (by decide) (by omega) #[.val (.ref ar), .val (.int 73), .val (.ref mo), .val (.ref b102)] [] rfl 0 rfl (by decide) (by decide)
  rw [e0, ez] at A106
  refine st106 _ ?_
  have s107 := K106.1
  refine g_aload_n B W106 (d_jdk_65_method_120_38) rfl rfl ?_
  have f108 := (E102.keep K106)
  exact r_a B W106 rfl rfl rfl (d_jdk_65_method_120_39) (by decide) (by decide) ⟨_, _, _, rfl, by omega, (((Keep.refl h0 []).trans K102 all0).trans K106 (allS (Or.inr (by omega)) all0)), A106, (own_gro vs 49 73 (by decide)).1.trans (by decide), O102, f108, fun i hi => (own_gro vs 49 73 (by decide)).2 i (by omega)⟩
theorem ef_cp2_49 (m : MethodId) (ar : Addr) (kA : ClassId) (vs : List Value) (mo : Addr) : entryFrame m #[(.ref ar), (.int 73)] 2 = mkF m 0 #[.val (.ref ar), .val (.int 73)] [] := by first | (simp [entryFrame, mkF, argsToLocals, Value.category]; done) | rfl
def Q_cp2_49 (Z : State) (ar : Addr) (kA : ClassId) (vs : List Value) (mo : Addr) (h0 : Heap) (v : Option Value) (h : Heap) : Prop := ∃ (b : Addr) (kB : ClassId) (vs2 : List Value), v = some (.ref b) ∧ h0.size ≤ b ∧ Keep h0 h [] ∧ Arv Z h b kB (.object "java/lang/Object") 73 vs2 .null ∧ vs2.length = Int32.toNatClampNeg 73 ∧ Ovr Z kB "java/lang/Object" ∧ Exa Z h b "[Ljava/lang/Object;" ∧ ∀ i : Nat, i < Int32.toNatClampNeg 49 → vs2.getD i .null = vs.getD i .null
set_option maxRecDepth 65536 in
set_option maxHeartbeats 40000000 in
theorem c_cp2_49 (l : Launch) (Z : State) (a0 : Array Value) (hw : ∀ d ∈ tables_1, d.before a0 Z = true) (ar : Addr) (kA : ClassId) (vs : List Value) (mo : Addr) (h0 : Heap) (A1 : Arv Z h0 ar kA (.object "java/lang/Object") 49 vs .null) (hbx : ∀ i : Nat, i < Int32.toNatClampNeg 49 → ∃ y : Addr, vs.getD i .null = .ref y ∧ Exa Z Z.heap y "java/lang/Integer") (X1 : Exa Z h0 ar "[Ljava/lang/Object;") (Mo : Mi Z "[Ljava/lang/Object;" mo) :
    Con l Z (⟨"java/util/Arrays", "copyOf", "([Ljava/lang/Object;I)[Ljava/lang/Object;"⟩ : MethodName) jdk_65_method_119_code 2 (Option.some (FieldType.array (FieldType.object "java/lang/Object"))) [] ({ frames := 2, cells := 1, slots := 73, locals := 55 } : Room) #[(.ref ar), (.int 73)] h0 (Q_cp2_49 Z ar kA vs mo h0) := by
  refine Con.of (plainFor_of_name pn_java_util_Arrays) ?_
  intro p e s m below meth c T0 B W0
  refine Go.cast (ef_cp2_49 m ar kA vs mo ) ?_
  have l_ar := nlt A1.lt
  refine g_aload_n B W0 (d_jdk_65_method_119_0) rfl rfl ?_
  refine g_iload_n B W0 (d_jdk_65_method_119_1) rfl ?_
  refine g_aload_n B W0 (d_jdk_65_method_119_2) rfl rfl ?_
  obtain ⟨T101, W101, st101⟩ := x_getClass B W0 (d_jdk_65_method_119_3) (tw hw 189 rfl) (tw hw 190 rfl) (tw hw 192 rfl) (tw hw 191 rfl) (tw hw 193 rfl) X1 Mo #[.val (.ref ar), .val (.int 73)] [(.int 73), (.ref ar)] rfl 2 rfl (by decide) (by decide)
  refine st101 _ ?_
  obtain ⟨T102, h102, v102, W102, Q102, st102⟩ := x_static B W101 [(.ref ar), (.int 73), (.ref mo)] (c_cp3_49 l Z a0 hw ar kA vs mo h0 A1 hbx X1 Mo) (d_jdk_65_method_119_6) (tw hw 195 rfl) (tw hw 196 rfl) (tw hw 187 rfl) (tw hw 197 rfl) (by decide) (lenOf pd___Ljava_lang_Object_ILjava_lang_Class___Ljava_lang_Object_ rfl) #[.val (.ref ar), .val (.int 73)] [] rfl 0 rfl (by decide) (by decide) (by decide) (by decide)
  obtain ⟨b102, kB102, vs102, rfl, gb102, K102, A102, vl102, O102, X102, ag102⟩ := Q102
  have s103 := K102.1
  refine st102 _ ?_
  exact r_a B W102 rfl rfl rfl (d_jdk_65_method_119_9) (by decide) (by decide) ⟨_, _, _, rfl, by omega, ((Keep.refl h0 []).trans K102 all0), A102, vl102, O102, X102, ag102⟩
theorem ef_growF (m : MethodId) (a1 : Addr) (mc : Int32) (de : Addr) (dc : Cell) : entryFrame m #[(.ref a1), (.int 1)] 4 = mkF m 0 #[.val (.ref a1), .val (.int 1), .unset, .unset] [] := by first | (simp [entryFrame, mkF, argsToLocals, Value.category]; done) | rfl
def Q_growF (Z : State) (a1 : Addr) (mc : Int32) (de : Addr) (dc : Cell) (h0 : Heap) (v : Option Value) (h : Heap) : Prop := ∃ (ea2 : Addr) (kB : ClassId) (vs2 : List Value), v = some (.ref ea2) ∧ h0.size ≤ ea2 ∧ Keep h0 h [a1] ∧ Exa Z h a1 "java/util/ArrayList" ∧ Fld Z h a1 "java/util/ArrayList" "size" "I" (.int 0) ∧ Fld Z h a1 "java/util/ArrayList" "elementData" "[Ljava/lang/Object;" (.ref ea2) ∧ Fld Z h a1 "java/util/AbstractList" "modCount" "I" (.int mc) ∧ Arv Z h ea2 kB (.object "java/lang/Object") 10 vs2 .null ∧ Exa Z h ea2 "[Ljava/lang/Object;" ∧ vs2.length = Int32.toNatClampNeg 10 ∧ Ovr Z kB "java/lang/Object" ∧ vs2 = List.replicate 10 .null
set_option maxRecDepth 65536 in
set_option maxHeartbeats 40000000 in
theorem c_growF (l : Launch) (Z : State) (a0 : Array Value) (hw : ∀ d ∈ tables_1, d.before a0 Z = true) (a1 : Addr) (mc : Int32) (de : Addr) (dc : Cell) (h0 : Heap) (E1 : Exa Z h0 a1 "java/util/ArrayList") (F1 : Fld Z h0 a1 "java/util/ArrayList" "size" "I" (.int 0)) (F2 : Fld Z h0 a1 "java/util/ArrayList" "elementData" "[Ljava/lang/Object;" (.ref de)) (F3 : Fld Z h0 a1 "java/util/AbstractList" "modCount" "I" (.int mc)) (g1 : Z.heap.size ≤ a1) (Sde : Sta Z Z.heap "java/util/ArrayList" "DEFAULTCAPACITY_EMPTY_ELEMENTDATA" "[Ljava/lang/Object;" (.ref de)) (Ade : Arr Z Z.heap de dc (.object "java/lang/Object")) (lde : dc.slots.size.toInt32 = 0) :
    Con l Z (⟨"java/util/ArrayList", "grow", "(I)[Ljava/lang/Object;"⟩ : MethodName) jdk_38_method_6_code 4 (Option.some (FieldType.array (FieldType.object "java/lang/Object"))) [] ({ frames := 1, cells := 1, slots := 10, locals := 20 } : Room) #[(.ref a1), (.int 1)] h0 (Q_growF Z a1 mc de dc h0) := by
  refine Con.of (plainFor_of_name pn_java_util_ArrayList) ?_
  intro p e s m below meth c T0 B W0
  refine Go.cast (ef_growF m a1 mc de dc ) ?_
  have l_a1 := nlt E1.lt
  refine g_aload_n B W0 (d_jdk_38_method_6_0) rfl rfl ?_
  obtain ⟨T101, W101, st101⟩ := x_get B W0 (host := "") (d_jdk_38_method_6_1) (Or.inl (tw hw 24 rfl)) Via.refl F2 #[.val (.ref a1), .val (.int 1), .unset, .unset] []
  refine st101 _ ?_
  refine g_alenK B W101 (d_jdk_38_method_6_4) (Ade.ext W101.old.2) lde ?_
  refine g_istore_n B W101 (d_jdk_38_method_6_5)  (l' := #[.val (.ref a1), .val (.int 1), .val (.int 0), .unset]) rfl ?_
  refine g_iload_n B W101 (d_jdk_38_method_6_6) rfl ?_
  refine g_if_n B W101 (d_jdk_38_method_6_7) (XT.i0_gt_f (by decide)) ?_
  show Go p.tables e below _ T101 (mkF m 10 #[.val (.ref a1), .val (.int 1), .val (.int 0), .unset] [])
  refine g_aload_n B W101 (d_jdk_38_method_6_10) rfl rfl ?_
  obtain ⟨T102, W102, st102⟩ := x_get B W101 (host := "") (d_jdk_38_method_6_11) (Or.inl (tw hw 24 rfl)) Via.refl F2 #[.val (.ref a1), .val (.int 1), .val (.int 0), .unset] []
  refine st102 _ ?_
  obtain ⟨T103, W103, st103⟩ := x_gets B W102 (host := "") (d_jdk_38_method_6_14) (Or.inl (tw hw 23 rfl)) Via.refl Sde #[.val (.ref a1), .val (.int 1), .val (.int 0), .unset] [(.ref de)]
  refine st103 _ ?_
  refine g_acmp_y B W103 (d_jdk_38_method_6_17) rfl rfl (XT.aa_eq_t rfl) (pc' := 45) (by decide) ?_
  show Go p.tables e below _ T103 (mkF m 45 #[.val (.ref a1), .val (.int 1), .val (.int 0), .unset] [])
  refine g_aload_n B W103 (d_jdk_38_method_6_45) rfl rfl ?_
  refine g_bipush B W103 (d_jdk_38_method_6_46) (v := 10) (by decide) ?_
  refine g_iload_n B W103 (d_jdk_38_method_6_48) rfl ?_
  obtain ⟨T104, h104, v104, W104, Q104, st104⟩ := x_static B W103 [(.int 10), (.int 1)] (c_max l Z a0 hw 10 1 10 h0 (by decide)) (d_jdk_38_method_6_49) (tw hw 110 rfl) (tw hw 111 rfl) (tw hw 49 rfl) (tw hw 112 rfl) (by decide) (lenOf pd__II_I rfl) #[.val (.ref a1), .val (.int 1), .val (.int 0), .unset] [(.ref a1)] rfl 1 rfl (by decide) (by decide) (by decide) (by decide)
  obtain ⟨rfl, rfl⟩ := Q104
  refine st104 _ ?_
  show Go p.tables e below _ T104 (mkF m 52 #[.val (.ref a1), .val (.int 1), .val (.int 0), .unset] [(.int 10), (.ref a1)])
  obtain ⟨T105, h105, b105, cA105, gb105, W105, K105, A105, O105, E105, st105⟩ := x_newRE B W104 (z := 10) (ad := "[Ljava/lang/Object;") 10 (d_jdk_38_method_6_52) (tw hw 113 rfl) (tw hw 114 rfl) (by decide) (by decide) (by decide) (by decide) (by decide) (by decide +kernel) #[.val (.ref a1), .val (.int 1), .val (.int 0), .unset] [(.ref a1)]
  have l105 := nlt A105.lt
  have z105 := W104.size
  refine st105 _ ?_
  have s106 := K105.1
  refine g_dup_x1 B W105 (d_jdk_38_method_6_55) rfl rfl ?_
  have f107 := (F2.keep K105 nin0)
  have f108 := (E1.keep K105)
  obtain ⟨T109, h109, W109, K109, R109, F109, E109, st109⟩ := x_put B W105 (d_jdk_38_method_6_56) ((tw hw 24 rfl)) Via.refl f107 f108 (Or.inl (tw hw 25 rfl)) (tw hw 1 rfl) (ty := (.array (.object "java/lang/Object"))) (v := (.ref b105)) (v' := (.ref b105)) (by decide) rfl rfl (by omega) #[.val (.ref a1), .val (.int 1), .val (.int 0), .unset] [(.ref b105)]
  refine st109 _ ?_
  have f110 := (F1.keep K105 nin0)
  have f111 := f110.other R109 (Or.inr (slot_ne (Or.inl (tw hw 46 rfl)) (Or.inl (tw hw 25 rfl)) (by decide) (t := .int) (t' := (.array (.object "java/lang/Object"))) (by decide) (by decide)))
  have f112 := (F3.keep K105 nin0)
  have f113 := f112.other R109 (Or.inr (slot_ne (Or.inl (tw hw 22 rfl)) (Or.inl (tw hw 25 rfl)) (by decide) (t := .int) (t' := (.array (.object "java/lang/Object"))) (by decide) (by decide)))
  have s114 := K109.1
  have f115 := (A105.keep K109 (ninS (nne (by have q := nlt A105.lt; omega)) nin0))
  have f116 := (E105.keep K109)
  exact r_a B W109 rfl rfl rfl (d_jdk_38_method_6_59) (by decide) (by decide) ⟨_, _, _, rfl, by omega, (((Keep.refl h0 [a1]).trans K105 all0).trans K109 (allS (Or.inl (by simp)) all0)), E109, f111, F109, f113, f115, f116, (by decide), O105, rfl⟩
theorem ef_growI10 (m : MethodId) (a1 : Addr) (mc : Int32) (ea : Addr) (kA : ClassId) (vs : List Value) (mo : Addr) : entryFrame m #[(.ref a1), (.int 11)] 4 = mkF m 0 #[.val (.ref a1), .val (.int 11), .unset, .unset] [] := by first | (simp [entryFrame, mkF, argsToLocals, Value.category]; done) | rfl
def Q_growI10 (Z : State) (a1 : Addr) (mc : Int32) (ea : Addr) (kA : ClassId) (vs : List Value) (mo : Addr) (h0 : Heap) (v : Option Value) (h : Heap) : Prop := ∃ (ea2 : Addr) (kB : ClassId) (vs2 : List Value), v = some (.ref ea2) ∧ h0.size ≤ ea2 ∧ Keep h0 h [a1] ∧ Exa Z h a1 "java/util/ArrayList" ∧ Fld Z h a1 "java/util/ArrayList" "size" "I" (.int 10) ∧ Fld Z h a1 "java/util/ArrayList" "elementData" "[Ljava/lang/Object;" (.ref ea2) ∧ Fld Z h a1 "java/util/AbstractList" "modCount" "I" (.int mc) ∧ Arv Z h ea2 kB (.object "java/lang/Object") 15 vs2 .null ∧ Exa Z h ea2 "[Ljava/lang/Object;" ∧ vs2.length = Int32.toNatClampNeg 15 ∧ Ovr Z kB "java/lang/Object" ∧ ∀ i : Nat, i < Int32.toNatClampNeg 10 → vs2.getD i .null = vs.getD i .null
set_option maxRecDepth 65536 in
set_option maxHeartbeats 40000000 in
theorem c_growI10 (l : Launch) (Z : State) (a0 : Array Value) (hw : ∀ d ∈ tables_1, d.before a0 Z = true) (a1 : Addr) (mc : Int32) (ea : Addr) (kA : ClassId) (vs : List Value) (mo : Addr) (h0 : Heap) (E1 : Exa Z h0 a1 "java/util/ArrayList") (F1 : Fld Z h0 a1 "java/util/ArrayList" "size" "I" (.int 10)) (F2 : Fld Z h0 a1 "java/util/ArrayList" "elementData" "[Ljava/lang/Object;" (.ref ea)) (F3 : Fld Z h0 a1 "java/util/AbstractList" "modCount" "I" (.int mc)) (g1 : Z.heap.size ≤ a1) (A1 : Arv Z h0 ea kA (.object "java/lang/Object") 10 vs .null) (hbx : ∀ i : Nat, i < Int32.toNatClampNeg 10 → ∃ y : Addr, vs.getD i .null = .ref y ∧ Exa Z Z.heap y "java/lang/Integer") (X1 : Exa Z h0 ea "[Ljava/lang/Object;") (hne : ¬ @Eq Nat ea a1) (Mo : Mi Z "[Ljava/lang/Object;" mo) :
    Con l Z (⟨"java/util/ArrayList", "grow", "(I)[Ljava/lang/Object;"⟩ : MethodName) jdk_38_method_6_code 4 (Option.some (FieldType.array (FieldType.object "java/lang/Object"))) [] ({ frames := 3, cells := 1, slots := 15, locals := 69 } : Room) #[(.ref a1), (.int 11)] h0 (Q_growI10 Z a1 mc ea kA vs mo h0) := by
  refine Con.of (plainFor_of_name pn_java_util_ArrayList) ?_
  intro p e s m below meth c T0 B W0
  refine Go.cast (ef_growI10 m a1 mc ea kA vs mo ) ?_
  have l_a1 := nlt E1.lt
  have l_ea := nlt A1.lt
  refine g_aload_n B W0 (d_jdk_38_method_6_0) rfl rfl ?_
  obtain ⟨T101, W101, st101⟩ := x_get B W0 (host := "") (d_jdk_38_method_6_1) (Or.inl (tw hw 24 rfl)) Via.refl F2 #[.val (.ref a1), .val (.int 11), .unset, .unset] []
  refine st101 _ ?_
  refine g_aalen B W101 (d_jdk_38_method_6_4) A1 ?_
  refine g_istore_n B W101 (d_jdk_38_method_6_5)  (l' := #[.val (.ref a1), .val (.int 11), .val (.int 10), .unset]) rfl ?_
  refine g_iload_n B W101 (d_jdk_38_method_6_6) rfl ?_
  refine g_if_y B W101 (d_jdk_38_method_6_7) (XT.i0_gt_t (by decide)) (pc' := 20) (by decide) ?_
  show Go p.tables e below _ T101 (mkF m 20 #[.val (.ref a1), .val (.int 11), .val (.int 10), .unset] [])
  refine g_iload_n B W101 (d_jdk_38_method_6_20) rfl ?_
  refine g_iload_n B W101 (d_jdk_38_method_6_21) rfl ?_
  refine g_iload_n B W101 (d_jdk_38_method_6_22) rfl ?_
  refine g_isub B W101 (d_jdk_38_method_6_23)  ?_
  rw [show (11 - 10 : Int32) = 1 by decide]
  refine g_iload_n B W101 (d_jdk_38_method_6_24) rfl ?_
  refine g_iconst B W101 (d_jdk_38_method_6_25) (v := 1) (by decide) ?_
  refine g_ishr B W101 (d_jdk_38_method_6_26)  ?_
  rw [show ((10 : Int32) >>> ((1 : Int32) &&& 31)) = 5 by decide]
  obtain ⟨T102, h102, v102, W102, Q102, st102⟩ := x_static B W101 [(.int 10), (.int 1), (.int 5)] (c_nl10 l Z a0 hw h0) (d_jdk_38_method_6_27) (tw hw 179 rfl) (tw hw 180 rfl) (tw hw 181 rfl) (tw hw 182 rfl) (by decide) (lenOf pd__III_I rfl) #[.val (.ref a1), .val (.int 11), .val (.int 10), .unset] [] rfl 0 rfl (by decide) (by decide) (by decide) (by decide)
  obtain ⟨rfl, rfl⟩ := Q102
  refine st102 _ ?_
  show Go p.tables e below _ T102 (mkF m 30 #[.val (.ref a1), .val (.int 11), .val (.int 10), .unset] [(.int 15)])
  refine g_istore_n B W102 (d_jdk_38_method_6_30)  (l' := #[.val (.ref a1), .val (.int 11), .val (.int 10), .val (.int 15)]) rfl ?_
  refine g_aload_n B W102 (d_jdk_38_method_6_31) rfl rfl ?_
  refine g_aload_n B W102 (d_jdk_38_method_6_32) rfl rfl ?_
  obtain ⟨T103, W103, st103⟩ := x_get B W102 (host := "") (d_jdk_38_method_6_33) (Or.inl (tw hw 24 rfl)) Via.refl F2 #[.val (.ref a1), .val (.int 11), .val (.int 10), .val (.int 15)] [(.ref a1)]
  refine st103 _ ?_
  refine g_iload_n B W103 (d_jdk_38_method_6_36) rfl ?_
  obtain ⟨T104, h104, v104, W104, Q104, st104⟩ := x_static B W103 [(.ref ea), (.int 15)] (c_cp2_10 l Z a0 hw ea kA vs mo h0 A1 hbx X1 Mo) (d_jdk_38_method_6_37) (tw hw 185 rfl) (tw hw 186 rfl) (tw hw 187 rfl) (tw hw 188 rfl) (by decide) (lenOf pd___Ljava_lang_Object_I__Ljava_lang_Object_ rfl) #[.val (.ref a1), .val (.int 11), .val (.int 10), .val (.int 15)] [(.ref a1)] rfl 1 rfl (by decide) (by decide) (by decide) (by decide)
  obtain ⟨b104, kB104, vs104, rfl, gb104, K104, A104, vl104, O104, X104, ag104⟩ := Q104
  have s105 := K104.1
  refine st104 _ ?_
  have l104 := nlt A104.lt
  refine g_dup_x1 B W104 (d_jdk_38_method_6_40) rfl rfl ?_
  have f106 := (F2.keep K104 nin0)
  have f107 := (E1.keep K104)
  obtain ⟨T108, h108, W108, K108, R108, F108, E108, st108⟩ := x_put B W104 (d_jdk_38_method_6_41) ((tw hw 24 rfl)) Via.refl f106 f107 (Or.inl (tw hw 25 rfl)) (tw hw 1 rfl) (ty := (.array (.object "java/lang/Object"))) (v := (.ref b104)) (v' := (.ref b104)) (by decide) rfl rfl (by omega) #[.val (.ref a1), .val (.int 11), .val (.int 10), .val (.int 15)] [(.ref b104)]
  refine st108 _ ?_
  have f109 := (F1.keep K104 nin0)
  have f110 := f109.other R108 (Or.inr (slot_ne (Or.inl (tw hw 46 rfl)) (Or.inl (tw hw 25 rfl)) (by decide) (t := .int) (t' := (.array (.object "java/lang/Object"))) (by decide) (by decide)))
  have f111 := (F3.keep K104 nin0)
  have f112 := f111.other R108 (Or.inr (slot_ne (Or.inl (tw hw 22 rfl)) (Or.inl (tw hw 25 rfl)) (by decide) (t := .int) (t' := (.array (.object "java/lang/Object"))) (by decide) (by decide)))
  have s113 := K108.1
  have f114 := (A104.keep K108 (ninS (nne (by have q := nlt A104.lt; omega)) nin0))
  have f115 := (X104.keep K108)
  exact r_a B W108 rfl rfl rfl (d_jdk_38_method_6_44) (by decide) (by decide) ⟨_, _, _, rfl, by omega, (((Keep.refl h0 [a1]).trans K104 all0).trans K108 (allS (Or.inl (by simp)) all0)), E108, f110, F108, f112, f114, f115, vl104, O104, ag104⟩
theorem ef_growI15 (m : MethodId) (a1 : Addr) (mc : Int32) (ea : Addr) (kA : ClassId) (vs : List Value) (mo : Addr) : entryFrame m #[(.ref a1), (.int 16)] 4 = mkF m 0 #[.val (.ref a1), .val (.int 16), .unset, .unset] [] := by first | (simp [entryFrame, mkF, argsToLocals, Value.category]; done) | rfl
def Q_growI15 (Z : State) (a1 : Addr) (mc : Int32) (ea : Addr) (kA : ClassId) (vs : List Value) (mo : Addr) (h0 : Heap) (v : Option Value) (h : Heap) : Prop := ∃ (ea2 : Addr) (kB : ClassId) (vs2 : List Value), v = some (.ref ea2) ∧ h0.size ≤ ea2 ∧ Keep h0 h [a1] ∧ Exa Z h a1 "java/util/ArrayList" ∧ Fld Z h a1 "java/util/ArrayList" "size" "I" (.int 15) ∧ Fld Z h a1 "java/util/ArrayList" "elementData" "[Ljava/lang/Object;" (.ref ea2) ∧ Fld Z h a1 "java/util/AbstractList" "modCount" "I" (.int mc) ∧ Arv Z h ea2 kB (.object "java/lang/Object") 22 vs2 .null ∧ Exa Z h ea2 "[Ljava/lang/Object;" ∧ vs2.length = Int32.toNatClampNeg 22 ∧ Ovr Z kB "java/lang/Object" ∧ ∀ i : Nat, i < Int32.toNatClampNeg 15 → vs2.getD i .null = vs.getD i .null
set_option maxRecDepth 65536 in
set_option maxHeartbeats 40000000 in
theorem c_growI15 (l : Launch) (Z : State) (a0 : Array Value) (hw : ∀ d ∈ tables_1, d.before a0 Z = true) (a1 : Addr) (mc : Int32) (ea : Addr) (kA : ClassId) (vs : List Value) (mo : Addr) (h0 : Heap) (E1 : Exa Z h0 a1 "java/util/ArrayList") (F1 : Fld Z h0 a1 "java/util/ArrayList" "size" "I" (.int 15)) (F2 : Fld Z h0 a1 "java/util/ArrayList" "elementData" "[Ljava/lang/Object;" (.ref ea)) (F3 : Fld Z h0 a1 "java/util/AbstractList" "modCount" "I" (.int mc)) (g1 : Z.heap.size ≤ a1) (A1 : Arv Z h0 ea kA (.object "java/lang/Object") 15 vs .null) (hbx : ∀ i : Nat, i < Int32.toNatClampNeg 15 → ∃ y : Addr, vs.getD i .null = .ref y ∧ Exa Z Z.heap y "java/lang/Integer") (X1 : Exa Z h0 ea "[Ljava/lang/Object;") (hne : ¬ @Eq Nat ea a1) (Mo : Mi Z "[Ljava/lang/Object;" mo) :
    Con l Z (⟨"java/util/ArrayList", "grow", "(I)[Ljava/lang/Object;"⟩ : MethodName) jdk_38_method_6_code 4 (Option.some (FieldType.array (FieldType.object "java/lang/Object"))) [] ({ frames := 3, cells := 1, slots := 22, locals := 69 } : Room) #[(.ref a1), (.int 16)] h0 (Q_growI15 Z a1 mc ea kA vs mo h0) := by
  refine Con.of (plainFor_of_name pn_java_util_ArrayList) ?_
  intro p e s m below meth c T0 B W0
  refine Go.cast (ef_growI15 m a1 mc ea kA vs mo ) ?_
  have l_a1 := nlt E1.lt
  have l_ea := nlt A1.lt
  refine g_aload_n B W0 (d_jdk_38_method_6_0) rfl rfl ?_
  obtain ⟨T101, W101, st101⟩ := x_get B W0 (host := "") (d_jdk_38_method_6_1) (Or.inl (tw hw 24 rfl)) Via.refl F2 #[.val (.ref a1), .val (.int 16), .unset, .unset] []
  refine st101 _ ?_
  refine g_aalen B W101 (d_jdk_38_method_6_4) A1 ?_
  refine g_istore_n B W101 (d_jdk_38_method_6_5)  (l' := #[.val (.ref a1), .val (.int 16), .val (.int 15), .unset]) rfl ?_
  refine g_iload_n B W101 (d_jdk_38_method_6_6) rfl ?_
  refine g_if_y B W101 (d_jdk_38_method_6_7) (XT.i0_gt_t (by decide)) (pc' := 20) (by decide) ?_
  show Go p.tables e below _ T101 (mkF m 20 #[.val (.ref a1), .val (.int 16), .val (.int 15), .unset] [])
  refine g_iload_n B W101 (d_jdk_38_method_6_20) rfl ?_
  refine g_iload_n B W101 (d_jdk_38_method_6_21) rfl ?_
  refine g_iload_n B W101 (d_jdk_38_method_6_22) rfl ?_
  refine g_isub B W101 (d_jdk_38_method_6_23)  ?_
  rw [show (16 - 15 : Int32) = 1 by decide]
  refine g_iload_n B W101 (d_jdk_38_method_6_24) rfl ?_
  refine g_iconst B W101 (d_jdk_38_method_6_25) (v := 1) (by decide) ?_
  refine g_ishr B W101 (d_jdk_38_method_6_26)  ?_
  rw [show ((15 : Int32) >>> ((1 : Int32) &&& 31)) = 7 by decide]
  obtain ⟨T102, h102, v102, W102, Q102, st102⟩ := x_static B W101 [(.int 15), (.int 1), (.int 7)] (c_nl15 l Z a0 hw h0) (d_jdk_38_method_6_27) (tw hw 179 rfl) (tw hw 180 rfl) (tw hw 181 rfl) (tw hw 182 rfl) (by decide) (lenOf pd__III_I rfl) #[.val (.ref a1), .val (.int 16), .val (.int 15), .unset] [] rfl 0 rfl (by decide) (by decide) (by decide) (by decide)
  obtain ⟨rfl, rfl⟩ := Q102
  refine st102 _ ?_
  show Go p.tables e below _ T102 (mkF m 30 #[.val (.ref a1), .val (.int 16), .val (.int 15), .unset] [(.int 22)])
  refine g_istore_n B W102 (d_jdk_38_method_6_30)  (l' := #[.val (.ref a1), .val (.int 16), .val (.int 15), .val (.int 22)]) rfl ?_
  refine g_aload_n B W102 (d_jdk_38_method_6_31) rfl rfl ?_
  refine g_aload_n B W102 (d_jdk_38_method_6_32) rfl rfl ?_
  obtain ⟨T103, W103, st103⟩ := x_get B W102 (host := "") (d_jdk_38_method_6_33) (Or.inl (tw hw 24 rfl)) Via.refl F2 #[.val (.ref a1), .val (.int 16), .val (.int 15), .val (.int 22)] [(.ref a1)]
  refine st103 _ ?_
  refine g_iload_n B W103 (d_jdk_38_method_6_36) rfl ?_
  obtain ⟨T104, h104, v104, W104, Q104, st104⟩ := x_static B W103 [(.ref ea), (.int 22)] (c_cp2_15 l Z a0 hw ea kA vs mo h0 A1 hbx X1 Mo) (d_jdk_38_method_6_37) (tw hw 185 rfl) (tw hw 186 rfl) (tw hw 187 rfl) (tw hw 188 rfl) (by decide) (lenOf pd___Ljava_lang_Object_I__Ljava_lang_Object_ rfl) #[.val (.ref a1), .val (.int 16), .val (.int 15), .val (.int 22)] [(.ref a1)] rfl 1 rfl (by decide) (by decide) (by decide) (by decide)
  obtain ⟨b104, kB104, vs104, rfl, gb104, K104, A104, vl104, O104, X104, ag104⟩ := Q104
  have s105 := K104.1
  refine st104 _ ?_
  have l104 := nlt A104.lt
  refine g_dup_x1 B W104 (d_jdk_38_method_6_40) rfl rfl ?_
  have f106 := (F2.keep K104 nin0)
  have f107 := (E1.keep K104)
  obtain ⟨T108, h108, W108, K108, R108, F108, E108, st108⟩ := x_put B W104 (d_jdk_38_method_6_41) ((tw hw 24 rfl)) Via.refl f106 f107 (Or.inl (tw hw 25 rfl)) (tw hw 1 rfl) (ty := (.array (.object "java/lang/Object"))) (v := (.ref b104)) (v' := (.ref b104)) (by decide) rfl rfl (by omega) #[.val (.ref a1), .val (.int 16), .val (.int 15), .val (.int 22)] [(.ref b104)]
  refine st108 _ ?_
  have f109 := (F1.keep K104 nin0)
  have f110 := f109.other R108 (Or.inr (slot_ne (Or.inl (tw hw 46 rfl)) (Or.inl (tw hw 25 rfl)) (by decide) (t := .int) (t' := (.array (.object "java/lang/Object"))) (by decide) (by decide)))
  have f111 := (F3.keep K104 nin0)
  have f112 := f111.other R108 (Or.inr (slot_ne (Or.inl (tw hw 22 rfl)) (Or.inl (tw hw 25 rfl)) (by decide) (t := .int) (t' := (.array (.object "java/lang/Object"))) (by decide) (by decide)))
  have s113 := K108.1
  have f114 := (A104.keep K108 (ninS (nne (by have q := nlt A104.lt; omega)) nin0))
  have f115 := (X104.keep K108)
  exact r_a B W108 rfl rfl rfl (d_jdk_38_method_6_44) (by decide) (by decide) ⟨_, _, _, rfl, by omega, (((Keep.refl h0 [a1]).trans K104 all0).trans K108 (allS (Or.inl (by simp)) all0)), E108, f110, F108, f112, f114, f115, vl104, O104, ag104⟩
theorem ef_growI22 (m : MethodId) (a1 : Addr) (mc : Int32) (ea : Addr) (kA : ClassId) (vs : List Value) (mo : Addr) : entryFrame m #[(.ref a1), (.int 23)] 4 = mkF m 0 #[.val (.ref a1), .val (.int 23), .unset, .unset] [] := by first | (simp [entryFrame, mkF, argsToLocals, Value.category]; done) | rfl
def Q_growI22 (Z : State) (a1 : Addr) (mc : Int32) (ea : Addr) (kA : ClassId) (vs : List Value) (mo : Addr) (h0 : Heap) (v : Option Value) (h : Heap) : Prop := ∃ (ea2 : Addr) (kB : ClassId) (vs2 : List Value), v = some (.ref ea2) ∧ h0.size ≤ ea2 ∧ Keep h0 h [a1] ∧ Exa Z h a1 "java/util/ArrayList" ∧ Fld Z h a1 "java/util/ArrayList" "size" "I" (.int 22) ∧ Fld Z h a1 "java/util/ArrayList" "elementData" "[Ljava/lang/Object;" (.ref ea2) ∧ Fld Z h a1 "java/util/AbstractList" "modCount" "I" (.int mc) ∧ Arv Z h ea2 kB (.object "java/lang/Object") 33 vs2 .null ∧ Exa Z h ea2 "[Ljava/lang/Object;" ∧ vs2.length = Int32.toNatClampNeg 33 ∧ Ovr Z kB "java/lang/Object" ∧ ∀ i : Nat, i < Int32.toNatClampNeg 22 → vs2.getD i .null = vs.getD i .null
set_option maxRecDepth 65536 in
set_option maxHeartbeats 40000000 in
theorem c_growI22 (l : Launch) (Z : State) (a0 : Array Value) (hw : ∀ d ∈ tables_1, d.before a0 Z = true) (a1 : Addr) (mc : Int32) (ea : Addr) (kA : ClassId) (vs : List Value) (mo : Addr) (h0 : Heap) (E1 : Exa Z h0 a1 "java/util/ArrayList") (F1 : Fld Z h0 a1 "java/util/ArrayList" "size" "I" (.int 22)) (F2 : Fld Z h0 a1 "java/util/ArrayList" "elementData" "[Ljava/lang/Object;" (.ref ea)) (F3 : Fld Z h0 a1 "java/util/AbstractList" "modCount" "I" (.int mc)) (g1 : Z.heap.size ≤ a1) (A1 : Arv Z h0 ea kA (.object "java/lang/Object") 22 vs .null) (hbx : ∀ i : Nat, i < Int32.toNatClampNeg 22 → ∃ y : Addr, vs.getD i .null = .ref y ∧ Exa Z Z.heap y "java/lang/Integer") (X1 : Exa Z h0 ea "[Ljava/lang/Object;") (hne : ¬ @Eq Nat ea a1) (Mo : Mi Z "[Ljava/lang/Object;" mo) :
    Con l Z (⟨"java/util/ArrayList", "grow", "(I)[Ljava/lang/Object;"⟩ : MethodName) jdk_38_method_6_code 4 (Option.some (FieldType.array (FieldType.object "java/lang/Object"))) [] ({ frames := 3, cells := 1, slots := 33, locals := 69 } : Room) #[(.ref a1), (.int 23)] h0 (Q_growI22 Z a1 mc ea kA vs mo h0) := by
  refine Con.of (plainFor_of_name pn_java_util_ArrayList) ?_
  intro p e s m below meth c T0 B W0
  refine Go.cast (ef_growI22 m a1 mc ea kA vs mo ) ?_
  have l_a1 := nlt E1.lt
  have l_ea := nlt A1.lt
  refine g_aload_n B W0 (d_jdk_38_method_6_0) rfl rfl ?_
  obtain ⟨T101, W101, st101⟩ := x_get B W0 (host := "") (d_jdk_38_method_6_1) (Or.inl (tw hw 24 rfl)) Via.refl F2 #[.val (.ref a1), .val (.int 23), .unset, .unset] []
  refine st101 _ ?_
  refine g_aalen B W101 (d_jdk_38_method_6_4) A1 ?_
  refine g_istore_n B W101 (d_jdk_38_method_6_5)  (l' := #[.val (.ref a1), .val (.int 23), .val (.int 22), .unset]) rfl ?_
  refine g_iload_n B W101 (d_jdk_38_method_6_6) rfl ?_
  refine g_if_y B W101 (d_jdk_38_method_6_7) (XT.i0_gt_t (by decide)) (pc' := 20) (by decide) ?_
  show Go p.tables e below _ T101 (mkF m 20 #[.val (.ref a1), .val (.int 23), .val (.int 22), .unset] [])
  refine g_iload_n B W101 (d_jdk_38_method_6_20) rfl ?_
  refine g_iload_n B W101 (d_jdk_38_method_6_21) rfl ?_
  refine g_iload_n B W101 (d_jdk_38_method_6_22) rfl ?_
  refine g_isub B W101 (d_jdk_38_method_6_23)  ?_
  rw [show (23 - 22 : Int32) = 1 by decide]
  refine g_iload_n B W101 (d_jdk_38_method_6_24) rfl ?_
  refine g_iconst B W101 (d_jdk_38_method_6_25) (v := 1) (by decide) ?_
  refine g_ishr B W101 (d_jdk_38_method_6_26)  ?_
  rw [show ((22 : Int32) >>> ((1 : Int32) &&& 31)) = 11 by decide]
  obtain ⟨T102, h102, v102, W102, Q102, st102⟩ := x_static B W101 [(.int 22), (.int 1), (.int 11)] (c_nl22 l Z a0 hw h0) (d_jdk_38_method_6_27) (tw hw 179 rfl) (tw hw 180 rfl) (tw hw 181 rfl) (tw hw 182 rfl) (by decide) (lenOf pd__III_I rfl) #[.val (.ref a1), .val (.int 23), .val (.int 22), .unset] [] rfl 0 rfl (by decide) (by decide) (by decide) (by decide)
  obtain ⟨rfl, rfl⟩ := Q102
  refine st102 _ ?_
  show Go p.tables e below _ T102 (mkF m 30 #[.val (.ref a1), .val (.int 23), .val (.int 22), .unset] [(.int 33)])
  refine g_istore_n B W102 (d_jdk_38_method_6_30)  (l' := #[.val (.ref a1), .val (.int 23), .val (.int 22), .val (.int 33)]) rfl ?_
  refine g_aload_n B W102 (d_jdk_38_method_6_31) rfl rfl ?_
  refine g_aload_n B W102 (d_jdk_38_method_6_32) rfl rfl ?_
  obtain ⟨T103, W103, st103⟩ := x_get B W102 (host := "") (d_jdk_38_method_6_33) (Or.inl (tw hw 24 rfl)) Via.refl F2 #[.val (.ref a1), .val (.int 23), .val (.int 22), .val (.int 33)] [(.ref a1)]
  refine st103 _ ?_
  refine g_iload_n B W103 (d_jdk_38_method_6_36) rfl ?_
  obtain ⟨T104, h104, v104, W104, Q104, st104⟩ := x_static B W103 [(.ref ea), (.int 33)] (c_cp2_22 l Z a0 hw ea kA vs mo h0 A1 hbx X1 Mo) (d_jdk_38_method_6_37) (tw hw 185 rfl) (tw hw 186 rfl) (tw hw 187 rfl) (tw hw 188 rfl) (by decide) (lenOf pd___Ljava_lang_Object_I__Ljava_lang_Object_ rfl) #[.val (.ref a1), .val (.int 23), .val (.int 22), .val (.int 33)] [(.ref a1)] rfl 1 rfl (by decide) (by decide) (by decide) (by decide)
  obtain ⟨b104, kB104, vs104, rfl, gb104, K104, A104, vl104, O104, X104, ag104⟩ := Q104
  have s105 := K104.1
  refine st104 _ ?_
  have l104 := nlt A104.lt
  refine g_dup_x1 B W104 (d_jdk_38_method_6_40) rfl rfl ?_
  have f106 := (F2.keep K104 nin0)
  have f107 := (E1.keep K104)
  obtain ⟨T108, h108, W108, K108, R108, F108, E108, st108⟩ := x_put B W104 (d_jdk_38_method_6_41) ((tw hw 24 rfl)) Via.refl f106 f107 (Or.inl (tw hw 25 rfl)) (tw hw 1 rfl) (ty := (.array (.object "java/lang/Object"))) (v := (.ref b104)) (v' := (.ref b104)) (by decide) rfl rfl (by omega) #[.val (.ref a1), .val (.int 23), .val (.int 22), .val (.int 33)] [(.ref b104)]
  refine st108 _ ?_
  have f109 := (F1.keep K104 nin0)
  have f110 := f109.other R108 (Or.inr (slot_ne (Or.inl (tw hw 46 rfl)) (Or.inl (tw hw 25 rfl)) (by decide) (t := .int) (t' := (.array (.object "java/lang/Object"))) (by decide) (by decide)))
  have f111 := (F3.keep K104 nin0)
  have f112 := f111.other R108 (Or.inr (slot_ne (Or.inl (tw hw 22 rfl)) (Or.inl (tw hw 25 rfl)) (by decide) (t := .int) (t' := (.array (.object "java/lang/Object"))) (by decide) (by decide)))
  have s113 := K108.1
  have f114 := (A104.keep K108 (ninS (nne (by have q := nlt A104.lt; omega)) nin0))
  have f115 := (X104.keep K108)
  exact r_a B W108 rfl rfl rfl (d_jdk_38_method_6_44) (by decide) (by decide) ⟨_, _, _, rfl, by omega, (((Keep.refl h0 [a1]).trans K104 all0).trans K108 (allS (Or.inl (by simp)) all0)), E108, f110, F108, f112, f114, f115, vl104, O104, ag104⟩
theorem ef_growI33 (m : MethodId) (a1 : Addr) (mc : Int32) (ea : Addr) (kA : ClassId) (vs : List Value) (mo : Addr) : entryFrame m #[(.ref a1), (.int 34)] 4 = mkF m 0 #[.val (.ref a1), .val (.int 34), .unset, .unset] [] := by first | (simp [entryFrame, mkF, argsToLocals, Value.category]; done) | rfl
def Q_growI33 (Z : State) (a1 : Addr) (mc : Int32) (ea : Addr) (kA : ClassId) (vs : List Value) (mo : Addr) (h0 : Heap) (v : Option Value) (h : Heap) : Prop := ∃ (ea2 : Addr) (kB : ClassId) (vs2 : List Value), v = some (.ref ea2) ∧ h0.size ≤ ea2 ∧ Keep h0 h [a1] ∧ Exa Z h a1 "java/util/ArrayList" ∧ Fld Z h a1 "java/util/ArrayList" "size" "I" (.int 33) ∧ Fld Z h a1 "java/util/ArrayList" "elementData" "[Ljava/lang/Object;" (.ref ea2) ∧ Fld Z h a1 "java/util/AbstractList" "modCount" "I" (.int mc) ∧ Arv Z h ea2 kB (.object "java/lang/Object") 49 vs2 .null ∧ Exa Z h ea2 "[Ljava/lang/Object;" ∧ vs2.length = Int32.toNatClampNeg 49 ∧ Ovr Z kB "java/lang/Object" ∧ ∀ i : Nat, i < Int32.toNatClampNeg 33 → vs2.getD i .null = vs.getD i .null
set_option maxRecDepth 65536 in
set_option maxHeartbeats 40000000 in
theorem c_growI33 (l : Launch) (Z : State) (a0 : Array Value) (hw : ∀ d ∈ tables_1, d.before a0 Z = true) (a1 : Addr) (mc : Int32) (ea : Addr) (kA : ClassId) (vs : List Value) (mo : Addr) (h0 : Heap) (E1 : Exa Z h0 a1 "java/util/ArrayList") (F1 : Fld Z h0 a1 "java/util/ArrayList" "size" "I" (.int 33)) (F2 : Fld Z h0 a1 "java/util/ArrayList" "elementData" "[Ljava/lang/Object;" (.ref ea)) (F3 : Fld Z h0 a1 "java/util/AbstractList" "modCount" "I" (.int mc)) (g1 : Z.heap.size ≤ a1) (A1 : Arv Z h0 ea kA (.object "java/lang/Object") 33 vs .null) (hbx : ∀ i : Nat, i < Int32.toNatClampNeg 33 → ∃ y : Addr, vs.getD i .null = .ref y ∧ Exa Z Z.heap y "java/lang/Integer") (X1 : Exa Z h0 ea "[Ljava/lang/Object;") (hne : ¬ @Eq Nat ea a1) (Mo : Mi Z "[Ljava/lang/Object;" mo) :
    Con l Z (⟨"java/util/ArrayList", "grow", "(I)[Ljava/lang/Object;"⟩ : MethodName) jdk_38_method_6_code 4 (Option.some (FieldType.array (FieldType.object "java/lang/Object"))) [] ({ frames := 3, cells := 1, slots := 49, locals := 69 } : Room) #[(.ref a1), (.int 34)] h0 (Q_growI33 Z a1 mc ea kA vs mo h0) := by
  refine Con.of (plainFor_of_name pn_java_util_ArrayList) ?_
  intro p e s m below meth c T0 B W0
  refine Go.cast (ef_growI33 m a1 mc ea kA vs mo ) ?_
  have l_a1 := nlt E1.lt
  have l_ea := nlt A1.lt
  refine g_aload_n B W0 (d_jdk_38_method_6_0) rfl rfl ?_
  obtain ⟨T101, W101, st101⟩ := x_get B W0 (host := "") (d_jdk_38_method_6_1) (Or.inl (tw hw 24 rfl)) Via.refl F2 #[.val (.ref a1), .val (.int 34), .unset, .unset] []
  refine st101 _ ?_
  refine g_aalen B W101 (d_jdk_38_method_6_4) A1 ?_
  refine g_istore_n B W101 (d_jdk_38_method_6_5)  (l' := #[.val (.ref a1), .val (.int 34), .val (.int 33), .unset]) rfl ?_
  refine g_iload_n B W101 (d_jdk_38_method_6_6) rfl ?_
  refine g_if_y B W101 (d_jdk_38_method_6_7) (XT.i0_gt_t (by decide)) (pc' := 20) (by decide) ?_
  show Go p.tables e below _ T101 (mkF m 20 #[.val (.ref a1), .val (.int 34), .val (.int 33), .unset] [])
  refine g_iload_n B W101 (d_jdk_38_method_6_20) rfl ?_
  refine g_iload_n B W101 (d_jdk_38_method_6_21) rfl ?_
  refine g_iload_n B W101 (d_jdk_38_method_6_22) rfl ?_
  refine g_isub B W101 (d_jdk_38_method_6_23)  ?_
  rw [show (34 - 33 : Int32) = 1 by decide]
  refine g_iload_n B W101 (d_jdk_38_method_6_24) rfl ?_
  refine g_iconst B W101 (d_jdk_38_method_6_25) (v := 1) (by decide) ?_
  refine g_ishr B W101 (d_jdk_38_method_6_26)  ?_
  rw [show ((33 : Int32) >>> ((1 : Int32) &&& 31)) = 16 by decide]
  obtain ⟨T102, h102, v102, W102, Q102, st102⟩ := x_static B W101 [(.int 33), (.int 1), (.int 16)] (c_nl33 l Z a0 hw h0) (d_jdk_38_method_6_27) (tw hw 179 rfl) (tw hw 180 rfl) (tw hw 181 rfl) (tw hw 182 rfl) (by decide) (lenOf pd__III_I rfl) #[.val (.ref a1), .val (.int 34), .val (.int 33), .unset] [] rfl 0 rfl (by decide) (by decide) (by decide) (by decide)
  obtain ⟨rfl, rfl⟩ := Q102
  refine st102 _ ?_
  show Go p.tables e below _ T102 (mkF m 30 #[.val (.ref a1), .val (.int 34), .val (.int 33), .unset] [(.int 49)])
  refine g_istore_n B W102 (d_jdk_38_method_6_30)  (l' := #[.val (.ref a1), .val (.int 34), .val (.int 33), .val (.int 49)]) rfl ?_
  refine g_aload_n B W102 (d_jdk_38_method_6_31) rfl rfl ?_
  refine g_aload_n B W102 (d_jdk_38_method_6_32) rfl rfl ?_
  obtain ⟨T103, W103, st103⟩ := x_get B W102 (host := "") (d_jdk_38_method_6_33) (Or.inl (tw hw 24 rfl)) Via.refl F2 #[.val (.ref a1), .val (.int 34), .val (.int 33), .val (.int 49)] [(.ref a1)]
  refine st103 _ ?_
  refine g_iload_n B W103 (d_jdk_38_method_6_36) rfl ?_
  obtain ⟨T104, h104, v104, W104, Q104, st104⟩ := x_static B W103 [(.ref ea), (.int 49)] (c_cp2_33 l Z a0 hw ea kA vs mo h0 A1 hbx X1 Mo) (d_jdk_38_method_6_37) (tw hw 185 rfl) (tw hw 186 rfl) (tw hw 187 rfl) (tw hw 188 rfl) (by decide) (lenOf pd___Ljava_lang_Object_I__Ljava_lang_Object_ rfl) #[.val (.ref a1), .val (.int 34), .val (.int 33), .val (.int 49)] [(.ref a1)] rfl 1 rfl (by decide) (by decide) (by decide) (by decide)
  obtain ⟨b104, kB104, vs104, rfl, gb104, K104, A104, vl104, O104, X104, ag104⟩ := Q104
  have s105 := K104.1
  refine st104 _ ?_
  have l104 := nlt A104.lt
  refine g_dup_x1 B W104 (d_jdk_38_method_6_40) rfl rfl ?_
  have f106 := (F2.keep K104 nin0)
  have f107 := (E1.keep K104)
  obtain ⟨T108, h108, W108, K108, R108, F108, E108, st108⟩ := x_put B W104 (d_jdk_38_method_6_41) ((tw hw 24 rfl)) Via.refl f106 f107 (Or.inl (tw hw 25 rfl)) (tw hw 1 rfl) (ty := (.array (.object "java/lang/Object"))) (v := (.ref b104)) (v' := (.ref b104)) (by decide) rfl rfl (by omega) #[.val (.ref a1), .val (.int 34), .val (.int 33), .val (.int 49)] [(.ref b104)]
  refine st108 _ ?_
  have f109 := (F1.keep K104 nin0)
  have f110 := f109.other R108 (Or.inr (slot_ne (Or.inl (tw hw 46 rfl)) (Or.inl (tw hw 25 rfl)) (by decide) (t := .int) (t' := (.array (.object "java/lang/Object"))) (by decide) (by decide)))
  have f111 := (F3.keep K104 nin0)
  have f112 := f111.other R108 (Or.inr (slot_ne (Or.inl (tw hw 22 rfl)) (Or.inl (tw hw 25 rfl)) (by decide) (t := .int) (t' := (.array (.object "java/lang/Object"))) (by decide) (by decide)))
  have s113 := K108.1
  have f114 := (A104.keep K108 (ninS (nne (by have q := nlt A104.lt; omega)) nin0))
  have f115 := (X104.keep K108)
  exact r_a B W108 rfl rfl rfl (d_jdk_38_method_6_44) (by decide) (by decide) ⟨_, _, _, rfl, by omega, (((Keep.refl h0 [a1]).trans K104 all0).trans K108 (allS (Or.inl (by simp)) all0)), E108, f110, F108, f112, f114, f115, vl104, O104, ag104⟩
theorem ef_growI49 (m : MethodId) (a1 : Addr) (mc : Int32) (ea : Addr) (kA : ClassId) (vs : List Value) (mo : Addr) : entryFrame m #[(.ref a1), (.int 50)] 4 = mkF m 0 #[.val (.ref a1), .val (.int 50), .unset, .unset] [] := by first | (simp [entryFrame, mkF, argsToLocals, Value.category]; done) | rfl
def Q_growI49 (Z : State) (a1 : Addr) (mc : Int32) (ea : Addr) (kA : ClassId) (vs : List Value) (mo : Addr) (h0 : Heap) (v : Option Value) (h : Heap) : Prop := ∃ (ea2 : Addr) (kB : ClassId) (vs2 : List Value), v = some (.ref ea2) ∧ h0.size ≤ ea2 ∧ Keep h0 h [a1] ∧ Exa Z h a1 "java/util/ArrayList" ∧ Fld Z h a1 "java/util/ArrayList" "size" "I" (.int 49) ∧ Fld Z h a1 "java/util/ArrayList" "elementData" "[Ljava/lang/Object;" (.ref ea2) ∧ Fld Z h a1 "java/util/AbstractList" "modCount" "I" (.int mc) ∧ Arv Z h ea2 kB (.object "java/lang/Object") 73 vs2 .null ∧ Exa Z h ea2 "[Ljava/lang/Object;" ∧ vs2.length = Int32.toNatClampNeg 73 ∧ Ovr Z kB "java/lang/Object" ∧ ∀ i : Nat, i < Int32.toNatClampNeg 49 → vs2.getD i .null = vs.getD i .null
set_option maxRecDepth 65536 in
set_option maxHeartbeats 40000000 in
theorem c_growI49 (l : Launch) (Z : State) (a0 : Array Value) (hw : ∀ d ∈ tables_1, d.before a0 Z = true) (a1 : Addr) (mc : Int32) (ea : Addr) (kA : ClassId) (vs : List Value) (mo : Addr) (h0 : Heap) (E1 : Exa Z h0 a1 "java/util/ArrayList") (F1 : Fld Z h0 a1 "java/util/ArrayList" "size" "I" (.int 49)) (F2 : Fld Z h0 a1 "java/util/ArrayList" "elementData" "[Ljava/lang/Object;" (.ref ea)) (F3 : Fld Z h0 a1 "java/util/AbstractList" "modCount" "I" (.int mc)) (g1 : Z.heap.size ≤ a1) (A1 : Arv Z h0 ea kA (.object "java/lang/Object") 49 vs .null) (hbx : ∀ i : Nat, i < Int32.toNatClampNeg 49 → ∃ y : Addr, vs.getD i .null = .ref y ∧ Exa Z Z.heap y "java/lang/Integer") (X1 : Exa Z h0 ea "[Ljava/lang/Object;") (hne : ¬ @Eq Nat ea a1) (Mo : Mi Z "[Ljava/lang/Object;" mo) :
    Con l Z (⟨"java/util/ArrayList", "grow", "(I)[Ljava/lang/Object;"⟩ : MethodName) jdk_38_method_6_code 4 (Option.some (FieldType.array (FieldType.object "java/lang/Object"))) [] ({ frames := 3, cells := 1, slots := 73, locals := 69 } : Room) #[(.ref a1), (.int 50)] h0 (Q_growI49 Z a1 mc ea kA vs mo h0) := by
  refine Con.of (plainFor_of_name pn_java_util_ArrayList) ?_
  intro p e s m below meth c T0 B W0
  refine Go.cast (ef_growI49 m a1 mc ea kA vs mo ) ?_
  have l_a1 := nlt E1.lt
  have l_ea := nlt A1.lt
  refine g_aload_n B W0 (d_jdk_38_method_6_0) rfl rfl ?_
  obtain ⟨T101, W101, st101⟩ := x_get B W0 (host := "") (d_jdk_38_method_6_1) (Or.inl (tw hw 24 rfl)) Via.refl F2 #[.val (.ref a1), .val (.int 50), .unset, .unset] []
  refine st101 _ ?_
  refine g_aalen B W101 (d_jdk_38_method_6_4) A1 ?_
  refine g_istore_n B W101 (d_jdk_38_method_6_5)  (l' := #[.val (.ref a1), .val (.int 50), .val (.int 49), .unset]) rfl ?_
  refine g_iload_n B W101 (d_jdk_38_method_6_6) rfl ?_
  refine g_if_y B W101 (d_jdk_38_method_6_7) (XT.i0_gt_t (by decide)) (pc' := 20) (by decide) ?_
  show Go p.tables e below _ T101 (mkF m 20 #[.val (.ref a1), .val (.int 50), .val (.int 49), .unset] [])
  refine g_iload_n B W101 (d_jdk_38_method_6_20) rfl ?_
  refine g_iload_n B W101 (d_jdk_38_method_6_21) rfl ?_
  refine g_iload_n B W101 (d_jdk_38_method_6_22) rfl ?_
  refine g_isub B W101 (d_jdk_38_method_6_23)  ?_
  rw [show (50 - 49 : Int32) = 1 by decide]
  refine g_iload_n B W101 (d_jdk_38_method_6_24) rfl ?_
  refine g_iconst B W101 (d_jdk_38_method_6_25) (v := 1) (by decide) ?_
  refine g_ishr B W101 (d_jdk_38_method_6_26)  ?_
  rw [show ((49 : Int32) >>> ((1 : Int32) &&& 31)) = 24 by decide]
  obtain ⟨T102, h102, v102, W102, Q102, st102⟩ := x_static B W101 [(.int 49), (.int 1), (.int 24)] (c_nl49 l Z a0 hw h0) (d_jdk_38_method_6_27) (tw hw 179 rfl) (tw hw 180 rfl) (tw hw 181 rfl) (tw hw 182 rfl) (by decide) (lenOf pd__III_I rfl) #[.val (.ref a1), .val (.int 50), .val (.int 49), .unset] [] rfl 0 rfl (by decide) (by decide) (by decide) (by decide)
  obtain ⟨rfl, rfl⟩ := Q102
  refine st102 _ ?_
  show Go p.tables e below _ T102 (mkF m 30 #[.val (.ref a1), .val (.int 50), .val (.int 49), .unset] [(.int 73)])
  refine g_istore_n B W102 (d_jdk_38_method_6_30)  (l' := #[.val (.ref a1), .val (.int 50), .val (.int 49), .val (.int 73)]) rfl ?_
  refine g_aload_n B W102 (d_jdk_38_method_6_31) rfl rfl ?_
  refine g_aload_n B W102 (d_jdk_38_method_6_32) rfl rfl ?_
  obtain ⟨T103, W103, st103⟩ := x_get B W102 (host := "") (d_jdk_38_method_6_33) (Or.inl (tw hw 24 rfl)) Via.refl F2 #[.val (.ref a1), .val (.int 50), .val (.int 49), .val (.int 73)] [(.ref a1)]
  refine st103 _ ?_
  refine g_iload_n B W103 (d_jdk_38_method_6_36) rfl ?_
  obtain ⟨T104, h104, v104, W104, Q104, st104⟩ := x_static B W103 [(.ref ea), (.int 73)] (c_cp2_49 l Z a0 hw ea kA vs mo h0 A1 hbx X1 Mo) (d_jdk_38_method_6_37) (tw hw 185 rfl) (tw hw 186 rfl) (tw hw 187 rfl) (tw hw 188 rfl) (by decide) (lenOf pd___Ljava_lang_Object_I__Ljava_lang_Object_ rfl) #[.val (.ref a1), .val (.int 50), .val (.int 49), .val (.int 73)] [(.ref a1)] rfl 1 rfl (by decide) (by decide) (by decide) (by decide)
  obtain ⟨b104, kB104, vs104, rfl, gb104, K104, A104, vl104, O104, X104, ag104⟩ := Q104
  have s105 := K104.1
  refine st104 _ ?_
  have l104 := nlt A104.lt
  refine g_dup_x1 B W104 (d_jdk_38_method_6_40) rfl rfl ?_
  have f106 := (F2.keep K104 nin0)
  have f107 := (E1.keep K104)
  obtain ⟨T108, h108, W108, K108, R108, F108, E108, st108⟩ := x_put B W104 (d_jdk_38_method_6_41) ((tw hw 24 rfl)) Via.refl f106 f107 (Or.inl (tw hw 25 rfl)) (tw hw 1 rfl) (ty := (.array (.object "java/lang/Object"))) (v := (.ref b104)) (v' := (.ref b104)) (by decide) rfl rfl (by omega) #[.val (.ref a1), .val (.int 50), .val (.int 49), .val (.int 73)] [(.ref b104)]
  refine st108 _ ?_
  have f109 := (F1.keep K104 nin0)
  have f110 := f109.other R108 (Or.inr (slot_ne (Or.inl (tw hw 46 rfl)) (Or.inl (tw hw 25 rfl)) (by decide) (t := .int) (t' := (.array (.object "java/lang/Object"))) (by decide) (by decide)))
  have f111 := (F3.keep K104 nin0)
  have f112 := f111.other R108 (Or.inr (slot_ne (Or.inl (tw hw 22 rfl)) (Or.inl (tw hw 25 rfl)) (by decide) (t := .int) (t' := (.array (.object "java/lang/Object"))) (by decide) (by decide)))
  have s113 := K108.1
  have f114 := (A104.keep K108 (ninS (nne (by have q := nlt A104.lt; omega)) nin0))
  have f115 := (X104.keep K108)
  exact r_a B W108 rfl rfl rfl (d_jdk_38_method_6_44) (by decide) (by decide) ⟨_, _, _, rfl, by omega, (((Keep.refl h0 [a1]).trans K104 all0).trans K108 (allS (Or.inl (by simp)) all0)), E108, f110, F108, f112, f114, f115, vl104, O104, ag104⟩
theorem ef_grow0F (m : MethodId) (a1 : Addr) (mc : Int32) (de : Addr) (dc : Cell) : entryFrame m #[(.ref a1)] 1 = mkF m 0 #[.val (.ref a1)] [] := by first | (simp [entryFrame, mkF, argsToLocals, Value.category]; done) | rfl
def Q_grow0F (Z : State) (a1 : Addr) (mc : Int32) (de : Addr) (dc : Cell) (h0 : Heap) (v : Option Value) (h : Heap) : Prop := ∃ (ea2 : Addr) (kB : ClassId) (vs2 : List Value), v = some (.ref ea2) ∧ h0.size ≤ ea2 ∧ Keep h0 h [a1] ∧ Exa Z h a1 "java/util/ArrayList" ∧ Fld Z h a1 "java/util/ArrayList" "size" "I" (.int 0) ∧ Fld Z h a1 "java/util/ArrayList" "elementData" "[Ljava/lang/Object;" (.ref ea2) ∧ Fld Z h a1 "java/util/AbstractList" "modCount" "I" (.int mc) ∧ Arv Z h ea2 kB (.object "java/lang/Object") 10 vs2 .null ∧ Exa Z h ea2 "[Ljava/lang/Object;" ∧ vs2.length = Int32.toNatClampNeg 10 ∧ Ovr Z kB "java/lang/Object" ∧ vs2 = List.replicate 10 .null
set_option maxRecDepth 65536 in
set_option maxHeartbeats 40000000 in
theorem c_grow0F (l : Launch) (Z : State) (a0 : Array Value) (hw : ∀ d ∈ tables_1, d.before a0 Z = true) (a1 : Addr) (mc : Int32) (de : Addr) (dc : Cell) (h0 : Heap) (E1 : Exa Z h0 a1 "java/util/ArrayList") (F1 : Fld Z h0 a1 "java/util/ArrayList" "size" "I" (.int 0)) (F2 : Fld Z h0 a1 "java/util/ArrayList" "elementData" "[Ljava/lang/Object;" (.ref de)) (F3 : Fld Z h0 a1 "java/util/AbstractList" "modCount" "I" (.int mc)) (g1 : Z.heap.size ≤ a1) (Sde : Sta Z Z.heap "java/util/ArrayList" "DEFAULTCAPACITY_EMPTY_ELEMENTDATA" "[Ljava/lang/Object;" (.ref de)) (Ade : Arr Z Z.heap de dc (.object "java/lang/Object")) (lde : dc.slots.size.toInt32 = 0) :
    Con l Z (⟨"java/util/ArrayList", "grow", "()[Ljava/lang/Object;"⟩ : MethodName) jdk_38_method_7_code 1 (Option.some (FieldType.array (FieldType.object "java/lang/Object"))) [] ({ frames := 4, cells := 1, slots := 10, locals := 84 } : Room) #[(.ref a1)] h0 (Q_grow0F Z a1 mc de dc h0) := by
  refine Con.of (plainFor_of_name pn_java_util_ArrayList) ?_
  intro p e s m below meth c T0 B W0
  refine Go.cast (ef_grow0F m a1 mc de dc ) ?_
  have l_a1 := nlt E1.lt
  refine g_aload_n B W0 (d_jdk_38_method_7_0) rfl rfl ?_
  refine g_aload_n B W0 (d_jdk_38_method_7_1) rfl rfl ?_
  obtain ⟨T101, W101, st101⟩ := x_get B W0 (host := "") (d_jdk_38_method_7_2) (Or.inl (tw hw 45 rfl)) Via.refl F1 #[.val (.ref a1)] [(.ref a1)]
  refine st101 _ ?_
  refine g_iconst B W101 (d_jdk_38_method_7_5) (v := 1) (by decide) ?_
  refine g_iadd B W101 (d_jdk_38_method_7_6)  ?_
  rw [show (0 + 1 : Int32) = 1 by decide]
  obtain ⟨T102, h102, v102, W102, Q102, st102⟩ := x_private B W101 (b := a1) [(.int 1)] (c_growF l Z a0 hw a1 mc de dc h0 E1 F1 F2 F3 (by omega) Sde Ade lde) E1 (d_jdk_38_method_7_7) (tw hw 105 rfl) (tw hw 106 rfl) (tw hw 108 rfl) (tw hw 107 rfl) (tw hw 2 rfl) (tw hw 109 rfl) (by decide) (lenOf pd__I__Ljava_lang_Object_ rfl) #[.val (.ref a1)] [] rfl 0 rfl (by decide) (by decide) (by decide) (by decide)
  obtain ⟨ea102, kB102, vs102, rfl, gb102, K102, E102, Fs102, Fe102, Fm102, A102, X102, vl102, O102, ev102⟩ := Q102
  have s103 := K102.1
  refine st102 _ ?_
  have l102 := nlt A102.lt
  exact r_a B W102 rfl rfl rfl (d_jdk_38_method_7_10) (by decide) (by decide) ⟨_, _, _, rfl, by omega, ((Keep.refl h0 [a1]).trans K102 (allS (Or.inl (by simp)) all0)), E102, Fs102, Fe102, Fm102, A102, X102, vl102, O102, ev102⟩
theorem ef_grow0_10 (m : MethodId) (a1 : Addr) (mc : Int32) (ea : Addr) (kA : ClassId) (vs : List Value) (mo : Addr) : entryFrame m #[(.ref a1)] 1 = mkF m 0 #[.val (.ref a1)] [] := by first | (simp [entryFrame, mkF, argsToLocals, Value.category]; done) | rfl
def Q_grow0_10 (Z : State) (a1 : Addr) (mc : Int32) (ea : Addr) (kA : ClassId) (vs : List Value) (mo : Addr) (h0 : Heap) (v : Option Value) (h : Heap) : Prop := ∃ (ea2 : Addr) (kB : ClassId) (vs2 : List Value), v = some (.ref ea2) ∧ h0.size ≤ ea2 ∧ Keep h0 h [a1] ∧ Exa Z h a1 "java/util/ArrayList" ∧ Fld Z h a1 "java/util/ArrayList" "size" "I" (.int 10) ∧ Fld Z h a1 "java/util/ArrayList" "elementData" "[Ljava/lang/Object;" (.ref ea2) ∧ Fld Z h a1 "java/util/AbstractList" "modCount" "I" (.int mc) ∧ Arv Z h ea2 kB (.object "java/lang/Object") 15 vs2 .null ∧ Exa Z h ea2 "[Ljava/lang/Object;" ∧ vs2.length = Int32.toNatClampNeg 15 ∧ Ovr Z kB "java/lang/Object" ∧ ∀ i : Nat, i < Int32.toNatClampNeg 10 → vs2.getD i .null = vs.getD i .null
set_option maxRecDepth 65536 in
set_option maxHeartbeats 40000000 in
theorem c_grow0_10 (l : Launch) (Z : State) (a0 : Array Value) (hw : ∀ d ∈ tables_1, d.before a0 Z = true) (a1 : Addr) (mc : Int32) (ea : Addr) (kA : ClassId) (vs : List Value) (mo : Addr) (h0 : Heap) (E1 : Exa Z h0 a1 "java/util/ArrayList") (F1 : Fld Z h0 a1 "java/util/ArrayList" "size" "I" (.int 10)) (F2 : Fld Z h0 a1 "java/util/ArrayList" "elementData" "[Ljava/lang/Object;" (.ref ea)) (F3 : Fld Z h0 a1 "java/util/AbstractList" "modCount" "I" (.int mc)) (g1 : Z.heap.size ≤ a1) (A1 : Arv Z h0 ea kA (.object "java/lang/Object") 10 vs .null) (hbx : ∀ i : Nat, i < Int32.toNatClampNeg 10 → ∃ y : Addr, vs.getD i .null = .ref y ∧ Exa Z Z.heap y "java/lang/Integer") (X1 : Exa Z h0 ea "[Ljava/lang/Object;") (hne : ¬ @Eq Nat ea a1) (Mo : Mi Z "[Ljava/lang/Object;" mo) :
    Con l Z (⟨"java/util/ArrayList", "grow", "()[Ljava/lang/Object;"⟩ : MethodName) jdk_38_method_7_code 1 (Option.some (FieldType.array (FieldType.object "java/lang/Object"))) [] ({ frames := 4, cells := 1, slots := 15, locals := 84 } : Room) #[(.ref a1)] h0 (Q_grow0_10 Z a1 mc ea kA vs mo h0) := by
  refine Con.of (plainFor_of_name pn_java_util_ArrayList) ?_
  intro p e s m below meth c T0 B W0
  refine Go.cast (ef_grow0_10 m a1 mc ea kA vs mo ) ?_
  have l_a1 := nlt E1.lt
  have l_ea := nlt A1.lt
  refine g_aload_n B W0 (d_jdk_38_method_7_0) rfl rfl ?_
  refine g_aload_n B W0 (d_jdk_38_method_7_1) rfl rfl ?_
  obtain ⟨T101, W101, st101⟩ := x_get B W0 (host := "") (d_jdk_38_method_7_2) (Or.inl (tw hw 45 rfl)) Via.refl F1 #[.val (.ref a1)] [(.ref a1)]
  refine st101 _ ?_
  refine g_iconst B W101 (d_jdk_38_method_7_5) (v := 1) (by decide) ?_
  refine g_iadd B W101 (d_jdk_38_method_7_6)  ?_
  rw [show (10 + 1 : Int32) = 11 by decide]
  obtain ⟨T102, h102, v102, W102, Q102, st102⟩ := x_private B W101 (b := a1) [(.int 11)] (c_growI10 l Z a0 hw a1 mc ea kA vs mo h0 E1 F1 F2 F3 (by omega) A1 hbx X1 hne Mo) E1 (d_jdk_38_method_7_7) (tw hw 105 rfl) (tw hw 106 rfl) (tw hw 108 rfl) (tw hw 107 rfl) (tw hw 2 rfl) (tw hw 109 rfl) (by decide) (lenOf pd__I__Ljava_lang_Object_ rfl) #[.val (.ref a1)] [] rfl 0 rfl (by decide) (by decide) (by decide) (by decide)
  obtain ⟨ea102, kB102, vs102, rfl, gb102, K102, E102, Fs102, Fe102, Fm102, A102, X102, vl102, O102, ag102⟩ := Q102
  have s103 := K102.1
  refine st102 _ ?_
  have l102 := nlt A102.lt
  exact r_a B W102 rfl rfl rfl (d_jdk_38_method_7_10) (by decide) (by decide) ⟨_, _, _, rfl, by omega, ((Keep.refl h0 [a1]).trans K102 (allS (Or.inl (by simp)) all0)), E102, Fs102, Fe102, Fm102, A102, X102, vl102, O102, ag102⟩
theorem ef_grow0_15 (m : MethodId) (a1 : Addr) (mc : Int32) (ea : Addr) (kA : ClassId) (vs : List Value) (mo : Addr) : entryFrame m #[(.ref a1)] 1 = mkF m 0 #[.val (.ref a1)] [] := by first | (simp [entryFrame, mkF, argsToLocals, Value.category]; done) | rfl
def Q_grow0_15 (Z : State) (a1 : Addr) (mc : Int32) (ea : Addr) (kA : ClassId) (vs : List Value) (mo : Addr) (h0 : Heap) (v : Option Value) (h : Heap) : Prop := ∃ (ea2 : Addr) (kB : ClassId) (vs2 : List Value), v = some (.ref ea2) ∧ h0.size ≤ ea2 ∧ Keep h0 h [a1] ∧ Exa Z h a1 "java/util/ArrayList" ∧ Fld Z h a1 "java/util/ArrayList" "size" "I" (.int 15) ∧ Fld Z h a1 "java/util/ArrayList" "elementData" "[Ljava/lang/Object;" (.ref ea2) ∧ Fld Z h a1 "java/util/AbstractList" "modCount" "I" (.int mc) ∧ Arv Z h ea2 kB (.object "java/lang/Object") 22 vs2 .null ∧ Exa Z h ea2 "[Ljava/lang/Object;" ∧ vs2.length = Int32.toNatClampNeg 22 ∧ Ovr Z kB "java/lang/Object" ∧ ∀ i : Nat, i < Int32.toNatClampNeg 15 → vs2.getD i .null = vs.getD i .null
set_option maxRecDepth 65536 in
set_option maxHeartbeats 40000000 in
theorem c_grow0_15 (l : Launch) (Z : State) (a0 : Array Value) (hw : ∀ d ∈ tables_1, d.before a0 Z = true) (a1 : Addr) (mc : Int32) (ea : Addr) (kA : ClassId) (vs : List Value) (mo : Addr) (h0 : Heap) (E1 : Exa Z h0 a1 "java/util/ArrayList") (F1 : Fld Z h0 a1 "java/util/ArrayList" "size" "I" (.int 15)) (F2 : Fld Z h0 a1 "java/util/ArrayList" "elementData" "[Ljava/lang/Object;" (.ref ea)) (F3 : Fld Z h0 a1 "java/util/AbstractList" "modCount" "I" (.int mc)) (g1 : Z.heap.size ≤ a1) (A1 : Arv Z h0 ea kA (.object "java/lang/Object") 15 vs .null) (hbx : ∀ i : Nat, i < Int32.toNatClampNeg 15 → ∃ y : Addr, vs.getD i .null = .ref y ∧ Exa Z Z.heap y "java/lang/Integer") (X1 : Exa Z h0 ea "[Ljava/lang/Object;") (hne : ¬ @Eq Nat ea a1) (Mo : Mi Z "[Ljava/lang/Object;" mo) :
    Con l Z (⟨"java/util/ArrayList", "grow", "()[Ljava/lang/Object;"⟩ : MethodName) jdk_38_method_7_code 1 (Option.some (FieldType.array (FieldType.object "java/lang/Object"))) [] ({ frames := 4, cells := 1, slots := 22, locals := 84 } : Room) #[(.ref a1)] h0 (Q_grow0_15 Z a1 mc ea kA vs mo h0) := by
  refine Con.of (plainFor_of_name pn_java_util_ArrayList) ?_
  intro p e s m below meth c T0 B W0
  refine Go.cast (ef_grow0_15 m a1 mc ea kA vs mo ) ?_
  have l_a1 := nlt E1.lt
  have l_ea := nlt A1.lt
  refine g_aload_n B W0 (d_jdk_38_method_7_0) rfl rfl ?_
  refine g_aload_n B W0 (d_jdk_38_method_7_1) rfl rfl ?_
  obtain ⟨T101, W101, st101⟩ := x_get B W0 (host := "") (d_jdk_38_method_7_2) (Or.inl (tw hw 45 rfl)) Via.refl F1 #[.val (.ref a1)] [(.ref a1)]
  refine st101 _ ?_
  refine g_iconst B W101 (d_jdk_38_method_7_5) (v := 1) (by decide) ?_
  refine g_iadd B W101 (d_jdk_38_method_7_6)  ?_
  rw [show (15 + 1 : Int32) = 16 by decide]
  obtain ⟨T102, h102, v102, W102, Q102, st102⟩ := x_private B W101 (b := a1) [(.int 16)] (c_growI15 l Z a0 hw a1 mc ea kA vs mo h0 E1 F1 F2 F3 (by omega) A1 hbx X1 hne Mo) E1 (d_jdk_38_method_7_7) (tw hw 105 rfl) (tw hw 106 rfl) (tw hw 108 rfl) (tw hw 107 rfl) (tw hw 2 rfl) (tw hw 109 rfl) (by decide) (lenOf pd__I__Ljava_lang_Object_ rfl) #[.val (.ref a1)] [] rfl 0 rfl (by decide) (by decide) (by decide) (by decide)
  obtain ⟨ea102, kB102, vs102, rfl, gb102, K102, E102, Fs102, Fe102, Fm102, A102, X102, vl102, O102, ag102⟩ := Q102
  have s103 := K102.1
  refine st102 _ ?_
  have l102 := nlt A102.lt
  exact r_a B W102 rfl rfl rfl (d_jdk_38_method_7_10) (by decide) (by decide) ⟨_, _, _, rfl, by omega, ((Keep.refl h0 [a1]).trans K102 (allS (Or.inl (by simp)) all0)), E102, Fs102, Fe102, Fm102, A102, X102, vl102, O102, ag102⟩
theorem ef_grow0_22 (m : MethodId) (a1 : Addr) (mc : Int32) (ea : Addr) (kA : ClassId) (vs : List Value) (mo : Addr) : entryFrame m #[(.ref a1)] 1 = mkF m 0 #[.val (.ref a1)] [] := by first | (simp [entryFrame, mkF, argsToLocals, Value.category]; done) | rfl
def Q_grow0_22 (Z : State) (a1 : Addr) (mc : Int32) (ea : Addr) (kA : ClassId) (vs : List Value) (mo : Addr) (h0 : Heap) (v : Option Value) (h : Heap) : Prop := ∃ (ea2 : Addr) (kB : ClassId) (vs2 : List Value), v = some (.ref ea2) ∧ h0.size ≤ ea2 ∧ Keep h0 h [a1] ∧ Exa Z h a1 "java/util/ArrayList" ∧ Fld Z h a1 "java/util/ArrayList" "size" "I" (.int 22) ∧ Fld Z h a1 "java/util/ArrayList" "elementData" "[Ljava/lang/Object;" (.ref ea2) ∧ Fld Z h a1 "java/util/AbstractList" "modCount" "I" (.int mc) ∧ Arv Z h ea2 kB (.object "java/lang/Object") 33 vs2 .null ∧ Exa Z h ea2 "[Ljava/lang/Object;" ∧ vs2.length = Int32.toNatClampNeg 33 ∧ Ovr Z kB "java/lang/Object" ∧ ∀ i : Nat, i < Int32.toNatClampNeg 22 → vs2.getD i .null = vs.getD i .null
set_option maxRecDepth 65536 in
set_option maxHeartbeats 40000000 in
theorem c_grow0_22 (l : Launch) (Z : State) (a0 : Array Value) (hw : ∀ d ∈ tables_1, d.before a0 Z = true) (a1 : Addr) (mc : Int32) (ea : Addr) (kA : ClassId) (vs : List Value) (mo : Addr) (h0 : Heap) (E1 : Exa Z h0 a1 "java/util/ArrayList") (F1 : Fld Z h0 a1 "java/util/ArrayList" "size" "I" (.int 22)) (F2 : Fld Z h0 a1 "java/util/ArrayList" "elementData" "[Ljava/lang/Object;" (.ref ea)) (F3 : Fld Z h0 a1 "java/util/AbstractList" "modCount" "I" (.int mc)) (g1 : Z.heap.size ≤ a1) (A1 : Arv Z h0 ea kA (.object "java/lang/Object") 22 vs .null) (hbx : ∀ i : Nat, i < Int32.toNatClampNeg 22 → ∃ y : Addr, vs.getD i .null = .ref y ∧ Exa Z Z.heap y "java/lang/Integer") (X1 : Exa Z h0 ea "[Ljava/lang/Object;") (hne : ¬ @Eq Nat ea a1) (Mo : Mi Z "[Ljava/lang/Object;" mo) :
    Con l Z (⟨"java/util/ArrayList", "grow", "()[Ljava/lang/Object;"⟩ : MethodName) jdk_38_method_7_code 1 (Option.some (FieldType.array (FieldType.object "java/lang/Object"))) [] ({ frames := 4, cells := 1, slots := 33, locals := 84 } : Room) #[(.ref a1)] h0 (Q_grow0_22 Z a1 mc ea kA vs mo h0) := by
  refine Con.of (plainFor_of_name pn_java_util_ArrayList) ?_
  intro p e s m below meth c T0 B W0
  refine Go.cast (ef_grow0_22 m a1 mc ea kA vs mo ) ?_
  have l_a1 := nlt E1.lt
  have l_ea := nlt A1.lt
  refine g_aload_n B W0 (d_jdk_38_method_7_0) rfl rfl ?_
  refine g_aload_n B W0 (d_jdk_38_method_7_1) rfl rfl ?_
  obtain ⟨T101, W101, st101⟩ := x_get B W0 (host := "") (d_jdk_38_method_7_2) (Or.inl (tw hw 45 rfl)) Via.refl F1 #[.val (.ref a1)] [(.ref a1)]
  refine st101 _ ?_
  refine g_iconst B W101 (d_jdk_38_method_7_5) (v := 1) (by decide) ?_
  refine g_iadd B W101 (d_jdk_38_method_7_6)  ?_
  rw [show (22 + 1 : Int32) = 23 by decide]
  obtain ⟨T102, h102, v102, W102, Q102, st102⟩ := x_private B W101 (b := a1) [(.int 23)] (c_growI22 l Z a0 hw a1 mc ea kA vs mo h0 E1 F1 F2 F3 (by omega) A1 hbx X1 hne Mo) E1 (d_jdk_38_method_7_7) (tw hw 105 rfl) (tw hw 106 rfl) (tw hw 108 rfl) (tw hw 107 rfl) (tw hw 2 rfl) (tw hw 109 rfl) (by decide) (lenOf pd__I__Ljava_lang_Object_ rfl) #[.val (.ref a1)] [] rfl 0 rfl (by decide) (by decide) (by decide) (by decide)
  obtain ⟨ea102, kB102, vs102, rfl, gb102, K102, E102, Fs102, Fe102, Fm102, A102, X102, vl102, O102, ag102⟩ := Q102
  have s103 := K102.1
  refine st102 _ ?_
  have l102 := nlt A102.lt
  exact r_a B W102 rfl rfl rfl (d_jdk_38_method_7_10) (by decide) (by decide) ⟨_, _, _, rfl, by omega, ((Keep.refl h0 [a1]).trans K102 (allS (Or.inl (by simp)) all0)), E102, Fs102, Fe102, Fm102, A102, X102, vl102, O102, ag102⟩
theorem ef_grow0_33 (m : MethodId) (a1 : Addr) (mc : Int32) (ea : Addr) (kA : ClassId) (vs : List Value) (mo : Addr) : entryFrame m #[(.ref a1)] 1 = mkF m 0 #[.val (.ref a1)] [] := by first | (simp [entryFrame, mkF, argsToLocals, Value.category]; done) | rfl
def Q_grow0_33 (Z : State) (a1 : Addr) (mc : Int32) (ea : Addr) (kA : ClassId) (vs : List Value) (mo : Addr) (h0 : Heap) (v : Option Value) (h : Heap) : Prop := ∃ (ea2 : Addr) (kB : ClassId) (vs2 : List Value), v = some (.ref ea2) ∧ h0.size ≤ ea2 ∧ Keep h0 h [a1] ∧ Exa Z h a1 "java/util/ArrayList" ∧ Fld Z h a1 "java/util/ArrayList" "size" "I" (.int 33) ∧ Fld Z h a1 "java/util/ArrayList" "elementData" "[Ljava/lang/Object;" (.ref ea2) ∧ Fld Z h a1 "java/util/AbstractList" "modCount" "I" (.int mc) ∧ Arv Z h ea2 kB (.object "java/lang/Object") 49 vs2 .null ∧ Exa Z h ea2 "[Ljava/lang/Object;" ∧ vs2.length = Int32.toNatClampNeg 49 ∧ Ovr Z kB "java/lang/Object" ∧ ∀ i : Nat, i < Int32.toNatClampNeg 33 → vs2.getD i .null = vs.getD i .null
set_option maxRecDepth 65536 in
set_option maxHeartbeats 40000000 in
theorem c_grow0_33 (l : Launch) (Z : State) (a0 : Array Value) (hw : ∀ d ∈ tables_1, d.before a0 Z = true) (a1 : Addr) (mc : Int32) (ea : Addr) (kA : ClassId) (vs : List Value) (mo : Addr) (h0 : Heap) (E1 : Exa Z h0 a1 "java/util/ArrayList") (F1 : Fld Z h0 a1 "java/util/ArrayList" "size" "I" (.int 33)) (F2 : Fld Z h0 a1 "java/util/ArrayList" "elementData" "[Ljava/lang/Object;" (.ref ea)) (F3 : Fld Z h0 a1 "java/util/AbstractList" "modCount" "I" (.int mc)) (g1 : Z.heap.size ≤ a1) (A1 : Arv Z h0 ea kA (.object "java/lang/Object") 33 vs .null) (hbx : ∀ i : Nat, i < Int32.toNatClampNeg 33 → ∃ y : Addr, vs.getD i .null = .ref y ∧ Exa Z Z.heap y "java/lang/Integer") (X1 : Exa Z h0 ea "[Ljava/lang/Object;") (hne : ¬ @Eq Nat ea a1) (Mo : Mi Z "[Ljava/lang/Object;" mo) :
    Con l Z (⟨"java/util/ArrayList", "grow", "()[Ljava/lang/Object;"⟩ : MethodName) jdk_38_method_7_code 1 (Option.some (FieldType.array (FieldType.object "java/lang/Object"))) [] ({ frames := 4, cells := 1, slots := 49, locals := 84 } : Room) #[(.ref a1)] h0 (Q_grow0_33 Z a1 mc ea kA vs mo h0) := by
  refine Con.of (plainFor_of_name pn_java_util_ArrayList) ?_
  intro p e s m below meth c T0 B W0
  refine Go.cast (ef_grow0_33 m a1 mc ea kA vs mo ) ?_
  have l_a1 := nlt E1.lt
  have l_ea := nlt A1.lt
  refine g_aload_n B W0 (d_jdk_38_method_7_0) rfl rfl ?_
  refine g_aload_n B W0 (d_jdk_38_method_7_1) rfl rfl ?_
  obtain ⟨T101, W101, st101⟩ := x_get B W0 (host := "") (d_jdk_38_method_7_2) (Or.inl (tw hw 45 rfl)) Via.refl F1 #[.val (.ref a1)] [(.ref a1)]
  refine st101 _ ?_
  refine g_iconst B W101 (d_jdk_38_method_7_5) (v := 1) (by decide) ?_
  refine g_iadd B W101 (d_jdk_38_method_7_6)  ?_
  rw [show (33 + 1 : Int32) = 34 by decide]
  obtain ⟨T102, h102, v102, W102, Q102, st102⟩ := x_private B W101 (b := a1) [(.int 34)] (c_growI33 l Z a0 hw a1 mc ea kA vs mo h0 E1 F1 F2 F3 (by omega) A1 hbx X1 hne Mo) E1 (d_jdk_38_method_7_7) (tw hw 105 rfl) (tw hw 106 rfl) (tw hw 108 rfl) (tw hw 107 rfl) (tw hw 2 rfl) (tw hw 109 rfl) (by decide) (lenOf pd__I__Ljava_lang_Object_ rfl) #[.val (.ref a1)] [] rfl 0 rfl (by decide) (by decide) (by decide) (by decide)
  obtain ⟨ea102, kB102, vs102, rfl, gb102, K102, E102, Fs102, Fe102, Fm102, A102, X102, vl102, O102, ag102⟩ := Q102
  have s103 := K102.1
  refine st102 _ ?_
  have l102 := nlt A102.lt
  exact r_a B W102 rfl rfl rfl (d_jdk_38_method_7_10) (by decide) (by decide) ⟨_, _, _, rfl, by omega, ((Keep.refl h0 [a1]).trans K102 (allS (Or.inl (by simp)) all0)), E102, Fs102, Fe102, Fm102, A102, X102, vl102, O102, ag102⟩
theorem ef_grow0_49 (m : MethodId) (a1 : Addr) (mc : Int32) (ea : Addr) (kA : ClassId) (vs : List Value) (mo : Addr) : entryFrame m #[(.ref a1)] 1 = mkF m 0 #[.val (.ref a1)] [] := by first | (simp [entryFrame, mkF, argsToLocals, Value.category]; done) | rfl
def Q_grow0_49 (Z : State) (a1 : Addr) (mc : Int32) (ea : Addr) (kA : ClassId) (vs : List Value) (mo : Addr) (h0 : Heap) (v : Option Value) (h : Heap) : Prop := ∃ (ea2 : Addr) (kB : ClassId) (vs2 : List Value), v = some (.ref ea2) ∧ h0.size ≤ ea2 ∧ Keep h0 h [a1] ∧ Exa Z h a1 "java/util/ArrayList" ∧ Fld Z h a1 "java/util/ArrayList" "size" "I" (.int 49) ∧ Fld Z h a1 "java/util/ArrayList" "elementData" "[Ljava/lang/Object;" (.ref ea2) ∧ Fld Z h a1 "java/util/AbstractList" "modCount" "I" (.int mc) ∧ Arv Z h ea2 kB (.object "java/lang/Object") 73 vs2 .null ∧ Exa Z h ea2 "[Ljava/lang/Object;" ∧ vs2.length = Int32.toNatClampNeg 73 ∧ Ovr Z kB "java/lang/Object" ∧ ∀ i : Nat, i < Int32.toNatClampNeg 49 → vs2.getD i .null = vs.getD i .null
set_option maxRecDepth 65536 in
set_option maxHeartbeats 40000000 in
theorem c_grow0_49 (l : Launch) (Z : State) (a0 : Array Value) (hw : ∀ d ∈ tables_1, d.before a0 Z = true) (a1 : Addr) (mc : Int32) (ea : Addr) (kA : ClassId) (vs : List Value) (mo : Addr) (h0 : Heap) (E1 : Exa Z h0 a1 "java/util/ArrayList") (F1 : Fld Z h0 a1 "java/util/ArrayList" "size" "I" (.int 49)) (F2 : Fld Z h0 a1 "java/util/ArrayList" "elementData" "[Ljava/lang/Object;" (.ref ea)) (F3 : Fld Z h0 a1 "java/util/AbstractList" "modCount" "I" (.int mc)) (g1 : Z.heap.size ≤ a1) (A1 : Arv Z h0 ea kA (.object "java/lang/Object") 49 vs .null) (hbx : ∀ i : Nat, i < Int32.toNatClampNeg 49 → ∃ y : Addr, vs.getD i .null = .ref y ∧ Exa Z Z.heap y "java/lang/Integer") (X1 : Exa Z h0 ea "[Ljava/lang/Object;") (hne : ¬ @Eq Nat ea a1) (Mo : Mi Z "[Ljava/lang/Object;" mo) :
    Con l Z (⟨"java/util/ArrayList", "grow", "()[Ljava/lang/Object;"⟩ : MethodName) jdk_38_method_7_code 1 (Option.some (FieldType.array (FieldType.object "java/lang/Object"))) [] ({ frames := 4, cells := 1, slots := 73, locals := 84 } : Room) #[(.ref a1)] h0 (Q_grow0_49 Z a1 mc ea kA vs mo h0) := by
  refine Con.of (plainFor_of_name pn_java_util_ArrayList) ?_
  intro p e s m below meth c T0 B W0
  refine Go.cast (ef_grow0_49 m a1 mc ea kA vs mo ) ?_
  have l_a1 := nlt E1.lt
  have l_ea := nlt A1.lt
  refine g_aload_n B W0 (d_jdk_38_method_7_0) rfl rfl ?_
  refine g_aload_n B W0 (d_jdk_38_method_7_1) rfl rfl ?_
  obtain ⟨T101, W101, st101⟩ := x_get B W0 (host := "") (d_jdk_38_method_7_2) (Or.inl (tw hw 45 rfl)) Via.refl F1 #[.val (.ref a1)] [(.ref a1)]
  refine st101 _ ?_
  refine g_iconst B W101 (d_jdk_38_method_7_5) (v := 1) (by decide) ?_
  refine g_iadd B W101 (d_jdk_38_method_7_6)  ?_
  rw [show (49 + 1 : Int32) = 50 by decide]
  obtain ⟨T102, h102, v102, W102, Q102, st102⟩ := x_private B W101 (b := a1) [(.int 50)] (c_growI49 l Z a0 hw a1 mc ea kA vs mo h0 E1 F1 F2 F3 (by omega) A1 hbx X1 hne Mo) E1 (d_jdk_38_method_7_7) (tw hw 105 rfl) (tw hw 106 rfl) (tw hw 108 rfl) (tw hw 107 rfl) (tw hw 2 rfl) (tw hw 109 rfl) (by decide) (lenOf pd__I__Ljava_lang_Object_ rfl) #[.val (.ref a1)] [] rfl 0 rfl (by decide) (by decide) (by decide) (by decide)
  obtain ⟨ea102, kB102, vs102, rfl, gb102, K102, E102, Fs102, Fe102, Fm102, A102, X102, vl102, O102, ag102⟩ := Q102
  have s103 := K102.1
  refine st102 _ ?_
  have l102 := nlt A102.lt
  exact r_a B W102 rfl rfl rfl (d_jdk_38_method_7_10) (by decide) (by decide) ⟨_, _, _, rfl, by omega, ((Keep.refl h0 [a1]).trans K102 (allS (Or.inl (by simp)) all0)), E102, Fs102, Fe102, Fm102, A102, X102, vl102, O102, ag102⟩
theorem ef_add3FI (m : MethodId) (a1 : Addr) (mc : Int32) (ee : Addr) (de : Addr) (dc : Cell) : entryFrame m #[(.ref a1), (.ref ee), (.ref de), (.int 0)] 4 = mkF m 0 #[.val (.ref a1), .val (.ref ee), .val (.ref de), .val (.int 0)] [] := by first | (simp [entryFrame, mkF, argsToLocals, Value.category]; done) | rfl
def Q_add3FI (Z : State) (a1 : Addr) (mc : Int32) (ee : Addr) (de : Addr) (dc : Cell) (h0 : Heap) (v : Option Value) (h : Heap) : Prop := ∃ (ea2 : Addr) (kB : ClassId) (vs2 : List Value), v = none ∧ h0.size ≤ ea2 ∧ Keep h0 h [a1] ∧ Exa Z h a1 "java/util/ArrayList" ∧ Fld Z h a1 "java/util/ArrayList" "size" "I" (.int 1) ∧ Fld Z h a1 "java/util/ArrayList" "elementData" "[Ljava/lang/Object;" (.ref ea2) ∧ Fld Z h a1 "java/util/AbstractList" "modCount" "I" (.int mc) ∧ Arv Z h ea2 kB (.object "java/lang/Object") 10 (vs2.set (Int32.toNatClampNeg 0) (.ref ee)) .null ∧ Exa Z h ea2 "[Ljava/lang/Object;" ∧ vs2.length = Int32.toNatClampNeg 10 ∧ Ovr Z kB "java/lang/Object" ∧ vs2 = List.replicate 10 .null
set_option maxRecDepth 65536 in
set_option maxHeartbeats 40000000 in
theorem c_add3FI (l : Launch) (Z : State) (a0 : Array Value) (hw : ∀ d ∈ tables_1, d.before a0 Z = true) (a1 : Addr) (mc : Int32) (ee : Addr) (de : Addr) (dc : Cell) (h0 : Heap) (E1 : Exa Z h0 a1 "java/util/ArrayList") (F1 : Fld Z h0 a1 "java/util/ArrayList" "size" "I" (.int 0)) (F2 : Fld Z h0 a1 "java/util/ArrayList" "elementData" "[Ljava/lang/Object;" (.ref de)) (F3 : Fld Z h0 a1 "java/util/AbstractList" "modCount" "I" (.int mc)) (g1 : Z.heap.size ≤ a1) (Ee : Exa Z h0 ee "java/lang/Integer") (Sde : Sta Z Z.heap "java/util/ArrayList" "DEFAULTCAPACITY_EMPTY_ELEMENTDATA" "[Ljava/lang/Object;" (.ref de)) (Ade : Arr Z Z.heap de dc (.object "java/lang/Object")) (lde : dc.slots.size.toInt32 = 0) :
    Con l Z (⟨"java/util/ArrayList", "add", "(Ljava/lang/Object;[Ljava/lang/Object;I)V"⟩ : MethodName) jdk_38_method_24_code 4 (Option.none : Option FieldType) [] ({ frames := 5, cells := 1, slots := 10, locals := 96 } : Room) #[(.ref a1), (.ref ee), (.ref de), (.int 0)] h0 (Q_add3FI Z a1 mc ee de dc h0) := by
  refine Con.of (plainFor_of_name pn_java_util_ArrayList) ?_
  intro p e s m below meth c T0 B W0
  refine Go.cast (ef_add3FI m a1 mc ee de dc ) ?_
  have l_a1 := nlt E1.lt
  refine g_iload_n B W0 (d_jdk_38_method_24_0) rfl ?_
  refine g_aload_n B W0 (d_jdk_38_method_24_1) rfl rfl ?_
  refine g_alenK B W0 (d_jdk_38_method_24_2) (Ade.ext W0.old.2) lde ?_
  refine g_icmp_n B W0 (d_jdk_38_method_24_3) (XT.ii_ne_f (by decide)) ?_
  show Go p.tables e below _ T0 (mkF m 6 #[.val (.ref a1), .val (.ref ee), .val (.ref de), .val (.int 0)] [])
  refine g_aload_n B W0 (d_jdk_38_method_24_6) rfl rfl ?_
  obtain ⟨T101, h101, v101, W101, Q101, st101⟩ := x_private B W0 (b := a1) [] (c_grow0F l Z a0 hw a1 mc de dc h0 E1 F1 F2 F3 (by omega) Sde Ade lde) E1 (d_jdk_38_method_24_7) (tw hw 100 rfl) (tw hw 101 rfl) (tw hw 103 rfl) (tw hw 102 rfl) (tw hw 2 rfl) (tw hw 104 rfl) (by decide) (lenOf pd____Ljava_lang_Object_ rfl) #[.val (.ref a1), .val (.ref ee), .val (.ref de), .val (.int 0)] [] rfl 0 rfl (by decide) (by decide) (by decide) (by decide)
  obtain ⟨ea101, kB101, vs101, rfl, gb101, K101, E101, Fs101, Fe101, Fm101, A101, X101, vl101, O101, ev101⟩ := Q101
  have s102 := K101.1
  refine st101 _ ?_
  have l101 := nlt A101.lt
  refine g_astore_n B W101 (d_jdk_38_method_24_10) rfl (l' := #[.val (.ref a1), .val (.ref ee), .val (.ref ea101), .val (.int 0)]) rfl ?_
  refine g_aload_n B W101 (d_jdk_38_method_24_11) rfl rfl ?_
  refine g_iload_n B W101 (d_jdk_38_method_24_12) rfl ?_
  refine g_aload_n B W101 (d_jdk_38_method_24_13) rfl rfl ?_
  have f104 := (Ee.keep K101)
  obtain ⟨T103, h103, W103, K103, A103, st103⟩ := x_aastore B W101 (j := 0) (v := (.ref ee)) (d_jdk_38_method_24_14) A101 rfl (by decide) (by rw [vl101]; decide) rfl (fun cl Ac q => Sto.ofV Ac q O101 (Ins.of_exa f104 (tw hw 162 rfl))) (by omega) #[.val (.ref a1), .val (.ref ee), .val (.ref ea101), .val (.int 0)] []
  refine st103 _ ?_
  have s105 := K103.1
  refine g_aload_n B W103 (d_jdk_38_method_24_15) rfl rfl ?_
  refine g_iload_n B W103 (d_jdk_38_method_24_16) rfl ?_
  refine g_iconst B W103 (d_jdk_38_method_24_17) (v := 1) (by decide) ?_
  refine g_iadd B W103 (d_jdk_38_method_24_18)  ?_
  rw [show (0 + 1 : Int32) = 1 by decide]
  have f106 := (Fs101.keep K103 (ninS (nne (by have q := nlt Fs101.lt; omega)) nin0))
  have f107 := (E101.keep K103)
  obtain ⟨T108, h108, W108, K108, R108, F108, E108, st108⟩ := x_put B W103 (d_jdk_38_method_24_19) ((tw hw 45 rfl)) Via.refl f106 f107 (Or.inl (tw hw 46 rfl)) (tw hw 1 rfl) (ty := .int) (v := (.int 1)) (v' := (.int 1)) (by decide) rfl rfl (by omega) #[.val (.ref a1), .val (.ref ee), .val (.ref ea101), .val (.int 0)] []
  refine st108 _ ?_
  have f109 := (Fe101.keep K103 (ninS (nne (by have q := nlt Fe101.lt; omega)) nin0))
  have f110 := f109.other R108 (Or.inr (slot_ne (Or.inl (tw hw 25 rfl)) (Or.inl (tw hw 46 rfl)) (by decide) (t := (.array (.object "java/lang/Object"))) (t' := .int) (by decide) (by decide)))
  have f111 := (Fm101.keep K103 (ninS (nne (by have q := nlt Fm101.lt; omega)) nin0))
  have f112 := f111.other R108 (Or.inr (slot_ne (Or.inl (tw hw 22 rfl)) (Or.inl (tw hw 46 rfl)) (by decide) (t := .int) (t' := .int) (by decide) (by decide)))
  have s113 := K108.1
  have f114 := (A103.keep K108 (ninS (nne (by have q := nlt A103.lt; omega)) nin0))
  have f115 := ((X101.keep K103).keep K108)
  exact r_v B W108 (d_jdk_38_method_24_22) (by decide) (by decide) ⟨_, _, vs101, rfl, by omega, ((((Keep.refl h0 [a1]).trans K101 (allS (Or.inl (by simp)) all0)).trans K103 (allS (Or.inr (by omega)) all0)).trans K108 (allS (Or.inl (by simp)) all0)), E108, F108, f110, f112, f114, f115, vl101, O101, ev101⟩
theorem ef_add3BI (m : MethodId) (a1 : Addr) (mc : Int32) (ee : Addr) (ea : Addr) (kA : ClassId) (vs : List Value) (n : Int32) (n2 : Int32) (z : Int32) : entryFrame m #[(.ref a1), (.ref ee), (.ref ea), (.int n)] 4 = mkF m 0 #[.val (.ref a1), .val (.ref ee), .val (.ref ea), .val (.int n)] [] := by first | (simp [entryFrame, mkF, argsToLocals, Value.category]; done) | rfl
def Q_add3BI (Z : State) (a1 : Addr) (mc : Int32) (ee : Addr) (ea : Addr) (kA : ClassId) (vs : List Value) (n : Int32) (n2 : Int32) (z : Int32) (h0 : Heap) (v : Option Value) (h : Heap) : Prop := v = none ∧ Keep h0 h [a1, ea] ∧ Exa Z h a1 "java/util/ArrayList" ∧ Fld Z h a1 "java/util/ArrayList" "size" "I" (.int n2) ∧ Fld Z h a1 "java/util/ArrayList" "elementData" "[Ljava/lang/Object;" (.ref ea) ∧ Fld Z h a1 "java/util/AbstractList" "modCount" "I" (.int mc) ∧ Arv Z h ea kA (.object "java/lang/Object") z (vs.set n.toNatClampNeg (.ref ee)) .null ∧ Exa Z h ea "[Ljava/lang/Object;"
set_option maxRecDepth 65536 in
set_option maxHeartbeats 40000000 in
theorem c_add3BI (l : Launch) (Z : State) (a0 : Array Value) (hw : ∀ d ∈ tables_1, d.before a0 Z = true) (a1 : Addr) (mc : Int32) (ee : Addr) (ea : Addr) (kA : ClassId) (vs : List Value) (n : Int32) (n2 : Int32) (z : Int32) (h0 : Heap) (E1 : Exa Z h0 a1 "java/util/ArrayList") (F1 : Fld Z h0 a1 "java/util/ArrayList" "size" "I" (.int n)) (F2 : Fld Z h0 a1 "java/util/ArrayList" "elementData" "[Ljava/lang/Object;" (.ref ea)) (F3 : Fld Z h0 a1 "java/util/AbstractList" "modCount" "I" (.int mc)) (g1 : Z.heap.size ≤ a1) (Ee : Exa Z h0 ee "java/lang/Integer") (A1 : Arv Z h0 ea kA (.object "java/lang/Object") z vs .null) (vl0 : vs.length = z.toNatClampNeg) (O1 : Ovr Z kA "java/lang/Object") (X1 : Exa Z h0 ea "[Ljava/lang/Object;") (g2 : Z.heap.size ≤ ea) (hne : ¬ @Eq Nat ea a1) (hn : ¬ n < 0 ∧ n < z) (hn2 : n + 1 = n2) :
    Con l Z (⟨"java/util/ArrayList", "add", "(Ljava/lang/Object;[Ljava/lang/Object;I)V"⟩ : MethodName) jdk_38_method_24_code 4 (Option.none : Option FieldType) [] ({ frames := 0, cells := 0, slots := 0, locals := 0 } : Room) #[(.ref a1), (.ref ee), (.ref ea), (.int n)] h0 (Q_add3BI Z a1 mc ee ea kA vs n n2 z h0) := by
  refine Con.of (plainFor_of_name pn_java_util_ArrayList) ?_
  intro p e s m below meth c T0 B W0
  refine Go.cast (ef_add3BI m a1 mc ee ea kA vs n n2 z ) ?_
  have l_a1 := nlt E1.lt
  have l_ea := nlt A1.lt
  refine g_iload_n B W0 (d_jdk_38_method_24_0) rfl ?_
  refine g_aload_n B W0 (d_jdk_38_method_24_1) rfl rfl ?_
  refine g_aalen B W0 (d_jdk_38_method_24_2) A1 ?_
  refine g_icmp_y B W0 (d_jdk_38_method_24_3) (XT.ii_ne_t (fun q => by rw [q] at hn; exact absurd hn.2 Int32.lt_irrefl)) (pc' := 11) (by decide) ?_
  show Go p.tables e below _ T0 (mkF m 11 #[.val (.ref a1), .val (.ref ee), .val (.ref ea), .val (.int n)] [])
  refine g_aload_n B W0 (d_jdk_38_method_24_11) rfl rfl ?_
  refine g_iload_n B W0 (d_jdk_38_method_24_12) rfl ?_
  refine g_aload_n B W0 (d_jdk_38_method_24_13) rfl rfl ?_
  obtain ⟨T101, h101, W101, K101, A101, st101⟩ := x_aastore B W0 (j := n) (v := (.ref ee)) (d_jdk_38_method_24_14) A1 rfl hn (own_hi hn vl0) rfl (fun cl Ac q => Sto.ofV Ac q O1 (Ins.of_exa Ee (tw hw 162 rfl))) (by omega) #[.val (.ref a1), .val (.ref ee), .val (.ref ea), .val (.int n)] []
  refine st101 _ ?_
  have s102 := K101.1
  refine g_aload_n B W101 (d_jdk_38_method_24_15) rfl rfl ?_
  refine g_iload_n B W101 (d_jdk_38_method_24_16) rfl ?_
  refine g_iconst B W101 (d_jdk_38_method_24_17) (v := 1) (by decide) ?_
  refine g_iadd B W101 (d_jdk_38_method_24_18)  ?_
  rw [hn2]
  have f103 := (F1.keep K101 (ninS (nne (by have q := nlt F1.lt; omega)) nin0))
  have f104 := (E1.keep K101)
  obtain ⟨T105, h105, W105, K105, R105, F105, E105, st105⟩ := x_put B W101 (d_jdk_38_method_24_19) ((tw hw 45 rfl)) Via.refl f103 f104 (Or.inl (tw hw 46 rfl)) (tw hw 1 rfl) (ty := .int) (v := (.int n2)) (v' := (.int n2)) (by decide) rfl rfl (by omega) #[.val (.ref a1), .val (.ref ee), .val (.ref ea), .val (.int n)] []
  refine st105 _ ?_
  have f106 := (F2.keep K101 (ninS (nne (by have q := nlt F2.lt; omega)) nin0))
  have f107 := f106.other R105 (Or.inr (slot_ne (Or.inl (tw hw 25 rfl)) (Or.inl (tw hw 46 rfl)) (by decide) (t := (.array (.object "java/lang/Object"))) (t' := .int) (by decide) (by decide)))
  have f108 := (F3.keep K101 (ninS (nne (by have q := nlt F3.lt; omega)) nin0))
  have f109 := f108.other R105 (Or.inr (slot_ne (Or.inl (tw hw 22 rfl)) (Or.inl (tw hw 46 rfl)) (by decide) (t := .int) (t' := .int) (by decide) (by decide)))
  have s110 := K105.1
  have f111 := (A101.keep K105 (ninS (nne (by have q := nlt A101.lt; omega)) nin0))
  have f112 := ((X1.keep K101).keep K105)
  exact r_v B W105 (d_jdk_38_method_24_22) (by decide) (by decide) ⟨rfl, (((Keep.refl h0 [a1, ea]).trans K101 (allS (Or.inl (by simp)) all0)).trans K105 (allS (Or.inl (by simp)) all0)), E105, F105, f107, f109, f111, f112⟩
theorem ef_add3G10 (m : MethodId) (a1 : Addr) (mc : Int32) (ee : Addr) (ea : Addr) (kA : ClassId) (vs : List Value) (mo : Addr) : entryFrame m #[(.ref a1), (.ref ee), (.ref ea), (.int 10)] 4 = mkF m 0 #[.val (.ref a1), .val (.ref ee), .val (.ref ea), .val (.int 10)] [] := by first | (simp [entryFrame, mkF, argsToLocals, Value.category]; done) | rfl
def Q_add3G10 (Z : State) (a1 : Addr) (mc : Int32) (ee : Addr) (ea : Addr) (kA : ClassId) (vs : List Value) (mo : Addr) (h0 : Heap) (v : Option Value) (h : Heap) : Prop := ∃ (ea2 : Addr) (kB : ClassId) (vs2 : List Value), v = none ∧ h0.size ≤ ea2 ∧ Keep h0 h [a1] ∧ Exa Z h a1 "java/util/ArrayList" ∧ Fld Z h a1 "java/util/ArrayList" "size" "I" (.int 11) ∧ Fld Z h a1 "java/util/ArrayList" "elementData" "[Ljava/lang/Object;" (.ref ea2) ∧ Fld Z h a1 "java/util/AbstractList" "modCount" "I" (.int mc) ∧ Arv Z h ea2 kB (.object "java/lang/Object") 15 (vs2.set (Int32.toNatClampNeg 10) (.ref ee)) .null ∧ Exa Z h ea2 "[Ljava/lang/Object;" ∧ vs2.length = Int32.toNatClampNeg 15 ∧ Ovr Z kB "java/lang/Object" ∧ ∀ i : Nat, i < Int32.toNatClampNeg 10 → vs2.getD i .null = vs.getD i .null
set_option maxRecDepth 65536 in
set_option maxHeartbeats 40000000 in
theorem c_add3G10 (l : Launch) (Z : State) (a0 : Array Value) (hw : ∀ d ∈ tables_1, d.before a0 Z = true) (a1 : Addr) (mc : Int32) (ee : Addr) (ea : Addr) (kA : ClassId) (vs : List Value) (mo : Addr) (h0 : Heap) (E1 : Exa Z h0 a1 "java/util/ArrayList") (F1 : Fld Z h0 a1 "java/util/ArrayList" "size" "I" (.int 10)) (F2 : Fld Z h0 a1 "java/util/ArrayList" "elementData" "[Ljava/lang/Object;" (.ref ea)) (F3 : Fld Z h0 a1 "java/util/AbstractList" "modCount" "I" (.int mc)) (g1 : Z.heap.size ≤ a1) (Ee : Exa Z h0 ee "java/lang/Integer") (A1 : Arv Z h0 ea kA (.object "java/lang/Object") 10 vs .null) (hbx : ∀ i : Nat, i < Int32.toNatClampNeg 10 → ∃ y : Addr, vs.getD i .null = .ref y ∧ Exa Z Z.heap y "java/lang/Integer") (X1 : Exa Z h0 ea "[Ljava/lang/Object;") (hne : ¬ @Eq Nat ea a1) (Mo : Mi Z "[Ljava/lang/Object;" mo) :
    Con l Z (⟨"java/util/ArrayList", "add", "(Ljava/lang/Object;[Ljava/lang/Object;I)V"⟩ : MethodName) jdk_38_method_24_code 4 (Option.none : Option FieldType) [] ({ frames := 5, cells := 1, slots := 15, locals := 96 } : Room) #[(.ref a1), (.ref ee), (.ref ea), (.int 10)] h0 (Q_add3G10 Z a1 mc ee ea kA vs mo h0) := by
  refine Con.of (plainFor_of_name pn_java_util_ArrayList) ?_
  intro p e s m below meth c T0 B W0
  refine Go.cast (ef_add3G10 m a1 mc ee ea kA vs mo ) ?_
  have l_a1 := nlt E1.lt
  have l_ea := nlt A1.lt
  refine g_iload_n B W0 (d_jdk_38_method_24_0) rfl ?_
  refine g_aload_n B W0 (d_jdk_38_method_24_1) rfl rfl ?_
  refine g_aalen B W0 (d_jdk_38_method_24_2) A1 ?_
  refine g_icmp_n B W0 (d_jdk_38_method_24_3) (XT.ii_ne_f (by decide)) ?_
  show Go p.tables e below _ T0 (mkF m 6 #[.val (.ref a1), .val (.ref ee), .val (.ref ea), .val (.int 10)] [])
  refine g_aload_n B W0 (d_jdk_38_method_24_6) rfl rfl ?_
  obtain ⟨T101, h101, v101, W101, Q101, st101⟩ := x_private B W0 (b := a1) [] (c_grow0_10 l Z a0 hw a1 mc ea kA vs mo h0 E1 F1 F2 F3 (by omega) A1 hbx X1 hne Mo) E1 (d_jdk_38_method_24_7) (tw hw 100 rfl) (tw hw 101 rfl) (tw hw 103 rfl) (tw hw 102 rfl) (tw hw 2 rfl) (tw hw 104 rfl) (by decide) (lenOf pd____Ljava_lang_Object_ rfl) #[.val (.ref a1), .val (.ref ee), .val (.ref ea), .val (.int 10)] [] rfl 0 rfl (by decide) (by decide) (by decide) (by decide)
  obtain ⟨ea101, kB101, vs101, rfl, gb101, K101, E101, Fs101, Fe101, Fm101, A101, X101, vl101, O101, ag101⟩ := Q101
  have s102 := K101.1
  refine st101 _ ?_
  have l101 := nlt A101.lt
  refine g_astore_n B W101 (d_jdk_38_method_24_10) rfl (l' := #[.val (.ref a1), .val (.ref ee), .val (.ref ea101), .val (.int 10)]) rfl ?_
  refine g_aload_n B W101 (d_jdk_38_method_24_11) rfl rfl ?_
  refine g_iload_n B W101 (d_jdk_38_method_24_12) rfl ?_
  refine g_aload_n B W101 (d_jdk_38_method_24_13) rfl rfl ?_
  have f104 := (Ee.keep K101)
  obtain ⟨T103, h103, W103, K103, A103, st103⟩ := x_aastore B W101 (j := 10) (v := (.ref ee)) (d_jdk_38_method_24_14) A101 rfl (by decide) (by rw [vl101]; decide) rfl (fun cl Ac q => Sto.ofV Ac q O101 (Ins.of_exa f104 (tw hw 162 rfl))) (by omega) #[.val (.ref a1), .val (.ref ee), .val (.ref ea101), .val (.int 10)] []
  refine st103 _ ?_
  have s105 := K103.1
  refine g_aload_n B W103 (d_jdk_38_method_24_15) rfl rfl ?_
  refine g_iload_n B W103 (d_jdk_38_method_24_16) rfl ?_
  refine g_iconst B W103 (d_jdk_38_method_24_17) (v := 1) (by decide) ?_
  refine g_iadd B W103 (d_jdk_38_method_24_18)  ?_
  rw [show (10 + 1 : Int32) = 11 by decide]
  have f106 := (Fs101.keep K103 (ninS (nne (by have q := nlt Fs101.lt; omega)) nin0))
  have f107 := (E101.keep K103)
  obtain ⟨T108, h108, W108, K108, R108, F108, E108, st108⟩ := x_put B W103 (d_jdk_38_method_24_19) ((tw hw 45 rfl)) Via.refl f106 f107 (Or.inl (tw hw 46 rfl)) (tw hw 1 rfl) (ty := .int) (v := (.int 11)) (v' := (.int 11)) (by decide) rfl rfl (by omega) #[.val (.ref a1), .val (.ref ee), .val (.ref ea101), .val (.int 10)] []
  refine st108 _ ?_
  have f109 := (Fe101.keep K103 (ninS (nne (by have q := nlt Fe101.lt; omega)) nin0))
  have f110 := f109.other R108 (Or.inr (slot_ne (Or.inl (tw hw 25 rfl)) (Or.inl (tw hw 46 rfl)) (by decide) (t := (.array (.object "java/lang/Object"))) (t' := .int) (by decide) (by decide)))
  have f111 := (Fm101.keep K103 (ninS (nne (by have q := nlt Fm101.lt; omega)) nin0))
  have f112 := f111.other R108 (Or.inr (slot_ne (Or.inl (tw hw 22 rfl)) (Or.inl (tw hw 46 rfl)) (by decide) (t := .int) (t' := .int) (by decide) (by decide)))
  have s113 := K108.1
  have f114 := (A103.keep K108 (ninS (nne (by have q := nlt A103.lt; omega)) nin0))
  have f115 := ((X101.keep K103).keep K108)
  exact r_v B W108 (d_jdk_38_method_24_22) (by decide) (by decide) ⟨_, _, vs101, rfl, by omega, ((((Keep.refl h0 [a1]).trans K101 (allS (Or.inl (by simp)) all0)).trans K103 (allS (Or.inr (by omega)) all0)).trans K108 (allS (Or.inl (by simp)) all0)), E108, F108, f110, f112, f114, f115, vl101, O101, ag101⟩
theorem ef_add3G15 (m : MethodId) (a1 : Addr) (mc : Int32) (ee : Addr) (ea : Addr) (kA : ClassId) (vs : List Value) (mo : Addr) : entryFrame m #[(.ref a1), (.ref ee), (.ref ea), (.int 15)] 4 = mkF m 0 #[.val (.ref a1), .val (.ref ee), .val (.ref ea), .val (.int 15)] [] := by first | (simp [entryFrame, mkF, argsToLocals, Value.category]; done) | rfl
def Q_add3G15 (Z : State) (a1 : Addr) (mc : Int32) (ee : Addr) (ea : Addr) (kA : ClassId) (vs : List Value) (mo : Addr) (h0 : Heap) (v : Option Value) (h : Heap) : Prop := ∃ (ea2 : Addr) (kB : ClassId) (vs2 : List Value), v = none ∧ h0.size ≤ ea2 ∧ Keep h0 h [a1] ∧ Exa Z h a1 "java/util/ArrayList" ∧ Fld Z h a1 "java/util/ArrayList" "size" "I" (.int 16) ∧ Fld Z h a1 "java/util/ArrayList" "elementData" "[Ljava/lang/Object;" (.ref ea2) ∧ Fld Z h a1 "java/util/AbstractList" "modCount" "I" (.int mc) ∧ Arv Z h ea2 kB (.object "java/lang/Object") 22 (vs2.set (Int32.toNatClampNeg 15) (.ref ee)) .null ∧ Exa Z h ea2 "[Ljava/lang/Object;" ∧ vs2.length = Int32.toNatClampNeg 22 ∧ Ovr Z kB "java/lang/Object" ∧ ∀ i : Nat, i < Int32.toNatClampNeg 15 → vs2.getD i .null = vs.getD i .null
set_option maxRecDepth 65536 in
set_option maxHeartbeats 40000000 in
theorem c_add3G15 (l : Launch) (Z : State) (a0 : Array Value) (hw : ∀ d ∈ tables_1, d.before a0 Z = true) (a1 : Addr) (mc : Int32) (ee : Addr) (ea : Addr) (kA : ClassId) (vs : List Value) (mo : Addr) (h0 : Heap) (E1 : Exa Z h0 a1 "java/util/ArrayList") (F1 : Fld Z h0 a1 "java/util/ArrayList" "size" "I" (.int 15)) (F2 : Fld Z h0 a1 "java/util/ArrayList" "elementData" "[Ljava/lang/Object;" (.ref ea)) (F3 : Fld Z h0 a1 "java/util/AbstractList" "modCount" "I" (.int mc)) (g1 : Z.heap.size ≤ a1) (Ee : Exa Z h0 ee "java/lang/Integer") (A1 : Arv Z h0 ea kA (.object "java/lang/Object") 15 vs .null) (hbx : ∀ i : Nat, i < Int32.toNatClampNeg 15 → ∃ y : Addr, vs.getD i .null = .ref y ∧ Exa Z Z.heap y "java/lang/Integer") (X1 : Exa Z h0 ea "[Ljava/lang/Object;") (hne : ¬ @Eq Nat ea a1) (Mo : Mi Z "[Ljava/lang/Object;" mo) :
    Con l Z (⟨"java/util/ArrayList", "add", "(Ljava/lang/Object;[Ljava/lang/Object;I)V"⟩ : MethodName) jdk_38_method_24_code 4 (Option.none : Option FieldType) [] ({ frames := 5, cells := 1, slots := 22, locals := 96 } : Room) #[(.ref a1), (.ref ee), (.ref ea), (.int 15)] h0 (Q_add3G15 Z a1 mc ee ea kA vs mo h0) := by
  refine Con.of (plainFor_of_name pn_java_util_ArrayList) ?_
  intro p e s m below meth c T0 B W0
  refine Go.cast (ef_add3G15 m a1 mc ee ea kA vs mo ) ?_
  have l_a1 := nlt E1.lt
  have l_ea := nlt A1.lt
  refine g_iload_n B W0 (d_jdk_38_method_24_0) rfl ?_
  refine g_aload_n B W0 (d_jdk_38_method_24_1) rfl rfl ?_
  refine g_aalen B W0 (d_jdk_38_method_24_2) A1 ?_
  refine g_icmp_n B W0 (d_jdk_38_method_24_3) (XT.ii_ne_f (by decide)) ?_
  show Go p.tables e below _ T0 (mkF m 6 #[.val (.ref a1), .val (.ref ee), .val (.ref ea), .val (.int 15)] [])
  refine g_aload_n B W0 (d_jdk_38_method_24_6) rfl rfl ?_
  obtain ⟨T101, h101, v101, W101, Q101, st101⟩ := x_private B W0 (b := a1) [] (c_grow0_15 l Z a0 hw a1 mc ea kA vs mo h0 E1 F1 F2 F3 (by omega) A1 hbx X1 hne Mo) E1 (d_jdk_38_method_24_7) (tw hw 100 rfl) (tw hw 101 rfl) (tw hw 103 rfl) (tw hw 102 rfl) (tw hw 2 rfl) (tw hw 104 rfl) (by decide) (lenOf pd____Ljava_lang_Object_ rfl) #[.val (.ref a1), .val (.ref ee), .val (.ref ea), .val (.int 15)] [] rfl 0 rfl (by decide) (by decide) (by decide) (by decide)
  obtain ⟨ea101, kB101, vs101, rfl, gb101, K101, E101, Fs101, Fe101, Fm101, A101, X101, vl101, O101, ag101⟩ := Q101
  have s102 := K101.1
  refine st101 _ ?_
  have l101 := nlt A101.lt
  refine g_astore_n B W101 (d_jdk_38_method_24_10) rfl (l' := #[.val (.ref a1), .val (.ref ee), .val (.ref ea101), .val (.int 15)]) rfl ?_
  refine g_aload_n B W101 (d_jdk_38_method_24_11) rfl rfl ?_
  refine g_iload_n B W101 (d_jdk_38_method_24_12) rfl ?_
  refine g_aload_n B W101 (d_jdk_38_method_24_13) rfl rfl ?_
  have f104 := (Ee.keep K101)
  obtain ⟨T103, h103, W103, K103, A103, st103⟩ := x_aastore B W101 (j := 15) (v := (.ref ee)) (d_jdk_38_method_24_14) A101 rfl (by decide) (by rw [vl101]; decide) rfl (fun cl Ac q => Sto.ofV Ac q O101 (Ins.of_exa f104 (tw hw 162 rfl))) (by omega) #[.val (.ref a1), .val (.ref ee), .val (.ref ea101), .val (.int 15)] []
  refine st103 _ ?_
  have s105 := K103.1
  refine g_aload_n B W103 (d_jdk_38_method_24_15) rfl rfl ?_
  refine g_iload_n B W103 (d_jdk_38_method_24_16) rfl ?_
  refine g_iconst B W103 (d_jdk_38_method_24_17) (v := 1) (by decide) ?_
  refine g_iadd B W103 (d_jdk_38_method_24_18)  ?_
  rw [show (15 + 1 : Int32) = 16 by decide]
  have f106 := (Fs101.keep K103 (ninS (nne (by have q := nlt Fs101.lt; omega)) nin0))
  have f107 := (E101.keep K103)
  obtain ⟨T108, h108, W108, K108, R108, F108, E108, st108⟩ := x_put B W103 (d_jdk_38_method_24_19) ((tw hw 45 rfl)) Via.refl f106 f107 (Or.inl (tw hw 46 rfl)) (tw hw 1 rfl) (ty := .int) (v := (.int 16)) (v' := (.int 16)) (by decide) rfl rfl (by omega) #[.val (.ref a1), .val (.ref ee), .val (.ref ea101), .val (.int 15)] []
  refine st108 _ ?_
  have f109 := (Fe101.keep K103 (ninS (nne (by have q := nlt Fe101.lt; omega)) nin0))
  have f110 := f109.other R108 (Or.inr (slot_ne (Or.inl (tw hw 25 rfl)) (Or.inl (tw hw 46 rfl)) (by decide) (t := (.array (.object "java/lang/Object"))) (t' := .int) (by decide) (by decide)))
  have f111 := (Fm101.keep K103 (ninS (nne (by have q := nlt Fm101.lt; omega)) nin0))
  have f112 := f111.other R108 (Or.inr (slot_ne (Or.inl (tw hw 22 rfl)) (Or.inl (tw hw 46 rfl)) (by decide) (t := .int) (t' := .int) (by decide) (by decide)))
  have s113 := K108.1
  have f114 := (A103.keep K108 (ninS (nne (by have q := nlt A103.lt; omega)) nin0))
  have f115 := ((X101.keep K103).keep K108)
  exact r_v B W108 (d_jdk_38_method_24_22) (by decide) (by decide) ⟨_, _, vs101, rfl, by omega, ((((Keep.refl h0 [a1]).trans K101 (allS (Or.inl (by simp)) all0)).trans K103 (allS (Or.inr (by omega)) all0)).trans K108 (allS (Or.inl (by simp)) all0)), E108, F108, f110, f112, f114, f115, vl101, O101, ag101⟩
theorem ef_add3G22 (m : MethodId) (a1 : Addr) (mc : Int32) (ee : Addr) (ea : Addr) (kA : ClassId) (vs : List Value) (mo : Addr) : entryFrame m #[(.ref a1), (.ref ee), (.ref ea), (.int 22)] 4 = mkF m 0 #[.val (.ref a1), .val (.ref ee), .val (.ref ea), .val (.int 22)] [] := by first | (simp [entryFrame, mkF, argsToLocals, Value.category]; done) | rfl
def Q_add3G22 (Z : State) (a1 : Addr) (mc : Int32) (ee : Addr) (ea : Addr) (kA : ClassId) (vs : List Value) (mo : Addr) (h0 : Heap) (v : Option Value) (h : Heap) : Prop := ∃ (ea2 : Addr) (kB : ClassId) (vs2 : List Value), v = none ∧ h0.size ≤ ea2 ∧ Keep h0 h [a1] ∧ Exa Z h a1 "java/util/ArrayList" ∧ Fld Z h a1 "java/util/ArrayList" "size" "I" (.int 23) ∧ Fld Z h a1 "java/util/ArrayList" "elementData" "[Ljava/lang/Object;" (.ref ea2) ∧ Fld Z h a1 "java/util/AbstractList" "modCount" "I" (.int mc) ∧ Arv Z h ea2 kB (.object "java/lang/Object") 33 (vs2.set (Int32.toNatClampNeg 22) (.ref ee)) .null ∧ Exa Z h ea2 "[Ljava/lang/Object;" ∧ vs2.length = Int32.toNatClampNeg 33 ∧ Ovr Z kB "java/lang/Object" ∧ ∀ i : Nat, i < Int32.toNatClampNeg 22 → vs2.getD i .null = vs.getD i .null
set_option maxRecDepth 65536 in
set_option maxHeartbeats 40000000 in
theorem c_add3G22 (l : Launch) (Z : State) (a0 : Array Value) (hw : ∀ d ∈ tables_1, d.before a0 Z = true) (a1 : Addr) (mc : Int32) (ee : Addr) (ea : Addr) (kA : ClassId) (vs : List Value) (mo : Addr) (h0 : Heap) (E1 : Exa Z h0 a1 "java/util/ArrayList") (F1 : Fld Z h0 a1 "java/util/ArrayList" "size" "I" (.int 22)) (F2 : Fld Z h0 a1 "java/util/ArrayList" "elementData" "[Ljava/lang/Object;" (.ref ea)) (F3 : Fld Z h0 a1 "java/util/AbstractList" "modCount" "I" (.int mc)) (g1 : Z.heap.size ≤ a1) (Ee : Exa Z h0 ee "java/lang/Integer") (A1 : Arv Z h0 ea kA (.object "java/lang/Object") 22 vs .null) (hbx : ∀ i : Nat, i < Int32.toNatClampNeg 22 → ∃ y : Addr, vs.getD i .null = .ref y ∧ Exa Z Z.heap y "java/lang/Integer") (X1 : Exa Z h0 ea "[Ljava/lang/Object;") (hne : ¬ @Eq Nat ea a1) (Mo : Mi Z "[Ljava/lang/Object;" mo) :
    Con l Z (⟨"java/util/ArrayList", "add", "(Ljava/lang/Object;[Ljava/lang/Object;I)V"⟩ : MethodName) jdk_38_method_24_code 4 (Option.none : Option FieldType) [] ({ frames := 5, cells := 1, slots := 33, locals := 96 } : Room) #[(.ref a1), (.ref ee), (.ref ea), (.int 22)] h0 (Q_add3G22 Z a1 mc ee ea kA vs mo h0) := by
  refine Con.of (plainFor_of_name pn_java_util_ArrayList) ?_
  intro p e s m below meth c T0 B W0
  refine Go.cast (ef_add3G22 m a1 mc ee ea kA vs mo ) ?_
  have l_a1 := nlt E1.lt
  have l_ea := nlt A1.lt
  refine g_iload_n B W0 (d_jdk_38_method_24_0) rfl ?_
  refine g_aload_n B W0 (d_jdk_38_method_24_1) rfl rfl ?_
  refine g_aalen B W0 (d_jdk_38_method_24_2) A1 ?_
  refine g_icmp_n B W0 (d_jdk_38_method_24_3) (XT.ii_ne_f (by decide)) ?_
  show Go p.tables e below _ T0 (mkF m 6 #[.val (.ref a1), .val (.ref ee), .val (.ref ea), .val (.int 22)] [])
  refine g_aload_n B W0 (d_jdk_38_method_24_6) rfl rfl ?_
  obtain ⟨T101, h101, v101, W101, Q101, st101⟩ := x_private B W0 (b := a1) [] (c_grow0_22 l Z a0 hw a1 mc ea kA vs mo h0 E1 F1 F2 F3 (by omega) A1 hbx X1 hne Mo) E1 (d_jdk_38_method_24_7) (tw hw 100 rfl) (tw hw 101 rfl) (tw hw 103 rfl) (tw hw 102 rfl) (tw hw 2 rfl) (tw hw 104 rfl) (by decide) (lenOf pd____Ljava_lang_Object_ rfl) #[.val (.ref a1), .val (.ref ee), .val (.ref ea), .val (.int 22)] [] rfl 0 rfl (by decide) (by decide) (by decide) (by decide)
  obtain ⟨ea101, kB101, vs101, rfl, gb101, K101, E101, Fs101, Fe101, Fm101, A101, X101, vl101, O101, ag101⟩ := Q101
  have s102 := K101.1
  refine st101 _ ?_
  have l101 := nlt A101.lt
  refine g_astore_n B W101 (d_jdk_38_method_24_10) rfl (l' := #[.val (.ref a1), .val (.ref ee), .val (.ref ea101), .val (.int 22)]) rfl ?_
  refine g_aload_n B W101 (d_jdk_38_method_24_11) rfl rfl ?_
  refine g_iload_n B W101 (d_jdk_38_method_24_12) rfl ?_
  refine g_aload_n B W101 (d_jdk_38_method_24_13) rfl rfl ?_
  have f104 := (Ee.keep K101)
  obtain ⟨T103, h103, W103, K103, A103, st103⟩ := x_aastore B W101 (j := 22) (v := (.ref ee)) (d_jdk_38_method_24_14) A101 rfl (by decide) (by rw [vl101]; decide) rfl (fun cl Ac q => Sto.ofV Ac q O101 (Ins.of_exa f104 (tw hw 162 rfl))) (by omega) #[.val (.ref a1), .val (.ref ee), .val (.ref ea101), .val (.int 22)] []
  refine st103 _ ?_
  have s105 := K103.1
  refine g_aload_n B W103 (d_jdk_38_method_24_15) rfl rfl ?_
  refine g_iload_n B W103 (d_jdk_38_method_24_16) rfl ?_
  refine g_iconst B W103 (d_jdk_38_method_24_17) (v := 1) (by decide) ?_
  refine g_iadd B W103 (d_jdk_38_method_24_18)  ?_
  rw [show (22 + 1 : Int32) = 23 by decide]
  have f106 := (Fs101.keep K103 (ninS (nne (by have q := nlt Fs101.lt; omega)) nin0))
  have f107 := (E101.keep K103)
  obtain ⟨T108, h108, W108, K108, R108, F108, E108, st108⟩ := x_put B W103 (d_jdk_38_method_24_19) ((tw hw 45 rfl)) Via.refl f106 f107 (Or.inl (tw hw 46 rfl)) (tw hw 1 rfl) (ty := .int) (v := (.int 23)) (v' := (.int 23)) (by decide) rfl rfl (by omega) #[.val (.ref a1), .val (.ref ee), .val (.ref ea101), .val (.int 22)] []
  refine st108 _ ?_
  have f109 := (Fe101.keep K103 (ninS (nne (by have q := nlt Fe101.lt; omega)) nin0))
  have f110 := f109.other R108 (Or.inr (slot_ne (Or.inl (tw hw 25 rfl)) (Or.inl (tw hw 46 rfl)) (by decide) (t := (.array (.object "java/lang/Object"))) (t' := .int) (by decide) (by decide)))
  have f111 := (Fm101.keep K103 (ninS (nne (by have q := nlt Fm101.lt; omega)) nin0))
  have f112 := f111.other R108 (Or.inr (slot_ne (Or.inl (tw hw 22 rfl)) (Or.inl (tw hw 46 rfl)) (by decide) (t := .int) (t' := .int) (by decide) (by decide)))
  have s113 := K108.1
  have f114 := (A103.keep K108 (ninS (nne (by have q := nlt A103.lt; omega)) nin0))
  have f115 := ((X101.keep K103).keep K108)
  exact r_v B W108 (d_jdk_38_method_24_22) (by decide) (by decide) ⟨_, _, vs101, rfl, by omega, ((((Keep.refl h0 [a1]).trans K101 (allS (Or.inl (by simp)) all0)).trans K103 (allS (Or.inr (by omega)) all0)).trans K108 (allS (Or.inl (by simp)) all0)), E108, F108, f110, f112, f114, f115, vl101, O101, ag101⟩
theorem ef_add3G33 (m : MethodId) (a1 : Addr) (mc : Int32) (ee : Addr) (ea : Addr) (kA : ClassId) (vs : List Value) (mo : Addr) : entryFrame m #[(.ref a1), (.ref ee), (.ref ea), (.int 33)] 4 = mkF m 0 #[.val (.ref a1), .val (.ref ee), .val (.ref ea), .val (.int 33)] [] := by first | (simp [entryFrame, mkF, argsToLocals, Value.category]; done) | rfl
def Q_add3G33 (Z : State) (a1 : Addr) (mc : Int32) (ee : Addr) (ea : Addr) (kA : ClassId) (vs : List Value) (mo : Addr) (h0 : Heap) (v : Option Value) (h : Heap) : Prop := ∃ (ea2 : Addr) (kB : ClassId) (vs2 : List Value), v = none ∧ h0.size ≤ ea2 ∧ Keep h0 h [a1] ∧ Exa Z h a1 "java/util/ArrayList" ∧ Fld Z h a1 "java/util/ArrayList" "size" "I" (.int 34) ∧ Fld Z h a1 "java/util/ArrayList" "elementData" "[Ljava/lang/Object;" (.ref ea2) ∧ Fld Z h a1 "java/util/AbstractList" "modCount" "I" (.int mc) ∧ Arv Z h ea2 kB (.object "java/lang/Object") 49 (vs2.set (Int32.toNatClampNeg 33) (.ref ee)) .null ∧ Exa Z h ea2 "[Ljava/lang/Object;" ∧ vs2.length = Int32.toNatClampNeg 49 ∧ Ovr Z kB "java/lang/Object" ∧ ∀ i : Nat, i < Int32.toNatClampNeg 33 → vs2.getD i .null = vs.getD i .null
set_option maxRecDepth 65536 in
set_option maxHeartbeats 40000000 in
theorem c_add3G33 (l : Launch) (Z : State) (a0 : Array Value) (hw : ∀ d ∈ tables_1, d.before a0 Z = true) (a1 : Addr) (mc : Int32) (ee : Addr) (ea : Addr) (kA : ClassId) (vs : List Value) (mo : Addr) (h0 : Heap) (E1 : Exa Z h0 a1 "java/util/ArrayList") (F1 : Fld Z h0 a1 "java/util/ArrayList" "size" "I" (.int 33)) (F2 : Fld Z h0 a1 "java/util/ArrayList" "elementData" "[Ljava/lang/Object;" (.ref ea)) (F3 : Fld Z h0 a1 "java/util/AbstractList" "modCount" "I" (.int mc)) (g1 : Z.heap.size ≤ a1) (Ee : Exa Z h0 ee "java/lang/Integer") (A1 : Arv Z h0 ea kA (.object "java/lang/Object") 33 vs .null) (hbx : ∀ i : Nat, i < Int32.toNatClampNeg 33 → ∃ y : Addr, vs.getD i .null = .ref y ∧ Exa Z Z.heap y "java/lang/Integer") (X1 : Exa Z h0 ea "[Ljava/lang/Object;") (hne : ¬ @Eq Nat ea a1) (Mo : Mi Z "[Ljava/lang/Object;" mo) :
    Con l Z (⟨"java/util/ArrayList", "add", "(Ljava/lang/Object;[Ljava/lang/Object;I)V"⟩ : MethodName) jdk_38_method_24_code 4 (Option.none : Option FieldType) [] ({ frames := 5, cells := 1, slots := 49, locals := 96 } : Room) #[(.ref a1), (.ref ee), (.ref ea), (.int 33)] h0 (Q_add3G33 Z a1 mc ee ea kA vs mo h0) := by
  refine Con.of (plainFor_of_name pn_java_util_ArrayList) ?_
  intro p e s m below meth c T0 B W0
  refine Go.cast (ef_add3G33 m a1 mc ee ea kA vs mo ) ?_
  have l_a1 := nlt E1.lt
  have l_ea := nlt A1.lt
  refine g_iload_n B W0 (d_jdk_38_method_24_0) rfl ?_
  refine g_aload_n B W0 (d_jdk_38_method_24_1) rfl rfl ?_
  refine g_aalen B W0 (d_jdk_38_method_24_2) A1 ?_
  refine g_icmp_n B W0 (d_jdk_38_method_24_3) (XT.ii_ne_f (by decide)) ?_
  show Go p.tables e below _ T0 (mkF m 6 #[.val (.ref a1), .val (.ref ee), .val (.ref ea), .val (.int 33)] [])
  refine g_aload_n B W0 (d_jdk_38_method_24_6) rfl rfl ?_
  obtain ⟨T101, h101, v101, W101, Q101, st101⟩ := x_private B W0 (b := a1) [] (c_grow0_33 l Z a0 hw a1 mc ea kA vs mo h0 E1 F1 F2 F3 (by omega) A1 hbx X1 hne Mo) E1 (d_jdk_38_method_24_7) (tw hw 100 rfl) (tw hw 101 rfl) (tw hw 103 rfl) (tw hw 102 rfl) (tw hw 2 rfl) (tw hw 104 rfl) (by decide) (lenOf pd____Ljava_lang_Object_ rfl) #[.val (.ref a1), .val (.ref ee), .val (.ref ea), .val (.int 33)] [] rfl 0 rfl (by decide) (by decide) (by decide) (by decide)
  obtain ⟨ea101, kB101, vs101, rfl, gb101, K101, E101, Fs101, Fe101, Fm101, A101, X101, vl101, O101, ag101⟩ := Q101
  have s102 := K101.1
  refine st101 _ ?_
  have l101 := nlt A101.lt
  refine g_astore_n B W101 (d_jdk_38_method_24_10) rfl (l' := #[.val (.ref a1), .val (.ref ee), .val (.ref ea101), .val (.int 33)]) rfl ?_
  refine g_aload_n B W101 (d_jdk_38_method_24_11) rfl rfl ?_
  refine g_iload_n B W101 (d_jdk_38_method_24_12) rfl ?_
  refine g_aload_n B W101 (d_jdk_38_method_24_13) rfl rfl ?_
  have f104 := (Ee.keep K101)
  obtain ⟨T103, h103, W103, K103, A103, st103⟩ := x_aastore B W101 (j := 33) (v := (.ref ee)) (d_jdk_38_method_24_14) A101 rfl (by decide) (by rw [vl101]; decide) rfl (fun cl Ac q => Sto.ofV Ac q O101 (Ins.of_exa f104 (tw hw 162 rfl))) (by omega) #[.val (.ref a1), .val (.ref ee), .val (.ref ea101), .val (.int 33)] []
  refine st103 _ ?_
  have s105 := K103.1
  refine g_aload_n B W103 (d_jdk_38_method_24_15) rfl rfl ?_
  refine g_iload_n B W103 (d_jdk_38_method_24_16) rfl ?_
  refine g_iconst B W103 (d_jdk_38_method_24_17) (v := 1) (by decide) ?_
  refine g_iadd B W103 (d_jdk_38_method_24_18)  ?_
  rw [show (33 + 1 : Int32) = 34 by decide]
  have f106 := (Fs101.keep K103 (ninS (nne (by have q := nlt Fs101.lt; omega)) nin0))
  have f107 := (E101.keep K103)
  obtain ⟨T108, h108, W108, K108, R108, F108, E108, st108⟩ := x_put B W103 (d_jdk_38_method_24_19) ((tw hw 45 rfl)) Via.refl f106 f107 (Or.inl (tw hw 46 rfl)) (tw hw 1 rfl) (ty := .int) (v := (.int 34)) (v' := (.int 34)) (by decide) rfl rfl (by omega) #[.val (.ref a1), .val (.ref ee), .val (.ref ea101), .val (.int 33)] []
  refine st108 _ ?_
  have f109 := (Fe101.keep K103 (ninS (nne (by have q := nlt Fe101.lt; omega)) nin0))
  have f110 := f109.other R108 (Or.inr (slot_ne (Or.inl (tw hw 25 rfl)) (Or.inl (tw hw 46 rfl)) (by decide) (t := (.array (.object "java/lang/Object"))) (t' := .int) (by decide) (by decide)))
  have f111 := (Fm101.keep K103 (ninS (nne (by have q := nlt Fm101.lt; omega)) nin0))
  have f112 := f111.other R108 (Or.inr (slot_ne (Or.inl (tw hw 22 rfl)) (Or.inl (tw hw 46 rfl)) (by decide) (t := .int) (t' := .int) (by decide) (by decide)))
  have s113 := K108.1
  have f114 := (A103.keep K108 (ninS (nne (by have q := nlt A103.lt; omega)) nin0))
  have f115 := ((X101.keep K103).keep K108)
  exact r_v B W108 (d_jdk_38_method_24_22) (by decide) (by decide) ⟨_, _, vs101, rfl, by omega, ((((Keep.refl h0 [a1]).trans K101 (allS (Or.inl (by simp)) all0)).trans K103 (allS (Or.inr (by omega)) all0)).trans K108 (allS (Or.inl (by simp)) all0)), E108, F108, f110, f112, f114, f115, vl101, O101, ag101⟩
theorem ef_add3G49 (m : MethodId) (a1 : Addr) (mc : Int32) (ee : Addr) (ea : Addr) (kA : ClassId) (vs : List Value) (mo : Addr) : entryFrame m #[(.ref a1), (.ref ee), (.ref ea), (.int 49)] 4 = mkF m 0 #[.val (.ref a1), .val (.ref ee), .val (.ref ea), .val (.int 49)] [] := by first | (simp [entryFrame, mkF, argsToLocals, Value.category]; done) | rfl
def Q_add3G49 (Z : State) (a1 : Addr) (mc : Int32) (ee : Addr) (ea : Addr) (kA : ClassId) (vs : List Value) (mo : Addr) (h0 : Heap) (v : Option Value) (h : Heap) : Prop := ∃ (ea2 : Addr) (kB : ClassId) (vs2 : List Value), v = none ∧ h0.size ≤ ea2 ∧ Keep h0 h [a1] ∧ Exa Z h a1 "java/util/ArrayList" ∧ Fld Z h a1 "java/util/ArrayList" "size" "I" (.int 50) ∧ Fld Z h a1 "java/util/ArrayList" "elementData" "[Ljava/lang/Object;" (.ref ea2) ∧ Fld Z h a1 "java/util/AbstractList" "modCount" "I" (.int mc) ∧ Arv Z h ea2 kB (.object "java/lang/Object") 73 (vs2.set (Int32.toNatClampNeg 49) (.ref ee)) .null ∧ Exa Z h ea2 "[Ljava/lang/Object;" ∧ vs2.length = Int32.toNatClampNeg 73 ∧ Ovr Z kB "java/lang/Object" ∧ ∀ i : Nat, i < Int32.toNatClampNeg 49 → vs2.getD i .null = vs.getD i .null
set_option maxRecDepth 65536 in
set_option maxHeartbeats 40000000 in
theorem c_add3G49 (l : Launch) (Z : State) (a0 : Array Value) (hw : ∀ d ∈ tables_1, d.before a0 Z = true) (a1 : Addr) (mc : Int32) (ee : Addr) (ea : Addr) (kA : ClassId) (vs : List Value) (mo : Addr) (h0 : Heap) (E1 : Exa Z h0 a1 "java/util/ArrayList") (F1 : Fld Z h0 a1 "java/util/ArrayList" "size" "I" (.int 49)) (F2 : Fld Z h0 a1 "java/util/ArrayList" "elementData" "[Ljava/lang/Object;" (.ref ea)) (F3 : Fld Z h0 a1 "java/util/AbstractList" "modCount" "I" (.int mc)) (g1 : Z.heap.size ≤ a1) (Ee : Exa Z h0 ee "java/lang/Integer") (A1 : Arv Z h0 ea kA (.object "java/lang/Object") 49 vs .null) (hbx : ∀ i : Nat, i < Int32.toNatClampNeg 49 → ∃ y : Addr, vs.getD i .null = .ref y ∧ Exa Z Z.heap y "java/lang/Integer") (X1 : Exa Z h0 ea "[Ljava/lang/Object;") (hne : ¬ @Eq Nat ea a1) (Mo : Mi Z "[Ljava/lang/Object;" mo) :
    Con l Z (⟨"java/util/ArrayList", "add", "(Ljava/lang/Object;[Ljava/lang/Object;I)V"⟩ : MethodName) jdk_38_method_24_code 4 (Option.none : Option FieldType) [] ({ frames := 5, cells := 1, slots := 73, locals := 96 } : Room) #[(.ref a1), (.ref ee), (.ref ea), (.int 49)] h0 (Q_add3G49 Z a1 mc ee ea kA vs mo h0) := by
  refine Con.of (plainFor_of_name pn_java_util_ArrayList) ?_
  intro p e s m below meth c T0 B W0
  refine Go.cast (ef_add3G49 m a1 mc ee ea kA vs mo ) ?_
  have l_a1 := nlt E1.lt
  have l_ea := nlt A1.lt
  refine g_iload_n B W0 (d_jdk_38_method_24_0) rfl ?_
  refine g_aload_n B W0 (d_jdk_38_method_24_1) rfl rfl ?_
  refine g_aalen B W0 (d_jdk_38_method_24_2) A1 ?_
  refine g_icmp_n B W0 (d_jdk_38_method_24_3) (XT.ii_ne_f (by decide)) ?_
  show Go p.tables e below _ T0 (mkF m 6 #[.val (.ref a1), .val (.ref ee), .val (.ref ea), .val (.int 49)] [])
  refine g_aload_n B W0 (d_jdk_38_method_24_6) rfl rfl ?_
  obtain ⟨T101, h101, v101, W101, Q101, st101⟩ := x_private B W0 (b := a1) [] (c_grow0_49 l Z a0 hw a1 mc ea kA vs mo h0 E1 F1 F2 F3 (by omega) A1 hbx X1 hne Mo) E1 (d_jdk_38_method_24_7) (tw hw 100 rfl) (tw hw 101 rfl) (tw hw 103 rfl) (tw hw 102 rfl) (tw hw 2 rfl) (tw hw 104 rfl) (by decide) (lenOf pd____Ljava_lang_Object_ rfl) #[.val (.ref a1), .val (.ref ee), .val (.ref ea), .val (.int 49)] [] rfl 0 rfl (by decide) (by decide) (by decide) (by decide)
  obtain ⟨ea101, kB101, vs101, rfl, gb101, K101, E101, Fs101, Fe101, Fm101, A101, X101, vl101, O101, ag101⟩ := Q101
  have s102 := K101.1
  refine st101 _ ?_
  have l101 := nlt A101.lt
  refine g_astore_n B W101 (d_jdk_38_method_24_10) rfl (l' := #[.val (.ref a1), .val (.ref ee), .val (.ref ea101), .val (.int 49)]) rfl ?_
  refine g_aload_n B W101 (d_jdk_38_method_24_11) rfl rfl ?_
  refine g_iload_n B W101 (d_jdk_38_method_24_12) rfl ?_
  refine g_aload_n B W101 (d_jdk_38_method_24_13) rfl rfl ?_
  have f104 := (Ee.keep K101)
  obtain ⟨T103, h103, W103, K103, A103, st103⟩ := x_aastore B W101 (j := 49) (v := (.ref ee)) (d_jdk_38_method_24_14) A101 rfl (by decide) (by rw [vl101]; decide) rfl (fun cl Ac q => Sto.ofV Ac q O101 (Ins.of_exa f104 (tw hw 162 rfl))) (by omega) #[.val (.ref a1), .val (.ref ee), .val (.ref ea101), .val (.int 49)] []
  refine st103 _ ?_
  have s105 := K103.1
  refine g_aload_n B W103 (d_jdk_38_method_24_15) rfl rfl ?_
  refine g_iload_n B W103 (d_jdk_38_method_24_16) rfl ?_
  refine g_iconst B W103 (d_jdk_38_method_24_17) (v := 1) (by decide) ?_
  refine g_iadd B W103 (d_jdk_38_method_24_18)  ?_
  rw [show (49 + 1 : Int32) = 50 by decide]
  have f106 := (Fs101.keep K103 (ninS (nne (by have q := nlt Fs101.lt; omega)) nin0))
  have f107 := (E101.keep K103)
  obtain ⟨T108, h108, W108, K108, R108, F108, E108, st108⟩ := x_put B W103 (d_jdk_38_method_24_19) ((tw hw 45 rfl)) Via.refl f106 f107 (Or.inl (tw hw 46 rfl)) (tw hw 1 rfl) (ty := .int) (v := (.int 50)) (v' := (.int 50)) (by decide) rfl rfl (by omega) #[.val (.ref a1), .val (.ref ee), .val (.ref ea101), .val (.int 49)] []
  refine st108 _ ?_
  have f109 := (Fe101.keep K103 (ninS (nne (by have q := nlt Fe101.lt; omega)) nin0))
  have f110 := f109.other R108 (Or.inr (slot_ne (Or.inl (tw hw 25 rfl)) (Or.inl (tw hw 46 rfl)) (by decide) (t := (.array (.object "java/lang/Object"))) (t' := .int) (by decide) (by decide)))
  have f111 := (Fm101.keep K103 (ninS (nne (by have q := nlt Fm101.lt; omega)) nin0))
  have f112 := f111.other R108 (Or.inr (slot_ne (Or.inl (tw hw 22 rfl)) (Or.inl (tw hw 46 rfl)) (by decide) (t := .int) (t' := .int) (by decide) (by decide)))
  have s113 := K108.1
  have f114 := (A103.keep K108 (ninS (nne (by have q := nlt A103.lt; omega)) nin0))
  have f115 := ((X101.keep K103).keep K108)
  exact r_v B W108 (d_jdk_38_method_24_22) (by decide) (by decide) ⟨_, _, vs101, rfl, by omega, ((((Keep.refl h0 [a1]).trans K101 (allS (Or.inl (by simp)) all0)).trans K103 (allS (Or.inr (by omega)) all0)).trans K108 (allS (Or.inl (by simp)) all0)), E108, F108, f110, f112, f114, f115, vl101, O101, ag101⟩
theorem ef_addFI (m : MethodId) (a1 : Addr) (mc : Int32) (ee : Addr) (de : Addr) (dc : Cell) : entryFrame m #[(.ref a1), (.ref ee)] 2 = mkF m 0 #[.val (.ref a1), .val (.ref ee)] [] := by first | (simp [entryFrame, mkF, argsToLocals, Value.category]; done) | rfl
def Q_addFI (Z : State) (a1 : Addr) (mc : Int32) (ee : Addr) (de : Addr) (dc : Cell) (h0 : Heap) (v : Option Value) (h : Heap) : Prop := ∃ (ea2 : Addr) (kB : ClassId) (vs2 : List Value), v = some (.int 1) ∧ h0.size ≤ ea2 ∧ Keep h0 h [a1] ∧ Exa Z h a1 "java/util/ArrayList" ∧ Fld Z h a1 "java/util/ArrayList" "size" "I" (.int 1) ∧ Fld Z h a1 "java/util/ArrayList" "elementData" "[Ljava/lang/Object;" (.ref ea2) ∧ Fld Z h a1 "java/util/AbstractList" "modCount" "I" (.int (mc + 1)) ∧ Arv Z h ea2 kB (.object "java/lang/Object") 10 (vs2.set (Int32.toNatClampNeg 0) (.ref ee)) .null ∧ Exa Z h ea2 "[Ljava/lang/Object;" ∧ vs2.length = Int32.toNatClampNeg 10 ∧ Ovr Z kB "java/lang/Object" ∧ vs2 = List.replicate 10 .null
set_option maxRecDepth 65536 in
set_option maxHeartbeats 40000000 in
theorem c_addFI (l : Launch) (Z : State) (a0 : Array Value) (hw : ∀ d ∈ tables_1, d.before a0 Z = true) (a1 : Addr) (mc : Int32) (ee : Addr) (de : Addr) (dc : Cell) (h0 : Heap) (E1 : Exa Z h0 a1 "java/util/ArrayList") (F1 : Fld Z h0 a1 "java/util/ArrayList" "size" "I" (.int 0)) (F2 : Fld Z h0 a1 "java/util/ArrayList" "elementData" "[Ljava/lang/Object;" (.ref de)) (F3 : Fld Z h0 a1 "java/util/AbstractList" "modCount" "I" (.int mc)) (g1 : Z.heap.size ≤ a1) (Ee : Exa Z h0 ee "java/lang/Integer") (Sde : Sta Z Z.heap "java/util/ArrayList" "DEFAULTCAPACITY_EMPTY_ELEMENTDATA" "[Ljava/lang/Object;" (.ref de)) (Ade : Arr Z Z.heap de dc (.object "java/lang/Object")) (lde : dc.slots.size.toInt32 = 0) :
    Con l Z (⟨"java/util/ArrayList", "add", "(Ljava/lang/Object;)Z"⟩ : MethodName) jdk_38_method_25_code 2 (Option.some FieldType.boolean) [] ({ frames := 6, cells := 1, slots := 10, locals := 111 } : Room) #[(.ref a1), (.ref ee)] h0 (Q_addFI Z a1 mc ee de dc h0) := by
  refine Con.of (plainFor_of_name pn_java_util_ArrayList) ?_
  intro p e s m below meth c T0 B W0
  refine Go.cast (ef_addFI m a1 mc ee de dc ) ?_
  have l_a1 := nlt E1.lt
  refine g_aload_n B W0 (d_jdk_38_method_25_0) rfl rfl ?_
  refine g_dup B W0 (d_jdk_38_method_25_1) rfl ?_
  obtain ⟨T101, W101, st101⟩ := x_get B W0 (host := "") (d_jdk_38_method_25_2) (Or.inl (tw hw 94 rfl)) (Via.of (tw hw 83 rfl)) F3 #[.val (.ref a1), .val (.ref ee)] [(.ref a1)]
  refine st101 _ ?_
  refine g_iconst B W101 (d_jdk_38_method_25_5) (v := 1) (by decide) ?_
  refine g_iadd B W101 (d_jdk_38_method_25_6)  ?_
  obtain ⟨T102, h102, W102, K102, R102, F102, E102, st102⟩ := x_put B W101 (d_jdk_38_method_25_7) ((tw hw 94 rfl)) (Via.of (tw hw 83 rfl)) F3 E1 (Or.inl (tw hw 22 rfl)) (tw hw 1 rfl) (ty := .int) (v := (.int (mc + 1))) (v' := (.int (mc + 1))) (by decide) rfl rfl (by omega) #[.val (.ref a1), .val (.ref ee)] []
  refine st102 _ ?_
  have f103 := F1.other R102 (Or.inr (slot_ne (Or.inl (tw hw 46 rfl)) (Or.inl (tw hw 22 rfl)) (by decide) (t := .int) (t' := .int) (by decide) (by decide)))
  have f104 := F2.other R102 (Or.inr (slot_ne (Or.inl (tw hw 25 rfl)) (Or.inl (tw hw 22 rfl)) (by decide) (t := (.array (.object "java/lang/Object"))) (t' := .int) (by decide) (by decide)))
  have s105 := K102.1
  refine g_aload_n B W102 (d_jdk_38_method_25_10) rfl rfl ?_
  refine g_aload_n B W102 (d_jdk_38_method_25_11) rfl rfl ?_
  refine g_aload_n B W102 (d_jdk_38_method_25_12) rfl rfl ?_
  obtain ⟨T106, W106, st106⟩ := x_get B W102 (host := "") (d_jdk_38_method_25_13) (Or.inl (tw hw 24 rfl)) Via.refl f104 #[.val (.ref a1), .val (.ref ee)] [(.ref ee), (.ref a1)]
  refine st106 _ ?_
  refine g_aload_n B W106 (d_jdk_38_method_25_16) rfl rfl ?_
  obtain ⟨T107, W107, st107⟩ := x_get B W106 (host := "") (d_jdk_38_method_25_17) (Or.inl (tw hw 45 rfl)) Via.refl f103 #[.val (.ref a1), .val (.ref ee)] [(.ref de), (.ref ee), (.ref a1)]
  refine st107 _ ?_
  have f108 := (Ee.keep K102)
  obtain ⟨T109, h109, v109, W109, Q109, st109⟩ := x_private B W107 (b := a1) [(.ref ee), (.ref de), (.int 0)] (c_add3FI l Z a0 hw a1 (mc + 1) ee de dc h102 E102 f103 f104 F102 (by omega) f108 Sde Ade lde) E102 (d_jdk_38_method_25_20) (tw hw 95 rfl) (tw hw 96 rfl) (tw hw 98 rfl) (tw hw 97 rfl) (tw hw 2 rfl) (tw hw 99 rfl) (by decide) (lenOf pd__Ljava_lang_Object__Ljava_lang_Object_I_V rfl) #[.val (.ref a1), .val (.ref ee)] [] rfl 0 rfl (by decide) (by decide) (by decide) (by decide)
  obtain ⟨ea109, kB109, vs109, rfl, gb109, K109, E109, Fs109, Fe109, Fm109, A109, X109, vl109, O109, ev109⟩ := Q109
  have s110 := K109.1
  refine st109 _ ?_
  have l109 := nlt A109.lt
  refine g_iconst B W109 (d_jdk_38_method_25_23) (v := 1) (by decide) ?_
  exact r_n B W109 (t := .boolean) rfl (by simp) (d_jdk_38_method_25_24) (by decide) (by decide) ⟨_, _, vs109, by rw [nar_b1], by omega, (((Keep.refl h0 [a1]).trans K102 (allS (Or.inl (by simp)) all0)).trans K109 (allS (Or.inl (by simp)) all0)), E109, Fs109, Fe109, Fm109, A109, X109, vl109, O109, ev109⟩
theorem ef_addBI (m : MethodId) (a1 : Addr) (mc : Int32) (ee : Addr) (ea : Addr) (kA : ClassId) (vs : List Value) (n : Int32) (n2 : Int32) (z : Int32) : entryFrame m #[(.ref a1), (.ref ee)] 2 = mkF m 0 #[.val (.ref a1), .val (.ref ee)] [] := by first | (simp [entryFrame, mkF, argsToLocals, Value.category]; done) | rfl
def Q_addBI (Z : State) (a1 : Addr) (mc : Int32) (ee : Addr) (ea : Addr) (kA : ClassId) (vs : List Value) (n : Int32) (n2 : Int32) (z : Int32) (h0 : Heap) (v : Option Value) (h : Heap) : Prop := v = some (.int 1) ∧ Keep h0 h [a1, ea] ∧ Exa Z h a1 "java/util/ArrayList" ∧ Fld Z h a1 "java/util/ArrayList" "size" "I" (.int n2) ∧ Fld Z h a1 "java/util/ArrayList" "elementData" "[Ljava/lang/Object;" (.ref ea) ∧ Fld Z h a1 "java/util/AbstractList" "modCount" "I" (.int (mc + 1)) ∧ Arv Z h ea kA (.object "java/lang/Object") z (vs.set n.toNatClampNeg (.ref ee)) .null ∧ Exa Z h ea "[Ljava/lang/Object;"
set_option maxRecDepth 65536 in
set_option maxHeartbeats 40000000 in
theorem c_addBI (l : Launch) (Z : State) (a0 : Array Value) (hw : ∀ d ∈ tables_1, d.before a0 Z = true) (a1 : Addr) (mc : Int32) (ee : Addr) (ea : Addr) (kA : ClassId) (vs : List Value) (n : Int32) (n2 : Int32) (z : Int32) (h0 : Heap) (E1 : Exa Z h0 a1 "java/util/ArrayList") (F1 : Fld Z h0 a1 "java/util/ArrayList" "size" "I" (.int n)) (F2 : Fld Z h0 a1 "java/util/ArrayList" "elementData" "[Ljava/lang/Object;" (.ref ea)) (F3 : Fld Z h0 a1 "java/util/AbstractList" "modCount" "I" (.int mc)) (g1 : Z.heap.size ≤ a1) (Ee : Exa Z h0 ee "java/lang/Integer") (A1 : Arv Z h0 ea kA (.object "java/lang/Object") z vs .null) (vl0 : vs.length = z.toNatClampNeg) (O1 : Ovr Z kA "java/lang/Object") (X1 : Exa Z h0 ea "[Ljava/lang/Object;") (g2 : Z.heap.size ≤ ea) (hne : ¬ @Eq Nat ea a1) (hn : ¬ n < 0 ∧ n < z) (hn2 : n + 1 = n2) :
    Con l Z (⟨"java/util/ArrayList", "add", "(Ljava/lang/Object;)Z"⟩ : MethodName) jdk_38_method_25_code 2 (Option.some FieldType.boolean) [] ({ frames := 1, cells := 0, slots := 0, locals := 20 } : Room) #[(.ref a1), (.ref ee)] h0 (Q_addBI Z a1 mc ee ea kA vs n n2 z h0) := by
  refine Con.of (plainFor_of_name pn_java_util_ArrayList) ?_
  intro p e s m below meth c T0 B W0
  refine Go.cast (ef_addBI m a1 mc ee ea kA vs n n2 z ) ?_
  have l_a1 := nlt E1.lt
  have l_ea := nlt A1.lt
  refine g_aload_n B W0 (d_jdk_38_method_25_0) rfl rfl ?_
  refine g_dup B W0 (d_jdk_38_method_25_1) rfl ?_
  obtain ⟨T101, W101, st101⟩ := x_get B W0 (host := "") (d_jdk_38_method_25_2) (Or.inl (tw hw 94 rfl)) (Via.of (tw hw 83 rfl)) F3 #[.val (.ref a1), .val (.ref ee)] [(.ref a1)]
  refine st101 _ ?_
  refine g_iconst B W101 (d_jdk_38_method_25_5) (v := 1) (by decide) ?_
  refine g_iadd B W101 (d_jdk_38_method_25_6)  ?_
  obtain ⟨T102, h102, W102, K102, R102, F102, E102, st102⟩ := x_put B W101 (d_jdk_38_method_25_7) ((tw hw 94 rfl)) (Via.of (tw hw 83 rfl)) F3 E1 (Or.inl (tw hw 22 rfl)) (tw hw 1 rfl) (ty := .int) (v := (.int (mc + 1))) (v' := (.int (mc + 1))) (by decide) rfl rfl (by omega) #[.val (.ref a1), .val (.ref ee)] []
  refine st102 _ ?_
  have f103 := F1.other R102 (Or.inr (slot_ne (Or.inl (tw hw 46 rfl)) (Or.inl (tw hw 22 rfl)) (by decide) (t := .int) (t' := .int) (by decide) (by decide)))
  have f104 := F2.other R102 (Or.inr (slot_ne (Or.inl (tw hw 25 rfl)) (Or.inl (tw hw 22 rfl)) (by decide) (t := (.array (.object "java/lang/Object"))) (t' := .int) (by decide) (by decide)))
  have s105 := K102.1
  refine g_aload_n B W102 (d_jdk_38_method_25_10) rfl rfl ?_
  refine g_aload_n B W102 (d_jdk_38_method_25_11) rfl rfl ?_
  refine g_aload_n B W102 (d_jdk_38_method_25_12) rfl rfl ?_
  obtain ⟨T106, W106, st106⟩ := x_get B W102 (host := "") (d_jdk_38_method_25_13) (Or.inl (tw hw 24 rfl)) Via.refl f104 #[.val (.ref a1), .val (.ref ee)] [(.ref ee), (.ref a1)]
  refine st106 _ ?_
  refine g_aload_n B W106 (d_jdk_38_method_25_16) rfl rfl ?_
  obtain ⟨T107, W107, st107⟩ := x_get B W106 (host := "") (d_jdk_38_method_25_17) (Or.inl (tw hw 45 rfl)) Via.refl f103 #[.val (.ref a1), .val (.ref ee)] [(.ref ea), (.ref ee), (.ref a1)]
  refine st107 _ ?_
  have f108 := (Ee.keep K102)
  have f109 := (A1.keep K102 (ninS (nne (by have q := nlt A1.lt; omega)) nin0))
  have f110 := (X1.keep K102)
  obtain ⟨T111, h111, v111, W111, Q111, st111⟩ := x_private B W107 (b := a1) [(.ref ee), (.ref ea), (.int n)] (c_add3BI l Z a0 hw a1 (mc + 1) ee ea kA vs n n2 z h102 E102 f103 f104 F102 (by omega) f108 f109 vl0 O1 f110 g2 hne hn hn2) E102 (d_jdk_38_method_25_20) (tw hw 95 rfl) (tw hw 96 rfl) (tw hw 98 rfl) (tw hw 97 rfl) (tw hw 2 rfl) (tw hw 99 rfl) (by decide) (lenOf pd__Ljava_lang_Object__Ljava_lang_Object_I_V rfl) #[.val (.ref a1), .val (.ref ee)] [] rfl 0 rfl (by decide) (by decide) (by decide) (by decide)
  obtain ⟨rfl, K111, E111, Fs111, Fe111, Fm111, A111, X111⟩ := Q111
  have s112 := K111.1
  refine st111 _ ?_
  refine g_iconst B W111 (d_jdk_38_method_25_23) (v := 1) (by decide) ?_
  exact r_n B W111 (t := .boolean) rfl (by simp) (d_jdk_38_method_25_24) (by decide) (by decide) ⟨by rw [nar_b1], (((Keep.refl h0 [a1, ea]).trans K102 (allS (Or.inl (by simp)) all0)).trans K111 (allS (Or.inl (by simp)) (allS (Or.inl (by simp)) all0))), E111, Fs111, Fe111, Fm111, A111, X111⟩
theorem ef_addG10 (m : MethodId) (a1 : Addr) (mc : Int32) (ee : Addr) (ea : Addr) (kA : ClassId) (vs : List Value) (mo : Addr) : entryFrame m #[(.ref a1), (.ref ee)] 2 = mkF m 0 #[.val (.ref a1), .val (.ref ee)] [] := by first | (simp [entryFrame, mkF, argsToLocals, Value.category]; done) | rfl
def Q_addG10 (Z : State) (a1 : Addr) (mc : Int32) (ee : Addr) (ea : Addr) (kA : ClassId) (vs : List Value) (mo : Addr) (h0 : Heap) (v : Option Value) (h : Heap) : Prop := ∃ (ea2 : Addr) (kB : ClassId) (vs2 : List Value), v = some (.int 1) ∧ h0.size ≤ ea2 ∧ Keep h0 h [a1] ∧ Exa Z h a1 "java/util/ArrayList" ∧ Fld Z h a1 "java/util/ArrayList" "size" "I" (.int 11) ∧ Fld Z h a1 "java/util/ArrayList" "elementData" "[Ljava/lang/Object;" (.ref ea2) ∧ Fld Z h a1 "java/util/AbstractList" "modCount" "I" (.int (mc + 1)) ∧ Arv Z h ea2 kB (.object "java/lang/Object") 15 (vs2.set (Int32.toNatClampNeg 10) (.ref ee)) .null ∧ Exa Z h ea2 "[Ljava/lang/Object;" ∧ vs2.length = Int32.toNatClampNeg 15 ∧ Ovr Z kB "java/lang/Object" ∧ ∀ i : Nat, i < Int32.toNatClampNeg 10 → vs2.getD i .null = vs.getD i .null
set_option maxRecDepth 65536 in
set_option maxHeartbeats 40000000 in
theorem c_addG10 (l : Launch) (Z : State) (a0 : Array Value) (hw : ∀ d ∈ tables_1, d.before a0 Z = true) (a1 : Addr) (mc : Int32) (ee : Addr) (ea : Addr) (kA : ClassId) (vs : List Value) (mo : Addr) (h0 : Heap) (E1 : Exa Z h0 a1 "java/util/ArrayList") (F1 : Fld Z h0 a1 "java/util/ArrayList" "size" "I" (.int 10)) (F2 : Fld Z h0 a1 "java/util/ArrayList" "elementData" "[Ljava/lang/Object;" (.ref ea)) (F3 : Fld Z h0 a1 "java/util/AbstractList" "modCount" "I" (.int mc)) (g1 : Z.heap.size ≤ a1) (Ee : Exa Z h0 ee "java/lang/Integer") (A1 : Arv Z h0 ea kA (.object "java/lang/Object") 10 vs .null) (hbx : ∀ i : Nat, i < Int32.toNatClampNeg 10 → ∃ y : Addr, vs.getD i .null = .ref y ∧ Exa Z Z.heap y "java/lang/Integer") (X1 : Exa Z h0 ea "[Ljava/lang/Object;") (hne : ¬ @Eq Nat ea a1) (Mo : Mi Z "[Ljava/lang/Object;" mo) :
    Con l Z (⟨"java/util/ArrayList", "add", "(Ljava/lang/Object;)Z"⟩ : MethodName) jdk_38_method_25_code 2 (Option.some FieldType.boolean) [] ({ frames := 6, cells := 1, slots := 15, locals := 111 } : Room) #[(.ref a1), (.ref ee)] h0 (Q_addG10 Z a1 mc ee ea kA vs mo h0) := by
  refine Con.of (plainFor_of_name pn_java_util_ArrayList) ?_
  intro p e s m below meth c T0 B W0
  refine Go.cast (ef_addG10 m a1 mc ee ea kA vs mo ) ?_
  have l_a1 := nlt E1.lt
  have l_ea := nlt A1.lt
  refine g_aload_n B W0 (d_jdk_38_method_25_0) rfl rfl ?_
  refine g_dup B W0 (d_jdk_38_method_25_1) rfl ?_
  obtain ⟨T101, W101, st101⟩ := x_get B W0 (host := "") (d_jdk_38_method_25_2) (Or.inl (tw hw 94 rfl)) (Via.of (tw hw 83 rfl)) F3 #[.val (.ref a1), .val (.ref ee)] [(.ref a1)]
  refine st101 _ ?_
  refine g_iconst B W101 (d_jdk_38_method_25_5) (v := 1) (by decide) ?_
  refine g_iadd B W101 (d_jdk_38_method_25_6)  ?_
  obtain ⟨T102, h102, W102, K102, R102, F102, E102, st102⟩ := x_put B W101 (d_jdk_38_method_25_7) ((tw hw 94 rfl)) (Via.of (tw hw 83 rfl)) F3 E1 (Or.inl (tw hw 22 rfl)) (tw hw 1 rfl) (ty := .int) (v := (.int (mc + 1))) (v' := (.int (mc + 1))) (by decide) rfl rfl (by omega) #[.val (.ref a1), .val (.ref ee)] []
  refine st102 _ ?_
  have f103 := F1.other R102 (Or.inr (slot_ne (Or.inl (tw hw 46 rfl)) (Or.inl (tw hw 22 rfl)) (by decide) (t := .int) (t' := .int) (by decide) (by decide)))
  have f104 := F2.other R102 (Or.inr (slot_ne (Or.inl (tw hw 25 rfl)) (Or.inl (tw hw 22 rfl)) (by decide) (t := (.array (.object "java/lang/Object"))) (t' := .int) (by decide) (by decide)))
  have s105 := K102.1
  refine g_aload_n B W102 (d_jdk_38_method_25_10) rfl rfl ?_
  refine g_aload_n B W102 (d_jdk_38_method_25_11) rfl rfl ?_
  refine g_aload_n B W102 (d_jdk_38_method_25_12) rfl rfl ?_
  obtain ⟨T106, W106, st106⟩ := x_get B W102 (host := "") (d_jdk_38_method_25_13) (Or.inl (tw hw 24 rfl)) Via.refl f104 #[.val (.ref a1), .val (.ref ee)] [(.ref ee), (.ref a1)]
  refine st106 _ ?_
  refine g_aload_n B W106 (d_jdk_38_method_25_16) rfl rfl ?_
  obtain ⟨T107, W107, st107⟩ := x_get B W106 (host := "") (d_jdk_38_method_25_17) (Or.inl (tw hw 45 rfl)) Via.refl f103 #[.val (.ref a1), .val (.ref ee)] [(.ref ea), (.ref ee), (.ref a1)]
  refine st107 _ ?_
  have f108 := (Ee.keep K102)
  have f109 := (A1.keep K102 (ninS (nne (by have q := nlt A1.lt; omega)) nin0))
  have f110 := (X1.keep K102)
  obtain ⟨T111, h111, v111, W111, Q111, st111⟩ := x_private B W107 (b := a1) [(.ref ee), (.ref ea), (.int 10)] (c_add3G10 l Z a0 hw a1 (mc + 1) ee ea kA vs mo h102 E102 f103 f104 F102 (by omega) f108 f109 hbx f110 hne Mo) E102 (d_jdk_38_method_25_20) (tw hw 95 rfl) (tw hw 96 rfl) (tw hw 98 rfl) (tw hw 97 rfl) (tw hw 2 rfl) (tw hw 99 rfl) (by decide) (lenOf pd__Ljava_lang_Object__Ljava_lang_Object_I_V rfl) #[.val (.ref a1), .val (.ref ee)] [] rfl 0 rfl (by decide) (by decide) (by decide) (by decide)
  obtain ⟨ea111, kB111, vs111, rfl, gb111, K111, E111, Fs111, Fe111, Fm111, A111, X111, vl111, O111, ag111⟩ := Q111
  have s112 := K111.1
  refine st111 _ ?_
  have l111 := nlt A111.lt
  refine g_iconst B W111 (d_jdk_38_method_25_23) (v := 1) (by decide) ?_
  exact r_n B W111 (t := .boolean) rfl (by simp) (d_jdk_38_method_25_24) (by decide) (by decide) ⟨_, _, vs111, by rw [nar_b1], by omega, (((Keep.refl h0 [a1]).trans K102 (allS (Or.inl (by simp)) all0)).trans K111 (allS (Or.inl (by simp)) all0)), E111, Fs111, Fe111, Fm111, A111, X111, vl111, O111, ag111⟩
theorem ef_addG15 (m : MethodId) (a1 : Addr) (mc : Int32) (ee : Addr) (ea : Addr) (kA : ClassId) (vs : List Value) (mo : Addr) : entryFrame m #[(.ref a1), (.ref ee)] 2 = mkF m 0 #[.val (.ref a1), .val (.ref ee)] [] := by first | (simp [entryFrame, mkF, argsToLocals, Value.category]; done) | rfl
def Q_addG15 (Z : State) (a1 : Addr) (mc : Int32) (ee : Addr) (ea : Addr) (kA : ClassId) (vs : List Value) (mo : Addr) (h0 : Heap) (v : Option Value) (h : Heap) : Prop := ∃ (ea2 : Addr) (kB : ClassId) (vs2 : List Value), v = some (.int 1) ∧ h0.size ≤ ea2 ∧ Keep h0 h [a1] ∧ Exa Z h a1 "java/util/ArrayList" ∧ Fld Z h a1 "java/util/ArrayList" "size" "I" (.int 16) ∧ Fld Z h a1 "java/util/ArrayList" "elementData" "[Ljava/lang/Object;" (.ref ea2) ∧ Fld Z h a1 "java/util/AbstractList" "modCount" "I" (.int (mc + 1)) ∧ Arv Z h ea2 kB (.object "java/lang/Object") 22 (vs2.set (Int32.toNatClampNeg 15) (.ref ee)) .null ∧ Exa Z h ea2 "[Ljava/lang/Object;" ∧ vs2.length = Int32.toNatClampNeg 22 ∧ Ovr Z kB "java/lang/Object" ∧ ∀ i : Nat, i < Int32.toNatClampNeg 15 → vs2.getD i .null = vs.getD i .null
set_option maxRecDepth 65536 in
set_option maxHeartbeats 40000000 in
theorem c_addG15 (l : Launch) (Z : State) (a0 : Array Value) (hw : ∀ d ∈ tables_1, d.before a0 Z = true) (a1 : Addr) (mc : Int32) (ee : Addr) (ea : Addr) (kA : ClassId) (vs : List Value) (mo : Addr) (h0 : Heap) (E1 : Exa Z h0 a1 "java/util/ArrayList") (F1 : Fld Z h0 a1 "java/util/ArrayList" "size" "I" (.int 15)) (F2 : Fld Z h0 a1 "java/util/ArrayList" "elementData" "[Ljava/lang/Object;" (.ref ea)) (F3 : Fld Z h0 a1 "java/util/AbstractList" "modCount" "I" (.int mc)) (g1 : Z.heap.size ≤ a1) (Ee : Exa Z h0 ee "java/lang/Integer") (A1 : Arv Z h0 ea kA (.object "java/lang/Object") 15 vs .null) (hbx : ∀ i : Nat, i < Int32.toNatClampNeg 15 → ∃ y : Addr, vs.getD i .null = .ref y ∧ Exa Z Z.heap y "java/lang/Integer") (X1 : Exa Z h0 ea "[Ljava/lang/Object;") (hne : ¬ @Eq Nat ea a1) (Mo : Mi Z "[Ljava/lang/Object;" mo) :
    Con l Z (⟨"java/util/ArrayList", "add", "(Ljava/lang/Object;)Z"⟩ : MethodName) jdk_38_method_25_code 2 (Option.some FieldType.boolean) [] ({ frames := 6, cells := 1, slots := 22, locals := 111 } : Room) #[(.ref a1), (.ref ee)] h0 (Q_addG15 Z a1 mc ee ea kA vs mo h0) := by
  refine Con.of (plainFor_of_name pn_java_util_ArrayList) ?_
  intro p e s m below meth c T0 B W0
  refine Go.cast (ef_addG15 m a1 mc ee ea kA vs mo ) ?_
  have l_a1 := nlt E1.lt
  have l_ea := nlt A1.lt
  refine g_aload_n B W0 (d_jdk_38_method_25_0) rfl rfl ?_
  refine g_dup B W0 (d_jdk_38_method_25_1) rfl ?_
  obtain ⟨T101, W101, st101⟩ := x_get B W0 (host := "") (d_jdk_38_method_25_2) (Or.inl (tw hw 94 rfl)) (Via.of (tw hw 83 rfl)) F3 #[.val (.ref a1), .val (.ref ee)] [(.ref a1)]
  refine st101 _ ?_
  refine g_iconst B W101 (d_jdk_38_method_25_5) (v := 1) (by decide) ?_
  refine g_iadd B W101 (d_jdk_38_method_25_6)  ?_
  obtain ⟨T102, h102, W102, K102, R102, F102, E102, st102⟩ := x_put B W101 (d_jdk_38_method_25_7) ((tw hw 94 rfl)) (Via.of (tw hw 83 rfl)) F3 E1 (Or.inl (tw hw 22 rfl)) (tw hw 1 rfl) (ty := .int) (v := (.int (mc + 1))) (v' := (.int (mc + 1))) (by decide) rfl rfl (by omega) #[.val (.ref a1), .val (.ref ee)] []
  refine st102 _ ?_
  have f103 := F1.other R102 (Or.inr (slot_ne (Or.inl (tw hw 46 rfl)) (Or.inl (tw hw 22 rfl)) (by decide) (t := .int) (t' := .int) (by decide) (by decide)))
  have f104 := F2.other R102 (Or.inr (slot_ne (Or.inl (tw hw 25 rfl)) (Or.inl (tw hw 22 rfl)) (by decide) (t := (.array (.object "java/lang/Object"))) (t' := .int) (by decide) (by decide)))
  have s105 := K102.1
  refine g_aload_n B W102 (d_jdk_38_method_25_10) rfl rfl ?_
  refine g_aload_n B W102 (d_jdk_38_method_25_11) rfl rfl ?_
  refine g_aload_n B W102 (d_jdk_38_method_25_12) rfl rfl ?_
  obtain ⟨T106, W106, st106⟩ := x_get B W102 (host := "") (d_jdk_38_method_25_13) (Or.inl (tw hw 24 rfl)) Via.refl f104 #[.val (.ref a1), .val (.ref ee)] [(.ref ee), (.ref a1)]
  refine st106 _ ?_
  refine g_aload_n B W106 (d_jdk_38_method_25_16) rfl rfl ?_
  obtain ⟨T107, W107, st107⟩ := x_get B W106 (host := "") (d_jdk_38_method_25_17) (Or.inl (tw hw 45 rfl)) Via.refl f103 #[.val (.ref a1), .val (.ref ee)] [(.ref ea), (.ref ee), (.ref a1)]
  refine st107 _ ?_
  have f108 := (Ee.keep K102)
  have f109 := (A1.keep K102 (ninS (nne (by have q := nlt A1.lt; omega)) nin0))
  have f110 := (X1.keep K102)
  obtain ⟨T111, h111, v111, W111, Q111, st111⟩ := x_private B W107 (b := a1) [(.ref ee), (.ref ea), (.int 15)] (c_add3G15 l Z a0 hw a1 (mc + 1) ee ea kA vs mo h102 E102 f103 f104 F102 (by omega) f108 f109 hbx f110 hne Mo) E102 (d_jdk_38_method_25_20) (tw hw 95 rfl) (tw hw 96 rfl) (tw hw 98 rfl) (tw hw 97 rfl) (tw hw 2 rfl) (tw hw 99 rfl) (by decide) (lenOf pd__Ljava_lang_Object__Ljava_lang_Object_I_V rfl) #[.val (.ref a1), .val (.ref ee)] [] rfl 0 rfl (by decide) (by decide) (by decide) (by decide)
  obtain ⟨ea111, kB111, vs111, rfl, gb111, K111, E111, Fs111, Fe111, Fm111, A111, X111, vl111, O111, ag111⟩ := Q111
  have s112 := K111.1
  refine st111 _ ?_
  have l111 := nlt A111.lt
  refine g_iconst B W111 (d_jdk_38_method_25_23) (v := 1) (by decide) ?_
  exact r_n B W111 (t := .boolean) rfl (by simp) (d_jdk_38_method_25_24) (by decide) (by decide) ⟨_, _, vs111, by rw [nar_b1], by omega, (((Keep.refl h0 [a1]).trans K102 (allS (Or.inl (by simp)) all0)).trans K111 (allS (Or.inl (by simp)) all0)), E111, Fs111, Fe111, Fm111, A111, X111, vl111, O111, ag111⟩
theorem ef_addG22 (m : MethodId) (a1 : Addr) (mc : Int32) (ee : Addr) (ea : Addr) (kA : ClassId) (vs : List Value) (mo : Addr) : entryFrame m #[(.ref a1), (.ref ee)] 2 = mkF m 0 #[.val (.ref a1), .val (.ref ee)] [] := by first | (simp [entryFrame, mkF, argsToLocals, Value.category]; done) | rfl
def Q_addG22 (Z : State) (a1 : Addr) (mc : Int32) (ee : Addr) (ea : Addr) (kA : ClassId) (vs : List Value) (mo : Addr) (h0 : Heap) (v : Option Value) (h : Heap) : Prop := ∃ (ea2 : Addr) (kB : ClassId) (vs2 : List Value), v = some (.int 1) ∧ h0.size ≤ ea2 ∧ Keep h0 h [a1] ∧ Exa Z h a1 "java/util/ArrayList" ∧ Fld Z h a1 "java/util/ArrayList" "size" "I" (.int 23) ∧ Fld Z h a1 "java/util/ArrayList" "elementData" "[Ljava/lang/Object;" (.ref ea2) ∧ Fld Z h a1 "java/util/AbstractList" "modCount" "I" (.int (mc + 1)) ∧ Arv Z h ea2 kB (.object "java/lang/Object") 33 (vs2.set (Int32.toNatClampNeg 22) (.ref ee)) .null ∧ Exa Z h ea2 "[Ljava/lang/Object;" ∧ vs2.length = Int32.toNatClampNeg 33 ∧ Ovr Z kB "java/lang/Object" ∧ ∀ i : Nat, i < Int32.toNatClampNeg 22 → vs2.getD i .null = vs.getD i .null
set_option maxRecDepth 65536 in
set_option maxHeartbeats 40000000 in
theorem c_addG22 (l : Launch) (Z : State) (a0 : Array Value) (hw : ∀ d ∈ tables_1, d.before a0 Z = true) (a1 : Addr) (mc : Int32) (ee : Addr) (ea : Addr) (kA : ClassId) (vs : List Value) (mo : Addr) (h0 : Heap) (E1 : Exa Z h0 a1 "java/util/ArrayList") (F1 : Fld Z h0 a1 "java/util/ArrayList" "size" "I" (.int 22)) (F2 : Fld Z h0 a1 "java/util/ArrayList" "elementData" "[Ljava/lang/Object;" (.ref ea)) (F3 : Fld Z h0 a1 "java/util/AbstractList" "modCount" "I" (.int mc)) (g1 : Z.heap.size ≤ a1) (Ee : Exa Z h0 ee "java/lang/Integer") (A1 : Arv Z h0 ea kA (.object "java/lang/Object") 22 vs .null) (hbx : ∀ i : Nat, i < Int32.toNatClampNeg 22 → ∃ y : Addr, vs.getD i .null = .ref y ∧ Exa Z Z.heap y "java/lang/Integer") (X1 : Exa Z h0 ea "[Ljava/lang/Object;") (hne : ¬ @Eq Nat ea a1) (Mo : Mi Z "[Ljava/lang/Object;" mo) :
    Con l Z (⟨"java/util/ArrayList", "add", "(Ljava/lang/Object;)Z"⟩ : MethodName) jdk_38_method_25_code 2 (Option.some FieldType.boolean) [] ({ frames := 6, cells := 1, slots := 33, locals := 111 } : Room) #[(.ref a1), (.ref ee)] h0 (Q_addG22 Z a1 mc ee ea kA vs mo h0) := by
  refine Con.of (plainFor_of_name pn_java_util_ArrayList) ?_
  intro p e s m below meth c T0 B W0
  refine Go.cast (ef_addG22 m a1 mc ee ea kA vs mo ) ?_
  have l_a1 := nlt E1.lt
  have l_ea := nlt A1.lt
  refine g_aload_n B W0 (d_jdk_38_method_25_0) rfl rfl ?_
  refine g_dup B W0 (d_jdk_38_method_25_1) rfl ?_
  obtain ⟨T101, W101, st101⟩ := x_get B W0 (host := "") (d_jdk_38_method_25_2) (Or.inl (tw hw 94 rfl)) (Via.of (tw hw 83 rfl)) F3 #[.val (.ref a1), .val (.ref ee)] [(.ref a1)]
  refine st101 _ ?_
  refine g_iconst B W101 (d_jdk_38_method_25_5) (v := 1) (by decide) ?_
  refine g_iadd B W101 (d_jdk_38_method_25_6)  ?_
  obtain ⟨T102, h102, W102, K102, R102, F102, E102, st102⟩ := x_put B W101 (d_jdk_38_method_25_7) ((tw hw 94 rfl)) (Via.of (tw hw 83 rfl)) F3 E1 (Or.inl (tw hw 22 rfl)) (tw hw 1 rfl) (ty := .int) (v := (.int (mc + 1))) (v' := (.int (mc + 1))) (by decide) rfl rfl (by omega) #[.val (.ref a1), .val (.ref ee)] []
  refine st102 _ ?_
  have f103 := F1.other R102 (Or.inr (slot_ne (Or.inl (tw hw 46 rfl)) (Or.inl (tw hw 22 rfl)) (by decide) (t := .int) (t' := .int) (by decide) (by decide)))
  have f104 := F2.other R102 (Or.inr (slot_ne (Or.inl (tw hw 25 rfl)) (Or.inl (tw hw 22 rfl)) (by decide) (t := (.array (.object "java/lang/Object"))) (t' := .int) (by decide) (by decide)))
  have s105 := K102.1
  refine g_aload_n B W102 (d_jdk_38_method_25_10) rfl rfl ?_
  refine g_aload_n B W102 (d_jdk_38_method_25_11) rfl rfl ?_
  refine g_aload_n B W102 (d_jdk_38_method_25_12) rfl rfl ?_
  obtain ⟨T106, W106, st106⟩ := x_get B W102 (host := "") (d_jdk_38_method_25_13) (Or.inl (tw hw 24 rfl)) Via.refl f104 #[.val (.ref a1), .val (.ref ee)] [(.ref ee), (.ref a1)]
  refine st106 _ ?_
  refine g_aload_n B W106 (d_jdk_38_method_25_16) rfl rfl ?_
  obtain ⟨T107, W107, st107⟩ := x_get B W106 (host := "") (d_jdk_38_method_25_17) (Or.inl (tw hw 45 rfl)) Via.refl f103 #[.val (.ref a1), .val (.ref ee)] [(.ref ea), (.ref ee), (.ref a1)]
  refine st107 _ ?_
  have f108 := (Ee.keep K102)
  have f109 := (A1.keep K102 (ninS (nne (by have q := nlt A1.lt; omega)) nin0))
  have f110 := (X1.keep K102)
  obtain ⟨T111, h111, v111, W111, Q111, st111⟩ := x_private B W107 (b := a1) [(.ref ee), (.ref ea), (.int 22)] (c_add3G22 l Z a0 hw a1 (mc + 1) ee ea kA vs mo h102 E102 f103 f104 F102 (by omega) f108 f109 hbx f110 hne Mo) E102 (d_jdk_38_method_25_20) (tw hw 95 rfl) (tw hw 96 rfl) (tw hw 98 rfl) (tw hw 97 rfl) (tw hw 2 rfl) (tw hw 99 rfl) (by decide) (lenOf pd__Ljava_lang_Object__Ljava_lang_Object_I_V rfl) #[.val (.ref a1), .val (.ref ee)] [] rfl 0 rfl (by decide) (by decide) (by decide) (by decide)
  obtain ⟨ea111, kB111, vs111, rfl, gb111, K111, E111, Fs111, Fe111, Fm111, A111, X111, vl111, O111, ag111⟩ := Q111
  have s112 := K111.1
  refine st111 _ ?_
  have l111 := nlt A111.lt
  refine g_iconst B W111 (d_jdk_38_method_25_23) (v := 1) (by decide) ?_
  exact r_n B W111 (t := .boolean) rfl (by simp) (d_jdk_38_method_25_24) (by decide) (by decide) ⟨_, _, vs111, by rw [nar_b1], by omega, (((Keep.refl h0 [a1]).trans K102 (allS (Or.inl (by simp)) all0)).trans K111 (allS (Or.inl (by simp)) all0)), E111, Fs111, Fe111, Fm111, A111, X111, vl111, O111, ag111⟩
theorem ef_addG33 (m : MethodId) (a1 : Addr) (mc : Int32) (ee : Addr) (ea : Addr) (kA : ClassId) (vs : List Value) (mo : Addr) : entryFrame m #[(.ref a1), (.ref ee)] 2 = mkF m 0 #[.val (.ref a1), .val (.ref ee)] [] := by first | (simp [entryFrame, mkF, argsToLocals, Value.category]; done) | rfl
def Q_addG33 (Z : State) (a1 : Addr) (mc : Int32) (ee : Addr) (ea : Addr) (kA : ClassId) (vs : List Value) (mo : Addr) (h0 : Heap) (v : Option Value) (h : Heap) : Prop := ∃ (ea2 : Addr) (kB : ClassId) (vs2 : List Value), v = some (.int 1) ∧ h0.size ≤ ea2 ∧ Keep h0 h [a1] ∧ Exa Z h a1 "java/util/ArrayList" ∧ Fld Z h a1 "java/util/ArrayList" "size" "I" (.int 34) ∧ Fld Z h a1 "java/util/ArrayList" "elementData" "[Ljava/lang/Object;" (.ref ea2) ∧ Fld Z h a1 "java/util/AbstractList" "modCount" "I" (.int (mc + 1)) ∧ Arv Z h ea2 kB (.object "java/lang/Object") 49 (vs2.set (Int32.toNatClampNeg 33) (.ref ee)) .null ∧ Exa Z h ea2 "[Ljava/lang/Object;" ∧ vs2.length = Int32.toNatClampNeg 49 ∧ Ovr Z kB "java/lang/Object" ∧ ∀ i : Nat, i < Int32.toNatClampNeg 33 → vs2.getD i .null = vs.getD i .null
set_option maxRecDepth 65536 in
set_option maxHeartbeats 40000000 in
theorem c_addG33 (l : Launch) (Z : State) (a0 : Array Value) (hw : ∀ d ∈ tables_1, d.before a0 Z = true) (a1 : Addr) (mc : Int32) (ee : Addr) (ea : Addr) (kA : ClassId) (vs : List Value) (mo : Addr) (h0 : Heap) (E1 : Exa Z h0 a1 "java/util/ArrayList") (F1 : Fld Z h0 a1 "java/util/ArrayList" "size" "I" (.int 33)) (F2 : Fld Z h0 a1 "java/util/ArrayList" "elementData" "[Ljava/lang/Object;" (.ref ea)) (F3 : Fld Z h0 a1 "java/util/AbstractList" "modCount" "I" (.int mc)) (g1 : Z.heap.size ≤ a1) (Ee : Exa Z h0 ee "java/lang/Integer") (A1 : Arv Z h0 ea kA (.object "java/lang/Object") 33 vs .null) (hbx : ∀ i : Nat, i < Int32.toNatClampNeg 33 → ∃ y : Addr, vs.getD i .null = .ref y ∧ Exa Z Z.heap y "java/lang/Integer") (X1 : Exa Z h0 ea "[Ljava/lang/Object;") (hne : ¬ @Eq Nat ea a1) (Mo : Mi Z "[Ljava/lang/Object;" mo) :
    Con l Z (⟨"java/util/ArrayList", "add", "(Ljava/lang/Object;)Z"⟩ : MethodName) jdk_38_method_25_code 2 (Option.some FieldType.boolean) [] ({ frames := 6, cells := 1, slots := 49, locals := 111 } : Room) #[(.ref a1), (.ref ee)] h0 (Q_addG33 Z a1 mc ee ea kA vs mo h0) := by
  refine Con.of (plainFor_of_name pn_java_util_ArrayList) ?_
  intro p e s m below meth c T0 B W0
  refine Go.cast (ef_addG33 m a1 mc ee ea kA vs mo ) ?_
  have l_a1 := nlt E1.lt
  have l_ea := nlt A1.lt
  refine g_aload_n B W0 (d_jdk_38_method_25_0) rfl rfl ?_
  refine g_dup B W0 (d_jdk_38_method_25_1) rfl ?_
  obtain ⟨T101, W101, st101⟩ := x_get B W0 (host := "") (d_jdk_38_method_25_2) (Or.inl (tw hw 94 rfl)) (Via.of (tw hw 83 rfl)) F3 #[.val (.ref a1), .val (.ref ee)] [(.ref a1)]
  refine st101 _ ?_
  refine g_iconst B W101 (d_jdk_38_method_25_5) (v := 1) (by decide) ?_
  refine g_iadd B W101 (d_jdk_38_method_25_6)  ?_
  obtain ⟨T102, h102, W102, K102, R102, F102, E102, st102⟩ := x_put B W101 (d_jdk_38_method_25_7) ((tw hw 94 rfl)) (Via.of (tw hw 83 rfl)) F3 E1 (Or.inl (tw hw 22 rfl)) (tw hw 1 rfl) (ty := .int) (v := (.int (mc + 1))) (v' := (.int (mc + 1))) (by decide) rfl rfl (by omega) #[.val (.ref a1), .val (.ref ee)] []
  refine st102 _ ?_
  have f103 := F1.other R102 (Or.inr (slot_ne (Or.inl (tw hw 46 rfl)) (Or.inl (tw hw 22 rfl)) (by decide) (t := .int) (t' := .int) (by decide) (by decide)))
  have f104 := F2.other R102 (Or.inr (slot_ne (Or.inl (tw hw 25 rfl)) (Or.inl (tw hw 22 rfl)) (by decide) (t := (.array (.object "java/lang/Object"))) (t' := .int) (by decide) (by decide)))
  have s105 := K102.1
  refine g_aload_n B W102 (d_jdk_38_method_25_10) rfl rfl ?_
  refine g_aload_n B W102 (d_jdk_38_method_25_11) rfl rfl ?_
  refine g_aload_n B W102 (d_jdk_38_method_25_12) rfl rfl ?_
  obtain ⟨T106, W106, st106⟩ := x_get B W102 (host := "") (d_jdk_38_method_25_13) (Or.inl (tw hw 24 rfl)) Via.refl f104 #[.val (.ref a1), .val (.ref ee)] [(.ref ee), (.ref a1)]
  refine st106 _ ?_
  refine g_aload_n B W106 (d_jdk_38_method_25_16) rfl rfl ?_
  obtain ⟨T107, W107, st107⟩ := x_get B W106 (host := "") (d_jdk_38_method_25_17) (Or.inl (tw hw 45 rfl)) Via.refl f103 #[.val (.ref a1), .val (.ref ee)] [(.ref ea), (.ref ee), (.ref a1)]
  refine st107 _ ?_
  have f108 := (Ee.keep K102)
  have f109 := (A1.keep K102 (ninS (nne (by have q := nlt A1.lt; omega)) nin0))
  have f110 := (X1.keep K102)
  obtain ⟨T111, h111, v111, W111, Q111, st111⟩ := x_private B W107 (b := a1) [(.ref ee), (.ref ea), (.int 33)] (c_add3G33 l Z a0 hw a1 (mc + 1) ee ea kA vs mo h102 E102 f103 f104 F102 (by omega) f108 f109 hbx f110 hne Mo) E102 (d_jdk_38_method_25_20) (tw hw 95 rfl) (tw hw 96 rfl) (tw hw 98 rfl) (tw hw 97 rfl) (tw hw 2 rfl) (tw hw 99 rfl) (by decide) (lenOf pd__Ljava_lang_Object__Ljava_lang_Object_I_V rfl) #[.val (.ref a1), .val (.ref ee)] [] rfl 0 rfl (by decide) (by decide) (by decide) (by decide)
  obtain ⟨ea111, kB111, vs111, rfl, gb111, K111, E111, Fs111, Fe111, Fm111, A111, X111, vl111, O111, ag111⟩ := Q111
  have s112 := K111.1
  refine st111 _ ?_
  have l111 := nlt A111.lt
  refine g_iconst B W111 (d_jdk_38_method_25_23) (v := 1) (by decide) ?_
  exact r_n B W111 (t := .boolean) rfl (by simp) (d_jdk_38_method_25_24) (by decide) (by decide) ⟨_, _, vs111, by rw [nar_b1], by omega, (((Keep.refl h0 [a1]).trans K102 (allS (Or.inl (by simp)) all0)).trans K111 (allS (Or.inl (by simp)) all0)), E111, Fs111, Fe111, Fm111, A111, X111, vl111, O111, ag111⟩
theorem ef_addG49 (m : MethodId) (a1 : Addr) (mc : Int32) (ee : Addr) (ea : Addr) (kA : ClassId) (vs : List Value) (mo : Addr) : entryFrame m #[(.ref a1), (.ref ee)] 2 = mkF m 0 #[.val (.ref a1), .val (.ref ee)] [] := by first | (simp [entryFrame, mkF, argsToLocals, Value.category]; done) | rfl
def Q_addG49 (Z : State) (a1 : Addr) (mc : Int32) (ee : Addr) (ea : Addr) (kA : ClassId) (vs : List Value) (mo : Addr) (h0 : Heap) (v : Option Value) (h : Heap) : Prop := ∃ (ea2 : Addr) (kB : ClassId) (vs2 : List Value), v = some (.int 1) ∧ h0.size ≤ ea2 ∧ Keep h0 h [a1] ∧ Exa Z h a1 "java/util/ArrayList" ∧ Fld Z h a1 "java/util/ArrayList" "size" "I" (.int 50) ∧ Fld Z h a1 "java/util/ArrayList" "elementData" "[Ljava/lang/Object;" (.ref ea2) ∧ Fld Z h a1 "java/util/AbstractList" "modCount" "I" (.int (mc + 1)) ∧ Arv Z h ea2 kB (.object "java/lang/Object") 73 (vs2.set (Int32.toNatClampNeg 49) (.ref ee)) .null ∧ Exa Z h ea2 "[Ljava/lang/Object;" ∧ vs2.length = Int32.toNatClampNeg 73 ∧ Ovr Z kB "java/lang/Object" ∧ ∀ i : Nat, i < Int32.toNatClampNeg 49 → vs2.getD i .null = vs.getD i .null
set_option maxRecDepth 65536 in
set_option maxHeartbeats 40000000 in
theorem c_addG49 (l : Launch) (Z : State) (a0 : Array Value) (hw : ∀ d ∈ tables_1, d.before a0 Z = true) (a1 : Addr) (mc : Int32) (ee : Addr) (ea : Addr) (kA : ClassId) (vs : List Value) (mo : Addr) (h0 : Heap) (E1 : Exa Z h0 a1 "java/util/ArrayList") (F1 : Fld Z h0 a1 "java/util/ArrayList" "size" "I" (.int 49)) (F2 : Fld Z h0 a1 "java/util/ArrayList" "elementData" "[Ljava/lang/Object;" (.ref ea)) (F3 : Fld Z h0 a1 "java/util/AbstractList" "modCount" "I" (.int mc)) (g1 : Z.heap.size ≤ a1) (Ee : Exa Z h0 ee "java/lang/Integer") (A1 : Arv Z h0 ea kA (.object "java/lang/Object") 49 vs .null) (hbx : ∀ i : Nat, i < Int32.toNatClampNeg 49 → ∃ y : Addr, vs.getD i .null = .ref y ∧ Exa Z Z.heap y "java/lang/Integer") (X1 : Exa Z h0 ea "[Ljava/lang/Object;") (hne : ¬ @Eq Nat ea a1) (Mo : Mi Z "[Ljava/lang/Object;" mo) :
    Con l Z (⟨"java/util/ArrayList", "add", "(Ljava/lang/Object;)Z"⟩ : MethodName) jdk_38_method_25_code 2 (Option.some FieldType.boolean) [] ({ frames := 6, cells := 1, slots := 73, locals := 111 } : Room) #[(.ref a1), (.ref ee)] h0 (Q_addG49 Z a1 mc ee ea kA vs mo h0) := by
  refine Con.of (plainFor_of_name pn_java_util_ArrayList) ?_
  intro p e s m below meth c T0 B W0
  refine Go.cast (ef_addG49 m a1 mc ee ea kA vs mo ) ?_
  have l_a1 := nlt E1.lt
  have l_ea := nlt A1.lt
  refine g_aload_n B W0 (d_jdk_38_method_25_0) rfl rfl ?_
  refine g_dup B W0 (d_jdk_38_method_25_1) rfl ?_
  obtain ⟨T101, W101, st101⟩ := x_get B W0 (host := "") (d_jdk_38_method_25_2) (Or.inl (tw hw 94 rfl)) (Via.of (tw hw 83 rfl)) F3 #[.val (.ref a1), .val (.ref ee)] [(.ref a1)]
  refine st101 _ ?_
  refine g_iconst B W101 (d_jdk_38_method_25_5) (v := 1) (by decide) ?_
  refine g_iadd B W101 (d_jdk_38_method_25_6)  ?_
  obtain ⟨T102, h102, W102, K102, R102, F102, E102, st102⟩ := x_put B W101 (d_jdk_38_method_25_7) ((tw hw 94 rfl)) (Via.of (tw hw 83 rfl)) F3 E1 (Or.inl (tw hw 22 rfl)) (tw hw 1 rfl) (ty := .int) (v := (.int (mc + 1))) (v' := (.int (mc + 1))) (by decide) rfl rfl (by omega) #[.val (.ref a1), .val (.ref ee)] []
  refine st102 _ ?_
  have f103 := F1.other R102 (Or.inr (slot_ne (Or.inl (tw hw 46 rfl)) (Or.inl (tw hw 22 rfl)) (by decide) (t := .int) (t' := .int) (by decide) (by decide)))
  have f104 := F2.other R102 (Or.inr (slot_ne (Or.inl (tw hw 25 rfl)) (Or.inl (tw hw 22 rfl)) (by decide) (t := (.array (.object "java/lang/Object"))) (t' := .int) (by decide) (by decide)))
  have s105 := K102.1
  refine g_aload_n B W102 (d_jdk_38_method_25_10) rfl rfl ?_
  refine g_aload_n B W102 (d_jdk_38_method_25_11) rfl rfl ?_
  refine g_aload_n B W102 (d_jdk_38_method_25_12) rfl rfl ?_
  obtain ⟨T106, W106, st106⟩ := x_get B W102 (host := "") (d_jdk_38_method_25_13) (Or.inl (tw hw 24 rfl)) Via.refl f104 #[.val (.ref a1), .val (.ref ee)] [(.ref ee), (.ref a1)]
  refine st106 _ ?_
  refine g_aload_n B W106 (d_jdk_38_method_25_16) rfl rfl ?_
  obtain ⟨T107, W107, st107⟩ := x_get B W106 (host := "") (d_jdk_38_method_25_17) (Or.inl (tw hw 45 rfl)) Via.refl f103 #[.val (.ref a1), .val (.ref ee)] [(.ref ea), (.ref ee), (.ref a1)]
  refine st107 _ ?_
  have f108 := (Ee.keep K102)
  have f109 := (A1.keep K102 (ninS (nne (by have q := nlt A1.lt; omega)) nin0))
  have f110 := (X1.keep K102)
  obtain ⟨T111, h111, v111, W111, Q111, st111⟩ := x_private B W107 (b := a1) [(.ref ee), (.ref ea), (.int 49)] (c_add3G49 l Z a0 hw a1 (mc + 1) ee ea kA vs mo h102 E102 f103 f104 F102 (by omega) f108 f109 hbx f110 hne Mo) E102 (d_jdk_38_method_25_20) (tw hw 95 rfl) (tw hw 96 rfl) (tw hw 98 rfl) (tw hw 97 rfl) (tw hw 2 rfl) (tw hw 99 rfl) (by decide) (lenOf pd__Ljava_lang_Object__Ljava_lang_Object_I_V rfl) #[.val (.ref a1), .val (.ref ee)] [] rfl 0 rfl (by decide) (by decide) (by decide) (by decide)
  obtain ⟨ea111, kB111, vs111, rfl, gb111, K111, E111, Fs111, Fe111, Fm111, A111, X111, vl111, O111, ag111⟩ := Q111
  have s112 := K111.1
  refine st111 _ ?_
  have l111 := nlt A111.lt
  refine g_iconst B W111 (d_jdk_38_method_25_23) (v := 1) (by decide) ?_
  exact r_n B W111 (t := .boolean) rfl (by simp) (d_jdk_38_method_25_24) (by decide) (by decide) ⟨_, _, vs111, by rw [nar_b1], by omega, (((Keep.refl h0 [a1]).trans K102 (allS (Or.inl (by simp)) all0)).trans K111 (allS (Or.inl (by simp)) all0)), E111, Fs111, Fe111, Fm111, A111, X111, vl111, O111, ag111⟩
theorem ef_add3FS (m : MethodId) (a1 : Addr) (mc : Int32) (ee : Addr) (de : Addr) (dc : Cell) : entryFrame m #[(.ref a1), (.ref ee), (.ref de), (.int 0)] 4 = mkF m 0 #[.val (.ref a1), .val (.ref ee), .val (.ref de), .val (.int 0)] [] := by first | (simp [entryFrame, mkF, argsToLocals, Value.category]; done) | rfl
def Q_add3FS (Z : State) (a1 : Addr) (mc : Int32) (ee : Addr) (de : Addr) (dc : Cell) (h0 : Heap) (v : Option Value) (h : Heap) : Prop := ∃ (ea2 : Addr) (kB : ClassId) (vs2 : List Value), v = none ∧ h0.size ≤ ea2 ∧ Keep h0 h [a1] ∧ Exa Z h a1 "java/util/ArrayList" ∧ Fld Z h a1 "java/util/ArrayList" "size" "I" (.int 1) ∧ Fld Z h a1 "java/util/ArrayList" "elementData" "[Ljava/lang/Object;" (.ref ea2) ∧ Fld Z h a1 "java/util/AbstractList" "modCount" "I" (.int mc) ∧ Arv Z h ea2 kB (.object "java/lang/Object") 10 (vs2.set (Int32.toNatClampNeg 0) (.ref ee)) .null ∧ Exa Z h ea2 "[Ljava/lang/Object;" ∧ vs2.length = Int32.toNatClampNeg 10 ∧ Ovr Z kB "java/lang/Object" ∧ vs2 = List.replicate 10 .null
set_option maxRecDepth 65536 in
set_option maxHeartbeats 40000000 in
theorem c_add3FS (l : Launch) (Z : State) (a0 : Array Value) (hw : ∀ d ∈ tables_1, d.before a0 Z = true) (a1 : Addr) (mc : Int32) (ee : Addr) (de : Addr) (dc : Cell) (h0 : Heap) (E1 : Exa Z h0 a1 "java/util/ArrayList") (F1 : Fld Z h0 a1 "java/util/ArrayList" "size" "I" (.int 0)) (F2 : Fld Z h0 a1 "java/util/ArrayList" "elementData" "[Ljava/lang/Object;" (.ref de)) (F3 : Fld Z h0 a1 "java/util/AbstractList" "modCount" "I" (.int mc)) (g1 : Z.heap.size ≤ a1) (Ee : Exa Z h0 ee "java/util/ArrayList$SubList") (Sde : Sta Z Z.heap "java/util/ArrayList" "DEFAULTCAPACITY_EMPTY_ELEMENTDATA" "[Ljava/lang/Object;" (.ref de)) (Ade : Arr Z Z.heap de dc (.object "java/lang/Object")) (lde : dc.slots.size.toInt32 = 0) :
    Con l Z (⟨"java/util/ArrayList", "add", "(Ljava/lang/Object;[Ljava/lang/Object;I)V"⟩ : MethodName) jdk_38_method_24_code 4 (Option.none : Option FieldType) [] ({ frames := 5, cells := 1, slots := 10, locals := 96 } : Room) #[(.ref a1), (.ref ee), (.ref de), (.int 0)] h0 (Q_add3FS Z a1 mc ee de dc h0) := by
  refine Con.of (plainFor_of_name pn_java_util_ArrayList) ?_
  intro p e s m below meth c T0 B W0
  refine Go.cast (ef_add3FS m a1 mc ee de dc ) ?_
  have l_a1 := nlt E1.lt
  refine g_iload_n B W0 (d_jdk_38_method_24_0) rfl ?_
  refine g_aload_n B W0 (d_jdk_38_method_24_1) rfl rfl ?_
  refine g_alenK B W0 (d_jdk_38_method_24_2) (Ade.ext W0.old.2) lde ?_
  refine g_icmp_n B W0 (d_jdk_38_method_24_3) (XT.ii_ne_f (by decide)) ?_
  show Go p.tables e below _ T0 (mkF m 6 #[.val (.ref a1), .val (.ref ee), .val (.ref de), .val (.int 0)] [])
  refine g_aload_n B W0 (d_jdk_38_method_24_6) rfl rfl ?_
  obtain ⟨T101, h101, v101, W101, Q101, st101⟩ := x_private B W0 (b := a1) [] (c_grow0F l Z a0 hw a1 mc de dc h0 E1 F1 F2 F3 (by omega) Sde Ade lde) E1 (d_jdk_38_method_24_7) (tw hw 100 rfl) (tw hw 101 rfl) (tw hw 103 rfl) (tw hw 102 rfl) (tw hw 2 rfl) (tw hw 104 rfl) (by decide) (lenOf pd____Ljava_lang_Object_ rfl) #[.val (.ref a1), .val (.ref ee), .val (.ref de), .val (.int 0)] [] rfl 0 rfl (by decide) (by decide) (by decide) (by decide)
  obtain ⟨ea101, kB101, vs101, rfl, gb101, K101, E101, Fs101, Fe101, Fm101, A101, X101, vl101, O101, ev101⟩ := Q101
  have s102 := K101.1
  refine st101 _ ?_
  have l101 := nlt A101.lt
  refine g_astore_n B W101 (d_jdk_38_method_24_10) rfl (l' := #[.val (.ref a1), .val (.ref ee), .val (.ref ea101), .val (.int 0)]) rfl ?_
  refine g_aload_n B W101 (d_jdk_38_method_24_11) rfl rfl ?_
  refine g_iload_n B W101 (d_jdk_38_method_24_12) rfl ?_
  refine g_aload_n B W101 (d_jdk_38_method_24_13) rfl rfl ?_
  have f104 := (Ee.keep K101)
  obtain ⟨T103, h103, W103, K103, A103, st103⟩ := x_aastore B W101 (j := 0) (v := (.ref ee)) (d_jdk_38_method_24_14) A101 rfl (by decide) (by rw [vl101]; decide) rfl (fun cl Ac q => Sto.ofV Ac q O101 (Ins.of_exa f104 (tw hw 115 rfl))) (by omega) #[.val (.ref a1), .val (.ref ee), .val (.ref ea101), .val (.int 0)] []
  refine st103 _ ?_
  have s105 := K103.1
  refine g_aload_n B W103 (d_jdk_38_method_24_15) rfl rfl ?_
  refine g_iload_n B W103 (d_jdk_38_method_24_16) rfl ?_
  refine g_iconst B W103 (d_jdk_38_method_24_17) (v := 1) (by decide) ?_
  refine g_iadd B W103 (d_jdk_38_method_24_18)  ?_
  rw [show (0 + 1 : Int32) = 1 by decide]
  have f106 := (Fs101.keep K103 (ninS (nne (by have q := nlt Fs101.lt; omega)) nin0))
  have f107 := (E101.keep K103)
  obtain ⟨T108, h108, W108, K108, R108, F108, E108, st108⟩ := x_put B W103 (d_jdk_38_method_24_19) ((tw hw 45 rfl)) Via.refl f106 f107 (Or.inl (tw hw 46 rfl)) (tw hw 1 rfl) (ty := .int) (v := (.int 1)) (v' := (.int 1)) (by decide) rfl rfl (by omega) #[.val (.ref a1), .val (.ref ee), .val (.ref ea101), .val (.int 0)] []
  refine st108 _ ?_
  have f109 := (Fe101.keep K103 (ninS (nne (by have q := nlt Fe101.lt; omega)) nin0))
  have f110 := f109.other R108 (Or.inr (slot_ne (Or.inl (tw hw 25 rfl)) (Or.inl (tw hw 46 rfl)) (by decide) (t := (.array (.object "java/lang/Object"))) (t' := .int) (by decide) (by decide)))
  have f111 := (Fm101.keep K103 (ninS (nne (by have q := nlt Fm101.lt; omega)) nin0))
  have f112 := f111.other R108 (Or.inr (slot_ne (Or.inl (tw hw 22 rfl)) (Or.inl (tw hw 46 rfl)) (by decide) (t := .int) (t' := .int) (by decide) (by decide)))
  have s113 := K108.1
  have f114 := (A103.keep K108 (ninS (nne (by have q := nlt A103.lt; omega)) nin0))
  have f115 := ((X101.keep K103).keep K108)
  exact r_v B W108 (d_jdk_38_method_24_22) (by decide) (by decide) ⟨_, _, vs101, rfl, by omega, ((((Keep.refl h0 [a1]).trans K101 (allS (Or.inl (by simp)) all0)).trans K103 (allS (Or.inr (by omega)) all0)).trans K108 (allS (Or.inl (by simp)) all0)), E108, F108, f110, f112, f114, f115, vl101, O101, ev101⟩
theorem ef_add3BS (m : MethodId) (a1 : Addr) (mc : Int32) (ee : Addr) (ea : Addr) (kA : ClassId) (vs : List Value) (n : Int32) (n2 : Int32) (z : Int32) : entryFrame m #[(.ref a1), (.ref ee), (.ref ea), (.int n)] 4 = mkF m 0 #[.val (.ref a1), .val (.ref ee), .val (.ref ea), .val (.int n)] [] := by first | (simp [entryFrame, mkF, argsToLocals, Value.category]; done) | rfl
def Q_add3BS (Z : State) (a1 : Addr) (mc : Int32) (ee : Addr) (ea : Addr) (kA : ClassId) (vs : List Value) (n : Int32) (n2 : Int32) (z : Int32) (h0 : Heap) (v : Option Value) (h : Heap) : Prop := v = none ∧ Keep h0 h [a1, ea] ∧ Exa Z h a1 "java/util/ArrayList" ∧ Fld Z h a1 "java/util/ArrayList" "size" "I" (.int n2) ∧ Fld Z h a1 "java/util/ArrayList" "elementData" "[Ljava/lang/Object;" (.ref ea) ∧ Fld Z h a1 "java/util/AbstractList" "modCount" "I" (.int mc) ∧ Arv Z h ea kA (.object "java/lang/Object") z (vs.set n.toNatClampNeg (.ref ee)) .null ∧ Exa Z h ea "[Ljava/lang/Object;"
set_option maxRecDepth 65536 in
set_option maxHeartbeats 40000000 in
theorem c_add3BS (l : Launch) (Z : State) (a0 : Array Value) (hw : ∀ d ∈ tables_1, d.before a0 Z = true) (a1 : Addr) (mc : Int32) (ee : Addr) (ea : Addr) (kA : ClassId) (vs : List Value) (n : Int32) (n2 : Int32) (z : Int32) (h0 : Heap) (E1 : Exa Z h0 a1 "java/util/ArrayList") (F1 : Fld Z h0 a1 "java/util/ArrayList" "size" "I" (.int n)) (F2 : Fld Z h0 a1 "java/util/ArrayList" "elementData" "[Ljava/lang/Object;" (.ref ea)) (F3 : Fld Z h0 a1 "java/util/AbstractList" "modCount" "I" (.int mc)) (g1 : Z.heap.size ≤ a1) (Ee : Exa Z h0 ee "java/util/ArrayList$SubList") (A1 : Arv Z h0 ea kA (.object "java/lang/Object") z vs .null) (vl0 : vs.length = z.toNatClampNeg) (O1 : Ovr Z kA "java/lang/Object") (X1 : Exa Z h0 ea "[Ljava/lang/Object;") (g2 : Z.heap.size ≤ ea) (hne : ¬ @Eq Nat ea a1) (hn : ¬ n < 0 ∧ n < z) (hn2 : n + 1 = n2) :
    Con l Z (⟨"java/util/ArrayList", "add", "(Ljava/lang/Object;[Ljava/lang/Object;I)V"⟩ : MethodName) jdk_38_method_24_code 4 (Option.none : Option FieldType) [] ({ frames := 0, cells := 0, slots := 0, locals := 0 } : Room) #[(.ref a1), (.ref ee), (.ref ea), (.int n)] h0 (Q_add3BS Z a1 mc ee ea kA vs n n2 z h0) := by
  refine Con.of (plainFor_of_name pn_java_util_ArrayList) ?_
  intro p e s m below meth c T0 B W0
  refine Go.cast (ef_add3BS m a1 mc ee ea kA vs n n2 z ) ?_
  have l_a1 := nlt E1.lt
  have l_ea := nlt A1.lt
  refine g_iload_n B W0 (d_jdk_38_method_24_0) rfl ?_
  refine g_aload_n B W0 (d_jdk_38_method_24_1) rfl rfl ?_
  refine g_aalen B W0 (d_jdk_38_method_24_2) A1 ?_
  refine g_icmp_y B W0 (d_jdk_38_method_24_3) (XT.ii_ne_t (fun q => by rw [q] at hn; exact absurd hn.2 Int32.lt_irrefl)) (pc' := 11) (by decide) ?_
  show Go p.tables e below _ T0 (mkF m 11 #[.val (.ref a1), .val (.ref ee), .val (.ref ea), .val (.int n)] [])
  refine g_aload_n B W0 (d_jdk_38_method_24_11) rfl rfl ?_
  refine g_iload_n B W0 (d_jdk_38_method_24_12) rfl ?_
  refine g_aload_n B W0 (d_jdk_38_method_24_13) rfl rfl ?_
  obtain ⟨T101, h101, W101, K101, A101, st101⟩ := x_aastore B W0 (j := n) (v := (.ref ee)) (d_jdk_38_method_24_14) A1 rfl hn (own_hi hn vl0) rfl (fun cl Ac q => Sto.ofV Ac q O1 (Ins.of_exa Ee (tw hw 115 rfl))) (by omega) #[.val (.ref a1), .val (.ref ee), .val (.ref ea), .val (.int n)] []
  refine st101 _ ?_
  have s102 := K101.1
  refine g_aload_n B W101 (d_jdk_38_method_24_15) rfl rfl ?_
  refine g_iload_n B W101 (d_jdk_38_method_24_16) rfl ?_
  refine g_iconst B W101 (d_jdk_38_method_24_17) (v := 1) (by decide) ?_
  refine g_iadd B W101 (d_jdk_38_method_24_18)  ?_
  rw [hn2]
  have f103 := (F1.keep K101 (ninS (nne (by have q := nlt F1.lt; omega)) nin0))
  have f104 := (E1.keep K101)
  obtain ⟨T105, h105, W105, K105, R105, F105, E105, st105⟩ := x_put B W101 (d_jdk_38_method_24_19) ((tw hw 45 rfl)) Via.refl f103 f104 (Or.inl (tw hw 46 rfl)) (tw hw 1 rfl) (ty := .int) (v := (.int n2)) (v' := (.int n2)) (by decide) rfl rfl (by omega) #[.val (.ref a1), .val (.ref ee), .val (.ref ea), .val (.int n)] []
  refine st105 _ ?_
  have f106 := (F2.keep K101 (ninS (nne (by have q := nlt F2.lt; omega)) nin0))
  have f107 := f106.other R105 (Or.inr (slot_ne (Or.inl (tw hw 25 rfl)) (Or.inl (tw hw 46 rfl)) (by decide) (t := (.array (.object "java/lang/Object"))) (t' := .int) (by decide) (by decide)))
  have f108 := (F3.keep K101 (ninS (nne (by have q := nlt F3.lt; omega)) nin0))
  have f109 := f108.other R105 (Or.inr (slot_ne (Or.inl (tw hw 22 rfl)) (Or.inl (tw hw 46 rfl)) (by decide) (t := .int) (t' := .int) (by decide) (by decide)))
  have s110 := K105.1
  have f111 := (A101.keep K105 (ninS (nne (by have q := nlt A101.lt; omega)) nin0))
  have f112 := ((X1.keep K101).keep K105)
  exact r_v B W105 (d_jdk_38_method_24_22) (by decide) (by decide) ⟨rfl, (((Keep.refl h0 [a1, ea]).trans K101 (allS (Or.inl (by simp)) all0)).trans K105 (allS (Or.inl (by simp)) all0)), E105, F105, f107, f109, f111, f112⟩
theorem ef_addFS (m : MethodId) (a1 : Addr) (mc : Int32) (ee : Addr) (de : Addr) (dc : Cell) : entryFrame m #[(.ref a1), (.ref ee)] 2 = mkF m 0 #[.val (.ref a1), .val (.ref ee)] [] := by first | (simp [entryFrame, mkF, argsToLocals, Value.category]; done) | rfl
def Q_addFS (Z : State) (a1 : Addr) (mc : Int32) (ee : Addr) (de : Addr) (dc : Cell) (h0 : Heap) (v : Option Value) (h : Heap) : Prop := ∃ (ea2 : Addr) (kB : ClassId) (vs2 : List Value), v = some (.int 1) ∧ h0.size ≤ ea2 ∧ Keep h0 h [a1] ∧ Exa Z h a1 "java/util/ArrayList" ∧ Fld Z h a1 "java/util/ArrayList" "size" "I" (.int 1) ∧ Fld Z h a1 "java/util/ArrayList" "elementData" "[Ljava/lang/Object;" (.ref ea2) ∧ Fld Z h a1 "java/util/AbstractList" "modCount" "I" (.int (mc + 1)) ∧ Arv Z h ea2 kB (.object "java/lang/Object") 10 (vs2.set (Int32.toNatClampNeg 0) (.ref ee)) .null ∧ Exa Z h ea2 "[Ljava/lang/Object;" ∧ vs2.length = Int32.toNatClampNeg 10 ∧ Ovr Z kB "java/lang/Object" ∧ vs2 = List.replicate 10 .null
set_option maxRecDepth 65536 in
set_option maxHeartbeats 40000000 in
theorem c_addFS (l : Launch) (Z : State) (a0 : Array Value) (hw : ∀ d ∈ tables_1, d.before a0 Z = true) (a1 : Addr) (mc : Int32) (ee : Addr) (de : Addr) (dc : Cell) (h0 : Heap) (E1 : Exa Z h0 a1 "java/util/ArrayList") (F1 : Fld Z h0 a1 "java/util/ArrayList" "size" "I" (.int 0)) (F2 : Fld Z h0 a1 "java/util/ArrayList" "elementData" "[Ljava/lang/Object;" (.ref de)) (F3 : Fld Z h0 a1 "java/util/AbstractList" "modCount" "I" (.int mc)) (g1 : Z.heap.size ≤ a1) (Ee : Exa Z h0 ee "java/util/ArrayList$SubList") (Sde : Sta Z Z.heap "java/util/ArrayList" "DEFAULTCAPACITY_EMPTY_ELEMENTDATA" "[Ljava/lang/Object;" (.ref de)) (Ade : Arr Z Z.heap de dc (.object "java/lang/Object")) (lde : dc.slots.size.toInt32 = 0) :
    Con l Z (⟨"java/util/ArrayList", "add", "(Ljava/lang/Object;)Z"⟩ : MethodName) jdk_38_method_25_code 2 (Option.some FieldType.boolean) [] ({ frames := 6, cells := 1, slots := 10, locals := 111 } : Room) #[(.ref a1), (.ref ee)] h0 (Q_addFS Z a1 mc ee de dc h0) := by
  refine Con.of (plainFor_of_name pn_java_util_ArrayList) ?_
  intro p e s m below meth c T0 B W0
  refine Go.cast (ef_addFS m a1 mc ee de dc ) ?_
  have l_a1 := nlt E1.lt
  refine g_aload_n B W0 (d_jdk_38_method_25_0) rfl rfl ?_
  refine g_dup B W0 (d_jdk_38_method_25_1) rfl ?_
  obtain ⟨T101, W101, st101⟩ := x_get B W0 (host := "") (d_jdk_38_method_25_2) (Or.inl (tw hw 94 rfl)) (Via.of (tw hw 83 rfl)) F3 #[.val (.ref a1), .val (.ref ee)] [(.ref a1)]
  refine st101 _ ?_
  refine g_iconst B W101 (d_jdk_38_method_25_5) (v := 1) (by decide) ?_
  refine g_iadd B W101 (d_jdk_38_method_25_6)  ?_
  obtain ⟨T102, h102, W102, K102, R102, F102, E102, st102⟩ := x_put B W101 (d_jdk_38_method_25_7) ((tw hw 94 rfl)) (Via.of (tw hw 83 rfl)) F3 E1 (Or.inl (tw hw 22 rfl)) (tw hw 1 rfl) (ty := .int) (v := (.int (mc + 1))) (v' := (.int (mc + 1))) (by decide) rfl rfl (by omega) #[.val (.ref a1), .val (.ref ee)] []
  refine st102 _ ?_
  have f103 := F1.other R102 (Or.inr (slot_ne (Or.inl (tw hw 46 rfl)) (Or.inl (tw hw 22 rfl)) (by decide) (t := .int) (t' := .int) (by decide) (by decide)))
  have f104 := F2.other R102 (Or.inr (slot_ne (Or.inl (tw hw 25 rfl)) (Or.inl (tw hw 22 rfl)) (by decide) (t := (.array (.object "java/lang/Object"))) (t' := .int) (by decide) (by decide)))
  have s105 := K102.1
  refine g_aload_n B W102 (d_jdk_38_method_25_10) rfl rfl ?_
  refine g_aload_n B W102 (d_jdk_38_method_25_11) rfl rfl ?_
  refine g_aload_n B W102 (d_jdk_38_method_25_12) rfl rfl ?_
  obtain ⟨T106, W106, st106⟩ := x_get B W102 (host := "") (d_jdk_38_method_25_13) (Or.inl (tw hw 24 rfl)) Via.refl f104 #[.val (.ref a1), .val (.ref ee)] [(.ref ee), (.ref a1)]
  refine st106 _ ?_
  refine g_aload_n B W106 (d_jdk_38_method_25_16) rfl rfl ?_
  obtain ⟨T107, W107, st107⟩ := x_get B W106 (host := "") (d_jdk_38_method_25_17) (Or.inl (tw hw 45 rfl)) Via.refl f103 #[.val (.ref a1), .val (.ref ee)] [(.ref de), (.ref ee), (.ref a1)]
  refine st107 _ ?_
  have f108 := (Ee.keep K102)
  obtain ⟨T109, h109, v109, W109, Q109, st109⟩ := x_private B W107 (b := a1) [(.ref ee), (.ref de), (.int 0)] (c_add3FS l Z a0 hw a1 (mc + 1) ee de dc h102 E102 f103 f104 F102 (by omega) f108 Sde Ade lde) E102 (d_jdk_38_method_25_20) (tw hw 95 rfl) (tw hw 96 rfl) (tw hw 98 rfl) (tw hw 97 rfl) (tw hw 2 rfl) (tw hw 99 rfl) (by decide) (lenOf pd__Ljava_lang_Object__Ljava_lang_Object_I_V rfl) #[.val (.ref a1), .val (.ref ee)] [] rfl 0 rfl (by decide) (by decide) (by decide) (by decide)
  obtain ⟨ea109, kB109, vs109, rfl, gb109, K109, E109, Fs109, Fe109, Fm109, A109, X109, vl109, O109, ev109⟩ := Q109
  have s110 := K109.1
  refine st109 _ ?_
  have l109 := nlt A109.lt
  refine g_iconst B W109 (d_jdk_38_method_25_23) (v := 1) (by decide) ?_
  exact r_n B W109 (t := .boolean) rfl (by simp) (d_jdk_38_method_25_24) (by decide) (by decide) ⟨_, _, vs109, by rw [nar_b1], by omega, (((Keep.refl h0 [a1]).trans K102 (allS (Or.inl (by simp)) all0)).trans K109 (allS (Or.inl (by simp)) all0)), E109, Fs109, Fe109, Fm109, A109, X109, vl109, O109, ev109⟩
theorem ef_addBS (m : MethodId) (a1 : Addr) (mc : Int32) (ee : Addr) (ea : Addr) (kA : ClassId) (vs : List Value) (n : Int32) (n2 : Int32) (z : Int32) : entryFrame m #[(.ref a1), (.ref ee)] 2 = mkF m 0 #[.val (.ref a1), .val (.ref ee)] [] := by first | (simp [entryFrame, mkF, argsToLocals, Value.category]; done) | rfl
def Q_addBS (Z : State) (a1 : Addr) (mc : Int32) (ee : Addr) (ea : Addr) (kA : ClassId) (vs : List Value) (n : Int32) (n2 : Int32) (z : Int32) (h0 : Heap) (v : Option Value) (h : Heap) : Prop := v = some (.int 1) ∧ Keep h0 h [a1, ea] ∧ Exa Z h a1 "java/util/ArrayList" ∧ Fld Z h a1 "java/util/ArrayList" "size" "I" (.int n2) ∧ Fld Z h a1 "java/util/ArrayList" "elementData" "[Ljava/lang/Object;" (.ref ea) ∧ Fld Z h a1 "java/util/AbstractList" "modCount" "I" (.int (mc + 1)) ∧ Arv Z h ea kA (.object "java/lang/Object") z (vs.set n.toNatClampNeg (.ref ee)) .null ∧ Exa Z h ea "[Ljava/lang/Object;"
set_option maxRecDepth 65536 in
set_option maxHeartbeats 40000000 in
theorem c_addBS (l : Launch) (Z : State) (a0 : Array Value) (hw : ∀ d ∈ tables_1, d.before a0 Z = true) (a1 : Addr) (mc : Int32) (ee : Addr) (ea : Addr) (kA : ClassId) (vs : List Value) (n : Int32) (n2 : Int32) (z : Int32) (h0 : Heap) (E1 : Exa Z h0 a1 "java/util/ArrayList") (F1 : Fld Z h0 a1 "java/util/ArrayList" "size" "I" (.int n)) (F2 : Fld Z h0 a1 "java/util/ArrayList" "elementData" "[Ljava/lang/Object;" (.ref ea)) (F3 : Fld Z h0 a1 "java/util/AbstractList" "modCount" "I" (.int mc)) (g1 : Z.heap.size ≤ a1) (Ee : Exa Z h0 ee "java/util/ArrayList$SubList") (A1 : Arv Z h0 ea kA (.object "java/lang/Object") z vs .null) (vl0 : vs.length = z.toNatClampNeg) (O1 : Ovr Z kA "java/lang/Object") (X1 : Exa Z h0 ea "[Ljava/lang/Object;") (g2 : Z.heap.size ≤ ea) (hne : ¬ @Eq Nat ea a1) (hn : ¬ n < 0 ∧ n < z) (hn2 : n + 1 = n2) :
    Con l Z (⟨"java/util/ArrayList", "add", "(Ljava/lang/Object;)Z"⟩ : MethodName) jdk_38_method_25_code 2 (Option.some FieldType.boolean) [] ({ frames := 1, cells := 0, slots := 0, locals := 20 } : Room) #[(.ref a1), (.ref ee)] h0 (Q_addBS Z a1 mc ee ea kA vs n n2 z h0) := by
  refine Con.of (plainFor_of_name pn_java_util_ArrayList) ?_
  intro p e s m below meth c T0 B W0
  refine Go.cast (ef_addBS m a1 mc ee ea kA vs n n2 z ) ?_
  have l_a1 := nlt E1.lt
  have l_ea := nlt A1.lt
  refine g_aload_n B W0 (d_jdk_38_method_25_0) rfl rfl ?_
  refine g_dup B W0 (d_jdk_38_method_25_1) rfl ?_
  obtain ⟨T101, W101, st101⟩ := x_get B W0 (host := "") (d_jdk_38_method_25_2) (Or.inl (tw hw 94 rfl)) (Via.of (tw hw 83 rfl)) F3 #[.val (.ref a1), .val (.ref ee)] [(.ref a1)]
  refine st101 _ ?_
  refine g_iconst B W101 (d_jdk_38_method_25_5) (v := 1) (by decide) ?_
  refine g_iadd B W101 (d_jdk_38_method_25_6)  ?_
  obtain ⟨T102, h102, W102, K102, R102, F102, E102, st102⟩ := x_put B W101 (d_jdk_38_method_25_7) ((tw hw 94 rfl)) (Via.of (tw hw 83 rfl)) F3 E1 (Or.inl (tw hw 22 rfl)) (tw hw 1 rfl) (ty := .int) (v := (.int (mc + 1))) (v' := (.int (mc + 1))) (by decide) rfl rfl (by omega) #[.val (.ref a1), .val (.ref ee)] []
  refine st102 _ ?_
  have f103 := F1.other R102 (Or.inr (slot_ne (Or.inl (tw hw 46 rfl)) (Or.inl (tw hw 22 rfl)) (by decide) (t := .int) (t' := .int) (by decide) (by decide)))
  have f104 := F2.other R102 (Or.inr (slot_ne (Or.inl (tw hw 25 rfl)) (Or.inl (tw hw 22 rfl)) (by decide) (t := (.array (.object "java/lang/Object"))) (t' := .int) (by decide) (by decide)))
  have s105 := K102.1
  refine g_aload_n B W102 (d_jdk_38_method_25_10) rfl rfl ?_
  refine g_aload_n B W102 (d_jdk_38_method_25_11) rfl rfl ?_
  refine g_aload_n B W102 (d_jdk_38_method_25_12) rfl rfl ?_
  obtain ⟨T106, W106, st106⟩ := x_get B W102 (host := "") (d_jdk_38_method_25_13) (Or.inl (tw hw 24 rfl)) Via.refl f104 #[.val (.ref a1), .val (.ref ee)] [(.ref ee), (.ref a1)]
  refine st106 _ ?_
  refine g_aload_n B W106 (d_jdk_38_method_25_16) rfl rfl ?_
  obtain ⟨T107, W107, st107⟩ := x_get B W106 (host := "") (d_jdk_38_method_25_17) (Or.inl (tw hw 45 rfl)) Via.refl f103 #[.val (.ref a1), .val (.ref ee)] [(.ref ea), (.ref ee), (.ref a1)]
  refine st107 _ ?_
  have f108 := (Ee.keep K102)
  have f109 := (A1.keep K102 (ninS (nne (by have q := nlt A1.lt; omega)) nin0))
  have f110 := (X1.keep K102)
  obtain ⟨T111, h111, v111, W111, Q111, st111⟩ := x_private B W107 (b := a1) [(.ref ee), (.ref ea), (.int n)] (c_add3BS l Z a0 hw a1 (mc + 1) ee ea kA vs n n2 z h102 E102 f103 f104 F102 (by omega) f108 f109 vl0 O1 f110 g2 hne hn hn2) E102 (d_jdk_38_method_25_20) (tw hw 95 rfl) (tw hw 96 rfl) (tw hw 98 rfl) (tw hw 97 rfl) (tw hw 2 rfl) (tw hw 99 rfl) (by decide) (lenOf pd__Ljava_lang_Object__Ljava_lang_Object_I_V rfl) #[.val (.ref a1), .val (.ref ee)] [] rfl 0 rfl (by decide) (by decide) (by decide) (by decide)
  obtain ⟨rfl, K111, E111, Fs111, Fe111, Fm111, A111, X111⟩ := Q111
  have s112 := K111.1
  refine st111 _ ?_
  refine g_iconst B W111 (d_jdk_38_method_25_23) (v := 1) (by decide) ?_
  exact r_n B W111 (t := .boolean) rfl (by simp) (d_jdk_38_method_25_24) (by decide) (by decide) ⟨by rw [nar_b1], (((Keep.refl h0 [a1, ea]).trans K102 (allS (Or.inl (by simp)) all0)).trans K111 (allS (Or.inl (by simp)) (allS (Or.inl (by simp)) all0))), E111, Fs111, Fe111, Fm111, A111, X111⟩
theorem ef_fill0 (m : MethodId) (a1 : Addr) (n : Int32) (ca : Addr) (cl : Cell) (de : Addr) (dc : Cell) (mo : Addr) : entryFrame m #[(.ref a1), (.int n), (.int 0)] 3 = mkF m 0 #[.val (.ref a1), .val (.int n), .val (.int 0)] [] := by first | (simp [entryFrame, mkF, argsToLocals, Value.category]; done) | rfl
def Q_fill0 (Z : State) (a1 : Addr) (n : Int32) (ca : Addr) (cl : Cell) (de : Addr) (dc : Cell) (mo : Addr) (h0 : Heap) (v : Option Value) (h : Heap) : Prop := v = none ∧ LI Z h a1 de (mn 8 n)
set_option maxRecDepth 65536 in
set_option maxHeartbeats 40000000 in
theorem c_fill0 (l : Launch) (Z : State) (a0 : Array Value) (hw : ∀ d ∈ tables_1, d.before a0 Z = true) (a1 : Addr) (n : Int32) (ca : Addr) (cl : Cell) (de : Addr) (dc : Cell) (mo : Addr) (h0 : Heap) (P0 : LI Z h0 a1 de (mn 0 n)) (g1 : Z.heap.size ≤ a1) (Sh : Sta Z Z.heap "java/lang/Integer$IntegerCache" "high" "I" (.int 127)) (Sc : Sta Z Z.heap "java/lang/Integer$IntegerCache" "cache" "[Ljava/lang/Integer;" (.ref ca)) (Bx : Bxs Z ca cl "java/lang/Integer" "I" 256 (fun j => .int (j - 128))) (Sde : Sta Z Z.heap "java/util/ArrayList" "DEFAULTCAPACITY_EMPTY_ELEMENTDATA" "[Ljava/lang/Object;" (.ref de)) (Ade : Arr Z Z.heap de dc (.object "java/lang/Object")) (lde : dc.slots.size.toInt32 = 0) (Mo : Mi Z "[Ljava/lang/Object;" mo) :
    Con l Z (⟨"com/example/presswright/presswright/publishing/PagingPagesPinLaw", "fill8", "(Ljava/util/ArrayList;II)V"⟩ : MethodName) method_2_code 3 (Option.none : Option FieldType) [] ({ frames := 7, cells := 1, slots := 10, locals := 124 } : Room) #[(.ref a1), (.int n), (.int 0)] h0 (Q_fill0 Z a1 n ca cl de dc mo h0) := by
  refine Con.of (plainFor_of_name pn_com_example_presswright_presswright_publishing_PagingPagesPinLaw) ?_
  intro p e s m below meth c T0 B W0
  refine Go.cast (ef_fill0 m a1 n ca cl de dc mo ) ?_
  refine g_iload_n B W0 (d_method_2_0) rfl ?_
  refine g_iload_n B W0 (d_method_2_1) rfl ?_
  suffices qj101 : ∀ (T' : State) (h' : Heap), Wk p l e ({ frames := 7, cells := 1, slots := 10, locals := 124 } : Room) s m #[(.ref a1), (.int n), (.int 0)] below meth c Z T' h' 1 10 → (LI Z h' a1 de (mn 1 n)) → Go p.tables e below (Jvm.OwnK.Out Z s (Q_fill0 Z a1 n ca cl de dc mo h0) ({ frames := 7, cells := 1, slots := 10, locals := 124 } : Room).cells ({ frames := 7, cells := 1, slots := 10, locals := 124 } : Room).slots) T' (mkF m 14 #[.val (.ref a1), .val (.int n), .val (.int 0)] []) by
    by_cases hc102 : 0 < n
    · skip
      refine g_icmp_n B W0 (d_method_2_2) (XT.ii_ge_f hc102) ?_
      show Go p.tables e below _ T0 (mkF m 5 #[.val (.ref a1), .val (.int n), .val (.int 0)] [])
      have P103 := P0
      rw [own_mn1 hc102] at P103
      have z103 := W0.size
      obtain ⟨E103, Fs103, Fm103, ⟨-, Fe103⟩ | ⟨q, -⟩⟩ := P103
      rotate_left
      · exact absurd q (by decide)
      have la103 := nlt E103.lt
      refine g_aload_n B W0 (d_method_2_5) rfl rfl ?_
      refine g_iload_n B W0 (d_method_2_6) rfl ?_
      obtain ⟨T104, h104, v104, W104, Q104, st104⟩ := x_static B W0 [(.int 0)] (c_valueOf l Z a0 hw 0 ca cl h0 (by decide) Sh Sc Bx) (d_method_2_7) (tw hw 152 rfl) (tw hw 153 rfl) (tw hw 154 rfl) (tw hw 155 rfl) (by decide) (lenOf pd__I_Ljava_lang_Integer_ rfl) #[.val (.ref a1), .val (.int n), .val (.int 0)] [(.ref a1)] rfl 1 rfl (by decide) (by decide) (by decide) (by decide)
      obtain ⟨b104, rfl, rfl, E104, F104⟩ := Q104
      refine st104 _ ?_
      obtain ⟨T105, h105, v105, W105, Q105, st105⟩ := x_virtual B W104 (b := a1) [(.ref b104)] (c_addFI l Z a0 hw a1 0 b104 de dc h0 E103 Fs103 Fe103 Fm103 (by omega) (E104.ext W104.old.2) Sde Ade lde) E103 (d_method_2_10) (tw hw 159 rfl) (tw hw 160 rfl) (tw hw 161 rfl) (tw hw 90 rfl) (tw hw 2 rfl) (tw hw 93 rfl) (by decide) (lenOf pd__Ljava_lang_Object__Z rfl) #[.val (.ref a1), .val (.int n), .val (.int 0)] [] rfl 0 rfl (by decide) (by decide) (by decide) (by decide)
      obtain ⟨ea105, kB105, vs105, rfl, gb105, K105, E105, Fs105, Fe105, Fm105, A105, X105, vl105, O105, ev105⟩ := Q105
      have s106 := K105.1
      refine st105 _ ?_
      rw [show (0 + 1 : Int32) = 1 by decide] at Fm105
      have l105 := nlt A105.lt
      show Go p.tables e below _ T105 (mkF m 13 #[.val (.ref a1), .val (.int n), .val (.int 0)] [(.int 1)])
      refine g_pop B W105 (d_method_2_13) rfl ?_
      exact qj101 _ _ (Wk.more W105 (by decide) (by decide)) ((own_mn2 hc102 (show (0 + 1 : Int32) = 1 by decide) (by decide)).symm ▸ LI.mk (c := 1) (cap := 10) (by decide) (by decide) E105 Fs105 Fe105 Fm105 A105 (by rw [List.length_set]; exact vl105) O105 X105 (by omega) (by omega) (Bxl.push Bxl.nil (by rw [vl105]; decide) (by decide) (by decide) E104 F104))
    · skip
      refine g_icmp_y B W0 (d_method_2_2) (XT.ii_ge_t hc102) (pc' := 14) (by decide) ?_
      show Go p.tables e below _ T0 (mkF m 14 #[.val (.ref a1), .val (.int n), .val (.int 0)] [])
      exact qj101 _ _ (Wk.more W0 (by decide) (by decide)) (own_mn3 (j := 1) hc102 (by decide) ▸ P0)
  intro T101 h101 W101 p101
  show Go p.tables e below _ T101 (mkF m 14 #[.val (.ref a1), .val (.int n), .val (.int 0)] [])
  refine g_iload_n B W101 (d_method_2_14) rfl ?_
  refine g_iconst B W101 (d_method_2_15) (v := 1) (by decide) ?_
  refine g_iadd B W101 (d_method_2_16)  ?_
  rw [show (0 + 1 : Int32) = 1 by decide]
  refine g_iload_n B W101 (d_method_2_17) rfl ?_
  suffices qj107 : ∀ (T' : State) (h' : Heap), Wk p l e ({ frames := 7, cells := 1, slots := 10, locals := 124 } : Room) s m #[(.ref a1), (.int n), (.int 0)] below meth c Z T' h' 1 10 → (LI Z h' a1 de (mn 2 n)) → Go p.tables e below (Jvm.OwnK.Out Z s (Q_fill0 Z a1 n ca cl de dc mo h0) ({ frames := 7, cells := 1, slots := 10, locals := 124 } : Room).cells ({ frames := 7, cells := 1, slots := 10, locals := 124 } : Room).slots) T' (mkF m 32 #[.val (.ref a1), .val (.int n), .val (.int 0)] []) by
    by_cases hc108 : 1 < n
    · skip
      refine g_icmp_n B W101 (d_method_2_18) (XT.ii_ge_f hc108) ?_
      show Go p.tables e below _ T101 (mkF m 21 #[.val (.ref a1), .val (.int n), .val (.int 0)] [])
      have P109 := p101
      rw [own_mn1 hc108] at P109
      have z109 := W101.size
      obtain ⟨E109, Fs109, Fm109, ⟨q, -⟩ | ⟨-, ea109, kA109, vs1_, Fe109, A109, vl0, O109, X109, gz1, ne1, bx1⟩⟩ := P109
      · exact absurd q (by decide)
      rw [show capI 1 = 10 by decide] at A109 vl0
      have l109 := nlt A109.lt
      have la109 := nlt E109.lt
      refine g_aload_n B W101 (d_method_2_21) rfl rfl ?_
      refine g_iload_n B W101 (d_method_2_22) rfl ?_
      refine g_iconst B W101 (d_method_2_23) (v := 1) (by decide) ?_
      refine g_iadd B W101 (d_method_2_24)  ?_
      rw [show (0 + 1 : Int32) = 1 by decide]
      obtain ⟨T110, h110, v110, W110, Q110, st110⟩ := x_static B W101 [(.int 1)] (c_valueOf l Z a0 hw 1 ca cl h101 (by decide) Sh Sc Bx) (d_method_2_25) (tw hw 152 rfl) (tw hw 153 rfl) (tw hw 154 rfl) (tw hw 155 rfl) (by decide) (lenOf pd__I_Ljava_lang_Integer_ rfl) #[.val (.ref a1), .val (.int n), .val (.int 0)] [(.ref a1)] rfl 1 rfl (by decide) (by decide) (by decide) (by decide)
      obtain ⟨b110, rfl, rfl, E110, F110⟩ := Q110
      refine st110 _ ?_
      obtain ⟨T111, h111, v111, W111, Q111, st111⟩ := x_virtual B W110 (b := a1) [(.ref b110)] (c_addBI l Z a0 hw a1 1 b110 ea109 kA109 vs1_ 1 2 10 h101 E109 Fs109 Fe109 Fm109 (by omega) (E110.ext W110.old.2) A109 vl0 O109 X109 (by omega) ne1 (by decide) (by decide)) E109 (d_method_2_28) (tw hw 159 rfl) (tw hw 160 rfl) (tw hw 161 rfl) (tw hw 90 rfl) (tw hw 2 rfl) (tw hw 93 rfl) (by decide) (lenOf pd__Ljava_lang_Object__Z rfl) #[.val (.ref a1), .val (.int n), .val (.int 0)] [] rfl 0 rfl (by decide) (by decide) (by decide) (by decide)
      obtain ⟨rfl, K111, E111, Fs111, Fe111, Fm111, A111, X111⟩ := Q111
      have s112 := K111.1
      refine st111 _ ?_
      rw [show (1 + 1 : Int32) = 2 by decide] at Fm111
      show Go p.tables e below _ T111 (mkF m 31 #[.val (.ref a1), .val (.int n), .val (.int 0)] [(.int 1)])
      refine g_pop B W111 (d_method_2_31) rfl ?_
      exact qj107 _ _ (Wk.more W111 (by decide) (by decide)) ((own_mn2 hc108 (show (1 + 1 : Int32) = 2 by decide) (by decide)).symm ▸ LI.mk (c := 2) (cap := 10) (by decide) (by decide) E111 Fs111 Fe111 Fm111 A111 (by rw [List.length_set]; exact vl0) O109 X111 gz1 ne1 (Bxl.push bx1 (by rw [vl0]; decide) (by decide) (by decide) E110 F110))
    · skip
      refine g_icmp_y B W101 (d_method_2_18) (XT.ii_ge_t hc108) (pc' := 32) (by decide) ?_
      show Go p.tables e below _ T101 (mkF m 32 #[.val (.ref a1), .val (.int n), .val (.int 0)] [])
      exact qj107 _ _ (Wk.more W101 (by decide) (by decide)) (own_mn3 (j := 2) hc108 (by decide) ▸ p101)
  intro T107 h107 W107 p107
  show Go p.tables e below _ T107 (mkF m 32 #[.val (.ref a1), .val (.int n), .val (.int 0)] [])
  refine g_iload_n B W107 (d_method_2_32) rfl ?_
  refine g_iconst B W107 (d_method_2_33) (v := 2) (by decide) ?_
  refine g_iadd B W107 (d_method_2_34)  ?_
  rw [show (0 + 2 : Int32) = 2 by decide]
  refine g_iload_n B W107 (d_method_2_35) rfl ?_
  suffices qj113 : ∀ (T' : State) (h' : Heap), Wk p l e ({ frames := 7, cells := 1, slots := 10, locals := 124 } : Room) s m #[(.ref a1), (.int n), (.int 0)] below meth c Z T' h' 1 10 → (LI Z h' a1 de (mn 3 n)) → Go p.tables e below (Jvm.OwnK.Out Z s (Q_fill0 Z a1 n ca cl de dc mo h0) ({ frames := 7, cells := 1, slots := 10, locals := 124 } : Room).cells ({ frames := 7, cells := 1, slots := 10, locals := 124 } : Room).slots) T' (mkF m 50 #[.val (.ref a1), .val (.int n), .val (.int 0)] []) by
    by_cases hc114 : 2 < n
    · skip
      refine g_icmp_n B W107 (d_method_2_36) (XT.ii_ge_f hc114) ?_
      show Go p.tables e below _ T107 (mkF m 39 #[.val (.ref a1), .val (.int n), .val (.int 0)] [])
      have P115 := p107
      rw [own_mn1 hc114] at P115
      have z115 := W107.size
      obtain ⟨E115, Fs115, Fm115, ⟨q, -⟩ | ⟨-, ea115, kA115, vs2_, Fe115, A115, vl0, O115, X115, gz2, ne2, bx2⟩⟩ := P115
      · exact absurd q (by decide)
      rw [show capI 2 = 10 by decide] at A115 vl0
      have l115 := nlt A115.lt
      have la115 := nlt E115.lt
      refine g_aload_n B W107 (d_method_2_39) rfl rfl ?_
      refine g_iload_n B W107 (d_method_2_40) rfl ?_
      refine g_iconst B W107 (d_method_2_41) (v := 2) (by decide) ?_
      refine g_iadd B W107 (d_method_2_42)  ?_
      rw [show (0 + 2 : Int32) = 2 by decide]
      obtain ⟨T116, h116, v116, W116, Q116, st116⟩ := x_static B W107 [(.int 2)] (c_valueOf l Z a0 hw 2 ca cl h107 (by decide) Sh Sc Bx) (d_method_2_43) (tw hw 152 rfl) (tw hw 153 rfl) (tw hw 154 rfl) (tw hw 155 rfl) (by decide) (lenOf pd__I_Ljava_lang_Integer_ rfl) #[.val (.ref a1), .val (.int n), .val (.int 0)] [(.ref a1)] rfl 1 rfl (by decide) (by decide) (by decide) (by decide)
      obtain ⟨b116, rfl, rfl, E116, F116⟩ := Q116
      refine st116 _ ?_
      obtain ⟨T117, h117, v117, W117, Q117, st117⟩ := x_virtual B W116 (b := a1) [(.ref b116)] (c_addBI l Z a0 hw a1 2 b116 ea115 kA115 vs2_ 2 3 10 h107 E115 Fs115 Fe115 Fm115 (by omega) (E116.ext W116.old.2) A115 vl0 O115 X115 (by omega) ne2 (by decide) (by decide)) E115 (d_method_2_46) (tw hw 159 rfl) (tw hw 160 rfl) (tw hw 161 rfl) (tw hw 90 rfl) (tw hw 2 rfl) (tw hw 93 rfl) (by decide) (lenOf pd__Ljava_lang_Object__Z rfl) #[.val (.ref a1), .val (.int n), .val (.int 0)] [] rfl 0 rfl (by decide) (by decide) (by decide) (by decide)
      obtain ⟨rfl, K117, E117, Fs117, Fe117, Fm117, A117, X117⟩ := Q117
      have s118 := K117.1
      refine st117 _ ?_
      rw [show (2 + 1 : Int32) = 3 by decide] at Fm117
      show Go p.tables e below _ T117 (mkF m 49 #[.val (.ref a1), .val (.int n), .val (.int 0)] [(.int 1)])
      refine g_pop B W117 (d_method_2_49) rfl ?_
      exact qj113 _ _ (Wk.more W117 (by decide) (by decide)) ((own_mn2 hc114 (show (2 + 1 : Int32) = 3 by decide) (by decide)).symm ▸ LI.mk (c := 3) (cap := 10) (by decide) (by decide) E117 Fs117 Fe117 Fm117 A117 (by rw [List.length_set]; exact vl0) O115 X117 gz2 ne2 (Bxl.push bx2 (by rw [vl0]; decide) (by decide) (by decide) E116 F116))
    · skip
      refine g_icmp_y B W107 (d_method_2_36) (XT.ii_ge_t hc114) (pc' := 50) (by decide) ?_
      show Go p.tables e below _ T107 (mkF m 50 #[.val (.ref a1), .val (.int n), .val (.int 0)] [])
      exact qj113 _ _ (Wk.more W107 (by decide) (by decide)) (own_mn3 (j := 3) hc114 (by decide) ▸ p107)
  intro T113 h113 W113 p113
  show Go p.tables e below _ T113 (mkF m 50 #[.val (.ref a1), .val (.int n), .val (.int 0)] [])
  refine g_iload_n B W113 (d_method_2_50) rfl ?_
  refine g_iconst B W113 (d_method_2_51) (v := 3) (by decide) ?_
  refine g_iadd B W113 (d_method_2_52)  ?_
  rw [show (0 + 3 : Int32) = 3 by decide]
  refine g_iload_n B W113 (d_method_2_53) rfl ?_
  suffices qj119 : ∀ (T' : State) (h' : Heap), Wk p l e ({ frames := 7, cells := 1, slots := 10, locals := 124 } : Room) s m #[(.ref a1), (.int n), (.int 0)] below meth c Z T' h' 1 10 → (LI Z h' a1 de (mn 4 n)) → Go p.tables e below (Jvm.OwnK.Out Z s (Q_fill0 Z a1 n ca cl de dc mo h0) ({ frames := 7, cells := 1, slots := 10, locals := 124 } : Room).cells ({ frames := 7, cells := 1, slots := 10, locals := 124 } : Room).slots) T' (mkF m 68 #[.val (.ref a1), .val (.int n), .val (.int 0)] []) by
    by_cases hc120 : 3 < n
    · skip
      refine g_icmp_n B W113 (d_method_2_54) (XT.ii_ge_f hc120) ?_
      show Go p.tables e below _ T113 (mkF m 57 #[.val (.ref a1), .val (.int n), .val (.int 0)] [])
      have P121 := p113
      rw [own_mn1 hc120] at P121
      have z121 := W113.size
      obtain ⟨E121, Fs121, Fm121, ⟨q, -⟩ | ⟨-, ea121, kA121, vs3_, Fe121, A121, vl0, O121, X121, gz3, ne3, bx3⟩⟩ := P121
      · exact absurd q (by decide)
      rw [show capI 3 = 10 by decide] at A121 vl0
      have l121 := nlt A121.lt
      have la121 := nlt E121.lt
      refine g_aload_n B W113 (d_method_2_57) rfl rfl ?_
      refine g_iload_n B W113 (d_method_2_58) rfl ?_
      refine g_iconst B W113 (d_method_2_59) (v := 3) (by decide) ?_
      refine g_iadd B W113 (d_method_2_60)  ?_
      rw [show (0 + 3 : Int32) = 3 by decide]
      obtain ⟨T122, h122, v122, W122, Q122, st122⟩ := x_static B W113 [(.int 3)] (c_valueOf l Z a0 hw 3 ca cl h113 (by decide) Sh Sc Bx) (d_method_2_61) (tw hw 152 rfl) (tw hw 153 rfl) (tw hw 154 rfl) (tw hw 155 rfl) (by decide) (lenOf pd__I_Ljava_lang_Integer_ rfl) #[.val (.ref a1), .val (.int n), .val (.int 0)] [(.ref a1)] rfl 1 rfl (by decide) (by decide) (by decide) (by decide)
      obtain ⟨b122, rfl, rfl, E122, F122⟩ := Q122
      refine st122 _ ?_
      obtain ⟨T123, h123, v123, W123, Q123, st123⟩ := x_virtual B W122 (b := a1) [(.ref b122)] (c_addBI l Z a0 hw a1 3 b122 ea121 kA121 vs3_ 3 4 10 h113 E121 Fs121 Fe121 Fm121 (by omega) (E122.ext W122.old.2) A121 vl0 O121 X121 (by omega) ne3 (by decide) (by decide)) E121 (d_method_2_64) (tw hw 159 rfl) (tw hw 160 rfl) (tw hw 161 rfl) (tw hw 90 rfl) (tw hw 2 rfl) (tw hw 93 rfl) (by decide) (lenOf pd__Ljava_lang_Object__Z rfl) #[.val (.ref a1), .val (.int n), .val (.int 0)] [] rfl 0 rfl (by decide) (by decide) (by decide) (by decide)
      obtain ⟨rfl, K123, E123, Fs123, Fe123, Fm123, A123, X123⟩ := Q123
      have s124 := K123.1
      refine st123 _ ?_
      rw [show (3 + 1 : Int32) = 4 by decide] at Fm123
      show Go p.tables e below _ T123 (mkF m 67 #[.val (.ref a1), .val (.int n), .val (.int 0)] [(.int 1)])
      refine g_pop B W123 (d_method_2_67) rfl ?_
      exact qj119 _ _ (Wk.more W123 (by decide) (by decide)) ((own_mn2 hc120 (show (3 + 1 : Int32) = 4 by decide) (by decide)).symm ▸ LI.mk (c := 4) (cap := 10) (by decide) (by decide) E123 Fs123 Fe123 Fm123 A123 (by rw [List.length_set]; exact vl0) O121 X123 gz3 ne3 (Bxl.push bx3 (by rw [vl0]; decide) (by decide) (by decide) E122 F122))
    · skip
      refine g_icmp_y B W113 (d_method_2_54) (XT.ii_ge_t hc120) (pc' := 68) (by decide) ?_
      show Go p.tables e below _ T113 (mkF m 68 #[.val (.ref a1), .val (.int n), .val (.int 0)] [])
      exact qj119 _ _ (Wk.more W113 (by decide) (by decide)) (own_mn3 (j := 4) hc120 (by decide) ▸ p113)
  intro T119 h119 W119 p119
  show Go p.tables e below _ T119 (mkF m 68 #[.val (.ref a1), .val (.int n), .val (.int 0)] [])
  refine g_iload_n B W119 (d_method_2_68) rfl ?_
  refine g_iconst B W119 (d_method_2_69) (v := 4) (by decide) ?_
  refine g_iadd B W119 (d_method_2_70)  ?_
  rw [show (0 + 4 : Int32) = 4 by decide]
  refine g_iload_n B W119 (d_method_2_71) rfl ?_
  suffices qj125 : ∀ (T' : State) (h' : Heap), Wk p l e ({ frames := 7, cells := 1, slots := 10, locals := 124 } : Room) s m #[(.ref a1), (.int n), (.int 0)] below meth c Z T' h' 1 10 → (LI Z h' a1 de (mn 5 n)) → Go p.tables e below (Jvm.OwnK.Out Z s (Q_fill0 Z a1 n ca cl de dc mo h0) ({ frames := 7, cells := 1, slots := 10, locals := 124 } : Room).cells ({ frames := 7, cells := 1, slots := 10, locals := 124 } : Room).slots) T' (mkF m 86 #[.val (.ref a1), .val (.int n), .val (.int 0)] []) by
    by_cases hc126 : 4 < n
    · skip
      refine g_icmp_n B W119 (d_method_2_72) (XT.ii_ge_f hc126) ?_
      show Go p.tables e below _ T119 (mkF m 75 #[.val (.ref a1), .val (.int n), .val (.int 0)] [])
      have P127 := p119
      rw [own_mn1 hc126] at P127
      have z127 := W119.size
      obtain ⟨E127, Fs127, Fm127, ⟨q, -⟩ | ⟨-, ea127, kA127, vs4_, Fe127, A127, vl0, O127, X127, gz4, ne4, bx4⟩⟩ := P127
      · exact absurd q (by decide)
      rw [show capI 4 = 10 by decide] at A127 vl0
      have l127 := nlt A127.lt
      have la127 := nlt E127.lt
      refine g_aload_n B W119 (d_method_2_75) rfl rfl ?_
      refine g_iload_n B W119 (d_method_2_76) rfl ?_
      refine g_iconst B W119 (d_method_2_77) (v := 4) (by decide) ?_
      refine g_iadd B W119 (d_method_2_78)  ?_
      rw [show (0 + 4 : Int32) = 4 by decide]
      obtain ⟨T128, h128, v128, W128, Q128, st128⟩ := x_static B W119 [(.int 4)] (c_valueOf l Z a0 hw 4 ca cl h119 (by decide) Sh Sc Bx) (d_method_2_79) (tw hw 152 rfl) (tw hw 153 rfl) (tw hw 154 rfl) (tw hw 155 rfl) (by decide) (lenOf pd__I_Ljava_lang_Integer_ rfl) #[.val (.ref a1), .val (.int n), .val (.int 0)] [(.ref a1)] rfl 1 rfl (by decide) (by decide) (by decide) (by decide)
      obtain ⟨b128, rfl, rfl, E128, F128⟩ := Q128
      refine st128 _ ?_
      obtain ⟨T129, h129, v129, W129, Q129, st129⟩ := x_virtual B W128 (b := a1) [(.ref b128)] (c_addBI l Z a0 hw a1 4 b128 ea127 kA127 vs4_ 4 5 10 h119 E127 Fs127 Fe127 Fm127 (by omega) (E128.ext W128.old.2) A127 vl0 O127 X127 (by omega) ne4 (by decide) (by decide)) E127 (d_method_2_82) (tw hw 159 rfl) (tw hw 160 rfl) (tw hw 161 rfl) (tw hw 90 rfl) (tw hw 2 rfl) (tw hw 93 rfl) (by decide) (lenOf pd__Ljava_lang_Object__Z rfl) #[.val (.ref a1), .val (.int n), .val (.int 0)] [] rfl 0 rfl (by decide) (by decide) (by decide) (by decide)
      obtain ⟨rfl, K129, E129, Fs129, Fe129, Fm129, A129, X129⟩ := Q129
      have s130 := K129.1
      refine st129 _ ?_
      rw [show (4 + 1 : Int32) = 5 by decide] at Fm129
      show Go p.tables e below _ T129 (mkF m 85 #[.val (.ref a1), .val (.int n), .val (.int 0)] [(.int 1)])
      refine g_pop B W129 (d_method_2_85) rfl ?_
      exact qj125 _ _ (Wk.more W129 (by decide) (by decide)) ((own_mn2 hc126 (show (4 + 1 : Int32) = 5 by decide) (by decide)).symm ▸ LI.mk (c := 5) (cap := 10) (by decide) (by decide) E129 Fs129 Fe129 Fm129 A129 (by rw [List.length_set]; exact vl0) O127 X129 gz4 ne4 (Bxl.push bx4 (by rw [vl0]; decide) (by decide) (by decide) E128 F128))
    · skip
      refine g_icmp_y B W119 (d_method_2_72) (XT.ii_ge_t hc126) (pc' := 86) (by decide) ?_
      show Go p.tables e below _ T119 (mkF m 86 #[.val (.ref a1), .val (.int n), .val (.int 0)] [])
      exact qj125 _ _ (Wk.more W119 (by decide) (by decide)) (own_mn3 (j := 5) hc126 (by decide) ▸ p119)
  intro T125 h125 W125 p125
  show Go p.tables e below _ T125 (mkF m 86 #[.val (.ref a1), .val (.int n), .val (.int 0)] [])
  refine g_iload_n B W125 (d_method_2_86) rfl ?_
  refine g_iconst B W125 (d_method_2_87) (v := 5) (by decide) ?_
  refine g_iadd B W125 (d_method_2_88)  ?_
  rw [show (0 + 5 : Int32) = 5 by decide]
  refine g_iload_n B W125 (d_method_2_89) rfl ?_
  suffices qj131 : ∀ (T' : State) (h' : Heap), Wk p l e ({ frames := 7, cells := 1, slots := 10, locals := 124 } : Room) s m #[(.ref a1), (.int n), (.int 0)] below meth c Z T' h' 1 10 → (LI Z h' a1 de (mn 6 n)) → Go p.tables e below (Jvm.OwnK.Out Z s (Q_fill0 Z a1 n ca cl de dc mo h0) ({ frames := 7, cells := 1, slots := 10, locals := 124 } : Room).cells ({ frames := 7, cells := 1, slots := 10, locals := 124 } : Room).slots) T' (mkF m 104 #[.val (.ref a1), .val (.int n), .val (.int 0)] []) by
    by_cases hc132 : 5 < n
    · skip
      refine g_icmp_n B W125 (d_method_2_90) (XT.ii_ge_f hc132) ?_
      show Go p.tables e below _ T125 (mkF m 93 #[.val (.ref a1), .val (.int n), .val (.int 0)] [])
      have P133 := p125
      rw [own_mn1 hc132] at P133
      have z133 := W125.size
      obtain ⟨E133, Fs133, Fm133, ⟨q, -⟩ | ⟨-, ea133, kA133, vs5_, Fe133, A133, vl0, O133, X133, gz5, ne5, bx5⟩⟩ := P133
      · exact absurd q (by decide)
      rw [show capI 5 = 10 by decide] at A133 vl0
      have l133 := nlt A133.lt
      have la133 := nlt E133.lt
      refine g_aload_n B W125 (d_method_2_93) rfl rfl ?_
      refine g_iload_n B W125 (d_method_2_94) rfl ?_
      refine g_iconst B W125 (d_method_2_95) (v := 5) (by decide) ?_
      refine g_iadd B W125 (d_method_2_96)  ?_
      rw [show (0 + 5 : Int32) = 5 by decide]
      obtain ⟨T134, h134, v134, W134, Q134, st134⟩ := x_static B W125 [(.int 5)] (c_valueOf l Z a0 hw 5 ca cl h125 (by decide) Sh Sc Bx) (d_method_2_97) (tw hw 152 rfl) (tw hw 153 rfl) (tw hw 154 rfl) (tw hw 155 rfl) (by decide) (lenOf pd__I_Ljava_lang_Integer_ rfl) #[.val (.ref a1), .val (.int n), .val (.int 0)] [(.ref a1)] rfl 1 rfl (by decide) (by decide) (by decide) (by decide)
      obtain ⟨b134, rfl, rfl, E134, F134⟩ := Q134
      refine st134 _ ?_
      obtain ⟨T135, h135, v135, W135, Q135, st135⟩ := x_virtual B W134 (b := a1) [(.ref b134)] (c_addBI l Z a0 hw a1 5 b134 ea133 kA133 vs5_ 5 6 10 h125 E133 Fs133 Fe133 Fm133 (by omega) (E134.ext W134.old.2) A133 vl0 O133 X133 (by omega) ne5 (by decide) (by decide)) E133 (d_method_2_100) (tw hw 159 rfl) (tw hw 160 rfl) (tw hw 161 rfl) (tw hw 90 rfl) (tw hw 2 rfl) (tw hw 93 rfl) (by decide) (lenOf pd__Ljava_lang_Object__Z rfl) #[.val (.ref a1), .val (.int n), .val (.int 0)] [] rfl 0 rfl (by decide) (by decide) (by decide) (by decide)
      obtain ⟨rfl, K135, E135, Fs135, Fe135, Fm135, A135, X135⟩ := Q135
      have s136 := K135.1
      refine st135 _ ?_
      rw [show (5 + 1 : Int32) = 6 by decide] at Fm135
      show Go p.tables e below _ T135 (mkF m 103 #[.val (.ref a1), .val (.int n), .val (.int 0)] [(.int 1)])
      refine g_pop B W135 (d_method_2_103) rfl ?_
      exact qj131 _ _ (Wk.more W135 (by decide) (by decide)) ((own_mn2 hc132 (show (5 + 1 : Int32) = 6 by decide) (by decide)).symm ▸ LI.mk (c := 6) (cap := 10) (by decide) (by decide) E135 Fs135 Fe135 Fm135 A135 (by rw [List.length_set]; exact vl0) O133 X135 gz5 ne5 (Bxl.push bx5 (by rw [vl0]; decide) (by decide) (by decide) E134 F134))
    · skip
      refine g_icmp_y B W125 (d_method_2_90) (XT.ii_ge_t hc132) (pc' := 104) (by decide) ?_
      show Go p.tables e below _ T125 (mkF m 104 #[.val (.ref a1), .val (.int n), .val (.int 0)] [])
      exact qj131 _ _ (Wk.more W125 (by decide) (by decide)) (own_mn3 (j := 6) hc132 (by decide) ▸ p125)
  intro T131 h131 W131 p131
  show Go p.tables e below _ T131 (mkF m 104 #[.val (.ref a1), .val (.int n), .val (.int 0)] [])
  refine g_iload_n B W131 (d_method_2_104) rfl ?_
  refine g_bipush B W131 (d_method_2_105) (v := 6) (by decide) ?_
  refine g_iadd B W131 (d_method_2_107)  ?_
  rw [show (0 + 6 : Int32) = 6 by decide]
  refine g_iload_n B W131 (d_method_2_108) rfl ?_
  suffices qj137 : ∀ (T' : State) (h' : Heap), Wk p l e ({ frames := 7, cells := 1, slots := 10, locals := 124 } : Room) s m #[(.ref a1), (.int n), (.int 0)] below meth c Z T' h' 1 10 → (LI Z h' a1 de (mn 7 n)) → Go p.tables e below (Jvm.OwnK.Out Z s (Q_fill0 Z a1 n ca cl de dc mo h0) ({ frames := 7, cells := 1, slots := 10, locals := 124 } : Room).cells ({ frames := 7, cells := 1, slots := 10, locals := 124 } : Room).slots) T' (mkF m 124 #[.val (.ref a1), .val (.int n), .val (.int 0)] []) by
    by_cases hc138 : 6 < n
    · skip
      refine g_icmp_n B W131 (d_method_2_109) (XT.ii_ge_f hc138) ?_
      show Go p.tables e below _ T131 (mkF m 112 #[.val (.ref a1), .val (.int n), .val (.int 0)] [])
      have P139 := p131
      rw [own_mn1 hc138] at P139
      have z139 := W131.size
      obtain ⟨E139, Fs139, Fm139, ⟨q, -⟩ | ⟨-, ea139, kA139, vs6_, Fe139, A139, vl0, O139, X139, gz6, ne6, bx6⟩⟩ := P139
      · exact absurd q (by decide)
      rw [show capI 6 = 10 by decide] at A139 vl0
      have l139 := nlt A139.lt
      have la139 := nlt E139.lt
      refine g_aload_n B W131 (d_method_2_112) rfl rfl ?_
      refine g_iload_n B W131 (d_method_2_113) rfl ?_
      refine g_bipush B W131 (d_method_2_114) (v := 6) (by decide) ?_
      refine g_iadd B W131 (d_method_2_116)  ?_
      rw [show (0 + 6 : Int32) = 6 by decide]
      obtain ⟨T140, h140, v140, W140, Q140, st140⟩ := x_static B W131 [(.int 6)] (c_valueOf l Z a0 hw 6 ca cl h131 (by decide) Sh Sc Bx) (d_method_2_117) (tw hw 152 rfl) (tw hw 153 rfl) (tw hw 154 rfl) (tw hw 155 rfl) (by decide) (lenOf pd__I_Ljava_lang_Integer_ rfl) #[.val (.ref a1), .val (.int n), .val (.int 0)] [(.ref a1)] rfl 1 rfl (by decide) (by decide) (by decide) (by decide)
      obtain ⟨b140, rfl, rfl, E140, F140⟩ := Q140
      refine st140 _ ?_
      obtain ⟨T141, h141, v141, W141, Q141, st141⟩ := x_virtual B W140 (b := a1) [(.ref b140)] (c_addBI l Z a0 hw a1 6 b140 ea139 kA139 vs6_ 6 7 10 h131 E139 Fs139 Fe139 Fm139 (by omega) (E140.ext W140.old.2) A139 vl0 O139 X139 (by omega) ne6 (by decide) (by decide)) E139 (d_method_2_120) (tw hw 159 rfl) (tw hw 160 rfl) (tw hw 161 rfl) (tw hw 90 rfl) (tw hw 2 rfl) (tw hw 93 rfl) (by decide) (lenOf pd__Ljava_lang_Object__Z rfl) #[.val (.ref a1), .val (.int n), .val (.int 0)] [] rfl 0 rfl (by decide) (by decide) (by decide) (by decide)
      obtain ⟨rfl, K141, E141, Fs141, Fe141, Fm141, A141, X141⟩ := Q141
      have s142 := K141.1
      refine st141 _ ?_
      rw [show (6 + 1 : Int32) = 7 by decide] at Fm141
      show Go p.tables e below _ T141 (mkF m 123 #[.val (.ref a1), .val (.int n), .val (.int 0)] [(.int 1)])
      refine g_pop B W141 (d_method_2_123) rfl ?_
      exact qj137 _ _ (Wk.more W141 (by decide) (by decide)) ((own_mn2 hc138 (show (6 + 1 : Int32) = 7 by decide) (by decide)).symm ▸ LI.mk (c := 7) (cap := 10) (by decide) (by decide) E141 Fs141 Fe141 Fm141 A141 (by rw [List.length_set]; exact vl0) O139 X141 gz6 ne6 (Bxl.push bx6 (by rw [vl0]; decide) (by decide) (by decide) E140 F140))
    · skip
      refine g_icmp_y B W131 (d_method_2_109) (XT.ii_ge_t hc138) (pc' := 124) (by decide) ?_
      show Go p.tables e below _ T131 (mkF m 124 #[.val (.ref a1), .val (.int n), .val (.int 0)] [])
      exact qj137 _ _ (Wk.more W131 (by decide) (by decide)) (own_mn3 (j := 7) hc138 (by decide) ▸ p131)
  intro T137 h137 W137 p137
  show Go p.tables e below _ T137 (mkF m 124 #[.val (.ref a1), .val (.int n), .val (.int 0)] [])
  refine g_iload_n B W137 (d_method_2_124) rfl ?_
  refine g_bipush B W137 (d_method_2_125) (v := 7) (by decide) ?_
  refine g_iadd B W137 (d_method_2_127)  ?_
  rw [show (0 + 7 : Int32) = 7 by decide]
  refine g_iload_n B W137 (d_method_2_128) rfl ?_
  suffices qj143 : ∀ (T' : State) (h' : Heap), Wk p l e ({ frames := 7, cells := 1, slots := 10, locals := 124 } : Room) s m #[(.ref a1), (.int n), (.int 0)] below meth c Z T' h' 1 10 → (LI Z h' a1 de (mn 8 n)) → Go p.tables e below (Jvm.OwnK.Out Z s (Q_fill0 Z a1 n ca cl de dc mo h0) ({ frames := 7, cells := 1, slots := 10, locals := 124 } : Room).cells ({ frames := 7, cells := 1, slots := 10, locals := 124 } : Room).slots) T' (mkF m 144 #[.val (.ref a1), .val (.int n), .val (.int 0)] []) by
    by_cases hc144 : 7 < n
    · skip
      refine g_icmp_n B W137 (d_method_2_129) (XT.ii_ge_f hc144) ?_
      show Go p.tables e below _ T137 (mkF m 132 #[.val (.ref a1), .val (.int n), .val (.int 0)] [])
      have P145 := p137
      rw [own_mn1 hc144] at P145
      have z145 := W137.size
      obtain ⟨E145, Fs145, Fm145, ⟨q, -⟩ | ⟨-, ea145, kA145, vs7_, Fe145, A145, vl0, O145, X145, gz7, ne7, bx7⟩⟩ := P145
      · exact absurd q (by decide)
      rw [show capI 7 = 10 by decide] at A145 vl0
      have l145 := nlt A145.lt
      have la145 := nlt E145.lt
      refine g_aload_n B W137 (d_method_2_132) rfl rfl ?_
      refine g_iload_n B W137 (d_method_2_133) rfl ?_
      refine g_bipush B W137 (d_method_2_134) (v := 7) (by decide) ?_
      refine g_iadd B W137 (d_method_2_136)  ?_
      rw [show (0 + 7 : Int32) = 7 by decide]
      obtain ⟨T146, h146, v146, W146, Q146, st146⟩ := x_static B W137 [(.int 7)] (c_valueOf l Z a0 hw 7 ca cl h137 (by decide) Sh Sc Bx) (d_method_2_137) (tw hw 152 rfl) (tw hw 153 rfl) (tw hw 154 rfl) (tw hw 155 rfl) (by decide) (lenOf pd__I_Ljava_lang_Integer_ rfl) #[.val (.ref a1), .val (.int n), .val (.int 0)] [(.ref a1)] rfl 1 rfl (by decide) (by decide) (by decide) (by decide)
      obtain ⟨b146, rfl, rfl, E146, F146⟩ := Q146
      refine st146 _ ?_
      obtain ⟨T147, h147, v147, W147, Q147, st147⟩ := x_virtual B W146 (b := a1) [(.ref b146)] (c_addBI l Z a0 hw a1 7 b146 ea145 kA145 vs7_ 7 8 10 h137 E145 Fs145 Fe145 Fm145 (by omega) (E146.ext W146.old.2) A145 vl0 O145 X145 (by omega) ne7 (by decide) (by decide)) E145 (d_method_2_140) (tw hw 159 rfl) (tw hw 160 rfl) (tw hw 161 rfl) (tw hw 90 rfl) (tw hw 2 rfl) (tw hw 93 rfl) (by decide) (lenOf pd__Ljava_lang_Object__Z rfl) #[.val (.ref a1), .val (.int n), .val (.int 0)] [] rfl 0 rfl (by decide) (by decide) (by decide) (by decide)
      obtain ⟨rfl, K147, E147, Fs147, Fe147, Fm147, A147, X147⟩ := Q147
      have s148 := K147.1
      refine st147 _ ?_
      rw [show (7 + 1 : Int32) = 8 by decide] at Fm147
      show Go p.tables e below _ T147 (mkF m 143 #[.val (.ref a1), .val (.int n), .val (.int 0)] [(.int 1)])
      refine g_pop B W147 (d_method_2_143) rfl ?_
      exact qj143 _ _ (Wk.more W147 (by decide) (by decide)) ((own_mn2 hc144 (show (7 + 1 : Int32) = 8 by decide) (by decide)).symm ▸ LI.mk (c := 8) (cap := 10) (by decide) (by decide) E147 Fs147 Fe147 Fm147 A147 (by rw [List.length_set]; exact vl0) O145 X147 gz7 ne7 (Bxl.push bx7 (by rw [vl0]; decide) (by decide) (by decide) E146 F146))
    · skip
      refine g_icmp_y B W137 (d_method_2_129) (XT.ii_ge_t hc144) (pc' := 144) (by decide) ?_
      show Go p.tables e below _ T137 (mkF m 144 #[.val (.ref a1), .val (.int n), .val (.int 0)] [])
      exact qj143 _ _ (Wk.more W137 (by decide) (by decide)) (own_mn3 (j := 8) hc144 (by decide) ▸ p137)
  intro T143 h143 W143 p143
  show Go p.tables e below _ T143 (mkF m 144 #[.val (.ref a1), .val (.int n), .val (.int 0)] [])
  exact r_v B W143 (d_method_2_144) (by decide) (by decide) ⟨rfl, p143⟩
theorem ef_fill8 (m : MethodId) (a1 : Addr) (n : Int32) (ca : Addr) (cl : Cell) (de : Addr) (dc : Cell) (mo : Addr) : entryFrame m #[(.ref a1), (.int n), (.int 8)] 3 = mkF m 0 #[.val (.ref a1), .val (.int n), .val (.int 8)] [] := by first | (simp [entryFrame, mkF, argsToLocals, Value.category]; done) | rfl
def Q_fill8 (Z : State) (a1 : Addr) (n : Int32) (ca : Addr) (cl : Cell) (de : Addr) (dc : Cell) (mo : Addr) (h0 : Heap) (v : Option Value) (h : Heap) : Prop := v = none ∧ LI Z h a1 de (mn 16 n)
set_option maxRecDepth 65536 in
set_option maxHeartbeats 40000000 in
theorem c_fill8 (l : Launch) (Z : State) (a0 : Array Value) (hw : ∀ d ∈ tables_1, d.before a0 Z = true) (a1 : Addr) (n : Int32) (ca : Addr) (cl : Cell) (de : Addr) (dc : Cell) (mo : Addr) (h0 : Heap) (P0 : LI Z h0 a1 de (mn 8 n)) (g1 : Z.heap.size ≤ a1) (Sh : Sta Z Z.heap "java/lang/Integer$IntegerCache" "high" "I" (.int 127)) (Sc : Sta Z Z.heap "java/lang/Integer$IntegerCache" "cache" "[Ljava/lang/Integer;" (.ref ca)) (Bx : Bxs Z ca cl "java/lang/Integer" "I" 256 (fun j => .int (j - 128))) (Sde : Sta Z Z.heap "java/util/ArrayList" "DEFAULTCAPACITY_EMPTY_ELEMENTDATA" "[Ljava/lang/Object;" (.ref de)) (Ade : Arr Z Z.heap de dc (.object "java/lang/Object")) (lde : dc.slots.size.toInt32 = 0) (Mo : Mi Z "[Ljava/lang/Object;" mo) :
    Con l Z (⟨"com/example/presswright/presswright/publishing/PagingPagesPinLaw", "fill8", "(Ljava/util/ArrayList;II)V"⟩ : MethodName) method_2_code 3 (Option.none : Option FieldType) [] ({ frames := 7, cells := 2, slots := 37, locals := 124 } : Room) #[(.ref a1), (.int n), (.int 8)] h0 (Q_fill8 Z a1 n ca cl de dc mo h0) := by
  refine Con.of (plainFor_of_name pn_com_example_presswright_presswright_publishing_PagingPagesPinLaw) ?_
  intro p e s m below meth c T0 B W0
  refine Go.cast (ef_fill8 m a1 n ca cl de dc mo ) ?_
  refine g_iload_n B W0 (d_method_2_0) rfl ?_
  refine g_iload_n B W0 (d_method_2_1) rfl ?_
  suffices qj101 : ∀ (T' : State) (h' : Heap), Wk p l e ({ frames := 7, cells := 2, slots := 37, locals := 124 } : Room) s m #[(.ref a1), (.int n), (.int 8)] below meth c Z T' h' 0 0 → (LI Z h' a1 de (mn 9 n)) → Go p.tables e below (Jvm.OwnK.Out Z s (Q_fill8 Z a1 n ca cl de dc mo h0) ({ frames := 7, cells := 2, slots := 37, locals := 124 } : Room).cells ({ frames := 7, cells := 2, slots := 37, locals := 124 } : Room).slots) T' (mkF m 14 #[.val (.ref a1), .val (.int n), .val (.int 8)] []) by
    by_cases hc102 : 8 < n
    · skip
      refine g_icmp_n B W0 (d_method_2_2) (XT.ii_ge_f hc102) ?_
      show Go p.tables e below _ T0 (mkF m 5 #[.val (.ref a1), .val (.int n), .val (.int 8)] [])
      have P103 := P0
      rw [own_mn1 hc102] at P103
      have z103 := W0.size
      obtain ⟨E103, Fs103, Fm103, ⟨q, -⟩ | ⟨-, ea103, kA103, vs8_, Fe103, A103, vl0, O103, X103, gz8, ne8, bx8⟩⟩ := P103
      · exact absurd q (by decide)
      rw [show capI 8 = 10 by decide] at A103 vl0
      have l103 := nlt A103.lt
      have la103 := nlt E103.lt
      refine g_aload_n B W0 (d_method_2_5) rfl rfl ?_
      refine g_iload_n B W0 (d_method_2_6) rfl ?_
      obtain ⟨T104, h104, v104, W104, Q104, st104⟩ := x_static B W0 [(.int 8)] (c_valueOf l Z a0 hw 8 ca cl h0 (by decide) Sh Sc Bx) (d_method_2_7) (tw hw 152 rfl) (tw hw 153 rfl) (tw hw 154 rfl) (tw hw 155 rfl) (by decide) (lenOf pd__I_Ljava_lang_Integer_ rfl) #[.val (.ref a1), .val (.int n), .val (.int 8)] [(.ref a1)] rfl 1 rfl (by decide) (by decide) (by decide) (by decide)
      obtain ⟨b104, rfl, rfl, E104, F104⟩ := Q104
      refine st104 _ ?_
      obtain ⟨T105, h105, v105, W105, Q105, st105⟩ := x_virtual B W104 (b := a1) [(.ref b104)] (c_addBI l Z a0 hw a1 8 b104 ea103 kA103 vs8_ 8 9 10 h0 E103 Fs103 Fe103 Fm103 (by omega) (E104.ext W104.old.2) A103 vl0 O103 X103 (by omega) ne8 (by decide) (by decide)) E103 (d_method_2_10) (tw hw 159 rfl) (tw hw 160 rfl) (tw hw 161 rfl) (tw hw 90 rfl) (tw hw 2 rfl) (tw hw 93 rfl) (by decide) (lenOf pd__Ljava_lang_Object__Z rfl) #[.val (.ref a1), .val (.int n), .val (.int 8)] [] rfl 0 rfl (by decide) (by decide) (by decide) (by decide)
      obtain ⟨rfl, K105, E105, Fs105, Fe105, Fm105, A105, X105⟩ := Q105
      have s106 := K105.1
      refine st105 _ ?_
      rw [show (8 + 1 : Int32) = 9 by decide] at Fm105
      show Go p.tables e below _ T105 (mkF m 13 #[.val (.ref a1), .val (.int n), .val (.int 8)] [(.int 1)])
      refine g_pop B W105 (d_method_2_13) rfl ?_
      exact qj101 _ _ (Wk.more W105 (by decide) (by decide)) ((own_mn2 hc102 (show (8 + 1 : Int32) = 9 by decide) (by decide)).symm ▸ LI.mk (c := 9) (cap := 10) (by decide) (by decide) E105 Fs105 Fe105 Fm105 A105 (by rw [List.length_set]; exact vl0) O103 X105 gz8 ne8 (Bxl.push bx8 (by rw [vl0]; decide) (by decide) (by decide) E104 F104))
    · skip
      refine g_icmp_y B W0 (d_method_2_2) (XT.ii_ge_t hc102) (pc' := 14) (by decide) ?_
      show Go p.tables e below _ T0 (mkF m 14 #[.val (.ref a1), .val (.int n), .val (.int 8)] [])
      exact qj101 _ _ (Wk.more W0 (by decide) (by decide)) (own_mn3 (j := 9) hc102 (by decide) ▸ P0)
  intro T101 h101 W101 p101
  show Go p.tables e below _ T101 (mkF m 14 #[.val (.ref a1), .val (.int n), .val (.int 8)] [])
  refine g_iload_n B W101 (d_method_2_14) rfl ?_
  refine g_iconst B W101 (d_method_2_15) (v := 1) (by decide) ?_
  refine g_iadd B W101 (d_method_2_16)  ?_
  rw [show (8 + 1 : Int32) = 9 by decide]
  refine g_iload_n B W101 (d_method_2_17) rfl ?_
  suffices qj107 : ∀ (T' : State) (h' : Heap), Wk p l e ({ frames := 7, cells := 2, slots := 37, locals := 124 } : Room) s m #[(.ref a1), (.int n), (.int 8)] below meth c Z T' h' 0 0 → (LI Z h' a1 de (mn 10 n)) → Go p.tables e below (Jvm.OwnK.Out Z s (Q_fill8 Z a1 n ca cl de dc mo h0) ({ frames := 7, cells := 2, slots := 37, locals := 124 } : Room).cells ({ frames := 7, cells := 2, slots := 37, locals := 124 } : Room).slots) T' (mkF m 32 #[.val (.ref a1), .val (.int n), .val (.int 8)] []) by
    by_cases hc108 : 9 < n
    · skip
      refine g_icmp_n B W101 (d_method_2_18) (XT.ii_ge_f hc108) ?_
      show Go p.tables e below _ T101 (mkF m 21 #[.val (.ref a1), .val (.int n), .val (.int 8)] [])
      have P109 := p101
      rw [own_mn1 hc108] at P109
      have z109 := W101.size
      obtain ⟨E109, Fs109, Fm109, ⟨q, -⟩ | ⟨-, ea109, kA109, vs9_, Fe109, A109, vl0, O109, X109, gz9, ne9, bx9⟩⟩ := P109
      · exact absurd q (by decide)
      rw [show capI 9 = 10 by decide] at A109 vl0
      have l109 := nlt A109.lt
      have la109 := nlt E109.lt
      refine g_aload_n B W101 (d_method_2_21) rfl rfl ?_
      refine g_iload_n B W101 (d_method_2_22) rfl ?_
      refine g_iconst B W101 (d_method_2_23) (v := 1) (by decide) ?_
      refine g_iadd B W101 (d_method_2_24)  ?_
      rw [show (8 + 1 : Int32) = 9 by decide]
      obtain ⟨T110, h110, v110, W110, Q110, st110⟩ := x_static B W101 [(.int 9)] (c_valueOf l Z a0 hw 9 ca cl h101 (by decide) Sh Sc Bx) (d_method_2_25) (tw hw 152 rfl) (tw hw 153 rfl) (tw hw 154 rfl) (tw hw 155 rfl) (by decide) (lenOf pd__I_Ljava_lang_Integer_ rfl) #[.val (.ref a1), .val (.int n), .val (.int 8)] [(.ref a1)] rfl 1 rfl (by decide) (by decide) (by decide) (by decide)
      obtain ⟨b110, rfl, rfl, E110, F110⟩ := Q110
      refine st110 _ ?_
      obtain ⟨T111, h111, v111, W111, Q111, st111⟩ := x_virtual B W110 (b := a1) [(.ref b110)] (c_addBI l Z a0 hw a1 9 b110 ea109 kA109 vs9_ 9 10 10 h101 E109 Fs109 Fe109 Fm109 (by omega) (E110.ext W110.old.2) A109 vl0 O109 X109 (by omega) ne9 (by decide) (by decide)) E109 (d_method_2_28) (tw hw 159 rfl) (tw hw 160 rfl) (tw hw 161 rfl) (tw hw 90 rfl) (tw hw 2 rfl) (tw hw 93 rfl) (by decide) (lenOf pd__Ljava_lang_Object__Z rfl) #[.val (.ref a1), .val (.int n), .val (.int 8)] [] rfl 0 rfl (by decide) (by decide) (by decide) (by decide)
      obtain ⟨rfl, K111, E111, Fs111, Fe111, Fm111, A111, X111⟩ := Q111
      have s112 := K111.1
      refine st111 _ ?_
      rw [show (9 + 1 : Int32) = 10 by decide] at Fm111
      show Go p.tables e below _ T111 (mkF m 31 #[.val (.ref a1), .val (.int n), .val (.int 8)] [(.int 1)])
      refine g_pop B W111 (d_method_2_31) rfl ?_
      exact qj107 _ _ (Wk.more W111 (by decide) (by decide)) ((own_mn2 hc108 (show (9 + 1 : Int32) = 10 by decide) (by decide)).symm ▸ LI.mk (c := 10) (cap := 10) (by decide) (by decide) E111 Fs111 Fe111 Fm111 A111 (by rw [List.length_set]; exact vl0) O109 X111 gz9 ne9 (Bxl.push bx9 (by rw [vl0]; decide) (by decide) (by decide) E110 F110))
    · skip
      refine g_icmp_y B W101 (d_method_2_18) (XT.ii_ge_t hc108) (pc' := 32) (by decide) ?_
      show Go p.tables e below _ T101 (mkF m 32 #[.val (.ref a1), .val (.int n), .val (.int 8)] [])
      exact qj107 _ _ (Wk.more W101 (by decide) (by decide)) (own_mn3 (j := 10) hc108 (by decide) ▸ p101)
  intro T107 h107 W107 p107
  show Go p.tables e below _ T107 (mkF m 32 #[.val (.ref a1), .val (.int n), .val (.int 8)] [])
  refine g_iload_n B W107 (d_method_2_32) rfl ?_
  refine g_iconst B W107 (d_method_2_33) (v := 2) (by decide) ?_
  refine g_iadd B W107 (d_method_2_34)  ?_
  rw [show (8 + 2 : Int32) = 10 by decide]
  refine g_iload_n B W107 (d_method_2_35) rfl ?_
  suffices qj113 : ∀ (T' : State) (h' : Heap), Wk p l e ({ frames := 7, cells := 2, slots := 37, locals := 124 } : Room) s m #[(.ref a1), (.int n), (.int 8)] below meth c Z T' h' 1 15 → (LI Z h' a1 de (mn 11 n)) → Go p.tables e below (Jvm.OwnK.Out Z s (Q_fill8 Z a1 n ca cl de dc mo h0) ({ frames := 7, cells := 2, slots := 37, locals := 124 } : Room).cells ({ frames := 7, cells := 2, slots := 37, locals := 124 } : Room).slots) T' (mkF m 50 #[.val (.ref a1), .val (.int n), .val (.int 8)] []) by
    by_cases hc114 : 10 < n
    · skip
      refine g_icmp_n B W107 (d_method_2_36) (XT.ii_ge_f hc114) ?_
      show Go p.tables e below _ T107 (mkF m 39 #[.val (.ref a1), .val (.int n), .val (.int 8)] [])
      have P115 := p107
      rw [own_mn1 hc114] at P115
      have z115 := W107.size
      obtain ⟨E115, Fs115, Fm115, ⟨q, -⟩ | ⟨-, ea115, kA115, vs10_, Fe115, A115, vl0, O115, X115, gz10, ne10, bx10⟩⟩ := P115
      · exact absurd q (by decide)
      rw [show capI 10 = 10 by decide] at A115 vl0
      have l115 := nlt A115.lt
      have la115 := nlt E115.lt
      refine g_aload_n B W107 (d_method_2_39) rfl rfl ?_
      refine g_iload_n B W107 (d_method_2_40) rfl ?_
      refine g_iconst B W107 (d_method_2_41) (v := 2) (by decide) ?_
      refine g_iadd B W107 (d_method_2_42)  ?_
      rw [show (8 + 2 : Int32) = 10 by decide]
      obtain ⟨T116, h116, v116, W116, Q116, st116⟩ := x_static B W107 [(.int 10)] (c_valueOf l Z a0 hw 10 ca cl h107 (by decide) Sh Sc Bx) (d_method_2_43) (tw hw 152 rfl) (tw hw 153 rfl) (tw hw 154 rfl) (tw hw 155 rfl) (by decide) (lenOf pd__I_Ljava_lang_Integer_ rfl) #[.val (.ref a1), .val (.int n), .val (.int 8)] [(.ref a1)] rfl 1 rfl (by decide) (by decide) (by decide) (by decide)
      obtain ⟨b116, rfl, rfl, E116, F116⟩ := Q116
      refine st116 _ ?_
      obtain ⟨T117, h117, v117, W117, Q117, st117⟩ := x_virtual B W116 (b := a1) [(.ref b116)] (c_addG10 l Z a0 hw a1 10 b116 ea115 kA115 vs10_ mo h107 E115 Fs115 Fe115 Fm115 (by omega) (E116.ext W116.old.2) A115 (fun i hi => by obtain ⟨y, e, E, -⟩ := bx10 i hi; exact ⟨y, e, E⟩) X115 ne10 Mo) E115 (d_method_2_46) (tw hw 159 rfl) (tw hw 160 rfl) (tw hw 161 rfl) (tw hw 90 rfl) (tw hw 2 rfl) (tw hw 93 rfl) (by decide) (lenOf pd__Ljava_lang_Object__Z rfl) #[.val (.ref a1), .val (.int n), .val (.int 8)] [] rfl 0 rfl (by decide) (by decide) (by decide) (by decide)
      obtain ⟨ea117, kB117, vs117, rfl, gb117, K117, E117, Fs117, Fe117, Fm117, A117, X117, vl117, O117, ag117⟩ := Q117
      have s118 := K117.1
      refine st117 _ ?_
      rw [show (10 + 1 : Int32) = 11 by decide] at Fm117
      have l117 := nlt A117.lt
      show Go p.tables e below _ T117 (mkF m 49 #[.val (.ref a1), .val (.int n), .val (.int 8)] [(.int 1)])
      refine g_pop B W117 (d_method_2_49) rfl ?_
      exact qj113 _ _ (Wk.more W117 (by decide) (by decide)) ((own_mn2 hc114 (show (10 + 1 : Int32) = 11 by decide) (by decide)).symm ▸ LI.mk (c := 11) (cap := 15) (by decide) (by decide) E117 Fs117 Fe117 Fm117 A117 (by rw [List.length_set]; exact vl117) O117 X117 (by omega) (by omega) (Bxl.push (Bxl.agree bx10 ag117) (by rw [vl117]; decide) (by decide) (by decide) E116 F116))
    · skip
      refine g_icmp_y B W107 (d_method_2_36) (XT.ii_ge_t hc114) (pc' := 50) (by decide) ?_
      show Go p.tables e below _ T107 (mkF m 50 #[.val (.ref a1), .val (.int n), .val (.int 8)] [])
      exact qj113 _ _ (Wk.more W107 (by decide) (by decide)) (own_mn3 (j := 11) hc114 (by decide) ▸ p107)
  intro T113 h113 W113 p113
  show Go p.tables e below _ T113 (mkF m 50 #[.val (.ref a1), .val (.int n), .val (.int 8)] [])
  refine g_iload_n B W113 (d_method_2_50) rfl ?_
  refine g_iconst B W113 (d_method_2_51) (v := 3) (by decide) ?_
  refine g_iadd B W113 (d_method_2_52)  ?_
  rw [show (8 + 3 : Int32) = 11 by decide]
  refine g_iload_n B W113 (d_method_2_53) rfl ?_
  suffices qj119 : ∀ (T' : State) (h' : Heap), Wk p l e ({ frames := 7, cells := 2, slots := 37, locals := 124 } : Room) s m #[(.ref a1), (.int n), (.int 8)] below meth c Z T' h' 1 15 → (LI Z h' a1 de (mn 12 n)) → Go p.tables e below (Jvm.OwnK.Out Z s (Q_fill8 Z a1 n ca cl de dc mo h0) ({ frames := 7, cells := 2, slots := 37, locals := 124 } : Room).cells ({ frames := 7, cells := 2, slots := 37, locals := 124 } : Room).slots) T' (mkF m 68 #[.val (.ref a1), .val (.int n), .val (.int 8)] []) by
    by_cases hc120 : 11 < n
    · skip
      refine g_icmp_n B W113 (d_method_2_54) (XT.ii_ge_f hc120) ?_
      show Go p.tables e below _ T113 (mkF m 57 #[.val (.ref a1), .val (.int n), .val (.int 8)] [])
      have P121 := p113
      rw [own_mn1 hc120] at P121
      have z121 := W113.size
      obtain ⟨E121, Fs121, Fm121, ⟨q, -⟩ | ⟨-, ea121, kA121, vs11_, Fe121, A121, vl0, O121, X121, gz11, ne11, bx11⟩⟩ := P121
      · exact absurd q (by decide)
      rw [show capI 11 = 15 by decide] at A121 vl0
      have l121 := nlt A121.lt
      have la121 := nlt E121.lt
      refine g_aload_n B W113 (d_method_2_57) rfl rfl ?_
      refine g_iload_n B W113 (d_method_2_58) rfl ?_
      refine g_iconst B W113 (d_method_2_59) (v := 3) (by decide) ?_
      refine g_iadd B W113 (d_method_2_60)  ?_
      rw [show (8 + 3 : Int32) = 11 by decide]
      obtain ⟨T122, h122, v122, W122, Q122, st122⟩ := x_static B W113 [(.int 11)] (c_valueOf l Z a0 hw 11 ca cl h113 (by decide) Sh Sc Bx) (d_method_2_61) (tw hw 152 rfl) (tw hw 153 rfl) (tw hw 154 rfl) (tw hw 155 rfl) (by decide) (lenOf pd__I_Ljava_lang_Integer_ rfl) #[.val (.ref a1), .val (.int n), .val (.int 8)] [(.ref a1)] rfl 1 rfl (by decide) (by decide) (by decide) (by decide)
      obtain ⟨b122, rfl, rfl, E122, F122⟩ := Q122
      refine st122 _ ?_
      obtain ⟨T123, h123, v123, W123, Q123, st123⟩ := x_virtual B W122 (b := a1) [(.ref b122)] (c_addBI l Z a0 hw a1 11 b122 ea121 kA121 vs11_ 11 12 15 h113 E121 Fs121 Fe121 Fm121 (by omega) (E122.ext W122.old.2) A121 vl0 O121 X121 (by omega) ne11 (by decide) (by decide)) E121 (d_method_2_64) (tw hw 159 rfl) (tw hw 160 rfl) (tw hw 161 rfl) (tw hw 90 rfl) (tw hw 2 rfl) (tw hw 93 rfl) (by decide) (lenOf pd__Ljava_lang_Object__Z rfl) #[.val (.ref a1), .val (.int n), .val (.int 8)] [] rfl 0 rfl (by decide) (by decide) (by decide) (by decide)
      obtain ⟨rfl, K123, E123, Fs123, Fe123, Fm123, A123, X123⟩ := Q123
      have s124 := K123.1
      refine st123 _ ?_
      rw [show (11 + 1 : Int32) = 12 by decide] at Fm123
      show Go p.tables e below _ T123 (mkF m 67 #[.val (.ref a1), .val (.int n), .val (.int 8)] [(.int 1)])
      refine g_pop B W123 (d_method_2_67) rfl ?_
      exact qj119 _ _ (Wk.more W123 (by decide) (by decide)) ((own_mn2 hc120 (show (11 + 1 : Int32) = 12 by decide) (by decide)).symm ▸ LI.mk (c := 12) (cap := 15) (by decide) (by decide) E123 Fs123 Fe123 Fm123 A123 (by rw [List.length_set]; exact vl0) O121 X123 gz11 ne11 (Bxl.push bx11 (by rw [vl0]; decide) (by decide) (by decide) E122 F122))
    · skip
      refine g_icmp_y B W113 (d_method_2_54) (XT.ii_ge_t hc120) (pc' := 68) (by decide) ?_
      show Go p.tables e below _ T113 (mkF m 68 #[.val (.ref a1), .val (.int n), .val (.int 8)] [])
      exact qj119 _ _ (Wk.more W113 (by decide) (by decide)) (own_mn3 (j := 12) hc120 (by decide) ▸ p113)
  intro T119 h119 W119 p119
  show Go p.tables e below _ T119 (mkF m 68 #[.val (.ref a1), .val (.int n), .val (.int 8)] [])
  refine g_iload_n B W119 (d_method_2_68) rfl ?_
  refine g_iconst B W119 (d_method_2_69) (v := 4) (by decide) ?_
  refine g_iadd B W119 (d_method_2_70)  ?_
  rw [show (8 + 4 : Int32) = 12 by decide]
  refine g_iload_n B W119 (d_method_2_71) rfl ?_
  suffices qj125 : ∀ (T' : State) (h' : Heap), Wk p l e ({ frames := 7, cells := 2, slots := 37, locals := 124 } : Room) s m #[(.ref a1), (.int n), (.int 8)] below meth c Z T' h' 1 15 → (LI Z h' a1 de (mn 13 n)) → Go p.tables e below (Jvm.OwnK.Out Z s (Q_fill8 Z a1 n ca cl de dc mo h0) ({ frames := 7, cells := 2, slots := 37, locals := 124 } : Room).cells ({ frames := 7, cells := 2, slots := 37, locals := 124 } : Room).slots) T' (mkF m 86 #[.val (.ref a1), .val (.int n), .val (.int 8)] []) by
    by_cases hc126 : 12 < n
    · skip
      refine g_icmp_n B W119 (d_method_2_72) (XT.ii_ge_f hc126) ?_
      show Go p.tables e below _ T119 (mkF m 75 #[.val (.ref a1), .val (.int n), .val (.int 8)] [])
      have P127 := p119
      rw [own_mn1 hc126] at P127
      have z127 := W119.size
      obtain ⟨E127, Fs127, Fm127, ⟨q, -⟩ | ⟨-, ea127, kA127, vs12_, Fe127, A127, vl0, O127, X127, gz12, ne12, bx12⟩⟩ := P127
      · exact absurd q (by decide)
      rw [show capI 12 = 15 by decide] at A127 vl0
      have l127 := nlt A127.lt
      have la127 := nlt E127.lt
      refine g_aload_n B W119 (d_method_2_75) rfl rfl ?_
      refine g_iload_n B W119 (d_method_2_76) rfl ?_
      refine g_iconst B W119 (d_method_2_77) (v := 4) (by decide) ?_
      refine g_iadd B W119 (d_method_2_78)  ?_
      rw [show (8 + 4 : Int32) = 12 by decide]
      obtain ⟨T128, h128, v128, W128, Q128, st128⟩ := x_static B W119 [(.int 12)] (c_valueOf l Z a0 hw 12 ca cl h119 (by decide) Sh Sc Bx) (d_method_2_79) (tw hw 152 rfl) (tw hw 153 rfl) (tw hw 154 rfl) (tw hw 155 rfl) (by decide) (lenOf pd__I_Ljava_lang_Integer_ rfl) #[.val (.ref a1), .val (.int n), .val (.int 8)] [(.ref a1)] rfl 1 rfl (by decide) (by decide) (by decide) (by decide)
      obtain ⟨b128, rfl, rfl, E128, F128⟩ := Q128
      refine st128 _ ?_
      obtain ⟨T129, h129, v129, W129, Q129, st129⟩ := x_virtual B W128 (b := a1) [(.ref b128)] (c_addBI l Z a0 hw a1 12 b128 ea127 kA127 vs12_ 12 13 15 h119 E127 Fs127 Fe127 Fm127 (by omega) (E128.ext W128.old.2) A127 vl0 O127 X127 (by omega) ne12 (by decide) (by decide)) E127 (d_method_2_82) (tw hw 159 rfl) (tw hw 160 rfl) (tw hw 161 rfl) (tw hw 90 rfl) (tw hw 2 rfl) (tw hw 93 rfl) (by decide) (lenOf pd__Ljava_lang_Object__Z rfl) #[.val (.ref a1), .val (.int n), .val (.int 8)] [] rfl 0 rfl (by decide) (by decide) (by decide) (by decide)
      obtain ⟨rfl, K129, E129, Fs129, Fe129, Fm129, A129, X129⟩ := Q129
      have s130 := K129.1
      refine st129 _ ?_
      rw [show (12 + 1 : Int32) = 13 by decide] at Fm129
      show Go p.tables e below _ T129 (mkF m 85 #[.val (.ref a1), .val (.int n), .val (.int 8)] [(.int 1)])
      refine g_pop B W129 (d_method_2_85) rfl ?_
      exact qj125 _ _ (Wk.more W129 (by decide) (by decide)) ((own_mn2 hc126 (show (12 + 1 : Int32) = 13 by decide) (by decide)).symm ▸ LI.mk (c := 13) (cap := 15) (by decide) (by decide) E129 Fs129 Fe129 Fm129 A129 (by rw [List.length_set]; exact vl0) O127 X129 gz12 ne12 (Bxl.push bx12 (by rw [vl0]; decide) (by decide) (by decide) E128 F128))
    · skip
      refine g_icmp_y B W119 (d_method_2_72) (XT.ii_ge_t hc126) (pc' := 86) (by decide) ?_
      show Go p.tables e below _ T119 (mkF m 86 #[.val (.ref a1), .val (.int n), .val (.int 8)] [])
      exact qj125 _ _ (Wk.more W119 (by decide) (by decide)) (own_mn3 (j := 13) hc126 (by decide) ▸ p119)
  intro T125 h125 W125 p125
  show Go p.tables e below _ T125 (mkF m 86 #[.val (.ref a1), .val (.int n), .val (.int 8)] [])
  refine g_iload_n B W125 (d_method_2_86) rfl ?_
  refine g_iconst B W125 (d_method_2_87) (v := 5) (by decide) ?_
  refine g_iadd B W125 (d_method_2_88)  ?_
  rw [show (8 + 5 : Int32) = 13 by decide]
  refine g_iload_n B W125 (d_method_2_89) rfl ?_
  suffices qj131 : ∀ (T' : State) (h' : Heap), Wk p l e ({ frames := 7, cells := 2, slots := 37, locals := 124 } : Room) s m #[(.ref a1), (.int n), (.int 8)] below meth c Z T' h' 1 15 → (LI Z h' a1 de (mn 14 n)) → Go p.tables e below (Jvm.OwnK.Out Z s (Q_fill8 Z a1 n ca cl de dc mo h0) ({ frames := 7, cells := 2, slots := 37, locals := 124 } : Room).cells ({ frames := 7, cells := 2, slots := 37, locals := 124 } : Room).slots) T' (mkF m 104 #[.val (.ref a1), .val (.int n), .val (.int 8)] []) by
    by_cases hc132 : 13 < n
    · skip
      refine g_icmp_n B W125 (d_method_2_90) (XT.ii_ge_f hc132) ?_
      show Go p.tables e below _ T125 (mkF m 93 #[.val (.ref a1), .val (.int n), .val (.int 8)] [])
      have P133 := p125
      rw [own_mn1 hc132] at P133
      have z133 := W125.size
      obtain ⟨E133, Fs133, Fm133, ⟨q, -⟩ | ⟨-, ea133, kA133, vs13_, Fe133, A133, vl0, O133, X133, gz13, ne13, bx13⟩⟩ := P133
      · exact absurd q (by decide)
      rw [show capI 13 = 15 by decide] at A133 vl0
      have l133 := nlt A133.lt
      have la133 := nlt E133.lt
      refine g_aload_n B W125 (d_method_2_93) rfl rfl ?_
      refine g_iload_n B W125 (d_method_2_94) rfl ?_
      refine g_iconst B W125 (d_method_2_95) (v := 5) (by decide) ?_
      refine g_iadd B W125 (d_method_2_96)  ?_
      rw [show (8 + 5 : Int32) = 13 by decide]
      obtain ⟨T134, h134, v134, W134, Q134, st134⟩ := x_static B W125 [(.int 13)] (c_valueOf l Z a0 hw 13 ca cl h125 (by decide) Sh Sc Bx) (d_method_2_97) (tw hw 152 rfl) (tw hw 153 rfl) (tw hw 154 rfl) (tw hw 155 rfl) (by decide) (lenOf pd__I_Ljava_lang_Integer_ rfl) #[.val (.ref a1), .val (.int n), .val (.int 8)] [(.ref a1)] rfl 1 rfl (by decide) (by decide) (by decide) (by decide)
      obtain ⟨b134, rfl, rfl, E134, F134⟩ := Q134
      refine st134 _ ?_
      obtain ⟨T135, h135, v135, W135, Q135, st135⟩ := x_virtual B W134 (b := a1) [(.ref b134)] (c_addBI l Z a0 hw a1 13 b134 ea133 kA133 vs13_ 13 14 15 h125 E133 Fs133 Fe133 Fm133 (by omega) (E134.ext W134.old.2) A133 vl0 O133 X133 (by omega) ne13 (by decide) (by decide)) E133 (d_method_2_100) (tw hw 159 rfl) (tw hw 160 rfl) (tw hw 161 rfl) (tw hw 90 rfl) (tw hw 2 rfl) (tw hw 93 rfl) (by decide) (lenOf pd__Ljava_lang_Object__Z rfl) #[.val (.ref a1), .val (.int n), .val (.int 8)] [] rfl 0 rfl (by decide) (by decide) (by decide) (by decide)
      obtain ⟨rfl, K135, E135, Fs135, Fe135, Fm135, A135, X135⟩ := Q135
      have s136 := K135.1
      refine st135 _ ?_
      rw [show (13 + 1 : Int32) = 14 by decide] at Fm135
      show Go p.tables e below _ T135 (mkF m 103 #[.val (.ref a1), .val (.int n), .val (.int 8)] [(.int 1)])
      refine g_pop B W135 (d_method_2_103) rfl ?_
      exact qj131 _ _ (Wk.more W135 (by decide) (by decide)) ((own_mn2 hc132 (show (13 + 1 : Int32) = 14 by decide) (by decide)).symm ▸ LI.mk (c := 14) (cap := 15) (by decide) (by decide) E135 Fs135 Fe135 Fm135 A135 (by rw [List.length_set]; exact vl0) O133 X135 gz13 ne13 (Bxl.push bx13 (by rw [vl0]; decide) (by decide) (by decide) E134 F134))
    · skip
      refine g_icmp_y B W125 (d_method_2_90) (XT.ii_ge_t hc132) (pc' := 104) (by decide) ?_
      show Go p.tables e below _ T125 (mkF m 104 #[.val (.ref a1), .val (.int n), .val (.int 8)] [])
      exact qj131 _ _ (Wk.more W125 (by decide) (by decide)) (own_mn3 (j := 14) hc132 (by decide) ▸ p125)
  intro T131 h131 W131 p131
  show Go p.tables e below _ T131 (mkF m 104 #[.val (.ref a1), .val (.int n), .val (.int 8)] [])
  refine g_iload_n B W131 (d_method_2_104) rfl ?_
  refine g_bipush B W131 (d_method_2_105) (v := 6) (by decide) ?_
  refine g_iadd B W131 (d_method_2_107)  ?_
  rw [show (8 + 6 : Int32) = 14 by decide]
  refine g_iload_n B W131 (d_method_2_108) rfl ?_
  suffices qj137 : ∀ (T' : State) (h' : Heap), Wk p l e ({ frames := 7, cells := 2, slots := 37, locals := 124 } : Room) s m #[(.ref a1), (.int n), (.int 8)] below meth c Z T' h' 1 15 → (LI Z h' a1 de (mn 15 n)) → Go p.tables e below (Jvm.OwnK.Out Z s (Q_fill8 Z a1 n ca cl de dc mo h0) ({ frames := 7, cells := 2, slots := 37, locals := 124 } : Room).cells ({ frames := 7, cells := 2, slots := 37, locals := 124 } : Room).slots) T' (mkF m 124 #[.val (.ref a1), .val (.int n), .val (.int 8)] []) by
    by_cases hc138 : 14 < n
    · skip
      refine g_icmp_n B W131 (d_method_2_109) (XT.ii_ge_f hc138) ?_
      show Go p.tables e below _ T131 (mkF m 112 #[.val (.ref a1), .val (.int n), .val (.int 8)] [])
      have P139 := p131
      rw [own_mn1 hc138] at P139
      have z139 := W131.size
      obtain ⟨E139, Fs139, Fm139, ⟨q, -⟩ | ⟨-, ea139, kA139, vs14_, Fe139, A139, vl0, O139, X139, gz14, ne14, bx14⟩⟩ := P139
      · exact absurd q (by decide)
      rw [show capI 14 = 15 by decide] at A139 vl0
      have l139 := nlt A139.lt
      have la139 := nlt E139.lt
      refine g_aload_n B W131 (d_method_2_112) rfl rfl ?_
      refine g_iload_n B W131 (d_method_2_113) rfl ?_
      refine g_bipush B W131 (d_method_2_114) (v := 6) (by decide) ?_
      refine g_iadd B W131 (d_method_2_116)  ?_
      rw [show (8 + 6 : Int32) = 14 by decide]
      obtain ⟨T140, h140, v140, W140, Q140, st140⟩ := x_static B W131 [(.int 14)] (c_valueOf l Z a0 hw 14 ca cl h131 (by decide) Sh Sc Bx) (d_method_2_117) (tw hw 152 rfl) (tw hw 153 rfl) (tw hw 154 rfl) (tw hw 155 rfl) (by decide) (lenOf pd__I_Ljava_lang_Integer_ rfl) #[.val (.ref a1), .val (.int n), .val (.int 8)] [(.ref a1)] rfl 1 rfl (by decide) (by decide) (by decide) (by decide)
      obtain ⟨b140, rfl, rfl, E140, F140⟩ := Q140
      refine st140 _ ?_
      obtain ⟨T141, h141, v141, W141, Q141, st141⟩ := x_virtual B W140 (b := a1) [(.ref b140)] (c_addBI l Z a0 hw a1 14 b140 ea139 kA139 vs14_ 14 15 15 h131 E139 Fs139 Fe139 Fm139 (by omega) (E140.ext W140.old.2) A139 vl0 O139 X139 (by omega) ne14 (by decide) (by decide)) E139 (d_method_2_120) (tw hw 159 rfl) (tw hw 160 rfl) (tw hw 161 rfl) (tw hw 90 rfl) (tw hw 2 rfl) (tw hw 93 rfl) (by decide) (lenOf pd__Ljava_lang_Object__Z rfl) #[.val (.ref a1), .val (.int n), .val (.int 8)] [] rfl 0 rfl (by decide) (by decide) (by decide) (by decide)
      obtain ⟨rfl, K141, E141, Fs141, Fe141, Fm141, A141, X141⟩ := Q141
      have s142 := K141.1
      refine st141 _ ?_
      rw [show (14 + 1 : Int32) = 15 by decide] at Fm141
      show Go p.tables e below _ T141 (mkF m 123 #[.val (.ref a1), .val (.int n), .val (.int 8)] [(.int 1)])
      refine g_pop B W141 (d_method_2_123) rfl ?_
      exact qj137 _ _ (Wk.more W141 (by decide) (by decide)) ((own_mn2 hc138 (show (14 + 1 : Int32) = 15 by decide) (by decide)).symm ▸ LI.mk (c := 15) (cap := 15) (by decide) (by decide) E141 Fs141 Fe141 Fm141 A141 (by rw [List.length_set]; exact vl0) O139 X141 gz14 ne14 (Bxl.push bx14 (by rw [vl0]; decide) (by decide) (by decide) E140 F140))
    · skip
      refine g_icmp_y B W131 (d_method_2_109) (XT.ii_ge_t hc138) (pc' := 124) (by decide) ?_
      show Go p.tables e below _ T131 (mkF m 124 #[.val (.ref a1), .val (.int n), .val (.int 8)] [])
      exact qj137 _ _ (Wk.more W131 (by decide) (by decide)) (own_mn3 (j := 15) hc138 (by decide) ▸ p131)
  intro T137 h137 W137 p137
  show Go p.tables e below _ T137 (mkF m 124 #[.val (.ref a1), .val (.int n), .val (.int 8)] [])
  refine g_iload_n B W137 (d_method_2_124) rfl ?_
  refine g_bipush B W137 (d_method_2_125) (v := 7) (by decide) ?_
  refine g_iadd B W137 (d_method_2_127)  ?_
  rw [show (8 + 7 : Int32) = 15 by decide]
  refine g_iload_n B W137 (d_method_2_128) rfl ?_
  suffices qj143 : ∀ (T' : State) (h' : Heap), Wk p l e ({ frames := 7, cells := 2, slots := 37, locals := 124 } : Room) s m #[(.ref a1), (.int n), (.int 8)] below meth c Z T' h' 2 37 → (LI Z h' a1 de (mn 16 n)) → Go p.tables e below (Jvm.OwnK.Out Z s (Q_fill8 Z a1 n ca cl de dc mo h0) ({ frames := 7, cells := 2, slots := 37, locals := 124 } : Room).cells ({ frames := 7, cells := 2, slots := 37, locals := 124 } : Room).slots) T' (mkF m 144 #[.val (.ref a1), .val (.int n), .val (.int 8)] []) by
    by_cases hc144 : 15 < n
    · skip
      refine g_icmp_n B W137 (d_method_2_129) (XT.ii_ge_f hc144) ?_
      show Go p.tables e below _ T137 (mkF m 132 #[.val (.ref a1), .val (.int n), .val (.int 8)] [])
      have P145 := p137
      rw [own_mn1 hc144] at P145
      have z145 := W137.size
      obtain ⟨E145, Fs145, Fm145, ⟨q, -⟩ | ⟨-, ea145, kA145, vs15_, Fe145, A145, vl0, O145, X145, gz15, ne15, bx15⟩⟩ := P145
      · exact absurd q (by decide)
      rw [show capI 15 = 15 by decide] at A145 vl0
      have l145 := nlt A145.lt
      have la145 := nlt E145.lt
      refine g_aload_n B W137 (d_method_2_132) rfl rfl ?_
      refine g_iload_n B W137 (d_method_2_133) rfl ?_
      refine g_bipush B W137 (d_method_2_134) (v := 7) (by decide) ?_
      refine g_iadd B W137 (d_method_2_136)  ?_
      rw [show (8 + 7 : Int32) = 15 by decide]
      obtain ⟨T146, h146, v146, W146, Q146, st146⟩ := x_static B W137 [(.int 15)] (c_valueOf l Z a0 hw 15 ca cl h137 (by decide) Sh Sc Bx) (d_method_2_137) (tw hw 152 rfl) (tw hw 153 rfl) (tw hw 154 rfl) (tw hw 155 rfl) (by decide) (lenOf pd__I_Ljava_lang_Integer_ rfl) #[.val (.ref a1), .val (.int n), .val (.int 8)] [(.ref a1)] rfl 1 rfl (by decide) (by decide) (by decide) (by decide)
      obtain ⟨b146, rfl, rfl, E146, F146⟩ := Q146
      refine st146 _ ?_
      obtain ⟨T147, h147, v147, W147, Q147, st147⟩ := x_virtual B W146 (b := a1) [(.ref b146)] (c_addG15 l Z a0 hw a1 15 b146 ea145 kA145 vs15_ mo h137 E145 Fs145 Fe145 Fm145 (by omega) (E146.ext W146.old.2) A145 (fun i hi => by obtain ⟨y, e, E, -⟩ := bx15 i hi; exact ⟨y, e, E⟩) X145 ne15 Mo) E145 (d_method_2_140) (tw hw 159 rfl) (tw hw 160 rfl) (tw hw 161 rfl) (tw hw 90 rfl) (tw hw 2 rfl) (tw hw 93 rfl) (by decide) (lenOf pd__Ljava_lang_Object__Z rfl) #[.val (.ref a1), .val (.int n), .val (.int 8)] [] rfl 0 rfl (by decide) (by decide) (by decide) (by decide)
      obtain ⟨ea147, kB147, vs147, rfl, gb147, K147, E147, Fs147, Fe147, Fm147, A147, X147, vl147, O147, ag147⟩ := Q147
      have s148 := K147.1
      refine st147 _ ?_
      rw [show (15 + 1 : Int32) = 16 by decide] at Fm147
      have l147 := nlt A147.lt
      show Go p.tables e below _ T147 (mkF m 143 #[.val (.ref a1), .val (.int n), .val (.int 8)] [(.int 1)])
      refine g_pop B W147 (d_method_2_143) rfl ?_
      exact qj143 _ _ (Wk.more W147 (by decide) (by decide)) ((own_mn2 hc144 (show (15 + 1 : Int32) = 16 by decide) (by decide)).symm ▸ LI.mk (c := 16) (cap := 22) (by decide) (by decide) E147 Fs147 Fe147 Fm147 A147 (by rw [List.length_set]; exact vl147) O147 X147 (by omega) (by omega) (Bxl.push (Bxl.agree bx15 ag147) (by rw [vl147]; decide) (by decide) (by decide) E146 F146))
    · skip
      refine g_icmp_y B W137 (d_method_2_129) (XT.ii_ge_t hc144) (pc' := 144) (by decide) ?_
      show Go p.tables e below _ T137 (mkF m 144 #[.val (.ref a1), .val (.int n), .val (.int 8)] [])
      exact qj143 _ _ (Wk.more W137 (by decide) (by decide)) (own_mn3 (j := 16) hc144 (by decide) ▸ p137)
  intro T143 h143 W143 p143
  show Go p.tables e below _ T143 (mkF m 144 #[.val (.ref a1), .val (.int n), .val (.int 8)] [])
  exact r_v B W143 (d_method_2_144) (by decide) (by decide) ⟨rfl, p143⟩
theorem ef_fill16 (m : MethodId) (a1 : Addr) (n : Int32) (ca : Addr) (cl : Cell) (de : Addr) (dc : Cell) (mo : Addr) : entryFrame m #[(.ref a1), (.int n), (.int 16)] 3 = mkF m 0 #[.val (.ref a1), .val (.int n), .val (.int 16)] [] := by first | (simp [entryFrame, mkF, argsToLocals, Value.category]; done) | rfl
def Q_fill16 (Z : State) (a1 : Addr) (n : Int32) (ca : Addr) (cl : Cell) (de : Addr) (dc : Cell) (mo : Addr) (h0 : Heap) (v : Option Value) (h : Heap) : Prop := v = none ∧ LI Z h a1 de (mn 24 n)
set_option maxRecDepth 65536 in
set_option maxHeartbeats 40000000 in
theorem c_fill16 (l : Launch) (Z : State) (a0 : Array Value) (hw : ∀ d ∈ tables_1, d.before a0 Z = true) (a1 : Addr) (n : Int32) (ca : Addr) (cl : Cell) (de : Addr) (dc : Cell) (mo : Addr) (h0 : Heap) (P0 : LI Z h0 a1 de (mn 16 n)) (g1 : Z.heap.size ≤ a1) (Sh : Sta Z Z.heap "java/lang/Integer$IntegerCache" "high" "I" (.int 127)) (Sc : Sta Z Z.heap "java/lang/Integer$IntegerCache" "cache" "[Ljava/lang/Integer;" (.ref ca)) (Bx : Bxs Z ca cl "java/lang/Integer" "I" 256 (fun j => .int (j - 128))) (Sde : Sta Z Z.heap "java/util/ArrayList" "DEFAULTCAPACITY_EMPTY_ELEMENTDATA" "[Ljava/lang/Object;" (.ref de)) (Ade : Arr Z Z.heap de dc (.object "java/lang/Object")) (lde : dc.slots.size.toInt32 = 0) (Mo : Mi Z "[Ljava/lang/Object;" mo) :
    Con l Z (⟨"com/example/presswright/presswright/publishing/PagingPagesPinLaw", "fill8", "(Ljava/util/ArrayList;II)V"⟩ : MethodName) method_2_code 3 (Option.none : Option FieldType) [] ({ frames := 7, cells := 1, slots := 33, locals := 124 } : Room) #[(.ref a1), (.int n), (.int 16)] h0 (Q_fill16 Z a1 n ca cl de dc mo h0) := by
  refine Con.of (plainFor_of_name pn_com_example_presswright_presswright_publishing_PagingPagesPinLaw) ?_
  intro p e s m below meth c T0 B W0
  refine Go.cast (ef_fill16 m a1 n ca cl de dc mo ) ?_
  refine g_iload_n B W0 (d_method_2_0) rfl ?_
  refine g_iload_n B W0 (d_method_2_1) rfl ?_
  suffices qj101 : ∀ (T' : State) (h' : Heap), Wk p l e ({ frames := 7, cells := 1, slots := 33, locals := 124 } : Room) s m #[(.ref a1), (.int n), (.int 16)] below meth c Z T' h' 0 0 → (LI Z h' a1 de (mn 17 n)) → Go p.tables e below (Jvm.OwnK.Out Z s (Q_fill16 Z a1 n ca cl de dc mo h0) ({ frames := 7, cells := 1, slots := 33, locals := 124 } : Room).cells ({ frames := 7, cells := 1, slots := 33, locals := 124 } : Room).slots) T' (mkF m 14 #[.val (.ref a1), .val (.int n), .val (.int 16)] []) by
    by_cases hc102 : 16 < n
    · skip
      refine g_icmp_n B W0 (d_method_2_2) (XT.ii_ge_f hc102) ?_
      show Go p.tables e below _ T0 (mkF m 5 #[.val (.ref a1), .val (.int n), .val (.int 16)] [])
      have P103 := P0
      rw [own_mn1 hc102] at P103
      have z103 := W0.size
      obtain ⟨E103, Fs103, Fm103, ⟨q, -⟩ | ⟨-, ea103, kA103, vs16_, Fe103, A103, vl0, O103, X103, gz16, ne16, bx16⟩⟩ := P103
      · exact absurd q (by decide)
      rw [show capI 16 = 22 by decide] at A103 vl0
      have l103 := nlt A103.lt
      have la103 := nlt E103.lt
      refine g_aload_n B W0 (d_method_2_5) rfl rfl ?_
      refine g_iload_n B W0 (d_method_2_6) rfl ?_
      obtain ⟨T104, h104, v104, W104, Q104, st104⟩ := x_static B W0 [(.int 16)] (c_valueOf l Z a0 hw 16 ca cl h0 (by decide) Sh Sc Bx) (d_method_2_7) (tw hw 152 rfl) (tw hw 153 rfl) (tw hw 154 rfl) (tw hw 155 rfl) (by decide) (lenOf pd__I_Ljava_lang_Integer_ rfl) #[.val (.ref a1), .val (.int n), .val (.int 16)] [(.ref a1)] rfl 1 rfl (by decide) (by decide) (by decide) (by decide)
      obtain ⟨b104, rfl, rfl, E104, F104⟩ := Q104
      refine st104 _ ?_
      obtain ⟨T105, h105, v105, W105, Q105, st105⟩ := x_virtual B W104 (b := a1) [(.ref b104)] (c_addBI l Z a0 hw a1 16 b104 ea103 kA103 vs16_ 16 17 22 h0 E103 Fs103 Fe103 Fm103 (by omega) (E104.ext W104.old.2) A103 vl0 O103 X103 (by omega) ne16 (by decide) (by decide)) E103 (d_method_2_10) (tw hw 159 rfl) (tw hw 160 rfl) (tw hw 161 rfl) (tw hw 90 rfl) (tw hw 2 rfl) (tw hw 93 rfl) (by decide) (lenOf pd__Ljava_lang_Object__Z rfl) #[.val (.ref a1), .val (.int n), .val (.int 16)] [] rfl 0 rfl (by decide) (by decide) (by decide) (by decide)
      obtain ⟨rfl, K105, E105, Fs105, Fe105, Fm105, A105, X105⟩ := Q105
      have s106 := K105.1
      refine st105 _ ?_
      rw [show (16 + 1 : Int32) = 17 by decide] at Fm105
      show Go p.tables e below _ T105 (mkF m 13 #[.val (.ref a1), .val (.int n), .val (.int 16)] [(.int 1)])
      refine g_pop B W105 (d_method_2_13) rfl ?_
      exact qj101 _ _ (Wk.more W105 (by decide) (by decide)) ((own_mn2 hc102 (show (16 + 1 : Int32) = 17 by decide) (by decide)).symm ▸ LI.mk (c := 17) (cap := 22) (by decide) (by decide) E105 Fs105 Fe105 Fm105 A105 (by rw [List.length_set]; exact vl0) O103 X105 gz16 ne16 (Bxl.push bx16 (by rw [vl0]; decide) (by decide) (by decide) E104 F104))
    · skip
      refine g_icmp_y B W0 (d_method_2_2) (XT.ii_ge_t hc102) (pc' := 14) (by decide) ?_
      show Go p.tables e below _ T0 (mkF m 14 #[.val (.ref a1), .val (.int n), .val (.int 16)] [])
      exact qj101 _ _ (Wk.more W0 (by decide) (by decide)) (own_mn3 (j := 17) hc102 (by decide) ▸ P0)
  intro T101 h101 W101 p101
  show Go p.tables e below _ T101 (mkF m 14 #[.val (.ref a1), .val (.int n), .val (.int 16)] [])
  refine g_iload_n B W101 (d_method_2_14) rfl ?_
  refine g_iconst B W101 (d_method_2_15) (v := 1) (by decide) ?_
  refine g_iadd B W101 (d_method_2_16)  ?_
  rw [show (16 + 1 : Int32) = 17 by decide]
  refine g_iload_n B W101 (d_method_2_17) rfl ?_
  suffices qj107 : ∀ (T' : State) (h' : Heap), Wk p l e ({ frames := 7, cells := 1, slots := 33, locals := 124 } : Room) s m #[(.ref a1), (.int n), (.int 16)] below meth c Z T' h' 0 0 → (LI Z h' a1 de (mn 18 n)) → Go p.tables e below (Jvm.OwnK.Out Z s (Q_fill16 Z a1 n ca cl de dc mo h0) ({ frames := 7, cells := 1, slots := 33, locals := 124 } : Room).cells ({ frames := 7, cells := 1, slots := 33, locals := 124 } : Room).slots) T' (mkF m 32 #[.val (.ref a1), .val (.int n), .val (.int 16)] []) by
    by_cases hc108 : 17 < n
    · skip
      refine g_icmp_n B W101 (d_method_2_18) (XT.ii_ge_f hc108) ?_
      show Go p.tables e below _ T101 (mkF m 21 #[.val (.ref a1), .val (.int n), .val (.int 16)] [])
      have P109 := p101
      rw [own_mn1 hc108] at P109
      have z109 := W101.size
      obtain ⟨E109, Fs109, Fm109, ⟨q, -⟩ | ⟨-, ea109, kA109, vs17_, Fe109, A109, vl0, O109, X109, gz17, ne17, bx17⟩⟩ := P109
      · exact absurd q (by decide)
      rw [show capI 17 = 22 by decide] at A109 vl0
      have l109 := nlt A109.lt
      have la109 := nlt E109.lt
      refine g_aload_n B W101 (d_method_2_21) rfl rfl ?_
      refine g_iload_n B W101 (d_method_2_22) rfl ?_
      refine g_iconst B W101 (d_method_2_23) (v := 1) (by decide) ?_
      refine g_iadd B W101 (d_method_2_24)  ?_
      rw [show (16 + 1 : Int32) = 17 by decide]
      obtain ⟨T110, h110, v110, W110, Q110, st110⟩ := x_static B W101 [(.int 17)] (c_valueOf l Z a0 hw 17 ca cl h101 (by decide) Sh Sc Bx) (d_method_2_25) (tw hw 152 rfl) (tw hw 153 rfl) (tw hw 154 rfl) (tw hw 155 rfl) (by decide) (lenOf pd__I_Ljava_lang_Integer_ rfl) #[.val (.ref a1), .val (.int n), .val (.int 16)] [(.ref a1)] rfl 1 rfl (by decide) (by decide) (by decide) (by decide)
      obtain ⟨b110, rfl, rfl, E110, F110⟩ := Q110
      refine st110 _ ?_
      obtain ⟨T111, h111, v111, W111, Q111, st111⟩ := x_virtual B W110 (b := a1) [(.ref b110)] (c_addBI l Z a0 hw a1 17 b110 ea109 kA109 vs17_ 17 18 22 h101 E109 Fs109 Fe109 Fm109 (by omega) (E110.ext W110.old.2) A109 vl0 O109 X109 (by omega) ne17 (by decide) (by decide)) E109 (d_method_2_28) (tw hw 159 rfl) (tw hw 160 rfl) (tw hw 161 rfl) (tw hw 90 rfl) (tw hw 2 rfl) (tw hw 93 rfl) (by decide) (lenOf pd__Ljava_lang_Object__Z rfl) #[.val (.ref a1), .val (.int n), .val (.int 16)] [] rfl 0 rfl (by decide) (by decide) (by decide) (by decide)
      obtain ⟨rfl, K111, E111, Fs111, Fe111, Fm111, A111, X111⟩ := Q111
      have s112 := K111.1
      refine st111 _ ?_
      rw [show (17 + 1 : Int32) = 18 by decide] at Fm111
      show Go p.tables e below _ T111 (mkF m 31 #[.val (.ref a1), .val (.int n), .val (.int 16)] [(.int 1)])
      refine g_pop B W111 (d_method_2_31) rfl ?_
      exact qj107 _ _ (Wk.more W111 (by decide) (by decide)) ((own_mn2 hc108 (show (17 + 1 : Int32) = 18 by decide) (by decide)).symm ▸ LI.mk (c := 18) (cap := 22) (by decide) (by decide) E111 Fs111 Fe111 Fm111 A111 (by rw [List.length_set]; exact vl0) O109 X111 gz17 ne17 (Bxl.push bx17 (by rw [vl0]; decide) (by decide) (by decide) E110 F110))
    · skip
      refine g_icmp_y B W101 (d_method_2_18) (XT.ii_ge_t hc108) (pc' := 32) (by decide) ?_
      show Go p.tables e below _ T101 (mkF m 32 #[.val (.ref a1), .val (.int n), .val (.int 16)] [])
      exact qj107 _ _ (Wk.more W101 (by decide) (by decide)) (own_mn3 (j := 18) hc108 (by decide) ▸ p101)
  intro T107 h107 W107 p107
  show Go p.tables e below _ T107 (mkF m 32 #[.val (.ref a1), .val (.int n), .val (.int 16)] [])
  refine g_iload_n B W107 (d_method_2_32) rfl ?_
  refine g_iconst B W107 (d_method_2_33) (v := 2) (by decide) ?_
  refine g_iadd B W107 (d_method_2_34)  ?_
  rw [show (16 + 2 : Int32) = 18 by decide]
  refine g_iload_n B W107 (d_method_2_35) rfl ?_
  suffices qj113 : ∀ (T' : State) (h' : Heap), Wk p l e ({ frames := 7, cells := 1, slots := 33, locals := 124 } : Room) s m #[(.ref a1), (.int n), (.int 16)] below meth c Z T' h' 0 0 → (LI Z h' a1 de (mn 19 n)) → Go p.tables e below (Jvm.OwnK.Out Z s (Q_fill16 Z a1 n ca cl de dc mo h0) ({ frames := 7, cells := 1, slots := 33, locals := 124 } : Room).cells ({ frames := 7, cells := 1, slots := 33, locals := 124 } : Room).slots) T' (mkF m 50 #[.val (.ref a1), .val (.int n), .val (.int 16)] []) by
    by_cases hc114 : 18 < n
    · skip
      refine g_icmp_n B W107 (d_method_2_36) (XT.ii_ge_f hc114) ?_
      show Go p.tables e below _ T107 (mkF m 39 #[.val (.ref a1), .val (.int n), .val (.int 16)] [])
      have P115 := p107
      rw [own_mn1 hc114] at P115
      have z115 := W107.size
      obtain ⟨E115, Fs115, Fm115, ⟨q, -⟩ | ⟨-, ea115, kA115, vs18_, Fe115, A115, vl0, O115, X115, gz18, ne18, bx18⟩⟩ := P115
      · exact absurd q (by decide)
      rw [show capI 18 = 22 by decide] at A115 vl0
      have l115 := nlt A115.lt
      have la115 := nlt E115.lt
      refine g_aload_n B W107 (d_method_2_39) rfl rfl ?_
      refine g_iload_n B W107 (d_method_2_40) rfl ?_
      refine g_iconst B W107 (d_method_2_41) (v := 2) (by decide) ?_
      refine g_iadd B W107 (d_method_2_42)  ?_
      rw [show (16 + 2 : Int32) = 18 by decide]
      obtain ⟨T116, h116, v116, W116, Q116, st116⟩ := x_static B W107 [(.int 18)] (c_valueOf l Z a0 hw 18 ca cl h107 (by decide) Sh Sc Bx) (d_method_2_43) (tw hw 152 rfl) (tw hw 153 rfl) (tw hw 154 rfl) (tw hw 155 rfl) (by decide) (lenOf pd__I_Ljava_lang_Integer_ rfl) #[.val (.ref a1), .val (.int n), .val (.int 16)] [(.ref a1)] rfl 1 rfl (by decide) (by decide) (by decide) (by decide)
      obtain ⟨b116, rfl, rfl, E116, F116⟩ := Q116
      refine st116 _ ?_
      obtain ⟨T117, h117, v117, W117, Q117, st117⟩ := x_virtual B W116 (b := a1) [(.ref b116)] (c_addBI l Z a0 hw a1 18 b116 ea115 kA115 vs18_ 18 19 22 h107 E115 Fs115 Fe115 Fm115 (by omega) (E116.ext W116.old.2) A115 vl0 O115 X115 (by omega) ne18 (by decide) (by decide)) E115 (d_method_2_46) (tw hw 159 rfl) (tw hw 160 rfl) (tw hw 161 rfl) (tw hw 90 rfl) (tw hw 2 rfl) (tw hw 93 rfl) (by decide) (lenOf pd__Ljava_lang_Object__Z rfl) #[.val (.ref a1), .val (.int n), .val (.int 16)] [] rfl 0 rfl (by decide) (by decide) (by decide) (by decide)
      obtain ⟨rfl, K117, E117, Fs117, Fe117, Fm117, A117, X117⟩ := Q117
      have s118 := K117.1
      refine st117 _ ?_
      rw [show (18 + 1 : Int32) = 19 by decide] at Fm117
      show Go p.tables e below _ T117 (mkF m 49 #[.val (.ref a1), .val (.int n), .val (.int 16)] [(.int 1)])
      refine g_pop B W117 (d_method_2_49) rfl ?_
      exact qj113 _ _ (Wk.more W117 (by decide) (by decide)) ((own_mn2 hc114 (show (18 + 1 : Int32) = 19 by decide) (by decide)).symm ▸ LI.mk (c := 19) (cap := 22) (by decide) (by decide) E117 Fs117 Fe117 Fm117 A117 (by rw [List.length_set]; exact vl0) O115 X117 gz18 ne18 (Bxl.push bx18 (by rw [vl0]; decide) (by decide) (by decide) E116 F116))
    · skip
      refine g_icmp_y B W107 (d_method_2_36) (XT.ii_ge_t hc114) (pc' := 50) (by decide) ?_
      show Go p.tables e below _ T107 (mkF m 50 #[.val (.ref a1), .val (.int n), .val (.int 16)] [])
      exact qj113 _ _ (Wk.more W107 (by decide) (by decide)) (own_mn3 (j := 19) hc114 (by decide) ▸ p107)
  intro T113 h113 W113 p113
  show Go p.tables e below _ T113 (mkF m 50 #[.val (.ref a1), .val (.int n), .val (.int 16)] [])
  refine g_iload_n B W113 (d_method_2_50) rfl ?_
  refine g_iconst B W113 (d_method_2_51) (v := 3) (by decide) ?_
  refine g_iadd B W113 (d_method_2_52)  ?_
  rw [show (16 + 3 : Int32) = 19 by decide]
  refine g_iload_n B W113 (d_method_2_53) rfl ?_
  suffices qj119 : ∀ (T' : State) (h' : Heap), Wk p l e ({ frames := 7, cells := 1, slots := 33, locals := 124 } : Room) s m #[(.ref a1), (.int n), (.int 16)] below meth c Z T' h' 0 0 → (LI Z h' a1 de (mn 20 n)) → Go p.tables e below (Jvm.OwnK.Out Z s (Q_fill16 Z a1 n ca cl de dc mo h0) ({ frames := 7, cells := 1, slots := 33, locals := 124 } : Room).cells ({ frames := 7, cells := 1, slots := 33, locals := 124 } : Room).slots) T' (mkF m 68 #[.val (.ref a1), .val (.int n), .val (.int 16)] []) by
    by_cases hc120 : 19 < n
    · skip
      refine g_icmp_n B W113 (d_method_2_54) (XT.ii_ge_f hc120) ?_
      show Go p.tables e below _ T113 (mkF m 57 #[.val (.ref a1), .val (.int n), .val (.int 16)] [])
      have P121 := p113
      rw [own_mn1 hc120] at P121
      have z121 := W113.size
      obtain ⟨E121, Fs121, Fm121, ⟨q, -⟩ | ⟨-, ea121, kA121, vs19_, Fe121, A121, vl0, O121, X121, gz19, ne19, bx19⟩⟩ := P121
      · exact absurd q (by decide)
      rw [show capI 19 = 22 by decide] at A121 vl0
      have l121 := nlt A121.lt
      have la121 := nlt E121.lt
      refine g_aload_n B W113 (d_method_2_57) rfl rfl ?_
      refine g_iload_n B W113 (d_method_2_58) rfl ?_
      refine g_iconst B W113 (d_method_2_59) (v := 3) (by decide) ?_
      refine g_iadd B W113 (d_method_2_60)  ?_
      rw [show (16 + 3 : Int32) = 19 by decide]
      obtain ⟨T122, h122, v122, W122, Q122, st122⟩ := x_static B W113 [(.int 19)] (c_valueOf l Z a0 hw 19 ca cl h113 (by decide) Sh Sc Bx) (d_method_2_61) (tw hw 152 rfl) (tw hw 153 rfl) (tw hw 154 rfl) (tw hw 155 rfl) (by decide) (lenOf pd__I_Ljava_lang_Integer_ rfl) #[.val (.ref a1), .val (.int n), .val (.int 16)] [(.ref a1)] rfl 1 rfl (by decide) (by decide) (by decide) (by decide)
      obtain ⟨b122, rfl, rfl, E122, F122⟩ := Q122
      refine st122 _ ?_
      obtain ⟨T123, h123, v123, W123, Q123, st123⟩ := x_virtual B W122 (b := a1) [(.ref b122)] (c_addBI l Z a0 hw a1 19 b122 ea121 kA121 vs19_ 19 20 22 h113 E121 Fs121 Fe121 Fm121 (by omega) (E122.ext W122.old.2) A121 vl0 O121 X121 (by omega) ne19 (by decide) (by decide)) E121 (d_method_2_64) (tw hw 159 rfl) (tw hw 160 rfl) (tw hw 161 rfl) (tw hw 90 rfl) (tw hw 2 rfl) (tw hw 93 rfl) (by decide) (lenOf pd__Ljava_lang_Object__Z rfl) #[.val (.ref a1), .val (.int n), .val (.int 16)] [] rfl 0 rfl (by decide) (by decide) (by decide) (by decide)
      obtain ⟨rfl, K123, E123, Fs123, Fe123, Fm123, A123, X123⟩ := Q123
      have s124 := K123.1
      refine st123 _ ?_
      rw [show (19 + 1 : Int32) = 20 by decide] at Fm123
      show Go p.tables e below _ T123 (mkF m 67 #[.val (.ref a1), .val (.int n), .val (.int 16)] [(.int 1)])
      refine g_pop B W123 (d_method_2_67) rfl ?_
      exact qj119 _ _ (Wk.more W123 (by decide) (by decide)) ((own_mn2 hc120 (show (19 + 1 : Int32) = 20 by decide) (by decide)).symm ▸ LI.mk (c := 20) (cap := 22) (by decide) (by decide) E123 Fs123 Fe123 Fm123 A123 (by rw [List.length_set]; exact vl0) O121 X123 gz19 ne19 (Bxl.push bx19 (by rw [vl0]; decide) (by decide) (by decide) E122 F122))
    · skip
      refine g_icmp_y B W113 (d_method_2_54) (XT.ii_ge_t hc120) (pc' := 68) (by decide) ?_
      show Go p.tables e below _ T113 (mkF m 68 #[.val (.ref a1), .val (.int n), .val (.int 16)] [])
      exact qj119 _ _ (Wk.more W113 (by decide) (by decide)) (own_mn3 (j := 20) hc120 (by decide) ▸ p113)
  intro T119 h119 W119 p119
  show Go p.tables e below _ T119 (mkF m 68 #[.val (.ref a1), .val (.int n), .val (.int 16)] [])
  refine g_iload_n B W119 (d_method_2_68) rfl ?_
  refine g_iconst B W119 (d_method_2_69) (v := 4) (by decide) ?_
  refine g_iadd B W119 (d_method_2_70)  ?_
  rw [show (16 + 4 : Int32) = 20 by decide]
  refine g_iload_n B W119 (d_method_2_71) rfl ?_
  suffices qj125 : ∀ (T' : State) (h' : Heap), Wk p l e ({ frames := 7, cells := 1, slots := 33, locals := 124 } : Room) s m #[(.ref a1), (.int n), (.int 16)] below meth c Z T' h' 0 0 → (LI Z h' a1 de (mn 21 n)) → Go p.tables e below (Jvm.OwnK.Out Z s (Q_fill16 Z a1 n ca cl de dc mo h0) ({ frames := 7, cells := 1, slots := 33, locals := 124 } : Room).cells ({ frames := 7, cells := 1, slots := 33, locals := 124 } : Room).slots) T' (mkF m 86 #[.val (.ref a1), .val (.int n), .val (.int 16)] []) by
    by_cases hc126 : 20 < n
    · skip
      refine g_icmp_n B W119 (d_method_2_72) (XT.ii_ge_f hc126) ?_
      show Go p.tables e below _ T119 (mkF m 75 #[.val (.ref a1), .val (.int n), .val (.int 16)] [])
      have P127 := p119
      rw [own_mn1 hc126] at P127
      have z127 := W119.size
      obtain ⟨E127, Fs127, Fm127, ⟨q, -⟩ | ⟨-, ea127, kA127, vs20_, Fe127, A127, vl0, O127, X127, gz20, ne20, bx20⟩⟩ := P127
      · exact absurd q (by decide)
      rw [show capI 20 = 22 by decide] at A127 vl0
      have l127 := nlt A127.lt
      have la127 := nlt E127.lt
      refine g_aload_n B W119 (d_method_2_75) rfl rfl ?_
      refine g_iload_n B W119 (d_method_2_76) rfl ?_
      refine g_iconst B W119 (d_method_2_77) (v := 4) (by decide) ?_
      refine g_iadd B W119 (d_method_2_78)  ?_
      rw [show (16 + 4 : Int32) = 20 by decide]
      obtain ⟨T128, h128, v128, W128, Q128, st128⟩ := x_static B W119 [(.int 20)] (c_valueOf l Z a0 hw 20 ca cl h119 (by decide) Sh Sc Bx) (d_method_2_79) (tw hw 152 rfl) (tw hw 153 rfl) (tw hw 154 rfl) (tw hw 155 rfl) (by decide) (lenOf pd__I_Ljava_lang_Integer_ rfl) #[.val (.ref a1), .val (.int n), .val (.int 16)] [(.ref a1)] rfl 1 rfl (by decide) (by decide) (by decide) (by decide)
      obtain ⟨b128, rfl, rfl, E128, F128⟩ := Q128
      refine st128 _ ?_
      obtain ⟨T129, h129, v129, W129, Q129, st129⟩ := x_virtual B W128 (b := a1) [(.ref b128)] (c_addBI l Z a0 hw a1 20 b128 ea127 kA127 vs20_ 20 21 22 h119 E127 Fs127 Fe127 Fm127 (by omega) (E128.ext W128.old.2) A127 vl0 O127 X127 (by omega) ne20 (by decide) (by decide)) E127 (d_method_2_82) (tw hw 159 rfl) (tw hw 160 rfl) (tw hw 161 rfl) (tw hw 90 rfl) (tw hw 2 rfl) (tw hw 93 rfl) (by decide) (lenOf pd__Ljava_lang_Object__Z rfl) #[.val (.ref a1), .val (.int n), .val (.int 16)] [] rfl 0 rfl (by decide) (by decide) (by decide) (by decide)
      obtain ⟨rfl, K129, E129, Fs129, Fe129, Fm129, A129, X129⟩ := Q129
      have s130 := K129.1
      refine st129 _ ?_
      rw [show (20 + 1 : Int32) = 21 by decide] at Fm129
      show Go p.tables e below _ T129 (mkF m 85 #[.val (.ref a1), .val (.int n), .val (.int 16)] [(.int 1)])
      refine g_pop B W129 (d_method_2_85) rfl ?_
      exact qj125 _ _ (Wk.more W129 (by decide) (by decide)) ((own_mn2 hc126 (show (20 + 1 : Int32) = 21 by decide) (by decide)).symm ▸ LI.mk (c := 21) (cap := 22) (by decide) (by decide) E129 Fs129 Fe129 Fm129 A129 (by rw [List.length_set]; exact vl0) O127 X129 gz20 ne20 (Bxl.push bx20 (by rw [vl0]; decide) (by decide) (by decide) E128 F128))
    · skip
      refine g_icmp_y B W119 (d_method_2_72) (XT.ii_ge_t hc126) (pc' := 86) (by decide) ?_
      show Go p.tables e below _ T119 (mkF m 86 #[.val (.ref a1), .val (.int n), .val (.int 16)] [])
      exact qj125 _ _ (Wk.more W119 (by decide) (by decide)) (own_mn3 (j := 21) hc126 (by decide) ▸ p119)
  intro T125 h125 W125 p125
  show Go p.tables e below _ T125 (mkF m 86 #[.val (.ref a1), .val (.int n), .val (.int 16)] [])
  refine g_iload_n B W125 (d_method_2_86) rfl ?_
  refine g_iconst B W125 (d_method_2_87) (v := 5) (by decide) ?_
  refine g_iadd B W125 (d_method_2_88)  ?_
  rw [show (16 + 5 : Int32) = 21 by decide]
  refine g_iload_n B W125 (d_method_2_89) rfl ?_
  suffices qj131 : ∀ (T' : State) (h' : Heap), Wk p l e ({ frames := 7, cells := 1, slots := 33, locals := 124 } : Room) s m #[(.ref a1), (.int n), (.int 16)] below meth c Z T' h' 0 0 → (LI Z h' a1 de (mn 22 n)) → Go p.tables e below (Jvm.OwnK.Out Z s (Q_fill16 Z a1 n ca cl de dc mo h0) ({ frames := 7, cells := 1, slots := 33, locals := 124 } : Room).cells ({ frames := 7, cells := 1, slots := 33, locals := 124 } : Room).slots) T' (mkF m 104 #[.val (.ref a1), .val (.int n), .val (.int 16)] []) by
    by_cases hc132 : 21 < n
    · skip
      refine g_icmp_n B W125 (d_method_2_90) (XT.ii_ge_f hc132) ?_
      show Go p.tables e below _ T125 (mkF m 93 #[.val (.ref a1), .val (.int n), .val (.int 16)] [])
      have P133 := p125
      rw [own_mn1 hc132] at P133
      have z133 := W125.size
      obtain ⟨E133, Fs133, Fm133, ⟨q, -⟩ | ⟨-, ea133, kA133, vs21_, Fe133, A133, vl0, O133, X133, gz21, ne21, bx21⟩⟩ := P133
      · exact absurd q (by decide)
      rw [show capI 21 = 22 by decide] at A133 vl0
      have l133 := nlt A133.lt
      have la133 := nlt E133.lt
      refine g_aload_n B W125 (d_method_2_93) rfl rfl ?_
      refine g_iload_n B W125 (d_method_2_94) rfl ?_
      refine g_iconst B W125 (d_method_2_95) (v := 5) (by decide) ?_
      refine g_iadd B W125 (d_method_2_96)  ?_
      rw [show (16 + 5 : Int32) = 21 by decide]
      obtain ⟨T134, h134, v134, W134, Q134, st134⟩ := x_static B W125 [(.int 21)] (c_valueOf l Z a0 hw 21 ca cl h125 (by decide) Sh Sc Bx) (d_method_2_97) (tw hw 152 rfl) (tw hw 153 rfl) (tw hw 154 rfl) (tw hw 155 rfl) (by decide) (lenOf pd__I_Ljava_lang_Integer_ rfl) #[.val (.ref a1), .val (.int n), .val (.int 16)] [(.ref a1)] rfl 1 rfl (by decide) (by decide) (by decide) (by decide)
      obtain ⟨b134, rfl, rfl, E134, F134⟩ := Q134
      refine st134 _ ?_
      obtain ⟨T135, h135, v135, W135, Q135, st135⟩ := x_virtual B W134 (b := a1) [(.ref b134)] (c_addBI l Z a0 hw a1 21 b134 ea133 kA133 vs21_ 21 22 22 h125 E133 Fs133 Fe133 Fm133 (by omega) (E134.ext W134.old.2) A133 vl0 O133 X133 (by omega) ne21 (by decide) (by decide)) E133 (d_method_2_100) (tw hw 159 rfl) (tw hw 160 rfl) (tw hw 161 rfl) (tw hw 90 rfl) (tw hw 2 rfl) (tw hw 93 rfl) (by decide) (lenOf pd__Ljava_lang_Object__Z rfl) #[.val (.ref a1), .val (.int n), .val (.int 16)] [] rfl 0 rfl (by decide) (by decide) (by decide) (by decide)
      obtain ⟨rfl, K135, E135, Fs135, Fe135, Fm135, A135, X135⟩ := Q135
      have s136 := K135.1
      refine st135 _ ?_
      rw [show (21 + 1 : Int32) = 22 by decide] at Fm135
      show Go p.tables e below _ T135 (mkF m 103 #[.val (.ref a1), .val (.int n), .val (.int 16)] [(.int 1)])
      refine g_pop B W135 (d_method_2_103) rfl ?_
      exact qj131 _ _ (Wk.more W135 (by decide) (by decide)) ((own_mn2 hc132 (show (21 + 1 : Int32) = 22 by decide) (by decide)).symm ▸ LI.mk (c := 22) (cap := 22) (by decide) (by decide) E135 Fs135 Fe135 Fm135 A135 (by rw [List.length_set]; exact vl0) O133 X135 gz21 ne21 (Bxl.push bx21 (by rw [vl0]; decide) (by decide) (by decide) E134 F134))
    · skip
      refine g_icmp_y B W125 (d_method_2_90) (XT.ii_ge_t hc132) (pc' := 104) (by decide) ?_
      show Go p.tables e below _ T125 (mkF m 104 #[.val (.ref a1), .val (.int n), .val (.int 16)] [])
      exact qj131 _ _ (Wk.more W125 (by decide) (by decide)) (own_mn3 (j := 22) hc132 (by decide) ▸ p125)
  intro T131 h131 W131 p131
  show Go p.tables e below _ T131 (mkF m 104 #[.val (.ref a1), .val (.int n), .val (.int 16)] [])
  refine g_iload_n B W131 (d_method_2_104) rfl ?_
  refine g_bipush B W131 (d_method_2_105) (v := 6) (by decide) ?_
  refine g_iadd B W131 (d_method_2_107)  ?_
  rw [show (16 + 6 : Int32) = 22 by decide]
  refine g_iload_n B W131 (d_method_2_108) rfl ?_
  suffices qj137 : ∀ (T' : State) (h' : Heap), Wk p l e ({ frames := 7, cells := 1, slots := 33, locals := 124 } : Room) s m #[(.ref a1), (.int n), (.int 16)] below meth c Z T' h' 1 33 → (LI Z h' a1 de (mn 23 n)) → Go p.tables e below (Jvm.OwnK.Out Z s (Q_fill16 Z a1 n ca cl de dc mo h0) ({ frames := 7, cells := 1, slots := 33, locals := 124 } : Room).cells ({ frames := 7, cells := 1, slots := 33, locals := 124 } : Room).slots) T' (mkF m 124 #[.val (.ref a1), .val (.int n), .val (.int 16)] []) by
    by_cases hc138 : 22 < n
    · skip
      refine g_icmp_n B W131 (d_method_2_109) (XT.ii_ge_f hc138) ?_
      show Go p.tables e below _ T131 (mkF m 112 #[.val (.ref a1), .val (.int n), .val (.int 16)] [])
      have P139 := p131
      rw [own_mn1 hc138] at P139
      have z139 := W131.size
      obtain ⟨E139, Fs139, Fm139, ⟨q, -⟩ | ⟨-, ea139, kA139, vs22_, Fe139, A139, vl0, O139, X139, gz22, ne22, bx22⟩⟩ := P139
      · exact absurd q (by decide)
      rw [show capI 22 = 22 by decide] at A139 vl0
      have l139 := nlt A139.lt
      have la139 := nlt E139.lt
      refine g_aload_n B W131 (d_method_2_112) rfl rfl ?_
      refine g_iload_n B W131 (d_method_2_113) rfl ?_
      refine g_bipush B W131 (d_method_2_114) (v := 6) (by decide) ?_
      refine g_iadd B W131 (d_method_2_116)  ?_
      rw [show (16 + 6 : Int32) = 22 by decide]
      obtain ⟨T140, h140, v140, W140, Q140, st140⟩ := x_static B W131 [(.int 22)] (c_valueOf l Z a0 hw 22 ca cl h131 (by decide) Sh Sc Bx) (d_method_2_117) (tw hw 152 rfl) (tw hw 153 rfl) (tw hw 154 rfl) (tw hw 155 rfl) (by decide) (lenOf pd__I_Ljava_lang_Integer_ rfl) #[.val (.ref a1), .val (.int n), .val (.int 16)] [(.ref a1)] rfl 1 rfl (by decide) (by decide) (by decide) (by decide)
      obtain ⟨b140, rfl, rfl, E140, F140⟩ := Q140
      refine st140 _ ?_
      obtain ⟨T141, h141, v141, W141, Q141, st141⟩ := x_virtual B W140 (b := a1) [(.ref b140)] (c_addG22 l Z a0 hw a1 22 b140 ea139 kA139 vs22_ mo h131 E139 Fs139 Fe139 Fm139 (by omega) (E140.ext W140.old.2) A139 (fun i hi => by obtain ⟨y, e, E, -⟩ := bx22 i hi; exact ⟨y, e, E⟩) X139 ne22 Mo) E139 (d_method_2_120) (tw hw 159 rfl) (tw hw 160 rfl) (tw hw 161 rfl) (tw hw 90 rfl) (tw hw 2 rfl) (tw hw 93 rfl) (by decide) (lenOf pd__Ljava_lang_Object__Z rfl) #[.val (.ref a1), .val (.int n), .val (.int 16)] [] rfl 0 rfl (by decide) (by decide) (by decide) (by decide)
      obtain ⟨ea141, kB141, vs141, rfl, gb141, K141, E141, Fs141, Fe141, Fm141, A141, X141, vl141, O141, ag141⟩ := Q141
      have s142 := K141.1
      refine st141 _ ?_
      rw [show (22 + 1 : Int32) = 23 by decide] at Fm141
      have l141 := nlt A141.lt
      show Go p.tables e below _ T141 (mkF m 123 #[.val (.ref a1), .val (.int n), .val (.int 16)] [(.int 1)])
      refine g_pop B W141 (d_method_2_123) rfl ?_
      exact qj137 _ _ (Wk.more W141 (by decide) (by decide)) ((own_mn2 hc138 (show (22 + 1 : Int32) = 23 by decide) (by decide)).symm ▸ LI.mk (c := 23) (cap := 33) (by decide) (by decide) E141 Fs141 Fe141 Fm141 A141 (by rw [List.length_set]; exact vl141) O141 X141 (by omega) (by omega) (Bxl.push (Bxl.agree bx22 ag141) (by rw [vl141]; decide) (by decide) (by decide) E140 F140))
    · skip
      refine g_icmp_y B W131 (d_method_2_109) (XT.ii_ge_t hc138) (pc' := 124) (by decide) ?_
      show Go p.tables e below _ T131 (mkF m 124 #[.val (.ref a1), .val (.int n), .val (.int 16)] [])
      exact qj137 _ _ (Wk.more W131 (by decide) (by decide)) (own_mn3 (j := 23) hc138 (by decide) ▸ p131)
  intro T137 h137 W137 p137
  show Go p.tables e below _ T137 (mkF m 124 #[.val (.ref a1), .val (.int n), .val (.int 16)] [])
  refine g_iload_n B W137 (d_method_2_124) rfl ?_
  refine g_bipush B W137 (d_method_2_125) (v := 7) (by decide) ?_
  refine g_iadd B W137 (d_method_2_127)  ?_
  rw [show (16 + 7 : Int32) = 23 by decide]
  refine g_iload_n B W137 (d_method_2_128) rfl ?_
  suffices qj143 : ∀ (T' : State) (h' : Heap), Wk p l e ({ frames := 7, cells := 1, slots := 33, locals := 124 } : Room) s m #[(.ref a1), (.int n), (.int 16)] below meth c Z T' h' 1 33 → (LI Z h' a1 de (mn 24 n)) → Go p.tables e below (Jvm.OwnK.Out Z s (Q_fill16 Z a1 n ca cl de dc mo h0) ({ frames := 7, cells := 1, slots := 33, locals := 124 } : Room).cells ({ frames := 7, cells := 1, slots := 33, locals := 124 } : Room).slots) T' (mkF m 144 #[.val (.ref a1), .val (.int n), .val (.int 16)] []) by
    by_cases hc144 : 23 < n
    · skip
      refine g_icmp_n B W137 (d_method_2_129) (XT.ii_ge_f hc144) ?_
      show Go p.tables e below _ T137 (mkF m 132 #[.val (.ref a1), .val (.int n), .val (.int 16)] [])
      have P145 := p137
      rw [own_mn1 hc144] at P145
      have z145 := W137.size
      obtain ⟨E145, Fs145, Fm145, ⟨q, -⟩ | ⟨-, ea145, kA145, vs23_, Fe145, A145, vl0, O145, X145, gz23, ne23, bx23⟩⟩ := P145
      · exact absurd q (by decide)
      rw [show capI 23 = 33 by decide] at A145 vl0
      have l145 := nlt A145.lt
      have la145 := nlt E145.lt
      refine g_aload_n B W137 (d_method_2_132) rfl rfl ?_
      refine g_iload_n B W137 (d_method_2_133) rfl ?_
      refine g_bipush B W137 (d_method_2_134) (v := 7) (by decide) ?_
      refine g_iadd B W137 (d_method_2_136)  ?_
      rw [show (16 + 7 : Int32) = 23 by decide]
      obtain ⟨T146, h146, v146, W146, Q146, st146⟩ := x_static B W137 [(.int 23)] (c_valueOf l Z a0 hw 23 ca cl h137 (by decide) Sh Sc Bx) (d_method_2_137) (tw hw 152 rfl) (tw hw 153 rfl) (tw hw 154 rfl) (tw hw 155 rfl) (by decide) (lenOf pd__I_Ljava_lang_Integer_ rfl) #[.val (.ref a1), .val (.int n), .val (.int 16)] [(.ref a1)] rfl 1 rfl (by decide) (by decide) (by decide) (by decide)
      obtain ⟨b146, rfl, rfl, E146, F146⟩ := Q146
      refine st146 _ ?_
      obtain ⟨T147, h147, v147, W147, Q147, st147⟩ := x_virtual B W146 (b := a1) [(.ref b146)] (c_addBI l Z a0 hw a1 23 b146 ea145 kA145 vs23_ 23 24 33 h137 E145 Fs145 Fe145 Fm145 (by omega) (E146.ext W146.old.2) A145 vl0 O145 X145 (by omega) ne23 (by decide) (by decide)) E145 (d_method_2_140) (tw hw 159 rfl) (tw hw 160 rfl) (tw hw 161 rfl) (tw hw 90 rfl) (tw hw 2 rfl) (tw hw 93 rfl) (by decide) (lenOf pd__Ljava_lang_Object__Z rfl) #[.val (.ref a1), .val (.int n), .val (.int 16)] [] rfl 0 rfl (by decide) (by decide) (by decide) (by decide)
      obtain ⟨rfl, K147, E147, Fs147, Fe147, Fm147, A147, X147⟩ := Q147
      have s148 := K147.1
      refine st147 _ ?_
      rw [show (23 + 1 : Int32) = 24 by decide] at Fm147
      show Go p.tables e below _ T147 (mkF m 143 #[.val (.ref a1), .val (.int n), .val (.int 16)] [(.int 1)])
      refine g_pop B W147 (d_method_2_143) rfl ?_
      exact qj143 _ _ (Wk.more W147 (by decide) (by decide)) ((own_mn2 hc144 (show (23 + 1 : Int32) = 24 by decide) (by decide)).symm ▸ LI.mk (c := 24) (cap := 33) (by decide) (by decide) E147 Fs147 Fe147 Fm147 A147 (by rw [List.length_set]; exact vl0) O145 X147 gz23 ne23 (Bxl.push bx23 (by rw [vl0]; decide) (by decide) (by decide) E146 F146))
    · skip
      refine g_icmp_y B W137 (d_method_2_129) (XT.ii_ge_t hc144) (pc' := 144) (by decide) ?_
      show Go p.tables e below _ T137 (mkF m 144 #[.val (.ref a1), .val (.int n), .val (.int 16)] [])
      exact qj143 _ _ (Wk.more W137 (by decide) (by decide)) (own_mn3 (j := 24) hc144 (by decide) ▸ p137)
  intro T143 h143 W143 p143
  show Go p.tables e below _ T143 (mkF m 144 #[.val (.ref a1), .val (.int n), .val (.int 16)] [])
  exact r_v B W143 (d_method_2_144) (by decide) (by decide) ⟨rfl, p143⟩
theorem ef_fill24 (m : MethodId) (a1 : Addr) (n : Int32) (ca : Addr) (cl : Cell) (de : Addr) (dc : Cell) (mo : Addr) : entryFrame m #[(.ref a1), (.int n), (.int 24)] 3 = mkF m 0 #[.val (.ref a1), .val (.int n), .val (.int 24)] [] := by first | (simp [entryFrame, mkF, argsToLocals, Value.category]; done) | rfl
def Q_fill24 (Z : State) (a1 : Addr) (n : Int32) (ca : Addr) (cl : Cell) (de : Addr) (dc : Cell) (mo : Addr) (h0 : Heap) (v : Option Value) (h : Heap) : Prop := v = none ∧ LI Z h a1 de (mn 32 n)
set_option maxRecDepth 65536 in
set_option maxHeartbeats 40000000 in
theorem c_fill24 (l : Launch) (Z : State) (a0 : Array Value) (hw : ∀ d ∈ tables_1, d.before a0 Z = true) (a1 : Addr) (n : Int32) (ca : Addr) (cl : Cell) (de : Addr) (dc : Cell) (mo : Addr) (h0 : Heap) (P0 : LI Z h0 a1 de (mn 24 n)) (g1 : Z.heap.size ≤ a1) (Sh : Sta Z Z.heap "java/lang/Integer$IntegerCache" "high" "I" (.int 127)) (Sc : Sta Z Z.heap "java/lang/Integer$IntegerCache" "cache" "[Ljava/lang/Integer;" (.ref ca)) (Bx : Bxs Z ca cl "java/lang/Integer" "I" 256 (fun j => .int (j - 128))) (Sde : Sta Z Z.heap "java/util/ArrayList" "DEFAULTCAPACITY_EMPTY_ELEMENTDATA" "[Ljava/lang/Object;" (.ref de)) (Ade : Arr Z Z.heap de dc (.object "java/lang/Object")) (lde : dc.slots.size.toInt32 = 0) (Mo : Mi Z "[Ljava/lang/Object;" mo) :
    Con l Z (⟨"com/example/presswright/presswright/publishing/PagingPagesPinLaw", "fill8", "(Ljava/util/ArrayList;II)V"⟩ : MethodName) method_2_code 3 (Option.none : Option FieldType) [] ({ frames := 7, cells := 0, slots := 0, locals := 124 } : Room) #[(.ref a1), (.int n), (.int 24)] h0 (Q_fill24 Z a1 n ca cl de dc mo h0) := by
  refine Con.of (plainFor_of_name pn_com_example_presswright_presswright_publishing_PagingPagesPinLaw) ?_
  intro p e s m below meth c T0 B W0
  refine Go.cast (ef_fill24 m a1 n ca cl de dc mo ) ?_
  refine g_iload_n B W0 (d_method_2_0) rfl ?_
  refine g_iload_n B W0 (d_method_2_1) rfl ?_
  suffices qj101 : ∀ (T' : State) (h' : Heap), Wk p l e ({ frames := 7, cells := 0, slots := 0, locals := 124 } : Room) s m #[(.ref a1), (.int n), (.int 24)] below meth c Z T' h' 0 0 → (LI Z h' a1 de (mn 25 n)) → Go p.tables e below (Jvm.OwnK.Out Z s (Q_fill24 Z a1 n ca cl de dc mo h0) ({ frames := 7, cells := 0, slots := 0, locals := 124 } : Room).cells ({ frames := 7, cells := 0, slots := 0, locals := 124 } : Room).slots) T' (mkF m 14 #[.val (.ref a1), .val (.int n), .val (.int 24)] []) by
    by_cases hc102 : 24 < n
    · skip
      refine g_icmp_n B W0 (d_method_2_2) (XT.ii_ge_f hc102) ?_
      show Go p.tables e below _ T0 (mkF m 5 #[.val (.ref a1), .val (.int n), .val (.int 24)] [])
      have P103 := P0
      rw [own_mn1 hc102] at P103
      have z103 := W0.size
      obtain ⟨E103, Fs103, Fm103, ⟨q, -⟩ | ⟨-, ea103, kA103, vs24_, Fe103, A103, vl0, O103, X103, gz24, ne24, bx24⟩⟩ := P103
      · exact absurd q (by decide)
      rw [show capI 24 = 33 by decide] at A103 vl0
      have l103 := nlt A103.lt
      have la103 := nlt E103.lt
      refine g_aload_n B W0 (d_method_2_5) rfl rfl ?_
      refine g_iload_n B W0 (d_method_2_6) rfl ?_
      obtain ⟨T104, h104, v104, W104, Q104, st104⟩ := x_static B W0 [(.int 24)] (c_valueOf l Z a0 hw 24 ca cl h0 (by decide) Sh Sc Bx) (d_method_2_7) (tw hw 152 rfl) (tw hw 153 rfl) (tw hw 154 rfl) (tw hw 155 rfl) (by decide) (lenOf pd__I_Ljava_lang_Integer_ rfl) #[.val (.ref a1), .val (.int n), .val (.int 24)] [(.ref a1)] rfl 1 rfl (by decide) (by decide) (by decide) (by decide)
      obtain ⟨b104, rfl, rfl, E104, F104⟩ := Q104
      refine st104 _ ?_
      obtain ⟨T105, h105, v105, W105, Q105, st105⟩ := x_virtual B W104 (b := a1) [(.ref b104)] (c_addBI l Z a0 hw a1 24 b104 ea103 kA103 vs24_ 24 25 33 h0 E103 Fs103 Fe103 Fm103 (by omega) (E104.ext W104.old.2) A103 vl0 O103 X103 (by omega) ne24 (by decide) (by decide)) E103 (d_method_2_10) (tw hw 159 rfl) (tw hw 160 rfl) (tw hw 161 rfl) (tw hw 90 rfl) (tw hw 2 rfl) (tw hw 93 rfl) (by decide) (lenOf pd__Ljava_lang_Object__Z rfl) #[.val (.ref a1), .val (.int n), .val (.int 24)] [] rfl 0 rfl (by decide) (by decide) (by decide) (by decide)
      obtain ⟨rfl, K105, E105, Fs105, Fe105, Fm105, A105, X105⟩ := Q105
      have s106 := K105.1
      refine st105 _ ?_
      rw [show (24 + 1 : Int32) = 25 by decide] at Fm105
      show Go p.tables e below _ T105 (mkF m 13 #[.val (.ref a1), .val (.int n), .val (.int 24)] [(.int 1)])
      refine g_pop B W105 (d_method_2_13) rfl ?_
      exact qj101 _ _ (Wk.more W105 (by decide) (by decide)) ((own_mn2 hc102 (show (24 + 1 : Int32) = 25 by decide) (by decide)).symm ▸ LI.mk (c := 25) (cap := 33) (by decide) (by decide) E105 Fs105 Fe105 Fm105 A105 (by rw [List.length_set]; exact vl0) O103 X105 gz24 ne24 (Bxl.push bx24 (by rw [vl0]; decide) (by decide) (by decide) E104 F104))
    · skip
      refine g_icmp_y B W0 (d_method_2_2) (XT.ii_ge_t hc102) (pc' := 14) (by decide) ?_
      show Go p.tables e below _ T0 (mkF m 14 #[.val (.ref a1), .val (.int n), .val (.int 24)] [])
      exact qj101 _ _ (Wk.more W0 (by decide) (by decide)) (own_mn3 (j := 25) hc102 (by decide) ▸ P0)
  intro T101 h101 W101 p101
  show Go p.tables e below _ T101 (mkF m 14 #[.val (.ref a1), .val (.int n), .val (.int 24)] [])
  refine g_iload_n B W101 (d_method_2_14) rfl ?_
  refine g_iconst B W101 (d_method_2_15) (v := 1) (by decide) ?_
  refine g_iadd B W101 (d_method_2_16)  ?_
  rw [show (24 + 1 : Int32) = 25 by decide]
  refine g_iload_n B W101 (d_method_2_17) rfl ?_
  suffices qj107 : ∀ (T' : State) (h' : Heap), Wk p l e ({ frames := 7, cells := 0, slots := 0, locals := 124 } : Room) s m #[(.ref a1), (.int n), (.int 24)] below meth c Z T' h' 0 0 → (LI Z h' a1 de (mn 26 n)) → Go p.tables e below (Jvm.OwnK.Out Z s (Q_fill24 Z a1 n ca cl de dc mo h0) ({ frames := 7, cells := 0, slots := 0, locals := 124 } : Room).cells ({ frames := 7, cells := 0, slots := 0, locals := 124 } : Room).slots) T' (mkF m 32 #[.val (.ref a1), .val (.int n), .val (.int 24)] []) by
    by_cases hc108 : 25 < n
    · skip
      refine g_icmp_n B W101 (d_method_2_18) (XT.ii_ge_f hc108) ?_
      show Go p.tables e below _ T101 (mkF m 21 #[.val (.ref a1), .val (.int n), .val (.int 24)] [])
      have P109 := p101
      rw [own_mn1 hc108] at P109
      have z109 := W101.size
      obtain ⟨E109, Fs109, Fm109, ⟨q, -⟩ | ⟨-, ea109, kA109, vs25_, Fe109, A109, vl0, O109, X109, gz25, ne25, bx25⟩⟩ := P109
      · exact absurd q (by decide)
      rw [show capI 25 = 33 by decide] at A109 vl0
      have l109 := nlt A109.lt
      have la109 := nlt E109.lt
      refine g_aload_n B W101 (d_method_2_21) rfl rfl ?_
      refine g_iload_n B W101 (d_method_2_22) rfl ?_
      refine g_iconst B W101 (d_method_2_23) (v := 1) (by decide) ?_
      refine g_iadd B W101 (d_method_2_24)  ?_
      rw [show (24 + 1 : Int32) = 25 by decide]
      obtain ⟨T110, h110, v110, W110, Q110, st110⟩ := x_static B W101 [(.int 25)] (c_valueOf l Z a0 hw 25 ca cl h101 (by decide) Sh Sc Bx) (d_method_2_25) (tw hw 152 rfl) (tw hw 153 rfl) (tw hw 154 rfl) (tw hw 155 rfl) (by decide) (lenOf pd__I_Ljava_lang_Integer_ rfl) #[.val (.ref a1), .val (.int n), .val (.int 24)] [(.ref a1)] rfl 1 rfl (by decide) (by decide) (by decide) (by decide)
      obtain ⟨b110, rfl, rfl, E110, F110⟩ := Q110
      refine st110 _ ?_
      obtain ⟨T111, h111, v111, W111, Q111, st111⟩ := x_virtual B W110 (b := a1) [(.ref b110)] (c_addBI l Z a0 hw a1 25 b110 ea109 kA109 vs25_ 25 26 33 h101 E109 Fs109 Fe109 Fm109 (by omega) (E110.ext W110.old.2) A109 vl0 O109 X109 (by omega) ne25 (by decide) (by decide)) E109 (d_method_2_28) (tw hw 159 rfl) (tw hw 160 rfl) (tw hw 161 rfl) (tw hw 90 rfl) (tw hw 2 rfl) (tw hw 93 rfl) (by decide) (lenOf pd__Ljava_lang_Object__Z rfl) #[.val (.ref a1), .val (.int n), .val (.int 24)] [] rfl 0 rfl (by decide) (by decide) (by decide) (by decide)
      obtain ⟨rfl, K111, E111, Fs111, Fe111, Fm111, A111, X111⟩ := Q111
      have s112 := K111.1
      refine st111 _ ?_
      rw [show (25 + 1 : Int32) = 26 by decide] at Fm111
      show Go p.tables e below _ T111 (mkF m 31 #[.val (.ref a1), .val (.int n), .val (.int 24)] [(.int 1)])
      refine g_pop B W111 (d_method_2_31) rfl ?_
      exact qj107 _ _ (Wk.more W111 (by decide) (by decide)) ((own_mn2 hc108 (show (25 + 1 : Int32) = 26 by decide) (by decide)).symm ▸ LI.mk (c := 26) (cap := 33) (by decide) (by decide) E111 Fs111 Fe111 Fm111 A111 (by rw [List.length_set]; exact vl0) O109 X111 gz25 ne25 (Bxl.push bx25 (by rw [vl0]; decide) (by decide) (by decide) E110 F110))
    · skip
      refine g_icmp_y B W101 (d_method_2_18) (XT.ii_ge_t hc108) (pc' := 32) (by decide) ?_
      show Go p.tables e below _ T101 (mkF m 32 #[.val (.ref a1), .val (.int n), .val (.int 24)] [])
      exact qj107 _ _ (Wk.more W101 (by decide) (by decide)) (own_mn3 (j := 26) hc108 (by decide) ▸ p101)
  intro T107 h107 W107 p107
  show Go p.tables e below _ T107 (mkF m 32 #[.val (.ref a1), .val (.int n), .val (.int 24)] [])
  refine g_iload_n B W107 (d_method_2_32) rfl ?_
  refine g_iconst B W107 (d_method_2_33) (v := 2) (by decide) ?_
  refine g_iadd B W107 (d_method_2_34)  ?_
  rw [show (24 + 2 : Int32) = 26 by decide]
  refine g_iload_n B W107 (d_method_2_35) rfl ?_
  suffices qj113 : ∀ (T' : State) (h' : Heap), Wk p l e ({ frames := 7, cells := 0, slots := 0, locals := 124 } : Room) s m #[(.ref a1), (.int n), (.int 24)] below meth c Z T' h' 0 0 → (LI Z h' a1 de (mn 27 n)) → Go p.tables e below (Jvm.OwnK.Out Z s (Q_fill24 Z a1 n ca cl de dc mo h0) ({ frames := 7, cells := 0, slots := 0, locals := 124 } : Room).cells ({ frames := 7, cells := 0, slots := 0, locals := 124 } : Room).slots) T' (mkF m 50 #[.val (.ref a1), .val (.int n), .val (.int 24)] []) by
    by_cases hc114 : 26 < n
    · skip
      refine g_icmp_n B W107 (d_method_2_36) (XT.ii_ge_f hc114) ?_
      show Go p.tables e below _ T107 (mkF m 39 #[.val (.ref a1), .val (.int n), .val (.int 24)] [])
      have P115 := p107
      rw [own_mn1 hc114] at P115
      have z115 := W107.size
      obtain ⟨E115, Fs115, Fm115, ⟨q, -⟩ | ⟨-, ea115, kA115, vs26_, Fe115, A115, vl0, O115, X115, gz26, ne26, bx26⟩⟩ := P115
      · exact absurd q (by decide)
      rw [show capI 26 = 33 by decide] at A115 vl0
      have l115 := nlt A115.lt
      have la115 := nlt E115.lt
      refine g_aload_n B W107 (d_method_2_39) rfl rfl ?_
      refine g_iload_n B W107 (d_method_2_40) rfl ?_
      refine g_iconst B W107 (d_method_2_41) (v := 2) (by decide) ?_
      refine g_iadd B W107 (d_method_2_42)  ?_
      rw [show (24 + 2 : Int32) = 26 by decide]
      obtain ⟨T116, h116, v116, W116, Q116, st116⟩ := x_static B W107 [(.int 26)] (c_valueOf l Z a0 hw 26 ca cl h107 (by decide) Sh Sc Bx) (d_method_2_43) (tw hw 152 rfl) (tw hw 153 rfl) (tw hw 154 rfl) (tw hw 155 rfl) (by decide) (lenOf pd__I_Ljava_lang_Integer_ rfl) #[.val (.ref a1), .val (.int n), .val (.int 24)] [(.ref a1)] rfl 1 rfl (by decide) (by decide) (by decide) (by decide)
      obtain ⟨b116, rfl, rfl, E116, F116⟩ := Q116
      refine st116 _ ?_
      obtain ⟨T117, h117, v117, W117, Q117, st117⟩ := x_virtual B W116 (b := a1) [(.ref b116)] (c_addBI l Z a0 hw a1 26 b116 ea115 kA115 vs26_ 26 27 33 h107 E115 Fs115 Fe115 Fm115 (by omega) (E116.ext W116.old.2) A115 vl0 O115 X115 (by omega) ne26 (by decide) (by decide)) E115 (d_method_2_46) (tw hw 159 rfl) (tw hw 160 rfl) (tw hw 161 rfl) (tw hw 90 rfl) (tw hw 2 rfl) (tw hw 93 rfl) (by decide) (lenOf pd__Ljava_lang_Object__Z rfl) #[.val (.ref a1), .val (.int n), .val (.int 24)] [] rfl 0 rfl (by decide) (by decide) (by decide) (by decide)
      obtain ⟨rfl, K117, E117, Fs117, Fe117, Fm117, A117, X117⟩ := Q117
      have s118 := K117.1
      refine st117 _ ?_
      rw [show (26 + 1 : Int32) = 27 by decide] at Fm117
      show Go p.tables e below _ T117 (mkF m 49 #[.val (.ref a1), .val (.int n), .val (.int 24)] [(.int 1)])
      refine g_pop B W117 (d_method_2_49) rfl ?_
      exact qj113 _ _ (Wk.more W117 (by decide) (by decide)) ((own_mn2 hc114 (show (26 + 1 : Int32) = 27 by decide) (by decide)).symm ▸ LI.mk (c := 27) (cap := 33) (by decide) (by decide) E117 Fs117 Fe117 Fm117 A117 (by rw [List.length_set]; exact vl0) O115 X117 gz26 ne26 (Bxl.push bx26 (by rw [vl0]; decide) (by decide) (by decide) E116 F116))
    · skip
      refine g_icmp_y B W107 (d_method_2_36) (XT.ii_ge_t hc114) (pc' := 50) (by decide) ?_
      show Go p.tables e below _ T107 (mkF m 50 #[.val (.ref a1), .val (.int n), .val (.int 24)] [])
      exact qj113 _ _ (Wk.more W107 (by decide) (by decide)) (own_mn3 (j := 27) hc114 (by decide) ▸ p107)
  intro T113 h113 W113 p113
  show Go p.tables e below _ T113 (mkF m 50 #[.val (.ref a1), .val (.int n), .val (.int 24)] [])
  refine g_iload_n B W113 (d_method_2_50) rfl ?_
  refine g_iconst B W113 (d_method_2_51) (v := 3) (by decide) ?_
  refine g_iadd B W113 (d_method_2_52)  ?_
  rw [show (24 + 3 : Int32) = 27 by decide]
  refine g_iload_n B W113 (d_method_2_53) rfl ?_
  suffices qj119 : ∀ (T' : State) (h' : Heap), Wk p l e ({ frames := 7, cells := 0, slots := 0, locals := 124 } : Room) s m #[(.ref a1), (.int n), (.int 24)] below meth c Z T' h' 0 0 → (LI Z h' a1 de (mn 28 n)) → Go p.tables e below (Jvm.OwnK.Out Z s (Q_fill24 Z a1 n ca cl de dc mo h0) ({ frames := 7, cells := 0, slots := 0, locals := 124 } : Room).cells ({ frames := 7, cells := 0, slots := 0, locals := 124 } : Room).slots) T' (mkF m 68 #[.val (.ref a1), .val (.int n), .val (.int 24)] []) by
    by_cases hc120 : 27 < n
    · skip
      refine g_icmp_n B W113 (d_method_2_54) (XT.ii_ge_f hc120) ?_
      show Go p.tables e below _ T113 (mkF m 57 #[.val (.ref a1), .val (.int n), .val (.int 24)] [])
      have P121 := p113
      rw [own_mn1 hc120] at P121
      have z121 := W113.size
      obtain ⟨E121, Fs121, Fm121, ⟨q, -⟩ | ⟨-, ea121, kA121, vs27_, Fe121, A121, vl0, O121, X121, gz27, ne27, bx27⟩⟩ := P121
      · exact absurd q (by decide)
      rw [show capI 27 = 33 by decide] at A121 vl0
      have l121 := nlt A121.lt
      have la121 := nlt E121.lt
      refine g_aload_n B W113 (d_method_2_57) rfl rfl ?_
      refine g_iload_n B W113 (d_method_2_58) rfl ?_
      refine g_iconst B W113 (d_method_2_59) (v := 3) (by decide) ?_
      refine g_iadd B W113 (d_method_2_60)  ?_
      rw [show (24 + 3 : Int32) = 27 by decide]
      obtain ⟨T122, h122, v122, W122, Q122, st122⟩ := x_static B W113 [(.int 27)] (c_valueOf l Z a0 hw 27 ca cl h113 (by decide) Sh Sc Bx) (d_method_2_61) (tw hw 152 rfl) (tw hw 153 rfl) (tw hw 154 rfl) (tw hw 155 rfl) (by decide) (lenOf pd__I_Ljava_lang_Integer_ rfl) #[.val (.ref a1), .val (.int n), .val (.int 24)] [(.ref a1)] rfl 1 rfl (by decide) (by decide) (by decide) (by decide)
      obtain ⟨b122, rfl, rfl, E122, F122⟩ := Q122
      refine st122 _ ?_
      obtain ⟨T123, h123, v123, W123, Q123, st123⟩ := x_virtual B W122 (b := a1) [(.ref b122)] (c_addBI l Z a0 hw a1 27 b122 ea121 kA121 vs27_ 27 28 33 h113 E121 Fs121 Fe121 Fm121 (by omega) (E122.ext W122.old.2) A121 vl0 O121 X121 (by omega) ne27 (by decide) (by decide)) E121 (d_method_2_64) (tw hw 159 rfl) (tw hw 160 rfl) (tw hw 161 rfl) (tw hw 90 rfl) (tw hw 2 rfl) (tw hw 93 rfl) (by decide) (lenOf pd__Ljava_lang_Object__Z rfl) #[.val (.ref a1), .val (.int n), .val (.int 24)] [] rfl 0 rfl (by decide) (by decide) (by decide) (by decide)
      obtain ⟨rfl, K123, E123, Fs123, Fe123, Fm123, A123, X123⟩ := Q123
      have s124 := K123.1
      refine st123 _ ?_
      rw [show (27 + 1 : Int32) = 28 by decide] at Fm123
      show Go p.tables e below _ T123 (mkF m 67 #[.val (.ref a1), .val (.int n), .val (.int 24)] [(.int 1)])
      refine g_pop B W123 (d_method_2_67) rfl ?_
      exact qj119 _ _ (Wk.more W123 (by decide) (by decide)) ((own_mn2 hc120 (show (27 + 1 : Int32) = 28 by decide) (by decide)).symm ▸ LI.mk (c := 28) (cap := 33) (by decide) (by decide) E123 Fs123 Fe123 Fm123 A123 (by rw [List.length_set]; exact vl0) O121 X123 gz27 ne27 (Bxl.push bx27 (by rw [vl0]; decide) (by decide) (by decide) E122 F122))
    · skip
      refine g_icmp_y B W113 (d_method_2_54) (XT.ii_ge_t hc120) (pc' := 68) (by decide) ?_
      show Go p.tables e below _ T113 (mkF m 68 #[.val (.ref a1), .val (.int n), .val (.int 24)] [])
      exact qj119 _ _ (Wk.more W113 (by decide) (by decide)) (own_mn3 (j := 28) hc120 (by decide) ▸ p113)
  intro T119 h119 W119 p119
  show Go p.tables e below _ T119 (mkF m 68 #[.val (.ref a1), .val (.int n), .val (.int 24)] [])
  refine g_iload_n B W119 (d_method_2_68) rfl ?_
  refine g_iconst B W119 (d_method_2_69) (v := 4) (by decide) ?_
  refine g_iadd B W119 (d_method_2_70)  ?_
  rw [show (24 + 4 : Int32) = 28 by decide]
  refine g_iload_n B W119 (d_method_2_71) rfl ?_
  suffices qj125 : ∀ (T' : State) (h' : Heap), Wk p l e ({ frames := 7, cells := 0, slots := 0, locals := 124 } : Room) s m #[(.ref a1), (.int n), (.int 24)] below meth c Z T' h' 0 0 → (LI Z h' a1 de (mn 29 n)) → Go p.tables e below (Jvm.OwnK.Out Z s (Q_fill24 Z a1 n ca cl de dc mo h0) ({ frames := 7, cells := 0, slots := 0, locals := 124 } : Room).cells ({ frames := 7, cells := 0, slots := 0, locals := 124 } : Room).slots) T' (mkF m 86 #[.val (.ref a1), .val (.int n), .val (.int 24)] []) by
    by_cases hc126 : 28 < n
    · skip
      refine g_icmp_n B W119 (d_method_2_72) (XT.ii_ge_f hc126) ?_
      show Go p.tables e below _ T119 (mkF m 75 #[.val (.ref a1), .val (.int n), .val (.int 24)] [])
      have P127 := p119
      rw [own_mn1 hc126] at P127
      have z127 := W119.size
      obtain ⟨E127, Fs127, Fm127, ⟨q, -⟩ | ⟨-, ea127, kA127, vs28_, Fe127, A127, vl0, O127, X127, gz28, ne28, bx28⟩⟩ := P127
      · exact absurd q (by decide)
      rw [show capI 28 = 33 by decide] at A127 vl0
      have l127 := nlt A127.lt
      have la127 := nlt E127.lt
      refine g_aload_n B W119 (d_method_2_75) rfl rfl ?_
      refine g_iload_n B W119 (d_method_2_76) rfl ?_
      refine g_iconst B W119 (d_method_2_77) (v := 4) (by decide) ?_
      refine g_iadd B W119 (d_method_2_78)  ?_
      rw [show (24 + 4 : Int32) = 28 by decide]
      obtain ⟨T128, h128, v128, W128, Q128, st128⟩ := x_static B W119 [(.int 28)] (c_valueOf l Z a0 hw 28 ca cl h119 (by decide) Sh Sc Bx) (d_method_2_79) (tw hw 152 rfl) (tw hw 153 rfl) (tw hw 154 rfl) (tw hw 155 rfl) (by decide) (lenOf pd__I_Ljava_lang_Integer_ rfl) #[.val (.ref a1), .val (.int n), .val (.int 24)] [(.ref a1)] rfl 1 rfl (by decide) (by decide) (by decide) (by decide)
      obtain ⟨b128, rfl, rfl, E128, F128⟩ := Q128
      refine st128 _ ?_
      obtain ⟨T129, h129, v129, W129, Q129, st129⟩ := x_virtual B W128 (b := a1) [(.ref b128)] (c_addBI l Z a0 hw a1 28 b128 ea127 kA127 vs28_ 28 29 33 h119 E127 Fs127 Fe127 Fm127 (by omega) (E128.ext W128.old.2) A127 vl0 O127 X127 (by omega) ne28 (by decide) (by decide)) E127 (d_method_2_82) (tw hw 159 rfl) (tw hw 160 rfl) (tw hw 161 rfl) (tw hw 90 rfl) (tw hw 2 rfl) (tw hw 93 rfl) (by decide) (lenOf pd__Ljava_lang_Object__Z rfl) #[.val (.ref a1), .val (.int n), .val (.int 24)] [] rfl 0 rfl (by decide) (by decide) (by decide) (by decide)
      obtain ⟨rfl, K129, E129, Fs129, Fe129, Fm129, A129, X129⟩ := Q129
      have s130 := K129.1
      refine st129 _ ?_
      rw [show (28 + 1 : Int32) = 29 by decide] at Fm129
      show Go p.tables e below _ T129 (mkF m 85 #[.val (.ref a1), .val (.int n), .val (.int 24)] [(.int 1)])
      refine g_pop B W129 (d_method_2_85) rfl ?_
      exact qj125 _ _ (Wk.more W129 (by decide) (by decide)) ((own_mn2 hc126 (show (28 + 1 : Int32) = 29 by decide) (by decide)).symm ▸ LI.mk (c := 29) (cap := 33) (by decide) (by decide) E129 Fs129 Fe129 Fm129 A129 (by rw [List.length_set]; exact vl0) O127 X129 gz28 ne28 (Bxl.push bx28 (by rw [vl0]; decide) (by decide) (by decide) E128 F128))
    · skip
      refine g_icmp_y B W119 (d_method_2_72) (XT.ii_ge_t hc126) (pc' := 86) (by decide) ?_
      show Go p.tables e below _ T119 (mkF m 86 #[.val (.ref a1), .val (.int n), .val (.int 24)] [])
      exact qj125 _ _ (Wk.more W119 (by decide) (by decide)) (own_mn3 (j := 29) hc126 (by decide) ▸ p119)
  intro T125 h125 W125 p125
  show Go p.tables e below _ T125 (mkF m 86 #[.val (.ref a1), .val (.int n), .val (.int 24)] [])
  refine g_iload_n B W125 (d_method_2_86) rfl ?_
  refine g_iconst B W125 (d_method_2_87) (v := 5) (by decide) ?_
  refine g_iadd B W125 (d_method_2_88)  ?_
  rw [show (24 + 5 : Int32) = 29 by decide]
  refine g_iload_n B W125 (d_method_2_89) rfl ?_
  suffices qj131 : ∀ (T' : State) (h' : Heap), Wk p l e ({ frames := 7, cells := 0, slots := 0, locals := 124 } : Room) s m #[(.ref a1), (.int n), (.int 24)] below meth c Z T' h' 0 0 → (LI Z h' a1 de (mn 30 n)) → Go p.tables e below (Jvm.OwnK.Out Z s (Q_fill24 Z a1 n ca cl de dc mo h0) ({ frames := 7, cells := 0, slots := 0, locals := 124 } : Room).cells ({ frames := 7, cells := 0, slots := 0, locals := 124 } : Room).slots) T' (mkF m 104 #[.val (.ref a1), .val (.int n), .val (.int 24)] []) by
    by_cases hc132 : 29 < n
    · skip
      refine g_icmp_n B W125 (d_method_2_90) (XT.ii_ge_f hc132) ?_
      show Go p.tables e below _ T125 (mkF m 93 #[.val (.ref a1), .val (.int n), .val (.int 24)] [])
      have P133 := p125
      rw [own_mn1 hc132] at P133
      have z133 := W125.size
      obtain ⟨E133, Fs133, Fm133, ⟨q, -⟩ | ⟨-, ea133, kA133, vs29_, Fe133, A133, vl0, O133, X133, gz29, ne29, bx29⟩⟩ := P133
      · exact absurd q (by decide)
      rw [show capI 29 = 33 by decide] at A133 vl0
      have l133 := nlt A133.lt
      have la133 := nlt E133.lt
      refine g_aload_n B W125 (d_method_2_93) rfl rfl ?_
      refine g_iload_n B W125 (d_method_2_94) rfl ?_
      refine g_iconst B W125 (d_method_2_95) (v := 5) (by decide) ?_
      refine g_iadd B W125 (d_method_2_96)  ?_
      rw [show (24 + 5 : Int32) = 29 by decide]
      obtain ⟨T134, h134, v134, W134, Q134, st134⟩ := x_static B W125 [(.int 29)] (c_valueOf l Z a0 hw 29 ca cl h125 (by decide) Sh Sc Bx) (d_method_2_97) (tw hw 152 rfl) (tw hw 153 rfl) (tw hw 154 rfl) (tw hw 155 rfl) (by decide) (lenOf pd__I_Ljava_lang_Integer_ rfl) #[.val (.ref a1), .val (.int n), .val (.int 24)] [(.ref a1)] rfl 1 rfl (by decide) (by decide) (by decide) (by decide)
      obtain ⟨b134, rfl, rfl, E134, F134⟩ := Q134
      refine st134 _ ?_
      obtain ⟨T135, h135, v135, W135, Q135, st135⟩ := x_virtual B W134 (b := a1) [(.ref b134)] (c_addBI l Z a0 hw a1 29 b134 ea133 kA133 vs29_ 29 30 33 h125 E133 Fs133 Fe133 Fm133 (by omega) (E134.ext W134.old.2) A133 vl0 O133 X133 (by omega) ne29 (by decide) (by decide)) E133 (d_method_2_100) (tw hw 159 rfl) (tw hw 160 rfl) (tw hw 161 rfl) (tw hw 90 rfl) (tw hw 2 rfl) (tw hw 93 rfl) (by decide) (lenOf pd__Ljava_lang_Object__Z rfl) #[.val (.ref a1), .val (.int n), .val (.int 24)] [] rfl 0 rfl (by decide) (by decide) (by decide) (by decide)
      obtain ⟨rfl, K135, E135, Fs135, Fe135, Fm135, A135, X135⟩ := Q135
      have s136 := K135.1
      refine st135 _ ?_
      rw [show (29 + 1 : Int32) = 30 by decide] at Fm135
      show Go p.tables e below _ T135 (mkF m 103 #[.val (.ref a1), .val (.int n), .val (.int 24)] [(.int 1)])
      refine g_pop B W135 (d_method_2_103) rfl ?_
      exact qj131 _ _ (Wk.more W135 (by decide) (by decide)) ((own_mn2 hc132 (show (29 + 1 : Int32) = 30 by decide) (by decide)).symm ▸ LI.mk (c := 30) (cap := 33) (by decide) (by decide) E135 Fs135 Fe135 Fm135 A135 (by rw [List.length_set]; exact vl0) O133 X135 gz29 ne29 (Bxl.push bx29 (by rw [vl0]; decide) (by decide) (by decide) E134 F134))
    · skip
      refine g_icmp_y B W125 (d_method_2_90) (XT.ii_ge_t hc132) (pc' := 104) (by decide) ?_
      show Go p.tables e below _ T125 (mkF m 104 #[.val (.ref a1), .val (.int n), .val (.int 24)] [])
      exact qj131 _ _ (Wk.more W125 (by decide) (by decide)) (own_mn3 (j := 30) hc132 (by decide) ▸ p125)
  intro T131 h131 W131 p131
  show Go p.tables e below _ T131 (mkF m 104 #[.val (.ref a1), .val (.int n), .val (.int 24)] [])
  refine g_iload_n B W131 (d_method_2_104) rfl ?_
  refine g_bipush B W131 (d_method_2_105) (v := 6) (by decide) ?_
  refine g_iadd B W131 (d_method_2_107)  ?_
  rw [show (24 + 6 : Int32) = 30 by decide]
  refine g_iload_n B W131 (d_method_2_108) rfl ?_
  suffices qj137 : ∀ (T' : State) (h' : Heap), Wk p l e ({ frames := 7, cells := 0, slots := 0, locals := 124 } : Room) s m #[(.ref a1), (.int n), (.int 24)] below meth c Z T' h' 0 0 → (LI Z h' a1 de (mn 31 n)) → Go p.tables e below (Jvm.OwnK.Out Z s (Q_fill24 Z a1 n ca cl de dc mo h0) ({ frames := 7, cells := 0, slots := 0, locals := 124 } : Room).cells ({ frames := 7, cells := 0, slots := 0, locals := 124 } : Room).slots) T' (mkF m 124 #[.val (.ref a1), .val (.int n), .val (.int 24)] []) by
    by_cases hc138 : 30 < n
    · skip
      refine g_icmp_n B W131 (d_method_2_109) (XT.ii_ge_f hc138) ?_
      show Go p.tables e below _ T131 (mkF m 112 #[.val (.ref a1), .val (.int n), .val (.int 24)] [])
      have P139 := p131
      rw [own_mn1 hc138] at P139
      have z139 := W131.size
      obtain ⟨E139, Fs139, Fm139, ⟨q, -⟩ | ⟨-, ea139, kA139, vs30_, Fe139, A139, vl0, O139, X139, gz30, ne30, bx30⟩⟩ := P139
      · exact absurd q (by decide)
      rw [show capI 30 = 33 by decide] at A139 vl0
      have l139 := nlt A139.lt
      have la139 := nlt E139.lt
      refine g_aload_n B W131 (d_method_2_112) rfl rfl ?_
      refine g_iload_n B W131 (d_method_2_113) rfl ?_
      refine g_bipush B W131 (d_method_2_114) (v := 6) (by decide) ?_
      refine g_iadd B W131 (d_method_2_116)  ?_
      rw [show (24 + 6 : Int32) = 30 by decide]
      obtain ⟨T140, h140, v140, W140, Q140, st140⟩ := x_static B W131 [(.int 30)] (c_valueOf l Z a0 hw 30 ca cl h131 (by decide) Sh Sc Bx) (d_method_2_117) (tw hw 152 rfl) (tw hw 153 rfl) (tw hw 154 rfl) (tw hw 155 rfl) (by decide) (lenOf pd__I_Ljava_lang_Integer_ rfl) #[.val (.ref a1), .val (.int n), .val (.int 24)] [(.ref a1)] rfl 1 rfl (by decide) (by decide) (by decide) (by decide)
      obtain ⟨b140, rfl, rfl, E140, F140⟩ := Q140
      refine st140 _ ?_
      obtain ⟨T141, h141, v141, W141, Q141, st141⟩ := x_virtual B W140 (b := a1) [(.ref b140)] (c_addBI l Z a0 hw a1 30 b140 ea139 kA139 vs30_ 30 31 33 h131 E139 Fs139 Fe139 Fm139 (by omega) (E140.ext W140.old.2) A139 vl0 O139 X139 (by omega) ne30 (by decide) (by decide)) E139 (d_method_2_120) (tw hw 159 rfl) (tw hw 160 rfl) (tw hw 161 rfl) (tw hw 90 rfl) (tw hw 2 rfl) (tw hw 93 rfl) (by decide) (lenOf pd__Ljava_lang_Object__Z rfl) #[.val (.ref a1), .val (.int n), .val (.int 24)] [] rfl 0 rfl (by decide) (by decide) (by decide) (by decide)
      obtain ⟨rfl, K141, E141, Fs141, Fe141, Fm141, A141, X141⟩ := Q141
      have s142 := K141.1
      refine st141 _ ?_
      rw [show (30 + 1 : Int32) = 31 by decide] at Fm141
      show Go p.tables e below _ T141 (mkF m 123 #[.val (.ref a1), .val (.int n), .val (.int 24)] [(.int 1)])
      refine g_pop B W141 (d_method_2_123) rfl ?_
      exact qj137 _ _ (Wk.more W141 (by decide) (by decide)) ((own_mn2 hc138 (show (30 + 1 : Int32) = 31 by decide) (by decide)).symm ▸ LI.mk (c := 31) (cap := 33) (by decide) (by decide) E141 Fs141 Fe141 Fm141 A141 (by rw [List.length_set]; exact vl0) O139 X141 gz30 ne30 (Bxl.push bx30 (by rw [vl0]; decide) (by decide) (by decide) E140 F140))
    · skip
      refine g_icmp_y B W131 (d_method_2_109) (XT.ii_ge_t hc138) (pc' := 124) (by decide) ?_
      show Go p.tables e below _ T131 (mkF m 124 #[.val (.ref a1), .val (.int n), .val (.int 24)] [])
      exact qj137 _ _ (Wk.more W131 (by decide) (by decide)) (own_mn3 (j := 31) hc138 (by decide) ▸ p131)
  intro T137 h137 W137 p137
  show Go p.tables e below _ T137 (mkF m 124 #[.val (.ref a1), .val (.int n), .val (.int 24)] [])
  refine g_iload_n B W137 (d_method_2_124) rfl ?_
  refine g_bipush B W137 (d_method_2_125) (v := 7) (by decide) ?_
  refine g_iadd B W137 (d_method_2_127)  ?_
  rw [show (24 + 7 : Int32) = 31 by decide]
  refine g_iload_n B W137 (d_method_2_128) rfl ?_
  suffices qj143 : ∀ (T' : State) (h' : Heap), Wk p l e ({ frames := 7, cells := 0, slots := 0, locals := 124 } : Room) s m #[(.ref a1), (.int n), (.int 24)] below meth c Z T' h' 0 0 → (LI Z h' a1 de (mn 32 n)) → Go p.tables e below (Jvm.OwnK.Out Z s (Q_fill24 Z a1 n ca cl de dc mo h0) ({ frames := 7, cells := 0, slots := 0, locals := 124 } : Room).cells ({ frames := 7, cells := 0, slots := 0, locals := 124 } : Room).slots) T' (mkF m 144 #[.val (.ref a1), .val (.int n), .val (.int 24)] []) by
    by_cases hc144 : 31 < n
    · skip
      refine g_icmp_n B W137 (d_method_2_129) (XT.ii_ge_f hc144) ?_
      show Go p.tables e below _ T137 (mkF m 132 #[.val (.ref a1), .val (.int n), .val (.int 24)] [])
      have P145 := p137
      rw [own_mn1 hc144] at P145
      have z145 := W137.size
      obtain ⟨E145, Fs145, Fm145, ⟨q, -⟩ | ⟨-, ea145, kA145, vs31_, Fe145, A145, vl0, O145, X145, gz31, ne31, bx31⟩⟩ := P145
      · exact absurd q (by decide)
      rw [show capI 31 = 33 by decide] at A145 vl0
      have l145 := nlt A145.lt
      have la145 := nlt E145.lt
      refine g_aload_n B W137 (d_method_2_132) rfl rfl ?_
      refine g_iload_n B W137 (d_method_2_133) rfl ?_
      refine g_bipush B W137 (d_method_2_134) (v := 7) (by decide) ?_
      refine g_iadd B W137 (d_method_2_136)  ?_
      rw [show (24 + 7 : Int32) = 31 by decide]
      obtain ⟨T146, h146, v146, W146, Q146, st146⟩ := x_static B W137 [(.int 31)] (c_valueOf l Z a0 hw 31 ca cl h137 (by decide) Sh Sc Bx) (d_method_2_137) (tw hw 152 rfl) (tw hw 153 rfl) (tw hw 154 rfl) (tw hw 155 rfl) (by decide) (lenOf pd__I_Ljava_lang_Integer_ rfl) #[.val (.ref a1), .val (.int n), .val (.int 24)] [(.ref a1)] rfl 1 rfl (by decide) (by decide) (by decide) (by decide)
      obtain ⟨b146, rfl, rfl, E146, F146⟩ := Q146
      refine st146 _ ?_
      obtain ⟨T147, h147, v147, W147, Q147, st147⟩ := x_virtual B W146 (b := a1) [(.ref b146)] (c_addBI l Z a0 hw a1 31 b146 ea145 kA145 vs31_ 31 32 33 h137 E145 Fs145 Fe145 Fm145 (by omega) (E146.ext W146.old.2) A145 vl0 O145 X145 (by omega) ne31 (by decide) (by decide)) E145 (d_method_2_140) (tw hw 159 rfl) (tw hw 160 rfl) (tw hw 161 rfl) (tw hw 90 rfl) (tw hw 2 rfl) (tw hw 93 rfl) (by decide) (lenOf pd__Ljava_lang_Object__Z rfl) #[.val (.ref a1), .val (.int n), .val (.int 24)] [] rfl 0 rfl (by decide) (by decide) (by decide) (by decide)
      obtain ⟨rfl, K147, E147, Fs147, Fe147, Fm147, A147, X147⟩ := Q147
      have s148 := K147.1
      refine st147 _ ?_
      rw [show (31 + 1 : Int32) = 32 by decide] at Fm147
      show Go p.tables e below _ T147 (mkF m 143 #[.val (.ref a1), .val (.int n), .val (.int 24)] [(.int 1)])
      refine g_pop B W147 (d_method_2_143) rfl ?_
      exact qj143 _ _ (Wk.more W147 (by decide) (by decide)) ((own_mn2 hc144 (show (31 + 1 : Int32) = 32 by decide) (by decide)).symm ▸ LI.mk (c := 32) (cap := 33) (by decide) (by decide) E147 Fs147 Fe147 Fm147 A147 (by rw [List.length_set]; exact vl0) O145 X147 gz31 ne31 (Bxl.push bx31 (by rw [vl0]; decide) (by decide) (by decide) E146 F146))
    · skip
      refine g_icmp_y B W137 (d_method_2_129) (XT.ii_ge_t hc144) (pc' := 144) (by decide) ?_
      show Go p.tables e below _ T137 (mkF m 144 #[.val (.ref a1), .val (.int n), .val (.int 24)] [])
      exact qj143 _ _ (Wk.more W137 (by decide) (by decide)) (own_mn3 (j := 32) hc144 (by decide) ▸ p137)
  intro T143 h143 W143 p143
  show Go p.tables e below _ T143 (mkF m 144 #[.val (.ref a1), .val (.int n), .val (.int 24)] [])
  exact r_v B W143 (d_method_2_144) (by decide) (by decide) ⟨rfl, p143⟩
theorem ef_fill32 (m : MethodId) (a1 : Addr) (n : Int32) (ca : Addr) (cl : Cell) (de : Addr) (dc : Cell) (mo : Addr) : entryFrame m #[(.ref a1), (.int n), (.int 32)] 3 = mkF m 0 #[.val (.ref a1), .val (.int n), .val (.int 32)] [] := by first | (simp [entryFrame, mkF, argsToLocals, Value.category]; done) | rfl
def Q_fill32 (Z : State) (a1 : Addr) (n : Int32) (ca : Addr) (cl : Cell) (de : Addr) (dc : Cell) (mo : Addr) (h0 : Heap) (v : Option Value) (h : Heap) : Prop := v = none ∧ LI Z h a1 de (mn 40 n)
set_option maxRecDepth 65536 in
set_option maxHeartbeats 40000000 in
theorem c_fill32 (l : Launch) (Z : State) (a0 : Array Value) (hw : ∀ d ∈ tables_1, d.before a0 Z = true) (a1 : Addr) (n : Int32) (ca : Addr) (cl : Cell) (de : Addr) (dc : Cell) (mo : Addr) (h0 : Heap) (P0 : LI Z h0 a1 de (mn 32 n)) (g1 : Z.heap.size ≤ a1) (Sh : Sta Z Z.heap "java/lang/Integer$IntegerCache" "high" "I" (.int 127)) (Sc : Sta Z Z.heap "java/lang/Integer$IntegerCache" "cache" "[Ljava/lang/Integer;" (.ref ca)) (Bx : Bxs Z ca cl "java/lang/Integer" "I" 256 (fun j => .int (j - 128))) (Sde : Sta Z Z.heap "java/util/ArrayList" "DEFAULTCAPACITY_EMPTY_ELEMENTDATA" "[Ljava/lang/Object;" (.ref de)) (Ade : Arr Z Z.heap de dc (.object "java/lang/Object")) (lde : dc.slots.size.toInt32 = 0) (Mo : Mi Z "[Ljava/lang/Object;" mo) :
    Con l Z (⟨"com/example/presswright/presswright/publishing/PagingPagesPinLaw", "fill8", "(Ljava/util/ArrayList;II)V"⟩ : MethodName) method_2_code 3 (Option.none : Option FieldType) [] ({ frames := 7, cells := 1, slots := 49, locals := 124 } : Room) #[(.ref a1), (.int n), (.int 32)] h0 (Q_fill32 Z a1 n ca cl de dc mo h0) := by
  refine Con.of (plainFor_of_name pn_com_example_presswright_presswright_publishing_PagingPagesPinLaw) ?_
  intro p e s m below meth c T0 B W0
  refine Go.cast (ef_fill32 m a1 n ca cl de dc mo ) ?_
  refine g_iload_n B W0 (d_method_2_0) rfl ?_
  refine g_iload_n B W0 (d_method_2_1) rfl ?_
  suffices qj101 : ∀ (T' : State) (h' : Heap), Wk p l e ({ frames := 7, cells := 1, slots := 49, locals := 124 } : Room) s m #[(.ref a1), (.int n), (.int 32)] below meth c Z T' h' 0 0 → (LI Z h' a1 de (mn 33 n)) → Go p.tables e below (Jvm.OwnK.Out Z s (Q_fill32 Z a1 n ca cl de dc mo h0) ({ frames := 7, cells := 1, slots := 49, locals := 124 } : Room).cells ({ frames := 7, cells := 1, slots := 49, locals := 124 } : Room).slots) T' (mkF m 14 #[.val (.ref a1), .val (.int n), .val (.int 32)] []) by
    by_cases hc102 : 32 < n
    · skip
      refine g_icmp_n B W0 (d_method_2_2) (XT.ii_ge_f hc102) ?_
      show Go p.tables e below _ T0 (mkF m 5 #[.val (.ref a1), .val (.int n), .val (.int 32)] [])
      have P103 := P0
      rw [own_mn1 hc102] at P103
      have z103 := W0.size
      obtain ⟨E103, Fs103, Fm103, ⟨q, -⟩ | ⟨-, ea103, kA103, vs32_, Fe103, A103, vl0, O103, X103, gz32, ne32, bx32⟩⟩ := P103
      · exact absurd q (by decide)
      rw [show capI 32 = 33 by decide] at A103 vl0
      have l103 := nlt A103.lt
      have la103 := nlt E103.lt
      refine g_aload_n B W0 (d_method_2_5) rfl rfl ?_
      refine g_iload_n B W0 (d_method_2_6) rfl ?_
      obtain ⟨T104, h104, v104, W104, Q104, st104⟩ := x_static B W0 [(.int 32)] (c_valueOf l Z a0 hw 32 ca cl h0 (by decide) Sh Sc Bx) (d_method_2_7) (tw hw 152 rfl) (tw hw 153 rfl) (tw hw 154 rfl) (tw hw 155 rfl) (by decide) (lenOf pd__I_Ljava_lang_Integer_ rfl) #[.val (.ref a1), .val (.int n), .val (.int 32)] [(.ref a1)] rfl 1 rfl (by decide) (by decide) (by decide) (by decide)
      obtain ⟨b104, rfl, rfl, E104, F104⟩ := Q104
      refine st104 _ ?_
      obtain ⟨T105, h105, v105, W105, Q105, st105⟩ := x_virtual B W104 (b := a1) [(.ref b104)] (c_addBI l Z a0 hw a1 32 b104 ea103 kA103 vs32_ 32 33 33 h0 E103 Fs103 Fe103 Fm103 (by omega) (E104.ext W104.old.2) A103 vl0 O103 X103 (by omega) ne32 (by decide) (by decide)) E103 (d_method_2_10) (tw hw 159 rfl) (tw hw 160 rfl) (tw hw 161 rfl) (tw hw 90 rfl) (tw hw 2 rfl) (tw hw 93 rfl) (by decide) (lenOf pd__Ljava_lang_Object__Z rfl) #[.val (.ref a1), .val (.int n), .val (.int 32)] [] rfl 0 rfl (by decide) (by decide) (by decide) (by decide)
      obtain ⟨rfl, K105, E105, Fs105, Fe105, Fm105, A105, X105⟩ := Q105
      have s106 := K105.1
      refine st105 _ ?_
      rw [show (32 + 1 : Int32) = 33 by decide] at Fm105
      show Go p.tables e below _ T105 (mkF m 13 #[.val (.ref a1), .val (.int n), .val (.int 32)] [(.int 1)])
      refine g_pop B W105 (d_method_2_13) rfl ?_
      exact qj101 _ _ (Wk.more W105 (by decide) (by decide)) ((own_mn2 hc102 (show (32 + 1 : Int32) = 33 by decide) (by decide)).symm ▸ LI.mk (c := 33) (cap := 33) (by decide) (by decide) E105 Fs105 Fe105 Fm105 A105 (by rw [List.length_set]; exact vl0) O103 X105 gz32 ne32 (Bxl.push bx32 (by rw [vl0]; decide) (by decide) (by decide) E104 F104))
    · skip
      refine g_icmp_y B W0 (d_method_2_2) (XT.ii_ge_t hc102) (pc' := 14) (by decide) ?_
      show Go p.tables e below _ T0 (mkF m 14 #[.val (.ref a1), .val (.int n), .val (.int 32)] [])
      exact qj101 _ _ (Wk.more W0 (by decide) (by decide)) (own_mn3 (j := 33) hc102 (by decide) ▸ P0)
  intro T101 h101 W101 p101
  show Go p.tables e below _ T101 (mkF m 14 #[.val (.ref a1), .val (.int n), .val (.int 32)] [])
  refine g_iload_n B W101 (d_method_2_14) rfl ?_
  refine g_iconst B W101 (d_method_2_15) (v := 1) (by decide) ?_
  refine g_iadd B W101 (d_method_2_16)  ?_
  rw [show (32 + 1 : Int32) = 33 by decide]
  refine g_iload_n B W101 (d_method_2_17) rfl ?_
  suffices qj107 : ∀ (T' : State) (h' : Heap), Wk p l e ({ frames := 7, cells := 1, slots := 49, locals := 124 } : Room) s m #[(.ref a1), (.int n), (.int 32)] below meth c Z T' h' 1 49 → (LI Z h' a1 de (mn 34 n)) → Go p.tables e below (Jvm.OwnK.Out Z s (Q_fill32 Z a1 n ca cl de dc mo h0) ({ frames := 7, cells := 1, slots := 49, locals := 124 } : Room).cells ({ frames := 7, cells := 1, slots := 49, locals := 124 } : Room).slots) T' (mkF m 32 #[.val (.ref a1), .val (.int n), .val (.int 32)] []) by
    by_cases hc108 : 33 < n
    · skip
      refine g_icmp_n B W101 (d_method_2_18) (XT.ii_ge_f hc108) ?_
      show Go p.tables e below _ T101 (mkF m 21 #[.val (.ref a1), .val (.int n), .val (.int 32)] [])
      have P109 := p101
      rw [own_mn1 hc108] at P109
      have z109 := W101.size
      obtain ⟨E109, Fs109, Fm109, ⟨q, -⟩ | ⟨-, ea109, kA109, vs33_, Fe109, A109, vl0, O109, X109, gz33, ne33, bx33⟩⟩ := P109
      · exact absurd q (by decide)
      rw [show capI 33 = 33 by decide] at A109 vl0
      have l109 := nlt A109.lt
      have la109 := nlt E109.lt
      refine g_aload_n B W101 (d_method_2_21) rfl rfl ?_
      refine g_iload_n B W101 (d_method_2_22) rfl ?_
      refine g_iconst B W101 (d_method_2_23) (v := 1) (by decide) ?_
      refine g_iadd B W101 (d_method_2_24)  ?_
      rw [show (32 + 1 : Int32) = 33 by decide]
      obtain ⟨T110, h110, v110, W110, Q110, st110⟩ := x_static B W101 [(.int 33)] (c_valueOf l Z a0 hw 33 ca cl h101 (by decide) Sh Sc Bx) (d_method_2_25) (tw hw 152 rfl) (tw hw 153 rfl) (tw hw 154 rfl) (tw hw 155 rfl) (by decide) (lenOf pd__I_Ljava_lang_Integer_ rfl) #[.val (.ref a1), .val (.int n), .val (.int 32)] [(.ref a1)] rfl 1 rfl (by decide) (by decide) (by decide) (by decide)
      obtain ⟨b110, rfl, rfl, E110, F110⟩ := Q110
      refine st110 _ ?_
      obtain ⟨T111, h111, v111, W111, Q111, st111⟩ := x_virtual B W110 (b := a1) [(.ref b110)] (c_addG33 l Z a0 hw a1 33 b110 ea109 kA109 vs33_ mo h101 E109 Fs109 Fe109 Fm109 (by omega) (E110.ext W110.old.2) A109 (fun i hi => by obtain ⟨y, e, E, -⟩ := bx33 i hi; exact ⟨y, e, E⟩) X109 ne33 Mo) E109 (d_method_2_28) (tw hw 159 rfl) (tw hw 160 rfl) (tw hw 161 rfl) (tw hw 90 rfl) (tw hw 2 rfl) (tw hw 93 rfl) (by decide) (lenOf pd__Ljava_lang_Object__Z rfl) #[.val (.ref a1), .val (.int n), .val (.int 32)] [] rfl 0 rfl (by decide) (by decide) (by decide) (by decide)
      obtain ⟨ea111, kB111, vs111, rfl, gb111, K111, E111, Fs111, Fe111, Fm111, A111, X111, vl111, O111, ag111⟩ := Q111
      have s112 := K111.1
      refine st111 _ ?_
      rw [show (33 + 1 : Int32) = 34 by decide] at Fm111
      have l111 := nlt A111.lt
      show Go p.tables e below _ T111 (mkF m 31 #[.val (.ref a1), .val (.int n), .val (.int 32)] [(.int 1)])
      refine g_pop B W111 (d_method_2_31) rfl ?_
      exact qj107 _ _ (Wk.more W111 (by decide) (by decide)) ((own_mn2 hc108 (show (33 + 1 : Int32) = 34 by decide) (by decide)).symm ▸ LI.mk (c := 34) (cap := 49) (by decide) (by decide) E111 Fs111 Fe111 Fm111 A111 (by rw [List.length_set]; exact vl111) O111 X111 (by omega) (by omega) (Bxl.push (Bxl.agree bx33 ag111) (by rw [vl111]; decide) (by decide) (by decide) E110 F110))
    · skip
      refine g_icmp_y B W101 (d_method_2_18) (XT.ii_ge_t hc108) (pc' := 32) (by decide) ?_
      show Go p.tables e below _ T101 (mkF m 32 #[.val (.ref a1), .val (.int n), .val (.int 32)] [])
      exact qj107 _ _ (Wk.more W101 (by decide) (by decide)) (own_mn3 (j := 34) hc108 (by decide) ▸ p101)
  intro T107 h107 W107 p107
  show Go p.tables e below _ T107 (mkF m 32 #[.val (.ref a1), .val (.int n), .val (.int 32)] [])
  refine g_iload_n B W107 (d_method_2_32) rfl ?_
  refine g_iconst B W107 (d_method_2_33) (v := 2) (by decide) ?_
  refine g_iadd B W107 (d_method_2_34)  ?_
  rw [show (32 + 2 : Int32) = 34 by decide]
  refine g_iload_n B W107 (d_method_2_35) rfl ?_
  suffices qj113 : ∀ (T' : State) (h' : Heap), Wk p l e ({ frames := 7, cells := 1, slots := 49, locals := 124 } : Room) s m #[(.ref a1), (.int n), (.int 32)] below meth c Z T' h' 1 49 → (LI Z h' a1 de (mn 35 n)) → Go p.tables e below (Jvm.OwnK.Out Z s (Q_fill32 Z a1 n ca cl de dc mo h0) ({ frames := 7, cells := 1, slots := 49, locals := 124 } : Room).cells ({ frames := 7, cells := 1, slots := 49, locals := 124 } : Room).slots) T' (mkF m 50 #[.val (.ref a1), .val (.int n), .val (.int 32)] []) by
    by_cases hc114 : 34 < n
    · skip
      refine g_icmp_n B W107 (d_method_2_36) (XT.ii_ge_f hc114) ?_
      show Go p.tables e below _ T107 (mkF m 39 #[.val (.ref a1), .val (.int n), .val (.int 32)] [])
      have P115 := p107
      rw [own_mn1 hc114] at P115
      have z115 := W107.size
      obtain ⟨E115, Fs115, Fm115, ⟨q, -⟩ | ⟨-, ea115, kA115, vs34_, Fe115, A115, vl0, O115, X115, gz34, ne34, bx34⟩⟩ := P115
      · exact absurd q (by decide)
      rw [show capI 34 = 49 by decide] at A115 vl0
      have l115 := nlt A115.lt
      have la115 := nlt E115.lt
      refine g_aload_n B W107 (d_method_2_39) rfl rfl ?_
      refine g_iload_n B W107 (d_method_2_40) rfl ?_
      refine g_iconst B W107 (d_method_2_41) (v := 2) (by decide) ?_
      refine g_iadd B W107 (d_method_2_42)  ?_
      rw [show (32 + 2 : Int32) = 34 by decide]
      obtain ⟨T116, h116, v116, W116, Q116, st116⟩ := x_static B W107 [(.int 34)] (c_valueOf l Z a0 hw 34 ca cl h107 (by decide) Sh Sc Bx) (d_method_2_43) (tw hw 152 rfl) (tw hw 153 rfl) (tw hw 154 rfl) (tw hw 155 rfl) (by decide) (lenOf pd__I_Ljava_lang_Integer_ rfl) #[.val (.ref a1), .val (.int n), .val (.int 32)] [(.ref a1)] rfl 1 rfl (by decide) (by decide) (by decide) (by decide)
      obtain ⟨b116, rfl, rfl, E116, F116⟩ := Q116
      refine st116 _ ?_
      obtain ⟨T117, h117, v117, W117, Q117, st117⟩ := x_virtual B W116 (b := a1) [(.ref b116)] (c_addBI l Z a0 hw a1 34 b116 ea115 kA115 vs34_ 34 35 49 h107 E115 Fs115 Fe115 Fm115 (by omega) (E116.ext W116.old.2) A115 vl0 O115 X115 (by omega) ne34 (by decide) (by decide)) E115 (d_method_2_46) (tw hw 159 rfl) (tw hw 160 rfl) (tw hw 161 rfl) (tw hw 90 rfl) (tw hw 2 rfl) (tw hw 93 rfl) (by decide) (lenOf pd__Ljava_lang_Object__Z rfl) #[.val (.ref a1), .val (.int n), .val (.int 32)] [] rfl 0 rfl (by decide) (by decide) (by decide) (by decide)
      obtain ⟨rfl, K117, E117, Fs117, Fe117, Fm117, A117, X117⟩ := Q117
      have s118 := K117.1
      refine st117 _ ?_
      rw [show (34 + 1 : Int32) = 35 by decide] at Fm117
      show Go p.tables e below _ T117 (mkF m 49 #[.val (.ref a1), .val (.int n), .val (.int 32)] [(.int 1)])
      refine g_pop B W117 (d_method_2_49) rfl ?_
      exact qj113 _ _ (Wk.more W117 (by decide) (by decide)) ((own_mn2 hc114 (show (34 + 1 : Int32) = 35 by decide) (by decide)).symm ▸ LI.mk (c := 35) (cap := 49) (by decide) (by decide) E117 Fs117 Fe117 Fm117 A117 (by rw [List.length_set]; exact vl0) O115 X117 gz34 ne34 (Bxl.push bx34 (by rw [vl0]; decide) (by decide) (by decide) E116 F116))
    · skip
      refine g_icmp_y B W107 (d_method_2_36) (XT.ii_ge_t hc114) (pc' := 50) (by decide) ?_
      show Go p.tables e below _ T107 (mkF m 50 #[.val (.ref a1), .val (.int n), .val (.int 32)] [])
      exact qj113 _ _ (Wk.more W107 (by decide) (by decide)) (own_mn3 (j := 35) hc114 (by decide) ▸ p107)
  intro T113 h113 W113 p113
  show Go p.tables e below _ T113 (mkF m 50 #[.val (.ref a1), .val (.int n), .val (.int 32)] [])
  refine g_iload_n B W113 (d_method_2_50) rfl ?_
  refine g_iconst B W113 (d_method_2_51) (v := 3) (by decide) ?_
  refine g_iadd B W113 (d_method_2_52)  ?_
  rw [show (32 + 3 : Int32) = 35 by decide]
  refine g_iload_n B W113 (d_method_2_53) rfl ?_
  suffices qj119 : ∀ (T' : State) (h' : Heap), Wk p l e ({ frames := 7, cells := 1, slots := 49, locals := 124 } : Room) s m #[(.ref a1), (.int n), (.int 32)] below meth c Z T' h' 1 49 → (LI Z h' a1 de (mn 36 n)) → Go p.tables e below (Jvm.OwnK.Out Z s (Q_fill32 Z a1 n ca cl de dc mo h0) ({ frames := 7, cells := 1, slots := 49, locals := 124 } : Room).cells ({ frames := 7, cells := 1, slots := 49, locals := 124 } : Room).slots) T' (mkF m 68 #[.val (.ref a1), .val (.int n), .val (.int 32)] []) by
    by_cases hc120 : 35 < n
    · skip
      refine g_icmp_n B W113 (d_method_2_54) (XT.ii_ge_f hc120) ?_
      show Go p.tables e below _ T113 (mkF m 57 #[.val (.ref a1), .val (.int n), .val (.int 32)] [])
      have P121 := p113
      rw [own_mn1 hc120] at P121
      have z121 := W113.size
      obtain ⟨E121, Fs121, Fm121, ⟨q, -⟩ | ⟨-, ea121, kA121, vs35_, Fe121, A121, vl0, O121, X121, gz35, ne35, bx35⟩⟩ := P121
      · exact absurd q (by decide)
      rw [show capI 35 = 49 by decide] at A121 vl0
      have l121 := nlt A121.lt
      have la121 := nlt E121.lt
      refine g_aload_n B W113 (d_method_2_57) rfl rfl ?_
      refine g_iload_n B W113 (d_method_2_58) rfl ?_
      refine g_iconst B W113 (d_method_2_59) (v := 3) (by decide) ?_
      refine g_iadd B W113 (d_method_2_60)  ?_
      rw [show (32 + 3 : Int32) = 35 by decide]
      obtain ⟨T122, h122, v122, W122, Q122, st122⟩ := x_static B W113 [(.int 35)] (c_valueOf l Z a0 hw 35 ca cl h113 (by decide) Sh Sc Bx) (d_method_2_61) (tw hw 152 rfl) (tw hw 153 rfl) (tw hw 154 rfl) (tw hw 155 rfl) (by decide) (lenOf pd__I_Ljava_lang_Integer_ rfl) #[.val (.ref a1), .val (.int n), .val (.int 32)] [(.ref a1)] rfl 1 rfl (by decide) (by decide) (by decide) (by decide)
      obtain ⟨b122, rfl, rfl, E122, F122⟩ := Q122
      refine st122 _ ?_
      obtain ⟨T123, h123, v123, W123, Q123, st123⟩ := x_virtual B W122 (b := a1) [(.ref b122)] (c_addBI l Z a0 hw a1 35 b122 ea121 kA121 vs35_ 35 36 49 h113 E121 Fs121 Fe121 Fm121 (by omega) (E122.ext W122.old.2) A121 vl0 O121 X121 (by omega) ne35 (by decide) (by decide)) E121 (d_method_2_64) (tw hw 159 rfl) (tw hw 160 rfl) (tw hw 161 rfl) (tw hw 90 rfl) (tw hw 2 rfl) (tw hw 93 rfl) (by decide) (lenOf pd__Ljava_lang_Object__Z rfl) #[.val (.ref a1), .val (.int n), .val (.int 32)] [] rfl 0 rfl (by decide) (by decide) (by decide) (by decide)
      obtain ⟨rfl, K123, E123, Fs123, Fe123, Fm123, A123, X123⟩ := Q123
      have s124 := K123.1
      refine st123 _ ?_
      rw [show (35 + 1 : Int32) = 36 by decide] at Fm123
      show Go p.tables e below _ T123 (mkF m 67 #[.val (.ref a1), .val (.int n), .val (.int 32)] [(.int 1)])
      refine g_pop B W123 (d_method_2_67) rfl ?_
      exact qj119 _ _ (Wk.more W123 (by decide) (by decide)) ((own_mn2 hc120 (show (35 + 1 : Int32) = 36 by decide) (by decide)).symm ▸ LI.mk (c := 36) (cap := 49) (by decide) (by decide) E123 Fs123 Fe123 Fm123 A123 (by rw [List.length_set]; exact vl0) O121 X123 gz35 ne35 (Bxl.push bx35 (by rw [vl0]; decide) (by decide) (by decide) E122 F122))
    · skip
      refine g_icmp_y B W113 (d_method_2_54) (XT.ii_ge_t hc120) (pc' := 68) (by decide) ?_
      show Go p.tables e below _ T113 (mkF m 68 #[.val (.ref a1), .val (.int n), .val (.int 32)] [])
      exact qj119 _ _ (Wk.more W113 (by decide) (by decide)) (own_mn3 (j := 36) hc120 (by decide) ▸ p113)
  intro T119 h119 W119 p119
  show Go p.tables e below _ T119 (mkF m 68 #[.val (.ref a1), .val (.int n), .val (.int 32)] [])
  refine g_iload_n B W119 (d_method_2_68) rfl ?_
  refine g_iconst B W119 (d_method_2_69) (v := 4) (by decide) ?_
  refine g_iadd B W119 (d_method_2_70)  ?_
  rw [show (32 + 4 : Int32) = 36 by decide]
  refine g_iload_n B W119 (d_method_2_71) rfl ?_
  suffices qj125 : ∀ (T' : State) (h' : Heap), Wk p l e ({ frames := 7, cells := 1, slots := 49, locals := 124 } : Room) s m #[(.ref a1), (.int n), (.int 32)] below meth c Z T' h' 1 49 → (LI Z h' a1 de (mn 37 n)) → Go p.tables e below (Jvm.OwnK.Out Z s (Q_fill32 Z a1 n ca cl de dc mo h0) ({ frames := 7, cells := 1, slots := 49, locals := 124 } : Room).cells ({ frames := 7, cells := 1, slots := 49, locals := 124 } : Room).slots) T' (mkF m 86 #[.val (.ref a1), .val (.int n), .val (.int 32)] []) by
    by_cases hc126 : 36 < n
    · skip
      refine g_icmp_n B W119 (d_method_2_72) (XT.ii_ge_f hc126) ?_
      show Go p.tables e below _ T119 (mkF m 75 #[.val (.ref a1), .val (.int n), .val (.int 32)] [])
      have P127 := p119
      rw [own_mn1 hc126] at P127
      have z127 := W119.size
      obtain ⟨E127, Fs127, Fm127, ⟨q, -⟩ | ⟨-, ea127, kA127, vs36_, Fe127, A127, vl0, O127, X127, gz36, ne36, bx36⟩⟩ := P127
      · exact absurd q (by decide)
      rw [show capI 36 = 49 by decide] at A127 vl0
      have l127 := nlt A127.lt
      have la127 := nlt E127.lt
      refine g_aload_n B W119 (d_method_2_75) rfl rfl ?_
      refine g_iload_n B W119 (d_method_2_76) rfl ?_
      refine g_iconst B W119 (d_method_2_77) (v := 4) (by decide) ?_
      refine g_iadd B W119 (d_method_2_78)  ?_
      rw [show (32 + 4 : Int32) = 36 by decide]
      obtain ⟨T128, h128, v128, W128, Q128, st128⟩ := x_static B W119 [(.int 36)] (c_valueOf l Z a0 hw 36 ca cl h119 (by decide) Sh Sc Bx) (d_method_2_79) (tw hw 152 rfl) (tw hw 153 rfl) (tw hw 154 rfl) (tw hw 155 rfl) (by decide) (lenOf pd__I_Ljava_lang_Integer_ rfl) #[.val (.ref a1), .val (.int n), .val (.int 32)] [(.ref a1)] rfl 1 rfl (by decide) (by decide) (by decide) (by decide)
      obtain ⟨b128, rfl, rfl, E128, F128⟩ := Q128
      refine st128 _ ?_
      obtain ⟨T129, h129, v129, W129, Q129, st129⟩ := x_virtual B W128 (b := a1) [(.ref b128)] (c_addBI l Z a0 hw a1 36 b128 ea127 kA127 vs36_ 36 37 49 h119 E127 Fs127 Fe127 Fm127 (by omega) (E128.ext W128.old.2) A127 vl0 O127 X127 (by omega) ne36 (by decide) (by decide)) E127 (d_method_2_82) (tw hw 159 rfl) (tw hw 160 rfl) (tw hw 161 rfl) (tw hw 90 rfl) (tw hw 2 rfl) (tw hw 93 rfl) (by decide) (lenOf pd__Ljava_lang_Object__Z rfl) #[.val (.ref a1), .val (.int n), .val (.int 32)] [] rfl 0 rfl (by decide) (by decide) (by decide) (by decide)
      obtain ⟨rfl, K129, E129, Fs129, Fe129, Fm129, A129, X129⟩ := Q129
      have s130 := K129.1
      refine st129 _ ?_
      rw [show (36 + 1 : Int32) = 37 by decide] at Fm129
      show Go p.tables e below _ T129 (mkF m 85 #[.val (.ref a1), .val (.int n), .val (.int 32)] [(.int 1)])
      refine g_pop B W129 (d_method_2_85) rfl ?_
      exact qj125 _ _ (Wk.more W129 (by decide) (by decide)) ((own_mn2 hc126 (show (36 + 1 : Int32) = 37 by decide) (by decide)).symm ▸ LI.mk (c := 37) (cap := 49) (by decide) (by decide) E129 Fs129 Fe129 Fm129 A129 (by rw [List.length_set]; exact vl0) O127 X129 gz36 ne36 (Bxl.push bx36 (by rw [vl0]; decide) (by decide) (by decide) E128 F128))
    · skip
      refine g_icmp_y B W119 (d_method_2_72) (XT.ii_ge_t hc126) (pc' := 86) (by decide) ?_
      show Go p.tables e below _ T119 (mkF m 86 #[.val (.ref a1), .val (.int n), .val (.int 32)] [])
      exact qj125 _ _ (Wk.more W119 (by decide) (by decide)) (own_mn3 (j := 37) hc126 (by decide) ▸ p119)
  intro T125 h125 W125 p125
  show Go p.tables e below _ T125 (mkF m 86 #[.val (.ref a1), .val (.int n), .val (.int 32)] [])
  refine g_iload_n B W125 (d_method_2_86) rfl ?_
  refine g_iconst B W125 (d_method_2_87) (v := 5) (by decide) ?_
  refine g_iadd B W125 (d_method_2_88)  ?_
  rw [show (32 + 5 : Int32) = 37 by decide]
  refine g_iload_n B W125 (d_method_2_89) rfl ?_
  suffices qj131 : ∀ (T' : State) (h' : Heap), Wk p l e ({ frames := 7, cells := 1, slots := 49, locals := 124 } : Room) s m #[(.ref a1), (.int n), (.int 32)] below meth c Z T' h' 1 49 → (LI Z h' a1 de (mn 38 n)) → Go p.tables e below (Jvm.OwnK.Out Z s (Q_fill32 Z a1 n ca cl de dc mo h0) ({ frames := 7, cells := 1, slots := 49, locals := 124 } : Room).cells ({ frames := 7, cells := 1, slots := 49, locals := 124 } : Room).slots) T' (mkF m 104 #[.val (.ref a1), .val (.int n), .val (.int 32)] []) by
    by_cases hc132 : 37 < n
    · skip
      refine g_icmp_n B W125 (d_method_2_90) (XT.ii_ge_f hc132) ?_
      show Go p.tables e below _ T125 (mkF m 93 #[.val (.ref a1), .val (.int n), .val (.int 32)] [])
      have P133 := p125
      rw [own_mn1 hc132] at P133
      have z133 := W125.size
      obtain ⟨E133, Fs133, Fm133, ⟨q, -⟩ | ⟨-, ea133, kA133, vs37_, Fe133, A133, vl0, O133, X133, gz37, ne37, bx37⟩⟩ := P133
      · exact absurd q (by decide)
      rw [show capI 37 = 49 by decide] at A133 vl0
      have l133 := nlt A133.lt
      have la133 := nlt E133.lt
      refine g_aload_n B W125 (d_method_2_93) rfl rfl ?_
      refine g_iload_n B W125 (d_method_2_94) rfl ?_
      refine g_iconst B W125 (d_method_2_95) (v := 5) (by decide) ?_
      refine g_iadd B W125 (d_method_2_96)  ?_
      rw [show (32 + 5 : Int32) = 37 by decide]
      obtain ⟨T134, h134, v134, W134, Q134, st134⟩ := x_static B W125 [(.int 37)] (c_valueOf l Z a0 hw 37 ca cl h125 (by decide) Sh Sc Bx) (d_method_2_97) (tw hw 152 rfl) (tw hw 153 rfl) (tw hw 154 rfl) (tw hw 155 rfl) (by decide) (lenOf pd__I_Ljava_lang_Integer_ rfl) #[.val (.ref a1), .val (.int n), .val (.int 32)] [(.ref a1)] rfl 1 rfl (by decide) (by decide) (by decide) (by decide)
      obtain ⟨b134, rfl, rfl, E134, F134⟩ := Q134
      refine st134 _ ?_
      obtain ⟨T135, h135, v135, W135, Q135, st135⟩ := x_virtual B W134 (b := a1) [(.ref b134)] (c_addBI l Z a0 hw a1 37 b134 ea133 kA133 vs37_ 37 38 49 h125 E133 Fs133 Fe133 Fm133 (by omega) (E134.ext W134.old.2) A133 vl0 O133 X133 (by omega) ne37 (by decide) (by decide)) E133 (d_method_2_100) (tw hw 159 rfl) (tw hw 160 rfl) (tw hw 161 rfl) (tw hw 90 rfl) (tw hw 2 rfl) (tw hw 93 rfl) (by decide) (lenOf pd__Ljava_lang_Object__Z rfl) #[.val (.ref a1), .val (.int n), .val (.int 32)] [] rfl 0 rfl (by decide) (by decide) (by decide) (by decide)
      obtain ⟨rfl, K135, E135, Fs135, Fe135, Fm135, A135, X135⟩ := Q135
      have s136 := K135.1
      refine st135 _ ?_
      rw [show (37 + 1 : Int32) = 38 by decide] at Fm135
      show Go p.tables e below _ T135 (mkF m 103 #[.val (.ref a1), .val (.int n), .val (.int 32)] [(.int 1)])
      refine g_pop B W135 (d_method_2_103) rfl ?_
      exact qj131 _ _ (Wk.more W135 (by decide) (by decide)) ((own_mn2 hc132 (show (37 + 1 : Int32) = 38 by decide) (by decide)).symm ▸ LI.mk (c := 38) (cap := 49) (by decide) (by decide) E135 Fs135 Fe135 Fm135 A135 (by rw [List.length_set]; exact vl0) O133 X135 gz37 ne37 (Bxl.push bx37 (by rw [vl0]; decide) (by decide) (by decide) E134 F134))
    · skip
      refine g_icmp_y B W125 (d_method_2_90) (XT.ii_ge_t hc132) (pc' := 104) (by decide) ?_
      show Go p.tables e below _ T125 (mkF m 104 #[.val (.ref a1), .val (.int n), .val (.int 32)] [])
      exact qj131 _ _ (Wk.more W125 (by decide) (by decide)) (own_mn3 (j := 38) hc132 (by decide) ▸ p125)
  intro T131 h131 W131 p131
  show Go p.tables e below _ T131 (mkF m 104 #[.val (.ref a1), .val (.int n), .val (.int 32)] [])
  refine g_iload_n B W131 (d_method_2_104) rfl ?_
  refine g_bipush B W131 (d_method_2_105) (v := 6) (by decide) ?_
  refine g_iadd B W131 (d_method_2_107)  ?_
  rw [show (32 + 6 : Int32) = 38 by decide]
  refine g_iload_n B W131 (d_method_2_108) rfl ?_
  suffices qj137 : ∀ (T' : State) (h' : Heap), Wk p l e ({ frames := 7, cells := 1, slots := 49, locals := 124 } : Room) s m #[(.ref a1), (.int n), (.int 32)] below meth c Z T' h' 1 49 → (LI Z h' a1 de (mn 39 n)) → Go p.tables e below (Jvm.OwnK.Out Z s (Q_fill32 Z a1 n ca cl de dc mo h0) ({ frames := 7, cells := 1, slots := 49, locals := 124 } : Room).cells ({ frames := 7, cells := 1, slots := 49, locals := 124 } : Room).slots) T' (mkF m 124 #[.val (.ref a1), .val (.int n), .val (.int 32)] []) by
    by_cases hc138 : 38 < n
    · skip
      refine g_icmp_n B W131 (d_method_2_109) (XT.ii_ge_f hc138) ?_
      show Go p.tables e below _ T131 (mkF m 112 #[.val (.ref a1), .val (.int n), .val (.int 32)] [])
      have P139 := p131
      rw [own_mn1 hc138] at P139
      have z139 := W131.size
      obtain ⟨E139, Fs139, Fm139, ⟨q, -⟩ | ⟨-, ea139, kA139, vs38_, Fe139, A139, vl0, O139, X139, gz38, ne38, bx38⟩⟩ := P139
      · exact absurd q (by decide)
      rw [show capI 38 = 49 by decide] at A139 vl0
      have l139 := nlt A139.lt
      have la139 := nlt E139.lt
      refine g_aload_n B W131 (d_method_2_112) rfl rfl ?_
      refine g_iload_n B W131 (d_method_2_113) rfl ?_
      refine g_bipush B W131 (d_method_2_114) (v := 6) (by decide) ?_
      refine g_iadd B W131 (d_method_2_116)  ?_
      rw [show (32 + 6 : Int32) = 38 by decide]
      obtain ⟨T140, h140, v140, W140, Q140, st140⟩ := x_static B W131 [(.int 38)] (c_valueOf l Z a0 hw 38 ca cl h131 (by decide) Sh Sc Bx) (d_method_2_117) (tw hw 152 rfl) (tw hw 153 rfl) (tw hw 154 rfl) (tw hw 155 rfl) (by decide) (lenOf pd__I_Ljava_lang_Integer_ rfl) #[.val (.ref a1), .val (.int n), .val (.int 32)] [(.ref a1)] rfl 1 rfl (by decide) (by decide) (by decide) (by decide)
      obtain ⟨b140, rfl, rfl, E140, F140⟩ := Q140
      refine st140 _ ?_
      obtain ⟨T141, h141, v141, W141, Q141, st141⟩ := x_virtual B W140 (b := a1) [(.ref b140)] (c_addBI l Z a0 hw a1 38 b140 ea139 kA139 vs38_ 38 39 49 h131 E139 Fs139 Fe139 Fm139 (by omega) (E140.ext W140.old.2) A139 vl0 O139 X139 (by omega) ne38 (by decide) (by decide)) E139 (d_method_2_120) (tw hw 159 rfl) (tw hw 160 rfl) (tw hw 161 rfl) (tw hw 90 rfl) (tw hw 2 rfl) (tw hw 93 rfl) (by decide) (lenOf pd__Ljava_lang_Object__Z rfl) #[.val (.ref a1), .val (.int n), .val (.int 32)] [] rfl 0 rfl (by decide) (by decide) (by decide) (by decide)
      obtain ⟨rfl, K141, E141, Fs141, Fe141, Fm141, A141, X141⟩ := Q141
      have s142 := K141.1
      refine st141 _ ?_
      rw [show (38 + 1 : Int32) = 39 by decide] at Fm141
      show Go p.tables e below _ T141 (mkF m 123 #[.val (.ref a1), .val (.int n), .val (.int 32)] [(.int 1)])
      refine g_pop B W141 (d_method_2_123) rfl ?_
      exact qj137 _ _ (Wk.more W141 (by decide) (by decide)) ((own_mn2 hc138 (show (38 + 1 : Int32) = 39 by decide) (by decide)).symm ▸ LI.mk (c := 39) (cap := 49) (by decide) (by decide) E141 Fs141 Fe141 Fm141 A141 (by rw [List.length_set]; exact vl0) O139 X141 gz38 ne38 (Bxl.push bx38 (by rw [vl0]; decide) (by decide) (by decide) E140 F140))
    · skip
      refine g_icmp_y B W131 (d_method_2_109) (XT.ii_ge_t hc138) (pc' := 124) (by decide) ?_
      show Go p.tables e below _ T131 (mkF m 124 #[.val (.ref a1), .val (.int n), .val (.int 32)] [])
      exact qj137 _ _ (Wk.more W131 (by decide) (by decide)) (own_mn3 (j := 39) hc138 (by decide) ▸ p131)
  intro T137 h137 W137 p137
  show Go p.tables e below _ T137 (mkF m 124 #[.val (.ref a1), .val (.int n), .val (.int 32)] [])
  refine g_iload_n B W137 (d_method_2_124) rfl ?_
  refine g_bipush B W137 (d_method_2_125) (v := 7) (by decide) ?_
  refine g_iadd B W137 (d_method_2_127)  ?_
  rw [show (32 + 7 : Int32) = 39 by decide]
  refine g_iload_n B W137 (d_method_2_128) rfl ?_
  suffices qj143 : ∀ (T' : State) (h' : Heap), Wk p l e ({ frames := 7, cells := 1, slots := 49, locals := 124 } : Room) s m #[(.ref a1), (.int n), (.int 32)] below meth c Z T' h' 1 49 → (LI Z h' a1 de (mn 40 n)) → Go p.tables e below (Jvm.OwnK.Out Z s (Q_fill32 Z a1 n ca cl de dc mo h0) ({ frames := 7, cells := 1, slots := 49, locals := 124 } : Room).cells ({ frames := 7, cells := 1, slots := 49, locals := 124 } : Room).slots) T' (mkF m 144 #[.val (.ref a1), .val (.int n), .val (.int 32)] []) by
    by_cases hc144 : 39 < n
    · skip
      refine g_icmp_n B W137 (d_method_2_129) (XT.ii_ge_f hc144) ?_
      show Go p.tables e below _ T137 (mkF m 132 #[.val (.ref a1), .val (.int n), .val (.int 32)] [])
      have P145 := p137
      rw [own_mn1 hc144] at P145
      have z145 := W137.size
      obtain ⟨E145, Fs145, Fm145, ⟨q, -⟩ | ⟨-, ea145, kA145, vs39_, Fe145, A145, vl0, O145, X145, gz39, ne39, bx39⟩⟩ := P145
      · exact absurd q (by decide)
      rw [show capI 39 = 49 by decide] at A145 vl0
      have l145 := nlt A145.lt
      have la145 := nlt E145.lt
      refine g_aload_n B W137 (d_method_2_132) rfl rfl ?_
      refine g_iload_n B W137 (d_method_2_133) rfl ?_
      refine g_bipush B W137 (d_method_2_134) (v := 7) (by decide) ?_
      refine g_iadd B W137 (d_method_2_136)  ?_
      rw [show (32 + 7 : Int32) = 39 by decide]
      obtain ⟨T146, h146, v146, W146, Q146, st146⟩ := x_static B W137 [(.int 39)] (c_valueOf l Z a0 hw 39 ca cl h137 (by decide) Sh Sc Bx) (d_method_2_137) (tw hw 152 rfl) (tw hw 153 rfl) (tw hw 154 rfl) (tw hw 155 rfl) (by decide) (lenOf pd__I_Ljava_lang_Integer_ rfl) #[.val (.ref a1), .val (.int n), .val (.int 32)] [(.ref a1)] rfl 1 rfl (by decide) (by decide) (by decide) (by decide)
      obtain ⟨b146, rfl, rfl, E146, F146⟩ := Q146
      refine st146 _ ?_
      obtain ⟨T147, h147, v147, W147, Q147, st147⟩ := x_virtual B W146 (b := a1) [(.ref b146)] (c_addBI l Z a0 hw a1 39 b146 ea145 kA145 vs39_ 39 40 49 h137 E145 Fs145 Fe145 Fm145 (by omega) (E146.ext W146.old.2) A145 vl0 O145 X145 (by omega) ne39 (by decide) (by decide)) E145 (d_method_2_140) (tw hw 159 rfl) (tw hw 160 rfl) (tw hw 161 rfl) (tw hw 90 rfl) (tw hw 2 rfl) (tw hw 93 rfl) (by decide) (lenOf pd__Ljava_lang_Object__Z rfl) #[.val (.ref a1), .val (.int n), .val (.int 32)] [] rfl 0 rfl (by decide) (by decide) (by decide) (by decide)
      obtain ⟨rfl, K147, E147, Fs147, Fe147, Fm147, A147, X147⟩ := Q147
      have s148 := K147.1
      refine st147 _ ?_
      rw [show (39 + 1 : Int32) = 40 by decide] at Fm147
      show Go p.tables e below _ T147 (mkF m 143 #[.val (.ref a1), .val (.int n), .val (.int 32)] [(.int 1)])
      refine g_pop B W147 (d_method_2_143) rfl ?_
      exact qj143 _ _ (Wk.more W147 (by decide) (by decide)) ((own_mn2 hc144 (show (39 + 1 : Int32) = 40 by decide) (by decide)).symm ▸ LI.mk (c := 40) (cap := 49) (by decide) (by decide) E147 Fs147 Fe147 Fm147 A147 (by rw [List.length_set]; exact vl0) O145 X147 gz39 ne39 (Bxl.push bx39 (by rw [vl0]; decide) (by decide) (by decide) E146 F146))
    · skip
      refine g_icmp_y B W137 (d_method_2_129) (XT.ii_ge_t hc144) (pc' := 144) (by decide) ?_
      show Go p.tables e below _ T137 (mkF m 144 #[.val (.ref a1), .val (.int n), .val (.int 32)] [])
      exact qj143 _ _ (Wk.more W137 (by decide) (by decide)) (own_mn3 (j := 40) hc144 (by decide) ▸ p137)
  intro T143 h143 W143 p143
  show Go p.tables e below _ T143 (mkF m 144 #[.val (.ref a1), .val (.int n), .val (.int 32)] [])
  exact r_v B W143 (d_method_2_144) (by decide) (by decide) ⟨rfl, p143⟩
theorem ef_fill40 (m : MethodId) (a1 : Addr) (n : Int32) (ca : Addr) (cl : Cell) (de : Addr) (dc : Cell) (mo : Addr) : entryFrame m #[(.ref a1), (.int n), (.int 40)] 3 = mkF m 0 #[.val (.ref a1), .val (.int n), .val (.int 40)] [] := by first | (simp [entryFrame, mkF, argsToLocals, Value.category]; done) | rfl
def Q_fill40 (Z : State) (a1 : Addr) (n : Int32) (ca : Addr) (cl : Cell) (de : Addr) (dc : Cell) (mo : Addr) (h0 : Heap) (v : Option Value) (h : Heap) : Prop := v = none ∧ LI Z h a1 de (mn 48 n)
set_option maxRecDepth 65536 in
set_option maxHeartbeats 40000000 in
theorem c_fill40 (l : Launch) (Z : State) (a0 : Array Value) (hw : ∀ d ∈ tables_1, d.before a0 Z = true) (a1 : Addr) (n : Int32) (ca : Addr) (cl : Cell) (de : Addr) (dc : Cell) (mo : Addr) (h0 : Heap) (P0 : LI Z h0 a1 de (mn 40 n)) (g1 : Z.heap.size ≤ a1) (Sh : Sta Z Z.heap "java/lang/Integer$IntegerCache" "high" "I" (.int 127)) (Sc : Sta Z Z.heap "java/lang/Integer$IntegerCache" "cache" "[Ljava/lang/Integer;" (.ref ca)) (Bx : Bxs Z ca cl "java/lang/Integer" "I" 256 (fun j => .int (j - 128))) (Sde : Sta Z Z.heap "java/util/ArrayList" "DEFAULTCAPACITY_EMPTY_ELEMENTDATA" "[Ljava/lang/Object;" (.ref de)) (Ade : Arr Z Z.heap de dc (.object "java/lang/Object")) (lde : dc.slots.size.toInt32 = 0) (Mo : Mi Z "[Ljava/lang/Object;" mo) :
    Con l Z (⟨"com/example/presswright/presswright/publishing/PagingPagesPinLaw", "fill8", "(Ljava/util/ArrayList;II)V"⟩ : MethodName) method_2_code 3 (Option.none : Option FieldType) [] ({ frames := 7, cells := 0, slots := 0, locals := 124 } : Room) #[(.ref a1), (.int n), (.int 40)] h0 (Q_fill40 Z a1 n ca cl de dc mo h0) := by
  refine Con.of (plainFor_of_name pn_com_example_presswright_presswright_publishing_PagingPagesPinLaw) ?_
  intro p e s m below meth c T0 B W0
  refine Go.cast (ef_fill40 m a1 n ca cl de dc mo ) ?_
  refine g_iload_n B W0 (d_method_2_0) rfl ?_
  refine g_iload_n B W0 (d_method_2_1) rfl ?_
  suffices qj101 : ∀ (T' : State) (h' : Heap), Wk p l e ({ frames := 7, cells := 0, slots := 0, locals := 124 } : Room) s m #[(.ref a1), (.int n), (.int 40)] below meth c Z T' h' 0 0 → (LI Z h' a1 de (mn 41 n)) → Go p.tables e below (Jvm.OwnK.Out Z s (Q_fill40 Z a1 n ca cl de dc mo h0) ({ frames := 7, cells := 0, slots := 0, locals := 124 } : Room).cells ({ frames := 7, cells := 0, slots := 0, locals := 124 } : Room).slots) T' (mkF m 14 #[.val (.ref a1), .val (.int n), .val (.int 40)] []) by
    by_cases hc102 : 40 < n
    · skip
      refine g_icmp_n B W0 (d_method_2_2) (XT.ii_ge_f hc102) ?_
      show Go p.tables e below _ T0 (mkF m 5 #[.val (.ref a1), .val (.int n), .val (.int 40)] [])
      have P103 := P0
      rw [own_mn1 hc102] at P103
      have z103 := W0.size
      obtain ⟨E103, Fs103, Fm103, ⟨q, -⟩ | ⟨-, ea103, kA103, vs40_, Fe103, A103, vl0, O103, X103, gz40, ne40, bx40⟩⟩ := P103
      · exact absurd q (by decide)
      rw [show capI 40 = 49 by decide] at A103 vl0
      have l103 := nlt A103.lt
      have la103 := nlt E103.lt
      refine g_aload_n B W0 (d_method_2_5) rfl rfl ?_
      refine g_iload_n B W0 (d_method_2_6) rfl ?_
      obtain ⟨T104, h104, v104, W104, Q104, st104⟩ := x_static B W0 [(.int 40)] (c_valueOf l Z a0 hw 40 ca cl h0 (by decide) Sh Sc Bx) (d_method_2_7) (tw hw 152 rfl) (tw hw 153 rfl) (tw hw 154 rfl) (tw hw 155 rfl) (by decide) (lenOf pd__I_Ljava_lang_Integer_ rfl) #[.val (.ref a1), .val (.int n), .val (.int 40)] [(.ref a1)] rfl 1 rfl (by decide) (by decide) (by decide) (by decide)
      obtain ⟨b104, rfl, rfl, E104, F104⟩ := Q104
      refine st104 _ ?_
      obtain ⟨T105, h105, v105, W105, Q105, st105⟩ := x_virtual B W104 (b := a1) [(.ref b104)] (c_addBI l Z a0 hw a1 40 b104 ea103 kA103 vs40_ 40 41 49 h0 E103 Fs103 Fe103 Fm103 (by omega) (E104.ext W104.old.2) A103 vl0 O103 X103 (by omega) ne40 (by decide) (by decide)) E103 (d_method_2_10) (tw hw 159 rfl) (tw hw 160 rfl) (tw hw 161 rfl) (tw hw 90 rfl) (tw hw 2 rfl) (tw hw 93 rfl) (by decide) (lenOf pd__Ljava_lang_Object__Z rfl) #[.val (.ref a1), .val (.int n), .val (.int 40)] [] rfl 0 rfl (by decide) (by decide) (by decide) (by decide)
      obtain ⟨rfl, K105, E105, Fs105, Fe105, Fm105, A105, X105⟩ := Q105
      have s106 := K105.1
      refine st105 _ ?_
      rw [show (40 + 1 : Int32) = 41 by decide] at Fm105
      show Go p.tables e below _ T105 (mkF m 13 #[.val (.ref a1), .val (.int n), .val (.int 40)] [(.int 1)])
      refine g_pop B W105 (d_method_2_13) rfl ?_
      exact qj101 _ _ (Wk.more W105 (by decide) (by decide)) ((own_mn2 hc102 (show (40 + 1 : Int32) = 41 by decide) (by decide)).symm ▸ LI.mk (c := 41) (cap := 49) (by decide) (by decide) E105 Fs105 Fe105 Fm105 A105 (by rw [List.length_set]; exact vl0) O103 X105 gz40 ne40 (Bxl.push bx40 (by rw [vl0]; decide) (by decide) (by decide) E104 F104))
    · skip
      refine g_icmp_y B W0 (d_method_2_2) (XT.ii_ge_t hc102) (pc' := 14) (by decide) ?_
      show Go p.tables e below _ T0 (mkF m 14 #[.val (.ref a1), .val (.int n), .val (.int 40)] [])
      exact qj101 _ _ (Wk.more W0 (by decide) (by decide)) (own_mn3 (j := 41) hc102 (by decide) ▸ P0)
  intro T101 h101 W101 p101
  show Go p.tables e below _ T101 (mkF m 14 #[.val (.ref a1), .val (.int n), .val (.int 40)] [])
  refine g_iload_n B W101 (d_method_2_14) rfl ?_
  refine g_iconst B W101 (d_method_2_15) (v := 1) (by decide) ?_
  refine g_iadd B W101 (d_method_2_16)  ?_
  rw [show (40 + 1 : Int32) = 41 by decide]
  refine g_iload_n B W101 (d_method_2_17) rfl ?_
  suffices qj107 : ∀ (T' : State) (h' : Heap), Wk p l e ({ frames := 7, cells := 0, slots := 0, locals := 124 } : Room) s m #[(.ref a1), (.int n), (.int 40)] below meth c Z T' h' 0 0 → (LI Z h' a1 de (mn 42 n)) → Go p.tables e below (Jvm.OwnK.Out Z s (Q_fill40 Z a1 n ca cl de dc mo h0) ({ frames := 7, cells := 0, slots := 0, locals := 124 } : Room).cells ({ frames := 7, cells := 0, slots := 0, locals := 124 } : Room).slots) T' (mkF m 32 #[.val (.ref a1), .val (.int n), .val (.int 40)] []) by
    by_cases hc108 : 41 < n
    · skip
      refine g_icmp_n B W101 (d_method_2_18) (XT.ii_ge_f hc108) ?_
      show Go p.tables e below _ T101 (mkF m 21 #[.val (.ref a1), .val (.int n), .val (.int 40)] [])
      have P109 := p101
      rw [own_mn1 hc108] at P109
      have z109 := W101.size
      obtain ⟨E109, Fs109, Fm109, ⟨q, -⟩ | ⟨-, ea109, kA109, vs41_, Fe109, A109, vl0, O109, X109, gz41, ne41, bx41⟩⟩ := P109
      · exact absurd q (by decide)
      rw [show capI 41 = 49 by decide] at A109 vl0
      have l109 := nlt A109.lt
      have la109 := nlt E109.lt
      refine g_aload_n B W101 (d_method_2_21) rfl rfl ?_
      refine g_iload_n B W101 (d_method_2_22) rfl ?_
      refine g_iconst B W101 (d_method_2_23) (v := 1) (by decide) ?_
      refine g_iadd B W101 (d_method_2_24)  ?_
      rw [show (40 + 1 : Int32) = 41 by decide]
      obtain ⟨T110, h110, v110, W110, Q110, st110⟩ := x_static B W101 [(.int 41)] (c_valueOf l Z a0 hw 41 ca cl h101 (by decide) Sh Sc Bx) (d_method_2_25) (tw hw 152 rfl) (tw hw 153 rfl) (tw hw 154 rfl) (tw hw 155 rfl) (by decide) (lenOf pd__I_Ljava_lang_Integer_ rfl) #[.val (.ref a1), .val (.int n), .val (.int 40)] [(.ref a1)] rfl 1 rfl (by decide) (by decide) (by decide) (by decide)
      obtain ⟨b110, rfl, rfl, E110, F110⟩ := Q110
      refine st110 _ ?_
      obtain ⟨T111, h111, v111, W111, Q111, st111⟩ := x_virtual B W110 (b := a1) [(.ref b110)] (c_addBI l Z a0 hw a1 41 b110 ea109 kA109 vs41_ 41 42 49 h101 E109 Fs109 Fe109 Fm109 (by omega) (E110.ext W110.old.2) A109 vl0 O109 X109 (by omega) ne41 (by decide) (by decide)) E109 (d_method_2_28) (tw hw 159 rfl) (tw hw 160 rfl) (tw hw 161 rfl) (tw hw 90 rfl) (tw hw 2 rfl) (tw hw 93 rfl) (by decide) (lenOf pd__Ljava_lang_Object__Z rfl) #[.val (.ref a1), .val (.int n), .val (.int 40)] [] rfl 0 rfl (by decide) (by decide) (by decide) (by decide)
      obtain ⟨rfl, K111, E111, Fs111, Fe111, Fm111, A111, X111⟩ := Q111
      have s112 := K111.1
      refine st111 _ ?_
      rw [show (41 + 1 : Int32) = 42 by decide] at Fm111
      show Go p.tables e below _ T111 (mkF m 31 #[.val (.ref a1), .val (.int n), .val (.int 40)] [(.int 1)])
      refine g_pop B W111 (d_method_2_31) rfl ?_
      exact qj107 _ _ (Wk.more W111 (by decide) (by decide)) ((own_mn2 hc108 (show (41 + 1 : Int32) = 42 by decide) (by decide)).symm ▸ LI.mk (c := 42) (cap := 49) (by decide) (by decide) E111 Fs111 Fe111 Fm111 A111 (by rw [List.length_set]; exact vl0) O109 X111 gz41 ne41 (Bxl.push bx41 (by rw [vl0]; decide) (by decide) (by decide) E110 F110))
    · skip
      refine g_icmp_y B W101 (d_method_2_18) (XT.ii_ge_t hc108) (pc' := 32) (by decide) ?_
      show Go p.tables e below _ T101 (mkF m 32 #[.val (.ref a1), .val (.int n), .val (.int 40)] [])
      exact qj107 _ _ (Wk.more W101 (by decide) (by decide)) (own_mn3 (j := 42) hc108 (by decide) ▸ p101)
  intro T107 h107 W107 p107
  show Go p.tables e below _ T107 (mkF m 32 #[.val (.ref a1), .val (.int n), .val (.int 40)] [])
  refine g_iload_n B W107 (d_method_2_32) rfl ?_
  refine g_iconst B W107 (d_method_2_33) (v := 2) (by decide) ?_
  refine g_iadd B W107 (d_method_2_34)  ?_
  rw [show (40 + 2 : Int32) = 42 by decide]
  refine g_iload_n B W107 (d_method_2_35) rfl ?_
  suffices qj113 : ∀ (T' : State) (h' : Heap), Wk p l e ({ frames := 7, cells := 0, slots := 0, locals := 124 } : Room) s m #[(.ref a1), (.int n), (.int 40)] below meth c Z T' h' 0 0 → (LI Z h' a1 de (mn 43 n)) → Go p.tables e below (Jvm.OwnK.Out Z s (Q_fill40 Z a1 n ca cl de dc mo h0) ({ frames := 7, cells := 0, slots := 0, locals := 124 } : Room).cells ({ frames := 7, cells := 0, slots := 0, locals := 124 } : Room).slots) T' (mkF m 50 #[.val (.ref a1), .val (.int n), .val (.int 40)] []) by
    by_cases hc114 : 42 < n
    · skip
      refine g_icmp_n B W107 (d_method_2_36) (XT.ii_ge_f hc114) ?_
      show Go p.tables e below _ T107 (mkF m 39 #[.val (.ref a1), .val (.int n), .val (.int 40)] [])
      have P115 := p107
      rw [own_mn1 hc114] at P115
      have z115 := W107.size
      obtain ⟨E115, Fs115, Fm115, ⟨q, -⟩ | ⟨-, ea115, kA115, vs42_, Fe115, A115, vl0, O115, X115, gz42, ne42, bx42⟩⟩ := P115
      · exact absurd q (by decide)
      rw [show capI 42 = 49 by decide] at A115 vl0
      have l115 := nlt A115.lt
      have la115 := nlt E115.lt
      refine g_aload_n B W107 (d_method_2_39) rfl rfl ?_
      refine g_iload_n B W107 (d_method_2_40) rfl ?_
      refine g_iconst B W107 (d_method_2_41) (v := 2) (by decide) ?_
      refine g_iadd B W107 (d_method_2_42)  ?_
      rw [show (40 + 2 : Int32) = 42 by decide]
      obtain ⟨T116, h116, v116, W116, Q116, st116⟩ := x_static B W107 [(.int 42)] (c_valueOf l Z a0 hw 42 ca cl h107 (by decide) Sh Sc Bx) (d_method_2_43) (tw hw 152 rfl) (tw hw 153 rfl) (tw hw 154 rfl) (tw hw 155 rfl) (by decide) (lenOf pd__I_Ljava_lang_Integer_ rfl) #[.val (.ref a1), .val (.int n), .val (.int 40)] [(.ref a1)] rfl 1 rfl (by decide) (by decide) (by decide) (by decide)
      obtain ⟨b116, rfl, rfl, E116, F116⟩ := Q116
      refine st116 _ ?_
      obtain ⟨T117, h117, v117, W117, Q117, st117⟩ := x_virtual B W116 (b := a1) [(.ref b116)] (c_addBI l Z a0 hw a1 42 b116 ea115 kA115 vs42_ 42 43 49 h107 E115 Fs115 Fe115 Fm115 (by omega) (E116.ext W116.old.2) A115 vl0 O115 X115 (by omega) ne42 (by decide) (by decide)) E115 (d_method_2_46) (tw hw 159 rfl) (tw hw 160 rfl) (tw hw 161 rfl) (tw hw 90 rfl) (tw hw 2 rfl) (tw hw 93 rfl) (by decide) (lenOf pd__Ljava_lang_Object__Z rfl) #[.val (.ref a1), .val (.int n), .val (.int 40)] [] rfl 0 rfl (by decide) (by decide) (by decide) (by decide)
      obtain ⟨rfl, K117, E117, Fs117, Fe117, Fm117, A117, X117⟩ := Q117
      have s118 := K117.1
      refine st117 _ ?_
      rw [show (42 + 1 : Int32) = 43 by decide] at Fm117
      show Go p.tables e below _ T117 (mkF m 49 #[.val (.ref a1), .val (.int n), .val (.int 40)] [(.int 1)])
      refine g_pop B W117 (d_method_2_49) rfl ?_
      exact qj113 _ _ (Wk.more W117 (by decide) (by decide)) ((own_mn2 hc114 (show (42 + 1 : Int32) = 43 by decide) (by decide)).symm ▸ LI.mk (c := 43) (cap := 49) (by decide) (by decide) E117 Fs117 Fe117 Fm117 A117 (by rw [List.length_set]; exact vl0) O115 X117 gz42 ne42 (Bxl.push bx42 (by rw [vl0]; decide) (by decide) (by decide) E116 F116))
    · skip
      refine g_icmp_y B W107 (d_method_2_36) (XT.ii_ge_t hc114) (pc' := 50) (by decide) ?_
      show Go p.tables e below _ T107 (mkF m 50 #[.val (.ref a1), .val (.int n), .val (.int 40)] [])
      exact qj113 _ _ (Wk.more W107 (by decide) (by decide)) (own_mn3 (j := 43) hc114 (by decide) ▸ p107)
  intro T113 h113 W113 p113
  show Go p.tables e below _ T113 (mkF m 50 #[.val (.ref a1), .val (.int n), .val (.int 40)] [])
  refine g_iload_n B W113 (d_method_2_50) rfl ?_
  refine g_iconst B W113 (d_method_2_51) (v := 3) (by decide) ?_
  refine g_iadd B W113 (d_method_2_52)  ?_
  rw [show (40 + 3 : Int32) = 43 by decide]
  refine g_iload_n B W113 (d_method_2_53) rfl ?_
  suffices qj119 : ∀ (T' : State) (h' : Heap), Wk p l e ({ frames := 7, cells := 0, slots := 0, locals := 124 } : Room) s m #[(.ref a1), (.int n), (.int 40)] below meth c Z T' h' 0 0 → (LI Z h' a1 de (mn 44 n)) → Go p.tables e below (Jvm.OwnK.Out Z s (Q_fill40 Z a1 n ca cl de dc mo h0) ({ frames := 7, cells := 0, slots := 0, locals := 124 } : Room).cells ({ frames := 7, cells := 0, slots := 0, locals := 124 } : Room).slots) T' (mkF m 68 #[.val (.ref a1), .val (.int n), .val (.int 40)] []) by
    by_cases hc120 : 43 < n
    · skip
      refine g_icmp_n B W113 (d_method_2_54) (XT.ii_ge_f hc120) ?_
      show Go p.tables e below _ T113 (mkF m 57 #[.val (.ref a1), .val (.int n), .val (.int 40)] [])
      have P121 := p113
      rw [own_mn1 hc120] at P121
      have z121 := W113.size
      obtain ⟨E121, Fs121, Fm121, ⟨q, -⟩ | ⟨-, ea121, kA121, vs43_, Fe121, A121, vl0, O121, X121, gz43, ne43, bx43⟩⟩ := P121
      · exact absurd q (by decide)
      rw [show capI 43 = 49 by decide] at A121 vl0
      have l121 := nlt A121.lt
      have la121 := nlt E121.lt
      refine g_aload_n B W113 (d_method_2_57) rfl rfl ?_
      refine g_iload_n B W113 (d_method_2_58) rfl ?_
      refine g_iconst B W113 (d_method_2_59) (v := 3) (by decide) ?_
      refine g_iadd B W113 (d_method_2_60)  ?_
      rw [show (40 + 3 : Int32) = 43 by decide]
      obtain ⟨T122, h122, v122, W122, Q122, st122⟩ := x_static B W113 [(.int 43)] (c_valueOf l Z a0 hw 43 ca cl h113 (by decide) Sh Sc Bx) (d_method_2_61) (tw hw 152 rfl) (tw hw 153 rfl) (tw hw 154 rfl) (tw hw 155 rfl) (by decide) (lenOf pd__I_Ljava_lang_Integer_ rfl) #[.val (.ref a1), .val (.int n), .val (.int 40)] [(.ref a1)] rfl 1 rfl (by decide) (by decide) (by decide) (by decide)
      obtain ⟨b122, rfl, rfl, E122, F122⟩ := Q122
      refine st122 _ ?_
      obtain ⟨T123, h123, v123, W123, Q123, st123⟩ := x_virtual B W122 (b := a1) [(.ref b122)] (c_addBI l Z a0 hw a1 43 b122 ea121 kA121 vs43_ 43 44 49 h113 E121 Fs121 Fe121 Fm121 (by omega) (E122.ext W122.old.2) A121 vl0 O121 X121 (by omega) ne43 (by decide) (by decide)) E121 (d_method_2_64) (tw hw 159 rfl) (tw hw 160 rfl) (tw hw 161 rfl) (tw hw 90 rfl) (tw hw 2 rfl) (tw hw 93 rfl) (by decide) (lenOf pd__Ljava_lang_Object__Z rfl) #[.val (.ref a1), .val (.int n), .val (.int 40)] [] rfl 0 rfl (by decide) (by decide) (by decide) (by decide)
      obtain ⟨rfl, K123, E123, Fs123, Fe123, Fm123, A123, X123⟩ := Q123
      have s124 := K123.1
      refine st123 _ ?_
      rw [show (43 + 1 : Int32) = 44 by decide] at Fm123
      show Go p.tables e below _ T123 (mkF m 67 #[.val (.ref a1), .val (.int n), .val (.int 40)] [(.int 1)])
      refine g_pop B W123 (d_method_2_67) rfl ?_
      exact qj119 _ _ (Wk.more W123 (by decide) (by decide)) ((own_mn2 hc120 (show (43 + 1 : Int32) = 44 by decide) (by decide)).symm ▸ LI.mk (c := 44) (cap := 49) (by decide) (by decide) E123 Fs123 Fe123 Fm123 A123 (by rw [List.length_set]; exact vl0) O121 X123 gz43 ne43 (Bxl.push bx43 (by rw [vl0]; decide) (by decide) (by decide) E122 F122))
    · skip
      refine g_icmp_y B W113 (d_method_2_54) (XT.ii_ge_t hc120) (pc' := 68) (by decide) ?_
      show Go p.tables e below _ T113 (mkF m 68 #[.val (.ref a1), .val (.int n), .val (.int 40)] [])
      exact qj119 _ _ (Wk.more W113 (by decide) (by decide)) (own_mn3 (j := 44) hc120 (by decide) ▸ p113)
  intro T119 h119 W119 p119
  show Go p.tables e below _ T119 (mkF m 68 #[.val (.ref a1), .val (.int n), .val (.int 40)] [])
  refine g_iload_n B W119 (d_method_2_68) rfl ?_
  refine g_iconst B W119 (d_method_2_69) (v := 4) (by decide) ?_
  refine g_iadd B W119 (d_method_2_70)  ?_
  rw [show (40 + 4 : Int32) = 44 by decide]
  refine g_iload_n B W119 (d_method_2_71) rfl ?_
  suffices qj125 : ∀ (T' : State) (h' : Heap), Wk p l e ({ frames := 7, cells := 0, slots := 0, locals := 124 } : Room) s m #[(.ref a1), (.int n), (.int 40)] below meth c Z T' h' 0 0 → (LI Z h' a1 de (mn 45 n)) → Go p.tables e below (Jvm.OwnK.Out Z s (Q_fill40 Z a1 n ca cl de dc mo h0) ({ frames := 7, cells := 0, slots := 0, locals := 124 } : Room).cells ({ frames := 7, cells := 0, slots := 0, locals := 124 } : Room).slots) T' (mkF m 86 #[.val (.ref a1), .val (.int n), .val (.int 40)] []) by
    by_cases hc126 : 44 < n
    · skip
      refine g_icmp_n B W119 (d_method_2_72) (XT.ii_ge_f hc126) ?_
      show Go p.tables e below _ T119 (mkF m 75 #[.val (.ref a1), .val (.int n), .val (.int 40)] [])
      have P127 := p119
      rw [own_mn1 hc126] at P127
      have z127 := W119.size
      obtain ⟨E127, Fs127, Fm127, ⟨q, -⟩ | ⟨-, ea127, kA127, vs44_, Fe127, A127, vl0, O127, X127, gz44, ne44, bx44⟩⟩ := P127
      · exact absurd q (by decide)
      rw [show capI 44 = 49 by decide] at A127 vl0
      have l127 := nlt A127.lt
      have la127 := nlt E127.lt
      refine g_aload_n B W119 (d_method_2_75) rfl rfl ?_
      refine g_iload_n B W119 (d_method_2_76) rfl ?_
      refine g_iconst B W119 (d_method_2_77) (v := 4) (by decide) ?_
      refine g_iadd B W119 (d_method_2_78)  ?_
      rw [show (40 + 4 : Int32) = 44 by decide]
      obtain ⟨T128, h128, v128, W128, Q128, st128⟩ := x_static B W119 [(.int 44)] (c_valueOf l Z a0 hw 44 ca cl h119 (by decide) Sh Sc Bx) (d_method_2_79) (tw hw 152 rfl) (tw hw 153 rfl) (tw hw 154 rfl) (tw hw 155 rfl) (by decide) (lenOf pd__I_Ljava_lang_Integer_ rfl) #[.val (.ref a1), .val (.int n), .val (.int 40)] [(.ref a1)] rfl 1 rfl (by decide) (by decide) (by decide) (by decide)
      obtain ⟨b128, rfl, rfl, E128, F128⟩ := Q128
      refine st128 _ ?_
      obtain ⟨T129, h129, v129, W129, Q129, st129⟩ := x_virtual B W128 (b := a1) [(.ref b128)] (c_addBI l Z a0 hw a1 44 b128 ea127 kA127 vs44_ 44 45 49 h119 E127 Fs127 Fe127 Fm127 (by omega) (E128.ext W128.old.2) A127 vl0 O127 X127 (by omega) ne44 (by decide) (by decide)) E127 (d_method_2_82) (tw hw 159 rfl) (tw hw 160 rfl) (tw hw 161 rfl) (tw hw 90 rfl) (tw hw 2 rfl) (tw hw 93 rfl) (by decide) (lenOf pd__Ljava_lang_Object__Z rfl) #[.val (.ref a1), .val (.int n), .val (.int 40)] [] rfl 0 rfl (by decide) (by decide) (by decide) (by decide)
      obtain ⟨rfl, K129, E129, Fs129, Fe129, Fm129, A129, X129⟩ := Q129
      have s130 := K129.1
      refine st129 _ ?_
      rw [show (44 + 1 : Int32) = 45 by decide] at Fm129
      show Go p.tables e below _ T129 (mkF m 85 #[.val (.ref a1), .val (.int n), .val (.int 40)] [(.int 1)])
      refine g_pop B W129 (d_method_2_85) rfl ?_
      exact qj125 _ _ (Wk.more W129 (by decide) (by decide)) ((own_mn2 hc126 (show (44 + 1 : Int32) = 45 by decide) (by decide)).symm ▸ LI.mk (c := 45) (cap := 49) (by decide) (by decide) E129 Fs129 Fe129 Fm129 A129 (by rw [List.length_set]; exact vl0) O127 X129 gz44 ne44 (Bxl.push bx44 (by rw [vl0]; decide) (by decide) (by decide) E128 F128))
    · skip
      refine g_icmp_y B W119 (d_method_2_72) (XT.ii_ge_t hc126) (pc' := 86) (by decide) ?_
      show Go p.tables e below _ T119 (mkF m 86 #[.val (.ref a1), .val (.int n), .val (.int 40)] [])
      exact qj125 _ _ (Wk.more W119 (by decide) (by decide)) (own_mn3 (j := 45) hc126 (by decide) ▸ p119)
  intro T125 h125 W125 p125
  show Go p.tables e below _ T125 (mkF m 86 #[.val (.ref a1), .val (.int n), .val (.int 40)] [])
  refine g_iload_n B W125 (d_method_2_86) rfl ?_
  refine g_iconst B W125 (d_method_2_87) (v := 5) (by decide) ?_
  refine g_iadd B W125 (d_method_2_88)  ?_
  rw [show (40 + 5 : Int32) = 45 by decide]
  refine g_iload_n B W125 (d_method_2_89) rfl ?_
  suffices qj131 : ∀ (T' : State) (h' : Heap), Wk p l e ({ frames := 7, cells := 0, slots := 0, locals := 124 } : Room) s m #[(.ref a1), (.int n), (.int 40)] below meth c Z T' h' 0 0 → (LI Z h' a1 de (mn 46 n)) → Go p.tables e below (Jvm.OwnK.Out Z s (Q_fill40 Z a1 n ca cl de dc mo h0) ({ frames := 7, cells := 0, slots := 0, locals := 124 } : Room).cells ({ frames := 7, cells := 0, slots := 0, locals := 124 } : Room).slots) T' (mkF m 104 #[.val (.ref a1), .val (.int n), .val (.int 40)] []) by
    by_cases hc132 : 45 < n
    · skip
      refine g_icmp_n B W125 (d_method_2_90) (XT.ii_ge_f hc132) ?_
      show Go p.tables e below _ T125 (mkF m 93 #[.val (.ref a1), .val (.int n), .val (.int 40)] [])
      have P133 := p125
      rw [own_mn1 hc132] at P133
      have z133 := W125.size
      obtain ⟨E133, Fs133, Fm133, ⟨q, -⟩ | ⟨-, ea133, kA133, vs45_, Fe133, A133, vl0, O133, X133, gz45, ne45, bx45⟩⟩ := P133
      · exact absurd q (by decide)
      rw [show capI 45 = 49 by decide] at A133 vl0
      have l133 := nlt A133.lt
      have la133 := nlt E133.lt
      refine g_aload_n B W125 (d_method_2_93) rfl rfl ?_
      refine g_iload_n B W125 (d_method_2_94) rfl ?_
      refine g_iconst B W125 (d_method_2_95) (v := 5) (by decide) ?_
      refine g_iadd B W125 (d_method_2_96)  ?_
      rw [show (40 + 5 : Int32) = 45 by decide]
      obtain ⟨T134, h134, v134, W134, Q134, st134⟩ := x_static B W125 [(.int 45)] (c_valueOf l Z a0 hw 45 ca cl h125 (by decide) Sh Sc Bx) (d_method_2_97) (tw hw 152 rfl) (tw hw 153 rfl) (tw hw 154 rfl) (tw hw 155 rfl) (by decide) (lenOf pd__I_Ljava_lang_Integer_ rfl) #[.val (.ref a1), .val (.int n), .val (.int 40)] [(.ref a1)] rfl 1 rfl (by decide) (by decide) (by decide) (by decide)
      obtain ⟨b134, rfl, rfl, E134, F134⟩ := Q134
      refine st134 _ ?_
      obtain ⟨T135, h135, v135, W135, Q135, st135⟩ := x_virtual B W134 (b := a1) [(.ref b134)] (c_addBI l Z a0 hw a1 45 b134 ea133 kA133 vs45_ 45 46 49 h125 E133 Fs133 Fe133 Fm133 (by omega) (E134.ext W134.old.2) A133 vl0 O133 X133 (by omega) ne45 (by decide) (by decide)) E133 (d_method_2_100) (tw hw 159 rfl) (tw hw 160 rfl) (tw hw 161 rfl) (tw hw 90 rfl) (tw hw 2 rfl) (tw hw 93 rfl) (by decide) (lenOf pd__Ljava_lang_Object__Z rfl) #[.val (.ref a1), .val (.int n), .val (.int 40)] [] rfl 0 rfl (by decide) (by decide) (by decide) (by decide)
      obtain ⟨rfl, K135, E135, Fs135, Fe135, Fm135, A135, X135⟩ := Q135
      have s136 := K135.1
      refine st135 _ ?_
      rw [show (45 + 1 : Int32) = 46 by decide] at Fm135
      show Go p.tables e below _ T135 (mkF m 103 #[.val (.ref a1), .val (.int n), .val (.int 40)] [(.int 1)])
      refine g_pop B W135 (d_method_2_103) rfl ?_
      exact qj131 _ _ (Wk.more W135 (by decide) (by decide)) ((own_mn2 hc132 (show (45 + 1 : Int32) = 46 by decide) (by decide)).symm ▸ LI.mk (c := 46) (cap := 49) (by decide) (by decide) E135 Fs135 Fe135 Fm135 A135 (by rw [List.length_set]; exact vl0) O133 X135 gz45 ne45 (Bxl.push bx45 (by rw [vl0]; decide) (by decide) (by decide) E134 F134))
    · skip
      refine g_icmp_y B W125 (d_method_2_90) (XT.ii_ge_t hc132) (pc' := 104) (by decide) ?_
      show Go p.tables e below _ T125 (mkF m 104 #[.val (.ref a1), .val (.int n), .val (.int 40)] [])
      exact qj131 _ _ (Wk.more W125 (by decide) (by decide)) (own_mn3 (j := 46) hc132 (by decide) ▸ p125)
  intro T131 h131 W131 p131
  show Go p.tables e below _ T131 (mkF m 104 #[.val (.ref a1), .val (.int n), .val (.int 40)] [])
  refine g_iload_n B W131 (d_method_2_104) rfl ?_
  refine g_bipush B W131 (d_method_2_105) (v := 6) (by decide) ?_
  refine g_iadd B W131 (d_method_2_107)  ?_
  rw [show (40 + 6 : Int32) = 46 by decide]
  refine g_iload_n B W131 (d_method_2_108) rfl ?_
  suffices qj137 : ∀ (T' : State) (h' : Heap), Wk p l e ({ frames := 7, cells := 0, slots := 0, locals := 124 } : Room) s m #[(.ref a1), (.int n), (.int 40)] below meth c Z T' h' 0 0 → (LI Z h' a1 de (mn 47 n)) → Go p.tables e below (Jvm.OwnK.Out Z s (Q_fill40 Z a1 n ca cl de dc mo h0) ({ frames := 7, cells := 0, slots := 0, locals := 124 } : Room).cells ({ frames := 7, cells := 0, slots := 0, locals := 124 } : Room).slots) T' (mkF m 124 #[.val (.ref a1), .val (.int n), .val (.int 40)] []) by
    by_cases hc138 : 46 < n
    · skip
      refine g_icmp_n B W131 (d_method_2_109) (XT.ii_ge_f hc138) ?_
      show Go p.tables e below _ T131 (mkF m 112 #[.val (.ref a1), .val (.int n), .val (.int 40)] [])
      have P139 := p131
      rw [own_mn1 hc138] at P139
      have z139 := W131.size
      obtain ⟨E139, Fs139, Fm139, ⟨q, -⟩ | ⟨-, ea139, kA139, vs46_, Fe139, A139, vl0, O139, X139, gz46, ne46, bx46⟩⟩ := P139
      · exact absurd q (by decide)
      rw [show capI 46 = 49 by decide] at A139 vl0
      have l139 := nlt A139.lt
      have la139 := nlt E139.lt
      refine g_aload_n B W131 (d_method_2_112) rfl rfl ?_
      refine g_iload_n B W131 (d_method_2_113) rfl ?_
      refine g_bipush B W131 (d_method_2_114) (v := 6) (by decide) ?_
      refine g_iadd B W131 (d_method_2_116)  ?_
      rw [show (40 + 6 : Int32) = 46 by decide]
      obtain ⟨T140, h140, v140, W140, Q140, st140⟩ := x_static B W131 [(.int 46)] (c_valueOf l Z a0 hw 46 ca cl h131 (by decide) Sh Sc Bx) (d_method_2_117) (tw hw 152 rfl) (tw hw 153 rfl) (tw hw 154 rfl) (tw hw 155 rfl) (by decide) (lenOf pd__I_Ljava_lang_Integer_ rfl) #[.val (.ref a1), .val (.int n), .val (.int 40)] [(.ref a1)] rfl 1 rfl (by decide) (by decide) (by decide) (by decide)
      obtain ⟨b140, rfl, rfl, E140, F140⟩ := Q140
      refine st140 _ ?_
      obtain ⟨T141, h141, v141, W141, Q141, st141⟩ := x_virtual B W140 (b := a1) [(.ref b140)] (c_addBI l Z a0 hw a1 46 b140 ea139 kA139 vs46_ 46 47 49 h131 E139 Fs139 Fe139 Fm139 (by omega) (E140.ext W140.old.2) A139 vl0 O139 X139 (by omega) ne46 (by decide) (by decide)) E139 (d_method_2_120) (tw hw 159 rfl) (tw hw 160 rfl) (tw hw 161 rfl) (tw hw 90 rfl) (tw hw 2 rfl) (tw hw 93 rfl) (by decide) (lenOf pd__Ljava_lang_Object__Z rfl) #[.val (.ref a1), .val (.int n), .val (.int 40)] [] rfl 0 rfl (by decide) (by decide) (by decide) (by decide)
      obtain ⟨rfl, K141, E141, Fs141, Fe141, Fm141, A141, X141⟩ := Q141
      have s142 := K141.1
      refine st141 _ ?_
      rw [show (46 + 1 : Int32) = 47 by decide] at Fm141
      show Go p.tables e below _ T141 (mkF m 123 #[.val (.ref a1), .val (.int n), .val (.int 40)] [(.int 1)])
      refine g_pop B W141 (d_method_2_123) rfl ?_
      exact qj137 _ _ (Wk.more W141 (by decide) (by decide)) ((own_mn2 hc138 (show (46 + 1 : Int32) = 47 by decide) (by decide)).symm ▸ LI.mk (c := 47) (cap := 49) (by decide) (by decide) E141 Fs141 Fe141 Fm141 A141 (by rw [List.length_set]; exact vl0) O139 X141 gz46 ne46 (Bxl.push bx46 (by rw [vl0]; decide) (by decide) (by decide) E140 F140))
    · skip
      refine g_icmp_y B W131 (d_method_2_109) (XT.ii_ge_t hc138) (pc' := 124) (by decide) ?_
      show Go p.tables e below _ T131 (mkF m 124 #[.val (.ref a1), .val (.int n), .val (.int 40)] [])
      exact qj137 _ _ (Wk.more W131 (by decide) (by decide)) (own_mn3 (j := 47) hc138 (by decide) ▸ p131)
  intro T137 h137 W137 p137
  show Go p.tables e below _ T137 (mkF m 124 #[.val (.ref a1), .val (.int n), .val (.int 40)] [])
  refine g_iload_n B W137 (d_method_2_124) rfl ?_
  refine g_bipush B W137 (d_method_2_125) (v := 7) (by decide) ?_
  refine g_iadd B W137 (d_method_2_127)  ?_
  rw [show (40 + 7 : Int32) = 47 by decide]
  refine g_iload_n B W137 (d_method_2_128) rfl ?_
  suffices qj143 : ∀ (T' : State) (h' : Heap), Wk p l e ({ frames := 7, cells := 0, slots := 0, locals := 124 } : Room) s m #[(.ref a1), (.int n), (.int 40)] below meth c Z T' h' 0 0 → (LI Z h' a1 de (mn 48 n)) → Go p.tables e below (Jvm.OwnK.Out Z s (Q_fill40 Z a1 n ca cl de dc mo h0) ({ frames := 7, cells := 0, slots := 0, locals := 124 } : Room).cells ({ frames := 7, cells := 0, slots := 0, locals := 124 } : Room).slots) T' (mkF m 144 #[.val (.ref a1), .val (.int n), .val (.int 40)] []) by
    by_cases hc144 : 47 < n
    · skip
      refine g_icmp_n B W137 (d_method_2_129) (XT.ii_ge_f hc144) ?_
      show Go p.tables e below _ T137 (mkF m 132 #[.val (.ref a1), .val (.int n), .val (.int 40)] [])
      have P145 := p137
      rw [own_mn1 hc144] at P145
      have z145 := W137.size
      obtain ⟨E145, Fs145, Fm145, ⟨q, -⟩ | ⟨-, ea145, kA145, vs47_, Fe145, A145, vl0, O145, X145, gz47, ne47, bx47⟩⟩ := P145
      · exact absurd q (by decide)
      rw [show capI 47 = 49 by decide] at A145 vl0
      have l145 := nlt A145.lt
      have la145 := nlt E145.lt
      refine g_aload_n B W137 (d_method_2_132) rfl rfl ?_
      refine g_iload_n B W137 (d_method_2_133) rfl ?_
      refine g_bipush B W137 (d_method_2_134) (v := 7) (by decide) ?_
      refine g_iadd B W137 (d_method_2_136)  ?_
      rw [show (40 + 7 : Int32) = 47 by decide]
      obtain ⟨T146, h146, v146, W146, Q146, st146⟩ := x_static B W137 [(.int 47)] (c_valueOf l Z a0 hw 47 ca cl h137 (by decide) Sh Sc Bx) (d_method_2_137) (tw hw 152 rfl) (tw hw 153 rfl) (tw hw 154 rfl) (tw hw 155 rfl) (by decide) (lenOf pd__I_Ljava_lang_Integer_ rfl) #[.val (.ref a1), .val (.int n), .val (.int 40)] [(.ref a1)] rfl 1 rfl (by decide) (by decide) (by decide) (by decide)
      obtain ⟨b146, rfl, rfl, E146, F146⟩ := Q146
      refine st146 _ ?_
      obtain ⟨T147, h147, v147, W147, Q147, st147⟩ := x_virtual B W146 (b := a1) [(.ref b146)] (c_addBI l Z a0 hw a1 47 b146 ea145 kA145 vs47_ 47 48 49 h137 E145 Fs145 Fe145 Fm145 (by omega) (E146.ext W146.old.2) A145 vl0 O145 X145 (by omega) ne47 (by decide) (by decide)) E145 (d_method_2_140) (tw hw 159 rfl) (tw hw 160 rfl) (tw hw 161 rfl) (tw hw 90 rfl) (tw hw 2 rfl) (tw hw 93 rfl) (by decide) (lenOf pd__Ljava_lang_Object__Z rfl) #[.val (.ref a1), .val (.int n), .val (.int 40)] [] rfl 0 rfl (by decide) (by decide) (by decide) (by decide)
      obtain ⟨rfl, K147, E147, Fs147, Fe147, Fm147, A147, X147⟩ := Q147
      have s148 := K147.1
      refine st147 _ ?_
      rw [show (47 + 1 : Int32) = 48 by decide] at Fm147
      show Go p.tables e below _ T147 (mkF m 143 #[.val (.ref a1), .val (.int n), .val (.int 40)] [(.int 1)])
      refine g_pop B W147 (d_method_2_143) rfl ?_
      exact qj143 _ _ (Wk.more W147 (by decide) (by decide)) ((own_mn2 hc144 (show (47 + 1 : Int32) = 48 by decide) (by decide)).symm ▸ LI.mk (c := 48) (cap := 49) (by decide) (by decide) E147 Fs147 Fe147 Fm147 A147 (by rw [List.length_set]; exact vl0) O145 X147 gz47 ne47 (Bxl.push bx47 (by rw [vl0]; decide) (by decide) (by decide) E146 F146))
    · skip
      refine g_icmp_y B W137 (d_method_2_129) (XT.ii_ge_t hc144) (pc' := 144) (by decide) ?_
      show Go p.tables e below _ T137 (mkF m 144 #[.val (.ref a1), .val (.int n), .val (.int 40)] [])
      exact qj143 _ _ (Wk.more W137 (by decide) (by decide)) (own_mn3 (j := 48) hc144 (by decide) ▸ p137)
  intro T143 h143 W143 p143
  show Go p.tables e below _ T143 (mkF m 144 #[.val (.ref a1), .val (.int n), .val (.int 40)] [])
  exact r_v B W143 (d_method_2_144) (by decide) (by decide) ⟨rfl, p143⟩
theorem ef_fill48 (m : MethodId) (a1 : Addr) (n : Int32) (ca : Addr) (cl : Cell) (de : Addr) (dc : Cell) (mo : Addr) : entryFrame m #[(.ref a1), (.int n), (.int 48)] 3 = mkF m 0 #[.val (.ref a1), .val (.int n), .val (.int 48)] [] := by first | (simp [entryFrame, mkF, argsToLocals, Value.category]; done) | rfl
def Q_fill48 (Z : State) (a1 : Addr) (n : Int32) (ca : Addr) (cl : Cell) (de : Addr) (dc : Cell) (mo : Addr) (h0 : Heap) (v : Option Value) (h : Heap) : Prop := v = none ∧ LI Z h a1 de (mn 56 n)
set_option maxRecDepth 65536 in
set_option maxHeartbeats 40000000 in
theorem c_fill48 (l : Launch) (Z : State) (a0 : Array Value) (hw : ∀ d ∈ tables_1, d.before a0 Z = true) (a1 : Addr) (n : Int32) (ca : Addr) (cl : Cell) (de : Addr) (dc : Cell) (mo : Addr) (h0 : Heap) (P0 : LI Z h0 a1 de (mn 48 n)) (g1 : Z.heap.size ≤ a1) (Sh : Sta Z Z.heap "java/lang/Integer$IntegerCache" "high" "I" (.int 127)) (Sc : Sta Z Z.heap "java/lang/Integer$IntegerCache" "cache" "[Ljava/lang/Integer;" (.ref ca)) (Bx : Bxs Z ca cl "java/lang/Integer" "I" 256 (fun j => .int (j - 128))) (Sde : Sta Z Z.heap "java/util/ArrayList" "DEFAULTCAPACITY_EMPTY_ELEMENTDATA" "[Ljava/lang/Object;" (.ref de)) (Ade : Arr Z Z.heap de dc (.object "java/lang/Object")) (lde : dc.slots.size.toInt32 = 0) (Mo : Mi Z "[Ljava/lang/Object;" mo) :
    Con l Z (⟨"com/example/presswright/presswright/publishing/PagingPagesPinLaw", "fill8", "(Ljava/util/ArrayList;II)V"⟩ : MethodName) method_2_code 3 (Option.none : Option FieldType) [] ({ frames := 7, cells := 1, slots := 73, locals := 124 } : Room) #[(.ref a1), (.int n), (.int 48)] h0 (Q_fill48 Z a1 n ca cl de dc mo h0) := by
  refine Con.of (plainFor_of_name pn_com_example_presswright_presswright_publishing_PagingPagesPinLaw) ?_
  intro p e s m below meth c T0 B W0
  refine Go.cast (ef_fill48 m a1 n ca cl de dc mo ) ?_
  refine g_iload_n B W0 (d_method_2_0) rfl ?_
  refine g_iload_n B W0 (d_method_2_1) rfl ?_
  suffices qj101 : ∀ (T' : State) (h' : Heap), Wk p l e ({ frames := 7, cells := 1, slots := 73, locals := 124 } : Room) s m #[(.ref a1), (.int n), (.int 48)] below meth c Z T' h' 0 0 → (LI Z h' a1 de (mn 49 n)) → Go p.tables e below (Jvm.OwnK.Out Z s (Q_fill48 Z a1 n ca cl de dc mo h0) ({ frames := 7, cells := 1, slots := 73, locals := 124 } : Room).cells ({ frames := 7, cells := 1, slots := 73, locals := 124 } : Room).slots) T' (mkF m 14 #[.val (.ref a1), .val (.int n), .val (.int 48)] []) by
    by_cases hc102 : 48 < n
    · skip
      refine g_icmp_n B W0 (d_method_2_2) (XT.ii_ge_f hc102) ?_
      show Go p.tables e below _ T0 (mkF m 5 #[.val (.ref a1), .val (.int n), .val (.int 48)] [])
      have P103 := P0
      rw [own_mn1 hc102] at P103
      have z103 := W0.size
      obtain ⟨E103, Fs103, Fm103, ⟨q, -⟩ | ⟨-, ea103, kA103, vs48_, Fe103, A103, vl0, O103, X103, gz48, ne48, bx48⟩⟩ := P103
      · exact absurd q (by decide)
      rw [show capI 48 = 49 by decide] at A103 vl0
      have l103 := nlt A103.lt
      have la103 := nlt E103.lt
      refine g_aload_n B W0 (d_method_2_5) rfl rfl ?_
      refine g_iload_n B W0 (d_method_2_6) rfl ?_
      obtain ⟨T104, h104, v104, W104, Q104, st104⟩ := x_static B W0 [(.int 48)] (c_valueOf l Z a0 hw 48 ca cl h0 (by decide) Sh Sc Bx) (d_method_2_7) (tw hw 152 rfl) (tw hw 153 rfl) (tw hw 154 rfl) (tw hw 155 rfl) (by decide) (lenOf pd__I_Ljava_lang_Integer_ rfl) #[.val (.ref a1), .val (.int n), .val (.int 48)] [(.ref a1)] rfl 1 rfl (by decide) (by decide) (by decide) (by decide)
      obtain ⟨b104, rfl, rfl, E104, F104⟩ := Q104
      refine st104 _ ?_
      obtain ⟨T105, h105, v105, W105, Q105, st105⟩ := x_virtual B W104 (b := a1) [(.ref b104)] (c_addBI l Z a0 hw a1 48 b104 ea103 kA103 vs48_ 48 49 49 h0 E103 Fs103 Fe103 Fm103 (by omega) (E104.ext W104.old.2) A103 vl0 O103 X103 (by omega) ne48 (by decide) (by decide)) E103 (d_method_2_10) (tw hw 159 rfl) (tw hw 160 rfl) (tw hw 161 rfl) (tw hw 90 rfl) (tw hw 2 rfl) (tw hw 93 rfl) (by decide) (lenOf pd__Ljava_lang_Object__Z rfl) #[.val (.ref a1), .val (.int n), .val (.int 48)] [] rfl 0 rfl (by decide) (by decide) (by decide) (by decide)
      obtain ⟨rfl, K105, E105, Fs105, Fe105, Fm105, A105, X105⟩ := Q105
      have s106 := K105.1
      refine st105 _ ?_
      rw [show (48 + 1 : Int32) = 49 by decide] at Fm105
      show Go p.tables e below _ T105 (mkF m 13 #[.val (.ref a1), .val (.int n), .val (.int 48)] [(.int 1)])
      refine g_pop B W105 (d_method_2_13) rfl ?_
      exact qj101 _ _ (Wk.more W105 (by decide) (by decide)) ((own_mn2 hc102 (show (48 + 1 : Int32) = 49 by decide) (by decide)).symm ▸ LI.mk (c := 49) (cap := 49) (by decide) (by decide) E105 Fs105 Fe105 Fm105 A105 (by rw [List.length_set]; exact vl0) O103 X105 gz48 ne48 (Bxl.push bx48 (by rw [vl0]; decide) (by decide) (by decide) E104 F104))
    · skip
      refine g_icmp_y B W0 (d_method_2_2) (XT.ii_ge_t hc102) (pc' := 14) (by decide) ?_
      show Go p.tables e below _ T0 (mkF m 14 #[.val (.ref a1), .val (.int n), .val (.int 48)] [])
      exact qj101 _ _ (Wk.more W0 (by decide) (by decide)) (own_mn3 (j := 49) hc102 (by decide) ▸ P0)
  intro T101 h101 W101 p101
  show Go p.tables e below _ T101 (mkF m 14 #[.val (.ref a1), .val (.int n), .val (.int 48)] [])
  refine g_iload_n B W101 (d_method_2_14) rfl ?_
  refine g_iconst B W101 (d_method_2_15) (v := 1) (by decide) ?_
  refine g_iadd B W101 (d_method_2_16)  ?_
  rw [show (48 + 1 : Int32) = 49 by decide]
  refine g_iload_n B W101 (d_method_2_17) rfl ?_
  suffices qj107 : ∀ (T' : State) (h' : Heap), Wk p l e ({ frames := 7, cells := 1, slots := 73, locals := 124 } : Room) s m #[(.ref a1), (.int n), (.int 48)] below meth c Z T' h' 1 73 → (LI Z h' a1 de (mn 50 n)) → Go p.tables e below (Jvm.OwnK.Out Z s (Q_fill48 Z a1 n ca cl de dc mo h0) ({ frames := 7, cells := 1, slots := 73, locals := 124 } : Room).cells ({ frames := 7, cells := 1, slots := 73, locals := 124 } : Room).slots) T' (mkF m 32 #[.val (.ref a1), .val (.int n), .val (.int 48)] []) by
    by_cases hc108 : 49 < n
    · skip
      refine g_icmp_n B W101 (d_method_2_18) (XT.ii_ge_f hc108) ?_
      show Go p.tables e below _ T101 (mkF m 21 #[.val (.ref a1), .val (.int n), .val (.int 48)] [])
      have P109 := p101
      rw [own_mn1 hc108] at P109
      have z109 := W101.size
      obtain ⟨E109, Fs109, Fm109, ⟨q, -⟩ | ⟨-, ea109, kA109, vs49_, Fe109, A109, vl0, O109, X109, gz49, ne49, bx49⟩⟩ := P109
      · exact absurd q (by decide)
      rw [show capI 49 = 49 by decide] at A109 vl0
      have l109 := nlt A109.lt
      have la109 := nlt E109.lt
      refine g_aload_n B W101 (d_method_2_21) rfl rfl ?_
      refine g_iload_n B W101 (d_method_2_22) rfl ?_
      refine g_iconst B W101 (d_method_2_23) (v := 1) (by decide) ?_
      refine g_iadd B W101 (d_method_2_24)  ?_
      rw [show (48 + 1 : Int32) = 49 by decide]
      obtain ⟨T110, h110, v110, W110, Q110, st110⟩ := x_static B W101 [(.int 49)] (c_valueOf l Z a0 hw 49 ca cl h101 (by decide) Sh Sc Bx) (d_method_2_25) (tw hw 152 rfl) (tw hw 153 rfl) (tw hw 154 rfl) (tw hw 155 rfl) (by decide) (lenOf pd__I_Ljava_lang_Integer_ rfl) #[.val (.ref a1), .val (.int n), .val (.int 48)] [(.ref a1)] rfl 1 rfl (by decide) (by decide) (by decide) (by decide)
      obtain ⟨b110, rfl, rfl, E110, F110⟩ := Q110
      refine st110 _ ?_
      obtain ⟨T111, h111, v111, W111, Q111, st111⟩ := x_virtual B W110 (b := a1) [(.ref b110)] (c_addG49 l Z a0 hw a1 49 b110 ea109 kA109 vs49_ mo h101 E109 Fs109 Fe109 Fm109 (by omega) (E110.ext W110.old.2) A109 (fun i hi => by obtain ⟨y, e, E, -⟩ := bx49 i hi; exact ⟨y, e, E⟩) X109 ne49 Mo) E109 (d_method_2_28) (tw hw 159 rfl) (tw hw 160 rfl) (tw hw 161 rfl) (tw hw 90 rfl) (tw hw 2 rfl) (tw hw 93 rfl) (by decide) (lenOf pd__Ljava_lang_Object__Z rfl) #[.val (.ref a1), .val (.int n), .val (.int 48)] [] rfl 0 rfl (by decide) (by decide) (by decide) (by decide)
      obtain ⟨ea111, kB111, vs111, rfl, gb111, K111, E111, Fs111, Fe111, Fm111, A111, X111, vl111, O111, ag111⟩ := Q111
      have s112 := K111.1
      refine st111 _ ?_
      rw [show (49 + 1 : Int32) = 50 by decide] at Fm111
      have l111 := nlt A111.lt
      show Go p.tables e below _ T111 (mkF m 31 #[.val (.ref a1), .val (.int n), .val (.int 48)] [(.int 1)])
      refine g_pop B W111 (d_method_2_31) rfl ?_
      exact qj107 _ _ (Wk.more W111 (by decide) (by decide)) ((own_mn2 hc108 (show (49 + 1 : Int32) = 50 by decide) (by decide)).symm ▸ LI.mk (c := 50) (cap := 73) (by decide) (by decide) E111 Fs111 Fe111 Fm111 A111 (by rw [List.length_set]; exact vl111) O111 X111 (by omega) (by omega) (Bxl.push (Bxl.agree bx49 ag111) (by rw [vl111]; decide) (by decide) (by decide) E110 F110))
    · skip
      refine g_icmp_y B W101 (d_method_2_18) (XT.ii_ge_t hc108) (pc' := 32) (by decide) ?_
      show Go p.tables e below _ T101 (mkF m 32 #[.val (.ref a1), .val (.int n), .val (.int 48)] [])
      exact qj107 _ _ (Wk.more W101 (by decide) (by decide)) (own_mn3 (j := 50) hc108 (by decide) ▸ p101)
  intro T107 h107 W107 p107
  show Go p.tables e below _ T107 (mkF m 32 #[.val (.ref a1), .val (.int n), .val (.int 48)] [])
  refine g_iload_n B W107 (d_method_2_32) rfl ?_
  refine g_iconst B W107 (d_method_2_33) (v := 2) (by decide) ?_
  refine g_iadd B W107 (d_method_2_34)  ?_
  rw [show (48 + 2 : Int32) = 50 by decide]
  refine g_iload_n B W107 (d_method_2_35) rfl ?_
  suffices qj113 : ∀ (T' : State) (h' : Heap), Wk p l e ({ frames := 7, cells := 1, slots := 73, locals := 124 } : Room) s m #[(.ref a1), (.int n), (.int 48)] below meth c Z T' h' 1 73 → (LI Z h' a1 de (mn 51 n)) → Go p.tables e below (Jvm.OwnK.Out Z s (Q_fill48 Z a1 n ca cl de dc mo h0) ({ frames := 7, cells := 1, slots := 73, locals := 124 } : Room).cells ({ frames := 7, cells := 1, slots := 73, locals := 124 } : Room).slots) T' (mkF m 50 #[.val (.ref a1), .val (.int n), .val (.int 48)] []) by
    by_cases hc114 : 50 < n
    · skip
      refine g_icmp_n B W107 (d_method_2_36) (XT.ii_ge_f hc114) ?_
      show Go p.tables e below _ T107 (mkF m 39 #[.val (.ref a1), .val (.int n), .val (.int 48)] [])
      have P115 := p107
      rw [own_mn1 hc114] at P115
      have z115 := W107.size
      obtain ⟨E115, Fs115, Fm115, ⟨q, -⟩ | ⟨-, ea115, kA115, vs50_, Fe115, A115, vl0, O115, X115, gz50, ne50, bx50⟩⟩ := P115
      · exact absurd q (by decide)
      rw [show capI 50 = 73 by decide] at A115 vl0
      have l115 := nlt A115.lt
      have la115 := nlt E115.lt
      refine g_aload_n B W107 (d_method_2_39) rfl rfl ?_
      refine g_iload_n B W107 (d_method_2_40) rfl ?_
      refine g_iconst B W107 (d_method_2_41) (v := 2) (by decide) ?_
      refine g_iadd B W107 (d_method_2_42)  ?_
      rw [show (48 + 2 : Int32) = 50 by decide]
      obtain ⟨T116, h116, v116, W116, Q116, st116⟩ := x_static B W107 [(.int 50)] (c_valueOf l Z a0 hw 50 ca cl h107 (by decide) Sh Sc Bx) (d_method_2_43) (tw hw 152 rfl) (tw hw 153 rfl) (tw hw 154 rfl) (tw hw 155 rfl) (by decide) (lenOf pd__I_Ljava_lang_Integer_ rfl) #[.val (.ref a1), .val (.int n), .val (.int 48)] [(.ref a1)] rfl 1 rfl (by decide) (by decide) (by decide) (by decide)
      obtain ⟨b116, rfl, rfl, E116, F116⟩ := Q116
      refine st116 _ ?_
      obtain ⟨T117, h117, v117, W117, Q117, st117⟩ := x_virtual B W116 (b := a1) [(.ref b116)] (c_addBI l Z a0 hw a1 50 b116 ea115 kA115 vs50_ 50 51 73 h107 E115 Fs115 Fe115 Fm115 (by omega) (E116.ext W116.old.2) A115 vl0 O115 X115 (by omega) ne50 (by decide) (by decide)) E115 (d_method_2_46) (tw hw 159 rfl) (tw hw 160 rfl) (tw hw 161 rfl) (tw hw 90 rfl) (tw hw 2 rfl) (tw hw 93 rfl) (by decide) (lenOf pd__Ljava_lang_Object__Z rfl) #[.val (.ref a1), .val (.int n), .val (.int 48)] [] rfl 0 rfl (by decide) (by decide) (by decide) (by decide)
      obtain ⟨rfl, K117, E117, Fs117, Fe117, Fm117, A117, X117⟩ := Q117
      have s118 := K117.1
      refine st117 _ ?_
      rw [show (50 + 1 : Int32) = 51 by decide] at Fm117
      show Go p.tables e below _ T117 (mkF m 49 #[.val (.ref a1), .val (.int n), .val (.int 48)] [(.int 1)])
      refine g_pop B W117 (d_method_2_49) rfl ?_
      exact qj113 _ _ (Wk.more W117 (by decide) (by decide)) ((own_mn2 hc114 (show (50 + 1 : Int32) = 51 by decide) (by decide)).symm ▸ LI.mk (c := 51) (cap := 73) (by decide) (by decide) E117 Fs117 Fe117 Fm117 A117 (by rw [List.length_set]; exact vl0) O115 X117 gz50 ne50 (Bxl.push bx50 (by rw [vl0]; decide) (by decide) (by decide) E116 F116))
    · skip
      refine g_icmp_y B W107 (d_method_2_36) (XT.ii_ge_t hc114) (pc' := 50) (by decide) ?_
      show Go p.tables e below _ T107 (mkF m 50 #[.val (.ref a1), .val (.int n), .val (.int 48)] [])
      exact qj113 _ _ (Wk.more W107 (by decide) (by decide)) (own_mn3 (j := 51) hc114 (by decide) ▸ p107)
  intro T113 h113 W113 p113
  show Go p.tables e below _ T113 (mkF m 50 #[.val (.ref a1), .val (.int n), .val (.int 48)] [])
  refine g_iload_n B W113 (d_method_2_50) rfl ?_
  refine g_iconst B W113 (d_method_2_51) (v := 3) (by decide) ?_
  refine g_iadd B W113 (d_method_2_52)  ?_
  rw [show (48 + 3 : Int32) = 51 by decide]
  refine g_iload_n B W113 (d_method_2_53) rfl ?_
  suffices qj119 : ∀ (T' : State) (h' : Heap), Wk p l e ({ frames := 7, cells := 1, slots := 73, locals := 124 } : Room) s m #[(.ref a1), (.int n), (.int 48)] below meth c Z T' h' 1 73 → (LI Z h' a1 de (mn 52 n)) → Go p.tables e below (Jvm.OwnK.Out Z s (Q_fill48 Z a1 n ca cl de dc mo h0) ({ frames := 7, cells := 1, slots := 73, locals := 124 } : Room).cells ({ frames := 7, cells := 1, slots := 73, locals := 124 } : Room).slots) T' (mkF m 68 #[.val (.ref a1), .val (.int n), .val (.int 48)] []) by
    by_cases hc120 : 51 < n
    · skip
      refine g_icmp_n B W113 (d_method_2_54) (XT.ii_ge_f hc120) ?_
      show Go p.tables e below _ T113 (mkF m 57 #[.val (.ref a1), .val (.int n), .val (.int 48)] [])
      have P121 := p113
      rw [own_mn1 hc120] at P121
      have z121 := W113.size
      obtain ⟨E121, Fs121, Fm121, ⟨q, -⟩ | ⟨-, ea121, kA121, vs51_, Fe121, A121, vl0, O121, X121, gz51, ne51, bx51⟩⟩ := P121
      · exact absurd q (by decide)
      rw [show capI 51 = 73 by decide] at A121 vl0
      have l121 := nlt A121.lt
      have la121 := nlt E121.lt
      refine g_aload_n B W113 (d_method_2_57) rfl rfl ?_
      refine g_iload_n B W113 (d_method_2_58) rfl ?_
      refine g_iconst B W113 (d_method_2_59) (v := 3) (by decide) ?_
      refine g_iadd B W113 (d_method_2_60)  ?_
      rw [show (48 + 3 : Int32) = 51 by decide]
      obtain ⟨T122, h122, v122, W122, Q122, st122⟩ := x_static B W113 [(.int 51)] (c_valueOf l Z a0 hw 51 ca cl h113 (by decide) Sh Sc Bx) (d_method_2_61) (tw hw 152 rfl) (tw hw 153 rfl) (tw hw 154 rfl) (tw hw 155 rfl) (by decide) (lenOf pd__I_Ljava_lang_Integer_ rfl) #[.val (.ref a1), .val (.int n), .val (.int 48)] [(.ref a1)] rfl 1 rfl (by decide) (by decide) (by decide) (by decide)
      obtain ⟨b122, rfl, rfl, E122, F122⟩ := Q122
      refine st122 _ ?_
      obtain ⟨T123, h123, v123, W123, Q123, st123⟩ := x_virtual B W122 (b := a1) [(.ref b122)] (c_addBI l Z a0 hw a1 51 b122 ea121 kA121 vs51_ 51 52 73 h113 E121 Fs121 Fe121 Fm121 (by omega) (E122.ext W122.old.2) A121 vl0 O121 X121 (by omega) ne51 (by decide) (by decide)) E121 (d_method_2_64) (tw hw 159 rfl) (tw hw 160 rfl) (tw hw 161 rfl) (tw hw 90 rfl) (tw hw 2 rfl) (tw hw 93 rfl) (by decide) (lenOf pd__Ljava_lang_Object__Z rfl) #[.val (.ref a1), .val (.int n), .val (.int 48)] [] rfl 0 rfl (by decide) (by decide) (by decide) (by decide)
      obtain ⟨rfl, K123, E123, Fs123, Fe123, Fm123, A123, X123⟩ := Q123
      have s124 := K123.1
      refine st123 _ ?_
      rw [show (51 + 1 : Int32) = 52 by decide] at Fm123
      show Go p.tables e below _ T123 (mkF m 67 #[.val (.ref a1), .val (.int n), .val (.int 48)] [(.int 1)])
      refine g_pop B W123 (d_method_2_67) rfl ?_
      exact qj119 _ _ (Wk.more W123 (by decide) (by decide)) ((own_mn2 hc120 (show (51 + 1 : Int32) = 52 by decide) (by decide)).symm ▸ LI.mk (c := 52) (cap := 73) (by decide) (by decide) E123 Fs123 Fe123 Fm123 A123 (by rw [List.length_set]; exact vl0) O121 X123 gz51 ne51 (Bxl.push bx51 (by rw [vl0]; decide) (by decide) (by decide) E122 F122))
    · skip
      refine g_icmp_y B W113 (d_method_2_54) (XT.ii_ge_t hc120) (pc' := 68) (by decide) ?_
      show Go p.tables e below _ T113 (mkF m 68 #[.val (.ref a1), .val (.int n), .val (.int 48)] [])
      exact qj119 _ _ (Wk.more W113 (by decide) (by decide)) (own_mn3 (j := 52) hc120 (by decide) ▸ p113)
  intro T119 h119 W119 p119
  show Go p.tables e below _ T119 (mkF m 68 #[.val (.ref a1), .val (.int n), .val (.int 48)] [])
  refine g_iload_n B W119 (d_method_2_68) rfl ?_
  refine g_iconst B W119 (d_method_2_69) (v := 4) (by decide) ?_
  refine g_iadd B W119 (d_method_2_70)  ?_
  rw [show (48 + 4 : Int32) = 52 by decide]
  refine g_iload_n B W119 (d_method_2_71) rfl ?_
  suffices qj125 : ∀ (T' : State) (h' : Heap), Wk p l e ({ frames := 7, cells := 1, slots := 73, locals := 124 } : Room) s m #[(.ref a1), (.int n), (.int 48)] below meth c Z T' h' 1 73 → (LI Z h' a1 de (mn 53 n)) → Go p.tables e below (Jvm.OwnK.Out Z s (Q_fill48 Z a1 n ca cl de dc mo h0) ({ frames := 7, cells := 1, slots := 73, locals := 124 } : Room).cells ({ frames := 7, cells := 1, slots := 73, locals := 124 } : Room).slots) T' (mkF m 86 #[.val (.ref a1), .val (.int n), .val (.int 48)] []) by
    by_cases hc126 : 52 < n
    · skip
      refine g_icmp_n B W119 (d_method_2_72) (XT.ii_ge_f hc126) ?_
      show Go p.tables e below _ T119 (mkF m 75 #[.val (.ref a1), .val (.int n), .val (.int 48)] [])
      have P127 := p119
      rw [own_mn1 hc126] at P127
      have z127 := W119.size
      obtain ⟨E127, Fs127, Fm127, ⟨q, -⟩ | ⟨-, ea127, kA127, vs52_, Fe127, A127, vl0, O127, X127, gz52, ne52, bx52⟩⟩ := P127
      · exact absurd q (by decide)
      rw [show capI 52 = 73 by decide] at A127 vl0
      have l127 := nlt A127.lt
      have la127 := nlt E127.lt
      refine g_aload_n B W119 (d_method_2_75) rfl rfl ?_
      refine g_iload_n B W119 (d_method_2_76) rfl ?_
      refine g_iconst B W119 (d_method_2_77) (v := 4) (by decide) ?_
      refine g_iadd B W119 (d_method_2_78)  ?_
      rw [show (48 + 4 : Int32) = 52 by decide]
      obtain ⟨T128, h128, v128, W128, Q128, st128⟩ := x_static B W119 [(.int 52)] (c_valueOf l Z a0 hw 52 ca cl h119 (by decide) Sh Sc Bx) (d_method_2_79) (tw hw 152 rfl) (tw hw 153 rfl) (tw hw 154 rfl) (tw hw 155 rfl) (by decide) (lenOf pd__I_Ljava_lang_Integer_ rfl) #[.val (.ref a1), .val (.int n), .val (.int 48)] [(.ref a1)] rfl 1 rfl (by decide) (by decide) (by decide) (by decide)
      obtain ⟨b128, rfl, rfl, E128, F128⟩ := Q128
      refine st128 _ ?_
      obtain ⟨T129, h129, v129, W129, Q129, st129⟩ := x_virtual B W128 (b := a1) [(.ref b128)] (c_addBI l Z a0 hw a1 52 b128 ea127 kA127 vs52_ 52 53 73 h119 E127 Fs127 Fe127 Fm127 (by omega) (E128.ext W128.old.2) A127 vl0 O127 X127 (by omega) ne52 (by decide) (by decide)) E127 (d_method_2_82) (tw hw 159 rfl) (tw hw 160 rfl) (tw hw 161 rfl) (tw hw 90 rfl) (tw hw 2 rfl) (tw hw 93 rfl) (by decide) (lenOf pd__Ljava_lang_Object__Z rfl) #[.val (.ref a1), .val (.int n), .val (.int 48)] [] rfl 0 rfl (by decide) (by decide) (by decide) (by decide)
      obtain ⟨rfl, K129, E129, Fs129, Fe129, Fm129, A129, X129⟩ := Q129
      have s130 := K129.1
      refine st129 _ ?_
      rw [show (52 + 1 : Int32) = 53 by decide] at Fm129
      show Go p.tables e below _ T129 (mkF m 85 #[.val (.ref a1), .val (.int n), .val (.int 48)] [(.int 1)])
      refine g_pop B W129 (d_method_2_85) rfl ?_
      exact qj125 _ _ (Wk.more W129 (by decide) (by decide)) ((own_mn2 hc126 (show (52 + 1 : Int32) = 53 by decide) (by decide)).symm ▸ LI.mk (c := 53) (cap := 73) (by decide) (by decide) E129 Fs129 Fe129 Fm129 A129 (by rw [List.length_set]; exact vl0) O127 X129 gz52 ne52 (Bxl.push bx52 (by rw [vl0]; decide) (by decide) (by decide) E128 F128))
    · skip
      refine g_icmp_y B W119 (d_method_2_72) (XT.ii_ge_t hc126) (pc' := 86) (by decide) ?_
      show Go p.tables e below _ T119 (mkF m 86 #[.val (.ref a1), .val (.int n), .val (.int 48)] [])
      exact qj125 _ _ (Wk.more W119 (by decide) (by decide)) (own_mn3 (j := 53) hc126 (by decide) ▸ p119)
  intro T125 h125 W125 p125
  show Go p.tables e below _ T125 (mkF m 86 #[.val (.ref a1), .val (.int n), .val (.int 48)] [])
  refine g_iload_n B W125 (d_method_2_86) rfl ?_
  refine g_iconst B W125 (d_method_2_87) (v := 5) (by decide) ?_
  refine g_iadd B W125 (d_method_2_88)  ?_
  rw [show (48 + 5 : Int32) = 53 by decide]
  refine g_iload_n B W125 (d_method_2_89) rfl ?_
  suffices qj131 : ∀ (T' : State) (h' : Heap), Wk p l e ({ frames := 7, cells := 1, slots := 73, locals := 124 } : Room) s m #[(.ref a1), (.int n), (.int 48)] below meth c Z T' h' 1 73 → (LI Z h' a1 de (mn 54 n)) → Go p.tables e below (Jvm.OwnK.Out Z s (Q_fill48 Z a1 n ca cl de dc mo h0) ({ frames := 7, cells := 1, slots := 73, locals := 124 } : Room).cells ({ frames := 7, cells := 1, slots := 73, locals := 124 } : Room).slots) T' (mkF m 104 #[.val (.ref a1), .val (.int n), .val (.int 48)] []) by
    by_cases hc132 : 53 < n
    · skip
      refine g_icmp_n B W125 (d_method_2_90) (XT.ii_ge_f hc132) ?_
      show Go p.tables e below _ T125 (mkF m 93 #[.val (.ref a1), .val (.int n), .val (.int 48)] [])
      have P133 := p125
      rw [own_mn1 hc132] at P133
      have z133 := W125.size
      obtain ⟨E133, Fs133, Fm133, ⟨q, -⟩ | ⟨-, ea133, kA133, vs53_, Fe133, A133, vl0, O133, X133, gz53, ne53, bx53⟩⟩ := P133
      · exact absurd q (by decide)
      rw [show capI 53 = 73 by decide] at A133 vl0
      have l133 := nlt A133.lt
      have la133 := nlt E133.lt
      refine g_aload_n B W125 (d_method_2_93) rfl rfl ?_
      refine g_iload_n B W125 (d_method_2_94) rfl ?_
      refine g_iconst B W125 (d_method_2_95) (v := 5) (by decide) ?_
      refine g_iadd B W125 (d_method_2_96)  ?_
      rw [show (48 + 5 : Int32) = 53 by decide]
      obtain ⟨T134, h134, v134, W134, Q134, st134⟩ := x_static B W125 [(.int 53)] (c_valueOf l Z a0 hw 53 ca cl h125 (by decide) Sh Sc Bx) (d_method_2_97) (tw hw 152 rfl) (tw hw 153 rfl) (tw hw 154 rfl) (tw hw 155 rfl) (by decide) (lenOf pd__I_Ljava_lang_Integer_ rfl) #[.val (.ref a1), .val (.int n), .val (.int 48)] [(.ref a1)] rfl 1 rfl (by decide) (by decide) (by decide) (by decide)
      obtain ⟨b134, rfl, rfl, E134, F134⟩ := Q134
      refine st134 _ ?_
      obtain ⟨T135, h135, v135, W135, Q135, st135⟩ := x_virtual B W134 (b := a1) [(.ref b134)] (c_addBI l Z a0 hw a1 53 b134 ea133 kA133 vs53_ 53 54 73 h125 E133 Fs133 Fe133 Fm133 (by omega) (E134.ext W134.old.2) A133 vl0 O133 X133 (by omega) ne53 (by decide) (by decide)) E133 (d_method_2_100) (tw hw 159 rfl) (tw hw 160 rfl) (tw hw 161 rfl) (tw hw 90 rfl) (tw hw 2 rfl) (tw hw 93 rfl) (by decide) (lenOf pd__Ljava_lang_Object__Z rfl) #[.val (.ref a1), .val (.int n), .val (.int 48)] [] rfl 0 rfl (by decide) (by decide) (by decide) (by decide)
      obtain ⟨rfl, K135, E135, Fs135, Fe135, Fm135, A135, X135⟩ := Q135
      have s136 := K135.1
      refine st135 _ ?_
      rw [show (53 + 1 : Int32) = 54 by decide] at Fm135
      show Go p.tables e below _ T135 (mkF m 103 #[.val (.ref a1), .val (.int n), .val (.int 48)] [(.int 1)])
      refine g_pop B W135 (d_method_2_103) rfl ?_
      exact qj131 _ _ (Wk.more W135 (by decide) (by decide)) ((own_mn2 hc132 (show (53 + 1 : Int32) = 54 by decide) (by decide)).symm ▸ LI.mk (c := 54) (cap := 73) (by decide) (by decide) E135 Fs135 Fe135 Fm135 A135 (by rw [List.length_set]; exact vl0) O133 X135 gz53 ne53 (Bxl.push bx53 (by rw [vl0]; decide) (by decide) (by decide) E134 F134))
    · skip
      refine g_icmp_y B W125 (d_method_2_90) (XT.ii_ge_t hc132) (pc' := 104) (by decide) ?_
      show Go p.tables e below _ T125 (mkF m 104 #[.val (.ref a1), .val (.int n), .val (.int 48)] [])
      exact qj131 _ _ (Wk.more W125 (by decide) (by decide)) (own_mn3 (j := 54) hc132 (by decide) ▸ p125)
  intro T131 h131 W131 p131
  show Go p.tables e below _ T131 (mkF m 104 #[.val (.ref a1), .val (.int n), .val (.int 48)] [])
  refine g_iload_n B W131 (d_method_2_104) rfl ?_
  refine g_bipush B W131 (d_method_2_105) (v := 6) (by decide) ?_
  refine g_iadd B W131 (d_method_2_107)  ?_
  rw [show (48 + 6 : Int32) = 54 by decide]
  refine g_iload_n B W131 (d_method_2_108) rfl ?_
  suffices qj137 : ∀ (T' : State) (h' : Heap), Wk p l e ({ frames := 7, cells := 1, slots := 73, locals := 124 } : Room) s m #[(.ref a1), (.int n), (.int 48)] below meth c Z T' h' 1 73 → (LI Z h' a1 de (mn 55 n)) → Go p.tables e below (Jvm.OwnK.Out Z s (Q_fill48 Z a1 n ca cl de dc mo h0) ({ frames := 7, cells := 1, slots := 73, locals := 124 } : Room).cells ({ frames := 7, cells := 1, slots := 73, locals := 124 } : Room).slots) T' (mkF m 124 #[.val (.ref a1), .val (.int n), .val (.int 48)] []) by
    by_cases hc138 : 54 < n
    · skip
      refine g_icmp_n B W131 (d_method_2_109) (XT.ii_ge_f hc138) ?_
      show Go p.tables e below _ T131 (mkF m 112 #[.val (.ref a1), .val (.int n), .val (.int 48)] [])
      have P139 := p131
      rw [own_mn1 hc138] at P139
      have z139 := W131.size
      obtain ⟨E139, Fs139, Fm139, ⟨q, -⟩ | ⟨-, ea139, kA139, vs54_, Fe139, A139, vl0, O139, X139, gz54, ne54, bx54⟩⟩ := P139
      · exact absurd q (by decide)
      rw [show capI 54 = 73 by decide] at A139 vl0
      have l139 := nlt A139.lt
      have la139 := nlt E139.lt
      refine g_aload_n B W131 (d_method_2_112) rfl rfl ?_
      refine g_iload_n B W131 (d_method_2_113) rfl ?_
      refine g_bipush B W131 (d_method_2_114) (v := 6) (by decide) ?_
      refine g_iadd B W131 (d_method_2_116)  ?_
      rw [show (48 + 6 : Int32) = 54 by decide]
      obtain ⟨T140, h140, v140, W140, Q140, st140⟩ := x_static B W131 [(.int 54)] (c_valueOf l Z a0 hw 54 ca cl h131 (by decide) Sh Sc Bx) (d_method_2_117) (tw hw 152 rfl) (tw hw 153 rfl) (tw hw 154 rfl) (tw hw 155 rfl) (by decide) (lenOf pd__I_Ljava_lang_Integer_ rfl) #[.val (.ref a1), .val (.int n), .val (.int 48)] [(.ref a1)] rfl 1 rfl (by decide) (by decide) (by decide) (by decide)
      obtain ⟨b140, rfl, rfl, E140, F140⟩ := Q140
      refine st140 _ ?_
      obtain ⟨T141, h141, v141, W141, Q141, st141⟩ := x_virtual B W140 (b := a1) [(.ref b140)] (c_addBI l Z a0 hw a1 54 b140 ea139 kA139 vs54_ 54 55 73 h131 E139 Fs139 Fe139 Fm139 (by omega) (E140.ext W140.old.2) A139 vl0 O139 X139 (by omega) ne54 (by decide) (by decide)) E139 (d_method_2_120) (tw hw 159 rfl) (tw hw 160 rfl) (tw hw 161 rfl) (tw hw 90 rfl) (tw hw 2 rfl) (tw hw 93 rfl) (by decide) (lenOf pd__Ljava_lang_Object__Z rfl) #[.val (.ref a1), .val (.int n), .val (.int 48)] [] rfl 0 rfl (by decide) (by decide) (by decide) (by decide)
      obtain ⟨rfl, K141, E141, Fs141, Fe141, Fm141, A141, X141⟩ := Q141
      have s142 := K141.1
      refine st141 _ ?_
      rw [show (54 + 1 : Int32) = 55 by decide] at Fm141
      show Go p.tables e below _ T141 (mkF m 123 #[.val (.ref a1), .val (.int n), .val (.int 48)] [(.int 1)])
      refine g_pop B W141 (d_method_2_123) rfl ?_
      exact qj137 _ _ (Wk.more W141 (by decide) (by decide)) ((own_mn2 hc138 (show (54 + 1 : Int32) = 55 by decide) (by decide)).symm ▸ LI.mk (c := 55) (cap := 73) (by decide) (by decide) E141 Fs141 Fe141 Fm141 A141 (by rw [List.length_set]; exact vl0) O139 X141 gz54 ne54 (Bxl.push bx54 (by rw [vl0]; decide) (by decide) (by decide) E140 F140))
    · skip
      refine g_icmp_y B W131 (d_method_2_109) (XT.ii_ge_t hc138) (pc' := 124) (by decide) ?_
      show Go p.tables e below _ T131 (mkF m 124 #[.val (.ref a1), .val (.int n), .val (.int 48)] [])
      exact qj137 _ _ (Wk.more W131 (by decide) (by decide)) (own_mn3 (j := 55) hc138 (by decide) ▸ p131)
  intro T137 h137 W137 p137
  show Go p.tables e below _ T137 (mkF m 124 #[.val (.ref a1), .val (.int n), .val (.int 48)] [])
  refine g_iload_n B W137 (d_method_2_124) rfl ?_
  refine g_bipush B W137 (d_method_2_125) (v := 7) (by decide) ?_
  refine g_iadd B W137 (d_method_2_127)  ?_
  rw [show (48 + 7 : Int32) = 55 by decide]
  refine g_iload_n B W137 (d_method_2_128) rfl ?_
  suffices qj143 : ∀ (T' : State) (h' : Heap), Wk p l e ({ frames := 7, cells := 1, slots := 73, locals := 124 } : Room) s m #[(.ref a1), (.int n), (.int 48)] below meth c Z T' h' 1 73 → (LI Z h' a1 de (mn 56 n)) → Go p.tables e below (Jvm.OwnK.Out Z s (Q_fill48 Z a1 n ca cl de dc mo h0) ({ frames := 7, cells := 1, slots := 73, locals := 124 } : Room).cells ({ frames := 7, cells := 1, slots := 73, locals := 124 } : Room).slots) T' (mkF m 144 #[.val (.ref a1), .val (.int n), .val (.int 48)] []) by
    by_cases hc144 : 55 < n
    · skip
      refine g_icmp_n B W137 (d_method_2_129) (XT.ii_ge_f hc144) ?_
      show Go p.tables e below _ T137 (mkF m 132 #[.val (.ref a1), .val (.int n), .val (.int 48)] [])
      have P145 := p137
      rw [own_mn1 hc144] at P145
      have z145 := W137.size
      obtain ⟨E145, Fs145, Fm145, ⟨q, -⟩ | ⟨-, ea145, kA145, vs55_, Fe145, A145, vl0, O145, X145, gz55, ne55, bx55⟩⟩ := P145
      · exact absurd q (by decide)
      rw [show capI 55 = 73 by decide] at A145 vl0
      have l145 := nlt A145.lt
      have la145 := nlt E145.lt
      refine g_aload_n B W137 (d_method_2_132) rfl rfl ?_
      refine g_iload_n B W137 (d_method_2_133) rfl ?_
      refine g_bipush B W137 (d_method_2_134) (v := 7) (by decide) ?_
      refine g_iadd B W137 (d_method_2_136)  ?_
      rw [show (48 + 7 : Int32) = 55 by decide]
      obtain ⟨T146, h146, v146, W146, Q146, st146⟩ := x_static B W137 [(.int 55)] (c_valueOf l Z a0 hw 55 ca cl h137 (by decide) Sh Sc Bx) (d_method_2_137) (tw hw 152 rfl) (tw hw 153 rfl) (tw hw 154 rfl) (tw hw 155 rfl) (by decide) (lenOf pd__I_Ljava_lang_Integer_ rfl) #[.val (.ref a1), .val (.int n), .val (.int 48)] [(.ref a1)] rfl 1 rfl (by decide) (by decide) (by decide) (by decide)
      obtain ⟨b146, rfl, rfl, E146, F146⟩ := Q146
      refine st146 _ ?_
      obtain ⟨T147, h147, v147, W147, Q147, st147⟩ := x_virtual B W146 (b := a1) [(.ref b146)] (c_addBI l Z a0 hw a1 55 b146 ea145 kA145 vs55_ 55 56 73 h137 E145 Fs145 Fe145 Fm145 (by omega) (E146.ext W146.old.2) A145 vl0 O145 X145 (by omega) ne55 (by decide) (by decide)) E145 (d_method_2_140) (tw hw 159 rfl) (tw hw 160 rfl) (tw hw 161 rfl) (tw hw 90 rfl) (tw hw 2 rfl) (tw hw 93 rfl) (by decide) (lenOf pd__Ljava_lang_Object__Z rfl) #[.val (.ref a1), .val (.int n), .val (.int 48)] [] rfl 0 rfl (by decide) (by decide) (by decide) (by decide)
      obtain ⟨rfl, K147, E147, Fs147, Fe147, Fm147, A147, X147⟩ := Q147
      have s148 := K147.1
      refine st147 _ ?_
      rw [show (55 + 1 : Int32) = 56 by decide] at Fm147
      show Go p.tables e below _ T147 (mkF m 143 #[.val (.ref a1), .val (.int n), .val (.int 48)] [(.int 1)])
      refine g_pop B W147 (d_method_2_143) rfl ?_
      exact qj143 _ _ (Wk.more W147 (by decide) (by decide)) ((own_mn2 hc144 (show (55 + 1 : Int32) = 56 by decide) (by decide)).symm ▸ LI.mk (c := 56) (cap := 73) (by decide) (by decide) E147 Fs147 Fe147 Fm147 A147 (by rw [List.length_set]; exact vl0) O145 X147 gz55 ne55 (Bxl.push bx55 (by rw [vl0]; decide) (by decide) (by decide) E146 F146))
    · skip
      refine g_icmp_y B W137 (d_method_2_129) (XT.ii_ge_t hc144) (pc' := 144) (by decide) ?_
      show Go p.tables e below _ T137 (mkF m 144 #[.val (.ref a1), .val (.int n), .val (.int 48)] [])
      exact qj143 _ _ (Wk.more W137 (by decide) (by decide)) (own_mn3 (j := 56) hc144 (by decide) ▸ p137)
  intro T143 h143 W143 p143
  show Go p.tables e below _ T143 (mkF m 144 #[.val (.ref a1), .val (.int n), .val (.int 48)] [])
  exact r_v B W143 (d_method_2_144) (by decide) (by decide) ⟨rfl, p143⟩
theorem ef_fill56 (m : MethodId) (a1 : Addr) (n : Int32) (ca : Addr) (cl : Cell) (de : Addr) (dc : Cell) (mo : Addr) : entryFrame m #[(.ref a1), (.int n), (.int 56)] 3 = mkF m 0 #[.val (.ref a1), .val (.int n), .val (.int 56)] [] := by first | (simp [entryFrame, mkF, argsToLocals, Value.category]; done) | rfl
def Q_fill56 (Z : State) (a1 : Addr) (n : Int32) (ca : Addr) (cl : Cell) (de : Addr) (dc : Cell) (mo : Addr) (h0 : Heap) (v : Option Value) (h : Heap) : Prop := v = none ∧ LI Z h a1 de (mn 64 n)
set_option maxRecDepth 65536 in
set_option maxHeartbeats 40000000 in
theorem c_fill56 (l : Launch) (Z : State) (a0 : Array Value) (hw : ∀ d ∈ tables_1, d.before a0 Z = true) (a1 : Addr) (n : Int32) (ca : Addr) (cl : Cell) (de : Addr) (dc : Cell) (mo : Addr) (h0 : Heap) (P0 : LI Z h0 a1 de (mn 56 n)) (g1 : Z.heap.size ≤ a1) (Sh : Sta Z Z.heap "java/lang/Integer$IntegerCache" "high" "I" (.int 127)) (Sc : Sta Z Z.heap "java/lang/Integer$IntegerCache" "cache" "[Ljava/lang/Integer;" (.ref ca)) (Bx : Bxs Z ca cl "java/lang/Integer" "I" 256 (fun j => .int (j - 128))) (Sde : Sta Z Z.heap "java/util/ArrayList" "DEFAULTCAPACITY_EMPTY_ELEMENTDATA" "[Ljava/lang/Object;" (.ref de)) (Ade : Arr Z Z.heap de dc (.object "java/lang/Object")) (lde : dc.slots.size.toInt32 = 0) (Mo : Mi Z "[Ljava/lang/Object;" mo) :
    Con l Z (⟨"com/example/presswright/presswright/publishing/PagingPagesPinLaw", "fill8", "(Ljava/util/ArrayList;II)V"⟩ : MethodName) method_2_code 3 (Option.none : Option FieldType) [] ({ frames := 7, cells := 0, slots := 0, locals := 124 } : Room) #[(.ref a1), (.int n), (.int 56)] h0 (Q_fill56 Z a1 n ca cl de dc mo h0) := by
  refine Con.of (plainFor_of_name pn_com_example_presswright_presswright_publishing_PagingPagesPinLaw) ?_
  intro p e s m below meth c T0 B W0
  refine Go.cast (ef_fill56 m a1 n ca cl de dc mo ) ?_
  refine g_iload_n B W0 (d_method_2_0) rfl ?_
  refine g_iload_n B W0 (d_method_2_1) rfl ?_
  suffices qj101 : ∀ (T' : State) (h' : Heap), Wk p l e ({ frames := 7, cells := 0, slots := 0, locals := 124 } : Room) s m #[(.ref a1), (.int n), (.int 56)] below meth c Z T' h' 0 0 → (LI Z h' a1 de (mn 57 n)) → Go p.tables e below (Jvm.OwnK.Out Z s (Q_fill56 Z a1 n ca cl de dc mo h0) ({ frames := 7, cells := 0, slots := 0, locals := 124 } : Room).cells ({ frames := 7, cells := 0, slots := 0, locals := 124 } : Room).slots) T' (mkF m 14 #[.val (.ref a1), .val (.int n), .val (.int 56)] []) by
    by_cases hc102 : 56 < n
    · skip
      refine g_icmp_n B W0 (d_method_2_2) (XT.ii_ge_f hc102) ?_
      show Go p.tables e below _ T0 (mkF m 5 #[.val (.ref a1), .val (.int n), .val (.int 56)] [])
      have P103 := P0
      rw [own_mn1 hc102] at P103
      have z103 := W0.size
      obtain ⟨E103, Fs103, Fm103, ⟨q, -⟩ | ⟨-, ea103, kA103, vs56_, Fe103, A103, vl0, O103, X103, gz56, ne56, bx56⟩⟩ := P103
      · exact absurd q (by decide)
      rw [show capI 56 = 73 by decide] at A103 vl0
      have l103 := nlt A103.lt
      have la103 := nlt E103.lt
      refine g_aload_n B W0 (d_method_2_5) rfl rfl ?_
      refine g_iload_n B W0 (d_method_2_6) rfl ?_
      obtain ⟨T104, h104, v104, W104, Q104, st104⟩ := x_static B W0 [(.int 56)] (c_valueOf l Z a0 hw 56 ca cl h0 (by decide) Sh Sc Bx) (d_method_2_7) (tw hw 152 rfl) (tw hw 153 rfl) (tw hw 154 rfl) (tw hw 155 rfl) (by decide) (lenOf pd__I_Ljava_lang_Integer_ rfl) #[.val (.ref a1), .val (.int n), .val (.int 56)] [(.ref a1)] rfl 1 rfl (by decide) (by decide) (by decide) (by decide)
      obtain ⟨b104, rfl, rfl, E104, F104⟩ := Q104
      refine st104 _ ?_
      obtain ⟨T105, h105, v105, W105, Q105, st105⟩ := x_virtual B W104 (b := a1) [(.ref b104)] (c_addBI l Z a0 hw a1 56 b104 ea103 kA103 vs56_ 56 57 73 h0 E103 Fs103 Fe103 Fm103 (by omega) (E104.ext W104.old.2) A103 vl0 O103 X103 (by omega) ne56 (by decide) (by decide)) E103 (d_method_2_10) (tw hw 159 rfl) (tw hw 160 rfl) (tw hw 161 rfl) (tw hw 90 rfl) (tw hw 2 rfl) (tw hw 93 rfl) (by decide) (lenOf pd__Ljava_lang_Object__Z rfl) #[.val (.ref a1), .val (.int n), .val (.int 56)] [] rfl 0 rfl (by decide) (by decide) (by decide) (by decide)
      obtain ⟨rfl, K105, E105, Fs105, Fe105, Fm105, A105, X105⟩ := Q105
      have s106 := K105.1
      refine st105 _ ?_
      rw [show (56 + 1 : Int32) = 57 by decide] at Fm105
      show Go p.tables e below _ T105 (mkF m 13 #[.val (.ref a1), .val (.int n), .val (.int 56)] [(.int 1)])
      refine g_pop B W105 (d_method_2_13) rfl ?_
      exact qj101 _ _ (Wk.more W105 (by decide) (by decide)) ((own_mn2 hc102 (show (56 + 1 : Int32) = 57 by decide) (by decide)).symm ▸ LI.mk (c := 57) (cap := 73) (by decide) (by decide) E105 Fs105 Fe105 Fm105 A105 (by rw [List.length_set]; exact vl0) O103 X105 gz56 ne56 (Bxl.push bx56 (by rw [vl0]; decide) (by decide) (by decide) E104 F104))
    · skip
      refine g_icmp_y B W0 (d_method_2_2) (XT.ii_ge_t hc102) (pc' := 14) (by decide) ?_
      show Go p.tables e below _ T0 (mkF m 14 #[.val (.ref a1), .val (.int n), .val (.int 56)] [])
      exact qj101 _ _ (Wk.more W0 (by decide) (by decide)) (own_mn3 (j := 57) hc102 (by decide) ▸ P0)
  intro T101 h101 W101 p101
  show Go p.tables e below _ T101 (mkF m 14 #[.val (.ref a1), .val (.int n), .val (.int 56)] [])
  refine g_iload_n B W101 (d_method_2_14) rfl ?_
  refine g_iconst B W101 (d_method_2_15) (v := 1) (by decide) ?_
  refine g_iadd B W101 (d_method_2_16)  ?_
  rw [show (56 + 1 : Int32) = 57 by decide]
  refine g_iload_n B W101 (d_method_2_17) rfl ?_
  suffices qj107 : ∀ (T' : State) (h' : Heap), Wk p l e ({ frames := 7, cells := 0, slots := 0, locals := 124 } : Room) s m #[(.ref a1), (.int n), (.int 56)] below meth c Z T' h' 0 0 → (LI Z h' a1 de (mn 58 n)) → Go p.tables e below (Jvm.OwnK.Out Z s (Q_fill56 Z a1 n ca cl de dc mo h0) ({ frames := 7, cells := 0, slots := 0, locals := 124 } : Room).cells ({ frames := 7, cells := 0, slots := 0, locals := 124 } : Room).slots) T' (mkF m 32 #[.val (.ref a1), .val (.int n), .val (.int 56)] []) by
    by_cases hc108 : 57 < n
    · skip
      refine g_icmp_n B W101 (d_method_2_18) (XT.ii_ge_f hc108) ?_
      show Go p.tables e below _ T101 (mkF m 21 #[.val (.ref a1), .val (.int n), .val (.int 56)] [])
      have P109 := p101
      rw [own_mn1 hc108] at P109
      have z109 := W101.size
      obtain ⟨E109, Fs109, Fm109, ⟨q, -⟩ | ⟨-, ea109, kA109, vs57_, Fe109, A109, vl0, O109, X109, gz57, ne57, bx57⟩⟩ := P109
      · exact absurd q (by decide)
      rw [show capI 57 = 73 by decide] at A109 vl0
      have l109 := nlt A109.lt
      have la109 := nlt E109.lt
      refine g_aload_n B W101 (d_method_2_21) rfl rfl ?_
      refine g_iload_n B W101 (d_method_2_22) rfl ?_
      refine g_iconst B W101 (d_method_2_23) (v := 1) (by decide) ?_
      refine g_iadd B W101 (d_method_2_24)  ?_
      rw [show (56 + 1 : Int32) = 57 by decide]
      obtain ⟨T110, h110, v110, W110, Q110, st110⟩ := x_static B W101 [(.int 57)] (c_valueOf l Z a0 hw 57 ca cl h101 (by decide) Sh Sc Bx) (d_method_2_25) (tw hw 152 rfl) (tw hw 153 rfl) (tw hw 154 rfl) (tw hw 155 rfl) (by decide) (lenOf pd__I_Ljava_lang_Integer_ rfl) #[.val (.ref a1), .val (.int n), .val (.int 56)] [(.ref a1)] rfl 1 rfl (by decide) (by decide) (by decide) (by decide)
      obtain ⟨b110, rfl, rfl, E110, F110⟩ := Q110
      refine st110 _ ?_
      obtain ⟨T111, h111, v111, W111, Q111, st111⟩ := x_virtual B W110 (b := a1) [(.ref b110)] (c_addBI l Z a0 hw a1 57 b110 ea109 kA109 vs57_ 57 58 73 h101 E109 Fs109 Fe109 Fm109 (by omega) (E110.ext W110.old.2) A109 vl0 O109 X109 (by omega) ne57 (by decide) (by decide)) E109 (d_method_2_28) (tw hw 159 rfl) (tw hw 160 rfl) (tw hw 161 rfl) (tw hw 90 rfl) (tw hw 2 rfl) (tw hw 93 rfl) (by decide) (lenOf pd__Ljava_lang_Object__Z rfl) #[.val (.ref a1), .val (.int n), .val (.int 56)] [] rfl 0 rfl (by decide) (by decide) (by decide) (by decide)
      obtain ⟨rfl, K111, E111, Fs111, Fe111, Fm111, A111, X111⟩ := Q111
      have s112 := K111.1
      refine st111 _ ?_
      rw [show (57 + 1 : Int32) = 58 by decide] at Fm111
      show Go p.tables e below _ T111 (mkF m 31 #[.val (.ref a1), .val (.int n), .val (.int 56)] [(.int 1)])
      refine g_pop B W111 (d_method_2_31) rfl ?_
      exact qj107 _ _ (Wk.more W111 (by decide) (by decide)) ((own_mn2 hc108 (show (57 + 1 : Int32) = 58 by decide) (by decide)).symm ▸ LI.mk (c := 58) (cap := 73) (by decide) (by decide) E111 Fs111 Fe111 Fm111 A111 (by rw [List.length_set]; exact vl0) O109 X111 gz57 ne57 (Bxl.push bx57 (by rw [vl0]; decide) (by decide) (by decide) E110 F110))
    · skip
      refine g_icmp_y B W101 (d_method_2_18) (XT.ii_ge_t hc108) (pc' := 32) (by decide) ?_
      show Go p.tables e below _ T101 (mkF m 32 #[.val (.ref a1), .val (.int n), .val (.int 56)] [])
      exact qj107 _ _ (Wk.more W101 (by decide) (by decide)) (own_mn3 (j := 58) hc108 (by decide) ▸ p101)
  intro T107 h107 W107 p107
  show Go p.tables e below _ T107 (mkF m 32 #[.val (.ref a1), .val (.int n), .val (.int 56)] [])
  refine g_iload_n B W107 (d_method_2_32) rfl ?_
  refine g_iconst B W107 (d_method_2_33) (v := 2) (by decide) ?_
  refine g_iadd B W107 (d_method_2_34)  ?_
  rw [show (56 + 2 : Int32) = 58 by decide]
  refine g_iload_n B W107 (d_method_2_35) rfl ?_
  suffices qj113 : ∀ (T' : State) (h' : Heap), Wk p l e ({ frames := 7, cells := 0, slots := 0, locals := 124 } : Room) s m #[(.ref a1), (.int n), (.int 56)] below meth c Z T' h' 0 0 → (LI Z h' a1 de (mn 59 n)) → Go p.tables e below (Jvm.OwnK.Out Z s (Q_fill56 Z a1 n ca cl de dc mo h0) ({ frames := 7, cells := 0, slots := 0, locals := 124 } : Room).cells ({ frames := 7, cells := 0, slots := 0, locals := 124 } : Room).slots) T' (mkF m 50 #[.val (.ref a1), .val (.int n), .val (.int 56)] []) by
    by_cases hc114 : 58 < n
    · skip
      refine g_icmp_n B W107 (d_method_2_36) (XT.ii_ge_f hc114) ?_
      show Go p.tables e below _ T107 (mkF m 39 #[.val (.ref a1), .val (.int n), .val (.int 56)] [])
      have P115 := p107
      rw [own_mn1 hc114] at P115
      have z115 := W107.size
      obtain ⟨E115, Fs115, Fm115, ⟨q, -⟩ | ⟨-, ea115, kA115, vs58_, Fe115, A115, vl0, O115, X115, gz58, ne58, bx58⟩⟩ := P115
      · exact absurd q (by decide)
      rw [show capI 58 = 73 by decide] at A115 vl0
      have l115 := nlt A115.lt
      have la115 := nlt E115.lt
      refine g_aload_n B W107 (d_method_2_39) rfl rfl ?_
      refine g_iload_n B W107 (d_method_2_40) rfl ?_
      refine g_iconst B W107 (d_method_2_41) (v := 2) (by decide) ?_
      refine g_iadd B W107 (d_method_2_42)  ?_
      rw [show (56 + 2 : Int32) = 58 by decide]
      obtain ⟨T116, h116, v116, W116, Q116, st116⟩ := x_static B W107 [(.int 58)] (c_valueOf l Z a0 hw 58 ca cl h107 (by decide) Sh Sc Bx) (d_method_2_43) (tw hw 152 rfl) (tw hw 153 rfl) (tw hw 154 rfl) (tw hw 155 rfl) (by decide) (lenOf pd__I_Ljava_lang_Integer_ rfl) #[.val (.ref a1), .val (.int n), .val (.int 56)] [(.ref a1)] rfl 1 rfl (by decide) (by decide) (by decide) (by decide)
      obtain ⟨b116, rfl, rfl, E116, F116⟩ := Q116
      refine st116 _ ?_
      obtain ⟨T117, h117, v117, W117, Q117, st117⟩ := x_virtual B W116 (b := a1) [(.ref b116)] (c_addBI l Z a0 hw a1 58 b116 ea115 kA115 vs58_ 58 59 73 h107 E115 Fs115 Fe115 Fm115 (by omega) (E116.ext W116.old.2) A115 vl0 O115 X115 (by omega) ne58 (by decide) (by decide)) E115 (d_method_2_46) (tw hw 159 rfl) (tw hw 160 rfl) (tw hw 161 rfl) (tw hw 90 rfl) (tw hw 2 rfl) (tw hw 93 rfl) (by decide) (lenOf pd__Ljava_lang_Object__Z rfl) #[.val (.ref a1), .val (.int n), .val (.int 56)] [] rfl 0 rfl (by decide) (by decide) (by decide) (by decide)
      obtain ⟨rfl, K117, E117, Fs117, Fe117, Fm117, A117, X117⟩ := Q117
      have s118 := K117.1
      refine st117 _ ?_
      rw [show (58 + 1 : Int32) = 59 by decide] at Fm117
      show Go p.tables e below _ T117 (mkF m 49 #[.val (.ref a1), .val (.int n), .val (.int 56)] [(.int 1)])
      refine g_pop B W117 (d_method_2_49) rfl ?_
      exact qj113 _ _ (Wk.more W117 (by decide) (by decide)) ((own_mn2 hc114 (show (58 + 1 : Int32) = 59 by decide) (by decide)).symm ▸ LI.mk (c := 59) (cap := 73) (by decide) (by decide) E117 Fs117 Fe117 Fm117 A117 (by rw [List.length_set]; exact vl0) O115 X117 gz58 ne58 (Bxl.push bx58 (by rw [vl0]; decide) (by decide) (by decide) E116 F116))
    · skip
      refine g_icmp_y B W107 (d_method_2_36) (XT.ii_ge_t hc114) (pc' := 50) (by decide) ?_
      show Go p.tables e below _ T107 (mkF m 50 #[.val (.ref a1), .val (.int n), .val (.int 56)] [])
      exact qj113 _ _ (Wk.more W107 (by decide) (by decide)) (own_mn3 (j := 59) hc114 (by decide) ▸ p107)
  intro T113 h113 W113 p113
  show Go p.tables e below _ T113 (mkF m 50 #[.val (.ref a1), .val (.int n), .val (.int 56)] [])
  refine g_iload_n B W113 (d_method_2_50) rfl ?_
  refine g_iconst B W113 (d_method_2_51) (v := 3) (by decide) ?_
  refine g_iadd B W113 (d_method_2_52)  ?_
  rw [show (56 + 3 : Int32) = 59 by decide]
  refine g_iload_n B W113 (d_method_2_53) rfl ?_
  suffices qj119 : ∀ (T' : State) (h' : Heap), Wk p l e ({ frames := 7, cells := 0, slots := 0, locals := 124 } : Room) s m #[(.ref a1), (.int n), (.int 56)] below meth c Z T' h' 0 0 → (LI Z h' a1 de (mn 60 n)) → Go p.tables e below (Jvm.OwnK.Out Z s (Q_fill56 Z a1 n ca cl de dc mo h0) ({ frames := 7, cells := 0, slots := 0, locals := 124 } : Room).cells ({ frames := 7, cells := 0, slots := 0, locals := 124 } : Room).slots) T' (mkF m 68 #[.val (.ref a1), .val (.int n), .val (.int 56)] []) by
    by_cases hc120 : 59 < n
    · skip
      refine g_icmp_n B W113 (d_method_2_54) (XT.ii_ge_f hc120) ?_
      show Go p.tables e below _ T113 (mkF m 57 #[.val (.ref a1), .val (.int n), .val (.int 56)] [])
      have P121 := p113
      rw [own_mn1 hc120] at P121
      have z121 := W113.size
      obtain ⟨E121, Fs121, Fm121, ⟨q, -⟩ | ⟨-, ea121, kA121, vs59_, Fe121, A121, vl0, O121, X121, gz59, ne59, bx59⟩⟩ := P121
      · exact absurd q (by decide)
      rw [show capI 59 = 73 by decide] at A121 vl0
      have l121 := nlt A121.lt
      have la121 := nlt E121.lt
      refine g_aload_n B W113 (d_method_2_57) rfl rfl ?_
      refine g_iload_n B W113 (d_method_2_58) rfl ?_
      refine g_iconst B W113 (d_method_2_59) (v := 3) (by decide) ?_
      refine g_iadd B W113 (d_method_2_60)  ?_
      rw [show (56 + 3 : Int32) = 59 by decide]
      obtain ⟨T122, h122, v122, W122, Q122, st122⟩ := x_static B W113 [(.int 59)] (c_valueOf l Z a0 hw 59 ca cl h113 (by decide) Sh Sc Bx) (d_method_2_61) (tw hw 152 rfl) (tw hw 153 rfl) (tw hw 154 rfl) (tw hw 155 rfl) (by decide) (lenOf pd__I_Ljava_lang_Integer_ rfl) #[.val (.ref a1), .val (.int n), .val (.int 56)] [(.ref a1)] rfl 1 rfl (by decide) (by decide) (by decide) (by decide)
      obtain ⟨b122, rfl, rfl, E122, F122⟩ := Q122
      refine st122 _ ?_
      obtain ⟨T123, h123, v123, W123, Q123, st123⟩ := x_virtual B W122 (b := a1) [(.ref b122)] (c_addBI l Z a0 hw a1 59 b122 ea121 kA121 vs59_ 59 60 73 h113 E121 Fs121 Fe121 Fm121 (by omega) (E122.ext W122.old.2) A121 vl0 O121 X121 (by omega) ne59 (by decide) (by decide)) E121 (d_method_2_64) (tw hw 159 rfl) (tw hw 160 rfl) (tw hw 161 rfl) (tw hw 90 rfl) (tw hw 2 rfl) (tw hw 93 rfl) (by decide) (lenOf pd__Ljava_lang_Object__Z rfl) #[.val (.ref a1), .val (.int n), .val (.int 56)] [] rfl 0 rfl (by decide) (by decide) (by decide) (by decide)
      obtain ⟨rfl, K123, E123, Fs123, Fe123, Fm123, A123, X123⟩ := Q123
      have s124 := K123.1
      refine st123 _ ?_
      rw [show (59 + 1 : Int32) = 60 by decide] at Fm123
      show Go p.tables e below _ T123 (mkF m 67 #[.val (.ref a1), .val (.int n), .val (.int 56)] [(.int 1)])
      refine g_pop B W123 (d_method_2_67) rfl ?_
      exact qj119 _ _ (Wk.more W123 (by decide) (by decide)) ((own_mn2 hc120 (show (59 + 1 : Int32) = 60 by decide) (by decide)).symm ▸ LI.mk (c := 60) (cap := 73) (by decide) (by decide) E123 Fs123 Fe123 Fm123 A123 (by rw [List.length_set]; exact vl0) O121 X123 gz59 ne59 (Bxl.push bx59 (by rw [vl0]; decide) (by decide) (by decide) E122 F122))
    · skip
      refine g_icmp_y B W113 (d_method_2_54) (XT.ii_ge_t hc120) (pc' := 68) (by decide) ?_
      show Go p.tables e below _ T113 (mkF m 68 #[.val (.ref a1), .val (.int n), .val (.int 56)] [])
      exact qj119 _ _ (Wk.more W113 (by decide) (by decide)) (own_mn3 (j := 60) hc120 (by decide) ▸ p113)
  intro T119 h119 W119 p119
  show Go p.tables e below _ T119 (mkF m 68 #[.val (.ref a1), .val (.int n), .val (.int 56)] [])
  refine g_iload_n B W119 (d_method_2_68) rfl ?_
  refine g_iconst B W119 (d_method_2_69) (v := 4) (by decide) ?_
  refine g_iadd B W119 (d_method_2_70)  ?_
  rw [show (56 + 4 : Int32) = 60 by decide]
  refine g_iload_n B W119 (d_method_2_71) rfl ?_
  suffices qj125 : ∀ (T' : State) (h' : Heap), Wk p l e ({ frames := 7, cells := 0, slots := 0, locals := 124 } : Room) s m #[(.ref a1), (.int n), (.int 56)] below meth c Z T' h' 0 0 → (LI Z h' a1 de (mn 61 n)) → Go p.tables e below (Jvm.OwnK.Out Z s (Q_fill56 Z a1 n ca cl de dc mo h0) ({ frames := 7, cells := 0, slots := 0, locals := 124 } : Room).cells ({ frames := 7, cells := 0, slots := 0, locals := 124 } : Room).slots) T' (mkF m 86 #[.val (.ref a1), .val (.int n), .val (.int 56)] []) by
    by_cases hc126 : 60 < n
    · skip
      refine g_icmp_n B W119 (d_method_2_72) (XT.ii_ge_f hc126) ?_
      show Go p.tables e below _ T119 (mkF m 75 #[.val (.ref a1), .val (.int n), .val (.int 56)] [])
      have P127 := p119
      rw [own_mn1 hc126] at P127
      have z127 := W119.size
      obtain ⟨E127, Fs127, Fm127, ⟨q, -⟩ | ⟨-, ea127, kA127, vs60_, Fe127, A127, vl0, O127, X127, gz60, ne60, bx60⟩⟩ := P127
      · exact absurd q (by decide)
      rw [show capI 60 = 73 by decide] at A127 vl0
      have l127 := nlt A127.lt
      have la127 := nlt E127.lt
      refine g_aload_n B W119 (d_method_2_75) rfl rfl ?_
      refine g_iload_n B W119 (d_method_2_76) rfl ?_
      refine g_iconst B W119 (d_method_2_77) (v := 4) (by decide) ?_
      refine g_iadd B W119 (d_method_2_78)  ?_
      rw [show (56 + 4 : Int32) = 60 by decide]
      obtain ⟨T128, h128, v128, W128, Q128, st128⟩ := x_static B W119 [(.int 60)] (c_valueOf l Z a0 hw 60 ca cl h119 (by decide) Sh Sc Bx) (d_method_2_79) (tw hw 152 rfl) (tw hw 153 rfl) (tw hw 154 rfl) (tw hw 155 rfl) (by decide) (lenOf pd__I_Ljava_lang_Integer_ rfl) #[.val (.ref a1), .val (.int n), .val (.int 56)] [(.ref a1)] rfl 1 rfl (by decide) (by decide) (by decide) (by decide)
      obtain ⟨b128, rfl, rfl, E128, F128⟩ := Q128
      refine st128 _ ?_
      obtain ⟨T129, h129, v129, W129, Q129, st129⟩ := x_virtual B W128 (b := a1) [(.ref b128)] (c_addBI l Z a0 hw a1 60 b128 ea127 kA127 vs60_ 60 61 73 h119 E127 Fs127 Fe127 Fm127 (by omega) (E128.ext W128.old.2) A127 vl0 O127 X127 (by omega) ne60 (by decide) (by decide)) E127 (d_method_2_82) (tw hw 159 rfl) (tw hw 160 rfl) (tw hw 161 rfl) (tw hw 90 rfl) (tw hw 2 rfl) (tw hw 93 rfl) (by decide) (lenOf pd__Ljava_lang_Object__Z rfl) #[.val (.ref a1), .val (.int n), .val (.int 56)] [] rfl 0 rfl (by decide) (by decide) (by decide) (by decide)
      obtain ⟨rfl, K129, E129, Fs129, Fe129, Fm129, A129, X129⟩ := Q129
      have s130 := K129.1
      refine st129 _ ?_
      rw [show (60 + 1 : Int32) = 61 by decide] at Fm129
      show Go p.tables e below _ T129 (mkF m 85 #[.val (.ref a1), .val (.int n), .val (.int 56)] [(.int 1)])
      refine g_pop B W129 (d_method_2_85) rfl ?_
      exact qj125 _ _ (Wk.more W129 (by decide) (by decide)) ((own_mn2 hc126 (show (60 + 1 : Int32) = 61 by decide) (by decide)).symm ▸ LI.mk (c := 61) (cap := 73) (by decide) (by decide) E129 Fs129 Fe129 Fm129 A129 (by rw [List.length_set]; exact vl0) O127 X129 gz60 ne60 (Bxl.push bx60 (by rw [vl0]; decide) (by decide) (by decide) E128 F128))
    · skip
      refine g_icmp_y B W119 (d_method_2_72) (XT.ii_ge_t hc126) (pc' := 86) (by decide) ?_
      show Go p.tables e below _ T119 (mkF m 86 #[.val (.ref a1), .val (.int n), .val (.int 56)] [])
      exact qj125 _ _ (Wk.more W119 (by decide) (by decide)) (own_mn3 (j := 61) hc126 (by decide) ▸ p119)
  intro T125 h125 W125 p125
  show Go p.tables e below _ T125 (mkF m 86 #[.val (.ref a1), .val (.int n), .val (.int 56)] [])
  refine g_iload_n B W125 (d_method_2_86) rfl ?_
  refine g_iconst B W125 (d_method_2_87) (v := 5) (by decide) ?_
  refine g_iadd B W125 (d_method_2_88)  ?_
  rw [show (56 + 5 : Int32) = 61 by decide]
  refine g_iload_n B W125 (d_method_2_89) rfl ?_
  suffices qj131 : ∀ (T' : State) (h' : Heap), Wk p l e ({ frames := 7, cells := 0, slots := 0, locals := 124 } : Room) s m #[(.ref a1), (.int n), (.int 56)] below meth c Z T' h' 0 0 → (LI Z h' a1 de (mn 62 n)) → Go p.tables e below (Jvm.OwnK.Out Z s (Q_fill56 Z a1 n ca cl de dc mo h0) ({ frames := 7, cells := 0, slots := 0, locals := 124 } : Room).cells ({ frames := 7, cells := 0, slots := 0, locals := 124 } : Room).slots) T' (mkF m 104 #[.val (.ref a1), .val (.int n), .val (.int 56)] []) by
    by_cases hc132 : 61 < n
    · skip
      refine g_icmp_n B W125 (d_method_2_90) (XT.ii_ge_f hc132) ?_
      show Go p.tables e below _ T125 (mkF m 93 #[.val (.ref a1), .val (.int n), .val (.int 56)] [])
      have P133 := p125
      rw [own_mn1 hc132] at P133
      have z133 := W125.size
      obtain ⟨E133, Fs133, Fm133, ⟨q, -⟩ | ⟨-, ea133, kA133, vs61_, Fe133, A133, vl0, O133, X133, gz61, ne61, bx61⟩⟩ := P133
      · exact absurd q (by decide)
      rw [show capI 61 = 73 by decide] at A133 vl0
      have l133 := nlt A133.lt
      have la133 := nlt E133.lt
      refine g_aload_n B W125 (d_method_2_93) rfl rfl ?_
      refine g_iload_n B W125 (d_method_2_94) rfl ?_
      refine g_iconst B W125 (d_method_2_95) (v := 5) (by decide) ?_
      refine g_iadd B W125 (d_method_2_96)  ?_
      rw [show (56 + 5 : Int32) = 61 by decide]
      obtain ⟨T134, h134, v134, W134, Q134, st134⟩ := x_static B W125 [(.int 61)] (c_valueOf l Z a0 hw 61 ca cl h125 (by decide) Sh Sc Bx) (d_method_2_97) (tw hw 152 rfl) (tw hw 153 rfl) (tw hw 154 rfl) (tw hw 155 rfl) (by decide) (lenOf pd__I_Ljava_lang_Integer_ rfl) #[.val (.ref a1), .val (.int n), .val (.int 56)] [(.ref a1)] rfl 1 rfl (by decide) (by decide) (by decide) (by decide)
      obtain ⟨b134, rfl, rfl, E134, F134⟩ := Q134
      refine st134 _ ?_
      obtain ⟨T135, h135, v135, W135, Q135, st135⟩ := x_virtual B W134 (b := a1) [(.ref b134)] (c_addBI l Z a0 hw a1 61 b134 ea133 kA133 vs61_ 61 62 73 h125 E133 Fs133 Fe133 Fm133 (by omega) (E134.ext W134.old.2) A133 vl0 O133 X133 (by omega) ne61 (by decide) (by decide)) E133 (d_method_2_100) (tw hw 159 rfl) (tw hw 160 rfl) (tw hw 161 rfl) (tw hw 90 rfl) (tw hw 2 rfl) (tw hw 93 rfl) (by decide) (lenOf pd__Ljava_lang_Object__Z rfl) #[.val (.ref a1), .val (.int n), .val (.int 56)] [] rfl 0 rfl (by decide) (by decide) (by decide) (by decide)
      obtain ⟨rfl, K135, E135, Fs135, Fe135, Fm135, A135, X135⟩ := Q135
      have s136 := K135.1
      refine st135 _ ?_
      rw [show (61 + 1 : Int32) = 62 by decide] at Fm135
      show Go p.tables e below _ T135 (mkF m 103 #[.val (.ref a1), .val (.int n), .val (.int 56)] [(.int 1)])
      refine g_pop B W135 (d_method_2_103) rfl ?_
      exact qj131 _ _ (Wk.more W135 (by decide) (by decide)) ((own_mn2 hc132 (show (61 + 1 : Int32) = 62 by decide) (by decide)).symm ▸ LI.mk (c := 62) (cap := 73) (by decide) (by decide) E135 Fs135 Fe135 Fm135 A135 (by rw [List.length_set]; exact vl0) O133 X135 gz61 ne61 (Bxl.push bx61 (by rw [vl0]; decide) (by decide) (by decide) E134 F134))
    · skip
      refine g_icmp_y B W125 (d_method_2_90) (XT.ii_ge_t hc132) (pc' := 104) (by decide) ?_
      show Go p.tables e below _ T125 (mkF m 104 #[.val (.ref a1), .val (.int n), .val (.int 56)] [])
      exact qj131 _ _ (Wk.more W125 (by decide) (by decide)) (own_mn3 (j := 62) hc132 (by decide) ▸ p125)
  intro T131 h131 W131 p131
  show Go p.tables e below _ T131 (mkF m 104 #[.val (.ref a1), .val (.int n), .val (.int 56)] [])
  refine g_iload_n B W131 (d_method_2_104) rfl ?_
  refine g_bipush B W131 (d_method_2_105) (v := 6) (by decide) ?_
  refine g_iadd B W131 (d_method_2_107)  ?_
  rw [show (56 + 6 : Int32) = 62 by decide]
  refine g_iload_n B W131 (d_method_2_108) rfl ?_
  suffices qj137 : ∀ (T' : State) (h' : Heap), Wk p l e ({ frames := 7, cells := 0, slots := 0, locals := 124 } : Room) s m #[(.ref a1), (.int n), (.int 56)] below meth c Z T' h' 0 0 → (LI Z h' a1 de (mn 63 n)) → Go p.tables e below (Jvm.OwnK.Out Z s (Q_fill56 Z a1 n ca cl de dc mo h0) ({ frames := 7, cells := 0, slots := 0, locals := 124 } : Room).cells ({ frames := 7, cells := 0, slots := 0, locals := 124 } : Room).slots) T' (mkF m 124 #[.val (.ref a1), .val (.int n), .val (.int 56)] []) by
    by_cases hc138 : 62 < n
    · skip
      refine g_icmp_n B W131 (d_method_2_109) (XT.ii_ge_f hc138) ?_
      show Go p.tables e below _ T131 (mkF m 112 #[.val (.ref a1), .val (.int n), .val (.int 56)] [])
      have P139 := p131
      rw [own_mn1 hc138] at P139
      have z139 := W131.size
      obtain ⟨E139, Fs139, Fm139, ⟨q, -⟩ | ⟨-, ea139, kA139, vs62_, Fe139, A139, vl0, O139, X139, gz62, ne62, bx62⟩⟩ := P139
      · exact absurd q (by decide)
      rw [show capI 62 = 73 by decide] at A139 vl0
      have l139 := nlt A139.lt
      have la139 := nlt E139.lt
      refine g_aload_n B W131 (d_method_2_112) rfl rfl ?_
      refine g_iload_n B W131 (d_method_2_113) rfl ?_
      refine g_bipush B W131 (d_method_2_114) (v := 6) (by decide) ?_
      refine g_iadd B W131 (d_method_2_116)  ?_
      rw [show (56 + 6 : Int32) = 62 by decide]
      obtain ⟨T140, h140, v140, W140, Q140, st140⟩ := x_static B W131 [(.int 62)] (c_valueOf l Z a0 hw 62 ca cl h131 (by decide) Sh Sc Bx) (d_method_2_117) (tw hw 152 rfl) (tw hw 153 rfl) (tw hw 154 rfl) (tw hw 155 rfl) (by decide) (lenOf pd__I_Ljava_lang_Integer_ rfl) #[.val (.ref a1), .val (.int n), .val (.int 56)] [(.ref a1)] rfl 1 rfl (by decide) (by decide) (by decide) (by decide)
      obtain ⟨b140, rfl, rfl, E140, F140⟩ := Q140
      refine st140 _ ?_
      obtain ⟨T141, h141, v141, W141, Q141, st141⟩ := x_virtual B W140 (b := a1) [(.ref b140)] (c_addBI l Z a0 hw a1 62 b140 ea139 kA139 vs62_ 62 63 73 h131 E139 Fs139 Fe139 Fm139 (by omega) (E140.ext W140.old.2) A139 vl0 O139 X139 (by omega) ne62 (by decide) (by decide)) E139 (d_method_2_120) (tw hw 159 rfl) (tw hw 160 rfl) (tw hw 161 rfl) (tw hw 90 rfl) (tw hw 2 rfl) (tw hw 93 rfl) (by decide) (lenOf pd__Ljava_lang_Object__Z rfl) #[.val (.ref a1), .val (.int n), .val (.int 56)] [] rfl 0 rfl (by decide) (by decide) (by decide) (by decide)
      obtain ⟨rfl, K141, E141, Fs141, Fe141, Fm141, A141, X141⟩ := Q141
      have s142 := K141.1
      refine st141 _ ?_
      rw [show (62 + 1 : Int32) = 63 by decide] at Fm141
      show Go p.tables e below _ T141 (mkF m 123 #[.val (.ref a1), .val (.int n), .val (.int 56)] [(.int 1)])
      refine g_pop B W141 (d_method_2_123) rfl ?_
      exact qj137 _ _ (Wk.more W141 (by decide) (by decide)) ((own_mn2 hc138 (show (62 + 1 : Int32) = 63 by decide) (by decide)).symm ▸ LI.mk (c := 63) (cap := 73) (by decide) (by decide) E141 Fs141 Fe141 Fm141 A141 (by rw [List.length_set]; exact vl0) O139 X141 gz62 ne62 (Bxl.push bx62 (by rw [vl0]; decide) (by decide) (by decide) E140 F140))
    · skip
      refine g_icmp_y B W131 (d_method_2_109) (XT.ii_ge_t hc138) (pc' := 124) (by decide) ?_
      show Go p.tables e below _ T131 (mkF m 124 #[.val (.ref a1), .val (.int n), .val (.int 56)] [])
      exact qj137 _ _ (Wk.more W131 (by decide) (by decide)) (own_mn3 (j := 63) hc138 (by decide) ▸ p131)
  intro T137 h137 W137 p137
  show Go p.tables e below _ T137 (mkF m 124 #[.val (.ref a1), .val (.int n), .val (.int 56)] [])
  refine g_iload_n B W137 (d_method_2_124) rfl ?_
  refine g_bipush B W137 (d_method_2_125) (v := 7) (by decide) ?_
  refine g_iadd B W137 (d_method_2_127)  ?_
  rw [show (56 + 7 : Int32) = 63 by decide]
  refine g_iload_n B W137 (d_method_2_128) rfl ?_
  suffices qj143 : ∀ (T' : State) (h' : Heap), Wk p l e ({ frames := 7, cells := 0, slots := 0, locals := 124 } : Room) s m #[(.ref a1), (.int n), (.int 56)] below meth c Z T' h' 0 0 → (LI Z h' a1 de (mn 64 n)) → Go p.tables e below (Jvm.OwnK.Out Z s (Q_fill56 Z a1 n ca cl de dc mo h0) ({ frames := 7, cells := 0, slots := 0, locals := 124 } : Room).cells ({ frames := 7, cells := 0, slots := 0, locals := 124 } : Room).slots) T' (mkF m 144 #[.val (.ref a1), .val (.int n), .val (.int 56)] []) by
    by_cases hc144 : 63 < n
    · skip
      refine g_icmp_n B W137 (d_method_2_129) (XT.ii_ge_f hc144) ?_
      show Go p.tables e below _ T137 (mkF m 132 #[.val (.ref a1), .val (.int n), .val (.int 56)] [])
      have P145 := p137
      rw [own_mn1 hc144] at P145
      have z145 := W137.size
      obtain ⟨E145, Fs145, Fm145, ⟨q, -⟩ | ⟨-, ea145, kA145, vs63_, Fe145, A145, vl0, O145, X145, gz63, ne63, bx63⟩⟩ := P145
      · exact absurd q (by decide)
      rw [show capI 63 = 73 by decide] at A145 vl0
      have l145 := nlt A145.lt
      have la145 := nlt E145.lt
      refine g_aload_n B W137 (d_method_2_132) rfl rfl ?_
      refine g_iload_n B W137 (d_method_2_133) rfl ?_
      refine g_bipush B W137 (d_method_2_134) (v := 7) (by decide) ?_
      refine g_iadd B W137 (d_method_2_136)  ?_
      rw [show (56 + 7 : Int32) = 63 by decide]
      obtain ⟨T146, h146, v146, W146, Q146, st146⟩ := x_static B W137 [(.int 63)] (c_valueOf l Z a0 hw 63 ca cl h137 (by decide) Sh Sc Bx) (d_method_2_137) (tw hw 152 rfl) (tw hw 153 rfl) (tw hw 154 rfl) (tw hw 155 rfl) (by decide) (lenOf pd__I_Ljava_lang_Integer_ rfl) #[.val (.ref a1), .val (.int n), .val (.int 56)] [(.ref a1)] rfl 1 rfl (by decide) (by decide) (by decide) (by decide)
      obtain ⟨b146, rfl, rfl, E146, F146⟩ := Q146
      refine st146 _ ?_
      obtain ⟨T147, h147, v147, W147, Q147, st147⟩ := x_virtual B W146 (b := a1) [(.ref b146)] (c_addBI l Z a0 hw a1 63 b146 ea145 kA145 vs63_ 63 64 73 h137 E145 Fs145 Fe145 Fm145 (by omega) (E146.ext W146.old.2) A145 vl0 O145 X145 (by omega) ne63 (by decide) (by decide)) E145 (d_method_2_140) (tw hw 159 rfl) (tw hw 160 rfl) (tw hw 161 rfl) (tw hw 90 rfl) (tw hw 2 rfl) (tw hw 93 rfl) (by decide) (lenOf pd__Ljava_lang_Object__Z rfl) #[.val (.ref a1), .val (.int n), .val (.int 56)] [] rfl 0 rfl (by decide) (by decide) (by decide) (by decide)
      obtain ⟨rfl, K147, E147, Fs147, Fe147, Fm147, A147, X147⟩ := Q147
      have s148 := K147.1
      refine st147 _ ?_
      rw [show (63 + 1 : Int32) = 64 by decide] at Fm147
      show Go p.tables e below _ T147 (mkF m 143 #[.val (.ref a1), .val (.int n), .val (.int 56)] [(.int 1)])
      refine g_pop B W147 (d_method_2_143) rfl ?_
      exact qj143 _ _ (Wk.more W147 (by decide) (by decide)) ((own_mn2 hc144 (show (63 + 1 : Int32) = 64 by decide) (by decide)).symm ▸ LI.mk (c := 64) (cap := 73) (by decide) (by decide) E147 Fs147 Fe147 Fm147 A147 (by rw [List.length_set]; exact vl0) O145 X147 gz63 ne63 (Bxl.push bx63 (by rw [vl0]; decide) (by decide) (by decide) E146 F146))
    · skip
      refine g_icmp_y B W137 (d_method_2_129) (XT.ii_ge_t hc144) (pc' := 144) (by decide) ?_
      show Go p.tables e below _ T137 (mkF m 144 #[.val (.ref a1), .val (.int n), .val (.int 56)] [])
      exact qj143 _ _ (Wk.more W137 (by decide) (by decide)) (own_mn3 (j := 64) hc144 (by decide) ▸ p137)
  intro T143 h143 W143 p143
  show Go p.tables e below _ T143 (mkF m 144 #[.val (.ref a1), .val (.int n), .val (.int 56)] [])
  exact r_v B W143 (d_method_2_144) (by decide) (by decide) ⟨rfl, p143⟩
def SB (Z : State) (h : Heap) (a : Addr) (n : Int32) (b : Addr) (o : Int32) : Prop := Exa Z h b "java/util/ArrayList$SubList" ∧ Fld Z h b "java/util/ArrayList$SubList" "root" "Ljava/util/ArrayList;" (.ref a) ∧ Fld Z h b "java/util/ArrayList$SubList" "offset" "I" (.int o) ∧ Fld Z h b "java/util/ArrayList$SubList" "size" "I" (.int (mi 20 (n - o))) ∧ Fld Z h b "java/util/AbstractList" "modCount" "I" (.int n)
def PG (Z : State) (h : Heap) (a : Addr) (n : Int32) (r : Addr) : Prop := Exa Z h r "java/util/ArrayList" ∧ Fld Z h r "java/util/ArrayList" "size" "I" (.int (exP n)) ∧ ∃ (ea : Addr) (kA : ClassId) (vs : List Value), Fld Z h r "java/util/ArrayList" "elementData" "[Ljava/lang/Object;" (.ref ea) ∧ Arv Z h ea kA (.object "java/lang/Object") 10 vs .null ∧ ∀ p : Int32, ¬ p < 0 → p < exP n → ∃ b : Addr, vs.getD p.toNatClampNeg .null = .ref b ∧ SB Z h a n b (20 * p)
theorem own_80 {n : Int32} (h : n < 64) : ¬ 80 < n := by simp only [Int32.lt_iff_toInt_lt, Int32.reduceToInt] at *; omega
theorem own_lt20 {n : Int32} (h : ¬ n < 0) : ¬ n < 0 := h
theorem ef_alSize (m : MethodId) (a1 : Addr) (n : Int32) : entryFrame m #[(.ref a1)] 1 = mkF m 0 #[.val (.ref a1)] [] := by first | (simp [entryFrame, mkF, argsToLocals, Value.category]; done) | rfl
def Q_alSize (Z : State) (a1 : Addr) (n : Int32) (h0 : Heap) (v : Option Value) (h : Heap) : Prop := v = some (.int n) ∧ h0 = h
set_option maxRecDepth 65536 in
set_option maxHeartbeats 40000000 in
theorem c_alSize (l : Launch) (Z : State) (a0 : Array Value) (hw : ∀ d ∈ tables_1, d.before a0 Z = true) (a1 : Addr) (n : Int32) (h0 : Heap) (F1 : Fld Z h0 a1 "java/util/ArrayList" "size" "I" (.int n)) :
    Con l Z (⟨"java/util/ArrayList", "size", "()I"⟩ : MethodName) jdk_38_method_8_code 1 (Option.some FieldType.int) [] ({ frames := 0, cells := 0, slots := 0, locals := 0 } : Room) #[(.ref a1)] h0 (Q_alSize Z a1 n h0) := by
  refine Con.of (plainFor_of_name pn_java_util_ArrayList) ?_
  intro p e s m below meth c T0 B W0
  refine Go.cast (ef_alSize m a1 n ) ?_
  refine g_aload_n B W0 (d_jdk_38_method_8_0) rfl rfl ?_
  obtain ⟨T101, W101, st101⟩ := x_get B W0 (host := "") (d_jdk_38_method_8_1) (Or.inl (tw hw 45 rfl)) Via.refl F1 #[.val (.ref a1)] []
  refine st101 _ ?_
  exact r_i B W101 (d_jdk_38_method_8_4) (by decide) (by decide) ⟨rfl, rfl⟩
theorem ef_rchk (m : MethodId) (i : Int32) (e2 : Int32) (n : Int32) : entryFrame m #[(.int i), (.int e2), (.int n)] 3 = mkF m 0 #[.val (.int i), .val (.int e2), .val (.int n)] [] := by first | (simp [entryFrame, mkF, argsToLocals, Value.category]; done) | rfl
def Q_rchk (Z : State) (i : Int32) (e2 : Int32) (n : Int32) (h0 : Heap) (v : Option Value) (h : Heap) : Prop := v = none ∧ h0 = h
set_option maxRecDepth 65536 in
set_option maxHeartbeats 40000000 in
theorem c_rchk (l : Launch) (Z : State) (a0 : Array Value) (hw : ∀ d ∈ tables_1, d.before a0 Z = true) (i : Int32) (e2 : Int32) (n : Int32) (h0 : Heap) (hi : ¬ i < 0) (he1 : ¬ n < e2) (he2 : ¬ e2 < i) :
    Con l Z (⟨"java/util/AbstractList", "subListRangeCheck", "(III)V"⟩ : MethodName) jdk_39_method_15_code 3 (Option.none : Option FieldType) [] ({ frames := 0, cells := 0, slots := 0, locals := 0 } : Room) #[(.int i), (.int e2), (.int n)] h0 (Q_rchk Z i e2 n h0) := by
  refine Con.of (plainFor_of_name pn_java_util_AbstractList) ?_
  intro p e s m below meth c T0 B W0
  refine Go.cast (ef_rchk m i e2 n ) ?_
  refine g_iload_n B W0 (d_jdk_39_method_15_0) rfl ?_
  refine g_if_y B W0 (d_jdk_39_method_15_1) (XT.i0_ge_t hi) (pc' := 31) (by decide) ?_
  show Go p.tables e below _ T0 (mkF m 31 #[.val (.int i), .val (.int e2), .val (.int n)] [])
  refine g_iload_n B W0 (d_jdk_39_method_15_31) rfl ?_
  refine g_iload_n B W0 (d_jdk_39_method_15_32) rfl ?_
  refine g_icmp_y B W0 (d_jdk_39_method_15_33) (XT.ii_le_t he1) (pc' := 63) (by decide) ?_
  show Go p.tables e below _ T0 (mkF m 63 #[.val (.int i), .val (.int e2), .val (.int n)] [])
  refine g_iload_n B W0 (d_jdk_39_method_15_63) rfl ?_
  refine g_iload_n B W0 (d_jdk_39_method_15_64) rfl ?_
  refine g_icmp_y B W0 (d_jdk_39_method_15_65) (XT.ii_le_t he2) (pc' := 109) (by decide) ?_
  show Go p.tables e below _ T0 (mkF m 109 #[.val (.int i), .val (.int e2), .val (.int n)] [])
  exact r_v B W0 (d_jdk_39_method_15_109) (by decide) (by decide) ⟨rfl, rfl⟩
theorem ef_abInitS (m : MethodId) (a1 : Addr) : entryFrame m #[(.ref a1)] 1 = mkF m 0 #[.val (.ref a1)] [] := by first | (simp [entryFrame, mkF, argsToLocals, Value.category]; done) | rfl
def Q_abInitS (Z : State) (a1 : Addr) (h0 : Heap) (v : Option Value) (h : Heap) : Prop := v = none ∧ Keep h0 h [a1] ∧ Exa Z h a1 "java/util/ArrayList$SubList" ∧ Fld Z h a1 "java/util/ArrayList$SubList" "root" "Ljava/util/ArrayList;" .null ∧ Fld Z h a1 "java/util/ArrayList$SubList" "parent" "Ljava/util/ArrayList$SubList;" .null ∧ Fld Z h a1 "java/util/ArrayList$SubList" "offset" "I" (.int 0) ∧ Fld Z h a1 "java/util/ArrayList$SubList" "size" "I" (.int 0) ∧ Fld Z h a1 "java/util/AbstractList" "modCount" "I" (.int 0)
set_option maxRecDepth 65536 in
set_option maxHeartbeats 40000000 in
theorem c_abInitS (l : Launch) (Z : State) (a0 : Array Value) (hw : ∀ d ∈ tables_1, d.before a0 Z = true) (a1 : Addr) (h0 : Heap) (E1 : Exa Z h0 a1 "java/util/ArrayList$SubList") (F0 : Fld Z h0 a1 "java/util/ArrayList$SubList" "root" "Ljava/util/ArrayList;" .null) (F1 : Fld Z h0 a1 "java/util/ArrayList$SubList" "parent" "Ljava/util/ArrayList$SubList;" .null) (F2 : Fld Z h0 a1 "java/util/ArrayList$SubList" "offset" "I" (.int 0)) (F3 : Fld Z h0 a1 "java/util/ArrayList$SubList" "size" "I" (.int 0)) (F4 : Fld Z h0 a1 "java/util/AbstractList" "modCount" "I" (.int 0)) (g1 : Z.heap.size ≤ a1) :
    Con l Z (⟨"java/util/AbstractList", "<init>", "()V"⟩ : MethodName) jdk_39_method_1_code 1 (Option.none : Option FieldType) [] ({ frames := 2, cells := 0, slots := 0, locals := 24 } : Room) #[(.ref a1)] h0 (Q_abInitS Z a1 h0) := by
  refine Con.of (plainFor_of_name pn_java_util_AbstractList) ?_
  intro p e s m below meth c T0 B W0
  refine Go.cast (ef_abInitS m a1 ) ?_
  have l_a1 := nlt E1.lt
  refine g_aload_n B W0 (d_jdk_39_method_1_0) rfl rfl ?_
  obtain ⟨T101, h101, v101, W101, Q101, st101⟩ := x_special B W0 (b := a1) [] (c_acInit l Z a0 hw a1 h0) (d_jdk_39_method_1_1) rfl (tw hw 12 rfl) (tw hw 13 rfl) (tw hw 16 rfl) (tw hw 17 rfl) (by decide) (lenOf pd___V rfl) #[.val (.ref a1)] [] rfl 0 rfl (by decide) (by decide) (by decide) (by decide)
  obtain ⟨rfl, rfl⟩ := Q101
  refine st101 _ ?_
  refine g_aload_n B W101 (d_jdk_39_method_1_4) rfl rfl ?_
  refine g_iconst B W101 (d_jdk_39_method_1_5) (v := 0) (by decide) ?_
  obtain ⟨T102, h102, W102, K102, R102, F102, E102, st102⟩ := x_put B W101 (d_jdk_39_method_1_6) ((tw hw 21 rfl)) Via.refl F4 E1 (Or.inl (tw hw 73 rfl)) (tw hw 64 rfl) (ty := .int) (v := (.int 0)) (v' := (.int 0)) (by decide) rfl rfl (by omega) #[.val (.ref a1)] []
  refine st102 _ ?_
  have f103 := F0.other R102 (Or.inr (slot_ne (Or.inr (tw hw 75 rfl)) (Or.inl (tw hw 73 rfl)) (by decide) (t := (.object "java/util/ArrayList")) (t' := .int) (by decide) (by decide)))
  have f104 := F1.other R102 (Or.inr (slot_ne (Or.inr (tw hw 77 rfl)) (Or.inl (tw hw 73 rfl)) (by decide) (t := (.object "java/util/ArrayList$SubList")) (t' := .int) (by decide) (by decide)))
  have f105 := F2.other R102 (Or.inr (slot_ne (Or.inr (tw hw 79 rfl)) (Or.inl (tw hw 73 rfl)) (by decide) (t := .int) (t' := .int) (by decide) (by decide)))
  have f106 := F3.other R102 (Or.inr (slot_ne (Or.inl (tw hw 81 rfl)) (Or.inl (tw hw 73 rfl)) (by decide) (t := .int) (t' := .int) (by decide) (by decide)))
  have s107 := K102.1
  exact r_v B W102 (d_jdk_39_method_1_9) (by decide) (by decide) ⟨rfl, ((Keep.refl h0 [a1]).trans K102 (allS (Or.inl (by simp)) all0)), E102, f103, f104, f105, f106, F102⟩
theorem ef_subInit (m : MethodId) (a1 : Addr) (rt : Addr) (i : Int32) (e2 : Int32) (n : Int32) : entryFrame m #[(.ref a1), (.ref rt), (.int i), (.int e2)] 4 = mkF m 0 #[.val (.ref a1), .val (.ref rt), .val (.int i), .val (.int e2)] [] := by first | (simp [entryFrame, mkF, argsToLocals, Value.category]; done) | rfl
def Q_subInit (Z : State) (a1 : Addr) (rt : Addr) (i : Int32) (e2 : Int32) (n : Int32) (h0 : Heap) (v : Option Value) (h : Heap) : Prop := v = none ∧ Keep h0 h [a1] ∧ Exa Z h a1 "java/util/ArrayList$SubList" ∧ Fld Z h a1 "java/util/ArrayList$SubList" "root" "Ljava/util/ArrayList;" (.ref rt) ∧ Fld Z h a1 "java/util/ArrayList$SubList" "parent" "Ljava/util/ArrayList$SubList;" .null ∧ Fld Z h a1 "java/util/ArrayList$SubList" "offset" "I" (.int i) ∧ Fld Z h a1 "java/util/ArrayList$SubList" "size" "I" (.int (e2 - i)) ∧ Fld Z h a1 "java/util/AbstractList" "modCount" "I" (.int n)
set_option maxRecDepth 65536 in
set_option maxHeartbeats 40000000 in
theorem c_subInit (l : Launch) (Z : State) (a0 : Array Value) (hw : ∀ d ∈ tables_1, d.before a0 Z = true) (a1 : Addr) (rt : Addr) (i : Int32) (e2 : Int32) (n : Int32) (h0 : Heap) (E1 : Exa Z h0 a1 "java/util/ArrayList$SubList") (F0 : Fld Z h0 a1 "java/util/ArrayList$SubList" "root" "Ljava/util/ArrayList;" .null) (F1 : Fld Z h0 a1 "java/util/ArrayList$SubList" "parent" "Ljava/util/ArrayList$SubList;" .null) (F2 : Fld Z h0 a1 "java/util/ArrayList$SubList" "offset" "I" (.int 0)) (F3 : Fld Z h0 a1 "java/util/ArrayList$SubList" "size" "I" (.int 0)) (F4 : Fld Z h0 a1 "java/util/AbstractList" "modCount" "I" (.int 0)) (g1 : Z.heap.size ≤ a1) (Fm : Fld Z h0 rt "java/util/AbstractList" "modCount" "I" (.int n)) (hne : ¬ @Eq Nat rt a1) :
    Con l Z (⟨"java/util/ArrayList$SubList", "<init>", "(Ljava/util/ArrayList;II)V"⟩ : MethodName) jdk_130_method_1_code 4 (Option.none : Option FieldType) [] ({ frames := 3, cells := 0, slots := 0, locals := 36 } : Room) #[(.ref a1), (.ref rt), (.int i), (.int e2)] h0 (Q_subInit Z a1 rt i e2 n h0) := by
  refine Con.of (plainFor_of_name pn_java_util_ArrayList_SubList) ?_
  intro p e s m below meth c T0 B W0
  refine Go.cast (ef_subInit m a1 rt i e2 n ) ?_
  have l_a1 := nlt E1.lt
  have l_rt := nlt Fm.lt
  refine g_aload_n B W0 (d_jdk_130_method_1_0) rfl rfl ?_
  obtain ⟨T101, h101, v101, W101, Q101, st101⟩ := x_special B W0 (b := a1) [] (c_abInitS l Z a0 hw a1 h0 E1 F0 F1 F2 F3 F4 (by omega)) (d_jdk_130_method_1_1) rfl (tw hw 70 rfl) (tw hw 7 rfl) (tw hw 10 rfl) (tw hw 11 rfl) (by decide) (lenOf pd___V rfl) #[.val (.ref a1), .val (.ref rt), .val (.int i), .val (.int e2)] [] rfl 0 rfl (by decide) (by decide) (by decide) (by decide)
  obtain ⟨rfl, K101, E101, F0_101, F1_101, F2_101, F3_101, F4_101⟩ := Q101
  have s102 := K101.1
  refine st101 _ ?_
  refine g_aload_n B W101 (d_jdk_130_method_1_4) rfl rfl ?_
  refine g_aload_n B W101 (d_jdk_130_method_1_5) rfl rfl ?_
  obtain ⟨T103, h103, W103, K103, R103, F103, E103, st103⟩ := x_put B W101 (d_jdk_130_method_1_6) ((tw hw 74 rfl)) Via.refl F0_101 E101 (Or.inr ⟨ (tw hw 75 rfl), rfl, rfl⟩) (tw hw 64 rfl) (ty := (.object "java/util/ArrayList")) (v := (.ref rt)) (v' := (.ref rt)) (by decide) rfl rfl (by omega) #[.val (.ref a1), .val (.ref rt), .val (.int i), .val (.int e2)] []
  refine st103 _ ?_
  have f104 := F1_101.other R103 (Or.inr (slot_ne (Or.inr (tw hw 77 rfl)) (Or.inr (tw hw 75 rfl)) (by decide) (t := (.object "java/util/ArrayList$SubList")) (t' := (.object "java/util/ArrayList")) (by decide) (by decide)))
  have f105 := F2_101.other R103 (Or.inr (slot_ne (Or.inr (tw hw 79 rfl)) (Or.inr (tw hw 75 rfl)) (by decide) (t := .int) (t' := (.object "java/util/ArrayList")) (by decide) (by decide)))
  have f106 := F3_101.other R103 (Or.inr (slot_ne (Or.inl (tw hw 81 rfl)) (Or.inr (tw hw 75 rfl)) (by decide) (t := .int) (t' := (.object "java/util/ArrayList")) (by decide) (by decide)))
  have f107 := F4_101.other R103 (Or.inr (slot_ne (Or.inl (tw hw 73 rfl)) (Or.inr (tw hw 75 rfl)) (by decide) (t := .int) (t' := (.object "java/util/ArrayList")) (by decide) (by decide)))
  have s108 := K103.1
  refine g_aload_n B W103 (d_jdk_130_method_1_9) rfl rfl ?_
  refine g_aconst_null B W103 (d_jdk_130_method_1_10)  ?_
  obtain ⟨T109, h109, W109, K109, R109, F109, E109, st109⟩ := x_put B W103 (d_jdk_130_method_1_11) ((tw hw 76 rfl)) Via.refl f104 E103 (Or.inr ⟨ (tw hw 77 rfl), rfl, rfl⟩) (tw hw 64 rfl) (ty := (.object "java/util/ArrayList$SubList")) (v := .null) (v' := .null) (by decide) rfl rfl (by omega) #[.val (.ref a1), .val (.ref rt), .val (.int i), .val (.int e2)] []
  refine st109 _ ?_
  have f110 := F103.other R109 (Or.inr (slot_ne (Or.inr (tw hw 75 rfl)) (Or.inr (tw hw 77 rfl)) (by decide) (t := (.object "java/util/ArrayList")) (t' := (.object "java/util/ArrayList$SubList")) (by decide) (by decide)))
  have f111 := f105.other R109 (Or.inr (slot_ne (Or.inr (tw hw 79 rfl)) (Or.inr (tw hw 77 rfl)) (by decide) (t := .int) (t' := (.object "java/util/ArrayList$SubList")) (by decide) (by decide)))
  have f112 := f106.other R109 (Or.inr (slot_ne (Or.inl (tw hw 81 rfl)) (Or.inr (tw hw 77 rfl)) (by decide) (t := .int) (t' := (.object "java/util/ArrayList$SubList")) (by decide) (by decide)))
  have f113 := f107.other R109 (Or.inr (slot_ne (Or.inl (tw hw 73 rfl)) (Or.inr (tw hw 77 rfl)) (by decide) (t := .int) (t' := (.object "java/util/ArrayList$SubList")) (by decide) (by decide)))
  have s114 := K109.1
  refine g_aload_n B W109 (d_jdk_130_method_1_14) rfl rfl ?_
  refine g_iload_n B W109 (d_jdk_130_method_1_15) rfl ?_
  obtain ⟨T115, h115, W115, K115, R115, F115, E115, st115⟩ := x_put B W109 (d_jdk_130_method_1_16) ((tw hw 78 rfl)) Via.refl f111 E109 (Or.inr ⟨ (tw hw 79 rfl), rfl, rfl⟩) (tw hw 64 rfl) (ty := .int) (v := (.int i)) (v' := (.int i)) (by decide) rfl rfl (by omega) #[.val (.ref a1), .val (.ref rt), .val (.int i), .val (.int e2)] []
  refine st115 _ ?_
  have f116 := f110.other R115 (Or.inr (slot_ne (Or.inr (tw hw 75 rfl)) (Or.inr (tw hw 79 rfl)) (by decide) (t := (.object "java/util/ArrayList")) (t' := .int) (by decide) (by decide)))
  have f117 := F109.other R115 (Or.inr (slot_ne (Or.inr (tw hw 77 rfl)) (Or.inr (tw hw 79 rfl)) (by decide) (t := (.object "java/util/ArrayList$SubList")) (t' := .int) (by decide) (by decide)))
  have f118 := f112.other R115 (Or.inr (slot_ne (Or.inl (tw hw 81 rfl)) (Or.inr (tw hw 79 rfl)) (by decide) (t := .int) (t' := .int) (by decide) (by decide)))
  have f119 := f113.other R115 (Or.inr (slot_ne (Or.inl (tw hw 73 rfl)) (Or.inr (tw hw 79 rfl)) (by decide) (t := .int) (t' := .int) (by decide) (by decide)))
  have s120 := K115.1
  refine g_aload_n B W115 (d_jdk_130_method_1_19) rfl rfl ?_
  refine g_iload_n B W115 (d_jdk_130_method_1_20) rfl ?_
  refine g_iload_n B W115 (d_jdk_130_method_1_21) rfl ?_
  refine g_isub B W115 (d_jdk_130_method_1_22)  ?_
  obtain ⟨T121, h121, W121, K121, R121, F121, E121, st121⟩ := x_put B W115 (d_jdk_130_method_1_23) ((tw hw 80 rfl)) Via.refl f118 E115 (Or.inl (tw hw 81 rfl)) (tw hw 64 rfl) (ty := .int) (v := (.int (e2 - i))) (v' := (.int (e2 - i))) (by decide) rfl rfl (by omega) #[.val (.ref a1), .val (.ref rt), .val (.int i), .val (.int e2)] []
  refine st121 _ ?_
  have f122 := f116.other R121 (Or.inr (slot_ne (Or.inr (tw hw 75 rfl)) (Or.inl (tw hw 81 rfl)) (by decide) (t := (.object "java/util/ArrayList")) (t' := .int) (by decide) (by decide)))
  have f123 := f117.other R121 (Or.inr (slot_ne (Or.inr (tw hw 77 rfl)) (Or.inl (tw hw 81 rfl)) (by decide) (t := (.object "java/util/ArrayList$SubList")) (t' := .int) (by decide) (by decide)))
  have f124 := F115.other R121 (Or.inr (slot_ne (Or.inr (tw hw 79 rfl)) (Or.inl (tw hw 81 rfl)) (by decide) (t := .int) (t' := .int) (by decide) (by decide)))
  have f125 := f119.other R121 (Or.inr (slot_ne (Or.inl (tw hw 73 rfl)) (Or.inl (tw hw 81 rfl)) (by decide) (t := .int) (t' := .int) (by decide) (by decide)))
  have s126 := K121.1
  refine g_aload_n B W121 (d_jdk_130_method_1_26) rfl rfl ?_
  refine g_aload_n B W121 (d_jdk_130_method_1_27) rfl rfl ?_
  have f127 := (Fm.keep K101 (ninS (nne (by have q := nlt Fm.lt; omega)) nin0))
  have f128 := (f127.keep K103 (ninS (nne (by have q := nlt f127.lt; omega)) nin0))
  have f129 := (f128.keep K109 (ninS (nne (by have q := nlt f128.lt; omega)) nin0))
  have f130 := (f129.keep K115 (ninS (nne (by have q := nlt f129.lt; omega)) nin0))
  have f131 := (f130.keep K121 (ninS (nne (by have q := nlt f130.lt; omega)) nin0))
  obtain ⟨T132, W132, st132⟩ := x_get B W121 (host := "") (d_jdk_130_method_1_28) (Or.inl (tw hw 82 rfl)) (Via.of (tw hw 83 rfl)) f131 #[.val (.ref a1), .val (.ref rt), .val (.int i), .val (.int e2)] [(.ref a1)]
  refine st132 _ ?_
  obtain ⟨T133, h133, W133, K133, R133, F133, E133, st133⟩ := x_put B W132 (d_jdk_130_method_1_31) ((tw hw 84 rfl)) (Via.of (tw hw 85 rfl)) f125 E121 (Or.inl (tw hw 73 rfl)) (tw hw 64 rfl) (ty := .int) (v := (.int n)) (v' := (.int n)) (by decide) rfl rfl (by omega) #[.val (.ref a1), .val (.ref rt), .val (.int i), .val (.int e2)] []
  refine st133 _ ?_
  have f134 := f122.other R133 (Or.inr (slot_ne (Or.inr (tw hw 75 rfl)) (Or.inl (tw hw 73 rfl)) (by decide) (t := (.object "java/util/ArrayList")) (t' := .int) (by decide) (by decide)))
  have f135 := f123.other R133 (Or.inr (slot_ne (Or.inr (tw hw 77 rfl)) (Or.inl (tw hw 73 rfl)) (by decide) (t := (.object "java/util/ArrayList$SubList")) (t' := .int) (by decide) (by decide)))
  have f136 := f124.other R133 (Or.inr (slot_ne (Or.inr (tw hw 79 rfl)) (Or.inl (tw hw 73 rfl)) (by decide) (t := .int) (t' := .int) (by decide) (by decide)))
  have f137 := F121.other R133 (Or.inr (slot_ne (Or.inl (tw hw 81 rfl)) (Or.inl (tw hw 73 rfl)) (by decide) (t := .int) (t' := .int) (by decide) (by decide)))
  have s138 := K133.1
  exact r_v B W133 (d_jdk_130_method_1_34) (by decide) (by decide) ⟨rfl, (((((((Keep.refl h0 [a1]).trans K101 (allS (Or.inl (by simp)) all0)).trans K103 (allS (Or.inl (by simp)) all0)).trans K109 (allS (Or.inl (by simp)) all0)).trans K115 (allS (Or.inl (by simp)) all0)).trans K121 (allS (Or.inl (by simp)) all0)).trans K133 (allS (Or.inl (by simp)) all0)), E133, f134, f135, f136, f137, F133⟩
theorem ef_subList (m : MethodId) (a1 : Addr) (i : Int32) (e2 : Int32) (n : Int32) : entryFrame m #[(.ref a1), (.int i), (.int e2)] 3 = mkF m 0 #[.val (.ref a1), .val (.int i), .val (.int e2)] [] := by first | (simp [entryFrame, mkF, argsToLocals, Value.category]; done) | rfl
def Q_subList (Z : State) (a1 : Addr) (i : Int32) (e2 : Int32) (n : Int32) (h0 : Heap) (v : Option Value) (h : Heap) : Prop := ∃ b, v = some (.ref b) ∧ h0.size ≤ b ∧ Keep h0 h [] ∧ Exa Z h b "java/util/ArrayList$SubList" ∧ Fld Z h b "java/util/ArrayList$SubList" "root" "Ljava/util/ArrayList;" (.ref a1) ∧ Fld Z h b "java/util/ArrayList$SubList" "parent" "Ljava/util/ArrayList$SubList;" .null ∧ Fld Z h b "java/util/ArrayList$SubList" "offset" "I" (.int i) ∧ Fld Z h b "java/util/ArrayList$SubList" "size" "I" (.int (e2 - i)) ∧ Fld Z h b "java/util/AbstractList" "modCount" "I" (.int n)
set_option maxRecDepth 65536 in
set_option maxHeartbeats 40000000 in
theorem c_subList (l : Launch) (Z : State) (a0 : Array Value) (hw : ∀ d ∈ tables_1, d.before a0 Z = true) (a1 : Addr) (i : Int32) (e2 : Int32) (n : Int32) (h0 : Heap) (F1 : Fld Z h0 a1 "java/util/ArrayList" "size" "I" (.int n)) (F3 : Fld Z h0 a1 "java/util/AbstractList" "modCount" "I" (.int n)) (hi : ¬ i < 0) (he1 : ¬ n < e2) (he2 : ¬ e2 < i) :
    Con l Z (⟨"java/util/ArrayList", "subList", "(II)Ljava/util/List;"⟩ : MethodName) jdk_38_method_56_code 3 (Option.some (FieldType.object "java/util/List")) [] ({ frames := 4, cells := 1, slots := 5, locals := 52 } : Room) #[(.ref a1), (.int i), (.int e2)] h0 (Q_subList Z a1 i e2 n h0) := by
  refine Con.of (plainFor_of_name pn_java_util_ArrayList) ?_
  intro p e s m below meth c T0 B W0
  refine Go.cast (ef_subList m a1 i e2 n ) ?_
  have l_a1 := nlt F1.lt
  refine g_iload_n B W0 (d_jdk_38_method_56_0) rfl ?_
  refine g_iload_n B W0 (d_jdk_38_method_56_1) rfl ?_
  refine g_aload_n B W0 (d_jdk_38_method_56_2) rfl rfl ?_
  obtain ⟨T101, W101, st101⟩ := x_get B W0 (host := "") (d_jdk_38_method_56_3) (Or.inl (tw hw 45 rfl)) Via.refl F1 #[.val (.ref a1), .val (.int i), .val (.int e2)] [(.int e2), (.int i)]
  refine st101 _ ?_
  obtain ⟨T102, h102, v102, W102, Q102, st102⟩ := x_staticUp B W101 [(.int i), (.int e2), (.int n)] (c_rchk l Z a0 hw i e2 n h0 hi he1 he2) (d_jdk_38_method_56_6) (tw hw 59 rfl) (tw hw 60 rfl) (tw hw 61 rfl) (tw hw 10 rfl) (tw hw 62 rfl) (by decide) (lenOf pd__III_V rfl) #[.val (.ref a1), .val (.int i), .val (.int e2)] [] rfl 0 rfl (by decide) (by decide) (by decide) (by decide)
  obtain ⟨rfl, rfl⟩ := Q102
  refine st102 _ ?_
  obtain ⟨T103, h103, b103, gb103, W103, K103, E103, D103, st103⟩ := x_new B W102 (d_jdk_38_method_56_9) (tw hw 63 rfl) (tw hw 64 rfl) (tw hw 65 rfl) (by decide) (by decide) #[.val (.ref a1), .val (.int i), .val (.int e2)] []
  have l103 := nlt E103.lt
  have z103 := W102.size
  refine st103 _ ?_
  have s104 := K103.1
  have f105 : Fld Z h103 b103 "java/util/AbstractList" "modCount" "I" (.int 0) := D103 (Or.inl (tw hw 73 rfl)) (ty := .int) (by decide)
  have f106 : Fld Z h103 b103 "java/util/ArrayList$SubList" "root" "Ljava/util/ArrayList;" .null := D103 (Or.inr (tw hw 75 rfl)) (ty := (.object "java/util/ArrayList")) (by decide)
  have f107 : Fld Z h103 b103 "java/util/ArrayList$SubList" "parent" "Ljava/util/ArrayList$SubList;" .null := D103 (Or.inr (tw hw 77 rfl)) (ty := (.object "java/util/ArrayList$SubList")) (by decide)
  have f108 : Fld Z h103 b103 "java/util/ArrayList$SubList" "offset" "I" (.int 0) := D103 (Or.inr (tw hw 79 rfl)) (ty := .int) (by decide)
  have f109 : Fld Z h103 b103 "java/util/ArrayList$SubList" "size" "I" (.int 0) := D103 (Or.inl (tw hw 81 rfl)) (ty := .int) (by decide)
  refine g_dup B W103 (d_jdk_38_method_56_12) rfl ?_
  refine g_aload_n B W103 (d_jdk_38_method_56_13) rfl rfl ?_
  refine g_iload_n B W103 (d_jdk_38_method_56_14) rfl ?_
  refine g_iload_n B W103 (d_jdk_38_method_56_15) rfl ?_
  have f110 := (F3.keep K103 nin0)
  obtain ⟨T111, h111, v111, W111, Q111, st111⟩ := x_special B W103 (b := b103) [(.ref a1), (.int i), (.int e2)] (c_subInit l Z a0 hw b103 a1 i e2 n h103 E103 f106 f107 f108 f109 f105 (by omega) f110 (by omega)) (d_jdk_38_method_56_16) rfl (tw hw 66 rfl) (tw hw 67 rfl) (tw hw 65 rfl) (tw hw 69 rfl) (by decide) (lenOf pd__Ljava_util_ArrayList_II_V rfl) #[.val (.ref a1), .val (.int i), .val (.int e2)] [(.ref b103)] rfl 1 rfl (by decide) (by decide) (by decide) (by decide)
  obtain ⟨rfl, K111, E111, F0_111, F1_111, F2_111, F3_111, F4_111⟩ := Q111
  have s112 := K111.1
  refine st111 _ ?_
  exact r_a B W111 rfl rfl rfl (d_jdk_38_method_56_19) (by decide) (by decide) ⟨_, rfl, by omega, (((Keep.refl h0 []).trans K103 all0).trans K111 (allS (Or.inr (by omega)) all0)), E111, F0_111, F1_111, F2_111, F3_111, F4_111⟩
theorem ef_pages (m : MethodId) (a1 : Addr) (n : Int32) (de : Addr) (dc : Cell) : entryFrame m #[(.ref a1)] 3 = mkF m 0 #[.val (.ref a1), .unset, .unset] [] := by first | (simp [entryFrame, mkF, argsToLocals, Value.category]; done) | rfl
def Q_pages (Z : State) (a1 : Addr) (n : Int32) (de : Addr) (dc : Cell) (h0 : Heap) (v : Option Value) (h : Heap) : Prop := ∃ r, v = some (.ref r) ∧ Keep h0 h [] ∧ PG Z h a1 n r
set_option maxRecDepth 65536 in
set_option maxHeartbeats 40000000 in
theorem c_pages (l : Launch) (Z : State) (a0 : Array Value) (hw : ∀ d ∈ tables_1, d.before a0 Z = true) (a1 : Addr) (n : Int32) (de : Addr) (dc : Cell) (h0 : Heap) (P0 : LI Z h0 a1 de n) (hn0 : ¬ n < 0) (hn1 : n < 64) (Sde : Sta Z Z.heap "java/util/ArrayList" "DEFAULTCAPACITY_EMPTY_ELEMENTDATA" "[Ljava/lang/Object;" (.ref de)) (Ade : Arr Z Z.heap de dc (.object "java/lang/Object")) (lde : dc.slots.size.toInt32 = 0) :
    Con l Z (⟨"com/example/presswright/presswright/publishing/Paging", "pages", "(Ljava/util/List;)Ljava/util/List;"⟩ : MethodName) prog_12_method_2_code 3 (Option.some (FieldType.object "java/util/List")) [] ({ frames := 7, cells := 6, slots := 33, locals := 130 } : Room) #[(.ref a1)] h0 (Q_pages Z a1 n de dc h0) := by
  refine Con.of (plainFor_of_name pn_com_example_presswright_presswright_publishing_Paging) ?_
  intro p e s m below meth c T0 B W0
  refine Go.cast (ef_pages m a1 n de dc ) ?_
  have z0 := W0.size
  have hn0' : (0 : Int32) ≤ n := Int32.not_lt.mp hn0
  obtain ⟨E0, Fs0, Fm0, -⟩ := P0
  have l_a1 := nlt E0.lt
  have sq0 : mi 20 n - 0 = mi 20 (n - 0) ∧ ¬ n < mi 20 n ∧ ¬ mi 20 n < 0 := own_sz hn0 hn1 0 hn0'
  obtain ⟨T101, h101, b101, gb101, W101, K101, E101, D101, st101⟩ := x_new B W0 (d_prog_12_method_2_0) (tw hw 34 rfl) (tw hw 1 rfl) (tw hw 2 rfl) (by decide) (by decide) #[.val (.ref a1), .unset, .unset] []
  have l101 := nlt E101.lt
  have z101 := W0.size
  refine st101 _ ?_
  have s102 := K101.1
  have f103 : Fld Z h101 b101 "java/util/AbstractList" "modCount" "I" (.int 0) := D101 (Or.inl (tw hw 22 rfl)) (ty := .int) (by decide)
  have f104 : Fld Z h101 b101 "java/util/ArrayList" "elementData" "[Ljava/lang/Object;" .null := D101 (Or.inl (tw hw 25 rfl)) (ty := (.array (.object "java/lang/Object"))) (by decide)
  have f105 : Fld Z h101 b101 "java/util/ArrayList" "size" "I" (.int 0) := D101 (Or.inl (tw hw 46 rfl)) (ty := .int) (by decide)
  refine g_dup B W101 (d_prog_12_method_2_3) rfl ?_
  obtain ⟨T106, h106, v106, W106, Q106, st106⟩ := x_special B W101 (b := b101) [] (c_alInit l Z a0 hw b101 de dc h101 E101 f105 f104 f103 (by omega) Sde Ade lde) (d_prog_12_method_2_4) rfl (tw hw 35 rfl) (tw hw 4 rfl) (tw hw 2 rfl) (tw hw 5 rfl) (by decide) (lenOf pd___V rfl) #[.val (.ref a1), .unset, .unset] [(.ref b101)] rfl 1 rfl (by decide) (by decide) (by decide) (by decide)
  obtain ⟨rfl, K106, E106, Fs106, Fe106, Fm106⟩ := Q106
  have s107 := K106.1
  refine st106 _ ?_
  refine g_astore_n B W106 (d_prog_12_method_2_7) rfl (l' := #[.val (.ref a1), .val (.ref b101), .unset]) rfl ?_
  refine g_iconst B W106 (d_prog_12_method_2_8) (v := 0) (by decide) ?_
  refine g_istore_n B W106 (d_prog_12_method_2_9)  (l' := #[.val (.ref a1), .val (.ref b101), .val (.int 0)]) rfl ?_
  refine g_aload_n B W106 (d_prog_12_method_2_10) rfl rfl ?_
  refine g_aload_n B W106 (d_prog_12_method_2_11) rfl rfl ?_
  refine g_iload_n B W106 (d_prog_12_method_2_12) rfl ?_
  refine g_iload_n B W106 (d_prog_12_method_2_13) rfl ?_
  refine g_bipush B W106 (d_prog_12_method_2_14) (v := 20) (by decide) ?_
  refine g_iadd B W106 (d_prog_12_method_2_16)  ?_
  rw [show (0 + 20 : Int32) = 20 by decide]
  refine g_aload_n B W106 (d_prog_12_method_2_17) rfl rfl ?_
  have f108 := (Fs0.keep K101 nin0)
  have f109 := (f108.keep K106 (ninS (nne (by have q := nlt f108.lt; omega)) nin0))
  have f111 := ((E0.keep K101).keep K106)
  obtain ⟨T110, h110, v110, W110, Q110, st110⟩ := x_iface B W106 (b := a1) [] (c_alSize l Z a0 hw a1 n h106 f109) f111 (d_prog_12_method_2_18) (tw hw 36 rfl) (tw hw 37 rfl) (tw hw 38 rfl) (tw hw 39 rfl) (tw hw 40 rfl) (tw hw 41 rfl) (tw hw 42 rfl) (tw hw 43 rfl) rfl (tw hw 2 rfl) (tw hw 44 rfl) (by decide) (lenOf pd___I rfl) #[.val (.ref a1), .val (.ref b101), .val (.int 0)] [(.int 20), (.int 0), (.ref a1), (.ref b101)] rfl 4 rfl (by decide) (by decide) (by decide) (by decide)
  obtain ⟨rfl, rfl⟩ := Q110
  refine st110 _ ?_
  obtain ⟨T112, h112, v112, W112, Q112, st112⟩ := x_static B W110 [(.int 20), (.int n)] (c_min l Z a0 hw 20 n h106) (d_prog_12_method_2_23) (tw hw 47 rfl) (tw hw 48 rfl) (tw hw 49 rfl) (tw hw 50 rfl) (by decide) (lenOf pd__II_I rfl) #[.val (.ref a1), .val (.ref b101), .val (.int 0)] [(.int 0), (.ref a1), (.ref b101)] rfl 3 rfl (by decide) (by decide) (by decide) (by decide)
  obtain ⟨rfl, rfl⟩ := Q112
  refine st112 _ ?_
  have f113 := (Fm0.keep K101 nin0)
  have f114 := (f113.keep K106 (ninS (nne (by have q := nlt f113.lt; omega)) nin0))
  obtain ⟨T115, h115, v115, W115, Q115, st115⟩ := x_iface B W112 (b := a1) [(.int 0), (.int (mi 20 n))] (c_subList l Z a0 hw a1 0 (mi 20 n) n h106 f109 f114 (by decide) sq0.2.1 sq0.2.2) f111 (d_prog_12_method_2_26) (tw hw 51 rfl) (tw hw 52 rfl) (tw hw 53 rfl) (tw hw 54 rfl) (tw hw 55 rfl) (tw hw 56 rfl) (tw hw 57 rfl) (tw hw 43 rfl) rfl (tw hw 2 rfl) (tw hw 58 rfl) (by decide) (lenOf pd__II_Ljava_util_List_ rfl) #[.val (.ref a1), .val (.ref b101), .val (.int 0)] [(.ref b101)] rfl 1 rfl (by decide) (by decide) (by decide) (by decide)
  obtain ⟨b115, rfl, g115, K115, E115, F0_115, F1_115, F2_115, F3_115, F4_115⟩ := Q115
  have s116 := K115.1
  refine st115 _ ?_
  have l115 := nlt E115.lt
  have f117 := (E106.keep K115)
  have f118 := (Fs106.keep K115 nin0)
  have f119 := (Fe106.keep K115 nin0)
  have f120 := (Fm106.keep K115 nin0)
  obtain ⟨T121, h121, v121, W121, Q121, st121⟩ := x_iface B W115 (b := b101) [(.ref b115)] (c_addFS l Z a0 hw b101 0 b115 de dc h115 f117 f118 f119 f120 (by omega) E115 Sde Ade lde) f117 (d_prog_12_method_2_31) (tw hw 86 rfl) (tw hw 87 rfl) (tw hw 88 rfl) (tw hw 89 rfl) (tw hw 90 rfl) (tw hw 91 rfl) (tw hw 92 rfl) (tw hw 43 rfl) rfl (tw hw 2 rfl) (tw hw 93 rfl) (by decide) (lenOf pd__Ljava_lang_Object__Z rfl) #[.val (.ref a1), .val (.ref b101), .val (.int 0)] [] rfl 0 rfl (by decide) (by decide) (by decide) (by decide)
  obtain ⟨ea121, kB121, vs121, rfl, gb121, K121, E121, Fs121, Fe121, Fm121, A121, X121, vl121, O121, ev121⟩ := Q121
  have s122 := K121.1
  refine st121 _ ?_
  rw [show (0 + 1 : Int32) = 1 by decide] at Fm121
  have l121 := nlt A121.lt
  show Go p.tables e below _ T121 (mkF m 36 #[.val (.ref a1), .val (.ref b101), .val (.int 0)] [(.int 1)])
  refine g_pop B W121 (d_prog_12_method_2_36) rfl ?_
  refine g_iinc B W121 (d_prog_12_method_2_37) (v := 20) (l' := #[.val (.ref a1), .val (.ref b101), .val (.int (0 + 20))]) (by decide) rfl rfl ?_
  rw [show (0 + 20 : Int32) = 20 by decide]
  refine g_iload_n B W121 (d_prog_12_method_2_40) rfl ?_
  refine g_aload_n B W121 (d_prog_12_method_2_41) rfl rfl ?_
  have f123 := (f109.keep K115 nin0)
  have f124 := (f123.keep K121 (ninS (nne (by have q := nlt f123.lt; omega)) nin0))
  have f126 := ((f111.keep K115).keep K121)
  obtain ⟨T125, h125, v125, W125, Q125, st125⟩ := x_iface B W121 (b := a1) [] (c_alSize l Z a0 hw a1 n h121 f124) f126 (d_prog_12_method_2_42) (tw hw 36 rfl) (tw hw 37 rfl) (tw hw 38 rfl) (tw hw 39 rfl) (tw hw 40 rfl) (tw hw 41 rfl) (tw hw 42 rfl) (tw hw 43 rfl) rfl (tw hw 2 rfl) (tw hw 44 rfl) (by decide) (lenOf pd___I rfl) #[.val (.ref a1), .val (.ref b101), .val (.int 20)] [(.int 20)] rfl 1 rfl (by decide) (by decide) (by decide) (by decide)
  obtain ⟨rfl, rfl⟩ := Q125
  refine st125 _ ?_
  by_cases hc127 : 20 < n
  · skip
    refine g_icmp_y B W125 (d_prog_12_method_2_47) (XT.ii_lt_t hc127) (pc' := 10) (by decide) ?_
    show Go p.tables e below _ T125 (mkF m 10 #[.val (.ref a1), .val (.ref b101), .val (.int 20)] [])
    have sq20 : mi 40 n - 20 = mi 20 (n - 20) ∧ ¬ n < mi 40 n ∧ ¬ mi 40 n < 20 := own_sz hn0 hn1 1 (Int32.le_of_lt hc127)
    refine g_aload_n B W125 (d_prog_12_method_2_10) rfl rfl ?_
    refine g_aload_n B W125 (d_prog_12_method_2_11) rfl rfl ?_
    refine g_iload_n B W125 (d_prog_12_method_2_12) rfl ?_
    refine g_iload_n B W125 (d_prog_12_method_2_13) rfl ?_
    refine g_bipush B W125 (d_prog_12_method_2_14) (v := 20) (by decide) ?_
    refine g_iadd B W125 (d_prog_12_method_2_16)  ?_
    rw [show (20 + 20 : Int32) = 40 by decide]
    refine g_aload_n B W125 (d_prog_12_method_2_17) rfl rfl ?_
    obtain ⟨T128, h128, v128, W128, Q128, st128⟩ := x_iface B W125 (b := a1) [] (c_alSize l Z a0 hw a1 n h121 f124) f126 (d_prog_12_method_2_18) (tw hw 36 rfl) (tw hw 37 rfl) (tw hw 38 rfl) (tw hw 39 rfl) (tw hw 40 rfl) (tw hw 41 rfl) (tw hw 42 rfl) (tw hw 43 rfl) rfl (tw hw 2 rfl) (tw hw 44 rfl) (by decide) (lenOf pd___I rfl) #[.val (.ref a1), .val (.ref b101), .val (.int 20)] [(.int 40), (.int 20), (.ref a1), (.ref b101)] rfl 4 rfl (by decide) (by decide) (by decide) (by decide)
    obtain ⟨rfl, rfl⟩ := Q128
    refine st128 _ ?_
    obtain ⟨T129, h129, v129, W129, Q129, st129⟩ := x_static B W128 [(.int 40), (.int n)] (c_min l Z a0 hw 40 n h121) (d_prog_12_method_2_23) (tw hw 47 rfl) (tw hw 48 rfl) (tw hw 49 rfl) (tw hw 50 rfl) (by decide) (lenOf pd__II_I rfl) #[.val (.ref a1), .val (.ref b101), .val (.int 20)] [(.int 20), (.ref a1), (.ref b101)] rfl 3 rfl (by decide) (by decide) (by decide) (by decide)
    obtain ⟨rfl, rfl⟩ := Q129
    refine st129 _ ?_
    have f130 := (f114.keep K115 nin0)
    have f131 := (f130.keep K121 (ninS (nne (by have q := nlt f130.lt; omega)) nin0))
    obtain ⟨T132, h132, v132, W132, Q132, st132⟩ := x_iface B W129 (b := a1) [(.int 20), (.int (mi 40 n))] (c_subList l Z a0 hw a1 20 (mi 40 n) n h121 f124 f131 (by decide) sq20.2.1 sq20.2.2) f126 (d_prog_12_method_2_26) (tw hw 51 rfl) (tw hw 52 rfl) (tw hw 53 rfl) (tw hw 54 rfl) (tw hw 55 rfl) (tw hw 56 rfl) (tw hw 57 rfl) (tw hw 43 rfl) rfl (tw hw 2 rfl) (tw hw 58 rfl) (by decide) (lenOf pd__II_Ljava_util_List_ rfl) #[.val (.ref a1), .val (.ref b101), .val (.int 20)] [(.ref b101)] rfl 1 rfl (by decide) (by decide) (by decide) (by decide)
    obtain ⟨b132, rfl, g132, K132, E132, F0_132, F1_132, F2_132, F3_132, F4_132⟩ := Q132
    have s133 := K132.1
    refine st132 _ ?_
    have l132 := nlt E132.lt
    have f134 := (E121.keep K132)
    have f135 := (Fs121.keep K132 nin0)
    have f136 := (Fe121.keep K132 nin0)
    have f137 := (Fm121.keep K132 nin0)
    have f138 := (A121.keep K132 nin0)
    have f139 := (X121.keep K132)
    obtain ⟨T140, h140, v140, W140, Q140, st140⟩ := x_iface B W132 (b := b101) [(.ref b132)] (c_addBS l Z a0 hw b101 1 b132 ea121 kB121 (vs121.set (Int32.toNatClampNeg 0) (.ref b115)) 1 2 10 h132 f134 f135 f136 f137 (by omega) E132 f138 (by simp [List.length_set, vl121]) O121 f139 (by omega) (by omega) (by decide) (by decide)) f134 (d_prog_12_method_2_31) (tw hw 86 rfl) (tw hw 87 rfl) (tw hw 88 rfl) (tw hw 89 rfl) (tw hw 90 rfl) (tw hw 91 rfl) (tw hw 92 rfl) (tw hw 43 rfl) rfl (tw hw 2 rfl) (tw hw 93 rfl) (by decide) (lenOf pd__Ljava_lang_Object__Z rfl) #[.val (.ref a1), .val (.ref b101), .val (.int 20)] [] rfl 0 rfl (by decide) (by decide) (by decide) (by decide)
    obtain ⟨rfl, K140, E140, Fs140, Fe140, Fm140, A140, X140⟩ := Q140
    have s141 := K140.1
    refine st140 _ ?_
    rw [show (1 + 1 : Int32) = 2 by decide] at Fm140
    show Go p.tables e below _ T140 (mkF m 36 #[.val (.ref a1), .val (.ref b101), .val (.int 20)] [(.int 1)])
    refine g_pop B W140 (d_prog_12_method_2_36) rfl ?_
    refine g_iinc B W140 (d_prog_12_method_2_37) (v := 20) (l' := #[.val (.ref a1), .val (.ref b101), .val (.int (20 + 20))]) (by decide) rfl rfl ?_
    rw [show (20 + 20 : Int32) = 40 by decide]
    refine g_iload_n B W140 (d_prog_12_method_2_40) rfl ?_
    refine g_aload_n B W140 (d_prog_12_method_2_41) rfl rfl ?_
    have f142 := (f124.keep K132 nin0)
    have f143 := (f142.keep K140 (ninS (nne (by have q := nlt f142.lt; omega)) (ninS (nne (by have q := nlt f142.lt; omega)) nin0)))
    have f145 := ((f126.keep K132).keep K140)
    obtain ⟨T144, h144, v144, W144, Q144, st144⟩ := x_iface B W140 (b := a1) [] (c_alSize l Z a0 hw a1 n h140 f143) f145 (d_prog_12_method_2_42) (tw hw 36 rfl) (tw hw 37 rfl) (tw hw 38 rfl) (tw hw 39 rfl) (tw hw 40 rfl) (tw hw 41 rfl) (tw hw 42 rfl) (tw hw 43 rfl) rfl (tw hw 2 rfl) (tw hw 44 rfl) (by decide) (lenOf pd___I rfl) #[.val (.ref a1), .val (.ref b101), .val (.int 40)] [(.int 40)] rfl 1 rfl (by decide) (by decide) (by decide) (by decide)
    obtain ⟨rfl, rfl⟩ := Q144
    refine st144 _ ?_
    by_cases hc146 : 40 < n
    · skip
      refine g_icmp_y B W144 (d_prog_12_method_2_47) (XT.ii_lt_t hc146) (pc' := 10) (by decide) ?_
      show Go p.tables e below _ T144 (mkF m 10 #[.val (.ref a1), .val (.ref b101), .val (.int 40)] [])
      have sq40 : mi 60 n - 40 = mi 20 (n - 40) ∧ ¬ n < mi 60 n ∧ ¬ mi 60 n < 40 := own_sz hn0 hn1 2 (Int32.le_of_lt hc146)
      refine g_aload_n B W144 (d_prog_12_method_2_10) rfl rfl ?_
      refine g_aload_n B W144 (d_prog_12_method_2_11) rfl rfl ?_
      refine g_iload_n B W144 (d_prog_12_method_2_12) rfl ?_
      refine g_iload_n B W144 (d_prog_12_method_2_13) rfl ?_
      refine g_bipush B W144 (d_prog_12_method_2_14) (v := 20) (by decide) ?_
      refine g_iadd B W144 (d_prog_12_method_2_16)  ?_
      rw [show (40 + 20 : Int32) = 60 by decide]
      refine g_aload_n B W144 (d_prog_12_method_2_17) rfl rfl ?_
      obtain ⟨T147, h147, v147, W147, Q147, st147⟩ := x_iface B W144 (b := a1) [] (c_alSize l Z a0 hw a1 n h140 f143) f145 (d_prog_12_method_2_18) (tw hw 36 rfl) (tw hw 37 rfl) (tw hw 38 rfl) (tw hw 39 rfl) (tw hw 40 rfl) (tw hw 41 rfl) (tw hw 42 rfl) (tw hw 43 rfl) rfl (tw hw 2 rfl) (tw hw 44 rfl) (by decide) (lenOf pd___I rfl) #[.val (.ref a1), .val (.ref b101), .val (.int 40)] [(.int 60), (.int 40), (.ref a1), (.ref b101)] rfl 4 rfl (by decide) (by decide) (by decide) (by decide)
      obtain ⟨rfl, rfl⟩ := Q147
      refine st147 _ ?_
      obtain ⟨T148, h148, v148, W148, Q148, st148⟩ := x_static B W147 [(.int 60), (.int n)] (c_min l Z a0 hw 60 n h140) (d_prog_12_method_2_23) (tw hw 47 rfl) (tw hw 48 rfl) (tw hw 49 rfl) (tw hw 50 rfl) (by decide) (lenOf pd__II_I rfl) #[.val (.ref a1), .val (.ref b101), .val (.int 40)] [(.int 40), (.ref a1), (.ref b101)] rfl 3 rfl (by decide) (by decide) (by decide) (by decide)
      obtain ⟨rfl, rfl⟩ := Q148
      refine st148 _ ?_
      have f149 := (f131.keep K132 nin0)
      have f150 := (f149.keep K140 (ninS (nne (by have q := nlt f149.lt; omega)) (ninS (nne (by have q := nlt f149.lt; omega)) nin0)))
      obtain ⟨T151, h151, v151, W151, Q151, st151⟩ := x_iface B W148 (b := a1) [(.int 40), (.int (mi 60 n))] (c_subList l Z a0 hw a1 40 (mi 60 n) n h140 f143 f150 (by decide) sq40.2.1 sq40.2.2) f145 (d_prog_12_method_2_26) (tw hw 51 rfl) (tw hw 52 rfl) (tw hw 53 rfl) (tw hw 54 rfl) (tw hw 55 rfl) (tw hw 56 rfl) (tw hw 57 rfl) (tw hw 43 rfl) rfl (tw hw 2 rfl) (tw hw 58 rfl) (by decide) (lenOf pd__II_Ljava_util_List_ rfl) #[.val (.ref a1), .val (.ref b101), .val (.int 40)] [(.ref b101)] rfl 1 rfl (by decide) (by decide) (by decide) (by decide)
      obtain ⟨b151, rfl, g151, K151, E151, F0_151, F1_151, F2_151, F3_151, F4_151⟩ := Q151
      have s152 := K151.1
      refine st151 _ ?_
      have l151 := nlt E151.lt
      have f153 := (E140.keep K151)
      have f154 := (Fs140.keep K151 nin0)
      have f155 := (Fe140.keep K151 nin0)
      have f156 := (Fm140.keep K151 nin0)
      have f157 := (A140.keep K151 nin0)
      have f158 := (X140.keep K151)
      obtain ⟨T159, h159, v159, W159, Q159, st159⟩ := x_iface B W151 (b := b101) [(.ref b151)] (c_addBS l Z a0 hw b101 2 b151 ea121 kB121 ((vs121.set (Int32.toNatClampNeg 0) (.ref b115)).set (Int32.toNatClampNeg 1) (.ref b132)) 2 3 10 h151 f153 f154 f155 f156 (by omega) E151 f157 (by simp [List.length_set, vl121]) O121 f158 (by omega) (by omega) (by decide) (by decide)) f153 (d_prog_12_method_2_31) (tw hw 86 rfl) (tw hw 87 rfl) (tw hw 88 rfl) (tw hw 89 rfl) (tw hw 90 rfl) (tw hw 91 rfl) (tw hw 92 rfl) (tw hw 43 rfl) rfl (tw hw 2 rfl) (tw hw 93 rfl) (by decide) (lenOf pd__Ljava_lang_Object__Z rfl) #[.val (.ref a1), .val (.ref b101), .val (.int 40)] [] rfl 0 rfl (by decide) (by decide) (by decide) (by decide)
      obtain ⟨rfl, K159, E159, Fs159, Fe159, Fm159, A159, X159⟩ := Q159
      have s160 := K159.1
      refine st159 _ ?_
      rw [show (2 + 1 : Int32) = 3 by decide] at Fm159
      show Go p.tables e below _ T159 (mkF m 36 #[.val (.ref a1), .val (.ref b101), .val (.int 40)] [(.int 1)])
      refine g_pop B W159 (d_prog_12_method_2_36) rfl ?_
      refine g_iinc B W159 (d_prog_12_method_2_37) (v := 20) (l' := #[.val (.ref a1), .val (.ref b101), .val (.int (40 + 20))]) (by decide) rfl rfl ?_
      rw [show (40 + 20 : Int32) = 60 by decide]
      refine g_iload_n B W159 (d_prog_12_method_2_40) rfl ?_
      refine g_aload_n B W159 (d_prog_12_method_2_41) rfl rfl ?_
      have f161 := (f143.keep K151 nin0)
      have f162 := (f161.keep K159 (ninS (nne (by have q := nlt f161.lt; omega)) (ninS (nne (by have q := nlt f161.lt; omega)) nin0)))
      have f164 := ((f145.keep K151).keep K159)
      obtain ⟨T163, h163, v163, W163, Q163, st163⟩ := x_iface B W159 (b := a1) [] (c_alSize l Z a0 hw a1 n h159 f162) f164 (d_prog_12_method_2_42) (tw hw 36 rfl) (tw hw 37 rfl) (tw hw 38 rfl) (tw hw 39 rfl) (tw hw 40 rfl) (tw hw 41 rfl) (tw hw 42 rfl) (tw hw 43 rfl) rfl (tw hw 2 rfl) (tw hw 44 rfl) (by decide) (lenOf pd___I rfl) #[.val (.ref a1), .val (.ref b101), .val (.int 60)] [(.int 60)] rfl 1 rfl (by decide) (by decide) (by decide) (by decide)
      obtain ⟨rfl, rfl⟩ := Q163
      refine st163 _ ?_
      by_cases hc165 : 60 < n
      · skip
        refine g_icmp_y B W163 (d_prog_12_method_2_47) (XT.ii_lt_t hc165) (pc' := 10) (by decide) ?_
        show Go p.tables e below _ T163 (mkF m 10 #[.val (.ref a1), .val (.ref b101), .val (.int 60)] [])
        have sq60 : mi 80 n - 60 = mi 20 (n - 60) ∧ ¬ n < mi 80 n ∧ ¬ mi 80 n < 60 := own_sz hn0 hn1 3 (Int32.le_of_lt hc165)
        refine g_aload_n B W163 (d_prog_12_method_2_10) rfl rfl ?_
        refine g_aload_n B W163 (d_prog_12_method_2_11) rfl rfl ?_
        refine g_iload_n B W163 (d_prog_12_method_2_12) rfl ?_
        refine g_iload_n B W163 (d_prog_12_method_2_13) rfl ?_
        refine g_bipush B W163 (d_prog_12_method_2_14) (v := 20) (by decide) ?_
        refine g_iadd B W163 (d_prog_12_method_2_16)  ?_
        rw [show (60 + 20 : Int32) = 80 by decide]
        refine g_aload_n B W163 (d_prog_12_method_2_17) rfl rfl ?_
        obtain ⟨T166, h166, v166, W166, Q166, st166⟩ := x_iface B W163 (b := a1) [] (c_alSize l Z a0 hw a1 n h159 f162) f164 (d_prog_12_method_2_18) (tw hw 36 rfl) (tw hw 37 rfl) (tw hw 38 rfl) (tw hw 39 rfl) (tw hw 40 rfl) (tw hw 41 rfl) (tw hw 42 rfl) (tw hw 43 rfl) rfl (tw hw 2 rfl) (tw hw 44 rfl) (by decide) (lenOf pd___I rfl) #[.val (.ref a1), .val (.ref b101), .val (.int 60)] [(.int 80), (.int 60), (.ref a1), (.ref b101)] rfl 4 rfl (by decide) (by decide) (by decide) (by decide)
        obtain ⟨rfl, rfl⟩ := Q166
        refine st166 _ ?_
        obtain ⟨T167, h167, v167, W167, Q167, st167⟩ := x_static B W166 [(.int 80), (.int n)] (c_min l Z a0 hw 80 n h159) (d_prog_12_method_2_23) (tw hw 47 rfl) (tw hw 48 rfl) (tw hw 49 rfl) (tw hw 50 rfl) (by decide) (lenOf pd__II_I rfl) #[.val (.ref a1), .val (.ref b101), .val (.int 60)] [(.int 60), (.ref a1), (.ref b101)] rfl 3 rfl (by decide) (by decide) (by decide) (by decide)
        obtain ⟨rfl, rfl⟩ := Q167
        refine st167 _ ?_
        have f168 := (f150.keep K151 nin0)
        have f169 := (f168.keep K159 (ninS (nne (by have q := nlt f168.lt; omega)) (ninS (nne (by have q := nlt f168.lt; omega)) nin0)))
        obtain ⟨T170, h170, v170, W170, Q170, st170⟩ := x_iface B W167 (b := a1) [(.int 60), (.int (mi 80 n))] (c_subList l Z a0 hw a1 60 (mi 80 n) n h159 f162 f169 (by decide) sq60.2.1 sq60.2.2) f164 (d_prog_12_method_2_26) (tw hw 51 rfl) (tw hw 52 rfl) (tw hw 53 rfl) (tw hw 54 rfl) (tw hw 55 rfl) (tw hw 56 rfl) (tw hw 57 rfl) (tw hw 43 rfl) rfl (tw hw 2 rfl) (tw hw 58 rfl) (by decide) (lenOf pd__II_Ljava_util_List_ rfl) #[.val (.ref a1), .val (.ref b101), .val (.int 60)] [(.ref b101)] rfl 1 rfl (by decide) (by decide) (by decide) (by decide)
        obtain ⟨b170, rfl, g170, K170, E170, F0_170, F1_170, F2_170, F3_170, F4_170⟩ := Q170
        have s171 := K170.1
        refine st170 _ ?_
        have l170 := nlt E170.lt
        have f172 := (E159.keep K170)
        have f173 := (Fs159.keep K170 nin0)
        have f174 := (Fe159.keep K170 nin0)
        have f175 := (Fm159.keep K170 nin0)
        have f176 := (A159.keep K170 nin0)
        have f177 := (X159.keep K170)
        obtain ⟨T178, h178, v178, W178, Q178, st178⟩ := x_iface B W170 (b := b101) [(.ref b170)] (c_addBS l Z a0 hw b101 3 b170 ea121 kB121 (((vs121.set (Int32.toNatClampNeg 0) (.ref b115)).set (Int32.toNatClampNeg 1) (.ref b132)).set (Int32.toNatClampNeg 2) (.ref b151)) 3 4 10 h170 f172 f173 f174 f175 (by omega) E170 f176 (by simp [List.length_set, vl121]) O121 f177 (by omega) (by omega) (by decide) (by decide)) f172 (d_prog_12_method_2_31) (tw hw 86 rfl) (tw hw 87 rfl) (tw hw 88 rfl) (tw hw 89 rfl) (tw hw 90 rfl) (tw hw 91 rfl) (tw hw 92 rfl) (tw hw 43 rfl) rfl (tw hw 2 rfl) (tw hw 93 rfl) (by decide) (lenOf pd__Ljava_lang_Object__Z rfl) #[.val (.ref a1), .val (.ref b101), .val (.int 60)] [] rfl 0 rfl (by decide) (by decide) (by decide) (by decide)
        obtain ⟨rfl, K178, E178, Fs178, Fe178, Fm178, A178, X178⟩ := Q178
        have s179 := K178.1
        refine st178 _ ?_
        rw [show (3 + 1 : Int32) = 4 by decide] at Fm178
        show Go p.tables e below _ T178 (mkF m 36 #[.val (.ref a1), .val (.ref b101), .val (.int 60)] [(.int 1)])
        refine g_pop B W178 (d_prog_12_method_2_36) rfl ?_
        refine g_iinc B W178 (d_prog_12_method_2_37) (v := 20) (l' := #[.val (.ref a1), .val (.ref b101), .val (.int (60 + 20))]) (by decide) rfl rfl ?_
        rw [show (60 + 20 : Int32) = 80 by decide]
        refine g_iload_n B W178 (d_prog_12_method_2_40) rfl ?_
        refine g_aload_n B W178 (d_prog_12_method_2_41) rfl rfl ?_
        have f180 := (f162.keep K170 nin0)
        have f181 := (f180.keep K178 (ninS (nne (by have q := nlt f180.lt; omega)) (ninS (nne (by have q := nlt f180.lt; omega)) nin0)))
        have f183 := ((f164.keep K170).keep K178)
        obtain ⟨T182, h182, v182, W182, Q182, st182⟩ := x_iface B W178 (b := a1) [] (c_alSize l Z a0 hw a1 n h178 f181) f183 (d_prog_12_method_2_42) (tw hw 36 rfl) (tw hw 37 rfl) (tw hw 38 rfl) (tw hw 39 rfl) (tw hw 40 rfl) (tw hw 41 rfl) (tw hw 42 rfl) (tw hw 43 rfl) rfl (tw hw 2 rfl) (tw hw 44 rfl) (by decide) (lenOf pd___I rfl) #[.val (.ref a1), .val (.ref b101), .val (.int 80)] [(.int 80)] rfl 1 rfl (by decide) (by decide) (by decide) (by decide)
        obtain ⟨rfl, rfl⟩ := Q182
        refine st182 _ ?_
        refine g_icmp_n B W182 (d_prog_12_method_2_47) (XT.ii_lt_f (own_80 hn1)) ?_
        show Go p.tables e below _ T182 (mkF m 50 #[.val (.ref a1), .val (.ref b101), .val (.int 80)] [])
        refine g_aload_n B W182 (d_prog_12_method_2_50) rfl rfl ?_
        have ex : exP n = 4 := (own_exP hn0 hn1).2.2.2.2 hc165
        have f184 := (((((((E115.keep K121).keep K132).keep K140).keep K151).keep K159).keep K170).keep K178)
        have f185 := ((F0_115.keep K121 (ninS (nne (by have q := nlt F0_115.lt; omega)) nin0)).keep K132 nin0)
        have f186 := ((f185.keep K140 (ninS (nne (by have q := nlt f185.lt; omega)) (ninS (nne (by have q := nlt f185.lt; omega)) nin0))).keep K151 nin0)
        have f187 := ((f186.keep K159 (ninS (nne (by have q := nlt f186.lt; omega)) (ninS (nne (by have q := nlt f186.lt; omega)) nin0))).keep K170 nin0)
        have f188 := (f187.keep K178 (ninS (nne (by have q := nlt f187.lt; omega)) (ninS (nne (by have q := nlt f187.lt; omega)) nin0)))
        have f189 := ((F2_115.keep K121 (ninS (nne (by have q := nlt F2_115.lt; omega)) nin0)).keep K132 nin0)
        have f190 := ((f189.keep K140 (ninS (nne (by have q := nlt f189.lt; omega)) (ninS (nne (by have q := nlt f189.lt; omega)) nin0))).keep K151 nin0)
        have f191 := ((f190.keep K159 (ninS (nne (by have q := nlt f190.lt; omega)) (ninS (nne (by have q := nlt f190.lt; omega)) nin0))).keep K170 nin0)
        have f192 := (f191.keep K178 (ninS (nne (by have q := nlt f191.lt; omega)) (ninS (nne (by have q := nlt f191.lt; omega)) nin0)))
        have f193 := ((F3_115.keep K121 (ninS (nne (by have q := nlt F3_115.lt; omega)) nin0)).keep K132 nin0)
        have f194 := ((f193.keep K140 (ninS (nne (by have q := nlt f193.lt; omega)) (ninS (nne (by have q := nlt f193.lt; omega)) nin0))).keep K151 nin0)
        have f195 := ((f194.keep K159 (ninS (nne (by have q := nlt f194.lt; omega)) (ninS (nne (by have q := nlt f194.lt; omega)) nin0))).keep K170 nin0)
        have f196 := (f195.keep K178 (ninS (nne (by have q := nlt f195.lt; omega)) (ninS (nne (by have q := nlt f195.lt; omega)) nin0)))
        have f197 := ((F4_115.keep K121 (ninS (nne (by have q := nlt F4_115.lt; omega)) nin0)).keep K132 nin0)
        have f198 := ((f197.keep K140 (ninS (nne (by have q := nlt f197.lt; omega)) (ninS (nne (by have q := nlt f197.lt; omega)) nin0))).keep K151 nin0)
        have f199 := ((f198.keep K159 (ninS (nne (by have q := nlt f198.lt; omega)) (ninS (nne (by have q := nlt f198.lt; omega)) nin0))).keep K170 nin0)
        have f200 := (f199.keep K178 (ninS (nne (by have q := nlt f199.lt; omega)) (ninS (nne (by have q := nlt f199.lt; omega)) nin0)))
        have B0 : SB Z h178 a1 n b115 (20 * 0) := by
          rw [show (20 * 0 : Int32) = 0 by decide]
          refine ⟨f184, f188, f192, ?_, f200⟩
          rw [← sq0.1]; exact f196
        have f201 := (((((E132.keep K140).keep K151).keep K159).keep K170).keep K178)
        have f202 := ((F0_132.keep K140 (ninS (nne (by have q := nlt F0_132.lt; omega)) (ninS (nne (by have q := nlt F0_132.lt; omega)) nin0))).keep K151 nin0)
        have f203 := ((f202.keep K159 (ninS (nne (by have q := nlt f202.lt; omega)) (ninS (nne (by have q := nlt f202.lt; omega)) nin0))).keep K170 nin0)
        have f204 := (f203.keep K178 (ninS (nne (by have q := nlt f203.lt; omega)) (ninS (nne (by have q := nlt f203.lt; omega)) nin0)))
        have f205 := ((F2_132.keep K140 (ninS (nne (by have q := nlt F2_132.lt; omega)) (ninS (nne (by have q := nlt F2_132.lt; omega)) nin0))).keep K151 nin0)
        have f206 := ((f205.keep K159 (ninS (nne (by have q := nlt f205.lt; omega)) (ninS (nne (by have q := nlt f205.lt; omega)) nin0))).keep K170 nin0)
        have f207 := (f206.keep K178 (ninS (nne (by have q := nlt f206.lt; omega)) (ninS (nne (by have q := nlt f206.lt; omega)) nin0)))
        have f208 := ((F3_132.keep K140 (ninS (nne (by have q := nlt F3_132.lt; omega)) (ninS (nne (by have q := nlt F3_132.lt; omega)) nin0))).keep K151 nin0)
        have f209 := ((f208.keep K159 (ninS (nne (by have q := nlt f208.lt; omega)) (ninS (nne (by have q := nlt f208.lt; omega)) nin0))).keep K170 nin0)
        have f210 := (f209.keep K178 (ninS (nne (by have q := nlt f209.lt; omega)) (ninS (nne (by have q := nlt f209.lt; omega)) nin0)))
        have f211 := ((F4_132.keep K140 (ninS (nne (by have q := nlt F4_132.lt; omega)) (ninS (nne (by have q := nlt F4_132.lt; omega)) nin0))).keep K151 nin0)
        have f212 := ((f211.keep K159 (ninS (nne (by have q := nlt f211.lt; omega)) (ninS (nne (by have q := nlt f211.lt; omega)) nin0))).keep K170 nin0)
        have f213 := (f212.keep K178 (ninS (nne (by have q := nlt f212.lt; omega)) (ninS (nne (by have q := nlt f212.lt; omega)) nin0)))
        have B1 : SB Z h178 a1 n b132 (20 * 1) := by
          rw [show (20 * 1 : Int32) = 20 by decide]
          refine ⟨f201, f204, f207, ?_, f213⟩
          rw [← sq20.1]; exact f210
        have f214 := (((E151.keep K159).keep K170).keep K178)
        have f215 := ((F0_151.keep K159 (ninS (nne (by have q := nlt F0_151.lt; omega)) (ninS (nne (by have q := nlt F0_151.lt; omega)) nin0))).keep K170 nin0)
        have f216 := (f215.keep K178 (ninS (nne (by have q := nlt f215.lt; omega)) (ninS (nne (by have q := nlt f215.lt; omega)) nin0)))
        have f217 := ((F2_151.keep K159 (ninS (nne (by have q := nlt F2_151.lt; omega)) (ninS (nne (by have q := nlt F2_151.lt; omega)) nin0))).keep K170 nin0)
        have f218 := (f217.keep K178 (ninS (nne (by have q := nlt f217.lt; omega)) (ninS (nne (by have q := nlt f217.lt; omega)) nin0)))
        have f219 := ((F3_151.keep K159 (ninS (nne (by have q := nlt F3_151.lt; omega)) (ninS (nne (by have q := nlt F3_151.lt; omega)) nin0))).keep K170 nin0)
        have f220 := (f219.keep K178 (ninS (nne (by have q := nlt f219.lt; omega)) (ninS (nne (by have q := nlt f219.lt; omega)) nin0)))
        have f221 := ((F4_151.keep K159 (ninS (nne (by have q := nlt F4_151.lt; omega)) (ninS (nne (by have q := nlt F4_151.lt; omega)) nin0))).keep K170 nin0)
        have f222 := (f221.keep K178 (ninS (nne (by have q := nlt f221.lt; omega)) (ninS (nne (by have q := nlt f221.lt; omega)) nin0)))
        have B2 : SB Z h178 a1 n b151 (20 * 2) := by
          rw [show (20 * 2 : Int32) = 40 by decide]
          refine ⟨f214, f216, f218, ?_, f222⟩
          rw [← sq40.1]; exact f220
        have f223 := (E170.keep K178)
        have f224 := (F0_170.keep K178 (ninS (nne (by have q := nlt F0_170.lt; omega)) (ninS (nne (by have q := nlt F0_170.lt; omega)) nin0)))
        have f225 := (F2_170.keep K178 (ninS (nne (by have q := nlt F2_170.lt; omega)) (ninS (nne (by have q := nlt F2_170.lt; omega)) nin0)))
        have f226 := (F3_170.keep K178 (ninS (nne (by have q := nlt F3_170.lt; omega)) (ninS (nne (by have q := nlt F3_170.lt; omega)) nin0)))
        have f227 := (F4_170.keep K178 (ninS (nne (by have q := nlt F4_170.lt; omega)) (ninS (nne (by have q := nlt F4_170.lt; omega)) nin0)))
        have B3 : SB Z h178 a1 n b170 (20 * 3) := by
          rw [show (20 * 3 : Int32) = 60 by decide]
          refine ⟨f223, f224, f225, ?_, f227⟩
          rw [← sq60.1]; exact f226
        have hB : ∀ p : Int32, ¬ p < 0 → p < exP n → ∃ b : Addr, (((((vs121.set (Int32.toNatClampNeg 0) (.ref b115)).set (Int32.toNatClampNeg 1) (.ref b132)).set (Int32.toNatClampNeg 2) (.ref b151)).set (Int32.toNatClampNeg 3) (.ref b170))).getD p.toNatClampNeg .null = .ref b ∧ SB Z h178 a1 n b (20 * p) := by
          intro p q0 q1
          rw [ex] at q1
          have q2 : p = 0 ∨ p = 1 ∨ p = 2 ∨ p = 3 := by simp only [← Int32.toInt_inj, Int32.lt_iff_toInt_lt, Int32.reduceToInt] at *; omega
          rcases q2 with rfl | rfl | rfl | rfl
          · exact ⟨_, by rw [ev121]; rfl, B0⟩
          · exact ⟨_, by rw [ev121]; rfl, B1⟩
          · exact ⟨_, by rw [ev121]; rfl, B2⟩
          · exact ⟨_, by rw [ev121]; rfl, B3⟩
        exact r_a B W182 rfl rfl rfl (d_prog_12_method_2_51) (by decide) (by decide) ⟨_, rfl, (((((((((((Keep.refl h0 []).trans K101 all0).trans K106 (allS (Or.inr (by omega)) all0)).trans K115 all0).trans K121 (allS (Or.inr (by omega)) all0)).trans K132 all0).trans K140 (allS (Or.inr (by omega)) (allS (Or.inr (by omega)) all0))).trans K151 all0).trans K159 (allS (Or.inr (by omega)) (allS (Or.inr (by omega)) all0))).trans K170 all0).trans K178 (allS (Or.inr (by omega)) (allS (Or.inr (by omega)) all0))), E178, (by rw [ex]; exact Fs178), _, _, _, Fe178, A178, hB⟩
      · skip
        refine g_icmp_n B W163 (d_prog_12_method_2_47) (XT.ii_lt_f hc165) ?_
        show Go p.tables e below _ T163 (mkF m 50 #[.val (.ref a1), .val (.ref b101), .val (.int 60)] [])
        refine g_aload_n B W163 (d_prog_12_method_2_50) rfl rfl ?_
        have ex : exP n = 3 := (own_exP hn0 hn1).2.2.2.1 hc146 hc165
        have f228 := (((((E115.keep K121).keep K132).keep K140).keep K151).keep K159)
        have f229 := ((F0_115.keep K121 (ninS (nne (by have q := nlt F0_115.lt; omega)) nin0)).keep K132 nin0)
        have f230 := ((f229.keep K140 (ninS (nne (by have q := nlt f229.lt; omega)) (ninS (nne (by have q := nlt f229.lt; omega)) nin0))).keep K151 nin0)
        have f231 := (f230.keep K159 (ninS (nne (by have q := nlt f230.lt; omega)) (ninS (nne (by have q := nlt f230.lt; omega)) nin0)))
        have f232 := ((F2_115.keep K121 (ninS (nne (by have q := nlt F2_115.lt; omega)) nin0)).keep K132 nin0)
        have f233 := ((f232.keep K140 (ninS (nne (by have q := nlt f232.lt; omega)) (ninS (nne (by have q := nlt f232.lt; omega)) nin0))).keep K151 nin0)
        have f234 := (f233.keep K159 (ninS (nne (by have q := nlt f233.lt; omega)) (ninS (nne (by have q := nlt f233.lt; omega)) nin0)))
        have f235 := ((F3_115.keep K121 (ninS (nne (by have q := nlt F3_115.lt; omega)) nin0)).keep K132 nin0)
        have f236 := ((f235.keep K140 (ninS (nne (by have q := nlt f235.lt; omega)) (ninS (nne (by have q := nlt f235.lt; omega)) nin0))).keep K151 nin0)
        have f237 := (f236.keep K159 (ninS (nne (by have q := nlt f236.lt; omega)) (ninS (nne (by have q := nlt f236.lt; omega)) nin0)))
        have f238 := ((F4_115.keep K121 (ninS (nne (by have q := nlt F4_115.lt; omega)) nin0)).keep K132 nin0)
        have f239 := ((f238.keep K140 (ninS (nne (by have q := nlt f238.lt; omega)) (ninS (nne (by have q := nlt f238.lt; omega)) nin0))).keep K151 nin0)
        have f240 := (f239.keep K159 (ninS (nne (by have q := nlt f239.lt; omega)) (ninS (nne (by have q := nlt f239.lt; omega)) nin0)))
        have B0 : SB Z h159 a1 n b115 (20 * 0) := by
          rw [show (20 * 0 : Int32) = 0 by decide]
          refine ⟨f228, f231, f234, ?_, f240⟩
          rw [← sq0.1]; exact f237
        have f241 := (((E132.keep K140).keep K151).keep K159)
        have f242 := ((F0_132.keep K140 (ninS (nne (by have q := nlt F0_132.lt; omega)) (ninS (nne (by have q := nlt F0_132.lt; omega)) nin0))).keep K151 nin0)
        have f243 := (f242.keep K159 (ninS (nne (by have q := nlt f242.lt; omega)) (ninS (nne (by have q := nlt f242.lt; omega)) nin0)))
        have f244 := ((F2_132.keep K140 (ninS (nne (by have q := nlt F2_132.lt; omega)) (ninS (nne (by have q := nlt F2_132.lt; omega)) nin0))).keep K151 nin0)
        have f245 := (f244.keep K159 (ninS (nne (by have q := nlt f244.lt; omega)) (ninS (nne (by have q := nlt f244.lt; omega)) nin0)))
        have f246 := ((F3_132.keep K140 (ninS (nne (by have q := nlt F3_132.lt; omega)) (ninS (nne (by have q := nlt F3_132.lt; omega)) nin0))).keep K151 nin0)
        have f247 := (f246.keep K159 (ninS (nne (by have q := nlt f246.lt; omega)) (ninS (nne (by have q := nlt f246.lt; omega)) nin0)))
        have f248 := ((F4_132.keep K140 (ninS (nne (by have q := nlt F4_132.lt; omega)) (ninS (nne (by have q := nlt F4_132.lt; omega)) nin0))).keep K151 nin0)
        have f249 := (f248.keep K159 (ninS (nne (by have q := nlt f248.lt; omega)) (ninS (nne (by have q := nlt f248.lt; omega)) nin0)))
        have B1 : SB Z h159 a1 n b132 (20 * 1) := by
          rw [show (20 * 1 : Int32) = 20 by decide]
          refine ⟨f241, f243, f245, ?_, f249⟩
          rw [← sq20.1]; exact f247
        have f250 := (E151.keep K159)
        have f251 := (F0_151.keep K159 (ninS (nne (by have q := nlt F0_151.lt; omega)) (ninS (nne (by have q := nlt F0_151.lt; omega)) nin0)))
        have f252 := (F2_151.keep K159 (ninS (nne (by have q := nlt F2_151.lt; omega)) (ninS (nne (by have q := nlt F2_151.lt; omega)) nin0)))
        have f253 := (F3_151.keep K159 (ninS (nne (by have q := nlt F3_151.lt; omega)) (ninS (nne (by have q := nlt F3_151.lt; omega)) nin0)))
        have f254 := (F4_151.keep K159 (ninS (nne (by have q := nlt F4_151.lt; omega)) (ninS (nne (by have q := nlt F4_151.lt; omega)) nin0)))
        have B2 : SB Z h159 a1 n b151 (20 * 2) := by
          rw [show (20 * 2 : Int32) = 40 by decide]
          refine ⟨f250, f251, f252, ?_, f254⟩
          rw [← sq40.1]; exact f253
        have hB : ∀ p : Int32, ¬ p < 0 → p < exP n → ∃ b : Addr, ((((vs121.set (Int32.toNatClampNeg 0) (.ref b115)).set (Int32.toNatClampNeg 1) (.ref b132)).set (Int32.toNatClampNeg 2) (.ref b151))).getD p.toNatClampNeg .null = .ref b ∧ SB Z h159 a1 n b (20 * p) := by
          intro p q0 q1
          rw [ex] at q1
          have q2 : p = 0 ∨ p = 1 ∨ p = 2 ∨ p = 3 := by simp only [← Int32.toInt_inj, Int32.lt_iff_toInt_lt, Int32.reduceToInt] at *; omega
          rcases q2 with rfl | rfl | rfl | rfl
          · exact ⟨_, by rw [ev121]; rfl, B0⟩
          · exact ⟨_, by rw [ev121]; rfl, B1⟩
          · exact ⟨_, by rw [ev121]; rfl, B2⟩
          · exact absurd q1 (by decide)
        exact r_a B W163 rfl rfl rfl (d_prog_12_method_2_51) (by decide) (by decide) ⟨_, rfl, (((((((((Keep.refl h0 []).trans K101 all0).trans K106 (allS (Or.inr (by omega)) all0)).trans K115 all0).trans K121 (allS (Or.inr (by omega)) all0)).trans K132 all0).trans K140 (allS (Or.inr (by omega)) (allS (Or.inr (by omega)) all0))).trans K151 all0).trans K159 (allS (Or.inr (by omega)) (allS (Or.inr (by omega)) all0))), E159, (by rw [ex]; exact Fs159), _, _, _, Fe159, A159, hB⟩
    · skip
      refine g_icmp_n B W144 (d_prog_12_method_2_47) (XT.ii_lt_f hc146) ?_
      show Go p.tables e below _ T144 (mkF m 50 #[.val (.ref a1), .val (.ref b101), .val (.int 40)] [])
      refine g_aload_n B W144 (d_prog_12_method_2_50) rfl rfl ?_
      have ex : exP n = 2 := (own_exP hn0 hn1).2.2.1 hc127 hc146
      have f255 := (((E115.keep K121).keep K132).keep K140)
      have f256 := ((F0_115.keep K121 (ninS (nne (by have q := nlt F0_115.lt; omega)) nin0)).keep K132 nin0)
      have f257 := (f256.keep K140 (ninS (nne (by have q := nlt f256.lt; omega)) (ninS (nne (by have q := nlt f256.lt; omega)) nin0)))
      have f258 := ((F2_115.keep K121 (ninS (nne (by have q := nlt F2_115.lt; omega)) nin0)).keep K132 nin0)
      have f259 := (f258.keep K140 (ninS (nne (by have q := nlt f258.lt; omega)) (ninS (nne (by have q := nlt f258.lt; omega)) nin0)))
      have f260 := ((F3_115.keep K121 (ninS (nne (by have q := nlt F3_115.lt; omega)) nin0)).keep K132 nin0)
      have f261 := (f260.keep K140 (ninS (nne (by have q := nlt f260.lt; omega)) (ninS (nne (by have q := nlt f260.lt; omega)) nin0)))
      have f262 := ((F4_115.keep K121 (ninS (nne (by have q := nlt F4_115.lt; omega)) nin0)).keep K132 nin0)
      have f263 := (f262.keep K140 (ninS (nne (by have q := nlt f262.lt; omega)) (ninS (nne (by have q := nlt f262.lt; omega)) nin0)))
      have B0 : SB Z h140 a1 n b115 (20 * 0) := by
        rw [show (20 * 0 : Int32) = 0 by decide]
        refine ⟨f255, f257, f259, ?_, f263⟩
        rw [← sq0.1]; exact f261
      have f264 := (E132.keep K140)
      have f265 := (F0_132.keep K140 (ninS (nne (by have q := nlt F0_132.lt; omega)) (ninS (nne (by have q := nlt F0_132.lt; omega)) nin0)))
      have f266 := (F2_132.keep K140 (ninS (nne (by have q := nlt F2_132.lt; omega)) (ninS (nne (by have q := nlt F2_132.lt; omega)) nin0)))
      have f267 := (F3_132.keep K140 (ninS (nne (by have q := nlt F3_132.lt; omega)) (ninS (nne (by have q := nlt F3_132.lt; omega)) nin0)))
      have f268 := (F4_132.keep K140 (ninS (nne (by have q := nlt F4_132.lt; omega)) (ninS (nne (by have q := nlt F4_132.lt; omega)) nin0)))
      have B1 : SB Z h140 a1 n b132 (20 * 1) := by
        rw [show (20 * 1 : Int32) = 20 by decide]
        refine ⟨f264, f265, f266, ?_, f268⟩
        rw [← sq20.1]; exact f267
      have hB : ∀ p : Int32, ¬ p < 0 → p < exP n → ∃ b : Addr, (((vs121.set (Int32.toNatClampNeg 0) (.ref b115)).set (Int32.toNatClampNeg 1) (.ref b132))).getD p.toNatClampNeg .null = .ref b ∧ SB Z h140 a1 n b (20 * p) := by
        intro p q0 q1
        rw [ex] at q1
        have q2 : p = 0 ∨ p = 1 ∨ p = 2 ∨ p = 3 := by simp only [← Int32.toInt_inj, Int32.lt_iff_toInt_lt, Int32.reduceToInt] at *; omega
        rcases q2 with rfl | rfl | rfl | rfl
        · exact ⟨_, by rw [ev121]; rfl, B0⟩
        · exact ⟨_, by rw [ev121]; rfl, B1⟩
        · exact absurd q1 (by decide)
        · exact absurd q1 (by decide)
      exact r_a B W144 rfl rfl rfl (d_prog_12_method_2_51) (by decide) (by decide) ⟨_, rfl, (((((((Keep.refl h0 []).trans K101 all0).trans K106 (allS (Or.inr (by omega)) all0)).trans K115 all0).trans K121 (allS (Or.inr (by omega)) all0)).trans K132 all0).trans K140 (allS (Or.inr (by omega)) (allS (Or.inr (by omega)) all0))), E140, (by rw [ex]; exact Fs140), _, _, _, Fe140, A140, hB⟩
  · skip
    refine g_icmp_n B W125 (d_prog_12_method_2_47) (XT.ii_lt_f hc127) ?_
    show Go p.tables e below _ T125 (mkF m 50 #[.val (.ref a1), .val (.ref b101), .val (.int 20)] [])
    refine g_aload_n B W125 (d_prog_12_method_2_50) rfl rfl ?_
    have ex : exP n = 1 := (own_exP hn0 hn1).2.1 hc127
    have f269 := (E115.keep K121)
    have f270 := (F0_115.keep K121 (ninS (nne (by have q := nlt F0_115.lt; omega)) nin0))
    have f271 := (F2_115.keep K121 (ninS (nne (by have q := nlt F2_115.lt; omega)) nin0))
    have f272 := (F3_115.keep K121 (ninS (nne (by have q := nlt F3_115.lt; omega)) nin0))
    have f273 := (F4_115.keep K121 (ninS (nne (by have q := nlt F4_115.lt; omega)) nin0))
    have B0 : SB Z h121 a1 n b115 (20 * 0) := by
      rw [show (20 * 0 : Int32) = 0 by decide]
      refine ⟨f269, f270, f271, ?_, f273⟩
      rw [← sq0.1]; exact f272
    have hB : ∀ p : Int32, ¬ p < 0 → p < exP n → ∃ b : Addr, ((vs121.set (Int32.toNatClampNeg 0) (.ref b115))).getD p.toNatClampNeg .null = .ref b ∧ SB Z h121 a1 n b (20 * p) := by
      intro p q0 q1
      rw [ex] at q1
      have q2 : p = 0 ∨ p = 1 ∨ p = 2 ∨ p = 3 := by simp only [← Int32.toInt_inj, Int32.lt_iff_toInt_lt, Int32.reduceToInt] at *; omega
      rcases q2 with rfl | rfl | rfl | rfl
      · exact ⟨_, by rw [ev121]; rfl, B0⟩
      · exact absurd q1 (by decide)
      · exact absurd q1 (by decide)
      · exact absurd q1 (by decide)
    exact r_a B W125 rfl rfl rfl (d_prog_12_method_2_51) (by decide) (by decide) ⟨_, rfl, (((((Keep.refl h0 []).trans K101 all0).trans K106 (allS (Or.inr (by omega)) all0)).trans K115 all0).trans K121 (allS (Or.inr (by omega)) all0)), E121, (by rw [ex]; exact Fs121), _, _, _, Fe121, A121, hB⟩
theorem own_ne0 {y : Int32} (h : ¬ y < 1) : y ≠ 0 ∧ 0 < y := by
  constructor
  · rintro rfl; exact h (by decide)
  · simp only [Int32.lt_iff_toInt_lt, Int32.reduceToInt] at *; omega
theorem own_lt10 {p y : Int32} (h : p < y) (hy : y < 5) : p < 10 := by simp only [Int32.lt_iff_toInt_lt, Int32.reduceToInt] at *; omega
theorem own_pos {e : Int32} (h : ¬ e < 0) (hz : ¬ e = 0) : 0 < e := by simp only [← Int32.toInt_inj, Int32.lt_iff_toInt_lt, Int32.reduceToInt] at *; omega
theorem own_pos2 {x n : Int32} (h : ¬ x < 0 ∧ x < n) : 0 < n := by simp only [Int32.lt_iff_toInt_lt, Int32.reduceToInt] at *; omega
theorem own_pn {n : Int32} (h : 0 < n) (q : n = 0) : False := by subst q; exact absurd h (by decide)
theorem own_ltcap {x n : Int32} (h : ¬ x < 0 ∧ x < n) (h1 : n < 64) : ¬ x < 0 ∧ x < capI n := by
  have q := (own_cap (own_pos2 h) h1).1
  simp only [Int32.lt_iff_toInt_lt, Int32.reduceToInt] at *; omega
theorem own_box {Z : State} {vs : List Value} {c x : Int32} (bx : Bxl Z vs c) (h : ¬ x < 0 ∧ x < c) : ∃ b : Addr, vs.getD x.toNatClampNeg .null = .ref b ∧ Exa Z Z.heap b "java/lang/Integer" ∧ Fld Z Z.heap b "java/lang/Integer" "value" "I" (.int x) := by
  obtain ⟨b, e1, e2, e3⟩ := bx x.toNatClampNeg (by simp only [Int32.lt_iff_toInt_lt, Int32.reduceToInt, Int32.toNatClampNeg] at *; omega)
  have e : Int32.ofNat x.toNatClampNeg = x := (back32 h.1).1
  rw [e] at e3; exact ⟨b, e1, e2, e3⟩
theorem ef_pci (m : MethodId) (j : Int32) (sz : Int32) : entryFrame m #[(.int j), (.int sz), .null] 3 = mkF m 0 #[.val (.int j), .val (.int sz), .val .null] [] := by first | (simp [entryFrame, mkF, argsToLocals, Value.category]; done) | rfl
def Q_pci (Z : State) (j : Int32) (sz : Int32) (h0 : Heap) (v : Option Value) (h : Heap) : Prop := v = some (.int j) ∧ h0 = h
set_option maxRecDepth 65536 in
set_option maxHeartbeats 40000000 in
theorem c_pci (l : Launch) (Z : State) (a0 : Array Value) (hw : ∀ d ∈ tables_1, d.before a0 Z = true) (j : Int32) (sz : Int32) (h0 : Heap) (hj : ¬ j < 0 ∧ j < sz) :
    Con l Z (⟨"jdk/internal/util/Preconditions", "checkIndex", "(IILjava/util/function/BiFunction;)I"⟩ : MethodName) jdk_41_method_11_code 3 (Option.some FieldType.int) [] ({ frames := 0, cells := 0, slots := 0, locals := 0 } : Room) #[(.int j), (.int sz), .null] h0 (Q_pci Z j sz h0) := by
  refine Con.of (plainFor_of_name pn_jdk_internal_util_Preconditions) ?_
  intro p e s m below meth c T0 B W0
  refine Go.cast (ef_pci m j sz ) ?_
  refine g_iload_n B W0 (d_jdk_41_method_11_0) rfl ?_
  refine g_if_n B W0 (d_jdk_41_method_11_1) (XT.i0_lt_f hj.1) ?_
  show Go p.tables e below _ T0 (mkF m 4 #[.val (.int j), .val (.int sz), .val .null] [])
  refine g_iload_n B W0 (d_jdk_41_method_11_4) rfl ?_
  refine g_iload_n B W0 (d_jdk_41_method_11_5) rfl ?_
  refine g_icmp_y B W0 (d_jdk_41_method_11_6) (XT.ii_lt_t hj.2) (pc' := 16) (by decide) ?_
  show Go p.tables e below _ T0 (mkF m 16 #[.val (.int j), .val (.int sz), .val .null] [])
  refine g_iload_n B W0 (d_jdk_41_method_11_16) rfl ?_
  exact r_i B W0 (d_jdk_41_method_11_17) (by decide) (by decide) ⟨rfl, rfl⟩
theorem ef_oci (m : MethodId) (j : Int32) (sz : Int32) : entryFrame m #[(.int j), (.int sz)] 2 = mkF m 0 #[.val (.int j), .val (.int sz)] [] := by first | (simp [entryFrame, mkF, argsToLocals, Value.category]; done) | rfl
def Q_oci (Z : State) (j : Int32) (sz : Int32) (h0 : Heap) (v : Option Value) (h : Heap) : Prop := v = some (.int j) ∧ h0 = h
set_option maxRecDepth 65536 in
set_option maxHeartbeats 40000000 in
theorem c_oci (l : Launch) (Z : State) (a0 : Array Value) (hw : ∀ d ∈ tables_1, d.before a0 Z = true) (j : Int32) (sz : Int32) (h0 : Heap) (hj : ¬ j < 0 ∧ j < sz) :
    Con l Z (⟨"java/util/Objects", "checkIndex", "(II)I"⟩ : MethodName) jdk_31_method_17_code 2 (Option.some FieldType.int) [] ({ frames := 1, cells := 0, slots := 0, locals := 14 } : Room) #[(.int j), (.int sz)] h0 (Q_oci Z j sz h0) := by
  refine Con.of (plainFor_of_name pn_java_util_Objects) ?_
  intro p e s m below meth c T0 B W0
  refine Go.cast (ef_oci m j sz ) ?_
  refine g_iload_n B W0 (d_jdk_31_method_17_0) rfl ?_
  refine g_iload_n B W0 (d_jdk_31_method_17_1) rfl ?_
  refine g_aconst_null B W0 (d_jdk_31_method_17_2)  ?_
  obtain ⟨T101, h101, v101, W101, Q101, st101⟩ := x_static B W0 [(.int j), (.int sz), .null] (c_pci l Z a0 hw j sz h0 hj) (d_jdk_31_method_17_3) (tw hw 130 rfl) (tw hw 131 rfl) (tw hw 132 rfl) (tw hw 133 rfl) (by decide) (lenOf pd__IILjava_util_function_BiFunction__I rfl) #[.val (.int j), .val (.int sz)] [] rfl 0 rfl (by decide) (by decide) (by decide) (by decide)
  obtain ⟨rfl, rfl⟩ := Q101
  refine st101 _ ?_
  exact r_i B W101 (d_jdk_31_method_17_6) (by decide) (by decide) ⟨rfl, rfl⟩
theorem ef_elData (m : MethodId) (a1 : Addr) (j : Int32) (ea : Addr) (kA : ClassId) (z : Int32) (vs : List Value) (bb : Addr) : entryFrame m #[(.ref a1), (.int j)] 2 = mkF m 0 #[.val (.ref a1), .val (.int j)] [] := by first | (simp [entryFrame, mkF, argsToLocals, Value.category]; done) | rfl
def Q_elData (Z : State) (a1 : Addr) (j : Int32) (ea : Addr) (kA : ClassId) (z : Int32) (vs : List Value) (bb : Addr) (h0 : Heap) (v : Option Value) (h : Heap) : Prop := v = some (.ref bb) ∧ h0 = h
set_option maxRecDepth 65536 in
set_option maxHeartbeats 40000000 in
theorem c_elData (l : Launch) (Z : State) (a0 : Array Value) (hw : ∀ d ∈ tables_1, d.before a0 Z = true) (a1 : Addr) (j : Int32) (ea : Addr) (kA : ClassId) (z : Int32) (vs : List Value) (bb : Addr) (h0 : Heap) (F2 : Fld Z h0 a1 "java/util/ArrayList" "elementData" "[Ljava/lang/Object;" (.ref ea)) (A1 : Arv Z h0 ea kA (.object "java/lang/Object") z vs .null) (hjz : ¬ j < 0 ∧ j < z) (hv : vs.getD j.toNatClampNeg .null = .ref bb) :
    Con l Z (⟨"java/util/ArrayList", "elementData", "(I)Ljava/lang/Object;"⟩ : MethodName) jdk_38_method_18_code 2 (Option.some (FieldType.object "java/lang/Object")) [] ({ frames := 0, cells := 0, slots := 0, locals := 0 } : Room) #[(.ref a1), (.int j)] h0 (Q_elData Z a1 j ea kA z vs bb h0) := by
  refine Con.of (plainFor_of_name pn_java_util_ArrayList) ?_
  intro p e s m below meth c T0 B W0
  refine Go.cast (ef_elData m a1 j ea kA z vs bb ) ?_
  refine g_aload_n B W0 (d_jdk_38_method_18_0) rfl rfl ?_
  obtain ⟨T101, W101, st101⟩ := x_get B W0 (host := "") (d_jdk_38_method_18_1) (Or.inl (tw hw 24 rfl)) Via.refl F2 #[.val (.ref a1), .val (.int j)] []
  refine st101 _ ?_
  refine g_iload_n B W101 (d_jdk_38_method_18_4) rfl ?_
  refine g_aaloadV B W101 (d_jdk_38_method_18_5) A1 rfl hjz hv ?_
  show Go p.tables e below _ T101 (mkF m 6 #[.val (.ref a1), .val (.int j)] [(.ref bb)])
  exact r_a B W101 rfl rfl rfl (d_jdk_38_method_18_6) (by decide) (by decide) ⟨rfl, rfl⟩
theorem ef_alGet (m : MethodId) (a1 : Addr) (j : Int32) (sz : Int32) (ea : Addr) (kA : ClassId) (z : Int32) (vs : List Value) (bb : Addr) : entryFrame m #[(.ref a1), (.int j)] 2 = mkF m 0 #[.val (.ref a1), .val (.int j)] [] := by first | (simp [entryFrame, mkF, argsToLocals, Value.category]; done) | rfl
def Q_alGet (Z : State) (a1 : Addr) (j : Int32) (sz : Int32) (ea : Addr) (kA : ClassId) (z : Int32) (vs : List Value) (bb : Addr) (h0 : Heap) (v : Option Value) (h : Heap) : Prop := v = some (.ref bb) ∧ h0 = h
set_option maxRecDepth 65536 in
set_option maxHeartbeats 40000000 in
theorem c_alGet (l : Launch) (Z : State) (a0 : Array Value) (hw : ∀ d ∈ tables_1, d.before a0 Z = true) (a1 : Addr) (j : Int32) (sz : Int32) (ea : Addr) (kA : ClassId) (z : Int32) (vs : List Value) (bb : Addr) (h0 : Heap) (E1 : Exa Z h0 a1 "java/util/ArrayList") (F1 : Fld Z h0 a1 "java/util/ArrayList" "size" "I" (.int sz)) (F2 : Fld Z h0 a1 "java/util/ArrayList" "elementData" "[Ljava/lang/Object;" (.ref ea)) (A1 : Arv Z h0 ea kA (.object "java/lang/Object") z vs .null) (hj : ¬ j < 0 ∧ j < sz) (hjz : ¬ j < 0 ∧ j < z) (hv : vs.getD j.toNatClampNeg .null = .ref bb) :
    Con l Z (⟨"java/util/ArrayList", "get", "(I)Ljava/lang/Object;"⟩ : MethodName) jdk_38_method_20_code 2 (Option.some (FieldType.object "java/lang/Object")) [] ({ frames := 2, cells := 0, slots := 0, locals := 27 } : Room) #[(.ref a1), (.int j)] h0 (Q_alGet Z a1 j sz ea kA z vs bb h0) := by
  refine Con.of (plainFor_of_name pn_java_util_ArrayList) ?_
  intro p e s m below meth c T0 B W0
  refine Go.cast (ef_alGet m a1 j sz ea kA z vs bb ) ?_
  refine g_iload_n B W0 (d_jdk_38_method_20_0) rfl ?_
  refine g_aload_n B W0 (d_jdk_38_method_20_1) rfl rfl ?_
  obtain ⟨T101, W101, st101⟩ := x_get B W0 (host := "") (d_jdk_38_method_20_2) (Or.inl (tw hw 45 rfl)) Via.refl F1 #[.val (.ref a1), .val (.int j)] [(.int j)]
  refine st101 _ ?_
  obtain ⟨T102, h102, v102, W102, Q102, st102⟩ := x_static B W101 [(.int j), (.int sz)] (c_oci l Z a0 hw j sz h0 hj) (d_jdk_38_method_20_5) (tw hw 126 rfl) (tw hw 127 rfl) (tw hw 128 rfl) (tw hw 129 rfl) (by decide) (lenOf pd__II_I rfl) #[.val (.ref a1), .val (.int j)] [] rfl 0 rfl (by decide) (by decide) (by decide) (by decide)
  obtain ⟨rfl, rfl⟩ := Q102
  refine st102 _ ?_
  refine g_pop B W102 (d_jdk_38_method_20_8) rfl ?_
  refine g_aload_n B W102 (d_jdk_38_method_20_9) rfl rfl ?_
  refine g_iload_n B W102 (d_jdk_38_method_20_10) rfl ?_
  obtain ⟨T103, h103, v103, W103, Q103, st103⟩ := x_virtual B W102 (b := a1) [(.int j)] (c_elData l Z a0 hw a1 j ea kA z vs bb h0 F2 A1 hjz hv) E1 (d_jdk_38_method_20_11) (tw hw 134 rfl) (tw hw 135 rfl) (tw hw 137 rfl) (tw hw 136 rfl) (tw hw 2 rfl) (tw hw 138 rfl) (by decide) (lenOf pd__I_Ljava_lang_Object_ rfl) #[.val (.ref a1), .val (.int j)] [] rfl 0 rfl (by decide) (by decide) (by decide) (by decide)
  obtain ⟨rfl, rfl⟩ := Q103
  refine st103 _ ?_
  exact r_a B W103 rfl rfl rfl (d_jdk_38_method_20_14) (by decide) (by decide) ⟨rfl, rfl⟩
theorem ef_comod (m : MethodId) (a1 : Addr) (rt : Addr) (n : Int32) : entryFrame m #[(.ref a1)] 1 = mkF m 0 #[.val (.ref a1)] [] := by first | (simp [entryFrame, mkF, argsToLocals, Value.category]; done) | rfl
def Q_comod (Z : State) (a1 : Addr) (rt : Addr) (n : Int32) (h0 : Heap) (v : Option Value) (h : Heap) : Prop := v = none ∧ h0 = h
set_option maxRecDepth 65536 in
set_option maxHeartbeats 40000000 in
theorem c_comod (l : Launch) (Z : State) (a0 : Array Value) (hw : ∀ d ∈ tables_1, d.before a0 Z = true) (a1 : Addr) (rt : Addr) (n : Int32) (h0 : Heap) (E1 : Exa Z h0 a1 "java/util/ArrayList$SubList") (G0 : Fld Z h0 a1 "java/util/ArrayList$SubList" "root" "Ljava/util/ArrayList;" (.ref rt)) (G4 : Fld Z h0 a1 "java/util/AbstractList" "modCount" "I" (.int n)) (Fm : Fld Z h0 rt "java/util/AbstractList" "modCount" "I" (.int n)) :
    Con l Z (⟨"java/util/ArrayList$SubList", "checkForComodification", "()V"⟩ : MethodName) jdk_130_method_28_code 1 (Option.none : Option FieldType) [] ({ frames := 0, cells := 0, slots := 0, locals := 0 } : Room) #[(.ref a1)] h0 (Q_comod Z a1 rt n h0) := by
  refine Con.of (plainFor_of_name pn_java_util_ArrayList_SubList) ?_
  intro p e s m below meth c T0 B W0
  refine Go.cast (ef_comod m a1 rt n ) ?_
  refine g_aload_n B W0 (d_jdk_130_method_28_0) rfl rfl ?_
  obtain ⟨T101, W101, st101⟩ := x_get B W0 (host := "") (d_jdk_130_method_28_1) (Or.inl (tw hw 74 rfl)) Via.refl G0 #[.val (.ref a1)] []
  refine st101 _ ?_
  obtain ⟨T102, W102, st102⟩ := x_get B W101 (host := "") (d_jdk_130_method_28_4) (Or.inl (tw hw 82 rfl)) (Via.of (tw hw 83 rfl)) Fm #[.val (.ref a1)] []
  refine st102 _ ?_
  refine g_aload_n B W102 (d_jdk_130_method_28_7) rfl rfl ?_
  obtain ⟨T103, W103, st103⟩ := x_get B W102 (host := "") (d_jdk_130_method_28_8) (Or.inl (tw hw 84 rfl)) (Via.of (tw hw 85 rfl)) G4 #[.val (.ref a1)] [(.int n)]
  refine st103 _ ?_
  refine g_icmp_y B W103 (d_jdk_130_method_28_11) (XT.ii_eq_t rfl) (pc' := 22) (by decide) ?_
  show Go p.tables e below _ T103 (mkF m 22 #[.val (.ref a1)] [])
  exact r_v B W103 (d_jdk_130_method_28_22) (by decide) (by decide) ⟨rfl, rfl⟩
theorem ef_subSize (m : MethodId) (a1 : Addr) (rt : Addr) (n : Int32) (sz : Int32) : entryFrame m #[(.ref a1)] 1 = mkF m 0 #[.val (.ref a1)] [] := by first | (simp [entryFrame, mkF, argsToLocals, Value.category]; done) | rfl
def Q_subSize (Z : State) (a1 : Addr) (rt : Addr) (n : Int32) (sz : Int32) (h0 : Heap) (v : Option Value) (h : Heap) : Prop := v = some (.int sz) ∧ h0 = h
set_option maxRecDepth 65536 in
set_option maxHeartbeats 40000000 in
theorem c_subSize (l : Launch) (Z : State) (a0 : Array Value) (hw : ∀ d ∈ tables_1, d.before a0 Z = true) (a1 : Addr) (rt : Addr) (n : Int32) (sz : Int32) (h0 : Heap) (E1 : Exa Z h0 a1 "java/util/ArrayList$SubList") (G0 : Fld Z h0 a1 "java/util/ArrayList$SubList" "root" "Ljava/util/ArrayList;" (.ref rt)) (G4 : Fld Z h0 a1 "java/util/AbstractList" "modCount" "I" (.int n)) (Fm : Fld Z h0 rt "java/util/AbstractList" "modCount" "I" (.int n)) (G3 : Fld Z h0 a1 "java/util/ArrayList$SubList" "size" "I" (.int sz)) :
    Con l Z (⟨"java/util/ArrayList$SubList", "size", "()I"⟩ : MethodName) jdk_130_method_5_code 1 (Option.some FieldType.int) [] ({ frames := 1, cells := 0, slots := 0, locals := 12 } : Room) #[(.ref a1)] h0 (Q_subSize Z a1 rt n sz h0) := by
  refine Con.of (plainFor_of_name pn_java_util_ArrayList_SubList) ?_
  intro p e s m below meth c T0 B W0
  refine Go.cast (ef_subSize m a1 rt n sz ) ?_
  refine g_aload_n B W0 (d_jdk_130_method_5_0) rfl rfl ?_
  obtain ⟨T101, h101, v101, W101, Q101, st101⟩ := x_private B W0 (b := a1) [] (c_comod l Z a0 hw a1 rt n h0 E1 G0 G4 Fm) E1 (d_jdk_130_method_5_1) (tw hw 147 rfl) (tw hw 148 rfl) (tw hw 150 rfl) (tw hw 149 rfl) (tw hw 65 rfl) (tw hw 151 rfl) (by decide) (lenOf pd___V rfl) #[.val (.ref a1)] [] rfl 0 rfl (by decide) (by decide) (by decide) (by decide)
  obtain ⟨rfl, rfl⟩ := Q101
  refine st101 _ ?_
  refine g_aload_n B W101 (d_jdk_130_method_5_4) rfl rfl ?_
  obtain ⟨T102, W102, st102⟩ := x_get B W101 (host := "") (d_jdk_130_method_5_5) (Or.inl (tw hw 80 rfl)) Via.refl G3 #[.val (.ref a1)] []
  refine st102 _ ?_
  exact r_i B W102 (d_jdk_130_method_5_8) (by decide) (by decide) ⟨rfl, rfl⟩
theorem ef_subGet (m : MethodId) (a1 : Addr) (rt : Addr) (n : Int32) (j : Int32) (sz : Int32) (o : Int32) (ea : Addr) (kA : ClassId) (z : Int32) (vs : List Value) (bb : Addr) : entryFrame m #[(.ref a1), (.int j)] 2 = mkF m 0 #[.val (.ref a1), .val (.int j)] [] := by first | (simp [entryFrame, mkF, argsToLocals, Value.category]; done) | rfl
def Q_subGet (Z : State) (a1 : Addr) (rt : Addr) (n : Int32) (j : Int32) (sz : Int32) (o : Int32) (ea : Addr) (kA : ClassId) (z : Int32) (vs : List Value) (bb : Addr) (h0 : Heap) (v : Option Value) (h : Heap) : Prop := v = some (.ref bb) ∧ h0 = h
set_option maxRecDepth 65536 in
set_option maxHeartbeats 40000000 in
theorem c_subGet (l : Launch) (Z : State) (a0 : Array Value) (hw : ∀ d ∈ tables_1, d.before a0 Z = true) (a1 : Addr) (rt : Addr) (n : Int32) (j : Int32) (sz : Int32) (o : Int32) (ea : Addr) (kA : ClassId) (z : Int32) (vs : List Value) (bb : Addr) (h0 : Heap) (E1 : Exa Z h0 a1 "java/util/ArrayList$SubList") (G0 : Fld Z h0 a1 "java/util/ArrayList$SubList" "root" "Ljava/util/ArrayList;" (.ref rt)) (G4 : Fld Z h0 a1 "java/util/AbstractList" "modCount" "I" (.int n)) (Fm : Fld Z h0 rt "java/util/AbstractList" "modCount" "I" (.int n)) (G3 : Fld Z h0 a1 "java/util/ArrayList$SubList" "size" "I" (.int sz)) (G2 : Fld Z h0 a1 "java/util/ArrayList$SubList" "offset" "I" (.int o)) (E2 : Exa Z h0 rt "java/util/ArrayList") (F2 : Fld Z h0 rt "java/util/ArrayList" "elementData" "[Ljava/lang/Object;" (.ref ea)) (A1 : Arv Z h0 ea kA (.object "java/lang/Object") z vs .null) (hj : ¬ j < 0 ∧ j < sz) (hjz : ¬ o + j < 0 ∧ o + j < z) (hv : vs.getD (o + j).toNatClampNeg .null = .ref bb) :
    Con l Z (⟨"java/util/ArrayList$SubList", "get", "(I)Ljava/lang/Object;"⟩ : MethodName) jdk_130_method_4_code 2 (Option.some (FieldType.object "java/lang/Object")) [] ({ frames := 2, cells := 0, slots := 0, locals := 27 } : Room) #[(.ref a1), (.int j)] h0 (Q_subGet Z a1 rt n j sz o ea kA z vs bb h0) := by
  refine Con.of (plainFor_of_name pn_java_util_ArrayList_SubList) ?_
  intro p e s m below meth c T0 B W0
  refine Go.cast (ef_subGet m a1 rt n j sz o ea kA z vs bb ) ?_
  refine g_iload_n B W0 (d_jdk_130_method_4_0) rfl ?_
  refine g_aload_n B W0 (d_jdk_130_method_4_1) rfl rfl ?_
  obtain ⟨T101, W101, st101⟩ := x_get B W0 (host := "") (d_jdk_130_method_4_2) (Or.inl (tw hw 80 rfl)) Via.refl G3 #[.val (.ref a1), .val (.int j)] [(.int j)]
  refine st101 _ ?_
  obtain ⟨T102, h102, v102, W102, Q102, st102⟩ := x_static B W101 [(.int j), (.int sz)] (c_oci l Z a0 hw j sz h0 hj) (d_jdk_130_method_4_5) (tw hw 168 rfl) (tw hw 127 rfl) (tw hw 128 rfl) (tw hw 129 rfl) (by decide) (lenOf pd__II_I rfl) #[.val (.ref a1), .val (.int j)] [] rfl 0 rfl (by decide) (by decide) (by decide) (by decide)
  obtain ⟨rfl, rfl⟩ := Q102
  refine st102 _ ?_
  refine g_pop B W102 (d_jdk_130_method_4_8) rfl ?_
  refine g_aload_n B W102 (d_jdk_130_method_4_9) rfl rfl ?_
  obtain ⟨T103, h103, v103, W103, Q103, st103⟩ := x_private B W102 (b := a1) [] (c_comod l Z a0 hw a1 rt n h0 E1 G0 G4 Fm) E1 (d_jdk_130_method_4_10) (tw hw 147 rfl) (tw hw 148 rfl) (tw hw 150 rfl) (tw hw 149 rfl) (tw hw 65 rfl) (tw hw 151 rfl) (by decide) (lenOf pd___V rfl) #[.val (.ref a1), .val (.int j)] [] rfl 0 rfl (by decide) (by decide) (by decide) (by decide)
  obtain ⟨rfl, rfl⟩ := Q103
  refine st103 _ ?_
  refine g_aload_n B W103 (d_jdk_130_method_4_13) rfl rfl ?_
  obtain ⟨T104, W104, st104⟩ := x_get B W103 (host := "") (d_jdk_130_method_4_14) (Or.inl (tw hw 74 rfl)) Via.refl G0 #[.val (.ref a1), .val (.int j)] []
  refine st104 _ ?_
  refine g_aload_n B W104 (d_jdk_130_method_4_17) rfl rfl ?_
  obtain ⟨T105, W105, st105⟩ := x_get B W104 (host := "") (d_jdk_130_method_4_18) (Or.inl (tw hw 78 rfl)) Via.refl G2 #[.val (.ref a1), .val (.int j)] [(.ref rt)]
  refine st105 _ ?_
  refine g_iload_n B W105 (d_jdk_130_method_4_21) rfl ?_
  refine g_iadd B W105 (d_jdk_130_method_4_22)  ?_
  obtain ⟨T106, h106, v106, W106, Q106, st106⟩ := x_virtual B W105 (b := rt) [(.int (o + j))] (c_elData l Z a0 hw rt (o + j) ea kA z vs bb h0 F2 A1 hjz hv) E2 (d_jdk_130_method_4_23) (tw hw 169 rfl) (tw hw 135 rfl) (tw hw 137 rfl) (tw hw 136 rfl) (tw hw 2 rfl) (tw hw 138 rfl) (by decide) (lenOf pd__I_Ljava_lang_Object_ rfl) #[.val (.ref a1), .val (.int j)] [] rfl 0 rfl (by decide) (by decide) (by decide) (by decide)
  obtain ⟨rfl, rfl⟩ := Q106
  refine st106 _ ?_
  exact r_a B W106 rfl rfl rfl (d_jdk_130_method_4_26) (by decide) (by decide) ⟨rfl, rfl⟩
theorem ef_intValue (m : MethodId) (a1 : Addr) (p2 : Int32) : entryFrame m #[(.ref a1)] 1 = mkF m 0 #[.val (.ref a1)] [] := by first | (simp [entryFrame, mkF, argsToLocals, Value.category]; done) | rfl
def Q_intValue (Z : State) (a1 : Addr) (p2 : Int32) (h0 : Heap) (v : Option Value) (h : Heap) : Prop := v = some (.int p2) ∧ h0 = h
set_option maxRecDepth 65536 in
set_option maxHeartbeats 40000000 in
theorem c_intValue (l : Launch) (Z : State) (a0 : Array Value) (hw : ∀ d ∈ tables_1, d.before a0 Z = true) (a1 : Addr) (p2 : Int32) (h0 : Heap) (F1 : Fld Z h0 a1 "java/lang/Integer" "value" "I" (.int p2)) :
    Con l Z (⟨"java/lang/Integer", "intValue", "()I"⟩ : MethodName) jdk_33_method_27_code 1 (Option.some FieldType.int) [] ({ frames := 0, cells := 0, slots := 0, locals := 0 } : Room) #[(.ref a1)] h0 (Q_intValue Z a1 p2 h0) := by
  refine Con.of (plainFor_of_name pn_java_lang_Integer) ?_
  intro p e s m below meth c T0 B W0
  refine Go.cast (ef_intValue m a1 p2 ) ?_
  refine g_aload_n B W0 (d_jdk_33_method_27_0) rfl rfl ?_
  obtain ⟨T101, W101, st101⟩ := x_get B W0 (host := "") (d_jdk_33_method_27_1) (Or.inl (tw hw 177 rfl)) Via.refl F1 #[.val (.ref a1)] []
  refine st101 _ ?_
  exact r_i B W101 (d_jdk_33_method_27_4) (by decide) (by decide) ⟨rfl, rfl⟩
theorem ef_law (m : MethodId) (p1 : Int32) (p2 : Int32) (p3 : Int32) (ca : Addr) (cl : Cell) (de : Addr) (dc : Cell) (mo : Addr) : entryFrame m #[(.int p1), (.int p2), (.int p3)] maxLocals = mkF m 0 #[.val (.int p1), .val (.int p2), .val (.int p3), .unset, .unset, .unset, .unset, .unset, .unset, .unset, .unset] [] := by first | (simp [entryFrame, mkF, argsToLocals, Value.category, maxLocals]; done) | rfl
def Q_law (Z : State) (p1 : Int32) (p2 : Int32) (p3 : Int32) (ca : Addr) (cl : Cell) (de : Addr) (dc : Cell) (mo : Addr) (h0 : Heap) (v : Option Value) (h : Heap) : Prop := v = some (.int 1)
set_option maxRecDepth 65536 in
set_option maxHeartbeats 40000000 in
theorem c_law (l : Launch) (Z : State) (a0 : Array Value) (hw : ∀ d ∈ tables_1, d.before a0 Z = true) (ws : List Jvm.Cond) (p1 : Int32) (p2 : Int32) (p3 : Int32) (ca : Addr) (cl : Cell) (de : Addr) (dc : Cell) (mo : Addr) (h0 : Heap) (Sh : Sta Z Z.heap "java/lang/Integer$IntegerCache" "high" "I" (.int 127)) (Sc : Sta Z Z.heap "java/lang/Integer$IntegerCache" "cache" "[Ljava/lang/Integer;" (.ref ca)) (Bx : Bxs Z ca cl "java/lang/Integer" "I" 256 (fun j => .int (j - 128))) (Sde : Sta Z Z.heap "java/util/ArrayList" "DEFAULTCAPACITY_EMPTY_ELEMENTDATA" "[Ljava/lang/Object;" (.ref de)) (Ade : Arr Z Z.heap de dc (.object "java/lang/Object")) (lde : dc.slots.size.toInt32 = 0) (Mo : Mi Z "[Ljava/lang/Object;" mo) :
    Con l Z x code maxLocals ret ws room_1 #[(.int p1), (.int p2), (.int p3)] h0 (Q_law Z p1 p2 p3 ca cl de dc mo h0) := by
  refine Con.of (plainFor_of_name pn_com_example_presswright_presswright_publishing_PagingPagesPinLaw) ?_
  intro p e s m below meth c T0 B W0
  refine Go.cast (ef_law m p1 p2 p3 ca cl de dc mo ) ?_
  have hN := own_n63 p1
  refine g_iload_n B W0 at_0 rfl ?_
  refine g_bipush B W0 at_1 (v := 63) (by decide) ?_
  refine g_iand B W0 at_3  ?_
  refine g_istore_n B W0 at_4  (l' := #[.val (.int p1), .val (.int p2), .val (.int p3), .val (.int (p1 &&& 63)), .unset, .unset, .unset, .unset, .unset, .unset, .unset]) rfl ?_
  obtain ⟨T101, h101, b101, gb101, W101, K101, E101, D101, st101⟩ := x_new B W0 at_5 (tw hw 0 rfl) (tw hw 1 rfl) (tw hw 2 rfl) (by decide) (by decide) #[.val (.int p1), .val (.int p2), .val (.int p3), .val (.int (p1 &&& 63)), .unset, .unset, .unset, .unset, .unset, .unset, .unset] []
  have l101 := nlt E101.lt
  have z101 := W0.size
  refine st101 _ ?_
  have s102 := K101.1
  have f103 : Fld Z h101 b101 "java/util/AbstractList" "modCount" "I" (.int 0) := D101 (Or.inl (tw hw 22 rfl)) (ty := .int) (by decide)
  have f104 : Fld Z h101 b101 "java/util/ArrayList" "elementData" "[Ljava/lang/Object;" .null := D101 (Or.inl (tw hw 25 rfl)) (ty := (.array (.object "java/lang/Object"))) (by decide)
  have f105 : Fld Z h101 b101 "java/util/ArrayList" "size" "I" (.int 0) := D101 (Or.inl (tw hw 46 rfl)) (ty := .int) (by decide)
  refine g_dup B W101 at_8 rfl ?_
  obtain ⟨T106, h106, v106, W106, Q106, st106⟩ := x_special B W101 (b := b101) [] (c_alInit l Z a0 hw b101 de dc h101 E101 f105 f104 f103 (by omega) Sde Ade lde) at_9 rfl (tw hw 3 rfl) (tw hw 4 rfl) (tw hw 2 rfl) (tw hw 5 rfl) (by decide) (lenOf pd___V rfl) #[.val (.int p1), .val (.int p2), .val (.int p3), .val (.int (p1 &&& 63)), .unset, .unset, .unset, .unset, .unset, .unset, .unset] [(.ref b101)] rfl 1 rfl (by decide) (by decide) (by decide) (by decide)
  obtain ⟨rfl, K106, E106, Fs106, Fe106, Fm106⟩ := Q106
  have s107 := K106.1
  refine st106 _ ?_
  refine g_astore B W106 at_12 rfl (l' := #[.val (.int p1), .val (.int p2), .val (.int p3), .val (.int (p1 &&& 63)), .val (.ref b101), .unset, .unset, .unset, .unset, .unset, .unset]) rfl ?_
  have L108 : LI Z h106 b101 de (mn 0 (p1 &&& 63)) := (own_mn0 hN.1).symm ▸ ⟨E106, Fs106, Fm106, Or.inl ⟨rfl, Fe106⟩⟩
  refine g_aload B W106 at_14 rfl rfl ?_
  refine g_iload_n B W106 at_16 rfl ?_
  refine g_iconst B W106 at_17 (v := 0) (by decide) ?_
  obtain ⟨T109, h109, v109, W109, Q109, st109⟩ := x_static B W106 [(.ref b101), (.int (p1 &&& 63)), (.int 0)] (c_fill0 l Z a0 hw b101 (p1 &&& 63) ca cl de dc mo h106 L108 (by omega) Sh Sc Bx Sde Ade lde Mo) at_18 (tw hw 26 rfl) (tw hw 27 rfl) (tw hw 28 rfl) (tw hw 29 rfl) (by decide) (lenOf pd__Ljava_util_ArrayList_II_V rfl) #[.val (.int p1), .val (.int p2), .val (.int p3), .val (.int (p1 &&& 63)), .val (.ref b101), .unset, .unset, .unset, .unset, .unset, .unset] [] rfl 0 rfl (by decide) (by decide) (by decide) (by decide)
  obtain ⟨rfl, P109⟩ := Q109
  refine st109 _ ?_
  refine g_aload B W109 at_21 rfl rfl ?_
  refine g_iload_n B W109 at_23 rfl ?_
  refine g_bipush B W109 at_24 (v := 8) (by decide) ?_
  obtain ⟨T110, h110, v110, W110, Q110, st110⟩ := x_static B W109 [(.ref b101), (.int (p1 &&& 63)), (.int 8)] (c_fill8 l Z a0 hw b101 (p1 &&& 63) ca cl de dc mo h109 P109 (by omega) Sh Sc Bx Sde Ade lde Mo) at_26 (tw hw 26 rfl) (tw hw 27 rfl) (tw hw 28 rfl) (tw hw 29 rfl) (by decide) (lenOf pd__Ljava_util_ArrayList_II_V rfl) #[.val (.int p1), .val (.int p2), .val (.int p3), .val (.int (p1 &&& 63)), .val (.ref b101), .unset, .unset, .unset, .unset, .unset, .unset] [] rfl 0 rfl (by decide) (by decide) (by decide) (by decide)
  obtain ⟨rfl, P110⟩ := Q110
  refine st110 _ ?_
  refine g_aload B W110 at_29 rfl rfl ?_
  refine g_iload_n B W110 at_31 rfl ?_
  refine g_bipush B W110 at_32 (v := 16) (by decide) ?_
  obtain ⟨T111, h111, v111, W111, Q111, st111⟩ := x_static B W110 [(.ref b101), (.int (p1 &&& 63)), (.int 16)] (c_fill16 l Z a0 hw b101 (p1 &&& 63) ca cl de dc mo h110 P110 (by omega) Sh Sc Bx Sde Ade lde Mo) at_34 (tw hw 26 rfl) (tw hw 27 rfl) (tw hw 28 rfl) (tw hw 29 rfl) (by decide) (lenOf pd__Ljava_util_ArrayList_II_V rfl) #[.val (.int p1), .val (.int p2), .val (.int p3), .val (.int (p1 &&& 63)), .val (.ref b101), .unset, .unset, .unset, .unset, .unset, .unset] [] rfl 0 rfl (by decide) (by decide) (by decide) (by decide)
  obtain ⟨rfl, P111⟩ := Q111
  refine st111 _ ?_
  refine g_aload B W111 at_37 rfl rfl ?_
  refine g_iload_n B W111 at_39 rfl ?_
  refine g_bipush B W111 at_40 (v := 24) (by decide) ?_
  obtain ⟨T112, h112, v112, W112, Q112, st112⟩ := x_static B W111 [(.ref b101), (.int (p1 &&& 63)), (.int 24)] (c_fill24 l Z a0 hw b101 (p1 &&& 63) ca cl de dc mo h111 P111 (by omega) Sh Sc Bx Sde Ade lde Mo) at_42 (tw hw 26 rfl) (tw hw 27 rfl) (tw hw 28 rfl) (tw hw 29 rfl) (by decide) (lenOf pd__Ljava_util_ArrayList_II_V rfl) #[.val (.int p1), .val (.int p2), .val (.int p3), .val (.int (p1 &&& 63)), .val (.ref b101), .unset, .unset, .unset, .unset, .unset, .unset] [] rfl 0 rfl (by decide) (by decide) (by decide) (by decide)
  obtain ⟨rfl, P112⟩ := Q112
  refine st112 _ ?_
  refine g_aload B W112 at_45 rfl rfl ?_
  refine g_iload_n B W112 at_47 rfl ?_
  refine g_bipush B W112 at_48 (v := 32) (by decide) ?_
  obtain ⟨T113, h113, v113, W113, Q113, st113⟩ := x_static B W112 [(.ref b101), (.int (p1 &&& 63)), (.int 32)] (c_fill32 l Z a0 hw b101 (p1 &&& 63) ca cl de dc mo h112 P112 (by omega) Sh Sc Bx Sde Ade lde Mo) at_50 (tw hw 26 rfl) (tw hw 27 rfl) (tw hw 28 rfl) (tw hw 29 rfl) (by decide) (lenOf pd__Ljava_util_ArrayList_II_V rfl) #[.val (.int p1), .val (.int p2), .val (.int p3), .val (.int (p1 &&& 63)), .val (.ref b101), .unset, .unset, .unset, .unset, .unset, .unset] [] rfl 0 rfl (by decide) (by decide) (by decide) (by decide)
  obtain ⟨rfl, P113⟩ := Q113
  refine st113 _ ?_
  refine g_aload B W113 at_53 rfl rfl ?_
  refine g_iload_n B W113 at_55 rfl ?_
  refine g_bipush B W113 at_56 (v := 40) (by decide) ?_
  obtain ⟨T114, h114, v114, W114, Q114, st114⟩ := x_static B W113 [(.ref b101), (.int (p1 &&& 63)), (.int 40)] (c_fill40 l Z a0 hw b101 (p1 &&& 63) ca cl de dc mo h113 P113 (by omega) Sh Sc Bx Sde Ade lde Mo) at_58 (tw hw 26 rfl) (tw hw 27 rfl) (tw hw 28 rfl) (tw hw 29 rfl) (by decide) (lenOf pd__Ljava_util_ArrayList_II_V rfl) #[.val (.int p1), .val (.int p2), .val (.int p3), .val (.int (p1 &&& 63)), .val (.ref b101), .unset, .unset, .unset, .unset, .unset, .unset] [] rfl 0 rfl (by decide) (by decide) (by decide) (by decide)
  obtain ⟨rfl, P114⟩ := Q114
  refine st114 _ ?_
  refine g_aload B W114 at_61 rfl rfl ?_
  refine g_iload_n B W114 at_63 rfl ?_
  refine g_bipush B W114 at_64 (v := 48) (by decide) ?_
  obtain ⟨T115, h115, v115, W115, Q115, st115⟩ := x_static B W114 [(.ref b101), (.int (p1 &&& 63)), (.int 48)] (c_fill48 l Z a0 hw b101 (p1 &&& 63) ca cl de dc mo h114 P114 (by omega) Sh Sc Bx Sde Ade lde Mo) at_66 (tw hw 26 rfl) (tw hw 27 rfl) (tw hw 28 rfl) (tw hw 29 rfl) (by decide) (lenOf pd__Ljava_util_ArrayList_II_V rfl) #[.val (.int p1), .val (.int p2), .val (.int p3), .val (.int (p1 &&& 63)), .val (.ref b101), .unset, .unset, .unset, .unset, .unset, .unset] [] rfl 0 rfl (by decide) (by decide) (by decide) (by decide)
  obtain ⟨rfl, P115⟩ := Q115
  refine st115 _ ?_
  refine g_aload B W115 at_69 rfl rfl ?_
  refine g_iload_n B W115 at_71 rfl ?_
  refine g_bipush B W115 at_72 (v := 56) (by decide) ?_
  obtain ⟨T116, h116, v116, W116, Q116, st116⟩ := x_static B W115 [(.ref b101), (.int (p1 &&& 63)), (.int 56)] (c_fill56 l Z a0 hw b101 (p1 &&& 63) ca cl de dc mo h115 P115 (by omega) Sh Sc Bx Sde Ade lde Mo) at_74 (tw hw 26 rfl) (tw hw 27 rfl) (tw hw 28 rfl) (tw hw 29 rfl) (by decide) (lenOf pd__Ljava_util_ArrayList_II_V rfl) #[.val (.int p1), .val (.int p2), .val (.int p3), .val (.int (p1 &&& 63)), .val (.ref b101), .unset, .unset, .unset, .unset, .unset, .unset] [] rfl 0 rfl (by decide) (by decide) (by decide) (by decide)
  obtain ⟨rfl, P116⟩ := Q116
  refine st116 _ ?_
  have L117 := P116
  rw [own_mn64 hN.2] at L117
  refine g_aload B W116 at_77 rfl rfl ?_
  obtain ⟨T118, h118, v118, W118, Q118, st118⟩ := x_static B W116 [(.ref b101)] (c_pages l Z a0 hw b101 (p1 &&& 63) de dc h116 L117 hN.1 hN.2 Sde Ade lde) at_79 (tw hw 30 rfl) (tw hw 31 rfl) (tw hw 32 rfl) (tw hw 33 rfl) (by decide) (lenOf pd__Ljava_util_List__Ljava_util_List_ rfl) #[.val (.int p1), .val (.int p2), .val (.int p3), .val (.int (p1 &&& 63)), .val (.ref b101), .unset, .unset, .unset, .unset, .unset, .unset] [] rfl 0 rfl (by decide) (by decide) (by decide) (by decide)
  obtain ⟨r118, rfl, K118, G118⟩ := Q118
  refine st118 _ ?_
  have L118 := L117.keep K118
  obtain ⟨Eg, Fsg, eag, kAg, vsg, Feg, Ag, hB⟩ := G118
  obtain ⟨El, Fsl, Fml, hL⟩ := L118
  refine g_astore B W118 at_82 rfl (l' := #[.val (.int p1), .val (.int p2), .val (.int p3), .val (.int (p1 &&& 63)), .val (.ref b101), .val (.ref r118), .unset, .unset, .unset, .unset, .unset]) rfl ?_
  refine g_iload_n B W118 at_84 rfl ?_
  suffices q : Go p.tables e below (Jvm.OwnK.Out Z s (Q_law Z p1 p2 p3 ca cl de dc mo h0) room_1.cells room_1.slots) T118 (mkF m 99 #[.val (.int p1), .val (.int p2), .val (.int p3), .val (.int (p1 &&& 63)), .val (.ref b101), .val (.ref r118), .unset, .unset, .unset, .unset, .unset] [(.int (exP (p1 &&& 63)))]) by
    by_cases hc119 : (p1 &&& 63) = 0
    · skip
      refine g_if_n B W118 at_85 (XT.i0_ne_f hc119) ?_
      show Go p.tables e below _ T118 (mkF m 88 #[.val (.int p1), .val (.int p2), .val (.int p3), .val (.int (p1 &&& 63)), .val (.ref b101), .val (.ref r118), .unset, .unset, .unset, .unset, .unset] [])
      refine g_iconst B W118 at_88 (v := 1) (by decide) ?_
      refine g_goto B W118 at_89 (pc' := 99) (by decide) ?_
      show Go p.tables e below _ T118 (mkF m 99 #[.val (.int p1), .val (.int p2), .val (.int p3), .val (.int (p1 &&& 63)), .val (.ref b101), .val (.ref r118), .unset, .unset, .unset, .unset, .unset] [(.int 1)])
      exact own_gc (show exP (p1 &&& 63) = 1 from if_pos hc119) q
    · skip
      refine g_if_y B W118 at_85 (XT.i0_ne_t hc119) (pc' := 92) (by decide) ?_
      show Go p.tables e below _ T118 (mkF m 92 #[.val (.int p1), .val (.int p2), .val (.int p3), .val (.int (p1 &&& 63)), .val (.ref b101), .val (.ref r118), .unset, .unset, .unset, .unset, .unset] [])
      refine g_iload_n B W118 at_92 rfl ?_
      refine g_bipush B W118 at_93 (v := 19) (by decide) ?_
      refine g_iadd B W118 at_95  ?_
      refine g_bipush B W118 at_96 (v := 20) (by decide) ?_
      refine g_idiv B W118 at_98 (by decide) ?_
      exact own_gc (show exP (p1 &&& 63) = (((p1 &&& 63) + 19) / 20) from if_neg hc119) q
  show Go p.tables e below _ T118 (mkF m 99 #[.val (.int p1), .val (.int p2), .val (.int p3), .val (.int (p1 &&& 63)), .val (.ref b101), .val (.ref r118), .unset, .unset, .unset, .unset, .unset] [(.int (exP (p1 &&& 63)))])
  refine g_istore B W118 at_99  (l' := #[.val (.int p1), .val (.int p2), .val (.int p3), .val (.int (p1 &&& 63)), .val (.ref b101), .val (.ref r118), .val (.int (exP (p1 &&& 63))), .unset, .unset, .unset, .unset]) rfl ?_
  refine g_aload B W118 at_101 rfl rfl ?_
  obtain ⟨T120, h120, v120, W120, Q120, st120⟩ := x_iface B W118 (b := r118) [] (c_alSize l Z a0 hw r118 (exP (p1 &&& 63)) h118 Fsg) Eg at_103 (tw hw 116 rfl) (tw hw 37 rfl) (tw hw 38 rfl) (tw hw 39 rfl) (tw hw 40 rfl) (tw hw 41 rfl) (tw hw 42 rfl) (tw hw 43 rfl) rfl (tw hw 2 rfl) (tw hw 44 rfl) (by decide) (lenOf pd___I rfl) #[.val (.int p1), .val (.int p2), .val (.int p3), .val (.int (p1 &&& 63)), .val (.ref b101), .val (.ref r118), .val (.int (exP (p1 &&& 63))), .unset, .unset, .unset, .unset] [] rfl 0 rfl (by decide) (by decide) (by decide) (by decide)
  obtain ⟨rfl, rfl⟩ := Q120
  refine st120 _ ?_
  refine g_iload B W120 at_108 rfl ?_
  refine g_icmp_y B W120 at_110 (XT.ii_eq_t rfl) (pc' := 115) (by decide) ?_
  show Go p.tables e below _ T120 (mkF m 115 #[.val (.int p1), .val (.int p2), .val (.int p3), .val (.int (p1 &&& 63)), .val (.ref b101), .val (.ref r118), .val (.int (exP (p1 &&& 63))), .unset, .unset, .unset, .unset] [])
  refine g_iload_n B W120 at_115 rfl ?_
  refine g_ldcI B W120 at_116 (tw hw 117 rfl) ?_
  refine g_iand B W120 at_118  ?_
  refine g_iload B W120 at_119 rfl ?_
  refine g_irem B W120 at_121 (own_ne0 (own_exP hN.1 hN.2).1.1).1 ?_
  have hp := own_rem (x := p2) (y := (exP (p1 &&& 63))) (own_ne0 (own_exP hN.1 hN.2).1.1).2
  generalize ((p2 &&& 2147483647) % (exP (p1 &&& 63))) = pp at hp ⊢
  show Go p.tables e below _ T120 (mkF m 122 #[.val (.int p1), .val (.int p2), .val (.int p3), .val (.int (p1 &&& 63)), .val (.ref b101), .val (.ref r118), .val (.int (exP (p1 &&& 63))), .unset, .unset, .unset, .unset] [(.int pp)])
  refine g_istore B W120 at_122  (l' := #[.val (.int p1), .val (.int p2), .val (.int p3), .val (.int (p1 &&& 63)), .val (.ref b101), .val (.ref r118), .val (.int (exP (p1 &&& 63))), .val (.int pp), .unset, .unset, .unset]) rfl ?_
  refine g_aload B W120 at_124 rfl rfl ?_
  refine g_iload B W120 at_126 rfl ?_
  obtain ⟨bq, hvq, Eq, Rq, Oq, Sq, Mq⟩ := hB pp hp.1 hp.2
  obtain ⟨T121, h121, v121, W121, Q121, st121⟩ := x_iface B W120 (b := r118) [(.int pp)] (c_alGet l Z a0 hw r118 pp (exP (p1 &&& 63)) eag kAg 10 vsg bq h118 Eg Fsg Feg Ag hp ⟨hp.1, own_lt10 hp.2 (own_exP hN.1 hN.2).1.2⟩ hvq) Eg at_128 (tw hw 118 rfl) (tw hw 119 rfl) (tw hw 120 rfl) (tw hw 121 rfl) (tw hw 122 rfl) (tw hw 123 rfl) (tw hw 124 rfl) (tw hw 43 rfl) rfl (tw hw 2 rfl) (tw hw 125 rfl) (by decide) (lenOf pd__I_Ljava_lang_Object_ rfl) #[.val (.int p1), .val (.int p2), .val (.int p3), .val (.int (p1 &&& 63)), .val (.ref b101), .val (.ref r118), .val (.int (exP (p1 &&& 63))), .val (.int pp), .unset, .unset, .unset] [] rfl 0 rfl (by decide) (by decide) (by decide) (by decide)
  obtain ⟨rfl, rfl⟩ := Q121
  refine st121 _ ?_
  obtain ⟨T122, W122, st122⟩ := x_castY B W121 at_133 (tw hw 139 rfl) (Ins.of_exa Eq (tw hw 140 rfl)) #[.val (.int p1), .val (.int p2), .val (.int p3), .val (.int (p1 &&& 63)), .val (.ref b101), .val (.ref r118), .val (.int (exP (p1 &&& 63))), .val (.int pp), .unset, .unset, .unset] []
  refine st122 _ ?_
  refine g_astore B W122 at_136 rfl (l' := #[.val (.int p1), .val (.int p2), .val (.int p3), .val (.int (p1 &&& 63)), .val (.ref b101), .val (.ref r118), .val (.int (exP (p1 &&& 63))), .val (.int pp), .val (.ref bq), .unset, .unset]) rfl ?_
  refine g_bipush B W122 at_138 (v := 20) (by decide) ?_
  refine g_iload_n B W122 at_140 rfl ?_
  refine g_bipush B W122 at_141 (v := 20) (by decide) ?_
  refine g_iload B W122 at_143 rfl ?_
  refine g_imul B W122 at_145  ?_
  refine g_isub B W122 at_146  ?_
  obtain ⟨T123, h123, v123, W123, Q123, st123⟩ := x_static B W122 [(.int 20), (.int ((p1 &&& 63) - (20 * pp)))] (c_min l Z a0 hw 20 ((p1 &&& 63) - (20 * pp)) h118) at_147 (tw hw 141 rfl) (tw hw 48 rfl) (tw hw 49 rfl) (tw hw 50 rfl) (by decide) (lenOf pd__II_I rfl) #[.val (.int p1), .val (.int p2), .val (.int p3), .val (.int (p1 &&& 63)), .val (.ref b101), .val (.ref r118), .val (.int (exP (p1 &&& 63))), .val (.int pp), .val (.ref bq), .unset, .unset] [] rfl 0 rfl (by decide) (by decide) (by decide) (by decide)
  obtain ⟨rfl, rfl⟩ := Q123
  refine st123 _ ?_
  refine g_istore B W123 at_150  (l' := #[.val (.int p1), .val (.int p2), .val (.int p3), .val (.int (p1 &&& 63)), .val (.ref b101), .val (.ref r118), .val (.int (exP (p1 &&& 63))), .val (.int pp), .val (.ref bq), .val (.int (mi 20 ((p1 &&& 63) - (20 * pp)))), .unset]) rfl ?_
  refine g_aload B W123 at_152 rfl rfl ?_
  obtain ⟨T124, h124, v124, W124, Q124, st124⟩ := x_iface B W123 (b := bq) [] (c_subSize l Z a0 hw bq b101 (p1 &&& 63) (mi 20 ((p1 &&& 63) - 20 * pp)) h118 Eq Rq Mq Fml Sq) Eq at_154 (tw hw 116 rfl) (tw hw 37 rfl) (tw hw 38 rfl) (tw hw 142 rfl) (tw hw 143 rfl) (tw hw 144 rfl) (tw hw 145 rfl) (tw hw 140 rfl) rfl (tw hw 65 rfl) (tw hw 146 rfl) (by decide) (lenOf pd___I rfl) #[.val (.int p1), .val (.int p2), .val (.int p3), .val (.int (p1 &&& 63)), .val (.ref b101), .val (.ref r118), .val (.int (exP (p1 &&& 63))), .val (.int pp), .val (.ref bq), .val (.int (mi 20 ((p1 &&& 63) - (20 * pp)))), .unset] [] rfl 0 rfl (by decide) (by decide) (by decide) (by decide)
  obtain ⟨rfl, rfl⟩ := Q124
  refine st124 _ ?_
  refine g_iload B W124 at_159 rfl ?_
  refine g_icmp_y B W124 at_161 (XT.ii_eq_t rfl) (pc' := 166) (by decide) ?_
  show Go p.tables e below _ T124 (mkF m 166 #[.val (.int p1), .val (.int p2), .val (.int p3), .val (.int (p1 &&& 63)), .val (.ref b101), .val (.ref r118), .val (.int (exP (p1 &&& 63))), .val (.int pp), .val (.ref bq), .val (.int (mi 20 ((p1 &&& 63) - (20 * pp)))), .unset] [])
  refine g_iload B W124 at_166 rfl ?_
  by_cases hc125 : (mi 20 ((p1 &&& 63) - (20 * pp))) = 0
  · skip
    refine g_if_n B W124 at_168 (XT.i0_ne_f hc125) ?_
    show Go p.tables e below _ T124 (mkF m 171 #[.val (.int p1), .val (.int p2), .val (.int p3), .val (.int (p1 &&& 63)), .val (.ref b101), .val (.ref r118), .val (.int (exP (p1 &&& 63))), .val (.int pp), .val (.ref bq), .val (.int (mi 20 ((p1 &&& 63) - (20 * pp)))), .unset] [])
    refine g_iconst B W124 at_171 (v := 1) (by decide) ?_
    exact r_n B W124 (t := .boolean) rfl (by simp) at_172 (by decide) (by decide) (by show some (Value.int (nar .boolean 1)) = _; rw [nar_b1])
  · skip
    refine g_if_y B W124 at_168 (XT.i0_ne_t hc125) (pc' := 173) (by decide) ?_
    show Go p.tables e below _ T124 (mkF m 173 #[.val (.int p1), .val (.int p2), .val (.int p3), .val (.int (p1 &&& 63)), .val (.ref b101), .val (.ref r118), .val (.int (exP (p1 &&& 63))), .val (.int pp), .val (.ref bq), .val (.int (mi 20 ((p1 &&& 63) - (20 * pp)))), .unset] [])
    have he := own_mi0 hN.1 hN.2 hp
    have hj0 : ¬ (0 : Int32) < 0 ∧ 0 < (mi 20 ((p1 &&& 63) - 20 * pp)) := ⟨by decide, own_pos he hc125⟩
    have hj1 : ¬ ((mi 20 ((p1 &&& 63) - 20 * pp)) - 1) < 0 ∧ ((mi 20 ((p1 &&& 63) - 20 * pp)) - 1) < (mi 20 ((p1 &&& 63) - 20 * pp)) := own_sub1 he hc125
    have hpos := own_pos2 (own_ix64 hN.1 hN.2 hp hj0)
    obtain ⟨q, -⟩ | ⟨-, eal, kAl, vsl, Fel, Al, vll, Ol, Xl, gl, nel, bxl⟩ := hL
    · exact (own_pn hpos q).elim
    refine g_aload B W124 at_173 rfl rfl ?_
    refine g_iconst B W124 at_175 (v := 0) (by decide) ?_
    have hx126 := own_ix64 hN.1 hN.2 hp hj0
    obtain ⟨by126, hv126, Eb126, Fb126⟩ := own_box bxl hx126
    obtain ⟨T127, h127, v127, W127, Q127, st127⟩ := x_iface B W124 (b := bq) [(.int 0)] (c_subGet l Z a0 hw bq b101 (p1 &&& 63) 0 (mi 20 ((p1 &&& 63) - 20 * pp)) (20 * pp) eal kAl (capI (p1 &&& 63)) vsl by126 h118 Eq Rq Mq Fml Sq Oq El Fel Al hj0 (own_ltcap hx126 hN.2) hv126) Eq at_176 (tw hw 118 rfl) (tw hw 119 rfl) (tw hw 120 rfl) (tw hw 163 rfl) (tw hw 164 rfl) (tw hw 165 rfl) (tw hw 166 rfl) (tw hw 140 rfl) rfl (tw hw 65 rfl) (tw hw 167 rfl) (by decide) (lenOf pd__I_Ljava_lang_Object_ rfl) #[.val (.int p1), .val (.int p2), .val (.int p3), .val (.int (p1 &&& 63)), .val (.ref b101), .val (.ref r118), .val (.int (exP (p1 &&& 63))), .val (.int pp), .val (.ref bq), .val (.int (mi 20 ((p1 &&& 63) - (20 * pp)))), .unset] [] rfl 0 rfl (by decide) (by decide) (by decide) (by decide)
    obtain ⟨rfl, rfl⟩ := Q127
    refine st127 _ ?_
    obtain ⟨T128, W128, st128⟩ := x_castY B W127 at_181 (tw hw 170 rfl) (Ins.self (Eb126.ext W127.old.2)) #[.val (.int p1), .val (.int p2), .val (.int p3), .val (.int (p1 &&& 63)), .val (.ref b101), .val (.ref r118), .val (.int (exP (p1 &&& 63))), .val (.int pp), .val (.ref bq), .val (.int (mi 20 ((p1 &&& 63) - (20 * pp)))), .unset] []
    refine st128 _ ?_
    obtain ⟨T129, h129, v129, W129, Q129, st129⟩ := x_virtual B W128 (b := by126) [] (c_intValue l Z a0 hw by126 (20 * pp + 0) h118 (Fb126.ext W128.old.2)) (Eb126.ext W128.old.2) at_184 (tw hw 172 rfl) (tw hw 173 rfl) (tw hw 175 rfl) (tw hw 174 rfl) (tw hw 154 rfl) (tw hw 176 rfl) (by decide) (lenOf pd___I rfl) #[.val (.int p1), .val (.int p2), .val (.int p3), .val (.int (p1 &&& 63)), .val (.ref b101), .val (.ref r118), .val (.int (exP (p1 &&& 63))), .val (.int pp), .val (.ref bq), .val (.int (mi 20 ((p1 &&& 63) - (20 * pp)))), .unset] [] rfl 0 rfl (by decide) (by decide) (by decide) (by decide)
    obtain ⟨rfl, rfl⟩ := Q129
    refine st129 _ ?_
    refine g_bipush B W129 at_187 (v := 20) (by decide) ?_
    refine g_iload B W129 at_189 rfl ?_
    refine g_imul B W129 at_191  ?_
    refine g_icmp_y B W129 at_192 (XT.ii_eq_t (Int32.add_zero _)) (pc' := 197) (by decide) ?_
    show Go p.tables e below _ T129 (mkF m 197 #[.val (.int p1), .val (.int p2), .val (.int p3), .val (.int (p1 &&& 63)), .val (.ref b101), .val (.ref r118), .val (.int (exP (p1 &&& 63))), .val (.int pp), .val (.ref bq), .val (.int (mi 20 ((p1 &&& 63) - (20 * pp)))), .unset] [])
    refine g_aload B W129 at_197 rfl rfl ?_
    refine g_iload B W129 at_199 rfl ?_
    refine g_iconst B W129 at_201 (v := 1) (by decide) ?_
    refine g_isub B W129 at_202  ?_
    have hx130 := own_ix64 hN.1 hN.2 hp hj1
    obtain ⟨by130, hv130, Eb130, Fb130⟩ := own_box bxl hx130
    obtain ⟨T131, h131, v131, W131, Q131, st131⟩ := x_iface B W129 (b := bq) [(.int ((mi 20 ((p1 &&& 63) - (20 * pp))) - 1))] (c_subGet l Z a0 hw bq b101 (p1 &&& 63) ((mi 20 ((p1 &&& 63) - (20 * pp))) - 1) (mi 20 ((p1 &&& 63) - 20 * pp)) (20 * pp) eal kAl (capI (p1 &&& 63)) vsl by130 h118 Eq Rq Mq Fml Sq Oq El Fel Al hj1 (own_ltcap hx130 hN.2) hv130) Eq at_203 (tw hw 118 rfl) (tw hw 119 rfl) (tw hw 120 rfl) (tw hw 163 rfl) (tw hw 164 rfl) (tw hw 165 rfl) (tw hw 166 rfl) (tw hw 140 rfl) rfl (tw hw 65 rfl) (tw hw 167 rfl) (by decide) (lenOf pd__I_Ljava_lang_Object_ rfl) #[.val (.int p1), .val (.int p2), .val (.int p3), .val (.int (p1 &&& 63)), .val (.ref b101), .val (.ref r118), .val (.int (exP (p1 &&& 63))), .val (.int pp), .val (.ref bq), .val (.int (mi 20 ((p1 &&& 63) - (20 * pp)))), .unset] [] rfl 0 rfl (by decide) (by decide) (by decide) (by decide)
    obtain ⟨rfl, rfl⟩ := Q131
    refine st131 _ ?_
    obtain ⟨T132, W132, st132⟩ := x_castY B W131 at_208 (tw hw 170 rfl) (Ins.self (Eb130.ext W131.old.2)) #[.val (.int p1), .val (.int p2), .val (.int p3), .val (.int (p1 &&& 63)), .val (.ref b101), .val (.ref r118), .val (.int (exP (p1 &&& 63))), .val (.int pp), .val (.ref bq), .val (.int (mi 20 ((p1 &&& 63) - (20 * pp)))), .unset] []
    refine st132 _ ?_
    obtain ⟨T133, h133, v133, W133, Q133, st133⟩ := x_virtual B W132 (b := by130) [] (c_intValue l Z a0 hw by130 (20 * pp + ((mi 20 ((p1 &&& 63) - (20 * pp))) - 1)) h118 (Fb130.ext W132.old.2)) (Eb130.ext W132.old.2) at_211 (tw hw 172 rfl) (tw hw 173 rfl) (tw hw 175 rfl) (tw hw 174 rfl) (tw hw 154 rfl) (tw hw 176 rfl) (by decide) (lenOf pd___I rfl) #[.val (.int p1), .val (.int p2), .val (.int p3), .val (.int (p1 &&& 63)), .val (.ref b101), .val (.ref r118), .val (.int (exP (p1 &&& 63))), .val (.int pp), .val (.ref bq), .val (.int (mi 20 ((p1 &&& 63) - (20 * pp)))), .unset] [] rfl 0 rfl (by decide) (by decide) (by decide) (by decide)
    obtain ⟨rfl, rfl⟩ := Q133
    refine st133 _ ?_
    refine g_bipush B W133 at_214 (v := 20) (by decide) ?_
    refine g_iload B W133 at_216 rfl ?_
    refine g_imul B W133 at_218  ?_
    refine g_iload B W133 at_219 rfl ?_
    refine g_iadd B W133 at_221  ?_
    refine g_iconst B W133 at_222 (v := 1) (by decide) ?_
    refine g_isub B W133 at_223  ?_
    refine g_icmp_y B W133 at_224 (XT.ii_eq_t (own_ass _ _)) (pc' := 229) (by decide) ?_
    show Go p.tables e below _ T133 (mkF m 229 #[.val (.int p1), .val (.int p2), .val (.int p3), .val (.int (p1 &&& 63)), .val (.ref b101), .val (.ref r118), .val (.int (exP (p1 &&& 63))), .val (.int pp), .val (.ref bq), .val (.int (mi 20 ((p1 &&& 63) - (20 * pp)))), .unset] [])
    refine g_iload_n B W133 at_229 rfl ?_
    refine g_ldcI B W133 at_230 (tw hw 117 rfl) ?_
    refine g_iand B W133 at_232  ?_
    refine g_iload B W133 at_233 rfl ?_
    refine g_irem B W133 at_235 hc125 ?_
    have hjj := own_rem (x := p3) (y := (mi 20 ((p1 &&& 63) - (20 * pp)))) (own_pos he hc125)
    generalize ((p3 &&& 2147483647) % (mi 20 ((p1 &&& 63) - (20 * pp)))) = jj at hjj ⊢
    show Go p.tables e below _ T133 (mkF m 236 #[.val (.int p1), .val (.int p2), .val (.int p3), .val (.int (p1 &&& 63)), .val (.ref b101), .val (.ref r118), .val (.int (exP (p1 &&& 63))), .val (.int pp), .val (.ref bq), .val (.int (mi 20 ((p1 &&& 63) - (20 * pp)))), .unset] [(.int jj)])
    refine g_istore B W133 at_236  (l' := #[.val (.int p1), .val (.int p2), .val (.int p3), .val (.int (p1 &&& 63)), .val (.ref b101), .val (.ref r118), .val (.int (exP (p1 &&& 63))), .val (.int pp), .val (.ref bq), .val (.int (mi 20 ((p1 &&& 63) - (20 * pp)))), .val (.int jj)]) rfl ?_
    refine g_aload B W133 at_238 rfl rfl ?_
    refine g_iload B W133 at_240 rfl ?_
    have hx134 := own_ix64 hN.1 hN.2 hp hjj
    obtain ⟨by134, hv134, Eb134, Fb134⟩ := own_box bxl hx134
    obtain ⟨T135, h135, v135, W135, Q135, st135⟩ := x_iface B W133 (b := bq) [(.int jj)] (c_subGet l Z a0 hw bq b101 (p1 &&& 63) jj (mi 20 ((p1 &&& 63) - 20 * pp)) (20 * pp) eal kAl (capI (p1 &&& 63)) vsl by134 h118 Eq Rq Mq Fml Sq Oq El Fel Al hjj (own_ltcap hx134 hN.2) hv134) Eq at_242 (tw hw 118 rfl) (tw hw 119 rfl) (tw hw 120 rfl) (tw hw 163 rfl) (tw hw 164 rfl) (tw hw 165 rfl) (tw hw 166 rfl) (tw hw 140 rfl) rfl (tw hw 65 rfl) (tw hw 167 rfl) (by decide) (lenOf pd__I_Ljava_lang_Object_ rfl) #[.val (.int p1), .val (.int p2), .val (.int p3), .val (.int (p1 &&& 63)), .val (.ref b101), .val (.ref r118), .val (.int (exP (p1 &&& 63))), .val (.int pp), .val (.ref bq), .val (.int (mi 20 ((p1 &&& 63) - (20 * pp)))), .val (.int jj)] [] rfl 0 rfl (by decide) (by decide) (by decide) (by decide)
    obtain ⟨rfl, rfl⟩ := Q135
    refine st135 _ ?_
    obtain ⟨T136, W136, st136⟩ := x_castY B W135 at_247 (tw hw 170 rfl) (Ins.self (Eb134.ext W135.old.2)) #[.val (.int p1), .val (.int p2), .val (.int p3), .val (.int (p1 &&& 63)), .val (.ref b101), .val (.ref r118), .val (.int (exP (p1 &&& 63))), .val (.int pp), .val (.ref bq), .val (.int (mi 20 ((p1 &&& 63) - (20 * pp)))), .val (.int jj)] []
    refine st136 _ ?_
    obtain ⟨T137, h137, v137, W137, Q137, st137⟩ := x_virtual B W136 (b := by134) [] (c_intValue l Z a0 hw by134 (20 * pp + jj) h118 (Fb134.ext W136.old.2)) (Eb134.ext W136.old.2) at_250 (tw hw 172 rfl) (tw hw 173 rfl) (tw hw 175 rfl) (tw hw 174 rfl) (tw hw 154 rfl) (tw hw 176 rfl) (by decide) (lenOf pd___I rfl) #[.val (.int p1), .val (.int p2), .val (.int p3), .val (.int (p1 &&& 63)), .val (.ref b101), .val (.ref r118), .val (.int (exP (p1 &&& 63))), .val (.int pp), .val (.ref bq), .val (.int (mi 20 ((p1 &&& 63) - (20 * pp)))), .val (.int jj)] [] rfl 0 rfl (by decide) (by decide) (by decide) (by decide)
    obtain ⟨rfl, rfl⟩ := Q137
    refine st137 _ ?_
    refine g_bipush B W137 at_253 (v := 20) (by decide) ?_
    refine g_iload B W137 at_255 rfl ?_
    refine g_imul B W137 at_257  ?_
    refine g_iload B W137 at_258 rfl ?_
    refine g_iadd B W137 at_260  ?_
    refine g_icmp_n B W137 at_261 (XT.ii_ne_f rfl) ?_
    show Go p.tables e below _ T137 (mkF m 264 #[.val (.int p1), .val (.int p2), .val (.int p3), .val (.int (p1 &&& 63)), .val (.ref b101), .val (.ref r118), .val (.int (exP (p1 &&& 63))), .val (.int pp), .val (.ref bq), .val (.int (mi 20 ((p1 &&& 63) - (20 * pp)))), .val (.int jj)] [])
    refine g_iconst B W137 at_264 (v := 1) (by decide) ?_
    refine g_goto B W137 at_265 (pc' := 269) (by decide) ?_
    show Go p.tables e below _ T137 (mkF m 269 #[.val (.int p1), .val (.int p2), .val (.int p3), .val (.int (p1 &&& 63)), .val (.ref b101), .val (.ref r118), .val (.int (exP (p1 &&& 63))), .val (.int pp), .val (.ref bq), .val (.int (mi 20 ((p1 &&& 63) - (20 * pp)))), .val (.int jj)] [(.int 1)])
    exact r_n B W137 (t := .boolean) rfl (by simp) at_269 (by decide) (by decide) (by show some (Value.int (nar .boolean 1)) = _; rw [nar_b1])
set_option maxRecDepth 65536 in
set_option maxHeartbeats 40000000 in
theorem comes_1 {Post : Tables → Env → Array Value → State → Outcome → State → Prop} (hpost : ∀ tb e args s v u, (limb_1_1.after args s (.returned v) u = true ∧ limb_1_2.after args s (.returned v) u = true ∧ True) → FrameEnd s (.returned v) u (Jvm.fieldLocs frame_1_writes args s ++ Jvm.arrayLocs frame_1_arrays args s ++ Jvm.staticLocs frame_1_statics s) 40 576 → Post tb e args s (.returned v) u) :
    ArmFor flags0 classFile x code maxLocals ret World_1 tables_1 room_1 Calls_1 rest_1 Pre_1 Post := by
  intro l hfl _ _ p e ha hc hk s m args below hf hA hF happ hP
  obtain ⟨hcalls, hrest, hpre⟩ := hP
  obtain ⟨-, -, -, hnamed, -, -, -, hat⟩ := (Spec.applies_iff hf).mp happ
  obtain ⟨hg, hn⟩ := and_e (Cond.before_iff.mp (show (Jvm.Cond.and given_1 narrow_1).before args s = true from hpre))
  obtain ⟨hcnt, hgs⟩ := and_e hg
  obtain ⟨ha0, hr0⟩ := and_e hgs
  obtain ⟨ha1, hr1⟩ := and_e hr0
  have ha2 := hr1
  obtain ⟨w0, w1, w2, rfl⟩ : ∃ w0 w1 w2 : Value, args = #[w0, w1, w2] := by
    have hs : args.size = 3 := by simpa [Cond.value, given_1] using hcnt
    obtain ⟨L⟩ := args
    match L, hs with
    | [w0, w1, w2], _ => exact ⟨w0, w1, w2, rfl⟩
  have hw := fun d (hd : d ∈ tables_1) => atoms_spec (ws := Jvm.Cond.code x code maxLocals ret :: tables_1) hat d (List.mem_cons_of_mem _ hd)
  obtain ⟨hsets, hown0⟩ := atoms_of _ (rest_1_c_eq ▸ (show rest_1_c.before _ s = true from hrest))
  have hfit : Fit s := fun {y c} hc i hi => by
    obtain ⟨ha, rfl⟩ := Array.getElem?_eq_some_iff.mp hc
    have q := List.all_eq_true.mp ((Array.all_eq_true_iff_forall_mem.mp hF) _ (Array.getElem_mem ha)) i (List.mem_range.mpr hi)
    simpa [Array.getElem?_eq_getElem hi] using q
  obtain ⟨i0, ei0⟩ := is_v ha0
  obtain rfl : w0 = (.int i0) := Option.some.inj ei0
  obtain ⟨i1, ei1⟩ := is_v ha1
  obtain rfl : w1 = (.int i1) := Option.some.inj ei1
  obtain ⟨i2, ei2⟩ := is_v ha2
  obtain rfl : w2 = (.int i2) := Option.some.inj ei2
  have Sh : Sta s s.heap "java/lang/Integer$IntegerCache" "high" "I" (.int 127) := Sta.start (eqv_i (Term.int_eval 127) (Cond.before_iff.mp (hsets _ (List.mem_of_getElem? (i := 12) rfl)))) (Or.inl (hsets _ (List.mem_of_getElem? (i := 10) rfl)))
  obtain ⟨ca, eca⟩ := exa_v (Cond.before_iff.mp (hsets _ (List.mem_of_getElem? (i := 14) rfl)))
  have Sc : Sta s s.heap "java/lang/Integer$IntegerCache" "cache" "[Ljava/lang/Integer;" (.ref ca) := Sta.start eca (Or.inr ⟨hw _ (List.mem_of_getElem? (i := 157) rfl), (hsets _ (List.mem_of_getElem? (i := 11) rfl))⟩)
  obtain ⟨cl, Acl⟩ := Arr.start eca (Cond.before_iff.mp (hsets _ (List.mem_of_getElem? (i := 13) rfl)))
  obtain ⟨qlen, elen⟩ := own_len Acl eca (Cond.before_iff.mp (hsets _ (List.mem_of_getElem? (i := 15) rfl)))
  have Bx : Bxs s ca cl "java/lang/Integer" "I" 256 (fun j => .int (j - 128)) := Bxs.start (fun _ => eca) Acl qlen elen (by decide) (Cond.before_iff.mp (hsets _ (List.mem_of_getElem? (i := 16) rfl))) (fun X j hj h => eqv_i (own_ix hj) h)
  obtain ⟨de, ede⟩ := arr_v (Cond.before_iff.mp (hsets _ (List.mem_of_getElem? (i := 6) rfl)))
  obtain ⟨dc, Ade⟩ := Arr.start ede (Cond.before_iff.mp (hsets _ (List.mem_of_getElem? (i := 6) rfl)))
  obtain ⟨-, lde⟩ := own_len Ade ede (Cond.before_iff.mp (hsets _ (List.mem_of_getElem? (i := 8) rfl)))
  have Sde : Sta s s.heap "java/util/ArrayList" "DEFAULTCAPACITY_EMPTY_ELEMENTDATA" "[Ljava/lang/Object;" (.ref de) := Sta.start ede (Or.inr ⟨hw _ (List.mem_of_getElem? (i := 2) rfl), (hsets _ (List.mem_of_getElem? (i := 2) rfl))⟩)
  obtain ⟨_, _, mo, m1, m2, m3⟩ := hcalls.1
  have Mo : Mi s "[Ljava/lang/Object;" mo := ⟨_, _, m1, m2, m3.1⟩
  obtain ⟨n, o, h1, h2, h3, v, L, rfl, ⟨hQ, N, -⟩, hq⟩ := c_law l s _ hw tables_1 i0 i1 i2 ca cl de dc mo s.heap Sh Sc Bx Sde Ade lde Mo (Old.start s) p e ha hc hk s m _ below hf ((Spec.applies_iff_loose hf).mp happ).1 ⟨rfl, State.Warmed39.refl s, rfl⟩ trivial
  obtain rfl := hQ
  exact ⟨n, _, h1, h2, h3, hpost _ _ _ _ _ _ ⟨Cond.after_iff.mpr rfl, Cond.after_iff.mpr (eq_i res_at (Term.int_eval (1)) rfl), trivial⟩ ⟨hq.1, hq.2.1, (hq.2.2.sift fun y hy => Or.inr (N y hy)).mono (by decide) (by decide)⟩⟩
theorem main_1_1 : Claimed_1_1 := comes_1 fun _ _ _ _ _ _ h hF => ⟨h.1, hF⟩
theorem main_1_2 : Claimed_1_2 := comes_1 fun _ _ _ _ _ _ h hF => ⟨h.2.1, hF⟩
end Jvm.Pilot.@@N@@
namespace Jvm.Pilot.@@N@@
open Jvm Jvm.ClassFile Sem Op Lib Jvm.Free Jvm.Stand Jvm.Pilot.@@N@@.Jvm.D
/-! MADE BY PROGRAM (witnessworld.py) out of the Statement's table words and the real class files: 33 classes; the members and pool entries that the words name. The judged class is class 1, her method 2. -/
namespace start1
open Jvm.ClassFile
def u (s : String) : CpInfo := .utf8 (stringToUtf16 s)
/-- a pool by its gaps: so many unusable entries, then the entry; so many at the end -/
def gap : Nat → List CpInfo → List CpInfo
  | 0, r => r
  | n + 1, r => .unusable :: gap n r
def poolList (es : List (Nat × CpInfo)) (last : Nat) : List CpInfo := es.foldr (fun e r => gap e.1 (e.2 :: r)) (gap last [])
def pool (es : List (Nat × CpInfo)) (last : Nat) : Array CpInfo := ⟨poolList es last⟩
def fileOf (pool : Array CpInfo) (this : Nat) (attrs : Array Attribute := #[]) (ms : Array MethodInfo := #[]) (fl : Nat := 33) (sup : Nat := 0) (ifs : Array Nat := #[]) (fds : Array FieldInfo := #[]) : ClassFile where
  minorVersion := 0
  majorVersion := 65
  constantPool := pool
  accessFlags := fl
  thisClass := this
  superClass := sup
  interfaces := ifs
  fields := fds
  methods := ms
  attributes := attrs
def plain (name : String) (sup : Option ClassId) : Class where
  name := name
  kind := .ordinary
  loader := none
  accessFlags := 33
  super := sup
  interfaces := #[]
  cf := none
  fields := #[]
  methods := #[]
  instanceTypes := #[]
  staticTypes := #[]
  resolved := #[]
  callSites := []
  init := .initialized
  statics := none
  mirror := none

def pool0 : Array CpInfo := pool [(5, u "<init>"), (0, u "()V"), (1, .class_ 10), (1, u "java/lang/Object"), (0, u "getClass"), (0, u "()Ljava/lang/Class;")] 111

def k0c0 : Code := { maxStack := 0, maxLocals := 1, code := object_method_1_code, exceptionTable := #[], attributes := #[] }
def k0m0 : Method := { name := "<init>", desc := "()V", sig := { parameters := [], returnType := none }, accessFlags := 1, code := some k0c0 }
def k0m1 : Method := { name := "getClass", desc := "()Ljava/lang/Class;", sig := { parameters := [], returnType := some (.object "java/lang/Class") }, accessFlags := 273, code := none }
/-- java/lang/Object -/
def k0 : Class := { plain "java/lang/Object" none with
  accessFlags := 33
  interfaces := #[]
  cf := some (fileOf pool0 8 #[] #[{ accessFlags := 1, nameIndex := 5, descriptorIndex := 6, attributes := #[] }, { accessFlags := 273, nameIndex := 11, descriptorIndex := 12, attributes := #[] }] 33 0 #[] #[])
  fields := #[]
  methods := #[k0m0, k0m1]
  instanceTypes := #[]
  staticTypes := #[]
  resolved := Array.replicate 124 none
  statics := none }

def pool1 : Array CpInfo := pool [(2, .class_ 4), (0, .nameAndType 5 6), (0, u "java/lang/Object"), (0, u "<init>"), (0, u "()V"), (0, .methodref 8 9), (0, .class_ 10), (0, .nameAndType 11 12), (0, u "java/lang/Integer"), (0, u "valueOf"), (0, u "(I)Ljava/lang/Integer;"), (0, .methodref 14 15), (0, .class_ 16), (0, .nameAndType 17 18), (0, u "java/util/ArrayList"), (0, u "add"), (0, u "(Ljava/lang/Object;)Z"), (0, .methodref 14 3), (0, .methodref 21 22), (0, .class_ 23), (0, .nameAndType 24 25), (0, u "com/example/presswright/presswright/publishing/PagingPagesPinLaw"), (0, u "fill8"), (0, u "(Ljava/util/ArrayList;II)V"), (0, .methodref 27 28), (0, .class_ 29), (0, .nameAndType 30 31), (0, u "com/example/presswright/presswright/publishing/Paging"), (0, u "pages"), (0, u "(Ljava/util/List;)Ljava/util/List;"), (0, .interfaceMethodref 33 34), (0, .class_ 35), (0, .nameAndType 36 37), (0, u "java/util/List"), (0, u "size"), (0, u "()I"), (0, .integer 2147483647), (0, .interfaceMethodref 33 40), (0, .nameAndType 41 42), (0, u "get"), (0, u "(I)Ljava/lang/Object;"), (0, .methodref 44 45), (0, .class_ 46), (0, .nameAndType 47 48), (0, u "java/lang/Math"), (0, u "min"), (0, u "(II)I"), (0, .methodref 8 50), (0, .nameAndType 51 37), (0, u "intValue"), (5, u "law"), (0, u "(III)Z")] 2

def k1m0 : Method := { name := "<init>", desc := "()V", sig := { parameters := [], returnType := none }, accessFlags := 2, code := none }
def k1c1 : Code := { maxStack := 3, maxLocals := 3, code := method_2_code, exceptionTable := #[], attributes := #[] }
def k1m1 : Method := { name := "fill8", desc := "(Ljava/util/ArrayList;II)V", sig := { parameters := [(.object "java/util/ArrayList"), .int, .int], returnType := none }, accessFlags := 10, code := some k1c1 }
def k1c2 : Code := { maxStack := 4, maxLocals := 11, code := code, exceptionTable := #[], attributes := #[] }
def k1m2 : Method := { name := "law", desc := "(III)Z", sig := { parameters := [.int, .int, .int], returnType := some .boolean }, accessFlags := 9, code := some k1c2 }
/-- com/example/presswright/presswright/publishing/PagingPagesPinLaw -/
def k1 : Class := { plain "com/example/presswright/presswright/publishing/PagingPagesPinLaw" (some 0) with
  accessFlags := 49
  interfaces := #[]
  cf := some (fileOf pool1 21 #[] #[{ accessFlags := 2, nameIndex := 5, descriptorIndex := 6, attributes := #[] }, { accessFlags := 10, nameIndex := 24, descriptorIndex := 25, attributes := #[] }, { accessFlags := 9, nameIndex := 57, descriptorIndex := 58, attributes := #[] }] 49 2 #[] #[])
  fields := #[]
  methods := #[k1m0, k1m1, k1m2]
  instanceTypes := #[]
  staticTypes := #[]
  resolved := Array.replicate 61 none
  statics := none }

def pool2 : Array CpInfo := pool [(8, .class_ 10), (1, u "java/lang/Iterable"), (24, .class_ 36), (0, u "java/lang/Object")] 25

/-- java/lang/Iterable -/
def k2 : Class := { plain "java/lang/Iterable" (some 0) with
  accessFlags := 1537
  interfaces := #[]
  cf := some (fileOf pool2 8 #[] #[] 1537 35 #[] #[])
  fields := #[]
  methods := #[]
  instanceTypes := #[]
  staticTypes := #[]
  resolved := Array.replicate 62 none
  statics := none }

def pool3 : Array CpInfo := pool [(10, .class_ 12), (1, u "java/util/Collection"), (47, .class_ 61), (0, u "java/lang/Object"), (0, .class_ 63), (0, u "java/lang/Iterable")] 51

/-- java/util/Collection -/
def k3 : Class := { plain "java/util/Collection" (some 0) with
  accessFlags := 1537
  interfaces := #[2]
  cf := some (fileOf pool3 10 #[] #[] 1537 60 #[62] #[])
  fields := #[]
  methods := #[]
  instanceTypes := #[]
  staticTypes := #[]
  resolved := Array.replicate 115 none
  statics := none }

def pool4 : Array CpInfo := pool [(1, .methodref 2 3), (0, .class_ 4), (0, .nameAndType 5 6), (0, u "java/lang/Object"), (0, u "<init>"), (0, u "()V"), (1, .class_ 10), (1, u "java/util/AbstractCollection"), (66, .class_ 78), (0, u "java/util/Collection")] 81

def k4c0 : Code := { maxStack := 1, maxLocals := 1, code := jdk_22_method_1_code, exceptionTable := #[], attributes := #[] }
def k4m0 : Method := { name := "<init>", desc := "()V", sig := { parameters := [], returnType := none }, accessFlags := 4, code := some k4c0 }
/-- java/util/AbstractCollection -/
def k4 : Class := { plain "java/util/AbstractCollection" (some 0) with
  accessFlags := 1057
  interfaces := #[3]
  cf := some (fileOf pool4 8 #[] #[{ accessFlags := 4, nameIndex := 5, descriptorIndex := 6, attributes := #[] }] 1057 2 #[77] #[])
  fields := #[]
  methods := #[k4m0]
  instanceTypes := #[]
  staticTypes := #[]
  resolved := Array.replicate 160 none
  statics := none }

def pool5 : Array CpInfo := pool [(8, .class_ 10), (1, u "java/util/SequencedCollection"), (15, .class_ 27), (0, u "java/lang/Object"), (0, .class_ 29), (0, u "java/util/Collection")] 27

/-- java/util/SequencedCollection -/
def k5 : Class := { plain "java/util/SequencedCollection" (some 0) with
  accessFlags := 1537
  interfaces := #[3]
  cf := some (fileOf pool5 8 #[] #[] 1537 26 #[28] #[])
  fields := #[]
  methods := #[]
  instanceTypes := #[]
  staticTypes := #[]
  resolved := Array.replicate 57 none
  statics := none }

def pool6 : Array CpInfo := pool [(8, .class_ 10), (1, u "java/util/List"), (49, u "add"), (3, u "(Ljava/lang/Object;)Z"), (10, u "get"), (0, u "(I)Ljava/lang/Object;"), (2, u "size"), (0, u "()I"), (22, .class_ 104), (0, u "java/lang/Object"), (15, .class_ 121), (0, u "java/util/SequencedCollection"), (60, u "subList"), (0, u "(II)Ljava/util/List;")] 67

def k6m0 : Method := { name := "size", desc := "()I", sig := { parameters := [], returnType := some .int }, accessFlags := 1025, code := none }
def k6m1 : Method := { name := "add", desc := "(Ljava/lang/Object;)Z", sig := { parameters := [(.object "java/lang/Object")], returnType := some .boolean }, accessFlags := 1025, code := none }
def k6m2 : Method := { name := "get", desc := "(I)Ljava/lang/Object;", sig := { parameters := [.int], returnType := some (.object "java/lang/Object") }, accessFlags := 1025, code := none }
def k6m3 : Method := { name := "subList", desc := "(II)Ljava/util/List;", sig := { parameters := [.int, .int], returnType := some (.object "java/util/List") }, accessFlags := 1025, code := none }
/-- java/util/List -/
def k6 : Class := { plain "java/util/List" (some 0) with
  accessFlags := 1537
  interfaces := #[5]
  cf := some (fileOf pool6 8 #[] #[{ accessFlags := 1025, nameIndex := 79, descriptorIndex := 80, attributes := #[] }, { accessFlags := 1025, nameIndex := 60, descriptorIndex := 64, attributes := #[] }, { accessFlags := 1025, nameIndex := 75, descriptorIndex := 76, attributes := #[] }, { accessFlags := 1025, nameIndex := 182, descriptorIndex := 183, attributes := #[] }] 1537 103 #[120] #[])
  fields := #[]
  methods := #[k6m0, k6m1, k6m2, k6m3]
  instanceTypes := #[]
  staticTypes := #[]
  resolved := Array.replicate 251 none
  statics := none }

def pool7 : Array CpInfo := pool [(1, .methodref 2 3), (0, .class_ 4), (0, .nameAndType 5 6), (0, u "java/util/AbstractCollection"), (0, u "<init>"), (0, u "()V"), (0, .fieldref 8 9), (0, .class_ 10), (0, .nameAndType 11 12), (0, u "java/util/AbstractList"), (0, u "modCount"), (0, u "I"), (64, .class_ 78), (0, u "java/util/AbstractList$Itr"), (3, .class_ 83), (0, u "java/util/AbstractList$ListItr"), (5, u "subListRangeCheck"), (0, u "(III)V"), (2, .class_ 94), (0, u "java/util/AbstractList$RandomAccessSubList"), (3, .class_ 99), (0, u "java/util/AbstractList$SubList"), (33, .class_ 134), (0, u "java/util/List"), (73, .class_ 209), (0, u "java/util/AbstractList$SubList$1"), (0, .class_ 211), (0, u "java/util/AbstractList$RandomAccessSpliterator")] 6

def k7c0 : Code := { maxStack := 2, maxLocals := 1, code := jdk_39_method_1_code, exceptionTable := #[], attributes := #[] }
def k7m0 : Method := { name := "<init>", desc := "()V", sig := { parameters := [], returnType := none }, accessFlags := 4, code := some k7c0 }
def k7c1 : Code := { maxStack := 4, maxLocals := 3, code := jdk_39_method_15_code, exceptionTable := #[], attributes := #[] }
def k7m1 : Method := { name := "subListRangeCheck", desc := "(III)V", sig := { parameters := [.int, .int, .int], returnType := none }, accessFlags := 8, code := some k7c1 }
/-- java/util/AbstractList -/
def k7 : Class := { plain "java/util/AbstractList" (some 4) with
  accessFlags := 1057
  interfaces := #[6]
  cf := some (fileOf pool7 8 #[.nestMembers #[93, 98, 208, 210, 82, 77]] #[{ accessFlags := 4, nameIndex := 5, descriptorIndex := 6, attributes := #[] }, { accessFlags := 8, nameIndex := 89, descriptorIndex := 90, attributes := #[] }] 1057 2 #[133] #[{ accessFlags := 132, nameIndex := 11, descriptorIndex := 12, attributes := #[] }])
  fields := #[{ name := "modCount", type := .int, accessFlags := 132, slot := 0, constantValue := 0 }]
  methods := #[k7m0, k7m1]
  instanceTypes := #[.int]
  staticTypes := #[]
  resolved := Array.replicate 218 none
  statics := none }

def pool8 : Array CpInfo := pool [(1, .class_ 2), (0, u "java/util/RandomAccess"), (0, .class_ 4), (0, u "java/lang/Object")] 2

/-- java/util/RandomAccess -/
def k8 : Class := { plain "java/util/RandomAccess" (some 0) with
  accessFlags := 1537
  interfaces := #[]
  cf := some (fileOf pool8 1 #[] #[] 1537 3 #[] #[])
  fields := #[]
  methods := #[]
  instanceTypes := #[]
  staticTypes := #[]
  resolved := Array.replicate 7 none
  statics := none }

def pool9 : Array CpInfo := pool [(1, .class_ 2), (0, u "java/lang/Cloneable"), (0, .class_ 4), (0, u "java/lang/Object")] 2

/-- java/lang/Cloneable -/
def k9 : Class := { plain "java/lang/Cloneable" (some 0) with
  accessFlags := 1537
  interfaces := #[]
  cf := some (fileOf pool9 1 #[] #[] 1537 3 #[] #[])
  fields := #[]
  methods := #[]
  instanceTypes := #[]
  staticTypes := #[]
  resolved := Array.replicate 7 none
  statics := none }

def pool10 : Array CpInfo := pool [(1, .class_ 2), (0, u "java/io/Serializable"), (0, .class_ 4), (0, u "java/lang/Object")] 2

/-- java/io/Serializable -/
def k10 : Class := { plain "java/io/Serializable" (some 0) with
  accessFlags := 1537
  interfaces := #[]
  cf := some (fileOf pool10 1 #[] #[] 1537 3 #[] #[])
  fields := #[]
  methods := #[]
  instanceTypes := #[]
  staticTypes := #[]
  resolved := Array.replicate 7 none
  statics := none }

def pool11 : Array CpInfo := pool [(1, .methodref 2 3), (0, .class_ 4), (0, .nameAndType 5 6), (0, u "java/util/AbstractList"), (0, u "<init>"), (0, u "()V"), (0, .class_ 8), (0, u "java/lang/Object"), (0, .fieldref 10 11), (0, .class_ 12), (0, .nameAndType 13 14), (0, u "java/util/ArrayList"), (0, u "elementData"), (0, u "[Ljava/lang/Object;"), (2, u "EMPTY_ELEMENTDATA"), (21, .fieldref 10 40), (0, .nameAndType 41 14), (0, u "DEFAULTCAPACITY_EMPTY_ELEMENTDATA"), (5, u "()[Ljava/lang/Object;"), (0, .fieldref 10 49), (0, .nameAndType 50 51), (0, u "size"), (0, u "I"), (6, .class_ 60), (1, u "java/util/Arrays"), (0, u "copyOf"), (1, .fieldref 10 64), (0, .nameAndType 65 51), (0, u "modCount"), (0, .methodref 58 67), (0, .nameAndType 61 68), (0, u "([Ljava/lang/Object;I)[Ljava/lang/Object;"), (0, .methodref 10 70), (0, .nameAndType 71 72), (0, u "grow"), (0, u "(I)[Ljava/lang/Object;"), (0, .methodref 74 75), (0, .class_ 76), (0, .nameAndType 77 78), (0, u "jdk/internal/util/ArraysSupport"), (0, u "newLength"), (0, u "(III)I"), (0, .methodref 80 81), (0, .class_ 82), (0, .nameAndType 83 84), (0, u "java/lang/Math"), (0, u "max"), (0, u "(II)I"), (11, u "(Ljava/lang/Object;)Z"), (21, .methodref 119 120), (0, .class_ 121), (0, .nameAndType 122 84), (0, u "java/util/Objects"), (0, u "checkIndex"), (0, .methodref 10 124), (0, .nameAndType 13 125), (0, u "(I)Ljava/lang/Object;"), (3, .methodref 10 130), (0, .nameAndType 71 47), (0, .methodref 10 132), (0, .nameAndType 133 134), (0, u "add"), (0, u "(Ljava/lang/Object;[Ljava/lang/Object;I)V"), (13, .class_ 149), (0, u "java/util/List"), (36, u "()I"), (75, .class_ 263), (0, u "java/util/ArrayList$ListItr"), (3, .class_ 268), (0, u "java/util/ArrayList$Itr"), (3, .methodref 10 273), (0, .nameAndType 274 275), (0, u "subListRangeCheck"), (0, u "(III)V"), (0, .class_ 277), (0, u "java/util/ArrayList$SubList"), (0, .methodref 276 279), (0, .nameAndType 5 280), (0, u "(Ljava/util/ArrayList;II)V"), (9, .class_ 291), (0, u "java/util/ArrayList$ArrayListSpliterator"), (37, .class_ 330), (0, u "java/util/RandomAccess"), (0, .class_ 332), (0, u "java/lang/Cloneable"), (0, .class_ 334), (0, u "java/io/Serializable"), (0, u "serialVersionUID"), (0, u "J"), (3, u "DEFAULT_CAPACITY"), (40, u "get"), (77, u "subList"), (0, u "(II)Ljava/util/List;"), (39, .class_ 501), (0, u "java/util/ArrayList$SubList$2"), (0, .class_ 503), (0, u "java/util/ArrayList$SubList$1")] 5

def k11c0 : Code := { maxStack := 2, maxLocals := 1, code := jdk_38_method_2_code, exceptionTable := #[], attributes := #[] }
def k11m0 : Method := { name := "<init>", desc := "()V", sig := { parameters := [], returnType := none }, accessFlags := 1, code := some k11c0 }
def k11c1 : Code := { maxStack := 4, maxLocals := 4, code := jdk_38_method_6_code, exceptionTable := #[], attributes := #[] }
def k11m1 : Method := { name := "grow", desc := "(I)[Ljava/lang/Object;", sig := { parameters := [.int], returnType := some (.array (.object "java/lang/Object")) }, accessFlags := 2, code := some k11c1 }
def k11c2 : Code := { maxStack := 3, maxLocals := 1, code := jdk_38_method_7_code, exceptionTable := #[], attributes := #[] }
def k11m2 : Method := { name := "grow", desc := "()[Ljava/lang/Object;", sig := { parameters := [], returnType := some (.array (.object "java/lang/Object")) }, accessFlags := 2, code := some k11c2 }
def k11c3 : Code := { maxStack := 1, maxLocals := 1, code := jdk_38_method_8_code, exceptionTable := #[], attributes := #[] }
def k11m3 : Method := { name := "size", desc := "()I", sig := { parameters := [], returnType := some .int }, accessFlags := 1, code := some k11c3 }
def k11c4 : Code := { maxStack := 2, maxLocals := 2, code := jdk_38_method_18_code, exceptionTable := #[], attributes := #[] }
def k11m4 : Method := { name := "elementData", desc := "(I)Ljava/lang/Object;", sig := { parameters := [.int], returnType := some (.object "java/lang/Object") }, accessFlags := 0, code := some k11c4 }
def k11c5 : Code := { maxStack := 2, maxLocals := 2, code := jdk_38_method_20_code, exceptionTable := #[], attributes := #[] }
def k11m5 : Method := { name := "get", desc := "(I)Ljava/lang/Object;", sig := { parameters := [.int], returnType := some (.object "java/lang/Object") }, accessFlags := 1, code := some k11c5 }
def k11c6 : Code := { maxStack := 3, maxLocals := 4, code := jdk_38_method_24_code, exceptionTable := #[], attributes := #[] }
def k11m6 : Method := { name := "add", desc := "(Ljava/lang/Object;[Ljava/lang/Object;I)V", sig := { parameters := [(.object "java/lang/Object"), (.array (.object "java/lang/Object")), .int], returnType := none }, accessFlags := 2, code := some k11c6 }
def k11c7 : Code := { maxStack := 4, maxLocals := 2, code := jdk_38_method_25_code, exceptionTable := #[], attributes := #[] }
def k11m7 : Method := { name := "add", desc := "(Ljava/lang/Object;)Z", sig := { parameters := [(.object "java/lang/Object")], returnType := some .boolean }, accessFlags := 1, code := some k11c7 }
def k11c8 : Code := { maxStack := 5, maxLocals := 3, code := jdk_38_method_56_code, exceptionTable := #[], attributes := #[] }
def k11m8 : Method := { name := "subList", desc := "(II)Ljava/util/List;", sig := { parameters := [.int, .int], returnType := some (.object "java/util/List") }, accessFlags := 1, code := some k11c8 }
/-- java/util/ArrayList -/
def k11 : Class := { plain "java/util/ArrayList" (some 7) with
  accessFlags := 33
  interfaces := #[6, 8, 9, 10]
  cf := some (fileOf pool11 10 #[.nestMembers #[290, 276, 500, 502, 262, 267]] #[{ accessFlags := 1, nameIndex := 5, descriptorIndex := 6, attributes := #[] }, { accessFlags := 2, nameIndex := 71, descriptorIndex := 72, attributes := #[] }, { accessFlags := 2, nameIndex := 71, descriptorIndex := 47, attributes := #[] }, { accessFlags := 1, nameIndex := 50, descriptorIndex := 186, attributes := #[] }, { accessFlags := 0, nameIndex := 13, descriptorIndex := 125, attributes := #[] }, { accessFlags := 1, nameIndex := 381, descriptorIndex := 125, attributes := #[] }, { accessFlags := 2, nameIndex := 133, descriptorIndex := 134, attributes := #[] }, { accessFlags := 1, nameIndex := 133, descriptorIndex := 96, attributes := #[] }, { accessFlags := 1, nameIndex := 459, descriptorIndex := 460, attributes := #[] }] 33 2 #[148, 329, 331, 333] #[{ accessFlags := 26, nameIndex := 335, descriptorIndex := 336, attributes := #[] }, { accessFlags := 26, nameIndex := 340, descriptorIndex := 51, attributes := #[] }, { accessFlags := 26, nameIndex := 17, descriptorIndex := 14, attributes := #[] }, { accessFlags := 26, nameIndex := 41, descriptorIndex := 14, attributes := #[] }, { accessFlags := 128, nameIndex := 13, descriptorIndex := 14, attributes := #[] }, { accessFlags := 2, nameIndex := 50, descriptorIndex := 51, attributes := #[] }])
  fields := #[{ name := "serialVersionUID", type := .long, accessFlags := 26, slot := 0, constantValue := 0 }, { name := "DEFAULT_CAPACITY", type := .int, accessFlags := 26, slot := 1, constantValue := 0 }, { name := "EMPTY_ELEMENTDATA", type := (.array (.object "java/lang/Object")), accessFlags := 26, slot := 2, constantValue := 0 }, { name := "DEFAULTCAPACITY_EMPTY_ELEMENTDATA", type := (.array (.object "java/lang/Object")), accessFlags := 26, slot := 3, constantValue := 0 }, { name := "elementData", type := (.array (.object "java/lang/Object")), accessFlags := 128, slot := 1, constantValue := 0 }, { name := "size", type := .int, accessFlags := 2, slot := 2, constantValue := 0 }]
  methods := #[k11m0, k11m1, k11m2, k11m3, k11m4, k11m5, k11m6, k11m7, k11m8]
  instanceTypes := #[.int, (.array (.object "java/lang/Object")), .int]
  staticTypes := #[.long, .int, (.array (.object "java/lang/Object")), (.array (.object "java/lang/Object"))]
  resolved := Array.replicate 509 none
  statics := some 0 }

def pool12 : Array CpInfo := pool [(2, .class_ 4), (0, .nameAndType 5 6), (0, u "java/lang/Object"), (0, u "<init>"), (0, u "()V"), (0, .class_ 8), (0, u "java/util/ArrayList"), (0, .methodref 7 3), (0, .class_ 11), (0, u "com/example/presswright/presswright/publishing/Paging"), (0, .interfaceMethodref 13 14), (0, .class_ 15), (0, .nameAndType 16 17), (0, u "java/util/List"), (0, u "size"), (0, u "()I"), (0, .methodref 19 20), (0, .class_ 21), (0, .nameAndType 22 23), (0, u "java/lang/Math"), (0, u "min"), (0, u "(II)I"), (0, .interfaceMethodref 13 25), (0, .nameAndType 26 27), (0, u "subList"), (0, u "(II)Ljava/util/List;"), (0, .interfaceMethodref 13 29), (0, .nameAndType 30 31), (0, u "add"), (0, u "(Ljava/lang/Object;)Z"), (0, u "PER_PAGE"), (0, u "I"), (4, u "pages"), (0, u "(Ljava/util/List;)Ljava/util/List;")] 8

def k12m0 : Method := { name := "<init>", desc := "()V", sig := { parameters := [], returnType := none }, accessFlags := 2, code := none }
def k12c1 : Code := { maxStack := 5, maxLocals := 3, code := prog_12_method_2_code, exceptionTable := #[], attributes := #[] }
def k12m1 : Method := { name := "pages", desc := "(Ljava/util/List;)Ljava/util/List;", sig := { parameters := [(.object "java/util/List")], returnType := some (.object "java/util/List") }, accessFlags := 9, code := some k12c1 }
/-- com/example/presswright/presswright/publishing/Paging -/
def k12 : Class := { plain "com/example/presswright/presswright/publishing/Paging" (some 0) with
  accessFlags := 49
  interfaces := #[]
  cf := some (fileOf pool12 10 #[] #[{ accessFlags := 2, nameIndex := 5, descriptorIndex := 6, attributes := #[] }, { accessFlags := 9, nameIndex := 38, descriptorIndex := 39, attributes := #[] }] 49 2 #[] #[{ accessFlags := 25, nameIndex := 32, descriptorIndex := 33, attributes := #[] }])
  fields := #[{ name := "PER_PAGE", type := .int, accessFlags := 25, slot := 0, constantValue := 0 }]
  methods := #[k12m0, k12m1]
  instanceTypes := #[]
  staticTypes := #[.int]
  resolved := Array.replicate 48 none
  statics := none }

def pool13 : Array CpInfo := pool [(1, .class_ 2), (0, u "java/lang/Math"), (1, .class_ 6), (1, u "java/lang/Object"), (0, u "<init>"), (0, u "()V"), (89, .class_ 100), (1, u "java/lang/Math$RandomNumberGeneratorHolder"), (71, u "negativeZeroFloatBits"), (0, u "J"), (2, u "negativeZeroDoubleBits"), (21, u "max"), (2, u "min"), (43, u "$assertionsDisabled"), (0, u "Z"), (88, u "(II)I"), (2, u "twoToTheDoubleScaleDown"), (0, u "D"), (4, u "twoToTheDoubleScaleUp"), (9, u "E"), (3, u "PI"), (2, u "TAU"), (2, u "DEGREES_TO_RADIANS"), (0, u "RADIANS_TO_DEGREES")] 94

def k13m0 : Method := { name := "<init>", desc := "()V", sig := { parameters := [], returnType := none }, accessFlags := 2, code := none }
def k13c1 : Code := { maxStack := 2, maxLocals := 2, code := jdk_29_method_65_code, exceptionTable := #[], attributes := #[] }
def k13m1 : Method := { name := "max", desc := "(II)I", sig := { parameters := [.int, .int], returnType := some .int }, accessFlags := 9, code := some k13c1 }
def k13c2 : Code := { maxStack := 2, maxLocals := 2, code := jdk_29_method_69_code, exceptionTable := #[], attributes := #[] }
def k13m2 : Method := { name := "min", desc := "(II)I", sig := { parameters := [.int, .int], returnType := some .int }, accessFlags := 9, code := some k13c2 }
/-- java/lang/Math -/
def k13 : Class := { plain "java/lang/Math" (some 0) with
  accessFlags := 49
  interfaces := #[]
  cf := some (fileOf pool13 1 #[.nestMembers #[98]] #[{ accessFlags := 2, nameIndex := 7, descriptorIndex := 8, attributes := #[] }, { accessFlags := 9, nameIndex := 198, descriptorIndex := 335, attributes := #[] }, { accessFlags := 9, nameIndex := 201, descriptorIndex := 335, attributes := #[] }] 49 4 #[] #[{ accessFlags := 25, nameIndex := 354, descriptorIndex := 339, attributes := #[] }, { accessFlags := 25, nameIndex := 358, descriptorIndex := 339, attributes := #[] }, { accessFlags := 25, nameIndex := 361, descriptorIndex := 339, attributes := #[] }, { accessFlags := 26, nameIndex := 364, descriptorIndex := 339, attributes := #[] }, { accessFlags := 26, nameIndex := 365, descriptorIndex := 339, attributes := #[] }, { accessFlags := 26, nameIndex := 172, descriptorIndex := 173, attributes := #[] }, { accessFlags := 26, nameIndex := 176, descriptorIndex := 173, attributes := #[] }, { accessFlags := 8, nameIndex := 344, descriptorIndex := 339, attributes := #[] }, { accessFlags := 8, nameIndex := 338, descriptorIndex := 339, attributes := #[] }, { accessFlags := 4120, nameIndex := 245, descriptorIndex := 246, attributes := #[] }])
  fields := #[{ name := "E", type := .double, accessFlags := 25, slot := 0, constantValue := 0 }, { name := "PI", type := .double, accessFlags := 25, slot := 1, constantValue := 0 }, { name := "TAU", type := .double, accessFlags := 25, slot := 2, constantValue := 0 }, { name := "DEGREES_TO_RADIANS", type := .double, accessFlags := 26, slot := 3, constantValue := 0 }, { name := "RADIANS_TO_DEGREES", type := .double, accessFlags := 26, slot := 4, constantValue := 0 }, { name := "negativeZeroFloatBits", type := .long, accessFlags := 26, slot := 5, constantValue := 0 }, { name := "negativeZeroDoubleBits", type := .long, accessFlags := 26, slot := 6, constantValue := 0 }, { name := "twoToTheDoubleScaleUp", type := .double, accessFlags := 8, slot := 7, constantValue := 0 }, { name := "twoToTheDoubleScaleDown", type := .double, accessFlags := 8, slot := 8, constantValue := 0 }, { name := "$assertionsDisabled", type := .boolean, accessFlags := 4120, slot := 9, constantValue := 0 }]
  methods := #[k13m0, k13m1, k13m2]
  instanceTypes := #[]
  staticTypes := #[.double, .double, .double, .double, .double, .long, .long, .double, .double, .boolean]
  resolved := Array.replicate 460 none
  statics := none }

def pool14 : Array CpInfo := pool [(1, .methodref 2 3), (0, .class_ 4), (0, .nameAndType 5 6), (0, u "java/util/AbstractList"), (0, u "<init>"), (0, u "()V"), (0, .fieldref 8 9), (0, .class_ 10), (0, .nameAndType 11 12), (0, u "java/util/ArrayList$SubList"), (0, u "root"), (0, u "Ljava/util/ArrayList;"), (0, .fieldref 8 14), (0, .nameAndType 15 16), (0, u "parent"), (0, u "Ljava/util/ArrayList$SubList;"), (0, .fieldref 8 18), (0, .nameAndType 19 20), (0, u "offset"), (0, u "I"), (0, .fieldref 8 22), (0, .nameAndType 23 20), (0, u "size"), (0, .fieldref 25 26), (0, .class_ 27), (0, .nameAndType 28 20), (0, u "java/util/ArrayList"), (0, u "modCount"), (0, .fieldref 8 26), (0, .methodref 31 32), (0, .class_ 33), (0, .nameAndType 34 35), (0, u "java/util/Objects"), (0, u "checkIndex"), (0, u "(II)I"), (0, .methodref 8 37), (0, .nameAndType 38 6), (0, u "checkForComodification"), (0, .methodref 25 40), (0, .nameAndType 41 42), (0, u "elementData"), (0, u "(I)Ljava/lang/Object;"), (29, u "()I"), (109, .class_ 183), (0, u "java/util/RandomAccess"), (3, u "(Ljava/util/ArrayList;II)V"), (17, u "get")] 64

def k14c0 : Code := { maxStack := 3, maxLocals := 4, code := jdk_130_method_1_code, exceptionTable := #[], attributes := #[] }
def k14m0 : Method := { name := "<init>", desc := "(Ljava/util/ArrayList;II)V", sig := { parameters := [(.object "java/util/ArrayList"), .int, .int], returnType := none }, accessFlags := 1, code := some k14c0 }
def k14c1 : Code := { maxStack := 3, maxLocals := 2, code := jdk_130_method_4_code, exceptionTable := #[], attributes := #[] }
def k14m1 : Method := { name := "get", desc := "(I)Ljava/lang/Object;", sig := { parameters := [.int], returnType := some (.object "java/lang/Object") }, accessFlags := 1, code := some k14c1 }
def k14c2 : Code := { maxStack := 1, maxLocals := 1, code := jdk_130_method_5_code, exceptionTable := #[], attributes := #[] }
def k14m2 : Method := { name := "size", desc := "()I", sig := { parameters := [], returnType := some .int }, accessFlags := 1, code := some k14c2 }
def k14c3 : Code := { maxStack := 2, maxLocals := 1, code := jdk_130_method_28_code, exceptionTable := #[], attributes := #[] }
def k14m3 : Method := { name := "checkForComodification", desc := "()V", sig := { parameters := [], returnType := none }, accessFlags := 2, code := some k14c3 }
/-- java/util/ArrayList$SubList -/
def k14 : Class := { plain "java/util/ArrayList$SubList" (some 7) with
  accessFlags := 32
  interfaces := #[8]
  cf := some (fileOf pool14 8 #[.nestHost 25] #[{ accessFlags := 1, nameIndex := 5, descriptorIndex := 187, attributes := #[] }, { accessFlags := 1, nameIndex := 205, descriptorIndex := 42, attributes := #[] }, { accessFlags := 1, nameIndex := 23, descriptorIndex := 72, attributes := #[] }, { accessFlags := 2, nameIndex := 38, descriptorIndex := 6, attributes := #[] }] 32 2 #[182] #[{ accessFlags := 18, nameIndex := 11, descriptorIndex := 12, attributes := #[] }, { accessFlags := 18, nameIndex := 15, descriptorIndex := 16, attributes := #[] }, { accessFlags := 18, nameIndex := 19, descriptorIndex := 20, attributes := #[] }, { accessFlags := 2, nameIndex := 23, descriptorIndex := 20, attributes := #[] }])
  fields := #[{ name := "root", type := (.object "java/util/ArrayList"), accessFlags := 18, slot := 1, constantValue := 0 }, { name := "parent", type := (.object "java/util/ArrayList$SubList"), accessFlags := 18, slot := 2, constantValue := 0 }, { name := "offset", type := .int, accessFlags := 18, slot := 3, constantValue := 0 }, { name := "size", type := .int, accessFlags := 2, slot := 4, constantValue := 0 }]
  methods := #[k14m0, k14m1, k14m2, k14m3]
  instanceTypes := #[.int, (.object "java/util/ArrayList"), (.object "java/util/ArrayList$SubList"), .int, .int]
  staticTypes := #[]
  resolved := Array.replicate 270 none
  statics := none }

def pool15 : Array CpInfo := pool [(2, .class_ 4), (1, u "java/lang/Object"), (0, u "<init>"), (0, u "()V"), (35, .class_ 44), (1, u "java/util/Objects"), (60, .methodref 106 107), (0, .class_ 108), (0, .nameAndType 109 110), (0, u "jdk/internal/util/Preconditions"), (0, u "checkIndex"), (0, u "(IILjava/util/function/BiFunction;)I"), (60, u "(II)I")] 12

def k15m0 : Method := { name := "<init>", desc := "()V", sig := { parameters := [], returnType := none }, accessFlags := 2, code := none }
def k15c1 : Code := { maxStack := 3, maxLocals := 2, code := jdk_31_method_17_code, exceptionTable := #[], attributes := #[] }
def k15m1 : Method := { name := "checkIndex", desc := "(II)I", sig := { parameters := [.int, .int], returnType := some .int }, accessFlags := 9, code := some k15c1 }
/-- java/util/Objects -/
def k15 : Class := { plain "java/util/Objects" (some 0) with
  accessFlags := 49
  interfaces := #[]
  cf := some (fileOf pool15 42 #[] #[{ accessFlags := 2, nameIndex := 5, descriptorIndex := 6, attributes := #[] }, { accessFlags := 9, nameIndex := 109, descriptorIndex := 171, attributes := #[] }] 49 2 #[] #[])
  fields := #[]
  methods := #[k15m0, k15m1]
  instanceTypes := #[]
  staticTypes := #[]
  resolved := Array.replicate 184 none
  statics := none }

def pool16 : Array CpInfo := pool [(2, .class_ 4), (1, u "java/lang/Object"), (0, u "<init>"), (0, u "()V"), (17, .class_ 26), (1, u "jdk/internal/util/Preconditions"), (6, u "checkIndex"), (21, .class_ 56), (0, u "jdk/internal/util/Preconditions$4"), (57, .class_ 115), (0, u "jdk/internal/util/Preconditions$1"), (7, u "SIOOBE_FORMATTER"), (0, u "Ljava/util/function/BiFunction;"), (0, .class_ 126), (0, u "jdk/internal/util/Preconditions$2"), (3, u "AIOOBE_FORMATTER"), (0, .class_ 132), (0, u "jdk/internal/util/Preconditions$3"), (3, u "IOOBE_FORMATTER"), (41, u "(IILjava/util/function/BiFunction;)I")] 15

def k16m0 : Method := { name := "<init>", desc := "()V", sig := { parameters := [], returnType := none }, accessFlags := 1, code := none }
def k16c1 : Code := { maxStack := 3, maxLocals := 3, code := jdk_41_method_11_code, exceptionTable := #[], attributes := #[] }
def k16m1 : Method := { name := "checkIndex", desc := "(IILjava/util/function/BiFunction;)I", sig := { parameters := [.int, .int, (.object "java/util/function/BiFunction")], returnType := some .int }, accessFlags := 9, code := some k16c1 }
/-- jdk/internal/util/Preconditions -/
def k16 : Class := { plain "jdk/internal/util/Preconditions" (some 0) with
  accessFlags := 33
  interfaces := #[]
  cf := some (fileOf pool16 24 #[.nestMembers #[55, 131, 125, 114]] #[{ accessFlags := 1, nameIndex := 5, descriptorIndex := 6, attributes := #[] }, { accessFlags := 9, nameIndex := 33, descriptorIndex := 178, attributes := #[] }] 33 2 #[] #[{ accessFlags := 25, nameIndex := 123, descriptorIndex := 124, attributes := #[] }, { accessFlags := 25, nameIndex := 130, descriptorIndex := 124, attributes := #[] }, { accessFlags := 25, nameIndex := 136, descriptorIndex := 124, attributes := #[] }])
  fields := #[{ name := "SIOOBE_FORMATTER", type := (.object "java/util/function/BiFunction"), accessFlags := 25, slot := 0, constantValue := 0 }, { name := "AIOOBE_FORMATTER", type := (.object "java/util/function/BiFunction"), accessFlags := 25, slot := 1, constantValue := 0 }, { name := "IOOBE_FORMATTER", type := (.object "java/util/function/BiFunction"), accessFlags := 25, slot := 2, constantValue := 0 }]
  methods := #[k16m0, k16m1]
  instanceTypes := #[]
  staticTypes := #[(.object "java/util/function/BiFunction"), (.object "java/util/function/BiFunction"), (.object "java/util/function/BiFunction")]
  resolved := Array.replicate 194 none
  statics := none }

def pool17 : Array CpInfo := pool [(2, .class_ 4), (1, u "java/lang/Object"), (0, u "<init>"), (0, u "()V"), (1, .class_ 10), (1, u "java/lang/Number"), (2, .class_ 14), (0, u "java/io/Serializable"), (0, u "serialVersionUID"), (0, u "J")] 20

def k17m0 : Method := { name := "<init>", desc := "()V", sig := { parameters := [], returnType := none }, accessFlags := 1, code := none }
/-- java/lang/Number -/
def k17 : Class := { plain "java/lang/Number" (some 0) with
  accessFlags := 1057
  interfaces := #[10]
  cf := some (fileOf pool17 8 #[] #[{ accessFlags := 1, nameIndex := 5, descriptorIndex := 6, attributes := #[] }] 1057 2 #[13] #[{ accessFlags := 26, nameIndex := 15, descriptorIndex := 16, attributes := #[] }])
  fields := #[{ name := "serialVersionUID", type := .long, accessFlags := 26, slot := 0, constantValue := 0 }]
  methods := #[k17m0]
  instanceTypes := #[]
  staticTypes := #[.long]
  resolved := Array.replicate 37 none
  statics := none }

def pool18 : Array CpInfo := pool [(1, .class_ 2), (0, u "java/lang/Comparable"), (0, .class_ 4), (0, u "java/lang/Object")] 7

/-- java/lang/Comparable -/
def k18 : Class := { plain "java/lang/Comparable" (some 0) with
  accessFlags := 1537
  interfaces := #[]
  cf := some (fileOf pool18 1 #[] #[] 1537 3 #[] #[])
  fields := #[]
  methods := #[]
  instanceTypes := #[]
  staticTypes := #[]
  resolved := Array.replicate 12 none
  statics := none }

def pool19 : Array CpInfo := pool [(1, .class_ 2), (0, u "java/lang/constant/Constable"), (0, .class_ 4), (0, u "java/lang/Object")] 6

/-- java/lang/constant/Constable -/
def k19 : Class := { plain "java/lang/constant/Constable" (some 0) with
  accessFlags := 1537
  interfaces := #[]
  cf := some (fileOf pool19 1 #[] #[] 1537 3 #[] #[])
  fields := #[]
  methods := #[]
  instanceTypes := #[]
  staticTypes := #[]
  resolved := Array.replicate 11 none
  statics := none }

def pool20 : Array CpInfo := pool [(1, .class_ 2), (0, u "java/lang/constant/ConstantDesc"), (0, .class_ 4), (0, u "java/lang/Object")] 32

/-- java/lang/constant/ConstantDesc -/
def k20 : Class := { plain "java/lang/constant/ConstantDesc" (some 0) with
  accessFlags := 1537
  interfaces := #[]
  cf := some (fileOf pool20 1 #[] #[] 1537 3 #[] #[])
  fields := #[]
  methods := #[]
  instanceTypes := #[]
  staticTypes := #[]
  resolved := Array.replicate 37 none
  statics := none }

def pool21 : Array CpInfo := pool [(1, .class_ 2), (0, u "java/lang/Integer"), (16, u "digits"), (0, u "[C"), (64, u "DigitOnes"), (0, u "[B"), (2, u "DigitTens"), (31, u "()I"), (65, u "valueOf"), (0, u "(I)Ljava/lang/Integer;"), (0, .class_ 190), (0, u "java/lang/Integer$IntegerCache"), (0, .fieldref 189 192), (0, .nameAndType 193 194), (0, u "high"), (0, u "I"), (0, .fieldref 189 196), (0, .nameAndType 197 198), (0, u "cache"), (0, u "[Ljava/lang/Integer;"), (4, .class_ 204), (0, u "java/lang/Number"), (0, .fieldref 1 206), (0, .nameAndType 207 194), (0, u "value"), (5, u "intValue"), (88, u "TYPE"), (0, u "Ljava/lang/Class;"), (0, .class_ 305), (0, u "java/lang/Comparable"), (0, .class_ 307), (0, u "java/lang/constant/Constable"), (0, .class_ 309), (0, u "java/lang/constant/ConstantDesc"), (0, u "MIN_VALUE"), (1, u "MAX_VALUE"), (3, u "SIZE"), (1, u "BYTES"), (1, u "serialVersionUID"), (0, u "J")] 131

def k21c0 : Code := { maxStack := 3, maxLocals := 1, code := jdk_33_method_22_code, exceptionTable := #[], attributes := #[] }
def k21m0 : Method := { name := "valueOf", desc := "(I)Ljava/lang/Integer;", sig := { parameters := [.int], returnType := some (.object "java/lang/Integer") }, accessFlags := 9, code := some k21c0 }
def k21c1 : Code := { maxStack := 1, maxLocals := 1, code := jdk_33_method_27_code, exceptionTable := #[], attributes := #[] }
def k21m1 : Method := { name := "intValue", desc := "()I", sig := { parameters := [], returnType := some .int }, accessFlags := 1, code := some k21c1 }
/-- java/lang/Integer -/
def k21 : Class := { plain "java/lang/Integer" (some 17) with
  accessFlags := 49
  interfaces := #[18, 19, 20]
  cf := some (fileOf pool21 1 #[.nestMembers #[189]] #[{ accessFlags := 9, nameIndex := 187, descriptorIndex := 188, attributes := #[] }, { accessFlags := 1, nameIndex := 213, descriptorIndex := 121, attributes := #[] }] 49 203 #[304, 306, 308] #[{ accessFlags := 25, nameIndex := 310, descriptorIndex := 194, attributes := #[] }, { accessFlags := 25, nameIndex := 312, descriptorIndex := 194, attributes := #[] }, { accessFlags := 25, nameIndex := 302, descriptorIndex := 303, attributes := #[] }, { accessFlags := 24, nameIndex := 19, descriptorIndex := 20, attributes := #[] }, { accessFlags := 24, nameIndex := 89, descriptorIndex := 86, attributes := #[] }, { accessFlags := 24, nameIndex := 85, descriptorIndex := 86, attributes := #[] }, { accessFlags := 18, nameIndex := 207, descriptorIndex := 194, attributes := #[] }, { accessFlags := 25, nameIndex := 316, descriptorIndex := 194, attributes := #[] }, { accessFlags := 25, nameIndex := 318, descriptorIndex := 194, attributes := #[] }, { accessFlags := 26, nameIndex := 320, descriptorIndex := 321, attributes := #[] }])
  fields := #[{ name := "MIN_VALUE", type := .int, accessFlags := 25, slot := 0, constantValue := 0 }, { name := "MAX_VALUE", type := .int, accessFlags := 25, slot := 1, constantValue := 0 }, { name := "TYPE", type := (.object "java/lang/Class"), accessFlags := 25, slot := 2, constantValue := 0 }, { name := "digits", type := (.array .char), accessFlags := 24, slot := 3, constantValue := 0 }, { name := "DigitTens", type := (.array .byte), accessFlags := 24, slot := 4, constantValue := 0 }, { name := "DigitOnes", type := (.array .byte), accessFlags := 24, slot := 5, constantValue := 0 }, { name := "value", type := .int, accessFlags := 18, slot := 0, constantValue := 0 }, { name := "SIZE", type := .int, accessFlags := 25, slot := 6, constantValue := 0 }, { name := "BYTES", type := .int, accessFlags := 25, slot := 7, constantValue := 0 }, { name := "serialVersionUID", type := .long, accessFlags := 26, slot := 8, constantValue := 0 }]
  methods := #[k21m0, k21m1]
  instanceTypes := #[.int]
  staticTypes := #[.int, .int, (.object "java/lang/Class"), (.array .char), (.array .byte), (.array .byte), .int, .int, .long]
  resolved := Array.replicate 453 none
  statics := none }

def pool22 : Array CpInfo := pool [(2, .class_ 4), (1, u "java/lang/Object"), (0, u "<init>"), (0, u "()V"), (0, .class_ 8), (0, u "java/lang/Integer"), (7, .class_ 18), (1, u "java/lang/Integer$IntegerCache"), (0, u "$assertionsDisabled"), (0, u "Z"), (26, u "high"), (0, u "I"), (8, u "archivedCache"), (0, u "[Ljava/lang/Integer;"), (12, u "cache"), (0, u "low")] 27

def k22m0 : Method := { name := "<init>", desc := "()V", sig := { parameters := [], returnType := none }, accessFlags := 2, code := none }
/-- java/lang/Integer$IntegerCache -/
def k22 : Class := { plain "java/lang/Integer$IntegerCache" (some 0) with
  accessFlags := 48
  interfaces := #[]
  cf := some (fileOf pool22 16 #[.nestHost 7] #[{ accessFlags := 2, nameIndex := 5, descriptorIndex := 6, attributes := #[] }] 48 2 #[] #[{ accessFlags := 24, nameIndex := 72, descriptorIndex := 48, attributes := #[] }, { accessFlags := 24, nameIndex := 47, descriptorIndex := 48, attributes := #[] }, { accessFlags := 24, nameIndex := 71, descriptorIndex := 58, attributes := #[] }, { accessFlags := 8, nameIndex := 57, descriptorIndex := 58, attributes := #[] }, { accessFlags := 4120, nameIndex := 19, descriptorIndex := 20, attributes := #[] }])
  fields := #[{ name := "low", type := .int, accessFlags := 24, slot := 0, constantValue := 0 }, { name := "high", type := .int, accessFlags := 24, slot := 1, constantValue := 0 }, { name := "cache", type := (.array (.object "java/lang/Integer")), accessFlags := 24, slot := 2, constantValue := 0 }, { name := "archivedCache", type := (.array (.object "java/lang/Integer")), accessFlags := 8, slot := 3, constantValue := 0 }, { name := "$assertionsDisabled", type := .boolean, accessFlags := 4120, slot := 4, constantValue := 0 }]
  methods := #[k22m0]
  instanceTypes := #[]
  staticTypes := #[.int, .int, (.array (.object "java/lang/Integer")), (.array (.object "java/lang/Integer")), .boolean]
  resolved := Array.replicate 100 none
  statics := some 1 }

def pool23 : Array CpInfo := pool [(9, u "<init>"), (6, .class_ 18), (1, u "java/lang/Object"), (0, u "()V"), (1, .class_ 23), (1, u "jdk/internal/util/ArraysSupport"), (0, u "LOG2_ARRAY_LONG_INDEX_SCALE"), (0, u "I"), (2, u "U"), (0, u "Ljdk/internal/misc/Unsafe;"), (8, u "BIG_ENDIAN"), (0, u "Z"), (8, u "LOG2_BYTE_BIT_SIZE"), (4, u "LOG2_ARRAY_INT_INDEX_SCALE"), (54, u "JLA"), (0, u "Ljdk/internal/access/JavaLangAccess;"), (11, u "LOG2_ARRAY_BOOLEAN_INDEX_SCALE"), (9, u "LOG2_ARRAY_BYTE_INDEX_SCALE"), (5, u "LOG2_ARRAY_CHAR_INDEX_SCALE"), (5, u "LOG2_ARRAY_SHORT_INDEX_SCALE"), (18, u "LOG2_ARRAY_FLOAT_INDEX_SCALE"), (24, u "LOG2_ARRAY_DOUBLE_INDEX_SCALE"), (6, .methodref 195 196), (0, .class_ 197), (0, .nameAndType 198 199), (0, u "java/lang/Math"), (0, u "max"), (0, u "(II)I"), (0, .integer 2147483639), (76, u "T_BOOLEAN"), (2, u "T_CHAR"), (1, u "T_FLOAT"), (1, u "T_DOUBLE"), (1, u "T_BYTE"), (1, u "T_SHORT"), (1, u "T_INT"), (1, u "T_LONG"), (1, u "SOFT_MAX_ARRAY_LENGTH"), (56, u "newLength"), (0, u "(III)I")] 25

def k23m0 : Method := { name := "<init>", desc := "()V", sig := { parameters := [], returnType := none }, accessFlags := 2, code := none }
def k23c1 : Code := { maxStack := 3, maxLocals := 4, code := jdk_48_method_27_code, exceptionTable := #[], attributes := #[] }
def k23m1 : Method := { name := "newLength", desc := "(III)I", sig := { parameters := [.int, .int, .int], returnType := some .int }, accessFlags := 9, code := some k23c1 }
/-- jdk/internal/util/ArraysSupport -/
def k23 : Class := { plain "jdk/internal/util/ArraysSupport" (some 0) with
  accessFlags := 33
  interfaces := #[]
  cf := some (fileOf pool23 21 #[] #[{ accessFlags := 2, nameIndex := 9, descriptorIndex := 19, attributes := #[] }, { accessFlags := 9, nameIndex := 351, descriptorIndex := 352, attributes := #[] }] 33 16 #[] #[{ accessFlags := 24, nameIndex := 28, descriptorIndex := 29, attributes := #[] }, { accessFlags := 26, nameIndex := 38, descriptorIndex := 39, attributes := #[] }, { accessFlags := 25, nameIndex := 121, descriptorIndex := 25, attributes := #[] }, { accessFlags := 25, nameIndex := 131, descriptorIndex := 25, attributes := #[] }, { accessFlags := 25, nameIndex := 137, descriptorIndex := 25, attributes := #[] }, { accessFlags := 25, nameIndex := 143, descriptorIndex := 25, attributes := #[] }, { accessFlags := 25, nameIndex := 53, descriptorIndex := 25, attributes := #[] }, { accessFlags := 25, nameIndex := 24, descriptorIndex := 25, attributes := #[] }, { accessFlags := 25, nameIndex := 162, descriptorIndex := 25, attributes := #[] }, { accessFlags := 25, nameIndex := 187, descriptorIndex := 25, attributes := #[] }, { accessFlags := 26, nameIndex := 48, descriptorIndex := 25, attributes := #[] }, { accessFlags := 25, nameIndex := 277, descriptorIndex := 25, attributes := #[] }, { accessFlags := 25, nameIndex := 280, descriptorIndex := 25, attributes := #[] }, { accessFlags := 25, nameIndex := 282, descriptorIndex := 25, attributes := #[] }, { accessFlags := 25, nameIndex := 284, descriptorIndex := 25, attributes := #[] }, { accessFlags := 25, nameIndex := 286, descriptorIndex := 25, attributes := #[] }, { accessFlags := 25, nameIndex := 288, descriptorIndex := 25, attributes := #[] }, { accessFlags := 25, nameIndex := 290, descriptorIndex := 25, attributes := #[] }, { accessFlags := 25, nameIndex := 292, descriptorIndex := 25, attributes := #[] }, { accessFlags := 26, nameIndex := 108, descriptorIndex := 109, attributes := #[] }, { accessFlags := 25, nameIndex := 294, descriptorIndex := 25, attributes := #[] }])
  fields := #[{ name := "U", type := (.object "jdk/internal/misc/Unsafe"), accessFlags := 24, slot := 0, constantValue := 0 }, { name := "BIG_ENDIAN", type := .boolean, accessFlags := 26, slot := 1, constantValue := 0 }, { name := "LOG2_ARRAY_BOOLEAN_INDEX_SCALE", type := .int, accessFlags := 25, slot := 2, constantValue := 0 }, { name := "LOG2_ARRAY_BYTE_INDEX_SCALE", type := .int, accessFlags := 25, slot := 3, constantValue := 0 }, { name := "LOG2_ARRAY_CHAR_INDEX_SCALE", type := .int, accessFlags := 25, slot := 4, constantValue := 0 }, { name := "LOG2_ARRAY_SHORT_INDEX_SCALE", type := .int, accessFlags := 25, slot := 5, constantValue := 0 }, { name := "LOG2_ARRAY_INT_INDEX_SCALE", type := .int, accessFlags := 25, slot := 6, constantValue := 0 }, { name := "LOG2_ARRAY_LONG_INDEX_SCALE", type := .int, accessFlags := 25, slot := 7, constantValue := 0 }, { name := "LOG2_ARRAY_FLOAT_INDEX_SCALE", type := .int, accessFlags := 25, slot := 8, constantValue := 0 }, { name := "LOG2_ARRAY_DOUBLE_INDEX_SCALE", type := .int, accessFlags := 25, slot := 9, constantValue := 0 }, { name := "LOG2_BYTE_BIT_SIZE", type := .int, accessFlags := 26, slot := 10, constantValue := 0 }, { name := "T_BOOLEAN", type := .int, accessFlags := 25, slot := 11, constantValue := 0 }, { name := "T_CHAR", type := .int, accessFlags := 25, slot := 12, constantValue := 0 }, { name := "T_FLOAT", type := .int, accessFlags := 25, slot := 13, constantValue := 0 }, { name := "T_DOUBLE", type := .int, accessFlags := 25, slot := 14, constantValue := 0 }, { name := "T_BYTE", type := .int, accessFlags := 25, slot := 15, constantValue := 0 }, { name := "T_SHORT", type := .int, accessFlags := 25, slot := 16, constantValue := 0 }, { name := "T_INT", type := .int, accessFlags := 25, slot := 17, constantValue := 0 }, { name := "T_LONG", type := .int, accessFlags := 25, slot := 18, constantValue := 0 }, { name := "JLA", type := (.object "jdk/internal/access/JavaLangAccess"), accessFlags := 26, slot := 19, constantValue := 0 }, { name := "SOFT_MAX_ARRAY_LENGTH", type := .int, accessFlags := 25, slot := 20, constantValue := 0 }]
  methods := #[k23m0, k23m1]
  instanceTypes := #[]
  staticTypes := #[(.object "jdk/internal/misc/Unsafe"), .boolean, .int, .int, .int, .int, .int, .int, .int, .int, .int, .int, .int, .int, .int, .int, .int, .int, .int, (.object "jdk/internal/access/JavaLangAccess"), .int]
  resolved := Array.replicate 378 none
  statics := none }

def pool24 : Array CpInfo := pool [(2, .class_ 4), (1, u "java/lang/Object"), (0, u "<init>"), (0, u "()V"), (7, .class_ 16), (1, u "java/util/Arrays"), (57, .class_ 76), (1, u "java/util/Arrays$NaturalOrder"), (9, .methodref 2 87), (0, .nameAndType 88 89), (0, u "getClass"), (0, u "()Ljava/lang/Class;"), (20, .class_ 111), (0, u "[Ljava/lang/Object;"), (1, .class_ 115), (1, u "java/util/Arrays$LegacyMergeSort"), (1, u "Z"), (32, .methodref 151 152), (0, .class_ 153), (0, .nameAndType 154 155), (0, u "java/lang/System"), (0, u "arraycopy"), (0, u "(Ljava/lang/Object;ILjava/lang/Object;II)V"), (144, .methodref 14 301), (0, .nameAndType 302 303), (0, u "copyOf"), (0, u "([Ljava/lang/Object;ILjava/lang/Class;)[Ljava/lang/Object;"), (0, .methodref 305 306), (0, .class_ 307), (0, .nameAndType 308 309), (0, u "java/lang/Math"), (0, u "min"), (0, u "(II)I"), (65, .class_ 376), (0, u "java/util/Arrays$ArrayList"), (68, u "$assertionsDisabled"), (269, u "MIN_ARRAY_SORT_GRAN"), (0, u "I"), (2, u "INSERTIONSORT_THRESHOLD"), (140, u "([Ljava/lang/Object;I)[Ljava/lang/Object;"), (114, .class_ 976), (0, u "java/util/Arrays$ArrayItr")] 52

def k24m0 : Method := { name := "<init>", desc := "()V", sig := { parameters := [], returnType := none }, accessFlags := 2, code := none }
def k24c1 : Code := { maxStack := 3, maxLocals := 2, code := jdk_65_method_119_code, exceptionTable := #[], attributes := #[] }
def k24m1 : Method := { name := "copyOf", desc := "([Ljava/lang/Object;I)[Ljava/lang/Object;", sig := { parameters := [(.array (.object "java/lang/Object")), .int], returnType := some (.array (.object "java/lang/Object")) }, accessFlags := 9, code := some k24c1 }
def k24c2 : Code := { maxStack := 6, maxLocals := 4, code := jdk_65_method_120_code, exceptionTable := #[], attributes := #[] }
def k24m2 : Method := { name := "copyOf", desc := "([Ljava/lang/Object;ILjava/lang/Class;)[Ljava/lang/Object;", sig := { parameters := [(.array (.object "java/lang/Object")), .int, (.object "java/lang/Class")], returnType := some (.array (.object "java/lang/Object")) }, accessFlags := 9, code := some k24c2 }
/-- java/util/Arrays -/
def k24 : Class := { plain "java/util/Arrays" (some 0) with
  accessFlags := 49
  interfaces := #[]
  cf := some (fileOf pool24 14 #[.nestMembers #[975, 375, 113, 74]] #[{ accessFlags := 2, nameIndex := 5, descriptorIndex := 6, attributes := #[] }, { accessFlags := 9, nameIndex := 302, descriptorIndex := 860, attributes := #[] }, { accessFlags := 9, nameIndex := 302, descriptorIndex := 303, attributes := #[] }] 49 2 #[] #[{ accessFlags := 26, nameIndex := 715, descriptorIndex := 716, attributes := #[] }, { accessFlags := 26, nameIndex := 719, descriptorIndex := 716, attributes := #[] }, { accessFlags := 4120, nameIndex := 445, descriptorIndex := 117, attributes := #[] }])
  fields := #[{ name := "MIN_ARRAY_SORT_GRAN", type := .int, accessFlags := 26, slot := 0, constantValue := 0 }, { name := "INSERTIONSORT_THRESHOLD", type := .int, accessFlags := 26, slot := 1, constantValue := 0 }, { name := "$assertionsDisabled", type := .boolean, accessFlags := 4120, slot := 2, constantValue := 0 }]
  methods := #[k24m0, k24m1, k24m2]
  instanceTypes := #[]
  staticTypes := #[.int, .int, .boolean]
  resolved := Array.replicate 1029 none
  statics := none }

def pool25 : Array CpInfo := pool [(2, .class_ 4), (1, u "java/lang/Object"), (0, u "<init>"), (0, u "()V"), (1, .class_ 10), (1, u "java/lang/System"), (0, u "allowSecurityManager"), (0, u "I"), (16, u "cons"), (0, u "Ljava/io/Console;"), (77, .class_ 110), (1, u "java/lang/System$CallersHolder"), (43, u "initialErrStream"), (0, u "Ljava/io/PrintStream;"), (19, u "security"), (0, u "Ljava/lang/SecurityManager;"), (31, .class_ 209), (0, u "java/lang/System$1"), (7, u "props"), (0, u "Ljava/util/Properties;"), (2, u "lineSeparator"), (0, u "Ljava/lang/String;"), (96, .class_ 321), (1, u "java/lang/System$LoggerFinder"), (5, .class_ 328), (0, u "java/lang/System$Logger"), (67, u "err"), (2, u "out"), (91, u "notSupportedJnuEncoding"), (15, u "in"), (17, u "initialIn"), (0, u "Ljava/io/InputStream;"), (35, u "bootLayer"), (0, u "Ljava/lang/ModuleLayer;"), (99, .class_ 664), (0, u "java/lang/System$2"), (9, u "NEVER"), (2, u "MAYBE"), (49, u "arraycopy"), (0, u "(Ljava/lang/Object;ILjava/lang/Object;II)V"), (72, .class_ 802), (0, u "java/lang/System$Logger$Level")] 31

def k25m0 : Method := { name := "<init>", desc := "()V", sig := { parameters := [], returnType := none }, accessFlags := 2, code := none }
def k25m1 : Method := { name := "arraycopy", desc := "(Ljava/lang/Object;ILjava/lang/Object;II)V", sig := { parameters := [(.object "java/lang/Object"), .int, (.object "java/lang/Object"), .int, .int], returnType := none }, accessFlags := 265, code := none }
/-- java/lang/System -/
def k25 : Class := { plain "java/lang/System" (some 0) with
  accessFlags := 49
  interfaces := #[]
  cf := some (fileOf pool25 8 #[.nestMembers #[319, 327, 801, 108, 663, 208]] #[{ accessFlags := 2, nameIndex := 5, descriptorIndex := 6, attributes := #[] }, { accessFlags := 265, nameIndex := 727, descriptorIndex := 728, attributes := #[] }] 49 2 #[] #[{ accessFlags := 25, nameIndex := 507, descriptorIndex := 526, attributes := #[] }, { accessFlags := 25, nameIndex := 399, descriptorIndex := 155, attributes := #[] }, { accessFlags := 25, nameIndex := 396, descriptorIndex := 155, attributes := #[] }, { accessFlags := 10, nameIndex := 525, descriptorIndex := 526, attributes := #[] }, { accessFlags := 26, nameIndex := 674, descriptorIndex := 12, attributes := #[] }, { accessFlags := 26, nameIndex := 677, descriptorIndex := 12, attributes := #[] }, { accessFlags := 10, nameIndex := 11, descriptorIndex := 12, attributes := #[] }, { accessFlags := 74, nameIndex := 175, descriptorIndex := 176, attributes := #[] }, { accessFlags := 10, nameIndex := 491, descriptorIndex := 222, attributes := #[] }, { accessFlags := 74, nameIndex := 29, descriptorIndex := 30, attributes := #[] }, { accessFlags := 74, nameIndex := 154, descriptorIndex := 155, attributes := #[] }, { accessFlags := 10, nameIndex := 217, descriptorIndex := 218, attributes := #[] }, { accessFlags := 10, nameIndex := 221, descriptorIndex := 222, attributes := #[] }, { accessFlags := 8, nameIndex := 562, descriptorIndex := 563, attributes := #[] }])
  fields := #[{ name := "in", type := (.object "java/io/InputStream"), accessFlags := 25, slot := 0, constantValue := 0 }, { name := "out", type := (.object "java/io/PrintStream"), accessFlags := 25, slot := 1, constantValue := 0 }, { name := "err", type := (.object "java/io/PrintStream"), accessFlags := 25, slot := 2, constantValue := 0 }, { name := "initialIn", type := (.object "java/io/InputStream"), accessFlags := 10, slot := 3, constantValue := 0 }, { name := "NEVER", type := .int, accessFlags := 26, slot := 4, constantValue := 0 }, { name := "MAYBE", type := .int, accessFlags := 26, slot := 5, constantValue := 0 }, { name := "allowSecurityManager", type := .int, accessFlags := 10, slot := 6, constantValue := 0 }, { name := "security", type := (.object "java/lang/SecurityManager"), accessFlags := 74, slot := 7, constantValue := 0 }, { name := "notSupportedJnuEncoding", type := (.object "java/lang/String"), accessFlags := 10, slot := 8, constantValue := 0 }, { name := "cons", type := (.object "java/io/Console"), accessFlags := 74, slot := 9, constantValue := 0 }, { name := "initialErrStream", type := (.object "java/io/PrintStream"), accessFlags := 74, slot := 10, constantValue := 0 }, { name := "props", type := (.object "java/util/Properties"), accessFlags := 10, slot := 11, constantValue := 0 }, { name := "lineSeparator", type := (.object "java/lang/String"), accessFlags := 10, slot := 12, constantValue := 0 }, { name := "bootLayer", type := (.object "java/lang/ModuleLayer"), accessFlags := 8, slot := 13, constantValue := 0 }]
  methods := #[k25m0, k25m1]
  instanceTypes := #[]
  staticTypes := #[(.object "java/io/InputStream"), (.object "java/io/PrintStream"), (.object "java/io/PrintStream"), (.object "java/io/InputStream"), .int, .int, .int, (.object "java/lang/SecurityManager"), (.object "java/lang/String"), (.object "java/io/Console"), (.object "java/io/PrintStream"), (.object "java/util/Properties"), (.object "java/lang/String"), (.object "java/lang/ModuleLayer")]
  resolved := Array.replicate 834 none
  statics := none }

def pool26 : Array CpInfo := pool [(1, u "java/lang/Class"), (0, .class_ 1), (0, u "java/lang/Object"), (0, .class_ 3)] 0

/-- java/lang/Class -/
def k26 : Class := { plain "java/lang/Class" (some 0) with
  accessFlags := 49
  interfaces := #[]
  cf := some (fileOf pool26 2 #[] #[] 49 4 #[] #[])
  fields := #[]
  methods := #[]
  instanceTypes := #[]
  staticTypes := #[]
  resolved := Array.replicate 5 none
  statics := none }

/-- the primitive byte -/
def k27 : Class := { plain "byte" none with kind := .primitive 'B', accessFlags := 0x411 }
/-- [B -/
def k28 : Class := { plain "[B" (some 0) with kind := .array 27 .byte, interfaces := #[9, 10], accessFlags := 1041 }

/-- the primitive int -/
def k29 : Class := { plain "int" none with kind := .primitive 'I', accessFlags := 0x411 }
/-- [I -/
def k30 : Class := { plain "[I" (some 0) with kind := .array 29 .int, interfaces := #[9, 10], accessFlags := 1041 }

/-- [Ljava/lang/Integer; -/
def k31 : Class := { plain "[Ljava/lang/Integer;" (some 0) with kind := .array 21 (.object "java/lang/Integer"), interfaces := #[9, 10], accessFlags := 1041 }

/-- [Ljava/lang/Object; -/
def k32 : Class := { plain "[Ljava/lang/Object;" (some 0) with kind := .array 0 (.object "java/lang/Object"), interfaces := #[9, 10], accessFlags := 1041, mirror := some 2 }

def heap : Heap := #[{ cls := 11, slots := #[.long 0, .int 0, .ref 4, .ref 5], vm := .statics 11 },
  { cls := 22, slots := #[.int 0, .int 127, .ref 3, .null, .int 0], vm := .statics 22 },
  { cls := 26, slots := #[], vm := .mirror 32 },
  { cls := 31, slots := #[.ref 6, .ref 7, .ref 8, .ref 9, .ref 10, .ref 11, .ref 12, .ref 13, .ref 14, .ref 15, .ref 16, .ref 17, .ref 18, .ref 19, .ref 20, .ref 21, .ref 22, .ref 23, .ref 24, .ref 25, .ref 26, .ref 27, .ref 28, .ref 29, .ref 30, .ref 31, .ref 32, .ref 33, .ref 34, .ref 35, .ref 36, .ref 37, .ref 38, .ref 39, .ref 40, .ref 41, .ref 42, .ref 43, .ref 44, .ref 45, .ref 46, .ref 47, .ref 48, .ref 49, .ref 50, .ref 51, .ref 52, .ref 53, .ref 54, .ref 55, .ref 56, .ref 57, .ref 58, .ref 59, .ref 60, .ref 61, .ref 62, .ref 63, .ref 64, .ref 65, .ref 66, .ref 67, .ref 68, .ref 69, .ref 70, .ref 71, .ref 72, .ref 73, .ref 74, .ref 75, .ref 76, .ref 77, .ref 78, .ref 79, .ref 80, .ref 81, .ref 82, .ref 83, .ref 84, .ref 85, .ref 86, .ref 87, .ref 88, .ref 89, .ref 90, .ref 91, .ref 92, .ref 93, .ref 94, .ref 95, .ref 96, .ref 97, .ref 98, .ref 99, .ref 100, .ref 101, .ref 102, .ref 103, .ref 104, .ref 105, .ref 106, .ref 107, .ref 108, .ref 109, .ref 110, .ref 111, .ref 112, .ref 113, .ref 114, .ref 115, .ref 116, .ref 117, .ref 118, .ref 119, .ref 120, .ref 121, .ref 122, .ref 123, .ref 124, .ref 125, .ref 126, .ref 127, .ref 128, .ref 129, .ref 130, .ref 131, .ref 132, .ref 133, .ref 134, .ref 135, .ref 136, .ref 137, .ref 138, .ref 139, .ref 140, .ref 141, .ref 142, .ref 143, .ref 144, .ref 145, .ref 146, .ref 147, .ref 148, .ref 149, .ref 150, .ref 151, .ref 152, .ref 153, .ref 154, .ref 155, .ref 156, .ref 157, .ref 158, .ref 159, .ref 160, .ref 161, .ref 162, .ref 163, .ref 164, .ref 165, .ref 166, .ref 167, .ref 168, .ref 169, .ref 170, .ref 171, .ref 172, .ref 173, .ref 174, .ref 175, .ref 176, .ref 177, .ref 178, .ref 179, .ref 180, .ref 181, .ref 182, .ref 183, .ref 184, .ref 185, .ref 186, .ref 187, .ref 188, .ref 189, .ref 190, .ref 191, .ref 192, .ref 193, .ref 194, .ref 195, .ref 196, .ref 197, .ref 198, .ref 199, .ref 200, .ref 201, .ref 202, .ref 203, .ref 204, .ref 205, .ref 206, .ref 207, .ref 208, .ref 209, .ref 210, .ref 211, .ref 212, .ref 213, .ref 214, .ref 215, .ref 216, .ref 217, .ref 218, .ref 219, .ref 220, .ref 221, .ref 222, .ref 223, .ref 224, .ref 225, .ref 226, .ref 227, .ref 228, .ref 229, .ref 230, .ref 231, .ref 232, .ref 233, .ref 234, .ref 235, .ref 236, .ref 237, .ref 238, .ref 239, .ref 240, .ref 241, .ref 242, .ref 243, .ref 244, .ref 245, .ref 246, .ref 247, .ref 248, .ref 249, .ref 250, .ref 251, .ref 252, .ref 253, .ref 254, .ref 255, .ref 256, .ref 257, .ref 258, .ref 259, .ref 260, .ref 261], vm := .none },
  { cls := 32, slots := #[], vm := .none },
  { cls := 32, slots := #[], vm := .none },
  { cls := 21, slots := #[.int (-128)], vm := .none },
  { cls := 21, slots := #[.int (-127)], vm := .none },
  { cls := 21, slots := #[.int (-126)], vm := .none },
  { cls := 21, slots := #[.int (-125)], vm := .none },
  { cls := 21, slots := #[.int (-124)], vm := .none },
  { cls := 21, slots := #[.int (-123)], vm := .none },
  { cls := 21, slots := #[.int (-122)], vm := .none },
  { cls := 21, slots := #[.int (-121)], vm := .none },
  { cls := 21, slots := #[.int (-120)], vm := .none },
  { cls := 21, slots := #[.int (-119)], vm := .none },
  { cls := 21, slots := #[.int (-118)], vm := .none },
  { cls := 21, slots := #[.int (-117)], vm := .none },
  { cls := 21, slots := #[.int (-116)], vm := .none },
  { cls := 21, slots := #[.int (-115)], vm := .none },
  { cls := 21, slots := #[.int (-114)], vm := .none },
  { cls := 21, slots := #[.int (-113)], vm := .none },
  { cls := 21, slots := #[.int (-112)], vm := .none },
  { cls := 21, slots := #[.int (-111)], vm := .none },
  { cls := 21, slots := #[.int (-110)], vm := .none },
  { cls := 21, slots := #[.int (-109)], vm := .none },
  { cls := 21, slots := #[.int (-108)], vm := .none },
  { cls := 21, slots := #[.int (-107)], vm := .none },
  { cls := 21, slots := #[.int (-106)], vm := .none },
  { cls := 21, slots := #[.int (-105)], vm := .none },
  { cls := 21, slots := #[.int (-104)], vm := .none },
  { cls := 21, slots := #[.int (-103)], vm := .none },
  { cls := 21, slots := #[.int (-102)], vm := .none },
  { cls := 21, slots := #[.int (-101)], vm := .none },
  { cls := 21, slots := #[.int (-100)], vm := .none },
  { cls := 21, slots := #[.int (-99)], vm := .none },
  { cls := 21, slots := #[.int (-98)], vm := .none },
  { cls := 21, slots := #[.int (-97)], vm := .none },
  { cls := 21, slots := #[.int (-96)], vm := .none },
  { cls := 21, slots := #[.int (-95)], vm := .none },
  { cls := 21, slots := #[.int (-94)], vm := .none },
  { cls := 21, slots := #[.int (-93)], vm := .none },
  { cls := 21, slots := #[.int (-92)], vm := .none },
  { cls := 21, slots := #[.int (-91)], vm := .none },
  { cls := 21, slots := #[.int (-90)], vm := .none },
  { cls := 21, slots := #[.int (-89)], vm := .none },
  { cls := 21, slots := #[.int (-88)], vm := .none },
  { cls := 21, slots := #[.int (-87)], vm := .none },
  { cls := 21, slots := #[.int (-86)], vm := .none },
  { cls := 21, slots := #[.int (-85)], vm := .none },
  { cls := 21, slots := #[.int (-84)], vm := .none },
  { cls := 21, slots := #[.int (-83)], vm := .none },
  { cls := 21, slots := #[.int (-82)], vm := .none },
  { cls := 21, slots := #[.int (-81)], vm := .none },
  { cls := 21, slots := #[.int (-80)], vm := .none },
  { cls := 21, slots := #[.int (-79)], vm := .none },
  { cls := 21, slots := #[.int (-78)], vm := .none },
  { cls := 21, slots := #[.int (-77)], vm := .none },
  { cls := 21, slots := #[.int (-76)], vm := .none },
  { cls := 21, slots := #[.int (-75)], vm := .none },
  { cls := 21, slots := #[.int (-74)], vm := .none },
  { cls := 21, slots := #[.int (-73)], vm := .none },
  { cls := 21, slots := #[.int (-72)], vm := .none },
  { cls := 21, slots := #[.int (-71)], vm := .none },
  { cls := 21, slots := #[.int (-70)], vm := .none },
  { cls := 21, slots := #[.int (-69)], vm := .none },
  { cls := 21, slots := #[.int (-68)], vm := .none },
  { cls := 21, slots := #[.int (-67)], vm := .none },
  { cls := 21, slots := #[.int (-66)], vm := .none },
  { cls := 21, slots := #[.int (-65)], vm := .none },
  { cls := 21, slots := #[.int (-64)], vm := .none },
  { cls := 21, slots := #[.int (-63)], vm := .none },
  { cls := 21, slots := #[.int (-62)], vm := .none },
  { cls := 21, slots := #[.int (-61)], vm := .none },
  { cls := 21, slots := #[.int (-60)], vm := .none },
  { cls := 21, slots := #[.int (-59)], vm := .none },
  { cls := 21, slots := #[.int (-58)], vm := .none },
  { cls := 21, slots := #[.int (-57)], vm := .none },
  { cls := 21, slots := #[.int (-56)], vm := .none },
  { cls := 21, slots := #[.int (-55)], vm := .none },
  { cls := 21, slots := #[.int (-54)], vm := .none },
  { cls := 21, slots := #[.int (-53)], vm := .none },
  { cls := 21, slots := #[.int (-52)], vm := .none },
  { cls := 21, slots := #[.int (-51)], vm := .none },
  { cls := 21, slots := #[.int (-50)], vm := .none },
  { cls := 21, slots := #[.int (-49)], vm := .none },
  { cls := 21, slots := #[.int (-48)], vm := .none },
  { cls := 21, slots := #[.int (-47)], vm := .none },
  { cls := 21, slots := #[.int (-46)], vm := .none },
  { cls := 21, slots := #[.int (-45)], vm := .none },
  { cls := 21, slots := #[.int (-44)], vm := .none },
  { cls := 21, slots := #[.int (-43)], vm := .none },
  { cls := 21, slots := #[.int (-42)], vm := .none },
  { cls := 21, slots := #[.int (-41)], vm := .none },
  { cls := 21, slots := #[.int (-40)], vm := .none },
  { cls := 21, slots := #[.int (-39)], vm := .none },
  { cls := 21, slots := #[.int (-38)], vm := .none },
  { cls := 21, slots := #[.int (-37)], vm := .none },
  { cls := 21, slots := #[.int (-36)], vm := .none },
  { cls := 21, slots := #[.int (-35)], vm := .none },
  { cls := 21, slots := #[.int (-34)], vm := .none },
  { cls := 21, slots := #[.int (-33)], vm := .none },
  { cls := 21, slots := #[.int (-32)], vm := .none },
  { cls := 21, slots := #[.int (-31)], vm := .none },
  { cls := 21, slots := #[.int (-30)], vm := .none },
  { cls := 21, slots := #[.int (-29)], vm := .none },
  { cls := 21, slots := #[.int (-28)], vm := .none },
  { cls := 21, slots := #[.int (-27)], vm := .none },
  { cls := 21, slots := #[.int (-26)], vm := .none },
  { cls := 21, slots := #[.int (-25)], vm := .none },
  { cls := 21, slots := #[.int (-24)], vm := .none },
  { cls := 21, slots := #[.int (-23)], vm := .none },
  { cls := 21, slots := #[.int (-22)], vm := .none },
  { cls := 21, slots := #[.int (-21)], vm := .none },
  { cls := 21, slots := #[.int (-20)], vm := .none },
  { cls := 21, slots := #[.int (-19)], vm := .none },
  { cls := 21, slots := #[.int (-18)], vm := .none },
  { cls := 21, slots := #[.int (-17)], vm := .none },
  { cls := 21, slots := #[.int (-16)], vm := .none },
  { cls := 21, slots := #[.int (-15)], vm := .none },
  { cls := 21, slots := #[.int (-14)], vm := .none },
  { cls := 21, slots := #[.int (-13)], vm := .none },
  { cls := 21, slots := #[.int (-12)], vm := .none },
  { cls := 21, slots := #[.int (-11)], vm := .none },
  { cls := 21, slots := #[.int (-10)], vm := .none },
  { cls := 21, slots := #[.int (-9)], vm := .none },
  { cls := 21, slots := #[.int (-8)], vm := .none },
  { cls := 21, slots := #[.int (-7)], vm := .none },
  { cls := 21, slots := #[.int (-6)], vm := .none },
  { cls := 21, slots := #[.int (-5)], vm := .none },
  { cls := 21, slots := #[.int (-4)], vm := .none },
  { cls := 21, slots := #[.int (-3)], vm := .none },
  { cls := 21, slots := #[.int (-2)], vm := .none },
  { cls := 21, slots := #[.int (-1)], vm := .none },
  { cls := 21, slots := #[.int (0)], vm := .none },
  { cls := 21, slots := #[.int (1)], vm := .none },
  { cls := 21, slots := #[.int (2)], vm := .none },
  { cls := 21, slots := #[.int (3)], vm := .none },
  { cls := 21, slots := #[.int (4)], vm := .none },
  { cls := 21, slots := #[.int (5)], vm := .none },
  { cls := 21, slots := #[.int (6)], vm := .none },
  { cls := 21, slots := #[.int (7)], vm := .none },
  { cls := 21, slots := #[.int (8)], vm := .none },
  { cls := 21, slots := #[.int (9)], vm := .none },
  { cls := 21, slots := #[.int (10)], vm := .none },
  { cls := 21, slots := #[.int (11)], vm := .none },
  { cls := 21, slots := #[.int (12)], vm := .none },
  { cls := 21, slots := #[.int (13)], vm := .none },
  { cls := 21, slots := #[.int (14)], vm := .none },
  { cls := 21, slots := #[.int (15)], vm := .none },
  { cls := 21, slots := #[.int (16)], vm := .none },
  { cls := 21, slots := #[.int (17)], vm := .none },
  { cls := 21, slots := #[.int (18)], vm := .none },
  { cls := 21, slots := #[.int (19)], vm := .none },
  { cls := 21, slots := #[.int (20)], vm := .none },
  { cls := 21, slots := #[.int (21)], vm := .none },
  { cls := 21, slots := #[.int (22)], vm := .none },
  { cls := 21, slots := #[.int (23)], vm := .none },
  { cls := 21, slots := #[.int (24)], vm := .none },
  { cls := 21, slots := #[.int (25)], vm := .none },
  { cls := 21, slots := #[.int (26)], vm := .none },
  { cls := 21, slots := #[.int (27)], vm := .none },
  { cls := 21, slots := #[.int (28)], vm := .none },
  { cls := 21, slots := #[.int (29)], vm := .none },
  { cls := 21, slots := #[.int (30)], vm := .none },
  { cls := 21, slots := #[.int (31)], vm := .none },
  { cls := 21, slots := #[.int (32)], vm := .none },
  { cls := 21, slots := #[.int (33)], vm := .none },
  { cls := 21, slots := #[.int (34)], vm := .none },
  { cls := 21, slots := #[.int (35)], vm := .none },
  { cls := 21, slots := #[.int (36)], vm := .none },
  { cls := 21, slots := #[.int (37)], vm := .none },
  { cls := 21, slots := #[.int (38)], vm := .none },
  { cls := 21, slots := #[.int (39)], vm := .none },
  { cls := 21, slots := #[.int (40)], vm := .none },
  { cls := 21, slots := #[.int (41)], vm := .none },
  { cls := 21, slots := #[.int (42)], vm := .none },
  { cls := 21, slots := #[.int (43)], vm := .none },
  { cls := 21, slots := #[.int (44)], vm := .none },
  { cls := 21, slots := #[.int (45)], vm := .none },
  { cls := 21, slots := #[.int (46)], vm := .none },
  { cls := 21, slots := #[.int (47)], vm := .none },
  { cls := 21, slots := #[.int (48)], vm := .none },
  { cls := 21, slots := #[.int (49)], vm := .none },
  { cls := 21, slots := #[.int (50)], vm := .none },
  { cls := 21, slots := #[.int (51)], vm := .none },
  { cls := 21, slots := #[.int (52)], vm := .none },
  { cls := 21, slots := #[.int (53)], vm := .none },
  { cls := 21, slots := #[.int (54)], vm := .none },
  { cls := 21, slots := #[.int (55)], vm := .none },
  { cls := 21, slots := #[.int (56)], vm := .none },
  { cls := 21, slots := #[.int (57)], vm := .none },
  { cls := 21, slots := #[.int (58)], vm := .none },
  { cls := 21, slots := #[.int (59)], vm := .none },
  { cls := 21, slots := #[.int (60)], vm := .none },
  { cls := 21, slots := #[.int (61)], vm := .none },
  { cls := 21, slots := #[.int (62)], vm := .none },
  { cls := 21, slots := #[.int (63)], vm := .none },
  { cls := 21, slots := #[.int (64)], vm := .none },
  { cls := 21, slots := #[.int (65)], vm := .none },
  { cls := 21, slots := #[.int (66)], vm := .none },
  { cls := 21, slots := #[.int (67)], vm := .none },
  { cls := 21, slots := #[.int (68)], vm := .none },
  { cls := 21, slots := #[.int (69)], vm := .none },
  { cls := 21, slots := #[.int (70)], vm := .none },
  { cls := 21, slots := #[.int (71)], vm := .none },
  { cls := 21, slots := #[.int (72)], vm := .none },
  { cls := 21, slots := #[.int (73)], vm := .none },
  { cls := 21, slots := #[.int (74)], vm := .none },
  { cls := 21, slots := #[.int (75)], vm := .none },
  { cls := 21, slots := #[.int (76)], vm := .none },
  { cls := 21, slots := #[.int (77)], vm := .none },
  { cls := 21, slots := #[.int (78)], vm := .none },
  { cls := 21, slots := #[.int (79)], vm := .none },
  { cls := 21, slots := #[.int (80)], vm := .none },
  { cls := 21, slots := #[.int (81)], vm := .none },
  { cls := 21, slots := #[.int (82)], vm := .none },
  { cls := 21, slots := #[.int (83)], vm := .none },
  { cls := 21, slots := #[.int (84)], vm := .none },
  { cls := 21, slots := #[.int (85)], vm := .none },
  { cls := 21, slots := #[.int (86)], vm := .none },
  { cls := 21, slots := #[.int (87)], vm := .none },
  { cls := 21, slots := #[.int (88)], vm := .none },
  { cls := 21, slots := #[.int (89)], vm := .none },
  { cls := 21, slots := #[.int (90)], vm := .none },
  { cls := 21, slots := #[.int (91)], vm := .none },
  { cls := 21, slots := #[.int (92)], vm := .none },
  { cls := 21, slots := #[.int (93)], vm := .none },
  { cls := 21, slots := #[.int (94)], vm := .none },
  { cls := 21, slots := #[.int (95)], vm := .none },
  { cls := 21, slots := #[.int (96)], vm := .none },
  { cls := 21, slots := #[.int (97)], vm := .none },
  { cls := 21, slots := #[.int (98)], vm := .none },
  { cls := 21, slots := #[.int (99)], vm := .none },
  { cls := 21, slots := #[.int (100)], vm := .none },
  { cls := 21, slots := #[.int (101)], vm := .none },
  { cls := 21, slots := #[.int (102)], vm := .none },
  { cls := 21, slots := #[.int (103)], vm := .none },
  { cls := 21, slots := #[.int (104)], vm := .none },
  { cls := 21, slots := #[.int (105)], vm := .none },
  { cls := 21, slots := #[.int (106)], vm := .none },
  { cls := 21, slots := #[.int (107)], vm := .none },
  { cls := 21, slots := #[.int (108)], vm := .none },
  { cls := 21, slots := #[.int (109)], vm := .none },
  { cls := 21, slots := #[.int (110)], vm := .none },
  { cls := 21, slots := #[.int (111)], vm := .none },
  { cls := 21, slots := #[.int (112)], vm := .none },
  { cls := 21, slots := #[.int (113)], vm := .none },
  { cls := 21, slots := #[.int (114)], vm := .none },
  { cls := 21, slots := #[.int (115)], vm := .none },
  { cls := 21, slots := #[.int (116)], vm := .none },
  { cls := 21, slots := #[.int (117)], vm := .none },
  { cls := 21, slots := #[.int (118)], vm := .none },
  { cls := 21, slots := #[.int (119)], vm := .none },
  { cls := 21, slots := #[.int (120)], vm := .none },
  { cls := 21, slots := #[.int (121)], vm := .none },
  { cls := 21, slots := #[.int (122)], vm := .none },
  { cls := 21, slots := #[.int (123)], vm := .none },
  { cls := 21, slots := #[.int (124)], vm := .none },
  { cls := 21, slots := #[.int (125)], vm := .none },
  { cls := 21, slots := #[.int (126)], vm := .none },
  { cls := 21, slots := #[.int (127)], vm := .none }]
def classes : Array Class := #[k0, k1, k2, k3, k4, k5, k6, k7, k8, k9, k10, k11, k12, k13, k14, k15, k16, k17, k18, k19, k20, k21, k22, k23, k24, k25, k26, k27, k28, k29, k30, k31, k32]
def interned : List (Array UInt16 × Addr) := []
def slotsUsed : Nat := 521
def theMethod : MethodId := ⟨1, 2⟩
def args0 : Array Value := #[.int 25, .int 1, .int 3]
def aboutOver (below : List Frame) : State where
  vm := { classes := classes, interned := interned.toArray }
  heap := heap
  slotsUsed := slotsUsed
  threads := #[{ frames := .invoking theMethod args0 :: below }]
def below0 : List Frame := [.native { method := ⟨0, 0⟩, args := #[] }]
def about1 : State := aboutOver below0
def p0 : Program := .bare "" "" ""
def e0 : Env := launch0.env 0 0 0
theorem w_frames : about1.frames = Frame.invoking theMethod args0 :: below0 := rfl
set_option maxRecDepth 65536 in
theorem w_args : argsFit about1.vm theMethod args0 = true := by decide +kernel
set_option maxRecDepth 65536 in
theorem w_heap : heapFits about1 = true := by decide +kernel
set_option maxRecDepth 65536 in
theorem w_runnable : about1.curStatus? = some .runnable := by decide +kernel
set_option maxRecDepth 65536 in
theorem w_alone : about1.alone = true := by decide +kernel
set_option maxRecDepth 65536 in
theorem w_named : about1.methodNamed? x = some theMethod := by decide +kernel
set_option maxRecDepth 65536 in
theorem w_hears : about1.hears theMethod below0 = true := by decide +kernel
set_option maxRecDepth 65536 in
theorem w_ripe : about1.ripe theMethod args0 below0 = true := by decide +kernel
theorem w_running : about1.status = .running := rfl
set_option maxRecDepth 65536 in
theorem w_room : about1.hasRoom e0.platform room_1 = true :=
  launch0.hasRoom_least _ room_1 (by decide +kernel) (by decide +kernel) (by decide +kernel) (by decide +kernel) (by decide +kernel) (by decide +kernel)
theorem allAtoms_all (ts : List Jvm.Cond) (a : Array Jvm.Value) (st : Jvm.State) : (allAtoms ts).before a st = ts.all (fun c => c.before a st) := by
  induction ts with
  | nil => rfl
  | cons c t ih =>
    show (Jvm.Cond.and c (allAtoms t)).before a st = _
    rw [Jvm.Cond.before_and, ih, List.all_cons]
def words1 : List Jvm.Cond := Jvm.Cond.code x code maxLocals ret :: tables_1
/-- a 'code' word, met by the world's own term for the bytes: nothing is compared byte by byte -/
theorem code_word {y : MethodName} {bytes : ByteArray} {mx : Nat} {rt : Option FieldType} {a : Array Value} {s : State} {m : MethodId} {meth : Method} {c : Code} (h1 : s.methodNamed? y = some m) (h2 : s.vm.method? m = some meth) (h3 : meth.code = some c) (h4 : c.code = bytes)
    (h5 : (c.maxLocals == mx && c.exceptionTable.isEmpty && decide (c.maxStack ≤ mostOperands) && decide (meth.sig.returnType = rt) && !meth.locks && decide (parseMethodDescriptor y.desc = some meth.sig)) = true) : (Jvm.Cond.code y bytes mx rt).before a s = true := by
  simp only [Bool.and_eq_true, beq_iff_eq, Bool.not_eq_true', decide_eq_true_eq] at h5
  obtain ⟨⟨⟨⟨⟨g1, g2⟩, g3⟩, g4⟩, g5⟩, g6⟩ := h5
  simp [Cond.before, Cond.holds, Cond.value, h1, h2, h3, h4, g1, g2, g3, g4, g5, g6]
def isCode : Jvm.Cond → Bool
  | .code _ _ _ _ => true
  | _ => false
theorem all_split {L : List Jvm.Cond} {P : Jvm.Cond → Bool} (h1 : L.all (fun c => isCode c || P c) = true) (h2 : ∀ c ∈ L.filter isCode, P c = true) : L.all P = true := by
  refine List.all_eq_true.mpr fun c hc => ?_
  have h := List.all_eq_true.mp h1 c hc
  rcases Bool.eq_false_or_eq_true (isCode c) with hi | hi
  · exact h2 c (List.mem_filter.mpr ⟨hc, hi⟩)
  · simpa [hi] using h
set_option maxRecDepth 65536 in
theorem w_c0 : (Jvm.Cond.code x code maxLocals ret).before args0 about1 = true := code_word (m := ⟨1, 2⟩) (meth := k1m2) (c := k1c2) (by decide +kernel) rfl rfl rfl (by decide +kernel)
set_option maxRecDepth 65536 in
theorem w_c1 : (Jvm.Cond.code ({ cls := "java/util/ArrayList", name := "<init>", desc := "()V" } : Jvm.MethodName) jdk_38_method_2_code (1 : Nat) (Option.none : Option Jvm.ClassFile.FieldType)).before args0 about1 = true := code_word (m := ⟨11, 0⟩) (meth := k11m0) (c := k11c0) (by decide +kernel) rfl rfl rfl (by decide +kernel)
set_option maxRecDepth 65536 in
theorem w_c2 : (Jvm.Cond.code ({ cls := "java/util/AbstractList", name := "<init>", desc := "()V" } : Jvm.MethodName) jdk_39_method_1_code (1 : Nat) (Option.none : Option Jvm.ClassFile.FieldType)).before args0 about1 = true := code_word (m := ⟨7, 0⟩) (meth := k7m0) (c := k7c0) (by decide +kernel) rfl rfl rfl (by decide +kernel)
set_option maxRecDepth 65536 in
theorem w_c3 : (Jvm.Cond.code ({ cls := "java/util/AbstractCollection", name := "<init>", desc := "()V" } : Jvm.MethodName) jdk_22_method_1_code (1 : Nat) (Option.none : Option Jvm.ClassFile.FieldType)).before args0 about1 = true := code_word (m := ⟨4, 0⟩) (meth := k4m0) (c := k4c0) (by decide +kernel) rfl rfl rfl (by decide +kernel)
set_option maxRecDepth 65536 in
theorem w_c4 : (Jvm.Cond.code ({ cls := "java/lang/Object", name := "<init>", desc := "()V" } : Jvm.MethodName) object_method_1_code (1 : Nat) (Option.none : Option Jvm.ClassFile.FieldType)).before args0 about1 = true := code_word (m := ⟨0, 0⟩) (meth := k0m0) (c := k0c0) (by decide +kernel) rfl rfl rfl (by decide +kernel)
set_option maxRecDepth 65536 in
theorem w_c5 : (Jvm.Cond.code ({ cls := "com/example/presswright/presswright/publishing/PagingPagesPinLaw", name := "fill8", desc := "(Ljava/util/ArrayList;II)V" } : Jvm.MethodName) method_2_code (3 : Nat) (Option.none : Option Jvm.ClassFile.FieldType)).before args0 about1 = true := code_word (m := ⟨1, 1⟩) (meth := k1m1) (c := k1c1) (by decide +kernel) rfl rfl rfl (by decide +kernel)
set_option maxRecDepth 65536 in
theorem w_c6 : (Jvm.Cond.code ({ cls := "com/example/presswright/presswright/publishing/Paging", name := "pages", desc := "(Ljava/util/List;)Ljava/util/List;" } : Jvm.MethodName) prog_12_method_2_code (3 : Nat) (Option.some (Jvm.ClassFile.FieldType.object "java/util/List"))).before args0 about1 = true := code_word (m := ⟨12, 1⟩) (meth := k12m1) (c := k12c1) (by decide +kernel) rfl rfl rfl (by decide +kernel)
set_option maxRecDepth 65536 in
theorem w_c7 : (Jvm.Cond.code ({ cls := "java/util/ArrayList", name := "size", desc := "()I" } : Jvm.MethodName) jdk_38_method_8_code (1 : Nat) (Option.some Jvm.ClassFile.FieldType.int)).before args0 about1 = true := code_word (m := ⟨11, 3⟩) (meth := k11m3) (c := k11c3) (by decide +kernel) rfl rfl rfl (by decide +kernel)
set_option maxRecDepth 65536 in
theorem w_c8 : (Jvm.Cond.code ({ cls := "java/lang/Math", name := "min", desc := "(II)I" } : Jvm.MethodName) jdk_29_method_69_code (2 : Nat) (Option.some Jvm.ClassFile.FieldType.int)).before args0 about1 = true := code_word (m := ⟨13, 2⟩) (meth := k13m2) (c := k13c2) (by decide +kernel) rfl rfl rfl (by decide +kernel)
set_option maxRecDepth 65536 in
theorem w_c9 : (Jvm.Cond.code ({ cls := "java/util/ArrayList", name := "subList", desc := "(II)Ljava/util/List;" } : Jvm.MethodName) jdk_38_method_56_code (3 : Nat) (Option.some (Jvm.ClassFile.FieldType.object "java/util/List"))).before args0 about1 = true := code_word (m := ⟨11, 8⟩) (meth := k11m8) (c := k11c8) (by decide +kernel) rfl rfl rfl (by decide +kernel)
set_option maxRecDepth 65536 in
theorem w_c10 : (Jvm.Cond.code ({ cls := "java/util/AbstractList", name := "subListRangeCheck", desc := "(III)V" } : Jvm.MethodName) jdk_39_method_15_code (3 : Nat) (Option.none : Option Jvm.ClassFile.FieldType)).before args0 about1 = true := code_word (m := ⟨7, 1⟩) (meth := k7m1) (c := k7c1) (by decide +kernel) rfl rfl rfl (by decide +kernel)
set_option maxRecDepth 65536 in
theorem w_c11 : (Jvm.Cond.code ({ cls := "java/util/ArrayList$SubList", name := "<init>", desc := "(Ljava/util/ArrayList;II)V" } : Jvm.MethodName) jdk_130_method_1_code (4 : Nat) (Option.none : Option Jvm.ClassFile.FieldType)).before args0 about1 = true := code_word (m := ⟨14, 0⟩) (meth := k14m0) (c := k14c0) (by decide +kernel) rfl rfl rfl (by decide +kernel)
set_option maxRecDepth 65536 in
theorem w_c12 : (Jvm.Cond.code ({ cls := "java/util/ArrayList", name := "add", desc := "(Ljava/lang/Object;)Z" } : Jvm.MethodName) jdk_38_method_25_code (2 : Nat) (Option.some Jvm.ClassFile.FieldType.boolean)).before args0 about1 = true := code_word (m := ⟨11, 7⟩) (meth := k11m7) (c := k11c7) (by decide +kernel) rfl rfl rfl (by decide +kernel)
set_option maxRecDepth 65536 in
theorem w_c13 : (Jvm.Cond.code ({ cls := "java/util/ArrayList", name := "add", desc := "(Ljava/lang/Object;[Ljava/lang/Object;I)V" } : Jvm.MethodName) jdk_38_method_24_code (4 : Nat) (Option.none : Option Jvm.ClassFile.FieldType)).before args0 about1 = true := code_word (m := ⟨11, 6⟩) (meth := k11m6) (c := k11c6) (by decide +kernel) rfl rfl rfl (by decide +kernel)
set_option maxRecDepth 65536 in
theorem w_c14 : (Jvm.Cond.code ({ cls := "java/util/ArrayList", name := "grow", desc := "()[Ljava/lang/Object;" } : Jvm.MethodName) jdk_38_method_7_code (1 : Nat) (Option.some (Jvm.ClassFile.FieldType.array (Jvm.ClassFile.FieldType.object "java/lang/Object")))).before args0 about1 = true := code_word (m := ⟨11, 2⟩) (meth := k11m2) (c := k11c2) (by decide +kernel) rfl rfl rfl (by decide +kernel)
set_option maxRecDepth 65536 in
theorem w_c15 : (Jvm.Cond.code ({ cls := "java/util/ArrayList", name := "grow", desc := "(I)[Ljava/lang/Object;" } : Jvm.MethodName) jdk_38_method_6_code (4 : Nat) (Option.some (Jvm.ClassFile.FieldType.array (Jvm.ClassFile.FieldType.object "java/lang/Object")))).before args0 about1 = true := code_word (m := ⟨11, 1⟩) (meth := k11m1) (c := k11c1) (by decide +kernel) rfl rfl rfl (by decide +kernel)
set_option maxRecDepth 65536 in
theorem w_c16 : (Jvm.Cond.code ({ cls := "java/lang/Math", name := "max", desc := "(II)I" } : Jvm.MethodName) jdk_29_method_65_code (2 : Nat) (Option.some Jvm.ClassFile.FieldType.int)).before args0 about1 = true := code_word (m := ⟨13, 1⟩) (meth := k13m1) (c := k13c1) (by decide +kernel) rfl rfl rfl (by decide +kernel)
set_option maxRecDepth 65536 in
theorem w_c17 : (Jvm.Cond.code ({ cls := "java/util/ArrayList", name := "get", desc := "(I)Ljava/lang/Object;" } : Jvm.MethodName) jdk_38_method_20_code (2 : Nat) (Option.some (Jvm.ClassFile.FieldType.object "java/lang/Object"))).before args0 about1 = true := code_word (m := ⟨11, 5⟩) (meth := k11m5) (c := k11c5) (by decide +kernel) rfl rfl rfl (by decide +kernel)
set_option maxRecDepth 65536 in
theorem w_c18 : (Jvm.Cond.code ({ cls := "java/util/Objects", name := "checkIndex", desc := "(II)I" } : Jvm.MethodName) jdk_31_method_17_code (2 : Nat) (Option.some Jvm.ClassFile.FieldType.int)).before args0 about1 = true := code_word (m := ⟨15, 1⟩) (meth := k15m1) (c := k15c1) (by decide +kernel) rfl rfl rfl (by decide +kernel)
set_option maxRecDepth 65536 in
theorem w_c19 : (Jvm.Cond.code ({ cls := "jdk/internal/util/Preconditions", name := "checkIndex", desc := "(IILjava/util/function/BiFunction;)I" } : Jvm.MethodName) jdk_41_method_11_code (3 : Nat) (Option.some Jvm.ClassFile.FieldType.int)).before args0 about1 = true := code_word (m := ⟨16, 1⟩) (meth := k16m1) (c := k16c1) (by decide +kernel) rfl rfl rfl (by decide +kernel)
set_option maxRecDepth 65536 in
theorem w_c20 : (Jvm.Cond.code ({ cls := "java/util/ArrayList", name := "elementData", desc := "(I)Ljava/lang/Object;" } : Jvm.MethodName) jdk_38_method_18_code (2 : Nat) (Option.some (Jvm.ClassFile.FieldType.object "java/lang/Object"))).before args0 about1 = true := code_word (m := ⟨11, 4⟩) (meth := k11m4) (c := k11c4) (by decide +kernel) rfl rfl rfl (by decide +kernel)
set_option maxRecDepth 65536 in
theorem w_c21 : (Jvm.Cond.code ({ cls := "java/util/ArrayList$SubList", name := "size", desc := "()I" } : Jvm.MethodName) jdk_130_method_5_code (1 : Nat) (Option.some Jvm.ClassFile.FieldType.int)).before args0 about1 = true := code_word (m := ⟨14, 2⟩) (meth := k14m2) (c := k14c2) (by decide +kernel) rfl rfl rfl (by decide +kernel)
set_option maxRecDepth 65536 in
theorem w_c22 : (Jvm.Cond.code ({ cls := "java/util/ArrayList$SubList", name := "checkForComodification", desc := "()V" } : Jvm.MethodName) jdk_130_method_28_code (1 : Nat) (Option.none : Option Jvm.ClassFile.FieldType)).before args0 about1 = true := code_word (m := ⟨14, 3⟩) (meth := k14m3) (c := k14c3) (by decide +kernel) rfl rfl rfl (by decide +kernel)
set_option maxRecDepth 65536 in
theorem w_c23 : (Jvm.Cond.code ({ cls := "java/lang/Integer", name := "valueOf", desc := "(I)Ljava/lang/Integer;" } : Jvm.MethodName) jdk_33_method_22_code (1 : Nat) (Option.some (Jvm.ClassFile.FieldType.object "java/lang/Integer"))).before args0 about1 = true := code_word (m := ⟨21, 0⟩) (meth := k21m0) (c := k21c0) (by decide +kernel) rfl rfl rfl (by decide +kernel)
set_option maxRecDepth 65536 in
theorem w_c24 : (Jvm.Cond.code ({ cls := "java/util/ArrayList$SubList", name := "get", desc := "(I)Ljava/lang/Object;" } : Jvm.MethodName) jdk_130_method_4_code (2 : Nat) (Option.some (Jvm.ClassFile.FieldType.object "java/lang/Object"))).before args0 about1 = true := code_word (m := ⟨14, 1⟩) (meth := k14m1) (c := k14c1) (by decide +kernel) rfl rfl rfl (by decide +kernel)
set_option maxRecDepth 65536 in
theorem w_c25 : (Jvm.Cond.code ({ cls := "java/lang/Integer", name := "intValue", desc := "()I" } : Jvm.MethodName) jdk_33_method_27_code (1 : Nat) (Option.some Jvm.ClassFile.FieldType.int)).before args0 about1 = true := code_word (m := ⟨21, 1⟩) (meth := k21m1) (c := k21c1) (by decide +kernel) rfl rfl rfl (by decide +kernel)
set_option maxRecDepth 65536 in
theorem w_c26 : (Jvm.Cond.code ({ cls := "jdk/internal/util/ArraysSupport", name := "newLength", desc := "(III)I" } : Jvm.MethodName) jdk_48_method_27_code (4 : Nat) (Option.some Jvm.ClassFile.FieldType.int)).before args0 about1 = true := code_word (m := ⟨23, 1⟩) (meth := k23m1) (c := k23c1) (by decide +kernel) rfl rfl rfl (by decide +kernel)
set_option maxRecDepth 65536 in
theorem w_c27 : (Jvm.Cond.code ({ cls := "java/util/Arrays", name := "copyOf", desc := "([Ljava/lang/Object;I)[Ljava/lang/Object;" } : Jvm.MethodName) jdk_65_method_119_code (2 : Nat) (Option.some (Jvm.ClassFile.FieldType.array (Jvm.ClassFile.FieldType.object "java/lang/Object")))).before args0 about1 = true := code_word (m := ⟨24, 1⟩) (meth := k24m1) (c := k24c1) (by decide +kernel) rfl rfl rfl (by decide +kernel)
set_option maxRecDepth 65536 in
theorem w_c28 : (Jvm.Cond.code ({ cls := "java/util/Arrays", name := "copyOf", desc := "([Ljava/lang/Object;ILjava/lang/Class;)[Ljava/lang/Object;" } : Jvm.MethodName) jdk_65_method_120_code (4 : Nat) (Option.some (Jvm.ClassFile.FieldType.array (Jvm.ClassFile.FieldType.object "java/lang/Object")))).before args0 about1 = true := code_word (m := ⟨24, 2⟩) (meth := k24m2) (c := k24c2) (by decide +kernel) rfl rfl rfl (by decide +kernel)
def codes1 : List Jvm.Cond := [Jvm.Cond.code x code maxLocals ret, Jvm.Cond.code ({ cls := "java/util/ArrayList", name := "<init>", desc := "()V" } : Jvm.MethodName) jdk_38_method_2_code (1 : Nat) (Option.none : Option Jvm.ClassFile.FieldType), Jvm.Cond.code ({ cls := "java/util/AbstractList", name := "<init>", desc := "()V" } : Jvm.MethodName) jdk_39_method_1_code (1 : Nat) (Option.none : Option Jvm.ClassFile.FieldType), Jvm.Cond.code ({ cls := "java/util/AbstractCollection", name := "<init>", desc := "()V" } : Jvm.MethodName) jdk_22_method_1_code (1 : Nat) (Option.none : Option Jvm.ClassFile.FieldType), Jvm.Cond.code ({ cls := "java/lang/Object", name := "<init>", desc := "()V" } : Jvm.MethodName) object_method_1_code (1 : Nat) (Option.none : Option Jvm.ClassFile.FieldType), Jvm.Cond.code ({ cls := "com/example/presswright/presswright/publishing/PagingPagesPinLaw", name := "fill8", desc := "(Ljava/util/ArrayList;II)V" } : Jvm.MethodName) method_2_code (3 : Nat) (Option.none : Option Jvm.ClassFile.FieldType), Jvm.Cond.code ({ cls := "com/example/presswright/presswright/publishing/Paging", name := "pages", desc := "(Ljava/util/List;)Ljava/util/List;" } : Jvm.MethodName) prog_12_method_2_code (3 : Nat) (Option.some (Jvm.ClassFile.FieldType.object "java/util/List")), Jvm.Cond.code ({ cls := "java/util/ArrayList", name := "size", desc := "()I" } : Jvm.MethodName) jdk_38_method_8_code (1 : Nat) (Option.some Jvm.ClassFile.FieldType.int), Jvm.Cond.code ({ cls := "java/lang/Math", name := "min", desc := "(II)I" } : Jvm.MethodName) jdk_29_method_69_code (2 : Nat) (Option.some Jvm.ClassFile.FieldType.int), Jvm.Cond.code ({ cls := "java/util/ArrayList", name := "subList", desc := "(II)Ljava/util/List;" } : Jvm.MethodName) jdk_38_method_56_code (3 : Nat) (Option.some (Jvm.ClassFile.FieldType.object "java/util/List")), Jvm.Cond.code ({ cls := "java/util/AbstractList", name := "subListRangeCheck", desc := "(III)V" } : Jvm.MethodName) jdk_39_method_15_code (3 : Nat) (Option.none : Option Jvm.ClassFile.FieldType), Jvm.Cond.code ({ cls := "java/util/ArrayList$SubList", name := "<init>", desc := "(Ljava/util/ArrayList;II)V" } : Jvm.MethodName) jdk_130_method_1_code (4 : Nat) (Option.none : Option Jvm.ClassFile.FieldType), Jvm.Cond.code ({ cls := "java/util/ArrayList", name := "add", desc := "(Ljava/lang/Object;)Z" } : Jvm.MethodName) jdk_38_method_25_code (2 : Nat) (Option.some Jvm.ClassFile.FieldType.boolean), Jvm.Cond.code ({ cls := "java/util/ArrayList", name := "add", desc := "(Ljava/lang/Object;[Ljava/lang/Object;I)V" } : Jvm.MethodName) jdk_38_method_24_code (4 : Nat) (Option.none : Option Jvm.ClassFile.FieldType), Jvm.Cond.code ({ cls := "java/util/ArrayList", name := "grow", desc := "()[Ljava/lang/Object;" } : Jvm.MethodName) jdk_38_method_7_code (1 : Nat) (Option.some (Jvm.ClassFile.FieldType.array (Jvm.ClassFile.FieldType.object "java/lang/Object"))), Jvm.Cond.code ({ cls := "java/util/ArrayList", name := "grow", desc := "(I)[Ljava/lang/Object;" } : Jvm.MethodName) jdk_38_method_6_code (4 : Nat) (Option.some (Jvm.ClassFile.FieldType.array (Jvm.ClassFile.FieldType.object "java/lang/Object"))), Jvm.Cond.code ({ cls := "java/lang/Math", name := "max", desc := "(II)I" } : Jvm.MethodName) jdk_29_method_65_code (2 : Nat) (Option.some Jvm.ClassFile.FieldType.int), Jvm.Cond.code ({ cls := "java/util/ArrayList", name := "get", desc := "(I)Ljava/lang/Object;" } : Jvm.MethodName) jdk_38_method_20_code (2 : Nat) (Option.some (Jvm.ClassFile.FieldType.object "java/lang/Object")), Jvm.Cond.code ({ cls := "java/util/Objects", name := "checkIndex", desc := "(II)I" } : Jvm.MethodName) jdk_31_method_17_code (2 : Nat) (Option.some Jvm.ClassFile.FieldType.int), Jvm.Cond.code ({ cls := "jdk/internal/util/Preconditions", name := "checkIndex", desc := "(IILjava/util/function/BiFunction;)I" } : Jvm.MethodName) jdk_41_method_11_code (3 : Nat) (Option.some Jvm.ClassFile.FieldType.int), Jvm.Cond.code ({ cls := "java/util/ArrayList", name := "elementData", desc := "(I)Ljava/lang/Object;" } : Jvm.MethodName) jdk_38_method_18_code (2 : Nat) (Option.some (Jvm.ClassFile.FieldType.object "java/lang/Object")), Jvm.Cond.code ({ cls := "java/util/ArrayList$SubList", name := "size", desc := "()I" } : Jvm.MethodName) jdk_130_method_5_code (1 : Nat) (Option.some Jvm.ClassFile.FieldType.int), Jvm.Cond.code ({ cls := "java/util/ArrayList$SubList", name := "checkForComodification", desc := "()V" } : Jvm.MethodName) jdk_130_method_28_code (1 : Nat) (Option.none : Option Jvm.ClassFile.FieldType), Jvm.Cond.code ({ cls := "java/lang/Integer", name := "valueOf", desc := "(I)Ljava/lang/Integer;" } : Jvm.MethodName) jdk_33_method_22_code (1 : Nat) (Option.some (Jvm.ClassFile.FieldType.object "java/lang/Integer")), Jvm.Cond.code ({ cls := "java/util/ArrayList$SubList", name := "get", desc := "(I)Ljava/lang/Object;" } : Jvm.MethodName) jdk_130_method_4_code (2 : Nat) (Option.some (Jvm.ClassFile.FieldType.object "java/lang/Object")), Jvm.Cond.code ({ cls := "java/lang/Integer", name := "intValue", desc := "()I" } : Jvm.MethodName) jdk_33_method_27_code (1 : Nat) (Option.some Jvm.ClassFile.FieldType.int), Jvm.Cond.code ({ cls := "jdk/internal/util/ArraysSupport", name := "newLength", desc := "(III)I" } : Jvm.MethodName) jdk_48_method_27_code (4 : Nat) (Option.some Jvm.ClassFile.FieldType.int), Jvm.Cond.code ({ cls := "java/util/Arrays", name := "copyOf", desc := "([Ljava/lang/Object;I)[Ljava/lang/Object;" } : Jvm.MethodName) jdk_65_method_119_code (2 : Nat) (Option.some (Jvm.ClassFile.FieldType.array (Jvm.ClassFile.FieldType.object "java/lang/Object"))), Jvm.Cond.code ({ cls := "java/util/Arrays", name := "copyOf", desc := "([Ljava/lang/Object;ILjava/lang/Class;)[Ljava/lang/Object;" } : Jvm.MethodName) jdk_65_method_120_code (4 : Nat) (Option.some (Jvm.ClassFile.FieldType.array (Jvm.ClassFile.FieldType.object "java/lang/Object")))]
set_option maxRecDepth 65536 in
theorem codes_eq : words1.filter isCode = codes1 := rfl
theorem w_codes : ∀ c ∈ words1.filter isCode, c.before args0 about1 = true := by
  rw [codes_eq]
  intro c hc
  simp only [codes1, List.mem_cons, List.not_mem_nil, or_false] at hc
  rcases hc with rfl | rfl | rfl | rfl | rfl | rfl | rfl | rfl | rfl | rfl | rfl | rfl | rfl | rfl | rfl | rfl | rfl | rfl | rfl | rfl | rfl | rfl | rfl | rfl | rfl | rfl | rfl | rfl | rfl
  · exact w_c0
  · exact w_c1
  · exact w_c2
  · exact w_c3
  · exact w_c4
  · exact w_c5
  · exact w_c6
  · exact w_c7
  · exact w_c8
  · exact w_c9
  · exact w_c10
  · exact w_c11
  · exact w_c12
  · exact w_c13
  · exact w_c14
  · exact w_c15
  · exact w_c16
  · exact w_c17
  · exact w_c18
  · exact w_c19
  · exact w_c20
  · exact w_c21
  · exact w_c22
  · exact w_c23
  · exact w_c24
  · exact w_c25
  · exact w_c26
  · exact w_c27
  · exact w_c28
set_option maxRecDepth 65536 in
theorem w_t1 : (words1.take 24).all (fun c => isCode c || c.before args0 about1) = true := by decide +kernel
set_option maxRecDepth 65536 in
theorem w_t2 : ((words1.drop 24).take 24).all (fun c => isCode c || c.before args0 about1) = true := by decide +kernel
set_option maxRecDepth 65536 in
theorem w_t3 : (((words1.drop 24).drop 24).take 24).all (fun c => isCode c || c.before args0 about1) = true := by decide +kernel
set_option maxRecDepth 65536 in
theorem w_t4 : ((((words1.drop 24).drop 24).drop 24).take 24).all (fun c => isCode c || c.before args0 about1) = true := by decide +kernel
set_option maxRecDepth 65536 in
theorem w_t5 : (((((words1.drop 24).drop 24).drop 24).drop 24).take 24).all (fun c => isCode c || c.before args0 about1) = true := by decide +kernel
set_option maxRecDepth 65536 in
theorem w_t6 : ((((((words1.drop 24).drop 24).drop 24).drop 24).drop 24).take 24).all (fun c => isCode c || c.before args0 about1) = true := by decide +kernel
set_option maxRecDepth 65536 in
theorem w_t7 : (((((((words1.drop 24).drop 24).drop 24).drop 24).drop 24).drop 24).take 24).all (fun c => isCode c || c.before args0 about1) = true := by decide +kernel
set_option maxRecDepth 65536 in
theorem w_t8 : ((((((((words1.drop 24).drop 24).drop 24).drop 24).drop 24).drop 24).drop 24).take 24).all (fun c => isCode c || c.before args0 about1) = true := by decide +kernel
set_option maxRecDepth 65536 in
theorem w_t9 : ((((((((words1.drop 24).drop 24).drop 24).drop 24).drop 24).drop 24).drop 24).drop 24).all (fun c => isCode c || c.before args0 about1) = true := by decide +kernel
theorem w_tables : (allAtoms (Jvm.Cond.code x code maxLocals ret :: tables_1)).before args0 about1 = true := by
  rw [allAtoms_all]
  show words1.all (fun c => c.before args0 about1) = true
  refine all_split ?_ w_codes
  rw [← List.take_append_drop 24 words1, List.all_append, w_t1, ← List.take_append_drop 24 (words1.drop 24), List.all_append, w_t2, ← List.take_append_drop 24 ((words1.drop 24).drop 24), List.all_append, w_t3, ← List.take_append_drop 24 (((words1.drop 24).drop 24).drop 24), List.all_append, w_t4, ← List.take_append_drop 24 ((((words1.drop 24).drop 24).drop 24).drop 24), List.all_append, w_t5, ← List.take_append_drop 24 (((((words1.drop 24).drop 24).drop 24).drop 24).drop 24), List.all_append, w_t6, ← List.take_append_drop 24 ((((((words1.drop 24).drop 24).drop 24).drop 24).drop 24).drop 24), List.all_append, w_t7, ← List.take_append_drop 24 (((((((words1.drop 24).drop 24).drop 24).drop 24).drop 24).drop 24).drop 24), List.all_append, w_t8, w_t9]
  rfl
set_option maxRecDepth 65536 in
theorem w_rest : rest_1_c.before args0 about1 = true := by decide +kernel
set_option maxRecDepth 65536 in
theorem w_case : (Jvm.Cond.and given_1 narrow_1).before args0 about1 = true := by decide +kernel
theorem w_applies : (headSpec (Jvm.Cond.code x code maxLocals ret :: tables_1) room_1).applies x e0.platform about1 = true :=
  (Spec.applies_iff w_frames).mpr ⟨w_running, w_runnable, w_alone, w_named, w_hears, w_ripe, w_room, w_tables⟩
set_option maxRecDepth 65536 in
theorem atStart : AtStart classFile x code maxLocals ret World_1 tables_1 room_1 Calls_1 rest_1 Pre_1 launch0 p0 e0 about1 theMethod args0 below0 :=
  ⟨lists_1, trivial, launch0.admits_env _ _ _, launch0.least_env, fairChoices_fair.cas, fairChoices_fair.clock, w_frames, w_args, w_heap, w_applies, ⟨⟨32, k32, 2, by decide +kernel, rfl, rfl, _, rfl, rfl⟩, trivial⟩, w_rest, w_case⟩
end start1
theorem witness_1 : WitnessClaimed_1 := ⟨start1.p0, start1.e0, start1.about1, start1.theMethod, start1.args0, start1.below0, start1.atStart⟩
end Jvm.Pilot.@@N@@
