import JvmDerived
import JvmDerived.Pilot.@@N@@Statement
import JvmDerived.Pilot.@@N@@Code
set_option linter.unusedVariables false
set_option linter.unusedSimpArgs false
namespace Jvm.OwnK
open Sem ClassFile Op Lib Jvm.Stand Jvm.Free Jvm.LawKit Jvm.RoadKit
/-- what a body leaves: Q of its value and heap; what it wrote lies in new cells; the old cells stand -/
def Out (Z s : State) (Q : Option Value → Heap → Prop) (k n : Nat) (o : Outcome) (U : State) : Prop :=
  ∃ v L, o = .returned v ∧ (Q v U.heap ∧ Fr Z.heap.size L ∧ Old Z Z.heap.size U.heap) ∧ FrameEnd s o U L k n
/-- from here the walk ends, and G holds of its end -/
def Go (tb : Tables) (e : Env) (below : List Frame) (G : Outcome → State → Prop) (T : State) (F : JFrame) : Prop :=
  ∃ s₂ o, Steps tb e below (T.setTop F) s₂ ∧ s₂.status = .running ∧ Ended s₂ below o ∧ G o s₂
/-- where the walk stands, with its heap -/
def Wk (p : Program) (l : Launch) (e : Env) (R : Room) (s : State) (m : MethodId) (args : Array Value) (below : List Frame) (meth : Method) (c : Code) (Z T : State) (h : Heap) (k n : Nat) : Prop :=
  ∃ locs, Stand p l e R s m args below meth c T locs k n ∧ T.heap = h ∧ Fr Z.heap.size locs ∧ Old Z Z.heap.size h
/-- what is known of the body -/
def Bdy (p : Program) (Z s : State) (m : MethodId) (meth : Method) (c : Code) (own : String) (bytes : ByteArray) (maxL : Nat) (ret : Option FieldType) (nm : String) : Prop :=
  p.tables.exec = Jvm.exec ∧ Z.Warmed39 s.vm ∧ s.vm.findClass own = some m.cls ∧ c.code = bytes ∧ c.maxLocals = maxL ∧ meth.sig.returnType = ret ∧ meth.locks = false ∧ meth.name = nm
/-- a contract -/
def Con (l : Launch) (Z : State) (y : MethodName) (bytes : ByteArray) (maxL : Nat) (ret : Option FieldType) (ws : List Cond) (rm : Room) (as' : Array Value) (h0 : Heap) (Q : Option Value → Heap → Prop) : Prop :=
  Old Z Z.heap.size h0 → MetFree l y (head1 (Cond.code y bytes maxL ret :: ws) rm) (fun a U => a = as' ∧ Z.Warmed39 U.vm ∧ U.heap = h0) (fun _ _ _ _ _ => True) (fun _ U o U' => Out Z U Q rm.cells rm.slots o U')
def bi (b : Bool) : Int32 := if b then 1 else 0
theorem bi_t {b : Bool} (h : b = true) : ¬ bi b = 0 := by subst h; decide
theorem bi_f {b : Bool} (h : b = false) : bi b = 0 := by subst h; rfl
theorem bi_nar (b : Bool) : nar .boolean (bi b) = bi b := by cases b <;> rfl
theorem bi_tt : bi true = 1 := rfl
theorem bi_ff : bi false = 0 := rfl
theorem bi_inj {a b : Bool} : (bi a = bi b) = (a = b) := by cases a <;> cases b <;> decide
theorem own_nb (b : Bool) : narrow .boolean (.int (bi b)) = .int (bi b) := by cases b <;> rfl
theorem own_fb (b : Bool) : fits .boolean (.int (bi b)) = true := by cases b <;> rfl
theorem own_fr {t : FieldType} {v : Value} (ht : t.isReference = true) (hv : v.isRef = true) : fits t v = true := by cases t <;> cases v <;> first | rfl | (exfalso; revert ht hv; simp [FieldType.isReference, Value.isRef]; done)
theorem own_i2c (a : Int32) : ∃ x : Int32, a.toUInt32.toUInt16.toUInt32.toInt32 = x ∧ nar .char x = x ∧ 0 ≤ x.toInt ∧ x.toInt < 65536 := by
  refine ⟨_, rfl, ?_, (c_i2c a).2.1, (c_i2c a).2.2⟩
  show (a.toUInt32.toUInt16.toUInt32.toInt32).toUInt32.toUInt16.toUInt32.toInt32 = _
  simp only [UInt32.toUInt32_toInt32, UInt16.toUInt16_toUInt32]
theorem own_and1 {a b : Bool} (h : b = true) : (bi a &&& 1) = bi (a && b) := by subst h; cases a <;> decide
theorem own_and0 {a b : Bool} (h : b = false) : (bi a &&& 0) = bi (a && b) := by subst h; cases a <;> decide
theorem own_andb (a b : Bool) : (bi a &&& bi b) = bi (a && b) := by cases a <;> cases b <;> decide
theorem own_inc (i : Nat) : Int32.ofNat i + 1 = Int32.ofNat (i + 1) := (Int32.ofNat_add i 1).symm
theorem own_ofNat {i : Nat} (h : i < 2147483648) : (Int32.ofNat i).toInt = i := by
  have := Int32.toInt_ofNat_of_lt (n := i) (by omega); exact this
theorem own_clamp {i : Nat} (h : i < 2147483648) : (Int32.ofNat i).toNatClampNeg = i := by
  simp only [Int32.toNatClampNeg, own_ofNat h]; omega
theorem own_lt {i j : Nat} (hi : i < 2147483648) (hj : j < 2147483648) : (Int32.ofNat i < Int32.ofNat j) ↔ i < j := by
  rw [Int32.lt_iff_toInt_lt, own_ofNat hi, own_ofNat hj]; omega
theorem own_ixok {i n : Nat} (hi : i < n) (hn : n < 2147483648) : ¬ Int32.ofNat i < 0 ∧ Int32.ofNat i < Int32.ofNat n := by
  refine ⟨?_, (own_lt (by omega) hn).mpr hi⟩
  rw [Int32.lt_iff_toInt_lt, own_ofNat (by omega)]; show ¬ ((i : Int) < 0); omega
theorem nar_b0 : nar .boolean 0 = 0 := by decide
theorem nar_b1 : nar .boolean 1 = 1 := by decide
theorem old_le {Z : State} {h : Heap} (O : Old Z Z.heap.size h) : Z.heap.size ≤ h.size := O.2.1
section K
variable {p : Program} {l : Launch} {e : Env} {R : Room} {s : State} {m : MethodId} {args : Array Value} {below : List Frame} {meth : Method} {c : Code} {Z T T' : State} {h h' : Heap} {k n : Nat} {own nm : String} {bytes : ByteArray} {maxL : Nat} {ret : Option FieldType} {G : Outcome → State → Prop} {pc : Nat} {ls : Array Slot} {st : List Value} {Q : Option Value → Heap → Prop} {a0 : Array Value}
theorem Bdy.nameOf (B : Bdy p Z s m meth c own bytes maxL ret nm) : meth.name = nm := B.2.2.2.2.2.2.2
theorem Go.by {tb : Tables} {F F' : JFrame} (hs : ∀ t, Steps tb e below (T'.setTop F') t → Steps tb e below (T.setTop F) t) (q : Go tb e below G T' F') : Go tb e below G T F := by
  obtain ⟨s2, o, a, b⟩ := q; exact ⟨s2, o, hs _ a, b⟩
theorem Go.cast {tb : Tables} {F F' : JFrame} (hs : F = F') (q : Go tb e below G T F') : Go tb e below G T F := hs ▸ q
theorem Con.of {y : MethodName} {ws : List Cond} {rm : Room} {as' : Array Value} {h0 : Heap} (hpl : plainFor y = true)
    (body : ∀ p e s m below meth c T, Bdy p Z s m meth c y.cls bytes maxL ret y.name → Wk p l e rm s m as' below meth c Z T h0 0 0 → Go p.tables e below (Out Z s Q rm.cells rm.slots) T (entryFrame m as' maxL)) : Con l Z y bytes maxL ret ws rm as' h0 Q := by
  intro hO
  refine MetFree.of_bodySF hpl hisR ?_
  intro p e s m args below meth c s₁ Bd hml0 hP hK
  obtain ⟨rfl, hZ, hh⟩ := hP
  exact body p e s m below meth c s₁ ⟨Bd.exec, hZ, findClass_of_methodNamed Bd.named, Bd.bytes, hml0, Bd.returns, Bd.notSynchronized, (name_of_methodNamed Bd.named Bd.method).1⟩ ⟨[], Stand.of_body Bd, by rw [← hh, Bd.state]; rfl, Fr.nil _, hO⟩
theorem Wk.size (W : Wk p l e R s m args below meth c Z T h k n) : Z.heap.size ≤ h.size := by obtain ⟨_, _, _, _, O⟩ := W; exact O.2.1
theorem Wk.old (W : Wk p l e R s m args below meth c Z T h k n) : Old Z Z.heap.size h := by obtain ⟨_, _, _, _, O⟩ := W; exact O
theorem Sta.old {C nf d : String} {v : Value} (F : Sta Z Z.heap C nf d v) (W : Old Z Z.heap.size h) : Sta Z h C nf d v := F.ext W.2
theorem Wk.more {k' n' : Nat} (W : Wk p l e R s m args below meth c Z T h k n) (hk : k ≤ k') (hn : n ≤ n') : Wk p l e R s m args below meth c Z T h k' n' := by
  obtain ⟨locs, X, r⟩ := W; exact ⟨locs, X.more hk hn, r⟩
/-! ### the ends -/
theorem go_end (B : Bdy p Z s m meth c own bytes maxL ret nm) (W : Wk p l e R s m args below meth c Z T h k n) {F : JFrame} {v : Option Value} {k' n' : Nat} (hv : ret = none → v = none) (hQ : Q v h) (hk : k ≤ k') (hn : n ≤ n')
    (hst : ∀ (locs : List Loc) (fs : List Frame), Stand p l e R s m args below meth c T locs k n → (∀ (f : JFrame) (acts : List Action), f.method = m → f.locked = none → f.entered = [] → (doReturn e (T.setTop f) acts v).1 = T.setFrames fs) → Steps p.tables e below (T.setTop F) (T.setFrames fs)) :
    Go p.tables e below (Out Z s Q k' n') T F := by
  obtain ⟨locs, X, eT, N, O⟩ := W
  obtain ⟨fs, hr, hrun, hended, hW, hsame⟩ := X.leave (v := v) (fun q => hv (B.2.2.2.2.2.1 ▸ q)) B.2.2.2.2.2.2.1
  have eT' : (T.setFrames fs).heap = h := eT
  exact ⟨_, _, hst locs fs X hr, hrun, hended, _, _, rfl, ⟨by rw [eT']; exact hQ, N, by rw [eT']; exact O⟩, ⟨_, rfl⟩, hW, hsame.mono hk hn⟩
theorem r_i (B : Bdy p Z s m meth c own bytes maxL (some .int) nm) (W : Wk p l e R s m args below meth c Z T h k n) {z : Int32} {k' n' : Nat} (hd : decode bytes pc = .ok (.ireturn, 1)) (hk : k ≤ k') (hn : n ≤ n') (hQ : Q (some (.int z)) h) : Go p.tables e below (Out Z s Q k' n') T (mkF m pc ls (.int z :: st)) :=
  go_end B W (fun q => by cases q) hQ hk hn fun _ _ X hr => retOut X B.1 B.2.2.2.2.2.1 rfl (Or.inl ⟨rfl, Or.inl rfl, _, rfl⟩) (hb B.2.2.2.1 hd) hr
theorem r_b (B : Bdy p Z s m meth c own bytes maxL (some .boolean) nm) (W : Wk p l e R s m args below meth c Z T h k n) {b : Bool} {k' n' : Nat} (hd : decode bytes pc = .ok (.ireturn, 1)) (hk : k ≤ k') (hn : n ≤ n') (hQ : Q (some (.int (bi b))) h) : Go p.tables e below (Out Z s Q k' n') T (mkF m pc ls (.int (bi b) :: st)) :=
  go_end B W (fun q => by cases q) (v := some (.int (nar .boolean (bi b)))) (by rw [bi_nar]; exact hQ) hk hn fun _ _ X hr => retN X B.1 B.2.2.2.2.2.1 (Or.inl rfl) (hb B.2.2.2.1 hd) hr
theorem r_n (B : Bdy p Z s m meth c own bytes maxL ret nm) (W : Wk p l e R s m args below meth c Z T h k n) {t : FieldType} {z : Int32} {k' n' : Nat} (hret : ret = some t) (ht : t = .boolean ∨ t = .byte ∨ t = .char ∨ t = .short) (hd : decode bytes pc = .ok (.ireturn, 1)) (hk : k ≤ k') (hn : n ≤ n') (hQ : Q (some (.int (nar t z))) h) : Go p.tables e below (Out Z s Q k' n') T (mkF m pc ls (.int z :: st)) :=
  go_end B W (fun q => by rw [hret] at q; cases q) hQ hk hn fun _ _ X hr => retN X B.1 (B.2.2.2.2.2.1.trans hret) ht (hb B.2.2.2.1 hd) hr
theorem nar_ref {t : FieldType} {v : Value} (ht : t.isReference = true) : narrow t v = v := by cases t <;> first | rfl | (exfalso; revert ht; simp [FieldType.isReference]; done) | (cases v <;> rfl)
theorem r_a (B : Bdy p Z s m meth c own bytes maxL ret nm) (W : Wk p l e R s m args below meth c Z T h k n) {t : FieldType} {v : Value} {k' n' : Nat} (hret : ret = some t) (ht : t.isReference = true) (hv : v.isRef = true) (hd : decode bytes pc = .ok (.areturn, 1)) (hk : k ≤ k') (hn : n ≤ n') (hQ : Q (some v) h) : Go p.tables e below (Out Z s Q k' n') T (mkF m pc ls (v :: st)) :=
  go_end B W (fun q => by rw [hret] at q; cases q) hQ hk hn fun _ _ X hr => retOut X B.1 (B.2.2.2.2.2.1.trans hret) (nar_ref ht) (Or.inr (Or.inr (Or.inr (Or.inr ⟨rfl, ht, hv⟩)))) (hb B.2.2.2.1 hd) hr
theorem r_v (B : Bdy p Z s m meth c own bytes maxL none nm) (W : Wk p l e R s m args below meth c Z T h k n) {k' n' : Nat} (hd : decode bytes pc = .ok (.return_, 1)) (hk : k ≤ k') (hn : n ≤ n') (hQ : Q none h) : Go p.tables e below (Out Z s Q k' n') T (mkF m pc ls []) :=
  go_end B W (fun _ => rfl) hQ hk hn fun _ _ X hr => X.returnOut B.1 B.2.2.2.2.2.1 (hb B.2.2.2.1 hd) hr
theorem r_l (B : Bdy p Z s m meth c own bytes maxL (some .long) nm) (W : Wk p l e R s m args below meth c Z T h k n) {z : Int64} {k' n' : Nat} (hd : decode bytes pc = .ok (.lreturn, 1)) (hk : k ≤ k') (hn : n ≤ n') (hQ : Q (some (.long z)) h) : Go p.tables e below (Out Z s Q k' n') T (mkF m pc ls (.long z :: st)) :=
  go_end B W (fun q => by cases q) hQ hk hn fun _ _ X hr => retOut X B.1 B.2.2.2.2.2.1 rfl (Or.inr (Or.inl ⟨rfl, rfl, _, rfl⟩)) (hb B.2.2.2.1 hd) hr
/-! ### plain steps -/
theorem g_aload_n (B : Bdy p Z s m meth c own bytes maxL ret nm) (W : Wk p l e R s m args below meth c Z T h k n) {i : Fin 4} {v : Value} (hd : decode bytes pc = .ok (.aload_n i, 1)) (hl : ls[i.val]? = some (.val v)) (hv : v.isRef = true) (q : Go p.tables e below G T (mkF m (pc + 1) ls (v :: st))) : Go p.tables e below G T (mkF m pc ls st) := by
  obtain ⟨_, X, -⟩ := W
  exact Go.by (fun t q => XS.aloadN X.here B.1 rfl (hb B.2.2.2.1 hd) hl hv q) q
theorem g_aload (B : Bdy p Z s m meth c own bytes maxL ret nm) (W : Wk p l e R s m args below meth c Z T h k n) {i : Nat} {v : Value} (hd : decode bytes pc = .ok (.aload i, 2)) (hl : ls[i]? = some (.val v)) (hv : v.isRef = true) (q : Go p.tables e below G T (mkF m (pc + 2) ls (v :: st))) : Go p.tables e below G T (mkF m pc ls st) := by
  obtain ⟨_, X, -⟩ := W
  exact Go.by (fun t q => XS.aload X.here B.1 rfl (hb B.2.2.2.1 hd) hl hv q) q
theorem g_iload_n (B : Bdy p Z s m meth c own bytes maxL ret nm) (W : Wk p l e R s m args below meth c Z T h k n) {i : Fin 4} {v : Int32} (hd : decode bytes pc = .ok (.iload_n i, 1)) (hl : ls[i.val]? = some (.val (.int v))) (q : Go p.tables e below G T (mkF m (pc + 1) ls (.int v :: st))) : Go p.tables e below G T (mkF m pc ls st) := by
  obtain ⟨_, X, -⟩ := W
  exact Go.by (fun t q => XS.iloadN X.here B.1 rfl (hb B.2.2.2.1 hd) hl q) q
theorem g_iload (B : Bdy p Z s m meth c own bytes maxL ret nm) (W : Wk p l e R s m args below meth c Z T h k n) {i : Nat} {v : Int32} (hd : decode bytes pc = .ok (.iload i, 2)) (hl : ls[i]? = some (.val (.int v))) (q : Go p.tables e below G T (mkF m (pc + 2) ls (.int v :: st))) : Go p.tables e below G T (mkF m pc ls st) := by
  obtain ⟨_, X, -⟩ := W
  exact Go.by (fun t q => XS.iload X.here B.1 rfl (hb B.2.2.2.1 hd) hl q) q
theorem g_lload_n (B : Bdy p Z s m meth c own bytes maxL ret nm) (W : Wk p l e R s m args below meth c Z T h k n) {i : Fin 4} {v : Int64} (hd : decode bytes pc = .ok (.lload_n i, 1)) (hl : ls[i.val]? = some (.val (.long v))) (q : Go p.tables e below G T (mkF m (pc + 1) ls (.long v :: st))) : Go p.tables e below G T (mkF m pc ls st) := by
  obtain ⟨_, X, -⟩ := W
  exact Go.by (fun t q => XT.lloadN X.here B.1 rfl (hb B.2.2.2.1 hd) hl q) q
theorem g_lload (B : Bdy p Z s m meth c own bytes maxL ret nm) (W : Wk p l e R s m args below meth c Z T h k n) {i : Nat} {v : Int64} (hd : decode bytes pc = .ok (.lload i, 2)) (hl : ls[i]? = some (.val (.long v))) (q : Go p.tables e below G T (mkF m (pc + 2) ls (.long v :: st))) : Go p.tables e below G T (mkF m pc ls st) := by
  obtain ⟨_, X, -⟩ := W
  exact Go.by (fun t q => XT.lload X.here B.1 rfl (hb B.2.2.2.1 hd) hl q) q
theorem g_istore_n (B : Bdy p Z s m meth c own bytes maxL ret nm) (W : Wk p l e R s m args below meth c Z T h k n) {i : Fin 4} {v : Int32} {l' : Array Slot} (hd : decode bytes pc = .ok (.istore_n i, 1)) (hl : storeLocals ls i.val (.int v) = some l') (q : Go p.tables e below G T (mkF m (pc + 1) l' st)) : Go p.tables e below G T (mkF m pc ls (.int v :: st)) := by
  obtain ⟨_, X, -⟩ := W
  exact Go.by (fun t q => XS.istoreN X.here B.1 rfl (hb B.2.2.2.1 hd) rfl hl q) q
theorem g_istore (B : Bdy p Z s m meth c own bytes maxL ret nm) (W : Wk p l e R s m args below meth c Z T h k n) {i : Nat} {v : Int32} {l' : Array Slot} (hd : decode bytes pc = .ok (.istore i, 2)) (hl : storeLocals ls i (.int v) = some l') (q : Go p.tables e below G T (mkF m (pc + 2) l' st)) : Go p.tables e below G T (mkF m pc ls (.int v :: st)) := by
  obtain ⟨_, X, -⟩ := W
  exact Go.by (fun t q => XS.istore X.here B.1 rfl (hb B.2.2.2.1 hd) rfl hl q) q
theorem g_lstore_n (B : Bdy p Z s m meth c own bytes maxL ret nm) (W : Wk p l e R s m args below meth c Z T h k n) {i : Fin 4} {v : Int64} {l' : Array Slot} (hd : decode bytes pc = .ok (.lstore_n i, 1)) (hl : storeLocals ls i.val (.long v) = some l') (q : Go p.tables e below G T (mkF m (pc + 1) l' st)) : Go p.tables e below G T (mkF m pc ls (.long v :: st)) := by
  obtain ⟨_, X, -⟩ := W
  exact Go.by (fun t q => XT.lstoreN X.here B.1 rfl (hb B.2.2.2.1 hd) rfl hl q) q
theorem g_lstore (B : Bdy p Z s m meth c own bytes maxL ret nm) (W : Wk p l e R s m args below meth c Z T h k n) {i : Nat} {v : Int64} {l' : Array Slot} (hd : decode bytes pc = .ok (.lstore i, 2)) (hl : storeLocals ls i (.long v) = some l') (q : Go p.tables e below G T (mkF m (pc + 2) l' st)) : Go p.tables e below G T (mkF m pc ls (.long v :: st)) := by
  obtain ⟨_, X, -⟩ := W
  exact Go.by (fun t q => XT.lstore X.here B.1 rfl (hb B.2.2.2.1 hd) rfl hl q) q
theorem g_astore_n (B : Bdy p Z s m meth c own bytes maxL ret nm) (W : Wk p l e R s m args below meth c Z T h k n) {i : Fin 4} {v : Value} {l' : Array Slot} (hd : decode bytes pc = .ok (.astore_n i, 1)) (hv : v.isRef = true) (hl : storeLocals ls i.val v = some l') (q : Go p.tables e below G T (mkF m (pc + 1) l' st)) : Go p.tables e below G T (mkF m pc ls (v :: st)) := by
  obtain ⟨_, X, -⟩ := W
  exact Go.by (fun t q => XS.astoreN X.here B.1 rfl (hb B.2.2.2.1 hd) rfl hv hl q) q
theorem g_astore (B : Bdy p Z s m meth c own bytes maxL ret nm) (W : Wk p l e R s m args below meth c Z T h k n) {i : Nat} {v : Value} {l' : Array Slot} (hd : decode bytes pc = .ok (.astore i, 2)) (hv : v.isRef = true) (hl : storeLocals ls i v = some l') (q : Go p.tables e below G T (mkF m (pc + 2) l' st)) : Go p.tables e below G T (mkF m pc ls (v :: st)) := by
  obtain ⟨_, X, -⟩ := W
  exact Go.by (fun t q => XS.astore X.here B.1 rfl (hb B.2.2.2.1 hd) rfl hv hl q) q
theorem g_iconst (B : Bdy p Z s m meth c own bytes maxL ret nm) (W : Wk p l e R s m args below meth c Z T h k n) {i : Int} {v : Int32} (hd : decode bytes pc = .ok (.iconst i, 1)) (hv : Int32.ofInt i = v) (q : Go p.tables e below G T (mkF m (pc + 1) ls (.int v :: st))) : Go p.tables e below G T (mkF m pc ls st) := by
  obtain ⟨_, X, -⟩ := W
  exact Go.by (fun t q => XT.iconstV X.here B.1 rfl _ (hb B.2.2.2.1 hd) hv q) q
theorem g_bipush (B : Bdy p Z s m meth c own bytes maxL ret nm) (W : Wk p l e R s m args below meth c Z T h k n) {i : Int} {v : Int32} (hd : decode bytes pc = .ok (.bipush i, 2)) (hv : (Int8.ofInt i).toInt32 = v) (q : Go p.tables e below G T (mkF m (pc + 2) ls (.int v :: st))) : Go p.tables e below G T (mkF m pc ls st) := by
  obtain ⟨_, X, -⟩ := W
  exact Go.by (fun t q => XT.bipushV X.here B.1 rfl _ (hb B.2.2.2.1 hd) hv q) q
theorem g_sipush (B : Bdy p Z s m meth c own bytes maxL ret nm) (W : Wk p l e R s m args below meth c Z T h k n) {i : Int} {v : Int32} (hd : decode bytes pc = .ok (.sipush i, 3)) (hv : (Int16.ofInt i).toInt32 = v) (q : Go p.tables e below G T (mkF m (pc + 3) ls (.int v :: st))) : Go p.tables e below G T (mkF m pc ls st) := by
  obtain ⟨_, X, -⟩ := W
  exact Go.by (fun t q => XT.sipushV X.here B.1 rfl _ (hb B.2.2.2.1 hd) hv q) q
theorem g_lconst (B : Bdy p Z s m meth c own bytes maxL ret nm) (W : Wk p l e R s m args below meth c Z T h k n) {i : Fin 2} {v : Int64} (hd : decode bytes pc = .ok (.lconst i, 1)) (hv : Int64.ofNat i = v) (q : Go p.tables e below G T (mkF m (pc + 1) ls (.long v :: st))) : Go p.tables e below G T (mkF m pc ls st) := by
  obtain ⟨_, X, -⟩ := W
  exact Go.by (fun t q => XT.lconstV X.here B.1 rfl _ (hb B.2.2.2.1 hd) hv q) q
theorem g_aconst_null (B : Bdy p Z s m meth c own bytes maxL ret nm) (W : Wk p l e R s m args below meth c Z T h k n)  (hd : decode bytes pc = .ok (.aconst_null, 1))  (q : Go p.tables e below G T (mkF m (pc + 1) ls (.null :: st))) : Go p.tables e below G T (mkF m pc ls st) := by
  obtain ⟨_, X, -⟩ := W
  exact Go.by (fun t q => XS.aconstNull X.here B.1 rfl (hb B.2.2.2.1 hd) q) q
theorem g_iadd (B : Bdy p Z s m meth c own bytes maxL ret nm) (W : Wk p l e R s m args below meth c Z T h k n) {x y : Int32} (hd : decode bytes pc = .ok (.iadd, 1))  (q : Go p.tables e below G T (mkF m (pc + 1) ls (.int (x + y) :: st))) : Go p.tables e below G T (mkF m pc ls (.int y :: .int x :: st)) := by
  obtain ⟨_, X, -⟩ := W
  exact Go.by (fun t q => XS.iadd X.here B.1 rfl (hb B.2.2.2.1 hd) rfl q) q
theorem g_isub (B : Bdy p Z s m meth c own bytes maxL ret nm) (W : Wk p l e R s m args below meth c Z T h k n) {x y : Int32} (hd : decode bytes pc = .ok (.isub, 1))  (q : Go p.tables e below G T (mkF m (pc + 1) ls (.int (x - y) :: st))) : Go p.tables e below G T (mkF m pc ls (.int y :: .int x :: st)) := by
  obtain ⟨_, X, -⟩ := W
  exact Go.by (fun t q => XS.isub X.here B.1 rfl (hb B.2.2.2.1 hd) rfl q) q
theorem g_iand (B : Bdy p Z s m meth c own bytes maxL ret nm) (W : Wk p l e R s m args below meth c Z T h k n) {x y : Int32} (hd : decode bytes pc = .ok (.iand, 1))  (q : Go p.tables e below G T (mkF m (pc + 1) ls (.int (x &&& y) :: st))) : Go p.tables e below G T (mkF m pc ls (.int y :: .int x :: st)) := by
  obtain ⟨_, X, -⟩ := W
  exact Go.by (fun t q => XS.iand X.here B.1 rfl (hb B.2.2.2.1 hd) rfl q) q
theorem g_imul (B : Bdy p Z s m meth c own bytes maxL ret nm) (W : Wk p l e R s m args below meth c Z T h k n) {x y : Int32} (hd : decode bytes pc = .ok (.imul, 1))  (q : Go p.tables e below G T (mkF m (pc + 1) ls (.int (x * y) :: st))) : Go p.tables e below G T (mkF m pc ls (.int y :: .int x :: st)) := by
  obtain ⟨_, X, -⟩ := W
  exact Go.by (fun t q => XS.imul X.here B.1 rfl (hb B.2.2.2.1 hd) rfl q) q
theorem g_ior (B : Bdy p Z s m meth c own bytes maxL ret nm) (W : Wk p l e R s m args below meth c Z T h k n) {x y : Int32} (hd : decode bytes pc = .ok (.ior, 1))  (q : Go p.tables e below G T (mkF m (pc + 1) ls (.int (x ||| y) :: st))) : Go p.tables e below G T (mkF m pc ls (.int y :: .int x :: st)) := by
  obtain ⟨_, X, -⟩ := W
  exact Go.by (fun t q => XT.ior X.here B.1 rfl (hb B.2.2.2.1 hd) rfl q) q
theorem g_ixor (B : Bdy p Z s m meth c own bytes maxL ret nm) (W : Wk p l e R s m args below meth c Z T h k n) {x y : Int32} (hd : decode bytes pc = .ok (.ixor, 1))  (q : Go p.tables e below G T (mkF m (pc + 1) ls (.int (x ^^^ y) :: st))) : Go p.tables e below G T (mkF m pc ls (.int y :: .int x :: st)) := by
  obtain ⟨_, X, -⟩ := W
  exact Go.by (fun t q => XT.ixor X.here B.1 rfl (hb B.2.2.2.1 hd) rfl q) q
theorem g_iushr (B : Bdy p Z s m meth c own bytes maxL ret nm) (W : Wk p l e R s m args below meth c Z T h k n) {x y : Int32} (hd : decode bytes pc = .ok (.iushr, 1))  (q : Go p.tables e below G T (mkF m (pc + 1) ls (.int (XT.ushr x y) :: st))) : Go p.tables e below G T (mkF m pc ls (.int y :: .int x :: st)) := by
  obtain ⟨_, X, -⟩ := W
  exact Go.by (fun t q => XT.iushr X.here B.1 rfl (hb B.2.2.2.1 hd) rfl q) q
theorem g_idiv (B : Bdy p Z s m meth c own bytes maxL ret nm) (W : Wk p l e R s m args below meth c Z T h k n) {x y : Int32} (hd : decode bytes pc = .ok (.idiv, 1)) (hy : y ≠ 0) (q : Go p.tables e below G T (mkF m (pc + 1) ls (.int (x / y) :: st))) : Go p.tables e below G T (mkF m pc ls (.int y :: .int x :: st)) := by
  obtain ⟨_, X, -⟩ := W
  exact Go.by (fun t q => XS.idiv X.here B.1 rfl (hb B.2.2.2.1 hd) rfl hy q) q
theorem g_irem (B : Bdy p Z s m meth c own bytes maxL ret nm) (W : Wk p l e R s m args below meth c Z T h k n) {x y : Int32} (hd : decode bytes pc = .ok (.irem, 1)) (hy : y ≠ 0) (q : Go p.tables e below G T (mkF m (pc + 1) ls (.int (x % y) :: st))) : Go p.tables e below G T (mkF m pc ls (.int y :: .int x :: st))   := by
  obtain ⟨_, X, -⟩ := W
  exact Go.by (fun t q => iremM X B.1 rfl (hb B.2.2.2.1 hd) rfl hy q) q
theorem g_ineg (B : Bdy p Z s m meth c own bytes maxL ret nm) (W : Wk p l e R s m args below meth c Z T h k n) {x : Int32} (hd : decode bytes pc = .ok (.ineg, 1))  (q : Go p.tables e below G T (mkF m (pc + 1) ls (.int (-x) :: st))) : Go p.tables e below G T (mkF m pc ls (.int x :: st)) := by
  obtain ⟨_, X, -⟩ := W
  exact Go.by (fun t q => XS.ineg X.here B.1 rfl (hb B.2.2.2.1 hd) rfl q) q
theorem g_i2c (B : Bdy p Z s m meth c own bytes maxL ret nm) (W : Wk p l e R s m args below meth c Z T h k n) {x : Int32} (hd : decode bytes pc = .ok (.i2c, 1))  (q : Go p.tables e below G T (mkF m (pc + 1) ls (.int x.toUInt32.toUInt16.toUInt32.toInt32 :: st))) : Go p.tables e below G T (mkF m pc ls (.int x :: st)) := by
  obtain ⟨_, X, -⟩ := W
  exact Go.by (fun t q => XT.i2c X.here B.1 rfl (hb B.2.2.2.1 hd) rfl q) q
theorem g_i2b (B : Bdy p Z s m meth c own bytes maxL ret nm) (W : Wk p l e R s m args below meth c Z T h k n) {x : Int32} (hd : decode bytes pc = .ok (.i2b, 1))  (q : Go p.tables e below G T (mkF m (pc + 1) ls (.int x.toInt8.toInt32 :: st))) : Go p.tables e below G T (mkF m pc ls (.int x :: st)) := by
  obtain ⟨_, X, -⟩ := W
  exact Go.by (fun t q => XT.i2b X.here B.1 rfl (hb B.2.2.2.1 hd) rfl q) q
theorem g_i2l (B : Bdy p Z s m meth c own bytes maxL ret nm) (W : Wk p l e R s m args below meth c Z T h k n) {x : Int32} (hd : decode bytes pc = .ok (.i2l, 1))  (q : Go p.tables e below G T (mkF m (pc + 1) ls (.long x.toInt64 :: st))) : Go p.tables e below G T (mkF m pc ls (.int x :: st)) := by
  obtain ⟨_, X, -⟩ := W
  exact Go.by (fun t q => XT.i2l X.here B.1 rfl (hb B.2.2.2.1 hd) rfl q) q
theorem g_l2i (B : Bdy p Z s m meth c own bytes maxL ret nm) (W : Wk p l e R s m args below meth c Z T h k n) {x : Int64} (hd : decode bytes pc = .ok (.l2i, 1))  (q : Go p.tables e below G T (mkF m (pc + 1) ls (.int x.toInt32 :: st))) : Go p.tables e below G T (mkF m pc ls (.long x :: st)) := by
  obtain ⟨_, X, -⟩ := W
  exact Go.by (fun t q => XT.l2i X.here B.1 rfl (hb B.2.2.2.1 hd) rfl q) q
theorem g_land (B : Bdy p Z s m meth c own bytes maxL ret nm) (W : Wk p l e R s m args below meth c Z T h k n) {x y : Int64} (hd : decode bytes pc = .ok (.land, 1))  (q : Go p.tables e below G T (mkF m (pc + 1) ls (.long (x &&& y) :: st))) : Go p.tables e below G T (mkF m pc ls (.long y :: .long x :: st)) := by
  obtain ⟨_, X, -⟩ := W
  exact Go.by (fun t q => XT.land X.here B.1 rfl (hb B.2.2.2.1 hd) rfl q) q
theorem g_ladd (B : Bdy p Z s m meth c own bytes maxL ret nm) (W : Wk p l e R s m args below meth c Z T h k n) {x y : Int64} (hd : decode bytes pc = .ok (.ladd, 1))  (q : Go p.tables e below G T (mkF m (pc + 1) ls (.long (x + y) :: st))) : Go p.tables e below G T (mkF m pc ls (.long y :: .long x :: st)) := by
  obtain ⟨_, X, -⟩ := W
  exact Go.by (fun t q => XT.ladd X.here B.1 rfl (hb B.2.2.2.1 hd) rfl q) q
theorem g_lcmp (B : Bdy p Z s m meth c own bytes maxL ret nm) (W : Wk p l e R s m args below meth c Z T h k n) {x y : Int64} (hd : decode bytes pc = .ok (.lcmp, 1))  (q : Go p.tables e below G T (mkF m (pc + 1) ls (.int (XT.cmpL x y) :: st))) : Go p.tables e below G T (mkF m pc ls (.long y :: .long x :: st)) := by
  obtain ⟨_, X, -⟩ := W
  exact Go.by (fun t q => XT.lcmp X.here B.1 rfl (hb B.2.2.2.1 hd) rfl q) q
theorem g_lushr (B : Bdy p Z s m meth c own bytes maxL ret nm) (W : Wk p l e R s m args below meth c Z T h k n) {x : Int64} {y : Int32} (hd : decode bytes pc = .ok (.lushr, 1))  (q : Go p.tables e below G T (mkF m (pc + 1) ls (.long (XT.ushrL x y) :: st))) : Go p.tables e below G T (mkF m pc ls (.int y :: .long x :: st)) := by
  obtain ⟨_, X, -⟩ := W
  exact Go.by (fun t q => XT.lushr X.here B.1 rfl (hb B.2.2.2.1 hd) rfl q) q
theorem g_iinc (B : Bdy p Z s m meth c own bytes maxL ret nm) (W : Wk p l e R s m args below meth c Z T h k n) {i : Nat} {cst : Int} {x v : Int32} {l' : Array Slot} (hd : decode bytes pc = .ok (.iinc i cst, 3)) (hv : Int32.ofInt cst = v) (hl : ls[i]? = some (.val (.int x))) (hl' : storeLocals ls i (.int (x + v)) = some l') (q : Go p.tables e below G T (mkF m (pc + 3) l' st)) : Go p.tables e below G T (mkF m pc ls st) := by
  obtain ⟨_, X, -⟩ := W
  exact Go.by (fun t q => XT.iincV X.here B.1 rfl _ (hb B.2.2.2.1 hd) hv hl hl' q) q
theorem g_dup (B : Bdy p Z s m meth c own bytes maxL ret nm) (W : Wk p l e R s m args below meth c Z T h k n) {v : Value} (hd : decode bytes pc = .ok (.dup, 1)) (hv : v.category = 1) (q : Go p.tables e below G T (mkF m (pc + 1) ls (v :: v :: st))) : Go p.tables e below G T (mkF m pc ls (v :: st)) := by
  obtain ⟨_, X, -⟩ := W
  exact Go.by (fun t q => XS.dup X.here B.1 rfl (hb B.2.2.2.1 hd) rfl hv q) q
theorem g_dup_x1 (B : Bdy p Z s m meth c own bytes maxL ret nm) (W : Wk p l e R s m args below meth c Z T h k n) {v w : Value} (hd : decode bytes pc = .ok (.dup_x1, 1)) (hv : v.category = 1) (hw' : w.category = 1) (q : Go p.tables e below G T (mkF m (pc + 1) ls (v :: w :: v :: st))) : Go p.tables e below G T (mkF m pc ls (v :: w :: st)) := by
  obtain ⟨_, X, -⟩ := W
  exact Go.by (fun t q => XT.dupX1 X.here B.1 rfl (hb B.2.2.2.1 hd) rfl hv hw' q) q
theorem g_pop (B : Bdy p Z s m meth c own bytes maxL ret nm) (W : Wk p l e R s m args below meth c Z T h k n) {v : Value} (hd : decode bytes pc = .ok (.pop, 1)) (hv : v.category = 1) (q : Go p.tables e below G T (mkF m (pc + 1) ls st)) : Go p.tables e below G T (mkF m pc ls (v :: st)) := by
  obtain ⟨_, X, -⟩ := W
  exact Go.by (fun t q => XT.pop X.here B.1 rfl (hb B.2.2.2.1 hd) rfl hv q) q
theorem g_goto (B : Bdy p Z s m meth c own bytes maxL ret nm) (W : Wk p l e R s m args below meth c Z T h k n)  {o : Int} {pc' : Nat} (hd : decode bytes pc = .ok (.goto o, 3))  (hp : (pc : Int) + o = (pc' : Int)) (q : Go p.tables e below G T (mkF m pc' ls st)) : Go p.tables e below G T (mkF m pc ls st)   := by
  obtain ⟨_, X, -⟩ := W
  exact Go.by (fun t q => XS.goto X.here B.1 rfl rfl (hb B.2.2.2.1 hd)  (by rw [hp]; exact Int.natCast_nonneg _) (by rw [hp]; exact Int.toNat_natCast _) q) q
theorem g_if_y (B : Bdy p Z s m meth c own bytes maxL ret nm) (W : Wk p l e R s m args below meth c Z T h k n) {cd : ClassFile.Cond} {x : Int32} {o : Int} {pc' : Nat} (hd : decode bytes pc = .ok (.ifCond cd o, 3)) (hc : ifCond.holds cd x = true) (hp : (pc : Int) + o = (pc' : Int)) (q : Go p.tables e below G T (mkF m pc' ls st)) : Go p.tables e below G T (mkF m pc ls (.int x :: st))   := by
  obtain ⟨_, X, -⟩ := W
  exact Go.by (fun t q => XS.ifYes X.here B.1 rfl rfl (hb B.2.2.2.1 hd) rfl hc (by rw [hp]; exact Int.natCast_nonneg _) (by rw [hp]; exact Int.toNat_natCast _) q) q
theorem g_if_n (B : Bdy p Z s m meth c own bytes maxL ret nm) (W : Wk p l e R s m args below meth c Z T h k n) {cd : ClassFile.Cond} {x : Int32} {o : Int} (hd : decode bytes pc = .ok (.ifCond cd o, 3)) (hc : ifCond.holds cd x = false) (q : Go p.tables e below G T (mkF m (pc + 3) ls st)) : Go p.tables e below G T (mkF m pc ls (.int x :: st))   := by
  obtain ⟨_, X, -⟩ := W
  exact Go.by (fun t q => XS.ifNo X.here B.1 rfl (hb B.2.2.2.1 hd) rfl hc q) q
theorem g_icmp_y (B : Bdy p Z s m meth c own bytes maxL ret nm) (W : Wk p l e R s m args below meth c Z T h k n) {cd : ClassFile.Cond} {x y : Int32} {o : Int} {pc' : Nat} (hd : decode bytes pc = .ok (.if_icmp cd o, 3)) (hc : if_icmp.holds cd x y = true) (hp : (pc : Int) + o = (pc' : Int)) (q : Go p.tables e below G T (mkF m pc' ls st)) : Go p.tables e below G T (mkF m pc ls (.int y :: .int x :: st))   := by
  obtain ⟨_, X, -⟩ := W
  exact Go.by (fun t q => XS.icmpYes X.here B.1 rfl rfl (hb B.2.2.2.1 hd) rfl hc (by rw [hp]; exact Int.natCast_nonneg _) (by rw [hp]; exact Int.toNat_natCast _) q) q
theorem g_icmp_n (B : Bdy p Z s m meth c own bytes maxL ret nm) (W : Wk p l e R s m args below meth c Z T h k n) {cd : ClassFile.Cond} {x y : Int32} {o : Int} (hd : decode bytes pc = .ok (.if_icmp cd o, 3)) (hc : if_icmp.holds cd x y = false) (q : Go p.tables e below G T (mkF m (pc + 3) ls st)) : Go p.tables e below G T (mkF m pc ls (.int y :: .int x :: st))   := by
  obtain ⟨_, X, -⟩ := W
  exact Go.by (fun t q => XS.icmpNo X.here B.1 rfl (hb B.2.2.2.1 hd) rfl hc q) q
theorem g_ifnull_y (B : Bdy p Z s m meth c own bytes maxL ret nm) (W : Wk p l e R s m args below meth c Z T h k n)  {o : Int} {pc' : Nat} (hd : decode bytes pc = .ok (.ifnull o, 3))  (hp : (pc : Int) + o = (pc' : Int)) (q : Go p.tables e below G T (mkF m pc' ls st)) : Go p.tables e below G T (mkF m pc ls (.null :: st))   := by
  obtain ⟨_, X, -⟩ := W
  exact Go.by (fun t q => XS.ifnullYes X.here B.1 rfl rfl (hb B.2.2.2.1 hd) rfl (by rw [hp]; exact Int.natCast_nonneg _) (by rw [hp]; exact Int.toNat_natCast _) q) q
theorem g_ifnull_n (B : Bdy p Z s m meth c own bytes maxL ret nm) (W : Wk p l e R s m args below meth c Z T h k n) {a : Addr} {o : Int} (hd : decode bytes pc = .ok (.ifnull o, 3))  (q : Go p.tables e below G T (mkF m (pc + 3) ls st)) : Go p.tables e below G T (mkF m pc ls (.ref a :: st))   := by
  obtain ⟨_, X, -⟩ := W
  exact Go.by (fun t q => XS.ifnullNo X.here B.1 rfl (hb B.2.2.2.1 hd) rfl q) q
theorem g_ifnonnull_y (B : Bdy p Z s m meth c own bytes maxL ret nm) (W : Wk p l e R s m args below meth c Z T h k n) {a : Addr} {o : Int} {pc' : Nat} (hd : decode bytes pc = .ok (.ifnonnull o, 3))  (hp : (pc : Int) + o = (pc' : Int)) (q : Go p.tables e below G T (mkF m pc' ls st)) : Go p.tables e below G T (mkF m pc ls (.ref a :: st))   := by
  obtain ⟨_, X, -⟩ := W
  exact Go.by (fun t q => XT.ifnonnullYes X.here B.1 rfl rfl (hb B.2.2.2.1 hd) rfl (by rw [hp]; exact Int.natCast_nonneg _) (by rw [hp]; exact Int.toNat_natCast _) q) q
theorem g_ifnonnull_n (B : Bdy p Z s m meth c own bytes maxL ret nm) (W : Wk p l e R s m args below meth c Z T h k n)  {o : Int} (hd : decode bytes pc = .ok (.ifnonnull o, 3))  (q : Go p.tables e below G T (mkF m (pc + 3) ls st)) : Go p.tables e below G T (mkF m pc ls (.null :: st))   := by
  obtain ⟨_, X, -⟩ := W
  exact Go.by (fun t q => XT.ifnonnullNo X.here B.1 rfl (hb B.2.2.2.1 hd) rfl q) q
theorem g_acmp_y (B : Bdy p Z s m meth c own bytes maxL ret nm) (W : Wk p l e R s m args below meth c Z T h k n) {cd : ClassFile.ACond} {x y : Value} {o : Int} {pc' : Nat} (hd : decode bytes pc = .ok (.if_acmp cd o, 3)) (hx' : x.isRef = true) (hy' : y.isRef = true) (hc : XT.acmp cd x y = true) (hp : (pc : Int) + o = (pc' : Int)) (q : Go p.tables e below G T (mkF m pc' ls st)) : Go p.tables e below G T (mkF m pc ls (y :: x :: st))   := by
  obtain ⟨_, X, -⟩ := W
  exact Go.by (fun t q => XT.acmpYes X.here B.1 rfl rfl (hb B.2.2.2.1 hd) rfl hx' hy' hc (by rw [hp]; exact Int.natCast_nonneg _) (by rw [hp]; exact Int.toNat_natCast _) q) q
theorem g_acmp_n (B : Bdy p Z s m meth c own bytes maxL ret nm) (W : Wk p l e R s m args below meth c Z T h k n) {cd : ClassFile.ACond} {x y : Value} {o : Int} (hd : decode bytes pc = .ok (.if_acmp cd o, 3)) (hx' : x.isRef = true) (hy' : y.isRef = true) (hc : XT.acmp cd x y = false) (q : Go p.tables e below G T (mkF m (pc + 3) ls st)) : Go p.tables e below G T (mkF m pc ls (y :: x :: st))   := by
  obtain ⟨_, X, -⟩ := W
  exact Go.by (fun t q => XT.acmpNo X.here B.1 rfl (hb B.2.2.2.1 hd) rfl hx' hy' hc q) q
theorem g_dia (P : Prop) [Decidable P] {tb : Tables} {F : JFrame} {pc' : Nat} (h1 : P → Go tb e below G T (mkF m pc' ls (.int 1 :: st)) → Go tb e below G T F) (h0 : ¬ P → Go tb e below G T (mkF m pc' ls (.int 0 :: st)) → Go tb e below G T F) (q : Go tb e below G T (mkF m pc' ls (.int (bi (decide P)) :: st))) : Go tb e below G T F := by
  by_cases hp : P
  · rw [decide_eq_true hp] at q; exact h1 hp q
  · rw [decide_eq_false hp] at q; exact h0 hp q
theorem g_diab (b : Bool) {tb : Tables} {F : JFrame} {pc' : Nat} (h1 : b = true → Go tb e below G T (mkF m pc' ls (.int 1 :: st)) → Go tb e below G T F) (h0 : b = false → Go tb e below G T (mkF m pc' ls (.int 0 :: st)) → Go tb e below G T F) (q : Go tb e below G T (mkF m pc' ls (.int (bi b) :: st))) : Go tb e below G T F := by
  cases b
  · exact h0 rfl q
  · exact h1 rfl q
theorem g_ldcI (B : Bdy p Z s m meth c own bytes maxL ret nm) (W : Wk p l e R s m args below meth c Z T h k n) {i : Nat} {v : Int32} (hd : decode bytes pc = .ok (.ldc i, 2)) (w : (Cond.constant own i v).before a0 Z = true) (q : Go p.tables e below G T (mkF m (pc + 2) ls (.int v :: st))) : Go p.tables e below G T (mkF m pc ls st) := by
  obtain ⟨_, X, -⟩ := W
  exact Go.by (fun t q => X.ldcI B.1 B.2.2.1 (mv B.2.1 w) rfl (hb B.2.2.2.1 hd) q) q
theorem g_ldcL (B : Bdy p Z s m meth c own bytes maxL ret nm) (W : Wk p l e R s m args below meth c Z T h k n) {i : Nat} {v : Int64} (hd : decode bytes pc = .ok (.ldc2_w i, 3)) (w : (Cond.constantLong own i v).before a0 Z = true) (q : Go p.tables e below G T (mkF m (pc + 3) ls (.long v :: st))) : Go p.tables e below G T (mkF m pc ls st) := by
  obtain ⟨_, X, -⟩ := W
  exact Go.by (fun t q => X.ldc2J B.1 B.2.2.1 (mv B.2.1 w) rfl (hb B.2.2.2.1 hd) q) q
/-! ### the heap's steps -/
theorem x_new (B : Bdy p Z s m meth c own bytes maxL ret nm) (W : Wk p l e R s m args below meth c Z T h k n) {C : String} {i sz : Nat} (hd : decode bytes pc = .ok (.new i, 3)) (w : (Cond.classLink own i C).before a0 Z = true) (wi : (Cond.instantiable C sz).before a0 Z = true) (wz : (Cond.initialized C).before a0 Z = true) (hc : k + 1 ≤ R.cells) (hl : n + sz ≤ R.slots) (ls : Array Slot) (st : List Value) :
    ∃ T' h' b, b = h.size ∧ Wk p l e R s m args below meth c Z T' h' (k + 1) (n + sz) ∧ Keep h h' [] ∧ Exa Z h' b C ∧ (∀ {O nf d : String} {ty : FieldType}, Laid Z a0 C O nf d → parseFieldDescriptor d = some ty → Fld Z h' b O nf d (defaultValue ty)) ∧
      (∀ G, Go p.tables e below G T' (mkF m (pc + 3) ls (.ref b :: st)) → Go p.tables e below G T (mkF m pc ls st)) := by
  obtain ⟨locs, X, eT, N, O⟩ := W
  obtain ⟨T', h', X', e', E', A', D', -, st'⟩ := newO X B.1 B.2.1 B.2.2.1 w wi wz eT (g := mkF m pc ls st) rfl (hb B.2.2.2.1 hd) hc hl
  exact ⟨T', h', _, rfl, ⟨locs, X', e', N, O.ext E'⟩, (Keep.refl h []).ext E', A', D', fun G q => Go.by st' q⟩
theorem x_init (B : Bdy p Z s m meth c own bytes maxL ret nm) (W : Wk p l e R s m args below meth c Z T h k n) {i : Nat} (hd : decode bytes pc = .ok (.invokespecial i, 3)) (w1 : (Cond.methodLink own i Lib.objectInit).before a0 Z = true) (w2 : (Cond.instanceMethod Lib.objectInit).before a0 Z = true)
    (w3 : (Cond.code Lib.objectInit ⟨#[0xb1]⟩ 1 none).before a0 Z = true) (b : Addr) (ls : Array Slot) (st : List Value) (hsz : ls.size = maxL) (V : Nat) (hV : (st.map fun v => v.category).sum = V) (hf : 1 ≤ R.frames) (hl : V + 12 ≤ R.locals) :
    ∃ T', Wk p l e R s m args below meth c Z T' h k n ∧ (∀ G, Go p.tables e below G T' (mkF m (pc + 3) ls st) → Go p.tables e below G T (mkF m pc ls (.ref b :: st))) := by
  obtain ⟨locs, X, eT, N, O⟩ := W
  obtain ⟨T', X', e', st'⟩ := initO X B.1 B.2.1 B.2.2.1 w1 w2 w3 eT (g := mkF m pc ls (.ref b :: st)) rfl (hsz.trans B.2.2.2.2.1.symm) rfl (hb B.2.2.2.1 hd) hf (W := V) (by show 2 * 0 + _ ≤ _; omega) hl
  exact ⟨T', ⟨locs, X', e', N, O⟩, fun G q => Go.by st' q⟩
theorem x_get (B : Bdy p Z s m meth c own bytes maxL ret nm) (W : Wk p l e R s m args below meth c Z T h k n) {R0 O nf d host : String} {i : Nat} {b : Addr} {v : Value} (hd : decode bytes pc = .ok (.getfield i, 3)) (w : (Cond.fieldLink own i R0 nf d).before a0 Z = true ∨ (Cond.fieldLinkNest own i R0 nf d host).before a0 Z = true) (via : Via Z R0 O nf d) (F : Fld Z h b O nf d v) (ls : Array Slot) (st : List Value) :
    ∃ T', Wk p l e R s m args below meth c Z T' h k n ∧ (∀ G, Go p.tables e below G T' (mkF m (pc + 3) ls (v :: st)) → Go p.tables e below G T (mkF m pc ls (.ref b :: st))) := by
  obtain ⟨locs, X, eT, N, O'⟩ := W
  obtain ⟨T', X', e', st'⟩ := getF X B.1 B.2.1 B.2.2.1 w via eT F (g := mkF m pc ls (.ref b :: st)) rfl rfl (hb B.2.2.2.1 hd)
  exact ⟨T', ⟨locs, X', e', N, O'⟩, fun G q => Go.by st' q⟩
theorem x_gets (B : Bdy p Z s m meth c own bytes maxL ret nm) (W : Wk p l e R s m args below meth c Z T h k n) {R0 O nf d host : String} {i : Nat} {v : Value} (hd : decode bytes pc = .ok (.getstatic i, 3)) (w : (Cond.fieldLink own i R0 nf d).before a0 Z = true ∨ (Cond.fieldLinkNest own i R0 nf d host).before a0 Z = true) (via : Via Z R0 O nf d) (F : Sta Z Z.heap O nf d v) (ls : Array Slot) (st : List Value) :
    ∃ T', Wk p l e R s m args below meth c Z T' h k n ∧ (∀ G, Go p.tables e below G T' (mkF m (pc + 3) ls (v :: st)) → Go p.tables e below G T (mkF m pc ls st)) := by
  obtain ⟨locs, X, eT, N, O'⟩ := W
  obtain ⟨T', X', e', st'⟩ := getS2 X B.1 B.2.1 B.2.2.1 w via eT (F.ext O'.2) (g := mkF m pc ls st) rfl (hb B.2.2.2.1 hd)
  exact ⟨T', ⟨locs, X', e', N, O'⟩, fun G q => Go.by st' q⟩
theorem x_put (B : Bdy p Z s m meth c own bytes maxL ret nm) (W : Wk p l e R s m args below meth c Z T h k n) {R0 O nf d C : String} {i kk : Nat} {ty : FieldType} {b : Addr} {v v' old : Value} (hd : decode bytes pc = .ok (.putfield i, 3)) (w : (Cond.fieldLink own i R0 nf d).before a0 Z = true) (via : Via Z R0 O nf d) (F : Fld Z h b O nf d old) (E : Exa Z h b C) (L : (Cond.lays C O nf d).before a0 Z = true ∨ ((Cond.laysFinal C O nf d).before a0 Z = true ∧ own = O ∧ nm = "<init>")) (wi : (Cond.instantiable C kk).before a0 Z = true)
    (hty : parseFieldDescriptor d = some ty) (hn : narrow ty v = v') (hf : fits ty v' = true) (hb' : Z.heap.size ≤ b) (ls : Array Slot) (st : List Value) :
    ∃ T' h', Wk p l e R s m args below meth c Z T' h' k n ∧ Keep h h' [b] ∧ Wr h h' b (RoadKit.slotOf Z O nf d) v' ∧ Fld Z h' b O nf d v' ∧ Exa Z h' b C ∧ (∀ G, Go p.tables e below G T' (mkF m (pc + 3) ls st) → Go p.tables e below G T (mkF m pc ls (v :: .ref b :: st))) := by
  obtain ⟨locs, X, eT, N, O'⟩ := W
  obtain ⟨T', h', X', e', W', st'⟩ := putFN X B.1 B.2.1 B.2.2.1 w via eT F E (L.imp id fun q => ⟨q.1, q.2.1, B.nameOf.trans q.2.2⟩) wi hty hn hf (g := mkF m pc ls (v :: .ref b :: st)) rfl rfl (hb B.2.2.2.1 hd)
  exact ⟨T', h', ⟨_, X', e', Fr.snoc X' N hb', O'.wr W' hb'⟩, Keep.of_wr W', W', F.same W', E.wr W', fun G q => Go.by st' q⟩
theorem x_instY (B : Bdy p Z s m meth c own bytes maxL ret nm) (W : Wk p l e R s m args below meth c Z T h k n) {K : String} {i : Nat} {b : Addr} (hd : decode bytes pc = .ok (.instanceof i, 3)) (w : (Cond.classLink own i K).before a0 Z = true) (F : Ins Z h b K true) (ls : Array Slot) (st : List Value) :
    ∃ T', Wk p l e R s m args below meth c Z T' h k n ∧ (∀ G, Go p.tables e below G T' (mkF m (pc + 3) ls (.int 1 :: st)) → Go p.tables e below G T (mkF m pc ls (.ref b :: st))) := by
  obtain ⟨locs, X, eT, N, O⟩ := W
  obtain ⟨T', X', e', st'⟩ := instY X B.1 B.2.1 B.2.2.1 w eT F (g := mkF m pc ls (.ref b :: st)) rfl rfl (hb B.2.2.2.1 hd)
  exact ⟨T', ⟨locs, X', e', N, O⟩, fun G q => Go.by st' q⟩
theorem x_instN (B : Bdy p Z s m meth c own bytes maxL ret nm) (W : Wk p l e R s m args below meth c Z T h k n) {K C : String} {i : Nat} {b : Addr} (hd : decode bytes pc = .ok (.instanceof i, 3)) (w : (Cond.classLink own i K).before a0 Z = true) (E : Exa Z h b C) (F : ∃ c t, Z.vm.findClass C = some c ∧ Z.vm.findClass K = some t ∧ Z.vm.assignable c t = false) (ls : Array Slot) (st : List Value) :
    ∃ T', Wk p l e R s m args below meth c Z T' h k n ∧ (∀ G, Go p.tables e below G T' (mkF m (pc + 3) ls (.int 0 :: st)) → Go p.tables e below G T (mkF m pc ls (.ref b :: st))) := by
  obtain ⟨locs, X, eT, N, O⟩ := W
  obtain ⟨T', X', e', st'⟩ := instNo X B.1 B.2.1 B.2.2.1 w eT E F (g := mkF m pc ls (.ref b :: st)) rfl rfl (hb B.2.2.2.1 hd)
  exact ⟨T', ⟨locs, X', e', N, O⟩, fun G q => Go.by st' q⟩
theorem x_castY (B : Bdy p Z s m meth c own bytes maxL ret nm) (W : Wk p l e R s m args below meth c Z T h k n) {K : String} {i : Nat} {b : Addr} (hd : decode bytes pc = .ok (.checkcast i, 3)) (w : (Cond.classLink own i K).before a0 Z = true) (F : Ins Z h b K true) (ls : Array Slot) (st : List Value) :
    ∃ T', Wk p l e R s m args below meth c Z T' h k n ∧ (∀ G, Go p.tables e below G T' (mkF m (pc + 3) ls (.ref b :: st)) → Go p.tables e below G T (mkF m pc ls (.ref b :: st))) := by
  obtain ⟨locs, X, eT, N, O⟩ := W
  obtain ⟨T', X', e', st'⟩ := castY X B.1 B.2.1 B.2.2.1 w eT F (g := mkF m pc ls (.ref b :: st)) rfl rfl (hb B.2.2.2.1 hd)
  exact ⟨T', ⟨locs, X', e', N, O⟩, fun G q => Go.by st' q⟩
/-! ### arrays -/
theorem x_newA (B : Bdy p Z s m meth c own bytes maxL ret nm) (W : Wk p l e R s m args below meth c Z T h k n) {aty : ArrayType} {z : Int32} (cap : Nat) (hd : decode bytes pc = .ok (.newarray aty, 2)) (w : (Cond.arrayClass (newarray.typeOf aty)).before a0 Z = true) (hn : ¬ z < 0) (hcap : z.toNatClampNeg ≤ cap) (hbg : cap * 8 ≤ 536870912) (hc : k + 1 ≤ R.cells) (hl : n + cap ≤ R.slots) (ls : Array Slot) (st : List Value) :
    ∃ T' h' b cA, b = h.size ∧ Wk p l e R s m args below meth c Z T' h' (k + 1) (n + cap) ∧ Keep h h' [] ∧ Arv Z h' b cA (newarray.typeOf aty) z (List.replicate cap (defaultValue (newarray.typeOf aty))) (defaultValue (newarray.typeOf aty)) ∧
      (∀ G, Go p.tables e below G T' (mkF m (pc + 2) ls (.ref b :: st)) → Go p.tables e below G T (mkF m pc ls (.int z :: st))) := by
  obtain ⟨locs, X, eT, N, O⟩ := W
  obtain ⟨T', h', cA, X', e', E', A', st'⟩ := newP X B.1 B.2.1 w eT (g := mkF m pc ls (.int z :: st)) rfl (hb B.2.2.2.1 hd) rfl hn hcap hbg hc hl
  exact ⟨T', h', _, cA, rfl, ⟨locs, X', e', N, O.ext E'⟩, (Keep.refl h []).ext E', (Arv.new A' hn).pad (vs' := [] ++ List.replicate cap _) (pad_rep [] _ cap), fun G q => Go.by st' q⟩
theorem arv_put {kc : ClassId} {ty : FieldType} {z j : Int32} {vs : List Value} {dv v : Value} {b : Addr} (F : Arv Z h b kc ty z vs dv) (hv : fits ty v = true) (hW : Wr h h' b j.toNatClampNeg v) (hi : j.toNatClampNeg < vs.length) : Arv Z h' b kc ty z (vs.set j.toNatClampNeg v) dv := by
  obtain ⟨cl, A, r1, r2, r3, H, Gf⟩ := F
  exact Arv.set A r1 r2 r3 H Gf hv hW _ rfl hi
theorem x_castore (B : Bdy p Z s m meth c own bytes maxL ret nm) (W : Wk p l e R s m args below meth c Z T h k n) {kc : ClassId} {z j x : Int32} {vs : List Value} {dv : Value} {b : Addr} (hd : decode bytes pc = .ok (.castore, 1)) (F : Arv Z h b kc .char z vs dv) (hj : ¬ j < 0 ∧ j < z) (hi : j.toNatClampNeg < vs.length) (hb' : Z.heap.size ≤ b) (ls : Array Slot) (st : List Value) :
    ∃ T' h', Wk p l e R s m args below meth c Z T' h' k n ∧ Keep h h' [b] ∧ Arv Z h' b kc .char z (vs.set j.toNatClampNeg (.int (nar .char x))) dv ∧ (∀ G, Go p.tables e below G T' (mkF m (pc + 1) ls st) → Go p.tables e below G T (mkF m pc ls (.int x :: .int j :: .ref b :: st))) := by
  obtain ⟨locs, X, eT, N, O⟩ := W
  have F' := F
  obtain ⟨cl, A, r1, r2, r3, Hs, Gf⟩ := F
  obtain ⟨T', h', X', e', W', st'⟩ := stC X B.1 B.2.1 eT A (inb_of r2 hj) (g := mkF m pc ls (.int x :: .int j :: .ref b :: st)) rfl rfl (hb B.2.2.2.1 hd)
  exact ⟨T', h', ⟨_, X', e', Fr.snoc X' N hb', O.wr W' hb'⟩, Keep.of_wr W', arv_put F' (fits_nar_char _) W' hi, fun G q => Go.by st' q⟩
theorem arv_read {kc : ClassId} {ty : FieldType} {z : Int32} {vs : List Value} {dv : Value} {b : Addr} (F : Arv Z h b kc ty z vs dv) {j : Int32} (hj : ¬ j < 0 ∧ j < z) {v : Value} (hv : vs.getD j.toNatClampNeg dv = v) : ∃ cl : Cell, Arr Z h b cl ty ∧ ¬ (j < 0 ∨ cl.slots.size ≤ j.toNatClampNeg) ∧ cl.slots[j.toNatClampNeg]? = some v := by
  obtain ⟨cl, A, r1, r2, r3, H, -⟩ := F
  exact ⟨cl, A, inb_of r2 hj, H.at (inb_of r2 hj) hv⟩
theorem g_caload (B : Bdy p Z s m meth c own bytes maxL ret nm) (W : Wk p l e R s m args below meth c Z T h k n) {kc : ClassId} {z j : Int32} {vs : List Value} {dv v : Value} {b : Addr} (hd : decode bytes pc = .ok (.caload, 1)) (F : Arv Z h b kc .char z vs dv) (hj : ¬ j < 0 ∧ j < z) (hv : vs.getD j.toNatClampNeg dv = v)
    (q : Go p.tables e below G T (mkF m (pc + 1) ls (v :: st))) : Go p.tables e below G T (mkF m pc ls (.int j :: .ref b :: st)) := by
  obtain ⟨locs, X, eT, N, O⟩ := W
  obtain ⟨cl, A, hin, hat⟩ := arv_read F hj hv
  exact Go.by (X.caload B.1 (by rw [eT]; exact A.1) (State.isArrayOf_alike B.2.1.alike A.2.1) A.2.2 hin hat (g := mkF m pc ls (.int j :: .ref b :: st)) rfl rfl (hb B.2.2.2.1 hd)) q
theorem g_caloadK (B : Bdy p Z s m meth c own bytes maxL ret nm) (W : Wk p l e R s m args below meth c Z T h k n) {j : Int32} {v : Value} {cl : Cell} {b : Addr} (hd : decode bytes pc = .ok (.caload, 1)) (A : Arr Z h b cl .char) (hin : ¬ (j < 0 ∨ cl.slots.size ≤ j.toNatClampNeg)) (hat : cl.slots[j.toNatClampNeg]? = some v)
    (q : Go p.tables e below G T (mkF m (pc + 1) ls (v :: st))) : Go p.tables e below G T (mkF m pc ls (.int j :: .ref b :: st)) := by
  obtain ⟨locs, X, eT, N, O⟩ := W
  exact Go.by (X.caload B.1 (by rw [eT]; exact A.1) (State.isArrayOf_alike B.2.1.alike A.2.1) A.2.2 hin hat (g := mkF m pc ls (.int j :: .ref b :: st)) rfl rfl (hb B.2.2.2.1 hd)) q
theorem g_alenK (B : Bdy p Z s m meth c own bytes maxL ret nm) (W : Wk p l e R s m args below meth c Z T h k n) {ty : FieldType} {z : Int32} {cl : Cell} {b : Addr} (hd : decode bytes pc = .ok (.arraylength, 1)) (A : Arr Z h b cl ty) (hz : cl.slots.size.toInt32 = z)
    (q : Go p.tables e below G T (mkF m (pc + 1) ls (.int z :: st))) : Go p.tables e below G T (mkF m pc ls (.ref b :: st)) := by
  obtain ⟨locs, X, eT, N, O⟩ := W
  refine Go.by (X.arraylength B.1 (by rw [eT]; exact A.1) (State.isArrayOf_alike B.2.1.alike A.2.1) (g := mkF m pc ls (.ref b :: st)) rfl rfl (hb B.2.2.2.1 hd)) ?_
  rw [hz]; exact q
theorem g_aalen (B : Bdy p Z s m meth c own bytes maxL ret nm) (W : Wk p l e R s m args below meth c Z T h k n) {kc : ClassId} {ty : FieldType} {z : Int32} {vs : List Value} {dv : Value} {b : Addr} (hd : decode bytes pc = .ok (.arraylength, 1)) (F : Arv Z h b kc ty z vs dv)
    (q : Go p.tables e below G T (mkF m (pc + 1) ls (.int z :: st))) : Go p.tables e below G T (mkF m pc ls (.ref b :: st)) := by
  obtain ⟨locs, X, eT, N, O⟩ := W
  obtain ⟨cl, A, r1, r2, r3, H, -⟩ := F
  refine Go.by (X.arraylength B.1 (by rw [eT]; exact A.1) (State.isArrayOf_alike B.2.1.alike A.2.1) (g := mkF m pc ls (.ref b :: st)) rfl rfl (hb B.2.2.2.1 hd)) ?_
  rw [len_of r2 r3]; exact q
theorem g_aaload (B : Bdy p Z s m meth c own bytes maxL ret nm) (W : Wk p l e R s m args below meth c Z T h k n) {ty : FieldType} {j : Int32} {v : Value} {cl : Cell} {b : Addr} (hd : decode bytes pc = .ok (.aaload, 1)) (A : Arr Z h b cl ty) (ht : ty.isReference = true) (hin : ¬ (j < 0 ∨ cl.slots.size ≤ j.toNatClampNeg)) (hat : cl.slots[j.toNatClampNeg]? = some v)
    (q : Go p.tables e below G T (mkF m (pc + 1) ls (v :: st))) : Go p.tables e below G T (mkF m pc ls (.int j :: .ref b :: st)) := by
  obtain ⟨locs, X, eT, N, O⟩ := W
  exact Go.by (X.aaload B.1 (by rw [eT]; exact A.1) (State.isArrayOf_alike B.2.1.alike A.2.1) ht A.2.2 hin hat (g := mkF m pc ls (.int j :: .ref b :: st)) rfl rfl (hb B.2.2.2.1 hd)) q
/-! ### calls -/
theorem backC {y : MethodName} {yb : ByteArray} {yL : Nat} {yr : Option FieldType} {rm : Room} {len V : Nat} {as' : Array Value} (C : Con l Z y yb yL yr [] rm as' h Q) (O : Old Z Z.heap.size h)
    (hZ : Z.Warmed39 s.vm) (wc : (Cond.code y yb yL yr).before a0 Z = true) (wz : (Cond.initialized y.cls).before a0 Z = true) (hf : rm.frames + 1 ≤ R.frames) (hl : V + (yL + 11) + rm.locals ≤ R.locals) :
    Back l R p e below s args y len V (fun A a => a = as' ∧ A.U.heap = h ∧ A.cells + rm.cells ≤ R.cells ∧ A.slots + rm.slots ≤ R.slots)
      (fun A _ v B => ∃ L, (Q v B.U.heap ∧ Fr Z.heap.size L ∧ Old Z Z.heap.size B.U.heap) ∧ B.locs = A.locs ++ L ∧ B.cells = A.cells + rm.cells ∧ B.slots = A.slots + rm.slots) :=
  backOf (Q := fun v h L => Q v h ∧ Fr Z.heap.size L ∧ Old Z Z.heap.size h) (C O) hZ wc wz hf hl
theorem x_static (B : Bdy p Z s m meth c own bytes maxL ret nm) (W : Wk p l e R s m args below meth c Z T h k n) {y : MethodName} {yb : ByteArray} {yL i : Nat} {yr : Option FieldType} {rm : Room} (argsL : List Value) (C : Con l Z y yb yL yr [] rm argsL.toArray h Q)
    (hd : decode bytes pc = .ok (.invokestatic i, 3)) (w1 : (Cond.methodLink own i y).before a0 Z = true) (w2 : (Cond.static y).before a0 Z = true) (wz : (Cond.initialized y.cls).before a0 Z = true) (wc : (Cond.code y yb yL yr).before a0 Z = true) (hy : y.cls ≠ "java/lang/invoke/MethodHandle" ∧ y.cls ≠ "java/lang/invoke/VarHandle")
    (hlen : ∀ sig, parseMethodDescriptor y.desc = some sig → argsL.length = sig.parameters.length) (ls : Array Slot) (st : List Value) (hsz : ls.size = maxL) (V : Nat) (hV : (st.map fun v => v.category).sum = V) (hf : rm.frames + 1 ≤ R.frames) (hl : V + (yL + 11) + rm.locals ≤ R.locals) (hc : k + rm.cells ≤ R.cells) (hs : n + rm.slots ≤ R.slots) :
    ∃ T' h' v, Wk p l e R s m args below meth c Z T' h' (k + rm.cells) (n + rm.slots) ∧ Q v h' ∧ (∀ G, Go p.tables e below G T' (mkF m (pc + 3) ls (v.toList ++ st)) → Go p.tables e below G T (mkF m pc ls (argsL.reverse ++ st))) := by
  obtain ⟨locs, X, eT, N, O⟩ := W
  obtain ⟨v, _, ⟨T', L', k', n'⟩, -, X', ⟨Lc, hQ, l1, l2, l3⟩, st'⟩ := Jvm.LawKit.callS X B.1 (y := y) B.2.2.1 (mvT B.2.1 w1) (mvT B.2.1 w2) (mvT B.2.1 wz) (mvT B.2.1 wc) hy (backC (V := V) C O B.2.1 wc wz hf hl) (g := mkF m pc ls (argsL.reverse ++ st)) rfl (hsz.trans B.2.2.2.2.1.symm) (argsL := argsL) (rest := st) hlen rfl (by show 2 * 0 + _ ≤ _; omega) (hb B.2.2.2.1 hd) (fun _ _ => ⟨rfl, eT, hc, hs⟩)
  dsimp only [Pt.U, Pt.locs, Pt.cells, Pt.slots] at X' l1 l2 l3 st' hQ
  subst l1 l2 l3
  exact ⟨T', T'.heap, v, ⟨_, X', rfl, N.app hQ.2.1, hQ.2.2⟩, hQ.1, fun G q => Go.by st' q⟩
theorem x_special (B : Bdy p Z s m meth c own bytes maxL ret nm) (W : Wk p l e R s m args below meth c Z T h k n) {y : MethodName} {yb : ByteArray} {yL i : Nat} {rm : Room} {b : Addr} (argsL : List Value) (C : Con l Z y yb yL none [] rm (.ref b :: argsL).toArray h Q)
    (hd : decode bytes pc = .ok (.invokespecial i, 3)) (hy1 : y.name = "<init>") (w1 : (Cond.methodLink own i y).before a0 Z = true) (w2 : (Cond.instanceMethod y).before a0 Z = true) (wz : (Cond.initialized y.cls).before a0 Z = true) (wc : (Cond.code y yb yL none).before a0 Z = true) (hy : y.cls ≠ "java/lang/invoke/MethodHandle" ∧ y.cls ≠ "java/lang/invoke/VarHandle")
    (hlen : ∀ sig, parseMethodDescriptor y.desc = some sig → argsL.length = sig.parameters.length) (ls : Array Slot) (st : List Value) (hsz : ls.size = maxL) (V : Nat) (hV : (st.map fun v => v.category).sum = V) (hf : rm.frames + 1 ≤ R.frames) (hl : V + (yL + 11) + rm.locals ≤ R.locals) (hc : k + rm.cells ≤ R.cells) (hs : n + rm.slots ≤ R.slots) :
    ∃ T' h' v, Wk p l e R s m args below meth c Z T' h' (k + rm.cells) (n + rm.slots) ∧ Q v h' ∧ (∀ G, Go p.tables e below G T' (mkF m (pc + 3) ls (v.toList ++ st)) → Go p.tables e below G T (mkF m pc ls (argsL.reverse ++ .ref b :: st))) := by
  obtain ⟨locs, X, eT, N, O⟩ := W
  obtain ⟨v, _, ⟨T', L', k', n'⟩, -, X', ⟨Lc, hQ, l1, l2, l3⟩, st'⟩ := X.specialBack B.1 (y := y) hy1 B.2.2.1 (mvT B.2.1 w1) (mvT B.2.1 w2) (mvT B.2.1 wc) hy (backC (V := V) C O B.2.1 wc wz hf hl) (g := mkF m pc ls (argsL.reverse ++ .ref b :: st)) rfl (hsz.trans B.2.2.2.2.1.symm) (Steps.refl _) (a := b) (argsL := argsL) (rest := st) hlen rfl (by show 2 * 0 + _ ≤ _; omega) (hb B.2.2.2.1 hd) (fun _ _ => ⟨rfl, eT, hc, hs⟩)
  dsimp only [Pt.U, Pt.locs, Pt.cells, Pt.slots] at X' l1 l2 l3 st' hQ
  subst l1 l2 l3
  exact ⟨T', T'.heap, v, ⟨_, X', rfl, N.app hQ.2.1, hQ.2.2⟩, hQ.1, fun G q => Go.by (fun t q => st'.trans q) q⟩
theorem x_virtual (B : Bdy p Z s m meth c own bytes maxL ret nm) (W : Wk p l e R s m args below meth c Z T h k n) {y : MethodName} {yb : ByteArray} {yL i : Nat} {yr : Option FieldType} {rm : Room} {b : Addr} {D : String} (argsL : List Value) (C : Con l Z y yb yL yr [] rm (.ref b :: argsL).toArray h Q) (E : Exa Z h b D)
    (hd : decode bytes pc = .ok (.invokevirtual i, 3)) (w1 : (Cond.methodLink own i y).before a0 Z = true) (w2 : (Cond.declares y).before a0 Z = true) (w3 : (Cond.selects D y y).before a0 Z = true) (w4 : (Cond.instanceMethod y).before a0 Z = true) (wz : (Cond.initialized y.cls).before a0 Z = true) (wc : (Cond.code y yb yL yr).before a0 Z = true) (hy : y.cls ≠ "java/lang/invoke/MethodHandle" ∧ y.cls ≠ "java/lang/invoke/VarHandle")
    (hlen : ∀ sig, parseMethodDescriptor y.desc = some sig → argsL.length = sig.parameters.length) (ls : Array Slot) (st : List Value) (hsz : ls.size = maxL) (V : Nat) (hV : (st.map fun v => v.category).sum = V) (hf : rm.frames + 1 ≤ R.frames) (hl : V + (yL + 11) + rm.locals ≤ R.locals) (hc : k + rm.cells ≤ R.cells) (hs : n + rm.slots ≤ R.slots) :
    ∃ T' h' v, Wk p l e R s m args below meth c Z T' h' (k + rm.cells) (n + rm.slots) ∧ Q v h' ∧ (∀ G, Go p.tables e below G T' (mkF m (pc + 3) ls (v.toList ++ st)) → Go p.tables e below G T (mkF m pc ls (argsL.reverse ++ .ref b :: st))) := by
  obtain ⟨locs, X, eT, N, O⟩ := W
  obtain ⟨cq, kq, qa, qb, qc⟩ := isOf B.2.1 eT E
  obtain ⟨v, _, ⟨T', L', k', n'⟩, -, X', ⟨Lc, hQ, l1, l2, l3⟩, st'⟩ := X.virtualBack B.1 (y := y) (z := y) B.2.2.1 (mvT B.2.1 w1) (mvT B.2.1 w2) (notFace_of_selects (args := #[]) (mvT B.2.1 w3)) (mvT B.2.1 w3) (mvT B.2.1 w4) hy (backC (V := V) C O B.2.1 wc wz hf hl) qa qc (g := mkF m pc ls (argsL.reverse ++ .ref b :: st)) rfl (hsz.trans B.2.2.2.2.1.symm) (Steps.refl _) (argsL := argsL) (rest := st) hlen rfl (by show 2 * 0 + _ ≤ _; omega) (hb B.2.2.2.1 hd) (fun _ _ => ⟨rfl, eT, hc, hs⟩)
  dsimp only [Pt.U, Pt.locs, Pt.cells, Pt.slots] at X' l1 l2 l3 st' hQ
  subst l1 l2 l3
  exact ⟨T', T'.heap, v, ⟨_, X', rfl, N.app hQ.2.1, hQ.2.2⟩, hQ.1, fun G q => Go.by (fun t q => st'.trans q) q⟩
end K
end Jvm.OwnK
namespace Jvm.Pilot.@@N@@
open Jvm Jvm.ClassFile Sem Op Lib Jvm.Free Jvm.Stand Jvm.LawKit Jvm.RoadKit Jvm.OwnK Bundle Jvm.Pilot.@@N@@.Jvm.D
theorem tw {Z : State} {a0 : Array Value} (hw : ∀ d ∈ tables_1, d.before a0 Z = true) (i : Nat) {d : Jvm.Cond} (h : tables_1[i]? = some d) : d.before a0 Z = true := hw _ (List.mem_of_getElem? h)
theorem d_jdk_29_method_65_0 : decode jdk_29_method_65_code 0 = .ok (.iload_n 0, 1) := by decide +kernel
theorem d_jdk_29_method_65_1 : decode jdk_29_method_65_code 1 = .ok (.iload_n 1, 1) := by decide +kernel
theorem d_jdk_29_method_65_2 : decode jdk_29_method_65_code 2 = .ok (.if_icmp .lt 7, 3) := by decide +kernel
theorem d_jdk_29_method_65_5 : decode jdk_29_method_65_code 5 = .ok (.iload_n 0, 1) := by decide +kernel
theorem d_jdk_29_method_65_6 : decode jdk_29_method_65_code 6 = .ok (.goto 4, 3) := by decide +kernel
theorem d_jdk_29_method_65_9 : decode jdk_29_method_65_code 9 = .ok (.iload_n 1, 1) := by decide +kernel
theorem d_jdk_29_method_65_10 : decode jdk_29_method_65_code 10 = .ok (.ireturn, 1) := by decide +kernel
theorem d_prog_46_method_2_0 : decode prog_46_method_2_code 0 = .ok (.iload_n 0, 1) := by decide +kernel
theorem d_prog_46_method_2_1 : decode prog_46_method_2_code 1 = .ok (.iconst 1, 1) := by decide +kernel
theorem d_prog_46_method_2_2 : decode prog_46_method_2_code 2 = .ok (.if_icmp .ge 17, 3) := by decide +kernel
theorem d_prog_46_method_2_5 : decode prog_46_method_2_code 5 = .ok (.new 21, 3) := by decide +kernel
theorem d_prog_46_method_2_8 : decode prog_46_method_2_code 8 = .ok (.dup, 1) := by decide +kernel
theorem d_prog_46_method_2_9 : decode prog_46_method_2_code 9 = .ok (.iload_n 0, 1) := by decide +kernel
theorem d_prog_46_method_2_15 : decode prog_46_method_2_code 15 = .ok (.invokespecial 27, 3) := by decide +kernel
theorem d_prog_46_method_2_18 : decode prog_46_method_2_code 18 = .ok (.athrow, 1) := by decide +kernel
theorem d_prog_46_method_2_19 : decode prog_46_method_2_code 19 = .ok (.new 8, 3) := by decide +kernel
theorem d_prog_46_method_2_22 : decode prog_46_method_2_code 22 = .ok (.dup, 1) := by decide +kernel
theorem d_prog_46_method_2_23 : decode prog_46_method_2_code 23 = .ok (.iload_n 0, 1) := by decide +kernel
theorem d_prog_46_method_2_24 : decode prog_46_method_2_code 24 = .ok (.iconst 0, 1) := by decide +kernel
theorem d_prog_46_method_2_25 : decode prog_46_method_2_code 25 = .ok (.aconst_null, 1) := by decide +kernel
theorem d_prog_46_method_2_26 : decode prog_46_method_2_code 26 = .ok (.invokespecial 30, 3) := by decide +kernel
theorem d_prog_46_method_2_29 : decode prog_46_method_2_code 29 = .ok (.areturn, 1) := by decide +kernel
theorem d_prog_46_method_1_0 : decode prog_46_method_1_code 0 = .ok (.aload_n 0, 1) := by decide +kernel
theorem d_prog_46_method_1_1 : decode prog_46_method_1_code 1 = .ok (.invokespecial 1, 3) := by decide +kernel
theorem d_prog_46_method_1_4 : decode prog_46_method_1_code 4 = .ok (.aload_n 0, 1) := by decide +kernel
theorem d_prog_46_method_1_5 : decode prog_46_method_1_code 5 = .ok (.iload_n 1, 1) := by decide +kernel
theorem d_prog_46_method_1_6 : decode prog_46_method_1_code 6 = .ok (.putfield 7, 3) := by decide +kernel
theorem d_prog_46_method_1_9 : decode prog_46_method_1_code 9 = .ok (.aload_n 0, 1) := by decide +kernel
theorem d_prog_46_method_1_10 : decode prog_46_method_1_code 10 = .ok (.iload_n 2, 1) := by decide +kernel
theorem d_prog_46_method_1_11 : decode prog_46_method_1_code 11 = .ok (.putfield 13, 3) := by decide +kernel
theorem d_prog_46_method_1_14 : decode prog_46_method_1_code 14 = .ok (.aload_n 0, 1) := by decide +kernel
theorem d_prog_46_method_1_15 : decode prog_46_method_1_code 15 = .ok (.aload_n 3, 1) := by decide +kernel
theorem d_prog_46_method_1_16 : decode prog_46_method_1_code 16 = .ok (.putfield 17, 3) := by decide +kernel
theorem d_prog_46_method_1_19 : decode prog_46_method_1_code 19 = .ok (.return_, 1) := by decide +kernel
theorem d_prog_46_method_5_0 : decode prog_46_method_5_code 0 = .ok (.aload_n 0, 1) := by decide +kernel
theorem d_prog_46_method_5_1 : decode prog_46_method_5_code 1 = .ok (.getfield 7, 3) := by decide +kernel
theorem d_prog_46_method_5_4 : decode prog_46_method_5_code 4 = .ok (.ireturn, 1) := by decide +kernel
theorem d_prog_46_method_6_0 : decode prog_46_method_6_code 0 = .ok (.aload_n 0, 1) := by decide +kernel
theorem d_prog_46_method_6_1 : decode prog_46_method_6_code 1 = .ok (.getfield 13, 3) := by decide +kernel
theorem d_prog_46_method_6_4 : decode prog_46_method_6_code 4 = .ok (.ireturn, 1) := by decide +kernel
theorem d_prog_46_method_7_0 : decode prog_46_method_7_code 0 = .ok (.aload_n 0, 1) := by decide +kernel
theorem d_prog_46_method_7_1 : decode prog_46_method_7_code 1 = .ok (.getfield 17, 3) := by decide +kernel
theorem d_prog_46_method_7_4 : decode prog_46_method_7_code 4 = .ok (.invokestatic 42, 3) := by decide +kernel
theorem d_prog_46_method_7_7 : decode prog_46_method_7_code 7 = .ok (.areturn, 1) := by decide +kernel
theorem d_jdk_32_method_4_0 : decode jdk_32_method_4_code 0 = .ok (.aload_n 0, 1) := by decide +kernel
theorem d_jdk_32_method_4_1 : decode jdk_32_method_4_code 1 = .ok (.ifnonnull 9, 3) := by decide +kernel
theorem d_jdk_32_method_4_4 : decode jdk_32_method_4_code 4 = .ok (.getstatic 1, 3) := by decide +kernel
theorem d_jdk_32_method_4_7 : decode jdk_32_method_4_code 7 = .ok (.goto 11, 3) := by decide +kernel
theorem d_jdk_32_method_4_10 : decode jdk_32_method_4_code 10 = .ok (.new 2, 3) := by decide +kernel
theorem d_jdk_32_method_4_13 : decode jdk_32_method_4_code 13 = .ok (.dup, 1) := by decide +kernel
theorem d_jdk_32_method_4_14 : decode jdk_32_method_4_code 14 = .ok (.aload_n 0, 1) := by decide +kernel
theorem d_jdk_32_method_4_15 : decode jdk_32_method_4_code 15 = .ok (.invokespecial 23, 3) := by decide +kernel
theorem d_jdk_32_method_4_18 : decode jdk_32_method_4_code 18 = .ok (.areturn, 1) := by decide +kernel
theorem d_jdk_32_method_6_0 : decode jdk_32_method_6_code 0 = .ok (.aload_n 0, 1) := by decide +kernel
theorem d_jdk_32_method_6_1 : decode jdk_32_method_6_code 1 = .ok (.getfield 13, 3) := by decide +kernel
theorem d_jdk_32_method_6_4 : decode jdk_32_method_6_code 4 = .ok (.ifnull 7, 3) := by decide +kernel
theorem d_jdk_32_method_6_7 : decode jdk_32_method_6_code 7 = .ok (.iconst 1, 1) := by decide +kernel
theorem d_jdk_32_method_6_8 : decode jdk_32_method_6_code 8 = .ok (.goto 4, 3) := by decide +kernel
theorem d_jdk_32_method_6_11 : decode jdk_32_method_6_code 11 = .ok (.iconst 0, 1) := by decide +kernel
theorem d_jdk_32_method_6_12 : decode jdk_32_method_6_code 12 = .ok (.ireturn, 1) := by decide +kernel
theorem pd__II_I : parseMethodDescriptor "(II)I" = some ⟨[.int, .int], some .int⟩ := by decide +kernel
theorem pn_com_example_lake_union_lakeunion_store_PageRequest : plainName "com/example/lake_union/lakeunion/store/PageRequest" = true := by first | (simp [plainName, overriddenIn]; done) | decide +kernel
theorem pd__I_Lcom_example_lake_union_lakeunion_store_PageRequest_ : parseMethodDescriptor "(I)Lcom/example/lake_union/lakeunion/store/PageRequest;" = some ⟨[.int], some (.object "com/example/lake_union/lakeunion/store/PageRequest")⟩ := by decide +kernel
theorem pd__IZLjava_lang_String__V : parseMethodDescriptor "(IZLjava/lang/String;)V" = some ⟨[.int, .boolean, (.object "java/lang/String")], none⟩ := by decide +kernel
theorem pd___V : parseMethodDescriptor "()V" = some ⟨[], none⟩ := by decide +kernel
theorem pd___I : parseMethodDescriptor "()I" = some ⟨[], some .int⟩ := by decide +kernel
theorem pd___Z : parseMethodDescriptor "()Z" = some ⟨[], some .boolean⟩ := by decide +kernel
theorem pd___Ljava_util_Optional_ : parseMethodDescriptor "()Ljava/util/Optional;" = some ⟨[], some (.object "java/util/Optional")⟩ := by decide +kernel
theorem pd__Ljava_lang_Object__Ljava_util_Optional_ : parseMethodDescriptor "(Ljava/lang/Object;)Ljava/util/Optional;" = some ⟨[(.object "java/lang/Object")], some (.object "java/util/Optional")⟩ := by decide +kernel
theorem pn_java_util_Optional : plainName "java/util/Optional" = true := by first | (simp [plainName, overriddenIn]; done) | decide +kernel
theorem pn_com_example_lake_union_lakeunion_store_PageRequestOfPinLaw : plainName "com/example/lake_union/lakeunion/store/PageRequestOfPinLaw" = true := by first | (simp [plainName, overriddenIn]; done) | decide +kernel
theorem pd__I_Z : parseMethodDescriptor "(I)Z" = some ⟨[.int], some .boolean⟩ := by decide +kernel
theorem ef_max (m : MethodId) (p1 : Int32) (p2 : Int32) : entryFrame m #[(.int p1), (.int p2)] 2 = mkF m 0 #[.val (.int p1), .val (.int p2)] [] := by first | (simp [entryFrame, mkF, argsToLocals, Value.category]; done) | rfl
def Q_max (Z : State) (p1 : Int32) (p2 : Int32) (h0 : Heap) (v : Option Value) (h : Heap) : Prop := v = some (.int (if p1 < p2 then p2 else p1)) ∧ h0 = h
set_option maxRecDepth 65536 in
set_option maxHeartbeats 40000000 in
theorem c_max (l : Launch) (Z : State) (a0 : Array Value) (hw : ∀ d ∈ tables_1, d.before a0 Z = true) (p1 : Int32) (p2 : Int32) (h0 : Heap) :
    Con l Z (⟨"java/lang/Math", "max", "(II)I"⟩ : MethodName) jdk_29_method_65_code 2 (Option.some FieldType.int) [] ({ frames := 0, cells := 0, slots := 0, locals := 0 } : Room) #[(.int p1), (.int p2)] h0 (Q_max Z p1 p2 h0) := by
  refine Con.of (Jvm.Free.JP.mathPlain rfl (by decide +kernel)) ?_
  intro p e s m below meth c T0 B W0
  refine Go.cast (ef_max m p1 p2) ?_
  refine g_iload_n B W0 (d_jdk_29_method_65_0) rfl ?_
  show Go p.tables e below _ T0 (mkF m 1 #[.val (.int p1), .val (.int p2)] [(.int p1)])
  refine g_iload_n B W0 (d_jdk_29_method_65_1) rfl ?_
  show Go p.tables e below _ T0 (mkF m 2 #[.val (.int p1), .val (.int p2)] [(.int p2), (.int p1)])
  by_cases hc101 : p1 < p2
  · skip
    refine g_icmp_y B W0 (d_jdk_29_method_65_2) (XT.ii_lt_t hc101) (pc' := 9) (by decide) ?_
    show Go p.tables e below _ T0 (mkF m 9 #[.val (.int p1), .val (.int p2)] [])
    refine g_iload_n B W0 (d_jdk_29_method_65_9) rfl ?_
    show Go p.tables e below _ T0 (mkF m 10 #[.val (.int p1), .val (.int p2)] [(.int p2)])
    exact r_i B W0 (d_jdk_29_method_65_10) (by decide) (by decide) ⟨by simp [hc101], rfl⟩
  · skip
    refine g_icmp_n B W0 (d_jdk_29_method_65_2) (XT.ii_lt_f hc101) ?_
    show Go p.tables e below _ T0 (mkF m 5 #[.val (.int p1), .val (.int p2)] [])
    refine g_iload_n B W0 (d_jdk_29_method_65_5) rfl ?_
    show Go p.tables e below _ T0 (mkF m 6 #[.val (.int p1), .val (.int p2)] [(.int p1)])
    refine g_goto B W0 (d_jdk_29_method_65_6) (pc' := 10) (by decide) ?_
    show Go p.tables e below _ T0 (mkF m 10 #[.val (.int p1), .val (.int p2)] [(.int p1)])
    exact r_i B W0 (d_jdk_29_method_65_10) (by decide) (by decide) ⟨by simp [hc101], rfl⟩
theorem ef_init (m : MethodId) (a1 : Addr) (p2 : Int32) : entryFrame m #[(.ref a1), (.int p2), (.int 0), .null] 4 = mkF m 0 #[.val (.ref a1), .val (.int p2), .val (.int 0), .val .null] [] := by first | (simp [entryFrame, mkF, argsToLocals, Value.category]; done) | rfl
def Q_init (Z : State) (a1 : Addr) (p2 : Int32) (h0 : Heap) (v : Option Value) (h : Heap) : Prop := v = none ∧ Keep h0 h [a1] ∧ Exa Z h a1 "com/example/lake_union/lakeunion/store/PageRequest" ∧ Fld Z h a1 "com/example/lake_union/lakeunion/store/PageRequest" "size" "I" (.int p2) ∧ Fld Z h a1 "com/example/lake_union/lakeunion/store/PageRequest" "descending" "Z" (.int 0) ∧ Fld Z h a1 "com/example/lake_union/lakeunion/store/PageRequest" "cursor" "Ljava/lang/String;" .null
set_option maxRecDepth 65536 in
set_option maxHeartbeats 40000000 in
theorem c_init (l : Launch) (Z : State) (a0 : Array Value) (hw : ∀ d ∈ tables_1, d.before a0 Z = true) (a1 : Addr) (p2 : Int32) (h0 : Heap) (E1 : Exa Z h0 a1 "com/example/lake_union/lakeunion/store/PageRequest") (F1 : Fld Z h0 a1 "com/example/lake_union/lakeunion/store/PageRequest" "size" "I" (.int 0)) (F2 : Fld Z h0 a1 "com/example/lake_union/lakeunion/store/PageRequest" "descending" "Z" (.int 0)) (F3 : Fld Z h0 a1 "com/example/lake_union/lakeunion/store/PageRequest" "cursor" "Ljava/lang/String;" .null) (g1 : Z.heap.size ≤ a1) :
    Con l Z (⟨"com/example/lake_union/lakeunion/store/PageRequest", "<init>", "(IZLjava/lang/String;)V"⟩ : MethodName) prog_46_method_1_code 4 (Option.none : Option FieldType) [] ({ frames := 1, cells := 0, slots := 0, locals := 12 } : Room) #[(.ref a1), (.int p2), (.int 0), .null] h0 (Q_init Z a1 p2 h0) := by
  refine Con.of (plainFor_of_name pn_com_example_lake_union_lakeunion_store_PageRequest) ?_
  intro p e s m below meth c T0 B W0
  refine Go.cast (ef_init m a1 p2) ?_
  refine g_aload_n B W0 (d_prog_46_method_1_0) rfl rfl ?_
  show Go p.tables e below _ T0 (mkF m 1 #[.val (.ref a1), .val (.int p2), .val (.int 0), .val .null] [(.ref a1)])
  obtain ⟨T101, W101, st101⟩ := x_init B W0 (d_prog_46_method_1_1) (tw hw 14 rfl) (tw hw 15 rfl) (tw hw 16 rfl) a1 #[.val (.ref a1), .val (.int p2), .val (.int 0), .val .null] [] rfl 0 rfl (by decide) (by decide)
  refine st101 _ ?_
  show Go p.tables e below _ T101 (mkF m 4 #[.val (.ref a1), .val (.int p2), .val (.int 0), .val .null] [])
  refine g_aload_n B W101 (d_prog_46_method_1_4) rfl rfl ?_
  show Go p.tables e below _ T101 (mkF m 5 #[.val (.ref a1), .val (.int p2), .val (.int 0), .val .null] [(.ref a1)])
  refine g_iload_n B W101 (d_prog_46_method_1_5) rfl ?_
  show Go p.tables e below _ T101 (mkF m 6 #[.val (.ref a1), .val (.int p2), .val (.int 0), .val .null] [(.int p2), (.ref a1)])
  obtain ⟨T102, h102, W102, K102, R102, F102, E102, st102⟩ := x_put B W101 (d_prog_46_method_1_6) ((tw hw 17 rfl)) Via.refl F1 E1 (Or.inr ⟨ (tw hw 18 rfl), rfl, rfl⟩) (tw hw 10 rfl) (ty := .int) (v := (.int p2)) (v' := (.int p2)) (by decide) rfl rfl (by omega) #[.val (.ref a1), .val (.int p2), .val (.int 0), .val .null] []
  refine st102 _ ?_
  have f103 := F2.other R102 (Or.inr (slot_ne (Or.inr (tw hw 20 rfl)) (Or.inr (tw hw 18 rfl)) (by decide) (t := .boolean) (t' := .int) (by decide) (by decide)))
  have f104 := F3.other R102 (Or.inr (slot_ne (Or.inr (tw hw 22 rfl)) (Or.inr (tw hw 18 rfl)) (by decide) (t := (.object "java/lang/String")) (t' := .int) (by decide) (by decide)))
  have s105 := K102.1
  show Go p.tables e below _ T102 (mkF m 9 #[.val (.ref a1), .val (.int p2), .val (.int 0), .val .null] [])
  refine g_aload_n B W102 (d_prog_46_method_1_9) rfl rfl ?_
  show Go p.tables e below _ T102 (mkF m 10 #[.val (.ref a1), .val (.int p2), .val (.int 0), .val .null] [(.ref a1)])
  refine g_iload_n B W102 (d_prog_46_method_1_10) rfl ?_
  show Go p.tables e below _ T102 (mkF m 11 #[.val (.ref a1), .val (.int p2), .val (.int 0), .val .null] [(.int 0), (.ref a1)])
  obtain ⟨T106, h106, W106, K106, R106, F106, E106, st106⟩ := x_put B W102 (d_prog_46_method_1_11) ((tw hw 19 rfl)) Via.refl f103 E102 (Or.inr ⟨ (tw hw 20 rfl), rfl, rfl⟩) (tw hw 10 rfl) (ty := .boolean) (v := (.int 0)) (v' := (.int 0)) (by decide) rfl rfl (by omega) #[.val (.ref a1), .val (.int p2), .val (.int 0), .val .null] []
  refine st106 _ ?_
  have f107 := F102.other R106 (Or.inr (slot_ne (Or.inr (tw hw 18 rfl)) (Or.inr (tw hw 20 rfl)) (by decide) (t := .int) (t' := .boolean) (by decide) (by decide)))
  have f108 := f104.other R106 (Or.inr (slot_ne (Or.inr (tw hw 22 rfl)) (Or.inr (tw hw 20 rfl)) (by decide) (t := (.object "java/lang/String")) (t' := .boolean) (by decide) (by decide)))
  have s109 := K106.1
  show Go p.tables e below _ T106 (mkF m 14 #[.val (.ref a1), .val (.int p2), .val (.int 0), .val .null] [])
  refine g_aload_n B W106 (d_prog_46_method_1_14) rfl rfl ?_
  show Go p.tables e below _ T106 (mkF m 15 #[.val (.ref a1), .val (.int p2), .val (.int 0), .val .null] [(.ref a1)])
  refine g_aload_n B W106 (d_prog_46_method_1_15) rfl rfl ?_
  show Go p.tables e below _ T106 (mkF m 16 #[.val (.ref a1), .val (.int p2), .val (.int 0), .val .null] [.null, (.ref a1)])
  obtain ⟨T110, h110, W110, K110, R110, F110, E110, st110⟩ := x_put B W106 (d_prog_46_method_1_16) ((tw hw 21 rfl)) Via.refl f108 E106 (Or.inr ⟨ (tw hw 22 rfl), rfl, rfl⟩) (tw hw 10 rfl) (ty := (.object "java/lang/String")) (v := .null) (v' := .null) (by decide) rfl rfl (by omega) #[.val (.ref a1), .val (.int p2), .val (.int 0), .val .null] []
  refine st110 _ ?_
  have f111 := f107.other R110 (Or.inr (slot_ne (Or.inr (tw hw 18 rfl)) (Or.inr (tw hw 22 rfl)) (by decide) (t := .int) (t' := (.object "java/lang/String")) (by decide) (by decide)))
  have f112 := F106.other R110 (Or.inr (slot_ne (Or.inr (tw hw 20 rfl)) (Or.inr (tw hw 22 rfl)) (by decide) (t := .boolean) (t' := (.object "java/lang/String")) (by decide) (by decide)))
  have s113 := K110.1
  show Go p.tables e below _ T110 (mkF m 19 #[.val (.ref a1), .val (.int p2), .val (.int 0), .val .null] [])
  exact r_v B W110 (d_prog_46_method_1_19) (by decide) (by decide) ⟨rfl, ((((Keep.refl h0 [a1]).trans K102 (allS (Or.inl (by simp)) all0)).trans K106 (allS (Or.inl (by simp)) all0)).trans K110 (allS (Or.inl (by simp)) all0)), E110, f111, f112, F110⟩
theorem ef_of (m : MethodId) (p1 : Int32) : entryFrame m #[(.int p1)] 1 = mkF m 0 #[.val (.int p1)] [] := by first | (simp [entryFrame, mkF, argsToLocals, Value.category]; done) | rfl
def Q_of (Z : State) (p1 : Int32) (h0 : Heap) (v : Option Value) (h : Heap) : Prop := ∃ b, v = some (.ref b) ∧ Z.heap.size ≤ b ∧ Keep h0 h [] ∧ Exa Z h b "com/example/lake_union/lakeunion/store/PageRequest" ∧ Fld Z h b "com/example/lake_union/lakeunion/store/PageRequest" "size" "I" (.int p1) ∧ Fld Z h b "com/example/lake_union/lakeunion/store/PageRequest" "descending" "Z" (.int 0) ∧ Fld Z h b "com/example/lake_union/lakeunion/store/PageRequest" "cursor" "Ljava/lang/String;" .null
set_option maxRecDepth 65536 in
set_option maxHeartbeats 40000000 in
theorem c_of (l : Launch) (Z : State) (a0 : Array Value) (hw : ∀ d ∈ tables_1, d.before a0 Z = true) (p1 : Int32) (h0 : Heap) (hp : ¬ p1 < 1) :
    Con l Z (⟨"com/example/lake_union/lakeunion/store/PageRequest", "of", "(I)Lcom/example/lake_union/lakeunion/store/PageRequest;"⟩ : MethodName) prog_46_method_2_code 1 (Option.some (FieldType.object "com/example/lake_union/lakeunion/store/PageRequest")) [] ({ frames := 2, cells := 1, slots := 3, locals := 28 } : Room) #[(.int p1)] h0 (Q_of Z p1 h0) := by
  refine Con.of (plainFor_of_name pn_com_example_lake_union_lakeunion_store_PageRequest) ?_
  intro p e s m below meth c T0 B W0
  refine Go.cast (ef_of m p1) ?_
  refine g_iload_n B W0 (d_prog_46_method_2_0) rfl ?_
  show Go p.tables e below _ T0 (mkF m 1 #[.val (.int p1)] [(.int p1)])
  refine g_iconst B W0 (d_prog_46_method_2_1) (v := 1) (by decide) ?_
  show Go p.tables e below _ T0 (mkF m 2 #[.val (.int p1)] [(.int 1), (.int p1)])
  refine g_icmp_y B W0 (d_prog_46_method_2_2) (XT.ii_ge_t hp) (pc' := 19) (by decide) ?_
  show Go p.tables e below _ T0 (mkF m 19 #[.val (.int p1)] [])
  obtain ⟨T101, h101, b101, gb101, W101, K101, E101, D101, st101⟩ := x_new B W0 (d_prog_46_method_2_19) (tw hw 9 rfl) (tw hw 10 rfl) (tw hw 7 rfl) (by decide) (by decide) #[.val (.int p1)] []
  have l101 := E101.lt
  have z101 := W0.size
  refine st101 _ ?_
  have s102 := K101.1
  have f103 : Fld Z h101 b101 "com/example/lake_union/lakeunion/store/PageRequest" "size" "I" (.int 0) := D101 (Or.inr (tw hw 18 rfl)) (ty := .int) (by decide)
  have f104 : Fld Z h101 b101 "com/example/lake_union/lakeunion/store/PageRequest" "descending" "Z" (.int 0) := D101 (Or.inr (tw hw 20 rfl)) (ty := .boolean) (by decide)
  have f105 : Fld Z h101 b101 "com/example/lake_union/lakeunion/store/PageRequest" "cursor" "Ljava/lang/String;" .null := D101 (Or.inr (tw hw 22 rfl)) (ty := (.object "java/lang/String")) (by decide)
  show Go p.tables e below _ T101 (mkF m 22 #[.val (.int p1)] [(.ref b101)])
  refine g_dup B W101 (d_prog_46_method_2_22) rfl ?_
  show Go p.tables e below _ T101 (mkF m 23 #[.val (.int p1)] [(.ref b101), (.ref b101)])
  refine g_iload_n B W101 (d_prog_46_method_2_23) rfl ?_
  show Go p.tables e below _ T101 (mkF m 24 #[.val (.int p1)] [(.int p1), (.ref b101), (.ref b101)])
  refine g_iconst B W101 (d_prog_46_method_2_24) (v := 0) (by decide) ?_
  show Go p.tables e below _ T101 (mkF m 25 #[.val (.int p1)] [(.int 0), (.int p1), (.ref b101), (.ref b101)])
  refine g_aconst_null B W101 (d_prog_46_method_2_25)  ?_
  show Go p.tables e below _ T101 (mkF m 26 #[.val (.int p1)] [.null, (.int 0), (.int p1), (.ref b101), (.ref b101)])
  obtain ⟨T106, h106, v106, W106, Q106, st106⟩ := x_special B W101 (b := b101) [(.int p1), (.int 0), .null] (c_init l Z a0 hw b101 p1 h101 E101 f103 f104 f105 (by omega)) (d_prog_46_method_2_26) rfl (tw hw 11 rfl) (tw hw 12 rfl) (tw hw 7 rfl) (tw hw 13 rfl) (by decide) (lenOf pd__IZLjava_lang_String__V rfl) #[.val (.int p1)] [(.ref b101)] rfl 1 rfl (by decide) (by decide) (by decide) (by decide)
  obtain ⟨rfl, K106, E106, Fsize106, Fdescending106, Fcursor106⟩ := Q106
  have s107 := K106.1
  refine st106 _ ?_
  show Go p.tables e below _ T106 (mkF m 29 #[.val (.int p1)] [(.ref b101)])
  exact r_a B W106 rfl rfl rfl (d_prog_46_method_2_29) (by decide) (by decide) ⟨_, rfl, by omega, (((Keep.refl h0 []).trans K101 all0).trans K106 (allS (Or.inr (by omega)) all0)), E106, Fsize106, Fdescending106, Fcursor106⟩
theorem ef_size (m : MethodId) (a1 : Addr) (p2 : Int32) : entryFrame m #[(.ref a1)] 1 = mkF m 0 #[.val (.ref a1)] [] := by first | (simp [entryFrame, mkF, argsToLocals, Value.category]; done) | rfl
def Q_size (Z : State) (a1 : Addr) (p2 : Int32) (h0 : Heap) (v : Option Value) (h : Heap) : Prop := v = some (.int p2) ∧ h0 = h
set_option maxRecDepth 65536 in
set_option maxHeartbeats 40000000 in
theorem c_size (l : Launch) (Z : State) (a0 : Array Value) (hw : ∀ d ∈ tables_1, d.before a0 Z = true) (a1 : Addr) (p2 : Int32) (h0 : Heap) (F1 : Fld Z h0 a1 "com/example/lake_union/lakeunion/store/PageRequest" "size" "I" (.int p2)) :
    Con l Z (⟨"com/example/lake_union/lakeunion/store/PageRequest", "size", "()I"⟩ : MethodName) prog_46_method_5_code 1 (Option.some FieldType.int) [] ({ frames := 0, cells := 0, slots := 0, locals := 0 } : Room) #[(.ref a1)] h0 (Q_size Z a1 p2 h0) := by
  refine Con.of (plainFor_of_name pn_com_example_lake_union_lakeunion_store_PageRequest) ?_
  intro p e s m below meth c T0 B W0
  refine Go.cast (ef_size m a1 p2) ?_
  refine g_aload_n B W0 (d_prog_46_method_5_0) rfl rfl ?_
  show Go p.tables e below _ T0 (mkF m 1 #[.val (.ref a1)] [(.ref a1)])
  obtain ⟨T101, W101, st101⟩ := x_get B W0 (host := "") (d_prog_46_method_5_1) (Or.inl (tw hw 17 rfl)) Via.refl F1 #[.val (.ref a1)] []
  refine st101 _ ?_
  show Go p.tables e below _ T101 (mkF m 4 #[.val (.ref a1)] [(.int p2)])
  exact r_i B W101 (d_prog_46_method_5_4) (by decide) (by decide) ⟨rfl, rfl⟩
theorem ef_isDescending (m : MethodId) (a1 : Addr) : entryFrame m #[(.ref a1)] 1 = mkF m 0 #[.val (.ref a1)] [] := by first | (simp [entryFrame, mkF, argsToLocals, Value.category]; done) | rfl
def Q_isDescending (Z : State) (a1 : Addr) (h0 : Heap) (v : Option Value) (h : Heap) : Prop := v = some (.int 0) ∧ h0 = h
set_option maxRecDepth 65536 in
set_option maxHeartbeats 40000000 in
theorem c_isDescending (l : Launch) (Z : State) (a0 : Array Value) (hw : ∀ d ∈ tables_1, d.before a0 Z = true) (a1 : Addr) (h0 : Heap) (F1 : Fld Z h0 a1 "com/example/lake_union/lakeunion/store/PageRequest" "descending" "Z" (.int 0)) :
    Con l Z (⟨"com/example/lake_union/lakeunion/store/PageRequest", "isDescending", "()Z"⟩ : MethodName) prog_46_method_6_code 1 (Option.some FieldType.boolean) [] ({ frames := 0, cells := 0, slots := 0, locals := 0 } : Room) #[(.ref a1)] h0 (Q_isDescending Z a1 h0) := by
  refine Con.of (plainFor_of_name pn_com_example_lake_union_lakeunion_store_PageRequest) ?_
  intro p e s m below meth c T0 B W0
  refine Go.cast (ef_isDescending m a1) ?_
  refine g_aload_n B W0 (d_prog_46_method_6_0) rfl rfl ?_
  show Go p.tables e below _ T0 (mkF m 1 #[.val (.ref a1)] [(.ref a1)])
  obtain ⟨T101, W101, st101⟩ := x_get B W0 (host := "") (d_prog_46_method_6_1) (Or.inl (tw hw 19 rfl)) Via.refl F1 #[.val (.ref a1)] []
  refine st101 _ ?_
  show Go p.tables e below _ T101 (mkF m 4 #[.val (.ref a1)] [(.int 0)])
  exact r_n B W101 (t := .boolean) rfl (by simp) (d_prog_46_method_6_4) (by decide) (by decide) ⟨rfl, rfl⟩
theorem ef_ofNullable (m : MethodId) (em : Addr) : entryFrame m #[.null] 1 = mkF m 0 #[.val .null] [] := by first | (simp [entryFrame, mkF, argsToLocals, Value.category]; done) | rfl
def Q_ofNullable (Z : State) (em : Addr) (h0 : Heap) (v : Option Value) (h : Heap) : Prop := v = some (.ref em) ∧ h0 = h
set_option maxRecDepth 65536 in
set_option maxHeartbeats 40000000 in
theorem c_ofNullable (l : Launch) (Z : State) (a0 : Array Value) (hw : ∀ d ∈ tables_1, d.before a0 Z = true) (em : Addr) (h0 : Heap) (S1 : Sta Z Z.heap "java/util/Optional" "EMPTY" "Ljava/util/Optional;" (.ref em)) :
    Con l Z (⟨"java/util/Optional", "ofNullable", "(Ljava/lang/Object;)Ljava/util/Optional;"⟩ : MethodName) jdk_32_method_4_code 1 (Option.some (FieldType.object "java/util/Optional")) [] ({ frames := 0, cells := 0, slots := 0, locals := 0 } : Room) #[.null] h0 (Q_ofNullable Z em h0) := by
  refine Con.of (plainFor_of_name pn_java_util_Optional) ?_
  intro p e s m below meth c T0 B W0
  refine Go.cast (ef_ofNullable m em) ?_
  refine g_aload_n B W0 (d_jdk_32_method_4_0) rfl rfl ?_
  show Go p.tables e below _ T0 (mkF m 1 #[.val .null] [.null])
  refine g_ifnonnull_n B W0 (d_jdk_32_method_4_1)  ?_
  show Go p.tables e below _ T0 (mkF m 4 #[.val .null] [])
  obtain ⟨T101, W101, st101⟩ := x_gets B W0 (host := "") (d_jdk_32_method_4_4) (Or.inl (tw hw 42 rfl)) Via.refl S1 #[.val .null] []
  refine st101 _ ?_
  show Go p.tables e below _ T101 (mkF m 7 #[.val .null] [(.ref em)])
  refine g_goto B W101 (d_jdk_32_method_4_7) (pc' := 18) (by decide) ?_
  show Go p.tables e below _ T101 (mkF m 18 #[.val .null] [(.ref em)])
  exact r_a B W101 rfl rfl rfl (d_jdk_32_method_4_18) (by decide) (by decide) ⟨rfl, rfl⟩
theorem ef_cursor (m : MethodId) (a1 : Addr) (em : Addr) : entryFrame m #[(.ref a1)] 1 = mkF m 0 #[.val (.ref a1)] [] := by first | (simp [entryFrame, mkF, argsToLocals, Value.category]; done) | rfl
def Q_cursor (Z : State) (a1 : Addr) (em : Addr) (h0 : Heap) (v : Option Value) (h : Heap) : Prop := v = some (.ref em) ∧ h0 = h
set_option maxRecDepth 65536 in
set_option maxHeartbeats 40000000 in
theorem c_cursor (l : Launch) (Z : State) (a0 : Array Value) (hw : ∀ d ∈ tables_1, d.before a0 Z = true) (a1 : Addr) (em : Addr) (h0 : Heap) (F1 : Fld Z h0 a1 "com/example/lake_union/lakeunion/store/PageRequest" "cursor" "Ljava/lang/String;" .null) (S1 : Sta Z Z.heap "java/util/Optional" "EMPTY" "Ljava/util/Optional;" (.ref em)) :
    Con l Z (⟨"com/example/lake_union/lakeunion/store/PageRequest", "cursor", "()Ljava/util/Optional;"⟩ : MethodName) prog_46_method_7_code 1 (Option.some (FieldType.object "java/util/Optional")) [] ({ frames := 1, cells := 0, slots := 0, locals := 12 } : Room) #[(.ref a1)] h0 (Q_cursor Z a1 em h0) := by
  refine Con.of (plainFor_of_name pn_com_example_lake_union_lakeunion_store_PageRequest) ?_
  intro p e s m below meth c T0 B W0
  refine Go.cast (ef_cursor m a1 em) ?_
  refine g_aload_n B W0 (d_prog_46_method_7_0) rfl rfl ?_
  show Go p.tables e below _ T0 (mkF m 1 #[.val (.ref a1)] [(.ref a1)])
  obtain ⟨T101, W101, st101⟩ := x_get B W0 (host := "") (d_prog_46_method_7_1) (Or.inl (tw hw 21 rfl)) Via.refl F1 #[.val (.ref a1)] []
  refine st101 _ ?_
  show Go p.tables e below _ T101 (mkF m 4 #[.val (.ref a1)] [.null])
  obtain ⟨T102, h102, v102, W102, Q102, st102⟩ := x_static B W101 [.null] (c_ofNullable l Z a0 hw em h0 S1) (d_prog_46_method_7_4) (tw hw 38 rfl) (tw hw 39 rfl) (tw hw 40 rfl) (tw hw 41 rfl) (by decide) (lenOf pd__Ljava_lang_Object__Ljava_util_Optional_ rfl) #[.val (.ref a1)] [] rfl 0 rfl (by decide) (by decide) (by decide) (by decide)
  obtain ⟨rfl, rfl⟩ := Q102
  refine st102 _ ?_
  show Go p.tables e below _ T102 (mkF m 7 #[.val (.ref a1)] [(.ref em)])
  exact r_a B W102 rfl rfl rfl (d_prog_46_method_7_7) (by decide) (by decide) ⟨rfl, rfl⟩
theorem ef_isPresent (m : MethodId) (a1 : Addr) : entryFrame m #[(.ref a1)] 1 = mkF m 0 #[.val (.ref a1)] [] := by first | (simp [entryFrame, mkF, argsToLocals, Value.category]; done) | rfl
def Q_isPresent (Z : State) (a1 : Addr) (h0 : Heap) (v : Option Value) (h : Heap) : Prop := v = some (.int 0) ∧ h0 = h
set_option maxRecDepth 65536 in
set_option maxHeartbeats 40000000 in
theorem c_isPresent (l : Launch) (Z : State) (a0 : Array Value) (hw : ∀ d ∈ tables_1, d.before a0 Z = true) (a1 : Addr) (h0 : Heap) (F1 : Fld Z h0 a1 "java/util/Optional" "value" "Ljava/lang/Object;" .null) :
    Con l Z (⟨"java/util/Optional", "isPresent", "()Z"⟩ : MethodName) jdk_32_method_6_code 1 (Option.some FieldType.boolean) [] ({ frames := 0, cells := 0, slots := 0, locals := 0 } : Room) #[(.ref a1)] h0 (Q_isPresent Z a1 h0) := by
  refine Con.of (plainFor_of_name pn_java_util_Optional) ?_
  intro p e s m below meth c T0 B W0
  refine Go.cast (ef_isPresent m a1) ?_
  refine g_aload_n B W0 (d_jdk_32_method_6_0) rfl rfl ?_
  show Go p.tables e below _ T0 (mkF m 1 #[.val (.ref a1)] [(.ref a1)])
  obtain ⟨T101, W101, st101⟩ := x_get B W0 (host := "") (d_jdk_32_method_6_1) (Or.inl (tw hw 48 rfl)) Via.refl F1 #[.val (.ref a1)] []
  refine st101 _ ?_
  show Go p.tables e below _ T101 (mkF m 4 #[.val (.ref a1)] [.null])
  refine g_ifnull_y B W101 (d_jdk_32_method_6_4) (pc' := 11) (by decide) ?_
  show Go p.tables e below _ T101 (mkF m 11 #[.val (.ref a1)] [])
  refine g_iconst B W101 (d_jdk_32_method_6_11) (v := 0) (by decide) ?_
  show Go p.tables e below _ T101 (mkF m 12 #[.val (.ref a1)] [(.int 0)])
  exact r_n B W101 (t := .boolean) rfl (by simp) (d_jdk_32_method_6_12) (by decide) (by decide) ⟨rfl, rfl⟩
theorem own_mx (x : Int32) : ¬ (if (1 : Int32) < x then x else 1) < 1 := by
  split
  · rename_i hx; rw [Int32.lt_iff_toInt_lt] at *; omega
  · decide
theorem ef_law (m : MethodId) (p1 : Int32) (em : Addr) : entryFrame m #[(.int p1)] maxLocals = mkF m 0 #[.val (.int p1), .unset, .unset, .unset, .unset, .unset] [] := by first | (simp [entryFrame, mkF, argsToLocals, Value.category, maxLocals]; done) | rfl
def Q_law (Z : State) (p1 : Int32) (em : Addr) (h0 : Heap) (v : Option Value) (h : Heap) : Prop := v = some (.int 1)
set_option maxRecDepth 65536 in
set_option maxHeartbeats 40000000 in
theorem c_law (l : Launch) (Z : State) (a0 : Array Value) (hw : ∀ d ∈ tables_1, d.before a0 Z = true) (ws : List Jvm.Cond) (p1 : Int32) (em : Addr) (h0 : Heap) (S1 : Sta Z Z.heap "java/util/Optional" "EMPTY" "Ljava/util/Optional;" (.ref em)) (E1 : Exa Z Z.heap em "java/util/Optional") (F1 : Fld Z Z.heap em "java/util/Optional" "value" "Ljava/lang/Object;" .null) :
    Con l Z x code maxLocals ret ws room_1 #[(.int p1)] h0 (Q_law Z p1 em h0) := by
  refine Con.of (plainFor_of_name pn_com_example_lake_union_lakeunion_store_PageRequestOfPinLaw) ?_
  intro p e s m below meth c T0 B W0
  refine Go.cast (ef_law m p1 em) ?_
  refine g_iconst B W0 at_0 (v := 1) (by decide) ?_
  show Go p.tables e below _ T0 (mkF m 1 #[.val (.int p1), .unset, .unset, .unset, .unset, .unset] [(.int 1)])
  refine g_iload_n B W0 at_1 rfl ?_
  show Go p.tables e below _ T0 (mkF m 2 #[.val (.int p1), .unset, .unset, .unset, .unset, .unset] [(.int p1), (.int 1)])
  refine g_ldcI B W0 at_2 (tw hw 0 rfl) ?_
  show Go p.tables e below _ T0 (mkF m 4 #[.val (.int p1), .unset, .unset, .unset, .unset, .unset] [(.int 2147483647), (.int p1), (.int 1)])
  refine g_iand B W0 at_4  ?_
  show Go p.tables e below _ T0 (mkF m 5 #[.val (.int p1), .unset, .unset, .unset, .unset, .unset] [(.int (p1 &&& 2147483647)), (.int 1)])
  obtain ⟨T101, h101, v101, W101, Q101, st101⟩ := x_static B W0 [(.int 1), (.int (p1 &&& 2147483647))] (c_max l Z a0 hw 1 (p1 &&& 2147483647) h0) at_5 (tw hw 1 rfl) (tw hw 2 rfl) (tw hw 3 rfl) (tw hw 4 rfl) (by decide) (lenOf pd__II_I rfl) #[.val (.int p1), .unset, .unset, .unset, .unset, .unset] [] rfl 0 rfl (by decide) (by decide) (by decide) (by decide)
  obtain ⟨rfl, rfl⟩ := Q101
  refine st101 _ ?_
  show Go p.tables e below _ T101 (mkF m 8 #[.val (.int p1), .unset, .unset, .unset, .unset, .unset] [(.int (if 1 < (p1 &&& 2147483647) then (p1 &&& 2147483647) else 1))])
  refine g_istore_n B W101 at_8  (l' := #[.val (.int p1), .val (.int (if 1 < (p1 &&& 2147483647) then (p1 &&& 2147483647) else 1)), .unset, .unset, .unset, .unset]) rfl ?_
  show Go p.tables e below _ T101 (mkF m 9 #[.val (.int p1), .val (.int (if 1 < (p1 &&& 2147483647) then (p1 &&& 2147483647) else 1)), .unset, .unset, .unset, .unset] [])
  refine g_iload_n B W101 at_9 rfl ?_
  show Go p.tables e below _ T101 (mkF m 10 #[.val (.int p1), .val (.int (if 1 < (p1 &&& 2147483647) then (p1 &&& 2147483647) else 1)), .unset, .unset, .unset, .unset] [(.int (if 1 < (p1 &&& 2147483647) then (p1 &&& 2147483647) else 1))])
  have hof : ¬ (if 1 < (p1 &&& 2147483647) then (p1 &&& 2147483647) else 1) < 1 := own_mx _
  obtain ⟨T102, h102, v102, W102, Q102, st102⟩ := x_static B W101 [(.int (if 1 < (p1 &&& 2147483647) then (p1 &&& 2147483647) else 1))] (c_of l Z a0 hw (if 1 < (p1 &&& 2147483647) then (p1 &&& 2147483647) else 1) h0 hof) at_10 (tw hw 5 rfl) (tw hw 6 rfl) (tw hw 7 rfl) (tw hw 8 rfl) (by decide) (lenOf pd__I_Lcom_example_lake_union_lakeunion_store_PageRequest_ rfl) #[.val (.int p1), .val (.int (if 1 < (p1 &&& 2147483647) then (p1 &&& 2147483647) else 1)), .unset, .unset, .unset, .unset] [] rfl 0 rfl (by decide) (by decide) (by decide) (by decide)
  obtain ⟨b102, rfl, gb102, K102, E102, Fsize102, Fdescending102, Fcursor102⟩ := Q102
  have s103 := K102.1
  refine st102 _ ?_
  show Go p.tables e below _ T102 (mkF m 13 #[.val (.int p1), .val (.int (if 1 < (p1 &&& 2147483647) then (p1 &&& 2147483647) else 1)), .unset, .unset, .unset, .unset] [(.ref b102)])
  refine g_astore_n B W102 at_13 rfl (l' := #[.val (.int p1), .val (.int (if 1 < (p1 &&& 2147483647) then (p1 &&& 2147483647) else 1)), .val (.ref b102), .unset, .unset, .unset]) rfl ?_
  show Go p.tables e below _ T102 (mkF m 14 #[.val (.int p1), .val (.int (if 1 < (p1 &&& 2147483647) then (p1 &&& 2147483647) else 1)), .val (.ref b102), .unset, .unset, .unset] [])
  refine g_aload_n B W102 at_14 rfl rfl ?_
  show Go p.tables e below _ T102 (mkF m 15 #[.val (.int p1), .val (.int (if 1 < (p1 &&& 2147483647) then (p1 &&& 2147483647) else 1)), .val (.ref b102), .unset, .unset, .unset] [(.ref b102)])
  obtain ⟨T104, h104, v104, W104, Q104, st104⟩ := x_virtual B W102 (b := b102) [] (c_size l Z a0 hw b102 (if 1 < (p1 &&& 2147483647) then (p1 &&& 2147483647) else 1) h102 Fsize102) E102 at_15 (tw hw 23 rfl) (tw hw 24 rfl) (tw hw 26 rfl) (tw hw 25 rfl) (tw hw 7 rfl) (tw hw 27 rfl) (by decide) (lenOf pd___I rfl) #[.val (.int p1), .val (.int (if 1 < (p1 &&& 2147483647) then (p1 &&& 2147483647) else 1)), .val (.ref b102), .unset, .unset, .unset] [] rfl 0 rfl (by decide) (by decide) (by decide) (by decide)
  obtain ⟨rfl, rfl⟩ := Q104
  refine st104 _ ?_
  show Go p.tables e below _ T104 (mkF m 18 #[.val (.int p1), .val (.int (if 1 < (p1 &&& 2147483647) then (p1 &&& 2147483647) else 1)), .val (.ref b102), .unset, .unset, .unset] [(.int (if 1 < (p1 &&& 2147483647) then (p1 &&& 2147483647) else 1))])
  refine g_iload_n B W104 at_18 rfl ?_
  show Go p.tables e below _ T104 (mkF m 19 #[.val (.int p1), .val (.int (if 1 < (p1 &&& 2147483647) then (p1 &&& 2147483647) else 1)), .val (.ref b102), .unset, .unset, .unset] [(.int (if 1 < (p1 &&& 2147483647) then (p1 &&& 2147483647) else 1)), (.int (if 1 < (p1 &&& 2147483647) then (p1 &&& 2147483647) else 1))])
  refine g_diab (decide ((if 1 < (p1 &&& 2147483647) then (p1 &&& 2147483647) else 1) = (if 1 < (p1 &&& 2147483647) then (p1 &&& 2147483647) else 1))) (m := m) (ls := #[.val (.int p1), .val (.int (if 1 < (p1 &&& 2147483647) then (p1 &&& 2147483647) else 1)), .val (.ref b102), .unset, .unset, .unset]) (st := []) (pc' := 27) (fun hd1 q => ?_) (fun hd1 q => ?_) ?_
  · refine g_icmp_n B W104 at_19 (XT.ii_ne_f (by simpa using hd1)) ?_
    refine g_iconst B W104 at_22 (v := 1) (by decide) ?_
    exact g_goto B W104 at_23 (pc' := 27) (by decide) q
  · refine g_icmp_y B W104 at_19 (XT.ii_ne_t (by simpa using hd1)) (pc' := 26) (by decide) ?_
    exact g_iconst B W104 at_26 (v := 0) (by decide) q
  show Go p.tables e below _ T104 (mkF m 27 #[.val (.int p1), .val (.int (if 1 < (p1 &&& 2147483647) then (p1 &&& 2147483647) else 1)), .val (.ref b102), .unset, .unset, .unset] [(.int (bi (decide ((if 1 < (p1 &&& 2147483647) then (p1 &&& 2147483647) else 1) = (if 1 < (p1 &&& 2147483647) then (p1 &&& 2147483647) else 1)))))])
  refine g_istore_n B W104 at_27  (l' := #[.val (.int p1), .val (.int (if 1 < (p1 &&& 2147483647) then (p1 &&& 2147483647) else 1)), .val (.ref b102), .val (.int (bi (decide ((if 1 < (p1 &&& 2147483647) then (p1 &&& 2147483647) else 1) = (if 1 < (p1 &&& 2147483647) then (p1 &&& 2147483647) else 1))))), .unset, .unset]) rfl ?_
  show Go p.tables e below _ T104 (mkF m 28 #[.val (.int p1), .val (.int (if 1 < (p1 &&& 2147483647) then (p1 &&& 2147483647) else 1)), .val (.ref b102), .val (.int (bi (decide ((if 1 < (p1 &&& 2147483647) then (p1 &&& 2147483647) else 1) = (if 1 < (p1 &&& 2147483647) then (p1 &&& 2147483647) else 1))))), .unset, .unset] [])
  refine g_aload_n B W104 at_28 rfl rfl ?_
  show Go p.tables e below _ T104 (mkF m 29 #[.val (.int p1), .val (.int (if 1 < (p1 &&& 2147483647) then (p1 &&& 2147483647) else 1)), .val (.ref b102), .val (.int (bi (decide ((if 1 < (p1 &&& 2147483647) then (p1 &&& 2147483647) else 1) = (if 1 < (p1 &&& 2147483647) then (p1 &&& 2147483647) else 1))))), .unset, .unset] [(.ref b102)])
  obtain ⟨T105, h105, v105, W105, Q105, st105⟩ := x_virtual B W104 (b := b102) [] (c_isDescending l Z a0 hw b102  h102 Fdescending102) E102 at_29 (tw hw 28 rfl) (tw hw 29 rfl) (tw hw 31 rfl) (tw hw 30 rfl) (tw hw 7 rfl) (tw hw 32 rfl) (by decide) (lenOf pd___Z rfl) #[.val (.int p1), .val (.int (if 1 < (p1 &&& 2147483647) then (p1 &&& 2147483647) else 1)), .val (.ref b102), .val (.int (bi (decide ((if 1 < (p1 &&& 2147483647) then (p1 &&& 2147483647) else 1) = (if 1 < (p1 &&& 2147483647) then (p1 &&& 2147483647) else 1))))), .unset, .unset] [] rfl 0 rfl (by decide) (by decide) (by decide) (by decide)
  obtain ⟨rfl, rfl⟩ := Q105
  refine st105 _ ?_
  show Go p.tables e below _ T105 (mkF m 32 #[.val (.int p1), .val (.int (if 1 < (p1 &&& 2147483647) then (p1 &&& 2147483647) else 1)), .val (.ref b102), .val (.int (bi (decide ((if 1 < (p1 &&& 2147483647) then (p1 &&& 2147483647) else 1) = (if 1 < (p1 &&& 2147483647) then (p1 &&& 2147483647) else 1))))), .unset, .unset] [(.int 0)])
  refine g_diab (decide (0 = 0)) (m := m) (ls := #[.val (.int p1), .val (.int (if 1 < (p1 &&& 2147483647) then (p1 &&& 2147483647) else 1)), .val (.ref b102), .val (.int (bi (decide ((if 1 < (p1 &&& 2147483647) then (p1 &&& 2147483647) else 1) = (if 1 < (p1 &&& 2147483647) then (p1 &&& 2147483647) else 1))))), .unset, .unset]) (st := []) (pc' := 40) (fun hd1 q => ?_) (fun hd1 q => ?_) ?_
  · refine g_if_n B W105 at_32 (XT.i0_ne_f (by simpa using hd1)) ?_
    refine g_iconst B W105 at_35 (v := 1) (by decide) ?_
    exact g_goto B W105 at_36 (pc' := 40) (by decide) q
  · refine g_if_y B W105 at_32 (XT.i0_ne_t (by simpa using hd1)) (pc' := 39) (by decide) ?_
    exact g_iconst B W105 at_39 (v := 0) (by decide) q
  show Go p.tables e below _ T105 (mkF m 40 #[.val (.int p1), .val (.int (if 1 < (p1 &&& 2147483647) then (p1 &&& 2147483647) else 1)), .val (.ref b102), .val (.int (bi (decide ((if 1 < (p1 &&& 2147483647) then (p1 &&& 2147483647) else 1) = (if 1 < (p1 &&& 2147483647) then (p1 &&& 2147483647) else 1))))), .unset, .unset] [(.int (bi (decide (0 = 0))))])
  refine g_istore B W105 at_40  (l' := #[.val (.int p1), .val (.int (if 1 < (p1 &&& 2147483647) then (p1 &&& 2147483647) else 1)), .val (.ref b102), .val (.int (bi (decide ((if 1 < (p1 &&& 2147483647) then (p1 &&& 2147483647) else 1) = (if 1 < (p1 &&& 2147483647) then (p1 &&& 2147483647) else 1))))), .val (.int (bi (decide (0 = 0)))), .unset]) rfl ?_
  show Go p.tables e below _ T105 (mkF m 42 #[.val (.int p1), .val (.int (if 1 < (p1 &&& 2147483647) then (p1 &&& 2147483647) else 1)), .val (.ref b102), .val (.int (bi (decide ((if 1 < (p1 &&& 2147483647) then (p1 &&& 2147483647) else 1) = (if 1 < (p1 &&& 2147483647) then (p1 &&& 2147483647) else 1))))), .val (.int (bi (decide (0 = 0)))), .unset] [])
  refine g_aload_n B W105 at_42 rfl rfl ?_
  show Go p.tables e below _ T105 (mkF m 43 #[.val (.int p1), .val (.int (if 1 < (p1 &&& 2147483647) then (p1 &&& 2147483647) else 1)), .val (.ref b102), .val (.int (bi (decide ((if 1 < (p1 &&& 2147483647) then (p1 &&& 2147483647) else 1) = (if 1 < (p1 &&& 2147483647) then (p1 &&& 2147483647) else 1))))), .val (.int (bi (decide (0 = 0)))), .unset] [(.ref b102)])
  obtain ⟨T106, h106, v106, W106, Q106, st106⟩ := x_virtual B W105 (b := b102) [] (c_cursor l Z a0 hw b102 em h102 Fcursor102 S1) E102 at_43 (tw hw 33 rfl) (tw hw 34 rfl) (tw hw 36 rfl) (tw hw 35 rfl) (tw hw 7 rfl) (tw hw 37 rfl) (by decide) (lenOf pd___Ljava_util_Optional_ rfl) #[.val (.int p1), .val (.int (if 1 < (p1 &&& 2147483647) then (p1 &&& 2147483647) else 1)), .val (.ref b102), .val (.int (bi (decide ((if 1 < (p1 &&& 2147483647) then (p1 &&& 2147483647) else 1) = (if 1 < (p1 &&& 2147483647) then (p1 &&& 2147483647) else 1))))), .val (.int (bi (decide (0 = 0)))), .unset] [] rfl 0 rfl (by decide) (by decide) (by decide) (by decide)
  obtain ⟨rfl, rfl⟩ := Q106
  refine st106 _ ?_
  show Go p.tables e below _ T106 (mkF m 46 #[.val (.int p1), .val (.int (if 1 < (p1 &&& 2147483647) then (p1 &&& 2147483647) else 1)), .val (.ref b102), .val (.int (bi (decide ((if 1 < (p1 &&& 2147483647) then (p1 &&& 2147483647) else 1) = (if 1 < (p1 &&& 2147483647) then (p1 &&& 2147483647) else 1))))), .val (.int (bi (decide (0 = 0)))), .unset] [(.ref em)])
  obtain ⟨T107, h107, v107, W107, Q107, st107⟩ := x_virtual B W106 (b := em) [] (c_isPresent l Z a0 hw em h102 (F1.ext W106.old.2)) (E1.ext W106.old.2) at_46 (tw hw 43 rfl) (tw hw 44 rfl) (tw hw 46 rfl) (tw hw 45 rfl) (tw hw 40 rfl) (tw hw 47 rfl) (by decide) (lenOf pd___Z rfl) #[.val (.int p1), .val (.int (if 1 < (p1 &&& 2147483647) then (p1 &&& 2147483647) else 1)), .val (.ref b102), .val (.int (bi (decide ((if 1 < (p1 &&& 2147483647) then (p1 &&& 2147483647) else 1) = (if 1 < (p1 &&& 2147483647) then (p1 &&& 2147483647) else 1))))), .val (.int (bi (decide (0 = 0)))), .unset] [] rfl 0 rfl (by decide) (by decide) (by decide) (by decide)
  obtain ⟨rfl, rfl⟩ := Q107
  refine st107 _ ?_
  show Go p.tables e below _ T107 (mkF m 49 #[.val (.int p1), .val (.int (if 1 < (p1 &&& 2147483647) then (p1 &&& 2147483647) else 1)), .val (.ref b102), .val (.int (bi (decide ((if 1 < (p1 &&& 2147483647) then (p1 &&& 2147483647) else 1) = (if 1 < (p1 &&& 2147483647) then (p1 &&& 2147483647) else 1))))), .val (.int (bi (decide (0 = 0)))), .unset] [(.int 0)])
  refine g_diab (decide (0 = 0)) (m := m) (ls := #[.val (.int p1), .val (.int (if 1 < (p1 &&& 2147483647) then (p1 &&& 2147483647) else 1)), .val (.ref b102), .val (.int (bi (decide ((if 1 < (p1 &&& 2147483647) then (p1 &&& 2147483647) else 1) = (if 1 < (p1 &&& 2147483647) then (p1 &&& 2147483647) else 1))))), .val (.int (bi (decide (0 = 0)))), .unset]) (st := []) (pc' := 57) (fun hd1 q => ?_) (fun hd1 q => ?_) ?_
  · refine g_if_n B W107 at_49 (XT.i0_ne_f (by simpa using hd1)) ?_
    refine g_iconst B W107 at_52 (v := 1) (by decide) ?_
    exact g_goto B W107 at_53 (pc' := 57) (by decide) q
  · refine g_if_y B W107 at_49 (XT.i0_ne_t (by simpa using hd1)) (pc' := 56) (by decide) ?_
    exact g_iconst B W107 at_56 (v := 0) (by decide) q
  show Go p.tables e below _ T107 (mkF m 57 #[.val (.int p1), .val (.int (if 1 < (p1 &&& 2147483647) then (p1 &&& 2147483647) else 1)), .val (.ref b102), .val (.int (bi (decide ((if 1 < (p1 &&& 2147483647) then (p1 &&& 2147483647) else 1) = (if 1 < (p1 &&& 2147483647) then (p1 &&& 2147483647) else 1))))), .val (.int (bi (decide (0 = 0)))), .unset] [(.int (bi (decide (0 = 0))))])
  refine g_istore B W107 at_57  (l' := #[.val (.int p1), .val (.int (if 1 < (p1 &&& 2147483647) then (p1 &&& 2147483647) else 1)), .val (.ref b102), .val (.int (bi (decide ((if 1 < (p1 &&& 2147483647) then (p1 &&& 2147483647) else 1) = (if 1 < (p1 &&& 2147483647) then (p1 &&& 2147483647) else 1))))), .val (.int (bi (decide (0 = 0)))), .val (.int (bi (decide (0 = 0))))]) rfl ?_
  show Go p.tables e below _ T107 (mkF m 59 #[.val (.int p1), .val (.int (if 1 < (p1 &&& 2147483647) then (p1 &&& 2147483647) else 1)), .val (.ref b102), .val (.int (bi (decide ((if 1 < (p1 &&& 2147483647) then (p1 &&& 2147483647) else 1) = (if 1 < (p1 &&& 2147483647) then (p1 &&& 2147483647) else 1))))), .val (.int (bi (decide (0 = 0)))), .val (.int (bi (decide (0 = 0))))] [])
  refine g_iload_n B W107 at_59 rfl ?_
  show Go p.tables e below _ T107 (mkF m 60 #[.val (.int p1), .val (.int (if 1 < (p1 &&& 2147483647) then (p1 &&& 2147483647) else 1)), .val (.ref b102), .val (.int (bi (decide ((if 1 < (p1 &&& 2147483647) then (p1 &&& 2147483647) else 1) = (if 1 < (p1 &&& 2147483647) then (p1 &&& 2147483647) else 1))))), .val (.int (bi (decide (0 = 0)))), .val (.int (bi (decide (0 = 0))))] [(.int (bi (decide ((if 1 < (p1 &&& 2147483647) then (p1 &&& 2147483647) else 1) = (if 1 < (p1 &&& 2147483647) then (p1 &&& 2147483647) else 1)))))])
  refine g_if_n B W107 at_60 (XT.i0_eq_f (bi_t (by simp))) ?_
  show Go p.tables e below _ T107 (mkF m 63 #[.val (.int p1), .val (.int (if 1 < (p1 &&& 2147483647) then (p1 &&& 2147483647) else 1)), .val (.ref b102), .val (.int (bi (decide ((if 1 < (p1 &&& 2147483647) then (p1 &&& 2147483647) else 1) = (if 1 < (p1 &&& 2147483647) then (p1 &&& 2147483647) else 1))))), .val (.int (bi (decide (0 = 0)))), .val (.int (bi (decide (0 = 0))))] [])
  refine g_iload B W107 at_63 rfl ?_
  show Go p.tables e below _ T107 (mkF m 65 #[.val (.int p1), .val (.int (if 1 < (p1 &&& 2147483647) then (p1 &&& 2147483647) else 1)), .val (.ref b102), .val (.int (bi (decide ((if 1 < (p1 &&& 2147483647) then (p1 &&& 2147483647) else 1) = (if 1 < (p1 &&& 2147483647) then (p1 &&& 2147483647) else 1))))), .val (.int (bi (decide (0 = 0)))), .val (.int (bi (decide (0 = 0))))] [(.int (bi (decide (0 = 0))))])
  refine g_if_n B W107 at_65 (XT.i0_eq_f (bi_t (by simp))) ?_
  show Go p.tables e below _ T107 (mkF m 68 #[.val (.int p1), .val (.int (if 1 < (p1 &&& 2147483647) then (p1 &&& 2147483647) else 1)), .val (.ref b102), .val (.int (bi (decide ((if 1 < (p1 &&& 2147483647) then (p1 &&& 2147483647) else 1) = (if 1 < (p1 &&& 2147483647) then (p1 &&& 2147483647) else 1))))), .val (.int (bi (decide (0 = 0)))), .val (.int (bi (decide (0 = 0))))] [])
  refine g_iload B W107 at_68 rfl ?_
  show Go p.tables e below _ T107 (mkF m 70 #[.val (.int p1), .val (.int (if 1 < (p1 &&& 2147483647) then (p1 &&& 2147483647) else 1)), .val (.ref b102), .val (.int (bi (decide ((if 1 < (p1 &&& 2147483647) then (p1 &&& 2147483647) else 1) = (if 1 < (p1 &&& 2147483647) then (p1 &&& 2147483647) else 1))))), .val (.int (bi (decide (0 = 0)))), .val (.int (bi (decide (0 = 0))))] [(.int (bi (decide (0 = 0))))])
  refine g_if_n B W107 at_70 (XT.i0_eq_f (bi_t (by simp))) ?_
  show Go p.tables e below _ T107 (mkF m 73 #[.val (.int p1), .val (.int (if 1 < (p1 &&& 2147483647) then (p1 &&& 2147483647) else 1)), .val (.ref b102), .val (.int (bi (decide ((if 1 < (p1 &&& 2147483647) then (p1 &&& 2147483647) else 1) = (if 1 < (p1 &&& 2147483647) then (p1 &&& 2147483647) else 1))))), .val (.int (bi (decide (0 = 0)))), .val (.int (bi (decide (0 = 0))))] [])
  refine g_iconst B W107 at_73 (v := 1) (by decide) ?_
  show Go p.tables e below _ T107 (mkF m 74 #[.val (.int p1), .val (.int (if 1 < (p1 &&& 2147483647) then (p1 &&& 2147483647) else 1)), .val (.ref b102), .val (.int (bi (decide ((if 1 < (p1 &&& 2147483647) then (p1 &&& 2147483647) else 1) = (if 1 < (p1 &&& 2147483647) then (p1 &&& 2147483647) else 1))))), .val (.int (bi (decide (0 = 0)))), .val (.int (bi (decide (0 = 0))))] [(.int 1)])
  refine g_goto B W107 at_74 (pc' := 78) (by decide) ?_
  show Go p.tables e below _ T107 (mkF m 78 #[.val (.int p1), .val (.int (if 1 < (p1 &&& 2147483647) then (p1 &&& 2147483647) else 1)), .val (.ref b102), .val (.int (bi (decide ((if 1 < (p1 &&& 2147483647) then (p1 &&& 2147483647) else 1) = (if 1 < (p1 &&& 2147483647) then (p1 &&& 2147483647) else 1))))), .val (.int (bi (decide (0 = 0)))), .val (.int (bi (decide (0 = 0))))] [(.int 1)])
  exact r_n B W107 (t := .boolean) rfl (by simp) at_78 (by decide) (by decide) rfl
theorem own_null {args : Array Value} {s : State} {t : Term} (h : (Jvm.Cond.eq t Term.null).value args s none s [] = some true) : t.eval args s none [] s = some .null := by
  simp only [Cond.value, Term.eval] at h
  split at h <;> simp_all
set_option maxRecDepth 65536 in
set_option maxHeartbeats 40000000 in
theorem comes_1 {Post : Tables → Env → Array Value → State → Outcome → State → Prop} (hpost : ∀ tb e args s v u, (limb_1_1.after args s (.returned v) u = true ∧ limb_1_2.after args s (.returned v) u = true ∧ True) → FrameEnd s (.returned v) u (Jvm.fieldLocs frame_1_writes args s ++ Jvm.arrayLocs frame_1_arrays args s ++ Jvm.staticLocs frame_1_statics s) 16 128 → Post tb e args s (.returned v) u) :
    ArmFor flags0 classFile x code maxLocals ret World_1 tables_1 room_1 Calls_1 rest_1 Pre_1 Post := by
  intro l hfl _ _ p e ha hc hk s m args below hf hA hF happ hP
  obtain ⟨hcalls, hrest, hpre⟩ := hP
  obtain ⟨-, -, -, hnamed, -, -, -, hat⟩ := (Spec.applies_iff hf).mp happ
  obtain ⟨hg, hn⟩ := and_e (Cond.before_iff.mp (show (Jvm.Cond.and given_1 narrow_1).before args s = true from hpre))
  obtain ⟨hcnt, hgs⟩ := and_e hg
  have ha0 := hgs
  obtain ⟨w0, rfl⟩ : ∃ w0 : Value, args = #[w0] := by
    have hs : args.size = 1 := by simpa [Cond.value, given_1] using hcnt
    obtain ⟨L⟩ := args
    match L, hs with
    | [w0], _ => exact ⟨w0, rfl⟩
  have hw := fun d (hd : d ∈ tables_1) => atoms_spec (ws := Jvm.Cond.code x code maxLocals ret :: tables_1) hat d (List.mem_cons_of_mem _ hd)
  obtain ⟨hsets, hown0⟩ := atoms_of _ (rest_1_c_eq ▸ (show rest_1_c.before _ s = true from hrest))
  have hfit : Fit s := fun {y c} hc i hi => by
    obtain ⟨ha, rfl⟩ := Array.getElem?_eq_some_iff.mp hc
    have q := List.all_eq_true.mp ((Array.all_eq_true_iff_forall_mem.mp hF) _ (Array.getElem_mem ha)) i (List.mem_range.mpr hi)
    simpa [Array.getElem?_eq_getElem hi] using q
  obtain ⟨i0, ei0⟩ := is_v ha0
  obtain rfl : w0 = (.int i0) := Option.some.inj ei0
  obtain ⟨em, e1⟩ := exa_v (Cond.before_iff.mp (hsets _ (List.mem_of_getElem? (i := 2) rfl)))
  have S1 : Sta s s.heap "java/util/Optional" "EMPTY" "Ljava/util/Optional;" (.ref em) := Sta.start e1 (Or.inl (hsets _ (List.mem_of_getElem? (i := 1) rfl)))
  have E1 : Exa s s.heap em "java/util/Optional" := Exa.start e1 (Cond.before_iff.mp (hsets _ (List.mem_of_getElem? (i := 2) rfl)))
  have F1 := Fld.start ((fld_at e1).symm.trans (own_null (Cond.before_iff.mp (hsets _ (List.mem_of_getElem? (i := 3) rfl)))))
  obtain ⟨n, o, h1, h2, h3, v, L, rfl, ⟨hQ, N, -⟩, hq⟩ := c_law l s _ hw tables_1 i0 em s.heap S1 E1 F1 (Old.start s) p e ha hc hk s m _ below hf ((Spec.applies_iff_loose hf).mp happ).1 ⟨rfl, State.Warmed39.refl s, rfl⟩ trivial
  obtain rfl := hQ
  exact ⟨n, _, h1, h2, h3, hpost _ _ _ _ _ _ ⟨Cond.after_iff.mpr rfl, Cond.after_iff.mpr (eq_i res_at (Term.int_eval (1)) rfl), trivial⟩ ⟨hq.1, hq.2.1, (hq.2.2.sift fun y hy => Or.inr (N y hy)).mono (by decide) (by decide)⟩⟩
theorem main_1_1 : Claimed_1_1 := comes_1 fun _ _ _ _ _ _ h hF => ⟨h.1, hF⟩
theorem main_1_2 : Claimed_1_2 := comes_1 fun _ _ _ _ _ _ h hF => ⟨h.2.1, hF⟩
end Jvm.Pilot.@@N@@
namespace Jvm.Pilot.@@N@@
open Jvm Jvm.ClassFile Sem Op Lib Jvm.Free Jvm.Stand Jvm.Pilot.@@N@@.Jvm.D
/-! MADE BY PROGRAM (witnessworld.py) out of the Statement's table words and the real class files: 11 classes; the members and pool entries that the words name. The judged class is class 1, her method 1. -/
namespace start1
open Jvm.ClassFile
def u (s : String) : CpInfo := .utf8 (stringToUtf16 s)
/-- a pool by its gaps: so many unusable entries, then the entry; so many at the end -/
def gap : Nat → List CpInfo → List CpInfo
  | 0, r => r
  | n + 1, r => .unusable :: gap n r
def poolList (es : List (Nat × CpInfo)) (last : Nat) : List CpInfo := es.foldr (fun e r => gap e.1 (e.2 :: r)) (gap last [])
def pool (es : List (Nat × CpInfo)) (last : Nat) : Array CpInfo := ⟨poolList es last⟩
def fileOf (pool : Array CpInfo) (this : Nat) (attrs : Array Attribute := #[]) (ms : Array MethodInfo := #[]) (fl : Nat := 33) (sup : Nat := 0) (ifs : Array Nat := #[]) (fds : Array FieldInfo := #[]) : ClassFile where
  minorVersion := 0
  majorVersion := 65
  constantPool := pool
  accessFlags := fl
  thisClass := this
  superClass := sup
  interfaces := ifs
  fields := fds
  methods := ms
  attributes := attrs
def plain (name : String) (sup : Option ClassId) : Class where
  name := name
  kind := .ordinary
  loader := none
  accessFlags := 33
  super := sup
  interfaces := #[]
  cf := none
  fields := #[]
  methods := #[]
  instanceTypes := #[]
  staticTypes := #[]
  resolved := #[]
  callSites := []
  init := .initialized
  statics := none
  mirror := none

def pool0 : Array CpInfo := pool [(5, u "<init>"), (0, u "()V"), (1, .class_ 10), (1, u "java/lang/Object")] 113

def k0c0 : Code := { maxStack := 0, maxLocals := 1, code := object_method_1_code, exceptionTable := #[], attributes := #[] }
def k0m0 : Method := { name := "<init>", desc := "()V", sig := { parameters := [], returnType := none }, accessFlags := 1, code := some k0c0 }
/-- java/lang/Object -/
def k0 : Class := { plain "java/lang/Object" none with
  accessFlags := 33
  interfaces := #[]
  cf := some (fileOf pool0 8 #[] #[{ accessFlags := 1, nameIndex := 5, descriptorIndex := 6, attributes := #[] }] 33 0 #[] #[])
  fields := #[]
  methods := #[k0m0]
  instanceTypes := #[]
  staticTypes := #[]
  resolved := Array.replicate 124 none
  statics := none }

def pool1 : Array CpInfo := pool [(2, .class_ 4), (1, u "java/lang/Object"), (0, u "<init>"), (0, u "()V"), (0, .integer 2147483647), (0, .methodref 9 10), (0, .class_ 11), (0, .nameAndType 12 13), (0, u "java/lang/Math"), (0, u "max"), (0, u "(II)I"), (0, .methodref 15 16), (0, .class_ 17), (0, .nameAndType 18 19), (0, u "com/example/lake_union/lakeunion/store/PageRequest"), (0, u "of"), (0, u "(I)Lcom/example/lake_union/lakeunion/store/PageRequest;"), (0, .methodref 15 21), (0, .nameAndType 22 23), (0, u "size"), (0, u "()I"), (0, .methodref 15 25), (0, .nameAndType 26 27), (0, u "isDescending"), (0, u "()Z"), (0, .methodref 15 29), (0, .nameAndType 30 31), (0, u "cursor"), (0, u "()Ljava/util/Optional;"), (0, .methodref 33 34), (0, .class_ 35), (0, .nameAndType 36 27), (0, u "java/util/Optional"), (0, u "isPresent"), (0, .class_ 38), (0, u "com/example/lake_union/lakeunion/store/PageRequestOfPinLaw"), (2, u "law"), (0, u "(I)Z")] 3

def k1m0 : Method := { name := "<init>", desc := "()V", sig := { parameters := [], returnType := none }, accessFlags := 2, code := none }
def k1c1 : Code := { maxStack := 3, maxLocals := 6, code := code, exceptionTable := #[], attributes := #[] }
def k1m1 : Method := { name := "law", desc := "(I)Z", sig := { parameters := [.int], returnType := some .boolean }, accessFlags := 9, code := some k1c1 }
/-- com/example/lake_union/lakeunion/store/PageRequestOfPinLaw -/
def k1 : Class := { plain "com/example/lake_union/lakeunion/store/PageRequestOfPinLaw" (some 0) with
  accessFlags := 49
  interfaces := #[]
  cf := some (fileOf pool1 37 #[] #[{ accessFlags := 2, nameIndex := 5, descriptorIndex := 6, attributes := #[] }, { accessFlags := 9, nameIndex := 41, descriptorIndex := 42, attributes := #[] }] 49 2 #[] #[])
  fields := #[]
  methods := #[k1m0, k1m1]
  instanceTypes := #[]
  staticTypes := #[]
  resolved := Array.replicate 46 none
  statics := none }

def pool2 : Array CpInfo := pool [(1, .class_ 2), (0, u "java/lang/Math"), (1, .class_ 6), (1, u "java/lang/Object"), (0, u "<init>"), (0, u "()V"), (89, .class_ 100), (1, u "java/lang/Math$RandomNumberGeneratorHolder"), (71, u "negativeZeroFloatBits"), (0, u "J"), (2, u "negativeZeroDoubleBits"), (21, u "max"), (46, u "$assertionsDisabled"), (0, u "Z"), (88, u "(II)I"), (2, u "twoToTheDoubleScaleDown"), (0, u "D"), (4, u "twoToTheDoubleScaleUp"), (9, u "E"), (3, u "PI"), (2, u "TAU"), (2, u "DEGREES_TO_RADIANS"), (0, u "RADIANS_TO_DEGREES")] 94

def k2m0 : Method := { name := "<init>", desc := "()V", sig := { parameters := [], returnType := none }, accessFlags := 2, code := none }
def k2c1 : Code := { maxStack := 2, maxLocals := 2, code := jdk_29_method_65_code, exceptionTable := #[], attributes := #[] }
def k2m1 : Method := { name := "max", desc := "(II)I", sig := { parameters := [.int, .int], returnType := some .int }, accessFlags := 9, code := some k2c1 }
/-- java/lang/Math -/
def k2 : Class := { plain "java/lang/Math" (some 0) with
  accessFlags := 49
  interfaces := #[]
  cf := some (fileOf pool2 1 #[.nestMembers #[98]] #[{ accessFlags := 2, nameIndex := 7, descriptorIndex := 8, attributes := #[] }, { accessFlags := 9, nameIndex := 198, descriptorIndex := 335, attributes := #[] }] 49 4 #[] #[{ accessFlags := 25, nameIndex := 354, descriptorIndex := 339, attributes := #[] }, { accessFlags := 25, nameIndex := 358, descriptorIndex := 339, attributes := #[] }, { accessFlags := 25, nameIndex := 361, descriptorIndex := 339, attributes := #[] }, { accessFlags := 26, nameIndex := 364, descriptorIndex := 339, attributes := #[] }, { accessFlags := 26, nameIndex := 365, descriptorIndex := 339, attributes := #[] }, { accessFlags := 26, nameIndex := 172, descriptorIndex := 173, attributes := #[] }, { accessFlags := 26, nameIndex := 176, descriptorIndex := 173, attributes := #[] }, { accessFlags := 8, nameIndex := 344, descriptorIndex := 339, attributes := #[] }, { accessFlags := 8, nameIndex := 338, descriptorIndex := 339, attributes := #[] }, { accessFlags := 4120, nameIndex := 245, descriptorIndex := 246, attributes := #[] }])
  fields := #[{ name := "E", type := .double, accessFlags := 25, slot := 0, constantValue := 0 }, { name := "PI", type := .double, accessFlags := 25, slot := 1, constantValue := 0 }, { name := "TAU", type := .double, accessFlags := 25, slot := 2, constantValue := 0 }, { name := "DEGREES_TO_RADIANS", type := .double, accessFlags := 26, slot := 3, constantValue := 0 }, { name := "RADIANS_TO_DEGREES", type := .double, accessFlags := 26, slot := 4, constantValue := 0 }, { name := "negativeZeroFloatBits", type := .long, accessFlags := 26, slot := 5, constantValue := 0 }, { name := "negativeZeroDoubleBits", type := .long, accessFlags := 26, slot := 6, constantValue := 0 }, { name := "twoToTheDoubleScaleUp", type := .double, accessFlags := 8, slot := 7, constantValue := 0 }, { name := "twoToTheDoubleScaleDown", type := .double, accessFlags := 8, slot := 8, constantValue := 0 }, { name := "$assertionsDisabled", type := .boolean, accessFlags := 4120, slot := 9, constantValue := 0 }]
  methods := #[k2m0, k2m1]
  instanceTypes := #[]
  staticTypes := #[.double, .double, .double, .double, .double, .long, .long, .double, .double, .boolean]
  resolved := Array.replicate 460 none
  statics := none }

def pool3 : Array CpInfo := pool [(1, .methodref 2 3), (0, .class_ 4), (0, .nameAndType 5 6), (0, u "java/lang/Object"), (0, u "<init>"), (0, u "()V"), (0, .fieldref 8 9), (0, .class_ 10), (0, .nameAndType 11 12), (0, u "com/example/lake_union/lakeunion/store/PageRequest"), (0, u "size"), (0, u "I"), (0, .fieldref 8 14), (0, .nameAndType 15 16), (0, u "descending"), (0, u "Z"), (0, .fieldref 8 18), (0, .nameAndType 19 20), (0, u "cursor"), (0, u "Ljava/lang/String;"), (9, .methodref 8 31), (0, .nameAndType 5 32), (0, u "(IZLjava/lang/String;)V"), (9, .methodref 43 44), (0, .class_ 45), (0, .nameAndType 46 47), (0, u "java/util/Optional"), (0, u "ofNullable"), (0, u "(Ljava/lang/Object;)Ljava/util/Optional;"), (2, u "of"), (0, u "(I)Lcom/example/lake_union/lakeunion/store/PageRequest;"), (4, u "()I"), (0, u "isDescending"), (0, u "()Z"), (0, u "()Ljava/util/Optional;")] 19

def k3c0 : Code := { maxStack := 2, maxLocals := 4, code := prog_46_method_1_code, exceptionTable := #[], attributes := #[] }
def k3m0 : Method := { name := "<init>", desc := "(IZLjava/lang/String;)V", sig := { parameters := [.int, .boolean, (.object "java/lang/String")], returnType := none }, accessFlags := 2, code := some k3c0 }
def k3c1 : Code := { maxStack := 5, maxLocals := 1, code := prog_46_method_2_code, exceptionTable := #[], attributes := #[] }
def k3m1 : Method := { name := "of", desc := "(I)Lcom/example/lake_union/lakeunion/store/PageRequest;", sig := { parameters := [.int], returnType := some (.object "com/example/lake_union/lakeunion/store/PageRequest") }, accessFlags := 9, code := some k3c1 }
def k3c2 : Code := { maxStack := 1, maxLocals := 1, code := prog_46_method_5_code, exceptionTable := #[], attributes := #[] }
def k3m2 : Method := { name := "size", desc := "()I", sig := { parameters := [], returnType := some .int }, accessFlags := 1, code := some k3c2 }
def k3c3 : Code := { maxStack := 1, maxLocals := 1, code := prog_46_method_6_code, exceptionTable := #[], attributes := #[] }
def k3m3 : Method := { name := "isDescending", desc := "()Z", sig := { parameters := [], returnType := some .boolean }, accessFlags := 1, code := some k3c3 }
def k3c4 : Code := { maxStack := 1, maxLocals := 1, code := prog_46_method_7_code, exceptionTable := #[], attributes := #[] }
def k3m4 : Method := { name := "cursor", desc := "()Ljava/util/Optional;", sig := { parameters := [], returnType := some (.object "java/util/Optional") }, accessFlags := 1, code := some k3c4 }
/-- com/example/lake_union/lakeunion/store/PageRequest -/
def k3 : Class := { plain "com/example/lake_union/lakeunion/store/PageRequest" (some 0) with
  accessFlags := 49
  interfaces := #[]
  cf := some (fileOf pool3 8 #[] #[{ accessFlags := 2, nameIndex := 5, descriptorIndex := 32, attributes := #[] }, { accessFlags := 9, nameIndex := 50, descriptorIndex := 51, attributes := #[] }, { accessFlags := 1, nameIndex := 11, descriptorIndex := 56, attributes := #[] }, { accessFlags := 1, nameIndex := 57, descriptorIndex := 58, attributes := #[] }, { accessFlags := 1, nameIndex := 19, descriptorIndex := 59, attributes := #[] }] 49 2 #[] #[{ accessFlags := 18, nameIndex := 11, descriptorIndex := 12, attributes := #[] }, { accessFlags := 18, nameIndex := 15, descriptorIndex := 16, attributes := #[] }, { accessFlags := 18, nameIndex := 19, descriptorIndex := 20, attributes := #[] }])
  fields := #[{ name := "size", type := .int, accessFlags := 18, slot := 0, constantValue := 0 }, { name := "descending", type := .boolean, accessFlags := 18, slot := 1, constantValue := 0 }, { name := "cursor", type := (.object "java/lang/String"), accessFlags := 18, slot := 2, constantValue := 0 }]
  methods := #[k3m0, k3m1, k3m2, k3m3, k3m4]
  instanceTypes := #[.int, .boolean, (.object "java/lang/String")]
  staticTypes := #[]
  resolved := Array.replicate 79 none
  statics := none }

def pool4 : Array CpInfo := pool [(1, .fieldref 2 3), (0, .class_ 4), (0, .nameAndType 5 6), (0, u "java/util/Optional"), (0, u "EMPTY"), (0, u "Ljava/util/Optional;"), (1, .class_ 10), (1, u "java/lang/Object"), (2, .fieldref 2 14), (0, .nameAndType 15 16), (0, u "value"), (0, u "Ljava/lang/Object;"), (29, u "()Z"), (17, u "ofNullable"), (0, u "(Ljava/lang/Object;)Ljava/util/Optional;"), (2, u "isPresent")] 118

def k4c0 : Code := { maxStack := 3, maxLocals := 1, code := jdk_32_method_4_code, exceptionTable := #[], attributes := #[] }
def k4m0 : Method := { name := "ofNullable", desc := "(Ljava/lang/Object;)Ljava/util/Optional;", sig := { parameters := [(.object "java/lang/Object")], returnType := some (.object "java/util/Optional") }, accessFlags := 9, code := some k4c0 }
def k4c1 : Code := { maxStack := 1, maxLocals := 1, code := jdk_32_method_6_code, exceptionTable := #[], attributes := #[] }
def k4m1 : Method := { name := "isPresent", desc := "()Z", sig := { parameters := [], returnType := some .boolean }, accessFlags := 1, code := some k4c1 }
/-- java/util/Optional -/
def k4 : Class := { plain "java/util/Optional" (some 0) with
  accessFlags := 49
  interfaces := #[]
  cf := some (fileOf pool4 2 #[] #[{ accessFlags := 9, nameIndex := 64, descriptorIndex := 65, attributes := #[] }, { accessFlags := 1, nameIndex := 68, descriptorIndex := 46, attributes := #[] }] 49 8 #[] #[{ accessFlags := 26, nameIndex := 5, descriptorIndex := 6, attributes := #[] }, { accessFlags := 18, nameIndex := 15, descriptorIndex := 16, attributes := #[] }])
  fields := #[{ name := "EMPTY", type := (.object "java/util/Optional"), accessFlags := 26, slot := 0, constantValue := 0 }, { name := "value", type := (.object "java/lang/Object"), accessFlags := 18, slot := 0, constantValue := 0 }]
  methods := #[k4m0, k4m1]
  instanceTypes := #[(.object "java/lang/Object")]
  staticTypes := #[(.object "java/util/Optional")]
  resolved := Array.replicate 187 none
  statics := some 0 }

def pool5 : Array CpInfo := pool [(1, u "java/lang/Cloneable"), (0, .class_ 1), (0, u "java/lang/Object"), (0, .class_ 3)] 3

/-- java/lang/Cloneable -/
def k5 : Class := { plain "java/lang/Cloneable" (some 0) with
  accessFlags := 1537
  interfaces := #[]
  cf := some (fileOf pool5 2 #[] #[] 1537 4 #[] #[])
  fields := #[]
  methods := #[]
  instanceTypes := #[]
  staticTypes := #[]
  resolved := Array.replicate 8 none
  statics := none }

def pool6 : Array CpInfo := pool [(1, u "java/io/Serializable"), (0, .class_ 1), (0, u "java/lang/Object"), (0, .class_ 3)] 3

/-- java/io/Serializable -/
def k6 : Class := { plain "java/io/Serializable" (some 0) with
  accessFlags := 1537
  interfaces := #[]
  cf := some (fileOf pool6 2 #[] #[] 1537 4 #[] #[])
  fields := #[]
  methods := #[]
  instanceTypes := #[]
  staticTypes := #[]
  resolved := Array.replicate 8 none
  statics := none }

/-- the primitive byte -/
def k7 : Class := { plain "byte" none with kind := .primitive 'B', accessFlags := 0x411 }
/-- [B -/
def k8 : Class := { plain "[B" (some 0) with kind := .array 7 .byte, interfaces := #[5, 6], accessFlags := 1041 }

/-- the primitive int -/
def k9 : Class := { plain "int" none with kind := .primitive 'I', accessFlags := 0x411 }
/-- [I -/
def k10 : Class := { plain "[I" (some 0) with kind := .array 9 .int, interfaces := #[5, 6], accessFlags := 1041 }

def heap : Heap := #[{ cls := 4, slots := #[.ref 1], vm := .statics 4 },
  { cls := 4, slots := #[.null], vm := .none }]
def classes : Array Class := #[k0, k1, k2, k3, k4, k5, k6, k7, k8, k9, k10]
def interned : List (Array UInt16 × Addr) := []
def slotsUsed : Nat := 2
def theMethod : MethodId := ⟨1, 1⟩
def args0 : Array Value := #[.int 5]
def aboutOver (below : List Frame) : State where
  vm := { classes := classes, interned := interned.toArray }
  heap := heap
  slotsUsed := slotsUsed
  threads := #[{ frames := .invoking theMethod args0 :: below }]
def below0 : List Frame := [.native { method := ⟨0, 0⟩, args := #[] }]
def about1 : State := aboutOver below0
def p0 : Program := .bare "" "" ""
def e0 : Env := launch0.env 0 0 0
theorem w_frames : about1.frames = Frame.invoking theMethod args0 :: below0 := rfl
set_option maxRecDepth 65536 in
theorem w_args : argsFit about1.vm theMethod args0 = true := by decide +kernel
set_option maxRecDepth 65536 in
theorem w_heap : heapFits about1 = true := by decide +kernel
set_option maxRecDepth 65536 in
theorem w_runnable : about1.curStatus? = some .runnable := by decide +kernel
set_option maxRecDepth 65536 in
theorem w_alone : about1.alone = true := by decide +kernel
set_option maxRecDepth 65536 in
theorem w_named : about1.methodNamed? x = some theMethod := by decide +kernel
set_option maxRecDepth 65536 in
theorem w_hears : about1.hears theMethod below0 = true := by decide +kernel
set_option maxRecDepth 65536 in
theorem w_ripe : about1.ripe theMethod args0 below0 = true := by decide +kernel
theorem w_running : about1.status = .running := rfl
set_option maxRecDepth 65536 in
theorem w_room : about1.hasRoom e0.platform room_1 = true :=
  launch0.hasRoom_least _ room_1 (by decide +kernel) (by decide +kernel) (by decide +kernel) (by decide +kernel) (by decide +kernel) (by decide +kernel)
theorem allAtoms_all (ts : List Jvm.Cond) (a : Array Jvm.Value) (st : Jvm.State) : (allAtoms ts).before a st = ts.all (fun c => c.before a st) := by
  induction ts with
  | nil => rfl
  | cons c t ih =>
    show (Jvm.Cond.and c (allAtoms t)).before a st = _
    rw [Jvm.Cond.before_and, ih, List.all_cons]
def words1 : List Jvm.Cond := Jvm.Cond.code x code maxLocals ret :: tables_1
/-- a 'code' word, met by the world's own term for the bytes: nothing is compared byte by byte -/
theorem code_word {y : MethodName} {bytes : ByteArray} {mx : Nat} {rt : Option FieldType} {a : Array Value} {s : State} {m : MethodId} {meth : Method} {c : Code} (h1 : s.methodNamed? y = some m) (h2 : s.vm.method? m = some meth) (h3 : meth.code = some c) (h4 : c.code = bytes)
    (h5 : (c.maxLocals == mx && c.exceptionTable.isEmpty && decide (c.maxStack ≤ mostOperands) && decide (meth.sig.returnType = rt) && !meth.locks && decide (parseMethodDescriptor y.desc = some meth.sig)) = true) : (Jvm.Cond.code y bytes mx rt).before a s = true := by
  simp only [Bool.and_eq_true, beq_iff_eq, Bool.not_eq_true', decide_eq_true_eq] at h5
  obtain ⟨⟨⟨⟨⟨g1, g2⟩, g3⟩, g4⟩, g5⟩, g6⟩ := h5
  simp [Cond.before, Cond.holds, Cond.value, h1, h2, h3, h4, g1, g2, g3, g4, g5, g6]
def isCode : Jvm.Cond → Bool
  | .code _ _ _ _ => true
  | _ => false
theorem all_split {L : List Jvm.Cond} {P : Jvm.Cond → Bool} (h1 : L.all (fun c => isCode c || P c) = true) (h2 : ∀ c ∈ L.filter isCode, P c = true) : L.all P = true := by
  refine List.all_eq_true.mpr fun c hc => ?_
  have h := List.all_eq_true.mp h1 c hc
  rcases Bool.eq_false_or_eq_true (isCode c) with hi | hi
  · exact h2 c (List.mem_filter.mpr ⟨hc, hi⟩)
  · simpa [hi] using h
set_option maxRecDepth 65536 in
theorem w_c0 : (Jvm.Cond.code x code maxLocals ret).before args0 about1 = true := code_word (m := ⟨1, 1⟩) (meth := k1m1) (c := k1c1) (by decide +kernel) rfl rfl rfl (by decide +kernel)
set_option maxRecDepth 65536 in
theorem w_c1 : (Jvm.Cond.code ({ cls := "java/lang/Math", name := "max", desc := "(II)I" } : Jvm.MethodName) jdk_29_method_65_code (2 : Nat) (Option.some Jvm.ClassFile.FieldType.int)).before args0 about1 = true := code_word (m := ⟨2, 1⟩) (meth := k2m1) (c := k2c1) (by decide +kernel) rfl rfl rfl (by decide +kernel)
set_option maxRecDepth 65536 in
theorem w_c2 : (Jvm.Cond.code ({ cls := "com/example/lake_union/lakeunion/store/PageRequest", name := "of", desc := "(I)Lcom/example/lake_union/lakeunion/store/PageRequest;" } : Jvm.MethodName) prog_46_method_2_code (1 : Nat) (Option.some (Jvm.ClassFile.FieldType.object "com/example/lake_union/lakeunion/store/PageRequest"))).before args0 about1 = true := code_word (m := ⟨3, 1⟩) (meth := k3m1) (c := k3c1) (by decide +kernel) rfl rfl rfl (by decide +kernel)
set_option maxRecDepth 65536 in
theorem w_c3 : (Jvm.Cond.code ({ cls := "com/example/lake_union/lakeunion/store/PageRequest", name := "<init>", desc := "(IZLjava/lang/String;)V" } : Jvm.MethodName) prog_46_method_1_code (4 : Nat) (Option.none : Option Jvm.ClassFile.FieldType)).before args0 about1 = true := code_word (m := ⟨3, 0⟩) (meth := k3m0) (c := k3c0) (by decide +kernel) rfl rfl rfl (by decide +kernel)
set_option maxRecDepth 65536 in
theorem w_c4 : (Jvm.Cond.code ({ cls := "java/lang/Object", name := "<init>", desc := "()V" } : Jvm.MethodName) object_method_1_code (1 : Nat) (Option.none : Option Jvm.ClassFile.FieldType)).before args0 about1 = true := code_word (m := ⟨0, 0⟩) (meth := k0m0) (c := k0c0) (by decide +kernel) rfl rfl rfl (by decide +kernel)
set_option maxRecDepth 65536 in
theorem w_c5 : (Jvm.Cond.code ({ cls := "com/example/lake_union/lakeunion/store/PageRequest", name := "size", desc := "()I" } : Jvm.MethodName) prog_46_method_5_code (1 : Nat) (Option.some Jvm.ClassFile.FieldType.int)).before args0 about1 = true := code_word (m := ⟨3, 2⟩) (meth := k3m2) (c := k3c2) (by decide +kernel) rfl rfl rfl (by decide +kernel)
set_option maxRecDepth 65536 in
theorem w_c6 : (Jvm.Cond.code ({ cls := "com/example/lake_union/lakeunion/store/PageRequest", name := "isDescending", desc := "()Z" } : Jvm.MethodName) prog_46_method_6_code (1 : Nat) (Option.some Jvm.ClassFile.FieldType.boolean)).before args0 about1 = true := code_word (m := ⟨3, 3⟩) (meth := k3m3) (c := k3c3) (by decide +kernel) rfl rfl rfl (by decide +kernel)
set_option maxRecDepth 65536 in
theorem w_c7 : (Jvm.Cond.code ({ cls := "com/example/lake_union/lakeunion/store/PageRequest", name := "cursor", desc := "()Ljava/util/Optional;" } : Jvm.MethodName) prog_46_method_7_code (1 : Nat) (Option.some (Jvm.ClassFile.FieldType.object "java/util/Optional"))).before args0 about1 = true := code_word (m := ⟨3, 4⟩) (meth := k3m4) (c := k3c4) (by decide +kernel) rfl rfl rfl (by decide +kernel)
set_option maxRecDepth 65536 in
theorem w_c8 : (Jvm.Cond.code ({ cls := "java/util/Optional", name := "ofNullable", desc := "(Ljava/lang/Object;)Ljava/util/Optional;" } : Jvm.MethodName) jdk_32_method_4_code (1 : Nat) (Option.some (Jvm.ClassFile.FieldType.object "java/util/Optional"))).before args0 about1 = true := code_word (m := ⟨4, 0⟩) (meth := k4m0) (c := k4c0) (by decide +kernel) rfl rfl rfl (by decide +kernel)
set_option maxRecDepth 65536 in
theorem w_c9 : (Jvm.Cond.code ({ cls := "java/util/Optional", name := "isPresent", desc := "()Z" } : Jvm.MethodName) jdk_32_method_6_code (1 : Nat) (Option.some Jvm.ClassFile.FieldType.boolean)).before args0 about1 = true := code_word (m := ⟨4, 1⟩) (meth := k4m1) (c := k4c1) (by decide +kernel) rfl rfl rfl (by decide +kernel)
def codes1 : List Jvm.Cond := [Jvm.Cond.code x code maxLocals ret, Jvm.Cond.code ({ cls := "java/lang/Math", name := "max", desc := "(II)I" } : Jvm.MethodName) jdk_29_method_65_code (2 : Nat) (Option.some Jvm.ClassFile.FieldType.int), Jvm.Cond.code ({ cls := "com/example/lake_union/lakeunion/store/PageRequest", name := "of", desc := "(I)Lcom/example/lake_union/lakeunion/store/PageRequest;" } : Jvm.MethodName) prog_46_method_2_code (1 : Nat) (Option.some (Jvm.ClassFile.FieldType.object "com/example/lake_union/lakeunion/store/PageRequest")), Jvm.Cond.code ({ cls := "com/example/lake_union/lakeunion/store/PageRequest", name := "<init>", desc := "(IZLjava/lang/String;)V" } : Jvm.MethodName) prog_46_method_1_code (4 : Nat) (Option.none : Option Jvm.ClassFile.FieldType), Jvm.Cond.code ({ cls := "java/lang/Object", name := "<init>", desc := "()V" } : Jvm.MethodName) object_method_1_code (1 : Nat) (Option.none : Option Jvm.ClassFile.FieldType), Jvm.Cond.code ({ cls := "com/example/lake_union/lakeunion/store/PageRequest", name := "size", desc := "()I" } : Jvm.MethodName) prog_46_method_5_code (1 : Nat) (Option.some Jvm.ClassFile.FieldType.int), Jvm.Cond.code ({ cls := "com/example/lake_union/lakeunion/store/PageRequest", name := "isDescending", desc := "()Z" } : Jvm.MethodName) prog_46_method_6_code (1 : Nat) (Option.some Jvm.ClassFile.FieldType.boolean), Jvm.Cond.code ({ cls := "com/example/lake_union/lakeunion/store/PageRequest", name := "cursor", desc := "()Ljava/util/Optional;" } : Jvm.MethodName) prog_46_method_7_code (1 : Nat) (Option.some (Jvm.ClassFile.FieldType.object "java/util/Optional")), Jvm.Cond.code ({ cls := "java/util/Optional", name := "ofNullable", desc := "(Ljava/lang/Object;)Ljava/util/Optional;" } : Jvm.MethodName) jdk_32_method_4_code (1 : Nat) (Option.some (Jvm.ClassFile.FieldType.object "java/util/Optional")), Jvm.Cond.code ({ cls := "java/util/Optional", name := "isPresent", desc := "()Z" } : Jvm.MethodName) jdk_32_method_6_code (1 : Nat) (Option.some Jvm.ClassFile.FieldType.boolean)]
set_option maxRecDepth 65536 in
theorem codes_eq : words1.filter isCode = codes1 := rfl
theorem w_codes : ∀ c ∈ words1.filter isCode, c.before args0 about1 = true := by
  rw [codes_eq]
  intro c hc
  simp only [codes1, List.mem_cons, List.not_mem_nil, or_false] at hc
  rcases hc with rfl | rfl | rfl | rfl | rfl | rfl | rfl | rfl | rfl | rfl
  · exact w_c0
  · exact w_c1
  · exact w_c2
  · exact w_c3
  · exact w_c4
  · exact w_c5
  · exact w_c6
  · exact w_c7
  · exact w_c8
  · exact w_c9
set_option maxRecDepth 65536 in
theorem w_t1 : (words1.take 24).all (fun c => isCode c || c.before args0 about1) = true := by decide +kernel
set_option maxRecDepth 65536 in
theorem w_t2 : ((words1.drop 24).take 24).all (fun c => isCode c || c.before args0 about1) = true := by decide +kernel
set_option maxRecDepth 65536 in
theorem w_t3 : ((words1.drop 24).drop 24).all (fun c => isCode c || c.before args0 about1) = true := by decide +kernel
theorem w_tables : (allAtoms (Jvm.Cond.code x code maxLocals ret :: tables_1)).before args0 about1 = true := by
  rw [allAtoms_all]
  show words1.all (fun c => c.before args0 about1) = true
  refine all_split ?_ w_codes
  rw [← List.take_append_drop 24 words1, List.all_append, w_t1, ← List.take_append_drop 24 (words1.drop 24), List.all_append, w_t2, w_t3]
  rfl
set_option maxRecDepth 65536 in
theorem w_rest : rest_1_c.before args0 about1 = true := by decide +kernel
set_option maxRecDepth 65536 in
theorem w_case : (Jvm.Cond.and given_1 narrow_1).before args0 about1 = true := by decide +kernel
theorem w_applies : (headSpec (Jvm.Cond.code x code maxLocals ret :: tables_1) room_1).applies x e0.platform about1 = true :=
  (Spec.applies_iff w_frames).mpr ⟨w_running, w_runnable, w_alone, w_named, w_hears, w_ripe, w_room, w_tables⟩
theorem atStart : AtStart classFile x code maxLocals ret World_1 tables_1 room_1 Calls_1 rest_1 Pre_1 launch0 p0 e0 about1 theMethod args0 below0 :=
  ⟨lists_1, trivial, launch0.admits_env _ _ _, launch0.least_env, fairChoices_fair.cas, fairChoices_fair.clock, w_frames, w_args, w_heap, w_applies, trivial, w_rest, w_case⟩
end start1
theorem witness_1 : WitnessClaimed_1 := ⟨start1.p0, start1.e0, start1.about1, start1.theMethod, start1.args0, start1.below0, start1.atStart⟩
end Jvm.Pilot.@@N@@
