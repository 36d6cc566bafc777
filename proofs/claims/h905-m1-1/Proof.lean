import JvmDerived
import JvmDerived.Pilot.@@N@@Statement
import JvmDerived.Pilot.@@N@@Code
set_option linter.unusedVariables false
set_option linter.unusedSimpArgs false
namespace Jvm.OwnK
open Sem ClassFile Op Lib Jvm.Stand Jvm.Free Jvm.LawKit Jvm.RoadKit
/-- what a body leaves: Q of its value and heap; what it wrote lies in new cells; the old cells stand -/
def Out (Z s : State) (Q : Option Value → Heap → Prop) (k n : Nat) (o : Outcome) (U : State) : Prop :=
  ∃ v L, o = .returned v ∧ (Q v U.heap ∧ Fr Z.heap.size L ∧ Old Z Z.heap.size U.heap) ∧ FrameEnd s o U L k n
/-- from here the walk ends, and G holds of its end -/
def Go (tb : Tables) (e : Env) (below : List Frame) (G : Outcome → State → Prop) (T : State) (F : JFrame) : Prop :=
  ∃ s₂ o, Steps tb e below (T.setTop F) s₂ ∧ s₂.status = .running ∧ Ended s₂ below o ∧ G o s₂
/-- where the walk stands, with its heap -/
def Wk (p : Program) (l : Launch) (e : Env) (R : Room) (s : State) (m : MethodId) (args : Array Value) (below : List Frame) (meth : Method) (c : Code) (Z T : State) (h : Heap) (k n : Nat) : Prop :=
  ∃ locs, Stand p l e R s m args below meth c T locs k n ∧ T.heap = h ∧ Fr Z.heap.size locs ∧ Old Z Z.heap.size h
/-- what is known of the body -/
def Bdy (p : Program) (Z s : State) (m : MethodId) (meth : Method) (c : Code) (own : String) (bytes : ByteArray) (maxL : Nat) (ret : Option FieldType) (nm : String) : Prop :=
  p.tables.exec = Jvm.exec ∧ Z.Warmed39 s.vm ∧ s.vm.findClass own = some m.cls ∧ c.code = bytes ∧ c.maxLocals = maxL ∧ meth.sig.returnType = ret ∧ meth.locks = false ∧ meth.name = nm
/-- a contract -/
def Con (l : Launch) (Z : State) (y : MethodName) (bytes : ByteArray) (maxL : Nat) (ret : Option FieldType) (ws : List Cond) (rm : Room) (as' : Array Value) (h0 : Heap) (Q : Option Value → Heap → Prop) : Prop :=
  Old Z Z.heap.size h0 → MetFree l y (head1 (Cond.code y bytes maxL ret :: ws) rm) (fun a U => a = as' ∧ Z.Warmed39 U.vm ∧ U.heap = h0) (fun _ _ _ _ _ => True) (fun _ U o U' => Out Z U Q rm.cells rm.slots o U')
def bi (b : Bool) : Int32 := if b then 1 else 0
theorem bi_t {b : Bool} (h : b = true) : ¬ bi b = 0 := by subst h; decide
theorem bi_f {b : Bool} (h : b = false) : bi b = 0 := by subst h; rfl
theorem bi_nar (b : Bool) : nar .boolean (bi b) = bi b := by cases b <;> rfl
theorem bi_tt : bi true = 1 := rfl
theorem bi_ff : bi false = 0 := rfl
theorem bi_inj {a b : Bool} : (bi a = bi b) = (a = b) := by cases a <;> cases b <;> decide
theorem own_nb (b : Bool) : narrow .boolean (.int (bi b)) = .int (bi b) := by cases b <;> rfl
theorem own_fb (b : Bool) : fits .boolean (.int (bi b)) = true := by cases b <;> rfl
theorem own_fr {t : FieldType} {v : Value} (ht : t.isReference = true) (hv : v.isRef = true) : fits t v = true := by cases t <;> cases v <;> first | rfl | (exfalso; revert ht hv; simp [FieldType.isReference, Value.isRef]; done)
theorem own_i2c (a : Int32) : ∃ x : Int32, a.toUInt32.toUInt16.toUInt32.toInt32 = x ∧ nar .char x = x ∧ 0 ≤ x.toInt ∧ x.toInt < 65536 := by
  refine ⟨_, rfl, ?_, (c_i2c a).2.1, (c_i2c a).2.2⟩
  show (a.toUInt32.toUInt16.toUInt32.toInt32).toUInt32.toUInt16.toUInt32.toInt32 = _
  simp only [UInt32.toUInt32_toInt32, UInt16.toUInt16_toUInt32]
theorem own_and1 {a b : Bool} (h : b = true) : (bi a &&& 1) = bi (a && b) := by subst h; cases a <;> decide
theorem own_and0 {a b : Bool} (h : b = false) : (bi a &&& 0) = bi (a && b) := by subst h; cases a <;> decide
theorem own_andb (a b : Bool) : (bi a &&& bi b) = bi (a && b) := by cases a <;> cases b <;> decide
theorem own_inc (i : Nat) : Int32.ofNat i + 1 = Int32.ofNat (i + 1) := (Int32.ofNat_add i 1).symm
theorem own_ofNat {i : Nat} (h : i < 2147483648) : (Int32.ofNat i).toInt = i := by
  have := Int32.toInt_ofNat_of_lt (n := i) (by omega); exact this
theorem own_clamp {i : Nat} (h : i < 2147483648) : (Int32.ofNat i).toNatClampNeg = i := by
  simp only [Int32.toNatClampNeg, own_ofNat h]; omega
theorem own_lt {i j : Nat} (hi : i < 2147483648) (hj : j < 2147483648) : (Int32.ofNat i < Int32.ofNat j) ↔ i < j := by
  rw [Int32.lt_iff_toInt_lt, own_ofNat hi, own_ofNat hj]; omega
theorem own_ixok {i n : Nat} (hi : i < n) (hn : n < 2147483648) : ¬ Int32.ofNat i < 0 ∧ Int32.ofNat i < Int32.ofNat n := by
  refine ⟨?_, (own_lt (by omega) hn).mpr hi⟩
  rw [Int32.lt_iff_toInt_lt, own_ofNat (by omega)]; show ¬ ((i : Int) < 0); omega
theorem nar_b0 : nar .boolean 0 = 0 := by decide
theorem nar_b1 : nar .boolean 1 = 1 := by decide
theorem old_le {Z : State} {h : Heap} (O : Old Z Z.heap.size h) : Z.heap.size ≤ h.size := O.2.1
section K
variable {p : Program} {l : Launch} {e : Env} {R : Room} {s : State} {m : MethodId} {args : Array Value} {below : List Frame} {meth : Method} {c : Code} {Z T T' : State} {h h' : Heap} {k n : Nat} {own nm : String} {bytes : ByteArray} {maxL : Nat} {ret : Option FieldType} {G : Outcome → State → Prop} {pc : Nat} {ls : Array Slot} {st : List Value} {Q : Option Value → Heap → Prop} {a0 : Array Value}
theorem Bdy.nameOf (B : Bdy p Z s m meth c own bytes maxL ret nm) : meth.name = nm := B.2.2.2.2.2.2.2
theorem Go.by {tb : Tables} {F F' : JFrame} (hs : ∀ t, Steps tb e below (T'.setTop F') t → Steps tb e below (T.setTop F) t) (q : Go tb e below G T' F') : Go tb e below G T F := by
  obtain ⟨s2, o, a, b⟩ := q; exact ⟨s2, o, hs _ a, b⟩
theorem Go.cast {tb : Tables} {F F' : JFrame} (hs : F = F') (q : Go tb e below G T F') : Go tb e below G T F := hs ▸ q
theorem Con.of {y : MethodName} {ws : List Cond} {rm : Room} {as' : Array Value} {h0 : Heap} (hpl : plainFor y = true)
    (body : ∀ p e s m below meth c T, Bdy p Z s m meth c y.cls bytes maxL ret y.name → Wk p l e rm s m as' below meth c Z T h0 0 0 → Go p.tables e below (Out Z s Q rm.cells rm.slots) T (entryFrame m as' maxL)) : Con l Z y bytes maxL ret ws rm as' h0 Q := by
  intro hO
  refine MetFree.of_bodySF hpl hisR ?_
  intro p e s m args below meth c s₁ Bd hml0 hP hK
  obtain ⟨rfl, hZ, hh⟩ := hP
  exact body p e s m below meth c s₁ ⟨Bd.exec, hZ, findClass_of_methodNamed Bd.named, Bd.bytes, hml0, Bd.returns, Bd.notSynchronized, (name_of_methodNamed Bd.named Bd.method).1⟩ ⟨[], Stand.of_body Bd, by rw [← hh, Bd.state]; rfl, Fr.nil _, hO⟩
theorem Wk.size (W : Wk p l e R s m args below meth c Z T h k n) : Z.heap.size ≤ h.size := by obtain ⟨_, _, _, _, O⟩ := W; exact O.2.1
theorem Wk.old (W : Wk p l e R s m args below meth c Z T h k n) : Old Z Z.heap.size h := by obtain ⟨_, _, _, _, O⟩ := W; exact O
theorem Sta.old {C nf d : String} {v : Value} (F : Sta Z Z.heap C nf d v) (W : Old Z Z.heap.size h) : Sta Z h C nf d v := F.ext W.2
theorem Wk.more {k' n' : Nat} (W : Wk p l e R s m args below meth c Z T h k n) (hk : k ≤ k') (hn : n ≤ n') : Wk p l e R s m args below meth c Z T h k' n' := by
  obtain ⟨locs, X, r⟩ := W; exact ⟨locs, X.more hk hn, r⟩
/-! ### the ends -/
theorem go_end (B : Bdy p Z s m meth c own bytes maxL ret nm) (W : Wk p l e R s m args below meth c Z T h k n) {F : JFrame} {v : Option Value} {k' n' : Nat} (hv : ret = none → v = none) (hQ : Q v h) (hk : k ≤ k') (hn : n ≤ n')
    (hst : ∀ (locs : List Loc) (fs : List Frame), Stand p l e R s m args below meth c T locs k n → (∀ (f : JFrame) (acts : List Action), f.method = m → f.locked = none → f.entered = [] → (doReturn e (T.setTop f) acts v).1 = T.setFrames fs) → Steps p.tables e below (T.setTop F) (T.setFrames fs)) :
    Go p.tables e below (Out Z s Q k' n') T F := by
  obtain ⟨locs, X, eT, N, O⟩ := W
  obtain ⟨fs, hr, hrun, hended, hW, hsame⟩ := X.leave (v := v) (fun q => hv (B.2.2.2.2.2.1 ▸ q)) B.2.2.2.2.2.2.1
  have eT' : (T.setFrames fs).heap = h := eT
  exact ⟨_, _, hst locs fs X hr, hrun, hended, _, _, rfl, ⟨by rw [eT']; exact hQ, N, by rw [eT']; exact O⟩, ⟨_, rfl⟩, hW, hsame.mono hk hn⟩
theorem r_i (B : Bdy p Z s m meth c own bytes maxL (some .int) nm) (W : Wk p l e R s m args below meth c Z T h k n) {z : Int32} {k' n' : Nat} (hd : decode bytes pc = .ok (.ireturn, 1)) (hk : k ≤ k') (hn : n ≤ n') (hQ : Q (some (.int z)) h) : Go p.tables e below (Out Z s Q k' n') T (mkF m pc ls (.int z :: st)) :=
  go_end B W (fun q => by cases q) hQ hk hn fun _ _ X hr => retOut X B.1 B.2.2.2.2.2.1 rfl (Or.inl ⟨rfl, Or.inl rfl, _, rfl⟩) (hb B.2.2.2.1 hd) hr
theorem r_b (B : Bdy p Z s m meth c own bytes maxL (some .boolean) nm) (W : Wk p l e R s m args below meth c Z T h k n) {b : Bool} {k' n' : Nat} (hd : decode bytes pc = .ok (.ireturn, 1)) (hk : k ≤ k') (hn : n ≤ n') (hQ : Q (some (.int (bi b))) h) : Go p.tables e below (Out Z s Q k' n') T (mkF m pc ls (.int (bi b) :: st)) :=
  go_end B W (fun q => by cases q) (v := some (.int (nar .boolean (bi b)))) (by rw [bi_nar]; exact hQ) hk hn fun _ _ X hr => retN X B.1 B.2.2.2.2.2.1 (Or.inl rfl) (hb B.2.2.2.1 hd) hr
theorem r_n (B : Bdy p Z s m meth c own bytes maxL ret nm) (W : Wk p l e R s m args below meth c Z T h k n) {t : FieldType} {z : Int32} {k' n' : Nat} (hret : ret = some t) (ht : t = .boolean ∨ t = .byte ∨ t = .char ∨ t = .short) (hd : decode bytes pc = .ok (.ireturn, 1)) (hk : k ≤ k') (hn : n ≤ n') (hQ : Q (some (.int (nar t z))) h) : Go p.tables e below (Out Z s Q k' n') T (mkF m pc ls (.int z :: st)) :=
  go_end B W (fun q => by rw [hret] at q; cases q) hQ hk hn fun _ _ X hr => retN X B.1 (B.2.2.2.2.2.1.trans hret) ht (hb B.2.2.2.1 hd) hr
theorem nar_ref {t : FieldType} {v : Value} (ht : t.isReference = true) : narrow t v = v := by cases t <;> first | rfl | (exfalso; revert ht; simp [FieldType.isReference]; done) | (cases v <;> rfl)
theorem r_a (B : Bdy p Z s m meth c own bytes maxL ret nm) (W : Wk p l e R s m args below meth c Z T h k n) {t : FieldType} {v : Value} {k' n' : Nat} (hret : ret = some t) (ht : t.isReference = true) (hv : v.isRef = true) (hd : decode bytes pc = .ok (.areturn, 1)) (hk : k ≤ k') (hn : n ≤ n') (hQ : Q (some v) h) : Go p.tables e below (Out Z s Q k' n') T (mkF m pc ls (v :: st)) :=
  go_end B W (fun q => by rw [hret] at q; cases q) hQ hk hn fun _ _ X hr => retOut X B.1 (B.2.2.2.2.2.1.trans hret) (nar_ref ht) (Or.inr (Or.inr (Or.inr (Or.inr ⟨rfl, ht, hv⟩)))) (hb B.2.2.2.1 hd) hr
theorem r_v (B : Bdy p Z s m meth c own bytes maxL none nm) (W : Wk p l e R s m args below meth c Z T h k n) {k' n' : Nat} (hd : decode bytes pc = .ok (.return_, 1)) (hk : k ≤ k') (hn : n ≤ n') (hQ : Q none h) : Go p.tables e below (Out Z s Q k' n') T (mkF m pc ls []) :=
  go_end B W (fun _ => rfl) hQ hk hn fun _ _ X hr => X.returnOut B.1 B.2.2.2.2.2.1 (hb B.2.2.2.1 hd) hr
theorem r_l (B : Bdy p Z s m meth c own bytes maxL (some .long) nm) (W : Wk p l e R s m args below meth c Z T h k n) {z : Int64} {k' n' : Nat} (hd : decode bytes pc = .ok (.lreturn, 1)) (hk : k ≤ k') (hn : n ≤ n') (hQ : Q (some (.long z)) h) : Go p.tables e below (Out Z s Q k' n') T (mkF m pc ls (.long z :: st)) :=
  go_end B W (fun q => by cases q) hQ hk hn fun _ _ X hr => retOut X B.1 B.2.2.2.2.2.1 rfl (Or.inr (Or.inl ⟨rfl, rfl, _, rfl⟩)) (hb B.2.2.2.1 hd) hr
/-! ### plain steps -/
theorem g_aload_n (B : Bdy p Z s m meth c own bytes maxL ret nm) (W : Wk p l e R s m args below meth c Z T h k n) {i : Fin 4} {v : Value} (hd : decode bytes pc = .ok (.aload_n i, 1)) (hl : ls[i.val]? = some (.val v)) (hv : v.isRef = true) (q : Go p.tables e below G T (mkF m (pc + 1) ls (v :: st))) : Go p.tables e below G T (mkF m pc ls st) := by
  obtain ⟨_, X, -⟩ := W
  exact Go.by (fun t q => XS.aloadN X.here B.1 rfl (hb B.2.2.2.1 hd) hl hv q) q
theorem g_aload (B : Bdy p Z s m meth c own bytes maxL ret nm) (W : Wk p l e R s m args below meth c Z T h k n) {i : Nat} {v : Value} (hd : decode bytes pc = .ok (.aload i, 2)) (hl : ls[i]? = some (.val v)) (hv : v.isRef = true) (q : Go p.tables e below G T (mkF m (pc + 2) ls (v :: st))) : Go p.tables e below G T (mkF m pc ls st) := by
  obtain ⟨_, X, -⟩ := W
  exact Go.by (fun t q => XS.aload X.here B.1 rfl (hb B.2.2.2.1 hd) hl hv q) q
theorem g_iload_n (B : Bdy p Z s m meth c own bytes maxL ret nm) (W : Wk p l e R s m args below meth c Z T h k n) {i : Fin 4} {v : Int32} (hd : decode bytes pc = .ok (.iload_n i, 1)) (hl : ls[i.val]? = some (.val (.int v))) (q : Go p.tables e below G T (mkF m (pc + 1) ls (.int v :: st))) : Go p.tables e below G T (mkF m pc ls st) := by
  obtain ⟨_, X, -⟩ := W
  exact Go.by (fun t q => XS.iloadN X.here B.1 rfl (hb B.2.2.2.1 hd) hl q) q
theorem g_iload (B : Bdy p Z s m meth c own bytes maxL ret nm) (W : Wk p l e R s m args below meth c Z T h k n) {i : Nat} {v : Int32} (hd : decode bytes pc = .ok (.iload i, 2)) (hl : ls[i]? = some (.val (.int v))) (q : Go p.tables e below G T (mkF m (pc + 2) ls (.int v :: st))) : Go p.tables e below G T (mkF m pc ls st) := by
  obtain ⟨_, X, -⟩ := W
  exact Go.by (fun t q => XS.iload X.here B.1 rfl (hb B.2.2.2.1 hd) hl q) q
theorem g_lload_n (B : Bdy p Z s m meth c own bytes maxL ret nm) (W : Wk p l e R s m args below meth c Z T h k n) {i : Fin 4} {v : Int64} (hd : decode bytes pc = .ok (.lload_n i, 1)) (hl : ls[i.val]? = some (.val (.long v))) (q : Go p.tables e below G T (mkF m (pc + 1) ls (.long v :: st))) : Go p.tables e below G T (mkF m pc ls st) := by
  obtain ⟨_, X, -⟩ := W
  exact Go.by (fun t q => XT.lloadN X.here B.1 rfl (hb B.2.2.2.1 hd) hl q) q
theorem g_lload (B : Bdy p Z s m meth c own bytes maxL ret nm) (W : Wk p l e R s m args below meth c Z T h k n) {i : Nat} {v : Int64} (hd : decode bytes pc = .ok (.lload i, 2)) (hl : ls[i]? = some (.val (.long v))) (q : Go p.tables e below G T (mkF m (pc + 2) ls (.long v :: st))) : Go p.tables e below G T (mkF m pc ls st) := by
  obtain ⟨_, X, -⟩ := W
  exact Go.by (fun t q => XT.lload X.here B.1 rfl (hb B.2.2.2.1 hd) hl q) q
theorem g_istore_n (B : Bdy p Z s m meth c own bytes maxL ret nm) (W : Wk p l e R s m args below meth c Z T h k n) {i : Fin 4} {v : Int32} {l' : Array Slot} (hd : decode bytes pc = .ok (.istore_n i, 1)) (hl : storeLocals ls i.val (.int v) = some l') (q : Go p.tables e below G T (mkF m (pc + 1) l' st)) : Go p.tables e below G T (mkF m pc ls (.int v :: st)) := by
  obtain ⟨_, X, -⟩ := W
  exact Go.by (fun t q => XS.istoreN X.here B.1 rfl (hb B.2.2.2.1 hd) rfl hl q) q
theorem g_istore (B : Bdy p Z s m meth c own bytes maxL ret nm) (W : Wk p l e R s m args below meth c Z T h k n) {i : Nat} {v : Int32} {l' : Array Slot} (hd : decode bytes pc = .ok (.istore i, 2)) (hl : storeLocals ls i (.int v) = some l') (q : Go p.tables e below G T (mkF m (pc + 2) l' st)) : Go p.tables e below G T (mkF m pc ls (.int v :: st)) := by
  obtain ⟨_, X, -⟩ := W
  exact Go.by (fun t q => XS.istore X.here B.1 rfl (hb B.2.2.2.1 hd) rfl hl q) q
theorem g_lstore_n (B : Bdy p Z s m meth c own bytes maxL ret nm) (W : Wk p l e R s m args below meth c Z T h k n) {i : Fin 4} {v : Int64} {l' : Array Slot} (hd : decode bytes pc = .ok (.lstore_n i, 1)) (hl : storeLocals ls i.val (.long v) = some l') (q : Go p.tables e below G T (mkF m (pc + 1) l' st)) : Go p.tables e below G T (mkF m pc ls (.long v :: st)) := by
  obtain ⟨_, X, -⟩ := W
  exact Go.by (fun t q => XT.lstoreN X.here B.1 rfl (hb B.2.2.2.1 hd) rfl hl q) q
theorem g_lstore (B : Bdy p Z s m meth c own bytes maxL ret nm) (W : Wk p l e R s m args below meth c Z T h k n) {i : Nat} {v : Int64} {l' : Array Slot} (hd : decode bytes pc = .ok (.lstore i, 2)) (hl : storeLocals ls i (.long v) = some l') (q : Go p.tables e below G T (mkF m (pc + 2) l' st)) : Go p.tables e below G T (mkF m pc ls (.long v :: st)) := by
  obtain ⟨_, X, -⟩ := W
  exact Go.by (fun t q => XT.lstore X.here B.1 rfl (hb B.2.2.2.1 hd) rfl hl q) q
theorem g_astore_n (B : Bdy p Z s m meth c own bytes maxL ret nm) (W : Wk p l e R s m args below meth c Z T h k n) {i : Fin 4} {v : Value} {l' : Array Slot} (hd : decode bytes pc = .ok (.astore_n i, 1)) (hv : v.isRef = true) (hl : storeLocals ls i.val v = some l') (q : Go p.tables e below G T (mkF m (pc + 1) l' st)) : Go p.tables e below G T (mkF m pc ls (v :: st)) := by
  obtain ⟨_, X, -⟩ := W
  exact Go.by (fun t q => XS.astoreN X.here B.1 rfl (hb B.2.2.2.1 hd) rfl hv hl q) q
theorem g_astore (B : Bdy p Z s m meth c own bytes maxL ret nm) (W : Wk p l e R s m args below meth c Z T h k n) {i : Nat} {v : Value} {l' : Array Slot} (hd : decode bytes pc = .ok (.astore i, 2)) (hv : v.isRef = true) (hl : storeLocals ls i v = some l') (q : Go p.tables e below G T (mkF m (pc + 2) l' st)) : Go p.tables e below G T (mkF m pc ls (v :: st)) := by
  obtain ⟨_, X, -⟩ := W
  exact Go.by (fun t q => XS.astore X.here B.1 rfl (hb B.2.2.2.1 hd) rfl hv hl q) q
theorem g_iconst (B : Bdy p Z s m meth c own bytes maxL ret nm) (W : Wk p l e R s m args below meth c Z T h k n) {i : Int} {v : Int32} (hd : decode bytes pc = .ok (.iconst i, 1)) (hv : Int32.ofInt i = v) (q : Go p.tables e below G T (mkF m (pc + 1) ls (.int v :: st))) : Go p.tables e below G T (mkF m pc ls st) := by
  obtain ⟨_, X, -⟩ := W
  exact Go.by (fun t q => XT.iconstV X.here B.1 rfl _ (hb B.2.2.2.1 hd) hv q) q
theorem g_bipush (B : Bdy p Z s m meth c own bytes maxL ret nm) (W : Wk p l e R s m args below meth c Z T h k n) {i : Int} {v : Int32} (hd : decode bytes pc = .ok (.bipush i, 2)) (hv : (Int8.ofInt i).toInt32 = v) (q : Go p.tables e below G T (mkF m (pc + 2) ls (.int v :: st))) : Go p.tables e below G T (mkF m pc ls st) := by
  obtain ⟨_, X, -⟩ := W
  exact Go.by (fun t q => XT.bipushV X.here B.1 rfl _ (hb B.2.2.2.1 hd) hv q) q
theorem g_sipush (B : Bdy p Z s m meth c own bytes maxL ret nm) (W : Wk p l e R s m args below meth c Z T h k n) {i : Int} {v : Int32} (hd : decode bytes pc = .ok (.sipush i, 3)) (hv : (Int16.ofInt i).toInt32 = v) (q : Go p.tables e below G T (mkF m (pc + 3) ls (.int v :: st))) : Go p.tables e below G T (mkF m pc ls st) := by
  obtain ⟨_, X, -⟩ := W
  exact Go.by (fun t q => XT.sipushV X.here B.1 rfl _ (hb B.2.2.2.1 hd) hv q) q
theorem g_lconst (B : Bdy p Z s m meth c own bytes maxL ret nm) (W : Wk p l e R s m args below meth c Z T h k n) {i : Fin 2} {v : Int64} (hd : decode bytes pc = .ok (.lconst i, 1)) (hv : Int64.ofNat i = v) (q : Go p.tables e below G T (mkF m (pc + 1) ls (.long v :: st))) : Go p.tables e below G T (mkF m pc ls st) := by
  obtain ⟨_, X, -⟩ := W
  exact Go.by (fun t q => XT.lconstV X.here B.1 rfl _ (hb B.2.2.2.1 hd) hv q) q
theorem g_aconst_null (B : Bdy p Z s m meth c own bytes maxL ret nm) (W : Wk p l e R s m args below meth c Z T h k n)  (hd : decode bytes pc = .ok (.aconst_null, 1))  (q : Go p.tables e below G T (mkF m (pc + 1) ls (.null :: st))) : Go p.tables e below G T (mkF m pc ls st) := by
  obtain ⟨_, X, -⟩ := W
  exact Go.by (fun t q => XS.aconstNull X.here B.1 rfl (hb B.2.2.2.1 hd) q) q
theorem g_iadd (B : Bdy p Z s m meth c own bytes maxL ret nm) (W : Wk p l e R s m args below meth c Z T h k n) {x y : Int32} (hd : decode bytes pc = .ok (.iadd, 1))  (q : Go p.tables e below G T (mkF m (pc + 1) ls (.int (x + y) :: st))) : Go p.tables e below G T (mkF m pc ls (.int y :: .int x :: st)) := by
  obtain ⟨_, X, -⟩ := W
  exact Go.by (fun t q => XS.iadd X.here B.1 rfl (hb B.2.2.2.1 hd) rfl q) q
theorem g_isub (B : Bdy p Z s m meth c own bytes maxL ret nm) (W : Wk p l e R s m args below meth c Z T h k n) {x y : Int32} (hd : decode bytes pc = .ok (.isub, 1))  (q : Go p.tables e below G T (mkF m (pc + 1) ls (.int (x - y) :: st))) : Go p.tables e below G T (mkF m pc ls (.int y :: .int x :: st)) := by
  obtain ⟨_, X, -⟩ := W
  exact Go.by (fun t q => XS.isub X.here B.1 rfl (hb B.2.2.2.1 hd) rfl q) q
theorem g_iand (B : Bdy p Z s m meth c own bytes maxL ret nm) (W : Wk p l e R s m args below meth c Z T h k n) {x y : Int32} (hd : decode bytes pc = .ok (.iand, 1))  (q : Go p.tables e below G T (mkF m (pc + 1) ls (.int (x &&& y) :: st))) : Go p.tables e below G T (mkF m pc ls (.int y :: .int x :: st)) := by
  obtain ⟨_, X, -⟩ := W
  exact Go.by (fun t q => XS.iand X.here B.1 rfl (hb B.2.2.2.1 hd) rfl q) q
theorem g_imul (B : Bdy p Z s m meth c own bytes maxL ret nm) (W : Wk p l e R s m args below meth c Z T h k n) {x y : Int32} (hd : decode bytes pc = .ok (.imul, 1))  (q : Go p.tables e below G T (mkF m (pc + 1) ls (.int (x * y) :: st))) : Go p.tables e below G T (mkF m pc ls (.int y :: .int x :: st)) := by
  obtain ⟨_, X, -⟩ := W
  exact Go.by (fun t q => XS.imul X.here B.1 rfl (hb B.2.2.2.1 hd) rfl q) q
theorem g_ior (B : Bdy p Z s m meth c own bytes maxL ret nm) (W : Wk p l e R s m args below meth c Z T h k n) {x y : Int32} (hd : decode bytes pc = .ok (.ior, 1))  (q : Go p.tables e below G T (mkF m (pc + 1) ls (.int (x ||| y) :: st))) : Go p.tables e below G T (mkF m pc ls (.int y :: .int x :: st)) := by
  obtain ⟨_, X, -⟩ := W
  exact Go.by (fun t q => XT.ior X.here B.1 rfl (hb B.2.2.2.1 hd) rfl q) q
theorem g_ixor (B : Bdy p Z s m meth c own bytes maxL ret nm) (W : Wk p l e R s m args below meth c Z T h k n) {x y : Int32} (hd : decode bytes pc = .ok (.ixor, 1))  (q : Go p.tables e below G T (mkF m (pc + 1) ls (.int (x ^^^ y) :: st))) : Go p.tables e below G T (mkF m pc ls (.int y :: .int x :: st)) := by
  obtain ⟨_, X, -⟩ := W
  exact Go.by (fun t q => XT.ixor X.here B.1 rfl (hb B.2.2.2.1 hd) rfl q) q
theorem g_iushr (B : Bdy p Z s m meth c own bytes maxL ret nm) (W : Wk p l e R s m args below meth c Z T h k n) {x y : Int32} (hd : decode bytes pc = .ok (.iushr, 1))  (q : Go p.tables e below G T (mkF m (pc + 1) ls (.int (XT.ushr x y) :: st))) : Go p.tables e below G T (mkF m pc ls (.int y :: .int x :: st)) := by
  obtain ⟨_, X, -⟩ := W
  exact Go.by (fun t q => XT.iushr X.here B.1 rfl (hb B.2.2.2.1 hd) rfl q) q
theorem g_idiv (B : Bdy p Z s m meth c own bytes maxL ret nm) (W : Wk p l e R s m args below meth c Z T h k n) {x y : Int32} (hd : decode bytes pc = .ok (.idiv, 1)) (hy : y ≠ 0) (q : Go p.tables e below G T (mkF m (pc + 1) ls (.int (x / y) :: st))) : Go p.tables e below G T (mkF m pc ls (.int y :: .int x :: st)) := by
  obtain ⟨_, X, -⟩ := W
  exact Go.by (fun t q => XS.idiv X.here B.1 rfl (hb B.2.2.2.1 hd) rfl hy q) q
theorem g_irem (B : Bdy p Z s m meth c own bytes maxL ret nm) (W : Wk p l e R s m args below meth c Z T h k n) {x y : Int32} (hd : decode bytes pc = .ok (.irem, 1)) (hy : y ≠ 0) (q : Go p.tables e below G T (mkF m (pc + 1) ls (.int (x % y) :: st))) : Go p.tables e below G T (mkF m pc ls (.int y :: .int x :: st))   := by
  obtain ⟨_, X, -⟩ := W
  exact Go.by (fun t q => iremM X B.1 rfl (hb B.2.2.2.1 hd) rfl hy q) q
theorem g_ineg (B : Bdy p Z s m meth c own bytes maxL ret nm) (W : Wk p l e R s m args below meth c Z T h k n) {x : Int32} (hd : decode bytes pc = .ok (.ineg, 1))  (q : Go p.tables e below G T (mkF m (pc + 1) ls (.int (-x) :: st))) : Go p.tables e below G T (mkF m pc ls (.int x :: st)) := by
  obtain ⟨_, X, -⟩ := W
  exact Go.by (fun t q => XS.ineg X.here B.1 rfl (hb B.2.2.2.1 hd) rfl q) q
theorem g_i2c (B : Bdy p Z s m meth c own bytes maxL ret nm) (W : Wk p l e R s m args below meth c Z T h k n) {x : Int32} (hd : decode bytes pc = .ok (.i2c, 1))  (q : Go p.tables e below G T (mkF m (pc + 1) ls (.int x.toUInt32.toUInt16.toUInt32.toInt32 :: st))) : Go p.tables e below G T (mkF m pc ls (.int x :: st)) := by
  obtain ⟨_, X, -⟩ := W
  exact Go.by (fun t q => XT.i2c X.here B.1 rfl (hb B.2.2.2.1 hd) rfl q) q
theorem g_i2b (B : Bdy p Z s m meth c own bytes maxL ret nm) (W : Wk p l e R s m args below meth c Z T h k n) {x : Int32} (hd : decode bytes pc = .ok (.i2b, 1))  (q : Go p.tables e below G T (mkF m (pc + 1) ls (.int x.toInt8.toInt32 :: st))) : Go p.tables e below G T (mkF m pc ls (.int x :: st)) := by
  obtain ⟨_, X, -⟩ := W
  exact Go.by (fun t q => XT.i2b X.here B.1 rfl (hb B.2.2.2.1 hd) rfl q) q
theorem g_i2l (B : Bdy p Z s m meth c own bytes maxL ret nm) (W : Wk p l e R s m args below meth c Z T h k n) {x : Int32} (hd : decode bytes pc = .ok (.i2l, 1))  (q : Go p.tables e below G T (mkF m (pc + 1) ls (.long x.toInt64 :: st))) : Go p.tables e below G T (mkF m pc ls (.int x :: st)) := by
  obtain ⟨_, X, -⟩ := W
  exact Go.by (fun t q => XT.i2l X.here B.1 rfl (hb B.2.2.2.1 hd) rfl q) q
theorem g_l2i (B : Bdy p Z s m meth c own bytes maxL ret nm) (W : Wk p l e R s m args below meth c Z T h k n) {x : Int64} (hd : decode bytes pc = .ok (.l2i, 1))  (q : Go p.tables e below G T (mkF m (pc + 1) ls (.int x.toInt32 :: st))) : Go p.tables e below G T (mkF m pc ls (.long x :: st)) := by
  obtain ⟨_, X, -⟩ := W
  exact Go.by (fun t q => XT.l2i X.here B.1 rfl (hb B.2.2.2.1 hd) rfl q) q
theorem g_land (B : Bdy p Z s m meth c own bytes maxL ret nm) (W : Wk p l e R s m args below meth c Z T h k n) {x y : Int64} (hd : decode bytes pc = .ok (.land, 1))  (q : Go p.tables e below G T (mkF m (pc + 1) ls (.long (x &&& y) :: st))) : Go p.tables e below G T (mkF m pc ls (.long y :: .long x :: st)) := by
  obtain ⟨_, X, -⟩ := W
  exact Go.by (fun t q => XT.land X.here B.1 rfl (hb B.2.2.2.1 hd) rfl q) q
theorem g_ladd (B : Bdy p Z s m meth c own bytes maxL ret nm) (W : Wk p l e R s m args below meth c Z T h k n) {x y : Int64} (hd : decode bytes pc = .ok (.ladd, 1))  (q : Go p.tables e below G T (mkF m (pc + 1) ls (.long (x + y) :: st))) : Go p.tables e below G T (mkF m pc ls (.long y :: .long x :: st)) := by
  obtain ⟨_, X, -⟩ := W
  exact Go.by (fun t q => XT.ladd X.here B.1 rfl (hb B.2.2.2.1 hd) rfl q) q
theorem g_lcmp (B : Bdy p Z s m meth c own bytes maxL ret nm) (W : Wk p l e R s m args below meth c Z T h k n) {x y : Int64} (hd : decode bytes pc = .ok (.lcmp, 1))  (q : Go p.tables e below G T (mkF m (pc + 1) ls (.int (XT.cmpL x y) :: st))) : Go p.tables e below G T (mkF m pc ls (.long y :: .long x :: st)) := by
  obtain ⟨_, X, -⟩ := W
  exact Go.by (fun t q => XT.lcmp X.here B.1 rfl (hb B.2.2.2.1 hd) rfl q) q
theorem g_lushr (B : Bdy p Z s m meth c own bytes maxL ret nm) (W : Wk p l e R s m args below meth c Z T h k n) {x : Int64} {y : Int32} (hd : decode bytes pc = .ok (.lushr, 1))  (q : Go p.tables e below G T (mkF m (pc + 1) ls (.long (XT.ushrL x y) :: st))) : Go p.tables e below G T (mkF m pc ls (.int y :: .long x :: st)) := by
  obtain ⟨_, X, -⟩ := W
  exact Go.by (fun t q => XT.lushr X.here B.1 rfl (hb B.2.2.2.1 hd) rfl q) q
theorem g_iinc (B : Bdy p Z s m meth c own bytes maxL ret nm) (W : Wk p l e R s m args below meth c Z T h k n) {i : Nat} {cst : Int} {x v : Int32} {l' : Array Slot} (hd : decode bytes pc = .ok (.iinc i cst, 3)) (hv : Int32.ofInt cst = v) (hl : ls[i]? = some (.val (.int x))) (hl' : storeLocals ls i (.int (x + v)) = some l') (q : Go p.tables e below G T (mkF m (pc + 3) l' st)) : Go p.tables e below G T (mkF m pc ls st) := by
  obtain ⟨_, X, -⟩ := W
  exact Go.by (fun t q => XT.iincV X.here B.1 rfl _ (hb B.2.2.2.1 hd) hv hl hl' q) q
theorem g_dup (B : Bdy p Z s m meth c own bytes maxL ret nm) (W : Wk p l e R s m args below meth c Z T h k n) {v : Value} (hd : decode bytes pc = .ok (.dup, 1)) (hv : v.category = 1) (q : Go p.tables e below G T (mkF m (pc + 1) ls (v :: v :: st))) : Go p.tables e below G T (mkF m pc ls (v :: st)) := by
  obtain ⟨_, X, -⟩ := W
  exact Go.by (fun t q => XS.dup X.here B.1 rfl (hb B.2.2.2.1 hd) rfl hv q) q
theorem g_dup_x1 (B : Bdy p Z s m meth c own bytes maxL ret nm) (W : Wk p l e R s m args below meth c Z T h k n) {v w : Value} (hd : decode bytes pc = .ok (.dup_x1, 1)) (hv : v.category = 1) (hw' : w.category = 1) (q : Go p.tables e below G T (mkF m (pc + 1) ls (v :: w :: v :: st))) : Go p.tables e below G T (mkF m pc ls (v :: w :: st)) := by
  obtain ⟨_, X, -⟩ := W
  exact Go.by (fun t q => XT.dupX1 X.here B.1 rfl (hb B.2.2.2.1 hd) rfl hv hw' q) q
theorem g_pop (B : Bdy p Z s m meth c own bytes maxL ret nm) (W : Wk p l e R s m args below meth c Z T h k n) {v : Value} (hd : decode bytes pc = .ok (.pop, 1)) (hv : v.category = 1) (q : Go p.tables e below G T (mkF m (pc + 1) ls st)) : Go p.tables e below G T (mkF m pc ls (v :: st)) := by
  obtain ⟨_, X, -⟩ := W
  exact Go.by (fun t q => XT.pop X.here B.1 rfl (hb B.2.2.2.1 hd) rfl hv q) q
theorem g_goto (B : Bdy p Z s m meth c own bytes maxL ret nm) (W : Wk p l e R s m args below meth c Z T h k n)  {o : Int} {pc' : Nat} (hd : decode bytes pc = .ok (.goto o, 3))  (hp : (pc : Int) + o = (pc' : Int)) (q : Go p.tables e below G T (mkF m pc' ls st)) : Go p.tables e below G T (mkF m pc ls st)   := by
  obtain ⟨_, X, -⟩ := W
  exact Go.by (fun t q => XS.goto X.here B.1 rfl rfl (hb B.2.2.2.1 hd)  (by rw [hp]; exact Int.natCast_nonneg _) (by rw [hp]; exact Int.toNat_natCast _) q) q
theorem g_if_y (B : Bdy p Z s m meth c own bytes maxL ret nm) (W : Wk p l e R s m args below meth c Z T h k n) {cd : ClassFile.Cond} {x : Int32} {o : Int} {pc' : Nat} (hd : decode bytes pc = .ok (.ifCond cd o, 3)) (hc : ifCond.holds cd x = true) (hp : (pc : Int) + o = (pc' : Int)) (q : Go p.tables e below G T (mkF m pc' ls st)) : Go p.tables e below G T (mkF m pc ls (.int x :: st))   := by
  obtain ⟨_, X, -⟩ := W
  exact Go.by (fun t q => XS.ifYes X.here B.1 rfl rfl (hb B.2.2.2.1 hd) rfl hc (by rw [hp]; exact Int.natCast_nonneg _) (by rw [hp]; exact Int.toNat_natCast _) q) q
theorem g_if_n (B : Bdy p Z s m meth c own bytes maxL ret nm) (W : Wk p l e R s m args below meth c Z T h k n) {cd : ClassFile.Cond} {x : Int32} {o : Int} (hd : decode bytes pc = .ok (.ifCond cd o, 3)) (hc : ifCond.holds cd x = false) (q : Go p.tables e below G T (mkF m (pc + 3) ls st)) : Go p.tables e below G T (mkF m pc ls (.int x :: st))   := by
  obtain ⟨_, X, -⟩ := W
  exact Go.by (fun t q => XS.ifNo X.here B.1 rfl (hb B.2.2.2.1 hd) rfl hc q) q
theorem g_icmp_y (B : Bdy p Z s m meth c own bytes maxL ret nm) (W : Wk p l e R s m args below meth c Z T h k n) {cd : ClassFile.Cond} {x y : Int32} {o : Int} {pc' : Nat} (hd : decode bytes pc = .ok (.if_icmp cd o, 3)) (hc : if_icmp.holds cd x y = true) (hp : (pc : Int) + o = (pc' : Int)) (q : Go p.tables e below G T (mkF m pc' ls st)) : Go p.tables e below G T (mkF m pc ls (.int y :: .int x :: st))   := by
  obtain ⟨_, X, -⟩ := W
  exact Go.by (fun t q => XS.icmpYes X.here B.1 rfl rfl (hb B.2.2.2.1 hd) rfl hc (by rw [hp]; exact Int.natCast_nonneg _) (by rw [hp]; exact Int.toNat_natCast _) q) q
theorem g_icmp_n (B : Bdy p Z s m meth c own bytes maxL ret nm) (W : Wk p l e R s m args below meth c Z T h k n) {cd : ClassFile.Cond} {x y : Int32} {o : Int} (hd : decode bytes pc = .ok (.if_icmp cd o, 3)) (hc : if_icmp.holds cd x y = false) (q : Go p.tables e below G T (mkF m (pc + 3) ls st)) : Go p.tables e below G T (mkF m pc ls (.int y :: .int x :: st))   := by
  obtain ⟨_, X, -⟩ := W
  exact Go.by (fun t q => XS.icmpNo X.here B.1 rfl (hb B.2.2.2.1 hd) rfl hc q) q
theorem g_ifnull_y (B : Bdy p Z s m meth c own bytes maxL ret nm) (W : Wk p l e R s m args below meth c Z T h k n)  {o : Int} {pc' : Nat} (hd : decode bytes pc = .ok (.ifnull o, 3))  (hp : (pc : Int) + o = (pc' : Int)) (q : Go p.tables e below G T (mkF m pc' ls st)) : Go p.tables e below G T (mkF m pc ls (.null :: st))   := by
  obtain ⟨_, X, -⟩ := W
  exact Go.by (fun t q => XS.ifnullYes X.here B.1 rfl rfl (hb B.2.2.2.1 hd) rfl (by rw [hp]; exact Int.natCast_nonneg _) (by rw [hp]; exact Int.toNat_natCast _) q) q
theorem g_ifnull_n (B : Bdy p Z s m meth c own bytes maxL ret nm) (W : Wk p l e R s m args below meth c Z T h k n) {a : Addr} {o : Int} (hd : decode bytes pc = .ok (.ifnull o, 3))  (q : Go p.tables e below G T (mkF m (pc + 3) ls st)) : Go p.tables e below G T (mkF m pc ls (.ref a :: st))   := by
  obtain ⟨_, X, -⟩ := W
  exact Go.by (fun t q => XS.ifnullNo X.here B.1 rfl (hb B.2.2.2.1 hd) rfl q) q
theorem g_ifnonnull_y (B : Bdy p Z s m meth c own bytes maxL ret nm) (W : Wk p l e R s m args below meth c Z T h k n) {a : Addr} {o : Int} {pc' : Nat} (hd : decode bytes pc = .ok (.ifnonnull o, 3))  (hp : (pc : Int) + o = (pc' : Int)) (q : Go p.tables e below G T (mkF m pc' ls st)) : Go p.tables e below G T (mkF m pc ls (.ref a :: st))   := by
  obtain ⟨_, X, -⟩ := W
  exact Go.by (fun t q => XT.ifnonnullYes X.here B.1 rfl rfl (hb B.2.2.2.1 hd) rfl (by rw [hp]; exact Int.natCast_nonneg _) (by rw [hp]; exact Int.toNat_natCast _) q) q
theorem g_ifnonnull_n (B : Bdy p Z s m meth c own bytes maxL ret nm) (W : Wk p l e R s m args below meth c Z T h k n)  {o : Int} (hd : decode bytes pc = .ok (.ifnonnull o, 3))  (q : Go p.tables e below G T (mkF m (pc + 3) ls st)) : Go p.tables e below G T (mkF m pc ls (.null :: st))   := by
  obtain ⟨_, X, -⟩ := W
  exact Go.by (fun t q => XT.ifnonnullNo X.here B.1 rfl (hb B.2.2.2.1 hd) rfl q) q
theorem g_acmp_y (B : Bdy p Z s m meth c own bytes maxL ret nm) (W : Wk p l e R s m args below meth c Z T h k n) {cd : ClassFile.ACond} {x y : Value} {o : Int} {pc' : Nat} (hd : decode bytes pc = .ok (.if_acmp cd o, 3)) (hx' : x.isRef = true) (hy' : y.isRef = true) (hc : XT.acmp cd x y = true) (hp : (pc : Int) + o = (pc' : Int)) (q : Go p.tables e below G T (mkF m pc' ls st)) : Go p.tables e below G T (mkF m pc ls (y :: x :: st))   := by
  obtain ⟨_, X, -⟩ := W
  exact Go.by (fun t q => XT.acmpYes X.here B.1 rfl rfl (hb B.2.2.2.1 hd) rfl hx' hy' hc (by rw [hp]; exact Int.natCast_nonneg _) (by rw [hp]; exact Int.toNat_natCast _) q) q
theorem g_acmp_n (B : Bdy p Z s m meth c own bytes maxL ret nm) (W : Wk p l e R s m args below meth c Z T h k n) {cd : ClassFile.ACond} {x y : Value} {o : Int} (hd : decode bytes pc = .ok (.if_acmp cd o, 3)) (hx' : x.isRef = true) (hy' : y.isRef = true) (hc : XT.acmp cd x y = false) (q : Go p.tables e below G T (mkF m (pc + 3) ls st)) : Go p.tables e below G T (mkF m pc ls (y :: x :: st))   := by
  obtain ⟨_, X, -⟩ := W
  exact Go.by (fun t q => XT.acmpNo X.here B.1 rfl (hb B.2.2.2.1 hd) rfl hx' hy' hc q) q
theorem g_dia (P : Prop) [Decidable P] {tb : Tables} {F : JFrame} {pc' : Nat} (h1 : P → Go tb e below G T (mkF m pc' ls (.int 1 :: st)) → Go tb e below G T F) (h0 : ¬ P → Go tb e below G T (mkF m pc' ls (.int 0 :: st)) → Go tb e below G T F) (q : Go tb e below G T (mkF m pc' ls (.int (bi (decide P)) :: st))) : Go tb e below G T F := by
  by_cases hp : P
  · rw [decide_eq_true hp] at q; exact h1 hp q
  · rw [decide_eq_false hp] at q; exact h0 hp q
theorem g_diab (b : Bool) {tb : Tables} {F : JFrame} {pc' : Nat} (h1 : b = true → Go tb e below G T (mkF m pc' ls (.int 1 :: st)) → Go tb e below G T F) (h0 : b = false → Go tb e below G T (mkF m pc' ls (.int 0 :: st)) → Go tb e below G T F) (q : Go tb e below G T (mkF m pc' ls (.int (bi b) :: st))) : Go tb e below G T F := by
  cases b
  · exact h0 rfl q
  · exact h1 rfl q
theorem g_ldcI (B : Bdy p Z s m meth c own bytes maxL ret nm) (W : Wk p l e R s m args below meth c Z T h k n) {i : Nat} {v : Int32} (hd : decode bytes pc = .ok (.ldc i, 2)) (w : (Cond.constant own i v).before a0 Z = true) (q : Go p.tables e below G T (mkF m (pc + 2) ls (.int v :: st))) : Go p.tables e below G T (mkF m pc ls st) := by
  obtain ⟨_, X, -⟩ := W
  exact Go.by (fun t q => X.ldcI B.1 B.2.2.1 (mv B.2.1 w) rfl (hb B.2.2.2.1 hd) q) q
theorem g_ldcL (B : Bdy p Z s m meth c own bytes maxL ret nm) (W : Wk p l e R s m args below meth c Z T h k n) {i : Nat} {v : Int64} (hd : decode bytes pc = .ok (.ldc2_w i, 3)) (w : (Cond.constantLong own i v).before a0 Z = true) (q : Go p.tables e below G T (mkF m (pc + 3) ls (.long v :: st))) : Go p.tables e below G T (mkF m pc ls st) := by
  obtain ⟨_, X, -⟩ := W
  exact Go.by (fun t q => X.ldc2J B.1 B.2.2.1 (mv B.2.1 w) rfl (hb B.2.2.2.1 hd) q) q
/-! ### the heap's steps -/
theorem x_new (B : Bdy p Z s m meth c own bytes maxL ret nm) (W : Wk p l e R s m args below meth c Z T h k n) {C : String} {i sz : Nat} (hd : decode bytes pc = .ok (.new i, 3)) (w : (Cond.classLink own i C).before a0 Z = true) (wi : (Cond.instantiable C sz).before a0 Z = true) (wz : (Cond.initialized C).before a0 Z = true) (hc : k + 1 ≤ R.cells) (hl : n + sz ≤ R.slots) (ls : Array Slot) (st : List Value) :
    ∃ T' h' b, b = h.size ∧ Wk p l e R s m args below meth c Z T' h' (k + 1) (n + sz) ∧ Keep h h' [] ∧ Exa Z h' b C ∧ (∀ {O nf d : String} {ty : FieldType}, Laid Z a0 C O nf d → parseFieldDescriptor d = some ty → Fld Z h' b O nf d (defaultValue ty)) ∧
      (∀ G, Go p.tables e below G T' (mkF m (pc + 3) ls (.ref b :: st)) → Go p.tables e below G T (mkF m pc ls st)) := by
  obtain ⟨locs, X, eT, N, O⟩ := W
  obtain ⟨T', h', X', e', E', A', D', -, st'⟩ := newO X B.1 B.2.1 B.2.2.1 w wi wz eT (g := mkF m pc ls st) rfl (hb B.2.2.2.1 hd) hc hl
  exact ⟨T', h', _, rfl, ⟨locs, X', e', N, O.ext E'⟩, (Keep.refl h []).ext E', A', D', fun G q => Go.by st' q⟩
theorem x_init (B : Bdy p Z s m meth c own bytes maxL ret nm) (W : Wk p l e R s m args below meth c Z T h k n) {i : Nat} (hd : decode bytes pc = .ok (.invokespecial i, 3)) (w1 : (Cond.methodLink own i Lib.objectInit).before a0 Z = true) (w2 : (Cond.instanceMethod Lib.objectInit).before a0 Z = true)
    (w3 : (Cond.code Lib.objectInit ⟨#[0xb1]⟩ 1 none).before a0 Z = true) (b : Addr) (ls : Array Slot) (st : List Value) (hsz : ls.size = maxL) (V : Nat) (hV : (st.map fun v => v.category).sum = V) (hf : 1 ≤ R.frames) (hl : V + 12 ≤ R.locals) :
    ∃ T', Wk p l e R s m args below meth c Z T' h k n ∧ (∀ G, Go p.tables e below G T' (mkF m (pc + 3) ls st) → Go p.tables e below G T (mkF m pc ls (.ref b :: st))) := by
  obtain ⟨locs, X, eT, N, O⟩ := W
  obtain ⟨T', X', e', st'⟩ := initO X B.1 B.2.1 B.2.2.1 w1 w2 w3 eT (g := mkF m pc ls (.ref b :: st)) rfl (hsz.trans B.2.2.2.2.1.symm) rfl (hb B.2.2.2.1 hd) hf (W := V) (by show 2 * 0 + _ ≤ _; omega) hl
  exact ⟨T', ⟨locs, X', e', N, O⟩, fun G q => Go.by st' q⟩
theorem x_get (B : Bdy p Z s m meth c own bytes maxL ret nm) (W : Wk p l e R s m args below meth c Z T h k n) {R0 O nf d host : String} {i : Nat} {b : Addr} {v : Value} (hd : decode bytes pc = .ok (.getfield i, 3)) (w : (Cond.fieldLink own i R0 nf d).before a0 Z = true ∨ (Cond.fieldLinkNest own i R0 nf d host).before a0 Z = true) (via : Via Z R0 O nf d) (F : Fld Z h b O nf d v) (ls : Array Slot) (st : List Value) :
    ∃ T', Wk p l e R s m args below meth c Z T' h k n ∧ (∀ G, Go p.tables e below G T' (mkF m (pc + 3) ls (v :: st)) → Go p.tables e below G T (mkF m pc ls (.ref b :: st))) := by
  obtain ⟨locs, X, eT, N, O'⟩ := W
  obtain ⟨T', X', e', st'⟩ := getF X B.1 B.2.1 B.2.2.1 w via eT F (g := mkF m pc ls (.ref b :: st)) rfl rfl (hb B.2.2.2.1 hd)
  exact ⟨T', ⟨locs, X', e', N, O'⟩, fun G q => Go.by st' q⟩
theorem x_gets (B : Bdy p Z s m meth c own bytes maxL ret nm) (W : Wk p l e R s m args below meth c Z T h k n) {R0 O nf d host : String} {i : Nat} {v : Value} (hd : decode bytes pc = .ok (.getstatic i, 3)) (w : (Cond.fieldLink own i R0 nf d).before a0 Z = true ∨ (Cond.fieldLinkNest own i R0 nf d host).before a0 Z = true) (via : Via Z R0 O nf d) (F : Sta Z Z.heap O nf d v) (ls : Array Slot) (st : List Value) :
    ∃ T', Wk p l e R s m args below meth c Z T' h k n ∧ (∀ G, Go p.tables e below G T' (mkF m (pc + 3) ls (v :: st)) → Go p.tables e below G T (mkF m pc ls st)) := by
  obtain ⟨locs, X, eT, N, O'⟩ := W
  obtain ⟨T', X', e', st'⟩ := getS2 X B.1 B.2.1 B.2.2.1 w via eT (F.ext O'.2) (g := mkF m pc ls st) rfl (hb B.2.2.2.1 hd)
  exact ⟨T', ⟨locs, X', e', N, O'⟩, fun G q => Go.by st' q⟩
theorem x_put (B : Bdy p Z s m meth c own bytes maxL ret nm) (W : Wk p l e R s m args below meth c Z T h k n) {R0 O nf d C : String} {i kk : Nat} {ty : FieldType} {b : Addr} {v v' old : Value} (hd : decode bytes pc = .ok (.putfield i, 3)) (w : (Cond.fieldLink own i R0 nf d).before a0 Z = true) (via : Via Z R0 O nf d) (F : Fld Z h b O nf d old) (E : Exa Z h b C) (L : (Cond.lays C O nf d).before a0 Z = true ∨ ((Cond.laysFinal C O nf d).before a0 Z = true ∧ own = O ∧ nm = "<init>")) (wi : (Cond.instantiable C kk).before a0 Z = true)
    (hty : parseFieldDescriptor d = some ty) (hn : narrow ty v = v') (hf : fits ty v' = true) (hb' : Z.heap.size ≤ b) (ls : Array Slot) (st : List Value) :
    ∃ T' h', Wk p l e R s m args below meth c Z T' h' k n ∧ Keep h h' [b] ∧ Wr h h' b (RoadKit.slotOf Z O nf d) v' ∧ Fld Z h' b O nf d v' ∧ Exa Z h' b C ∧ (∀ G, Go p.tables e below G T' (mkF m (pc + 3) ls st) → Go p.tables e below G T (mkF m pc ls (v :: .ref b :: st))) := by
  obtain ⟨locs, X, eT, N, O'⟩ := W
  obtain ⟨T', h', X', e', W', st'⟩ := putFN X B.1 B.2.1 B.2.2.1 w via eT F E (L.imp id fun q => ⟨q.1, q.2.1, B.nameOf.trans q.2.2⟩) wi hty hn hf (g := mkF m pc ls (v :: .ref b :: st)) rfl rfl (hb B.2.2.2.1 hd)
  exact ⟨T', h', ⟨_, X', e', Fr.snoc X' N hb', O'.wr W' hb'⟩, Keep.of_wr W', W', F.same W', E.wr W', fun G q => Go.by st' q⟩
theorem x_instY (B : Bdy p Z s m meth c own bytes maxL ret nm) (W : Wk p l e R s m args below meth c Z T h k n) {K : String} {i : Nat} {b : Addr} (hd : decode bytes pc = .ok (.instanceof i, 3)) (w : (Cond.classLink own i K).before a0 Z = true) (F : Ins Z h b K true) (ls : Array Slot) (st : List Value) :
    ∃ T', Wk p l e R s m args below meth c Z T' h k n ∧ (∀ G, Go p.tables e below G T' (mkF m (pc + 3) ls (.int 1 :: st)) → Go p.tables e below G T (mkF m pc ls (.ref b :: st))) := by
  obtain ⟨locs, X, eT, N, O⟩ := W
  obtain ⟨T', X', e', st'⟩ := instY X B.1 B.2.1 B.2.2.1 w eT F (g := mkF m pc ls (.ref b :: st)) rfl rfl (hb B.2.2.2.1 hd)
  exact ⟨T', ⟨locs, X', e', N, O⟩, fun G q => Go.by st' q⟩
theorem x_instN (B : Bdy p Z s m meth c own bytes maxL ret nm) (W : Wk p l e R s m args below meth c Z T h k n) {K C : String} {i : Nat} {b : Addr} (hd : decode bytes pc = .ok (.instanceof i, 3)) (w : (Cond.classLink own i K).before a0 Z = true) (E : Exa Z h b C) (F : ∃ c t, Z.vm.findClass C = some c ∧ Z.vm.findClass K = some t ∧ Z.vm.assignable c t = false) (ls : Array Slot) (st : List Value) :
    ∃ T', Wk p l e R s m args below meth c Z T' h k n ∧ (∀ G, Go p.tables e below G T' (mkF m (pc + 3) ls (.int 0 :: st)) → Go p.tables e below G T (mkF m pc ls (.ref b :: st))) := by
  obtain ⟨locs, X, eT, N, O⟩ := W
  obtain ⟨T', X', e', st'⟩ := instNo X B.1 B.2.1 B.2.2.1 w eT E F (g := mkF m pc ls (.ref b :: st)) rfl rfl (hb B.2.2.2.1 hd)
  exact ⟨T', ⟨locs, X', e', N, O⟩, fun G q => Go.by st' q⟩
theorem x_castY (B : Bdy p Z s m meth c own bytes maxL ret nm) (W : Wk p l e R s m args below meth c Z T h k n) {K : String} {i : Nat} {b : Addr} (hd : decode bytes pc = .ok (.checkcast i, 3)) (w : (Cond.classLink own i K).before a0 Z = true) (F : Ins Z h b K true) (ls : Array Slot) (st : List Value) :
    ∃ T', Wk p l e R s m args below meth c Z T' h k n ∧ (∀ G, Go p.tables e below G T' (mkF m (pc + 3) ls (.ref b :: st)) → Go p.tables e below G T (mkF m pc ls (.ref b :: st))) := by
  obtain ⟨locs, X, eT, N, O⟩ := W
  obtain ⟨T', X', e', st'⟩ := castY X B.1 B.2.1 B.2.2.1 w eT F (g := mkF m pc ls (.ref b :: st)) rfl rfl (hb B.2.2.2.1 hd)
  exact ⟨T', ⟨locs, X', e', N, O⟩, fun G q => Go.by st' q⟩
/-! ### arrays -/
theorem x_newA (B : Bdy p Z s m meth c own bytes maxL ret nm) (W : Wk p l e R s m args below meth c Z T h k n) {aty : ArrayType} {z : Int32} (cap : Nat) (hd : decode bytes pc = .ok (.newarray aty, 2)) (w : (Cond.arrayClass (newarray.typeOf aty)).before a0 Z = true) (hn : ¬ z < 0) (hcap : z.toNatClampNeg ≤ cap) (hbg : cap * 8 ≤ 536870912) (hc : k + 1 ≤ R.cells) (hl : n + cap ≤ R.slots) (ls : Array Slot) (st : List Value) :
    ∃ T' h' b cA, b = h.size ∧ Wk p l e R s m args below meth c Z T' h' (k + 1) (n + cap) ∧ Keep h h' [] ∧ Arv Z h' b cA (newarray.typeOf aty) z (List.replicate cap (defaultValue (newarray.typeOf aty))) (defaultValue (newarray.typeOf aty)) ∧
      (∀ G, Go p.tables e below G T' (mkF m (pc + 2) ls (.ref b :: st)) → Go p.tables e below G T (mkF m pc ls (.int z :: st))) := by
  obtain ⟨locs, X, eT, N, O⟩ := W
  obtain ⟨T', h', cA, X', e', E', A', st'⟩ := newP X B.1 B.2.1 w eT (g := mkF m pc ls (.int z :: st)) rfl (hb B.2.2.2.1 hd) rfl hn hcap hbg hc hl
  exact ⟨T', h', _, cA, rfl, ⟨locs, X', e', N, O.ext E'⟩, (Keep.refl h []).ext E', (Arv.new A' hn).pad (vs' := [] ++ List.replicate cap _) (pad_rep [] _ cap), fun G q => Go.by st' q⟩
theorem arv_put {kc : ClassId} {ty : FieldType} {z j : Int32} {vs : List Value} {dv v : Value} {b : Addr} (F : Arv Z h b kc ty z vs dv) (hv : fits ty v = true) (hW : Wr h h' b j.toNatClampNeg v) (hi : j.toNatClampNeg < vs.length) : Arv Z h' b kc ty z (vs.set j.toNatClampNeg v) dv := by
  obtain ⟨cl, A, r1, r2, r3, H, Gf⟩ := F
  exact Arv.set A r1 r2 r3 H Gf hv hW _ rfl hi
theorem x_castore (B : Bdy p Z s m meth c own bytes maxL ret nm) (W : Wk p l e R s m args below meth c Z T h k n) {kc : ClassId} {z j x : Int32} {vs : List Value} {dv : Value} {b : Addr} (hd : decode bytes pc = .ok (.castore, 1)) (F : Arv Z h b kc .char z vs dv) (hj : ¬ j < 0 ∧ j < z) (hi : j.toNatClampNeg < vs.length) (hb' : Z.heap.size ≤ b) (ls : Array Slot) (st : List Value) :
    ∃ T' h', Wk p l e R s m args below meth c Z T' h' k n ∧ Keep h h' [b] ∧ Arv Z h' b kc .char z (vs.set j.toNatClampNeg (.int (nar .char x))) dv ∧ (∀ G, Go p.tables e below G T' (mkF m (pc + 1) ls st) → Go p.tables e below G T (mkF m pc ls (.int x :: .int j :: .ref b :: st))) := by
  obtain ⟨locs, X, eT, N, O⟩ := W
  have F' := F
  obtain ⟨cl, A, r1, r2, r3, Hs, Gf⟩ := F
  obtain ⟨T', h', X', e', W', st'⟩ := stC X B.1 B.2.1 eT A (inb_of r2 hj) (g := mkF m pc ls (.int x :: .int j :: .ref b :: st)) rfl rfl (hb B.2.2.2.1 hd)
  exact ⟨T', h', ⟨_, X', e', Fr.snoc X' N hb', O.wr W' hb'⟩, Keep.of_wr W', arv_put F' (fits_nar_char _) W' hi, fun G q => Go.by st' q⟩
theorem arv_read {kc : ClassId} {ty : FieldType} {z : Int32} {vs : List Value} {dv : Value} {b : Addr} (F : Arv Z h b kc ty z vs dv) {j : Int32} (hj : ¬ j < 0 ∧ j < z) {v : Value} (hv : vs.getD j.toNatClampNeg dv = v) : ∃ cl : Cell, Arr Z h b cl ty ∧ ¬ (j < 0 ∨ cl.slots.size ≤ j.toNatClampNeg) ∧ cl.slots[j.toNatClampNeg]? = some v := by
  obtain ⟨cl, A, r1, r2, r3, H, -⟩ := F
  exact ⟨cl, A, inb_of r2 hj, H.at (inb_of r2 hj) hv⟩
theorem g_caload (B : Bdy p Z s m meth c own bytes maxL ret nm) (W : Wk p l e R s m args below meth c Z T h k n) {kc : ClassId} {z j : Int32} {vs : List Value} {dv v : Value} {b : Addr} (hd : decode bytes pc = .ok (.caload, 1)) (F : Arv Z h b kc .char z vs dv) (hj : ¬ j < 0 ∧ j < z) (hv : vs.getD j.toNatClampNeg dv = v)
    (q : Go p.tables e below G T (mkF m (pc + 1) ls (v :: st))) : Go p.tables e below G T (mkF m pc ls (.int j :: .ref b :: st)) := by
  obtain ⟨locs, X, eT, N, O⟩ := W
  obtain ⟨cl, A, hin, hat⟩ := arv_read F hj hv
  exact Go.by (X.caload B.1 (by rw [eT]; exact A.1) (State.isArrayOf_alike B.2.1.alike A.2.1) A.2.2 hin hat (g := mkF m pc ls (.int j :: .ref b :: st)) rfl rfl (hb B.2.2.2.1 hd)) q
theorem g_caloadK (B : Bdy p Z s m meth c own bytes maxL ret nm) (W : Wk p l e R s m args below meth c Z T h k n) {j : Int32} {v : Value} {cl : Cell} {b : Addr} (hd : decode bytes pc = .ok (.caload, 1)) (A : Arr Z h b cl .char) (hin : ¬ (j < 0 ∨ cl.slots.size ≤ j.toNatClampNeg)) (hat : cl.slots[j.toNatClampNeg]? = some v)
    (q : Go p.tables e below G T (mkF m (pc + 1) ls (v :: st))) : Go p.tables e below G T (mkF m pc ls (.int j :: .ref b :: st)) := by
  obtain ⟨locs, X, eT, N, O⟩ := W
  exact Go.by (X.caload B.1 (by rw [eT]; exact A.1) (State.isArrayOf_alike B.2.1.alike A.2.1) A.2.2 hin hat (g := mkF m pc ls (.int j :: .ref b :: st)) rfl rfl (hb B.2.2.2.1 hd)) q
theorem g_alenK (B : Bdy p Z s m meth c own bytes maxL ret nm) (W : Wk p l e R s m args below meth c Z T h k n) {ty : FieldType} {z : Int32} {cl : Cell} {b : Addr} (hd : decode bytes pc = .ok (.arraylength, 1)) (A : Arr Z h b cl ty) (hz : cl.slots.size.toInt32 = z)
    (q : Go p.tables e below G T (mkF m (pc + 1) ls (.int z :: st))) : Go p.tables e below G T (mkF m pc ls (.ref b :: st)) := by
  obtain ⟨locs, X, eT, N, O⟩ := W
  refine Go.by (X.arraylength B.1 (by rw [eT]; exact A.1) (State.isArrayOf_alike B.2.1.alike A.2.1) (g := mkF m pc ls (.ref b :: st)) rfl rfl (hb B.2.2.2.1 hd)) ?_
  rw [hz]; exact q
theorem g_aalen (B : Bdy p Z s m meth c own bytes maxL ret nm) (W : Wk p l e R s m args below meth c Z T h k n) {kc : ClassId} {ty : FieldType} {z : Int32} {vs : List Value} {dv : Value} {b : Addr} (hd : decode bytes pc = .ok (.arraylength, 1)) (F : Arv Z h b kc ty z vs dv)
    (q : Go p.tables e below G T (mkF m (pc + 1) ls (.int z :: st))) : Go p.tables e below G T (mkF m pc ls (.ref b :: st)) := by
  obtain ⟨locs, X, eT, N, O⟩ := W
  obtain ⟨cl, A, r1, r2, r3, H, -⟩ := F
  refine Go.by (X.arraylength B.1 (by rw [eT]; exact A.1) (State.isArrayOf_alike B.2.1.alike A.2.1) (g := mkF m pc ls (.ref b :: st)) rfl rfl (hb B.2.2.2.1 hd)) ?_
  rw [len_of r2 r3]; exact q
theorem g_aaload (B : Bdy p Z s m meth c own bytes maxL ret nm) (W : Wk p l e R s m args below meth c Z T h k n) {ty : FieldType} {j : Int32} {v : Value} {cl : Cell} {b : Addr} (hd : decode bytes pc = .ok (.aaload, 1)) (A : Arr Z h b cl ty) (ht : ty.isReference = true) (hin : ¬ (j < 0 ∨ cl.slots.size ≤ j.toNatClampNeg)) (hat : cl.slots[j.toNatClampNeg]? = some v)
    (q : Go p.tables e below G T (mkF m (pc + 1) ls (v :: st))) : Go p.tables e below G T (mkF m pc ls (.int j :: .ref b :: st)) := by
  obtain ⟨locs, X, eT, N, O⟩ := W
  exact Go.by (X.aaload B.1 (by rw [eT]; exact A.1) (State.isArrayOf_alike B.2.1.alike A.2.1) ht A.2.2 hin hat (g := mkF m pc ls (.int j :: .ref b :: st)) rfl rfl (hb B.2.2.2.1 hd)) q
/-! ### calls -/
theorem backC {y : MethodName} {yb : ByteArray} {yL : Nat} {yr : Option FieldType} {rm : Room} {len V : Nat} {as' : Array Value} (C : Con l Z y yb yL yr [] rm as' h Q) (O : Old Z Z.heap.size h)
    (hZ : Z.Warmed39 s.vm) (wc : (Cond.code y yb yL yr).before a0 Z = true) (wz : (Cond.initialized y.cls).before a0 Z = true) (hf : rm.frames + 1 ≤ R.frames) (hl : V + (yL + 11) + rm.locals ≤ R.locals) :
    Back l R p e below s args y len V (fun A a => a = as' ∧ A.U.heap = h ∧ A.cells + rm.cells ≤ R.cells ∧ A.slots + rm.slots ≤ R.slots)
      (fun A _ v B => ∃ L, (Q v B.U.heap ∧ Fr Z.heap.size L ∧ Old Z Z.heap.size B.U.heap) ∧ B.locs = A.locs ++ L ∧ B.cells = A.cells + rm.cells ∧ B.slots = A.slots + rm.slots) :=
  backOf (Q := fun v h L => Q v h ∧ Fr Z.heap.size L ∧ Old Z Z.heap.size h) (C O) hZ wc wz hf hl
theorem x_static (B : Bdy p Z s m meth c own bytes maxL ret nm) (W : Wk p l e R s m args below meth c Z T h k n) {y : MethodName} {yb : ByteArray} {yL i : Nat} {yr : Option FieldType} {rm : Room} (argsL : List Value) (C : Con l Z y yb yL yr [] rm argsL.toArray h Q)
    (hd : decode bytes pc = .ok (.invokestatic i, 3)) (w1 : (Cond.methodLink own i y).before a0 Z = true) (w2 : (Cond.static y).before a0 Z = true) (wz : (Cond.initialized y.cls).before a0 Z = true) (wc : (Cond.code y yb yL yr).before a0 Z = true) (hy : y.cls ≠ "java/lang/invoke/MethodHandle" ∧ y.cls ≠ "java/lang/invoke/VarHandle")
    (hlen : ∀ sig, parseMethodDescriptor y.desc = some sig → argsL.length = sig.parameters.length) (ls : Array Slot) (st : List Value) (hsz : ls.size = maxL) (V : Nat) (hV : (st.map fun v => v.category).sum = V) (hf : rm.frames + 1 ≤ R.frames) (hl : V + (yL + 11) + rm.locals ≤ R.locals) (hc : k + rm.cells ≤ R.cells) (hs : n + rm.slots ≤ R.slots) :
    ∃ T' h' v, Wk p l e R s m args below meth c Z T' h' (k + rm.cells) (n + rm.slots) ∧ Q v h' ∧ (∀ G, Go p.tables e below G T' (mkF m (pc + 3) ls (v.toList ++ st)) → Go p.tables e below G T (mkF m pc ls (argsL.reverse ++ st))) := by
  obtain ⟨locs, X, eT, N, O⟩ := W
  obtain ⟨v, _, ⟨T', L', k', n'⟩, -, X', ⟨Lc, hQ, l1, l2, l3⟩, st'⟩ := Jvm.LawKit.callS X B.1 (y := y) B.2.2.1 (mvT B.2.1 w1) (mvT B.2.1 w2) (mvT B.2.1 wz) (mvT B.2.1 wc) hy (backC (V := V) C O B.2.1 wc wz hf hl) (g := mkF m pc ls (argsL.reverse ++ st)) rfl (hsz.trans B.2.2.2.2.1.symm) (argsL := argsL) (rest := st) hlen rfl (by show 2 * 0 + _ ≤ _; omega) (hb B.2.2.2.1 hd) (fun _ _ => ⟨rfl, eT, hc, hs⟩)
  dsimp only [Pt.U, Pt.locs, Pt.cells, Pt.slots] at X' l1 l2 l3 st' hQ
  subst l1 l2 l3
  exact ⟨T', T'.heap, v, ⟨_, X', rfl, N.app hQ.2.1, hQ.2.2⟩, hQ.1, fun G q => Go.by st' q⟩
theorem x_special (B : Bdy p Z s m meth c own bytes maxL ret nm) (W : Wk p l e R s m args below meth c Z T h k n) {y : MethodName} {yb : ByteArray} {yL i : Nat} {rm : Room} {b : Addr} (argsL : List Value) (C : Con l Z y yb yL none [] rm (.ref b :: argsL).toArray h Q)
    (hd : decode bytes pc = .ok (.invokespecial i, 3)) (hy1 : y.name = "<init>") (w1 : (Cond.methodLink own i y).before a0 Z = true) (w2 : (Cond.instanceMethod y).before a0 Z = true) (wz : (Cond.initialized y.cls).before a0 Z = true) (wc : (Cond.code y yb yL none).before a0 Z = true) (hy : y.cls ≠ "java/lang/invoke/MethodHandle" ∧ y.cls ≠ "java/lang/invoke/VarHandle")
    (hlen : ∀ sig, parseMethodDescriptor y.desc = some sig → argsL.length = sig.parameters.length) (ls : Array Slot) (st : List Value) (hsz : ls.size = maxL) (V : Nat) (hV : (st.map fun v => v.category).sum = V) (hf : rm.frames + 1 ≤ R.frames) (hl : V + (yL + 11) + rm.locals ≤ R.locals) (hc : k + rm.cells ≤ R.cells) (hs : n + rm.slots ≤ R.slots) :
    ∃ T' h' v, Wk p l e R s m args below meth c Z T' h' (k + rm.cells) (n + rm.slots) ∧ Q v h' ∧ (∀ G, Go p.tables e below G T' (mkF m (pc + 3) ls (v.toList ++ st)) → Go p.tables e below G T (mkF m pc ls (argsL.reverse ++ .ref b :: st))) := by
  obtain ⟨locs, X, eT, N, O⟩ := W
  obtain ⟨v, _, ⟨T', L', k', n'⟩, -, X', ⟨Lc, hQ, l1, l2, l3⟩, st'⟩ := X.specialBack B.1 (y := y) hy1 B.2.2.1 (mvT B.2.1 w1) (mvT B.2.1 w2) (mvT B.2.1 wc) hy (backC (V := V) C O B.2.1 wc wz hf hl) (g := mkF m pc ls (argsL.reverse ++ .ref b :: st)) rfl (hsz.trans B.2.2.2.2.1.symm) (Steps.refl _) (a := b) (argsL := argsL) (rest := st) hlen rfl (by show 2 * 0 + _ ≤ _; omega) (hb B.2.2.2.1 hd) (fun _ _ => ⟨rfl, eT, hc, hs⟩)
  dsimp only [Pt.U, Pt.locs, Pt.cells, Pt.slots] at X' l1 l2 l3 st' hQ
  subst l1 l2 l3
  exact ⟨T', T'.heap, v, ⟨_, X', rfl, N.app hQ.2.1, hQ.2.2⟩, hQ.1, fun G q => Go.by (fun t q => st'.trans q) q⟩
theorem x_virtual (B : Bdy p Z s m meth c own bytes maxL ret nm) (W : Wk p l e R s m args below meth c Z T h k n) {y : MethodName} {yb : ByteArray} {yL i : Nat} {yr : Option FieldType} {rm : Room} {b : Addr} {D : String} (argsL : List Value) (C : Con l Z y yb yL yr [] rm (.ref b :: argsL).toArray h Q) (E : Exa Z h b D)
    (hd : decode bytes pc = .ok (.invokevirtual i, 3)) (w1 : (Cond.methodLink own i y).before a0 Z = true) (w2 : (Cond.declares y).before a0 Z = true) (w3 : (Cond.selects D y y).before a0 Z = true) (w4 : (Cond.instanceMethod y).before a0 Z = true) (wz : (Cond.initialized y.cls).before a0 Z = true) (wc : (Cond.code y yb yL yr).before a0 Z = true) (hy : y.cls ≠ "java/lang/invoke/MethodHandle" ∧ y.cls ≠ "java/lang/invoke/VarHandle")
    (hlen : ∀ sig, parseMethodDescriptor y.desc = some sig → argsL.length = sig.parameters.length) (ls : Array Slot) (st : List Value) (hsz : ls.size = maxL) (V : Nat) (hV : (st.map fun v => v.category).sum = V) (hf : rm.frames + 1 ≤ R.frames) (hl : V + (yL + 11) + rm.locals ≤ R.locals) (hc : k + rm.cells ≤ R.cells) (hs : n + rm.slots ≤ R.slots) :
    ∃ T' h' v, Wk p l e R s m args below meth c Z T' h' (k + rm.cells) (n + rm.slots) ∧ Q v h' ∧ (∀ G, Go p.tables e below G T' (mkF m (pc + 3) ls (v.toList ++ st)) → Go p.tables e below G T (mkF m pc ls (argsL.reverse ++ .ref b :: st))) := by
  obtain ⟨locs, X, eT, N, O⟩ := W
  obtain ⟨cq, kq, qa, qb, qc⟩ := isOf B.2.1 eT E
  obtain ⟨v, _, ⟨T', L', k', n'⟩, -, X', ⟨Lc, hQ, l1, l2, l3⟩, st'⟩ := X.virtualBack B.1 (y := y) (z := y) B.2.2.1 (mvT B.2.1 w1) (mvT B.2.1 w2) (notFace_of_selects (args := #[]) (mvT B.2.1 w3)) (mvT B.2.1 w3) (mvT B.2.1 w4) hy (backC (V := V) C O B.2.1 wc wz hf hl) qa qc (g := mkF m pc ls (argsL.reverse ++ .ref b :: st)) rfl (hsz.trans B.2.2.2.2.1.symm) (Steps.refl _) (argsL := argsL) (rest := st) hlen rfl (by show 2 * 0 + _ ≤ _; omega) (hb B.2.2.2.1 hd) (fun _ _ => ⟨rfl, eT, hc, hs⟩)
  dsimp only [Pt.U, Pt.locs, Pt.cells, Pt.slots] at X' l1 l2 l3 st' hQ
  subst l1 l2 l3
  exact ⟨T', T'.heap, v, ⟨_, X', rfl, N.app hQ.2.1, hQ.2.2⟩, hQ.1, fun G q => Go.by (fun t q => st'.trans q) q⟩
end K
end Jvm.OwnK
namespace Jvm.Pilot.@@N@@
open Jvm Jvm.ClassFile Sem Op Lib Jvm.Free Jvm.Stand Jvm.LawKit Jvm.RoadKit Jvm.OwnK Bundle Jvm.Pilot.@@N@@.Jvm.D
theorem tw {Z : State} {a0 : Array Value} (hw : ∀ d ∈ tables_1, d.before a0 Z = true) (i : Nat) {d : Jvm.Cond} (h : tables_1[i]? = some d) : d.before a0 Z = true := hw _ (List.mem_of_getElem? h)
theorem d_jdk_33_method_22_0 : decode jdk_33_method_22_code 0 = .ok (.iload_n 0, 1) := by decide +kernel
theorem d_jdk_33_method_22_1 : decode jdk_33_method_22_code 1 = .ok (.bipush (-128), 2) := by decide +kernel
theorem d_jdk_33_method_22_3 : decode jdk_33_method_22_code 3 = .ok (.if_icmp .lt 20, 3) := by decide +kernel
theorem d_jdk_33_method_22_6 : decode jdk_33_method_22_code 6 = .ok (.iload_n 0, 1) := by decide +kernel
theorem d_jdk_33_method_22_7 : decode jdk_33_method_22_code 7 = .ok (.getstatic 191, 3) := by decide +kernel
theorem d_jdk_33_method_22_10 : decode jdk_33_method_22_code 10 = .ok (.if_icmp .gt 13, 3) := by decide +kernel
theorem d_jdk_33_method_22_13 : decode jdk_33_method_22_code 13 = .ok (.getstatic 195, 3) := by decide +kernel
theorem d_jdk_33_method_22_16 : decode jdk_33_method_22_code 16 = .ok (.iload_n 0, 1) := by decide +kernel
theorem d_jdk_33_method_22_17 : decode jdk_33_method_22_code 17 = .ok (.sipush 128, 3) := by decide +kernel
theorem d_jdk_33_method_22_20 : decode jdk_33_method_22_code 20 = .ok (.iadd, 1) := by decide +kernel
theorem d_jdk_33_method_22_21 : decode jdk_33_method_22_code 21 = .ok (.aaload, 1) := by decide +kernel
theorem d_jdk_33_method_22_22 : decode jdk_33_method_22_code 22 = .ok (.areturn, 1) := by decide +kernel
theorem d_jdk_33_method_22_23 : decode jdk_33_method_22_code 23 = .ok (.new 1, 3) := by decide +kernel
theorem d_jdk_33_method_22_26 : decode jdk_33_method_22_code 26 = .ok (.dup, 1) := by decide +kernel
theorem d_jdk_33_method_22_27 : decode jdk_33_method_22_code 27 = .ok (.iload_n 0, 1) := by decide +kernel
theorem d_jdk_33_method_22_28 : decode jdk_33_method_22_code 28 = .ok (.invokespecial 199, 3) := by decide +kernel
theorem d_jdk_33_method_22_31 : decode jdk_33_method_22_code 31 = .ok (.areturn, 1) := by decide +kernel
theorem d_jdk_33_method_23_0 : decode jdk_33_method_23_code 0 = .ok (.aload_n 0, 1) := by decide +kernel
theorem d_jdk_33_method_23_1 : decode jdk_33_method_23_code 1 = .ok (.invokespecial 202, 3) := by decide +kernel
theorem d_jdk_33_method_23_4 : decode jdk_33_method_23_code 4 = .ok (.aload_n 0, 1) := by decide +kernel
theorem d_jdk_33_method_23_5 : decode jdk_33_method_23_code 5 = .ok (.iload_n 1, 1) := by decide +kernel
theorem d_jdk_33_method_23_6 : decode jdk_33_method_23_code 6 = .ok (.putfield 205, 3) := by decide +kernel
theorem d_jdk_33_method_23_9 : decode jdk_33_method_23_code 9 = .ok (.return_, 1) := by decide +kernel
theorem d_jdk_18_method_1_0 : decode jdk_18_method_1_code 0 = .ok (.aload_n 0, 1) := by decide +kernel
theorem d_jdk_18_method_1_1 : decode jdk_18_method_1_code 1 = .ok (.invokespecial 1, 3) := by decide +kernel
theorem d_jdk_18_method_1_4 : decode jdk_18_method_1_code 4 = .ok (.return_, 1) := by decide +kernel
theorem d_prog_5_method_2_0 : decode prog_5_method_2_code 0 = .ok (.aload_n 0, 1) := by decide +kernel
theorem d_prog_5_method_2_1 : decode prog_5_method_2_code 1 = .ok (.ifnull 18, 3) := by decide +kernel
theorem d_prog_5_method_2_4 : decode prog_5_method_2_code 4 = .ok (.aload_n 0, 1) := by decide +kernel
theorem d_prog_5_method_2_5 : decode prog_5_method_2_code 5 = .ok (.invokevirtual 40, 3) := by decide +kernel
theorem d_prog_5_method_2_8 : decode prog_5_method_2_code 8 = .ok (.bipush 100, 2) := by decide +kernel
theorem d_prog_5_method_2_10 : decode prog_5_method_2_code 10 = .ok (.idiv, 1) := by decide +kernel
theorem d_prog_5_method_2_11 : decode prog_5_method_2_code 11 = .ok (.iconst 2, 1) := by decide +kernel
theorem d_prog_5_method_2_12 : decode prog_5_method_2_code 12 = .ok (.if_icmp .ne 7, 3) := by decide +kernel
theorem d_prog_5_method_2_15 : decode prog_5_method_2_code 15 = .ok (.iconst 1, 1) := by decide +kernel
theorem d_prog_5_method_2_16 : decode prog_5_method_2_code 16 = .ok (.goto 4, 3) := by decide +kernel
theorem d_prog_5_method_2_19 : decode prog_5_method_2_code 19 = .ok (.iconst 0, 1) := by decide +kernel
theorem d_prog_5_method_2_20 : decode prog_5_method_2_code 20 = .ok (.ireturn, 1) := by decide +kernel
theorem d_jdk_33_method_27_0 : decode jdk_33_method_27_code 0 = .ok (.aload_n 0, 1) := by decide +kernel
theorem d_jdk_33_method_27_1 : decode jdk_33_method_27_code 1 = .ok (.getfield 205, 3) := by decide +kernel
theorem d_jdk_33_method_27_4 : decode jdk_33_method_27_code 4 = .ok (.ireturn, 1) := by decide +kernel
theorem d_method_2_0 : decode method_2_code 0 = .ok (.aload_n 0, 1) := by decide +kernel
theorem d_method_2_1 : decode method_2_code 1 = .ok (.ifnonnull 5, 3) := by decide +kernel
theorem d_method_2_4 : decode method_2_code 4 = .ok (.iconst 0, 1) := by decide +kernel
theorem d_method_2_5 : decode method_2_code 5 = .ok (.ireturn, 1) := by decide +kernel
theorem d_method_2_6 : decode method_2_code 6 = .ok (.aload_n 0, 1) := by decide +kernel
theorem d_method_2_7 : decode method_2_code 7 = .ok (.invokevirtual 7, 3) := by decide +kernel
theorem d_method_2_10 : decode method_2_code 10 = .ok (.istore_n 1, 1) := by decide +kernel
theorem d_method_2_11 : decode method_2_code 11 = .ok (.iload_n 1, 1) := by decide +kernel
theorem d_method_2_12 : decode method_2_code 12 = .ok (.sipush 200, 3) := by decide +kernel
theorem d_method_2_15 : decode method_2_code 15 = .ok (.if_icmp .lt 14, 3) := by decide +kernel
theorem d_method_2_18 : decode method_2_code 18 = .ok (.iload_n 1, 1) := by decide +kernel
theorem d_method_2_19 : decode method_2_code 19 = .ok (.sipush 299, 3) := by decide +kernel
theorem d_method_2_22 : decode method_2_code 22 = .ok (.if_icmp .gt 7, 3) := by decide +kernel
theorem d_method_2_25 : decode method_2_code 25 = .ok (.iconst 1, 1) := by decide +kernel
theorem d_method_2_26 : decode method_2_code 26 = .ok (.goto 4, 3) := by decide +kernel
theorem d_method_2_29 : decode method_2_code 29 = .ok (.iconst 0, 1) := by decide +kernel
theorem d_method_2_30 : decode method_2_code 30 = .ok (.ireturn, 1) := by decide +kernel
theorem pn_java_lang_Integer : plainName "java/lang/Integer" = true := by first | (simp [plainName, overriddenIn]; done) | decide +kernel
theorem pd__I_Ljava_lang_Integer_ : parseMethodDescriptor "(I)Ljava/lang/Integer;" = some ⟨[.int], some (.object "java/lang/Integer")⟩ := by decide +kernel
theorem pd__I_V : parseMethodDescriptor "(I)V" = some ⟨[.int], none⟩ := by decide +kernel
theorem pd___V : parseMethodDescriptor "()V" = some ⟨[], none⟩ := by decide +kernel
theorem pn_java_lang_Number : plainName "java/lang/Number" = true := by first | (simp [plainName, overriddenIn]; done) | decide +kernel
theorem pn_com_example_vervet_vervet_delivery_Attempt : plainName "com/example/vervet/vervet/delivery/Attempt" = true := by first | (simp [plainName, overriddenIn]; done) | decide +kernel
theorem pd__Ljava_lang_Integer__Z : parseMethodDescriptor "(Ljava/lang/Integer;)Z" = some ⟨[(.object "java/lang/Integer")], some .boolean⟩ := by decide +kernel
theorem pd___I : parseMethodDescriptor "()I" = some ⟨[], some .int⟩ := by decide +kernel
theorem pn_com_example_vervet_vervet_delivery_AttemptSucceedsPinLaw : plainName "com/example/vervet/vervet/delivery/AttemptSucceedsPinLaw" = true := by first | (simp [plainName, overriddenIn]; done) | decide +kernel
theorem pd__III_Z : parseMethodDescriptor "(III)Z" = some ⟨[.int, .int, .int], some .boolean⟩ := by decide +kernel
theorem own_len {args : Array Value} {s : State} {t : Term} {a : Addr} {c : Cell} {ty : FieldType} {n : Int32} (A : Arr s s.heap a c ty) (et : t.eval args s none [] s = some (.ref a)) (h : (Jvm.Cond.eq (Term.length t) (Term.int n)).value args s none s [] = some true) : c.slots.size < 2 ^ 31 ∧ c.slots.size.toInt32 = n := by
  have e := eqv_i (Term.int_eval n) h
  by_cases q : c.slots.size < 2 ^ 31
  · rw [len_f et (A.fin (Vm.Alike.refl _)) q] at e
    exact ⟨q, by simpa using e⟩
  · simp [Term.eval, et, A.fin (Vm.Alike.refl _), q] at e
theorem own_ix {args : Array Value} {s : State} {j : Int32} (hj : ¬ j < 0) : (Jvm.Term.sub (Jvm.Term.index 0) (Jvm.Term.int 128)).eval args s none [j.toNatClampNeg] s = some (.int (j - 128)) := by
  have q := (back32 hj).1
  simp [Term.eval, q]
theorem ef_numInit (m : MethodId) (a1 : Addr) : entryFrame m #[(.ref a1)] 1 = mkF m 0 #[.val (.ref a1)] [] := by first | (simp [entryFrame, mkF, argsToLocals, Value.category]; done) | rfl
def Q_numInit (Z : State) (a1 : Addr) (h0 : Heap) (v : Option Value) (h : Heap) : Prop := v = none ∧ h0 = h
set_option maxRecDepth 65536 in
set_option maxHeartbeats 40000000 in
theorem c_numInit (l : Launch) (Z : State) (a0 : Array Value) (hw : ∀ d ∈ tables_1, d.before a0 Z = true) (a1 : Addr) (h0 : Heap) :
    Con l Z (⟨"java/lang/Number", "<init>", "()V"⟩ : MethodName) jdk_18_method_1_code 1 (Option.none : Option FieldType) [] ({ frames := 1, cells := 0, slots := 0, locals := 12 } : Room) #[(.ref a1)] h0 (Q_numInit Z a1 h0) := by
  refine Con.of (plainFor_of_name pn_java_lang_Number) ?_
  intro p e s m below meth c T0 B W0
  refine Go.cast (ef_numInit m a1) ?_
  refine g_aload_n B W0 (d_jdk_18_method_1_0) rfl rfl ?_
  show Go p.tables e below _ T0 (mkF m 1 #[.val (.ref a1)] [(.ref a1)])
  obtain ⟨T101, W101, st101⟩ := x_init B W0 (d_jdk_18_method_1_1) (tw hw 19 rfl) (tw hw 20 rfl) (tw hw 21 rfl) a1 #[.val (.ref a1)] [] rfl 0 rfl (by decide) (by decide)
  refine st101 _ ?_
  show Go p.tables e below _ T101 (mkF m 4 #[.val (.ref a1)] [])
  exact r_v B W101 (d_jdk_18_method_1_4) (by decide) (by decide) ⟨rfl, rfl⟩
theorem ef_intInit (m : MethodId) (a1 : Addr) (p2 : Int32) : entryFrame m #[(.ref a1), (.int p2)] 2 = mkF m 0 #[.val (.ref a1), .val (.int p2)] [] := by first | (simp [entryFrame, mkF, argsToLocals, Value.category]; done) | rfl
def Q_intInit (Z : State) (a1 : Addr) (p2 : Int32) (h0 : Heap) (v : Option Value) (h : Heap) : Prop := v = none ∧ Keep h0 h [a1] ∧ Exa Z h a1 "java/lang/Integer" ∧ Fld Z h a1 "java/lang/Integer" "value" "I" (.int p2)
set_option maxRecDepth 65536 in
set_option maxHeartbeats 40000000 in
theorem c_intInit (l : Launch) (Z : State) (a0 : Array Value) (hw : ∀ d ∈ tables_1, d.before a0 Z = true) (a1 : Addr) (p2 : Int32) (h0 : Heap) (E1 : Exa Z h0 a1 "java/lang/Integer") (F1 : Fld Z h0 a1 "java/lang/Integer" "value" "I" (.int 0)) (g1 : Z.heap.size ≤ a1) :
    Con l Z (⟨"java/lang/Integer", "<init>", "(I)V"⟩ : MethodName) jdk_33_method_23_code 2 (Option.none : Option FieldType) [] ({ frames := 2, cells := 0, slots := 0, locals := 24 } : Room) #[(.ref a1), (.int p2)] h0 (Q_intInit Z a1 p2 h0) := by
  refine Con.of (plainFor_of_name pn_java_lang_Integer) ?_
  intro p e s m below meth c T0 B W0
  refine Go.cast (ef_intInit m a1 p2) ?_
  refine g_aload_n B W0 (d_jdk_33_method_23_0) rfl rfl ?_
  show Go p.tables e below _ T0 (mkF m 1 #[.val (.ref a1), .val (.int p2)] [(.ref a1)])
  obtain ⟨T101, h101, v101, W101, Q101, st101⟩ := x_special B W0 (b := a1) [] (c_numInit l Z a0 hw a1 h0) (d_jdk_33_method_23_1) rfl (tw hw 13 rfl) (tw hw 14 rfl) (tw hw 17 rfl) (tw hw 18 rfl) (by decide) (lenOf pd___V rfl) #[.val (.ref a1), .val (.int p2)] [] rfl 0 rfl (by decide) (by decide) (by decide) (by decide)
  obtain ⟨rfl, rfl⟩ := Q101
  refine st101 _ ?_
  show Go p.tables e below _ T101 (mkF m 4 #[.val (.ref a1), .val (.int p2)] [])
  refine g_aload_n B W101 (d_jdk_33_method_23_4) rfl rfl ?_
  show Go p.tables e below _ T101 (mkF m 5 #[.val (.ref a1), .val (.int p2)] [(.ref a1)])
  refine g_iload_n B W101 (d_jdk_33_method_23_5) rfl ?_
  show Go p.tables e below _ T101 (mkF m 6 #[.val (.ref a1), .val (.int p2)] [(.int p2), (.ref a1)])
  obtain ⟨T102, h102, W102, K102, R102, F102, E102, st102⟩ := x_put B W101 (d_jdk_33_method_23_6) ((tw hw 22 rfl)) Via.refl F1 E1 (Or.inr ⟨ (tw hw 23 rfl), rfl, rfl⟩) (tw hw 8 rfl) (ty := .int) (v := (.int p2)) (v' := (.int p2)) (by decide) rfl rfl (by omega) #[.val (.ref a1), .val (.int p2)] []
  refine st102 _ ?_
  have s103 := K102.1
  show Go p.tables e below _ T102 (mkF m 9 #[.val (.ref a1), .val (.int p2)] [])
  exact r_v B W102 (d_jdk_33_method_23_9) (by decide) (by decide) ⟨rfl, ((Keep.refl h0 [a1]).trans K102 (allS (Or.inl (by simp)) all0)), E102, F102⟩
theorem own_cache {p : Int32} (h1 : ¬ p < -128) (h2 : ¬ 127 < p) : ¬ p + 128 < 0 ∧ p + 128 < 256 := by
  have a := c_iadd p 128; have r := rng32 p; have r2 := rng32 (p + 128)
  simp only [Int32.lt_iff_toInt_lt, Int32.reduceToInt] at *; omega
theorem own_bx {Z : State} {ca : Addr} {cl : Cell} {p : Int32} (Bx : Bxs Z ca cl "java/lang/Integer" "I" 256 (fun j => .int (j - 128))) (h1 : ¬ p < -128) (h2 : ¬ 127 < p) : ¬ (p + 128 < 0 ∨ cl.slots.size ≤ (p + 128).toNatClampNeg) ∧ ∃ b : Addr, cl.slots[(p + 128).toNatClampNeg]? = some (.ref b) ∧ Exa Z Z.heap b "java/lang/Integer" ∧ Fld Z Z.heap b "java/lang/Integer" "value" "I" (.int p) := by
  have q := inb_of Bx.2.1 (own_cache h1 h2)
  refine ⟨q, ?_⟩
  obtain ⟨b, e1, e2, e3⟩ := Bx.2.2.2 _ q
  have e4 : (p + 128 - 128 : Int32) = p := Int32.add_sub_cancel _ _
  simp only [e4] at e3
  exact ⟨b, e1, e2, e3⟩
theorem ef_valueOf (m : MethodId) (p1 : Int32) (ca : Addr) (cl : Cell) : entryFrame m #[(.int p1)] 1 = mkF m 0 #[.val (.int p1)] [] := by first | (simp [entryFrame, mkF, argsToLocals, Value.category]; done) | rfl
def Q_valueOf (Z : State) (p1 : Int32) (ca : Addr) (cl : Cell) (h0 : Heap) (v : Option Value) (h : Heap) : Prop := ∃ b, v = some (.ref b) ∧ Keep h0 h [] ∧ Exa Z h b "java/lang/Integer" ∧ Fld Z h b "java/lang/Integer" "value" "I" (.int p1)
set_option maxRecDepth 65536 in
set_option maxHeartbeats 40000000 in
theorem c_valueOf (l : Launch) (Z : State) (a0 : Array Value) (hw : ∀ d ∈ tables_1, d.before a0 Z = true) (p1 : Int32) (ca : Addr) (cl : Cell) (h0 : Heap) (Sh : Sta Z Z.heap "java/lang/Integer$IntegerCache" "high" "I" (.int 127)) (Sc : Sta Z Z.heap "java/lang/Integer$IntegerCache" "cache" "[Ljava/lang/Integer;" (.ref ca)) (Bx : Bxs Z ca cl "java/lang/Integer" "I" 256 (fun j => .int (j - 128))) :
    Con l Z (⟨"java/lang/Integer", "valueOf", "(I)Ljava/lang/Integer;"⟩ : MethodName) jdk_33_method_22_code 1 (Option.some (FieldType.object "java/lang/Integer")) [] ({ frames := 3, cells := 1, slots := 1, locals := 38 } : Room) #[(.int p1)] h0 (Q_valueOf Z p1 ca cl h0) := by
  refine Con.of (plainFor_of_name pn_java_lang_Integer) ?_
  intro p e s m below meth c T0 B W0
  refine Go.cast (ef_valueOf m p1 ca cl) ?_
  refine g_iload_n B W0 (d_jdk_33_method_22_0) rfl ?_
  show Go p.tables e below _ T0 (mkF m 1 #[.val (.int p1)] [(.int p1)])
  refine g_bipush B W0 (d_jdk_33_method_22_1) (v := -128) (by decide) ?_
  show Go p.tables e below _ T0 (mkF m 3 #[.val (.int p1)] [(.int (-128)), (.int p1)])
  by_cases hc101 : p1 < (-128)
  · skip
    refine g_icmp_y B W0 (d_jdk_33_method_22_3) (XT.ii_lt_t hc101) (pc' := 23) (by decide) ?_
    show Go p.tables e below _ T0 (mkF m 23 #[.val (.int p1)] [])
    obtain ⟨T102, h102, b102, gb102, W102, K102, E102, D102, st102⟩ := x_new B W0 (d_jdk_33_method_22_23) (tw hw 7 rfl) (tw hw 8 rfl) (tw hw 2 rfl) (by decide) (by decide) #[.val (.int p1)] []
    have l102 := E102.lt
    have z102 := W0.size
    refine st102 _ ?_
    have s103 := K102.1
    have f104 : Fld Z h102 b102 "java/lang/Integer" "value" "I" (.int 0) := D102 (Or.inr (tw hw 23 rfl)) (ty := .int) (by decide)
    show Go p.tables e below _ T102 (mkF m 26 #[.val (.int p1)] [(.ref b102)])
    refine g_dup B W102 (d_jdk_33_method_22_26) rfl ?_
    show Go p.tables e below _ T102 (mkF m 27 #[.val (.int p1)] [(.ref b102), (.ref b102)])
    refine g_iload_n B W102 (d_jdk_33_method_22_27) rfl ?_
    show Go p.tables e below _ T102 (mkF m 28 #[.val (.int p1)] [(.int p1), (.ref b102), (.ref b102)])
    obtain ⟨T105, h105, v105, W105, Q105, st105⟩ := x_special B W102 (b := b102) [(.int p1)] (c_intInit l Z a0 hw b102 p1 h102 E102 f104 (by omega)) (d_jdk_33_method_22_28) rfl (tw hw 9 rfl) (tw hw 10 rfl) (tw hw 2 rfl) (tw hw 12 rfl) (by decide) (lenOf pd__I_V rfl) #[.val (.int p1)] [(.ref b102)] rfl 1 rfl (by decide) (by decide) (by decide) (by decide)
    obtain ⟨rfl, K105, E105, F105⟩ := Q105
    have s106 := K105.1
    refine st105 _ ?_
    show Go p.tables e below _ T105 (mkF m 31 #[.val (.int p1)] [(.ref b102)])
    exact r_a B W105 rfl rfl rfl (d_jdk_33_method_22_31) (by decide) (by decide) ⟨_, rfl, (((Keep.refl h0 []).trans K102 all0).trans K105 (allS (Or.inr (by omega)) all0)), E105, F105⟩
  · skip
    refine g_icmp_n B W0 (d_jdk_33_method_22_3) (XT.ii_lt_f hc101) ?_
    show Go p.tables e below _ T0 (mkF m 6 #[.val (.int p1)] [])
    refine g_iload_n B W0 (d_jdk_33_method_22_6) rfl ?_
    show Go p.tables e below _ T0 (mkF m 7 #[.val (.int p1)] [(.int p1)])
    obtain ⟨T107, W107, st107⟩ := x_gets B W0 (host := "") (d_jdk_33_method_22_7) (Or.inl (tw hw 4 rfl)) Via.refl Sh #[.val (.int p1)] [(.int p1)]
    refine st107 _ ?_
    show Go p.tables e below _ T107 (mkF m 10 #[.val (.int p1)] [(.int 127), (.int p1)])
    by_cases hc108 : 127 < p1
    · skip
      refine g_icmp_y B W107 (d_jdk_33_method_22_10) (XT.ii_gt_t hc108) (pc' := 23) (by decide) ?_
      show Go p.tables e below _ T107 (mkF m 23 #[.val (.int p1)] [])
      obtain ⟨T109, h109, b109, gb109, W109, K109, E109, D109, st109⟩ := x_new B W107 (d_jdk_33_method_22_23) (tw hw 7 rfl) (tw hw 8 rfl) (tw hw 2 rfl) (by decide) (by decide) #[.val (.int p1)] []
      have l109 := E109.lt
      have z109 := W107.size
      refine st109 _ ?_
      have s110 := K109.1
      have f111 : Fld Z h109 b109 "java/lang/Integer" "value" "I" (.int 0) := D109 (Or.inr (tw hw 23 rfl)) (ty := .int) (by decide)
      show Go p.tables e below _ T109 (mkF m 26 #[.val (.int p1)] [(.ref b109)])
      refine g_dup B W109 (d_jdk_33_method_22_26) rfl ?_
      show Go p.tables e below _ T109 (mkF m 27 #[.val (.int p1)] [(.ref b109), (.ref b109)])
      refine g_iload_n B W109 (d_jdk_33_method_22_27) rfl ?_
      show Go p.tables e below _ T109 (mkF m 28 #[.val (.int p1)] [(.int p1), (.ref b109), (.ref b109)])
      obtain ⟨T112, h112, v112, W112, Q112, st112⟩ := x_special B W109 (b := b109) [(.int p1)] (c_intInit l Z a0 hw b109 p1 h109 E109 f111 (by omega)) (d_jdk_33_method_22_28) rfl (tw hw 9 rfl) (tw hw 10 rfl) (tw hw 2 rfl) (tw hw 12 rfl) (by decide) (lenOf pd__I_V rfl) #[.val (.int p1)] [(.ref b109)] rfl 1 rfl (by decide) (by decide) (by decide) (by decide)
      obtain ⟨rfl, K112, E112, F112⟩ := Q112
      have s113 := K112.1
      refine st112 _ ?_
      show Go p.tables e below _ T112 (mkF m 31 #[.val (.int p1)] [(.ref b109)])
      exact r_a B W112 rfl rfl rfl (d_jdk_33_method_22_31) (by decide) (by decide) ⟨_, rfl, (((Keep.refl h0 []).trans K109 all0).trans K112 (allS (Or.inr (by omega)) all0)), E112, F112⟩
    · skip
      refine g_icmp_n B W107 (d_jdk_33_method_22_10) (XT.ii_gt_f hc108) ?_
      show Go p.tables e below _ T107 (mkF m 13 #[.val (.int p1)] [])
      obtain ⟨T114, W114, st114⟩ := x_gets B W107 (host := "") (d_jdk_33_method_22_13) (Or.inl (tw hw 6 rfl)) Via.refl Sc #[.val (.int p1)] []
      refine st114 _ ?_
      show Go p.tables e below _ T114 (mkF m 16 #[.val (.int p1)] [(.ref ca)])
      refine g_iload_n B W114 (d_jdk_33_method_22_16) rfl ?_
      show Go p.tables e below _ T114 (mkF m 17 #[.val (.int p1)] [(.int p1), (.ref ca)])
      refine g_sipush B W114 (d_jdk_33_method_22_17) (v := 128) (by decide) ?_
      show Go p.tables e below _ T114 (mkF m 20 #[.val (.int p1)] [(.int 128), (.int p1), (.ref ca)])
      refine g_iadd B W114 (d_jdk_33_method_22_20)  ?_
      show Go p.tables e below _ T114 (mkF m 21 #[.val (.int p1)] [(.int (p1 + 128)), (.ref ca)])
      obtain ⟨hin, b, hat, Eb, Fb⟩ := own_bx Bx hc101 hc108
      refine g_aaload B W114 (d_jdk_33_method_22_21) (Bx.1.ext W114.old.2) rfl hin hat ?_
      show Go p.tables e below _ T114 (mkF m 22 #[.val (.int p1)] [(.ref b)])
      exact r_a B W114 rfl rfl rfl (d_jdk_33_method_22_22) (by decide) (by decide) ⟨_, rfl, (Keep.refl h0 []), (Eb.ext W114.old.2), (Fb.ext W114.old.2)⟩
theorem ef_intValue (m : MethodId) (a1 : Addr) (p2 : Int32) : entryFrame m #[(.ref a1)] 1 = mkF m 0 #[.val (.ref a1)] [] := by first | (simp [entryFrame, mkF, argsToLocals, Value.category]; done) | rfl
def Q_intValue (Z : State) (a1 : Addr) (p2 : Int32) (h0 : Heap) (v : Option Value) (h : Heap) : Prop := v = some (.int p2) ∧ h0 = h
set_option maxRecDepth 65536 in
set_option maxHeartbeats 40000000 in
theorem c_intValue (l : Launch) (Z : State) (a0 : Array Value) (hw : ∀ d ∈ tables_1, d.before a0 Z = true) (a1 : Addr) (p2 : Int32) (h0 : Heap) (F1 : Fld Z h0 a1 "java/lang/Integer" "value" "I" (.int p2)) :
    Con l Z (⟨"java/lang/Integer", "intValue", "()I"⟩ : MethodName) jdk_33_method_27_code 1 (Option.some FieldType.int) [] ({ frames := 0, cells := 0, slots := 0, locals := 0 } : Room) #[(.ref a1)] h0 (Q_intValue Z a1 p2 h0) := by
  refine Con.of (plainFor_of_name pn_java_lang_Integer) ?_
  intro p e s m below meth c T0 B W0
  refine Go.cast (ef_intValue m a1 p2) ?_
  refine g_aload_n B W0 (d_jdk_33_method_27_0) rfl rfl ?_
  show Go p.tables e below _ T0 (mkF m 1 #[.val (.ref a1)] [(.ref a1)])
  obtain ⟨T101, W101, st101⟩ := x_get B W0 (host := "") (d_jdk_33_method_27_1) (Or.inl (tw hw 22 rfl)) Via.refl F1 #[.val (.ref a1)] []
  refine st101 _ ?_
  show Go p.tables e below _ T101 (mkF m 4 #[.val (.ref a1)] [(.int p2)])
  exact r_i B W101 (d_jdk_33_method_27_4) (by decide) (by decide) ⟨rfl, rfl⟩
theorem own_div (p : Int32) : (p / 100 = 2) = (¬ p < 200 ∧ ¬ 299 < p) := by
  have d := c_idiv p 100 100 rfl (by decide)
  have r := rng32 p
  simp only [Int32.lt_iff_toInt_lt, ← Int32.toInt_inj, Int32.reduceToInt, eq_iff_iff] at *
  constructor
  · intro h
    by_cases q : 0 ≤ p.toInt
    · have := d.1 q; omega
    · have := d.2 (by omega); omega
  · intro h; have := d.1 (by omega); omega
theorem ef_succeedsN (m : MethodId)  : entryFrame m #[.null] 1 = mkF m 0 #[.val .null] [] := by first | (simp [entryFrame, mkF, argsToLocals, Value.category]; done) | rfl
def Q_succeedsN (Z : State)  (h0 : Heap) (v : Option Value) (h : Heap) : Prop := v = some (.int (bi false)) ∧ h0 = h
set_option maxRecDepth 65536 in
set_option maxHeartbeats 40000000 in
theorem c_succeedsN (l : Launch) (Z : State) (a0 : Array Value) (hw : ∀ d ∈ tables_1, d.before a0 Z = true)  (h0 : Heap) :
    Con l Z (⟨"com/example/vervet/vervet/delivery/Attempt", "succeeds", "(Ljava/lang/Integer;)Z"⟩ : MethodName) prog_5_method_2_code 1 (Option.some FieldType.boolean) [] ({ frames := 0, cells := 0, slots := 0, locals := 0 } : Room) #[.null] h0 (Q_succeedsN Z  h0) := by
  refine Con.of (plainFor_of_name pn_com_example_vervet_vervet_delivery_Attempt) ?_
  intro p e s m below meth c T0 B W0
  refine Go.cast (ef_succeedsN m ) ?_
  refine g_aload_n B W0 (d_prog_5_method_2_0) rfl rfl ?_
  show Go p.tables e below _ T0 (mkF m 1 #[.val .null] [.null])
  refine g_ifnull_y B W0 (d_prog_5_method_2_1) (pc' := 19) (by decide) ?_
  show Go p.tables e below _ T0 (mkF m 19 #[.val .null] [])
  refine g_iconst B W0 (d_prog_5_method_2_19) (v := 0) (by decide) ?_
  show Go p.tables e below _ T0 (mkF m 20 #[.val .null] [(.int 0)])
  exact r_n B W0 (t := .boolean) rfl (by simp) (d_prog_5_method_2_20) (by decide) (by decide) ⟨rfl, rfl⟩
theorem ef_succeedsR (m : MethodId) (a1 : Addr) (p2 : Int32) : entryFrame m #[(.ref a1)] 1 = mkF m 0 #[.val (.ref a1)] [] := by first | (simp [entryFrame, mkF, argsToLocals, Value.category]; done) | rfl
def Q_succeedsR (Z : State) (a1 : Addr) (p2 : Int32) (h0 : Heap) (v : Option Value) (h : Heap) : Prop := v = some (.int (bi (decide (p2 / 100 = 2)))) ∧ h0 = h
set_option maxRecDepth 65536 in
set_option maxHeartbeats 40000000 in
theorem c_succeedsR (l : Launch) (Z : State) (a0 : Array Value) (hw : ∀ d ∈ tables_1, d.before a0 Z = true) (a1 : Addr) (p2 : Int32) (h0 : Heap) (E1 : Exa Z h0 a1 "java/lang/Integer") (F1 : Fld Z h0 a1 "java/lang/Integer" "value" "I" (.int p2)) :
    Con l Z (⟨"com/example/vervet/vervet/delivery/Attempt", "succeeds", "(Ljava/lang/Integer;)Z"⟩ : MethodName) prog_5_method_2_code 1 (Option.some FieldType.boolean) [] ({ frames := 1, cells := 0, slots := 0, locals := 16 } : Room) #[(.ref a1)] h0 (Q_succeedsR Z a1 p2 h0) := by
  refine Con.of (plainFor_of_name pn_com_example_vervet_vervet_delivery_Attempt) ?_
  intro p e s m below meth c T0 B W0
  refine Go.cast (ef_succeedsR m a1 p2) ?_
  refine g_aload_n B W0 (d_prog_5_method_2_0) rfl rfl ?_
  show Go p.tables e below _ T0 (mkF m 1 #[.val (.ref a1)] [(.ref a1)])
  refine g_ifnull_n B W0 (d_prog_5_method_2_1)  ?_
  show Go p.tables e below _ T0 (mkF m 4 #[.val (.ref a1)] [])
  refine g_aload_n B W0 (d_prog_5_method_2_4) rfl rfl ?_
  show Go p.tables e below _ T0 (mkF m 5 #[.val (.ref a1)] [(.ref a1)])
  obtain ⟨T101, h101, v101, W101, Q101, st101⟩ := x_virtual B W0 (b := a1) [] (c_intValue l Z a0 hw a1 p2 h0 F1) E1 (d_prog_5_method_2_5) (tw hw 28 rfl) (tw hw 29 rfl) (tw hw 31 rfl) (tw hw 30 rfl) (tw hw 2 rfl) (tw hw 32 rfl) (by decide) (lenOf pd___I rfl) #[.val (.ref a1)] [] rfl 0 rfl (by decide) (by decide) (by decide) (by decide)
  obtain ⟨rfl, rfl⟩ := Q101
  refine st101 _ ?_
  show Go p.tables e below _ T101 (mkF m 8 #[.val (.ref a1)] [(.int p2)])
  refine g_bipush B W101 (d_prog_5_method_2_8) (v := 100) (by decide) ?_
  show Go p.tables e below _ T101 (mkF m 10 #[.val (.ref a1)] [(.int 100), (.int p2)])
  refine g_idiv B W101 (d_prog_5_method_2_10) (by decide) ?_
  show Go p.tables e below _ T101 (mkF m 11 #[.val (.ref a1)] [(.int (p2 / 100))])
  refine g_iconst B W101 (d_prog_5_method_2_11) (v := 2) (by decide) ?_
  show Go p.tables e below _ T101 (mkF m 12 #[.val (.ref a1)] [(.int 2), (.int (p2 / 100))])
  refine g_diab (decide ((p2 / 100) = 2)) (m := m) (ls := #[.val (.ref a1)]) (st := []) (pc' := 20) (fun hd1 q => ?_) (fun hd1 q => ?_) ?_
  · refine g_icmp_n B W101 (d_prog_5_method_2_12) (XT.ii_ne_f (by simpa using hd1)) ?_
    refine g_iconst B W101 (d_prog_5_method_2_15) (v := 1) (by decide) ?_
    exact g_goto B W101 (d_prog_5_method_2_16) (pc' := 20) (by decide) q
  · refine g_icmp_y B W101 (d_prog_5_method_2_12) (XT.ii_ne_t (by simpa using hd1)) (pc' := 19) (by decide) ?_
    exact g_iconst B W101 (d_prog_5_method_2_19) (v := 0) (by decide) q
  show Go p.tables e below _ T101 (mkF m 20 #[.val (.ref a1)] [(.int (bi (decide ((p2 / 100) = 2))))])
  exact r_b B W101 (d_prog_5_method_2_20) (by decide) (by decide) ⟨rfl, rfl⟩
theorem ef_expectedN (m : MethodId)  : entryFrame m #[.null] 2 = mkF m 0 #[.val .null, .unset] [] := by first | (simp [entryFrame, mkF, argsToLocals, Value.category]; done) | rfl
def Q_expectedN (Z : State)  (h0 : Heap) (v : Option Value) (h : Heap) : Prop := v = some (.int (bi false)) ∧ h0 = h
set_option maxRecDepth 65536 in
set_option maxHeartbeats 40000000 in
theorem c_expectedN (l : Launch) (Z : State) (a0 : Array Value) (hw : ∀ d ∈ tables_1, d.before a0 Z = true)  (h0 : Heap) :
    Con l Z (⟨"com/example/vervet/vervet/delivery/AttemptSucceedsPinLaw", "expected", "(Ljava/lang/Integer;)Z"⟩ : MethodName) method_2_code 2 (Option.some FieldType.boolean) [] ({ frames := 0, cells := 0, slots := 0, locals := 0 } : Room) #[.null] h0 (Q_expectedN Z  h0) := by
  refine Con.of (plainFor_of_name pn_com_example_vervet_vervet_delivery_AttemptSucceedsPinLaw) ?_
  intro p e s m below meth c T0 B W0
  refine Go.cast (ef_expectedN m ) ?_
  refine g_aload_n B W0 (d_method_2_0) rfl rfl ?_
  show Go p.tables e below _ T0 (mkF m 1 #[.val .null, .unset] [.null])
  refine g_ifnonnull_n B W0 (d_method_2_1)  ?_
  show Go p.tables e below _ T0 (mkF m 4 #[.val .null, .unset] [])
  refine g_iconst B W0 (d_method_2_4) (v := 0) (by decide) ?_
  show Go p.tables e below _ T0 (mkF m 5 #[.val .null, .unset] [(.int 0)])
  exact r_n B W0 (t := .boolean) rfl (by simp) (d_method_2_5) (by decide) (by decide) ⟨rfl, rfl⟩
theorem ef_expectedR (m : MethodId) (a1 : Addr) (p2 : Int32) : entryFrame m #[(.ref a1)] 2 = mkF m 0 #[.val (.ref a1), .unset] [] := by first | (simp [entryFrame, mkF, argsToLocals, Value.category]; done) | rfl
def Q_expectedR (Z : State) (a1 : Addr) (p2 : Int32) (h0 : Heap) (v : Option Value) (h : Heap) : Prop := v = some (.int (bi (decide (p2 / 100 = 2)))) ∧ h0 = h
set_option maxRecDepth 65536 in
set_option maxHeartbeats 40000000 in
theorem c_expectedR (l : Launch) (Z : State) (a0 : Array Value) (hw : ∀ d ∈ tables_1, d.before a0 Z = true) (a1 : Addr) (p2 : Int32) (h0 : Heap) (E1 : Exa Z h0 a1 "java/lang/Integer") (F1 : Fld Z h0 a1 "java/lang/Integer" "value" "I" (.int p2)) :
    Con l Z (⟨"com/example/vervet/vervet/delivery/AttemptSucceedsPinLaw", "expected", "(Ljava/lang/Integer;)Z"⟩ : MethodName) method_2_code 2 (Option.some FieldType.boolean) [] ({ frames := 1, cells := 0, slots := 0, locals := 16 } : Room) #[(.ref a1)] h0 (Q_expectedR Z a1 p2 h0) := by
  refine Con.of (plainFor_of_name pn_com_example_vervet_vervet_delivery_AttemptSucceedsPinLaw) ?_
  intro p e s m below meth c T0 B W0
  refine Go.cast (ef_expectedR m a1 p2) ?_
  refine g_aload_n B W0 (d_method_2_0) rfl rfl ?_
  show Go p.tables e below _ T0 (mkF m 1 #[.val (.ref a1), .unset] [(.ref a1)])
  refine g_ifnonnull_y B W0 (d_method_2_1) (pc' := 6) (by decide) ?_
  show Go p.tables e below _ T0 (mkF m 6 #[.val (.ref a1), .unset] [])
  refine g_aload_n B W0 (d_method_2_6) rfl rfl ?_
  show Go p.tables e below _ T0 (mkF m 7 #[.val (.ref a1), .unset] [(.ref a1)])
  obtain ⟨T101, h101, v101, W101, Q101, st101⟩ := x_virtual B W0 (b := a1) [] (c_intValue l Z a0 hw a1 p2 h0 F1) E1 (d_method_2_7) (tw hw 37 rfl) (tw hw 29 rfl) (tw hw 31 rfl) (tw hw 30 rfl) (tw hw 2 rfl) (tw hw 32 rfl) (by decide) (lenOf pd___I rfl) #[.val (.ref a1), .unset] [] rfl 0 rfl (by decide) (by decide) (by decide) (by decide)
  obtain ⟨rfl, rfl⟩ := Q101
  refine st101 _ ?_
  show Go p.tables e below _ T101 (mkF m 10 #[.val (.ref a1), .unset] [(.int p2)])
  refine g_istore_n B W101 (d_method_2_10)  (l' := #[.val (.ref a1), .val (.int p2)]) rfl ?_
  show Go p.tables e below _ T101 (mkF m 11 #[.val (.ref a1), .val (.int p2)] [])
  refine g_iload_n B W101 (d_method_2_11) rfl ?_
  show Go p.tables e below _ T101 (mkF m 12 #[.val (.ref a1), .val (.int p2)] [(.int p2)])
  refine g_sipush B W101 (d_method_2_12) (v := 200) (by decide) ?_
  show Go p.tables e below _ T101 (mkF m 15 #[.val (.ref a1), .val (.int p2)] [(.int 200), (.int p2)])
  by_cases hc102 : p2 < 200
  · skip
    refine g_icmp_y B W101 (d_method_2_15) (XT.ii_lt_t hc102) (pc' := 29) (by decide) ?_
    show Go p.tables e below _ T101 (mkF m 29 #[.val (.ref a1), .val (.int p2)] [])
    refine g_iconst B W101 (d_method_2_29) (v := 0) (by decide) ?_
    show Go p.tables e below _ T101 (mkF m 30 #[.val (.ref a1), .val (.int p2)] [(.int 0)])
    exact r_n B W101 (t := .boolean) rfl (by simp) (d_method_2_30) (by decide) (by decide) ⟨by rw [decide_eq_false (p := p2 / 100 = 2) (by rw [own_div]; simp [hc102])]; rfl, rfl⟩
  · skip
    refine g_icmp_n B W101 (d_method_2_15) (XT.ii_lt_f hc102) ?_
    show Go p.tables e below _ T101 (mkF m 18 #[.val (.ref a1), .val (.int p2)] [])
    refine g_iload_n B W101 (d_method_2_18) rfl ?_
    show Go p.tables e below _ T101 (mkF m 19 #[.val (.ref a1), .val (.int p2)] [(.int p2)])
    refine g_sipush B W101 (d_method_2_19) (v := 299) (by decide) ?_
    show Go p.tables e below _ T101 (mkF m 22 #[.val (.ref a1), .val (.int p2)] [(.int 299), (.int p2)])
    by_cases hc103 : 299 < p2
    · skip
      refine g_icmp_y B W101 (d_method_2_22) (XT.ii_gt_t hc103) (pc' := 29) (by decide) ?_
      show Go p.tables e below _ T101 (mkF m 29 #[.val (.ref a1), .val (.int p2)] [])
      refine g_iconst B W101 (d_method_2_29) (v := 0) (by decide) ?_
      show Go p.tables e below _ T101 (mkF m 30 #[.val (.ref a1), .val (.int p2)] [(.int 0)])
      exact r_n B W101 (t := .boolean) rfl (by simp) (d_method_2_30) (by decide) (by decide) ⟨by rw [decide_eq_false (p := p2 / 100 = 2) (by rw [own_div]; simp [hc102, hc103])]; rfl, rfl⟩
    · skip
      refine g_icmp_n B W101 (d_method_2_22) (XT.ii_gt_f hc103) ?_
      show Go p.tables e below _ T101 (mkF m 25 #[.val (.ref a1), .val (.int p2)] [])
      refine g_iconst B W101 (d_method_2_25) (v := 1) (by decide) ?_
      show Go p.tables e below _ T101 (mkF m 26 #[.val (.ref a1), .val (.int p2)] [(.int 1)])
      refine g_goto B W101 (d_method_2_26) (pc' := 30) (by decide) ?_
      show Go p.tables e below _ T101 (mkF m 30 #[.val (.ref a1), .val (.int p2)] [(.int 1)])
      exact r_n B W101 (t := .boolean) rfl (by simp) (d_method_2_30) (by decide) (by decide) ⟨by rw [decide_eq_true (p := p2 / 100 = 2) (by rw [own_div]; simp [hc102, hc103])]; rfl, rfl⟩
theorem ef_law (m : MethodId) (p1 : Int32) (p2 : Int32) (p3 : Int32) (ca : Addr) (cl : Cell) : entryFrame m #[(.int p1), (.int p2), (.int p3)] maxLocals = mkF m 0 #[.val (.int p1), .val (.int p2), .val (.int p3), .unset, .unset, .unset, .unset, .unset, .unset, .unset] [] := by first | (simp [entryFrame, mkF, argsToLocals, Value.category, maxLocals]; done) | rfl
def Q_law (Z : State) (p1 : Int32) (p2 : Int32) (p3 : Int32) (ca : Addr) (cl : Cell) (h0 : Heap) (v : Option Value) (h : Heap) : Prop := v = some (.int 1)
set_option maxRecDepth 65536 in
set_option maxHeartbeats 40000000 in
theorem c_law (l : Launch) (Z : State) (a0 : Array Value) (hw : ∀ d ∈ tables_1, d.before a0 Z = true) (ws : List Jvm.Cond) (p1 : Int32) (p2 : Int32) (p3 : Int32) (ca : Addr) (cl : Cell) (h0 : Heap) (Sh : Sta Z Z.heap "java/lang/Integer$IntegerCache" "high" "I" (.int 127)) (Sc : Sta Z Z.heap "java/lang/Integer$IntegerCache" "cache" "[Ljava/lang/Integer;" (.ref ca)) (Bx : Bxs Z ca cl "java/lang/Integer" "I" 256 (fun j => .int (j - 128))) :
    Con l Z x code maxLocals ret ws room_1 #[(.int p1), (.int p2), (.int p3)] h0 (Q_law Z p1 p2 p3 ca cl h0) := by
  refine Con.of (plainFor_of_name pn_com_example_vervet_vervet_delivery_AttemptSucceedsPinLaw) ?_
  intro p e s m below meth c T0 B W0
  refine Go.cast (ef_law m p1 p2 p3 ca cl) ?_
  refine g_iload_n B W0 at_0 rfl ?_
  show Go p.tables e below _ T0 (mkF m 1 #[.val (.int p1), .val (.int p2), .val (.int p3), .unset, .unset, .unset, .unset, .unset, .unset, .unset] [(.int p3)])
  refine g_iconst B W0 at_1 (v := 1) (by decide) ?_
  show Go p.tables e below _ T0 (mkF m 2 #[.val (.int p1), .val (.int p2), .val (.int p3), .unset, .unset, .unset, .unset, .unset, .unset, .unset] [(.int 1), (.int p3)])
  refine g_iand B W0 at_2  ?_
  show Go p.tables e below _ T0 (mkF m 3 #[.val (.int p1), .val (.int p2), .val (.int p3), .unset, .unset, .unset, .unset, .unset, .unset, .unset] [(.int (p3 &&& 1))])
  refine g_diab (!decide ((p3 &&& 1) = 0)) (m := m) (ls := #[.val (.int p1), .val (.int p2), .val (.int p3), .unset, .unset, .unset, .unset, .unset, .unset, .unset]) (st := []) (pc' := 11) (fun hd1 q => ?_) (fun hd1 q => ?_) ?_
  · refine g_if_n B W0 at_3 (XT.i0_eq_f (by simpa using hd1)) ?_
    refine g_iconst B W0 at_6 (v := 1) (by decide) ?_
    exact g_goto B W0 at_7 (pc' := 11) (by decide) q
  · refine g_if_y B W0 at_3 (XT.i0_eq_t (by simpa using hd1)) (pc' := 10) (by decide) ?_
    exact g_iconst B W0 at_10 (v := 0) (by decide) q
  show Go p.tables e below _ T0 (mkF m 11 #[.val (.int p1), .val (.int p2), .val (.int p3), .unset, .unset, .unset, .unset, .unset, .unset, .unset] [(.int (bi (!decide ((p3 &&& 1) = 0))))])
  refine g_istore_n B W0 at_11  (l' := #[.val (.int p1), .val (.int p2), .val (.int p3), .val (.int (bi (!decide ((p3 &&& 1) = 0)))), .unset, .unset, .unset, .unset, .unset, .unset]) rfl ?_
  show Go p.tables e below _ T0 (mkF m 12 #[.val (.int p1), .val (.int p2), .val (.int p3), .val (.int (bi (!decide ((p3 &&& 1) = 0)))), .unset, .unset, .unset, .unset, .unset, .unset] [])
  refine g_iload_n B W0 at_12 rfl ?_
  show Go p.tables e below _ T0 (mkF m 13 #[.val (.int p1), .val (.int p2), .val (.int p3), .val (.int (bi (!decide ((p3 &&& 1) = 0)))), .unset, .unset, .unset, .unset, .unset, .unset] [(.int (bi (!decide ((p3 &&& 1) = 0))))])
  by_cases hc101 : (!decide ((p3 &&& 1) = 0)) = true
  · skip
    refine g_if_n B W0 at_13 (XT.i0_eq_f (bi_t hc101)) ?_
    show Go p.tables e below _ T0 (mkF m 16 #[.val (.int p1), .val (.int p2), .val (.int p3), .val (.int (bi (!decide ((p3 &&& 1) = 0)))), .unset, .unset, .unset, .unset, .unset, .unset] [])
    refine g_aconst_null B W0 at_16  ?_
    show Go p.tables e below _ T0 (mkF m 17 #[.val (.int p1), .val (.int p2), .val (.int p3), .val (.int (bi (!decide ((p3 &&& 1) = 0)))), .unset, .unset, .unset, .unset, .unset, .unset] [.null])
    refine g_goto B W0 at_17 (pc' := 24) (by decide) ?_
    show Go p.tables e below _ T0 (mkF m 24 #[.val (.int p1), .val (.int p2), .val (.int p3), .val (.int (bi (!decide ((p3 &&& 1) = 0)))), .unset, .unset, .unset, .unset, .unset, .unset] [.null])
    refine g_astore B W0 at_24 rfl (l' := #[.val (.int p1), .val (.int p2), .val (.int p3), .val (.int (bi (!decide ((p3 &&& 1) = 0)))), .val .null, .unset, .unset, .unset, .unset, .unset]) rfl ?_
    show Go p.tables e below _ T0 (mkF m 26 #[.val (.int p1), .val (.int p2), .val (.int p3), .val (.int (bi (!decide ((p3 &&& 1) = 0)))), .val .null, .unset, .unset, .unset, .unset, .unset] [])
    refine g_sipush B W0 at_26 (v := 190) (by decide) ?_
    show Go p.tables e below _ T0 (mkF m 29 #[.val (.int p1), .val (.int p2), .val (.int p3), .val (.int (bi (!decide ((p3 &&& 1) = 0)))), .val .null, .unset, .unset, .unset, .unset, .unset] [(.int 190)])
    refine g_iload_n B W0 at_29 rfl ?_
    show Go p.tables e below _ T0 (mkF m 30 #[.val (.int p1), .val (.int p2), .val (.int p3), .val (.int (bi (!decide ((p3 &&& 1) = 0)))), .val .null, .unset, .unset, .unset, .unset, .unset] [(.int p2), (.int 190)])
    refine g_bipush B W0 at_30 (v := 127) (by decide) ?_
    show Go p.tables e below _ T0 (mkF m 32 #[.val (.int p1), .val (.int p2), .val (.int p3), .val (.int (bi (!decide ((p3 &&& 1) = 0)))), .val .null, .unset, .unset, .unset, .unset, .unset] [(.int 127), (.int p2), (.int 190)])
    refine g_iand B W0 at_32  ?_
    show Go p.tables e below _ T0 (mkF m 33 #[.val (.int p1), .val (.int p2), .val (.int p3), .val (.int (bi (!decide ((p3 &&& 1) = 0)))), .val .null, .unset, .unset, .unset, .unset, .unset] [(.int (p2 &&& 127)), (.int 190)])
    refine g_iadd B W0 at_33  ?_
    show Go p.tables e below _ T0 (mkF m 34 #[.val (.int p1), .val (.int p2), .val (.int p3), .val (.int (bi (!decide ((p3 &&& 1) = 0)))), .val .null, .unset, .unset, .unset, .unset, .unset] [(.int (190 + (p2 &&& 127)))])
    obtain ⟨T102, h102, v102, W102, Q102, st102⟩ := x_static B W0 [(.int (190 + (p2 &&& 127)))] (c_valueOf l Z a0 hw (190 + (p2 &&& 127)) ca cl h0 Sh Sc Bx) at_34 (tw hw 0 rfl) (tw hw 1 rfl) (tw hw 2 rfl) (tw hw 3 rfl) (by decide) (lenOf pd__I_Ljava_lang_Integer_ rfl) #[.val (.int p1), .val (.int p2), .val (.int p3), .val (.int (bi (!decide ((p3 &&& 1) = 0)))), .val .null, .unset, .unset, .unset, .unset, .unset] [] rfl 0 rfl (by decide) (by decide) (by decide) (by decide)
    obtain ⟨b102, rfl, K102, E102, F102⟩ := Q102
    have s103 := K102.1
    refine st102 _ ?_
    show Go p.tables e below _ T102 (mkF m 37 #[.val (.int p1), .val (.int p2), .val (.int p3), .val (.int (bi (!decide ((p3 &&& 1) = 0)))), .val .null, .unset, .unset, .unset, .unset, .unset] [(.ref b102)])
    refine g_astore B W102 at_37 rfl (l' := #[.val (.int p1), .val (.int p2), .val (.int p3), .val (.int (bi (!decide ((p3 &&& 1) = 0)))), .val .null, .val (.ref b102), .unset, .unset, .unset, .unset]) rfl ?_
    show Go p.tables e below _ T102 (mkF m 39 #[.val (.int p1), .val (.int p2), .val (.int p3), .val (.int (bi (!decide ((p3 &&& 1) = 0)))), .val .null, .val (.ref b102), .unset, .unset, .unset, .unset] [])
    refine g_sipush B W102 at_39 (v := 190) (by decide) ?_
    show Go p.tables e below _ T102 (mkF m 42 #[.val (.int p1), .val (.int p2), .val (.int p3), .val (.int (bi (!decide ((p3 &&& 1) = 0)))), .val .null, .val (.ref b102), .unset, .unset, .unset, .unset] [(.int 190)])
    refine g_iload_n B W102 at_42 rfl ?_
    show Go p.tables e below _ T102 (mkF m 43 #[.val (.int p1), .val (.int p2), .val (.int p3), .val (.int (bi (!decide ((p3 &&& 1) = 0)))), .val .null, .val (.ref b102), .unset, .unset, .unset, .unset] [(.int p2), (.int 190)])
    refine g_bipush B W102 at_43 (v := 127) (by decide) ?_
    show Go p.tables e below _ T102 (mkF m 45 #[.val (.int p1), .val (.int p2), .val (.int p3), .val (.int (bi (!decide ((p3 &&& 1) = 0)))), .val .null, .val (.ref b102), .unset, .unset, .unset, .unset] [(.int 127), (.int p2), (.int 190)])
    refine g_iand B W102 at_45  ?_
    show Go p.tables e below _ T102 (mkF m 46 #[.val (.int p1), .val (.int p2), .val (.int p3), .val (.int (bi (!decide ((p3 &&& 1) = 0)))), .val .null, .val (.ref b102), .unset, .unset, .unset, .unset] [(.int (p2 &&& 127)), (.int 190)])
    refine g_iadd B W102 at_46  ?_
    show Go p.tables e below _ T102 (mkF m 47 #[.val (.int p1), .val (.int p2), .val (.int p3), .val (.int (bi (!decide ((p3 &&& 1) = 0)))), .val .null, .val (.ref b102), .unset, .unset, .unset, .unset] [(.int (190 + (p2 &&& 127)))])
    refine g_ineg B W102 at_47  ?_
    show Go p.tables e below _ T102 (mkF m 48 #[.val (.int p1), .val (.int p2), .val (.int p3), .val (.int (bi (!decide ((p3 &&& 1) = 0)))), .val .null, .val (.ref b102), .unset, .unset, .unset, .unset] [(.int (-(190 + (p2 &&& 127))))])
    obtain ⟨T104, h104, v104, W104, Q104, st104⟩ := x_static B W102 [(.int (-(190 + (p2 &&& 127))))] (c_valueOf l Z a0 hw (-(190 + (p2 &&& 127))) ca cl h102 Sh Sc Bx) at_48 (tw hw 0 rfl) (tw hw 1 rfl) (tw hw 2 rfl) (tw hw 3 rfl) (by decide) (lenOf pd__I_Ljava_lang_Integer_ rfl) #[.val (.int p1), .val (.int p2), .val (.int p3), .val (.int (bi (!decide ((p3 &&& 1) = 0)))), .val .null, .val (.ref b102), .unset, .unset, .unset, .unset] [] rfl 0 rfl (by decide) (by decide) (by decide) (by decide)
    obtain ⟨b104, rfl, K104, E104, F104⟩ := Q104
    have s105 := K104.1
    refine st104 _ ?_
    show Go p.tables e below _ T104 (mkF m 51 #[.val (.int p1), .val (.int p2), .val (.int p3), .val (.int (bi (!decide ((p3 &&& 1) = 0)))), .val .null, .val (.ref b102), .unset, .unset, .unset, .unset] [(.ref b104)])
    refine g_astore B W104 at_51 rfl (l' := #[.val (.int p1), .val (.int p2), .val (.int p3), .val (.int (bi (!decide ((p3 &&& 1) = 0)))), .val .null, .val (.ref b102), .val (.ref b104), .unset, .unset, .unset]) rfl ?_
    show Go p.tables e below _ T104 (mkF m 53 #[.val (.int p1), .val (.int p2), .val (.int p3), .val (.int (bi (!decide ((p3 &&& 1) = 0)))), .val .null, .val (.ref b102), .val (.ref b104), .unset, .unset, .unset] [])
    refine g_aload B W104 at_53 rfl rfl ?_
    show Go p.tables e below _ T104 (mkF m 55 #[.val (.int p1), .val (.int p2), .val (.int p3), .val (.int (bi (!decide ((p3 &&& 1) = 0)))), .val .null, .val (.ref b102), .val (.ref b104), .unset, .unset, .unset] [.null])
    obtain ⟨T106, h106, v106, W106, Q106, st106⟩ := x_static B W104 [.null] (c_succeedsN l Z a0 hw h104) at_55 (tw hw 24 rfl) (tw hw 25 rfl) (tw hw 26 rfl) (tw hw 27 rfl) (by decide) (lenOf pd__Ljava_lang_Integer__Z rfl) #[.val (.int p1), .val (.int p2), .val (.int p3), .val (.int (bi (!decide ((p3 &&& 1) = 0)))), .val .null, .val (.ref b102), .val (.ref b104), .unset, .unset, .unset] [] rfl 0 rfl (by decide) (by decide) (by decide) (by decide)
    obtain ⟨rfl, rfl⟩ := Q106
    refine st106 _ ?_
    show Go p.tables e below _ T106 (mkF m 58 #[.val (.int p1), .val (.int p2), .val (.int p3), .val (.int (bi (!decide ((p3 &&& 1) = 0)))), .val .null, .val (.ref b102), .val (.ref b104), .unset, .unset, .unset] [(.int (bi false))])
    refine g_aload B W106 at_58 rfl rfl ?_
    show Go p.tables e below _ T106 (mkF m 60 #[.val (.int p1), .val (.int p2), .val (.int p3), .val (.int (bi (!decide ((p3 &&& 1) = 0)))), .val .null, .val (.ref b102), .val (.ref b104), .unset, .unset, .unset] [.null, (.int (bi false))])
    obtain ⟨T107, h107, v107, W107, Q107, st107⟩ := x_static B W106 [.null] (c_expectedN l Z a0 hw h104) at_60 (tw hw 33 rfl) (tw hw 34 rfl) (tw hw 35 rfl) (tw hw 36 rfl) (by decide) (lenOf pd__Ljava_lang_Integer__Z rfl) #[.val (.int p1), .val (.int p2), .val (.int p3), .val (.int (bi (!decide ((p3 &&& 1) = 0)))), .val .null, .val (.ref b102), .val (.ref b104), .unset, .unset, .unset] [(.int (bi false))] rfl 1 rfl (by decide) (by decide) (by decide) (by decide)
    obtain ⟨rfl, rfl⟩ := Q107
    refine st107 _ ?_
    show Go p.tables e below _ T107 (mkF m 63 #[.val (.int p1), .val (.int p2), .val (.int p3), .val (.int (bi (!decide ((p3 &&& 1) = 0)))), .val .null, .val (.ref b102), .val (.ref b104), .unset, .unset, .unset] [(.int (bi false)), (.int (bi false))])
    refine g_diab (decide ((bi false) = (bi false))) (m := m) (ls := #[.val (.int p1), .val (.int p2), .val (.int p3), .val (.int (bi (!decide ((p3 &&& 1) = 0)))), .val .null, .val (.ref b102), .val (.ref b104), .unset, .unset, .unset]) (st := []) (pc' := 71) (fun hd1 q => ?_) (fun hd1 q => ?_) ?_
    · refine g_icmp_n B W107 at_63 (XT.ii_ne_f (by simpa using hd1)) ?_
      refine g_iconst B W107 at_66 (v := 1) (by decide) ?_
      exact g_goto B W107 at_67 (pc' := 71) (by decide) q
    · refine g_icmp_y B W107 at_63 (XT.ii_ne_t (by simpa using hd1)) (pc' := 70) (by decide) ?_
      exact g_iconst B W107 at_70 (v := 0) (by decide) q
    show Go p.tables e below _ T107 (mkF m 71 #[.val (.int p1), .val (.int p2), .val (.int p3), .val (.int (bi (!decide ((p3 &&& 1) = 0)))), .val .null, .val (.ref b102), .val (.ref b104), .unset, .unset, .unset] [(.int (bi (decide ((bi false) = (bi false)))))])
    refine g_istore B W107 at_71  (l' := #[.val (.int p1), .val (.int p2), .val (.int p3), .val (.int (bi (!decide ((p3 &&& 1) = 0)))), .val .null, .val (.ref b102), .val (.ref b104), .val (.int (bi (decide ((bi false) = (bi false))))), .unset, .unset]) rfl ?_
    show Go p.tables e below _ T107 (mkF m 73 #[.val (.int p1), .val (.int p2), .val (.int p3), .val (.int (bi (!decide ((p3 &&& 1) = 0)))), .val .null, .val (.ref b102), .val (.ref b104), .val (.int (bi (decide ((bi false) = (bi false))))), .unset, .unset] [])
    refine g_aload B W107 at_73 rfl rfl ?_
    show Go p.tables e below _ T107 (mkF m 75 #[.val (.int p1), .val (.int p2), .val (.int p3), .val (.int (bi (!decide ((p3 &&& 1) = 0)))), .val .null, .val (.ref b102), .val (.ref b104), .val (.int (bi (decide ((bi false) = (bi false))))), .unset, .unset] [(.ref b102)])
    have f108 := (E102.keep K104)
    have f109 := (F102.keep K104 nin0)
    obtain ⟨T110, h110, v110, W110, Q110, st110⟩ := x_static B W107 [(.ref b102)] (c_succeedsR l Z a0 hw b102 (190 + (p2 &&& 127)) h104 f108 f109) at_75 (tw hw 24 rfl) (tw hw 25 rfl) (tw hw 26 rfl) (tw hw 27 rfl) (by decide) (lenOf pd__Ljava_lang_Integer__Z rfl) #[.val (.int p1), .val (.int p2), .val (.int p3), .val (.int (bi (!decide ((p3 &&& 1) = 0)))), .val .null, .val (.ref b102), .val (.ref b104), .val (.int (bi (decide ((bi false) = (bi false))))), .unset, .unset] [] rfl 0 rfl (by decide) (by decide) (by decide) (by decide)
    obtain ⟨rfl, rfl⟩ := Q110
    refine st110 _ ?_
    show Go p.tables e below _ T110 (mkF m 78 #[.val (.int p1), .val (.int p2), .val (.int p3), .val (.int (bi (!decide ((p3 &&& 1) = 0)))), .val .null, .val (.ref b102), .val (.ref b104), .val (.int (bi (decide ((bi false) = (bi false))))), .unset, .unset] [(.int (bi (decide ((190 + (p2 &&& 127)) / 100 = 2))))])
    refine g_aload B W110 at_78 rfl rfl ?_
    show Go p.tables e below _ T110 (mkF m 80 #[.val (.int p1), .val (.int p2), .val (.int p3), .val (.int (bi (!decide ((p3 &&& 1) = 0)))), .val .null, .val (.ref b102), .val (.ref b104), .val (.int (bi (decide ((bi false) = (bi false))))), .unset, .unset] [(.ref b102), (.int (bi (decide ((190 + (p2 &&& 127)) / 100 = 2))))])
    obtain ⟨T111, h111, v111, W111, Q111, st111⟩ := x_static B W110 [(.ref b102)] (c_expectedR l Z a0 hw b102 (190 + (p2 &&& 127)) h104 f108 f109) at_80 (tw hw 33 rfl) (tw hw 34 rfl) (tw hw 35 rfl) (tw hw 36 rfl) (by decide) (lenOf pd__Ljava_lang_Integer__Z rfl) #[.val (.int p1), .val (.int p2), .val (.int p3), .val (.int (bi (!decide ((p3 &&& 1) = 0)))), .val .null, .val (.ref b102), .val (.ref b104), .val (.int (bi (decide ((bi false) = (bi false))))), .unset, .unset] [(.int (bi (decide ((190 + (p2 &&& 127)) / 100 = 2))))] rfl 1 rfl (by decide) (by decide) (by decide) (by decide)
    obtain ⟨rfl, rfl⟩ := Q111
    refine st111 _ ?_
    show Go p.tables e below _ T111 (mkF m 83 #[.val (.int p1), .val (.int p2), .val (.int p3), .val (.int (bi (!decide ((p3 &&& 1) = 0)))), .val .null, .val (.ref b102), .val (.ref b104), .val (.int (bi (decide ((bi false) = (bi false))))), .unset, .unset] [(.int (bi (decide ((190 + (p2 &&& 127)) / 100 = 2)))), (.int (bi (decide ((190 + (p2 &&& 127)) / 100 = 2))))])
    refine g_diab (decide ((bi (decide ((190 + (p2 &&& 127)) / 100 = 2))) = (bi (decide ((190 + (p2 &&& 127)) / 100 = 2))))) (m := m) (ls := #[.val (.int p1), .val (.int p2), .val (.int p3), .val (.int (bi (!decide ((p3 &&& 1) = 0)))), .val .null, .val (.ref b102), .val (.ref b104), .val (.int (bi (decide ((bi false) = (bi false))))), .unset, .unset]) (st := []) (pc' := 91) (fun hd1 q => ?_) (fun hd1 q => ?_) ?_
    · refine g_icmp_n B W111 at_83 (XT.ii_ne_f (by simpa using hd1)) ?_
      refine g_iconst B W111 at_86 (v := 1) (by decide) ?_
      exact g_goto B W111 at_87 (pc' := 91) (by decide) q
    · refine g_icmp_y B W111 at_83 (XT.ii_ne_t (by simpa using hd1)) (pc' := 90) (by decide) ?_
      exact g_iconst B W111 at_90 (v := 0) (by decide) q
    show Go p.tables e below _ T111 (mkF m 91 #[.val (.int p1), .val (.int p2), .val (.int p3), .val (.int (bi (!decide ((p3 &&& 1) = 0)))), .val .null, .val (.ref b102), .val (.ref b104), .val (.int (bi (decide ((bi false) = (bi false))))), .unset, .unset] [(.int (bi (decide ((bi (decide ((190 + (p2 &&& 127)) / 100 = 2))) = (bi (decide ((190 + (p2 &&& 127)) / 100 = 2)))))))])
    refine g_istore B W111 at_91  (l' := #[.val (.int p1), .val (.int p2), .val (.int p3), .val (.int (bi (!decide ((p3 &&& 1) = 0)))), .val .null, .val (.ref b102), .val (.ref b104), .val (.int (bi (decide ((bi false) = (bi false))))), .val (.int (bi (decide ((bi (decide ((190 + (p2 &&& 127)) / 100 = 2))) = (bi (decide ((190 + (p2 &&& 127)) / 100 = 2))))))), .unset]) rfl ?_
    show Go p.tables e below _ T111 (mkF m 93 #[.val (.int p1), .val (.int p2), .val (.int p3), .val (.int (bi (!decide ((p3 &&& 1) = 0)))), .val .null, .val (.ref b102), .val (.ref b104), .val (.int (bi (decide ((bi false) = (bi false))))), .val (.int (bi (decide ((bi (decide ((190 + (p2 &&& 127)) / 100 = 2))) = (bi (decide ((190 + (p2 &&& 127)) / 100 = 2))))))), .unset] [])
    refine g_aload B W111 at_93 rfl rfl ?_
    show Go p.tables e below _ T111 (mkF m 95 #[.val (.int p1), .val (.int p2), .val (.int p3), .val (.int (bi (!decide ((p3 &&& 1) = 0)))), .val .null, .val (.ref b102), .val (.ref b104), .val (.int (bi (decide ((bi false) = (bi false))))), .val (.int (bi (decide ((bi (decide ((190 + (p2 &&& 127)) / 100 = 2))) = (bi (decide ((190 + (p2 &&& 127)) / 100 = 2))))))), .unset] [(.ref b104)])
    obtain ⟨T112, h112, v112, W112, Q112, st112⟩ := x_static B W111 [(.ref b104)] (c_succeedsR l Z a0 hw b104 (-(190 + (p2 &&& 127))) h104 E104 F104) at_95 (tw hw 24 rfl) (tw hw 25 rfl) (tw hw 26 rfl) (tw hw 27 rfl) (by decide) (lenOf pd__Ljava_lang_Integer__Z rfl) #[.val (.int p1), .val (.int p2), .val (.int p3), .val (.int (bi (!decide ((p3 &&& 1) = 0)))), .val .null, .val (.ref b102), .val (.ref b104), .val (.int (bi (decide ((bi false) = (bi false))))), .val (.int (bi (decide ((bi (decide ((190 + (p2 &&& 127)) / 100 = 2))) = (bi (decide ((190 + (p2 &&& 127)) / 100 = 2))))))), .unset] [] rfl 0 rfl (by decide) (by decide) (by decide) (by decide)
    obtain ⟨rfl, rfl⟩ := Q112
    refine st112 _ ?_
    show Go p.tables e below _ T112 (mkF m 98 #[.val (.int p1), .val (.int p2), .val (.int p3), .val (.int (bi (!decide ((p3 &&& 1) = 0)))), .val .null, .val (.ref b102), .val (.ref b104), .val (.int (bi (decide ((bi false) = (bi false))))), .val (.int (bi (decide ((bi (decide ((190 + (p2 &&& 127)) / 100 = 2))) = (bi (decide ((190 + (p2 &&& 127)) / 100 = 2))))))), .unset] [(.int (bi (decide ((-(190 + (p2 &&& 127))) / 100 = 2))))])
    refine g_aload B W112 at_98 rfl rfl ?_
    show Go p.tables e below _ T112 (mkF m 100 #[.val (.int p1), .val (.int p2), .val (.int p3), .val (.int (bi (!decide ((p3 &&& 1) = 0)))), .val .null, .val (.ref b102), .val (.ref b104), .val (.int (bi (decide ((bi false) = (bi false))))), .val (.int (bi (decide ((bi (decide ((190 + (p2 &&& 127)) / 100 = 2))) = (bi (decide ((190 + (p2 &&& 127)) / 100 = 2))))))), .unset] [(.ref b104), (.int (bi (decide ((-(190 + (p2 &&& 127))) / 100 = 2))))])
    obtain ⟨T113, h113, v113, W113, Q113, st113⟩ := x_static B W112 [(.ref b104)] (c_expectedR l Z a0 hw b104 (-(190 + (p2 &&& 127))) h104 E104 F104) at_100 (tw hw 33 rfl) (tw hw 34 rfl) (tw hw 35 rfl) (tw hw 36 rfl) (by decide) (lenOf pd__Ljava_lang_Integer__Z rfl) #[.val (.int p1), .val (.int p2), .val (.int p3), .val (.int (bi (!decide ((p3 &&& 1) = 0)))), .val .null, .val (.ref b102), .val (.ref b104), .val (.int (bi (decide ((bi false) = (bi false))))), .val (.int (bi (decide ((bi (decide ((190 + (p2 &&& 127)) / 100 = 2))) = (bi (decide ((190 + (p2 &&& 127)) / 100 = 2))))))), .unset] [(.int (bi (decide ((-(190 + (p2 &&& 127))) / 100 = 2))))] rfl 1 rfl (by decide) (by decide) (by decide) (by decide)
    obtain ⟨rfl, rfl⟩ := Q113
    refine st113 _ ?_
    show Go p.tables e below _ T113 (mkF m 103 #[.val (.int p1), .val (.int p2), .val (.int p3), .val (.int (bi (!decide ((p3 &&& 1) = 0)))), .val .null, .val (.ref b102), .val (.ref b104), .val (.int (bi (decide ((bi false) = (bi false))))), .val (.int (bi (decide ((bi (decide ((190 + (p2 &&& 127)) / 100 = 2))) = (bi (decide ((190 + (p2 &&& 127)) / 100 = 2))))))), .unset] [(.int (bi (decide ((-(190 + (p2 &&& 127))) / 100 = 2)))), (.int (bi (decide ((-(190 + (p2 &&& 127))) / 100 = 2))))])
    refine g_diab (decide ((bi (decide ((-(190 + (p2 &&& 127))) / 100 = 2))) = (bi (decide ((-(190 + (p2 &&& 127))) / 100 = 2))))) (m := m) (ls := #[.val (.int p1), .val (.int p2), .val (.int p3), .val (.int (bi (!decide ((p3 &&& 1) = 0)))), .val .null, .val (.ref b102), .val (.ref b104), .val (.int (bi (decide ((bi false) = (bi false))))), .val (.int (bi (decide ((bi (decide ((190 + (p2 &&& 127)) / 100 = 2))) = (bi (decide ((190 + (p2 &&& 127)) / 100 = 2))))))), .unset]) (st := []) (pc' := 111) (fun hd1 q => ?_) (fun hd1 q => ?_) ?_
    · refine g_icmp_n B W113 at_103 (XT.ii_ne_f (by simpa using hd1)) ?_
      refine g_iconst B W113 at_106 (v := 1) (by decide) ?_
      exact g_goto B W113 at_107 (pc' := 111) (by decide) q
    · refine g_icmp_y B W113 at_103 (XT.ii_ne_t (by simpa using hd1)) (pc' := 110) (by decide) ?_
      exact g_iconst B W113 at_110 (v := 0) (by decide) q
    show Go p.tables e below _ T113 (mkF m 111 #[.val (.int p1), .val (.int p2), .val (.int p3), .val (.int (bi (!decide ((p3 &&& 1) = 0)))), .val .null, .val (.ref b102), .val (.ref b104), .val (.int (bi (decide ((bi false) = (bi false))))), .val (.int (bi (decide ((bi (decide ((190 + (p2 &&& 127)) / 100 = 2))) = (bi (decide ((190 + (p2 &&& 127)) / 100 = 2))))))), .unset] [(.int (bi (decide ((bi (decide ((-(190 + (p2 &&& 127))) / 100 = 2))) = (bi (decide ((-(190 + (p2 &&& 127))) / 100 = 2)))))))])
    refine g_istore B W113 at_111  (l' := #[.val (.int p1), .val (.int p2), .val (.int p3), .val (.int (bi (!decide ((p3 &&& 1) = 0)))), .val .null, .val (.ref b102), .val (.ref b104), .val (.int (bi (decide ((bi false) = (bi false))))), .val (.int (bi (decide ((bi (decide ((190 + (p2 &&& 127)) / 100 = 2))) = (bi (decide ((190 + (p2 &&& 127)) / 100 = 2))))))), .val (.int (bi (decide ((bi (decide ((-(190 + (p2 &&& 127))) / 100 = 2))) = (bi (decide ((-(190 + (p2 &&& 127))) / 100 = 2)))))))]) rfl ?_
    show Go p.tables e below _ T113 (mkF m 113 #[.val (.int p1), .val (.int p2), .val (.int p3), .val (.int (bi (!decide ((p3 &&& 1) = 0)))), .val .null, .val (.ref b102), .val (.ref b104), .val (.int (bi (decide ((bi false) = (bi false))))), .val (.int (bi (decide ((bi (decide ((190 + (p2 &&& 127)) / 100 = 2))) = (bi (decide ((190 + (p2 &&& 127)) / 100 = 2))))))), .val (.int (bi (decide ((bi (decide ((-(190 + (p2 &&& 127))) / 100 = 2))) = (bi (decide ((-(190 + (p2 &&& 127))) / 100 = 2)))))))] [])
    refine g_iload B W113 at_113 rfl ?_
    show Go p.tables e below _ T113 (mkF m 115 #[.val (.int p1), .val (.int p2), .val (.int p3), .val (.int (bi (!decide ((p3 &&& 1) = 0)))), .val .null, .val (.ref b102), .val (.ref b104), .val (.int (bi (decide ((bi false) = (bi false))))), .val (.int (bi (decide ((bi (decide ((190 + (p2 &&& 127)) / 100 = 2))) = (bi (decide ((190 + (p2 &&& 127)) / 100 = 2))))))), .val (.int (bi (decide ((bi (decide ((-(190 + (p2 &&& 127))) / 100 = 2))) = (bi (decide ((-(190 + (p2 &&& 127))) / 100 = 2)))))))] [(.int (bi (decide ((bi false) = (bi false)))))])
    refine g_if_n B W113 at_115 (XT.i0_eq_f (bi_t (by simp))) ?_
    show Go p.tables e below _ T113 (mkF m 118 #[.val (.int p1), .val (.int p2), .val (.int p3), .val (.int (bi (!decide ((p3 &&& 1) = 0)))), .val .null, .val (.ref b102), .val (.ref b104), .val (.int (bi (decide ((bi false) = (bi false))))), .val (.int (bi (decide ((bi (decide ((190 + (p2 &&& 127)) / 100 = 2))) = (bi (decide ((190 + (p2 &&& 127)) / 100 = 2))))))), .val (.int (bi (decide ((bi (decide ((-(190 + (p2 &&& 127))) / 100 = 2))) = (bi (decide ((-(190 + (p2 &&& 127))) / 100 = 2)))))))] [])
    refine g_iload B W113 at_118 rfl ?_
    show Go p.tables e below _ T113 (mkF m 120 #[.val (.int p1), .val (.int p2), .val (.int p3), .val (.int (bi (!decide ((p3 &&& 1) = 0)))), .val .null, .val (.ref b102), .val (.ref b104), .val (.int (bi (decide ((bi false) = (bi false))))), .val (.int (bi (decide ((bi (decide ((190 + (p2 &&& 127)) / 100 = 2))) = (bi (decide ((190 + (p2 &&& 127)) / 100 = 2))))))), .val (.int (bi (decide ((bi (decide ((-(190 + (p2 &&& 127))) / 100 = 2))) = (bi (decide ((-(190 + (p2 &&& 127))) / 100 = 2)))))))] [(.int (bi (decide ((bi (decide ((190 + (p2 &&& 127)) / 100 = 2))) = (bi (decide ((190 + (p2 &&& 127)) / 100 = 2)))))))])
    refine g_if_n B W113 at_120 (XT.i0_eq_f (bi_t (by simp))) ?_
    show Go p.tables e below _ T113 (mkF m 123 #[.val (.int p1), .val (.int p2), .val (.int p3), .val (.int (bi (!decide ((p3 &&& 1) = 0)))), .val .null, .val (.ref b102), .val (.ref b104), .val (.int (bi (decide ((bi false) = (bi false))))), .val (.int (bi (decide ((bi (decide ((190 + (p2 &&& 127)) / 100 = 2))) = (bi (decide ((190 + (p2 &&& 127)) / 100 = 2))))))), .val (.int (bi (decide ((bi (decide ((-(190 + (p2 &&& 127))) / 100 = 2))) = (bi (decide ((-(190 + (p2 &&& 127))) / 100 = 2)))))))] [])
    refine g_iload B W113 at_123 rfl ?_
    show Go p.tables e below _ T113 (mkF m 125 #[.val (.int p1), .val (.int p2), .val (.int p3), .val (.int (bi (!decide ((p3 &&& 1) = 0)))), .val .null, .val (.ref b102), .val (.ref b104), .val (.int (bi (decide ((bi false) = (bi false))))), .val (.int (bi (decide ((bi (decide ((190 + (p2 &&& 127)) / 100 = 2))) = (bi (decide ((190 + (p2 &&& 127)) / 100 = 2))))))), .val (.int (bi (decide ((bi (decide ((-(190 + (p2 &&& 127))) / 100 = 2))) = (bi (decide ((-(190 + (p2 &&& 127))) / 100 = 2)))))))] [(.int (bi (decide ((bi (decide ((-(190 + (p2 &&& 127))) / 100 = 2))) = (bi (decide ((-(190 + (p2 &&& 127))) / 100 = 2)))))))])
    refine g_if_n B W113 at_125 (XT.i0_eq_f (bi_t (by simp))) ?_
    show Go p.tables e below _ T113 (mkF m 128 #[.val (.int p1), .val (.int p2), .val (.int p3), .val (.int (bi (!decide ((p3 &&& 1) = 0)))), .val .null, .val (.ref b102), .val (.ref b104), .val (.int (bi (decide ((bi false) = (bi false))))), .val (.int (bi (decide ((bi (decide ((190 + (p2 &&& 127)) / 100 = 2))) = (bi (decide ((190 + (p2 &&& 127)) / 100 = 2))))))), .val (.int (bi (decide ((bi (decide ((-(190 + (p2 &&& 127))) / 100 = 2))) = (bi (decide ((-(190 + (p2 &&& 127))) / 100 = 2)))))))] [])
    refine g_iconst B W113 at_128 (v := 1) (by decide) ?_
    show Go p.tables e below _ T113 (mkF m 129 #[.val (.int p1), .val (.int p2), .val (.int p3), .val (.int (bi (!decide ((p3 &&& 1) = 0)))), .val .null, .val (.ref b102), .val (.ref b104), .val (.int (bi (decide ((bi false) = (bi false))))), .val (.int (bi (decide ((bi (decide ((190 + (p2 &&& 127)) / 100 = 2))) = (bi (decide ((190 + (p2 &&& 127)) / 100 = 2))))))), .val (.int (bi (decide ((bi (decide ((-(190 + (p2 &&& 127))) / 100 = 2))) = (bi (decide ((-(190 + (p2 &&& 127))) / 100 = 2)))))))] [(.int 1)])
    refine g_goto B W113 at_129 (pc' := 133) (by decide) ?_
    show Go p.tables e below _ T113 (mkF m 133 #[.val (.int p1), .val (.int p2), .val (.int p3), .val (.int (bi (!decide ((p3 &&& 1) = 0)))), .val .null, .val (.ref b102), .val (.ref b104), .val (.int (bi (decide ((bi false) = (bi false))))), .val (.int (bi (decide ((bi (decide ((190 + (p2 &&& 127)) / 100 = 2))) = (bi (decide ((190 + (p2 &&& 127)) / 100 = 2))))))), .val (.int (bi (decide ((bi (decide ((-(190 + (p2 &&& 127))) / 100 = 2))) = (bi (decide ((-(190 + (p2 &&& 127))) / 100 = 2)))))))] [(.int 1)])
    exact r_n B W113 (t := .boolean) rfl (by simp) at_133 (by decide) (by decide) rfl
  · skip
    refine g_if_y B W0 at_13 (XT.i0_eq_t (bi_f (Bool.eq_false_iff.mpr hc101))) (pc' := 20) (by decide) ?_
    show Go p.tables e below _ T0 (mkF m 20 #[.val (.int p1), .val (.int p2), .val (.int p3), .val (.int (bi (!decide ((p3 &&& 1) = 0)))), .unset, .unset, .unset, .unset, .unset, .unset] [])
    refine g_iload_n B W0 at_20 rfl ?_
    show Go p.tables e below _ T0 (mkF m 21 #[.val (.int p1), .val (.int p2), .val (.int p3), .val (.int (bi (!decide ((p3 &&& 1) = 0)))), .unset, .unset, .unset, .unset, .unset, .unset] [(.int p1)])
    obtain ⟨T114, h114, v114, W114, Q114, st114⟩ := x_static B W0 [(.int p1)] (c_valueOf l Z a0 hw p1 ca cl h0 Sh Sc Bx) at_21 (tw hw 0 rfl) (tw hw 1 rfl) (tw hw 2 rfl) (tw hw 3 rfl) (by decide) (lenOf pd__I_Ljava_lang_Integer_ rfl) #[.val (.int p1), .val (.int p2), .val (.int p3), .val (.int (bi (!decide ((p3 &&& 1) = 0)))), .unset, .unset, .unset, .unset, .unset, .unset] [] rfl 0 rfl (by decide) (by decide) (by decide) (by decide)
    obtain ⟨b114, rfl, K114, E114, F114⟩ := Q114
    have s115 := K114.1
    refine st114 _ ?_
    show Go p.tables e below _ T114 (mkF m 24 #[.val (.int p1), .val (.int p2), .val (.int p3), .val (.int (bi (!decide ((p3 &&& 1) = 0)))), .unset, .unset, .unset, .unset, .unset, .unset] [(.ref b114)])
    refine g_astore B W114 at_24 rfl (l' := #[.val (.int p1), .val (.int p2), .val (.int p3), .val (.int (bi (!decide ((p3 &&& 1) = 0)))), .val (.ref b114), .unset, .unset, .unset, .unset, .unset]) rfl ?_
    show Go p.tables e below _ T114 (mkF m 26 #[.val (.int p1), .val (.int p2), .val (.int p3), .val (.int (bi (!decide ((p3 &&& 1) = 0)))), .val (.ref b114), .unset, .unset, .unset, .unset, .unset] [])
    refine g_sipush B W114 at_26 (v := 190) (by decide) ?_
    show Go p.tables e below _ T114 (mkF m 29 #[.val (.int p1), .val (.int p2), .val (.int p3), .val (.int (bi (!decide ((p3 &&& 1) = 0)))), .val (.ref b114), .unset, .unset, .unset, .unset, .unset] [(.int 190)])
    refine g_iload_n B W114 at_29 rfl ?_
    show Go p.tables e below _ T114 (mkF m 30 #[.val (.int p1), .val (.int p2), .val (.int p3), .val (.int (bi (!decide ((p3 &&& 1) = 0)))), .val (.ref b114), .unset, .unset, .unset, .unset, .unset] [(.int p2), (.int 190)])
    refine g_bipush B W114 at_30 (v := 127) (by decide) ?_
    show Go p.tables e below _ T114 (mkF m 32 #[.val (.int p1), .val (.int p2), .val (.int p3), .val (.int (bi (!decide ((p3 &&& 1) = 0)))), .val (.ref b114), .unset, .unset, .unset, .unset, .unset] [(.int 127), (.int p2), (.int 190)])
    refine g_iand B W114 at_32  ?_
    show Go p.tables e below _ T114 (mkF m 33 #[.val (.int p1), .val (.int p2), .val (.int p3), .val (.int (bi (!decide ((p3 &&& 1) = 0)))), .val (.ref b114), .unset, .unset, .unset, .unset, .unset] [(.int (p2 &&& 127)), (.int 190)])
    refine g_iadd B W114 at_33  ?_
    show Go p.tables e below _ T114 (mkF m 34 #[.val (.int p1), .val (.int p2), .val (.int p3), .val (.int (bi (!decide ((p3 &&& 1) = 0)))), .val (.ref b114), .unset, .unset, .unset, .unset, .unset] [(.int (190 + (p2 &&& 127)))])
    obtain ⟨T116, h116, v116, W116, Q116, st116⟩ := x_static B W114 [(.int (190 + (p2 &&& 127)))] (c_valueOf l Z a0 hw (190 + (p2 &&& 127)) ca cl h114 Sh Sc Bx) at_34 (tw hw 0 rfl) (tw hw 1 rfl) (tw hw 2 rfl) (tw hw 3 rfl) (by decide) (lenOf pd__I_Ljava_lang_Integer_ rfl) #[.val (.int p1), .val (.int p2), .val (.int p3), .val (.int (bi (!decide ((p3 &&& 1) = 0)))), .val (.ref b114), .unset, .unset, .unset, .unset, .unset] [] rfl 0 rfl (by decide) (by decide) (by decide) (by decide)
    obtain ⟨b116, rfl, K116, E116, F116⟩ := Q116
    have s117 := K116.1
    refine st116 _ ?_
    show Go p.tables e below _ T116 (mkF m 37 #[.val (.int p1), .val (.int p2), .val (.int p3), .val (.int (bi (!decide ((p3 &&& 1) = 0)))), .val (.ref b114), .unset, .unset, .unset, .unset, .unset] [(.ref b116)])
    refine g_astore B W116 at_37 rfl (l' := #[.val (.int p1), .val (.int p2), .val (.int p3), .val (.int (bi (!decide ((p3 &&& 1) = 0)))), .val (.ref b114), .val (.ref b116), .unset, .unset, .unset, .unset]) rfl ?_
    show Go p.tables e below _ T116 (mkF m 39 #[.val (.int p1), .val (.int p2), .val (.int p3), .val (.int (bi (!decide ((p3 &&& 1) = 0)))), .val (.ref b114), .val (.ref b116), .unset, .unset, .unset, .unset] [])
    refine g_sipush B W116 at_39 (v := 190) (by decide) ?_
    show Go p.tables e below _ T116 (mkF m 42 #[.val (.int p1), .val (.int p2), .val (.int p3), .val (.int (bi (!decide ((p3 &&& 1) = 0)))), .val (.ref b114), .val (.ref b116), .unset, .unset, .unset, .unset] [(.int 190)])
    refine g_iload_n B W116 at_42 rfl ?_
    show Go p.tables e below _ T116 (mkF m 43 #[.val (.int p1), .val (.int p2), .val (.int p3), .val (.int (bi (!decide ((p3 &&& 1) = 0)))), .val (.ref b114), .val (.ref b116), .unset, .unset, .unset, .unset] [(.int p2), (.int 190)])
    refine g_bipush B W116 at_43 (v := 127) (by decide) ?_
    show Go p.tables e below _ T116 (mkF m 45 #[.val (.int p1), .val (.int p2), .val (.int p3), .val (.int (bi (!decide ((p3 &&& 1) = 0)))), .val (.ref b114), .val (.ref b116), .unset, .unset, .unset, .unset] [(.int 127), (.int p2), (.int 190)])
    refine g_iand B W116 at_45  ?_
    show Go p.tables e below _ T116 (mkF m 46 #[.val (.int p1), .val (.int p2), .val (.int p3), .val (.int (bi (!decide ((p3 &&& 1) = 0)))), .val (.ref b114), .val (.ref b116), .unset, .unset, .unset, .unset] [(.int (p2 &&& 127)), (.int 190)])
    refine g_iadd B W116 at_46  ?_
    show Go p.tables e below _ T116 (mkF m 47 #[.val (.int p1), .val (.int p2), .val (.int p3), .val (.int (bi (!decide ((p3 &&& 1) = 0)))), .val (.ref b114), .val (.ref b116), .unset, .unset, .unset, .unset] [(.int (190 + (p2 &&& 127)))])
    refine g_ineg B W116 at_47  ?_
    show Go p.tables e below _ T116 (mkF m 48 #[.val (.int p1), .val (.int p2), .val (.int p3), .val (.int (bi (!decide ((p3 &&& 1) = 0)))), .val (.ref b114), .val (.ref b116), .unset, .unset, .unset, .unset] [(.int (-(190 + (p2 &&& 127))))])
    obtain ⟨T118, h118, v118, W118, Q118, st118⟩ := x_static B W116 [(.int (-(190 + (p2 &&& 127))))] (c_valueOf l Z a0 hw (-(190 + (p2 &&& 127))) ca cl h116 Sh Sc Bx) at_48 (tw hw 0 rfl) (tw hw 1 rfl) (tw hw 2 rfl) (tw hw 3 rfl) (by decide) (lenOf pd__I_Ljava_lang_Integer_ rfl) #[.val (.int p1), .val (.int p2), .val (.int p3), .val (.int (bi (!decide ((p3 &&& 1) = 0)))), .val (.ref b114), .val (.ref b116), .unset, .unset, .unset, .unset] [] rfl 0 rfl (by decide) (by decide) (by decide) (by decide)
    obtain ⟨b118, rfl, K118, E118, F118⟩ := Q118
    have s119 := K118.1
    refine st118 _ ?_
    show Go p.tables e below _ T118 (mkF m 51 #[.val (.int p1), .val (.int p2), .val (.int p3), .val (.int (bi (!decide ((p3 &&& 1) = 0)))), .val (.ref b114), .val (.ref b116), .unset, .unset, .unset, .unset] [(.ref b118)])
    refine g_astore B W118 at_51 rfl (l' := #[.val (.int p1), .val (.int p2), .val (.int p3), .val (.int (bi (!decide ((p3 &&& 1) = 0)))), .val (.ref b114), .val (.ref b116), .val (.ref b118), .unset, .unset, .unset]) rfl ?_
    show Go p.tables e below _ T118 (mkF m 53 #[.val (.int p1), .val (.int p2), .val (.int p3), .val (.int (bi (!decide ((p3 &&& 1) = 0)))), .val (.ref b114), .val (.ref b116), .val (.ref b118), .unset, .unset, .unset] [])
    refine g_aload B W118 at_53 rfl rfl ?_
    show Go p.tables e below _ T118 (mkF m 55 #[.val (.int p1), .val (.int p2), .val (.int p3), .val (.int (bi (!decide ((p3 &&& 1) = 0)))), .val (.ref b114), .val (.ref b116), .val (.ref b118), .unset, .unset, .unset] [(.ref b114)])
    have f120 := ((E114.keep K116).keep K118)
    have f121 := ((F114.keep K116 nin0).keep K118 nin0)
    obtain ⟨T122, h122, v122, W122, Q122, st122⟩ := x_static B W118 [(.ref b114)] (c_succeedsR l Z a0 hw b114 p1 h118 f120 f121) at_55 (tw hw 24 rfl) (tw hw 25 rfl) (tw hw 26 rfl) (tw hw 27 rfl) (by decide) (lenOf pd__Ljava_lang_Integer__Z rfl) #[.val (.int p1), .val (.int p2), .val (.int p3), .val (.int (bi (!decide ((p3 &&& 1) = 0)))), .val (.ref b114), .val (.ref b116), .val (.ref b118), .unset, .unset, .unset] [] rfl 0 rfl (by decide) (by decide) (by decide) (by decide)
    obtain ⟨rfl, rfl⟩ := Q122
    refine st122 _ ?_
    show Go p.tables e below _ T122 (mkF m 58 #[.val (.int p1), .val (.int p2), .val (.int p3), .val (.int (bi (!decide ((p3 &&& 1) = 0)))), .val (.ref b114), .val (.ref b116), .val (.ref b118), .unset, .unset, .unset] [(.int (bi (decide (p1 / 100 = 2))))])
    refine g_aload B W122 at_58 rfl rfl ?_
    show Go p.tables e below _ T122 (mkF m 60 #[.val (.int p1), .val (.int p2), .val (.int p3), .val (.int (bi (!decide ((p3 &&& 1) = 0)))), .val (.ref b114), .val (.ref b116), .val (.ref b118), .unset, .unset, .unset] [(.ref b114), (.int (bi (decide (p1 / 100 = 2))))])
    obtain ⟨T123, h123, v123, W123, Q123, st123⟩ := x_static B W122 [(.ref b114)] (c_expectedR l Z a0 hw b114 p1 h118 f120 f121) at_60 (tw hw 33 rfl) (tw hw 34 rfl) (tw hw 35 rfl) (tw hw 36 rfl) (by decide) (lenOf pd__Ljava_lang_Integer__Z rfl) #[.val (.int p1), .val (.int p2), .val (.int p3), .val (.int (bi (!decide ((p3 &&& 1) = 0)))), .val (.ref b114), .val (.ref b116), .val (.ref b118), .unset, .unset, .unset] [(.int (bi (decide (p1 / 100 = 2))))] rfl 1 rfl (by decide) (by decide) (by decide) (by decide)
    obtain ⟨rfl, rfl⟩ := Q123
    refine st123 _ ?_
    show Go p.tables e below _ T123 (mkF m 63 #[.val (.int p1), .val (.int p2), .val (.int p3), .val (.int (bi (!decide ((p3 &&& 1) = 0)))), .val (.ref b114), .val (.ref b116), .val (.ref b118), .unset, .unset, .unset] [(.int (bi (decide (p1 / 100 = 2)))), (.int (bi (decide (p1 / 100 = 2))))])
    refine g_diab (decide ((bi (decide (p1 / 100 = 2))) = (bi (decide (p1 / 100 = 2))))) (m := m) (ls := #[.val (.int p1), .val (.int p2), .val (.int p3), .val (.int (bi (!decide ((p3 &&& 1) = 0)))), .val (.ref b114), .val (.ref b116), .val (.ref b118), .unset, .unset, .unset]) (st := []) (pc' := 71) (fun hd1 q => ?_) (fun hd1 q => ?_) ?_
    · refine g_icmp_n B W123 at_63 (XT.ii_ne_f (by simpa using hd1)) ?_
      refine g_iconst B W123 at_66 (v := 1) (by decide) ?_
      exact g_goto B W123 at_67 (pc' := 71) (by decide) q
    · refine g_icmp_y B W123 at_63 (XT.ii_ne_t (by simpa using hd1)) (pc' := 70) (by decide) ?_
      exact g_iconst B W123 at_70 (v := 0) (by decide) q
    show Go p.tables e below _ T123 (mkF m 71 #[.val (.int p1), .val (.int p2), .val (.int p3), .val (.int (bi (!decide ((p3 &&& 1) = 0)))), .val (.ref b114), .val (.ref b116), .val (.ref b118), .unset, .unset, .unset] [(.int (bi (decide ((bi (decide (p1 / 100 = 2))) = (bi (decide (p1 / 100 = 2)))))))])
    refine g_istore B W123 at_71  (l' := #[.val (.int p1), .val (.int p2), .val (.int p3), .val (.int (bi (!decide ((p3 &&& 1) = 0)))), .val (.ref b114), .val (.ref b116), .val (.ref b118), .val (.int (bi (decide ((bi (decide (p1 / 100 = 2))) = (bi (decide (p1 / 100 = 2))))))), .unset, .unset]) rfl ?_
    show Go p.tables e below _ T123 (mkF m 73 #[.val (.int p1), .val (.int p2), .val (.int p3), .val (.int (bi (!decide ((p3 &&& 1) = 0)))), .val (.ref b114), .val (.ref b116), .val (.ref b118), .val (.int (bi (decide ((bi (decide (p1 / 100 = 2))) = (bi (decide (p1 / 100 = 2))))))), .unset, .unset] [])
    refine g_aload B W123 at_73 rfl rfl ?_
    show Go p.tables e below _ T123 (mkF m 75 #[.val (.int p1), .val (.int p2), .val (.int p3), .val (.int (bi (!decide ((p3 &&& 1) = 0)))), .val (.ref b114), .val (.ref b116), .val (.ref b118), .val (.int (bi (decide ((bi (decide (p1 / 100 = 2))) = (bi (decide (p1 / 100 = 2))))))), .unset, .unset] [(.ref b116)])
    have f124 := (E116.keep K118)
    have f125 := (F116.keep K118 nin0)
    obtain ⟨T126, h126, v126, W126, Q126, st126⟩ := x_static B W123 [(.ref b116)] (c_succeedsR l Z a0 hw b116 (190 + (p2 &&& 127)) h118 f124 f125) at_75 (tw hw 24 rfl) (tw hw 25 rfl) (tw hw 26 rfl) (tw hw 27 rfl) (by decide) (lenOf pd__Ljava_lang_Integer__Z rfl) #[.val (.int p1), .val (.int p2), .val (.int p3), .val (.int (bi (!decide ((p3 &&& 1) = 0)))), .val (.ref b114), .val (.ref b116), .val (.ref b118), .val (.int (bi (decide ((bi (decide (p1 / 100 = 2))) = (bi (decide (p1 / 100 = 2))))))), .unset, .unset] [] rfl 0 rfl (by decide) (by decide) (by decide) (by decide)
    obtain ⟨rfl, rfl⟩ := Q126
    refine st126 _ ?_
    show Go p.tables e below _ T126 (mkF m 78 #[.val (.int p1), .val (.int p2), .val (.int p3), .val (.int (bi (!decide ((p3 &&& 1) = 0)))), .val (.ref b114), .val (.ref b116), .val (.ref b118), .val (.int (bi (decide ((bi (decide (p1 / 100 = 2))) = (bi (decide (p1 / 100 = 2))))))), .unset, .unset] [(.int (bi (decide ((190 + (p2 &&& 127)) / 100 = 2))))])
    refine g_aload B W126 at_78 rfl rfl ?_
    show Go p.tables e below _ T126 (mkF m 80 #[.val (.int p1), .val (.int p2), .val (.int p3), .val (.int (bi (!decide ((p3 &&& 1) = 0)))), .val (.ref b114), .val (.ref b116), .val (.ref b118), .val (.int (bi (decide ((bi (decide (p1 / 100 = 2))) = (bi (decide (p1 / 100 = 2))))))), .unset, .unset] [(.ref b116), (.int (bi (decide ((190 + (p2 &&& 127)) / 100 = 2))))])
    obtain ⟨T127, h127, v127, W127, Q127, st127⟩ := x_static B W126 [(.ref b116)] (c_expectedR l Z a0 hw b116 (190 + (p2 &&& 127)) h118 f124 f125) at_80 (tw hw 33 rfl) (tw hw 34 rfl) (tw hw 35 rfl) (tw hw 36 rfl) (by decide) (lenOf pd__Ljava_lang_Integer__Z rfl) #[.val (.int p1), .val (.int p2), .val (.int p3), .val (.int (bi (!decide ((p3 &&& 1) = 0)))), .val (.ref b114), .val (.ref b116), .val (.ref b118), .val (.int (bi (decide ((bi (decide (p1 / 100 = 2))) = (bi (decide (p1 / 100 = 2))))))), .unset, .unset] [(.int (bi (decide ((190 + (p2 &&& 127)) / 100 = 2))))] rfl 1 rfl (by decide) (by decide) (by decide) (by decide)
    obtain ⟨rfl, rfl⟩ := Q127
    refine st127 _ ?_
    show Go p.tables e below _ T127 (mkF m 83 #[.val (.int p1), .val (.int p2), .val (.int p3), .val (.int (bi (!decide ((p3 &&& 1) = 0)))), .val (.ref b114), .val (.ref b116), .val (.ref b118), .val (.int (bi (decide ((bi (decide (p1 / 100 = 2))) = (bi (decide (p1 / 100 = 2))))))), .unset, .unset] [(.int (bi (decide ((190 + (p2 &&& 127)) / 100 = 2)))), (.int (bi (decide ((190 + (p2 &&& 127)) / 100 = 2))))])
    refine g_diab (decide ((bi (decide ((190 + (p2 &&& 127)) / 100 = 2))) = (bi (decide ((190 + (p2 &&& 127)) / 100 = 2))))) (m := m) (ls := #[.val (.int p1), .val (.int p2), .val (.int p3), .val (.int (bi (!decide ((p3 &&& 1) = 0)))), .val (.ref b114), .val (.ref b116), .val (.ref b118), .val (.int (bi (decide ((bi (decide (p1 / 100 = 2))) = (bi (decide (p1 / 100 = 2))))))), .unset, .unset]) (st := []) (pc' := 91) (fun hd1 q => ?_) (fun hd1 q => ?_) ?_
    · refine g_icmp_n B W127 at_83 (XT.ii_ne_f (by simpa using hd1)) ?_
      refine g_iconst B W127 at_86 (v := 1) (by decide) ?_
      exact g_goto B W127 at_87 (pc' := 91) (by decide) q
    · refine g_icmp_y B W127 at_83 (XT.ii_ne_t (by simpa using hd1)) (pc' := 90) (by decide) ?_
      exact g_iconst B W127 at_90 (v := 0) (by decide) q
    show Go p.tables e below _ T127 (mkF m 91 #[.val (.int p1), .val (.int p2), .val (.int p3), .val (.int (bi (!decide ((p3 &&& 1) = 0)))), .val (.ref b114), .val (.ref b116), .val (.ref b118), .val (.int (bi (decide ((bi (decide (p1 / 100 = 2))) = (bi (decide (p1 / 100 = 2))))))), .unset, .unset] [(.int (bi (decide ((bi (decide ((190 + (p2 &&& 127)) / 100 = 2))) = (bi (decide ((190 + (p2 &&& 127)) / 100 = 2)))))))])
    refine g_istore B W127 at_91  (l' := #[.val (.int p1), .val (.int p2), .val (.int p3), .val (.int (bi (!decide ((p3 &&& 1) = 0)))), .val (.ref b114), .val (.ref b116), .val (.ref b118), .val (.int (bi (decide ((bi (decide (p1 / 100 = 2))) = (bi (decide (p1 / 100 = 2))))))), .val (.int (bi (decide ((bi (decide ((190 + (p2 &&& 127)) / 100 = 2))) = (bi (decide ((190 + (p2 &&& 127)) / 100 = 2))))))), .unset]) rfl ?_
    show Go p.tables e below _ T127 (mkF m 93 #[.val (.int p1), .val (.int p2), .val (.int p3), .val (.int (bi (!decide ((p3 &&& 1) = 0)))), .val (.ref b114), .val (.ref b116), .val (.ref b118), .val (.int (bi (decide ((bi (decide (p1 / 100 = 2))) = (bi (decide (p1 / 100 = 2))))))), .val (.int (bi (decide ((bi (decide ((190 + (p2 &&& 127)) / 100 = 2))) = (bi (decide ((190 + (p2 &&& 127)) / 100 = 2))))))), .unset] [])
    refine g_aload B W127 at_93 rfl rfl ?_
    show Go p.tables e below _ T127 (mkF m 95 #[.val (.int p1), .val (.int p2), .val (.int p3), .val (.int (bi (!decide ((p3 &&& 1) = 0)))), .val (.ref b114), .val (.ref b116), .val (.ref b118), .val (.int (bi (decide ((bi (decide (p1 / 100 = 2))) = (bi (decide (p1 / 100 = 2))))))), .val (.int (bi (decide ((bi (decide ((190 + (p2 &&& 127)) / 100 = 2))) = (bi (decide ((190 + (p2 &&& 127)) / 100 = 2))))))), .unset] [(.ref b118)])
    obtain ⟨T128, h128, v128, W128, Q128, st128⟩ := x_static B W127 [(.ref b118)] (c_succeedsR l Z a0 hw b118 (-(190 + (p2 &&& 127))) h118 E118 F118) at_95 (tw hw 24 rfl) (tw hw 25 rfl) (tw hw 26 rfl) (tw hw 27 rfl) (by decide) (lenOf pd__Ljava_lang_Integer__Z rfl) #[.val (.int p1), .val (.int p2), .val (.int p3), .val (.int (bi (!decide ((p3 &&& 1) = 0)))), .val (.ref b114), .val (.ref b116), .val (.ref b118), .val (.int (bi (decide ((bi (decide (p1 / 100 = 2))) = (bi (decide (p1 / 100 = 2))))))), .val (.int (bi (decide ((bi (decide ((190 + (p2 &&& 127)) / 100 = 2))) = (bi (decide ((190 + (p2 &&& 127)) / 100 = 2))))))), .unset] [] rfl 0 rfl (by decide) (by decide) (by decide) (by decide)
    obtain ⟨rfl, rfl⟩ := Q128
    refine st128 _ ?_
    show Go p.tables e below _ T128 (mkF m 98 #[.val (.int p1), .val (.int p2), .val (.int p3), .val (.int (bi (!decide ((p3 &&& 1) = 0)))), .val (.ref b114), .val (.ref b116), .val (.ref b118), .val (.int (bi (decide ((bi (decide (p1 / 100 = 2))) = (bi (decide (p1 / 100 = 2))))))), .val (.int (bi (decide ((bi (decide ((190 + (p2 &&& 127)) / 100 = 2))) = (bi (decide ((190 + (p2 &&& 127)) / 100 = 2))))))), .unset] [(.int (bi (decide ((-(190 + (p2 &&& 127))) / 100 = 2))))])
    refine g_aload B W128 at_98 rfl rfl ?_
    show Go p.tables e below _ T128 (mkF m 100 #[.val (.int p1), .val (.int p2), .val (.int p3), .val (.int (bi (!decide ((p3 &&& 1) = 0)))), .val (.ref b114), .val (.ref b116), .val (.ref b118), .val (.int (bi (decide ((bi (decide (p1 / 100 = 2))) = (bi (decide (p1 / 100 = 2))))))), .val (.int (bi (decide ((bi (decide ((190 + (p2 &&& 127)) / 100 = 2))) = (bi (decide ((190 + (p2 &&& 127)) / 100 = 2))))))), .unset] [(.ref b118), (.int (bi (decide ((-(190 + (p2 &&& 127))) / 100 = 2))))])
    obtain ⟨T129, h129, v129, W129, Q129, st129⟩ := x_static B W128 [(.ref b118)] (c_expectedR l Z a0 hw b118 (-(190 + (p2 &&& 127))) h118 E118 F118) at_100 (tw hw 33 rfl) (tw hw 34 rfl) (tw hw 35 rfl) (tw hw 36 rfl) (by decide) (lenOf pd__Ljava_lang_Integer__Z rfl) #[.val (.int p1), .val (.int p2), .val (.int p3), .val (.int (bi (!decide ((p3 &&& 1) = 0)))), .val (.ref b114), .val (.ref b116), .val (.ref b118), .val (.int (bi (decide ((bi (decide (p1 / 100 = 2))) = (bi (decide (p1 / 100 = 2))))))), .val (.int (bi (decide ((bi (decide ((190 + (p2 &&& 127)) / 100 = 2))) = (bi (decide ((190 + (p2 &&& 127)) / 100 = 2))))))), .unset] [(.int (bi (decide ((-(190 + (p2 &&& 127))) / 100 = 2))))] rfl 1 rfl (by decide) (by decide) (by decide) (by decide)
    obtain ⟨rfl, rfl⟩ := Q129
    refine st129 _ ?_
    show Go p.tables e below _ T129 (mkF m 103 #[.val (.int p1), .val (.int p2), .val (.int p3), .val (.int (bi (!decide ((p3 &&& 1) = 0)))), .val (.ref b114), .val (.ref b116), .val (.ref b118), .val (.int (bi (decide ((bi (decide (p1 / 100 = 2))) = (bi (decide (p1 / 100 = 2))))))), .val (.int (bi (decide ((bi (decide ((190 + (p2 &&& 127)) / 100 = 2))) = (bi (decide ((190 + (p2 &&& 127)) / 100 = 2))))))), .unset] [(.int (bi (decide ((-(190 + (p2 &&& 127))) / 100 = 2)))), (.int (bi (decide ((-(190 + (p2 &&& 127))) / 100 = 2))))])
    refine g_diab (decide ((bi (decide ((-(190 + (p2 &&& 127))) / 100 = 2))) = (bi (decide ((-(190 + (p2 &&& 127))) / 100 = 2))))) (m := m) (ls := #[.val (.int p1), .val (.int p2), .val (.int p3), .val (.int (bi (!decide ((p3 &&& 1) = 0)))), .val (.ref b114), .val (.ref b116), .val (.ref b118), .val (.int (bi (decide ((bi (decide (p1 / 100 = 2))) = (bi (decide (p1 / 100 = 2))))))), .val (.int (bi (decide ((bi (decide ((190 + (p2 &&& 127)) / 100 = 2))) = (bi (decide ((190 + (p2 &&& 127)) / 100 = 2))))))), .unset]) (st := []) (pc' := 111) (fun hd1 q => ?_) (fun hd1 q => ?_) ?_
    · refine g_icmp_n B W129 at_103 (XT.ii_ne_f (by simpa using hd1)) ?_
      refine g_iconst B W129 at_106 (v := 1) (by decide) ?_
      exact g_goto B W129 at_107 (pc' := 111) (by decide) q
    · refine g_icmp_y B W129 at_103 (XT.ii_ne_t (by simpa using hd1)) (pc' := 110) (by decide) ?_
      exact g_iconst B W129 at_110 (v := 0) (by decide) q
    show Go p.tables e below _ T129 (mkF m 111 #[.val (.int p1), .val (.int p2), .val (.int p3), .val (.int (bi (!decide ((p3 &&& 1) = 0)))), .val (.ref b114), .val (.ref b116), .val (.ref b118), .val (.int (bi (decide ((bi (decide (p1 / 100 = 2))) = (bi (decide (p1 / 100 = 2))))))), .val (.int (bi (decide ((bi (decide ((190 + (p2 &&& 127)) / 100 = 2))) = (bi (decide ((190 + (p2 &&& 127)) / 100 = 2))))))), .unset] [(.int (bi (decide ((bi (decide ((-(190 + (p2 &&& 127))) / 100 = 2))) = (bi (decide ((-(190 + (p2 &&& 127))) / 100 = 2)))))))])
    refine g_istore B W129 at_111  (l' := #[.val (.int p1), .val (.int p2), .val (.int p3), .val (.int (bi (!decide ((p3 &&& 1) = 0)))), .val (.ref b114), .val (.ref b116), .val (.ref b118), .val (.int (bi (decide ((bi (decide (p1 / 100 = 2))) = (bi (decide (p1 / 100 = 2))))))), .val (.int (bi (decide ((bi (decide ((190 + (p2 &&& 127)) / 100 = 2))) = (bi (decide ((190 + (p2 &&& 127)) / 100 = 2))))))), .val (.int (bi (decide ((bi (decide ((-(190 + (p2 &&& 127))) / 100 = 2))) = (bi (decide ((-(190 + (p2 &&& 127))) / 100 = 2)))))))]) rfl ?_
    show Go p.tables e below _ T129 (mkF m 113 #[.val (.int p1), .val (.int p2), .val (.int p3), .val (.int (bi (!decide ((p3 &&& 1) = 0)))), .val (.ref b114), .val (.ref b116), .val (.ref b118), .val (.int (bi (decide ((bi (decide (p1 / 100 = 2))) = (bi (decide (p1 / 100 = 2))))))), .val (.int (bi (decide ((bi (decide ((190 + (p2 &&& 127)) / 100 = 2))) = (bi (decide ((190 + (p2 &&& 127)) / 100 = 2))))))), .val (.int (bi (decide ((bi (decide ((-(190 + (p2 &&& 127))) / 100 = 2))) = (bi (decide ((-(190 + (p2 &&& 127))) / 100 = 2)))))))] [])
    refine g_iload B W129 at_113 rfl ?_
    show Go p.tables e below _ T129 (mkF m 115 #[.val (.int p1), .val (.int p2), .val (.int p3), .val (.int (bi (!decide ((p3 &&& 1) = 0)))), .val (.ref b114), .val (.ref b116), .val (.ref b118), .val (.int (bi (decide ((bi (decide (p1 / 100 = 2))) = (bi (decide (p1 / 100 = 2))))))), .val (.int (bi (decide ((bi (decide ((190 + (p2 &&& 127)) / 100 = 2))) = (bi (decide ((190 + (p2 &&& 127)) / 100 = 2))))))), .val (.int (bi (decide ((bi (decide ((-(190 + (p2 &&& 127))) / 100 = 2))) = (bi (decide ((-(190 + (p2 &&& 127))) / 100 = 2)))))))] [(.int (bi (decide ((bi (decide (p1 / 100 = 2))) = (bi (decide (p1 / 100 = 2)))))))])
    refine g_if_n B W129 at_115 (XT.i0_eq_f (bi_t (by simp))) ?_
    show Go p.tables e below _ T129 (mkF m 118 #[.val (.int p1), .val (.int p2), .val (.int p3), .val (.int (bi (!decide ((p3 &&& 1) = 0)))), .val (.ref b114), .val (.ref b116), .val (.ref b118), .val (.int (bi (decide ((bi (decide (p1 / 100 = 2))) = (bi (decide (p1 / 100 = 2))))))), .val (.int (bi (decide ((bi (decide ((190 + (p2 &&& 127)) / 100 = 2))) = (bi (decide ((190 + (p2 &&& 127)) / 100 = 2))))))), .val (.int (bi (decide ((bi (decide ((-(190 + (p2 &&& 127))) / 100 = 2))) = (bi (decide ((-(190 + (p2 &&& 127))) / 100 = 2)))))))] [])
    refine g_iload B W129 at_118 rfl ?_
    show Go p.tables e below _ T129 (mkF m 120 #[.val (.int p1), .val (.int p2), .val (.int p3), .val (.int (bi (!decide ((p3 &&& 1) = 0)))), .val (.ref b114), .val (.ref b116), .val (.ref b118), .val (.int (bi (decide ((bi (decide (p1 / 100 = 2))) = (bi (decide (p1 / 100 = 2))))))), .val (.int (bi (decide ((bi (decide ((190 + (p2 &&& 127)) / 100 = 2))) = (bi (decide ((190 + (p2 &&& 127)) / 100 = 2))))))), .val (.int (bi (decide ((bi (decide ((-(190 + (p2 &&& 127))) / 100 = 2))) = (bi (decide ((-(190 + (p2 &&& 127))) / 100 = 2)))))))] [(.int (bi (decide ((bi (decide ((190 + (p2 &&& 127)) / 100 = 2))) = (bi (decide ((190 + (p2 &&& 127)) / 100 = 2)))))))])
    refine g_if_n B W129 at_120 (XT.i0_eq_f (bi_t (by simp))) ?_
    show Go p.tables e below _ T129 (mkF m 123 #[.val (.int p1), .val (.int p2), .val (.int p3), .val (.int (bi (!decide ((p3 &&& 1) = 0)))), .val (.ref b114), .val (.ref b116), .val (.ref b118), .val (.int (bi (decide ((bi (decide (p1 / 100 = 2))) = (bi (decide (p1 / 100 = 2))))))), .val (.int (bi (decide ((bi (decide ((190 + (p2 &&& 127)) / 100 = 2))) = (bi (decide ((190 + (p2 &&& 127)) / 100 = 2))))))), .val (.int (bi (decide ((bi (decide ((-(190 + (p2 &&& 127))) / 100 = 2))) = (bi (decide ((-(190 + (p2 &&& 127))) / 100 = 2)))))))] [])
    refine g_iload B W129 at_123 rfl ?_
    show Go p.tables e below _ T129 (mkF m 125 #[.val (.int p1), .val (.int p2), .val (.int p3), .val (.int (bi (!decide ((p3 &&& 1) = 0)))), .val (.ref b114), .val (.ref b116), .val (.ref b118), .val (.int (bi (decide ((bi (decide (p1 / 100 = 2))) = (bi (decide (p1 / 100 = 2))))))), .val (.int (bi (decide ((bi (decide ((190 + (p2 &&& 127)) / 100 = 2))) = (bi (decide ((190 + (p2 &&& 127)) / 100 = 2))))))), .val (.int (bi (decide ((bi (decide ((-(190 + (p2 &&& 127))) / 100 = 2))) = (bi (decide ((-(190 + (p2 &&& 127))) / 100 = 2)))))))] [(.int (bi (decide ((bi (decide ((-(190 + (p2 &&& 127))) / 100 = 2))) = (bi (decide ((-(190 + (p2 &&& 127))) / 100 = 2)))))))])
    refine g_if_n B W129 at_125 (XT.i0_eq_f (bi_t (by simp))) ?_
    show Go p.tables e below _ T129 (mkF m 128 #[.val (.int p1), .val (.int p2), .val (.int p3), .val (.int (bi (!decide ((p3 &&& 1) = 0)))), .val (.ref b114), .val (.ref b116), .val (.ref b118), .val (.int (bi (decide ((bi (decide (p1 / 100 = 2))) = (bi (decide (p1 / 100 = 2))))))), .val (.int (bi (decide ((bi (decide ((190 + (p2 &&& 127)) / 100 = 2))) = (bi (decide ((190 + (p2 &&& 127)) / 100 = 2))))))), .val (.int (bi (decide ((bi (decide ((-(190 + (p2 &&& 127))) / 100 = 2))) = (bi (decide ((-(190 + (p2 &&& 127))) / 100 = 2)))))))] [])
    refine g_iconst B W129 at_128 (v := 1) (by decide) ?_
    show Go p.tables e below _ T129 (mkF m 129 #[.val (.int p1), .val (.int p2), .val (.int p3), .val (.int (bi (!decide ((p3 &&& 1) = 0)))), .val (.ref b114), .val (.ref b116), .val (.ref b118), .val (.int (bi (decide ((bi (decide (p1 / 100 = 2))) = (bi (decide (p1 / 100 = 2))))))), .val (.int (bi (decide ((bi (decide ((190 + (p2 &&& 127)) / 100 = 2))) = (bi (decide ((190 + (p2 &&& 127)) / 100 = 2))))))), .val (.int (bi (decide ((bi (decide ((-(190 + (p2 &&& 127))) / 100 = 2))) = (bi (decide ((-(190 + (p2 &&& 127))) / 100 = 2)))))))] [(.int 1)])
    refine g_goto B W129 at_129 (pc' := 133) (by decide) ?_
    show Go p.tables e below _ T129 (mkF m 133 #[.val (.int p1), .val (.int p2), .val (.int p3), .val (.int (bi (!decide ((p3 &&& 1) = 0)))), .val (.ref b114), .val (.ref b116), .val (.ref b118), .val (.int (bi (decide ((bi (decide (p1 / 100 = 2))) = (bi (decide (p1 / 100 = 2))))))), .val (.int (bi (decide ((bi (decide ((190 + (p2 &&& 127)) / 100 = 2))) = (bi (decide ((190 + (p2 &&& 127)) / 100 = 2))))))), .val (.int (bi (decide ((bi (decide ((-(190 + (p2 &&& 127))) / 100 = 2))) = (bi (decide ((-(190 + (p2 &&& 127))) / 100 = 2)))))))] [(.int 1)])
    exact r_n B W129 (t := .boolean) rfl (by simp) at_133 (by decide) (by decide) rfl
set_option maxRecDepth 65536 in
set_option maxHeartbeats 40000000 in
theorem comes_1 {Post : Tables → Env → Array Value → State → Outcome → State → Prop} (hpost : ∀ tb e args s v u, (limb_1_1.after args s (.returned v) u = true ∧ limb_1_2.after args s (.returned v) u = true ∧ True) → FrameEnd s (.returned v) u (Jvm.fieldLocs frame_1_writes args s ++ Jvm.arrayLocs frame_1_arrays args s ++ Jvm.staticLocs frame_1_statics s) 16 128 → Post tb e args s (.returned v) u) :
    ArmFor flags0 classFile x code maxLocals ret World_1 tables_1 room_1 Calls_1 rest_1 Pre_1 Post := by
  intro l hfl _ _ p e ha hc hk s m args below hf hA hF happ hP
  obtain ⟨hcalls, hrest, hpre⟩ := hP
  obtain ⟨-, -, -, hnamed, -, -, -, hat⟩ := (Spec.applies_iff hf).mp happ
  obtain ⟨hg, hn⟩ := and_e (Cond.before_iff.mp (show (Jvm.Cond.and given_1 narrow_1).before args s = true from hpre))
  obtain ⟨hcnt, hgs⟩ := and_e hg
  obtain ⟨ha0, hr0⟩ := and_e hgs
  obtain ⟨ha1, hr1⟩ := and_e hr0
  have ha2 := hr1
  obtain ⟨w0, w1, w2, rfl⟩ : ∃ w0 w1 w2 : Value, args = #[w0, w1, w2] := by
    have hs : args.size = 3 := by simpa [Cond.value, given_1] using hcnt
    obtain ⟨L⟩ := args
    match L, hs with
    | [w0, w1, w2], _ => exact ⟨w0, w1, w2, rfl⟩
  have hw := fun d (hd : d ∈ tables_1) => atoms_spec (ws := Jvm.Cond.code x code maxLocals ret :: tables_1) hat d (List.mem_cons_of_mem _ hd)
  obtain ⟨hsets, hown0⟩ := atoms_of _ (rest_1_c_eq ▸ (show rest_1_c.before _ s = true from hrest))
  have hfit : Fit s := fun {y c} hc i hi => by
    obtain ⟨ha, rfl⟩ := Array.getElem?_eq_some_iff.mp hc
    have q := List.all_eq_true.mp ((Array.all_eq_true_iff_forall_mem.mp hF) _ (Array.getElem_mem ha)) i (List.mem_range.mpr hi)
    simpa [Array.getElem?_eq_getElem hi] using q
  obtain ⟨i0, ei0⟩ := is_v ha0
  obtain rfl : w0 = (.int i0) := Option.some.inj ei0
  obtain ⟨i1, ei1⟩ := is_v ha1
  obtain rfl : w1 = (.int i1) := Option.some.inj ei1
  obtain ⟨i2, ei2⟩ := is_v ha2
  obtain rfl : w2 = (.int i2) := Option.some.inj ei2
  have Sh : Sta s s.heap "java/lang/Integer$IntegerCache" "high" "I" (.int 127) := Sta.start (eqv_i (Term.int_eval 127) (Cond.before_iff.mp (hsets _ (List.mem_of_getElem? (i := 3) rfl)))) (Or.inl (hsets _ (List.mem_of_getElem? (i := 1) rfl)))
  obtain ⟨ca, eca⟩ := exa_v (Cond.before_iff.mp (hsets _ (List.mem_of_getElem? (i := 5) rfl)))
  have Sc : Sta s s.heap "java/lang/Integer$IntegerCache" "cache" "[Ljava/lang/Integer;" (.ref ca) := Sta.start eca (Or.inr ⟨hw _ (List.mem_of_getElem? (i := 5) rfl), (hsets _ (List.mem_of_getElem? (i := 2) rfl))⟩)
  obtain ⟨cl, Acl⟩ := Arr.start eca (Cond.before_iff.mp (hsets _ (List.mem_of_getElem? (i := 4) rfl)))
  obtain ⟨qlen, elen⟩ := own_len Acl eca (Cond.before_iff.mp (hsets _ (List.mem_of_getElem? (i := 6) rfl)))
  have Bx : Bxs s ca cl "java/lang/Integer" "I" 256 (fun j => .int (j - 128)) := Bxs.start (fun _ => eca) Acl qlen elen (by decide) (Cond.before_iff.mp (hsets _ (List.mem_of_getElem? (i := 7) rfl))) (fun X j hj h => eqv_i (own_ix hj) h)
  obtain ⟨n, o, h1, h2, h3, v, L, rfl, ⟨hQ, N, -⟩, hq⟩ := c_law l s _ hw tables_1 i0 i1 i2 ca cl s.heap Sh Sc Bx (Old.start s) p e ha hc hk s m _ below hf ((Spec.applies_iff_loose hf).mp happ).1 ⟨rfl, State.Warmed39.refl s, rfl⟩ trivial
  obtain rfl := hQ
  exact ⟨n, _, h1, h2, h3, hpost _ _ _ _ _ _ ⟨Cond.after_iff.mpr rfl, Cond.after_iff.mpr (eq_i res_at (Term.int_eval (1)) rfl), trivial⟩ ⟨hq.1, hq.2.1, (hq.2.2.sift fun y hy => Or.inr (N y hy)).mono (by decide) (by decide)⟩⟩
theorem main_1_1 : Claimed_1_1 := comes_1 fun _ _ _ _ _ _ h hF => ⟨h.1, hF⟩
theorem main_1_2 : Claimed_1_2 := comes_1 fun _ _ _ _ _ _ h hF => ⟨h.2.1, hF⟩
end Jvm.Pilot.@@N@@
namespace Jvm.Pilot.@@N@@
open Jvm Jvm.ClassFile Sem Op Lib Jvm.Free Jvm.Stand Jvm.Pilot.@@N@@.Jvm.D
/-! MADE BY PROGRAM (witnessworld.py) out of the Statement's table words and the real class files: 17 classes; the members and pool entries that the words name. The judged class is class 1, her method 2. -/
namespace start1
open Jvm.ClassFile
def u (s : String) : CpInfo := .utf8 (stringToUtf16 s)
/-- a pool by its gaps: so many unusable entries, then the entry; so many at the end -/
def gap : Nat → List CpInfo → List CpInfo
  | 0, r => r
  | n + 1, r => .unusable :: gap n r
def poolList (es : List (Nat × CpInfo)) (last : Nat) : List CpInfo := es.foldr (fun e r => gap e.1 (e.2 :: r)) (gap last [])
def pool (es : List (Nat × CpInfo)) (last : Nat) : Array CpInfo := ⟨poolList es last⟩
def fileOf (pool : Array CpInfo) (this : Nat) (attrs : Array Attribute := #[]) (ms : Array MethodInfo := #[]) (fl : Nat := 33) (sup : Nat := 0) (ifs : Array Nat := #[]) (fds : Array FieldInfo := #[]) : ClassFile where
  minorVersion := 0
  majorVersion := 65
  constantPool := pool
  accessFlags := fl
  thisClass := this
  superClass := sup
  interfaces := ifs
  fields := fds
  methods := ms
  attributes := attrs
def plain (name : String) (sup : Option ClassId) : Class where
  name := name
  kind := .ordinary
  loader := none
  accessFlags := 33
  super := sup
  interfaces := #[]
  cf := none
  fields := #[]
  methods := #[]
  instanceTypes := #[]
  staticTypes := #[]
  resolved := #[]
  callSites := []
  init := .initialized
  statics := none
  mirror := none

def pool0 : Array CpInfo := pool [(5, u "<init>"), (0, u "()V"), (1, .class_ 10), (1, u "java/lang/Object")] 113

def k0c0 : Code := { maxStack := 0, maxLocals := 1, code := object_method_1_code, exceptionTable := #[], attributes := #[] }
def k0m0 : Method := { name := "<init>", desc := "()V", sig := { parameters := [], returnType := none }, accessFlags := 1, code := some k0c0 }
/-- java/lang/Object -/
def k0 : Class := { plain "java/lang/Object" none with
  accessFlags := 33
  interfaces := #[]
  cf := some (fileOf pool0 8 #[] #[{ accessFlags := 1, nameIndex := 5, descriptorIndex := 6, attributes := #[] }] 33 0 #[] #[])
  fields := #[]
  methods := #[k0m0]
  instanceTypes := #[]
  staticTypes := #[]
  resolved := Array.replicate 124 none
  statics := none }

def pool1 : Array CpInfo := pool [(2, .class_ 4), (1, u "java/lang/Object"), (0, u "<init>"), (0, u "()V"), (0, .methodref 8 9), (0, .class_ 10), (0, .nameAndType 11 12), (0, u "java/lang/Integer"), (0, u "intValue"), (0, u "()I"), (0, .methodref 8 14), (0, .nameAndType 15 16), (0, u "valueOf"), (0, u "(I)Ljava/lang/Integer;"), (0, .methodref 18 19), (0, .class_ 20), (0, .nameAndType 21 22), (0, u "com/example/vervet/vervet/delivery/Attempt"), (0, u "succeeds"), (0, u "(Ljava/lang/Integer;)Z"), (0, .methodref 24 25), (0, .class_ 26), (0, .nameAndType 27 22), (0, u "com/example/vervet/vervet/delivery/AttemptSucceedsPinLaw"), (0, u "expected"), (3, u "law"), (0, u "(III)Z")] 2

def k1m0 : Method := { name := "<init>", desc := "()V", sig := { parameters := [], returnType := none }, accessFlags := 1, code := none }
def k1c1 : Code := { maxStack := 2, maxLocals := 2, code := method_2_code, exceptionTable := #[], attributes := #[] }
def k1m1 : Method := { name := "expected", desc := "(Ljava/lang/Integer;)Z", sig := { parameters := [(.object "java/lang/Integer")], returnType := some .boolean }, accessFlags := 10, code := some k1c1 }
def k1c2 : Code := { maxStack := 3, maxLocals := 10, code := code, exceptionTable := #[], attributes := #[] }
def k1m2 : Method := { name := "law", desc := "(III)Z", sig := { parameters := [.int, .int, .int], returnType := some .boolean }, accessFlags := 9, code := some k1c2 }
/-- com/example/vervet/vervet/delivery/AttemptSucceedsPinLaw -/
def k1 : Class := { plain "com/example/vervet/vervet/delivery/AttemptSucceedsPinLaw" (some 0) with
  accessFlags := 49
  interfaces := #[]
  cf := some (fileOf pool1 24 #[] #[{ accessFlags := 1, nameIndex := 5, descriptorIndex := 6, attributes := #[] }, { accessFlags := 10, nameIndex := 27, descriptorIndex := 22, attributes := #[] }, { accessFlags := 9, nameIndex := 31, descriptorIndex := 32, attributes := #[] }] 49 2 #[] #[])
  fields := #[]
  methods := #[k1m0, k1m1, k1m2]
  instanceTypes := #[]
  staticTypes := #[]
  resolved := Array.replicate 35 none
  statics := none }

def pool2 : Array CpInfo := pool [(1, .class_ 2), (0, u "java/io/Serializable"), (0, .class_ 4), (0, u "java/lang/Object")] 2

/-- java/io/Serializable -/
def k2 : Class := { plain "java/io/Serializable" (some 0) with
  accessFlags := 1537
  interfaces := #[]
  cf := some (fileOf pool2 1 #[] #[] 1537 3 #[] #[])
  fields := #[]
  methods := #[]
  instanceTypes := #[]
  staticTypes := #[]
  resolved := Array.replicate 7 none
  statics := none }

def pool3 : Array CpInfo := pool [(1, .methodref 2 3), (0, .class_ 4), (0, .nameAndType 5 6), (0, u "java/lang/Object"), (0, u "<init>"), (0, u "()V"), (1, .class_ 10), (1, u "java/lang/Number"), (2, .class_ 14), (0, u "java/io/Serializable"), (0, u "serialVersionUID"), (0, u "J")] 20

def k3c0 : Code := { maxStack := 1, maxLocals := 1, code := jdk_18_method_1_code, exceptionTable := #[], attributes := #[] }
def k3m0 : Method := { name := "<init>", desc := "()V", sig := { parameters := [], returnType := none }, accessFlags := 1, code := some k3c0 }
/-- java/lang/Number -/
def k3 : Class := { plain "java/lang/Number" (some 0) with
  accessFlags := 1057
  interfaces := #[2]
  cf := some (fileOf pool3 8 #[] #[{ accessFlags := 1, nameIndex := 5, descriptorIndex := 6, attributes := #[] }] 1057 2 #[13] #[{ accessFlags := 26, nameIndex := 15, descriptorIndex := 16, attributes := #[] }])
  fields := #[{ name := "serialVersionUID", type := .long, accessFlags := 26, slot := 0, constantValue := 0 }]
  methods := #[k3m0]
  instanceTypes := #[]
  staticTypes := #[.long]
  resolved := Array.replicate 37 none
  statics := none }

def pool4 : Array CpInfo := pool [(1, .class_ 2), (0, u "java/lang/Comparable"), (0, .class_ 4), (0, u "java/lang/Object")] 7

/-- java/lang/Comparable -/
def k4 : Class := { plain "java/lang/Comparable" (some 0) with
  accessFlags := 1537
  interfaces := #[]
  cf := some (fileOf pool4 1 #[] #[] 1537 3 #[] #[])
  fields := #[]
  methods := #[]
  instanceTypes := #[]
  staticTypes := #[]
  resolved := Array.replicate 12 none
  statics := none }

def pool5 : Array CpInfo := pool [(1, .class_ 2), (0, u "java/lang/constant/Constable"), (0, .class_ 4), (0, u "java/lang/Object")] 6

/-- java/lang/constant/Constable -/
def k5 : Class := { plain "java/lang/constant/Constable" (some 0) with
  accessFlags := 1537
  interfaces := #[]
  cf := some (fileOf pool5 1 #[] #[] 1537 3 #[] #[])
  fields := #[]
  methods := #[]
  instanceTypes := #[]
  staticTypes := #[]
  resolved := Array.replicate 11 none
  statics := none }

def pool6 : Array CpInfo := pool [(1, .class_ 2), (0, u "java/lang/constant/ConstantDesc"), (0, .class_ 4), (0, u "java/lang/Object")] 32

/-- java/lang/constant/ConstantDesc -/
def k6 : Class := { plain "java/lang/constant/ConstantDesc" (some 0) with
  accessFlags := 1537
  interfaces := #[]
  cf := some (fileOf pool6 1 #[] #[] 1537 3 #[] #[])
  fields := #[]
  methods := #[]
  instanceTypes := #[]
  staticTypes := #[]
  resolved := Array.replicate 37 none
  statics := none }

def pool7 : Array CpInfo := pool [(1, .class_ 2), (0, u "java/lang/Integer"), (16, u "digits"), (0, u "[C"), (46, u "<init>"), (17, u "DigitOnes"), (0, u "[B"), (2, u "DigitTens"), (10, .nameAndType 67 101), (0, u "()V"), (19, u "()I"), (65, u "valueOf"), (0, u "(I)Ljava/lang/Integer;"), (0, .class_ 190), (0, u "java/lang/Integer$IntegerCache"), (0, .fieldref 189 192), (0, .nameAndType 193 194), (0, u "high"), (0, u "I"), (0, .fieldref 189 196), (0, .nameAndType 197 198), (0, u "cache"), (0, u "[Ljava/lang/Integer;"), (0, .methodref 1 200), (0, .nameAndType 67 201), (0, u "(I)V"), (0, .methodref 203 100), (0, .class_ 204), (0, u "java/lang/Number"), (0, .fieldref 1 206), (0, .nameAndType 207 194), (0, u "value"), (5, u "intValue"), (88, u "TYPE"), (0, u "Ljava/lang/Class;"), (0, .class_ 305), (0, u "java/lang/Comparable"), (0, .class_ 307), (0, u "java/lang/constant/Constable"), (0, .class_ 309), (0, u "java/lang/constant/ConstantDesc"), (0, u "MIN_VALUE"), (1, u "MAX_VALUE"), (3, u "SIZE"), (1, u "BYTES"), (1, u "serialVersionUID"), (0, u "J")] 131

def k7c0 : Code := { maxStack := 3, maxLocals := 1, code := jdk_33_method_22_code, exceptionTable := #[], attributes := #[] }
def k7m0 : Method := { name := "valueOf", desc := "(I)Ljava/lang/Integer;", sig := { parameters := [.int], returnType := some (.object "java/lang/Integer") }, accessFlags := 9, code := some k7c0 }
def k7c1 : Code := { maxStack := 2, maxLocals := 2, code := jdk_33_method_23_code, exceptionTable := #[], attributes := #[] }
def k7m1 : Method := { name := "<init>", desc := "(I)V", sig := { parameters := [.int], returnType := none }, accessFlags := 1, code := some k7c1 }
def k7c2 : Code := { maxStack := 1, maxLocals := 1, code := jdk_33_method_27_code, exceptionTable := #[], attributes := #[] }
def k7m2 : Method := { name := "intValue", desc := "()I", sig := { parameters := [], returnType := some .int }, accessFlags := 1, code := some k7c2 }
/-- java/lang/Integer -/
def k7 : Class := { plain "java/lang/Integer" (some 3) with
  accessFlags := 49
  interfaces := #[4, 5, 6]
  cf := some (fileOf pool7 1 #[.nestMembers #[189]] #[{ accessFlags := 9, nameIndex := 187, descriptorIndex := 188, attributes := #[] }, { accessFlags := 1, nameIndex := 67, descriptorIndex := 201, attributes := #[] }, { accessFlags := 1, nameIndex := 213, descriptorIndex := 121, attributes := #[] }] 49 203 #[304, 306, 308] #[{ accessFlags := 25, nameIndex := 310, descriptorIndex := 194, attributes := #[] }, { accessFlags := 25, nameIndex := 312, descriptorIndex := 194, attributes := #[] }, { accessFlags := 25, nameIndex := 302, descriptorIndex := 303, attributes := #[] }, { accessFlags := 24, nameIndex := 19, descriptorIndex := 20, attributes := #[] }, { accessFlags := 24, nameIndex := 89, descriptorIndex := 86, attributes := #[] }, { accessFlags := 24, nameIndex := 85, descriptorIndex := 86, attributes := #[] }, { accessFlags := 18, nameIndex := 207, descriptorIndex := 194, attributes := #[] }, { accessFlags := 25, nameIndex := 316, descriptorIndex := 194, attributes := #[] }, { accessFlags := 25, nameIndex := 318, descriptorIndex := 194, attributes := #[] }, { accessFlags := 26, nameIndex := 320, descriptorIndex := 321, attributes := #[] }])
  fields := #[{ name := "MIN_VALUE", type := .int, accessFlags := 25, slot := 0, constantValue := 0 }, { name := "MAX_VALUE", type := .int, accessFlags := 25, slot := 1, constantValue := 0 }, { name := "TYPE", type := (.object "java/lang/Class"), accessFlags := 25, slot := 2, constantValue := 0 }, { name := "digits", type := (.array .char), accessFlags := 24, slot := 3, constantValue := 0 }, { name := "DigitTens", type := (.array .byte), accessFlags := 24, slot := 4, constantValue := 0 }, { name := "DigitOnes", type := (.array .byte), accessFlags := 24, slot := 5, constantValue := 0 }, { name := "value", type := .int, accessFlags := 18, slot := 0, constantValue := 0 }, { name := "SIZE", type := .int, accessFlags := 25, slot := 6, constantValue := 0 }, { name := "BYTES", type := .int, accessFlags := 25, slot := 7, constantValue := 0 }, { name := "serialVersionUID", type := .long, accessFlags := 26, slot := 8, constantValue := 0 }]
  methods := #[k7m0, k7m1, k7m2]
  instanceTypes := #[.int]
  staticTypes := #[.int, .int, (.object "java/lang/Class"), (.array .char), (.array .byte), (.array .byte), .int, .int, .long]
  resolved := Array.replicate 453 none
  statics := none }

def pool8 : Array CpInfo := pool [(2, .class_ 4), (1, u "java/lang/Object"), (0, u "<init>"), (0, u "()V"), (0, .class_ 8), (0, u "java/lang/Integer"), (7, .class_ 18), (1, u "java/lang/Integer$IntegerCache"), (0, u "$assertionsDisabled"), (0, u "Z"), (26, u "high"), (0, u "I"), (8, u "archivedCache"), (0, u "[Ljava/lang/Integer;"), (12, u "cache"), (0, u "low")] 27

def k8m0 : Method := { name := "<init>", desc := "()V", sig := { parameters := [], returnType := none }, accessFlags := 2, code := none }
/-- java/lang/Integer$IntegerCache -/
def k8 : Class := { plain "java/lang/Integer$IntegerCache" (some 0) with
  accessFlags := 48
  interfaces := #[]
  cf := some (fileOf pool8 16 #[.nestHost 7] #[{ accessFlags := 2, nameIndex := 5, descriptorIndex := 6, attributes := #[] }] 48 2 #[] #[{ accessFlags := 24, nameIndex := 72, descriptorIndex := 48, attributes := #[] }, { accessFlags := 24, nameIndex := 47, descriptorIndex := 48, attributes := #[] }, { accessFlags := 24, nameIndex := 71, descriptorIndex := 58, attributes := #[] }, { accessFlags := 8, nameIndex := 57, descriptorIndex := 58, attributes := #[] }, { accessFlags := 4120, nameIndex := 19, descriptorIndex := 20, attributes := #[] }])
  fields := #[{ name := "low", type := .int, accessFlags := 24, slot := 0, constantValue := 0 }, { name := "high", type := .int, accessFlags := 24, slot := 1, constantValue := 0 }, { name := "cache", type := (.array (.object "java/lang/Integer")), accessFlags := 24, slot := 2, constantValue := 0 }, { name := "archivedCache", type := (.array (.object "java/lang/Integer")), accessFlags := 8, slot := 3, constantValue := 0 }, { name := "$assertionsDisabled", type := .boolean, accessFlags := 4120, slot := 4, constantValue := 0 }]
  methods := #[k8m0]
  instanceTypes := #[]
  staticTypes := #[.int, .int, (.array (.object "java/lang/Integer")), (.array (.object "java/lang/Integer")), .boolean]
  resolved := Array.replicate 100 none
  statics := some 0 }

def pool9 : Array CpInfo := pool [(2, .class_ 4), (1, u "java/lang/Object"), (0, u "<init>"), (0, u "()V"), (0, .class_ 8), (0, u "java/lang/Record")] 13

def k9m0 : Method := { name := "<init>", desc := "()V", sig := { parameters := [], returnType := none }, accessFlags := 4, code := none }
/-- java/lang/Record -/
def k9 : Class := { plain "java/lang/Record" (some 0) with
  accessFlags := 1057
  interfaces := #[]
  cf := some (fileOf pool9 7 #[] #[{ accessFlags := 4, nameIndex := 5, descriptorIndex := 6, attributes := #[] }] 1057 2 #[] #[])
  fields := #[]
  methods := #[k9m0]
  instanceTypes := #[]
  staticTypes := #[]
  resolved := Array.replicate 22 none
  statics := none }

def pool10 : Array CpInfo := pool [(2, .class_ 4), (1, u "java/lang/Record"), (3, u "startedAt"), (7, u "duration"), (8, .class_ 27), (1, u "com/example/vervet/vervet/delivery/Attempt"), (0, u "Ljava/time/Instant;"), (2, u "status"), (0, u "Ljava/lang/Integer;"), (2, u "error"), (0, u "Lcom/example/vervet/vervet/delivery/AttemptError;"), (2, u "Ljava/time/Duration;"), (0, .methodref 41 42), (0, .class_ 43), (0, .nameAndType 44 45), (0, u "java/lang/Integer"), (0, u "intValue"), (0, u "()I"), (2, u "succeeds"), (0, u "(Ljava/lang/Integer;)Z"), (12, u "GONE"), (0, u "I")] 45

def k10c0 : Code := { maxStack := 2, maxLocals := 1, code := prog_5_method_2_code, exceptionTable := #[], attributes := #[] }
def k10m0 : Method := { name := "succeeds", desc := "(Ljava/lang/Integer;)Z", sig := { parameters := [(.object "java/lang/Integer")], returnType := some .boolean }, accessFlags := 9, code := some k10c0 }
/-- com/example/vervet/vervet/delivery/Attempt -/
def k10 : Class := { plain "com/example/vervet/vervet/delivery/Attempt" (some 9) with
  accessFlags := 49
  interfaces := #[]
  cf := some (fileOf pool10 25 #[] #[{ accessFlags := 9, nameIndex := 48, descriptorIndex := 49, attributes := #[] }] 49 2 #[] #[{ accessFlags := 18, nameIndex := 8, descriptorIndex := 28, attributes := #[] }, { accessFlags := 18, nameIndex := 31, descriptorIndex := 32, attributes := #[] }, { accessFlags := 18, nameIndex := 35, descriptorIndex := 36, attributes := #[] }, { accessFlags := 18, nameIndex := 16, descriptorIndex := 39, attributes := #[] }, { accessFlags := 26, nameIndex := 62, descriptorIndex := 63, attributes := #[] }])
  fields := #[{ name := "startedAt", type := (.object "java/time/Instant"), accessFlags := 18, slot := 0, constantValue := 0 }, { name := "status", type := (.object "java/lang/Integer"), accessFlags := 18, slot := 1, constantValue := 0 }, { name := "error", type := (.object "com/example/vervet/vervet/delivery/AttemptError"), accessFlags := 18, slot := 2, constantValue := 0 }, { name := "duration", type := (.object "java/time/Duration"), accessFlags := 18, slot := 3, constantValue := 0 }, { name := "GONE", type := .int, accessFlags := 26, slot := 0, constantValue := 0 }]
  methods := #[k10m0]
  instanceTypes := #[(.object "java/time/Instant"), (.object "java/lang/Integer"), (.object "com/example/vervet/vervet/delivery/AttemptError"), (.object "java/time/Duration")]
  staticTypes := #[.int]
  resolved := Array.replicate 109 none
  statics := none }

def pool11 : Array CpInfo := pool [(1, u "java/lang/Cloneable"), (0, .class_ 1), (0, u "java/lang/Object"), (0, .class_ 3)] 3

/-- java/lang/Cloneable -/
def k11 : Class := { plain "java/lang/Cloneable" (some 0) with
  accessFlags := 1537
  interfaces := #[]
  cf := some (fileOf pool11 2 #[] #[] 1537 4 #[] #[])
  fields := #[]
  methods := #[]
  instanceTypes := #[]
  staticTypes := #[]
  resolved := Array.replicate 8 none
  statics := none }

/-- the primitive byte -/
def k12 : Class := { plain "byte" none with kind := .primitive 'B', accessFlags := 0x411 }
/-- [B -/
def k13 : Class := { plain "[B" (some 0) with kind := .array 12 .byte, interfaces := #[11, 2], accessFlags := 1041 }

/-- the primitive int -/
def k14 : Class := { plain "int" none with kind := .primitive 'I', accessFlags := 0x411 }
/-- [I -/
def k15 : Class := { plain "[I" (some 0) with kind := .array 14 .int, interfaces := #[11, 2], accessFlags := 1041 }

/-- [Ljava/lang/Integer; -/
def k16 : Class := { plain "[Ljava/lang/Integer;" (some 0) with kind := .array 7 (.object "java/lang/Integer"), interfaces := #[11, 2], accessFlags := 1041 }

def heap : Heap := #[{ cls := 8, slots := #[.int 0, .int 127, .ref 1, .null, .int 0], vm := .statics 8 },
  { cls := 16, slots := #[.ref 2, .ref 3, .ref 4, .ref 5, .ref 6, .ref 7, .ref 8, .ref 9, .ref 10, .ref 11, .ref 12, .ref 13, .ref 14, .ref 15, .ref 16, .ref 17, .ref 18, .ref 19, .ref 20, .ref 21, .ref 22, .ref 23, .ref 24, .ref 25, .ref 26, .ref 27, .ref 28, .ref 29, .ref 30, .ref 31, .ref 32, .ref 33, .ref 34, .ref 35, .ref 36, .ref 37, .ref 38, .ref 39, .ref 40, .ref 41, .ref 42, .ref 43, .ref 44, .ref 45, .ref 46, .ref 47, .ref 48, .ref 49, .ref 50, .ref 51, .ref 52, .ref 53, .ref 54, .ref 55, .ref 56, .ref 57, .ref 58, .ref 59, .ref 60, .ref 61, .ref 62, .ref 63, .ref 64, .ref 65, .ref 66, .ref 67, .ref 68, .ref 69, .ref 70, .ref 71, .ref 72, .ref 73, .ref 74, .ref 75, .ref 76, .ref 77, .ref 78, .ref 79, .ref 80, .ref 81, .ref 82, .ref 83, .ref 84, .ref 85, .ref 86, .ref 87, .ref 88, .ref 89, .ref 90, .ref 91, .ref 92, .ref 93, .ref 94, .ref 95, .ref 96, .ref 97, .ref 98, .ref 99, .ref 100, .ref 101, .ref 102, .ref 103, .ref 104, .ref 105, .ref 106, .ref 107, .ref 108, .ref 109, .ref 110, .ref 111, .ref 112, .ref 113, .ref 114, .ref 115, .ref 116, .ref 117, .ref 118, .ref 119, .ref 120, .ref 121, .ref 122, .ref 123, .ref 124, .ref 125, .ref 126, .ref 127, .ref 128, .ref 129, .ref 130, .ref 131, .ref 132, .ref 133, .ref 134, .ref 135, .ref 136, .ref 137, .ref 138, .ref 139, .ref 140, .ref 141, .ref 142, .ref 143, .ref 144, .ref 145, .ref 146, .ref 147, .ref 148, .ref 149, .ref 150, .ref 151, .ref 152, .ref 153, .ref 154, .ref 155, .ref 156, .ref 157, .ref 158, .ref 159, .ref 160, .ref 161, .ref 162, .ref 163, .ref 164, .ref 165, .ref 166, .ref 167, .ref 168, .ref 169, .ref 170, .ref 171, .ref 172, .ref 173, .ref 174, .ref 175, .ref 176, .ref 177, .ref 178, .ref 179, .ref 180, .ref 181, .ref 182, .ref 183, .ref 184, .ref 185, .ref 186, .ref 187, .ref 188, .ref 189, .ref 190, .ref 191, .ref 192, .ref 193, .ref 194, .ref 195, .ref 196, .ref 197, .ref 198, .ref 199, .ref 200, .ref 201, .ref 202, .ref 203, .ref 204, .ref 205, .ref 206, .ref 207, .ref 208, .ref 209, .ref 210, .ref 211, .ref 212, .ref 213, .ref 214, .ref 215, .ref 216, .ref 217, .ref 218, .ref 219, .ref 220, .ref 221, .ref 222, .ref 223, .ref 224, .ref 225, .ref 226, .ref 227, .ref 228, .ref 229, .ref 230, .ref 231, .ref 232, .ref 233, .ref 234, .ref 235, .ref 236, .ref 237, .ref 238, .ref 239, .ref 240, .ref 241, .ref 242, .ref 243, .ref 244, .ref 245, .ref 246, .ref 247, .ref 248, .ref 249, .ref 250, .ref 251, .ref 252, .ref 253, .ref 254, .ref 255, .ref 256, .ref 257], vm := .none },
  { cls := 7, slots := #[.int (-128)], vm := .none },
  { cls := 7, slots := #[.int (-127)], vm := .none },
  { cls := 7, slots := #[.int (-126)], vm := .none },
  { cls := 7, slots := #[.int (-125)], vm := .none },
  { cls := 7, slots := #[.int (-124)], vm := .none },
  { cls := 7, slots := #[.int (-123)], vm := .none },
  { cls := 7, slots := #[.int (-122)], vm := .none },
  { cls := 7, slots := #[.int (-121)], vm := .none },
  { cls := 7, slots := #[.int (-120)], vm := .none },
  { cls := 7, slots := #[.int (-119)], vm := .none },
  { cls := 7, slots := #[.int (-118)], vm := .none },
  { cls := 7, slots := #[.int (-117)], vm := .none },
  { cls := 7, slots := #[.int (-116)], vm := .none },
  { cls := 7, slots := #[.int (-115)], vm := .none },
  { cls := 7, slots := #[.int (-114)], vm := .none },
  { cls := 7, slots := #[.int (-113)], vm := .none },
  { cls := 7, slots := #[.int (-112)], vm := .none },
  { cls := 7, slots := #[.int (-111)], vm := .none },
  { cls := 7, slots := #[.int (-110)], vm := .none },
  { cls := 7, slots := #[.int (-109)], vm := .none },
  { cls := 7, slots := #[.int (-108)], vm := .none },
  { cls := 7, slots := #[.int (-107)], vm := .none },
  { cls := 7, slots := #[.int (-106)], vm := .none },
  { cls := 7, slots := #[.int (-105)], vm := .none },
  { cls := 7, slots := #[.int (-104)], vm := .none },
  { cls := 7, slots := #[.int (-103)], vm := .none },
  { cls := 7, slots := #[.int (-102)], vm := .none },
  { cls := 7, slots := #[.int (-101)], vm := .none },
  { cls := 7, slots := #[.int (-100)], vm := .none },
  { cls := 7, slots := #[.int (-99)], vm := .none },
  { cls := 7, slots := #[.int (-98)], vm := .none },
  { cls := 7, slots := #[.int (-97)], vm := .none },
  { cls := 7, slots := #[.int (-96)], vm := .none },
  { cls := 7, slots := #[.int (-95)], vm := .none },
  { cls := 7, slots := #[.int (-94)], vm := .none },
  { cls := 7, slots := #[.int (-93)], vm := .none },
  { cls := 7, slots := #[.int (-92)], vm := .none },
  { cls := 7, slots := #[.int (-91)], vm := .none },
  { cls := 7, slots := #[.int (-90)], vm := .none },
  { cls := 7, slots := #[.int (-89)], vm := .none },
  { cls := 7, slots := #[.int (-88)], vm := .none },
  { cls := 7, slots := #[.int (-87)], vm := .none },
  { cls := 7, slots := #[.int (-86)], vm := .none },
  { cls := 7, slots := #[.int (-85)], vm := .none },
  { cls := 7, slots := #[.int (-84)], vm := .none },
  { cls := 7, slots := #[.int (-83)], vm := .none },
  { cls := 7, slots := #[.int (-82)], vm := .none },
  { cls := 7, slots := #[.int (-81)], vm := .none },
  { cls := 7, slots := #[.int (-80)], vm := .none },
  { cls := 7, slots := #[.int (-79)], vm := .none },
  { cls := 7, slots := #[.int (-78)], vm := .none },
  { cls := 7, slots := #[.int (-77)], vm := .none },
  { cls := 7, slots := #[.int (-76)], vm := .none },
  { cls := 7, slots := #[.int (-75)], vm := .none },
  { cls := 7, slots := #[.int (-74)], vm := .none },
  { cls := 7, slots := #[.int (-73)], vm := .none },
  { cls := 7, slots := #[.int (-72)], vm := .none },
  { cls := 7, slots := #[.int (-71)], vm := .none },
  { cls := 7, slots := #[.int (-70)], vm := .none },
  { cls := 7, slots := #[.int (-69)], vm := .none },
  { cls := 7, slots := #[.int (-68)], vm := .none },
  { cls := 7, slots := #[.int (-67)], vm := .none },
  { cls := 7, slots := #[.int (-66)], vm := .none },
  { cls := 7, slots := #[.int (-65)], vm := .none },
  { cls := 7, slots := #[.int (-64)], vm := .none },
  { cls := 7, slots := #[.int (-63)], vm := .none },
  { cls := 7, slots := #[.int (-62)], vm := .none },
  { cls := 7, slots := #[.int (-61)], vm := .none },
  { cls := 7, slots := #[.int (-60)], vm := .none },
  { cls := 7, slots := #[.int (-59)], vm := .none },
  { cls := 7, slots := #[.int (-58)], vm := .none },
  { cls := 7, slots := #[.int (-57)], vm := .none },
  { cls := 7, slots := #[.int (-56)], vm := .none },
  { cls := 7, slots := #[.int (-55)], vm := .none },
  { cls := 7, slots := #[.int (-54)], vm := .none },
  { cls := 7, slots := #[.int (-53)], vm := .none },
  { cls := 7, slots := #[.int (-52)], vm := .none },
  { cls := 7, slots := #[.int (-51)], vm := .none },
  { cls := 7, slots := #[.int (-50)], vm := .none },
  { cls := 7, slots := #[.int (-49)], vm := .none },
  { cls := 7, slots := #[.int (-48)], vm := .none },
  { cls := 7, slots := #[.int (-47)], vm := .none },
  { cls := 7, slots := #[.int (-46)], vm := .none },
  { cls := 7, slots := #[.int (-45)], vm := .none },
  { cls := 7, slots := #[.int (-44)], vm := .none },
  { cls := 7, slots := #[.int (-43)], vm := .none },
  { cls := 7, slots := #[.int (-42)], vm := .none },
  { cls := 7, slots := #[.int (-41)], vm := .none },
  { cls := 7, slots := #[.int (-40)], vm := .none },
  { cls := 7, slots := #[.int (-39)], vm := .none },
  { cls := 7, slots := #[.int (-38)], vm := .none },
  { cls := 7, slots := #[.int (-37)], vm := .none },
  { cls := 7, slots := #[.int (-36)], vm := .none },
  { cls := 7, slots := #[.int (-35)], vm := .none },
  { cls := 7, slots := #[.int (-34)], vm := .none },
  { cls := 7, slots := #[.int (-33)], vm := .none },
  { cls := 7, slots := #[.int (-32)], vm := .none },
  { cls := 7, slots := #[.int (-31)], vm := .none },
  { cls := 7, slots := #[.int (-30)], vm := .none },
  { cls := 7, slots := #[.int (-29)], vm := .none },
  { cls := 7, slots := #[.int (-28)], vm := .none },
  { cls := 7, slots := #[.int (-27)], vm := .none },
  { cls := 7, slots := #[.int (-26)], vm := .none },
  { cls := 7, slots := #[.int (-25)], vm := .none },
  { cls := 7, slots := #[.int (-24)], vm := .none },
  { cls := 7, slots := #[.int (-23)], vm := .none },
  { cls := 7, slots := #[.int (-22)], vm := .none },
  { cls := 7, slots := #[.int (-21)], vm := .none },
  { cls := 7, slots := #[.int (-20)], vm := .none },
  { cls := 7, slots := #[.int (-19)], vm := .none },
  { cls := 7, slots := #[.int (-18)], vm := .none },
  { cls := 7, slots := #[.int (-17)], vm := .none },
  { cls := 7, slots := #[.int (-16)], vm := .none },
  { cls := 7, slots := #[.int (-15)], vm := .none },
  { cls := 7, slots := #[.int (-14)], vm := .none },
  { cls := 7, slots := #[.int (-13)], vm := .none },
  { cls := 7, slots := #[.int (-12)], vm := .none },
  { cls := 7, slots := #[.int (-11)], vm := .none },
  { cls := 7, slots := #[.int (-10)], vm := .none },
  { cls := 7, slots := #[.int (-9)], vm := .none },
  { cls := 7, slots := #[.int (-8)], vm := .none },
  { cls := 7, slots := #[.int (-7)], vm := .none },
  { cls := 7, slots := #[.int (-6)], vm := .none },
  { cls := 7, slots := #[.int (-5)], vm := .none },
  { cls := 7, slots := #[.int (-4)], vm := .none },
  { cls := 7, slots := #[.int (-3)], vm := .none },
  { cls := 7, slots := #[.int (-2)], vm := .none },
  { cls := 7, slots := #[.int (-1)], vm := .none },
  { cls := 7, slots := #[.int (0)], vm := .none },
  { cls := 7, slots := #[.int (1)], vm := .none },
  { cls := 7, slots := #[.int (2)], vm := .none },
  { cls := 7, slots := #[.int (3)], vm := .none },
  { cls := 7, slots := #[.int (4)], vm := .none },
  { cls := 7, slots := #[.int (5)], vm := .none },
  { cls := 7, slots := #[.int (6)], vm := .none },
  { cls := 7, slots := #[.int (7)], vm := .none },
  { cls := 7, slots := #[.int (8)], vm := .none },
  { cls := 7, slots := #[.int (9)], vm := .none },
  { cls := 7, slots := #[.int (10)], vm := .none },
  { cls := 7, slots := #[.int (11)], vm := .none },
  { cls := 7, slots := #[.int (12)], vm := .none },
  { cls := 7, slots := #[.int (13)], vm := .none },
  { cls := 7, slots := #[.int (14)], vm := .none },
  { cls := 7, slots := #[.int (15)], vm := .none },
  { cls := 7, slots := #[.int (16)], vm := .none },
  { cls := 7, slots := #[.int (17)], vm := .none },
  { cls := 7, slots := #[.int (18)], vm := .none },
  { cls := 7, slots := #[.int (19)], vm := .none },
  { cls := 7, slots := #[.int (20)], vm := .none },
  { cls := 7, slots := #[.int (21)], vm := .none },
  { cls := 7, slots := #[.int (22)], vm := .none },
  { cls := 7, slots := #[.int (23)], vm := .none },
  { cls := 7, slots := #[.int (24)], vm := .none },
  { cls := 7, slots := #[.int (25)], vm := .none },
  { cls := 7, slots := #[.int (26)], vm := .none },
  { cls := 7, slots := #[.int (27)], vm := .none },
  { cls := 7, slots := #[.int (28)], vm := .none },
  { cls := 7, slots := #[.int (29)], vm := .none },
  { cls := 7, slots := #[.int (30)], vm := .none },
  { cls := 7, slots := #[.int (31)], vm := .none },
  { cls := 7, slots := #[.int (32)], vm := .none },
  { cls := 7, slots := #[.int (33)], vm := .none },
  { cls := 7, slots := #[.int (34)], vm := .none },
  { cls := 7, slots := #[.int (35)], vm := .none },
  { cls := 7, slots := #[.int (36)], vm := .none },
  { cls := 7, slots := #[.int (37)], vm := .none },
  { cls := 7, slots := #[.int (38)], vm := .none },
  { cls := 7, slots := #[.int (39)], vm := .none },
  { cls := 7, slots := #[.int (40)], vm := .none },
  { cls := 7, slots := #[.int (41)], vm := .none },
  { cls := 7, slots := #[.int (42)], vm := .none },
  { cls := 7, slots := #[.int (43)], vm := .none },
  { cls := 7, slots := #[.int (44)], vm := .none },
  { cls := 7, slots := #[.int (45)], vm := .none },
  { cls := 7, slots := #[.int (46)], vm := .none },
  { cls := 7, slots := #[.int (47)], vm := .none },
  { cls := 7, slots := #[.int (48)], vm := .none },
  { cls := 7, slots := #[.int (49)], vm := .none },
  { cls := 7, slots := #[.int (50)], vm := .none },
  { cls := 7, slots := #[.int (51)], vm := .none },
  { cls := 7, slots := #[.int (52)], vm := .none },
  { cls := 7, slots := #[.int (53)], vm := .none },
  { cls := 7, slots := #[.int (54)], vm := .none },
  { cls := 7, slots := #[.int (55)], vm := .none },
  { cls := 7, slots := #[.int (56)], vm := .none },
  { cls := 7, slots := #[.int (57)], vm := .none },
  { cls := 7, slots := #[.int (58)], vm := .none },
  { cls := 7, slots := #[.int (59)], vm := .none },
  { cls := 7, slots := #[.int (60)], vm := .none },
  { cls := 7, slots := #[.int (61)], vm := .none },
  { cls := 7, slots := #[.int (62)], vm := .none },
  { cls := 7, slots := #[.int (63)], vm := .none },
  { cls := 7, slots := #[.int (64)], vm := .none },
  { cls := 7, slots := #[.int (65)], vm := .none },
  { cls := 7, slots := #[.int (66)], vm := .none },
  { cls := 7, slots := #[.int (67)], vm := .none },
  { cls := 7, slots := #[.int (68)], vm := .none },
  { cls := 7, slots := #[.int (69)], vm := .none },
  { cls := 7, slots := #[.int (70)], vm := .none },
  { cls := 7, slots := #[.int (71)], vm := .none },
  { cls := 7, slots := #[.int (72)], vm := .none },
  { cls := 7, slots := #[.int (73)], vm := .none },
  { cls := 7, slots := #[.int (74)], vm := .none },
  { cls := 7, slots := #[.int (75)], vm := .none },
  { cls := 7, slots := #[.int (76)], vm := .none },
  { cls := 7, slots := #[.int (77)], vm := .none },
  { cls := 7, slots := #[.int (78)], vm := .none },
  { cls := 7, slots := #[.int (79)], vm := .none },
  { cls := 7, slots := #[.int (80)], vm := .none },
  { cls := 7, slots := #[.int (81)], vm := .none },
  { cls := 7, slots := #[.int (82)], vm := .none },
  { cls := 7, slots := #[.int (83)], vm := .none },
  { cls := 7, slots := #[.int (84)], vm := .none },
  { cls := 7, slots := #[.int (85)], vm := .none },
  { cls := 7, slots := #[.int (86)], vm := .none },
  { cls := 7, slots := #[.int (87)], vm := .none },
  { cls := 7, slots := #[.int (88)], vm := .none },
  { cls := 7, slots := #[.int (89)], vm := .none },
  { cls := 7, slots := #[.int (90)], vm := .none },
  { cls := 7, slots := #[.int (91)], vm := .none },
  { cls := 7, slots := #[.int (92)], vm := .none },
  { cls := 7, slots := #[.int (93)], vm := .none },
  { cls := 7, slots := #[.int (94)], vm := .none },
  { cls := 7, slots := #[.int (95)], vm := .none },
  { cls := 7, slots := #[.int (96)], vm := .none },
  { cls := 7, slots := #[.int (97)], vm := .none },
  { cls := 7, slots := #[.int (98)], vm := .none },
  { cls := 7, slots := #[.int (99)], vm := .none },
  { cls := 7, slots := #[.int (100)], vm := .none },
  { cls := 7, slots := #[.int (101)], vm := .none },
  { cls := 7, slots := #[.int (102)], vm := .none },
  { cls := 7, slots := #[.int (103)], vm := .none },
  { cls := 7, slots := #[.int (104)], vm := .none },
  { cls := 7, slots := #[.int (105)], vm := .none },
  { cls := 7, slots := #[.int (106)], vm := .none },
  { cls := 7, slots := #[.int (107)], vm := .none },
  { cls := 7, slots := #[.int (108)], vm := .none },
  { cls := 7, slots := #[.int (109)], vm := .none },
  { cls := 7, slots := #[.int (110)], vm := .none },
  { cls := 7, slots := #[.int (111)], vm := .none },
  { cls := 7, slots := #[.int (112)], vm := .none },
  { cls := 7, slots := #[.int (113)], vm := .none },
  { cls := 7, slots := #[.int (114)], vm := .none },
  { cls := 7, slots := #[.int (115)], vm := .none },
  { cls := 7, slots := #[.int (116)], vm := .none },
  { cls := 7, slots := #[.int (117)], vm := .none },
  { cls := 7, slots := #[.int (118)], vm := .none },
  { cls := 7, slots := #[.int (119)], vm := .none },
  { cls := 7, slots := #[.int (120)], vm := .none },
  { cls := 7, slots := #[.int (121)], vm := .none },
  { cls := 7, slots := #[.int (122)], vm := .none },
  { cls := 7, slots := #[.int (123)], vm := .none },
  { cls := 7, slots := #[.int (124)], vm := .none },
  { cls := 7, slots := #[.int (125)], vm := .none },
  { cls := 7, slots := #[.int (126)], vm := .none },
  { cls := 7, slots := #[.int (127)], vm := .none }]
def classes : Array Class := #[k0, k1, k2, k3, k4, k5, k6, k7, k8, k9, k10, k11, k12, k13, k14, k15, k16]
def interned : List (Array UInt16 × Addr) := []
def slotsUsed : Nat := 517
def theMethod : MethodId := ⟨1, 2⟩
def args0 : Array Value := #[.int 250, .int 7, .int 0]
def aboutOver (below : List Frame) : State where
  vm := { classes := classes, interned := interned.toArray }
  heap := heap
  slotsUsed := slotsUsed
  threads := #[{ frames := .invoking theMethod args0 :: below }]
def below0 : List Frame := [.native { method := ⟨0, 0⟩, args := #[] }]
def about1 : State := aboutOver below0
def p0 : Program := .bare "" "" ""
def e0 : Env := launch0.env 0 0 0
theorem w_frames : about1.frames = Frame.invoking theMethod args0 :: below0 := rfl
set_option maxRecDepth 65536 in
theorem w_args : argsFit about1.vm theMethod args0 = true := by decide +kernel
set_option maxRecDepth 65536 in
theorem w_heap : heapFits about1 = true := by decide +kernel
set_option maxRecDepth 65536 in
theorem w_runnable : about1.curStatus? = some .runnable := by decide +kernel
set_option maxRecDepth 65536 in
theorem w_alone : about1.alone = true := by decide +kernel
set_option maxRecDepth 65536 in
theorem w_named : about1.methodNamed? x = some theMethod := by decide +kernel
set_option maxRecDepth 65536 in
theorem w_hears : about1.hears theMethod below0 = true := by decide +kernel
set_option maxRecDepth 65536 in
theorem w_ripe : about1.ripe theMethod args0 below0 = true := by decide +kernel
theorem w_running : about1.status = .running := rfl
set_option maxRecDepth 65536 in
theorem w_room : about1.hasRoom e0.platform room_1 = true :=
  launch0.hasRoom_least _ room_1 (by decide +kernel) (by decide +kernel) (by decide +kernel) (by decide +kernel) (by decide +kernel) (by decide +kernel)
theorem allAtoms_all (ts : List Jvm.Cond) (a : Array Jvm.Value) (st : Jvm.State) : (allAtoms ts).before a st = ts.all (fun c => c.before a st) := by
  induction ts with
  | nil => rfl
  | cons c t ih =>
    show (Jvm.Cond.and c (allAtoms t)).before a st = _
    rw [Jvm.Cond.before_and, ih, List.all_cons]
def words1 : List Jvm.Cond := Jvm.Cond.code x code maxLocals ret :: tables_1
/-- a 'code' word, met by the world's own term for the bytes: nothing is compared byte by byte -/
theorem code_word {y : MethodName} {bytes : ByteArray} {mx : Nat} {rt : Option FieldType} {a : Array Value} {s : State} {m : MethodId} {meth : Method} {c : Code} (h1 : s.methodNamed? y = some m) (h2 : s.vm.method? m = some meth) (h3 : meth.code = some c) (h4 : c.code = bytes)
    (h5 : (c.maxLocals == mx && c.exceptionTable.isEmpty && decide (c.maxStack ≤ mostOperands) && decide (meth.sig.returnType = rt) && !meth.locks && decide (parseMethodDescriptor y.desc = some meth.sig)) = true) : (Jvm.Cond.code y bytes mx rt).before a s = true := by
  simp only [Bool.and_eq_true, beq_iff_eq, Bool.not_eq_true', decide_eq_true_eq] at h5
  obtain ⟨⟨⟨⟨⟨g1, g2⟩, g3⟩, g4⟩, g5⟩, g6⟩ := h5
  simp [Cond.before, Cond.holds, Cond.value, h1, h2, h3, h4, g1, g2, g3, g4, g5, g6]
def isCode : Jvm.Cond → Bool
  | .code _ _ _ _ => true
  | _ => false
theorem all_split {L : List Jvm.Cond} {P : Jvm.Cond → Bool} (h1 : L.all (fun c => isCode c || P c) = true) (h2 : ∀ c ∈ L.filter isCode, P c = true) : L.all P = true := by
  refine List.all_eq_true.mpr fun c hc => ?_
  have h := List.all_eq_true.mp h1 c hc
  rcases Bool.eq_false_or_eq_true (isCode c) with hi | hi
  · exact h2 c (List.mem_filter.mpr ⟨hc, hi⟩)
  · simpa [hi] using h
set_option maxRecDepth 65536 in
theorem w_c0 : (Jvm.Cond.code x code maxLocals ret).before args0 about1 = true := code_word (m := ⟨1, 2⟩) (meth := k1m2) (c := k1c2) (by decide +kernel) rfl rfl rfl (by decide +kernel)
set_option maxRecDepth 65536 in
theorem w_c1 : (Jvm.Cond.code ({ cls := "java/lang/Integer", name := "valueOf", desc := "(I)Ljava/lang/Integer;" } : Jvm.MethodName) jdk_33_method_22_code (1 : Nat) (Option.some (Jvm.ClassFile.FieldType.object "java/lang/Integer"))).before args0 about1 = true := code_word (m := ⟨7, 0⟩) (meth := k7m0) (c := k7c0) (by decide +kernel) rfl rfl rfl (by decide +kernel)
set_option maxRecDepth 65536 in
theorem w_c2 : (Jvm.Cond.code ({ cls := "java/lang/Integer", name := "<init>", desc := "(I)V" } : Jvm.MethodName) jdk_33_method_23_code (2 : Nat) (Option.none : Option Jvm.ClassFile.FieldType)).before args0 about1 = true := code_word (m := ⟨7, 1⟩) (meth := k7m1) (c := k7c1) (by decide +kernel) rfl rfl rfl (by decide +kernel)
set_option maxRecDepth 65536 in
theorem w_c3 : (Jvm.Cond.code ({ cls := "java/lang/Number", name := "<init>", desc := "()V" } : Jvm.MethodName) jdk_18_method_1_code (1 : Nat) (Option.none : Option Jvm.ClassFile.FieldType)).before args0 about1 = true := code_word (m := ⟨3, 0⟩) (meth := k3m0) (c := k3c0) (by decide +kernel) rfl rfl rfl (by decide +kernel)
set_option maxRecDepth 65536 in
theorem w_c4 : (Jvm.Cond.code ({ cls := "java/lang/Object", name := "<init>", desc := "()V" } : Jvm.MethodName) object_method_1_code (1 : Nat) (Option.none : Option Jvm.ClassFile.FieldType)).before args0 about1 = true := code_word (m := ⟨0, 0⟩) (meth := k0m0) (c := k0c0) (by decide +kernel) rfl rfl rfl (by decide +kernel)
set_option maxRecDepth 65536 in
theorem w_c5 : (Jvm.Cond.code ({ cls := "com/example/vervet/vervet/delivery/Attempt", name := "succeeds", desc := "(Ljava/lang/Integer;)Z" } : Jvm.MethodName) prog_5_method_2_code (1 : Nat) (Option.some Jvm.ClassFile.FieldType.boolean)).before args0 about1 = true := code_word (m := ⟨10, 0⟩) (meth := k10m0) (c := k10c0) (by decide +kernel) rfl rfl rfl (by decide +kernel)
set_option maxRecDepth 65536 in
theorem w_c6 : (Jvm.Cond.code ({ cls := "java/lang/Integer", name := "intValue", desc := "()I" } : Jvm.MethodName) jdk_33_method_27_code (1 : Nat) (Option.some Jvm.ClassFile.FieldType.int)).before args0 about1 = true := code_word (m := ⟨7, 2⟩) (meth := k7m2) (c := k7c2) (by decide +kernel) rfl rfl rfl (by decide +kernel)
set_option maxRecDepth 65536 in
theorem w_c7 : (Jvm.Cond.code ({ cls := "com/example/vervet/vervet/delivery/AttemptSucceedsPinLaw", name := "expected", desc := "(Ljava/lang/Integer;)Z" } : Jvm.MethodName) method_2_code (2 : Nat) (Option.some Jvm.ClassFile.FieldType.boolean)).before args0 about1 = true := code_word (m := ⟨1, 1⟩) (meth := k1m1) (c := k1c1) (by decide +kernel) rfl rfl rfl (by decide +kernel)
def codes1 : List Jvm.Cond := [Jvm.Cond.code x code maxLocals ret, Jvm.Cond.code ({ cls := "java/lang/Integer", name := "valueOf", desc := "(I)Ljava/lang/Integer;" } : Jvm.MethodName) jdk_33_method_22_code (1 : Nat) (Option.some (Jvm.ClassFile.FieldType.object "java/lang/Integer")), Jvm.Cond.code ({ cls := "java/lang/Integer", name := "<init>", desc := "(I)V" } : Jvm.MethodName) jdk_33_method_23_code (2 : Nat) (Option.none : Option Jvm.ClassFile.FieldType), Jvm.Cond.code ({ cls := "java/lang/Number", name := "<init>", desc := "()V" } : Jvm.MethodName) jdk_18_method_1_code (1 : Nat) (Option.none : Option Jvm.ClassFile.FieldType), Jvm.Cond.code ({ cls := "java/lang/Object", name := "<init>", desc := "()V" } : Jvm.MethodName) object_method_1_code (1 : Nat) (Option.none : Option Jvm.ClassFile.FieldType), Jvm.Cond.code ({ cls := "com/example/vervet/vervet/delivery/Attempt", name := "succeeds", desc := "(Ljava/lang/Integer;)Z" } : Jvm.MethodName) prog_5_method_2_code (1 : Nat) (Option.some Jvm.ClassFile.FieldType.boolean), Jvm.Cond.code ({ cls := "java/lang/Integer", name := "intValue", desc := "()I" } : Jvm.MethodName) jdk_33_method_27_code (1 : Nat) (Option.some Jvm.ClassFile.FieldType.int), Jvm.Cond.code ({ cls := "com/example/vervet/vervet/delivery/AttemptSucceedsPinLaw", name := "expected", desc := "(Ljava/lang/Integer;)Z" } : Jvm.MethodName) method_2_code (2 : Nat) (Option.some Jvm.ClassFile.FieldType.boolean)]
set_option maxRecDepth 65536 in
theorem codes_eq : words1.filter isCode = codes1 := rfl
theorem w_codes : ∀ c ∈ words1.filter isCode, c.before args0 about1 = true := by
  rw [codes_eq]
  intro c hc
  simp only [codes1, List.mem_cons, List.not_mem_nil, or_false] at hc
  rcases hc with rfl | rfl | rfl | rfl | rfl | rfl | rfl | rfl
  · exact w_c0
  · exact w_c1
  · exact w_c2
  · exact w_c3
  · exact w_c4
  · exact w_c5
  · exact w_c6
  · exact w_c7
set_option maxRecDepth 65536 in
theorem w_t1 : (words1.take 24).all (fun c => isCode c || c.before args0 about1) = true := by decide +kernel
set_option maxRecDepth 65536 in
theorem w_t2 : (words1.drop 24).all (fun c => isCode c || c.before args0 about1) = true := by decide +kernel
theorem w_tables : (allAtoms (Jvm.Cond.code x code maxLocals ret :: tables_1)).before args0 about1 = true := by
  rw [allAtoms_all]
  show words1.all (fun c => c.before args0 about1) = true
  refine all_split ?_ w_codes
  rw [← List.take_append_drop 24 words1, List.all_append, w_t1, w_t2]
  rfl
set_option maxRecDepth 65536 in
theorem w_rest : rest_1_c.before args0 about1 = true := by decide +kernel
set_option maxRecDepth 65536 in
theorem w_case : (Jvm.Cond.and given_1 narrow_1).before args0 about1 = true := by decide +kernel
theorem w_applies : (headSpec (Jvm.Cond.code x code maxLocals ret :: tables_1) room_1).applies x e0.platform about1 = true :=
  (Spec.applies_iff w_frames).mpr ⟨w_running, w_runnable, w_alone, w_named, w_hears, w_ripe, w_room, w_tables⟩
theorem atStart : AtStart classFile x code maxLocals ret World_1 tables_1 room_1 Calls_1 rest_1 Pre_1 launch0 p0 e0 about1 theMethod args0 below0 :=
  ⟨lists_1, trivial, launch0.admits_env _ _ _, launch0.least_env, fairChoices_fair.cas, fairChoices_fair.clock, w_frames, w_args, w_heap, w_applies, trivial, w_rest, w_case⟩
end start1
theorem witness_1 : WitnessClaimed_1 := ⟨start1.p0, start1.e0, start1.about1, start1.theMethod, start1.args0, start1.below0, start1.atStart⟩
end Jvm.Pilot.@@N@@
