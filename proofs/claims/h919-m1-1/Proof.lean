import JvmDerived
import JvmDerived.Pilot.@@N@@Statement
import JvmDerived.Pilot.@@N@@Code
set_option linter.unusedVariables false
set_option linter.unusedSimpArgs false
namespace Jvm.OwnK
open Sem ClassFile Op Lib Jvm.Stand Jvm.Free Jvm.LawKit Jvm.RoadKit
/-- what a body leaves: Q of its value and heap; what it wrote lies in new cells; the old cells stand -/
def Out (Z s : State) (Q : Option Value → Heap → Prop) (k n : Nat) (o : Outcome) (U : State) : Prop :=
  ∃ v L, o = .returned v ∧ (Q v U.heap ∧ Fr Z.heap.size L ∧ Old Z Z.heap.size U.heap) ∧ FrameEnd s o U L k n
/-- from here the walk ends, and G holds of its end -/
def Go (tb : Tables) (e : Env) (below : List Frame) (G : Outcome → State → Prop) (T : State) (F : JFrame) : Prop :=
  ∃ s₂ o, Steps tb e below (T.setTop F) s₂ ∧ s₂.status = .running ∧ Ended s₂ below o ∧ G o s₂
/-- where the walk stands, with its heap -/
def Wk (p : Program) (l : Launch) (e : Env) (R : Room) (s : State) (m : MethodId) (args : Array Value) (below : List Frame) (meth : Method) (c : Code) (Z T : State) (h : Heap) (k n : Nat) : Prop :=
  ∃ locs, Stand p l e R s m args below meth c T locs k n ∧ T.heap = h ∧ Fr Z.heap.size locs ∧ Old Z Z.heap.size h
/-- what is known of the body -/
def Bdy (p : Program) (Z s : State) (m : MethodId) (meth : Method) (c : Code) (own : String) (bytes : ByteArray) (maxL : Nat) (ret : Option FieldType) (nm : String) : Prop :=
  p.tables.exec = Jvm.exec ∧ Z.Warmed39 s.vm ∧ s.vm.findClass own = some m.cls ∧ c.code = bytes ∧ c.maxLocals = maxL ∧ meth.sig.returnType = ret ∧ meth.locks = false ∧ meth.name = nm
/-- a contract -/
def Con (l : Launch) (Z : State) (y : MethodName) (bytes : ByteArray) (maxL : Nat) (ret : Option FieldType) (ws : List Cond) (rm : Room) (as' : Array Value) (h0 : Heap) (Q : Option Value → Heap → Prop) : Prop :=
  Old Z Z.heap.size h0 → MetFree l y (head1 (Cond.code y bytes maxL ret :: ws) rm) (fun a U => a = as' ∧ Z.Warmed39 U.vm ∧ U.heap = h0) (fun _ _ _ _ _ => True) (fun _ U o U' => Out Z U Q rm.cells rm.slots o U')
def bi (b : Bool) : Int32 := if b then 1 else 0
theorem bi_t {b : Bool} (h : b = true) : ¬ bi b = 0 := by subst h; decide
theorem bi_f {b : Bool} (h : b = false) : bi b = 0 := by subst h; rfl
theorem bi_nar (b : Bool) : nar .boolean (bi b) = bi b := by cases b <;> rfl
theorem bi_tt : bi true = 1 := rfl
theorem bi_ff : bi false = 0 := rfl
theorem bi_inj {a b : Bool} : (bi a = bi b) = (a = b) := by cases a <;> cases b <;> decide
theorem own_nb (b : Bool) : narrow .boolean (.int (bi b)) = .int (bi b) := by cases b <;> rfl
theorem own_fb (b : Bool) : fits .boolean (.int (bi b)) = true := by cases b <;> rfl
theorem own_fr {t : FieldType} {v : Value} (ht : t.isReference = true) (hv : v.isRef = true) : fits t v = true := by cases t <;> cases v <;> first | rfl | (exfalso; revert ht hv; simp [FieldType.isReference, Value.isRef]; done)
theorem own_i2c (a : Int32) : ∃ x : Int32, a.toUInt32.toUInt16.toUInt32.toInt32 = x ∧ nar .char x = x ∧ 0 ≤ x.toInt ∧ x.toInt < 65536 := by
  refine ⟨_, rfl, ?_, (c_i2c a).2.1, (c_i2c a).2.2⟩
  show (a.toUInt32.toUInt16.toUInt32.toInt32).toUInt32.toUInt16.toUInt32.toInt32 = _
  simp only [UInt32.toUInt32_toInt32, UInt16.toUInt16_toUInt32]
theorem own_and1 {a b : Bool} (h : b = true) : (bi a &&& 1) = bi (a && b) := by subst h; cases a <;> decide
theorem own_and0 {a b : Bool} (h : b = false) : (bi a &&& 0) = bi (a && b) := by subst h; cases a <;> decide
theorem own_andb (a b : Bool) : (bi a &&& bi b) = bi (a && b) := by cases a <;> cases b <;> decide
theorem own_inc (i : Nat) : Int32.ofNat i + 1 = Int32.ofNat (i + 1) := (Int32.ofNat_add i 1).symm
theorem own_ofNat {i : Nat} (h : i < 2147483648) : (Int32.ofNat i).toInt = i := by
  have := Int32.toInt_ofNat_of_lt (n := i) (by omega); exact this
theorem own_clamp {i : Nat} (h : i < 2147483648) : (Int32.ofNat i).toNatClampNeg = i := by
  simp only [Int32.toNatClampNeg, own_ofNat h]; omega
theorem own_lt {i j : Nat} (hi : i < 2147483648) (hj : j < 2147483648) : (Int32.ofNat i < Int32.ofNat j) ↔ i < j := by
  rw [Int32.lt_iff_toInt_lt, own_ofNat hi, own_ofNat hj]; omega
theorem own_ixok {i n : Nat} (hi : i < n) (hn : n < 2147483648) : ¬ Int32.ofNat i < 0 ∧ Int32.ofNat i < Int32.ofNat n := by
  refine ⟨?_, (own_lt (by omega) hn).mpr hi⟩
  rw [Int32.lt_iff_toInt_lt, own_ofNat (by omega)]; show ¬ ((i : Int) < 0); omega
theorem nar_b0 : nar .boolean 0 = 0 := by decide
theorem nar_b1 : nar .boolean 1 = 1 := by decide
theorem old_le {Z : State} {h : Heap} (O : Old Z Z.heap.size h) : Z.heap.size ≤ h.size := O.2.1
section K
variable {p : Program} {l : Launch} {e : Env} {R : Room} {s : State} {m : MethodId} {args : Array Value} {below : List Frame} {meth : Method} {c : Code} {Z T T' : State} {h h' : Heap} {k n : Nat} {own nm : String} {bytes : ByteArray} {maxL : Nat} {ret : Option FieldType} {G : Outcome → State → Prop} {pc : Nat} {ls : Array Slot} {st : List Value} {Q : Option Value → Heap → Prop} {a0 : Array Value}
theorem Bdy.nameOf (B : Bdy p Z s m meth c own bytes maxL ret nm) : meth.name = nm := B.2.2.2.2.2.2.2
theorem Go.by {tb : Tables} {F F' : JFrame} (hs : ∀ t, Steps tb e below (T'.setTop F') t → Steps tb e below (T.setTop F) t) (q : Go tb e below G T' F') : Go tb e below G T F := by
  obtain ⟨s2, o, a, b⟩ := q; exact ⟨s2, o, hs _ a, b⟩
theorem Go.cast {tb : Tables} {F F' : JFrame} (hs : F = F') (q : Go tb e below G T F') : Go tb e below G T F := hs ▸ q
theorem Con.of {y : MethodName} {ws : List Cond} {rm : Room} {as' : Array Value} {h0 : Heap} (hpl : plainFor y = true)
    (body : ∀ p e s m below meth c T, Bdy p Z s m meth c y.cls bytes maxL ret y.name → Wk p l e rm s m as' below meth c Z T h0 0 0 → Go p.tables e below (Out Z s Q rm.cells rm.slots) T (entryFrame m as' maxL)) : Con l Z y bytes maxL ret ws rm as' h0 Q := by
  intro hO
  refine MetFree.of_bodySF hpl hisR ?_
  intro p e s m args below meth c s₁ Bd hml0 hP hK
  obtain ⟨rfl, hZ, hh⟩ := hP
  exact body p e s m below meth c s₁ ⟨Bd.exec, hZ, findClass_of_methodNamed Bd.named, Bd.bytes, hml0, Bd.returns, Bd.notSynchronized, (name_of_methodNamed Bd.named Bd.method).1⟩ ⟨[], Stand.of_body Bd, by rw [← hh, Bd.state]; rfl, Fr.nil _, hO⟩
theorem Wk.size (W : Wk p l e R s m args below meth c Z T h k n) : Z.heap.size ≤ h.size := by obtain ⟨_, _, _, _, O⟩ := W; exact O.2.1
theorem Wk.old (W : Wk p l e R s m args below meth c Z T h k n) : Old Z Z.heap.size h := by obtain ⟨_, _, _, _, O⟩ := W; exact O
theorem Sta.old {C nf d : String} {v : Value} (F : Sta Z Z.heap C nf d v) (W : Old Z Z.heap.size h) : Sta Z h C nf d v := F.ext W.2
theorem Wk.more {k' n' : Nat} (W : Wk p l e R s m args below meth c Z T h k n) (hk : k ≤ k') (hn : n ≤ n') : Wk p l e R s m args below meth c Z T h k' n' := by
  obtain ⟨locs, X, r⟩ := W; exact ⟨locs, X.more hk hn, r⟩
/-! ### the ends -/
theorem go_end (B : Bdy p Z s m meth c own bytes maxL ret nm) (W : Wk p l e R s m args below meth c Z T h k n) {F : JFrame} {v : Option Value} {k' n' : Nat} (hv : ret = none → v = none) (hQ : Q v h) (hk : k ≤ k') (hn : n ≤ n')
    (hst : ∀ (locs : List Loc) (fs : List Frame), Stand p l e R s m args below meth c T locs k n → (∀ (f : JFrame) (acts : List Action), f.method = m → f.locked = none → f.entered = [] → (doReturn e (T.setTop f) acts v).1 = T.setFrames fs) → Steps p.tables e below (T.setTop F) (T.setFrames fs)) :
    Go p.tables e below (Out Z s Q k' n') T F := by
  obtain ⟨locs, X, eT, N, O⟩ := W
  obtain ⟨fs, hr, hrun, hended, hW, hsame⟩ := X.leave (v := v) (fun q => hv (B.2.2.2.2.2.1 ▸ q)) B.2.2.2.2.2.2.1
  have eT' : (T.setFrames fs).heap = h := eT
  exact ⟨_, _, hst locs fs X hr, hrun, hended, _, _, rfl, ⟨by rw [eT']; exact hQ, N, by rw [eT']; exact O⟩, ⟨_, rfl⟩, hW, hsame.mono hk hn⟩
theorem r_i (B : Bdy p Z s m meth c own bytes maxL (some .int) nm) (W : Wk p l e R s m args below meth c Z T h k n) {z : Int32} {k' n' : Nat} (hd : decode bytes pc = .ok (.ireturn, 1)) (hk : k ≤ k') (hn : n ≤ n') (hQ : Q (some (.int z)) h) : Go p.tables e below (Out Z s Q k' n') T (mkF m pc ls (.int z :: st)) :=
  go_end B W (fun q => by cases q) hQ hk hn fun _ _ X hr => retOut X B.1 B.2.2.2.2.2.1 rfl (Or.inl ⟨rfl, Or.inl rfl, _, rfl⟩) (hb B.2.2.2.1 hd) hr
theorem r_b (B : Bdy p Z s m meth c own bytes maxL (some .boolean) nm) (W : Wk p l e R s m args below meth c Z T h k n) {b : Bool} {k' n' : Nat} (hd : decode bytes pc = .ok (.ireturn, 1)) (hk : k ≤ k') (hn : n ≤ n') (hQ : Q (some (.int (bi b))) h) : Go p.tables e below (Out Z s Q k' n') T (mkF m pc ls (.int (bi b) :: st)) :=
  go_end B W (fun q => by cases q) (v := some (.int (nar .boolean (bi b)))) (by rw [bi_nar]; exact hQ) hk hn fun _ _ X hr => retN X B.1 B.2.2.2.2.2.1 (Or.inl rfl) (hb B.2.2.2.1 hd) hr
theorem r_n (B : Bdy p Z s m meth c own bytes maxL ret nm) (W : Wk p l e R s m args below meth c Z T h k n) {t : FieldType} {z : Int32} {k' n' : Nat} (hret : ret = some t) (ht : t = .boolean ∨ t = .byte ∨ t = .char ∨ t = .short) (hd : decode bytes pc = .ok (.ireturn, 1)) (hk : k ≤ k') (hn : n ≤ n') (hQ : Q (some (.int (nar t z))) h) : Go p.tables e below (Out Z s Q k' n') T (mkF m pc ls (.int z :: st)) :=
  go_end B W (fun q => by rw [hret] at q; cases q) hQ hk hn fun _ _ X hr => retN X B.1 (B.2.2.2.2.2.1.trans hret) ht (hb B.2.2.2.1 hd) hr
theorem nar_ref {t : FieldType} {v : Value} (ht : t.isReference = true) : narrow t v = v := by cases t <;> first | rfl | (exfalso; revert ht; simp [FieldType.isReference]; done) | (cases v <;> rfl)
theorem r_a (B : Bdy p Z s m meth c own bytes maxL ret nm) (W : Wk p l e R s m args below meth c Z T h k n) {t : FieldType} {v : Value} {k' n' : Nat} (hret : ret = some t) (ht : t.isReference = true) (hv : v.isRef = true) (hd : decode bytes pc = .ok (.areturn, 1)) (hk : k ≤ k') (hn : n ≤ n') (hQ : Q (some v) h) : Go p.tables e below (Out Z s Q k' n') T (mkF m pc ls (v :: st)) :=
  go_end B W (fun q => by rw [hret] at q; cases q) hQ hk hn fun _ _ X hr => retOut X B.1 (B.2.2.2.2.2.1.trans hret) (nar_ref ht) (Or.inr (Or.inr (Or.inr (Or.inr ⟨rfl, ht, hv⟩)))) (hb B.2.2.2.1 hd) hr
theorem r_v (B : Bdy p Z s m meth c own bytes maxL none nm) (W : Wk p l e R s m args below meth c Z T h k n) {k' n' : Nat} (hd : decode bytes pc = .ok (.return_, 1)) (hk : k ≤ k') (hn : n ≤ n') (hQ : Q none h) : Go p.tables e below (Out Z s Q k' n') T (mkF m pc ls []) :=
  go_end B W (fun _ => rfl) hQ hk hn fun _ _ X hr => X.returnOut B.1 B.2.2.2.2.2.1 (hb B.2.2.2.1 hd) hr
theorem r_l (B : Bdy p Z s m meth c own bytes maxL (some .long) nm) (W : Wk p l e R s m args below meth c Z T h k n) {z : Int64} {k' n' : Nat} (hd : decode bytes pc = .ok (.lreturn, 1)) (hk : k ≤ k') (hn : n ≤ n') (hQ : Q (some (.long z)) h) : Go p.tables e below (Out Z s Q k' n') T (mkF m pc ls (.long z :: st)) :=
  go_end B W (fun q => by cases q) hQ hk hn fun _ _ X hr => retOut X B.1 B.2.2.2.2.2.1 rfl (Or.inr (Or.inl ⟨rfl, rfl, _, rfl⟩)) (hb B.2.2.2.1 hd) hr
/-! ### plain steps -/
theorem g_aload_n (B : Bdy p Z s m meth c own bytes maxL ret nm) (W : Wk p l e R s m args below meth c Z T h k n) {i : Fin 4} {v : Value} (hd : decode bytes pc = .ok (.aload_n i, 1)) (hl : ls[i.val]? = some (.val v)) (hv : v.isRef = true) (q : Go p.tables e below G T (mkF m (pc + 1) ls (v :: st))) : Go p.tables e below G T (mkF m pc ls st) := by
  obtain ⟨_, X, -⟩ := W
  exact Go.by (fun t q => XS.aloadN X.here B.1 rfl (hb B.2.2.2.1 hd) hl hv q) q
theorem g_aload (B : Bdy p Z s m meth c own bytes maxL ret nm) (W : Wk p l e R s m args below meth c Z T h k n) {i : Nat} {v : Value} (hd : decode bytes pc = .ok (.aload i, 2)) (hl : ls[i]? = some (.val v)) (hv : v.isRef = true) (q : Go p.tables e below G T (mkF m (pc + 2) ls (v :: st))) : Go p.tables e below G T (mkF m pc ls st) := by
  obtain ⟨_, X, -⟩ := W
  exact Go.by (fun t q => XS.aload X.here B.1 rfl (hb B.2.2.2.1 hd) hl hv q) q
theorem g_iload_n (B : Bdy p Z s m meth c own bytes maxL ret nm) (W : Wk p l e R s m args below meth c Z T h k n) {i : Fin 4} {v : Int32} (hd : decode bytes pc = .ok (.iload_n i, 1)) (hl : ls[i.val]? = some (.val (.int v))) (q : Go p.tables e below G T (mkF m (pc + 1) ls (.int v :: st))) : Go p.tables e below G T (mkF m pc ls st) := by
  obtain ⟨_, X, -⟩ := W
  exact Go.by (fun t q => XS.iloadN X.here B.1 rfl (hb B.2.2.2.1 hd) hl q) q
theorem g_iload (B : Bdy p Z s m meth c own bytes maxL ret nm) (W : Wk p l e R s m args below meth c Z T h k n) {i : Nat} {v : Int32} (hd : decode bytes pc = .ok (.iload i, 2)) (hl : ls[i]? = some (.val (.int v))) (q : Go p.tables e below G T (mkF m (pc + 2) ls (.int v :: st))) : Go p.tables e below G T (mkF m pc ls st) := by
  obtain ⟨_, X, -⟩ := W
  exact Go.by (fun t q => XS.iload X.here B.1 rfl (hb B.2.2.2.1 hd) hl q) q
theorem g_lload_n (B : Bdy p Z s m meth c own bytes maxL ret nm) (W : Wk p l e R s m args below meth c Z T h k n) {i : Fin 4} {v : Int64} (hd : decode bytes pc = .ok (.lload_n i, 1)) (hl : ls[i.val]? = some (.val (.long v))) (q : Go p.tables e below G T (mkF m (pc + 1) ls (.long v :: st))) : Go p.tables e below G T (mkF m pc ls st) := by
  obtain ⟨_, X, -⟩ := W
  exact Go.by (fun t q => XT.lloadN X.here B.1 rfl (hb B.2.2.2.1 hd) hl q) q
theorem g_lload (B : Bdy p Z s m meth c own bytes maxL ret nm) (W : Wk p l e R s m args below meth c Z T h k n) {i : Nat} {v : Int64} (hd : decode bytes pc = .ok (.lload i, 2)) (hl : ls[i]? = some (.val (.long v))) (q : Go p.tables e below G T (mkF m (pc + 2) ls (.long v :: st))) : Go p.tables e below G T (mkF m pc ls st) := by
  obtain ⟨_, X, -⟩ := W
  exact Go.by (fun t q => XT.lload X.here B.1 rfl (hb B.2.2.2.1 hd) hl q) q
theorem g_istore_n (B : Bdy p Z s m meth c own bytes maxL ret nm) (W : Wk p l e R s m args below meth c Z T h k n) {i : Fin 4} {v : Int32} {l' : Array Slot} (hd : decode bytes pc = .ok (.istore_n i, 1)) (hl : storeLocals ls i.val (.int v) = some l') (q : Go p.tables e below G T (mkF m (pc + 1) l' st)) : Go p.tables e below G T (mkF m pc ls (.int v :: st)) := by
  obtain ⟨_, X, -⟩ := W
  exact Go.by (fun t q => XS.istoreN X.here B.1 rfl (hb B.2.2.2.1 hd) rfl hl q) q
theorem g_istore (B : Bdy p Z s m meth c own bytes maxL ret nm) (W : Wk p l e R s m args below meth c Z T h k n) {i : Nat} {v : Int32} {l' : Array Slot} (hd : decode bytes pc = .ok (.istore i, 2)) (hl : storeLocals ls i (.int v) = some l') (q : Go p.tables e below G T (mkF m (pc + 2) l' st)) : Go p.tables e below G T (mkF m pc ls (.int v :: st)) := by
  obtain ⟨_, X, -⟩ := W
  exact Go.by (fun t q => XS.istore X.here B.1 rfl (hb B.2.2.2.1 hd) rfl hl q) q
theorem g_lstore_n (B : Bdy p Z s m meth c own bytes maxL ret nm) (W : Wk p l e R s m args below meth c Z T h k n) {i : Fin 4} {v : Int64} {l' : Array Slot} (hd : decode bytes pc = .ok (.lstore_n i, 1)) (hl : storeLocals ls i.val (.long v) = some l') (q : Go p.tables e below G T (mkF m (pc + 1) l' st)) : Go p.tables e below G T (mkF m pc ls (.long v :: st)) := by
  obtain ⟨_, X, -⟩ := W
  exact Go.by (fun t q => XT.lstoreN X.here B.1 rfl (hb B.2.2.2.1 hd) rfl hl q) q
theorem g_lstore (B : Bdy p Z s m meth c own bytes maxL ret nm) (W : Wk p l e R s m args below meth c Z T h k n) {i : Nat} {v : Int64} {l' : Array Slot} (hd : decode bytes pc = .ok (.lstore i, 2)) (hl : storeLocals ls i (.long v) = some l') (q : Go p.tables e below G T (mkF m (pc + 2) l' st)) : Go p.tables e below G T (mkF m pc ls (.long v :: st)) := by
  obtain ⟨_, X, -⟩ := W
  exact Go.by (fun t q => XT.lstore X.here B.1 rfl (hb B.2.2.2.1 hd) rfl hl q) q
theorem g_astore_n (B : Bdy p Z s m meth c own bytes maxL ret nm) (W : Wk p l e R s m args below meth c Z T h k n) {i : Fin 4} {v : Value} {l' : Array Slot} (hd : decode bytes pc = .ok (.astore_n i, 1)) (hv : v.isRef = true) (hl : storeLocals ls i.val v = some l') (q : Go p.tables e below G T (mkF m (pc + 1) l' st)) : Go p.tables e below G T (mkF m pc ls (v :: st)) := by
  obtain ⟨_, X, -⟩ := W
  exact Go.by (fun t q => XS.astoreN X.here B.1 rfl (hb B.2.2.2.1 hd) rfl hv hl q) q
theorem g_astore (B : Bdy p Z s m meth c own bytes maxL ret nm) (W : Wk p l e R s m args below meth c Z T h k n) {i : Nat} {v : Value} {l' : Array Slot} (hd : decode bytes pc = .ok (.astore i, 2)) (hv : v.isRef = true) (hl : storeLocals ls i v = some l') (q : Go p.tables e below G T (mkF m (pc + 2) l' st)) : Go p.tables e below G T (mkF m pc ls (v :: st)) := by
  obtain ⟨_, X, -⟩ := W
  exact Go.by (fun t q => XS.astore X.here B.1 rfl (hb B.2.2.2.1 hd) rfl hv hl q) q
theorem g_iconst (B : Bdy p Z s m meth c own bytes maxL ret nm) (W : Wk p l e R s m args below meth c Z T h k n) {i : Int} {v : Int32} (hd : decode bytes pc = .ok (.iconst i, 1)) (hv : Int32.ofInt i = v) (q : Go p.tables e below G T (mkF m (pc + 1) ls (.int v :: st))) : Go p.tables e below G T (mkF m pc ls st) := by
  obtain ⟨_, X, -⟩ := W
  exact Go.by (fun t q => XT.iconstV X.here B.1 rfl _ (hb B.2.2.2.1 hd) hv q) q
theorem g_bipush (B : Bdy p Z s m meth c own bytes maxL ret nm) (W : Wk p l e R s m args below meth c Z T h k n) {i : Int} {v : Int32} (hd : decode bytes pc = .ok (.bipush i, 2)) (hv : (Int8.ofInt i).toInt32 = v) (q : Go p.tables e below G T (mkF m (pc + 2) ls (.int v :: st))) : Go p.tables e below G T (mkF m pc ls st) := by
  obtain ⟨_, X, -⟩ := W
  exact Go.by (fun t q => XT.bipushV X.here B.1 rfl _ (hb B.2.2.2.1 hd) hv q) q
theorem g_sipush (B : Bdy p Z s m meth c own bytes maxL ret nm) (W : Wk p l e R s m args below meth c Z T h k n) {i : Int} {v : Int32} (hd : decode bytes pc = .ok (.sipush i, 3)) (hv : (Int16.ofInt i).toInt32 = v) (q : Go p.tables e below G T (mkF m (pc + 3) ls (.int v :: st))) : Go p.tables e below G T (mkF m pc ls st) := by
  obtain ⟨_, X, -⟩ := W
  exact Go.by (fun t q => XT.sipushV X.here B.1 rfl _ (hb B.2.2.2.1 hd) hv q) q
theorem g_lconst (B : Bdy p Z s m meth c own bytes maxL ret nm) (W : Wk p l e R s m args below meth c Z T h k n) {i : Fin 2} {v : Int64} (hd : decode bytes pc = .ok (.lconst i, 1)) (hv : Int64.ofNat i = v) (q : Go p.tables e below G T (mkF m (pc + 1) ls (.long v :: st))) : Go p.tables e below G T (mkF m pc ls st) := by
  obtain ⟨_, X, -⟩ := W
  exact Go.by (fun t q => XT.lconstV X.here B.1 rfl _ (hb B.2.2.2.1 hd) hv q) q
theorem g_aconst_null (B : Bdy p Z s m meth c own bytes maxL ret nm) (W : Wk p l e R s m args below meth c Z T h k n)  (hd : decode bytes pc = .ok (.aconst_null, 1))  (q : Go p.tables e below G T (mkF m (pc + 1) ls (.null :: st))) : Go p.tables e below G T (mkF m pc ls st) := by
  obtain ⟨_, X, -⟩ := W
  exact Go.by (fun t q => XS.aconstNull X.here B.1 rfl (hb B.2.2.2.1 hd) q) q
theorem g_iadd (B : Bdy p Z s m meth c own bytes maxL ret nm) (W : Wk p l e R s m args below meth c Z T h k n) {x y : Int32} (hd : decode bytes pc = .ok (.iadd, 1))  (q : Go p.tables e below G T (mkF m (pc + 1) ls (.int (x + y) :: st))) : Go p.tables e below G T (mkF m pc ls (.int y :: .int x :: st)) := by
  obtain ⟨_, X, -⟩ := W
  exact Go.by (fun t q => XS.iadd X.here B.1 rfl (hb B.2.2.2.1 hd) rfl q) q
theorem g_isub (B : Bdy p Z s m meth c own bytes maxL ret nm) (W : Wk p l e R s m args below meth c Z T h k n) {x y : Int32} (hd : decode bytes pc = .ok (.isub, 1))  (q : Go p.tables e below G T (mkF m (pc + 1) ls (.int (x - y) :: st))) : Go p.tables e below G T (mkF m pc ls (.int y :: .int x :: st)) := by
  obtain ⟨_, X, -⟩ := W
  exact Go.by (fun t q => XS.isub X.here B.1 rfl (hb B.2.2.2.1 hd) rfl q) q
theorem g_iand (B : Bdy p Z s m meth c own bytes maxL ret nm) (W : Wk p l e R s m args below meth c Z T h k n) {x y : Int32} (hd : decode bytes pc = .ok (.iand, 1))  (q : Go p.tables e below G T (mkF m (pc + 1) ls (.int (x &&& y) :: st))) : Go p.tables e below G T (mkF m pc ls (.int y :: .int x :: st)) := by
  obtain ⟨_, X, -⟩ := W
  exact Go.by (fun t q => XS.iand X.here B.1 rfl (hb B.2.2.2.1 hd) rfl q) q
theorem g_imul (B : Bdy p Z s m meth c own bytes maxL ret nm) (W : Wk p l e R s m args below meth c Z T h k n) {x y : Int32} (hd : decode bytes pc = .ok (.imul, 1))  (q : Go p.tables e below G T (mkF m (pc + 1) ls (.int (x * y) :: st))) : Go p.tables e below G T (mkF m pc ls (.int y :: .int x :: st)) := by
  obtain ⟨_, X, -⟩ := W
  exact Go.by (fun t q => XS.imul X.here B.1 rfl (hb B.2.2.2.1 hd) rfl q) q
theorem g_ior (B : Bdy p Z s m meth c own bytes maxL ret nm) (W : Wk p l e R s m args below meth c Z T h k n) {x y : Int32} (hd : decode bytes pc = .ok (.ior, 1))  (q : Go p.tables e below G T (mkF m (pc + 1) ls (.int (x ||| y) :: st))) : Go p.tables e below G T (mkF m pc ls (.int y :: .int x :: st)) := by
  obtain ⟨_, X, -⟩ := W
  exact Go.by (fun t q => XT.ior X.here B.1 rfl (hb B.2.2.2.1 hd) rfl q) q
theorem g_ixor (B : Bdy p Z s m meth c own bytes maxL ret nm) (W : Wk p l e R s m args below meth c Z T h k n) {x y : Int32} (hd : decode bytes pc = .ok (.ixor, 1))  (q : Go p.tables e below G T (mkF m (pc + 1) ls (.int (x ^^^ y) :: st))) : Go p.tables e below G T (mkF m pc ls (.int y :: .int x :: st)) := by
  obtain ⟨_, X, -⟩ := W
  exact Go.by (fun t q => XT.ixor X.here B.1 rfl (hb B.2.2.2.1 hd) rfl q) q
theorem g_iushr (B : Bdy p Z s m meth c own bytes maxL ret nm) (W : Wk p l e R s m args below meth c Z T h k n) {x y : Int32} (hd : decode bytes pc = .ok (.iushr, 1))  (q : Go p.tables e below G T (mkF m (pc + 1) ls (.int (XT.ushr x y) :: st))) : Go p.tables e below G T (mkF m pc ls (.int y :: .int x :: st)) := by
  obtain ⟨_, X, -⟩ := W
  exact Go.by (fun t q => XT.iushr X.here B.1 rfl (hb B.2.2.2.1 hd) rfl q) q
theorem g_idiv (B : Bdy p Z s m meth c own bytes maxL ret nm) (W : Wk p l e R s m args below meth c Z T h k n) {x y : Int32} (hd : decode bytes pc = .ok (.idiv, 1)) (hy : y ≠ 0) (q : Go p.tables e below G T (mkF m (pc + 1) ls (.int (x / y) :: st))) : Go p.tables e below G T (mkF m pc ls (.int y :: .int x :: st)) := by
  obtain ⟨_, X, -⟩ := W
  exact Go.by (fun t q => XS.idiv X.here B.1 rfl (hb B.2.2.2.1 hd) rfl hy q) q
theorem g_irem (B : Bdy p Z s m meth c own bytes maxL ret nm) (W : Wk p l e R s m args below meth c Z T h k n) {x y : Int32} (hd : decode bytes pc = .ok (.irem, 1)) (hy : y ≠ 0) (q : Go p.tables e below G T (mkF m (pc + 1) ls (.int (x % y) :: st))) : Go p.tables e below G T (mkF m pc ls (.int y :: .int x :: st))   := by
  obtain ⟨_, X, -⟩ := W
  exact Go.by (fun t q => iremM X B.1 rfl (hb B.2.2.2.1 hd) rfl hy q) q
theorem g_ineg (B : Bdy p Z s m meth c own bytes maxL ret nm) (W : Wk p l e R s m args below meth c Z T h k n) {x : Int32} (hd : decode bytes pc = .ok (.ineg, 1))  (q : Go p.tables e below G T (mkF m (pc + 1) ls (.int (-x) :: st))) : Go p.tables e below G T (mkF m pc ls (.int x :: st)) := by
  obtain ⟨_, X, -⟩ := W
  exact Go.by (fun t q => XS.ineg X.here B.1 rfl (hb B.2.2.2.1 hd) rfl q) q
theorem g_i2c (B : Bdy p Z s m meth c own bytes maxL ret nm) (W : Wk p l e R s m args below meth c Z T h k n) {x : Int32} (hd : decode bytes pc = .ok (.i2c, 1))  (q : Go p.tables e below G T (mkF m (pc + 1) ls (.int x.toUInt32.toUInt16.toUInt32.toInt32 :: st))) : Go p.tables e below G T (mkF m pc ls (.int x :: st)) := by
  obtain ⟨_, X, -⟩ := W
  exact Go.by (fun t q => XT.i2c X.here B.1 rfl (hb B.2.2.2.1 hd) rfl q) q
theorem g_i2b (B : Bdy p Z s m meth c own bytes maxL ret nm) (W : Wk p l e R s m args below meth c Z T h k n) {x : Int32} (hd : decode bytes pc = .ok (.i2b, 1))  (q : Go p.tables e below G T (mkF m (pc + 1) ls (.int x.toInt8.toInt32 :: st))) : Go p.tables e below G T (mkF m pc ls (.int x :: st)) := by
  obtain ⟨_, X, -⟩ := W
  exact Go.by (fun t q => XT.i2b X.here B.1 rfl (hb B.2.2.2.1 hd) rfl q) q
theorem g_i2l (B : Bdy p Z s m meth c own bytes maxL ret nm) (W : Wk p l e R s m args below meth c Z T h k n) {x : Int32} (hd : decode bytes pc = .ok (.i2l, 1))  (q : Go p.tables e below G T (mkF m (pc + 1) ls (.long x.toInt64 :: st))) : Go p.tables e below G T (mkF m pc ls (.int x :: st)) := by
  obtain ⟨_, X, -⟩ := W
  exact Go.by (fun t q => XT.i2l X.here B.1 rfl (hb B.2.2.2.1 hd) rfl q) q
theorem g_l2i (B : Bdy p Z s m meth c own bytes maxL ret nm) (W : Wk p l e R s m args below meth c Z T h k n) {x : Int64} (hd : decode bytes pc = .ok (.l2i, 1))  (q : Go p.tables e below G T (mkF m (pc + 1) ls (.int x.toInt32 :: st))) : Go p.tables e below G T (mkF m pc ls (.long x :: st)) := by
  obtain ⟨_, X, -⟩ := W
  exact Go.by (fun t q => XT.l2i X.here B.1 rfl (hb B.2.2.2.1 hd) rfl q) q
theorem g_land (B : Bdy p Z s m meth c own bytes maxL ret nm) (W : Wk p l e R s m args below meth c Z T h k n) {x y : Int64} (hd : decode bytes pc = .ok (.land, 1))  (q : Go p.tables e below G T (mkF m (pc + 1) ls (.long (x &&& y) :: st))) : Go p.tables e below G T (mkF m pc ls (.long y :: .long x :: st)) := by
  obtain ⟨_, X, -⟩ := W
  exact Go.by (fun t q => XT.land X.here B.1 rfl (hb B.2.2.2.1 hd) rfl q) q
theorem g_ladd (B : Bdy p Z s m meth c own bytes maxL ret nm) (W : Wk p l e R s m args below meth c Z T h k n) {x y : Int64} (hd : decode bytes pc = .ok (.ladd, 1))  (q : Go p.tables e below G T (mkF m (pc + 1) ls (.long (x + y) :: st))) : Go p.tables e below G T (mkF m pc ls (.long y :: .long x :: st)) := by
  obtain ⟨_, X, -⟩ := W
  exact Go.by (fun t q => XT.ladd X.here B.1 rfl (hb B.2.2.2.1 hd) rfl q) q
theorem g_lcmp (B : Bdy p Z s m meth c own bytes maxL ret nm) (W : Wk p l e R s m args below meth c Z T h k n) {x y : Int64} (hd : decode bytes pc = .ok (.lcmp, 1))  (q : Go p.tables e below G T (mkF m (pc + 1) ls (.int (XT.cmpL x y) :: st))) : Go p.tables e below G T (mkF m pc ls (.long y :: .long x :: st)) := by
  obtain ⟨_, X, -⟩ := W
  exact Go.by (fun t q => XT.lcmp X.here B.1 rfl (hb B.2.2.2.1 hd) rfl q) q
theorem g_lushr (B : Bdy p Z s m meth c own bytes maxL ret nm) (W : Wk p l e R s m args below meth c Z T h k n) {x : Int64} {y : Int32} (hd : decode bytes pc = .ok (.lushr, 1))  (q : Go p.tables e below G T (mkF m (pc + 1) ls (.long (XT.ushrL x y) :: st))) : Go p.tables e below G T (mkF m pc ls (.int y :: .long x :: st)) := by
  obtain ⟨_, X, -⟩ := W
  exact Go.by (fun t q => XT.lushr X.here B.1 rfl (hb B.2.2.2.1 hd) rfl q) q
theorem g_iinc (B : Bdy p Z s m meth c own bytes maxL ret nm) (W : Wk p l e R s m args below meth c Z T h k n) {i : Nat} {cst : Int} {x v : Int32} {l' : Array Slot} (hd : decode bytes pc = .ok (.iinc i cst, 3)) (hv : Int32.ofInt cst = v) (hl : ls[i]? = some (.val (.int x))) (hl' : storeLocals ls i (.int (x + v)) = some l') (q : Go p.tables e below G T (mkF m (pc + 3) l' st)) : Go p.tables e below G T (mkF m pc ls st) := by
  obtain ⟨_, X, -⟩ := W
  exact Go.by (fun t q => XT.iincV X.here B.1 rfl _ (hb B.2.2.2.1 hd) hv hl hl' q) q
theorem g_dup (B : Bdy p Z s m meth c own bytes maxL ret nm) (W : Wk p l e R s m args below meth c Z T h k n) {v : Value} (hd : decode bytes pc = .ok (.dup, 1)) (hv : v.category = 1) (q : Go p.tables e below G T (mkF m (pc + 1) ls (v :: v :: st))) : Go p.tables e below G T (mkF m pc ls (v :: st)) := by
  obtain ⟨_, X, -⟩ := W
  exact Go.by (fun t q => XS.dup X.here B.1 rfl (hb B.2.2.2.1 hd) rfl hv q) q
theorem g_dup_x1 (B : Bdy p Z s m meth c own bytes maxL ret nm) (W : Wk p l e R s m args below meth c Z T h k n) {v w : Value} (hd : decode bytes pc = .ok (.dup_x1, 1)) (hv : v.category = 1) (hw' : w.category = 1) (q : Go p.tables e below G T (mkF m (pc + 1) ls (v :: w :: v :: st))) : Go p.tables e below G T (mkF m pc ls (v :: w :: st)) := by
  obtain ⟨_, X, -⟩ := W
  exact Go.by (fun t q => XT.dupX1 X.here B.1 rfl (hb B.2.2.2.1 hd) rfl hv hw' q) q
theorem g_pop (B : Bdy p Z s m meth c own bytes maxL ret nm) (W : Wk p l e R s m args below meth c Z T h k n) {v : Value} (hd : decode bytes pc = .ok (.pop, 1)) (hv : v.category = 1) (q : Go p.tables e below G T (mkF m (pc + 1) ls st)) : Go p.tables e below G T (mkF m pc ls (v :: st)) := by
  obtain ⟨_, X, -⟩ := W
  exact Go.by (fun t q => XT.pop X.here B.1 rfl (hb B.2.2.2.1 hd) rfl hv q) q
theorem g_goto (B : Bdy p Z s m meth c own bytes maxL ret nm) (W : Wk p l e R s m args below meth c Z T h k n)  {o : Int} {pc' : Nat} (hd : decode bytes pc = .ok (.goto o, 3))  (hp : (pc : Int) + o = (pc' : Int)) (q : Go p.tables e below G T (mkF m pc' ls st)) : Go p.tables e below G T (mkF m pc ls st)   := by
  obtain ⟨_, X, -⟩ := W
  exact Go.by (fun t q => XS.goto X.here B.1 rfl rfl (hb B.2.2.2.1 hd)  (by rw [hp]; exact Int.natCast_nonneg _) (by rw [hp]; exact Int.toNat_natCast _) q) q
theorem g_if_y (B : Bdy p Z s m meth c own bytes maxL ret nm) (W : Wk p l e R s m args below meth c Z T h k n) {cd : ClassFile.Cond} {x : Int32} {o : Int} {pc' : Nat} (hd : decode bytes pc = .ok (.ifCond cd o, 3)) (hc : ifCond.holds cd x = true) (hp : (pc : Int) + o = (pc' : Int)) (q : Go p.tables e below G T (mkF m pc' ls st)) : Go p.tables e below G T (mkF m pc ls (.int x :: st))   := by
  obtain ⟨_, X, -⟩ := W
  exact Go.by (fun t q => XS.ifYes X.here B.1 rfl rfl (hb B.2.2.2.1 hd) rfl hc (by rw [hp]; exact Int.natCast_nonneg _) (by rw [hp]; exact Int.toNat_natCast _) q) q
theorem g_if_n (B : Bdy p Z s m meth c own bytes maxL ret nm) (W : Wk p l e R s m args below meth c Z T h k n) {cd : ClassFile.Cond} {x : Int32} {o : Int} (hd : decode bytes pc = .ok (.ifCond cd o, 3)) (hc : ifCond.holds cd x = false) (q : Go p.tables e below G T (mkF m (pc + 3) ls st)) : Go p.tables e below G T (mkF m pc ls (.int x :: st))   := by
  obtain ⟨_, X, -⟩ := W
  exact Go.by (fun t q => XS.ifNo X.here B.1 rfl (hb B.2.2.2.1 hd) rfl hc q) q
theorem g_icmp_y (B : Bdy p Z s m meth c own bytes maxL ret nm) (W : Wk p l e R s m args below meth c Z T h k n) {cd : ClassFile.Cond} {x y : Int32} {o : Int} {pc' : Nat} (hd : decode bytes pc = .ok (.if_icmp cd o, 3)) (hc : if_icmp.holds cd x y = true) (hp : (pc : Int) + o = (pc' : Int)) (q : Go p.tables e below G T (mkF m pc' ls st)) : Go p.tables e below G T (mkF m pc ls (.int y :: .int x :: st))   := by
  obtain ⟨_, X, -⟩ := W
  exact Go.by (fun t q => XS.icmpYes X.here B.1 rfl rfl (hb B.2.2.2.1 hd) rfl hc (by rw [hp]; exact Int.natCast_nonneg _) (by rw [hp]; exact Int.toNat_natCast _) q) q
theorem g_icmp_n (B : Bdy p Z s m meth c own bytes maxL ret nm) (W : Wk p l e R s m args below meth c Z T h k n) {cd : ClassFile.Cond} {x y : Int32} {o : Int} (hd : decode bytes pc = .ok (.if_icmp cd o, 3)) (hc : if_icmp.holds cd x y = false) (q : Go p.tables e below G T (mkF m (pc + 3) ls st)) : Go p.tables e below G T (mkF m pc ls (.int y :: .int x :: st))   := by
  obtain ⟨_, X, -⟩ := W
  exact Go.by (fun t q => XS.icmpNo X.here B.1 rfl (hb B.2.2.2.1 hd) rfl hc q) q
theorem g_ifnull_y (B : Bdy p Z s m meth c own bytes maxL ret nm) (W : Wk p l e R s m args below meth c Z T h k n)  {o : Int} {pc' : Nat} (hd : decode bytes pc = .ok (.ifnull o, 3))  (hp : (pc : Int) + o = (pc' : Int)) (q : Go p.tables e below G T (mkF m pc' ls st)) : Go p.tables e below G T (mkF m pc ls (.null :: st))   := by
  obtain ⟨_, X, -⟩ := W
  exact Go.by (fun t q => XS.ifnullYes X.here B.1 rfl rfl (hb B.2.2.2.1 hd) rfl (by rw [hp]; exact Int.natCast_nonneg _) (by rw [hp]; exact Int.toNat_natCast _) q) q
theorem g_ifnull_n (B : Bdy p Z s m meth c own bytes maxL ret nm) (W : Wk p l e R s m args below meth c Z T h k n) {a : Addr} {o : Int} (hd : decode bytes pc = .ok (.ifnull o, 3))  (q : Go p.tables e below G T (mkF m (pc + 3) ls st)) : Go p.tables e below G T (mkF m pc ls (.ref a :: st))   := by
  obtain ⟨_, X, -⟩ := W
  exact Go.by (fun t q => XS.ifnullNo X.here B.1 rfl (hb B.2.2.2.1 hd) rfl q) q
theorem g_ifnonnull_y (B : Bdy p Z s m meth c own bytes maxL ret nm) (W : Wk p l e R s m args below meth c Z T h k n) {a : Addr} {o : Int} {pc' : Nat} (hd : decode bytes pc = .ok (.ifnonnull o, 3))  (hp : (pc : Int) + o = (pc' : Int)) (q : Go p.tables e below G T (mkF m pc' ls st)) : Go p.tables e below G T (mkF m pc ls (.ref a :: st))   := by
  obtain ⟨_, X, -⟩ := W
  exact Go.by (fun t q => XT.ifnonnullYes X.here B.1 rfl rfl (hb B.2.2.2.1 hd) rfl (by rw [hp]; exact Int.natCast_nonneg _) (by rw [hp]; exact Int.toNat_natCast _) q) q
theorem g_ifnonnull_n (B : Bdy p Z s m meth c own bytes maxL ret nm) (W : Wk p l e R s m args below meth c Z T h k n)  {o : Int} (hd : decode bytes pc = .ok (.ifnonnull o, 3))  (q : Go p.tables e below G T (mkF m (pc + 3) ls st)) : Go p.tables e below G T (mkF m pc ls (.null :: st))   := by
  obtain ⟨_, X, -⟩ := W
  exact Go.by (fun t q => XT.ifnonnullNo X.here B.1 rfl (hb B.2.2.2.1 hd) rfl q) q
theorem g_acmp_y (B : Bdy p Z s m meth c own bytes maxL ret nm) (W : Wk p l e R s m args below meth c Z T h k n) {cd : ClassFile.ACond} {x y : Value} {o : Int} {pc' : Nat} (hd : decode bytes pc = .ok (.if_acmp cd o, 3)) (hx' : x.isRef = true) (hy' : y.isRef = true) (hc : XT.acmp cd x y = true) (hp : (pc : Int) + o = (pc' : Int)) (q : Go p.tables e below G T (mkF m pc' ls st)) : Go p.tables e below G T (mkF m pc ls (y :: x :: st))   := by
  obtain ⟨_, X, -⟩ := W
  exact Go.by (fun t q => XT.acmpYes X.here B.1 rfl rfl (hb B.2.2.2.1 hd) rfl hx' hy' hc (by rw [hp]; exact Int.natCast_nonneg _) (by rw [hp]; exact Int.toNat_natCast _) q) q
theorem g_acmp_n (B : Bdy p Z s m meth c own bytes maxL ret nm) (W : Wk p l e R s m args below meth c Z T h k n) {cd : ClassFile.ACond} {x y : Value} {o : Int} (hd : decode bytes pc = .ok (.if_acmp cd o, 3)) (hx' : x.isRef = true) (hy' : y.isRef = true) (hc : XT.acmp cd x y = false) (q : Go p.tables e below G T (mkF m (pc + 3) ls st)) : Go p.tables e below G T (mkF m pc ls (y :: x :: st))   := by
  obtain ⟨_, X, -⟩ := W
  exact Go.by (fun t q => XT.acmpNo X.here B.1 rfl (hb B.2.2.2.1 hd) rfl hx' hy' hc q) q
theorem g_dia (P : Prop) [Decidable P] {tb : Tables} {F : JFrame} {pc' : Nat} (h1 : P → Go tb e below G T (mkF m pc' ls (.int 1 :: st)) → Go tb e below G T F) (h0 : ¬ P → Go tb e below G T (mkF m pc' ls (.int 0 :: st)) → Go tb e below G T F) (q : Go tb e below G T (mkF m pc' ls (.int (bi (decide P)) :: st))) : Go tb e below G T F := by
  by_cases hp : P
  · rw [decide_eq_true hp] at q; exact h1 hp q
  · rw [decide_eq_false hp] at q; exact h0 hp q
theorem g_diab (b : Bool) {tb : Tables} {F : JFrame} {pc' : Nat} (h1 : b = true → Go tb e below G T (mkF m pc' ls (.int 1 :: st)) → Go tb e below G T F) (h0 : b = false → Go tb e below G T (mkF m pc' ls (.int 0 :: st)) → Go tb e below G T F) (q : Go tb e below G T (mkF m pc' ls (.int (bi b) :: st))) : Go tb e below G T F := by
  cases b
  · exact h0 rfl q
  · exact h1 rfl q
theorem g_ldcI (B : Bdy p Z s m meth c own bytes maxL ret nm) (W : Wk p l e R s m args below meth c Z T h k n) {i : Nat} {v : Int32} (hd : decode bytes pc = .ok (.ldc i, 2)) (w : (Cond.constant own i v).before a0 Z = true) (q : Go p.tables e below G T (mkF m (pc + 2) ls (.int v :: st))) : Go p.tables e below G T (mkF m pc ls st) := by
  obtain ⟨_, X, -⟩ := W
  exact Go.by (fun t q => X.ldcI B.1 B.2.2.1 (mv B.2.1 w) rfl (hb B.2.2.2.1 hd) q) q
theorem g_ldcL (B : Bdy p Z s m meth c own bytes maxL ret nm) (W : Wk p l e R s m args below meth c Z T h k n) {i : Nat} {v : Int64} (hd : decode bytes pc = .ok (.ldc2_w i, 3)) (w : (Cond.constantLong own i v).before a0 Z = true) (q : Go p.tables e below G T (mkF m (pc + 3) ls (.long v :: st))) : Go p.tables e below G T (mkF m pc ls st) := by
  obtain ⟨_, X, -⟩ := W
  exact Go.by (fun t q => X.ldc2J B.1 B.2.2.1 (mv B.2.1 w) rfl (hb B.2.2.2.1 hd) q) q
/-! ### the heap's steps -/
theorem x_new (B : Bdy p Z s m meth c own bytes maxL ret nm) (W : Wk p l e R s m args below meth c Z T h k n) {C : String} {i sz : Nat} (hd : decode bytes pc = .ok (.new i, 3)) (w : (Cond.classLink own i C).before a0 Z = true) (wi : (Cond.instantiable C sz).before a0 Z = true) (wz : (Cond.initialized C).before a0 Z = true) (hc : k + 1 ≤ R.cells) (hl : n + sz ≤ R.slots) (ls : Array Slot) (st : List Value) :
    ∃ T' h' b, b = h.size ∧ Wk p l e R s m args below meth c Z T' h' (k + 1) (n + sz) ∧ Keep h h' [] ∧ Exa Z h' b C ∧ (∀ {O nf d : String} {ty : FieldType}, Laid Z a0 C O nf d → parseFieldDescriptor d = some ty → Fld Z h' b O nf d (defaultValue ty)) ∧
      (∀ G, Go p.tables e below G T' (mkF m (pc + 3) ls (.ref b :: st)) → Go p.tables e below G T (mkF m pc ls st)) := by
  obtain ⟨locs, X, eT, N, O⟩ := W
  obtain ⟨T', h', X', e', E', A', D', -, st'⟩ := newO X B.1 B.2.1 B.2.2.1 w wi wz eT (g := mkF m pc ls st) rfl (hb B.2.2.2.1 hd) hc hl
  exact ⟨T', h', _, rfl, ⟨locs, X', e', N, O.ext E'⟩, (Keep.refl h []).ext E', A', D', fun G q => Go.by st' q⟩
theorem x_init (B : Bdy p Z s m meth c own bytes maxL ret nm) (W : Wk p l e R s m args below meth c Z T h k n) {i : Nat} (hd : decode bytes pc = .ok (.invokespecial i, 3)) (w1 : (Cond.methodLink own i Lib.objectInit).before a0 Z = true) (w2 : (Cond.instanceMethod Lib.objectInit).before a0 Z = true)
    (w3 : (Cond.code Lib.objectInit ⟨#[0xb1]⟩ 1 none).before a0 Z = true) (b : Addr) (ls : Array Slot) (st : List Value) (hsz : ls.size = maxL) (V : Nat) (hV : (st.map fun v => v.category).sum = V) (hf : 1 ≤ R.frames) (hl : V + 12 ≤ R.locals) :
    ∃ T', Wk p l e R s m args below meth c Z T' h k n ∧ (∀ G, Go p.tables e below G T' (mkF m (pc + 3) ls st) → Go p.tables e below G T (mkF m pc ls (.ref b :: st))) := by
  obtain ⟨locs, X, eT, N, O⟩ := W
  obtain ⟨T', X', e', st'⟩ := initO X B.1 B.2.1 B.2.2.1 w1 w2 w3 eT (g := mkF m pc ls (.ref b :: st)) rfl (hsz.trans B.2.2.2.2.1.symm) rfl (hb B.2.2.2.1 hd) hf (W := V) (by show 2 * 0 + _ ≤ _; omega) hl
  exact ⟨T', ⟨locs, X', e', N, O⟩, fun G q => Go.by st' q⟩
theorem x_get (B : Bdy p Z s m meth c own bytes maxL ret nm) (W : Wk p l e R s m args below meth c Z T h k n) {R0 O nf d host : String} {i : Nat} {b : Addr} {v : Value} (hd : decode bytes pc = .ok (.getfield i, 3)) (w : (Cond.fieldLink own i R0 nf d).before a0 Z = true ∨ (Cond.fieldLinkNest own i R0 nf d host).before a0 Z = true) (via : Via Z R0 O nf d) (F : Fld Z h b O nf d v) (ls : Array Slot) (st : List Value) :
    ∃ T', Wk p l e R s m args below meth c Z T' h k n ∧ (∀ G, Go p.tables e below G T' (mkF m (pc + 3) ls (v :: st)) → Go p.tables e below G T (mkF m pc ls (.ref b :: st))) := by
  obtain ⟨locs, X, eT, N, O'⟩ := W
  obtain ⟨T', X', e', st'⟩ := getF X B.1 B.2.1 B.2.2.1 w via eT F (g := mkF m pc ls (.ref b :: st)) rfl rfl (hb B.2.2.2.1 hd)
  exact ⟨T', ⟨locs, X', e', N, O'⟩, fun G q => Go.by st' q⟩
theorem x_gets (B : Bdy p Z s m meth c own bytes maxL ret nm) (W : Wk p l e R s m args below meth c Z T h k n) {R0 O nf d host : String} {i : Nat} {v : Value} (hd : decode bytes pc = .ok (.getstatic i, 3)) (w : (Cond.fieldLink own i R0 nf d).before a0 Z = true ∨ (Cond.fieldLinkNest own i R0 nf d host).before a0 Z = true) (via : Via Z R0 O nf d) (F : Sta Z Z.heap O nf d v) (ls : Array Slot) (st : List Value) :
    ∃ T', Wk p l e R s m args below meth c Z T' h k n ∧ (∀ G, Go p.tables e below G T' (mkF m (pc + 3) ls (v :: st)) → Go p.tables e below G T (mkF m pc ls st)) := by
  obtain ⟨locs, X, eT, N, O'⟩ := W
  obtain ⟨T', X', e', st'⟩ := getS2 X B.1 B.2.1 B.2.2.1 w via eT (F.ext O'.2) (g := mkF m pc ls st) rfl (hb B.2.2.2.1 hd)
  exact ⟨T', ⟨locs, X', e', N, O'⟩, fun G q => Go.by st' q⟩
theorem x_put (B : Bdy p Z s m meth c own bytes maxL ret nm) (W : Wk p l e R s m args below meth c Z T h k n) {R0 O nf d C : String} {i kk : Nat} {ty : FieldType} {b : Addr} {v v' old : Value} (hd : decode bytes pc = .ok (.putfield i, 3)) (w : (Cond.fieldLink own i R0 nf d).before a0 Z = true) (via : Via Z R0 O nf d) (F : Fld Z h b O nf d old) (E : Exa Z h b C) (L : (Cond.lays C O nf d).before a0 Z = true ∨ ((Cond.laysFinal C O nf d).before a0 Z = true ∧ own = O ∧ nm = "<init>")) (wi : (Cond.instantiable C kk).before a0 Z = true)
    (hty : parseFieldDescriptor d = some ty) (hn : narrow ty v = v') (hf : fits ty v' = true) (hb' : Z.heap.size ≤ b) (ls : Array Slot) (st : List Value) :
    ∃ T' h', Wk p l e R s m args below meth c Z T' h' k n ∧ Keep h h' [b] ∧ Wr h h' b (RoadKit.slotOf Z O nf d) v' ∧ Fld Z h' b O nf d v' ∧ Exa Z h' b C ∧ (∀ G, Go p.tables e below G T' (mkF m (pc + 3) ls st) → Go p.tables e below G T (mkF m pc ls (v :: .ref b :: st))) := by
  obtain ⟨locs, X, eT, N, O'⟩ := W
  obtain ⟨T', h', X', e', W', st'⟩ := putFN X B.1 B.2.1 B.2.2.1 w via eT F E (L.imp id fun q => ⟨q.1, q.2.1, B.nameOf.trans q.2.2⟩) wi hty hn hf (g := mkF m pc ls (v :: .ref b :: st)) rfl rfl (hb B.2.2.2.1 hd)
  exact ⟨T', h', ⟨_, X', e', Fr.snoc X' N hb', O'.wr W' hb'⟩, Keep.of_wr W', W', F.same W', E.wr W', fun G q => Go.by st' q⟩
theorem x_instY (B : Bdy p Z s m meth c own bytes maxL ret nm) (W : Wk p l e R s m args below meth c Z T h k n) {K : String} {i : Nat} {b : Addr} (hd : decode bytes pc = .ok (.instanceof i, 3)) (w : (Cond.classLink own i K).before a0 Z = true) (F : Ins Z h b K true) (ls : Array Slot) (st : List Value) :
    ∃ T', Wk p l e R s m args below meth c Z T' h k n ∧ (∀ G, Go p.tables e below G T' (mkF m (pc + 3) ls (.int 1 :: st)) → Go p.tables e below G T (mkF m pc ls (.ref b :: st))) := by
  obtain ⟨locs, X, eT, N, O⟩ := W
  obtain ⟨T', X', e', st'⟩ := instY X B.1 B.2.1 B.2.2.1 w eT F (g := mkF m pc ls (.ref b :: st)) rfl rfl (hb B.2.2.2.1 hd)
  exact ⟨T', ⟨locs, X', e', N, O⟩, fun G q => Go.by st' q⟩
theorem x_instN (B : Bdy p Z s m meth c own bytes maxL ret nm) (W : Wk p l e R s m args below meth c Z T h k n) {K C : String} {i : Nat} {b : Addr} (hd : decode bytes pc = .ok (.instanceof i, 3)) (w : (Cond.classLink own i K).before a0 Z = true) (E : Exa Z h b C) (F : ∃ c t, Z.vm.findClass C = some c ∧ Z.vm.findClass K = some t ∧ Z.vm.assignable c t = false) (ls : Array Slot) (st : List Value) :
    ∃ T', Wk p l e R s m args below meth c Z T' h k n ∧ (∀ G, Go p.tables e below G T' (mkF m (pc + 3) ls (.int 0 :: st)) → Go p.tables e below G T (mkF m pc ls (.ref b :: st))) := by
  obtain ⟨locs, X, eT, N, O⟩ := W
  obtain ⟨T', X', e', st'⟩ := instNo X B.1 B.2.1 B.2.2.1 w eT E F (g := mkF m pc ls (.ref b :: st)) rfl rfl (hb B.2.2.2.1 hd)
  exact ⟨T', ⟨locs, X', e', N, O⟩, fun G q => Go.by st' q⟩
theorem x_castY (B : Bdy p Z s m meth c own bytes maxL ret nm) (W : Wk p l e R s m args below meth c Z T h k n) {K : String} {i : Nat} {b : Addr} (hd : decode bytes pc = .ok (.checkcast i, 3)) (w : (Cond.classLink own i K).before a0 Z = true) (F : Ins Z h b K true) (ls : Array Slot) (st : List Value) :
    ∃ T', Wk p l e R s m args below meth c Z T' h k n ∧ (∀ G, Go p.tables e below G T' (mkF m (pc + 3) ls (.ref b :: st)) → Go p.tables e below G T (mkF m pc ls (.ref b :: st))) := by
  obtain ⟨locs, X, eT, N, O⟩ := W
  obtain ⟨T', X', e', st'⟩ := castY X B.1 B.2.1 B.2.2.1 w eT F (g := mkF m pc ls (.ref b :: st)) rfl rfl (hb B.2.2.2.1 hd)
  exact ⟨T', ⟨locs, X', e', N, O⟩, fun G q => Go.by st' q⟩
/-! ### arrays -/
theorem x_newA (B : Bdy p Z s m meth c own bytes maxL ret nm) (W : Wk p l e R s m args below meth c Z T h k n) {aty : ArrayType} {z : Int32} (cap : Nat) (hd : decode bytes pc = .ok (.newarray aty, 2)) (w : (Cond.arrayClass (newarray.typeOf aty)).before a0 Z = true) (hn : ¬ z < 0) (hcap : z.toNatClampNeg ≤ cap) (hbg : cap * 8 ≤ 536870912) (hc : k + 1 ≤ R.cells) (hl : n + cap ≤ R.slots) (ls : Array Slot) (st : List Value) :
    ∃ T' h' b cA, b = h.size ∧ Wk p l e R s m args below meth c Z T' h' (k + 1) (n + cap) ∧ Keep h h' [] ∧ Arv Z h' b cA (newarray.typeOf aty) z (List.replicate cap (defaultValue (newarray.typeOf aty))) (defaultValue (newarray.typeOf aty)) ∧
      (∀ G, Go p.tables e below G T' (mkF m (pc + 2) ls (.ref b :: st)) → Go p.tables e below G T (mkF m pc ls (.int z :: st))) := by
  obtain ⟨locs, X, eT, N, O⟩ := W
  obtain ⟨T', h', cA, X', e', E', A', st'⟩ := newP X B.1 B.2.1 w eT (g := mkF m pc ls (.int z :: st)) rfl (hb B.2.2.2.1 hd) rfl hn hcap hbg hc hl
  exact ⟨T', h', _, cA, rfl, ⟨locs, X', e', N, O.ext E'⟩, (Keep.refl h []).ext E', (Arv.new A' hn).pad (vs' := [] ++ List.replicate cap _) (pad_rep [] _ cap), fun G q => Go.by st' q⟩
theorem arv_put {kc : ClassId} {ty : FieldType} {z j : Int32} {vs : List Value} {dv v : Value} {b : Addr} (F : Arv Z h b kc ty z vs dv) (hv : fits ty v = true) (hW : Wr h h' b j.toNatClampNeg v) (hi : j.toNatClampNeg < vs.length) : Arv Z h' b kc ty z (vs.set j.toNatClampNeg v) dv := by
  obtain ⟨cl, A, r1, r2, r3, H, Gf⟩ := F
  exact Arv.set A r1 r2 r3 H Gf hv hW _ rfl hi
theorem x_castore (B : Bdy p Z s m meth c own bytes maxL ret nm) (W : Wk p l e R s m args below meth c Z T h k n) {kc : ClassId} {z j x : Int32} {vs : List Value} {dv : Value} {b : Addr} (hd : decode bytes pc = .ok (.castore, 1)) (F : Arv Z h b kc .char z vs dv) (hj : ¬ j < 0 ∧ j < z) (hi : j.toNatClampNeg < vs.length) (hb' : Z.heap.size ≤ b) (ls : Array Slot) (st : List Value) :
    ∃ T' h', Wk p l e R s m args below meth c Z T' h' k n ∧ Keep h h' [b] ∧ Arv Z h' b kc .char z (vs.set j.toNatClampNeg (.int (nar .char x))) dv ∧ (∀ G, Go p.tables e below G T' (mkF m (pc + 1) ls st) → Go p.tables e below G T (mkF m pc ls (.int x :: .int j :: .ref b :: st))) := by
  obtain ⟨locs, X, eT, N, O⟩ := W
  have F' := F
  obtain ⟨cl, A, r1, r2, r3, Hs, Gf⟩ := F
  obtain ⟨T', h', X', e', W', st'⟩ := stC X B.1 B.2.1 eT A (inb_of r2 hj) (g := mkF m pc ls (.int x :: .int j :: .ref b :: st)) rfl rfl (hb B.2.2.2.1 hd)
  exact ⟨T', h', ⟨_, X', e', Fr.snoc X' N hb', O.wr W' hb'⟩, Keep.of_wr W', arv_put F' (fits_nar_char _) W' hi, fun G q => Go.by st' q⟩
theorem arv_read {kc : ClassId} {ty : FieldType} {z : Int32} {vs : List Value} {dv : Value} {b : Addr} (F : Arv Z h b kc ty z vs dv) {j : Int32} (hj : ¬ j < 0 ∧ j < z) {v : Value} (hv : vs.getD j.toNatClampNeg dv = v) : ∃ cl : Cell, Arr Z h b cl ty ∧ ¬ (j < 0 ∨ cl.slots.size ≤ j.toNatClampNeg) ∧ cl.slots[j.toNatClampNeg]? = some v := by
  obtain ⟨cl, A, r1, r2, r3, H, -⟩ := F
  exact ⟨cl, A, inb_of r2 hj, H.at (inb_of r2 hj) hv⟩
theorem g_caload (B : Bdy p Z s m meth c own bytes maxL ret nm) (W : Wk p l e R s m args below meth c Z T h k n) {kc : ClassId} {z j : Int32} {vs : List Value} {dv v : Value} {b : Addr} (hd : decode bytes pc = .ok (.caload, 1)) (F : Arv Z h b kc .char z vs dv) (hj : ¬ j < 0 ∧ j < z) (hv : vs.getD j.toNatClampNeg dv = v)
    (q : Go p.tables e below G T (mkF m (pc + 1) ls (v :: st))) : Go p.tables e below G T (mkF m pc ls (.int j :: .ref b :: st)) := by
  obtain ⟨locs, X, eT, N, O⟩ := W
  obtain ⟨cl, A, hin, hat⟩ := arv_read F hj hv
  exact Go.by (X.caload B.1 (by rw [eT]; exact A.1) (State.isArrayOf_alike B.2.1.alike A.2.1) A.2.2 hin hat (g := mkF m pc ls (.int j :: .ref b :: st)) rfl rfl (hb B.2.2.2.1 hd)) q
theorem g_caloadK (B : Bdy p Z s m meth c own bytes maxL ret nm) (W : Wk p l e R s m args below meth c Z T h k n) {j : Int32} {v : Value} {cl : Cell} {b : Addr} (hd : decode bytes pc = .ok (.caload, 1)) (A : Arr Z h b cl .char) (hin : ¬ (j < 0 ∨ cl.slots.size ≤ j.toNatClampNeg)) (hat : cl.slots[j.toNatClampNeg]? = some v)
    (q : Go p.tables e below G T (mkF m (pc + 1) ls (v :: st))) : Go p.tables e below G T (mkF m pc ls (.int j :: .ref b :: st)) := by
  obtain ⟨locs, X, eT, N, O⟩ := W
  exact Go.by (X.caload B.1 (by rw [eT]; exact A.1) (State.isArrayOf_alike B.2.1.alike A.2.1) A.2.2 hin hat (g := mkF m pc ls (.int j :: .ref b :: st)) rfl rfl (hb B.2.2.2.1 hd)) q
theorem g_alenK (B : Bdy p Z s m meth c own bytes maxL ret nm) (W : Wk p l e R s m args below meth c Z T h k n) {ty : FieldType} {z : Int32} {cl : Cell} {b : Addr} (hd : decode bytes pc = .ok (.arraylength, 1)) (A : Arr Z h b cl ty) (hz : cl.slots.size.toInt32 = z)
    (q : Go p.tables e below G T (mkF m (pc + 1) ls (.int z :: st))) : Go p.tables e below G T (mkF m pc ls (.ref b :: st)) := by
  obtain ⟨locs, X, eT, N, O⟩ := W
  refine Go.by (X.arraylength B.1 (by rw [eT]; exact A.1) (State.isArrayOf_alike B.2.1.alike A.2.1) (g := mkF m pc ls (.ref b :: st)) rfl rfl (hb B.2.2.2.1 hd)) ?_
  rw [hz]; exact q
theorem g_aalen (B : Bdy p Z s m meth c own bytes maxL ret nm) (W : Wk p l e R s m args below meth c Z T h k n) {kc : ClassId} {ty : FieldType} {z : Int32} {vs : List Value} {dv : Value} {b : Addr} (hd : decode bytes pc = .ok (.arraylength, 1)) (F : Arv Z h b kc ty z vs dv)
    (q : Go p.tables e below G T (mkF m (pc + 1) ls (.int z :: st))) : Go p.tables e below G T (mkF m pc ls (.ref b :: st)) := by
  obtain ⟨locs, X, eT, N, O⟩ := W
  obtain ⟨cl, A, r1, r2, r3, H, -⟩ := F
  refine Go.by (X.arraylength B.1 (by rw [eT]; exact A.1) (State.isArrayOf_alike B.2.1.alike A.2.1) (g := mkF m pc ls (.ref b :: st)) rfl rfl (hb B.2.2.2.1 hd)) ?_
  rw [len_of r2 r3]; exact q
theorem g_aaload (B : Bdy p Z s m meth c own bytes maxL ret nm) (W : Wk p l e R s m args below meth c Z T h k n) {ty : FieldType} {j : Int32} {v : Value} {cl : Cell} {b : Addr} (hd : decode bytes pc = .ok (.aaload, 1)) (A : Arr Z h b cl ty) (ht : ty.isReference = true) (hin : ¬ (j < 0 ∨ cl.slots.size ≤ j.toNatClampNeg)) (hat : cl.slots[j.toNatClampNeg]? = some v)
    (q : Go p.tables e below G T (mkF m (pc + 1) ls (v :: st))) : Go p.tables e below G T (mkF m pc ls (.int j :: .ref b :: st)) := by
  obtain ⟨locs, X, eT, N, O⟩ := W
  exact Go.by (X.aaload B.1 (by rw [eT]; exact A.1) (State.isArrayOf_alike B.2.1.alike A.2.1) ht A.2.2 hin hat (g := mkF m pc ls (.int j :: .ref b :: st)) rfl rfl (hb B.2.2.2.1 hd)) q
/-! ### calls -/
theorem backC {y : MethodName} {yb : ByteArray} {yL : Nat} {yr : Option FieldType} {rm : Room} {len V : Nat} {as' : Array Value} (C : Con l Z y yb yL yr [] rm as' h Q) (O : Old Z Z.heap.size h)
    (hZ : Z.Warmed39 s.vm) (wc : (Cond.code y yb yL yr).before a0 Z = true) (wz : (Cond.initialized y.cls).before a0 Z = true) (hf : rm.frames + 1 ≤ R.frames) (hl : V + (yL + 11) + rm.locals ≤ R.locals) :
    Back l R p e below s args y len V (fun A a => a = as' ∧ A.U.heap = h ∧ A.cells + rm.cells ≤ R.cells ∧ A.slots + rm.slots ≤ R.slots)
      (fun A _ v B => ∃ L, (Q v B.U.heap ∧ Fr Z.heap.size L ∧ Old Z Z.heap.size B.U.heap) ∧ B.locs = A.locs ++ L ∧ B.cells = A.cells + rm.cells ∧ B.slots = A.slots + rm.slots) :=
  backOf (Q := fun v h L => Q v h ∧ Fr Z.heap.size L ∧ Old Z Z.heap.size h) (C O) hZ wc wz hf hl
theorem x_static (B : Bdy p Z s m meth c own bytes maxL ret nm) (W : Wk p l e R s m args below meth c Z T h k n) {y : MethodName} {yb : ByteArray} {yL i : Nat} {yr : Option FieldType} {rm : Room} (argsL : List Value) (C : Con l Z y yb yL yr [] rm argsL.toArray h Q)
    (hd : decode bytes pc = .ok (.invokestatic i, 3)) (w1 : (Cond.methodLink own i y).before a0 Z = true) (w2 : (Cond.static y).before a0 Z = true) (wz : (Cond.initialized y.cls).before a0 Z = true) (wc : (Cond.code y yb yL yr).before a0 Z = true) (hy : y.cls ≠ "java/lang/invoke/MethodHandle" ∧ y.cls ≠ "java/lang/invoke/VarHandle")
    (hlen : ∀ sig, parseMethodDescriptor y.desc = some sig → argsL.length = sig.parameters.length) (ls : Array Slot) (st : List Value) (hsz : ls.size = maxL) (V : Nat) (hV : (st.map fun v => v.category).sum = V) (hf : rm.frames + 1 ≤ R.frames) (hl : V + (yL + 11) + rm.locals ≤ R.locals) (hc : k + rm.cells ≤ R.cells) (hs : n + rm.slots ≤ R.slots) :
    ∃ T' h' v, Wk p l e R s m args below meth c Z T' h' (k + rm.cells) (n + rm.slots) ∧ Q v h' ∧ (∀ G, Go p.tables e below G T' (mkF m (pc + 3) ls (v.toList ++ st)) → Go p.tables e below G T (mkF m pc ls (argsL.reverse ++ st))) := by
  obtain ⟨locs, X, eT, N, O⟩ := W
  obtain ⟨v, _, ⟨T', L', k', n'⟩, -, X', ⟨Lc, hQ, l1, l2, l3⟩, st'⟩ := Jvm.LawKit.callS X B.1 (y := y) B.2.2.1 (mvT B.2.1 w1) (mvT B.2.1 w2) (mvT B.2.1 wz) (mvT B.2.1 wc) hy (backC (V := V) C O B.2.1 wc wz hf hl) (g := mkF m pc ls (argsL.reverse ++ st)) rfl (hsz.trans B.2.2.2.2.1.symm) (argsL := argsL) (rest := st) hlen rfl (by show 2 * 0 + _ ≤ _; omega) (hb B.2.2.2.1 hd) (fun _ _ => ⟨rfl, eT, hc, hs⟩)
  dsimp only [Pt.U, Pt.locs, Pt.cells, Pt.slots] at X' l1 l2 l3 st' hQ
  subst l1 l2 l3
  exact ⟨T', T'.heap, v, ⟨_, X', rfl, N.app hQ.2.1, hQ.2.2⟩, hQ.1, fun G q => Go.by st' q⟩
theorem x_special (B : Bdy p Z s m meth c own bytes maxL ret nm) (W : Wk p l e R s m args below meth c Z T h k n) {y : MethodName} {yb : ByteArray} {yL i : Nat} {rm : Room} {b : Addr} (argsL : List Value) (C : Con l Z y yb yL none [] rm (.ref b :: argsL).toArray h Q)
    (hd : decode bytes pc = .ok (.invokespecial i, 3)) (hy1 : y.name = "<init>") (w1 : (Cond.methodLink own i y).before a0 Z = true) (w2 : (Cond.instanceMethod y).before a0 Z = true) (wz : (Cond.initialized y.cls).before a0 Z = true) (wc : (Cond.code y yb yL none).before a0 Z = true) (hy : y.cls ≠ "java/lang/invoke/MethodHandle" ∧ y.cls ≠ "java/lang/invoke/VarHandle")
    (hlen : ∀ sig, parseMethodDescriptor y.desc = some sig → argsL.length = sig.parameters.length) (ls : Array Slot) (st : List Value) (hsz : ls.size = maxL) (V : Nat) (hV : (st.map fun v => v.category).sum = V) (hf : rm.frames + 1 ≤ R.frames) (hl : V + (yL + 11) + rm.locals ≤ R.locals) (hc : k + rm.cells ≤ R.cells) (hs : n + rm.slots ≤ R.slots) :
    ∃ T' h' v, Wk p l e R s m args below meth c Z T' h' (k + rm.cells) (n + rm.slots) ∧ Q v h' ∧ (∀ G, Go p.tables e below G T' (mkF m (pc + 3) ls (v.toList ++ st)) → Go p.tables e below G T (mkF m pc ls (argsL.reverse ++ .ref b :: st))) := by
  obtain ⟨locs, X, eT, N, O⟩ := W
  obtain ⟨v, _, ⟨T', L', k', n'⟩, -, X', ⟨Lc, hQ, l1, l2, l3⟩, st'⟩ := X.specialBack B.1 (y := y) hy1 B.2.2.1 (mvT B.2.1 w1) (mvT B.2.1 w2) (mvT B.2.1 wc) hy (backC (V := V) C O B.2.1 wc wz hf hl) (g := mkF m pc ls (argsL.reverse ++ .ref b :: st)) rfl (hsz.trans B.2.2.2.2.1.symm) (Steps.refl _) (a := b) (argsL := argsL) (rest := st) hlen rfl (by show 2 * 0 + _ ≤ _; omega) (hb B.2.2.2.1 hd) (fun _ _ => ⟨rfl, eT, hc, hs⟩)
  dsimp only [Pt.U, Pt.locs, Pt.cells, Pt.slots] at X' l1 l2 l3 st' hQ
  subst l1 l2 l3
  exact ⟨T', T'.heap, v, ⟨_, X', rfl, N.app hQ.2.1, hQ.2.2⟩, hQ.1, fun G q => Go.by (fun t q => st'.trans q) q⟩
theorem x_virtual (B : Bdy p Z s m meth c own bytes maxL ret nm) (W : Wk p l e R s m args below meth c Z T h k n) {y : MethodName} {yb : ByteArray} {yL i : Nat} {yr : Option FieldType} {rm : Room} {b : Addr} {D : String} (argsL : List Value) (C : Con l Z y yb yL yr [] rm (.ref b :: argsL).toArray h Q) (E : Exa Z h b D)
    (hd : decode bytes pc = .ok (.invokevirtual i, 3)) (w1 : (Cond.methodLink own i y).before a0 Z = true) (w2 : (Cond.declares y).before a0 Z = true) (w3 : (Cond.selects D y y).before a0 Z = true) (w4 : (Cond.instanceMethod y).before a0 Z = true) (wz : (Cond.initialized y.cls).before a0 Z = true) (wc : (Cond.code y yb yL yr).before a0 Z = true) (hy : y.cls ≠ "java/lang/invoke/MethodHandle" ∧ y.cls ≠ "java/lang/invoke/VarHandle")
    (hlen : ∀ sig, parseMethodDescriptor y.desc = some sig → argsL.length = sig.parameters.length) (ls : Array Slot) (st : List Value) (hsz : ls.size = maxL) (V : Nat) (hV : (st.map fun v => v.category).sum = V) (hf : rm.frames + 1 ≤ R.frames) (hl : V + (yL + 11) + rm.locals ≤ R.locals) (hc : k + rm.cells ≤ R.cells) (hs : n + rm.slots ≤ R.slots) :
    ∃ T' h' v, Wk p l e R s m args below meth c Z T' h' (k + rm.cells) (n + rm.slots) ∧ Q v h' ∧ (∀ G, Go p.tables e below G T' (mkF m (pc + 3) ls (v.toList ++ st)) → Go p.tables e below G T (mkF m pc ls (argsL.reverse ++ .ref b :: st))) := by
  obtain ⟨locs, X, eT, N, O⟩ := W
  obtain ⟨cq, kq, qa, qb, qc⟩ := isOf B.2.1 eT E
  obtain ⟨v, _, ⟨T', L', k', n'⟩, -, X', ⟨Lc, hQ, l1, l2, l3⟩, st'⟩ := X.virtualBack B.1 (y := y) (z := y) B.2.2.1 (mvT B.2.1 w1) (mvT B.2.1 w2) (notFace_of_selects (args := #[]) (mvT B.2.1 w3)) (mvT B.2.1 w3) (mvT B.2.1 w4) hy (backC (V := V) C O B.2.1 wc wz hf hl) qa qc (g := mkF m pc ls (argsL.reverse ++ .ref b :: st)) rfl (hsz.trans B.2.2.2.2.1.symm) (Steps.refl _) (argsL := argsL) (rest := st) hlen rfl (by show 2 * 0 + _ ≤ _; omega) (hb B.2.2.2.1 hd) (fun _ _ => ⟨rfl, eT, hc, hs⟩)
  dsimp only [Pt.U, Pt.locs, Pt.cells, Pt.slots] at X' l1 l2 l3 st' hQ
  subst l1 l2 l3
  exact ⟨T', T'.heap, v, ⟨_, X', rfl, N.app hQ.2.1, hQ.2.2⟩, hQ.1, fun G q => Go.by (fun t q => st'.trans q) q⟩
end K
end Jvm.OwnK
namespace Jvm.Pilot.@@N@@
open Jvm Jvm.ClassFile Sem Op Lib Jvm.Free Jvm.Stand Jvm.LawKit Jvm.RoadKit Jvm.OwnK Bundle Jvm.Pilot.@@N@@.Jvm.D
theorem tw {Z : State} {a0 : Array Value} (hw : ∀ d ∈ tables_1, d.before a0 Z = true) (i : Nat) {d : Jvm.Cond} (h : tables_1[i]? = some d) : d.before a0 Z = true := hw _ (List.mem_of_getElem? h)
theorem d_prog_7_method_7_0 : decode prog_7_method_7_code 0 = .ok (.iconst 1, 1) := by decide +kernel
theorem d_prog_7_method_7_1 : decode prog_7_method_7_code 1 = .ok (.istore_n 1, 1) := by decide +kernel
theorem d_prog_7_method_7_2 : decode prog_7_method_7_code 2 = .ok (.aload_n 0, 1) := by decide +kernel
theorem d_prog_7_method_7_3 : decode prog_7_method_7_code 3 = .ok (.astore_n 2, 1) := by decide +kernel
theorem d_prog_7_method_7_4 : decode prog_7_method_7_code 4 = .ok (.aload_n 2, 1) := by decide +kernel
theorem d_prog_7_method_7_5 : decode prog_7_method_7_code 5 = .ok (.arraylength, 1) := by decide +kernel
theorem d_prog_7_method_7_6 : decode prog_7_method_7_code 6 = .ok (.istore_n 3, 1) := by decide +kernel
theorem d_prog_7_method_7_7 : decode prog_7_method_7_code 7 = .ok (.iconst 0, 1) := by decide +kernel
theorem d_prog_7_method_7_8 : decode prog_7_method_7_code 8 = .ok (.istore 4, 2) := by decide +kernel
theorem d_prog_7_method_7_10 : decode prog_7_method_7_code 10 = .ok (.iload 4, 2) := by decide +kernel
theorem d_prog_7_method_7_12 : decode prog_7_method_7_code 12 = .ok (.iload_n 3, 1) := by decide +kernel
theorem d_prog_7_method_7_13 : decode prog_7_method_7_code 13 = .ok (.if_icmp .ge 55, 3) := by decide +kernel
theorem d_prog_7_method_7_16 : decode prog_7_method_7_code 16 = .ok (.aload_n 2, 1) := by decide +kernel
theorem d_prog_7_method_7_17 : decode prog_7_method_7_code 17 = .ok (.iload 4, 2) := by decide +kernel
theorem d_prog_7_method_7_19 : decode prog_7_method_7_code 19 = .ok (.caload, 1) := by decide +kernel
theorem d_prog_7_method_7_20 : decode prog_7_method_7_code 20 = .ok (.istore 5, 2) := by decide +kernel
theorem d_prog_7_method_7_22 : decode prog_7_method_7_code 22 = .ok (.iload_n 1, 1) := by decide +kernel
theorem d_prog_7_method_7_23 : decode prog_7_method_7_code 23 = .ok (.iload 5, 2) := by decide +kernel
theorem d_prog_7_method_7_25 : decode prog_7_method_7_code 25 = .ok (.bipush 95, 2) := by decide +kernel
theorem d_prog_7_method_7_27 : decode prog_7_method_7_code 27 = .ok (.if_icmp .eq 28, 3) := by decide +kernel
theorem d_prog_7_method_7_30 : decode prog_7_method_7_code 30 = .ok (.iload 5, 2) := by decide +kernel
theorem d_prog_7_method_7_32 : decode prog_7_method_7_code 32 = .ok (.ifCond .eq 27, 3) := by decide +kernel
theorem d_prog_7_method_7_35 : decode prog_7_method_7_code 35 = .ok (.iload 5, 2) := by decide +kernel
theorem d_prog_7_method_7_37 : decode prog_7_method_7_code 37 = .ok (.getstatic 76, 3) := by decide +kernel
theorem d_prog_7_method_7_40 : decode prog_7_method_7_code 40 = .ok (.arraylength, 1) := by decide +kernel
theorem d_prog_7_method_7_41 : decode prog_7_method_7_code 41 = .ok (.if_icmp .ge 18, 3) := by decide +kernel
theorem d_prog_7_method_7_44 : decode prog_7_method_7_code 44 = .ok (.getstatic 76, 3) := by decide +kernel
theorem d_prog_7_method_7_47 : decode prog_7_method_7_code 47 = .ok (.iload 5, 2) := by decide +kernel
theorem d_prog_7_method_7_49 : decode prog_7_method_7_code 49 = .ok (.caload, 1) := by decide +kernel
theorem d_prog_7_method_7_50 : decode prog_7_method_7_code 50 = .ok (.iload 5, 2) := by decide +kernel
theorem d_prog_7_method_7_52 : decode prog_7_method_7_code 52 = .ok (.if_icmp .ne 7, 3) := by decide +kernel
theorem d_prog_7_method_7_55 : decode prog_7_method_7_code 55 = .ok (.iconst 1, 1) := by decide +kernel
theorem d_prog_7_method_7_56 : decode prog_7_method_7_code 56 = .ok (.goto 4, 3) := by decide +kernel
theorem d_prog_7_method_7_59 : decode prog_7_method_7_code 59 = .ok (.iconst 0, 1) := by decide +kernel
theorem d_prog_7_method_7_60 : decode prog_7_method_7_code 60 = .ok (.iand, 1) := by decide +kernel
theorem d_prog_7_method_7_61 : decode prog_7_method_7_code 61 = .ok (.istore_n 1, 1) := by decide +kernel
theorem d_prog_7_method_7_62 : decode prog_7_method_7_code 62 = .ok (.iinc 4 1, 3) := by decide +kernel
theorem d_prog_7_method_7_65 : decode prog_7_method_7_code 65 = .ok (.goto (-55), 3) := by decide +kernel
theorem d_prog_7_method_7_68 : decode prog_7_method_7_code 68 = .ok (.iload_n 1, 1) := by decide +kernel
theorem d_prog_7_method_7_69 : decode prog_7_method_7_code 69 = .ok (.ireturn, 1) := by decide +kernel
theorem d_method_3_0 : decode method_3_code 0 = .ok (.iload_n 0, 1) := by decide +kernel
theorem d_method_3_1 : decode method_3_code 1 = .ok (.bipush 95, 2) := by decide +kernel
theorem d_method_3_3 : decode method_3_code 3 = .ok (.if_icmp .ne 5, 3) := by decide +kernel
theorem d_method_3_6 : decode method_3_code 6 = .ok (.iconst 1, 1) := by decide +kernel
theorem d_method_3_7 : decode method_3_code 7 = .ok (.ireturn, 1) := by decide +kernel
theorem d_method_3_8 : decode method_3_code 8 = .ok (.iload_n 0, 1) := by decide +kernel
theorem d_method_3_9 : decode method_3_code 9 = .ok (.bipush 65, 2) := by decide +kernel
theorem d_method_3_11 : decode method_3_code 11 = .ok (.if_icmp .lt 11, 3) := by decide +kernel
theorem d_method_3_14 : decode method_3_code 14 = .ok (.iload_n 0, 1) := by decide +kernel
theorem d_method_3_15 : decode method_3_code 15 = .ok (.bipush 90, 2) := by decide +kernel
theorem d_method_3_17 : decode method_3_code 17 = .ok (.if_icmp .gt 5, 3) := by decide +kernel
theorem d_method_3_20 : decode method_3_code 20 = .ok (.iconst 1, 1) := by decide +kernel
theorem d_method_3_21 : decode method_3_code 21 = .ok (.ireturn, 1) := by decide +kernel
theorem d_method_3_22 : decode method_3_code 22 = .ok (.iload_n 0, 1) := by decide +kernel
theorem d_method_3_23 : decode method_3_code 23 = .ok (.bipush 48, 2) := by decide +kernel
theorem d_method_3_25 : decode method_3_code 25 = .ok (.if_icmp .lt 13, 3) := by decide +kernel
theorem d_method_3_28 : decode method_3_code 28 = .ok (.iload_n 0, 1) := by decide +kernel
theorem d_method_3_29 : decode method_3_code 29 = .ok (.bipush 57, 2) := by decide +kernel
theorem d_method_3_31 : decode method_3_code 31 = .ok (.if_icmp .gt 7, 3) := by decide +kernel
theorem d_method_3_34 : decode method_3_code 34 = .ok (.iconst 1, 1) := by decide +kernel
theorem d_method_3_35 : decode method_3_code 35 = .ok (.goto 4, 3) := by decide +kernel
theorem d_method_3_38 : decode method_3_code 38 = .ok (.iconst 0, 1) := by decide +kernel
theorem d_method_3_39 : decode method_3_code 39 = .ok (.ireturn, 1) := by decide +kernel
theorem pn_com_example_stratify_stratify_EnvironmentNames : plainName "com/example/stratify/stratify/EnvironmentNames" = true := by first | (simp [plainName, overriddenIn]; done) | decide +kernel
theorem pd___C_Z : parseMethodDescriptor "([C)Z" = some ⟨[(.array .char)], some .boolean⟩ := by decide +kernel
theorem pn_com_example_stratify_stratify_EnvironmentNamesIsUpperCasePinLaw : plainName "com/example/stratify/stratify/EnvironmentNamesIsUpperCasePinLaw" = true := by first | (simp [plainName, overriddenIn]; done) | decide +kernel
theorem pd__C_Z : parseMethodDescriptor "(C)Z" = some ⟨[.char], some .boolean⟩ := by decide +kernel
theorem pd__IIII_Z : parseMethodDescriptor "(IIII)Z" = some ⟨[.int, .int, .int, .int], some .boolean⟩ := by decide +kernel
def okc (c : Int32) : Bool := decide (c = 95 ∨ (¬ c < 65 ∧ ¬ 90 < c) ∨ (¬ c < 48 ∧ ¬ 57 < c))
def kept (c : Int32) : Int32 := if (¬ c < 48 ∧ c < 58) ∨ (¬ c < 65 ∧ c < 91) then c else if ¬ c < 97 ∧ c < 123 then c - 32 else 0
theorem own_okk {c : Int32} (h0 : ¬ c < 0) (h1 : ¬ c = 95) (h2 : ¬ c = 0) (h3 : c < 128) : (kept c = c) = (okc c = true) := by
  have r := rng32 c
  simp only [okc, decide_eq_true_eq, eq_iff_iff, kept]
  have s := c_isub c 32; have r2 := rng32 (c - 32)
  simp only [Int32.lt_iff_toInt_lt, ← Int32.toInt_inj, Int32.reduceToInt] at *
  split
  · rename_i q; constructor
    · intro _; omega
    · intro _; rfl
  · rename_i q; split
    · constructor
      · intro h; omega
      · intro h; omega
    · constructor
      · intro h; simp only [Int32.reduceToInt] at h; omega
      · intro h; omega
theorem own_okf {c : Int32} (h1 : ¬ c = 95) (h3 : c = 0 ∨ ¬ c < 128) : okc c = false := by
  simp only [okc, decide_eq_false_iff_not]
  simp only [Int32.lt_iff_toInt_lt, ← Int32.toInt_inj, Int32.reduceToInt] at *
  omega
theorem ef_ok (m : MethodId) (p1 : Int32) : entryFrame m #[(.int p1)] 1 = mkF m 0 #[.val (.int p1)] [] := by first | (simp [entryFrame, mkF, argsToLocals, Value.category]; done) | rfl
def Q_ok (Z : State) (p1 : Int32) (h0 : Heap) (v : Option Value) (h : Heap) : Prop := v = some (.int (bi (okc p1))) ∧ h0 = h
set_option maxRecDepth 65536 in
set_option maxHeartbeats 40000000 in
theorem c_ok (l : Launch) (Z : State) (a0 : Array Value) (hw : ∀ d ∈ tables_1, d.before a0 Z = true) (p1 : Int32) (h0 : Heap) :
    Con l Z (⟨"com/example/stratify/stratify/EnvironmentNamesIsUpperCasePinLaw", "ok", "(C)Z"⟩ : MethodName) method_3_code 1 (Option.some FieldType.boolean) [] ({ frames := 0, cells := 0, slots := 0, locals := 0 } : Room) #[(.int p1)] h0 (Q_ok Z p1 h0) := by
  refine Con.of (plainFor_of_name pn_com_example_stratify_stratify_EnvironmentNamesIsUpperCasePinLaw) ?_
  intro p e s m below meth c T0 B W0
  refine Go.cast (ef_ok m p1) ?_
  refine g_iload_n B W0 (d_method_3_0) rfl ?_
  show Go p.tables e below _ T0 (mkF m 1 #[.val (.int p1)] [(.int p1)])
  refine g_bipush B W0 (d_method_3_1) (v := 95) (by decide) ?_
  show Go p.tables e below _ T0 (mkF m 3 #[.val (.int p1)] [(.int 95), (.int p1)])
  by_cases hc101 : p1 = 95
  · skip
    refine g_icmp_n B W0 (d_method_3_3) (XT.ii_ne_f hc101) ?_
    show Go p.tables e below _ T0 (mkF m 6 #[.val (.int p1)] [])
    refine g_iconst B W0 (d_method_3_6) (v := 1) (by decide) ?_
    show Go p.tables e below _ T0 (mkF m 7 #[.val (.int p1)] [(.int 1)])
    exact r_n B W0 (t := .boolean) rfl (by simp) (d_method_3_7) (by decide) (by decide) ⟨by rw [show okc p1 = true by simp [okc, hc101]]; rfl, rfl⟩
  · skip
    refine g_icmp_y B W0 (d_method_3_3) (XT.ii_ne_t hc101) (pc' := 8) (by decide) ?_
    show Go p.tables e below _ T0 (mkF m 8 #[.val (.int p1)] [])
    refine g_iload_n B W0 (d_method_3_8) rfl ?_
    show Go p.tables e below _ T0 (mkF m 9 #[.val (.int p1)] [(.int p1)])
    refine g_bipush B W0 (d_method_3_9) (v := 65) (by decide) ?_
    show Go p.tables e below _ T0 (mkF m 11 #[.val (.int p1)] [(.int 65), (.int p1)])
    by_cases hc102 : p1 < 65
    · skip
      refine g_icmp_y B W0 (d_method_3_11) (XT.ii_lt_t hc102) (pc' := 22) (by decide) ?_
      show Go p.tables e below _ T0 (mkF m 22 #[.val (.int p1)] [])
      refine g_iload_n B W0 (d_method_3_22) rfl ?_
      show Go p.tables e below _ T0 (mkF m 23 #[.val (.int p1)] [(.int p1)])
      refine g_bipush B W0 (d_method_3_23) (v := 48) (by decide) ?_
      show Go p.tables e below _ T0 (mkF m 25 #[.val (.int p1)] [(.int 48), (.int p1)])
      by_cases hc103 : p1 < 48
      · skip
        refine g_icmp_y B W0 (d_method_3_25) (XT.ii_lt_t hc103) (pc' := 38) (by decide) ?_
        show Go p.tables e below _ T0 (mkF m 38 #[.val (.int p1)] [])
        refine g_iconst B W0 (d_method_3_38) (v := 0) (by decide) ?_
        show Go p.tables e below _ T0 (mkF m 39 #[.val (.int p1)] [(.int 0)])
        exact r_n B W0 (t := .boolean) rfl (by simp) (d_method_3_39) (by decide) (by decide) ⟨by rw [show okc p1 = false by simp [okc, hc101, hc102, hc103]]; rfl, rfl⟩
      · skip
        refine g_icmp_n B W0 (d_method_3_25) (XT.ii_lt_f hc103) ?_
        show Go p.tables e below _ T0 (mkF m 28 #[.val (.int p1)] [])
        refine g_iload_n B W0 (d_method_3_28) rfl ?_
        show Go p.tables e below _ T0 (mkF m 29 #[.val (.int p1)] [(.int p1)])
        refine g_bipush B W0 (d_method_3_29) (v := 57) (by decide) ?_
        show Go p.tables e below _ T0 (mkF m 31 #[.val (.int p1)] [(.int 57), (.int p1)])
        by_cases hc104 : 57 < p1
        · skip
          refine g_icmp_y B W0 (d_method_3_31) (XT.ii_gt_t hc104) (pc' := 38) (by decide) ?_
          show Go p.tables e below _ T0 (mkF m 38 #[.val (.int p1)] [])
          refine g_iconst B W0 (d_method_3_38) (v := 0) (by decide) ?_
          show Go p.tables e below _ T0 (mkF m 39 #[.val (.int p1)] [(.int 0)])
          exact r_n B W0 (t := .boolean) rfl (by simp) (d_method_3_39) (by decide) (by decide) ⟨by rw [show okc p1 = false by simp [okc, hc101, hc102, hc103, hc104]]; rfl, rfl⟩
        · skip
          refine g_icmp_n B W0 (d_method_3_31) (XT.ii_gt_f hc104) ?_
          show Go p.tables e below _ T0 (mkF m 34 #[.val (.int p1)] [])
          refine g_iconst B W0 (d_method_3_34) (v := 1) (by decide) ?_
          show Go p.tables e below _ T0 (mkF m 35 #[.val (.int p1)] [(.int 1)])
          refine g_goto B W0 (d_method_3_35) (pc' := 39) (by decide) ?_
          show Go p.tables e below _ T0 (mkF m 39 #[.val (.int p1)] [(.int 1)])
          exact r_n B W0 (t := .boolean) rfl (by simp) (d_method_3_39) (by decide) (by decide) ⟨by rw [show okc p1 = true by simp [okc, hc101, hc102, hc103, hc104]]; rfl, rfl⟩
    · skip
      refine g_icmp_n B W0 (d_method_3_11) (XT.ii_lt_f hc102) ?_
      show Go p.tables e below _ T0 (mkF m 14 #[.val (.int p1)] [])
      refine g_iload_n B W0 (d_method_3_14) rfl ?_
      show Go p.tables e below _ T0 (mkF m 15 #[.val (.int p1)] [(.int p1)])
      refine g_bipush B W0 (d_method_3_15) (v := 90) (by decide) ?_
      show Go p.tables e below _ T0 (mkF m 17 #[.val (.int p1)] [(.int 90), (.int p1)])
      by_cases hc105 : 90 < p1
      · skip
        refine g_icmp_y B W0 (d_method_3_17) (XT.ii_gt_t hc105) (pc' := 22) (by decide) ?_
        show Go p.tables e below _ T0 (mkF m 22 #[.val (.int p1)] [])
        refine g_iload_n B W0 (d_method_3_22) rfl ?_
        show Go p.tables e below _ T0 (mkF m 23 #[.val (.int p1)] [(.int p1)])
        refine g_bipush B W0 (d_method_3_23) (v := 48) (by decide) ?_
        show Go p.tables e below _ T0 (mkF m 25 #[.val (.int p1)] [(.int 48), (.int p1)])
        by_cases hc106 : p1 < 48
        · skip
          refine g_icmp_y B W0 (d_method_3_25) (XT.ii_lt_t hc106) (pc' := 38) (by decide) ?_
          show Go p.tables e below _ T0 (mkF m 38 #[.val (.int p1)] [])
          refine g_iconst B W0 (d_method_3_38) (v := 0) (by decide) ?_
          show Go p.tables e below _ T0 (mkF m 39 #[.val (.int p1)] [(.int 0)])
          exact r_n B W0 (t := .boolean) rfl (by simp) (d_method_3_39) (by decide) (by decide) ⟨by rw [show okc p1 = false by simp [okc, hc101, hc102, hc105, hc106]]; rfl, rfl⟩
        · skip
          refine g_icmp_n B W0 (d_method_3_25) (XT.ii_lt_f hc106) ?_
          show Go p.tables e below _ T0 (mkF m 28 #[.val (.int p1)] [])
          refine g_iload_n B W0 (d_method_3_28) rfl ?_
          show Go p.tables e below _ T0 (mkF m 29 #[.val (.int p1)] [(.int p1)])
          refine g_bipush B W0 (d_method_3_29) (v := 57) (by decide) ?_
          show Go p.tables e below _ T0 (mkF m 31 #[.val (.int p1)] [(.int 57), (.int p1)])
          by_cases hc107 : 57 < p1
          · skip
            refine g_icmp_y B W0 (d_method_3_31) (XT.ii_gt_t hc107) (pc' := 38) (by decide) ?_
            show Go p.tables e below _ T0 (mkF m 38 #[.val (.int p1)] [])
            refine g_iconst B W0 (d_method_3_38) (v := 0) (by decide) ?_
            show Go p.tables e below _ T0 (mkF m 39 #[.val (.int p1)] [(.int 0)])
            exact r_n B W0 (t := .boolean) rfl (by simp) (d_method_3_39) (by decide) (by decide) ⟨by rw [show okc p1 = false by simp [okc, hc101, hc102, hc105, hc106, hc107]]; rfl, rfl⟩
          · skip
            refine g_icmp_n B W0 (d_method_3_31) (XT.ii_gt_f hc107) ?_
            show Go p.tables e below _ T0 (mkF m 34 #[.val (.int p1)] [])
            refine g_iconst B W0 (d_method_3_34) (v := 1) (by decide) ?_
            show Go p.tables e below _ T0 (mkF m 35 #[.val (.int p1)] [(.int 1)])
            refine g_goto B W0 (d_method_3_35) (pc' := 39) (by decide) ?_
            show Go p.tables e below _ T0 (mkF m 39 #[.val (.int p1)] [(.int 1)])
            exact r_n B W0 (t := .boolean) rfl (by simp) (d_method_3_39) (by decide) (by decide) ⟨by rw [show okc p1 = true by simp [okc, hc101, hc102, hc105, hc106, hc107]]; rfl, rfl⟩
      · skip
        refine g_icmp_n B W0 (d_method_3_17) (XT.ii_gt_f hc105) ?_
        show Go p.tables e below _ T0 (mkF m 20 #[.val (.int p1)] [])
        refine g_iconst B W0 (d_method_3_20) (v := 1) (by decide) ?_
        show Go p.tables e below _ T0 (mkF m 21 #[.val (.int p1)] [(.int 1)])
        exact r_n B W0 (t := .boolean) rfl (by simp) (d_method_3_21) (by decide) (by decide) ⟨by rw [show okc p1 = true by simp [okc, hc101, hc102, hc105]]; rfl, rfl⟩
theorem ef_up (m : MethodId) (a1 : Addr) (kA : ClassId) (cs : List Int32) (ka : Addr) (kc : Cell) : entryFrame m #[(.ref a1)] 6 = mkF m 0 #[.val (.ref a1), .unset, .unset, .unset, .unset, .unset] [] := by first | (simp [entryFrame, mkF, argsToLocals, Value.category]; done) | rfl
def Q_up (Z : State) (a1 : Addr) (kA : ClassId) (cs : List Int32) (ka : Addr) (kc : Cell) (h0 : Heap) (v : Option Value) (h : Heap) : Prop := v = some (.int (bi (cs.all okc))) ∧ h0 = h
set_option maxRecDepth 65536 in
set_option maxHeartbeats 40000000 in
theorem c_up (l : Launch) (Z : State) (a0 : Array Value) (hw : ∀ d ∈ tables_1, d.before a0 Z = true) (a1 : Addr) (kA : ClassId) (cs : List Int32) (ka : Addr) (kc : Cell) (h0 : Heap) (A1 : Arv Z h0 a1 kA .char (Int32.ofNat cs.length) (cs.map Value.int) (.int 0)) (hcs : ∀ c ∈ cs, 0 ≤ c.toInt ∧ c.toInt < 65536) (hlen : cs.length < 1000) (Sk : Sta Z Z.heap "com/example/stratify/stratify/EnvironmentNames" "KEPT" "[C" (.ref ka)) (Ak : Arr Z Z.heap ka kc .char) (lk : kc.slots.size.toInt32 = 128) (sk : kc.slots.size = 128) (vk : ∀ j : Int32, ¬ j < 0 → j < 128 → kc.slots[j.toNatClampNeg]? = some (.int (kept j))) :
    Con l Z (⟨"com/example/stratify/stratify/EnvironmentNames", "isUpperCase", "([C)Z"⟩ : MethodName) prog_7_method_7_code 6 (Option.some FieldType.boolean) [] ({ frames := 0, cells := 0, slots := 0, locals := 0 } : Room) #[(.ref a1)] h0 (Q_up Z a1 kA cs ka kc h0) := by
  refine Con.of (plainFor_of_name pn_com_example_stratify_stratify_EnvironmentNames) ?_
  intro p e s m below meth c T0 B W0
  refine Go.cast (ef_up m a1 kA cs ka kc) ?_
  refine g_iconst B W0 (d_prog_7_method_7_0) (v := 1) (by decide) ?_
  show Go p.tables e below _ T0 (mkF m 1 #[.val (.ref a1), .unset, .unset, .unset, .unset, .unset] [(.int 1)])
  refine g_istore_n B W0 (d_prog_7_method_7_1)  (l' := #[.val (.ref a1), .val (.int 1), .unset, .unset, .unset, .unset]) rfl ?_
  show Go p.tables e below _ T0 (mkF m 2 #[.val (.ref a1), .val (.int 1), .unset, .unset, .unset, .unset] [])
  refine g_aload_n B W0 (d_prog_7_method_7_2) rfl rfl ?_
  show Go p.tables e below _ T0 (mkF m 3 #[.val (.ref a1), .val (.int 1), .unset, .unset, .unset, .unset] [(.ref a1)])
  refine g_astore_n B W0 (d_prog_7_method_7_3) rfl (l' := #[.val (.ref a1), .val (.int 1), .val (.ref a1), .unset, .unset, .unset]) rfl ?_
  show Go p.tables e below _ T0 (mkF m 4 #[.val (.ref a1), .val (.int 1), .val (.ref a1), .unset, .unset, .unset] [])
  refine g_aload_n B W0 (d_prog_7_method_7_4) rfl rfl ?_
  show Go p.tables e below _ T0 (mkF m 5 #[.val (.ref a1), .val (.int 1), .val (.ref a1), .unset, .unset, .unset] [(.ref a1)])
  refine g_aalen B W0 (d_prog_7_method_7_5) A1 ?_
  show Go p.tables e below _ T0 (mkF m 6 #[.val (.ref a1), .val (.int 1), .val (.ref a1), .unset, .unset, .unset] [(.int (Int32.ofNat cs.length))])
  refine g_istore_n B W0 (d_prog_7_method_7_6)  (l' := #[.val (.ref a1), .val (.int 1), .val (.ref a1), .val (.int (Int32.ofNat cs.length)), .unset, .unset]) rfl ?_
  show Go p.tables e below _ T0 (mkF m 7 #[.val (.ref a1), .val (.int 1), .val (.ref a1), .val (.int (Int32.ofNat cs.length)), .unset, .unset] [])
  refine g_iconst B W0 (d_prog_7_method_7_7) (v := 0) (by decide) ?_
  show Go p.tables e below _ T0 (mkF m 8 #[.val (.ref a1), .val (.int 1), .val (.ref a1), .val (.int (Int32.ofNat cs.length)), .unset, .unset] [(.int 0)])
  refine g_istore B W0 (d_prog_7_method_7_8)  (l' := #[.val (.ref a1), .val (.int 1), .val (.ref a1), .val (.int (Int32.ofNat cs.length)), .val (.int 0), .unset]) rfl ?_
  show Go p.tables e below _ T0 (mkF m 10 #[.val (.ref a1), .val (.int 1), .val (.ref a1), .val (.int (Int32.ofNat cs.length)), .val (.int 0), .unset] [])
  have loop : ∀ (r i : Nat) (acc : Bool) (x5 : Slot) (T : State), (x5 = .unset ∨ ∃ w, x5 = .val w ∧ w.category = 1) → Wk p l e ({ frames := 0, cells := 0, slots := 0, locals := 0 } : Room) s m #[(.ref a1)] below meth c Z T h0 0 0 → i + r = cs.length → (acc && (cs.drop i).all okc) = cs.all okc →
      Go p.tables e below (Jvm.OwnK.Out Z s (Q_up Z a1 kA cs ka kc h0) ({ frames := 0, cells := 0, slots := 0, locals := 0 } : Room).cells ({ frames := 0, cells := 0, slots := 0, locals := 0 } : Room).slots) T (mkF m 10 #[.val (.ref a1), .val (.int (bi acc)), .val (.ref a1), .val (.int (Int32.ofNat cs.length)), .val (.int (Int32.ofNat i)), x5] []) := by
    intro r; induction r with
    | zero =>
      intro i acc x5 T hx5 W hi hacc
      have hie : i = cs.length := by omega
      rw [hie, List.drop_length, List.all_nil, Bool.and_true] at hacc
      refine g_iload B W (d_prog_7_method_7_10) rfl ?_
      show Go p.tables e below _ T (mkF m 12 #[.val (.ref a1), .val (.int (bi acc)), .val (.ref a1), .val (.int (Int32.ofNat cs.length)), .val (.int (Int32.ofNat i)), x5] [(.int (Int32.ofNat i))])
      refine g_iload_n B W (d_prog_7_method_7_12) rfl ?_
      show Go p.tables e below _ T (mkF m 13 #[.val (.ref a1), .val (.int (bi acc)), .val (.ref a1), .val (.int (Int32.ofNat cs.length)), .val (.int (Int32.ofNat i)), x5] [(.int (Int32.ofNat cs.length)), (.int (Int32.ofNat i))])
      refine g_icmp_y B W (d_prog_7_method_7_13) (XT.ii_ge_t (by rw [own_lt (by omega) (by omega)]; omega)) (pc' := 68) (by decide) ?_
      show Go p.tables e below _ T (mkF m 68 #[.val (.ref a1), .val (.int (bi acc)), .val (.ref a1), .val (.int (Int32.ofNat cs.length)), .val (.int (Int32.ofNat i)), x5] [])
      refine g_iload_n B W (d_prog_7_method_7_68) rfl ?_
      show Go p.tables e below _ T (mkF m 69 #[.val (.ref a1), .val (.int (bi acc)), .val (.ref a1), .val (.int (Int32.ofNat cs.length)), .val (.int (Int32.ofNat i)), x5] [(.int (bi acc))])
      exact r_b B W (d_prog_7_method_7_69) (by decide) (by decide) ⟨by rw [hacc], rfl⟩
    | succ r ih =>
      intro i acc x5 T hx5 W hi hacc
      have hil : i < cs.length := by omega
      obtain ⟨c, hc⟩ : ∃ c, cs[i]? = some c := ⟨cs[i], by simp [hil]⟩
      have hcr := hcs c (List.mem_of_getElem? hc)
      have hdr : cs.drop i = c :: cs.drop (i + 1) := by rw [List.drop_eq_getElem_cons hil]; congr 1; exact (List.getElem?_eq_some_iff.mp hc).2
      rw [hdr, List.all_cons, ← Bool.and_assoc] at hacc
      refine g_iload B W (d_prog_7_method_7_10) rfl ?_
      show Go p.tables e below _ T (mkF m 12 #[.val (.ref a1), .val (.int (bi acc)), .val (.ref a1), .val (.int (Int32.ofNat cs.length)), .val (.int (Int32.ofNat i)), x5] [(.int (Int32.ofNat i))])
      refine g_iload_n B W (d_prog_7_method_7_12) rfl ?_
      show Go p.tables e below _ T (mkF m 13 #[.val (.ref a1), .val (.int (bi acc)), .val (.ref a1), .val (.int (Int32.ofNat cs.length)), .val (.int (Int32.ofNat i)), x5] [(.int (Int32.ofNat cs.length)), (.int (Int32.ofNat i))])
      refine g_icmp_n B W (d_prog_7_method_7_13) (XT.ii_ge_f ((own_lt (by omega) (by omega)).mpr hil)) ?_
      show Go p.tables e below _ T (mkF m 16 #[.val (.ref a1), .val (.int (bi acc)), .val (.ref a1), .val (.int (Int32.ofNat cs.length)), .val (.int (Int32.ofNat i)), x5] [])
      refine g_aload_n B W (d_prog_7_method_7_16) rfl rfl ?_
      show Go p.tables e below _ T (mkF m 17 #[.val (.ref a1), .val (.int (bi acc)), .val (.ref a1), .val (.int (Int32.ofNat cs.length)), .val (.int (Int32.ofNat i)), x5] [(.ref a1)])
      refine g_iload B W (d_prog_7_method_7_17) rfl ?_
      show Go p.tables e below _ T (mkF m 19 #[.val (.ref a1), .val (.int (bi acc)), .val (.ref a1), .val (.int (Int32.ofNat cs.length)), .val (.int (Int32.ofNat i)), x5] [(.int (Int32.ofNat i)), (.ref a1)])
      refine g_caload B W (d_prog_7_method_7_19) A1 (own_ixok hil (by omega)) (v := .int c) (by rw [own_clamp (by omega), List.getD_eq_getElem?_getD, List.getElem?_map, hc]; rfl) ?_
      show Go p.tables e below _ T (mkF m 20 #[.val (.ref a1), .val (.int (bi acc)), .val (.ref a1), .val (.int (Int32.ofNat cs.length)), .val (.int (Int32.ofNat i)), x5] [(.int c)])
      refine g_istore B W (d_prog_7_method_7_20)  (l' := #[.val (.ref a1), .val (.int (bi acc)), .val (.ref a1), .val (.int (Int32.ofNat cs.length)), .val (.int (Int32.ofNat i)), .val (.int c)]) (XS.store1 rfl hx5 rfl) ?_
      show Go p.tables e below _ T (mkF m 22 #[.val (.ref a1), .val (.int (bi acc)), .val (.ref a1), .val (.int (Int32.ofNat cs.length)), .val (.int (Int32.ofNat i)), .val (.int c)] [])
      refine g_iload_n B W (d_prog_7_method_7_22) rfl ?_
      show Go p.tables e below _ T (mkF m 23 #[.val (.ref a1), .val (.int (bi acc)), .val (.ref a1), .val (.int (Int32.ofNat cs.length)), .val (.int (Int32.ofNat i)), .val (.int c)] [(.int (bi acc))])
      refine g_iload B W (d_prog_7_method_7_23) rfl ?_
      show Go p.tables e below _ T (mkF m 25 #[.val (.ref a1), .val (.int (bi acc)), .val (.ref a1), .val (.int (Int32.ofNat cs.length)), .val (.int (Int32.ofNat i)), .val (.int c)] [(.int c), (.int (bi acc))])
      refine g_bipush B W (d_prog_7_method_7_25) (v := 95) (by decide) ?_
      show Go p.tables e below _ T (mkF m 27 #[.val (.ref a1), .val (.int (bi acc)), .val (.ref a1), .val (.int (Int32.ofNat cs.length)), .val (.int (Int32.ofNat i)), .val (.int c)] [(.int 95), (.int c), (.int (bi acc))])
      by_cases hc101 : c = 95
      · skip
        refine g_icmp_y B W (d_prog_7_method_7_27) (XT.ii_eq_t hc101) (pc' := 55) (by decide) ?_
        show Go p.tables e below _ T (mkF m 55 #[.val (.ref a1), .val (.int (bi acc)), .val (.ref a1), .val (.int (Int32.ofNat cs.length)), .val (.int (Int32.ofNat i)), .val (.int c)] [(.int (bi acc))])
        refine g_iconst B W (d_prog_7_method_7_55) (v := 1) (by decide) ?_
        show Go p.tables e below _ T (mkF m 56 #[.val (.ref a1), .val (.int (bi acc)), .val (.ref a1), .val (.int (Int32.ofNat cs.length)), .val (.int (Int32.ofNat i)), .val (.int c)] [(.int 1), (.int (bi acc))])
        refine g_goto B W (d_prog_7_method_7_56) (pc' := 60) (by decide) ?_
        show Go p.tables e below _ T (mkF m 60 #[.val (.ref a1), .val (.int (bi acc)), .val (.ref a1), .val (.int (Int32.ofNat cs.length)), .val (.int (Int32.ofNat i)), .val (.int c)] [(.int 1), (.int (bi acc))])
        refine g_iand B W (d_prog_7_method_7_60)  ?_
        rw [own_and1 (b := okc c) (by simp [okc, hc101])]
        show Go p.tables e below _ T (mkF m 61 #[.val (.ref a1), .val (.int (bi acc)), .val (.ref a1), .val (.int (Int32.ofNat cs.length)), .val (.int (Int32.ofNat i)), .val (.int c)] [(.int (bi (acc && okc c)))])
        refine g_istore_n B W (d_prog_7_method_7_61)  (l' := #[.val (.ref a1), .val (.int (bi (acc && okc c))), .val (.ref a1), .val (.int (Int32.ofNat cs.length)), .val (.int (Int32.ofNat i)), .val (.int c)]) rfl ?_
        show Go p.tables e below _ T (mkF m 62 #[.val (.ref a1), .val (.int (bi (acc && okc c))), .val (.ref a1), .val (.int (Int32.ofNat cs.length)), .val (.int (Int32.ofNat i)), .val (.int c)] [])
        refine g_iinc B W (d_prog_7_method_7_62) (v := 1) (l' := #[.val (.ref a1), .val (.int (bi (acc && okc c))), .val (.ref a1), .val (.int (Int32.ofNat cs.length)), .val (.int (Int32.ofNat i + 1)), .val (.int c)]) (by decide) rfl rfl ?_
        rw [own_inc]
        show Go p.tables e below _ T (mkF m 65 #[.val (.ref a1), .val (.int (bi (acc && okc c))), .val (.ref a1), .val (.int (Int32.ofNat cs.length)), .val (.int (Int32.ofNat (i + 1))), .val (.int c)] [])
        refine g_goto B W (d_prog_7_method_7_65) (pc' := 10) (by decide) ?_
        show Go p.tables e below _ T (mkF m 10 #[.val (.ref a1), .val (.int (bi (acc && okc c))), .val (.ref a1), .val (.int (Int32.ofNat cs.length)), .val (.int (Int32.ofNat (i + 1))), .val (.int c)] [])
        exact ih (i + 1) _ _ _ (Or.inr ⟨_, rfl, rfl⟩) W (by omega) hacc
      · skip
        refine g_icmp_n B W (d_prog_7_method_7_27) (XT.ii_eq_f hc101) ?_
        show Go p.tables e below _ T (mkF m 30 #[.val (.ref a1), .val (.int (bi acc)), .val (.ref a1), .val (.int (Int32.ofNat cs.length)), .val (.int (Int32.ofNat i)), .val (.int c)] [(.int (bi acc))])
        refine g_iload B W (d_prog_7_method_7_30) rfl ?_
        show Go p.tables e below _ T (mkF m 32 #[.val (.ref a1), .val (.int (bi acc)), .val (.ref a1), .val (.int (Int32.ofNat cs.length)), .val (.int (Int32.ofNat i)), .val (.int c)] [(.int c), (.int (bi acc))])
        by_cases hc102 : c = 0
        · skip
          refine g_if_y B W (d_prog_7_method_7_32) (XT.i0_eq_t hc102) (pc' := 59) (by decide) ?_
          show Go p.tables e below _ T (mkF m 59 #[.val (.ref a1), .val (.int (bi acc)), .val (.ref a1), .val (.int (Int32.ofNat cs.length)), .val (.int (Int32.ofNat i)), .val (.int c)] [(.int (bi acc))])
          refine g_iconst B W (d_prog_7_method_7_59) (v := 0) (by decide) ?_
          show Go p.tables e below _ T (mkF m 60 #[.val (.ref a1), .val (.int (bi acc)), .val (.ref a1), .val (.int (Int32.ofNat cs.length)), .val (.int (Int32.ofNat i)), .val (.int c)] [(.int 0), (.int (bi acc))])
          refine g_iand B W (d_prog_7_method_7_60)  ?_
          rw [own_and0 (b := okc c) (own_okf hc101 (Or.inl hc102))]
          show Go p.tables e below _ T (mkF m 61 #[.val (.ref a1), .val (.int (bi acc)), .val (.ref a1), .val (.int (Int32.ofNat cs.length)), .val (.int (Int32.ofNat i)), .val (.int c)] [(.int (bi (acc && okc c)))])
          refine g_istore_n B W (d_prog_7_method_7_61)  (l' := #[.val (.ref a1), .val (.int (bi (acc && okc c))), .val (.ref a1), .val (.int (Int32.ofNat cs.length)), .val (.int (Int32.ofNat i)), .val (.int c)]) rfl ?_
          show Go p.tables e below _ T (mkF m 62 #[.val (.ref a1), .val (.int (bi (acc && okc c))), .val (.ref a1), .val (.int (Int32.ofNat cs.length)), .val (.int (Int32.ofNat i)), .val (.int c)] [])
          refine g_iinc B W (d_prog_7_method_7_62) (v := 1) (l' := #[.val (.ref a1), .val (.int (bi (acc && okc c))), .val (.ref a1), .val (.int (Int32.ofNat cs.length)), .val (.int (Int32.ofNat i + 1)), .val (.int c)]) (by decide) rfl rfl ?_
          rw [own_inc]
          show Go p.tables e below _ T (mkF m 65 #[.val (.ref a1), .val (.int (bi (acc && okc c))), .val (.ref a1), .val (.int (Int32.ofNat cs.length)), .val (.int (Int32.ofNat (i + 1))), .val (.int c)] [])
          refine g_goto B W (d_prog_7_method_7_65) (pc' := 10) (by decide) ?_
          show Go p.tables e below _ T (mkF m 10 #[.val (.ref a1), .val (.int (bi (acc && okc c))), .val (.ref a1), .val (.int (Int32.ofNat cs.length)), .val (.int (Int32.ofNat (i + 1))), .val (.int c)] [])
          exact ih (i + 1) _ _ _ (Or.inr ⟨_, rfl, rfl⟩) W (by omega) hacc
        · skip
          refine g_if_n B W (d_prog_7_method_7_32) (XT.i0_eq_f hc102) ?_
          show Go p.tables e below _ T (mkF m 35 #[.val (.ref a1), .val (.int (bi acc)), .val (.ref a1), .val (.int (Int32.ofNat cs.length)), .val (.int (Int32.ofNat i)), .val (.int c)] [(.int (bi acc))])
          refine g_iload B W (d_prog_7_method_7_35) rfl ?_
          show Go p.tables e below _ T (mkF m 37 #[.val (.ref a1), .val (.int (bi acc)), .val (.ref a1), .val (.int (Int32.ofNat cs.length)), .val (.int (Int32.ofNat i)), .val (.int c)] [(.int c), (.int (bi acc))])
          obtain ⟨T103, W103, st103⟩ := x_gets B W (host := "") (d_prog_7_method_7_37) (Or.inl (tw hw 10 rfl)) Via.refl Sk #[.val (.ref a1), .val (.int (bi acc)), .val (.ref a1), .val (.int (Int32.ofNat cs.length)), .val (.int (Int32.ofNat i)), .val (.int c)] [(.int c), (.int (bi acc))]
          refine st103 _ ?_
          show Go p.tables e below _ T103 (mkF m 40 #[.val (.ref a1), .val (.int (bi acc)), .val (.ref a1), .val (.int (Int32.ofNat cs.length)), .val (.int (Int32.ofNat i)), .val (.int c)] [(.ref ka), (.int c), (.int (bi acc))])
          refine g_alenK B W103 (d_prog_7_method_7_40) (Ak.ext W103.old.2) lk ?_
          show Go p.tables e below _ T103 (mkF m 41 #[.val (.ref a1), .val (.int (bi acc)), .val (.ref a1), .val (.int (Int32.ofNat cs.length)), .val (.int (Int32.ofNat i)), .val (.int c)] [(.int 128), (.int c), (.int (bi acc))])
          by_cases hc104 : c < 128
          · skip
            refine g_icmp_n B W103 (d_prog_7_method_7_41) (XT.ii_ge_f hc104) ?_
            show Go p.tables e below _ T103 (mkF m 44 #[.val (.ref a1), .val (.int (bi acc)), .val (.ref a1), .val (.int (Int32.ofNat cs.length)), .val (.int (Int32.ofNat i)), .val (.int c)] [(.int (bi acc))])
            obtain ⟨T105, W105, st105⟩ := x_gets B W103 (host := "") (d_prog_7_method_7_44) (Or.inl (tw hw 10 rfl)) Via.refl Sk #[.val (.ref a1), .val (.int (bi acc)), .val (.ref a1), .val (.int (Int32.ofNat cs.length)), .val (.int (Int32.ofNat i)), .val (.int c)] [(.int (bi acc))]
            refine st105 _ ?_
            show Go p.tables e below _ T105 (mkF m 47 #[.val (.ref a1), .val (.int (bi acc)), .val (.ref a1), .val (.int (Int32.ofNat cs.length)), .val (.int (Int32.ofNat i)), .val (.int c)] [(.ref ka), (.int (bi acc))])
            refine g_iload B W105 (d_prog_7_method_7_47) rfl ?_
            show Go p.tables e below _ T105 (mkF m 49 #[.val (.ref a1), .val (.int (bi acc)), .val (.ref a1), .val (.int (Int32.ofNat cs.length)), .val (.int (Int32.ofNat i)), .val (.int c)] [(.int c), (.ref ka), (.int (bi acc))])
            have h0c : ¬ c < 0 := by rw [Int32.lt_iff_toInt_lt]; show ¬ (c.toInt < 0); omega
            refine g_caloadK B W105 (d_prog_7_method_7_49) (Ak.ext W105.old.2) (inb_of (z := 128) sk ⟨h0c, hc104⟩) (vk c h0c hc104) ?_
            show Go p.tables e below _ T105 (mkF m 50 #[.val (.ref a1), .val (.int (bi acc)), .val (.ref a1), .val (.int (Int32.ofNat cs.length)), .val (.int (Int32.ofNat i)), .val (.int c)] [(.int (kept c)), (.int (bi acc))])
            refine g_iload B W105 (d_prog_7_method_7_50) rfl ?_
            show Go p.tables e below _ T105 (mkF m 52 #[.val (.ref a1), .val (.int (bi acc)), .val (.ref a1), .val (.int (Int32.ofNat cs.length)), .val (.int (Int32.ofNat i)), .val (.int c)] [(.int c), (.int (kept c)), (.int (bi acc))])
            by_cases hc106 : (kept c) = c
            · skip
              refine g_icmp_n B W105 (d_prog_7_method_7_52) (XT.ii_ne_f hc106) ?_
              show Go p.tables e below _ T105 (mkF m 55 #[.val (.ref a1), .val (.int (bi acc)), .val (.ref a1), .val (.int (Int32.ofNat cs.length)), .val (.int (Int32.ofNat i)), .val (.int c)] [(.int (bi acc))])
              refine g_iconst B W105 (d_prog_7_method_7_55) (v := 1) (by decide) ?_
              show Go p.tables e below _ T105 (mkF m 56 #[.val (.ref a1), .val (.int (bi acc)), .val (.ref a1), .val (.int (Int32.ofNat cs.length)), .val (.int (Int32.ofNat i)), .val (.int c)] [(.int 1), (.int (bi acc))])
              refine g_goto B W105 (d_prog_7_method_7_56) (pc' := 60) (by decide) ?_
              show Go p.tables e below _ T105 (mkF m 60 #[.val (.ref a1), .val (.int (bi acc)), .val (.ref a1), .val (.int (Int32.ofNat cs.length)), .val (.int (Int32.ofNat i)), .val (.int c)] [(.int 1), (.int (bi acc))])
              refine g_iand B W105 (d_prog_7_method_7_60)  ?_
              rw [own_and1 (b := okc c) ((own_okk h0c hc101 hc102 hc104).mp hc106)]
              show Go p.tables e below _ T105 (mkF m 61 #[.val (.ref a1), .val (.int (bi acc)), .val (.ref a1), .val (.int (Int32.ofNat cs.length)), .val (.int (Int32.ofNat i)), .val (.int c)] [(.int (bi (acc && okc c)))])
              refine g_istore_n B W105 (d_prog_7_method_7_61)  (l' := #[.val (.ref a1), .val (.int (bi (acc && okc c))), .val (.ref a1), .val (.int (Int32.ofNat cs.length)), .val (.int (Int32.ofNat i)), .val (.int c)]) rfl ?_
              show Go p.tables e below _ T105 (mkF m 62 #[.val (.ref a1), .val (.int (bi (acc && okc c))), .val (.ref a1), .val (.int (Int32.ofNat cs.length)), .val (.int (Int32.ofNat i)), .val (.int c)] [])
              refine g_iinc B W105 (d_prog_7_method_7_62) (v := 1) (l' := #[.val (.ref a1), .val (.int (bi (acc && okc c))), .val (.ref a1), .val (.int (Int32.ofNat cs.length)), .val (.int (Int32.ofNat i + 1)), .val (.int c)]) (by decide) rfl rfl ?_
              rw [own_inc]
              show Go p.tables e below _ T105 (mkF m 65 #[.val (.ref a1), .val (.int (bi (acc && okc c))), .val (.ref a1), .val (.int (Int32.ofNat cs.length)), .val (.int (Int32.ofNat (i + 1))), .val (.int c)] [])
              refine g_goto B W105 (d_prog_7_method_7_65) (pc' := 10) (by decide) ?_
              show Go p.tables e below _ T105 (mkF m 10 #[.val (.ref a1), .val (.int (bi (acc && okc c))), .val (.ref a1), .val (.int (Int32.ofNat cs.length)), .val (.int (Int32.ofNat (i + 1))), .val (.int c)] [])
              exact ih (i + 1) _ _ _ (Or.inr ⟨_, rfl, rfl⟩) W105 (by omega) hacc
            · skip
              refine g_icmp_y B W105 (d_prog_7_method_7_52) (XT.ii_ne_t hc106) (pc' := 59) (by decide) ?_
              show Go p.tables e below _ T105 (mkF m 59 #[.val (.ref a1), .val (.int (bi acc)), .val (.ref a1), .val (.int (Int32.ofNat cs.length)), .val (.int (Int32.ofNat i)), .val (.int c)] [(.int (bi acc))])
              refine g_iconst B W105 (d_prog_7_method_7_59) (v := 0) (by decide) ?_
              show Go p.tables e below _ T105 (mkF m 60 #[.val (.ref a1), .val (.int (bi acc)), .val (.ref a1), .val (.int (Int32.ofNat cs.length)), .val (.int (Int32.ofNat i)), .val (.int c)] [(.int 0), (.int (bi acc))])
              refine g_iand B W105 (d_prog_7_method_7_60)  ?_
              rw [own_and0 (b := okc c) (Bool.eq_false_iff.mpr fun q => hc106 ((own_okk h0c hc101 hc102 hc104).mpr q))]
              show Go p.tables e below _ T105 (mkF m 61 #[.val (.ref a1), .val (.int (bi acc)), .val (.ref a1), .val (.int (Int32.ofNat cs.length)), .val (.int (Int32.ofNat i)), .val (.int c)] [(.int (bi (acc && okc c)))])
              refine g_istore_n B W105 (d_prog_7_method_7_61)  (l' := #[.val (.ref a1), .val (.int (bi (acc && okc c))), .val (.ref a1), .val (.int (Int32.ofNat cs.length)), .val (.int (Int32.ofNat i)), .val (.int c)]) rfl ?_
              show Go p.tables e below _ T105 (mkF m 62 #[.val (.ref a1), .val (.int (bi (acc && okc c))), .val (.ref a1), .val (.int (Int32.ofNat cs.length)), .val (.int (Int32.ofNat i)), .val (.int c)] [])
              refine g_iinc B W105 (d_prog_7_method_7_62) (v := 1) (l' := #[.val (.ref a1), .val (.int (bi (acc && okc c))), .val (.ref a1), .val (.int (Int32.ofNat cs.length)), .val (.int (Int32.ofNat i + 1)), .val (.int c)]) (by decide) rfl rfl ?_
              rw [own_inc]
              show Go p.tables e below _ T105 (mkF m 65 #[.val (.ref a1), .val (.int (bi (acc && okc c))), .val (.ref a1), .val (.int (Int32.ofNat cs.length)), .val (.int (Int32.ofNat (i + 1))), .val (.int c)] [])
              refine g_goto B W105 (d_prog_7_method_7_65) (pc' := 10) (by decide) ?_
              show Go p.tables e below _ T105 (mkF m 10 #[.val (.ref a1), .val (.int (bi (acc && okc c))), .val (.ref a1), .val (.int (Int32.ofNat cs.length)), .val (.int (Int32.ofNat (i + 1))), .val (.int c)] [])
              exact ih (i + 1) _ _ _ (Or.inr ⟨_, rfl, rfl⟩) W105 (by omega) hacc
          · skip
            refine g_icmp_y B W103 (d_prog_7_method_7_41) (XT.ii_ge_t hc104) (pc' := 59) (by decide) ?_
            show Go p.tables e below _ T103 (mkF m 59 #[.val (.ref a1), .val (.int (bi acc)), .val (.ref a1), .val (.int (Int32.ofNat cs.length)), .val (.int (Int32.ofNat i)), .val (.int c)] [(.int (bi acc))])
            refine g_iconst B W103 (d_prog_7_method_7_59) (v := 0) (by decide) ?_
            show Go p.tables e below _ T103 (mkF m 60 #[.val (.ref a1), .val (.int (bi acc)), .val (.ref a1), .val (.int (Int32.ofNat cs.length)), .val (.int (Int32.ofNat i)), .val (.int c)] [(.int 0), (.int (bi acc))])
            refine g_iand B W103 (d_prog_7_method_7_60)  ?_
            rw [own_and0 (b := okc c) (own_okf hc101 (Or.inr hc104))]
            show Go p.tables e below _ T103 (mkF m 61 #[.val (.ref a1), .val (.int (bi acc)), .val (.ref a1), .val (.int (Int32.ofNat cs.length)), .val (.int (Int32.ofNat i)), .val (.int c)] [(.int (bi (acc && okc c)))])
            refine g_istore_n B W103 (d_prog_7_method_7_61)  (l' := #[.val (.ref a1), .val (.int (bi (acc && okc c))), .val (.ref a1), .val (.int (Int32.ofNat cs.length)), .val (.int (Int32.ofNat i)), .val (.int c)]) rfl ?_
            show Go p.tables e below _ T103 (mkF m 62 #[.val (.ref a1), .val (.int (bi (acc && okc c))), .val (.ref a1), .val (.int (Int32.ofNat cs.length)), .val (.int (Int32.ofNat i)), .val (.int c)] [])
            refine g_iinc B W103 (d_prog_7_method_7_62) (v := 1) (l' := #[.val (.ref a1), .val (.int (bi (acc && okc c))), .val (.ref a1), .val (.int (Int32.ofNat cs.length)), .val (.int (Int32.ofNat i + 1)), .val (.int c)]) (by decide) rfl rfl ?_
            rw [own_inc]
            show Go p.tables e below _ T103 (mkF m 65 #[.val (.ref a1), .val (.int (bi (acc && okc c))), .val (.ref a1), .val (.int (Int32.ofNat cs.length)), .val (.int (Int32.ofNat (i + 1))), .val (.int c)] [])
            refine g_goto B W103 (d_prog_7_method_7_65) (pc' := 10) (by decide) ?_
            show Go p.tables e below _ T103 (mkF m 10 #[.val (.ref a1), .val (.int (bi (acc && okc c))), .val (.ref a1), .val (.int (Int32.ofNat cs.length)), .val (.int (Int32.ofNat (i + 1))), .val (.int c)] [])
            exact ih (i + 1) _ _ _ (Or.inr ⟨_, rfl, rfl⟩) W103 (by omega) hacc
  exact loop cs.length 0 true .unset T0 (Or.inl rfl) W0 (by omega) (by simp)
theorem ef_law (m : MethodId) (p1 : Int32) (p2 : Int32) (p3 : Int32) (p4 : Int32) (ka : Addr) (kc : Cell) : entryFrame m #[(.int p1), (.int p2), (.int p3), (.int p4)] maxLocals = mkF m 0 #[.val (.int p1), .val (.int p2), .val (.int p3), .val (.int p4), .unset, .unset, .unset, .unset, .unset, .unset] [] := by first | (simp [entryFrame, mkF, argsToLocals, Value.category, maxLocals]; done) | rfl
def Q_law (Z : State) (p1 : Int32) (p2 : Int32) (p3 : Int32) (p4 : Int32) (ka : Addr) (kc : Cell) (h0 : Heap) (v : Option Value) (h : Heap) : Prop := v = some (.int 1)
set_option maxRecDepth 65536 in
set_option maxHeartbeats 40000000 in
theorem c_law (l : Launch) (Z : State) (a0 : Array Value) (hw : ∀ d ∈ tables_1, d.before a0 Z = true) (ws : List Jvm.Cond) (p1 : Int32) (p2 : Int32) (p3 : Int32) (p4 : Int32) (ka : Addr) (kc : Cell) (h0 : Heap) (Sk : Sta Z Z.heap "com/example/stratify/stratify/EnvironmentNames" "KEPT" "[C" (.ref ka)) (Ak : Arr Z Z.heap ka kc .char) (lk : kc.slots.size.toInt32 = 128) (sk : kc.slots.size = 128) (vk : ∀ j : Int32, ¬ j < 0 → j < 128 → kc.slots[j.toNatClampNeg]? = some (.int (kept j))) :
    Con l Z x code maxLocals ret ws room_1 #[(.int p1), (.int p2), (.int p3), (.int p4)] h0 (Q_law Z p1 p2 p3 p4 ka kc h0) := by
  refine Con.of (plainFor_of_name pn_com_example_stratify_stratify_EnvironmentNamesIsUpperCasePinLaw) ?_
  intro p e s m below meth c T0 B W0
  refine Go.cast (ef_law m p1 p2 p3 p4 ka kc) ?_
  refine g_iload_n B W0 at_0 rfl ?_
  show Go p.tables e below _ T0 (mkF m 1 #[.val (.int p1), .val (.int p2), .val (.int p3), .val (.int p4), .unset, .unset, .unset, .unset, .unset, .unset] [(.int p1)])
  refine g_ldcI B W0 at_1 (tw hw 0 rfl) ?_
  show Go p.tables e below _ T0 (mkF m 3 #[.val (.int p1), .val (.int p2), .val (.int p3), .val (.int p4), .unset, .unset, .unset, .unset, .unset, .unset] [(.int 2147483647), (.int p1)])
  refine g_iand B W0 at_3  ?_
  show Go p.tables e below _ T0 (mkF m 4 #[.val (.int p1), .val (.int p2), .val (.int p3), .val (.int p4), .unset, .unset, .unset, .unset, .unset, .unset] [(.int (p1 &&& 2147483647))])
  refine g_iconst B W0 at_4 (v := 4) (by decide) ?_
  show Go p.tables e below _ T0 (mkF m 5 #[.val (.int p1), .val (.int p2), .val (.int p3), .val (.int p4), .unset, .unset, .unset, .unset, .unset, .unset] [(.int 4), (.int (p1 &&& 2147483647))])
  refine g_irem B W0 at_5 (by decide) ?_
  show Go p.tables e below _ T0 (mkF m 6 #[.val (.int p1), .val (.int p2), .val (.int p3), .val (.int p4), .unset, .unset, .unset, .unset, .unset, .unset] [(.int ((p1 &&& 2147483647) % 4))])
  generalize ey101 : ((p1 &&& 2147483647) % 4) = n101
  show Go p.tables e below _ T0 (mkF m 6 #[.val (.int p1), .val (.int p2), .val (.int p3), .val (.int p4), .unset, .unset, .unset, .unset, .unset, .unset] [(.int n101)])
  refine g_istore B W0 at_6  (l' := #[.val (.int p1), .val (.int p2), .val (.int p3), .val (.int p4), .val (.int n101), .unset, .unset, .unset, .unset, .unset]) rfl ?_
  show Go p.tables e below _ T0 (mkF m 8 #[.val (.int p1), .val (.int p2), .val (.int p3), .val (.int p4), .val (.int n101), .unset, .unset, .unset, .unset, .unset] [])
  refine g_iload_n B W0 at_8 rfl ?_
  show Go p.tables e below _ T0 (mkF m 9 #[.val (.int p1), .val (.int p2), .val (.int p3), .val (.int p4), .val (.int n101), .unset, .unset, .unset, .unset, .unset] [(.int p2)])
  refine g_i2c B W0 at_9  ?_
  obtain ⟨x102, ex102, nx102, rx102⟩ := own_i2c p2
  rw [ex102]
  show Go p.tables e below _ T0 (mkF m 10 #[.val (.int p1), .val (.int p2), .val (.int p3), .val (.int p4), .val (.int n101), .unset, .unset, .unset, .unset, .unset] [(.int x102)])
  refine g_istore B W0 at_10  (l' := #[.val (.int p1), .val (.int p2), .val (.int p3), .val (.int p4), .val (.int n101), .val (.int x102), .unset, .unset, .unset, .unset]) rfl ?_
  show Go p.tables e below _ T0 (mkF m 12 #[.val (.int p1), .val (.int p2), .val (.int p3), .val (.int p4), .val (.int n101), .val (.int x102), .unset, .unset, .unset, .unset] [])
  refine g_iload_n B W0 at_12 rfl ?_
  show Go p.tables e below _ T0 (mkF m 13 #[.val (.int p1), .val (.int p2), .val (.int p3), .val (.int p4), .val (.int n101), .val (.int x102), .unset, .unset, .unset, .unset] [(.int p3)])
  refine g_i2c B W0 at_13  ?_
  obtain ⟨x103, ex103, nx103, rx103⟩ := own_i2c p3
  rw [ex103]
  show Go p.tables e below _ T0 (mkF m 14 #[.val (.int p1), .val (.int p2), .val (.int p3), .val (.int p4), .val (.int n101), .val (.int x102), .unset, .unset, .unset, .unset] [(.int x103)])
  refine g_istore B W0 at_14  (l' := #[.val (.int p1), .val (.int p2), .val (.int p3), .val (.int p4), .val (.int n101), .val (.int x102), .val (.int x103), .unset, .unset, .unset]) rfl ?_
  show Go p.tables e below _ T0 (mkF m 16 #[.val (.int p1), .val (.int p2), .val (.int p3), .val (.int p4), .val (.int n101), .val (.int x102), .val (.int x103), .unset, .unset, .unset] [])
  refine g_iload_n B W0 at_16 rfl ?_
  show Go p.tables e below _ T0 (mkF m 17 #[.val (.int p1), .val (.int p2), .val (.int p3), .val (.int p4), .val (.int n101), .val (.int x102), .val (.int x103), .unset, .unset, .unset] [(.int p4)])
  refine g_i2c B W0 at_17  ?_
  obtain ⟨x104, ex104, nx104, rx104⟩ := own_i2c p4
  rw [ex104]
  show Go p.tables e below _ T0 (mkF m 18 #[.val (.int p1), .val (.int p2), .val (.int p3), .val (.int p4), .val (.int n101), .val (.int x102), .val (.int x103), .unset, .unset, .unset] [(.int x104)])
  refine g_istore B W0 at_18  (l' := #[.val (.int p1), .val (.int p2), .val (.int p3), .val (.int p4), .val (.int n101), .val (.int x102), .val (.int x103), .val (.int x104), .unset, .unset]) rfl ?_
  show Go p.tables e below _ T0 (mkF m 20 #[.val (.int p1), .val (.int p2), .val (.int p3), .val (.int p4), .val (.int n101), .val (.int x102), .val (.int x103), .val (.int x104), .unset, .unset] [])
  refine g_iload B W0 at_20 rfl ?_
  show Go p.tables e below _ T0 (mkF m 22 #[.val (.int p1), .val (.int p2), .val (.int p3), .val (.int p4), .val (.int n101), .val (.int x102), .val (.int x103), .val (.int x104), .unset, .unset] [(.int n101)])
  by_cases hc105 : n101 = 0
  · skip
    refine g_if_n B W0 at_22 (XT.i0_ne_f hc105) ?_
    show Go p.tables e below _ T0 (mkF m 25 #[.val (.int p1), .val (.int p2), .val (.int p3), .val (.int p4), .val (.int n101), .val (.int x102), .val (.int x103), .val (.int x104), .unset, .unset] [])
    refine g_iconst B W0 at_25 (v := 0) (by decide) ?_
    show Go p.tables e below _ T0 (mkF m 26 #[.val (.int p1), .val (.int p2), .val (.int p3), .val (.int p4), .val (.int n101), .val (.int x102), .val (.int x103), .val (.int x104), .unset, .unset] [(.int 0)])
    obtain ⟨T106, h106, b106, cA106, gb106, W106, K106, A106, st106⟩ := x_newA B W0 (z := 0) 0 at_26 (tw hw 1 rfl) (by decide) (by decide) (by decide) (by decide) (by decide) #[.val (.int p1), .val (.int p2), .val (.int p3), .val (.int p4), .val (.int n101), .val (.int x102), .val (.int x103), .val (.int x104), .unset, .unset] []
    have l106 := A106.lt
    have z106 := W0.size
    refine st106 _ ?_
    have s107 := K106.1
    show Go p.tables e below _ T106 (mkF m 28 #[.val (.int p1), .val (.int p2), .val (.int p3), .val (.int p4), .val (.int n101), .val (.int x102), .val (.int x103), .val (.int x104), .unset, .unset] [(.ref b106)])
    refine g_astore B W106 at_28 rfl (l' := #[.val (.int p1), .val (.int p2), .val (.int p3), .val (.int p4), .val (.int n101), .val (.int x102), .val (.int x103), .val (.int x104), .val (.ref b106), .unset]) rfl ?_
    show Go p.tables e below _ T106 (mkF m 30 #[.val (.int p1), .val (.int p2), .val (.int p3), .val (.int p4), .val (.int n101), .val (.int x102), .val (.int x103), .val (.int x104), .val (.ref b106), .unset] [])
    refine g_iconst B W106 at_30 (v := 1) (by decide) ?_
    show Go p.tables e below _ T106 (mkF m 31 #[.val (.int p1), .val (.int p2), .val (.int p3), .val (.int p4), .val (.int n101), .val (.int x102), .val (.int x103), .val (.int x104), .val (.ref b106), .unset] [(.int 1)])
    refine g_istore B W106 at_31  (l' := #[.val (.int p1), .val (.int p2), .val (.int p3), .val (.int p4), .val (.int n101), .val (.int x102), .val (.int x103), .val (.int x104), .val (.ref b106), .val (.int 1)]) rfl ?_
    show Go p.tables e below _ T106 (mkF m 33 #[.val (.int p1), .val (.int p2), .val (.int p3), .val (.int p4), .val (.int n101), .val (.int x102), .val (.int x103), .val (.int x104), .val (.ref b106), .val (.int 1)] [])
    refine g_goto B W106 at_33 (pc' := 160) (by decide) ?_
    show Go p.tables e below _ T106 (mkF m 160 #[.val (.int p1), .val (.int p2), .val (.int p3), .val (.int p4), .val (.int n101), .val (.int x102), .val (.int x103), .val (.int x104), .val (.ref b106), .val (.int 1)] [])
    refine g_aload B W106 at_160 rfl rfl ?_
    show Go p.tables e below _ T106 (mkF m 162 #[.val (.int p1), .val (.int p2), .val (.int p3), .val (.int p4), .val (.int n101), .val (.int x102), .val (.int x103), .val (.int x104), .val (.ref b106), .val (.int 1)] [(.ref b106)])
    obtain ⟨T108, h108, v108, W108, Q108, st108⟩ := x_static B W106 [(.ref b106)] (c_up l Z a0 hw b106 cA106 [] ka kc h106 A106 (by simp) (by simp) Sk Ak lk sk vk) at_162 (tw hw 2 rfl) (tw hw 3 rfl) (tw hw 4 rfl) (tw hw 5 rfl) (by decide) (lenOf pd___C_Z rfl) #[.val (.int p1), .val (.int p2), .val (.int p3), .val (.int p4), .val (.int n101), .val (.int x102), .val (.int x103), .val (.int x104), .val (.ref b106), .val (.int 1)] [] rfl 0 rfl (by decide) (by decide) (by decide) (by decide)
    obtain ⟨rfl, rfl⟩ := Q108
    refine st108 _ ?_
    show Go p.tables e below _ T108 (mkF m 165 #[.val (.int p1), .val (.int p2), .val (.int p3), .val (.int p4), .val (.int n101), .val (.int x102), .val (.int x103), .val (.int x104), .val (.ref b106), .val (.int 1)] [(.int (bi (List.all [] okc)))])
    refine g_iload B W108 at_165 rfl ?_
    show Go p.tables e below _ T108 (mkF m 167 #[.val (.int p1), .val (.int p2), .val (.int p3), .val (.int p4), .val (.int n101), .val (.int x102), .val (.int x103), .val (.int x104), .val (.ref b106), .val (.int 1)] [(.int 1), (.int (bi (List.all [] okc)))])
    refine g_diab (decide ((bi (List.all [] okc)) = 1)) (m := m) (ls := #[.val (.int p1), .val (.int p2), .val (.int p3), .val (.int p4), .val (.int n101), .val (.int x102), .val (.int x103), .val (.int x104), .val (.ref b106), .val (.int 1)]) (st := []) (pc' := 175) (fun hd1 q => ?_) (fun hd1 q => ?_) ?_
    · refine g_icmp_n B W108 at_167 (XT.ii_ne_f (of_decide_eq_true hd1)) ?_
      refine g_iconst B W108 at_170 (v := 1) (by decide) ?_
      exact g_goto B W108 at_171 (pc' := 175) (by decide) q
    · refine g_icmp_y B W108 at_167 (XT.ii_ne_t (of_decide_eq_false hd1)) (pc' := 174) (by decide) ?_
      exact g_iconst B W108 at_174 (v := 0) (by decide) q
    show Go p.tables e below _ T108 (mkF m 175 #[.val (.int p1), .val (.int p2), .val (.int p3), .val (.int p4), .val (.int n101), .val (.int x102), .val (.int x103), .val (.int x104), .val (.ref b106), .val (.int 1)] [(.int (bi (decide ((bi (List.all [] okc)) = 1))))])
    exact r_b B W108 at_175 (by decide) (by decide) (by show some (Value.int (bi (decide ((bi (List.all [] okc)) = 1)))) = some (.int 1); rw [show (decide ((bi (List.all [] okc)) = 1)) = true by simp [bi, hc105]]; rfl)
  · skip
    refine g_if_y B W0 at_22 (XT.i0_ne_t hc105) (pc' := 36) (by decide) ?_
    show Go p.tables e below _ T0 (mkF m 36 #[.val (.int p1), .val (.int p2), .val (.int p3), .val (.int p4), .val (.int n101), .val (.int x102), .val (.int x103), .val (.int x104), .unset, .unset] [])
    refine g_iload B W0 at_36 rfl ?_
    show Go p.tables e below _ T0 (mkF m 38 #[.val (.int p1), .val (.int p2), .val (.int p3), .val (.int p4), .val (.int n101), .val (.int x102), .val (.int x103), .val (.int x104), .unset, .unset] [(.int n101)])
    refine g_iconst B W0 at_38 (v := 1) (by decide) ?_
    show Go p.tables e below _ T0 (mkF m 39 #[.val (.int p1), .val (.int p2), .val (.int p3), .val (.int p4), .val (.int n101), .val (.int x102), .val (.int x103), .val (.int x104), .unset, .unset] [(.int 1), (.int n101)])
    by_cases hc109 : n101 = 1
    · skip
      refine g_icmp_n B W0 at_39 (XT.ii_ne_f hc109) ?_
      show Go p.tables e below _ T0 (mkF m 42 #[.val (.int p1), .val (.int p2), .val (.int p3), .val (.int p4), .val (.int n101), .val (.int x102), .val (.int x103), .val (.int x104), .unset, .unset] [])
      refine g_iconst B W0 at_42 (v := 1) (by decide) ?_
      show Go p.tables e below _ T0 (mkF m 43 #[.val (.int p1), .val (.int p2), .val (.int p3), .val (.int p4), .val (.int n101), .val (.int x102), .val (.int x103), .val (.int x104), .unset, .unset] [(.int 1)])
      obtain ⟨T110, h110, b110, cA110, gb110, W110, K110, A110, st110⟩ := x_newA B W0 (z := 1) 1 at_43 (tw hw 1 rfl) (by decide) (by decide) (by decide) (by decide) (by decide) #[.val (.int p1), .val (.int p2), .val (.int p3), .val (.int p4), .val (.int n101), .val (.int x102), .val (.int x103), .val (.int x104), .unset, .unset] []
      have l110 := A110.lt
      have z110 := W0.size
      refine st110 _ ?_
      have s111 := K110.1
      show Go p.tables e below _ T110 (mkF m 45 #[.val (.int p1), .val (.int p2), .val (.int p3), .val (.int p4), .val (.int n101), .val (.int x102), .val (.int x103), .val (.int x104), .unset, .unset] [(.ref b110)])
      refine g_dup B W110 at_45 rfl ?_
      show Go p.tables e below _ T110 (mkF m 46 #[.val (.int p1), .val (.int p2), .val (.int p3), .val (.int p4), .val (.int n101), .val (.int x102), .val (.int x103), .val (.int x104), .unset, .unset] [(.ref b110), (.ref b110)])
      refine g_iconst B W110 at_46 (v := 0) (by decide) ?_
      show Go p.tables e below _ T110 (mkF m 47 #[.val (.int p1), .val (.int p2), .val (.int p3), .val (.int p4), .val (.int n101), .val (.int x102), .val (.int x103), .val (.int x104), .unset, .unset] [(.int 0), (.ref b110), (.ref b110)])
      refine g_iload B W110 at_47 rfl ?_
      show Go p.tables e below _ T110 (mkF m 49 #[.val (.int p1), .val (.int p2), .val (.int p3), .val (.int p4), .val (.int n101), .val (.int x102), .val (.int x103), .val (.int x104), .unset, .unset] [(.int x102), (.int 0), (.ref b110), (.ref b110)])
      obtain ⟨T112, h112, W112, K112, A112, st112⟩ := x_castore B W110 (j := 0) (x := x102) at_49 A110 (by decide) (Nat.lt_of_lt_of_eq (show Int32.toNatClampNeg 0 < 1 by decide) rfl) (by omega) #[.val (.int p1), .val (.int p2), .val (.int p3), .val (.int p4), .val (.int n101), .val (.int x102), .val (.int x103), .val (.int x104), .unset, .unset] [(.ref b110)]
      refine st112 _ ?_
      rw [nx102] at A112
      have A112 : Arv Z h112 b110 cA110 .char 1 [(.int x102)] (.int 0) := A112
      have s113 := K112.1
      show Go p.tables e below _ T112 (mkF m 50 #[.val (.int p1), .val (.int p2), .val (.int p3), .val (.int p4), .val (.int n101), .val (.int x102), .val (.int x103), .val (.int x104), .unset, .unset] [(.ref b110)])
      refine g_astore B W112 at_50 rfl (l' := #[.val (.int p1), .val (.int p2), .val (.int p3), .val (.int p4), .val (.int n101), .val (.int x102), .val (.int x103), .val (.int x104), .val (.ref b110), .unset]) rfl ?_
      show Go p.tables e below _ T112 (mkF m 52 #[.val (.int p1), .val (.int p2), .val (.int p3), .val (.int p4), .val (.int n101), .val (.int x102), .val (.int x103), .val (.int x104), .val (.ref b110), .unset] [])
      refine g_iload B W112 at_52 rfl ?_
      show Go p.tables e below _ T112 (mkF m 54 #[.val (.int p1), .val (.int p2), .val (.int p3), .val (.int p4), .val (.int n101), .val (.int x102), .val (.int x103), .val (.int x104), .val (.ref b110), .unset] [(.int x102)])
      obtain ⟨T114, h114, v114, W114, Q114, st114⟩ := x_static B W112 [(.int x102)] (c_ok l Z a0 hw x102 h112) at_54 (tw hw 6 rfl) (tw hw 7 rfl) (tw hw 8 rfl) (tw hw 9 rfl) (by decide) (lenOf pd__C_Z rfl) #[.val (.int p1), .val (.int p2), .val (.int p3), .val (.int p4), .val (.int n101), .val (.int x102), .val (.int x103), .val (.int x104), .val (.ref b110), .unset] [] rfl 0 rfl (by decide) (by decide) (by decide) (by decide)
      obtain ⟨rfl, rfl⟩ := Q114
      refine st114 _ ?_
      show Go p.tables e below _ T114 (mkF m 57 #[.val (.int p1), .val (.int p2), .val (.int p3), .val (.int p4), .val (.int n101), .val (.int x102), .val (.int x103), .val (.int x104), .val (.ref b110), .unset] [(.int (bi (okc x102)))])
      refine g_istore B W114 at_57  (l' := #[.val (.int p1), .val (.int p2), .val (.int p3), .val (.int p4), .val (.int n101), .val (.int x102), .val (.int x103), .val (.int x104), .val (.ref b110), .val (.int (bi (okc x102)))]) rfl ?_
      show Go p.tables e below _ T114 (mkF m 59 #[.val (.int p1), .val (.int p2), .val (.int p3), .val (.int p4), .val (.int n101), .val (.int x102), .val (.int x103), .val (.int x104), .val (.ref b110), .val (.int (bi (okc x102)))] [])
      refine g_goto B W114 at_59 (pc' := 160) (by decide) ?_
      show Go p.tables e below _ T114 (mkF m 160 #[.val (.int p1), .val (.int p2), .val (.int p3), .val (.int p4), .val (.int n101), .val (.int x102), .val (.int x103), .val (.int x104), .val (.ref b110), .val (.int (bi (okc x102)))] [])
      refine g_aload B W114 at_160 rfl rfl ?_
      show Go p.tables e below _ T114 (mkF m 162 #[.val (.int p1), .val (.int p2), .val (.int p3), .val (.int p4), .val (.int n101), .val (.int x102), .val (.int x103), .val (.int x104), .val (.ref b110), .val (.int (bi (okc x102)))] [(.ref b110)])
      obtain ⟨T115, h115, v115, W115, Q115, st115⟩ := x_static B W114 [(.ref b110)] (c_up l Z a0 hw b110 cA110 [x102] ka kc h112 A112 (by simp only [List.mem_cons, List.not_mem_nil, or_false]; rintro c (rfl) <;> assumption) (by simp) Sk Ak lk sk vk) at_162 (tw hw 2 rfl) (tw hw 3 rfl) (tw hw 4 rfl) (tw hw 5 rfl) (by decide) (lenOf pd___C_Z rfl) #[.val (.int p1), .val (.int p2), .val (.int p3), .val (.int p4), .val (.int n101), .val (.int x102), .val (.int x103), .val (.int x104), .val (.ref b110), .val (.int (bi (okc x102)))] [] rfl 0 rfl (by decide) (by decide) (by decide) (by decide)
      obtain ⟨rfl, rfl⟩ := Q115
      refine st115 _ ?_
      show Go p.tables e below _ T115 (mkF m 165 #[.val (.int p1), .val (.int p2), .val (.int p3), .val (.int p4), .val (.int n101), .val (.int x102), .val (.int x103), .val (.int x104), .val (.ref b110), .val (.int (bi (okc x102)))] [(.int (bi (List.all [x102] okc)))])
      refine g_iload B W115 at_165 rfl ?_
      show Go p.tables e below _ T115 (mkF m 167 #[.val (.int p1), .val (.int p2), .val (.int p3), .val (.int p4), .val (.int n101), .val (.int x102), .val (.int x103), .val (.int x104), .val (.ref b110), .val (.int (bi (okc x102)))] [(.int (bi (okc x102))), (.int (bi (List.all [x102] okc)))])
      refine g_diab (decide ((bi (List.all [x102] okc)) = (bi (okc x102)))) (m := m) (ls := #[.val (.int p1), .val (.int p2), .val (.int p3), .val (.int p4), .val (.int n101), .val (.int x102), .val (.int x103), .val (.int x104), .val (.ref b110), .val (.int (bi (okc x102)))]) (st := []) (pc' := 175) (fun hd1 q => ?_) (fun hd1 q => ?_) ?_
      · refine g_icmp_n B W115 at_167 (XT.ii_ne_f (of_decide_eq_true hd1)) ?_
        refine g_iconst B W115 at_170 (v := 1) (by decide) ?_
        exact g_goto B W115 at_171 (pc' := 175) (by decide) q
      · refine g_icmp_y B W115 at_167 (XT.ii_ne_t (of_decide_eq_false hd1)) (pc' := 174) (by decide) ?_
        exact g_iconst B W115 at_174 (v := 0) (by decide) q
      show Go p.tables e below _ T115 (mkF m 175 #[.val (.int p1), .val (.int p2), .val (.int p3), .val (.int p4), .val (.int n101), .val (.int x102), .val (.int x103), .val (.int x104), .val (.ref b110), .val (.int (bi (okc x102)))] [(.int (bi (decide ((bi (List.all [x102] okc)) = (bi (okc x102))))))])
      exact r_b B W115 at_175 (by decide) (by decide) (by show some (Value.int (bi (decide ((bi (List.all [x102] okc)) = (bi (okc x102)))))) = some (.int 1); rw [show (decide ((bi (List.all [x102] okc)) = (bi (okc x102)))) = true by simp [bi, hc105, hc109]]; rfl)
    · skip
      refine g_icmp_y B W0 at_39 (XT.ii_ne_t hc109) (pc' := 62) (by decide) ?_
      show Go p.tables e below _ T0 (mkF m 62 #[.val (.int p1), .val (.int p2), .val (.int p3), .val (.int p4), .val (.int n101), .val (.int x102), .val (.int x103), .val (.int x104), .unset, .unset] [])
      refine g_iload B W0 at_62 rfl ?_
      show Go p.tables e below _ T0 (mkF m 64 #[.val (.int p1), .val (.int p2), .val (.int p3), .val (.int p4), .val (.int n101), .val (.int x102), .val (.int x103), .val (.int x104), .unset, .unset] [(.int n101)])
      refine g_iconst B W0 at_64 (v := 2) (by decide) ?_
      show Go p.tables e below _ T0 (mkF m 65 #[.val (.int p1), .val (.int p2), .val (.int p3), .val (.int p4), .val (.int n101), .val (.int x102), .val (.int x103), .val (.int x104), .unset, .unset] [(.int 2), (.int n101)])
      by_cases hc116 : n101 = 2
      · skip
        refine g_icmp_n B W0 at_65 (XT.ii_ne_f hc116) ?_
        show Go p.tables e below _ T0 (mkF m 68 #[.val (.int p1), .val (.int p2), .val (.int p3), .val (.int p4), .val (.int n101), .val (.int x102), .val (.int x103), .val (.int x104), .unset, .unset] [])
        refine g_iconst B W0 at_68 (v := 2) (by decide) ?_
        show Go p.tables e below _ T0 (mkF m 69 #[.val (.int p1), .val (.int p2), .val (.int p3), .val (.int p4), .val (.int n101), .val (.int x102), .val (.int x103), .val (.int x104), .unset, .unset] [(.int 2)])
        obtain ⟨T117, h117, b117, cA117, gb117, W117, K117, A117, st117⟩ := x_newA B W0 (z := 2) 2 at_69 (tw hw 1 rfl) (by decide) (by decide) (by decide) (by decide) (by decide) #[.val (.int p1), .val (.int p2), .val (.int p3), .val (.int p4), .val (.int n101), .val (.int x102), .val (.int x103), .val (.int x104), .unset, .unset] []
        have l117 := A117.lt
        have z117 := W0.size
        refine st117 _ ?_
        have s118 := K117.1
        show Go p.tables e below _ T117 (mkF m 71 #[.val (.int p1), .val (.int p2), .val (.int p3), .val (.int p4), .val (.int n101), .val (.int x102), .val (.int x103), .val (.int x104), .unset, .unset] [(.ref b117)])
        refine g_dup B W117 at_71 rfl ?_
        show Go p.tables e below _ T117 (mkF m 72 #[.val (.int p1), .val (.int p2), .val (.int p3), .val (.int p4), .val (.int n101), .val (.int x102), .val (.int x103), .val (.int x104), .unset, .unset] [(.ref b117), (.ref b117)])
        refine g_iconst B W117 at_72 (v := 0) (by decide) ?_
        show Go p.tables e below _ T117 (mkF m 73 #[.val (.int p1), .val (.int p2), .val (.int p3), .val (.int p4), .val (.int n101), .val (.int x102), .val (.int x103), .val (.int x104), .unset, .unset] [(.int 0), (.ref b117), (.ref b117)])
        refine g_iload B W117 at_73 rfl ?_
        show Go p.tables e below _ T117 (mkF m 75 #[.val (.int p1), .val (.int p2), .val (.int p3), .val (.int p4), .val (.int n101), .val (.int x102), .val (.int x103), .val (.int x104), .unset, .unset] [(.int x102), (.int 0), (.ref b117), (.ref b117)])
        obtain ⟨T119, h119, W119, K119, A119, st119⟩ := x_castore B W117 (j := 0) (x := x102) at_75 A117 (by decide) (Nat.lt_of_lt_of_eq (show Int32.toNatClampNeg 0 < 2 by decide) rfl) (by omega) #[.val (.int p1), .val (.int p2), .val (.int p3), .val (.int p4), .val (.int n101), .val (.int x102), .val (.int x103), .val (.int x104), .unset, .unset] [(.ref b117)]
        refine st119 _ ?_
        rw [nx102] at A119
        have A119 : Arv Z h119 b117 cA117 .char 2 [(.int x102), (.int 0)] (.int 0) := A119
        have s120 := K119.1
        show Go p.tables e below _ T119 (mkF m 76 #[.val (.int p1), .val (.int p2), .val (.int p3), .val (.int p4), .val (.int n101), .val (.int x102), .val (.int x103), .val (.int x104), .unset, .unset] [(.ref b117)])
        refine g_dup B W119 at_76 rfl ?_
        show Go p.tables e below _ T119 (mkF m 77 #[.val (.int p1), .val (.int p2), .val (.int p3), .val (.int p4), .val (.int n101), .val (.int x102), .val (.int x103), .val (.int x104), .unset, .unset] [(.ref b117), (.ref b117)])
        refine g_iconst B W119 at_77 (v := 1) (by decide) ?_
        show Go p.tables e below _ T119 (mkF m 78 #[.val (.int p1), .val (.int p2), .val (.int p3), .val (.int p4), .val (.int n101), .val (.int x102), .val (.int x103), .val (.int x104), .unset, .unset] [(.int 1), (.ref b117), (.ref b117)])
        refine g_iload B W119 at_78 rfl ?_
        show Go p.tables e below _ T119 (mkF m 80 #[.val (.int p1), .val (.int p2), .val (.int p3), .val (.int p4), .val (.int n101), .val (.int x102), .val (.int x103), .val (.int x104), .unset, .unset] [(.int x103), (.int 1), (.ref b117), (.ref b117)])
        obtain ⟨T121, h121, W121, K121, A121, st121⟩ := x_castore B W119 (j := 1) (x := x103) at_80 A119 (by decide) (Nat.lt_of_lt_of_eq (show Int32.toNatClampNeg 1 < 2 by decide) rfl) (by omega) #[.val (.int p1), .val (.int p2), .val (.int p3), .val (.int p4), .val (.int n101), .val (.int x102), .val (.int x103), .val (.int x104), .unset, .unset] [(.ref b117)]
        refine st121 _ ?_
        rw [nx103] at A121
        have A121 : Arv Z h121 b117 cA117 .char 2 [(.int x102), (.int x103)] (.int 0) := A121
        have s122 := K121.1
        show Go p.tables e below _ T121 (mkF m 81 #[.val (.int p1), .val (.int p2), .val (.int p3), .val (.int p4), .val (.int n101), .val (.int x102), .val (.int x103), .val (.int x104), .unset, .unset] [(.ref b117)])
        refine g_astore B W121 at_81 rfl (l' := #[.val (.int p1), .val (.int p2), .val (.int p3), .val (.int p4), .val (.int n101), .val (.int x102), .val (.int x103), .val (.int x104), .val (.ref b117), .unset]) rfl ?_
        show Go p.tables e below _ T121 (mkF m 83 #[.val (.int p1), .val (.int p2), .val (.int p3), .val (.int p4), .val (.int n101), .val (.int x102), .val (.int x103), .val (.int x104), .val (.ref b117), .unset] [])
        refine g_iload B W121 at_83 rfl ?_
        show Go p.tables e below _ T121 (mkF m 85 #[.val (.int p1), .val (.int p2), .val (.int p3), .val (.int p4), .val (.int n101), .val (.int x102), .val (.int x103), .val (.int x104), .val (.ref b117), .unset] [(.int x102)])
        obtain ⟨T123, h123, v123, W123, Q123, st123⟩ := x_static B W121 [(.int x102)] (c_ok l Z a0 hw x102 h121) at_85 (tw hw 6 rfl) (tw hw 7 rfl) (tw hw 8 rfl) (tw hw 9 rfl) (by decide) (lenOf pd__C_Z rfl) #[.val (.int p1), .val (.int p2), .val (.int p3), .val (.int p4), .val (.int n101), .val (.int x102), .val (.int x103), .val (.int x104), .val (.ref b117), .unset] [] rfl 0 rfl (by decide) (by decide) (by decide) (by decide)
        obtain ⟨rfl, rfl⟩ := Q123
        refine st123 _ ?_
        show Go p.tables e below _ T123 (mkF m 88 #[.val (.int p1), .val (.int p2), .val (.int p3), .val (.int p4), .val (.int n101), .val (.int x102), .val (.int x103), .val (.int x104), .val (.ref b117), .unset] [(.int (bi (okc x102)))])
        by_cases hc124 : (okc x102) = true
        · skip
          refine g_if_n B W123 at_88 (XT.i0_eq_f (bi_t hc124)) ?_
          show Go p.tables e below _ T123 (mkF m 91 #[.val (.int p1), .val (.int p2), .val (.int p3), .val (.int p4), .val (.int n101), .val (.int x102), .val (.int x103), .val (.int x104), .val (.ref b117), .unset] [])
          refine g_iload B W123 at_91 rfl ?_
          show Go p.tables e below _ T123 (mkF m 93 #[.val (.int p1), .val (.int p2), .val (.int p3), .val (.int p4), .val (.int n101), .val (.int x102), .val (.int x103), .val (.int x104), .val (.ref b117), .unset] [(.int x103)])
          obtain ⟨T125, h125, v125, W125, Q125, st125⟩ := x_static B W123 [(.int x103)] (c_ok l Z a0 hw x103 h121) at_93 (tw hw 6 rfl) (tw hw 7 rfl) (tw hw 8 rfl) (tw hw 9 rfl) (by decide) (lenOf pd__C_Z rfl) #[.val (.int p1), .val (.int p2), .val (.int p3), .val (.int p4), .val (.int n101), .val (.int x102), .val (.int x103), .val (.int x104), .val (.ref b117), .unset] [] rfl 0 rfl (by decide) (by decide) (by decide) (by decide)
          obtain ⟨rfl, rfl⟩ := Q125
          refine st125 _ ?_
          show Go p.tables e below _ T125 (mkF m 96 #[.val (.int p1), .val (.int p2), .val (.int p3), .val (.int p4), .val (.int n101), .val (.int x102), .val (.int x103), .val (.int x104), .val (.ref b117), .unset] [(.int (bi (okc x103)))])
          refine g_diab (okc x103) (m := m) (ls := #[.val (.int p1), .val (.int p2), .val (.int p3), .val (.int p4), .val (.int n101), .val (.int x102), .val (.int x103), .val (.int x104), .val (.ref b117), .unset]) (st := []) (pc' := 104) (fun hd1 q => ?_) (fun hd1 q => ?_) ?_
          · refine g_if_n B W125 at_96 (XT.i0_eq_f (bi_t hd1)) ?_
            refine g_iconst B W125 at_99 (v := 1) (by decide) ?_
            exact g_goto B W125 at_100 (pc' := 104) (by decide) q
          · refine g_if_y B W125 at_96 (XT.i0_eq_t (bi_f hd1)) (pc' := 103) (by decide) ?_
            exact g_iconst B W125 at_103 (v := 0) (by decide) q
          show Go p.tables e below _ T125 (mkF m 104 #[.val (.int p1), .val (.int p2), .val (.int p3), .val (.int p4), .val (.int n101), .val (.int x102), .val (.int x103), .val (.int x104), .val (.ref b117), .unset] [(.int (bi (okc x103)))])
          refine g_istore B W125 at_104  (l' := #[.val (.int p1), .val (.int p2), .val (.int p3), .val (.int p4), .val (.int n101), .val (.int x102), .val (.int x103), .val (.int x104), .val (.ref b117), .val (.int (bi (okc x103)))]) rfl ?_
          show Go p.tables e below _ T125 (mkF m 106 #[.val (.int p1), .val (.int p2), .val (.int p3), .val (.int p4), .val (.int n101), .val (.int x102), .val (.int x103), .val (.int x104), .val (.ref b117), .val (.int (bi (okc x103)))] [])
          refine g_goto B W125 at_106 (pc' := 160) (by decide) ?_
          show Go p.tables e below _ T125 (mkF m 160 #[.val (.int p1), .val (.int p2), .val (.int p3), .val (.int p4), .val (.int n101), .val (.int x102), .val (.int x103), .val (.int x104), .val (.ref b117), .val (.int (bi (okc x103)))] [])
          refine g_aload B W125 at_160 rfl rfl ?_
          show Go p.tables e below _ T125 (mkF m 162 #[.val (.int p1), .val (.int p2), .val (.int p3), .val (.int p4), .val (.int n101), .val (.int x102), .val (.int x103), .val (.int x104), .val (.ref b117), .val (.int (bi (okc x103)))] [(.ref b117)])
          obtain ⟨T126, h126, v126, W126, Q126, st126⟩ := x_static B W125 [(.ref b117)] (c_up l Z a0 hw b117 cA117 [x102, x103] ka kc h121 A121 (by simp only [List.mem_cons, List.not_mem_nil, or_false]; rintro c (rfl | rfl) <;> assumption) (by simp) Sk Ak lk sk vk) at_162 (tw hw 2 rfl) (tw hw 3 rfl) (tw hw 4 rfl) (tw hw 5 rfl) (by decide) (lenOf pd___C_Z rfl) #[.val (.int p1), .val (.int p2), .val (.int p3), .val (.int p4), .val (.int n101), .val (.int x102), .val (.int x103), .val (.int x104), .val (.ref b117), .val (.int (bi (okc x103)))] [] rfl 0 rfl (by decide) (by decide) (by decide) (by decide)
          obtain ⟨rfl, rfl⟩ := Q126
          refine st126 _ ?_
          show Go p.tables e below _ T126 (mkF m 165 #[.val (.int p1), .val (.int p2), .val (.int p3), .val (.int p4), .val (.int n101), .val (.int x102), .val (.int x103), .val (.int x104), .val (.ref b117), .val (.int (bi (okc x103)))] [(.int (bi (List.all [x102, x103] okc)))])
          refine g_iload B W126 at_165 rfl ?_
          show Go p.tables e below _ T126 (mkF m 167 #[.val (.int p1), .val (.int p2), .val (.int p3), .val (.int p4), .val (.int n101), .val (.int x102), .val (.int x103), .val (.int x104), .val (.ref b117), .val (.int (bi (okc x103)))] [(.int (bi (okc x103))), (.int (bi (List.all [x102, x103] okc)))])
          refine g_diab (decide ((bi (List.all [x102, x103] okc)) = (bi (okc x103)))) (m := m) (ls := #[.val (.int p1), .val (.int p2), .val (.int p3), .val (.int p4), .val (.int n101), .val (.int x102), .val (.int x103), .val (.int x104), .val (.ref b117), .val (.int (bi (okc x103)))]) (st := []) (pc' := 175) (fun hd1 q => ?_) (fun hd1 q => ?_) ?_
          · refine g_icmp_n B W126 at_167 (XT.ii_ne_f (of_decide_eq_true hd1)) ?_
            refine g_iconst B W126 at_170 (v := 1) (by decide) ?_
            exact g_goto B W126 at_171 (pc' := 175) (by decide) q
          · refine g_icmp_y B W126 at_167 (XT.ii_ne_t (of_decide_eq_false hd1)) (pc' := 174) (by decide) ?_
            exact g_iconst B W126 at_174 (v := 0) (by decide) q
          show Go p.tables e below _ T126 (mkF m 175 #[.val (.int p1), .val (.int p2), .val (.int p3), .val (.int p4), .val (.int n101), .val (.int x102), .val (.int x103), .val (.int x104), .val (.ref b117), .val (.int (bi (okc x103)))] [(.int (bi (decide ((bi (List.all [x102, x103] okc)) = (bi (okc x103))))))])
          exact r_b B W126 at_175 (by decide) (by decide) (by show some (Value.int (bi (decide ((bi (List.all [x102, x103] okc)) = (bi (okc x103)))))) = some (.int 1); rw [show (decide ((bi (List.all [x102, x103] okc)) = (bi (okc x103)))) = true by simp [bi, hc105, hc109, hc116, hc124]]; rfl)
        · skip
          refine g_if_y B W123 at_88 (XT.i0_eq_t (bi_f (Bool.eq_false_iff.mpr hc124))) (pc' := 103) (by decide) ?_
          show Go p.tables e below _ T123 (mkF m 103 #[.val (.int p1), .val (.int p2), .val (.int p3), .val (.int p4), .val (.int n101), .val (.int x102), .val (.int x103), .val (.int x104), .val (.ref b117), .unset] [])
          refine g_iconst B W123 at_103 (v := 0) (by decide) ?_
          show Go p.tables e below _ T123 (mkF m 104 #[.val (.int p1), .val (.int p2), .val (.int p3), .val (.int p4), .val (.int n101), .val (.int x102), .val (.int x103), .val (.int x104), .val (.ref b117), .unset] [(.int 0)])
          refine g_istore B W123 at_104  (l' := #[.val (.int p1), .val (.int p2), .val (.int p3), .val (.int p4), .val (.int n101), .val (.int x102), .val (.int x103), .val (.int x104), .val (.ref b117), .val (.int 0)]) rfl ?_
          show Go p.tables e below _ T123 (mkF m 106 #[.val (.int p1), .val (.int p2), .val (.int p3), .val (.int p4), .val (.int n101), .val (.int x102), .val (.int x103), .val (.int x104), .val (.ref b117), .val (.int 0)] [])
          refine g_goto B W123 at_106 (pc' := 160) (by decide) ?_
          show Go p.tables e below _ T123 (mkF m 160 #[.val (.int p1), .val (.int p2), .val (.int p3), .val (.int p4), .val (.int n101), .val (.int x102), .val (.int x103), .val (.int x104), .val (.ref b117), .val (.int 0)] [])
          refine g_aload B W123 at_160 rfl rfl ?_
          show Go p.tables e below _ T123 (mkF m 162 #[.val (.int p1), .val (.int p2), .val (.int p3), .val (.int p4), .val (.int n101), .val (.int x102), .val (.int x103), .val (.int x104), .val (.ref b117), .val (.int 0)] [(.ref b117)])
          obtain ⟨T127, h127, v127, W127, Q127, st127⟩ := x_static B W123 [(.ref b117)] (c_up l Z a0 hw b117 cA117 [x102, x103] ka kc h121 A121 (by simp only [List.mem_cons, List.not_mem_nil, or_false]; rintro c (rfl | rfl) <;> assumption) (by simp) Sk Ak lk sk vk) at_162 (tw hw 2 rfl) (tw hw 3 rfl) (tw hw 4 rfl) (tw hw 5 rfl) (by decide) (lenOf pd___C_Z rfl) #[.val (.int p1), .val (.int p2), .val (.int p3), .val (.int p4), .val (.int n101), .val (.int x102), .val (.int x103), .val (.int x104), .val (.ref b117), .val (.int 0)] [] rfl 0 rfl (by decide) (by decide) (by decide) (by decide)
          obtain ⟨rfl, rfl⟩ := Q127
          refine st127 _ ?_
          show Go p.tables e below _ T127 (mkF m 165 #[.val (.int p1), .val (.int p2), .val (.int p3), .val (.int p4), .val (.int n101), .val (.int x102), .val (.int x103), .val (.int x104), .val (.ref b117), .val (.int 0)] [(.int (bi (List.all [x102, x103] okc)))])
          refine g_iload B W127 at_165 rfl ?_
          show Go p.tables e below _ T127 (mkF m 167 #[.val (.int p1), .val (.int p2), .val (.int p3), .val (.int p4), .val (.int n101), .val (.int x102), .val (.int x103), .val (.int x104), .val (.ref b117), .val (.int 0)] [(.int 0), (.int (bi (List.all [x102, x103] okc)))])
          refine g_diab (decide ((bi (List.all [x102, x103] okc)) = 0)) (m := m) (ls := #[.val (.int p1), .val (.int p2), .val (.int p3), .val (.int p4), .val (.int n101), .val (.int x102), .val (.int x103), .val (.int x104), .val (.ref b117), .val (.int 0)]) (st := []) (pc' := 175) (fun hd1 q => ?_) (fun hd1 q => ?_) ?_
          · refine g_icmp_n B W127 at_167 (XT.ii_ne_f (of_decide_eq_true hd1)) ?_
            refine g_iconst B W127 at_170 (v := 1) (by decide) ?_
            exact g_goto B W127 at_171 (pc' := 175) (by decide) q
          · refine g_icmp_y B W127 at_167 (XT.ii_ne_t (of_decide_eq_false hd1)) (pc' := 174) (by decide) ?_
            exact g_iconst B W127 at_174 (v := 0) (by decide) q
          show Go p.tables e below _ T127 (mkF m 175 #[.val (.int p1), .val (.int p2), .val (.int p3), .val (.int p4), .val (.int n101), .val (.int x102), .val (.int x103), .val (.int x104), .val (.ref b117), .val (.int 0)] [(.int (bi (decide ((bi (List.all [x102, x103] okc)) = 0))))])
          exact r_b B W127 at_175 (by decide) (by decide) (by show some (Value.int (bi (decide ((bi (List.all [x102, x103] okc)) = 0)))) = some (.int 1); rw [show (decide ((bi (List.all [x102, x103] okc)) = 0)) = true by simp [bi, hc105, hc109, hc116, hc124]]; rfl)
      · skip
        refine g_icmp_y B W0 at_65 (XT.ii_ne_t hc116) (pc' := 109) (by decide) ?_
        show Go p.tables e below _ T0 (mkF m 109 #[.val (.int p1), .val (.int p2), .val (.int p3), .val (.int p4), .val (.int n101), .val (.int x102), .val (.int x103), .val (.int x104), .unset, .unset] [])
        refine g_iconst B W0 at_109 (v := 3) (by decide) ?_
        show Go p.tables e below _ T0 (mkF m 110 #[.val (.int p1), .val (.int p2), .val (.int p3), .val (.int p4), .val (.int n101), .val (.int x102), .val (.int x103), .val (.int x104), .unset, .unset] [(.int 3)])
        obtain ⟨T128, h128, b128, cA128, gb128, W128, K128, A128, st128⟩ := x_newA B W0 (z := 3) 3 at_110 (tw hw 1 rfl) (by decide) (by decide) (by decide) (by decide) (by decide) #[.val (.int p1), .val (.int p2), .val (.int p3), .val (.int p4), .val (.int n101), .val (.int x102), .val (.int x103), .val (.int x104), .unset, .unset] []
        have l128 := A128.lt
        have z128 := W0.size
        refine st128 _ ?_
        have s129 := K128.1
        show Go p.tables e below _ T128 (mkF m 112 #[.val (.int p1), .val (.int p2), .val (.int p3), .val (.int p4), .val (.int n101), .val (.int x102), .val (.int x103), .val (.int x104), .unset, .unset] [(.ref b128)])
        refine g_dup B W128 at_112 rfl ?_
        show Go p.tables e below _ T128 (mkF m 113 #[.val (.int p1), .val (.int p2), .val (.int p3), .val (.int p4), .val (.int n101), .val (.int x102), .val (.int x103), .val (.int x104), .unset, .unset] [(.ref b128), (.ref b128)])
        refine g_iconst B W128 at_113 (v := 0) (by decide) ?_
        show Go p.tables e below _ T128 (mkF m 114 #[.val (.int p1), .val (.int p2), .val (.int p3), .val (.int p4), .val (.int n101), .val (.int x102), .val (.int x103), .val (.int x104), .unset, .unset] [(.int 0), (.ref b128), (.ref b128)])
        refine g_iload B W128 at_114 rfl ?_
        show Go p.tables e below _ T128 (mkF m 116 #[.val (.int p1), .val (.int p2), .val (.int p3), .val (.int p4), .val (.int n101), .val (.int x102), .val (.int x103), .val (.int x104), .unset, .unset] [(.int x102), (.int 0), (.ref b128), (.ref b128)])
        obtain ⟨T130, h130, W130, K130, A130, st130⟩ := x_castore B W128 (j := 0) (x := x102) at_116 A128 (by decide) (Nat.lt_of_lt_of_eq (show Int32.toNatClampNeg 0 < 3 by decide) rfl) (by omega) #[.val (.int p1), .val (.int p2), .val (.int p3), .val (.int p4), .val (.int n101), .val (.int x102), .val (.int x103), .val (.int x104), .unset, .unset] [(.ref b128)]
        refine st130 _ ?_
        rw [nx102] at A130
        have A130 : Arv Z h130 b128 cA128 .char 3 [(.int x102), (.int 0), (.int 0)] (.int 0) := A130
        have s131 := K130.1
        show Go p.tables e below _ T130 (mkF m 117 #[.val (.int p1), .val (.int p2), .val (.int p3), .val (.int p4), .val (.int n101), .val (.int x102), .val (.int x103), .val (.int x104), .unset, .unset] [(.ref b128)])
        refine g_dup B W130 at_117 rfl ?_
        show Go p.tables e below _ T130 (mkF m 118 #[.val (.int p1), .val (.int p2), .val (.int p3), .val (.int p4), .val (.int n101), .val (.int x102), .val (.int x103), .val (.int x104), .unset, .unset] [(.ref b128), (.ref b128)])
        refine g_iconst B W130 at_118 (v := 1) (by decide) ?_
        show Go p.tables e below _ T130 (mkF m 119 #[.val (.int p1), .val (.int p2), .val (.int p3), .val (.int p4), .val (.int n101), .val (.int x102), .val (.int x103), .val (.int x104), .unset, .unset] [(.int 1), (.ref b128), (.ref b128)])
        refine g_iload B W130 at_119 rfl ?_
        show Go p.tables e below _ T130 (mkF m 121 #[.val (.int p1), .val (.int p2), .val (.int p3), .val (.int p4), .val (.int n101), .val (.int x102), .val (.int x103), .val (.int x104), .unset, .unset] [(.int x103), (.int 1), (.ref b128), (.ref b128)])
        obtain ⟨T132, h132, W132, K132, A132, st132⟩ := x_castore B W130 (j := 1) (x := x103) at_121 A130 (by decide) (Nat.lt_of_lt_of_eq (show Int32.toNatClampNeg 1 < 3 by decide) rfl) (by omega) #[.val (.int p1), .val (.int p2), .val (.int p3), .val (.int p4), .val (.int n101), .val (.int x102), .val (.int x103), .val (.int x104), .unset, .unset] [(.ref b128)]
        refine st132 _ ?_
        rw [nx103] at A132
        have A132 : Arv Z h132 b128 cA128 .char 3 [(.int x102), (.int x103), (.int 0)] (.int 0) := A132
        have s133 := K132.1
        show Go p.tables e below _ T132 (mkF m 122 #[.val (.int p1), .val (.int p2), .val (.int p3), .val (.int p4), .val (.int n101), .val (.int x102), .val (.int x103), .val (.int x104), .unset, .unset] [(.ref b128)])
        refine g_dup B W132 at_122 rfl ?_
        show Go p.tables e below _ T132 (mkF m 123 #[.val (.int p1), .val (.int p2), .val (.int p3), .val (.int p4), .val (.int n101), .val (.int x102), .val (.int x103), .val (.int x104), .unset, .unset] [(.ref b128), (.ref b128)])
        refine g_iconst B W132 at_123 (v := 2) (by decide) ?_
        show Go p.tables e below _ T132 (mkF m 124 #[.val (.int p1), .val (.int p2), .val (.int p3), .val (.int p4), .val (.int n101), .val (.int x102), .val (.int x103), .val (.int x104), .unset, .unset] [(.int 2), (.ref b128), (.ref b128)])
        refine g_iload B W132 at_124 rfl ?_
        show Go p.tables e below _ T132 (mkF m 126 #[.val (.int p1), .val (.int p2), .val (.int p3), .val (.int p4), .val (.int n101), .val (.int x102), .val (.int x103), .val (.int x104), .unset, .unset] [(.int x104), (.int 2), (.ref b128), (.ref b128)])
        obtain ⟨T134, h134, W134, K134, A134, st134⟩ := x_castore B W132 (j := 2) (x := x104) at_126 A132 (by decide) (Nat.lt_of_lt_of_eq (show Int32.toNatClampNeg 2 < 3 by decide) rfl) (by omega) #[.val (.int p1), .val (.int p2), .val (.int p3), .val (.int p4), .val (.int n101), .val (.int x102), .val (.int x103), .val (.int x104), .unset, .unset] [(.ref b128)]
        refine st134 _ ?_
        rw [nx104] at A134
        have A134 : Arv Z h134 b128 cA128 .char 3 [(.int x102), (.int x103), (.int x104)] (.int 0) := A134
        have s135 := K134.1
        show Go p.tables e below _ T134 (mkF m 127 #[.val (.int p1), .val (.int p2), .val (.int p3), .val (.int p4), .val (.int n101), .val (.int x102), .val (.int x103), .val (.int x104), .unset, .unset] [(.ref b128)])
        refine g_astore B W134 at_127 rfl (l' := #[.val (.int p1), .val (.int p2), .val (.int p3), .val (.int p4), .val (.int n101), .val (.int x102), .val (.int x103), .val (.int x104), .val (.ref b128), .unset]) rfl ?_
        show Go p.tables e below _ T134 (mkF m 129 #[.val (.int p1), .val (.int p2), .val (.int p3), .val (.int p4), .val (.int n101), .val (.int x102), .val (.int x103), .val (.int x104), .val (.ref b128), .unset] [])
        refine g_iload B W134 at_129 rfl ?_
        show Go p.tables e below _ T134 (mkF m 131 #[.val (.int p1), .val (.int p2), .val (.int p3), .val (.int p4), .val (.int n101), .val (.int x102), .val (.int x103), .val (.int x104), .val (.ref b128), .unset] [(.int x102)])
        obtain ⟨T136, h136, v136, W136, Q136, st136⟩ := x_static B W134 [(.int x102)] (c_ok l Z a0 hw x102 h134) at_131 (tw hw 6 rfl) (tw hw 7 rfl) (tw hw 8 rfl) (tw hw 9 rfl) (by decide) (lenOf pd__C_Z rfl) #[.val (.int p1), .val (.int p2), .val (.int p3), .val (.int p4), .val (.int n101), .val (.int x102), .val (.int x103), .val (.int x104), .val (.ref b128), .unset] [] rfl 0 rfl (by decide) (by decide) (by decide) (by decide)
        obtain ⟨rfl, rfl⟩ := Q136
        refine st136 _ ?_
        show Go p.tables e below _ T136 (mkF m 134 #[.val (.int p1), .val (.int p2), .val (.int p3), .val (.int p4), .val (.int n101), .val (.int x102), .val (.int x103), .val (.int x104), .val (.ref b128), .unset] [(.int (bi (okc x102)))])
        by_cases hc137 : (okc x102) = true
        · skip
          refine g_if_n B W136 at_134 (XT.i0_eq_f (bi_t hc137)) ?_
          show Go p.tables e below _ T136 (mkF m 137 #[.val (.int p1), .val (.int p2), .val (.int p3), .val (.int p4), .val (.int n101), .val (.int x102), .val (.int x103), .val (.int x104), .val (.ref b128), .unset] [])
          refine g_iload B W136 at_137 rfl ?_
          show Go p.tables e below _ T136 (mkF m 139 #[.val (.int p1), .val (.int p2), .val (.int p3), .val (.int p4), .val (.int n101), .val (.int x102), .val (.int x103), .val (.int x104), .val (.ref b128), .unset] [(.int x103)])
          obtain ⟨T138, h138, v138, W138, Q138, st138⟩ := x_static B W136 [(.int x103)] (c_ok l Z a0 hw x103 h134) at_139 (tw hw 6 rfl) (tw hw 7 rfl) (tw hw 8 rfl) (tw hw 9 rfl) (by decide) (lenOf pd__C_Z rfl) #[.val (.int p1), .val (.int p2), .val (.int p3), .val (.int p4), .val (.int n101), .val (.int x102), .val (.int x103), .val (.int x104), .val (.ref b128), .unset] [] rfl 0 rfl (by decide) (by decide) (by decide) (by decide)
          obtain ⟨rfl, rfl⟩ := Q138
          refine st138 _ ?_
          show Go p.tables e below _ T138 (mkF m 142 #[.val (.int p1), .val (.int p2), .val (.int p3), .val (.int p4), .val (.int n101), .val (.int x102), .val (.int x103), .val (.int x104), .val (.ref b128), .unset] [(.int (bi (okc x103)))])
          by_cases hc139 : (okc x103) = true
          · skip
            refine g_if_n B W138 at_142 (XT.i0_eq_f (bi_t hc139)) ?_
            show Go p.tables e below _ T138 (mkF m 145 #[.val (.int p1), .val (.int p2), .val (.int p3), .val (.int p4), .val (.int n101), .val (.int x102), .val (.int x103), .val (.int x104), .val (.ref b128), .unset] [])
            refine g_iload B W138 at_145 rfl ?_
            show Go p.tables e below _ T138 (mkF m 147 #[.val (.int p1), .val (.int p2), .val (.int p3), .val (.int p4), .val (.int n101), .val (.int x102), .val (.int x103), .val (.int x104), .val (.ref b128), .unset] [(.int x104)])
            obtain ⟨T140, h140, v140, W140, Q140, st140⟩ := x_static B W138 [(.int x104)] (c_ok l Z a0 hw x104 h134) at_147 (tw hw 6 rfl) (tw hw 7 rfl) (tw hw 8 rfl) (tw hw 9 rfl) (by decide) (lenOf pd__C_Z rfl) #[.val (.int p1), .val (.int p2), .val (.int p3), .val (.int p4), .val (.int n101), .val (.int x102), .val (.int x103), .val (.int x104), .val (.ref b128), .unset] [] rfl 0 rfl (by decide) (by decide) (by decide) (by decide)
            obtain ⟨rfl, rfl⟩ := Q140
            refine st140 _ ?_
            show Go p.tables e below _ T140 (mkF m 150 #[.val (.int p1), .val (.int p2), .val (.int p3), .val (.int p4), .val (.int n101), .val (.int x102), .val (.int x103), .val (.int x104), .val (.ref b128), .unset] [(.int (bi (okc x104)))])
            refine g_diab (okc x104) (m := m) (ls := #[.val (.int p1), .val (.int p2), .val (.int p3), .val (.int p4), .val (.int n101), .val (.int x102), .val (.int x103), .val (.int x104), .val (.ref b128), .unset]) (st := []) (pc' := 158) (fun hd1 q => ?_) (fun hd1 q => ?_) ?_
            · refine g_if_n B W140 at_150 (XT.i0_eq_f (bi_t hd1)) ?_
              refine g_iconst B W140 at_153 (v := 1) (by decide) ?_
              exact g_goto B W140 at_154 (pc' := 158) (by decide) q
            · refine g_if_y B W140 at_150 (XT.i0_eq_t (bi_f hd1)) (pc' := 157) (by decide) ?_
              exact g_iconst B W140 at_157 (v := 0) (by decide) q
            show Go p.tables e below _ T140 (mkF m 158 #[.val (.int p1), .val (.int p2), .val (.int p3), .val (.int p4), .val (.int n101), .val (.int x102), .val (.int x103), .val (.int x104), .val (.ref b128), .unset] [(.int (bi (okc x104)))])
            refine g_istore B W140 at_158  (l' := #[.val (.int p1), .val (.int p2), .val (.int p3), .val (.int p4), .val (.int n101), .val (.int x102), .val (.int x103), .val (.int x104), .val (.ref b128), .val (.int (bi (okc x104)))]) rfl ?_
            show Go p.tables e below _ T140 (mkF m 160 #[.val (.int p1), .val (.int p2), .val (.int p3), .val (.int p4), .val (.int n101), .val (.int x102), .val (.int x103), .val (.int x104), .val (.ref b128), .val (.int (bi (okc x104)))] [])
            refine g_aload B W140 at_160 rfl rfl ?_
            show Go p.tables e below _ T140 (mkF m 162 #[.val (.int p1), .val (.int p2), .val (.int p3), .val (.int p4), .val (.int n101), .val (.int x102), .val (.int x103), .val (.int x104), .val (.ref b128), .val (.int (bi (okc x104)))] [(.ref b128)])
            obtain ⟨T141, h141, v141, W141, Q141, st141⟩ := x_static B W140 [(.ref b128)] (c_up l Z a0 hw b128 cA128 [x102, x103, x104] ka kc h134 A134 (by simp only [List.mem_cons, List.not_mem_nil, or_false]; rintro c (rfl | rfl | rfl) <;> assumption) (by simp) Sk Ak lk sk vk) at_162 (tw hw 2 rfl) (tw hw 3 rfl) (tw hw 4 rfl) (tw hw 5 rfl) (by decide) (lenOf pd___C_Z rfl) #[.val (.int p1), .val (.int p2), .val (.int p3), .val (.int p4), .val (.int n101), .val (.int x102), .val (.int x103), .val (.int x104), .val (.ref b128), .val (.int (bi (okc x104)))] [] rfl 0 rfl (by decide) (by decide) (by decide) (by decide)
            obtain ⟨rfl, rfl⟩ := Q141
            refine st141 _ ?_
            show Go p.tables e below _ T141 (mkF m 165 #[.val (.int p1), .val (.int p2), .val (.int p3), .val (.int p4), .val (.int n101), .val (.int x102), .val (.int x103), .val (.int x104), .val (.ref b128), .val (.int (bi (okc x104)))] [(.int (bi (List.all [x102, x103, x104] okc)))])
            refine g_iload B W141 at_165 rfl ?_
            show Go p.tables e below _ T141 (mkF m 167 #[.val (.int p1), .val (.int p2), .val (.int p3), .val (.int p4), .val (.int n101), .val (.int x102), .val (.int x103), .val (.int x104), .val (.ref b128), .val (.int (bi (okc x104)))] [(.int (bi (okc x104))), (.int (bi (List.all [x102, x103, x104] okc)))])
            refine g_diab (decide ((bi (List.all [x102, x103, x104] okc)) = (bi (okc x104)))) (m := m) (ls := #[.val (.int p1), .val (.int p2), .val (.int p3), .val (.int p4), .val (.int n101), .val (.int x102), .val (.int x103), .val (.int x104), .val (.ref b128), .val (.int (bi (okc x104)))]) (st := []) (pc' := 175) (fun hd1 q => ?_) (fun hd1 q => ?_) ?_
            · refine g_icmp_n B W141 at_167 (XT.ii_ne_f (of_decide_eq_true hd1)) ?_
              refine g_iconst B W141 at_170 (v := 1) (by decide) ?_
              exact g_goto B W141 at_171 (pc' := 175) (by decide) q
            · refine g_icmp_y B W141 at_167 (XT.ii_ne_t (of_decide_eq_false hd1)) (pc' := 174) (by decide) ?_
              exact g_iconst B W141 at_174 (v := 0) (by decide) q
            show Go p.tables e below _ T141 (mkF m 175 #[.val (.int p1), .val (.int p2), .val (.int p3), .val (.int p4), .val (.int n101), .val (.int x102), .val (.int x103), .val (.int x104), .val (.ref b128), .val (.int (bi (okc x104)))] [(.int (bi (decide ((bi (List.all [x102, x103, x104] okc)) = (bi (okc x104))))))])
            exact r_b B W141 at_175 (by decide) (by decide) (by show some (Value.int (bi (decide ((bi (List.all [x102, x103, x104] okc)) = (bi (okc x104)))))) = some (.int 1); rw [show (decide ((bi (List.all [x102, x103, x104] okc)) = (bi (okc x104)))) = true by simp [bi, hc105, hc109, hc116, hc137, hc139]]; rfl)
          · skip
            refine g_if_y B W138 at_142 (XT.i0_eq_t (bi_f (Bool.eq_false_iff.mpr hc139))) (pc' := 157) (by decide) ?_
            show Go p.tables e below _ T138 (mkF m 157 #[.val (.int p1), .val (.int p2), .val (.int p3), .val (.int p4), .val (.int n101), .val (.int x102), .val (.int x103), .val (.int x104), .val (.ref b128), .unset] [])
            refine g_iconst B W138 at_157 (v := 0) (by decide) ?_
            show Go p.tables e below _ T138 (mkF m 158 #[.val (.int p1), .val (.int p2), .val (.int p3), .val (.int p4), .val (.int n101), .val (.int x102), .val (.int x103), .val (.int x104), .val (.ref b128), .unset] [(.int 0)])
            refine g_istore B W138 at_158  (l' := #[.val (.int p1), .val (.int p2), .val (.int p3), .val (.int p4), .val (.int n101), .val (.int x102), .val (.int x103), .val (.int x104), .val (.ref b128), .val (.int 0)]) rfl ?_
            show Go p.tables e below _ T138 (mkF m 160 #[.val (.int p1), .val (.int p2), .val (.int p3), .val (.int p4), .val (.int n101), .val (.int x102), .val (.int x103), .val (.int x104), .val (.ref b128), .val (.int 0)] [])
            refine g_aload B W138 at_160 rfl rfl ?_
            show Go p.tables e below _ T138 (mkF m 162 #[.val (.int p1), .val (.int p2), .val (.int p3), .val (.int p4), .val (.int n101), .val (.int x102), .val (.int x103), .val (.int x104), .val (.ref b128), .val (.int 0)] [(.ref b128)])
            obtain ⟨T142, h142, v142, W142, Q142, st142⟩ := x_static B W138 [(.ref b128)] (c_up l Z a0 hw b128 cA128 [x102, x103, x104] ka kc h134 A134 (by simp only [List.mem_cons, List.not_mem_nil, or_false]; rintro c (rfl | rfl | rfl) <;> assumption) (by simp) Sk Ak lk sk vk) at_162 (tw hw 2 rfl) (tw hw 3 rfl) (tw hw 4 rfl) (tw hw 5 rfl) (by decide) (lenOf pd___C_Z rfl) #[.val (.int p1), .val (.int p2), .val (.int p3), .val (.int p4), .val (.int n101), .val (.int x102), .val (.int x103), .val (.int x104), .val (.ref b128), .val (.int 0)] [] rfl 0 rfl (by decide) (by decide) (by decide) (by decide)
            obtain ⟨rfl, rfl⟩ := Q142
            refine st142 _ ?_
            show Go p.tables e below _ T142 (mkF m 165 #[.val (.int p1), .val (.int p2), .val (.int p3), .val (.int p4), .val (.int n101), .val (.int x102), .val (.int x103), .val (.int x104), .val (.ref b128), .val (.int 0)] [(.int (bi (List.all [x102, x103, x104] okc)))])
            refine g_iload B W142 at_165 rfl ?_
            show Go p.tables e below _ T142 (mkF m 167 #[.val (.int p1), .val (.int p2), .val (.int p3), .val (.int p4), .val (.int n101), .val (.int x102), .val (.int x103), .val (.int x104), .val (.ref b128), .val (.int 0)] [(.int 0), (.int (bi (List.all [x102, x103, x104] okc)))])
            refine g_diab (decide ((bi (List.all [x102, x103, x104] okc)) = 0)) (m := m) (ls := #[.val (.int p1), .val (.int p2), .val (.int p3), .val (.int p4), .val (.int n101), .val (.int x102), .val (.int x103), .val (.int x104), .val (.ref b128), .val (.int 0)]) (st := []) (pc' := 175) (fun hd1 q => ?_) (fun hd1 q => ?_) ?_
            · refine g_icmp_n B W142 at_167 (XT.ii_ne_f (of_decide_eq_true hd1)) ?_
              refine g_iconst B W142 at_170 (v := 1) (by decide) ?_
              exact g_goto B W142 at_171 (pc' := 175) (by decide) q
            · refine g_icmp_y B W142 at_167 (XT.ii_ne_t (of_decide_eq_false hd1)) (pc' := 174) (by decide) ?_
              exact g_iconst B W142 at_174 (v := 0) (by decide) q
            show Go p.tables e below _ T142 (mkF m 175 #[.val (.int p1), .val (.int p2), .val (.int p3), .val (.int p4), .val (.int n101), .val (.int x102), .val (.int x103), .val (.int x104), .val (.ref b128), .val (.int 0)] [(.int (bi (decide ((bi (List.all [x102, x103, x104] okc)) = 0))))])
            exact r_b B W142 at_175 (by decide) (by decide) (by show some (Value.int (bi (decide ((bi (List.all [x102, x103, x104] okc)) = 0)))) = some (.int 1); rw [show (decide ((bi (List.all [x102, x103, x104] okc)) = 0)) = true by simp [bi, hc105, hc109, hc116, hc137, hc139]]; rfl)
        · skip
          refine g_if_y B W136 at_134 (XT.i0_eq_t (bi_f (Bool.eq_false_iff.mpr hc137))) (pc' := 157) (by decide) ?_
          show Go p.tables e below _ T136 (mkF m 157 #[.val (.int p1), .val (.int p2), .val (.int p3), .val (.int p4), .val (.int n101), .val (.int x102), .val (.int x103), .val (.int x104), .val (.ref b128), .unset] [])
          refine g_iconst B W136 at_157 (v := 0) (by decide) ?_
          show Go p.tables e below _ T136 (mkF m 158 #[.val (.int p1), .val (.int p2), .val (.int p3), .val (.int p4), .val (.int n101), .val (.int x102), .val (.int x103), .val (.int x104), .val (.ref b128), .unset] [(.int 0)])
          refine g_istore B W136 at_158  (l' := #[.val (.int p1), .val (.int p2), .val (.int p3), .val (.int p4), .val (.int n101), .val (.int x102), .val (.int x103), .val (.int x104), .val (.ref b128), .val (.int 0)]) rfl ?_
          show Go p.tables e below _ T136 (mkF m 160 #[.val (.int p1), .val (.int p2), .val (.int p3), .val (.int p4), .val (.int n101), .val (.int x102), .val (.int x103), .val (.int x104), .val (.ref b128), .val (.int 0)] [])
          refine g_aload B W136 at_160 rfl rfl ?_
          show Go p.tables e below _ T136 (mkF m 162 #[.val (.int p1), .val (.int p2), .val (.int p3), .val (.int p4), .val (.int n101), .val (.int x102), .val (.int x103), .val (.int x104), .val (.ref b128), .val (.int 0)] [(.ref b128)])
          obtain ⟨T143, h143, v143, W143, Q143, st143⟩ := x_static B W136 [(.ref b128)] (c_up l Z a0 hw b128 cA128 [x102, x103, x104] ka kc h134 A134 (by simp only [List.mem_cons, List.not_mem_nil, or_false]; rintro c (rfl | rfl | rfl) <;> assumption) (by simp) Sk Ak lk sk vk) at_162 (tw hw 2 rfl) (tw hw 3 rfl) (tw hw 4 rfl) (tw hw 5 rfl) (by decide) (lenOf pd___C_Z rfl) #[.val (.int p1), .val (.int p2), .val (.int p3), .val (.int p4), .val (.int n101), .val (.int x102), .val (.int x103), .val (.int x104), .val (.ref b128), .val (.int 0)] [] rfl 0 rfl (by decide) (by decide) (by decide) (by decide)
          obtain ⟨rfl, rfl⟩ := Q143
          refine st143 _ ?_
          show Go p.tables e below _ T143 (mkF m 165 #[.val (.int p1), .val (.int p2), .val (.int p3), .val (.int p4), .val (.int n101), .val (.int x102), .val (.int x103), .val (.int x104), .val (.ref b128), .val (.int 0)] [(.int (bi (List.all [x102, x103, x104] okc)))])
          refine g_iload B W143 at_165 rfl ?_
          show Go p.tables e below _ T143 (mkF m 167 #[.val (.int p1), .val (.int p2), .val (.int p3), .val (.int p4), .val (.int n101), .val (.int x102), .val (.int x103), .val (.int x104), .val (.ref b128), .val (.int 0)] [(.int 0), (.int (bi (List.all [x102, x103, x104] okc)))])
          refine g_diab (decide ((bi (List.all [x102, x103, x104] okc)) = 0)) (m := m) (ls := #[.val (.int p1), .val (.int p2), .val (.int p3), .val (.int p4), .val (.int n101), .val (.int x102), .val (.int x103), .val (.int x104), .val (.ref b128), .val (.int 0)]) (st := []) (pc' := 175) (fun hd1 q => ?_) (fun hd1 q => ?_) ?_
          · refine g_icmp_n B W143 at_167 (XT.ii_ne_f (of_decide_eq_true hd1)) ?_
            refine g_iconst B W143 at_170 (v := 1) (by decide) ?_
            exact g_goto B W143 at_171 (pc' := 175) (by decide) q
          · refine g_icmp_y B W143 at_167 (XT.ii_ne_t (of_decide_eq_false hd1)) (pc' := 174) (by decide) ?_
            exact g_iconst B W143 at_174 (v := 0) (by decide) q
          show Go p.tables e below _ T143 (mkF m 175 #[.val (.int p1), .val (.int p2), .val (.int p3), .val (.int p4), .val (.int n101), .val (.int x102), .val (.int x103), .val (.int x104), .val (.ref b128), .val (.int 0)] [(.int (bi (decide ((bi (List.all [x102, x103, x104] okc)) = 0))))])
          exact r_b B W143 at_175 (by decide) (by decide) (by show some (Value.int (bi (decide ((bi (List.all [x102, x103, x104] okc)) = 0)))) = some (.int 1); rw [show (decide ((bi (List.all [x102, x103, x104] okc)) = 0)) = true by simp [bi, hc105, hc109, hc116, hc137]]; rfl)
theorem own_len {args : Array Value} {s : State} {t : Term} {a : Addr} {c : Cell} {ty : FieldType} {n : Int32} (A : Arr s s.heap a c ty) (et : t.eval args s none [] s = some (.ref a)) (h : (Jvm.Cond.eq (Term.length t) (Term.int n)).value args s none s [] = some true) : c.slots.size < 2 ^ 31 ∧ c.slots.size.toInt32 = n := by
  have e := eqv_i (Term.int_eval n) h
  by_cases q : c.slots.size < 2 ^ 31
  · rw [len_f et (A.fin (Vm.Alike.refl _)) q] at e
    exact ⟨q, by simpa using e⟩
  · simp [Term.eval, et, A.fin (Vm.Alike.refl _), q] at e
theorem own_or {args : Array Value} {s : State} {idx : List Nat} {G X : Jvm.Cond} {P : Prop} [Decidable P] (hG : G.value args s none s idx = some (decide P)) (h : (Jvm.Cond.or G X).value args s none s idx = some true) (hp : ¬ P) : X.value args s none s idx = some true := by
  simp only [Cond.value, hG, decide_eq_false hp] at h
  revert h
  cases X.value args s none s idx with
  | none => intro h; cases h
  | some b => intro h; cases b <;> simp_all
theorem own_kept (j : Int32) : kept j = if j < 48 then 0 else if j < 58 then j else if j < 65 then 0 else if j < 91 then j else if j < 97 then 0 else if j < 123 then j - 32 else 0 := by
  unfold kept
  simp only [Int32.lt_iff_toInt_lt, Int32.reduceToInt]
  have r := rng32 j
  by_cases h1 : j.toInt < 48
  · rw [if_neg (by omega), if_neg (by omega), if_pos h1]
  · by_cases h2 : j.toInt < 58
    · rw [if_pos (by omega), if_neg h1, if_pos h2]
    · by_cases h3 : j.toInt < 65
      · rw [if_neg (by omega), if_neg (by omega), if_neg h1, if_neg h2, if_pos h3]
      · by_cases h4 : j.toInt < 91
        · rw [if_pos (by omega), if_neg h1, if_neg h2, if_neg h3, if_pos h4]
        · by_cases h5 : j.toInt < 97
          · rw [if_neg (by omega), if_neg (by omega), if_neg h1, if_neg h2, if_neg h3, if_neg h4, if_pos h5]
          · by_cases h6 : j.toInt < 123
            · rw [if_neg (by omega), if_pos (by omega), if_neg h1, if_neg h2, if_neg h3, if_neg h4, if_neg h5, if_pos h6]
            · rw [if_neg (by omega), if_neg (by omega), if_neg h1, if_neg h2, if_neg h3, if_neg h4, if_neg h5, if_neg h6]
set_option maxRecDepth 65536 in
set_option maxHeartbeats 40000000 in
theorem comes_1 {Post : Tables → Env → Array Value → State → Outcome → State → Prop} (hpost : ∀ tb e args s v u, (limb_1_1.after args s (.returned v) u = true ∧ limb_1_2.after args s (.returned v) u = true ∧ True) → FrameEnd s (.returned v) u (Jvm.fieldLocs frame_1_writes args s ++ Jvm.arrayLocs frame_1_arrays args s ++ Jvm.staticLocs frame_1_statics s) 16 128 → Post tb e args s (.returned v) u) :
    ArmFor flags0 classFile x code maxLocals ret World_1 tables_1 room_1 Calls_1 rest_1 Pre_1 Post := by
  intro l hfl _ _ p e ha hc hk s m args below hf hA hF happ hP
  obtain ⟨hcalls, hrest, hpre⟩ := hP
  obtain ⟨-, -, -, hnamed, -, -, -, hat⟩ := (Spec.applies_iff hf).mp happ
  obtain ⟨hg, hn⟩ := and_e (Cond.before_iff.mp (show (Jvm.Cond.and given_1 narrow_1).before args s = true from hpre))
  obtain ⟨hcnt, hgs⟩ := and_e hg
  obtain ⟨ha0, hr0⟩ := and_e hgs
  obtain ⟨ha1, hr1⟩ := and_e hr0
  obtain ⟨ha2, hr2⟩ := and_e hr1
  have ha3 := hr2
  obtain ⟨w0, w1, w2, w3, rfl⟩ : ∃ w0 w1 w2 w3 : Value, args = #[w0, w1, w2, w3] := by
    have hs : args.size = 4 := by simpa [Cond.value, given_1] using hcnt
    obtain ⟨L⟩ := args
    match L, hs with
    | [w0, w1, w2, w3], _ => exact ⟨w0, w1, w2, w3, rfl⟩
  have hw := fun d (hd : d ∈ tables_1) => atoms_spec (ws := Jvm.Cond.code x code maxLocals ret :: tables_1) hat d (List.mem_cons_of_mem _ hd)
  have hfit : Fit s := fun {y c} hc i hi => by
    obtain ⟨ha, rfl⟩ := Array.getElem?_eq_some_iff.mp hc
    have q := List.all_eq_true.mp ((Array.all_eq_true_iff_forall_mem.mp hF) _ (Array.getElem_mem ha)) i (List.mem_range.mpr hi)
    simpa [Array.getElem?_eq_getElem hi] using q
  obtain ⟨i0, ei0⟩ := is_v ha0
  obtain rfl : w0 = (.int i0) := Option.some.inj ei0
  obtain ⟨i1, ei1⟩ := is_v ha1
  obtain rfl : w1 = (.int i1) := Option.some.inj ei1
  obtain ⟨i2, ei2⟩ := is_v ha2
  obtain rfl : w2 = (.int i2) := Option.some.inj ei2
  obtain ⟨i3, ei3⟩ := is_v ha3
  obtain rfl : w3 = (.int i3) := Option.some.inj ei3
  obtain ⟨hk1, hn1⟩ := and_e hn
  obtain ⟨hk2, hn2⟩ := and_e hn1
  obtain ⟨hk3, hn3⟩ := and_e hn2
  obtain ⟨hk4, hn4⟩ := and_e hn3
  obtain ⟨hk5, hn5⟩ := and_e hn4
  obtain ⟨hk6, hn6⟩ := and_e hn5
  obtain ⟨hk7, hn7⟩ := and_e hn6
  obtain ⟨hk8, hk9⟩ := and_e hn7
  obtain ⟨ka, eka⟩ := arr_v hk1
  obtain ⟨kc, Ak⟩ := Arr.start eka hk1
  obtain ⟨lq, lk⟩ := own_len Ak eka hk2
  have sk : kc.slots.size = 128 := by have q := len_toInt lq; rw [lk] at q; have q2 : (128 : Int32).toInt = 128 := rfl; rw [q2] at q; omega
  have Sk : Sta s s.heap "com/example/stratify/stratify/EnvironmentNames" "KEPT" "[C" (.ref ka) := Sta.start eka (Or.inr ⟨hw _ (List.mem_of_getElem? (i := 4) rfl), hw _ (List.mem_of_getElem? (i := 11) rfl)⟩)
  have vk : ∀ j : Int32, ¬ j < 0 → j < 128 → kc.slots[j.toNatClampNeg]? = some (.int (kept j)) := by
    intro j j0 j1
    have hin := inb_of (z := 128) sk ⟨j0, j1⟩
    have hix : j.toNatClampNeg < kc.slots.size := Nat.lt_of_not_le fun q => hin (Or.inr q)
    have jx := idx_at (args := #[Value.int i0, .int i1, .int i2, .int i3]) (s := s) (first := s) (o := none) j0
    have al := fun {c : Jvm.Cond} (h : (Jvm.Cond.all (Jvm.Term.static "com/example/stratify/stratify/EnvironmentNames" "KEPT" "[C") c).value #[Value.int i0, .int i1, .int i2, .int i3] s none s [] = some true) => Cond.all_elim eka (Ak.fin (Vm.Alike.refl _)) h _ hix
    have el : (Jvm.Term.elem (Jvm.Term.static "com/example/stratify/stratify/EnvironmentNames" "KEPT" "[C") (Jvm.Term.index 0)).eval #[Value.int i0, .int i1, .int i2, .int i3] s none [j.toNatClampNeg] s = kc.slots[j.toNatClampNeg]? := elem_f eka jx (Ak.fin (Vm.Alike.refl _)) j0
    rw [← el]
    have ex : kept j = if j < 48 then 0 else if j < 58 then j else if j < 65 then 0 else if j < 91 then j else if j < 97 then 0 else if j < 123 then j - 32 else 0 := own_kept j
    rw [ex]
    have LT := fun (n : Int32) => Cond.lt_ints jx (Term.int_eval n (args := #[Value.int i0, .int i1, .int i2, .int i3]) (first := s) (o := none) (idx := [j.toNatClampNeg]) (s := s))
    have LE := fun (n : Int32) => Cond.le_ints (Term.int_eval n (args := #[Value.int i0, .int i1, .int i2, .int i3]) (first := s) (o := none) (idx := [j.toNatClampNeg]) (s := s)) jx
    split
    · rename_i q; exact eqv_i (Term.int_eval 0) (own_or (LE 48) (al hk3) (Int32.not_le.mpr q))
    rename_i q1; split
    · rename_i q; exact eqv_i jx (own_or (LE 58) (own_or (LT 48) (al hk4) q1) (Int32.not_le.mpr q))
    rename_i q2; split
    · rename_i q; exact eqv_i (Term.int_eval 0) (own_or (LE 65) (own_or (LT 58) (al hk5) q2) (Int32.not_le.mpr q))
    rename_i q3; split
    · rename_i q; exact eqv_i jx (own_or (LE 91) (own_or (LT 65) (al hk6) q3) (Int32.not_le.mpr q))
    rename_i q4; split
    · rename_i q; exact eqv_i (Term.int_eval 0) (own_or (LE 97) (own_or (LT 91) (al hk7) q4) (Int32.not_le.mpr q))
    rename_i q5; split
    · rename_i q; exact eqv_i (by simp [Term.eval, (back32 j0).1]) (own_or (LE 123) (own_or (LT 97) (al hk8) q5) (Int32.not_le.mpr q))
    · rename_i q; exact eqv_i (Term.int_eval 0) (own_or (LT 123) (al hk9) q)
  obtain ⟨n, o, h1, h2, h3, v, L, rfl, ⟨hQ, N, -⟩, hq⟩ := c_law l s _ hw tables_1 i0 i1 i2 i3 ka kc s.heap Sk Ak lk sk vk (Old.start s) p e ha hc hk s m _ below hf ((Spec.applies_iff_loose hf).mp happ).1 ⟨rfl, State.Warmed39.refl s, rfl⟩ trivial
  obtain rfl := hQ
  exact ⟨n, _, h1, h2, h3, hpost _ _ _ _ _ _ ⟨Cond.after_iff.mpr rfl, Cond.after_iff.mpr (eq_i res_at (Term.int_eval (1)) rfl), trivial⟩ ⟨hq.1, hq.2.1, (hq.2.2.sift fun y hy => Or.inr (N y hy)).mono (by decide) (by decide)⟩⟩
theorem main_1_1 : Claimed_1_1 := comes_1 fun _ _ _ _ _ _ h hF => ⟨h.1, hF⟩
theorem main_1_2 : Claimed_1_2 := comes_1 fun _ _ _ _ _ _ h hF => ⟨h.2.1, hF⟩
end Jvm.Pilot.@@N@@
namespace Jvm.Pilot.@@N@@
open Jvm Jvm.ClassFile Sem Op Lib Jvm.Free Jvm.Stand Jvm.Pilot.@@N@@.Jvm.D
/-! MADE BY PROGRAM (witnessworld.py) out of the Statement's table words and the real class files: 11 classes; the members and pool entries that the words name. The judged class is class 1, her method 1. -/
namespace start1
open Jvm.ClassFile
def u (s : String) : CpInfo := .utf8 (stringToUtf16 s)
/-- a pool by its gaps: so many unusable entries, then the entry; so many at the end -/
def gap : Nat → List CpInfo → List CpInfo
  | 0, r => r
  | n + 1, r => .unusable :: gap n r
def poolList (es : List (Nat × CpInfo)) (last : Nat) : List CpInfo := es.foldr (fun e r => gap e.1 (e.2 :: r)) (gap last [])
def pool (es : List (Nat × CpInfo)) (last : Nat) : Array CpInfo := ⟨poolList es last⟩
def fileOf (pool : Array CpInfo) (this : Nat) (attrs : Array Attribute := #[]) (ms : Array MethodInfo := #[]) (fl : Nat := 33) (sup : Nat := 0) (ifs : Array Nat := #[]) (fds : Array FieldInfo := #[]) : ClassFile where
  minorVersion := 0
  majorVersion := 65
  constantPool := pool
  accessFlags := fl
  thisClass := this
  superClass := sup
  interfaces := ifs
  fields := fds
  methods := ms
  attributes := attrs
def plain (name : String) (sup : Option ClassId) : Class where
  name := name
  kind := .ordinary
  loader := none
  accessFlags := 33
  super := sup
  interfaces := #[]
  cf := none
  fields := #[]
  methods := #[]
  instanceTypes := #[]
  staticTypes := #[]
  resolved := #[]
  callSites := []
  init := .initialized
  statics := none
  mirror := none

def pool0 : Array CpInfo := pool [(5, u "<init>"), (0, u "()V"), (1, .class_ 10), (1, u "java/lang/Object")] 113

def k0m0 : Method := { name := "<init>", desc := "()V", sig := { parameters := [], returnType := none }, accessFlags := 1, code := none }
/-- java/lang/Object -/
def k0 : Class := { plain "java/lang/Object" none with
  accessFlags := 33
  interfaces := #[]
  cf := some (fileOf pool0 8 #[] #[{ accessFlags := 1, nameIndex := 5, descriptorIndex := 6, attributes := #[] }] 33 0 #[] #[])
  fields := #[]
  methods := #[k0m0]
  instanceTypes := #[]
  staticTypes := #[]
  resolved := Array.replicate 124 none
  statics := none }

def pool1 : Array CpInfo := pool [(2, .class_ 4), (1, u "java/lang/Object"), (0, u "<init>"), (0, u "()V"), (0, .integer 2147483647), (0, .methodref 9 10), (0, .class_ 11), (0, .nameAndType 12 13), (0, u "com/example/stratify/stratify/EnvironmentNamesIsUpperCasePinLaw"), (0, u "ok"), (0, u "(C)Z"), (0, .methodref 15 16), (0, .class_ 17), (0, .nameAndType 18 19), (0, u "com/example/stratify/stratify/EnvironmentNames"), (0, u "isUpperCase"), (0, u "([C)Z"), (2, u "law"), (0, u "(IIII)Z")] 5

def k1m0 : Method := { name := "<init>", desc := "()V", sig := { parameters := [], returnType := none }, accessFlags := 1, code := none }
def k1c1 : Code := { maxStack := 4, maxLocals := 10, code := code, exceptionTable := #[], attributes := #[] }
def k1m1 : Method := { name := "law", desc := "(IIII)Z", sig := { parameters := [.int, .int, .int, .int], returnType := some .boolean }, accessFlags := 9, code := some k1c1 }
def k1c2 : Code := { maxStack := 2, maxLocals := 1, code := method_3_code, exceptionTable := #[], attributes := #[] }
def k1m2 : Method := { name := "ok", desc := "(C)Z", sig := { parameters := [.char], returnType := some .boolean }, accessFlags := 10, code := some k1c2 }
/-- com/example/stratify/stratify/EnvironmentNamesIsUpperCasePinLaw -/
def k1 : Class := { plain "com/example/stratify/stratify/EnvironmentNamesIsUpperCasePinLaw" (some 0) with
  accessFlags := 49
  interfaces := #[]
  cf := some (fileOf pool1 9 #[] #[{ accessFlags := 1, nameIndex := 5, descriptorIndex := 6, attributes := #[] }, { accessFlags := 9, nameIndex := 22, descriptorIndex := 23, attributes := #[] }, { accessFlags := 10, nameIndex := 12, descriptorIndex := 13, attributes := #[] }] 49 2 #[] #[])
  fields := #[]
  methods := #[k1m0, k1m1, k1m2]
  instanceTypes := #[]
  staticTypes := #[]
  resolved := Array.replicate 29 none
  statics := none }

def pool2 : Array CpInfo := pool [(2, .class_ 4), (1, u "java/lang/Object"), (0, u "<init>"), (0, u "()V"), (8, .class_ 16), (0, u "com/example/stratify/stratify/EnvironmentNames"), (59, .fieldref 15 77), (0, .nameAndType 78 79), (0, u "KEPT"), (0, u "[C"), (6, u "isUpperCase"), (0, u "([C)Z"), (52, u "RULES"), (0, u "I"), (2, u "UPPER_CASE_RULE")] 37

def k2m0 : Method := { name := "<init>", desc := "()V", sig := { parameters := [], returnType := none }, accessFlags := 2, code := none }
def k2c1 : Code := { maxStack := 3, maxLocals := 6, code := prog_7_method_7_code, exceptionTable := #[], attributes := #[] }
def k2m1 : Method := { name := "isUpperCase", desc := "([C)Z", sig := { parameters := [(.array .char)], returnType := some .boolean }, accessFlags := 8, code := some k2c1 }
/-- com/example/stratify/stratify/EnvironmentNames -/
def k2 : Class := { plain "com/example/stratify/stratify/EnvironmentNames" (some 0) with
  accessFlags := 48
  interfaces := #[]
  cf := some (fileOf pool2 15 #[] #[{ accessFlags := 2, nameIndex := 5, descriptorIndex := 6, attributes := #[] }, { accessFlags := 8, nameIndex := 86, descriptorIndex := 87, attributes := #[] }] 48 2 #[] #[{ accessFlags := 26, nameIndex := 140, descriptorIndex := 141, attributes := #[] }, { accessFlags := 26, nameIndex := 144, descriptorIndex := 141, attributes := #[] }, { accessFlags := 26, nameIndex := 78, descriptorIndex := 79, attributes := #[] }])
  fields := #[{ name := "RULES", type := .int, accessFlags := 26, slot := 0, constantValue := 0 }, { name := "UPPER_CASE_RULE", type := .int, accessFlags := 26, slot := 1, constantValue := 0 }, { name := "KEPT", type := (.array .char), accessFlags := 26, slot := 2, constantValue := 0 }]
  methods := #[k2m0, k2m1]
  instanceTypes := #[]
  staticTypes := #[.int, .int, (.array .char)]
  resolved := Array.replicate 182 none
  statics := some 0 }

def pool3 : Array CpInfo := pool [(1, u "java/lang/Cloneable"), (0, .class_ 1), (0, u "java/lang/Object"), (0, .class_ 3)] 3

/-- java/lang/Cloneable -/
def k3 : Class := { plain "java/lang/Cloneable" (some 0) with
  accessFlags := 1537
  interfaces := #[]
  cf := some (fileOf pool3 2 #[] #[] 1537 4 #[] #[])
  fields := #[]
  methods := #[]
  instanceTypes := #[]
  staticTypes := #[]
  resolved := Array.replicate 8 none
  statics := none }

def pool4 : Array CpInfo := pool [(1, u "java/io/Serializable"), (0, .class_ 1), (0, u "java/lang/Object"), (0, .class_ 3)] 3

/-- java/io/Serializable -/
def k4 : Class := { plain "java/io/Serializable" (some 0) with
  accessFlags := 1537
  interfaces := #[]
  cf := some (fileOf pool4 2 #[] #[] 1537 4 #[] #[])
  fields := #[]
  methods := #[]
  instanceTypes := #[]
  staticTypes := #[]
  resolved := Array.replicate 8 none
  statics := none }

/-- the primitive byte -/
def k5 : Class := { plain "byte" none with kind := .primitive 'B', accessFlags := 0x411 }
/-- [B -/
def k6 : Class := { plain "[B" (some 0) with kind := .array 5 .byte, interfaces := #[3, 4], accessFlags := 1041 }

/-- the primitive char -/
def k7 : Class := { plain "char" none with kind := .primitive 'C', accessFlags := 0x411 }
/-- [C -/
def k8 : Class := { plain "[C" (some 0) with kind := .array 7 .char, interfaces := #[3, 4], accessFlags := 1041 }

/-- the primitive int -/
def k9 : Class := { plain "int" none with kind := .primitive 'I', accessFlags := 0x411 }
/-- [I -/
def k10 : Class := { plain "[I" (some 0) with kind := .array 9 .int, interfaces := #[3, 4], accessFlags := 1041 }

def heap : Heap := #[{ cls := 2, slots := #[.int 0, .int 0, .ref 1], vm := .statics 2 },
  { cls := 8, slots := #[.int 0, .int 0, .int 0, .int 0, .int 0, .int 0, .int 0, .int 0, .int 0, .int 0, .int 0, .int 0, .int 0, .int 0, .int 0, .int 0, .int 0, .int 0, .int 0, .int 0, .int 0, .int 0, .int 0, .int 0, .int 0, .int 0, .int 0, .int 0, .int 0, .int 0, .int 0, .int 0, .int 0, .int 0, .int 0, .int 0, .int 0, .int 0, .int 0, .int 0, .int 0, .int 0, .int 0, .int 0, .int 0, .int 0, .int 0, .int 0, .int 48, .int 49, .int 50, .int 51, .int 52, .int 53, .int 54, .int 55, .int 56, .int 57, .int 0, .int 0, .int 0, .int 0, .int 0, .int 0, .int 0, .int 65, .int 66, .int 67, .int 68, .int 69, .int 70, .int 71, .int 72, .int 73, .int 74, .int 75, .int 76, .int 77, .int 78, .int 79, .int 80, .int 81, .int 82, .int 83, .int 84, .int 85, .int 86, .int 87, .int 88, .int 89, .int 90, .int 0, .int 0, .int 0, .int 0, .int 0, .int 0, .int 65, .int 66, .int 67, .int 68, .int 69, .int 70, .int 71, .int 72, .int 73, .int 74, .int 75, .int 76, .int 77, .int 78, .int 79, .int 80, .int 81, .int 82, .int 83, .int 84, .int 85, .int 86, .int 87, .int 88, .int 89, .int 90, .int 0, .int 0, .int 0, .int 0, .int 0], vm := .none }]
def classes : Array Class := #[k0, k1, k2, k3, k4, k5, k6, k7, k8, k9, k10]
def interned : List (Array UInt16 × Addr) := []
def slotsUsed : Nat := 131
def theMethod : MethodId := ⟨1, 1⟩
def args0 : Array Value := #[.int 3, .int 65, .int 66, .int 67]
def aboutOver (below : List Frame) : State where
  vm := { classes := classes, interned := interned.toArray }
  heap := heap
  slotsUsed := slotsUsed
  threads := #[{ frames := .invoking theMethod args0 :: below }]
def below0 : List Frame := [.native { method := ⟨0, 0⟩, args := #[] }]
def about1 : State := aboutOver below0
def p0 : Program := .bare "" "" ""
def e0 : Env := launch0.env 0 0 0
theorem w_frames : about1.frames = Frame.invoking theMethod args0 :: below0 := rfl
set_option maxRecDepth 65536 in
theorem w_args : argsFit about1.vm theMethod args0 = true := by decide +kernel
set_option maxRecDepth 65536 in
theorem w_heap : heapFits about1 = true := by decide +kernel
set_option maxRecDepth 65536 in
theorem w_runnable : about1.curStatus? = some .runnable := by decide +kernel
set_option maxRecDepth 65536 in
theorem w_alone : about1.alone = true := by decide +kernel
set_option maxRecDepth 65536 in
theorem w_named : about1.methodNamed? x = some theMethod := by decide +kernel
set_option maxRecDepth 65536 in
theorem w_hears : about1.hears theMethod below0 = true := by decide +kernel
set_option maxRecDepth 65536 in
theorem w_ripe : about1.ripe theMethod args0 below0 = true := by decide +kernel
theorem w_running : about1.status = .running := rfl
set_option maxRecDepth 65536 in
theorem w_room : about1.hasRoom e0.platform room_1 = true :=
  launch0.hasRoom_least _ room_1 (by decide +kernel) (by decide +kernel) (by decide +kernel) (by decide +kernel) (by decide +kernel) (by decide +kernel)
theorem allAtoms_all (ts : List Jvm.Cond) (a : Array Jvm.Value) (st : Jvm.State) : (allAtoms ts).before a st = ts.all (fun c => c.before a st) := by
  induction ts with
  | nil => rfl
  | cons c t ih =>
    show (Jvm.Cond.and c (allAtoms t)).before a st = _
    rw [Jvm.Cond.before_and, ih, List.all_cons]
def words1 : List Jvm.Cond := Jvm.Cond.code x code maxLocals ret :: tables_1
/-- a 'code' word, met by the world's own term for the bytes: nothing is compared byte by byte -/
theorem code_word {y : MethodName} {bytes : ByteArray} {mx : Nat} {rt : Option FieldType} {a : Array Value} {s : State} {m : MethodId} {meth : Method} {c : Code} (h1 : s.methodNamed? y = some m) (h2 : s.vm.method? m = some meth) (h3 : meth.code = some c) (h4 : c.code = bytes)
    (h5 : (c.maxLocals == mx && c.exceptionTable.isEmpty && decide (c.maxStack ≤ mostOperands) && decide (meth.sig.returnType = rt) && !meth.locks && decide (parseMethodDescriptor y.desc = some meth.sig)) = true) : (Jvm.Cond.code y bytes mx rt).before a s = true := by
  simp only [Bool.and_eq_true, beq_iff_eq, Bool.not_eq_true', decide_eq_true_eq] at h5
  obtain ⟨⟨⟨⟨⟨g1, g2⟩, g3⟩, g4⟩, g5⟩, g6⟩ := h5
  simp [Cond.before, Cond.holds, Cond.value, h1, h2, h3, h4, g1, g2, g3, g4, g5, g6]
def isCode : Jvm.Cond → Bool
  | .code _ _ _ _ => true
  | _ => false
theorem all_split {L : List Jvm.Cond} {P : Jvm.Cond → Bool} (h1 : L.all (fun c => isCode c || P c) = true) (h2 : ∀ c ∈ L.filter isCode, P c = true) : L.all P = true := by
  refine List.all_eq_true.mpr fun c hc => ?_
  have h := List.all_eq_true.mp h1 c hc
  rcases Bool.eq_false_or_eq_true (isCode c) with hi | hi
  · exact h2 c (List.mem_filter.mpr ⟨hc, hi⟩)
  · simpa [hi] using h
set_option maxRecDepth 65536 in
theorem w_c0 : (Jvm.Cond.code x code maxLocals ret).before args0 about1 = true := code_word (m := ⟨1, 1⟩) (meth := k1m1) (c := k1c1) (by decide +kernel) rfl rfl rfl (by decide +kernel)
set_option maxRecDepth 65536 in
theorem w_c1 : (Jvm.Cond.code ({ cls := "com/example/stratify/stratify/EnvironmentNames", name := "isUpperCase", desc := "([C)Z" } : Jvm.MethodName) prog_7_method_7_code (6 : Nat) (Option.some Jvm.ClassFile.FieldType.boolean)).before args0 about1 = true := code_word (m := ⟨2, 1⟩) (meth := k2m1) (c := k2c1) (by decide +kernel) rfl rfl rfl (by decide +kernel)
set_option maxRecDepth 65536 in
theorem w_c2 : (Jvm.Cond.code ({ cls := "com/example/stratify/stratify/EnvironmentNamesIsUpperCasePinLaw", name := "ok", desc := "(C)Z" } : Jvm.MethodName) method_3_code (1 : Nat) (Option.some Jvm.ClassFile.FieldType.boolean)).before args0 about1 = true := code_word (m := ⟨1, 2⟩) (meth := k1m2) (c := k1c2) (by decide +kernel) rfl rfl rfl (by decide +kernel)
def codes1 : List Jvm.Cond := [Jvm.Cond.code x code maxLocals ret, Jvm.Cond.code ({ cls := "com/example/stratify/stratify/EnvironmentNames", name := "isUpperCase", desc := "([C)Z" } : Jvm.MethodName) prog_7_method_7_code (6 : Nat) (Option.some Jvm.ClassFile.FieldType.boolean), Jvm.Cond.code ({ cls := "com/example/stratify/stratify/EnvironmentNamesIsUpperCasePinLaw", name := "ok", desc := "(C)Z" } : Jvm.MethodName) method_3_code (1 : Nat) (Option.some Jvm.ClassFile.FieldType.boolean)]
set_option maxRecDepth 65536 in
theorem codes_eq : words1.filter isCode = codes1 := rfl
theorem w_codes : ∀ c ∈ words1.filter isCode, c.before args0 about1 = true := by
  rw [codes_eq]
  intro c hc
  simp only [codes1, List.mem_cons, List.not_mem_nil, or_false] at hc
  rcases hc with rfl | rfl | rfl
  · exact w_c0
  · exact w_c1
  · exact w_c2
set_option maxRecDepth 65536 in
theorem w_t1 : words1.all (fun c => isCode c || c.before args0 about1) = true := by decide +kernel
theorem w_tables : (allAtoms (Jvm.Cond.code x code maxLocals ret :: tables_1)).before args0 about1 = true := by
  rw [allAtoms_all]
  show words1.all (fun c => c.before args0 about1) = true
  refine all_split ?_ w_codes
  rw [w_t1]
set_option maxRecDepth 65536 in
theorem w_case : (Jvm.Cond.and given_1 narrow_1).before args0 about1 = true := by decide +kernel
theorem w_applies : (headSpec (Jvm.Cond.code x code maxLocals ret :: tables_1) room_1).applies x e0.platform about1 = true :=
  (Spec.applies_iff w_frames).mpr ⟨w_running, w_runnable, w_alone, w_named, w_hears, w_ripe, w_room, w_tables⟩
theorem atStart : AtStart classFile x code maxLocals ret World_1 tables_1 room_1 Calls_1 rest_1 Pre_1 launch0 p0 e0 about1 theMethod args0 below0 :=
  ⟨lists_1, trivial, launch0.admits_env _ _ _, launch0.least_env, fairChoices_fair.cas, fairChoices_fair.clock, w_frames, w_args, w_heap, w_applies, trivial, trivial, w_case⟩
end start1
theorem witness_1 : WitnessClaimed_1 := ⟨start1.p0, start1.e0, start1.about1, start1.theMethod, start1.args0, start1.below0, start1.atStart⟩
end Jvm.Pilot.@@N@@
