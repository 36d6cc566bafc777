import JvmDerived
import JvmDerived.Pilot.@@N@@Statement
import JvmDerived.Pilot.@@N@@Code
set_option linter.unusedVariables false
set_option linter.unusedSimpArgs false
namespace Jvm.OwnK
open Sem ClassFile Op Lib Jvm.Stand Jvm.Free Jvm.LawKit Jvm.RoadKit
/-- what a methodLink word says, member by member; access by the word itself, whatever the method's flags -/
theorem own_word {s : State} {args : Array Value} {cls : String} {x : MethodName} {index d c : Nat} {dk ck ok : Class} {meth : Method} {mf : MethodId} (hd : s.vm.findClass cls = some d) (hc : s.vm.findClass x.cls = some c) (hdk : s.vm.classes[d]? = some dk) (hck : s.vm.classes[c]? = some ck)
    (hf : s.methodFound? x.cls x.name x.desc = some mf) (hok : s.vm.classes[mf.cls]? = some ok) (hm : s.vm.method? mf = some meth) (hn : x.name ≠ "clone") (h : (Cond.methodLink cls index x).before args s = true) :
    ∃ ci, s.memberEntry? cls index = some (ci, ck.isInterface) ∧ s.classLinks cls ci x.cls = some true ∧ s.names cls index (.method x.cls x.name x.desc) = true ∧ s.openOr cls index (.method mf) = true ∧ ok.loader = none ∧ s.vm.Plain meth.accessFlags mf.cls ok c d dk := by
  have h : (Cond.methodLink cls index x).holds args s none s [] = true := h
  simp only [Cond.holds, Cond.value, hd, hc, hf] at h
  rcases hme : s.memberEntry? cls index with _ | ⟨ci, via⟩
  · simp [hme] at h
  rcases hcl : s.classLinks cls ci x.cls with _ | b
  · simp [hme, hcl] at h
  simp only [hme, hcl, hdk, hck, hok, hm, Option.bind_eq_bind, Option.bind_some, Option.pure_def, beq_iff_eq, bne_iff_ne, ne_eq, Option.some.injEq, Bool.and_eq_true, Option.isNone_iff_eq_none, Bool.or_eq_true] at h
  obtain ⟨⟨⟨⟨⟨⟨⟨e1, e2⟩, e3⟩, e4⟩, -⟩, -⟩, e5⟩, e6⟩ := h
  refine ⟨ci, by rw [e4], by rw [hcl, e1], e2, e3, e5, ?_⟩
  rcases e6 with e6 | e6
  · simpa [Vm.Plain, plainAccess, or_assoc, and_assoc] using e6
  · exact absurd e6.1.2 hn
/-- a link word of an interface that declares no such method itself -/
theorem own_faceLinks {s : State} {args : Array Value} {cls : String} {x : MethodName} {index d c : Nat} {ck ok : Class} {meth : Method} {mf : MethodId} (hd : s.vm.findClass cls = some d) (hc : s.vm.findClass x.cls = some c) (hck : s.vm.classes[c]? = some ck) (hvi : ck.isInterface = true) (hnone : ck.findMethod x.name x.desc = none)
    (hf : s.methodFound? x.cls x.name x.desc = some mf) (hok : s.vm.classes[mf.cls]? = some ok) (hm : ok.methods[mf.idx]? = some meth) (hx : x.cls ≠ "java/lang/invoke/MethodHandle" ∧ x.cls ≠ "java/lang/invoke/VarHandle") (hn : x.name ≠ "clone") (h : (Cond.methodLink cls index x).before args s = true) (pl : Platform) (hpl : pl.magicAccessors = ({} : Platform).magicAccessors) :
    ∃ ci, s.vm.MethodLinksFF pl d index ci c mf ∧ s.rightAt d index (.method mf) = true := by
  obtain ⟨dk, hdk, -⟩ := Vm.findClass_spec hd
  obtain ⟨k0, hk0, hname⟩ := Vm.findClass_spec hc
  cases hck.symm.trans hk0
  have hpoly : ∀ y, signaturePolymorphic ck y = false := fun y => by simp [signaturePolymorphic, hname, hx.1, hx.2]
  obtain ⟨ci, q1, q2, q3, q4, q5, q6⟩ := own_word hd hc hdk hck hf hok (meth := meth) (by simp [Vm.method?, hok, hm]) hn h
  obtain ⟨c', hc', hl⟩ := State.classLinks_spec hd q2 pl hpl
  cases hc.symm.trans hc'
  obtain ⟨cp, hcp, hnm⟩ := State.names_spec q3
  obtain ⟨dk', cf, hdk', hcf, rfl⟩ := State.poolOf?_spec hd hcp
  cases hdk.symm.trans hdk'
  obtain ⟨ci', nt, hent, hnt, -⟩ := namesOf?_method hnm
  obtain ⟨rfl, hent⟩ : ci' = ci ∧ cf.constantPool[index]? = some (.interfaceMethodref ci' nt) := by
    rcases hent with hent | hent <;> simp [State.memberEntry?, hcp, hent, hvi] at q1
    exact ⟨q1, hent⟩
  obtain ⟨dk2, cf2, nm2, k2, z1, z2, z3, z4, -⟩ := id hl.here
  cases hdk.symm.trans z1
  cases hcf.symm.trans z2
  refine ⟨ci', ⟨dk, cf, nt, x.name, x.desc, ck, ok, meth, hdk, hcf, hent, hnt, hl, ?_, hck, hvi, hpoly, hnone, State.faceFind_of_found hc hck hvi hpoly hnone hf, hok, hm, z3.trans q5.symm, q6, State.openOr_spec hd hdk q4⟩, ?_⟩
  · rintro rfl; simp [ConstantPool.className?, hent] at z4
  · simp [State.rightAt, hdk, hcf, hnm, hf]
end Jvm.OwnK
namespace Jvm.OwnK
open Sem ClassFile Op Lib Jvm.Stand Jvm.Free Jvm.LawKit Jvm.RoadKit
/-- an interface call whose method is found in another class J (java/lang/Object); nothing is asked of that method's flags -/
theorem own_faceBackS {p : Program} {l : Launch} {e : Env} {R : Room} {s : State} {m : MethodId} {args : Array Value} {below : List Frame} {meth : Method} {c : Code} {T : State} {locs : List Loc} {cells slots : Nat} (X : Stand p l e R s m args below meth c T locs cells slots) (hexec : p.tables.exec = Jvm.exec) {own C J : String} {index count : Nat} {xi y : MethodName}
    (hown : s.vm.findClass own = some m.cls) (hlink : (Cond.methodLink own index xi).before args s = true) (hdecl : (Cond.declares ⟨J, xi.name, xi.desc⟩).before args s = true) (hface : (Cond.interfaceMethod xi.cls J xi.name xi.desc).before args s = true) (hxo : xi.cls ≠ J) (hcn : xi.name ≠ "clone") (hsel : (Cond.selects C xi y).before args s = true) (hinst : (Cond.instanceMethod y).before args s = true)
    (hpub : (Cond.publicMethod y).before args s = true) (hunh : (Cond.unhidden C xi.name xi.desc).before args s = true) (hcast : (Cond.castable C xi.cls).before args s = true) (hx : xi.cls ≠ "java/lang/invoke/MethodHandle" ∧ xi.cls ≠ "java/lang/invoke/VarHandle")
    {W : Nat} {Pre : Pt → Array Value → Prop} {Post : Pt → Array Value → Option Value → Pt → Prop} (hK : BackS l R p e below s args y 5 W Pre Post) {b : Addr} {cB : ClassId} {kB : Class} (hcB : s.vm.findClass C = some cB) (hkB : s.vm.classes[cB]? = some kB) (hrecv : IsOf cB T b)
    {g : JFrame} (hg : g.method = m) (hsize : g.locals.size = c.maxLocals) {argsL rest : List Value} (hlen : ∀ sig, parseMethodDescriptor xi.desc = some sig → argsL.length = sig.parameters.length) (hstack : g.stack = argsL.reverse ++ .ref b :: rest) (hW : 2 * g.monitorRoom + (rest.map fun v => v.category).sum ≤ W)
    (hdg : decode c.code g.pc = .ok (.invokeinterface index count, 5)) (hpre : ∀ vm₁, s.WarmedH vm₁ → Pre ⟨T.setVm vm₁, locs, cells, slots⟩ (.ref b :: argsL).toArray) :
    ∃ (v : Option Value) (vm₁ : Vm) (B : Pt), s.WarmedH vm₁ ∧ Stand p l e R (s.setVm B.U.vm) m args below meth c B.U B.locs B.cells B.slots ∧ s.Since B.U.vm B.U.heap.size ∧ T.heap.size ≤ B.U.heap.size ∧ Post ⟨T.setVm vm₁, locs, cells, slots⟩ (.ref b :: argsL).toArray v B ∧ Steps p.tables e below (T.setTop g) (B.U.setTop { g with pc := g.pc + 5, stack := v.toList ++ rest }) := by
  obtain ⟨cell, u1, u2, u3⟩ := hrecv
  obtain ⟨r0, r, n1, n2, n3, n4⟩ := Cond.declares_spec hdecl
  obtain ⟨cI, kI, r1, i1, i2, i3, i4, i5⟩ := Cond.interfaceMethod_spec hface
  cases n1.symm.trans i5
  obtain ⟨nmR, dsR⟩ := name_of_methodNamed n1 n2
  obtain ⟨ok, ho, hoN⟩ := className_of_methodNamed n1
  obtain ⟨mk, mM, y1, y2, -, y4⟩ := Cond.instanceMethod_spec hinst
  obtain ⟨c2, r2, m2, s1, s2, s3, s4, -⟩ := Cond.selects_spec hsel
  cases hcB.symm.trans s1
  cases i4.symm.trans s2
  cases y1.symm.trans s3
  obtain ⟨c3, t3, w1, w2, w3⟩ := Cond.castable_spec hcast
  cases hcB.symm.trans w1
  cases i1.symm.trans w2
  obtain ⟨kI', i6, i7⟩ := Vm.findClass_spec i1
  cases i2.symm.trans i6
  have hnone : kI.findMethod xi.name xi.desc = none := by
    cases hj : kI.findMethod xi.name xi.desc with
    | none => rfl
    | some j =>
      obtain ⟨hlt, -, -⟩ := Array.findIdx?_eq_some_iff_getElem.mp hj
      have q := i4.symm.trans (State.methodFound?_declared i1 i2 (fun y => by simp [signaturePolymorphic, i7, hx.1, hx.2]) hj (by simp [hlt]))
      cases q
      cases i2.symm.trans ho
      exact absurd (i7.symm.trans hoN) hxo
  have hmO : ok.methods[r0.idx]? = some r := by simpa [Vm.method?, ho] using n2
  obtain ⟨ci, hl, hright⟩ := own_faceLinks hown i1 i2 i3 hnone i4 ho hmO hx hcn hlink e.platform (by rw [X.admits.platform])
  have hE := State.methodEntryFF X.warmed hl hright
  obtain ⟨dk, cf, nt, _, _, ck, _, _, hd, hcf, hcp, -, -, -, hck, hvia, -⟩ := hl.here
  cases i2.symm.trans hck
  have al := hE.warmed.alike
  obtain ⟨dk2, hdk2, hres⟩ := hE.classReady
  obtain ⟨dk3, hdk3, hed⟩ := al.2.2 _ _ hd
  cases hdk2.symm.trans hdk3
  obtain ⟨ck2, hck2, hec⟩ := al.2.2 _ _ hck
  obtain ⟨kc2, hkc2, -⟩ := al.2.2 _ _ (show s.vm.classes[cell.cls]? = some kB by rw [u2]; exact hkB)
  have X1 : Stand p l e R s m args below meth c (T.setVm (T.vm.calledUp m.cls ci index cI r0)) locs cells slots := X.noted hE.warmed
  have step : ∀ target, (∀ acts, Steps p.tables e below (doInvoke e ((T.setVm (T.vm.calledUp m.cls ci index cI r0)).setTop { g with stack := rest }) acts mk (.ref b :: argsL).toArray).1 target) → Steps p.tables e below (T.setTop g) target := by
    intro target hrest
    subst hg
    jvm_step X.here [hexec, hdg, invokeinterface.wp_coldFace (e := e) (s := T) (s₀ := s) (f := g) (count := count) X.here.top X.warmed hE hd hcf (Or.inr hcp) hck hvia,
      invokeinterface.wp_ready (e := e) (s := T.setVm (T.vm.calledUp g.method.cls ci index cI r0)) (f := g) (count := count) (r := r) (meth := mM) (m := mk) (args := argsL) (rest := rest) (cell := cell) (kcell := kc2) (ck := dk2) (nk := ck2) (cf := cf) (ci := ci) (nt := nt) (named := cI)
        X.here.top hE.ready ((al.method? _).trans n2) n3 (hlen _ n4) hstack u1 (fun z h => by rw [h] at u3; cases u3) hkc2 hdk2 (by rw [hed]; exact hcf) hcp hres hck2 (by rw [hec]; exact hvia)
        ((al.assignable _ _).trans (by rw [u2]; exact w3)) ((al.selectMethod _ _ _).trans (by rw [Launch.admits_selectMethod X.admits, u2]; exact s4)) ((al.method? _).trans y2)
        (Or.inr (Or.inr (by show ((cell.cls :: (T.vm.calledUp g.method.cls ci index cI r0).superclasses cell.cls).any fun k => (declaredIn (T.vm.calledUp g.method.cls ci index cI r0) r.name r.desc k).any fun (_, y) => y.isPrivate || y.isStatic) = false; simp only [al.superclasses, al.declaredIn]; rw [nmR, dsR, u2]; exact Cond.unhidden_spec hcB hunh)))
        (Or.inl (Cond.publicMethod_spec y1 y2 hpub)) y4]
    exact hrest
  obtain ⟨v, B, X', q1, q2, q3, q4⟩ := hK m meth c ⟨T.setVm (T.vm.calledUp m.cls ci index cI r0), locs, cells, slots⟩ { g with stack := rest } (.invokeinterface index count) mk (Value.ref b :: argsL).toArray X1 hg hsize hdg hW (X1.named y1) (hpre (T.vm.calledUp m.cls ci index cI r0) X1.warmed)
  exact ⟨v, T.vm.calledUp m.cls ci index cI r0, B, X1.warmed, X', q1, q2, q3, (step _ fun acts => by rw [doInvoke_state]; exact Steps.refl _).trans q4⟩
end Jvm.OwnK
namespace Jvm.OwnK
def EL : List (String × Nat) := []
end Jvm.OwnK
namespace Jvm.OwnK
open Sem ClassFile Op Lib Jvm.Stand Jvm.Free Jvm.LawKit Jvm.RoadKit
/-- what a body leaves: Q of its value and heap; what it wrote lies in new cells; the old cells stand -/
def Out (Z s : State) (Q : Option Value → Heap → Prop) (k n : Nat) (o : Outcome) (U : State) : Prop :=
  ∃ v L, o = .returned v ∧ (Q v U.heap ∧ Fr Z.heap.size L ∧ Old Z Z.heap.size U.heap) ∧ CHr Z EL s.vm s.heap U.vm U.heap ∧ ReturnedEndW s o U L k n
/-- the words under which String constants are loaded -/
def Wd (Z : State) : Prop := ∃ a0, EW Z a0 EL ∧ ∀ a ∈ Bundle.stringAtoms, a.before a0 Z = true
/-- from here the walk ends, and G holds of its end -/
def Go (tb : Tables) (e : Env) (below : List Frame) (G : Outcome → State → Prop) (T : State) (F : JFrame) : Prop :=
  ∃ s₂ o, Steps tb e below (T.setTop F) s₂ ∧ s₂.status = .running ∧ Ended s₂ below o ∧ G o s₂
/-- where the walk stands, with its heap -/
def Wk (p : Program) (l : Launch) (e : Env) (R : Room) (s : State) (m : MethodId) (args : Array Value) (below : List Frame) (meth : Method) (c : Code) (Z T : State) (h : Heap) (k n : Nat) (ss : List Addr) : Prop :=
  ∃ locs vm0 k0, Stand p l e R (s.setVm vm0) m args below meth c T locs k n ∧ T.heap = h ∧ Fr Z.heap.size locs ∧ Old Z Z.heap.size h ∧ s.Since vm0 k0 ∧ k0 ≤ h.size ∧ CHr Z EL s.vm s.heap vm0 h ∧ ∀ x ∈ ss, x < h.size ∧ Safe Z EL vm0 h x
/-- what is known of the body -/
def Bdy (p : Program) (Z s : State) (m : MethodId) (meth : Method) (c : Code) (own : String) (bytes : ByteArray) (maxL : Nat) (ret : Option FieldType) (nm : String) : Prop :=
  p.tables.exec = Jvm.exec ∧ Z.Warmed39 s.vm ∧ s.vm.findClass own = some m.cls ∧ c.code = bytes ∧ c.maxLocals = maxL ∧ meth.sig.returnType = ret ∧ meth.locks = false ∧ meth.name = nm ∧ Wd Z
/-- a contract -/
def Con (l : Launch) (Z : State) (y : MethodName) (bytes : ByteArray) (maxL : Nat) (ret : Option FieldType) (ws : List Cond) (rm : Room) (as' : Array Value) (h0 : Heap) (Q : Option Value → Heap → Prop) (ss : List Addr) : Prop :=
  Wd Z → Old Z Z.heap.size h0 → MetFree l y (head1 (Cond.code y bytes maxL ret :: ws) rm) (fun a U => a = as' ∧ Z.Warmed39 U.vm ∧ U.heap = h0 ∧ CHv Z EL U.vm h0 ∧ ∀ x ∈ ss, x < h0.size ∧ Safe Z EL U.vm h0 x) (fun _ _ _ _ _ => True) (fun _ U o U' => Out Z U Q rm.cells rm.slots o U')
def bi (b : Bool) : Int32 := if b then 1 else 0
theorem bi_t {b : Bool} (h : b = true) : ¬ bi b = 0 := by subst h; decide
theorem bi_f {b : Bool} (h : b = false) : bi b = 0 := by subst h; rfl
theorem bi_nar (b : Bool) : nar .boolean (bi b) = bi b := by cases b <;> rfl
theorem bi_tt : bi true = 1 := rfl
theorem bi_ff : bi false = 0 := rfl
theorem bi_inj {a b : Bool} : (bi a = bi b) = (a = b) := by cases a <;> cases b <;> decide
theorem own_nb (b : Bool) : narrow .boolean (.int (bi b)) = .int (bi b) := by cases b <;> rfl
theorem own_fb (b : Bool) : fits .boolean (.int (bi b)) = true := by cases b <;> rfl
theorem own_fr {t : FieldType} {v : Value} (ht : t.isReference = true) (hv : v.isRef = true) : fits t v = true := by cases t <;> cases v <;> first | rfl | (exfalso; revert ht hv; simp [FieldType.isReference, Value.isRef]; done)
theorem own_i2c (a : Int32) : ∃ x : Int32, a.toUInt32.toUInt16.toUInt32.toInt32 = x ∧ nar .char x = x ∧ 0 ≤ x.toInt ∧ x.toInt < 65536 := by
  refine ⟨_, rfl, ?_, (c_i2c a).2.1, (c_i2c a).2.2⟩
  show (a.toUInt32.toUInt16.toUInt32.toInt32).toUInt32.toUInt16.toUInt32.toInt32 = _
  simp only [UInt32.toUInt32_toInt32, UInt16.toUInt16_toUInt32]
theorem own_i2cm (a : Int32) : ∃ x : Int32, (a &&& 255).toUInt32.toUInt16.toUInt32.toInt32 = x ∧ nar .char x = x ∧ ¬ x < 0 ∧ ¬ 255 < x := by
  refine ⟨_, rfl, ?_, ?_⟩
  · show ((a &&& 255).toUInt32.toUInt16.toUInt32.toInt32).toUInt32.toUInt16.toUInt32.toInt32 = _
    simp only [UInt32.toUInt32_toInt32, UInt16.toUInt16_toUInt32]
  · rw [i2c_mask]
    have q := c_and a 255 (by decide)
    simp only [Int32.lt_iff_toInt_lt, Int32.reduceToInt] at *; omega
theorem own_and1 {a b : Bool} (h : b = true) : (bi a &&& 1) = bi (a && b) := by subst h; cases a <;> decide
theorem own_and0 {a b : Bool} (h : b = false) : (bi a &&& 0) = bi (a && b) := by subst h; cases a <;> decide
theorem own_andb (a b : Bool) : (bi a &&& bi b) = bi (a && b) := by cases a <;> cases b <;> decide
theorem own_inc (i : Nat) : Int32.ofNat i + 1 = Int32.ofNat (i + 1) := (Int32.ofNat_add i 1).symm
theorem own_ofNat {i : Nat} (h : i < 2147483648) : (Int32.ofNat i).toInt = i := by
  have := Int32.toInt_ofNat_of_lt (n := i) (by omega); exact this
theorem own_clamp {i : Nat} (h : i < 2147483648) : (Int32.ofNat i).toNatClampNeg = i := by
  simp only [Int32.toNatClampNeg, own_ofNat h]; omega
theorem own_lt {i j : Nat} (hi : i < 2147483648) (hj : j < 2147483648) : (Int32.ofNat i < Int32.ofNat j) ↔ i < j := by
  rw [Int32.lt_iff_toInt_lt, own_ofNat hi, own_ofNat hj]; omega
theorem own_ixok {i n : Nat} (hi : i < n) (hn : n < 2147483648) : ¬ Int32.ofNat i < 0 ∧ Int32.ofNat i < Int32.ofNat n := by
  refine ⟨?_, (own_lt (by omega) hn).mpr hi⟩
  rw [Int32.lt_iff_toInt_lt, own_ofNat (by omega)]; show ¬ ((i : Int) < 0); omega
theorem nar_b0 : nar .boolean 0 = 0 := by decide
theorem nar_b1 : nar .boolean 1 = 1 := by decide
theorem old_le {Z : State} {h : Heap} (O : Old Z Z.heap.size h) : Z.heap.size ≤ h.size := O.2.1
theorem nlt {x : Addr} {n : Nat} (h : x < n) : @LT.lt Nat _ x n := h
theorem nne {x y : Addr} (h : ¬ @Eq Nat x y) : x ≠ y := h
theorem own_root {Z : State} {a0 : Array Value} {O K : String} {kk : Nat} (w : (Cond.noSuperclass O).before a0 Z = true) (wk : (Cond.instantiable K kk).before a0 Z = true) (hn : O ≠ K) : NS Z O K := by
  obtain ⟨c, k, h1, h2, h3, -, -⟩ := Cond.noSuperclass_spec w
  obtain ⟨t, kt, g1, -⟩ := Cond.instantiable_spec wk
  have ne := ids_ne h1 g1 hn
  refine ⟨c, t, h1, g1, fun fuel => ?_⟩
  cases fuel with
  | zero => rfl
  | succ f => simp [Vm.isSubclassAux, ne, h2, h3]
theorem own_no {Z : State} {a0 : Array Value} {C S K : String} {kk : Nat} (w : (Cond.superclass C S).before a0 Z = true) (wk : (Cond.instantiable K kk).before a0 Z = true) (n : NS Z C K) (hn : C ≠ K) : ∃ c t, Z.vm.findClass C = some c ∧ Z.vm.findClass K = some t ∧ Z.vm.assignable c t = false := by
  obtain ⟨c, t, h0, g0, n3⟩ := n
  obtain ⟨p, k, kp, h1, h2, h3, h4, h5, -, h7⟩ := Cond.superclass_spec h0 w
  obtain ⟨t', kt, g1, g2, g3, g4, -⟩ := Cond.instantiable_spec wk
  cases g0.symm.trans g1
  have ne := ids_ne h0 g0 hn
  have g5 : kt.isInterface = false := by cases hq : kt.isInterface <;> simp [hq] at g4 ⊢
  refine ⟨c, t, h0, g0, ?_⟩
  show Z.vm.assignableAux (255 + 1) c t = false
  simp [Vm.assignableAux, ne, h2, g2, h5, g3, g5, Vm.isSubclass, n3]
theorem own_03 (x : Int32) : (x &&& 3) = 0 ∨ (x &&& 3) = 1 ∨ (x &&& 3) = 2 ∨ (x &&& 3) = 3 := by
  have q := c_and x 3 (by decide)
  simp only [← Int32.toInt_inj, Int32.reduceToInt] at *; omega
section K
variable {p : Program} {l : Launch} {e : Env} {R : Room} {s : State} {m : MethodId} {args : Array Value} {below : List Frame} {meth : Method} {c : Code} {Z T T' : State} {h h' : Heap} {k n : Nat} {own nm : String} {bytes : ByteArray} {maxL : Nat} {ret : Option FieldType} {G : Outcome → State → Prop} {pc : Nat} {ls : Array Slot} {st : List Value} {Q : Option Value → Heap → Prop} {a0 : Array Value} {ss : List Addr}
theorem Bdy.nameOf (B : Bdy p Z s m meth c own bytes maxL ret nm) : meth.name = nm := B.2.2.2.2.2.2.2.1
theorem Go.by {tb : Tables} {F F' : JFrame} (hs : ∀ t, Steps tb e below (T'.setTop F') t → Steps tb e below (T.setTop F) t) (q : Go tb e below G T' F') : Go tb e below G T F := by
  obtain ⟨s2, o, a, b⟩ := q; exact ⟨s2, o, hs _ a, b⟩
theorem own_gc {tb : Tables} {v v' : Int32} (hv : v = v') (q : Go tb e below G T (mkF m pc ls (.int v :: st))) : Go tb e below G T (mkF m pc ls (.int v' :: st)) := hv ▸ q
theorem Go.cast {tb : Tables} {F F' : JFrame} (hs : F = F') (q : Go tb e below G T F') : Go tb e below G T F := hs ▸ q
theorem Con.of {y : MethodName} {ws : List Cond} {rm : Room} {as' : Array Value} {h0 : Heap} (hpl : plainFor y = true)
    (body : ∀ p e s m below meth c T, Bdy p Z s m meth c y.cls bytes maxL ret y.name → Wk p l e rm s m as' below meth c Z T h0 0 0 ss → Go p.tables e below (Out Z s Q rm.cells rm.slots) T (entryFrame m as' maxL)) : Con l Z y bytes maxL ret ws rm as' h0 Q ss := by
  intro hWd hO
  refine MetFree.of_bodySF hpl hisR ?_
  intro p e s m args below meth c s₁ Bd hml0 hP hK
  obtain ⟨rfl, hZ, hh, hC, hss⟩ := hP
  subst hh
  exact body p e s m below meth c s₁ ⟨Bd.exec, hZ, findClass_of_methodNamed Bd.named, Bd.bytes, hml0, Bd.returns, Bd.notSynchronized, (name_of_methodNamed Bd.named Bd.method).1, hWd⟩ ⟨[], s.vm, s.heap.size, Stand.of_body Bd, by rw [Bd.state]; rfl, Fr.nil _, hO, (State.WarmedH.refl s).since _, Nat.le_refl _, CHr.refl hC, hss⟩
theorem Bdy.at {vm0 : Vm} {k0 : Nat} (B : Bdy p Z s m meth c own bytes maxL ret nm) (S : s.Since vm0 k0) : Bdy p Z (s.setVm vm0) m meth c own bytes maxL ret nm :=
  ⟨B.1, State.Warmed39.trans B.2.1 S.1, (S.1.alike.findClass _ _).trans B.2.2.1, B.2.2.2⟩
theorem Wk.size (W : Wk p l e R s m args below meth c Z T h k n ss) : Z.heap.size ≤ h.size := by obtain ⟨_, _, _, _, _, _, O, _⟩ := W; exact O.2.1
theorem Wk.old (W : Wk p l e R s m args below meth c Z T h k n ss) : Old Z Z.heap.size h := by obtain ⟨_, _, _, _, _, _, O, _⟩ := W; exact O
theorem Sta.old {C nf d : String} {v : Value} (F : Sta Z Z.heap C nf d v) (W : Old Z Z.heap.size h) : Sta Z h C nf d v := F.ext W.2
theorem Wk.sub {ss' : List Addr} (W : Wk p l e R s m args below meth c Z T h k n ss) (hs : ∀ x ∈ ss', x ∈ ss) : Wk p l e R s m args below meth c Z T h k n ss' := by
  obtain ⟨locs, vm0, k0, X, eT, N, O, S, hk, H, hss⟩ := W
  exact ⟨locs, vm0, k0, X, eT, N, O, S, hk, H, fun x q => hss x (hs x q)⟩
theorem Wk.more {k' n' : Nat} (W : Wk p l e R s m args below meth c Z T h k n ss) (hk : k ≤ k') (hn : n ≤ n') : Wk p l e R s m args below meth c Z T h k' n' ss := by
  obtain ⟨locs, vm0, k0, X, r⟩ := W; exact ⟨locs, vm0, k0, X.more hk hn, r⟩
/-! ### the ends -/
theorem go_end (B : Bdy p Z s m meth c own bytes maxL ret nm) (W : Wk p l e R s m args below meth c Z T h k n ss) {F : JFrame} {v : Option Value} {k' n' : Nat} (hv : ret = none → v = none) (hQ : Q v h) (hk : k ≤ k') (hn : n ≤ n')
    (hst : ∀ (s : State) (locs : List Loc) (fs : List Frame), Stand p l e R s m args below meth c T locs k n → (∀ (f : JFrame) (acts : List Action), f.method = m → f.locked = none → f.entered = [] → (doReturn e (T.setTop f) acts v).1 = T.setFrames fs) → Steps p.tables e below (T.setTop F) (T.setFrames fs)) :
    Go p.tables e below (Out Z s Q k' n') T F := by
  obtain ⟨locs, vm0, k0, X, eT, N, O, S, hk0, H, hss⟩ := W
  have B' := B.at S
  obtain ⟨a0, hEW, -⟩ := B.2.2.2.2.2.2.2.2
  obtain ⟨fs, hr, hrun, hended, e1, e2, e3, e4⟩ := X.leaveW S (by rw [eT]; exact hk0) (v := v) (fun q => hv (B.2.2.2.2.2.1 ▸ q)) B.2.2.2.2.2.2.1
  have eT' : (T.setFrames fs).heap = h := eT
  have H2 := H.trans (CHv.at X B'.2.1 hEW H.1)
  exact ⟨_, _, hst _ locs fs X hr, hrun, hended, _, _, rfl, ⟨by rw [eT']; exact hQ, N, by rw [eT']; exact O⟩, by rw [eT']; exact H2, e1, e2, e3, e4.mono hk hn⟩
theorem r_i (B : Bdy p Z s m meth c own bytes maxL (some .int) nm) (W : Wk p l e R s m args below meth c Z T h k n ss) {z : Int32} {k' n' : Nat} (hd : decode bytes pc = .ok (.ireturn, 1)) (hk : k ≤ k') (hn : n ≤ n') (hQ : Q (some (.int z)) h) : Go p.tables e below (Out Z s Q k' n') T (mkF m pc ls (.int z :: st)) :=
  go_end B W (fun q => by cases q) hQ hk hn fun _ _ _ X hr => retOut X B.1 B.2.2.2.2.2.1 rfl (Or.inl ⟨rfl, Or.inl rfl, _, rfl⟩) (hb B.2.2.2.1 hd) hr
theorem r_b (B : Bdy p Z s m meth c own bytes maxL (some .boolean) nm) (W : Wk p l e R s m args below meth c Z T h k n ss) {b : Bool} {k' n' : Nat} (hd : decode bytes pc = .ok (.ireturn, 1)) (hk : k ≤ k') (hn : n ≤ n') (hQ : Q (some (.int (bi b))) h) : Go p.tables e below (Out Z s Q k' n') T (mkF m pc ls (.int (bi b) :: st)) :=
  go_end B W (fun q => by cases q) (v := some (.int (nar .boolean (bi b)))) (by rw [bi_nar]; exact hQ) hk hn fun _ _ _ X hr => retN X B.1 B.2.2.2.2.2.1 (Or.inl rfl) (hb B.2.2.2.1 hd) hr
theorem r_n (B : Bdy p Z s m meth c own bytes maxL ret nm) (W : Wk p l e R s m args below meth c Z T h k n ss) {t : FieldType} {z : Int32} {k' n' : Nat} (hret : ret = some t) (ht : t = .boolean ∨ t = .byte ∨ t = .char ∨ t = .short) (hd : decode bytes pc = .ok (.ireturn, 1)) (hk : k ≤ k') (hn : n ≤ n') (hQ : Q (some (.int (nar t z))) h) : Go p.tables e below (Out Z s Q k' n') T (mkF m pc ls (.int z :: st)) :=
  go_end B W (fun q => by rw [hret] at q; cases q) hQ hk hn fun _ _ _ X hr => retN X B.1 (B.2.2.2.2.2.1.trans hret) ht (hb B.2.2.2.1 hd) hr
theorem nar_ref {t : FieldType} {v : Value} (ht : t.isReference = true) : narrow t v = v := by cases t <;> first | rfl | (exfalso; revert ht; simp [FieldType.isReference]; done) | (cases v <;> rfl)
theorem r_a (B : Bdy p Z s m meth c own bytes maxL ret nm) (W : Wk p l e R s m args below meth c Z T h k n ss) {t : FieldType} {v : Value} {k' n' : Nat} (hret : ret = some t) (ht : t.isReference = true) (hv : v.isRef = true) (hd : decode bytes pc = .ok (.areturn, 1)) (hk : k ≤ k') (hn : n ≤ n') (hQ : Q (some v) h) : Go p.tables e below (Out Z s Q k' n') T (mkF m pc ls (v :: st)) :=
  go_end B W (fun q => by rw [hret] at q; cases q) hQ hk hn fun _ _ _ X hr => retOut X B.1 (B.2.2.2.2.2.1.trans hret) (nar_ref ht) (Or.inr (Or.inr (Or.inr (Or.inr ⟨rfl, ht, hv⟩)))) (hb B.2.2.2.1 hd) hr
theorem r_v (B : Bdy p Z s m meth c own bytes maxL none nm) (W : Wk p l e R s m args below meth c Z T h k n ss) {k' n' : Nat} (hd : decode bytes pc = .ok (.return_, 1)) (hk : k ≤ k') (hn : n ≤ n') (hQ : Q none h) : Go p.tables e below (Out Z s Q k' n') T (mkF m pc ls []) :=
  go_end B W (fun _ => rfl) hQ hk hn fun _ _ _ X hr => X.returnOut B.1 B.2.2.2.2.2.1 (hb B.2.2.2.1 hd) hr
theorem r_l (B : Bdy p Z s m meth c own bytes maxL (some .long) nm) (W : Wk p l e R s m args below meth c Z T h k n ss) {z : Int64} {k' n' : Nat} (hd : decode bytes pc = .ok (.lreturn, 1)) (hk : k ≤ k') (hn : n ≤ n') (hQ : Q (some (.long z)) h) : Go p.tables e below (Out Z s Q k' n') T (mkF m pc ls (.long z :: st)) :=
  go_end B W (fun q => by cases q) hQ hk hn fun _ _ _ X hr => retOut X B.1 B.2.2.2.2.2.1 rfl (Or.inr (Or.inl ⟨rfl, rfl, _, rfl⟩)) (hb B.2.2.2.1 hd) hr
/-! ### plain steps -/
theorem g_aload_n (B : Bdy p Z s m meth c own bytes maxL ret nm) (W : Wk p l e R s m args below meth c Z T h k n ss) {i : Fin 4} {v : Value} (hd : decode bytes pc = .ok (.aload_n i, 1)) (hl : ls[i.val]? = some (.val v)) (hv : v.isRef = true) (q : Go p.tables e below G T (mkF m (pc + 1) ls (v :: st))) : Go p.tables e below G T (mkF m pc ls st) := by
  obtain ⟨_, _, _, X, -⟩ := W
  exact Go.by (fun t q => XS.aloadN X.here B.1 rfl (hb B.2.2.2.1 hd) hl hv q) q
theorem g_aload (B : Bdy p Z s m meth c own bytes maxL ret nm) (W : Wk p l e R s m args below meth c Z T h k n ss) {i : Nat} {v : Value} (hd : decode bytes pc = .ok (.aload i, 2)) (hl : ls[i]? = some (.val v)) (hv : v.isRef = true) (q : Go p.tables e below G T (mkF m (pc + 2) ls (v :: st))) : Go p.tables e below G T (mkF m pc ls st) := by
  obtain ⟨_, _, _, X, -⟩ := W
  exact Go.by (fun t q => XS.aload X.here B.1 rfl (hb B.2.2.2.1 hd) hl hv q) q
theorem g_iload_n (B : Bdy p Z s m meth c own bytes maxL ret nm) (W : Wk p l e R s m args below meth c Z T h k n ss) {i : Fin 4} {v : Int32} (hd : decode bytes pc = .ok (.iload_n i, 1)) (hl : ls[i.val]? = some (.val (.int v))) (q : Go p.tables e below G T (mkF m (pc + 1) ls (.int v :: st))) : Go p.tables e below G T (mkF m pc ls st) := by
  obtain ⟨_, _, _, X, -⟩ := W
  exact Go.by (fun t q => XS.iloadN X.here B.1 rfl (hb B.2.2.2.1 hd) hl q) q
theorem g_iload (B : Bdy p Z s m meth c own bytes maxL ret nm) (W : Wk p l e R s m args below meth c Z T h k n ss) {i : Nat} {v : Int32} (hd : decode bytes pc = .ok (.iload i, 2)) (hl : ls[i]? = some (.val (.int v))) (q : Go p.tables e below G T (mkF m (pc + 2) ls (.int v :: st))) : Go p.tables e below G T (mkF m pc ls st) := by
  obtain ⟨_, _, _, X, -⟩ := W
  exact Go.by (fun t q => XS.iload X.here B.1 rfl (hb B.2.2.2.1 hd) hl q) q
theorem g_lload_n (B : Bdy p Z s m meth c own bytes maxL ret nm) (W : Wk p l e R s m args below meth c Z T h k n ss) {i : Fin 4} {v : Int64} (hd : decode bytes pc = .ok (.lload_n i, 1)) (hl : ls[i.val]? = some (.val (.long v))) (q : Go p.tables e below G T (mkF m (pc + 1) ls (.long v :: st))) : Go p.tables e below G T (mkF m pc ls st) := by
  obtain ⟨_, _, _, X, -⟩ := W
  exact Go.by (fun t q => XT.lloadN X.here B.1 rfl (hb B.2.2.2.1 hd) hl q) q
theorem g_lload (B : Bdy p Z s m meth c own bytes maxL ret nm) (W : Wk p l e R s m args below meth c Z T h k n ss) {i : Nat} {v : Int64} (hd : decode bytes pc = .ok (.lload i, 2)) (hl : ls[i]? = some (.val (.long v))) (q : Go p.tables e below G T (mkF m (pc + 2) ls (.long v :: st))) : Go p.tables e below G T (mkF m pc ls st) := by
  obtain ⟨_, _, _, X, -⟩ := W
  exact Go.by (fun t q => XT.lload X.here B.1 rfl (hb B.2.2.2.1 hd) hl q) q
theorem g_istore_n (B : Bdy p Z s m meth c own bytes maxL ret nm) (W : Wk p l e R s m args below meth c Z T h k n ss) {i : Fin 4} {v : Int32} {l' : Array Slot} (hd : decode bytes pc = .ok (.istore_n i, 1)) (hl : storeLocals ls i.val (.int v) = some l') (q : Go p.tables e below G T (mkF m (pc + 1) l' st)) : Go p.tables e below G T (mkF m pc ls (.int v :: st)) := by
  obtain ⟨_, _, _, X, -⟩ := W
  exact Go.by (fun t q => XS.istoreN X.here B.1 rfl (hb B.2.2.2.1 hd) rfl hl q) q
theorem g_istore (B : Bdy p Z s m meth c own bytes maxL ret nm) (W : Wk p l e R s m args below meth c Z T h k n ss) {i : Nat} {v : Int32} {l' : Array Slot} (hd : decode bytes pc = .ok (.istore i, 2)) (hl : storeLocals ls i (.int v) = some l') (q : Go p.tables e below G T (mkF m (pc + 2) l' st)) : Go p.tables e below G T (mkF m pc ls (.int v :: st)) := by
  obtain ⟨_, _, _, X, -⟩ := W
  exact Go.by (fun t q => XS.istore X.here B.1 rfl (hb B.2.2.2.1 hd) rfl hl q) q
theorem g_lstore_n (B : Bdy p Z s m meth c own bytes maxL ret nm) (W : Wk p l e R s m args below meth c Z T h k n ss) {i : Fin 4} {v : Int64} {l' : Array Slot} (hd : decode bytes pc = .ok (.lstore_n i, 1)) (hl : storeLocals ls i.val (.long v) = some l') (q : Go p.tables e below G T (mkF m (pc + 1) l' st)) : Go p.tables e below G T (mkF m pc ls (.long v :: st)) := by
  obtain ⟨_, _, _, X, -⟩ := W
  exact Go.by (fun t q => XT.lstoreN X.here B.1 rfl (hb B.2.2.2.1 hd) rfl hl q) q
theorem g_lstore (B : Bdy p Z s m meth c own bytes maxL ret nm) (W : Wk p l e R s m args below meth c Z T h k n ss) {i : Nat} {v : Int64} {l' : Array Slot} (hd : decode bytes pc = .ok (.lstore i, 2)) (hl : storeLocals ls i (.long v) = some l') (q : Go p.tables e below G T (mkF m (pc + 2) l' st)) : Go p.tables e below G T (mkF m pc ls (.long v :: st)) := by
  obtain ⟨_, _, _, X, -⟩ := W
  exact Go.by (fun t q => XT.lstore X.here B.1 rfl (hb B.2.2.2.1 hd) rfl hl q) q
theorem g_astore_n (B : Bdy p Z s m meth c own bytes maxL ret nm) (W : Wk p l e R s m args below meth c Z T h k n ss) {i : Fin 4} {v : Value} {l' : Array Slot} (hd : decode bytes pc = .ok (.astore_n i, 1)) (hv : v.isRef = true) (hl : storeLocals ls i.val v = some l') (q : Go p.tables e below G T (mkF m (pc + 1) l' st)) : Go p.tables e below G T (mkF m pc ls (v :: st)) := by
  obtain ⟨_, _, _, X, -⟩ := W
  exact Go.by (fun t q => XS.astoreN X.here B.1 rfl (hb B.2.2.2.1 hd) rfl hv hl q) q
theorem g_astore (B : Bdy p Z s m meth c own bytes maxL ret nm) (W : Wk p l e R s m args below meth c Z T h k n ss) {i : Nat} {v : Value} {l' : Array Slot} (hd : decode bytes pc = .ok (.astore i, 2)) (hv : v.isRef = true) (hl : storeLocals ls i v = some l') (q : Go p.tables e below G T (mkF m (pc + 2) l' st)) : Go p.tables e below G T (mkF m pc ls (v :: st)) := by
  obtain ⟨_, _, _, X, -⟩ := W
  exact Go.by (fun t q => XS.astore X.here B.1 rfl (hb B.2.2.2.1 hd) rfl hv hl q) q
theorem g_iconst (B : Bdy p Z s m meth c own bytes maxL ret nm) (W : Wk p l e R s m args below meth c Z T h k n ss) {i : Int} {v : Int32} (hd : decode bytes pc = .ok (.iconst i, 1)) (hv : Int32.ofInt i = v) (q : Go p.tables e below G T (mkF m (pc + 1) ls (.int v :: st))) : Go p.tables e below G T (mkF m pc ls st) := by
  obtain ⟨_, _, _, X, -⟩ := W
  exact Go.by (fun t q => XT.iconstV X.here B.1 rfl _ (hb B.2.2.2.1 hd) hv q) q
theorem g_bipush (B : Bdy p Z s m meth c own bytes maxL ret nm) (W : Wk p l e R s m args below meth c Z T h k n ss) {i : Int} {v : Int32} (hd : decode bytes pc = .ok (.bipush i, 2)) (hv : (Int8.ofInt i).toInt32 = v) (q : Go p.tables e below G T (mkF m (pc + 2) ls (.int v :: st))) : Go p.tables e below G T (mkF m pc ls st) := by
  obtain ⟨_, _, _, X, -⟩ := W
  exact Go.by (fun t q => XT.bipushV X.here B.1 rfl _ (hb B.2.2.2.1 hd) hv q) q
theorem g_sipush (B : Bdy p Z s m meth c own bytes maxL ret nm) (W : Wk p l e R s m args below meth c Z T h k n ss) {i : Int} {v : Int32} (hd : decode bytes pc = .ok (.sipush i, 3)) (hv : (Int16.ofInt i).toInt32 = v) (q : Go p.tables e below G T (mkF m (pc + 3) ls (.int v :: st))) : Go p.tables e below G T (mkF m pc ls st) := by
  obtain ⟨_, _, _, X, -⟩ := W
  exact Go.by (fun t q => XT.sipushV X.here B.1 rfl _ (hb B.2.2.2.1 hd) hv q) q
theorem g_lconst (B : Bdy p Z s m meth c own bytes maxL ret nm) (W : Wk p l e R s m args below meth c Z T h k n ss) {i : Fin 2} {v : Int64} (hd : decode bytes pc = .ok (.lconst i, 1)) (hv : Int64.ofNat i = v) (q : Go p.tables e below G T (mkF m (pc + 1) ls (.long v :: st))) : Go p.tables e below G T (mkF m pc ls st) := by
  obtain ⟨_, _, _, X, -⟩ := W
  exact Go.by (fun t q => XT.lconstV X.here B.1 rfl _ (hb B.2.2.2.1 hd) hv q) q
theorem g_aconst_null (B : Bdy p Z s m meth c own bytes maxL ret nm) (W : Wk p l e R s m args below meth c Z T h k n ss)  (hd : decode bytes pc = .ok (.aconst_null, 1))  (q : Go p.tables e below G T (mkF m (pc + 1) ls (.null :: st))) : Go p.tables e below G T (mkF m pc ls st) := by
  obtain ⟨_, _, _, X, -⟩ := W
  exact Go.by (fun t q => XS.aconstNull X.here B.1 rfl (hb B.2.2.2.1 hd) q) q
theorem g_iadd (B : Bdy p Z s m meth c own bytes maxL ret nm) (W : Wk p l e R s m args below meth c Z T h k n ss) {x y : Int32} (hd : decode bytes pc = .ok (.iadd, 1))  (q : Go p.tables e below G T (mkF m (pc + 1) ls (.int (x + y) :: st))) : Go p.tables e below G T (mkF m pc ls (.int y :: .int x :: st)) := by
  obtain ⟨_, _, _, X, -⟩ := W
  exact Go.by (fun t q => XS.iadd X.here B.1 rfl (hb B.2.2.2.1 hd) rfl q) q
theorem g_isub (B : Bdy p Z s m meth c own bytes maxL ret nm) (W : Wk p l e R s m args below meth c Z T h k n ss) {x y : Int32} (hd : decode bytes pc = .ok (.isub, 1))  (q : Go p.tables e below G T (mkF m (pc + 1) ls (.int (x - y) :: st))) : Go p.tables e below G T (mkF m pc ls (.int y :: .int x :: st)) := by
  obtain ⟨_, _, _, X, -⟩ := W
  exact Go.by (fun t q => XS.isub X.here B.1 rfl (hb B.2.2.2.1 hd) rfl q) q
theorem g_iand (B : Bdy p Z s m meth c own bytes maxL ret nm) (W : Wk p l e R s m args below meth c Z T h k n ss) {x y : Int32} (hd : decode bytes pc = .ok (.iand, 1))  (q : Go p.tables e below G T (mkF m (pc + 1) ls (.int (x &&& y) :: st))) : Go p.tables e below G T (mkF m pc ls (.int y :: .int x :: st)) := by
  obtain ⟨_, _, _, X, -⟩ := W
  exact Go.by (fun t q => XS.iand X.here B.1 rfl (hb B.2.2.2.1 hd) rfl q) q
theorem g_imul (B : Bdy p Z s m meth c own bytes maxL ret nm) (W : Wk p l e R s m args below meth c Z T h k n ss) {x y : Int32} (hd : decode bytes pc = .ok (.imul, 1))  (q : Go p.tables e below G T (mkF m (pc + 1) ls (.int (x * y) :: st))) : Go p.tables e below G T (mkF m pc ls (.int y :: .int x :: st)) := by
  obtain ⟨_, _, _, X, -⟩ := W
  exact Go.by (fun t q => XS.imul X.here B.1 rfl (hb B.2.2.2.1 hd) rfl q) q
theorem g_ior (B : Bdy p Z s m meth c own bytes maxL ret nm) (W : Wk p l e R s m args below meth c Z T h k n ss) {x y : Int32} (hd : decode bytes pc = .ok (.ior, 1))  (q : Go p.tables e below G T (mkF m (pc + 1) ls (.int (x ||| y) :: st))) : Go p.tables e below G T (mkF m pc ls (.int y :: .int x :: st)) := by
  obtain ⟨_, _, _, X, -⟩ := W
  exact Go.by (fun t q => XT.ior X.here B.1 rfl (hb B.2.2.2.1 hd) rfl q) q
theorem g_ixor (B : Bdy p Z s m meth c own bytes maxL ret nm) (W : Wk p l e R s m args below meth c Z T h k n ss) {x y : Int32} (hd : decode bytes pc = .ok (.ixor, 1))  (q : Go p.tables e below G T (mkF m (pc + 1) ls (.int (x ^^^ y) :: st))) : Go p.tables e below G T (mkF m pc ls (.int y :: .int x :: st)) := by
  obtain ⟨_, _, _, X, -⟩ := W
  exact Go.by (fun t q => XT.ixor X.here B.1 rfl (hb B.2.2.2.1 hd) rfl q) q
theorem g_ishl (B : Bdy p Z s m meth c own bytes maxL ret nm) (W : Wk p l e R s m args below meth c Z T h k n ss) {x y : Int32} (hd : decode bytes pc = .ok (.ishl, 1))  (q : Go p.tables e below G T (mkF m (pc + 1) ls (.int (x <<< (y &&& 31)) :: st))) : Go p.tables e below G T (mkF m pc ls (.int y :: .int x :: st)) := by
  obtain ⟨_, _, _, X, -⟩ := W
  exact Go.by (fun t q => XT.ishl X.here B.1 rfl (hb B.2.2.2.1 hd) rfl q) q
theorem g_ishr (B : Bdy p Z s m meth c own bytes maxL ret nm) (W : Wk p l e R s m args below meth c Z T h k n ss) {x y : Int32} (hd : decode bytes pc = .ok (.ishr, 1))  (q : Go p.tables e below G T (mkF m (pc + 1) ls (.int (x >>> (y &&& 31)) :: st))) : Go p.tables e below G T (mkF m pc ls (.int y :: .int x :: st)) := by
  obtain ⟨_, _, _, X, -⟩ := W
  exact Go.by (fun t q => XT.ishr X.here B.1 rfl (hb B.2.2.2.1 hd) rfl q) q
theorem g_iushr (B : Bdy p Z s m meth c own bytes maxL ret nm) (W : Wk p l e R s m args below meth c Z T h k n ss) {x y : Int32} (hd : decode bytes pc = .ok (.iushr, 1))  (q : Go p.tables e below G T (mkF m (pc + 1) ls (.int (XT.ushr x y) :: st))) : Go p.tables e below G T (mkF m pc ls (.int y :: .int x :: st)) := by
  obtain ⟨_, _, _, X, -⟩ := W
  exact Go.by (fun t q => XT.iushr X.here B.1 rfl (hb B.2.2.2.1 hd) rfl q) q
theorem g_idiv (B : Bdy p Z s m meth c own bytes maxL ret nm) (W : Wk p l e R s m args below meth c Z T h k n ss) {x y : Int32} (hd : decode bytes pc = .ok (.idiv, 1)) (hy : y ≠ 0) (q : Go p.tables e below G T (mkF m (pc + 1) ls (.int (x / y) :: st))) : Go p.tables e below G T (mkF m pc ls (.int y :: .int x :: st)) := by
  obtain ⟨_, _, _, X, -⟩ := W
  exact Go.by (fun t q => XS.idiv X.here B.1 rfl (hb B.2.2.2.1 hd) rfl hy q) q
theorem g_irem (B : Bdy p Z s m meth c own bytes maxL ret nm) (W : Wk p l e R s m args below meth c Z T h k n ss) {x y : Int32} (hd : decode bytes pc = .ok (.irem, 1)) (hy : y ≠ 0) (q : Go p.tables e below G T (mkF m (pc + 1) ls (.int (x % y) :: st))) : Go p.tables e below G T (mkF m pc ls (.int y :: .int x :: st))   := by
  obtain ⟨_, _, _, X, -⟩ := W
  exact Go.by (fun t q => iremM X B.1 rfl (hb B.2.2.2.1 hd) rfl hy q) q
theorem g_ineg (B : Bdy p Z s m meth c own bytes maxL ret nm) (W : Wk p l e R s m args below meth c Z T h k n ss) {x : Int32} (hd : decode bytes pc = .ok (.ineg, 1))  (q : Go p.tables e below G T (mkF m (pc + 1) ls (.int (-x) :: st))) : Go p.tables e below G T (mkF m pc ls (.int x :: st)) := by
  obtain ⟨_, _, _, X, -⟩ := W
  exact Go.by (fun t q => XS.ineg X.here B.1 rfl (hb B.2.2.2.1 hd) rfl q) q
theorem g_i2c (B : Bdy p Z s m meth c own bytes maxL ret nm) (W : Wk p l e R s m args below meth c Z T h k n ss) {x : Int32} (hd : decode bytes pc = .ok (.i2c, 1))  (q : Go p.tables e below G T (mkF m (pc + 1) ls (.int x.toUInt32.toUInt16.toUInt32.toInt32 :: st))) : Go p.tables e below G T (mkF m pc ls (.int x :: st)) := by
  obtain ⟨_, _, _, X, -⟩ := W
  exact Go.by (fun t q => XT.i2c X.here B.1 rfl (hb B.2.2.2.1 hd) rfl q) q
theorem g_i2b (B : Bdy p Z s m meth c own bytes maxL ret nm) (W : Wk p l e R s m args below meth c Z T h k n ss) {x : Int32} (hd : decode bytes pc = .ok (.i2b, 1))  (q : Go p.tables e below G T (mkF m (pc + 1) ls (.int x.toInt8.toInt32 :: st))) : Go p.tables e below G T (mkF m pc ls (.int x :: st)) := by
  obtain ⟨_, _, _, X, -⟩ := W
  exact Go.by (fun t q => XT.i2b X.here B.1 rfl (hb B.2.2.2.1 hd) rfl q) q
theorem g_i2l (B : Bdy p Z s m meth c own bytes maxL ret nm) (W : Wk p l e R s m args below meth c Z T h k n ss) {x : Int32} (hd : decode bytes pc = .ok (.i2l, 1))  (q : Go p.tables e below G T (mkF m (pc + 1) ls (.long x.toInt64 :: st))) : Go p.tables e below G T (mkF m pc ls (.int x :: st)) := by
  obtain ⟨_, _, _, X, -⟩ := W
  exact Go.by (fun t q => XT.i2l X.here B.1 rfl (hb B.2.2.2.1 hd) rfl q) q
theorem g_l2i (B : Bdy p Z s m meth c own bytes maxL ret nm) (W : Wk p l e R s m args below meth c Z T h k n ss) {x : Int64} (hd : decode bytes pc = .ok (.l2i, 1))  (q : Go p.tables e below G T (mkF m (pc + 1) ls (.int x.toInt32 :: st))) : Go p.tables e below G T (mkF m pc ls (.long x :: st)) := by
  obtain ⟨_, _, _, X, -⟩ := W
  exact Go.by (fun t q => XT.l2i X.here B.1 rfl (hb B.2.2.2.1 hd) rfl q) q
theorem g_land (B : Bdy p Z s m meth c own bytes maxL ret nm) (W : Wk p l e R s m args below meth c Z T h k n ss) {x y : Int64} (hd : decode bytes pc = .ok (.land, 1))  (q : Go p.tables e below G T (mkF m (pc + 1) ls (.long (x &&& y) :: st))) : Go p.tables e below G T (mkF m pc ls (.long y :: .long x :: st)) := by
  obtain ⟨_, _, _, X, -⟩ := W
  exact Go.by (fun t q => XT.land X.here B.1 rfl (hb B.2.2.2.1 hd) rfl q) q
theorem g_ladd (B : Bdy p Z s m meth c own bytes maxL ret nm) (W : Wk p l e R s m args below meth c Z T h k n ss) {x y : Int64} (hd : decode bytes pc = .ok (.ladd, 1))  (q : Go p.tables e below G T (mkF m (pc + 1) ls (.long (x + y) :: st))) : Go p.tables e below G T (mkF m pc ls (.long y :: .long x :: st)) := by
  obtain ⟨_, _, _, X, -⟩ := W
  exact Go.by (fun t q => XT.ladd X.here B.1 rfl (hb B.2.2.2.1 hd) rfl q) q
theorem g_lcmp (B : Bdy p Z s m meth c own bytes maxL ret nm) (W : Wk p l e R s m args below meth c Z T h k n ss) {x y : Int64} (hd : decode bytes pc = .ok (.lcmp, 1))  (q : Go p.tables e below G T (mkF m (pc + 1) ls (.int (XT.cmpL x y) :: st))) : Go p.tables e below G T (mkF m pc ls (.long y :: .long x :: st)) := by
  obtain ⟨_, _, _, X, -⟩ := W
  exact Go.by (fun t q => XT.lcmp X.here B.1 rfl (hb B.2.2.2.1 hd) rfl q) q
theorem g_lushr (B : Bdy p Z s m meth c own bytes maxL ret nm) (W : Wk p l e R s m args below meth c Z T h k n ss) {x : Int64} {y : Int32} (hd : decode bytes pc = .ok (.lushr, 1))  (q : Go p.tables e below G T (mkF m (pc + 1) ls (.long (XT.ushrL x y) :: st))) : Go p.tables e below G T (mkF m pc ls (.int y :: .long x :: st)) := by
  obtain ⟨_, _, _, X, -⟩ := W
  exact Go.by (fun t q => XT.lushr X.here B.1 rfl (hb B.2.2.2.1 hd) rfl q) q
theorem g_iinc (B : Bdy p Z s m meth c own bytes maxL ret nm) (W : Wk p l e R s m args below meth c Z T h k n ss) {i : Nat} {cst : Int} {x v : Int32} {l' : Array Slot} (hd : decode bytes pc = .ok (.iinc i cst, 3)) (hv : Int32.ofInt cst = v) (hl : ls[i]? = some (.val (.int x))) (hl' : storeLocals ls i (.int (x + v)) = some l') (q : Go p.tables e below G T (mkF m (pc + 3) l' st)) : Go p.tables e below G T (mkF m pc ls st) := by
  obtain ⟨_, _, _, X, -⟩ := W
  exact Go.by (fun t q => XT.iincV X.here B.1 rfl _ (hb B.2.2.2.1 hd) hv hl hl' q) q
theorem g_dup (B : Bdy p Z s m meth c own bytes maxL ret nm) (W : Wk p l e R s m args below meth c Z T h k n ss) {v : Value} (hd : decode bytes pc = .ok (.dup, 1)) (hv : v.category = 1) (q : Go p.tables e below G T (mkF m (pc + 1) ls (v :: v :: st))) : Go p.tables e below G T (mkF m pc ls (v :: st)) := by
  obtain ⟨_, _, _, X, -⟩ := W
  exact Go.by (fun t q => XS.dup X.here B.1 rfl (hb B.2.2.2.1 hd) rfl hv q) q
theorem g_dup_x1 (B : Bdy p Z s m meth c own bytes maxL ret nm) (W : Wk p l e R s m args below meth c Z T h k n ss) {v w : Value} (hd : decode bytes pc = .ok (.dup_x1, 1)) (hv : v.category = 1) (hw' : w.category = 1) (q : Go p.tables e below G T (mkF m (pc + 1) ls (v :: w :: v :: st))) : Go p.tables e below G T (mkF m pc ls (v :: w :: st)) := by
  obtain ⟨_, _, _, X, -⟩ := W
  exact Go.by (fun t q => XT.dupX1 X.here B.1 rfl (hb B.2.2.2.1 hd) rfl hv hw' q) q
theorem g_pop (B : Bdy p Z s m meth c own bytes maxL ret nm) (W : Wk p l e R s m args below meth c Z T h k n ss) {v : Value} (hd : decode bytes pc = .ok (.pop, 1)) (hv : v.category = 1) (q : Go p.tables e below G T (mkF m (pc + 1) ls st)) : Go p.tables e below G T (mkF m pc ls (v :: st)) := by
  obtain ⟨_, _, _, X, -⟩ := W
  exact Go.by (fun t q => XT.pop X.here B.1 rfl (hb B.2.2.2.1 hd) rfl hv q) q
theorem g_goto (B : Bdy p Z s m meth c own bytes maxL ret nm) (W : Wk p l e R s m args below meth c Z T h k n ss)  {o : Int} {pc' : Nat} (hd : decode bytes pc = .ok (.goto o, 3))  (hp : (pc : Int) + o = (pc' : Int)) (q : Go p.tables e below G T (mkF m pc' ls st)) : Go p.tables e below G T (mkF m pc ls st)   := by
  obtain ⟨_, _, _, X, -⟩ := W
  exact Go.by (fun t q => XS.goto X.here B.1 rfl rfl (hb B.2.2.2.1 hd)  (by rw [hp]; exact Int.natCast_nonneg _) (by rw [hp]; exact Int.toNat_natCast _) q) q
theorem g_if_y (B : Bdy p Z s m meth c own bytes maxL ret nm) (W : Wk p l e R s m args below meth c Z T h k n ss) {cd : ClassFile.Cond} {x : Int32} {o : Int} {pc' : Nat} (hd : decode bytes pc = .ok (.ifCond cd o, 3)) (hc : ifCond.holds cd x = true) (hp : (pc : Int) + o = (pc' : Int)) (q : Go p.tables e below G T (mkF m pc' ls st)) : Go p.tables e below G T (mkF m pc ls (.int x :: st))   := by
  obtain ⟨_, _, _, X, -⟩ := W
  exact Go.by (fun t q => XS.ifYes X.here B.1 rfl rfl (hb B.2.2.2.1 hd) rfl hc (by rw [hp]; exact Int.natCast_nonneg _) (by rw [hp]; exact Int.toNat_natCast _) q) q
theorem g_if_n (B : Bdy p Z s m meth c own bytes maxL ret nm) (W : Wk p l e R s m args below meth c Z T h k n ss) {cd : ClassFile.Cond} {x : Int32} {o : Int} (hd : decode bytes pc = .ok (.ifCond cd o, 3)) (hc : ifCond.holds cd x = false) (q : Go p.tables e below G T (mkF m (pc + 3) ls st)) : Go p.tables e below G T (mkF m pc ls (.int x :: st))   := by
  obtain ⟨_, _, _, X, -⟩ := W
  exact Go.by (fun t q => XS.ifNo X.here B.1 rfl (hb B.2.2.2.1 hd) rfl hc q) q
theorem g_icmp_y (B : Bdy p Z s m meth c own bytes maxL ret nm) (W : Wk p l e R s m args below meth c Z T h k n ss) {cd : ClassFile.Cond} {x y : Int32} {o : Int} {pc' : Nat} (hd : decode bytes pc = .ok (.if_icmp cd o, 3)) (hc : if_icmp.holds cd x y = true) (hp : (pc : Int) + o = (pc' : Int)) (q : Go p.tables e below G T (mkF m pc' ls st)) : Go p.tables e below G T (mkF m pc ls (.int y :: .int x :: st))   := by
  obtain ⟨_, _, _, X, -⟩ := W
  exact Go.by (fun t q => XS.icmpYes X.here B.1 rfl rfl (hb B.2.2.2.1 hd) rfl hc (by rw [hp]; exact Int.natCast_nonneg _) (by rw [hp]; exact Int.toNat_natCast _) q) q
theorem g_icmp_n (B : Bdy p Z s m meth c own bytes maxL ret nm) (W : Wk p l e R s m args below meth c Z T h k n ss) {cd : ClassFile.Cond} {x y : Int32} {o : Int} (hd : decode bytes pc = .ok (.if_icmp cd o, 3)) (hc : if_icmp.holds cd x y = false) (q : Go p.tables e below G T (mkF m (pc + 3) ls st)) : Go p.tables e below G T (mkF m pc ls (.int y :: .int x :: st))   := by
  obtain ⟨_, _, _, X, -⟩ := W
  exact Go.by (fun t q => XS.icmpNo X.here B.1 rfl (hb B.2.2.2.1 hd) rfl hc q) q
theorem g_ifnull_y (B : Bdy p Z s m meth c own bytes maxL ret nm) (W : Wk p l e R s m args below meth c Z T h k n ss)  {o : Int} {pc' : Nat} (hd : decode bytes pc = .ok (.ifnull o, 3))  (hp : (pc : Int) + o = (pc' : Int)) (q : Go p.tables e below G T (mkF m pc' ls st)) : Go p.tables e below G T (mkF m pc ls (.null :: st))   := by
  obtain ⟨_, _, _, X, -⟩ := W
  exact Go.by (fun t q => XS.ifnullYes X.here B.1 rfl rfl (hb B.2.2.2.1 hd) rfl (by rw [hp]; exact Int.natCast_nonneg _) (by rw [hp]; exact Int.toNat_natCast _) q) q
theorem g_ifnull_n (B : Bdy p Z s m meth c own bytes maxL ret nm) (W : Wk p l e R s m args below meth c Z T h k n ss) {a : Addr} {o : Int} (hd : decode bytes pc = .ok (.ifnull o, 3))  (q : Go p.tables e below G T (mkF m (pc + 3) ls st)) : Go p.tables e below G T (mkF m pc ls (.ref a :: st))   := by
  obtain ⟨_, _, _, X, -⟩ := W
  exact Go.by (fun t q => XS.ifnullNo X.here B.1 rfl (hb B.2.2.2.1 hd) rfl q) q
theorem g_ifnonnull_y (B : Bdy p Z s m meth c own bytes maxL ret nm) (W : Wk p l e R s m args below meth c Z T h k n ss) {a : Addr} {o : Int} {pc' : Nat} (hd : decode bytes pc = .ok (.ifnonnull o, 3))  (hp : (pc : Int) + o = (pc' : Int)) (q : Go p.tables e below G T (mkF m pc' ls st)) : Go p.tables e below G T (mkF m pc ls (.ref a :: st))   := by
  obtain ⟨_, _, _, X, -⟩ := W
  exact Go.by (fun t q => XT.ifnonnullYes X.here B.1 rfl rfl (hb B.2.2.2.1 hd) rfl (by rw [hp]; exact Int.natCast_nonneg _) (by rw [hp]; exact Int.toNat_natCast _) q) q
theorem g_ifnonnull_n (B : Bdy p Z s m meth c own bytes maxL ret nm) (W : Wk p l e R s m args below meth c Z T h k n ss)  {o : Int} (hd : decode bytes pc = .ok (.ifnonnull o, 3))  (q : Go p.tables e below G T (mkF m (pc + 3) ls st)) : Go p.tables e below G T (mkF m pc ls (.null :: st))   := by
  obtain ⟨_, _, _, X, -⟩ := W
  exact Go.by (fun t q => XT.ifnonnullNo X.here B.1 rfl (hb B.2.2.2.1 hd) rfl q) q
theorem g_acmp_y (B : Bdy p Z s m meth c own bytes maxL ret nm) (W : Wk p l e R s m args below meth c Z T h k n ss) {cd : ClassFile.ACond} {x y : Value} {o : Int} {pc' : Nat} (hd : decode bytes pc = .ok (.if_acmp cd o, 3)) (hx' : x.isRef = true) (hy' : y.isRef = true) (hc : XT.acmp cd x y = true) (hp : (pc : Int) + o = (pc' : Int)) (q : Go p.tables e below G T (mkF m pc' ls st)) : Go p.tables e below G T (mkF m pc ls (y :: x :: st))   := by
  obtain ⟨_, _, _, X, -⟩ := W
  exact Go.by (fun t q => XT.acmpYes X.here B.1 rfl rfl (hb B.2.2.2.1 hd) rfl hx' hy' hc (by rw [hp]; exact Int.natCast_nonneg _) (by rw [hp]; exact Int.toNat_natCast _) q) q
theorem g_acmp_n (B : Bdy p Z s m meth c own bytes maxL ret nm) (W : Wk p l e R s m args below meth c Z T h k n ss) {cd : ClassFile.ACond} {x y : Value} {o : Int} (hd : decode bytes pc = .ok (.if_acmp cd o, 3)) (hx' : x.isRef = true) (hy' : y.isRef = true) (hc : XT.acmp cd x y = false) (q : Go p.tables e below G T (mkF m (pc + 3) ls st)) : Go p.tables e below G T (mkF m pc ls (y :: x :: st))   := by
  obtain ⟨_, _, _, X, -⟩ := W
  exact Go.by (fun t q => XT.acmpNo X.here B.1 rfl (hb B.2.2.2.1 hd) rfl hx' hy' hc q) q
theorem ss_mono {vm0 vm1 : Vm} (A : CHr Z EL vm0 h vm1 h') (hss : ∀ x ∈ ss, x < h.size ∧ Safe Z EL vm0 h x) : ∀ x ∈ ss, x < h'.size ∧ Safe Z EL vm1 h' x := fun x q => ⟨Nat.lt_of_lt_of_le (hss x q).1 A.2.1, A.safe (hss x q).1 (hss x q).2⟩
theorem own_ssn {vm0 : Vm} (E : Ext h h') (H : CHv Z EL vm0 h) (hlt : h.size < h'.size) (hss : ∀ x ∈ ss, x < h.size ∧ Safe Z EL vm0 h x) : ∀ x ∈ h.size :: ss, x < h'.size ∧ Safe Z EL vm0 h' x := fun x q => by
  rcases List.mem_cons.mp q with rfl | q
  · exact ⟨hlt, Safe.ext E H (Safe.new (Nat.le_refl _))⟩
  · exact ss_mono (CHr.ext E H) hss x q
theorem g_dia (P : Prop) [Decidable P] {tb : Tables} {F : JFrame} {pc' : Nat} (h1 : P → Go tb e below G T (mkF m pc' ls (.int 1 :: st)) → Go tb e below G T F) (h0 : ¬ P → Go tb e below G T (mkF m pc' ls (.int 0 :: st)) → Go tb e below G T F) (q : Go tb e below G T (mkF m pc' ls (.int (bi (decide P)) :: st))) : Go tb e below G T F := by
  by_cases hp : P
  · rw [decide_eq_true hp] at q; exact h1 hp q
  · rw [decide_eq_false hp] at q; exact h0 hp q
theorem g_diab (b : Bool) {tb : Tables} {F : JFrame} {pc' : Nat} (h1 : b = true → Go tb e below G T (mkF m pc' ls (.int 1 :: st)) → Go tb e below G T F) (h0 : b = false → Go tb e below G T (mkF m pc' ls (.int 0 :: st)) → Go tb e below G T F) (q : Go tb e below G T (mkF m pc' ls (.int (bi b) :: st))) : Go tb e below G T F := by
  cases b
  · exact h0 rfl q
  · exact h1 rfl q
theorem g_ldcI (B : Bdy p Z s m meth c own bytes maxL ret nm) (W : Wk p l e R s m args below meth c Z T h k n ss) {i : Nat} {v : Int32} (hd : decode bytes pc = .ok (.ldc i, 2)) (w : (Cond.constant own i v).before a0 Z = true) (q : Go p.tables e below G T (mkF m (pc + 2) ls (.int v :: st))) : Go p.tables e below G T (mkF m pc ls st) := by
  obtain ⟨_, _, _, X, _, _, _, S, -⟩ := W
  have B := B.at S
  exact Go.by (fun t q => X.ldcI B.1 B.2.2.1 (mv B.2.1 w) rfl (hb B.2.2.2.1 hd) q) q
theorem g_ldcL (B : Bdy p Z s m meth c own bytes maxL ret nm) (W : Wk p l e R s m args below meth c Z T h k n ss) {i : Nat} {v : Int64} (hd : decode bytes pc = .ok (.ldc2_w i, 3)) (w : (Cond.constantLong own i v).before a0 Z = true) (q : Go p.tables e below G T (mkF m (pc + 3) ls (.long v :: st))) : Go p.tables e below G T (mkF m pc ls st) := by
  obtain ⟨_, _, _, X, _, _, _, S, -⟩ := W
  have B := B.at S
  exact Go.by (fun t q => X.ldc2J B.1 B.2.2.1 (mv B.2.1 w) rfl (hb B.2.2.2.1 hd) q) q
/-! ### the heap's steps -/
theorem x_new (B : Bdy p Z s m meth c own bytes maxL ret nm) (W : Wk p l e R s m args below meth c Z T h k n ss) {C : String} {i sz : Nat} (hd : decode bytes pc = .ok (.new i, 3)) (w : (Cond.classLink own i C).before a0 Z = true) (wi : (Cond.instantiable C sz).before a0 Z = true) (wz : (Cond.initialized C).before a0 Z = true) (hc : k + 1 ≤ R.cells) (hl : n + sz ≤ R.slots) (ls : Array Slot) (st : List Value) :
    ∃ T' h' b, b = h.size ∧ Wk p l e R s m args below meth c Z T' h' (k + 1) (n + sz) (b :: ss) ∧ Keep h h' [] ∧ Exa Z h' b C ∧ (∀ {O nf d : String} {ty : FieldType}, Laid Z a0 C O nf d → parseFieldDescriptor d = some ty → Fld Z h' b O nf d (defaultValue ty)) ∧
      (∀ G, Go p.tables e below G T' (mkF m (pc + 3) ls (.ref b :: st)) → Go p.tables e below G T (mkF m pc ls st)) := by
  obtain ⟨locs, vm0, k0, X, eT, N, O, S, hk, H, hss⟩ := W
  have B := B.at S
  obtain ⟨T', h', X', e', E', A', D', -, st'⟩ := newO X B.1 B.2.1 B.2.2.1 w wi wz eT (g := mkF m pc ls st) rfl (hb B.2.2.2.1 hd) hc hl
  exact ⟨T', h', _, rfl, ⟨locs, vm0, k0, X', e', N, O.ext E', S, Nat.le_trans hk E'.1, H.trans (CHr.ext E' H.1), own_ssn E' H.1 (by first | exact A'.lt | exact (Arv.new A' hn).lt) hss⟩, (Keep.refl h []).ext E', A', D', fun G q => Go.by st' q⟩
theorem x_init (B : Bdy p Z s m meth c own bytes maxL ret nm) (W : Wk p l e R s m args below meth c Z T h k n ss) {i : Nat} (hd : decode bytes pc = .ok (.invokespecial i, 3)) (w1 : (Cond.methodLink own i Lib.objectInit).before a0 Z = true) (w2 : (Cond.instanceMethod Lib.objectInit).before a0 Z = true)
    (w3 : (Cond.code Lib.objectInit ⟨#[0xb1]⟩ 1 none).before a0 Z = true) (b : Addr) (ls : Array Slot) (st : List Value) (hsz : ls.size = maxL) (V : Nat) (hV : (st.map fun v => v.category).sum = V) (hf : 1 ≤ R.frames) (hl : V + 12 ≤ R.locals) :
    ∃ T', Wk p l e R s m args below meth c Z T' h k n ss ∧ (∀ G, Go p.tables e below G T' (mkF m (pc + 3) ls st) → Go p.tables e below G T (mkF m pc ls (.ref b :: st))) := by
  obtain ⟨locs, vm0, k0, X, eT, N, O, S, hk, H, hss⟩ := W
  have B := B.at S
  obtain ⟨T', X', e', st'⟩ := initO X B.1 B.2.1 B.2.2.1 w1 w2 w3 eT (g := mkF m pc ls (.ref b :: st)) rfl (hsz.trans B.2.2.2.2.1.symm) rfl (hb B.2.2.2.1 hd) hf (W := V) (by show 2 * 0 + _ ≤ _; omega) hl
  exact ⟨T', ⟨locs, vm0, k0, X', e', N, O, S, hk, H, hss⟩, fun G q => Go.by st' q⟩
theorem x_get (B : Bdy p Z s m meth c own bytes maxL ret nm) (W : Wk p l e R s m args below meth c Z T h k n ss) {R0 O nf d host : String} {i : Nat} {b : Addr} {v : Value} (hd : decode bytes pc = .ok (.getfield i, 3)) (w : (Cond.fieldLink own i R0 nf d).before a0 Z = true ∨ (Cond.fieldLinkNest own i R0 nf d host).before a0 Z = true) (via : Via Z R0 O nf d) (F : Fld Z h b O nf d v) (ls : Array Slot) (st : List Value) :
    ∃ T', Wk p l e R s m args below meth c Z T' h k n ss ∧ (∀ G, Go p.tables e below G T' (mkF m (pc + 3) ls (v :: st)) → Go p.tables e below G T (mkF m pc ls (.ref b :: st))) := by
  obtain ⟨locs, vm0, k0, X, eT, N, O', S, hk, H, hss⟩ := W
  have B := B.at S
  obtain ⟨T', X', e', st'⟩ := getF X B.1 B.2.1 B.2.2.1 w via eT F (g := mkF m pc ls (.ref b :: st)) rfl rfl (hb B.2.2.2.1 hd)
  exact ⟨T', ⟨locs, vm0, k0, X', e', N, O', S, hk, H, hss⟩, fun G q => Go.by st' q⟩
theorem x_gets (B : Bdy p Z s m meth c own bytes maxL ret nm) (W : Wk p l e R s m args below meth c Z T h k n ss) {R0 O nf d host : String} {i : Nat} {v : Value} (hd : decode bytes pc = .ok (.getstatic i, 3)) (w : (Cond.fieldLink own i R0 nf d).before a0 Z = true ∨ (Cond.fieldLinkNest own i R0 nf d host).before a0 Z = true) (via : Via Z R0 O nf d) (F : Sta Z Z.heap O nf d v) (ls : Array Slot) (st : List Value) :
    ∃ T', Wk p l e R s m args below meth c Z T' h k n ss ∧ (∀ G, Go p.tables e below G T' (mkF m (pc + 3) ls (v :: st)) → Go p.tables e below G T (mkF m pc ls st)) := by
  obtain ⟨locs, vm0, k0, X, eT, N, O', S, hk, H, hss⟩ := W
  have B := B.at S
  obtain ⟨T', X', e', st'⟩ := getS2 X B.1 B.2.1 B.2.2.1 w via eT (F.ext O'.2) (g := mkF m pc ls st) rfl (hb B.2.2.2.1 hd)
  exact ⟨T', ⟨locs, vm0, k0, X', e', N, O', S, hk, H, hss⟩, fun G q => Go.by st' q⟩
theorem x_put (B : Bdy p Z s m meth c own bytes maxL ret nm) (W : Wk p l e R s m args below meth c Z T h k n ss) {R0 O nf d C : String} {i kk : Nat} {ty : FieldType} {b : Addr} {v v' old : Value} (hd : decode bytes pc = .ok (.putfield i, 3)) (w : (Cond.fieldLink own i R0 nf d).before a0 Z = true) (via : Via Z R0 O nf d) (F : Fld Z h b O nf d old) (E : Exa Z h b C) (L : (Cond.lays C O nf d).before a0 Z = true ∨ ((Cond.laysFinal C O nf d).before a0 Z = true ∧ own = O ∧ nm = "<init>")) (wi : (Cond.instantiable C kk).before a0 Z = true)
    (hty : parseFieldDescriptor d = some ty) (hn : narrow ty v = v') (hf : fits ty v' = true) (hb' : Z.heap.size ≤ b) (hsf : (C ≠ "java/lang/String" ∧ C ≠ "[B") ∨ b ∈ ss) (ls : Array Slot) (st : List Value) :
    ∃ T' h', Wk p l e R s m args below meth c Z T' h' k n ss ∧ Keep h h' [b] ∧ Wr h h' b (RoadKit.slotOf Z O nf d) v' ∧ Fld Z h' b O nf d v' ∧ Exa Z h' b C ∧ (∀ G, Go p.tables e below G T' (mkF m (pc + 3) ls st) → Go p.tables e below G T (mkF m pc ls (v :: .ref b :: st))) := by
  obtain ⟨locs, vm0, k0, X, eT, N, O', S, hk, H, hss⟩ := W
  have B := B.at S
  obtain ⟨T', h', X', e', W', st'⟩ := putFN X B.1 B.2.1 B.2.2.1 w via eT F E (L.imp id fun q => ⟨q.1, q.2.1, B.nameOf.trans q.2.2⟩) wi hty hn hf (g := mkF m pc ls (v :: .ref b :: st)) rfl rfl (hb B.2.2.2.1 hd)
  exact ⟨T', h', ⟨_, vm0, k0, X', e', Fr.snoc X' N hb', O'.wr W' hb', S, by rw [W'.size]; exact hk, H.trans (CHr.wr W' (hsf.elim (fun q => Safe.exa B.2.1.alike E q.1 q.2) fun q => (hss _ q).2) H.1), ss_mono (CHr.wr W' (hsf.elim (fun q => Safe.exa B.2.1.alike E q.1 q.2) fun q => (hss _ q).2) H.1) hss⟩, Keep.of_wr W', W', F.same W', E.wr W', fun G q => Go.by st' q⟩
theorem x_instY (B : Bdy p Z s m meth c own bytes maxL ret nm) (W : Wk p l e R s m args below meth c Z T h k n ss) {K : String} {i : Nat} {b : Addr} (hd : decode bytes pc = .ok (.instanceof i, 3)) (w : (Cond.classLink own i K).before a0 Z = true) (F : Ins Z h b K true) (ls : Array Slot) (st : List Value) :
    ∃ T', Wk p l e R s m args below meth c Z T' h k n ss ∧ (∀ G, Go p.tables e below G T' (mkF m (pc + 3) ls (.int 1 :: st)) → Go p.tables e below G T (mkF m pc ls (.ref b :: st))) := by
  obtain ⟨locs, vm0, k0, X, eT, N, O, S, hk, H, hss⟩ := W
  have B := B.at S
  obtain ⟨T', X', e', st'⟩ := instY X B.1 B.2.1 B.2.2.1 w eT F (g := mkF m pc ls (.ref b :: st)) rfl rfl (hb B.2.2.2.1 hd)
  exact ⟨T', ⟨locs, vm0, k0, X', e', N, O, S, hk, H, hss⟩, fun G q => Go.by st' q⟩
theorem x_instN (B : Bdy p Z s m meth c own bytes maxL ret nm) (W : Wk p l e R s m args below meth c Z T h k n ss) {K C : String} {i : Nat} {b : Addr} (hd : decode bytes pc = .ok (.instanceof i, 3)) (w : (Cond.classLink own i K).before a0 Z = true) (E : Exa Z h b C) (F : ∃ c t, Z.vm.findClass C = some c ∧ Z.vm.findClass K = some t ∧ Z.vm.assignable c t = false) (ls : Array Slot) (st : List Value) :
    ∃ T', Wk p l e R s m args below meth c Z T' h k n ss ∧ (∀ G, Go p.tables e below G T' (mkF m (pc + 3) ls (.int 0 :: st)) → Go p.tables e below G T (mkF m pc ls (.ref b :: st))) := by
  obtain ⟨locs, vm0, k0, X, eT, N, O, S, hk, H, hss⟩ := W
  have B := B.at S
  obtain ⟨T', X', e', st'⟩ := instNo X B.1 B.2.1 B.2.2.1 w eT E F (g := mkF m pc ls (.ref b :: st)) rfl rfl (hb B.2.2.2.1 hd)
  exact ⟨T', ⟨locs, vm0, k0, X', e', N, O, S, hk, H, hss⟩, fun G q => Go.by st' q⟩
theorem x_castY (B : Bdy p Z s m meth c own bytes maxL ret nm) (W : Wk p l e R s m args below meth c Z T h k n ss) {K : String} {i : Nat} {b : Addr} (hd : decode bytes pc = .ok (.checkcast i, 3)) (w : (Cond.classLink own i K).before a0 Z = true) (F : Ins Z h b K true) (ls : Array Slot) (st : List Value) :
    ∃ T', Wk p l e R s m args below meth c Z T' h k n ss ∧ (∀ G, Go p.tables e below G T' (mkF m (pc + 3) ls (.ref b :: st)) → Go p.tables e below G T (mkF m pc ls (.ref b :: st))) := by
  obtain ⟨locs, vm0, k0, X, eT, N, O, S, hk, H, hss⟩ := W
  have B := B.at S
  obtain ⟨T', X', e', st'⟩ := castY X B.1 B.2.1 B.2.2.1 w eT F (g := mkF m pc ls (.ref b :: st)) rfl rfl (hb B.2.2.2.1 hd)
  exact ⟨T', ⟨locs, vm0, k0, X', e', N, O, S, hk, H, hss⟩, fun G q => Go.by st' q⟩
/-! ### arrays -/
theorem x_newA (B : Bdy p Z s m meth c own bytes maxL ret nm) (W : Wk p l e R s m args below meth c Z T h k n ss) {aty : ArrayType} {z : Int32} (cap : Nat) (hd : decode bytes pc = .ok (.newarray aty, 2)) (w : (Cond.arrayClass (newarray.typeOf aty)).before a0 Z = true) (hn : ¬ z < 0) (hcap : z.toNatClampNeg ≤ cap) (hbg : cap * 8 ≤ 536870912) (hc : k + 1 ≤ R.cells) (hl : n + cap ≤ R.slots) (ls : Array Slot) (st : List Value) :
    ∃ T' h' b cA, b = h.size ∧ Wk p l e R s m args below meth c Z T' h' (k + 1) (n + cap) (b :: ss) ∧ Keep h h' [] ∧ Arv Z h' b cA (newarray.typeOf aty) z (List.replicate cap (defaultValue (newarray.typeOf aty))) (defaultValue (newarray.typeOf aty)) ∧
      (∀ G, Go p.tables e below G T' (mkF m (pc + 2) ls (.ref b :: st)) → Go p.tables e below G T (mkF m pc ls (.int z :: st))) := by
  obtain ⟨locs, vm0, k0, X, eT, N, O, S, hk, H, hss⟩ := W
  have B := B.at S
  obtain ⟨T', h', cA, X', e', E', A', st'⟩ := newP X B.1 B.2.1 w eT (g := mkF m pc ls (.int z :: st)) rfl (hb B.2.2.2.1 hd) rfl hn hcap hbg hc hl
  exact ⟨T', h', _, cA, rfl, ⟨locs, vm0, k0, X', e', N, O.ext E', S, Nat.le_trans hk E'.1, H.trans (CHr.ext E' H.1), own_ssn E' H.1 (by first | exact A'.lt | exact (Arv.new A' hn).lt) hss⟩, (Keep.refl h []).ext E', (Arv.new A' hn).pad (vs' := [] ++ List.replicate cap _) (pad_rep [] _ cap), fun G q => Go.by st' q⟩
theorem arv_put {kc : ClassId} {ty : FieldType} {z j : Int32} {vs : List Value} {dv v : Value} {b : Addr} (F : Arv Z h b kc ty z vs dv) (hv : fits ty v = true) (hW : Wr h h' b j.toNatClampNeg v) (hi : j.toNatClampNeg < vs.length) : Arv Z h' b kc ty z (vs.set j.toNatClampNeg v) dv := by
  obtain ⟨cl, A, r1, r2, r3, H, Gf⟩ := F
  exact Arv.set A r1 r2 r3 H Gf hv hW _ rfl hi
theorem x_castore (B : Bdy p Z s m meth c own bytes maxL ret nm) (W : Wk p l e R s m args below meth c Z T h k n ss) {kc : ClassId} {z j x : Int32} {vs : List Value} {dv : Value} {b : Addr} (hd : decode bytes pc = .ok (.castore, 1)) (F : Arv Z h b kc .char z vs dv) (hj : ¬ j < 0 ∧ j < z) (hi : j.toNatClampNeg < vs.length) (hb' : Z.heap.size ≤ b) (ls : Array Slot) (st : List Value) :
    ∃ T' h', Wk p l e R s m args below meth c Z T' h' k n ss ∧ Keep h h' [b] ∧ Arv Z h' b kc .char z (vs.set j.toNatClampNeg (.int (nar .char x))) dv ∧ (∀ G, Go p.tables e below G T' (mkF m (pc + 1) ls st) → Go p.tables e below G T (mkF m pc ls (.int x :: .int j :: .ref b :: st))) := by
  obtain ⟨locs, vm0, k0, X, eT, N, O, S, hk, H, hss⟩ := W
  have B := B.at S
  have F' := F
  obtain ⟨cl, A, r1, r2, r3, Hs, Gf⟩ := F
  obtain ⟨T', h', X', e', W', st'⟩ := stC X B.1 B.2.1 eT A (inb_of r2 hj) (g := mkF m pc ls (.int x :: .int j :: .ref b :: st)) rfl rfl (hb B.2.2.2.1 hd)
  exact ⟨T', h', ⟨_, vm0, k0, X', e', Fr.snoc X' N hb', O.wr W' hb', S, by rw [W'.size]; exact hk, H.trans (CHr.wr W' (Safe.arv B.2.1.alike F' (by decide)) H.1), ss_mono (CHr.wr W' (Safe.arv B.2.1.alike F' (by decide)) H.1) hss⟩, Keep.of_wr W', arv_put F' (fits_nar_char _) W' hi, fun G q => Go.by st' q⟩
theorem arv_read {kc : ClassId} {ty : FieldType} {z : Int32} {vs : List Value} {dv : Value} {b : Addr} (F : Arv Z h b kc ty z vs dv) {j : Int32} (hj : ¬ j < 0 ∧ j < z) {v : Value} (hv : vs.getD j.toNatClampNeg dv = v) : ∃ cl : Cell, Arr Z h b cl ty ∧ ¬ (j < 0 ∨ cl.slots.size ≤ j.toNatClampNeg) ∧ cl.slots[j.toNatClampNeg]? = some v := by
  obtain ⟨cl, A, r1, r2, r3, H, -⟩ := F
  exact ⟨cl, A, inb_of r2 hj, H.at (inb_of r2 hj) hv⟩
theorem g_caload (B : Bdy p Z s m meth c own bytes maxL ret nm) (W : Wk p l e R s m args below meth c Z T h k n ss) {kc : ClassId} {z j : Int32} {vs : List Value} {dv v : Value} {b : Addr} (hd : decode bytes pc = .ok (.caload, 1)) (F : Arv Z h b kc .char z vs dv) (hj : ¬ j < 0 ∧ j < z) (hv : vs.getD j.toNatClampNeg dv = v)
    (q : Go p.tables e below G T (mkF m (pc + 1) ls (v :: st))) : Go p.tables e below G T (mkF m pc ls (.int j :: .ref b :: st)) := by
  obtain ⟨locs, vm0, k0, X, eT, N, O, S, hk, H, hss⟩ := W
  have B := B.at S
  obtain ⟨cl, A, hin, hat⟩ := arv_read F hj hv
  exact Go.by (X.caload B.1 (by rw [eT]; exact A.1) (State.isArrayOf_alike B.2.1.alike A.2.1) A.2.2 hin hat (g := mkF m pc ls (.int j :: .ref b :: st)) rfl rfl (hb B.2.2.2.1 hd)) q
theorem g_caloadK (B : Bdy p Z s m meth c own bytes maxL ret nm) (W : Wk p l e R s m args below meth c Z T h k n ss) {j : Int32} {v : Value} {cl : Cell} {b : Addr} (hd : decode bytes pc = .ok (.caload, 1)) (A : Arr Z h b cl .char) (hin : ¬ (j < 0 ∨ cl.slots.size ≤ j.toNatClampNeg)) (hat : cl.slots[j.toNatClampNeg]? = some v)
    (q : Go p.tables e below G T (mkF m (pc + 1) ls (v :: st))) : Go p.tables e below G T (mkF m pc ls (.int j :: .ref b :: st)) := by
  obtain ⟨locs, vm0, k0, X, eT, N, O, S, hk, H, hss⟩ := W
  have B := B.at S
  exact Go.by (X.caload B.1 (by rw [eT]; exact A.1) (State.isArrayOf_alike B.2.1.alike A.2.1) A.2.2 hin hat (g := mkF m pc ls (.int j :: .ref b :: st)) rfl rfl (hb B.2.2.2.1 hd)) q
theorem g_alenK (B : Bdy p Z s m meth c own bytes maxL ret nm) (W : Wk p l e R s m args below meth c Z T h k n ss) {ty : FieldType} {z : Int32} {cl : Cell} {b : Addr} (hd : decode bytes pc = .ok (.arraylength, 1)) (A : Arr Z h b cl ty) (hz : cl.slots.size.toInt32 = z)
    (q : Go p.tables e below G T (mkF m (pc + 1) ls (.int z :: st))) : Go p.tables e below G T (mkF m pc ls (.ref b :: st)) := by
  obtain ⟨locs, vm0, k0, X, eT, N, O, S, hk, H, hss⟩ := W
  have B := B.at S
  refine Go.by (X.arraylength B.1 (by rw [eT]; exact A.1) (State.isArrayOf_alike B.2.1.alike A.2.1) (g := mkF m pc ls (.ref b :: st)) rfl rfl (hb B.2.2.2.1 hd)) ?_
  rw [hz]; exact q
theorem g_aalen (B : Bdy p Z s m meth c own bytes maxL ret nm) (W : Wk p l e R s m args below meth c Z T h k n ss) {kc : ClassId} {ty : FieldType} {z : Int32} {vs : List Value} {dv : Value} {b : Addr} (hd : decode bytes pc = .ok (.arraylength, 1)) (F : Arv Z h b kc ty z vs dv)
    (q : Go p.tables e below G T (mkF m (pc + 1) ls (.int z :: st))) : Go p.tables e below G T (mkF m pc ls (.ref b :: st)) := by
  obtain ⟨locs, vm0, k0, X, eT, N, O, S, hk, H, hss⟩ := W
  have B := B.at S
  obtain ⟨cl, A, r1, r2, r3, H, -⟩ := F
  refine Go.by (X.arraylength B.1 (by rw [eT]; exact A.1) (State.isArrayOf_alike B.2.1.alike A.2.1) (g := mkF m pc ls (.ref b :: st)) rfl rfl (hb B.2.2.2.1 hd)) ?_
  rw [len_of r2 r3]; exact q
theorem g_aaload (B : Bdy p Z s m meth c own bytes maxL ret nm) (W : Wk p l e R s m args below meth c Z T h k n ss) {ty : FieldType} {j : Int32} {v : Value} {cl : Cell} {b : Addr} (hd : decode bytes pc = .ok (.aaload, 1)) (A : Arr Z h b cl ty) (ht : ty.isReference = true) (hin : ¬ (j < 0 ∨ cl.slots.size ≤ j.toNatClampNeg)) (hat : cl.slots[j.toNatClampNeg]? = some v)
    (q : Go p.tables e below G T (mkF m (pc + 1) ls (v :: st))) : Go p.tables e below G T (mkF m pc ls (.int j :: .ref b :: st)) := by
  obtain ⟨locs, vm0, k0, X, eT, N, O, S, hk, H, hss⟩ := W
  have B := B.at S
  exact Go.by (X.aaload B.1 (by rw [eT]; exact A.1) (State.isArrayOf_alike B.2.1.alike A.2.1) ht A.2.2 hin hat (g := mkF m pc ls (.int j :: .ref b :: st)) rfl rfl (hb B.2.2.2.1 hd)) q
theorem g_instNull (B : Bdy p Z s m meth c own bytes maxL ret nm) (W : Wk p l e R s m args below meth c Z T h k n ss) {i : Nat} (hd : decode bytes pc = .ok (.instanceof i, 3)) (q : Go p.tables e below G T (mkF m (pc + 3) ls (.int 0 :: st))) : Go p.tables e below G T (mkF m pc ls (.null :: st)) := by
  obtain ⟨_, _, _, X, _, _, _, S, -⟩ := W
  have B := B.at S
  exact Go.by (X.instanceofNull B.1 (g := mkF m pc ls (.null :: st)) rfl rfl (hb B.2.2.2.1 hd)) q
theorem g_castNull (B : Bdy p Z s m meth c own bytes maxL ret nm) (W : Wk p l e R s m args below meth c Z T h k n ss) {i : Nat} (hd : decode bytes pc = .ok (.checkcast i, 3)) (q : Go p.tables e below G T (mkF m (pc + 3) ls (.null :: st))) : Go p.tables e below G T (mkF m pc ls (.null :: st)) := by
  obtain ⟨_, _, _, X, _, _, _, S, -⟩ := W
  have B := B.at S
  refine Go.by (fun t q => ?_) q
  jvm_step X.here [B.1, (hb B.2.2.2.1 hd), checkcast.sem]
  exact q
theorem x_newR (B : Bdy p Z s m meth c own bytes maxL ret nm) (W : Wk p l e R s m args below meth c Z T h k n ss) {C : String} {i : Nat} {z : Int32} (cap : Nat) (hd : decode bytes pc = .ok (.anewarray i, 3)) (w1 : (Cond.classLink own i C).before a0 Z = true) (w2 : (Cond.arrayOver (.object C)).before a0 Z = true) (hn : ¬ z < 0) (hcap : z.toNatClampNeg ≤ cap) (hbg : cap * 8 ≤ 536870912) (hc : k + 1 ≤ R.cells) (hl : n + cap ≤ R.slots) (ls : Array Slot) (st : List Value) :
    ∃ T' h' b cA, b = h.size ∧ Wk p l e R s m args below meth c Z T' h' (k + 1) (n + cap) (b :: ss) ∧ Keep h h' [] ∧ Arv Z h' b cA (.object C) z (List.replicate cap .null) .null ∧ Ovr Z cA C ∧
      (∀ G, Go p.tables e below G T' (mkF m (pc + 3) ls (.ref b :: st)) → Go p.tables e below G T (mkF m pc ls (.int z :: st))) := by
  obtain ⟨locs, vm0, k0, X, eT, N, O, S, hk, H, hss⟩ := W
  have B := B.at S
  obtain ⟨T', h', cA, X', e', E', A', Ov', st'⟩ := newR X B.1 B.2.1 B.2.2.1 w1 w2 eT (g := mkF m pc ls (.int z :: st)) rfl (hb B.2.2.2.1 hd) rfl hn hcap hbg hc hl
  exact ⟨T', h', _, cA, rfl, ⟨locs, vm0, k0, X', e', N, O.ext E', S, Nat.le_trans hk E'.1, H.trans (CHr.ext E' H.1), own_ssn E' H.1 (by first | exact A'.lt | exact (Arv.new A' hn).lt) hss⟩, (Keep.refl h []).ext E', (Arv.new A' hn).pad (vs' := [] ++ List.replicate cap _) (pad_rep [] _ cap), Ov', fun G q => Go.by st' q⟩
theorem x_aastore (B : Bdy p Z s m meth c own bytes maxL ret nm) (W : Wk p l e R s m args below meth c Z T h k n ss) {kc : ClassId} {ty : FieldType} {z j : Int32} {vs : List Value} {dv v : Value} {b : Addr} (hd : decode bytes pc = .ok (.aastore, 1)) (F : Arv Z h b kc ty z vs dv) (ht : ty.isReference = true) (hj : ¬ j < 0 ∧ j < z) (hi : j.toNatClampNeg < vs.length) (hv : v.isRef = true) (hS : ∀ cl, Arr Z h b cl ty → cl.cls = kc → Sto Z h b v) (hb' : Z.heap.size ≤ b) (ls : Array Slot) (st : List Value) :
    ∃ T' h', Wk p l e R s m args below meth c Z T' h' k n ss ∧ Keep h h' [b] ∧ Arv Z h' b kc ty z (vs.set j.toNatClampNeg v) dv ∧ (∀ G, Go p.tables e below G T' (mkF m (pc + 1) ls st) → Go p.tables e below G T (mkF m pc ls (v :: .int j :: .ref b :: st))) := by
  obtain ⟨locs, vm0, k0, X, eT, N, O, S, hk, H, hss⟩ := W
  have B := B.at S
  have F' := F
  have hby : ty ≠ .byte := fun q => by rw [q] at ht; cases ht
  obtain ⟨cl, A, r1, r2, r3, Hs, Gf⟩ := F
  obtain ⟨T', h', X', e', W', st'⟩ := stR X B.1 B.2.1 eT A (inb_of r2 hj) ht (hS cl A r1) (g := mkF m pc ls (v :: .int j :: .ref b :: st)) rfl rfl (hb B.2.2.2.1 hd)
  exact ⟨T', h', ⟨_, vm0, k0, X', e', Fr.snoc X' N hb', O.wr W' hb', S, by rw [W'.size]; exact hk, H.trans (CHr.wr W' (Safe.arv B.2.1.alike F' hby) H.1), ss_mono (CHr.wr W' (Safe.arv B.2.1.alike F' hby) H.1) hss⟩, Keep.of_wr W', arv_put F' (own_fr ht hv) W' hi, fun G q => Go.by st' q⟩
theorem g_aaloadV (B : Bdy p Z s m meth c own bytes maxL ret nm) (W : Wk p l e R s m args below meth c Z T h k n ss) {kc : ClassId} {ty : FieldType} {z j : Int32} {vs : List Value} {dv v : Value} {b : Addr} (hd : decode bytes pc = .ok (.aaload, 1)) (F : Arv Z h b kc ty z vs dv) (ht : ty.isReference = true) (hj : ¬ j < 0 ∧ j < z) (hv : vs.getD j.toNatClampNeg dv = v)
    (q : Go p.tables e below G T (mkF m (pc + 1) ls (v :: st))) : Go p.tables e below G T (mkF m pc ls (.int j :: .ref b :: st)) := by
  obtain ⟨cl, A, hin, hat⟩ := arv_read F hj hv
  exact g_aaload B W hd A ht hin hat q
theorem x_clone (B : Bdy p Z s m meth c own bytes maxL ret nm) (W : Wk p l e R s m args below meth c Z T h k n ss) {ad : String} {i : Nat} {b : Addr} {cl : Cell} {ty : FieldType} (cap : Nat) (hd : decode bytes pc = .ok (.invokevirtual i, 3)) (w1 : (Cond.methodLink own i ⟨ad, "clone", "()Ljava/lang/Object;"⟩).before a0 Z = true) (w2 : (Cond.sameMethod ad "java/lang/Object" "clone" "()Ljava/lang/Object;").before a0 Z = true) (w3 : (Cond.native ⟨"java/lang/Object", "clone", "()Ljava/lang/Object;"⟩).before a0 Z = true)
    (w4 : (Cond.instanceMethod ⟨"java/lang/Object", "clone", "()Ljava/lang/Object;"⟩).before a0 Z = true) (w5 : (Cond.selects ad ⟨ad, "clone", "()Ljava/lang/Object;"⟩ ⟨"java/lang/Object", "clone", "()Ljava/lang/Object;"⟩).before a0 Z = true) (w6 : (Cond.castable ad "java/lang/Cloneable").before a0 Z = true) (A : Arr Z h b cl ty) (E : Exa Z h b ad) (F : FitC Z cl)
    (ls : Array Slot) (st : List Value) (hsz : ls.size = maxL) (V : Nat) (hV : (st.map fun v => v.category).sum = V) (hf : 1 ≤ R.frames) (hl : V + 14 ≤ R.locals) (hcap : cl.slots.size ≤ cap) (hc : k + 1 ≤ R.cells) (hs : n + cap ≤ R.slots) :
    ∃ T' h' b', b' = h.size ∧ Wk p l e R s m args below meth c Z T' h' (k + 1) (n + cap) (b' :: ss) ∧ Keep h h' [] ∧ Arr Z h' b' (cloneOf cl) ty ∧ Exa Z h' b' ad ∧ (∀ G, Go p.tables e below G T' (mkF m (pc + 3) ls (.ref b' :: st)) → Go p.tables e below G T (mkF m pc ls (.ref b :: st))) := by
  obtain ⟨locs, vm0, k0, X, eT, N, O, S, hk, H, hss⟩ := W
  have B := B.at S
  obtain ⟨T', h', X', e', E', A', Ex', st'⟩ := cloneA X B.1 B.2.1 B.2.2.1 w1 w2 w3 w4 w5 w6 eT A E F (g := mkF m pc ls (.ref b :: st)) rfl (hsz.trans B.2.2.2.2.1.symm) rfl (hb B.2.2.2.1 hd) hf (W := V) (by show 2 * 0 + _ ≤ _; omega) hl hcap hc hs
  exact ⟨T', h', _, rfl, ⟨locs, vm0, k0, X', e', N, O.ext E', S, Nat.le_trans hk E'.1, H.trans (CHr.ext E' H.1), own_ssn E' H.1 (by first | exact A'.lt | exact (Arv.new A' hn).lt) hss⟩, (Keep.refl h []).ext E', A', Ex', fun G q => Go.by st' q⟩
theorem x_cloneV (B : Bdy p Z s m meth c own bytes maxL ret nm) (W : Wk p l e R s m args below meth c Z T h k n ss) {ad : String} {i : Nat} {b : Addr} {kc : ClassId} {ty : FieldType} {z : Int32} {vs : List Value} {dv : Value} (cap : Nat) (hd : decode bytes pc = .ok (.invokevirtual i, 3)) (w1 : (Cond.methodLink own i ⟨ad, "clone", "()Ljava/lang/Object;"⟩).before a0 Z = true) (w2 : (Cond.sameMethod ad "java/lang/Object" "clone" "()Ljava/lang/Object;").before a0 Z = true) (w3 : (Cond.native ⟨"java/lang/Object", "clone", "()Ljava/lang/Object;"⟩).before a0 Z = true)
    (w4 : (Cond.instanceMethod ⟨"java/lang/Object", "clone", "()Ljava/lang/Object;"⟩).before a0 Z = true) (w5 : (Cond.selects ad ⟨ad, "clone", "()Ljava/lang/Object;"⟩ ⟨"java/lang/Object", "clone", "()Ljava/lang/Object;"⟩).before a0 Z = true) (w6 : (Cond.castable ad "java/lang/Cloneable").before a0 Z = true) (F : Arv Z h b kc ty z vs dv) (E : Exa Z h b ad)
    (ls : Array Slot) (st : List Value) (hsz : ls.size = maxL) (V : Nat) (hV : (st.map fun v => v.category).sum = V) (hf : 1 ≤ R.frames) (hl : V + 14 ≤ R.locals) (hcap : z.toNatClampNeg ≤ cap) (hc : k + 1 ≤ R.cells) (hs : n + cap ≤ R.slots) :
    ∃ T' h' b', b' = h.size ∧ Wk p l e R s m args below meth c Z T' h' (k + 1) (n + cap) (b' :: ss) ∧ Keep h h' [] ∧ Arv Z h' b' kc ty z vs dv ∧ Exa Z h' b' ad ∧ (∀ G, Go p.tables e below G T' (mkF m (pc + 3) ls (.ref b' :: st)) → Go p.tables e below G T (mkF m pc ls (.ref b :: st))) := by
  obtain ⟨cl, A, r1, r2, r3, H, G⟩ := F
  obtain ⟨T', h', b', eb, W', K, A', E', st'⟩ := x_clone B W cap hd w1 w2 w3 w4 w5 w6 A E (fitC_of A (fun i hi v hv => by have q := H i hi; rw [hv] at q; cases q; exact G i hi)) ls st hsz V hV hf hl (r2 ▸ hcap) hc hs
  exact ⟨T', h', b', eb, W', K, ⟨_, A', r1, r2, r3, H, G⟩, E', st'⟩
theorem x_newE (B : Bdy p Z s m meth c own bytes maxL ret nm) (W : Wk p l e R s m args below meth c Z T h k n ss) {aty : ArrayType} {z : Int32} {ad : String} (cap : Nat) (hd : decode bytes pc = .ok (.newarray aty, 2)) (w : (Cond.arrayClass (newarray.typeOf aty)).before a0 Z = true) (hn : ¬ z < 0) (hcap : z.toNatClampNeg ≤ cap) (hbg : cap * 8 ≤ 536870912) (hc : k + 1 ≤ R.cells) (hl : n + cap ≤ R.slots) (had : "[" ++ (newarray.typeOf aty).toString = ad) (ls : Array Slot) (st : List Value) :
    ∃ T' h' b cA, b = h.size ∧ Wk p l e R s m args below meth c Z T' h' (k + 1) (n + cap) (b :: ss) ∧ Keep h h' [] ∧ Arv Z h' b cA (newarray.typeOf aty) z (List.replicate cap (defaultValue (newarray.typeOf aty))) (defaultValue (newarray.typeOf aty)) ∧ Exa Z h' b ad ∧
      (∀ G, Go p.tables e below G T' (mkF m (pc + 2) ls (.ref b :: st)) → Go p.tables e below G T (mkF m pc ls (.int z :: st))) := by
  obtain ⟨locs, vm0, k0, X, eT, N, O, S, hk, H, hss⟩ := W
  have B := B.at S
  obtain ⟨T', h', cA, X', e', E', A', Ex', st'⟩ := newPE X B.1 B.2.1 w eT (g := mkF m pc ls (.int z :: st)) rfl (hb B.2.2.2.1 hd) rfl hn hcap hbg hc hl had
  exact ⟨T', h', _, cA, rfl, ⟨locs, vm0, k0, X', e', N, O.ext E', S, Nat.le_trans hk E'.1, H.trans (CHr.ext E' H.1), own_ssn E' H.1 (by first | exact A'.lt | exact (Arv.new A' hn).lt) hss⟩, (Keep.refl h []).ext E', (Arv.new A' hn).pad (vs' := [] ++ List.replicate cap _) (pad_rep [] _ cap), Ex', fun G q => Go.by st' q⟩
theorem x_bastore (B : Bdy p Z s m meth c own bytes maxL ret nm) (W : Wk p l e R s m args below meth c Z T h k n ss) {kc : ClassId} {z j x : Int32} {vs : List Value} {dv : Value} {b : Addr} (hd : decode bytes pc = .ok (.bastore, 1)) (F : Arv Z h b kc .byte z vs dv) (hj : ¬ j < 0 ∧ j < z) (hi : j.toNatClampNeg < vs.length) (hb' : Z.heap.size ≤ b) (hsb : b ∈ ss) (ls : Array Slot) (st : List Value) :
    ∃ T' h', Wk p l e R s m args below meth c Z T' h' k n ss ∧ Keep h h' [b] ∧ Arv Z h' b kc .byte z (vs.set j.toNatClampNeg (.int (nar .byte x))) dv ∧ (∀ G, Go p.tables e below G T' (mkF m (pc + 1) ls st) → Go p.tables e below G T (mkF m pc ls (.int x :: .int j :: .ref b :: st))) := by
  obtain ⟨locs, vm0, k0, X, eT, N, O, S, hk, H, hss⟩ := W
  have B := B.at S
  have F' := F
  obtain ⟨cl, A, r1, r2, r3, Hs, Gf⟩ := F
  obtain ⟨T', h', X', e', W', st'⟩ := stB X B.1 B.2.1 eT A (inb_of r2 hj) (g := mkF m pc ls (.int x :: .int j :: .ref b :: st)) rfl rfl (hb B.2.2.2.1 hd)
  exact ⟨T', h', ⟨_, vm0, k0, X', e', Fr.snoc X' N hb', O.wr W' hb', S, by rw [W'.size]; exact hk, H.trans (CHr.wr W' (hss _ hsb).2 H.1), ss_mono (CHr.wr W' (hss _ hsb).2 H.1) hss⟩, Keep.of_wr W', arv_put F' (fits_nar_byte _) W' hi, fun G q => Go.by st' q⟩
theorem g_baload (B : Bdy p Z s m meth c own bytes maxL ret nm) (W : Wk p l e R s m args below meth c Z T h k n ss) {kc : ClassId} {z j : Int32} {vs : List Value} {dv v : Value} {b : Addr} (hd : decode bytes pc = .ok (.baload, 1)) (F : Arv Z h b kc .byte z vs dv) (hj : ¬ j < 0 ∧ j < z) (hv : vs.getD j.toNatClampNeg dv = v)
    (q : Go p.tables e below G T (mkF m (pc + 1) ls (v :: st))) : Go p.tables e below G T (mkF m pc ls (.int j :: .ref b :: st)) := by
  obtain ⟨locs, vm0, k0, X, eT, N, O, S, hk, H, hss⟩ := W
  have B := B.at S
  obtain ⟨cl, A, hin, hat⟩ := arv_read F hj hv
  exact Go.by (X.baloadBytes B.1 (by rw [eT]; exact A.1) (State.isArrayOf_alike B.2.1.alike A.2.1) A.2.2 hin hat (g := mkF m pc ls (.int j :: .ref b :: st)) rfl rfl (hb B.2.2.2.1 hd)) q
theorem x_acopy (B : Bdy p Z s m meth c own bytes maxL ret nm) (W : Wk p l e R s m args below meth c Z T h k n ss) {i : Nat} {ka kb : ClassId} {ty ty' : FieldType} {za zb sp dp nn : Int32} {va vb us : List Value} {da db : Value} {a b : Addr} (hd : decode bytes pc = .ok (.invokestatic i, 3)) (w1 : (Cond.methodLink own i Jvm.Stand.acN).before a0 Z = true) (w2 : (Cond.native Jvm.Stand.acN).before a0 Z = true) (w3 : (Cond.static Jvm.Stand.acN).before a0 Z = true) (w4 : (Cond.initialized "java/lang/System").before a0 Z = true)
    (A : Arv Z h a ka ty za va da) (A' : Arv Z h b kb ty' zb vb db) (hty : (ty = ty' ∧ refKind ty = false) ∨ (refKind ty = true ∧ refKind ty' = true ∧ StoL Z h b us)) (h1 : ¬ sp < 0) (h2 : ¬ dp < 0) (h3 : ¬ nn < 0) (h4 : sp.toNatClampNeg + nn.toNatClampNeg ≤ za.toNatClampNeg) (h5 : dp.toNatClampNeg + nn.toNatClampNeg ≤ zb.toNatClampNeg)
    (hus : us = (List.range nn.toNatClampNeg).map fun i => va.getD (sp.toNatClampNeg + i) da) (hl : dp.toNatClampNeg + nn.toNatClampNeg ≤ vb.length) (hb' : Z.heap.size ≤ b) (hsb : b ∈ ss) (ls : Array Slot) (st : List Value) (hsz : ls.size = maxL) (V : Nat) (hV : (st.map fun v => v.category).sum = V) (hf : 1 ≤ R.frames) (hlo : V + (nativeFrameWords "java/lang/System" "arraycopy" 5 + 11) ≤ R.locals) :
    ∃ T' h', Wk p l e R s m args below meth c Z T' h' k n ss ∧ Keep h h' [b] ∧ Arv Z h' b kb ty' zb (vb.take dp.toNatClampNeg ++ us ++ vb.drop (dp.toNatClampNeg + nn.toNatClampNeg)) db ∧ (∀ G, Go p.tables e below G T' (mkF m (pc + 3) ls st) → Go p.tables e below G T (mkF m pc ls (.int nn :: .int dp :: .ref b :: .int sp :: .ref a :: st))) := by
  obtain ⟨locs, vm0, k0, X, eT, N, O, S, hk, H, hss⟩ := W
  have B := B.at S
  obtain ⟨T', h', L', X', e', N', K', F', st'⟩ := cpA X B.1 B.2.1 B.2.2.1 w1 w2 w3 w4 eT A A' hty h1 h2 h3 h4 h5 hus hl N hb' (g := mkF m pc ls (.int nn :: .int dp :: .ref b :: .int sp :: .ref a :: st)) rfl (hsz.trans B.2.2.2.2.1.symm) rfl (hb B.2.2.2.1 hd) hf (W := V) (by show 2 * 0 + _ ≤ _; omega) hlo
  exact ⟨T', h', ⟨_, vm0, k0, X', e', N', O.keep K' (allS hb' all0), S, Nat.le_trans hk K'.1, H.trans (CHr.keep K' (allS (hss _ hsb).2 all0) H.1), ss_mono (CHr.keep K' (allS (hss _ hsb).2 all0) H.1) hss⟩, K', F', fun G q => Go.by st' q⟩
def Mi (Z : State) (C : String) (mr : Addr) : Prop := ∃ (c : ClassId) (k : Class), Z.vm.findClass C = some c ∧ Z.vm.classes[c]? = some k ∧ k.mirror = some mr
theorem x_getClass (B : Bdy p Z s m meth c own bytes maxL ret nm) (W : Wk p l e R s m args below meth c Z T h k n ss) {C : String} {i : Nat} {b mr : Addr} (hd : decode bytes pc = .ok (.invokevirtual i, 3)) (w1 : (Cond.methodLink own i ⟨"java/lang/Object", "getClass", "()Ljava/lang/Class;"⟩).before a0 Z = true) (w2 : (Cond.declares ⟨"java/lang/Object", "getClass", "()Ljava/lang/Class;"⟩).before a0 Z = true) (w4 : (Cond.selects C ⟨"java/lang/Object", "getClass", "()Ljava/lang/Class;"⟩ ⟨"java/lang/Object", "getClass", "()Ljava/lang/Class;"⟩).before a0 Z = true)
    (w5 : (Cond.instanceMethod ⟨"java/lang/Object", "getClass", "()Ljava/lang/Class;"⟩).before a0 Z = true) (w6 : (Cond.native ⟨"java/lang/Object", "getClass", "()Ljava/lang/Class;"⟩).before a0 Z = true) (E : Exa Z h b C) (M : Mi Z C mr) (ls : Array Slot) (st : List Value) (hsz : ls.size = maxL) (V : Nat) (hV : (st.map fun v => v.category).sum = V) (hf : 1 ≤ R.frames) (hl : V + (nativeFrameWords "java/lang/Object" "getClass" 1 + 11) ≤ R.locals) :
    ∃ T', Wk p l e R s m args below meth c Z T' h k n ss ∧ (∀ G, Go p.tables e below G T' (mkF m (pc + 3) ls (.ref mr :: st)) → Go p.tables e below G T (mkF m pc ls (.ref b :: st))) := by
  obtain ⟨locs, vm0, k0, X, eT, N, O, S, hk, H, hss⟩ := W
  have B := B.at S
  obtain ⟨cB, kB, i1, i2, i3⟩ := isOf B.2.1 eT E
  obtain ⟨cc, kc, m1, m2, m3⟩ := M
  rw [B.2.1.alike.findClass] at i1
  cases i1.symm.trans m1
  obtain ⟨k', q, ek⟩ := B.2.1.alike.2.2 _ _ m2
  obtain ⟨vm', X', st'⟩ := X.getClassOf B.1 B.2.2.1 (mvT B.2.1 w1) (mvT B.2.1 w2) (notFace_of_selects (args := #[]) (mvT B.2.1 w4)) (mvT B.2.1 w4) (mvT B.2.1 w5) (mvT B.2.1 w6) (by rw [B.2.1.alike.findClass]; exact m1) i3 q (by rw [ek]; exact m3) (g := mkF m pc ls (.ref b :: st)) rfl (hsz.trans B.2.2.2.2.1.symm) rfl (hb B.2.2.2.1 hd) hf (by show 2 * 0 + _ + _ ≤ _; omega)
  have e' : (T.setVm vm').heap = h := eT
  have X' := X'
  exact ⟨_, ⟨locs, vm0, k0, X', e', N, O, S, hk, H, hss⟩, fun G q => Go.by st' q⟩
theorem x_ldcM (B : Bdy p Z s m meth c own bytes maxL ret nm) (W : Wk p l e R s m args below meth c Z T h k n ss) {C : String} {i : Nat} {mr : Addr} (hd : decode bytes pc = .ok (.ldc i, 2)) (w : (Cond.classLink own i C).before a0 Z = true) (M : Mi Z C mr) (ls : Array Slot) (st : List Value) :
    ∃ T', Wk p l e R s m args below meth c Z T' h k n ss ∧ (∀ G, Go p.tables e below G T' (mkF m (pc + 2) ls (.ref mr :: st)) → Go p.tables e below G T (mkF m pc ls st)) := by
  obtain ⟨locs, vm0, k0, X, eT, N, O, S, hk, H, hss⟩ := W
  have B := B.at S
  obtain ⟨cc, kc, m1, m2, m3⟩ := M
  obtain ⟨k', q, ek⟩ := B.2.1.alike.2.2 _ _ m2
  have m1' := (B.2.1.alike.findClass C none).trans m1
  have e0 : k'.mirror = some mr := by rw [ek]; exact m3
  obtain ⟨vm', X', st'⟩ := X.ldcMirror B.1 B.2.2.1 (mv B.2.1 w) (C := C) (a := mr) (by first | (simp [Term.eval, m1', q, e0]; done) | (simp [State.setVm] at m1' q; simp [Term.eval, State.setVm, m1', q, e0]; done)) (g := mkF m pc ls st) rfl (hb B.2.2.2.1 hd)
  have e' : (T.setVm vm').heap = h := eT
  exact ⟨_, ⟨locs, vm0, k0, X', e', N, O, S, hk, H, hss⟩, fun G q => Go.by st' q⟩
theorem x_newRE (B : Bdy p Z s m meth c own bytes maxL ret nm) (W : Wk p l e R s m args below meth c Z T h k n ss) {C ad : String} {i : Nat} {z : Int32} (cap : Nat) (hd : decode bytes pc = .ok (.anewarray i, 3)) (w1 : (Cond.classLink own i C).before a0 Z = true) (w2 : (Cond.arrayOver (.object C)).before a0 Z = true) (hn : ¬ z < 0) (hcap : z.toNatClampNeg ≤ cap) (hbg : cap * 8 ≤ 536870912) (hc : k + 1 ≤ R.cells) (hl : n + cap ≤ R.slots) (had : "[" ++ (FieldType.object C).toString = ad) (ls : Array Slot) (st : List Value) :
    ∃ T' h' b cA, b = h.size ∧ Wk p l e R s m args below meth c Z T' h' (k + 1) (n + cap) (b :: ss) ∧ Keep h h' [] ∧ Arv Z h' b cA (.object C) z (List.replicate cap .null) .null ∧ Ovr Z cA C ∧ Exa Z h' b ad ∧
      (∀ G, Go p.tables e below G T' (mkF m (pc + 3) ls (.ref b :: st)) → Go p.tables e below G T (mkF m pc ls (.int z :: st))) := by
  obtain ⟨locs, vm0, k0, X, eT, N, O, S, hk, H, hss⟩ := W
  have B := B.at S
  obtain ⟨T', h', cA, X', e', E', A', Ex', Ov', st'⟩ := newRE X B.1 B.2.1 B.2.2.1 w1 w2 eT (g := mkF m pc ls (.int z :: st)) rfl (hb B.2.2.2.1 hd) rfl hn hcap hbg hc hl had
  exact ⟨T', h', _, cA, rfl, ⟨locs, vm0, k0, X', e', N, O.ext E', S, Nat.le_trans hk E'.1, H.trans (CHr.ext E' H.1), own_ssn E' H.1 (by first | exact A'.lt | exact (Arv.new A' hn).lt) hss⟩, (Keep.refl h []).ext E', (Arv.new A' hn).pad (vs' := [] ++ List.replicate cap _) (pad_rep [] _ cap), Ov', Ex', fun G q => Go.by st' q⟩
/-! ### calls -/
theorem backC {vm0 : Vm} {y : MethodName} {yb : ByteArray} {yL : Nat} {yr : Option FieldType} {rm : Room} {len V : Nat} {as' : Array Value} {s0 : List Addr} (C : Con l Z y yb yL yr [] rm as' h Q s0) (O : Old Z Z.heap.size h) (hWd : Wd Z)
    (hZ : Z.Warmed39 vm0) (wc : (Cond.code y yb yL yr).before a0 Z = true) (wz : (Cond.initialized y.cls).before a0 Z = true) (hf : rm.frames + 1 ≤ R.frames) (hl : V + (yL + 11) + rm.locals ≤ R.locals) (H : CHv Z EL vm0 h) (hs0 : ∀ x ∈ s0, x < h.size ∧ Safe Z EL vm0 h x) :
    BackS l R p e below (s.setVm vm0) args y len V (fun A a => a = as' ∧ A.U.heap = h ∧ A.cells + rm.cells ≤ R.cells ∧ A.slots + rm.slots ≤ R.slots)
      (fun A _ v B => ∃ L, (Q v B.U.heap ∧ Fr Z.heap.size L ∧ Old Z Z.heap.size B.U.heap) ∧ B.locs = A.locs ++ L ∧ B.cells = A.cells + rm.cells ∧ B.slots = A.slots + rm.slots ∧ CHr Z EL vm0 h B.U.vm B.U.heap) := by
  obtain ⟨a1, hEL, -⟩ := id hWd
  refine BackS.of_freeW (bytes := yb) (maxL := yL) (ret := yr) (E := fun _ first o t L k n => (k = rm.cells ∧ n = rm.slots) ∧ ∃ v, o = .returned v ∧ (Q v t.heap ∧ Fr Z.heap.size L ∧ Old Z Z.heap.size t.heap) ∧ CHr Z EL first.vm first.heap t.vm t.heap) (C hWd O) hf hl ?_ ?_ (fun _ _ _ _ _ _ _ _ _ => trivial) ?_ ?_
  · intro m meth c A a Y hp
    have hU : Z.Warmed39 A.U.vm := wtrans (s := s.setVm vm0) hZ Y.warmed
    exact ⟨by show (Cond.and _ .tt).before a A.U = true; rw [Cond.before_and, mv hU wc]; rfl, mv hU wc, mv hU wz, hp.2.2.1, hp.2.2.2⟩
  · intro m meth c A a g mk Y hp
    have q := CHv.at Y hZ hEL H
    exact ⟨hp.1, wtrans (s := s.setVm vm0) hZ Y.warmed, hp.2.1, q.1, ss_mono q hs0⟩
  · rintro _ _ _ _ ⟨v, L, h1, h2, h3, h4⟩
    exact ⟨L, _, _, h4, ⟨rfl, rfl⟩, v, h1, h2, h3⟩
  · rintro m meth c A a g mk v t L k n Y hp _ _ ⟨⟨rfl, rfl⟩, v', e3, e4, e5⟩
    cases e3
    refine ⟨L, e4, rfl, rfl, rfl, (CHv.at Y hZ hEL H).trans ?_⟩
    have e6 : (A.U.calling g mk a).heap = h := hp.2.1
    rw [← e6]; exact e5
theorem x_static (B : Bdy p Z s m meth c own bytes maxL ret nm) (W : Wk p l e R s m args below meth c Z T h k n ss) {y : MethodName} {yb : ByteArray} {yL i : Nat} {yr : Option FieldType} {rm : Room} (argsL : List Value) {s0 : List Addr} (C : Con l Z y yb yL yr [] rm argsL.toArray h Q s0) (hs0 : ∀ x ∈ s0, x ∈ ss)
    (hd : decode bytes pc = .ok (.invokestatic i, 3)) (w1 : (Cond.methodLink own i y).before a0 Z = true) (w2 : (Cond.static y).before a0 Z = true) (wz : (Cond.initialized y.cls).before a0 Z = true) (wc : (Cond.code y yb yL yr).before a0 Z = true) (hy : y.cls ≠ "java/lang/invoke/MethodHandle" ∧ y.cls ≠ "java/lang/invoke/VarHandle")
    (hlen : ∀ sig, parseMethodDescriptor y.desc = some sig → argsL.length = sig.parameters.length) (ls : Array Slot) (st : List Value) (hsz : ls.size = maxL) (V : Nat) (hV : (st.map fun v => v.category).sum = V) (hf : rm.frames + 1 ≤ R.frames) (hl : V + (yL + 11) + rm.locals ≤ R.locals) (hc : k + rm.cells ≤ R.cells) (hs : n + rm.slots ≤ R.slots) :
    ∃ T' h' v, Wk p l e R s m args below meth c Z T' h' (k + rm.cells) (n + rm.slots) ss ∧ Q v h' ∧ (∀ G, Go p.tables e below G T' (mkF m (pc + 3) ls (v.toList ++ st)) → Go p.tables e below G T (mkF m pc ls (argsL.reverse ++ st))) := by
  obtain ⟨locs, vm0, k0, X, eT, N, O, S, hk, H, hss⟩ := W
  have B := B.at S
  obtain ⟨v, _, ⟨T', L', k', n'⟩, -, X', S', hg', ⟨Lc, hQ, l1, l2, l3, A'⟩, st'⟩ := callSS X B.1 (y := y) B.2.2.1 (mvT B.2.1 w1) (mvT B.2.1 w2) (mvT B.2.1 wz) (mvT B.2.1 wc) hy (backC (V := V) C O B.2.2.2.2.2.2.2.2 B.2.1 wc wz hf hl H.1 (fun x q => hss x (hs0 x q))) (g := mkF m pc ls (argsL.reverse ++ st)) rfl (hsz.trans B.2.2.2.2.1.symm) (argsL := argsL) (rest := st) hlen rfl (by show 2 * 0 + _ ≤ _; omega) (hb B.2.2.2.1 hd) (fun _ _ => ⟨rfl, eT, hc, hs⟩)
  dsimp only [Pt.U, Pt.locs, Pt.cells, Pt.slots] at X' S' hg' A' l1 l2 l3 st' hQ
  subst l1 l2 l3
  exact ⟨T', T'.heap, v, ⟨_, T'.vm, T'.heap.size, X', rfl, N.app hQ.2.1, hQ.2.2, S.trans S' (Nat.le_trans hk A'.2.1), Nat.le_refl _, H.trans A', ss_mono A' hss⟩, hQ.1, fun G q => Go.by (fun t q => st'.trans q) q⟩
theorem x_special (B : Bdy p Z s m meth c own bytes maxL ret nm) (W : Wk p l e R s m args below meth c Z T h k n ss) {y : MethodName} {yb : ByteArray} {yL i : Nat} {rm : Room} {b : Addr} (argsL : List Value) {s0 : List Addr} (C : Con l Z y yb yL none [] rm (.ref b :: argsL).toArray h Q s0) (hs0 : ∀ x ∈ s0, x ∈ ss)
    (hd : decode bytes pc = .ok (.invokespecial i, 3)) (hy1 : y.name = "<init>") (w1 : (Cond.methodLink own i y).before a0 Z = true) (w2 : (Cond.instanceMethod y).before a0 Z = true) (wz : (Cond.initialized y.cls).before a0 Z = true) (wc : (Cond.code y yb yL none).before a0 Z = true) (hy : y.cls ≠ "java/lang/invoke/MethodHandle" ∧ y.cls ≠ "java/lang/invoke/VarHandle")
    (hlen : ∀ sig, parseMethodDescriptor y.desc = some sig → argsL.length = sig.parameters.length) (ls : Array Slot) (st : List Value) (hsz : ls.size = maxL) (V : Nat) (hV : (st.map fun v => v.category).sum = V) (hf : rm.frames + 1 ≤ R.frames) (hl : V + (yL + 11) + rm.locals ≤ R.locals) (hc : k + rm.cells ≤ R.cells) (hs : n + rm.slots ≤ R.slots) :
    ∃ T' h' v, Wk p l e R s m args below meth c Z T' h' (k + rm.cells) (n + rm.slots) ss ∧ Q v h' ∧ (∀ G, Go p.tables e below G T' (mkF m (pc + 3) ls (v.toList ++ st)) → Go p.tables e below G T (mkF m pc ls (argsL.reverse ++ .ref b :: st))) := by
  obtain ⟨locs, vm0, k0, X, eT, N, O, S, hk, H, hss⟩ := W
  have B := B.at S
  obtain ⟨v, _, ⟨T', L', k', n'⟩, -, X', S', hg', ⟨Lc, hQ, l1, l2, l3, A'⟩, st'⟩ := X.specialBackS B.1 (y := y) hy1 B.2.2.1 (mvT B.2.1 w1) (mvT B.2.1 w2) (mvT B.2.1 wc) hy (backC (V := V) C O B.2.2.2.2.2.2.2.2 B.2.1 wc wz hf hl H.1 (fun x q => hss x (hs0 x q))) (g := mkF m pc ls (argsL.reverse ++ .ref b :: st)) rfl (hsz.trans B.2.2.2.2.1.symm) (Steps.refl _) (a := b) (argsL := argsL) (rest := st) hlen rfl (by show 2 * 0 + _ ≤ _; omega) (hb B.2.2.2.1 hd) (fun _ _ => ⟨rfl, eT, hc, hs⟩)
  dsimp only [Pt.U, Pt.locs, Pt.cells, Pt.slots] at X' S' hg' A' l1 l2 l3 st' hQ
  subst l1 l2 l3
  exact ⟨T', T'.heap, v, ⟨_, T'.vm, T'.heap.size, X', rfl, N.app hQ.2.1, hQ.2.2, S.trans S' (Nat.le_trans hk A'.2.1), Nat.le_refl _, H.trans A', ss_mono A' hss⟩, hQ.1, fun G q => Go.by (fun t q => st'.trans q) q⟩
theorem x_virtual (B : Bdy p Z s m meth c own bytes maxL ret nm) (W : Wk p l e R s m args below meth c Z T h k n ss) {y : MethodName} {yb : ByteArray} {yL i : Nat} {yr : Option FieldType} {rm : Room} {b : Addr} {D : String} (argsL : List Value) {s0 : List Addr} (C : Con l Z y yb yL yr [] rm (.ref b :: argsL).toArray h Q s0) (hs0 : ∀ x ∈ s0, x ∈ ss) (E : Exa Z h b D)
    (hd : decode bytes pc = .ok (.invokevirtual i, 3)) (w1 : (Cond.methodLink own i y).before a0 Z = true) (w2 : (Cond.declares y).before a0 Z = true) (w3 : (Cond.selects D y y).before a0 Z = true) (w4 : (Cond.instanceMethod y).before a0 Z = true) (wz : (Cond.initialized y.cls).before a0 Z = true) (wc : (Cond.code y yb yL yr).before a0 Z = true) (hy : y.cls ≠ "java/lang/invoke/MethodHandle" ∧ y.cls ≠ "java/lang/invoke/VarHandle")
    (hlen : ∀ sig, parseMethodDescriptor y.desc = some sig → argsL.length = sig.parameters.length) (ls : Array Slot) (st : List Value) (hsz : ls.size = maxL) (V : Nat) (hV : (st.map fun v => v.category).sum = V) (hf : rm.frames + 1 ≤ R.frames) (hl : V + (yL + 11) + rm.locals ≤ R.locals) (hc : k + rm.cells ≤ R.cells) (hs : n + rm.slots ≤ R.slots) :
    ∃ T' h' v, Wk p l e R s m args below meth c Z T' h' (k + rm.cells) (n + rm.slots) ss ∧ Q v h' ∧ (∀ G, Go p.tables e below G T' (mkF m (pc + 3) ls (v.toList ++ st)) → Go p.tables e below G T (mkF m pc ls (argsL.reverse ++ .ref b :: st))) := by
  obtain ⟨locs, vm0, k0, X, eT, N, O, S, hk, H, hss⟩ := W
  have B := B.at S
  obtain ⟨cq, kq, qa, qb, qc⟩ := isOf B.2.1 eT E
  obtain ⟨v, _, ⟨T', L', k', n'⟩, -, X', S', hg', ⟨Lc, hQ, l1, l2, l3, A'⟩, st'⟩ := X.virtualBackS B.1 (y := y) (z := y) B.2.2.1 (mvT B.2.1 w1) (mvT B.2.1 w2) (notFace_of_selects (args := #[]) (mvT B.2.1 w3)) (mvT B.2.1 w3) (mvT B.2.1 w4) hy (backC (V := V) C O B.2.2.2.2.2.2.2.2 B.2.1 wc wz hf hl H.1 (fun x q => hss x (hs0 x q))) qa qc (g := mkF m pc ls (argsL.reverse ++ .ref b :: st)) rfl (hsz.trans B.2.2.2.2.1.symm) (Steps.refl _) (argsL := argsL) (rest := st) hlen rfl (by show 2 * 0 + _ ≤ _; omega) (hb B.2.2.2.1 hd) (fun _ _ => ⟨rfl, eT, hc, hs⟩)
  dsimp only [Pt.U, Pt.locs, Pt.cells, Pt.slots] at X' S' hg' A' l1 l2 l3 st' hQ
  subst l1 l2 l3
  exact ⟨T', T'.heap, v, ⟨_, T'.vm, T'.heap.size, X', rfl, N.app hQ.2.1, hQ.2.2, S.trans S' (Nat.le_trans hk A'.2.1), Nat.le_refl _, H.trans A', ss_mono A' hss⟩, hQ.1, fun G q => Go.by (fun t q => st'.trans q) q⟩
theorem x_iface (B : Bdy p Z s m meth c own bytes maxL ret nm) (W : Wk p l e R s m args below meth c Z T h k n ss) {xi y : MethodName} {count : Nat} {D : String} {yb : ByteArray} {yL i : Nat} {yr : Option FieldType} {rm : Room} {b : Addr} (argsL : List Value) {s0 : List Addr} (C : Con l Z y yb yL yr [] rm (.ref b :: argsL).toArray h Q s0) (hs0 : ∀ x ∈ s0, x ∈ ss) (E : Exa Z h b D)
    (hd : decode bytes pc = .ok (.invokeinterface i count, 5)) (w1 : (Cond.methodLink own i xi).before a0 Z = true) (w2 : (Cond.declares xi).before a0 Z = true) (w3 : (Cond.interfaceMethod xi.cls xi.cls xi.name xi.desc).before a0 Z = true) (w4 : (Cond.selects D xi y).before a0 Z = true) (w5 : (Cond.instanceMethod y).before a0 Z = true) (w6 : (Cond.publicMethod y).before a0 Z = true) (w7 : (Cond.unhidden D xi.name xi.desc).before a0 Z = true) (w8 : (Cond.castable D xi.cls).before a0 Z = true) (hk3 : ((Cond.interfaceMethod xi.cls xi.cls xi.name xi.desc).onTables && (Cond.interfaceMethod xi.cls xi.cls xi.name xi.desc).keepsFace) = true) (wz : (Cond.initialized y.cls).before a0 Z = true) (wc : (Cond.code y yb yL yr).before a0 Z = true) (hy : xi.cls ≠ "java/lang/invoke/MethodHandle" ∧ xi.cls ≠ "java/lang/invoke/VarHandle")
    (hlen : ∀ sig, parseMethodDescriptor xi.desc = some sig → argsL.length = sig.parameters.length) (ls : Array Slot) (st : List Value) (hsz : ls.size = maxL) (V : Nat) (hV : (st.map fun v => v.category).sum = V) (hf : rm.frames + 1 ≤ R.frames) (hl : V + (yL + 11) + rm.locals ≤ R.locals) (hc : k + rm.cells ≤ R.cells) (hs : n + rm.slots ≤ R.slots) :
    ∃ T' h' v, Wk p l e R s m args below meth c Z T' h' (k + rm.cells) (n + rm.slots) ss ∧ Q v h' ∧ (∀ G, Go p.tables e below G T' (mkF m (pc + 5) ls (v.toList ++ st)) → Go p.tables e below G T (mkF m pc ls (argsL.reverse ++ .ref b :: st))) := by
  obtain ⟨locs, vm0, k0, X, eT, N, O, S, hk, H, hss⟩ := W
  have B := B.at S
  obtain ⟨cq, kq, qa, qb, qc⟩ := isOf B.2.1 eT E
  obtain ⟨v, _, ⟨T', L', k', n'⟩, -, X', S', hg', ⟨Lc, hQ, l1, l2, l3, A'⟩, st'⟩ := X.interfaceBackS B.1 (xi := xi) (y := y) B.2.2.1 (mvT B.2.1 w1) (mvT B.2.1 w2) (mvT B.2.1 w3 hk3) (mvT B.2.1 w4) (mvT B.2.1 w5) (mvT B.2.1 w6) (mvT B.2.1 w7) (mvT B.2.1 w8) hy (backC (V := V) C O B.2.2.2.2.2.2.2.2 B.2.1 wc wz hf hl H.1 (fun x q => hss x (hs0 x q))) qa qb qc (g := mkF m pc ls (argsL.reverse ++ .ref b :: st)) rfl (hsz.trans B.2.2.2.2.1.symm) (Steps.refl _) (argsL := argsL) (rest := st) hlen rfl (by show 2 * 0 + _ ≤ _; omega) (hb B.2.2.2.1 hd) (fun _ _ => ⟨rfl, eT, hc, hs⟩)
  dsimp only [Pt.U, Pt.locs, Pt.cells, Pt.slots] at X' S' hg' A' l1 l2 l3 st' hQ
  subst l1 l2 l3
  exact ⟨T', T'.heap, v, ⟨_, T'.vm, T'.heap.size, X', rfl, N.app hQ.2.1, hQ.2.2, S.trans S' (Nat.le_trans hk A'.2.1), Nat.le_refl _, H.trans A', ss_mono A' hss⟩, hQ.1, fun G q => Go.by (fun t q => st'.trans q) q⟩
theorem x_private (B : Bdy p Z s m meth c own bytes maxL ret nm) (W : Wk p l e R s m args below meth c Z T h k n ss) {y : MethodName} {D : String} {yb : ByteArray} {yL i : Nat} {yr : Option FieldType} {rm : Room} {b : Addr} (argsL : List Value) {s0 : List Addr} (C : Con l Z y yb yL yr [] rm (.ref b :: argsL).toArray h Q s0) (hs0 : ∀ x ∈ s0, x ∈ ss) (E : Exa Z h b D)
    (hd : decode bytes pc = .ok (.invokevirtual i, 3)) (w1 : (Cond.methodLink own i y).before a0 Z = true) (w2 : (Cond.instanceMethod y).before a0 Z = true) (w3 : (Cond.selects y.cls y y).before a0 Z = true) (w4 : (Cond.privateMethod y).before a0 Z = true) (wz : (Cond.initialized y.cls).before a0 Z = true) (wc : (Cond.code y yb yL yr).before a0 Z = true) (hy : y.cls ≠ "java/lang/invoke/MethodHandle" ∧ y.cls ≠ "java/lang/invoke/VarHandle")
    (hlen : ∀ sig, parseMethodDescriptor y.desc = some sig → argsL.length = sig.parameters.length) (ls : Array Slot) (st : List Value) (hsz : ls.size = maxL) (V : Nat) (hV : (st.map fun v => v.category).sum = V) (hf : rm.frames + 1 ≤ R.frames) (hl : V + (yL + 11) + rm.locals ≤ R.locals) (hc : k + rm.cells ≤ R.cells) (hs : n + rm.slots ≤ R.slots) :
    ∃ T' h' v, Wk p l e R s m args below meth c Z T' h' (k + rm.cells) (n + rm.slots) ss ∧ Q v h' ∧ (∀ G, Go p.tables e below G T' (mkF m (pc + 3) ls (v.toList ++ st)) → Go p.tables e below G T (mkF m pc ls (argsL.reverse ++ .ref b :: st))) := by
  obtain ⟨locs, vm0, k0, X, eT, N, O, S, hk, H, hss⟩ := W
  have B := B.at S
  obtain ⟨cell, qa, qb⟩ := Exa.cell E
  obtain ⟨v, _, ⟨T', L', k', n'⟩, -, X', S', hg', ⟨Lc, hQ, l1, l2, l3, A'⟩, st'⟩ := X.privateBackS B.1 (y := y) B.2.2.1 (mvT B.2.1 w1) (mvT B.2.1 w2) (mvT B.2.1 w3) (Cond.privateMethod_at (mvP B.2.1 w4 (args := #[]))) (mvT B.2.1 wc) hy (backC (V := V) C O B.2.2.2.2.2.2.2.2 B.2.1 wc wz hf hl H.1 (fun x q => hss x (hs0 x q))) (g := mkF m pc ls (argsL.reverse ++ .ref b :: st)) rfl (hsz.trans B.2.2.2.2.1.symm) (Steps.refl _) (a := b) (by rw [eT]; exact qa) qb (argsL := argsL) (rest := st) hlen rfl (by show 2 * 0 + _ ≤ _; omega) (hb B.2.2.2.1 hd) (fun _ _ => ⟨rfl, eT, hc, hs⟩)
  dsimp only [Pt.U, Pt.locs, Pt.cells, Pt.slots] at X' S' hg' A' l1 l2 l3 st' hQ
  subst l1 l2 l3
  exact ⟨T', T'.heap, v, ⟨_, T'.vm, T'.heap.size, X', rfl, N.app hQ.2.1, hQ.2.2, S.trans S' (Nat.le_trans hk A'.2.1), Nat.le_refl _, H.trans A', ss_mono A' hss⟩, hQ.1, fun G q => Go.by (fun t q => st'.trans q) q⟩
theorem x_specialB (B : Bdy p Z s m meth c own bytes maxL ret nm) (W : Wk p l e R s m args below meth c Z T h k n ss) {y : MethodName} {yb : ByteArray} {yL i V rc rs : Nat} {b : Addr} {QL : Option Value → Heap → List Loc → Prop} (argsL : List Value) (hK : ∀ s' : State, Z.Warmed39 s'.vm → Back l R p e below s' args y 3 V (fun A a => a = (.ref b :: argsL).toArray ∧ A.U.heap = h ∧ A.cells + rc ≤ R.cells ∧ A.slots + rs ≤ R.slots) (fun A _ v B => ∃ L, QL v B.U.heap L ∧ B.locs = A.locs ++ L ∧ B.cells = A.cells + rc ∧ B.slots = A.slots + rs))
    (hd : decode bytes pc = .ok (.invokespecial i, 3)) (hy1 : y.name = "<init>") (w1 : (Cond.methodLink own i y).before a0 Z = true) (w2 : (Cond.instanceMethod y).before a0 Z = true) (wc : (Cond.code y yb yL none).before a0 Z = true) (hy : y.cls ≠ "java/lang/invoke/MethodHandle" ∧ y.cls ≠ "java/lang/invoke/VarHandle")
    (hlen : ∀ sig, parseMethodDescriptor y.desc = some sig → argsL.length = sig.parameters.length) (ls : Array Slot) (st : List Value) (hsz : ls.size = maxL) (hV : (st.map fun v => v.category).sum = V) (hc : k + rc ≤ R.cells) (hs : n + rs ≤ R.slots) (wl : List Addr) (hwl : ∀ x ∈ wl, Z.heap.size ≤ x) (hsf : ∀ x ∈ wl, x ∈ ss) (hq : ∀ v h' L, QL v h' L → Fr Z.heap.size L ∧ Keep h h' wl) : ∃ T' h' v L, Wk p l e R s m args below meth c Z T' h' (k + rc) (n + rs) ss ∧ QL v h' L ∧ (∀ G, Go p.tables e below G T' (mkF m (pc + 3) ls (v.toList ++ st)) → Go p.tables e below G T (mkF m pc ls (argsL.reverse ++ .ref b :: st))) := by
  obtain ⟨locs, vm0, k0, X, eT, N, O, S, hk, H, hss⟩ := W
  have B := B.at S
  obtain ⟨v, _, ⟨T', L', k', n'⟩, -, X', ⟨Lc, hQ, l1, l2, l3⟩, st'⟩ := X.specialBack B.1 (y := y) hy1 B.2.2.1 (mvT B.2.1 w1) (mvT B.2.1 w2) (mvT B.2.1 wc) hy (hK _ B.2.1) (g := mkF m pc ls (argsL.reverse ++ .ref b :: st)) rfl (hsz.trans B.2.2.2.2.1.symm) (Steps.refl _) (a := b) (argsL := argsL) (rest := st) hlen rfl (by show 2 * 0 + _ ≤ _; omega) (hb B.2.2.2.1 hd) (fun _ _ => ⟨rfl, eT, hc, hs⟩)
  dsimp only [Pt.U, Pt.locs, Pt.cells, Pt.slots] at X' l1 l2 l3 st' hQ
  subst l1 l2 l3
  obtain ⟨hF, hKp⟩ := hq _ _ _ hQ
  exact ⟨T', T'.heap, v, Lc, ⟨_, vm0, k0, X', rfl, N.app hF, O.keep hKp hwl, S, Nat.le_trans hk hKp.1, H.trans (CHr.keep hKp (fun x q => (hss x (hsf x q)).2) H.1), ss_mono (CHr.keep hKp (fun x q => (hss x (hsf x q)).2) H.1) hss⟩, hQ, fun G q => Go.by (fun t q => st'.trans q) q⟩
theorem x_virtualB (B : Bdy p Z s m meth c own bytes maxL ret nm) (W : Wk p l e R s m args below meth c Z T h k n ss) {y : MethodName} {D : String} {i V rc rs : Nat} {b : Addr} {QL : Option Value → Heap → List Loc → Prop} (argsL : List Value) (hK : ∀ s' : State, Z.Warmed39 s'.vm → Back l R p e below s' args y 3 V (fun A a => a = (.ref b :: argsL).toArray ∧ A.U.heap = h ∧ A.cells + rc ≤ R.cells ∧ A.slots + rs ≤ R.slots) (fun A _ v B => ∃ L, QL v B.U.heap L ∧ B.locs = A.locs ++ L ∧ B.cells = A.cells + rc ∧ B.slots = A.slots + rs)) (E : Exa Z h b D)
    (hd : decode bytes pc = .ok (.invokevirtual i, 3)) (w1 : (Cond.methodLink own i y).before a0 Z = true) (w2 : (Cond.declares y).before a0 Z = true) (w3 : (Cond.selects D y y).before a0 Z = true) (w4 : (Cond.instanceMethod y).before a0 Z = true) (hy : y.cls ≠ "java/lang/invoke/MethodHandle" ∧ y.cls ≠ "java/lang/invoke/VarHandle")
    (hlen : ∀ sig, parseMethodDescriptor y.desc = some sig → argsL.length = sig.parameters.length) (ls : Array Slot) (st : List Value) (hsz : ls.size = maxL) (hV : (st.map fun v => v.category).sum = V) (hc : k + rc ≤ R.cells) (hs : n + rs ≤ R.slots) (wl : List Addr) (hwl : ∀ x ∈ wl, Z.heap.size ≤ x) (hsf : ∀ x ∈ wl, x ∈ ss) (hq : ∀ v h' L, QL v h' L → Fr Z.heap.size L ∧ Keep h h' wl) : ∃ T' h' v L, Wk p l e R s m args below meth c Z T' h' (k + rc) (n + rs) ss ∧ QL v h' L ∧ (∀ G, Go p.tables e below G T' (mkF m (pc + 3) ls (v.toList ++ st)) → Go p.tables e below G T (mkF m pc ls (argsL.reverse ++ .ref b :: st))) := by
  obtain ⟨locs, vm0, k0, X, eT, N, O, S, hk, H, hss⟩ := W
  have B := B.at S
  obtain ⟨cq, kq, qa, qb, qc⟩ := isOf B.2.1 eT E
  obtain ⟨v, _, ⟨T', L', k', n'⟩, -, X', ⟨Lc, hQ, l1, l2, l3⟩, st'⟩ := X.virtualBack B.1 (y := y) (z := y) B.2.2.1 (mvT B.2.1 w1) (mvT B.2.1 w2) (notFace_of_selects (args := #[]) (mvT B.2.1 w3)) (mvT B.2.1 w3) (mvT B.2.1 w4) hy (hK _ B.2.1) qa qc (g := mkF m pc ls (argsL.reverse ++ .ref b :: st)) rfl (hsz.trans B.2.2.2.2.1.symm) (Steps.refl _) (argsL := argsL) (rest := st) hlen rfl (by show 2 * 0 + _ ≤ _; omega) (hb B.2.2.2.1 hd) (fun _ _ => ⟨rfl, eT, hc, hs⟩)
  dsimp only [Pt.U, Pt.locs, Pt.cells, Pt.slots] at X' l1 l2 l3 st' hQ
  subst l1 l2 l3
  obtain ⟨hF, hKp⟩ := hq _ _ _ hQ
  exact ⟨T', T'.heap, v, Lc, ⟨_, vm0, k0, X', rfl, N.app hF, O.keep hKp hwl, S, Nat.le_trans hk hKp.1, H.trans (CHr.keep hKp (fun x q => (hss x (hsf x q)).2) H.1), ss_mono (CHr.keep hKp (fun x q => (hss x (hsf x q)).2) H.1) hss⟩, hQ, fun G q => Go.by (fun t q => st'.trans q) q⟩
theorem x_ldcS (B : Bdy p Z s m meth c own bytes maxL ret nm) (W : Wk p l e R s m args below meth c Z T h k n ss) {i : Nat} {text : String} (sz : Nat) (hd : decode bytes pc = .ok (.ldc i, 2)) (w : (Cond.stringLink own i text).before a0 Z = true) (wS : ∀ a ∈ Bundle.stringAtoms, a.before a0 Z = true) (hEL : EW Z a0 EL) (hn : 4 * text.toList.length ≤ sz) (hbig : sz ≤ 536870912) (hc : k + 2 ≤ R.cells) (hl : n + (sz + 4) ≤ R.slots) (ls : Array Slot) (st : List Value) :
    ∃ T' h' b, Wk p l e R s m args below meth c Z T' h' (k + 2) (n + (sz + 4)) ss ∧ Keep h h' [] ∧ (∀ G, Go p.tables e below G T' (mkF m (pc + 2) ls (.ref b :: st)) → Go p.tables e below G T (mkF m pc ls st)) := by
  obtain ⟨locs, vm0, k0, X, eT, N, O, S, hk, H, hss⟩ := W
  have B := B.at S
  obtain ⟨b, T', h', k1, X', e', E', S', hk', hZ', hf', A', -, st'⟩ := ldcOH X B.1 B.2.1 B.2.2.1 w wS eT S hk hEL H.1 (g := mkF m pc ls st) rfl (hb B.2.2.2.1 hd) hn hbig hc hl
  exact ⟨T', h', b, ⟨locs, T'.vm, k1, X', e', N, O.ext E', S', hk', H.trans A', ss_mono A' hss⟩, (Keep.refl h []).ext E', fun G q => Go.by st' q⟩
def OutR (Z s : State) (Q : Option Value → Heap → Prop) (k n : Nat) (o : Outcome) (U : State) : Prop := Out Z s Q k n o U ∧ ∀ x, o = .returned (some (.ref x)) → x < U.heap.size ∧ Safe Z EL U.vm U.heap x
/-- a contract of a body whose answer may be written to later -/
def ConR (l : Launch) (Z : State) (y : MethodName) (bytes : ByteArray) (maxL : Nat) (ret : Option FieldType) (ws : List Cond) (rm : Room) (as' : Array Value) (h0 : Heap) (Q : Option Value → Heap → Prop) (ss : List Addr) : Prop :=
  Wd Z → Old Z Z.heap.size h0 → MetFree l y (head1 (Cond.code y bytes maxL ret :: ws) rm) (fun a U => a = as' ∧ Z.Warmed39 U.vm ∧ U.heap = h0 ∧ CHv Z EL U.vm h0 ∧ ∀ x ∈ ss, x < h0.size ∧ Safe Z EL U.vm h0 x) (fun _ _ _ _ _ => True) (fun _ U o U' => OutR Z U Q rm.cells rm.slots o U')
theorem ConR.of {y : MethodName} {ws : List Cond} {rm : Room} {as' : Array Value} {h0 : Heap} (hpl : plainFor y = true)
    (body : ∀ p e s m below meth c T, Bdy p Z s m meth c y.cls bytes maxL ret y.name → Wk p l e rm s m as' below meth c Z T h0 0 0 ss → Go p.tables e below (OutR Z s Q rm.cells rm.slots) T (entryFrame m as' maxL)) : ConR l Z y bytes maxL ret ws rm as' h0 Q ss := by
  intro hWd hO
  refine MetFree.of_bodySF hpl hisR ?_
  intro p e s m args below meth c s₁ Bd hml0 hP hK
  obtain ⟨rfl, hZ, hh, hC, hss⟩ := hP
  subst hh
  exact body p e s m below meth c s₁ ⟨Bd.exec, hZ, findClass_of_methodNamed Bd.named, Bd.bytes, hml0, Bd.returns, Bd.notSynchronized, (name_of_methodNamed Bd.named Bd.method).1, hWd⟩ ⟨[], s.vm, s.heap.size, Stand.of_body Bd, by rw [Bd.state]; rfl, Fr.nil _, hO, (State.WarmedH.refl s).since _, Nat.le_refl _, CHr.refl hC, hss⟩
theorem r_aR (B : Bdy p Z s m meth c own bytes maxL ret nm) (W : Wk p l e R s m args below meth c Z T h k n ss) {t : FieldType} {b : Addr} {k' n' : Nat} (hret : ret = some t) (ht : t.isReference = true) (hd : decode bytes pc = .ok (.areturn, 1)) (hk : k ≤ k') (hn : n ≤ n') (hQ : Q (some (.ref b)) h) (hs : b ∈ ss) : Go p.tables e below (OutR Z s Q k' n') T (mkF m pc ls (.ref b :: st)) := by
  obtain ⟨locs, vm0, k0, X, eT, N, O, S, hk0, H, hss⟩ := W
  have B' := B.at S
  obtain ⟨a0, hEW, -⟩ := B.2.2.2.2.2.2.2.2
  obtain ⟨fs, hr, hrun, hended, e1, e2, e3, e4⟩ := X.leaveW S (by rw [eT]; exact hk0) (v := some (.ref b)) (fun q => by rw [B.2.2.2.2.2.1, hret] at q; cases q) B.2.2.2.2.2.2.1
  have eT' : (T.setFrames fs).heap = h := eT
  have A := CHv.at X B'.2.1 hEW H.1
  have H2 := H.trans A
  have hS := ss_mono A hss b hs
  exact ⟨_, _, retOut X B.1 (B.2.2.2.2.2.1.trans hret) (nar_ref ht) (Or.inr (Or.inr (Or.inr (Or.inr ⟨rfl, ht, rfl⟩)))) (hb B.2.2.2.1 hd) hr, hrun, hended, ⟨_, _, rfl, ⟨by rw [eT']; exact hQ, N, by rw [eT']; exact O⟩, by rw [eT']; exact H2, e1, e2, e3, e4.mono hk hn⟩, fun x q => by cases q; rw [eT']; exact hS⟩
theorem backCR {vm0 : Vm} {y : MethodName} {yb : ByteArray} {yL : Nat} {yr : Option FieldType} {rm : Room} {len V : Nat} {as' : Array Value} {s0 : List Addr} (C : ConR l Z y yb yL yr [] rm as' h Q s0) (O : Old Z Z.heap.size h) (hWd : Wd Z)
    (hZ : Z.Warmed39 vm0) (wc : (Cond.code y yb yL yr).before a0 Z = true) (wz : (Cond.initialized y.cls).before a0 Z = true) (hf : rm.frames + 1 ≤ R.frames) (hl : V + (yL + 11) + rm.locals ≤ R.locals) (H : CHv Z EL vm0 h) (hs0 : ∀ x ∈ s0, x < h.size ∧ Safe Z EL vm0 h x) :
    BackS l R p e below (s.setVm vm0) args y len V (fun A a => a = as' ∧ A.U.heap = h ∧ A.cells + rm.cells ≤ R.cells ∧ A.slots + rm.slots ≤ R.slots)
      (fun A _ v B => ∃ L, (Q v B.U.heap ∧ Fr Z.heap.size L ∧ Old Z Z.heap.size B.U.heap) ∧ B.locs = A.locs ++ L ∧ B.cells = A.cells + rm.cells ∧ B.slots = A.slots + rm.slots ∧ CHr Z EL vm0 h B.U.vm B.U.heap ∧ ∀ x, v = some (.ref x) → x < B.U.heap.size ∧ Safe Z EL B.U.vm B.U.heap x) := by
  obtain ⟨a1, hEL, -⟩ := id hWd
  refine BackS.of_freeW (bytes := yb) (maxL := yL) (ret := yr) (E := fun _ first o t L k n => (k = rm.cells ∧ n = rm.slots) ∧ ∃ v, o = .returned v ∧ (Q v t.heap ∧ Fr Z.heap.size L ∧ Old Z Z.heap.size t.heap) ∧ CHr Z EL first.vm first.heap t.vm t.heap ∧ ∀ x, v = some (.ref x) → x < t.heap.size ∧ Safe Z EL t.vm t.heap x) (C hWd O) hf hl ?_ ?_ (fun _ _ _ _ _ _ _ _ _ => trivial) ?_ ?_
  · intro m meth c A a Y hp
    have hU : Z.Warmed39 A.U.vm := wtrans (s := s.setVm vm0) hZ Y.warmed
    exact ⟨by show (Cond.and _ .tt).before a A.U = true; rw [Cond.before_and, mv hU wc]; rfl, mv hU wc, mv hU wz, hp.2.2.1, hp.2.2.2⟩
  · intro m meth c A a g mk Y hp
    have q := CHv.at Y hZ hEL H
    exact ⟨hp.1, wtrans (s := s.setVm vm0) hZ Y.warmed, hp.2.1, q.1, ss_mono q hs0⟩
  · rintro _ _ _ _ ⟨⟨v, L, h1, h2, h3, h4⟩, h5⟩
    exact ⟨L, _, _, h4, ⟨rfl, rfl⟩, v, h1, h2, h3, fun x q => h5 x (by rw [h1, q])⟩
  · rintro m meth c A a g mk v t L k n Y hp _ _ ⟨⟨rfl, rfl⟩, v', e3, e4, e5, e8⟩
    cases e3
    refine ⟨L, e4, rfl, rfl, rfl, (CHv.at Y hZ hEL H).trans ?_, e8⟩
    have e6 : (A.U.calling g mk a).heap = h := hp.2.1
    rw [← e6]; exact e5
theorem x_staticR (B : Bdy p Z s m meth c own bytes maxL ret nm) (W : Wk p l e R s m args below meth c Z T h k n ss) {y : MethodName} {yb : ByteArray} {yL i : Nat} {yr : Option FieldType} {rm : Room} (argsL : List Value) {s0 : List Addr} (C : ConR l Z y yb yL yr [] rm argsL.toArray h Q s0) (hs0 : ∀ x ∈ s0, x ∈ ss) (hQr : ∀ v h', Q v h' → ∃ b, v = some (.ref b))
    (hd : decode bytes pc = .ok (.invokestatic i, 3)) (w1 : (Cond.methodLink own i y).before a0 Z = true) (w2 : (Cond.static y).before a0 Z = true) (wz : (Cond.initialized y.cls).before a0 Z = true) (wc : (Cond.code y yb yL yr).before a0 Z = true) (hy : y.cls ≠ "java/lang/invoke/MethodHandle" ∧ y.cls ≠ "java/lang/invoke/VarHandle")
    (hlen : ∀ sig, parseMethodDescriptor y.desc = some sig → argsL.length = sig.parameters.length) (ls : Array Slot) (st : List Value) (hsz : ls.size = maxL) (V : Nat) (hV : (st.map fun v => v.category).sum = V) (hf : rm.frames + 1 ≤ R.frames) (hl : V + (yL + 11) + rm.locals ≤ R.locals) (hc : k + rm.cells ≤ R.cells) (hs : n + rm.slots ≤ R.slots) :
    ∃ T' h' b, Wk p l e R s m args below meth c Z T' h' (k + rm.cells) (n + rm.slots) (b :: ss) ∧ Q (some (.ref b)) h' ∧ (∀ G, Go p.tables e below G T' (mkF m (pc + 3) ls (.ref b :: st)) → Go p.tables e below G T (mkF m pc ls (argsL.reverse ++ st))) := by
  obtain ⟨locs, vm0, k0, X, eT, N, O, S, hk, H, hss⟩ := W
  have B := B.at S
  obtain ⟨v, _, ⟨T', L', k', n'⟩, -, X', S', hg', ⟨Lc, hQ, l1, l2, l3, A', hR⟩, st'⟩ := callSS X B.1 (y := y) B.2.2.1 (mvT B.2.1 w1) (mvT B.2.1 w2) (mvT B.2.1 wz) (mvT B.2.1 wc) hy (backCR (V := V) C O B.2.2.2.2.2.2.2.2 B.2.1 wc wz hf hl H.1 (fun x q => hss x (hs0 x q))) (g := mkF m pc ls (argsL.reverse ++ st)) rfl (hsz.trans B.2.2.2.2.1.symm) (argsL := argsL) (rest := st) hlen rfl (by show 2 * 0 + _ ≤ _; omega) (hb B.2.2.2.1 hd) (fun _ _ => ⟨rfl, eT, hc, hs⟩)
  dsimp only [Pt.U, Pt.locs, Pt.cells, Pt.slots] at X' S' hg' A' l1 l2 l3 st' hQ hR
  subst l1 l2 l3
  obtain ⟨b, rfl⟩ := hQr _ _ hQ.1
  exact ⟨T', T'.heap, b, ⟨_, T'.vm, T'.heap.size, X', rfl, N.app hQ.2.1, hQ.2.2, S.trans S' (Nat.le_trans hk A'.2.1), Nat.le_refl _, H.trans A', fun x q => by
    rcases List.mem_cons.mp q with rfl | q
    · exact hR _ rfl
    · exact ss_mono A' hss x q⟩, hQ.1, fun G q => Go.by (fun t q => st'.trans q) q⟩
theorem own_litB {vm : Vm} {own text : String} {i : Nat} {a t : Addr} (hW : Z.Warmed39 vm) (H : CHv Z EL vm h) (hmem : (own, i) ∈ EL) (w : (Cond.stringLink own i text).before a0 Z = true) (L : Lit (s.setVm vm) own i a) (V : Fld Z h a "java/lang/String" "value" "[B" (.ref t)) : Exa Z h t "[B" := by
  have hal : Z.vm.Alike vm := hW.alike
  have w2 : (Cond.stringLink own i text).before a0 (Wst Z vm h) = true := mvS (s := { Z with heap := h }) hW w
  have hq0 : (s.setVm vm).resolvedAt? own i = some (.string a) := L
  cases hf : vm.findClass own with
  | none => simp [State.resolvedAt?, hf] at hq0
  | some cc =>
    obtain ⟨k0', cf, i', units, hkx, hcf, hp, hu, -, htext, -⟩ := Cond.stringLink_spec (s := Wst Z vm h) hf w2
    have hk' : vm.classes[cc]? = some k0' := hkx
    have hres : k0'.resolved[i]? = some (some (.string a)) := by
      simp [State.resolvedAt?, hf, hk'] at hq0
      cases hr : k0'.resolved[i]? with
      | none => rw [hr] at hq0; cases hq0
      | some o => rw [hr] at hq0; cases o with
        | none => cases hq0
        | some r => simpa using hq0
    have hB0 : Booksv vm own i units a := ⟨cc, k0', cf, i', hf, hkx, hcf, hp, hu, Or.inl hres⟩
    obtain ⟨q, hqa, F⟩ := SlB.of (H _ hmem units a hB0)
    obtain ⟨cS, ⟨⟨s1, s2, s3, ⟨cv, kv, iv, s4, s4'⟩, -, s6, s7, s8, s9, s10, s11, -⟩, hfS, hcS⟩, -, hB, -⟩ := F
    subst hqa
    obtain ⟨kv', z4⟩ := ff_back (U := Wst Z vm h) hal s4
    obtain ⟨cell, cf2, k2, i2, f2, v1, v2, -, -, -, -, v7⟩ := V
    cases z4.symm.trans v2
    cases (show h[q.sa]? = some q.sC from s1).symm.trans v1
    have et : t = q.sd := by have := s8.symm.trans v7; simpa using this.symm
    subst et
    have hBZ : Z.vm.findClass "[B" = some q.SA.cls := by rw [← hal.findClass]; exact hB
    obtain ⟨kb, hkb, -⟩ := Vm.findClass_spec hBZ
    obtain ⟨kb', hkb', ekb⟩ := hal.2.2 _ _ hkb
    obtain ⟨hst, k9, hk9, comp, hkind9⟩ := s11
    have hk9 : vm.classes[q.SA.cls]? = some k9 := hk9
    have ek9 : k9 = kb' := Option.some.inj (hk9.symm.trans hkb')
    refine ⟨q.SA, kb, s10, hBZ, hkb, ?_, fun ho => ?_⟩
    · cases hq : q.SA.vm <;> first | rfl | exact absurd hq (hst _)
    · rw [ek9, ekb] at hkind9
      have := hkind9.symm.trans ho
      cases this
theorem x_ldcT (B : Bdy p Z s m meth c own bytes maxL ret nm) (W : Wk p l e R s m args below meth c Z T h k n ss) {i : Nat} {text : String} (sz : Nat) {vs : List Value} {z : Int32} (hd : decode bytes pc = .ok (.ldc i, 2)) (w : (Cond.stringLink own i text).before a0 Z = true) (wS : ∀ a ∈ Bundle.stringAtoms, a.before a0 Z = true) (hEL : EW Z a0 EL) (hmem : (own, i) ∈ EL) (ht : (∀ c ∈ text.toList, c.toNat < 256) ∧ text.toList.map (fun c => Value.int (Jvm.Lit.byteI c.toNat.toUInt16)) = vs) (hz : ¬ z < 0) (hlz : z.toNatClampNeg = vs.length) (hn : 4 * text.toList.length ≤ sz) (hbig : sz ≤ 536870912) (hc : k + 2 ≤ R.cells) (hl : n + (sz + 4) ≤ R.slots) (ls : Array Slot) (st : List Value) :
    ∃ T' h' b t kc, Wk p l e R s m args below meth c Z T' h' (k + 2) (n + (sz + 4)) ss ∧ Keep h h' [] ∧ Exa Z h' b "java/lang/String" ∧ Fld Z h' b "java/lang/String" "coder" "B" (.int 0) ∧ Fld Z h' b "java/lang/String" "value" "[B" (.ref t) ∧ Arv Z h' t kc .byte z vs (.int 0) ∧ Exa Z h' t "[B" ∧ (∀ x ∈ ss, x ≠ b ∧ x ≠ t) ∧ (∀ G, Go p.tables e below G T' (mkF m (pc + 2) ls (.ref b :: st)) → Go p.tables e below G T (mkF m pc ls st)) := by
  obtain ⟨locs, vm0, k0, X, eT, N, O, S, hk, H, hss⟩ := W
  have B := B.at S
  obtain ⟨b, T', h', k1, t, kc, X', e', E', S', hk', hZ', hf', q1, q2, q3, q4, -, -, A', Lt, q5, st'⟩ := ldcCH X B.1 B.2.1 B.2.2.1 w wS eT S hk hEL hmem H.1 ht hz hlz (g := mkF m pc ls st) rfl (hb B.2.2.2.1 hd) hn hbig hc hl
  have hs2 := ss_mono A' hss
  exact ⟨T', h', b, t, kc, ⟨locs, T'.vm, k1, X', e', N, O.ext E', S', hk', H.trans A', hs2⟩, (Keep.refl h []).ext E', q1, q2, q3, q4, own_litB hZ' A'.1 hmem w Lt q3, fun x hx => q5 x (hs2 x hx).2, fun G q => Go.by st' q⟩
end K
end Jvm.OwnK
namespace Jvm.Pilot.@@N@@
open Jvm Jvm.ClassFile Sem Op Lib Jvm.Free Jvm.Stand Jvm.LawKit Jvm.RoadKit Jvm.OwnK Bundle Jvm.Pilot.@@N@@.Jvm.D
theorem tw {Z : State} {a0 : Array Value} (hw : ∀ d ∈ tables_1, d.before a0 Z = true) (i : Nat) {d : Jvm.Cond} (h : tables_1[i]? = some d) : d.before a0 Z = true := hw _ (List.mem_of_getElem? h)
theorem d_prog_39_method_1_0 : decode prog_39_method_1_code 0 = .ok (.aload_n 0, 1) := by decide +kernel
theorem d_prog_39_method_1_1 : decode prog_39_method_1_code 1 = .ok (.invokespecial 1, 3) := by decide +kernel
theorem d_prog_39_method_1_4 : decode prog_39_method_1_code 4 = .ok (.aload_n 0, 1) := by decide +kernel
theorem d_prog_39_method_1_5 : decode prog_39_method_1_code 5 = .ok (.iload_n 1, 1) := by decide +kernel
theorem d_prog_39_method_1_6 : decode prog_39_method_1_code 6 = .ok (.putfield 7, 3) := by decide +kernel
theorem d_prog_39_method_1_9 : decode prog_39_method_1_code 9 = .ok (.return_, 1) := by decide +kernel
theorem d_prog_38_method_1_0 : decode prog_38_method_1_code 0 = .ok (.aload_n 0, 1) := by decide +kernel
theorem d_prog_38_method_1_1 : decode prog_38_method_1_code 1 = .ok (.invokespecial 1, 3) := by decide +kernel
theorem d_prog_38_method_1_4 : decode prog_38_method_1_code 4 = .ok (.aload_n 0, 1) := by decide +kernel
theorem d_prog_38_method_1_5 : decode prog_38_method_1_code 5 = .ok (.iload_n 1, 1) := by decide +kernel
theorem d_prog_38_method_1_6 : decode prog_38_method_1_code 6 = .ok (.putfield 7, 3) := by decide +kernel
theorem d_prog_38_method_1_9 : decode prog_38_method_1_code 9 = .ok (.aload_n 0, 1) := by decide +kernel
theorem d_prog_38_method_1_10 : decode prog_38_method_1_code 10 = .ok (.aload_n 2, 1) := by decide +kernel
theorem d_prog_38_method_1_11 : decode prog_38_method_1_code 11 = .ok (.ldc 13, 2) := by decide +kernel
theorem d_prog_38_method_1_13 : decode prog_38_method_1_code 13 = .ok (.invokestatic 15, 3) := by decide +kernel
theorem d_prog_38_method_1_16 : decode prog_38_method_1_code 16 = .ok (.checkcast 21, 3) := by decide +kernel
theorem d_prog_38_method_1_19 : decode prog_38_method_1_code 19 = .ok (.putfield 23, 3) := by decide +kernel
theorem d_prog_38_method_1_22 : decode prog_38_method_1_code 22 = .ok (.aload_n 0, 1) := by decide +kernel
theorem d_prog_38_method_1_23 : decode prog_38_method_1_code 23 = .ok (.bipush 31, 2) := by decide +kernel
theorem d_prog_38_method_1_25 : decode prog_38_method_1_code 25 = .ok (.iload_n 1, 1) := by decide +kernel
theorem d_prog_38_method_1_26 : decode prog_38_method_1_code 26 = .ok (.imul, 1) := by decide +kernel
theorem d_prog_38_method_1_27 : decode prog_38_method_1_code 27 = .ok (.aload_n 2, 1) := by decide +kernel
theorem d_prog_38_method_1_28 : decode prog_38_method_1_code 28 = .ok (.invokeinterface 26 1, 5) := by decide +kernel
theorem d_prog_38_method_1_33 : decode prog_38_method_1_code 33 = .ok (.iadd, 1) := by decide +kernel
theorem d_prog_38_method_1_34 : decode prog_38_method_1_code 34 = .ok (.putfield 30, 3) := by decide +kernel
theorem d_prog_38_method_1_37 : decode prog_38_method_1_code 37 = .ok (.return_, 1) := by decide +kernel
theorem d_jdk_31_method_11_0 : decode jdk_31_method_11_code 0 = .ok (.aload_n 0, 1) := by decide +kernel
theorem d_jdk_31_method_11_1 : decode jdk_31_method_11_code 1 = .ok (.ifnonnull 12, 3) := by decide +kernel
theorem d_jdk_31_method_11_13 : decode jdk_31_method_11_code 13 = .ok (.aload_n 0, 1) := by decide +kernel
theorem d_jdk_31_method_11_14 : decode jdk_31_method_11_code 14 = .ok (.areturn, 1) := by decide +kernel
theorem d_prog_39_method_4_0 : decode prog_39_method_4_code 0 = .ok (.aload_n 0, 1) := by decide +kernel
theorem d_prog_39_method_4_1 : decode prog_39_method_4_code 1 = .ok (.getfield 7, 3) := by decide +kernel
theorem d_prog_39_method_4_4 : decode prog_39_method_4_code 4 = .ok (.ireturn, 1) := by decide +kernel
theorem d_prog_39_method_3_0 : decode prog_39_method_3_code 0 = .ok (.aload_n 1, 1) := by decide +kernel
theorem d_prog_39_method_3_1 : decode prog_39_method_3_code 1 = .ok (.instanceof 8, 3) := by decide +kernel
theorem d_prog_39_method_3_4 : decode prog_39_method_3_code 4 = .ok (.ifCond .eq 21, 3) := by decide +kernel
theorem d_prog_39_method_3_7 : decode prog_39_method_3_code 7 = .ok (.aload_n 1, 1) := by decide +kernel
theorem d_prog_39_method_3_8 : decode prog_39_method_3_code 8 = .ok (.checkcast 8, 3) := by decide +kernel
theorem d_prog_39_method_3_11 : decode prog_39_method_3_code 11 = .ok (.getfield 7, 3) := by decide +kernel
theorem d_prog_39_method_3_14 : decode prog_39_method_3_code 14 = .ok (.aload_n 0, 1) := by decide +kernel
theorem d_prog_39_method_3_15 : decode prog_39_method_3_code 15 = .ok (.getfield 7, 3) := by decide +kernel
theorem d_prog_39_method_3_18 : decode prog_39_method_3_code 18 = .ok (.if_icmp .ne 7, 3) := by decide +kernel
theorem d_prog_39_method_3_21 : decode prog_39_method_3_code 21 = .ok (.iconst 1, 1) := by decide +kernel
theorem d_prog_39_method_3_22 : decode prog_39_method_3_code 22 = .ok (.goto 4, 3) := by decide +kernel
theorem d_prog_39_method_3_25 : decode prog_39_method_3_code 25 = .ok (.iconst 0, 1) := by decide +kernel
theorem d_prog_39_method_3_26 : decode prog_39_method_3_code 26 = .ok (.ireturn, 1) := by decide +kernel
theorem d_jdk_33_method_22_0 : decode jdk_33_method_22_code 0 = .ok (.iload_n 0, 1) := by decide +kernel
theorem d_jdk_33_method_22_1 : decode jdk_33_method_22_code 1 = .ok (.bipush (-128), 2) := by decide +kernel
theorem d_jdk_33_method_22_3 : decode jdk_33_method_22_code 3 = .ok (.if_icmp .lt 20, 3) := by decide +kernel
theorem d_jdk_33_method_22_6 : decode jdk_33_method_22_code 6 = .ok (.iload_n 0, 1) := by decide +kernel
theorem d_jdk_33_method_22_7 : decode jdk_33_method_22_code 7 = .ok (.getstatic 191, 3) := by decide +kernel
theorem d_jdk_33_method_22_10 : decode jdk_33_method_22_code 10 = .ok (.if_icmp .gt 13, 3) := by decide +kernel
theorem d_jdk_33_method_22_13 : decode jdk_33_method_22_code 13 = .ok (.getstatic 195, 3) := by decide +kernel
theorem d_jdk_33_method_22_16 : decode jdk_33_method_22_code 16 = .ok (.iload_n 0, 1) := by decide +kernel
theorem d_jdk_33_method_22_17 : decode jdk_33_method_22_code 17 = .ok (.sipush 128, 3) := by decide +kernel
theorem d_jdk_33_method_22_20 : decode jdk_33_method_22_code 20 = .ok (.iadd, 1) := by decide +kernel
theorem d_jdk_33_method_22_21 : decode jdk_33_method_22_code 21 = .ok (.aaload, 1) := by decide +kernel
theorem d_jdk_33_method_22_22 : decode jdk_33_method_22_code 22 = .ok (.areturn, 1) := by decide +kernel
theorem d_jdk_33_method_22_23 : decode jdk_33_method_22_code 23 = .ok (.new 1, 3) := by decide +kernel
theorem d_jdk_33_method_22_26 : decode jdk_33_method_22_code 26 = .ok (.dup, 1) := by decide +kernel
theorem d_jdk_33_method_22_27 : decode jdk_33_method_22_code 27 = .ok (.iload_n 0, 1) := by decide +kernel
theorem d_jdk_33_method_22_28 : decode jdk_33_method_22_code 28 = .ok (.invokespecial 199, 3) := by decide +kernel
theorem d_jdk_33_method_22_31 : decode jdk_33_method_22_code 31 = .ok (.areturn, 1) := by decide +kernel
theorem d_jdk_33_method_23_0 : decode jdk_33_method_23_code 0 = .ok (.aload_n 0, 1) := by decide +kernel
theorem d_jdk_33_method_23_1 : decode jdk_33_method_23_code 1 = .ok (.invokespecial 202, 3) := by decide +kernel
theorem d_jdk_33_method_23_4 : decode jdk_33_method_23_code 4 = .ok (.aload_n 0, 1) := by decide +kernel
theorem d_jdk_33_method_23_5 : decode jdk_33_method_23_code 5 = .ok (.iload_n 1, 1) := by decide +kernel
theorem d_jdk_33_method_23_6 : decode jdk_33_method_23_code 6 = .ok (.putfield 205, 3) := by decide +kernel
theorem d_jdk_33_method_23_9 : decode jdk_33_method_23_code 9 = .ok (.return_, 1) := by decide +kernel
theorem d_jdk_18_method_1_0 : decode jdk_18_method_1_code 0 = .ok (.aload_n 0, 1) := by decide +kernel
theorem d_jdk_18_method_1_1 : decode jdk_18_method_1_code 1 = .ok (.invokespecial 1, 3) := by decide +kernel
theorem d_jdk_18_method_1_4 : decode jdk_18_method_1_code 4 = .ok (.return_, 1) := by decide +kernel
theorem pn_com_example_dragoman_dragoman_rewrite_ClauseTerm_Variable : plainName "com/example/dragoman/dragoman/rewrite/ClauseTerm$Variable" = true := by first | (simp [plainName, overriddenIn]; done) | decide +kernel
theorem pd__I_V : parseMethodDescriptor "(I)V" = some ⟨[.int], none⟩ := by decide +kernel
theorem pd___V : parseMethodDescriptor "()V" = some ⟨[], none⟩ := by decide +kernel
theorem pn_com_example_dragoman_dragoman_rewrite_ClauseTerm_Skolem : plainName "com/example/dragoman/dragoman/rewrite/ClauseTerm$Skolem" = true := by first | (simp [plainName, overriddenIn]; done) | decide +kernel
theorem pd__ILcom_example_dragoman_dragoman_rewrite_ClauseTerm__V : parseMethodDescriptor "(ILcom/example/dragoman/dragoman/rewrite/ClauseTerm;)V" = some ⟨[.int, (.object "com/example/dragoman/dragoman/rewrite/ClauseTerm")], none⟩ := by decide +kernel
theorem pd__Ljava_lang_Object_Ljava_lang_String__Ljava_lang_Object_ : parseMethodDescriptor "(Ljava/lang/Object;Ljava/lang/String;)Ljava/lang/Object;" = some ⟨[(.object "java/lang/Object"), (.object "java/lang/String")], some (.object "java/lang/Object")⟩ := by decide +kernel
theorem pd___I : parseMethodDescriptor "()I" = some ⟨[], some .int⟩ := by decide +kernel
theorem pn_java_util_Objects : plainName "java/util/Objects" = true := by first | (simp [plainName, overriddenIn]; done) | decide +kernel
theorem pd__Ljava_lang_Object__Z : parseMethodDescriptor "(Ljava/lang/Object;)Z" = some ⟨[(.object "java/lang/Object")], some .boolean⟩ := by decide +kernel
theorem pn_java_lang_Integer : plainName "java/lang/Integer" = true := by first | (simp [plainName, overriddenIn]; done) | decide +kernel
theorem pd__I_Ljava_lang_Integer_ : parseMethodDescriptor "(I)Ljava/lang/Integer;" = some ⟨[.int], some (.object "java/lang/Integer")⟩ := by decide +kernel
theorem pn_java_lang_Number : plainName "java/lang/Number" = true := by first | (simp [plainName, overriddenIn]; done) | decide +kernel
theorem pn_com_example_dragoman_dragoman_rewrite_VariableEqualsPinLaw : plainName "com/example/dragoman/dragoman/rewrite/VariableEqualsPinLaw" = true := by first | (simp [plainName, overriddenIn]; done) | decide +kernel
theorem own_sA : ∀ d ∈ Bundle.stringAtoms, d ∈ tables_1 := by decide +kernel
theorem own_wS {Z : State} {a0 : Array Value} (hw : ∀ d ∈ tables_1, d.before a0 Z = true) : ∀ a ∈ Bundle.stringAtoms, a.before a0 Z = true := fun d hd => hw d (own_sA d hd)
theorem own_EL {Z : State} {a0 : Array Value} (hw : ∀ d ∈ tables_1, d.before a0 Z = true) : EW Z a0 Jvm.OwnK.EL := EW.nil
theorem own_mvI {Z s : State} {a0 args : Array Value} {r o n d : String} (hZ : Z.Warmed39 s.vm) (w : (Jvm.Cond.interfaceMethod r o n d).before a0 Z = true) : (Jvm.Cond.interfaceMethod r o n d).before args s = true := by
  have h := hZ.alike
  have w : (Jvm.Cond.interfaceMethod r o n d).holds a0 Z none Z [] = true := w
  show (Jvm.Cond.interfaceMethod r o n d).holds args s none s [] = true
  have e1 : s.methodFound? r n d = Z.methodFound? r n d := State.methodFound?_setVm (s := Z) h r n d
  have e2 : s.methodNamed? ⟨o, n, d⟩ = Z.methodNamed? ⟨o, n, d⟩ := State.methodNamed?_setVm (s := Z) h _
  simp only [Cond.holds, Cond.value, h.findClass, e1, e2, arm_isInterface_setVm (s := Z) h] at w ⊢
  exact w
theorem x_ifaceUp {p : Program} {l : Launch} {e : Env} {R : Room} {s : State} {m : MethodId} {args : Array Value} {below : List Frame} {meth : Method} {c : Code} {Z T : State} {h : Heap} {k n : Nat} {own nm : String} {bytes : ByteArray} {maxL : Nat} {ret : Option FieldType} {pc : Nat} {Q : Option Value → Heap → Prop} {a0 : Array Value} {ss : List Addr}
    (B : Bdy p Z s m meth c own bytes maxL ret nm) (W : Wk p l e R s m args below meth c Z T h k n ss) {xi y : MethodName} {count : Nat} {D J : String} {yb : ByteArray} {yL i : Nat} {yr : Option FieldType} {rm : Room} {b : Addr} (argsL : List Value) {s0 : List Addr} (C : Con l Z y yb yL yr [] rm (.ref b :: argsL).toArray h Q s0) (hs0 : ∀ x ∈ s0, x ∈ ss) (E : Exa Z h b D)
    (hd : decode bytes pc = .ok (.invokeinterface i count, 5)) (w1 : (Cond.methodLink own i xi).before a0 Z = true) (w2 : (Cond.declares ⟨J, xi.name, xi.desc⟩).before a0 Z = true) (w3 : (Cond.interfaceMethod xi.cls J xi.name xi.desc).before a0 Z = true) (hxo : xi.cls ≠ J) (hcn : xi.name ≠ "clone") (w4 : (Cond.selects D xi y).before a0 Z = true) (w5 : (Cond.instanceMethod y).before a0 Z = true) (w6 : (Cond.publicMethod y).before a0 Z = true) (w7 : (Cond.unhidden D xi.name xi.desc).before a0 Z = true) (w8 : (Cond.castable D xi.cls).before a0 Z = true) (wz : (Cond.initialized y.cls).before a0 Z = true) (wc : (Cond.code y yb yL yr).before a0 Z = true) (hy : xi.cls ≠ "java/lang/invoke/MethodHandle" ∧ xi.cls ≠ "java/lang/invoke/VarHandle")
    (hlen : ∀ sig, parseMethodDescriptor xi.desc = some sig → argsL.length = sig.parameters.length) (ls : Array Slot) (st : List Value) (hsz : ls.size = maxL) (V : Nat) (hV : (st.map fun v => v.category).sum = V) (hf : rm.frames + 1 ≤ R.frames) (hl : V + (yL + 11) + rm.locals ≤ R.locals) (hc : k + rm.cells ≤ R.cells) (hs : n + rm.slots ≤ R.slots) :
    ∃ T' h' v, Wk p l e R s m args below meth c Z T' h' (k + rm.cells) (n + rm.slots) ss ∧ Q v h' ∧ (∀ G, Go p.tables e below G T' (mkF m (pc + 5) ls (v.toList ++ st)) → Go p.tables e below G T (mkF m pc ls (argsL.reverse ++ .ref b :: st))) := by
  obtain ⟨locs, vm0, k0, X, eT, N, O, S, hk, H, hss⟩ := W
  have B := B.at S
  obtain ⟨cq, kq, qa, qb, qc⟩ := isOf B.2.1 eT E
  obtain ⟨v, _, ⟨T', L', k', n'⟩, -, X', S', hg', ⟨Lc, hQ, l1, l2, l3, A'⟩, st'⟩ := own_faceBackS X B.1 (xi := xi) (y := y) (J := J) B.2.2.1 (mvT B.2.1 w1) (mvT B.2.1 w2) (own_mvI B.2.1 w3) hxo hcn (mvT B.2.1 w4) (mvT B.2.1 w5) (mvT B.2.1 w6) (mvT B.2.1 w7) (mvT B.2.1 w8) hy (backC (V := V) C O B.2.2.2.2.2.2.2.2 B.2.1 wc wz hf hl H.1 (fun x q => hss x (hs0 x q))) qa qb qc (g := mkF m pc ls (argsL.reverse ++ .ref b :: st)) rfl (hsz.trans B.2.2.2.2.1.symm) (argsL := argsL) (rest := st) hlen rfl (by show 2 * 0 + _ ≤ _; omega) (hb B.2.2.2.1 hd) (fun _ _ => ⟨rfl, eT, hc, hs⟩)
  dsimp only [Pt.U, Pt.locs, Pt.cells, Pt.slots] at X' S' hg' A' l1 l2 l3 st' hQ
  subst l1 l2 l3
  exact ⟨T', T'.heap, v, ⟨_, T'.vm, T'.heap.size, X', rfl, N.app hQ.2.1, hQ.2.2, S.trans S' (Nat.le_trans hk A'.2.1), Nat.le_refl _, H.trans A', ss_mono A' hss⟩, hQ.1, fun G q => Go.by (fun t q => st'.trans q) q⟩
theorem ef_numInit (m : MethodId) (a1 : Addr) : entryFrame m #[(.ref a1)] 1 = mkF m 0 #[.val (.ref a1)] [] := by first | (simp [entryFrame, mkF, argsToLocals, Value.category]; done) | rfl
def Q_numInit (Z : State) (a1 : Addr) (h0 : Heap) (v : Option Value) (h : Heap) : Prop := v = none ∧ h0 = h
set_option maxRecDepth 65536 in
set_option maxHeartbeats 40000000 in
theorem c_numInit (l : Launch) (Z : State) (a0 : Array Value) (hw : ∀ d ∈ tables_1, d.before a0 Z = true) (a1 : Addr) (h0 : Heap) :
    Con l Z (⟨"java/lang/Number", "<init>", "()V"⟩ : MethodName) jdk_18_method_1_code 1 (Option.none : Option FieldType) [] ({ frames := 1, cells := 0, slots := 0, locals := 12 } : Room) #[(.ref a1)] h0 (Q_numInit Z a1 h0) [] := by
  refine Con.of (plainFor_of_name pn_java_lang_Number) ?_
  intro p e s m below meth c T0 B W0
  refine Go.cast (ef_numInit m a1 ) ?_
  refine g_aload_n B W0 (d_jdk_18_method_1_0) rfl rfl ?_
  obtain ⟨T101, W101, st101⟩ := x_init B W0 (d_jdk_18_method_1_1) (tw hw 76 rfl) (tw hw 7 rfl) (tw hw 8 rfl) a1 #[.val (.ref a1)] [] rfl 0 rfl (by decide) (by decide)
  refine st101 _ ?_
  exact r_v B W101 (d_jdk_18_method_1_4) (by decide) (by decide) ⟨rfl, rfl⟩
theorem ef_intInit (m : MethodId) (a1 : Addr) (p2 : Int32) : entryFrame m #[(.ref a1), (.int p2)] 2 = mkF m 0 #[.val (.ref a1), .val (.int p2)] [] := by first | (simp [entryFrame, mkF, argsToLocals, Value.category]; done) | rfl
def Q_intInit (Z : State) (a1 : Addr) (p2 : Int32) (h0 : Heap) (v : Option Value) (h : Heap) : Prop := v = none ∧ Keep h0 h [a1] ∧ Exa Z h a1 "java/lang/Integer" ∧ Fld Z h a1 "java/lang/Integer" "value" "I" (.int p2)
set_option maxRecDepth 65536 in
set_option maxHeartbeats 40000000 in
theorem c_intInit (l : Launch) (Z : State) (a0 : Array Value) (hw : ∀ d ∈ tables_1, d.before a0 Z = true) (a1 : Addr) (p2 : Int32) (h0 : Heap) (E1 : Exa Z h0 a1 "java/lang/Integer") (F1 : Fld Z h0 a1 "java/lang/Integer" "value" "I" (.int 0)) (g1 : Z.heap.size ≤ a1) :
    Con l Z (⟨"java/lang/Integer", "<init>", "(I)V"⟩ : MethodName) jdk_33_method_23_code 2 (Option.none : Option FieldType) [] ({ frames := 2, cells := 0, slots := 0, locals := 24 } : Room) #[(.ref a1), (.int p2)] h0 (Q_intInit Z a1 p2 h0) [] := by
  refine Con.of (plainFor_of_name pn_java_lang_Integer) ?_
  intro p e s m below meth c T0 B W0
  refine Go.cast (ef_intInit m a1 p2 ) ?_
  refine g_aload_n B W0 (d_jdk_33_method_23_0) rfl rfl ?_
  obtain ⟨T101, h101, v101, W101, Q101, st101⟩ := x_special B W0 (b := a1) [] (c_numInit l Z a0 hw a1 h0) (by simp) (d_jdk_33_method_23_1) rfl (tw hw 70 rfl) (tw hw 71 rfl) (tw hw 74 rfl) (tw hw 75 rfl) (by decide) (lenOf pd___V rfl) #[.val (.ref a1), .val (.int p2)] [] rfl 0 rfl (by decide) (by decide) (by decide) (by decide)
  obtain ⟨rfl, rfl⟩ := Q101
  refine st101 _ ?_
  refine g_aload_n B W101 (d_jdk_33_method_23_4) rfl rfl ?_
  refine g_iload_n B W101 (d_jdk_33_method_23_5) rfl ?_
  obtain ⟨T102, h102, W102, K102, R102, F102, E102, st102⟩ := x_put B W101 (d_jdk_33_method_23_6) ((tw hw 77 rfl)) Via.refl F1 E1 (Or.inr ⟨ (tw hw 78 rfl), rfl, rfl⟩) (tw hw 65 rfl) (ty := .int) (v := (.int p2)) (v' := (.int p2)) (by decide) rfl rfl (by omega) (Or.inl (by decide)) #[.val (.ref a1), .val (.int p2)] []
  refine st102 _ ?_
  have s103 := K102.1
  exact r_v B W102 (d_jdk_33_method_23_9) (by decide) (by decide) ⟨rfl, ((Keep.refl h0 [a1]).trans K102 (allS (Or.inl (by simp)) all0)), E102, F102⟩
theorem own_cache {p : Int32} (h1 : ¬ p < -128) (h2 : ¬ 127 < p) : ¬ p + 128 < 0 ∧ p + 128 < 256 := by
  have a := c_iadd p 128; have r := rng32 p; have r2 := rng32 (p + 128)
  simp only [Int32.lt_iff_toInt_lt, Int32.reduceToInt] at *; omega
theorem own_bx {Z : State} {ca : Addr} {cl : Cell} {p : Int32} (Bx : Bxs Z ca cl "java/lang/Integer" "I" 256 (fun j => .int (j - 128))) (h1 : ¬ p < -128) (h2 : ¬ 127 < p) : ¬ (p + 128 < 0 ∨ cl.slots.size ≤ (p + 128).toNatClampNeg) ∧ ∃ b : Addr, cl.slots[(p + 128).toNatClampNeg]? = some (.ref b) ∧ Exa Z Z.heap b "java/lang/Integer" ∧ Fld Z Z.heap b "java/lang/Integer" "value" "I" (.int p) := by
  have q := inb_of Bx.2.1 (own_cache h1 h2)
  refine ⟨q, ?_⟩
  obtain ⟨b, e1, e2, e3⟩ := Bx.2.2.2 _ q
  have e4 : (p + 128 - 128 : Int32) = p := Int32.add_sub_cancel _ _
  simp only [e4] at e3
  exact ⟨b, e1, e2, e3⟩
theorem ef_valueOf (m : MethodId) (p1 : Int32) (ca : Addr) (cl : Cell) : entryFrame m #[(.int p1)] 1 = mkF m 0 #[.val (.int p1)] [] := by first | (simp [entryFrame, mkF, argsToLocals, Value.category]; done) | rfl
def Q_valueOf (Z : State) (p1 : Int32) (ca : Addr) (cl : Cell) (h0 : Heap) (v : Option Value) (h : Heap) : Prop := ∃ b, v = some (.ref b) ∧ Keep h0 h [] ∧ Exa Z h b "java/lang/Integer" ∧ Fld Z h b "java/lang/Integer" "value" "I" (.int p1)
set_option maxRecDepth 65536 in
set_option maxHeartbeats 40000000 in
theorem c_valueOf (l : Launch) (Z : State) (a0 : Array Value) (hw : ∀ d ∈ tables_1, d.before a0 Z = true) (p1 : Int32) (ca : Addr) (cl : Cell) (h0 : Heap) (Sh : Sta Z Z.heap "java/lang/Integer$IntegerCache" "high" "I" (.int 127)) (Sc : Sta Z Z.heap "java/lang/Integer$IntegerCache" "cache" "[Ljava/lang/Integer;" (.ref ca)) (Bx : Bxs Z ca cl "java/lang/Integer" "I" 256 (fun j => .int (j - 128))) :
    Con l Z (⟨"java/lang/Integer", "valueOf", "(I)Ljava/lang/Integer;"⟩ : MethodName) jdk_33_method_22_code 1 (Option.some (FieldType.object "java/lang/Integer")) [] ({ frames := 3, cells := 1, slots := 1, locals := 38 } : Room) #[(.int p1)] h0 (Q_valueOf Z p1 ca cl h0) [] := by
  refine Con.of (plainFor_of_name pn_java_lang_Integer) ?_
  intro p e s m below meth c T0 B W0
  refine Go.cast (ef_valueOf m p1 ca cl ) ?_
  refine g_iload_n B W0 (d_jdk_33_method_22_0) rfl ?_
  refine g_bipush B W0 (d_jdk_33_method_22_1) (v := -128) (by decide) ?_
  by_cases hc101 : p1 < (-128)
  · skip
    refine g_icmp_y B W0 (d_jdk_33_method_22_3) (XT.ii_lt_t hc101) (pc' := 23) (by decide) ?_
    show Go p.tables e below _ T0 (mkF m 23 #[.val (.int p1)] [])
    obtain ⟨T102, h102, b102, gb102, W102, K102, E102, D102, st102⟩ := x_new B W0 (d_jdk_33_method_22_23) (tw hw 64 rfl) (tw hw 65 rfl) (tw hw 57 rfl) (by decide) (by decide) #[.val (.int p1)] []
    have l102 := nlt E102.lt
    have z102 := W0.size
    refine st102 _ ?_
    have s103 := K102.1
    have f104 : Fld Z h102 b102 "java/lang/Integer" "value" "I" (.int 0) := D102 (Or.inr (tw hw 78 rfl)) (ty := .int) (by decide)
    refine g_dup B W102 (d_jdk_33_method_22_26) rfl ?_
    refine g_iload_n B W102 (d_jdk_33_method_22_27) rfl ?_
    obtain ⟨T105, h105, v105, W105, Q105, st105⟩ := x_special B W102 (b := b102) [(.int p1)] (c_intInit l Z a0 hw b102 p1 h102 E102 f104 (by omega)) (by simp) (d_jdk_33_method_22_28) rfl (tw hw 66 rfl) (tw hw 67 rfl) (tw hw 57 rfl) (tw hw 69 rfl) (by decide) (lenOf pd__I_V rfl) #[.val (.int p1)] [(.ref b102)] rfl 1 rfl (by decide) (by decide) (by decide) (by decide)
    obtain ⟨rfl, K105, E105, F105⟩ := Q105
    have s106 := K105.1
    refine st105 _ ?_
    exact r_a B W105 rfl rfl rfl (d_jdk_33_method_22_31) (by decide) (by decide) ⟨_, rfl, (((Keep.refl h0 []).trans K102 all0).trans K105 (allS (Or.inr (by omega)) all0)), E105, F105⟩
  · skip
    refine g_icmp_n B W0 (d_jdk_33_method_22_3) (XT.ii_lt_f hc101) ?_
    show Go p.tables e below _ T0 (mkF m 6 #[.val (.int p1)] [])
    refine g_iload_n B W0 (d_jdk_33_method_22_6) rfl ?_
    obtain ⟨T107, W107, st107⟩ := x_gets B W0 (host := "") (d_jdk_33_method_22_7) (Or.inl (tw hw 59 rfl)) Via.refl Sh #[.val (.int p1)] [(.int p1)]
    refine st107 _ ?_
    by_cases hc108 : 127 < p1
    · skip
      refine g_icmp_y B W107 (d_jdk_33_method_22_10) (XT.ii_gt_t hc108) (pc' := 23) (by decide) ?_
      show Go p.tables e below _ T107 (mkF m 23 #[.val (.int p1)] [])
      obtain ⟨T109, h109, b109, gb109, W109, K109, E109, D109, st109⟩ := x_new B W107 (d_jdk_33_method_22_23) (tw hw 64 rfl) (tw hw 65 rfl) (tw hw 57 rfl) (by decide) (by decide) #[.val (.int p1)] []
      have l109 := nlt E109.lt
      have z109 := W107.size
      refine st109 _ ?_
      have s110 := K109.1
      have f111 : Fld Z h109 b109 "java/lang/Integer" "value" "I" (.int 0) := D109 (Or.inr (tw hw 78 rfl)) (ty := .int) (by decide)
      refine g_dup B W109 (d_jdk_33_method_22_26) rfl ?_
      refine g_iload_n B W109 (d_jdk_33_method_22_27) rfl ?_
      obtain ⟨T112, h112, v112, W112, Q112, st112⟩ := x_special B W109 (b := b109) [(.int p1)] (c_intInit l Z a0 hw b109 p1 h109 E109 f111 (by omega)) (by simp) (d_jdk_33_method_22_28) rfl (tw hw 66 rfl) (tw hw 67 rfl) (tw hw 57 rfl) (tw hw 69 rfl) (by decide) (lenOf pd__I_V rfl) #[.val (.int p1)] [(.ref b109)] rfl 1 rfl (by decide) (by decide) (by decide) (by decide)
      obtain ⟨rfl, K112, E112, F112⟩ := Q112
      have s113 := K112.1
      refine st112 _ ?_
      exact r_a B W112 rfl rfl rfl (d_jdk_33_method_22_31) (by decide) (by decide) ⟨_, rfl, (((Keep.refl h0 []).trans K109 all0).trans K112 (allS (Or.inr (by omega)) all0)), E112, F112⟩
    · skip
      refine g_icmp_n B W107 (d_jdk_33_method_22_10) (XT.ii_gt_f hc108) ?_
      show Go p.tables e below _ T107 (mkF m 13 #[.val (.int p1)] [])
      obtain ⟨T114, W114, st114⟩ := x_gets B W107 (host := "") (d_jdk_33_method_22_13) (Or.inl (tw hw 61 rfl)) Via.refl Sc #[.val (.int p1)] []
      refine st114 _ ?_
      refine g_iload_n B W114 (d_jdk_33_method_22_16) rfl ?_
      refine g_sipush B W114 (d_jdk_33_method_22_17) (v := 128) (by decide) ?_
      refine g_iadd B W114 (d_jdk_33_method_22_20)  ?_
      obtain ⟨hin, b, hat, Eb, Fb⟩ := own_bx Bx hc101 hc108
      refine g_aaload B W114 (d_jdk_33_method_22_21) (Bx.1.ext W114.old.2) rfl hin hat ?_
      show Go p.tables e below _ T114 (mkF m 22 #[.val (.int p1)] [(.ref b)])
      exact r_a B W114 rfl rfl rfl (d_jdk_33_method_22_22) (by decide) (by decide) ⟨_, rfl, (Keep.refl h0 []), (Eb.ext W114.old.2), (Fb.ext W114.old.2)⟩
theorem ef_vInit (m : MethodId) (a1 : Addr) (p1 : Int32) : entryFrame m #[(.ref a1), (.int p1)] 2 = mkF m 0 #[.val (.ref a1), .val (.int p1)] [] := by first | (simp [entryFrame, mkF, argsToLocals, Value.category]; done) | rfl
def Q_vInit (Z : State) (a1 : Addr) (p1 : Int32) (h0 : Heap) (v : Option Value) (h : Heap) : Prop := v = none ∧ Keep h0 h [a1] ∧ Exa Z h a1 "com/example/dragoman/dragoman/rewrite/ClauseTerm$Variable" ∧ Fld Z h a1 "com/example/dragoman/dragoman/rewrite/ClauseTerm$Variable" "id" "I" (.int p1)
set_option maxRecDepth 65536 in
set_option maxHeartbeats 40000000 in
theorem c_vInit (l : Launch) (Z : State) (a0 : Array Value) (hw : ∀ d ∈ tables_1, d.before a0 Z = true) (a1 : Addr) (p1 : Int32) (h0 : Heap) (E1 : Exa Z h0 a1 "com/example/dragoman/dragoman/rewrite/ClauseTerm$Variable") (F1 : Fld Z h0 a1 "com/example/dragoman/dragoman/rewrite/ClauseTerm$Variable" "id" "I" (.int 0)) (g1 : Z.heap.size ≤ a1) :
    Con l Z (⟨"com/example/dragoman/dragoman/rewrite/ClauseTerm$Variable", "<init>", "(I)V"⟩ : MethodName) prog_39_method_1_code 2 (Option.none : Option FieldType) [] ({ frames := 1, cells := 0, slots := 0, locals := 12 } : Room) #[(.ref a1), (.int p1)] h0 (Q_vInit Z a1 p1 h0) [] := by
  refine Con.of (plainFor_of_name pn_com_example_dragoman_dragoman_rewrite_ClauseTerm_Variable) ?_
  intro p e s m below meth c T0 B W0
  refine Go.cast (ef_vInit m a1 p1 ) ?_
  refine g_aload_n B W0 (d_prog_39_method_1_0) rfl rfl ?_
  obtain ⟨T101, W101, st101⟩ := x_init B W0 (d_prog_39_method_1_1) (tw hw 6 rfl) (tw hw 7 rfl) (tw hw 8 rfl) a1 #[.val (.ref a1), .val (.int p1)] [] rfl 0 rfl (by decide) (by decide)
  refine st101 _ ?_
  refine g_aload_n B W101 (d_prog_39_method_1_4) rfl rfl ?_
  refine g_iload_n B W101 (d_prog_39_method_1_5) rfl ?_
  obtain ⟨T102, h102, W102, K102, R102, F102, E102, st102⟩ := x_put B W101 (d_prog_39_method_1_6) ((tw hw 9 rfl)) Via.refl F1 E1 (Or.inr ⟨ (tw hw 10 rfl), rfl, rfl⟩) (tw hw 1 rfl) (ty := .int) (v := (.int p1)) (v' := (.int p1)) (by decide) rfl rfl (by omega) (Or.inl (by decide)) #[.val (.ref a1), .val (.int p1)] []
  refine st102 _ ?_
  have s103 := K102.1
  exact r_v B W102 (d_prog_39_method_1_9) (by decide) (by decide) ⟨rfl, ((Keep.refl h0 [a1]).trans K102 (allS (Or.inl (by simp)) all0)), E102, F102⟩
theorem ef_rnn (m : MethodId) (a1 : Addr) (a2 : Addr) : entryFrame m #[(.ref a1), (.ref a2)] 2 = mkF m 0 #[.val (.ref a1), .val (.ref a2)] [] := by first | (simp [entryFrame, mkF, argsToLocals, Value.category]; done) | rfl
def Q_rnn (Z : State) (a1 : Addr) (a2 : Addr) (h0 : Heap) (v : Option Value) (h : Heap) : Prop := v = some (.ref a1) ∧ h0 = h
set_option maxRecDepth 65536 in
set_option maxHeartbeats 40000000 in
theorem c_rnn (l : Launch) (Z : State) (a0 : Array Value) (hw : ∀ d ∈ tables_1, d.before a0 Z = true) (a1 : Addr) (a2 : Addr) (h0 : Heap) :
    Con l Z (⟨"java/util/Objects", "requireNonNull", "(Ljava/lang/Object;Ljava/lang/String;)Ljava/lang/Object;"⟩ : MethodName) jdk_31_method_11_code 2 (Option.some (FieldType.object "java/lang/Object")) [] ({ frames := 0, cells := 0, slots := 0, locals := 0 } : Room) #[(.ref a1), (.ref a2)] h0 (Q_rnn Z a1 a2 h0) [] := by
  refine Con.of (plainFor_of_name pn_java_util_Objects) ?_
  intro p e s m below meth c T0 B W0
  refine Go.cast (ef_rnn m a1 a2 ) ?_
  refine g_aload_n B W0 (d_jdk_31_method_11_0) rfl rfl ?_
  refine g_ifnonnull_y B W0 (d_jdk_31_method_11_1) (pc' := 13) (by decide) ?_
  show Go p.tables e below _ T0 (mkF m 13 #[.val (.ref a1), .val (.ref a2)] [])
  refine g_aload_n B W0 (d_jdk_31_method_11_13) rfl rfl ?_
  exact r_a B W0 rfl rfl rfl (d_jdk_31_method_11_14) (by decide) (by decide) ⟨rfl, rfl⟩
theorem ef_hash (m : MethodId) (a1 : Addr) (p1 : Int32) : entryFrame m #[(.ref a1)] 1 = mkF m 0 #[.val (.ref a1)] [] := by first | (simp [entryFrame, mkF, argsToLocals, Value.category]; done) | rfl
def Q_hash (Z : State) (a1 : Addr) (p1 : Int32) (h0 : Heap) (v : Option Value) (h : Heap) : Prop := v = some (.int p1) ∧ h0 = h
set_option maxRecDepth 65536 in
set_option maxHeartbeats 40000000 in
theorem c_hash (l : Launch) (Z : State) (a0 : Array Value) (hw : ∀ d ∈ tables_1, d.before a0 Z = true) (a1 : Addr) (p1 : Int32) (h0 : Heap) (F1 : Fld Z h0 a1 "com/example/dragoman/dragoman/rewrite/ClauseTerm$Variable" "id" "I" (.int p1)) :
    Con l Z (⟨"com/example/dragoman/dragoman/rewrite/ClauseTerm$Variable", "hashCode", "()I"⟩ : MethodName) prog_39_method_4_code 1 (Option.some FieldType.int) [] ({ frames := 0, cells := 0, slots := 0, locals := 0 } : Room) #[(.ref a1)] h0 (Q_hash Z a1 p1 h0) [] := by
  refine Con.of (plainFor_of_name pn_com_example_dragoman_dragoman_rewrite_ClauseTerm_Variable) ?_
  intro p e s m below meth c T0 B W0
  refine Go.cast (ef_hash m a1 p1 ) ?_
  refine g_aload_n B W0 (d_prog_39_method_4_0) rfl rfl ?_
  obtain ⟨T101, W101, st101⟩ := x_get B W0 (host := "") (d_prog_39_method_4_1) (Or.inl (tw hw 9 rfl)) Via.refl F1 #[.val (.ref a1)] []
  refine st101 _ ?_
  exact r_i B W101 (d_prog_39_method_4_4) (by decide) (by decide) ⟨rfl, rfl⟩
theorem ef_skI (m : MethodId) (a1 : Addr) (x1 : Addr) (p1 : Int32) : entryFrame m #[(.ref a1), (.int 0), (.ref x1)] 3 = mkF m 0 #[.val (.ref a1), .val (.int 0), .val (.ref x1)] [] := by first | (simp [entryFrame, mkF, argsToLocals, Value.category]; done) | rfl
def Q_skI (Z : State) (a1 : Addr) (x1 : Addr) (p1 : Int32) (h0 : Heap) (v : Option Value) (h : Heap) : Prop := v = none ∧ Keep h0 h [a1] ∧ Exa Z h a1 "com/example/dragoman/dragoman/rewrite/ClauseTerm$Skolem"
set_option maxRecDepth 65536 in
set_option maxHeartbeats 40000000 in
theorem c_skI (l : Launch) (Z : State) (a0 : Array Value) (hw : ∀ d ∈ tables_1, d.before a0 Z = true) (a1 : Addr) (x1 : Addr) (p1 : Int32) (h0 : Heap) (E1 : Exa Z h0 a1 "com/example/dragoman/dragoman/rewrite/ClauseTerm$Skolem") (F0 : Fld Z h0 a1 "com/example/dragoman/dragoman/rewrite/ClauseTerm$Skolem" "symbol" "I" (.int 0)) (F1 : Fld Z h0 a1 "com/example/dragoman/dragoman/rewrite/ClauseTerm$Skolem" "argument" "Lcom/example/dragoman/dragoman/rewrite/ClauseTerm;" .null) (F2 : Fld Z h0 a1 "com/example/dragoman/dragoman/rewrite/ClauseTerm$Skolem" "hash" "I" (.int 0)) (Ex : Exa Z h0 x1 "com/example/dragoman/dragoman/rewrite/ClauseTerm$Variable") (Fx : Fld Z h0 x1 "com/example/dragoman/dragoman/rewrite/ClauseTerm$Variable" "id" "I" (.int p1)) (g1 : Z.heap.size ≤ a1) (nx : ¬ @Eq Nat x1 a1) :
    Con l Z (⟨"com/example/dragoman/dragoman/rewrite/ClauseTerm$Skolem", "<init>", "(ILcom/example/dragoman/dragoman/rewrite/ClauseTerm;)V"⟩ : MethodName) prog_38_method_1_code 3 (Option.none : Option FieldType) [] ({ frames := 1, cells := 2, slots := 36, locals := 16 } : Room) #[(.ref a1), (.int 0), (.ref x1)] h0 (Q_skI Z a1 x1 p1 h0) [] := by
  refine Con.of (plainFor_of_name pn_com_example_dragoman_dragoman_rewrite_ClauseTerm_Skolem) ?_
  intro p e s m below meth c T0 B W0
  refine Go.cast (ef_skI m a1 x1 p1 ) ?_
  have l_a1 := nlt E1.lt
  refine g_aload_n B W0 (d_prog_38_method_1_0) rfl rfl ?_
  obtain ⟨T101, W101, st101⟩ := x_init B W0 (d_prog_38_method_1_1) (tw hw 17 rfl) (tw hw 7 rfl) (tw hw 8 rfl) a1 #[.val (.ref a1), .val (.int 0), .val (.ref x1)] [] rfl 0 rfl (by decide) (by decide)
  refine st101 _ ?_
  refine g_aload_n B W101 (d_prog_38_method_1_4) rfl rfl ?_
  refine g_iload_n B W101 (d_prog_38_method_1_5) rfl ?_
  obtain ⟨T102, h102, W102, K102, R102, F102, E102, st102⟩ := x_put B W101 (d_prog_38_method_1_6) ((tw hw 18 rfl)) Via.refl F0 E1 (Or.inr ⟨ (tw hw 19 rfl), rfl, rfl⟩) (tw hw 12 rfl) (ty := .int) (v := (.int 0)) (v' := (.int 0)) (by decide) rfl rfl (by omega) (Or.inl (by decide)) #[.val (.ref a1), .val (.int 0), .val (.ref x1)] []
  refine st102 _ ?_
  have f103 := F1.other R102 (Or.inr (slot_ne (Or.inr (tw hw 35 rfl)) (Or.inr (tw hw 19 rfl)) (by decide) (t := (.object "com/example/dragoman/dragoman/rewrite/ClauseTerm")) (t' := .int) (by decide) (by decide)))
  have f104 := F2.other R102 (Or.inr (slot_ne (Or.inr (tw hw 45 rfl)) (Or.inr (tw hw 19 rfl)) (by decide) (t := .int) (t' := .int) (by decide) (by decide)))
  have s105 := K102.1
  refine g_aload_n B W102 (d_prog_38_method_1_9) rfl rfl ?_
  refine g_aload_n B W102 (d_prog_38_method_1_10) rfl rfl ?_
  obtain ⟨T106, h106, b106, W106, K106, st106⟩ := x_ldcS B W102 32 (d_prog_38_method_1_11) (tw hw 20 rfl) (own_wS hw) (own_EL hw) (by decide) (by decide) (by decide) (by decide) #[.val (.ref a1), .val (.int 0), .val (.ref x1)] [(.ref x1), (.ref a1)]
  refine st106 _ ?_
  have s107 := K106.1
  obtain ⟨T108, h108, v108, W108, Q108, st108⟩ := x_static B W106 [(.ref x1), (.ref b106)] (c_rnn l Z a0 hw x1 b106 h106) (by simp) (d_prog_38_method_1_13) (tw hw 28 rfl) (tw hw 29 rfl) (tw hw 30 rfl) (tw hw 31 rfl) (by decide) (lenOf pd__Ljava_lang_Object_Ljava_lang_String__Ljava_lang_Object_ rfl) #[.val (.ref a1), .val (.int 0), .val (.ref x1)] [(.ref a1)] rfl 1 rfl (by decide) (by decide) (by decide) (by decide)
  obtain ⟨rfl, rfl⟩ := Q108
  refine st108 _ ?_
  have f110 := ((Ex.keep K102).keep K106)
  obtain ⟨T109, W109, st109⟩ := x_castY B W108 (d_prog_38_method_1_16) (tw hw 32 rfl) (Ins.of_exa f110 (tw hw 33 rfl)) #[.val (.ref a1), .val (.int 0), .val (.ref x1)] [(.ref a1)]
  refine st109 _ ?_
  have f111 := (f103.keep K106 nin0)
  have f112 := (E102.keep K106)
  obtain ⟨T113, h113, W113, K113, R113, F113, E113, st113⟩ := x_put B W109 (d_prog_38_method_1_19) ((tw hw 34 rfl)) Via.refl f111 f112 (Or.inr ⟨ (tw hw 35 rfl), rfl, rfl⟩) (tw hw 12 rfl) (ty := (.object "com/example/dragoman/dragoman/rewrite/ClauseTerm")) (v := (.ref x1)) (v' := (.ref x1)) (by decide) rfl rfl (by omega) (Or.inl (by decide)) #[.val (.ref a1), .val (.int 0), .val (.ref x1)] []
  refine st113 _ ?_
  have f114 := (F102.keep K106 nin0)
  have f115 := f114.other R113 (Or.inr (slot_ne (Or.inr (tw hw 19 rfl)) (Or.inr (tw hw 35 rfl)) (by decide) (t := .int) (t' := (.object "com/example/dragoman/dragoman/rewrite/ClauseTerm")) (by decide) (by decide)))
  have f116 := (f104.keep K106 nin0)
  have f117 := f116.other R113 (Or.inr (slot_ne (Or.inr (tw hw 45 rfl)) (Or.inr (tw hw 35 rfl)) (by decide) (t := .int) (t' := (.object "com/example/dragoman/dragoman/rewrite/ClauseTerm")) (by decide) (by decide)))
  have s118 := K113.1
  refine g_aload_n B W113 (d_prog_38_method_1_22) rfl rfl ?_
  refine g_bipush B W113 (d_prog_38_method_1_23) (v := 31) (by decide) ?_
  refine g_iload_n B W113 (d_prog_38_method_1_25) rfl ?_
  refine g_imul B W113 (d_prog_38_method_1_26)  ?_
  rw [show (31 * 0 : Int32) = 0 by decide]
  refine g_aload_n B W113 (d_prog_38_method_1_27) rfl rfl ?_
  have f120 := ((Fx.keep K102 (ninS (nne (by have q := nlt Fx.lt; omega)) nin0)).keep K106 nin0)
  have f121 := (f120.keep K113 (ninS (nne (by have q := nlt f120.lt; omega)) nin0))
  have f122 := (f110.keep K113)
  obtain ⟨T119, h119, v119, W119, Q119, st119⟩ := x_ifaceUp B W113 (b := x1) (J := "java/lang/Object") [] (c_hash l Z a0 hw x1 p1 h113 f121) (by simp) f122 (d_prog_38_method_1_28) (tw hw 36 rfl) (tw hw 37 rfl) (tw hw 38 rfl) (by decide) (by decide) (tw hw 39 rfl) (tw hw 40 rfl) (tw hw 41 rfl) (tw hw 42 rfl) (tw hw 33 rfl) (tw hw 2 rfl) (tw hw 43 rfl) (by decide) (lenOf pd___I rfl) #[.val (.ref a1), .val (.int 0), .val (.ref x1)] [(.int 0), (.ref a1)] rfl 2 rfl (by decide) (by decide) (by decide) (by decide)
  obtain ⟨rfl, rfl⟩ := Q119
  refine st119 _ ?_
  refine g_iadd B W119 (d_prog_38_method_1_33)  ?_
  obtain ⟨T123, h123, W123, K123, R123, F123, E123, st123⟩ := x_put B W119 (d_prog_38_method_1_34) ((tw hw 44 rfl)) Via.refl f117 E113 (Or.inr ⟨ (tw hw 45 rfl), rfl, rfl⟩) (tw hw 12 rfl) (ty := .int) (v := (.int (0 + p1))) (v' := (.int (0 + p1))) (by decide) rfl rfl (by omega) (Or.inl (by decide)) #[.val (.ref a1), .val (.int 0), .val (.ref x1)] []
  refine st123 _ ?_
  have f124 := f115.other R123 (Or.inr (slot_ne (Or.inr (tw hw 19 rfl)) (Or.inr (tw hw 45 rfl)) (by decide) (t := .int) (t' := .int) (by decide) (by decide)))
  have f125 := F113.other R123 (Or.inr (slot_ne (Or.inr (tw hw 35 rfl)) (Or.inr (tw hw 45 rfl)) (by decide) (t := (.object "com/example/dragoman/dragoman/rewrite/ClauseTerm")) (t' := .int) (by decide) (by decide)))
  have s126 := K123.1
  exact r_v B W123 (d_prog_38_method_1_37) (by decide) (by decide) ⟨rfl, (((((Keep.refl h0 [a1]).trans K102 (allS (Or.inl (by simp)) all0)).trans K106 all0).trans K113 (allS (Or.inl (by simp)) all0)).trans K123 (allS (Or.inl (by simp)) all0)), E123⟩
theorem ef_eqV (m : MethodId) (a1 : Addr) (a2 : Addr) (p1 : Int32) (p2 : Int32) : entryFrame m #[(.ref a1), (.ref a2)] 2 = mkF m 0 #[.val (.ref a1), .val (.ref a2)] [] := by first | (simp [entryFrame, mkF, argsToLocals, Value.category]; done) | rfl
def Q_eqV (Z : State) (a1 : Addr) (a2 : Addr) (p1 : Int32) (p2 : Int32) (h0 : Heap) (v : Option Value) (h : Heap) : Prop := v = some (.int (bi (decide (p2 = p1)))) ∧ h0 = h
set_option maxRecDepth 65536 in
set_option maxHeartbeats 40000000 in
theorem c_eqV (l : Launch) (Z : State) (a0 : Array Value) (hw : ∀ d ∈ tables_1, d.before a0 Z = true) (a1 : Addr) (a2 : Addr) (p1 : Int32) (p2 : Int32) (h0 : Heap) (E2 : Exa Z h0 a2 "com/example/dragoman/dragoman/rewrite/ClauseTerm$Variable") (F1 : Fld Z h0 a1 "com/example/dragoman/dragoman/rewrite/ClauseTerm$Variable" "id" "I" (.int p1)) (F2 : Fld Z h0 a2 "com/example/dragoman/dragoman/rewrite/ClauseTerm$Variable" "id" "I" (.int p2)) :
    Con l Z (⟨"com/example/dragoman/dragoman/rewrite/ClauseTerm$Variable", "equals", "(Ljava/lang/Object;)Z"⟩ : MethodName) prog_39_method_3_code 2 (Option.some FieldType.boolean) [] ({ frames := 0, cells := 0, slots := 0, locals := 0 } : Room) #[(.ref a1), (.ref a2)] h0 (Q_eqV Z a1 a2 p1 p2 h0) [] := by
  refine Con.of (plainFor_of_name pn_com_example_dragoman_dragoman_rewrite_ClauseTerm_Variable) ?_
  intro p e s m below meth c T0 B W0
  refine Go.cast (ef_eqV m a1 a2 p1 p2 ) ?_
  refine g_aload_n B W0 (d_prog_39_method_3_0) rfl rfl ?_
  obtain ⟨T101, W101, st101⟩ := x_instY B W0 (d_prog_39_method_3_1) (tw hw 51 rfl) (Ins.self E2) #[.val (.ref a1), .val (.ref a2)] []
  refine st101 _ ?_
  refine g_if_n B W101 (d_prog_39_method_3_4) (XT.i0_eq_f (by decide)) ?_
  show Go p.tables e below _ T101 (mkF m 7 #[.val (.ref a1), .val (.ref a2)] [])
  refine g_aload_n B W101 (d_prog_39_method_3_7) rfl rfl ?_
  obtain ⟨T102, W102, st102⟩ := x_castY B W101 (d_prog_39_method_3_8) (tw hw 51 rfl) (Ins.self E2) #[.val (.ref a1), .val (.ref a2)] []
  refine st102 _ ?_
  obtain ⟨T103, W103, st103⟩ := x_get B W102 (host := "") (d_prog_39_method_3_11) (Or.inl (tw hw 9 rfl)) Via.refl F2 #[.val (.ref a1), .val (.ref a2)] []
  refine st103 _ ?_
  refine g_aload_n B W103 (d_prog_39_method_3_14) rfl rfl ?_
  obtain ⟨T104, W104, st104⟩ := x_get B W103 (host := "") (d_prog_39_method_3_15) (Or.inl (tw hw 9 rfl)) Via.refl F1 #[.val (.ref a1), .val (.ref a2)] [(.int p2)]
  refine st104 _ ?_
  refine g_diab (decide (p2 = p1)) (m := m) (ls := #[.val (.ref a1), .val (.ref a2)]) (st := []) (pc' := 26) (fun hd1 q => ?_) (fun hd1 q => ?_) ?_
  · refine g_icmp_n B W104 (d_prog_39_method_3_18) (XT.ii_ne_f (of_decide_eq_true hd1)) ?_
    refine g_iconst B W104 (d_prog_39_method_3_21) (v := 1) (by decide) ?_
    exact g_goto B W104 (d_prog_39_method_3_22) (pc' := 26) (by decide) q
  · refine g_icmp_y B W104 (d_prog_39_method_3_18) (XT.ii_ne_t (of_decide_eq_false hd1)) (pc' := 25) (by decide) ?_
    exact g_iconst B W104 (d_prog_39_method_3_25) (v := 0) (by decide) q
  show Go p.tables e below _ T104 (mkF m 26 #[.val (.ref a1), .val (.ref a2)] [(.int (bi (decide (p2 = p1))))])
  exact r_b B W104 (d_prog_39_method_3_26) (by decide) (by decide) ⟨rfl, rfl⟩
theorem ef_eqS (m : MethodId) (a1 : Addr) (a2 : Addr) : entryFrame m #[(.ref a1), (.ref a2)] 2 = mkF m 0 #[.val (.ref a1), .val (.ref a2)] [] := by first | (simp [entryFrame, mkF, argsToLocals, Value.category]; done) | rfl
def Q_eqS (Z : State) (a1 : Addr) (a2 : Addr) (h0 : Heap) (v : Option Value) (h : Heap) : Prop := v = some (.int (bi false)) ∧ h0 = h
set_option maxRecDepth 65536 in
set_option maxHeartbeats 40000000 in
theorem c_eqS (l : Launch) (Z : State) (a0 : Array Value) (hw : ∀ d ∈ tables_1, d.before a0 Z = true) (a1 : Addr) (a2 : Addr) (h0 : Heap) (E2 : Exa Z h0 a2 "com/example/dragoman/dragoman/rewrite/ClauseTerm$Skolem") :
    Con l Z (⟨"com/example/dragoman/dragoman/rewrite/ClauseTerm$Variable", "equals", "(Ljava/lang/Object;)Z"⟩ : MethodName) prog_39_method_3_code 2 (Option.some FieldType.boolean) [] ({ frames := 0, cells := 0, slots := 0, locals := 0 } : Room) #[(.ref a1), (.ref a2)] h0 (Q_eqS Z a1 a2 h0) [] := by
  refine Con.of (plainFor_of_name pn_com_example_dragoman_dragoman_rewrite_ClauseTerm_Variable) ?_
  intro p e s m below meth c T0 B W0
  refine Go.cast (ef_eqS m a1 a2 ) ?_
  refine g_aload_n B W0 (d_prog_39_method_3_0) rfl rfl ?_
  obtain ⟨T101, W101, st101⟩ := x_instN B W0 (d_prog_39_method_3_1) (tw hw 51 rfl) E2 (own_no (tw hw 53 rfl) (tw hw 1 rfl) (NS.step (tw hw 53 rfl) (own_root (tw hw 54 rfl) (tw hw 1 rfl) (by decide)) (by decide)) (by decide)) #[.val (.ref a1), .val (.ref a2)] []
  refine st101 _ ?_
  refine g_if_y B W101 (d_prog_39_method_3_4) (XT.i0_eq_t (by decide)) (pc' := 25) (by decide) ?_
  show Go p.tables e below _ T101 (mkF m 25 #[.val (.ref a1), .val (.ref a2)] [])
  refine g_iconst B W101 (d_prog_39_method_3_25) (v := 0) (by decide) ?_
  exact r_n B W101 (t := .boolean) rfl (by simp) (d_prog_39_method_3_26) (by decide) (by decide) ⟨by rw [nar_b0]; rfl, rfl⟩
theorem ef_eqI (m : MethodId) (a1 : Addr) (a2 : Addr) : entryFrame m #[(.ref a1), (.ref a2)] 2 = mkF m 0 #[.val (.ref a1), .val (.ref a2)] [] := by first | (simp [entryFrame, mkF, argsToLocals, Value.category]; done) | rfl
def Q_eqI (Z : State) (a1 : Addr) (a2 : Addr) (h0 : Heap) (v : Option Value) (h : Heap) : Prop := v = some (.int (bi false)) ∧ h0 = h
set_option maxRecDepth 65536 in
set_option maxHeartbeats 40000000 in
theorem c_eqI (l : Launch) (Z : State) (a0 : Array Value) (hw : ∀ d ∈ tables_1, d.before a0 Z = true) (a1 : Addr) (a2 : Addr) (h0 : Heap) (E2 : Exa Z h0 a2 "java/lang/Integer") :
    Con l Z (⟨"com/example/dragoman/dragoman/rewrite/ClauseTerm$Variable", "equals", "(Ljava/lang/Object;)Z"⟩ : MethodName) prog_39_method_3_code 2 (Option.some FieldType.boolean) [] ({ frames := 0, cells := 0, slots := 0, locals := 0 } : Room) #[(.ref a1), (.ref a2)] h0 (Q_eqI Z a1 a2 h0) [] := by
  refine Con.of (plainFor_of_name pn_com_example_dragoman_dragoman_rewrite_ClauseTerm_Variable) ?_
  intro p e s m below meth c T0 B W0
  refine Go.cast (ef_eqI m a1 a2 ) ?_
  refine g_aload_n B W0 (d_prog_39_method_3_0) rfl rfl ?_
  obtain ⟨T101, W101, st101⟩ := x_instN B W0 (d_prog_39_method_3_1) (tw hw 51 rfl) E2 (own_no (tw hw 62 rfl) (tw hw 1 rfl) (NS.step (tw hw 62 rfl) (NS.step (tw hw 63 rfl) (own_root (tw hw 54 rfl) (tw hw 1 rfl) (by decide)) (by decide)) (by decide)) (by decide)) #[.val (.ref a1), .val (.ref a2)] []
  refine st101 _ ?_
  refine g_if_y B W101 (d_prog_39_method_3_4) (XT.i0_eq_t (by decide)) (pc' := 25) (by decide) ?_
  show Go p.tables e below _ T101 (mkF m 25 #[.val (.ref a1), .val (.ref a2)] [])
  refine g_iconst B W101 (d_prog_39_method_3_25) (v := 0) (by decide) ?_
  exact r_n B W101 (t := .boolean) rfl (by simp) (d_prog_39_method_3_26) (by decide) (by decide) ⟨by rw [nar_b0]; rfl, rfl⟩
theorem ef_eqN (m : MethodId) (a1 : Addr) : entryFrame m #[(.ref a1), .null] 2 = mkF m 0 #[.val (.ref a1), .val .null] [] := by first | (simp [entryFrame, mkF, argsToLocals, Value.category]; done) | rfl
def Q_eqN (Z : State) (a1 : Addr) (h0 : Heap) (v : Option Value) (h : Heap) : Prop := v = some (.int (bi false)) ∧ h0 = h
set_option maxRecDepth 65536 in
set_option maxHeartbeats 40000000 in
theorem c_eqN (l : Launch) (Z : State) (a0 : Array Value) (hw : ∀ d ∈ tables_1, d.before a0 Z = true) (a1 : Addr) (h0 : Heap) :
    Con l Z (⟨"com/example/dragoman/dragoman/rewrite/ClauseTerm$Variable", "equals", "(Ljava/lang/Object;)Z"⟩ : MethodName) prog_39_method_3_code 2 (Option.some FieldType.boolean) [] ({ frames := 0, cells := 0, slots := 0, locals := 0 } : Room) #[(.ref a1), .null] h0 (Q_eqN Z a1 h0) [] := by
  refine Con.of (plainFor_of_name pn_com_example_dragoman_dragoman_rewrite_ClauseTerm_Variable) ?_
  intro p e s m below meth c T0 B W0
  refine Go.cast (ef_eqN m a1 ) ?_
  refine g_aload_n B W0 (d_prog_39_method_3_0) rfl rfl ?_
  refine g_instNull B W0 (d_prog_39_method_3_1)  ?_
  refine g_if_y B W0 (d_prog_39_method_3_4) (XT.i0_eq_t (by decide)) (pc' := 25) (by decide) ?_
  show Go p.tables e below _ T0 (mkF m 25 #[.val (.ref a1), .val .null] [])
  refine g_iconst B W0 (d_prog_39_method_3_25) (v := 0) (by decide) ?_
  exact r_n B W0 (t := .boolean) rfl (by simp) (d_prog_39_method_3_26) (by decide) (by decide) ⟨by rw [nar_b0]; rfl, rfl⟩
theorem ef_law (m : MethodId) (p1 : Int32) (p2 : Int32) (p3 : Int32) (ca : Addr) (cl : Cell) : entryFrame m #[(.int p1), (.int p2), (.int p3)] maxLocals = mkF m 0 #[.val (.int p1), .val (.int p2), .val (.int p3), .unset, .unset, .unset, .unset, .unset, .unset] [] := by first | (simp [entryFrame, mkF, argsToLocals, Value.category, maxLocals]; done) | rfl
def Q_law (Z : State) (p1 : Int32) (p2 : Int32) (p3 : Int32) (ca : Addr) (cl : Cell) (h0 : Heap) (v : Option Value) (h : Heap) : Prop := v = some (.int 1)
set_option maxRecDepth 65536 in
set_option maxHeartbeats 40000000 in
theorem c_law (l : Launch) (Z : State) (a0 : Array Value) (hw : ∀ d ∈ tables_1, d.before a0 Z = true) (ws : List Jvm.Cond) (p1 : Int32) (p2 : Int32) (p3 : Int32) (ca : Addr) (cl : Cell) (h0 : Heap) (Sh : Sta Z Z.heap "java/lang/Integer$IntegerCache" "high" "I" (.int 127)) (Sc : Sta Z Z.heap "java/lang/Integer$IntegerCache" "cache" "[Ljava/lang/Integer;" (.ref ca)) (Bx : Bxs Z ca cl "java/lang/Integer" "I" 256 (fun j => .int (j - 128))) :
    Con l Z x code maxLocals ret ws room_1 #[(.int p1), (.int p2), (.int p3)] h0 (Q_law Z p1 p2 p3 ca cl h0) [] := by
  refine Con.of (plainFor_of_name pn_com_example_dragoman_dragoman_rewrite_VariableEqualsPinLaw) ?_
  intro p e s m below meth c T0 B W0
  refine Go.cast (ef_law m p1 p2 p3 ca cl ) ?_
  refine g_iload_n B W0 at_0 rfl ?_
  refine g_iconst B W0 at_1 (v := 1) (by decide) ?_
  refine g_iand B W0 at_2  ?_
  obtain ⟨cc, hcc⟩ : ∃ cc : Int32, cc = if (p3 &&& 1) = 0 then p2 else p1 := ⟨_, rfl⟩
  suffices q : Go p.tables e below (Jvm.OwnK.Out Z s (Q_law Z p1 p2 p3 ca cl h0) room_1.cells room_1.slots) T0 (mkF m 11 #[.val (.int p1), .val (.int p2), .val (.int p3), .unset, .unset, .unset, .unset, .unset, .unset] [(.int cc)]) by
    by_cases hc101 : (p3 &&& 1) = 0
    · skip
      refine g_if_y B W0 at_3 (XT.i0_eq_t hc101) (pc' := 10) (by decide) ?_
      show Go p.tables e below _ T0 (mkF m 10 #[.val (.int p1), .val (.int p2), .val (.int p3), .unset, .unset, .unset, .unset, .unset, .unset] [])
      refine g_iload_n B W0 at_10 rfl ?_
      exact own_gc (hcc.trans (if_pos hc101)) q
    · skip
      refine g_if_n B W0 at_3 (XT.i0_eq_f hc101) ?_
      show Go p.tables e below _ T0 (mkF m 6 #[.val (.int p1), .val (.int p2), .val (.int p3), .unset, .unset, .unset, .unset, .unset, .unset] [])
      refine g_iload_n B W0 at_6 rfl ?_
      refine g_goto B W0 at_7 (pc' := 11) (by decide) ?_
      show Go p.tables e below _ T0 (mkF m 11 #[.val (.int p1), .val (.int p2), .val (.int p3), .unset, .unset, .unset, .unset, .unset, .unset] [(.int p1)])
      exact own_gc (hcc.trans (if_neg hc101)) q

  refine g_istore_n B W0 at_11  (l' := #[.val (.int p1), .val (.int p2), .val (.int p3), .val (.int cc), .unset, .unset, .unset, .unset, .unset]) rfl ?_
  obtain ⟨T102, h102, b102, gb102, W102, K102, E102, D102, st102⟩ := x_new B W0 at_12 (tw hw 0 rfl) (tw hw 1 rfl) (tw hw 2 rfl) (by decide) (by decide) #[.val (.int p1), .val (.int p2), .val (.int p3), .val (.int cc), .unset, .unset, .unset, .unset, .unset] []
  have l102 := nlt E102.lt
  have z102 := W0.size
  refine st102 _ ?_
  have s103 := K102.1
  have f104 : Fld Z h102 b102 "com/example/dragoman/dragoman/rewrite/ClauseTerm$Variable" "id" "I" (.int 0) := D102 (Or.inr (tw hw 10 rfl)) (ty := .int) (by decide)
  refine g_dup B W102 at_15 rfl ?_
  refine g_iload_n B W102 at_16 rfl ?_
  obtain ⟨T105, h105, v105, W105, Q105, st105⟩ := x_special B W102 (b := b102) [(.int p1)] (c_vInit l Z a0 hw b102 p1 h102 E102 f104 (by omega)) (by simp) at_17 rfl (tw hw 3 rfl) (tw hw 4 rfl) (tw hw 2 rfl) (tw hw 5 rfl) (by decide) (lenOf pd__I_V rfl) #[.val (.int p1), .val (.int p2), .val (.int p3), .val (.int cc), .unset, .unset, .unset, .unset, .unset] [(.ref b102)] rfl 1 rfl (by decide) (by decide) (by decide) (by decide)
  obtain ⟨rfl, K105, E105, F105⟩ := Q105
  have s106 := K105.1
  refine st105 _ ?_
  refine g_astore B W105 at_20 rfl (l' := #[.val (.int p1), .val (.int p2), .val (.int p3), .val (.int cc), .val (.ref b102), .unset, .unset, .unset, .unset]) rfl ?_
  obtain ⟨T107, h107, b107, gb107, W107, K107, E107, D107, st107⟩ := x_new B W105 at_22 (tw hw 0 rfl) (tw hw 1 rfl) (tw hw 2 rfl) (by decide) (by decide) #[.val (.int p1), .val (.int p2), .val (.int p3), .val (.int cc), .val (.ref b102), .unset, .unset, .unset, .unset] []
  have l107 := nlt E107.lt
  have z107 := W105.size
  refine st107 _ ?_
  have s108 := K107.1
  have f109 : Fld Z h107 b107 "com/example/dragoman/dragoman/rewrite/ClauseTerm$Variable" "id" "I" (.int 0) := D107 (Or.inr (tw hw 10 rfl)) (ty := .int) (by decide)
  refine g_dup B W107 at_25 rfl ?_
  refine g_iload_n B W107 at_26 rfl ?_
  obtain ⟨T110, h110, v110, W110, Q110, st110⟩ := x_special B W107 (b := b107) [(.int cc)] (c_vInit l Z a0 hw b107 cc h107 E107 f109 (by omega)) (by simp) at_27 rfl (tw hw 3 rfl) (tw hw 4 rfl) (tw hw 2 rfl) (tw hw 5 rfl) (by decide) (lenOf pd__I_V rfl) #[.val (.int p1), .val (.int p2), .val (.int p3), .val (.int cc), .val (.ref b102), .unset, .unset, .unset, .unset] [(.ref b107)] rfl 1 rfl (by decide) (by decide) (by decide) (by decide)
  obtain ⟨rfl, K110, E110, F110⟩ := Q110
  have s111 := K110.1
  refine st110 _ ?_
  refine g_astore B W110 at_30 rfl (l' := #[.val (.int p1), .val (.int p2), .val (.int p3), .val (.int cc), .val (.ref b102), .val (.ref b107), .unset, .unset, .unset]) rfl ?_
  obtain ⟨T112, h112, b112, gb112, W112, K112, E112, D112, st112⟩ := x_new B W110 at_32 (tw hw 11 rfl) (tw hw 12 rfl) (tw hw 13 rfl) (by decide) (by decide) #[.val (.int p1), .val (.int p2), .val (.int p3), .val (.int cc), .val (.ref b102), .val (.ref b107), .unset, .unset, .unset] []
  have l112 := nlt E112.lt
  have z112 := W110.size
  refine st112 _ ?_
  have s113 := K112.1
  have f114 : Fld Z h112 b112 "com/example/dragoman/dragoman/rewrite/ClauseTerm$Skolem" "symbol" "I" (.int 0) := D112 (Or.inr (tw hw 19 rfl)) (ty := .int) (by decide)
  have f115 : Fld Z h112 b112 "com/example/dragoman/dragoman/rewrite/ClauseTerm$Skolem" "argument" "Lcom/example/dragoman/dragoman/rewrite/ClauseTerm;" .null := D112 (Or.inr (tw hw 35 rfl)) (ty := (.object "com/example/dragoman/dragoman/rewrite/ClauseTerm")) (by decide)
  have f116 : Fld Z h112 b112 "com/example/dragoman/dragoman/rewrite/ClauseTerm$Skolem" "hash" "I" (.int 0) := D112 (Or.inr (tw hw 45 rfl)) (ty := .int) (by decide)
  refine g_dup B W112 at_35 rfl ?_
  refine g_iconst B W112 at_36 (v := 0) (by decide) ?_
  refine g_aload B W112 at_37 rfl rfl ?_
  have f117 := (((E105.keep K107).keep K110).keep K112)
  have f118 := (F105.keep K107 nin0)
  have f119 := ((f118.keep K110 (ninS (nne (by have q := nlt f118.lt; omega)) nin0)).keep K112 nin0)
  obtain ⟨T120, h120, v120, W120, Q120, st120⟩ := x_special B W112 (b := b112) [(.int 0), (.ref b102)] (c_skI l Z a0 hw b112 b102 p1 h112 E112 f114 f115 f116 f117 f119 (by omega) (by omega)) (by simp) at_39 rfl (tw hw 14 rfl) (tw hw 15 rfl) (tw hw 13 rfl) (tw hw 16 rfl) (by decide) (lenOf pd__ILcom_example_dragoman_dragoman_rewrite_ClauseTerm__V rfl) #[.val (.int p1), .val (.int p2), .val (.int p3), .val (.int cc), .val (.ref b102), .val (.ref b107), .unset, .unset, .unset] [(.ref b112)] rfl 1 rfl (by decide) (by decide) (by decide) (by decide)
  obtain ⟨rfl, K120, E120⟩ := Q120
  have s121 := K120.1
  refine st120 _ ?_
  refine g_astore B W120 at_42 rfl (l' := #[.val (.int p1), .val (.int p2), .val (.int p3), .val (.int cc), .val (.ref b102), .val (.ref b107), .val (.ref b112), .unset, .unset]) rfl ?_
  refine g_iload_n B W120 at_44 rfl ?_
  refine g_iload_n B W120 at_45 rfl ?_
  refine g_diab (decide (p1 = cc)) (m := m) (ls := #[.val (.int p1), .val (.int p2), .val (.int p3), .val (.int cc), .val (.ref b102), .val (.ref b107), .val (.ref b112), .unset, .unset]) (st := []) (pc' := 54) (fun hd1 q => ?_) (fun hd1 q => ?_) ?_
  · refine g_icmp_n B W120 at_46 (XT.ii_ne_f (of_decide_eq_true hd1)) ?_
    refine g_iconst B W120 at_49 (v := 1) (by decide) ?_
    exact g_goto B W120 at_50 (pc' := 54) (by decide) q
  · refine g_icmp_y B W120 at_46 (XT.ii_ne_t (of_decide_eq_false hd1)) (pc' := 53) (by decide) ?_
    exact g_iconst B W120 at_53 (v := 0) (by decide) q
  show Go p.tables e below _ T120 (mkF m 54 #[.val (.int p1), .val (.int p2), .val (.int p3), .val (.int cc), .val (.ref b102), .val (.ref b107), .val (.ref b112), .unset, .unset] [(.int (bi (decide (p1 = cc))))])
  have hsame : (decide (p1 = cc)) = decide (p1 = cc) := rfl
  refine g_istore B W120 at_54  (l' := #[.val (.int p1), .val (.int p2), .val (.int p3), .val (.int cc), .val (.ref b102), .val (.ref b107), .val (.ref b112), .val (.int (bi (decide (p1 = cc)))), .unset]) rfl ?_
  refine g_aload B W120 at_56 rfl rfl ?_
  refine g_aload B W120 at_58 rfl rfl ?_
  have f122 := ((E110.keep K112).keep K120)
  have f123 := (f119.keep K120 (ninS (nne (by have q := nlt f119.lt; omega)) nin0))
  have f124 := (F110.keep K112 nin0)
  have f125 := (f124.keep K120 (ninS (nne (by have q := nlt f124.lt; omega)) nin0))
  have f127 := (f117.keep K120)
  obtain ⟨T126, h126, v126, W126, Q126, st126⟩ := x_virtual B W120 (b := b102) [(.ref b107)] (c_eqV l Z a0 hw b102 b107 p1 cc h120 f122 f123 f125) (by simp) f127 at_60 (tw hw 46 rfl) (tw hw 47 rfl) (tw hw 49 rfl) (tw hw 48 rfl) (tw hw 2 rfl) (tw hw 50 rfl) (by decide) (lenOf pd__Ljava_lang_Object__Z rfl) #[.val (.int p1), .val (.int p2), .val (.int p3), .val (.int cc), .val (.ref b102), .val (.ref b107), .val (.ref b112), .val (.int (bi (decide (p1 = cc)))), .unset] [] rfl 0 rfl (by decide) (by decide) (by decide) (by decide)
  obtain ⟨rfl, rfl⟩ := Q126
  refine st126 _ ?_
  refine g_iload B W126 at_63 rfl ?_
  refine g_icmp_n B W126 at_65 (XT.ii_ne_f (by first | rfl | (rw [bi_inj, decide_eq_decide]; exact eq_comm))) ?_
  show Go p.tables e below _ T126 (mkF m 68 #[.val (.int p1), .val (.int p2), .val (.int p3), .val (.int cc), .val (.ref b102), .val (.ref b107), .val (.ref b112), .val (.int (bi (decide (p1 = cc)))), .unset] [])
  refine g_iconst B W126 at_68 (v := 1) (by decide) ?_
  refine g_goto B W126 at_69 (pc' := 73) (by decide) ?_
  show Go p.tables e below _ T126 (mkF m 73 #[.val (.int p1), .val (.int p2), .val (.int p3), .val (.int cc), .val (.ref b102), .val (.ref b107), .val (.ref b112), .val (.int (bi (decide (p1 = cc)))), .unset] [(.int 1)])
  refine g_istore B W126 at_73  (l' := #[.val (.int p1), .val (.int p2), .val (.int p3), .val (.int cc), .val (.ref b102), .val (.ref b107), .val (.ref b112), .val (.int (bi (decide (p1 = cc)))), .val (.int 1)]) rfl ?_
  refine g_iload B W126 at_75 rfl ?_
  refine g_aload B W126 at_77 rfl rfl ?_
  refine g_aload B W126 at_79 rfl rfl ?_
  obtain ⟨T128, h128, v128, W128, Q128, st128⟩ := x_virtual B W126 (b := b107) [(.ref b102)] (c_eqV l Z a0 hw b107 b102 cc p1 h120 f127 f125 f123) (by simp) f122 at_81 (tw hw 46 rfl) (tw hw 47 rfl) (tw hw 49 rfl) (tw hw 48 rfl) (tw hw 2 rfl) (tw hw 50 rfl) (by decide) (lenOf pd__Ljava_lang_Object__Z rfl) #[.val (.int p1), .val (.int p2), .val (.int p3), .val (.int cc), .val (.ref b102), .val (.ref b107), .val (.ref b112), .val (.int (bi (decide (p1 = cc)))), .val (.int 1)] [(.int 1)] rfl 1 rfl (by decide) (by decide) (by decide) (by decide)
  obtain ⟨rfl, rfl⟩ := Q128
  refine st128 _ ?_
  refine g_iload B W128 at_84 rfl ?_
  refine g_icmp_n B W128 at_86 (XT.ii_ne_f (by first | rfl | (rw [bi_inj, decide_eq_decide]; exact eq_comm))) ?_
  show Go p.tables e below _ T128 (mkF m 89 #[.val (.int p1), .val (.int p2), .val (.int p3), .val (.int cc), .val (.ref b102), .val (.ref b107), .val (.ref b112), .val (.int (bi (decide (p1 = cc)))), .val (.int 1)] [(.int 1)])
  refine g_iconst B W128 at_89 (v := 1) (by decide) ?_
  refine g_goto B W128 at_90 (pc' := 94) (by decide) ?_
  show Go p.tables e below _ T128 (mkF m 94 #[.val (.int p1), .val (.int p2), .val (.int p3), .val (.int cc), .val (.ref b102), .val (.ref b107), .val (.ref b112), .val (.int (bi (decide (p1 = cc)))), .val (.int 1)] [(.int 1), (.int 1)])
  refine g_iand B W128 at_94  ?_
  refine g_istore B W128 at_95  (l' := #[.val (.int p1), .val (.int p2), .val (.int p3), .val (.int cc), .val (.ref b102), .val (.ref b107), .val (.ref b112), .val (.int (bi (decide (p1 = cc)))), .val (.int (1 &&& 1))]) rfl ?_
  refine g_iload B W128 at_97 rfl ?_
  refine g_aload B W128 at_99 rfl rfl ?_
  refine g_aload B W128 at_101 rfl rfl ?_
  obtain ⟨T129, h129, v129, W129, Q129, st129⟩ := x_virtual B W128 (b := b102) [(.ref b102)] (c_eqV l Z a0 hw b102 b102 p1 p1 h120 f127 f123 f123) (by simp) f127 at_103 (tw hw 46 rfl) (tw hw 47 rfl) (tw hw 49 rfl) (tw hw 48 rfl) (tw hw 2 rfl) (tw hw 50 rfl) (by decide) (lenOf pd__Ljava_lang_Object__Z rfl) #[.val (.int p1), .val (.int p2), .val (.int p3), .val (.int cc), .val (.ref b102), .val (.ref b107), .val (.ref b112), .val (.int (bi (decide (p1 = cc)))), .val (.int (1 &&& 1))] [(.int (1 &&& 1))] rfl 1 rfl (by decide) (by decide) (by decide) (by decide)
  obtain ⟨rfl, rfl⟩ := Q129
  refine st129 _ ?_
  refine g_iand B W129 at_106  ?_
  refine g_istore B W129 at_107  (l' := #[.val (.int p1), .val (.int p2), .val (.int p3), .val (.int cc), .val (.ref b102), .val (.ref b107), .val (.ref b112), .val (.int (bi (decide (p1 = cc)))), .val (.int ((1 &&& 1) &&& (bi (decide (p1 = p1)))))]) rfl ?_
  refine g_iload B W129 at_109 rfl ?_
  refine g_aload B W129 at_111 rfl rfl ?_
  refine g_aconst_null B W129 at_113  ?_
  obtain ⟨T130, h130, v130, W130, Q130, st130⟩ := x_virtual B W129 (b := b102) [.null] (c_eqN l Z a0 hw b102 h120) (by simp) f127 at_114 (tw hw 46 rfl) (tw hw 47 rfl) (tw hw 49 rfl) (tw hw 48 rfl) (tw hw 2 rfl) (tw hw 50 rfl) (by decide) (lenOf pd__Ljava_lang_Object__Z rfl) #[.val (.int p1), .val (.int p2), .val (.int p3), .val (.int cc), .val (.ref b102), .val (.ref b107), .val (.ref b112), .val (.int (bi (decide (p1 = cc)))), .val (.int ((1 &&& 1) &&& (bi (decide (p1 = p1)))))] [(.int ((1 &&& 1) &&& (bi (decide (p1 = p1)))))] rfl 1 rfl (by decide) (by decide) (by decide) (by decide)
  obtain ⟨rfl, rfl⟩ := Q130
  refine st130 _ ?_
  refine g_diab (!false) (m := m) (ls := #[.val (.int p1), .val (.int p2), .val (.int p3), .val (.int cc), .val (.ref b102), .val (.ref b107), .val (.ref b112), .val (.int (bi (decide (p1 = cc)))), .val (.int ((1 &&& 1) &&& (bi (decide (p1 = p1)))))]) (st := [(.int ((1 &&& 1) &&& (bi (decide (p1 = p1)))))]) (pc' := 125) (fun hd1 q => ?_) (fun hd1 q => ?_) ?_
  · refine g_if_n B W130 at_117 (XT.i0_ne_f (bi_f (by simpa using hd1))) ?_
    refine g_iconst B W130 at_120 (v := 1) (by decide) ?_
    exact g_goto B W130 at_121 (pc' := 125) (by decide) q
  · refine g_if_y B W130 at_117 (XT.i0_ne_t (bi_t (by simpa using hd1))) (pc' := 124) (by decide) ?_
    exact g_iconst B W130 at_124 (v := 0) (by decide) q
  show Go p.tables e below _ T130 (mkF m 125 #[.val (.int p1), .val (.int p2), .val (.int p3), .val (.int cc), .val (.ref b102), .val (.ref b107), .val (.ref b112), .val (.int (bi (decide (p1 = cc)))), .val (.int ((1 &&& 1) &&& (bi (decide (p1 = p1)))))] [(.int (bi (!false))), (.int ((1 &&& 1) &&& (bi (decide (p1 = p1)))))])
  refine g_iand B W130 at_125  ?_
  refine g_istore B W130 at_126  (l' := #[.val (.int p1), .val (.int p2), .val (.int p3), .val (.int cc), .val (.ref b102), .val (.ref b107), .val (.ref b112), .val (.int (bi (decide (p1 = cc)))), .val (.int (((1 &&& 1) &&& (bi (decide (p1 = p1)))) &&& (bi (!false))))]) rfl ?_
  refine g_iload B W130 at_128 rfl ?_
  refine g_aload B W130 at_130 rfl rfl ?_
  refine g_aload B W130 at_132 rfl rfl ?_
  obtain ⟨T131, h131, v131, W131, Q131, st131⟩ := x_virtual B W130 (b := b102) [(.ref b112)] (c_eqS l Z a0 hw b102 b112 h120 E120) (by simp) f127 at_134 (tw hw 46 rfl) (tw hw 47 rfl) (tw hw 49 rfl) (tw hw 48 rfl) (tw hw 2 rfl) (tw hw 50 rfl) (by decide) (lenOf pd__Ljava_lang_Object__Z rfl) #[.val (.int p1), .val (.int p2), .val (.int p3), .val (.int cc), .val (.ref b102), .val (.ref b107), .val (.ref b112), .val (.int (bi (decide (p1 = cc)))), .val (.int (((1 &&& 1) &&& (bi (decide (p1 = p1)))) &&& (bi (!false))))] [(.int (((1 &&& 1) &&& (bi (decide (p1 = p1)))) &&& (bi (!false))))] rfl 1 rfl (by decide) (by decide) (by decide) (by decide)
  obtain ⟨rfl, rfl⟩ := Q131
  refine st131 _ ?_
  refine g_diab (!false) (m := m) (ls := #[.val (.int p1), .val (.int p2), .val (.int p3), .val (.int cc), .val (.ref b102), .val (.ref b107), .val (.ref b112), .val (.int (bi (decide (p1 = cc)))), .val (.int (((1 &&& 1) &&& (bi (decide (p1 = p1)))) &&& (bi (!false))))]) (st := [(.int (((1 &&& 1) &&& (bi (decide (p1 = p1)))) &&& (bi (!false))))]) (pc' := 145) (fun hd1 q => ?_) (fun hd1 q => ?_) ?_
  · refine g_if_n B W131 at_137 (XT.i0_ne_f (bi_f (by simpa using hd1))) ?_
    refine g_iconst B W131 at_140 (v := 1) (by decide) ?_
    exact g_goto B W131 at_141 (pc' := 145) (by decide) q
  · refine g_if_y B W131 at_137 (XT.i0_ne_t (bi_t (by simpa using hd1))) (pc' := 144) (by decide) ?_
    exact g_iconst B W131 at_144 (v := 0) (by decide) q
  show Go p.tables e below _ T131 (mkF m 145 #[.val (.int p1), .val (.int p2), .val (.int p3), .val (.int cc), .val (.ref b102), .val (.ref b107), .val (.ref b112), .val (.int (bi (decide (p1 = cc)))), .val (.int (((1 &&& 1) &&& (bi (decide (p1 = p1)))) &&& (bi (!false))))] [(.int (bi (!false))), (.int (((1 &&& 1) &&& (bi (decide (p1 = p1)))) &&& (bi (!false))))])
  refine g_iand B W131 at_145  ?_
  refine g_istore B W131 at_146  (l' := #[.val (.int p1), .val (.int p2), .val (.int p3), .val (.int cc), .val (.ref b102), .val (.ref b107), .val (.ref b112), .val (.int (bi (decide (p1 = cc)))), .val (.int ((((1 &&& 1) &&& (bi (decide (p1 = p1)))) &&& (bi (!false))) &&& (bi (!false))))]) rfl ?_
  refine g_iload B W131 at_148 rfl ?_
  refine g_aload B W131 at_150 rfl rfl ?_
  refine g_iload_n B W131 at_152 rfl ?_
  obtain ⟨T132, h132, v132, W132, Q132, st132⟩ := x_static B W131 [(.int p1)] (c_valueOf l Z a0 hw p1 ca cl h120 Sh Sc Bx) (by simp) at_153 (tw hw 55 rfl) (tw hw 56 rfl) (tw hw 57 rfl) (tw hw 58 rfl) (by decide) (lenOf pd__I_Ljava_lang_Integer_ rfl) #[.val (.int p1), .val (.int p2), .val (.int p3), .val (.int cc), .val (.ref b102), .val (.ref b107), .val (.ref b112), .val (.int (bi (decide (p1 = cc)))), .val (.int ((((1 &&& 1) &&& (bi (decide (p1 = p1)))) &&& (bi (!false))) &&& (bi (!false))))] [(.ref b102), (.int ((((1 &&& 1) &&& (bi (decide (p1 = p1)))) &&& (bi (!false))) &&& (bi (!false))))] rfl 2 rfl (by decide) (by decide) (by decide) (by decide)
  obtain ⟨b132, rfl, K132, E132, F132⟩ := Q132
  have s133 := K132.1
  refine st132 _ ?_
  have f135 := (f127.keep K132)
  obtain ⟨T134, h134, v134, W134, Q134, st134⟩ := x_virtual B W132 (b := b102) [(.ref b132)] (c_eqI l Z a0 hw b102 b132 h132 E132) (by simp) f135 at_156 (tw hw 46 rfl) (tw hw 47 rfl) (tw hw 49 rfl) (tw hw 48 rfl) (tw hw 2 rfl) (tw hw 50 rfl) (by decide) (lenOf pd__Ljava_lang_Object__Z rfl) #[.val (.int p1), .val (.int p2), .val (.int p3), .val (.int cc), .val (.ref b102), .val (.ref b107), .val (.ref b112), .val (.int (bi (decide (p1 = cc)))), .val (.int ((((1 &&& 1) &&& (bi (decide (p1 = p1)))) &&& (bi (!false))) &&& (bi (!false))))] [(.int ((((1 &&& 1) &&& (bi (decide (p1 = p1)))) &&& (bi (!false))) &&& (bi (!false))))] rfl 1 rfl (by decide) (by decide) (by decide) (by decide)
  obtain ⟨rfl, rfl⟩ := Q134
  refine st134 _ ?_
  refine g_diab (!false) (m := m) (ls := #[.val (.int p1), .val (.int p2), .val (.int p3), .val (.int cc), .val (.ref b102), .val (.ref b107), .val (.ref b112), .val (.int (bi (decide (p1 = cc)))), .val (.int ((((1 &&& 1) &&& (bi (decide (p1 = p1)))) &&& (bi (!false))) &&& (bi (!false))))]) (st := [(.int ((((1 &&& 1) &&& (bi (decide (p1 = p1)))) &&& (bi (!false))) &&& (bi (!false))))]) (pc' := 167) (fun hd1 q => ?_) (fun hd1 q => ?_) ?_
  · refine g_if_n B W134 at_159 (XT.i0_ne_f (bi_f (by simpa using hd1))) ?_
    refine g_iconst B W134 at_162 (v := 1) (by decide) ?_
    exact g_goto B W134 at_163 (pc' := 167) (by decide) q
  · refine g_if_y B W134 at_159 (XT.i0_ne_t (bi_t (by simpa using hd1))) (pc' := 166) (by decide) ?_
    exact g_iconst B W134 at_166 (v := 0) (by decide) q
  show Go p.tables e below _ T134 (mkF m 167 #[.val (.int p1), .val (.int p2), .val (.int p3), .val (.int cc), .val (.ref b102), .val (.ref b107), .val (.ref b112), .val (.int (bi (decide (p1 = cc)))), .val (.int ((((1 &&& 1) &&& (bi (decide (p1 = p1)))) &&& (bi (!false))) &&& (bi (!false))))] [(.int (bi (!false))), (.int ((((1 &&& 1) &&& (bi (decide (p1 = p1)))) &&& (bi (!false))) &&& (bi (!false))))])
  refine g_iand B W134 at_167  ?_
  refine g_istore B W134 at_168  (l' := #[.val (.int p1), .val (.int p2), .val (.int p3), .val (.int cc), .val (.ref b102), .val (.ref b107), .val (.ref b112), .val (.int (bi (decide (p1 = cc)))), .val (.int (((((1 &&& 1) &&& (bi (decide (p1 = p1)))) &&& (bi (!false))) &&& (bi (!false))) &&& (bi (!false))))]) rfl ?_
  refine g_iload B W134 at_170 rfl ?_
  exact r_n B W134 (t := .boolean) rfl (by simp) at_172 (by decide) (by decide) (by show some (Value.int (nar .boolean (((((1 &&& 1) &&& (bi (decide (p1 = p1)))) &&& (bi (!false))) &&& (bi (!false))) &&& (bi (!false))))) = some (.int 1); rw [show (((((1 &&& 1) &&& (bi (decide (p1 = p1)))) &&& (bi (!false))) &&& (bi (!false))) &&& (bi (!false))) = 1 by rw [show decide (p1 = p1) = true from decide_eq_true rfl]; decide, nar_b1])
theorem own_len {args : Array Value} {s : State} {t : Term} {a : Addr} {c : Cell} {ty : FieldType} {n : Int32} (A : Arr s s.heap a c ty) (et : t.eval args s none [] s = some (.ref a)) (h : (Jvm.Cond.eq (Term.length t) (Term.int n)).value args s none s [] = some true) : c.slots.size < 2 ^ 31 ∧ c.slots.size.toInt32 = n := by
  have e := eqv_i (Term.int_eval n) h
  by_cases q : c.slots.size < 2 ^ 31
  · rw [len_f et (A.fin (Vm.Alike.refl _)) q] at e
    exact ⟨q, by simpa using e⟩
  · simp [Term.eval, et, A.fin (Vm.Alike.refl _), q] at e
theorem own_ix {args : Array Value} {s : State} {j : Int32} (hj : ¬ j < 0) : (Jvm.Term.sub (Jvm.Term.index 0) (Jvm.Term.int 128)).eval args s none [j.toNatClampNeg] s = some (.int (j - 128)) := by
  have q := (back32 hj).1
  simp [Term.eval, q]
set_option maxRecDepth 65536 in
set_option maxHeartbeats 40000000 in
theorem comes_1 {Post : Tables → Env → Array Value → State → Outcome → State → Prop} (hpost : ∀ tb e args s v u, (limb_1_1.after args s (.returned v) u = true ∧ limb_1_2.after args s (.returned v) u = true ∧ True) → ReturnedEndW s (.returned v) u (Jvm.fieldLocs frame_1_writes args s ++ Jvm.arrayLocs frame_1_arrays args s ++ Jvm.staticLocs frame_1_statics s) 24 1152 → Post tb e args s (.returned v) u) :
    ArmFor flags0 classFile x code maxLocals ret World_1 tables_1 room_1 Calls_1 rest_1 Pre_1 Post := by
  intro l hfl _ _ p e ha hc hk s m args below hf hA hF happ hP
  obtain ⟨hcalls, hrest, hpre⟩ := hP
  obtain ⟨-, -, -, hnamed, -, -, -, hat⟩ := (Spec.applies_iff hf).mp happ
  obtain ⟨hg, hn⟩ := and_e (Cond.before_iff.mp (show (Jvm.Cond.and given_1 narrow_1).before args s = true from hpre))
  obtain ⟨hcnt, hgs⟩ := and_e hg
  obtain ⟨ha0, hr0⟩ := and_e hgs
  obtain ⟨ha1, hr1⟩ := and_e hr0
  have ha2 := hr1
  obtain ⟨w0, w1, w2, rfl⟩ : ∃ w0 w1 w2 : Value, args = #[w0, w1, w2] := by
    have hs : args.size = 3 := by simpa [Cond.value, given_1] using hcnt
    obtain ⟨L⟩ := args
    match L, hs with
    | [w0, w1, w2], _ => exact ⟨w0, w1, w2, rfl⟩
  have hw := fun d (hd : d ∈ tables_1) => atoms_spec (ws := Jvm.Cond.code x code maxLocals ret :: tables_1) hat d (List.mem_cons_of_mem _ hd)
  obtain ⟨hsets, hown0⟩ := atoms_of _ (rest_1_c_eq ▸ (show rest_1_c.before _ s = true from hrest))
  have hfit : Fit s := fun {y c} hc i hi => by
    obtain ⟨ha, rfl⟩ := Array.getElem?_eq_some_iff.mp hc
    have q := List.all_eq_true.mp ((Array.all_eq_true_iff_forall_mem.mp hF) _ (Array.getElem_mem ha)) i (List.mem_range.mpr hi)
    simpa [Array.getElem?_eq_getElem hi] using q
  obtain ⟨i0, ei0⟩ := is_v ha0
  obtain rfl : w0 = (.int i0) := Option.some.inj ei0
  obtain ⟨i1, ei1⟩ := is_v ha1
  obtain rfl : w1 = (.int i1) := Option.some.inj ei1
  obtain ⟨i2, ei2⟩ := is_v ha2
  obtain rfl : w2 = (.int i2) := Option.some.inj ei2
  have hEL : EW s _ Jvm.OwnK.EL := own_EL hw
  have hWd : Wd s := ⟨_, hEL, own_wS hw⟩
  have hCH : CHv s Jvm.OwnK.EL s.vm s.heap := fun p hp => nomatch hp
  have Sh : Sta s s.heap "java/lang/Integer$IntegerCache" "high" "I" (.int 127) := Sta.start (eqv_i (Term.int_eval 127) (Cond.before_iff.mp (hsets _ (List.mem_of_getElem? (i := 3) rfl)))) (Or.inl (hsets _ (List.mem_of_getElem? (i := 1) rfl)))
  obtain ⟨ca, eca⟩ := exa_v (Cond.before_iff.mp (hsets _ (List.mem_of_getElem? (i := 5) rfl)))
  have Sc : Sta s s.heap "java/lang/Integer$IntegerCache" "cache" "[Ljava/lang/Integer;" (.ref ca) := Sta.start eca (Or.inr ⟨hw _ (List.mem_of_getElem? (i := 60) rfl), (hsets _ (List.mem_of_getElem? (i := 2) rfl))⟩)
  obtain ⟨cl, Acl⟩ := Arr.start eca (Cond.before_iff.mp (hsets _ (List.mem_of_getElem? (i := 4) rfl)))
  obtain ⟨qlen, elen⟩ := own_len Acl eca (Cond.before_iff.mp (hsets _ (List.mem_of_getElem? (i := 6) rfl)))
  have Bx : Bxs s ca cl "java/lang/Integer" "I" 256 (fun j => .int (j - 128)) := Bxs.start (fun _ => eca) Acl qlen elen (by decide) (Cond.before_iff.mp (hsets _ (List.mem_of_getElem? (i := 7) rfl))) (fun X j hj h => eqv_i (own_ix hj) h)
  obtain ⟨n, o, h1, h2, h3, v, L, rfl, ⟨hQ, N, -⟩, hch, hq⟩ := c_law l s _ hw tables_1 i0 i1 i2 ca cl s.heap Sh Sc Bx hWd (Old.start s) p e ha hc hk s m _ below hf ((Spec.applies_iff_loose hf).mp happ).1 ⟨rfl, State.Warmed39.refl s, rfl, hCH, fun _ q => nomatch q⟩ trivial
  obtain rfl := hQ
  exact ⟨n, _, h1, h2, h3, hpost _ _ _ _ _ _ ⟨Cond.after_iff.mpr rfl, Cond.after_iff.mpr (eq_i res_at (Term.int_eval (1)) rfl), trivial⟩ ⟨hq.1, hq.2.1, hq.2.2.1, (hq.2.2.2.sift fun y hy => Or.inr (N y hy)).mono (by decide) (by decide)⟩⟩
theorem main_1_1 : Claimed_1_1 := comes_1 fun _ _ _ _ _ _ h hF => ⟨h.1, hF⟩
theorem main_1_2 : Claimed_1_2 := comes_1 fun _ _ _ _ _ _ h hF => ⟨h.2.1, hF⟩
end Jvm.Pilot.@@N@@
namespace Jvm.Pilot.@@N@@
open Jvm Jvm.ClassFile Sem Op Lib Jvm.Free Jvm.Stand Jvm.Pilot.@@N@@.Jvm.D
/-! MADE BY PROGRAM (witnessworld.py) out of the Statement's table words and the real class files: 21 classes; the members and pool entries that the words name. The judged class is class 1, her method 1. -/
namespace start1
open Jvm.ClassFile
def u (s : String) : CpInfo := .utf8 (stringToUtf16 s)
/-- a pool by its gaps: so many unusable entries, then the entry; so many at the end -/
def gap : Nat → List CpInfo → List CpInfo
  | 0, r => r
  | n + 1, r => .unusable :: gap n r
def poolList (es : List (Nat × CpInfo)) (last : Nat) : List CpInfo := es.foldr (fun e r => gap e.1 (e.2 :: r)) (gap last [])
def pool (es : List (Nat × CpInfo)) (last : Nat) : Array CpInfo := ⟨poolList es last⟩
def fileOf (pool : Array CpInfo) (this : Nat) (attrs : Array Attribute := #[]) (ms : Array MethodInfo := #[]) (fl : Nat := 33) (sup : Nat := 0) (ifs : Array Nat := #[]) (fds : Array FieldInfo := #[]) : ClassFile where
  minorVersion := 0
  majorVersion := 65
  constantPool := pool
  accessFlags := fl
  thisClass := this
  superClass := sup
  interfaces := ifs
  fields := fds
  methods := ms
  attributes := attrs
def plain (name : String) (sup : Option ClassId) : Class where
  name := name
  kind := .ordinary
  loader := none
  accessFlags := 33
  super := sup
  interfaces := #[]
  cf := none
  fields := #[]
  methods := #[]
  instanceTypes := #[]
  staticTypes := #[]
  resolved := #[]
  callSites := []
  init := .initialized
  statics := none
  mirror := none

def pool0 : Array CpInfo := pool [(5, u "<init>"), (0, u "()V"), (1, .class_ 10), (1, u "java/lang/Object"), (16, u "hashCode"), (0, u "()I")] 95

def k0c0 : Code := { maxStack := 0, maxLocals := 1, code := object_method_1_code, exceptionTable := #[], attributes := #[] }
def k0m0 : Method := { name := "<init>", desc := "()V", sig := { parameters := [], returnType := none }, accessFlags := 1, code := some k0c0 }
def k0m1 : Method := { name := "hashCode", desc := "()I", sig := { parameters := [], returnType := some .int }, accessFlags := 257, code := none }
/-- java/lang/Object -/
def k0 : Class := { plain "java/lang/Object" none with
  accessFlags := 33
  interfaces := #[]
  cf := some (fileOf pool0 8 #[] #[{ accessFlags := 1, nameIndex := 5, descriptorIndex := 6, attributes := #[] }, { accessFlags := 257, nameIndex := 27, descriptorIndex := 28, attributes := #[] }] 33 0 #[] #[])
  fields := #[]
  methods := #[k0m0, k0m1]
  instanceTypes := #[]
  staticTypes := #[]
  resolved := Array.replicate 124 none
  statics := none }

def pool1 : Array CpInfo := pool [(2, .class_ 4), (1, u "java/lang/Object"), (0, u "<init>"), (0, u "()V"), (0, .class_ 8), (0, u "com/example/dragoman/dragoman/rewrite/ClauseTerm$Variable"), (0, .methodref 7 10), (0, .nameAndType 5 11), (0, u "(I)V"), (0, .class_ 13), (0, u "com/example/dragoman/dragoman/rewrite/ClauseTerm$Skolem"), (0, .methodref 12 15), (0, .nameAndType 5 16), (0, u "(ILcom/example/dragoman/dragoman/rewrite/ClauseTerm;)V"), (0, .methodref 7 18), (0, .nameAndType 19 20), (0, u "equals"), (0, u "(Ljava/lang/Object;)Z"), (0, .methodref 22 23), (0, .class_ 24), (0, .nameAndType 25 26), (0, u "java/lang/Integer"), (0, u "valueOf"), (0, u "(I)Ljava/lang/Integer;"), (0, .class_ 28), (0, u "com/example/dragoman/dragoman/rewrite/VariableEqualsPinLaw"), (2, u "law"), (0, u "(III)Z")] 8

def k1m0 : Method := { name := "<init>", desc := "()V", sig := { parameters := [], returnType := none }, accessFlags := 2, code := none }
def k1c1 : Code := { maxStack := 4, maxLocals := 9, code := code, exceptionTable := #[], attributes := #[] }
def k1m1 : Method := { name := "law", desc := "(III)Z", sig := { parameters := [.int, .int, .int], returnType := some .boolean }, accessFlags := 9, code := some k1c1 }
/-- com/example/dragoman/dragoman/rewrite/VariableEqualsPinLaw -/
def k1 : Class := { plain "com/example/dragoman/dragoman/rewrite/VariableEqualsPinLaw" (some 0) with
  accessFlags := 49
  interfaces := #[]
  cf := some (fileOf pool1 27 #[] #[{ accessFlags := 2, nameIndex := 5, descriptorIndex := 6, attributes := #[] }, { accessFlags := 9, nameIndex := 31, descriptorIndex := 32, attributes := #[] }] 49 2 #[] #[])
  fields := #[]
  methods := #[k1m0, k1m1]
  instanceTypes := #[]
  staticTypes := #[]
  resolved := Array.replicate 41 none
  statics := none }

def pool2 : Array CpInfo := pool [(1, .class_ 2), (0, u "com/example/dragoman/dragoman/rewrite/ClauseTerm$Variable"), (14, .class_ 18), (0, u "com/example/dragoman/dragoman/rewrite/ClauseTerm$Skolem"), (8, .class_ 29), (1, u "com/example/dragoman/dragoman/rewrite/ClauseTerm"), (9, .class_ 40), (0, u "java/lang/Object"), (6, .class_ 48), (0, u "com/example/dragoman/dragoman/rewrite/ClauseTerm$Constant")] 5

/-- com/example/dragoman/dragoman/rewrite/ClauseTerm -/
def k2 : Class := { plain "com/example/dragoman/dragoman/rewrite/ClauseTerm" (some 0) with
  accessFlags := 1536
  interfaces := #[]
  cf := some (fileOf pool2 27 #[.nestMembers #[17, 47, 1]] #[] 1536 39 #[] #[])
  fields := #[]
  methods := #[]
  instanceTypes := #[]
  staticTypes := #[]
  resolved := Array.replicate 54 none
  statics := none }

def pool3 : Array CpInfo := pool [(1, .methodref 2 3), (0, .class_ 4), (0, .nameAndType 5 6), (0, u "java/lang/Object"), (0, u "<init>"), (0, u "()V"), (0, .fieldref 8 9), (0, .class_ 10), (0, .nameAndType 11 12), (0, u "com/example/dragoman/dragoman/rewrite/ClauseTerm$Variable"), (0, u "id"), (0, u "I"), (4, .class_ 18), (0, u "com/example/dragoman/dragoman/rewrite/ClauseTerm"), (0, u "(I)V"), (2, u "()I"), (0, u "equals"), (0, u "(Ljava/lang/Object;)Z"), (1, u "hashCode")] 21

def k3c0 : Code := { maxStack := 2, maxLocals := 2, code := prog_39_method_1_code, exceptionTable := #[], attributes := #[] }
def k3m0 : Method := { name := "<init>", desc := "(I)V", sig := { parameters := [.int], returnType := none }, accessFlags := 0, code := some k3c0 }
def k3c1 : Code := { maxStack := 2, maxLocals := 2, code := prog_39_method_3_code, exceptionTable := #[], attributes := #[] }
def k3m1 : Method := { name := "equals", desc := "(Ljava/lang/Object;)Z", sig := { parameters := [(.object "java/lang/Object")], returnType := some .boolean }, accessFlags := 1, code := some k3c1 }
def k3c2 : Code := { maxStack := 1, maxLocals := 1, code := prog_39_method_4_code, exceptionTable := #[], attributes := #[] }
def k3m2 : Method := { name := "hashCode", desc := "()I", sig := { parameters := [], returnType := some .int }, accessFlags := 1, code := some k3c2 }
/-- com/example/dragoman/dragoman/rewrite/ClauseTerm$Variable -/
def k3 : Class := { plain "com/example/dragoman/dragoman/rewrite/ClauseTerm$Variable" (some 0) with
  accessFlags := 49
  interfaces := #[2]
  cf := some (fileOf pool3 8 #[.nestHost 17] #[{ accessFlags := 0, nameIndex := 5, descriptorIndex := 19, attributes := #[] }, { accessFlags := 1, nameIndex := 23, descriptorIndex := 24, attributes := #[] }, { accessFlags := 1, nameIndex := 26, descriptorIndex := 22, attributes := #[] }] 49 2 #[17] #[{ accessFlags := 18, nameIndex := 11, descriptorIndex := 12, attributes := #[] }])
  fields := #[{ name := "id", type := .int, accessFlags := 18, slot := 0, constantValue := 0 }]
  methods := #[k3m0, k3m1, k3m2]
  instanceTypes := #[.int]
  staticTypes := #[]
  resolved := Array.replicate 48 none
  statics := none }

def pool4 : Array CpInfo := pool [(1, .methodref 2 3), (0, .class_ 4), (0, .nameAndType 5 6), (0, u "java/lang/Object"), (0, u "<init>"), (0, u "()V"), (0, .fieldref 8 9), (0, .class_ 10), (0, .nameAndType 11 12), (0, u "com/example/dragoman/dragoman/rewrite/ClauseTerm$Skolem"), (0, u "symbol"), (0, u "I"), (0, .string 14), (0, u "argument"), (0, .methodref 16 17), (0, .class_ 18), (0, .nameAndType 19 20), (0, u "java/util/Objects"), (0, u "requireNonNull"), (0, u "(Ljava/lang/Object;Ljava/lang/String;)Ljava/lang/Object;"), (0, .class_ 22), (0, u "com/example/dragoman/dragoman/rewrite/ClauseTerm"), (0, .fieldref 8 24), (0, .nameAndType 14 25), (0, u "Lcom/example/dragoman/dragoman/rewrite/ClauseTerm;"), (0, .interfaceMethodref 21 27), (0, .nameAndType 28 29), (0, u "hashCode"), (0, u "()I"), (0, .fieldref 8 31), (0, .nameAndType 32 12), (0, u "hash"), (14, u "(ILcom/example/dragoman/dragoman/rewrite/ClauseTerm;)V")] 25

def k4c0 : Code := { maxStack := 3, maxLocals := 3, code := prog_38_method_1_code, exceptionTable := #[], attributes := #[] }
def k4m0 : Method := { name := "<init>", desc := "(ILcom/example/dragoman/dragoman/rewrite/ClauseTerm;)V", sig := { parameters := [.int, (.object "com/example/dragoman/dragoman/rewrite/ClauseTerm")], returnType := none }, accessFlags := 0, code := some k4c0 }
/-- com/example/dragoman/dragoman/rewrite/ClauseTerm$Skolem -/
def k4 : Class := { plain "com/example/dragoman/dragoman/rewrite/ClauseTerm$Skolem" (some 0) with
  accessFlags := 49
  interfaces := #[2]
  cf := some (fileOf pool4 8 #[.nestHost 21] #[{ accessFlags := 0, nameIndex := 5, descriptorIndex := 47, attributes := #[] }] 49 2 #[21] #[{ accessFlags := 18, nameIndex := 11, descriptorIndex := 12, attributes := #[] }, { accessFlags := 18, nameIndex := 14, descriptorIndex := 25, attributes := #[] }, { accessFlags := 18, nameIndex := 32, descriptorIndex := 12, attributes := #[] }])
  fields := #[{ name := "symbol", type := .int, accessFlags := 18, slot := 0, constantValue := 0 }, { name := "argument", type := (.object "com/example/dragoman/dragoman/rewrite/ClauseTerm"), accessFlags := 18, slot := 1, constantValue := 0 }, { name := "hash", type := .int, accessFlags := 18, slot := 2, constantValue := 0 }]
  methods := #[k4m0]
  instanceTypes := #[.int, (.object "com/example/dragoman/dragoman/rewrite/ClauseTerm"), .int]
  staticTypes := #[]
  resolved := Array.replicate 73 none
  statics := none }

def pool5 : Array CpInfo := pool [(1, .class_ 2), (0, u "java/io/Serializable"), (0, .class_ 4), (0, u "java/lang/Object")] 2

/-- java/io/Serializable -/
def k5 : Class := { plain "java/io/Serializable" (some 0) with
  accessFlags := 1537
  interfaces := #[]
  cf := some (fileOf pool5 1 #[] #[] 1537 3 #[] #[])
  fields := #[]
  methods := #[]
  instanceTypes := #[]
  staticTypes := #[]
  resolved := Array.replicate 7 none
  statics := none }

def pool6 : Array CpInfo := pool [(1, .class_ 2), (0, u "java/lang/Comparable"), (0, .class_ 4), (0, u "java/lang/Object")] 7

/-- java/lang/Comparable -/
def k6 : Class := { plain "java/lang/Comparable" (some 0) with
  accessFlags := 1537
  interfaces := #[]
  cf := some (fileOf pool6 1 #[] #[] 1537 3 #[] #[])
  fields := #[]
  methods := #[]
  instanceTypes := #[]
  staticTypes := #[]
  resolved := Array.replicate 12 none
  statics := none }

def pool7 : Array CpInfo := pool [(2, .class_ 4), (1, u "java/lang/CharSequence"), (42, .class_ 48), (0, u "java/lang/CharSequence$1CodePointIterator"), (10, .class_ 60), (0, u "java/lang/CharSequence$1CharIterator"), (5, .class_ 67), (0, u "java/lang/Object")] 63

/-- java/lang/CharSequence -/
def k7 : Class := { plain "java/lang/CharSequence" (some 0) with
  accessFlags := 1537
  interfaces := #[]
  cf := some (fileOf pool7 2 #[.nestMembers #[47, 59]] #[] 1537 66 #[] #[])
  fields := #[]
  methods := #[]
  instanceTypes := #[]
  staticTypes := #[]
  resolved := Array.replicate 131 none
  statics := none }

def pool8 : Array CpInfo := pool [(1, .class_ 2), (0, u "java/lang/constant/Constable"), (0, .class_ 4), (0, u "java/lang/Object")] 6

/-- java/lang/constant/Constable -/
def k8 : Class := { plain "java/lang/constant/Constable" (some 0) with
  accessFlags := 1537
  interfaces := #[]
  cf := some (fileOf pool8 1 #[] #[] 1537 3 #[] #[])
  fields := #[]
  methods := #[]
  instanceTypes := #[]
  staticTypes := #[]
  resolved := Array.replicate 11 none
  statics := none }

def pool9 : Array CpInfo := pool [(1, .class_ 2), (0, u "java/lang/constant/ConstantDesc"), (0, .class_ 4), (0, u "java/lang/Object")] 32

/-- java/lang/constant/ConstantDesc -/
def k9 : Class := { plain "java/lang/constant/ConstantDesc" (some 0) with
  accessFlags := 1537
  interfaces := #[]
  cf := some (fileOf pool9 1 #[] #[] 1537 3 #[] #[])
  fields := #[]
  methods := #[]
  instanceTypes := #[]
  staticTypes := #[]
  resolved := Array.replicate 37 none
  statics := none }

def pool10 : Array CpInfo := pool [(2, .class_ 4), (1, u "java/lang/Object"), (0, u "<init>"), (0, u "()V"), (3, .class_ 12), (1, u "java/lang/String"), (0, u "value"), (0, u "[B"), (2, u "coder"), (0, u "B"), (2, u "hash"), (0, u "I"), (2, u "hashIsZero"), (0, u "Z"), (13, u "COMPACT_STRINGS"), (534, .class_ 576), (0, u "java/lang/CharSequence"), (22, u "CASE_INSENSITIVE_ORDER"), (0, u "Ljava/util/Comparator;"), (500, u "serialPersistentFields"), (0, u "[Ljava/io/ObjectStreamField;"), (0, .class_ 1104), (0, u "java/lang/String$CaseInsensitiveComparator"), (1, .class_ 1107), (0, u "java/io/Serializable"), (0, .class_ 1109), (0, u "java/lang/Comparable"), (0, .class_ 1111), (0, u "java/lang/constant/Constable"), (0, .class_ 1113), (0, u "java/lang/constant/ConstantDesc"), (2, u "serialVersionUID"), (0, u "J"), (3, u "REPL"), (0, u "C"), (2, u "LATIN1"), (1, u "UTF16")] 323

def k10m0 : Method := { name := "<init>", desc := "()V", sig := { parameters := [], returnType := none }, accessFlags := 1, code := none }
/-- java/lang/String -/
def k10 : Class := { plain "java/lang/String" (some 0) with
  accessFlags := 49
  interfaces := #[5, 6, 7, 8, 9]
  cf := some (fileOf pool10 10 #[.nestMembers #[1103]] #[{ accessFlags := 1, nameIndex := 5, descriptorIndex := 6, attributes := #[] }] 49 2 #[1106, 1108, 575, 1110, 1112] #[{ accessFlags := 18, nameIndex := 13, descriptorIndex := 14, attributes := #[] }, { accessFlags := 18, nameIndex := 17, descriptorIndex := 18, attributes := #[] }, { accessFlags := 2, nameIndex := 21, descriptorIndex := 22, attributes := #[] }, { accessFlags := 2, nameIndex := 25, descriptorIndex := 26, attributes := #[] }, { accessFlags := 26, nameIndex := 1116, descriptorIndex := 1117, attributes := #[] }, { accessFlags := 24, nameIndex := 40, descriptorIndex := 26, attributes := #[] }, { accessFlags := 26, nameIndex := 1101, descriptorIndex := 1102, attributes := #[] }, { accessFlags := 26, nameIndex := 1121, descriptorIndex := 1122, attributes := #[] }, { accessFlags := 25, nameIndex := 599, descriptorIndex := 600, attributes := #[] }, { accessFlags := 24, nameIndex := 1125, descriptorIndex := 18, attributes := #[] }, { accessFlags := 24, nameIndex := 1127, descriptorIndex := 18, attributes := #[] }])
  fields := #[{ name := "value", type := (.array .byte), accessFlags := 18, slot := 0, constantValue := 0 }, { name := "coder", type := .byte, accessFlags := 18, slot := 1, constantValue := 0 }, { name := "hash", type := .int, accessFlags := 2, slot := 2, constantValue := 0 }, { name := "hashIsZero", type := .boolean, accessFlags := 2, slot := 3, constantValue := 0 }, { name := "serialVersionUID", type := .long, accessFlags := 26, slot := 0, constantValue := 0 }, { name := "COMPACT_STRINGS", type := .boolean, accessFlags := 24, slot := 1, constantValue := 0 }, { name := "serialPersistentFields", type := (.array (.object "java/io/ObjectStreamField")), accessFlags := 26, slot := 2, constantValue := 0 }, { name := "REPL", type := .char, accessFlags := 26, slot := 3, constantValue := 0 }, { name := "CASE_INSENSITIVE_ORDER", type := (.object "java/util/Comparator"), accessFlags := 25, slot := 4, constantValue := 0 }, { name := "LATIN1", type := .byte, accessFlags := 24, slot := 5, constantValue := 0 }, { name := "UTF16", type := .byte, accessFlags := 24, slot := 6, constantValue := 0 }]
  methods := #[k10m0]
  instanceTypes := #[(.array .byte), .byte, .int, .boolean]
  staticTypes := #[.long, .boolean, (.array (.object "java/io/ObjectStreamField")), .char, (.object "java/util/Comparator"), .byte, .byte]
  resolved := Array.replicate 1451 none
  statics := none }

def pool11 : Array CpInfo := pool [(2, .class_ 4), (1, u "java/lang/Object"), (0, u "<init>"), (0, u "()V"), (35, .class_ 44), (1, u "java/util/Objects"), (0, u "requireNonNull"), (48, u "(Ljava/lang/Object;Ljava/lang/String;)Ljava/lang/Object;")] 89

def k11m0 : Method := { name := "<init>", desc := "()V", sig := { parameters := [], returnType := none }, accessFlags := 2, code := none }
def k11c1 : Code := { maxStack := 3, maxLocals := 2, code := jdk_31_method_11_code, exceptionTable := #[], attributes := #[] }
def k11m1 : Method := { name := "requireNonNull", desc := "(Ljava/lang/Object;Ljava/lang/String;)Ljava/lang/Object;", sig := { parameters := [(.object "java/lang/Object"), (.object "java/lang/String")], returnType := some (.object "java/lang/Object") }, accessFlags := 9, code := some k11c1 }
/-- java/util/Objects -/
def k11 : Class := { plain "java/util/Objects" (some 0) with
  accessFlags := 49
  interfaces := #[]
  cf := some (fileOf pool11 42 #[] #[{ accessFlags := 2, nameIndex := 5, descriptorIndex := 6, attributes := #[] }, { accessFlags := 9, nameIndex := 45, descriptorIndex := 94, attributes := #[] }] 49 2 #[] #[])
  fields := #[]
  methods := #[k11m0, k11m1]
  instanceTypes := #[]
  staticTypes := #[]
  resolved := Array.replicate 184 none
  statics := none }

def pool12 : Array CpInfo := pool [(1, .methodref 2 3), (0, .class_ 4), (0, .nameAndType 5 6), (0, u "java/lang/Object"), (0, u "<init>"), (0, u "()V"), (1, .class_ 10), (1, u "java/lang/Number"), (2, .class_ 14), (0, u "java/io/Serializable"), (0, u "serialVersionUID"), (0, u "J")] 20

def k12c0 : Code := { maxStack := 1, maxLocals := 1, code := jdk_18_method_1_code, exceptionTable := #[], attributes := #[] }
def k12m0 : Method := { name := "<init>", desc := "()V", sig := { parameters := [], returnType := none }, accessFlags := 1, code := some k12c0 }
/-- java/lang/Number -/
def k12 : Class := { plain "java/lang/Number" (some 0) with
  accessFlags := 1057
  interfaces := #[5]
  cf := some (fileOf pool12 8 #[] #[{ accessFlags := 1, nameIndex := 5, descriptorIndex := 6, attributes := #[] }] 1057 2 #[13] #[{ accessFlags := 26, nameIndex := 15, descriptorIndex := 16, attributes := #[] }])
  fields := #[{ name := "serialVersionUID", type := .long, accessFlags := 26, slot := 0, constantValue := 0 }]
  methods := #[k12m0]
  instanceTypes := #[]
  staticTypes := #[.long]
  resolved := Array.replicate 37 none
  statics := none }

def pool13 : Array CpInfo := pool [(1, .class_ 2), (0, u "java/lang/Integer"), (16, u "digits"), (0, u "[C"), (46, u "<init>"), (17, u "DigitOnes"), (0, u "[B"), (2, u "DigitTens"), (10, .nameAndType 67 101), (0, u "()V"), (85, u "valueOf"), (0, u "(I)Ljava/lang/Integer;"), (0, .class_ 190), (0, u "java/lang/Integer$IntegerCache"), (0, .fieldref 189 192), (0, .nameAndType 193 194), (0, u "high"), (0, u "I"), (0, .fieldref 189 196), (0, .nameAndType 197 198), (0, u "cache"), (0, u "[Ljava/lang/Integer;"), (0, .methodref 1 200), (0, .nameAndType 67 201), (0, u "(I)V"), (0, .methodref 203 100), (0, .class_ 204), (0, u "java/lang/Number"), (0, .fieldref 1 206), (0, .nameAndType 207 194), (0, u "value"), (94, u "TYPE"), (0, u "Ljava/lang/Class;"), (0, .class_ 305), (0, u "java/lang/Comparable"), (0, .class_ 307), (0, u "java/lang/constant/Constable"), (0, .class_ 309), (0, u "java/lang/constant/ConstantDesc"), (0, u "MIN_VALUE"), (1, u "MAX_VALUE"), (3, u "SIZE"), (1, u "BYTES"), (1, u "serialVersionUID"), (0, u "J")] 131

def k13c0 : Code := { maxStack := 3, maxLocals := 1, code := jdk_33_method_22_code, exceptionTable := #[], attributes := #[] }
def k13m0 : Method := { name := "valueOf", desc := "(I)Ljava/lang/Integer;", sig := { parameters := [.int], returnType := some (.object "java/lang/Integer") }, accessFlags := 9, code := some k13c0 }
def k13c1 : Code := { maxStack := 2, maxLocals := 2, code := jdk_33_method_23_code, exceptionTable := #[], attributes := #[] }
def k13m1 : Method := { name := "<init>", desc := "(I)V", sig := { parameters := [.int], returnType := none }, accessFlags := 1, code := some k13c1 }
/-- java/lang/Integer -/
def k13 : Class := { plain "java/lang/Integer" (some 12) with
  accessFlags := 49
  interfaces := #[6, 8, 9]
  cf := some (fileOf pool13 1 #[.nestMembers #[189]] #[{ accessFlags := 9, nameIndex := 187, descriptorIndex := 188, attributes := #[] }, { accessFlags := 1, nameIndex := 67, descriptorIndex := 201, attributes := #[] }] 49 203 #[304, 306, 308] #[{ accessFlags := 25, nameIndex := 310, descriptorIndex := 194, attributes := #[] }, { accessFlags := 25, nameIndex := 312, descriptorIndex := 194, attributes := #[] }, { accessFlags := 25, nameIndex := 302, descriptorIndex := 303, attributes := #[] }, { accessFlags := 24, nameIndex := 19, descriptorIndex := 20, attributes := #[] }, { accessFlags := 24, nameIndex := 89, descriptorIndex := 86, attributes := #[] }, { accessFlags := 24, nameIndex := 85, descriptorIndex := 86, attributes := #[] }, { accessFlags := 18, nameIndex := 207, descriptorIndex := 194, attributes := #[] }, { accessFlags := 25, nameIndex := 316, descriptorIndex := 194, attributes := #[] }, { accessFlags := 25, nameIndex := 318, descriptorIndex := 194, attributes := #[] }, { accessFlags := 26, nameIndex := 320, descriptorIndex := 321, attributes := #[] }])
  fields := #[{ name := "MIN_VALUE", type := .int, accessFlags := 25, slot := 0, constantValue := 0 }, { name := "MAX_VALUE", type := .int, accessFlags := 25, slot := 1, constantValue := 0 }, { name := "TYPE", type := (.object "java/lang/Class"), accessFlags := 25, slot := 2, constantValue := 0 }, { name := "digits", type := (.array .char), accessFlags := 24, slot := 3, constantValue := 0 }, { name := "DigitTens", type := (.array .byte), accessFlags := 24, slot := 4, constantValue := 0 }, { name := "DigitOnes", type := (.array .byte), accessFlags := 24, slot := 5, constantValue := 0 }, { name := "value", type := .int, accessFlags := 18, slot := 0, constantValue := 0 }, { name := "SIZE", type := .int, accessFlags := 25, slot := 6, constantValue := 0 }, { name := "BYTES", type := .int, accessFlags := 25, slot := 7, constantValue := 0 }, { name := "serialVersionUID", type := .long, accessFlags := 26, slot := 8, constantValue := 0 }]
  methods := #[k13m0, k13m1]
  instanceTypes := #[.int]
  staticTypes := #[.int, .int, (.object "java/lang/Class"), (.array .char), (.array .byte), (.array .byte), .int, .int, .long]
  resolved := Array.replicate 453 none
  statics := none }

def pool14 : Array CpInfo := pool [(2, .class_ 4), (1, u "java/lang/Object"), (0, u "<init>"), (0, u "()V"), (0, .class_ 8), (0, u "java/lang/Integer"), (7, .class_ 18), (1, u "java/lang/Integer$IntegerCache"), (0, u "$assertionsDisabled"), (0, u "Z"), (26, u "high"), (0, u "I"), (8, u "archivedCache"), (0, u "[Ljava/lang/Integer;"), (12, u "cache"), (0, u "low")] 27

def k14m0 : Method := { name := "<init>", desc := "()V", sig := { parameters := [], returnType := none }, accessFlags := 2, code := none }
/-- java/lang/Integer$IntegerCache -/
def k14 : Class := { plain "java/lang/Integer$IntegerCache" (some 0) with
  accessFlags := 48
  interfaces := #[]
  cf := some (fileOf pool14 16 #[.nestHost 7] #[{ accessFlags := 2, nameIndex := 5, descriptorIndex := 6, attributes := #[] }] 48 2 #[] #[{ accessFlags := 24, nameIndex := 72, descriptorIndex := 48, attributes := #[] }, { accessFlags := 24, nameIndex := 47, descriptorIndex := 48, attributes := #[] }, { accessFlags := 24, nameIndex := 71, descriptorIndex := 58, attributes := #[] }, { accessFlags := 8, nameIndex := 57, descriptorIndex := 58, attributes := #[] }, { accessFlags := 4120, nameIndex := 19, descriptorIndex := 20, attributes := #[] }])
  fields := #[{ name := "low", type := .int, accessFlags := 24, slot := 0, constantValue := 0 }, { name := "high", type := .int, accessFlags := 24, slot := 1, constantValue := 0 }, { name := "cache", type := (.array (.object "java/lang/Integer")), accessFlags := 24, slot := 2, constantValue := 0 }, { name := "archivedCache", type := (.array (.object "java/lang/Integer")), accessFlags := 8, slot := 3, constantValue := 0 }, { name := "$assertionsDisabled", type := .boolean, accessFlags := 4120, slot := 4, constantValue := 0 }]
  methods := #[k14m0]
  instanceTypes := #[]
  staticTypes := #[.int, .int, (.array (.object "java/lang/Integer")), (.array (.object "java/lang/Integer")), .boolean]
  resolved := Array.replicate 100 none
  statics := some 0 }

def pool15 : Array CpInfo := pool [(1, u "java/lang/Cloneable"), (0, .class_ 1), (0, u "java/lang/Object"), (0, .class_ 3)] 3

/-- java/lang/Cloneable -/
def k15 : Class := { plain "java/lang/Cloneable" (some 0) with
  accessFlags := 1537
  interfaces := #[]
  cf := some (fileOf pool15 2 #[] #[] 1537 4 #[] #[])
  fields := #[]
  methods := #[]
  instanceTypes := #[]
  staticTypes := #[]
  resolved := Array.replicate 8 none
  statics := none }

/-- the primitive byte -/
def k16 : Class := { plain "byte" none with kind := .primitive 'B', accessFlags := 0x411 }
/-- [B -/
def k17 : Class := { plain "[B" (some 0) with kind := .array 16 .byte, interfaces := #[15, 5], accessFlags := 1041 }

/-- the primitive int -/
def k18 : Class := { plain "int" none with kind := .primitive 'I', accessFlags := 0x411 }
/-- [I -/
def k19 : Class := { plain "[I" (some 0) with kind := .array 18 .int, interfaces := #[15, 5], accessFlags := 1041 }

/-- [Ljava/lang/Integer; -/
def k20 : Class := { plain "[Ljava/lang/Integer;" (some 0) with kind := .array 13 (.object "java/lang/Integer"), interfaces := #[15, 5], accessFlags := 1041 }

def heap : Heap := #[{ cls := 14, slots := #[.int 0, .int 127, .ref 1, .null, .int 0], vm := .statics 14 },
  { cls := 20, slots := #[.ref 2, .ref 3, .ref 4, .ref 5, .ref 6, .ref 7, .ref 8, .ref 9, .ref 10, .ref 11, .ref 12, .ref 13, .ref 14, .ref 15, .ref 16, .ref 17, .ref 18, .ref 19, .ref 20, .ref 21, .ref 22, .ref 23, .ref 24, .ref 25, .ref 26, .ref 27, .ref 28, .ref 29, .ref 30, .ref 31, .ref 32, .ref 33, .ref 34, .ref 35, .ref 36, .ref 37, .ref 38, .ref 39, .ref 40, .ref 41, .ref 42, .ref 43, .ref 44, .ref 45, .ref 46, .ref 47, .ref 48, .ref 49, .ref 50, .ref 51, .ref 52, .ref 53, .ref 54, .ref 55, .ref 56, .ref 57, .ref 58, .ref 59, .ref 60, .ref 61, .ref 62, .ref 63, .ref 64, .ref 65, .ref 66, .ref 67, .ref 68, .ref 69, .ref 70, .ref 71, .ref 72, .ref 73, .ref 74, .ref 75, .ref 76, .ref 77, .ref 78, .ref 79, .ref 80, .ref 81, .ref 82, .ref 83, .ref 84, .ref 85, .ref 86, .ref 87, .ref 88, .ref 89, .ref 90, .ref 91, .ref 92, .ref 93, .ref 94, .ref 95, .ref 96, .ref 97, .ref 98, .ref 99, .ref 100, .ref 101, .ref 102, .ref 103, .ref 104, .ref 105, .ref 106, .ref 107, .ref 108, .ref 109, .ref 110, .ref 111, .ref 112, .ref 113, .ref 114, .ref 115, .ref 116, .ref 117, .ref 118, .ref 119, .ref 120, .ref 121, .ref 122, .ref 123, .ref 124, .ref 125, .ref 126, .ref 127, .ref 128, .ref 129, .ref 130, .ref 131, .ref 132, .ref 133, .ref 134, .ref 135, .ref 136, .ref 137, .ref 138, .ref 139, .ref 140, .ref 141, .ref 142, .ref 143, .ref 144, .ref 145, .ref 146, .ref 147, .ref 148, .ref 149, .ref 150, .ref 151, .ref 152, .ref 153, .ref 154, .ref 155, .ref 156, .ref 157, .ref 158, .ref 159, .ref 160, .ref 161, .ref 162, .ref 163, .ref 164, .ref 165, .ref 166, .ref 167, .ref 168, .ref 169, .ref 170, .ref 171, .ref 172, .ref 173, .ref 174, .ref 175, .ref 176, .ref 177, .ref 178, .ref 179, .ref 180, .ref 181, .ref 182, .ref 183, .ref 184, .ref 185, .ref 186, .ref 187, .ref 188, .ref 189, .ref 190, .ref 191, .ref 192, .ref 193, .ref 194, .ref 195, .ref 196, .ref 197, .ref 198, .ref 199, .ref 200, .ref 201, .ref 202, .ref 203, .ref 204, .ref 205, .ref 206, .ref 207, .ref 208, .ref 209, .ref 210, .ref 211, .ref 212, .ref 213, .ref 214, .ref 215, .ref 216, .ref 217, .ref 218, .ref 219, .ref 220, .ref 221, .ref 222, .ref 223, .ref 224, .ref 225, .ref 226, .ref 227, .ref 228, .ref 229, .ref 230, .ref 231, .ref 232, .ref 233, .ref 234, .ref 235, .ref 236, .ref 237, .ref 238, .ref 239, .ref 240, .ref 241, .ref 242, .ref 243, .ref 244, .ref 245, .ref 246, .ref 247, .ref 248, .ref 249, .ref 250, .ref 251, .ref 252, .ref 253, .ref 254, .ref 255, .ref 256, .ref 257], vm := .none },
  { cls := 13, slots := #[.int (-128)], vm := .none },
  { cls := 13, slots := #[.int (-127)], vm := .none },
  { cls := 13, slots := #[.int (-126)], vm := .none },
  { cls := 13, slots := #[.int (-125)], vm := .none },
  { cls := 13, slots := #[.int (-124)], vm := .none },
  { cls := 13, slots := #[.int (-123)], vm := .none },
  { cls := 13, slots := #[.int (-122)], vm := .none },
  { cls := 13, slots := #[.int (-121)], vm := .none },
  { cls := 13, slots := #[.int (-120)], vm := .none },
  { cls := 13, slots := #[.int (-119)], vm := .none },
  { cls := 13, slots := #[.int (-118)], vm := .none },
  { cls := 13, slots := #[.int (-117)], vm := .none },
  { cls := 13, slots := #[.int (-116)], vm := .none },
  { cls := 13, slots := #[.int (-115)], vm := .none },
  { cls := 13, slots := #[.int (-114)], vm := .none },
  { cls := 13, slots := #[.int (-113)], vm := .none },
  { cls := 13, slots := #[.int (-112)], vm := .none },
  { cls := 13, slots := #[.int (-111)], vm := .none },
  { cls := 13, slots := #[.int (-110)], vm := .none },
  { cls := 13, slots := #[.int (-109)], vm := .none },
  { cls := 13, slots := #[.int (-108)], vm := .none },
  { cls := 13, slots := #[.int (-107)], vm := .none },
  { cls := 13, slots := #[.int (-106)], vm := .none },
  { cls := 13, slots := #[.int (-105)], vm := .none },
  { cls := 13, slots := #[.int (-104)], vm := .none },
  { cls := 13, slots := #[.int (-103)], vm := .none },
  { cls := 13, slots := #[.int (-102)], vm := .none },
  { cls := 13, slots := #[.int (-101)], vm := .none },
  { cls := 13, slots := #[.int (-100)], vm := .none },
  { cls := 13, slots := #[.int (-99)], vm := .none },
  { cls := 13, slots := #[.int (-98)], vm := .none },
  { cls := 13, slots := #[.int (-97)], vm := .none },
  { cls := 13, slots := #[.int (-96)], vm := .none },
  { cls := 13, slots := #[.int (-95)], vm := .none },
  { cls := 13, slots := #[.int (-94)], vm := .none },
  { cls := 13, slots := #[.int (-93)], vm := .none },
  { cls := 13, slots := #[.int (-92)], vm := .none },
  { cls := 13, slots := #[.int (-91)], vm := .none },
  { cls := 13, slots := #[.int (-90)], vm := .none },
  { cls := 13, slots := #[.int (-89)], vm := .none },
  { cls := 13, slots := #[.int (-88)], vm := .none },
  { cls := 13, slots := #[.int (-87)], vm := .none },
  { cls := 13, slots := #[.int (-86)], vm := .none },
  { cls := 13, slots := #[.int (-85)], vm := .none },
  { cls := 13, slots := #[.int (-84)], vm := .none },
  { cls := 13, slots := #[.int (-83)], vm := .none },
  { cls := 13, slots := #[.int (-82)], vm := .none },
  { cls := 13, slots := #[.int (-81)], vm := .none },
  { cls := 13, slots := #[.int (-80)], vm := .none },
  { cls := 13, slots := #[.int (-79)], vm := .none },
  { cls := 13, slots := #[.int (-78)], vm := .none },
  { cls := 13, slots := #[.int (-77)], vm := .none },
  { cls := 13, slots := #[.int (-76)], vm := .none },
  { cls := 13, slots := #[.int (-75)], vm := .none },
  { cls := 13, slots := #[.int (-74)], vm := .none },
  { cls := 13, slots := #[.int (-73)], vm := .none },
  { cls := 13, slots := #[.int (-72)], vm := .none },
  { cls := 13, slots := #[.int (-71)], vm := .none },
  { cls := 13, slots := #[.int (-70)], vm := .none },
  { cls := 13, slots := #[.int (-69)], vm := .none },
  { cls := 13, slots := #[.int (-68)], vm := .none },
  { cls := 13, slots := #[.int (-67)], vm := .none },
  { cls := 13, slots := #[.int (-66)], vm := .none },
  { cls := 13, slots := #[.int (-65)], vm := .none },
  { cls := 13, slots := #[.int (-64)], vm := .none },
  { cls := 13, slots := #[.int (-63)], vm := .none },
  { cls := 13, slots := #[.int (-62)], vm := .none },
  { cls := 13, slots := #[.int (-61)], vm := .none },
  { cls := 13, slots := #[.int (-60)], vm := .none },
  { cls := 13, slots := #[.int (-59)], vm := .none },
  { cls := 13, slots := #[.int (-58)], vm := .none },
  { cls := 13, slots := #[.int (-57)], vm := .none },
  { cls := 13, slots := #[.int (-56)], vm := .none },
  { cls := 13, slots := #[.int (-55)], vm := .none },
  { cls := 13, slots := #[.int (-54)], vm := .none },
  { cls := 13, slots := #[.int (-53)], vm := .none },
  { cls := 13, slots := #[.int (-52)], vm := .none },
  { cls := 13, slots := #[.int (-51)], vm := .none },
  { cls := 13, slots := #[.int (-50)], vm := .none },
  { cls := 13, slots := #[.int (-49)], vm := .none },
  { cls := 13, slots := #[.int (-48)], vm := .none },
  { cls := 13, slots := #[.int (-47)], vm := .none },
  { cls := 13, slots := #[.int (-46)], vm := .none },
  { cls := 13, slots := #[.int (-45)], vm := .none },
  { cls := 13, slots := #[.int (-44)], vm := .none },
  { cls := 13, slots := #[.int (-43)], vm := .none },
  { cls := 13, slots := #[.int (-42)], vm := .none },
  { cls := 13, slots := #[.int (-41)], vm := .none },
  { cls := 13, slots := #[.int (-40)], vm := .none },
  { cls := 13, slots := #[.int (-39)], vm := .none },
  { cls := 13, slots := #[.int (-38)], vm := .none },
  { cls := 13, slots := #[.int (-37)], vm := .none },
  { cls := 13, slots := #[.int (-36)], vm := .none },
  { cls := 13, slots := #[.int (-35)], vm := .none },
  { cls := 13, slots := #[.int (-34)], vm := .none },
  { cls := 13, slots := #[.int (-33)], vm := .none },
  { cls := 13, slots := #[.int (-32)], vm := .none },
  { cls := 13, slots := #[.int (-31)], vm := .none },
  { cls := 13, slots := #[.int (-30)], vm := .none },
  { cls := 13, slots := #[.int (-29)], vm := .none },
  { cls := 13, slots := #[.int (-28)], vm := .none },
  { cls := 13, slots := #[.int (-27)], vm := .none },
  { cls := 13, slots := #[.int (-26)], vm := .none },
  { cls := 13, slots := #[.int (-25)], vm := .none },
  { cls := 13, slots := #[.int (-24)], vm := .none },
  { cls := 13, slots := #[.int (-23)], vm := .none },
  { cls := 13, slots := #[.int (-22)], vm := .none },
  { cls := 13, slots := #[.int (-21)], vm := .none },
  { cls := 13, slots := #[.int (-20)], vm := .none },
  { cls := 13, slots := #[.int (-19)], vm := .none },
  { cls := 13, slots := #[.int (-18)], vm := .none },
  { cls := 13, slots := #[.int (-17)], vm := .none },
  { cls := 13, slots := #[.int (-16)], vm := .none },
  { cls := 13, slots := #[.int (-15)], vm := .none },
  { cls := 13, slots := #[.int (-14)], vm := .none },
  { cls := 13, slots := #[.int (-13)], vm := .none },
  { cls := 13, slots := #[.int (-12)], vm := .none },
  { cls := 13, slots := #[.int (-11)], vm := .none },
  { cls := 13, slots := #[.int (-10)], vm := .none },
  { cls := 13, slots := #[.int (-9)], vm := .none },
  { cls := 13, slots := #[.int (-8)], vm := .none },
  { cls := 13, slots := #[.int (-7)], vm := .none },
  { cls := 13, slots := #[.int (-6)], vm := .none },
  { cls := 13, slots := #[.int (-5)], vm := .none },
  { cls := 13, slots := #[.int (-4)], vm := .none },
  { cls := 13, slots := #[.int (-3)], vm := .none },
  { cls := 13, slots := #[.int (-2)], vm := .none },
  { cls := 13, slots := #[.int (-1)], vm := .none },
  { cls := 13, slots := #[.int (0)], vm := .none },
  { cls := 13, slots := #[.int (1)], vm := .none },
  { cls := 13, slots := #[.int (2)], vm := .none },
  { cls := 13, slots := #[.int (3)], vm := .none },
  { cls := 13, slots := #[.int (4)], vm := .none },
  { cls := 13, slots := #[.int (5)], vm := .none },
  { cls := 13, slots := #[.int (6)], vm := .none },
  { cls := 13, slots := #[.int (7)], vm := .none },
  { cls := 13, slots := #[.int (8)], vm := .none },
  { cls := 13, slots := #[.int (9)], vm := .none },
  { cls := 13, slots := #[.int (10)], vm := .none },
  { cls := 13, slots := #[.int (11)], vm := .none },
  { cls := 13, slots := #[.int (12)], vm := .none },
  { cls := 13, slots := #[.int (13)], vm := .none },
  { cls := 13, slots := #[.int (14)], vm := .none },
  { cls := 13, slots := #[.int (15)], vm := .none },
  { cls := 13, slots := #[.int (16)], vm := .none },
  { cls := 13, slots := #[.int (17)], vm := .none },
  { cls := 13, slots := #[.int (18)], vm := .none },
  { cls := 13, slots := #[.int (19)], vm := .none },
  { cls := 13, slots := #[.int (20)], vm := .none },
  { cls := 13, slots := #[.int (21)], vm := .none },
  { cls := 13, slots := #[.int (22)], vm := .none },
  { cls := 13, slots := #[.int (23)], vm := .none },
  { cls := 13, slots := #[.int (24)], vm := .none },
  { cls := 13, slots := #[.int (25)], vm := .none },
  { cls := 13, slots := #[.int (26)], vm := .none },
  { cls := 13, slots := #[.int (27)], vm := .none },
  { cls := 13, slots := #[.int (28)], vm := .none },
  { cls := 13, slots := #[.int (29)], vm := .none },
  { cls := 13, slots := #[.int (30)], vm := .none },
  { cls := 13, slots := #[.int (31)], vm := .none },
  { cls := 13, slots := #[.int (32)], vm := .none },
  { cls := 13, slots := #[.int (33)], vm := .none },
  { cls := 13, slots := #[.int (34)], vm := .none },
  { cls := 13, slots := #[.int (35)], vm := .none },
  { cls := 13, slots := #[.int (36)], vm := .none },
  { cls := 13, slots := #[.int (37)], vm := .none },
  { cls := 13, slots := #[.int (38)], vm := .none },
  { cls := 13, slots := #[.int (39)], vm := .none },
  { cls := 13, slots := #[.int (40)], vm := .none },
  { cls := 13, slots := #[.int (41)], vm := .none },
  { cls := 13, slots := #[.int (42)], vm := .none },
  { cls := 13, slots := #[.int (43)], vm := .none },
  { cls := 13, slots := #[.int (44)], vm := .none },
  { cls := 13, slots := #[.int (45)], vm := .none },
  { cls := 13, slots := #[.int (46)], vm := .none },
  { cls := 13, slots := #[.int (47)], vm := .none },
  { cls := 13, slots := #[.int (48)], vm := .none },
  { cls := 13, slots := #[.int (49)], vm := .none },
  { cls := 13, slots := #[.int (50)], vm := .none },
  { cls := 13, slots := #[.int (51)], vm := .none },
  { cls := 13, slots := #[.int (52)], vm := .none },
  { cls := 13, slots := #[.int (53)], vm := .none },
  { cls := 13, slots := #[.int (54)], vm := .none },
  { cls := 13, slots := #[.int (55)], vm := .none },
  { cls := 13, slots := #[.int (56)], vm := .none },
  { cls := 13, slots := #[.int (57)], vm := .none },
  { cls := 13, slots := #[.int (58)], vm := .none },
  { cls := 13, slots := #[.int (59)], vm := .none },
  { cls := 13, slots := #[.int (60)], vm := .none },
  { cls := 13, slots := #[.int (61)], vm := .none },
  { cls := 13, slots := #[.int (62)], vm := .none },
  { cls := 13, slots := #[.int (63)], vm := .none },
  { cls := 13, slots := #[.int (64)], vm := .none },
  { cls := 13, slots := #[.int (65)], vm := .none },
  { cls := 13, slots := #[.int (66)], vm := .none },
  { cls := 13, slots := #[.int (67)], vm := .none },
  { cls := 13, slots := #[.int (68)], vm := .none },
  { cls := 13, slots := #[.int (69)], vm := .none },
  { cls := 13, slots := #[.int (70)], vm := .none },
  { cls := 13, slots := #[.int (71)], vm := .none },
  { cls := 13, slots := #[.int (72)], vm := .none },
  { cls := 13, slots := #[.int (73)], vm := .none },
  { cls := 13, slots := #[.int (74)], vm := .none },
  { cls := 13, slots := #[.int (75)], vm := .none },
  { cls := 13, slots := #[.int (76)], vm := .none },
  { cls := 13, slots := #[.int (77)], vm := .none },
  { cls := 13, slots := #[.int (78)], vm := .none },
  { cls := 13, slots := #[.int (79)], vm := .none },
  { cls := 13, slots := #[.int (80)], vm := .none },
  { cls := 13, slots := #[.int (81)], vm := .none },
  { cls := 13, slots := #[.int (82)], vm := .none },
  { cls := 13, slots := #[.int (83)], vm := .none },
  { cls := 13, slots := #[.int (84)], vm := .none },
  { cls := 13, slots := #[.int (85)], vm := .none },
  { cls := 13, slots := #[.int (86)], vm := .none },
  { cls := 13, slots := #[.int (87)], vm := .none },
  { cls := 13, slots := #[.int (88)], vm := .none },
  { cls := 13, slots := #[.int (89)], vm := .none },
  { cls := 13, slots := #[.int (90)], vm := .none },
  { cls := 13, slots := #[.int (91)], vm := .none },
  { cls := 13, slots := #[.int (92)], vm := .none },
  { cls := 13, slots := #[.int (93)], vm := .none },
  { cls := 13, slots := #[.int (94)], vm := .none },
  { cls := 13, slots := #[.int (95)], vm := .none },
  { cls := 13, slots := #[.int (96)], vm := .none },
  { cls := 13, slots := #[.int (97)], vm := .none },
  { cls := 13, slots := #[.int (98)], vm := .none },
  { cls := 13, slots := #[.int (99)], vm := .none },
  { cls := 13, slots := #[.int (100)], vm := .none },
  { cls := 13, slots := #[.int (101)], vm := .none },
  { cls := 13, slots := #[.int (102)], vm := .none },
  { cls := 13, slots := #[.int (103)], vm := .none },
  { cls := 13, slots := #[.int (104)], vm := .none },
  { cls := 13, slots := #[.int (105)], vm := .none },
  { cls := 13, slots := #[.int (106)], vm := .none },
  { cls := 13, slots := #[.int (107)], vm := .none },
  { cls := 13, slots := #[.int (108)], vm := .none },
  { cls := 13, slots := #[.int (109)], vm := .none },
  { cls := 13, slots := #[.int (110)], vm := .none },
  { cls := 13, slots := #[.int (111)], vm := .none },
  { cls := 13, slots := #[.int (112)], vm := .none },
  { cls := 13, slots := #[.int (113)], vm := .none },
  { cls := 13, slots := #[.int (114)], vm := .none },
  { cls := 13, slots := #[.int (115)], vm := .none },
  { cls := 13, slots := #[.int (116)], vm := .none },
  { cls := 13, slots := #[.int (117)], vm := .none },
  { cls := 13, slots := #[.int (118)], vm := .none },
  { cls := 13, slots := #[.int (119)], vm := .none },
  { cls := 13, slots := #[.int (120)], vm := .none },
  { cls := 13, slots := #[.int (121)], vm := .none },
  { cls := 13, slots := #[.int (122)], vm := .none },
  { cls := 13, slots := #[.int (123)], vm := .none },
  { cls := 13, slots := #[.int (124)], vm := .none },
  { cls := 13, slots := #[.int (125)], vm := .none },
  { cls := 13, slots := #[.int (126)], vm := .none },
  { cls := 13, slots := #[.int (127)], vm := .none }]
def classes : Array Class := #[k0, k1, k2, k3, k4, k5, k6, k7, k8, k9, k10, k11, k12, k13, k14, k15, k16, k17, k18, k19, k20]
def interned : List (Array UInt16 × Addr) := []
def slotsUsed : Nat := 517
def theMethod : MethodId := ⟨1, 1⟩
def args0 : Array Value := #[.int 3, .int 4, .int 1]
def aboutOver (below : List Frame) : State where
  vm := { classes := classes, interned := interned.toArray }
  heap := heap
  slotsUsed := slotsUsed
  threads := #[{ frames := .invoking theMethod args0 :: below }]
def below0 : List Frame := [.native { method := ⟨0, 0⟩, args := #[] }]
def about1 : State := aboutOver below0
def p0 : Program := .bare "" "" ""
def e0 : Env := launch0.env 0 0 0
theorem w_frames : about1.frames = Frame.invoking theMethod args0 :: below0 := rfl
set_option maxRecDepth 65536 in
theorem w_args : argsFit about1.vm theMethod args0 = true := by decide +kernel
set_option maxRecDepth 65536 in
theorem w_heap : heapFits about1 = true := by decide +kernel
set_option maxRecDepth 65536 in
theorem w_runnable : about1.curStatus? = some .runnable := by decide +kernel
set_option maxRecDepth 65536 in
theorem w_alone : about1.alone = true := by decide +kernel
set_option maxRecDepth 65536 in
theorem w_named : about1.methodNamed? x = some theMethod := by decide +kernel
set_option maxRecDepth 65536 in
theorem w_hears : about1.hears theMethod below0 = true := by decide +kernel
set_option maxRecDepth 65536 in
theorem w_ripe : about1.ripe theMethod args0 below0 = true := by decide +kernel
theorem w_running : about1.status = .running := rfl
set_option maxRecDepth 65536 in
theorem w_room : about1.hasRoom e0.platform room_1 = true :=
  launch0.hasRoom_least _ room_1 (by decide +kernel) (by decide +kernel) (by decide +kernel) (by decide +kernel) (by decide +kernel) (by decide +kernel)
theorem allAtoms_all (ts : List Jvm.Cond) (a : Array Jvm.Value) (st : Jvm.State) : (allAtoms ts).before a st = ts.all (fun c => c.before a st) := by
  induction ts with
  | nil => rfl
  | cons c t ih =>
    show (Jvm.Cond.and c (allAtoms t)).before a st = _
    rw [Jvm.Cond.before_and, ih, List.all_cons]
def words1 : List Jvm.Cond := Jvm.Cond.code x code maxLocals ret :: tables_1
/-- a 'code' word, met by the world's own term for the bytes: nothing is compared byte by byte -/
theorem code_word {y : MethodName} {bytes : ByteArray} {mx : Nat} {rt : Option FieldType} {a : Array Value} {s : State} {m : MethodId} {meth : Method} {c : Code} (h1 : s.methodNamed? y = some m) (h2 : s.vm.method? m = some meth) (h3 : meth.code = some c) (h4 : c.code = bytes)
    (h5 : (c.maxLocals == mx && c.exceptionTable.isEmpty && decide (c.maxStack ≤ mostOperands) && decide (meth.sig.returnType = rt) && !meth.locks && decide (parseMethodDescriptor y.desc = some meth.sig)) = true) : (Jvm.Cond.code y bytes mx rt).before a s = true := by
  simp only [Bool.and_eq_true, beq_iff_eq, Bool.not_eq_true', decide_eq_true_eq] at h5
  obtain ⟨⟨⟨⟨⟨g1, g2⟩, g3⟩, g4⟩, g5⟩, g6⟩ := h5
  simp [Cond.before, Cond.holds, Cond.value, h1, h2, h3, h4, g1, g2, g3, g4, g5, g6]
def isCode : Jvm.Cond → Bool
  | .code _ _ _ _ => true
  | _ => false
theorem all_split {L : List Jvm.Cond} {P : Jvm.Cond → Bool} (h1 : L.all (fun c => isCode c || P c) = true) (h2 : ∀ c ∈ L.filter isCode, P c = true) : L.all P = true := by
  refine List.all_eq_true.mpr fun c hc => ?_
  have h := List.all_eq_true.mp h1 c hc
  rcases Bool.eq_false_or_eq_true (isCode c) with hi | hi
  · exact h2 c (List.mem_filter.mpr ⟨hc, hi⟩)
  · simpa [hi] using h
set_option maxRecDepth 65536 in
theorem w_c0 : (Jvm.Cond.code x code maxLocals ret).before args0 about1 = true := code_word (m := ⟨1, 1⟩) (meth := k1m1) (c := k1c1) (by decide +kernel) rfl rfl rfl (by decide +kernel)
set_option maxRecDepth 65536 in
theorem w_c1 : (Jvm.Cond.code ({ cls := "com/example/dragoman/dragoman/rewrite/ClauseTerm$Variable", name := "<init>", desc := "(I)V" } : Jvm.MethodName) prog_39_method_1_code (2 : Nat) (Option.none : Option Jvm.ClassFile.FieldType)).before args0 about1 = true := code_word (m := ⟨3, 0⟩) (meth := k3m0) (c := k3c0) (by decide +kernel) rfl rfl rfl (by decide +kernel)
set_option maxRecDepth 65536 in
theorem w_c2 : (Jvm.Cond.code ({ cls := "java/lang/Object", name := "<init>", desc := "()V" } : Jvm.MethodName) object_method_1_code (1 : Nat) (Option.none : Option Jvm.ClassFile.FieldType)).before args0 about1 = true := code_word (m := ⟨0, 0⟩) (meth := k0m0) (c := k0c0) (by decide +kernel) rfl rfl rfl (by decide +kernel)
set_option maxRecDepth 65536 in
theorem w_c3 : (Jvm.Cond.code ({ cls := "com/example/dragoman/dragoman/rewrite/ClauseTerm$Skolem", name := "<init>", desc := "(ILcom/example/dragoman/dragoman/rewrite/ClauseTerm;)V" } : Jvm.MethodName) prog_38_method_1_code (3 : Nat) (Option.none : Option Jvm.ClassFile.FieldType)).before args0 about1 = true := code_word (m := ⟨4, 0⟩) (meth := k4m0) (c := k4c0) (by decide +kernel) rfl rfl rfl (by decide +kernel)
set_option maxRecDepth 65536 in
theorem w_c4 : (Jvm.Cond.code ({ cls := "java/util/Objects", name := "requireNonNull", desc := "(Ljava/lang/Object;Ljava/lang/String;)Ljava/lang/Object;" } : Jvm.MethodName) jdk_31_method_11_code (2 : Nat) (Option.some (Jvm.ClassFile.FieldType.object "java/lang/Object"))).before args0 about1 = true := code_word (m := ⟨11, 1⟩) (meth := k11m1) (c := k11c1) (by decide +kernel) rfl rfl rfl (by decide +kernel)
set_option maxRecDepth 65536 in
theorem w_c5 : (Jvm.Cond.code ({ cls := "com/example/dragoman/dragoman/rewrite/ClauseTerm$Variable", name := "hashCode", desc := "()I" } : Jvm.MethodName) prog_39_method_4_code (1 : Nat) (Option.some Jvm.ClassFile.FieldType.int)).before args0 about1 = true := code_word (m := ⟨3, 2⟩) (meth := k3m2) (c := k3c2) (by decide +kernel) rfl rfl rfl (by decide +kernel)
set_option maxRecDepth 65536 in
theorem w_c6 : (Jvm.Cond.code ({ cls := "com/example/dragoman/dragoman/rewrite/ClauseTerm$Variable", name := "equals", desc := "(Ljava/lang/Object;)Z" } : Jvm.MethodName) prog_39_method_3_code (2 : Nat) (Option.some Jvm.ClassFile.FieldType.boolean)).before args0 about1 = true := code_word (m := ⟨3, 1⟩) (meth := k3m1) (c := k3c1) (by decide +kernel) rfl rfl rfl (by decide +kernel)
set_option maxRecDepth 65536 in
theorem w_c7 : (Jvm.Cond.code ({ cls := "java/lang/Integer", name := "valueOf", desc := "(I)Ljava/lang/Integer;" } : Jvm.MethodName) jdk_33_method_22_code (1 : Nat) (Option.some (Jvm.ClassFile.FieldType.object "java/lang/Integer"))).before args0 about1 = true := code_word (m := ⟨13, 0⟩) (meth := k13m0) (c := k13c0) (by decide +kernel) rfl rfl rfl (by decide +kernel)
set_option maxRecDepth 65536 in
theorem w_c8 : (Jvm.Cond.code ({ cls := "java/lang/Integer", name := "<init>", desc := "(I)V" } : Jvm.MethodName) jdk_33_method_23_code (2 : Nat) (Option.none : Option Jvm.ClassFile.FieldType)).before args0 about1 = true := code_word (m := ⟨13, 1⟩) (meth := k13m1) (c := k13c1) (by decide +kernel) rfl rfl rfl (by decide +kernel)
set_option maxRecDepth 65536 in
theorem w_c9 : (Jvm.Cond.code ({ cls := "java/lang/Number", name := "<init>", desc := "()V" } : Jvm.MethodName) jdk_18_method_1_code (1 : Nat) (Option.none : Option Jvm.ClassFile.FieldType)).before args0 about1 = true := code_word (m := ⟨12, 0⟩) (meth := k12m0) (c := k12c0) (by decide +kernel) rfl rfl rfl (by decide +kernel)
def codes1 : List Jvm.Cond := [Jvm.Cond.code x code maxLocals ret, Jvm.Cond.code ({ cls := "com/example/dragoman/dragoman/rewrite/ClauseTerm$Variable", name := "<init>", desc := "(I)V" } : Jvm.MethodName) prog_39_method_1_code (2 : Nat) (Option.none : Option Jvm.ClassFile.FieldType), Jvm.Cond.code ({ cls := "java/lang/Object", name := "<init>", desc := "()V" } : Jvm.MethodName) object_method_1_code (1 : Nat) (Option.none : Option Jvm.ClassFile.FieldType), Jvm.Cond.code ({ cls := "com/example/dragoman/dragoman/rewrite/ClauseTerm$Skolem", name := "<init>", desc := "(ILcom/example/dragoman/dragoman/rewrite/ClauseTerm;)V" } : Jvm.MethodName) prog_38_method_1_code (3 : Nat) (Option.none : Option Jvm.ClassFile.FieldType), Jvm.Cond.code ({ cls := "java/util/Objects", name := "requireNonNull", desc := "(Ljava/lang/Object;Ljava/lang/String;)Ljava/lang/Object;" } : Jvm.MethodName) jdk_31_method_11_code (2 : Nat) (Option.some (Jvm.ClassFile.FieldType.object "java/lang/Object")), Jvm.Cond.code ({ cls := "com/example/dragoman/dragoman/rewrite/ClauseTerm$Variable", name := "hashCode", desc := "()I" } : Jvm.MethodName) prog_39_method_4_code (1 : Nat) (Option.some Jvm.ClassFile.FieldType.int), Jvm.Cond.code ({ cls := "com/example/dragoman/dragoman/rewrite/ClauseTerm$Variable", name := "equals", desc := "(Ljava/lang/Object;)Z" } : Jvm.MethodName) prog_39_method_3_code (2 : Nat) (Option.some Jvm.ClassFile.FieldType.boolean), Jvm.Cond.code ({ cls := "java/lang/Integer", name := "valueOf", desc := "(I)Ljava/lang/Integer;" } : Jvm.MethodName) jdk_33_method_22_code (1 : Nat) (Option.some (Jvm.ClassFile.FieldType.object "java/lang/Integer")), Jvm.Cond.code ({ cls := "java/lang/Integer", name := "<init>", desc := "(I)V" } : Jvm.MethodName) jdk_33_method_23_code (2 : Nat) (Option.none : Option Jvm.ClassFile.FieldType), Jvm.Cond.code ({ cls := "java/lang/Number", name := "<init>", desc := "()V" } : Jvm.MethodName) jdk_18_method_1_code (1 : Nat) (Option.none : Option Jvm.ClassFile.FieldType)]
set_option maxRecDepth 65536 in
theorem codes_eq : words1.filter isCode = codes1 := rfl
theorem w_codes : ∀ c ∈ words1.filter isCode, c.before args0 about1 = true := by
  rw [codes_eq]
  intro c hc
  simp only [codes1, List.mem_cons, List.not_mem_nil, or_false] at hc
  rcases hc with rfl | rfl | rfl | rfl | rfl | rfl | rfl | rfl | rfl | rfl
  · exact w_c0
  · exact w_c1
  · exact w_c2
  · exact w_c3
  · exact w_c4
  · exact w_c5
  · exact w_c6
  · exact w_c7
  · exact w_c8
  · exact w_c9
set_option maxRecDepth 65536 in
theorem w_t1 : (words1.take 24).all (fun c => isCode c || c.before args0 about1) = true := by decide +kernel
set_option maxRecDepth 65536 in
theorem w_t2 : ((words1.drop 24).take 24).all (fun c => isCode c || c.before args0 about1) = true := by decide +kernel
set_option maxRecDepth 65536 in
theorem w_t3 : (((words1.drop 24).drop 24).take 24).all (fun c => isCode c || c.before args0 about1) = true := by decide +kernel
set_option maxRecDepth 65536 in
theorem w_t4 : (((words1.drop 24).drop 24).drop 24).all (fun c => isCode c || c.before args0 about1) = true := by decide +kernel
theorem w_tables : (allAtoms (Jvm.Cond.code x code maxLocals ret :: tables_1)).before args0 about1 = true := by
  rw [allAtoms_all]
  show words1.all (fun c => c.before args0 about1) = true
  refine all_split ?_ w_codes
  rw [← List.take_append_drop 24 words1, List.all_append, w_t1, ← List.take_append_drop 24 (words1.drop 24), List.all_append, w_t2, ← List.take_append_drop 24 ((words1.drop 24).drop 24), List.all_append, w_t3, w_t4]
  rfl
set_option maxRecDepth 65536 in
theorem w_rest : rest_1_c.before args0 about1 = true := by decide +kernel
set_option maxRecDepth 65536 in
theorem w_case : (Jvm.Cond.and given_1 narrow_1).before args0 about1 = true := by decide +kernel
theorem w_applies : (headSpec (Jvm.Cond.code x code maxLocals ret :: tables_1) room_1).applies x e0.platform about1 = true :=
  (Spec.applies_iff w_frames).mpr ⟨w_running, w_runnable, w_alone, w_named, w_hears, w_ripe, w_room, w_tables⟩
theorem atStart : AtStart classFile x code maxLocals ret World_1 tables_1 room_1 Calls_1 rest_1 Pre_1 launch0 p0 e0 about1 theMethod args0 below0 :=
  ⟨lists_1, trivial, launch0.admits_env _ _ _, launch0.least_env, fairChoices_fair.cas, fairChoices_fair.clock, w_frames, w_args, w_heap, w_applies, trivial, w_rest, w_case⟩
end start1
theorem witness_1 : WitnessClaimed_1 := ⟨start1.p0, start1.e0, start1.about1, start1.theMethod, start1.args0, start1.below0, start1.atStart⟩
end Jvm.Pilot.@@N@@
