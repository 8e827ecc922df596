import JvmDerived
import JvmDerived.Pilot.@@N@@Statement
import JvmDerived.Pilot.@@N@@Code
set_option linter.unusedVariables false
set_option linter.unusedSimpArgs false
namespace Jvm.Pilot.@@N@@
open Jvm Jvm.ClassFile Sem Op Lib Jvm.Free Jvm.Stand Jvm.LawKit Jvm.RoadKit Bundle Jvm.Pilot.@@N@@.Jvm.D
theorem own_cast {tb : Tables} {e : Env} {below : List Frame} {T : State} {g g' : JFrame} {t : State} (q : g = g') (k : Steps tb e below (T.setTop g') t) : Steps tb e below (T.setTop g) t := q ▸ k
section Own
variable {p : Program} {l : Launch} {e : Env} {R : Room} {s : State} {m : MethodId} {args : Array Value} {below : List Frame} {meth : Method} {c : Code} {T T' : State} {locs : List Loc} {cells slots : Nat} {g g' : JFrame} {K : Outcome → State → Prop} {h : Heap}
/-- the run from T with g on top comes to an end at which K holds -/
def own_Go (p : Program) (e : Env) (below : List Frame) (K : Outcome → State → Prop) (T : State) (g : JFrame) : Prop := ∃ t o, Steps p.tables e below (T.setTop g) t ∧ t.status = .running ∧ Ended t below o ∧ K o t
def own_K (s : State) (Q : Option Value → Heap → List Loc → Prop) (kc ks : Nat) : Outcome → State → Prop := fun o t => ∃ v L, o = .returned v ∧ Q v t.heap L ∧ FrameEnd s o t L kc ks
theorem own_st (k : ∀ t, Steps p.tables e below (T'.setTop g') t → Steps p.tables e below (T.setTop g) t) (h : own_Go p e below K T' g') : own_Go p e below K T g := by
  obtain ⟨t, o, h1, h2⟩ := h; exact ⟨t, o, k t h1, h2⟩
theorem own_tr (k : Steps p.tables e below (T.setTop g) (T'.setTop g')) (h : own_Go p e below K T' g') : own_Go p e below K T g := by
  obtain ⟨t, o, h1, h2⟩ := h; exact ⟨t, o, k.trans h1, h2⟩
theorem own_in (q : g = g') (h : own_Go p e below K T g') : ∃ t o, Steps p.tables e below (T.setTop g) t ∧ t.status = .running ∧ Ended t below o ∧ K o t := by
  obtain ⟨t, o, h1, h2⟩ := h; exact ⟨t, o, own_cast q h1, h2⟩
variable {Q : Option Value → Heap → List Loc → Prop} {kc ks pc : Nat} {Ls : Array Slot} {rest : List Value} {x : MethodName} {S : Spec} {code : ByteArray} {maxLocals : Nat} {s₁ : State}
theorem own_end (X : Stand p l e R s m args below meth c T locs cells slots) {v : Option Value} (hv : meth.sig.returnType = none → v = none) (hlk : meth.locks = false) (eT : T.heap = h) (hQ : Q v h locs) (hc : cells ≤ kc) (hs : slots ≤ ks)
    (k : ∀ fs, (∀ (f : JFrame) (acts : List Action), f.method = m → f.locked = none → f.entered = [] → (doReturn e (T.setTop f) acts v).1 = T.setFrames fs) → Steps p.tables e below (T.setTop g) (T.setFrames fs)) : own_Go p e below (own_K s Q kc ks) T g := by
  obtain ⟨fs, hr, hrun, hended, hW, hsame⟩ := X.leave (v := v) hv hlk
  refine ⟨_, _, k fs hr, hrun, hended, v, locs, rfl, ?_, ⟨_, rfl⟩, hW, hsame.mono hc hs⟩
  show Q v T.heap locs
  rw [eT]; exact hQ
theorem own_retI (X : Stand p l e R s m args below meth c T locs cells slots) (hx : p.tables.exec = Jvm.exec) (Bd : BodyLoose p l x S code maxLocals (some .int) e s m args below meth c s₁) {z : Int32} (hd : decode c.code pc = .ok (.ireturn, 1)) (eT : T.heap = h) (hQ : Q (some (.int z)) h locs) (hc : cells ≤ kc) (hs : slots ≤ ks) :
    own_Go p e below (own_K s Q kc ks) T (mkF m pc Ls (.int z :: rest)) :=
  own_end X (fun h => by rw [Bd.returns] at h; cases h) Bd.notSynchronized eT hQ hc hs fun fs hr => retOut X hx Bd.returns rfl (Or.inl ⟨rfl, Or.inl rfl, z, rfl⟩) hd hr
theorem own_retJ (X : Stand p l e R s m args below meth c T locs cells slots) (hx : p.tables.exec = Jvm.exec) (Bd : BodyLoose p l x S code maxLocals (some .long) e s m args below meth c s₁) {z : Int64} (hd : decode c.code pc = .ok (.lreturn, 1)) (eT : T.heap = h) (hQ : Q (some (.long z)) h locs) (hc : cells ≤ kc) (hs : slots ≤ ks) :
    own_Go p e below (own_K s Q kc ks) T (mkF m pc Ls (.long z :: rest)) :=
  own_end X (fun h => by rw [Bd.returns] at h; cases h) Bd.notSynchronized eT hQ hc hs fun fs hr => retOut X hx Bd.returns rfl (Or.inr (Or.inl ⟨rfl, rfl, z, rfl⟩)) hd hr
theorem own_retN (X : Stand p l e R s m args below meth c T locs cells slots) (hx : p.tables.exec = Jvm.exec) {t : FieldType} (Bd : BodyLoose p l x S code maxLocals (some t) e s m args below meth c s₁) (ht : t = .boolean ∨ t = .byte ∨ t = .char ∨ t = .short) {z : Int32} (hn : narrow t (.int z) = .int z) (hd : decode c.code pc = .ok (.ireturn, 1)) (eT : T.heap = h) (hQ : Q (some (.int z)) h locs) (hc : cells ≤ kc) (hs : slots ≤ ks) :
    own_Go p e below (own_K s Q kc ks) T (mkF m pc Ls (.int z :: rest)) :=
  own_end X (fun h => by rw [Bd.returns] at h; cases h) Bd.notSynchronized eT hQ hc hs fun fs hr => retOut X hx Bd.returns hn (Or.inl ⟨rfl, Or.inr ht, z, rfl⟩) hd hr
theorem own_retA (X : Stand p l e R s m args below meth c T locs cells slots) (hx : p.tables.exec = Jvm.exec) {t : FieldType} (Bd : BodyLoose p l x S code maxLocals (some t) e s m args below meth c s₁) (ht : t.isReference = true) {w : Value} (hw : w.isRef = true) (hd : decode c.code pc = .ok (.areturn, 1)) (eT : T.heap = h) (hQ : Q (some w) h locs) (hc : cells ≤ kc) (hs : slots ≤ ks) :
    own_Go p e below (own_K s Q kc ks) T (mkF m pc Ls (w :: rest)) :=
  own_end X (fun h => by rw [Bd.returns] at h; cases h) Bd.notSynchronized eT hQ hc hs fun fs hr => retOut X hx Bd.returns (by cases t <;> first | (cases ht; done) | rfl) (Or.inr (Or.inr (Or.inr (Or.inr ⟨rfl, ht, hw⟩)))) hd hr
theorem own_retV (X : Stand p l e R s m args below meth c T locs cells slots) (hx : p.tables.exec = Jvm.exec) (Bd : BodyLoose p l x S code maxLocals none e s m args below meth c s₁) (hd : decode c.code pc = .ok (.return_, 1)) (eT : T.heap = h) (hQ : Q none h locs) (hc : cells ≤ kc) (hs : slots ≤ ks) :
    own_Go p e below (own_K s Q kc ks) T (mkF m pc Ls []) :=
  own_end X (fun _ => rfl) Bd.notSynchronized eT hQ hc hs fun fs hr => X.returnOut hx Bd.returns hd hr
end Own
theorem own_Sta_keep {Z : State} {h h' : Heap} {C n d : String} {v : Value} {ws : List Addr} (F : Sta Z h C n d v) (K : Keep h h' ws) (q : ∀ x ∈ ws, ∀ cell : Cell, h[x]? = some cell → cell.vm.isStatics = false) : Sta Z h' C n d v := by
  obtain ⟨cf, i, k, f, st, cell, h1, h2, h3, h4, h5, h6, h7⟩ := F
  exact ⟨cf, i, k, f, st, cell, h1, h2, h3, h4, K.2.1 _ _ h5 (fun hm => by rw [q _ hm _ h5] at h6; cases h6), h6, h7⟩
theorem own_Ins_keep {Z : State} {h h' : Heap} {a : Addr} {C : String} {b : Bool} {ws : List Addr} (F : Ins Z h a C b) (K : Keep h h' ws) : Ins Z h' a C b := by
  obtain ⟨cell, cT, h1, h2, h3⟩ := F
  obtain ⟨c', e1, e2, e3, -⟩ := K.2.2 _ _ h1
  exact ⟨c', cT, e1, h2, by rw [e2, e3]; exact h3⟩
theorem own_enum {Z : State} {args : Array Value} {C D n d : String} (h : (Cond.exactly (Term.static C n d) D).value args Z none Z [] = some true) (hi : (Cond.initializedFor C n d).before args Z = true ∨ ((Cond.initialized C).before args Z = true ∧ (Cond.laysStatic C n d).before args Z = true)) :
    ∃ a, (Term.static C n d).eval args Z none [] Z = some (.ref a) ∧ Sta Z Z.heap C n d (.ref a) ∧ Exa Z Z.heap a D := by
  obtain ⟨a, e⟩ := exa_v h
  exact ⟨a, e, Sta.start e hi, Exa.start e h⟩
theorem own_ord {Z : State} {args : Array Value} {t : Term} {a : Addr} {O n d : String} {k : Int32} (e : t.eval args Z none [] Z = some (.ref a)) (h : (Cond.eq (Term.field t O n d) (Term.int k)).value args Z none Z [] = some true) : Fld Z Z.heap a O n d (.int k) := by
  refine Fld.start ?_
  have q := fld_at (C := O) (n := n) (dd := d) (first := Z) (o := none) (idx := []) (args := args) e
  obtain ⟨x, y, h1, h2, -⟩ := cmp_v (Or.inl h)
  rw [q] at h1
  have h2' : some (Value.int k) = some y := h2
  cases h2'
  cases x <;> simp [Cond.value, Term.eval, e, h1] at h
  rw [h1, h]
theorem own_bb (x : Int32) : x.toInt8.toInt32.toInt8.toInt32 = x.toInt8.toInt32 := by simp
theorem own_cc (x : Int32) : x.toUInt32.toUInt16.toUInt32.toInt32.toUInt32.toUInt16.toUInt32.toInt32 = x.toUInt32.toUInt16.toUInt32.toInt32 := by simp only [UInt32.toUInt32_toInt32, UInt16.toUInt16_toUInt32]
theorem own_nar_ref {t : FieldType} {v : Value} (h : v.isRef = true) (ht : t.isReference = true) : narrow t v = v := by cases t <;> first | (cases ht; done) | rfl
theorem own_fits_ref {t : FieldType} {v : Value} (h : v.isRef = true) (ht : t.isReference = true) : fits t v = true := by rcases ref_cases h with rfl | ⟨a, rfl⟩ <;> cases t <;> first | (cases ht; done) | rfl
theorem own_nar_b {z : Int32} (h : z = 0 ∨ z = 1) : narrow .boolean (.int z) = .int z := by rcases h with rfl | rfl <;> rfl
theorem own_fits_b {z : Int32} (h : z = 0 ∨ z = 1) : fits .boolean (.int z) = true := by rcases h with rfl | rfl <;> rfl
theorem own_d1_0 : decode prog_41_method_4_code 0 = .ok (.iload_n 0, 1) := by decide +kernel
theorem own_d1_1 : decode prog_41_method_4_code 1 = .ok (.ifCond .ne 21, 3) := by decide +kernel
theorem own_d1_4 : decode prog_41_method_4_code 4 = .ok (.iload_n 1, 1) := by decide +kernel
theorem own_d1_5 : decode prog_41_method_4_code 5 = .ok (.ifCond .eq 13, 3) := by decide +kernel
theorem own_d1_18 : decode prog_41_method_4_code 18 = .ok (.getstatic 3, 3) := by decide +kernel
theorem own_d1_21 : decode prog_41_method_4_code 21 = .ok (.areturn, 1) := by decide +kernel
theorem own_pn0 : plainName "com/example/vested_roles/vestedroles/Revocation$Mode" = true := by first | (simp [plainName, overriddenIn]; done) | decide +kernel
theorem own_d1_22 : decode prog_41_method_4_code 22 = .ok (.iload_n 1, 1) := by decide +kernel
theorem own_d1_23 : decode prog_41_method_4_code 23 = .ok (.ifCond .eq 9, 3) := by decide +kernel
theorem own_d1_32 : decode prog_41_method_4_code 32 = .ok (.getstatic 7, 3) := by decide +kernel
theorem own_d1_35 : decode prog_41_method_4_code 35 = .ok (.areturn, 1) := by decide +kernel
theorem own_d1_26 : decode prog_41_method_4_code 26 = .ok (.getstatic 10, 3) := by decide +kernel
theorem own_d1_29 : decode prog_41_method_4_code 29 = .ok (.goto 6, 3) := by decide +kernel
theorem own_pd0 : parseMethodDescriptor "(ZZ)Lcom/example/vested_roles/vestedroles/Revocation$Mode;" = some ⟨[.boolean, .boolean], some (.object "com/example/vested_roles/vestedroles/Revocation$Mode")⟩ := by decide +kernel
theorem own_pn1 : plainName "com/example/vested_roles/vestedroles/ModeOfPinLaw" = true := by first | (simp [plainName, overriddenIn]; done) | decide +kernel

def own_r1_00 : Room := { frames := 0, cells := 0, slots := 0, locals := 0 }
theorem own_ef1_00 (m : MethodId)  : entryFrame m #[(.int (0 : Int32)), (.int (0 : Int32))] 2 = mkF m 0 #[.val (.int (0 : Int32)), .val (.int (0 : Int32))] [] := by first | (simp [entryFrame, mkF, argsToLocals, Value.category]; done) | rfl
def own_Q1_00 (Z : State) (aW aS aC : Addr) (h0 : Heap) (n0 : Nat) : Option Value → Heap → List Loc → Prop := fun v h L => v = some (.ref aW) ∧ Fr n0 L ∧ h = h0
set_option maxRecDepth 65536 in
set_option maxHeartbeats 40000000 in
theorem own_rm1_00 (l : Launch) (Z : State) (a0 : Array Value) (hw : ∀ d ∈ tables_1, d.before a0 Z = true) (ws : List Jvm.Cond) (aW aS aC : Addr) (h0 : Heap) (n0 : Nat) (Z0 : n0 ≤ h0.size) (S_WEAK : Sta Z h0 "com/example/vested_roles/vestedroles/Revocation$Mode" "WEAK" "Lcom/example/vested_roles/vestedroles/Revocation$Mode;" (.ref aW)) (S_STRONG : Sta Z h0 "com/example/vested_roles/vestedroles/Revocation$Mode" "STRONG" "Lcom/example/vested_roles/vestedroles/Revocation$Mode;" (.ref aS)) (S_STRONG_CONTINUING : Sta Z h0 "com/example/vested_roles/vestedroles/Revocation$Mode" "STRONG_CONTINUING" "Lcom/example/vested_roles/vestedroles/Revocation$Mode;" (.ref aC)) :
    MetFree l (⟨"com/example/vested_roles/vestedroles/Revocation$Mode", "of", "(ZZ)Lcom/example/vested_roles/vestedroles/Revocation$Mode;"⟩ : MethodName) (head1 (Jvm.Cond.code (⟨"com/example/vested_roles/vestedroles/Revocation$Mode", "of", "(ZZ)Lcom/example/vested_roles/vestedroles/Revocation$Mode;"⟩ : MethodName) prog_41_method_4_code 2 (some (.object "com/example/vested_roles/vestedroles/Revocation$Mode")) :: ws) own_r1_00) (fun a_ U_ => a_ = #[(.int (0 : Int32)), (.int (0 : Int32))] ∧ Z.Warmed39 U_.vm ∧ U_.heap = h0) (fun _ _ _ _ _ => True) (fun _ U_ o_ U'_ => ∃ v_ L_, o_ = .returned v_ ∧ own_Q1_00 Z aW aS aC  h0 n0 v_ U'_.heap L_ ∧ FrameEnd U_ o_ U'_ L_ own_r1_00.cells own_r1_00.slots) := by
  refine MetFree.of_bodySF (plainFor_of_name own_pn0) hisR ?_
  intro p e s m args below meth c s₁ Bd hml0 hP hK
  obtain ⟨rfl, hZ, hh⟩ := hP
  have hx := Bd.exec
  have hby := Bd.bytes
  have hml : c.maxLocals = 2 := hml0
  have hown : s.vm.findClass "com/example/vested_roles/vestedroles/Revocation$Mode" = some m.cls := findClass_of_methodNamed Bd.named
  have hnm := (name_of_methodNamed Bd.named Bd.method).1
  have X0 : Stand p l e own_r1_00 s m #[(.int (0 : Int32)), (.int (0 : Int32))] below meth c s₁ [] 0 0 := Stand.of_body Bd
  have e0 : s₁.heap = h0 := by rw [← hh, Bd.state]; rfl
  have N0 := Fr.nil n0
  refine own_in (own_ef1_00 m ) ?_
  show own_Go p e below (own_K s (own_Q1_00 Z aW aS aC  h0 n0) own_r1_00.cells own_r1_00.slots) s₁ (mkF m 0 #[.val (.int (0 : Int32)), .val (.int (0 : Int32))] [])
  refine own_st (T' := s₁) (g' := (mkF m 18 #[.val (.int (0 : Int32)), .val (.int (0 : Int32))] [])) (fun t k => ?_) ?_
  · show Steps p.tables e below (s₁.setTop (mkF m 0 #[.val (.int (0 : Int32)), .val (.int (0 : Int32))] [])) t
    refine XS.iloadN X0.here hx rfl (hb hby own_d1_0) rfl ?_
    show Steps p.tables e below (s₁.setTop (mkF m 1 #[.val (.int (0 : Int32)), .val (.int (0 : Int32))] [(.int (0 : Int32))])) t
    refine XS.ifNo X0.here hx rfl (hb hby own_d1_1) rfl ((if0 _ _).trans (teq (rfl : (0 : Int32) = (0 : Int32))).2) ?_
    show Steps p.tables e below (s₁.setTop (mkF m 4 #[.val (.int (0 : Int32)), .val (.int (0 : Int32))] [])) t
    refine XS.iloadN X0.here hx rfl (hb hby own_d1_4) rfl ?_
    show Steps p.tables e below (s₁.setTop (mkF m 5 #[.val (.int (0 : Int32)), .val (.int (0 : Int32))] [(.int (0 : Int32))])) t
    refine XS.ifYes X0.here hx rfl (pc0 := 5) (pc' := 18) rfl (hb hby own_d1_5) rfl ((if0 _ _).trans (teq (rfl : (0 : Int32) = (0 : Int32))).1) (by decide) (by decide) ?_
    show Steps p.tables e below (s₁.setTop (mkF m 18 #[.val (.int (0 : Int32)), .val (.int (0 : Int32))] [])) t
    exact k
  obtain ⟨T1, X1, e1, st1⟩ := getS2 X0 hx hZ hown (host := "") (Or.inl (hw _ (List.mem_of_getElem? (i := 4) rfl))) Via.refl e0 S_WEAK (g := (mkF m 18 #[.val (.int (0 : Int32)), .val (.int (0 : Int32))] [])) rfl (hb hby own_d1_18)
  refine own_st (T' := T1) (g' := (mkF m 21 #[.val (.int (0 : Int32)), .val (.int (0 : Int32))] [(.ref aW)])) st1 ?_
  exact own_retA X1 hx Bd rfl rfl (hb hby own_d1_21) e1 (⟨rfl, N0, rfl⟩) (by decide) (by decide)
def own_r1_10 : Room := { frames := 0, cells := 0, slots := 0, locals := 0 }
theorem own_ef1_10 (m : MethodId)  : entryFrame m #[(.int (1 : Int32)), (.int (0 : Int32))] 2 = mkF m 0 #[.val (.int (1 : Int32)), .val (.int (0 : Int32))] [] := by first | (simp [entryFrame, mkF, argsToLocals, Value.category]; done) | rfl
def own_Q1_10 (Z : State) (aW aS aC : Addr) (h0 : Heap) (n0 : Nat) : Option Value → Heap → List Loc → Prop := fun v h L => v = some (.ref aS) ∧ Fr n0 L ∧ h = h0
set_option maxRecDepth 65536 in
set_option maxHeartbeats 40000000 in
theorem own_rm1_10 (l : Launch) (Z : State) (a0 : Array Value) (hw : ∀ d ∈ tables_1, d.before a0 Z = true) (ws : List Jvm.Cond) (aW aS aC : Addr) (h0 : Heap) (n0 : Nat) (Z0 : n0 ≤ h0.size) (S_WEAK : Sta Z h0 "com/example/vested_roles/vestedroles/Revocation$Mode" "WEAK" "Lcom/example/vested_roles/vestedroles/Revocation$Mode;" (.ref aW)) (S_STRONG : Sta Z h0 "com/example/vested_roles/vestedroles/Revocation$Mode" "STRONG" "Lcom/example/vested_roles/vestedroles/Revocation$Mode;" (.ref aS)) (S_STRONG_CONTINUING : Sta Z h0 "com/example/vested_roles/vestedroles/Revocation$Mode" "STRONG_CONTINUING" "Lcom/example/vested_roles/vestedroles/Revocation$Mode;" (.ref aC)) :
    MetFree l (⟨"com/example/vested_roles/vestedroles/Revocation$Mode", "of", "(ZZ)Lcom/example/vested_roles/vestedroles/Revocation$Mode;"⟩ : MethodName) (head1 (Jvm.Cond.code (⟨"com/example/vested_roles/vestedroles/Revocation$Mode", "of", "(ZZ)Lcom/example/vested_roles/vestedroles/Revocation$Mode;"⟩ : MethodName) prog_41_method_4_code 2 (some (.object "com/example/vested_roles/vestedroles/Revocation$Mode")) :: ws) own_r1_10) (fun a_ U_ => a_ = #[(.int (1 : Int32)), (.int (0 : Int32))] ∧ Z.Warmed39 U_.vm ∧ U_.heap = h0) (fun _ _ _ _ _ => True) (fun _ U_ o_ U'_ => ∃ v_ L_, o_ = .returned v_ ∧ own_Q1_10 Z aW aS aC  h0 n0 v_ U'_.heap L_ ∧ FrameEnd U_ o_ U'_ L_ own_r1_10.cells own_r1_10.slots) := by
  refine MetFree.of_bodySF (plainFor_of_name own_pn0) hisR ?_
  intro p e s m args below meth c s₁ Bd hml0 hP hK
  obtain ⟨rfl, hZ, hh⟩ := hP
  have hx := Bd.exec
  have hby := Bd.bytes
  have hml : c.maxLocals = 2 := hml0
  have hown : s.vm.findClass "com/example/vested_roles/vestedroles/Revocation$Mode" = some m.cls := findClass_of_methodNamed Bd.named
  have hnm := (name_of_methodNamed Bd.named Bd.method).1
  have X0 : Stand p l e own_r1_10 s m #[(.int (1 : Int32)), (.int (0 : Int32))] below meth c s₁ [] 0 0 := Stand.of_body Bd
  have e0 : s₁.heap = h0 := by rw [← hh, Bd.state]; rfl
  have N0 := Fr.nil n0
  refine own_in (own_ef1_10 m ) ?_
  show own_Go p e below (own_K s (own_Q1_10 Z aW aS aC  h0 n0) own_r1_10.cells own_r1_10.slots) s₁ (mkF m 0 #[.val (.int (1 : Int32)), .val (.int (0 : Int32))] [])
  refine own_st (T' := s₁) (g' := (mkF m 32 #[.val (.int (1 : Int32)), .val (.int (0 : Int32))] [])) (fun t k => ?_) ?_
  · show Steps p.tables e below (s₁.setTop (mkF m 0 #[.val (.int (1 : Int32)), .val (.int (0 : Int32))] [])) t
    refine XS.iloadN X0.here hx rfl (hb hby own_d1_0) rfl ?_
    show Steps p.tables e below (s₁.setTop (mkF m 1 #[.val (.int (1 : Int32)), .val (.int (0 : Int32))] [(.int (1 : Int32))])) t
    refine XS.ifYes X0.here hx rfl (pc0 := 1) (pc' := 22) rfl (hb hby own_d1_1) rfl ((if0 _ _).trans (feq (by decide : ¬ ((1 : Int32) = (0 : Int32)))).2) (by decide) (by decide) ?_
    show Steps p.tables e below (s₁.setTop (mkF m 22 #[.val (.int (1 : Int32)), .val (.int (0 : Int32))] [])) t
    refine XS.iloadN X0.here hx rfl (hb hby own_d1_22) rfl ?_
    show Steps p.tables e below (s₁.setTop (mkF m 23 #[.val (.int (1 : Int32)), .val (.int (0 : Int32))] [(.int (0 : Int32))])) t
    refine XS.ifYes X0.here hx rfl (pc0 := 23) (pc' := 32) rfl (hb hby own_d1_23) rfl ((if0 _ _).trans (teq (rfl : (0 : Int32) = (0 : Int32))).1) (by decide) (by decide) ?_
    show Steps p.tables e below (s₁.setTop (mkF m 32 #[.val (.int (1 : Int32)), .val (.int (0 : Int32))] [])) t
    exact k
  obtain ⟨T1, X1, e1, st1⟩ := getS2 X0 hx hZ hown (host := "") (Or.inl (hw _ (List.mem_of_getElem? (i := 10) rfl))) Via.refl e0 S_STRONG (g := (mkF m 32 #[.val (.int (1 : Int32)), .val (.int (0 : Int32))] [])) rfl (hb hby own_d1_32)
  refine own_st (T' := T1) (g' := (mkF m 35 #[.val (.int (1 : Int32)), .val (.int (0 : Int32))] [(.ref aS)])) st1 ?_
  exact own_retA X1 hx Bd rfl rfl (hb hby own_d1_35) e1 (⟨rfl, N0, rfl⟩) (by decide) (by decide)
def own_r1_11 : Room := { frames := 0, cells := 0, slots := 0, locals := 0 }
theorem own_ef1_11 (m : MethodId)  : entryFrame m #[(.int (1 : Int32)), (.int (1 : Int32))] 2 = mkF m 0 #[.val (.int (1 : Int32)), .val (.int (1 : Int32))] [] := by first | (simp [entryFrame, mkF, argsToLocals, Value.category]; done) | rfl
def own_Q1_11 (Z : State) (aW aS aC : Addr) (h0 : Heap) (n0 : Nat) : Option Value → Heap → List Loc → Prop := fun v h L => v = some (.ref aC) ∧ Fr n0 L ∧ h = h0
set_option maxRecDepth 65536 in
set_option maxHeartbeats 40000000 in
theorem own_rm1_11 (l : Launch) (Z : State) (a0 : Array Value) (hw : ∀ d ∈ tables_1, d.before a0 Z = true) (ws : List Jvm.Cond) (aW aS aC : Addr) (h0 : Heap) (n0 : Nat) (Z0 : n0 ≤ h0.size) (S_WEAK : Sta Z h0 "com/example/vested_roles/vestedroles/Revocation$Mode" "WEAK" "Lcom/example/vested_roles/vestedroles/Revocation$Mode;" (.ref aW)) (S_STRONG : Sta Z h0 "com/example/vested_roles/vestedroles/Revocation$Mode" "STRONG" "Lcom/example/vested_roles/vestedroles/Revocation$Mode;" (.ref aS)) (S_STRONG_CONTINUING : Sta Z h0 "com/example/vested_roles/vestedroles/Revocation$Mode" "STRONG_CONTINUING" "Lcom/example/vested_roles/vestedroles/Revocation$Mode;" (.ref aC)) :
    MetFree l (⟨"com/example/vested_roles/vestedroles/Revocation$Mode", "of", "(ZZ)Lcom/example/vested_roles/vestedroles/Revocation$Mode;"⟩ : MethodName) (head1 (Jvm.Cond.code (⟨"com/example/vested_roles/vestedroles/Revocation$Mode", "of", "(ZZ)Lcom/example/vested_roles/vestedroles/Revocation$Mode;"⟩ : MethodName) prog_41_method_4_code 2 (some (.object "com/example/vested_roles/vestedroles/Revocation$Mode")) :: ws) own_r1_11) (fun a_ U_ => a_ = #[(.int (1 : Int32)), (.int (1 : Int32))] ∧ Z.Warmed39 U_.vm ∧ U_.heap = h0) (fun _ _ _ _ _ => True) (fun _ U_ o_ U'_ => ∃ v_ L_, o_ = .returned v_ ∧ own_Q1_11 Z aW aS aC  h0 n0 v_ U'_.heap L_ ∧ FrameEnd U_ o_ U'_ L_ own_r1_11.cells own_r1_11.slots) := by
  refine MetFree.of_bodySF (plainFor_of_name own_pn0) hisR ?_
  intro p e s m args below meth c s₁ Bd hml0 hP hK
  obtain ⟨rfl, hZ, hh⟩ := hP
  have hx := Bd.exec
  have hby := Bd.bytes
  have hml : c.maxLocals = 2 := hml0
  have hown : s.vm.findClass "com/example/vested_roles/vestedroles/Revocation$Mode" = some m.cls := findClass_of_methodNamed Bd.named
  have hnm := (name_of_methodNamed Bd.named Bd.method).1
  have X0 : Stand p l e own_r1_11 s m #[(.int (1 : Int32)), (.int (1 : Int32))] below meth c s₁ [] 0 0 := Stand.of_body Bd
  have e0 : s₁.heap = h0 := by rw [← hh, Bd.state]; rfl
  have N0 := Fr.nil n0
  refine own_in (own_ef1_11 m ) ?_
  show own_Go p e below (own_K s (own_Q1_11 Z aW aS aC  h0 n0) own_r1_11.cells own_r1_11.slots) s₁ (mkF m 0 #[.val (.int (1 : Int32)), .val (.int (1 : Int32))] [])
  refine own_st (T' := s₁) (g' := (mkF m 26 #[.val (.int (1 : Int32)), .val (.int (1 : Int32))] [])) (fun t k => ?_) ?_
  · show Steps p.tables e below (s₁.setTop (mkF m 0 #[.val (.int (1 : Int32)), .val (.int (1 : Int32))] [])) t
    refine XS.iloadN X0.here hx rfl (hb hby own_d1_0) rfl ?_
    show Steps p.tables e below (s₁.setTop (mkF m 1 #[.val (.int (1 : Int32)), .val (.int (1 : Int32))] [(.int (1 : Int32))])) t
    refine XS.ifYes X0.here hx rfl (pc0 := 1) (pc' := 22) rfl (hb hby own_d1_1) rfl ((if0 _ _).trans (feq (by decide : ¬ ((1 : Int32) = (0 : Int32)))).2) (by decide) (by decide) ?_
    show Steps p.tables e below (s₁.setTop (mkF m 22 #[.val (.int (1 : Int32)), .val (.int (1 : Int32))] [])) t
    refine XS.iloadN X0.here hx rfl (hb hby own_d1_22) rfl ?_
    show Steps p.tables e below (s₁.setTop (mkF m 23 #[.val (.int (1 : Int32)), .val (.int (1 : Int32))] [(.int (1 : Int32))])) t
    refine XS.ifNo X0.here hx rfl (hb hby own_d1_23) rfl ((if0 _ _).trans (feq (by decide : ¬ ((1 : Int32) = (0 : Int32)))).1) ?_
    show Steps p.tables e below (s₁.setTop (mkF m 26 #[.val (.int (1 : Int32)), .val (.int (1 : Int32))] [])) t
    exact k
  obtain ⟨T1, X1, e1, st1⟩ := getS2 X0 hx hZ hown (host := "") (Or.inl (hw _ (List.mem_of_getElem? (i := 9) rfl))) Via.refl e0 S_STRONG_CONTINUING (g := (mkF m 26 #[.val (.int (1 : Int32)), .val (.int (1 : Int32))] [])) rfl (hb hby own_d1_26)
  refine own_st (T' := T1) (g' := (mkF m 29 #[.val (.int (1 : Int32)), .val (.int (1 : Int32))] [(.ref aC)])) st1 ?_
  refine own_st (T' := T1) (g' := (mkF m 35 #[.val (.int (1 : Int32)), .val (.int (1 : Int32))] [(.ref aC)])) (fun t k => ?_) ?_
  · show Steps p.tables e below (T1.setTop (mkF m 29 #[.val (.int (1 : Int32)), .val (.int (1 : Int32))] [(.ref aC)])) t
    refine XS.goto X1.here hx rfl (pc0 := 29) (pc' := 35) rfl (hb hby own_d1_29) (by decide) (by decide) ?_
    show Steps p.tables e below (T1.setTop (mkF m 35 #[.val (.int (1 : Int32)), .val (.int (1 : Int32))] [(.ref aC)])) t
    exact k
  exact own_retA X1 hx Bd rfl rfl (hb hby own_d1_35) e1 (⟨rfl, N0, rfl⟩) (by decide) (by decide)
theorem own_ef0 (m : MethodId) (x0 : Int32) : entryFrame m #[(.int x0)] maxLocals = mkF m 0 #[.val (.int x0), .unset, .unset, .unset, .unset, .unset] [] := by first | (simp [entryFrame, mkF, argsToLocals, Value.category, maxLocals]; done) | rfl
def own_Q0 (Z : State) (k0 : Int32) (aW aS aC : Addr) (h0 : Heap) (n0 : Nat) : Option Value → Heap → List Loc → Prop := fun v h L => v = some (.int 1) ∧ Fr n0 L
set_option maxRecDepth 65536 in
set_option maxHeartbeats 40000000 in
theorem own_rm0 (l : Launch) (Z : State) (a0 : Array Value) (hw : ∀ d ∈ tables_1, d.before a0 Z = true) (ws : List Jvm.Cond) (k0 : Int32) (aW aS aC : Addr) (h0 : Heap) (n0 : Nat) (Z0 : n0 ≤ h0.size) (S_WEAK : Sta Z h0 "com/example/vested_roles/vestedroles/Revocation$Mode" "WEAK" "Lcom/example/vested_roles/vestedroles/Revocation$Mode;" (.ref aW)) (S_STRONG : Sta Z h0 "com/example/vested_roles/vestedroles/Revocation$Mode" "STRONG" "Lcom/example/vested_roles/vestedroles/Revocation$Mode;" (.ref aS)) (S_STRONG_CONTINUING : Sta Z h0 "com/example/vested_roles/vestedroles/Revocation$Mode" "STRONG_CONTINUING" "Lcom/example/vested_roles/vestedroles/Revocation$Mode;" (.ref aC)) (E_WEAK : Exa Z h0 aW "com/example/vested_roles/vestedroles/Revocation$Mode") (E_STRONG : Exa Z h0 aS "com/example/vested_roles/vestedroles/Revocation$Mode") (E_STRONG_CONTINUING : Exa Z h0 aC "com/example/vested_roles/vestedroles/Revocation$Mode") (naWaC : ¬ aW = aC) (naSaW : ¬ aS = aW) (naSaC : ¬ aS = aC) (naCaW : ¬ aC = aW) :
    MetFree l x (head1 (Jvm.Cond.code x code maxLocals ret :: ws) room_1) (fun a_ U_ => a_ = #[(.int k0)] ∧ Z.Warmed39 U_.vm ∧ U_.heap = h0) (fun _ _ _ _ _ => True) (fun _ U_ o_ U'_ => ∃ v_ L_, o_ = .returned v_ ∧ own_Q0 Z k0  aW aS aC  h0 n0 v_ U'_.heap L_ ∧ FrameEnd U_ o_ U'_ L_ room_1.cells room_1.slots) := by
  refine MetFree.of_bodySF (plainFor_of_name own_pn1) hisR ?_
  intro p e s m args below meth c s₁ Bd hml0 hP hK
  obtain ⟨rfl, hZ, hh⟩ := hP
  have hx := Bd.exec
  have hby := Bd.bytes
  have hml : c.maxLocals = 6 := hml0
  have hown : s.vm.findClass "com/example/vested_roles/vestedroles/ModeOfPinLaw" = some m.cls := findClass_of_methodNamed Bd.named
  have hnm := (name_of_methodNamed Bd.named Bd.method).1
  have X0 : Stand p l e room_1 s m #[(.int k0)] below meth c s₁ [] 0 0 := Stand.of_body Bd
  have e0 : s₁.heap = h0 := by rw [← hh, Bd.state]; rfl
  have N0 := Fr.nil n0
  refine own_in (own_ef0 m k0) ?_
  show own_Go p e below (own_K s (own_Q0 Z k0  aW aS aC  h0 n0) room_1.cells room_1.slots) s₁ (mkF m 0 #[.val (.int k0), .unset, .unset, .unset, .unset, .unset] [])
  refine own_st (T' := s₁) (g' := (mkF m 3 #[.val (.int k0), .unset, .unset, .unset, .unset, .unset] [(.int (k0 &&& (1 : Int32)))])) (fun t k => ?_) ?_
  · show Steps p.tables e below (s₁.setTop (mkF m 0 #[.val (.int k0), .unset, .unset, .unset, .unset, .unset] [])) t
    refine XS.iloadN X0.here hx rfl (hb hby at_0) rfl ?_
    show Steps p.tables e below (s₁.setTop (mkF m 1 #[.val (.int k0), .unset, .unset, .unset, .unset, .unset] [(.int k0)])) t
    refine XS.iconst X0.here hx rfl (hb hby at_1) ?_
    show Steps p.tables e below (s₁.setTop (mkF m 2 #[.val (.int k0), .unset, .unset, .unset, .unset, .unset] [(.int (1 : Int32)), (.int k0)])) t
    refine XS.iand X0.here hx rfl (hb hby at_2) rfl ?_
    show Steps p.tables e below (s₁.setTop (mkF m 3 #[.val (.int k0), .unset, .unset, .unset, .unset, .unset] [(.int (k0 &&& (1 : Int32)))])) t
    exact k
  by_cases hc1 : (k0 &&& (1 : Int32)) = (0 : Int32)
  · refine own_st (T' := s₁) (g' := (mkF m 15 #[.val (.int k0), .val (.int (0 : Int32)), .unset, .unset, .unset, .unset] [(.int (k0 &&& (2 : Int32)))])) (fun t k => ?_) ?_
    · show Steps p.tables e below (s₁.setTop (mkF m 3 #[.val (.int k0), .unset, .unset, .unset, .unset, .unset] [(.int (k0 &&& (1 : Int32)))])) t
      refine XS.ifYes X0.here hx rfl (pc0 := 3) (pc' := 10) rfl (hb hby at_3) rfl ((if0 _ _).trans (teq hc1).1) (by decide) (by decide) ?_
      show Steps p.tables e below (s₁.setTop (mkF m 10 #[.val (.int k0), .unset, .unset, .unset, .unset, .unset] [])) t
      refine XS.iconst X0.here hx rfl (hb hby at_10) ?_
      show Steps p.tables e below (s₁.setTop (mkF m 11 #[.val (.int k0), .unset, .unset, .unset, .unset, .unset] [(.int (0 : Int32))])) t
      refine XS.istoreN X0.here hx rfl (hb hby at_11) rfl (l' := #[.val (.int k0), .val (.int (0 : Int32)), .unset, .unset, .unset, .unset]) rfl ?_
      show Steps p.tables e below (s₁.setTop (mkF m 12 #[.val (.int k0), .val (.int (0 : Int32)), .unset, .unset, .unset, .unset] [])) t
      refine XS.iloadN X0.here hx rfl (hb hby at_12) rfl ?_
      show Steps p.tables e below (s₁.setTop (mkF m 13 #[.val (.int k0), .val (.int (0 : Int32)), .unset, .unset, .unset, .unset] [(.int k0)])) t
      refine XS.iconst X0.here hx rfl (hb hby at_13) ?_
      show Steps p.tables e below (s₁.setTop (mkF m 14 #[.val (.int k0), .val (.int (0 : Int32)), .unset, .unset, .unset, .unset] [(.int (2 : Int32)), (.int k0)])) t
      refine XS.iand X0.here hx rfl (hb hby at_14) rfl ?_
      show Steps p.tables e below (s₁.setTop (mkF m 15 #[.val (.int k0), .val (.int (0 : Int32)), .unset, .unset, .unset, .unset] [(.int (k0 &&& (2 : Int32)))])) t
      exact k
    by_cases hc2 : (k0 &&& (2 : Int32)) = (0 : Int32)
    · refine own_st (T' := s₁) (g' := (mkF m 36 #[.val (.int k0), .val (.int (0 : Int32)), .val (.int (0 : Int32)), .unset, .unset, .unset] [(.int (0 : Int32)), (.int (0 : Int32))])) (fun t k => ?_) ?_
      · show Steps p.tables e below (s₁.setTop (mkF m 15 #[.val (.int k0), .val (.int (0 : Int32)), .unset, .unset, .unset, .unset] [(.int (k0 &&& (2 : Int32)))])) t
        refine XS.ifYes X0.here hx rfl (pc0 := 15) (pc' := 22) rfl (hb hby at_15) rfl ((if0 _ _).trans (teq hc2).1) (by decide) (by decide) ?_
        show Steps p.tables e below (s₁.setTop (mkF m 22 #[.val (.int k0), .val (.int (0 : Int32)), .unset, .unset, .unset, .unset] [])) t
        refine XS.iconst X0.here hx rfl (hb hby at_22) ?_
        show Steps p.tables e below (s₁.setTop (mkF m 23 #[.val (.int k0), .val (.int (0 : Int32)), .unset, .unset, .unset, .unset] [(.int (0 : Int32))])) t
        refine XS.istoreN X0.here hx rfl (hb hby at_23) rfl (l' := #[.val (.int k0), .val (.int (0 : Int32)), .val (.int (0 : Int32)), .unset, .unset, .unset]) rfl ?_
        show Steps p.tables e below (s₁.setTop (mkF m 24 #[.val (.int k0), .val (.int (0 : Int32)), .val (.int (0 : Int32)), .unset, .unset, .unset] [])) t
        refine XS.iloadN X0.here hx rfl (hb hby at_24) rfl ?_
        show Steps p.tables e below (s₁.setTop (mkF m 25 #[.val (.int k0), .val (.int (0 : Int32)), .val (.int (0 : Int32)), .unset, .unset, .unset] [(.int (0 : Int32))])) t
        refine XS.ifNo X0.here hx rfl (hb hby at_25) rfl ((if0 _ _).trans (teq (rfl : (0 : Int32) = (0 : Int32))).2) ?_
        show Steps p.tables e below (s₁.setTop (mkF m 28 #[.val (.int k0), .val (.int (0 : Int32)), .val (.int (0 : Int32)), .unset, .unset, .unset] [])) t
        refine XS.iloadN X0.here hx rfl (hb hby at_28) rfl ?_
        show Steps p.tables e below (s₁.setTop (mkF m 29 #[.val (.int k0), .val (.int (0 : Int32)), .val (.int (0 : Int32)), .unset, .unset, .unset] [(.int (0 : Int32))])) t
        refine XS.ifYes X0.here hx rfl (pc0 := 29) (pc' := 34) rfl (hb hby at_29) rfl ((if0 _ _).trans (teq (rfl : (0 : Int32) = (0 : Int32))).1) (by decide) (by decide) ?_
        show Steps p.tables e below (s₁.setTop (mkF m 34 #[.val (.int k0), .val (.int (0 : Int32)), .val (.int (0 : Int32)), .unset, .unset, .unset] [])) t
        refine XS.iloadN X0.here hx rfl (hb hby at_34) rfl ?_
        show Steps p.tables e below (s₁.setTop (mkF m 35 #[.val (.int k0), .val (.int (0 : Int32)), .val (.int (0 : Int32)), .unset, .unset, .unset] [(.int (0 : Int32))])) t
        refine XS.iloadN X0.here hx rfl (hb hby at_35) rfl ?_
        show Steps p.tables e below (s₁.setTop (mkF m 36 #[.val (.int k0), .val (.int (0 : Int32)), .val (.int (0 : Int32)), .unset, .unset, .unset] [(.int (0 : Int32)), (.int (0 : Int32))])) t
        exact k
      obtain ⟨_, _, ⟨T3, L3, c3, n3⟩, -, X3, ⟨Lc3, hQ3, l3, y3, z3⟩, st3⟩ := Jvm.LawKit.callS X0 hx (y := (⟨"com/example/vested_roles/vestedroles/Revocation$Mode", "of", "(ZZ)Lcom/example/vested_roles/vestedroles/Revocation$Mode;"⟩ : MethodName)) hown (mvT hZ (hw _ (List.mem_of_getElem? (i := 0) rfl))) (mvT hZ (hw _ (List.mem_of_getElem? (i := 1) rfl))) (mvT hZ (hw _ (List.mem_of_getElem? (i := 2) rfl))) (mvT hZ (hw _ (List.mem_of_getElem? (i := 3) rfl))) (by decide) (backOf (W := 0) (own_rm1_00 l Z a0 hw [] aW aS aC h0 n0 Z0 S_WEAK S_STRONG S_STRONG_CONTINUING) hZ (hw _ (List.mem_of_getElem? (i := 3) rfl)) (hw _ (List.mem_of_getElem? (i := 2) rfl)) (by decide) (by decide)) (g := (mkF m 36 #[.val (.int k0), .val (.int (0 : Int32)), .val (.int (0 : Int32)), .unset, .unset, .unset] [(.int (0 : Int32)), (.int (0 : Int32))])) rfl (by rw [hml]; rfl) (argsL := [(.int (0 : Int32)), (.int (0 : Int32))]) (rest := []) (lenOf own_pd0 rfl) rfl (by show 2 * 0 + _ ≤ _; exact Nat.le_of_eq rfl) (hb hby at_36) (fun _ _ => ⟨rfl, e0, (by decide : 0 + 0 ≤ _), (by decide : 0 + 0 ≤ _)⟩)
      dsimp only [Pt.U, Pt.locs, Pt.cells, Pt.slots] at X3 l3 y3 z3 st3 hQ3
      subst l3 y3 z3
      obtain ⟨rfl, N3q, e3⟩ := hQ3
      have N3 := Fr.app N0 N3q
      refine own_st (T' := T3) (g' := (mkF m 39 #[.val (.int k0), .val (.int (0 : Int32)), .val (.int (0 : Int32)), .unset, .unset, .unset] [(.ref aW)])) st3 ?_
      refine own_st (T' := T3) (g' := (mkF m 47 #[.val (.int k0), .val (.int (0 : Int32)), .val (.int (0 : Int32)), .val (.ref aW), .unset, .unset] [(.ref aW)])) (fun t k => ?_) ?_
      · show Steps p.tables e below (T3.setTop (mkF m 39 #[.val (.int k0), .val (.int (0 : Int32)), .val (.int (0 : Int32)), .unset, .unset, .unset] [(.ref aW)])) t
        refine XS.astoreN X3.here hx rfl (hb hby at_39) rfl rfl (l' := #[.val (.int k0), .val (.int (0 : Int32)), .val (.int (0 : Int32)), .val (.ref aW), .unset, .unset]) rfl ?_
        show Steps p.tables e below (T3.setTop (mkF m 40 #[.val (.int k0), .val (.int (0 : Int32)), .val (.int (0 : Int32)), .val (.ref aW), .unset, .unset] [])) t
        refine XS.aloadN X3.here hx rfl (hb hby at_40) rfl rfl ?_
        show Steps p.tables e below (T3.setTop (mkF m 41 #[.val (.int k0), .val (.int (0 : Int32)), .val (.int (0 : Int32)), .val (.ref aW), .unset, .unset] [(.ref aW)])) t
        refine XS.ifnonnullYes X3.here hx rfl (pc0 := 41) (pc' := 46) rfl (hb hby at_41) rfl (by decide) (by decide) ?_
        show Steps p.tables e below (T3.setTop (mkF m 46 #[.val (.int k0), .val (.int (0 : Int32)), .val (.int (0 : Int32)), .val (.ref aW), .unset, .unset] [])) t
        refine XS.aloadN X3.here hx rfl (hb hby at_46) rfl rfl ?_
        show Steps p.tables e below (T3.setTop (mkF m 47 #[.val (.int k0), .val (.int (0 : Int32)), .val (.int (0 : Int32)), .val (.ref aW), .unset, .unset] [(.ref aW)])) t
        exact k
      obtain ⟨T4, X4, e4, st4⟩ := getS2 X3 hx hZ hown (host := "") (Or.inl (hw _ (List.mem_of_getElem? (i := 6) rfl))) Via.refl e3 S_WEAK (g := (mkF m 47 #[.val (.int k0), .val (.int (0 : Int32)), .val (.int (0 : Int32)), .val (.ref aW), .unset, .unset] [(.ref aW)])) rfl (hb hby at_47)
      refine own_st (T' := T4) (g' := (mkF m 50 #[.val (.int k0), .val (.int (0 : Int32)), .val (.int (0 : Int32)), .val (.ref aW), .unset, .unset] [(.ref aW), (.ref aW)])) st4 ?_
      refine own_st (T' := T4) (g' := (mkF m 61 #[.val (.int k0), .val (.int (0 : Int32)), .val (.int (0 : Int32)), .val (.ref aW), .val (.int (1 : Int32)), .unset] [(.ref aW)])) (fun t k => ?_) ?_
      · show Steps p.tables e below (T4.setTop (mkF m 50 #[.val (.int k0), .val (.int (0 : Int32)), .val (.int (0 : Int32)), .val (.ref aW), .unset, .unset] [(.ref aW), (.ref aW)])) t
        refine Jvm.RoadKit.acmp (g := (mkF m 50 #[.val (.int k0), .val (.int (0 : Int32)), .val (.int (0 : Int32)), .val (.ref aW), .unset, .unset] [(.ref aW), (.ref aW)])) X4 hx rfl rfl rfl (pc0 := 50) (pc' := 53) (same := true) rfl (hb hby at_50) rfl (decide_eq_true (congrArg Value.ref (rfl : aW = aW))) (by decide) (by decide) ?_
        show Steps p.tables e below (T4.setTop (mkF m 53 #[.val (.int k0), .val (.int (0 : Int32)), .val (.int (0 : Int32)), .val (.ref aW), .unset, .unset] [])) t
        refine XS.iconst X4.here hx rfl (hb hby at_53) ?_
        show Steps p.tables e below (T4.setTop (mkF m 54 #[.val (.int k0), .val (.int (0 : Int32)), .val (.int (0 : Int32)), .val (.ref aW), .unset, .unset] [(.int (1 : Int32))])) t
        refine XS.goto X4.here hx rfl (pc0 := 54) (pc' := 58) rfl (hb hby at_54) (by decide) (by decide) ?_
        show Steps p.tables e below (T4.setTop (mkF m 58 #[.val (.int k0), .val (.int (0 : Int32)), .val (.int (0 : Int32)), .val (.ref aW), .unset, .unset] [(.int (1 : Int32))])) t
        refine XS.istore X4.here hx rfl (hb hby at_58) rfl (l' := #[.val (.int k0), .val (.int (0 : Int32)), .val (.int (0 : Int32)), .val (.ref aW), .val (.int (1 : Int32)), .unset]) rfl ?_
        show Steps p.tables e below (T4.setTop (mkF m 60 #[.val (.int k0), .val (.int (0 : Int32)), .val (.int (0 : Int32)), .val (.ref aW), .val (.int (1 : Int32)), .unset] [])) t
        refine XS.aloadN X4.here hx rfl (hb hby at_60) rfl rfl ?_
        show Steps p.tables e below (T4.setTop (mkF m 61 #[.val (.int k0), .val (.int (0 : Int32)), .val (.int (0 : Int32)), .val (.ref aW), .val (.int (1 : Int32)), .unset] [(.ref aW)])) t
        exact k
      obtain ⟨T5, X5, e5, st5⟩ := getS2 X4 hx hZ hown (host := "") (Or.inl (hw _ (List.mem_of_getElem? (i := 7) rfl))) Via.refl e4 S_STRONG_CONTINUING (g := (mkF m 61 #[.val (.int k0), .val (.int (0 : Int32)), .val (.int (0 : Int32)), .val (.ref aW), .val (.int (1 : Int32)), .unset] [(.ref aW)])) rfl (hb hby at_61)
      refine own_st (T' := T5) (g' := (mkF m 64 #[.val (.int k0), .val (.int (0 : Int32)), .val (.int (0 : Int32)), .val (.ref aW), .val (.int (1 : Int32)), .unset] [(.ref aC), (.ref aW)])) st5 ?_
      refine own_st (T' := T5) (g' := (mkF m 99 #[.val (.int k0), .val (.int (0 : Int32)), .val (.int (0 : Int32)), .val (.ref aW), .val (.int (1 : Int32)), .val (.int (0 : Int32))] [(.int (1 : Int32))])) (fun t k => ?_) ?_
      · show Steps p.tables e below (T5.setTop (mkF m 64 #[.val (.int k0), .val (.int (0 : Int32)), .val (.int (0 : Int32)), .val (.ref aW), .val (.int (1 : Int32)), .unset] [(.ref aC), (.ref aW)])) t
        refine Jvm.RoadKit.acmp (g := (mkF m 64 #[.val (.int k0), .val (.int (0 : Int32)), .val (.int (0 : Int32)), .val (.ref aW), .val (.int (1 : Int32)), .unset] [(.ref aC), (.ref aW)])) X5 hx rfl rfl rfl (pc0 := 64) (pc' := 71) (same := false) rfl (hb hby at_64) rfl (decide_eq_false fun q => naWaC (Value.ref.inj q)) (by decide) (by decide) ?_
        show Steps p.tables e below (T5.setTop (mkF m 71 #[.val (.int k0), .val (.int (0 : Int32)), .val (.int (0 : Int32)), .val (.ref aW), .val (.int (1 : Int32)), .unset] [])) t
        refine XS.iconst X5.here hx rfl (hb hby at_71) ?_
        show Steps p.tables e below (T5.setTop (mkF m 72 #[.val (.int k0), .val (.int (0 : Int32)), .val (.int (0 : Int32)), .val (.ref aW), .val (.int (1 : Int32)), .unset] [(.int (0 : Int32))])) t
        refine XS.istore X5.here hx rfl (hb hby at_72) rfl (l' := #[.val (.int k0), .val (.int (0 : Int32)), .val (.int (0 : Int32)), .val (.ref aW), .val (.int (1 : Int32)), .val (.int (0 : Int32))]) rfl ?_
        show Steps p.tables e below (T5.setTop (mkF m 74 #[.val (.int k0), .val (.int (0 : Int32)), .val (.int (0 : Int32)), .val (.ref aW), .val (.int (1 : Int32)), .val (.int (0 : Int32))] [])) t
        refine XS.iload X5.here hx rfl (hb hby at_74) rfl ?_
        show Steps p.tables e below (T5.setTop (mkF m 76 #[.val (.int k0), .val (.int (0 : Int32)), .val (.int (0 : Int32)), .val (.ref aW), .val (.int (1 : Int32)), .val (.int (0 : Int32))] [(.int (1 : Int32))])) t
        refine XS.iloadN X5.here hx rfl (hb hby at_76) rfl ?_
        show Steps p.tables e below (T5.setTop (mkF m 77 #[.val (.int k0), .val (.int (0 : Int32)), .val (.int (0 : Int32)), .val (.ref aW), .val (.int (1 : Int32)), .val (.int (0 : Int32))] [(.int (0 : Int32)), (.int (1 : Int32))])) t
        refine XS.ifNo X5.here hx rfl (hb hby at_77) rfl ((if0 _ _).trans (teq (rfl : (0 : Int32) = (0 : Int32))).2) ?_
        show Steps p.tables e below (T5.setTop (mkF m 80 #[.val (.int k0), .val (.int (0 : Int32)), .val (.int (0 : Int32)), .val (.ref aW), .val (.int (1 : Int32)), .val (.int (0 : Int32))] [(.int (1 : Int32))])) t
        refine XS.iconst X5.here hx rfl (hb hby at_80) ?_
        show Steps p.tables e below (T5.setTop (mkF m 81 #[.val (.int k0), .val (.int (0 : Int32)), .val (.int (0 : Int32)), .val (.ref aW), .val (.int (1 : Int32)), .val (.int (0 : Int32))] [(.int (1 : Int32)), (.int (1 : Int32))])) t
        refine XS.goto X5.here hx rfl (pc0 := 81) (pc' := 85) rfl (hb hby at_81) (by decide) (by decide) ?_
        show Steps p.tables e below (T5.setTop (mkF m 85 #[.val (.int k0), .val (.int (0 : Int32)), .val (.int (0 : Int32)), .val (.ref aW), .val (.int (1 : Int32)), .val (.int (0 : Int32))] [(.int (1 : Int32)), (.int (1 : Int32))])) t
        refine XS.icmpNo X5.here hx rfl (hb hby at_85) rfl (teq (rfl : (1 : Int32) = (1 : Int32))).2 ?_
        show Steps p.tables e below (T5.setTop (mkF m 88 #[.val (.int k0), .val (.int (0 : Int32)), .val (.int (0 : Int32)), .val (.ref aW), .val (.int (1 : Int32)), .val (.int (0 : Int32))] [])) t
        refine XS.iload X5.here hx rfl (hb hby at_88) rfl ?_
        show Steps p.tables e below (T5.setTop (mkF m 90 #[.val (.int k0), .val (.int (0 : Int32)), .val (.int (0 : Int32)), .val (.ref aW), .val (.int (1 : Int32)), .val (.int (0 : Int32))] [(.int (0 : Int32))])) t
        refine XS.iloadN X5.here hx rfl (hb hby at_90) rfl ?_
        show Steps p.tables e below (T5.setTop (mkF m 91 #[.val (.int k0), .val (.int (0 : Int32)), .val (.int (0 : Int32)), .val (.ref aW), .val (.int (1 : Int32)), .val (.int (0 : Int32))] [(.int (0 : Int32)), (.int (0 : Int32))])) t
        refine XS.icmpNo X5.here hx rfl (hb hby at_91) rfl (teq (rfl : (0 : Int32) = (0 : Int32))).2 ?_
        show Steps p.tables e below (T5.setTop (mkF m 94 #[.val (.int k0), .val (.int (0 : Int32)), .val (.int (0 : Int32)), .val (.ref aW), .val (.int (1 : Int32)), .val (.int (0 : Int32))] [])) t
        refine XS.iconst X5.here hx rfl (hb hby at_94) ?_
        show Steps p.tables e below (T5.setTop (mkF m 95 #[.val (.int k0), .val (.int (0 : Int32)), .val (.int (0 : Int32)), .val (.ref aW), .val (.int (1 : Int32)), .val (.int (0 : Int32))] [(.int (1 : Int32))])) t
        refine XS.goto X5.here hx rfl (pc0 := 95) (pc' := 99) rfl (hb hby at_95) (by decide) (by decide) ?_
        show Steps p.tables e below (T5.setTop (mkF m 99 #[.val (.int k0), .val (.int (0 : Int32)), .val (.int (0 : Int32)), .val (.ref aW), .val (.int (1 : Int32)), .val (.int (0 : Int32))] [(.int (1 : Int32))])) t
        exact k
      exact own_retN X5 hx Bd (t := .boolean) (by simp) rfl (hb hby at_99) e5 (⟨rfl, N3⟩) (by decide) (by decide)
    · refine own_st (T' := s₁) (g' := (mkF m 33 #[.val (.int k0), .val (.int (0 : Int32)), .val (.int (1 : Int32)), .unset, .unset, .unset] [(.int (1 : Int32))])) (fun t k => ?_) ?_
      · show Steps p.tables e below (s₁.setTop (mkF m 15 #[.val (.int k0), .val (.int (0 : Int32)), .unset, .unset, .unset, .unset] [(.int (k0 &&& (2 : Int32)))])) t
        refine XS.ifNo X0.here hx rfl (hb hby at_15) rfl ((if0 _ _).trans (feq hc2).1) ?_
        show Steps p.tables e below (s₁.setTop (mkF m 18 #[.val (.int k0), .val (.int (0 : Int32)), .unset, .unset, .unset, .unset] [])) t
        refine XS.iconst X0.here hx rfl (hb hby at_18) ?_
        show Steps p.tables e below (s₁.setTop (mkF m 19 #[.val (.int k0), .val (.int (0 : Int32)), .unset, .unset, .unset, .unset] [(.int (1 : Int32))])) t
        refine XS.goto X0.here hx rfl (pc0 := 19) (pc' := 23) rfl (hb hby at_19) (by decide) (by decide) ?_
        show Steps p.tables e below (s₁.setTop (mkF m 23 #[.val (.int k0), .val (.int (0 : Int32)), .unset, .unset, .unset, .unset] [(.int (1 : Int32))])) t
        refine XS.istoreN X0.here hx rfl (hb hby at_23) rfl (l' := #[.val (.int k0), .val (.int (0 : Int32)), .val (.int (1 : Int32)), .unset, .unset, .unset]) rfl ?_
        show Steps p.tables e below (s₁.setTop (mkF m 24 #[.val (.int k0), .val (.int (0 : Int32)), .val (.int (1 : Int32)), .unset, .unset, .unset] [])) t
        refine XS.iloadN X0.here hx rfl (hb hby at_24) rfl ?_
        show Steps p.tables e below (s₁.setTop (mkF m 25 #[.val (.int k0), .val (.int (0 : Int32)), .val (.int (1 : Int32)), .unset, .unset, .unset] [(.int (0 : Int32))])) t
        refine XS.ifNo X0.here hx rfl (hb hby at_25) rfl ((if0 _ _).trans (teq (rfl : (0 : Int32) = (0 : Int32))).2) ?_
        show Steps p.tables e below (s₁.setTop (mkF m 28 #[.val (.int k0), .val (.int (0 : Int32)), .val (.int (1 : Int32)), .unset, .unset, .unset] [])) t
        refine XS.iloadN X0.here hx rfl (hb hby at_28) rfl ?_
        show Steps p.tables e below (s₁.setTop (mkF m 29 #[.val (.int k0), .val (.int (0 : Int32)), .val (.int (1 : Int32)), .unset, .unset, .unset] [(.int (1 : Int32))])) t
        refine XS.ifNo X0.here hx rfl (hb hby at_29) rfl ((if0 _ _).trans (feq (by decide : ¬ ((1 : Int32) = (0 : Int32)))).1) ?_
        show Steps p.tables e below (s₁.setTop (mkF m 32 #[.val (.int k0), .val (.int (0 : Int32)), .val (.int (1 : Int32)), .unset, .unset, .unset] [])) t
        refine XS.iconst X0.here hx rfl (hb hby at_32) ?_
        show Steps p.tables e below (s₁.setTop (mkF m 33 #[.val (.int k0), .val (.int (0 : Int32)), .val (.int (1 : Int32)), .unset, .unset, .unset] [(.int (1 : Int32))])) t
        exact k
      exact own_retN X0 hx Bd (t := .boolean) (by simp) rfl (hb hby at_33) e0 (⟨rfl, N0⟩) (by decide) (by decide)
  · refine own_st (T' := s₁) (g' := (mkF m 15 #[.val (.int k0), .val (.int (1 : Int32)), .unset, .unset, .unset, .unset] [(.int (k0 &&& (2 : Int32)))])) (fun t k => ?_) ?_
    · show Steps p.tables e below (s₁.setTop (mkF m 3 #[.val (.int k0), .unset, .unset, .unset, .unset, .unset] [(.int (k0 &&& (1 : Int32)))])) t
      refine XS.ifNo X0.here hx rfl (hb hby at_3) rfl ((if0 _ _).trans (feq hc1).1) ?_
      show Steps p.tables e below (s₁.setTop (mkF m 6 #[.val (.int k0), .unset, .unset, .unset, .unset, .unset] [])) t
      refine XS.iconst X0.here hx rfl (hb hby at_6) ?_
      show Steps p.tables e below (s₁.setTop (mkF m 7 #[.val (.int k0), .unset, .unset, .unset, .unset, .unset] [(.int (1 : Int32))])) t
      refine XS.goto X0.here hx rfl (pc0 := 7) (pc' := 11) rfl (hb hby at_7) (by decide) (by decide) ?_
      show Steps p.tables e below (s₁.setTop (mkF m 11 #[.val (.int k0), .unset, .unset, .unset, .unset, .unset] [(.int (1 : Int32))])) t
      refine XS.istoreN X0.here hx rfl (hb hby at_11) rfl (l' := #[.val (.int k0), .val (.int (1 : Int32)), .unset, .unset, .unset, .unset]) rfl ?_
      show Steps p.tables e below (s₁.setTop (mkF m 12 #[.val (.int k0), .val (.int (1 : Int32)), .unset, .unset, .unset, .unset] [])) t
      refine XS.iloadN X0.here hx rfl (hb hby at_12) rfl ?_
      show Steps p.tables e below (s₁.setTop (mkF m 13 #[.val (.int k0), .val (.int (1 : Int32)), .unset, .unset, .unset, .unset] [(.int k0)])) t
      refine XS.iconst X0.here hx rfl (hb hby at_13) ?_
      show Steps p.tables e below (s₁.setTop (mkF m 14 #[.val (.int k0), .val (.int (1 : Int32)), .unset, .unset, .unset, .unset] [(.int (2 : Int32)), (.int k0)])) t
      refine XS.iand X0.here hx rfl (hb hby at_14) rfl ?_
      show Steps p.tables e below (s₁.setTop (mkF m 15 #[.val (.int k0), .val (.int (1 : Int32)), .unset, .unset, .unset, .unset] [(.int (k0 &&& (2 : Int32)))])) t
      exact k
    by_cases hc6 : (k0 &&& (2 : Int32)) = (0 : Int32)
    · refine own_st (T' := s₁) (g' := (mkF m 36 #[.val (.int k0), .val (.int (1 : Int32)), .val (.int (0 : Int32)), .unset, .unset, .unset] [(.int (0 : Int32)), (.int (1 : Int32))])) (fun t k => ?_) ?_
      · show Steps p.tables e below (s₁.setTop (mkF m 15 #[.val (.int k0), .val (.int (1 : Int32)), .unset, .unset, .unset, .unset] [(.int (k0 &&& (2 : Int32)))])) t
        refine XS.ifYes X0.here hx rfl (pc0 := 15) (pc' := 22) rfl (hb hby at_15) rfl ((if0 _ _).trans (teq hc6).1) (by decide) (by decide) ?_
        show Steps p.tables e below (s₁.setTop (mkF m 22 #[.val (.int k0), .val (.int (1 : Int32)), .unset, .unset, .unset, .unset] [])) t
        refine XS.iconst X0.here hx rfl (hb hby at_22) ?_
        show Steps p.tables e below (s₁.setTop (mkF m 23 #[.val (.int k0), .val (.int (1 : Int32)), .unset, .unset, .unset, .unset] [(.int (0 : Int32))])) t
        refine XS.istoreN X0.here hx rfl (hb hby at_23) rfl (l' := #[.val (.int k0), .val (.int (1 : Int32)), .val (.int (0 : Int32)), .unset, .unset, .unset]) rfl ?_
        show Steps p.tables e below (s₁.setTop (mkF m 24 #[.val (.int k0), .val (.int (1 : Int32)), .val (.int (0 : Int32)), .unset, .unset, .unset] [])) t
        refine XS.iloadN X0.here hx rfl (hb hby at_24) rfl ?_
        show Steps p.tables e below (s₁.setTop (mkF m 25 #[.val (.int k0), .val (.int (1 : Int32)), .val (.int (0 : Int32)), .unset, .unset, .unset] [(.int (1 : Int32))])) t
        refine XS.ifYes X0.here hx rfl (pc0 := 25) (pc' := 34) rfl (hb hby at_25) rfl ((if0 _ _).trans (feq (by decide : ¬ ((1 : Int32) = (0 : Int32)))).2) (by decide) (by decide) ?_
        show Steps p.tables e below (s₁.setTop (mkF m 34 #[.val (.int k0), .val (.int (1 : Int32)), .val (.int (0 : Int32)), .unset, .unset, .unset] [])) t
        refine XS.iloadN X0.here hx rfl (hb hby at_34) rfl ?_
        show Steps p.tables e below (s₁.setTop (mkF m 35 #[.val (.int k0), .val (.int (1 : Int32)), .val (.int (0 : Int32)), .unset, .unset, .unset] [(.int (1 : Int32))])) t
        refine XS.iloadN X0.here hx rfl (hb hby at_35) rfl ?_
        show Steps p.tables e below (s₁.setTop (mkF m 36 #[.val (.int k0), .val (.int (1 : Int32)), .val (.int (0 : Int32)), .unset, .unset, .unset] [(.int (0 : Int32)), (.int (1 : Int32))])) t
        exact k
      obtain ⟨_, _, ⟨T7, L7, c7, n7⟩, -, X7, ⟨Lc7, hQ7, l7, y7, z7⟩, st7⟩ := Jvm.LawKit.callS X0 hx (y := (⟨"com/example/vested_roles/vestedroles/Revocation$Mode", "of", "(ZZ)Lcom/example/vested_roles/vestedroles/Revocation$Mode;"⟩ : MethodName)) hown (mvT hZ (hw _ (List.mem_of_getElem? (i := 0) rfl))) (mvT hZ (hw _ (List.mem_of_getElem? (i := 1) rfl))) (mvT hZ (hw _ (List.mem_of_getElem? (i := 2) rfl))) (mvT hZ (hw _ (List.mem_of_getElem? (i := 3) rfl))) (by decide) (backOf (W := 0) (own_rm1_10 l Z a0 hw [] aW aS aC h0 n0 Z0 S_WEAK S_STRONG S_STRONG_CONTINUING) hZ (hw _ (List.mem_of_getElem? (i := 3) rfl)) (hw _ (List.mem_of_getElem? (i := 2) rfl)) (by decide) (by decide)) (g := (mkF m 36 #[.val (.int k0), .val (.int (1 : Int32)), .val (.int (0 : Int32)), .unset, .unset, .unset] [(.int (0 : Int32)), (.int (1 : Int32))])) rfl (by rw [hml]; rfl) (argsL := [(.int (1 : Int32)), (.int (0 : Int32))]) (rest := []) (lenOf own_pd0 rfl) rfl (by show 2 * 0 + _ ≤ _; exact Nat.le_of_eq rfl) (hb hby at_36) (fun _ _ => ⟨rfl, e0, (by decide : 0 + 0 ≤ _), (by decide : 0 + 0 ≤ _)⟩)
      dsimp only [Pt.U, Pt.locs, Pt.cells, Pt.slots] at X7 l7 y7 z7 st7 hQ7
      subst l7 y7 z7
      obtain ⟨rfl, N7q, e7⟩ := hQ7
      have N7 := Fr.app N0 N7q
      refine own_st (T' := T7) (g' := (mkF m 39 #[.val (.int k0), .val (.int (1 : Int32)), .val (.int (0 : Int32)), .unset, .unset, .unset] [(.ref aS)])) st7 ?_
      refine own_st (T' := T7) (g' := (mkF m 47 #[.val (.int k0), .val (.int (1 : Int32)), .val (.int (0 : Int32)), .val (.ref aS), .unset, .unset] [(.ref aS)])) (fun t k => ?_) ?_
      · show Steps p.tables e below (T7.setTop (mkF m 39 #[.val (.int k0), .val (.int (1 : Int32)), .val (.int (0 : Int32)), .unset, .unset, .unset] [(.ref aS)])) t
        refine XS.astoreN X7.here hx rfl (hb hby at_39) rfl rfl (l' := #[.val (.int k0), .val (.int (1 : Int32)), .val (.int (0 : Int32)), .val (.ref aS), .unset, .unset]) rfl ?_
        show Steps p.tables e below (T7.setTop (mkF m 40 #[.val (.int k0), .val (.int (1 : Int32)), .val (.int (0 : Int32)), .val (.ref aS), .unset, .unset] [])) t
        refine XS.aloadN X7.here hx rfl (hb hby at_40) rfl rfl ?_
        show Steps p.tables e below (T7.setTop (mkF m 41 #[.val (.int k0), .val (.int (1 : Int32)), .val (.int (0 : Int32)), .val (.ref aS), .unset, .unset] [(.ref aS)])) t
        refine XS.ifnonnullYes X7.here hx rfl (pc0 := 41) (pc' := 46) rfl (hb hby at_41) rfl (by decide) (by decide) ?_
        show Steps p.tables e below (T7.setTop (mkF m 46 #[.val (.int k0), .val (.int (1 : Int32)), .val (.int (0 : Int32)), .val (.ref aS), .unset, .unset] [])) t
        refine XS.aloadN X7.here hx rfl (hb hby at_46) rfl rfl ?_
        show Steps p.tables e below (T7.setTop (mkF m 47 #[.val (.int k0), .val (.int (1 : Int32)), .val (.int (0 : Int32)), .val (.ref aS), .unset, .unset] [(.ref aS)])) t
        exact k
      obtain ⟨T8, X8, e8, st8⟩ := getS2 X7 hx hZ hown (host := "") (Or.inl (hw _ (List.mem_of_getElem? (i := 6) rfl))) Via.refl e7 S_WEAK (g := (mkF m 47 #[.val (.int k0), .val (.int (1 : Int32)), .val (.int (0 : Int32)), .val (.ref aS), .unset, .unset] [(.ref aS)])) rfl (hb hby at_47)
      refine own_st (T' := T8) (g' := (mkF m 50 #[.val (.int k0), .val (.int (1 : Int32)), .val (.int (0 : Int32)), .val (.ref aS), .unset, .unset] [(.ref aW), (.ref aS)])) st8 ?_
      refine own_st (T' := T8) (g' := (mkF m 61 #[.val (.int k0), .val (.int (1 : Int32)), .val (.int (0 : Int32)), .val (.ref aS), .val (.int (0 : Int32)), .unset] [(.ref aS)])) (fun t k => ?_) ?_
      · show Steps p.tables e below (T8.setTop (mkF m 50 #[.val (.int k0), .val (.int (1 : Int32)), .val (.int (0 : Int32)), .val (.ref aS), .unset, .unset] [(.ref aW), (.ref aS)])) t
        refine Jvm.RoadKit.acmp (g := (mkF m 50 #[.val (.int k0), .val (.int (1 : Int32)), .val (.int (0 : Int32)), .val (.ref aS), .unset, .unset] [(.ref aW), (.ref aS)])) X8 hx rfl rfl rfl (pc0 := 50) (pc' := 57) (same := false) rfl (hb hby at_50) rfl (decide_eq_false fun q => naSaW (Value.ref.inj q)) (by decide) (by decide) ?_
        show Steps p.tables e below (T8.setTop (mkF m 57 #[.val (.int k0), .val (.int (1 : Int32)), .val (.int (0 : Int32)), .val (.ref aS), .unset, .unset] [])) t
        refine XS.iconst X8.here hx rfl (hb hby at_57) ?_
        show Steps p.tables e below (T8.setTop (mkF m 58 #[.val (.int k0), .val (.int (1 : Int32)), .val (.int (0 : Int32)), .val (.ref aS), .unset, .unset] [(.int (0 : Int32))])) t
        refine XS.istore X8.here hx rfl (hb hby at_58) rfl (l' := #[.val (.int k0), .val (.int (1 : Int32)), .val (.int (0 : Int32)), .val (.ref aS), .val (.int (0 : Int32)), .unset]) rfl ?_
        show Steps p.tables e below (T8.setTop (mkF m 60 #[.val (.int k0), .val (.int (1 : Int32)), .val (.int (0 : Int32)), .val (.ref aS), .val (.int (0 : Int32)), .unset] [])) t
        refine XS.aloadN X8.here hx rfl (hb hby at_60) rfl rfl ?_
        show Steps p.tables e below (T8.setTop (mkF m 61 #[.val (.int k0), .val (.int (1 : Int32)), .val (.int (0 : Int32)), .val (.ref aS), .val (.int (0 : Int32)), .unset] [(.ref aS)])) t
        exact k
      obtain ⟨T9, X9, e9, st9⟩ := getS2 X8 hx hZ hown (host := "") (Or.inl (hw _ (List.mem_of_getElem? (i := 7) rfl))) Via.refl e8 S_STRONG_CONTINUING (g := (mkF m 61 #[.val (.int k0), .val (.int (1 : Int32)), .val (.int (0 : Int32)), .val (.ref aS), .val (.int (0 : Int32)), .unset] [(.ref aS)])) rfl (hb hby at_61)
      refine own_st (T' := T9) (g' := (mkF m 64 #[.val (.int k0), .val (.int (1 : Int32)), .val (.int (0 : Int32)), .val (.ref aS), .val (.int (0 : Int32)), .unset] [(.ref aC), (.ref aS)])) st9 ?_
      refine own_st (T' := T9) (g' := (mkF m 99 #[.val (.int k0), .val (.int (1 : Int32)), .val (.int (0 : Int32)), .val (.ref aS), .val (.int (0 : Int32)), .val (.int (0 : Int32))] [(.int (1 : Int32))])) (fun t k => ?_) ?_
      · show Steps p.tables e below (T9.setTop (mkF m 64 #[.val (.int k0), .val (.int (1 : Int32)), .val (.int (0 : Int32)), .val (.ref aS), .val (.int (0 : Int32)), .unset] [(.ref aC), (.ref aS)])) t
        refine Jvm.RoadKit.acmp (g := (mkF m 64 #[.val (.int k0), .val (.int (1 : Int32)), .val (.int (0 : Int32)), .val (.ref aS), .val (.int (0 : Int32)), .unset] [(.ref aC), (.ref aS)])) X9 hx rfl rfl rfl (pc0 := 64) (pc' := 71) (same := false) rfl (hb hby at_64) rfl (decide_eq_false fun q => naSaC (Value.ref.inj q)) (by decide) (by decide) ?_
        show Steps p.tables e below (T9.setTop (mkF m 71 #[.val (.int k0), .val (.int (1 : Int32)), .val (.int (0 : Int32)), .val (.ref aS), .val (.int (0 : Int32)), .unset] [])) t
        refine XS.iconst X9.here hx rfl (hb hby at_71) ?_
        show Steps p.tables e below (T9.setTop (mkF m 72 #[.val (.int k0), .val (.int (1 : Int32)), .val (.int (0 : Int32)), .val (.ref aS), .val (.int (0 : Int32)), .unset] [(.int (0 : Int32))])) t
        refine XS.istore X9.here hx rfl (hb hby at_72) rfl (l' := #[.val (.int k0), .val (.int (1 : Int32)), .val (.int (0 : Int32)), .val (.ref aS), .val (.int (0 : Int32)), .val (.int (0 : Int32))]) rfl ?_
        show Steps p.tables e below (T9.setTop (mkF m 74 #[.val (.int k0), .val (.int (1 : Int32)), .val (.int (0 : Int32)), .val (.ref aS), .val (.int (0 : Int32)), .val (.int (0 : Int32))] [])) t
        refine XS.iload X9.here hx rfl (hb hby at_74) rfl ?_
        show Steps p.tables e below (T9.setTop (mkF m 76 #[.val (.int k0), .val (.int (1 : Int32)), .val (.int (0 : Int32)), .val (.ref aS), .val (.int (0 : Int32)), .val (.int (0 : Int32))] [(.int (0 : Int32))])) t
        refine XS.iloadN X9.here hx rfl (hb hby at_76) rfl ?_
        show Steps p.tables e below (T9.setTop (mkF m 77 #[.val (.int k0), .val (.int (1 : Int32)), .val (.int (0 : Int32)), .val (.ref aS), .val (.int (0 : Int32)), .val (.int (0 : Int32))] [(.int (1 : Int32)), (.int (0 : Int32))])) t
        refine XS.ifYes X9.here hx rfl (pc0 := 77) (pc' := 84) rfl (hb hby at_77) rfl ((if0 _ _).trans (feq (by decide : ¬ ((1 : Int32) = (0 : Int32)))).2) (by decide) (by decide) ?_
        show Steps p.tables e below (T9.setTop (mkF m 84 #[.val (.int k0), .val (.int (1 : Int32)), .val (.int (0 : Int32)), .val (.ref aS), .val (.int (0 : Int32)), .val (.int (0 : Int32))] [(.int (0 : Int32))])) t
        refine XS.iconst X9.here hx rfl (hb hby at_84) ?_
        show Steps p.tables e below (T9.setTop (mkF m 85 #[.val (.int k0), .val (.int (1 : Int32)), .val (.int (0 : Int32)), .val (.ref aS), .val (.int (0 : Int32)), .val (.int (0 : Int32))] [(.int (0 : Int32)), (.int (0 : Int32))])) t
        refine XS.icmpNo X9.here hx rfl (hb hby at_85) rfl (teq (rfl : (0 : Int32) = (0 : Int32))).2 ?_
        show Steps p.tables e below (T9.setTop (mkF m 88 #[.val (.int k0), .val (.int (1 : Int32)), .val (.int (0 : Int32)), .val (.ref aS), .val (.int (0 : Int32)), .val (.int (0 : Int32))] [])) t
        refine XS.iload X9.here hx rfl (hb hby at_88) rfl ?_
        show Steps p.tables e below (T9.setTop (mkF m 90 #[.val (.int k0), .val (.int (1 : Int32)), .val (.int (0 : Int32)), .val (.ref aS), .val (.int (0 : Int32)), .val (.int (0 : Int32))] [(.int (0 : Int32))])) t
        refine XS.iloadN X9.here hx rfl (hb hby at_90) rfl ?_
        show Steps p.tables e below (T9.setTop (mkF m 91 #[.val (.int k0), .val (.int (1 : Int32)), .val (.int (0 : Int32)), .val (.ref aS), .val (.int (0 : Int32)), .val (.int (0 : Int32))] [(.int (0 : Int32)), (.int (0 : Int32))])) t
        refine XS.icmpNo X9.here hx rfl (hb hby at_91) rfl (teq (rfl : (0 : Int32) = (0 : Int32))).2 ?_
        show Steps p.tables e below (T9.setTop (mkF m 94 #[.val (.int k0), .val (.int (1 : Int32)), .val (.int (0 : Int32)), .val (.ref aS), .val (.int (0 : Int32)), .val (.int (0 : Int32))] [])) t
        refine XS.iconst X9.here hx rfl (hb hby at_94) ?_
        show Steps p.tables e below (T9.setTop (mkF m 95 #[.val (.int k0), .val (.int (1 : Int32)), .val (.int (0 : Int32)), .val (.ref aS), .val (.int (0 : Int32)), .val (.int (0 : Int32))] [(.int (1 : Int32))])) t
        refine XS.goto X9.here hx rfl (pc0 := 95) (pc' := 99) rfl (hb hby at_95) (by decide) (by decide) ?_
        show Steps p.tables e below (T9.setTop (mkF m 99 #[.val (.int k0), .val (.int (1 : Int32)), .val (.int (0 : Int32)), .val (.ref aS), .val (.int (0 : Int32)), .val (.int (0 : Int32))] [(.int (1 : Int32))])) t
        exact k
      exact own_retN X9 hx Bd (t := .boolean) (by simp) rfl (hb hby at_99) e9 (⟨rfl, N7⟩) (by decide) (by decide)
    · refine own_st (T' := s₁) (g' := (mkF m 36 #[.val (.int k0), .val (.int (1 : Int32)), .val (.int (1 : Int32)), .unset, .unset, .unset] [(.int (1 : Int32)), (.int (1 : Int32))])) (fun t k => ?_) ?_
      · show Steps p.tables e below (s₁.setTop (mkF m 15 #[.val (.int k0), .val (.int (1 : Int32)), .unset, .unset, .unset, .unset] [(.int (k0 &&& (2 : Int32)))])) t
        refine XS.ifNo X0.here hx rfl (hb hby at_15) rfl ((if0 _ _).trans (feq hc6).1) ?_
        show Steps p.tables e below (s₁.setTop (mkF m 18 #[.val (.int k0), .val (.int (1 : Int32)), .unset, .unset, .unset, .unset] [])) t
        refine XS.iconst X0.here hx rfl (hb hby at_18) ?_
        show Steps p.tables e below (s₁.setTop (mkF m 19 #[.val (.int k0), .val (.int (1 : Int32)), .unset, .unset, .unset, .unset] [(.int (1 : Int32))])) t
        refine XS.goto X0.here hx rfl (pc0 := 19) (pc' := 23) rfl (hb hby at_19) (by decide) (by decide) ?_
        show Steps p.tables e below (s₁.setTop (mkF m 23 #[.val (.int k0), .val (.int (1 : Int32)), .unset, .unset, .unset, .unset] [(.int (1 : Int32))])) t
        refine XS.istoreN X0.here hx rfl (hb hby at_23) rfl (l' := #[.val (.int k0), .val (.int (1 : Int32)), .val (.int (1 : Int32)), .unset, .unset, .unset]) rfl ?_
        show Steps p.tables e below (s₁.setTop (mkF m 24 #[.val (.int k0), .val (.int (1 : Int32)), .val (.int (1 : Int32)), .unset, .unset, .unset] [])) t
        refine XS.iloadN X0.here hx rfl (hb hby at_24) rfl ?_
        show Steps p.tables e below (s₁.setTop (mkF m 25 #[.val (.int k0), .val (.int (1 : Int32)), .val (.int (1 : Int32)), .unset, .unset, .unset] [(.int (1 : Int32))])) t
        refine XS.ifYes X0.here hx rfl (pc0 := 25) (pc' := 34) rfl (hb hby at_25) rfl ((if0 _ _).trans (feq (by decide : ¬ ((1 : Int32) = (0 : Int32)))).2) (by decide) (by decide) ?_
        show Steps p.tables e below (s₁.setTop (mkF m 34 #[.val (.int k0), .val (.int (1 : Int32)), .val (.int (1 : Int32)), .unset, .unset, .unset] [])) t
        refine XS.iloadN X0.here hx rfl (hb hby at_34) rfl ?_
        show Steps p.tables e below (s₁.setTop (mkF m 35 #[.val (.int k0), .val (.int (1 : Int32)), .val (.int (1 : Int32)), .unset, .unset, .unset] [(.int (1 : Int32))])) t
        refine XS.iloadN X0.here hx rfl (hb hby at_35) rfl ?_
        show Steps p.tables e below (s₁.setTop (mkF m 36 #[.val (.int k0), .val (.int (1 : Int32)), .val (.int (1 : Int32)), .unset, .unset, .unset] [(.int (1 : Int32)), (.int (1 : Int32))])) t
        exact k
      obtain ⟨_, _, ⟨T10, L10, c10, n10⟩, -, X10, ⟨Lc10, hQ10, l10, y10, z10⟩, st10⟩ := Jvm.LawKit.callS X0 hx (y := (⟨"com/example/vested_roles/vestedroles/Revocation$Mode", "of", "(ZZ)Lcom/example/vested_roles/vestedroles/Revocation$Mode;"⟩ : MethodName)) hown (mvT hZ (hw _ (List.mem_of_getElem? (i := 0) rfl))) (mvT hZ (hw _ (List.mem_of_getElem? (i := 1) rfl))) (mvT hZ (hw _ (List.mem_of_getElem? (i := 2) rfl))) (mvT hZ (hw _ (List.mem_of_getElem? (i := 3) rfl))) (by decide) (backOf (W := 0) (own_rm1_11 l Z a0 hw [] aW aS aC h0 n0 Z0 S_WEAK S_STRONG S_STRONG_CONTINUING) hZ (hw _ (List.mem_of_getElem? (i := 3) rfl)) (hw _ (List.mem_of_getElem? (i := 2) rfl)) (by decide) (by decide)) (g := (mkF m 36 #[.val (.int k0), .val (.int (1 : Int32)), .val (.int (1 : Int32)), .unset, .unset, .unset] [(.int (1 : Int32)), (.int (1 : Int32))])) rfl (by rw [hml]; rfl) (argsL := [(.int (1 : Int32)), (.int (1 : Int32))]) (rest := []) (lenOf own_pd0 rfl) rfl (by show 2 * 0 + _ ≤ _; exact Nat.le_of_eq rfl) (hb hby at_36) (fun _ _ => ⟨rfl, e0, (by decide : 0 + 0 ≤ _), (by decide : 0 + 0 ≤ _)⟩)
      dsimp only [Pt.U, Pt.locs, Pt.cells, Pt.slots] at X10 l10 y10 z10 st10 hQ10
      subst l10 y10 z10
      obtain ⟨rfl, N10q, e10⟩ := hQ10
      have N10 := Fr.app N0 N10q
      refine own_st (T' := T10) (g' := (mkF m 39 #[.val (.int k0), .val (.int (1 : Int32)), .val (.int (1 : Int32)), .unset, .unset, .unset] [(.ref aC)])) st10 ?_
      refine own_st (T' := T10) (g' := (mkF m 47 #[.val (.int k0), .val (.int (1 : Int32)), .val (.int (1 : Int32)), .val (.ref aC), .unset, .unset] [(.ref aC)])) (fun t k => ?_) ?_
      · show Steps p.tables e below (T10.setTop (mkF m 39 #[.val (.int k0), .val (.int (1 : Int32)), .val (.int (1 : Int32)), .unset, .unset, .unset] [(.ref aC)])) t
        refine XS.astoreN X10.here hx rfl (hb hby at_39) rfl rfl (l' := #[.val (.int k0), .val (.int (1 : Int32)), .val (.int (1 : Int32)), .val (.ref aC), .unset, .unset]) rfl ?_
        show Steps p.tables e below (T10.setTop (mkF m 40 #[.val (.int k0), .val (.int (1 : Int32)), .val (.int (1 : Int32)), .val (.ref aC), .unset, .unset] [])) t
        refine XS.aloadN X10.here hx rfl (hb hby at_40) rfl rfl ?_
        show Steps p.tables e below (T10.setTop (mkF m 41 #[.val (.int k0), .val (.int (1 : Int32)), .val (.int (1 : Int32)), .val (.ref aC), .unset, .unset] [(.ref aC)])) t
        refine XS.ifnonnullYes X10.here hx rfl (pc0 := 41) (pc' := 46) rfl (hb hby at_41) rfl (by decide) (by decide) ?_
        show Steps p.tables e below (T10.setTop (mkF m 46 #[.val (.int k0), .val (.int (1 : Int32)), .val (.int (1 : Int32)), .val (.ref aC), .unset, .unset] [])) t
        refine XS.aloadN X10.here hx rfl (hb hby at_46) rfl rfl ?_
        show Steps p.tables e below (T10.setTop (mkF m 47 #[.val (.int k0), .val (.int (1 : Int32)), .val (.int (1 : Int32)), .val (.ref aC), .unset, .unset] [(.ref aC)])) t
        exact k
      obtain ⟨T11, X11, e11, st11⟩ := getS2 X10 hx hZ hown (host := "") (Or.inl (hw _ (List.mem_of_getElem? (i := 6) rfl))) Via.refl e10 S_WEAK (g := (mkF m 47 #[.val (.int k0), .val (.int (1 : Int32)), .val (.int (1 : Int32)), .val (.ref aC), .unset, .unset] [(.ref aC)])) rfl (hb hby at_47)
      refine own_st (T' := T11) (g' := (mkF m 50 #[.val (.int k0), .val (.int (1 : Int32)), .val (.int (1 : Int32)), .val (.ref aC), .unset, .unset] [(.ref aW), (.ref aC)])) st11 ?_
      refine own_st (T' := T11) (g' := (mkF m 61 #[.val (.int k0), .val (.int (1 : Int32)), .val (.int (1 : Int32)), .val (.ref aC), .val (.int (0 : Int32)), .unset] [(.ref aC)])) (fun t k => ?_) ?_
      · show Steps p.tables e below (T11.setTop (mkF m 50 #[.val (.int k0), .val (.int (1 : Int32)), .val (.int (1 : Int32)), .val (.ref aC), .unset, .unset] [(.ref aW), (.ref aC)])) t
        refine Jvm.RoadKit.acmp (g := (mkF m 50 #[.val (.int k0), .val (.int (1 : Int32)), .val (.int (1 : Int32)), .val (.ref aC), .unset, .unset] [(.ref aW), (.ref aC)])) X11 hx rfl rfl rfl (pc0 := 50) (pc' := 57) (same := false) rfl (hb hby at_50) rfl (decide_eq_false fun q => naCaW (Value.ref.inj q)) (by decide) (by decide) ?_
        show Steps p.tables e below (T11.setTop (mkF m 57 #[.val (.int k0), .val (.int (1 : Int32)), .val (.int (1 : Int32)), .val (.ref aC), .unset, .unset] [])) t
        refine XS.iconst X11.here hx rfl (hb hby at_57) ?_
        show Steps p.tables e below (T11.setTop (mkF m 58 #[.val (.int k0), .val (.int (1 : Int32)), .val (.int (1 : Int32)), .val (.ref aC), .unset, .unset] [(.int (0 : Int32))])) t
        refine XS.istore X11.here hx rfl (hb hby at_58) rfl (l' := #[.val (.int k0), .val (.int (1 : Int32)), .val (.int (1 : Int32)), .val (.ref aC), .val (.int (0 : Int32)), .unset]) rfl ?_
        show Steps p.tables e below (T11.setTop (mkF m 60 #[.val (.int k0), .val (.int (1 : Int32)), .val (.int (1 : Int32)), .val (.ref aC), .val (.int (0 : Int32)), .unset] [])) t
        refine XS.aloadN X11.here hx rfl (hb hby at_60) rfl rfl ?_
        show Steps p.tables e below (T11.setTop (mkF m 61 #[.val (.int k0), .val (.int (1 : Int32)), .val (.int (1 : Int32)), .val (.ref aC), .val (.int (0 : Int32)), .unset] [(.ref aC)])) t
        exact k
      obtain ⟨T12, X12, e12, st12⟩ := getS2 X11 hx hZ hown (host := "") (Or.inl (hw _ (List.mem_of_getElem? (i := 7) rfl))) Via.refl e11 S_STRONG_CONTINUING (g := (mkF m 61 #[.val (.int k0), .val (.int (1 : Int32)), .val (.int (1 : Int32)), .val (.ref aC), .val (.int (0 : Int32)), .unset] [(.ref aC)])) rfl (hb hby at_61)
      refine own_st (T' := T12) (g' := (mkF m 64 #[.val (.int k0), .val (.int (1 : Int32)), .val (.int (1 : Int32)), .val (.ref aC), .val (.int (0 : Int32)), .unset] [(.ref aC), (.ref aC)])) st12 ?_
      refine own_st (T' := T12) (g' := (mkF m 99 #[.val (.int k0), .val (.int (1 : Int32)), .val (.int (1 : Int32)), .val (.ref aC), .val (.int (0 : Int32)), .val (.int (1 : Int32))] [(.int (1 : Int32))])) (fun t k => ?_) ?_
      · show Steps p.tables e below (T12.setTop (mkF m 64 #[.val (.int k0), .val (.int (1 : Int32)), .val (.int (1 : Int32)), .val (.ref aC), .val (.int (0 : Int32)), .unset] [(.ref aC), (.ref aC)])) t
        refine Jvm.RoadKit.acmp (g := (mkF m 64 #[.val (.int k0), .val (.int (1 : Int32)), .val (.int (1 : Int32)), .val (.ref aC), .val (.int (0 : Int32)), .unset] [(.ref aC), (.ref aC)])) X12 hx rfl rfl rfl (pc0 := 64) (pc' := 67) (same := true) rfl (hb hby at_64) rfl (decide_eq_true (congrArg Value.ref (rfl : aC = aC))) (by decide) (by decide) ?_
        show Steps p.tables e below (T12.setTop (mkF m 67 #[.val (.int k0), .val (.int (1 : Int32)), .val (.int (1 : Int32)), .val (.ref aC), .val (.int (0 : Int32)), .unset] [])) t
        refine XS.iconst X12.here hx rfl (hb hby at_67) ?_
        show Steps p.tables e below (T12.setTop (mkF m 68 #[.val (.int k0), .val (.int (1 : Int32)), .val (.int (1 : Int32)), .val (.ref aC), .val (.int (0 : Int32)), .unset] [(.int (1 : Int32))])) t
        refine XS.goto X12.here hx rfl (pc0 := 68) (pc' := 72) rfl (hb hby at_68) (by decide) (by decide) ?_
        show Steps p.tables e below (T12.setTop (mkF m 72 #[.val (.int k0), .val (.int (1 : Int32)), .val (.int (1 : Int32)), .val (.ref aC), .val (.int (0 : Int32)), .unset] [(.int (1 : Int32))])) t
        refine XS.istore X12.here hx rfl (hb hby at_72) rfl (l' := #[.val (.int k0), .val (.int (1 : Int32)), .val (.int (1 : Int32)), .val (.ref aC), .val (.int (0 : Int32)), .val (.int (1 : Int32))]) rfl ?_
        show Steps p.tables e below (T12.setTop (mkF m 74 #[.val (.int k0), .val (.int (1 : Int32)), .val (.int (1 : Int32)), .val (.ref aC), .val (.int (0 : Int32)), .val (.int (1 : Int32))] [])) t
        refine XS.iload X12.here hx rfl (hb hby at_74) rfl ?_
        show Steps p.tables e below (T12.setTop (mkF m 76 #[.val (.int k0), .val (.int (1 : Int32)), .val (.int (1 : Int32)), .val (.ref aC), .val (.int (0 : Int32)), .val (.int (1 : Int32))] [(.int (0 : Int32))])) t
        refine XS.iloadN X12.here hx rfl (hb hby at_76) rfl ?_
        show Steps p.tables e below (T12.setTop (mkF m 77 #[.val (.int k0), .val (.int (1 : Int32)), .val (.int (1 : Int32)), .val (.ref aC), .val (.int (0 : Int32)), .val (.int (1 : Int32))] [(.int (1 : Int32)), (.int (0 : Int32))])) t
        refine XS.ifYes X12.here hx rfl (pc0 := 77) (pc' := 84) rfl (hb hby at_77) rfl ((if0 _ _).trans (feq (by decide : ¬ ((1 : Int32) = (0 : Int32)))).2) (by decide) (by decide) ?_
        show Steps p.tables e below (T12.setTop (mkF m 84 #[.val (.int k0), .val (.int (1 : Int32)), .val (.int (1 : Int32)), .val (.ref aC), .val (.int (0 : Int32)), .val (.int (1 : Int32))] [(.int (0 : Int32))])) t
        refine XS.iconst X12.here hx rfl (hb hby at_84) ?_
        show Steps p.tables e below (T12.setTop (mkF m 85 #[.val (.int k0), .val (.int (1 : Int32)), .val (.int (1 : Int32)), .val (.ref aC), .val (.int (0 : Int32)), .val (.int (1 : Int32))] [(.int (0 : Int32)), (.int (0 : Int32))])) t
        refine XS.icmpNo X12.here hx rfl (hb hby at_85) rfl (teq (rfl : (0 : Int32) = (0 : Int32))).2 ?_
        show Steps p.tables e below (T12.setTop (mkF m 88 #[.val (.int k0), .val (.int (1 : Int32)), .val (.int (1 : Int32)), .val (.ref aC), .val (.int (0 : Int32)), .val (.int (1 : Int32))] [])) t
        refine XS.iload X12.here hx rfl (hb hby at_88) rfl ?_
        show Steps p.tables e below (T12.setTop (mkF m 90 #[.val (.int k0), .val (.int (1 : Int32)), .val (.int (1 : Int32)), .val (.ref aC), .val (.int (0 : Int32)), .val (.int (1 : Int32))] [(.int (1 : Int32))])) t
        refine XS.iloadN X12.here hx rfl (hb hby at_90) rfl ?_
        show Steps p.tables e below (T12.setTop (mkF m 91 #[.val (.int k0), .val (.int (1 : Int32)), .val (.int (1 : Int32)), .val (.ref aC), .val (.int (0 : Int32)), .val (.int (1 : Int32))] [(.int (1 : Int32)), (.int (1 : Int32))])) t
        refine XS.icmpNo X12.here hx rfl (hb hby at_91) rfl (teq (rfl : (1 : Int32) = (1 : Int32))).2 ?_
        show Steps p.tables e below (T12.setTop (mkF m 94 #[.val (.int k0), .val (.int (1 : Int32)), .val (.int (1 : Int32)), .val (.ref aC), .val (.int (0 : Int32)), .val (.int (1 : Int32))] [])) t
        refine XS.iconst X12.here hx rfl (hb hby at_94) ?_
        show Steps p.tables e below (T12.setTop (mkF m 95 #[.val (.int k0), .val (.int (1 : Int32)), .val (.int (1 : Int32)), .val (.ref aC), .val (.int (0 : Int32)), .val (.int (1 : Int32))] [(.int (1 : Int32))])) t
        refine XS.goto X12.here hx rfl (pc0 := 95) (pc' := 99) rfl (hb hby at_95) (by decide) (by decide) ?_
        show Steps p.tables e below (T12.setTop (mkF m 99 #[.val (.int k0), .val (.int (1 : Int32)), .val (.int (1 : Int32)), .val (.ref aC), .val (.int (0 : Int32)), .val (.int (1 : Int32))] [(.int (1 : Int32))])) t
        exact k
      exact own_retN X12 hx Bd (t := .boolean) (by simp) rfl (hb hby at_99) e12 (⟨rfl, N10⟩) (by decide) (by decide)
set_option maxRecDepth 65536 in
set_option maxHeartbeats 40000000 in
theorem own_comes_1 {Post : Tables → Env → Array Value → State → Outcome → State → Prop} (hpost : ∀ tb e args s v u, (limb_1_1.after args s (.returned v) u = true ∧ limb_1_2.after args s (.returned v) u = true ∧ True) → FrameEnd s (.returned v) u (Jvm.fieldLocs frame_1_writes args s ++ Jvm.arrayLocs frame_1_arrays args s ++ Jvm.staticLocs frame_1_statics s) 0 0 → Post tb e args s (.returned v) u) :
    ArmFor flags0 classFile x code maxLocals ret World_1 tables_1 room_1 Calls_1 rest_1 Pre_1 Post := by
  intro l hfl _ _ p e ha hc hk s m args below hf hA hF happ hP
  obtain ⟨hcalls, hrest, hpre⟩ := hP
  obtain ⟨-, -, -, hnamed, -, -, -, hat⟩ := (Spec.applies_iff hf).mp happ
  obtain ⟨hg, hn⟩ := and_e (Cond.before_iff.mp (show (Jvm.Cond.and given_1 narrow_1).before args s = true from hpre))
  obtain ⟨hg0, hgr⟩ := and_e hg
  have ha0 := hgr
  obtain ⟨w0, rfl⟩ : ∃ w0 : Value, args = #[w0] := by
    have hs : args.size = 1 := by simpa [Cond.value, given_1] using hg0
    obtain ⟨L⟩ := args
    match L, hs with
    | [w0], _ => exact ⟨w0, rfl⟩
  have hw := fun d (hd : d ∈ tables_1) => atoms_spec (ws := Jvm.Cond.code x code maxLocals ret :: tables_1) hat d (List.mem_cons_of_mem _ hd)
  have hfit : Fit s := fun {y c} hc i hi => by
    obtain ⟨ha, rfl⟩ := Array.getElem?_eq_some_iff.mp hc
    have q := List.all_eq_true.mp ((Array.all_eq_true_iff_forall_mem.mp hF) _ (Array.getElem_mem ha)) i (List.mem_range.mpr hi)
    simpa [Array.getElem?_eq_getElem hi] using q
  obtain ⟨i0, ei0⟩ := is_v ha0
  obtain rfl : w0 = (.int i0) := Option.some.inj ei0
  obtain ⟨x_WEAK, hn0⟩ := and_e hn
  obtain ⟨x_STRONG_CONTINUING, hn1⟩ := and_e hn0
  obtain ⟨o_WEAK, hn2⟩ := and_e hn1
  obtain ⟨o_STRONG_CONTINUING, hn3⟩ := and_e hn2
  obtain ⟨x_STRONG, hn4⟩ := and_e hn3
  have o_STRONG := hn4
  obtain ⟨aW, ev_WEAK, S_WEAK, E_WEAK⟩ := own_enum x_WEAK (Or.inr ⟨(hw _ (List.mem_of_getElem? (i := 2) rfl)), (hw _ (List.mem_of_getElem? (i := 5) rfl))⟩)
  have F_WEAK := own_ord ev_WEAK o_WEAK
  obtain ⟨aC, ev_STRONG_CONTINUING, S_STRONG_CONTINUING, E_STRONG_CONTINUING⟩ := own_enum x_STRONG_CONTINUING (Or.inr ⟨(hw _ (List.mem_of_getElem? (i := 2) rfl)), (hw _ (List.mem_of_getElem? (i := 8) rfl))⟩)
  have F_STRONG_CONTINUING := own_ord ev_STRONG_CONTINUING o_STRONG_CONTINUING
  obtain ⟨aS, ev_STRONG, S_STRONG, E_STRONG⟩ := own_enum x_STRONG (Or.inr ⟨(hw _ (List.mem_of_getElem? (i := 2) rfl)), (hw _ (List.mem_of_getElem? (i := 11) rfl))⟩)
  have F_STRONG := own_ord ev_STRONG o_STRONG
  obtain ⟨n, o, h1, h2, h3, _, L, rfl, ⟨rfl, N⟩, hq⟩ := own_rm0 l s _ hw tables_1 i0 aW aS aC s.heap s.heap.size (Nat.le_refl _) S_WEAK S_STRONG S_STRONG_CONTINUING E_WEAK E_STRONG E_STRONG_CONTINUING (F_WEAK.ne F_STRONG_CONTINUING (by decide)) (F_STRONG.ne F_WEAK (by decide)) (F_STRONG.ne F_STRONG_CONTINUING (by decide)) (F_STRONG_CONTINUING.ne F_WEAK (by decide)) p e ha hc hk s m _ below hf ((Spec.applies_iff_loose hf).mp happ).1 ⟨rfl, State.Warmed39.refl s, rfl⟩ trivial
  refine ⟨n, _, h1, h2, h3, hpost _ _ _ _ _ _ ⟨Cond.after_iff.mpr rfl, Cond.after_iff.mpr (eq_i res_at (Term.int_eval (1)) rfl), trivial⟩ ⟨hq.1, hq.2.1, (hq.2.2.sift fun y hy => Or.inr (N y hy)).mono (by decide) (by decide)⟩⟩
theorem main_1_1 : Claimed_1_1 := own_comes_1 fun _ _ _ _ _ _ h hF => ⟨h.1, hF⟩
theorem main_1_2 : Claimed_1_2 := own_comes_1 fun _ _ _ _ _ _ h hF => ⟨h.2.1, hF⟩
end Jvm.Pilot.@@N@@
namespace Jvm.Pilot.@@N@@
open Jvm Jvm.ClassFile Sem Op Lib Jvm.Free Jvm.Stand Jvm.Pilot.@@N@@.Jvm.D
/-! MADE BY PROGRAM (witnessworld.py) out of the Statement's table words and the real class files: 12 classes; the members and pool entries that the words name. The judged class is class 1, her method 1. -/
namespace start1
open Jvm.ClassFile
def u (s : String) : CpInfo := .utf8 (stringToUtf16 s)
/-- a pool by its gaps: so many unusable entries, then the entry; so many at the end -/
def gap : Nat → List CpInfo → List CpInfo
  | 0, r => r
  | n + 1, r => .unusable :: gap n r
def poolList (es : List (Nat × CpInfo)) (last : Nat) : List CpInfo := es.foldr (fun e r => gap e.1 (e.2 :: r)) (gap last [])
def pool (es : List (Nat × CpInfo)) (last : Nat) : Array CpInfo := ⟨poolList es last⟩
def fileOf (pool : Array CpInfo) (this : Nat) (attrs : Array Attribute := #[]) (ms : Array MethodInfo := #[]) (fl : Nat := 33) (sup : Nat := 0) (ifs : Array Nat := #[]) (fds : Array FieldInfo := #[]) : ClassFile where
  minorVersion := 0
  majorVersion := 65
  constantPool := pool
  accessFlags := fl
  thisClass := this
  superClass := sup
  interfaces := ifs
  fields := fds
  methods := ms
  attributes := attrs
def plain (name : String) (sup : Option ClassId) : Class where
  name := name
  kind := .ordinary
  loader := none
  accessFlags := 33
  super := sup
  interfaces := #[]
  cf := none
  fields := #[]
  methods := #[]
  instanceTypes := #[]
  staticTypes := #[]
  resolved := #[]
  callSites := []
  init := .initialized
  statics := none
  mirror := none

def pool0 : Array CpInfo := pool [(5, u "<init>"), (0, u "()V"), (1, .class_ 10), (1, u "java/lang/Object")] 113

def k0m0 : Method := { name := "<init>", desc := "()V", sig := { parameters := [], returnType := none }, accessFlags := 1, code := none }
/-- java/lang/Object -/
def k0 : Class := { plain "java/lang/Object" none with
  accessFlags := 33
  interfaces := #[]
  cf := some (fileOf pool0 8 #[] #[{ accessFlags := 1, nameIndex := 5, descriptorIndex := 6, attributes := #[] }] 33 0 #[] #[])
  fields := #[]
  methods := #[k0m0]
  instanceTypes := #[]
  staticTypes := #[]
  resolved := Array.replicate 124 none
  statics := none }

def pool1 : Array CpInfo := pool [(2, .class_ 4), (1, u "java/lang/Object"), (0, u "<init>"), (0, u "()V"), (0, .methodref 8 9), (0, .class_ 10), (0, .nameAndType 11 12), (0, u "com/example/vested_roles/vestedroles/Revocation$Mode"), (0, u "of"), (0, u "(ZZ)Lcom/example/vested_roles/vestedroles/Revocation$Mode;"), (0, .fieldref 8 14), (0, .nameAndType 15 16), (0, u "WEAK"), (0, u "Lcom/example/vested_roles/vestedroles/Revocation$Mode;"), (0, .fieldref 8 18), (0, .nameAndType 19 16), (0, u "STRONG_CONTINUING"), (0, .class_ 21), (0, u "com/example/vested_roles/vestedroles/ModeOfPinLaw"), (2, u "law"), (0, u "(I)Z")] 7

def k1m0 : Method := { name := "<init>", desc := "()V", sig := { parameters := [], returnType := none }, accessFlags := 2, code := none }
def k1c1 : Code := { maxStack := 2, maxLocals := 6, code := code, exceptionTable := #[], attributes := #[] }
def k1m1 : Method := { name := "law", desc := "(I)Z", sig := { parameters := [.int], returnType := some .boolean }, accessFlags := 9, code := some k1c1 }
/-- com/example/vested_roles/vestedroles/ModeOfPinLaw -/
def k1 : Class := { plain "com/example/vested_roles/vestedroles/ModeOfPinLaw" (some 0) with
  accessFlags := 49
  interfaces := #[]
  cf := some (fileOf pool1 20 #[] #[{ accessFlags := 2, nameIndex := 5, descriptorIndex := 6, attributes := #[] }, { accessFlags := 9, nameIndex := 24, descriptorIndex := 25, attributes := #[] }] 49 2 #[] #[])
  fields := #[]
  methods := #[k1m0, k1m1]
  instanceTypes := #[]
  staticTypes := #[]
  resolved := Array.replicate 33 none
  statics := none }

def pool2 : Array CpInfo := pool [(1, .class_ 2), (0, u "java/lang/constant/Constable"), (0, .class_ 4), (0, u "java/lang/Object")] 6

/-- java/lang/constant/Constable -/
def k2 : Class := { plain "java/lang/constant/Constable" (some 0) with
  accessFlags := 1537
  interfaces := #[]
  cf := some (fileOf pool2 1 #[] #[] 1537 3 #[] #[])
  fields := #[]
  methods := #[]
  instanceTypes := #[]
  staticTypes := #[]
  resolved := Array.replicate 11 none
  statics := none }

def pool3 : Array CpInfo := pool [(1, .class_ 2), (0, u "java/lang/Comparable"), (0, .class_ 4), (0, u "java/lang/Object")] 7

/-- java/lang/Comparable -/
def k3 : Class := { plain "java/lang/Comparable" (some 0) with
  accessFlags := 1537
  interfaces := #[]
  cf := some (fileOf pool3 1 #[] #[] 1537 3 #[] #[])
  fields := #[]
  methods := #[]
  instanceTypes := #[]
  staticTypes := #[]
  resolved := Array.replicate 12 none
  statics := none }

def pool4 : Array CpInfo := pool [(1, .class_ 2), (0, u "java/io/Serializable"), (0, .class_ 4), (0, u "java/lang/Object")] 2

/-- java/io/Serializable -/
def k4 : Class := { plain "java/io/Serializable" (some 0) with
  accessFlags := 1537
  interfaces := #[]
  cf := some (fileOf pool4 1 #[] #[] 1537 3 #[] #[])
  fields := #[]
  methods := #[]
  instanceTypes := #[]
  staticTypes := #[]
  resolved := Array.replicate 7 none
  statics := none }

def pool5 : Array CpInfo := pool [(2, .class_ 4), (1, u "java/lang/Enum"), (0, u "name"), (0, u "Ljava/lang/String;"), (2, u "ordinal"), (0, u "I"), (1, .class_ 14), (1, u "java/lang/Object"), (4, u "hash"), (86, .class_ 108), (1, u "java/lang/Enum$EnumDesc"), (2, .class_ 112), (0, u "java/lang/constant/Constable"), (0, .class_ 114), (0, u "java/lang/Comparable"), (0, .class_ 116), (0, u "java/io/Serializable")] 87

/-- java/lang/Enum -/
def k5 : Class := { plain "java/lang/Enum" (some 0) with
  accessFlags := 1057
  interfaces := #[2, 3, 4]
  cf := some (fileOf pool5 2 #[.nestMembers #[106]] #[] 1057 12 #[111, 113, 115] #[{ accessFlags := 18, nameIndex := 5, descriptorIndex := 6, attributes := #[] }, { accessFlags := 18, nameIndex := 9, descriptorIndex := 10, attributes := #[] }, { accessFlags := 2, nameIndex := 19, descriptorIndex := 10, attributes := #[] }])
  fields := #[{ name := "name", type := (.object "java/lang/String"), accessFlags := 18, slot := 0, constantValue := 0 }, { name := "ordinal", type := .int, accessFlags := 18, slot := 1, constantValue := 0 }, { name := "hash", type := .int, accessFlags := 2, slot := 2, constantValue := 0 }]
  methods := #[]
  instanceTypes := #[(.object "java/lang/String"), .int, .int]
  staticTypes := #[]
  resolved := Array.replicate 204 none
  statics := none }

def pool6 : Array CpInfo := pool [(1, .class_ 2), (0, u "com/example/vested_roles/vestedroles/Revocation$Mode"), (0, .fieldref 1 4), (0, .nameAndType 5 6), (0, u "WEAK"), (0, u "Lcom/example/vested_roles/vestedroles/Revocation$Mode;"), (0, .fieldref 1 8), (0, .nameAndType 9 6), (0, u "STRONG"), (0, .fieldref 1 11), (0, .nameAndType 12 6), (0, u "STRONG_CONTINUING"), (2, u "$VALUES"), (0, u "[Lcom/example/vested_roles/vestedroles/Revocation$Mode;"), (6, .class_ 25), (1, u "java/lang/Enum"), (28, u "of"), (0, u "(ZZ)Lcom/example/vested_roles/vestedroles/Revocation$Mode;"), (6, .class_ 63), (0, u "com/example/vested_roles/vestedroles/Revocation")] 2

def k6c0 : Code := { maxStack := 3, maxLocals := 2, code := prog_41_method_4_code, exceptionTable := #[], attributes := #[] }
def k6m0 : Method := { name := "of", desc := "(ZZ)Lcom/example/vested_roles/vestedroles/Revocation$Mode;", sig := { parameters := [.boolean, .boolean], returnType := some (.object "com/example/vested_roles/vestedroles/Revocation$Mode") }, accessFlags := 9, code := some k6c0 }
/-- com/example/vested_roles/vestedroles/Revocation$Mode -/
def k6 : Class := { plain "com/example/vested_roles/vestedroles/Revocation$Mode" (some 5) with
  accessFlags := 16433
  interfaces := #[]
  cf := some (fileOf pool6 1 #[.nestHost 62] #[{ accessFlags := 9, nameIndex := 54, descriptorIndex := 55, attributes := #[] }] 16433 23 #[] #[{ accessFlags := 16409, nameIndex := 5, descriptorIndex := 6, attributes := #[] }, { accessFlags := 16409, nameIndex := 9, descriptorIndex := 6, attributes := #[] }, { accessFlags := 16409, nameIndex := 12, descriptorIndex := 6, attributes := #[] }, { accessFlags := 4122, nameIndex := 15, descriptorIndex := 16, attributes := #[] }])
  fields := #[{ name := "WEAK", type := (.object "com/example/vested_roles/vestedroles/Revocation$Mode"), accessFlags := 16409, slot := 0, constantValue := 0 }, { name := "STRONG", type := (.object "com/example/vested_roles/vestedroles/Revocation$Mode"), accessFlags := 16409, slot := 1, constantValue := 0 }, { name := "STRONG_CONTINUING", type := (.object "com/example/vested_roles/vestedroles/Revocation$Mode"), accessFlags := 16409, slot := 2, constantValue := 0 }, { name := "$VALUES", type := (.array (.object "com/example/vested_roles/vestedroles/Revocation$Mode")), accessFlags := 4122, slot := 3, constantValue := 0 }]
  methods := #[k6m0]
  instanceTypes := #[(.object "java/lang/String"), .int, .int]
  staticTypes := #[(.object "com/example/vested_roles/vestedroles/Revocation$Mode"), (.object "com/example/vested_roles/vestedroles/Revocation$Mode"), (.object "com/example/vested_roles/vestedroles/Revocation$Mode"), (.array (.object "com/example/vested_roles/vestedroles/Revocation$Mode"))]
  resolved := Array.replicate 66 none
  statics := some 0 }

def pool7 : Array CpInfo := pool [(1, u "java/lang/Cloneable"), (0, .class_ 1), (0, u "java/lang/Object"), (0, .class_ 3)] 3

/-- java/lang/Cloneable -/
def k7 : Class := { plain "java/lang/Cloneable" (some 0) with
  accessFlags := 1537
  interfaces := #[]
  cf := some (fileOf pool7 2 #[] #[] 1537 4 #[] #[])
  fields := #[]
  methods := #[]
  instanceTypes := #[]
  staticTypes := #[]
  resolved := Array.replicate 8 none
  statics := none }

/-- the primitive byte -/
def k8 : Class := { plain "byte" none with kind := .primitive 'B', accessFlags := 0x411 }
/-- [B -/
def k9 : Class := { plain "[B" (some 0) with kind := .array 8 .byte, interfaces := #[7, 4], accessFlags := 1041 }

/-- the primitive int -/
def k10 : Class := { plain "int" none with kind := .primitive 'I', accessFlags := 0x411 }
/-- [I -/
def k11 : Class := { plain "[I" (some 0) with kind := .array 10 .int, interfaces := #[7, 4], accessFlags := 1041 }

def heap : Heap := #[{ cls := 6, slots := #[.ref 1, .ref 2, .ref 3, .null], vm := .statics 6 },
  { cls := 6, slots := #[.null, .int 0, .int 0], vm := .none },
  { cls := 6, slots := #[.null, .int 1, .int 0], vm := .none },
  { cls := 6, slots := #[.null, .int 2, .int 0], vm := .none }]
def classes : Array Class := #[k0, k1, k2, k3, k4, k5, k6, k7, k8, k9, k10, k11]
def interned : List (Array UInt16 × Addr) := []
def slotsUsed : Nat := 13
def theMethod : MethodId := ⟨1, 1⟩
def args0 : Array Value := #[.int 5]
def aboutOver (below : List Frame) : State where
  vm := { classes := classes, interned := interned.toArray }
  heap := heap
  slotsUsed := slotsUsed
  threads := #[{ frames := .invoking theMethod args0 :: below }]
def below0 : List Frame := [.native { method := ⟨0, 0⟩, args := #[] }]
def about1 : State := aboutOver below0
def p0 : Program := .bare "" "" ""
def e0 : Env := launch0.env 0 0 0
theorem w_frames : about1.frames = Frame.invoking theMethod args0 :: below0 := rfl
set_option maxRecDepth 65536 in
theorem w_args : argsFit about1.vm theMethod args0 = true := by decide +kernel
set_option maxRecDepth 65536 in
theorem w_heap : heapFits about1 = true := by decide +kernel
set_option maxRecDepth 65536 in
theorem w_runnable : about1.curStatus? = some .runnable := by decide +kernel
set_option maxRecDepth 65536 in
theorem w_alone : about1.alone = true := by decide +kernel
set_option maxRecDepth 65536 in
theorem w_named : about1.methodNamed? x = some theMethod := by decide +kernel
set_option maxRecDepth 65536 in
theorem w_hears : about1.hears theMethod below0 = true := by decide +kernel
set_option maxRecDepth 65536 in
theorem w_ripe : about1.ripe theMethod args0 below0 = true := by decide +kernel
theorem w_running : about1.status = .running := rfl
set_option maxRecDepth 65536 in
theorem w_room : about1.hasRoom e0.platform room_1 = true :=
  launch0.hasRoom_least _ room_1 (by decide +kernel) (by decide +kernel) (by decide +kernel) (by decide +kernel) (by decide +kernel) (by decide +kernel)
theorem allAtoms_all (ts : List Jvm.Cond) (a : Array Jvm.Value) (st : Jvm.State) : (allAtoms ts).before a st = ts.all (fun c => c.before a st) := by
  induction ts with
  | nil => rfl
  | cons c t ih =>
    show (Jvm.Cond.and c (allAtoms t)).before a st = _
    rw [Jvm.Cond.before_and, ih, List.all_cons]
def words1 : List Jvm.Cond := Jvm.Cond.code x code maxLocals ret :: tables_1
/-- a 'code' word, met by the world's own term for the bytes: nothing is compared byte by byte -/
theorem code_word {y : MethodName} {bytes : ByteArray} {mx : Nat} {rt : Option FieldType} {a : Array Value} {s : State} {m : MethodId} {meth : Method} {c : Code} (h1 : s.methodNamed? y = some m) (h2 : s.vm.method? m = some meth) (h3 : meth.code = some c) (h4 : c.code = bytes)
    (h5 : (c.maxLocals == mx && c.exceptionTable.isEmpty && decide (c.maxStack ≤ mostOperands) && decide (meth.sig.returnType = rt) && !meth.locks && decide (parseMethodDescriptor y.desc = some meth.sig)) = true) : (Jvm.Cond.code y bytes mx rt).before a s = true := by
  simp only [Bool.and_eq_true, beq_iff_eq, Bool.not_eq_true', decide_eq_true_eq] at h5
  obtain ⟨⟨⟨⟨⟨g1, g2⟩, g3⟩, g4⟩, g5⟩, g6⟩ := h5
  simp [Cond.before, Cond.holds, Cond.value, h1, h2, h3, h4, g1, g2, g3, g4, g5, g6]
def isCode : Jvm.Cond → Bool
  | .code _ _ _ _ => true
  | _ => false
theorem all_split {L : List Jvm.Cond} {P : Jvm.Cond → Bool} (h1 : L.all (fun c => isCode c || P c) = true) (h2 : ∀ c ∈ L.filter isCode, P c = true) : L.all P = true := by
  refine List.all_eq_true.mpr fun c hc => ?_
  have h := List.all_eq_true.mp h1 c hc
  rcases Bool.eq_false_or_eq_true (isCode c) with hi | hi
  · exact h2 c (List.mem_filter.mpr ⟨hc, hi⟩)
  · simpa [hi] using h
set_option maxRecDepth 65536 in
theorem w_c0 : (Jvm.Cond.code x code maxLocals ret).before args0 about1 = true := code_word (m := ⟨1, 1⟩) (meth := k1m1) (c := k1c1) (by decide +kernel) rfl rfl rfl (by decide +kernel)
set_option maxRecDepth 65536 in
theorem w_c1 : (Jvm.Cond.code ({ cls := "com/example/vested_roles/vestedroles/Revocation$Mode", name := "of", desc := "(ZZ)Lcom/example/vested_roles/vestedroles/Revocation$Mode;" } : Jvm.MethodName) prog_41_method_4_code (2 : Nat) (Option.some (Jvm.ClassFile.FieldType.object "com/example/vested_roles/vestedroles/Revocation$Mode"))).before args0 about1 = true := code_word (m := ⟨6, 0⟩) (meth := k6m0) (c := k6c0) (by decide +kernel) rfl rfl rfl (by decide +kernel)
def codes1 : List Jvm.Cond := [Jvm.Cond.code x code maxLocals ret, Jvm.Cond.code ({ cls := "com/example/vested_roles/vestedroles/Revocation$Mode", name := "of", desc := "(ZZ)Lcom/example/vested_roles/vestedroles/Revocation$Mode;" } : Jvm.MethodName) prog_41_method_4_code (2 : Nat) (Option.some (Jvm.ClassFile.FieldType.object "com/example/vested_roles/vestedroles/Revocation$Mode"))]
set_option maxRecDepth 65536 in
theorem codes_eq : words1.filter isCode = codes1 := rfl
theorem w_codes : ∀ c ∈ words1.filter isCode, c.before args0 about1 = true := by
  rw [codes_eq]
  intro c hc
  simp only [codes1, List.mem_cons, List.not_mem_nil, or_false] at hc
  rcases hc with rfl | rfl
  · exact w_c0
  · exact w_c1
set_option maxRecDepth 65536 in
theorem w_t1 : words1.all (fun c => isCode c || c.before args0 about1) = true := by decide +kernel
theorem w_tables : (allAtoms (Jvm.Cond.code x code maxLocals ret :: tables_1)).before args0 about1 = true := by
  rw [allAtoms_all]
  show words1.all (fun c => c.before args0 about1) = true
  refine all_split ?_ w_codes
  rw [w_t1]
set_option maxRecDepth 65536 in
theorem w_case : (Jvm.Cond.and given_1 narrow_1).before args0 about1 = true := by decide +kernel
theorem w_applies : (headSpec (Jvm.Cond.code x code maxLocals ret :: tables_1) room_1).applies x e0.platform about1 = true :=
  (Spec.applies_iff w_frames).mpr ⟨w_running, w_runnable, w_alone, w_named, w_hears, w_ripe, w_room, w_tables⟩
theorem atStart : AtStart classFile x code maxLocals ret World_1 tables_1 room_1 Calls_1 rest_1 Pre_1 launch0 p0 e0 about1 theMethod args0 below0 :=
  ⟨lists_1, trivial, launch0.admits_env _ _ _, launch0.least_env, fairChoices_fair.cas, fairChoices_fair.clock, w_frames, w_args, w_heap, w_applies, trivial, trivial, w_case⟩
end start1
theorem witness_1 : WitnessClaimed_1 := ⟨start1.p0, start1.e0, start1.about1, start1.theMethod, start1.args0, start1.below0, start1.atStart⟩
end Jvm.Pilot.@@N@@
