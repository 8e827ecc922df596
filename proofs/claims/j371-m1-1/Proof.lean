import JvmDerived
import JvmDerived.Pilot.@@N@@Statement
import JvmDerived.Pilot.@@N@@Code
set_option linter.unusedVariables false
set_option linter.unusedSimpArgs false
namespace Jvm.Pilot.@@N@@
open Jvm Jvm.ClassFile Sem Op Lib Jvm.Free Jvm.Stand Jvm.LawKit Jvm.RoadKit Bundle Jvm.Pilot.@@N@@.Jvm.D
theorem own_cast {tb : Tables} {e : Env} {below : List Frame} {T : State} {g g' : JFrame} {t : State} (q : g = g') (k : Steps tb e below (T.setTop g') t) : Steps tb e below (T.setTop g) t := q ▸ k
section Own
variable {p : Program} {l : Launch} {e : Env} {R : Room} {s : State} {m : MethodId} {args : Array Value} {below : List Frame} {meth : Method} {c : Code} {T T' : State} {locs : List Loc} {cells slots : Nat} {g g' : JFrame} {K : Outcome → State → Prop} {h : Heap}
/-- the run from T with g on top comes to an end at which K holds -/
def own_Go (p : Program) (e : Env) (below : List Frame) (K : Outcome → State → Prop) (T : State) (g : JFrame) : Prop := ∃ t o, Steps p.tables e below (T.setTop g) t ∧ t.status = .running ∧ Ended t below o ∧ K o t
def own_K (s : State) (Q : Option Value → Heap → List Loc → Prop) (kc ks : Nat) : Outcome → State → Prop := fun o t => ∃ v L, o = .returned v ∧ Q v t.heap L ∧ FrameEnd s o t L kc ks
theorem own_st (k : ∀ t, Steps p.tables e below (T'.setTop g') t → Steps p.tables e below (T.setTop g) t) (h : own_Go p e below K T' g') : own_Go p e below K T g := by
  obtain ⟨t, o, h1, h2⟩ := h; exact ⟨t, o, k t h1, h2⟩
theorem own_tr (k : Steps p.tables e below (T.setTop g) (T'.setTop g')) (h : own_Go p e below K T' g') : own_Go p e below K T g := by
  obtain ⟨t, o, h1, h2⟩ := h; exact ⟨t, o, k.trans h1, h2⟩
theorem own_in (q : g = g') (h : own_Go p e below K T g') : ∃ t o, Steps p.tables e below (T.setTop g) t ∧ t.status = .running ∧ Ended t below o ∧ K o t := by
  obtain ⟨t, o, h1, h2⟩ := h; exact ⟨t, o, own_cast q h1, h2⟩
variable {Q : Option Value → Heap → List Loc → Prop} {kc ks pc : Nat} {Ls : Array Slot} {rest : List Value} {x : MethodName} {S : Spec} {code : ByteArray} {maxLocals : Nat} {s₁ : State}
theorem own_end (X : Stand p l e R s m args below meth c T locs cells slots) {v : Option Value} (hv : meth.sig.returnType = none → v = none) (hlk : meth.locks = false) (eT : T.heap = h) (hQ : Q v h locs) (hc : cells ≤ kc) (hs : slots ≤ ks)
    (k : ∀ fs, (∀ (f : JFrame) (acts : List Action), f.method = m → f.locked = none → f.entered = [] → (doReturn e (T.setTop f) acts v).1 = T.setFrames fs) → Steps p.tables e below (T.setTop g) (T.setFrames fs)) : own_Go p e below (own_K s Q kc ks) T g := by
  obtain ⟨fs, hr, hrun, hended, hW, hsame⟩ := X.leave (v := v) hv hlk
  refine ⟨_, _, k fs hr, hrun, hended, v, locs, rfl, ?_, ⟨_, rfl⟩, hW, hsame.mono hc hs⟩
  show Q v T.heap locs
  rw [eT]; exact hQ
theorem own_retI (X : Stand p l e R s m args below meth c T locs cells slots) (hx : p.tables.exec = Jvm.exec) (Bd : BodyLoose p l x S code maxLocals (some .int) e s m args below meth c s₁) {z : Int32} (hd : decode c.code pc = .ok (.ireturn, 1)) (eT : T.heap = h) (hQ : Q (some (.int z)) h locs) (hc : cells ≤ kc) (hs : slots ≤ ks) :
    own_Go p e below (own_K s Q kc ks) T (mkF m pc Ls (.int z :: rest)) :=
  own_end X (fun h => by rw [Bd.returns] at h; cases h) Bd.notSynchronized eT hQ hc hs fun fs hr => retOut X hx Bd.returns rfl (Or.inl ⟨rfl, Or.inl rfl, z, rfl⟩) hd hr
theorem own_retJ (X : Stand p l e R s m args below meth c T locs cells slots) (hx : p.tables.exec = Jvm.exec) (Bd : BodyLoose p l x S code maxLocals (some .long) e s m args below meth c s₁) {z : Int64} (hd : decode c.code pc = .ok (.lreturn, 1)) (eT : T.heap = h) (hQ : Q (some (.long z)) h locs) (hc : cells ≤ kc) (hs : slots ≤ ks) :
    own_Go p e below (own_K s Q kc ks) T (mkF m pc Ls (.long z :: rest)) :=
  own_end X (fun h => by rw [Bd.returns] at h; cases h) Bd.notSynchronized eT hQ hc hs fun fs hr => retOut X hx Bd.returns rfl (Or.inr (Or.inl ⟨rfl, rfl, z, rfl⟩)) hd hr
theorem own_retN (X : Stand p l e R s m args below meth c T locs cells slots) (hx : p.tables.exec = Jvm.exec) {t : FieldType} (Bd : BodyLoose p l x S code maxLocals (some t) e s m args below meth c s₁) (ht : t = .boolean ∨ t = .byte ∨ t = .char ∨ t = .short) {z : Int32} (hn : narrow t (.int z) = .int z) (hd : decode c.code pc = .ok (.ireturn, 1)) (eT : T.heap = h) (hQ : Q (some (.int z)) h locs) (hc : cells ≤ kc) (hs : slots ≤ ks) :
    own_Go p e below (own_K s Q kc ks) T (mkF m pc Ls (.int z :: rest)) :=
  own_end X (fun h => by rw [Bd.returns] at h; cases h) Bd.notSynchronized eT hQ hc hs fun fs hr => retOut X hx Bd.returns hn (Or.inl ⟨rfl, Or.inr ht, z, rfl⟩) hd hr
theorem own_retA (X : Stand p l e R s m args below meth c T locs cells slots) (hx : p.tables.exec = Jvm.exec) {t : FieldType} (Bd : BodyLoose p l x S code maxLocals (some t) e s m args below meth c s₁) (ht : t.isReference = true) {w : Value} (hw : w.isRef = true) (hd : decode c.code pc = .ok (.areturn, 1)) (eT : T.heap = h) (hQ : Q (some w) h locs) (hc : cells ≤ kc) (hs : slots ≤ ks) :
    own_Go p e below (own_K s Q kc ks) T (mkF m pc Ls (w :: rest)) :=
  own_end X (fun h => by rw [Bd.returns] at h; cases h) Bd.notSynchronized eT hQ hc hs fun fs hr => retOut X hx Bd.returns (by cases t <;> first | (cases ht; done) | rfl) (Or.inr (Or.inr (Or.inr (Or.inr ⟨rfl, ht, hw⟩)))) hd hr
theorem own_retV (X : Stand p l e R s m args below meth c T locs cells slots) (hx : p.tables.exec = Jvm.exec) (Bd : BodyLoose p l x S code maxLocals none e s m args below meth c s₁) (hd : decode c.code pc = .ok (.return_, 1)) (eT : T.heap = h) (hQ : Q none h locs) (hc : cells ≤ kc) (hs : slots ≤ ks) :
    own_Go p e below (own_K s Q kc ks) T (mkF m pc Ls []) :=
  own_end X (fun _ => rfl) Bd.notSynchronized eT hQ hc hs fun fs hr => X.returnOut hx Bd.returns hd hr
end Own
theorem own_Sta_keep {Z : State} {h h' : Heap} {C n d : String} {v : Value} {ws : List Addr} (F : Sta Z h C n d v) (K : Keep h h' ws) (q : ∀ x ∈ ws, ∀ cell : Cell, h[x]? = some cell → cell.vm.isStatics = false) : Sta Z h' C n d v := by
  obtain ⟨cf, i, k, f, st, cell, h1, h2, h3, h4, h5, h6, h7⟩ := F
  exact ⟨cf, i, k, f, st, cell, h1, h2, h3, h4, K.2.1 _ _ h5 (fun hm => by rw [q _ hm _ h5] at h6; cases h6), h6, h7⟩
theorem own_Ins_keep {Z : State} {h h' : Heap} {a : Addr} {C : String} {b : Bool} {ws : List Addr} (F : Ins Z h a C b) (K : Keep h h' ws) : Ins Z h' a C b := by
  obtain ⟨cell, cT, h1, h2, h3⟩ := F
  obtain ⟨c', e1, e2, e3, -⟩ := K.2.2 _ _ h1
  exact ⟨c', cT, e1, h2, by rw [e2, e3]; exact h3⟩
theorem own_enum {Z : State} {args : Array Value} {C D n d : String} (h : (Cond.exactly (Term.static C n d) D).value args Z none Z [] = some true) (hi : (Cond.initializedFor C n d).before args Z = true ∨ ((Cond.initialized C).before args Z = true ∧ (Cond.laysStatic C n d).before args Z = true)) :
    ∃ a, (Term.static C n d).eval args Z none [] Z = some (.ref a) ∧ Sta Z Z.heap C n d (.ref a) ∧ Exa Z Z.heap a D := by
  obtain ⟨a, e⟩ := exa_v h
  exact ⟨a, e, Sta.start e hi, Exa.start e h⟩
theorem own_ord {Z : State} {args : Array Value} {t : Term} {a : Addr} {O n d : String} {k : Int32} (e : t.eval args Z none [] Z = some (.ref a)) (h : (Cond.eq (Term.field t O n d) (Term.int k)).value args Z none Z [] = some true) : Fld Z Z.heap a O n d (.int k) := by
  refine Fld.start ?_
  have q := fld_at (C := O) (n := n) (dd := d) (first := Z) (o := none) (idx := []) (args := args) e
  obtain ⟨x, y, h1, h2, -⟩ := cmp_v (Or.inl h)
  rw [q] at h1
  have h2' : some (Value.int k) = some y := h2
  cases h2'
  cases x <;> simp [Cond.value, Term.eval, e, h1] at h
  rw [h1, h]
theorem own_bb (x : Int32) : x.toInt8.toInt32.toInt8.toInt32 = x.toInt8.toInt32 := by simp
theorem own_cc (x : Int32) : x.toUInt32.toUInt16.toUInt32.toInt32.toUInt32.toUInt16.toUInt32.toInt32 = x.toUInt32.toUInt16.toUInt32.toInt32 := by simp only [UInt32.toUInt32_toInt32, UInt16.toUInt16_toUInt32]
theorem own_nar_ref {t : FieldType} {v : Value} (h : v.isRef = true) (ht : t.isReference = true) : narrow t v = v := by cases t <;> first | (cases ht; done) | rfl
theorem own_fits_ref {t : FieldType} {v : Value} (h : v.isRef = true) (ht : t.isReference = true) : fits t v = true := by rcases ref_cases h with rfl | ⟨a, rfl⟩ <;> cases t <;> first | (cases ht; done) | rfl
theorem own_nar_b {z : Int32} (h : z = 0 ∨ z = 1) : narrow .boolean (.int z) = .int z := by rcases h with rfl | rfl <;> rfl
theorem own_fits_b {z : Int32} (h : z = 0 ∨ z = 1) : fits .boolean (.int z) = true := by rcases h with rfl | rfl <;> rfl
theorem own_d1_0 : decode prog_6_method_4_code 0 = .ok (.aload_n 0, 1) := by decide +kernel
theorem own_d1_1 : decode prog_6_method_4_code 1 = .ok (.getstatic 10, 3) := by decide +kernel
theorem own_d1_4 : decode prog_6_method_4_code 4 = .ok (.if_acmp .eq 10, 3) := by decide +kernel
theorem own_d1_14 : decode prog_6_method_4_code 14 = .ok (.iconst 1, 1) := by decide +kernel
theorem own_d1_15 : decode prog_6_method_4_code 15 = .ok (.goto 4, 3) := by decide +kernel
theorem own_d1_19 : decode prog_6_method_4_code 19 = .ok (.ireturn, 1) := by decide +kernel
theorem own_d1_7 : decode prog_6_method_4_code 7 = .ok (.aload_n 0, 1) := by decide +kernel
theorem own_d1_8 : decode prog_6_method_4_code 8 = .ok (.getstatic 13, 3) := by decide +kernel
theorem own_d1_11 : decode prog_6_method_4_code 11 = .ok (.if_acmp .ne 7, 3) := by decide +kernel
theorem own_d1_18 : decode prog_6_method_4_code 18 = .ok (.iconst 0, 1) := by decide +kernel
theorem own_pn0 : plainName "com/example/durable_cron/durablecron/schedule/JobState" = true := by first | (simp [plainName, overriddenIn]; done) | decide +kernel
theorem own_pd0 : parseMethodDescriptor "()Z" = some ⟨[], some .boolean⟩ := by decide +kernel
theorem own_pn1 : plainName "com/example/durable_cron/durablecron/schedule/JobStateIsFinalPinLaw" = true := by first | (simp [plainName, overriddenIn]; done) | decide +kernel

def own_r1 : Room := { frames := 0, cells := 0, slots := 0, locals := 0 }
theorem own_ef1 (m : MethodId) (x0 : Addr) : entryFrame m #[(.ref x0)] 1 = mkF m 0 #[.val (.ref x0)] [] := by first | (simp [entryFrame, mkF, argsToLocals, Value.category]; done) | rfl
def own_Q1 (Z : State) (a aC aF : Addr) (r : Int32) (h0 : Heap) (n0 : Nat) : Option Value → Heap → List Loc → Prop := fun v h L => v = some (.int r) ∧ Fr n0 L ∧ h = h0
set_option maxRecDepth 65536 in
set_option maxHeartbeats 40000000 in
theorem own_rm1 (l : Launch) (Z : State) (a0 : Array Value) (hw : ∀ d ∈ tables_1, d.before a0 Z = true) (ws : List Jvm.Cond) (a aC aF : Addr) (r : Int32) (h0 : Heap) (n0 : Nat) (Z0 : n0 ≤ h0.size) (S_COMPLETED : Sta Z h0 "com/example/durable_cron/durablecron/schedule/JobState" "COMPLETED" "Lcom/example/durable_cron/durablecron/schedule/JobState;" (.ref aC)) (S_FAULTED : Sta Z h0 "com/example/durable_cron/durablecron/schedule/JobState" "FAULTED" "Lcom/example/durable_cron/durablecron/schedule/JobState;" (.ref aF)) (hr_COMPLETED : a = aC → r = 1) (hr_FAULTED : a = aF → r = 1) (hr_no : ¬ a = aC → ¬ a = aF → r = 0) :
    MetFree l (⟨"com/example/durable_cron/durablecron/schedule/JobState", "isFinal", "()Z"⟩ : MethodName) (head1 (Jvm.Cond.code (⟨"com/example/durable_cron/durablecron/schedule/JobState", "isFinal", "()Z"⟩ : MethodName) prog_6_method_4_code 1 (some .boolean) :: ws) own_r1) (fun a_ U_ => a_ = #[(.ref a)] ∧ Z.Warmed39 U_.vm ∧ U_.heap = h0) (fun _ _ _ _ _ => True) (fun _ U_ o_ U'_ => ∃ v_ L_, o_ = .returned v_ ∧ own_Q1 Z a aC aF  r  h0 n0 v_ U'_.heap L_ ∧ FrameEnd U_ o_ U'_ L_ own_r1.cells own_r1.slots) := by
  refine MetFree.of_bodySF (plainFor_of_name own_pn0) hisR ?_
  intro p e s m args below meth c s₁ Bd hml0 hP hK
  obtain ⟨rfl, hZ, hh⟩ := hP
  have hx := Bd.exec
  have hby := Bd.bytes
  have hml : c.maxLocals = 1 := hml0
  have hown : s.vm.findClass "com/example/durable_cron/durablecron/schedule/JobState" = some m.cls := findClass_of_methodNamed Bd.named
  have hnm := (name_of_methodNamed Bd.named Bd.method).1
  have X0 : Stand p l e own_r1 s m #[(.ref a)] below meth c s₁ [] 0 0 := Stand.of_body Bd
  have e0 : s₁.heap = h0 := by rw [← hh, Bd.state]; rfl
  have N0 := Fr.nil n0
  refine own_in (own_ef1 m a) ?_
  show own_Go p e below (own_K s (own_Q1 Z a aC aF  r  h0 n0) own_r1.cells own_r1.slots) s₁ (mkF m 0 #[.val (.ref a)] [])
  refine own_st (T' := s₁) (g' := (mkF m 1 #[.val (.ref a)] [(.ref a)])) (fun t k => ?_) ?_
  · show Steps p.tables e below (s₁.setTop (mkF m 0 #[.val (.ref a)] [])) t
    refine XS.aloadN X0.here hx rfl (hb hby own_d1_0) rfl rfl ?_
    show Steps p.tables e below (s₁.setTop (mkF m 1 #[.val (.ref a)] [(.ref a)])) t
    exact k
  obtain ⟨T1, X1, e1, st1⟩ := getS2 X0 hx hZ hown (host := "") (Or.inl (hw _ (List.mem_of_getElem? (i := 8) rfl))) Via.refl e0 S_COMPLETED (g := (mkF m 1 #[.val (.ref a)] [(.ref a)])) rfl (hb hby own_d1_1)
  refine own_st (T' := T1) (g' := (mkF m 4 #[.val (.ref a)] [(.ref aC), (.ref a)])) st1 ?_
  by_cases hc2 : a = aC
  · refine own_st (T' := T1) (g' := (mkF m 19 #[.val (.ref a)] [(.int (1 : Int32))])) (fun t k => ?_) ?_
    · show Steps p.tables e below (T1.setTop (mkF m 4 #[.val (.ref a)] [(.ref aC), (.ref a)])) t
      refine Jvm.RoadKit.acmp (g := (mkF m 4 #[.val (.ref a)] [(.ref aC), (.ref a)])) X1 hx rfl rfl rfl (pc0 := 4) (pc' := 14) (same := true) rfl (hb hby own_d1_4) rfl (decide_eq_true (congrArg Value.ref hc2)) (by decide) (by decide) ?_
      show Steps p.tables e below (T1.setTop (mkF m 14 #[.val (.ref a)] [])) t
      refine XS.iconst X1.here hx rfl (hb hby own_d1_14) ?_
      show Steps p.tables e below (T1.setTop (mkF m 15 #[.val (.ref a)] [(.int (1 : Int32))])) t
      refine XS.goto X1.here hx rfl (pc0 := 15) (pc' := 19) rfl (hb hby own_d1_15) (by decide) (by decide) ?_
      show Steps p.tables e below (T1.setTop (mkF m 19 #[.val (.ref a)] [(.int (1 : Int32))])) t
      exact k
    exact own_retN X1 hx Bd (t := .boolean) (by simp) rfl (hb hby own_d1_19) e1 (⟨by rw [hr_COMPLETED hc2], N0, rfl⟩) (by decide) (by decide)
  · refine own_st (T' := T1) (g' := (mkF m 8 #[.val (.ref a)] [(.ref a)])) (fun t k => ?_) ?_
    · show Steps p.tables e below (T1.setTop (mkF m 4 #[.val (.ref a)] [(.ref aC), (.ref a)])) t
      refine Jvm.RoadKit.acmp (g := (mkF m 4 #[.val (.ref a)] [(.ref aC), (.ref a)])) X1 hx rfl rfl rfl (pc0 := 4) (pc' := 7) (same := false) rfl (hb hby own_d1_4) rfl (decide_eq_false fun q => hc2 (Value.ref.inj q)) (by decide) (by decide) ?_
      show Steps p.tables e below (T1.setTop (mkF m 7 #[.val (.ref a)] [])) t
      refine XS.aloadN X1.here hx rfl (hb hby own_d1_7) rfl rfl ?_
      show Steps p.tables e below (T1.setTop (mkF m 8 #[.val (.ref a)] [(.ref a)])) t
      exact k
    obtain ⟨T3, X3, e3, st3⟩ := getS2 X1 hx hZ hown (host := "") (Or.inl (hw _ (List.mem_of_getElem? (i := 10) rfl))) Via.refl e1 S_FAULTED (g := (mkF m 8 #[.val (.ref a)] [(.ref a)])) rfl (hb hby own_d1_8)
    refine own_st (T' := T3) (g' := (mkF m 11 #[.val (.ref a)] [(.ref aF), (.ref a)])) st3 ?_
    by_cases hc4 : a = aF
    · refine own_st (T' := T3) (g' := (mkF m 19 #[.val (.ref a)] [(.int (1 : Int32))])) (fun t k => ?_) ?_
      · show Steps p.tables e below (T3.setTop (mkF m 11 #[.val (.ref a)] [(.ref aF), (.ref a)])) t
        refine Jvm.RoadKit.acmp (g := (mkF m 11 #[.val (.ref a)] [(.ref aF), (.ref a)])) X3 hx rfl rfl rfl (pc0 := 11) (pc' := 14) (same := true) rfl (hb hby own_d1_11) rfl (decide_eq_true (congrArg Value.ref hc4)) (by decide) (by decide) ?_
        show Steps p.tables e below (T3.setTop (mkF m 14 #[.val (.ref a)] [])) t
        refine XS.iconst X3.here hx rfl (hb hby own_d1_14) ?_
        show Steps p.tables e below (T3.setTop (mkF m 15 #[.val (.ref a)] [(.int (1 : Int32))])) t
        refine XS.goto X3.here hx rfl (pc0 := 15) (pc' := 19) rfl (hb hby own_d1_15) (by decide) (by decide) ?_
        show Steps p.tables e below (T3.setTop (mkF m 19 #[.val (.ref a)] [(.int (1 : Int32))])) t
        exact k
      exact own_retN X3 hx Bd (t := .boolean) (by simp) rfl (hb hby own_d1_19) e3 (⟨by rw [hr_FAULTED hc4], N0, rfl⟩) (by decide) (by decide)
    · refine own_st (T' := T3) (g' := (mkF m 19 #[.val (.ref a)] [(.int (0 : Int32))])) (fun t k => ?_) ?_
      · show Steps p.tables e below (T3.setTop (mkF m 11 #[.val (.ref a)] [(.ref aF), (.ref a)])) t
        refine Jvm.RoadKit.acmp (g := (mkF m 11 #[.val (.ref a)] [(.ref aF), (.ref a)])) X3 hx rfl rfl rfl (pc0 := 11) (pc' := 18) (same := false) rfl (hb hby own_d1_11) rfl (decide_eq_false fun q => hc4 (Value.ref.inj q)) (by decide) (by decide) ?_
        show Steps p.tables e below (T3.setTop (mkF m 18 #[.val (.ref a)] [])) t
        refine XS.iconst X3.here hx rfl (hb hby own_d1_18) ?_
        show Steps p.tables e below (T3.setTop (mkF m 19 #[.val (.ref a)] [(.int (0 : Int32))])) t
        exact k
      exact own_retN X3 hx Bd (t := .boolean) (by simp) rfl (hb hby own_d1_19) e3 (⟨by rw [hr_no hc2 hc4], N0, rfl⟩) (by decide) (by decide)
theorem own_ef0 (m : MethodId) (x0 : Int32) : entryFrame m #[(.int x0)] maxLocals = mkF m 0 #[.val (.int x0), .unset, .unset, .unset] [] := by first | (simp [entryFrame, mkF, argsToLocals, Value.category, maxLocals]; done) | rfl
def own_Q0 (Z : State) (k0 : Int32) (aE aD aC aF : Addr) (h0 : Heap) (n0 : Nat) : Option Value → Heap → List Loc → Prop := fun v h L => v = some (.int 1) ∧ Fr n0 L
set_option maxRecDepth 65536 in
set_option maxHeartbeats 40000000 in
theorem own_rm0 (l : Launch) (Z : State) (a0 : Array Value) (hw : ∀ d ∈ tables_1, d.before a0 Z = true) (ws : List Jvm.Cond) (k0 : Int32) (aE aD aC aF : Addr) (h0 : Heap) (n0 : Nat) (Z0 : n0 ≤ h0.size) (S_ENABLED : Sta Z h0 "com/example/durable_cron/durablecron/schedule/JobState" "ENABLED" "Lcom/example/durable_cron/durablecron/schedule/JobState;" (.ref aE)) (S_DISABLED : Sta Z h0 "com/example/durable_cron/durablecron/schedule/JobState" "DISABLED" "Lcom/example/durable_cron/durablecron/schedule/JobState;" (.ref aD)) (S_COMPLETED : Sta Z h0 "com/example/durable_cron/durablecron/schedule/JobState" "COMPLETED" "Lcom/example/durable_cron/durablecron/schedule/JobState;" (.ref aC)) (S_FAULTED : Sta Z h0 "com/example/durable_cron/durablecron/schedule/JobState" "FAULTED" "Lcom/example/durable_cron/durablecron/schedule/JobState;" (.ref aF)) (E_ENABLED : Exa Z h0 aE "com/example/durable_cron/durablecron/schedule/JobState") (E_DISABLED : Exa Z h0 aD "com/example/durable_cron/durablecron/schedule/JobState") (E_COMPLETED : Exa Z h0 aC "com/example/durable_cron/durablecron/schedule/JobState") (E_FAULTED : Exa Z h0 aF "com/example/durable_cron/durablecron/schedule/JobState") (naEaC : ¬ aE = aC) (naEaF : ¬ aE = aF) (naDaC : ¬ aD = aC) (naDaF : ¬ aD = aF) :
    MetFree l x (head1 (Jvm.Cond.code x code maxLocals ret :: ws) room_1) (fun a_ U_ => a_ = #[(.int k0)] ∧ Z.Warmed39 U_.vm ∧ U_.heap = h0) (fun _ _ _ _ _ => True) (fun _ U_ o_ U'_ => ∃ v_ L_, o_ = .returned v_ ∧ own_Q0 Z k0  aE aD aC aF  h0 n0 v_ U'_.heap L_ ∧ FrameEnd U_ o_ U'_ L_ room_1.cells room_1.slots) := by
  refine MetFree.of_bodySF (plainFor_of_name own_pn1) hisR ?_
  intro p e s m args below meth c s₁ Bd hml0 hP hK
  obtain ⟨rfl, hZ, hh⟩ := hP
  have hx := Bd.exec
  have hby := Bd.bytes
  have hml : c.maxLocals = 4 := hml0
  have hown : s.vm.findClass "com/example/durable_cron/durablecron/schedule/JobStateIsFinalPinLaw" = some m.cls := findClass_of_methodNamed Bd.named
  have hnm := (name_of_methodNamed Bd.named Bd.method).1
  have X0 : Stand p l e room_1 s m #[(.int k0)] below meth c s₁ [] 0 0 := Stand.of_body Bd
  have e0 : s₁.heap = h0 := by rw [← hh, Bd.state]; rfl
  have N0 := Fr.nil n0
  refine own_in (own_ef0 m k0) ?_
  show own_Go p e below (own_K s (own_Q0 Z k0  aE aD aC aF  h0 n0) room_1.cells room_1.slots) s₁ (mkF m 0 #[.val (.int k0), .unset, .unset, .unset] [])
  refine own_st (T' := s₁) (g' := (mkF m 5 #[.val (.int k0), .val (.int (k0 &&& (3 : Int32))), .unset, .unset] [(.int (k0 &&& (3 : Int32)))])) (fun t k => ?_) ?_
  · show Steps p.tables e below (s₁.setTop (mkF m 0 #[.val (.int k0), .unset, .unset, .unset] [])) t
    refine XS.iloadN X0.here hx rfl (hb hby at_0) rfl ?_
    show Steps p.tables e below (s₁.setTop (mkF m 1 #[.val (.int k0), .unset, .unset, .unset] [(.int k0)])) t
    refine XS.iconst X0.here hx rfl (hb hby at_1) ?_
    show Steps p.tables e below (s₁.setTop (mkF m 2 #[.val (.int k0), .unset, .unset, .unset] [(.int (3 : Int32)), (.int k0)])) t
    refine XS.iand X0.here hx rfl (hb hby at_2) rfl ?_
    show Steps p.tables e below (s₁.setTop (mkF m 3 #[.val (.int k0), .unset, .unset, .unset] [(.int (k0 &&& (3 : Int32)))])) t
    refine XS.istoreN X0.here hx rfl (hb hby at_3) rfl (l' := #[.val (.int k0), .val (.int (k0 &&& (3 : Int32))), .unset, .unset]) rfl ?_
    show Steps p.tables e below (s₁.setTop (mkF m 4 #[.val (.int k0), .val (.int (k0 &&& (3 : Int32))), .unset, .unset] [])) t
    refine XS.iloadN X0.here hx rfl (hb hby at_4) rfl ?_
    show Steps p.tables e below (s₁.setTop (mkF m 5 #[.val (.int k0), .val (.int (k0 &&& (3 : Int32))), .unset, .unset] [(.int (k0 &&& (3 : Int32)))])) t
    exact k
  by_cases hc1 : (k0 &&& (3 : Int32)) = (0 : Int32)
  · refine own_st (T' := s₁) (g' := (mkF m 8 #[.val (.int k0), .val (.int (k0 &&& (3 : Int32))), .unset, .unset] [])) (fun t k => ?_) ?_
    · show Steps p.tables e below (s₁.setTop (mkF m 5 #[.val (.int k0), .val (.int (k0 &&& (3 : Int32))), .unset, .unset] [(.int (k0 &&& (3 : Int32)))])) t
      refine XS.ifNo X0.here hx rfl (hb hby at_5) rfl ((if0 _ _).trans (teq hc1).2) ?_
      show Steps p.tables e below (s₁.setTop (mkF m 8 #[.val (.int k0), .val (.int (k0 &&& (3 : Int32))), .unset, .unset] [])) t
      exact k
    obtain ⟨T2, X2, e2, st2⟩ := getS2 X0 hx hZ hown (host := "") (Or.inl (hw _ (List.mem_of_getElem? (i := 0) rfl))) Via.refl e0 S_ENABLED (g := (mkF m 8 #[.val (.int k0), .val (.int (k0 &&& (3 : Int32))), .unset, .unset] [])) rfl (hb hby at_8)
    refine own_st (T' := T2) (g' := (mkF m 11 #[.val (.int k0), .val (.int (k0 &&& (3 : Int32))), .unset, .unset] [(.ref aE)])) st2 ?_
    refine own_st (T' := T2) (g' := (mkF m 52 #[.val (.int k0), .val (.int (k0 &&& (3 : Int32))), .val (.ref aE), .val (.int (0 : Int32))] [(.ref aE)])) (fun t k => ?_) ?_
    · show Steps p.tables e below (T2.setTop (mkF m 11 #[.val (.int k0), .val (.int (k0 &&& (3 : Int32))), .unset, .unset] [(.ref aE)])) t
      refine XS.astoreN X2.here hx rfl (hb hby at_11) rfl rfl (l' := #[.val (.int k0), .val (.int (k0 &&& (3 : Int32))), .val (.ref aE), .unset]) rfl ?_
      show Steps p.tables e below (T2.setTop (mkF m 12 #[.val (.int k0), .val (.int (k0 &&& (3 : Int32))), .val (.ref aE), .unset] [])) t
      refine XS.iconst X2.here hx rfl (hb hby at_12) ?_
      show Steps p.tables e below (T2.setTop (mkF m 13 #[.val (.int k0), .val (.int (k0 &&& (3 : Int32))), .val (.ref aE), .unset] [(.int (0 : Int32))])) t
      refine XS.istoreN X2.here hx rfl (hb hby at_13) rfl (l' := #[.val (.int k0), .val (.int (k0 &&& (3 : Int32))), .val (.ref aE), .val (.int (0 : Int32))]) rfl ?_
      show Steps p.tables e below (T2.setTop (mkF m 14 #[.val (.int k0), .val (.int (k0 &&& (3 : Int32))), .val (.ref aE), .val (.int (0 : Int32))] [])) t
      refine XS.goto X2.here hx rfl (pc0 := 14) (pc' := 51) rfl (hb hby at_14) (by decide) (by decide) ?_
      show Steps p.tables e below (T2.setTop (mkF m 51 #[.val (.int k0), .val (.int (k0 &&& (3 : Int32))), .val (.ref aE), .val (.int (0 : Int32))] [])) t
      refine XS.aloadN X2.here hx rfl (hb hby at_51) rfl rfl ?_
      show Steps p.tables e below (T2.setTop (mkF m 52 #[.val (.int k0), .val (.int (k0 &&& (3 : Int32))), .val (.ref aE), .val (.int (0 : Int32))] [(.ref aE)])) t
      exact k
    obtain ⟨cq3, kq3, q3a, q3b, q3c⟩ := isOf hZ e2 E_ENABLED
    obtain ⟨_, _, ⟨T3, L3, c3, n3⟩, -, X3, ⟨Lc3, hQ3, l3, y3, z3⟩, st3⟩ := X2.virtualBack hx (y := (⟨"com/example/durable_cron/durablecron/schedule/JobState", "isFinal", "()Z"⟩ : MethodName)) (z := (⟨"com/example/durable_cron/durablecron/schedule/JobState", "isFinal", "()Z"⟩ : MethodName)) hown (mvT hZ (hw _ (List.mem_of_getElem? (i := 3) rfl))) (mvT hZ (hw _ (List.mem_of_getElem? (i := 4) rfl))) (notFace_of_selects (args := #[]) (mvT hZ (hw _ (List.mem_of_getElem? (i := 6) rfl)))) (mvT hZ (hw _ (List.mem_of_getElem? (i := 6) rfl))) (mvT hZ (hw _ (List.mem_of_getElem? (i := 5) rfl))) (by decide) (backOf (W := 0) (own_rm1 l Z a0 hw [] aE aC aF (0 : Int32) h0 n0 Z0 S_COMPLETED S_FAULTED (fun q => absurd q naEaC) (fun q => absurd q naEaF) (fun _ _ => rfl)) hZ (hw _ (List.mem_of_getElem? (i := 7) rfl)) (hw _ (List.mem_of_getElem? (i := 1) rfl)) (by decide) (by decide)) q3a q3c (g := (mkF m 52 #[.val (.int k0), .val (.int (k0 &&& (3 : Int32))), .val (.ref aE), .val (.int (0 : Int32))] [(.ref aE)])) rfl (by rw [hml]; rfl) (Steps.refl _) (argsL := []) (rest := []) (lenOf own_pd0 rfl) rfl (by show 2 * 0 + _ ≤ _; exact Nat.le_of_eq rfl) (hb hby at_52) (fun _ _ => ⟨rfl, e2, (by decide : 0 + 0 ≤ _), (by decide : 0 + 0 ≤ _)⟩)
    dsimp only [Pt.U, Pt.locs, Pt.cells, Pt.slots] at X3 l3 y3 z3 st3 hQ3
    subst l3 y3 z3
    obtain ⟨rfl, N3q, e3⟩ := hQ3
    have N3 := Fr.app N0 N3q
    refine own_tr (T' := T3) (g' := (mkF m 55 #[.val (.int k0), .val (.int (k0 &&& (3 : Int32))), .val (.ref aE), .val (.int (0 : Int32))] [(.int (0 : Int32))])) st3 ?_
    refine own_st (T' := T3) (g' := (mkF m 64 #[.val (.int k0), .val (.int (k0 &&& (3 : Int32))), .val (.ref aE), .val (.int (0 : Int32))] [(.int (1 : Int32))])) (fun t k => ?_) ?_
    · show Steps p.tables e below (T3.setTop (mkF m 55 #[.val (.int k0), .val (.int (k0 &&& (3 : Int32))), .val (.ref aE), .val (.int (0 : Int32))] [(.int (0 : Int32))])) t
      refine XS.iloadN X3.here hx rfl (hb hby at_55) rfl ?_
      show Steps p.tables e below (T3.setTop (mkF m 56 #[.val (.int k0), .val (.int (k0 &&& (3 : Int32))), .val (.ref aE), .val (.int (0 : Int32))] [(.int (0 : Int32)), (.int (0 : Int32))])) t
      refine XS.icmpNo X3.here hx rfl (hb hby at_56) rfl (teq (rfl : (0 : Int32) = (0 : Int32))).2 ?_
      show Steps p.tables e below (T3.setTop (mkF m 59 #[.val (.int k0), .val (.int (k0 &&& (3 : Int32))), .val (.ref aE), .val (.int (0 : Int32))] [])) t
      refine XS.iconst X3.here hx rfl (hb hby at_59) ?_
      show Steps p.tables e below (T3.setTop (mkF m 60 #[.val (.int k0), .val (.int (k0 &&& (3 : Int32))), .val (.ref aE), .val (.int (0 : Int32))] [(.int (1 : Int32))])) t
      refine XS.goto X3.here hx rfl (pc0 := 60) (pc' := 64) rfl (hb hby at_60) (by decide) (by decide) ?_
      show Steps p.tables e below (T3.setTop (mkF m 64 #[.val (.int k0), .val (.int (k0 &&& (3 : Int32))), .val (.ref aE), .val (.int (0 : Int32))] [(.int (1 : Int32))])) t
      exact k
    exact own_retN X3 hx Bd (t := .boolean) (by simp) rfl (hb hby at_64) e3 (⟨rfl, N3⟩) (by decide) (by decide)
  · refine own_st (T' := s₁) (g' := (mkF m 19 #[.val (.int k0), .val (.int (k0 &&& (3 : Int32))), .unset, .unset] [(.int (1 : Int32)), (.int (k0 &&& (3 : Int32)))])) (fun t k => ?_) ?_
    · show Steps p.tables e below (s₁.setTop (mkF m 5 #[.val (.int k0), .val (.int (k0 &&& (3 : Int32))), .unset, .unset] [(.int (k0 &&& (3 : Int32)))])) t
      refine XS.ifYes X0.here hx rfl (pc0 := 5) (pc' := 17) rfl (hb hby at_5) rfl ((if0 _ _).trans (feq hc1).2) (by decide) (by decide) ?_
      show Steps p.tables e below (s₁.setTop (mkF m 17 #[.val (.int k0), .val (.int (k0 &&& (3 : Int32))), .unset, .unset] [])) t
      refine XS.iloadN X0.here hx rfl (hb hby at_17) rfl ?_
      show Steps p.tables e below (s₁.setTop (mkF m 18 #[.val (.int k0), .val (.int (k0 &&& (3 : Int32))), .unset, .unset] [(.int (k0 &&& (3 : Int32)))])) t
      refine XS.iconst X0.here hx rfl (hb hby at_18) ?_
      show Steps p.tables e below (s₁.setTop (mkF m 19 #[.val (.int k0), .val (.int (k0 &&& (3 : Int32))), .unset, .unset] [(.int (1 : Int32)), (.int (k0 &&& (3 : Int32)))])) t
      exact k
    by_cases hc4 : (k0 &&& (3 : Int32)) = (1 : Int32)
    · refine own_st (T' := s₁) (g' := (mkF m 22 #[.val (.int k0), .val (.int (k0 &&& (3 : Int32))), .unset, .unset] [])) (fun t k => ?_) ?_
      · show Steps p.tables e below (s₁.setTop (mkF m 19 #[.val (.int k0), .val (.int (k0 &&& (3 : Int32))), .unset, .unset] [(.int (1 : Int32)), (.int (k0 &&& (3 : Int32)))])) t
        refine XS.icmpNo X0.here hx rfl (hb hby at_19) rfl (teq hc4).2 ?_
        show Steps p.tables e below (s₁.setTop (mkF m 22 #[.val (.int k0), .val (.int (k0 &&& (3 : Int32))), .unset, .unset] [])) t
        exact k
      obtain ⟨T5, X5, e5, st5⟩ := getS2 X0 hx hZ hown (host := "") (Or.inl (hw _ (List.mem_of_getElem? (i := 14) rfl))) Via.refl e0 S_DISABLED (g := (mkF m 22 #[.val (.int k0), .val (.int (k0 &&& (3 : Int32))), .unset, .unset] [])) rfl (hb hby at_22)
      refine own_st (T' := T5) (g' := (mkF m 25 #[.val (.int k0), .val (.int (k0 &&& (3 : Int32))), .unset, .unset] [(.ref aD)])) st5 ?_
      refine own_st (T' := T5) (g' := (mkF m 52 #[.val (.int k0), .val (.int (k0 &&& (3 : Int32))), .val (.ref aD), .val (.int (0 : Int32))] [(.ref aD)])) (fun t k => ?_) ?_
      · show Steps p.tables e below (T5.setTop (mkF m 25 #[.val (.int k0), .val (.int (k0 &&& (3 : Int32))), .unset, .unset] [(.ref aD)])) t
        refine XS.astoreN X5.here hx rfl (hb hby at_25) rfl rfl (l' := #[.val (.int k0), .val (.int (k0 &&& (3 : Int32))), .val (.ref aD), .unset]) rfl ?_
        show Steps p.tables e below (T5.setTop (mkF m 26 #[.val (.int k0), .val (.int (k0 &&& (3 : Int32))), .val (.ref aD), .unset] [])) t
        refine XS.iconst X5.here hx rfl (hb hby at_26) ?_
        show Steps p.tables e below (T5.setTop (mkF m 27 #[.val (.int k0), .val (.int (k0 &&& (3 : Int32))), .val (.ref aD), .unset] [(.int (0 : Int32))])) t
        refine XS.istoreN X5.here hx rfl (hb hby at_27) rfl (l' := #[.val (.int k0), .val (.int (k0 &&& (3 : Int32))), .val (.ref aD), .val (.int (0 : Int32))]) rfl ?_
        show Steps p.tables e below (T5.setTop (mkF m 28 #[.val (.int k0), .val (.int (k0 &&& (3 : Int32))), .val (.ref aD), .val (.int (0 : Int32))] [])) t
        refine XS.goto X5.here hx rfl (pc0 := 28) (pc' := 51) rfl (hb hby at_28) (by decide) (by decide) ?_
        show Steps p.tables e below (T5.setTop (mkF m 51 #[.val (.int k0), .val (.int (k0 &&& (3 : Int32))), .val (.ref aD), .val (.int (0 : Int32))] [])) t
        refine XS.aloadN X5.here hx rfl (hb hby at_51) rfl rfl ?_
        show Steps p.tables e below (T5.setTop (mkF m 52 #[.val (.int k0), .val (.int (k0 &&& (3 : Int32))), .val (.ref aD), .val (.int (0 : Int32))] [(.ref aD)])) t
        exact k
      obtain ⟨cq6, kq6, q6a, q6b, q6c⟩ := isOf hZ e5 E_DISABLED
      obtain ⟨_, _, ⟨T6, L6, c6, n6⟩, -, X6, ⟨Lc6, hQ6, l6, y6, z6⟩, st6⟩ := X5.virtualBack hx (y := (⟨"com/example/durable_cron/durablecron/schedule/JobState", "isFinal", "()Z"⟩ : MethodName)) (z := (⟨"com/example/durable_cron/durablecron/schedule/JobState", "isFinal", "()Z"⟩ : MethodName)) hown (mvT hZ (hw _ (List.mem_of_getElem? (i := 3) rfl))) (mvT hZ (hw _ (List.mem_of_getElem? (i := 4) rfl))) (notFace_of_selects (args := #[]) (mvT hZ (hw _ (List.mem_of_getElem? (i := 6) rfl)))) (mvT hZ (hw _ (List.mem_of_getElem? (i := 6) rfl))) (mvT hZ (hw _ (List.mem_of_getElem? (i := 5) rfl))) (by decide) (backOf (W := 0) (own_rm1 l Z a0 hw [] aD aC aF (0 : Int32) h0 n0 Z0 S_COMPLETED S_FAULTED (fun q => absurd q naDaC) (fun q => absurd q naDaF) (fun _ _ => rfl)) hZ (hw _ (List.mem_of_getElem? (i := 7) rfl)) (hw _ (List.mem_of_getElem? (i := 1) rfl)) (by decide) (by decide)) q6a q6c (g := (mkF m 52 #[.val (.int k0), .val (.int (k0 &&& (3 : Int32))), .val (.ref aD), .val (.int (0 : Int32))] [(.ref aD)])) rfl (by rw [hml]; rfl) (Steps.refl _) (argsL := []) (rest := []) (lenOf own_pd0 rfl) rfl (by show 2 * 0 + _ ≤ _; exact Nat.le_of_eq rfl) (hb hby at_52) (fun _ _ => ⟨rfl, e5, (by decide : 0 + 0 ≤ _), (by decide : 0 + 0 ≤ _)⟩)
      dsimp only [Pt.U, Pt.locs, Pt.cells, Pt.slots] at X6 l6 y6 z6 st6 hQ6
      subst l6 y6 z6
      obtain ⟨rfl, N6q, e6⟩ := hQ6
      have N6 := Fr.app N0 N6q
      refine own_tr (T' := T6) (g' := (mkF m 55 #[.val (.int k0), .val (.int (k0 &&& (3 : Int32))), .val (.ref aD), .val (.int (0 : Int32))] [(.int (0 : Int32))])) st6 ?_
      refine own_st (T' := T6) (g' := (mkF m 64 #[.val (.int k0), .val (.int (k0 &&& (3 : Int32))), .val (.ref aD), .val (.int (0 : Int32))] [(.int (1 : Int32))])) (fun t k => ?_) ?_
      · show Steps p.tables e below (T6.setTop (mkF m 55 #[.val (.int k0), .val (.int (k0 &&& (3 : Int32))), .val (.ref aD), .val (.int (0 : Int32))] [(.int (0 : Int32))])) t
        refine XS.iloadN X6.here hx rfl (hb hby at_55) rfl ?_
        show Steps p.tables e below (T6.setTop (mkF m 56 #[.val (.int k0), .val (.int (k0 &&& (3 : Int32))), .val (.ref aD), .val (.int (0 : Int32))] [(.int (0 : Int32)), (.int (0 : Int32))])) t
        refine XS.icmpNo X6.here hx rfl (hb hby at_56) rfl (teq (rfl : (0 : Int32) = (0 : Int32))).2 ?_
        show Steps p.tables e below (T6.setTop (mkF m 59 #[.val (.int k0), .val (.int (k0 &&& (3 : Int32))), .val (.ref aD), .val (.int (0 : Int32))] [])) t
        refine XS.iconst X6.here hx rfl (hb hby at_59) ?_
        show Steps p.tables e below (T6.setTop (mkF m 60 #[.val (.int k0), .val (.int (k0 &&& (3 : Int32))), .val (.ref aD), .val (.int (0 : Int32))] [(.int (1 : Int32))])) t
        refine XS.goto X6.here hx rfl (pc0 := 60) (pc' := 64) rfl (hb hby at_60) (by decide) (by decide) ?_
        show Steps p.tables e below (T6.setTop (mkF m 64 #[.val (.int k0), .val (.int (k0 &&& (3 : Int32))), .val (.ref aD), .val (.int (0 : Int32))] [(.int (1 : Int32))])) t
        exact k
      exact own_retN X6 hx Bd (t := .boolean) (by simp) rfl (hb hby at_64) e6 (⟨rfl, N6⟩) (by decide) (by decide)
    · refine own_st (T' := s₁) (g' := (mkF m 33 #[.val (.int k0), .val (.int (k0 &&& (3 : Int32))), .unset, .unset] [(.int (2 : Int32)), (.int (k0 &&& (3 : Int32)))])) (fun t k => ?_) ?_
      · show Steps p.tables e below (s₁.setTop (mkF m 19 #[.val (.int k0), .val (.int (k0 &&& (3 : Int32))), .unset, .unset] [(.int (1 : Int32)), (.int (k0 &&& (3 : Int32)))])) t
        refine XS.icmpYes X0.here hx rfl (pc0 := 19) (pc' := 31) rfl (hb hby at_19) rfl (feq hc4).2 (by decide) (by decide) ?_
        show Steps p.tables e below (s₁.setTop (mkF m 31 #[.val (.int k0), .val (.int (k0 &&& (3 : Int32))), .unset, .unset] [])) t
        refine XS.iloadN X0.here hx rfl (hb hby at_31) rfl ?_
        show Steps p.tables e below (s₁.setTop (mkF m 32 #[.val (.int k0), .val (.int (k0 &&& (3 : Int32))), .unset, .unset] [(.int (k0 &&& (3 : Int32)))])) t
        refine XS.iconst X0.here hx rfl (hb hby at_32) ?_
        show Steps p.tables e below (s₁.setTop (mkF m 33 #[.val (.int k0), .val (.int (k0 &&& (3 : Int32))), .unset, .unset] [(.int (2 : Int32)), (.int (k0 &&& (3 : Int32)))])) t
        exact k
      by_cases hc7 : (k0 &&& (3 : Int32)) = (2 : Int32)
      · refine own_st (T' := s₁) (g' := (mkF m 36 #[.val (.int k0), .val (.int (k0 &&& (3 : Int32))), .unset, .unset] [])) (fun t k => ?_) ?_
        · show Steps p.tables e below (s₁.setTop (mkF m 33 #[.val (.int k0), .val (.int (k0 &&& (3 : Int32))), .unset, .unset] [(.int (2 : Int32)), (.int (k0 &&& (3 : Int32)))])) t
          refine XS.icmpNo X0.here hx rfl (hb hby at_33) rfl (teq hc7).2 ?_
          show Steps p.tables e below (s₁.setTop (mkF m 36 #[.val (.int k0), .val (.int (k0 &&& (3 : Int32))), .unset, .unset] [])) t
          exact k
        obtain ⟨T8, X8, e8, st8⟩ := getS2 X0 hx hZ hown (host := "") (Or.inl (hw _ (List.mem_of_getElem? (i := 13) rfl))) Via.refl e0 S_COMPLETED (g := (mkF m 36 #[.val (.int k0), .val (.int (k0 &&& (3 : Int32))), .unset, .unset] [])) rfl (hb hby at_36)
        refine own_st (T' := T8) (g' := (mkF m 39 #[.val (.int k0), .val (.int (k0 &&& (3 : Int32))), .unset, .unset] [(.ref aC)])) st8 ?_
        refine own_st (T' := T8) (g' := (mkF m 52 #[.val (.int k0), .val (.int (k0 &&& (3 : Int32))), .val (.ref aC), .val (.int (1 : Int32))] [(.ref aC)])) (fun t k => ?_) ?_
        · show Steps p.tables e below (T8.setTop (mkF m 39 #[.val (.int k0), .val (.int (k0 &&& (3 : Int32))), .unset, .unset] [(.ref aC)])) t
          refine XS.astoreN X8.here hx rfl (hb hby at_39) rfl rfl (l' := #[.val (.int k0), .val (.int (k0 &&& (3 : Int32))), .val (.ref aC), .unset]) rfl ?_
          show Steps p.tables e below (T8.setTop (mkF m 40 #[.val (.int k0), .val (.int (k0 &&& (3 : Int32))), .val (.ref aC), .unset] [])) t
          refine XS.iconst X8.here hx rfl (hb hby at_40) ?_
          show Steps p.tables e below (T8.setTop (mkF m 41 #[.val (.int k0), .val (.int (k0 &&& (3 : Int32))), .val (.ref aC), .unset] [(.int (1 : Int32))])) t
          refine XS.istoreN X8.here hx rfl (hb hby at_41) rfl (l' := #[.val (.int k0), .val (.int (k0 &&& (3 : Int32))), .val (.ref aC), .val (.int (1 : Int32))]) rfl ?_
          show Steps p.tables e below (T8.setTop (mkF m 42 #[.val (.int k0), .val (.int (k0 &&& (3 : Int32))), .val (.ref aC), .val (.int (1 : Int32))] [])) t
          refine XS.goto X8.here hx rfl (pc0 := 42) (pc' := 51) rfl (hb hby at_42) (by decide) (by decide) ?_
          show Steps p.tables e below (T8.setTop (mkF m 51 #[.val (.int k0), .val (.int (k0 &&& (3 : Int32))), .val (.ref aC), .val (.int (1 : Int32))] [])) t
          refine XS.aloadN X8.here hx rfl (hb hby at_51) rfl rfl ?_
          show Steps p.tables e below (T8.setTop (mkF m 52 #[.val (.int k0), .val (.int (k0 &&& (3 : Int32))), .val (.ref aC), .val (.int (1 : Int32))] [(.ref aC)])) t
          exact k
        obtain ⟨cq9, kq9, q9a, q9b, q9c⟩ := isOf hZ e8 E_COMPLETED
        obtain ⟨_, _, ⟨T9, L9, c9, n9⟩, -, X9, ⟨Lc9, hQ9, l9, y9, z9⟩, st9⟩ := X8.virtualBack hx (y := (⟨"com/example/durable_cron/durablecron/schedule/JobState", "isFinal", "()Z"⟩ : MethodName)) (z := (⟨"com/example/durable_cron/durablecron/schedule/JobState", "isFinal", "()Z"⟩ : MethodName)) hown (mvT hZ (hw _ (List.mem_of_getElem? (i := 3) rfl))) (mvT hZ (hw _ (List.mem_of_getElem? (i := 4) rfl))) (notFace_of_selects (args := #[]) (mvT hZ (hw _ (List.mem_of_getElem? (i := 6) rfl)))) (mvT hZ (hw _ (List.mem_of_getElem? (i := 6) rfl))) (mvT hZ (hw _ (List.mem_of_getElem? (i := 5) rfl))) (by decide) (backOf (W := 0) (own_rm1 l Z a0 hw [] aC aC aF (1 : Int32) h0 n0 Z0 S_COMPLETED S_FAULTED (fun _ => rfl) (fun _ => rfl) (fun qCOMPLETED qFAULTED => absurd rfl qCOMPLETED)) hZ (hw _ (List.mem_of_getElem? (i := 7) rfl)) (hw _ (List.mem_of_getElem? (i := 1) rfl)) (by decide) (by decide)) q9a q9c (g := (mkF m 52 #[.val (.int k0), .val (.int (k0 &&& (3 : Int32))), .val (.ref aC), .val (.int (1 : Int32))] [(.ref aC)])) rfl (by rw [hml]; rfl) (Steps.refl _) (argsL := []) (rest := []) (lenOf own_pd0 rfl) rfl (by show 2 * 0 + _ ≤ _; exact Nat.le_of_eq rfl) (hb hby at_52) (fun _ _ => ⟨rfl, e8, (by decide : 0 + 0 ≤ _), (by decide : 0 + 0 ≤ _)⟩)
        dsimp only [Pt.U, Pt.locs, Pt.cells, Pt.slots] at X9 l9 y9 z9 st9 hQ9
        subst l9 y9 z9
        obtain ⟨rfl, N9q, e9⟩ := hQ9
        have N9 := Fr.app N0 N9q
        refine own_tr (T' := T9) (g' := (mkF m 55 #[.val (.int k0), .val (.int (k0 &&& (3 : Int32))), .val (.ref aC), .val (.int (1 : Int32))] [(.int (1 : Int32))])) st9 ?_
        refine own_st (T' := T9) (g' := (mkF m 64 #[.val (.int k0), .val (.int (k0 &&& (3 : Int32))), .val (.ref aC), .val (.int (1 : Int32))] [(.int (1 : Int32))])) (fun t k => ?_) ?_
        · show Steps p.tables e below (T9.setTop (mkF m 55 #[.val (.int k0), .val (.int (k0 &&& (3 : Int32))), .val (.ref aC), .val (.int (1 : Int32))] [(.int (1 : Int32))])) t
          refine XS.iloadN X9.here hx rfl (hb hby at_55) rfl ?_
          show Steps p.tables e below (T9.setTop (mkF m 56 #[.val (.int k0), .val (.int (k0 &&& (3 : Int32))), .val (.ref aC), .val (.int (1 : Int32))] [(.int (1 : Int32)), (.int (1 : Int32))])) t
          refine XS.icmpNo X9.here hx rfl (hb hby at_56) rfl (teq (rfl : (1 : Int32) = (1 : Int32))).2 ?_
          show Steps p.tables e below (T9.setTop (mkF m 59 #[.val (.int k0), .val (.int (k0 &&& (3 : Int32))), .val (.ref aC), .val (.int (1 : Int32))] [])) t
          refine XS.iconst X9.here hx rfl (hb hby at_59) ?_
          show Steps p.tables e below (T9.setTop (mkF m 60 #[.val (.int k0), .val (.int (k0 &&& (3 : Int32))), .val (.ref aC), .val (.int (1 : Int32))] [(.int (1 : Int32))])) t
          refine XS.goto X9.here hx rfl (pc0 := 60) (pc' := 64) rfl (hb hby at_60) (by decide) (by decide) ?_
          show Steps p.tables e below (T9.setTop (mkF m 64 #[.val (.int k0), .val (.int (k0 &&& (3 : Int32))), .val (.ref aC), .val (.int (1 : Int32))] [(.int (1 : Int32))])) t
          exact k
        exact own_retN X9 hx Bd (t := .boolean) (by simp) rfl (hb hby at_64) e9 (⟨rfl, N9⟩) (by decide) (by decide)
      · refine own_st (T' := s₁) (g' := (mkF m 45 #[.val (.int k0), .val (.int (k0 &&& (3 : Int32))), .unset, .unset] [])) (fun t k => ?_) ?_
        · show Steps p.tables e below (s₁.setTop (mkF m 33 #[.val (.int k0), .val (.int (k0 &&& (3 : Int32))), .unset, .unset] [(.int (2 : Int32)), (.int (k0 &&& (3 : Int32)))])) t
          refine XS.icmpYes X0.here hx rfl (pc0 := 33) (pc' := 45) rfl (hb hby at_33) rfl (feq hc7).2 (by decide) (by decide) ?_
          show Steps p.tables e below (s₁.setTop (mkF m 45 #[.val (.int k0), .val (.int (k0 &&& (3 : Int32))), .unset, .unset] [])) t
          exact k
        obtain ⟨T10, X10, e10, st10⟩ := getS2 X0 hx hZ hown (host := "") (Or.inl (hw _ (List.mem_of_getElem? (i := 12) rfl))) Via.refl e0 S_FAULTED (g := (mkF m 45 #[.val (.int k0), .val (.int (k0 &&& (3 : Int32))), .unset, .unset] [])) rfl (hb hby at_45)
        refine own_st (T' := T10) (g' := (mkF m 48 #[.val (.int k0), .val (.int (k0 &&& (3 : Int32))), .unset, .unset] [(.ref aF)])) st10 ?_
        refine own_st (T' := T10) (g' := (mkF m 52 #[.val (.int k0), .val (.int (k0 &&& (3 : Int32))), .val (.ref aF), .val (.int (1 : Int32))] [(.ref aF)])) (fun t k => ?_) ?_
        · show Steps p.tables e below (T10.setTop (mkF m 48 #[.val (.int k0), .val (.int (k0 &&& (3 : Int32))), .unset, .unset] [(.ref aF)])) t
          refine XS.astoreN X10.here hx rfl (hb hby at_48) rfl rfl (l' := #[.val (.int k0), .val (.int (k0 &&& (3 : Int32))), .val (.ref aF), .unset]) rfl ?_
          show Steps p.tables e below (T10.setTop (mkF m 49 #[.val (.int k0), .val (.int (k0 &&& (3 : Int32))), .val (.ref aF), .unset] [])) t
          refine XS.iconst X10.here hx rfl (hb hby at_49) ?_
          show Steps p.tables e below (T10.setTop (mkF m 50 #[.val (.int k0), .val (.int (k0 &&& (3 : Int32))), .val (.ref aF), .unset] [(.int (1 : Int32))])) t
          refine XS.istoreN X10.here hx rfl (hb hby at_50) rfl (l' := #[.val (.int k0), .val (.int (k0 &&& (3 : Int32))), .val (.ref aF), .val (.int (1 : Int32))]) rfl ?_
          show Steps p.tables e below (T10.setTop (mkF m 51 #[.val (.int k0), .val (.int (k0 &&& (3 : Int32))), .val (.ref aF), .val (.int (1 : Int32))] [])) t
          refine XS.aloadN X10.here hx rfl (hb hby at_51) rfl rfl ?_
          show Steps p.tables e below (T10.setTop (mkF m 52 #[.val (.int k0), .val (.int (k0 &&& (3 : Int32))), .val (.ref aF), .val (.int (1 : Int32))] [(.ref aF)])) t
          exact k
        obtain ⟨cq11, kq11, q11a, q11b, q11c⟩ := isOf hZ e10 E_FAULTED
        obtain ⟨_, _, ⟨T11, L11, c11, n11⟩, -, X11, ⟨Lc11, hQ11, l11, y11, z11⟩, st11⟩ := X10.virtualBack hx (y := (⟨"com/example/durable_cron/durablecron/schedule/JobState", "isFinal", "()Z"⟩ : MethodName)) (z := (⟨"com/example/durable_cron/durablecron/schedule/JobState", "isFinal", "()Z"⟩ : MethodName)) hown (mvT hZ (hw _ (List.mem_of_getElem? (i := 3) rfl))) (mvT hZ (hw _ (List.mem_of_getElem? (i := 4) rfl))) (notFace_of_selects (args := #[]) (mvT hZ (hw _ (List.mem_of_getElem? (i := 6) rfl)))) (mvT hZ (hw _ (List.mem_of_getElem? (i := 6) rfl))) (mvT hZ (hw _ (List.mem_of_getElem? (i := 5) rfl))) (by decide) (backOf (W := 0) (own_rm1 l Z a0 hw [] aF aC aF (1 : Int32) h0 n0 Z0 S_COMPLETED S_FAULTED (fun _ => rfl) (fun _ => rfl) (fun qCOMPLETED qFAULTED => absurd rfl qFAULTED)) hZ (hw _ (List.mem_of_getElem? (i := 7) rfl)) (hw _ (List.mem_of_getElem? (i := 1) rfl)) (by decide) (by decide)) q11a q11c (g := (mkF m 52 #[.val (.int k0), .val (.int (k0 &&& (3 : Int32))), .val (.ref aF), .val (.int (1 : Int32))] [(.ref aF)])) rfl (by rw [hml]; rfl) (Steps.refl _) (argsL := []) (rest := []) (lenOf own_pd0 rfl) rfl (by show 2 * 0 + _ ≤ _; exact Nat.le_of_eq rfl) (hb hby at_52) (fun _ _ => ⟨rfl, e10, (by decide : 0 + 0 ≤ _), (by decide : 0 + 0 ≤ _)⟩)
        dsimp only [Pt.U, Pt.locs, Pt.cells, Pt.slots] at X11 l11 y11 z11 st11 hQ11
        subst l11 y11 z11
        obtain ⟨rfl, N11q, e11⟩ := hQ11
        have N11 := Fr.app N0 N11q
        refine own_tr (T' := T11) (g' := (mkF m 55 #[.val (.int k0), .val (.int (k0 &&& (3 : Int32))), .val (.ref aF), .val (.int (1 : Int32))] [(.int (1 : Int32))])) st11 ?_
        refine own_st (T' := T11) (g' := (mkF m 64 #[.val (.int k0), .val (.int (k0 &&& (3 : Int32))), .val (.ref aF), .val (.int (1 : Int32))] [(.int (1 : Int32))])) (fun t k => ?_) ?_
        · show Steps p.tables e below (T11.setTop (mkF m 55 #[.val (.int k0), .val (.int (k0 &&& (3 : Int32))), .val (.ref aF), .val (.int (1 : Int32))] [(.int (1 : Int32))])) t
          refine XS.iloadN X11.here hx rfl (hb hby at_55) rfl ?_
          show Steps p.tables e below (T11.setTop (mkF m 56 #[.val (.int k0), .val (.int (k0 &&& (3 : Int32))), .val (.ref aF), .val (.int (1 : Int32))] [(.int (1 : Int32)), (.int (1 : Int32))])) t
          refine XS.icmpNo X11.here hx rfl (hb hby at_56) rfl (teq (rfl : (1 : Int32) = (1 : Int32))).2 ?_
          show Steps p.tables e below (T11.setTop (mkF m 59 #[.val (.int k0), .val (.int (k0 &&& (3 : Int32))), .val (.ref aF), .val (.int (1 : Int32))] [])) t
          refine XS.iconst X11.here hx rfl (hb hby at_59) ?_
          show Steps p.tables e below (T11.setTop (mkF m 60 #[.val (.int k0), .val (.int (k0 &&& (3 : Int32))), .val (.ref aF), .val (.int (1 : Int32))] [(.int (1 : Int32))])) t
          refine XS.goto X11.here hx rfl (pc0 := 60) (pc' := 64) rfl (hb hby at_60) (by decide) (by decide) ?_
          show Steps p.tables e below (T11.setTop (mkF m 64 #[.val (.int k0), .val (.int (k0 &&& (3 : Int32))), .val (.ref aF), .val (.int (1 : Int32))] [(.int (1 : Int32))])) t
          exact k
        exact own_retN X11 hx Bd (t := .boolean) (by simp) rfl (hb hby at_64) e11 (⟨rfl, N11⟩) (by decide) (by decide)
set_option maxRecDepth 65536 in
set_option maxHeartbeats 40000000 in
theorem own_comes_1 {Post : Tables → Env → Array Value → State → Outcome → State → Prop} (hpost : ∀ tb e args s v u, (limb_1_1.after args s (.returned v) u = true ∧ limb_1_2.after args s (.returned v) u = true ∧ True) → FrameEnd s (.returned v) u (Jvm.fieldLocs frame_1_writes args s ++ Jvm.arrayLocs frame_1_arrays args s ++ Jvm.staticLocs frame_1_statics s) 0 0 → Post tb e args s (.returned v) u) :
    ArmFor flags0 classFile x code maxLocals ret World_1 tables_1 room_1 Calls_1 rest_1 Pre_1 Post := by
  intro l hfl _ _ p e ha hc hk s m args below hf hA hF happ hP
  obtain ⟨hcalls, hrest, hpre⟩ := hP
  obtain ⟨-, -, -, hnamed, -, -, -, hat⟩ := (Spec.applies_iff hf).mp happ
  obtain ⟨hg, hn⟩ := and_e (Cond.before_iff.mp (show (Jvm.Cond.and given_1 narrow_1).before args s = true from hpre))
  obtain ⟨hg0, hgr⟩ := and_e hg
  have ha0 := hgr
  obtain ⟨w0, rfl⟩ : ∃ w0 : Value, args = #[w0] := by
    have hs : args.size = 1 := by simpa [Cond.value, given_1] using hg0
    obtain ⟨L⟩ := args
    match L, hs with
    | [w0], _ => exact ⟨w0, rfl⟩
  have hw := fun d (hd : d ∈ tables_1) => atoms_spec (ws := Jvm.Cond.code x code maxLocals ret :: tables_1) hat d (List.mem_cons_of_mem _ hd)
  have hfit : Fit s := fun {y c} hc i hi => by
    obtain ⟨ha, rfl⟩ := Array.getElem?_eq_some_iff.mp hc
    have q := List.all_eq_true.mp ((Array.all_eq_true_iff_forall_mem.mp hF) _ (Array.getElem_mem ha)) i (List.mem_range.mpr hi)
    simpa [Array.getElem?_eq_getElem hi] using q
  obtain ⟨i0, ei0⟩ := is_v ha0
  obtain rfl : w0 = (.int i0) := Option.some.inj ei0
  obtain ⟨x_ENABLED, hn0⟩ := and_e hn
  obtain ⟨x_COMPLETED, hn1⟩ := and_e hn0
  obtain ⟨o_ENABLED, hn2⟩ := and_e hn1
  obtain ⟨o_COMPLETED, hn3⟩ := and_e hn2
  obtain ⟨x_FAULTED, hn4⟩ := and_e hn3
  obtain ⟨o_FAULTED, hn5⟩ := and_e hn4
  obtain ⟨x_DISABLED, hn6⟩ := and_e hn5
  have o_DISABLED := hn6
  obtain ⟨aE, ev_ENABLED, S_ENABLED, E_ENABLED⟩ := own_enum x_ENABLED (Or.inr ⟨(hw _ (List.mem_of_getElem? (i := 1) rfl)), (hw _ (List.mem_of_getElem? (i := 2) rfl))⟩)
  have F_ENABLED := own_ord ev_ENABLED o_ENABLED
  obtain ⟨aC, ev_COMPLETED, S_COMPLETED, E_COMPLETED⟩ := own_enum x_COMPLETED (Or.inr ⟨(hw _ (List.mem_of_getElem? (i := 1) rfl)), (hw _ (List.mem_of_getElem? (i := 9) rfl))⟩)
  have F_COMPLETED := own_ord ev_COMPLETED o_COMPLETED
  obtain ⟨aF, ev_FAULTED, S_FAULTED, E_FAULTED⟩ := own_enum x_FAULTED (Or.inr ⟨(hw _ (List.mem_of_getElem? (i := 1) rfl)), (hw _ (List.mem_of_getElem? (i := 11) rfl))⟩)
  have F_FAULTED := own_ord ev_FAULTED o_FAULTED
  obtain ⟨aD, ev_DISABLED, S_DISABLED, E_DISABLED⟩ := own_enum x_DISABLED (Or.inr ⟨(hw _ (List.mem_of_getElem? (i := 1) rfl)), (hw _ (List.mem_of_getElem? (i := 15) rfl))⟩)
  have F_DISABLED := own_ord ev_DISABLED o_DISABLED
  obtain ⟨n, o, h1, h2, h3, _, L, rfl, ⟨rfl, N⟩, hq⟩ := own_rm0 l s _ hw tables_1 i0 aE aD aC aF s.heap s.heap.size (Nat.le_refl _) S_ENABLED S_DISABLED S_COMPLETED S_FAULTED E_ENABLED E_DISABLED E_COMPLETED E_FAULTED (F_ENABLED.ne F_COMPLETED (by decide)) (F_ENABLED.ne F_FAULTED (by decide)) (F_DISABLED.ne F_COMPLETED (by decide)) (F_DISABLED.ne F_FAULTED (by decide)) p e ha hc hk s m _ below hf ((Spec.applies_iff_loose hf).mp happ).1 ⟨rfl, State.Warmed39.refl s, rfl⟩ trivial
  refine ⟨n, _, h1, h2, h3, hpost _ _ _ _ _ _ ⟨Cond.after_iff.mpr rfl, Cond.after_iff.mpr (eq_i res_at (Term.int_eval (1)) rfl), trivial⟩ ⟨hq.1, hq.2.1, (hq.2.2.sift fun y hy => Or.inr (N y hy)).mono (by decide) (by decide)⟩⟩
theorem main_1_1 : Claimed_1_1 := own_comes_1 fun _ _ _ _ _ _ h hF => ⟨h.1, hF⟩
theorem main_1_2 : Claimed_1_2 := own_comes_1 fun _ _ _ _ _ _ h hF => ⟨h.2.1, hF⟩
end Jvm.Pilot.@@N@@
namespace Jvm.Pilot.@@N@@
open Jvm Jvm.ClassFile Sem Op Lib Jvm.Free Jvm.Stand Jvm.Pilot.@@N@@.Jvm.D
/-! MADE BY PROGRAM (witnessworld.py) out of the Statement's table words and the real class files: 12 classes; the members and pool entries that the words name. The judged class is class 1, her method 1. -/
namespace start1
open Jvm.ClassFile
def u (s : String) : CpInfo := .utf8 (stringToUtf16 s)
/-- a pool by its gaps: so many unusable entries, then the entry; so many at the end -/
def gap : Nat → List CpInfo → List CpInfo
  | 0, r => r
  | n + 1, r => .unusable :: gap n r
def poolList (es : List (Nat × CpInfo)) (last : Nat) : List CpInfo := es.foldr (fun e r => gap e.1 (e.2 :: r)) (gap last [])
def pool (es : List (Nat × CpInfo)) (last : Nat) : Array CpInfo := ⟨poolList es last⟩
def fileOf (pool : Array CpInfo) (this : Nat) (attrs : Array Attribute := #[]) (ms : Array MethodInfo := #[]) (fl : Nat := 33) (sup : Nat := 0) (ifs : Array Nat := #[]) (fds : Array FieldInfo := #[]) : ClassFile where
  minorVersion := 0
  majorVersion := 65
  constantPool := pool
  accessFlags := fl
  thisClass := this
  superClass := sup
  interfaces := ifs
  fields := fds
  methods := ms
  attributes := attrs
def plain (name : String) (sup : Option ClassId) : Class where
  name := name
  kind := .ordinary
  loader := none
  accessFlags := 33
  super := sup
  interfaces := #[]
  cf := none
  fields := #[]
  methods := #[]
  instanceTypes := #[]
  staticTypes := #[]
  resolved := #[]
  callSites := []
  init := .initialized
  statics := none
  mirror := none

def pool0 : Array CpInfo := pool [(5, u "<init>"), (0, u "()V"), (1, .class_ 10), (1, u "java/lang/Object")] 113

def k0m0 : Method := { name := "<init>", desc := "()V", sig := { parameters := [], returnType := none }, accessFlags := 1, code := none }
/-- java/lang/Object -/
def k0 : Class := { plain "java/lang/Object" none with
  accessFlags := 33
  interfaces := #[]
  cf := some (fileOf pool0 8 #[] #[{ accessFlags := 1, nameIndex := 5, descriptorIndex := 6, attributes := #[] }] 33 0 #[] #[])
  fields := #[]
  methods := #[k0m0]
  instanceTypes := #[]
  staticTypes := #[]
  resolved := Array.replicate 124 none
  statics := none }

def pool1 : Array CpInfo := pool [(2, .class_ 4), (1, u "java/lang/Object"), (0, u "<init>"), (0, u "()V"), (0, .fieldref 8 9), (0, .class_ 10), (0, .nameAndType 11 12), (0, u "com/example/durable_cron/durablecron/schedule/JobState"), (0, u "ENABLED"), (0, u "Lcom/example/durable_cron/durablecron/schedule/JobState;"), (0, .fieldref 8 14), (0, .nameAndType 15 12), (0, u "DISABLED"), (0, .fieldref 8 17), (0, .nameAndType 18 12), (0, u "COMPLETED"), (0, .fieldref 8 20), (0, .nameAndType 21 12), (0, u "FAULTED"), (0, .methodref 8 23), (0, .nameAndType 24 25), (0, u "isFinal"), (0, u "()Z"), (0, .class_ 27), (0, u "com/example/durable_cron/durablecron/schedule/JobStateIsFinalPinLaw"), (2, u "law"), (0, u "(I)Z")] 3

def k1m0 : Method := { name := "<init>", desc := "()V", sig := { parameters := [], returnType := none }, accessFlags := 1, code := none }
def k1c1 : Code := { maxStack := 2, maxLocals := 4, code := code, exceptionTable := #[], attributes := #[] }
def k1m1 : Method := { name := "law", desc := "(I)Z", sig := { parameters := [.int], returnType := some .boolean }, accessFlags := 9, code := some k1c1 }
/-- com/example/durable_cron/durablecron/schedule/JobStateIsFinalPinLaw -/
def k1 : Class := { plain "com/example/durable_cron/durablecron/schedule/JobStateIsFinalPinLaw" (some 0) with
  accessFlags := 49
  interfaces := #[]
  cf := some (fileOf pool1 26 #[] #[{ accessFlags := 1, nameIndex := 5, descriptorIndex := 6, attributes := #[] }, { accessFlags := 9, nameIndex := 30, descriptorIndex := 31, attributes := #[] }] 49 2 #[] #[])
  fields := #[]
  methods := #[k1m0, k1m1]
  instanceTypes := #[]
  staticTypes := #[]
  resolved := Array.replicate 35 none
  statics := none }

def pool2 : Array CpInfo := pool [(1, .class_ 2), (0, u "java/lang/constant/Constable"), (0, .class_ 4), (0, u "java/lang/Object")] 6

/-- java/lang/constant/Constable -/
def k2 : Class := { plain "java/lang/constant/Constable" (some 0) with
  accessFlags := 1537
  interfaces := #[]
  cf := some (fileOf pool2 1 #[] #[] 1537 3 #[] #[])
  fields := #[]
  methods := #[]
  instanceTypes := #[]
  staticTypes := #[]
  resolved := Array.replicate 11 none
  statics := none }

def pool3 : Array CpInfo := pool [(1, .class_ 2), (0, u "java/lang/Comparable"), (0, .class_ 4), (0, u "java/lang/Object")] 7

/-- java/lang/Comparable -/
def k3 : Class := { plain "java/lang/Comparable" (some 0) with
  accessFlags := 1537
  interfaces := #[]
  cf := some (fileOf pool3 1 #[] #[] 1537 3 #[] #[])
  fields := #[]
  methods := #[]
  instanceTypes := #[]
  staticTypes := #[]
  resolved := Array.replicate 12 none
  statics := none }

def pool4 : Array CpInfo := pool [(1, .class_ 2), (0, u "java/io/Serializable"), (0, .class_ 4), (0, u "java/lang/Object")] 2

/-- java/io/Serializable -/
def k4 : Class := { plain "java/io/Serializable" (some 0) with
  accessFlags := 1537
  interfaces := #[]
  cf := some (fileOf pool4 1 #[] #[] 1537 3 #[] #[])
  fields := #[]
  methods := #[]
  instanceTypes := #[]
  staticTypes := #[]
  resolved := Array.replicate 7 none
  statics := none }

def pool5 : Array CpInfo := pool [(2, .class_ 4), (1, u "java/lang/Enum"), (0, u "name"), (0, u "Ljava/lang/String;"), (2, u "ordinal"), (0, u "I"), (1, .class_ 14), (1, u "java/lang/Object"), (4, u "hash"), (86, .class_ 108), (1, u "java/lang/Enum$EnumDesc"), (2, .class_ 112), (0, u "java/lang/constant/Constable"), (0, .class_ 114), (0, u "java/lang/Comparable"), (0, .class_ 116), (0, u "java/io/Serializable")] 87

/-- java/lang/Enum -/
def k5 : Class := { plain "java/lang/Enum" (some 0) with
  accessFlags := 1057
  interfaces := #[2, 3, 4]
  cf := some (fileOf pool5 2 #[.nestMembers #[106]] #[] 1057 12 #[111, 113, 115] #[{ accessFlags := 18, nameIndex := 5, descriptorIndex := 6, attributes := #[] }, { accessFlags := 18, nameIndex := 9, descriptorIndex := 10, attributes := #[] }, { accessFlags := 2, nameIndex := 19, descriptorIndex := 10, attributes := #[] }])
  fields := #[{ name := "name", type := (.object "java/lang/String"), accessFlags := 18, slot := 0, constantValue := 0 }, { name := "ordinal", type := .int, accessFlags := 18, slot := 1, constantValue := 0 }, { name := "hash", type := .int, accessFlags := 2, slot := 2, constantValue := 0 }]
  methods := #[]
  instanceTypes := #[(.object "java/lang/String"), .int, .int]
  staticTypes := #[]
  resolved := Array.replicate 204 none
  statics := none }

def pool6 : Array CpInfo := pool [(1, .class_ 2), (0, u "com/example/durable_cron/durablecron/schedule/JobState"), (2, u "ENABLED"), (0, u "Lcom/example/durable_cron/durablecron/schedule/JobState;"), (2, u "DISABLED"), (0, .fieldref 1 11), (0, .nameAndType 12 6), (0, u "COMPLETED"), (0, .fieldref 1 14), (0, .nameAndType 15 6), (0, u "FAULTED"), (2, u "$VALUES"), (0, u "[Lcom/example/durable_cron/durablecron/schedule/JobState;"), (6, .class_ 28), (1, u "java/lang/Enum"), (22, u "isFinal"), (0, u "()Z")] 5

def k6c0 : Code := { maxStack := 2, maxLocals := 1, code := prog_6_method_4_code, exceptionTable := #[], attributes := #[] }
def k6m0 : Method := { name := "isFinal", desc := "()Z", sig := { parameters := [], returnType := some .boolean }, accessFlags := 1, code := some k6c0 }
/-- com/example/durable_cron/durablecron/schedule/JobState -/
def k6 : Class := { plain "com/example/durable_cron/durablecron/schedule/JobState" (some 5) with
  accessFlags := 16433
  interfaces := #[]
  cf := some (fileOf pool6 1 #[] #[{ accessFlags := 1, nameIndex := 51, descriptorIndex := 52, attributes := #[] }] 16433 26 #[] #[{ accessFlags := 16409, nameIndex := 5, descriptorIndex := 6, attributes := #[] }, { accessFlags := 16409, nameIndex := 9, descriptorIndex := 6, attributes := #[] }, { accessFlags := 16409, nameIndex := 12, descriptorIndex := 6, attributes := #[] }, { accessFlags := 16409, nameIndex := 15, descriptorIndex := 6, attributes := #[] }, { accessFlags := 4122, nameIndex := 18, descriptorIndex := 19, attributes := #[] }])
  fields := #[{ name := "ENABLED", type := (.object "com/example/durable_cron/durablecron/schedule/JobState"), accessFlags := 16409, slot := 0, constantValue := 0 }, { name := "DISABLED", type := (.object "com/example/durable_cron/durablecron/schedule/JobState"), accessFlags := 16409, slot := 1, constantValue := 0 }, { name := "COMPLETED", type := (.object "com/example/durable_cron/durablecron/schedule/JobState"), accessFlags := 16409, slot := 2, constantValue := 0 }, { name := "FAULTED", type := (.object "com/example/durable_cron/durablecron/schedule/JobState"), accessFlags := 16409, slot := 3, constantValue := 0 }, { name := "$VALUES", type := (.array (.object "com/example/durable_cron/durablecron/schedule/JobState")), accessFlags := 4122, slot := 4, constantValue := 0 }]
  methods := #[k6m0]
  instanceTypes := #[(.object "java/lang/String"), .int, .int]
  staticTypes := #[(.object "com/example/durable_cron/durablecron/schedule/JobState"), (.object "com/example/durable_cron/durablecron/schedule/JobState"), (.object "com/example/durable_cron/durablecron/schedule/JobState"), (.object "com/example/durable_cron/durablecron/schedule/JobState"), (.array (.object "com/example/durable_cron/durablecron/schedule/JobState"))]
  resolved := Array.replicate 58 none
  statics := some 0 }

def pool7 : Array CpInfo := pool [(1, u "java/lang/Cloneable"), (0, .class_ 1), (0, u "java/lang/Object"), (0, .class_ 3)] 3

/-- java/lang/Cloneable -/
def k7 : Class := { plain "java/lang/Cloneable" (some 0) with
  accessFlags := 1537
  interfaces := #[]
  cf := some (fileOf pool7 2 #[] #[] 1537 4 #[] #[])
  fields := #[]
  methods := #[]
  instanceTypes := #[]
  staticTypes := #[]
  resolved := Array.replicate 8 none
  statics := none }

/-- the primitive byte -/
def k8 : Class := { plain "byte" none with kind := .primitive 'B', accessFlags := 0x411 }
/-- [B -/
def k9 : Class := { plain "[B" (some 0) with kind := .array 8 .byte, interfaces := #[7, 4], accessFlags := 1041 }

/-- the primitive int -/
def k10 : Class := { plain "int" none with kind := .primitive 'I', accessFlags := 0x411 }
/-- [I -/
def k11 : Class := { plain "[I" (some 0) with kind := .array 10 .int, interfaces := #[7, 4], accessFlags := 1041 }

def heap : Heap := #[{ cls := 6, slots := #[.ref 1, .ref 2, .ref 3, .ref 4, .null], vm := .statics 6 },
  { cls := 6, slots := #[.null, .int 0, .int 0], vm := .none },
  { cls := 6, slots := #[.null, .int 1, .int 0], vm := .none },
  { cls := 6, slots := #[.null, .int 2, .int 0], vm := .none },
  { cls := 6, slots := #[.null, .int 3, .int 0], vm := .none }]
def classes : Array Class := #[k0, k1, k2, k3, k4, k5, k6, k7, k8, k9, k10, k11]
def interned : List (Array UInt16 × Addr) := []
def slotsUsed : Nat := 17
def theMethod : MethodId := ⟨1, 1⟩
def args0 : Array Value := #[.int 5]
def aboutOver (below : List Frame) : State where
  vm := { classes := classes, interned := interned.toArray }
  heap := heap
  slotsUsed := slotsUsed
  threads := #[{ frames := .invoking theMethod args0 :: below }]
def below0 : List Frame := [.native { method := ⟨0, 0⟩, args := #[] }]
def about1 : State := aboutOver below0
def p0 : Program := .bare "" "" ""
def e0 : Env := launch0.env 0 0 0
theorem w_frames : about1.frames = Frame.invoking theMethod args0 :: below0 := rfl
set_option maxRecDepth 65536 in
theorem w_args : argsFit about1.vm theMethod args0 = true := by decide +kernel
set_option maxRecDepth 65536 in
theorem w_heap : heapFits about1 = true := by decide +kernel
set_option maxRecDepth 65536 in
theorem w_runnable : about1.curStatus? = some .runnable := by decide +kernel
set_option maxRecDepth 65536 in
theorem w_alone : about1.alone = true := by decide +kernel
set_option maxRecDepth 65536 in
theorem w_named : about1.methodNamed? x = some theMethod := by decide +kernel
set_option maxRecDepth 65536 in
theorem w_hears : about1.hears theMethod below0 = true := by decide +kernel
set_option maxRecDepth 65536 in
theorem w_ripe : about1.ripe theMethod args0 below0 = true := by decide +kernel
theorem w_running : about1.status = .running := rfl
set_option maxRecDepth 65536 in
theorem w_room : about1.hasRoom e0.platform room_1 = true :=
  launch0.hasRoom_least _ room_1 (by decide +kernel) (by decide +kernel) (by decide +kernel) (by decide +kernel) (by decide +kernel) (by decide +kernel)
theorem allAtoms_all (ts : List Jvm.Cond) (a : Array Jvm.Value) (st : Jvm.State) : (allAtoms ts).before a st = ts.all (fun c => c.before a st) := by
  induction ts with
  | nil => rfl
  | cons c t ih =>
    show (Jvm.Cond.and c (allAtoms t)).before a st = _
    rw [Jvm.Cond.before_and, ih, List.all_cons]
def words1 : List Jvm.Cond := Jvm.Cond.code x code maxLocals ret :: tables_1
/-- a 'code' word, met by the world's own term for the bytes: nothing is compared byte by byte -/
theorem code_word {y : MethodName} {bytes : ByteArray} {mx : Nat} {rt : Option FieldType} {a : Array Value} {s : State} {m : MethodId} {meth : Method} {c : Code} (h1 : s.methodNamed? y = some m) (h2 : s.vm.method? m = some meth) (h3 : meth.code = some c) (h4 : c.code = bytes)
    (h5 : (c.maxLocals == mx && c.exceptionTable.isEmpty && decide (c.maxStack ≤ mostOperands) && decide (meth.sig.returnType = rt) && !meth.locks && decide (parseMethodDescriptor y.desc = some meth.sig)) = true) : (Jvm.Cond.code y bytes mx rt).before a s = true := by
  simp only [Bool.and_eq_true, beq_iff_eq, Bool.not_eq_true', decide_eq_true_eq] at h5
  obtain ⟨⟨⟨⟨⟨g1, g2⟩, g3⟩, g4⟩, g5⟩, g6⟩ := h5
  simp [Cond.before, Cond.holds, Cond.value, h1, h2, h3, h4, g1, g2, g3, g4, g5, g6]
def isCode : Jvm.Cond → Bool
  | .code _ _ _ _ => true
  | _ => false
theorem all_split {L : List Jvm.Cond} {P : Jvm.Cond → Bool} (h1 : L.all (fun c => isCode c || P c) = true) (h2 : ∀ c ∈ L.filter isCode, P c = true) : L.all P = true := by
  refine List.all_eq_true.mpr fun c hc => ?_
  have h := List.all_eq_true.mp h1 c hc
  rcases Bool.eq_false_or_eq_true (isCode c) with hi | hi
  · exact h2 c (List.mem_filter.mpr ⟨hc, hi⟩)
  · simpa [hi] using h
set_option maxRecDepth 65536 in
theorem w_c0 : (Jvm.Cond.code x code maxLocals ret).before args0 about1 = true := code_word (m := ⟨1, 1⟩) (meth := k1m1) (c := k1c1) (by decide +kernel) rfl rfl rfl (by decide +kernel)
set_option maxRecDepth 65536 in
theorem w_c1 : (Jvm.Cond.code ({ cls := "com/example/durable_cron/durablecron/schedule/JobState", name := "isFinal", desc := "()Z" } : Jvm.MethodName) prog_6_method_4_code (1 : Nat) (Option.some Jvm.ClassFile.FieldType.boolean)).before args0 about1 = true := code_word (m := ⟨6, 0⟩) (meth := k6m0) (c := k6c0) (by decide +kernel) rfl rfl rfl (by decide +kernel)
def codes1 : List Jvm.Cond := [Jvm.Cond.code x code maxLocals ret, Jvm.Cond.code ({ cls := "com/example/durable_cron/durablecron/schedule/JobState", name := "isFinal", desc := "()Z" } : Jvm.MethodName) prog_6_method_4_code (1 : Nat) (Option.some Jvm.ClassFile.FieldType.boolean)]
set_option maxRecDepth 65536 in
theorem codes_eq : words1.filter isCode = codes1 := rfl
theorem w_codes : ∀ c ∈ words1.filter isCode, c.before args0 about1 = true := by
  rw [codes_eq]
  intro c hc
  simp only [codes1, List.mem_cons, List.not_mem_nil, or_false] at hc
  rcases hc with rfl | rfl
  · exact w_c0
  · exact w_c1
set_option maxRecDepth 65536 in
theorem w_t1 : words1.all (fun c => isCode c || c.before args0 about1) = true := by decide +kernel
theorem w_tables : (allAtoms (Jvm.Cond.code x code maxLocals ret :: tables_1)).before args0 about1 = true := by
  rw [allAtoms_all]
  show words1.all (fun c => c.before args0 about1) = true
  refine all_split ?_ w_codes
  rw [w_t1]
set_option maxRecDepth 65536 in
theorem w_case : (Jvm.Cond.and given_1 narrow_1).before args0 about1 = true := by decide +kernel
theorem w_applies : (headSpec (Jvm.Cond.code x code maxLocals ret :: tables_1) room_1).applies x e0.platform about1 = true :=
  (Spec.applies_iff w_frames).mpr ⟨w_running, w_runnable, w_alone, w_named, w_hears, w_ripe, w_room, w_tables⟩
theorem atStart : AtStart classFile x code maxLocals ret World_1 tables_1 room_1 Calls_1 rest_1 Pre_1 launch0 p0 e0 about1 theMethod args0 below0 :=
  ⟨lists_1, trivial, launch0.admits_env _ _ _, launch0.least_env, fairChoices_fair.cas, fairChoices_fair.clock, w_frames, w_args, w_heap, w_applies, trivial, trivial, w_case⟩
end start1
theorem witness_1 : WitnessClaimed_1 := ⟨start1.p0, start1.e0, start1.about1, start1.theMethod, start1.args0, start1.below0, start1.atStart⟩
end Jvm.Pilot.@@N@@
