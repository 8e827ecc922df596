import JvmDerived
import JvmDerived.Pilot.@@N@@Statement
import JvmDerived.Pilot.@@N@@Code
set_option linter.unusedVariables false
set_option linter.unusedSimpArgs false
namespace Jvm.Pilot.@@N@@
open Jvm Jvm.ClassFile Sem Op Lib Jvm.Free Jvm.Stand Jvm.LawKit Jvm.RoadKit Bundle Jvm.Pilot.@@N@@.Jvm.D
theorem own_cast {tb : Tables} {e : Env} {below : List Frame} {T : State} {g g' : JFrame} {t : State} (q : g = g') (k : Steps tb e below (T.setTop g') t) : Steps tb e below (T.setTop g) t := q ▸ k
section Own
variable {p : Program} {l : Launch} {e : Env} {R : Room} {s : State} {m : MethodId} {args : Array Value} {below : List Frame} {meth : Method} {c : Code} {T T' : State} {locs : List Loc} {cells slots : Nat} {g g' : JFrame} {K : Outcome → State → Prop} {h : Heap}
/-- the run from T with g on top comes to an end at which K holds -/
def own_Go (p : Program) (e : Env) (below : List Frame) (K : Outcome → State → Prop) (T : State) (g : JFrame) : Prop := ∃ t o, Steps p.tables e below (T.setTop g) t ∧ t.status = .running ∧ Ended t below o ∧ K o t
def own_K (s : State) (Q : Option Value → Heap → List Loc → Prop) (kc ks : Nat) : Outcome → State → Prop := fun o t => ∃ v L, o = .returned v ∧ Q v t.heap L ∧ FrameEnd s o t L kc ks
theorem own_st (k : ∀ t, Steps p.tables e below (T'.setTop g') t → Steps p.tables e below (T.setTop g) t) (h : own_Go p e below K T' g') : own_Go p e below K T g := by
  obtain ⟨t, o, h1, h2⟩ := h; exact ⟨t, o, k t h1, h2⟩
theorem own_tr (k : Steps p.tables e below (T.setTop g) (T'.setTop g')) (h : own_Go p e below K T' g') : own_Go p e below K T g := by
  obtain ⟨t, o, h1, h2⟩ := h; exact ⟨t, o, k.trans h1, h2⟩
theorem own_in (q : g = g') (h : own_Go p e below K T g') : ∃ t o, Steps p.tables e below (T.setTop g) t ∧ t.status = .running ∧ Ended t below o ∧ K o t := by
  obtain ⟨t, o, h1, h2⟩ := h; exact ⟨t, o, own_cast q h1, h2⟩
variable {Q : Option Value → Heap → List Loc → Prop} {kc ks pc : Nat} {Ls : Array Slot} {rest : List Value} {x : MethodName} {S : Spec} {code : ByteArray} {maxLocals : Nat} {s₁ : State}
theorem own_end (X : Stand p l e R s m args below meth c T locs cells slots) {v : Option Value} (hv : meth.sig.returnType = none → v = none) (hlk : meth.locks = false) (eT : T.heap = h) (hQ : Q v h locs) (hc : cells ≤ kc) (hs : slots ≤ ks)
    (k : ∀ fs, (∀ (f : JFrame) (acts : List Action), f.method = m → f.locked = none → f.entered = [] → (doReturn e (T.setTop f) acts v).1 = T.setFrames fs) → Steps p.tables e below (T.setTop g) (T.setFrames fs)) : own_Go p e below (own_K s Q kc ks) T g := by
  obtain ⟨fs, hr, hrun, hended, hW, hsame⟩ := X.leave (v := v) hv hlk
  refine ⟨_, _, k fs hr, hrun, hended, v, locs, rfl, ?_, ⟨_, rfl⟩, hW, hsame.mono hc hs⟩
  show Q v T.heap locs
  rw [eT]; exact hQ
theorem own_retI (X : Stand p l e R s m args below meth c T locs cells slots) (hx : p.tables.exec = Jvm.exec) (Bd : BodyLoose p l x S code maxLocals (some .int) e s m args below meth c s₁) {z : Int32} (hd : decode c.code pc = .ok (.ireturn, 1)) (eT : T.heap = h) (hQ : Q (some (.int z)) h locs) (hc : cells ≤ kc) (hs : slots ≤ ks) :
    own_Go p e below (own_K s Q kc ks) T (mkF m pc Ls (.int z :: rest)) :=
  own_end X (fun h => by rw [Bd.returns] at h; cases h) Bd.notSynchronized eT hQ hc hs fun fs hr => retOut X hx Bd.returns rfl (Or.inl ⟨rfl, Or.inl rfl, z, rfl⟩) hd hr
theorem own_retJ (X : Stand p l e R s m args below meth c T locs cells slots) (hx : p.tables.exec = Jvm.exec) (Bd : BodyLoose p l x S code maxLocals (some .long) e s m args below meth c s₁) {z : Int64} (hd : decode c.code pc = .ok (.lreturn, 1)) (eT : T.heap = h) (hQ : Q (some (.long z)) h locs) (hc : cells ≤ kc) (hs : slots ≤ ks) :
    own_Go p e below (own_K s Q kc ks) T (mkF m pc Ls (.long z :: rest)) :=
  own_end X (fun h => by rw [Bd.returns] at h; cases h) Bd.notSynchronized eT hQ hc hs fun fs hr => retOut X hx Bd.returns rfl (Or.inr (Or.inl ⟨rfl, rfl, z, rfl⟩)) hd hr
theorem own_retN (X : Stand p l e R s m args below meth c T locs cells slots) (hx : p.tables.exec = Jvm.exec) {t : FieldType} (Bd : BodyLoose p l x S code maxLocals (some t) e s m args below meth c s₁) (ht : t = .boolean ∨ t = .byte ∨ t = .char ∨ t = .short) {z : Int32} (hn : narrow t (.int z) = .int z) (hd : decode c.code pc = .ok (.ireturn, 1)) (eT : T.heap = h) (hQ : Q (some (.int z)) h locs) (hc : cells ≤ kc) (hs : slots ≤ ks) :
    own_Go p e below (own_K s Q kc ks) T (mkF m pc Ls (.int z :: rest)) :=
  own_end X (fun h => by rw [Bd.returns] at h; cases h) Bd.notSynchronized eT hQ hc hs fun fs hr => retOut X hx Bd.returns hn (Or.inl ⟨rfl, Or.inr ht, z, rfl⟩) hd hr
theorem own_retA (X : Stand p l e R s m args below meth c T locs cells slots) (hx : p.tables.exec = Jvm.exec) {t : FieldType} (Bd : BodyLoose p l x S code maxLocals (some t) e s m args below meth c s₁) (ht : t.isReference = true) {w : Value} (hw : w.isRef = true) (hd : decode c.code pc = .ok (.areturn, 1)) (eT : T.heap = h) (hQ : Q (some w) h locs) (hc : cells ≤ kc) (hs : slots ≤ ks) :
    own_Go p e below (own_K s Q kc ks) T (mkF m pc Ls (w :: rest)) :=
  own_end X (fun h => by rw [Bd.returns] at h; cases h) Bd.notSynchronized eT hQ hc hs fun fs hr => retOut X hx Bd.returns (by cases t <;> first | (cases ht; done) | rfl) (Or.inr (Or.inr (Or.inr (Or.inr ⟨rfl, ht, hw⟩)))) hd hr
theorem own_retV (X : Stand p l e R s m args below meth c T locs cells slots) (hx : p.tables.exec = Jvm.exec) (Bd : BodyLoose p l x S code maxLocals none e s m args below meth c s₁) (hd : decode c.code pc = .ok (.return_, 1)) (eT : T.heap = h) (hQ : Q none h locs) (hc : cells ≤ kc) (hs : slots ≤ ks) :
    own_Go p e below (own_K s Q kc ks) T (mkF m pc Ls []) :=
  own_end X (fun _ => rfl) Bd.notSynchronized eT hQ hc hs fun fs hr => X.returnOut hx Bd.returns hd hr
end Own
theorem own_Sta_keep {Z : State} {h h' : Heap} {C n d : String} {v : Value} {ws : List Addr} (F : Sta Z h C n d v) (K : Keep h h' ws) (q : ∀ x ∈ ws, ∀ cell : Cell, h[x]? = some cell → cell.vm.isStatics = false) : Sta Z h' C n d v := by
  obtain ⟨cf, i, k, f, st, cell, h1, h2, h3, h4, h5, h6, h7⟩ := F
  exact ⟨cf, i, k, f, st, cell, h1, h2, h3, h4, K.2.1 _ _ h5 (fun hm => by rw [q _ hm _ h5] at h6; cases h6), h6, h7⟩
theorem own_Ins_keep {Z : State} {h h' : Heap} {a : Addr} {C : String} {b : Bool} {ws : List Addr} (F : Ins Z h a C b) (K : Keep h h' ws) : Ins Z h' a C b := by
  obtain ⟨cell, cT, h1, h2, h3⟩ := F
  obtain ⟨c', e1, e2, e3, -⟩ := K.2.2 _ _ h1
  exact ⟨c', cT, e1, h2, by rw [e2, e3]; exact h3⟩
theorem own_enum {Z : State} {args : Array Value} {C D n d : String} (h : (Cond.exactly (Term.static C n d) D).value args Z none Z [] = some true) (hi : (Cond.initializedFor C n d).before args Z = true ∨ ((Cond.initialized C).before args Z = true ∧ (Cond.laysStatic C n d).before args Z = true)) :
    ∃ a, (Term.static C n d).eval args Z none [] Z = some (.ref a) ∧ Sta Z Z.heap C n d (.ref a) ∧ Exa Z Z.heap a D := by
  obtain ⟨a, e⟩ := exa_v h
  exact ⟨a, e, Sta.start e hi, Exa.start e h⟩
theorem own_ord {Z : State} {args : Array Value} {t : Term} {a : Addr} {O n d : String} {k : Int32} (e : t.eval args Z none [] Z = some (.ref a)) (h : (Cond.eq (Term.field t O n d) (Term.int k)).value args Z none Z [] = some true) : Fld Z Z.heap a O n d (.int k) := by
  refine Fld.start ?_
  have q := fld_at (C := O) (n := n) (dd := d) (first := Z) (o := none) (idx := []) (args := args) e
  obtain ⟨x, y, h1, h2, -⟩ := cmp_v (Or.inl h)
  rw [q] at h1
  have h2' : some (Value.int k) = some y := h2
  cases h2'
  cases x <;> simp [Cond.value, Term.eval, e, h1] at h
  rw [h1, h]
theorem own_bb (x : Int32) : x.toInt8.toInt32.toInt8.toInt32 = x.toInt8.toInt32 := by simp
theorem own_cc (x : Int32) : x.toUInt32.toUInt16.toUInt32.toInt32.toUInt32.toUInt16.toUInt32.toInt32 = x.toUInt32.toUInt16.toUInt32.toInt32 := by simp only [UInt32.toUInt32_toInt32, UInt16.toUInt16_toUInt32]
theorem own_nar_ref {t : FieldType} {v : Value} (h : v.isRef = true) (ht : t.isReference = true) : narrow t v = v := by cases t <;> first | (cases ht; done) | rfl
theorem own_fits_ref {t : FieldType} {v : Value} (h : v.isRef = true) (ht : t.isReference = true) : fits t v = true := by rcases ref_cases h with rfl | ⟨a, rfl⟩ <;> cases t <;> first | (cases ht; done) | rfl
theorem own_nar_b {z : Int32} (h : z = 0 ∨ z = 1) : narrow .boolean (.int z) = .int z := by rcases h with rfl | rfl <;> rfl
theorem own_fits_b {z : Int32} (h : z = 0 ∨ z = 1) : fits .boolean (.int z) = true := by rcases h with rfl | rfl <;> rfl
theorem own_d1_0 : decode method_2_code 0 = .ok (.iload 4, 2) := by decide +kernel
theorem own_d1_2 : decode method_2_code 2 = .ok (.ifCond .ne 5, 3) := by decide +kernel
theorem own_d1_5 : decode method_2_code 5 = .ok (.lload_n 0, 1) := by decide +kernel
theorem own_d1_6 : decode method_2_code 6 = .ok (.lreturn, 1) := by decide +kernel
theorem own_d1_7 : decode method_2_code 7 = .ok (.iload 4, 2) := by decide +kernel
theorem own_d1_9 : decode method_2_code 9 = .ok (.iconst 1, 1) := by decide +kernel
theorem own_d1_10 : decode method_2_code 10 = .ok (.if_icmp .ne 5, 3) := by decide +kernel
theorem own_d1_13 : decode method_2_code 13 = .ok (.lload_n 2, 1) := by decide +kernel
theorem own_d1_14 : decode method_2_code 14 = .ok (.lreturn, 1) := by decide +kernel
theorem own_d1_15 : decode method_2_code 15 = .ok (.iload 4, 2) := by decide +kernel
theorem own_d1_17 : decode method_2_code 17 = .ok (.iconst 2, 1) := by decide +kernel
theorem own_d1_18 : decode method_2_code 18 = .ok (.if_icmp .ne 7, 3) := by decide +kernel
theorem own_d1_21 : decode method_2_code 21 = .ok (.lload_n 0, 1) := by decide +kernel
theorem own_d1_22 : decode method_2_code 22 = .ok (.lconst 1, 1) := by decide +kernel
theorem own_d1_23 : decode method_2_code 23 = .ok (.ladd, 1) := by decide +kernel
theorem own_d1_24 : decode method_2_code 24 = .ok (.lreturn, 1) := by decide +kernel
theorem own_d1_25 : decode method_2_code 25 = .ok (.lload_n 0, 1) := by decide +kernel
theorem own_d1_26 : decode method_2_code 26 = .ok (.lconst 1, 1) := by decide +kernel
theorem own_d1_27 : decode method_2_code 27 = .ok (.lsub, 1) := by decide +kernel
theorem own_d1_28 : decode method_2_code 28 = .ok (.lreturn, 1) := by decide +kernel
theorem own_pn0 : plainName "com/example/featurefront/featurefront/ObjectivesWeaklyDominatesPinLaw" = true := by first | (simp [plainName, overriddenIn]; done) | decide +kernel
theorem own_d2_0 : decode prog_21_method_6_code 0 = .ok (.iconst 0, 1) := by decide +kernel
theorem own_d2_1 : decode prog_21_method_6_code 1 = .ok (.istore_n 2, 1) := by decide +kernel
theorem own_d2_2 : decode prog_21_method_6_code 2 = .ok (.iload_n 2, 1) := by decide +kernel
theorem own_d2_3 : decode prog_21_method_6_code 3 = .ok (.getstatic 41, 3) := by decide +kernel
theorem own_d2_6 : decode prog_21_method_6_code 6 = .ok (.if_icmp .ge 21, 3) := by decide +kernel
theorem own_d2_9 : decode prog_21_method_6_code 9 = .ok (.aload_n 0, 1) := by decide +kernel
theorem own_d2_10 : decode prog_21_method_6_code 10 = .ok (.iload_n 2, 1) := by decide +kernel
theorem own_d2_11 : decode prog_21_method_6_code 11 = .ok (.laload, 1) := by decide +kernel
theorem own_d2_12 : decode prog_21_method_6_code 12 = .ok (.aload_n 1, 1) := by decide +kernel
theorem own_d2_13 : decode prog_21_method_6_code 13 = .ok (.iload_n 2, 1) := by decide +kernel
theorem own_d2_14 : decode prog_21_method_6_code 14 = .ok (.laload, 1) := by decide +kernel
theorem own_d2_15 : decode prog_21_method_6_code 15 = .ok (.lcmp, 1) := by decide +kernel
theorem own_d2_16 : decode prog_21_method_6_code 16 = .ok (.ifCond .le 5, 3) := by decide +kernel
theorem own_d2_19 : decode prog_21_method_6_code 19 = .ok (.iconst 0, 1) := by decide +kernel
theorem own_d2_20 : decode prog_21_method_6_code 20 = .ok (.ireturn, 1) := by decide +kernel
theorem own_d2_21 : decode prog_21_method_6_code 21 = .ok (.iinc 2 1, 3) := by decide +kernel
theorem own_d2_24 : decode prog_21_method_6_code 24 = .ok (.goto (-22), 3) := by decide +kernel
theorem own_d2_27 : decode prog_21_method_6_code 27 = .ok (.iconst 1, 1) := by decide +kernel
theorem own_d2_28 : decode prog_21_method_6_code 28 = .ok (.ireturn, 1) := by decide +kernel
theorem own_pn1 : plainName "com/example/featurefront/featurefront/Objectives" = true := by first | (simp [plainName, overriddenIn]; done) | decide +kernel
theorem own_pd0 : parseMethodDescriptor "(JJI)J" = some ⟨[.long, .long, .int], some .long⟩ := by decide +kernel
theorem own_pd1 : parseMethodDescriptor "([J[J)Z" = some ⟨[(.array .long), (.array .long)], some .boolean⟩ := by decide +kernel
theorem own_sint {Z : State} {args : Array Value} {C n d : String} {k : Int32} (h : (Cond.eq (Term.static C n d) (Term.int k)).value args Z none Z [] = some true) (hi : (Cond.initializedFor C n d).before args Z = true ∨ ((Cond.initialized C).before args Z = true ∧ (Cond.laysStatic C n d).before args Z = true)) : Sta Z Z.heap C n d (.int k) := by
  refine Sta.start ?_ hi
  obtain ⟨x, y, h1, h2, -⟩ := cmp_v (Or.inl h)
  have h2' : some (Value.int k) = some y := h2
  cases h2'
  simp only [Cond.value, h1, h2] at h
  cases x <;> simp at h
  rw [h1, h]
def own_all (u0 u1 u2 u3 v0 v1 v2 v3 : Int64) : Int32 := if v0 < u0 then 0 else if v1 < u1 then 0 else if v2 < u2 then 0 else if v3 < u3 then 0 else 1

def own_r1 : Room := { frames := 0, cells := 0, slots := 0, locals := 0 }
theorem own_ef1 (m : MethodId) (x0 : Int64) (x1 : Int64) (x2 : Int32) : entryFrame m #[(.long x0), (.long x1), (.int x2)] 5 = mkF m 0 #[.val (.long x0), .second, .val (.long x1), .second, .val (.int x2)] [] := by first | (simp [entryFrame, mkF, argsToLocals, Value.category]; done) | rfl
def own_Q1 (Z : State) (ak tt : Int64) (cc : Int32) (h0 : Heap) (n0 : Nat) : Option Value → Heap → List Loc → Prop := fun v h L => ∃ z : Int64, v = some (.long z) ∧ Fr n0 L ∧ h = h0
set_option maxRecDepth 65536 in
set_option maxHeartbeats 40000000 in
theorem own_rm1 (l : Launch) (Z : State) (a0 : Array Value) (hw : ∀ d ∈ tables_1, d.before a0 Z = true) (ws : List Jvm.Cond) (ak tt : Int64) (cc : Int32) (h0 : Heap) (n0 : Nat) (Z0 : n0 ≤ h0.size)  :
    MetFree l (⟨"com/example/featurefront/featurefront/ObjectivesWeaklyDominatesPinLaw", "pick", "(JJI)J"⟩ : MethodName) (head1 (Jvm.Cond.code (⟨"com/example/featurefront/featurefront/ObjectivesWeaklyDominatesPinLaw", "pick", "(JJI)J"⟩ : MethodName) method_2_code 5 (some .long) :: ws) own_r1) (fun a_ U_ => a_ = #[(.long ak), (.long tt), (.int cc)] ∧ Z.Warmed39 U_.vm ∧ U_.heap = h0) (fun _ _ _ _ _ => True) (fun _ U_ o_ U'_ => ∃ v_ L_, o_ = .returned v_ ∧ own_Q1 Z ak tt  cc  h0 n0 v_ U'_.heap L_ ∧ FrameEnd U_ o_ U'_ L_ own_r1.cells own_r1.slots) := by
  refine MetFree.of_bodySF (plainFor_of_name own_pn0) hisR ?_
  intro p e s m args below meth c s₁ Bd hml0 hP hK
  obtain ⟨rfl, hZ, hh⟩ := hP
  have hx := Bd.exec
  have hby := Bd.bytes
  have hml : c.maxLocals = 5 := hml0
  have hown : s.vm.findClass "com/example/featurefront/featurefront/ObjectivesWeaklyDominatesPinLaw" = some m.cls := findClass_of_methodNamed Bd.named
  have hnm := (name_of_methodNamed Bd.named Bd.method).1
  have X0 : Stand p l e own_r1 s m #[(.long ak), (.long tt), (.int cc)] below meth c s₁ [] 0 0 := Stand.of_body Bd
  have e0 : s₁.heap = h0 := by rw [← hh, Bd.state]; rfl
  have N0 := Fr.nil n0
  refine own_in (own_ef1 m ak tt cc) ?_
  show own_Go p e below (own_K s (own_Q1 Z ak tt  cc  h0 n0) own_r1.cells own_r1.slots) s₁ (mkF m 0 #[.val (.long ak), .second, .val (.long tt), .second, .val (.int cc)] [])
  refine own_st (T' := s₁) (g' := (mkF m 2 #[.val (.long ak), .second, .val (.long tt), .second, .val (.int cc)] [(.int cc)])) (fun t k => ?_) ?_
  · show Steps p.tables e below (s₁.setTop (mkF m 0 #[.val (.long ak), .second, .val (.long tt), .second, .val (.int cc)] [])) t
    refine XS.iload X0.here hx rfl (hb hby own_d1_0) rfl ?_
    show Steps p.tables e below (s₁.setTop (mkF m 2 #[.val (.long ak), .second, .val (.long tt), .second, .val (.int cc)] [(.int cc)])) t
    exact k
  by_cases hc1 : cc = (0 : Int32)
  · refine own_st (T' := s₁) (g' := (mkF m 6 #[.val (.long ak), .second, .val (.long tt), .second, .val (.int cc)] [(.long ak)])) (fun t k => ?_) ?_
    · show Steps p.tables e below (s₁.setTop (mkF m 2 #[.val (.long ak), .second, .val (.long tt), .second, .val (.int cc)] [(.int cc)])) t
      refine XS.ifNo X0.here hx rfl (hb hby own_d1_2) rfl ((if0 _ _).trans (teq hc1).2) ?_
      show Steps p.tables e below (s₁.setTop (mkF m 5 #[.val (.long ak), .second, .val (.long tt), .second, .val (.int cc)] [])) t
      refine XS.lloadN X0.here hx rfl (hb hby own_d1_5) rfl ?_
      show Steps p.tables e below (s₁.setTop (mkF m 6 #[.val (.long ak), .second, .val (.long tt), .second, .val (.int cc)] [(.long ak)])) t
      exact k
    exact own_retJ X0 hx Bd (hb hby own_d1_6) e0 (⟨_, rfl, N0, rfl⟩) (by decide) (by decide)
  · refine own_st (T' := s₁) (g' := (mkF m 10 #[.val (.long ak), .second, .val (.long tt), .second, .val (.int cc)] [(.int (1 : Int32)), (.int cc)])) (fun t k => ?_) ?_
    · show Steps p.tables e below (s₁.setTop (mkF m 2 #[.val (.long ak), .second, .val (.long tt), .second, .val (.int cc)] [(.int cc)])) t
      refine XS.ifYes X0.here hx rfl (pc0 := 2) (pc' := 7) rfl (hb hby own_d1_2) rfl ((if0 _ _).trans (feq hc1).2) (by decide) (by decide) ?_
      show Steps p.tables e below (s₁.setTop (mkF m 7 #[.val (.long ak), .second, .val (.long tt), .second, .val (.int cc)] [])) t
      refine XS.iload X0.here hx rfl (hb hby own_d1_7) rfl ?_
      show Steps p.tables e below (s₁.setTop (mkF m 9 #[.val (.long ak), .second, .val (.long tt), .second, .val (.int cc)] [(.int cc)])) t
      refine XS.iconst X0.here hx rfl (hb hby own_d1_9) ?_
      show Steps p.tables e below (s₁.setTop (mkF m 10 #[.val (.long ak), .second, .val (.long tt), .second, .val (.int cc)] [(.int (1 : Int32)), (.int cc)])) t
      exact k
    by_cases hc2 : cc = (1 : Int32)
    · refine own_st (T' := s₁) (g' := (mkF m 14 #[.val (.long ak), .second, .val (.long tt), .second, .val (.int cc)] [(.long tt)])) (fun t k => ?_) ?_
      · show Steps p.tables e below (s₁.setTop (mkF m 10 #[.val (.long ak), .second, .val (.long tt), .second, .val (.int cc)] [(.int (1 : Int32)), (.int cc)])) t
        refine XS.icmpNo X0.here hx rfl (hb hby own_d1_10) rfl (teq hc2).2 ?_
        show Steps p.tables e below (s₁.setTop (mkF m 13 #[.val (.long ak), .second, .val (.long tt), .second, .val (.int cc)] [])) t
        refine XS.lloadN X0.here hx rfl (hb hby own_d1_13) rfl ?_
        show Steps p.tables e below (s₁.setTop (mkF m 14 #[.val (.long ak), .second, .val (.long tt), .second, .val (.int cc)] [(.long tt)])) t
        exact k
      exact own_retJ X0 hx Bd (hb hby own_d1_14) e0 (⟨_, rfl, N0, rfl⟩) (by decide) (by decide)
    · refine own_st (T' := s₁) (g' := (mkF m 18 #[.val (.long ak), .second, .val (.long tt), .second, .val (.int cc)] [(.int (2 : Int32)), (.int cc)])) (fun t k => ?_) ?_
      · show Steps p.tables e below (s₁.setTop (mkF m 10 #[.val (.long ak), .second, .val (.long tt), .second, .val (.int cc)] [(.int (1 : Int32)), (.int cc)])) t
        refine XS.icmpYes X0.here hx rfl (pc0 := 10) (pc' := 15) rfl (hb hby own_d1_10) rfl (feq hc2).2 (by decide) (by decide) ?_
        show Steps p.tables e below (s₁.setTop (mkF m 15 #[.val (.long ak), .second, .val (.long tt), .second, .val (.int cc)] [])) t
        refine XS.iload X0.here hx rfl (hb hby own_d1_15) rfl ?_
        show Steps p.tables e below (s₁.setTop (mkF m 17 #[.val (.long ak), .second, .val (.long tt), .second, .val (.int cc)] [(.int cc)])) t
        refine XS.iconst X0.here hx rfl (hb hby own_d1_17) ?_
        show Steps p.tables e below (s₁.setTop (mkF m 18 #[.val (.long ak), .second, .val (.long tt), .second, .val (.int cc)] [(.int (2 : Int32)), (.int cc)])) t
        exact k
      by_cases hc3 : cc = (2 : Int32)
      · refine own_st (T' := s₁) (g' := (mkF m 24 #[.val (.long ak), .second, .val (.long tt), .second, .val (.int cc)] [(.long (ak + (1 : Int64)))])) (fun t k => ?_) ?_
        · show Steps p.tables e below (s₁.setTop (mkF m 18 #[.val (.long ak), .second, .val (.long tt), .second, .val (.int cc)] [(.int (2 : Int32)), (.int cc)])) t
          refine XS.icmpNo X0.here hx rfl (hb hby own_d1_18) rfl (teq hc3).2 ?_
          show Steps p.tables e below (s₁.setTop (mkF m 21 #[.val (.long ak), .second, .val (.long tt), .second, .val (.int cc)] [])) t
          refine XS.lloadN X0.here hx rfl (hb hby own_d1_21) rfl ?_
          show Steps p.tables e below (s₁.setTop (mkF m 22 #[.val (.long ak), .second, .val (.long tt), .second, .val (.int cc)] [(.long ak)])) t
          refine XS.lconst X0.here hx rfl (hb hby own_d1_22) ?_
          show Steps p.tables e below (s₁.setTop (mkF m 23 #[.val (.long ak), .second, .val (.long tt), .second, .val (.int cc)] [(.long (1 : Int64)), (.long ak)])) t
          refine XS.ladd X0.here hx rfl (hb hby own_d1_23) rfl ?_
          show Steps p.tables e below (s₁.setTop (mkF m 24 #[.val (.long ak), .second, .val (.long tt), .second, .val (.int cc)] [(.long (ak + (1 : Int64)))])) t
          exact k
        exact own_retJ X0 hx Bd (hb hby own_d1_24) e0 (⟨_, rfl, N0, rfl⟩) (by decide) (by decide)
      · refine own_st (T' := s₁) (g' := (mkF m 28 #[.val (.long ak), .second, .val (.long tt), .second, .val (.int cc)] [(.long (ak - (1 : Int64)))])) (fun t k => ?_) ?_
        · show Steps p.tables e below (s₁.setTop (mkF m 18 #[.val (.long ak), .second, .val (.long tt), .second, .val (.int cc)] [(.int (2 : Int32)), (.int cc)])) t
          refine XS.icmpYes X0.here hx rfl (pc0 := 18) (pc' := 25) rfl (hb hby own_d1_18) rfl (feq hc3).2 (by decide) (by decide) ?_
          show Steps p.tables e below (s₁.setTop (mkF m 25 #[.val (.long ak), .second, .val (.long tt), .second, .val (.int cc)] [])) t
          refine XS.lloadN X0.here hx rfl (hb hby own_d1_25) rfl ?_
          show Steps p.tables e below (s₁.setTop (mkF m 26 #[.val (.long ak), .second, .val (.long tt), .second, .val (.int cc)] [(.long ak)])) t
          refine XS.lconst X0.here hx rfl (hb hby own_d1_26) ?_
          show Steps p.tables e below (s₁.setTop (mkF m 27 #[.val (.long ak), .second, .val (.long tt), .second, .val (.int cc)] [(.long (1 : Int64)), (.long ak)])) t
          refine XS.lsub X0.here hx rfl (hb hby own_d1_27) rfl ?_
          show Steps p.tables e below (s₁.setTop (mkF m 28 #[.val (.long ak), .second, .val (.long tt), .second, .val (.int cc)] [(.long (ak - (1 : Int64)))])) t
          exact k
        exact own_retJ X0 hx Bd (hb hby own_d1_28) e0 (⟨_, rfl, N0, rfl⟩) (by decide) (by decide)
def own_r2 : Room := { frames := 0, cells := 0, slots := 0, locals := 0 }
theorem own_ef2 (m : MethodId) (x0 : Addr) (x1 : Addr) : entryFrame m #[(.ref x0), (.ref x1)] 3 = mkF m 0 #[.val (.ref x0), .val (.ref x1), .unset] [] := by first | (simp [entryFrame, mkF, argsToLocals, Value.category]; done) | rfl
def own_Q2 (Z : State) (a b : Addr) (ka kb : ClassId) (u0 u1 u2 u3 v0 v1 v2 v3 : Int64) (h0 : Heap) (n0 : Nat) : Option Value → Heap → List Loc → Prop := fun v h L => v = some (.int (own_all u0 u1 u2 u3 v0 v1 v2 v3)) ∧ Fr n0 L ∧ h = h0
set_option maxRecDepth 65536 in
set_option maxHeartbeats 40000000 in
theorem own_rm2 (l : Launch) (Z : State) (a0 : Array Value) (hw : ∀ d ∈ tables_1, d.before a0 Z = true) (ws : List Jvm.Cond) (a b : Addr) (ka kb : ClassId) (u0 u1 u2 u3 v0 v1 v2 v3 : Int64) (h0 : Heap) (n0 : Nat) (Z0 : n0 ≤ h0.size) (S_C : Sta Z h0 "com/example/featurefront/featurefront/Objectives" "COUNT" "I" (.int (4 : Int32))) (Va : Arv Z h0 a ka .long (4 : Int32) [(.long u0), (.long u1), (.long u2), (.long u3)] (.long (0 : Int64))) (Vb : Arv Z h0 b kb .long (4 : Int32) [(.long v0), (.long v1), (.long v2), (.long v3)] (.long (0 : Int64))) :
    MetFree l (⟨"com/example/featurefront/featurefront/Objectives", "weaklyDominates", "([J[J)Z"⟩ : MethodName) (head1 (Jvm.Cond.code (⟨"com/example/featurefront/featurefront/Objectives", "weaklyDominates", "([J[J)Z"⟩ : MethodName) prog_21_method_6_code 3 (some .boolean) :: ws) own_r2) (fun a_ U_ => a_ = #[(.ref a), (.ref b)] ∧ Z.Warmed39 U_.vm ∧ U_.heap = h0) (fun _ _ _ _ _ => True) (fun _ U_ o_ U'_ => ∃ v_ L_, o_ = .returned v_ ∧ own_Q2 Z a b  ka kb  u0 u1 u2 u3 v0 v1 v2 v3  h0 n0 v_ U'_.heap L_ ∧ FrameEnd U_ o_ U'_ L_ own_r2.cells own_r2.slots) := by
  refine MetFree.of_bodySF (plainFor_of_name own_pn1) hisR ?_
  intro p e s m args below meth c s₁ Bd hml0 hP hK
  obtain ⟨rfl, hZ, hh⟩ := hP
  have hx := Bd.exec
  have hby := Bd.bytes
  have hml : c.maxLocals = 3 := hml0
  have hown : s.vm.findClass "com/example/featurefront/featurefront/Objectives" = some m.cls := findClass_of_methodNamed Bd.named
  have hnm := (name_of_methodNamed Bd.named Bd.method).1
  have X0 : Stand p l e own_r2 s m #[(.ref a), (.ref b)] below meth c s₁ [] 0 0 := Stand.of_body Bd
  have e0 : s₁.heap = h0 := by rw [← hh, Bd.state]; rfl
  have N0 := Fr.nil n0
  refine own_in (own_ef2 m a b) ?_
  show own_Go p e below (own_K s (own_Q2 Z a b  ka kb  u0 u1 u2 u3 v0 v1 v2 v3  h0 n0) own_r2.cells own_r2.slots) s₁ (mkF m 0 #[.val (.ref a), .val (.ref b), .unset] [])
  refine own_st (T' := s₁) (g' := (mkF m 3 #[.val (.ref a), .val (.ref b), .val (.int (0 : Int32))] [(.int (0 : Int32))])) (fun t k => ?_) ?_
  · show Steps p.tables e below (s₁.setTop (mkF m 0 #[.val (.ref a), .val (.ref b), .unset] [])) t
    refine XS.iconst X0.here hx rfl (hb hby own_d2_0) ?_
    show Steps p.tables e below (s₁.setTop (mkF m 1 #[.val (.ref a), .val (.ref b), .unset] [(.int (0 : Int32))])) t
    refine XS.istoreN X0.here hx rfl (hb hby own_d2_1) rfl (l' := #[.val (.ref a), .val (.ref b), .val (.int (0 : Int32))]) rfl ?_
    show Steps p.tables e below (s₁.setTop (mkF m 2 #[.val (.ref a), .val (.ref b), .val (.int (0 : Int32))] [])) t
    refine XS.iloadN X0.here hx rfl (hb hby own_d2_2) rfl ?_
    show Steps p.tables e below (s₁.setTop (mkF m 3 #[.val (.ref a), .val (.ref b), .val (.int (0 : Int32))] [(.int (0 : Int32))])) t
    exact k
  obtain ⟨T1, X1, e1, st1⟩ := getS2 X0 hx hZ hown (host := "") (Or.inl (hw _ (List.mem_of_getElem? (i := 9) rfl))) Via.refl e0 S_C (g := (mkF m 3 #[.val (.ref a), .val (.ref b), .val (.int (0 : Int32))] [(.int (0 : Int32))])) rfl (hb hby own_d2_3)
  refine own_st (T' := T1) (g' := (mkF m 6 #[.val (.ref a), .val (.ref b), .val (.int (0 : Int32))] [(.int (4 : Int32)), (.int (0 : Int32))])) st1 ?_
  refine own_st (T' := T1) (g' := (mkF m 11 #[.val (.ref a), .val (.ref b), .val (.int (0 : Int32))] [(.int (0 : Int32)), (.ref a)])) (fun t k => ?_) ?_
  · show Steps p.tables e below (T1.setTop (mkF m 6 #[.val (.ref a), .val (.ref b), .val (.int (0 : Int32))] [(.int (4 : Int32)), (.int (0 : Int32))])) t
    refine XS.icmpNo X1.here hx rfl (hb hby own_d2_6) rfl (tlt (by decide : (0 : Int32) < (4 : Int32))).2.1 ?_
    show Steps p.tables e below (T1.setTop (mkF m 9 #[.val (.ref a), .val (.ref b), .val (.int (0 : Int32))] [])) t
    refine XS.aloadN X1.here hx rfl (hb hby own_d2_9) rfl rfl ?_
    show Steps p.tables e below (T1.setTop (mkF m 10 #[.val (.ref a), .val (.ref b), .val (.int (0 : Int32))] [(.ref a)])) t
    refine XS.iloadN X1.here hx rfl (hb hby own_d2_10) rfl ?_
    show Steps p.tables e below (T1.setTop (mkF m 11 #[.val (.ref a), .val (.ref b), .val (.int (0 : Int32))] [(.int (0 : Int32)), (.ref a)])) t
    exact k
  obtain ⟨cl2, Ar2, q2, S2, M2, H2, G2⟩ := id Va
  refine own_st (T' := T1) (g' := (mkF m 14 #[.val (.ref a), .val (.ref b), .val (.int (0 : Int32))] [(.int (0 : Int32)), (.ref b), (.long u0)])) (fun t k => ?_) ?_
  · show Steps p.tables e below (T1.setTop (mkF m 11 #[.val (.ref a), .val (.ref b), .val (.int (0 : Int32))] [(.int (0 : Int32)), (.ref a)])) t
    refine X1.laload hx (j := (0 : Int32)) (v := (.long u0)) (by rw [e1]; exact Ar2.1) (State.isArrayOf_alike hZ.alike Ar2.2.1) Ar2.2.2 (inb_of S2 ⟨by decide, by decide⟩) (Has.at H2 (inb_of S2 ⟨by decide, by decide⟩) rfl) (g := (mkF m 11 #[.val (.ref a), .val (.ref b), .val (.int (0 : Int32))] [(.int (0 : Int32)), (.ref a)])) rfl rfl (hb hby own_d2_11) _ ?_
    show Steps p.tables e below (T1.setTop (mkF m 12 #[.val (.ref a), .val (.ref b), .val (.int (0 : Int32))] [(.long u0)])) t
    refine XS.aloadN X1.here hx rfl (hb hby own_d2_12) rfl rfl ?_
    show Steps p.tables e below (T1.setTop (mkF m 13 #[.val (.ref a), .val (.ref b), .val (.int (0 : Int32))] [(.ref b), (.long u0)])) t
    refine XS.iloadN X1.here hx rfl (hb hby own_d2_13) rfl ?_
    show Steps p.tables e below (T1.setTop (mkF m 14 #[.val (.ref a), .val (.ref b), .val (.int (0 : Int32))] [(.int (0 : Int32)), (.ref b), (.long u0)])) t
    exact k
  obtain ⟨cl3, Ar3, q3, S3, M3, H3, G3⟩ := id Vb
  refine own_st (T' := T1) (g' := (mkF m 16 #[.val (.ref a), .val (.ref b), .val (.int (0 : Int32))] [(.int (lcmpW u0 v0))])) (fun t k => ?_) ?_
  · show Steps p.tables e below (T1.setTop (mkF m 14 #[.val (.ref a), .val (.ref b), .val (.int (0 : Int32))] [(.int (0 : Int32)), (.ref b), (.long u0)])) t
    refine X1.laload hx (j := (0 : Int32)) (v := (.long v0)) (by rw [e1]; exact Ar3.1) (State.isArrayOf_alike hZ.alike Ar3.2.1) Ar3.2.2 (inb_of S3 ⟨by decide, by decide⟩) (Has.at H3 (inb_of S3 ⟨by decide, by decide⟩) rfl) (g := (mkF m 14 #[.val (.ref a), .val (.ref b), .val (.int (0 : Int32))] [(.int (0 : Int32)), (.ref b), (.long u0)])) rfl rfl (hb hby own_d2_14) _ ?_
    show Steps p.tables e below (T1.setTop (mkF m 15 #[.val (.ref a), .val (.ref b), .val (.int (0 : Int32))] [(.long v0), (.long u0)])) t
    refine XS.lcmp X1.here hx rfl (hb hby own_d2_15) rfl ?_
    show Steps p.tables e below (T1.setTop (mkF m 16 #[.val (.ref a), .val (.ref b), .val (.int (0 : Int32))] [(.int (lcmpW u0 v0))])) t
    exact k
  by_cases hc4 : v0 < u0
  · refine own_st (T' := T1) (g' := (mkF m 20 #[.val (.ref a), .val (.ref b), .val (.int (0 : Int32))] [(.int (0 : Int32))])) (fun t k => ?_) ?_
    · show Steps p.tables e below (T1.setTop (mkF m 16 #[.val (.ref a), .val (.ref b), .val (.int (0 : Int32))] [(.int (lcmpW u0 v0))])) t
      refine XS.ifNo X1.here hx rfl (hb hby own_d2_16) rfl ((if0 _ _).trans (tlt ((lw_gt _ _).mpr hc4)).2.2.2) ?_
      show Steps p.tables e below (T1.setTop (mkF m 19 #[.val (.ref a), .val (.ref b), .val (.int (0 : Int32))] [])) t
      refine XS.iconst X1.here hx rfl (hb hby own_d2_19) ?_
      show Steps p.tables e below (T1.setTop (mkF m 20 #[.val (.ref a), .val (.ref b), .val (.int (0 : Int32))] [(.int (0 : Int32))])) t
      exact k
    exact own_retN X1 hx Bd (t := .boolean) (by simp) rfl (hb hby own_d2_20) e1 (⟨by simp only [own_all, hc4, if_true, if_false], N0, rfl⟩) (by decide) (by decide)
  · refine own_st (T' := T1) (g' := (mkF m 3 #[.val (.ref a), .val (.ref b), .val (.int (1 : Int32))] [(.int (1 : Int32))])) (fun t k => ?_) ?_
    · show Steps p.tables e below (T1.setTop (mkF m 16 #[.val (.ref a), .val (.ref b), .val (.int (0 : Int32))] [(.int (lcmpW u0 v0))])) t
      refine XS.ifYes X1.here hx rfl (pc0 := 16) (pc' := 21) rfl (hb hby own_d2_16) rfl ((if0 _ _).trans (flt (fun q => hc4 ((lw_gt _ _).mp q))).2.2.2) (by decide) (by decide) ?_
      show Steps p.tables e below (T1.setTop (mkF m 21 #[.val (.ref a), .val (.ref b), .val (.int (0 : Int32))] [])) t
      refine XS.iinc X1.here hx rfl (hb hby own_d2_21) rfl (l' := #[.val (.ref a), .val (.ref b), .val (.int (1 : Int32))]) rfl ?_
      show Steps p.tables e below (T1.setTop (mkF m 24 #[.val (.ref a), .val (.ref b), .val (.int (1 : Int32))] [])) t
      refine XS.goto X1.here hx rfl (pc0 := 24) (pc' := 2) rfl (hb hby own_d2_24) (by decide) (by decide) ?_
      show Steps p.tables e below (T1.setTop (mkF m 2 #[.val (.ref a), .val (.ref b), .val (.int (1 : Int32))] [])) t
      refine XS.iloadN X1.here hx rfl (hb hby own_d2_2) rfl ?_
      show Steps p.tables e below (T1.setTop (mkF m 3 #[.val (.ref a), .val (.ref b), .val (.int (1 : Int32))] [(.int (1 : Int32))])) t
      exact k
    obtain ⟨T5, X5, e5, st5⟩ := getS2 X1 hx hZ hown (host := "") (Or.inl (hw _ (List.mem_of_getElem? (i := 9) rfl))) Via.refl e1 S_C (g := (mkF m 3 #[.val (.ref a), .val (.ref b), .val (.int (1 : Int32))] [(.int (1 : Int32))])) rfl (hb hby own_d2_3)
    refine own_st (T' := T5) (g' := (mkF m 6 #[.val (.ref a), .val (.ref b), .val (.int (1 : Int32))] [(.int (4 : Int32)), (.int (1 : Int32))])) st5 ?_
    refine own_st (T' := T5) (g' := (mkF m 11 #[.val (.ref a), .val (.ref b), .val (.int (1 : Int32))] [(.int (1 : Int32)), (.ref a)])) (fun t k => ?_) ?_
    · show Steps p.tables e below (T5.setTop (mkF m 6 #[.val (.ref a), .val (.ref b), .val (.int (1 : Int32))] [(.int (4 : Int32)), (.int (1 : Int32))])) t
      refine XS.icmpNo X5.here hx rfl (hb hby own_d2_6) rfl (tlt (by decide : (1 : Int32) < (4 : Int32))).2.1 ?_
      show Steps p.tables e below (T5.setTop (mkF m 9 #[.val (.ref a), .val (.ref b), .val (.int (1 : Int32))] [])) t
      refine XS.aloadN X5.here hx rfl (hb hby own_d2_9) rfl rfl ?_
      show Steps p.tables e below (T5.setTop (mkF m 10 #[.val (.ref a), .val (.ref b), .val (.int (1 : Int32))] [(.ref a)])) t
      refine XS.iloadN X5.here hx rfl (hb hby own_d2_10) rfl ?_
      show Steps p.tables e below (T5.setTop (mkF m 11 #[.val (.ref a), .val (.ref b), .val (.int (1 : Int32))] [(.int (1 : Int32)), (.ref a)])) t
      exact k
    obtain ⟨cl6, Ar6, q6, S6, M6, H6, G6⟩ := id Va
    refine own_st (T' := T5) (g' := (mkF m 14 #[.val (.ref a), .val (.ref b), .val (.int (1 : Int32))] [(.int (1 : Int32)), (.ref b), (.long u1)])) (fun t k => ?_) ?_
    · show Steps p.tables e below (T5.setTop (mkF m 11 #[.val (.ref a), .val (.ref b), .val (.int (1 : Int32))] [(.int (1 : Int32)), (.ref a)])) t
      refine X5.laload hx (j := (1 : Int32)) (v := (.long u1)) (by rw [e5]; exact Ar6.1) (State.isArrayOf_alike hZ.alike Ar6.2.1) Ar6.2.2 (inb_of S6 ⟨by decide, by decide⟩) (Has.at H6 (inb_of S6 ⟨by decide, by decide⟩) rfl) (g := (mkF m 11 #[.val (.ref a), .val (.ref b), .val (.int (1 : Int32))] [(.int (1 : Int32)), (.ref a)])) rfl rfl (hb hby own_d2_11) _ ?_
      show Steps p.tables e below (T5.setTop (mkF m 12 #[.val (.ref a), .val (.ref b), .val (.int (1 : Int32))] [(.long u1)])) t
      refine XS.aloadN X5.here hx rfl (hb hby own_d2_12) rfl rfl ?_
      show Steps p.tables e below (T5.setTop (mkF m 13 #[.val (.ref a), .val (.ref b), .val (.int (1 : Int32))] [(.ref b), (.long u1)])) t
      refine XS.iloadN X5.here hx rfl (hb hby own_d2_13) rfl ?_
      show Steps p.tables e below (T5.setTop (mkF m 14 #[.val (.ref a), .val (.ref b), .val (.int (1 : Int32))] [(.int (1 : Int32)), (.ref b), (.long u1)])) t
      exact k
    obtain ⟨cl7, Ar7, q7, S7, M7, H7, G7⟩ := id Vb
    refine own_st (T' := T5) (g' := (mkF m 16 #[.val (.ref a), .val (.ref b), .val (.int (1 : Int32))] [(.int (lcmpW u1 v1))])) (fun t k => ?_) ?_
    · show Steps p.tables e below (T5.setTop (mkF m 14 #[.val (.ref a), .val (.ref b), .val (.int (1 : Int32))] [(.int (1 : Int32)), (.ref b), (.long u1)])) t
      refine X5.laload hx (j := (1 : Int32)) (v := (.long v1)) (by rw [e5]; exact Ar7.1) (State.isArrayOf_alike hZ.alike Ar7.2.1) Ar7.2.2 (inb_of S7 ⟨by decide, by decide⟩) (Has.at H7 (inb_of S7 ⟨by decide, by decide⟩) rfl) (g := (mkF m 14 #[.val (.ref a), .val (.ref b), .val (.int (1 : Int32))] [(.int (1 : Int32)), (.ref b), (.long u1)])) rfl rfl (hb hby own_d2_14) _ ?_
      show Steps p.tables e below (T5.setTop (mkF m 15 #[.val (.ref a), .val (.ref b), .val (.int (1 : Int32))] [(.long v1), (.long u1)])) t
      refine XS.lcmp X5.here hx rfl (hb hby own_d2_15) rfl ?_
      show Steps p.tables e below (T5.setTop (mkF m 16 #[.val (.ref a), .val (.ref b), .val (.int (1 : Int32))] [(.int (lcmpW u1 v1))])) t
      exact k
    by_cases hc8 : v1 < u1
    · refine own_st (T' := T5) (g' := (mkF m 20 #[.val (.ref a), .val (.ref b), .val (.int (1 : Int32))] [(.int (0 : Int32))])) (fun t k => ?_) ?_
      · show Steps p.tables e below (T5.setTop (mkF m 16 #[.val (.ref a), .val (.ref b), .val (.int (1 : Int32))] [(.int (lcmpW u1 v1))])) t
        refine XS.ifNo X5.here hx rfl (hb hby own_d2_16) rfl ((if0 _ _).trans (tlt ((lw_gt _ _).mpr hc8)).2.2.2) ?_
        show Steps p.tables e below (T5.setTop (mkF m 19 #[.val (.ref a), .val (.ref b), .val (.int (1 : Int32))] [])) t
        refine XS.iconst X5.here hx rfl (hb hby own_d2_19) ?_
        show Steps p.tables e below (T5.setTop (mkF m 20 #[.val (.ref a), .val (.ref b), .val (.int (1 : Int32))] [(.int (0 : Int32))])) t
        exact k
      exact own_retN X5 hx Bd (t := .boolean) (by simp) rfl (hb hby own_d2_20) e5 (⟨by simp only [own_all, hc4, hc8, if_true, if_false], N0, rfl⟩) (by decide) (by decide)
    · refine own_st (T' := T5) (g' := (mkF m 3 #[.val (.ref a), .val (.ref b), .val (.int (2 : Int32))] [(.int (2 : Int32))])) (fun t k => ?_) ?_
      · show Steps p.tables e below (T5.setTop (mkF m 16 #[.val (.ref a), .val (.ref b), .val (.int (1 : Int32))] [(.int (lcmpW u1 v1))])) t
        refine XS.ifYes X5.here hx rfl (pc0 := 16) (pc' := 21) rfl (hb hby own_d2_16) rfl ((if0 _ _).trans (flt (fun q => hc8 ((lw_gt _ _).mp q))).2.2.2) (by decide) (by decide) ?_
        show Steps p.tables e below (T5.setTop (mkF m 21 #[.val (.ref a), .val (.ref b), .val (.int (1 : Int32))] [])) t
        refine XS.iinc X5.here hx rfl (hb hby own_d2_21) rfl (l' := #[.val (.ref a), .val (.ref b), .val (.int (2 : Int32))]) rfl ?_
        show Steps p.tables e below (T5.setTop (mkF m 24 #[.val (.ref a), .val (.ref b), .val (.int (2 : Int32))] [])) t
        refine XS.goto X5.here hx rfl (pc0 := 24) (pc' := 2) rfl (hb hby own_d2_24) (by decide) (by decide) ?_
        show Steps p.tables e below (T5.setTop (mkF m 2 #[.val (.ref a), .val (.ref b), .val (.int (2 : Int32))] [])) t
        refine XS.iloadN X5.here hx rfl (hb hby own_d2_2) rfl ?_
        show Steps p.tables e below (T5.setTop (mkF m 3 #[.val (.ref a), .val (.ref b), .val (.int (2 : Int32))] [(.int (2 : Int32))])) t
        exact k
      obtain ⟨T9, X9, e9, st9⟩ := getS2 X5 hx hZ hown (host := "") (Or.inl (hw _ (List.mem_of_getElem? (i := 9) rfl))) Via.refl e5 S_C (g := (mkF m 3 #[.val (.ref a), .val (.ref b), .val (.int (2 : Int32))] [(.int (2 : Int32))])) rfl (hb hby own_d2_3)
      refine own_st (T' := T9) (g' := (mkF m 6 #[.val (.ref a), .val (.ref b), .val (.int (2 : Int32))] [(.int (4 : Int32)), (.int (2 : Int32))])) st9 ?_
      refine own_st (T' := T9) (g' := (mkF m 11 #[.val (.ref a), .val (.ref b), .val (.int (2 : Int32))] [(.int (2 : Int32)), (.ref a)])) (fun t k => ?_) ?_
      · show Steps p.tables e below (T9.setTop (mkF m 6 #[.val (.ref a), .val (.ref b), .val (.int (2 : Int32))] [(.int (4 : Int32)), (.int (2 : Int32))])) t
        refine XS.icmpNo X9.here hx rfl (hb hby own_d2_6) rfl (tlt (by decide : (2 : Int32) < (4 : Int32))).2.1 ?_
        show Steps p.tables e below (T9.setTop (mkF m 9 #[.val (.ref a), .val (.ref b), .val (.int (2 : Int32))] [])) t
        refine XS.aloadN X9.here hx rfl (hb hby own_d2_9) rfl rfl ?_
        show Steps p.tables e below (T9.setTop (mkF m 10 #[.val (.ref a), .val (.ref b), .val (.int (2 : Int32))] [(.ref a)])) t
        refine XS.iloadN X9.here hx rfl (hb hby own_d2_10) rfl ?_
        show Steps p.tables e below (T9.setTop (mkF m 11 #[.val (.ref a), .val (.ref b), .val (.int (2 : Int32))] [(.int (2 : Int32)), (.ref a)])) t
        exact k
      obtain ⟨cl10, Ar10, q10, S10, M10, H10, G10⟩ := id Va
      refine own_st (T' := T9) (g' := (mkF m 14 #[.val (.ref a), .val (.ref b), .val (.int (2 : Int32))] [(.int (2 : Int32)), (.ref b), (.long u2)])) (fun t k => ?_) ?_
      · show Steps p.tables e below (T9.setTop (mkF m 11 #[.val (.ref a), .val (.ref b), .val (.int (2 : Int32))] [(.int (2 : Int32)), (.ref a)])) t
        refine X9.laload hx (j := (2 : Int32)) (v := (.long u2)) (by rw [e9]; exact Ar10.1) (State.isArrayOf_alike hZ.alike Ar10.2.1) Ar10.2.2 (inb_of S10 ⟨by decide, by decide⟩) (Has.at H10 (inb_of S10 ⟨by decide, by decide⟩) rfl) (g := (mkF m 11 #[.val (.ref a), .val (.ref b), .val (.int (2 : Int32))] [(.int (2 : Int32)), (.ref a)])) rfl rfl (hb hby own_d2_11) _ ?_
        show Steps p.tables e below (T9.setTop (mkF m 12 #[.val (.ref a), .val (.ref b), .val (.int (2 : Int32))] [(.long u2)])) t
        refine XS.aloadN X9.here hx rfl (hb hby own_d2_12) rfl rfl ?_
        show Steps p.tables e below (T9.setTop (mkF m 13 #[.val (.ref a), .val (.ref b), .val (.int (2 : Int32))] [(.ref b), (.long u2)])) t
        refine XS.iloadN X9.here hx rfl (hb hby own_d2_13) rfl ?_
        show Steps p.tables e below (T9.setTop (mkF m 14 #[.val (.ref a), .val (.ref b), .val (.int (2 : Int32))] [(.int (2 : Int32)), (.ref b), (.long u2)])) t
        exact k
      obtain ⟨cl11, Ar11, q11, S11, M11, H11, G11⟩ := id Vb
      refine own_st (T' := T9) (g' := (mkF m 16 #[.val (.ref a), .val (.ref b), .val (.int (2 : Int32))] [(.int (lcmpW u2 v2))])) (fun t k => ?_) ?_
      · show Steps p.tables e below (T9.setTop (mkF m 14 #[.val (.ref a), .val (.ref b), .val (.int (2 : Int32))] [(.int (2 : Int32)), (.ref b), (.long u2)])) t
        refine X9.laload hx (j := (2 : Int32)) (v := (.long v2)) (by rw [e9]; exact Ar11.1) (State.isArrayOf_alike hZ.alike Ar11.2.1) Ar11.2.2 (inb_of S11 ⟨by decide, by decide⟩) (Has.at H11 (inb_of S11 ⟨by decide, by decide⟩) rfl) (g := (mkF m 14 #[.val (.ref a), .val (.ref b), .val (.int (2 : Int32))] [(.int (2 : Int32)), (.ref b), (.long u2)])) rfl rfl (hb hby own_d2_14) _ ?_
        show Steps p.tables e below (T9.setTop (mkF m 15 #[.val (.ref a), .val (.ref b), .val (.int (2 : Int32))] [(.long v2), (.long u2)])) t
        refine XS.lcmp X9.here hx rfl (hb hby own_d2_15) rfl ?_
        show Steps p.tables e below (T9.setTop (mkF m 16 #[.val (.ref a), .val (.ref b), .val (.int (2 : Int32))] [(.int (lcmpW u2 v2))])) t
        exact k
      by_cases hc12 : v2 < u2
      · refine own_st (T' := T9) (g' := (mkF m 20 #[.val (.ref a), .val (.ref b), .val (.int (2 : Int32))] [(.int (0 : Int32))])) (fun t k => ?_) ?_
        · show Steps p.tables e below (T9.setTop (mkF m 16 #[.val (.ref a), .val (.ref b), .val (.int (2 : Int32))] [(.int (lcmpW u2 v2))])) t
          refine XS.ifNo X9.here hx rfl (hb hby own_d2_16) rfl ((if0 _ _).trans (tlt ((lw_gt _ _).mpr hc12)).2.2.2) ?_
          show Steps p.tables e below (T9.setTop (mkF m 19 #[.val (.ref a), .val (.ref b), .val (.int (2 : Int32))] [])) t
          refine XS.iconst X9.here hx rfl (hb hby own_d2_19) ?_
          show Steps p.tables e below (T9.setTop (mkF m 20 #[.val (.ref a), .val (.ref b), .val (.int (2 : Int32))] [(.int (0 : Int32))])) t
          exact k
        exact own_retN X9 hx Bd (t := .boolean) (by simp) rfl (hb hby own_d2_20) e9 (⟨by simp only [own_all, hc4, hc8, hc12, if_true, if_false], N0, rfl⟩) (by decide) (by decide)
      · refine own_st (T' := T9) (g' := (mkF m 3 #[.val (.ref a), .val (.ref b), .val (.int (3 : Int32))] [(.int (3 : Int32))])) (fun t k => ?_) ?_
        · show Steps p.tables e below (T9.setTop (mkF m 16 #[.val (.ref a), .val (.ref b), .val (.int (2 : Int32))] [(.int (lcmpW u2 v2))])) t
          refine XS.ifYes X9.here hx rfl (pc0 := 16) (pc' := 21) rfl (hb hby own_d2_16) rfl ((if0 _ _).trans (flt (fun q => hc12 ((lw_gt _ _).mp q))).2.2.2) (by decide) (by decide) ?_
          show Steps p.tables e below (T9.setTop (mkF m 21 #[.val (.ref a), .val (.ref b), .val (.int (2 : Int32))] [])) t
          refine XS.iinc X9.here hx rfl (hb hby own_d2_21) rfl (l' := #[.val (.ref a), .val (.ref b), .val (.int (3 : Int32))]) rfl ?_
          show Steps p.tables e below (T9.setTop (mkF m 24 #[.val (.ref a), .val (.ref b), .val (.int (3 : Int32))] [])) t
          refine XS.goto X9.here hx rfl (pc0 := 24) (pc' := 2) rfl (hb hby own_d2_24) (by decide) (by decide) ?_
          show Steps p.tables e below (T9.setTop (mkF m 2 #[.val (.ref a), .val (.ref b), .val (.int (3 : Int32))] [])) t
          refine XS.iloadN X9.here hx rfl (hb hby own_d2_2) rfl ?_
          show Steps p.tables e below (T9.setTop (mkF m 3 #[.val (.ref a), .val (.ref b), .val (.int (3 : Int32))] [(.int (3 : Int32))])) t
          exact k
        obtain ⟨T13, X13, e13, st13⟩ := getS2 X9 hx hZ hown (host := "") (Or.inl (hw _ (List.mem_of_getElem? (i := 9) rfl))) Via.refl e9 S_C (g := (mkF m 3 #[.val (.ref a), .val (.ref b), .val (.int (3 : Int32))] [(.int (3 : Int32))])) rfl (hb hby own_d2_3)
        refine own_st (T' := T13) (g' := (mkF m 6 #[.val (.ref a), .val (.ref b), .val (.int (3 : Int32))] [(.int (4 : Int32)), (.int (3 : Int32))])) st13 ?_
        refine own_st (T' := T13) (g' := (mkF m 11 #[.val (.ref a), .val (.ref b), .val (.int (3 : Int32))] [(.int (3 : Int32)), (.ref a)])) (fun t k => ?_) ?_
        · show Steps p.tables e below (T13.setTop (mkF m 6 #[.val (.ref a), .val (.ref b), .val (.int (3 : Int32))] [(.int (4 : Int32)), (.int (3 : Int32))])) t
          refine XS.icmpNo X13.here hx rfl (hb hby own_d2_6) rfl (tlt (by decide : (3 : Int32) < (4 : Int32))).2.1 ?_
          show Steps p.tables e below (T13.setTop (mkF m 9 #[.val (.ref a), .val (.ref b), .val (.int (3 : Int32))] [])) t
          refine XS.aloadN X13.here hx rfl (hb hby own_d2_9) rfl rfl ?_
          show Steps p.tables e below (T13.setTop (mkF m 10 #[.val (.ref a), .val (.ref b), .val (.int (3 : Int32))] [(.ref a)])) t
          refine XS.iloadN X13.here hx rfl (hb hby own_d2_10) rfl ?_
          show Steps p.tables e below (T13.setTop (mkF m 11 #[.val (.ref a), .val (.ref b), .val (.int (3 : Int32))] [(.int (3 : Int32)), (.ref a)])) t
          exact k
        obtain ⟨cl14, Ar14, q14, S14, M14, H14, G14⟩ := id Va
        refine own_st (T' := T13) (g' := (mkF m 14 #[.val (.ref a), .val (.ref b), .val (.int (3 : Int32))] [(.int (3 : Int32)), (.ref b), (.long u3)])) (fun t k => ?_) ?_
        · show Steps p.tables e below (T13.setTop (mkF m 11 #[.val (.ref a), .val (.ref b), .val (.int (3 : Int32))] [(.int (3 : Int32)), (.ref a)])) t
          refine X13.laload hx (j := (3 : Int32)) (v := (.long u3)) (by rw [e13]; exact Ar14.1) (State.isArrayOf_alike hZ.alike Ar14.2.1) Ar14.2.2 (inb_of S14 ⟨by decide, by decide⟩) (Has.at H14 (inb_of S14 ⟨by decide, by decide⟩) rfl) (g := (mkF m 11 #[.val (.ref a), .val (.ref b), .val (.int (3 : Int32))] [(.int (3 : Int32)), (.ref a)])) rfl rfl (hb hby own_d2_11) _ ?_
          show Steps p.tables e below (T13.setTop (mkF m 12 #[.val (.ref a), .val (.ref b), .val (.int (3 : Int32))] [(.long u3)])) t
          refine XS.aloadN X13.here hx rfl (hb hby own_d2_12) rfl rfl ?_
          show Steps p.tables e below (T13.setTop (mkF m 13 #[.val (.ref a), .val (.ref b), .val (.int (3 : Int32))] [(.ref b), (.long u3)])) t
          refine XS.iloadN X13.here hx rfl (hb hby own_d2_13) rfl ?_
          show Steps p.tables e below (T13.setTop (mkF m 14 #[.val (.ref a), .val (.ref b), .val (.int (3 : Int32))] [(.int (3 : Int32)), (.ref b), (.long u3)])) t
          exact k
        obtain ⟨cl15, Ar15, q15, S15, M15, H15, G15⟩ := id Vb
        refine own_st (T' := T13) (g' := (mkF m 16 #[.val (.ref a), .val (.ref b), .val (.int (3 : Int32))] [(.int (lcmpW u3 v3))])) (fun t k => ?_) ?_
        · show Steps p.tables e below (T13.setTop (mkF m 14 #[.val (.ref a), .val (.ref b), .val (.int (3 : Int32))] [(.int (3 : Int32)), (.ref b), (.long u3)])) t
          refine X13.laload hx (j := (3 : Int32)) (v := (.long v3)) (by rw [e13]; exact Ar15.1) (State.isArrayOf_alike hZ.alike Ar15.2.1) Ar15.2.2 (inb_of S15 ⟨by decide, by decide⟩) (Has.at H15 (inb_of S15 ⟨by decide, by decide⟩) rfl) (g := (mkF m 14 #[.val (.ref a), .val (.ref b), .val (.int (3 : Int32))] [(.int (3 : Int32)), (.ref b), (.long u3)])) rfl rfl (hb hby own_d2_14) _ ?_
          show Steps p.tables e below (T13.setTop (mkF m 15 #[.val (.ref a), .val (.ref b), .val (.int (3 : Int32))] [(.long v3), (.long u3)])) t
          refine XS.lcmp X13.here hx rfl (hb hby own_d2_15) rfl ?_
          show Steps p.tables e below (T13.setTop (mkF m 16 #[.val (.ref a), .val (.ref b), .val (.int (3 : Int32))] [(.int (lcmpW u3 v3))])) t
          exact k
        by_cases hc16 : v3 < u3
        · refine own_st (T' := T13) (g' := (mkF m 20 #[.val (.ref a), .val (.ref b), .val (.int (3 : Int32))] [(.int (0 : Int32))])) (fun t k => ?_) ?_
          · show Steps p.tables e below (T13.setTop (mkF m 16 #[.val (.ref a), .val (.ref b), .val (.int (3 : Int32))] [(.int (lcmpW u3 v3))])) t
            refine XS.ifNo X13.here hx rfl (hb hby own_d2_16) rfl ((if0 _ _).trans (tlt ((lw_gt _ _).mpr hc16)).2.2.2) ?_
            show Steps p.tables e below (T13.setTop (mkF m 19 #[.val (.ref a), .val (.ref b), .val (.int (3 : Int32))] [])) t
            refine XS.iconst X13.here hx rfl (hb hby own_d2_19) ?_
            show Steps p.tables e below (T13.setTop (mkF m 20 #[.val (.ref a), .val (.ref b), .val (.int (3 : Int32))] [(.int (0 : Int32))])) t
            exact k
          exact own_retN X13 hx Bd (t := .boolean) (by simp) rfl (hb hby own_d2_20) e13 (⟨by simp only [own_all, hc4, hc8, hc12, hc16, if_true, if_false], N0, rfl⟩) (by decide) (by decide)
        · refine own_st (T' := T13) (g' := (mkF m 3 #[.val (.ref a), .val (.ref b), .val (.int (4 : Int32))] [(.int (4 : Int32))])) (fun t k => ?_) ?_
          · show Steps p.tables e below (T13.setTop (mkF m 16 #[.val (.ref a), .val (.ref b), .val (.int (3 : Int32))] [(.int (lcmpW u3 v3))])) t
            refine XS.ifYes X13.here hx rfl (pc0 := 16) (pc' := 21) rfl (hb hby own_d2_16) rfl ((if0 _ _).trans (flt (fun q => hc16 ((lw_gt _ _).mp q))).2.2.2) (by decide) (by decide) ?_
            show Steps p.tables e below (T13.setTop (mkF m 21 #[.val (.ref a), .val (.ref b), .val (.int (3 : Int32))] [])) t
            refine XS.iinc X13.here hx rfl (hb hby own_d2_21) rfl (l' := #[.val (.ref a), .val (.ref b), .val (.int (4 : Int32))]) rfl ?_
            show Steps p.tables e below (T13.setTop (mkF m 24 #[.val (.ref a), .val (.ref b), .val (.int (4 : Int32))] [])) t
            refine XS.goto X13.here hx rfl (pc0 := 24) (pc' := 2) rfl (hb hby own_d2_24) (by decide) (by decide) ?_
            show Steps p.tables e below (T13.setTop (mkF m 2 #[.val (.ref a), .val (.ref b), .val (.int (4 : Int32))] [])) t
            refine XS.iloadN X13.here hx rfl (hb hby own_d2_2) rfl ?_
            show Steps p.tables e below (T13.setTop (mkF m 3 #[.val (.ref a), .val (.ref b), .val (.int (4 : Int32))] [(.int (4 : Int32))])) t
            exact k
          obtain ⟨T17, X17, e17, st17⟩ := getS2 X13 hx hZ hown (host := "") (Or.inl (hw _ (List.mem_of_getElem? (i := 9) rfl))) Via.refl e13 S_C (g := (mkF m 3 #[.val (.ref a), .val (.ref b), .val (.int (4 : Int32))] [(.int (4 : Int32))])) rfl (hb hby own_d2_3)
          refine own_st (T' := T17) (g' := (mkF m 6 #[.val (.ref a), .val (.ref b), .val (.int (4 : Int32))] [(.int (4 : Int32)), (.int (4 : Int32))])) st17 ?_
          refine own_st (T' := T17) (g' := (mkF m 28 #[.val (.ref a), .val (.ref b), .val (.int (4 : Int32))] [(.int (1 : Int32))])) (fun t k => ?_) ?_
          · show Steps p.tables e below (T17.setTop (mkF m 6 #[.val (.ref a), .val (.ref b), .val (.int (4 : Int32))] [(.int (4 : Int32)), (.int (4 : Int32))])) t
            refine XS.icmpYes X17.here hx rfl (pc0 := 6) (pc' := 27) rfl (hb hby own_d2_6) rfl (flt Int32.lt_irrefl).2.1 (by decide) (by decide) ?_
            show Steps p.tables e below (T17.setTop (mkF m 27 #[.val (.ref a), .val (.ref b), .val (.int (4 : Int32))] [])) t
            refine XS.iconst X17.here hx rfl (hb hby own_d2_27) ?_
            show Steps p.tables e below (T17.setTop (mkF m 28 #[.val (.ref a), .val (.ref b), .val (.int (4 : Int32))] [(.int (1 : Int32))])) t
            exact k
          exact own_retN X17 hx Bd (t := .boolean) (by simp) rfl (hb hby own_d2_28) e17 (⟨by simp only [own_all, hc4, hc8, hc12, hc16, if_true, if_false], N0, rfl⟩) (by decide) (by decide)
theorem own_ef0 (m : MethodId) (x0 : Int64) (x1 : Int64) (x2 : Int64) (x3 : Int64) (x4 : Int64) (x5 : Int32) : entryFrame m #[(.long x0), (.long x1), (.long x2), (.long x3), (.long x4), (.int x5)] maxLocals = mkF m 0 #[.val (.long x0), .second, .val (.long x1), .second, .val (.long x2), .second, .val (.long x3), .second, .val (.long x4), .second, .val (.int x5), .unset, .unset, .unset, .unset, .unset, .unset, .unset, .unset, .unset, .unset, .unset, .unset, .unset, .unset, .unset] [] := by first | (simp [entryFrame, mkF, argsToLocals, Value.category, maxLocals]; done) | rfl
def own_Q0 (Z : State) (u0 u1 u2 u3 tt : Int64) (sel : Int32) (h0 : Heap) (n0 : Nat) : Option Value → Heap → List Loc → Prop := fun v h L => v = some (.int 1) ∧ Fr n0 L
set_option maxRecDepth 65536 in
set_option maxHeartbeats 40000000 in
theorem own_rm0 (l : Launch) (Z : State) (a0 : Array Value) (hw : ∀ d ∈ tables_1, d.before a0 Z = true) (ws : List Jvm.Cond) (u0 u1 u2 u3 tt : Int64) (sel : Int32) (h0 : Heap) (n0 : Nat) (Z0 : n0 ≤ h0.size) (S_C : Sta Z h0 "com/example/featurefront/featurefront/Objectives" "COUNT" "I" (.int (4 : Int32))) :
    MetFree l x (head1 (Jvm.Cond.code x code maxLocals ret :: ws) room_1) (fun a_ U_ => a_ = #[(.long u0), (.long u1), (.long u2), (.long u3), (.long tt), (.int sel)] ∧ Z.Warmed39 U_.vm ∧ U_.heap = h0) (fun _ _ _ _ _ => True) (fun _ U_ o_ U'_ => ∃ v_ L_, o_ = .returned v_ ∧ own_Q0 Z u0 u1 u2 u3 tt  sel  h0 n0 v_ U'_.heap L_ ∧ FrameEnd U_ o_ U'_ L_ room_1.cells room_1.slots) := by
  refine MetFree.of_bodySF (plainFor_of_name own_pn0) hisR ?_
  intro p e s m args below meth c s₁ Bd hml0 hP hK
  obtain ⟨rfl, hZ, hh⟩ := hP
  have hx := Bd.exec
  have hby := Bd.bytes
  have hml : c.maxLocals = 26 := hml0
  have hown : s.vm.findClass "com/example/featurefront/featurefront/ObjectivesWeaklyDominatesPinLaw" = some m.cls := findClass_of_methodNamed Bd.named
  have hnm := (name_of_methodNamed Bd.named Bd.method).1
  have X0 : Stand p l e room_1 s m #[(.long u0), (.long u1), (.long u2), (.long u3), (.long tt), (.int sel)] below meth c s₁ [] 0 0 := Stand.of_body Bd
  have e0 : s₁.heap = h0 := by rw [← hh, Bd.state]; rfl
  have N0 := Fr.nil n0
  refine own_in (own_ef0 m u0 u1 u2 u3 tt sel) ?_
  show own_Go p e below (own_K s (own_Q0 Z u0 u1 u2 u3 tt  sel  h0 n0) room_1.cells room_1.slots) s₁ (mkF m 0 #[.val (.long u0), .second, .val (.long u1), .second, .val (.long u2), .second, .val (.long u3), .second, .val (.long tt), .second, .val (.int sel), .unset, .unset, .unset, .unset, .unset, .unset, .unset, .unset, .unset, .unset, .unset, .unset, .unset, .unset, .unset] [])
  refine own_st (T' := s₁) (g' := (mkF m 7 #[.val (.long u0), .second, .val (.long u1), .second, .val (.long u2), .second, .val (.long u3), .second, .val (.long tt), .second, .val (.int sel), .unset, .unset, .unset, .unset, .unset, .unset, .unset, .unset, .unset, .unset, .unset, .unset, .unset, .unset, .unset] [(.int (sel &&& (3 : Int32))), (.long tt), (.long u0)])) (fun t k => ?_) ?_
  · show Steps p.tables e below (s₁.setTop (mkF m 0 #[.val (.long u0), .second, .val (.long u1), .second, .val (.long u2), .second, .val (.long u3), .second, .val (.long tt), .second, .val (.int sel), .unset, .unset, .unset, .unset, .unset, .unset, .unset, .unset, .unset, .unset, .unset, .unset, .unset, .unset, .unset] [])) t
    refine XS.lloadN X0.here hx rfl (hb hby at_0) rfl ?_
    show Steps p.tables e below (s₁.setTop (mkF m 1 #[.val (.long u0), .second, .val (.long u1), .second, .val (.long u2), .second, .val (.long u3), .second, .val (.long tt), .second, .val (.int sel), .unset, .unset, .unset, .unset, .unset, .unset, .unset, .unset, .unset, .unset, .unset, .unset, .unset, .unset, .unset] [(.long u0)])) t
    refine XS.lload X0.here hx rfl (hb hby at_1) rfl ?_
    show Steps p.tables e below (s₁.setTop (mkF m 3 #[.val (.long u0), .second, .val (.long u1), .second, .val (.long u2), .second, .val (.long u3), .second, .val (.long tt), .second, .val (.int sel), .unset, .unset, .unset, .unset, .unset, .unset, .unset, .unset, .unset, .unset, .unset, .unset, .unset, .unset, .unset] [(.long tt), (.long u0)])) t
    refine XS.iload X0.here hx rfl (hb hby at_3) rfl ?_
    show Steps p.tables e below (s₁.setTop (mkF m 5 #[.val (.long u0), .second, .val (.long u1), .second, .val (.long u2), .second, .val (.long u3), .second, .val (.long tt), .second, .val (.int sel), .unset, .unset, .unset, .unset, .unset, .unset, .unset, .unset, .unset, .unset, .unset, .unset, .unset, .unset, .unset] [(.int sel), (.long tt), (.long u0)])) t
    refine XS.iconst X0.here hx rfl (hb hby at_5) ?_
    show Steps p.tables e below (s₁.setTop (mkF m 6 #[.val (.long u0), .second, .val (.long u1), .second, .val (.long u2), .second, .val (.long u3), .second, .val (.long tt), .second, .val (.int sel), .unset, .unset, .unset, .unset, .unset, .unset, .unset, .unset, .unset, .unset, .unset, .unset, .unset, .unset, .unset] [(.int (3 : Int32)), (.int sel), (.long tt), (.long u0)])) t
    refine XS.iand X0.here hx rfl (hb hby at_6) rfl ?_
    show Steps p.tables e below (s₁.setTop (mkF m 7 #[.val (.long u0), .second, .val (.long u1), .second, .val (.long u2), .second, .val (.long u3), .second, .val (.long tt), .second, .val (.int sel), .unset, .unset, .unset, .unset, .unset, .unset, .unset, .unset, .unset, .unset, .unset, .unset, .unset, .unset, .unset] [(.int (sel &&& (3 : Int32))), (.long tt), (.long u0)])) t
    exact k
  obtain ⟨_, _, ⟨T1, L1, c1, n1⟩, -, X1, ⟨Lc1, hQ1, l1, y1, z1⟩, st1⟩ := Jvm.LawKit.callS X0 hx (y := (⟨"com/example/featurefront/featurefront/ObjectivesWeaklyDominatesPinLaw", "pick", "(JJI)J"⟩ : MethodName)) hown (mvT hZ (hw _ (List.mem_of_getElem? (i := 0) rfl))) (mvT hZ (hw _ (List.mem_of_getElem? (i := 1) rfl))) (mvT hZ (hw _ (List.mem_of_getElem? (i := 2) rfl))) (mvT hZ (hw _ (List.mem_of_getElem? (i := 3) rfl))) (by decide) (backOf (W := 0) (own_rm1 l Z a0 hw [] u0 tt (sel &&& (3 : Int32)) h0 n0 Z0) hZ (hw _ (List.mem_of_getElem? (i := 3) rfl)) (hw _ (List.mem_of_getElem? (i := 2) rfl)) (by decide) (by decide)) (g := (mkF m 7 #[.val (.long u0), .second, .val (.long u1), .second, .val (.long u2), .second, .val (.long u3), .second, .val (.long tt), .second, .val (.int sel), .unset, .unset, .unset, .unset, .unset, .unset, .unset, .unset, .unset, .unset, .unset, .unset, .unset, .unset, .unset] [(.int (sel &&& (3 : Int32))), (.long tt), (.long u0)])) rfl (by rw [hml]; rfl) (argsL := [(.long u0), (.long tt), (.int (sel &&& (3 : Int32)))]) (rest := []) (lenOf own_pd0 rfl) rfl (by show 2 * 0 + _ ≤ _; exact Nat.le_of_eq rfl) (hb hby at_7) (fun _ _ => ⟨rfl, e0, (by decide : 0 + 0 ≤ _), (by decide : 0 + 0 ≤ _)⟩)
  dsimp only [Pt.U, Pt.locs, Pt.cells, Pt.slots] at X1 l1 y1 z1 st1 hQ1
  subst l1 y1 z1
  obtain ⟨h1, e1⟩ : ∃ z, T1.heap = z := ⟨_, rfl⟩
  rw [e1] at hQ1
  obtain ⟨v0, rfl, N1q, eq1⟩ := hQ1
  have N1 := Fr.app N0 N1q
  rw [eq1] at e1
  refine own_st (T' := T1) (g' := (mkF m 10 #[.val (.long u0), .second, .val (.long u1), .second, .val (.long u2), .second, .val (.long u3), .second, .val (.long tt), .second, .val (.int sel), .unset, .unset, .unset, .unset, .unset, .unset, .unset, .unset, .unset, .unset, .unset, .unset, .unset, .unset, .unset] [(.long v0)])) st1 ?_
  refine own_st (T' := T1) (g' := (mkF m 21 #[.val (.long u0), .second, .val (.long u1), .second, .val (.long u2), .second, .val (.long u3), .second, .val (.long tt), .second, .val (.int sel), .val (.long v0), .second, .unset, .unset, .unset, .unset, .unset, .unset, .unset, .unset, .unset, .unset, .unset, .unset, .unset] [(.int (((sel.toUInt32 >>> ((2 : Int32) &&& 31).toUInt32).toInt32) &&& (3 : Int32))), (.long tt), (.long u1)])) (fun t k => ?_) ?_
  · show Steps p.tables e below (T1.setTop (mkF m 10 #[.val (.long u0), .second, .val (.long u1), .second, .val (.long u2), .second, .val (.long u3), .second, .val (.long tt), .second, .val (.int sel), .unset, .unset, .unset, .unset, .unset, .unset, .unset, .unset, .unset, .unset, .unset, .unset, .unset, .unset, .unset] [(.long v0)])) t
    refine XS.lstore X1.here hx rfl (hb hby at_10) rfl (l' := #[.val (.long u0), .second, .val (.long u1), .second, .val (.long u2), .second, .val (.long u3), .second, .val (.long tt), .second, .val (.int sel), .val (.long v0), .second, .unset, .unset, .unset, .unset, .unset, .unset, .unset, .unset, .unset, .unset, .unset, .unset, .unset]) rfl ?_
    show Steps p.tables e below (T1.setTop (mkF m 12 #[.val (.long u0), .second, .val (.long u1), .second, .val (.long u2), .second, .val (.long u3), .second, .val (.long tt), .second, .val (.int sel), .val (.long v0), .second, .unset, .unset, .unset, .unset, .unset, .unset, .unset, .unset, .unset, .unset, .unset, .unset, .unset] [])) t
    refine XS.lloadN X1.here hx rfl (hb hby at_12) rfl ?_
    show Steps p.tables e below (T1.setTop (mkF m 13 #[.val (.long u0), .second, .val (.long u1), .second, .val (.long u2), .second, .val (.long u3), .second, .val (.long tt), .second, .val (.int sel), .val (.long v0), .second, .unset, .unset, .unset, .unset, .unset, .unset, .unset, .unset, .unset, .unset, .unset, .unset, .unset] [(.long u1)])) t
    refine XS.lload X1.here hx rfl (hb hby at_13) rfl ?_
    show Steps p.tables e below (T1.setTop (mkF m 15 #[.val (.long u0), .second, .val (.long u1), .second, .val (.long u2), .second, .val (.long u3), .second, .val (.long tt), .second, .val (.int sel), .val (.long v0), .second, .unset, .unset, .unset, .unset, .unset, .unset, .unset, .unset, .unset, .unset, .unset, .unset, .unset] [(.long tt), (.long u1)])) t
    refine XS.iload X1.here hx rfl (hb hby at_15) rfl ?_
    show Steps p.tables e below (T1.setTop (mkF m 17 #[.val (.long u0), .second, .val (.long u1), .second, .val (.long u2), .second, .val (.long u3), .second, .val (.long tt), .second, .val (.int sel), .val (.long v0), .second, .unset, .unset, .unset, .unset, .unset, .unset, .unset, .unset, .unset, .unset, .unset, .unset, .unset] [(.int sel), (.long tt), (.long u1)])) t
    refine XS.iconst X1.here hx rfl (hb hby at_17) ?_
    show Steps p.tables e below (T1.setTop (mkF m 18 #[.val (.long u0), .second, .val (.long u1), .second, .val (.long u2), .second, .val (.long u3), .second, .val (.long tt), .second, .val (.int sel), .val (.long v0), .second, .unset, .unset, .unset, .unset, .unset, .unset, .unset, .unset, .unset, .unset, .unset, .unset, .unset] [(.int (2 : Int32)), (.int sel), (.long tt), (.long u1)])) t
    refine XS.iushr X1.here hx rfl (hb hby at_18) rfl ?_
    show Steps p.tables e below (T1.setTop (mkF m 19 #[.val (.long u0), .second, .val (.long u1), .second, .val (.long u2), .second, .val (.long u3), .second, .val (.long tt), .second, .val (.int sel), .val (.long v0), .second, .unset, .unset, .unset, .unset, .unset, .unset, .unset, .unset, .unset, .unset, .unset, .unset, .unset] [(.int ((sel.toUInt32 >>> ((2 : Int32) &&& 31).toUInt32).toInt32)), (.long tt), (.long u1)])) t
    refine XS.iconst X1.here hx rfl (hb hby at_19) ?_
    show Steps p.tables e below (T1.setTop (mkF m 20 #[.val (.long u0), .second, .val (.long u1), .second, .val (.long u2), .second, .val (.long u3), .second, .val (.long tt), .second, .val (.int sel), .val (.long v0), .second, .unset, .unset, .unset, .unset, .unset, .unset, .unset, .unset, .unset, .unset, .unset, .unset, .unset] [(.int (3 : Int32)), (.int ((sel.toUInt32 >>> ((2 : Int32) &&& 31).toUInt32).toInt32)), (.long tt), (.long u1)])) t
    refine XS.iand X1.here hx rfl (hb hby at_20) rfl ?_
    show Steps p.tables e below (T1.setTop (mkF m 21 #[.val (.long u0), .second, .val (.long u1), .second, .val (.long u2), .second, .val (.long u3), .second, .val (.long tt), .second, .val (.int sel), .val (.long v0), .second, .unset, .unset, .unset, .unset, .unset, .unset, .unset, .unset, .unset, .unset, .unset, .unset, .unset] [(.int (((sel.toUInt32 >>> ((2 : Int32) &&& 31).toUInt32).toInt32) &&& (3 : Int32))), (.long tt), (.long u1)])) t
    exact k
  obtain ⟨_, _, ⟨T2, L2, c2, n2⟩, -, X2, ⟨Lc2, hQ2, l2, y2, z2⟩, st2⟩ := Jvm.LawKit.callS X1 hx (y := (⟨"com/example/featurefront/featurefront/ObjectivesWeaklyDominatesPinLaw", "pick", "(JJI)J"⟩ : MethodName)) hown (mvT hZ (hw _ (List.mem_of_getElem? (i := 0) rfl))) (mvT hZ (hw _ (List.mem_of_getElem? (i := 1) rfl))) (mvT hZ (hw _ (List.mem_of_getElem? (i := 2) rfl))) (mvT hZ (hw _ (List.mem_of_getElem? (i := 3) rfl))) (by decide) (backOf (W := 0) (own_rm1 l Z a0 hw [] u1 tt (((sel.toUInt32 >>> ((2 : Int32) &&& 31).toUInt32).toInt32) &&& (3 : Int32)) h0 n0 Z0) hZ (hw _ (List.mem_of_getElem? (i := 3) rfl)) (hw _ (List.mem_of_getElem? (i := 2) rfl)) (by decide) (by decide)) (g := (mkF m 21 #[.val (.long u0), .second, .val (.long u1), .second, .val (.long u2), .second, .val (.long u3), .second, .val (.long tt), .second, .val (.int sel), .val (.long v0), .second, .unset, .unset, .unset, .unset, .unset, .unset, .unset, .unset, .unset, .unset, .unset, .unset, .unset] [(.int (((sel.toUInt32 >>> ((2 : Int32) &&& 31).toUInt32).toInt32) &&& (3 : Int32))), (.long tt), (.long u1)])) rfl (by rw [hml]; rfl) (argsL := [(.long u1), (.long tt), (.int (((sel.toUInt32 >>> ((2 : Int32) &&& 31).toUInt32).toInt32) &&& (3 : Int32)))]) (rest := []) (lenOf own_pd0 rfl) rfl (by show 2 * 0 + _ ≤ _; exact Nat.le_of_eq rfl) (hb hby at_21) (fun _ _ => ⟨rfl, e1, (by decide : 0 + 0 ≤ _), (by decide : 0 + 0 ≤ _)⟩)
  dsimp only [Pt.U, Pt.locs, Pt.cells, Pt.slots] at X2 l2 y2 z2 st2 hQ2
  subst l2 y2 z2
  obtain ⟨h2, e2⟩ : ∃ z, T2.heap = z := ⟨_, rfl⟩
  rw [e2] at hQ2
  obtain ⟨v1, rfl, N2q, eq2⟩ := hQ2
  have N2 := Fr.app N1 N2q
  rw [eq2] at e2
  refine own_st (T' := T2) (g' := (mkF m 24 #[.val (.long u0), .second, .val (.long u1), .second, .val (.long u2), .second, .val (.long u3), .second, .val (.long tt), .second, .val (.int sel), .val (.long v0), .second, .unset, .unset, .unset, .unset, .unset, .unset, .unset, .unset, .unset, .unset, .unset, .unset, .unset] [(.long v1)])) st2 ?_
  refine own_st (T' := T2) (g' := (mkF m 36 #[.val (.long u0), .second, .val (.long u1), .second, .val (.long u2), .second, .val (.long u3), .second, .val (.long tt), .second, .val (.int sel), .val (.long v0), .second, .val (.long v1), .second, .unset, .unset, .unset, .unset, .unset, .unset, .unset, .unset, .unset, .unset, .unset] [(.int (((sel.toUInt32 >>> ((4 : Int32) &&& 31).toUInt32).toInt32) &&& (3 : Int32))), (.long tt), (.long u2)])) (fun t k => ?_) ?_
  · show Steps p.tables e below (T2.setTop (mkF m 24 #[.val (.long u0), .second, .val (.long u1), .second, .val (.long u2), .second, .val (.long u3), .second, .val (.long tt), .second, .val (.int sel), .val (.long v0), .second, .unset, .unset, .unset, .unset, .unset, .unset, .unset, .unset, .unset, .unset, .unset, .unset, .unset] [(.long v1)])) t
    refine XS.lstore X2.here hx rfl (hb hby at_24) rfl (l' := #[.val (.long u0), .second, .val (.long u1), .second, .val (.long u2), .second, .val (.long u3), .second, .val (.long tt), .second, .val (.int sel), .val (.long v0), .second, .val (.long v1), .second, .unset, .unset, .unset, .unset, .unset, .unset, .unset, .unset, .unset, .unset, .unset]) rfl ?_
    show Steps p.tables e below (T2.setTop (mkF m 26 #[.val (.long u0), .second, .val (.long u1), .second, .val (.long u2), .second, .val (.long u3), .second, .val (.long tt), .second, .val (.int sel), .val (.long v0), .second, .val (.long v1), .second, .unset, .unset, .unset, .unset, .unset, .unset, .unset, .unset, .unset, .unset, .unset] [])) t
    refine XS.lload X2.here hx rfl (hb hby at_26) rfl ?_
    show Steps p.tables e below (T2.setTop (mkF m 28 #[.val (.long u0), .second, .val (.long u1), .second, .val (.long u2), .second, .val (.long u3), .second, .val (.long tt), .second, .val (.int sel), .val (.long v0), .second, .val (.long v1), .second, .unset, .unset, .unset, .unset, .unset, .unset, .unset, .unset, .unset, .unset, .unset] [(.long u2)])) t
    refine XS.lload X2.here hx rfl (hb hby at_28) rfl ?_
    show Steps p.tables e below (T2.setTop (mkF m 30 #[.val (.long u0), .second, .val (.long u1), .second, .val (.long u2), .second, .val (.long u3), .second, .val (.long tt), .second, .val (.int sel), .val (.long v0), .second, .val (.long v1), .second, .unset, .unset, .unset, .unset, .unset, .unset, .unset, .unset, .unset, .unset, .unset] [(.long tt), (.long u2)])) t
    refine XS.iload X2.here hx rfl (hb hby at_30) rfl ?_
    show Steps p.tables e below (T2.setTop (mkF m 32 #[.val (.long u0), .second, .val (.long u1), .second, .val (.long u2), .second, .val (.long u3), .second, .val (.long tt), .second, .val (.int sel), .val (.long v0), .second, .val (.long v1), .second, .unset, .unset, .unset, .unset, .unset, .unset, .unset, .unset, .unset, .unset, .unset] [(.int sel), (.long tt), (.long u2)])) t
    refine XS.iconst X2.here hx rfl (hb hby at_32) ?_
    show Steps p.tables e below (T2.setTop (mkF m 33 #[.val (.long u0), .second, .val (.long u1), .second, .val (.long u2), .second, .val (.long u3), .second, .val (.long tt), .second, .val (.int sel), .val (.long v0), .second, .val (.long v1), .second, .unset, .unset, .unset, .unset, .unset, .unset, .unset, .unset, .unset, .unset, .unset] [(.int (4 : Int32)), (.int sel), (.long tt), (.long u2)])) t
    refine XS.iushr X2.here hx rfl (hb hby at_33) rfl ?_
    show Steps p.tables e below (T2.setTop (mkF m 34 #[.val (.long u0), .second, .val (.long u1), .second, .val (.long u2), .second, .val (.long u3), .second, .val (.long tt), .second, .val (.int sel), .val (.long v0), .second, .val (.long v1), .second, .unset, .unset, .unset, .unset, .unset, .unset, .unset, .unset, .unset, .unset, .unset] [(.int ((sel.toUInt32 >>> ((4 : Int32) &&& 31).toUInt32).toInt32)), (.long tt), (.long u2)])) t
    refine XS.iconst X2.here hx rfl (hb hby at_34) ?_
    show Steps p.tables e below (T2.setTop (mkF m 35 #[.val (.long u0), .second, .val (.long u1), .second, .val (.long u2), .second, .val (.long u3), .second, .val (.long tt), .second, .val (.int sel), .val (.long v0), .second, .val (.long v1), .second, .unset, .unset, .unset, .unset, .unset, .unset, .unset, .unset, .unset, .unset, .unset] [(.int (3 : Int32)), (.int ((sel.toUInt32 >>> ((4 : Int32) &&& 31).toUInt32).toInt32)), (.long tt), (.long u2)])) t
    refine XS.iand X2.here hx rfl (hb hby at_35) rfl ?_
    show Steps p.tables e below (T2.setTop (mkF m 36 #[.val (.long u0), .second, .val (.long u1), .second, .val (.long u2), .second, .val (.long u3), .second, .val (.long tt), .second, .val (.int sel), .val (.long v0), .second, .val (.long v1), .second, .unset, .unset, .unset, .unset, .unset, .unset, .unset, .unset, .unset, .unset, .unset] [(.int (((sel.toUInt32 >>> ((4 : Int32) &&& 31).toUInt32).toInt32) &&& (3 : Int32))), (.long tt), (.long u2)])) t
    exact k
  obtain ⟨_, _, ⟨T3, L3, c3, n3⟩, -, X3, ⟨Lc3, hQ3, l3, y3, z3⟩, st3⟩ := Jvm.LawKit.callS X2 hx (y := (⟨"com/example/featurefront/featurefront/ObjectivesWeaklyDominatesPinLaw", "pick", "(JJI)J"⟩ : MethodName)) hown (mvT hZ (hw _ (List.mem_of_getElem? (i := 0) rfl))) (mvT hZ (hw _ (List.mem_of_getElem? (i := 1) rfl))) (mvT hZ (hw _ (List.mem_of_getElem? (i := 2) rfl))) (mvT hZ (hw _ (List.mem_of_getElem? (i := 3) rfl))) (by decide) (backOf (W := 0) (own_rm1 l Z a0 hw [] u2 tt (((sel.toUInt32 >>> ((4 : Int32) &&& 31).toUInt32).toInt32) &&& (3 : Int32)) h0 n0 Z0) hZ (hw _ (List.mem_of_getElem? (i := 3) rfl)) (hw _ (List.mem_of_getElem? (i := 2) rfl)) (by decide) (by decide)) (g := (mkF m 36 #[.val (.long u0), .second, .val (.long u1), .second, .val (.long u2), .second, .val (.long u3), .second, .val (.long tt), .second, .val (.int sel), .val (.long v0), .second, .val (.long v1), .second, .unset, .unset, .unset, .unset, .unset, .unset, .unset, .unset, .unset, .unset, .unset] [(.int (((sel.toUInt32 >>> ((4 : Int32) &&& 31).toUInt32).toInt32) &&& (3 : Int32))), (.long tt), (.long u2)])) rfl (by rw [hml]; rfl) (argsL := [(.long u2), (.long tt), (.int (((sel.toUInt32 >>> ((4 : Int32) &&& 31).toUInt32).toInt32) &&& (3 : Int32)))]) (rest := []) (lenOf own_pd0 rfl) rfl (by show 2 * 0 + _ ≤ _; exact Nat.le_of_eq rfl) (hb hby at_36) (fun _ _ => ⟨rfl, e2, (by decide : 0 + 0 ≤ _), (by decide : 0 + 0 ≤ _)⟩)
  dsimp only [Pt.U, Pt.locs, Pt.cells, Pt.slots] at X3 l3 y3 z3 st3 hQ3
  subst l3 y3 z3
  obtain ⟨h3, e3⟩ : ∃ z, T3.heap = z := ⟨_, rfl⟩
  rw [e3] at hQ3
  obtain ⟨v2, rfl, N3q, eq3⟩ := hQ3
  have N3 := Fr.app N2 N3q
  rw [eq3] at e3
  refine own_st (T' := T3) (g' := (mkF m 39 #[.val (.long u0), .second, .val (.long u1), .second, .val (.long u2), .second, .val (.long u3), .second, .val (.long tt), .second, .val (.int sel), .val (.long v0), .second, .val (.long v1), .second, .unset, .unset, .unset, .unset, .unset, .unset, .unset, .unset, .unset, .unset, .unset] [(.long v2)])) st3 ?_
  refine own_st (T' := T3) (g' := (mkF m 52 #[.val (.long u0), .second, .val (.long u1), .second, .val (.long u2), .second, .val (.long u3), .second, .val (.long tt), .second, .val (.int sel), .val (.long v0), .second, .val (.long v1), .second, .val (.long v2), .second, .unset, .unset, .unset, .unset, .unset, .unset, .unset, .unset, .unset] [(.int (((sel.toUInt32 >>> ((6 : Int32) &&& 31).toUInt32).toInt32) &&& (3 : Int32))), (.long tt), (.long u3)])) (fun t k => ?_) ?_
  · show Steps p.tables e below (T3.setTop (mkF m 39 #[.val (.long u0), .second, .val (.long u1), .second, .val (.long u2), .second, .val (.long u3), .second, .val (.long tt), .second, .val (.int sel), .val (.long v0), .second, .val (.long v1), .second, .unset, .unset, .unset, .unset, .unset, .unset, .unset, .unset, .unset, .unset, .unset] [(.long v2)])) t
    refine XS.lstore X3.here hx rfl (hb hby at_39) rfl (l' := #[.val (.long u0), .second, .val (.long u1), .second, .val (.long u2), .second, .val (.long u3), .second, .val (.long tt), .second, .val (.int sel), .val (.long v0), .second, .val (.long v1), .second, .val (.long v2), .second, .unset, .unset, .unset, .unset, .unset, .unset, .unset, .unset, .unset]) rfl ?_
    show Steps p.tables e below (T3.setTop (mkF m 41 #[.val (.long u0), .second, .val (.long u1), .second, .val (.long u2), .second, .val (.long u3), .second, .val (.long tt), .second, .val (.int sel), .val (.long v0), .second, .val (.long v1), .second, .val (.long v2), .second, .unset, .unset, .unset, .unset, .unset, .unset, .unset, .unset, .unset] [])) t
    refine XS.lload X3.here hx rfl (hb hby at_41) rfl ?_
    show Steps p.tables e below (T3.setTop (mkF m 43 #[.val (.long u0), .second, .val (.long u1), .second, .val (.long u2), .second, .val (.long u3), .second, .val (.long tt), .second, .val (.int sel), .val (.long v0), .second, .val (.long v1), .second, .val (.long v2), .second, .unset, .unset, .unset, .unset, .unset, .unset, .unset, .unset, .unset] [(.long u3)])) t
    refine XS.lload X3.here hx rfl (hb hby at_43) rfl ?_
    show Steps p.tables e below (T3.setTop (mkF m 45 #[.val (.long u0), .second, .val (.long u1), .second, .val (.long u2), .second, .val (.long u3), .second, .val (.long tt), .second, .val (.int sel), .val (.long v0), .second, .val (.long v1), .second, .val (.long v2), .second, .unset, .unset, .unset, .unset, .unset, .unset, .unset, .unset, .unset] [(.long tt), (.long u3)])) t
    refine XS.iload X3.here hx rfl (hb hby at_45) rfl ?_
    show Steps p.tables e below (T3.setTop (mkF m 47 #[.val (.long u0), .second, .val (.long u1), .second, .val (.long u2), .second, .val (.long u3), .second, .val (.long tt), .second, .val (.int sel), .val (.long v0), .second, .val (.long v1), .second, .val (.long v2), .second, .unset, .unset, .unset, .unset, .unset, .unset, .unset, .unset, .unset] [(.int sel), (.long tt), (.long u3)])) t
    refine XS.bipush X3.here hx rfl (hb hby at_47) ?_
    show Steps p.tables e below (T3.setTop (mkF m 49 #[.val (.long u0), .second, .val (.long u1), .second, .val (.long u2), .second, .val (.long u3), .second, .val (.long tt), .second, .val (.int sel), .val (.long v0), .second, .val (.long v1), .second, .val (.long v2), .second, .unset, .unset, .unset, .unset, .unset, .unset, .unset, .unset, .unset] [(.int (6 : Int32)), (.int sel), (.long tt), (.long u3)])) t
    refine XS.iushr X3.here hx rfl (hb hby at_49) rfl ?_
    show Steps p.tables e below (T3.setTop (mkF m 50 #[.val (.long u0), .second, .val (.long u1), .second, .val (.long u2), .second, .val (.long u3), .second, .val (.long tt), .second, .val (.int sel), .val (.long v0), .second, .val (.long v1), .second, .val (.long v2), .second, .unset, .unset, .unset, .unset, .unset, .unset, .unset, .unset, .unset] [(.int ((sel.toUInt32 >>> ((6 : Int32) &&& 31).toUInt32).toInt32)), (.long tt), (.long u3)])) t
    refine XS.iconst X3.here hx rfl (hb hby at_50) ?_
    show Steps p.tables e below (T3.setTop (mkF m 51 #[.val (.long u0), .second, .val (.long u1), .second, .val (.long u2), .second, .val (.long u3), .second, .val (.long tt), .second, .val (.int sel), .val (.long v0), .second, .val (.long v1), .second, .val (.long v2), .second, .unset, .unset, .unset, .unset, .unset, .unset, .unset, .unset, .unset] [(.int (3 : Int32)), (.int ((sel.toUInt32 >>> ((6 : Int32) &&& 31).toUInt32).toInt32)), (.long tt), (.long u3)])) t
    refine XS.iand X3.here hx rfl (hb hby at_51) rfl ?_
    show Steps p.tables e below (T3.setTop (mkF m 52 #[.val (.long u0), .second, .val (.long u1), .second, .val (.long u2), .second, .val (.long u3), .second, .val (.long tt), .second, .val (.int sel), .val (.long v0), .second, .val (.long v1), .second, .val (.long v2), .second, .unset, .unset, .unset, .unset, .unset, .unset, .unset, .unset, .unset] [(.int (((sel.toUInt32 >>> ((6 : Int32) &&& 31).toUInt32).toInt32) &&& (3 : Int32))), (.long tt), (.long u3)])) t
    exact k
  obtain ⟨_, _, ⟨T4, L4, c4, n4⟩, -, X4, ⟨Lc4, hQ4, l4, y4, z4⟩, st4⟩ := Jvm.LawKit.callS X3 hx (y := (⟨"com/example/featurefront/featurefront/ObjectivesWeaklyDominatesPinLaw", "pick", "(JJI)J"⟩ : MethodName)) hown (mvT hZ (hw _ (List.mem_of_getElem? (i := 0) rfl))) (mvT hZ (hw _ (List.mem_of_getElem? (i := 1) rfl))) (mvT hZ (hw _ (List.mem_of_getElem? (i := 2) rfl))) (mvT hZ (hw _ (List.mem_of_getElem? (i := 3) rfl))) (by decide) (backOf (W := 0) (own_rm1 l Z a0 hw [] u3 tt (((sel.toUInt32 >>> ((6 : Int32) &&& 31).toUInt32).toInt32) &&& (3 : Int32)) h0 n0 Z0) hZ (hw _ (List.mem_of_getElem? (i := 3) rfl)) (hw _ (List.mem_of_getElem? (i := 2) rfl)) (by decide) (by decide)) (g := (mkF m 52 #[.val (.long u0), .second, .val (.long u1), .second, .val (.long u2), .second, .val (.long u3), .second, .val (.long tt), .second, .val (.int sel), .val (.long v0), .second, .val (.long v1), .second, .val (.long v2), .second, .unset, .unset, .unset, .unset, .unset, .unset, .unset, .unset, .unset] [(.int (((sel.toUInt32 >>> ((6 : Int32) &&& 31).toUInt32).toInt32) &&& (3 : Int32))), (.long tt), (.long u3)])) rfl (by rw [hml]; rfl) (argsL := [(.long u3), (.long tt), (.int (((sel.toUInt32 >>> ((6 : Int32) &&& 31).toUInt32).toInt32) &&& (3 : Int32)))]) (rest := []) (lenOf own_pd0 rfl) rfl (by show 2 * 0 + _ ≤ _; exact Nat.le_of_eq rfl) (hb hby at_52) (fun _ _ => ⟨rfl, e3, (by decide : 0 + 0 ≤ _), (by decide : 0 + 0 ≤ _)⟩)
  dsimp only [Pt.U, Pt.locs, Pt.cells, Pt.slots] at X4 l4 y4 z4 st4 hQ4
  subst l4 y4 z4
  obtain ⟨h4, e4⟩ : ∃ z, T4.heap = z := ⟨_, rfl⟩
  rw [e4] at hQ4
  obtain ⟨v3, rfl, N4q, eq4⟩ := hQ4
  have N4 := Fr.app N3 N4q
  rw [eq4] at e4
  refine own_st (T' := T4) (g' := (mkF m 55 #[.val (.long u0), .second, .val (.long u1), .second, .val (.long u2), .second, .val (.long u3), .second, .val (.long tt), .second, .val (.int sel), .val (.long v0), .second, .val (.long v1), .second, .val (.long v2), .second, .unset, .unset, .unset, .unset, .unset, .unset, .unset, .unset, .unset] [(.long v3)])) st4 ?_
  refine own_st (T' := T4) (g' := (mkF m 58 #[.val (.long u0), .second, .val (.long u1), .second, .val (.long u2), .second, .val (.long u3), .second, .val (.long tt), .second, .val (.int sel), .val (.long v0), .second, .val (.long v1), .second, .val (.long v2), .second, .val (.long v3), .second, .unset, .unset, .unset, .unset, .unset, .unset, .unset] [(.int (4 : Int32))])) (fun t k => ?_) ?_
  · show Steps p.tables e below (T4.setTop (mkF m 55 #[.val (.long u0), .second, .val (.long u1), .second, .val (.long u2), .second, .val (.long u3), .second, .val (.long tt), .second, .val (.int sel), .val (.long v0), .second, .val (.long v1), .second, .val (.long v2), .second, .unset, .unset, .unset, .unset, .unset, .unset, .unset, .unset, .unset] [(.long v3)])) t
    refine XS.lstore X4.here hx rfl (hb hby at_55) rfl (l' := #[.val (.long u0), .second, .val (.long u1), .second, .val (.long u2), .second, .val (.long u3), .second, .val (.long tt), .second, .val (.int sel), .val (.long v0), .second, .val (.long v1), .second, .val (.long v2), .second, .val (.long v3), .second, .unset, .unset, .unset, .unset, .unset, .unset, .unset]) rfl ?_
    show Steps p.tables e below (T4.setTop (mkF m 57 #[.val (.long u0), .second, .val (.long u1), .second, .val (.long u2), .second, .val (.long u3), .second, .val (.long tt), .second, .val (.int sel), .val (.long v0), .second, .val (.long v1), .second, .val (.long v2), .second, .val (.long v3), .second, .unset, .unset, .unset, .unset, .unset, .unset, .unset] [])) t
    refine XS.iconst X4.here hx rfl (hb hby at_57) ?_
    show Steps p.tables e below (T4.setTop (mkF m 58 #[.val (.long u0), .second, .val (.long u1), .second, .val (.long u2), .second, .val (.long u3), .second, .val (.long tt), .second, .val (.int sel), .val (.long v0), .second, .val (.long v1), .second, .val (.long v2), .second, .val (.long v3), .second, .unset, .unset, .unset, .unset, .unset, .unset, .unset] [(.int (4 : Int32))])) t
    exact k
  obtain ⟨T5, h5, k5, X5, e5, E5, A5, st5⟩ := newP X4 hx hZ (hw _ (List.mem_of_getElem? (i := 4) rfl)) e4 (g := (mkF m 58 #[.val (.long u0), .second, .val (.long u1), .second, .val (.long u2), .second, .val (.long u3), .second, .val (.long tt), .second, .val (.int sel), .val (.long v0), .second, .val (.long v1), .second, .val (.long v2), .second, .val (.long v3), .second, .unset, .unset, .unset, .unset, .unset, .unset, .unset] [(.int (4 : Int32))])) rfl (hb hby at_58) rfl (by decide) (cap := 4) (by decide) (by decide) (by decide) (by decide)
  obtain ⟨b5, g5⟩ : ∃ z, z = h0.size := ⟨_, rfl⟩
  rw [← g5] at A5 st5
  have sz5 : h0.size ≤ b5 := Nat.le_of_eq g5.symm
  have g_b5 : n0 ≤ b5 := Nat.le_trans Z0 sz5
  have hz_b5 : h0.size ≤ b5 := Nat.le_trans (Keep.refl h0 []).1 sz5
  have K5 : Keep h0 h5 [] := (Keep.refl h0 []).ext E5
  have Z5 : n0 ≤ h5.size := Nat.le_trans Z0 E5.1
  have V5 : Arv Z h5 b5 k5 .long (4 : Int32) [(.long (0 : Int64)), (.long (0 : Int64)), (.long (0 : Int64)), (.long (0 : Int64))] (.long (0 : Int64)) := (Arv.new A5 (by decide)).pad (pad_rep [] (.long (0 : Int64)) 4)
  refine own_st (T' := T5) (g' := (mkF m 60 #[.val (.long u0), .second, .val (.long u1), .second, .val (.long u2), .second, .val (.long u3), .second, .val (.long tt), .second, .val (.int sel), .val (.long v0), .second, .val (.long v1), .second, .val (.long v2), .second, .val (.long v3), .second, .unset, .unset, .unset, .unset, .unset, .unset, .unset] [(.ref b5)])) st5 ?_
  refine own_st (T' := T5) (g' := (mkF m 63 #[.val (.long u0), .second, .val (.long u1), .second, .val (.long u2), .second, .val (.long u3), .second, .val (.long tt), .second, .val (.int sel), .val (.long v0), .second, .val (.long v1), .second, .val (.long v2), .second, .val (.long v3), .second, .unset, .unset, .unset, .unset, .unset, .unset, .unset] [(.long u0), (.int (0 : Int32)), (.ref b5), (.ref b5)])) (fun t k => ?_) ?_
  · show Steps p.tables e below (T5.setTop (mkF m 60 #[.val (.long u0), .second, .val (.long u1), .second, .val (.long u2), .second, .val (.long u3), .second, .val (.long tt), .second, .val (.int sel), .val (.long v0), .second, .val (.long v1), .second, .val (.long v2), .second, .val (.long v3), .second, .unset, .unset, .unset, .unset, .unset, .unset, .unset] [(.ref b5)])) t
    refine XS.dup X5.here hx rfl (hb hby at_60) rfl rfl ?_
    show Steps p.tables e below (T5.setTop (mkF m 61 #[.val (.long u0), .second, .val (.long u1), .second, .val (.long u2), .second, .val (.long u3), .second, .val (.long tt), .second, .val (.int sel), .val (.long v0), .second, .val (.long v1), .second, .val (.long v2), .second, .val (.long v3), .second, .unset, .unset, .unset, .unset, .unset, .unset, .unset] [(.ref b5), (.ref b5)])) t
    refine XS.iconst X5.here hx rfl (hb hby at_61) ?_
    show Steps p.tables e below (T5.setTop (mkF m 62 #[.val (.long u0), .second, .val (.long u1), .second, .val (.long u2), .second, .val (.long u3), .second, .val (.long tt), .second, .val (.int sel), .val (.long v0), .second, .val (.long v1), .second, .val (.long v2), .second, .val (.long v3), .second, .unset, .unset, .unset, .unset, .unset, .unset, .unset] [(.int (0 : Int32)), (.ref b5), (.ref b5)])) t
    refine XS.lloadN X5.here hx rfl (hb hby at_62) rfl ?_
    show Steps p.tables e below (T5.setTop (mkF m 63 #[.val (.long u0), .second, .val (.long u1), .second, .val (.long u2), .second, .val (.long u3), .second, .val (.long tt), .second, .val (.int sel), .val (.long v0), .second, .val (.long v1), .second, .val (.long v2), .second, .val (.long v3), .second, .unset, .unset, .unset, .unset, .unset, .unset, .unset] [(.long u0), (.int (0 : Int32)), (.ref b5), (.ref b5)])) t
    exact k
  obtain ⟨cl6, Ar6, q6, S6, M6, H6, G6⟩ := id V5
  obtain ⟨T7, h7, X7, e7, W7, st7⟩ := stJ X5 hx hZ e5 Ar6 (j := (0 : Int32)) (inb_of S6 ⟨by decide, by decide⟩) (g := (mkF m 63 #[.val (.long u0), .second, .val (.long u1), .second, .val (.long u2), .second, .val (.long u3), .second, .val (.long tt), .second, .val (.int sel), .val (.long v0), .second, .val (.long v1), .second, .val (.long v2), .second, .val (.long v3), .second, .unset, .unset, .unset, .unset, .unset, .unset, .unset] [(.long u0), (.int (0 : Int32)), (.ref b5), (.ref b5)])) rfl rfl (hb hby at_63)
  have N7 := Fr.snoc X7 N4 g_b5
  have K7 : Keep h0 h7 [] := K5.wr W7 (Or.inr hz_b5)
  have Z7 : n0 ≤ h7.size := Nat.le_trans Z5 (Keep.of_wr W7).1
  have fw7 := (Arv.set Ar6 q6 S6 M6 H6 G6 rfl W7 0 rfl (Nat.le_of_ble_eq_true rfl) : Arv Z h7 b5 k5 .long (4 : Int32) [(.long u0), (.long (0 : Int64)), (.long (0 : Int64)), (.long (0 : Int64))] (.long (0 : Int64)))
  refine own_st (T' := T7) (g' := (mkF m 64 #[.val (.long u0), .second, .val (.long u1), .second, .val (.long u2), .second, .val (.long u3), .second, .val (.long tt), .second, .val (.int sel), .val (.long v0), .second, .val (.long v1), .second, .val (.long v2), .second, .val (.long v3), .second, .unset, .unset, .unset, .unset, .unset, .unset, .unset] [(.ref b5)])) st7 ?_
  refine own_st (T' := T7) (g' := (mkF m 67 #[.val (.long u0), .second, .val (.long u1), .second, .val (.long u2), .second, .val (.long u3), .second, .val (.long tt), .second, .val (.int sel), .val (.long v0), .second, .val (.long v1), .second, .val (.long v2), .second, .val (.long v3), .second, .unset, .unset, .unset, .unset, .unset, .unset, .unset] [(.long u1), (.int (1 : Int32)), (.ref b5), (.ref b5)])) (fun t k => ?_) ?_
  · show Steps p.tables e below (T7.setTop (mkF m 64 #[.val (.long u0), .second, .val (.long u1), .second, .val (.long u2), .second, .val (.long u3), .second, .val (.long tt), .second, .val (.int sel), .val (.long v0), .second, .val (.long v1), .second, .val (.long v2), .second, .val (.long v3), .second, .unset, .unset, .unset, .unset, .unset, .unset, .unset] [(.ref b5)])) t
    refine XS.dup X7.here hx rfl (hb hby at_64) rfl rfl ?_
    show Steps p.tables e below (T7.setTop (mkF m 65 #[.val (.long u0), .second, .val (.long u1), .second, .val (.long u2), .second, .val (.long u3), .second, .val (.long tt), .second, .val (.int sel), .val (.long v0), .second, .val (.long v1), .second, .val (.long v2), .second, .val (.long v3), .second, .unset, .unset, .unset, .unset, .unset, .unset, .unset] [(.ref b5), (.ref b5)])) t
    refine XS.iconst X7.here hx rfl (hb hby at_65) ?_
    show Steps p.tables e below (T7.setTop (mkF m 66 #[.val (.long u0), .second, .val (.long u1), .second, .val (.long u2), .second, .val (.long u3), .second, .val (.long tt), .second, .val (.int sel), .val (.long v0), .second, .val (.long v1), .second, .val (.long v2), .second, .val (.long v3), .second, .unset, .unset, .unset, .unset, .unset, .unset, .unset] [(.int (1 : Int32)), (.ref b5), (.ref b5)])) t
    refine XS.lloadN X7.here hx rfl (hb hby at_66) rfl ?_
    show Steps p.tables e below (T7.setTop (mkF m 67 #[.val (.long u0), .second, .val (.long u1), .second, .val (.long u2), .second, .val (.long u3), .second, .val (.long tt), .second, .val (.int sel), .val (.long v0), .second, .val (.long v1), .second, .val (.long v2), .second, .val (.long v3), .second, .unset, .unset, .unset, .unset, .unset, .unset, .unset] [(.long u1), (.int (1 : Int32)), (.ref b5), (.ref b5)])) t
    exact k
  obtain ⟨cl8, Ar8, q8, S8, M8, H8, G8⟩ := id fw7
  obtain ⟨T9, h9, X9, e9, W9, st9⟩ := stJ X7 hx hZ e7 Ar8 (j := (1 : Int32)) (inb_of S8 ⟨by decide, by decide⟩) (g := (mkF m 67 #[.val (.long u0), .second, .val (.long u1), .second, .val (.long u2), .second, .val (.long u3), .second, .val (.long tt), .second, .val (.int sel), .val (.long v0), .second, .val (.long v1), .second, .val (.long v2), .second, .val (.long v3), .second, .unset, .unset, .unset, .unset, .unset, .unset, .unset] [(.long u1), (.int (1 : Int32)), (.ref b5), (.ref b5)])) rfl rfl (hb hby at_67)
  have N9 := Fr.snoc X9 N7 g_b5
  have K9 : Keep h0 h9 [] := K7.wr W9 (Or.inr hz_b5)
  have Z9 : n0 ≤ h9.size := Nat.le_trans Z7 (Keep.of_wr W9).1
  have fw9 := (Arv.set Ar8 q8 S8 M8 H8 G8 rfl W9 1 rfl (Nat.le_of_ble_eq_true rfl) : Arv Z h9 b5 k5 .long (4 : Int32) [(.long u0), (.long u1), (.long (0 : Int64)), (.long (0 : Int64))] (.long (0 : Int64)))
  refine own_st (T' := T9) (g' := (mkF m 68 #[.val (.long u0), .second, .val (.long u1), .second, .val (.long u2), .second, .val (.long u3), .second, .val (.long tt), .second, .val (.int sel), .val (.long v0), .second, .val (.long v1), .second, .val (.long v2), .second, .val (.long v3), .second, .unset, .unset, .unset, .unset, .unset, .unset, .unset] [(.ref b5)])) st9 ?_
  refine own_st (T' := T9) (g' := (mkF m 72 #[.val (.long u0), .second, .val (.long u1), .second, .val (.long u2), .second, .val (.long u3), .second, .val (.long tt), .second, .val (.int sel), .val (.long v0), .second, .val (.long v1), .second, .val (.long v2), .second, .val (.long v3), .second, .unset, .unset, .unset, .unset, .unset, .unset, .unset] [(.long u2), (.int (2 : Int32)), (.ref b5), (.ref b5)])) (fun t k => ?_) ?_
  · show Steps p.tables e below (T9.setTop (mkF m 68 #[.val (.long u0), .second, .val (.long u1), .second, .val (.long u2), .second, .val (.long u3), .second, .val (.long tt), .second, .val (.int sel), .val (.long v0), .second, .val (.long v1), .second, .val (.long v2), .second, .val (.long v3), .second, .unset, .unset, .unset, .unset, .unset, .unset, .unset] [(.ref b5)])) t
    refine XS.dup X9.here hx rfl (hb hby at_68) rfl rfl ?_
    show Steps p.tables e below (T9.setTop (mkF m 69 #[.val (.long u0), .second, .val (.long u1), .second, .val (.long u2), .second, .val (.long u3), .second, .val (.long tt), .second, .val (.int sel), .val (.long v0), .second, .val (.long v1), .second, .val (.long v2), .second, .val (.long v3), .second, .unset, .unset, .unset, .unset, .unset, .unset, .unset] [(.ref b5), (.ref b5)])) t
    refine XS.iconst X9.here hx rfl (hb hby at_69) ?_
    show Steps p.tables e below (T9.setTop (mkF m 70 #[.val (.long u0), .second, .val (.long u1), .second, .val (.long u2), .second, .val (.long u3), .second, .val (.long tt), .second, .val (.int sel), .val (.long v0), .second, .val (.long v1), .second, .val (.long v2), .second, .val (.long v3), .second, .unset, .unset, .unset, .unset, .unset, .unset, .unset] [(.int (2 : Int32)), (.ref b5), (.ref b5)])) t
    refine XS.lload X9.here hx rfl (hb hby at_70) rfl ?_
    show Steps p.tables e below (T9.setTop (mkF m 72 #[.val (.long u0), .second, .val (.long u1), .second, .val (.long u2), .second, .val (.long u3), .second, .val (.long tt), .second, .val (.int sel), .val (.long v0), .second, .val (.long v1), .second, .val (.long v2), .second, .val (.long v3), .second, .unset, .unset, .unset, .unset, .unset, .unset, .unset] [(.long u2), (.int (2 : Int32)), (.ref b5), (.ref b5)])) t
    exact k
  obtain ⟨cl10, Ar10, q10, S10, M10, H10, G10⟩ := id fw9
  obtain ⟨T11, h11, X11, e11, W11, st11⟩ := stJ X9 hx hZ e9 Ar10 (j := (2 : Int32)) (inb_of S10 ⟨by decide, by decide⟩) (g := (mkF m 72 #[.val (.long u0), .second, .val (.long u1), .second, .val (.long u2), .second, .val (.long u3), .second, .val (.long tt), .second, .val (.int sel), .val (.long v0), .second, .val (.long v1), .second, .val (.long v2), .second, .val (.long v3), .second, .unset, .unset, .unset, .unset, .unset, .unset, .unset] [(.long u2), (.int (2 : Int32)), (.ref b5), (.ref b5)])) rfl rfl (hb hby at_72)
  have N11 := Fr.snoc X11 N9 g_b5
  have K11 : Keep h0 h11 [] := K9.wr W11 (Or.inr hz_b5)
  have Z11 : n0 ≤ h11.size := Nat.le_trans Z9 (Keep.of_wr W11).1
  have fw11 := (Arv.set Ar10 q10 S10 M10 H10 G10 rfl W11 2 rfl (Nat.le_of_ble_eq_true rfl) : Arv Z h11 b5 k5 .long (4 : Int32) [(.long u0), (.long u1), (.long u2), (.long (0 : Int64))] (.long (0 : Int64)))
  refine own_st (T' := T11) (g' := (mkF m 73 #[.val (.long u0), .second, .val (.long u1), .second, .val (.long u2), .second, .val (.long u3), .second, .val (.long tt), .second, .val (.int sel), .val (.long v0), .second, .val (.long v1), .second, .val (.long v2), .second, .val (.long v3), .second, .unset, .unset, .unset, .unset, .unset, .unset, .unset] [(.ref b5)])) st11 ?_
  refine own_st (T' := T11) (g' := (mkF m 77 #[.val (.long u0), .second, .val (.long u1), .second, .val (.long u2), .second, .val (.long u3), .second, .val (.long tt), .second, .val (.int sel), .val (.long v0), .second, .val (.long v1), .second, .val (.long v2), .second, .val (.long v3), .second, .unset, .unset, .unset, .unset, .unset, .unset, .unset] [(.long u3), (.int (3 : Int32)), (.ref b5), (.ref b5)])) (fun t k => ?_) ?_
  · show Steps p.tables e below (T11.setTop (mkF m 73 #[.val (.long u0), .second, .val (.long u1), .second, .val (.long u2), .second, .val (.long u3), .second, .val (.long tt), .second, .val (.int sel), .val (.long v0), .second, .val (.long v1), .second, .val (.long v2), .second, .val (.long v3), .second, .unset, .unset, .unset, .unset, .unset, .unset, .unset] [(.ref b5)])) t
    refine XS.dup X11.here hx rfl (hb hby at_73) rfl rfl ?_
    show Steps p.tables e below (T11.setTop (mkF m 74 #[.val (.long u0), .second, .val (.long u1), .second, .val (.long u2), .second, .val (.long u3), .second, .val (.long tt), .second, .val (.int sel), .val (.long v0), .second, .val (.long v1), .second, .val (.long v2), .second, .val (.long v3), .second, .unset, .unset, .unset, .unset, .unset, .unset, .unset] [(.ref b5), (.ref b5)])) t
    refine XS.iconst X11.here hx rfl (hb hby at_74) ?_
    show Steps p.tables e below (T11.setTop (mkF m 75 #[.val (.long u0), .second, .val (.long u1), .second, .val (.long u2), .second, .val (.long u3), .second, .val (.long tt), .second, .val (.int sel), .val (.long v0), .second, .val (.long v1), .second, .val (.long v2), .second, .val (.long v3), .second, .unset, .unset, .unset, .unset, .unset, .unset, .unset] [(.int (3 : Int32)), (.ref b5), (.ref b5)])) t
    refine XS.lload X11.here hx rfl (hb hby at_75) rfl ?_
    show Steps p.tables e below (T11.setTop (mkF m 77 #[.val (.long u0), .second, .val (.long u1), .second, .val (.long u2), .second, .val (.long u3), .second, .val (.long tt), .second, .val (.int sel), .val (.long v0), .second, .val (.long v1), .second, .val (.long v2), .second, .val (.long v3), .second, .unset, .unset, .unset, .unset, .unset, .unset, .unset] [(.long u3), (.int (3 : Int32)), (.ref b5), (.ref b5)])) t
    exact k
  obtain ⟨cl12, Ar12, q12, S12, M12, H12, G12⟩ := id fw11
  obtain ⟨T13, h13, X13, e13, W13, st13⟩ := stJ X11 hx hZ e11 Ar12 (j := (3 : Int32)) (inb_of S12 ⟨by decide, by decide⟩) (g := (mkF m 77 #[.val (.long u0), .second, .val (.long u1), .second, .val (.long u2), .second, .val (.long u3), .second, .val (.long tt), .second, .val (.int sel), .val (.long v0), .second, .val (.long v1), .second, .val (.long v2), .second, .val (.long v3), .second, .unset, .unset, .unset, .unset, .unset, .unset, .unset] [(.long u3), (.int (3 : Int32)), (.ref b5), (.ref b5)])) rfl rfl (hb hby at_77)
  have N13 := Fr.snoc X13 N11 g_b5
  have K13 : Keep h0 h13 [] := K11.wr W13 (Or.inr hz_b5)
  have Z13 : n0 ≤ h13.size := Nat.le_trans Z11 (Keep.of_wr W13).1
  have fw13 := (Arv.set Ar12 q12 S12 M12 H12 G12 rfl W13 3 rfl (Nat.le_of_ble_eq_true rfl) : Arv Z h13 b5 k5 .long (4 : Int32) [(.long u0), (.long u1), (.long u2), (.long u3)] (.long (0 : Int64)))
  refine own_st (T' := T13) (g' := (mkF m 78 #[.val (.long u0), .second, .val (.long u1), .second, .val (.long u2), .second, .val (.long u3), .second, .val (.long tt), .second, .val (.int sel), .val (.long v0), .second, .val (.long v1), .second, .val (.long v2), .second, .val (.long v3), .second, .unset, .unset, .unset, .unset, .unset, .unset, .unset] [(.ref b5)])) st13 ?_
  refine own_st (T' := T13) (g' := (mkF m 81 #[.val (.long u0), .second, .val (.long u1), .second, .val (.long u2), .second, .val (.long u3), .second, .val (.long tt), .second, .val (.int sel), .val (.long v0), .second, .val (.long v1), .second, .val (.long v2), .second, .val (.long v3), .second, .val (.ref b5), .unset, .unset, .unset, .unset, .unset, .unset] [(.int (4 : Int32))])) (fun t k => ?_) ?_
  · show Steps p.tables e below (T13.setTop (mkF m 78 #[.val (.long u0), .second, .val (.long u1), .second, .val (.long u2), .second, .val (.long u3), .second, .val (.long tt), .second, .val (.int sel), .val (.long v0), .second, .val (.long v1), .second, .val (.long v2), .second, .val (.long v3), .second, .unset, .unset, .unset, .unset, .unset, .unset, .unset] [(.ref b5)])) t
    refine XS.astore X13.here hx rfl (hb hby at_78) rfl rfl (l' := #[.val (.long u0), .second, .val (.long u1), .second, .val (.long u2), .second, .val (.long u3), .second, .val (.long tt), .second, .val (.int sel), .val (.long v0), .second, .val (.long v1), .second, .val (.long v2), .second, .val (.long v3), .second, .val (.ref b5), .unset, .unset, .unset, .unset, .unset, .unset]) rfl ?_
    show Steps p.tables e below (T13.setTop (mkF m 80 #[.val (.long u0), .second, .val (.long u1), .second, .val (.long u2), .second, .val (.long u3), .second, .val (.long tt), .second, .val (.int sel), .val (.long v0), .second, .val (.long v1), .second, .val (.long v2), .second, .val (.long v3), .second, .val (.ref b5), .unset, .unset, .unset, .unset, .unset, .unset] [])) t
    refine XS.iconst X13.here hx rfl (hb hby at_80) ?_
    show Steps p.tables e below (T13.setTop (mkF m 81 #[.val (.long u0), .second, .val (.long u1), .second, .val (.long u2), .second, .val (.long u3), .second, .val (.long tt), .second, .val (.int sel), .val (.long v0), .second, .val (.long v1), .second, .val (.long v2), .second, .val (.long v3), .second, .val (.ref b5), .unset, .unset, .unset, .unset, .unset, .unset] [(.int (4 : Int32))])) t
    exact k
  obtain ⟨T14, h14, k14, X14, e14, E14, A14, st14⟩ := newP X13 hx hZ (hw _ (List.mem_of_getElem? (i := 4) rfl)) e13 (g := (mkF m 81 #[.val (.long u0), .second, .val (.long u1), .second, .val (.long u2), .second, .val (.long u3), .second, .val (.long tt), .second, .val (.int sel), .val (.long v0), .second, .val (.long v1), .second, .val (.long v2), .second, .val (.long v3), .second, .val (.ref b5), .unset, .unset, .unset, .unset, .unset, .unset] [(.int (4 : Int32))])) rfl (hb hby at_81) rfl (by decide) (cap := 4) (by decide) (by decide) (by decide) (by decide)
  obtain ⟨b14, g14⟩ : ∃ z, z = h13.size := ⟨_, rfl⟩
  rw [← g14] at A14 st14
  have sz14 : h13.size ≤ b14 := Nat.le_of_eq g14.symm
  have ne_b5_b14 : b5 ≠ b14 := Nat.ne_of_lt (Nat.lt_of_lt_of_le fw13.lt sz14)
  have g_b14 : n0 ≤ b14 := Nat.le_trans Z13 sz14
  have hz_b14 : h0.size ≤ b14 := Nat.le_trans K13.1 sz14
  have K14 : Keep h0 h14 [] := K13.ext E14
  have Z14 : n0 ≤ h14.size := Nat.le_trans Z13 E14.1
  have V14 : Arv Z h14 b14 k14 .long (4 : Int32) [(.long (0 : Int64)), (.long (0 : Int64)), (.long (0 : Int64)), (.long (0 : Int64))] (.long (0 : Int64)) := (Arv.new A14 (by decide)).pad (pad_rep [] (.long (0 : Int64)) 4)
  refine own_st (T' := T14) (g' := (mkF m 83 #[.val (.long u0), .second, .val (.long u1), .second, .val (.long u2), .second, .val (.long u3), .second, .val (.long tt), .second, .val (.int sel), .val (.long v0), .second, .val (.long v1), .second, .val (.long v2), .second, .val (.long v3), .second, .val (.ref b5), .unset, .unset, .unset, .unset, .unset, .unset] [(.ref b14)])) st14 ?_
  refine own_st (T' := T14) (g' := (mkF m 87 #[.val (.long u0), .second, .val (.long u1), .second, .val (.long u2), .second, .val (.long u3), .second, .val (.long tt), .second, .val (.int sel), .val (.long v0), .second, .val (.long v1), .second, .val (.long v2), .second, .val (.long v3), .second, .val (.ref b5), .unset, .unset, .unset, .unset, .unset, .unset] [(.long v0), (.int (0 : Int32)), (.ref b14), (.ref b14)])) (fun t k => ?_) ?_
  · show Steps p.tables e below (T14.setTop (mkF m 83 #[.val (.long u0), .second, .val (.long u1), .second, .val (.long u2), .second, .val (.long u3), .second, .val (.long tt), .second, .val (.int sel), .val (.long v0), .second, .val (.long v1), .second, .val (.long v2), .second, .val (.long v3), .second, .val (.ref b5), .unset, .unset, .unset, .unset, .unset, .unset] [(.ref b14)])) t
    refine XS.dup X14.here hx rfl (hb hby at_83) rfl rfl ?_
    show Steps p.tables e below (T14.setTop (mkF m 84 #[.val (.long u0), .second, .val (.long u1), .second, .val (.long u2), .second, .val (.long u3), .second, .val (.long tt), .second, .val (.int sel), .val (.long v0), .second, .val (.long v1), .second, .val (.long v2), .second, .val (.long v3), .second, .val (.ref b5), .unset, .unset, .unset, .unset, .unset, .unset] [(.ref b14), (.ref b14)])) t
    refine XS.iconst X14.here hx rfl (hb hby at_84) ?_
    show Steps p.tables e below (T14.setTop (mkF m 85 #[.val (.long u0), .second, .val (.long u1), .second, .val (.long u2), .second, .val (.long u3), .second, .val (.long tt), .second, .val (.int sel), .val (.long v0), .second, .val (.long v1), .second, .val (.long v2), .second, .val (.long v3), .second, .val (.ref b5), .unset, .unset, .unset, .unset, .unset, .unset] [(.int (0 : Int32)), (.ref b14), (.ref b14)])) t
    refine XS.lload X14.here hx rfl (hb hby at_85) rfl ?_
    show Steps p.tables e below (T14.setTop (mkF m 87 #[.val (.long u0), .second, .val (.long u1), .second, .val (.long u2), .second, .val (.long u3), .second, .val (.long tt), .second, .val (.int sel), .val (.long v0), .second, .val (.long v1), .second, .val (.long v2), .second, .val (.long v3), .second, .val (.ref b5), .unset, .unset, .unset, .unset, .unset, .unset] [(.long v0), (.int (0 : Int32)), (.ref b14), (.ref b14)])) t
    exact k
  obtain ⟨cl15, Ar15, q15, S15, M15, H15, G15⟩ := id V14
  obtain ⟨T16, h16, X16, e16, W16, st16⟩ := stJ X14 hx hZ e14 Ar15 (j := (0 : Int32)) (inb_of S15 ⟨by decide, by decide⟩) (g := (mkF m 87 #[.val (.long u0), .second, .val (.long u1), .second, .val (.long u2), .second, .val (.long u3), .second, .val (.long tt), .second, .val (.int sel), .val (.long v0), .second, .val (.long v1), .second, .val (.long v2), .second, .val (.long v3), .second, .val (.ref b5), .unset, .unset, .unset, .unset, .unset, .unset] [(.long v0), (.int (0 : Int32)), (.ref b14), (.ref b14)])) rfl rfl (hb hby at_87)
  have N16 := Fr.snoc X16 N13 g_b14
  have K16 : Keep h0 h16 [] := K14.wr W16 (Or.inr hz_b14)
  have Z16 : n0 ≤ h16.size := Nat.le_trans Z14 (Keep.of_wr W16).1
  have fw16 := (Arv.set Ar15 q15 S15 M15 H15 G15 rfl W16 0 rfl (Nat.le_of_ble_eq_true rfl) : Arv Z h16 b14 k14 .long (4 : Int32) [(.long v0), (.long (0 : Int64)), (.long (0 : Int64)), (.long (0 : Int64))] (.long (0 : Int64)))
  refine own_st (T' := T16) (g' := (mkF m 88 #[.val (.long u0), .second, .val (.long u1), .second, .val (.long u2), .second, .val (.long u3), .second, .val (.long tt), .second, .val (.int sel), .val (.long v0), .second, .val (.long v1), .second, .val (.long v2), .second, .val (.long v3), .second, .val (.ref b5), .unset, .unset, .unset, .unset, .unset, .unset] [(.ref b14)])) st16 ?_
  refine own_st (T' := T16) (g' := (mkF m 92 #[.val (.long u0), .second, .val (.long u1), .second, .val (.long u2), .second, .val (.long u3), .second, .val (.long tt), .second, .val (.int sel), .val (.long v0), .second, .val (.long v1), .second, .val (.long v2), .second, .val (.long v3), .second, .val (.ref b5), .unset, .unset, .unset, .unset, .unset, .unset] [(.long v1), (.int (1 : Int32)), (.ref b14), (.ref b14)])) (fun t k => ?_) ?_
  · show Steps p.tables e below (T16.setTop (mkF m 88 #[.val (.long u0), .second, .val (.long u1), .second, .val (.long u2), .second, .val (.long u3), .second, .val (.long tt), .second, .val (.int sel), .val (.long v0), .second, .val (.long v1), .second, .val (.long v2), .second, .val (.long v3), .second, .val (.ref b5), .unset, .unset, .unset, .unset, .unset, .unset] [(.ref b14)])) t
    refine XS.dup X16.here hx rfl (hb hby at_88) rfl rfl ?_
    show Steps p.tables e below (T16.setTop (mkF m 89 #[.val (.long u0), .second, .val (.long u1), .second, .val (.long u2), .second, .val (.long u3), .second, .val (.long tt), .second, .val (.int sel), .val (.long v0), .second, .val (.long v1), .second, .val (.long v2), .second, .val (.long v3), .second, .val (.ref b5), .unset, .unset, .unset, .unset, .unset, .unset] [(.ref b14), (.ref b14)])) t
    refine XS.iconst X16.here hx rfl (hb hby at_89) ?_
    show Steps p.tables e below (T16.setTop (mkF m 90 #[.val (.long u0), .second, .val (.long u1), .second, .val (.long u2), .second, .val (.long u3), .second, .val (.long tt), .second, .val (.int sel), .val (.long v0), .second, .val (.long v1), .second, .val (.long v2), .second, .val (.long v3), .second, .val (.ref b5), .unset, .unset, .unset, .unset, .unset, .unset] [(.int (1 : Int32)), (.ref b14), (.ref b14)])) t
    refine XS.lload X16.here hx rfl (hb hby at_90) rfl ?_
    show Steps p.tables e below (T16.setTop (mkF m 92 #[.val (.long u0), .second, .val (.long u1), .second, .val (.long u2), .second, .val (.long u3), .second, .val (.long tt), .second, .val (.int sel), .val (.long v0), .second, .val (.long v1), .second, .val (.long v2), .second, .val (.long v3), .second, .val (.ref b5), .unset, .unset, .unset, .unset, .unset, .unset] [(.long v1), (.int (1 : Int32)), (.ref b14), (.ref b14)])) t
    exact k
  obtain ⟨cl17, Ar17, q17, S17, M17, H17, G17⟩ := id fw16
  obtain ⟨T18, h18, X18, e18, W18, st18⟩ := stJ X16 hx hZ e16 Ar17 (j := (1 : Int32)) (inb_of S17 ⟨by decide, by decide⟩) (g := (mkF m 92 #[.val (.long u0), .second, .val (.long u1), .second, .val (.long u2), .second, .val (.long u3), .second, .val (.long tt), .second, .val (.int sel), .val (.long v0), .second, .val (.long v1), .second, .val (.long v2), .second, .val (.long v3), .second, .val (.ref b5), .unset, .unset, .unset, .unset, .unset, .unset] [(.long v1), (.int (1 : Int32)), (.ref b14), (.ref b14)])) rfl rfl (hb hby at_92)
  have N18 := Fr.snoc X18 N16 g_b14
  have K18 : Keep h0 h18 [] := K16.wr W18 (Or.inr hz_b14)
  have Z18 : n0 ≤ h18.size := Nat.le_trans Z16 (Keep.of_wr W18).1
  have fw18 := (Arv.set Ar17 q17 S17 M17 H17 G17 rfl W18 1 rfl (Nat.le_of_ble_eq_true rfl) : Arv Z h18 b14 k14 .long (4 : Int32) [(.long v0), (.long v1), (.long (0 : Int64)), (.long (0 : Int64))] (.long (0 : Int64)))
  refine own_st (T' := T18) (g' := (mkF m 93 #[.val (.long u0), .second, .val (.long u1), .second, .val (.long u2), .second, .val (.long u3), .second, .val (.long tt), .second, .val (.int sel), .val (.long v0), .second, .val (.long v1), .second, .val (.long v2), .second, .val (.long v3), .second, .val (.ref b5), .unset, .unset, .unset, .unset, .unset, .unset] [(.ref b14)])) st18 ?_
  refine own_st (T' := T18) (g' := (mkF m 97 #[.val (.long u0), .second, .val (.long u1), .second, .val (.long u2), .second, .val (.long u3), .second, .val (.long tt), .second, .val (.int sel), .val (.long v0), .second, .val (.long v1), .second, .val (.long v2), .second, .val (.long v3), .second, .val (.ref b5), .unset, .unset, .unset, .unset, .unset, .unset] [(.long v2), (.int (2 : Int32)), (.ref b14), (.ref b14)])) (fun t k => ?_) ?_
  · show Steps p.tables e below (T18.setTop (mkF m 93 #[.val (.long u0), .second, .val (.long u1), .second, .val (.long u2), .second, .val (.long u3), .second, .val (.long tt), .second, .val (.int sel), .val (.long v0), .second, .val (.long v1), .second, .val (.long v2), .second, .val (.long v3), .second, .val (.ref b5), .unset, .unset, .unset, .unset, .unset, .unset] [(.ref b14)])) t
    refine XS.dup X18.here hx rfl (hb hby at_93) rfl rfl ?_
    show Steps p.tables e below (T18.setTop (mkF m 94 #[.val (.long u0), .second, .val (.long u1), .second, .val (.long u2), .second, .val (.long u3), .second, .val (.long tt), .second, .val (.int sel), .val (.long v0), .second, .val (.long v1), .second, .val (.long v2), .second, .val (.long v3), .second, .val (.ref b5), .unset, .unset, .unset, .unset, .unset, .unset] [(.ref b14), (.ref b14)])) t
    refine XS.iconst X18.here hx rfl (hb hby at_94) ?_
    show Steps p.tables e below (T18.setTop (mkF m 95 #[.val (.long u0), .second, .val (.long u1), .second, .val (.long u2), .second, .val (.long u3), .second, .val (.long tt), .second, .val (.int sel), .val (.long v0), .second, .val (.long v1), .second, .val (.long v2), .second, .val (.long v3), .second, .val (.ref b5), .unset, .unset, .unset, .unset, .unset, .unset] [(.int (2 : Int32)), (.ref b14), (.ref b14)])) t
    refine XS.lload X18.here hx rfl (hb hby at_95) rfl ?_
    show Steps p.tables e below (T18.setTop (mkF m 97 #[.val (.long u0), .second, .val (.long u1), .second, .val (.long u2), .second, .val (.long u3), .second, .val (.long tt), .second, .val (.int sel), .val (.long v0), .second, .val (.long v1), .second, .val (.long v2), .second, .val (.long v3), .second, .val (.ref b5), .unset, .unset, .unset, .unset, .unset, .unset] [(.long v2), (.int (2 : Int32)), (.ref b14), (.ref b14)])) t
    exact k
  obtain ⟨cl19, Ar19, q19, S19, M19, H19, G19⟩ := id fw18
  obtain ⟨T20, h20, X20, e20, W20, st20⟩ := stJ X18 hx hZ e18 Ar19 (j := (2 : Int32)) (inb_of S19 ⟨by decide, by decide⟩) (g := (mkF m 97 #[.val (.long u0), .second, .val (.long u1), .second, .val (.long u2), .second, .val (.long u3), .second, .val (.long tt), .second, .val (.int sel), .val (.long v0), .second, .val (.long v1), .second, .val (.long v2), .second, .val (.long v3), .second, .val (.ref b5), .unset, .unset, .unset, .unset, .unset, .unset] [(.long v2), (.int (2 : Int32)), (.ref b14), (.ref b14)])) rfl rfl (hb hby at_97)
  have N20 := Fr.snoc X20 N18 g_b14
  have K20 : Keep h0 h20 [] := K18.wr W20 (Or.inr hz_b14)
  have Z20 : n0 ≤ h20.size := Nat.le_trans Z18 (Keep.of_wr W20).1
  have fw20 := (Arv.set Ar19 q19 S19 M19 H19 G19 rfl W20 2 rfl (Nat.le_of_ble_eq_true rfl) : Arv Z h20 b14 k14 .long (4 : Int32) [(.long v0), (.long v1), (.long v2), (.long (0 : Int64))] (.long (0 : Int64)))
  refine own_st (T' := T20) (g' := (mkF m 98 #[.val (.long u0), .second, .val (.long u1), .second, .val (.long u2), .second, .val (.long u3), .second, .val (.long tt), .second, .val (.int sel), .val (.long v0), .second, .val (.long v1), .second, .val (.long v2), .second, .val (.long v3), .second, .val (.ref b5), .unset, .unset, .unset, .unset, .unset, .unset] [(.ref b14)])) st20 ?_
  refine own_st (T' := T20) (g' := (mkF m 102 #[.val (.long u0), .second, .val (.long u1), .second, .val (.long u2), .second, .val (.long u3), .second, .val (.long tt), .second, .val (.int sel), .val (.long v0), .second, .val (.long v1), .second, .val (.long v2), .second, .val (.long v3), .second, .val (.ref b5), .unset, .unset, .unset, .unset, .unset, .unset] [(.long v3), (.int (3 : Int32)), (.ref b14), (.ref b14)])) (fun t k => ?_) ?_
  · show Steps p.tables e below (T20.setTop (mkF m 98 #[.val (.long u0), .second, .val (.long u1), .second, .val (.long u2), .second, .val (.long u3), .second, .val (.long tt), .second, .val (.int sel), .val (.long v0), .second, .val (.long v1), .second, .val (.long v2), .second, .val (.long v3), .second, .val (.ref b5), .unset, .unset, .unset, .unset, .unset, .unset] [(.ref b14)])) t
    refine XS.dup X20.here hx rfl (hb hby at_98) rfl rfl ?_
    show Steps p.tables e below (T20.setTop (mkF m 99 #[.val (.long u0), .second, .val (.long u1), .second, .val (.long u2), .second, .val (.long u3), .second, .val (.long tt), .second, .val (.int sel), .val (.long v0), .second, .val (.long v1), .second, .val (.long v2), .second, .val (.long v3), .second, .val (.ref b5), .unset, .unset, .unset, .unset, .unset, .unset] [(.ref b14), (.ref b14)])) t
    refine XS.iconst X20.here hx rfl (hb hby at_99) ?_
    show Steps p.tables e below (T20.setTop (mkF m 100 #[.val (.long u0), .second, .val (.long u1), .second, .val (.long u2), .second, .val (.long u3), .second, .val (.long tt), .second, .val (.int sel), .val (.long v0), .second, .val (.long v1), .second, .val (.long v2), .second, .val (.long v3), .second, .val (.ref b5), .unset, .unset, .unset, .unset, .unset, .unset] [(.int (3 : Int32)), (.ref b14), (.ref b14)])) t
    refine XS.lload X20.here hx rfl (hb hby at_100) rfl ?_
    show Steps p.tables e below (T20.setTop (mkF m 102 #[.val (.long u0), .second, .val (.long u1), .second, .val (.long u2), .second, .val (.long u3), .second, .val (.long tt), .second, .val (.int sel), .val (.long v0), .second, .val (.long v1), .second, .val (.long v2), .second, .val (.long v3), .second, .val (.ref b5), .unset, .unset, .unset, .unset, .unset, .unset] [(.long v3), (.int (3 : Int32)), (.ref b14), (.ref b14)])) t
    exact k
  obtain ⟨cl21, Ar21, q21, S21, M21, H21, G21⟩ := id fw20
  obtain ⟨T22, h22, X22, e22, W22, st22⟩ := stJ X20 hx hZ e20 Ar21 (j := (3 : Int32)) (inb_of S21 ⟨by decide, by decide⟩) (g := (mkF m 102 #[.val (.long u0), .second, .val (.long u1), .second, .val (.long u2), .second, .val (.long u3), .second, .val (.long tt), .second, .val (.int sel), .val (.long v0), .second, .val (.long v1), .second, .val (.long v2), .second, .val (.long v3), .second, .val (.ref b5), .unset, .unset, .unset, .unset, .unset, .unset] [(.long v3), (.int (3 : Int32)), (.ref b14), (.ref b14)])) rfl rfl (hb hby at_102)
  have N22 := Fr.snoc X22 N20 g_b14
  have K22 : Keep h0 h22 [] := K20.wr W22 (Or.inr hz_b14)
  have Z22 : n0 ≤ h22.size := Nat.le_trans Z20 (Keep.of_wr W22).1
  have fw22 := (Arv.set Ar21 q21 S21 M21 H21 G21 rfl W22 3 rfl (Nat.le_of_ble_eq_true rfl) : Arv Z h22 b14 k14 .long (4 : Int32) [(.long v0), (.long v1), (.long v2), (.long v3)] (.long (0 : Int64)))
  refine own_st (T' := T22) (g' := (mkF m 103 #[.val (.long u0), .second, .val (.long u1), .second, .val (.long u2), .second, .val (.long u3), .second, .val (.long tt), .second, .val (.int sel), .val (.long v0), .second, .val (.long v1), .second, .val (.long v2), .second, .val (.long v3), .second, .val (.ref b5), .unset, .unset, .unset, .unset, .unset, .unset] [(.ref b14)])) st22 ?_
  refine own_st (T' := T22) (g' := (mkF m 109 #[.val (.long u0), .second, .val (.long u1), .second, .val (.long u2), .second, .val (.long u3), .second, .val (.long tt), .second, .val (.int sel), .val (.long v0), .second, .val (.long v1), .second, .val (.long v2), .second, .val (.long v3), .second, .val (.ref b5), .val (.ref b14), .unset, .unset, .unset, .unset, .unset] [(.int (lcmpW u0 v0))])) (fun t k => ?_) ?_
  · show Steps p.tables e below (T22.setTop (mkF m 103 #[.val (.long u0), .second, .val (.long u1), .second, .val (.long u2), .second, .val (.long u3), .second, .val (.long tt), .second, .val (.int sel), .val (.long v0), .second, .val (.long v1), .second, .val (.long v2), .second, .val (.long v3), .second, .val (.ref b5), .unset, .unset, .unset, .unset, .unset, .unset] [(.ref b14)])) t
    refine XS.astore X22.here hx rfl (hb hby at_103) rfl rfl (l' := #[.val (.long u0), .second, .val (.long u1), .second, .val (.long u2), .second, .val (.long u3), .second, .val (.long tt), .second, .val (.int sel), .val (.long v0), .second, .val (.long v1), .second, .val (.long v2), .second, .val (.long v3), .second, .val (.ref b5), .val (.ref b14), .unset, .unset, .unset, .unset, .unset]) rfl ?_
    show Steps p.tables e below (T22.setTop (mkF m 105 #[.val (.long u0), .second, .val (.long u1), .second, .val (.long u2), .second, .val (.long u3), .second, .val (.long tt), .second, .val (.int sel), .val (.long v0), .second, .val (.long v1), .second, .val (.long v2), .second, .val (.long v3), .second, .val (.ref b5), .val (.ref b14), .unset, .unset, .unset, .unset, .unset] [])) t
    refine XS.lloadN X22.here hx rfl (hb hby at_105) rfl ?_
    show Steps p.tables e below (T22.setTop (mkF m 106 #[.val (.long u0), .second, .val (.long u1), .second, .val (.long u2), .second, .val (.long u3), .second, .val (.long tt), .second, .val (.int sel), .val (.long v0), .second, .val (.long v1), .second, .val (.long v2), .second, .val (.long v3), .second, .val (.ref b5), .val (.ref b14), .unset, .unset, .unset, .unset, .unset] [(.long u0)])) t
    refine XS.lload X22.here hx rfl (hb hby at_106) rfl ?_
    show Steps p.tables e below (T22.setTop (mkF m 108 #[.val (.long u0), .second, .val (.long u1), .second, .val (.long u2), .second, .val (.long u3), .second, .val (.long tt), .second, .val (.int sel), .val (.long v0), .second, .val (.long v1), .second, .val (.long v2), .second, .val (.long v3), .second, .val (.ref b5), .val (.ref b14), .unset, .unset, .unset, .unset, .unset] [(.long v0), (.long u0)])) t
    refine XS.lcmp X22.here hx rfl (hb hby at_108) rfl ?_
    show Steps p.tables e below (T22.setTop (mkF m 109 #[.val (.long u0), .second, .val (.long u1), .second, .val (.long u2), .second, .val (.long u3), .second, .val (.long tt), .second, .val (.int sel), .val (.long v0), .second, .val (.long v1), .second, .val (.long v2), .second, .val (.long v3), .second, .val (.ref b5), .val (.ref b14), .unset, .unset, .unset, .unset, .unset] [(.int (lcmpW u0 v0))])) t
    exact k
  have JA : ∀ (eA : Int32), eA = own_all u0 u1 u2 u3 v0 v1 v2 v3 → ∀ (T : State) (locs : List Loc), Stand p l e room_1 s m #[(.long u0), (.long u1), (.long u2), (.long u3), (.long tt), (.int sel)] below meth c T locs 2 8 → Fr n0 locs → T.heap = h22 → own_Go p e below (own_K s (own_Q0 Z u0 u1 u2 u3 tt  sel  h0 n0) room_1.cells room_1.slots) T (mkF m 140 #[.val (.long u0), .second, .val (.long u1), .second, .val (.long u2), .second, .val (.long u3), .second, .val (.long tt), .second, .val (.int sel), .val (.long v0), .second, .val (.long v1), .second, .val (.long v2), .second, .val (.long v3), .second, .val (.ref b5), .val (.ref b14), .unset, .unset, .unset, .unset, .unset] [(.int eA)]) := by
    intro eA hA T23 locs23 X23 N23 e23
    refine own_st (T' := T23) (g' := (mkF m 146 #[.val (.long u0), .second, .val (.long u1), .second, .val (.long u2), .second, .val (.long u3), .second, .val (.long tt), .second, .val (.int sel), .val (.long v0), .second, .val (.long v1), .second, .val (.long v2), .second, .val (.long v3), .second, .val (.ref b5), .val (.ref b14), .val (.int eA), .unset, .unset, .unset, .unset] [(.int (lcmpW v0 u0))])) (fun t k => ?_) ?_
    · show Steps p.tables e below (T23.setTop (mkF m 140 #[.val (.long u0), .second, .val (.long u1), .second, .val (.long u2), .second, .val (.long u3), .second, .val (.long tt), .second, .val (.int sel), .val (.long v0), .second, .val (.long v1), .second, .val (.long v2), .second, .val (.long v3), .second, .val (.ref b5), .val (.ref b14), .unset, .unset, .unset, .unset, .unset] [(.int eA)])) t
      refine XS.istore X23.here hx rfl (hb hby at_140) rfl (l' := #[.val (.long u0), .second, .val (.long u1), .second, .val (.long u2), .second, .val (.long u3), .second, .val (.long tt), .second, .val (.int sel), .val (.long v0), .second, .val (.long v1), .second, .val (.long v2), .second, .val (.long v3), .second, .val (.ref b5), .val (.ref b14), .val (.int eA), .unset, .unset, .unset, .unset]) rfl ?_
      show Steps p.tables e below (T23.setTop (mkF m 142 #[.val (.long u0), .second, .val (.long u1), .second, .val (.long u2), .second, .val (.long u3), .second, .val (.long tt), .second, .val (.int sel), .val (.long v0), .second, .val (.long v1), .second, .val (.long v2), .second, .val (.long v3), .second, .val (.ref b5), .val (.ref b14), .val (.int eA), .unset, .unset, .unset, .unset] [])) t
      refine XS.lload X23.here hx rfl (hb hby at_142) rfl ?_
      show Steps p.tables e below (T23.setTop (mkF m 144 #[.val (.long u0), .second, .val (.long u1), .second, .val (.long u2), .second, .val (.long u3), .second, .val (.long tt), .second, .val (.int sel), .val (.long v0), .second, .val (.long v1), .second, .val (.long v2), .second, .val (.long v3), .second, .val (.ref b5), .val (.ref b14), .val (.int eA), .unset, .unset, .unset, .unset] [(.long v0)])) t
      refine XS.lloadN X23.here hx rfl (hb hby at_144) rfl ?_
      show Steps p.tables e below (T23.setTop (mkF m 145 #[.val (.long u0), .second, .val (.long u1), .second, .val (.long u2), .second, .val (.long u3), .second, .val (.long tt), .second, .val (.int sel), .val (.long v0), .second, .val (.long v1), .second, .val (.long v2), .second, .val (.long v3), .second, .val (.ref b5), .val (.ref b14), .val (.int eA), .unset, .unset, .unset, .unset] [(.long u0), (.long v0)])) t
      refine XS.lcmp X23.here hx rfl (hb hby at_145) rfl ?_
      show Steps p.tables e below (T23.setTop (mkF m 146 #[.val (.long u0), .second, .val (.long u1), .second, .val (.long u2), .second, .val (.long u3), .second, .val (.long tt), .second, .val (.int sel), .val (.long v0), .second, .val (.long v1), .second, .val (.long v2), .second, .val (.long v3), .second, .val (.ref b5), .val (.ref b14), .val (.int eA), .unset, .unset, .unset, .unset] [(.int (lcmpW v0 u0))])) t
      exact k
    have JB : ∀ (eB : Int32), eB = own_all v0 v1 v2 v3 u0 u1 u2 u3 → ∀ (T : State) (locs : List Loc), Stand p l e room_1 s m #[(.long u0), (.long u1), (.long u2), (.long u3), (.long tt), (.int sel)] below meth c T locs 2 8 → Fr n0 locs → T.heap = h22 → own_Go p e below (own_K s (own_Q0 Z u0 u1 u2 u3 tt  sel  h0 n0) room_1.cells room_1.slots) T (mkF m 177 #[.val (.long u0), .second, .val (.long u1), .second, .val (.long u2), .second, .val (.long u3), .second, .val (.long tt), .second, .val (.int sel), .val (.long v0), .second, .val (.long v1), .second, .val (.long v2), .second, .val (.long v3), .second, .val (.ref b5), .val (.ref b14), .val (.int eA), .unset, .unset, .unset, .unset] [(.int eB)]) := by
      intro eB hB T24 locs24 X24 N24 e24
      refine own_st (T' := T24) (g' := (mkF m 183 #[.val (.long u0), .second, .val (.long u1), .second, .val (.long u2), .second, .val (.long u3), .second, .val (.long tt), .second, .val (.int sel), .val (.long v0), .second, .val (.long v1), .second, .val (.long v2), .second, .val (.long v3), .second, .val (.ref b5), .val (.ref b14), .val (.int eA), .val (.int eB), .unset, .unset, .unset] [(.ref b14), (.ref b5)])) (fun t k => ?_) ?_
      · show Steps p.tables e below (T24.setTop (mkF m 177 #[.val (.long u0), .second, .val (.long u1), .second, .val (.long u2), .second, .val (.long u3), .second, .val (.long tt), .second, .val (.int sel), .val (.long v0), .second, .val (.long v1), .second, .val (.long v2), .second, .val (.long v3), .second, .val (.ref b5), .val (.ref b14), .val (.int eA), .unset, .unset, .unset, .unset] [(.int eB)])) t
        refine XS.istore X24.here hx rfl (hb hby at_177) rfl (l' := #[.val (.long u0), .second, .val (.long u1), .second, .val (.long u2), .second, .val (.long u3), .second, .val (.long tt), .second, .val (.int sel), .val (.long v0), .second, .val (.long v1), .second, .val (.long v2), .second, .val (.long v3), .second, .val (.ref b5), .val (.ref b14), .val (.int eA), .val (.int eB), .unset, .unset, .unset]) rfl ?_
        show Steps p.tables e below (T24.setTop (mkF m 179 #[.val (.long u0), .second, .val (.long u1), .second, .val (.long u2), .second, .val (.long u3), .second, .val (.long tt), .second, .val (.int sel), .val (.long v0), .second, .val (.long v1), .second, .val (.long v2), .second, .val (.long v3), .second, .val (.ref b5), .val (.ref b14), .val (.int eA), .val (.int eB), .unset, .unset, .unset] [])) t
        refine XS.aload X24.here hx rfl (hb hby at_179) rfl rfl ?_
        show Steps p.tables e below (T24.setTop (mkF m 181 #[.val (.long u0), .second, .val (.long u1), .second, .val (.long u2), .second, .val (.long u3), .second, .val (.long tt), .second, .val (.int sel), .val (.long v0), .second, .val (.long v1), .second, .val (.long v2), .second, .val (.long v3), .second, .val (.ref b5), .val (.ref b14), .val (.int eA), .val (.int eB), .unset, .unset, .unset] [(.ref b5)])) t
        refine XS.aload X24.here hx rfl (hb hby at_181) rfl rfl ?_
        show Steps p.tables e below (T24.setTop (mkF m 183 #[.val (.long u0), .second, .val (.long u1), .second, .val (.long u2), .second, .val (.long u3), .second, .val (.long tt), .second, .val (.int sel), .val (.long v0), .second, .val (.long v1), .second, .val (.long v2), .second, .val (.long v3), .second, .val (.ref b5), .val (.ref b14), .val (.int eA), .val (.int eB), .unset, .unset, .unset] [(.ref b14), (.ref b5)])) t
        exact k
      have f25 := (((((((((S_C.ext E5).wr W7).wr W9).wr W11).wr W13).ext E14).wr W16).wr W18).wr W20).wr W22
      have f26 := ((((fw13.ext E14).other W16 ne_b5_b14).other W18 ne_b5_b14).other W20 ne_b5_b14).other W22 ne_b5_b14
      obtain ⟨_, _, ⟨T27, L27, c27, n27⟩, -, X27, ⟨Lc27, hQ27, l27, y27, z27⟩, st27⟩ := Jvm.LawKit.callS X24 hx (y := (⟨"com/example/featurefront/featurefront/Objectives", "weaklyDominates", "([J[J)Z"⟩ : MethodName)) hown (mvT hZ (hw _ (List.mem_of_getElem? (i := 5) rfl))) (mvT hZ (hw _ (List.mem_of_getElem? (i := 6) rfl))) (mvT hZ (hw _ (List.mem_of_getElem? (i := 7) rfl))) (mvT hZ (hw _ (List.mem_of_getElem? (i := 8) rfl))) (by decide) (backOf (W := 0) (own_rm2 l Z a0 hw [] b5 b14 k5 k14 u0 u1 u2 u3 v0 v1 v2 v3 h22 n0 Z22 f25 f26 fw22) hZ (hw _ (List.mem_of_getElem? (i := 8) rfl)) (hw _ (List.mem_of_getElem? (i := 7) rfl)) (by decide) (by decide)) (g := (mkF m 183 #[.val (.long u0), .second, .val (.long u1), .second, .val (.long u2), .second, .val (.long u3), .second, .val (.long tt), .second, .val (.int sel), .val (.long v0), .second, .val (.long v1), .second, .val (.long v2), .second, .val (.long v3), .second, .val (.ref b5), .val (.ref b14), .val (.int eA), .val (.int eB), .unset, .unset, .unset] [(.ref b14), (.ref b5)])) rfl (by rw [hml]; rfl) (argsL := [(.ref b5), (.ref b14)]) (rest := []) (lenOf own_pd1 rfl) rfl (by show 2 * 0 + _ ≤ _; exact Nat.le_of_eq rfl) (hb hby at_183) (fun _ _ => ⟨rfl, e24, (by decide : 2 + 0 ≤ _), (by decide : 8 + 0 ≤ _)⟩)
      dsimp only [Pt.U, Pt.locs, Pt.cells, Pt.slots] at X27 l27 y27 z27 st27 hQ27
      subst l27 y27 z27
      obtain ⟨rfl, N27q, e27⟩ := hQ27
      have N27 := Fr.app N24 N27q
      refine own_st (T' := T27) (g' := (mkF m 186 #[.val (.long u0), .second, .val (.long u1), .second, .val (.long u2), .second, .val (.long u3), .second, .val (.long tt), .second, .val (.int sel), .val (.long v0), .second, .val (.long v1), .second, .val (.long v2), .second, .val (.long v3), .second, .val (.ref b5), .val (.ref b14), .val (.int eA), .val (.int eB), .unset, .unset, .unset] [(.int (own_all u0 u1 u2 u3 v0 v1 v2 v3))])) st27 ?_
      refine own_st (T' := T27) (g' := (mkF m 192 #[.val (.long u0), .second, .val (.long u1), .second, .val (.long u2), .second, .val (.long u3), .second, .val (.long tt), .second, .val (.int sel), .val (.long v0), .second, .val (.long v1), .second, .val (.long v2), .second, .val (.long v3), .second, .val (.ref b5), .val (.ref b14), .val (.int eA), .val (.int eB), .val (.int (own_all u0 u1 u2 u3 v0 v1 v2 v3)), .unset, .unset] [(.ref b5), (.ref b14)])) (fun t k => ?_) ?_
      · show Steps p.tables e below (T27.setTop (mkF m 186 #[.val (.long u0), .second, .val (.long u1), .second, .val (.long u2), .second, .val (.long u3), .second, .val (.long tt), .second, .val (.int sel), .val (.long v0), .second, .val (.long v1), .second, .val (.long v2), .second, .val (.long v3), .second, .val (.ref b5), .val (.ref b14), .val (.int eA), .val (.int eB), .unset, .unset, .unset] [(.int (own_all u0 u1 u2 u3 v0 v1 v2 v3))])) t
        refine XS.istore X27.here hx rfl (hb hby at_186) rfl (l' := #[.val (.long u0), .second, .val (.long u1), .second, .val (.long u2), .second, .val (.long u3), .second, .val (.long tt), .second, .val (.int sel), .val (.long v0), .second, .val (.long v1), .second, .val (.long v2), .second, .val (.long v3), .second, .val (.ref b5), .val (.ref b14), .val (.int eA), .val (.int eB), .val (.int (own_all u0 u1 u2 u3 v0 v1 v2 v3)), .unset, .unset]) rfl ?_
        show Steps p.tables e below (T27.setTop (mkF m 188 #[.val (.long u0), .second, .val (.long u1), .second, .val (.long u2), .second, .val (.long u3), .second, .val (.long tt), .second, .val (.int sel), .val (.long v0), .second, .val (.long v1), .second, .val (.long v2), .second, .val (.long v3), .second, .val (.ref b5), .val (.ref b14), .val (.int eA), .val (.int eB), .val (.int (own_all u0 u1 u2 u3 v0 v1 v2 v3)), .unset, .unset] [])) t
        refine XS.aload X27.here hx rfl (hb hby at_188) rfl rfl ?_
        show Steps p.tables e below (T27.setTop (mkF m 190 #[.val (.long u0), .second, .val (.long u1), .second, .val (.long u2), .second, .val (.long u3), .second, .val (.long tt), .second, .val (.int sel), .val (.long v0), .second, .val (.long v1), .second, .val (.long v2), .second, .val (.long v3), .second, .val (.ref b5), .val (.ref b14), .val (.int eA), .val (.int eB), .val (.int (own_all u0 u1 u2 u3 v0 v1 v2 v3)), .unset, .unset] [(.ref b14)])) t
        refine XS.aload X27.here hx rfl (hb hby at_190) rfl rfl ?_
        show Steps p.tables e below (T27.setTop (mkF m 192 #[.val (.long u0), .second, .val (.long u1), .second, .val (.long u2), .second, .val (.long u3), .second, .val (.long tt), .second, .val (.int sel), .val (.long v0), .second, .val (.long v1), .second, .val (.long v2), .second, .val (.long v3), .second, .val (.ref b5), .val (.ref b14), .val (.int eA), .val (.int eB), .val (.int (own_all u0 u1 u2 u3 v0 v1 v2 v3)), .unset, .unset] [(.ref b5), (.ref b14)])) t
        exact k
      obtain ⟨_, _, ⟨T28, L28, c28, n28⟩, -, X28, ⟨Lc28, hQ28, l28, y28, z28⟩, st28⟩ := Jvm.LawKit.callS X27 hx (y := (⟨"com/example/featurefront/featurefront/Objectives", "weaklyDominates", "([J[J)Z"⟩ : MethodName)) hown (mvT hZ (hw _ (List.mem_of_getElem? (i := 5) rfl))) (mvT hZ (hw _ (List.mem_of_getElem? (i := 6) rfl))) (mvT hZ (hw _ (List.mem_of_getElem? (i := 7) rfl))) (mvT hZ (hw _ (List.mem_of_getElem? (i := 8) rfl))) (by decide) (backOf (W := 0) (own_rm2 l Z a0 hw [] b14 b5 k14 k5 v0 v1 v2 v3 u0 u1 u2 u3 h22 n0 Z22 f25 fw22 f26) hZ (hw _ (List.mem_of_getElem? (i := 8) rfl)) (hw _ (List.mem_of_getElem? (i := 7) rfl)) (by decide) (by decide)) (g := (mkF m 192 #[.val (.long u0), .second, .val (.long u1), .second, .val (.long u2), .second, .val (.long u3), .second, .val (.long tt), .second, .val (.int sel), .val (.long v0), .second, .val (.long v1), .second, .val (.long v2), .second, .val (.long v3), .second, .val (.ref b5), .val (.ref b14), .val (.int eA), .val (.int eB), .val (.int (own_all u0 u1 u2 u3 v0 v1 v2 v3)), .unset, .unset] [(.ref b5), (.ref b14)])) rfl (by rw [hml]; rfl) (argsL := [(.ref b14), (.ref b5)]) (rest := []) (lenOf own_pd1 rfl) rfl (by show 2 * 0 + _ ≤ _; exact Nat.le_of_eq rfl) (hb hby at_192) (fun _ _ => ⟨rfl, e27, (by decide : 2 + 0 ≤ _), (by decide : 8 + 0 ≤ _)⟩)
      dsimp only [Pt.U, Pt.locs, Pt.cells, Pt.slots] at X28 l28 y28 z28 st28 hQ28
      subst l28 y28 z28
      obtain ⟨rfl, N28q, e28⟩ := hQ28
      have N28 := Fr.app N27 N28q
      refine own_st (T' := T28) (g' := (mkF m 195 #[.val (.long u0), .second, .val (.long u1), .second, .val (.long u2), .second, .val (.long u3), .second, .val (.long tt), .second, .val (.int sel), .val (.long v0), .second, .val (.long v1), .second, .val (.long v2), .second, .val (.long v3), .second, .val (.ref b5), .val (.ref b14), .val (.int eA), .val (.int eB), .val (.int (own_all u0 u1 u2 u3 v0 v1 v2 v3)), .unset, .unset] [(.int (own_all v0 v1 v2 v3 u0 u1 u2 u3))])) st28 ?_
      refine own_st (T' := T28) (g' := (mkF m 200 #[.val (.long u0), .second, .val (.long u1), .second, .val (.long u2), .second, .val (.long u3), .second, .val (.long tt), .second, .val (.int sel), .val (.long v0), .second, .val (.long v1), .second, .val (.long v2), .second, .val (.long v3), .second, .val (.ref b5), .val (.ref b14), .val (.int eA), .val (.int eB), .val (.int (own_all u0 u1 u2 u3 v0 v1 v2 v3)), .val (.int (own_all v0 v1 v2 v3 u0 u1 u2 u3)), .unset] [(.int (0 : Int32)), (.ref b5)])) (fun t k => ?_) ?_
      · show Steps p.tables e below (T28.setTop (mkF m 195 #[.val (.long u0), .second, .val (.long u1), .second, .val (.long u2), .second, .val (.long u3), .second, .val (.long tt), .second, .val (.int sel), .val (.long v0), .second, .val (.long v1), .second, .val (.long v2), .second, .val (.long v3), .second, .val (.ref b5), .val (.ref b14), .val (.int eA), .val (.int eB), .val (.int (own_all u0 u1 u2 u3 v0 v1 v2 v3)), .unset, .unset] [(.int (own_all v0 v1 v2 v3 u0 u1 u2 u3))])) t
        refine XS.istore X28.here hx rfl (hb hby at_195) rfl (l' := #[.val (.long u0), .second, .val (.long u1), .second, .val (.long u2), .second, .val (.long u3), .second, .val (.long tt), .second, .val (.int sel), .val (.long v0), .second, .val (.long v1), .second, .val (.long v2), .second, .val (.long v3), .second, .val (.ref b5), .val (.ref b14), .val (.int eA), .val (.int eB), .val (.int (own_all u0 u1 u2 u3 v0 v1 v2 v3)), .val (.int (own_all v0 v1 v2 v3 u0 u1 u2 u3)), .unset]) rfl ?_
        show Steps p.tables e below (T28.setTop (mkF m 197 #[.val (.long u0), .second, .val (.long u1), .second, .val (.long u2), .second, .val (.long u3), .second, .val (.long tt), .second, .val (.int sel), .val (.long v0), .second, .val (.long v1), .second, .val (.long v2), .second, .val (.long v3), .second, .val (.ref b5), .val (.ref b14), .val (.int eA), .val (.int eB), .val (.int (own_all u0 u1 u2 u3 v0 v1 v2 v3)), .val (.int (own_all v0 v1 v2 v3 u0 u1 u2 u3)), .unset] [])) t
        refine XS.aload X28.here hx rfl (hb hby at_197) rfl rfl ?_
        show Steps p.tables e below (T28.setTop (mkF m 199 #[.val (.long u0), .second, .val (.long u1), .second, .val (.long u2), .second, .val (.long u3), .second, .val (.long tt), .second, .val (.int sel), .val (.long v0), .second, .val (.long v1), .second, .val (.long v2), .second, .val (.long v3), .second, .val (.ref b5), .val (.ref b14), .val (.int eA), .val (.int eB), .val (.int (own_all u0 u1 u2 u3 v0 v1 v2 v3)), .val (.int (own_all v0 v1 v2 v3 u0 u1 u2 u3)), .unset] [(.ref b5)])) t
        refine XS.iconst X28.here hx rfl (hb hby at_199) ?_
        show Steps p.tables e below (T28.setTop (mkF m 200 #[.val (.long u0), .second, .val (.long u1), .second, .val (.long u2), .second, .val (.long u3), .second, .val (.long tt), .second, .val (.int sel), .val (.long v0), .second, .val (.long v1), .second, .val (.long v2), .second, .val (.long v3), .second, .val (.ref b5), .val (.ref b14), .val (.int eA), .val (.int eB), .val (.int (own_all u0 u1 u2 u3 v0 v1 v2 v3)), .val (.int (own_all v0 v1 v2 v3 u0 u1 u2 u3)), .unset] [(.int (0 : Int32)), (.ref b5)])) t
        exact k
      obtain ⟨cl29, Ar29, q29, S29, M29, H29, G29⟩ := id f26
      refine own_st (T' := T28) (g' := (mkF m 209 #[.val (.long u0), .second, .val (.long u1), .second, .val (.long u2), .second, .val (.long u3), .second, .val (.long tt), .second, .val (.int sel), .val (.long v0), .second, .val (.long v1), .second, .val (.long v2), .second, .val (.long v3), .second, .val (.ref b5), .val (.ref b14), .val (.int eA), .val (.int eB), .val (.int (own_all u0 u1 u2 u3 v0 v1 v2 v3)), .val (.int (own_all v0 v1 v2 v3 u0 u1 u2 u3)), .unset] [(.int (1 : Int32)), (.ref b5)])) (fun t k => ?_) ?_
      · show Steps p.tables e below (T28.setTop (mkF m 200 #[.val (.long u0), .second, .val (.long u1), .second, .val (.long u2), .second, .val (.long u3), .second, .val (.long tt), .second, .val (.int sel), .val (.long v0), .second, .val (.long v1), .second, .val (.long v2), .second, .val (.long v3), .second, .val (.ref b5), .val (.ref b14), .val (.int eA), .val (.int eB), .val (.int (own_all u0 u1 u2 u3 v0 v1 v2 v3)), .val (.int (own_all v0 v1 v2 v3 u0 u1 u2 u3)), .unset] [(.int (0 : Int32)), (.ref b5)])) t
        refine X28.laload hx (j := (0 : Int32)) (v := (.long u0)) (by rw [e28]; exact Ar29.1) (State.isArrayOf_alike hZ.alike Ar29.2.1) Ar29.2.2 (inb_of S29 ⟨by decide, by decide⟩) (Has.at H29 (inb_of S29 ⟨by decide, by decide⟩) rfl) (g := (mkF m 200 #[.val (.long u0), .second, .val (.long u1), .second, .val (.long u2), .second, .val (.long u3), .second, .val (.long tt), .second, .val (.int sel), .val (.long v0), .second, .val (.long v1), .second, .val (.long v2), .second, .val (.long v3), .second, .val (.ref b5), .val (.ref b14), .val (.int eA), .val (.int eB), .val (.int (own_all u0 u1 u2 u3 v0 v1 v2 v3)), .val (.int (own_all v0 v1 v2 v3 u0 u1 u2 u3)), .unset] [(.int (0 : Int32)), (.ref b5)])) rfl rfl (hb hby at_200) _ ?_
        show Steps p.tables e below (T28.setTop (mkF m 201 #[.val (.long u0), .second, .val (.long u1), .second, .val (.long u2), .second, .val (.long u3), .second, .val (.long tt), .second, .val (.int sel), .val (.long v0), .second, .val (.long v1), .second, .val (.long v2), .second, .val (.long v3), .second, .val (.ref b5), .val (.ref b14), .val (.int eA), .val (.int eB), .val (.int (own_all u0 u1 u2 u3 v0 v1 v2 v3)), .val (.int (own_all v0 v1 v2 v3 u0 u1 u2 u3)), .unset] [(.long u0)])) t
        refine XS.lloadN X28.here hx rfl (hb hby at_201) rfl ?_
        show Steps p.tables e below (T28.setTop (mkF m 202 #[.val (.long u0), .second, .val (.long u1), .second, .val (.long u2), .second, .val (.long u3), .second, .val (.long tt), .second, .val (.int sel), .val (.long v0), .second, .val (.long v1), .second, .val (.long v2), .second, .val (.long v3), .second, .val (.ref b5), .val (.ref b14), .val (.int eA), .val (.int eB), .val (.int (own_all u0 u1 u2 u3 v0 v1 v2 v3)), .val (.int (own_all v0 v1 v2 v3 u0 u1 u2 u3)), .unset] [(.long u0), (.long u0)])) t
        refine XS.lcmp X28.here hx rfl (hb hby at_202) rfl ?_
        show Steps p.tables e below (T28.setTop (mkF m 203 #[.val (.long u0), .second, .val (.long u1), .second, .val (.long u2), .second, .val (.long u3), .second, .val (.long tt), .second, .val (.int sel), .val (.long v0), .second, .val (.long v1), .second, .val (.long v2), .second, .val (.long v3), .second, .val (.ref b5), .val (.ref b14), .val (.int eA), .val (.int eB), .val (.int (own_all u0 u1 u2 u3 v0 v1 v2 v3)), .val (.int (own_all v0 v1 v2 v3 u0 u1 u2 u3)), .unset] [(.int (lcmpW u0 u0))])) t
        refine XS.ifNo X28.here hx rfl (hb hby at_203) rfl ((if0 _ _).trans (teq ((lw_eq _ _).mpr (rfl : u0 = u0))).2) ?_
        show Steps p.tables e below (T28.setTop (mkF m 206 #[.val (.long u0), .second, .val (.long u1), .second, .val (.long u2), .second, .val (.long u3), .second, .val (.long tt), .second, .val (.int sel), .val (.long v0), .second, .val (.long v1), .second, .val (.long v2), .second, .val (.long v3), .second, .val (.ref b5), .val (.ref b14), .val (.int eA), .val (.int eB), .val (.int (own_all u0 u1 u2 u3 v0 v1 v2 v3)), .val (.int (own_all v0 v1 v2 v3 u0 u1 u2 u3)), .unset] [])) t
        refine XS.aload X28.here hx rfl (hb hby at_206) rfl rfl ?_
        show Steps p.tables e below (T28.setTop (mkF m 208 #[.val (.long u0), .second, .val (.long u1), .second, .val (.long u2), .second, .val (.long u3), .second, .val (.long tt), .second, .val (.int sel), .val (.long v0), .second, .val (.long v1), .second, .val (.long v2), .second, .val (.long v3), .second, .val (.ref b5), .val (.ref b14), .val (.int eA), .val (.int eB), .val (.int (own_all u0 u1 u2 u3 v0 v1 v2 v3)), .val (.int (own_all v0 v1 v2 v3 u0 u1 u2 u3)), .unset] [(.ref b5)])) t
        refine XS.iconst X28.here hx rfl (hb hby at_208) ?_
        show Steps p.tables e below (T28.setTop (mkF m 209 #[.val (.long u0), .second, .val (.long u1), .second, .val (.long u2), .second, .val (.long u3), .second, .val (.long tt), .second, .val (.int sel), .val (.long v0), .second, .val (.long v1), .second, .val (.long v2), .second, .val (.long v3), .second, .val (.ref b5), .val (.ref b14), .val (.int eA), .val (.int eB), .val (.int (own_all u0 u1 u2 u3 v0 v1 v2 v3)), .val (.int (own_all v0 v1 v2 v3 u0 u1 u2 u3)), .unset] [(.int (1 : Int32)), (.ref b5)])) t
        exact k
      obtain ⟨cl30, Ar30, q30, S30, M30, H30, G30⟩ := id f26
      refine own_st (T' := T28) (g' := (mkF m 218 #[.val (.long u0), .second, .val (.long u1), .second, .val (.long u2), .second, .val (.long u3), .second, .val (.long tt), .second, .val (.int sel), .val (.long v0), .second, .val (.long v1), .second, .val (.long v2), .second, .val (.long v3), .second, .val (.ref b5), .val (.ref b14), .val (.int eA), .val (.int eB), .val (.int (own_all u0 u1 u2 u3 v0 v1 v2 v3)), .val (.int (own_all v0 v1 v2 v3 u0 u1 u2 u3)), .unset] [(.int (2 : Int32)), (.ref b5)])) (fun t k => ?_) ?_
      · show Steps p.tables e below (T28.setTop (mkF m 209 #[.val (.long u0), .second, .val (.long u1), .second, .val (.long u2), .second, .val (.long u3), .second, .val (.long tt), .second, .val (.int sel), .val (.long v0), .second, .val (.long v1), .second, .val (.long v2), .second, .val (.long v3), .second, .val (.ref b5), .val (.ref b14), .val (.int eA), .val (.int eB), .val (.int (own_all u0 u1 u2 u3 v0 v1 v2 v3)), .val (.int (own_all v0 v1 v2 v3 u0 u1 u2 u3)), .unset] [(.int (1 : Int32)), (.ref b5)])) t
        refine X28.laload hx (j := (1 : Int32)) (v := (.long u1)) (by rw [e28]; exact Ar30.1) (State.isArrayOf_alike hZ.alike Ar30.2.1) Ar30.2.2 (inb_of S30 ⟨by decide, by decide⟩) (Has.at H30 (inb_of S30 ⟨by decide, by decide⟩) rfl) (g := (mkF m 209 #[.val (.long u0), .second, .val (.long u1), .second, .val (.long u2), .second, .val (.long u3), .second, .val (.long tt), .second, .val (.int sel), .val (.long v0), .second, .val (.long v1), .second, .val (.long v2), .second, .val (.long v3), .second, .val (.ref b5), .val (.ref b14), .val (.int eA), .val (.int eB), .val (.int (own_all u0 u1 u2 u3 v0 v1 v2 v3)), .val (.int (own_all v0 v1 v2 v3 u0 u1 u2 u3)), .unset] [(.int (1 : Int32)), (.ref b5)])) rfl rfl (hb hby at_209) _ ?_
        show Steps p.tables e below (T28.setTop (mkF m 210 #[.val (.long u0), .second, .val (.long u1), .second, .val (.long u2), .second, .val (.long u3), .second, .val (.long tt), .second, .val (.int sel), .val (.long v0), .second, .val (.long v1), .second, .val (.long v2), .second, .val (.long v3), .second, .val (.ref b5), .val (.ref b14), .val (.int eA), .val (.int eB), .val (.int (own_all u0 u1 u2 u3 v0 v1 v2 v3)), .val (.int (own_all v0 v1 v2 v3 u0 u1 u2 u3)), .unset] [(.long u1)])) t
        refine XS.lloadN X28.here hx rfl (hb hby at_210) rfl ?_
        show Steps p.tables e below (T28.setTop (mkF m 211 #[.val (.long u0), .second, .val (.long u1), .second, .val (.long u2), .second, .val (.long u3), .second, .val (.long tt), .second, .val (.int sel), .val (.long v0), .second, .val (.long v1), .second, .val (.long v2), .second, .val (.long v3), .second, .val (.ref b5), .val (.ref b14), .val (.int eA), .val (.int eB), .val (.int (own_all u0 u1 u2 u3 v0 v1 v2 v3)), .val (.int (own_all v0 v1 v2 v3 u0 u1 u2 u3)), .unset] [(.long u1), (.long u1)])) t
        refine XS.lcmp X28.here hx rfl (hb hby at_211) rfl ?_
        show Steps p.tables e below (T28.setTop (mkF m 212 #[.val (.long u0), .second, .val (.long u1), .second, .val (.long u2), .second, .val (.long u3), .second, .val (.long tt), .second, .val (.int sel), .val (.long v0), .second, .val (.long v1), .second, .val (.long v2), .second, .val (.long v3), .second, .val (.ref b5), .val (.ref b14), .val (.int eA), .val (.int eB), .val (.int (own_all u0 u1 u2 u3 v0 v1 v2 v3)), .val (.int (own_all v0 v1 v2 v3 u0 u1 u2 u3)), .unset] [(.int (lcmpW u1 u1))])) t
        refine XS.ifNo X28.here hx rfl (hb hby at_212) rfl ((if0 _ _).trans (teq ((lw_eq _ _).mpr (rfl : u1 = u1))).2) ?_
        show Steps p.tables e below (T28.setTop (mkF m 215 #[.val (.long u0), .second, .val (.long u1), .second, .val (.long u2), .second, .val (.long u3), .second, .val (.long tt), .second, .val (.int sel), .val (.long v0), .second, .val (.long v1), .second, .val (.long v2), .second, .val (.long v3), .second, .val (.ref b5), .val (.ref b14), .val (.int eA), .val (.int eB), .val (.int (own_all u0 u1 u2 u3 v0 v1 v2 v3)), .val (.int (own_all v0 v1 v2 v3 u0 u1 u2 u3)), .unset] [])) t
        refine XS.aload X28.here hx rfl (hb hby at_215) rfl rfl ?_
        show Steps p.tables e below (T28.setTop (mkF m 217 #[.val (.long u0), .second, .val (.long u1), .second, .val (.long u2), .second, .val (.long u3), .second, .val (.long tt), .second, .val (.int sel), .val (.long v0), .second, .val (.long v1), .second, .val (.long v2), .second, .val (.long v3), .second, .val (.ref b5), .val (.ref b14), .val (.int eA), .val (.int eB), .val (.int (own_all u0 u1 u2 u3 v0 v1 v2 v3)), .val (.int (own_all v0 v1 v2 v3 u0 u1 u2 u3)), .unset] [(.ref b5)])) t
        refine XS.iconst X28.here hx rfl (hb hby at_217) ?_
        show Steps p.tables e below (T28.setTop (mkF m 218 #[.val (.long u0), .second, .val (.long u1), .second, .val (.long u2), .second, .val (.long u3), .second, .val (.long tt), .second, .val (.int sel), .val (.long v0), .second, .val (.long v1), .second, .val (.long v2), .second, .val (.long v3), .second, .val (.ref b5), .val (.ref b14), .val (.int eA), .val (.int eB), .val (.int (own_all u0 u1 u2 u3 v0 v1 v2 v3)), .val (.int (own_all v0 v1 v2 v3 u0 u1 u2 u3)), .unset] [(.int (2 : Int32)), (.ref b5)])) t
        exact k
      obtain ⟨cl31, Ar31, q31, S31, M31, H31, G31⟩ := id f26
      refine own_st (T' := T28) (g' := (mkF m 228 #[.val (.long u0), .second, .val (.long u1), .second, .val (.long u2), .second, .val (.long u3), .second, .val (.long tt), .second, .val (.int sel), .val (.long v0), .second, .val (.long v1), .second, .val (.long v2), .second, .val (.long v3), .second, .val (.ref b5), .val (.ref b14), .val (.int eA), .val (.int eB), .val (.int (own_all u0 u1 u2 u3 v0 v1 v2 v3)), .val (.int (own_all v0 v1 v2 v3 u0 u1 u2 u3)), .unset] [(.int (3 : Int32)), (.ref b5)])) (fun t k => ?_) ?_
      · show Steps p.tables e below (T28.setTop (mkF m 218 #[.val (.long u0), .second, .val (.long u1), .second, .val (.long u2), .second, .val (.long u3), .second, .val (.long tt), .second, .val (.int sel), .val (.long v0), .second, .val (.long v1), .second, .val (.long v2), .second, .val (.long v3), .second, .val (.ref b5), .val (.ref b14), .val (.int eA), .val (.int eB), .val (.int (own_all u0 u1 u2 u3 v0 v1 v2 v3)), .val (.int (own_all v0 v1 v2 v3 u0 u1 u2 u3)), .unset] [(.int (2 : Int32)), (.ref b5)])) t
        refine X28.laload hx (j := (2 : Int32)) (v := (.long u2)) (by rw [e28]; exact Ar31.1) (State.isArrayOf_alike hZ.alike Ar31.2.1) Ar31.2.2 (inb_of S31 ⟨by decide, by decide⟩) (Has.at H31 (inb_of S31 ⟨by decide, by decide⟩) rfl) (g := (mkF m 218 #[.val (.long u0), .second, .val (.long u1), .second, .val (.long u2), .second, .val (.long u3), .second, .val (.long tt), .second, .val (.int sel), .val (.long v0), .second, .val (.long v1), .second, .val (.long v2), .second, .val (.long v3), .second, .val (.ref b5), .val (.ref b14), .val (.int eA), .val (.int eB), .val (.int (own_all u0 u1 u2 u3 v0 v1 v2 v3)), .val (.int (own_all v0 v1 v2 v3 u0 u1 u2 u3)), .unset] [(.int (2 : Int32)), (.ref b5)])) rfl rfl (hb hby at_218) _ ?_
        show Steps p.tables e below (T28.setTop (mkF m 219 #[.val (.long u0), .second, .val (.long u1), .second, .val (.long u2), .second, .val (.long u3), .second, .val (.long tt), .second, .val (.int sel), .val (.long v0), .second, .val (.long v1), .second, .val (.long v2), .second, .val (.long v3), .second, .val (.ref b5), .val (.ref b14), .val (.int eA), .val (.int eB), .val (.int (own_all u0 u1 u2 u3 v0 v1 v2 v3)), .val (.int (own_all v0 v1 v2 v3 u0 u1 u2 u3)), .unset] [(.long u2)])) t
        refine XS.lload X28.here hx rfl (hb hby at_219) rfl ?_
        show Steps p.tables e below (T28.setTop (mkF m 221 #[.val (.long u0), .second, .val (.long u1), .second, .val (.long u2), .second, .val (.long u3), .second, .val (.long tt), .second, .val (.int sel), .val (.long v0), .second, .val (.long v1), .second, .val (.long v2), .second, .val (.long v3), .second, .val (.ref b5), .val (.ref b14), .val (.int eA), .val (.int eB), .val (.int (own_all u0 u1 u2 u3 v0 v1 v2 v3)), .val (.int (own_all v0 v1 v2 v3 u0 u1 u2 u3)), .unset] [(.long u2), (.long u2)])) t
        refine XS.lcmp X28.here hx rfl (hb hby at_221) rfl ?_
        show Steps p.tables e below (T28.setTop (mkF m 222 #[.val (.long u0), .second, .val (.long u1), .second, .val (.long u2), .second, .val (.long u3), .second, .val (.long tt), .second, .val (.int sel), .val (.long v0), .second, .val (.long v1), .second, .val (.long v2), .second, .val (.long v3), .second, .val (.ref b5), .val (.ref b14), .val (.int eA), .val (.int eB), .val (.int (own_all u0 u1 u2 u3 v0 v1 v2 v3)), .val (.int (own_all v0 v1 v2 v3 u0 u1 u2 u3)), .unset] [(.int (lcmpW u2 u2))])) t
        refine XS.ifNo X28.here hx rfl (hb hby at_222) rfl ((if0 _ _).trans (teq ((lw_eq _ _).mpr (rfl : u2 = u2))).2) ?_
        show Steps p.tables e below (T28.setTop (mkF m 225 #[.val (.long u0), .second, .val (.long u1), .second, .val (.long u2), .second, .val (.long u3), .second, .val (.long tt), .second, .val (.int sel), .val (.long v0), .second, .val (.long v1), .second, .val (.long v2), .second, .val (.long v3), .second, .val (.ref b5), .val (.ref b14), .val (.int eA), .val (.int eB), .val (.int (own_all u0 u1 u2 u3 v0 v1 v2 v3)), .val (.int (own_all v0 v1 v2 v3 u0 u1 u2 u3)), .unset] [])) t
        refine XS.aload X28.here hx rfl (hb hby at_225) rfl rfl ?_
        show Steps p.tables e below (T28.setTop (mkF m 227 #[.val (.long u0), .second, .val (.long u1), .second, .val (.long u2), .second, .val (.long u3), .second, .val (.long tt), .second, .val (.int sel), .val (.long v0), .second, .val (.long v1), .second, .val (.long v2), .second, .val (.long v3), .second, .val (.ref b5), .val (.ref b14), .val (.int eA), .val (.int eB), .val (.int (own_all u0 u1 u2 u3 v0 v1 v2 v3)), .val (.int (own_all v0 v1 v2 v3 u0 u1 u2 u3)), .unset] [(.ref b5)])) t
        refine XS.iconst X28.here hx rfl (hb hby at_227) ?_
        show Steps p.tables e below (T28.setTop (mkF m 228 #[.val (.long u0), .second, .val (.long u1), .second, .val (.long u2), .second, .val (.long u3), .second, .val (.long tt), .second, .val (.int sel), .val (.long v0), .second, .val (.long v1), .second, .val (.long v2), .second, .val (.long v3), .second, .val (.ref b5), .val (.ref b14), .val (.int eA), .val (.int eB), .val (.int (own_all u0 u1 u2 u3 v0 v1 v2 v3)), .val (.int (own_all v0 v1 v2 v3 u0 u1 u2 u3)), .unset] [(.int (3 : Int32)), (.ref b5)])) t
        exact k
      obtain ⟨cl32, Ar32, q32, S32, M32, H32, G32⟩ := id f26
      refine own_st (T' := T28) (g' := (mkF m 238 #[.val (.long u0), .second, .val (.long u1), .second, .val (.long u2), .second, .val (.long u3), .second, .val (.long tt), .second, .val (.int sel), .val (.long v0), .second, .val (.long v1), .second, .val (.long v2), .second, .val (.long v3), .second, .val (.ref b5), .val (.ref b14), .val (.int eA), .val (.int eB), .val (.int (own_all u0 u1 u2 u3 v0 v1 v2 v3)), .val (.int (own_all v0 v1 v2 v3 u0 u1 u2 u3)), .unset] [(.int (0 : Int32)), (.ref b14)])) (fun t k => ?_) ?_
      · show Steps p.tables e below (T28.setTop (mkF m 228 #[.val (.long u0), .second, .val (.long u1), .second, .val (.long u2), .second, .val (.long u3), .second, .val (.long tt), .second, .val (.int sel), .val (.long v0), .second, .val (.long v1), .second, .val (.long v2), .second, .val (.long v3), .second, .val (.ref b5), .val (.ref b14), .val (.int eA), .val (.int eB), .val (.int (own_all u0 u1 u2 u3 v0 v1 v2 v3)), .val (.int (own_all v0 v1 v2 v3 u0 u1 u2 u3)), .unset] [(.int (3 : Int32)), (.ref b5)])) t
        refine X28.laload hx (j := (3 : Int32)) (v := (.long u3)) (by rw [e28]; exact Ar32.1) (State.isArrayOf_alike hZ.alike Ar32.2.1) Ar32.2.2 (inb_of S32 ⟨by decide, by decide⟩) (Has.at H32 (inb_of S32 ⟨by decide, by decide⟩) rfl) (g := (mkF m 228 #[.val (.long u0), .second, .val (.long u1), .second, .val (.long u2), .second, .val (.long u3), .second, .val (.long tt), .second, .val (.int sel), .val (.long v0), .second, .val (.long v1), .second, .val (.long v2), .second, .val (.long v3), .second, .val (.ref b5), .val (.ref b14), .val (.int eA), .val (.int eB), .val (.int (own_all u0 u1 u2 u3 v0 v1 v2 v3)), .val (.int (own_all v0 v1 v2 v3 u0 u1 u2 u3)), .unset] [(.int (3 : Int32)), (.ref b5)])) rfl rfl (hb hby at_228) _ ?_
        show Steps p.tables e below (T28.setTop (mkF m 229 #[.val (.long u0), .second, .val (.long u1), .second, .val (.long u2), .second, .val (.long u3), .second, .val (.long tt), .second, .val (.int sel), .val (.long v0), .second, .val (.long v1), .second, .val (.long v2), .second, .val (.long v3), .second, .val (.ref b5), .val (.ref b14), .val (.int eA), .val (.int eB), .val (.int (own_all u0 u1 u2 u3 v0 v1 v2 v3)), .val (.int (own_all v0 v1 v2 v3 u0 u1 u2 u3)), .unset] [(.long u3)])) t
        refine XS.lload X28.here hx rfl (hb hby at_229) rfl ?_
        show Steps p.tables e below (T28.setTop (mkF m 231 #[.val (.long u0), .second, .val (.long u1), .second, .val (.long u2), .second, .val (.long u3), .second, .val (.long tt), .second, .val (.int sel), .val (.long v0), .second, .val (.long v1), .second, .val (.long v2), .second, .val (.long v3), .second, .val (.ref b5), .val (.ref b14), .val (.int eA), .val (.int eB), .val (.int (own_all u0 u1 u2 u3 v0 v1 v2 v3)), .val (.int (own_all v0 v1 v2 v3 u0 u1 u2 u3)), .unset] [(.long u3), (.long u3)])) t
        refine XS.lcmp X28.here hx rfl (hb hby at_231) rfl ?_
        show Steps p.tables e below (T28.setTop (mkF m 232 #[.val (.long u0), .second, .val (.long u1), .second, .val (.long u2), .second, .val (.long u3), .second, .val (.long tt), .second, .val (.int sel), .val (.long v0), .second, .val (.long v1), .second, .val (.long v2), .second, .val (.long v3), .second, .val (.ref b5), .val (.ref b14), .val (.int eA), .val (.int eB), .val (.int (own_all u0 u1 u2 u3 v0 v1 v2 v3)), .val (.int (own_all v0 v1 v2 v3 u0 u1 u2 u3)), .unset] [(.int (lcmpW u3 u3))])) t
        refine XS.ifNo X28.here hx rfl (hb hby at_232) rfl ((if0 _ _).trans (teq ((lw_eq _ _).mpr (rfl : u3 = u3))).2) ?_
        show Steps p.tables e below (T28.setTop (mkF m 235 #[.val (.long u0), .second, .val (.long u1), .second, .val (.long u2), .second, .val (.long u3), .second, .val (.long tt), .second, .val (.int sel), .val (.long v0), .second, .val (.long v1), .second, .val (.long v2), .second, .val (.long v3), .second, .val (.ref b5), .val (.ref b14), .val (.int eA), .val (.int eB), .val (.int (own_all u0 u1 u2 u3 v0 v1 v2 v3)), .val (.int (own_all v0 v1 v2 v3 u0 u1 u2 u3)), .unset] [])) t
        refine XS.aload X28.here hx rfl (hb hby at_235) rfl rfl ?_
        show Steps p.tables e below (T28.setTop (mkF m 237 #[.val (.long u0), .second, .val (.long u1), .second, .val (.long u2), .second, .val (.long u3), .second, .val (.long tt), .second, .val (.int sel), .val (.long v0), .second, .val (.long v1), .second, .val (.long v2), .second, .val (.long v3), .second, .val (.ref b5), .val (.ref b14), .val (.int eA), .val (.int eB), .val (.int (own_all u0 u1 u2 u3 v0 v1 v2 v3)), .val (.int (own_all v0 v1 v2 v3 u0 u1 u2 u3)), .unset] [(.ref b14)])) t
        refine XS.iconst X28.here hx rfl (hb hby at_237) ?_
        show Steps p.tables e below (T28.setTop (mkF m 238 #[.val (.long u0), .second, .val (.long u1), .second, .val (.long u2), .second, .val (.long u3), .second, .val (.long tt), .second, .val (.int sel), .val (.long v0), .second, .val (.long v1), .second, .val (.long v2), .second, .val (.long v3), .second, .val (.ref b5), .val (.ref b14), .val (.int eA), .val (.int eB), .val (.int (own_all u0 u1 u2 u3 v0 v1 v2 v3)), .val (.int (own_all v0 v1 v2 v3 u0 u1 u2 u3)), .unset] [(.int (0 : Int32)), (.ref b14)])) t
        exact k
      obtain ⟨cl33, Ar33, q33, S33, M33, H33, G33⟩ := id fw22
      refine own_st (T' := T28) (g' := (mkF m 248 #[.val (.long u0), .second, .val (.long u1), .second, .val (.long u2), .second, .val (.long u3), .second, .val (.long tt), .second, .val (.int sel), .val (.long v0), .second, .val (.long v1), .second, .val (.long v2), .second, .val (.long v3), .second, .val (.ref b5), .val (.ref b14), .val (.int eA), .val (.int eB), .val (.int (own_all u0 u1 u2 u3 v0 v1 v2 v3)), .val (.int (own_all v0 v1 v2 v3 u0 u1 u2 u3)), .unset] [(.int (1 : Int32)), (.ref b14)])) (fun t k => ?_) ?_
      · show Steps p.tables e below (T28.setTop (mkF m 238 #[.val (.long u0), .second, .val (.long u1), .second, .val (.long u2), .second, .val (.long u3), .second, .val (.long tt), .second, .val (.int sel), .val (.long v0), .second, .val (.long v1), .second, .val (.long v2), .second, .val (.long v3), .second, .val (.ref b5), .val (.ref b14), .val (.int eA), .val (.int eB), .val (.int (own_all u0 u1 u2 u3 v0 v1 v2 v3)), .val (.int (own_all v0 v1 v2 v3 u0 u1 u2 u3)), .unset] [(.int (0 : Int32)), (.ref b14)])) t
        refine X28.laload hx (j := (0 : Int32)) (v := (.long v0)) (by rw [e28]; exact Ar33.1) (State.isArrayOf_alike hZ.alike Ar33.2.1) Ar33.2.2 (inb_of S33 ⟨by decide, by decide⟩) (Has.at H33 (inb_of S33 ⟨by decide, by decide⟩) rfl) (g := (mkF m 238 #[.val (.long u0), .second, .val (.long u1), .second, .val (.long u2), .second, .val (.long u3), .second, .val (.long tt), .second, .val (.int sel), .val (.long v0), .second, .val (.long v1), .second, .val (.long v2), .second, .val (.long v3), .second, .val (.ref b5), .val (.ref b14), .val (.int eA), .val (.int eB), .val (.int (own_all u0 u1 u2 u3 v0 v1 v2 v3)), .val (.int (own_all v0 v1 v2 v3 u0 u1 u2 u3)), .unset] [(.int (0 : Int32)), (.ref b14)])) rfl rfl (hb hby at_238) _ ?_
        show Steps p.tables e below (T28.setTop (mkF m 239 #[.val (.long u0), .second, .val (.long u1), .second, .val (.long u2), .second, .val (.long u3), .second, .val (.long tt), .second, .val (.int sel), .val (.long v0), .second, .val (.long v1), .second, .val (.long v2), .second, .val (.long v3), .second, .val (.ref b5), .val (.ref b14), .val (.int eA), .val (.int eB), .val (.int (own_all u0 u1 u2 u3 v0 v1 v2 v3)), .val (.int (own_all v0 v1 v2 v3 u0 u1 u2 u3)), .unset] [(.long v0)])) t
        refine XS.lload X28.here hx rfl (hb hby at_239) rfl ?_
        show Steps p.tables e below (T28.setTop (mkF m 241 #[.val (.long u0), .second, .val (.long u1), .second, .val (.long u2), .second, .val (.long u3), .second, .val (.long tt), .second, .val (.int sel), .val (.long v0), .second, .val (.long v1), .second, .val (.long v2), .second, .val (.long v3), .second, .val (.ref b5), .val (.ref b14), .val (.int eA), .val (.int eB), .val (.int (own_all u0 u1 u2 u3 v0 v1 v2 v3)), .val (.int (own_all v0 v1 v2 v3 u0 u1 u2 u3)), .unset] [(.long v0), (.long v0)])) t
        refine XS.lcmp X28.here hx rfl (hb hby at_241) rfl ?_
        show Steps p.tables e below (T28.setTop (mkF m 242 #[.val (.long u0), .second, .val (.long u1), .second, .val (.long u2), .second, .val (.long u3), .second, .val (.long tt), .second, .val (.int sel), .val (.long v0), .second, .val (.long v1), .second, .val (.long v2), .second, .val (.long v3), .second, .val (.ref b5), .val (.ref b14), .val (.int eA), .val (.int eB), .val (.int (own_all u0 u1 u2 u3 v0 v1 v2 v3)), .val (.int (own_all v0 v1 v2 v3 u0 u1 u2 u3)), .unset] [(.int (lcmpW v0 v0))])) t
        refine XS.ifNo X28.here hx rfl (hb hby at_242) rfl ((if0 _ _).trans (teq ((lw_eq _ _).mpr (rfl : v0 = v0))).2) ?_
        show Steps p.tables e below (T28.setTop (mkF m 245 #[.val (.long u0), .second, .val (.long u1), .second, .val (.long u2), .second, .val (.long u3), .second, .val (.long tt), .second, .val (.int sel), .val (.long v0), .second, .val (.long v1), .second, .val (.long v2), .second, .val (.long v3), .second, .val (.ref b5), .val (.ref b14), .val (.int eA), .val (.int eB), .val (.int (own_all u0 u1 u2 u3 v0 v1 v2 v3)), .val (.int (own_all v0 v1 v2 v3 u0 u1 u2 u3)), .unset] [])) t
        refine XS.aload X28.here hx rfl (hb hby at_245) rfl rfl ?_
        show Steps p.tables e below (T28.setTop (mkF m 247 #[.val (.long u0), .second, .val (.long u1), .second, .val (.long u2), .second, .val (.long u3), .second, .val (.long tt), .second, .val (.int sel), .val (.long v0), .second, .val (.long v1), .second, .val (.long v2), .second, .val (.long v3), .second, .val (.ref b5), .val (.ref b14), .val (.int eA), .val (.int eB), .val (.int (own_all u0 u1 u2 u3 v0 v1 v2 v3)), .val (.int (own_all v0 v1 v2 v3 u0 u1 u2 u3)), .unset] [(.ref b14)])) t
        refine XS.iconst X28.here hx rfl (hb hby at_247) ?_
        show Steps p.tables e below (T28.setTop (mkF m 248 #[.val (.long u0), .second, .val (.long u1), .second, .val (.long u2), .second, .val (.long u3), .second, .val (.long tt), .second, .val (.int sel), .val (.long v0), .second, .val (.long v1), .second, .val (.long v2), .second, .val (.long v3), .second, .val (.ref b5), .val (.ref b14), .val (.int eA), .val (.int eB), .val (.int (own_all u0 u1 u2 u3 v0 v1 v2 v3)), .val (.int (own_all v0 v1 v2 v3 u0 u1 u2 u3)), .unset] [(.int (1 : Int32)), (.ref b14)])) t
        exact k
      obtain ⟨cl34, Ar34, q34, S34, M34, H34, G34⟩ := id fw22
      refine own_st (T' := T28) (g' := (mkF m 258 #[.val (.long u0), .second, .val (.long u1), .second, .val (.long u2), .second, .val (.long u3), .second, .val (.long tt), .second, .val (.int sel), .val (.long v0), .second, .val (.long v1), .second, .val (.long v2), .second, .val (.long v3), .second, .val (.ref b5), .val (.ref b14), .val (.int eA), .val (.int eB), .val (.int (own_all u0 u1 u2 u3 v0 v1 v2 v3)), .val (.int (own_all v0 v1 v2 v3 u0 u1 u2 u3)), .unset] [(.int (2 : Int32)), (.ref b14)])) (fun t k => ?_) ?_
      · show Steps p.tables e below (T28.setTop (mkF m 248 #[.val (.long u0), .second, .val (.long u1), .second, .val (.long u2), .second, .val (.long u3), .second, .val (.long tt), .second, .val (.int sel), .val (.long v0), .second, .val (.long v1), .second, .val (.long v2), .second, .val (.long v3), .second, .val (.ref b5), .val (.ref b14), .val (.int eA), .val (.int eB), .val (.int (own_all u0 u1 u2 u3 v0 v1 v2 v3)), .val (.int (own_all v0 v1 v2 v3 u0 u1 u2 u3)), .unset] [(.int (1 : Int32)), (.ref b14)])) t
        refine X28.laload hx (j := (1 : Int32)) (v := (.long v1)) (by rw [e28]; exact Ar34.1) (State.isArrayOf_alike hZ.alike Ar34.2.1) Ar34.2.2 (inb_of S34 ⟨by decide, by decide⟩) (Has.at H34 (inb_of S34 ⟨by decide, by decide⟩) rfl) (g := (mkF m 248 #[.val (.long u0), .second, .val (.long u1), .second, .val (.long u2), .second, .val (.long u3), .second, .val (.long tt), .second, .val (.int sel), .val (.long v0), .second, .val (.long v1), .second, .val (.long v2), .second, .val (.long v3), .second, .val (.ref b5), .val (.ref b14), .val (.int eA), .val (.int eB), .val (.int (own_all u0 u1 u2 u3 v0 v1 v2 v3)), .val (.int (own_all v0 v1 v2 v3 u0 u1 u2 u3)), .unset] [(.int (1 : Int32)), (.ref b14)])) rfl rfl (hb hby at_248) _ ?_
        show Steps p.tables e below (T28.setTop (mkF m 249 #[.val (.long u0), .second, .val (.long u1), .second, .val (.long u2), .second, .val (.long u3), .second, .val (.long tt), .second, .val (.int sel), .val (.long v0), .second, .val (.long v1), .second, .val (.long v2), .second, .val (.long v3), .second, .val (.ref b5), .val (.ref b14), .val (.int eA), .val (.int eB), .val (.int (own_all u0 u1 u2 u3 v0 v1 v2 v3)), .val (.int (own_all v0 v1 v2 v3 u0 u1 u2 u3)), .unset] [(.long v1)])) t
        refine XS.lload X28.here hx rfl (hb hby at_249) rfl ?_
        show Steps p.tables e below (T28.setTop (mkF m 251 #[.val (.long u0), .second, .val (.long u1), .second, .val (.long u2), .second, .val (.long u3), .second, .val (.long tt), .second, .val (.int sel), .val (.long v0), .second, .val (.long v1), .second, .val (.long v2), .second, .val (.long v3), .second, .val (.ref b5), .val (.ref b14), .val (.int eA), .val (.int eB), .val (.int (own_all u0 u1 u2 u3 v0 v1 v2 v3)), .val (.int (own_all v0 v1 v2 v3 u0 u1 u2 u3)), .unset] [(.long v1), (.long v1)])) t
        refine XS.lcmp X28.here hx rfl (hb hby at_251) rfl ?_
        show Steps p.tables e below (T28.setTop (mkF m 252 #[.val (.long u0), .second, .val (.long u1), .second, .val (.long u2), .second, .val (.long u3), .second, .val (.long tt), .second, .val (.int sel), .val (.long v0), .second, .val (.long v1), .second, .val (.long v2), .second, .val (.long v3), .second, .val (.ref b5), .val (.ref b14), .val (.int eA), .val (.int eB), .val (.int (own_all u0 u1 u2 u3 v0 v1 v2 v3)), .val (.int (own_all v0 v1 v2 v3 u0 u1 u2 u3)), .unset] [(.int (lcmpW v1 v1))])) t
        refine XS.ifNo X28.here hx rfl (hb hby at_252) rfl ((if0 _ _).trans (teq ((lw_eq _ _).mpr (rfl : v1 = v1))).2) ?_
        show Steps p.tables e below (T28.setTop (mkF m 255 #[.val (.long u0), .second, .val (.long u1), .second, .val (.long u2), .second, .val (.long u3), .second, .val (.long tt), .second, .val (.int sel), .val (.long v0), .second, .val (.long v1), .second, .val (.long v2), .second, .val (.long v3), .second, .val (.ref b5), .val (.ref b14), .val (.int eA), .val (.int eB), .val (.int (own_all u0 u1 u2 u3 v0 v1 v2 v3)), .val (.int (own_all v0 v1 v2 v3 u0 u1 u2 u3)), .unset] [])) t
        refine XS.aload X28.here hx rfl (hb hby at_255) rfl rfl ?_
        show Steps p.tables e below (T28.setTop (mkF m 257 #[.val (.long u0), .second, .val (.long u1), .second, .val (.long u2), .second, .val (.long u3), .second, .val (.long tt), .second, .val (.int sel), .val (.long v0), .second, .val (.long v1), .second, .val (.long v2), .second, .val (.long v3), .second, .val (.ref b5), .val (.ref b14), .val (.int eA), .val (.int eB), .val (.int (own_all u0 u1 u2 u3 v0 v1 v2 v3)), .val (.int (own_all v0 v1 v2 v3 u0 u1 u2 u3)), .unset] [(.ref b14)])) t
        refine XS.iconst X28.here hx rfl (hb hby at_257) ?_
        show Steps p.tables e below (T28.setTop (mkF m 258 #[.val (.long u0), .second, .val (.long u1), .second, .val (.long u2), .second, .val (.long u3), .second, .val (.long tt), .second, .val (.int sel), .val (.long v0), .second, .val (.long v1), .second, .val (.long v2), .second, .val (.long v3), .second, .val (.ref b5), .val (.ref b14), .val (.int eA), .val (.int eB), .val (.int (own_all u0 u1 u2 u3 v0 v1 v2 v3)), .val (.int (own_all v0 v1 v2 v3 u0 u1 u2 u3)), .unset] [(.int (2 : Int32)), (.ref b14)])) t
        exact k
      obtain ⟨cl35, Ar35, q35, S35, M35, H35, G35⟩ := id fw22
      refine own_st (T' := T28) (g' := (mkF m 268 #[.val (.long u0), .second, .val (.long u1), .second, .val (.long u2), .second, .val (.long u3), .second, .val (.long tt), .second, .val (.int sel), .val (.long v0), .second, .val (.long v1), .second, .val (.long v2), .second, .val (.long v3), .second, .val (.ref b5), .val (.ref b14), .val (.int eA), .val (.int eB), .val (.int (own_all u0 u1 u2 u3 v0 v1 v2 v3)), .val (.int (own_all v0 v1 v2 v3 u0 u1 u2 u3)), .unset] [(.int (3 : Int32)), (.ref b14)])) (fun t k => ?_) ?_
      · show Steps p.tables e below (T28.setTop (mkF m 258 #[.val (.long u0), .second, .val (.long u1), .second, .val (.long u2), .second, .val (.long u3), .second, .val (.long tt), .second, .val (.int sel), .val (.long v0), .second, .val (.long v1), .second, .val (.long v2), .second, .val (.long v3), .second, .val (.ref b5), .val (.ref b14), .val (.int eA), .val (.int eB), .val (.int (own_all u0 u1 u2 u3 v0 v1 v2 v3)), .val (.int (own_all v0 v1 v2 v3 u0 u1 u2 u3)), .unset] [(.int (2 : Int32)), (.ref b14)])) t
        refine X28.laload hx (j := (2 : Int32)) (v := (.long v2)) (by rw [e28]; exact Ar35.1) (State.isArrayOf_alike hZ.alike Ar35.2.1) Ar35.2.2 (inb_of S35 ⟨by decide, by decide⟩) (Has.at H35 (inb_of S35 ⟨by decide, by decide⟩) rfl) (g := (mkF m 258 #[.val (.long u0), .second, .val (.long u1), .second, .val (.long u2), .second, .val (.long u3), .second, .val (.long tt), .second, .val (.int sel), .val (.long v0), .second, .val (.long v1), .second, .val (.long v2), .second, .val (.long v3), .second, .val (.ref b5), .val (.ref b14), .val (.int eA), .val (.int eB), .val (.int (own_all u0 u1 u2 u3 v0 v1 v2 v3)), .val (.int (own_all v0 v1 v2 v3 u0 u1 u2 u3)), .unset] [(.int (2 : Int32)), (.ref b14)])) rfl rfl (hb hby at_258) _ ?_
        show Steps p.tables e below (T28.setTop (mkF m 259 #[.val (.long u0), .second, .val (.long u1), .second, .val (.long u2), .second, .val (.long u3), .second, .val (.long tt), .second, .val (.int sel), .val (.long v0), .second, .val (.long v1), .second, .val (.long v2), .second, .val (.long v3), .second, .val (.ref b5), .val (.ref b14), .val (.int eA), .val (.int eB), .val (.int (own_all u0 u1 u2 u3 v0 v1 v2 v3)), .val (.int (own_all v0 v1 v2 v3 u0 u1 u2 u3)), .unset] [(.long v2)])) t
        refine XS.lload X28.here hx rfl (hb hby at_259) rfl ?_
        show Steps p.tables e below (T28.setTop (mkF m 261 #[.val (.long u0), .second, .val (.long u1), .second, .val (.long u2), .second, .val (.long u3), .second, .val (.long tt), .second, .val (.int sel), .val (.long v0), .second, .val (.long v1), .second, .val (.long v2), .second, .val (.long v3), .second, .val (.ref b5), .val (.ref b14), .val (.int eA), .val (.int eB), .val (.int (own_all u0 u1 u2 u3 v0 v1 v2 v3)), .val (.int (own_all v0 v1 v2 v3 u0 u1 u2 u3)), .unset] [(.long v2), (.long v2)])) t
        refine XS.lcmp X28.here hx rfl (hb hby at_261) rfl ?_
        show Steps p.tables e below (T28.setTop (mkF m 262 #[.val (.long u0), .second, .val (.long u1), .second, .val (.long u2), .second, .val (.long u3), .second, .val (.long tt), .second, .val (.int sel), .val (.long v0), .second, .val (.long v1), .second, .val (.long v2), .second, .val (.long v3), .second, .val (.ref b5), .val (.ref b14), .val (.int eA), .val (.int eB), .val (.int (own_all u0 u1 u2 u3 v0 v1 v2 v3)), .val (.int (own_all v0 v1 v2 v3 u0 u1 u2 u3)), .unset] [(.int (lcmpW v2 v2))])) t
        refine XS.ifNo X28.here hx rfl (hb hby at_262) rfl ((if0 _ _).trans (teq ((lw_eq _ _).mpr (rfl : v2 = v2))).2) ?_
        show Steps p.tables e below (T28.setTop (mkF m 265 #[.val (.long u0), .second, .val (.long u1), .second, .val (.long u2), .second, .val (.long u3), .second, .val (.long tt), .second, .val (.int sel), .val (.long v0), .second, .val (.long v1), .second, .val (.long v2), .second, .val (.long v3), .second, .val (.ref b5), .val (.ref b14), .val (.int eA), .val (.int eB), .val (.int (own_all u0 u1 u2 u3 v0 v1 v2 v3)), .val (.int (own_all v0 v1 v2 v3 u0 u1 u2 u3)), .unset] [])) t
        refine XS.aload X28.here hx rfl (hb hby at_265) rfl rfl ?_
        show Steps p.tables e below (T28.setTop (mkF m 267 #[.val (.long u0), .second, .val (.long u1), .second, .val (.long u2), .second, .val (.long u3), .second, .val (.long tt), .second, .val (.int sel), .val (.long v0), .second, .val (.long v1), .second, .val (.long v2), .second, .val (.long v3), .second, .val (.ref b5), .val (.ref b14), .val (.int eA), .val (.int eB), .val (.int (own_all u0 u1 u2 u3 v0 v1 v2 v3)), .val (.int (own_all v0 v1 v2 v3 u0 u1 u2 u3)), .unset] [(.ref b14)])) t
        refine XS.iconst X28.here hx rfl (hb hby at_267) ?_
        show Steps p.tables e below (T28.setTop (mkF m 268 #[.val (.long u0), .second, .val (.long u1), .second, .val (.long u2), .second, .val (.long u3), .second, .val (.long tt), .second, .val (.int sel), .val (.long v0), .second, .val (.long v1), .second, .val (.long v2), .second, .val (.long v3), .second, .val (.ref b5), .val (.ref b14), .val (.int eA), .val (.int eB), .val (.int (own_all u0 u1 u2 u3 v0 v1 v2 v3)), .val (.int (own_all v0 v1 v2 v3 u0 u1 u2 u3)), .unset] [(.int (3 : Int32)), (.ref b14)])) t
        exact k
      obtain ⟨cl36, Ar36, q36, S36, M36, H36, G36⟩ := id fw22
      refine own_st (T' := T28) (g' := (mkF m 306 #[.val (.long u0), .second, .val (.long u1), .second, .val (.long u2), .second, .val (.long u3), .second, .val (.long tt), .second, .val (.int sel), .val (.long v0), .second, .val (.long v1), .second, .val (.long v2), .second, .val (.long v3), .second, .val (.ref b5), .val (.ref b14), .val (.int eA), .val (.int eB), .val (.int (own_all u0 u1 u2 u3 v0 v1 v2 v3)), .val (.int (own_all v0 v1 v2 v3 u0 u1 u2 u3)), .val (.int (1 : Int32))] [(.int (1 : Int32))])) (fun t k => ?_) ?_
      · show Steps p.tables e below (T28.setTop (mkF m 268 #[.val (.long u0), .second, .val (.long u1), .second, .val (.long u2), .second, .val (.long u3), .second, .val (.long tt), .second, .val (.int sel), .val (.long v0), .second, .val (.long v1), .second, .val (.long v2), .second, .val (.long v3), .second, .val (.ref b5), .val (.ref b14), .val (.int eA), .val (.int eB), .val (.int (own_all u0 u1 u2 u3 v0 v1 v2 v3)), .val (.int (own_all v0 v1 v2 v3 u0 u1 u2 u3)), .unset] [(.int (3 : Int32)), (.ref b14)])) t
        refine X28.laload hx (j := (3 : Int32)) (v := (.long v3)) (by rw [e28]; exact Ar36.1) (State.isArrayOf_alike hZ.alike Ar36.2.1) Ar36.2.2 (inb_of S36 ⟨by decide, by decide⟩) (Has.at H36 (inb_of S36 ⟨by decide, by decide⟩) rfl) (g := (mkF m 268 #[.val (.long u0), .second, .val (.long u1), .second, .val (.long u2), .second, .val (.long u3), .second, .val (.long tt), .second, .val (.int sel), .val (.long v0), .second, .val (.long v1), .second, .val (.long v2), .second, .val (.long v3), .second, .val (.ref b5), .val (.ref b14), .val (.int eA), .val (.int eB), .val (.int (own_all u0 u1 u2 u3 v0 v1 v2 v3)), .val (.int (own_all v0 v1 v2 v3 u0 u1 u2 u3)), .unset] [(.int (3 : Int32)), (.ref b14)])) rfl rfl (hb hby at_268) _ ?_
        show Steps p.tables e below (T28.setTop (mkF m 269 #[.val (.long u0), .second, .val (.long u1), .second, .val (.long u2), .second, .val (.long u3), .second, .val (.long tt), .second, .val (.int sel), .val (.long v0), .second, .val (.long v1), .second, .val (.long v2), .second, .val (.long v3), .second, .val (.ref b5), .val (.ref b14), .val (.int eA), .val (.int eB), .val (.int (own_all u0 u1 u2 u3 v0 v1 v2 v3)), .val (.int (own_all v0 v1 v2 v3 u0 u1 u2 u3)), .unset] [(.long v3)])) t
        refine XS.lload X28.here hx rfl (hb hby at_269) rfl ?_
        show Steps p.tables e below (T28.setTop (mkF m 271 #[.val (.long u0), .second, .val (.long u1), .second, .val (.long u2), .second, .val (.long u3), .second, .val (.long tt), .second, .val (.int sel), .val (.long v0), .second, .val (.long v1), .second, .val (.long v2), .second, .val (.long v3), .second, .val (.ref b5), .val (.ref b14), .val (.int eA), .val (.int eB), .val (.int (own_all u0 u1 u2 u3 v0 v1 v2 v3)), .val (.int (own_all v0 v1 v2 v3 u0 u1 u2 u3)), .unset] [(.long v3), (.long v3)])) t
        refine XS.lcmp X28.here hx rfl (hb hby at_271) rfl ?_
        show Steps p.tables e below (T28.setTop (mkF m 272 #[.val (.long u0), .second, .val (.long u1), .second, .val (.long u2), .second, .val (.long u3), .second, .val (.long tt), .second, .val (.int sel), .val (.long v0), .second, .val (.long v1), .second, .val (.long v2), .second, .val (.long v3), .second, .val (.ref b5), .val (.ref b14), .val (.int eA), .val (.int eB), .val (.int (own_all u0 u1 u2 u3 v0 v1 v2 v3)), .val (.int (own_all v0 v1 v2 v3 u0 u1 u2 u3)), .unset] [(.int (lcmpW v3 v3))])) t
        refine XS.ifNo X28.here hx rfl (hb hby at_272) rfl ((if0 _ _).trans (teq ((lw_eq _ _).mpr (rfl : v3 = v3))).2) ?_
        show Steps p.tables e below (T28.setTop (mkF m 275 #[.val (.long u0), .second, .val (.long u1), .second, .val (.long u2), .second, .val (.long u3), .second, .val (.long tt), .second, .val (.int sel), .val (.long v0), .second, .val (.long v1), .second, .val (.long v2), .second, .val (.long v3), .second, .val (.ref b5), .val (.ref b14), .val (.int eA), .val (.int eB), .val (.int (own_all u0 u1 u2 u3 v0 v1 v2 v3)), .val (.int (own_all v0 v1 v2 v3 u0 u1 u2 u3)), .unset] [])) t
        refine XS.iconst X28.here hx rfl (hb hby at_275) ?_
        show Steps p.tables e below (T28.setTop (mkF m 276 #[.val (.long u0), .second, .val (.long u1), .second, .val (.long u2), .second, .val (.long u3), .second, .val (.long tt), .second, .val (.int sel), .val (.long v0), .second, .val (.long v1), .second, .val (.long v2), .second, .val (.long v3), .second, .val (.ref b5), .val (.ref b14), .val (.int eA), .val (.int eB), .val (.int (own_all u0 u1 u2 u3 v0 v1 v2 v3)), .val (.int (own_all v0 v1 v2 v3 u0 u1 u2 u3)), .unset] [(.int (1 : Int32))])) t
        refine XS.goto X28.here hx rfl (pc0 := 276) (pc' := 280) rfl (hb hby at_276) (by decide) (by decide) ?_
        show Steps p.tables e below (T28.setTop (mkF m 280 #[.val (.long u0), .second, .val (.long u1), .second, .val (.long u2), .second, .val (.long u3), .second, .val (.long tt), .second, .val (.int sel), .val (.long v0), .second, .val (.long v1), .second, .val (.long v2), .second, .val (.long v3), .second, .val (.ref b5), .val (.ref b14), .val (.int eA), .val (.int eB), .val (.int (own_all u0 u1 u2 u3 v0 v1 v2 v3)), .val (.int (own_all v0 v1 v2 v3 u0 u1 u2 u3)), .unset] [(.int (1 : Int32))])) t
        refine XS.istore X28.here hx rfl (hb hby at_280) rfl (l' := #[.val (.long u0), .second, .val (.long u1), .second, .val (.long u2), .second, .val (.long u3), .second, .val (.long tt), .second, .val (.int sel), .val (.long v0), .second, .val (.long v1), .second, .val (.long v2), .second, .val (.long v3), .second, .val (.ref b5), .val (.ref b14), .val (.int eA), .val (.int eB), .val (.int (own_all u0 u1 u2 u3 v0 v1 v2 v3)), .val (.int (own_all v0 v1 v2 v3 u0 u1 u2 u3)), .val (.int (1 : Int32))]) rfl ?_
        show Steps p.tables e below (T28.setTop (mkF m 282 #[.val (.long u0), .second, .val (.long u1), .second, .val (.long u2), .second, .val (.long u3), .second, .val (.long tt), .second, .val (.int sel), .val (.long v0), .second, .val (.long v1), .second, .val (.long v2), .second, .val (.long v3), .second, .val (.ref b5), .val (.ref b14), .val (.int eA), .val (.int eB), .val (.int (own_all u0 u1 u2 u3 v0 v1 v2 v3)), .val (.int (own_all v0 v1 v2 v3 u0 u1 u2 u3)), .val (.int (1 : Int32))] [])) t
        refine XS.iload X28.here hx rfl (hb hby at_282) rfl ?_
        show Steps p.tables e below (T28.setTop (mkF m 284 #[.val (.long u0), .second, .val (.long u1), .second, .val (.long u2), .second, .val (.long u3), .second, .val (.long tt), .second, .val (.int sel), .val (.long v0), .second, .val (.long v1), .second, .val (.long v2), .second, .val (.long v3), .second, .val (.ref b5), .val (.ref b14), .val (.int eA), .val (.int eB), .val (.int (own_all u0 u1 u2 u3 v0 v1 v2 v3)), .val (.int (own_all v0 v1 v2 v3 u0 u1 u2 u3)), .val (.int (1 : Int32))] [(.int (own_all u0 u1 u2 u3 v0 v1 v2 v3))])) t
        refine XS.iload X28.here hx rfl (hb hby at_284) rfl ?_
        show Steps p.tables e below (T28.setTop (mkF m 286 #[.val (.long u0), .second, .val (.long u1), .second, .val (.long u2), .second, .val (.long u3), .second, .val (.long tt), .second, .val (.int sel), .val (.long v0), .second, .val (.long v1), .second, .val (.long v2), .second, .val (.long v3), .second, .val (.ref b5), .val (.ref b14), .val (.int eA), .val (.int eB), .val (.int (own_all u0 u1 u2 u3 v0 v1 v2 v3)), .val (.int (own_all v0 v1 v2 v3 u0 u1 u2 u3)), .val (.int (1 : Int32))] [(.int eA), (.int (own_all u0 u1 u2 u3 v0 v1 v2 v3))])) t
        refine XS.icmpNo X28.here hx rfl (hb hby at_286) rfl (teq hA.symm).2 ?_
        show Steps p.tables e below (T28.setTop (mkF m 289 #[.val (.long u0), .second, .val (.long u1), .second, .val (.long u2), .second, .val (.long u3), .second, .val (.long tt), .second, .val (.int sel), .val (.long v0), .second, .val (.long v1), .second, .val (.long v2), .second, .val (.long v3), .second, .val (.ref b5), .val (.ref b14), .val (.int eA), .val (.int eB), .val (.int (own_all u0 u1 u2 u3 v0 v1 v2 v3)), .val (.int (own_all v0 v1 v2 v3 u0 u1 u2 u3)), .val (.int (1 : Int32))] [])) t
        refine XS.iload X28.here hx rfl (hb hby at_289) rfl ?_
        show Steps p.tables e below (T28.setTop (mkF m 291 #[.val (.long u0), .second, .val (.long u1), .second, .val (.long u2), .second, .val (.long u3), .second, .val (.long tt), .second, .val (.int sel), .val (.long v0), .second, .val (.long v1), .second, .val (.long v2), .second, .val (.long v3), .second, .val (.ref b5), .val (.ref b14), .val (.int eA), .val (.int eB), .val (.int (own_all u0 u1 u2 u3 v0 v1 v2 v3)), .val (.int (own_all v0 v1 v2 v3 u0 u1 u2 u3)), .val (.int (1 : Int32))] [(.int (own_all v0 v1 v2 v3 u0 u1 u2 u3))])) t
        refine XS.iload X28.here hx rfl (hb hby at_291) rfl ?_
        show Steps p.tables e below (T28.setTop (mkF m 293 #[.val (.long u0), .second, .val (.long u1), .second, .val (.long u2), .second, .val (.long u3), .second, .val (.long tt), .second, .val (.int sel), .val (.long v0), .second, .val (.long v1), .second, .val (.long v2), .second, .val (.long v3), .second, .val (.ref b5), .val (.ref b14), .val (.int eA), .val (.int eB), .val (.int (own_all u0 u1 u2 u3 v0 v1 v2 v3)), .val (.int (own_all v0 v1 v2 v3 u0 u1 u2 u3)), .val (.int (1 : Int32))] [(.int eB), (.int (own_all v0 v1 v2 v3 u0 u1 u2 u3))])) t
        refine XS.icmpNo X28.here hx rfl (hb hby at_293) rfl (teq hB.symm).2 ?_
        show Steps p.tables e below (T28.setTop (mkF m 296 #[.val (.long u0), .second, .val (.long u1), .second, .val (.long u2), .second, .val (.long u3), .second, .val (.long tt), .second, .val (.int sel), .val (.long v0), .second, .val (.long v1), .second, .val (.long v2), .second, .val (.long v3), .second, .val (.ref b5), .val (.ref b14), .val (.int eA), .val (.int eB), .val (.int (own_all u0 u1 u2 u3 v0 v1 v2 v3)), .val (.int (own_all v0 v1 v2 v3 u0 u1 u2 u3)), .val (.int (1 : Int32))] [])) t
        refine XS.iload X28.here hx rfl (hb hby at_296) rfl ?_
        show Steps p.tables e below (T28.setTop (mkF m 298 #[.val (.long u0), .second, .val (.long u1), .second, .val (.long u2), .second, .val (.long u3), .second, .val (.long tt), .second, .val (.int sel), .val (.long v0), .second, .val (.long v1), .second, .val (.long v2), .second, .val (.long v3), .second, .val (.ref b5), .val (.ref b14), .val (.int eA), .val (.int eB), .val (.int (own_all u0 u1 u2 u3 v0 v1 v2 v3)), .val (.int (own_all v0 v1 v2 v3 u0 u1 u2 u3)), .val (.int (1 : Int32))] [(.int (1 : Int32))])) t
        refine XS.ifNo X28.here hx rfl (hb hby at_298) rfl ((if0 _ _).trans (feq (by decide : ¬ ((1 : Int32) = (0 : Int32)))).1) ?_
        show Steps p.tables e below (T28.setTop (mkF m 301 #[.val (.long u0), .second, .val (.long u1), .second, .val (.long u2), .second, .val (.long u3), .second, .val (.long tt), .second, .val (.int sel), .val (.long v0), .second, .val (.long v1), .second, .val (.long v2), .second, .val (.long v3), .second, .val (.ref b5), .val (.ref b14), .val (.int eA), .val (.int eB), .val (.int (own_all u0 u1 u2 u3 v0 v1 v2 v3)), .val (.int (own_all v0 v1 v2 v3 u0 u1 u2 u3)), .val (.int (1 : Int32))] [])) t
        refine XS.iconst X28.here hx rfl (hb hby at_301) ?_
        show Steps p.tables e below (T28.setTop (mkF m 302 #[.val (.long u0), .second, .val (.long u1), .second, .val (.long u2), .second, .val (.long u3), .second, .val (.long tt), .second, .val (.int sel), .val (.long v0), .second, .val (.long v1), .second, .val (.long v2), .second, .val (.long v3), .second, .val (.ref b5), .val (.ref b14), .val (.int eA), .val (.int eB), .val (.int (own_all u0 u1 u2 u3 v0 v1 v2 v3)), .val (.int (own_all v0 v1 v2 v3 u0 u1 u2 u3)), .val (.int (1 : Int32))] [(.int (1 : Int32))])) t
        refine XS.goto X28.here hx rfl (pc0 := 302) (pc' := 306) rfl (hb hby at_302) (by decide) (by decide) ?_
        show Steps p.tables e below (T28.setTop (mkF m 306 #[.val (.long u0), .second, .val (.long u1), .second, .val (.long u2), .second, .val (.long u3), .second, .val (.long tt), .second, .val (.int sel), .val (.long v0), .second, .val (.long v1), .second, .val (.long v2), .second, .val (.long v3), .second, .val (.ref b5), .val (.ref b14), .val (.int eA), .val (.int eB), .val (.int (own_all u0 u1 u2 u3 v0 v1 v2 v3)), .val (.int (own_all v0 v1 v2 v3 u0 u1 u2 u3)), .val (.int (1 : Int32))] [(.int (1 : Int32))])) t
        exact k
      exact own_retN X28 hx Bd (t := .boolean) (by simp) rfl (hb hby at_306) e28 (⟨rfl, N28⟩) (by decide) (by decide)
    by_cases hc37 : u0 < v0
    · refine own_st (T' := T23) (g' := (mkF m 177 #[.val (.long u0), .second, .val (.long u1), .second, .val (.long u2), .second, .val (.long u3), .second, .val (.long tt), .second, .val (.int sel), .val (.long v0), .second, .val (.long v1), .second, .val (.long v2), .second, .val (.long v3), .second, .val (.ref b5), .val (.ref b14), .val (.int eA), .unset, .unset, .unset, .unset] [(.int (0 : Int32))])) (fun t k => ?_) ?_
      · show Steps p.tables e below (T23.setTop (mkF m 146 #[.val (.long u0), .second, .val (.long u1), .second, .val (.long u2), .second, .val (.long u3), .second, .val (.long tt), .second, .val (.int sel), .val (.long v0), .second, .val (.long v1), .second, .val (.long v2), .second, .val (.long v3), .second, .val (.ref b5), .val (.ref b14), .val (.int eA), .unset, .unset, .unset, .unset] [(.int (lcmpW v0 u0))])) t
        refine XS.ifYes X23.here hx rfl (pc0 := 146) (pc' := 176) rfl (hb hby at_146) rfl ((if0 _ _).trans (tlt ((lw_gt _ _).mpr hc37)).2.2.1) (by decide) (by decide) ?_
        show Steps p.tables e below (T23.setTop (mkF m 176 #[.val (.long u0), .second, .val (.long u1), .second, .val (.long u2), .second, .val (.long u3), .second, .val (.long tt), .second, .val (.int sel), .val (.long v0), .second, .val (.long v1), .second, .val (.long v2), .second, .val (.long v3), .second, .val (.ref b5), .val (.ref b14), .val (.int eA), .unset, .unset, .unset, .unset] [])) t
        refine XS.iconst X23.here hx rfl (hb hby at_176) ?_
        show Steps p.tables e below (T23.setTop (mkF m 177 #[.val (.long u0), .second, .val (.long u1), .second, .val (.long u2), .second, .val (.long u3), .second, .val (.long tt), .second, .val (.int sel), .val (.long v0), .second, .val (.long v1), .second, .val (.long v2), .second, .val (.long v3), .second, .val (.ref b5), .val (.ref b14), .val (.int eA), .unset, .unset, .unset, .unset] [(.int (0 : Int32))])) t
        exact k
      exact JB _ (by simp only [own_all, hc37, if_true, if_false]) T23 _ X23 N23 e23
    · refine own_st (T' := T23) (g' := (mkF m 153 #[.val (.long u0), .second, .val (.long u1), .second, .val (.long u2), .second, .val (.long u3), .second, .val (.long tt), .second, .val (.int sel), .val (.long v0), .second, .val (.long v1), .second, .val (.long v2), .second, .val (.long v3), .second, .val (.ref b5), .val (.ref b14), .val (.int eA), .unset, .unset, .unset, .unset] [(.int (lcmpW v1 u1))])) (fun t k => ?_) ?_
      · show Steps p.tables e below (T23.setTop (mkF m 146 #[.val (.long u0), .second, .val (.long u1), .second, .val (.long u2), .second, .val (.long u3), .second, .val (.long tt), .second, .val (.int sel), .val (.long v0), .second, .val (.long v1), .second, .val (.long v2), .second, .val (.long v3), .second, .val (.ref b5), .val (.ref b14), .val (.int eA), .unset, .unset, .unset, .unset] [(.int (lcmpW v0 u0))])) t
        refine XS.ifNo X23.here hx rfl (hb hby at_146) rfl ((if0 _ _).trans (flt (fun q => hc37 ((lw_gt _ _).mp q))).2.2.1) ?_
        show Steps p.tables e below (T23.setTop (mkF m 149 #[.val (.long u0), .second, .val (.long u1), .second, .val (.long u2), .second, .val (.long u3), .second, .val (.long tt), .second, .val (.int sel), .val (.long v0), .second, .val (.long v1), .second, .val (.long v2), .second, .val (.long v3), .second, .val (.ref b5), .val (.ref b14), .val (.int eA), .unset, .unset, .unset, .unset] [])) t
        refine XS.lload X23.here hx rfl (hb hby at_149) rfl ?_
        show Steps p.tables e below (T23.setTop (mkF m 151 #[.val (.long u0), .second, .val (.long u1), .second, .val (.long u2), .second, .val (.long u3), .second, .val (.long tt), .second, .val (.int sel), .val (.long v0), .second, .val (.long v1), .second, .val (.long v2), .second, .val (.long v3), .second, .val (.ref b5), .val (.ref b14), .val (.int eA), .unset, .unset, .unset, .unset] [(.long v1)])) t
        refine XS.lloadN X23.here hx rfl (hb hby at_151) rfl ?_
        show Steps p.tables e below (T23.setTop (mkF m 152 #[.val (.long u0), .second, .val (.long u1), .second, .val (.long u2), .second, .val (.long u3), .second, .val (.long tt), .second, .val (.int sel), .val (.long v0), .second, .val (.long v1), .second, .val (.long v2), .second, .val (.long v3), .second, .val (.ref b5), .val (.ref b14), .val (.int eA), .unset, .unset, .unset, .unset] [(.long u1), (.long v1)])) t
        refine XS.lcmp X23.here hx rfl (hb hby at_152) rfl ?_
        show Steps p.tables e below (T23.setTop (mkF m 153 #[.val (.long u0), .second, .val (.long u1), .second, .val (.long u2), .second, .val (.long u3), .second, .val (.long tt), .second, .val (.int sel), .val (.long v0), .second, .val (.long v1), .second, .val (.long v2), .second, .val (.long v3), .second, .val (.ref b5), .val (.ref b14), .val (.int eA), .unset, .unset, .unset, .unset] [(.int (lcmpW v1 u1))])) t
        exact k
      by_cases hc38 : u1 < v1
      · refine own_st (T' := T23) (g' := (mkF m 177 #[.val (.long u0), .second, .val (.long u1), .second, .val (.long u2), .second, .val (.long u3), .second, .val (.long tt), .second, .val (.int sel), .val (.long v0), .second, .val (.long v1), .second, .val (.long v2), .second, .val (.long v3), .second, .val (.ref b5), .val (.ref b14), .val (.int eA), .unset, .unset, .unset, .unset] [(.int (0 : Int32))])) (fun t k => ?_) ?_
        · show Steps p.tables e below (T23.setTop (mkF m 153 #[.val (.long u0), .second, .val (.long u1), .second, .val (.long u2), .second, .val (.long u3), .second, .val (.long tt), .second, .val (.int sel), .val (.long v0), .second, .val (.long v1), .second, .val (.long v2), .second, .val (.long v3), .second, .val (.ref b5), .val (.ref b14), .val (.int eA), .unset, .unset, .unset, .unset] [(.int (lcmpW v1 u1))])) t
          refine XS.ifYes X23.here hx rfl (pc0 := 153) (pc' := 176) rfl (hb hby at_153) rfl ((if0 _ _).trans (tlt ((lw_gt _ _).mpr hc38)).2.2.1) (by decide) (by decide) ?_
          show Steps p.tables e below (T23.setTop (mkF m 176 #[.val (.long u0), .second, .val (.long u1), .second, .val (.long u2), .second, .val (.long u3), .second, .val (.long tt), .second, .val (.int sel), .val (.long v0), .second, .val (.long v1), .second, .val (.long v2), .second, .val (.long v3), .second, .val (.ref b5), .val (.ref b14), .val (.int eA), .unset, .unset, .unset, .unset] [])) t
          refine XS.iconst X23.here hx rfl (hb hby at_176) ?_
          show Steps p.tables e below (T23.setTop (mkF m 177 #[.val (.long u0), .second, .val (.long u1), .second, .val (.long u2), .second, .val (.long u3), .second, .val (.long tt), .second, .val (.int sel), .val (.long v0), .second, .val (.long v1), .second, .val (.long v2), .second, .val (.long v3), .second, .val (.ref b5), .val (.ref b14), .val (.int eA), .unset, .unset, .unset, .unset] [(.int (0 : Int32))])) t
          exact k
        exact JB _ (by simp only [own_all, hc37, hc38, if_true, if_false]) T23 _ X23 N23 e23
      · refine own_st (T' := T23) (g' := (mkF m 161 #[.val (.long u0), .second, .val (.long u1), .second, .val (.long u2), .second, .val (.long u3), .second, .val (.long tt), .second, .val (.int sel), .val (.long v0), .second, .val (.long v1), .second, .val (.long v2), .second, .val (.long v3), .second, .val (.ref b5), .val (.ref b14), .val (.int eA), .unset, .unset, .unset, .unset] [(.int (lcmpW v2 u2))])) (fun t k => ?_) ?_
        · show Steps p.tables e below (T23.setTop (mkF m 153 #[.val (.long u0), .second, .val (.long u1), .second, .val (.long u2), .second, .val (.long u3), .second, .val (.long tt), .second, .val (.int sel), .val (.long v0), .second, .val (.long v1), .second, .val (.long v2), .second, .val (.long v3), .second, .val (.ref b5), .val (.ref b14), .val (.int eA), .unset, .unset, .unset, .unset] [(.int (lcmpW v1 u1))])) t
          refine XS.ifNo X23.here hx rfl (hb hby at_153) rfl ((if0 _ _).trans (flt (fun q => hc38 ((lw_gt _ _).mp q))).2.2.1) ?_
          show Steps p.tables e below (T23.setTop (mkF m 156 #[.val (.long u0), .second, .val (.long u1), .second, .val (.long u2), .second, .val (.long u3), .second, .val (.long tt), .second, .val (.int sel), .val (.long v0), .second, .val (.long v1), .second, .val (.long v2), .second, .val (.long v3), .second, .val (.ref b5), .val (.ref b14), .val (.int eA), .unset, .unset, .unset, .unset] [])) t
          refine XS.lload X23.here hx rfl (hb hby at_156) rfl ?_
          show Steps p.tables e below (T23.setTop (mkF m 158 #[.val (.long u0), .second, .val (.long u1), .second, .val (.long u2), .second, .val (.long u3), .second, .val (.long tt), .second, .val (.int sel), .val (.long v0), .second, .val (.long v1), .second, .val (.long v2), .second, .val (.long v3), .second, .val (.ref b5), .val (.ref b14), .val (.int eA), .unset, .unset, .unset, .unset] [(.long v2)])) t
          refine XS.lload X23.here hx rfl (hb hby at_158) rfl ?_
          show Steps p.tables e below (T23.setTop (mkF m 160 #[.val (.long u0), .second, .val (.long u1), .second, .val (.long u2), .second, .val (.long u3), .second, .val (.long tt), .second, .val (.int sel), .val (.long v0), .second, .val (.long v1), .second, .val (.long v2), .second, .val (.long v3), .second, .val (.ref b5), .val (.ref b14), .val (.int eA), .unset, .unset, .unset, .unset] [(.long u2), (.long v2)])) t
          refine XS.lcmp X23.here hx rfl (hb hby at_160) rfl ?_
          show Steps p.tables e below (T23.setTop (mkF m 161 #[.val (.long u0), .second, .val (.long u1), .second, .val (.long u2), .second, .val (.long u3), .second, .val (.long tt), .second, .val (.int sel), .val (.long v0), .second, .val (.long v1), .second, .val (.long v2), .second, .val (.long v3), .second, .val (.ref b5), .val (.ref b14), .val (.int eA), .unset, .unset, .unset, .unset] [(.int (lcmpW v2 u2))])) t
          exact k
        by_cases hc39 : u2 < v2
        · refine own_st (T' := T23) (g' := (mkF m 177 #[.val (.long u0), .second, .val (.long u1), .second, .val (.long u2), .second, .val (.long u3), .second, .val (.long tt), .second, .val (.int sel), .val (.long v0), .second, .val (.long v1), .second, .val (.long v2), .second, .val (.long v3), .second, .val (.ref b5), .val (.ref b14), .val (.int eA), .unset, .unset, .unset, .unset] [(.int (0 : Int32))])) (fun t k => ?_) ?_
          · show Steps p.tables e below (T23.setTop (mkF m 161 #[.val (.long u0), .second, .val (.long u1), .second, .val (.long u2), .second, .val (.long u3), .second, .val (.long tt), .second, .val (.int sel), .val (.long v0), .second, .val (.long v1), .second, .val (.long v2), .second, .val (.long v3), .second, .val (.ref b5), .val (.ref b14), .val (.int eA), .unset, .unset, .unset, .unset] [(.int (lcmpW v2 u2))])) t
            refine XS.ifYes X23.here hx rfl (pc0 := 161) (pc' := 176) rfl (hb hby at_161) rfl ((if0 _ _).trans (tlt ((lw_gt _ _).mpr hc39)).2.2.1) (by decide) (by decide) ?_
            show Steps p.tables e below (T23.setTop (mkF m 176 #[.val (.long u0), .second, .val (.long u1), .second, .val (.long u2), .second, .val (.long u3), .second, .val (.long tt), .second, .val (.int sel), .val (.long v0), .second, .val (.long v1), .second, .val (.long v2), .second, .val (.long v3), .second, .val (.ref b5), .val (.ref b14), .val (.int eA), .unset, .unset, .unset, .unset] [])) t
            refine XS.iconst X23.here hx rfl (hb hby at_176) ?_
            show Steps p.tables e below (T23.setTop (mkF m 177 #[.val (.long u0), .second, .val (.long u1), .second, .val (.long u2), .second, .val (.long u3), .second, .val (.long tt), .second, .val (.int sel), .val (.long v0), .second, .val (.long v1), .second, .val (.long v2), .second, .val (.long v3), .second, .val (.ref b5), .val (.ref b14), .val (.int eA), .unset, .unset, .unset, .unset] [(.int (0 : Int32))])) t
            exact k
          exact JB _ (by simp only [own_all, hc37, hc38, hc39, if_true, if_false]) T23 _ X23 N23 e23
        · refine own_st (T' := T23) (g' := (mkF m 169 #[.val (.long u0), .second, .val (.long u1), .second, .val (.long u2), .second, .val (.long u3), .second, .val (.long tt), .second, .val (.int sel), .val (.long v0), .second, .val (.long v1), .second, .val (.long v2), .second, .val (.long v3), .second, .val (.ref b5), .val (.ref b14), .val (.int eA), .unset, .unset, .unset, .unset] [(.int (lcmpW v3 u3))])) (fun t k => ?_) ?_
          · show Steps p.tables e below (T23.setTop (mkF m 161 #[.val (.long u0), .second, .val (.long u1), .second, .val (.long u2), .second, .val (.long u3), .second, .val (.long tt), .second, .val (.int sel), .val (.long v0), .second, .val (.long v1), .second, .val (.long v2), .second, .val (.long v3), .second, .val (.ref b5), .val (.ref b14), .val (.int eA), .unset, .unset, .unset, .unset] [(.int (lcmpW v2 u2))])) t
            refine XS.ifNo X23.here hx rfl (hb hby at_161) rfl ((if0 _ _).trans (flt (fun q => hc39 ((lw_gt _ _).mp q))).2.2.1) ?_
            show Steps p.tables e below (T23.setTop (mkF m 164 #[.val (.long u0), .second, .val (.long u1), .second, .val (.long u2), .second, .val (.long u3), .second, .val (.long tt), .second, .val (.int sel), .val (.long v0), .second, .val (.long v1), .second, .val (.long v2), .second, .val (.long v3), .second, .val (.ref b5), .val (.ref b14), .val (.int eA), .unset, .unset, .unset, .unset] [])) t
            refine XS.lload X23.here hx rfl (hb hby at_164) rfl ?_
            show Steps p.tables e below (T23.setTop (mkF m 166 #[.val (.long u0), .second, .val (.long u1), .second, .val (.long u2), .second, .val (.long u3), .second, .val (.long tt), .second, .val (.int sel), .val (.long v0), .second, .val (.long v1), .second, .val (.long v2), .second, .val (.long v3), .second, .val (.ref b5), .val (.ref b14), .val (.int eA), .unset, .unset, .unset, .unset] [(.long v3)])) t
            refine XS.lload X23.here hx rfl (hb hby at_166) rfl ?_
            show Steps p.tables e below (T23.setTop (mkF m 168 #[.val (.long u0), .second, .val (.long u1), .second, .val (.long u2), .second, .val (.long u3), .second, .val (.long tt), .second, .val (.int sel), .val (.long v0), .second, .val (.long v1), .second, .val (.long v2), .second, .val (.long v3), .second, .val (.ref b5), .val (.ref b14), .val (.int eA), .unset, .unset, .unset, .unset] [(.long u3), (.long v3)])) t
            refine XS.lcmp X23.here hx rfl (hb hby at_168) rfl ?_
            show Steps p.tables e below (T23.setTop (mkF m 169 #[.val (.long u0), .second, .val (.long u1), .second, .val (.long u2), .second, .val (.long u3), .second, .val (.long tt), .second, .val (.int sel), .val (.long v0), .second, .val (.long v1), .second, .val (.long v2), .second, .val (.long v3), .second, .val (.ref b5), .val (.ref b14), .val (.int eA), .unset, .unset, .unset, .unset] [(.int (lcmpW v3 u3))])) t
            exact k
          by_cases hc40 : u3 < v3
          · refine own_st (T' := T23) (g' := (mkF m 177 #[.val (.long u0), .second, .val (.long u1), .second, .val (.long u2), .second, .val (.long u3), .second, .val (.long tt), .second, .val (.int sel), .val (.long v0), .second, .val (.long v1), .second, .val (.long v2), .second, .val (.long v3), .second, .val (.ref b5), .val (.ref b14), .val (.int eA), .unset, .unset, .unset, .unset] [(.int (0 : Int32))])) (fun t k => ?_) ?_
            · show Steps p.tables e below (T23.setTop (mkF m 169 #[.val (.long u0), .second, .val (.long u1), .second, .val (.long u2), .second, .val (.long u3), .second, .val (.long tt), .second, .val (.int sel), .val (.long v0), .second, .val (.long v1), .second, .val (.long v2), .second, .val (.long v3), .second, .val (.ref b5), .val (.ref b14), .val (.int eA), .unset, .unset, .unset, .unset] [(.int (lcmpW v3 u3))])) t
              refine XS.ifYes X23.here hx rfl (pc0 := 169) (pc' := 176) rfl (hb hby at_169) rfl ((if0 _ _).trans (tlt ((lw_gt _ _).mpr hc40)).2.2.1) (by decide) (by decide) ?_
              show Steps p.tables e below (T23.setTop (mkF m 176 #[.val (.long u0), .second, .val (.long u1), .second, .val (.long u2), .second, .val (.long u3), .second, .val (.long tt), .second, .val (.int sel), .val (.long v0), .second, .val (.long v1), .second, .val (.long v2), .second, .val (.long v3), .second, .val (.ref b5), .val (.ref b14), .val (.int eA), .unset, .unset, .unset, .unset] [])) t
              refine XS.iconst X23.here hx rfl (hb hby at_176) ?_
              show Steps p.tables e below (T23.setTop (mkF m 177 #[.val (.long u0), .second, .val (.long u1), .second, .val (.long u2), .second, .val (.long u3), .second, .val (.long tt), .second, .val (.int sel), .val (.long v0), .second, .val (.long v1), .second, .val (.long v2), .second, .val (.long v3), .second, .val (.ref b5), .val (.ref b14), .val (.int eA), .unset, .unset, .unset, .unset] [(.int (0 : Int32))])) t
              exact k
            exact JB _ (by simp only [own_all, hc37, hc38, hc39, hc40, if_true, if_false]) T23 _ X23 N23 e23
          · refine own_st (T' := T23) (g' := (mkF m 177 #[.val (.long u0), .second, .val (.long u1), .second, .val (.long u2), .second, .val (.long u3), .second, .val (.long tt), .second, .val (.int sel), .val (.long v0), .second, .val (.long v1), .second, .val (.long v2), .second, .val (.long v3), .second, .val (.ref b5), .val (.ref b14), .val (.int eA), .unset, .unset, .unset, .unset] [(.int (1 : Int32))])) (fun t k => ?_) ?_
            · show Steps p.tables e below (T23.setTop (mkF m 169 #[.val (.long u0), .second, .val (.long u1), .second, .val (.long u2), .second, .val (.long u3), .second, .val (.long tt), .second, .val (.int sel), .val (.long v0), .second, .val (.long v1), .second, .val (.long v2), .second, .val (.long v3), .second, .val (.ref b5), .val (.ref b14), .val (.int eA), .unset, .unset, .unset, .unset] [(.int (lcmpW v3 u3))])) t
              refine XS.ifNo X23.here hx rfl (hb hby at_169) rfl ((if0 _ _).trans (flt (fun q => hc40 ((lw_gt _ _).mp q))).2.2.1) ?_
              show Steps p.tables e below (T23.setTop (mkF m 172 #[.val (.long u0), .second, .val (.long u1), .second, .val (.long u2), .second, .val (.long u3), .second, .val (.long tt), .second, .val (.int sel), .val (.long v0), .second, .val (.long v1), .second, .val (.long v2), .second, .val (.long v3), .second, .val (.ref b5), .val (.ref b14), .val (.int eA), .unset, .unset, .unset, .unset] [])) t
              refine XS.iconst X23.here hx rfl (hb hby at_172) ?_
              show Steps p.tables e below (T23.setTop (mkF m 173 #[.val (.long u0), .second, .val (.long u1), .second, .val (.long u2), .second, .val (.long u3), .second, .val (.long tt), .second, .val (.int sel), .val (.long v0), .second, .val (.long v1), .second, .val (.long v2), .second, .val (.long v3), .second, .val (.ref b5), .val (.ref b14), .val (.int eA), .unset, .unset, .unset, .unset] [(.int (1 : Int32))])) t
              refine XS.goto X23.here hx rfl (pc0 := 173) (pc' := 177) rfl (hb hby at_173) (by decide) (by decide) ?_
              show Steps p.tables e below (T23.setTop (mkF m 177 #[.val (.long u0), .second, .val (.long u1), .second, .val (.long u2), .second, .val (.long u3), .second, .val (.long tt), .second, .val (.int sel), .val (.long v0), .second, .val (.long v1), .second, .val (.long v2), .second, .val (.long v3), .second, .val (.ref b5), .val (.ref b14), .val (.int eA), .unset, .unset, .unset, .unset] [(.int (1 : Int32))])) t
              exact k
            exact JB _ (by simp only [own_all, hc37, hc38, hc39, hc40, if_true, if_false]) T23 _ X23 N23 e23
  by_cases hc41 : v0 < u0
  · refine own_st (T' := T22) (g' := (mkF m 140 #[.val (.long u0), .second, .val (.long u1), .second, .val (.long u2), .second, .val (.long u3), .second, .val (.long tt), .second, .val (.int sel), .val (.long v0), .second, .val (.long v1), .second, .val (.long v2), .second, .val (.long v3), .second, .val (.ref b5), .val (.ref b14), .unset, .unset, .unset, .unset, .unset] [(.int (0 : Int32))])) (fun t k => ?_) ?_
    · show Steps p.tables e below (T22.setTop (mkF m 109 #[.val (.long u0), .second, .val (.long u1), .second, .val (.long u2), .second, .val (.long u3), .second, .val (.long tt), .second, .val (.int sel), .val (.long v0), .second, .val (.long v1), .second, .val (.long v2), .second, .val (.long v3), .second, .val (.ref b5), .val (.ref b14), .unset, .unset, .unset, .unset, .unset] [(.int (lcmpW u0 v0))])) t
      refine XS.ifYes X22.here hx rfl (pc0 := 109) (pc' := 139) rfl (hb hby at_109) rfl ((if0 _ _).trans (tlt ((lw_gt _ _).mpr hc41)).2.2.1) (by decide) (by decide) ?_
      show Steps p.tables e below (T22.setTop (mkF m 139 #[.val (.long u0), .second, .val (.long u1), .second, .val (.long u2), .second, .val (.long u3), .second, .val (.long tt), .second, .val (.int sel), .val (.long v0), .second, .val (.long v1), .second, .val (.long v2), .second, .val (.long v3), .second, .val (.ref b5), .val (.ref b14), .unset, .unset, .unset, .unset, .unset] [])) t
      refine XS.iconst X22.here hx rfl (hb hby at_139) ?_
      show Steps p.tables e below (T22.setTop (mkF m 140 #[.val (.long u0), .second, .val (.long u1), .second, .val (.long u2), .second, .val (.long u3), .second, .val (.long tt), .second, .val (.int sel), .val (.long v0), .second, .val (.long v1), .second, .val (.long v2), .second, .val (.long v3), .second, .val (.ref b5), .val (.ref b14), .unset, .unset, .unset, .unset, .unset] [(.int (0 : Int32))])) t
      exact k
    exact JA _ (by simp only [own_all, hc41, if_true, if_false]) T22 _ X22 N22 e22
  · refine own_st (T' := T22) (g' := (mkF m 116 #[.val (.long u0), .second, .val (.long u1), .second, .val (.long u2), .second, .val (.long u3), .second, .val (.long tt), .second, .val (.int sel), .val (.long v0), .second, .val (.long v1), .second, .val (.long v2), .second, .val (.long v3), .second, .val (.ref b5), .val (.ref b14), .unset, .unset, .unset, .unset, .unset] [(.int (lcmpW u1 v1))])) (fun t k => ?_) ?_
    · show Steps p.tables e below (T22.setTop (mkF m 109 #[.val (.long u0), .second, .val (.long u1), .second, .val (.long u2), .second, .val (.long u3), .second, .val (.long tt), .second, .val (.int sel), .val (.long v0), .second, .val (.long v1), .second, .val (.long v2), .second, .val (.long v3), .second, .val (.ref b5), .val (.ref b14), .unset, .unset, .unset, .unset, .unset] [(.int (lcmpW u0 v0))])) t
      refine XS.ifNo X22.here hx rfl (hb hby at_109) rfl ((if0 _ _).trans (flt (fun q => hc41 ((lw_gt _ _).mp q))).2.2.1) ?_
      show Steps p.tables e below (T22.setTop (mkF m 112 #[.val (.long u0), .second, .val (.long u1), .second, .val (.long u2), .second, .val (.long u3), .second, .val (.long tt), .second, .val (.int sel), .val (.long v0), .second, .val (.long v1), .second, .val (.long v2), .second, .val (.long v3), .second, .val (.ref b5), .val (.ref b14), .unset, .unset, .unset, .unset, .unset] [])) t
      refine XS.lloadN X22.here hx rfl (hb hby at_112) rfl ?_
      show Steps p.tables e below (T22.setTop (mkF m 113 #[.val (.long u0), .second, .val (.long u1), .second, .val (.long u2), .second, .val (.long u3), .second, .val (.long tt), .second, .val (.int sel), .val (.long v0), .second, .val (.long v1), .second, .val (.long v2), .second, .val (.long v3), .second, .val (.ref b5), .val (.ref b14), .unset, .unset, .unset, .unset, .unset] [(.long u1)])) t
      refine XS.lload X22.here hx rfl (hb hby at_113) rfl ?_
      show Steps p.tables e below (T22.setTop (mkF m 115 #[.val (.long u0), .second, .val (.long u1), .second, .val (.long u2), .second, .val (.long u3), .second, .val (.long tt), .second, .val (.int sel), .val (.long v0), .second, .val (.long v1), .second, .val (.long v2), .second, .val (.long v3), .second, .val (.ref b5), .val (.ref b14), .unset, .unset, .unset, .unset, .unset] [(.long v1), (.long u1)])) t
      refine XS.lcmp X22.here hx rfl (hb hby at_115) rfl ?_
      show Steps p.tables e below (T22.setTop (mkF m 116 #[.val (.long u0), .second, .val (.long u1), .second, .val (.long u2), .second, .val (.long u3), .second, .val (.long tt), .second, .val (.int sel), .val (.long v0), .second, .val (.long v1), .second, .val (.long v2), .second, .val (.long v3), .second, .val (.ref b5), .val (.ref b14), .unset, .unset, .unset, .unset, .unset] [(.int (lcmpW u1 v1))])) t
      exact k
    by_cases hc42 : v1 < u1
    · refine own_st (T' := T22) (g' := (mkF m 140 #[.val (.long u0), .second, .val (.long u1), .second, .val (.long u2), .second, .val (.long u3), .second, .val (.long tt), .second, .val (.int sel), .val (.long v0), .second, .val (.long v1), .second, .val (.long v2), .second, .val (.long v3), .second, .val (.ref b5), .val (.ref b14), .unset, .unset, .unset, .unset, .unset] [(.int (0 : Int32))])) (fun t k => ?_) ?_
      · show Steps p.tables e below (T22.setTop (mkF m 116 #[.val (.long u0), .second, .val (.long u1), .second, .val (.long u2), .second, .val (.long u3), .second, .val (.long tt), .second, .val (.int sel), .val (.long v0), .second, .val (.long v1), .second, .val (.long v2), .second, .val (.long v3), .second, .val (.ref b5), .val (.ref b14), .unset, .unset, .unset, .unset, .unset] [(.int (lcmpW u1 v1))])) t
        refine XS.ifYes X22.here hx rfl (pc0 := 116) (pc' := 139) rfl (hb hby at_116) rfl ((if0 _ _).trans (tlt ((lw_gt _ _).mpr hc42)).2.2.1) (by decide) (by decide) ?_
        show Steps p.tables e below (T22.setTop (mkF m 139 #[.val (.long u0), .second, .val (.long u1), .second, .val (.long u2), .second, .val (.long u3), .second, .val (.long tt), .second, .val (.int sel), .val (.long v0), .second, .val (.long v1), .second, .val (.long v2), .second, .val (.long v3), .second, .val (.ref b5), .val (.ref b14), .unset, .unset, .unset, .unset, .unset] [])) t
        refine XS.iconst X22.here hx rfl (hb hby at_139) ?_
        show Steps p.tables e below (T22.setTop (mkF m 140 #[.val (.long u0), .second, .val (.long u1), .second, .val (.long u2), .second, .val (.long u3), .second, .val (.long tt), .second, .val (.int sel), .val (.long v0), .second, .val (.long v1), .second, .val (.long v2), .second, .val (.long v3), .second, .val (.ref b5), .val (.ref b14), .unset, .unset, .unset, .unset, .unset] [(.int (0 : Int32))])) t
        exact k
      exact JA _ (by simp only [own_all, hc41, hc42, if_true, if_false]) T22 _ X22 N22 e22
    · refine own_st (T' := T22) (g' := (mkF m 124 #[.val (.long u0), .second, .val (.long u1), .second, .val (.long u2), .second, .val (.long u3), .second, .val (.long tt), .second, .val (.int sel), .val (.long v0), .second, .val (.long v1), .second, .val (.long v2), .second, .val (.long v3), .second, .val (.ref b5), .val (.ref b14), .unset, .unset, .unset, .unset, .unset] [(.int (lcmpW u2 v2))])) (fun t k => ?_) ?_
      · show Steps p.tables e below (T22.setTop (mkF m 116 #[.val (.long u0), .second, .val (.long u1), .second, .val (.long u2), .second, .val (.long u3), .second, .val (.long tt), .second, .val (.int sel), .val (.long v0), .second, .val (.long v1), .second, .val (.long v2), .second, .val (.long v3), .second, .val (.ref b5), .val (.ref b14), .unset, .unset, .unset, .unset, .unset] [(.int (lcmpW u1 v1))])) t
        refine XS.ifNo X22.here hx rfl (hb hby at_116) rfl ((if0 _ _).trans (flt (fun q => hc42 ((lw_gt _ _).mp q))).2.2.1) ?_
        show Steps p.tables e below (T22.setTop (mkF m 119 #[.val (.long u0), .second, .val (.long u1), .second, .val (.long u2), .second, .val (.long u3), .second, .val (.long tt), .second, .val (.int sel), .val (.long v0), .second, .val (.long v1), .second, .val (.long v2), .second, .val (.long v3), .second, .val (.ref b5), .val (.ref b14), .unset, .unset, .unset, .unset, .unset] [])) t
        refine XS.lload X22.here hx rfl (hb hby at_119) rfl ?_
        show Steps p.tables e below (T22.setTop (mkF m 121 #[.val (.long u0), .second, .val (.long u1), .second, .val (.long u2), .second, .val (.long u3), .second, .val (.long tt), .second, .val (.int sel), .val (.long v0), .second, .val (.long v1), .second, .val (.long v2), .second, .val (.long v3), .second, .val (.ref b5), .val (.ref b14), .unset, .unset, .unset, .unset, .unset] [(.long u2)])) t
        refine XS.lload X22.here hx rfl (hb hby at_121) rfl ?_
        show Steps p.tables e below (T22.setTop (mkF m 123 #[.val (.long u0), .second, .val (.long u1), .second, .val (.long u2), .second, .val (.long u3), .second, .val (.long tt), .second, .val (.int sel), .val (.long v0), .second, .val (.long v1), .second, .val (.long v2), .second, .val (.long v3), .second, .val (.ref b5), .val (.ref b14), .unset, .unset, .unset, .unset, .unset] [(.long v2), (.long u2)])) t
        refine XS.lcmp X22.here hx rfl (hb hby at_123) rfl ?_
        show Steps p.tables e below (T22.setTop (mkF m 124 #[.val (.long u0), .second, .val (.long u1), .second, .val (.long u2), .second, .val (.long u3), .second, .val (.long tt), .second, .val (.int sel), .val (.long v0), .second, .val (.long v1), .second, .val (.long v2), .second, .val (.long v3), .second, .val (.ref b5), .val (.ref b14), .unset, .unset, .unset, .unset, .unset] [(.int (lcmpW u2 v2))])) t
        exact k
      by_cases hc43 : v2 < u2
      · refine own_st (T' := T22) (g' := (mkF m 140 #[.val (.long u0), .second, .val (.long u1), .second, .val (.long u2), .second, .val (.long u3), .second, .val (.long tt), .second, .val (.int sel), .val (.long v0), .second, .val (.long v1), .second, .val (.long v2), .second, .val (.long v3), .second, .val (.ref b5), .val (.ref b14), .unset, .unset, .unset, .unset, .unset] [(.int (0 : Int32))])) (fun t k => ?_) ?_
        · show Steps p.tables e below (T22.setTop (mkF m 124 #[.val (.long u0), .second, .val (.long u1), .second, .val (.long u2), .second, .val (.long u3), .second, .val (.long tt), .second, .val (.int sel), .val (.long v0), .second, .val (.long v1), .second, .val (.long v2), .second, .val (.long v3), .second, .val (.ref b5), .val (.ref b14), .unset, .unset, .unset, .unset, .unset] [(.int (lcmpW u2 v2))])) t
          refine XS.ifYes X22.here hx rfl (pc0 := 124) (pc' := 139) rfl (hb hby at_124) rfl ((if0 _ _).trans (tlt ((lw_gt _ _).mpr hc43)).2.2.1) (by decide) (by decide) ?_
          show Steps p.tables e below (T22.setTop (mkF m 139 #[.val (.long u0), .second, .val (.long u1), .second, .val (.long u2), .second, .val (.long u3), .second, .val (.long tt), .second, .val (.int sel), .val (.long v0), .second, .val (.long v1), .second, .val (.long v2), .second, .val (.long v3), .second, .val (.ref b5), .val (.ref b14), .unset, .unset, .unset, .unset, .unset] [])) t
          refine XS.iconst X22.here hx rfl (hb hby at_139) ?_
          show Steps p.tables e below (T22.setTop (mkF m 140 #[.val (.long u0), .second, .val (.long u1), .second, .val (.long u2), .second, .val (.long u3), .second, .val (.long tt), .second, .val (.int sel), .val (.long v0), .second, .val (.long v1), .second, .val (.long v2), .second, .val (.long v3), .second, .val (.ref b5), .val (.ref b14), .unset, .unset, .unset, .unset, .unset] [(.int (0 : Int32))])) t
          exact k
        exact JA _ (by simp only [own_all, hc41, hc42, hc43, if_true, if_false]) T22 _ X22 N22 e22
      · refine own_st (T' := T22) (g' := (mkF m 132 #[.val (.long u0), .second, .val (.long u1), .second, .val (.long u2), .second, .val (.long u3), .second, .val (.long tt), .second, .val (.int sel), .val (.long v0), .second, .val (.long v1), .second, .val (.long v2), .second, .val (.long v3), .second, .val (.ref b5), .val (.ref b14), .unset, .unset, .unset, .unset, .unset] [(.int (lcmpW u3 v3))])) (fun t k => ?_) ?_
        · show Steps p.tables e below (T22.setTop (mkF m 124 #[.val (.long u0), .second, .val (.long u1), .second, .val (.long u2), .second, .val (.long u3), .second, .val (.long tt), .second, .val (.int sel), .val (.long v0), .second, .val (.long v1), .second, .val (.long v2), .second, .val (.long v3), .second, .val (.ref b5), .val (.ref b14), .unset, .unset, .unset, .unset, .unset] [(.int (lcmpW u2 v2))])) t
          refine XS.ifNo X22.here hx rfl (hb hby at_124) rfl ((if0 _ _).trans (flt (fun q => hc43 ((lw_gt _ _).mp q))).2.2.1) ?_
          show Steps p.tables e below (T22.setTop (mkF m 127 #[.val (.long u0), .second, .val (.long u1), .second, .val (.long u2), .second, .val (.long u3), .second, .val (.long tt), .second, .val (.int sel), .val (.long v0), .second, .val (.long v1), .second, .val (.long v2), .second, .val (.long v3), .second, .val (.ref b5), .val (.ref b14), .unset, .unset, .unset, .unset, .unset] [])) t
          refine XS.lload X22.here hx rfl (hb hby at_127) rfl ?_
          show Steps p.tables e below (T22.setTop (mkF m 129 #[.val (.long u0), .second, .val (.long u1), .second, .val (.long u2), .second, .val (.long u3), .second, .val (.long tt), .second, .val (.int sel), .val (.long v0), .second, .val (.long v1), .second, .val (.long v2), .second, .val (.long v3), .second, .val (.ref b5), .val (.ref b14), .unset, .unset, .unset, .unset, .unset] [(.long u3)])) t
          refine XS.lload X22.here hx rfl (hb hby at_129) rfl ?_
          show Steps p.tables e below (T22.setTop (mkF m 131 #[.val (.long u0), .second, .val (.long u1), .second, .val (.long u2), .second, .val (.long u3), .second, .val (.long tt), .second, .val (.int sel), .val (.long v0), .second, .val (.long v1), .second, .val (.long v2), .second, .val (.long v3), .second, .val (.ref b5), .val (.ref b14), .unset, .unset, .unset, .unset, .unset] [(.long v3), (.long u3)])) t
          refine XS.lcmp X22.here hx rfl (hb hby at_131) rfl ?_
          show Steps p.tables e below (T22.setTop (mkF m 132 #[.val (.long u0), .second, .val (.long u1), .second, .val (.long u2), .second, .val (.long u3), .second, .val (.long tt), .second, .val (.int sel), .val (.long v0), .second, .val (.long v1), .second, .val (.long v2), .second, .val (.long v3), .second, .val (.ref b5), .val (.ref b14), .unset, .unset, .unset, .unset, .unset] [(.int (lcmpW u3 v3))])) t
          exact k
        by_cases hc44 : v3 < u3
        · refine own_st (T' := T22) (g' := (mkF m 140 #[.val (.long u0), .second, .val (.long u1), .second, .val (.long u2), .second, .val (.long u3), .second, .val (.long tt), .second, .val (.int sel), .val (.long v0), .second, .val (.long v1), .second, .val (.long v2), .second, .val (.long v3), .second, .val (.ref b5), .val (.ref b14), .unset, .unset, .unset, .unset, .unset] [(.int (0 : Int32))])) (fun t k => ?_) ?_
          · show Steps p.tables e below (T22.setTop (mkF m 132 #[.val (.long u0), .second, .val (.long u1), .second, .val (.long u2), .second, .val (.long u3), .second, .val (.long tt), .second, .val (.int sel), .val (.long v0), .second, .val (.long v1), .second, .val (.long v2), .second, .val (.long v3), .second, .val (.ref b5), .val (.ref b14), .unset, .unset, .unset, .unset, .unset] [(.int (lcmpW u3 v3))])) t
            refine XS.ifYes X22.here hx rfl (pc0 := 132) (pc' := 139) rfl (hb hby at_132) rfl ((if0 _ _).trans (tlt ((lw_gt _ _).mpr hc44)).2.2.1) (by decide) (by decide) ?_
            show Steps p.tables e below (T22.setTop (mkF m 139 #[.val (.long u0), .second, .val (.long u1), .second, .val (.long u2), .second, .val (.long u3), .second, .val (.long tt), .second, .val (.int sel), .val (.long v0), .second, .val (.long v1), .second, .val (.long v2), .second, .val (.long v3), .second, .val (.ref b5), .val (.ref b14), .unset, .unset, .unset, .unset, .unset] [])) t
            refine XS.iconst X22.here hx rfl (hb hby at_139) ?_
            show Steps p.tables e below (T22.setTop (mkF m 140 #[.val (.long u0), .second, .val (.long u1), .second, .val (.long u2), .second, .val (.long u3), .second, .val (.long tt), .second, .val (.int sel), .val (.long v0), .second, .val (.long v1), .second, .val (.long v2), .second, .val (.long v3), .second, .val (.ref b5), .val (.ref b14), .unset, .unset, .unset, .unset, .unset] [(.int (0 : Int32))])) t
            exact k
          exact JA _ (by simp only [own_all, hc41, hc42, hc43, hc44, if_true, if_false]) T22 _ X22 N22 e22
        · refine own_st (T' := T22) (g' := (mkF m 140 #[.val (.long u0), .second, .val (.long u1), .second, .val (.long u2), .second, .val (.long u3), .second, .val (.long tt), .second, .val (.int sel), .val (.long v0), .second, .val (.long v1), .second, .val (.long v2), .second, .val (.long v3), .second, .val (.ref b5), .val (.ref b14), .unset, .unset, .unset, .unset, .unset] [(.int (1 : Int32))])) (fun t k => ?_) ?_
          · show Steps p.tables e below (T22.setTop (mkF m 132 #[.val (.long u0), .second, .val (.long u1), .second, .val (.long u2), .second, .val (.long u3), .second, .val (.long tt), .second, .val (.int sel), .val (.long v0), .second, .val (.long v1), .second, .val (.long v2), .second, .val (.long v3), .second, .val (.ref b5), .val (.ref b14), .unset, .unset, .unset, .unset, .unset] [(.int (lcmpW u3 v3))])) t
            refine XS.ifNo X22.here hx rfl (hb hby at_132) rfl ((if0 _ _).trans (flt (fun q => hc44 ((lw_gt _ _).mp q))).2.2.1) ?_
            show Steps p.tables e below (T22.setTop (mkF m 135 #[.val (.long u0), .second, .val (.long u1), .second, .val (.long u2), .second, .val (.long u3), .second, .val (.long tt), .second, .val (.int sel), .val (.long v0), .second, .val (.long v1), .second, .val (.long v2), .second, .val (.long v3), .second, .val (.ref b5), .val (.ref b14), .unset, .unset, .unset, .unset, .unset] [])) t
            refine XS.iconst X22.here hx rfl (hb hby at_135) ?_
            show Steps p.tables e below (T22.setTop (mkF m 136 #[.val (.long u0), .second, .val (.long u1), .second, .val (.long u2), .second, .val (.long u3), .second, .val (.long tt), .second, .val (.int sel), .val (.long v0), .second, .val (.long v1), .second, .val (.long v2), .second, .val (.long v3), .second, .val (.ref b5), .val (.ref b14), .unset, .unset, .unset, .unset, .unset] [(.int (1 : Int32))])) t
            refine XS.goto X22.here hx rfl (pc0 := 136) (pc' := 140) rfl (hb hby at_136) (by decide) (by decide) ?_
            show Steps p.tables e below (T22.setTop (mkF m 140 #[.val (.long u0), .second, .val (.long u1), .second, .val (.long u2), .second, .val (.long u3), .second, .val (.long tt), .second, .val (.int sel), .val (.long v0), .second, .val (.long v1), .second, .val (.long v2), .second, .val (.long v3), .second, .val (.ref b5), .val (.ref b14), .unset, .unset, .unset, .unset, .unset] [(.int (1 : Int32))])) t
            exact k
          exact JA _ (by simp only [own_all, hc41, hc42, hc43, hc44, if_true, if_false]) T22 _ X22 N22 e22
set_option maxRecDepth 65536 in
set_option maxHeartbeats 40000000 in
theorem own_comes_1 {Post : Tables → Env → Array Value → State → Outcome → State → Prop} (hpost : ∀ tb e args s v u, (limb_1_1.after args s (.returned v) u = true ∧ limb_1_2.after args s (.returned v) u = true ∧ True) → FrameEnd s (.returned v) u (Jvm.fieldLocs frame_1_writes args s ++ Jvm.arrayLocs frame_1_arrays args s ++ Jvm.staticLocs frame_1_statics s) 16 128 → Post tb e args s (.returned v) u) :
    ArmFor flags0 classFile x code maxLocals ret World_1 tables_1 room_1 Calls_1 rest_1 Pre_1 Post := by
  intro l hfl _ _ p e ha hc hk s m args below hf hA hF happ hP
  obtain ⟨hcalls, hrest, hpre⟩ := hP
  obtain ⟨-, -, -, hnamed, -, -, -, hat⟩ := (Spec.applies_iff hf).mp happ
  obtain ⟨hg, hn⟩ := and_e (Cond.before_iff.mp (show (Jvm.Cond.and given_1 narrow_1).before args s = true from hpre))
  obtain ⟨hg0, hgr⟩ := and_e hg
  obtain ⟨ha0, hgr⟩ := and_e hgr
  obtain ⟨ha1, hgr⟩ := and_e hgr
  obtain ⟨ha2, hgr⟩ := and_e hgr
  obtain ⟨ha3, hgr⟩ := and_e hgr
  obtain ⟨ha4, hgr⟩ := and_e hgr
  have ha5 := hgr
  obtain ⟨w0, w1, w2, w3, w4, w5, rfl⟩ : ∃ w0 w1 w2 w3 w4 w5 : Value, args = #[w0, w1, w2, w3, w4, w5] := by
    have hs : args.size = 6 := by simpa [Cond.value, given_1] using hg0
    obtain ⟨L⟩ := args
    match L, hs with
    | [w0, w1, w2, w3, w4, w5], _ => exact ⟨w0, w1, w2, w3, w4, w5, rfl⟩
  have hw := fun d (hd : d ∈ tables_1) => atoms_spec (ws := Jvm.Cond.code x code maxLocals ret :: tables_1) hat d (List.mem_cons_of_mem _ hd)
  have hfit : Fit s := fun {y c} hc i hi => by
    obtain ⟨ha, rfl⟩ := Array.getElem?_eq_some_iff.mp hc
    have q := List.all_eq_true.mp ((Array.all_eq_true_iff_forall_mem.mp hF) _ (Array.getElem_mem ha)) i (List.mem_range.mpr hi)
    simpa [Array.getElem?_eq_getElem hi] using q
  obtain ⟨i0, ei0⟩ := isL_v ha0
  obtain rfl : w0 = (.long i0) := Option.some.inj ei0
  obtain ⟨i1, ei1⟩ := isL_v ha1
  obtain rfl : w1 = (.long i1) := Option.some.inj ei1
  obtain ⟨i2, ei2⟩ := isL_v ha2
  obtain rfl : w2 = (.long i2) := Option.some.inj ei2
  obtain ⟨i3, ei3⟩ := isL_v ha3
  obtain rfl : w3 = (.long i3) := Option.some.inj ei3
  obtain ⟨i4, ei4⟩ := isL_v ha4
  obtain rfl : w4 = (.long i4) := Option.some.inj ei4
  obtain ⟨i5, ei5⟩ := is_v ha5
  obtain rfl : w5 = (.int i5) := Option.some.inj ei5
  have S_C := own_sint hn (Or.inr ⟨(hw _ (List.mem_of_getElem? (i := 7) rfl)), (hw _ (List.mem_of_getElem? (i := 10) rfl))⟩)
  obtain ⟨n, o, h1, h2, h3, _, L, rfl, ⟨rfl, N⟩, hq⟩ := own_rm0 l s _ hw tables_1 i0 i1 i2 i3 i4 i5 s.heap s.heap.size (Nat.le_refl _) S_C p e ha hc hk s m _ below hf ((Spec.applies_iff_loose hf).mp happ).1 ⟨rfl, State.Warmed39.refl s, rfl⟩ trivial
  refine ⟨n, _, h1, h2, h3, hpost _ _ _ _ _ _ ⟨Cond.after_iff.mpr rfl, Cond.after_iff.mpr (eq_i res_at (Term.int_eval (1)) rfl), trivial⟩ ⟨hq.1, hq.2.1, (hq.2.2.sift fun y hy => Or.inr (N y hy)).mono (by decide) (by decide)⟩⟩
theorem main_1_1 : Claimed_1_1 := own_comes_1 fun _ _ _ _ _ _ h hF => ⟨h.1, hF⟩
theorem main_1_2 : Claimed_1_2 := own_comes_1 fun _ _ _ _ _ _ h hF => ⟨h.2.1, hF⟩
end Jvm.Pilot.@@N@@
namespace Jvm.Pilot.@@N@@
open Jvm Jvm.ClassFile Sem Op Lib Jvm.Free Jvm.Stand Jvm.Pilot.@@N@@.Jvm.D
/-! MADE BY PROGRAM (witnessworld.py) out of the Statement's table words and the real class files: 11 classes; the members and pool entries that the words name. The judged class is class 1, her method 2. -/
namespace start1
open Jvm.ClassFile
def u (s : String) : CpInfo := .utf8 (stringToUtf16 s)
/-- a pool by its gaps: so many unusable entries, then the entry; so many at the end -/
def gap : Nat → List CpInfo → List CpInfo
  | 0, r => r
  | n + 1, r => .unusable :: gap n r
def poolList (es : List (Nat × CpInfo)) (last : Nat) : List CpInfo := es.foldr (fun e r => gap e.1 (e.2 :: r)) (gap last [])
def pool (es : List (Nat × CpInfo)) (last : Nat) : Array CpInfo := ⟨poolList es last⟩
def fileOf (pool : Array CpInfo) (this : Nat) (attrs : Array Attribute := #[]) (ms : Array MethodInfo := #[]) (fl : Nat := 33) (sup : Nat := 0) (ifs : Array Nat := #[]) (fds : Array FieldInfo := #[]) : ClassFile where
  minorVersion := 0
  majorVersion := 65
  constantPool := pool
  accessFlags := fl
  thisClass := this
  superClass := sup
  interfaces := ifs
  fields := fds
  methods := ms
  attributes := attrs
def plain (name : String) (sup : Option ClassId) : Class where
  name := name
  kind := .ordinary
  loader := none
  accessFlags := 33
  super := sup
  interfaces := #[]
  cf := none
  fields := #[]
  methods := #[]
  instanceTypes := #[]
  staticTypes := #[]
  resolved := #[]
  callSites := []
  init := .initialized
  statics := none
  mirror := none

def pool0 : Array CpInfo := pool [(5, u "<init>"), (0, u "()V"), (1, .class_ 10), (1, u "java/lang/Object")] 113

def k0m0 : Method := { name := "<init>", desc := "()V", sig := { parameters := [], returnType := none }, accessFlags := 1, code := none }
/-- java/lang/Object -/
def k0 : Class := { plain "java/lang/Object" none with
  accessFlags := 33
  interfaces := #[]
  cf := some (fileOf pool0 8 #[] #[{ accessFlags := 1, nameIndex := 5, descriptorIndex := 6, attributes := #[] }] 33 0 #[] #[])
  fields := #[]
  methods := #[k0m0]
  instanceTypes := #[]
  staticTypes := #[]
  resolved := Array.replicate 124 none
  statics := none }

def pool1 : Array CpInfo := pool [(2, .class_ 4), (1, u "java/lang/Object"), (0, u "<init>"), (0, u "()V"), (0, .methodref 8 9), (0, .class_ 10), (0, .nameAndType 11 12), (0, u "com/example/featurefront/featurefront/ObjectivesWeaklyDominatesPinLaw"), (0, u "pick"), (0, u "(JJI)J"), (0, .methodref 14 15), (0, .class_ 16), (0, .nameAndType 17 18), (0, u "com/example/featurefront/featurefront/Objectives"), (0, u "weaklyDominates"), (0, u "([J[J)Z"), (3, u "law"), (0, u "(JJJJJI)Z")] 4

def k1m0 : Method := { name := "<init>", desc := "()V", sig := { parameters := [], returnType := none }, accessFlags := 1, code := none }
def k1c1 : Code := { maxStack := 4, maxLocals := 5, code := method_2_code, exceptionTable := #[], attributes := #[] }
def k1m1 : Method := { name := "pick", desc := "(JJI)J", sig := { parameters := [.long, .long, .int], returnType := some .long }, accessFlags := 10, code := some k1c1 }
def k1c2 : Code := { maxStack := 6, maxLocals := 26, code := code, exceptionTable := #[], attributes := #[] }
def k1m2 : Method := { name := "law", desc := "(JJJJJI)Z", sig := { parameters := [.long, .long, .long, .long, .long, .int], returnType := some .boolean }, accessFlags := 9, code := some k1c2 }
/-- com/example/featurefront/featurefront/ObjectivesWeaklyDominatesPinLaw -/
def k1 : Class := { plain "com/example/featurefront/featurefront/ObjectivesWeaklyDominatesPinLaw" (some 0) with
  accessFlags := 49
  interfaces := #[]
  cf := some (fileOf pool1 8 #[] #[{ accessFlags := 1, nameIndex := 5, descriptorIndex := 6, attributes := #[] }, { accessFlags := 10, nameIndex := 11, descriptorIndex := 12, attributes := #[] }, { accessFlags := 9, nameIndex := 22, descriptorIndex := 23, attributes := #[] }] 49 2 #[] #[])
  fields := #[]
  methods := #[k1m0, k1m1, k1m2]
  instanceTypes := #[]
  staticTypes := #[]
  resolved := Array.replicate 28 none
  statics := none }

def pool2 : Array CpInfo := pool [(2, .class_ 4), (1, u "java/lang/Object"), (3, .class_ 10), (1, u "com/example/featurefront/featurefront/Objectives"), (0, u "attributes"), (0, u "Lcom/example/featurefront/featurefront/Attributes;"), (28, .fieldref 8 42), (0, .nameAndType 43 44), (0, u "COUNT"), (0, u "I"), (40, u "NAMES"), (0, u "Ljava/util/List;"), (3, u "DESELECTED"), (2, u "NOT_USED_BEFORE"), (1, u "DEFECTS"), (1, u "COST"), (12, u "([J[J)Z"), (0, u "weaklyDominates")] 20

def k2c0 : Code := { maxStack := 4, maxLocals := 3, code := prog_21_method_6_code, exceptionTable := #[], attributes := #[] }
def k2m0 : Method := { name := "weaklyDominates", desc := "([J[J)Z", sig := { parameters := [(.array .long), (.array .long)], returnType := some .boolean }, accessFlags := 9, code := some k2c0 }
/-- com/example/featurefront/featurefront/Objectives -/
def k2 : Class := { plain "com/example/featurefront/featurefront/Objectives" (some 0) with
  accessFlags := 49
  interfaces := #[]
  cf := some (fileOf pool2 8 #[] #[{ accessFlags := 9, nameIndex := 111, descriptorIndex := 110, attributes := #[] }] 49 2 #[] #[{ accessFlags := 25, nameIndex := 90, descriptorIndex := 44, attributes := #[] }, { accessFlags := 25, nameIndex := 93, descriptorIndex := 44, attributes := #[] }, { accessFlags := 25, nameIndex := 95, descriptorIndex := 44, attributes := #[] }, { accessFlags := 25, nameIndex := 97, descriptorIndex := 44, attributes := #[] }, { accessFlags := 25, nameIndex := 85, descriptorIndex := 86, attributes := #[] }, { accessFlags := 25, nameIndex := 43, descriptorIndex := 44, attributes := #[] }, { accessFlags := 18, nameIndex := 11, descriptorIndex := 12, attributes := #[] }])
  fields := #[{ name := "DESELECTED", type := .int, accessFlags := 25, slot := 0, constantValue := 0 }, { name := "NOT_USED_BEFORE", type := .int, accessFlags := 25, slot := 1, constantValue := 0 }, { name := "DEFECTS", type := .int, accessFlags := 25, slot := 2, constantValue := 0 }, { name := "COST", type := .int, accessFlags := 25, slot := 3, constantValue := 0 }, { name := "NAMES", type := (.object "java/util/List"), accessFlags := 25, slot := 4, constantValue := 0 }, { name := "COUNT", type := .int, accessFlags := 25, slot := 5, constantValue := 0 }, { name := "attributes", type := (.object "com/example/featurefront/featurefront/Attributes"), accessFlags := 18, slot := 0, constantValue := 0 }]
  methods := #[k2m0]
  instanceTypes := #[(.object "com/example/featurefront/featurefront/Attributes")]
  staticTypes := #[.int, .int, .int, .int, (.object "java/util/List"), .int]
  resolved := Array.replicate 132 none
  statics := some 0 }

def pool3 : Array CpInfo := pool [(1, u "java/lang/Cloneable"), (0, .class_ 1), (0, u "java/lang/Object"), (0, .class_ 3)] 3

/-- java/lang/Cloneable -/
def k3 : Class := { plain "java/lang/Cloneable" (some 0) with
  accessFlags := 1537
  interfaces := #[]
  cf := some (fileOf pool3 2 #[] #[] 1537 4 #[] #[])
  fields := #[]
  methods := #[]
  instanceTypes := #[]
  staticTypes := #[]
  resolved := Array.replicate 8 none
  statics := none }

def pool4 : Array CpInfo := pool [(1, u "java/io/Serializable"), (0, .class_ 1), (0, u "java/lang/Object"), (0, .class_ 3)] 3

/-- java/io/Serializable -/
def k4 : Class := { plain "java/io/Serializable" (some 0) with
  accessFlags := 1537
  interfaces := #[]
  cf := some (fileOf pool4 2 #[] #[] 1537 4 #[] #[])
  fields := #[]
  methods := #[]
  instanceTypes := #[]
  staticTypes := #[]
  resolved := Array.replicate 8 none
  statics := none }

/-- the primitive byte -/
def k5 : Class := { plain "byte" none with kind := .primitive 'B', accessFlags := 0x411 }
/-- [B -/
def k6 : Class := { plain "[B" (some 0) with kind := .array 5 .byte, interfaces := #[3, 4], accessFlags := 1041 }

/-- the primitive int -/
def k7 : Class := { plain "int" none with kind := .primitive 'I', accessFlags := 0x411 }
/-- [I -/
def k8 : Class := { plain "[I" (some 0) with kind := .array 7 .int, interfaces := #[3, 4], accessFlags := 1041 }

/-- the primitive long -/
def k9 : Class := { plain "long" none with kind := .primitive 'J', accessFlags := 0x411 }
/-- [J -/
def k10 : Class := { plain "[J" (some 0) with kind := .array 9 .long, interfaces := #[3, 4], accessFlags := 1041 }

def heap : Heap := #[{ cls := 2, slots := #[.int 0, .int 0, .int 0, .int 0, .null, .int 4], vm := .statics 2 }]
def classes : Array Class := #[k0, k1, k2, k3, k4, k5, k6, k7, k8, k9, k10]
def interned : List (Array UInt16 × Addr) := []
def slotsUsed : Nat := 6
def theMethod : MethodId := ⟨1, 2⟩
def args0 : Array Value := #[.long 1, .long 2, .long 3, .long 4, .long 5, .int 3]
def aboutOver (below : List Frame) : State where
  vm := { classes := classes, interned := interned.toArray }
  heap := heap
  slotsUsed := slotsUsed
  threads := #[{ frames := .invoking theMethod args0 :: below }]
def below0 : List Frame := [.native { method := ⟨0, 0⟩, args := #[] }]
def about1 : State := aboutOver below0
def p0 : Program := .bare "" "" ""
def e0 : Env := launch0.env 0 0 0
theorem w_frames : about1.frames = Frame.invoking theMethod args0 :: below0 := rfl
set_option maxRecDepth 65536 in
theorem w_args : argsFit about1.vm theMethod args0 = true := by decide +kernel
set_option maxRecDepth 65536 in
theorem w_heap : heapFits about1 = true := by decide +kernel
set_option maxRecDepth 65536 in
theorem w_runnable : about1.curStatus? = some .runnable := by decide +kernel
set_option maxRecDepth 65536 in
theorem w_alone : about1.alone = true := by decide +kernel
set_option maxRecDepth 65536 in
theorem w_named : about1.methodNamed? x = some theMethod := by decide +kernel
set_option maxRecDepth 65536 in
theorem w_hears : about1.hears theMethod below0 = true := by decide +kernel
set_option maxRecDepth 65536 in
theorem w_ripe : about1.ripe theMethod args0 below0 = true := by decide +kernel
theorem w_running : about1.status = .running := rfl
set_option maxRecDepth 65536 in
theorem w_room : about1.hasRoom e0.platform room_1 = true :=
  launch0.hasRoom_least _ room_1 (by decide +kernel) (by decide +kernel) (by decide +kernel) (by decide +kernel) (by decide +kernel) (by decide +kernel)
theorem allAtoms_all (ts : List Jvm.Cond) (a : Array Jvm.Value) (st : Jvm.State) : (allAtoms ts).before a st = ts.all (fun c => c.before a st) := by
  induction ts with
  | nil => rfl
  | cons c t ih =>
    show (Jvm.Cond.and c (allAtoms t)).before a st = _
    rw [Jvm.Cond.before_and, ih, List.all_cons]
def words1 : List Jvm.Cond := Jvm.Cond.code x code maxLocals ret :: tables_1
/-- a 'code' word, met by the world's own term for the bytes: nothing is compared byte by byte -/
theorem code_word {y : MethodName} {bytes : ByteArray} {mx : Nat} {rt : Option FieldType} {a : Array Value} {s : State} {m : MethodId} {meth : Method} {c : Code} (h1 : s.methodNamed? y = some m) (h2 : s.vm.method? m = some meth) (h3 : meth.code = some c) (h4 : c.code = bytes)
    (h5 : (c.maxLocals == mx && c.exceptionTable.isEmpty && decide (c.maxStack ≤ mostOperands) && decide (meth.sig.returnType = rt) && !meth.locks && decide (parseMethodDescriptor y.desc = some meth.sig)) = true) : (Jvm.Cond.code y bytes mx rt).before a s = true := by
  simp only [Bool.and_eq_true, beq_iff_eq, Bool.not_eq_true', decide_eq_true_eq] at h5
  obtain ⟨⟨⟨⟨⟨g1, g2⟩, g3⟩, g4⟩, g5⟩, g6⟩ := h5
  simp [Cond.before, Cond.holds, Cond.value, h1, h2, h3, h4, g1, g2, g3, g4, g5, g6]
def isCode : Jvm.Cond → Bool
  | .code _ _ _ _ => true
  | _ => false
theorem all_split {L : List Jvm.Cond} {P : Jvm.Cond → Bool} (h1 : L.all (fun c => isCode c || P c) = true) (h2 : ∀ c ∈ L.filter isCode, P c = true) : L.all P = true := by
  refine List.all_eq_true.mpr fun c hc => ?_
  have h := List.all_eq_true.mp h1 c hc
  rcases Bool.eq_false_or_eq_true (isCode c) with hi | hi
  · exact h2 c (List.mem_filter.mpr ⟨hc, hi⟩)
  · simpa [hi] using h
set_option maxRecDepth 65536 in
theorem w_c0 : (Jvm.Cond.code x code maxLocals ret).before args0 about1 = true := code_word (m := ⟨1, 2⟩) (meth := k1m2) (c := k1c2) (by decide +kernel) rfl rfl rfl (by decide +kernel)
set_option maxRecDepth 65536 in
theorem w_c1 : (Jvm.Cond.code ({ cls := "com/example/featurefront/featurefront/ObjectivesWeaklyDominatesPinLaw", name := "pick", desc := "(JJI)J" } : Jvm.MethodName) method_2_code (5 : Nat) (Option.some Jvm.ClassFile.FieldType.long)).before args0 about1 = true := code_word (m := ⟨1, 1⟩) (meth := k1m1) (c := k1c1) (by decide +kernel) rfl rfl rfl (by decide +kernel)
set_option maxRecDepth 65536 in
theorem w_c2 : (Jvm.Cond.code ({ cls := "com/example/featurefront/featurefront/Objectives", name := "weaklyDominates", desc := "([J[J)Z" } : Jvm.MethodName) prog_21_method_6_code (3 : Nat) (Option.some Jvm.ClassFile.FieldType.boolean)).before args0 about1 = true := code_word (m := ⟨2, 0⟩) (meth := k2m0) (c := k2c0) (by decide +kernel) rfl rfl rfl (by decide +kernel)
def codes1 : List Jvm.Cond := [Jvm.Cond.code x code maxLocals ret, Jvm.Cond.code ({ cls := "com/example/featurefront/featurefront/ObjectivesWeaklyDominatesPinLaw", name := "pick", desc := "(JJI)J" } : Jvm.MethodName) method_2_code (5 : Nat) (Option.some Jvm.ClassFile.FieldType.long), Jvm.Cond.code ({ cls := "com/example/featurefront/featurefront/Objectives", name := "weaklyDominates", desc := "([J[J)Z" } : Jvm.MethodName) prog_21_method_6_code (3 : Nat) (Option.some Jvm.ClassFile.FieldType.boolean)]
set_option maxRecDepth 65536 in
theorem codes_eq : words1.filter isCode = codes1 := rfl
theorem w_codes : ∀ c ∈ words1.filter isCode, c.before args0 about1 = true := by
  rw [codes_eq]
  intro c hc
  simp only [codes1, List.mem_cons, List.not_mem_nil, or_false] at hc
  rcases hc with rfl | rfl | rfl
  · exact w_c0
  · exact w_c1
  · exact w_c2
set_option maxRecDepth 65536 in
theorem w_t1 : words1.all (fun c => isCode c || c.before args0 about1) = true := by decide +kernel
theorem w_tables : (allAtoms (Jvm.Cond.code x code maxLocals ret :: tables_1)).before args0 about1 = true := by
  rw [allAtoms_all]
  show words1.all (fun c => c.before args0 about1) = true
  refine all_split ?_ w_codes
  rw [w_t1]
set_option maxRecDepth 65536 in
theorem w_case : (Jvm.Cond.and given_1 narrow_1).before args0 about1 = true := by decide +kernel
theorem w_applies : (headSpec (Jvm.Cond.code x code maxLocals ret :: tables_1) room_1).applies x e0.platform about1 = true :=
  (Spec.applies_iff w_frames).mpr ⟨w_running, w_runnable, w_alone, w_named, w_hears, w_ripe, w_room, w_tables⟩
theorem atStart : AtStart classFile x code maxLocals ret World_1 tables_1 room_1 Calls_1 rest_1 Pre_1 launch0 p0 e0 about1 theMethod args0 below0 :=
  ⟨lists_1, trivial, launch0.admits_env _ _ _, launch0.least_env, fairChoices_fair.cas, fairChoices_fair.clock, w_frames, w_args, w_heap, w_applies, trivial, trivial, w_case⟩
end start1
theorem witness_1 : WitnessClaimed_1 := ⟨start1.p0, start1.e0, start1.about1, start1.theMethod, start1.args0, start1.below0, start1.atStart⟩
end Jvm.Pilot.@@N@@
