import JvmDerived
import JvmDerived.Pilot.@@N@@Statement
import JvmDerived.Pilot.@@N@@Code
set_option linter.unusedVariables false
set_option linter.unusedSimpArgs false
namespace Jvm.Pilot.@@N@@
open Jvm Jvm.ClassFile Sem Op Lib Jvm.Free Jvm.Stand Jvm.LawKit Jvm.RoadKit Bundle Jvm.Pilot.@@N@@.Jvm.D
theorem own_cast {tb : Tables} {e : Env} {below : List Frame} {T : State} {g g' : JFrame} {t : State} (q : g = g') (k : Steps tb e below (T.setTop g') t) : Steps tb e below (T.setTop g) t := q ▸ k
section Own
variable {p : Program} {l : Launch} {e : Env} {R : Room} {s : State} {m : MethodId} {args : Array Value} {below : List Frame} {meth : Method} {c : Code} {T T' : State} {locs : List Loc} {cells slots : Nat} {g g' : JFrame} {K : Outcome → State → Prop} {h : Heap}
/-- the run from T with g on top comes to an end at which K holds -/
def own_Go (p : Program) (e : Env) (below : List Frame) (K : Outcome → State → Prop) (T : State) (g : JFrame) : Prop := ∃ t o, Steps p.tables e below (T.setTop g) t ∧ t.status = .running ∧ Ended t below o ∧ K o t
def own_K (s : State) (Q : Option Value → Heap → List Loc → Prop) (kc ks : Nat) : Outcome → State → Prop := fun o t => ∃ v L, o = .returned v ∧ Q v t.heap L ∧ FrameEnd s o t L kc ks
theorem own_st (k : ∀ t, Steps p.tables e below (T'.setTop g') t → Steps p.tables e below (T.setTop g) t) (h : own_Go p e below K T' g') : own_Go p e below K T g := by
  obtain ⟨t, o, h1, h2⟩ := h; exact ⟨t, o, k t h1, h2⟩
theorem own_tr (k : Steps p.tables e below (T.setTop g) (T'.setTop g')) (h : own_Go p e below K T' g') : own_Go p e below K T g := by
  obtain ⟨t, o, h1, h2⟩ := h; exact ⟨t, o, k.trans h1, h2⟩
theorem own_in (q : g = g') (h : own_Go p e below K T g') : ∃ t o, Steps p.tables e below (T.setTop g) t ∧ t.status = .running ∧ Ended t below o ∧ K o t := by
  obtain ⟨t, o, h1, h2⟩ := h; exact ⟨t, o, own_cast q h1, h2⟩
variable {Q : Option Value → Heap → List Loc → Prop} {kc ks pc : Nat} {Ls : Array Slot} {rest : List Value} {x : MethodName} {S : Spec} {code : ByteArray} {maxLocals : Nat} {s₁ : State}
theorem own_end (X : Stand p l e R s m args below meth c T locs cells slots) {v : Option Value} (hv : meth.sig.returnType = none → v = none) (hlk : meth.locks = false) (eT : T.heap = h) (hQ : Q v h locs) (hc : cells ≤ kc) (hs : slots ≤ ks)
    (k : ∀ fs, (∀ (f : JFrame) (acts : List Action), f.method = m → f.locked = none → f.entered = [] → (doReturn e (T.setTop f) acts v).1 = T.setFrames fs) → Steps p.tables e below (T.setTop g) (T.setFrames fs)) : own_Go p e below (own_K s Q kc ks) T g := by
  obtain ⟨fs, hr, hrun, hended, hW, hsame⟩ := X.leave (v := v) hv hlk
  refine ⟨_, _, k fs hr, hrun, hended, v, locs, rfl, ?_, ⟨_, rfl⟩, hW, hsame.mono hc hs⟩
  show Q v T.heap locs
  rw [eT]; exact hQ
theorem own_retI (X : Stand p l e R s m args below meth c T locs cells slots) (hx : p.tables.exec = Jvm.exec) (Bd : BodyLoose p l x S code maxLocals (some .int) e s m args below meth c s₁) {z : Int32} (hd : decode c.code pc = .ok (.ireturn, 1)) (eT : T.heap = h) (hQ : Q (some (.int z)) h locs) (hc : cells ≤ kc) (hs : slots ≤ ks) :
    own_Go p e below (own_K s Q kc ks) T (mkF m pc Ls (.int z :: rest)) :=
  own_end X (fun h => by rw [Bd.returns] at h; cases h) Bd.notSynchronized eT hQ hc hs fun fs hr => retOut X hx Bd.returns rfl (Or.inl ⟨rfl, Or.inl rfl, z, rfl⟩) hd hr
theorem own_retJ (X : Stand p l e R s m args below meth c T locs cells slots) (hx : p.tables.exec = Jvm.exec) (Bd : BodyLoose p l x S code maxLocals (some .long) e s m args below meth c s₁) {z : Int64} (hd : decode c.code pc = .ok (.lreturn, 1)) (eT : T.heap = h) (hQ : Q (some (.long z)) h locs) (hc : cells ≤ kc) (hs : slots ≤ ks) :
    own_Go p e below (own_K s Q kc ks) T (mkF m pc Ls (.long z :: rest)) :=
  own_end X (fun h => by rw [Bd.returns] at h; cases h) Bd.notSynchronized eT hQ hc hs fun fs hr => retOut X hx Bd.returns rfl (Or.inr (Or.inl ⟨rfl, rfl, z, rfl⟩)) hd hr
theorem own_retN (X : Stand p l e R s m args below meth c T locs cells slots) (hx : p.tables.exec = Jvm.exec) {t : FieldType} (Bd : BodyLoose p l x S code maxLocals (some t) e s m args below meth c s₁) (ht : t = .boolean ∨ t = .byte ∨ t = .char ∨ t = .short) {z : Int32} (hn : narrow t (.int z) = .int z) (hd : decode c.code pc = .ok (.ireturn, 1)) (eT : T.heap = h) (hQ : Q (some (.int z)) h locs) (hc : cells ≤ kc) (hs : slots ≤ ks) :
    own_Go p e below (own_K s Q kc ks) T (mkF m pc Ls (.int z :: rest)) :=
  own_end X (fun h => by rw [Bd.returns] at h; cases h) Bd.notSynchronized eT hQ hc hs fun fs hr => retOut X hx Bd.returns hn (Or.inl ⟨rfl, Or.inr ht, z, rfl⟩) hd hr
theorem own_retA (X : Stand p l e R s m args below meth c T locs cells slots) (hx : p.tables.exec = Jvm.exec) {t : FieldType} (Bd : BodyLoose p l x S code maxLocals (some t) e s m args below meth c s₁) (ht : t.isReference = true) {w : Value} (hw : w.isRef = true) (hd : decode c.code pc = .ok (.areturn, 1)) (eT : T.heap = h) (hQ : Q (some w) h locs) (hc : cells ≤ kc) (hs : slots ≤ ks) :
    own_Go p e below (own_K s Q kc ks) T (mkF m pc Ls (w :: rest)) :=
  own_end X (fun h => by rw [Bd.returns] at h; cases h) Bd.notSynchronized eT hQ hc hs fun fs hr => retOut X hx Bd.returns (by cases t <;> first | (cases ht; done) | rfl) (Or.inr (Or.inr (Or.inr (Or.inr ⟨rfl, ht, hw⟩)))) hd hr
theorem own_retV (X : Stand p l e R s m args below meth c T locs cells slots) (hx : p.tables.exec = Jvm.exec) (Bd : BodyLoose p l x S code maxLocals none e s m args below meth c s₁) (hd : decode c.code pc = .ok (.return_, 1)) (eT : T.heap = h) (hQ : Q none h locs) (hc : cells ≤ kc) (hs : slots ≤ ks) :
    own_Go p e below (own_K s Q kc ks) T (mkF m pc Ls []) :=
  own_end X (fun _ => rfl) Bd.notSynchronized eT hQ hc hs fun fs hr => X.returnOut hx Bd.returns hd hr
end Own
theorem own_Sta_keep {Z : State} {h h' : Heap} {C n d : String} {v : Value} {ws : List Addr} (F : Sta Z h C n d v) (K : Keep h h' ws) (q : ∀ x ∈ ws, ∀ cell : Cell, h[x]? = some cell → cell.vm.isStatics = false) : Sta Z h' C n d v := by
  obtain ⟨cf, i, k, f, st, cell, h1, h2, h3, h4, h5, h6, h7⟩ := F
  exact ⟨cf, i, k, f, st, cell, h1, h2, h3, h4, K.2.1 _ _ h5 (fun hm => by rw [q _ hm _ h5] at h6; cases h6), h6, h7⟩
theorem own_Ins_keep {Z : State} {h h' : Heap} {a : Addr} {C : String} {b : Bool} {ws : List Addr} (F : Ins Z h a C b) (K : Keep h h' ws) : Ins Z h' a C b := by
  obtain ⟨cell, cT, h1, h2, h3⟩ := F
  obtain ⟨c', e1, e2, e3, -⟩ := K.2.2 _ _ h1
  exact ⟨c', cT, e1, h2, by rw [e2, e3]; exact h3⟩
theorem own_enum {Z : State} {args : Array Value} {C D n d : String} (h : (Cond.exactly (Term.static C n d) D).value args Z none Z [] = some true) (hi : (Cond.initializedFor C n d).before args Z = true ∨ ((Cond.initialized C).before args Z = true ∧ (Cond.laysStatic C n d).before args Z = true)) :
    ∃ a, (Term.static C n d).eval args Z none [] Z = some (.ref a) ∧ Sta Z Z.heap C n d (.ref a) ∧ Exa Z Z.heap a D := by
  obtain ⟨a, e⟩ := exa_v h
  exact ⟨a, e, Sta.start e hi, Exa.start e h⟩
theorem own_ord {Z : State} {args : Array Value} {t : Term} {a : Addr} {O n d : String} {k : Int32} (e : t.eval args Z none [] Z = some (.ref a)) (h : (Cond.eq (Term.field t O n d) (Term.int k)).value args Z none Z [] = some true) : Fld Z Z.heap a O n d (.int k) := by
  refine Fld.start ?_
  have q := fld_at (C := O) (n := n) (dd := d) (first := Z) (o := none) (idx := []) (args := args) e
  obtain ⟨x, y, h1, h2, -⟩ := cmp_v (Or.inl h)
  rw [q] at h1
  have h2' : some (Value.int k) = some y := h2
  cases h2'
  cases x <;> simp [Cond.value, Term.eval, e, h1] at h
  rw [h1, h]
theorem own_bb (x : Int32) : x.toInt8.toInt32.toInt8.toInt32 = x.toInt8.toInt32 := by simp
theorem own_cc (x : Int32) : x.toUInt32.toUInt16.toUInt32.toInt32.toUInt32.toUInt16.toUInt32.toInt32 = x.toUInt32.toUInt16.toUInt32.toInt32 := by simp only [UInt32.toUInt32_toInt32, UInt16.toUInt16_toUInt32]
theorem own_nar_ref {t : FieldType} {v : Value} (h : v.isRef = true) (ht : t.isReference = true) : narrow t v = v := by cases t <;> first | (cases ht; done) | rfl
theorem own_fits_ref {t : FieldType} {v : Value} (h : v.isRef = true) (ht : t.isReference = true) : fits t v = true := by rcases ref_cases h with rfl | ⟨a, rfl⟩ <;> cases t <;> first | (cases ht; done) | rfl
theorem own_nar_b {z : Int32} (h : z = 0 ∨ z = 1) : narrow .boolean (.int z) = .int z := by rcases h with rfl | rfl <;> rfl
theorem own_fits_b {z : Int32} (h : z = 0 ∨ z = 1) : fits .boolean (.int z) = true := by rcases h with rfl | rfl <;> rfl
theorem own_d2_0 : decode prog_62_method_1_code 0 = .ok (.aload_n 0, 1) := by decide +kernel
theorem own_d2_1 : decode prog_62_method_1_code 1 = .ok (.invokespecial 1, 3) := by decide +kernel
theorem own_d2_4 : decode prog_62_method_1_code 4 = .ok (.aload_n 0, 1) := by decide +kernel
theorem own_d2_5 : decode prog_62_method_1_code 5 = .ok (.aload_n 1, 1) := by decide +kernel
theorem own_d2_6 : decode prog_62_method_1_code 6 = .ok (.putfield 7, 3) := by decide +kernel
theorem own_d2_9 : decode prog_62_method_1_code 9 = .ok (.return_, 1) := by decide +kernel
theorem own_pn0 : plainName "com/example/rolelint/rolelint/model/Runs" = true := by first | (simp [plainName, overriddenIn]; done) | decide +kernel
theorem own_d1_0 : decode prog_62_method_2_code 0 = .ok (.iload_n 0, 1) := by decide +kernel
theorem own_d1_1 : decode prog_62_method_2_code 1 = .ok (.iload_n 1, 1) := by decide +kernel
theorem own_d1_2 : decode prog_62_method_2_code 2 = .ok (.if_icmp .ge 24, 3) := by decide +kernel
theorem own_d1_5 : decode prog_62_method_2_code 5 = .ok (.new 8, 3) := by decide +kernel
theorem own_d1_8 : decode prog_62_method_2_code 8 = .ok (.dup, 1) := by decide +kernel
theorem own_d1_9 : decode prog_62_method_2_code 9 = .ok (.iconst 2, 1) := by decide +kernel
theorem own_d1_10 : decode prog_62_method_2_code 10 = .ok (.newarray .int, 2) := by decide +kernel
theorem own_d1_12 : decode prog_62_method_2_code 12 = .ok (.dup, 1) := by decide +kernel
theorem own_d1_13 : decode prog_62_method_2_code 13 = .ok (.iconst 0, 1) := by decide +kernel
theorem own_d1_14 : decode prog_62_method_2_code 14 = .ok (.iload_n 0, 1) := by decide +kernel
theorem own_d1_15 : decode prog_62_method_2_code 15 = .ok (.iastore, 1) := by decide +kernel
theorem own_d1_16 : decode prog_62_method_2_code 16 = .ok (.dup, 1) := by decide +kernel
theorem own_d1_17 : decode prog_62_method_2_code 17 = .ok (.iconst 1, 1) := by decide +kernel
theorem own_d1_18 : decode prog_62_method_2_code 18 = .ok (.iload_n 1, 1) := by decide +kernel
theorem own_d1_19 : decode prog_62_method_2_code 19 = .ok (.iastore, 1) := by decide +kernel
theorem own_d1_20 : decode prog_62_method_2_code 20 = .ok (.invokespecial 13, 3) := by decide +kernel
theorem own_pd0 : parseMethodDescriptor "([I)V" = some ⟨[(.array .int)], none⟩ := by decide +kernel
theorem own_d1_23 : decode prog_62_method_2_code 23 = .ok (.goto 6, 3) := by decide +kernel
theorem own_d1_29 : decode prog_62_method_2_code 29 = .ok (.areturn, 1) := by decide +kernel
theorem own_d1_26 : decode prog_62_method_2_code 26 = .ok (.getstatic 16, 3) := by decide +kernel
theorem own_d4_0 : decode prog_62_method_4_code 0 = .ok (.aload_n 0, 1) := by decide +kernel
theorem own_d4_1 : decode prog_62_method_4_code 1 = .ok (.getfield 7, 3) := by decide +kernel
theorem own_d4_4 : decode prog_62_method_4_code 4 = .ok (.arraylength, 1) := by decide +kernel
theorem own_d4_5 : decode prog_62_method_4_code 5 = .ok (.iconst 2, 1) := by decide +kernel
theorem own_d4_6 : decode prog_62_method_4_code 6 = .ok (.idiv, 1) := by decide +kernel
theorem own_d4_7 : decode prog_62_method_4_code 7 = .ok (.ireturn, 1) := by decide +kernel
theorem own_d5_0 : decode prog_62_method_5_code 0 = .ok (.aload_n 0, 1) := by decide +kernel
theorem own_d5_1 : decode prog_62_method_5_code 1 = .ok (.getfield 7, 3) := by decide +kernel
theorem own_d5_4 : decode prog_62_method_5_code 4 = .ok (.iconst 2, 1) := by decide +kernel
theorem own_d5_5 : decode prog_62_method_5_code 5 = .ok (.iload_n 1, 1) := by decide +kernel
theorem own_d5_6 : decode prog_62_method_5_code 6 = .ok (.imul, 1) := by decide +kernel
theorem own_d5_7 : decode prog_62_method_5_code 7 = .ok (.iaload, 1) := by decide +kernel
theorem own_d5_8 : decode prog_62_method_5_code 8 = .ok (.ireturn, 1) := by decide +kernel
theorem own_d6_0 : decode prog_62_method_6_code 0 = .ok (.aload_n 0, 1) := by decide +kernel
theorem own_d6_1 : decode prog_62_method_6_code 1 = .ok (.getfield 7, 3) := by decide +kernel
theorem own_d6_4 : decode prog_62_method_6_code 4 = .ok (.iconst 2, 1) := by decide +kernel
theorem own_d6_5 : decode prog_62_method_6_code 5 = .ok (.iload_n 1, 1) := by decide +kernel
theorem own_d6_6 : decode prog_62_method_6_code 6 = .ok (.imul, 1) := by decide +kernel
theorem own_d6_7 : decode prog_62_method_6_code 7 = .ok (.iconst 1, 1) := by decide +kernel
theorem own_d6_8 : decode prog_62_method_6_code 8 = .ok (.iadd, 1) := by decide +kernel
theorem own_d6_9 : decode prog_62_method_6_code 9 = .ok (.iaload, 1) := by decide +kernel
theorem own_d6_10 : decode prog_62_method_6_code 10 = .ok (.ireturn, 1) := by decide +kernel
theorem own_d7_0 : decode prog_62_method_7_code 0 = .ok (.iconst 0, 1) := by decide +kernel
theorem own_d7_1 : decode prog_62_method_7_code 1 = .ok (.istore_n 2, 1) := by decide +kernel
theorem own_d7_2 : decode prog_62_method_7_code 2 = .ok (.aload_n 0, 1) := by decide +kernel
theorem own_d7_3 : decode prog_62_method_7_code 3 = .ok (.invokevirtual 36, 3) := by decide +kernel
theorem own_pd1 : parseMethodDescriptor "()I" = some ⟨[], some .int⟩ := by decide +kernel
theorem own_d7_6 : decode prog_62_method_7_code 6 = .ok (.istore_n 3, 1) := by decide +kernel
theorem own_d7_7 : decode prog_62_method_7_code 7 = .ok (.iload_n 2, 1) := by decide +kernel
theorem own_d7_8 : decode prog_62_method_7_code 8 = .ok (.iload_n 3, 1) := by decide +kernel
theorem own_d7_9 : decode prog_62_method_7_code 9 = .ok (.if_icmp .ge 34, 3) := by decide +kernel
theorem own_d7_12 : decode prog_62_method_7_code 12 = .ok (.iload_n 2, 1) := by decide +kernel
theorem own_d7_13 : decode prog_62_method_7_code 13 = .ok (.iload_n 3, 1) := by decide +kernel
theorem own_d7_14 : decode prog_62_method_7_code 14 = .ok (.iadd, 1) := by decide +kernel
theorem own_d7_15 : decode prog_62_method_7_code 15 = .ok (.iconst 1, 1) := by decide +kernel
theorem own_d7_16 : decode prog_62_method_7_code 16 = .ok (.iushr, 1) := by decide +kernel
theorem own_d7_17 : decode prog_62_method_7_code 17 = .ok (.istore 4, 2) := by decide +kernel
theorem own_d7_19 : decode prog_62_method_7_code 19 = .ok (.aload_n 0, 1) := by decide +kernel
theorem own_d7_20 : decode prog_62_method_7_code 20 = .ok (.iload 4, 2) := by decide +kernel
theorem own_d7_22 : decode prog_62_method_7_code 22 = .ok (.invokevirtual 46, 3) := by decide +kernel
theorem own_pd2 : parseMethodDescriptor "(I)I" = some ⟨[.int], some .int⟩ := by decide +kernel
theorem own_d7_25 : decode prog_62_method_7_code 25 = .ok (.iload_n 1, 1) := by decide +kernel
theorem own_d7_26 : decode prog_62_method_7_code 26 = .ok (.if_icmp .gt 11, 3) := by decide +kernel
theorem own_d7_37 : decode prog_62_method_7_code 37 = .ok (.iload 4, 2) := by decide +kernel
theorem own_d7_39 : decode prog_62_method_7_code 39 = .ok (.istore_n 3, 1) := by decide +kernel
theorem own_d7_40 : decode prog_62_method_7_code 40 = .ok (.goto (-33), 3) := by decide +kernel
theorem own_d7_43 : decode prog_62_method_7_code 43 = .ok (.iload_n 2, 1) := by decide +kernel
theorem own_d7_44 : decode prog_62_method_7_code 44 = .ok (.aload_n 0, 1) := by decide +kernel
theorem own_d7_45 : decode prog_62_method_7_code 45 = .ok (.invokevirtual 36, 3) := by decide +kernel
theorem own_d7_48 : decode prog_62_method_7_code 48 = .ok (.if_icmp .ge 16, 3) := by decide +kernel
theorem own_d7_51 : decode prog_62_method_7_code 51 = .ok (.aload_n 0, 1) := by decide +kernel
theorem own_d7_52 : decode prog_62_method_7_code 52 = .ok (.iload_n 2, 1) := by decide +kernel
theorem own_d7_53 : decode prog_62_method_7_code 53 = .ok (.invokevirtual 40, 3) := by decide +kernel
theorem own_d7_56 : decode prog_62_method_7_code 56 = .ok (.iload_n 1, 1) := by decide +kernel
theorem own_d7_57 : decode prog_62_method_7_code 57 = .ok (.if_icmp .gt 7, 3) := by decide +kernel
theorem own_d7_64 : decode prog_62_method_7_code 64 = .ok (.iconst 0, 1) := by decide +kernel
theorem own_d7_65 : decode prog_62_method_7_code 65 = .ok (.ireturn, 1) := by decide +kernel
theorem own_d7_60 : decode prog_62_method_7_code 60 = .ok (.iconst 1, 1) := by decide +kernel
theorem own_d7_61 : decode prog_62_method_7_code 61 = .ok (.goto 4, 3) := by decide +kernel
theorem own_d7_29 : decode prog_62_method_7_code 29 = .ok (.iload 4, 2) := by decide +kernel
theorem own_d7_31 : decode prog_62_method_7_code 31 = .ok (.iconst 1, 1) := by decide +kernel
theorem own_d7_32 : decode prog_62_method_7_code 32 = .ok (.iadd, 1) := by decide +kernel
theorem own_d7_33 : decode prog_62_method_7_code 33 = .ok (.istore_n 2, 1) := by decide +kernel
theorem own_d7_34 : decode prog_62_method_7_code 34 = .ok (.goto 6, 3) := by decide +kernel
theorem own_pd3 : parseMethodDescriptor "(II)Lcom/example/rolelint/rolelint/model/Runs;" = some ⟨[.int, .int], some (.object "com/example/rolelint/rolelint/model/Runs")⟩ := by decide +kernel
theorem own_pd4 : parseMethodDescriptor "(I)Z" = some ⟨[.int], some .boolean⟩ := by decide +kernel
theorem own_pn1 : plainName "com/example/rolelint/rolelint/model/RunsOfPinLaw" = true := by first | (simp [plainName, overriddenIn]; done) | decide +kernel
def own_in1 (s e x : Int32) : Int32 := if x < e then (if x < s then 0 else 1) else 0
theorem own_in1_s {s e : Int32} (h : s < e) : own_in1 s e s = 1 := by simp only [own_in1, h, if_true, Int32.lt_irrefl, if_false]
theorem own_in1_e {s e : Int32} (h : s < e) : own_in1 s e (e - 1) = 1 := by
  have h1 := Int32.lt_iff_toInt_lt.mp h
  have l := s.le_toInt
  have u := e.toInt_lt
  have q : (e - 1).toInt = e.toInt - 1 := by
    rw [Int32.toInt_sub]; exact Int.bmod_eq_of_le (by have : (1 : Int32).toInt = 1 := rfl; omega) (by have : (1 : Int32).toInt = 1 := rfl; omega)
  have a : e - 1 < e := by rw [Int32.lt_iff_toInt_lt, q]; omega
  have b : ¬ e - 1 < s := by rw [Int32.lt_iff_toInt_lt, q]; omega
  simp only [own_in1, a, b, if_true, if_false]
theorem own_none {s : State} {args : Array Value} {t : Term} (hf : Fit s) (h1 : (Cond.arrayOf t .int).value args s none s [] = some true) (h2 : (Cond.eq (Term.length t) (Term.int 0)).value args s none s [] = some true) : ∃ a k, t.eval args s none [] s = some (.ref a) ∧ Arv s s.heap a k .int (0 : Int32) [] (.int (0 : Int32)) := by
  obtain ⟨a, e⟩ := arr_v h1
  obtain ⟨c, A⟩ := Arr.start e h1
  obtain ⟨x, y, e1, e2, -⟩ := cmp_v (Or.inl h2)
  have hl : c.slots.size < 2 ^ 31 := by
    have z := A.fin (Vm.Alike.refl _)
    cases Nat.lt_or_ge c.slots.size (2 ^ 31) with
    | inl q => exact q
    | inr q => simp [Term.eval, e, z, Nat.not_lt.mpr q] at e1
  have e3 := len_f e (A.fin (Vm.Alike.refl _)) hl
  have q : c.slots.size.toInt32 = 0 := gotT (Cond.eq_ints e3 (Term.int_eval 0)) h2
  exact ⟨a, c.cls, e, Arv.start hf A hl q (by decide) rfl trivial⟩

def own_r2 : Room := { frames := 1, cells := 0, slots := 0, locals := 12 }
theorem own_ef2 (m : MethodId) (x0 : Addr) (x1 : Addr) : entryFrame m #[(.ref x0), (.ref x1)] 2 = mkF m 0 #[.val (.ref x0), .val (.ref x1)] [] := by first | (simp [entryFrame, mkF, argsToLocals, Value.category]; done) | rfl
def own_Q2 (Z : State) (b arr : Addr) (h0 : Heap) (n0 : Nat) : Option Value → Heap → List Loc → Prop := fun v h L => v = none ∧ Fr n0 L ∧ Keep h0 h [b] ∧ Fld Z h b "com/example/rolelint/rolelint/model/Runs" "bounds" "[I" (.ref arr)
set_option maxRecDepth 65536 in
set_option maxHeartbeats 40000000 in
theorem own_rm2 (l : Launch) (Z : State) (a0 : Array Value) (hw : ∀ d ∈ tables_1, d.before a0 Z = true) (ws : List Jvm.Cond) (b arr : Addr) (h0 : Heap) (n0 : Nat) (Z0 : n0 ≤ h0.size) (E_b : Exa Z h0 b "com/example/rolelint/rolelint/model/Runs") (F_b : Fld Z h0 b "com/example/rolelint/rolelint/model/Runs" "bounds" "[I" .null) (g_b : n0 ≤ b) :
    MetFree l (⟨"com/example/rolelint/rolelint/model/Runs", "<init>", "([I)V"⟩ : MethodName) (head1 (Jvm.Cond.code (⟨"com/example/rolelint/rolelint/model/Runs", "<init>", "([I)V"⟩ : MethodName) prog_62_method_1_code 2 none :: ws) own_r2) (fun a_ U_ => a_ = #[(.ref b), (.ref arr)] ∧ Z.Warmed39 U_.vm ∧ U_.heap = h0) (fun _ _ _ _ _ => True) (fun _ U_ o_ U'_ => ∃ v_ L_, o_ = .returned v_ ∧ own_Q2 Z b arr  h0 n0 v_ U'_.heap L_ ∧ FrameEnd U_ o_ U'_ L_ own_r2.cells own_r2.slots) := by
  refine MetFree.of_bodySF (plainFor_of_name own_pn0) hisR ?_
  intro p e s m args below meth c s₁ Bd hml0 hP hK
  obtain ⟨rfl, hZ, hh⟩ := hP
  have hx := Bd.exec
  have hby := Bd.bytes
  have hml : c.maxLocals = 2 := hml0
  have hown : s.vm.findClass "com/example/rolelint/rolelint/model/Runs" = some m.cls := findClass_of_methodNamed Bd.named
  have hnm := (name_of_methodNamed Bd.named Bd.method).1
  have X0 : Stand p l e own_r2 s m #[(.ref b), (.ref arr)] below meth c s₁ [] 0 0 := Stand.of_body Bd
  have e0 : s₁.heap = h0 := by rw [← hh, Bd.state]; rfl
  have N0 := Fr.nil n0
  refine own_in (own_ef2 m b arr) ?_
  show own_Go p e below (own_K s (own_Q2 Z b arr  h0 n0) own_r2.cells own_r2.slots) s₁ (mkF m 0 #[.val (.ref b), .val (.ref arr)] [])
  refine own_st (T' := s₁) (g' := (mkF m 1 #[.val (.ref b), .val (.ref arr)] [(.ref b)])) (fun t k => ?_) ?_
  · show Steps p.tables e below (s₁.setTop (mkF m 0 #[.val (.ref b), .val (.ref arr)] [])) t
    refine XS.aloadN X0.here hx rfl (hb hby own_d2_0) rfl rfl ?_
    show Steps p.tables e below (s₁.setTop (mkF m 1 #[.val (.ref b), .val (.ref arr)] [(.ref b)])) t
    exact k
  obtain ⟨T1, X1, e1, st1⟩ := initO X0 hx hZ hown (hw _ (List.mem_of_getElem? (i := 10) rfl)) (hw _ (List.mem_of_getElem? (i := 11) rfl)) (hw _ (List.mem_of_getElem? (i := 12) rfl)) e0 (g := (mkF m 1 #[.val (.ref b), .val (.ref arr)] [(.ref b)])) rfl (by rw [hml]; rfl) rfl (hb hby own_d2_1) (by decide) (W := 0) (by show 2 * 0 + _ ≤ _; exact Nat.le_of_eq rfl) (by decide)
  refine own_st (T' := T1) (g' := (mkF m 4 #[.val (.ref b), .val (.ref arr)] [])) st1 ?_
  refine own_st (T' := T1) (g' := (mkF m 6 #[.val (.ref b), .val (.ref arr)] [(.ref arr), (.ref b)])) (fun t k => ?_) ?_
  · show Steps p.tables e below (T1.setTop (mkF m 4 #[.val (.ref b), .val (.ref arr)] [])) t
    refine XS.aloadN X1.here hx rfl (hb hby own_d2_4) rfl rfl ?_
    show Steps p.tables e below (T1.setTop (mkF m 5 #[.val (.ref b), .val (.ref arr)] [(.ref b)])) t
    refine XS.aloadN X1.here hx rfl (hb hby own_d2_5) rfl rfl ?_
    show Steps p.tables e below (T1.setTop (mkF m 6 #[.val (.ref b), .val (.ref arr)] [(.ref arr), (.ref b)])) t
    exact k
  obtain ⟨T2, h2, X2, e2, W2, st2⟩ := putF X1 hx hZ hown (host := "") (Or.inl (hw _ (List.mem_of_getElem? (i := 13) rfl))) Via.refl e1 F_b E_b (Or.inr ⟨(hw _ (List.mem_of_getElem? (i := 14) rfl)), rfl, hnm⟩) (hw _ (List.mem_of_getElem? (i := 5) rfl)) (ty := (.array .int)) (by decide) rfl rfl (g := (mkF m 6 #[.val (.ref b), .val (.ref arr)] [(.ref arr), (.ref b)])) rfl rfl (hb hby own_d2_6)
  have N2 := Fr.snoc X2 N0 g_b
  have K2 : Keep h0 h2 [b] := (Keep.refl h0 [b]).wr W2 (Or.inl (List.mem_of_getElem? (i := 0) rfl))
  have Z2 : n0 ≤ h2.size := Nat.le_trans Z0 (Keep.of_wr W2).1
  have fw2 := (F_b.same W2)
  refine own_st (T' := T2) (g' := (mkF m 9 #[.val (.ref b), .val (.ref arr)] [])) st2 ?_
  exact own_retV X2 hx Bd (hb hby own_d2_9) e2 (⟨rfl, N2, K2, fw2⟩) (by decide) (by decide)
def own_r1y : Room := { frames := 2, cells := 2, slots := 3, locals := 26 }
theorem own_ef1y (m : MethodId) (x0 : Int32) (x1 : Int32) : entryFrame m #[(.int x0), (.int x1)] 2 = mkF m 0 #[.val (.int x0), .val (.int x1)] [] := by first | (simp [entryFrame, mkF, argsToLocals, Value.category]; done) | rfl
def own_Q1y (Z : State) (ss ee : Int32) (h0 : Heap) (n0 : Nat) : Option Value → Heap → List Loc → Prop := fun v h L => ∃ r arr k, v = some (.ref r) ∧ Fr n0 L ∧ Keep h0 h [] ∧ n0 ≤ r ∧ h0.size ≤ r ∧ Exa Z h r "com/example/rolelint/rolelint/model/Runs" ∧ Fld Z h r "com/example/rolelint/rolelint/model/Runs" "bounds" "[I" (.ref arr) ∧ Arv Z h arr k .int (2 : Int32) [(.int ss), (.int ee)] (.int (0 : Int32))
set_option maxRecDepth 65536 in
set_option maxHeartbeats 40000000 in
theorem own_rm1y (l : Launch) (Z : State) (a0 : Array Value) (hw : ∀ d ∈ tables_1, d.before a0 Z = true) (ws : List Jvm.Cond) (ss ee : Int32) (h0 : Heap) (n0 : Nat) (Z0 : n0 ≤ h0.size) (hse : ss < ee) :
    MetFree l (⟨"com/example/rolelint/rolelint/model/Runs", "of", "(II)Lcom/example/rolelint/rolelint/model/Runs;"⟩ : MethodName) (head1 (Jvm.Cond.code (⟨"com/example/rolelint/rolelint/model/Runs", "of", "(II)Lcom/example/rolelint/rolelint/model/Runs;"⟩ : MethodName) prog_62_method_2_code 2 (some (.object "com/example/rolelint/rolelint/model/Runs")) :: ws) own_r1y) (fun a_ U_ => a_ = #[(.int ss), (.int ee)] ∧ Z.Warmed39 U_.vm ∧ U_.heap = h0) (fun _ _ _ _ _ => True) (fun _ U_ o_ U'_ => ∃ v_ L_, o_ = .returned v_ ∧ own_Q1y Z ss ee  h0 n0 v_ U'_.heap L_ ∧ FrameEnd U_ o_ U'_ L_ own_r1y.cells own_r1y.slots) := by
  refine MetFree.of_bodySF (plainFor_of_name own_pn0) hisR ?_
  intro p e s m args below meth c s₁ Bd hml0 hP hK
  obtain ⟨rfl, hZ, hh⟩ := hP
  have hx := Bd.exec
  have hby := Bd.bytes
  have hml : c.maxLocals = 2 := hml0
  have hown : s.vm.findClass "com/example/rolelint/rolelint/model/Runs" = some m.cls := findClass_of_methodNamed Bd.named
  have hnm := (name_of_methodNamed Bd.named Bd.method).1
  have X0 : Stand p l e own_r1y s m #[(.int ss), (.int ee)] below meth c s₁ [] 0 0 := Stand.of_body Bd
  have e0 : s₁.heap = h0 := by rw [← hh, Bd.state]; rfl
  have N0 := Fr.nil n0
  refine own_in (own_ef1y m ss ee) ?_
  show own_Go p e below (own_K s (own_Q1y Z ss ee  h0 n0) own_r1y.cells own_r1y.slots) s₁ (mkF m 0 #[.val (.int ss), .val (.int ee)] [])
  refine own_st (T' := s₁) (g' := (mkF m 5 #[.val (.int ss), .val (.int ee)] [])) (fun t k => ?_) ?_
  · show Steps p.tables e below (s₁.setTop (mkF m 0 #[.val (.int ss), .val (.int ee)] [])) t
    refine XS.iloadN X0.here hx rfl (hb hby own_d1_0) rfl ?_
    show Steps p.tables e below (s₁.setTop (mkF m 1 #[.val (.int ss), .val (.int ee)] [(.int ss)])) t
    refine XS.iloadN X0.here hx rfl (hb hby own_d1_1) rfl ?_
    show Steps p.tables e below (s₁.setTop (mkF m 2 #[.val (.int ss), .val (.int ee)] [(.int ee), (.int ss)])) t
    refine XS.icmpNo X0.here hx rfl (hb hby own_d1_2) rfl (tlt hse).2.1 ?_
    show Steps p.tables e below (s₁.setTop (mkF m 5 #[.val (.int ss), .val (.int ee)] [])) t
    exact k
  obtain ⟨T1, h1, X1, e1, E1, A1, D1, U1, st1⟩ := newO X0 hx hZ hown (hw _ (List.mem_of_getElem? (i := 4) rfl)) (hw _ (List.mem_of_getElem? (i := 5) rfl)) (hw _ (List.mem_of_getElem? (i := 2) rfl)) e0 (g := (mkF m 5 #[.val (.int ss), .val (.int ee)] [])) rfl (hb hby own_d1_5) (by decide) (by decide)
  obtain ⟨b1, g1⟩ : ∃ z, z = h0.size := ⟨_, rfl⟩
  rw [← g1] at A1 D1 U1 st1
  have sz1 : h0.size ≤ b1 := Nat.le_of_eq g1.symm
  have g_b1 : n0 ≤ b1 := Nat.le_trans Z0 sz1
  have hz_b1 : h0.size ≤ b1 := Nat.le_trans (Keep.refl h0 []).1 sz1
  have K1 : Keep h0 h1 [] := (Keep.refl h0 []).ext E1
  have Z1 : n0 ≤ h1.size := Nat.le_trans Z0 E1.1
  refine own_st (T' := T1) (g' := (mkF m 8 #[.val (.int ss), .val (.int ee)] [(.ref b1)])) st1 ?_
  refine own_st (T' := T1) (g' := (mkF m 10 #[.val (.int ss), .val (.int ee)] [(.int (2 : Int32)), (.ref b1), (.ref b1)])) (fun t k => ?_) ?_
  · show Steps p.tables e below (T1.setTop (mkF m 8 #[.val (.int ss), .val (.int ee)] [(.ref b1)])) t
    refine XS.dup X1.here hx rfl (hb hby own_d1_8) rfl rfl ?_
    show Steps p.tables e below (T1.setTop (mkF m 9 #[.val (.int ss), .val (.int ee)] [(.ref b1), (.ref b1)])) t
    refine XS.iconst X1.here hx rfl (hb hby own_d1_9) ?_
    show Steps p.tables e below (T1.setTop (mkF m 10 #[.val (.int ss), .val (.int ee)] [(.int (2 : Int32)), (.ref b1), (.ref b1)])) t
    exact k
  obtain ⟨T2, h2, k2, X2, e2, E2, A2, st2⟩ := newP X1 hx hZ (hw _ (List.mem_of_getElem? (i := 6) rfl)) e1 (g := (mkF m 10 #[.val (.int ss), .val (.int ee)] [(.int (2 : Int32)), (.ref b1), (.ref b1)])) rfl (hb hby own_d1_10) rfl (by decide) (cap := 2) (by decide) (by decide) (by decide) (by decide)
  obtain ⟨b2, g2⟩ : ∃ z, z = h1.size := ⟨_, rfl⟩
  rw [← g2] at A2 st2
  have sz2 : h1.size ≤ b2 := Nat.le_of_eq g2.symm
  have ne_b1_b2 : b1 ≠ b2 := Nat.ne_of_lt (Nat.lt_of_lt_of_le A1.lt sz2)
  have g_b2 : n0 ≤ b2 := Nat.le_trans Z1 sz2
  have hz_b2 : h0.size ≤ b2 := Nat.le_trans K1.1 sz2
  have K2 : Keep h0 h2 [] := K1.ext E2
  have Z2 : n0 ≤ h2.size := Nat.le_trans Z1 E2.1
  have V2 : Arv Z h2 b2 k2 .int (2 : Int32) [(.int (0 : Int32)), (.int (0 : Int32))] (.int (0 : Int32)) := (Arv.new A2 (by decide)).pad (pad_rep [] (.int (0 : Int32)) 2)
  refine own_st (T' := T2) (g' := (mkF m 12 #[.val (.int ss), .val (.int ee)] [(.ref b2), (.ref b1), (.ref b1)])) st2 ?_
  refine own_st (T' := T2) (g' := (mkF m 15 #[.val (.int ss), .val (.int ee)] [(.int ss), (.int (0 : Int32)), (.ref b2), (.ref b2), (.ref b1), (.ref b1)])) (fun t k => ?_) ?_
  · show Steps p.tables e below (T2.setTop (mkF m 12 #[.val (.int ss), .val (.int ee)] [(.ref b2), (.ref b1), (.ref b1)])) t
    refine XS.dup X2.here hx rfl (hb hby own_d1_12) rfl rfl ?_
    show Steps p.tables e below (T2.setTop (mkF m 13 #[.val (.int ss), .val (.int ee)] [(.ref b2), (.ref b2), (.ref b1), (.ref b1)])) t
    refine XS.iconst X2.here hx rfl (hb hby own_d1_13) ?_
    show Steps p.tables e below (T2.setTop (mkF m 14 #[.val (.int ss), .val (.int ee)] [(.int (0 : Int32)), (.ref b2), (.ref b2), (.ref b1), (.ref b1)])) t
    refine XS.iloadN X2.here hx rfl (hb hby own_d1_14) rfl ?_
    show Steps p.tables e below (T2.setTop (mkF m 15 #[.val (.int ss), .val (.int ee)] [(.int ss), (.int (0 : Int32)), (.ref b2), (.ref b2), (.ref b1), (.ref b1)])) t
    exact k
  obtain ⟨cl3, Ar3, q3, S3, M3, H3, G3⟩ := id V2
  obtain ⟨T4, h4, X4, e4, W4, st4⟩ := stI X2 hx hZ e2 Ar3 (j := (0 : Int32)) (inb_of S3 ⟨by decide, by decide⟩) (g := (mkF m 15 #[.val (.int ss), .val (.int ee)] [(.int ss), (.int (0 : Int32)), (.ref b2), (.ref b2), (.ref b1), (.ref b1)])) rfl rfl (hb hby own_d1_15)
  have N4 := Fr.snoc X4 N0 g_b2
  have K4 : Keep h0 h4 [] := K2.wr W4 (Or.inr hz_b2)
  have Z4 : n0 ≤ h4.size := Nat.le_trans Z2 (Keep.of_wr W4).1
  have fw4 := (Arv.set Ar3 q3 S3 M3 H3 G3 rfl W4 0 rfl (Nat.le_of_ble_eq_true rfl) : Arv Z h4 b2 k2 .int (2 : Int32) [(.int ss), (.int (0 : Int32))] (.int (0 : Int32)))
  refine own_st (T' := T4) (g' := (mkF m 16 #[.val (.int ss), .val (.int ee)] [(.ref b2), (.ref b1), (.ref b1)])) st4 ?_
  refine own_st (T' := T4) (g' := (mkF m 19 #[.val (.int ss), .val (.int ee)] [(.int ee), (.int (1 : Int32)), (.ref b2), (.ref b2), (.ref b1), (.ref b1)])) (fun t k => ?_) ?_
  · show Steps p.tables e below (T4.setTop (mkF m 16 #[.val (.int ss), .val (.int ee)] [(.ref b2), (.ref b1), (.ref b1)])) t
    refine XS.dup X4.here hx rfl (hb hby own_d1_16) rfl rfl ?_
    show Steps p.tables e below (T4.setTop (mkF m 17 #[.val (.int ss), .val (.int ee)] [(.ref b2), (.ref b2), (.ref b1), (.ref b1)])) t
    refine XS.iconst X4.here hx rfl (hb hby own_d1_17) ?_
    show Steps p.tables e below (T4.setTop (mkF m 18 #[.val (.int ss), .val (.int ee)] [(.int (1 : Int32)), (.ref b2), (.ref b2), (.ref b1), (.ref b1)])) t
    refine XS.iloadN X4.here hx rfl (hb hby own_d1_18) rfl ?_
    show Steps p.tables e below (T4.setTop (mkF m 19 #[.val (.int ss), .val (.int ee)] [(.int ee), (.int (1 : Int32)), (.ref b2), (.ref b2), (.ref b1), (.ref b1)])) t
    exact k
  obtain ⟨cl5, Ar5, q5, S5, M5, H5, G5⟩ := id fw4
  obtain ⟨T6, h6, X6, e6, W6, st6⟩ := stI X4 hx hZ e4 Ar5 (j := (1 : Int32)) (inb_of S5 ⟨by decide, by decide⟩) (g := (mkF m 19 #[.val (.int ss), .val (.int ee)] [(.int ee), (.int (1 : Int32)), (.ref b2), (.ref b2), (.ref b1), (.ref b1)])) rfl rfl (hb hby own_d1_19)
  have N6 := Fr.snoc X6 N4 g_b2
  have K6 : Keep h0 h6 [] := K4.wr W6 (Or.inr hz_b2)
  have Z6 : n0 ≤ h6.size := Nat.le_trans Z4 (Keep.of_wr W6).1
  have fw6 := (Arv.set Ar5 q5 S5 M5 H5 G5 rfl W6 1 rfl (Nat.le_of_ble_eq_true rfl) : Arv Z h6 b2 k2 .int (2 : Int32) [(.int ss), (.int ee)] (.int (0 : Int32)))
  refine own_st (T' := T6) (g' := (mkF m 20 #[.val (.int ss), .val (.int ee)] [(.ref b2), (.ref b1), (.ref b1)])) st6 ?_
  have f7 := ((A1.ext E2).wr W4).wr W6
  have f8 := (((D1 (Or.inr (hw _ (List.mem_of_getElem? (i := 14) rfl))) (ty := (.array .int)) (by decide) : Fld Z h1 b1 "com/example/rolelint/rolelint/model/Runs" "bounds" "[I" .null).ext E2).other W4 (Or.inl ne_b1_b2)).other W6 (Or.inl ne_b1_b2)
  obtain ⟨_, _, ⟨T9, L9, c9, n9⟩, -, X9, ⟨Lc9, hQ9, l9, y9, z9⟩, st9⟩ := X6.specialBack hx (y := (⟨"com/example/rolelint/rolelint/model/Runs", "<init>", "([I)V"⟩ : MethodName)) rfl hown (mvT hZ (hw _ (List.mem_of_getElem? (i := 7) rfl))) (mvT hZ (hw _ (List.mem_of_getElem? (i := 8) rfl))) (mvT hZ (hw _ (List.mem_of_getElem? (i := 9) rfl))) (by decide) (backOf (W := 1) (own_rm2 l Z a0 hw [] b1 b2 h6 n0 Z6 f7 f8 g_b1) hZ (hw _ (List.mem_of_getElem? (i := 9) rfl)) (hw _ (List.mem_of_getElem? (i := 2) rfl)) (by decide) (by decide)) (g := (mkF m 20 #[.val (.int ss), .val (.int ee)] [(.ref b2), (.ref b1), (.ref b1)])) rfl (by rw [hml]; rfl) (Steps.refl _) (a := b1) (argsL := [(.ref b2)]) (rest := [(.ref b1)]) (lenOf own_pd0 rfl) rfl (by show 2 * 0 + _ ≤ _; exact Nat.le_of_eq rfl) (hb hby own_d1_20) (fun _ _ => ⟨rfl, e6, (by decide : 2 + 0 ≤ _), (by decide : 3 + 0 ≤ _)⟩)
  dsimp only [Pt.U, Pt.locs, Pt.cells, Pt.slots] at X9 l9 y9 z9 st9 hQ9
  subst l9 y9 z9
  obtain ⟨h9, e9⟩ : ∃ z, T9.heap = z := ⟨_, rfl⟩
  rw [e9] at hQ9
  obtain ⟨rfl, N9q, Kc9, Fc9⟩ := hQ9
  have N9 := Fr.app N6 N9q
  have K9 : Keep h0 h9 [] := K6.trans Kc9 (allS (Or.inr hz_b1) all0)
  have Z9 : n0 ≤ h9.size := Nat.le_trans Z6 Kc9.1
  refine own_tr (T' := T9) (g' := (mkF m 23 #[.val (.int ss), .val (.int ee)] [(.ref b1)])) st9 ?_
  have f10 := f7.keep Kc9
  have f11 := fw6.keep Kc9 (ninS (Ne.symm ne_b1_b2) nin0)
  refine own_st (T' := T9) (g' := (mkF m 29 #[.val (.int ss), .val (.int ee)] [(.ref b1)])) (fun t k => ?_) ?_
  · show Steps p.tables e below (T9.setTop (mkF m 23 #[.val (.int ss), .val (.int ee)] [(.ref b1)])) t
    refine XS.goto X9.here hx rfl (pc0 := 23) (pc' := 29) rfl (hb hby own_d1_23) (by decide) (by decide) ?_
    show Steps p.tables e below (T9.setTop (mkF m 29 #[.val (.int ss), .val (.int ee)] [(.ref b1)])) t
    exact k
  exact own_retA X9 hx Bd rfl rfl (hb hby own_d1_29) e9 (⟨b1, b2, k2, rfl, N9, K9, g_b1, hz_b1, f10, Fc9, f11⟩) (by decide) (by decide)
def own_r1n : Room := { frames := 0, cells := 0, slots := 0, locals := 0 }
theorem own_ef1n (m : MethodId) (x0 : Int32) (x1 : Int32) : entryFrame m #[(.int x0), (.int x1)] 2 = mkF m 0 #[.val (.int x0), .val (.int x1)] [] := by first | (simp [entryFrame, mkF, argsToLocals, Value.category]; done) | rfl
def own_Q1n (Z : State) (ss ee : Int32) (aN : Addr) (h0 : Heap) (n0 : Nat) : Option Value → Heap → List Loc → Prop := fun v h L => v = some (.ref aN) ∧ Fr n0 L ∧ h = h0
set_option maxRecDepth 65536 in
set_option maxHeartbeats 40000000 in
theorem own_rm1n (l : Launch) (Z : State) (a0 : Array Value) (hw : ∀ d ∈ tables_1, d.before a0 Z = true) (ws : List Jvm.Cond) (ss ee : Int32) (aN : Addr) (h0 : Heap) (n0 : Nat) (Z0 : n0 ≤ h0.size) (hse : ¬ ss < ee) (S_N : Sta Z h0 "com/example/rolelint/rolelint/model/Runs" "NONE" "Lcom/example/rolelint/rolelint/model/Runs;" (.ref aN)) :
    MetFree l (⟨"com/example/rolelint/rolelint/model/Runs", "of", "(II)Lcom/example/rolelint/rolelint/model/Runs;"⟩ : MethodName) (head1 (Jvm.Cond.code (⟨"com/example/rolelint/rolelint/model/Runs", "of", "(II)Lcom/example/rolelint/rolelint/model/Runs;"⟩ : MethodName) prog_62_method_2_code 2 (some (.object "com/example/rolelint/rolelint/model/Runs")) :: ws) own_r1n) (fun a_ U_ => a_ = #[(.int ss), (.int ee)] ∧ Z.Warmed39 U_.vm ∧ U_.heap = h0) (fun _ _ _ _ _ => True) (fun _ U_ o_ U'_ => ∃ v_ L_, o_ = .returned v_ ∧ own_Q1n Z ss ee  aN  h0 n0 v_ U'_.heap L_ ∧ FrameEnd U_ o_ U'_ L_ own_r1n.cells own_r1n.slots) := by
  refine MetFree.of_bodySF (plainFor_of_name own_pn0) hisR ?_
  intro p e s m args below meth c s₁ Bd hml0 hP hK
  obtain ⟨rfl, hZ, hh⟩ := hP
  have hx := Bd.exec
  have hby := Bd.bytes
  have hml : c.maxLocals = 2 := hml0
  have hown : s.vm.findClass "com/example/rolelint/rolelint/model/Runs" = some m.cls := findClass_of_methodNamed Bd.named
  have hnm := (name_of_methodNamed Bd.named Bd.method).1
  have X0 : Stand p l e own_r1n s m #[(.int ss), (.int ee)] below meth c s₁ [] 0 0 := Stand.of_body Bd
  have e0 : s₁.heap = h0 := by rw [← hh, Bd.state]; rfl
  have N0 := Fr.nil n0
  refine own_in (own_ef1n m ss ee) ?_
  show own_Go p e below (own_K s (own_Q1n Z ss ee  aN  h0 n0) own_r1n.cells own_r1n.slots) s₁ (mkF m 0 #[.val (.int ss), .val (.int ee)] [])
  refine own_st (T' := s₁) (g' := (mkF m 26 #[.val (.int ss), .val (.int ee)] [])) (fun t k => ?_) ?_
  · show Steps p.tables e below (s₁.setTop (mkF m 0 #[.val (.int ss), .val (.int ee)] [])) t
    refine XS.iloadN X0.here hx rfl (hb hby own_d1_0) rfl ?_
    show Steps p.tables e below (s₁.setTop (mkF m 1 #[.val (.int ss), .val (.int ee)] [(.int ss)])) t
    refine XS.iloadN X0.here hx rfl (hb hby own_d1_1) rfl ?_
    show Steps p.tables e below (s₁.setTop (mkF m 2 #[.val (.int ss), .val (.int ee)] [(.int ee), (.int ss)])) t
    refine XS.icmpYes X0.here hx rfl (pc0 := 2) (pc' := 26) rfl (hb hby own_d1_2) rfl (flt hse).2.1 (by decide) (by decide) ?_
    show Steps p.tables e below (s₁.setTop (mkF m 26 #[.val (.int ss), .val (.int ee)] [])) t
    exact k
  obtain ⟨T1, X1, e1, st1⟩ := getS2 X0 hx hZ hown (host := "") (Or.inl (hw _ (List.mem_of_getElem? (i := 38) rfl))) Via.refl e0 S_N (g := (mkF m 26 #[.val (.int ss), .val (.int ee)] [])) rfl (hb hby own_d1_26)
  refine own_st (T' := T1) (g' := (mkF m 29 #[.val (.int ss), .val (.int ee)] [(.ref aN)])) st1 ?_
  exact own_retA X1 hx Bd rfl rfl (hb hby own_d1_29) e1 (⟨rfl, N0, rfl⟩) (by decide) (by decide)
def own_r4y : Room := { frames := 0, cells := 0, slots := 0, locals := 0 }
theorem own_ef4y (m : MethodId) (x0 : Addr) : entryFrame m #[(.ref x0)] 1 = mkF m 0 #[.val (.ref x0)] [] := by first | (simp [entryFrame, mkF, argsToLocals, Value.category]; done) | rfl
def own_Q4y (Z : State) (r arr : Addr) (k : ClassId) (ss ee : Int32) (h0 : Heap) (n0 : Nat) : Option Value → Heap → List Loc → Prop := fun v h L => v = some (.int (1 : Int32)) ∧ Fr n0 L ∧ h = h0
set_option maxRecDepth 65536 in
set_option maxHeartbeats 40000000 in
theorem own_rm4y (l : Launch) (Z : State) (a0 : Array Value) (hw : ∀ d ∈ tables_1, d.before a0 Z = true) (ws : List Jvm.Cond) (r arr : Addr) (k : ClassId) (ss ee : Int32) (h0 : Heap) (n0 : Nat) (Z0 : n0 ≤ h0.size) (E_r : Exa Z h0 r "com/example/rolelint/rolelint/model/Runs") (F_r : Fld Z h0 r "com/example/rolelint/rolelint/model/Runs" "bounds" "[I" (.ref arr)) (V_a : Arv Z h0 arr k .int (2 : Int32) [(.int ss), (.int ee)] (.int (0 : Int32))) :
    MetFree l (⟨"com/example/rolelint/rolelint/model/Runs", "count", "()I"⟩ : MethodName) (head1 (Jvm.Cond.code (⟨"com/example/rolelint/rolelint/model/Runs", "count", "()I"⟩ : MethodName) prog_62_method_4_code 1 (some .int) :: ws) own_r4y) (fun a_ U_ => a_ = #[(.ref r)] ∧ Z.Warmed39 U_.vm ∧ U_.heap = h0) (fun _ _ _ _ _ => True) (fun _ U_ o_ U'_ => ∃ v_ L_, o_ = .returned v_ ∧ own_Q4y Z r arr  k  ss ee  h0 n0 v_ U'_.heap L_ ∧ FrameEnd U_ o_ U'_ L_ own_r4y.cells own_r4y.slots) := by
  refine MetFree.of_bodySF (plainFor_of_name own_pn0) hisR ?_
  intro p e s m args below meth c s₁ Bd hml0 hP hK
  obtain ⟨rfl, hZ, hh⟩ := hP
  have hx := Bd.exec
  have hby := Bd.bytes
  have hml : c.maxLocals = 1 := hml0
  have hown : s.vm.findClass "com/example/rolelint/rolelint/model/Runs" = some m.cls := findClass_of_methodNamed Bd.named
  have hnm := (name_of_methodNamed Bd.named Bd.method).1
  have X0 : Stand p l e own_r4y s m #[(.ref r)] below meth c s₁ [] 0 0 := Stand.of_body Bd
  have e0 : s₁.heap = h0 := by rw [← hh, Bd.state]; rfl
  have N0 := Fr.nil n0
  refine own_in (own_ef4y m r) ?_
  show own_Go p e below (own_K s (own_Q4y Z r arr  k  ss ee  h0 n0) own_r4y.cells own_r4y.slots) s₁ (mkF m 0 #[.val (.ref r)] [])
  refine own_st (T' := s₁) (g' := (mkF m 1 #[.val (.ref r)] [(.ref r)])) (fun t k => ?_) ?_
  · show Steps p.tables e below (s₁.setTop (mkF m 0 #[.val (.ref r)] [])) t
    refine XS.aloadN X0.here hx rfl (hb hby own_d4_0) rfl rfl ?_
    show Steps p.tables e below (s₁.setTop (mkF m 1 #[.val (.ref r)] [(.ref r)])) t
    exact k
  obtain ⟨T1, X1, e1, st1⟩ := getF X0 hx hZ hown (host := "") (Or.inl (hw _ (List.mem_of_getElem? (i := 13) rfl))) Via.refl e0 F_r (g := (mkF m 1 #[.val (.ref r)] [(.ref r)])) rfl rfl (hb hby own_d4_1)
  refine own_st (T' := T1) (g' := (mkF m 4 #[.val (.ref r)] [(.ref arr)])) st1 ?_
  obtain ⟨cl2, Ar2, q2, S2, M2, H2, G2⟩ := id V_a
  refine own_st (T' := T1) (g' := (mkF m 7 #[.val (.ref r)] [(.int (1 : Int32))])) (fun t k => ?_) ?_
  · show Steps p.tables e below (T1.setTop (mkF m 4 #[.val (.ref r)] [(.ref arr)])) t
    refine X1.arraylength hx (by rw [e1]; exact Ar2.1) (State.isArrayOf_alike hZ.alike Ar2.2.1) (g := (mkF m 4 #[.val (.ref r)] [(.ref arr)])) rfl rfl (hb hby own_d4_4) _ ?_
    rw [len_of S2 M2]
    show Steps p.tables e below (T1.setTop (mkF m 5 #[.val (.ref r)] [(.int (2 : Int32))])) t
    refine XS.iconst X1.here hx rfl (hb hby own_d4_5) ?_
    show Steps p.tables e below (T1.setTop (mkF m 6 #[.val (.ref r)] [(.int (2 : Int32)), (.int (2 : Int32))])) t
    refine XS.idiv X1.here hx rfl (hb hby own_d4_6) rfl (by decide) ?_
    show Steps p.tables e below (T1.setTop (mkF m 7 #[.val (.ref r)] [(.int (1 : Int32))])) t
    exact k
  exact own_retI X1 hx Bd (hb hby own_d4_7) e1 (⟨rfl, N0, rfl⟩) (by decide) (by decide)
def own_r5y : Room := { frames := 0, cells := 0, slots := 0, locals := 0 }
theorem own_ef5y (m : MethodId) (x0 : Addr) : entryFrame m #[(.ref x0), (.int (0 : Int32))] 2 = mkF m 0 #[.val (.ref x0), .val (.int (0 : Int32))] [] := by first | (simp [entryFrame, mkF, argsToLocals, Value.category]; done) | rfl
def own_Q5y (Z : State) (r arr : Addr) (k : ClassId) (ss ee : Int32) (h0 : Heap) (n0 : Nat) : Option Value → Heap → List Loc → Prop := fun v h L => v = some (.int ss) ∧ Fr n0 L ∧ h = h0
set_option maxRecDepth 65536 in
set_option maxHeartbeats 40000000 in
theorem own_rm5y (l : Launch) (Z : State) (a0 : Array Value) (hw : ∀ d ∈ tables_1, d.before a0 Z = true) (ws : List Jvm.Cond) (r arr : Addr) (k : ClassId) (ss ee : Int32) (h0 : Heap) (n0 : Nat) (Z0 : n0 ≤ h0.size) (E_r : Exa Z h0 r "com/example/rolelint/rolelint/model/Runs") (F_r : Fld Z h0 r "com/example/rolelint/rolelint/model/Runs" "bounds" "[I" (.ref arr)) (V_a : Arv Z h0 arr k .int (2 : Int32) [(.int ss), (.int ee)] (.int (0 : Int32))) :
    MetFree l (⟨"com/example/rolelint/rolelint/model/Runs", "start", "(I)I"⟩ : MethodName) (head1 (Jvm.Cond.code (⟨"com/example/rolelint/rolelint/model/Runs", "start", "(I)I"⟩ : MethodName) prog_62_method_5_code 2 (some .int) :: ws) own_r5y) (fun a_ U_ => a_ = #[(.ref r), (.int (0 : Int32))] ∧ Z.Warmed39 U_.vm ∧ U_.heap = h0) (fun _ _ _ _ _ => True) (fun _ U_ o_ U'_ => ∃ v_ L_, o_ = .returned v_ ∧ own_Q5y Z r arr  k  ss ee  h0 n0 v_ U'_.heap L_ ∧ FrameEnd U_ o_ U'_ L_ own_r5y.cells own_r5y.slots) := by
  refine MetFree.of_bodySF (plainFor_of_name own_pn0) hisR ?_
  intro p e s m args below meth c s₁ Bd hml0 hP hK
  obtain ⟨rfl, hZ, hh⟩ := hP
  have hx := Bd.exec
  have hby := Bd.bytes
  have hml : c.maxLocals = 2 := hml0
  have hown : s.vm.findClass "com/example/rolelint/rolelint/model/Runs" = some m.cls := findClass_of_methodNamed Bd.named
  have hnm := (name_of_methodNamed Bd.named Bd.method).1
  have X0 : Stand p l e own_r5y s m #[(.ref r), (.int (0 : Int32))] below meth c s₁ [] 0 0 := Stand.of_body Bd
  have e0 : s₁.heap = h0 := by rw [← hh, Bd.state]; rfl
  have N0 := Fr.nil n0
  refine own_in (own_ef5y m r) ?_
  show own_Go p e below (own_K s (own_Q5y Z r arr  k  ss ee  h0 n0) own_r5y.cells own_r5y.slots) s₁ (mkF m 0 #[.val (.ref r), .val (.int (0 : Int32))] [])
  refine own_st (T' := s₁) (g' := (mkF m 1 #[.val (.ref r), .val (.int (0 : Int32))] [(.ref r)])) (fun t k => ?_) ?_
  · show Steps p.tables e below (s₁.setTop (mkF m 0 #[.val (.ref r), .val (.int (0 : Int32))] [])) t
    refine XS.aloadN X0.here hx rfl (hb hby own_d5_0) rfl rfl ?_
    show Steps p.tables e below (s₁.setTop (mkF m 1 #[.val (.ref r), .val (.int (0 : Int32))] [(.ref r)])) t
    exact k
  obtain ⟨T1, X1, e1, st1⟩ := getF X0 hx hZ hown (host := "") (Or.inl (hw _ (List.mem_of_getElem? (i := 13) rfl))) Via.refl e0 F_r (g := (mkF m 1 #[.val (.ref r), .val (.int (0 : Int32))] [(.ref r)])) rfl rfl (hb hby own_d5_1)
  refine own_st (T' := T1) (g' := (mkF m 4 #[.val (.ref r), .val (.int (0 : Int32))] [(.ref arr)])) st1 ?_
  refine own_st (T' := T1) (g' := (mkF m 7 #[.val (.ref r), .val (.int (0 : Int32))] [(.int (0 : Int32)), (.ref arr)])) (fun t k => ?_) ?_
  · show Steps p.tables e below (T1.setTop (mkF m 4 #[.val (.ref r), .val (.int (0 : Int32))] [(.ref arr)])) t
    refine XS.iconst X1.here hx rfl (hb hby own_d5_4) ?_
    show Steps p.tables e below (T1.setTop (mkF m 5 #[.val (.ref r), .val (.int (0 : Int32))] [(.int (2 : Int32)), (.ref arr)])) t
    refine XS.iloadN X1.here hx rfl (hb hby own_d5_5) rfl ?_
    show Steps p.tables e below (T1.setTop (mkF m 6 #[.val (.ref r), .val (.int (0 : Int32))] [(.int (0 : Int32)), (.int (2 : Int32)), (.ref arr)])) t
    refine XS.imul X1.here hx rfl (hb hby own_d5_6) rfl ?_
    show Steps p.tables e below (T1.setTop (mkF m 7 #[.val (.ref r), .val (.int (0 : Int32))] [(.int (0 : Int32)), (.ref arr)])) t
    exact k
  obtain ⟨cl2, Ar2, q2, S2, M2, H2, G2⟩ := id V_a
  refine own_st (T' := T1) (g' := (mkF m 8 #[.val (.ref r), .val (.int (0 : Int32))] [(.int ss)])) (fun t k => ?_) ?_
  · show Steps p.tables e below (T1.setTop (mkF m 7 #[.val (.ref r), .val (.int (0 : Int32))] [(.int (0 : Int32)), (.ref arr)])) t
    refine X1.iaload hx (j := (0 : Int32)) (v := (.int ss)) (by rw [e1]; exact Ar2.1) (State.isArrayOf_alike hZ.alike Ar2.2.1) Ar2.2.2 (inb_of S2 ⟨by decide, by decide⟩) (Has.at H2 (inb_of S2 ⟨by decide, by decide⟩) rfl) (g := (mkF m 7 #[.val (.ref r), .val (.int (0 : Int32))] [(.int (0 : Int32)), (.ref arr)])) rfl rfl (hb hby own_d5_7) _ ?_
    show Steps p.tables e below (T1.setTop (mkF m 8 #[.val (.ref r), .val (.int (0 : Int32))] [(.int ss)])) t
    exact k
  exact own_retI X1 hx Bd (hb hby own_d5_8) e1 (⟨rfl, N0, rfl⟩) (by decide) (by decide)
def own_r6y : Room := { frames := 0, cells := 0, slots := 0, locals := 0 }
theorem own_ef6y (m : MethodId) (x0 : Addr) : entryFrame m #[(.ref x0), (.int (0 : Int32))] 2 = mkF m 0 #[.val (.ref x0), .val (.int (0 : Int32))] [] := by first | (simp [entryFrame, mkF, argsToLocals, Value.category]; done) | rfl
def own_Q6y (Z : State) (r arr : Addr) (k : ClassId) (ss ee : Int32) (h0 : Heap) (n0 : Nat) : Option Value → Heap → List Loc → Prop := fun v h L => v = some (.int ee) ∧ Fr n0 L ∧ h = h0
set_option maxRecDepth 65536 in
set_option maxHeartbeats 40000000 in
theorem own_rm6y (l : Launch) (Z : State) (a0 : Array Value) (hw : ∀ d ∈ tables_1, d.before a0 Z = true) (ws : List Jvm.Cond) (r arr : Addr) (k : ClassId) (ss ee : Int32) (h0 : Heap) (n0 : Nat) (Z0 : n0 ≤ h0.size) (E_r : Exa Z h0 r "com/example/rolelint/rolelint/model/Runs") (F_r : Fld Z h0 r "com/example/rolelint/rolelint/model/Runs" "bounds" "[I" (.ref arr)) (V_a : Arv Z h0 arr k .int (2 : Int32) [(.int ss), (.int ee)] (.int (0 : Int32))) :
    MetFree l (⟨"com/example/rolelint/rolelint/model/Runs", "end", "(I)I"⟩ : MethodName) (head1 (Jvm.Cond.code (⟨"com/example/rolelint/rolelint/model/Runs", "end", "(I)I"⟩ : MethodName) prog_62_method_6_code 2 (some .int) :: ws) own_r6y) (fun a_ U_ => a_ = #[(.ref r), (.int (0 : Int32))] ∧ Z.Warmed39 U_.vm ∧ U_.heap = h0) (fun _ _ _ _ _ => True) (fun _ U_ o_ U'_ => ∃ v_ L_, o_ = .returned v_ ∧ own_Q6y Z r arr  k  ss ee  h0 n0 v_ U'_.heap L_ ∧ FrameEnd U_ o_ U'_ L_ own_r6y.cells own_r6y.slots) := by
  refine MetFree.of_bodySF (plainFor_of_name own_pn0) hisR ?_
  intro p e s m args below meth c s₁ Bd hml0 hP hK
  obtain ⟨rfl, hZ, hh⟩ := hP
  have hx := Bd.exec
  have hby := Bd.bytes
  have hml : c.maxLocals = 2 := hml0
  have hown : s.vm.findClass "com/example/rolelint/rolelint/model/Runs" = some m.cls := findClass_of_methodNamed Bd.named
  have hnm := (name_of_methodNamed Bd.named Bd.method).1
  have X0 : Stand p l e own_r6y s m #[(.ref r), (.int (0 : Int32))] below meth c s₁ [] 0 0 := Stand.of_body Bd
  have e0 : s₁.heap = h0 := by rw [← hh, Bd.state]; rfl
  have N0 := Fr.nil n0
  refine own_in (own_ef6y m r) ?_
  show own_Go p e below (own_K s (own_Q6y Z r arr  k  ss ee  h0 n0) own_r6y.cells own_r6y.slots) s₁ (mkF m 0 #[.val (.ref r), .val (.int (0 : Int32))] [])
  refine own_st (T' := s₁) (g' := (mkF m 1 #[.val (.ref r), .val (.int (0 : Int32))] [(.ref r)])) (fun t k => ?_) ?_
  · show Steps p.tables e below (s₁.setTop (mkF m 0 #[.val (.ref r), .val (.int (0 : Int32))] [])) t
    refine XS.aloadN X0.here hx rfl (hb hby own_d6_0) rfl rfl ?_
    show Steps p.tables e below (s₁.setTop (mkF m 1 #[.val (.ref r), .val (.int (0 : Int32))] [(.ref r)])) t
    exact k
  obtain ⟨T1, X1, e1, st1⟩ := getF X0 hx hZ hown (host := "") (Or.inl (hw _ (List.mem_of_getElem? (i := 13) rfl))) Via.refl e0 F_r (g := (mkF m 1 #[.val (.ref r), .val (.int (0 : Int32))] [(.ref r)])) rfl rfl (hb hby own_d6_1)
  refine own_st (T' := T1) (g' := (mkF m 4 #[.val (.ref r), .val (.int (0 : Int32))] [(.ref arr)])) st1 ?_
  refine own_st (T' := T1) (g' := (mkF m 9 #[.val (.ref r), .val (.int (0 : Int32))] [(.int (1 : Int32)), (.ref arr)])) (fun t k => ?_) ?_
  · show Steps p.tables e below (T1.setTop (mkF m 4 #[.val (.ref r), .val (.int (0 : Int32))] [(.ref arr)])) t
    refine XS.iconst X1.here hx rfl (hb hby own_d6_4) ?_
    show Steps p.tables e below (T1.setTop (mkF m 5 #[.val (.ref r), .val (.int (0 : Int32))] [(.int (2 : Int32)), (.ref arr)])) t
    refine XS.iloadN X1.here hx rfl (hb hby own_d6_5) rfl ?_
    show Steps p.tables e below (T1.setTop (mkF m 6 #[.val (.ref r), .val (.int (0 : Int32))] [(.int (0 : Int32)), (.int (2 : Int32)), (.ref arr)])) t
    refine XS.imul X1.here hx rfl (hb hby own_d6_6) rfl ?_
    show Steps p.tables e below (T1.setTop (mkF m 7 #[.val (.ref r), .val (.int (0 : Int32))] [(.int (0 : Int32)), (.ref arr)])) t
    refine XS.iconst X1.here hx rfl (hb hby own_d6_7) ?_
    show Steps p.tables e below (T1.setTop (mkF m 8 #[.val (.ref r), .val (.int (0 : Int32))] [(.int (1 : Int32)), (.int (0 : Int32)), (.ref arr)])) t
    refine XS.iadd X1.here hx rfl (hb hby own_d6_8) rfl ?_
    show Steps p.tables e below (T1.setTop (mkF m 9 #[.val (.ref r), .val (.int (0 : Int32))] [(.int (1 : Int32)), (.ref arr)])) t
    exact k
  obtain ⟨cl2, Ar2, q2, S2, M2, H2, G2⟩ := id V_a
  refine own_st (T' := T1) (g' := (mkF m 10 #[.val (.ref r), .val (.int (0 : Int32))] [(.int ee)])) (fun t k => ?_) ?_
  · show Steps p.tables e below (T1.setTop (mkF m 9 #[.val (.ref r), .val (.int (0 : Int32))] [(.int (1 : Int32)), (.ref arr)])) t
    refine X1.iaload hx (j := (1 : Int32)) (v := (.int ee)) (by rw [e1]; exact Ar2.1) (State.isArrayOf_alike hZ.alike Ar2.2.1) Ar2.2.2 (inb_of S2 ⟨by decide, by decide⟩) (Has.at H2 (inb_of S2 ⟨by decide, by decide⟩) rfl) (g := (mkF m 9 #[.val (.ref r), .val (.int (0 : Int32))] [(.int (1 : Int32)), (.ref arr)])) rfl rfl (hb hby own_d6_9) _ ?_
    show Steps p.tables e below (T1.setTop (mkF m 10 #[.val (.ref r), .val (.int (0 : Int32))] [(.int ee)])) t
    exact k
  exact own_retI X1 hx Bd (hb hby own_d6_10) e1 (⟨rfl, N0, rfl⟩) (by decide) (by decide)
def own_r7y : Room := { frames := 1, cells := 0, slots := 0, locals := 13 }
theorem own_ef7y (m : MethodId) (x0 : Addr) (x1 : Int32) : entryFrame m #[(.ref x0), (.int x1)] 5 = mkF m 0 #[.val (.ref x0), .val (.int x1), .unset, .unset, .unset] [] := by first | (simp [entryFrame, mkF, argsToLocals, Value.category]; done) | rfl
def own_Q7y (Z : State) (r arr : Addr) (k : ClassId) (ss ee : Int32) (xx : Int32) (h0 : Heap) (n0 : Nat) : Option Value → Heap → List Loc → Prop := fun v h L => v = some (.int (own_in1 ss ee xx)) ∧ Fr n0 L ∧ h = h0
set_option maxRecDepth 65536 in
set_option maxHeartbeats 40000000 in
theorem own_rm7y (l : Launch) (Z : State) (a0 : Array Value) (hw : ∀ d ∈ tables_1, d.before a0 Z = true) (ws : List Jvm.Cond) (r arr : Addr) (k : ClassId) (ss ee : Int32) (xx : Int32) (h0 : Heap) (n0 : Nat) (Z0 : n0 ≤ h0.size) (E_r : Exa Z h0 r "com/example/rolelint/rolelint/model/Runs") (F_r : Fld Z h0 r "com/example/rolelint/rolelint/model/Runs" "bounds" "[I" (.ref arr)) (V_a : Arv Z h0 arr k .int (2 : Int32) [(.int ss), (.int ee)] (.int (0 : Int32))) :
    MetFree l (⟨"com/example/rolelint/rolelint/model/Runs", "contains", "(I)Z"⟩ : MethodName) (head1 (Jvm.Cond.code (⟨"com/example/rolelint/rolelint/model/Runs", "contains", "(I)Z"⟩ : MethodName) prog_62_method_7_code 5 (some .boolean) :: ws) own_r7y) (fun a_ U_ => a_ = #[(.ref r), (.int xx)] ∧ Z.Warmed39 U_.vm ∧ U_.heap = h0) (fun _ _ _ _ _ => True) (fun _ U_ o_ U'_ => ∃ v_ L_, o_ = .returned v_ ∧ own_Q7y Z r arr  k  ss ee  xx  h0 n0 v_ U'_.heap L_ ∧ FrameEnd U_ o_ U'_ L_ own_r7y.cells own_r7y.slots) := by
  refine MetFree.of_bodySF (plainFor_of_name own_pn0) hisR ?_
  intro p e s m args below meth c s₁ Bd hml0 hP hK
  obtain ⟨rfl, hZ, hh⟩ := hP
  have hx := Bd.exec
  have hby := Bd.bytes
  have hml : c.maxLocals = 5 := hml0
  have hown : s.vm.findClass "com/example/rolelint/rolelint/model/Runs" = some m.cls := findClass_of_methodNamed Bd.named
  have hnm := (name_of_methodNamed Bd.named Bd.method).1
  have X0 : Stand p l e own_r7y s m #[(.ref r), (.int xx)] below meth c s₁ [] 0 0 := Stand.of_body Bd
  have e0 : s₁.heap = h0 := by rw [← hh, Bd.state]; rfl
  have N0 := Fr.nil n0
  refine own_in (own_ef7y m r xx) ?_
  show own_Go p e below (own_K s (own_Q7y Z r arr  k  ss ee  xx  h0 n0) own_r7y.cells own_r7y.slots) s₁ (mkF m 0 #[.val (.ref r), .val (.int xx), .unset, .unset, .unset] [])
  refine own_st (T' := s₁) (g' := (mkF m 3 #[.val (.ref r), .val (.int xx), .val (.int (0 : Int32)), .unset, .unset] [(.ref r)])) (fun t k => ?_) ?_
  · show Steps p.tables e below (s₁.setTop (mkF m 0 #[.val (.ref r), .val (.int xx), .unset, .unset, .unset] [])) t
    refine XS.iconst X0.here hx rfl (hb hby own_d7_0) ?_
    show Steps p.tables e below (s₁.setTop (mkF m 1 #[.val (.ref r), .val (.int xx), .unset, .unset, .unset] [(.int (0 : Int32))])) t
    refine XS.istoreN X0.here hx rfl (hb hby own_d7_1) rfl (l' := #[.val (.ref r), .val (.int xx), .val (.int (0 : Int32)), .unset, .unset]) rfl ?_
    show Steps p.tables e below (s₁.setTop (mkF m 2 #[.val (.ref r), .val (.int xx), .val (.int (0 : Int32)), .unset, .unset] [])) t
    refine XS.aloadN X0.here hx rfl (hb hby own_d7_2) rfl rfl ?_
    show Steps p.tables e below (s₁.setTop (mkF m 3 #[.val (.ref r), .val (.int xx), .val (.int (0 : Int32)), .unset, .unset] [(.ref r)])) t
    exact k
  obtain ⟨cq1, kq1, q1a, q1b, q1c⟩ := isOf hZ e0 E_r
  obtain ⟨_, _, ⟨T1, L1, c1, n1⟩, -, X1, ⟨Lc1, hQ1, l1, y1, z1⟩, st1⟩ := X0.virtualBack hx (y := (⟨"com/example/rolelint/rolelint/model/Runs", "count", "()I"⟩ : MethodName)) (z := (⟨"com/example/rolelint/rolelint/model/Runs", "count", "()I"⟩ : MethodName)) hown (mvT hZ (hw _ (List.mem_of_getElem? (i := 35) rfl))) (mvT hZ (hw _ (List.mem_of_getElem? (i := 16) rfl))) (notFace_of_selects (args := #[]) (mvT hZ (hw _ (List.mem_of_getElem? (i := 18) rfl)))) (mvT hZ (hw _ (List.mem_of_getElem? (i := 18) rfl))) (mvT hZ (hw _ (List.mem_of_getElem? (i := 17) rfl))) (by decide) (backOf (W := 0) (own_rm4y l Z a0 hw [] r arr k ss ee h0 n0 Z0 E_r F_r V_a) hZ (hw _ (List.mem_of_getElem? (i := 19) rfl)) (hw _ (List.mem_of_getElem? (i := 2) rfl)) (by decide) (by decide)) q1a q1c (g := (mkF m 3 #[.val (.ref r), .val (.int xx), .val (.int (0 : Int32)), .unset, .unset] [(.ref r)])) rfl (by rw [hml]; rfl) (Steps.refl _) (argsL := []) (rest := []) (lenOf own_pd1 rfl) rfl (by show 2 * 0 + _ ≤ _; exact Nat.le_of_eq rfl) (hb hby own_d7_3) (fun _ _ => ⟨rfl, e0, (by decide : 0 + 0 ≤ _), (by decide : 0 + 0 ≤ _)⟩)
  dsimp only [Pt.U, Pt.locs, Pt.cells, Pt.slots] at X1 l1 y1 z1 st1 hQ1
  subst l1 y1 z1
  obtain ⟨rfl, N1q, e1⟩ := hQ1
  have N1 := Fr.app N0 N1q
  refine own_tr (T' := T1) (g' := (mkF m 6 #[.val (.ref r), .val (.int xx), .val (.int (0 : Int32)), .unset, .unset] [(.int (1 : Int32))])) st1 ?_
  refine own_st (T' := T1) (g' := (mkF m 22 #[.val (.ref r), .val (.int xx), .val (.int (0 : Int32)), .val (.int (1 : Int32)), .val (.int (0 : Int32))] [(.int (0 : Int32)), (.ref r)])) (fun t k => ?_) ?_
  · show Steps p.tables e below (T1.setTop (mkF m 6 #[.val (.ref r), .val (.int xx), .val (.int (0 : Int32)), .unset, .unset] [(.int (1 : Int32))])) t
    refine XS.istoreN X1.here hx rfl (hb hby own_d7_6) rfl (l' := #[.val (.ref r), .val (.int xx), .val (.int (0 : Int32)), .val (.int (1 : Int32)), .unset]) rfl ?_
    show Steps p.tables e below (T1.setTop (mkF m 7 #[.val (.ref r), .val (.int xx), .val (.int (0 : Int32)), .val (.int (1 : Int32)), .unset] [])) t
    refine XS.iloadN X1.here hx rfl (hb hby own_d7_7) rfl ?_
    show Steps p.tables e below (T1.setTop (mkF m 8 #[.val (.ref r), .val (.int xx), .val (.int (0 : Int32)), .val (.int (1 : Int32)), .unset] [(.int (0 : Int32))])) t
    refine XS.iloadN X1.here hx rfl (hb hby own_d7_8) rfl ?_
    show Steps p.tables e below (T1.setTop (mkF m 9 #[.val (.ref r), .val (.int xx), .val (.int (0 : Int32)), .val (.int (1 : Int32)), .unset] [(.int (1 : Int32)), (.int (0 : Int32))])) t
    refine XS.icmpNo X1.here hx rfl (hb hby own_d7_9) rfl (tlt (by decide : (0 : Int32) < (1 : Int32))).2.1 ?_
    show Steps p.tables e below (T1.setTop (mkF m 12 #[.val (.ref r), .val (.int xx), .val (.int (0 : Int32)), .val (.int (1 : Int32)), .unset] [])) t
    refine XS.iloadN X1.here hx rfl (hb hby own_d7_12) rfl ?_
    show Steps p.tables e below (T1.setTop (mkF m 13 #[.val (.ref r), .val (.int xx), .val (.int (0 : Int32)), .val (.int (1 : Int32)), .unset] [(.int (0 : Int32))])) t
    refine XS.iloadN X1.here hx rfl (hb hby own_d7_13) rfl ?_
    show Steps p.tables e below (T1.setTop (mkF m 14 #[.val (.ref r), .val (.int xx), .val (.int (0 : Int32)), .val (.int (1 : Int32)), .unset] [(.int (1 : Int32)), (.int (0 : Int32))])) t
    refine XS.iadd X1.here hx rfl (hb hby own_d7_14) rfl ?_
    show Steps p.tables e below (T1.setTop (mkF m 15 #[.val (.ref r), .val (.int xx), .val (.int (0 : Int32)), .val (.int (1 : Int32)), .unset] [(.int (1 : Int32))])) t
    refine XS.iconst X1.here hx rfl (hb hby own_d7_15) ?_
    show Steps p.tables e below (T1.setTop (mkF m 16 #[.val (.ref r), .val (.int xx), .val (.int (0 : Int32)), .val (.int (1 : Int32)), .unset] [(.int (1 : Int32)), (.int (1 : Int32))])) t
    refine XS.iushr X1.here hx rfl (hb hby own_d7_16) rfl ?_
    show Steps p.tables e below (T1.setTop (mkF m 17 #[.val (.ref r), .val (.int xx), .val (.int (0 : Int32)), .val (.int (1 : Int32)), .unset] [(.int (0 : Int32))])) t
    refine XS.istore X1.here hx rfl (hb hby own_d7_17) rfl (l' := #[.val (.ref r), .val (.int xx), .val (.int (0 : Int32)), .val (.int (1 : Int32)), .val (.int (0 : Int32))]) rfl ?_
    show Steps p.tables e below (T1.setTop (mkF m 19 #[.val (.ref r), .val (.int xx), .val (.int (0 : Int32)), .val (.int (1 : Int32)), .val (.int (0 : Int32))] [])) t
    refine XS.aloadN X1.here hx rfl (hb hby own_d7_19) rfl rfl ?_
    show Steps p.tables e below (T1.setTop (mkF m 20 #[.val (.ref r), .val (.int xx), .val (.int (0 : Int32)), .val (.int (1 : Int32)), .val (.int (0 : Int32))] [(.ref r)])) t
    refine XS.iload X1.here hx rfl (hb hby own_d7_20) rfl ?_
    show Steps p.tables e below (T1.setTop (mkF m 22 #[.val (.ref r), .val (.int xx), .val (.int (0 : Int32)), .val (.int (1 : Int32)), .val (.int (0 : Int32))] [(.int (0 : Int32)), (.ref r)])) t
    exact k
  obtain ⟨cq2, kq2, q2a, q2b, q2c⟩ := isOf hZ e1 E_r
  obtain ⟨_, _, ⟨T2, L2, c2, n2⟩, -, X2, ⟨Lc2, hQ2, l2, y2, z2⟩, st2⟩ := X1.virtualBack hx (y := (⟨"com/example/rolelint/rolelint/model/Runs", "end", "(I)I"⟩ : MethodName)) (z := (⟨"com/example/rolelint/rolelint/model/Runs", "end", "(I)I"⟩ : MethodName)) hown (mvT hZ (hw _ (List.mem_of_getElem? (i := 36) rfl))) (mvT hZ (hw _ (List.mem_of_getElem? (i := 26) rfl))) (notFace_of_selects (args := #[]) (mvT hZ (hw _ (List.mem_of_getElem? (i := 28) rfl)))) (mvT hZ (hw _ (List.mem_of_getElem? (i := 28) rfl))) (mvT hZ (hw _ (List.mem_of_getElem? (i := 27) rfl))) (by decide) (backOf (W := 0) (own_rm6y l Z a0 hw [] r arr k ss ee h0 n0 Z0 E_r F_r V_a) hZ (hw _ (List.mem_of_getElem? (i := 29) rfl)) (hw _ (List.mem_of_getElem? (i := 2) rfl)) (by decide) (by decide)) q2a q2c (g := (mkF m 22 #[.val (.ref r), .val (.int xx), .val (.int (0 : Int32)), .val (.int (1 : Int32)), .val (.int (0 : Int32))] [(.int (0 : Int32)), (.ref r)])) rfl (by rw [hml]; rfl) (Steps.refl _) (argsL := [(.int (0 : Int32))]) (rest := []) (lenOf own_pd2 rfl) rfl (by show 2 * 0 + _ ≤ _; exact Nat.le_of_eq rfl) (hb hby own_d7_22) (fun _ _ => ⟨rfl, e1, (by decide : 0 + 0 ≤ _), (by decide : 0 + 0 ≤ _)⟩)
  dsimp only [Pt.U, Pt.locs, Pt.cells, Pt.slots] at X2 l2 y2 z2 st2 hQ2
  subst l2 y2 z2
  obtain ⟨rfl, N2q, e2⟩ := hQ2
  have N2 := Fr.app N1 N2q
  refine own_tr (T' := T2) (g' := (mkF m 25 #[.val (.ref r), .val (.int xx), .val (.int (0 : Int32)), .val (.int (1 : Int32)), .val (.int (0 : Int32))] [(.int ee)])) st2 ?_
  refine own_st (T' := T2) (g' := (mkF m 26 #[.val (.ref r), .val (.int xx), .val (.int (0 : Int32)), .val (.int (1 : Int32)), .val (.int (0 : Int32))] [(.int xx), (.int ee)])) (fun t k => ?_) ?_
  · show Steps p.tables e below (T2.setTop (mkF m 25 #[.val (.ref r), .val (.int xx), .val (.int (0 : Int32)), .val (.int (1 : Int32)), .val (.int (0 : Int32))] [(.int ee)])) t
    refine XS.iloadN X2.here hx rfl (hb hby own_d7_25) rfl ?_
    show Steps p.tables e below (T2.setTop (mkF m 26 #[.val (.ref r), .val (.int xx), .val (.int (0 : Int32)), .val (.int (1 : Int32)), .val (.int (0 : Int32))] [(.int xx), (.int ee)])) t
    exact k
  by_cases hc3 : xx < ee
  · refine own_st (T' := T2) (g' := (mkF m 45 #[.val (.ref r), .val (.int xx), .val (.int (0 : Int32)), .val (.int (0 : Int32)), .val (.int (0 : Int32))] [(.ref r), (.int (0 : Int32))])) (fun t k => ?_) ?_
    · show Steps p.tables e below (T2.setTop (mkF m 26 #[.val (.ref r), .val (.int xx), .val (.int (0 : Int32)), .val (.int (1 : Int32)), .val (.int (0 : Int32))] [(.int xx), (.int ee)])) t
      refine XS.icmpYes X2.here hx rfl (pc0 := 26) (pc' := 37) rfl (hb hby own_d7_26) rfl (tlt hc3).2.2.1 (by decide) (by decide) ?_
      show Steps p.tables e below (T2.setTop (mkF m 37 #[.val (.ref r), .val (.int xx), .val (.int (0 : Int32)), .val (.int (1 : Int32)), .val (.int (0 : Int32))] [])) t
      refine XS.iload X2.here hx rfl (hb hby own_d7_37) rfl ?_
      show Steps p.tables e below (T2.setTop (mkF m 39 #[.val (.ref r), .val (.int xx), .val (.int (0 : Int32)), .val (.int (1 : Int32)), .val (.int (0 : Int32))] [(.int (0 : Int32))])) t
      refine XS.istoreN X2.here hx rfl (hb hby own_d7_39) rfl (l' := #[.val (.ref r), .val (.int xx), .val (.int (0 : Int32)), .val (.int (0 : Int32)), .val (.int (0 : Int32))]) rfl ?_
      show Steps p.tables e below (T2.setTop (mkF m 40 #[.val (.ref r), .val (.int xx), .val (.int (0 : Int32)), .val (.int (0 : Int32)), .val (.int (0 : Int32))] [])) t
      refine XS.goto X2.here hx rfl (pc0 := 40) (pc' := 7) rfl (hb hby own_d7_40) (by decide) (by decide) ?_
      show Steps p.tables e below (T2.setTop (mkF m 7 #[.val (.ref r), .val (.int xx), .val (.int (0 : Int32)), .val (.int (0 : Int32)), .val (.int (0 : Int32))] [])) t
      refine XS.iloadN X2.here hx rfl (hb hby own_d7_7) rfl ?_
      show Steps p.tables e below (T2.setTop (mkF m 8 #[.val (.ref r), .val (.int xx), .val (.int (0 : Int32)), .val (.int (0 : Int32)), .val (.int (0 : Int32))] [(.int (0 : Int32))])) t
      refine XS.iloadN X2.here hx rfl (hb hby own_d7_8) rfl ?_
      show Steps p.tables e below (T2.setTop (mkF m 9 #[.val (.ref r), .val (.int xx), .val (.int (0 : Int32)), .val (.int (0 : Int32)), .val (.int (0 : Int32))] [(.int (0 : Int32)), (.int (0 : Int32))])) t
      refine XS.icmpYes X2.here hx rfl (pc0 := 9) (pc' := 43) rfl (hb hby own_d7_9) rfl (flt Int32.lt_irrefl).2.1 (by decide) (by decide) ?_
      show Steps p.tables e below (T2.setTop (mkF m 43 #[.val (.ref r), .val (.int xx), .val (.int (0 : Int32)), .val (.int (0 : Int32)), .val (.int (0 : Int32))] [])) t
      refine XS.iloadN X2.here hx rfl (hb hby own_d7_43) rfl ?_
      show Steps p.tables e below (T2.setTop (mkF m 44 #[.val (.ref r), .val (.int xx), .val (.int (0 : Int32)), .val (.int (0 : Int32)), .val (.int (0 : Int32))] [(.int (0 : Int32))])) t
      refine XS.aloadN X2.here hx rfl (hb hby own_d7_44) rfl rfl ?_
      show Steps p.tables e below (T2.setTop (mkF m 45 #[.val (.ref r), .val (.int xx), .val (.int (0 : Int32)), .val (.int (0 : Int32)), .val (.int (0 : Int32))] [(.ref r), (.int (0 : Int32))])) t
      exact k
    obtain ⟨cq4, kq4, q4a, q4b, q4c⟩ := isOf hZ e2 E_r
    obtain ⟨_, _, ⟨T4, L4, c4, n4⟩, -, X4, ⟨Lc4, hQ4, l4, y4, z4⟩, st4⟩ := X2.virtualBack hx (y := (⟨"com/example/rolelint/rolelint/model/Runs", "count", "()I"⟩ : MethodName)) (z := (⟨"com/example/rolelint/rolelint/model/Runs", "count", "()I"⟩ : MethodName)) hown (mvT hZ (hw _ (List.mem_of_getElem? (i := 35) rfl))) (mvT hZ (hw _ (List.mem_of_getElem? (i := 16) rfl))) (notFace_of_selects (args := #[]) (mvT hZ (hw _ (List.mem_of_getElem? (i := 18) rfl)))) (mvT hZ (hw _ (List.mem_of_getElem? (i := 18) rfl))) (mvT hZ (hw _ (List.mem_of_getElem? (i := 17) rfl))) (by decide) (backOf (W := 1) (own_rm4y l Z a0 hw [] r arr k ss ee h0 n0 Z0 E_r F_r V_a) hZ (hw _ (List.mem_of_getElem? (i := 19) rfl)) (hw _ (List.mem_of_getElem? (i := 2) rfl)) (by decide) (by decide)) q4a q4c (g := (mkF m 45 #[.val (.ref r), .val (.int xx), .val (.int (0 : Int32)), .val (.int (0 : Int32)), .val (.int (0 : Int32))] [(.ref r), (.int (0 : Int32))])) rfl (by rw [hml]; rfl) (Steps.refl _) (argsL := []) (rest := [(.int (0 : Int32))]) (lenOf own_pd1 rfl) rfl (by show 2 * 0 + _ ≤ _; exact Nat.le_of_eq rfl) (hb hby own_d7_45) (fun _ _ => ⟨rfl, e2, (by decide : 0 + 0 ≤ _), (by decide : 0 + 0 ≤ _)⟩)
    dsimp only [Pt.U, Pt.locs, Pt.cells, Pt.slots] at X4 l4 y4 z4 st4 hQ4
    subst l4 y4 z4
    obtain ⟨rfl, N4q, e4⟩ := hQ4
    have N4 := Fr.app N2 N4q
    refine own_tr (T' := T4) (g' := (mkF m 48 #[.val (.ref r), .val (.int xx), .val (.int (0 : Int32)), .val (.int (0 : Int32)), .val (.int (0 : Int32))] [(.int (1 : Int32)), (.int (0 : Int32))])) st4 ?_
    refine own_st (T' := T4) (g' := (mkF m 53 #[.val (.ref r), .val (.int xx), .val (.int (0 : Int32)), .val (.int (0 : Int32)), .val (.int (0 : Int32))] [(.int (0 : Int32)), (.ref r)])) (fun t k => ?_) ?_
    · show Steps p.tables e below (T4.setTop (mkF m 48 #[.val (.ref r), .val (.int xx), .val (.int (0 : Int32)), .val (.int (0 : Int32)), .val (.int (0 : Int32))] [(.int (1 : Int32)), (.int (0 : Int32))])) t
      refine XS.icmpNo X4.here hx rfl (hb hby own_d7_48) rfl (tlt (by decide : (0 : Int32) < (1 : Int32))).2.1 ?_
      show Steps p.tables e below (T4.setTop (mkF m 51 #[.val (.ref r), .val (.int xx), .val (.int (0 : Int32)), .val (.int (0 : Int32)), .val (.int (0 : Int32))] [])) t
      refine XS.aloadN X4.here hx rfl (hb hby own_d7_51) rfl rfl ?_
      show Steps p.tables e below (T4.setTop (mkF m 52 #[.val (.ref r), .val (.int xx), .val (.int (0 : Int32)), .val (.int (0 : Int32)), .val (.int (0 : Int32))] [(.ref r)])) t
      refine XS.iloadN X4.here hx rfl (hb hby own_d7_52) rfl ?_
      show Steps p.tables e below (T4.setTop (mkF m 53 #[.val (.ref r), .val (.int xx), .val (.int (0 : Int32)), .val (.int (0 : Int32)), .val (.int (0 : Int32))] [(.int (0 : Int32)), (.ref r)])) t
      exact k
    obtain ⟨cq5, kq5, q5a, q5b, q5c⟩ := isOf hZ e4 E_r
    obtain ⟨_, _, ⟨T5, L5, c5, n5⟩, -, X5, ⟨Lc5, hQ5, l5, y5, z5⟩, st5⟩ := X4.virtualBack hx (y := (⟨"com/example/rolelint/rolelint/model/Runs", "start", "(I)I"⟩ : MethodName)) (z := (⟨"com/example/rolelint/rolelint/model/Runs", "start", "(I)I"⟩ : MethodName)) hown (mvT hZ (hw _ (List.mem_of_getElem? (i := 37) rfl))) (mvT hZ (hw _ (List.mem_of_getElem? (i := 21) rfl))) (notFace_of_selects (args := #[]) (mvT hZ (hw _ (List.mem_of_getElem? (i := 23) rfl)))) (mvT hZ (hw _ (List.mem_of_getElem? (i := 23) rfl))) (mvT hZ (hw _ (List.mem_of_getElem? (i := 22) rfl))) (by decide) (backOf (W := 0) (own_rm5y l Z a0 hw [] r arr k ss ee h0 n0 Z0 E_r F_r V_a) hZ (hw _ (List.mem_of_getElem? (i := 24) rfl)) (hw _ (List.mem_of_getElem? (i := 2) rfl)) (by decide) (by decide)) q5a q5c (g := (mkF m 53 #[.val (.ref r), .val (.int xx), .val (.int (0 : Int32)), .val (.int (0 : Int32)), .val (.int (0 : Int32))] [(.int (0 : Int32)), (.ref r)])) rfl (by rw [hml]; rfl) (Steps.refl _) (argsL := [(.int (0 : Int32))]) (rest := []) (lenOf own_pd2 rfl) rfl (by show 2 * 0 + _ ≤ _; exact Nat.le_of_eq rfl) (hb hby own_d7_53) (fun _ _ => ⟨rfl, e4, (by decide : 0 + 0 ≤ _), (by decide : 0 + 0 ≤ _)⟩)
    dsimp only [Pt.U, Pt.locs, Pt.cells, Pt.slots] at X5 l5 y5 z5 st5 hQ5
    subst l5 y5 z5
    obtain ⟨rfl, N5q, e5⟩ := hQ5
    have N5 := Fr.app N4 N5q
    refine own_tr (T' := T5) (g' := (mkF m 56 #[.val (.ref r), .val (.int xx), .val (.int (0 : Int32)), .val (.int (0 : Int32)), .val (.int (0 : Int32))] [(.int ss)])) st5 ?_
    refine own_st (T' := T5) (g' := (mkF m 57 #[.val (.ref r), .val (.int xx), .val (.int (0 : Int32)), .val (.int (0 : Int32)), .val (.int (0 : Int32))] [(.int xx), (.int ss)])) (fun t k => ?_) ?_
    · show Steps p.tables e below (T5.setTop (mkF m 56 #[.val (.ref r), .val (.int xx), .val (.int (0 : Int32)), .val (.int (0 : Int32)), .val (.int (0 : Int32))] [(.int ss)])) t
      refine XS.iloadN X5.here hx rfl (hb hby own_d7_56) rfl ?_
      show Steps p.tables e below (T5.setTop (mkF m 57 #[.val (.ref r), .val (.int xx), .val (.int (0 : Int32)), .val (.int (0 : Int32)), .val (.int (0 : Int32))] [(.int xx), (.int ss)])) t
      exact k
    by_cases hc6 : xx < ss
    · refine own_st (T' := T5) (g' := (mkF m 65 #[.val (.ref r), .val (.int xx), .val (.int (0 : Int32)), .val (.int (0 : Int32)), .val (.int (0 : Int32))] [(.int (0 : Int32))])) (fun t k => ?_) ?_
      · show Steps p.tables e below (T5.setTop (mkF m 57 #[.val (.ref r), .val (.int xx), .val (.int (0 : Int32)), .val (.int (0 : Int32)), .val (.int (0 : Int32))] [(.int xx), (.int ss)])) t
        refine XS.icmpYes X5.here hx rfl (pc0 := 57) (pc' := 64) rfl (hb hby own_d7_57) rfl (tlt hc6).2.2.1 (by decide) (by decide) ?_
        show Steps p.tables e below (T5.setTop (mkF m 64 #[.val (.ref r), .val (.int xx), .val (.int (0 : Int32)), .val (.int (0 : Int32)), .val (.int (0 : Int32))] [])) t
        refine XS.iconst X5.here hx rfl (hb hby own_d7_64) ?_
        show Steps p.tables e below (T5.setTop (mkF m 65 #[.val (.ref r), .val (.int xx), .val (.int (0 : Int32)), .val (.int (0 : Int32)), .val (.int (0 : Int32))] [(.int (0 : Int32))])) t
        exact k
      exact own_retN X5 hx Bd (t := .boolean) (by simp) rfl (hb hby own_d7_65) e5 (⟨by simp only [own_in1, hc3, hc6, if_true, if_false], N5, rfl⟩) (by decide) (by decide)
    · refine own_st (T' := T5) (g' := (mkF m 65 #[.val (.ref r), .val (.int xx), .val (.int (0 : Int32)), .val (.int (0 : Int32)), .val (.int (0 : Int32))] [(.int (1 : Int32))])) (fun t k => ?_) ?_
      · show Steps p.tables e below (T5.setTop (mkF m 57 #[.val (.ref r), .val (.int xx), .val (.int (0 : Int32)), .val (.int (0 : Int32)), .val (.int (0 : Int32))] [(.int xx), (.int ss)])) t
        refine XS.icmpNo X5.here hx rfl (hb hby own_d7_57) rfl (flt hc6).2.2.1 ?_
        show Steps p.tables e below (T5.setTop (mkF m 60 #[.val (.ref r), .val (.int xx), .val (.int (0 : Int32)), .val (.int (0 : Int32)), .val (.int (0 : Int32))] [])) t
        refine XS.iconst X5.here hx rfl (hb hby own_d7_60) ?_
        show Steps p.tables e below (T5.setTop (mkF m 61 #[.val (.ref r), .val (.int xx), .val (.int (0 : Int32)), .val (.int (0 : Int32)), .val (.int (0 : Int32))] [(.int (1 : Int32))])) t
        refine XS.goto X5.here hx rfl (pc0 := 61) (pc' := 65) rfl (hb hby own_d7_61) (by decide) (by decide) ?_
        show Steps p.tables e below (T5.setTop (mkF m 65 #[.val (.ref r), .val (.int xx), .val (.int (0 : Int32)), .val (.int (0 : Int32)), .val (.int (0 : Int32))] [(.int (1 : Int32))])) t
        exact k
      exact own_retN X5 hx Bd (t := .boolean) (by simp) rfl (hb hby own_d7_65) e5 (⟨by simp only [own_in1, hc3, hc6, if_true, if_false], N5, rfl⟩) (by decide) (by decide)
  · refine own_st (T' := T2) (g' := (mkF m 45 #[.val (.ref r), .val (.int xx), .val (.int (1 : Int32)), .val (.int (1 : Int32)), .val (.int (0 : Int32))] [(.ref r), (.int (1 : Int32))])) (fun t k => ?_) ?_
    · show Steps p.tables e below (T2.setTop (mkF m 26 #[.val (.ref r), .val (.int xx), .val (.int (0 : Int32)), .val (.int (1 : Int32)), .val (.int (0 : Int32))] [(.int xx), (.int ee)])) t
      refine XS.icmpNo X2.here hx rfl (hb hby own_d7_26) rfl (flt hc3).2.2.1 ?_
      show Steps p.tables e below (T2.setTop (mkF m 29 #[.val (.ref r), .val (.int xx), .val (.int (0 : Int32)), .val (.int (1 : Int32)), .val (.int (0 : Int32))] [])) t
      refine XS.iload X2.here hx rfl (hb hby own_d7_29) rfl ?_
      show Steps p.tables e below (T2.setTop (mkF m 31 #[.val (.ref r), .val (.int xx), .val (.int (0 : Int32)), .val (.int (1 : Int32)), .val (.int (0 : Int32))] [(.int (0 : Int32))])) t
      refine XS.iconst X2.here hx rfl (hb hby own_d7_31) ?_
      show Steps p.tables e below (T2.setTop (mkF m 32 #[.val (.ref r), .val (.int xx), .val (.int (0 : Int32)), .val (.int (1 : Int32)), .val (.int (0 : Int32))] [(.int (1 : Int32)), (.int (0 : Int32))])) t
      refine XS.iadd X2.here hx rfl (hb hby own_d7_32) rfl ?_
      show Steps p.tables e below (T2.setTop (mkF m 33 #[.val (.ref r), .val (.int xx), .val (.int (0 : Int32)), .val (.int (1 : Int32)), .val (.int (0 : Int32))] [(.int (1 : Int32))])) t
      refine XS.istoreN X2.here hx rfl (hb hby own_d7_33) rfl (l' := #[.val (.ref r), .val (.int xx), .val (.int (1 : Int32)), .val (.int (1 : Int32)), .val (.int (0 : Int32))]) rfl ?_
      show Steps p.tables e below (T2.setTop (mkF m 34 #[.val (.ref r), .val (.int xx), .val (.int (1 : Int32)), .val (.int (1 : Int32)), .val (.int (0 : Int32))] [])) t
      refine XS.goto X2.here hx rfl (pc0 := 34) (pc' := 40) rfl (hb hby own_d7_34) (by decide) (by decide) ?_
      show Steps p.tables e below (T2.setTop (mkF m 40 #[.val (.ref r), .val (.int xx), .val (.int (1 : Int32)), .val (.int (1 : Int32)), .val (.int (0 : Int32))] [])) t
      refine XS.goto X2.here hx rfl (pc0 := 40) (pc' := 7) rfl (hb hby own_d7_40) (by decide) (by decide) ?_
      show Steps p.tables e below (T2.setTop (mkF m 7 #[.val (.ref r), .val (.int xx), .val (.int (1 : Int32)), .val (.int (1 : Int32)), .val (.int (0 : Int32))] [])) t
      refine XS.iloadN X2.here hx rfl (hb hby own_d7_7) rfl ?_
      show Steps p.tables e below (T2.setTop (mkF m 8 #[.val (.ref r), .val (.int xx), .val (.int (1 : Int32)), .val (.int (1 : Int32)), .val (.int (0 : Int32))] [(.int (1 : Int32))])) t
      refine XS.iloadN X2.here hx rfl (hb hby own_d7_8) rfl ?_
      show Steps p.tables e below (T2.setTop (mkF m 9 #[.val (.ref r), .val (.int xx), .val (.int (1 : Int32)), .val (.int (1 : Int32)), .val (.int (0 : Int32))] [(.int (1 : Int32)), (.int (1 : Int32))])) t
      refine XS.icmpYes X2.here hx rfl (pc0 := 9) (pc' := 43) rfl (hb hby own_d7_9) rfl (flt Int32.lt_irrefl).2.1 (by decide) (by decide) ?_
      show Steps p.tables e below (T2.setTop (mkF m 43 #[.val (.ref r), .val (.int xx), .val (.int (1 : Int32)), .val (.int (1 : Int32)), .val (.int (0 : Int32))] [])) t
      refine XS.iloadN X2.here hx rfl (hb hby own_d7_43) rfl ?_
      show Steps p.tables e below (T2.setTop (mkF m 44 #[.val (.ref r), .val (.int xx), .val (.int (1 : Int32)), .val (.int (1 : Int32)), .val (.int (0 : Int32))] [(.int (1 : Int32))])) t
      refine XS.aloadN X2.here hx rfl (hb hby own_d7_44) rfl rfl ?_
      show Steps p.tables e below (T2.setTop (mkF m 45 #[.val (.ref r), .val (.int xx), .val (.int (1 : Int32)), .val (.int (1 : Int32)), .val (.int (0 : Int32))] [(.ref r), (.int (1 : Int32))])) t
      exact k
    obtain ⟨cq7, kq7, q7a, q7b, q7c⟩ := isOf hZ e2 E_r
    obtain ⟨_, _, ⟨T7, L7, c7, n7⟩, -, X7, ⟨Lc7, hQ7, l7, y7, z7⟩, st7⟩ := X2.virtualBack hx (y := (⟨"com/example/rolelint/rolelint/model/Runs", "count", "()I"⟩ : MethodName)) (z := (⟨"com/example/rolelint/rolelint/model/Runs", "count", "()I"⟩ : MethodName)) hown (mvT hZ (hw _ (List.mem_of_getElem? (i := 35) rfl))) (mvT hZ (hw _ (List.mem_of_getElem? (i := 16) rfl))) (notFace_of_selects (args := #[]) (mvT hZ (hw _ (List.mem_of_getElem? (i := 18) rfl)))) (mvT hZ (hw _ (List.mem_of_getElem? (i := 18) rfl))) (mvT hZ (hw _ (List.mem_of_getElem? (i := 17) rfl))) (by decide) (backOf (W := 1) (own_rm4y l Z a0 hw [] r arr k ss ee h0 n0 Z0 E_r F_r V_a) hZ (hw _ (List.mem_of_getElem? (i := 19) rfl)) (hw _ (List.mem_of_getElem? (i := 2) rfl)) (by decide) (by decide)) q7a q7c (g := (mkF m 45 #[.val (.ref r), .val (.int xx), .val (.int (1 : Int32)), .val (.int (1 : Int32)), .val (.int (0 : Int32))] [(.ref r), (.int (1 : Int32))])) rfl (by rw [hml]; rfl) (Steps.refl _) (argsL := []) (rest := [(.int (1 : Int32))]) (lenOf own_pd1 rfl) rfl (by show 2 * 0 + _ ≤ _; exact Nat.le_of_eq rfl) (hb hby own_d7_45) (fun _ _ => ⟨rfl, e2, (by decide : 0 + 0 ≤ _), (by decide : 0 + 0 ≤ _)⟩)
    dsimp only [Pt.U, Pt.locs, Pt.cells, Pt.slots] at X7 l7 y7 z7 st7 hQ7
    subst l7 y7 z7
    obtain ⟨rfl, N7q, e7⟩ := hQ7
    have N7 := Fr.app N2 N7q
    refine own_tr (T' := T7) (g' := (mkF m 48 #[.val (.ref r), .val (.int xx), .val (.int (1 : Int32)), .val (.int (1 : Int32)), .val (.int (0 : Int32))] [(.int (1 : Int32)), (.int (1 : Int32))])) st7 ?_
    refine own_st (T' := T7) (g' := (mkF m 65 #[.val (.ref r), .val (.int xx), .val (.int (1 : Int32)), .val (.int (1 : Int32)), .val (.int (0 : Int32))] [(.int (0 : Int32))])) (fun t k => ?_) ?_
    · show Steps p.tables e below (T7.setTop (mkF m 48 #[.val (.ref r), .val (.int xx), .val (.int (1 : Int32)), .val (.int (1 : Int32)), .val (.int (0 : Int32))] [(.int (1 : Int32)), (.int (1 : Int32))])) t
      refine XS.icmpYes X7.here hx rfl (pc0 := 48) (pc' := 64) rfl (hb hby own_d7_48) rfl (flt Int32.lt_irrefl).2.1 (by decide) (by decide) ?_
      show Steps p.tables e below (T7.setTop (mkF m 64 #[.val (.ref r), .val (.int xx), .val (.int (1 : Int32)), .val (.int (1 : Int32)), .val (.int (0 : Int32))] [])) t
      refine XS.iconst X7.here hx rfl (hb hby own_d7_64) ?_
      show Steps p.tables e below (T7.setTop (mkF m 65 #[.val (.ref r), .val (.int xx), .val (.int (1 : Int32)), .val (.int (1 : Int32)), .val (.int (0 : Int32))] [(.int (0 : Int32))])) t
      exact k
    exact own_retN X7 hx Bd (t := .boolean) (by simp) rfl (hb hby own_d7_65) e7 (⟨by simp only [own_in1, hc3, if_true, if_false], N7, rfl⟩) (by decide) (by decide)
def own_r4n : Room := { frames := 0, cells := 0, slots := 0, locals := 0 }
theorem own_ef4n (m : MethodId) (x0 : Addr) : entryFrame m #[(.ref x0)] 1 = mkF m 0 #[.val (.ref x0)] [] := by first | (simp [entryFrame, mkF, argsToLocals, Value.category]; done) | rfl
def own_Q4n (Z : State) (r arr : Addr) (k : ClassId)  (h0 : Heap) (n0 : Nat) : Option Value → Heap → List Loc → Prop := fun v h L => v = some (.int (0 : Int32)) ∧ Fr n0 L ∧ h = h0
set_option maxRecDepth 65536 in
set_option maxHeartbeats 40000000 in
theorem own_rm4n (l : Launch) (Z : State) (a0 : Array Value) (hw : ∀ d ∈ tables_1, d.before a0 Z = true) (ws : List Jvm.Cond) (r arr : Addr) (k : ClassId)  (h0 : Heap) (n0 : Nat) (Z0 : n0 ≤ h0.size) (E_r : Exa Z h0 r "com/example/rolelint/rolelint/model/Runs") (F_r : Fld Z h0 r "com/example/rolelint/rolelint/model/Runs" "bounds" "[I" (.ref arr)) (V_a : Arv Z h0 arr k .int (0 : Int32) [] (.int (0 : Int32))) :
    MetFree l (⟨"com/example/rolelint/rolelint/model/Runs", "count", "()I"⟩ : MethodName) (head1 (Jvm.Cond.code (⟨"com/example/rolelint/rolelint/model/Runs", "count", "()I"⟩ : MethodName) prog_62_method_4_code 1 (some .int) :: ws) own_r4n) (fun a_ U_ => a_ = #[(.ref r)] ∧ Z.Warmed39 U_.vm ∧ U_.heap = h0) (fun _ _ _ _ _ => True) (fun _ U_ o_ U'_ => ∃ v_ L_, o_ = .returned v_ ∧ own_Q4n Z r arr  k  h0 n0 v_ U'_.heap L_ ∧ FrameEnd U_ o_ U'_ L_ own_r4n.cells own_r4n.slots) := by
  refine MetFree.of_bodySF (plainFor_of_name own_pn0) hisR ?_
  intro p e s m args below meth c s₁ Bd hml0 hP hK
  obtain ⟨rfl, hZ, hh⟩ := hP
  have hx := Bd.exec
  have hby := Bd.bytes
  have hml : c.maxLocals = 1 := hml0
  have hown : s.vm.findClass "com/example/rolelint/rolelint/model/Runs" = some m.cls := findClass_of_methodNamed Bd.named
  have hnm := (name_of_methodNamed Bd.named Bd.method).1
  have X0 : Stand p l e own_r4n s m #[(.ref r)] below meth c s₁ [] 0 0 := Stand.of_body Bd
  have e0 : s₁.heap = h0 := by rw [← hh, Bd.state]; rfl
  have N0 := Fr.nil n0
  refine own_in (own_ef4n m r) ?_
  show own_Go p e below (own_K s (own_Q4n Z r arr  k  h0 n0) own_r4n.cells own_r4n.slots) s₁ (mkF m 0 #[.val (.ref r)] [])
  refine own_st (T' := s₁) (g' := (mkF m 1 #[.val (.ref r)] [(.ref r)])) (fun t k => ?_) ?_
  · show Steps p.tables e below (s₁.setTop (mkF m 0 #[.val (.ref r)] [])) t
    refine XS.aloadN X0.here hx rfl (hb hby own_d4_0) rfl rfl ?_
    show Steps p.tables e below (s₁.setTop (mkF m 1 #[.val (.ref r)] [(.ref r)])) t
    exact k
  obtain ⟨T1, X1, e1, st1⟩ := getF X0 hx hZ hown (host := "") (Or.inl (hw _ (List.mem_of_getElem? (i := 13) rfl))) Via.refl e0 F_r (g := (mkF m 1 #[.val (.ref r)] [(.ref r)])) rfl rfl (hb hby own_d4_1)
  refine own_st (T' := T1) (g' := (mkF m 4 #[.val (.ref r)] [(.ref arr)])) st1 ?_
  obtain ⟨cl2, Ar2, q2, S2, M2, H2, G2⟩ := id V_a
  refine own_st (T' := T1) (g' := (mkF m 7 #[.val (.ref r)] [(.int (0 : Int32))])) (fun t k => ?_) ?_
  · show Steps p.tables e below (T1.setTop (mkF m 4 #[.val (.ref r)] [(.ref arr)])) t
    refine X1.arraylength hx (by rw [e1]; exact Ar2.1) (State.isArrayOf_alike hZ.alike Ar2.2.1) (g := (mkF m 4 #[.val (.ref r)] [(.ref arr)])) rfl rfl (hb hby own_d4_4) _ ?_
    rw [len_of S2 M2]
    show Steps p.tables e below (T1.setTop (mkF m 5 #[.val (.ref r)] [(.int (0 : Int32))])) t
    refine XS.iconst X1.here hx rfl (hb hby own_d4_5) ?_
    show Steps p.tables e below (T1.setTop (mkF m 6 #[.val (.ref r)] [(.int (2 : Int32)), (.int (0 : Int32))])) t
    refine XS.idiv X1.here hx rfl (hb hby own_d4_6) rfl (by decide) ?_
    show Steps p.tables e below (T1.setTop (mkF m 7 #[.val (.ref r)] [(.int (0 : Int32))])) t
    exact k
  exact own_retI X1 hx Bd (hb hby own_d4_7) e1 (⟨rfl, N0, rfl⟩) (by decide) (by decide)
def own_r7n : Room := { frames := 1, cells := 0, slots := 0, locals := 13 }
theorem own_ef7n (m : MethodId) (x0 : Addr) (x1 : Int32) : entryFrame m #[(.ref x0), (.int x1)] 5 = mkF m 0 #[.val (.ref x0), .val (.int x1), .unset, .unset, .unset] [] := by first | (simp [entryFrame, mkF, argsToLocals, Value.category]; done) | rfl
def own_Q7n (Z : State) (r arr : Addr) (k : ClassId)  (xx : Int32) (h0 : Heap) (n0 : Nat) : Option Value → Heap → List Loc → Prop := fun v h L => v = some (.int (0 : Int32)) ∧ Fr n0 L ∧ h = h0
set_option maxRecDepth 65536 in
set_option maxHeartbeats 40000000 in
theorem own_rm7n (l : Launch) (Z : State) (a0 : Array Value) (hw : ∀ d ∈ tables_1, d.before a0 Z = true) (ws : List Jvm.Cond) (r arr : Addr) (k : ClassId)  (xx : Int32) (h0 : Heap) (n0 : Nat) (Z0 : n0 ≤ h0.size) (E_r : Exa Z h0 r "com/example/rolelint/rolelint/model/Runs") (F_r : Fld Z h0 r "com/example/rolelint/rolelint/model/Runs" "bounds" "[I" (.ref arr)) (V_a : Arv Z h0 arr k .int (0 : Int32) [] (.int (0 : Int32))) :
    MetFree l (⟨"com/example/rolelint/rolelint/model/Runs", "contains", "(I)Z"⟩ : MethodName) (head1 (Jvm.Cond.code (⟨"com/example/rolelint/rolelint/model/Runs", "contains", "(I)Z"⟩ : MethodName) prog_62_method_7_code 5 (some .boolean) :: ws) own_r7n) (fun a_ U_ => a_ = #[(.ref r), (.int xx)] ∧ Z.Warmed39 U_.vm ∧ U_.heap = h0) (fun _ _ _ _ _ => True) (fun _ U_ o_ U'_ => ∃ v_ L_, o_ = .returned v_ ∧ own_Q7n Z r arr  k  xx  h0 n0 v_ U'_.heap L_ ∧ FrameEnd U_ o_ U'_ L_ own_r7n.cells own_r7n.slots) := by
  refine MetFree.of_bodySF (plainFor_of_name own_pn0) hisR ?_
  intro p e s m args below meth c s₁ Bd hml0 hP hK
  obtain ⟨rfl, hZ, hh⟩ := hP
  have hx := Bd.exec
  have hby := Bd.bytes
  have hml : c.maxLocals = 5 := hml0
  have hown : s.vm.findClass "com/example/rolelint/rolelint/model/Runs" = some m.cls := findClass_of_methodNamed Bd.named
  have hnm := (name_of_methodNamed Bd.named Bd.method).1
  have X0 : Stand p l e own_r7n s m #[(.ref r), (.int xx)] below meth c s₁ [] 0 0 := Stand.of_body Bd
  have e0 : s₁.heap = h0 := by rw [← hh, Bd.state]; rfl
  have N0 := Fr.nil n0
  refine own_in (own_ef7n m r xx) ?_
  show own_Go p e below (own_K s (own_Q7n Z r arr  k  xx  h0 n0) own_r7n.cells own_r7n.slots) s₁ (mkF m 0 #[.val (.ref r), .val (.int xx), .unset, .unset, .unset] [])
  refine own_st (T' := s₁) (g' := (mkF m 3 #[.val (.ref r), .val (.int xx), .val (.int (0 : Int32)), .unset, .unset] [(.ref r)])) (fun t k => ?_) ?_
  · show Steps p.tables e below (s₁.setTop (mkF m 0 #[.val (.ref r), .val (.int xx), .unset, .unset, .unset] [])) t
    refine XS.iconst X0.here hx rfl (hb hby own_d7_0) ?_
    show Steps p.tables e below (s₁.setTop (mkF m 1 #[.val (.ref r), .val (.int xx), .unset, .unset, .unset] [(.int (0 : Int32))])) t
    refine XS.istoreN X0.here hx rfl (hb hby own_d7_1) rfl (l' := #[.val (.ref r), .val (.int xx), .val (.int (0 : Int32)), .unset, .unset]) rfl ?_
    show Steps p.tables e below (s₁.setTop (mkF m 2 #[.val (.ref r), .val (.int xx), .val (.int (0 : Int32)), .unset, .unset] [])) t
    refine XS.aloadN X0.here hx rfl (hb hby own_d7_2) rfl rfl ?_
    show Steps p.tables e below (s₁.setTop (mkF m 3 #[.val (.ref r), .val (.int xx), .val (.int (0 : Int32)), .unset, .unset] [(.ref r)])) t
    exact k
  obtain ⟨cq1, kq1, q1a, q1b, q1c⟩ := isOf hZ e0 E_r
  obtain ⟨_, _, ⟨T1, L1, c1, n1⟩, -, X1, ⟨Lc1, hQ1, l1, y1, z1⟩, st1⟩ := X0.virtualBack hx (y := (⟨"com/example/rolelint/rolelint/model/Runs", "count", "()I"⟩ : MethodName)) (z := (⟨"com/example/rolelint/rolelint/model/Runs", "count", "()I"⟩ : MethodName)) hown (mvT hZ (hw _ (List.mem_of_getElem? (i := 35) rfl))) (mvT hZ (hw _ (List.mem_of_getElem? (i := 16) rfl))) (notFace_of_selects (args := #[]) (mvT hZ (hw _ (List.mem_of_getElem? (i := 18) rfl)))) (mvT hZ (hw _ (List.mem_of_getElem? (i := 18) rfl))) (mvT hZ (hw _ (List.mem_of_getElem? (i := 17) rfl))) (by decide) (backOf (W := 0) (own_rm4n l Z a0 hw [] r arr k  h0 n0 Z0 E_r F_r V_a) hZ (hw _ (List.mem_of_getElem? (i := 19) rfl)) (hw _ (List.mem_of_getElem? (i := 2) rfl)) (by decide) (by decide)) q1a q1c (g := (mkF m 3 #[.val (.ref r), .val (.int xx), .val (.int (0 : Int32)), .unset, .unset] [(.ref r)])) rfl (by rw [hml]; rfl) (Steps.refl _) (argsL := []) (rest := []) (lenOf own_pd1 rfl) rfl (by show 2 * 0 + _ ≤ _; exact Nat.le_of_eq rfl) (hb hby own_d7_3) (fun _ _ => ⟨rfl, e0, (by decide : 0 + 0 ≤ _), (by decide : 0 + 0 ≤ _)⟩)
  dsimp only [Pt.U, Pt.locs, Pt.cells, Pt.slots] at X1 l1 y1 z1 st1 hQ1
  subst l1 y1 z1
  obtain ⟨rfl, N1q, e1⟩ := hQ1
  have N1 := Fr.app N0 N1q
  refine own_tr (T' := T1) (g' := (mkF m 6 #[.val (.ref r), .val (.int xx), .val (.int (0 : Int32)), .unset, .unset] [(.int (0 : Int32))])) st1 ?_
  refine own_st (T' := T1) (g' := (mkF m 45 #[.val (.ref r), .val (.int xx), .val (.int (0 : Int32)), .val (.int (0 : Int32)), .unset] [(.ref r), (.int (0 : Int32))])) (fun t k => ?_) ?_
  · show Steps p.tables e below (T1.setTop (mkF m 6 #[.val (.ref r), .val (.int xx), .val (.int (0 : Int32)), .unset, .unset] [(.int (0 : Int32))])) t
    refine XS.istoreN X1.here hx rfl (hb hby own_d7_6) rfl (l' := #[.val (.ref r), .val (.int xx), .val (.int (0 : Int32)), .val (.int (0 : Int32)), .unset]) rfl ?_
    show Steps p.tables e below (T1.setTop (mkF m 7 #[.val (.ref r), .val (.int xx), .val (.int (0 : Int32)), .val (.int (0 : Int32)), .unset] [])) t
    refine XS.iloadN X1.here hx rfl (hb hby own_d7_7) rfl ?_
    show Steps p.tables e below (T1.setTop (mkF m 8 #[.val (.ref r), .val (.int xx), .val (.int (0 : Int32)), .val (.int (0 : Int32)), .unset] [(.int (0 : Int32))])) t
    refine XS.iloadN X1.here hx rfl (hb hby own_d7_8) rfl ?_
    show Steps p.tables e below (T1.setTop (mkF m 9 #[.val (.ref r), .val (.int xx), .val (.int (0 : Int32)), .val (.int (0 : Int32)), .unset] [(.int (0 : Int32)), (.int (0 : Int32))])) t
    refine XS.icmpYes X1.here hx rfl (pc0 := 9) (pc' := 43) rfl (hb hby own_d7_9) rfl (flt Int32.lt_irrefl).2.1 (by decide) (by decide) ?_
    show Steps p.tables e below (T1.setTop (mkF m 43 #[.val (.ref r), .val (.int xx), .val (.int (0 : Int32)), .val (.int (0 : Int32)), .unset] [])) t
    refine XS.iloadN X1.here hx rfl (hb hby own_d7_43) rfl ?_
    show Steps p.tables e below (T1.setTop (mkF m 44 #[.val (.ref r), .val (.int xx), .val (.int (0 : Int32)), .val (.int (0 : Int32)), .unset] [(.int (0 : Int32))])) t
    refine XS.aloadN X1.here hx rfl (hb hby own_d7_44) rfl rfl ?_
    show Steps p.tables e below (T1.setTop (mkF m 45 #[.val (.ref r), .val (.int xx), .val (.int (0 : Int32)), .val (.int (0 : Int32)), .unset] [(.ref r), (.int (0 : Int32))])) t
    exact k
  obtain ⟨cq2, kq2, q2a, q2b, q2c⟩ := isOf hZ e1 E_r
  obtain ⟨_, _, ⟨T2, L2, c2, n2⟩, -, X2, ⟨Lc2, hQ2, l2, y2, z2⟩, st2⟩ := X1.virtualBack hx (y := (⟨"com/example/rolelint/rolelint/model/Runs", "count", "()I"⟩ : MethodName)) (z := (⟨"com/example/rolelint/rolelint/model/Runs", "count", "()I"⟩ : MethodName)) hown (mvT hZ (hw _ (List.mem_of_getElem? (i := 35) rfl))) (mvT hZ (hw _ (List.mem_of_getElem? (i := 16) rfl))) (notFace_of_selects (args := #[]) (mvT hZ (hw _ (List.mem_of_getElem? (i := 18) rfl)))) (mvT hZ (hw _ (List.mem_of_getElem? (i := 18) rfl))) (mvT hZ (hw _ (List.mem_of_getElem? (i := 17) rfl))) (by decide) (backOf (W := 1) (own_rm4n l Z a0 hw [] r arr k  h0 n0 Z0 E_r F_r V_a) hZ (hw _ (List.mem_of_getElem? (i := 19) rfl)) (hw _ (List.mem_of_getElem? (i := 2) rfl)) (by decide) (by decide)) q2a q2c (g := (mkF m 45 #[.val (.ref r), .val (.int xx), .val (.int (0 : Int32)), .val (.int (0 : Int32)), .unset] [(.ref r), (.int (0 : Int32))])) rfl (by rw [hml]; rfl) (Steps.refl _) (argsL := []) (rest := [(.int (0 : Int32))]) (lenOf own_pd1 rfl) rfl (by show 2 * 0 + _ ≤ _; exact Nat.le_of_eq rfl) (hb hby own_d7_45) (fun _ _ => ⟨rfl, e1, (by decide : 0 + 0 ≤ _), (by decide : 0 + 0 ≤ _)⟩)
  dsimp only [Pt.U, Pt.locs, Pt.cells, Pt.slots] at X2 l2 y2 z2 st2 hQ2
  subst l2 y2 z2
  obtain ⟨rfl, N2q, e2⟩ := hQ2
  have N2 := Fr.app N1 N2q
  refine own_tr (T' := T2) (g' := (mkF m 48 #[.val (.ref r), .val (.int xx), .val (.int (0 : Int32)), .val (.int (0 : Int32)), .unset] [(.int (0 : Int32)), (.int (0 : Int32))])) st2 ?_
  refine own_st (T' := T2) (g' := (mkF m 65 #[.val (.ref r), .val (.int xx), .val (.int (0 : Int32)), .val (.int (0 : Int32)), .unset] [(.int (0 : Int32))])) (fun t k => ?_) ?_
  · show Steps p.tables e below (T2.setTop (mkF m 48 #[.val (.ref r), .val (.int xx), .val (.int (0 : Int32)), .val (.int (0 : Int32)), .unset] [(.int (0 : Int32)), (.int (0 : Int32))])) t
    refine XS.icmpYes X2.here hx rfl (pc0 := 48) (pc' := 64) rfl (hb hby own_d7_48) rfl (flt Int32.lt_irrefl).2.1 (by decide) (by decide) ?_
    show Steps p.tables e below (T2.setTop (mkF m 64 #[.val (.ref r), .val (.int xx), .val (.int (0 : Int32)), .val (.int (0 : Int32)), .unset] [])) t
    refine XS.iconst X2.here hx rfl (hb hby own_d7_64) ?_
    show Steps p.tables e below (T2.setTop (mkF m 65 #[.val (.ref r), .val (.int xx), .val (.int (0 : Int32)), .val (.int (0 : Int32)), .unset] [(.int (0 : Int32))])) t
    exact k
  exact own_retN X2 hx Bd (t := .boolean) (by simp) rfl (hb hby own_d7_65) e2 (⟨rfl, N2, rfl⟩) (by decide) (by decide)
theorem own_ef0 (m : MethodId) (x0 : Int32) (x1 : Int32) (x2 : Int32) : entryFrame m #[(.int x0), (.int x1), (.int x2)] maxLocals = mkF m 0 #[.val (.int x0), .val (.int x1), .val (.int x2), .unset, .unset] [] := by first | (simp [entryFrame, mkF, argsToLocals, Value.category, maxLocals]; done) | rfl
def own_Q0 (Z : State) (ss ee xx : Int32) (aN arrN : Addr) (kN : ClassId) (h0 : Heap) (n0 : Nat) : Option Value → Heap → List Loc → Prop := fun v h L => v = some (.int 1) ∧ Fr n0 L
set_option maxRecDepth 65536 in
set_option maxHeartbeats 40000000 in
theorem own_rm0 (l : Launch) (Z : State) (a0 : Array Value) (hw : ∀ d ∈ tables_1, d.before a0 Z = true) (ws : List Jvm.Cond) (ss ee xx : Int32) (aN arrN : Addr) (kN : ClassId) (h0 : Heap) (n0 : Nat) (Z0 : n0 ≤ h0.size) (S_N : Sta Z h0 "com/example/rolelint/rolelint/model/Runs" "NONE" "Lcom/example/rolelint/rolelint/model/Runs;" (.ref aN)) (E_N : Exa Z h0 aN "com/example/rolelint/rolelint/model/Runs") (F_N : Fld Z h0 aN "com/example/rolelint/rolelint/model/Runs" "bounds" "[I" (.ref arrN)) (V_N : Arv Z h0 arrN kN .int (0 : Int32) [] (.int (0 : Int32))) :
    MetFree l x (head1 (Jvm.Cond.code x code maxLocals ret :: ws) room_1) (fun a_ U_ => a_ = #[(.int ss), (.int ee), (.int xx)] ∧ Z.Warmed39 U_.vm ∧ U_.heap = h0) (fun _ _ _ _ _ => True) (fun _ U_ o_ U'_ => ∃ v_ L_, o_ = .returned v_ ∧ own_Q0 Z ss ee xx  aN arrN  kN  h0 n0 v_ U'_.heap L_ ∧ FrameEnd U_ o_ U'_ L_ room_1.cells room_1.slots) := by
  refine MetFree.of_bodySF (plainFor_of_name own_pn1) hisR ?_
  intro p e s m args below meth c s₁ Bd hml0 hP hK
  obtain ⟨rfl, hZ, hh⟩ := hP
  have hx := Bd.exec
  have hby := Bd.bytes
  have hml : c.maxLocals = 5 := hml0
  have hown : s.vm.findClass "com/example/rolelint/rolelint/model/RunsOfPinLaw" = some m.cls := findClass_of_methodNamed Bd.named
  have hnm := (name_of_methodNamed Bd.named Bd.method).1
  have X0 : Stand p l e room_1 s m #[(.int ss), (.int ee), (.int xx)] below meth c s₁ [] 0 0 := Stand.of_body Bd
  have e0 : s₁.heap = h0 := by rw [← hh, Bd.state]; rfl
  have N0 := Fr.nil n0
  refine own_in (own_ef0 m ss ee xx) ?_
  show own_Go p e below (own_K s (own_Q0 Z ss ee xx  aN arrN  kN  h0 n0) room_1.cells room_1.slots) s₁ (mkF m 0 #[.val (.int ss), .val (.int ee), .val (.int xx), .unset, .unset] [])
  refine own_st (T' := s₁) (g' := (mkF m 2 #[.val (.int ss), .val (.int ee), .val (.int xx), .unset, .unset] [(.int ee), (.int ss)])) (fun t k => ?_) ?_
  · show Steps p.tables e below (s₁.setTop (mkF m 0 #[.val (.int ss), .val (.int ee), .val (.int xx), .unset, .unset] [])) t
    refine XS.iloadN X0.here hx rfl (hb hby at_0) rfl ?_
    show Steps p.tables e below (s₁.setTop (mkF m 1 #[.val (.int ss), .val (.int ee), .val (.int xx), .unset, .unset] [(.int ss)])) t
    refine XS.iloadN X0.here hx rfl (hb hby at_1) rfl ?_
    show Steps p.tables e below (s₁.setTop (mkF m 2 #[.val (.int ss), .val (.int ee), .val (.int xx), .unset, .unset] [(.int ee), (.int ss)])) t
    exact k
  by_cases hse : ss < ee
  · have hI1 : own_in1 ss ee ss = (1 : Int32) := own_in1_s hse
    have hI1' : ¬ own_in1 ss ee ss = (0 : Int32) := by rw [hI1]; decide
    have hI2 : ¬ own_in1 ss ee (ee - (1 : Int32)) = (0 : Int32) := by rw [own_in1_e hse]; decide
    obtain ⟨_, _, ⟨T1, L1, c1, n1⟩, -, X1, ⟨Lc1, hQ1, l1, y1, z1⟩, st1⟩ := Jvm.LawKit.callS X0 hx (y := (⟨"com/example/rolelint/rolelint/model/Runs", "of", "(II)Lcom/example/rolelint/rolelint/model/Runs;"⟩ : MethodName)) hown (mvT hZ (hw _ (List.mem_of_getElem? (i := 0) rfl))) (mvT hZ (hw _ (List.mem_of_getElem? (i := 1) rfl))) (mvT hZ (hw _ (List.mem_of_getElem? (i := 2) rfl))) (mvT hZ (hw _ (List.mem_of_getElem? (i := 3) rfl))) (by decide) (backOf (W := 0) (own_rm1y l Z a0 hw [] ss ee h0 n0 Z0 hse) hZ (hw _ (List.mem_of_getElem? (i := 3) rfl)) (hw _ (List.mem_of_getElem? (i := 2) rfl)) (by decide) (by decide)) (g := (mkF m 2 #[.val (.int ss), .val (.int ee), .val (.int xx), .unset, .unset] [(.int ee), (.int ss)])) rfl (by rw [hml]; rfl) (argsL := [(.int ss), (.int ee)]) (rest := []) (lenOf own_pd3 rfl) rfl (by show 2 * 0 + _ ≤ _; exact Nat.le_of_eq rfl) (hb hby at_2) (fun _ _ => ⟨rfl, e0, (by decide : 0 + 2 ≤ _), (by decide : 0 + 3 ≤ _)⟩)
    dsimp only [Pt.U, Pt.locs, Pt.cells, Pt.slots] at X1 l1 y1 z1 st1 hQ1
    subst l1 y1 z1
    obtain ⟨h1, e1⟩ : ∃ z, T1.heap = z := ⟨_, rfl⟩
    rw [e1] at hQ1
    obtain ⟨r1, arr1, k1, rfl, N1q, Kc1, g1, hz1, Ec1, Fc1, Vc1⟩ := hQ1
    have N1 := Fr.app N0 N1q
    have K1 : Keep h0 h1 [] := (Keep.refl h0 []).trans Kc1 all0
    have Z1 : n0 ≤ h1.size := Nat.le_trans Z0 Kc1.1
    refine own_st (T' := T1) (g' := (mkF m 5 #[.val (.int ss), .val (.int ee), .val (.int xx), .unset, .unset] [(.ref r1)])) st1 ?_
    refine own_st (T' := T1) (g' := (mkF m 12 #[.val (.int ss), .val (.int ee), .val (.int xx), .val (.ref r1), .unset] [(.ref r1)])) (fun t k => ?_) ?_
    · show Steps p.tables e below (T1.setTop (mkF m 5 #[.val (.int ss), .val (.int ee), .val (.int xx), .unset, .unset] [(.ref r1)])) t
      refine XS.astoreN X1.here hx rfl (hb hby at_5) rfl rfl (l' := #[.val (.int ss), .val (.int ee), .val (.int xx), .val (.ref r1), .unset]) rfl ?_
      show Steps p.tables e below (T1.setTop (mkF m 6 #[.val (.int ss), .val (.int ee), .val (.int xx), .val (.ref r1), .unset] [])) t
      refine XS.iloadN X1.here hx rfl (hb hby at_6) rfl ?_
      show Steps p.tables e below (T1.setTop (mkF m 7 #[.val (.int ss), .val (.int ee), .val (.int xx), .val (.ref r1), .unset] [(.int ss)])) t
      refine XS.iloadN X1.here hx rfl (hb hby at_7) rfl ?_
      show Steps p.tables e below (T1.setTop (mkF m 8 #[.val (.int ss), .val (.int ee), .val (.int xx), .val (.ref r1), .unset] [(.int ee), (.int ss)])) t
      refine XS.icmpNo X1.here hx rfl (hb hby at_8) rfl (tlt hse).2.1 ?_
      show Steps p.tables e below (T1.setTop (mkF m 11 #[.val (.int ss), .val (.int ee), .val (.int xx), .val (.ref r1), .unset] [])) t
      refine XS.aloadN X1.here hx rfl (hb hby at_11) rfl rfl ?_
      show Steps p.tables e below (T1.setTop (mkF m 12 #[.val (.int ss), .val (.int ee), .val (.int xx), .val (.ref r1), .unset] [(.ref r1)])) t
      exact k
    obtain ⟨cq2, kq2, q2a, q2b, q2c⟩ := isOf hZ e1 Ec1
    obtain ⟨_, _, ⟨T2, L2, c2, n2⟩, -, X2, ⟨Lc2, hQ2, l2, y2, z2⟩, st2⟩ := X1.virtualBack hx (y := (⟨"com/example/rolelint/rolelint/model/Runs", "count", "()I"⟩ : MethodName)) (z := (⟨"com/example/rolelint/rolelint/model/Runs", "count", "()I"⟩ : MethodName)) hown (mvT hZ (hw _ (List.mem_of_getElem? (i := 15) rfl))) (mvT hZ (hw _ (List.mem_of_getElem? (i := 16) rfl))) (notFace_of_selects (args := #[]) (mvT hZ (hw _ (List.mem_of_getElem? (i := 18) rfl)))) (mvT hZ (hw _ (List.mem_of_getElem? (i := 18) rfl))) (mvT hZ (hw _ (List.mem_of_getElem? (i := 17) rfl))) (by decide) (backOf (W := 0) (own_rm4y l Z a0 hw [] r1 arr1 k1 ss ee h1 n0 Z1 Ec1 Fc1 Vc1) hZ (hw _ (List.mem_of_getElem? (i := 19) rfl)) (hw _ (List.mem_of_getElem? (i := 2) rfl)) (by decide) (by decide)) q2a q2c (g := (mkF m 12 #[.val (.int ss), .val (.int ee), .val (.int xx), .val (.ref r1), .unset] [(.ref r1)])) rfl (by rw [hml]; rfl) (Steps.refl _) (argsL := []) (rest := []) (lenOf own_pd1 rfl) rfl (by show 2 * 0 + _ ≤ _; exact Nat.le_of_eq rfl) (hb hby at_12) (fun _ _ => ⟨rfl, e1, (by decide : 2 + 0 ≤ _), (by decide : 3 + 0 ≤ _)⟩)
    dsimp only [Pt.U, Pt.locs, Pt.cells, Pt.slots] at X2 l2 y2 z2 st2 hQ2
    subst l2 y2 z2
    obtain ⟨rfl, N2q, e2⟩ := hQ2
    have N2 := Fr.app N1 N2q
    refine own_tr (T' := T2) (g' := (mkF m 15 #[.val (.int ss), .val (.int ee), .val (.int xx), .val (.ref r1), .unset] [(.int (1 : Int32))])) st2 ?_
    refine own_st (T' := T2) (g' := (mkF m 23 #[.val (.int ss), .val (.int ee), .val (.int xx), .val (.ref r1), .unset] [(.int (0 : Int32)), (.ref r1)])) (fun t k => ?_) ?_
    · show Steps p.tables e below (T2.setTop (mkF m 15 #[.val (.int ss), .val (.int ee), .val (.int xx), .val (.ref r1), .unset] [(.int (1 : Int32))])) t
      refine XS.iconst X2.here hx rfl (hb hby at_15) ?_
      show Steps p.tables e below (T2.setTop (mkF m 16 #[.val (.int ss), .val (.int ee), .val (.int xx), .val (.ref r1), .unset] [(.int (1 : Int32)), (.int (1 : Int32))])) t
      refine XS.icmpYes X2.here hx rfl (pc0 := 16) (pc' := 21) rfl (hb hby at_16) rfl (teq (rfl : (1 : Int32) = (1 : Int32))).1 (by decide) (by decide) ?_
      show Steps p.tables e below (T2.setTop (mkF m 21 #[.val (.int ss), .val (.int ee), .val (.int xx), .val (.ref r1), .unset] [])) t
      refine XS.aloadN X2.here hx rfl (hb hby at_21) rfl rfl ?_
      show Steps p.tables e below (T2.setTop (mkF m 22 #[.val (.int ss), .val (.int ee), .val (.int xx), .val (.ref r1), .unset] [(.ref r1)])) t
      refine XS.iconst X2.here hx rfl (hb hby at_22) ?_
      show Steps p.tables e below (T2.setTop (mkF m 23 #[.val (.int ss), .val (.int ee), .val (.int xx), .val (.ref r1), .unset] [(.int (0 : Int32)), (.ref r1)])) t
      exact k
    obtain ⟨cq3, kq3, q3a, q3b, q3c⟩ := isOf hZ e2 Ec1
    obtain ⟨_, _, ⟨T3, L3, c3, n3⟩, -, X3, ⟨Lc3, hQ3, l3, y3, z3⟩, st3⟩ := X2.virtualBack hx (y := (⟨"com/example/rolelint/rolelint/model/Runs", "start", "(I)I"⟩ : MethodName)) (z := (⟨"com/example/rolelint/rolelint/model/Runs", "start", "(I)I"⟩ : MethodName)) hown (mvT hZ (hw _ (List.mem_of_getElem? (i := 20) rfl))) (mvT hZ (hw _ (List.mem_of_getElem? (i := 21) rfl))) (notFace_of_selects (args := #[]) (mvT hZ (hw _ (List.mem_of_getElem? (i := 23) rfl)))) (mvT hZ (hw _ (List.mem_of_getElem? (i := 23) rfl))) (mvT hZ (hw _ (List.mem_of_getElem? (i := 22) rfl))) (by decide) (backOf (W := 0) (own_rm5y l Z a0 hw [] r1 arr1 k1 ss ee h1 n0 Z1 Ec1 Fc1 Vc1) hZ (hw _ (List.mem_of_getElem? (i := 24) rfl)) (hw _ (List.mem_of_getElem? (i := 2) rfl)) (by decide) (by decide)) q3a q3c (g := (mkF m 23 #[.val (.int ss), .val (.int ee), .val (.int xx), .val (.ref r1), .unset] [(.int (0 : Int32)), (.ref r1)])) rfl (by rw [hml]; rfl) (Steps.refl _) (argsL := [(.int (0 : Int32))]) (rest := []) (lenOf own_pd2 rfl) rfl (by show 2 * 0 + _ ≤ _; exact Nat.le_of_eq rfl) (hb hby at_23) (fun _ _ => ⟨rfl, e2, (by decide : 2 + 0 ≤ _), (by decide : 3 + 0 ≤ _)⟩)
    dsimp only [Pt.U, Pt.locs, Pt.cells, Pt.slots] at X3 l3 y3 z3 st3 hQ3
    subst l3 y3 z3
    obtain ⟨rfl, N3q, e3⟩ := hQ3
    have N3 := Fr.app N2 N3q
    refine own_tr (T' := T3) (g' := (mkF m 26 #[.val (.int ss), .val (.int ee), .val (.int xx), .val (.ref r1), .unset] [(.int ss)])) st3 ?_
    refine own_st (T' := T3) (g' := (mkF m 32 #[.val (.int ss), .val (.int ee), .val (.int xx), .val (.ref r1), .unset] [(.int (0 : Int32)), (.ref r1)])) (fun t k => ?_) ?_
    · show Steps p.tables e below (T3.setTop (mkF m 26 #[.val (.int ss), .val (.int ee), .val (.int xx), .val (.ref r1), .unset] [(.int ss)])) t
      refine XS.iloadN X3.here hx rfl (hb hby at_26) rfl ?_
      show Steps p.tables e below (T3.setTop (mkF m 27 #[.val (.int ss), .val (.int ee), .val (.int xx), .val (.ref r1), .unset] [(.int ss), (.int ss)])) t
      refine XS.icmpNo X3.here hx rfl (hb hby at_27) rfl (teq (rfl : ss = ss)).2 ?_
      show Steps p.tables e below (T3.setTop (mkF m 30 #[.val (.int ss), .val (.int ee), .val (.int xx), .val (.ref r1), .unset] [])) t
      refine XS.aloadN X3.here hx rfl (hb hby at_30) rfl rfl ?_
      show Steps p.tables e below (T3.setTop (mkF m 31 #[.val (.int ss), .val (.int ee), .val (.int xx), .val (.ref r1), .unset] [(.ref r1)])) t
      refine XS.iconst X3.here hx rfl (hb hby at_31) ?_
      show Steps p.tables e below (T3.setTop (mkF m 32 #[.val (.int ss), .val (.int ee), .val (.int xx), .val (.ref r1), .unset] [(.int (0 : Int32)), (.ref r1)])) t
      exact k
    obtain ⟨cq4, kq4, q4a, q4b, q4c⟩ := isOf hZ e3 Ec1
    obtain ⟨_, _, ⟨T4, L4, c4, n4⟩, -, X4, ⟨Lc4, hQ4, l4, y4, z4⟩, st4⟩ := X3.virtualBack hx (y := (⟨"com/example/rolelint/rolelint/model/Runs", "end", "(I)I"⟩ : MethodName)) (z := (⟨"com/example/rolelint/rolelint/model/Runs", "end", "(I)I"⟩ : MethodName)) hown (mvT hZ (hw _ (List.mem_of_getElem? (i := 25) rfl))) (mvT hZ (hw _ (List.mem_of_getElem? (i := 26) rfl))) (notFace_of_selects (args := #[]) (mvT hZ (hw _ (List.mem_of_getElem? (i := 28) rfl)))) (mvT hZ (hw _ (List.mem_of_getElem? (i := 28) rfl))) (mvT hZ (hw _ (List.mem_of_getElem? (i := 27) rfl))) (by decide) (backOf (W := 0) (own_rm6y l Z a0 hw [] r1 arr1 k1 ss ee h1 n0 Z1 Ec1 Fc1 Vc1) hZ (hw _ (List.mem_of_getElem? (i := 29) rfl)) (hw _ (List.mem_of_getElem? (i := 2) rfl)) (by decide) (by decide)) q4a q4c (g := (mkF m 32 #[.val (.int ss), .val (.int ee), .val (.int xx), .val (.ref r1), .unset] [(.int (0 : Int32)), (.ref r1)])) rfl (by rw [hml]; rfl) (Steps.refl _) (argsL := [(.int (0 : Int32))]) (rest := []) (lenOf own_pd2 rfl) rfl (by show 2 * 0 + _ ≤ _; exact Nat.le_of_eq rfl) (hb hby at_32) (fun _ _ => ⟨rfl, e3, (by decide : 2 + 0 ≤ _), (by decide : 3 + 0 ≤ _)⟩)
    dsimp only [Pt.U, Pt.locs, Pt.cells, Pt.slots] at X4 l4 y4 z4 st4 hQ4
    subst l4 y4 z4
    obtain ⟨rfl, N4q, e4⟩ := hQ4
    have N4 := Fr.app N3 N4q
    refine own_tr (T' := T4) (g' := (mkF m 35 #[.val (.int ss), .val (.int ee), .val (.int xx), .val (.ref r1), .unset] [(.int ee)])) st4 ?_
    refine own_st (T' := T4) (g' := (mkF m 43 #[.val (.int ss), .val (.int ee), .val (.int xx), .val (.ref r1), .unset] [(.int ss), (.ref r1)])) (fun t k => ?_) ?_
    · show Steps p.tables e below (T4.setTop (mkF m 35 #[.val (.int ss), .val (.int ee), .val (.int xx), .val (.ref r1), .unset] [(.int ee)])) t
      refine XS.iloadN X4.here hx rfl (hb hby at_35) rfl ?_
      show Steps p.tables e below (T4.setTop (mkF m 36 #[.val (.int ss), .val (.int ee), .val (.int xx), .val (.ref r1), .unset] [(.int ee), (.int ee)])) t
      refine XS.icmpYes X4.here hx rfl (pc0 := 36) (pc' := 41) rfl (hb hby at_36) rfl (teq (rfl : ee = ee)).1 (by decide) (by decide) ?_
      show Steps p.tables e below (T4.setTop (mkF m 41 #[.val (.int ss), .val (.int ee), .val (.int xx), .val (.ref r1), .unset] [])) t
      refine XS.aloadN X4.here hx rfl (hb hby at_41) rfl rfl ?_
      show Steps p.tables e below (T4.setTop (mkF m 42 #[.val (.int ss), .val (.int ee), .val (.int xx), .val (.ref r1), .unset] [(.ref r1)])) t
      refine XS.iloadN X4.here hx rfl (hb hby at_42) rfl ?_
      show Steps p.tables e below (T4.setTop (mkF m 43 #[.val (.int ss), .val (.int ee), .val (.int xx), .val (.ref r1), .unset] [(.int ss), (.ref r1)])) t
      exact k
    obtain ⟨cq5, kq5, q5a, q5b, q5c⟩ := isOf hZ e4 Ec1
    obtain ⟨_, _, ⟨T5, L5, c5, n5⟩, -, X5, ⟨Lc5, hQ5, l5, y5, z5⟩, st5⟩ := X4.virtualBack hx (y := (⟨"com/example/rolelint/rolelint/model/Runs", "contains", "(I)Z"⟩ : MethodName)) (z := (⟨"com/example/rolelint/rolelint/model/Runs", "contains", "(I)Z"⟩ : MethodName)) hown (mvT hZ (hw _ (List.mem_of_getElem? (i := 30) rfl))) (mvT hZ (hw _ (List.mem_of_getElem? (i := 31) rfl))) (notFace_of_selects (args := #[]) (mvT hZ (hw _ (List.mem_of_getElem? (i := 33) rfl)))) (mvT hZ (hw _ (List.mem_of_getElem? (i := 33) rfl))) (mvT hZ (hw _ (List.mem_of_getElem? (i := 32) rfl))) (by decide) (backOf (W := 0) (own_rm7y l Z a0 hw [] r1 arr1 k1 ss ee ss h1 n0 Z1 Ec1 Fc1 Vc1) hZ (hw _ (List.mem_of_getElem? (i := 34) rfl)) (hw _ (List.mem_of_getElem? (i := 2) rfl)) (by decide) (by decide)) q5a q5c (g := (mkF m 43 #[.val (.int ss), .val (.int ee), .val (.int xx), .val (.ref r1), .unset] [(.int ss), (.ref r1)])) rfl (by rw [hml]; rfl) (Steps.refl _) (argsL := [(.int ss)]) (rest := []) (lenOf own_pd4 rfl) rfl (by show 2 * 0 + _ ≤ _; exact Nat.le_of_eq rfl) (hb hby at_43) (fun _ _ => ⟨rfl, e4, (by decide : 2 + 0 ≤ _), (by decide : 3 + 0 ≤ _)⟩)
    dsimp only [Pt.U, Pt.locs, Pt.cells, Pt.slots] at X5 l5 y5 z5 st5 hQ5
    subst l5 y5 z5
    obtain ⟨rfl, N5q, e5⟩ := hQ5
    have N5 := Fr.app N4 N5q
    refine own_tr (T' := T5) (g' := (mkF m 46 #[.val (.int ss), .val (.int ee), .val (.int xx), .val (.ref r1), .unset] [(.int (own_in1 ss ee ss))])) st5 ?_
    refine own_st (T' := T5) (g' := (mkF m 53 #[.val (.int ss), .val (.int ee), .val (.int xx), .val (.ref r1), .unset] [(.int (ee - (1 : Int32))), (.ref r1)])) (fun t k => ?_) ?_
    · show Steps p.tables e below (T5.setTop (mkF m 46 #[.val (.int ss), .val (.int ee), .val (.int xx), .val (.ref r1), .unset] [(.int (own_in1 ss ee ss))])) t
      refine XS.ifNo X5.here hx rfl (hb hby at_46) rfl ((if0 _ _).trans (feq hI1').1) ?_
      show Steps p.tables e below (T5.setTop (mkF m 49 #[.val (.int ss), .val (.int ee), .val (.int xx), .val (.ref r1), .unset] [])) t
      refine XS.aloadN X5.here hx rfl (hb hby at_49) rfl rfl ?_
      show Steps p.tables e below (T5.setTop (mkF m 50 #[.val (.int ss), .val (.int ee), .val (.int xx), .val (.ref r1), .unset] [(.ref r1)])) t
      refine XS.iloadN X5.here hx rfl (hb hby at_50) rfl ?_
      show Steps p.tables e below (T5.setTop (mkF m 51 #[.val (.int ss), .val (.int ee), .val (.int xx), .val (.ref r1), .unset] [(.int ee), (.ref r1)])) t
      refine XS.iconst X5.here hx rfl (hb hby at_51) ?_
      show Steps p.tables e below (T5.setTop (mkF m 52 #[.val (.int ss), .val (.int ee), .val (.int xx), .val (.ref r1), .unset] [(.int (1 : Int32)), (.int ee), (.ref r1)])) t
      refine XS.isub X5.here hx rfl (hb hby at_52) rfl ?_
      show Steps p.tables e below (T5.setTop (mkF m 53 #[.val (.int ss), .val (.int ee), .val (.int xx), .val (.ref r1), .unset] [(.int (ee - (1 : Int32))), (.ref r1)])) t
      exact k
    obtain ⟨cq6, kq6, q6a, q6b, q6c⟩ := isOf hZ e5 Ec1
    obtain ⟨_, _, ⟨T6, L6, c6, n6⟩, -, X6, ⟨Lc6, hQ6, l6, y6, z6⟩, st6⟩ := X5.virtualBack hx (y := (⟨"com/example/rolelint/rolelint/model/Runs", "contains", "(I)Z"⟩ : MethodName)) (z := (⟨"com/example/rolelint/rolelint/model/Runs", "contains", "(I)Z"⟩ : MethodName)) hown (mvT hZ (hw _ (List.mem_of_getElem? (i := 30) rfl))) (mvT hZ (hw _ (List.mem_of_getElem? (i := 31) rfl))) (notFace_of_selects (args := #[]) (mvT hZ (hw _ (List.mem_of_getElem? (i := 33) rfl)))) (mvT hZ (hw _ (List.mem_of_getElem? (i := 33) rfl))) (mvT hZ (hw _ (List.mem_of_getElem? (i := 32) rfl))) (by decide) (backOf (W := 0) (own_rm7y l Z a0 hw [] r1 arr1 k1 ss ee (ee - (1 : Int32)) h1 n0 Z1 Ec1 Fc1 Vc1) hZ (hw _ (List.mem_of_getElem? (i := 34) rfl)) (hw _ (List.mem_of_getElem? (i := 2) rfl)) (by decide) (by decide)) q6a q6c (g := (mkF m 53 #[.val (.int ss), .val (.int ee), .val (.int xx), .val (.ref r1), .unset] [(.int (ee - (1 : Int32))), (.ref r1)])) rfl (by rw [hml]; rfl) (Steps.refl _) (argsL := [(.int (ee - (1 : Int32)))]) (rest := []) (lenOf own_pd4 rfl) rfl (by show 2 * 0 + _ ≤ _; exact Nat.le_of_eq rfl) (hb hby at_53) (fun _ _ => ⟨rfl, e5, (by decide : 2 + 0 ≤ _), (by decide : 3 + 0 ≤ _)⟩)
    dsimp only [Pt.U, Pt.locs, Pt.cells, Pt.slots] at X6 l6 y6 z6 st6 hQ6
    subst l6 y6 z6
    obtain ⟨rfl, N6q, e6⟩ := hQ6
    have N6 := Fr.app N5 N6q
    refine own_tr (T' := T6) (g' := (mkF m 56 #[.val (.int ss), .val (.int ee), .val (.int xx), .val (.ref r1), .unset] [(.int (own_in1 ss ee (ee - (1 : Int32))))])) st6 ?_
    refine own_st (T' := T6) (g' := (mkF m 63 #[.val (.int ss), .val (.int ee), .val (.int xx), .val (.ref r1), .unset] [(.int xx), (.int ss)])) (fun t k => ?_) ?_
    · show Steps p.tables e below (T6.setTop (mkF m 56 #[.val (.int ss), .val (.int ee), .val (.int xx), .val (.ref r1), .unset] [(.int (own_in1 ss ee (ee - (1 : Int32))))])) t
      refine XS.ifYes X6.here hx rfl (pc0 := 56) (pc' := 61) rfl (hb hby at_56) rfl ((if0 _ _).trans (feq hI2).2) (by decide) (by decide) ?_
      show Steps p.tables e below (T6.setTop (mkF m 61 #[.val (.int ss), .val (.int ee), .val (.int xx), .val (.ref r1), .unset] [])) t
      refine XS.iloadN X6.here hx rfl (hb hby at_61) rfl ?_
      show Steps p.tables e below (T6.setTop (mkF m 62 #[.val (.int ss), .val (.int ee), .val (.int xx), .val (.ref r1), .unset] [(.int ss)])) t
      refine XS.iloadN X6.here hx rfl (hb hby at_62) rfl ?_
      show Steps p.tables e below (T6.setTop (mkF m 63 #[.val (.int ss), .val (.int ee), .val (.int xx), .val (.ref r1), .unset] [(.int xx), (.int ss)])) t
      exact k
    by_cases hc7 : xx < ss
    · refine own_st (T' := T6) (g' := (mkF m 80 #[.val (.int ss), .val (.int ee), .val (.int xx), .val (.ref r1), .val (.int (0 : Int32))] [(.int xx), (.ref r1)])) (fun t k => ?_) ?_
      · show Steps p.tables e below (T6.setTop (mkF m 63 #[.val (.int ss), .val (.int ee), .val (.int xx), .val (.ref r1), .unset] [(.int xx), (.int ss)])) t
        refine XS.icmpYes X6.here hx rfl (pc0 := 63) (pc' := 75) rfl (hb hby at_63) rfl (tlt hc7).2.2.1 (by decide) (by decide) ?_
        show Steps p.tables e below (T6.setTop (mkF m 75 #[.val (.int ss), .val (.int ee), .val (.int xx), .val (.ref r1), .unset] [])) t
        refine XS.iconst X6.here hx rfl (hb hby at_75) ?_
        show Steps p.tables e below (T6.setTop (mkF m 76 #[.val (.int ss), .val (.int ee), .val (.int xx), .val (.ref r1), .unset] [(.int (0 : Int32))])) t
        refine XS.istore X6.here hx rfl (hb hby at_76) rfl (l' := #[.val (.int ss), .val (.int ee), .val (.int xx), .val (.ref r1), .val (.int (0 : Int32))]) rfl ?_
        show Steps p.tables e below (T6.setTop (mkF m 78 #[.val (.int ss), .val (.int ee), .val (.int xx), .val (.ref r1), .val (.int (0 : Int32))] [])) t
        refine XS.aloadN X6.here hx rfl (hb hby at_78) rfl rfl ?_
        show Steps p.tables e below (T6.setTop (mkF m 79 #[.val (.int ss), .val (.int ee), .val (.int xx), .val (.ref r1), .val (.int (0 : Int32))] [(.ref r1)])) t
        refine XS.iloadN X6.here hx rfl (hb hby at_79) rfl ?_
        show Steps p.tables e below (T6.setTop (mkF m 80 #[.val (.int ss), .val (.int ee), .val (.int xx), .val (.ref r1), .val (.int (0 : Int32))] [(.int xx), (.ref r1)])) t
        exact k
      obtain ⟨cq8, kq8, q8a, q8b, q8c⟩ := isOf hZ e6 Ec1
      obtain ⟨_, _, ⟨T8, L8, c8, n8⟩, -, X8, ⟨Lc8, hQ8, l8, y8, z8⟩, st8⟩ := X6.virtualBack hx (y := (⟨"com/example/rolelint/rolelint/model/Runs", "contains", "(I)Z"⟩ : MethodName)) (z := (⟨"com/example/rolelint/rolelint/model/Runs", "contains", "(I)Z"⟩ : MethodName)) hown (mvT hZ (hw _ (List.mem_of_getElem? (i := 30) rfl))) (mvT hZ (hw _ (List.mem_of_getElem? (i := 31) rfl))) (notFace_of_selects (args := #[]) (mvT hZ (hw _ (List.mem_of_getElem? (i := 33) rfl)))) (mvT hZ (hw _ (List.mem_of_getElem? (i := 33) rfl))) (mvT hZ (hw _ (List.mem_of_getElem? (i := 32) rfl))) (by decide) (backOf (W := 0) (own_rm7y l Z a0 hw [] r1 arr1 k1 ss ee xx h1 n0 Z1 Ec1 Fc1 Vc1) hZ (hw _ (List.mem_of_getElem? (i := 34) rfl)) (hw _ (List.mem_of_getElem? (i := 2) rfl)) (by decide) (by decide)) q8a q8c (g := (mkF m 80 #[.val (.int ss), .val (.int ee), .val (.int xx), .val (.ref r1), .val (.int (0 : Int32))] [(.int xx), (.ref r1)])) rfl (by rw [hml]; rfl) (Steps.refl _) (argsL := [(.int xx)]) (rest := []) (lenOf own_pd4 rfl) rfl (by show 2 * 0 + _ ≤ _; exact Nat.le_of_eq rfl) (hb hby at_80) (fun _ _ => ⟨rfl, e6, (by decide : 2 + 0 ≤ _), (by decide : 3 + 0 ≤ _)⟩)
      dsimp only [Pt.U, Pt.locs, Pt.cells, Pt.slots] at X8 l8 y8 z8 st8 hQ8
      subst l8 y8 z8
      obtain ⟨rfl, N8q, e8⟩ := hQ8
      have N8 := Fr.app N6 N8q
      refine own_tr (T' := T8) (g' := (mkF m 83 #[.val (.int ss), .val (.int ee), .val (.int xx), .val (.ref r1), .val (.int (0 : Int32))] [(.int (own_in1 ss ee xx))])) st8 ?_
      have hG : (own_in1 ss ee xx) = (0 : Int32) := by simp only [own_in1, hc7, hse, if_true, if_false, ite_self]
      refine own_st (T' := T8) (g' := (mkF m 93 #[.val (.int ss), .val (.int ee), .val (.int xx), .val (.ref r1), .val (.int (0 : Int32))] [(.int (1 : Int32))])) (fun t k => ?_) ?_
      · show Steps p.tables e below (T8.setTop (mkF m 83 #[.val (.int ss), .val (.int ee), .val (.int xx), .val (.ref r1), .val (.int (0 : Int32))] [(.int (own_in1 ss ee xx))])) t
        refine XS.iload X8.here hx rfl (hb hby at_83) rfl ?_
        show Steps p.tables e below (T8.setTop (mkF m 85 #[.val (.int ss), .val (.int ee), .val (.int xx), .val (.ref r1), .val (.int (0 : Int32))] [(.int (0 : Int32)), (.int (own_in1 ss ee xx))])) t
        refine XS.icmpNo X8.here hx rfl (hb hby at_85) rfl (teq hG).2 ?_
        show Steps p.tables e below (T8.setTop (mkF m 88 #[.val (.int ss), .val (.int ee), .val (.int xx), .val (.ref r1), .val (.int (0 : Int32))] [])) t
        refine XS.iconst X8.here hx rfl (hb hby at_88) ?_
        show Steps p.tables e below (T8.setTop (mkF m 89 #[.val (.int ss), .val (.int ee), .val (.int xx), .val (.ref r1), .val (.int (0 : Int32))] [(.int (1 : Int32))])) t
        refine XS.goto X8.here hx rfl (pc0 := 89) (pc' := 93) rfl (hb hby at_89) (by decide) (by decide) ?_
        show Steps p.tables e below (T8.setTop (mkF m 93 #[.val (.int ss), .val (.int ee), .val (.int xx), .val (.ref r1), .val (.int (0 : Int32))] [(.int (1 : Int32))])) t
        exact k
      exact own_retN X8 hx Bd (t := .boolean) (by simp) rfl (hb hby at_93) e8 (⟨rfl, N8⟩) (by decide) (by decide)
    · refine own_st (T' := T6) (g' := (mkF m 68 #[.val (.int ss), .val (.int ee), .val (.int xx), .val (.ref r1), .unset] [(.int ee), (.int xx)])) (fun t k => ?_) ?_
      · show Steps p.tables e below (T6.setTop (mkF m 63 #[.val (.int ss), .val (.int ee), .val (.int xx), .val (.ref r1), .unset] [(.int xx), (.int ss)])) t
        refine XS.icmpNo X6.here hx rfl (hb hby at_63) rfl (flt hc7).2.2.1 ?_
        show Steps p.tables e below (T6.setTop (mkF m 66 #[.val (.int ss), .val (.int ee), .val (.int xx), .val (.ref r1), .unset] [])) t
        refine XS.iloadN X6.here hx rfl (hb hby at_66) rfl ?_
        show Steps p.tables e below (T6.setTop (mkF m 67 #[.val (.int ss), .val (.int ee), .val (.int xx), .val (.ref r1), .unset] [(.int xx)])) t
        refine XS.iloadN X6.here hx rfl (hb hby at_67) rfl ?_
        show Steps p.tables e below (T6.setTop (mkF m 68 #[.val (.int ss), .val (.int ee), .val (.int xx), .val (.ref r1), .unset] [(.int ee), (.int xx)])) t
        exact k
      by_cases hc9 : xx < ee
      · refine own_st (T' := T6) (g' := (mkF m 80 #[.val (.int ss), .val (.int ee), .val (.int xx), .val (.ref r1), .val (.int (1 : Int32))] [(.int xx), (.ref r1)])) (fun t k => ?_) ?_
        · show Steps p.tables e below (T6.setTop (mkF m 68 #[.val (.int ss), .val (.int ee), .val (.int xx), .val (.ref r1), .unset] [(.int ee), (.int xx)])) t
          refine XS.icmpNo X6.here hx rfl (hb hby at_68) rfl (tlt hc9).2.1 ?_
          show Steps p.tables e below (T6.setTop (mkF m 71 #[.val (.int ss), .val (.int ee), .val (.int xx), .val (.ref r1), .unset] [])) t
          refine XS.iconst X6.here hx rfl (hb hby at_71) ?_
          show Steps p.tables e below (T6.setTop (mkF m 72 #[.val (.int ss), .val (.int ee), .val (.int xx), .val (.ref r1), .unset] [(.int (1 : Int32))])) t
          refine XS.goto X6.here hx rfl (pc0 := 72) (pc' := 76) rfl (hb hby at_72) (by decide) (by decide) ?_
          show Steps p.tables e below (T6.setTop (mkF m 76 #[.val (.int ss), .val (.int ee), .val (.int xx), .val (.ref r1), .unset] [(.int (1 : Int32))])) t
          refine XS.istore X6.here hx rfl (hb hby at_76) rfl (l' := #[.val (.int ss), .val (.int ee), .val (.int xx), .val (.ref r1), .val (.int (1 : Int32))]) rfl ?_
          show Steps p.tables e below (T6.setTop (mkF m 78 #[.val (.int ss), .val (.int ee), .val (.int xx), .val (.ref r1), .val (.int (1 : Int32))] [])) t
          refine XS.aloadN X6.here hx rfl (hb hby at_78) rfl rfl ?_
          show Steps p.tables e below (T6.setTop (mkF m 79 #[.val (.int ss), .val (.int ee), .val (.int xx), .val (.ref r1), .val (.int (1 : Int32))] [(.ref r1)])) t
          refine XS.iloadN X6.here hx rfl (hb hby at_79) rfl ?_
          show Steps p.tables e below (T6.setTop (mkF m 80 #[.val (.int ss), .val (.int ee), .val (.int xx), .val (.ref r1), .val (.int (1 : Int32))] [(.int xx), (.ref r1)])) t
          exact k
        obtain ⟨cq10, kq10, q10a, q10b, q10c⟩ := isOf hZ e6 Ec1
        obtain ⟨_, _, ⟨T10, L10, c10, n10⟩, -, X10, ⟨Lc10, hQ10, l10, y10, z10⟩, st10⟩ := X6.virtualBack hx (y := (⟨"com/example/rolelint/rolelint/model/Runs", "contains", "(I)Z"⟩ : MethodName)) (z := (⟨"com/example/rolelint/rolelint/model/Runs", "contains", "(I)Z"⟩ : MethodName)) hown (mvT hZ (hw _ (List.mem_of_getElem? (i := 30) rfl))) (mvT hZ (hw _ (List.mem_of_getElem? (i := 31) rfl))) (notFace_of_selects (args := #[]) (mvT hZ (hw _ (List.mem_of_getElem? (i := 33) rfl)))) (mvT hZ (hw _ (List.mem_of_getElem? (i := 33) rfl))) (mvT hZ (hw _ (List.mem_of_getElem? (i := 32) rfl))) (by decide) (backOf (W := 0) (own_rm7y l Z a0 hw [] r1 arr1 k1 ss ee xx h1 n0 Z1 Ec1 Fc1 Vc1) hZ (hw _ (List.mem_of_getElem? (i := 34) rfl)) (hw _ (List.mem_of_getElem? (i := 2) rfl)) (by decide) (by decide)) q10a q10c (g := (mkF m 80 #[.val (.int ss), .val (.int ee), .val (.int xx), .val (.ref r1), .val (.int (1 : Int32))] [(.int xx), (.ref r1)])) rfl (by rw [hml]; rfl) (Steps.refl _) (argsL := [(.int xx)]) (rest := []) (lenOf own_pd4 rfl) rfl (by show 2 * 0 + _ ≤ _; exact Nat.le_of_eq rfl) (hb hby at_80) (fun _ _ => ⟨rfl, e6, (by decide : 2 + 0 ≤ _), (by decide : 3 + 0 ≤ _)⟩)
        dsimp only [Pt.U, Pt.locs, Pt.cells, Pt.slots] at X10 l10 y10 z10 st10 hQ10
        subst l10 y10 z10
        obtain ⟨rfl, N10q, e10⟩ := hQ10
        have N10 := Fr.app N6 N10q
        refine own_tr (T' := T10) (g' := (mkF m 83 #[.val (.int ss), .val (.int ee), .val (.int xx), .val (.ref r1), .val (.int (1 : Int32))] [(.int (own_in1 ss ee xx))])) st10 ?_
        have hG : (own_in1 ss ee xx) = (1 : Int32) := by simp only [own_in1, hc7, hc9, hse, if_true, if_false, ite_self]
        refine own_st (T' := T10) (g' := (mkF m 93 #[.val (.int ss), .val (.int ee), .val (.int xx), .val (.ref r1), .val (.int (1 : Int32))] [(.int (1 : Int32))])) (fun t k => ?_) ?_
        · show Steps p.tables e below (T10.setTop (mkF m 83 #[.val (.int ss), .val (.int ee), .val (.int xx), .val (.ref r1), .val (.int (1 : Int32))] [(.int (own_in1 ss ee xx))])) t
          refine XS.iload X10.here hx rfl (hb hby at_83) rfl ?_
          show Steps p.tables e below (T10.setTop (mkF m 85 #[.val (.int ss), .val (.int ee), .val (.int xx), .val (.ref r1), .val (.int (1 : Int32))] [(.int (1 : Int32)), (.int (own_in1 ss ee xx))])) t
          refine XS.icmpNo X10.here hx rfl (hb hby at_85) rfl (teq hG).2 ?_
          show Steps p.tables e below (T10.setTop (mkF m 88 #[.val (.int ss), .val (.int ee), .val (.int xx), .val (.ref r1), .val (.int (1 : Int32))] [])) t
          refine XS.iconst X10.here hx rfl (hb hby at_88) ?_
          show Steps p.tables e below (T10.setTop (mkF m 89 #[.val (.int ss), .val (.int ee), .val (.int xx), .val (.ref r1), .val (.int (1 : Int32))] [(.int (1 : Int32))])) t
          refine XS.goto X10.here hx rfl (pc0 := 89) (pc' := 93) rfl (hb hby at_89) (by decide) (by decide) ?_
          show Steps p.tables e below (T10.setTop (mkF m 93 #[.val (.int ss), .val (.int ee), .val (.int xx), .val (.ref r1), .val (.int (1 : Int32))] [(.int (1 : Int32))])) t
          exact k
        exact own_retN X10 hx Bd (t := .boolean) (by simp) rfl (hb hby at_93) e10 (⟨rfl, N10⟩) (by decide) (by decide)
      · refine own_st (T' := T6) (g' := (mkF m 80 #[.val (.int ss), .val (.int ee), .val (.int xx), .val (.ref r1), .val (.int (0 : Int32))] [(.int xx), (.ref r1)])) (fun t k => ?_) ?_
        · show Steps p.tables e below (T6.setTop (mkF m 68 #[.val (.int ss), .val (.int ee), .val (.int xx), .val (.ref r1), .unset] [(.int ee), (.int xx)])) t
          refine XS.icmpYes X6.here hx rfl (pc0 := 68) (pc' := 75) rfl (hb hby at_68) rfl (flt hc9).2.1 (by decide) (by decide) ?_
          show Steps p.tables e below (T6.setTop (mkF m 75 #[.val (.int ss), .val (.int ee), .val (.int xx), .val (.ref r1), .unset] [])) t
          refine XS.iconst X6.here hx rfl (hb hby at_75) ?_
          show Steps p.tables e below (T6.setTop (mkF m 76 #[.val (.int ss), .val (.int ee), .val (.int xx), .val (.ref r1), .unset] [(.int (0 : Int32))])) t
          refine XS.istore X6.here hx rfl (hb hby at_76) rfl (l' := #[.val (.int ss), .val (.int ee), .val (.int xx), .val (.ref r1), .val (.int (0 : Int32))]) rfl ?_
          show Steps p.tables e below (T6.setTop (mkF m 78 #[.val (.int ss), .val (.int ee), .val (.int xx), .val (.ref r1), .val (.int (0 : Int32))] [])) t
          refine XS.aloadN X6.here hx rfl (hb hby at_78) rfl rfl ?_
          show Steps p.tables e below (T6.setTop (mkF m 79 #[.val (.int ss), .val (.int ee), .val (.int xx), .val (.ref r1), .val (.int (0 : Int32))] [(.ref r1)])) t
          refine XS.iloadN X6.here hx rfl (hb hby at_79) rfl ?_
          show Steps p.tables e below (T6.setTop (mkF m 80 #[.val (.int ss), .val (.int ee), .val (.int xx), .val (.ref r1), .val (.int (0 : Int32))] [(.int xx), (.ref r1)])) t
          exact k
        obtain ⟨cq11, kq11, q11a, q11b, q11c⟩ := isOf hZ e6 Ec1
        obtain ⟨_, _, ⟨T11, L11, c11, n11⟩, -, X11, ⟨Lc11, hQ11, l11, y11, z11⟩, st11⟩ := X6.virtualBack hx (y := (⟨"com/example/rolelint/rolelint/model/Runs", "contains", "(I)Z"⟩ : MethodName)) (z := (⟨"com/example/rolelint/rolelint/model/Runs", "contains", "(I)Z"⟩ : MethodName)) hown (mvT hZ (hw _ (List.mem_of_getElem? (i := 30) rfl))) (mvT hZ (hw _ (List.mem_of_getElem? (i := 31) rfl))) (notFace_of_selects (args := #[]) (mvT hZ (hw _ (List.mem_of_getElem? (i := 33) rfl)))) (mvT hZ (hw _ (List.mem_of_getElem? (i := 33) rfl))) (mvT hZ (hw _ (List.mem_of_getElem? (i := 32) rfl))) (by decide) (backOf (W := 0) (own_rm7y l Z a0 hw [] r1 arr1 k1 ss ee xx h1 n0 Z1 Ec1 Fc1 Vc1) hZ (hw _ (List.mem_of_getElem? (i := 34) rfl)) (hw _ (List.mem_of_getElem? (i := 2) rfl)) (by decide) (by decide)) q11a q11c (g := (mkF m 80 #[.val (.int ss), .val (.int ee), .val (.int xx), .val (.ref r1), .val (.int (0 : Int32))] [(.int xx), (.ref r1)])) rfl (by rw [hml]; rfl) (Steps.refl _) (argsL := [(.int xx)]) (rest := []) (lenOf own_pd4 rfl) rfl (by show 2 * 0 + _ ≤ _; exact Nat.le_of_eq rfl) (hb hby at_80) (fun _ _ => ⟨rfl, e6, (by decide : 2 + 0 ≤ _), (by decide : 3 + 0 ≤ _)⟩)
        dsimp only [Pt.U, Pt.locs, Pt.cells, Pt.slots] at X11 l11 y11 z11 st11 hQ11
        subst l11 y11 z11
        obtain ⟨rfl, N11q, e11⟩ := hQ11
        have N11 := Fr.app N6 N11q
        refine own_tr (T' := T11) (g' := (mkF m 83 #[.val (.int ss), .val (.int ee), .val (.int xx), .val (.ref r1), .val (.int (0 : Int32))] [(.int (own_in1 ss ee xx))])) st11 ?_
        have hG : (own_in1 ss ee xx) = (0 : Int32) := by simp only [own_in1, hc7, hc9, hse, if_true, if_false, ite_self]
        refine own_st (T' := T11) (g' := (mkF m 93 #[.val (.int ss), .val (.int ee), .val (.int xx), .val (.ref r1), .val (.int (0 : Int32))] [(.int (1 : Int32))])) (fun t k => ?_) ?_
        · show Steps p.tables e below (T11.setTop (mkF m 83 #[.val (.int ss), .val (.int ee), .val (.int xx), .val (.ref r1), .val (.int (0 : Int32))] [(.int (own_in1 ss ee xx))])) t
          refine XS.iload X11.here hx rfl (hb hby at_83) rfl ?_
          show Steps p.tables e below (T11.setTop (mkF m 85 #[.val (.int ss), .val (.int ee), .val (.int xx), .val (.ref r1), .val (.int (0 : Int32))] [(.int (0 : Int32)), (.int (own_in1 ss ee xx))])) t
          refine XS.icmpNo X11.here hx rfl (hb hby at_85) rfl (teq hG).2 ?_
          show Steps p.tables e below (T11.setTop (mkF m 88 #[.val (.int ss), .val (.int ee), .val (.int xx), .val (.ref r1), .val (.int (0 : Int32))] [])) t
          refine XS.iconst X11.here hx rfl (hb hby at_88) ?_
          show Steps p.tables e below (T11.setTop (mkF m 89 #[.val (.int ss), .val (.int ee), .val (.int xx), .val (.ref r1), .val (.int (0 : Int32))] [(.int (1 : Int32))])) t
          refine XS.goto X11.here hx rfl (pc0 := 89) (pc' := 93) rfl (hb hby at_89) (by decide) (by decide) ?_
          show Steps p.tables e below (T11.setTop (mkF m 93 #[.val (.int ss), .val (.int ee), .val (.int xx), .val (.ref r1), .val (.int (0 : Int32))] [(.int (1 : Int32))])) t
          exact k
        exact own_retN X11 hx Bd (t := .boolean) (by simp) rfl (hb hby at_93) e11 (⟨rfl, N11⟩) (by decide) (by decide)
  · obtain ⟨_, _, ⟨T12, L12, c12, n12⟩, -, X12, ⟨Lc12, hQ12, l12, y12, z12⟩, st12⟩ := Jvm.LawKit.callS X0 hx (y := (⟨"com/example/rolelint/rolelint/model/Runs", "of", "(II)Lcom/example/rolelint/rolelint/model/Runs;"⟩ : MethodName)) hown (mvT hZ (hw _ (List.mem_of_getElem? (i := 0) rfl))) (mvT hZ (hw _ (List.mem_of_getElem? (i := 1) rfl))) (mvT hZ (hw _ (List.mem_of_getElem? (i := 2) rfl))) (mvT hZ (hw _ (List.mem_of_getElem? (i := 3) rfl))) (by decide) (backOf (W := 0) (own_rm1n l Z a0 hw [] ss ee aN h0 n0 Z0 hse S_N) hZ (hw _ (List.mem_of_getElem? (i := 3) rfl)) (hw _ (List.mem_of_getElem? (i := 2) rfl)) (by decide) (by decide)) (g := (mkF m 2 #[.val (.int ss), .val (.int ee), .val (.int xx), .unset, .unset] [(.int ee), (.int ss)])) rfl (by rw [hml]; rfl) (argsL := [(.int ss), (.int ee)]) (rest := []) (lenOf own_pd3 rfl) rfl (by show 2 * 0 + _ ≤ _; exact Nat.le_of_eq rfl) (hb hby at_2) (fun _ _ => ⟨rfl, e0, (by decide : 0 + 0 ≤ _), (by decide : 0 + 0 ≤ _)⟩)
    dsimp only [Pt.U, Pt.locs, Pt.cells, Pt.slots] at X12 l12 y12 z12 st12 hQ12
    subst l12 y12 z12
    obtain ⟨rfl, N12q, e12⟩ := hQ12
    have N12 := Fr.app N0 N12q
    refine own_st (T' := T12) (g' := (mkF m 5 #[.val (.int ss), .val (.int ee), .val (.int xx), .unset, .unset] [(.ref aN)])) st12 ?_
    refine own_st (T' := T12) (g' := (mkF m 95 #[.val (.int ss), .val (.int ee), .val (.int xx), .val (.ref aN), .unset] [(.ref aN)])) (fun t k => ?_) ?_
    · show Steps p.tables e below (T12.setTop (mkF m 5 #[.val (.int ss), .val (.int ee), .val (.int xx), .unset, .unset] [(.ref aN)])) t
      refine XS.astoreN X12.here hx rfl (hb hby at_5) rfl rfl (l' := #[.val (.int ss), .val (.int ee), .val (.int xx), .val (.ref aN), .unset]) rfl ?_
      show Steps p.tables e below (T12.setTop (mkF m 6 #[.val (.int ss), .val (.int ee), .val (.int xx), .val (.ref aN), .unset] [])) t
      refine XS.iloadN X12.here hx rfl (hb hby at_6) rfl ?_
      show Steps p.tables e below (T12.setTop (mkF m 7 #[.val (.int ss), .val (.int ee), .val (.int xx), .val (.ref aN), .unset] [(.int ss)])) t
      refine XS.iloadN X12.here hx rfl (hb hby at_7) rfl ?_
      show Steps p.tables e below (T12.setTop (mkF m 8 #[.val (.int ss), .val (.int ee), .val (.int xx), .val (.ref aN), .unset] [(.int ee), (.int ss)])) t
      refine XS.icmpYes X12.here hx rfl (pc0 := 8) (pc' := 94) rfl (hb hby at_8) rfl (flt hse).2.1 (by decide) (by decide) ?_
      show Steps p.tables e below (T12.setTop (mkF m 94 #[.val (.int ss), .val (.int ee), .val (.int xx), .val (.ref aN), .unset] [])) t
      refine XS.aloadN X12.here hx rfl (hb hby at_94) rfl rfl ?_
      show Steps p.tables e below (T12.setTop (mkF m 95 #[.val (.int ss), .val (.int ee), .val (.int xx), .val (.ref aN), .unset] [(.ref aN)])) t
      exact k
    obtain ⟨cq13, kq13, q13a, q13b, q13c⟩ := isOf hZ e12 E_N
    obtain ⟨_, _, ⟨T13, L13, c13, n13⟩, -, X13, ⟨Lc13, hQ13, l13, y13, z13⟩, st13⟩ := X12.virtualBack hx (y := (⟨"com/example/rolelint/rolelint/model/Runs", "count", "()I"⟩ : MethodName)) (z := (⟨"com/example/rolelint/rolelint/model/Runs", "count", "()I"⟩ : MethodName)) hown (mvT hZ (hw _ (List.mem_of_getElem? (i := 15) rfl))) (mvT hZ (hw _ (List.mem_of_getElem? (i := 16) rfl))) (notFace_of_selects (args := #[]) (mvT hZ (hw _ (List.mem_of_getElem? (i := 18) rfl)))) (mvT hZ (hw _ (List.mem_of_getElem? (i := 18) rfl))) (mvT hZ (hw _ (List.mem_of_getElem? (i := 17) rfl))) (by decide) (backOf (W := 0) (own_rm4n l Z a0 hw [] aN arrN kN  h0 n0 Z0 E_N F_N V_N) hZ (hw _ (List.mem_of_getElem? (i := 19) rfl)) (hw _ (List.mem_of_getElem? (i := 2) rfl)) (by decide) (by decide)) q13a q13c (g := (mkF m 95 #[.val (.int ss), .val (.int ee), .val (.int xx), .val (.ref aN), .unset] [(.ref aN)])) rfl (by rw [hml]; rfl) (Steps.refl _) (argsL := []) (rest := []) (lenOf own_pd1 rfl) rfl (by show 2 * 0 + _ ≤ _; exact Nat.le_of_eq rfl) (hb hby at_95) (fun _ _ => ⟨rfl, e12, (by decide : 0 + 0 ≤ _), (by decide : 0 + 0 ≤ _)⟩)
    dsimp only [Pt.U, Pt.locs, Pt.cells, Pt.slots] at X13 l13 y13 z13 st13 hQ13
    subst l13 y13 z13
    obtain ⟨rfl, N13q, e13⟩ := hQ13
    have N13 := Fr.app N12 N13q
    refine own_tr (T' := T13) (g' := (mkF m 98 #[.val (.int ss), .val (.int ee), .val (.int xx), .val (.ref aN), .unset] [(.int (0 : Int32))])) st13 ?_
    refine own_st (T' := T13) (g' := (mkF m 105 #[.val (.int ss), .val (.int ee), .val (.int xx), .val (.ref aN), .unset] [(.int xx), (.ref aN)])) (fun t k => ?_) ?_
    · show Steps p.tables e below (T13.setTop (mkF m 98 #[.val (.int ss), .val (.int ee), .val (.int xx), .val (.ref aN), .unset] [(.int (0 : Int32))])) t
      refine XS.ifYes X13.here hx rfl (pc0 := 98) (pc' := 103) rfl (hb hby at_98) rfl ((if0 _ _).trans (teq (rfl : (0 : Int32) = (0 : Int32))).1) (by decide) (by decide) ?_
      show Steps p.tables e below (T13.setTop (mkF m 103 #[.val (.int ss), .val (.int ee), .val (.int xx), .val (.ref aN), .unset] [])) t
      refine XS.aloadN X13.here hx rfl (hb hby at_103) rfl rfl ?_
      show Steps p.tables e below (T13.setTop (mkF m 104 #[.val (.int ss), .val (.int ee), .val (.int xx), .val (.ref aN), .unset] [(.ref aN)])) t
      refine XS.iloadN X13.here hx rfl (hb hby at_104) rfl ?_
      show Steps p.tables e below (T13.setTop (mkF m 105 #[.val (.int ss), .val (.int ee), .val (.int xx), .val (.ref aN), .unset] [(.int xx), (.ref aN)])) t
      exact k
    obtain ⟨cq14, kq14, q14a, q14b, q14c⟩ := isOf hZ e13 E_N
    obtain ⟨_, _, ⟨T14, L14, c14, n14⟩, -, X14, ⟨Lc14, hQ14, l14, y14, z14⟩, st14⟩ := X13.virtualBack hx (y := (⟨"com/example/rolelint/rolelint/model/Runs", "contains", "(I)Z"⟩ : MethodName)) (z := (⟨"com/example/rolelint/rolelint/model/Runs", "contains", "(I)Z"⟩ : MethodName)) hown (mvT hZ (hw _ (List.mem_of_getElem? (i := 30) rfl))) (mvT hZ (hw _ (List.mem_of_getElem? (i := 31) rfl))) (notFace_of_selects (args := #[]) (mvT hZ (hw _ (List.mem_of_getElem? (i := 33) rfl)))) (mvT hZ (hw _ (List.mem_of_getElem? (i := 33) rfl))) (mvT hZ (hw _ (List.mem_of_getElem? (i := 32) rfl))) (by decide) (backOf (W := 0) (own_rm7n l Z a0 hw [] aN arrN kN  xx h0 n0 Z0 E_N F_N V_N) hZ (hw _ (List.mem_of_getElem? (i := 34) rfl)) (hw _ (List.mem_of_getElem? (i := 2) rfl)) (by decide) (by decide)) q14a q14c (g := (mkF m 105 #[.val (.int ss), .val (.int ee), .val (.int xx), .val (.ref aN), .unset] [(.int xx), (.ref aN)])) rfl (by rw [hml]; rfl) (Steps.refl _) (argsL := [(.int xx)]) (rest := []) (lenOf own_pd4 rfl) rfl (by show 2 * 0 + _ ≤ _; exact Nat.le_of_eq rfl) (hb hby at_105) (fun _ _ => ⟨rfl, e13, (by decide : 0 + 0 ≤ _), (by decide : 0 + 0 ≤ _)⟩)
    dsimp only [Pt.U, Pt.locs, Pt.cells, Pt.slots] at X14 l14 y14 z14 st14 hQ14
    subst l14 y14 z14
    obtain ⟨rfl, N14q, e14⟩ := hQ14
    have N14 := Fr.app N13 N14q
    refine own_tr (T' := T14) (g' := (mkF m 108 #[.val (.int ss), .val (.int ee), .val (.int xx), .val (.ref aN), .unset] [(.int (0 : Int32))])) st14 ?_
    refine own_st (T' := T14) (g' := (mkF m 116 #[.val (.int ss), .val (.int ee), .val (.int xx), .val (.ref aN), .unset] [(.int (1 : Int32))])) (fun t k => ?_) ?_
    · show Steps p.tables e below (T14.setTop (mkF m 108 #[.val (.int ss), .val (.int ee), .val (.int xx), .val (.ref aN), .unset] [(.int (0 : Int32))])) t
      refine XS.ifNo X14.here hx rfl (hb hby at_108) rfl ((if0 _ _).trans (teq (rfl : (0 : Int32) = (0 : Int32))).2) ?_
      show Steps p.tables e below (T14.setTop (mkF m 111 #[.val (.int ss), .val (.int ee), .val (.int xx), .val (.ref aN), .unset] [])) t
      refine XS.iconst X14.here hx rfl (hb hby at_111) ?_
      show Steps p.tables e below (T14.setTop (mkF m 112 #[.val (.int ss), .val (.int ee), .val (.int xx), .val (.ref aN), .unset] [(.int (1 : Int32))])) t
      refine XS.goto X14.here hx rfl (pc0 := 112) (pc' := 116) rfl (hb hby at_112) (by decide) (by decide) ?_
      show Steps p.tables e below (T14.setTop (mkF m 116 #[.val (.int ss), .val (.int ee), .val (.int xx), .val (.ref aN), .unset] [(.int (1 : Int32))])) t
      exact k
    exact own_retN X14 hx Bd (t := .boolean) (by simp) rfl (hb hby at_116) e14 (⟨rfl, N14⟩) (by decide) (by decide)
set_option maxRecDepth 65536 in
set_option maxHeartbeats 40000000 in
theorem own_comes_1 {Post : Tables → Env → Array Value → State → Outcome → State → Prop} (hpost : ∀ tb e args s v u, (limb_1_1.after args s (.returned v) u = true ∧ limb_1_2.after args s (.returned v) u = true ∧ True) → FrameEnd s (.returned v) u (Jvm.fieldLocs frame_1_writes args s ++ Jvm.arrayLocs frame_1_arrays args s ++ Jvm.staticLocs frame_1_statics s) 16 128 → Post tb e args s (.returned v) u) :
    ArmFor flags0 classFile x code maxLocals ret World_1 tables_1 room_1 Calls_1 rest_1 Pre_1 Post := by
  intro l hfl _ _ p e ha hc hk s m args below hf hA hF happ hP
  obtain ⟨hcalls, hrest, hpre⟩ := hP
  obtain ⟨-, -, -, hnamed, -, -, -, hat⟩ := (Spec.applies_iff hf).mp happ
  obtain ⟨hg, hn⟩ := and_e (Cond.before_iff.mp (show (Jvm.Cond.and given_1 narrow_1).before args s = true from hpre))
  obtain ⟨hg0, hgr⟩ := and_e hg
  obtain ⟨ha0, hgr⟩ := and_e hgr
  obtain ⟨ha1, hgr⟩ := and_e hgr
  have ha2 := hgr
  obtain ⟨w0, w1, w2, rfl⟩ : ∃ w0 w1 w2 : Value, args = #[w0, w1, w2] := by
    have hs : args.size = 3 := by simpa [Cond.value, given_1] using hg0
    obtain ⟨L⟩ := args
    match L, hs with
    | [w0, w1, w2], _ => exact ⟨w0, w1, w2, rfl⟩
  have hw := fun d (hd : d ∈ tables_1) => atoms_spec (ws := Jvm.Cond.code x code maxLocals ret :: tables_1) hat d (List.mem_cons_of_mem _ hd)
  have hfit : Fit s := fun {y c} hc i hi => by
    obtain ⟨ha, rfl⟩ := Array.getElem?_eq_some_iff.mp hc
    have q := List.all_eq_true.mp ((Array.all_eq_true_iff_forall_mem.mp hF) _ (Array.getElem_mem ha)) i (List.mem_range.mpr hi)
    simpa [Array.getElem?_eq_getElem hi] using q
  obtain ⟨i0, ei0⟩ := is_v ha0
  obtain rfl : w0 = (.int i0) := Option.some.inj ei0
  obtain ⟨i1, ei1⟩ := is_v ha1
  obtain rfl : w1 = (.int i1) := Option.some.inj ei1
  obtain ⟨i2, ei2⟩ := is_v ha2
  obtain rfl : w2 = (.int i2) := Option.some.inj ei2
  obtain ⟨x_N, hn1⟩ := and_e hn
  obtain ⟨ar_N, ln_N⟩ := and_e hn1
  obtain ⟨aN, ev_N, S_N, E_N⟩ := own_enum x_N (Or.inr ⟨(hw _ (List.mem_of_getElem? (i := 2) rfl)), (hw _ (List.mem_of_getElem? (i := 39) rfl))⟩)
  obtain ⟨arrN, kN, ea_N, V_N⟩ := own_none hfit ar_N ln_N
  have F_N : Fld s s.heap aN "com/example/rolelint/rolelint/model/Runs" "bounds" "[I" (.ref arrN) := Fld.start ((fld_at ev_N).symm.trans ea_N)
  obtain ⟨n, o, h1, h2, h3, _, L, rfl, ⟨rfl, N⟩, hq⟩ := own_rm0 l s _ hw tables_1 i0 i1 i2 aN arrN kN s.heap s.heap.size (Nat.le_refl _) S_N E_N F_N V_N p e ha hc hk s m _ below hf ((Spec.applies_iff_loose hf).mp happ).1 ⟨rfl, State.Warmed39.refl s, rfl⟩ trivial
  refine ⟨n, _, h1, h2, h3, hpost _ _ _ _ _ _ ⟨Cond.after_iff.mpr rfl, Cond.after_iff.mpr (eq_i res_at (Term.int_eval (1)) rfl), trivial⟩ ⟨hq.1, hq.2.1, (hq.2.2.sift fun y hy => Or.inr (N y hy)).mono (by decide) (by decide)⟩⟩
theorem main_1_1 : Claimed_1_1 := own_comes_1 fun _ _ _ _ _ _ h hF => ⟨h.1, hF⟩
theorem main_1_2 : Claimed_1_2 := own_comes_1 fun _ _ _ _ _ _ h hF => ⟨h.2.1, hF⟩
end Jvm.Pilot.@@N@@
namespace Jvm.Pilot.@@N@@
open Jvm Jvm.ClassFile Sem Op Lib Jvm.Free Jvm.Stand Jvm.Pilot.@@N@@.Jvm.D
/-! MADE BY PROGRAM (witnessworld.py) out of the Statement's table words and the real class files: 9 classes; the members and pool entries that the words name. The judged class is class 1, her method 1. -/
namespace start1
open Jvm.ClassFile
def u (s : String) : CpInfo := .utf8 (stringToUtf16 s)
/-- a pool by its gaps: so many unusable entries, then the entry; so many at the end -/
def gap : Nat → List CpInfo → List CpInfo
  | 0, r => r
  | n + 1, r => .unusable :: gap n r
def poolList (es : List (Nat × CpInfo)) (last : Nat) : List CpInfo := es.foldr (fun e r => gap e.1 (e.2 :: r)) (gap last [])
def pool (es : List (Nat × CpInfo)) (last : Nat) : Array CpInfo := ⟨poolList es last⟩
def fileOf (pool : Array CpInfo) (this : Nat) (attrs : Array Attribute := #[]) (ms : Array MethodInfo := #[]) (fl : Nat := 33) (sup : Nat := 0) (ifs : Array Nat := #[]) (fds : Array FieldInfo := #[]) : ClassFile where
  minorVersion := 0
  majorVersion := 65
  constantPool := pool
  accessFlags := fl
  thisClass := this
  superClass := sup
  interfaces := ifs
  fields := fds
  methods := ms
  attributes := attrs
def plain (name : String) (sup : Option ClassId) : Class where
  name := name
  kind := .ordinary
  loader := none
  accessFlags := 33
  super := sup
  interfaces := #[]
  cf := none
  fields := #[]
  methods := #[]
  instanceTypes := #[]
  staticTypes := #[]
  resolved := #[]
  callSites := []
  init := .initialized
  statics := none
  mirror := none

def pool0 : Array CpInfo := pool [(5, u "<init>"), (0, u "()V"), (1, .class_ 10), (1, u "java/lang/Object")] 113

def k0c0 : Code := { maxStack := 0, maxLocals := 1, code := object_method_1_code, exceptionTable := #[], attributes := #[] }
def k0m0 : Method := { name := "<init>", desc := "()V", sig := { parameters := [], returnType := none }, accessFlags := 1, code := some k0c0 }
/-- java/lang/Object -/
def k0 : Class := { plain "java/lang/Object" none with
  accessFlags := 33
  interfaces := #[]
  cf := some (fileOf pool0 8 #[] #[{ accessFlags := 1, nameIndex := 5, descriptorIndex := 6, attributes := #[] }] 33 0 #[] #[])
  fields := #[]
  methods := #[k0m0]
  instanceTypes := #[]
  staticTypes := #[]
  resolved := Array.replicate 124 none
  statics := none }

def pool1 : Array CpInfo := pool [(2, .class_ 4), (1, u "java/lang/Object"), (0, u "<init>"), (0, u "()V"), (0, .methodref 8 9), (0, .class_ 10), (0, .nameAndType 11 12), (0, u "com/example/rolelint/rolelint/model/Runs"), (0, u "of"), (0, u "(II)Lcom/example/rolelint/rolelint/model/Runs;"), (0, .methodref 8 14), (0, .nameAndType 15 16), (0, u "count"), (0, u "()I"), (0, .methodref 8 18), (0, .nameAndType 19 20), (0, u "start"), (0, u "(I)I"), (0, .methodref 8 22), (0, .nameAndType 23 20), (0, u "end"), (0, .methodref 8 25), (0, .nameAndType 26 27), (0, u "contains"), (0, u "(I)Z"), (0, .class_ 29), (0, u "com/example/rolelint/rolelint/model/RunsOfPinLaw"), (2, u "law"), (0, u "(III)Z")] 3

def k1m0 : Method := { name := "<init>", desc := "()V", sig := { parameters := [], returnType := none }, accessFlags := 1, code := none }
def k1c1 : Code := { maxStack := 3, maxLocals := 5, code := code, exceptionTable := #[], attributes := #[] }
def k1m1 : Method := { name := "law", desc := "(III)Z", sig := { parameters := [.int, .int, .int], returnType := some .boolean }, accessFlags := 9, code := some k1c1 }
/-- com/example/rolelint/rolelint/model/RunsOfPinLaw -/
def k1 : Class := { plain "com/example/rolelint/rolelint/model/RunsOfPinLaw" (some 0) with
  accessFlags := 49
  interfaces := #[]
  cf := some (fileOf pool1 28 #[] #[{ accessFlags := 1, nameIndex := 5, descriptorIndex := 6, attributes := #[] }, { accessFlags := 9, nameIndex := 32, descriptorIndex := 33, attributes := #[] }] 49 2 #[] #[])
  fields := #[]
  methods := #[k1m0, k1m1]
  instanceTypes := #[]
  staticTypes := #[]
  resolved := Array.replicate 37 none
  statics := none }

def pool2 : Array CpInfo := pool [(1, .methodref 2 3), (0, .class_ 4), (0, .nameAndType 5 6), (0, u "java/lang/Object"), (0, u "<init>"), (0, u "()V"), (0, .fieldref 8 9), (0, .class_ 10), (0, .nameAndType 11 12), (0, u "com/example/rolelint/rolelint/model/Runs"), (0, u "bounds"), (0, u "[I"), (0, .methodref 8 14), (0, .nameAndType 5 15), (0, u "([I)V"), (0, .fieldref 8 17), (0, .nameAndType 18 19), (0, u "NONE"), (0, u "Lcom/example/rolelint/rolelint/model/Runs;"), (16, .methodref 8 37), (0, .nameAndType 38 39), (0, u "count"), (0, u "()I"), (0, .methodref 8 41), (0, .nameAndType 42 43), (0, u "start"), (0, u "(I)I"), (2, .methodref 8 47), (0, .nameAndType 48 43), (0, u "end"), (45, u "of"), (0, u "(II)Lcom/example/rolelint/rolelint/model/Runs;"), (8, u "contains"), (0, u "(I)Z")] 7

def k2c0 : Code := { maxStack := 2, maxLocals := 2, code := prog_62_method_1_code, exceptionTable := #[], attributes := #[] }
def k2m0 : Method := { name := "<init>", desc := "([I)V", sig := { parameters := [(.array .int)], returnType := none }, accessFlags := 2, code := some k2c0 }
def k2c1 : Code := { maxStack := 6, maxLocals := 2, code := prog_62_method_2_code, exceptionTable := #[], attributes := #[] }
def k2m1 : Method := { name := "of", desc := "(II)Lcom/example/rolelint/rolelint/model/Runs;", sig := { parameters := [.int, .int], returnType := some (.object "com/example/rolelint/rolelint/model/Runs") }, accessFlags := 8, code := some k2c1 }
def k2c2 : Code := { maxStack := 2, maxLocals := 1, code := prog_62_method_4_code, exceptionTable := #[], attributes := #[] }
def k2m2 : Method := { name := "count", desc := "()I", sig := { parameters := [], returnType := some .int }, accessFlags := 1, code := some k2c2 }
def k2c3 : Code := { maxStack := 3, maxLocals := 2, code := prog_62_method_5_code, exceptionTable := #[], attributes := #[] }
def k2m3 : Method := { name := "start", desc := "(I)I", sig := { parameters := [.int], returnType := some .int }, accessFlags := 1, code := some k2c3 }
def k2c4 : Code := { maxStack := 3, maxLocals := 2, code := prog_62_method_6_code, exceptionTable := #[], attributes := #[] }
def k2m4 : Method := { name := "end", desc := "(I)I", sig := { parameters := [.int], returnType := some .int }, accessFlags := 1, code := some k2c4 }
def k2c5 : Code := { maxStack := 2, maxLocals := 5, code := prog_62_method_7_code, exceptionTable := #[], attributes := #[] }
def k2m5 : Method := { name := "contains", desc := "(I)Z", sig := { parameters := [.int], returnType := some .boolean }, accessFlags := 1, code := some k2c5 }
/-- com/example/rolelint/rolelint/model/Runs -/
def k2 : Class := { plain "com/example/rolelint/rolelint/model/Runs" (some 0) with
  accessFlags := 33
  interfaces := #[]
  cf := some (fileOf pool2 8 #[] #[{ accessFlags := 2, nameIndex := 5, descriptorIndex := 15, attributes := #[] }, { accessFlags := 8, nameIndex := 94, descriptorIndex := 95, attributes := #[] }, { accessFlags := 1, nameIndex := 38, descriptorIndex := 39, attributes := #[] }, { accessFlags := 1, nameIndex := 42, descriptorIndex := 43, attributes := #[] }, { accessFlags := 1, nameIndex := 48, descriptorIndex := 43, attributes := #[] }, { accessFlags := 1, nameIndex := 104, descriptorIndex := 105, attributes := #[] }] 33 2 #[] #[{ accessFlags := 25, nameIndex := 18, descriptorIndex := 19, attributes := #[] }, { accessFlags := 18, nameIndex := 11, descriptorIndex := 12, attributes := #[] }])
  fields := #[{ name := "NONE", type := (.object "com/example/rolelint/rolelint/model/Runs"), accessFlags := 25, slot := 0, constantValue := 0 }, { name := "bounds", type := (.array .int), accessFlags := 18, slot := 0, constantValue := 0 }]
  methods := #[k2m0, k2m1, k2m2, k2m3, k2m4, k2m5]
  instanceTypes := #[(.array .int)]
  staticTypes := #[(.object "com/example/rolelint/rolelint/model/Runs")]
  resolved := Array.replicate 113 none
  statics := some 0 }

def pool3 : Array CpInfo := pool [(1, u "java/lang/Cloneable"), (0, .class_ 1), (0, u "java/lang/Object"), (0, .class_ 3)] 3

/-- java/lang/Cloneable -/
def k3 : Class := { plain "java/lang/Cloneable" (some 0) with
  accessFlags := 1537
  interfaces := #[]
  cf := some (fileOf pool3 2 #[] #[] 1537 4 #[] #[])
  fields := #[]
  methods := #[]
  instanceTypes := #[]
  staticTypes := #[]
  resolved := Array.replicate 8 none
  statics := none }

def pool4 : Array CpInfo := pool [(1, u "java/io/Serializable"), (0, .class_ 1), (0, u "java/lang/Object"), (0, .class_ 3)] 3

/-- java/io/Serializable -/
def k4 : Class := { plain "java/io/Serializable" (some 0) with
  accessFlags := 1537
  interfaces := #[]
  cf := some (fileOf pool4 2 #[] #[] 1537 4 #[] #[])
  fields := #[]
  methods := #[]
  instanceTypes := #[]
  staticTypes := #[]
  resolved := Array.replicate 8 none
  statics := none }

/-- the primitive byte -/
def k5 : Class := { plain "byte" none with kind := .primitive 'B', accessFlags := 0x411 }
/-- [B -/
def k6 : Class := { plain "[B" (some 0) with kind := .array 5 .byte, interfaces := #[3, 4], accessFlags := 1041 }

/-- the primitive int -/
def k7 : Class := { plain "int" none with kind := .primitive 'I', accessFlags := 0x411 }
/-- [I -/
def k8 : Class := { plain "[I" (some 0) with kind := .array 7 .int, interfaces := #[3, 4], accessFlags := 1041 }

def heap : Heap := #[{ cls := 2, slots := #[.ref 2], vm := .statics 2 },
  { cls := 8, slots := #[], vm := .none },
  { cls := 2, slots := #[.ref 1], vm := .none }]
def classes : Array Class := #[k0, k1, k2, k3, k4, k5, k6, k7, k8]
def interned : List (Array UInt16 × Addr) := []
def slotsUsed : Nat := 2
def theMethod : MethodId := ⟨1, 1⟩
def args0 : Array Value := #[.int 1, .int 5, .int 3]
def aboutOver (below : List Frame) : State where
  vm := { classes := classes, interned := interned.toArray }
  heap := heap
  slotsUsed := slotsUsed
  threads := #[{ frames := .invoking theMethod args0 :: below }]
def below0 : List Frame := [.native { method := ⟨0, 0⟩, args := #[] }]
def about1 : State := aboutOver below0
def p0 : Program := .bare "" "" ""
def e0 : Env := launch0.env 0 0 0
theorem w_frames : about1.frames = Frame.invoking theMethod args0 :: below0 := rfl
set_option maxRecDepth 65536 in
theorem w_args : argsFit about1.vm theMethod args0 = true := by decide +kernel
set_option maxRecDepth 65536 in
theorem w_heap : heapFits about1 = true := by decide +kernel
set_option maxRecDepth 65536 in
theorem w_runnable : about1.curStatus? = some .runnable := by decide +kernel
set_option maxRecDepth 65536 in
theorem w_alone : about1.alone = true := by decide +kernel
set_option maxRecDepth 65536 in
theorem w_named : about1.methodNamed? x = some theMethod := by decide +kernel
set_option maxRecDepth 65536 in
theorem w_hears : about1.hears theMethod below0 = true := by decide +kernel
set_option maxRecDepth 65536 in
theorem w_ripe : about1.ripe theMethod args0 below0 = true := by decide +kernel
theorem w_running : about1.status = .running := rfl
set_option maxRecDepth 65536 in
theorem w_room : about1.hasRoom e0.platform room_1 = true :=
  launch0.hasRoom_least _ room_1 (by decide +kernel) (by decide +kernel) (by decide +kernel) (by decide +kernel) (by decide +kernel) (by decide +kernel)
theorem allAtoms_all (ts : List Jvm.Cond) (a : Array Jvm.Value) (st : Jvm.State) : (allAtoms ts).before a st = ts.all (fun c => c.before a st) := by
  induction ts with
  | nil => rfl
  | cons c t ih =>
    show (Jvm.Cond.and c (allAtoms t)).before a st = _
    rw [Jvm.Cond.before_and, ih, List.all_cons]
def words1 : List Jvm.Cond := Jvm.Cond.code x code maxLocals ret :: tables_1
/-- a 'code' word, met by the world's own term for the bytes: nothing is compared byte by byte -/
theorem code_word {y : MethodName} {bytes : ByteArray} {mx : Nat} {rt : Option FieldType} {a : Array Value} {s : State} {m : MethodId} {meth : Method} {c : Code} (h1 : s.methodNamed? y = some m) (h2 : s.vm.method? m = some meth) (h3 : meth.code = some c) (h4 : c.code = bytes)
    (h5 : (c.maxLocals == mx && c.exceptionTable.isEmpty && decide (c.maxStack ≤ mostOperands) && decide (meth.sig.returnType = rt) && !meth.locks && decide (parseMethodDescriptor y.desc = some meth.sig)) = true) : (Jvm.Cond.code y bytes mx rt).before a s = true := by
  simp only [Bool.and_eq_true, beq_iff_eq, Bool.not_eq_true', decide_eq_true_eq] at h5
  obtain ⟨⟨⟨⟨⟨g1, g2⟩, g3⟩, g4⟩, g5⟩, g6⟩ := h5
  simp [Cond.before, Cond.holds, Cond.value, h1, h2, h3, h4, g1, g2, g3, g4, g5, g6]
def isCode : Jvm.Cond → Bool
  | .code _ _ _ _ => true
  | _ => false
theorem all_split {L : List Jvm.Cond} {P : Jvm.Cond → Bool} (h1 : L.all (fun c => isCode c || P c) = true) (h2 : ∀ c ∈ L.filter isCode, P c = true) : L.all P = true := by
  refine List.all_eq_true.mpr fun c hc => ?_
  have h := List.all_eq_true.mp h1 c hc
  rcases Bool.eq_false_or_eq_true (isCode c) with hi | hi
  · exact h2 c (List.mem_filter.mpr ⟨hc, hi⟩)
  · simpa [hi] using h
set_option maxRecDepth 65536 in
theorem w_c0 : (Jvm.Cond.code x code maxLocals ret).before args0 about1 = true := code_word (m := ⟨1, 1⟩) (meth := k1m1) (c := k1c1) (by decide +kernel) rfl rfl rfl (by decide +kernel)
set_option maxRecDepth 65536 in
theorem w_c1 : (Jvm.Cond.code ({ cls := "com/example/rolelint/rolelint/model/Runs", name := "of", desc := "(II)Lcom/example/rolelint/rolelint/model/Runs;" } : Jvm.MethodName) prog_62_method_2_code (2 : Nat) (Option.some (Jvm.ClassFile.FieldType.object "com/example/rolelint/rolelint/model/Runs"))).before args0 about1 = true := code_word (m := ⟨2, 1⟩) (meth := k2m1) (c := k2c1) (by decide +kernel) rfl rfl rfl (by decide +kernel)
set_option maxRecDepth 65536 in
theorem w_c2 : (Jvm.Cond.code ({ cls := "com/example/rolelint/rolelint/model/Runs", name := "<init>", desc := "([I)V" } : Jvm.MethodName) prog_62_method_1_code (2 : Nat) (Option.none : Option Jvm.ClassFile.FieldType)).before args0 about1 = true := code_word (m := ⟨2, 0⟩) (meth := k2m0) (c := k2c0) (by decide +kernel) rfl rfl rfl (by decide +kernel)
set_option maxRecDepth 65536 in
theorem w_c3 : (Jvm.Cond.code ({ cls := "java/lang/Object", name := "<init>", desc := "()V" } : Jvm.MethodName) object_method_1_code (1 : Nat) (Option.none : Option Jvm.ClassFile.FieldType)).before args0 about1 = true := code_word (m := ⟨0, 0⟩) (meth := k0m0) (c := k0c0) (by decide +kernel) rfl rfl rfl (by decide +kernel)
set_option maxRecDepth 65536 in
theorem w_c4 : (Jvm.Cond.code ({ cls := "com/example/rolelint/rolelint/model/Runs", name := "count", desc := "()I" } : Jvm.MethodName) prog_62_method_4_code (1 : Nat) (Option.some Jvm.ClassFile.FieldType.int)).before args0 about1 = true := code_word (m := ⟨2, 2⟩) (meth := k2m2) (c := k2c2) (by decide +kernel) rfl rfl rfl (by decide +kernel)
set_option maxRecDepth 65536 in
theorem w_c5 : (Jvm.Cond.code ({ cls := "com/example/rolelint/rolelint/model/Runs", name := "start", desc := "(I)I" } : Jvm.MethodName) prog_62_method_5_code (2 : Nat) (Option.some Jvm.ClassFile.FieldType.int)).before args0 about1 = true := code_word (m := ⟨2, 3⟩) (meth := k2m3) (c := k2c3) (by decide +kernel) rfl rfl rfl (by decide +kernel)
set_option maxRecDepth 65536 in
theorem w_c6 : (Jvm.Cond.code ({ cls := "com/example/rolelint/rolelint/model/Runs", name := "end", desc := "(I)I" } : Jvm.MethodName) prog_62_method_6_code (2 : Nat) (Option.some Jvm.ClassFile.FieldType.int)).before args0 about1 = true := code_word (m := ⟨2, 4⟩) (meth := k2m4) (c := k2c4) (by decide +kernel) rfl rfl rfl (by decide +kernel)
set_option maxRecDepth 65536 in
theorem w_c7 : (Jvm.Cond.code ({ cls := "com/example/rolelint/rolelint/model/Runs", name := "contains", desc := "(I)Z" } : Jvm.MethodName) prog_62_method_7_code (5 : Nat) (Option.some Jvm.ClassFile.FieldType.boolean)).before args0 about1 = true := code_word (m := ⟨2, 5⟩) (meth := k2m5) (c := k2c5) (by decide +kernel) rfl rfl rfl (by decide +kernel)
def codes1 : List Jvm.Cond := [Jvm.Cond.code x code maxLocals ret, Jvm.Cond.code ({ cls := "com/example/rolelint/rolelint/model/Runs", name := "of", desc := "(II)Lcom/example/rolelint/rolelint/model/Runs;" } : Jvm.MethodName) prog_62_method_2_code (2 : Nat) (Option.some (Jvm.ClassFile.FieldType.object "com/example/rolelint/rolelint/model/Runs")), Jvm.Cond.code ({ cls := "com/example/rolelint/rolelint/model/Runs", name := "<init>", desc := "([I)V" } : Jvm.MethodName) prog_62_method_1_code (2 : Nat) (Option.none : Option Jvm.ClassFile.FieldType), Jvm.Cond.code ({ cls := "java/lang/Object", name := "<init>", desc := "()V" } : Jvm.MethodName) object_method_1_code (1 : Nat) (Option.none : Option Jvm.ClassFile.FieldType), Jvm.Cond.code ({ cls := "com/example/rolelint/rolelint/model/Runs", name := "count", desc := "()I" } : Jvm.MethodName) prog_62_method_4_code (1 : Nat) (Option.some Jvm.ClassFile.FieldType.int), Jvm.Cond.code ({ cls := "com/example/rolelint/rolelint/model/Runs", name := "start", desc := "(I)I" } : Jvm.MethodName) prog_62_method_5_code (2 : Nat) (Option.some Jvm.ClassFile.FieldType.int), Jvm.Cond.code ({ cls := "com/example/rolelint/rolelint/model/Runs", name := "end", desc := "(I)I" } : Jvm.MethodName) prog_62_method_6_code (2 : Nat) (Option.some Jvm.ClassFile.FieldType.int), Jvm.Cond.code ({ cls := "com/example/rolelint/rolelint/model/Runs", name := "contains", desc := "(I)Z" } : Jvm.MethodName) prog_62_method_7_code (5 : Nat) (Option.some Jvm.ClassFile.FieldType.boolean)]
set_option maxRecDepth 65536 in
theorem codes_eq : words1.filter isCode = codes1 := rfl
theorem w_codes : ∀ c ∈ words1.filter isCode, c.before args0 about1 = true := by
  rw [codes_eq]
  intro c hc
  simp only [codes1, List.mem_cons, List.not_mem_nil, or_false] at hc
  rcases hc with rfl | rfl | rfl | rfl | rfl | rfl | rfl | rfl
  · exact w_c0
  · exact w_c1
  · exact w_c2
  · exact w_c3
  · exact w_c4
  · exact w_c5
  · exact w_c6
  · exact w_c7
set_option maxRecDepth 65536 in
theorem w_t1 : (words1.take 24).all (fun c => isCode c || c.before args0 about1) = true := by decide +kernel
set_option maxRecDepth 65536 in
theorem w_t2 : (words1.drop 24).all (fun c => isCode c || c.before args0 about1) = true := by decide +kernel
theorem w_tables : (allAtoms (Jvm.Cond.code x code maxLocals ret :: tables_1)).before args0 about1 = true := by
  rw [allAtoms_all]
  show words1.all (fun c => c.before args0 about1) = true
  refine all_split ?_ w_codes
  rw [← List.take_append_drop 24 words1, List.all_append, w_t1, w_t2]
  rfl
set_option maxRecDepth 65536 in
theorem w_case : (Jvm.Cond.and given_1 narrow_1).before args0 about1 = true := by decide +kernel
theorem w_applies : (headSpec (Jvm.Cond.code x code maxLocals ret :: tables_1) room_1).applies x e0.platform about1 = true :=
  (Spec.applies_iff w_frames).mpr ⟨w_running, w_runnable, w_alone, w_named, w_hears, w_ripe, w_room, w_tables⟩
theorem atStart : AtStart classFile x code maxLocals ret World_1 tables_1 room_1 Calls_1 rest_1 Pre_1 launch0 p0 e0 about1 theMethod args0 below0 :=
  ⟨lists_1, trivial, launch0.admits_env _ _ _, launch0.least_env, fairChoices_fair.cas, fairChoices_fair.clock, w_frames, w_args, w_heap, w_applies, trivial, trivial, w_case⟩
end start1
theorem witness_1 : WitnessClaimed_1 := ⟨start1.p0, start1.e0, start1.about1, start1.theMethod, start1.args0, start1.below0, start1.atStart⟩
end Jvm.Pilot.@@N@@
