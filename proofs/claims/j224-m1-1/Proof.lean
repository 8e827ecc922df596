import JvmDerived
import JvmDerived.Pilot.@@N@@Statement
import JvmDerived.Pilot.@@N@@Code
set_option linter.unusedVariables false
set_option linter.unusedSimpArgs false
namespace Jvm.Pilot.@@N@@
open Jvm Jvm.ClassFile Sem Op Lib Jvm.Free Jvm.Stand Jvm.LawKit Jvm.RoadKit Bundle Jvm.Pilot.@@N@@.Jvm.D
theorem own_cast {tb : Tables} {e : Env} {below : List Frame} {T : State} {g g' : JFrame} {t : State} (q : g = g') (k : Steps tb e below (T.setTop g') t) : Steps tb e below (T.setTop g) t := q ▸ k
section Own
variable {p : Program} {l : Launch} {e : Env} {R : Room} {s : State} {m : MethodId} {args : Array Value} {below : List Frame} {meth : Method} {c : Code} {T T' : State} {locs : List Loc} {cells slots : Nat} {g g' : JFrame} {K : Outcome → State → Prop} {h : Heap}
/-- the run from T with g on top comes to an end at which K holds -/
def own_Go (p : Program) (e : Env) (below : List Frame) (K : Outcome → State → Prop) (T : State) (g : JFrame) : Prop := ∃ t o, Steps p.tables e below (T.setTop g) t ∧ t.status = .running ∧ Ended t below o ∧ K o t
def own_K (s : State) (Q : Option Value → Heap → List Loc → Prop) (kc ks : Nat) : Outcome → State → Prop := fun o t => ∃ v L, o = .returned v ∧ Q v t.heap L ∧ FrameEnd s o t L kc ks
theorem own_st (k : ∀ t, Steps p.tables e below (T'.setTop g') t → Steps p.tables e below (T.setTop g) t) (h : own_Go p e below K T' g') : own_Go p e below K T g := by
  obtain ⟨t, o, h1, h2⟩ := h; exact ⟨t, o, k t h1, h2⟩
theorem own_tr (k : Steps p.tables e below (T.setTop g) (T'.setTop g')) (h : own_Go p e below K T' g') : own_Go p e below K T g := by
  obtain ⟨t, o, h1, h2⟩ := h; exact ⟨t, o, k.trans h1, h2⟩
theorem own_in (q : g = g') (h : own_Go p e below K T g') : ∃ t o, Steps p.tables e below (T.setTop g) t ∧ t.status = .running ∧ Ended t below o ∧ K o t := by
  obtain ⟨t, o, h1, h2⟩ := h; exact ⟨t, o, own_cast q h1, h2⟩
variable {Q : Option Value → Heap → List Loc → Prop} {kc ks pc : Nat} {Ls : Array Slot} {rest : List Value} {x : MethodName} {S : Spec} {code : ByteArray} {maxLocals : Nat} {s₁ : State}
theorem own_end (X : Stand p l e R s m args below meth c T locs cells slots) {v : Option Value} (hv : meth.sig.returnType = none → v = none) (hlk : meth.locks = false) (eT : T.heap = h) (hQ : Q v h locs) (hc : cells ≤ kc) (hs : slots ≤ ks)
    (k : ∀ fs, (∀ (f : JFrame) (acts : List Action), f.method = m → f.locked = none → f.entered = [] → (doReturn e (T.setTop f) acts v).1 = T.setFrames fs) → Steps p.tables e below (T.setTop g) (T.setFrames fs)) : own_Go p e below (own_K s Q kc ks) T g := by
  obtain ⟨fs, hr, hrun, hended, hW, hsame⟩ := X.leave (v := v) hv hlk
  refine ⟨_, _, k fs hr, hrun, hended, v, locs, rfl, ?_, ⟨_, rfl⟩, hW, hsame.mono hc hs⟩
  show Q v T.heap locs
  rw [eT]; exact hQ
theorem own_retI (X : Stand p l e R s m args below meth c T locs cells slots) (hx : p.tables.exec = Jvm.exec) (Bd : BodyLoose p l x S code maxLocals (some .int) e s m args below meth c s₁) {z : Int32} (hd : decode c.code pc = .ok (.ireturn, 1)) (eT : T.heap = h) (hQ : Q (some (.int z)) h locs) (hc : cells ≤ kc) (hs : slots ≤ ks) :
    own_Go p e below (own_K s Q kc ks) T (mkF m pc Ls (.int z :: rest)) :=
  own_end X (fun h => by rw [Bd.returns] at h; cases h) Bd.notSynchronized eT hQ hc hs fun fs hr => retOut X hx Bd.returns rfl (Or.inl ⟨rfl, Or.inl rfl, z, rfl⟩) hd hr
theorem own_retJ (X : Stand p l e R s m args below meth c T locs cells slots) (hx : p.tables.exec = Jvm.exec) (Bd : BodyLoose p l x S code maxLocals (some .long) e s m args below meth c s₁) {z : Int64} (hd : decode c.code pc = .ok (.lreturn, 1)) (eT : T.heap = h) (hQ : Q (some (.long z)) h locs) (hc : cells ≤ kc) (hs : slots ≤ ks) :
    own_Go p e below (own_K s Q kc ks) T (mkF m pc Ls (.long z :: rest)) :=
  own_end X (fun h => by rw [Bd.returns] at h; cases h) Bd.notSynchronized eT hQ hc hs fun fs hr => retOut X hx Bd.returns rfl (Or.inr (Or.inl ⟨rfl, rfl, z, rfl⟩)) hd hr
theorem own_retN (X : Stand p l e R s m args below meth c T locs cells slots) (hx : p.tables.exec = Jvm.exec) {t : FieldType} (Bd : BodyLoose p l x S code maxLocals (some t) e s m args below meth c s₁) (ht : t = .boolean ∨ t = .byte ∨ t = .char ∨ t = .short) {z : Int32} (hn : narrow t (.int z) = .int z) (hd : decode c.code pc = .ok (.ireturn, 1)) (eT : T.heap = h) (hQ : Q (some (.int z)) h locs) (hc : cells ≤ kc) (hs : slots ≤ ks) :
    own_Go p e below (own_K s Q kc ks) T (mkF m pc Ls (.int z :: rest)) :=
  own_end X (fun h => by rw [Bd.returns] at h; cases h) Bd.notSynchronized eT hQ hc hs fun fs hr => retOut X hx Bd.returns hn (Or.inl ⟨rfl, Or.inr ht, z, rfl⟩) hd hr
theorem own_retA (X : Stand p l e R s m args below meth c T locs cells slots) (hx : p.tables.exec = Jvm.exec) {t : FieldType} (Bd : BodyLoose p l x S code maxLocals (some t) e s m args below meth c s₁) (ht : t.isReference = true) {w : Value} (hw : w.isRef = true) (hd : decode c.code pc = .ok (.areturn, 1)) (eT : T.heap = h) (hQ : Q (some w) h locs) (hc : cells ≤ kc) (hs : slots ≤ ks) :
    own_Go p e below (own_K s Q kc ks) T (mkF m pc Ls (w :: rest)) :=
  own_end X (fun h => by rw [Bd.returns] at h; cases h) Bd.notSynchronized eT hQ hc hs fun fs hr => retOut X hx Bd.returns (by cases t <;> first | (cases ht; done) | rfl) (Or.inr (Or.inr (Or.inr (Or.inr ⟨rfl, ht, hw⟩)))) hd hr
theorem own_retV (X : Stand p l e R s m args below meth c T locs cells slots) (hx : p.tables.exec = Jvm.exec) (Bd : BodyLoose p l x S code maxLocals none e s m args below meth c s₁) (hd : decode c.code pc = .ok (.return_, 1)) (eT : T.heap = h) (hQ : Q none h locs) (hc : cells ≤ kc) (hs : slots ≤ ks) :
    own_Go p e below (own_K s Q kc ks) T (mkF m pc Ls []) :=
  own_end X (fun _ => rfl) Bd.notSynchronized eT hQ hc hs fun fs hr => X.returnOut hx Bd.returns hd hr
end Own
theorem own_Sta_keep {Z : State} {h h' : Heap} {C n d : String} {v : Value} {ws : List Addr} (F : Sta Z h C n d v) (K : Keep h h' ws) (q : ∀ x ∈ ws, ∀ cell : Cell, h[x]? = some cell → cell.vm.isStatics = false) : Sta Z h' C n d v := by
  obtain ⟨cf, i, k, f, st, cell, h1, h2, h3, h4, h5, h6, h7⟩ := F
  exact ⟨cf, i, k, f, st, cell, h1, h2, h3, h4, K.2.1 _ _ h5 (fun hm => by rw [q _ hm _ h5] at h6; cases h6), h6, h7⟩
theorem own_Ins_keep {Z : State} {h h' : Heap} {a : Addr} {C : String} {b : Bool} {ws : List Addr} (F : Ins Z h a C b) (K : Keep h h' ws) : Ins Z h' a C b := by
  obtain ⟨cell, cT, h1, h2, h3⟩ := F
  obtain ⟨c', e1, e2, e3, -⟩ := K.2.2 _ _ h1
  exact ⟨c', cT, e1, h2, by rw [e2, e3]; exact h3⟩
theorem own_enum {Z : State} {args : Array Value} {C D n d : String} (h : (Cond.exactly (Term.static C n d) D).value args Z none Z [] = some true) (hi : (Cond.initializedFor C n d).before args Z = true ∨ ((Cond.initialized C).before args Z = true ∧ (Cond.laysStatic C n d).before args Z = true)) :
    ∃ a, (Term.static C n d).eval args Z none [] Z = some (.ref a) ∧ Sta Z Z.heap C n d (.ref a) ∧ Exa Z Z.heap a D := by
  obtain ⟨a, e⟩ := exa_v h
  exact ⟨a, e, Sta.start e hi, Exa.start e h⟩
theorem own_ord {Z : State} {args : Array Value} {t : Term} {a : Addr} {O n d : String} {k : Int32} (e : t.eval args Z none [] Z = some (.ref a)) (h : (Cond.eq (Term.field t O n d) (Term.int k)).value args Z none Z [] = some true) : Fld Z Z.heap a O n d (.int k) := by
  refine Fld.start ?_
  have q := fld_at (C := O) (n := n) (dd := d) (first := Z) (o := none) (idx := []) (args := args) e
  obtain ⟨x, y, h1, h2, -⟩ := cmp_v (Or.inl h)
  rw [q] at h1
  have h2' : some (Value.int k) = some y := h2
  cases h2'
  cases x <;> simp [Cond.value, Term.eval, e, h1] at h
  rw [h1, h]
theorem own_bb (x : Int32) : x.toInt8.toInt32.toInt8.toInt32 = x.toInt8.toInt32 := by simp
theorem own_cc (x : Int32) : x.toUInt32.toUInt16.toUInt32.toInt32.toUInt32.toUInt16.toUInt32.toInt32 = x.toUInt32.toUInt16.toUInt32.toInt32 := by simp only [UInt32.toUInt32_toInt32, UInt16.toUInt16_toUInt32]
theorem own_nar_ref {t : FieldType} {v : Value} (h : v.isRef = true) (ht : t.isReference = true) : narrow t v = v := by cases t <;> first | (cases ht; done) | rfl
theorem own_fits_ref {t : FieldType} {v : Value} (h : v.isRef = true) (ht : t.isReference = true) : fits t v = true := by rcases ref_cases h with rfl | ⟨a, rfl⟩ <;> cases t <;> first | (cases ht; done) | rfl
theorem own_nar_b {z : Int32} (h : z = 0 ∨ z = 1) : narrow .boolean (.int z) = .int z := by rcases h with rfl | rfl <;> rfl
theorem own_fits_b {z : Int32} (h : z = 0 ∨ z = 1) : fits .boolean (.int z) = true := by rcases h with rfl | rfl <;> rfl
theorem own_d1_0 : decode jdk_29_method_65_code 0 = .ok (.iload_n 0, 1) := by decide +kernel
theorem own_d1_1 : decode jdk_29_method_65_code 1 = .ok (.iload_n 1, 1) := by decide +kernel
theorem own_d1_2 : decode jdk_29_method_65_code 2 = .ok (.if_icmp .lt 7, 3) := by decide +kernel
theorem own_d1_9 : decode jdk_29_method_65_code 9 = .ok (.iload_n 1, 1) := by decide +kernel
theorem own_d1_10 : decode jdk_29_method_65_code 10 = .ok (.ireturn, 1) := by decide +kernel
theorem own_d1_5 : decode jdk_29_method_65_code 5 = .ok (.iload_n 0, 1) := by decide +kernel
theorem own_d1_6 : decode jdk_29_method_65_code 6 = .ok (.goto 4, 3) := by decide +kernel
theorem own_d3_0 : decode jdk_29_method_22_code 0 = .ok (.dload_n 0, 1) := by decide +kernel
theorem own_d3_1 : decode jdk_29_method_22_code 1 = .ok (.invokestatic 79, 3) := by decide +kernel
theorem own_d3_4 : decode jdk_29_method_22_code 4 = .ok (.lstore_n 2, 1) := by decide +kernel
theorem own_d3_5 : decode jdk_29_method_22_code 5 = .ok (.lload_n 2, 1) := by decide +kernel
theorem own_d3_6 : decode jdk_29_method_22_code 6 = .ok (.ldc2_w 87, 3) := by decide +kernel
theorem own_d3_9 : decode jdk_29_method_22_code 9 = .ok (.land, 1) := by decide +kernel
theorem own_d3_10 : decode jdk_29_method_22_code 10 = .ok (.bipush 52, 2) := by decide +kernel
theorem own_d3_12 : decode jdk_29_method_22_code 12 = .ok (.lshr, 1) := by decide +kernel
theorem own_d3_13 : decode jdk_29_method_22_code 13 = .ok (.lstore 4, 2) := by decide +kernel
theorem own_d3_15 : decode jdk_29_method_22_code 15 = .ok (.ldc2_w 89, 3) := by decide +kernel
theorem own_d3_18 : decode jdk_29_method_22_code 18 = .ok (.lload 4, 2) := by decide +kernel
theorem own_d3_20 : decode jdk_29_method_22_code 20 = .ok (.lsub, 1) := by decide +kernel
theorem own_d3_21 : decode jdk_29_method_22_code 21 = .ok (.lstore 6, 2) := by decide +kernel
theorem own_d3_23 : decode jdk_29_method_22_code 23 = .ok (.lload 6, 2) := by decide +kernel
theorem own_d3_25 : decode jdk_29_method_22_code 25 = .ok (.ldc2_w 91, 3) := by decide +kernel
theorem own_d3_28 : decode jdk_29_method_22_code 28 = .ok (.land, 1) := by decide +kernel
theorem own_d3_29 : decode jdk_29_method_22_code 29 = .ok (.lconst 0, 1) := by decide +kernel
theorem own_d3_30 : decode jdk_29_method_22_code 30 = .ok (.lcmp, 1) := by decide +kernel
theorem own_d3_31 : decode jdk_29_method_22_code 31 = .ok (.ifCond .ne 36, 3) := by decide +kernel
theorem own_d3_34 : decode jdk_29_method_22_code 34 = .ok (.lload_n 2, 1) := by decide +kernel
theorem own_d3_35 : decode jdk_29_method_22_code 35 = .ok (.ldc2_w 93, 3) := by decide +kernel
theorem own_d3_38 : decode jdk_29_method_22_code 38 = .ok (.land, 1) := by decide +kernel
theorem own_d3_39 : decode jdk_29_method_22_code 39 = .ok (.ldc2_w 95, 3) := by decide +kernel
theorem own_d3_42 : decode jdk_29_method_22_code 42 = .ok (.lor, 1) := by decide +kernel
theorem own_d3_43 : decode jdk_29_method_22_code 43 = .ok (.lstore 8, 2) := by decide +kernel
theorem own_d3_45 : decode jdk_29_method_22_code 45 = .ok (.lload_n 2, 1) := by decide +kernel
theorem own_d3_46 : decode jdk_29_method_22_code 46 = .ok (.lconst 0, 1) := by decide +kernel
theorem own_d3_47 : decode jdk_29_method_22_code 47 = .ok (.lcmp, 1) := by decide +kernel
theorem own_d3_48 : decode jdk_29_method_22_code 48 = .ok (.ifCond .ge 8, 3) := by decide +kernel
theorem own_d3_56 : decode jdk_29_method_22_code 56 = .ok (.lload 8, 2) := by decide +kernel
theorem own_d3_58 : decode jdk_29_method_22_code 58 = .ok (.lload 6, 2) := by decide +kernel
theorem own_d3_60 : decode jdk_29_method_22_code 60 = .ok (.l2i, 1) := by decide +kernel
theorem own_d3_61 : decode jdk_29_method_22_code 61 = .ok (.lshr, 1) := by decide +kernel
theorem own_d3_62 : decode jdk_29_method_22_code 62 = .ok (.lconst 1, 1) := by decide +kernel
theorem own_d3_63 : decode jdk_29_method_22_code 63 = .ok (.ladd, 1) := by decide +kernel
theorem own_d3_64 : decode jdk_29_method_22_code 64 = .ok (.iconst 1, 1) := by decide +kernel
theorem own_d3_65 : decode jdk_29_method_22_code 65 = .ok (.lshr, 1) := by decide +kernel
theorem own_d3_66 : decode jdk_29_method_22_code 66 = .ok (.lreturn, 1) := by decide +kernel
theorem own_d2_0 : decode prog_19_method_2_code 0 = .ok (.dload_n 2, 1) := by decide +kernel
theorem own_d2_1 : decode prog_19_method_2_code 1 = .ok (.dconst 0, 1) := by decide +kernel
theorem own_d2_2 : decode prog_19_method_2_code 2 = .ok (.dcmp .l, 1) := by decide +kernel
theorem own_d2_3 : decode prog_19_method_2_code 3 = .ok (.ifCond .le 9, 3) := by decide +kernel
theorem own_d2_6 : decode prog_19_method_2_code 6 = .ok (.dload_n 2, 1) := by decide +kernel
theorem own_d2_7 : decode prog_19_method_2_code 7 = .ok (.dconst 1, 1) := by decide +kernel
theorem own_d2_8 : decode prog_19_method_2_code 8 = .ok (.dcmp .g, 1) := by decide +kernel
theorem own_d2_9 : decode prog_19_method_2_code 9 = .ok (.ifCond .le 17, 3) := by decide +kernel
theorem own_d2_26 : decode prog_19_method_2_code 26 = .ok (.dload_n 2, 1) := by decide +kernel
theorem own_d2_27 : decode prog_19_method_2_code 27 = .ok (.iload_n 0, 1) := by decide +kernel
theorem own_d2_28 : decode prog_19_method_2_code 28 = .ok (.i2d, 1) := by decide +kernel
theorem own_d2_29 : decode prog_19_method_2_code 29 = .ok (.dmul, 1) := by decide +kernel
theorem own_d2_30 : decode prog_19_method_2_code 30 = .ok (.iload_n 1, 1) := by decide +kernel
theorem own_d2_31 : decode prog_19_method_2_code 31 = .ok (.i2d, 1) := by decide +kernel
theorem own_d2_32 : decode prog_19_method_2_code 32 = .ok (.dmul, 1) := by decide +kernel
theorem own_d2_33 : decode prog_19_method_2_code 33 = .ok (.invokestatic 35, 3) := by decide +kernel
theorem own_pd0 : parseMethodDescriptor "(D)J" = some ⟨[.double], some .long⟩ := by decide +kernel
theorem own_d2_36 : decode prog_19_method_2_code 36 = .ok (.lreturn, 1) := by decide +kernel
theorem own_pn0 : plainName "com/example/dyadloom/dyadloom/core/RandomMatrix" = true := by first | (simp [plainName, overriddenIn]; done) | decide +kernel
theorem own_pd1 : parseMethodDescriptor "(II)I" = some ⟨[.int, .int], some .int⟩ := by decide +kernel
theorem own_pd2 : parseMethodDescriptor "(IID)J" = some ⟨[.int, .int, .double], some .long⟩ := by decide +kernel
theorem own_pn1 : plainName "com/example/dyadloom/dyadloom/core/RandomMatrixEntriesPinLaw" = true := by first | (simp [plainName, overriddenIn]; done) | decide +kernel
theorem own_lg {c : Nat} (h : 0 < c) : 2 ^ c.log2 ≤ c ∧ c < 2 ^ (c.log2 + 1) := ⟨Nat.log2_self_le (by omega), Nat.lt_log2_self⟩
theorem own_lgm {c : Nat} (k : Nat) (h : 0 < c) : (c * 2 ^ k).log2 = c.log2 + k := by
  obtain ⟨h1, h2⟩ := own_lg h
  have hp : 0 < c * 2 ^ k := Nat.mul_pos h (Nat.two_pow_pos k)
  rw [Nat.log2_eq_iff (by omega)]
  refine ⟨?_, ?_⟩
  · rw [Nat.pow_add]; exact Nat.mul_le_mul_right _ h1
  · rw [show c.log2 + k + 1 = c.log2 + 1 + k by omega, Nat.pow_add]; exact Nat.mul_lt_mul_of_pos_right h2 (Nat.two_pow_pos k)
theorem own_near (u w : Nat) (h : 0 < w) : FP.Core.nearest (u * w) w = u := by
  unfold FP.Core.nearest
  rw [Nat.mul_mod_left, Nat.mul_div_cancel _ h, if_pos (by omega)]
theorem own_l53 {c : Nat} (h : 0 < c) (h53 : c < 2 ^ 53) : c.log2 ≤ 52 := by
  obtain ⟨h1, -⟩ := own_lg h
  have : c.log2 < 53 := (Nat.pow_lt_pow_iff_right (a := 2) (by omega)).mp (Nat.lt_of_le_of_lt h1 h53)
  omega
/-- the significand of 53 digits -/
def own_M (c : Nat) : Nat := c * 2 ^ (52 - c.log2)
theorem own_Mr {c : Nat} (h : 0 < c) (h53 : c < 2 ^ 53) : 2 ^ 52 ≤ own_M c ∧ own_M c < 2 ^ 53 := by
  have hl := own_l53 h h53
  obtain ⟨h1, h2⟩ := own_lg h
  unfold own_M
  constructor
  · have := Nat.mul_le_mul_right (2 ^ (52 - c.log2)) h1
    rwa [← Nat.pow_add, show c.log2 + (52 - c.log2) = 52 by omega] at this
  · have := Nat.mul_lt_mul_of_pos_right h2 (Nat.two_pow_pos (52 - c.log2))
    rwa [← Nat.pow_add, show c.log2 + 1 + (52 - c.log2) = 53 by omega] at this
theorem own_rr {c k : Nat} {e : Int} (hc : 0 < c) (h53 : c < 2 ^ 53) (lo : -1074 ≤ e + k + c.log2 - 52) (hi : e + k + c.log2 - 52 ≤ 971) : FP.Core.roundRatio FP.Core.b64 false (c * 2 ^ k) 1 e = .fin false (own_M c) (e + k + c.log2 - 52) := by
  have hl := own_l53 hc h53
  obtain ⟨m1, m2⟩ := own_Mr hc h53
  have hp : 0 < c * 2 ^ k := Nat.mul_pos hc (Nat.two_pow_pos k)
  have hlead : FP.Core.leading (c * 2 ^ k) 1 = ((c.log2 + k : Nat) : Int) := by
    unfold FP.Core.leading
    rw [own_lgm k hc, show (1 : Nat).log2 = 0 from rfl]
    have e1 : (((c.log2 + k : Nat) : Int) - ((0 : Nat) : Int)) = ((c.log2 + k : Nat) : Int) := by omega
    simp only [e1]
    rw [if_pos]
    rw [Int.toNat_natCast, show (-((c.log2 + k : Nat) : Int)).toNat = 0 by omega, Nat.pow_zero, Nat.mul_one, Nat.one_mul, ← own_lgm k hc]
    exact (own_lg hp).1
  have hq : FP.Core.quantum FP.Core.b64 (c * 2 ^ k) 1 e = e + k + c.log2 - 52 := by
    unfold FP.Core.quantum
    rw [hlead, show FP.Core.b64.qmin = -1074 from by decide, show ((FP.Core.b64.p : Int) - 1) = 52 from by decide]
    omega
  unfold FP.Core.roundRatio
  rw [if_neg (by omega), hq]
  unfold FP.Core.roundAt
  have hn : FP.Core.nearest (FP.Core.unitsNum (c * 2 ^ k) e (e + k + c.log2 - 52)) (FP.Core.unitsDen 1 e (e + k + c.log2 - 52)) = own_M c := by
    unfold FP.Core.unitsNum FP.Core.unitsDen own_M
    by_cases h : k + c.log2 ≤ 52
    · rw [show (e - (e + k + c.log2 - 52)).toNat = 52 - c.log2 - k by omega, show (e + k + c.log2 - 52 - e).toNat = 0 by omega, Nat.mul_assoc, ← Nat.pow_add, show k + (52 - c.log2 - k) = 52 - c.log2 by omega, Nat.pow_zero]
      have := own_near (c * 2 ^ (52 - c.log2)) 1 (by omega)
      rwa [Nat.mul_one] at this
    · rw [show (e - (e + k + c.log2 - 52)).toNat = 0 by omega, show (e + k + c.log2 - 52 - e).toNat = k + c.log2 - 52 by omega, Nat.pow_zero, Nat.mul_one, Nat.one_mul]
      have := own_near (c * 2 ^ (52 - c.log2)) (2 ^ (k + c.log2 - 52)) (Nat.two_pow_pos _)
      rwa [Nat.mul_assoc, ← Nat.pow_add, show 52 - c.log2 + (k + c.log2 - 52) = k by omega] at this
  rw [hn]
  unfold FP.Core.settle
  rw [show FP.Core.b64.p = 53 from rfl, if_pos m2]
  unfold FP.Core.bound
  rw [show FP.Core.b64.qmax = 971 from by decide, if_pos hi]
/-- the bits of c * 2 ^ q -/
def own_B (c : Nat) (q : Int) : Nat := ((q + c.log2 - 52 + 1074).toNat + 1) * 4503599627370496 + (own_M c - 4503599627370496)
theorem own_enc {c : Nat} {q : Int} (hc : 0 < c) (h53 : c < 2 ^ 53) : FP.Core.encode FP.Core.b64 (.fin false (own_M c) (q + c.log2 - 52)) = own_B c q := by
  obtain ⟨m1, m2⟩ := own_Mr hc h53
  have e1 : FP.Core.b64.tails = 4503599627370496 := by decide
  have e2 : (2 : Nat) ^ 52 = 4503599627370496 := by decide
  unfold FP.Core.encode FP.Core.assemble own_B
  simp only [e1]
  rw [if_neg (by omega), show FP.Core.b64.qmin = -1074 from by decide]
  simp only [Bool.toNat_false, Nat.zero_mul, Nat.zero_add]
  rw [show q + (c.log2 : Int) - 52 - -1074 = q + c.log2 - 52 + 1074 by omega]
theorem own_dec {c : Nat} {q : Int} (hc : 0 < c) (h53 : c < 2 ^ 53) (lo : -1074 ≤ q + c.log2 - 52) (hi : q + c.log2 - 52 ≤ 971) : FP.Core.decode FP.Core.b64 (own_B c q) = .fin false (own_M c) (q + c.log2 - 52) := by
  obtain ⟨m1, m2⟩ := own_Mr hc h53
  have e1 : FP.Core.b64.tails = 4503599627370496 := by decide
  have e2 : (2 : Nat) ^ 52 = 4503599627370496 := by decide
  have e3 : (2 : Nat) ^ 53 = 9007199254740992 := by decide
  have e4 : FP.Core.b64.exps = 2048 := by decide
  have e5 : FP.Core.b64.qmin = -1074 := by decide
  obtain ⟨E, hE⟩ : ∃ E : Nat, E = (q + c.log2 - 52 + 1074).toNat + 1 := ⟨_, rfl⟩
  obtain ⟨T, hT⟩ : ∃ T : Nat, T = own_M c - 4503599627370496 := ⟨_, rfl⟩
  have hB : own_B c q = E * 4503599627370496 + T := by rw [hE, hT]; rfl
  have f1 : FP.Core.fieldE FP.Core.b64 (own_B c q) = E := by unfold FP.Core.fieldE; rw [e1, e4, hB]; omega
  have f2 : FP.Core.fieldT FP.Core.b64 (own_B c q) = T := by unfold FP.Core.fieldT; rw [e1, hB]; omega
  have f3 : FP.Core.fieldS FP.Core.b64 (own_B c q) = false := by
    unfold FP.Core.fieldS; rw [e1, e4, hB]
    have : (E * 4503599627370496 + T) / 4503599627370496 / 2048 % 2 = 0 := by omega
    rw [this]; rfl
  unfold FP.Core.decode
  have a1 : 4503599627370496 + T = own_M c := by omega
  have a2 : (-1074 : Int) + ((E : Int) - 1) = q + c.log2 - 52 := by omega
  rw [f1, f2, f3, e4, e1, e5, if_neg (by omega), if_neg (by omega), a1, a2]
theorem own_B63 {c : Nat} {q : Int} (hc : 0 < c) (h53 : c < 2 ^ 53) (hi : q + c.log2 - 52 ≤ 971) : own_B c q < 9218868437227405312 := by
  obtain ⟨m1, m2⟩ := own_Mr hc h53
  have e2 : (2 : Nat) ^ 52 = 4503599627370496 := by decide
  have e3 : (2 : Nat) ^ 53 = 9007199254740992 := by decide
  unfold own_B; omega
def own_dd (c : Nat) (q : Int) : UInt64 := UInt64.ofNat (own_B c q)
theorem own_ddn {c : Nat} {q : Int} (hc : 0 < c) (h53 : c < 2 ^ 53) (hi : q + c.log2 - 52 ≤ 971) : (own_dd c q).toNat = own_B c q := by
  have := own_B63 hc h53 hi
  unfold own_dd
  rw [UInt64.toNat_ofNat']
  exact Nat.mod_eq_of_lt (by omega)
theorem own_i2d {x : Int32} {n : Nat} (h : x.toInt = (n : Int)) (hn : 0 < n) : FP.i2d x = own_dd n 0 := by
  have hr : n < 2 ^ 53 := by
    have := x.toInt_lt
    have e3 : (2 : Nat) ^ 53 = 9007199254740992 := by decide
    omega
  have hl := own_l53 hn hr
  show UInt64.ofNat (FP.Core.fromInt FP.Core.b64 x.toInt) = own_dd n 0
  unfold FP.Core.fromInt FP.Core.ofInt own_dd
  rw [h, show (decide ((n : Int) < 0)) = false from decide_eq_false (by omega), Int.natAbs_natCast]
  show UInt64.ofNat (FP.Core.encode FP.Core.b64 (FP.Core.roundRatio FP.Core.b64 false n 1 0)) = _
  have q := own_rr (c := n) (k := 0) (e := 0) hn hr (by omega) (by omega)
  rw [Nat.pow_zero, Nat.mul_one] at q
  rw [q, show (0 : Int) + ((0 : Nat) : Int) + n.log2 - 52 = 0 + n.log2 - 52 by omega, own_enc hn hr]
theorem own_dmul {c d : Nat} {q r : Int} (hc : 0 < c) (hd : 0 < d) (h53 : c * d < 2 ^ 53) (l1 : -60 ≤ q) (l2 : q ≤ 0) (l3 : -60 ≤ r) (l4 : r ≤ 0) : FP.dmul (own_dd c q) (own_dd d r) = own_dd (c * d) (q + r) := by
  have c53 : c < 2 ^ 53 := Nat.lt_of_le_of_lt (Nat.le_mul_of_pos_right c hd) h53
  have d53 : d < 2 ^ 53 := Nat.lt_of_le_of_lt (Nat.le_mul_of_pos_left d hc) h53
  have hp := Nat.mul_pos hc hd
  have g1 := own_l53 hc c53
  have g2 := own_l53 hd d53
  have g3 := own_l53 hp h53
  show UInt64.ofNat (FP.Core.mul FP.Core.b64 (own_dd c q).toNat (own_dd d r).toNat) = _
  unfold FP.Core.mul
  rw [own_ddn hc c53 (by omega), own_ddn hd d53 (by omega), own_dec hc c53 (by omega) (by omega), own_dec hd d53 (by omega) (by omega)]
  show UInt64.ofNat (FP.Core.encode FP.Core.b64 (FP.Core.roundRatio FP.Core.b64 false (own_M c * own_M d) 1 (q + c.log2 - 52 + (r + d.log2 - 52)))) = _
  have em : own_M c * own_M d = c * d * 2 ^ ((52 - c.log2) + (52 - d.log2)) := by
    unfold own_M
    rw [Nat.pow_add]; ac_rfl
  rw [em, own_rr hp h53 (by omega) (by omega)]
  rw [show q + (c.log2 : Int) - 52 + (r + d.log2 - 52) + ((52 - c.log2 + (52 - d.log2) : Nat) : Int) + (c * d).log2 - 52 = (q + r) + (c * d).log2 - 52 by omega, own_enc hp h53]
  rfl
theorem own_f16 {P : Nat → Prop} (h : ∀ k : Fin 16, P (k.val + 1)) {d : Nat} (h1 : 1 ≤ d) (h2 : d ≤ 16) : P d := by
  have := h ⟨d - 1, by omega⟩
  simpa [show d - 1 + 1 = d by omega] using this
theorem own_div {d : Nat} (h1 : 1 ≤ d) (h2 : d ≤ 16) : FP.ddiv (own_dd d 0) 4625196817309499392 = own_dd d (-4) := own_f16 (P := fun d => FP.ddiv (own_dd d 0) 4625196817309499392 = own_dd d (-4)) (by decide +kernel) h1 h2
theorem own_g0 {d : Nat} (h1 : 1 ≤ d) (h2 : d ≤ 16) : cmpValue (FP.dcmp (own_dd d (-4)) Jvm.FP.dconst0) .l = (1 : Int32) := own_f16 (P := fun d => cmpValue (FP.dcmp (own_dd d (-4)) Jvm.FP.dconst0) .l = (1 : Int32)) (by decide +kernel) h1 h2
def own_v1 (d : Nat) : Int32 := if d = 16 then 0 else -1
theorem own_g1 {d : Nat} (h1 : 1 ≤ d) (h2 : d ≤ 16) : cmpValue (FP.dcmp (own_dd d (-4)) Jvm.FP.dconst1) .g = own_v1 d := own_f16 (P := fun d => cmpValue (FP.dcmp (own_dd d (-4)) Jvm.FP.dconst1) .g = own_v1 d) (by decide +kernel) h1 h2
theorem own_v1n (d : Nat) : ¬ (0 : Int32) < own_v1 d := by unfold own_v1; split <;> decide
theorem own_nn {c : Nat} {q : Int} (hc : 0 < c) (h53 : c < 2 ^ 53) (hi : q + c.log2 - 52 ≤ 971) : Jvm.Free.Fl.NoNaN64 (own_dd c q) := by
  unfold Jvm.Free.Fl.NoNaN64
  rw [UInt64.le_iff_toNat_le, UInt64.toNat_and, own_ddn hc h53 hi]
  have h1 := own_B63 (q := q) hc h53 hi
  have h2 : own_B c q &&& (0x7fffffffffffffff : UInt64).toNat ≤ own_B c q := Nat.and_le_left
  have e : (0x7ff0000000000000 : UInt64).toNat = 9218868437227405312 := by decide
  omega
/-! Math.round of n / 16 -/
theorem own_bv {y : Int64} (h : 0 ≤ y.toInt) : y.toInt = (y.toBitVec.toNat : Int) ∧ y.toBitVec.toNat < 9223372036854775808 := by
  have e : y.toInt = y.toBitVec.toInt := rfl
  rw [e] at h ⊢
  rw [BitVec.toInt_eq_toNat_cond] at h ⊢
  have := y.toBitVec.isLt
  split at h <;> split <;> omega
theorem own_bv' {y : Int64} (h : y.toBitVec.toNat < 9223372036854775808) : y.toInt = (y.toBitVec.toNat : Int) := by
  have e : y.toInt = y.toBitVec.toInt := rfl
  rw [e, BitVec.toInt_eq_toNat_cond, if_pos (by omega)]
theorem own_andN {Y : Nat} (h : Y < 2 ^ 63) : Y &&& 9218868437227405312 = Y / 4503599627370496 * 4503599627370496 := by
  have p52 : (2 : Nat) ^ 52 = 4503599627370496 := by decide
  have p63 : (2 : Nat) ^ 63 = 9223372036854775808 := by decide
  have p11 : (2 : Nat) ^ 11 = 2048 := by decide
  have e : Y = 2 ^ 52 * (Y / 4503599627370496) + Y % 4503599627370496 := by omega
  have hq : Y / 4503599627370496 < 2 ^ 11 := by omega
  have e' : Y / 4503599627370496 * 4503599627370496 = 2 ^ 52 * (Y / 4503599627370496) + 0 := by omega
  apply Nat.eq_of_testBit_eq
  intro i
  rw [Nat.testBit_and, show (9218868437227405312 : Nat) = 2 ^ 52 * (2 ^ 11 - 1) + 0 from by decide, Nat.testBit_two_pow_mul_add _ (by decide), e', Nat.testBit_two_pow_mul_add _ (by decide)]
  by_cases hi : i < 52
  · simp [hi]
  · rw [if_neg hi, if_neg hi]
    conv => lhs; lhs; rw [e]
    rw [Nat.testBit_two_pow_mul_add _ (show Y % 4503599627370496 < 2 ^ 52 by omega), if_neg hi, Nat.testBit_two_pow_sub_one]
    by_cases h11 : i - 52 < 11
    · simp [h11]
    · rw [Nat.testBit_lt_two_pow (Nat.lt_of_lt_of_le hq (Nat.pow_le_pow_right (by decide) (by omega)))]; simp
theorem own_and1 {y : Int64} (h : 0 ≤ y.toInt) : (y &&& (9218868437227405312 : Int64)).toInt = y.toInt / 4503599627370496 * 4503599627370496 := by
  obtain ⟨h1, h2⟩ := own_bv h
  have e : (y &&& (9218868437227405312 : Int64)).toBitVec.toNat = y.toBitVec.toNat / 4503599627370496 * 4503599627370496 := by
    rw [Int64.toBitVec_and, BitVec.toNat_and, show (9218868437227405312 : Int64).toBitVec.toNat = 9218868437227405312 from by decide]
    have p63 : (2 : Nat) ^ 63 = 9223372036854775808 := by decide
    exact own_andN (by omega)
  rw [own_bv' (by rw [e]; omega), e, h1]
  omega
theorem own_or1 {y : Int64} {t : Nat} (h : y.toInt = (t : Int)) (ht : t < 4503599627370496) : (y ||| (4503599627370496 : Int64)).toInt = ((t + 4503599627370496 : Nat) : Int) := by
  obtain ⟨h1, h2⟩ := own_bv (y := y) (by omega)
  have ey : y.toBitVec.toNat = t := by omega
  have p52 : (2 : Nat) ^ 52 = 4503599627370496 := by decide
  have e : (y ||| (4503599627370496 : Int64)).toBitVec.toNat = t + 4503599627370496 := by
    rw [Int64.toBitVec_or, BitVec.toNat_or, ey, show (4503599627370496 : Int64).toBitVec.toNat = 2 ^ 52 * 1 from by decide, Nat.or_comm, ← Nat.two_pow_add_eq_or_of_lt (by omega)]
    omega
  rw [own_bv' (by rw [e]; omega), e]
theorem own_y {n : Nat} (hn : 0 < n) (h53 : n < 2 ^ 53) : (own_dd n (-4)).toInt64.toInt = ((n.log2 + 1019) * 4503599627370496 + (own_M n - 4503599627370496) : Nat) := by
  have hl := own_l53 hn h53
  have h1 := own_B63 (q := -4) hn h53 (by omega)
  have e : (own_dd n (-4)).toInt64.toBitVec.toNat = own_B n (-4) := by
    show (own_dd n (-4)).toBitVec.toNat = _
    exact own_ddn hn h53 (by omega)
  rw [own_bv' (by rw [e]; omega), e]
  unfold own_B
  rw [show ((-4 : Int) + n.log2 - 52 + 1074).toNat + 1 = n.log2 + 1019 by omega]
theorem own_sh {y : Int64} {n : Nat} (hn : 0 < n) (h53 : n < 2 ^ 53) (hy : y.toInt = ((n.log2 + 1019) * 4503599627370496 + (own_M n - 4503599627370496) : Nat)) : ((1074 : Int64) - ((y &&& (9218868437227405312 : Int64)) >>> ((52 : Int32) &&& 0x3f).toInt64)).toInt = ((55 - n.log2 : Nat) : Int) := by
  have hl := own_l53 hn h53
  obtain ⟨m1, m2⟩ := own_Mr hn h53
  have e2 : (2 : Nat) ^ 52 = 4503599627370496 := by decide
  have e3 : (2 : Nat) ^ 53 = 9007199254740992 := by decide
  have a1 := own_and1 (y := y) (by omega)
  have a2 := c_lshr (y &&& (9218868437227405312 : Int64)) 52 52 (by decide)
  have a3 := c_lsub (1074 : Int64) ((y &&& (9218868437227405312 : Int64)) >>> ((52 : Int32) &&& 0x3f).toInt64)
  have a4 := rng64 ((1074 : Int64) - ((y &&& (9218868437227405312 : Int64)) >>> ((52 : Int32) &&& 0x3f).toInt64))
  have e5 : (1074 : Int64).toInt = 1074 := by decide
  rw [a1, hy, e2] at a2
  rw [e5] at a3
  omega
theorem own_64 {y : Int64} {k : Nat} (h : y.toInt = (k : Int)) (hk : k < 64) : y &&& (-64 : Int64) = 0 := by
  have e : y = Int64.ofNat (⟨k, hk⟩ : Fin 64).val := by
    apply Int64.toInt_inj.mp
    rw [h, Int64.toInt_ofNat_of_lt (by show k < _; omega)]
  rw [e]
  exact (by decide +kernel : ∀ k : Fin 64, Int64.ofNat k.val &&& (-64 : Int64) = 0) ⟨k, hk⟩
theorem own_rnd {y : Int64} {n : Nat} (hn : 0 < n) (h53 : n < 2 ^ 53) (hy : y.toInt = ((n.log2 + 1019) * 4503599627370496 + (own_M n - 4503599627370496) : Nat)) (sh : Int64) (hs : sh.toInt = ((55 - n.log2 : Nat) : Int)) : (((((y &&& (4503599627370495 : Int64)) ||| (4503599627370496 : Int64)) >>> ((sh.toInt32) &&& 0x3f).toInt64) + (1 : Int64)) >>> ((1 : Int32) &&& 0x3f).toInt64) = Int64.ofNat ((n + 8) / 16) := by
  have hl := own_l53 hn h53
  obtain ⟨m1, m2⟩ := own_Mr hn h53
  have e2 : (2 : Nat) ^ 52 = 4503599627370496 := by decide
  have e3 : (2 : Nat) ^ 53 = 9007199254740992 := by decide
  have b1 := c_maskL y 4503599627370495 52 (by decide) (by decide)
  rw [hy, e2] at b1
  have b2 : (y &&& (4503599627370495 : Int64)).toInt = ((own_M n - 4503599627370496 : Nat) : Int) := by omega
  have b3 := own_or1 b2 (by omega)
  rw [show own_M n - 4503599627370496 + 4503599627370496 = own_M n by omega] at b3
  have i1 : sh.toInt32.toInt = ((55 - n.log2 : Nat) : Int) := by
    have q := c_l2i sh
    have q2 := rng32 sh.toInt32
    omega
  have i2 : sh.toInt32.toBitVec.toNat % 64 = 55 - n.log2 := by
    have e : sh.toInt32.toInt = sh.toInt32.toBitVec.toInt := rfl
    rw [e, BitVec.toInt_eq_toNat_cond] at i1
    have := sh.toInt32.toBitVec.isLt
    split at i1 <;> omega
  have b4 := c_lshr ((y &&& (4503599627370495 : Int64)) ||| (4503599627370496 : Int64)) sh.toInt32 (55 - n.log2) i2
  have b5 : own_M n / 2 ^ (55 - n.log2) = n / 8 := by
    unfold own_M
    rw [show 55 - n.log2 = (52 - n.log2) + 3 by omega, Nat.pow_add, Nat.mul_comm (2 ^ (52 - n.log2)) (2 ^ 3), Nat.mul_div_mul_right _ _ (Nat.two_pow_pos _)]
  rw [b3] at b4
  have b6 : ((own_M n : Int) / ((2 ^ (55 - n.log2) : Nat) : Int)) = ((n / 8 : Nat) : Int) := by rw [← b5]; rfl
  rw [b6] at b4
  have b7 := c_ladd (((y &&& (4503599627370495 : Int64)) ||| (4503599627370496 : Int64)) >>> ((sh.toInt32) &&& 0x3f).toInt64) 1
  have b8 := rng64 ((((y &&& (4503599627370495 : Int64)) ||| (4503599627370496 : Int64)) >>> ((sh.toInt32) &&& 0x3f).toInt64) + 1)
  have b9 := c_lshr ((((y &&& (4503599627370495 : Int64)) ||| (4503599627370496 : Int64)) >>> ((sh.toInt32) &&& 0x3f).toInt64) + 1) 1 1 (by decide)
  have e6 : (1 : Int64).toInt = 1 := by decide
  rw [b4, e6] at b7
  apply Int64.toInt_inj.mp
  rw [b9, Int64.toInt_ofNat_of_lt (by omega)]
  omega
theorem own_yn {n : Nat} (hn : 0 < n) (h53 : n < 2 ^ 53) : ¬ (own_dd n (-4)).toInt64 < (0 : Int64) := by
  have := own_y hn h53
  rw [Int64.lt_iff_toInt_lt, this]
  have e : (0 : Int64).toInt = 0 := by decide
  omega
theorem own_dm {c d : Nat} {q r : Int} (hc : 0 < c) (hd : 0 < d) (h53 : c * d < 2 ^ 53) (l1 : -60 ≤ q) (l2 : q ≤ 0) (l3 : -60 ≤ r) (l4 : r ≤ 0) : Jvm.Free.Fl.NoNaN64 (FP.dmul (own_dd c q) (own_dd d r)) := by
  rw [own_dmul hc hd h53 l1 l2 l3 l4]
  have hp := Nat.mul_pos hc hd
  have g3 := own_l53 hp h53
  exact own_nn hp h53 (by omega)
theorem own_dv {d : Nat} (h1 : 1 ≤ d) (h2 : d ≤ 16) : Jvm.Free.Fl.NoNaN64 (FP.ddiv (own_dd d 0) 4625196817309499392) := by
  rw [own_div h1 h2]
  have e : (2 : Nat) ^ 53 = 9007199254740992 := by decide
  have g := own_l53 (c := d) (by omega) (by omega)
  exact own_nn (by omega) (by omega) (by omega)
theorem own_b1 {d r c : Nat} (hc : 0 < c) (h : d * r * c < 2 ^ 53) : d * r < 2 ^ 53 := Nat.lt_of_le_of_lt (Nat.le_mul_of_pos_right _ hc) h
def own_mx (u v : Int32) : Int32 := if u < v then v else u
theorem own_p1 (x m : Int32) (k : Nat) (hk : k ≤ 30) (hm : m.toBitVec.toNat = 2 ^ k - 1) : ∃ n : Nat, ((x &&& m) + (1 : Int32)).toInt = (n : Int) ∧ 1 ≤ n ∧ n ≤ 2 ^ k := by
  have a := c_mask x m k (by omega) hm
  have b := c_iadd (x &&& m) 1
  have r := rng32 ((x &&& m) + 1)
  have e : (1 : Int32).toInt = 1 := by decide
  have hp : (2 : Nat) ^ k ≤ 2 ^ 30 := Nat.pow_le_pow_right (by decide) hk
  have p30 : (2 : Nat) ^ 30 = 1073741824 := by decide
  obtain ⟨K, hK⟩ : ∃ K : Nat, K = 2 ^ k := ⟨_, rfl⟩
  have hK0 : 0 < K := by rw [hK]; exact Nat.two_pow_pos k
  rw [← hK] at a hp ⊢
  have c1 := Int.emod_nonneg x.toInt (show (K : Int) ≠ 0 by omega)
  have c2 := Int.emod_lt_of_pos x.toInt (show (0 : Int) < K by omega)
  exact ⟨((x &&& m) + 1).toInt.toNat, by omega, by omega, by omega⟩
theorem own_pm (x : Int32) : ∃ n : Nat, (own_mx (1 : Int32) (x &&& (2147483647 : Int32))).toInt = (n : Int) ∧ 1 ≤ n ∧ n ≤ 2147483647 := by
  have r := rng32 (own_mx (1 : Int32) (x &&& (2147483647 : Int32)))
  have h : 1 ≤ (own_mx (1 : Int32) (x &&& (2147483647 : Int32))).toInt := by
    have e : (1 : Int32).toInt = 1 := by decide
    unfold own_mx
    split
    · rename_i h; rw [Int32.lt_iff_toInt_lt] at h; omega
    · omega
  exact ⟨(own_mx (1 : Int32) (x &&& (2147483647 : Int32))).toInt.toNat, by omega, by omega, by omega⟩
theorem own_lt {d r c : Nat} (h1 : d ≤ 16) (h2 : r * c ≤ 2147483647 * 262144) : d * r * c < 2 ^ 53 := by
  have e : (2 : Nat) ^ 53 = 9007199254740992 := by decide
  rw [Nat.mul_assoc]
  have := Nat.mul_le_mul h1 h2
  omega
theorem own_want {D R C : Int32} {d r c : Nat} (hd : D.toInt = (d : Int)) (hr : R.toInt = (r : Int)) (hc : C.toInt = (c : Int)) (p1 : 0 < d) (p2 : 0 < r) (p3 : 0 < c) (h53 : d * r * c < 2 ^ 53) : (Int64.ofNat ((d * r * c + 8) / 16)) = (((((D.toInt64) * (R.toInt64)) * (C.toInt64)) + (8 : Int64)) / (16 : Int64)) := by
  have e53 : (2 : Nat) ^ 53 = 9007199254740992 := by decide
  have hdr := own_b1 p3 h53
  have a1 := c_i2l D
  have a2 := c_i2l R
  have a3 := c_i2l C
  have m1 := c_lmul D.toInt64 R.toInt64
  have r1 := rng64 (D.toInt64 * R.toInt64)
  rw [a1, a2, hd, hr, ← Int.natCast_mul] at m1
  have q1 : (D.toInt64 * R.toInt64).toInt = ((d * r : Nat) : Int) := by omega
  have m2 := c_lmul (D.toInt64 * R.toInt64) C.toInt64
  have r2 := rng64 (D.toInt64 * R.toInt64 * C.toInt64)
  rw [q1, a3, hc, ← Int.natCast_mul] at m2
  have q2 : (D.toInt64 * R.toInt64 * C.toInt64).toInt = ((d * r * c : Nat) : Int) := by omega
  have m3 := c_ladd (D.toInt64 * R.toInt64 * C.toInt64) 8
  have r3 := rng64 (D.toInt64 * R.toInt64 * C.toInt64 + 8)
  have e8 : (8 : Int64).toInt = 8 := by decide
  rw [q2, e8] at m3
  have q3 : (D.toInt64 * R.toInt64 * C.toInt64 + 8).toInt = ((d * r * c + 8 : Nat) : Int) := by omega
  have m4 := (c_ldiv (D.toInt64 * R.toInt64 * C.toInt64 + 8) 16 16 (by decide) (by decide)).1 (by omega)
  apply Int64.toInt_inj.mp
  rw [m4, q3, Int64.toInt_ofNat_of_lt (by omega)]
  omega
theorem own_dmT {c d : Nat} {q r : Int} (t : Int) (ht : q + r = t) (hc : 0 < c) (hd : 0 < d) (h53 : c * d < 2 ^ 53) (l1 : -60 ≤ q) (l2 : q ≤ 0) (l3 : -60 ≤ r) (l4 : r ≤ 0) : FP.dmul (own_dd c q) (own_dd d r) = own_dd (c * d) t := ht ▸ own_dmul hc hd h53 l1 l2 l3 l4

def own_r1 : Room := { frames := 0, cells := 0, slots := 0, locals := 0 }
theorem own_ef1 (m : MethodId) (x0 : Int32) (x1 : Int32) : entryFrame m #[(.int x0), (.int x1)] 2 = mkF m 0 #[.val (.int x0), .val (.int x1)] [] := by first | (simp [entryFrame, mkF, argsToLocals, Value.category]; done) | rfl
def own_Q1 (Z : State) (ua ub : Int32) (h0 : Heap) (n0 : Nat) : Option Value → Heap → List Loc → Prop := fun v h L => v = some (.int (own_mx ua ub)) ∧ Fr n0 L ∧ h = h0
set_option maxRecDepth 65536 in
set_option maxHeartbeats 40000000 in
theorem own_rm1 (l : Launch) (Z : State) (a0 : Array Value) (hw : ∀ d ∈ tables_1, d.before a0 Z = true) (ws : List Jvm.Cond) (ua ub : Int32) (h0 : Heap) (n0 : Nat) (Z0 : n0 ≤ h0.size)  :
    MetFree l (⟨"java/lang/Math", "max", "(II)I"⟩ : MethodName) (head1 (Jvm.Cond.code (⟨"java/lang/Math", "max", "(II)I"⟩ : MethodName) jdk_29_method_65_code 2 (some .int) :: ws) own_r1) (fun a_ U_ => a_ = #[(.int ua), (.int ub)] ∧ Z.Warmed39 U_.vm ∧ U_.heap = h0) (fun _ _ _ _ _ => True) (fun _ U_ o_ U'_ => ∃ v_ L_, o_ = .returned v_ ∧ own_Q1 Z ua ub  h0 n0 v_ U'_.heap L_ ∧ FrameEnd U_ o_ U'_ L_ own_r1.cells own_r1.slots) := by
  refine MetFree.of_bodySF (Jvm.Free.JP.mathPlain rfl (by decide +kernel)) hisR ?_
  intro p e s m args below meth c s₁ Bd hml0 hP hK
  obtain ⟨rfl, hZ, hh⟩ := hP
  have hx := Bd.exec
  have hby := Bd.bytes
  have hml : c.maxLocals = 2 := hml0
  have hown : s.vm.findClass "java/lang/Math" = some m.cls := findClass_of_methodNamed Bd.named
  have hnm := (name_of_methodNamed Bd.named Bd.method).1
  have X0 : Stand p l e own_r1 s m #[(.int ua), (.int ub)] below meth c s₁ [] 0 0 := Stand.of_body Bd
  have e0 : s₁.heap = h0 := by rw [← hh, Bd.state]; rfl
  have N0 := Fr.nil n0
  refine own_in (own_ef1 m ua ub) ?_
  show own_Go p e below (own_K s (own_Q1 Z ua ub  h0 n0) own_r1.cells own_r1.slots) s₁ (mkF m 0 #[.val (.int ua), .val (.int ub)] [])
  refine own_st (T' := s₁) (g' := (mkF m 2 #[.val (.int ua), .val (.int ub)] [(.int ub), (.int ua)])) (fun t k => ?_) ?_
  · show Steps p.tables e below (s₁.setTop (mkF m 0 #[.val (.int ua), .val (.int ub)] [])) t
    refine XS.iloadN X0.here hx rfl (hb hby own_d1_0) rfl ?_
    refine XS.iloadN X0.here hx rfl (hb hby own_d1_1) rfl ?_
    exact k
  by_cases hc1 : ua < ub
  · refine own_st (T' := s₁) (g' := (mkF m 10 #[.val (.int ua), .val (.int ub)] [(.int ub)])) (fun t k => ?_) ?_
    · show Steps p.tables e below (s₁.setTop (mkF m 2 #[.val (.int ua), .val (.int ub)] [(.int ub), (.int ua)])) t
      refine XS.icmpYes X0.here hx rfl (pc0 := 2) (pc' := 9) rfl (hb hby own_d1_2) rfl (tlt hc1).1 (by decide) (by decide) ?_
      refine XS.iloadN X0.here hx rfl (hb hby own_d1_9) rfl ?_
      exact k
    exact own_retI X0 hx Bd (hb hby own_d1_10) e0 (⟨by simp [own_mx, hc1], N0, rfl⟩) (by decide) (by decide)
  · refine own_st (T' := s₁) (g' := (mkF m 10 #[.val (.int ua), .val (.int ub)] [(.int ua)])) (fun t k => ?_) ?_
    · show Steps p.tables e below (s₁.setTop (mkF m 2 #[.val (.int ua), .val (.int ub)] [(.int ub), (.int ua)])) t
      refine XS.icmpNo X0.here hx rfl (hb hby own_d1_2) rfl (flt hc1).1 ?_
      refine XS.iloadN X0.here hx rfl (hb hby own_d1_5) rfl ?_
      refine XS.goto X0.here hx rfl (pc0 := 6) (pc' := 10) rfl (hb hby own_d1_6) (by decide) (by decide) ?_
      exact k
    exact own_retI X0 hx Bd (hb hby own_d1_10) e0 (⟨by simp [own_mx, hc1], N0, rfl⟩) (by decide) (by decide)
def own_r3 : Room := { frames := 1, cells := 0, slots := 0, locals := 15 }
theorem own_ef3 (m : MethodId) (x0 : UInt64) : entryFrame m #[(.double x0)] 10 = mkF m 0 #[.val (.double x0), .second, .unset, .unset, .unset, .unset, .unset, .unset, .unset, .unset] [] := by first | (simp [entryFrame, mkF, argsToLocals, Value.category]; done) | rfl
def own_Q3 (Z : State) (nn : Nat) (h0 : Heap) (n0 : Nat) : Option Value → Heap → List Loc → Prop := fun v h L => v = some (.long (Int64.ofNat ((nn + 8) / 16))) ∧ Fr n0 L ∧ h = h0
set_option maxRecDepth 65536 in
set_option maxHeartbeats 40000000 in
theorem own_rm3 (l : Launch) (Z : State) (a0 : Array Value) (hw : ∀ d ∈ tables_1, d.before a0 Z = true) (ws : List Jvm.Cond) (nn : Nat) (h0 : Heap) (n0 : Nat) (Z0 : n0 ≤ h0.size) (hn : 0 < nn) (h53 : nn < 2 ^ 53) :
    MetFree l (⟨"java/lang/Math", "round", "(D)J"⟩ : MethodName) (head1 (Jvm.Cond.code (⟨"java/lang/Math", "round", "(D)J"⟩ : MethodName) jdk_29_method_22_code 10 (some .long) :: ws) own_r3) (fun a_ U_ => a_ = #[(.double (own_dd nn (-4)))] ∧ Z.Warmed39 U_.vm ∧ U_.heap = h0) (fun _ _ _ _ _ => True) (fun _ U_ o_ U'_ => ∃ v_ L_, o_ = .returned v_ ∧ own_Q3 Z nn  h0 n0 v_ U'_.heap L_ ∧ FrameEnd U_ o_ U'_ L_ own_r3.cells own_r3.slots) := by
  refine MetFree.of_bodySF (Jvm.Free.JP.mathPlain rfl (by decide +kernel)) hisR ?_
  intro p e s m args below meth c s₁ Bd hml0 hP hK
  obtain ⟨rfl, hZ, hh⟩ := hP
  have hx := Bd.exec
  have hby := Bd.bytes
  have hml : c.maxLocals = 10 := hml0
  have hown : s.vm.findClass "java/lang/Math" = some m.cls := findClass_of_methodNamed Bd.named
  have hnm := (name_of_methodNamed Bd.named Bd.method).1
  have X0 : Stand p l e own_r3 s m #[(.double (own_dd nn (-4)))] below meth c s₁ [] 0 0 := Stand.of_body Bd
  have e0 : s₁.heap = h0 := by rw [← hh, Bd.state]; rfl
  have N0 := Fr.nil n0
  refine own_in (own_ef3 m (own_dd nn (-4))) ?_
  show own_Go p e below (own_K s (own_Q3 Z nn  h0 n0) own_r3.cells own_r3.slots) s₁ (mkF m 0 #[.val (.double (own_dd nn (-4))), .second, .unset, .unset, .unset, .unset, .unset, .unset, .unset, .unset] [])
  refine own_st (T' := s₁) (g' := (mkF m 1 #[.val (.double (own_dd nn (-4))), .second, .unset, .unset, .unset, .unset, .unset, .unset, .unset, .unset] [(.double (own_dd nn (-4)))])) (fun t k => ?_) ?_
  · show Steps p.tables e below (s₁.setTop (mkF m 0 #[.val (.double (own_dd nn (-4))), .second, .unset, .unset, .unset, .unset, .unset, .unset, .unset, .unset] [])) t
    refine XS.dloadN X0.here hx rfl (hb hby own_d3_0) rfl ?_
    exact k
  obtain ⟨w1, X1, st1⟩ := X0.doubleToRawLongBits hx hown (mvT hZ (hw _ (List.mem_of_getElem? (i := 14) rfl))) (mvT hZ (hw _ (List.mem_of_getElem? (i := 17) rfl))) (mvT hZ (hw _ (List.mem_of_getElem? (i := 15) rfl))) (mvT hZ (hw _ (List.mem_of_getElem? (i := 16) rfl))) (g := (mkF m 1 #[.val (.double (own_dd nn (-4))), .second, .unset, .unset, .unset, .unset, .unset, .unset, .unset, .unset] [(.double (own_dd nn (-4)))])) rfl (by rw [hml]; rfl) (rest := []) rfl (hb hby own_d3_1) (by decide) (Nat.le_of_ble_eq_true rfl)
  obtain ⟨T1, hT1⟩ : ∃ z, z = s₁.setVm w1 := ⟨_, rfl⟩
  rw [← hT1] at X1 st1
  have e1 : T1.heap = h0 := by rw [hT1]; exact e0
  refine own_st (T' := T1) (g' := (mkF m 4 #[.val (.double (own_dd nn (-4))), .second, .unset, .unset, .unset, .unset, .unset, .unset, .unset, .unset] [(.long ((own_dd nn (-4)).toInt64))])) st1 ?_
  refine own_st (T' := T1) (g' := (mkF m 66 #[.val (.double (own_dd nn (-4))), .second, .val (.long ((own_dd nn (-4)).toInt64)), .second, .val (.long ((((own_dd nn (-4)).toInt64) &&& (9218868437227405312 : Int64)) >>> ((52 : Int32) &&& 0x3f).toInt64)), .second, .val (.long ((1074 : Int64) - ((((own_dd nn (-4)).toInt64) &&& (9218868437227405312 : Int64)) >>> ((52 : Int32) &&& 0x3f).toInt64))), .second, .val (.long ((((own_dd nn (-4)).toInt64) &&& (4503599627370495 : Int64)) ||| (4503599627370496 : Int64))), .second] [(.long (((((((own_dd nn (-4)).toInt64) &&& (4503599627370495 : Int64)) ||| (4503599627370496 : Int64)) >>> ((((1074 : Int64) - ((((own_dd nn (-4)).toInt64) &&& (9218868437227405312 : Int64)) >>> ((52 : Int32) &&& 0x3f).toInt64)).toInt32) &&& 0x3f).toInt64) + (1 : Int64)) >>> ((1 : Int32) &&& 0x3f).toInt64))])) (fun t k => ?_) ?_
  · show Steps p.tables e below (T1.setTop (mkF m 4 #[.val (.double (own_dd nn (-4))), .second, .unset, .unset, .unset, .unset, .unset, .unset, .unset, .unset] [(.long ((own_dd nn (-4)).toInt64))])) t
    refine XS.lstoreN X1.here hx rfl (hb hby own_d3_4) rfl (l' := #[.val (.double (own_dd nn (-4))), .second, .val (.long ((own_dd nn (-4)).toInt64)), .second, .unset, .unset, .unset, .unset, .unset, .unset]) rfl ?_
    refine XS.lloadN X1.here hx rfl (hb hby own_d3_5) rfl ?_
    refine X1.ldc2Long hx hown (mvT hZ (hw _ (List.mem_of_getElem? (i := 18) rfl))) (g := (mkF m 6 #[.val (.double (own_dd nn (-4))), .second, .val (.long ((own_dd nn (-4)).toInt64)), .second, .unset, .unset, .unset, .unset, .unset, .unset] [(.long ((own_dd nn (-4)).toInt64))])) rfl (hb hby own_d3_6) _ ?_
    refine XS.land X1.here hx rfl (hb hby own_d3_9) rfl ?_
    refine XS.bipush X1.here hx rfl (hb hby own_d3_10) ?_
    refine XS.lshr X1.here hx rfl (hb hby own_d3_12) rfl ?_
    refine XS.lstore X1.here hx rfl (hb hby own_d3_13) rfl (l' := #[.val (.double (own_dd nn (-4))), .second, .val (.long ((own_dd nn (-4)).toInt64)), .second, .val (.long ((((own_dd nn (-4)).toInt64) &&& (9218868437227405312 : Int64)) >>> ((52 : Int32) &&& 0x3f).toInt64)), .second, .unset, .unset, .unset, .unset]) rfl ?_
    refine X1.ldc2Long hx hown (mvT hZ (hw _ (List.mem_of_getElem? (i := 19) rfl))) (g := (mkF m 15 #[.val (.double (own_dd nn (-4))), .second, .val (.long ((own_dd nn (-4)).toInt64)), .second, .val (.long ((((own_dd nn (-4)).toInt64) &&& (9218868437227405312 : Int64)) >>> ((52 : Int32) &&& 0x3f).toInt64)), .second, .unset, .unset, .unset, .unset] [])) rfl (hb hby own_d3_15) _ ?_
    refine XS.lload X1.here hx rfl (hb hby own_d3_18) rfl ?_
    refine XS.lsub X1.here hx rfl (hb hby own_d3_20) rfl ?_
    refine XS.lstore X1.here hx rfl (hb hby own_d3_21) rfl (l' := #[.val (.double (own_dd nn (-4))), .second, .val (.long ((own_dd nn (-4)).toInt64)), .second, .val (.long ((((own_dd nn (-4)).toInt64) &&& (9218868437227405312 : Int64)) >>> ((52 : Int32) &&& 0x3f).toInt64)), .second, .val (.long ((1074 : Int64) - ((((own_dd nn (-4)).toInt64) &&& (9218868437227405312 : Int64)) >>> ((52 : Int32) &&& 0x3f).toInt64))), .second, .unset, .unset]) rfl ?_
    refine XS.lload X1.here hx rfl (hb hby own_d3_23) rfl ?_
    refine X1.ldc2Long hx hown (mvT hZ (hw _ (List.mem_of_getElem? (i := 20) rfl))) (g := (mkF m 25 #[.val (.double (own_dd nn (-4))), .second, .val (.long ((own_dd nn (-4)).toInt64)), .second, .val (.long ((((own_dd nn (-4)).toInt64) &&& (9218868437227405312 : Int64)) >>> ((52 : Int32) &&& 0x3f).toInt64)), .second, .val (.long ((1074 : Int64) - ((((own_dd nn (-4)).toInt64) &&& (9218868437227405312 : Int64)) >>> ((52 : Int32) &&& 0x3f).toInt64))), .second, .unset, .unset] [(.long ((1074 : Int64) - ((((own_dd nn (-4)).toInt64) &&& (9218868437227405312 : Int64)) >>> ((52 : Int32) &&& 0x3f).toInt64)))])) rfl (hb hby own_d3_25) _ ?_
    refine XS.land X1.here hx rfl (hb hby own_d3_28) rfl ?_
    refine XS.lconst X1.here hx rfl (hb hby own_d3_29) ?_
    refine XS.lcmp X1.here hx rfl (hb hby own_d3_30) rfl ?_
    refine XS.ifNo X1.here hx rfl (hb hby own_d3_31) rfl ((if0 _ _).trans (teq ((lw_eq _ _).mpr (own_64 (own_sh hn h53 (own_y hn h53)) (by omega)))).2) ?_
    refine XS.lloadN X1.here hx rfl (hb hby own_d3_34) rfl ?_
    refine X1.ldc2Long hx hown (mvT hZ (hw _ (List.mem_of_getElem? (i := 21) rfl))) (g := (mkF m 35 #[.val (.double (own_dd nn (-4))), .second, .val (.long ((own_dd nn (-4)).toInt64)), .second, .val (.long ((((own_dd nn (-4)).toInt64) &&& (9218868437227405312 : Int64)) >>> ((52 : Int32) &&& 0x3f).toInt64)), .second, .val (.long ((1074 : Int64) - ((((own_dd nn (-4)).toInt64) &&& (9218868437227405312 : Int64)) >>> ((52 : Int32) &&& 0x3f).toInt64))), .second, .unset, .unset] [(.long ((own_dd nn (-4)).toInt64))])) rfl (hb hby own_d3_35) _ ?_
    refine XS.land X1.here hx rfl (hb hby own_d3_38) rfl ?_
    refine X1.ldc2Long hx hown (mvT hZ (hw _ (List.mem_of_getElem? (i := 22) rfl))) (g := (mkF m 39 #[.val (.double (own_dd nn (-4))), .second, .val (.long ((own_dd nn (-4)).toInt64)), .second, .val (.long ((((own_dd nn (-4)).toInt64) &&& (9218868437227405312 : Int64)) >>> ((52 : Int32) &&& 0x3f).toInt64)), .second, .val (.long ((1074 : Int64) - ((((own_dd nn (-4)).toInt64) &&& (9218868437227405312 : Int64)) >>> ((52 : Int32) &&& 0x3f).toInt64))), .second, .unset, .unset] [(.long (((own_dd nn (-4)).toInt64) &&& (4503599627370495 : Int64)))])) rfl (hb hby own_d3_39) _ ?_
    refine XS.lor X1.here hx rfl (hb hby own_d3_42) rfl ?_
    refine XS.lstore X1.here hx rfl (hb hby own_d3_43) rfl (l' := #[.val (.double (own_dd nn (-4))), .second, .val (.long ((own_dd nn (-4)).toInt64)), .second, .val (.long ((((own_dd nn (-4)).toInt64) &&& (9218868437227405312 : Int64)) >>> ((52 : Int32) &&& 0x3f).toInt64)), .second, .val (.long ((1074 : Int64) - ((((own_dd nn (-4)).toInt64) &&& (9218868437227405312 : Int64)) >>> ((52 : Int32) &&& 0x3f).toInt64))), .second, .val (.long ((((own_dd nn (-4)).toInt64) &&& (4503599627370495 : Int64)) ||| (4503599627370496 : Int64))), .second]) rfl ?_
    refine XS.lloadN X1.here hx rfl (hb hby own_d3_45) rfl ?_
    refine XS.lconst X1.here hx rfl (hb hby own_d3_46) ?_
    refine XS.lcmp X1.here hx rfl (hb hby own_d3_47) rfl ?_
    refine XS.ifYes X1.here hx rfl (pc0 := 48) (pc' := 56) rfl (hb hby own_d3_48) rfl ((if0 _ _).trans (flt (fun q => (own_yn hn h53) ((lw_lt _ _).mp q))).2.1) (by decide) (by decide) ?_
    refine XS.lload X1.here hx rfl (hb hby own_d3_56) rfl ?_
    refine XS.lload X1.here hx rfl (hb hby own_d3_58) rfl ?_
    refine XS.l2i X1.here hx rfl (hb hby own_d3_60) rfl ?_
    refine XS.lshr X1.here hx rfl (hb hby own_d3_61) rfl ?_
    refine XS.lconst X1.here hx rfl (hb hby own_d3_62) ?_
    refine XS.ladd X1.here hx rfl (hb hby own_d3_63) rfl ?_
    refine XS.iconst X1.here hx rfl (hb hby own_d3_64) ?_
    refine XS.lshr X1.here hx rfl (hb hby own_d3_65) rfl ?_
    exact k
  exact own_retJ X1 hx Bd (hb hby own_d3_66) e1 (⟨congrArg (fun z => some (Value.long z)) (own_rnd hn h53 (own_y hn h53) _ (own_sh hn h53 (own_y hn h53))), N0, rfl⟩) (by decide) (by decide)
def own_r2 : Room := { frames := 2, cells := 0, slots := 0, locals := 36 }
theorem own_ef2 (m : MethodId) (x0 : Int32) (x1 : Int32) (x2 : UInt64) : entryFrame m #[(.int x0), (.int x1), (.double x2)] 4 = mkF m 0 #[.val (.int x0), .val (.int x1), .val (.double x2), .second] [] := by first | (simp [entryFrame, mkF, argsToLocals, Value.category]; done) | rfl
def own_Q2 (Z : State) (ro co : Int32) (dn rn cn : Nat) (h0 : Heap) (n0 : Nat) : Option Value → Heap → List Loc → Prop := fun v h L => v = some (.long (Int64.ofNat ((dn * rn * cn + 8) / 16))) ∧ Fr n0 L ∧ h = h0
set_option maxRecDepth 65536 in
set_option maxHeartbeats 40000000 in
theorem own_rm2 (l : Launch) (Z : State) (a0 : Array Value) (hw : ∀ d ∈ tables_1, d.before a0 Z = true) (ws : List Jvm.Cond) (ro co : Int32) (dn rn cn : Nat) (h0 : Heap) (n0 : Nat) (Z0 : n0 ≤ h0.size) (hr : ro.toInt = (rn : Int)) (hc : co.toInt = (cn : Int)) (h1 : 1 ≤ dn) (h16 : dn ≤ 16) (pr : 0 < rn) (qc : 0 < cn) (hN : dn * rn * cn < 2 ^ 53) :
    MetFree l (⟨"com/example/dyadloom/dyadloom/core/RandomMatrix", "entries", "(IID)J"⟩ : MethodName) (head1 (Jvm.Cond.code (⟨"com/example/dyadloom/dyadloom/core/RandomMatrix", "entries", "(IID)J"⟩ : MethodName) prog_19_method_2_code 4 (some .long) :: ws) own_r2) (fun a_ U_ => a_ = #[(.int ro), (.int co), (.double (own_dd dn (-4)))] ∧ Z.Warmed39 U_.vm ∧ U_.heap = h0) (fun _ _ _ _ _ => True) (fun _ U_ o_ U'_ => ∃ v_ L_, o_ = .returned v_ ∧ own_Q2 Z ro co  dn rn cn  h0 n0 v_ U'_.heap L_ ∧ FrameEnd U_ o_ U'_ L_ own_r2.cells own_r2.slots) := by
  refine MetFree.of_bodySF (plainFor_of_name own_pn0) hisR ?_
  intro p e s m args below meth c s₁ Bd hml0 hP hK
  obtain ⟨rfl, hZ, hh⟩ := hP
  have hx := Bd.exec
  have hby := Bd.bytes
  have hml : c.maxLocals = 4 := hml0
  have hown : s.vm.findClass "com/example/dyadloom/dyadloom/core/RandomMatrix" = some m.cls := findClass_of_methodNamed Bd.named
  have hnm := (name_of_methodNamed Bd.named Bd.method).1
  have X0 : Stand p l e own_r2 s m #[(.int ro), (.int co), (.double (own_dd dn (-4)))] below meth c s₁ [] 0 0 := Stand.of_body Bd
  have e0 : s₁.heap = h0 := by rw [← hh, Bd.state]; rfl
  have N0 := Fr.nil n0
  refine own_in (own_ef2 m ro co (own_dd dn (-4))) ?_
  show own_Go p e below (own_K s (own_Q2 Z ro co  dn rn cn  h0 n0) own_r2.cells own_r2.slots) s₁ (mkF m 0 #[.val (.int ro), .val (.int co), .val (.double (own_dd dn (-4))), .second] [])
  refine own_st (T' := s₁) (g' := (mkF m 33 #[.val (.int ro), .val (.int co), .val (.double (own_dd dn (-4))), .second] [(.double (own_dd (dn * rn * cn) (-4)))])) (fun t k => ?_) ?_
  · show Steps p.tables e below (s₁.setTop (mkF m 0 #[.val (.int ro), .val (.int co), .val (.double (own_dd dn (-4))), .second] [])) t
    refine XS.dloadN X0.here hx rfl (hb hby own_d2_0) rfl ?_
    refine XS.dconst0 X0.here hx rfl (hb hby own_d2_1) rfl ?_
    refine XS.dcmpS X0.here hx rfl (hb hby own_d2_2) rfl (own_g0 h1 h16) ?_
    refine XS.ifNo X0.here hx rfl (hb hby own_d2_3) rfl ((if0 _ _).trans (tlt (by decide : (0 : Int32) < (1 : Int32))).2.2.2) ?_
    refine XS.dloadN X0.here hx rfl (hb hby own_d2_6) rfl ?_
    refine XS.dconst1 X0.here hx rfl (hb hby own_d2_7) rfl ?_
    refine XS.dcmpS X0.here hx rfl (hb hby own_d2_8) rfl (own_g1 h1 h16) ?_
    refine XS.ifYes X0.here hx rfl (pc0 := 9) (pc' := 26) rfl (hb hby own_d2_9) rfl ((if0 _ _).trans (flt (own_v1n dn)).2.2.2) (by decide) (by decide) ?_
    refine XS.dloadN X0.here hx rfl (hb hby own_d2_26) rfl ?_
    refine XS.iloadN X0.here hx rfl (hb hby own_d2_27) rfl ?_
    refine XS.i2dS X0.here hx rfl (hb hby own_d2_28) rfl (own_i2d hr pr) ?_
    refine XS.dmulS X0.here hx rfl (hb hby own_d2_29) rfl (own_dm (q := -4) (r := 0) h1 pr (own_b1 qc hN) (by decide) (by decide) (by decide) (by decide)) (own_dmT (q := -4) (r := 0) (-4) (by decide) h1 pr (own_b1 qc hN) (by decide) (by decide) (by decide) (by decide)) ?_
    refine XS.iloadN X0.here hx rfl (hb hby own_d2_30) rfl ?_
    refine XS.i2dS X0.here hx rfl (hb hby own_d2_31) rfl (own_i2d hc qc) ?_
    refine XS.dmulS X0.here hx rfl (hb hby own_d2_32) rfl (own_dm (q := -4) (r := 0) (Nat.mul_pos h1 pr) qc hN (by decide) (by decide) (by decide) (by decide)) (own_dmT (q := -4) (r := 0) (-4) (by decide) (Nat.mul_pos h1 pr) qc hN (by decide) (by decide) (by decide) (by decide)) ?_
    exact k
  obtain ⟨_, _, ⟨T1, L1, c1, n1⟩, -, X1, ⟨Lc1, hQ1, l1, y1, z1⟩, st1⟩ := Jvm.LawKit.callS X0 hx (y := (⟨"java/lang/Math", "round", "(D)J"⟩ : MethodName)) hown (mvT hZ (hw _ (List.mem_of_getElem? (i := 11) rfl))) (mvT hZ (hw _ (List.mem_of_getElem? (i := 12) rfl))) (mvT hZ (hw _ (List.mem_of_getElem? (i := 3) rfl))) (mvT hZ (hw _ (List.mem_of_getElem? (i := 13) rfl))) (by decide) (backOf (W := 0) (own_rm3 l Z a0 hw [] (dn * rn * cn) h0 n0 Z0 (Nat.mul_pos (Nat.mul_pos h1 pr) qc) hN) hZ (hw _ (List.mem_of_getElem? (i := 13) rfl)) (hw _ (List.mem_of_getElem? (i := 3) rfl)) (by decide) (by decide)) (g := (mkF m 33 #[.val (.int ro), .val (.int co), .val (.double (own_dd dn (-4))), .second] [(.double (own_dd (dn * rn * cn) (-4)))])) rfl (by rw [hml]; rfl) (argsL := [(.double (own_dd (dn * rn * cn) (-4)))]) (rest := []) (lenOf own_pd0 rfl) rfl (by show 2 * 0 + _ ≤ _; exact Nat.le_of_eq rfl) (hb hby own_d2_33) (fun _ _ => ⟨rfl, e0, (by decide : 0 + 0 ≤ _), (by decide : 0 + 0 ≤ _)⟩)
  dsimp only [Pt.U, Pt.locs, Pt.cells, Pt.slots] at X1 l1 y1 z1 st1 hQ1
  subst l1 y1 z1
  obtain ⟨rfl, N1q, e1⟩ := hQ1
  have N1 := Fr.app N0 N1q
  refine own_st (T' := T1) (g' := (mkF m 36 #[.val (.int ro), .val (.int co), .val (.double (own_dd dn (-4))), .second] [(.long (Int64.ofNat ((dn * rn * cn + 8) / 16)))])) st1 ?_
  exact own_retJ X1 hx Bd (hb hby own_d2_36) e1 (⟨rfl, N1, rfl⟩) (by decide) (by decide)
theorem own_ef0 (m : MethodId) (x0 : Int32) (x1 : Int32) (x2 : Int32) (x3 : Int32) : entryFrame m #[(.int x0), (.int x1), (.int x2), (.int x3)] maxLocals = mkF m 0 #[.val (.int x0), .val (.int x1), .val (.int x2), .val (.int x3), .unset, .unset, .unset, .unset, .unset, .unset, .unset, .unset, .unset, .unset, .unset, .unset, .unset, .unset] [] := by first | (simp [entryFrame, mkF, argsToLocals, Value.category, maxLocals]; done) | rfl
def own_Q0 (Z : State) (da bi sm fl : Int32) (h0 : Heap) (n0 : Nat) : Option Value → Heap → List Loc → Prop := fun v h L => v = some (.int 1) ∧ Fr n0 L
set_option maxRecDepth 65536 in
set_option maxHeartbeats 40000000 in
theorem own_rm0 (l : Launch) (Z : State) (a0 : Array Value) (hw : ∀ d ∈ tables_1, d.before a0 Z = true) (ws : List Jvm.Cond) (da bi sm fl : Int32) (h0 : Heap) (n0 : Nat) (Z0 : n0 ≤ h0.size)  :
    MetFree l x (head1 (Jvm.Cond.code x code maxLocals ret :: ws) room_1) (fun a_ U_ => a_ = #[(.int da), (.int bi), (.int sm), (.int fl)] ∧ Z.Warmed39 U_.vm ∧ U_.heap = h0) (fun _ _ _ _ _ => True) (fun _ U_ o_ U'_ => ∃ v_ L_, o_ = .returned v_ ∧ own_Q0 Z da bi sm fl  h0 n0 v_ U'_.heap L_ ∧ FrameEnd U_ o_ U'_ L_ room_1.cells room_1.slots) := by
  refine MetFree.of_bodySF (plainFor_of_name own_pn1) hisR ?_
  intro p e s m args below meth c s₁ Bd hml0 hP hK
  obtain ⟨rfl, hZ, hh⟩ := hP
  have hx := Bd.exec
  have hby := Bd.bytes
  have hml : c.maxLocals = 18 := hml0
  have hown : s.vm.findClass "com/example/dyadloom/dyadloom/core/RandomMatrixEntriesPinLaw" = some m.cls := findClass_of_methodNamed Bd.named
  have hnm := (name_of_methodNamed Bd.named Bd.method).1
  have X0 : Stand p l e room_1 s m #[(.int da), (.int bi), (.int sm), (.int fl)] below meth c s₁ [] 0 0 := Stand.of_body Bd
  have e0 : s₁.heap = h0 := by rw [← hh, Bd.state]; rfl
  have N0 := Fr.nil n0
  refine own_in (own_ef0 m da bi sm fl) ?_
  show own_Go p e below (own_K s (own_Q0 Z da bi sm fl  h0 n0) room_1.cells room_1.slots) s₁ (mkF m 0 #[.val (.int da), .val (.int bi), .val (.int sm), .val (.int fl), .unset, .unset, .unset, .unset, .unset, .unset, .unset, .unset, .unset, .unset, .unset, .unset, .unset, .unset] [])
  obtain ⟨dn, hd, d1, d2⟩ := own_p1 da 15 4 (by decide) (by decide)
  obtain ⟨bn, hb', b1, b2⟩ := own_pm bi
  obtain ⟨sn, hs', s1, s2⟩ := own_p1 sm 262143 18 (by decide) (by decide)
  have d16 : dn ≤ 16 := d2
  have hbs : bn * sn ≤ 2147483647 * 262144 := Nat.mul_le_mul b2 s2
  have hsb : sn * bn ≤ 2147483647 * 262144 := by rw [Nat.mul_comm]; exact hbs
  refine own_st (T' := s₁) (g' := (mkF m 13 #[.val (.int da), .val (.int bi), .val (.int sm), .val (.int fl), .val (.int ((da &&& (15 : Int32)) + (1 : Int32))), .unset, .unset, .unset, .unset, .unset, .unset, .unset, .unset, .unset, .unset, .unset, .unset, .unset] [(.int (bi &&& (2147483647 : Int32))), (.int (1 : Int32))])) (fun t k => ?_) ?_
  · show Steps p.tables e below (s₁.setTop (mkF m 0 #[.val (.int da), .val (.int bi), .val (.int sm), .val (.int fl), .unset, .unset, .unset, .unset, .unset, .unset, .unset, .unset, .unset, .unset, .unset, .unset, .unset, .unset] [])) t
    refine XS.iloadN X0.here hx rfl (hb hby at_0) rfl ?_
    refine XS.bipush X0.here hx rfl (hb hby at_1) ?_
    refine XS.iand X0.here hx rfl (hb hby at_3) rfl ?_
    refine XS.iconst X0.here hx rfl (hb hby at_4) ?_
    refine XS.iadd X0.here hx rfl (hb hby at_5) rfl ?_
    refine XS.istore X0.here hx rfl (hb hby at_6) rfl (l' := #[.val (.int da), .val (.int bi), .val (.int sm), .val (.int fl), .val (.int ((da &&& (15 : Int32)) + (1 : Int32))), .unset, .unset, .unset, .unset, .unset, .unset, .unset, .unset, .unset, .unset, .unset, .unset, .unset]) rfl ?_
    refine XS.iconst X0.here hx rfl (hb hby at_8) ?_
    refine XS.iloadN X0.here hx rfl (hb hby at_9) rfl ?_
    refine X0.ldcInt hx hown (mvT hZ (hw _ (List.mem_of_getElem? (i := 0) rfl))) (g := (mkF m 10 #[.val (.int da), .val (.int bi), .val (.int sm), .val (.int fl), .val (.int ((da &&& (15 : Int32)) + (1 : Int32))), .unset, .unset, .unset, .unset, .unset, .unset, .unset, .unset, .unset, .unset, .unset, .unset, .unset] [(.int bi), (.int (1 : Int32))])) rfl (hb hby at_10) _ ?_
    refine XS.iand X0.here hx rfl (hb hby at_12) rfl ?_
    exact k
  obtain ⟨_, _, ⟨T1, L1, c1, n1⟩, -, X1, ⟨Lc1, hQ1, l1, y1, z1⟩, st1⟩ := Jvm.LawKit.callS X0 hx (y := (⟨"java/lang/Math", "max", "(II)I"⟩ : MethodName)) hown (mvT hZ (hw _ (List.mem_of_getElem? (i := 1) rfl))) (mvT hZ (hw _ (List.mem_of_getElem? (i := 2) rfl))) (mvT hZ (hw _ (List.mem_of_getElem? (i := 3) rfl))) (mvT hZ (hw _ (List.mem_of_getElem? (i := 4) rfl))) (by decide) (backOf (W := 0) (own_rm1 l Z a0 hw [] (1 : Int32) (bi &&& (2147483647 : Int32)) h0 n0 Z0) hZ (hw _ (List.mem_of_getElem? (i := 4) rfl)) (hw _ (List.mem_of_getElem? (i := 3) rfl)) (by decide) (by decide)) (g := (mkF m 13 #[.val (.int da), .val (.int bi), .val (.int sm), .val (.int fl), .val (.int ((da &&& (15 : Int32)) + (1 : Int32))), .unset, .unset, .unset, .unset, .unset, .unset, .unset, .unset, .unset, .unset, .unset, .unset, .unset] [(.int (bi &&& (2147483647 : Int32))), (.int (1 : Int32))])) rfl (by rw [hml]; rfl) (argsL := [(.int (1 : Int32)), (.int (bi &&& (2147483647 : Int32)))]) (rest := []) (lenOf own_pd1 rfl) rfl (by show 2 * 0 + _ ≤ _; exact Nat.le_of_eq rfl) (hb hby at_13) (fun _ _ => ⟨rfl, e0, (by decide : 0 + 0 ≤ _), (by decide : 0 + 0 ≤ _)⟩)
  dsimp only [Pt.U, Pt.locs, Pt.cells, Pt.slots] at X1 l1 y1 z1 st1 hQ1
  subst l1 y1 z1
  obtain ⟨rfl, N1q, e1⟩ := hQ1
  have N1 := Fr.app N0 N1q
  refine own_st (T' := T1) (g' := (mkF m 16 #[.val (.int da), .val (.int bi), .val (.int sm), .val (.int fl), .val (.int ((da &&& (15 : Int32)) + (1 : Int32))), .unset, .unset, .unset, .unset, .unset, .unset, .unset, .unset, .unset, .unset, .unset, .unset, .unset] [(.int (own_mx (1 : Int32) (bi &&& (2147483647 : Int32))))])) st1 ?_
  refine own_st (T' := T1) (g' := (mkF m 29 #[.val (.int da), .val (.int bi), .val (.int sm), .val (.int fl), .val (.int ((da &&& (15 : Int32)) + (1 : Int32))), .val (.int (own_mx (1 : Int32) (bi &&& (2147483647 : Int32)))), .val (.int ((sm &&& (262143 : Int32)) + (1 : Int32))), .unset, .unset, .unset, .unset, .unset, .unset, .unset, .unset, .unset, .unset, .unset] [(.int (fl &&& (1 : Int32)))])) (fun t k => ?_) ?_
  · show Steps p.tables e below (T1.setTop (mkF m 16 #[.val (.int da), .val (.int bi), .val (.int sm), .val (.int fl), .val (.int ((da &&& (15 : Int32)) + (1 : Int32))), .unset, .unset, .unset, .unset, .unset, .unset, .unset, .unset, .unset, .unset, .unset, .unset, .unset] [(.int (own_mx (1 : Int32) (bi &&& (2147483647 : Int32))))])) t
    refine XS.istore X1.here hx rfl (hb hby at_16) rfl (l' := #[.val (.int da), .val (.int bi), .val (.int sm), .val (.int fl), .val (.int ((da &&& (15 : Int32)) + (1 : Int32))), .val (.int (own_mx (1 : Int32) (bi &&& (2147483647 : Int32)))), .unset, .unset, .unset, .unset, .unset, .unset, .unset, .unset, .unset, .unset, .unset, .unset]) rfl ?_
    refine XS.iloadN X1.here hx rfl (hb hby at_18) rfl ?_
    refine X1.ldcInt hx hown (mvT hZ (hw _ (List.mem_of_getElem? (i := 5) rfl))) (g := (mkF m 19 #[.val (.int da), .val (.int bi), .val (.int sm), .val (.int fl), .val (.int ((da &&& (15 : Int32)) + (1 : Int32))), .val (.int (own_mx (1 : Int32) (bi &&& (2147483647 : Int32)))), .unset, .unset, .unset, .unset, .unset, .unset, .unset, .unset, .unset, .unset, .unset, .unset] [(.int sm)])) rfl (hb hby at_19) _ ?_
    refine XS.iand X1.here hx rfl (hb hby at_21) rfl ?_
    refine XS.iconst X1.here hx rfl (hb hby at_22) ?_
    refine XS.iadd X1.here hx rfl (hb hby at_23) rfl ?_
    refine XS.istore X1.here hx rfl (hb hby at_24) rfl (l' := #[.val (.int da), .val (.int bi), .val (.int sm), .val (.int fl), .val (.int ((da &&& (15 : Int32)) + (1 : Int32))), .val (.int (own_mx (1 : Int32) (bi &&& (2147483647 : Int32)))), .val (.int ((sm &&& (262143 : Int32)) + (1 : Int32))), .unset, .unset, .unset, .unset, .unset, .unset, .unset, .unset, .unset, .unset, .unset]) rfl ?_
    refine XS.iloadN X1.here hx rfl (hb hby at_26) rfl ?_
    refine XS.iconst X1.here hx rfl (hb hby at_27) ?_
    refine XS.iand X1.here hx rfl (hb hby at_28) rfl ?_
    exact k
  by_cases hc2 : (fl &&& (1 : Int32)) = (0 : Int32)
  · refine own_st (T' := T1) (g' := (mkF m 82 #[.val (.int da), .val (.int bi), .val (.int sm), .val (.int fl), .val (.int ((da &&& (15 : Int32)) + (1 : Int32))), .val (.int (own_mx (1 : Int32) (bi &&& (2147483647 : Int32)))), .val (.int ((sm &&& (262143 : Int32)) + (1 : Int32))), .val (.int (0 : Int32)), .val (.int (own_mx (1 : Int32) (bi &&& (2147483647 : Int32)))), .val (.int ((sm &&& (262143 : Int32)) + (1 : Int32))), .val (.double (own_dd dn (-4))), .second, .unset, .unset, .unset, .unset, .unset, .unset] [(.double (own_dd dn (-4))), (.int ((sm &&& (262143 : Int32)) + (1 : Int32))), (.int (own_mx (1 : Int32) (bi &&& (2147483647 : Int32))))])) (fun t k => ?_) ?_
    · show Steps p.tables e below (T1.setTop (mkF m 29 #[.val (.int da), .val (.int bi), .val (.int sm), .val (.int fl), .val (.int ((da &&& (15 : Int32)) + (1 : Int32))), .val (.int (own_mx (1 : Int32) (bi &&& (2147483647 : Int32)))), .val (.int ((sm &&& (262143 : Int32)) + (1 : Int32))), .unset, .unset, .unset, .unset, .unset, .unset, .unset, .unset, .unset, .unset, .unset] [(.int (fl &&& (1 : Int32)))])) t
      refine XS.ifYes X1.here hx rfl (pc0 := 29) (pc' := 36) rfl (hb hby at_29) rfl ((if0 _ _).trans (teq hc2).1) (by decide) (by decide) ?_
      refine XS.iconst X1.here hx rfl (hb hby at_36) ?_
      refine XS.istore X1.here hx rfl (hb hby at_37) rfl (l' := #[.val (.int da), .val (.int bi), .val (.int sm), .val (.int fl), .val (.int ((da &&& (15 : Int32)) + (1 : Int32))), .val (.int (own_mx (1 : Int32) (bi &&& (2147483647 : Int32)))), .val (.int ((sm &&& (262143 : Int32)) + (1 : Int32))), .val (.int (0 : Int32)), .unset, .unset, .unset, .unset, .unset, .unset, .unset, .unset, .unset, .unset]) rfl ?_
      refine XS.iload X1.here hx rfl (hb hby at_39) rfl ?_
      refine XS.ifYes X1.here hx rfl (pc0 := 41) (pc' := 49) rfl (hb hby at_41) rfl ((if0 _ _).trans (teq (rfl : (0 : Int32) = (0 : Int32))).1) (by decide) (by decide) ?_
      refine XS.iload X1.here hx rfl (hb hby at_49) rfl ?_
      refine XS.istore X1.here hx rfl (hb hby at_51) rfl (l' := #[.val (.int da), .val (.int bi), .val (.int sm), .val (.int fl), .val (.int ((da &&& (15 : Int32)) + (1 : Int32))), .val (.int (own_mx (1 : Int32) (bi &&& (2147483647 : Int32)))), .val (.int ((sm &&& (262143 : Int32)) + (1 : Int32))), .val (.int (0 : Int32)), .val (.int (own_mx (1 : Int32) (bi &&& (2147483647 : Int32)))), .unset, .unset, .unset, .unset, .unset, .unset, .unset, .unset, .unset]) rfl ?_
      refine XS.iload X1.here hx rfl (hb hby at_53) rfl ?_
      refine XS.ifYes X1.here hx rfl (pc0 := 55) (pc' := 63) rfl (hb hby at_55) rfl ((if0 _ _).trans (teq (rfl : (0 : Int32) = (0 : Int32))).1) (by decide) (by decide) ?_
      refine XS.iload X1.here hx rfl (hb hby at_63) rfl ?_
      refine XS.istore X1.here hx rfl (hb hby at_65) rfl (l' := #[.val (.int da), .val (.int bi), .val (.int sm), .val (.int fl), .val (.int ((da &&& (15 : Int32)) + (1 : Int32))), .val (.int (own_mx (1 : Int32) (bi &&& (2147483647 : Int32)))), .val (.int ((sm &&& (262143 : Int32)) + (1 : Int32))), .val (.int (0 : Int32)), .val (.int (own_mx (1 : Int32) (bi &&& (2147483647 : Int32)))), .val (.int ((sm &&& (262143 : Int32)) + (1 : Int32))), .unset, .unset, .unset, .unset, .unset, .unset, .unset, .unset]) rfl ?_
      refine XS.iload X1.here hx rfl (hb hby at_67) rfl ?_
      refine XS.i2dS X1.here hx rfl (hb hby at_69) rfl (own_i2d hd d1) ?_
      refine X1.ldc2DoubleC hx hown (mvT hZ (hw _ (List.mem_of_getElem? (i := 6) rfl))) (g := (mkF m 70 #[.val (.int da), .val (.int bi), .val (.int sm), .val (.int fl), .val (.int ((da &&& (15 : Int32)) + (1 : Int32))), .val (.int (own_mx (1 : Int32) (bi &&& (2147483647 : Int32)))), .val (.int ((sm &&& (262143 : Int32)) + (1 : Int32))), .val (.int (0 : Int32)), .val (.int (own_mx (1 : Int32) (bi &&& (2147483647 : Int32)))), .val (.int ((sm &&& (262143 : Int32)) + (1 : Int32))), .unset, .unset, .unset, .unset, .unset, .unset, .unset, .unset] [(.double (own_dd dn 0))])) rfl (hb hby at_70) _ ?_
      refine XS.ddivS X1.here hx rfl (hb hby at_73) rfl (own_dv d1 d16) (own_div d1 d16) ?_
      refine XS.dstore X1.here hx rfl (hb hby at_74) rfl (l' := #[.val (.int da), .val (.int bi), .val (.int sm), .val (.int fl), .val (.int ((da &&& (15 : Int32)) + (1 : Int32))), .val (.int (own_mx (1 : Int32) (bi &&& (2147483647 : Int32)))), .val (.int ((sm &&& (262143 : Int32)) + (1 : Int32))), .val (.int (0 : Int32)), .val (.int (own_mx (1 : Int32) (bi &&& (2147483647 : Int32)))), .val (.int ((sm &&& (262143 : Int32)) + (1 : Int32))), .val (.double (own_dd dn (-4))), .second, .unset, .unset, .unset, .unset, .unset, .unset]) rfl ?_
      refine XS.iload X1.here hx rfl (hb hby at_76) rfl ?_
      refine XS.iload X1.here hx rfl (hb hby at_78) rfl ?_
      refine XS.dload X1.here hx rfl (hb hby at_80) rfl ?_
      exact k
    obtain ⟨_, _, ⟨T3, L3, c3, n3⟩, -, X3, ⟨Lc3, hQ3, l3, y3, z3⟩, st3⟩ := Jvm.LawKit.callS X1 hx (y := (⟨"com/example/dyadloom/dyadloom/core/RandomMatrix", "entries", "(IID)J"⟩ : MethodName)) hown (mvT hZ (hw _ (List.mem_of_getElem? (i := 7) rfl))) (mvT hZ (hw _ (List.mem_of_getElem? (i := 8) rfl))) (mvT hZ (hw _ (List.mem_of_getElem? (i := 9) rfl))) (mvT hZ (hw _ (List.mem_of_getElem? (i := 10) rfl))) (by decide) (backOf (W := 0) (own_rm2 l Z a0 hw [] (own_mx (1 : Int32) (bi &&& (2147483647 : Int32))) ((sm &&& (262143 : Int32)) + (1 : Int32)) dn bn sn h0 n0 Z0 hb' hs' d1 d16 b1 s1 (own_lt d16 hbs)) hZ (hw _ (List.mem_of_getElem? (i := 10) rfl)) (hw _ (List.mem_of_getElem? (i := 9) rfl)) (by decide) (by decide)) (g := (mkF m 82 #[.val (.int da), .val (.int bi), .val (.int sm), .val (.int fl), .val (.int ((da &&& (15 : Int32)) + (1 : Int32))), .val (.int (own_mx (1 : Int32) (bi &&& (2147483647 : Int32)))), .val (.int ((sm &&& (262143 : Int32)) + (1 : Int32))), .val (.int (0 : Int32)), .val (.int (own_mx (1 : Int32) (bi &&& (2147483647 : Int32)))), .val (.int ((sm &&& (262143 : Int32)) + (1 : Int32))), .val (.double (own_dd dn (-4))), .second, .unset, .unset, .unset, .unset, .unset, .unset] [(.double (own_dd dn (-4))), (.int ((sm &&& (262143 : Int32)) + (1 : Int32))), (.int (own_mx (1 : Int32) (bi &&& (2147483647 : Int32))))])) rfl (by rw [hml]; rfl) (argsL := [(.int (own_mx (1 : Int32) (bi &&& (2147483647 : Int32)))), (.int ((sm &&& (262143 : Int32)) + (1 : Int32))), (.double (own_dd dn (-4)))]) (rest := []) (lenOf own_pd2 rfl) rfl (by show 2 * 0 + _ ≤ _; exact Nat.le_of_eq rfl) (hb hby at_82) (fun _ _ => ⟨rfl, e1, (by decide : 0 + 0 ≤ _), (by decide : 0 + 0 ≤ _)⟩)
    dsimp only [Pt.U, Pt.locs, Pt.cells, Pt.slots] at X3 l3 y3 z3 st3 hQ3
    subst l3 y3 z3
    obtain ⟨rfl, N3q, e3⟩ := hQ3
    have N3 := Fr.app N1 N3q
    refine own_st (T' := T3) (g' := (mkF m 85 #[.val (.int da), .val (.int bi), .val (.int sm), .val (.int fl), .val (.int ((da &&& (15 : Int32)) + (1 : Int32))), .val (.int (own_mx (1 : Int32) (bi &&& (2147483647 : Int32)))), .val (.int ((sm &&& (262143 : Int32)) + (1 : Int32))), .val (.int (0 : Int32)), .val (.int (own_mx (1 : Int32) (bi &&& (2147483647 : Int32)))), .val (.int ((sm &&& (262143 : Int32)) + (1 : Int32))), .val (.double (own_dd dn (-4))), .second, .unset, .unset, .unset, .unset, .unset, .unset] [(.long (Int64.ofNat ((dn * bn * sn + 8) / 16)))])) st3 ?_
    refine own_st (T' := T3) (g' := (mkF m 125 #[.val (.int da), .val (.int bi), .val (.int sm), .val (.int fl), .val (.int ((da &&& (15 : Int32)) + (1 : Int32))), .val (.int (own_mx (1 : Int32) (bi &&& (2147483647 : Int32)))), .val (.int ((sm &&& (262143 : Int32)) + (1 : Int32))), .val (.int (0 : Int32)), .val (.int (own_mx (1 : Int32) (bi &&& (2147483647 : Int32)))), .val (.int ((sm &&& (262143 : Int32)) + (1 : Int32))), .val (.double (own_dd dn (-4))), .second, .val (.long (Int64.ofNat ((dn * bn * sn + 8) / 16))), .second, .val (.long (((((da &&& (15 : Int32)) + (1 : Int32)).toInt64) * ((own_mx (1 : Int32) (bi &&& (2147483647 : Int32))).toInt64)) * (((sm &&& (262143 : Int32)) + (1 : Int32)).toInt64))), .second, .val (.long (((((((da &&& (15 : Int32)) + (1 : Int32)).toInt64) * ((own_mx (1 : Int32) (bi &&& (2147483647 : Int32))).toInt64)) * (((sm &&& (262143 : Int32)) + (1 : Int32)).toInt64)) + (8 : Int64)) / (16 : Int64))), .second] [(.int (1 : Int32))])) (fun t k => ?_) ?_
    · show Steps p.tables e below (T3.setTop (mkF m 85 #[.val (.int da), .val (.int bi), .val (.int sm), .val (.int fl), .val (.int ((da &&& (15 : Int32)) + (1 : Int32))), .val (.int (own_mx (1 : Int32) (bi &&& (2147483647 : Int32)))), .val (.int ((sm &&& (262143 : Int32)) + (1 : Int32))), .val (.int (0 : Int32)), .val (.int (own_mx (1 : Int32) (bi &&& (2147483647 : Int32)))), .val (.int ((sm &&& (262143 : Int32)) + (1 : Int32))), .val (.double (own_dd dn (-4))), .second, .unset, .unset, .unset, .unset, .unset, .unset] [(.long (Int64.ofNat ((dn * bn * sn + 8) / 16)))])) t
      refine XS.lstore X3.here hx rfl (hb hby at_85) rfl (l' := #[.val (.int da), .val (.int bi), .val (.int sm), .val (.int fl), .val (.int ((da &&& (15 : Int32)) + (1 : Int32))), .val (.int (own_mx (1 : Int32) (bi &&& (2147483647 : Int32)))), .val (.int ((sm &&& (262143 : Int32)) + (1 : Int32))), .val (.int (0 : Int32)), .val (.int (own_mx (1 : Int32) (bi &&& (2147483647 : Int32)))), .val (.int ((sm &&& (262143 : Int32)) + (1 : Int32))), .val (.double (own_dd dn (-4))), .second, .val (.long (Int64.ofNat ((dn * bn * sn + 8) / 16))), .second, .unset, .unset, .unset, .unset]) rfl ?_
      refine XS.iload X3.here hx rfl (hb hby at_87) rfl ?_
      refine XS.i2l X3.here hx rfl (hb hby at_89) rfl ?_
      refine XS.iload X3.here hx rfl (hb hby at_90) rfl ?_
      refine XS.i2l X3.here hx rfl (hb hby at_92) rfl ?_
      refine XS.lmul X3.here hx rfl (hb hby at_93) rfl ?_
      refine XS.iload X3.here hx rfl (hb hby at_94) rfl ?_
      refine XS.i2l X3.here hx rfl (hb hby at_96) rfl ?_
      refine XS.lmul X3.here hx rfl (hb hby at_97) rfl ?_
      refine XS.lstore X3.here hx rfl (hb hby at_98) rfl (l' := #[.val (.int da), .val (.int bi), .val (.int sm), .val (.int fl), .val (.int ((da &&& (15 : Int32)) + (1 : Int32))), .val (.int (own_mx (1 : Int32) (bi &&& (2147483647 : Int32)))), .val (.int ((sm &&& (262143 : Int32)) + (1 : Int32))), .val (.int (0 : Int32)), .val (.int (own_mx (1 : Int32) (bi &&& (2147483647 : Int32)))), .val (.int ((sm &&& (262143 : Int32)) + (1 : Int32))), .val (.double (own_dd dn (-4))), .second, .val (.long (Int64.ofNat ((dn * bn * sn + 8) / 16))), .second, .val (.long (((((da &&& (15 : Int32)) + (1 : Int32)).toInt64) * ((own_mx (1 : Int32) (bi &&& (2147483647 : Int32))).toInt64)) * (((sm &&& (262143 : Int32)) + (1 : Int32)).toInt64))), .second, .unset, .unset]) rfl ?_
      refine XS.lload X3.here hx rfl (hb hby at_100) rfl ?_
      refine X3.ldc2Long hx hown (mvT hZ (hw _ (List.mem_of_getElem? (i := 23) rfl))) (g := (mkF m 102 #[.val (.int da), .val (.int bi), .val (.int sm), .val (.int fl), .val (.int ((da &&& (15 : Int32)) + (1 : Int32))), .val (.int (own_mx (1 : Int32) (bi &&& (2147483647 : Int32)))), .val (.int ((sm &&& (262143 : Int32)) + (1 : Int32))), .val (.int (0 : Int32)), .val (.int (own_mx (1 : Int32) (bi &&& (2147483647 : Int32)))), .val (.int ((sm &&& (262143 : Int32)) + (1 : Int32))), .val (.double (own_dd dn (-4))), .second, .val (.long (Int64.ofNat ((dn * bn * sn + 8) / 16))), .second, .val (.long (((((da &&& (15 : Int32)) + (1 : Int32)).toInt64) * ((own_mx (1 : Int32) (bi &&& (2147483647 : Int32))).toInt64)) * (((sm &&& (262143 : Int32)) + (1 : Int32)).toInt64))), .second, .unset, .unset] [(.long (((((da &&& (15 : Int32)) + (1 : Int32)).toInt64) * ((own_mx (1 : Int32) (bi &&& (2147483647 : Int32))).toInt64)) * (((sm &&& (262143 : Int32)) + (1 : Int32)).toInt64)))])) rfl (hb hby at_102) _ ?_
      refine XS.ladd X3.here hx rfl (hb hby at_105) rfl ?_
      refine X3.ldc2Long hx hown (mvT hZ (hw _ (List.mem_of_getElem? (i := 24) rfl))) (g := (mkF m 106 #[.val (.int da), .val (.int bi), .val (.int sm), .val (.int fl), .val (.int ((da &&& (15 : Int32)) + (1 : Int32))), .val (.int (own_mx (1 : Int32) (bi &&& (2147483647 : Int32)))), .val (.int ((sm &&& (262143 : Int32)) + (1 : Int32))), .val (.int (0 : Int32)), .val (.int (own_mx (1 : Int32) (bi &&& (2147483647 : Int32)))), .val (.int ((sm &&& (262143 : Int32)) + (1 : Int32))), .val (.double (own_dd dn (-4))), .second, .val (.long (Int64.ofNat ((dn * bn * sn + 8) / 16))), .second, .val (.long (((((da &&& (15 : Int32)) + (1 : Int32)).toInt64) * ((own_mx (1 : Int32) (bi &&& (2147483647 : Int32))).toInt64)) * (((sm &&& (262143 : Int32)) + (1 : Int32)).toInt64))), .second, .unset, .unset] [(.long ((((((da &&& (15 : Int32)) + (1 : Int32)).toInt64) * ((own_mx (1 : Int32) (bi &&& (2147483647 : Int32))).toInt64)) * (((sm &&& (262143 : Int32)) + (1 : Int32)).toInt64)) + (8 : Int64)))])) rfl (hb hby at_106) _ ?_
      refine XS.ldiv X3.here hx rfl (hb hby at_109) rfl (by decide) ?_
      refine XS.lstore X3.here hx rfl (hb hby at_110) rfl (l' := #[.val (.int da), .val (.int bi), .val (.int sm), .val (.int fl), .val (.int ((da &&& (15 : Int32)) + (1 : Int32))), .val (.int (own_mx (1 : Int32) (bi &&& (2147483647 : Int32)))), .val (.int ((sm &&& (262143 : Int32)) + (1 : Int32))), .val (.int (0 : Int32)), .val (.int (own_mx (1 : Int32) (bi &&& (2147483647 : Int32)))), .val (.int ((sm &&& (262143 : Int32)) + (1 : Int32))), .val (.double (own_dd dn (-4))), .second, .val (.long (Int64.ofNat ((dn * bn * sn + 8) / 16))), .second, .val (.long (((((da &&& (15 : Int32)) + (1 : Int32)).toInt64) * ((own_mx (1 : Int32) (bi &&& (2147483647 : Int32))).toInt64)) * (((sm &&& (262143 : Int32)) + (1 : Int32)).toInt64))), .second, .val (.long (((((((da &&& (15 : Int32)) + (1 : Int32)).toInt64) * ((own_mx (1 : Int32) (bi &&& (2147483647 : Int32))).toInt64)) * (((sm &&& (262143 : Int32)) + (1 : Int32)).toInt64)) + (8 : Int64)) / (16 : Int64))), .second]) rfl ?_
      refine XS.lload X3.here hx rfl (hb hby at_112) rfl ?_
      refine XS.lload X3.here hx rfl (hb hby at_114) rfl ?_
      refine XS.lcmp X3.here hx rfl (hb hby at_116) rfl ?_
      refine XS.ifNo X3.here hx rfl (hb hby at_117) rfl ((if0 _ _).trans (teq ((lw_eq _ _).mpr (own_want hd hb' hs' d1 b1 s1 (own_lt d16 hbs)))).2) ?_
      refine XS.iconst X3.here hx rfl (hb hby at_120) ?_
      refine XS.goto X3.here hx rfl (pc0 := 121) (pc' := 125) rfl (hb hby at_121) (by decide) (by decide) ?_
      exact k
    exact own_retN X3 hx Bd (t := .boolean) (by simp) rfl (hb hby at_125) e3 (⟨rfl, N3⟩) (by decide) (by decide)
  · refine own_st (T' := T1) (g' := (mkF m 82 #[.val (.int da), .val (.int bi), .val (.int sm), .val (.int fl), .val (.int ((da &&& (15 : Int32)) + (1 : Int32))), .val (.int (own_mx (1 : Int32) (bi &&& (2147483647 : Int32)))), .val (.int ((sm &&& (262143 : Int32)) + (1 : Int32))), .val (.int (1 : Int32)), .val (.int ((sm &&& (262143 : Int32)) + (1 : Int32))), .val (.int (own_mx (1 : Int32) (bi &&& (2147483647 : Int32)))), .val (.double (own_dd dn (-4))), .second, .unset, .unset, .unset, .unset, .unset, .unset] [(.double (own_dd dn (-4))), (.int (own_mx (1 : Int32) (bi &&& (2147483647 : Int32)))), (.int ((sm &&& (262143 : Int32)) + (1 : Int32)))])) (fun t k => ?_) ?_
    · show Steps p.tables e below (T1.setTop (mkF m 29 #[.val (.int da), .val (.int bi), .val (.int sm), .val (.int fl), .val (.int ((da &&& (15 : Int32)) + (1 : Int32))), .val (.int (own_mx (1 : Int32) (bi &&& (2147483647 : Int32)))), .val (.int ((sm &&& (262143 : Int32)) + (1 : Int32))), .unset, .unset, .unset, .unset, .unset, .unset, .unset, .unset, .unset, .unset, .unset] [(.int (fl &&& (1 : Int32)))])) t
      refine XS.ifNo X1.here hx rfl (hb hby at_29) rfl ((if0 _ _).trans (feq hc2).1) ?_
      refine XS.iconst X1.here hx rfl (hb hby at_32) ?_
      refine XS.goto X1.here hx rfl (pc0 := 33) (pc' := 37) rfl (hb hby at_33) (by decide) (by decide) ?_
      refine XS.istore X1.here hx rfl (hb hby at_37) rfl (l' := #[.val (.int da), .val (.int bi), .val (.int sm), .val (.int fl), .val (.int ((da &&& (15 : Int32)) + (1 : Int32))), .val (.int (own_mx (1 : Int32) (bi &&& (2147483647 : Int32)))), .val (.int ((sm &&& (262143 : Int32)) + (1 : Int32))), .val (.int (1 : Int32)), .unset, .unset, .unset, .unset, .unset, .unset, .unset, .unset, .unset, .unset]) rfl ?_
      refine XS.iload X1.here hx rfl (hb hby at_39) rfl ?_
      refine XS.ifNo X1.here hx rfl (hb hby at_41) rfl ((if0 _ _).trans (feq (by decide : ¬ ((1 : Int32) = (0 : Int32)))).1) ?_
      refine XS.iload X1.here hx rfl (hb hby at_44) rfl ?_
      refine XS.goto X1.here hx rfl (pc0 := 46) (pc' := 51) rfl (hb hby at_46) (by decide) (by decide) ?_
      refine XS.istore X1.here hx rfl (hb hby at_51) rfl (l' := #[.val (.int da), .val (.int bi), .val (.int sm), .val (.int fl), .val (.int ((da &&& (15 : Int32)) + (1 : Int32))), .val (.int (own_mx (1 : Int32) (bi &&& (2147483647 : Int32)))), .val (.int ((sm &&& (262143 : Int32)) + (1 : Int32))), .val (.int (1 : Int32)), .val (.int ((sm &&& (262143 : Int32)) + (1 : Int32))), .unset, .unset, .unset, .unset, .unset, .unset, .unset, .unset, .unset]) rfl ?_
      refine XS.iload X1.here hx rfl (hb hby at_53) rfl ?_
      refine XS.ifNo X1.here hx rfl (hb hby at_55) rfl ((if0 _ _).trans (feq (by decide : ¬ ((1 : Int32) = (0 : Int32)))).1) ?_
      refine XS.iload X1.here hx rfl (hb hby at_58) rfl ?_
      refine XS.goto X1.here hx rfl (pc0 := 60) (pc' := 65) rfl (hb hby at_60) (by decide) (by decide) ?_
      refine XS.istore X1.here hx rfl (hb hby at_65) rfl (l' := #[.val (.int da), .val (.int bi), .val (.int sm), .val (.int fl), .val (.int ((da &&& (15 : Int32)) + (1 : Int32))), .val (.int (own_mx (1 : Int32) (bi &&& (2147483647 : Int32)))), .val (.int ((sm &&& (262143 : Int32)) + (1 : Int32))), .val (.int (1 : Int32)), .val (.int ((sm &&& (262143 : Int32)) + (1 : Int32))), .val (.int (own_mx (1 : Int32) (bi &&& (2147483647 : Int32)))), .unset, .unset, .unset, .unset, .unset, .unset, .unset, .unset]) rfl ?_
      refine XS.iload X1.here hx rfl (hb hby at_67) rfl ?_
      refine XS.i2dS X1.here hx rfl (hb hby at_69) rfl (own_i2d hd d1) ?_
      refine X1.ldc2DoubleC hx hown (mvT hZ (hw _ (List.mem_of_getElem? (i := 6) rfl))) (g := (mkF m 70 #[.val (.int da), .val (.int bi), .val (.int sm), .val (.int fl), .val (.int ((da &&& (15 : Int32)) + (1 : Int32))), .val (.int (own_mx (1 : Int32) (bi &&& (2147483647 : Int32)))), .val (.int ((sm &&& (262143 : Int32)) + (1 : Int32))), .val (.int (1 : Int32)), .val (.int ((sm &&& (262143 : Int32)) + (1 : Int32))), .val (.int (own_mx (1 : Int32) (bi &&& (2147483647 : Int32)))), .unset, .unset, .unset, .unset, .unset, .unset, .unset, .unset] [(.double (own_dd dn 0))])) rfl (hb hby at_70) _ ?_
      refine XS.ddivS X1.here hx rfl (hb hby at_73) rfl (own_dv d1 d16) (own_div d1 d16) ?_
      refine XS.dstore X1.here hx rfl (hb hby at_74) rfl (l' := #[.val (.int da), .val (.int bi), .val (.int sm), .val (.int fl), .val (.int ((da &&& (15 : Int32)) + (1 : Int32))), .val (.int (own_mx (1 : Int32) (bi &&& (2147483647 : Int32)))), .val (.int ((sm &&& (262143 : Int32)) + (1 : Int32))), .val (.int (1 : Int32)), .val (.int ((sm &&& (262143 : Int32)) + (1 : Int32))), .val (.int (own_mx (1 : Int32) (bi &&& (2147483647 : Int32)))), .val (.double (own_dd dn (-4))), .second, .unset, .unset, .unset, .unset, .unset, .unset]) rfl ?_
      refine XS.iload X1.here hx rfl (hb hby at_76) rfl ?_
      refine XS.iload X1.here hx rfl (hb hby at_78) rfl ?_
      refine XS.dload X1.here hx rfl (hb hby at_80) rfl ?_
      exact k
    obtain ⟨_, _, ⟨T4, L4, c4, n4⟩, -, X4, ⟨Lc4, hQ4, l4, y4, z4⟩, st4⟩ := Jvm.LawKit.callS X1 hx (y := (⟨"com/example/dyadloom/dyadloom/core/RandomMatrix", "entries", "(IID)J"⟩ : MethodName)) hown (mvT hZ (hw _ (List.mem_of_getElem? (i := 7) rfl))) (mvT hZ (hw _ (List.mem_of_getElem? (i := 8) rfl))) (mvT hZ (hw _ (List.mem_of_getElem? (i := 9) rfl))) (mvT hZ (hw _ (List.mem_of_getElem? (i := 10) rfl))) (by decide) (backOf (W := 0) (own_rm2 l Z a0 hw [] ((sm &&& (262143 : Int32)) + (1 : Int32)) (own_mx (1 : Int32) (bi &&& (2147483647 : Int32))) dn sn bn h0 n0 Z0 hs' hb' d1 d16 s1 b1 (own_lt d16 hsb)) hZ (hw _ (List.mem_of_getElem? (i := 10) rfl)) (hw _ (List.mem_of_getElem? (i := 9) rfl)) (by decide) (by decide)) (g := (mkF m 82 #[.val (.int da), .val (.int bi), .val (.int sm), .val (.int fl), .val (.int ((da &&& (15 : Int32)) + (1 : Int32))), .val (.int (own_mx (1 : Int32) (bi &&& (2147483647 : Int32)))), .val (.int ((sm &&& (262143 : Int32)) + (1 : Int32))), .val (.int (1 : Int32)), .val (.int ((sm &&& (262143 : Int32)) + (1 : Int32))), .val (.int (own_mx (1 : Int32) (bi &&& (2147483647 : Int32)))), .val (.double (own_dd dn (-4))), .second, .unset, .unset, .unset, .unset, .unset, .unset] [(.double (own_dd dn (-4))), (.int (own_mx (1 : Int32) (bi &&& (2147483647 : Int32)))), (.int ((sm &&& (262143 : Int32)) + (1 : Int32)))])) rfl (by rw [hml]; rfl) (argsL := [(.int ((sm &&& (262143 : Int32)) + (1 : Int32))), (.int (own_mx (1 : Int32) (bi &&& (2147483647 : Int32)))), (.double (own_dd dn (-4)))]) (rest := []) (lenOf own_pd2 rfl) rfl (by show 2 * 0 + _ ≤ _; exact Nat.le_of_eq rfl) (hb hby at_82) (fun _ _ => ⟨rfl, e1, (by decide : 0 + 0 ≤ _), (by decide : 0 + 0 ≤ _)⟩)
    dsimp only [Pt.U, Pt.locs, Pt.cells, Pt.slots] at X4 l4 y4 z4 st4 hQ4
    subst l4 y4 z4
    obtain ⟨rfl, N4q, e4⟩ := hQ4
    have N4 := Fr.app N1 N4q
    refine own_st (T' := T4) (g' := (mkF m 85 #[.val (.int da), .val (.int bi), .val (.int sm), .val (.int fl), .val (.int ((da &&& (15 : Int32)) + (1 : Int32))), .val (.int (own_mx (1 : Int32) (bi &&& (2147483647 : Int32)))), .val (.int ((sm &&& (262143 : Int32)) + (1 : Int32))), .val (.int (1 : Int32)), .val (.int ((sm &&& (262143 : Int32)) + (1 : Int32))), .val (.int (own_mx (1 : Int32) (bi &&& (2147483647 : Int32)))), .val (.double (own_dd dn (-4))), .second, .unset, .unset, .unset, .unset, .unset, .unset] [(.long (Int64.ofNat ((dn * sn * bn + 8) / 16)))])) st4 ?_
    refine own_st (T' := T4) (g' := (mkF m 125 #[.val (.int da), .val (.int bi), .val (.int sm), .val (.int fl), .val (.int ((da &&& (15 : Int32)) + (1 : Int32))), .val (.int (own_mx (1 : Int32) (bi &&& (2147483647 : Int32)))), .val (.int ((sm &&& (262143 : Int32)) + (1 : Int32))), .val (.int (1 : Int32)), .val (.int ((sm &&& (262143 : Int32)) + (1 : Int32))), .val (.int (own_mx (1 : Int32) (bi &&& (2147483647 : Int32)))), .val (.double (own_dd dn (-4))), .second, .val (.long (Int64.ofNat ((dn * sn * bn + 8) / 16))), .second, .val (.long (((((da &&& (15 : Int32)) + (1 : Int32)).toInt64) * (((sm &&& (262143 : Int32)) + (1 : Int32)).toInt64)) * ((own_mx (1 : Int32) (bi &&& (2147483647 : Int32))).toInt64))), .second, .val (.long (((((((da &&& (15 : Int32)) + (1 : Int32)).toInt64) * (((sm &&& (262143 : Int32)) + (1 : Int32)).toInt64)) * ((own_mx (1 : Int32) (bi &&& (2147483647 : Int32))).toInt64)) + (8 : Int64)) / (16 : Int64))), .second] [(.int (1 : Int32))])) (fun t k => ?_) ?_
    · show Steps p.tables e below (T4.setTop (mkF m 85 #[.val (.int da), .val (.int bi), .val (.int sm), .val (.int fl), .val (.int ((da &&& (15 : Int32)) + (1 : Int32))), .val (.int (own_mx (1 : Int32) (bi &&& (2147483647 : Int32)))), .val (.int ((sm &&& (262143 : Int32)) + (1 : Int32))), .val (.int (1 : Int32)), .val (.int ((sm &&& (262143 : Int32)) + (1 : Int32))), .val (.int (own_mx (1 : Int32) (bi &&& (2147483647 : Int32)))), .val (.double (own_dd dn (-4))), .second, .unset, .unset, .unset, .unset, .unset, .unset] [(.long (Int64.ofNat ((dn * sn * bn + 8) / 16)))])) t
      refine XS.lstore X4.here hx rfl (hb hby at_85) rfl (l' := #[.val (.int da), .val (.int bi), .val (.int sm), .val (.int fl), .val (.int ((da &&& (15 : Int32)) + (1 : Int32))), .val (.int (own_mx (1 : Int32) (bi &&& (2147483647 : Int32)))), .val (.int ((sm &&& (262143 : Int32)) + (1 : Int32))), .val (.int (1 : Int32)), .val (.int ((sm &&& (262143 : Int32)) + (1 : Int32))), .val (.int (own_mx (1 : Int32) (bi &&& (2147483647 : Int32)))), .val (.double (own_dd dn (-4))), .second, .val (.long (Int64.ofNat ((dn * sn * bn + 8) / 16))), .second, .unset, .unset, .unset, .unset]) rfl ?_
      refine XS.iload X4.here hx rfl (hb hby at_87) rfl ?_
      refine XS.i2l X4.here hx rfl (hb hby at_89) rfl ?_
      refine XS.iload X4.here hx rfl (hb hby at_90) rfl ?_
      refine XS.i2l X4.here hx rfl (hb hby at_92) rfl ?_
      refine XS.lmul X4.here hx rfl (hb hby at_93) rfl ?_
      refine XS.iload X4.here hx rfl (hb hby at_94) rfl ?_
      refine XS.i2l X4.here hx rfl (hb hby at_96) rfl ?_
      refine XS.lmul X4.here hx rfl (hb hby at_97) rfl ?_
      refine XS.lstore X4.here hx rfl (hb hby at_98) rfl (l' := #[.val (.int da), .val (.int bi), .val (.int sm), .val (.int fl), .val (.int ((da &&& (15 : Int32)) + (1 : Int32))), .val (.int (own_mx (1 : Int32) (bi &&& (2147483647 : Int32)))), .val (.int ((sm &&& (262143 : Int32)) + (1 : Int32))), .val (.int (1 : Int32)), .val (.int ((sm &&& (262143 : Int32)) + (1 : Int32))), .val (.int (own_mx (1 : Int32) (bi &&& (2147483647 : Int32)))), .val (.double (own_dd dn (-4))), .second, .val (.long (Int64.ofNat ((dn * sn * bn + 8) / 16))), .second, .val (.long (((((da &&& (15 : Int32)) + (1 : Int32)).toInt64) * (((sm &&& (262143 : Int32)) + (1 : Int32)).toInt64)) * ((own_mx (1 : Int32) (bi &&& (2147483647 : Int32))).toInt64))), .second, .unset, .unset]) rfl ?_
      refine XS.lload X4.here hx rfl (hb hby at_100) rfl ?_
      refine X4.ldc2Long hx hown (mvT hZ (hw _ (List.mem_of_getElem? (i := 23) rfl))) (g := (mkF m 102 #[.val (.int da), .val (.int bi), .val (.int sm), .val (.int fl), .val (.int ((da &&& (15 : Int32)) + (1 : Int32))), .val (.int (own_mx (1 : Int32) (bi &&& (2147483647 : Int32)))), .val (.int ((sm &&& (262143 : Int32)) + (1 : Int32))), .val (.int (1 : Int32)), .val (.int ((sm &&& (262143 : Int32)) + (1 : Int32))), .val (.int (own_mx (1 : Int32) (bi &&& (2147483647 : Int32)))), .val (.double (own_dd dn (-4))), .second, .val (.long (Int64.ofNat ((dn * sn * bn + 8) / 16))), .second, .val (.long (((((da &&& (15 : Int32)) + (1 : Int32)).toInt64) * (((sm &&& (262143 : Int32)) + (1 : Int32)).toInt64)) * ((own_mx (1 : Int32) (bi &&& (2147483647 : Int32))).toInt64))), .second, .unset, .unset] [(.long (((((da &&& (15 : Int32)) + (1 : Int32)).toInt64) * (((sm &&& (262143 : Int32)) + (1 : Int32)).toInt64)) * ((own_mx (1 : Int32) (bi &&& (2147483647 : Int32))).toInt64)))])) rfl (hb hby at_102) _ ?_
      refine XS.ladd X4.here hx rfl (hb hby at_105) rfl ?_
      refine X4.ldc2Long hx hown (mvT hZ (hw _ (List.mem_of_getElem? (i := 24) rfl))) (g := (mkF m 106 #[.val (.int da), .val (.int bi), .val (.int sm), .val (.int fl), .val (.int ((da &&& (15 : Int32)) + (1 : Int32))), .val (.int (own_mx (1 : Int32) (bi &&& (2147483647 : Int32)))), .val (.int ((sm &&& (262143 : Int32)) + (1 : Int32))), .val (.int (1 : Int32)), .val (.int ((sm &&& (262143 : Int32)) + (1 : Int32))), .val (.int (own_mx (1 : Int32) (bi &&& (2147483647 : Int32)))), .val (.double (own_dd dn (-4))), .second, .val (.long (Int64.ofNat ((dn * sn * bn + 8) / 16))), .second, .val (.long (((((da &&& (15 : Int32)) + (1 : Int32)).toInt64) * (((sm &&& (262143 : Int32)) + (1 : Int32)).toInt64)) * ((own_mx (1 : Int32) (bi &&& (2147483647 : Int32))).toInt64))), .second, .unset, .unset] [(.long ((((((da &&& (15 : Int32)) + (1 : Int32)).toInt64) * (((sm &&& (262143 : Int32)) + (1 : Int32)).toInt64)) * ((own_mx (1 : Int32) (bi &&& (2147483647 : Int32))).toInt64)) + (8 : Int64)))])) rfl (hb hby at_106) _ ?_
      refine XS.ldiv X4.here hx rfl (hb hby at_109) rfl (by decide) ?_
      refine XS.lstore X4.here hx rfl (hb hby at_110) rfl (l' := #[.val (.int da), .val (.int bi), .val (.int sm), .val (.int fl), .val (.int ((da &&& (15 : Int32)) + (1 : Int32))), .val (.int (own_mx (1 : Int32) (bi &&& (2147483647 : Int32)))), .val (.int ((sm &&& (262143 : Int32)) + (1 : Int32))), .val (.int (1 : Int32)), .val (.int ((sm &&& (262143 : Int32)) + (1 : Int32))), .val (.int (own_mx (1 : Int32) (bi &&& (2147483647 : Int32)))), .val (.double (own_dd dn (-4))), .second, .val (.long (Int64.ofNat ((dn * sn * bn + 8) / 16))), .second, .val (.long (((((da &&& (15 : Int32)) + (1 : Int32)).toInt64) * (((sm &&& (262143 : Int32)) + (1 : Int32)).toInt64)) * ((own_mx (1 : Int32) (bi &&& (2147483647 : Int32))).toInt64))), .second, .val (.long (((((((da &&& (15 : Int32)) + (1 : Int32)).toInt64) * (((sm &&& (262143 : Int32)) + (1 : Int32)).toInt64)) * ((own_mx (1 : Int32) (bi &&& (2147483647 : Int32))).toInt64)) + (8 : Int64)) / (16 : Int64))), .second]) rfl ?_
      refine XS.lload X4.here hx rfl (hb hby at_112) rfl ?_
      refine XS.lload X4.here hx rfl (hb hby at_114) rfl ?_
      refine XS.lcmp X4.here hx rfl (hb hby at_116) rfl ?_
      refine XS.ifNo X4.here hx rfl (hb hby at_117) rfl ((if0 _ _).trans (teq ((lw_eq _ _).mpr (own_want hd hs' hb' d1 s1 b1 (own_lt d16 hsb)))).2) ?_
      refine XS.iconst X4.here hx rfl (hb hby at_120) ?_
      refine XS.goto X4.here hx rfl (pc0 := 121) (pc' := 125) rfl (hb hby at_121) (by decide) (by decide) ?_
      exact k
    exact own_retN X4 hx Bd (t := .boolean) (by simp) rfl (hb hby at_125) e4 (⟨rfl, N4⟩) (by decide) (by decide)
set_option maxRecDepth 65536 in
set_option maxHeartbeats 40000000 in
theorem own_comes_1 {Post : Tables → Env → Array Value → State → Outcome → State → Prop} (hpost : ∀ tb e args s v u, (limb_1_1.after args s (.returned v) u = true ∧ limb_1_2.after args s (.returned v) u = true ∧ True) → FrameEnd s (.returned v) u (Jvm.fieldLocs frame_1_writes args s ++ Jvm.arrayLocs frame_1_arrays args s ++ Jvm.staticLocs frame_1_statics s) 0 0 → Post tb e args s (.returned v) u) :
    ArmFor flags0 classFile x code maxLocals ret World_1 tables_1 room_1 Calls_1 rest_1 Pre_1 Post := by
  intro l hfl _ _ p e ha hc hk s m args below hf hA hF happ hP
  obtain ⟨hcalls, hrest, hpre⟩ := hP
  obtain ⟨-, -, -, hnamed, -, -, -, hat⟩ := (Spec.applies_iff hf).mp happ
  obtain ⟨hg, hn⟩ := and_e (Cond.before_iff.mp (show (Jvm.Cond.and given_1 narrow_1).before args s = true from hpre))
  obtain ⟨hg0, hgr⟩ := and_e hg
  obtain ⟨ha0, hgr⟩ := and_e hgr
  obtain ⟨ha1, hgr⟩ := and_e hgr
  obtain ⟨ha2, hgr⟩ := and_e hgr
  have ha3 := hgr
  obtain ⟨w0, w1, w2, w3, rfl⟩ : ∃ w0 w1 w2 w3 : Value, args = #[w0, w1, w2, w3] := by
    have hs : args.size = 4 := by simpa [Cond.value, given_1] using hg0
    obtain ⟨L⟩ := args
    match L, hs with
    | [w0, w1, w2, w3], _ => exact ⟨w0, w1, w2, w3, rfl⟩
  have hw := fun d (hd : d ∈ tables_1) => atoms_spec (ws := Jvm.Cond.code x code maxLocals ret :: tables_1) hat d (List.mem_cons_of_mem _ hd)
  have hfit : Fit s := fun {y c} hc i hi => by
    obtain ⟨ha, rfl⟩ := Array.getElem?_eq_some_iff.mp hc
    have q := List.all_eq_true.mp ((Array.all_eq_true_iff_forall_mem.mp hF) _ (Array.getElem_mem ha)) i (List.mem_range.mpr hi)
    simpa [Array.getElem?_eq_getElem hi] using q
  obtain ⟨i0, ei0⟩ := is_v ha0
  obtain rfl : w0 = (.int i0) := Option.some.inj ei0
  obtain ⟨i1, ei1⟩ := is_v ha1
  obtain rfl : w1 = (.int i1) := Option.some.inj ei1
  obtain ⟨i2, ei2⟩ := is_v ha2
  obtain rfl : w2 = (.int i2) := Option.some.inj ei2
  obtain ⟨i3, ei3⟩ := is_v ha3
  obtain rfl : w3 = (.int i3) := Option.some.inj ei3
  obtain ⟨n, o, h1, h2, h3, _, L, rfl, ⟨rfl, N⟩, hq⟩ := own_rm0 l s _ hw tables_1 i0 i1 i2 i3 s.heap s.heap.size (Nat.le_refl _) p e ha hc hk s m _ below hf ((Spec.applies_iff_loose hf).mp happ).1 ⟨rfl, State.Warmed39.refl s, rfl⟩ trivial
  refine ⟨n, _, h1, h2, h3, hpost _ _ _ _ _ _ ⟨Cond.after_iff.mpr rfl, Cond.after_iff.mpr (eq_i res_at (Term.int_eval (1)) rfl), trivial⟩ ⟨hq.1, hq.2.1, (hq.2.2.sift fun y hy => Or.inr (N y hy)).mono (by decide) (by decide)⟩⟩
theorem main_1_1 : Claimed_1_1 := own_comes_1 fun _ _ _ _ _ _ h hF => ⟨h.1, hF⟩
theorem main_1_2 : Claimed_1_2 := own_comes_1 fun _ _ _ _ _ _ h hF => ⟨h.2.1, hF⟩
end Jvm.Pilot.@@N@@
namespace Jvm.Pilot.@@N@@
open Jvm Jvm.ClassFile Sem Op Lib Jvm.Free Jvm.Stand Jvm.Pilot.@@N@@.Jvm.D
/-! MADE BY PROGRAM (witnessworld.py) out of the Statement's table words and the real class files: 15 classes; the members and pool entries that the words name. The judged class is class 1, her method 1. -/
namespace start1
open Jvm.ClassFile
def u (s : String) : CpInfo := .utf8 (stringToUtf16 s)
/-- a pool by its gaps: so many unusable entries, then the entry; so many at the end -/
def gap : Nat → List CpInfo → List CpInfo
  | 0, r => r
  | n + 1, r => .unusable :: gap n r
def poolList (es : List (Nat × CpInfo)) (last : Nat) : List CpInfo := es.foldr (fun e r => gap e.1 (e.2 :: r)) (gap last [])
def pool (es : List (Nat × CpInfo)) (last : Nat) : Array CpInfo := ⟨poolList es last⟩
def fileOf (pool : Array CpInfo) (this : Nat) (attrs : Array Attribute := #[]) (ms : Array MethodInfo := #[]) (fl : Nat := 33) (sup : Nat := 0) (ifs : Array Nat := #[]) (fds : Array FieldInfo := #[]) : ClassFile where
  minorVersion := 0
  majorVersion := 65
  constantPool := pool
  accessFlags := fl
  thisClass := this
  superClass := sup
  interfaces := ifs
  fields := fds
  methods := ms
  attributes := attrs
def plain (name : String) (sup : Option ClassId) : Class where
  name := name
  kind := .ordinary
  loader := none
  accessFlags := 33
  super := sup
  interfaces := #[]
  cf := none
  fields := #[]
  methods := #[]
  instanceTypes := #[]
  staticTypes := #[]
  resolved := #[]
  callSites := []
  init := .initialized
  statics := none
  mirror := none

def pool0 : Array CpInfo := pool [(5, u "<init>"), (0, u "()V"), (1, .class_ 10), (1, u "java/lang/Object")] 113

def k0m0 : Method := { name := "<init>", desc := "()V", sig := { parameters := [], returnType := none }, accessFlags := 1, code := none }
/-- java/lang/Object -/
def k0 : Class := { plain "java/lang/Object" none with
  accessFlags := 33
  interfaces := #[]
  cf := some (fileOf pool0 8 #[] #[{ accessFlags := 1, nameIndex := 5, descriptorIndex := 6, attributes := #[] }] 33 0 #[] #[])
  fields := #[]
  methods := #[k0m0]
  instanceTypes := #[]
  staticTypes := #[]
  resolved := Array.replicate 124 none
  statics := none }

def pool1 : Array CpInfo := pool [(2, .class_ 4), (1, u "java/lang/Object"), (0, u "<init>"), (0, u "()V"), (0, .integer 2147483647), (0, .methodref 9 10), (0, .class_ 11), (0, .nameAndType 12 13), (0, u "java/lang/Math"), (0, u "max"), (0, u "(II)I"), (0, .integer 262143), (0, .double 4625196817309499392), (1, .methodref 18 19), (0, .class_ 20), (0, .nameAndType 21 22), (0, u "com/example/dyadloom/dyadloom/core/RandomMatrix"), (0, u "entries"), (0, u "(IID)J"), (0, .long 8), (1, .long 16), (1, .class_ 28), (0, u "com/example/dyadloom/dyadloom/core/RandomMatrixEntriesPinLaw"), (2, u "law"), (0, u "(IIII)Z")] 3

def k1m0 : Method := { name := "<init>", desc := "()V", sig := { parameters := [], returnType := none }, accessFlags := 1, code := none }
def k1c1 : Code := { maxStack := 4, maxLocals := 18, code := code, exceptionTable := #[], attributes := #[] }
def k1m1 : Method := { name := "law", desc := "(IIII)Z", sig := { parameters := [.int, .int, .int, .int], returnType := some .boolean }, accessFlags := 9, code := some k1c1 }
/-- com/example/dyadloom/dyadloom/core/RandomMatrixEntriesPinLaw -/
def k1 : Class := { plain "com/example/dyadloom/dyadloom/core/RandomMatrixEntriesPinLaw" (some 0) with
  accessFlags := 49
  interfaces := #[]
  cf := some (fileOf pool1 27 #[] #[{ accessFlags := 1, nameIndex := 5, descriptorIndex := 6, attributes := #[] }, { accessFlags := 9, nameIndex := 31, descriptorIndex := 32, attributes := #[] }] 49 2 #[] #[])
  fields := #[]
  methods := #[k1m0, k1m1]
  instanceTypes := #[]
  staticTypes := #[]
  resolved := Array.replicate 36 none
  statics := none }

def pool2 : Array CpInfo := pool [(1, .class_ 2), (0, u "java/lang/Math"), (1, .class_ 6), (1, u "java/lang/Object"), (0, u "<init>"), (0, u "()V"), (70, .methodref 80 81), (0, .class_ 82), (0, .nameAndType 83 84), (0, u "java/lang/Double"), (0, u "doubleToRawLongBits"), (0, u "(D)J"), (2, .long 9218868437227405312), (1, .long 1074), (1, .long 18446744073709551552), (1, .long 4503599627370495), (1, .long 4503599627370496), (2, .class_ 100), (1, u "java/lang/Math$RandomNumberGeneratorHolder"), (71, u "negativeZeroFloatBits"), (0, u "J"), (2, u "negativeZeroDoubleBits"), (21, u "max"), (46, u "$assertionsDisabled"), (0, u "Z"), (88, u "(II)I"), (2, u "twoToTheDoubleScaleDown"), (0, u "D"), (4, u "twoToTheDoubleScaleUp"), (9, u "E"), (3, u "PI"), (2, u "TAU"), (2, u "DEGREES_TO_RADIANS"), (0, u "RADIANS_TO_DEGREES"), (17, u "round")] 76

def k2m0 : Method := { name := "<init>", desc := "()V", sig := { parameters := [], returnType := none }, accessFlags := 2, code := none }
def k2c1 : Code := { maxStack := 4, maxLocals := 10, code := jdk_29_method_22_code, exceptionTable := #[], attributes := #[] }
def k2m1 : Method := { name := "round", desc := "(D)J", sig := { parameters := [.double], returnType := some .long }, accessFlags := 9, code := some k2c1 }
def k2c2 : Code := { maxStack := 2, maxLocals := 2, code := jdk_29_method_65_code, exceptionTable := #[], attributes := #[] }
def k2m2 : Method := { name := "max", desc := "(II)I", sig := { parameters := [.int, .int], returnType := some .int }, accessFlags := 9, code := some k2c2 }
/-- java/lang/Math -/
def k2 : Class := { plain "java/lang/Math" (some 0) with
  accessFlags := 49
  interfaces := #[]
  cf := some (fileOf pool2 1 #[.nestMembers #[98]] #[{ accessFlags := 2, nameIndex := 7, descriptorIndex := 8, attributes := #[] }, { accessFlags := 9, nameIndex := 383, descriptorIndex := 84, attributes := #[] }, { accessFlags := 9, nameIndex := 198, descriptorIndex := 335, attributes := #[] }] 49 4 #[] #[{ accessFlags := 25, nameIndex := 354, descriptorIndex := 339, attributes := #[] }, { accessFlags := 25, nameIndex := 358, descriptorIndex := 339, attributes := #[] }, { accessFlags := 25, nameIndex := 361, descriptorIndex := 339, attributes := #[] }, { accessFlags := 26, nameIndex := 364, descriptorIndex := 339, attributes := #[] }, { accessFlags := 26, nameIndex := 365, descriptorIndex := 339, attributes := #[] }, { accessFlags := 26, nameIndex := 172, descriptorIndex := 173, attributes := #[] }, { accessFlags := 26, nameIndex := 176, descriptorIndex := 173, attributes := #[] }, { accessFlags := 8, nameIndex := 344, descriptorIndex := 339, attributes := #[] }, { accessFlags := 8, nameIndex := 338, descriptorIndex := 339, attributes := #[] }, { accessFlags := 4120, nameIndex := 245, descriptorIndex := 246, attributes := #[] }])
  fields := #[{ name := "E", type := .double, accessFlags := 25, slot := 0, constantValue := 0 }, { name := "PI", type := .double, accessFlags := 25, slot := 1, constantValue := 0 }, { name := "TAU", type := .double, accessFlags := 25, slot := 2, constantValue := 0 }, { name := "DEGREES_TO_RADIANS", type := .double, accessFlags := 26, slot := 3, constantValue := 0 }, { name := "RADIANS_TO_DEGREES", type := .double, accessFlags := 26, slot := 4, constantValue := 0 }, { name := "negativeZeroFloatBits", type := .long, accessFlags := 26, slot := 5, constantValue := 0 }, { name := "negativeZeroDoubleBits", type := .long, accessFlags := 26, slot := 6, constantValue := 0 }, { name := "twoToTheDoubleScaleUp", type := .double, accessFlags := 8, slot := 7, constantValue := 0 }, { name := "twoToTheDoubleScaleDown", type := .double, accessFlags := 8, slot := 8, constantValue := 0 }, { name := "$assertionsDisabled", type := .boolean, accessFlags := 4120, slot := 9, constantValue := 0 }]
  methods := #[k2m0, k2m1, k2m2]
  instanceTypes := #[]
  staticTypes := #[.double, .double, .double, .double, .double, .long, .long, .double, .double, .boolean]
  resolved := Array.replicate 460 none
  statics := none }

def pool3 : Array CpInfo := pool [(2, .class_ 4), (1, u "java/lang/Object"), (12, .class_ 19), (1, u "com/example/dyadloom/dyadloom/core/RandomMatrix"), (0, u "rows"), (0, u "I"), (2, u "columns"), (2, u "entries"), (0, u "J"), (2, u "seed"), (3, .methodref 36 37), (0, .class_ 38), (0, .nameAndType 39 40), (0, u "java/lang/Math"), (0, u "round"), (0, u "(D)J"), (140, u "ENTRIES_PER_FILE"), (1, u "VALUES"), (1, u "MAX_LINE_BYTES"), (1, u "BUFFER_BYTES"), (4, u "(IID)J")] 46

def k3c0 : Code := { maxStack := 4, maxLocals := 4, code := prog_19_method_2_code, exceptionTable := #[], attributes := #[] }
def k3m0 : Method := { name := "entries", desc := "(IID)J", sig := { parameters := [.int, .int, .double], returnType := some .long }, accessFlags := 9, code := some k3c0 }
/-- com/example/dyadloom/dyadloom/core/RandomMatrix -/
def k3 : Class := { plain "com/example/dyadloom/dyadloom/core/RandomMatrix" (some 0) with
  accessFlags := 49
  interfaces := #[]
  cf := some (fileOf pool3 17 #[] #[{ accessFlags := 9, nameIndex := 27, descriptorIndex := 192, attributes := #[] }] 49 2 #[] #[{ accessFlags := 25, nameIndex := 181, descriptorIndex := 21, attributes := #[] }, { accessFlags := 26, nameIndex := 183, descriptorIndex := 21, attributes := #[] }, { accessFlags := 26, nameIndex := 185, descriptorIndex := 21, attributes := #[] }, { accessFlags := 26, nameIndex := 187, descriptorIndex := 21, attributes := #[] }, { accessFlags := 18, nameIndex := 20, descriptorIndex := 21, attributes := #[] }, { accessFlags := 18, nameIndex := 24, descriptorIndex := 21, attributes := #[] }, { accessFlags := 18, nameIndex := 27, descriptorIndex := 28, attributes := #[] }, { accessFlags := 18, nameIndex := 31, descriptorIndex := 28, attributes := #[] }])
  fields := #[{ name := "ENTRIES_PER_FILE", type := .int, accessFlags := 25, slot := 0, constantValue := 0 }, { name := "VALUES", type := .int, accessFlags := 26, slot := 1, constantValue := 0 }, { name := "MAX_LINE_BYTES", type := .int, accessFlags := 26, slot := 2, constantValue := 0 }, { name := "BUFFER_BYTES", type := .int, accessFlags := 26, slot := 3, constantValue := 0 }, { name := "rows", type := .int, accessFlags := 18, slot := 0, constantValue := 0 }, { name := "columns", type := .int, accessFlags := 18, slot := 1, constantValue := 0 }, { name := "entries", type := .long, accessFlags := 18, slot := 2, constantValue := 0 }, { name := "seed", type := .long, accessFlags := 18, slot := 3, constantValue := 0 }]
  methods := #[k3m0]
  instanceTypes := #[.int, .int, .long, .long]
  staticTypes := #[.int, .int, .int, .int]
  resolved := Array.replicate 239 none
  statics := none }

def pool4 : Array CpInfo := pool [(1, .class_ 2), (0, u "java/io/Serializable"), (0, .class_ 4), (0, u "java/lang/Object")] 2

/-- java/io/Serializable -/
def k4 : Class := { plain "java/io/Serializable" (some 0) with
  accessFlags := 1537
  interfaces := #[]
  cf := some (fileOf pool4 1 #[] #[] 1537 3 #[] #[])
  fields := #[]
  methods := #[]
  instanceTypes := #[]
  staticTypes := #[]
  resolved := Array.replicate 7 none
  statics := none }

def pool5 : Array CpInfo := pool [(2, .class_ 4), (1, u "java/lang/Object"), (0, u "<init>"), (0, u "()V"), (1, .class_ 10), (1, u "java/lang/Number"), (2, .class_ 14), (0, u "java/io/Serializable"), (0, u "serialVersionUID"), (0, u "J")] 20

def k5m0 : Method := { name := "<init>", desc := "()V", sig := { parameters := [], returnType := none }, accessFlags := 1, code := none }
/-- java/lang/Number -/
def k5 : Class := { plain "java/lang/Number" (some 0) with
  accessFlags := 1057
  interfaces := #[4]
  cf := some (fileOf pool5 8 #[] #[{ accessFlags := 1, nameIndex := 5, descriptorIndex := 6, attributes := #[] }] 1057 2 #[13] #[{ accessFlags := 26, nameIndex := 15, descriptorIndex := 16, attributes := #[] }])
  fields := #[{ name := "serialVersionUID", type := .long, accessFlags := 26, slot := 0, constantValue := 0 }]
  methods := #[k5m0]
  instanceTypes := #[]
  staticTypes := #[.long]
  resolved := Array.replicate 37 none
  statics := none }

def pool6 : Array CpInfo := pool [(1, .class_ 2), (0, u "java/lang/Comparable"), (0, .class_ 4), (0, u "java/lang/Object")] 7

/-- java/lang/Comparable -/
def k6 : Class := { plain "java/lang/Comparable" (some 0) with
  accessFlags := 1537
  interfaces := #[]
  cf := some (fileOf pool6 1 #[] #[] 1537 3 #[] #[])
  fields := #[]
  methods := #[]
  instanceTypes := #[]
  staticTypes := #[]
  resolved := Array.replicate 12 none
  statics := none }

def pool7 : Array CpInfo := pool [(1, .class_ 2), (0, u "java/lang/constant/Constable"), (0, .class_ 4), (0, u "java/lang/Object")] 6

/-- java/lang/constant/Constable -/
def k7 : Class := { plain "java/lang/constant/Constable" (some 0) with
  accessFlags := 1537
  interfaces := #[]
  cf := some (fileOf pool7 1 #[] #[] 1537 3 #[] #[])
  fields := #[]
  methods := #[]
  instanceTypes := #[]
  staticTypes := #[]
  resolved := Array.replicate 11 none
  statics := none }

def pool8 : Array CpInfo := pool [(1, .class_ 2), (0, u "java/lang/constant/ConstantDesc"), (0, .class_ 4), (0, u "java/lang/Object")] 32

/-- java/lang/constant/ConstantDesc -/
def k8 : Class := { plain "java/lang/constant/ConstantDesc" (some 0) with
  accessFlags := 1537
  interfaces := #[]
  cf := some (fileOf pool8 1 #[] #[] 1537 3 #[] #[])
  fields := #[]
  methods := #[]
  instanceTypes := #[]
  staticTypes := #[]
  resolved := Array.replicate 37 none
  statics := none }

def pool9 : Array CpInfo := pool [(1, .class_ 2), (0, u "java/lang/Double"), (46, u "(D)J"), (64, .class_ 116), (1, u "java/lang/Number"), (3, u "value"), (0, u "D"), (14, u "doubleToRawLongBits"), (36, u "TYPE"), (0, u "Ljava/lang/Class;"), (0, .class_ 176), (0, u "java/lang/Comparable"), (0, .class_ 178), (0, u "java/lang/constant/Constable"), (0, .class_ 180), (0, u "java/lang/constant/ConstantDesc"), (0, u "POSITIVE_INFINITY"), (3, u "NEGATIVE_INFINITY"), (2, u "NaN"), (2, u "MAX_VALUE"), (0, u "MIN_NORMAL"), (0, u "MIN_VALUE"), (2, u "SIZE"), (0, u "I"), (1, u "PRECISION"), (1, u "MAX_EXPONENT"), (1, u "MIN_EXPONENT"), (1, u "BYTES"), (3, u "serialVersionUID"), (0, u "J")] 79

def k9m0 : Method := { name := "doubleToRawLongBits", desc := "(D)J", sig := { parameters := [.double], returnType := some .long }, accessFlags := 265, code := none }
/-- java/lang/Double -/
def k9 : Class := { plain "java/lang/Double" (some 5) with
  accessFlags := 49
  interfaces := #[6, 7, 8]
  cf := some (fileOf pool9 1 #[] #[{ accessFlags := 265, nameIndex := 136, descriptorIndex := 49, attributes := #[] }] 49 114 #[175, 177, 179] #[{ accessFlags := 25, nameIndex := 181, descriptorIndex := 121, attributes := #[] }, { accessFlags := 25, nameIndex := 185, descriptorIndex := 121, attributes := #[] }, { accessFlags := 25, nameIndex := 188, descriptorIndex := 121, attributes := #[] }, { accessFlags := 25, nameIndex := 191, descriptorIndex := 121, attributes := #[] }, { accessFlags := 25, nameIndex := 192, descriptorIndex := 121, attributes := #[] }, { accessFlags := 25, nameIndex := 193, descriptorIndex := 121, attributes := #[] }, { accessFlags := 25, nameIndex := 196, descriptorIndex := 197, attributes := #[] }, { accessFlags := 25, nameIndex := 199, descriptorIndex := 197, attributes := #[] }, { accessFlags := 25, nameIndex := 201, descriptorIndex := 197, attributes := #[] }, { accessFlags := 25, nameIndex := 203, descriptorIndex := 197, attributes := #[] }, { accessFlags := 25, nameIndex := 205, descriptorIndex := 197, attributes := #[] }, { accessFlags := 25, nameIndex := 173, descriptorIndex := 174, attributes := #[] }, { accessFlags := 18, nameIndex := 120, descriptorIndex := 121, attributes := #[] }, { accessFlags := 26, nameIndex := 209, descriptorIndex := 210, attributes := #[] }])
  fields := #[{ name := "POSITIVE_INFINITY", type := .double, accessFlags := 25, slot := 0, constantValue := 0 }, { name := "NEGATIVE_INFINITY", type := .double, accessFlags := 25, slot := 1, constantValue := 0 }, { name := "NaN", type := .double, accessFlags := 25, slot := 2, constantValue := 0 }, { name := "MAX_VALUE", type := .double, accessFlags := 25, slot := 3, constantValue := 0 }, { name := "MIN_NORMAL", type := .double, accessFlags := 25, slot := 4, constantValue := 0 }, { name := "MIN_VALUE", type := .double, accessFlags := 25, slot := 5, constantValue := 0 }, { name := "SIZE", type := .int, accessFlags := 25, slot := 6, constantValue := 0 }, { name := "PRECISION", type := .int, accessFlags := 25, slot := 7, constantValue := 0 }, { name := "MAX_EXPONENT", type := .int, accessFlags := 25, slot := 8, constantValue := 0 }, { name := "MIN_EXPONENT", type := .int, accessFlags := 25, slot := 9, constantValue := 0 }, { name := "BYTES", type := .int, accessFlags := 25, slot := 10, constantValue := 0 }, { name := "TYPE", type := (.object "java/lang/Class"), accessFlags := 25, slot := 11, constantValue := 0 }, { name := "value", type := .double, accessFlags := 18, slot := 0, constantValue := 0 }, { name := "serialVersionUID", type := .long, accessFlags := 26, slot := 12, constantValue := 0 }]
  methods := #[k9m0]
  instanceTypes := #[.double]
  staticTypes := #[.double, .double, .double, .double, .double, .double, .int, .int, .int, .int, .int, (.object "java/lang/Class"), .long]
  resolved := Array.replicate 290 none
  statics := none }

def pool10 : Array CpInfo := pool [(1, u "java/lang/Cloneable"), (0, .class_ 1), (0, u "java/lang/Object"), (0, .class_ 3)] 3

/-- java/lang/Cloneable -/
def k10 : Class := { plain "java/lang/Cloneable" (some 0) with
  accessFlags := 1537
  interfaces := #[]
  cf := some (fileOf pool10 2 #[] #[] 1537 4 #[] #[])
  fields := #[]
  methods := #[]
  instanceTypes := #[]
  staticTypes := #[]
  resolved := Array.replicate 8 none
  statics := none }

/-- the primitive byte -/
def k11 : Class := { plain "byte" none with kind := .primitive 'B', accessFlags := 0x411 }
/-- [B -/
def k12 : Class := { plain "[B" (some 0) with kind := .array 11 .byte, interfaces := #[10, 4], accessFlags := 1041 }

/-- the primitive int -/
def k13 : Class := { plain "int" none with kind := .primitive 'I', accessFlags := 0x411 }
/-- [I -/
def k14 : Class := { plain "[I" (some 0) with kind := .array 13 .int, interfaces := #[10, 4], accessFlags := 1041 }

def heap : Heap := #[]
def classes : Array Class := #[k0, k1, k2, k3, k4, k5, k6, k7, k8, k9, k10, k11, k12, k13, k14]
def interned : List (Array UInt16 × Addr) := []
def slotsUsed : Nat := 0
def theMethod : MethodId := ⟨1, 1⟩
def args0 : Array Value := #[.int 1, .int 2, .int 3, .int 4]
def aboutOver (below : List Frame) : State where
  vm := { classes := classes, interned := interned.toArray }
  heap := heap
  slotsUsed := slotsUsed
  threads := #[{ frames := .invoking theMethod args0 :: below }]
def below0 : List Frame := [.native { method := ⟨0, 0⟩, args := #[] }]
def about1 : State := aboutOver below0
def p0 : Program := .bare "" "" ""
def e0 : Env := launch0.env 0 0 0
theorem w_frames : about1.frames = Frame.invoking theMethod args0 :: below0 := rfl
set_option maxRecDepth 65536 in
theorem w_args : argsFit about1.vm theMethod args0 = true := by decide +kernel
set_option maxRecDepth 65536 in
theorem w_heap : heapFits about1 = true := by decide +kernel
set_option maxRecDepth 65536 in
theorem w_runnable : about1.curStatus? = some .runnable := by decide +kernel
set_option maxRecDepth 65536 in
theorem w_alone : about1.alone = true := by decide +kernel
set_option maxRecDepth 65536 in
theorem w_named : about1.methodNamed? x = some theMethod := by decide +kernel
set_option maxRecDepth 65536 in
theorem w_hears : about1.hears theMethod below0 = true := by decide +kernel
set_option maxRecDepth 65536 in
theorem w_ripe : about1.ripe theMethod args0 below0 = true := by decide +kernel
theorem w_running : about1.status = .running := rfl
set_option maxRecDepth 65536 in
theorem w_room : about1.hasRoom e0.platform room_1 = true :=
  launch0.hasRoom_least _ room_1 (by decide +kernel) (by decide +kernel) (by decide +kernel) (by decide +kernel) (by decide +kernel) (by decide +kernel)
theorem allAtoms_all (ts : List Jvm.Cond) (a : Array Jvm.Value) (st : Jvm.State) : (allAtoms ts).before a st = ts.all (fun c => c.before a st) := by
  induction ts with
  | nil => rfl
  | cons c t ih =>
    show (Jvm.Cond.and c (allAtoms t)).before a st = _
    rw [Jvm.Cond.before_and, ih, List.all_cons]
def words1 : List Jvm.Cond := Jvm.Cond.code x code maxLocals ret :: tables_1
/-- a 'code' word, met by the world's own term for the bytes: nothing is compared byte by byte -/
theorem code_word {y : MethodName} {bytes : ByteArray} {mx : Nat} {rt : Option FieldType} {a : Array Value} {s : State} {m : MethodId} {meth : Method} {c : Code} (h1 : s.methodNamed? y = some m) (h2 : s.vm.method? m = some meth) (h3 : meth.code = some c) (h4 : c.code = bytes)
    (h5 : (c.maxLocals == mx && c.exceptionTable.isEmpty && decide (c.maxStack ≤ mostOperands) && decide (meth.sig.returnType = rt) && !meth.locks && decide (parseMethodDescriptor y.desc = some meth.sig)) = true) : (Jvm.Cond.code y bytes mx rt).before a s = true := by
  simp only [Bool.and_eq_true, beq_iff_eq, Bool.not_eq_true', decide_eq_true_eq] at h5
  obtain ⟨⟨⟨⟨⟨g1, g2⟩, g3⟩, g4⟩, g5⟩, g6⟩ := h5
  simp [Cond.before, Cond.holds, Cond.value, h1, h2, h3, h4, g1, g2, g3, g4, g5, g6]
def isCode : Jvm.Cond → Bool
  | .code _ _ _ _ => true
  | _ => false
theorem all_split {L : List Jvm.Cond} {P : Jvm.Cond → Bool} (h1 : L.all (fun c => isCode c || P c) = true) (h2 : ∀ c ∈ L.filter isCode, P c = true) : L.all P = true := by
  refine List.all_eq_true.mpr fun c hc => ?_
  have h := List.all_eq_true.mp h1 c hc
  rcases Bool.eq_false_or_eq_true (isCode c) with hi | hi
  · exact h2 c (List.mem_filter.mpr ⟨hc, hi⟩)
  · simpa [hi] using h
set_option maxRecDepth 65536 in
theorem w_c0 : (Jvm.Cond.code x code maxLocals ret).before args0 about1 = true := code_word (m := ⟨1, 1⟩) (meth := k1m1) (c := k1c1) (by decide +kernel) rfl rfl rfl (by decide +kernel)
set_option maxRecDepth 65536 in
theorem w_c1 : (Jvm.Cond.code ({ cls := "java/lang/Math", name := "max", desc := "(II)I" } : Jvm.MethodName) jdk_29_method_65_code (2 : Nat) (Option.some Jvm.ClassFile.FieldType.int)).before args0 about1 = true := code_word (m := ⟨2, 2⟩) (meth := k2m2) (c := k2c2) (by decide +kernel) rfl rfl rfl (by decide +kernel)
set_option maxRecDepth 65536 in
theorem w_c2 : (Jvm.Cond.code ({ cls := "com/example/dyadloom/dyadloom/core/RandomMatrix", name := "entries", desc := "(IID)J" } : Jvm.MethodName) prog_19_method_2_code (4 : Nat) (Option.some Jvm.ClassFile.FieldType.long)).before args0 about1 = true := code_word (m := ⟨3, 0⟩) (meth := k3m0) (c := k3c0) (by decide +kernel) rfl rfl rfl (by decide +kernel)
set_option maxRecDepth 65536 in
theorem w_c3 : (Jvm.Cond.code ({ cls := "java/lang/Math", name := "round", desc := "(D)J" } : Jvm.MethodName) jdk_29_method_22_code (10 : Nat) (Option.some Jvm.ClassFile.FieldType.long)).before args0 about1 = true := code_word (m := ⟨2, 1⟩) (meth := k2m1) (c := k2c1) (by decide +kernel) rfl rfl rfl (by decide +kernel)
def codes1 : List Jvm.Cond := [Jvm.Cond.code x code maxLocals ret, Jvm.Cond.code ({ cls := "java/lang/Math", name := "max", desc := "(II)I" } : Jvm.MethodName) jdk_29_method_65_code (2 : Nat) (Option.some Jvm.ClassFile.FieldType.int), Jvm.Cond.code ({ cls := "com/example/dyadloom/dyadloom/core/RandomMatrix", name := "entries", desc := "(IID)J" } : Jvm.MethodName) prog_19_method_2_code (4 : Nat) (Option.some Jvm.ClassFile.FieldType.long), Jvm.Cond.code ({ cls := "java/lang/Math", name := "round", desc := "(D)J" } : Jvm.MethodName) jdk_29_method_22_code (10 : Nat) (Option.some Jvm.ClassFile.FieldType.long)]
set_option maxRecDepth 65536 in
theorem codes_eq : words1.filter isCode = codes1 := rfl
theorem w_codes : ∀ c ∈ words1.filter isCode, c.before args0 about1 = true := by
  rw [codes_eq]
  intro c hc
  simp only [codes1, List.mem_cons, List.not_mem_nil, or_false] at hc
  rcases hc with rfl | rfl | rfl | rfl
  · exact w_c0
  · exact w_c1
  · exact w_c2
  · exact w_c3
set_option maxRecDepth 65536 in
theorem w_t1 : (words1.take 24).all (fun c => isCode c || c.before args0 about1) = true := by decide +kernel
set_option maxRecDepth 65536 in
theorem w_t2 : (words1.drop 24).all (fun c => isCode c || c.before args0 about1) = true := by decide +kernel
theorem w_tables : (allAtoms (Jvm.Cond.code x code maxLocals ret :: tables_1)).before args0 about1 = true := by
  rw [allAtoms_all]
  show words1.all (fun c => c.before args0 about1) = true
  refine all_split ?_ w_codes
  rw [← List.take_append_drop 24 words1, List.all_append, w_t1, w_t2]
  rfl
set_option maxRecDepth 65536 in
theorem w_case : (Jvm.Cond.and given_1 narrow_1).before args0 about1 = true := by decide +kernel
theorem w_applies : (headSpec (Jvm.Cond.code x code maxLocals ret :: tables_1) room_1).applies x e0.platform about1 = true :=
  (Spec.applies_iff w_frames).mpr ⟨w_running, w_runnable, w_alone, w_named, w_hears, w_ripe, w_room, w_tables⟩
theorem atStart : AtStart classFile x code maxLocals ret World_1 tables_1 room_1 Calls_1 rest_1 Pre_1 launch0 p0 e0 about1 theMethod args0 below0 :=
  ⟨lists_1, trivial, launch0.admits_env _ _ _, launch0.least_env, fairChoices_fair.cas, fairChoices_fair.clock, w_frames, w_args, w_heap, w_applies, trivial, trivial, w_case⟩
end start1
theorem witness_1 : WitnessClaimed_1 := ⟨start1.p0, start1.e0, start1.about1, start1.theMethod, start1.args0, start1.below0, start1.atStart⟩
end Jvm.Pilot.@@N@@
