import JvmDerived
import JvmDerived.Pilot.@@N@@Statement
import JvmDerived.Pilot.@@N@@Code
set_option linter.unusedVariables false
set_option linter.unusedSimpArgs false
namespace Jvm.Pilot.@@N@@
open Jvm Jvm.ClassFile Sem Op Lib Jvm.Free Jvm.Stand Jvm.LawKit Jvm.RoadKit Bundle Jvm.Pilot.@@N@@.Jvm.D
theorem own_cast {tb : Tables} {e : Env} {below : List Frame} {T : State} {g g' : JFrame} {t : State} (q : g = g') (k : Steps tb e below (T.setTop g') t) : Steps tb e below (T.setTop g) t := q ▸ k
section Own
variable {p : Program} {l : Launch} {e : Env} {R : Room} {s : State} {m : MethodId} {args : Array Value} {below : List Frame} {meth : Method} {c : Code} {T T' : State} {locs : List Loc} {cells slots : Nat} {g g' : JFrame} {K : Outcome → State → Prop} {h : Heap}
/-- the run from T with g on top comes to an end at which K holds -/
def own_Go (p : Program) (e : Env) (below : List Frame) (K : Outcome → State → Prop) (T : State) (g : JFrame) : Prop := ∃ t o, Steps p.tables e below (T.setTop g) t ∧ t.status = .running ∧ Ended t below o ∧ K o t
def own_K (s : State) (Q : Option Value → Heap → List Loc → Prop) (kc ks : Nat) : Outcome → State → Prop := fun o t => ∃ v L, o = .returned v ∧ Q v t.heap L ∧ FrameEnd s o t L kc ks
theorem own_st (k : ∀ t, Steps p.tables e below (T'.setTop g') t → Steps p.tables e below (T.setTop g) t) (h : own_Go p e below K T' g') : own_Go p e below K T g := by
  obtain ⟨t, o, h1, h2⟩ := h; exact ⟨t, o, k t h1, h2⟩
theorem own_tr (k : Steps p.tables e below (T.setTop g) (T'.setTop g')) (h : own_Go p e below K T' g') : own_Go p e below K T g := by
  obtain ⟨t, o, h1, h2⟩ := h; exact ⟨t, o, k.trans h1, h2⟩
theorem own_in (q : g = g') (h : own_Go p e below K T g') : ∃ t o, Steps p.tables e below (T.setTop g) t ∧ t.status = .running ∧ Ended t below o ∧ K o t := by
  obtain ⟨t, o, h1, h2⟩ := h; exact ⟨t, o, own_cast q h1, h2⟩
variable {Q : Option Value → Heap → List Loc → Prop} {kc ks pc : Nat} {Ls : Array Slot} {rest : List Value} {x : MethodName} {S : Spec} {code : ByteArray} {maxLocals : Nat} {s₁ : State}
theorem own_end (X : Stand p l e R s m args below meth c T locs cells slots) {v : Option Value} (hv : meth.sig.returnType = none → v = none) (hlk : meth.locks = false) (eT : T.heap = h) (hQ : Q v h locs) (hc : cells ≤ kc) (hs : slots ≤ ks)
    (k : ∀ fs, (∀ (f : JFrame) (acts : List Action), f.method = m → f.locked = none → f.entered = [] → (doReturn e (T.setTop f) acts v).1 = T.setFrames fs) → Steps p.tables e below (T.setTop g) (T.setFrames fs)) : own_Go p e below (own_K s Q kc ks) T g := by
  obtain ⟨fs, hr, hrun, hended, hW, hsame⟩ := X.leave (v := v) hv hlk
  refine ⟨_, _, k fs hr, hrun, hended, v, locs, rfl, ?_, ⟨_, rfl⟩, hW, hsame.mono hc hs⟩
  show Q v T.heap locs
  rw [eT]; exact hQ
theorem own_retI (X : Stand p l e R s m args below meth c T locs cells slots) (hx : p.tables.exec = Jvm.exec) (Bd : BodyLoose p l x S code maxLocals (some .int) e s m args below meth c s₁) {z : Int32} (hd : decode c.code pc = .ok (.ireturn, 1)) (eT : T.heap = h) (hQ : Q (some (.int z)) h locs) (hc : cells ≤ kc) (hs : slots ≤ ks) :
    own_Go p e below (own_K s Q kc ks) T (mkF m pc Ls (.int z :: rest)) :=
  own_end X (fun h => by rw [Bd.returns] at h; cases h) Bd.notSynchronized eT hQ hc hs fun fs hr => retOut X hx Bd.returns rfl (Or.inl ⟨rfl, Or.inl rfl, z, rfl⟩) hd hr
theorem own_retJ (X : Stand p l e R s m args below meth c T locs cells slots) (hx : p.tables.exec = Jvm.exec) (Bd : BodyLoose p l x S code maxLocals (some .long) e s m args below meth c s₁) {z : Int64} (hd : decode c.code pc = .ok (.lreturn, 1)) (eT : T.heap = h) (hQ : Q (some (.long z)) h locs) (hc : cells ≤ kc) (hs : slots ≤ ks) :
    own_Go p e below (own_K s Q kc ks) T (mkF m pc Ls (.long z :: rest)) :=
  own_end X (fun h => by rw [Bd.returns] at h; cases h) Bd.notSynchronized eT hQ hc hs fun fs hr => retOut X hx Bd.returns rfl (Or.inr (Or.inl ⟨rfl, rfl, z, rfl⟩)) hd hr
theorem own_retN (X : Stand p l e R s m args below meth c T locs cells slots) (hx : p.tables.exec = Jvm.exec) {t : FieldType} (Bd : BodyLoose p l x S code maxLocals (some t) e s m args below meth c s₁) (ht : t = .boolean ∨ t = .byte ∨ t = .char ∨ t = .short) {z : Int32} (hn : narrow t (.int z) = .int z) (hd : decode c.code pc = .ok (.ireturn, 1)) (eT : T.heap = h) (hQ : Q (some (.int z)) h locs) (hc : cells ≤ kc) (hs : slots ≤ ks) :
    own_Go p e below (own_K s Q kc ks) T (mkF m pc Ls (.int z :: rest)) :=
  own_end X (fun h => by rw [Bd.returns] at h; cases h) Bd.notSynchronized eT hQ hc hs fun fs hr => retOut X hx Bd.returns hn (Or.inl ⟨rfl, Or.inr ht, z, rfl⟩) hd hr
theorem own_retA (X : Stand p l e R s m args below meth c T locs cells slots) (hx : p.tables.exec = Jvm.exec) {t : FieldType} (Bd : BodyLoose p l x S code maxLocals (some t) e s m args below meth c s₁) (ht : t.isReference = true) {w : Value} (hw : w.isRef = true) (hd : decode c.code pc = .ok (.areturn, 1)) (eT : T.heap = h) (hQ : Q (some w) h locs) (hc : cells ≤ kc) (hs : slots ≤ ks) :
    own_Go p e below (own_K s Q kc ks) T (mkF m pc Ls (w :: rest)) :=
  own_end X (fun h => by rw [Bd.returns] at h; cases h) Bd.notSynchronized eT hQ hc hs fun fs hr => retOut X hx Bd.returns (by cases t <;> first | (cases ht; done) | rfl) (Or.inr (Or.inr (Or.inr (Or.inr ⟨rfl, ht, hw⟩)))) hd hr
theorem own_retV (X : Stand p l e R s m args below meth c T locs cells slots) (hx : p.tables.exec = Jvm.exec) (Bd : BodyLoose p l x S code maxLocals none e s m args below meth c s₁) (hd : decode c.code pc = .ok (.return_, 1)) (eT : T.heap = h) (hQ : Q none h locs) (hc : cells ≤ kc) (hs : slots ≤ ks) :
    own_Go p e below (own_K s Q kc ks) T (mkF m pc Ls []) :=
  own_end X (fun _ => rfl) Bd.notSynchronized eT hQ hc hs fun fs hr => X.returnOut hx Bd.returns hd hr
end Own
theorem own_Sta_keep {Z : State} {h h' : Heap} {C n d : String} {v : Value} {ws : List Addr} (F : Sta Z h C n d v) (K : Keep h h' ws) (q : ∀ x ∈ ws, ∀ cell : Cell, h[x]? = some cell → cell.vm.isStatics = false) : Sta Z h' C n d v := by
  obtain ⟨cf, i, k, f, st, cell, h1, h2, h3, h4, h5, h6, h7⟩ := F
  exact ⟨cf, i, k, f, st, cell, h1, h2, h3, h4, K.2.1 _ _ h5 (fun hm => by rw [q _ hm _ h5] at h6; cases h6), h6, h7⟩
theorem own_Ins_keep {Z : State} {h h' : Heap} {a : Addr} {C : String} {b : Bool} {ws : List Addr} (F : Ins Z h a C b) (K : Keep h h' ws) : Ins Z h' a C b := by
  obtain ⟨cell, cT, h1, h2, h3⟩ := F
  obtain ⟨c', e1, e2, e3, -⟩ := K.2.2 _ _ h1
  exact ⟨c', cT, e1, h2, by rw [e2, e3]; exact h3⟩
theorem own_enum {Z : State} {args : Array Value} {C D n d : String} (h : (Cond.exactly (Term.static C n d) D).value args Z none Z [] = some true) (hi : (Cond.initializedFor C n d).before args Z = true ∨ ((Cond.initialized C).before args Z = true ∧ (Cond.laysStatic C n d).before args Z = true)) :
    ∃ a, (Term.static C n d).eval args Z none [] Z = some (.ref a) ∧ Sta Z Z.heap C n d (.ref a) ∧ Exa Z Z.heap a D := by
  obtain ⟨a, e⟩ := exa_v h
  exact ⟨a, e, Sta.start e hi, Exa.start e h⟩
theorem own_ord {Z : State} {args : Array Value} {t : Term} {a : Addr} {O n d : String} {k : Int32} (e : t.eval args Z none [] Z = some (.ref a)) (h : (Cond.eq (Term.field t O n d) (Term.int k)).value args Z none Z [] = some true) : Fld Z Z.heap a O n d (.int k) := by
  refine Fld.start ?_
  have q := fld_at (C := O) (n := n) (dd := d) (first := Z) (o := none) (idx := []) (args := args) e
  obtain ⟨x, y, h1, h2, -⟩ := cmp_v (Or.inl h)
  rw [q] at h1
  have h2' : some (Value.int k) = some y := h2
  cases h2'
  cases x <;> simp [Cond.value, Term.eval, e, h1] at h
  rw [h1, h]
theorem own_bb (x : Int32) : x.toInt8.toInt32.toInt8.toInt32 = x.toInt8.toInt32 := by simp
theorem own_cc (x : Int32) : x.toUInt32.toUInt16.toUInt32.toInt32.toUInt32.toUInt16.toUInt32.toInt32 = x.toUInt32.toUInt16.toUInt32.toInt32 := by simp only [UInt32.toUInt32_toInt32, UInt16.toUInt16_toUInt32]
theorem own_nar_ref {t : FieldType} {v : Value} (h : v.isRef = true) (ht : t.isReference = true) : narrow t v = v := by cases t <;> first | (cases ht; done) | rfl
theorem own_fits_ref {t : FieldType} {v : Value} (h : v.isRef = true) (ht : t.isReference = true) : fits t v = true := by rcases ref_cases h with rfl | ⟨a, rfl⟩ <;> cases t <;> first | (cases ht; done) | rfl
theorem own_nar_b {z : Int32} (h : z = 0 ∨ z = 1) : narrow .boolean (.int z) = .int z := by rcases h with rfl | rfl <;> rfl
theorem own_fits_b {z : Int32} (h : z = 0 ∨ z = 1) : fits .boolean (.int z) = true := by rcases h with rfl | rfl <;> rfl
theorem own_d22_0 : decode jdk_41_method_11_code 0 = .ok (.iload_n 0, 1) := by decide +kernel
theorem own_d22_1 : decode jdk_41_method_11_code 1 = .ok (.ifCond .lt 8, 3) := by decide +kernel
theorem own_d22_4 : decode jdk_41_method_11_code 4 = .ok (.iload_n 0, 1) := by decide +kernel
theorem own_d22_5 : decode jdk_41_method_11_code 5 = .ok (.iload_n 1, 1) := by decide +kernel
theorem own_d22_6 : decode jdk_41_method_11_code 6 = .ok (.if_icmp .lt 10, 3) := by decide +kernel
theorem own_d22_16 : decode jdk_41_method_11_code 16 = .ok (.iload_n 0, 1) := by decide +kernel
theorem own_d22_17 : decode jdk_41_method_11_code 17 = .ok (.ireturn, 1) := by decide +kernel
theorem own_pn0 : plainName "jdk/internal/util/Preconditions" = true := by first | (simp [plainName, overriddenIn]; done) | decide +kernel
theorem own_d21_0 : decode jdk_42_method_155_code 0 = .ok (.iload_n 0, 1) := by decide +kernel
theorem own_d21_1 : decode jdk_42_method_155_code 1 = .ok (.iload_n 1, 1) := by decide +kernel
theorem own_d21_2 : decode jdk_42_method_155_code 2 = .ok (.getstatic 1053, 3) := by decide +kernel
theorem own_d21_5 : decode jdk_42_method_155_code 5 = .ok (.invokestatic 1059, 3) := by decide +kernel
theorem own_pd0 : parseMethodDescriptor "(IILjava/util/function/BiFunction;)I" = some ⟨[.int, .int, (.object "java/util/function/BiFunction")], some .int⟩ := by decide +kernel
theorem own_d21_8 : decode jdk_42_method_155_code 8 = .ok (.pop, 1) := by decide +kernel
theorem own_d21_9 : decode jdk_42_method_155_code 9 = .ok (.return_, 1) := by decide +kernel
theorem own_pn1 : plainName "java/lang/String" = true := by first | (simp [plainName, overriddenIn]; done) | decide +kernel
theorem own_d7_0 : decode jdk_31_method_10_code 0 = .ok (.aload_n 0, 1) := by decide +kernel
theorem own_d7_1 : decode jdk_31_method_10_code 1 = .ok (.ifnonnull 11, 3) := by decide +kernel
theorem own_d7_12 : decode jdk_31_method_10_code 12 = .ok (.aload_n 0, 1) := by decide +kernel
theorem own_d7_13 : decode jdk_31_method_10_code 13 = .ok (.areturn, 1) := by decide +kernel
theorem own_pn2 : plainName "java/util/Objects" = true := by first | (simp [plainName, overriddenIn]; done) | decide +kernel
theorem own_d9_0 : decode jdk_41_method_13_code 0 = .ok (.iload_n 2, 1) := by decide +kernel
theorem own_d9_1 : decode jdk_41_method_13_code 1 = .ok (.iload_n 0, 1) := by decide +kernel
theorem own_d9_2 : decode jdk_41_method_13_code 2 = .ok (.ior, 1) := by decide +kernel
theorem own_d9_3 : decode jdk_41_method_13_code 3 = .ok (.iload_n 1, 1) := by decide +kernel
theorem own_d9_4 : decode jdk_41_method_13_code 4 = .ok (.ior, 1) := by decide +kernel
theorem own_d9_5 : decode jdk_41_method_13_code 5 = .ok (.ifCond .lt 10, 3) := by decide +kernel
theorem own_d9_8 : decode jdk_41_method_13_code 8 = .ok (.iload_n 1, 1) := by decide +kernel
theorem own_d9_9 : decode jdk_41_method_13_code 9 = .ok (.iload_n 2, 1) := by decide +kernel
theorem own_d9_10 : decode jdk_41_method_13_code 10 = .ok (.iload_n 0, 1) := by decide +kernel
theorem own_d9_11 : decode jdk_41_method_13_code 11 = .ok (.isub, 1) := by decide +kernel
theorem own_d9_12 : decode jdk_41_method_13_code 12 = .ok (.if_icmp .le 11, 3) := by decide +kernel
theorem own_d9_23 : decode jdk_41_method_13_code 23 = .ok (.iload_n 0, 1) := by decide +kernel
theorem own_d9_24 : decode jdk_41_method_13_code 24 = .ok (.ireturn, 1) := by decide +kernel
theorem own_d8_0 : decode jdk_42_method_157_code 0 = .ok (.iload_n 0, 1) := by decide +kernel
theorem own_d8_1 : decode jdk_42_method_157_code 1 = .ok (.iload_n 1, 1) := by decide +kernel
theorem own_d8_2 : decode jdk_42_method_157_code 2 = .ok (.iload_n 2, 1) := by decide +kernel
theorem own_d8_3 : decode jdk_42_method_157_code 3 = .ok (.getstatic 1053, 3) := by decide +kernel
theorem own_d8_6 : decode jdk_42_method_157_code 6 = .ok (.invokestatic 1065, 3) := by decide +kernel
theorem own_pd1 : parseMethodDescriptor "(IIILjava/util/function/BiFunction;)I" = some ⟨[.int, .int, .int, (.object "java/util/function/BiFunction")], some .int⟩ := by decide +kernel
theorem own_d8_9 : decode jdk_42_method_157_code 9 = .ok (.ireturn, 1) := by decide +kernel
theorem own_d4_0 : decode jdk_29_method_69_code 0 = .ok (.iload_n 0, 1) := by decide +kernel
theorem own_d4_1 : decode jdk_29_method_69_code 1 = .ok (.iload_n 1, 1) := by decide +kernel
theorem own_d4_2 : decode jdk_29_method_69_code 2 = .ok (.if_icmp .gt 7, 3) := by decide +kernel
theorem own_d4_9 : decode jdk_29_method_69_code 9 = .ok (.iload_n 1, 1) := by decide +kernel
theorem own_d4_10 : decode jdk_29_method_69_code 10 = .ok (.ireturn, 1) := by decide +kernel
theorem own_d4_5 : decode jdk_29_method_69_code 5 = .ok (.iload_n 0, 1) := by decide +kernel
theorem own_d4_6 : decode jdk_29_method_69_code 6 = .ok (.goto 4, 3) := by decide +kernel
theorem own_d11_0 : decode jdk_123_method_3_code 0 = .ok (.iload_n 1, 1) := by decide +kernel
theorem own_d11_1 : decode jdk_123_method_3_code 1 = .ok (.iload_n 2, 1) := by decide +kernel
theorem own_d11_2 : decode jdk_123_method_3_code 2 = .ok (.iadd, 1) := by decide +kernel
theorem own_d11_3 : decode jdk_123_method_3_code 3 = .ok (.istore_n 3, 1) := by decide +kernel
theorem own_d11_4 : decode jdk_123_method_3_code 4 = .ok (.iload_n 1, 1) := by decide +kernel
theorem own_d11_5 : decode jdk_123_method_3_code 5 = .ok (.istore 4, 2) := by decide +kernel
theorem own_d11_7 : decode jdk_123_method_3_code 7 = .ok (.iload 4, 2) := by decide +kernel
theorem own_d11_9 : decode jdk_123_method_3_code 9 = .ok (.iload_n 3, 1) := by decide +kernel
theorem own_d11_10 : decode jdk_123_method_3_code 10 = .ok (.if_icmp .ge 21, 3) := by decide +kernel
theorem own_d11_13 : decode jdk_123_method_3_code 13 = .ok (.aload_n 0, 1) := by decide +kernel
theorem own_d11_14 : decode jdk_123_method_3_code 14 = .ok (.iload 4, 2) := by decide +kernel
theorem own_d11_16 : decode jdk_123_method_3_code 16 = .ok (.baload, 1) := by decide +kernel
theorem own_d11_17 : decode jdk_123_method_3_code 17 = .ok (.ifCond .ge 8, 3) := by decide +kernel
theorem own_d11_25 : decode jdk_123_method_3_code 25 = .ok (.iinc 4 1, 3) := by decide +kernel
theorem own_d11_28 : decode jdk_123_method_3_code 28 = .ok (.goto (-21), 3) := by decide +kernel
theorem own_d11_31 : decode jdk_123_method_3_code 31 = .ok (.iload_n 2, 1) := by decide +kernel
theorem own_d11_32 : decode jdk_123_method_3_code 32 = .ok (.ireturn, 1) := by decide +kernel
theorem own_pn3 : plainName "java/lang/StringCoding" = true := by first | (simp [plainName, overriddenIn]; done) | decide +kernel
theorem own_d11_20 : decode jdk_123_method_3_code 20 = .ok (.iload 4, 2) := by decide +kernel
theorem own_d11_22 : decode jdk_123_method_3_code 22 = .ok (.iload_n 1, 1) := by decide +kernel
theorem own_d11_23 : decode jdk_123_method_3_code 23 = .ok (.isub, 1) := by decide +kernel
theorem own_d11_24 : decode jdk_123_method_3_code 24 = .ok (.ireturn, 1) := by decide +kernel
theorem own_d14_0 : decode jdk_65_method_131_code 0 = .ok (.iload_n 1, 1) := by decide +kernel
theorem own_d14_1 : decode jdk_65_method_131_code 1 = .ok (.iload_n 0, 1) := by decide +kernel
theorem own_d14_2 : decode jdk_65_method_131_code 2 = .ok (.if_icmp .ge 35, 3) := by decide +kernel
theorem own_d14_37 : decode jdk_65_method_131_code 37 = .ok (.return_, 1) := by decide +kernel
theorem own_pn4 : plainName "java/util/Arrays" = true := by first | (simp [plainName, overriddenIn]; done) | decide +kernel
theorem own_d13_0 : decode jdk_65_method_133_code 0 = .ok (.iload_n 1, 1) := by decide +kernel
theorem own_d13_1 : decode jdk_65_method_133_code 1 = .ok (.iload_n 2, 1) := by decide +kernel
theorem own_d13_2 : decode jdk_65_method_133_code 2 = .ok (.invokestatic 343, 3) := by decide +kernel
theorem own_pd2 : parseMethodDescriptor "(II)V" = some ⟨[.int, .int], none⟩ := by decide +kernel
theorem own_d13_5 : decode jdk_65_method_133_code 5 = .ok (.iload_n 2, 1) := by decide +kernel
theorem own_d13_6 : decode jdk_65_method_133_code 6 = .ok (.iload_n 1, 1) := by decide +kernel
theorem own_d13_7 : decode jdk_65_method_133_code 7 = .ok (.isub, 1) := by decide +kernel
theorem own_d13_8 : decode jdk_65_method_133_code 8 = .ok (.istore_n 3, 1) := by decide +kernel
theorem own_d13_9 : decode jdk_65_method_133_code 9 = .ok (.iload_n 3, 1) := by decide +kernel
theorem own_d13_10 : decode jdk_65_method_133_code 10 = .ok (.newarray .byte, 2) := by decide +kernel
theorem own_d13_12 : decode jdk_65_method_133_code 12 = .ok (.astore 4, 2) := by decide +kernel
theorem own_d13_14 : decode jdk_65_method_133_code 14 = .ok (.aload_n 0, 1) := by decide +kernel
theorem own_d13_15 : decode jdk_65_method_133_code 15 = .ok (.iload_n 1, 1) := by decide +kernel
theorem own_d13_16 : decode jdk_65_method_133_code 16 = .ok (.aload 4, 2) := by decide +kernel
theorem own_d13_18 : decode jdk_65_method_133_code 18 = .ok (.iconst 0, 1) := by decide +kernel
theorem own_d13_19 : decode jdk_65_method_133_code 19 = .ok (.aload_n 0, 1) := by decide +kernel
theorem own_d13_20 : decode jdk_65_method_133_code 20 = .ok (.arraylength, 1) := by decide +kernel
theorem own_d13_21 : decode jdk_65_method_133_code 21 = .ok (.iload_n 1, 1) := by decide +kernel
theorem own_d13_22 : decode jdk_65_method_133_code 22 = .ok (.isub, 1) := by decide +kernel
theorem own_d13_23 : decode jdk_65_method_133_code 23 = .ok (.iload_n 3, 1) := by decide +kernel
theorem own_d13_24 : decode jdk_65_method_133_code 24 = .ok (.invokestatic 304, 3) := by decide +kernel
theorem own_pd3 : parseMethodDescriptor "(II)I" = some ⟨[.int, .int], some .int⟩ := by decide +kernel
theorem own_d13_27 : decode jdk_65_method_133_code 27 = .ok (.invokestatic 150, 3) := by decide +kernel
theorem own_d13_30 : decode jdk_65_method_133_code 30 = .ok (.aload 4, 2) := by decide +kernel
theorem own_d13_32 : decode jdk_65_method_133_code 32 = .ok (.areturn, 1) := by decide +kernel
theorem own_d12_0 : decode jdk_65_method_132_code 0 = .ok (.iload_n 1, 1) := by decide +kernel
theorem own_d12_1 : decode jdk_65_method_132_code 1 = .ok (.ifCond .ne 9, 3) := by decide +kernel
theorem own_d12_4 : decode jdk_65_method_132_code 4 = .ok (.iload_n 2, 1) := by decide +kernel
theorem own_d12_5 : decode jdk_65_method_132_code 5 = .ok (.aload_n 0, 1) := by decide +kernel
theorem own_d12_6 : decode jdk_65_method_132_code 6 = .ok (.arraylength, 1) := by decide +kernel
theorem own_d12_7 : decode jdk_65_method_132_code 7 = .ok (.if_icmp .eq 10, 3) := by decide +kernel
theorem own_d12_10 : decode jdk_65_method_132_code 10 = .ok (.aload_n 0, 1) := by decide +kernel
theorem own_d12_11 : decode jdk_65_method_132_code 11 = .ok (.iload_n 1, 1) := by decide +kernel
theorem own_d12_12 : decode jdk_65_method_132_code 12 = .ok (.iload_n 2, 1) := by decide +kernel
theorem own_d12_13 : decode jdk_65_method_132_code 13 = .ok (.invokestatic 339, 3) := by decide +kernel
theorem own_pd4 : parseMethodDescriptor "([BII)[B" = some ⟨[(.array .byte), .int, .int], some (.array .byte)⟩ := by decide +kernel
theorem own_d12_16 : decode jdk_65_method_132_code 16 = .ok (.areturn, 1) := by decide +kernel
theorem own_d33_0 : decode jdk_65_method_121_code 0 = .ok (.iload_n 1, 1) := by decide +kernel
theorem own_d33_1 : decode jdk_65_method_121_code 1 = .ok (.aload_n 0, 1) := by decide +kernel
theorem own_d33_2 : decode jdk_65_method_121_code 2 = .ok (.arraylength, 1) := by decide +kernel
theorem own_d33_3 : decode jdk_65_method_121_code 3 = .ok (.if_icmp .ne 11, 3) := by decide +kernel
theorem own_d33_14 : decode jdk_65_method_121_code 14 = .ok (.iload_n 1, 1) := by decide +kernel
theorem own_d33_15 : decode jdk_65_method_121_code 15 = .ok (.newarray .byte, 2) := by decide +kernel
theorem own_d33_17 : decode jdk_65_method_121_code 17 = .ok (.astore_n 2, 1) := by decide +kernel
theorem own_d33_18 : decode jdk_65_method_121_code 18 = .ok (.aload_n 0, 1) := by decide +kernel
theorem own_d33_19 : decode jdk_65_method_121_code 19 = .ok (.iconst 0, 1) := by decide +kernel
theorem own_d33_20 : decode jdk_65_method_121_code 20 = .ok (.aload_n 2, 1) := by decide +kernel
theorem own_d33_21 : decode jdk_65_method_121_code 21 = .ok (.iconst 0, 1) := by decide +kernel
theorem own_d33_22 : decode jdk_65_method_121_code 22 = .ok (.aload_n 0, 1) := by decide +kernel
theorem own_d33_23 : decode jdk_65_method_121_code 23 = .ok (.arraylength, 1) := by decide +kernel
theorem own_d33_24 : decode jdk_65_method_121_code 24 = .ok (.iload_n 1, 1) := by decide +kernel
theorem own_d33_25 : decode jdk_65_method_121_code 25 = .ok (.invokestatic 304, 3) := by decide +kernel
theorem own_d33_28 : decode jdk_65_method_121_code 28 = .ok (.invokestatic 150, 3) := by decide +kernel
theorem own_d33_31 : decode jdk_65_method_121_code 31 = .ok (.aload_n 2, 1) := by decide +kernel
theorem own_d33_32 : decode jdk_65_method_121_code 32 = .ok (.areturn, 1) := by decide +kernel
theorem own_d28_0 : decode jdk_52_method_6_code 0 = .ok (.aload_n 0, 1) := by decide +kernel
theorem own_d28_1 : decode jdk_52_method_6_code 1 = .ok (.arraylength, 1) := by decide +kernel
theorem own_d28_2 : decode jdk_52_method_6_code 2 = .ok (.iconst 1, 1) := by decide +kernel
theorem own_d28_3 : decode jdk_52_method_6_code 3 = .ok (.ishr, 1) := by decide +kernel
theorem own_d28_4 : decode jdk_52_method_6_code 4 = .ok (.ireturn, 1) := by decide +kernel
theorem own_pn5 : plainName "java/lang/StringUTF16" = true := by first | (simp [plainName, overriddenIn]; done) | decide +kernel
theorem own_d31_0 : decode jdk_42_method_35_code 0 = .ok (.iload_n 0, 1) := by decide +kernel
theorem own_d31_1 : decode jdk_42_method_35_code 1 = .ok (.bipush 6, 2) := by decide +kernel
theorem own_d31_3 : decode jdk_42_method_35_code 3 = .ok (.ishl, 1) := by decide +kernel
theorem own_d31_4 : decode jdk_42_method_35_code 4 = .ok (.iload_n 1, 1) := by decide +kernel
theorem own_d31_5 : decode jdk_42_method_35_code 5 = .ok (.ixor, 1) := by decide +kernel
theorem own_d31_6 : decode jdk_42_method_35_code 6 = .ok (.sipush 3968, 3) := by decide +kernel
theorem own_d31_9 : decode jdk_42_method_35_code 9 = .ok (.ixor, 1) := by decide +kernel
theorem own_d31_10 : decode jdk_42_method_35_code 10 = .ok (.i2c, 1) := by decide +kernel
theorem own_d31_11 : decode jdk_42_method_35_code 11 = .ok (.ireturn, 1) := by decide +kernel
theorem own_d30_0 : decode jdk_42_method_29_code 0 = .ok (.iload_n 0, 1) := by decide +kernel
theorem own_d30_1 : decode jdk_42_method_29_code 1 = .ok (.sipush 192, 3) := by decide +kernel
theorem own_d30_4 : decode jdk_42_method_29_code 4 = .ok (.iand, 1) := by decide +kernel
theorem own_d30_5 : decode jdk_42_method_29_code 5 = .ok (.sipush 128, 3) := by decide +kernel
theorem own_d30_8 : decode jdk_42_method_29_code 8 = .ok (.if_icmp .eq 7, 3) := by decide +kernel
theorem own_d30_15 : decode jdk_42_method_29_code 15 = .ok (.iconst 0, 1) := by decide +kernel
theorem own_d30_16 : decode jdk_42_method_29_code 16 = .ok (.ireturn, 1) := by decide +kernel
theorem own_d24_0 : decode jdk_52_method_3_code 0 = .ok (.iload_n 0, 1) := by decide +kernel
theorem own_d24_1 : decode jdk_52_method_3_code 1 = .ok (.ifCond .ge 11, 3) := by decide +kernel
theorem own_d24_12 : decode jdk_52_method_3_code 12 = .ok (.iload_n 0, 1) := by decide +kernel
theorem own_d24_13 : decode jdk_52_method_3_code 13 = .ok (.ldc 20, 2) := by decide +kernel
theorem own_d24_15 : decode jdk_52_method_3_code 15 = .ok (.if_icmp .lt 40, 3) := by decide +kernel
theorem own_d24_55 : decode jdk_52_method_3_code 55 = .ok (.iload_n 0, 1) := by decide +kernel
theorem own_d24_56 : decode jdk_52_method_3_code 56 = .ok (.iconst 1, 1) := by decide +kernel
theorem own_d24_57 : decode jdk_52_method_3_code 57 = .ok (.ishl, 1) := by decide +kernel
theorem own_d24_58 : decode jdk_52_method_3_code 58 = .ok (.ireturn, 1) := by decide +kernel
theorem own_d23_0 : decode jdk_52_method_2_code 0 = .ok (.iload_n 0, 1) := by decide +kernel
theorem own_d23_1 : decode jdk_52_method_2_code 1 = .ok (.invokestatic 11, 3) := by decide +kernel
theorem own_pd5 : parseMethodDescriptor "(I)I" = some ⟨[.int], some .int⟩ := by decide +kernel
theorem own_d23_4 : decode jdk_52_method_2_code 4 = .ok (.newarray .byte, 2) := by decide +kernel
theorem own_d23_6 : decode jdk_52_method_2_code 6 = .ok (.areturn, 1) := by decide +kernel
theorem own_d27_0 : decode jdk_52_method_94_code 0 = .ok (.iload_n 0, 1) := by decide +kernel
theorem own_d27_1 : decode jdk_52_method_94_code 1 = .ok (.iload_n 1, 1) := by decide +kernel
theorem own_d27_2 : decode jdk_52_method_94_code 2 = .ok (.aload_n 2, 1) := by decide +kernel
theorem own_d27_3 : decode jdk_52_method_94_code 3 = .ok (.invokestatic 48, 3) := by decide +kernel
theorem own_pd6 : parseMethodDescriptor "([B)I" = some ⟨[(.array .byte)], some .int⟩ := by decide +kernel
theorem own_d27_6 : decode jdk_52_method_94_code 6 = .ok (.invokestatic 419, 3) := by decide +kernel
theorem own_pd7 : parseMethodDescriptor "(III)I" = some ⟨[.int, .int, .int], some .int⟩ := by decide +kernel
theorem own_d27_9 : decode jdk_52_method_94_code 9 = .ok (.pop, 1) := by decide +kernel
theorem own_d27_10 : decode jdk_52_method_94_code 10 = .ok (.return_, 1) := by decide +kernel
theorem own_d26_0 : decode jdk_52_method_86_code 0 = .ok (.iload_n 3, 1) := by decide +kernel
theorem own_d26_1 : decode jdk_52_method_86_code 1 = .ok (.iload 4, 2) := by decide +kernel
theorem own_d26_3 : decode jdk_52_method_86_code 3 = .ok (.aload_n 2, 1) := by decide +kernel
theorem own_d26_4 : decode jdk_52_method_86_code 4 = .ok (.invokestatic 173, 3) := by decide +kernel
theorem own_pd8 : parseMethodDescriptor "(II[B)V" = some ⟨[.int, .int, (.array .byte)], none⟩ := by decide +kernel
theorem own_d26_7 : decode jdk_52_method_86_code 7 = .ok (.iconst 0, 1) := by decide +kernel
theorem own_d26_8 : decode jdk_52_method_86_code 8 = .ok (.istore 5, 2) := by decide +kernel
theorem own_d26_10 : decode jdk_52_method_86_code 10 = .ok (.iload 5, 2) := by decide +kernel
theorem own_d26_12 : decode jdk_52_method_86_code 12 = .ok (.iload 4, 2) := by decide +kernel
theorem own_d26_14 : decode jdk_52_method_86_code 14 = .ok (.if_icmp .ge 27, 3) := by decide +kernel
theorem own_d26_41 : decode jdk_52_method_86_code 41 = .ok (.return_, 1) := by decide +kernel
theorem own_d25_0 : decode jdk_43_method_50_code 0 = .ok (.aload_n 0, 1) := by decide +kernel
theorem own_d25_1 : decode jdk_43_method_50_code 1 = .ok (.iload_n 1, 1) := by decide +kernel
theorem own_d25_2 : decode jdk_43_method_50_code 2 = .ok (.aload_n 2, 1) := by decide +kernel
theorem own_d25_3 : decode jdk_43_method_50_code 3 = .ok (.iload_n 3, 1) := by decide +kernel
theorem own_d25_4 : decode jdk_43_method_50_code 4 = .ok (.iload 4, 2) := by decide +kernel
theorem own_d25_6 : decode jdk_43_method_50_code 6 = .ok (.invokestatic 240, 3) := by decide +kernel
theorem own_pd9 : parseMethodDescriptor "([BI[BII)V" = some ⟨[(.array .byte), .int, (.array .byte), .int, .int], none⟩ := by decide +kernel
theorem own_d25_9 : decode jdk_43_method_50_code 9 = .ok (.return_, 1) := by decide +kernel
theorem own_pn6 : plainName "java/lang/StringLatin1" = true := by first | (simp [plainName, overriddenIn]; done) | decide +kernel
theorem own_d32_0 : decode jdk_52_method_4_code 0 = .ok (.getstatic 44, 3) := by decide +kernel
theorem own_d32_3 : decode jdk_52_method_4_code 3 = .ok (.ifCond .ne 25, 3) := by decide +kernel
theorem own_d32_28 : decode jdk_52_method_4_code 28 = .ok (.iload_n 1, 1) := by decide +kernel
theorem own_d32_29 : decode jdk_52_method_4_code 29 = .ok (.iconst 1, 1) := by decide +kernel
theorem own_d32_30 : decode jdk_52_method_4_code 30 = .ok (.ishl, 1) := by decide +kernel
theorem own_d32_31 : decode jdk_52_method_4_code 31 = .ok (.istore_n 1, 1) := by decide +kernel
theorem own_d32_32 : decode jdk_52_method_4_code 32 = .ok (.aload_n 0, 1) := by decide +kernel
theorem own_d32_33 : decode jdk_52_method_4_code 33 = .ok (.iload_n 1, 1) := by decide +kernel
theorem own_d32_34 : decode jdk_52_method_4_code 34 = .ok (.iinc 1 1, 3) := by decide +kernel
theorem own_d32_37 : decode jdk_52_method_4_code 37 = .ok (.iload_n 2, 1) := by decide +kernel
theorem own_d32_38 : decode jdk_52_method_4_code 38 = .ok (.getstatic 59, 3) := by decide +kernel
theorem own_d32_41 : decode jdk_52_method_4_code 41 = .ok (.ishr, 1) := by decide +kernel
theorem own_d32_42 : decode jdk_52_method_4_code 42 = .ok (.i2b, 1) := by decide +kernel
theorem own_d32_43 : decode jdk_52_method_4_code 43 = .ok (.bastore, 1) := by decide +kernel
theorem own_d32_44 : decode jdk_52_method_4_code 44 = .ok (.aload_n 0, 1) := by decide +kernel
theorem own_d32_45 : decode jdk_52_method_4_code 45 = .ok (.iload_n 1, 1) := by decide +kernel
theorem own_d32_46 : decode jdk_52_method_4_code 46 = .ok (.iload_n 2, 1) := by decide +kernel
theorem own_d32_47 : decode jdk_52_method_4_code 47 = .ok (.getstatic 63, 3) := by decide +kernel
theorem own_d32_50 : decode jdk_52_method_4_code 50 = .ok (.ishr, 1) := by decide +kernel
theorem own_d32_51 : decode jdk_52_method_4_code 51 = .ok (.i2b, 1) := by decide +kernel
theorem own_d32_52 : decode jdk_52_method_4_code 52 = .ok (.bastore, 1) := by decide +kernel
theorem own_d32_53 : decode jdk_52_method_4_code 53 = .ok (.return_, 1) := by decide +kernel
theorem own_d29_0 : decode jdk_42_method_38_code 0 = .ok (.iload_n 1, 1) := by decide +kernel
theorem own_d29_1 : decode jdk_42_method_38_code 1 = .ok (.iload_n 2, 1) := by decide +kernel
theorem own_d29_2 : decode jdk_42_method_38_code 2 = .ok (.if_icmp .ge 619, 3) := by decide +kernel
theorem own_d29_5 : decode jdk_42_method_38_code 5 = .ok (.aload_n 0, 1) := by decide +kernel
theorem own_d29_6 : decode jdk_42_method_38_code 6 = .ok (.iload_n 1, 1) := by decide +kernel
theorem own_d29_7 : decode jdk_42_method_38_code 7 = .ok (.iinc 1 1, 3) := by decide +kernel
theorem own_d29_10 : decode jdk_42_method_38_code 10 = .ok (.baload, 1) := by decide +kernel
theorem own_d29_11 : decode jdk_42_method_38_code 11 = .ok (.istore 6, 2) := by decide +kernel
theorem own_d29_13 : decode jdk_42_method_38_code 13 = .ok (.iload 6, 2) := by decide +kernel
theorem own_d29_15 : decode jdk_42_method_38_code 15 = .ok (.ifCond .lt 18, 3) := by decide +kernel
theorem own_d29_33 : decode jdk_42_method_38_code 33 = .ok (.iload 6, 2) := by decide +kernel
theorem own_d29_35 : decode jdk_42_method_38_code 35 = .ok (.iconst 5, 1) := by decide +kernel
theorem own_d29_36 : decode jdk_42_method_38_code 36 = .ok (.ishr, 1) := by decide +kernel
theorem own_d29_37 : decode jdk_42_method_38_code 37 = .ok (.bipush (-2), 2) := by decide +kernel
theorem own_d29_39 : decode jdk_42_method_38_code 39 = .ok (.if_icmp .ne 104, 3) := by decide +kernel
theorem own_d29_42 : decode jdk_42_method_38_code 42 = .ok (.iload 6, 2) := by decide +kernel
theorem own_d29_44 : decode jdk_42_method_38_code 44 = .ok (.bipush 30, 2) := by decide +kernel
theorem own_d29_46 : decode jdk_42_method_38_code 46 = .ok (.iand, 1) := by decide +kernel
theorem own_d29_47 : decode jdk_42_method_38_code 47 = .ok (.ifCond .eq 96, 3) := by decide +kernel
theorem own_d29_50 : decode jdk_42_method_38_code 50 = .ok (.iload_n 1, 1) := by decide +kernel
theorem own_d29_51 : decode jdk_42_method_38_code 51 = .ok (.iload_n 2, 1) := by decide +kernel
theorem own_d29_52 : decode jdk_42_method_38_code 52 = .ok (.if_icmp .ge 67, 3) := by decide +kernel
theorem own_d29_55 : decode jdk_42_method_38_code 55 = .ok (.aload_n 0, 1) := by decide +kernel
theorem own_d29_56 : decode jdk_42_method_38_code 56 = .ok (.iload_n 1, 1) := by decide +kernel
theorem own_d29_57 : decode jdk_42_method_38_code 57 = .ok (.iinc 1 1, 3) := by decide +kernel
theorem own_d29_60 : decode jdk_42_method_38_code 60 = .ok (.baload, 1) := by decide +kernel
theorem own_d29_61 : decode jdk_42_method_38_code 61 = .ok (.istore 7, 2) := by decide +kernel
theorem own_d29_63 : decode jdk_42_method_38_code 63 = .ok (.iload 7, 2) := by decide +kernel
theorem own_d29_65 : decode jdk_42_method_38_code 65 = .ok (.invokestatic 385, 3) := by decide +kernel
theorem own_pd10 : parseMethodDescriptor "(I)Z" = some ⟨[.int], some .boolean⟩ := by decide +kernel
theorem own_d29_68 : decode jdk_42_method_38_code 68 = .ok (.ifCond .eq 32, 3) := by decide +kernel
theorem own_d29_100 : decode jdk_42_method_38_code 100 = .ok (.aload_n 3, 1) := by decide +kernel
theorem own_d29_101 : decode jdk_42_method_38_code 101 = .ok (.iload 4, 2) := by decide +kernel
theorem own_d29_103 : decode jdk_42_method_38_code 103 = .ok (.iinc 4 1, 3) := by decide +kernel
theorem own_d29_106 : decode jdk_42_method_38_code 106 = .ok (.iload 6, 2) := by decide +kernel
theorem own_d29_108 : decode jdk_42_method_38_code 108 = .ok (.iload 7, 2) := by decide +kernel
theorem own_d29_110 : decode jdk_42_method_38_code 110 = .ok (.invokestatic 98, 3) := by decide +kernel
theorem own_pd11 : parseMethodDescriptor "(II)C" = some ⟨[.int, .int], some .char⟩ := by decide +kernel
theorem own_d29_113 : decode jdk_42_method_38_code 113 = .ok (.invokestatic 64, 3) := by decide +kernel
theorem own_pd12 : parseMethodDescriptor "([BII)V" = some ⟨[(.array .byte), .int, .int], none⟩ := by decide +kernel
theorem own_d29_116 : decode jdk_42_method_38_code 116 = .ok (.goto (-116), 3) := by decide +kernel
theorem own_d29_621 : decode jdk_42_method_38_code 621 = .ok (.iload 4, 2) := by decide +kernel
theorem own_d29_623 : decode jdk_42_method_38_code 623 = .ok (.ireturn, 1) := by decide +kernel
theorem own_d29_18 : decode jdk_42_method_38_code 18 = .ok (.aload_n 3, 1) := by decide +kernel
theorem own_d29_19 : decode jdk_42_method_38_code 19 = .ok (.iload 4, 2) := by decide +kernel
theorem own_d29_21 : decode jdk_42_method_38_code 21 = .ok (.iinc 4 1, 3) := by decide +kernel
theorem own_d29_24 : decode jdk_42_method_38_code 24 = .ok (.iload 6, 2) := by decide +kernel
theorem own_d29_26 : decode jdk_42_method_38_code 26 = .ok (.i2c, 1) := by decide +kernel
theorem own_d29_27 : decode jdk_42_method_38_code 27 = .ok (.invokestatic 64, 3) := by decide +kernel
theorem own_d29_30 : decode jdk_42_method_38_code 30 = .ok (.goto 588, 3) := by decide +kernel
theorem own_d29_618 : decode jdk_42_method_38_code 618 = .ok (.goto (-618), 3) := by decide +kernel
theorem own_d10_0 : decode jdk_42_method_11_code 0 = .ok (.aload_n 0, 1) := by decide +kernel
theorem own_d10_1 : decode jdk_42_method_11_code 1 = .ok (.invokespecial 1, 3) := by decide +kernel
theorem own_d10_4 : decode jdk_42_method_11_code 4 = .ok (.iload 4, 2) := by decide +kernel
theorem own_d10_6 : decode jdk_42_method_11_code 6 = .ok (.ifCond .ne 24, 3) := by decide +kernel
theorem own_d10_30 : decode jdk_42_method_11_code 30 = .ok (.aload_n 1, 1) := by decide +kernel
theorem own_d10_31 : decode jdk_42_method_11_code 31 = .ok (.getstatic 86, 3) := by decide +kernel
theorem own_d10_34 : decode jdk_42_method_11_code 34 = .ok (.if_acmp .ne 312, 3) := by decide +kernel
theorem own_d10_37 : decode jdk_42_method_11_code 37 = .ok (.getstatic 38, 3) := by decide +kernel
theorem own_d10_40 : decode jdk_42_method_11_code 40 = .ok (.ifCond .eq 252, 3) := by decide +kernel
theorem own_d10_43 : decode jdk_42_method_11_code 43 = .ok (.aload_n 2, 1) := by decide +kernel
theorem own_d10_44 : decode jdk_42_method_11_code 44 = .ok (.iload_n 3, 1) := by decide +kernel
theorem own_d10_45 : decode jdk_42_method_11_code 45 = .ok (.iload 4, 2) := by decide +kernel
theorem own_d10_47 : decode jdk_42_method_11_code 47 = .ok (.invokestatic 92, 3) := by decide +kernel
theorem own_pd13 : parseMethodDescriptor "([BII)I" = some ⟨[(.array .byte), .int, .int], some .int⟩ := by decide +kernel
theorem own_d10_50 : decode jdk_42_method_11_code 50 = .ok (.istore 5, 2) := by decide +kernel
theorem own_d10_52 : decode jdk_42_method_11_code 52 = .ok (.iload 5, 2) := by decide +kernel
theorem own_d10_54 : decode jdk_42_method_11_code 54 = .ok (.iload 4, 2) := by decide +kernel
theorem own_d10_56 : decode jdk_42_method_11_code 56 = .ok (.if_icmp .ne 22, 3) := by decide +kernel
theorem own_d10_59 : decode jdk_42_method_11_code 59 = .ok (.aload_n 0, 1) := by decide +kernel
theorem own_d10_60 : decode jdk_42_method_11_code 60 = .ok (.aload_n 2, 1) := by decide +kernel
theorem own_d10_61 : decode jdk_42_method_11_code 61 = .ok (.iload_n 3, 1) := by decide +kernel
theorem own_d10_62 : decode jdk_42_method_11_code 62 = .ok (.iload_n 3, 1) := by decide +kernel
theorem own_d10_63 : decode jdk_42_method_11_code 63 = .ok (.iload 4, 2) := by decide +kernel
theorem own_d10_65 : decode jdk_42_method_11_code 65 = .ok (.iadd, 1) := by decide +kernel
theorem own_d10_66 : decode jdk_42_method_11_code 66 = .ok (.invokestatic 54, 3) := by decide +kernel
theorem own_d10_69 : decode jdk_42_method_11_code 69 = .ok (.putfield 9, 3) := by decide +kernel
theorem own_d10_72 : decode jdk_42_method_11_code 72 = .ok (.aload_n 0, 1) := by decide +kernel
theorem own_d10_73 : decode jdk_42_method_11_code 73 = .ok (.iconst 0, 1) := by decide +kernel
theorem own_d10_74 : decode jdk_42_method_11_code 74 = .ok (.putfield 15, 3) := by decide +kernel
theorem own_d10_77 : decode jdk_42_method_11_code 77 = .ok (.return_, 1) := by decide +kernel
theorem own_d6_0 : decode jdk_42_method_10_code 0 = .ok (.aload_n 0, 1) := by decide +kernel
theorem own_d6_1 : decode jdk_42_method_10_code 1 = .ok (.aload 4, 2) := by decide +kernel
theorem own_d6_3 : decode jdk_42_method_10_code 3 = .ok (.invokestatic 78, 3) := by decide +kernel
theorem own_pd14 : parseMethodDescriptor "(Ljava/lang/Object;)Ljava/lang/Object;" = some ⟨[(.object "java/lang/Object")], some (.object "java/lang/Object")⟩ := by decide +kernel
theorem own_d6_6 : decode jdk_42_method_10_code 6 = .ok (.checkcast 84, 3) := by decide +kernel
theorem own_d6_9 : decode jdk_42_method_10_code 9 = .ok (.aload_n 1, 1) := by decide +kernel
theorem own_d6_10 : decode jdk_42_method_10_code 10 = .ok (.iload_n 2, 1) := by decide +kernel
theorem own_d6_11 : decode jdk_42_method_10_code 11 = .ok (.iload_n 3, 1) := by decide +kernel
theorem own_d6_12 : decode jdk_42_method_10_code 12 = .ok (.aload_n 1, 1) := by decide +kernel
theorem own_d6_13 : decode jdk_42_method_10_code 13 = .ok (.arraylength, 1) := by decide +kernel
theorem own_d6_14 : decode jdk_42_method_10_code 14 = .ok (.invokestatic 34, 3) := by decide +kernel
theorem own_d6_17 : decode jdk_42_method_10_code 17 = .ok (.iload_n 3, 1) := by decide +kernel
theorem own_d6_18 : decode jdk_42_method_10_code 18 = .ok (.invokespecial 75, 3) := by decide +kernel
theorem own_pd15 : parseMethodDescriptor "(Ljava/nio/charset/Charset;[BII)V" = some ⟨[(.object "java/nio/charset/Charset"), (.array .byte), .int, .int], none⟩ := by decide +kernel
theorem own_d6_21 : decode jdk_42_method_10_code 21 = .ok (.return_, 1) := by decide +kernel
theorem own_d10_78 : decode jdk_42_method_11_code 78 = .ok (.aload_n 2, 1) := by decide +kernel
theorem own_d10_79 : decode jdk_42_method_11_code 79 = .ok (.iload_n 3, 1) := by decide +kernel
theorem own_d10_80 : decode jdk_42_method_11_code 80 = .ok (.iload_n 3, 1) := by decide +kernel
theorem own_d10_81 : decode jdk_42_method_11_code 81 = .ok (.iload 4, 2) := by decide +kernel
theorem own_d10_83 : decode jdk_42_method_11_code 83 = .ok (.iadd, 1) := by decide +kernel
theorem own_d10_84 : decode jdk_42_method_11_code 84 = .ok (.invokestatic 54, 3) := by decide +kernel
theorem own_d10_87 : decode jdk_42_method_11_code 87 = .ok (.astore 6, 2) := by decide +kernel
theorem own_d10_89 : decode jdk_42_method_11_code 89 = .ok (.iload 5, 2) := by decide +kernel
theorem own_d10_91 : decode jdk_42_method_11_code 91 = .ok (.istore 7, 2) := by decide +kernel
theorem own_d10_93 : decode jdk_42_method_11_code 93 = .ok (.iload 7, 2) := by decide +kernel
theorem own_d10_95 : decode jdk_42_method_11_code 95 = .ok (.iload 4, 2) := by decide +kernel
theorem own_d10_97 : decode jdk_42_method_11_code 97 = .ok (.if_icmp .ge 93, 3) := by decide +kernel
theorem own_d10_100 : decode jdk_42_method_11_code 100 = .ok (.aload 6, 2) := by decide +kernel
theorem own_d10_102 : decode jdk_42_method_11_code 102 = .ok (.iload 7, 2) := by decide +kernel
theorem own_d10_104 : decode jdk_42_method_11_code 104 = .ok (.iinc 7 1, 3) := by decide +kernel
theorem own_d10_107 : decode jdk_42_method_11_code 107 = .ok (.baload, 1) := by decide +kernel
theorem own_d10_108 : decode jdk_42_method_11_code 108 = .ok (.istore 8, 2) := by decide +kernel
theorem own_d10_110 : decode jdk_42_method_11_code 110 = .ok (.iload 8, 2) := by decide +kernel
theorem own_d10_112 : decode jdk_42_method_11_code 112 = .ok (.ifCond .lt 17, 3) := by decide +kernel
theorem own_d10_129 : decode jdk_42_method_11_code 129 = .ok (.iload 8, 2) := by decide +kernel
theorem own_d10_131 : decode jdk_42_method_11_code 131 = .ok (.sipush 254, 3) := by decide +kernel
theorem own_d10_134 : decode jdk_42_method_11_code 134 = .ok (.iand, 1) := by decide +kernel
theorem own_d10_135 : decode jdk_42_method_11_code 135 = .ok (.sipush 194, 3) := by decide +kernel
theorem own_d10_138 : decode jdk_42_method_11_code 138 = .ok (.if_icmp .ne 46, 3) := by decide +kernel
theorem own_d10_141 : decode jdk_42_method_11_code 141 = .ok (.iload 7, 2) := by decide +kernel
theorem own_d10_143 : decode jdk_42_method_11_code 143 = .ok (.iload 4, 2) := by decide +kernel
theorem own_d10_145 : decode jdk_42_method_11_code 145 = .ok (.if_icmp .ge 39, 3) := by decide +kernel
theorem own_d10_148 : decode jdk_42_method_11_code 148 = .ok (.aload 6, 2) := by decide +kernel
theorem own_d10_150 : decode jdk_42_method_11_code 150 = .ok (.iload 7, 2) := by decide +kernel
theorem own_d10_152 : decode jdk_42_method_11_code 152 = .ok (.baload, 1) := by decide +kernel
theorem own_d10_153 : decode jdk_42_method_11_code 153 = .ok (.istore 9, 2) := by decide +kernel
theorem own_d10_155 : decode jdk_42_method_11_code 155 = .ok (.iload 9, 2) := by decide +kernel
theorem own_d10_157 : decode jdk_42_method_11_code 157 = .ok (.bipush (-64), 2) := by decide +kernel
theorem own_d10_159 : decode jdk_42_method_11_code 159 = .ok (.if_icmp .ge 25, 3) := by decide +kernel
theorem own_d10_162 : decode jdk_42_method_11_code 162 = .ok (.aload 6, 2) := by decide +kernel
theorem own_d10_164 : decode jdk_42_method_11_code 164 = .ok (.iload 5, 2) := by decide +kernel
theorem own_d10_166 : decode jdk_42_method_11_code 166 = .ok (.iinc 5 1, 3) := by decide +kernel
theorem own_d10_169 : decode jdk_42_method_11_code 169 = .ok (.iload 8, 2) := by decide +kernel
theorem own_d10_171 : decode jdk_42_method_11_code 171 = .ok (.iload 9, 2) := by decide +kernel
theorem own_d10_173 : decode jdk_42_method_11_code 173 = .ok (.invokestatic 98, 3) := by decide +kernel
theorem own_d10_176 : decode jdk_42_method_11_code 176 = .ok (.i2b, 1) := by decide +kernel
theorem own_d10_177 : decode jdk_42_method_11_code 177 = .ok (.bastore, 1) := by decide +kernel
theorem own_d10_178 : decode jdk_42_method_11_code 178 = .ok (.iinc 7 1, 3) := by decide +kernel
theorem own_d10_181 : decode jdk_42_method_11_code 181 = .ok (.goto (-88), 3) := by decide +kernel
theorem own_d10_190 : decode jdk_42_method_11_code 190 = .ok (.iload 7, 2) := by decide +kernel
theorem own_d10_192 : decode jdk_42_method_11_code 192 = .ok (.iload 4, 2) := by decide +kernel
theorem own_d10_194 : decode jdk_42_method_11_code 194 = .ok (.if_icmp .ne 32, 3) := by decide +kernel
theorem own_d10_197 : decode jdk_42_method_11_code 197 = .ok (.iload 5, 2) := by decide +kernel
theorem own_d10_199 : decode jdk_42_method_11_code 199 = .ok (.aload 6, 2) := by decide +kernel
theorem own_d10_201 : decode jdk_42_method_11_code 201 = .ok (.arraylength, 1) := by decide +kernel
theorem own_d10_202 : decode jdk_42_method_11_code 202 = .ok (.if_icmp .eq 12, 3) := by decide +kernel
theorem own_d10_205 : decode jdk_42_method_11_code 205 = .ok (.aload 6, 2) := by decide +kernel
theorem own_d10_207 : decode jdk_42_method_11_code 207 = .ok (.iload 5, 2) := by decide +kernel
theorem own_d10_209 : decode jdk_42_method_11_code 209 = .ok (.invokestatic 102, 3) := by decide +kernel
theorem own_pd16 : parseMethodDescriptor "([BI)[B" = some ⟨[(.array .byte), .int], some (.array .byte)⟩ := by decide +kernel
theorem own_d10_212 : decode jdk_42_method_11_code 212 = .ok (.astore 6, 2) := by decide +kernel
theorem own_d10_214 : decode jdk_42_method_11_code 214 = .ok (.aload_n 0, 1) := by decide +kernel
theorem own_d10_215 : decode jdk_42_method_11_code 215 = .ok (.aload 6, 2) := by decide +kernel
theorem own_d10_217 : decode jdk_42_method_11_code 217 = .ok (.putfield 9, 3) := by decide +kernel
theorem own_d10_220 : decode jdk_42_method_11_code 220 = .ok (.aload_n 0, 1) := by decide +kernel
theorem own_d10_221 : decode jdk_42_method_11_code 221 = .ok (.iconst 0, 1) := by decide +kernel
theorem own_d10_222 : decode jdk_42_method_11_code 222 = .ok (.putfield 15, 3) := by decide +kernel
theorem own_d10_225 : decode jdk_42_method_11_code 225 = .ok (.return_, 1) := by decide +kernel
theorem own_d10_115 : decode jdk_42_method_11_code 115 = .ok (.aload 6, 2) := by decide +kernel
theorem own_d10_117 : decode jdk_42_method_11_code 117 = .ok (.iload 5, 2) := by decide +kernel
theorem own_d10_119 : decode jdk_42_method_11_code 119 = .ok (.iinc 5 1, 3) := by decide +kernel
theorem own_d10_122 : decode jdk_42_method_11_code 122 = .ok (.iload 8, 2) := by decide +kernel
theorem own_d10_124 : decode jdk_42_method_11_code 124 = .ok (.i2b, 1) := by decide +kernel
theorem own_d10_125 : decode jdk_42_method_11_code 125 = .ok (.bastore, 1) := by decide +kernel
theorem own_d10_126 : decode jdk_42_method_11_code 126 = .ok (.goto (-33), 3) := by decide +kernel
theorem own_d10_184 : decode jdk_42_method_11_code 184 = .ok (.iinc 7 (-1), 3) := by decide +kernel
theorem own_d10_187 : decode jdk_42_method_11_code 187 = .ok (.goto 3, 3) := by decide +kernel
theorem own_d10_226 : decode jdk_42_method_11_code 226 = .ok (.iload 4, 2) := by decide +kernel
theorem own_d10_228 : decode jdk_42_method_11_code 228 = .ok (.invokestatic 60, 3) := by decide +kernel
theorem own_pd17 : parseMethodDescriptor "(I)[B" = some ⟨[.int], some (.array .byte)⟩ := by decide +kernel
theorem own_d10_231 : decode jdk_42_method_11_code 231 = .ok (.astore 8, 2) := by decide +kernel
theorem own_d10_233 : decode jdk_42_method_11_code 233 = .ok (.aload 6, 2) := by decide +kernel
theorem own_d10_235 : decode jdk_42_method_11_code 235 = .ok (.iconst 0, 1) := by decide +kernel
theorem own_d10_236 : decode jdk_42_method_11_code 236 = .ok (.aload 8, 2) := by decide +kernel
theorem own_d10_238 : decode jdk_42_method_11_code 238 = .ok (.iconst 0, 1) := by decide +kernel
theorem own_d10_239 : decode jdk_42_method_11_code 239 = .ok (.iload 5, 2) := by decide +kernel
theorem own_d10_241 : decode jdk_42_method_11_code 241 = .ok (.invokestatic 106, 3) := by decide +kernel
theorem own_d10_244 : decode jdk_42_method_11_code 244 = .ok (.aload 6, 2) := by decide +kernel
theorem own_d10_246 : decode jdk_42_method_11_code 246 = .ok (.iload 7, 2) := by decide +kernel
theorem own_d10_248 : decode jdk_42_method_11_code 248 = .ok (.iload 4, 2) := by decide +kernel
theorem own_d10_250 : decode jdk_42_method_11_code 250 = .ok (.aload 8, 2) := by decide +kernel
theorem own_d10_252 : decode jdk_42_method_11_code 252 = .ok (.iload 5, 2) := by decide +kernel
theorem own_d10_254 : decode jdk_42_method_11_code 254 = .ok (.iconst 1, 1) := by decide +kernel
theorem own_d10_255 : decode jdk_42_method_11_code 255 = .ok (.invokestatic 112, 3) := by decide +kernel
theorem own_pd18 : parseMethodDescriptor "([BII[BIZ)I" = some ⟨[(.array .byte), .int, .int, (.array .byte), .int, .boolean], some .int⟩ := by decide +kernel
theorem own_d10_258 : decode jdk_42_method_11_code 258 = .ok (.istore 5, 2) := by decide +kernel
theorem own_d10_260 : decode jdk_42_method_11_code 260 = .ok (.iload 5, 2) := by decide +kernel
theorem own_d10_262 : decode jdk_42_method_11_code 262 = .ok (.iload 4, 2) := by decide +kernel
theorem own_d10_264 : decode jdk_42_method_11_code 264 = .ok (.if_icmp .eq 14, 3) := by decide +kernel
theorem own_d10_267 : decode jdk_42_method_11_code 267 = .ok (.aload 8, 2) := by decide +kernel
theorem own_d10_269 : decode jdk_42_method_11_code 269 = .ok (.iload 5, 2) := by decide +kernel
theorem own_d10_271 : decode jdk_42_method_11_code 271 = .ok (.iconst 1, 1) := by decide +kernel
theorem own_d10_272 : decode jdk_42_method_11_code 272 = .ok (.ishl, 1) := by decide +kernel
theorem own_d10_273 : decode jdk_42_method_11_code 273 = .ok (.invokestatic 102, 3) := by decide +kernel
theorem own_d10_276 : decode jdk_42_method_11_code 276 = .ok (.astore 8, 2) := by decide +kernel
theorem own_d10_278 : decode jdk_42_method_11_code 278 = .ok (.aload_n 0, 1) := by decide +kernel
theorem own_d10_279 : decode jdk_42_method_11_code 279 = .ok (.aload 8, 2) := by decide +kernel
theorem own_d10_281 : decode jdk_42_method_11_code 281 = .ok (.putfield 9, 3) := by decide +kernel
theorem own_d10_284 : decode jdk_42_method_11_code 284 = .ok (.aload_n 0, 1) := by decide +kernel
theorem own_d10_285 : decode jdk_42_method_11_code 285 = .ok (.iconst 1, 1) := by decide +kernel
theorem own_d10_286 : decode jdk_42_method_11_code 286 = .ok (.putfield 15, 3) := by decide +kernel
theorem own_d10_289 : decode jdk_42_method_11_code 289 = .ok (.goto 590, 3) := by decide +kernel
theorem own_d10_879 : decode jdk_42_method_11_code 879 = .ok (.return_, 1) := by decide +kernel
theorem own_d5_0 : decode prog_34_method_3_code 0 = .ok (.new 7, 3) := by decide +kernel
theorem own_d5_3 : decode prog_34_method_3_code 3 = .ok (.dup, 1) := by decide +kernel
theorem own_d5_4 : decode prog_34_method_3_code 4 = .ok (.aload_n 0, 1) := by decide +kernel
theorem own_d5_5 : decode prog_34_method_3_code 5 = .ok (.getfield 9, 3) := by decide +kernel
theorem own_d5_8 : decode prog_34_method_3_code 8 = .ok (.aload_n 0, 1) := by decide +kernel
theorem own_d5_9 : decode prog_34_method_3_code 9 = .ok (.getfield 31, 3) := by decide +kernel
theorem own_d5_12 : decode prog_34_method_3_code 12 = .ok (.aload_n 0, 1) := by decide +kernel
theorem own_d5_13 : decode prog_34_method_3_code 13 = .ok (.getfield 34, 3) := by decide +kernel
theorem own_d5_16 : decode prog_34_method_3_code 16 = .ok (.aload_n 0, 1) := by decide +kernel
theorem own_d5_17 : decode prog_34_method_3_code 17 = .ok (.getfield 31, 3) := by decide +kernel
theorem own_d5_20 : decode prog_34_method_3_code 20 = .ok (.isub, 1) := by decide +kernel
theorem own_d5_21 : decode prog_34_method_3_code 21 = .ok (.getstatic 22, 3) := by decide +kernel
theorem own_d5_24 : decode prog_34_method_3_code 24 = .ok (.invokespecial 28, 3) := by decide +kernel
theorem own_pd19 : parseMethodDescriptor "([BIILjava/nio/charset/Charset;)V" = some ⟨[(.array .byte), .int, .int, (.object "java/nio/charset/Charset")], none⟩ := by decide +kernel
theorem own_d5_27 : decode prog_34_method_3_code 27 = .ok (.areturn, 1) := by decide +kernel
theorem own_pn7 : plainName "com/example/dyadloom/dyadloom/core/TripletReader$Triplet" = true := by first | (simp [plainName, overriddenIn]; done) | decide +kernel
theorem own_d19_0 : decode jdk_42_method_154_code 0 = .ok (.getstatic 38, 3) := by decide +kernel
theorem own_d19_3 : decode jdk_42_method_154_code 3 = .ok (.ifCond .eq 14, 3) := by decide +kernel
theorem own_d19_6 : decode jdk_42_method_154_code 6 = .ok (.aload_n 0, 1) := by decide +kernel
theorem own_d19_7 : decode jdk_42_method_154_code 7 = .ok (.getfield 15, 3) := by decide +kernel
theorem own_d19_10 : decode jdk_42_method_154_code 10 = .ok (.ifCond .ne 7, 3) := by decide +kernel
theorem own_d19_13 : decode jdk_42_method_154_code 13 = .ok (.iconst 1, 1) := by decide +kernel
theorem own_d19_14 : decode jdk_42_method_154_code 14 = .ok (.goto 4, 3) := by decide +kernel
theorem own_d19_18 : decode jdk_42_method_154_code 18 = .ok (.ireturn, 1) := by decide +kernel
theorem own_d19_17 : decode jdk_42_method_154_code 17 = .ok (.iconst 0, 1) := by decide +kernel
theorem own_d16_0 : decode jdk_42_method_152_code 0 = .ok (.getstatic 38, 3) := by decide +kernel
theorem own_d16_3 : decode jdk_42_method_152_code 3 = .ok (.ifCond .eq 10, 3) := by decide +kernel
theorem own_d16_6 : decode jdk_42_method_152_code 6 = .ok (.aload_n 0, 1) := by decide +kernel
theorem own_d16_7 : decode jdk_42_method_152_code 7 = .ok (.getfield 15, 3) := by decide +kernel
theorem own_d16_10 : decode jdk_42_method_152_code 10 = .ok (.goto 4, 3) := by decide +kernel
theorem own_d16_14 : decode jdk_42_method_152_code 14 = .ok (.ireturn, 1) := by decide +kernel
theorem own_d15_0 : decode jdk_42_method_54_code 0 = .ok (.aload_n 0, 1) := by decide +kernel
theorem own_d15_1 : decode jdk_42_method_54_code 1 = .ok (.getfield 9, 3) := by decide +kernel
theorem own_d15_4 : decode jdk_42_method_54_code 4 = .ok (.arraylength, 1) := by decide +kernel
theorem own_d15_5 : decode jdk_42_method_54_code 5 = .ok (.aload_n 0, 1) := by decide +kernel
theorem own_d15_6 : decode jdk_42_method_54_code 6 = .ok (.invokevirtual 335, 3) := by decide +kernel
theorem own_pd20 : parseMethodDescriptor "()B" = some ⟨[], some .byte⟩ := by decide +kernel
theorem own_d15_9 : decode jdk_42_method_54_code 9 = .ok (.ishr, 1) := by decide +kernel
theorem own_d15_10 : decode jdk_42_method_54_code 10 = .ok (.ireturn, 1) := by decide +kernel
theorem own_d35_0 : decode jdk_52_method_91_code 0 = .ok (.iload_n 0, 1) := by decide +kernel
theorem own_d35_1 : decode jdk_52_method_91_code 1 = .ok (.aload_n 1, 1) := by decide +kernel
theorem own_d35_2 : decode jdk_52_method_91_code 2 = .ok (.invokestatic 48, 3) := by decide +kernel
theorem own_d35_5 : decode jdk_52_method_91_code 5 = .ok (.invokestatic 414, 3) := by decide +kernel
theorem own_d35_8 : decode jdk_52_method_91_code 8 = .ok (.return_, 1) := by decide +kernel
theorem own_d36_0 : decode jdk_52_method_5_code 0 = .ok (.getstatic 44, 3) := by decide +kernel
theorem own_d36_3 : decode jdk_52_method_5_code 3 = .ok (.ifCond .ne 25, 3) := by decide +kernel
theorem own_d36_28 : decode jdk_52_method_5_code 28 = .ok (.iload_n 1, 1) := by decide +kernel
theorem own_d36_29 : decode jdk_52_method_5_code 29 = .ok (.iconst 1, 1) := by decide +kernel
theorem own_d36_30 : decode jdk_52_method_5_code 30 = .ok (.ishl, 1) := by decide +kernel
theorem own_d36_31 : decode jdk_52_method_5_code 31 = .ok (.istore_n 1, 1) := by decide +kernel
theorem own_d36_32 : decode jdk_52_method_5_code 32 = .ok (.aload_n 0, 1) := by decide +kernel
theorem own_d36_33 : decode jdk_52_method_5_code 33 = .ok (.iload_n 1, 1) := by decide +kernel
theorem own_d36_34 : decode jdk_52_method_5_code 34 = .ok (.iinc 1 1, 3) := by decide +kernel
theorem own_d36_37 : decode jdk_52_method_5_code 37 = .ok (.baload, 1) := by decide +kernel
theorem own_d36_38 : decode jdk_52_method_5_code 38 = .ok (.sipush 255, 3) := by decide +kernel
theorem own_d36_41 : decode jdk_52_method_5_code 41 = .ok (.iand, 1) := by decide +kernel
theorem own_d36_42 : decode jdk_52_method_5_code 42 = .ok (.getstatic 59, 3) := by decide +kernel
theorem own_d36_45 : decode jdk_52_method_5_code 45 = .ok (.ishl, 1) := by decide +kernel
theorem own_d36_46 : decode jdk_52_method_5_code 46 = .ok (.aload_n 0, 1) := by decide +kernel
theorem own_d36_47 : decode jdk_52_method_5_code 47 = .ok (.iload_n 1, 1) := by decide +kernel
theorem own_d36_48 : decode jdk_52_method_5_code 48 = .ok (.baload, 1) := by decide +kernel
theorem own_d36_49 : decode jdk_52_method_5_code 49 = .ok (.sipush 255, 3) := by decide +kernel
theorem own_d36_52 : decode jdk_52_method_5_code 52 = .ok (.iand, 1) := by decide +kernel
theorem own_d36_53 : decode jdk_52_method_5_code 53 = .ok (.getstatic 63, 3) := by decide +kernel
theorem own_d36_56 : decode jdk_52_method_5_code 56 = .ok (.ishl, 1) := by decide +kernel
theorem own_d36_57 : decode jdk_52_method_5_code 57 = .ok (.ior, 1) := by decide +kernel
theorem own_d36_58 : decode jdk_52_method_5_code 58 = .ok (.i2c, 1) := by decide +kernel
theorem own_d36_59 : decode jdk_52_method_5_code 59 = .ok (.ireturn, 1) := by decide +kernel
theorem own_d34_0 : decode jdk_52_method_83_code 0 = .ok (.iload_n 1, 1) := by decide +kernel
theorem own_d34_1 : decode jdk_52_method_83_code 1 = .ok (.aload_n 0, 1) := by decide +kernel
theorem own_d34_2 : decode jdk_52_method_83_code 2 = .ok (.invokestatic 67, 3) := by decide +kernel
theorem own_pd21 : parseMethodDescriptor "(I[B)V" = some ⟨[.int, (.array .byte)], none⟩ := by decide +kernel
theorem own_d34_5 : decode jdk_52_method_83_code 5 = .ok (.aload_n 0, 1) := by decide +kernel
theorem own_d34_6 : decode jdk_52_method_83_code 6 = .ok (.iload_n 1, 1) := by decide +kernel
theorem own_d34_7 : decode jdk_52_method_83_code 7 = .ok (.invokestatic 71, 3) := by decide +kernel
theorem own_pd22 : parseMethodDescriptor "([BI)C" = some ⟨[(.array .byte), .int], some .char⟩ := by decide +kernel
theorem own_d34_10 : decode jdk_52_method_83_code 10 = .ok (.ireturn, 1) := by decide +kernel
theorem own_d20_0 : decode jdk_43_method_2_code 0 = .ok (.iload_n 1, 1) := by decide +kernel
theorem own_d20_1 : decode jdk_43_method_2_code 1 = .ok (.aload_n 0, 1) := by decide +kernel
theorem own_d20_2 : decode jdk_43_method_2_code 2 = .ok (.arraylength, 1) := by decide +kernel
theorem own_d20_3 : decode jdk_43_method_2_code 3 = .ok (.invokestatic 9, 3) := by decide +kernel
theorem own_d20_6 : decode jdk_43_method_2_code 6 = .ok (.aload_n 0, 1) := by decide +kernel
theorem own_d20_7 : decode jdk_43_method_2_code 7 = .ok (.iload_n 1, 1) := by decide +kernel
theorem own_d20_8 : decode jdk_43_method_2_code 8 = .ok (.baload, 1) := by decide +kernel
theorem own_d20_9 : decode jdk_43_method_2_code 9 = .ok (.sipush 255, 3) := by decide +kernel
theorem own_d20_12 : decode jdk_43_method_2_code 12 = .ok (.iand, 1) := by decide +kernel
theorem own_d20_13 : decode jdk_43_method_2_code 13 = .ok (.i2c, 1) := by decide +kernel
theorem own_d20_14 : decode jdk_43_method_2_code 14 = .ok (.ireturn, 1) := by decide +kernel
theorem own_d18_0 : decode jdk_42_method_56_code 0 = .ok (.aload_n 0, 1) := by decide +kernel
theorem own_d18_1 : decode jdk_42_method_56_code 1 = .ok (.invokevirtual 492, 3) := by decide +kernel
theorem own_pd23 : parseMethodDescriptor "()Z" = some ⟨[], some .boolean⟩ := by decide +kernel
theorem own_d18_4 : decode jdk_42_method_56_code 4 = .ok (.ifCond .eq 12, 3) := by decide +kernel
theorem own_d18_7 : decode jdk_42_method_56_code 7 = .ok (.aload_n 0, 1) := by decide +kernel
theorem own_d18_8 : decode jdk_42_method_56_code 8 = .ok (.getfield 9, 3) := by decide +kernel
theorem own_d18_11 : decode jdk_42_method_56_code 11 = .ok (.iload_n 1, 1) := by decide +kernel
theorem own_d18_12 : decode jdk_42_method_56_code 12 = .ok (.invokestatic 495, 3) := by decide +kernel
theorem own_d18_15 : decode jdk_42_method_56_code 15 = .ok (.ireturn, 1) := by decide +kernel
theorem own_d18_16 : decode jdk_42_method_56_code 16 = .ok (.aload_n 0, 1) := by decide +kernel
theorem own_d18_17 : decode jdk_42_method_56_code 17 = .ok (.getfield 9, 3) := by decide +kernel
theorem own_d18_20 : decode jdk_42_method_56_code 20 = .ok (.iload_n 1, 1) := by decide +kernel
theorem own_d18_21 : decode jdk_42_method_56_code 21 = .ok (.invokestatic 498, 3) := by decide +kernel
theorem own_d18_24 : decode jdk_42_method_56_code 24 = .ok (.ireturn, 1) := by decide +kernel
theorem own_d17_0 : decode method_4_code 0 = .ok (.iload_n 1, 1) := by decide +kernel
theorem own_d17_1 : decode method_4_code 1 = .ok (.aload_n 0, 1) := by decide +kernel
theorem own_d17_2 : decode method_4_code 2 = .ok (.invokevirtual 44, 3) := by decide +kernel
theorem own_pd24 : parseMethodDescriptor "()I" = some ⟨[], some .int⟩ := by decide +kernel
theorem own_d17_5 : decode method_4_code 5 = .ok (.if_icmp .ge 13, 3) := by decide +kernel
theorem own_d17_8 : decode method_4_code 8 = .ok (.aload_n 0, 1) := by decide +kernel
theorem own_d17_9 : decode method_4_code 9 = .ok (.iload_n 1, 1) := by decide +kernel
theorem own_d17_10 : decode method_4_code 10 = .ok (.invokevirtual 56, 3) := by decide +kernel
theorem own_pd25 : parseMethodDescriptor "(I)C" = some ⟨[.int], some .char⟩ := by decide +kernel
theorem own_d17_13 : decode method_4_code 13 = .ok (.iload_n 2, 1) := by decide +kernel
theorem own_d17_14 : decode method_4_code 14 = .ok (.i2c, 1) := by decide +kernel
theorem own_d17_15 : decode method_4_code 15 = .ok (.if_icmp .ne 7, 3) := by decide +kernel
theorem own_d17_18 : decode method_4_code 18 = .ok (.iconst 1, 1) := by decide +kernel
theorem own_d17_19 : decode method_4_code 19 = .ok (.goto 4, 3) := by decide +kernel
theorem own_d17_23 : decode method_4_code 23 = .ok (.ireturn, 1) := by decide +kernel
theorem own_pn8 : plainName "com/example/dyadloom/dyadloom/core/TripletColumnIdPinLaw" = true := by first | (simp [plainName, overriddenIn]; done) | decide +kernel
theorem own_d1_0 : decode method_3_code 0 = .ok (.lload_n 0, 1) := by decide +kernel
theorem own_d1_1 : decode method_3_code 1 = .ok (.bipush 8, 2) := by decide +kernel
theorem own_d1_3 : decode method_3_code 3 = .ok (.iload_n 2, 1) := by decide +kernel
theorem own_d1_4 : decode method_3_code 4 = .ok (.imul, 1) := by decide +kernel
theorem own_d1_5 : decode method_3_code 5 = .ok (.lushr, 1) := by decide +kernel
theorem own_d1_6 : decode method_3_code 6 = .ok (.ldc2_w 54, 3) := by decide +kernel
theorem own_d1_9 : decode method_3_code 9 = .ok (.land, 1) := by decide +kernel
theorem own_d1_10 : decode method_3_code 10 = .ok (.l2i, 1) := by decide +kernel
theorem own_d1_11 : decode method_3_code 11 = .ok (.i2b, 1) := by decide +kernel
theorem own_d1_12 : decode method_3_code 12 = .ok (.ireturn, 1) := by decide +kernel
theorem own_d2_0 : decode prog_34_method_1_code 0 = .ok (.aload_n 0, 1) := by decide +kernel
theorem own_d2_1 : decode prog_34_method_1_code 1 = .ok (.invokespecial 1, 3) := by decide +kernel
theorem own_d2_4 : decode prog_34_method_1_code 4 = .ok (.return_, 1) := by decide +kernel
theorem own_pd26 : parseMethodDescriptor "(JI)B" = some ⟨[.long, .int], some .byte⟩ := by decide +kernel
theorem own_pd27 : parseMethodDescriptor "()V" = some ⟨[], none⟩ := by decide +kernel
theorem own_pd28 : parseMethodDescriptor "()Ljava/lang/String;" = some ⟨[], some (.object "java/lang/String")⟩ := by decide +kernel
theorem own_pd29 : parseMethodDescriptor "(Ljava/lang/String;II)Z" = some ⟨[(.object "java/lang/String"), .int, .int], some .boolean⟩ := by decide +kernel
theorem own_sint {Z : State} {args : Array Value} {C n d : String} {k : Int32} (h : (Cond.eq (Term.static C n d) (Term.int k)).value args Z none Z [] = some true) (hi : (Cond.initializedFor C n d).before args Z = true ∨ ((Cond.initialized C).before args Z = true ∧ (Cond.laysStatic C n d).before args Z = true)) : Sta Z Z.heap C n d (.int k) := by
  refine Sta.start ?_ hi
  obtain ⟨x, y, h1, h2, -⟩ := cmp_v (Or.inl h)
  have h2' : some (Value.int k) = some y := h2
  cases h2'
  simp only [Cond.value, h1, h2] at h
  cases x <;> simp at h
  rw [h1, h]
theorem own_fin {n : Nat} (hn : n ≤ 65536) {x : Int32} (h0 : 0 ≤ x.toInt) (h1 : x.toInt < n) : ∃ k : Fin n, x = Int32.ofNat k.val := by
  refine ⟨⟨x.toInt.toNat, by omega⟩, Int32.toInt_inj.mp ?_⟩
  rw [Int32.toInt_ofNat_of_lt (by show x.toInt.toNat < 2147483648; omega)]
  show x.toInt = ((x.toInt.toNat : Nat) : Int)
  omega
def own_o (st : Int32) : Prop := st = (0 : Int32) ∨ st = (1 : Int32) ∨ st = (2 : Int32) ∨ st = (3 : Int32)
theorem own_o_i (a : Int32) : own_o (a &&& (3 : Int32)) := by
  have h := c_mask a 3 2 (by decide) (by decide)
  obtain ⟨k, hk⟩ := own_fin (n := 4) (by decide) (x := a &&& (3 : Int32)) (by omega) (by omega)
  rw [hk]; clear hk; revert k; unfold own_o; decide +kernel
def own_YX (y0 y1 y2 y3 y4 y5 y6 y7 st x0 x1 x2 : Int32) : Prop := own_o st ∧ ([(.int y0), (.int y1), (.int y2), (.int y3), (.int y4), (.int y5), (.int y6), (.int y7)] : List Value).getD (st).toNatClampNeg (.int (0 : Int32)) = .int x0 ∧ ([(.int y0), (.int y1), (.int y2), (.int y3), (.int y4), (.int y5), (.int y6), (.int y7)] : List Value).getD ((st + (1 : Int32))).toNatClampNeg (.int (0 : Int32)) = .int x1 ∧ ([(.int y0), (.int y1), (.int y2), (.int y3), (.int y4), (.int y5), (.int y6), (.int y7)] : List Value).getD (((st + (1 : Int32)) + (1 : Int32))).toNatClampNeg (.int (0 : Int32)) = .int x2
theorem own_us1 {y0 y1 y2 y3 y4 y5 y6 y7 st x0 x1 x2 : Int32} (h : own_YX y0 y1 y2 y3 y4 y5 y6 y7 st x0 x1 x2) : ([(.int x0)] : List Value) = (List.range (1 : Int32).toNatClampNeg).map fun i => ([(.int y0), (.int y1), (.int y2), (.int y3), (.int y4), (.int y5), (.int y6), (.int y7)] : List Value).getD (st.toNatClampNeg + i) (.int (0 : Int32)) := by
  obtain ⟨ho, hx0, hx1, hx2⟩ := h; rw [← hx0]; rcases ho with rfl | rfl | rfl | rfl <;> rfl
theorem own_us2 {y0 y1 y2 y3 y4 y5 y6 y7 st x0 x1 x2 : Int32} (h : own_YX y0 y1 y2 y3 y4 y5 y6 y7 st x0 x1 x2) : ([(.int x0), (.int x1)] : List Value) = (List.range (2 : Int32).toNatClampNeg).map fun i => ([(.int y0), (.int y1), (.int y2), (.int y3), (.int y4), (.int y5), (.int y6), (.int y7)] : List Value).getD (st.toNatClampNeg + i) (.int (0 : Int32)) := by
  obtain ⟨ho, hx0, hx1, hx2⟩ := h; rw [← hx0, ← hx1]; rcases ho with rfl | rfl | rfl | rfl <;> rfl
theorem own_us3 {y0 y1 y2 y3 y4 y5 y6 y7 st x0 x1 x2 : Int32} (h : own_YX y0 y1 y2 y3 y4 y5 y6 y7 st x0 x1 x2) : ([(.int x0), (.int x1), (.int x2)] : List Value) = (List.range (3 : Int32).toNatClampNeg).map fun i => ([(.int y0), (.int y1), (.int y2), (.int y3), (.int y4), (.int y5), (.int y6), (.int y7)] : List Value).getD (st.toNatClampNeg + i) (.int (0 : Int32)) := by
  obtain ⟨ho, hx0, hx1, hx2⟩ := h; rw [← hx0, ← hx1, ← hx2]; rcases ho with rfl | rfl | rfl | rfl <;> rfl
def own_gc (x y : Int32) : Int32 := ((((x &&& (255 : Int32)) <<< ((0 : Int32) &&& 31)) ||| ((y &&& (255 : Int32)) <<< ((8 : Int32) &&& 31))).toUInt32.toUInt16.toUInt32.toInt32)
def own_lc (x : Int32) : Int32 := ((x &&& (255 : Int32)).toUInt32.toUInt16.toUInt32.toInt32)
def own_d2 (x y : Int32) : Int32 := ((((x <<< ((6 : Int32) &&& 31)) ^^^ y) ^^^ (3968 : Int32)).toUInt32.toUInt16.toUInt32.toInt32)
def own_dec (x y : Int32) : Int32 := (((x &&& (31 : Int32)) <<< ((6 : Int32) &&& 31)) ||| (y &&& (63 : Int32)))
abbrev own_lat (x : Int32) : Prop := (x &&& (254 : Int32)) = (194 : Int32)
def own_asc (x : Int32) : Prop := ∃ k : Fin 128, x = Int32.ofNat k.val
def own_lead (x : Int32) : Prop := ∃ k : Fin 30, x = Int32.ofNat k.val - 62
def own_cont (x : Int32) : Prop := ∃ k : Fin 64, x = Int32.ofNat k.val - 128
theorem own_asc_i (w : Int64) : own_asc ((w &&& (127 : Int64)).toInt32.toInt8.toInt32) := by
  have h := c_maskL w 127 7 (by decide) (by decide)
  have e : (w &&& (127 : Int64)).toInt32.toInt = (w &&& (127 : Int64)).toInt := by
    rw [Int64.toInt_toInt32, Int.bmod_eq_of_le (by omega) (by omega)]
  have b := c_i2b (w &&& (127 : Int64)).toInt32
  exact own_fin (n := 128) (by decide) (by omega) (by omega)
theorem own_asc_id {x : Int32} (h : own_asc x) : x.toInt8.toInt32 = x := by obtain ⟨k, rfl⟩ := h; revert k; decide +kernel
theorem own_asc_n {x : Int32} (h : own_asc x) : ¬ x < (0 : Int32) := by obtain ⟨k, rfl⟩ := h; revert k; decide +kernel
theorem own_lead_neg {x : Int32} (h : own_lead x) : x < (0 : Int32) := by obtain ⟨k, rfl⟩ := h; revert k; decide +kernel
theorem own_lead_5 {x : Int32} (h : own_lead x) : (x >>> ((5 : Int32) &&& 31)) = (-2 : Int32) := by obtain ⟨k, rfl⟩ := h; revert k; decide +kernel
theorem own_lead_30 {x : Int32} (h : own_lead x) : ¬ (x &&& (30 : Int32)) = (0 : Int32) := by obtain ⟨k, rfl⟩ := h; revert k; decide +kernel
theorem own_cont_c {x : Int32} (h : own_cont x) : (x &&& (192 : Int32)) = (128 : Int32) := by obtain ⟨k, rfl⟩ := h; revert k; decide +kernel
theorem own_cont_64 {x : Int32} (h : own_cont x) : x < (-64 : Int32) := by obtain ⟨k, rfl⟩ := h; revert k; decide +kernel
theorem own_l3 (z : Int32) : ((1 : Int32) + ((z &&& (2147483647 : Int32)) % (3 : Int32))) = (1 : Int32) ∨ ((1 : Int32) + ((z &&& (2147483647 : Int32)) % (3 : Int32))) = (2 : Int32) ∨ ((1 : Int32) + ((z &&& (2147483647 : Int32)) % (3 : Int32))) = (3 : Int32) := by
  have h := c_and z 2147483647 (by decide)
  have q := (c_iremV (z &&& (2147483647 : Int32)) 3).1 h.1 (by decide)
  have t : (3 : Int32).toInt = 3 := rfl
  obtain ⟨k, hk⟩ := own_fin (n := 3) (by decide) (x := (z &&& (2147483647 : Int32)) % (3 : Int32)) q.1 (by omega)
  rw [hk]; clear hk; revert k; decide +kernel
theorem own_le {z le : Int32} (h : le = ((194 : Int32) + ((z &&& (2147483647 : Int32)) % (30 : Int32)))) : ∃ k : Fin 30, le = 194 + Int32.ofNat k.val := by
  have r := c_and z 2147483647 (by decide)
  have q := (c_iremV (z &&& (2147483647 : Int32)) 30).1 r.1 (by decide)
  have t : (30 : Int32).toInt = 30 := rfl
  obtain ⟨k, hk⟩ := own_fin (n := 30) (by decide) (x := (z &&& (2147483647 : Int32)) % (30 : Int32)) q.1 (by omega)
  exact ⟨k, by rw [h, hk]⟩
theorem own_co {z co : Int32} (h : co = ((128 : Int32) ||| (z &&& (63 : Int32)))) : ∃ k : Fin 64, co = 128 ||| Int32.ofNat k.val := by
  have r := c_mask z 63 6 (by decide) (by decide)
  obtain ⟨k, hk⟩ := own_fin (n := 64) (by decide) (x := (z &&& (63 : Int32))) (by omega) (by omega)
  exact ⟨k, by rw [h, hk]⟩
theorem own_lead_i {z le : Int32} (h : le = ((194 : Int32) + ((z &&& (2147483647 : Int32)) % (30 : Int32)))) : own_lead (le.toInt8.toInt32) := by
  obtain ⟨k, rfl⟩ := own_le h; clear h; refine ⟨k, ?_⟩; revert k; decide +kernel
theorem own_cont_i {z co : Int32} (h : co = ((128 : Int32) ||| (z &&& (63 : Int32)))) : own_cont (co.toInt8.toInt32) := by
  obtain ⟨k, rfl⟩ := own_co h; clear h; refine ⟨k, ?_⟩; revert k; decide +kernel
theorem own_dec_i {z le w co : Int32} (h : le = ((194 : Int32) + ((z &&& (2147483647 : Int32)) % (30 : Int32)))) (g : co = ((128 : Int32) ||| (w &&& (63 : Int32)))) : own_dec (le.toInt8.toInt32) (co.toInt8.toInt32) = (((le &&& (31 : Int32)) <<< ((6 : Int32) &&& 31)) ||| (co &&& (63 : Int32))) := by
  have a : (le.toInt8.toInt32 &&& (31 : Int32)) = (le &&& (31 : Int32)) := by obtain ⟨k, rfl⟩ := own_le h; clear h; revert k; decide +kernel
  have b : (co.toInt8.toInt32 &&& (63 : Int32)) = (co &&& (63 : Int32)) := by obtain ⟨k, rfl⟩ := own_co g; clear g; revert k; decide +kernel
  rw [own_dec, a, b]
theorem own_l23 {ln : Int32} (h : ln = (1 : Int32) ∨ ln = (2 : Int32) ∨ ln = (3 : Int32)) (q : ¬ ln < (2 : Int32)) : ln = (2 : Int32) ∨ ln = (3 : Int32) := by
  rcases h with rfl | h; exact absurd (by decide) q; exact h
def own_cas (ln x0 x1 x2 el e0_ e1_ e2_ : Int32) : Prop := (own_asc x0 ∧ own_asc x1 ∧ own_asc x2 ∧ el = ln ∧ x0 = e0_ ∧ x1 = e1_ ∧ x2 = e2_) ∨ ((ln = (2 : Int32) ∨ ln = (3 : Int32)) ∧ own_lead x0 ∧ own_cont x1 ∧ own_asc x2 ∧ el = ln - (1 : Int32) ∧ own_dec x0 x1 = e0_ ∧ x2 = e1_ ∧ (0 : Int32) = e2_)
theorem own_eq_a {x : Int32} (h : own_asc x) : own_lc x = (x.toUInt32.toUInt16.toUInt32.toInt32) := by obtain ⟨k, rfl⟩ := h; revert k; decide +kernel
theorem own_eq_al {x : Int32} (h : own_asc x) : own_lc (x.toInt8.toInt32) = (x.toUInt32.toUInt16.toUInt32.toInt32) := by obtain ⟨k, rfl⟩ := h; revert k; decide +kernel
theorem own_eq_au {x : Int32} (h : own_asc x) : own_gc (((x.toUInt32.toUInt16.toUInt32.toInt32) >>> ((0 : Int32) &&& 31)).toInt8.toInt32) (((x.toUInt32.toUInt16.toUInt32.toInt32) >>> ((8 : Int32) &&& 31)).toInt8.toInt32) = (x.toUInt32.toUInt16.toUInt32.toInt32) := by obtain ⟨k, rfl⟩ := h; revert k; decide +kernel
theorem own_eq_l {x y : Int32} (h : own_lead x) (g : own_cont y) (q : own_lat x) : own_lc ((own_d2 x y).toInt8.toInt32) = ((own_dec x y).toUInt32.toUInt16.toUInt32.toInt32) := by
  obtain ⟨k, rfl⟩ := h; obtain ⟨j, rfl⟩ := g; revert k j; decide +kernel
theorem own_eq_u {x y : Int32} (h : own_lead x) (g : own_cont y) : own_gc (((own_d2 x y) >>> ((0 : Int32) &&& 31)).toInt8.toInt32) (((own_d2 x y) >>> ((8 : Int32) &&& 31)).toInt8.toInt32) = ((own_dec x y).toUInt32.toUInt16.toUInt32.toInt32) := by
  obtain ⟨k, rfl⟩ := h; obtain ⟨j, rfl⟩ := g; revert k j; decide +kernel
theorem own_same {Z : State} {args : Array Value} {t u : Term} {x y : Addr} (ht : t.eval args Z none [] Z = some (.ref x)) (hu : u.eval args Z none [] Z = some (.ref y)) (h : (Cond.eq t u).value args Z none Z [] = some true) : x = y := by
  simp only [Cond.value, ht, hu] at h
  simpa using h

def own_MF (l : Launch) (Z : State) (y : MethodName) (cw : Cond) (ws : List Cond) (R : Room) (A : Array Value) (h0 : Heap) (Q : Option Value → Heap → List Loc → Prop) : Prop := MetFree l y (head1 (cw :: ws) R) (fun a_ U_ => a_ = A ∧ Z.Warmed39 U_.vm ∧ U_.heap = h0) (fun _ _ _ _ _ => True) (fun _ U_ o_ U'_ => ∃ v_ L_, o_ = .returned v_ ∧ Q v_ U'_.heap L_ ∧ FrameEnd U_ o_ U'_ L_ R.cells R.slots)
def own_P (h0 : Heap) (n0 : Nat) (v : Value) : Option Value → Heap → List Loc → Prop := fun v' h L => v' = some v ∧ Fr n0 L ∧ h = h0
theorem om {ws : List Cond} {a0 args : Array Value} {Z s : State} {d : Cond} (hZ : Z.Warmed39 s.vm) (hw : ∀ d ∈ ws, d.before a0 Z = true) (i : Nat) (h : ws[i]? = some d) (hd : (d.onTables && d.keepsFace) = true := by first | rfl | simp [Cond.onTables, Cond.keepsFace, Cond.keeps, Cond.steady]) : d.before args s = true := mvT hZ (hw _ (List.mem_of_getElem? h)) hd
abbrev own_W (a0 : Array Value) (Z : State) : Prop := ∀ d ∈ tables_1, d.before a0 Z = true
theorem own_open {l : Launch} {Z : State} {y : MethodName} {cw : Cond} {ws : List Cond} {R : Room} {A : Array Value} {h0 : Heap} {Q : Option Value → Heap → List Loc → Prop} {bytes : ByteArray} {maxL : Nat} {ret : Option FieldType} {Ls : Array Slot} (hp : plainFor y = true)
    (his : ∀ args (s : State) m, (head1 (cw :: ws) R).pre.before args s = true → s.methodNamed? y = some m → ∃ meth c, s.vm.method? m = some meth ∧ meth.code = some c ∧ c.code = bytes ∧ c.maxLocals = maxL ∧ meth.sig.returnType = ret ∧ meth.locks = false)
    (k : ∀ p e s m below meth c s₁, BodyLoose p l y (head1 (cw :: ws) R) bytes maxL ret e s m A below meth c s₁ → Z.Warmed39 s.vm → p.tables.exec = Jvm.exec → c.code = bytes → c.maxLocals = maxL → s.vm.findClass y.cls = some m.cls → Stand p l e R s m A below meth c s₁ [] 0 0 → s₁.heap = h0 → own_Go p e below (own_K s Q R.cells R.slots) s₁ (mkF m 0 Ls []))
    (he : ∀ m, entryFrame m A maxL = mkF m 0 Ls [] := by intro m; first | (simp [entryFrame, mkF, argsToLocals, Value.category]; done) | rfl) : own_MF l Z y cw ws R A h0 Q := by
  refine MetFree.of_bodySF hp his ?_
  intro p e s m args below meth c s₁ Bd hml hP hK
  obtain ⟨rfl, hZ, hh⟩ := hP
  exact own_in (he m) (k p e s m below meth c s₁ Bd hZ Bd.exec Bd.bytes hml (findClass_of_methodNamed Bd.named) (Stand.of_body Bd) (by rw [← hh, Bd.state]; rfl))
abbrev vi (x : Int32) : Slot := .val (.int x)
abbrev vr (x : Addr) : Slot := .val (.ref x)
abbrev vl (x : Int64) : Slot := .val (.long x)
theorem own_w {ws : List Cond} {a0 : Array Value} {Z : State} (hw : ∀ d ∈ ws, d.before a0 Z = true) (i : Nat) {d : Cond} (h : ws[i]? = some d) : d.before a0 Z = true := hw _ (List.mem_of_getElem? h)
set_option maxRecDepth 65536
set_option maxHeartbeats 40000000
abbrev own_y0 : MethodName := (⟨"jdk/internal/util/Preconditions", "checkIndex", "(IILjava/util/function/BiFunction;)I"⟩ : MethodName)
abbrev own_y1 : MethodName := (⟨"java/lang/String", "checkIndex", "(II)V"⟩ : MethodName)
abbrev own_y2 : MethodName := (⟨"java/util/Objects", "requireNonNull", "(Ljava/lang/Object;)Ljava/lang/Object;"⟩ : MethodName)
abbrev own_y3 : MethodName := (⟨"jdk/internal/util/Preconditions", "checkFromIndexSize", "(IIILjava/util/function/BiFunction;)I"⟩ : MethodName)
abbrev own_y4 : MethodName := (⟨"java/lang/String", "checkBoundsOffCount", "(III)I"⟩ : MethodName)
abbrev own_y5 : MethodName := (⟨"java/lang/Math", "min", "(II)I"⟩ : MethodName)
abbrev own_y6 : MethodName := (⟨"java/lang/StringCoding", "countPositives", "([BII)I"⟩ : MethodName)
abbrev own_y7 : MethodName := (⟨"java/util/Arrays", "checkLength", "(II)V"⟩ : MethodName)
abbrev own_y8 : MethodName := (⟨"java/util/Arrays", "copyOfRangeByte", "([BII)[B"⟩ : MethodName)
abbrev own_y9 : MethodName := (⟨"java/util/Arrays", "copyOfRange", "([BII)[B"⟩ : MethodName)
abbrev own_y10 : MethodName := (⟨"java/util/Arrays", "copyOf", "([BI)[B"⟩ : MethodName)
abbrev own_y11 : MethodName := (⟨"java/lang/StringUTF16", "length", "([B)I"⟩ : MethodName)
abbrev own_y12 : MethodName := (⟨"java/lang/String", "decode2", "(II)C"⟩ : MethodName)
abbrev own_y13 : MethodName := (⟨"java/lang/String", "isNotContinuation", "(I)Z"⟩ : MethodName)
abbrev own_y14 : MethodName := (⟨"java/lang/StringUTF16", "newBytesLength", "(I)I"⟩ : MethodName)
abbrev own_y15 : MethodName := (⟨"java/lang/StringUTF16", "newBytesFor", "(I)[B"⟩ : MethodName)
abbrev own_y16 : MethodName := (⟨"java/lang/StringUTF16", "checkBoundsOffCount", "(II[B)V"⟩ : MethodName)
abbrev own_y17 : MethodName := (⟨"java/lang/StringUTF16", "inflate", "([BI[BII)V"⟩ : MethodName)
abbrev own_y18 : MethodName := (⟨"java/lang/StringLatin1", "inflate", "([BI[BII)V"⟩ : MethodName)
abbrev own_y19 : MethodName := (⟨"java/lang/StringUTF16", "putChar", "([BII)V"⟩ : MethodName)
abbrev own_y20 : MethodName := (⟨"java/lang/String", "decodeUTF8_UTF16", "([BII[BIZ)I"⟩ : MethodName)
abbrev own_y21 : MethodName := (⟨"java/lang/String", "<init>", "(Ljava/nio/charset/Charset;[BII)V"⟩ : MethodName)
abbrev own_y22 : MethodName := (⟨"java/lang/String", "<init>", "([BIILjava/nio/charset/Charset;)V"⟩ : MethodName)
abbrev own_y23 : MethodName := (⟨"com/example/dyadloom/dyadloom/core/TripletReader$Triplet", "columnId", "()Ljava/lang/String;"⟩ : MethodName)
abbrev own_y24 : MethodName := (⟨"java/lang/String", "isLatin1", "()Z"⟩ : MethodName)
abbrev own_y25 : MethodName := (⟨"java/lang/String", "coder", "()B"⟩ : MethodName)
abbrev own_y26 : MethodName := (⟨"java/lang/String", "length", "()I"⟩ : MethodName)
abbrev own_y27 : MethodName := (⟨"java/lang/StringUTF16", "checkIndex", "(I[B)V"⟩ : MethodName)
abbrev own_y28 : MethodName := (⟨"java/lang/StringUTF16", "getChar", "([BI)C"⟩ : MethodName)
abbrev own_y29 : MethodName := (⟨"java/lang/StringUTF16", "charAt", "([BI)C"⟩ : MethodName)
abbrev own_y30 : MethodName := (⟨"java/lang/StringLatin1", "charAt", "([BI)C"⟩ : MethodName)
abbrev own_y31 : MethodName := (⟨"java/lang/String", "charAt", "(I)C"⟩ : MethodName)
abbrev own_y32 : MethodName := (⟨"com/example/dyadloom/dyadloom/core/TripletColumnIdPinLaw", "at", "(Ljava/lang/String;II)Z"⟩ : MethodName)
abbrev own_y33 : MethodName := (⟨"com/example/dyadloom/dyadloom/core/TripletColumnIdPinLaw", "asc", "(JI)B"⟩ : MethodName)
abbrev own_y34 : MethodName := (⟨"com/example/dyadloom/dyadloom/core/TripletReader$Triplet", "<init>", "()V"⟩ : MethodName)
def own_BB (Z : State) (cs : Int32) (fm : Value) (u8 : Addr) : Prop := (¬ cs = (0 : Int32)) ∧ (fm.isRef = true) ∧ (Sta Z Z.heap "java/lang/String" "COMPACT_STRINGS" "Z" (.int cs)) ∧ (Sta Z Z.heap "jdk/internal/util/Preconditions" "SIOOBE_FORMATTER" "Ljava/util/function/BiFunction;" fm) ∧ (Sta Z Z.heap "java/lang/StringUTF16" "$assertionsDisabled" "Z" (.int 1)) ∧ (Sta Z Z.heap "java/lang/StringUTF16" "HI_BYTE_SHIFT" "I" (.int 0)) ∧ (Sta Z Z.heap "java/lang/StringUTF16" "LO_BYTE_SHIFT" "I" (.int 8)) ∧ (Sta Z Z.heap "java/nio/charset/StandardCharsets" "UTF_8" "Ljava/nio/charset/Charset;" (.ref u8)) ∧ (Sta Z Z.heap "sun/nio/cs/UTF_8" "INSTANCE" "Lsun/nio/cs/UTF_8;" (.ref u8)) ∧ (Exa Z Z.heap u8 "sun/nio/cs/UTF_8")
def own_r22 : Room := { frames := 0, cells := 0, slots := 0, locals := 0 }
theorem own_rm22 (l : Launch) (Z : State) (a0 : Array Value) (hw : own_W a0 Z) (i n : Int32) (cs : Int32) (fm : Value) (u8 : Addr) (h0 : Heap) (n0 : Nat) (Z0 : n0 ≤ h0.size) (O0 : Old Z n0 h0) (hi0 : ¬ i < (0 : Int32)) (hin : i < n) (HB : own_BB Z cs fm u8) :
  own_MF l Z own_y0 (Jvm.Cond.code own_y0 jdk_41_method_11_code 3 (some .int)) [] own_r22 #[(.int i), (.int n), fm] h0 (own_P h0 n0 (.int i)) := by
 refine own_open (plainFor_of_name own_pn0) hisR (Ls := #[vi i, vi n, .val fm]) ?_ (fun m => by rcases ref_cases HB.2.1 with rfl | ⟨y2, rfl⟩ <;> first | (simp [entryFrame, mkF, argsToLocals, Value.category]; done) | rfl)
 intro p e s m below meth c s₁ Bd hZ hx hby hml hown X0 e0
 have N0 := Fr.nil n0
 refine own_st (T' := s₁) (g' := (mkF m 17 #[vi i, vi n, .val fm] [(.int i)])) (fun t k => ?_) ?_
 ·refine XS.iloadN X0.here hx rfl (hb hby own_d22_0) rfl ?_
  refine XS.ifNo X0.here hx rfl (hb hby own_d22_1) rfl ((if0 _ _).trans (flt hi0).1) ?_
  refine XS.iloadN X0.here hx rfl (hb hby own_d22_4) rfl ?_
  refine XS.iloadN X0.here hx rfl (hb hby own_d22_5) rfl ?_
  refine XS.icmpYes X0.here hx rfl (pc0 := 6) (pc' := 16) rfl (hb hby own_d22_6) rfl (tlt hin).1 (by decide) (by decide) ?_
  refine XS.iloadN X0.here hx rfl (hb hby own_d22_16) rfl ?_
  exact k
 exact own_retI X0 hx Bd (hb hby own_d22_17) e0 (⟨rfl, N0, rfl⟩) (by decide) (by decide)
def own_r21 : Room := { frames := 1, cells := 0, slots := 0, locals := 14 }
def own_Q21 (Z : State) (i n : Int32) (cs : Int32) (fm : Value) (u8 : Addr) (h0 : Heap) (n0 : Nat) : Option Value → Heap → List Loc → Prop := fun v h L => v = none ∧ Fr n0 L ∧ h = h0
theorem own_rm21 (l : Launch) (Z : State) (a0 : Array Value) (hw : own_W a0 Z) (i n : Int32) (cs : Int32) (fm : Value) (u8 : Addr) (h0 : Heap) (n0 : Nat) (Z0 : n0 ≤ h0.size) (O0 : Old Z n0 h0) (hi0 : ¬ i < (0 : Int32)) (hin : i < n) (HB : own_BB Z cs fm u8) :
  own_MF l Z own_y1 (Jvm.Cond.code own_y1 jdk_42_method_155_code 2 none) [] own_r21 #[(.int i), (.int n)] h0 (own_Q21 Z i n cs fm u8 h0 n0) := by
 refine own_open (plainFor_of_name own_pn1) hisR (Ls := #[vi i, vi n]) ?_
 intro p e s m below meth c s₁ Bd hZ hx hby hml hown X0 e0
 obtain ⟨-, -, -, S_fm, -, -, -, -, -, -⟩ := id HB
 have N0 := Fr.nil n0
 refine own_st (T' := s₁) (g' := (mkF m 2 #[vi i, vi n] [(.int n), (.int i)])) (fun t k => ?_) ?_
 ·refine XS.iloadN X0.here hx rfl (hb hby own_d21_0) rfl ?_
  refine XS.iloadN X0.here hx rfl (hb hby own_d21_1) rfl ?_
  exact k
 have f1 := S_fm.ext O0.2
 obtain ⟨T2, X2, e2, st2⟩ := getS2 X0 hx hZ hown (host := "") (Or.inl (own_w hw 55 rfl)) Via.refl e0 f1 (g := (mkF m 2 #[vi i, vi n] [(.int n), (.int i)])) rfl (hb hby own_d21_2)
 refine own_st (T' := T2) (g' := (mkF m 5 #[vi i, vi n] [fm, (.int n), (.int i)])) st2 ?_
 obtain ⟨_, _, ⟨T3, L3, c3, n3⟩, -, X3, ⟨Lc3, hQ3, l3, y3, z3⟩, st3⟩ := Jvm.LawKit.callS X2 hx (y := own_y0) hown (om hZ hw 121 rfl) (om hZ hw 122 rfl) (om hZ hw 56 rfl) (om hZ hw 123 rfl) (by decide) (backOf (W := 0) (own_rm22 l Z a0 hw i n cs fm u8 h0 n0 Z0 O0 hi0 hin HB) hZ (own_w hw 123 rfl) (own_w hw 56 rfl) (by decide) (by decide)) (g := (mkF m 5 #[vi i, vi n] [fm, (.int n), (.int i)])) rfl (by rw [hml]; rfl) (argsL := [(.int i), (.int n), fm]) (rest := []) (lenOf own_pd0 rfl) rfl (by show 2 * 0 + _ ≤ _; exact Nat.le_of_eq rfl) (hb hby own_d21_5) (fun _ _ => ⟨rfl, e2, (by decide : 0 + 0 ≤ _), (by decide : 0 + 0 ≤ _)⟩)
 dsimp only [Pt.U, Pt.locs, Pt.cells, Pt.slots] at X3 l3 y3 z3 st3 hQ3
 subst l3 y3 z3
 obtain ⟨rfl, N3q, e3⟩ := hQ3
 have N3 := Fr.app N0 N3q
 refine own_st (T' := T3) (g' := (mkF m 8 #[vi i, vi n] [(.int i)])) st3 ?_
 refine own_st (T' := T3) (g' := (mkF m 9 #[vi i, vi n] [])) (fun t k => ?_) ?_
 ·refine XS.pop X3.here hx rfl (hb hby own_d21_8) rfl rfl ?_
  exact k
 exact own_retV X3 hx Bd (hb hby own_d21_9) e3 (⟨rfl, N3, rfl⟩) (by decide) (by decide)
def own_r7 : Room := { frames := 0, cells := 0, slots := 0, locals := 0 }
theorem own_rm7 (l : Launch) (Z : State) (a0 : Array Value) (hw : own_W a0 Z) (r : Addr) (cs : Int32) (fm : Value) (u8 : Addr) (h0 : Heap) (n0 : Nat) (Z0 : n0 ≤ h0.size) (O0 : Old Z n0 h0) (HB : own_BB Z cs fm u8) :
  own_MF l Z own_y2 (Jvm.Cond.code own_y2 jdk_31_method_10_code 1 (some (.object "java/lang/Object"))) [] own_r7 #[(.ref r)] h0 (own_P h0 n0 (.ref r)) := by
 refine own_open (plainFor_of_name own_pn2) hisR (Ls := #[vr r]) ?_
 intro p e s m below meth c s₁ Bd hZ hx hby hml hown X0 e0
 have N0 := Fr.nil n0
 refine own_st (T' := s₁) (g' := (mkF m 13 #[vr r] [(.ref r)])) (fun t k => ?_) ?_
 ·refine XS.aloadN X0.here hx rfl (hb hby own_d7_0) rfl rfl ?_
  refine XS.ifnonnullYes X0.here hx rfl (pc0 := 1) (pc' := 12) rfl (hb hby own_d7_1) rfl (by decide) (by decide) ?_
  refine XS.aloadN X0.here hx rfl (hb hby own_d7_12) rfl rfl ?_
  exact k
 exact own_retA X0 hx Bd rfl rfl (hb hby own_d7_13) e0 (⟨rfl, N0, rfl⟩) (by decide) (by decide)
def own_r9 : Room := { frames := 0, cells := 0, slots := 0, locals := 0 }
theorem own_rm9 (l : Launch) (Z : State) (a0 : Array Value) (hw : own_W a0 Z) (of_ sz_ lz : Int32) (cs : Int32) (fm : Value) (u8 : Addr) (h0 : Heap) (n0 : Nat) (Z0 : n0 ≤ h0.size) (O0 : Old Z n0 h0) (hq1 : ¬ ((lz ||| of_) ||| sz_) < (0 : Int32)) (hq2 : ¬ (lz - of_) < sz_) (HB : own_BB Z cs fm u8) :
  own_MF l Z own_y3 (Jvm.Cond.code own_y3 jdk_41_method_13_code 4 (some .int)) [] own_r9 #[(.int of_), (.int sz_), (.int lz), fm] h0 (own_P h0 n0 (.int of_)) := by
 refine own_open (plainFor_of_name own_pn0) hisR (Ls := #[vi of_, vi sz_, vi lz, .val fm]) ?_ (fun m => by rcases ref_cases HB.2.1 with rfl | ⟨y3, rfl⟩ <;> first | (simp [entryFrame, mkF, argsToLocals, Value.category]; done) | rfl)
 intro p e s m below meth c s₁ Bd hZ hx hby hml hown X0 e0
 have N0 := Fr.nil n0
 refine own_st (T' := s₁) (g' := (mkF m 24 #[vi of_, vi sz_, vi lz, .val fm] [(.int of_)])) (fun t k => ?_) ?_
 ·refine XS.iloadN X0.here hx rfl (hb hby own_d9_0) rfl ?_
  refine XS.iloadN X0.here hx rfl (hb hby own_d9_1) rfl ?_
  refine XS.ior X0.here hx rfl (hb hby own_d9_2) rfl ?_
  refine XS.iloadN X0.here hx rfl (hb hby own_d9_3) rfl ?_
  refine XS.ior X0.here hx rfl (hb hby own_d9_4) rfl ?_
  refine XS.ifNo X0.here hx rfl (hb hby own_d9_5) rfl ((if0 _ _).trans (flt hq1).1) ?_
  refine XS.iloadN X0.here hx rfl (hb hby own_d9_8) rfl ?_
  refine XS.iloadN X0.here hx rfl (hb hby own_d9_9) rfl ?_
  refine XS.iloadN X0.here hx rfl (hb hby own_d9_10) rfl ?_
  refine XS.isub X0.here hx rfl (hb hby own_d9_11) rfl ?_
  refine XS.icmpYes X0.here hx rfl (pc0 := 12) (pc' := 23) rfl (hb hby own_d9_12) rfl (flt hq2).2.2.2 (by decide) (by decide) ?_
  refine XS.iloadN X0.here hx rfl (hb hby own_d9_23) rfl ?_
  exact k
 exact own_retI X0 hx Bd (hb hby own_d9_24) e0 (⟨rfl, N0, rfl⟩) (by decide) (by decide)
def own_r8 : Room := { frames := 1, cells := 0, slots := 0, locals := 15 }
theorem own_rm8 (l : Launch) (Z : State) (a0 : Array Value) (hw : own_W a0 Z) (of_ sz_ lz : Int32) (cs : Int32) (fm : Value) (u8 : Addr) (h0 : Heap) (n0 : Nat) (Z0 : n0 ≤ h0.size) (O0 : Old Z n0 h0) (hq1 : ¬ ((lz ||| of_) ||| sz_) < (0 : Int32)) (hq2 : ¬ (lz - of_) < sz_) (HB : own_BB Z cs fm u8) :
  own_MF l Z own_y4 (Jvm.Cond.code own_y4 jdk_42_method_157_code 3 (some .int)) [] own_r8 #[(.int of_), (.int sz_), (.int lz)] h0 (own_P h0 n0 (.int of_)) := by
 refine own_open (plainFor_of_name own_pn1) hisR (Ls := #[vi of_, vi sz_, vi lz]) ?_
 intro p e s m below meth c s₁ Bd hZ hx hby hml hown X0 e0
 obtain ⟨-, -, -, S_fm, -, -, -, -, -, -⟩ := id HB
 have N0 := Fr.nil n0
 refine own_st (T' := s₁) (g' := (mkF m 3 #[vi of_, vi sz_, vi lz] [(.int lz), (.int sz_), (.int of_)])) (fun t k => ?_) ?_
 ·refine XS.iloadN X0.here hx rfl (hb hby own_d8_0) rfl ?_
  refine XS.iloadN X0.here hx rfl (hb hby own_d8_1) rfl ?_
  refine XS.iloadN X0.here hx rfl (hb hby own_d8_2) rfl ?_
  exact k
 have f1 := S_fm.ext O0.2
 obtain ⟨T2, X2, e2, st2⟩ := getS2 X0 hx hZ hown (host := "") (Or.inl (own_w hw 55 rfl)) Via.refl e0 f1 (g := (mkF m 3 #[vi of_, vi sz_, vi lz] [(.int lz), (.int sz_), (.int of_)])) rfl (hb hby own_d8_3)
 refine own_st (T' := T2) (g' := (mkF m 6 #[vi of_, vi sz_, vi lz] [fm, (.int lz), (.int sz_), (.int of_)])) st2 ?_
 obtain ⟨_, _, ⟨T3, L3, c3, n3⟩, -, X3, ⟨Lc3, hQ3, l3, y3, z3⟩, st3⟩ := Jvm.LawKit.callS X2 hx (y := own_y3) hown (om hZ hw 57 rfl) (om hZ hw 58 rfl) (om hZ hw 56 rfl) (om hZ hw 59 rfl) (by decide) (backOf (W := 0) (own_rm9 l Z a0 hw of_ sz_ lz cs fm u8 h0 n0 Z0 O0 hq1 hq2 HB) hZ (own_w hw 59 rfl) (own_w hw 56 rfl) (by decide) (by decide)) (g := (mkF m 6 #[vi of_, vi sz_, vi lz] [fm, (.int lz), (.int sz_), (.int of_)])) rfl (by rw [hml]; rfl) (argsL := [(.int of_), (.int sz_), (.int lz), fm]) (rest := []) (lenOf own_pd1 rfl) rfl (by show 2 * 0 + _ ≤ _; exact Nat.le_of_eq rfl) (hb hby own_d8_6) (fun _ _ => ⟨rfl, e2, (by decide : 0 + 0 ≤ _), (by decide : 0 + 0 ≤ _)⟩)
 dsimp only [Pt.U, Pt.locs, Pt.cells, Pt.slots] at X3 l3 y3 z3 st3 hQ3
 subst l3 y3 z3
 obtain ⟨rfl, N3q, e3⟩ := hQ3
 have N3 := Fr.app N0 N3q
 refine own_st (T' := T3) (g' := (mkF m 9 #[vi of_, vi sz_, vi lz] [(.int of_)])) st3 ?_
 exact own_retI X3 hx Bd (hb hby own_d8_9) e3 (⟨rfl, N3, rfl⟩) (by decide) (by decide)
def own_r4b : Room := { frames := 0, cells := 0, slots := 0, locals := 0 }
theorem own_rm4b (l : Launch) (Z : State) (a0 : Array Value) (hw : own_W a0 Z) (ma mb : Int32) (cs : Int32) (fm : Value) (u8 : Addr) (h0 : Heap) (n0 : Nat) (Z0 : n0 ≤ h0.size) (O0 : Old Z n0 h0) (hq : mb < ma) (HB : own_BB Z cs fm u8) :
  own_MF l Z own_y5 (Jvm.Cond.code own_y5 jdk_29_method_69_code 2 (some .int)) [] own_r4b #[(.int ma), (.int mb)] h0 (own_P h0 n0 (.int mb)) := by
 refine own_open (Jvm.Free.JP.mathPlain rfl (by decide +kernel)) hisR (Ls := #[vi ma, vi mb]) ?_
 intro p e s m below meth c s₁ Bd hZ hx hby hml hown X0 e0
 have N0 := Fr.nil n0
 refine own_st (T' := s₁) (g' := (mkF m 10 #[vi ma, vi mb] [(.int mb)])) (fun t k => ?_) ?_
 ·refine XS.iloadN X0.here hx rfl (hb hby own_d4_0) rfl ?_
  refine XS.iloadN X0.here hx rfl (hb hby own_d4_1) rfl ?_
  refine XS.icmpYes X0.here hx rfl (pc0 := 2) (pc' := 9) rfl (hb hby own_d4_2) rfl (tlt hq).2.2.1 (by decide) (by decide) ?_
  refine XS.iloadN X0.here hx rfl (hb hby own_d4_9) rfl ?_
  exact k
 exact own_retI X0 hx Bd (hb hby own_d4_10) e0 (⟨rfl, N0, rfl⟩) (by decide) (by decide)
def own_r4g : Room := { frames := 0, cells := 0, slots := 0, locals := 0 }
def own_Q4g (Z : State) (ma mb : Int32) (cs : Int32) (fm : Value) (u8 : Addr) (h0 : Heap) (n0 : Nat) : Option Value → Heap → List Loc → Prop := fun v h L => ∃ z : Int32, v = some (.int z) ∧ Fr n0 L ∧ h = h0
theorem own_rm4g (l : Launch) (Z : State) (a0 : Array Value) (hw : own_W a0 Z) (ma mb : Int32) (cs : Int32) (fm : Value) (u8 : Addr) (h0 : Heap) (n0 : Nat) (Z0 : n0 ≤ h0.size) (O0 : Old Z n0 h0) (HB : own_BB Z cs fm u8) :
  own_MF l Z own_y5 (Jvm.Cond.code own_y5 jdk_29_method_69_code 2 (some .int)) [] own_r4g #[(.int ma), (.int mb)] h0 (own_Q4g Z ma mb cs fm u8 h0 n0) := by
 refine own_open (Jvm.Free.JP.mathPlain rfl (by decide +kernel)) hisR (Ls := #[vi ma, vi mb]) ?_
 intro p e s m below meth c s₁ Bd hZ hx hby hml hown X0 e0
 have N0 := Fr.nil n0
 refine own_st (T' := s₁) (g' := (mkF m 2 #[vi ma, vi mb] [(.int mb), (.int ma)])) (fun t k => ?_) ?_
 ·refine XS.iloadN X0.here hx rfl (hb hby own_d4_0) rfl ?_
  refine XS.iloadN X0.here hx rfl (hb hby own_d4_1) rfl ?_
  exact k
 by_cases hc1 : mb < ma
 ·refine own_st (T' := s₁) (g' := (mkF m 10 #[vi ma, vi mb] [(.int mb)])) (fun t k => ?_) ?_
  ·refine XS.icmpYes X0.here hx rfl (pc0 := 2) (pc' := 9) rfl (hb hby own_d4_2) rfl (tlt hc1).2.2.1 (by decide) (by decide) ?_
   refine XS.iloadN X0.here hx rfl (hb hby own_d4_9) rfl ?_
   exact k
  exact own_retI X0 hx Bd (hb hby own_d4_10) e0 (⟨_, rfl, N0, rfl⟩) (by decide) (by decide)
 ·refine own_st (T' := s₁) (g' := (mkF m 10 #[vi ma, vi mb] [(.int ma)])) (fun t k => ?_) ?_
  ·refine XS.icmpNo X0.here hx rfl (hb hby own_d4_2) rfl (flt hc1).2.2.1 ?_
   refine XS.iloadN X0.here hx rfl (hb hby own_d4_5) rfl ?_
   refine XS.goto X0.here hx rfl (pc0 := 6) (pc' := 10) rfl (hb hby own_d4_6) (by decide) (by decide) ?_
   exact k
  exact own_retI X0 hx Bd (hb hby own_d4_10) e0 (⟨_, rfl, N0, rfl⟩) (by decide) (by decide)
def own_r11a1 : Room := { frames := 0, cells := 0, slots := 0, locals := 0 }
theorem own_rm11a1 (l : Launch) (Z : State) (a0 : Array Value) (hw : own_W a0 Z) (arr : Addr) (ka : ClassId) (y0 y1 y2 y3 y4 y5 y6 y7 st x0 x1 x2 : Int32) (cs : Int32) (fm : Value) (u8 : Addr) (h0 : Heap) (n0 : Nat) (Z0 : n0 ≤ h0.size) (O0 : Old Z n0 h0) (V_a : Arv Z h0 arr ka .byte (8 : Int32) [(.int y0), (.int y1), (.int y2), (.int y3), (.int y4), (.int y5), (.int y6), (.int y7)] (.int 0)) (hYX : own_YX y0 y1 y2 y3 y4 y5 y6 y7 st x0 x1 x2) (ha0 : ¬ x0 < (0 : Int32)) (HB : own_BB Z cs fm u8) :
  own_MF l Z own_y6 (Jvm.Cond.code own_y6 jdk_123_method_3_code 5 (some .int)) [] own_r11a1 #[(.ref arr), (.int st), (.int 1)] h0 (own_P h0 n0 (.int 1)) := by
 refine own_open (plainFor_of_name own_pn3) hisR (Ls := #[vr arr, vi st, vi 1, .unset, .unset]) ?_
 intro p e s m below meth c s₁ Bd hZ hx hby hml hown X0 e0
 have N0 := Fr.nil n0
 obtain ⟨ho, hx0, hx1, hx2⟩ := id hYX
 refine own_st (T' := s₁) (g' := (mkF m 16 #[vr arr, vi st, vi 1, vi (st + (1 : Int32)), vi st] [(.int st), (.ref arr)])) (fun t k => ?_) ?_
 ·refine XS.iloadN X0.here hx rfl (hb hby own_d11_0) rfl ?_
  refine XS.iloadN X0.here hx rfl (hb hby own_d11_1) rfl ?_
  refine XS.iadd X0.here hx rfl (hb hby own_d11_2) rfl ?_
  refine XS.istoreN X0.here hx rfl (hb hby own_d11_3) rfl (l' := #[vr arr, vi st, vi 1, vi (st + (1 : Int32)), .unset]) rfl ?_
  refine XS.iloadN X0.here hx rfl (hb hby own_d11_4) rfl ?_
  refine XS.istore X0.here hx rfl (hb hby own_d11_5) rfl (l' := #[vr arr, vi st, vi 1, vi (st + (1 : Int32)), vi st]) rfl ?_
  refine XS.iload X0.here hx rfl (hb hby own_d11_7) rfl ?_
  refine XS.iloadN X0.here hx rfl (hb hby own_d11_9) rfl ?_
  refine XS.icmpNo X0.here hx rfl (hb hby own_d11_10) rfl (tlt (by rcases ho with rfl|rfl|rfl|rfl<;>decide)).2.1 ?_
  refine XS.aloadN X0.here hx rfl (hb hby own_d11_13) rfl rfl ?_
  refine XS.iload X0.here hx rfl (hb hby own_d11_14) rfl ?_
  exact k
 obtain ⟨cl1, Ar1, q1, S1, M1, H1, G1⟩ := id V_a
 refine own_st (T' := s₁) (g' := (mkF m 32 #[vr arr, vi st, vi 1, vi (st + (1 : Int32)), vi (st + (1 : Int32))] [(.int 1)])) (fun t k => ?_) ?_
 ·refine X0.baloadBytes hx (j := st) (v := (.int x0)) (by rw [e0]; exact Ar1.1) (State.isArrayOf_alike hZ.alike Ar1.2.1) Ar1.2.2 (inb_of S1 ⟨(by rcases ho with rfl|rfl|rfl|rfl<;>decide), (by rcases ho with rfl|rfl|rfl|rfl<;>decide)⟩) (Has.at H1 (inb_of S1 ⟨(by rcases ho with rfl|rfl|rfl|rfl<;>decide), (by rcases ho with rfl|rfl|rfl|rfl<;>decide)⟩) hx0) (g := (mkF m 16 #[vr arr, vi st, vi 1, vi (st + (1 : Int32)), vi st] [(.int st), (.ref arr)])) rfl rfl (hb hby own_d11_16) _ ?_
  refine XS.ifYes X0.here hx rfl (pc0 := 17) (pc' := 25) rfl (hb hby own_d11_17) rfl ((if0 _ _).trans (flt ha0).2.1) (by decide) (by decide) ?_
  refine XS.iinc X0.here hx rfl (hb hby own_d11_25) rfl (l' := #[vr arr, vi st, vi 1, vi (st + (1 : Int32)), vi (st + (1 : Int32))]) rfl ?_
  refine XS.goto X0.here hx rfl (pc0 := 28) (pc' := 7) rfl (hb hby own_d11_28) (by decide) (by decide) ?_
  refine XS.iload X0.here hx rfl (hb hby own_d11_7) rfl ?_
  refine XS.iloadN X0.here hx rfl (hb hby own_d11_9) rfl ?_
  refine XS.icmpYes X0.here hx rfl (pc0 := 10) (pc' := 31) rfl (hb hby own_d11_10) rfl (flt (by rcases ho with rfl|rfl|rfl|rfl<;>decide)).2.1 (by decide) (by decide) ?_
  refine XS.iloadN X0.here hx rfl (hb hby own_d11_31) rfl ?_
  exact k
 exact own_retI X0 hx Bd (hb hby own_d11_32) e0 (⟨rfl, N0, rfl⟩) (by decide) (by decide)
def own_r11a2 : Room := { frames := 0, cells := 0, slots := 0, locals := 0 }
theorem own_rm11a2 (l : Launch) (Z : State) (a0 : Array Value) (hw : own_W a0 Z) (arr : Addr) (ka : ClassId) (y0 y1 y2 y3 y4 y5 y6 y7 st x0 x1 x2 : Int32) (cs : Int32) (fm : Value) (u8 : Addr) (h0 : Heap) (n0 : Nat) (Z0 : n0 ≤ h0.size) (O0 : Old Z n0 h0) (V_a : Arv Z h0 arr ka .byte (8 : Int32) [(.int y0), (.int y1), (.int y2), (.int y3), (.int y4), (.int y5), (.int y6), (.int y7)] (.int 0)) (hYX : own_YX y0 y1 y2 y3 y4 y5 y6 y7 st x0 x1 x2) (ha0 : ¬ x0 < (0 : Int32)) (ha1 : ¬ x1 < (0 : Int32)) (HB : own_BB Z cs fm u8) :
  own_MF l Z own_y6 (Jvm.Cond.code own_y6 jdk_123_method_3_code 5 (some .int)) [] own_r11a2 #[(.ref arr), (.int st), (.int 2)] h0 (own_P h0 n0 (.int 2)) := by
 refine own_open (plainFor_of_name own_pn3) hisR (Ls := #[vr arr, vi st, vi 2, .unset, .unset]) ?_
 intro p e s m below meth c s₁ Bd hZ hx hby hml hown X0 e0
 have N0 := Fr.nil n0
 obtain ⟨ho, hx0, hx1, hx2⟩ := id hYX
 refine own_st (T' := s₁) (g' := (mkF m 16 #[vr arr, vi st, vi 2, vi (st + (2 : Int32)), vi st] [(.int st), (.ref arr)])) (fun t k => ?_) ?_
 ·refine XS.iloadN X0.here hx rfl (hb hby own_d11_0) rfl ?_
  refine XS.iloadN X0.here hx rfl (hb hby own_d11_1) rfl ?_
  refine XS.iadd X0.here hx rfl (hb hby own_d11_2) rfl ?_
  refine XS.istoreN X0.here hx rfl (hb hby own_d11_3) rfl (l' := #[vr arr, vi st, vi 2, vi (st + (2 : Int32)), .unset]) rfl ?_
  refine XS.iloadN X0.here hx rfl (hb hby own_d11_4) rfl ?_
  refine XS.istore X0.here hx rfl (hb hby own_d11_5) rfl (l' := #[vr arr, vi st, vi 2, vi (st + (2 : Int32)), vi st]) rfl ?_
  refine XS.iload X0.here hx rfl (hb hby own_d11_7) rfl ?_
  refine XS.iloadN X0.here hx rfl (hb hby own_d11_9) rfl ?_
  refine XS.icmpNo X0.here hx rfl (hb hby own_d11_10) rfl (tlt (by rcases ho with rfl|rfl|rfl|rfl<;>decide)).2.1 ?_
  refine XS.aloadN X0.here hx rfl (hb hby own_d11_13) rfl rfl ?_
  refine XS.iload X0.here hx rfl (hb hby own_d11_14) rfl ?_
  exact k
 obtain ⟨cl1, Ar1, q1, S1, M1, H1, G1⟩ := id V_a
 refine own_st (T' := s₁) (g' := (mkF m 16 #[vr arr, vi st, vi 2, vi (st + (2 : Int32)), vi (st + (1 : Int32))] [(.int (st + (1 : Int32))), (.ref arr)])) (fun t k => ?_) ?_
 ·refine X0.baloadBytes hx (j := st) (v := (.int x0)) (by rw [e0]; exact Ar1.1) (State.isArrayOf_alike hZ.alike Ar1.2.1) Ar1.2.2 (inb_of S1 ⟨(by rcases ho with rfl|rfl|rfl|rfl<;>decide), (by rcases ho with rfl|rfl|rfl|rfl<;>decide)⟩) (Has.at H1 (inb_of S1 ⟨(by rcases ho with rfl|rfl|rfl|rfl<;>decide), (by rcases ho with rfl|rfl|rfl|rfl<;>decide)⟩) hx0) (g := (mkF m 16 #[vr arr, vi st, vi 2, vi (st + (2 : Int32)), vi st] [(.int st), (.ref arr)])) rfl rfl (hb hby own_d11_16) _ ?_
  refine XS.ifYes X0.here hx rfl (pc0 := 17) (pc' := 25) rfl (hb hby own_d11_17) rfl ((if0 _ _).trans (flt ha0).2.1) (by decide) (by decide) ?_
  refine XS.iinc X0.here hx rfl (hb hby own_d11_25) rfl (l' := #[vr arr, vi st, vi 2, vi (st + (2 : Int32)), vi (st + (1 : Int32))]) rfl ?_
  refine XS.goto X0.here hx rfl (pc0 := 28) (pc' := 7) rfl (hb hby own_d11_28) (by decide) (by decide) ?_
  refine XS.iload X0.here hx rfl (hb hby own_d11_7) rfl ?_
  refine XS.iloadN X0.here hx rfl (hb hby own_d11_9) rfl ?_
  refine XS.icmpNo X0.here hx rfl (hb hby own_d11_10) rfl (tlt (by rcases ho with rfl|rfl|rfl|rfl<;>decide)).2.1 ?_
  refine XS.aloadN X0.here hx rfl (hb hby own_d11_13) rfl rfl ?_
  refine XS.iload X0.here hx rfl (hb hby own_d11_14) rfl ?_
  exact k
 obtain ⟨cl2, Ar2, q2, S2, M2, H2, G2⟩ := id V_a
 refine own_st (T' := s₁) (g' := (mkF m 32 #[vr arr, vi st, vi 2, vi (st + (2 : Int32)), vi ((st + (1 : Int32)) + (1 : Int32))] [(.int 2)])) (fun t k => ?_) ?_
 ·refine X0.baloadBytes hx (j := (st + (1 : Int32))) (v := (.int x1)) (by rw [e0]; exact Ar2.1) (State.isArrayOf_alike hZ.alike Ar2.2.1) Ar2.2.2 (inb_of S2 ⟨(by rcases ho with rfl|rfl|rfl|rfl<;>decide), (by rcases ho with rfl|rfl|rfl|rfl<;>decide)⟩) (Has.at H2 (inb_of S2 ⟨(by rcases ho with rfl|rfl|rfl|rfl<;>decide), (by rcases ho with rfl|rfl|rfl|rfl<;>decide)⟩) hx1) (g := (mkF m 16 #[vr arr, vi st, vi 2, vi (st + (2 : Int32)), vi (st + (1 : Int32))] [(.int (st + (1 : Int32))), (.ref arr)])) rfl rfl (hb hby own_d11_16) _ ?_
  refine XS.ifYes X0.here hx rfl (pc0 := 17) (pc' := 25) rfl (hb hby own_d11_17) rfl ((if0 _ _).trans (flt ha1).2.1) (by decide) (by decide) ?_
  refine XS.iinc X0.here hx rfl (hb hby own_d11_25) rfl (l' := #[vr arr, vi st, vi 2, vi (st + (2 : Int32)), vi ((st + (1 : Int32)) + (1 : Int32))]) rfl ?_
  refine XS.goto X0.here hx rfl (pc0 := 28) (pc' := 7) rfl (hb hby own_d11_28) (by decide) (by decide) ?_
  refine XS.iload X0.here hx rfl (hb hby own_d11_7) rfl ?_
  refine XS.iloadN X0.here hx rfl (hb hby own_d11_9) rfl ?_
  refine XS.icmpYes X0.here hx rfl (pc0 := 10) (pc' := 31) rfl (hb hby own_d11_10) rfl (flt (by rcases ho with rfl|rfl|rfl|rfl<;>decide)).2.1 (by decide) (by decide) ?_
  refine XS.iloadN X0.here hx rfl (hb hby own_d11_31) rfl ?_
  exact k
 exact own_retI X0 hx Bd (hb hby own_d11_32) e0 (⟨rfl, N0, rfl⟩) (by decide) (by decide)
def own_r11m2 : Room := { frames := 0, cells := 0, slots := 0, locals := 0 }
theorem own_rm11m2 (l : Launch) (Z : State) (a0 : Array Value) (hw : own_W a0 Z) (arr : Addr) (ka : ClassId) (y0 y1 y2 y3 y4 y5 y6 y7 st x0 x1 x2 : Int32) (cs : Int32) (fm : Value) (u8 : Addr) (h0 : Heap) (n0 : Nat) (Z0 : n0 ≤ h0.size) (O0 : Old Z n0 h0) (V_a : Arv Z h0 arr ka .byte (8 : Int32) [(.int y0), (.int y1), (.int y2), (.int y3), (.int y4), (.int y5), (.int y6), (.int y7)] (.int 0)) (hYX : own_YX y0 y1 y2 y3 y4 y5 y6 y7 st x0 x1 x2) (hm0 : x0 < (0 : Int32)) (HB : own_BB Z cs fm u8) :
  own_MF l Z own_y6 (Jvm.Cond.code own_y6 jdk_123_method_3_code 5 (some .int)) [] own_r11m2 #[(.ref arr), (.int st), (.int 2)] h0 (own_P h0 n0 (.int 0)) := by
 refine own_open (plainFor_of_name own_pn3) hisR (Ls := #[vr arr, vi st, vi 2, .unset, .unset]) ?_
 intro p e s m below meth c s₁ Bd hZ hx hby hml hown X0 e0
 have N0 := Fr.nil n0
 obtain ⟨ho, hx0, hx1, hx2⟩ := id hYX
 refine own_st (T' := s₁) (g' := (mkF m 16 #[vr arr, vi st, vi 2, vi (st + (2 : Int32)), vi st] [(.int st), (.ref arr)])) (fun t k => ?_) ?_
 ·refine XS.iloadN X0.here hx rfl (hb hby own_d11_0) rfl ?_
  refine XS.iloadN X0.here hx rfl (hb hby own_d11_1) rfl ?_
  refine XS.iadd X0.here hx rfl (hb hby own_d11_2) rfl ?_
  refine XS.istoreN X0.here hx rfl (hb hby own_d11_3) rfl (l' := #[vr arr, vi st, vi 2, vi (st + (2 : Int32)), .unset]) rfl ?_
  refine XS.iloadN X0.here hx rfl (hb hby own_d11_4) rfl ?_
  refine XS.istore X0.here hx rfl (hb hby own_d11_5) rfl (l' := #[vr arr, vi st, vi 2, vi (st + (2 : Int32)), vi st]) rfl ?_
  refine XS.iload X0.here hx rfl (hb hby own_d11_7) rfl ?_
  refine XS.iloadN X0.here hx rfl (hb hby own_d11_9) rfl ?_
  refine XS.icmpNo X0.here hx rfl (hb hby own_d11_10) rfl (tlt (by rcases ho with rfl|rfl|rfl|rfl<;>decide)).2.1 ?_
  refine XS.aloadN X0.here hx rfl (hb hby own_d11_13) rfl rfl ?_
  refine XS.iload X0.here hx rfl (hb hby own_d11_14) rfl ?_
  exact k
 obtain ⟨cl1, Ar1, q1, S1, M1, H1, G1⟩ := id V_a
 refine own_st (T' := s₁) (g' := (mkF m 24 #[vr arr, vi st, vi 2, vi (st + (2 : Int32)), vi st] [(.int (st - st))])) (fun t k => ?_) ?_
 ·refine X0.baloadBytes hx (j := st) (v := (.int x0)) (by rw [e0]; exact Ar1.1) (State.isArrayOf_alike hZ.alike Ar1.2.1) Ar1.2.2 (inb_of S1 ⟨(by rcases ho with rfl|rfl|rfl|rfl<;>decide), (by rcases ho with rfl|rfl|rfl|rfl<;>decide)⟩) (Has.at H1 (inb_of S1 ⟨(by rcases ho with rfl|rfl|rfl|rfl<;>decide), (by rcases ho with rfl|rfl|rfl|rfl<;>decide)⟩) hx0) (g := (mkF m 16 #[vr arr, vi st, vi 2, vi (st + (2 : Int32)), vi st] [(.int st), (.ref arr)])) rfl rfl (hb hby own_d11_16) _ ?_
  refine XS.ifNo X0.here hx rfl (hb hby own_d11_17) rfl ((if0 _ _).trans (tlt hm0).2.1) ?_
  refine XS.iload X0.here hx rfl (hb hby own_d11_20) rfl ?_
  refine XS.iloadN X0.here hx rfl (hb hby own_d11_22) rfl ?_
  refine XS.isub X0.here hx rfl (hb hby own_d11_23) rfl ?_
  exact k
 rw [show (st - st) = (0 : Int32) from (by rcases ho with rfl|rfl|rfl|rfl<;>decide)]
 exact own_retI X0 hx Bd (hb hby own_d11_24) e0 (⟨rfl, N0, rfl⟩) (by decide) (by decide)
def own_r11a3 : Room := { frames := 0, cells := 0, slots := 0, locals := 0 }
theorem own_rm11a3 (l : Launch) (Z : State) (a0 : Array Value) (hw : own_W a0 Z) (arr : Addr) (ka : ClassId) (y0 y1 y2 y3 y4 y5 y6 y7 st x0 x1 x2 : Int32) (cs : Int32) (fm : Value) (u8 : Addr) (h0 : Heap) (n0 : Nat) (Z0 : n0 ≤ h0.size) (O0 : Old Z n0 h0) (V_a : Arv Z h0 arr ka .byte (8 : Int32) [(.int y0), (.int y1), (.int y2), (.int y3), (.int y4), (.int y5), (.int y6), (.int y7)] (.int 0)) (hYX : own_YX y0 y1 y2 y3 y4 y5 y6 y7 st x0 x1 x2) (ha0 : ¬ x0 < (0 : Int32)) (ha1 : ¬ x1 < (0 : Int32)) (ha2 : ¬ x2 < (0 : Int32)) (HB : own_BB Z cs fm u8) :
  own_MF l Z own_y6 (Jvm.Cond.code own_y6 jdk_123_method_3_code 5 (some .int)) [] own_r11a3 #[(.ref arr), (.int st), (.int 3)] h0 (own_P h0 n0 (.int 3)) := by
 refine own_open (plainFor_of_name own_pn3) hisR (Ls := #[vr arr, vi st, vi 3, .unset, .unset]) ?_
 intro p e s m below meth c s₁ Bd hZ hx hby hml hown X0 e0
 have N0 := Fr.nil n0
 obtain ⟨ho, hx0, hx1, hx2⟩ := id hYX
 refine own_st (T' := s₁) (g' := (mkF m 16 #[vr arr, vi st, vi 3, vi (st + (3 : Int32)), vi st] [(.int st), (.ref arr)])) (fun t k => ?_) ?_
 ·refine XS.iloadN X0.here hx rfl (hb hby own_d11_0) rfl ?_
  refine XS.iloadN X0.here hx rfl (hb hby own_d11_1) rfl ?_
  refine XS.iadd X0.here hx rfl (hb hby own_d11_2) rfl ?_
  refine XS.istoreN X0.here hx rfl (hb hby own_d11_3) rfl (l' := #[vr arr, vi st, vi 3, vi (st + (3 : Int32)), .unset]) rfl ?_
  refine XS.iloadN X0.here hx rfl (hb hby own_d11_4) rfl ?_
  refine XS.istore X0.here hx rfl (hb hby own_d11_5) rfl (l' := #[vr arr, vi st, vi 3, vi (st + (3 : Int32)), vi st]) rfl ?_
  refine XS.iload X0.here hx rfl (hb hby own_d11_7) rfl ?_
  refine XS.iloadN X0.here hx rfl (hb hby own_d11_9) rfl ?_
  refine XS.icmpNo X0.here hx rfl (hb hby own_d11_10) rfl (tlt (by rcases ho with rfl|rfl|rfl|rfl<;>decide)).2.1 ?_
  refine XS.aloadN X0.here hx rfl (hb hby own_d11_13) rfl rfl ?_
  refine XS.iload X0.here hx rfl (hb hby own_d11_14) rfl ?_
  exact k
 obtain ⟨cl1, Ar1, q1, S1, M1, H1, G1⟩ := id V_a
 refine own_st (T' := s₁) (g' := (mkF m 16 #[vr arr, vi st, vi 3, vi (st + (3 : Int32)), vi (st + (1 : Int32))] [(.int (st + (1 : Int32))), (.ref arr)])) (fun t k => ?_) ?_
 ·refine X0.baloadBytes hx (j := st) (v := (.int x0)) (by rw [e0]; exact Ar1.1) (State.isArrayOf_alike hZ.alike Ar1.2.1) Ar1.2.2 (inb_of S1 ⟨(by rcases ho with rfl|rfl|rfl|rfl<;>decide), (by rcases ho with rfl|rfl|rfl|rfl<;>decide)⟩) (Has.at H1 (inb_of S1 ⟨(by rcases ho with rfl|rfl|rfl|rfl<;>decide), (by rcases ho with rfl|rfl|rfl|rfl<;>decide)⟩) hx0) (g := (mkF m 16 #[vr arr, vi st, vi 3, vi (st + (3 : Int32)), vi st] [(.int st), (.ref arr)])) rfl rfl (hb hby own_d11_16) _ ?_
  refine XS.ifYes X0.here hx rfl (pc0 := 17) (pc' := 25) rfl (hb hby own_d11_17) rfl ((if0 _ _).trans (flt ha0).2.1) (by decide) (by decide) ?_
  refine XS.iinc X0.here hx rfl (hb hby own_d11_25) rfl (l' := #[vr arr, vi st, vi 3, vi (st + (3 : Int32)), vi (st + (1 : Int32))]) rfl ?_
  refine XS.goto X0.here hx rfl (pc0 := 28) (pc' := 7) rfl (hb hby own_d11_28) (by decide) (by decide) ?_
  refine XS.iload X0.here hx rfl (hb hby own_d11_7) rfl ?_
  refine XS.iloadN X0.here hx rfl (hb hby own_d11_9) rfl ?_
  refine XS.icmpNo X0.here hx rfl (hb hby own_d11_10) rfl (tlt (by rcases ho with rfl|rfl|rfl|rfl<;>decide)).2.1 ?_
  refine XS.aloadN X0.here hx rfl (hb hby own_d11_13) rfl rfl ?_
  refine XS.iload X0.here hx rfl (hb hby own_d11_14) rfl ?_
  exact k
 obtain ⟨cl2, Ar2, q2, S2, M2, H2, G2⟩ := id V_a
 refine own_st (T' := s₁) (g' := (mkF m 16 #[vr arr, vi st, vi 3, vi (st + (3 : Int32)), vi ((st + (1 : Int32)) + (1 : Int32))] [(.int ((st + (1 : Int32)) + (1 : Int32))), (.ref arr)])) (fun t k => ?_) ?_
 ·refine X0.baloadBytes hx (j := (st + (1 : Int32))) (v := (.int x1)) (by rw [e0]; exact Ar2.1) (State.isArrayOf_alike hZ.alike Ar2.2.1) Ar2.2.2 (inb_of S2 ⟨(by rcases ho with rfl|rfl|rfl|rfl<;>decide), (by rcases ho with rfl|rfl|rfl|rfl<;>decide)⟩) (Has.at H2 (inb_of S2 ⟨(by rcases ho with rfl|rfl|rfl|rfl<;>decide), (by rcases ho with rfl|rfl|rfl|rfl<;>decide)⟩) hx1) (g := (mkF m 16 #[vr arr, vi st, vi 3, vi (st + (3 : Int32)), vi (st + (1 : Int32))] [(.int (st + (1 : Int32))), (.ref arr)])) rfl rfl (hb hby own_d11_16) _ ?_
  refine XS.ifYes X0.here hx rfl (pc0 := 17) (pc' := 25) rfl (hb hby own_d11_17) rfl ((if0 _ _).trans (flt ha1).2.1) (by decide) (by decide) ?_
  refine XS.iinc X0.here hx rfl (hb hby own_d11_25) rfl (l' := #[vr arr, vi st, vi 3, vi (st + (3 : Int32)), vi ((st + (1 : Int32)) + (1 : Int32))]) rfl ?_
  refine XS.goto X0.here hx rfl (pc0 := 28) (pc' := 7) rfl (hb hby own_d11_28) (by decide) (by decide) ?_
  refine XS.iload X0.here hx rfl (hb hby own_d11_7) rfl ?_
  refine XS.iloadN X0.here hx rfl (hb hby own_d11_9) rfl ?_
  refine XS.icmpNo X0.here hx rfl (hb hby own_d11_10) rfl (tlt (by rcases ho with rfl|rfl|rfl|rfl<;>decide)).2.1 ?_
  refine XS.aloadN X0.here hx rfl (hb hby own_d11_13) rfl rfl ?_
  refine XS.iload X0.here hx rfl (hb hby own_d11_14) rfl ?_
  exact k
 obtain ⟨cl3, Ar3, q3, S3, M3, H3, G3⟩ := id V_a
 refine own_st (T' := s₁) (g' := (mkF m 32 #[vr arr, vi st, vi 3, vi (st + (3 : Int32)), vi (((st + (1 : Int32)) + (1 : Int32)) + (1 : Int32))] [(.int 3)])) (fun t k => ?_) ?_
 ·refine X0.baloadBytes hx (j := ((st + (1 : Int32)) + (1 : Int32))) (v := (.int x2)) (by rw [e0]; exact Ar3.1) (State.isArrayOf_alike hZ.alike Ar3.2.1) Ar3.2.2 (inb_of S3 ⟨(by rcases ho with rfl|rfl|rfl|rfl<;>decide), (by rcases ho with rfl|rfl|rfl|rfl<;>decide)⟩) (Has.at H3 (inb_of S3 ⟨(by rcases ho with rfl|rfl|rfl|rfl<;>decide), (by rcases ho with rfl|rfl|rfl|rfl<;>decide)⟩) hx2) (g := (mkF m 16 #[vr arr, vi st, vi 3, vi (st + (3 : Int32)), vi ((st + (1 : Int32)) + (1 : Int32))] [(.int ((st + (1 : Int32)) + (1 : Int32))), (.ref arr)])) rfl rfl (hb hby own_d11_16) _ ?_
  refine XS.ifYes X0.here hx rfl (pc0 := 17) (pc' := 25) rfl (hb hby own_d11_17) rfl ((if0 _ _).trans (flt ha2).2.1) (by decide) (by decide) ?_
  refine XS.iinc X0.here hx rfl (hb hby own_d11_25) rfl (l' := #[vr arr, vi st, vi 3, vi (st + (3 : Int32)), vi (((st + (1 : Int32)) + (1 : Int32)) + (1 : Int32))]) rfl ?_
  refine XS.goto X0.here hx rfl (pc0 := 28) (pc' := 7) rfl (hb hby own_d11_28) (by decide) (by decide) ?_
  refine XS.iload X0.here hx rfl (hb hby own_d11_7) rfl ?_
  refine XS.iloadN X0.here hx rfl (hb hby own_d11_9) rfl ?_
  refine XS.icmpYes X0.here hx rfl (pc0 := 10) (pc' := 31) rfl (hb hby own_d11_10) rfl (flt (by rcases ho with rfl|rfl|rfl|rfl<;>decide)).2.1 (by decide) (by decide) ?_
  refine XS.iloadN X0.here hx rfl (hb hby own_d11_31) rfl ?_
  exact k
 exact own_retI X0 hx Bd (hb hby own_d11_32) e0 (⟨rfl, N0, rfl⟩) (by decide) (by decide)
def own_r11m3 : Room := { frames := 0, cells := 0, slots := 0, locals := 0 }
theorem own_rm11m3 (l : Launch) (Z : State) (a0 : Array Value) (hw : own_W a0 Z) (arr : Addr) (ka : ClassId) (y0 y1 y2 y3 y4 y5 y6 y7 st x0 x1 x2 : Int32) (cs : Int32) (fm : Value) (u8 : Addr) (h0 : Heap) (n0 : Nat) (Z0 : n0 ≤ h0.size) (O0 : Old Z n0 h0) (V_a : Arv Z h0 arr ka .byte (8 : Int32) [(.int y0), (.int y1), (.int y2), (.int y3), (.int y4), (.int y5), (.int y6), (.int y7)] (.int 0)) (hYX : own_YX y0 y1 y2 y3 y4 y5 y6 y7 st x0 x1 x2) (hm0 : x0 < (0 : Int32)) (HB : own_BB Z cs fm u8) :
  own_MF l Z own_y6 (Jvm.Cond.code own_y6 jdk_123_method_3_code 5 (some .int)) [] own_r11m3 #[(.ref arr), (.int st), (.int 3)] h0 (own_P h0 n0 (.int 0)) := by
 refine own_open (plainFor_of_name own_pn3) hisR (Ls := #[vr arr, vi st, vi 3, .unset, .unset]) ?_
 intro p e s m below meth c s₁ Bd hZ hx hby hml hown X0 e0
 have N0 := Fr.nil n0
 obtain ⟨ho, hx0, hx1, hx2⟩ := id hYX
 refine own_st (T' := s₁) (g' := (mkF m 16 #[vr arr, vi st, vi 3, vi (st + (3 : Int32)), vi st] [(.int st), (.ref arr)])) (fun t k => ?_) ?_
 ·refine XS.iloadN X0.here hx rfl (hb hby own_d11_0) rfl ?_
  refine XS.iloadN X0.here hx rfl (hb hby own_d11_1) rfl ?_
  refine XS.iadd X0.here hx rfl (hb hby own_d11_2) rfl ?_
  refine XS.istoreN X0.here hx rfl (hb hby own_d11_3) rfl (l' := #[vr arr, vi st, vi 3, vi (st + (3 : Int32)), .unset]) rfl ?_
  refine XS.iloadN X0.here hx rfl (hb hby own_d11_4) rfl ?_
  refine XS.istore X0.here hx rfl (hb hby own_d11_5) rfl (l' := #[vr arr, vi st, vi 3, vi (st + (3 : Int32)), vi st]) rfl ?_
  refine XS.iload X0.here hx rfl (hb hby own_d11_7) rfl ?_
  refine XS.iloadN X0.here hx rfl (hb hby own_d11_9) rfl ?_
  refine XS.icmpNo X0.here hx rfl (hb hby own_d11_10) rfl (tlt (by rcases ho with rfl|rfl|rfl|rfl<;>decide)).2.1 ?_
  refine XS.aloadN X0.here hx rfl (hb hby own_d11_13) rfl rfl ?_
  refine XS.iload X0.here hx rfl (hb hby own_d11_14) rfl ?_
  exact k
 obtain ⟨cl1, Ar1, q1, S1, M1, H1, G1⟩ := id V_a
 refine own_st (T' := s₁) (g' := (mkF m 24 #[vr arr, vi st, vi 3, vi (st + (3 : Int32)), vi st] [(.int (st - st))])) (fun t k => ?_) ?_
 ·refine X0.baloadBytes hx (j := st) (v := (.int x0)) (by rw [e0]; exact Ar1.1) (State.isArrayOf_alike hZ.alike Ar1.2.1) Ar1.2.2 (inb_of S1 ⟨(by rcases ho with rfl|rfl|rfl|rfl<;>decide), (by rcases ho with rfl|rfl|rfl|rfl<;>decide)⟩) (Has.at H1 (inb_of S1 ⟨(by rcases ho with rfl|rfl|rfl|rfl<;>decide), (by rcases ho with rfl|rfl|rfl|rfl<;>decide)⟩) hx0) (g := (mkF m 16 #[vr arr, vi st, vi 3, vi (st + (3 : Int32)), vi st] [(.int st), (.ref arr)])) rfl rfl (hb hby own_d11_16) _ ?_
  refine XS.ifNo X0.here hx rfl (hb hby own_d11_17) rfl ((if0 _ _).trans (tlt hm0).2.1) ?_
  refine XS.iload X0.here hx rfl (hb hby own_d11_20) rfl ?_
  refine XS.iloadN X0.here hx rfl (hb hby own_d11_22) rfl ?_
  refine XS.isub X0.here hx rfl (hb hby own_d11_23) rfl ?_
  exact k
 rw [show (st - st) = (0 : Int32) from (by rcases ho with rfl|rfl|rfl|rfl<;>decide)]
 exact own_retI X0 hx Bd (hb hby own_d11_24) e0 (⟨rfl, N0, rfl⟩) (by decide) (by decide)
def own_r14 : Room := { frames := 0, cells := 0, slots := 0, locals := 0 }
def own_Q14 (Z : State) (fr_ to_ : Int32) (cs : Int32) (fm : Value) (u8 : Addr) (h0 : Heap) (n0 : Nat) : Option Value → Heap → List Loc → Prop := fun v h L => v = none ∧ Fr n0 L ∧ h = h0
theorem own_rm14 (l : Launch) (Z : State) (a0 : Array Value) (hw : own_W a0 Z) (fr_ to_ : Int32) (cs : Int32) (fm : Value) (u8 : Addr) (h0 : Heap) (n0 : Nat) (Z0 : n0 ≤ h0.size) (O0 : Old Z n0 h0) (hq : ¬ to_ < fr_) (HB : own_BB Z cs fm u8) :
  own_MF l Z own_y7 (Jvm.Cond.code own_y7 jdk_65_method_131_code 2 none) [] own_r14 #[(.int fr_), (.int to_)] h0 (own_Q14 Z fr_ to_ cs fm u8 h0 n0) := by
 refine own_open (plainFor_of_name own_pn4) hisR (Ls := #[vi fr_, vi to_]) ?_
 intro p e s m below meth c s₁ Bd hZ hx hby hml hown X0 e0
 have N0 := Fr.nil n0
 refine own_st (T' := s₁) (g' := (mkF m 37 #[vi fr_, vi to_] [])) (fun t k => ?_) ?_
 ·refine XS.iloadN X0.here hx rfl (hb hby own_d14_0) rfl ?_
  refine XS.iloadN X0.here hx rfl (hb hby own_d14_1) rfl ?_
  refine XS.icmpYes X0.here hx rfl (pc0 := 2) (pc' := 37) rfl (hb hby own_d14_2) rfl (flt hq).2.1 (by decide) (by decide) ?_
  exact k
 exact own_retV X0 hx Bd (hb hby own_d14_37) e0 (⟨rfl, N0, rfl⟩) (by decide) (by decide)
def own_r13_1 : Room := { frames := 1, cells := 1, slots := 1, locals := 18 }
def own_Q13_1 (Z : State) (arr : Addr) (ka : ClassId) (y0 y1 y2 y3 y4 y5 y6 y7 st x0 x1 x2 : Int32) (cs : Int32) (fm : Value) (u8 : Addr) (h0 : Heap) (n0 : Nat) : Option Value → Heap → List Loc → Prop := fun v h L => ∃ r k, v = some (.ref r) ∧ Fr n0 L ∧ Keep h0 h [] ∧ n0 ≤ r ∧ h0.size ≤ r ∧ Arv Z h r k .byte (1 : Int32) [(.int x0)] (.int 0)
theorem own_rm13_1 (l : Launch) (Z : State) (a0 : Array Value) (hw : own_W a0 Z) (arr : Addr) (ka : ClassId) (y0 y1 y2 y3 y4 y5 y6 y7 st x0 x1 x2 : Int32) (cs : Int32) (fm : Value) (u8 : Addr) (h0 : Heap) (n0 : Nat) (Z0 : n0 ≤ h0.size) (O0 : Old Z n0 h0) (V_a : Arv Z h0 arr ka .byte (8 : Int32) [(.int y0), (.int y1), (.int y2), (.int y3), (.int y4), (.int y5), (.int y6), (.int y7)] (.int 0)) (hYX : own_YX y0 y1 y2 y3 y4 y5 y6 y7 st x0 x1 x2) (HB : own_BB Z cs fm u8) :
  own_MF l Z own_y8 (Jvm.Cond.code own_y8 jdk_65_method_133_code 5 (some (.array .byte))) [] own_r13_1 #[(.ref arr), (.int st), (.int (st + (1 : Int32)))] h0 (own_Q13_1 Z arr ka y0 y1 y2 y3 y4 y5 y6 y7 st x0 x1 x2 cs fm u8 h0 n0) := by
 refine own_open (plainFor_of_name own_pn4) hisR (Ls := #[vr arr, vi st, vi (st + (1 : Int32)), .unset, .unset]) ?_
 intro p e s m below meth c s₁ Bd hZ hx hby hml hown X0 e0
 obtain ⟨-, -, -, -, -, -, -, -, -, E_u8⟩ := id HB
 have N0 := Fr.nil n0
 obtain ⟨ho, hx0, hx1, hx2⟩ := id hYX
 refine own_st (T' := s₁) (g' := (mkF m 2 #[vr arr, vi st, vi (st + (1 : Int32)), .unset, .unset] [(.int (st + (1 : Int32))), (.int st)])) (fun t k => ?_) ?_
 ·refine XS.iloadN X0.here hx rfl (hb hby own_d13_0) rfl ?_
  refine XS.iloadN X0.here hx rfl (hb hby own_d13_1) rfl ?_
  exact k
 obtain ⟨_, _, ⟨T1, L1, c1, n1⟩, -, X1, ⟨Lc1, hQ1, l1, y1, z1⟩, st1⟩ := Jvm.LawKit.callS X0 hx (y := own_y7) hown (om hZ hw 79 rfl) (om hZ hw 80 rfl) (om hZ hw 74 rfl) (om hZ hw 81 rfl) (by decide) (backOf (W := 0) (own_rm14 l Z a0 hw st (st + (1 : Int32)) cs fm u8 h0 n0 Z0 O0 (by rcases ho with rfl|rfl|rfl|rfl<;>decide) HB) hZ (own_w hw 81 rfl) (own_w hw 74 rfl) (by decide) (by decide)) (g := (mkF m 2 #[vr arr, vi st, vi (st + (1 : Int32)), .unset, .unset] [(.int (st + (1 : Int32))), (.int st)])) rfl (by rw [hml]; rfl) (argsL := [(.int st), (.int (st + (1 : Int32)))]) (rest := []) (lenOf own_pd2 rfl) rfl (by show 2 * 0 + _ ≤ _; exact Nat.le_of_eq rfl) (hb hby own_d13_2) (fun _ _ => ⟨rfl, e0, (by decide : 0 + 0 ≤ _), (by decide : 0 + 0 ≤ _)⟩)
 dsimp only [Pt.U, Pt.locs, Pt.cells, Pt.slots] at X1 l1 y1 z1 st1 hQ1
 subst l1 y1 z1
 obtain ⟨rfl, N1q, e1⟩ := hQ1
 have N1 := Fr.app N0 N1q
 refine own_st (T' := T1) (g' := (mkF m 5 #[vr arr, vi st, vi (st + (1 : Int32)), .unset, .unset] [])) st1 ?_
 refine own_st (T' := T1) (g' := (mkF m 8 #[vr arr, vi st, vi (st + (1 : Int32)), .unset, .unset] [(.int ((st + (1 : Int32)) - st))])) (fun t k => ?_) ?_
 ·refine XS.iloadN X1.here hx rfl (hb hby own_d13_5) rfl ?_
  refine XS.iloadN X1.here hx rfl (hb hby own_d13_6) rfl ?_
  refine XS.isub X1.here hx rfl (hb hby own_d13_7) rfl ?_
  exact k
 rw [show ((st + (1 : Int32)) - st) = (1 : Int32) from (by rcases ho with rfl|rfl|rfl|rfl<;>decide)]
 refine own_st (T' := T1) (g' := (mkF m 10 #[vr arr, vi st, vi (st + (1 : Int32)), vi 1, .unset] [(.int 1)])) (fun t k => ?_) ?_
 ·refine XS.istoreN X1.here hx rfl (hb hby own_d13_8) rfl (l' := #[vr arr, vi st, vi (st + (1 : Int32)), vi 1, .unset]) rfl ?_
  refine XS.iloadN X1.here hx rfl (hb hby own_d13_9) rfl ?_
  exact k
 obtain ⟨T2, h2, k2, X2, e2, E2, A2, st2⟩ := newP X1 hx hZ (own_w hw 1 rfl) e1 (g := (mkF m 10 #[vr arr, vi st, vi (st + (1 : Int32)), vi 1, .unset] [(.int 1)])) rfl (hb hby own_d13_10) rfl (by decide) (cap := 1) (by decide) (by decide) (by decide) (by decide)
 obtain ⟨b2, g2⟩ : ∃ z, z = h0.size := ⟨_, rfl⟩
 rw [← g2] at A2 st2
 have sz2 : h0.size ≤ b2 := Nat.le_of_eq g2.symm
 have ne_arr_b2 : arr ≠ b2 := Nat.ne_of_lt (Nat.lt_of_lt_of_le V_a.lt sz2)
 have f3 := E_u8.ext O0.2
 have ne_u8_b2 : u8 ≠ b2 := Nat.ne_of_lt (Nat.lt_of_lt_of_le f3.lt sz2)
 have g_b2 : n0 ≤ b2 := Nat.le_trans Z0 sz2
 have hz_b2 : h0.size ≤ b2 := Nat.le_trans (Keep.refl h0 []).1 sz2
 have K2 : Keep h0 h2 [] := (Keep.refl h0 []).ext E2
 have Z2 : n0 ≤ h2.size := Nat.le_trans Z0 E2.1
 have O2 := O0.ext E2
 have V2 : Arv Z h2 b2 k2 .byte (1 : Int32) [(.int 0)] (.int 0) := (Arv.new A2 (by decide)).pad (pad_rep [] (.int 0) 1)
 refine own_st (T' := T2) (g' := (mkF m 12 #[vr arr, vi st, vi (st + (1 : Int32)), vi 1, .unset] [(.ref b2)])) st2 ?_
 refine own_st (T' := T2) (g' := (mkF m 20 #[vr arr, vi st, vi (st + (1 : Int32)), vi 1, vr b2] [(.ref arr), (.int 0), (.ref b2), (.int st), (.ref arr)])) (fun t k => ?_) ?_
 ·refine XS.astore X2.here hx rfl (hb hby own_d13_12) rfl rfl (l' := #[vr arr, vi st, vi (st + (1 : Int32)), vi 1, vr b2]) rfl ?_
  refine XS.aloadN X2.here hx rfl (hb hby own_d13_14) rfl rfl ?_
  refine XS.iloadN X2.here hx rfl (hb hby own_d13_15) rfl ?_
  refine XS.aload X2.here hx rfl (hb hby own_d13_16) rfl rfl ?_
  refine XS.iconst X2.here hx rfl (hb hby own_d13_18) ?_
  refine XS.aloadN X2.here hx rfl (hb hby own_d13_19) rfl rfl ?_
  exact k
 have f4 := V_a.ext E2
 obtain ⟨cl5, Ar5, q5, S5, M5, H5, G5⟩ := id f4
 refine own_st (T' := T2) (g' := (mkF m 24 #[vr arr, vi st, vi (st + (1 : Int32)), vi 1, vr b2] [(.int 1), (.int ((8 : Int32) - st)), (.int 0), (.ref b2), (.int st), (.ref arr)])) (fun t k => ?_) ?_
 ·refine X2.arraylength hx (by rw [e2]; exact Ar5.1) (State.isArrayOf_alike hZ.alike Ar5.2.1) (g := (mkF m 20 #[vr arr, vi st, vi (st + (1 : Int32)), vi 1, vr b2] [(.ref arr), (.int 0), (.ref b2), (.int st), (.ref arr)])) rfl rfl (hb hby own_d13_20) _ ?_
  rw [len_of S5 M5]
  refine XS.iloadN X2.here hx rfl (hb hby own_d13_21) rfl ?_
  refine XS.isub X2.here hx rfl (hb hby own_d13_22) rfl ?_
  refine XS.iloadN X2.here hx rfl (hb hby own_d13_23) rfl ?_
  exact k
 obtain ⟨_, _, ⟨T6, L6, c6, n6⟩, -, X6, ⟨Lc6, hQ6, l6, y6, z6⟩, st6⟩ := Jvm.LawKit.callS X2 hx (y := own_y5) hown (om hZ hw 82 rfl) (om hZ hw 21 rfl) (om hZ hw 22 rfl) (om hZ hw 23 rfl) (by decide) (backOf (W := 4) (own_rm4b l Z a0 hw ((8 : Int32) - st) (1 : Int32) cs fm u8 h2 n0 Z2 O2 (by rcases ho with rfl|rfl|rfl|rfl<;>decide) HB) hZ (own_w hw 23 rfl) (own_w hw 22 rfl) (by decide) (by decide)) (g := (mkF m 24 #[vr arr, vi st, vi (st + (1 : Int32)), vi 1, vr b2] [(.int 1), (.int ((8 : Int32) - st)), (.int 0), (.ref b2), (.int st), (.ref arr)])) rfl (by rw [hml]; rfl) (argsL := [(.int ((8 : Int32) - st)), (.int 1)]) (rest := [(.int 0), (.ref b2), (.int st), (.ref arr)]) (lenOf own_pd3 rfl) rfl (by show 2 * 0 + _ ≤ _; exact Nat.le_of_eq rfl) (hb hby own_d13_24) (fun _ _ => ⟨rfl, e2, (by decide : 1 + 0 ≤ _), (by decide : 1 + 0 ≤ _)⟩)
 dsimp only [Pt.U, Pt.locs, Pt.cells, Pt.slots] at X6 l6 y6 z6 st6 hQ6
 subst l6 y6 z6
 obtain ⟨rfl, N6q, e6⟩ := hQ6
 have N6 := Fr.app N1 N6q
 refine own_st (T' := T6) (g' := (mkF m 27 #[vr arr, vi st, vi (st + (1 : Int32)), vi 1, vr b2] [(.int 1), (.int 0), (.ref b2), (.int st), (.ref arr)])) st6 ?_
 obtain ⟨T7, h7, Lc7, X7, e7, N7, Kc7, Vc7, st7⟩ := cpA X6 hx hZ hown (own_w hw 83 rfl) (own_w hw 86 rfl) (own_w hw 84 rfl) (own_w hw 85 rfl) e6 f4 V2 (Or.inl ⟨rfl, rfl⟩) (by rcases ho with rfl|rfl|rfl|rfl<;>decide) (by decide) (by decide) (by rcases ho with rfl|rfl|rfl|rfl<;>decide) (by decide) (us := [(.int x0)]) (own_us1 ⟨ho, hx0, hx1, hx2⟩) (by decide) N6 g_b2 (g := (mkF m 27 #[vr arr, vi st, vi (st + (1 : Int32)), vi 1, vr b2] [(.int 1), (.int 0), (.ref b2), (.int st), (.ref arr)])) rfl (by rw [hml]; rfl) rfl (hb hby own_d13_27) (by decide) (W := 0) (by show 2 * 0 + _ ≤ _; exact Nat.le_of_eq rfl) (by decide)
 have K7 : Keep h0 h7 [] := K2.trans Kc7 (allS (Or.inr hz_b2) all0)
 have Z7 : n0 ≤ h7.size := Nat.le_trans Z2 Kc7.1
 have O7 := O2.keep Kc7 (allS g_b2 all0)
 have Vd7 : Arv Z h7 b2 k2 .byte (1 : Int32) [(.int x0)] (.int 0) := Vc7
 refine own_st (T' := T7) (g' := (mkF m 30 #[vr arr, vi st, vi (st + (1 : Int32)), vi 1, vr b2] [])) st7 ?_
 refine own_st (T' := T7) (g' := (mkF m 32 #[vr arr, vi st, vi (st + (1 : Int32)), vi 1, vr b2] [(.ref b2)])) (fun t k => ?_) ?_
 ·refine XS.aload X7.here hx rfl (hb hby own_d13_30) rfl rfl ?_
  exact k
 exact own_retA X7 hx Bd rfl rfl (hb hby own_d13_32) e7 (⟨b2, k2, rfl, N7, K7, g_b2, hz_b2, Vd7⟩) (by decide) (by decide)
def own_r12_1 : Room := { frames := 2, cells := 1, slots := 1, locals := 34 }
def own_Q12_1 (Z : State) (arr : Addr) (ka : ClassId) (y0 y1 y2 y3 y4 y5 y6 y7 st x0 x1 x2 : Int32) (cs : Int32) (fm : Value) (u8 : Addr) (h0 : Heap) (n0 : Nat) : Option Value → Heap → List Loc → Prop := fun v h L => ∃ r k, v = some (.ref r) ∧ Fr n0 L ∧ Keep h0 h [] ∧ n0 ≤ r ∧ h0.size ≤ r ∧ Arv Z h r k .byte (1 : Int32) [(.int x0)] (.int 0)
theorem own_rm12_1 (l : Launch) (Z : State) (a0 : Array Value) (hw : own_W a0 Z) (arr : Addr) (ka : ClassId) (y0 y1 y2 y3 y4 y5 y6 y7 st x0 x1 x2 : Int32) (cs : Int32) (fm : Value) (u8 : Addr) (h0 : Heap) (n0 : Nat) (Z0 : n0 ≤ h0.size) (O0 : Old Z n0 h0) (V_a : Arv Z h0 arr ka .byte (8 : Int32) [(.int y0), (.int y1), (.int y2), (.int y3), (.int y4), (.int y5), (.int y6), (.int y7)] (.int 0)) (hYX : own_YX y0 y1 y2 y3 y4 y5 y6 y7 st x0 x1 x2) (HB : own_BB Z cs fm u8) :
  own_MF l Z own_y9 (Jvm.Cond.code own_y9 jdk_65_method_132_code 3 (some (.array .byte))) [] own_r12_1 #[(.ref arr), (.int st), (.int (st + (1 : Int32)))] h0 (own_Q12_1 Z arr ka y0 y1 y2 y3 y4 y5 y6 y7 st x0 x1 x2 cs fm u8 h0 n0) := by
 refine own_open (plainFor_of_name own_pn4) hisR (Ls := #[vr arr, vi st, vi (st + (1 : Int32))]) ?_
 intro p e s m below meth c s₁ Bd hZ hx hby hml hown X0 e0
 obtain ⟨-, -, -, -, -, -, -, -, -, E_u8⟩ := id HB
 have N0 := Fr.nil n0
 obtain ⟨ho, hx0, hx1, hx2⟩ := id hYX
 refine own_st (T' := s₁) (g' := (mkF m 1 #[vr arr, vi st, vi (st + (1 : Int32))] [(.int st)])) (fun t k => ?_) ?_
 ·refine XS.iloadN X0.here hx rfl (hb hby own_d12_0) rfl ?_
  exact k
 by_cases hc1 : st = (0 : Int32)
 ·refine own_st (T' := s₁) (g' := (mkF m 6 #[vr arr, vi st, vi (st + (1 : Int32))] [(.ref arr), (.int (st + (1 : Int32)))])) (fun t k => ?_) ?_
  ·refine XS.ifNo X0.here hx rfl (hb hby own_d12_1) rfl ((if0 _ _).trans (teq hc1).2) ?_
   refine XS.iloadN X0.here hx rfl (hb hby own_d12_4) rfl ?_
   refine XS.aloadN X0.here hx rfl (hb hby own_d12_5) rfl rfl ?_
   exact k
  obtain ⟨cl2, Ar2, q2, S2, M2, H2, G2⟩ := id V_a
  refine own_st (T' := s₁) (g' := (mkF m 13 #[vr arr, vi st, vi (st + (1 : Int32))] [(.int (st + (1 : Int32))), (.int st), (.ref arr)])) (fun t k => ?_) ?_
  ·refine X0.arraylength hx (by rw [e0]; exact Ar2.1) (State.isArrayOf_alike hZ.alike Ar2.2.1) (g := (mkF m 6 #[vr arr, vi st, vi (st + (1 : Int32))] [(.ref arr), (.int (st + (1 : Int32)))])) rfl rfl (hb hby own_d12_6) _ ?_
   rw [len_of S2 M2]
   refine XS.icmpNo X0.here hx rfl (hb hby own_d12_7) rfl (feq (by rcases ho with rfl|rfl|rfl|rfl<;>decide)).1 ?_
   refine XS.aloadN X0.here hx rfl (hb hby own_d12_10) rfl rfl ?_
   refine XS.iloadN X0.here hx rfl (hb hby own_d12_11) rfl ?_
   refine XS.iloadN X0.here hx rfl (hb hby own_d12_12) rfl ?_
   exact k
  obtain ⟨_, _, ⟨T3, L3, c3, n3⟩, -, X3, ⟨Lc3, hQ3, l3, y3, z3⟩, st3⟩ := Jvm.LawKit.callS X0 hx (y := own_y8) hown (om hZ hw 76 rfl) (om hZ hw 77 rfl) (om hZ hw 74 rfl) (om hZ hw 78 rfl) (by decide) (backOf (W := 0) (own_rm13_1 l Z a0 hw arr ka y0 y1 y2 y3 y4 y5 y6 y7 st x0 x1 x2 cs fm u8 h0 n0 Z0 O0 V_a ⟨ho, hx0, hx1, hx2⟩ HB) hZ (own_w hw 78 rfl) (own_w hw 74 rfl) (by decide) (by decide)) (g := (mkF m 13 #[vr arr, vi st, vi (st + (1 : Int32))] [(.int (st + (1 : Int32))), (.int st), (.ref arr)])) rfl (by rw [hml]; rfl) (argsL := [(.ref arr), (.int st), (.int (st + (1 : Int32)))]) (rest := []) (lenOf own_pd4 rfl) rfl (by show 2 * 0 + _ ≤ _; exact Nat.le_of_eq rfl) (hb hby own_d12_13) (fun _ _ => ⟨rfl, e0, (by decide : 0 + 1 ≤ _), (by decide : 0 + 1 ≤ _)⟩)
  dsimp only [Pt.U, Pt.locs, Pt.cells, Pt.slots] at X3 l3 y3 z3 st3 hQ3
  subst l3 y3 z3
  obtain ⟨h3, e3⟩ : ∃ z, T3.heap = z := ⟨_, rfl⟩
  rw [e3] at hQ3
  obtain ⟨r3, k3, rfl, N3q, Kc3, g3, hz3, Vc3⟩ := hQ3
  have N3 := Fr.app N0 N3q
  have ne_arr_r3 : arr ≠ r3 := Nat.ne_of_lt (Nat.lt_of_lt_of_le V_a.lt hz3)
  have f4 := E_u8.ext O0.2
  have ne_u8_r3 : u8 ≠ r3 := Nat.ne_of_lt (Nat.lt_of_lt_of_le f4.lt hz3)
  have hwr3 : h0.size ≤ r3 := Nat.le_trans (Keep.refl h0 []).1 hz3
  have K3 : Keep h0 h3 [] := (Keep.refl h0 []).trans Kc3 all0
  have Z3 : n0 ≤ h3.size := Nat.le_trans Z0 Kc3.1
  have O3 := O0.keep Kc3 all0
  refine own_st (T' := T3) (g' := (mkF m 16 #[vr arr, vi st, vi (st + (1 : Int32))] [(.ref r3)])) st3 ?_
  exact own_retA X3 hx Bd rfl rfl (hb hby own_d12_16) e3 (⟨r3, k3, rfl, N3, K3, g3, hwr3, Vc3⟩) (by decide) (by decide)
 ·refine own_st (T' := s₁) (g' := (mkF m 13 #[vr arr, vi st, vi (st + (1 : Int32))] [(.int (st + (1 : Int32))), (.int st), (.ref arr)])) (fun t k => ?_) ?_
  ·refine XS.ifYes X0.here hx rfl (pc0 := 1) (pc' := 10) rfl (hb hby own_d12_1) rfl ((if0 _ _).trans (feq hc1).2) (by decide) (by decide) ?_
   refine XS.aloadN X0.here hx rfl (hb hby own_d12_10) rfl rfl ?_
   refine XS.iloadN X0.here hx rfl (hb hby own_d12_11) rfl ?_
   refine XS.iloadN X0.here hx rfl (hb hby own_d12_12) rfl ?_
   exact k
  obtain ⟨_, _, ⟨T5, L5, c5, n5⟩, -, X5, ⟨Lc5, hQ5, l5, y5, z5⟩, st5⟩ := Jvm.LawKit.callS X0 hx (y := own_y8) hown (om hZ hw 76 rfl) (om hZ hw 77 rfl) (om hZ hw 74 rfl) (om hZ hw 78 rfl) (by decide) (backOf (W := 0) (own_rm13_1 l Z a0 hw arr ka y0 y1 y2 y3 y4 y5 y6 y7 st x0 x1 x2 cs fm u8 h0 n0 Z0 O0 V_a ⟨ho, hx0, hx1, hx2⟩ HB) hZ (own_w hw 78 rfl) (own_w hw 74 rfl) (by decide) (by decide)) (g := (mkF m 13 #[vr arr, vi st, vi (st + (1 : Int32))] [(.int (st + (1 : Int32))), (.int st), (.ref arr)])) rfl (by rw [hml]; rfl) (argsL := [(.ref arr), (.int st), (.int (st + (1 : Int32)))]) (rest := []) (lenOf own_pd4 rfl) rfl (by show 2 * 0 + _ ≤ _; exact Nat.le_of_eq rfl) (hb hby own_d12_13) (fun _ _ => ⟨rfl, e0, (by decide : 0 + 1 ≤ _), (by decide : 0 + 1 ≤ _)⟩)
  dsimp only [Pt.U, Pt.locs, Pt.cells, Pt.slots] at X5 l5 y5 z5 st5 hQ5
  subst l5 y5 z5
  obtain ⟨h5, e5⟩ : ∃ z, T5.heap = z := ⟨_, rfl⟩
  rw [e5] at hQ5
  obtain ⟨r5, k5, rfl, N5q, Kc5, g5, hz5, Vc5⟩ := hQ5
  have N5 := Fr.app N0 N5q
  have ne_arr_r5 : arr ≠ r5 := Nat.ne_of_lt (Nat.lt_of_lt_of_le V_a.lt hz5)
  have f6 := E_u8.ext O0.2
  have ne_u8_r5 : u8 ≠ r5 := Nat.ne_of_lt (Nat.lt_of_lt_of_le f6.lt hz5)
  have hwr5 : h0.size ≤ r5 := Nat.le_trans (Keep.refl h0 []).1 hz5
  have K5 : Keep h0 h5 [] := (Keep.refl h0 []).trans Kc5 all0
  have Z5 : n0 ≤ h5.size := Nat.le_trans Z0 Kc5.1
  have O5 := O0.keep Kc5 all0
  refine own_st (T' := T5) (g' := (mkF m 16 #[vr arr, vi st, vi (st + (1 : Int32))] [(.ref r5)])) st5 ?_
  exact own_retA X5 hx Bd rfl rfl (hb hby own_d12_16) e5 (⟨r5, k5, rfl, N5, K5, g5, hwr5, Vc5⟩) (by decide) (by decide)
def own_r13_2 : Room := { frames := 1, cells := 1, slots := 2, locals := 18 }
def own_Q13_2 (Z : State) (arr : Addr) (ka : ClassId) (y0 y1 y2 y3 y4 y5 y6 y7 st x0 x1 x2 : Int32) (cs : Int32) (fm : Value) (u8 : Addr) (h0 : Heap) (n0 : Nat) : Option Value → Heap → List Loc → Prop := fun v h L => ∃ r k, v = some (.ref r) ∧ Fr n0 L ∧ Keep h0 h [] ∧ n0 ≤ r ∧ h0.size ≤ r ∧ Arv Z h r k .byte (2 : Int32) [(.int x0), (.int x1)] (.int 0)
theorem own_rm13_2 (l : Launch) (Z : State) (a0 : Array Value) (hw : own_W a0 Z) (arr : Addr) (ka : ClassId) (y0 y1 y2 y3 y4 y5 y6 y7 st x0 x1 x2 : Int32) (cs : Int32) (fm : Value) (u8 : Addr) (h0 : Heap) (n0 : Nat) (Z0 : n0 ≤ h0.size) (O0 : Old Z n0 h0) (V_a : Arv Z h0 arr ka .byte (8 : Int32) [(.int y0), (.int y1), (.int y2), (.int y3), (.int y4), (.int y5), (.int y6), (.int y7)] (.int 0)) (hYX : own_YX y0 y1 y2 y3 y4 y5 y6 y7 st x0 x1 x2) (HB : own_BB Z cs fm u8) :
  own_MF l Z own_y8 (Jvm.Cond.code own_y8 jdk_65_method_133_code 5 (some (.array .byte))) [] own_r13_2 #[(.ref arr), (.int st), (.int (st + (2 : Int32)))] h0 (own_Q13_2 Z arr ka y0 y1 y2 y3 y4 y5 y6 y7 st x0 x1 x2 cs fm u8 h0 n0) := by
 refine own_open (plainFor_of_name own_pn4) hisR (Ls := #[vr arr, vi st, vi (st + (2 : Int32)), .unset, .unset]) ?_
 intro p e s m below meth c s₁ Bd hZ hx hby hml hown X0 e0
 obtain ⟨-, -, -, -, -, -, -, -, -, E_u8⟩ := id HB
 have N0 := Fr.nil n0
 obtain ⟨ho, hx0, hx1, hx2⟩ := id hYX
 refine own_st (T' := s₁) (g' := (mkF m 2 #[vr arr, vi st, vi (st + (2 : Int32)), .unset, .unset] [(.int (st + (2 : Int32))), (.int st)])) (fun t k => ?_) ?_
 ·refine XS.iloadN X0.here hx rfl (hb hby own_d13_0) rfl ?_
  refine XS.iloadN X0.here hx rfl (hb hby own_d13_1) rfl ?_
  exact k
 obtain ⟨_, _, ⟨T1, L1, c1, n1⟩, -, X1, ⟨Lc1, hQ1, l1, y1, z1⟩, st1⟩ := Jvm.LawKit.callS X0 hx (y := own_y7) hown (om hZ hw 79 rfl) (om hZ hw 80 rfl) (om hZ hw 74 rfl) (om hZ hw 81 rfl) (by decide) (backOf (W := 0) (own_rm14 l Z a0 hw st (st + (2 : Int32)) cs fm u8 h0 n0 Z0 O0 (by rcases ho with rfl|rfl|rfl|rfl<;>decide) HB) hZ (own_w hw 81 rfl) (own_w hw 74 rfl) (by decide) (by decide)) (g := (mkF m 2 #[vr arr, vi st, vi (st + (2 : Int32)), .unset, .unset] [(.int (st + (2 : Int32))), (.int st)])) rfl (by rw [hml]; rfl) (argsL := [(.int st), (.int (st + (2 : Int32)))]) (rest := []) (lenOf own_pd2 rfl) rfl (by show 2 * 0 + _ ≤ _; exact Nat.le_of_eq rfl) (hb hby own_d13_2) (fun _ _ => ⟨rfl, e0, (by decide : 0 + 0 ≤ _), (by decide : 0 + 0 ≤ _)⟩)
 dsimp only [Pt.U, Pt.locs, Pt.cells, Pt.slots] at X1 l1 y1 z1 st1 hQ1
 subst l1 y1 z1
 obtain ⟨rfl, N1q, e1⟩ := hQ1
 have N1 := Fr.app N0 N1q
 refine own_st (T' := T1) (g' := (mkF m 5 #[vr arr, vi st, vi (st + (2 : Int32)), .unset, .unset] [])) st1 ?_
 refine own_st (T' := T1) (g' := (mkF m 8 #[vr arr, vi st, vi (st + (2 : Int32)), .unset, .unset] [(.int ((st + (2 : Int32)) - st))])) (fun t k => ?_) ?_
 ·refine XS.iloadN X1.here hx rfl (hb hby own_d13_5) rfl ?_
  refine XS.iloadN X1.here hx rfl (hb hby own_d13_6) rfl ?_
  refine XS.isub X1.here hx rfl (hb hby own_d13_7) rfl ?_
  exact k
 rw [show ((st + (2 : Int32)) - st) = (2 : Int32) from (by rcases ho with rfl|rfl|rfl|rfl<;>decide)]
 refine own_st (T' := T1) (g' := (mkF m 10 #[vr arr, vi st, vi (st + (2 : Int32)), vi 2, .unset] [(.int 2)])) (fun t k => ?_) ?_
 ·refine XS.istoreN X1.here hx rfl (hb hby own_d13_8) rfl (l' := #[vr arr, vi st, vi (st + (2 : Int32)), vi 2, .unset]) rfl ?_
  refine XS.iloadN X1.here hx rfl (hb hby own_d13_9) rfl ?_
  exact k
 obtain ⟨T2, h2, k2, X2, e2, E2, A2, st2⟩ := newP X1 hx hZ (own_w hw 1 rfl) e1 (g := (mkF m 10 #[vr arr, vi st, vi (st + (2 : Int32)), vi 2, .unset] [(.int 2)])) rfl (hb hby own_d13_10) rfl (by decide) (cap := 2) (by decide) (by decide) (by decide) (by decide)
 obtain ⟨b2, g2⟩ : ∃ z, z = h0.size := ⟨_, rfl⟩
 rw [← g2] at A2 st2
 have sz2 : h0.size ≤ b2 := Nat.le_of_eq g2.symm
 have ne_arr_b2 : arr ≠ b2 := Nat.ne_of_lt (Nat.lt_of_lt_of_le V_a.lt sz2)
 have f3 := E_u8.ext O0.2
 have ne_u8_b2 : u8 ≠ b2 := Nat.ne_of_lt (Nat.lt_of_lt_of_le f3.lt sz2)
 have g_b2 : n0 ≤ b2 := Nat.le_trans Z0 sz2
 have hz_b2 : h0.size ≤ b2 := Nat.le_trans (Keep.refl h0 []).1 sz2
 have K2 : Keep h0 h2 [] := (Keep.refl h0 []).ext E2
 have Z2 : n0 ≤ h2.size := Nat.le_trans Z0 E2.1
 have O2 := O0.ext E2
 have V2 : Arv Z h2 b2 k2 .byte (2 : Int32) [(.int 0), (.int 0)] (.int 0) := (Arv.new A2 (by decide)).pad (pad_rep [] (.int 0) 2)
 refine own_st (T' := T2) (g' := (mkF m 12 #[vr arr, vi st, vi (st + (2 : Int32)), vi 2, .unset] [(.ref b2)])) st2 ?_
 refine own_st (T' := T2) (g' := (mkF m 20 #[vr arr, vi st, vi (st + (2 : Int32)), vi 2, vr b2] [(.ref arr), (.int 0), (.ref b2), (.int st), (.ref arr)])) (fun t k => ?_) ?_
 ·refine XS.astore X2.here hx rfl (hb hby own_d13_12) rfl rfl (l' := #[vr arr, vi st, vi (st + (2 : Int32)), vi 2, vr b2]) rfl ?_
  refine XS.aloadN X2.here hx rfl (hb hby own_d13_14) rfl rfl ?_
  refine XS.iloadN X2.here hx rfl (hb hby own_d13_15) rfl ?_
  refine XS.aload X2.here hx rfl (hb hby own_d13_16) rfl rfl ?_
  refine XS.iconst X2.here hx rfl (hb hby own_d13_18) ?_
  refine XS.aloadN X2.here hx rfl (hb hby own_d13_19) rfl rfl ?_
  exact k
 have f4 := V_a.ext E2
 obtain ⟨cl5, Ar5, q5, S5, M5, H5, G5⟩ := id f4
 refine own_st (T' := T2) (g' := (mkF m 24 #[vr arr, vi st, vi (st + (2 : Int32)), vi 2, vr b2] [(.int 2), (.int ((8 : Int32) - st)), (.int 0), (.ref b2), (.int st), (.ref arr)])) (fun t k => ?_) ?_
 ·refine X2.arraylength hx (by rw [e2]; exact Ar5.1) (State.isArrayOf_alike hZ.alike Ar5.2.1) (g := (mkF m 20 #[vr arr, vi st, vi (st + (2 : Int32)), vi 2, vr b2] [(.ref arr), (.int 0), (.ref b2), (.int st), (.ref arr)])) rfl rfl (hb hby own_d13_20) _ ?_
  rw [len_of S5 M5]
  refine XS.iloadN X2.here hx rfl (hb hby own_d13_21) rfl ?_
  refine XS.isub X2.here hx rfl (hb hby own_d13_22) rfl ?_
  refine XS.iloadN X2.here hx rfl (hb hby own_d13_23) rfl ?_
  exact k
 obtain ⟨_, _, ⟨T6, L6, c6, n6⟩, -, X6, ⟨Lc6, hQ6, l6, y6, z6⟩, st6⟩ := Jvm.LawKit.callS X2 hx (y := own_y5) hown (om hZ hw 82 rfl) (om hZ hw 21 rfl) (om hZ hw 22 rfl) (om hZ hw 23 rfl) (by decide) (backOf (W := 4) (own_rm4b l Z a0 hw ((8 : Int32) - st) (2 : Int32) cs fm u8 h2 n0 Z2 O2 (by rcases ho with rfl|rfl|rfl|rfl<;>decide) HB) hZ (own_w hw 23 rfl) (own_w hw 22 rfl) (by decide) (by decide)) (g := (mkF m 24 #[vr arr, vi st, vi (st + (2 : Int32)), vi 2, vr b2] [(.int 2), (.int ((8 : Int32) - st)), (.int 0), (.ref b2), (.int st), (.ref arr)])) rfl (by rw [hml]; rfl) (argsL := [(.int ((8 : Int32) - st)), (.int 2)]) (rest := [(.int 0), (.ref b2), (.int st), (.ref arr)]) (lenOf own_pd3 rfl) rfl (by show 2 * 0 + _ ≤ _; exact Nat.le_of_eq rfl) (hb hby own_d13_24) (fun _ _ => ⟨rfl, e2, (by decide : 1 + 0 ≤ _), (by decide : 2 + 0 ≤ _)⟩)
 dsimp only [Pt.U, Pt.locs, Pt.cells, Pt.slots] at X6 l6 y6 z6 st6 hQ6
 subst l6 y6 z6
 obtain ⟨rfl, N6q, e6⟩ := hQ6
 have N6 := Fr.app N1 N6q
 refine own_st (T' := T6) (g' := (mkF m 27 #[vr arr, vi st, vi (st + (2 : Int32)), vi 2, vr b2] [(.int 2), (.int 0), (.ref b2), (.int st), (.ref arr)])) st6 ?_
 obtain ⟨T7, h7, Lc7, X7, e7, N7, Kc7, Vc7, st7⟩ := cpA X6 hx hZ hown (own_w hw 83 rfl) (own_w hw 86 rfl) (own_w hw 84 rfl) (own_w hw 85 rfl) e6 f4 V2 (Or.inl ⟨rfl, rfl⟩) (by rcases ho with rfl|rfl|rfl|rfl<;>decide) (by decide) (by decide) (by rcases ho with rfl|rfl|rfl|rfl<;>decide) (by decide) (us := [(.int x0), (.int x1)]) (own_us2 ⟨ho, hx0, hx1, hx2⟩) (by decide) N6 g_b2 (g := (mkF m 27 #[vr arr, vi st, vi (st + (2 : Int32)), vi 2, vr b2] [(.int 2), (.int 0), (.ref b2), (.int st), (.ref arr)])) rfl (by rw [hml]; rfl) rfl (hb hby own_d13_27) (by decide) (W := 0) (by show 2 * 0 + _ ≤ _; exact Nat.le_of_eq rfl) (by decide)
 have K7 : Keep h0 h7 [] := K2.trans Kc7 (allS (Or.inr hz_b2) all0)
 have Z7 : n0 ≤ h7.size := Nat.le_trans Z2 Kc7.1
 have O7 := O2.keep Kc7 (allS g_b2 all0)
 have Vd7 : Arv Z h7 b2 k2 .byte (2 : Int32) [(.int x0), (.int x1)] (.int 0) := Vc7
 refine own_st (T' := T7) (g' := (mkF m 30 #[vr arr, vi st, vi (st + (2 : Int32)), vi 2, vr b2] [])) st7 ?_
 refine own_st (T' := T7) (g' := (mkF m 32 #[vr arr, vi st, vi (st + (2 : Int32)), vi 2, vr b2] [(.ref b2)])) (fun t k => ?_) ?_
 ·refine XS.aload X7.here hx rfl (hb hby own_d13_30) rfl rfl ?_
  exact k
 exact own_retA X7 hx Bd rfl rfl (hb hby own_d13_32) e7 (⟨b2, k2, rfl, N7, K7, g_b2, hz_b2, Vd7⟩) (by decide) (by decide)
def own_r12_2 : Room := { frames := 2, cells := 1, slots := 2, locals := 34 }
def own_Q12_2 (Z : State) (arr : Addr) (ka : ClassId) (y0 y1 y2 y3 y4 y5 y6 y7 st x0 x1 x2 : Int32) (cs : Int32) (fm : Value) (u8 : Addr) (h0 : Heap) (n0 : Nat) : Option Value → Heap → List Loc → Prop := fun v h L => ∃ r k, v = some (.ref r) ∧ Fr n0 L ∧ Keep h0 h [] ∧ n0 ≤ r ∧ h0.size ≤ r ∧ Arv Z h r k .byte (2 : Int32) [(.int x0), (.int x1)] (.int 0)
theorem own_rm12_2 (l : Launch) (Z : State) (a0 : Array Value) (hw : own_W a0 Z) (arr : Addr) (ka : ClassId) (y0 y1 y2 y3 y4 y5 y6 y7 st x0 x1 x2 : Int32) (cs : Int32) (fm : Value) (u8 : Addr) (h0 : Heap) (n0 : Nat) (Z0 : n0 ≤ h0.size) (O0 : Old Z n0 h0) (V_a : Arv Z h0 arr ka .byte (8 : Int32) [(.int y0), (.int y1), (.int y2), (.int y3), (.int y4), (.int y5), (.int y6), (.int y7)] (.int 0)) (hYX : own_YX y0 y1 y2 y3 y4 y5 y6 y7 st x0 x1 x2) (HB : own_BB Z cs fm u8) :
  own_MF l Z own_y9 (Jvm.Cond.code own_y9 jdk_65_method_132_code 3 (some (.array .byte))) [] own_r12_2 #[(.ref arr), (.int st), (.int (st + (2 : Int32)))] h0 (own_Q12_2 Z arr ka y0 y1 y2 y3 y4 y5 y6 y7 st x0 x1 x2 cs fm u8 h0 n0) := by
 refine own_open (plainFor_of_name own_pn4) hisR (Ls := #[vr arr, vi st, vi (st + (2 : Int32))]) ?_
 intro p e s m below meth c s₁ Bd hZ hx hby hml hown X0 e0
 obtain ⟨-, -, -, -, -, -, -, -, -, E_u8⟩ := id HB
 have N0 := Fr.nil n0
 obtain ⟨ho, hx0, hx1, hx2⟩ := id hYX
 refine own_st (T' := s₁) (g' := (mkF m 1 #[vr arr, vi st, vi (st + (2 : Int32))] [(.int st)])) (fun t k => ?_) ?_
 ·refine XS.iloadN X0.here hx rfl (hb hby own_d12_0) rfl ?_
  exact k
 by_cases hc1 : st = (0 : Int32)
 ·refine own_st (T' := s₁) (g' := (mkF m 6 #[vr arr, vi st, vi (st + (2 : Int32))] [(.ref arr), (.int (st + (2 : Int32)))])) (fun t k => ?_) ?_
  ·refine XS.ifNo X0.here hx rfl (hb hby own_d12_1) rfl ((if0 _ _).trans (teq hc1).2) ?_
   refine XS.iloadN X0.here hx rfl (hb hby own_d12_4) rfl ?_
   refine XS.aloadN X0.here hx rfl (hb hby own_d12_5) rfl rfl ?_
   exact k
  obtain ⟨cl2, Ar2, q2, S2, M2, H2, G2⟩ := id V_a
  refine own_st (T' := s₁) (g' := (mkF m 13 #[vr arr, vi st, vi (st + (2 : Int32))] [(.int (st + (2 : Int32))), (.int st), (.ref arr)])) (fun t k => ?_) ?_
  ·refine X0.arraylength hx (by rw [e0]; exact Ar2.1) (State.isArrayOf_alike hZ.alike Ar2.2.1) (g := (mkF m 6 #[vr arr, vi st, vi (st + (2 : Int32))] [(.ref arr), (.int (st + (2 : Int32)))])) rfl rfl (hb hby own_d12_6) _ ?_
   rw [len_of S2 M2]
   refine XS.icmpNo X0.here hx rfl (hb hby own_d12_7) rfl (feq (by rcases ho with rfl|rfl|rfl|rfl<;>decide)).1 ?_
   refine XS.aloadN X0.here hx rfl (hb hby own_d12_10) rfl rfl ?_
   refine XS.iloadN X0.here hx rfl (hb hby own_d12_11) rfl ?_
   refine XS.iloadN X0.here hx rfl (hb hby own_d12_12) rfl ?_
   exact k
  obtain ⟨_, _, ⟨T3, L3, c3, n3⟩, -, X3, ⟨Lc3, hQ3, l3, y3, z3⟩, st3⟩ := Jvm.LawKit.callS X0 hx (y := own_y8) hown (om hZ hw 76 rfl) (om hZ hw 77 rfl) (om hZ hw 74 rfl) (om hZ hw 78 rfl) (by decide) (backOf (W := 0) (own_rm13_2 l Z a0 hw arr ka y0 y1 y2 y3 y4 y5 y6 y7 st x0 x1 x2 cs fm u8 h0 n0 Z0 O0 V_a ⟨ho, hx0, hx1, hx2⟩ HB) hZ (own_w hw 78 rfl) (own_w hw 74 rfl) (by decide) (by decide)) (g := (mkF m 13 #[vr arr, vi st, vi (st + (2 : Int32))] [(.int (st + (2 : Int32))), (.int st), (.ref arr)])) rfl (by rw [hml]; rfl) (argsL := [(.ref arr), (.int st), (.int (st + (2 : Int32)))]) (rest := []) (lenOf own_pd4 rfl) rfl (by show 2 * 0 + _ ≤ _; exact Nat.le_of_eq rfl) (hb hby own_d12_13) (fun _ _ => ⟨rfl, e0, (by decide : 0 + 1 ≤ _), (by decide : 0 + 2 ≤ _)⟩)
  dsimp only [Pt.U, Pt.locs, Pt.cells, Pt.slots] at X3 l3 y3 z3 st3 hQ3
  subst l3 y3 z3
  obtain ⟨h3, e3⟩ : ∃ z, T3.heap = z := ⟨_, rfl⟩
  rw [e3] at hQ3
  obtain ⟨r3, k3, rfl, N3q, Kc3, g3, hz3, Vc3⟩ := hQ3
  have N3 := Fr.app N0 N3q
  have ne_arr_r3 : arr ≠ r3 := Nat.ne_of_lt (Nat.lt_of_lt_of_le V_a.lt hz3)
  have f4 := E_u8.ext O0.2
  have ne_u8_r3 : u8 ≠ r3 := Nat.ne_of_lt (Nat.lt_of_lt_of_le f4.lt hz3)
  have hwr3 : h0.size ≤ r3 := Nat.le_trans (Keep.refl h0 []).1 hz3
  have K3 : Keep h0 h3 [] := (Keep.refl h0 []).trans Kc3 all0
  have Z3 : n0 ≤ h3.size := Nat.le_trans Z0 Kc3.1
  have O3 := O0.keep Kc3 all0
  refine own_st (T' := T3) (g' := (mkF m 16 #[vr arr, vi st, vi (st + (2 : Int32))] [(.ref r3)])) st3 ?_
  exact own_retA X3 hx Bd rfl rfl (hb hby own_d12_16) e3 (⟨r3, k3, rfl, N3, K3, g3, hwr3, Vc3⟩) (by decide) (by decide)
 ·refine own_st (T' := s₁) (g' := (mkF m 13 #[vr arr, vi st, vi (st + (2 : Int32))] [(.int (st + (2 : Int32))), (.int st), (.ref arr)])) (fun t k => ?_) ?_
  ·refine XS.ifYes X0.here hx rfl (pc0 := 1) (pc' := 10) rfl (hb hby own_d12_1) rfl ((if0 _ _).trans (feq hc1).2) (by decide) (by decide) ?_
   refine XS.aloadN X0.here hx rfl (hb hby own_d12_10) rfl rfl ?_
   refine XS.iloadN X0.here hx rfl (hb hby own_d12_11) rfl ?_
   refine XS.iloadN X0.here hx rfl (hb hby own_d12_12) rfl ?_
   exact k
  obtain ⟨_, _, ⟨T5, L5, c5, n5⟩, -, X5, ⟨Lc5, hQ5, l5, y5, z5⟩, st5⟩ := Jvm.LawKit.callS X0 hx (y := own_y8) hown (om hZ hw 76 rfl) (om hZ hw 77 rfl) (om hZ hw 74 rfl) (om hZ hw 78 rfl) (by decide) (backOf (W := 0) (own_rm13_2 l Z a0 hw arr ka y0 y1 y2 y3 y4 y5 y6 y7 st x0 x1 x2 cs fm u8 h0 n0 Z0 O0 V_a ⟨ho, hx0, hx1, hx2⟩ HB) hZ (own_w hw 78 rfl) (own_w hw 74 rfl) (by decide) (by decide)) (g := (mkF m 13 #[vr arr, vi st, vi (st + (2 : Int32))] [(.int (st + (2 : Int32))), (.int st), (.ref arr)])) rfl (by rw [hml]; rfl) (argsL := [(.ref arr), (.int st), (.int (st + (2 : Int32)))]) (rest := []) (lenOf own_pd4 rfl) rfl (by show 2 * 0 + _ ≤ _; exact Nat.le_of_eq rfl) (hb hby own_d12_13) (fun _ _ => ⟨rfl, e0, (by decide : 0 + 1 ≤ _), (by decide : 0 + 2 ≤ _)⟩)
  dsimp only [Pt.U, Pt.locs, Pt.cells, Pt.slots] at X5 l5 y5 z5 st5 hQ5
  subst l5 y5 z5
  obtain ⟨h5, e5⟩ : ∃ z, T5.heap = z := ⟨_, rfl⟩
  rw [e5] at hQ5
  obtain ⟨r5, k5, rfl, N5q, Kc5, g5, hz5, Vc5⟩ := hQ5
  have N5 := Fr.app N0 N5q
  have ne_arr_r5 : arr ≠ r5 := Nat.ne_of_lt (Nat.lt_of_lt_of_le V_a.lt hz5)
  have f6 := E_u8.ext O0.2
  have ne_u8_r5 : u8 ≠ r5 := Nat.ne_of_lt (Nat.lt_of_lt_of_le f6.lt hz5)
  have hwr5 : h0.size ≤ r5 := Nat.le_trans (Keep.refl h0 []).1 hz5
  have K5 : Keep h0 h5 [] := (Keep.refl h0 []).trans Kc5 all0
  have Z5 : n0 ≤ h5.size := Nat.le_trans Z0 Kc5.1
  have O5 := O0.keep Kc5 all0
  refine own_st (T' := T5) (g' := (mkF m 16 #[vr arr, vi st, vi (st + (2 : Int32))] [(.ref r5)])) st5 ?_
  exact own_retA X5 hx Bd rfl rfl (hb hby own_d12_16) e5 (⟨r5, k5, rfl, N5, K5, g5, hwr5, Vc5⟩) (by decide) (by decide)
def own_r13_3 : Room := { frames := 1, cells := 1, slots := 3, locals := 18 }
def own_Q13_3 (Z : State) (arr : Addr) (ka : ClassId) (y0 y1 y2 y3 y4 y5 y6 y7 st x0 x1 x2 : Int32) (cs : Int32) (fm : Value) (u8 : Addr) (h0 : Heap) (n0 : Nat) : Option Value → Heap → List Loc → Prop := fun v h L => ∃ r k, v = some (.ref r) ∧ Fr n0 L ∧ Keep h0 h [] ∧ n0 ≤ r ∧ h0.size ≤ r ∧ Arv Z h r k .byte (3 : Int32) [(.int x0), (.int x1), (.int x2)] (.int 0)
theorem own_rm13_3 (l : Launch) (Z : State) (a0 : Array Value) (hw : own_W a0 Z) (arr : Addr) (ka : ClassId) (y0 y1 y2 y3 y4 y5 y6 y7 st x0 x1 x2 : Int32) (cs : Int32) (fm : Value) (u8 : Addr) (h0 : Heap) (n0 : Nat) (Z0 : n0 ≤ h0.size) (O0 : Old Z n0 h0) (V_a : Arv Z h0 arr ka .byte (8 : Int32) [(.int y0), (.int y1), (.int y2), (.int y3), (.int y4), (.int y5), (.int y6), (.int y7)] (.int 0)) (hYX : own_YX y0 y1 y2 y3 y4 y5 y6 y7 st x0 x1 x2) (HB : own_BB Z cs fm u8) :
  own_MF l Z own_y8 (Jvm.Cond.code own_y8 jdk_65_method_133_code 5 (some (.array .byte))) [] own_r13_3 #[(.ref arr), (.int st), (.int (st + (3 : Int32)))] h0 (own_Q13_3 Z arr ka y0 y1 y2 y3 y4 y5 y6 y7 st x0 x1 x2 cs fm u8 h0 n0) := by
 refine own_open (plainFor_of_name own_pn4) hisR (Ls := #[vr arr, vi st, vi (st + (3 : Int32)), .unset, .unset]) ?_
 intro p e s m below meth c s₁ Bd hZ hx hby hml hown X0 e0
 obtain ⟨-, -, -, -, -, -, -, -, -, E_u8⟩ := id HB
 have N0 := Fr.nil n0
 obtain ⟨ho, hx0, hx1, hx2⟩ := id hYX
 refine own_st (T' := s₁) (g' := (mkF m 2 #[vr arr, vi st, vi (st + (3 : Int32)), .unset, .unset] [(.int (st + (3 : Int32))), (.int st)])) (fun t k => ?_) ?_
 ·refine XS.iloadN X0.here hx rfl (hb hby own_d13_0) rfl ?_
  refine XS.iloadN X0.here hx rfl (hb hby own_d13_1) rfl ?_
  exact k
 obtain ⟨_, _, ⟨T1, L1, c1, n1⟩, -, X1, ⟨Lc1, hQ1, l1, y1, z1⟩, st1⟩ := Jvm.LawKit.callS X0 hx (y := own_y7) hown (om hZ hw 79 rfl) (om hZ hw 80 rfl) (om hZ hw 74 rfl) (om hZ hw 81 rfl) (by decide) (backOf (W := 0) (own_rm14 l Z a0 hw st (st + (3 : Int32)) cs fm u8 h0 n0 Z0 O0 (by rcases ho with rfl|rfl|rfl|rfl<;>decide) HB) hZ (own_w hw 81 rfl) (own_w hw 74 rfl) (by decide) (by decide)) (g := (mkF m 2 #[vr arr, vi st, vi (st + (3 : Int32)), .unset, .unset] [(.int (st + (3 : Int32))), (.int st)])) rfl (by rw [hml]; rfl) (argsL := [(.int st), (.int (st + (3 : Int32)))]) (rest := []) (lenOf own_pd2 rfl) rfl (by show 2 * 0 + _ ≤ _; exact Nat.le_of_eq rfl) (hb hby own_d13_2) (fun _ _ => ⟨rfl, e0, (by decide : 0 + 0 ≤ _), (by decide : 0 + 0 ≤ _)⟩)
 dsimp only [Pt.U, Pt.locs, Pt.cells, Pt.slots] at X1 l1 y1 z1 st1 hQ1
 subst l1 y1 z1
 obtain ⟨rfl, N1q, e1⟩ := hQ1
 have N1 := Fr.app N0 N1q
 refine own_st (T' := T1) (g' := (mkF m 5 #[vr arr, vi st, vi (st + (3 : Int32)), .unset, .unset] [])) st1 ?_
 refine own_st (T' := T1) (g' := (mkF m 8 #[vr arr, vi st, vi (st + (3 : Int32)), .unset, .unset] [(.int ((st + (3 : Int32)) - st))])) (fun t k => ?_) ?_
 ·refine XS.iloadN X1.here hx rfl (hb hby own_d13_5) rfl ?_
  refine XS.iloadN X1.here hx rfl (hb hby own_d13_6) rfl ?_
  refine XS.isub X1.here hx rfl (hb hby own_d13_7) rfl ?_
  exact k
 rw [show ((st + (3 : Int32)) - st) = (3 : Int32) from (by rcases ho with rfl|rfl|rfl|rfl<;>decide)]
 refine own_st (T' := T1) (g' := (mkF m 10 #[vr arr, vi st, vi (st + (3 : Int32)), vi 3, .unset] [(.int 3)])) (fun t k => ?_) ?_
 ·refine XS.istoreN X1.here hx rfl (hb hby own_d13_8) rfl (l' := #[vr arr, vi st, vi (st + (3 : Int32)), vi 3, .unset]) rfl ?_
  refine XS.iloadN X1.here hx rfl (hb hby own_d13_9) rfl ?_
  exact k
 obtain ⟨T2, h2, k2, X2, e2, E2, A2, st2⟩ := newP X1 hx hZ (own_w hw 1 rfl) e1 (g := (mkF m 10 #[vr arr, vi st, vi (st + (3 : Int32)), vi 3, .unset] [(.int 3)])) rfl (hb hby own_d13_10) rfl (by decide) (cap := 3) (by decide) (by decide) (by decide) (by decide)
 obtain ⟨b2, g2⟩ : ∃ z, z = h0.size := ⟨_, rfl⟩
 rw [← g2] at A2 st2
 have sz2 : h0.size ≤ b2 := Nat.le_of_eq g2.symm
 have ne_arr_b2 : arr ≠ b2 := Nat.ne_of_lt (Nat.lt_of_lt_of_le V_a.lt sz2)
 have f3 := E_u8.ext O0.2
 have ne_u8_b2 : u8 ≠ b2 := Nat.ne_of_lt (Nat.lt_of_lt_of_le f3.lt sz2)
 have g_b2 : n0 ≤ b2 := Nat.le_trans Z0 sz2
 have hz_b2 : h0.size ≤ b2 := Nat.le_trans (Keep.refl h0 []).1 sz2
 have K2 : Keep h0 h2 [] := (Keep.refl h0 []).ext E2
 have Z2 : n0 ≤ h2.size := Nat.le_trans Z0 E2.1
 have O2 := O0.ext E2
 have V2 : Arv Z h2 b2 k2 .byte (3 : Int32) [(.int 0), (.int 0), (.int 0)] (.int 0) := (Arv.new A2 (by decide)).pad (pad_rep [] (.int 0) 3)
 refine own_st (T' := T2) (g' := (mkF m 12 #[vr arr, vi st, vi (st + (3 : Int32)), vi 3, .unset] [(.ref b2)])) st2 ?_
 refine own_st (T' := T2) (g' := (mkF m 20 #[vr arr, vi st, vi (st + (3 : Int32)), vi 3, vr b2] [(.ref arr), (.int 0), (.ref b2), (.int st), (.ref arr)])) (fun t k => ?_) ?_
 ·refine XS.astore X2.here hx rfl (hb hby own_d13_12) rfl rfl (l' := #[vr arr, vi st, vi (st + (3 : Int32)), vi 3, vr b2]) rfl ?_
  refine XS.aloadN X2.here hx rfl (hb hby own_d13_14) rfl rfl ?_
  refine XS.iloadN X2.here hx rfl (hb hby own_d13_15) rfl ?_
  refine XS.aload X2.here hx rfl (hb hby own_d13_16) rfl rfl ?_
  refine XS.iconst X2.here hx rfl (hb hby own_d13_18) ?_
  refine XS.aloadN X2.here hx rfl (hb hby own_d13_19) rfl rfl ?_
  exact k
 have f4 := V_a.ext E2
 obtain ⟨cl5, Ar5, q5, S5, M5, H5, G5⟩ := id f4
 refine own_st (T' := T2) (g' := (mkF m 24 #[vr arr, vi st, vi (st + (3 : Int32)), vi 3, vr b2] [(.int 3), (.int ((8 : Int32) - st)), (.int 0), (.ref b2), (.int st), (.ref arr)])) (fun t k => ?_) ?_
 ·refine X2.arraylength hx (by rw [e2]; exact Ar5.1) (State.isArrayOf_alike hZ.alike Ar5.2.1) (g := (mkF m 20 #[vr arr, vi st, vi (st + (3 : Int32)), vi 3, vr b2] [(.ref arr), (.int 0), (.ref b2), (.int st), (.ref arr)])) rfl rfl (hb hby own_d13_20) _ ?_
  rw [len_of S5 M5]
  refine XS.iloadN X2.here hx rfl (hb hby own_d13_21) rfl ?_
  refine XS.isub X2.here hx rfl (hb hby own_d13_22) rfl ?_
  refine XS.iloadN X2.here hx rfl (hb hby own_d13_23) rfl ?_
  exact k
 obtain ⟨_, _, ⟨T6, L6, c6, n6⟩, -, X6, ⟨Lc6, hQ6, l6, y6, z6⟩, st6⟩ := Jvm.LawKit.callS X2 hx (y := own_y5) hown (om hZ hw 82 rfl) (om hZ hw 21 rfl) (om hZ hw 22 rfl) (om hZ hw 23 rfl) (by decide) (backOf (W := 4) (own_rm4b l Z a0 hw ((8 : Int32) - st) (3 : Int32) cs fm u8 h2 n0 Z2 O2 (by rcases ho with rfl|rfl|rfl|rfl<;>decide) HB) hZ (own_w hw 23 rfl) (own_w hw 22 rfl) (by decide) (by decide)) (g := (mkF m 24 #[vr arr, vi st, vi (st + (3 : Int32)), vi 3, vr b2] [(.int 3), (.int ((8 : Int32) - st)), (.int 0), (.ref b2), (.int st), (.ref arr)])) rfl (by rw [hml]; rfl) (argsL := [(.int ((8 : Int32) - st)), (.int 3)]) (rest := [(.int 0), (.ref b2), (.int st), (.ref arr)]) (lenOf own_pd3 rfl) rfl (by show 2 * 0 + _ ≤ _; exact Nat.le_of_eq rfl) (hb hby own_d13_24) (fun _ _ => ⟨rfl, e2, (by decide : 1 + 0 ≤ _), (by decide : 3 + 0 ≤ _)⟩)
 dsimp only [Pt.U, Pt.locs, Pt.cells, Pt.slots] at X6 l6 y6 z6 st6 hQ6
 subst l6 y6 z6
 obtain ⟨rfl, N6q, e6⟩ := hQ6
 have N6 := Fr.app N1 N6q
 refine own_st (T' := T6) (g' := (mkF m 27 #[vr arr, vi st, vi (st + (3 : Int32)), vi 3, vr b2] [(.int 3), (.int 0), (.ref b2), (.int st), (.ref arr)])) st6 ?_
 obtain ⟨T7, h7, Lc7, X7, e7, N7, Kc7, Vc7, st7⟩ := cpA X6 hx hZ hown (own_w hw 83 rfl) (own_w hw 86 rfl) (own_w hw 84 rfl) (own_w hw 85 rfl) e6 f4 V2 (Or.inl ⟨rfl, rfl⟩) (by rcases ho with rfl|rfl|rfl|rfl<;>decide) (by decide) (by decide) (by rcases ho with rfl|rfl|rfl|rfl<;>decide) (by decide) (us := [(.int x0), (.int x1), (.int x2)]) (own_us3 ⟨ho, hx0, hx1, hx2⟩) (by decide) N6 g_b2 (g := (mkF m 27 #[vr arr, vi st, vi (st + (3 : Int32)), vi 3, vr b2] [(.int 3), (.int 0), (.ref b2), (.int st), (.ref arr)])) rfl (by rw [hml]; rfl) rfl (hb hby own_d13_27) (by decide) (W := 0) (by show 2 * 0 + _ ≤ _; exact Nat.le_of_eq rfl) (by decide)
 have K7 : Keep h0 h7 [] := K2.trans Kc7 (allS (Or.inr hz_b2) all0)
 have Z7 : n0 ≤ h7.size := Nat.le_trans Z2 Kc7.1
 have O7 := O2.keep Kc7 (allS g_b2 all0)
 have Vd7 : Arv Z h7 b2 k2 .byte (3 : Int32) [(.int x0), (.int x1), (.int x2)] (.int 0) := Vc7
 refine own_st (T' := T7) (g' := (mkF m 30 #[vr arr, vi st, vi (st + (3 : Int32)), vi 3, vr b2] [])) st7 ?_
 refine own_st (T' := T7) (g' := (mkF m 32 #[vr arr, vi st, vi (st + (3 : Int32)), vi 3, vr b2] [(.ref b2)])) (fun t k => ?_) ?_
 ·refine XS.aload X7.here hx rfl (hb hby own_d13_30) rfl rfl ?_
  exact k
 exact own_retA X7 hx Bd rfl rfl (hb hby own_d13_32) e7 (⟨b2, k2, rfl, N7, K7, g_b2, hz_b2, Vd7⟩) (by decide) (by decide)
def own_r12_3 : Room := { frames := 2, cells := 1, slots := 3, locals := 34 }
def own_Q12_3 (Z : State) (arr : Addr) (ka : ClassId) (y0 y1 y2 y3 y4 y5 y6 y7 st x0 x1 x2 : Int32) (cs : Int32) (fm : Value) (u8 : Addr) (h0 : Heap) (n0 : Nat) : Option Value → Heap → List Loc → Prop := fun v h L => ∃ r k, v = some (.ref r) ∧ Fr n0 L ∧ Keep h0 h [] ∧ n0 ≤ r ∧ h0.size ≤ r ∧ Arv Z h r k .byte (3 : Int32) [(.int x0), (.int x1), (.int x2)] (.int 0)
theorem own_rm12_3 (l : Launch) (Z : State) (a0 : Array Value) (hw : own_W a0 Z) (arr : Addr) (ka : ClassId) (y0 y1 y2 y3 y4 y5 y6 y7 st x0 x1 x2 : Int32) (cs : Int32) (fm : Value) (u8 : Addr) (h0 : Heap) (n0 : Nat) (Z0 : n0 ≤ h0.size) (O0 : Old Z n0 h0) (V_a : Arv Z h0 arr ka .byte (8 : Int32) [(.int y0), (.int y1), (.int y2), (.int y3), (.int y4), (.int y5), (.int y6), (.int y7)] (.int 0)) (hYX : own_YX y0 y1 y2 y3 y4 y5 y6 y7 st x0 x1 x2) (HB : own_BB Z cs fm u8) :
  own_MF l Z own_y9 (Jvm.Cond.code own_y9 jdk_65_method_132_code 3 (some (.array .byte))) [] own_r12_3 #[(.ref arr), (.int st), (.int (st + (3 : Int32)))] h0 (own_Q12_3 Z arr ka y0 y1 y2 y3 y4 y5 y6 y7 st x0 x1 x2 cs fm u8 h0 n0) := by
 refine own_open (plainFor_of_name own_pn4) hisR (Ls := #[vr arr, vi st, vi (st + (3 : Int32))]) ?_
 intro p e s m below meth c s₁ Bd hZ hx hby hml hown X0 e0
 obtain ⟨-, -, -, -, -, -, -, -, -, E_u8⟩ := id HB
 have N0 := Fr.nil n0
 obtain ⟨ho, hx0, hx1, hx2⟩ := id hYX
 refine own_st (T' := s₁) (g' := (mkF m 1 #[vr arr, vi st, vi (st + (3 : Int32))] [(.int st)])) (fun t k => ?_) ?_
 ·refine XS.iloadN X0.here hx rfl (hb hby own_d12_0) rfl ?_
  exact k
 by_cases hc1 : st = (0 : Int32)
 ·refine own_st (T' := s₁) (g' := (mkF m 6 #[vr arr, vi st, vi (st + (3 : Int32))] [(.ref arr), (.int (st + (3 : Int32)))])) (fun t k => ?_) ?_
  ·refine XS.ifNo X0.here hx rfl (hb hby own_d12_1) rfl ((if0 _ _).trans (teq hc1).2) ?_
   refine XS.iloadN X0.here hx rfl (hb hby own_d12_4) rfl ?_
   refine XS.aloadN X0.here hx rfl (hb hby own_d12_5) rfl rfl ?_
   exact k
  obtain ⟨cl2, Ar2, q2, S2, M2, H2, G2⟩ := id V_a
  refine own_st (T' := s₁) (g' := (mkF m 13 #[vr arr, vi st, vi (st + (3 : Int32))] [(.int (st + (3 : Int32))), (.int st), (.ref arr)])) (fun t k => ?_) ?_
  ·refine X0.arraylength hx (by rw [e0]; exact Ar2.1) (State.isArrayOf_alike hZ.alike Ar2.2.1) (g := (mkF m 6 #[vr arr, vi st, vi (st + (3 : Int32))] [(.ref arr), (.int (st + (3 : Int32)))])) rfl rfl (hb hby own_d12_6) _ ?_
   rw [len_of S2 M2]
   refine XS.icmpNo X0.here hx rfl (hb hby own_d12_7) rfl (feq (by rcases ho with rfl|rfl|rfl|rfl<;>decide)).1 ?_
   refine XS.aloadN X0.here hx rfl (hb hby own_d12_10) rfl rfl ?_
   refine XS.iloadN X0.here hx rfl (hb hby own_d12_11) rfl ?_
   refine XS.iloadN X0.here hx rfl (hb hby own_d12_12) rfl ?_
   exact k
  obtain ⟨_, _, ⟨T3, L3, c3, n3⟩, -, X3, ⟨Lc3, hQ3, l3, y3, z3⟩, st3⟩ := Jvm.LawKit.callS X0 hx (y := own_y8) hown (om hZ hw 76 rfl) (om hZ hw 77 rfl) (om hZ hw 74 rfl) (om hZ hw 78 rfl) (by decide) (backOf (W := 0) (own_rm13_3 l Z a0 hw arr ka y0 y1 y2 y3 y4 y5 y6 y7 st x0 x1 x2 cs fm u8 h0 n0 Z0 O0 V_a ⟨ho, hx0, hx1, hx2⟩ HB) hZ (own_w hw 78 rfl) (own_w hw 74 rfl) (by decide) (by decide)) (g := (mkF m 13 #[vr arr, vi st, vi (st + (3 : Int32))] [(.int (st + (3 : Int32))), (.int st), (.ref arr)])) rfl (by rw [hml]; rfl) (argsL := [(.ref arr), (.int st), (.int (st + (3 : Int32)))]) (rest := []) (lenOf own_pd4 rfl) rfl (by show 2 * 0 + _ ≤ _; exact Nat.le_of_eq rfl) (hb hby own_d12_13) (fun _ _ => ⟨rfl, e0, (by decide : 0 + 1 ≤ _), (by decide : 0 + 3 ≤ _)⟩)
  dsimp only [Pt.U, Pt.locs, Pt.cells, Pt.slots] at X3 l3 y3 z3 st3 hQ3
  subst l3 y3 z3
  obtain ⟨h3, e3⟩ : ∃ z, T3.heap = z := ⟨_, rfl⟩
  rw [e3] at hQ3
  obtain ⟨r3, k3, rfl, N3q, Kc3, g3, hz3, Vc3⟩ := hQ3
  have N3 := Fr.app N0 N3q
  have ne_arr_r3 : arr ≠ r3 := Nat.ne_of_lt (Nat.lt_of_lt_of_le V_a.lt hz3)
  have f4 := E_u8.ext O0.2
  have ne_u8_r3 : u8 ≠ r3 := Nat.ne_of_lt (Nat.lt_of_lt_of_le f4.lt hz3)
  have hwr3 : h0.size ≤ r3 := Nat.le_trans (Keep.refl h0 []).1 hz3
  have K3 : Keep h0 h3 [] := (Keep.refl h0 []).trans Kc3 all0
  have Z3 : n0 ≤ h3.size := Nat.le_trans Z0 Kc3.1
  have O3 := O0.keep Kc3 all0
  refine own_st (T' := T3) (g' := (mkF m 16 #[vr arr, vi st, vi (st + (3 : Int32))] [(.ref r3)])) st3 ?_
  exact own_retA X3 hx Bd rfl rfl (hb hby own_d12_16) e3 (⟨r3, k3, rfl, N3, K3, g3, hwr3, Vc3⟩) (by decide) (by decide)
 ·refine own_st (T' := s₁) (g' := (mkF m 13 #[vr arr, vi st, vi (st + (3 : Int32))] [(.int (st + (3 : Int32))), (.int st), (.ref arr)])) (fun t k => ?_) ?_
  ·refine XS.ifYes X0.here hx rfl (pc0 := 1) (pc' := 10) rfl (hb hby own_d12_1) rfl ((if0 _ _).trans (feq hc1).2) (by decide) (by decide) ?_
   refine XS.aloadN X0.here hx rfl (hb hby own_d12_10) rfl rfl ?_
   refine XS.iloadN X0.here hx rfl (hb hby own_d12_11) rfl ?_
   refine XS.iloadN X0.here hx rfl (hb hby own_d12_12) rfl ?_
   exact k
  obtain ⟨_, _, ⟨T5, L5, c5, n5⟩, -, X5, ⟨Lc5, hQ5, l5, y5, z5⟩, st5⟩ := Jvm.LawKit.callS X0 hx (y := own_y8) hown (om hZ hw 76 rfl) (om hZ hw 77 rfl) (om hZ hw 74 rfl) (om hZ hw 78 rfl) (by decide) (backOf (W := 0) (own_rm13_3 l Z a0 hw arr ka y0 y1 y2 y3 y4 y5 y6 y7 st x0 x1 x2 cs fm u8 h0 n0 Z0 O0 V_a ⟨ho, hx0, hx1, hx2⟩ HB) hZ (own_w hw 78 rfl) (own_w hw 74 rfl) (by decide) (by decide)) (g := (mkF m 13 #[vr arr, vi st, vi (st + (3 : Int32))] [(.int (st + (3 : Int32))), (.int st), (.ref arr)])) rfl (by rw [hml]; rfl) (argsL := [(.ref arr), (.int st), (.int (st + (3 : Int32)))]) (rest := []) (lenOf own_pd4 rfl) rfl (by show 2 * 0 + _ ≤ _; exact Nat.le_of_eq rfl) (hb hby own_d12_13) (fun _ _ => ⟨rfl, e0, (by decide : 0 + 1 ≤ _), (by decide : 0 + 3 ≤ _)⟩)
  dsimp only [Pt.U, Pt.locs, Pt.cells, Pt.slots] at X5 l5 y5 z5 st5 hQ5
  subst l5 y5 z5
  obtain ⟨h5, e5⟩ : ∃ z, T5.heap = z := ⟨_, rfl⟩
  rw [e5] at hQ5
  obtain ⟨r5, k5, rfl, N5q, Kc5, g5, hz5, Vc5⟩ := hQ5
  have N5 := Fr.app N0 N5q
  have ne_arr_r5 : arr ≠ r5 := Nat.ne_of_lt (Nat.lt_of_lt_of_le V_a.lt hz5)
  have f6 := E_u8.ext O0.2
  have ne_u8_r5 : u8 ≠ r5 := Nat.ne_of_lt (Nat.lt_of_lt_of_le f6.lt hz5)
  have hwr5 : h0.size ≤ r5 := Nat.le_trans (Keep.refl h0 []).1 hz5
  have K5 : Keep h0 h5 [] := (Keep.refl h0 []).trans Kc5 all0
  have Z5 : n0 ≤ h5.size := Nat.le_trans Z0 Kc5.1
  have O5 := O0.keep Kc5 all0
  refine own_st (T' := T5) (g' := (mkF m 16 #[vr arr, vi st, vi (st + (3 : Int32))] [(.ref r5)])) st5 ?_
  exact own_retA X5 hx Bd rfl rfl (hb hby own_d12_16) e5 (⟨r5, k5, rfl, N5, K5, g5, hwr5, Vc5⟩) (by decide) (by decide)
def own_r33_2_1 : Room := { frames := 1, cells := 1, slots := 1, locals := 18 }
def own_Q33_2_1 (Z : State) (arr : Addr) (ka : ClassId) (z0 z1 : Int32) (cs : Int32) (fm : Value) (u8 : Addr) (h0 : Heap) (n0 : Nat) : Option Value → Heap → List Loc → Prop := fun v h L => ∃ r k, v = some (.ref r) ∧ Fr n0 L ∧ Keep h0 h [] ∧ n0 ≤ r ∧ h0.size ≤ r ∧ Arv Z h r k .byte (1 : Int32) [(.int z0)] (.int 0)
theorem own_rm33_2_1 (l : Launch) (Z : State) (a0 : Array Value) (hw : own_W a0 Z) (arr : Addr) (ka : ClassId) (z0 z1 : Int32) (cs : Int32) (fm : Value) (u8 : Addr) (h0 : Heap) (n0 : Nat) (Z0 : n0 ≤ h0.size) (O0 : Old Z n0 h0) (V_a : Arv Z h0 arr ka .byte (2 : Int32) [(.int z0), (.int z1)] (.int 0)) (HB : own_BB Z cs fm u8) :
  own_MF l Z own_y10 (Jvm.Cond.code own_y10 jdk_65_method_121_code 3 (some (.array .byte))) [] own_r33_2_1 #[(.ref arr), (.int 1)] h0 (own_Q33_2_1 Z arr ka z0 z1 cs fm u8 h0 n0) := by
 refine own_open (plainFor_of_name own_pn4) hisR (Ls := #[vr arr, vi 1, .unset]) ?_
 intro p e s m below meth c s₁ Bd hZ hx hby hml hown X0 e0
 obtain ⟨-, -, -, -, -, -, -, -, -, E_u8⟩ := id HB
 have N0 := Fr.nil n0
 refine own_st (T' := s₁) (g' := (mkF m 2 #[vr arr, vi 1, .unset] [(.ref arr), (.int 1)])) (fun t k => ?_) ?_
 ·refine XS.iloadN X0.here hx rfl (hb hby own_d33_0) rfl ?_
  refine XS.aloadN X0.here hx rfl (hb hby own_d33_1) rfl rfl ?_
  exact k
 obtain ⟨cl1, Ar1, q1, S1, M1, H1, G1⟩ := id V_a
 refine own_st (T' := s₁) (g' := (mkF m 15 #[vr arr, vi 1, .unset] [(.int 1)])) (fun t k => ?_) ?_
 ·refine X0.arraylength hx (by rw [e0]; exact Ar1.1) (State.isArrayOf_alike hZ.alike Ar1.2.1) (g := (mkF m 2 #[vr arr, vi 1, .unset] [(.ref arr), (.int 1)])) rfl rfl (hb hby own_d33_2) _ ?_
  rw [len_of S1 M1]
  refine XS.icmpYes X0.here hx rfl (pc0 := 3) (pc' := 14) rfl (hb hby own_d33_3) rfl (feq (by decide : ¬ ((1 : Int32) = (2 : Int32)))).2 (by decide) (by decide) ?_
  refine XS.iloadN X0.here hx rfl (hb hby own_d33_14) rfl ?_
  exact k
 obtain ⟨T2, h2, k2, X2, e2, E2, A2, st2⟩ := newP X0 hx hZ (own_w hw 1 rfl) e0 (g := (mkF m 15 #[vr arr, vi 1, .unset] [(.int 1)])) rfl (hb hby own_d33_15) rfl (by decide) (cap := 1) (by decide) (by decide) (by decide) (by decide)
 obtain ⟨b2, g2⟩ : ∃ z, z = h0.size := ⟨_, rfl⟩
 rw [← g2] at A2 st2
 have sz2 : h0.size ≤ b2 := Nat.le_of_eq g2.symm
 have ne_arr_b2 : arr ≠ b2 := Nat.ne_of_lt (Nat.lt_of_lt_of_le V_a.lt sz2)
 have f3 := E_u8.ext O0.2
 have ne_u8_b2 : u8 ≠ b2 := Nat.ne_of_lt (Nat.lt_of_lt_of_le f3.lt sz2)
 have g_b2 : n0 ≤ b2 := Nat.le_trans Z0 sz2
 have hz_b2 : h0.size ≤ b2 := Nat.le_trans (Keep.refl h0 []).1 sz2
 have K2 : Keep h0 h2 [] := (Keep.refl h0 []).ext E2
 have Z2 : n0 ≤ h2.size := Nat.le_trans Z0 E2.1
 have O2 := O0.ext E2
 have V2 : Arv Z h2 b2 k2 .byte (1 : Int32) [(.int 0)] (.int 0) := (Arv.new A2 (by decide)).pad (pad_rep [] (.int 0) 1)
 refine own_st (T' := T2) (g' := (mkF m 17 #[vr arr, vi 1, .unset] [(.ref b2)])) st2 ?_
 refine own_st (T' := T2) (g' := (mkF m 23 #[vr arr, vi 1, vr b2] [(.ref arr), (.int 0), (.ref b2), (.int 0), (.ref arr)])) (fun t k => ?_) ?_
 ·refine XS.astoreN X2.here hx rfl (hb hby own_d33_17) rfl rfl (l' := #[vr arr, vi 1, vr b2]) rfl ?_
  refine XS.aloadN X2.here hx rfl (hb hby own_d33_18) rfl rfl ?_
  refine XS.iconst X2.here hx rfl (hb hby own_d33_19) ?_
  refine XS.aloadN X2.here hx rfl (hb hby own_d33_20) rfl rfl ?_
  refine XS.iconst X2.here hx rfl (hb hby own_d33_21) ?_
  refine XS.aloadN X2.here hx rfl (hb hby own_d33_22) rfl rfl ?_
  exact k
 have f4 := V_a.ext E2
 obtain ⟨cl5, Ar5, q5, S5, M5, H5, G5⟩ := id f4
 refine own_st (T' := T2) (g' := (mkF m 25 #[vr arr, vi 1, vr b2] [(.int 1), (.int 2), (.int 0), (.ref b2), (.int 0), (.ref arr)])) (fun t k => ?_) ?_
 ·refine X2.arraylength hx (by rw [e2]; exact Ar5.1) (State.isArrayOf_alike hZ.alike Ar5.2.1) (g := (mkF m 23 #[vr arr, vi 1, vr b2] [(.ref arr), (.int 0), (.ref b2), (.int 0), (.ref arr)])) rfl rfl (hb hby own_d33_23) _ ?_
  rw [len_of S5 M5]
  refine XS.iloadN X2.here hx rfl (hb hby own_d33_24) rfl ?_
  exact k
 obtain ⟨_, _, ⟨T6, L6, c6, n6⟩, -, X6, ⟨Lc6, hQ6, l6, y6, z6⟩, st6⟩ := Jvm.LawKit.callS X2 hx (y := own_y5) hown (om hZ hw 82 rfl) (om hZ hw 21 rfl) (om hZ hw 22 rfl) (om hZ hw 23 rfl) (by decide) (backOf (W := 4) (own_rm4b l Z a0 hw (2 : Int32) (1 : Int32) cs fm u8 h2 n0 Z2 O2 (by decide) HB) hZ (own_w hw 23 rfl) (own_w hw 22 rfl) (by decide) (by decide)) (g := (mkF m 25 #[vr arr, vi 1, vr b2] [(.int 1), (.int 2), (.int 0), (.ref b2), (.int 0), (.ref arr)])) rfl (by rw [hml]; rfl) (argsL := [(.int 2), (.int 1)]) (rest := [(.int 0), (.ref b2), (.int 0), (.ref arr)]) (lenOf own_pd3 rfl) rfl (by show 2 * 0 + _ ≤ _; exact Nat.le_of_eq rfl) (hb hby own_d33_25) (fun _ _ => ⟨rfl, e2, (by decide : 1 + 0 ≤ _), (by decide : 1 + 0 ≤ _)⟩)
 dsimp only [Pt.U, Pt.locs, Pt.cells, Pt.slots] at X6 l6 y6 z6 st6 hQ6
 subst l6 y6 z6
 obtain ⟨rfl, N6q, e6⟩ := hQ6
 have N6 := Fr.app N0 N6q
 refine own_st (T' := T6) (g' := (mkF m 28 #[vr arr, vi 1, vr b2] [(.int 1), (.int 0), (.ref b2), (.int 0), (.ref arr)])) st6 ?_
 obtain ⟨T7, h7, Lc7, X7, e7, N7, Kc7, Vc7, st7⟩ := cpA X6 hx hZ hown (own_w hw 83 rfl) (own_w hw 86 rfl) (own_w hw 84 rfl) (own_w hw 85 rfl) e6 f4 V2 (Or.inl ⟨rfl, rfl⟩) (by decide) (by decide) (by decide) (by decide) (by decide) (us := [(.int z0)]) rfl (by decide) N6 g_b2 (g := (mkF m 28 #[vr arr, vi 1, vr b2] [(.int 1), (.int 0), (.ref b2), (.int 0), (.ref arr)])) rfl (by rw [hml]; rfl) rfl (hb hby own_d33_28) (by decide) (W := 0) (by show 2 * 0 + _ ≤ _; exact Nat.le_of_eq rfl) (by decide)
 have K7 : Keep h0 h7 [] := K2.trans Kc7 (allS (Or.inr hz_b2) all0)
 have Z7 : n0 ≤ h7.size := Nat.le_trans Z2 Kc7.1
 have O7 := O2.keep Kc7 (allS g_b2 all0)
 have Vd7 : Arv Z h7 b2 k2 .byte (1 : Int32) [(.int z0)] (.int 0) := Vc7
 refine own_st (T' := T7) (g' := (mkF m 31 #[vr arr, vi 1, vr b2] [])) st7 ?_
 refine own_st (T' := T7) (g' := (mkF m 32 #[vr arr, vi 1, vr b2] [(.ref b2)])) (fun t k => ?_) ?_
 ·refine XS.aloadN X7.here hx rfl (hb hby own_d33_31) rfl rfl ?_
  exact k
 exact own_retA X7 hx Bd rfl rfl (hb hby own_d33_32) e7 (⟨b2, k2, rfl, N7, K7, g_b2, hz_b2, Vd7⟩) (by decide) (by decide)
def own_r33_3_2 : Room := { frames := 1, cells := 1, slots := 2, locals := 18 }
def own_Q33_3_2 (Z : State) (arr : Addr) (ka : ClassId) (z0 z1 z2 : Int32) (cs : Int32) (fm : Value) (u8 : Addr) (h0 : Heap) (n0 : Nat) : Option Value → Heap → List Loc → Prop := fun v h L => ∃ r k, v = some (.ref r) ∧ Fr n0 L ∧ Keep h0 h [] ∧ n0 ≤ r ∧ h0.size ≤ r ∧ Arv Z h r k .byte (2 : Int32) [(.int z0), (.int z1)] (.int 0)
theorem own_rm33_3_2 (l : Launch) (Z : State) (a0 : Array Value) (hw : own_W a0 Z) (arr : Addr) (ka : ClassId) (z0 z1 z2 : Int32) (cs : Int32) (fm : Value) (u8 : Addr) (h0 : Heap) (n0 : Nat) (Z0 : n0 ≤ h0.size) (O0 : Old Z n0 h0) (V_a : Arv Z h0 arr ka .byte (3 : Int32) [(.int z0), (.int z1), (.int z2)] (.int 0)) (HB : own_BB Z cs fm u8) :
  own_MF l Z own_y10 (Jvm.Cond.code own_y10 jdk_65_method_121_code 3 (some (.array .byte))) [] own_r33_3_2 #[(.ref arr), (.int 2)] h0 (own_Q33_3_2 Z arr ka z0 z1 z2 cs fm u8 h0 n0) := by
 refine own_open (plainFor_of_name own_pn4) hisR (Ls := #[vr arr, vi 2, .unset]) ?_
 intro p e s m below meth c s₁ Bd hZ hx hby hml hown X0 e0
 obtain ⟨-, -, -, -, -, -, -, -, -, E_u8⟩ := id HB
 have N0 := Fr.nil n0
 refine own_st (T' := s₁) (g' := (mkF m 2 #[vr arr, vi 2, .unset] [(.ref arr), (.int 2)])) (fun t k => ?_) ?_
 ·refine XS.iloadN X0.here hx rfl (hb hby own_d33_0) rfl ?_
  refine XS.aloadN X0.here hx rfl (hb hby own_d33_1) rfl rfl ?_
  exact k
 obtain ⟨cl1, Ar1, q1, S1, M1, H1, G1⟩ := id V_a
 refine own_st (T' := s₁) (g' := (mkF m 15 #[vr arr, vi 2, .unset] [(.int 2)])) (fun t k => ?_) ?_
 ·refine X0.arraylength hx (by rw [e0]; exact Ar1.1) (State.isArrayOf_alike hZ.alike Ar1.2.1) (g := (mkF m 2 #[vr arr, vi 2, .unset] [(.ref arr), (.int 2)])) rfl rfl (hb hby own_d33_2) _ ?_
  rw [len_of S1 M1]
  refine XS.icmpYes X0.here hx rfl (pc0 := 3) (pc' := 14) rfl (hb hby own_d33_3) rfl (feq (by decide : ¬ ((2 : Int32) = (3 : Int32)))).2 (by decide) (by decide) ?_
  refine XS.iloadN X0.here hx rfl (hb hby own_d33_14) rfl ?_
  exact k
 obtain ⟨T2, h2, k2, X2, e2, E2, A2, st2⟩ := newP X0 hx hZ (own_w hw 1 rfl) e0 (g := (mkF m 15 #[vr arr, vi 2, .unset] [(.int 2)])) rfl (hb hby own_d33_15) rfl (by decide) (cap := 2) (by decide) (by decide) (by decide) (by decide)
 obtain ⟨b2, g2⟩ : ∃ z, z = h0.size := ⟨_, rfl⟩
 rw [← g2] at A2 st2
 have sz2 : h0.size ≤ b2 := Nat.le_of_eq g2.symm
 have ne_arr_b2 : arr ≠ b2 := Nat.ne_of_lt (Nat.lt_of_lt_of_le V_a.lt sz2)
 have f3 := E_u8.ext O0.2
 have ne_u8_b2 : u8 ≠ b2 := Nat.ne_of_lt (Nat.lt_of_lt_of_le f3.lt sz2)
 have g_b2 : n0 ≤ b2 := Nat.le_trans Z0 sz2
 have hz_b2 : h0.size ≤ b2 := Nat.le_trans (Keep.refl h0 []).1 sz2
 have K2 : Keep h0 h2 [] := (Keep.refl h0 []).ext E2
 have Z2 : n0 ≤ h2.size := Nat.le_trans Z0 E2.1
 have O2 := O0.ext E2
 have V2 : Arv Z h2 b2 k2 .byte (2 : Int32) [(.int 0), (.int 0)] (.int 0) := (Arv.new A2 (by decide)).pad (pad_rep [] (.int 0) 2)
 refine own_st (T' := T2) (g' := (mkF m 17 #[vr arr, vi 2, .unset] [(.ref b2)])) st2 ?_
 refine own_st (T' := T2) (g' := (mkF m 23 #[vr arr, vi 2, vr b2] [(.ref arr), (.int 0), (.ref b2), (.int 0), (.ref arr)])) (fun t k => ?_) ?_
 ·refine XS.astoreN X2.here hx rfl (hb hby own_d33_17) rfl rfl (l' := #[vr arr, vi 2, vr b2]) rfl ?_
  refine XS.aloadN X2.here hx rfl (hb hby own_d33_18) rfl rfl ?_
  refine XS.iconst X2.here hx rfl (hb hby own_d33_19) ?_
  refine XS.aloadN X2.here hx rfl (hb hby own_d33_20) rfl rfl ?_
  refine XS.iconst X2.here hx rfl (hb hby own_d33_21) ?_
  refine XS.aloadN X2.here hx rfl (hb hby own_d33_22) rfl rfl ?_
  exact k
 have f4 := V_a.ext E2
 obtain ⟨cl5, Ar5, q5, S5, M5, H5, G5⟩ := id f4
 refine own_st (T' := T2) (g' := (mkF m 25 #[vr arr, vi 2, vr b2] [(.int 2), (.int 3), (.int 0), (.ref b2), (.int 0), (.ref arr)])) (fun t k => ?_) ?_
 ·refine X2.arraylength hx (by rw [e2]; exact Ar5.1) (State.isArrayOf_alike hZ.alike Ar5.2.1) (g := (mkF m 23 #[vr arr, vi 2, vr b2] [(.ref arr), (.int 0), (.ref b2), (.int 0), (.ref arr)])) rfl rfl (hb hby own_d33_23) _ ?_
  rw [len_of S5 M5]
  refine XS.iloadN X2.here hx rfl (hb hby own_d33_24) rfl ?_
  exact k
 obtain ⟨_, _, ⟨T6, L6, c6, n6⟩, -, X6, ⟨Lc6, hQ6, l6, y6, z6⟩, st6⟩ := Jvm.LawKit.callS X2 hx (y := own_y5) hown (om hZ hw 82 rfl) (om hZ hw 21 rfl) (om hZ hw 22 rfl) (om hZ hw 23 rfl) (by decide) (backOf (W := 4) (own_rm4b l Z a0 hw (3 : Int32) (2 : Int32) cs fm u8 h2 n0 Z2 O2 (by decide) HB) hZ (own_w hw 23 rfl) (own_w hw 22 rfl) (by decide) (by decide)) (g := (mkF m 25 #[vr arr, vi 2, vr b2] [(.int 2), (.int 3), (.int 0), (.ref b2), (.int 0), (.ref arr)])) rfl (by rw [hml]; rfl) (argsL := [(.int 3), (.int 2)]) (rest := [(.int 0), (.ref b2), (.int 0), (.ref arr)]) (lenOf own_pd3 rfl) rfl (by show 2 * 0 + _ ≤ _; exact Nat.le_of_eq rfl) (hb hby own_d33_25) (fun _ _ => ⟨rfl, e2, (by decide : 1 + 0 ≤ _), (by decide : 2 + 0 ≤ _)⟩)
 dsimp only [Pt.U, Pt.locs, Pt.cells, Pt.slots] at X6 l6 y6 z6 st6 hQ6
 subst l6 y6 z6
 obtain ⟨rfl, N6q, e6⟩ := hQ6
 have N6 := Fr.app N0 N6q
 refine own_st (T' := T6) (g' := (mkF m 28 #[vr arr, vi 2, vr b2] [(.int 2), (.int 0), (.ref b2), (.int 0), (.ref arr)])) st6 ?_
 obtain ⟨T7, h7, Lc7, X7, e7, N7, Kc7, Vc7, st7⟩ := cpA X6 hx hZ hown (own_w hw 83 rfl) (own_w hw 86 rfl) (own_w hw 84 rfl) (own_w hw 85 rfl) e6 f4 V2 (Or.inl ⟨rfl, rfl⟩) (by decide) (by decide) (by decide) (by decide) (by decide) (us := [(.int z0), (.int z1)]) rfl (by decide) N6 g_b2 (g := (mkF m 28 #[vr arr, vi 2, vr b2] [(.int 2), (.int 0), (.ref b2), (.int 0), (.ref arr)])) rfl (by rw [hml]; rfl) rfl (hb hby own_d33_28) (by decide) (W := 0) (by show 2 * 0 + _ ≤ _; exact Nat.le_of_eq rfl) (by decide)
 have K7 : Keep h0 h7 [] := K2.trans Kc7 (allS (Or.inr hz_b2) all0)
 have Z7 : n0 ≤ h7.size := Nat.le_trans Z2 Kc7.1
 have O7 := O2.keep Kc7 (allS g_b2 all0)
 have Vd7 : Arv Z h7 b2 k2 .byte (2 : Int32) [(.int z0), (.int z1)] (.int 0) := Vc7
 refine own_st (T' := T7) (g' := (mkF m 31 #[vr arr, vi 2, vr b2] [])) st7 ?_
 refine own_st (T' := T7) (g' := (mkF m 32 #[vr arr, vi 2, vr b2] [(.ref b2)])) (fun t k => ?_) ?_
 ·refine XS.aloadN X7.here hx rfl (hb hby own_d33_31) rfl rfl ?_
  exact k
 exact own_retA X7 hx Bd rfl rfl (hb hby own_d33_32) e7 (⟨b2, k2, rfl, N7, K7, g_b2, hz_b2, Vd7⟩) (by decide) (by decide)
def own_r33_4_2 : Room := { frames := 1, cells := 1, slots := 2, locals := 18 }
def own_Q33_4_2 (Z : State) (arr : Addr) (ka : ClassId) (z0 z1 z2 z3 : Int32) (cs : Int32) (fm : Value) (u8 : Addr) (h0 : Heap) (n0 : Nat) : Option Value → Heap → List Loc → Prop := fun v h L => ∃ r k, v = some (.ref r) ∧ Fr n0 L ∧ Keep h0 h [] ∧ n0 ≤ r ∧ h0.size ≤ r ∧ Arv Z h r k .byte (2 : Int32) [(.int z0), (.int z1)] (.int 0)
theorem own_rm33_4_2 (l : Launch) (Z : State) (a0 : Array Value) (hw : own_W a0 Z) (arr : Addr) (ka : ClassId) (z0 z1 z2 z3 : Int32) (cs : Int32) (fm : Value) (u8 : Addr) (h0 : Heap) (n0 : Nat) (Z0 : n0 ≤ h0.size) (O0 : Old Z n0 h0) (V_a : Arv Z h0 arr ka .byte (4 : Int32) [(.int z0), (.int z1), (.int z2), (.int z3)] (.int 0)) (HB : own_BB Z cs fm u8) :
  own_MF l Z own_y10 (Jvm.Cond.code own_y10 jdk_65_method_121_code 3 (some (.array .byte))) [] own_r33_4_2 #[(.ref arr), (.int 2)] h0 (own_Q33_4_2 Z arr ka z0 z1 z2 z3 cs fm u8 h0 n0) := by
 refine own_open (plainFor_of_name own_pn4) hisR (Ls := #[vr arr, vi 2, .unset]) ?_
 intro p e s m below meth c s₁ Bd hZ hx hby hml hown X0 e0
 obtain ⟨-, -, -, -, -, -, -, -, -, E_u8⟩ := id HB
 have N0 := Fr.nil n0
 refine own_st (T' := s₁) (g' := (mkF m 2 #[vr arr, vi 2, .unset] [(.ref arr), (.int 2)])) (fun t k => ?_) ?_
 ·refine XS.iloadN X0.here hx rfl (hb hby own_d33_0) rfl ?_
  refine XS.aloadN X0.here hx rfl (hb hby own_d33_1) rfl rfl ?_
  exact k
 obtain ⟨cl1, Ar1, q1, S1, M1, H1, G1⟩ := id V_a
 refine own_st (T' := s₁) (g' := (mkF m 15 #[vr arr, vi 2, .unset] [(.int 2)])) (fun t k => ?_) ?_
 ·refine X0.arraylength hx (by rw [e0]; exact Ar1.1) (State.isArrayOf_alike hZ.alike Ar1.2.1) (g := (mkF m 2 #[vr arr, vi 2, .unset] [(.ref arr), (.int 2)])) rfl rfl (hb hby own_d33_2) _ ?_
  rw [len_of S1 M1]
  refine XS.icmpYes X0.here hx rfl (pc0 := 3) (pc' := 14) rfl (hb hby own_d33_3) rfl (feq (by decide : ¬ ((2 : Int32) = (4 : Int32)))).2 (by decide) (by decide) ?_
  refine XS.iloadN X0.here hx rfl (hb hby own_d33_14) rfl ?_
  exact k
 obtain ⟨T2, h2, k2, X2, e2, E2, A2, st2⟩ := newP X0 hx hZ (own_w hw 1 rfl) e0 (g := (mkF m 15 #[vr arr, vi 2, .unset] [(.int 2)])) rfl (hb hby own_d33_15) rfl (by decide) (cap := 2) (by decide) (by decide) (by decide) (by decide)
 obtain ⟨b2, g2⟩ : ∃ z, z = h0.size := ⟨_, rfl⟩
 rw [← g2] at A2 st2
 have sz2 : h0.size ≤ b2 := Nat.le_of_eq g2.symm
 have ne_arr_b2 : arr ≠ b2 := Nat.ne_of_lt (Nat.lt_of_lt_of_le V_a.lt sz2)
 have f3 := E_u8.ext O0.2
 have ne_u8_b2 : u8 ≠ b2 := Nat.ne_of_lt (Nat.lt_of_lt_of_le f3.lt sz2)
 have g_b2 : n0 ≤ b2 := Nat.le_trans Z0 sz2
 have hz_b2 : h0.size ≤ b2 := Nat.le_trans (Keep.refl h0 []).1 sz2
 have K2 : Keep h0 h2 [] := (Keep.refl h0 []).ext E2
 have Z2 : n0 ≤ h2.size := Nat.le_trans Z0 E2.1
 have O2 := O0.ext E2
 have V2 : Arv Z h2 b2 k2 .byte (2 : Int32) [(.int 0), (.int 0)] (.int 0) := (Arv.new A2 (by decide)).pad (pad_rep [] (.int 0) 2)
 refine own_st (T' := T2) (g' := (mkF m 17 #[vr arr, vi 2, .unset] [(.ref b2)])) st2 ?_
 refine own_st (T' := T2) (g' := (mkF m 23 #[vr arr, vi 2, vr b2] [(.ref arr), (.int 0), (.ref b2), (.int 0), (.ref arr)])) (fun t k => ?_) ?_
 ·refine XS.astoreN X2.here hx rfl (hb hby own_d33_17) rfl rfl (l' := #[vr arr, vi 2, vr b2]) rfl ?_
  refine XS.aloadN X2.here hx rfl (hb hby own_d33_18) rfl rfl ?_
  refine XS.iconst X2.here hx rfl (hb hby own_d33_19) ?_
  refine XS.aloadN X2.here hx rfl (hb hby own_d33_20) rfl rfl ?_
  refine XS.iconst X2.here hx rfl (hb hby own_d33_21) ?_
  refine XS.aloadN X2.here hx rfl (hb hby own_d33_22) rfl rfl ?_
  exact k
 have f4 := V_a.ext E2
 obtain ⟨cl5, Ar5, q5, S5, M5, H5, G5⟩ := id f4
 refine own_st (T' := T2) (g' := (mkF m 25 #[vr arr, vi 2, vr b2] [(.int 2), (.int 4), (.int 0), (.ref b2), (.int 0), (.ref arr)])) (fun t k => ?_) ?_
 ·refine X2.arraylength hx (by rw [e2]; exact Ar5.1) (State.isArrayOf_alike hZ.alike Ar5.2.1) (g := (mkF m 23 #[vr arr, vi 2, vr b2] [(.ref arr), (.int 0), (.ref b2), (.int 0), (.ref arr)])) rfl rfl (hb hby own_d33_23) _ ?_
  rw [len_of S5 M5]
  refine XS.iloadN X2.here hx rfl (hb hby own_d33_24) rfl ?_
  exact k
 obtain ⟨_, _, ⟨T6, L6, c6, n6⟩, -, X6, ⟨Lc6, hQ6, l6, y6, z6⟩, st6⟩ := Jvm.LawKit.callS X2 hx (y := own_y5) hown (om hZ hw 82 rfl) (om hZ hw 21 rfl) (om hZ hw 22 rfl) (om hZ hw 23 rfl) (by decide) (backOf (W := 4) (own_rm4b l Z a0 hw (4 : Int32) (2 : Int32) cs fm u8 h2 n0 Z2 O2 (by decide) HB) hZ (own_w hw 23 rfl) (own_w hw 22 rfl) (by decide) (by decide)) (g := (mkF m 25 #[vr arr, vi 2, vr b2] [(.int 2), (.int 4), (.int 0), (.ref b2), (.int 0), (.ref arr)])) rfl (by rw [hml]; rfl) (argsL := [(.int 4), (.int 2)]) (rest := [(.int 0), (.ref b2), (.int 0), (.ref arr)]) (lenOf own_pd3 rfl) rfl (by show 2 * 0 + _ ≤ _; exact Nat.le_of_eq rfl) (hb hby own_d33_25) (fun _ _ => ⟨rfl, e2, (by decide : 1 + 0 ≤ _), (by decide : 2 + 0 ≤ _)⟩)
 dsimp only [Pt.U, Pt.locs, Pt.cells, Pt.slots] at X6 l6 y6 z6 st6 hQ6
 subst l6 y6 z6
 obtain ⟨rfl, N6q, e6⟩ := hQ6
 have N6 := Fr.app N0 N6q
 refine own_st (T' := T6) (g' := (mkF m 28 #[vr arr, vi 2, vr b2] [(.int 2), (.int 0), (.ref b2), (.int 0), (.ref arr)])) st6 ?_
 obtain ⟨T7, h7, Lc7, X7, e7, N7, Kc7, Vc7, st7⟩ := cpA X6 hx hZ hown (own_w hw 83 rfl) (own_w hw 86 rfl) (own_w hw 84 rfl) (own_w hw 85 rfl) e6 f4 V2 (Or.inl ⟨rfl, rfl⟩) (by decide) (by decide) (by decide) (by decide) (by decide) (us := [(.int z0), (.int z1)]) rfl (by decide) N6 g_b2 (g := (mkF m 28 #[vr arr, vi 2, vr b2] [(.int 2), (.int 0), (.ref b2), (.int 0), (.ref arr)])) rfl (by rw [hml]; rfl) rfl (hb hby own_d33_28) (by decide) (W := 0) (by show 2 * 0 + _ ≤ _; exact Nat.le_of_eq rfl) (by decide)
 have K7 : Keep h0 h7 [] := K2.trans Kc7 (allS (Or.inr hz_b2) all0)
 have Z7 : n0 ≤ h7.size := Nat.le_trans Z2 Kc7.1
 have O7 := O2.keep Kc7 (allS g_b2 all0)
 have Vd7 : Arv Z h7 b2 k2 .byte (2 : Int32) [(.int z0), (.int z1)] (.int 0) := Vc7
 refine own_st (T' := T7) (g' := (mkF m 31 #[vr arr, vi 2, vr b2] [])) st7 ?_
 refine own_st (T' := T7) (g' := (mkF m 32 #[vr arr, vi 2, vr b2] [(.ref b2)])) (fun t k => ?_) ?_
 ·refine XS.aloadN X7.here hx rfl (hb hby own_d33_31) rfl rfl ?_
  exact k
 exact own_retA X7 hx Bd rfl rfl (hb hby own_d33_32) e7 (⟨b2, k2, rfl, N7, K7, g_b2, hz_b2, Vd7⟩) (by decide) (by decide)
def own_r33_6_4 : Room := { frames := 1, cells := 1, slots := 4, locals := 18 }
def own_Q33_6_4 (Z : State) (arr : Addr) (ka : ClassId) (z0 z1 z2 z3 z4 z5 : Int32) (cs : Int32) (fm : Value) (u8 : Addr) (h0 : Heap) (n0 : Nat) : Option Value → Heap → List Loc → Prop := fun v h L => ∃ r k, v = some (.ref r) ∧ Fr n0 L ∧ Keep h0 h [] ∧ n0 ≤ r ∧ h0.size ≤ r ∧ Arv Z h r k .byte (4 : Int32) [(.int z0), (.int z1), (.int z2), (.int z3)] (.int 0)
theorem own_rm33_6_4 (l : Launch) (Z : State) (a0 : Array Value) (hw : own_W a0 Z) (arr : Addr) (ka : ClassId) (z0 z1 z2 z3 z4 z5 : Int32) (cs : Int32) (fm : Value) (u8 : Addr) (h0 : Heap) (n0 : Nat) (Z0 : n0 ≤ h0.size) (O0 : Old Z n0 h0) (V_a : Arv Z h0 arr ka .byte (6 : Int32) [(.int z0), (.int z1), (.int z2), (.int z3), (.int z4), (.int z5)] (.int 0)) (HB : own_BB Z cs fm u8) :
  own_MF l Z own_y10 (Jvm.Cond.code own_y10 jdk_65_method_121_code 3 (some (.array .byte))) [] own_r33_6_4 #[(.ref arr), (.int 4)] h0 (own_Q33_6_4 Z arr ka z0 z1 z2 z3 z4 z5 cs fm u8 h0 n0) := by
 refine own_open (plainFor_of_name own_pn4) hisR (Ls := #[vr arr, vi 4, .unset]) ?_
 intro p e s m below meth c s₁ Bd hZ hx hby hml hown X0 e0
 obtain ⟨-, -, -, -, -, -, -, -, -, E_u8⟩ := id HB
 have N0 := Fr.nil n0
 refine own_st (T' := s₁) (g' := (mkF m 2 #[vr arr, vi 4, .unset] [(.ref arr), (.int 4)])) (fun t k => ?_) ?_
 ·refine XS.iloadN X0.here hx rfl (hb hby own_d33_0) rfl ?_
  refine XS.aloadN X0.here hx rfl (hb hby own_d33_1) rfl rfl ?_
  exact k
 obtain ⟨cl1, Ar1, q1, S1, M1, H1, G1⟩ := id V_a
 refine own_st (T' := s₁) (g' := (mkF m 15 #[vr arr, vi 4, .unset] [(.int 4)])) (fun t k => ?_) ?_
 ·refine X0.arraylength hx (by rw [e0]; exact Ar1.1) (State.isArrayOf_alike hZ.alike Ar1.2.1) (g := (mkF m 2 #[vr arr, vi 4, .unset] [(.ref arr), (.int 4)])) rfl rfl (hb hby own_d33_2) _ ?_
  rw [len_of S1 M1]
  refine XS.icmpYes X0.here hx rfl (pc0 := 3) (pc' := 14) rfl (hb hby own_d33_3) rfl (feq (by decide : ¬ ((4 : Int32) = (6 : Int32)))).2 (by decide) (by decide) ?_
  refine XS.iloadN X0.here hx rfl (hb hby own_d33_14) rfl ?_
  exact k
 obtain ⟨T2, h2, k2, X2, e2, E2, A2, st2⟩ := newP X0 hx hZ (own_w hw 1 rfl) e0 (g := (mkF m 15 #[vr arr, vi 4, .unset] [(.int 4)])) rfl (hb hby own_d33_15) rfl (by decide) (cap := 4) (by decide) (by decide) (by decide) (by decide)
 obtain ⟨b2, g2⟩ : ∃ z, z = h0.size := ⟨_, rfl⟩
 rw [← g2] at A2 st2
 have sz2 : h0.size ≤ b2 := Nat.le_of_eq g2.symm
 have ne_arr_b2 : arr ≠ b2 := Nat.ne_of_lt (Nat.lt_of_lt_of_le V_a.lt sz2)
 have f3 := E_u8.ext O0.2
 have ne_u8_b2 : u8 ≠ b2 := Nat.ne_of_lt (Nat.lt_of_lt_of_le f3.lt sz2)
 have g_b2 : n0 ≤ b2 := Nat.le_trans Z0 sz2
 have hz_b2 : h0.size ≤ b2 := Nat.le_trans (Keep.refl h0 []).1 sz2
 have K2 : Keep h0 h2 [] := (Keep.refl h0 []).ext E2
 have Z2 : n0 ≤ h2.size := Nat.le_trans Z0 E2.1
 have O2 := O0.ext E2
 have V2 : Arv Z h2 b2 k2 .byte (4 : Int32) [(.int 0), (.int 0), (.int 0), (.int 0)] (.int 0) := (Arv.new A2 (by decide)).pad (pad_rep [] (.int 0) 4)
 refine own_st (T' := T2) (g' := (mkF m 17 #[vr arr, vi 4, .unset] [(.ref b2)])) st2 ?_
 refine own_st (T' := T2) (g' := (mkF m 23 #[vr arr, vi 4, vr b2] [(.ref arr), (.int 0), (.ref b2), (.int 0), (.ref arr)])) (fun t k => ?_) ?_
 ·refine XS.astoreN X2.here hx rfl (hb hby own_d33_17) rfl rfl (l' := #[vr arr, vi 4, vr b2]) rfl ?_
  refine XS.aloadN X2.here hx rfl (hb hby own_d33_18) rfl rfl ?_
  refine XS.iconst X2.here hx rfl (hb hby own_d33_19) ?_
  refine XS.aloadN X2.here hx rfl (hb hby own_d33_20) rfl rfl ?_
  refine XS.iconst X2.here hx rfl (hb hby own_d33_21) ?_
  refine XS.aloadN X2.here hx rfl (hb hby own_d33_22) rfl rfl ?_
  exact k
 have f4 := V_a.ext E2
 obtain ⟨cl5, Ar5, q5, S5, M5, H5, G5⟩ := id f4
 refine own_st (T' := T2) (g' := (mkF m 25 #[vr arr, vi 4, vr b2] [(.int 4), (.int 6), (.int 0), (.ref b2), (.int 0), (.ref arr)])) (fun t k => ?_) ?_
 ·refine X2.arraylength hx (by rw [e2]; exact Ar5.1) (State.isArrayOf_alike hZ.alike Ar5.2.1) (g := (mkF m 23 #[vr arr, vi 4, vr b2] [(.ref arr), (.int 0), (.ref b2), (.int 0), (.ref arr)])) rfl rfl (hb hby own_d33_23) _ ?_
  rw [len_of S5 M5]
  refine XS.iloadN X2.here hx rfl (hb hby own_d33_24) rfl ?_
  exact k
 obtain ⟨_, _, ⟨T6, L6, c6, n6⟩, -, X6, ⟨Lc6, hQ6, l6, y6, z6⟩, st6⟩ := Jvm.LawKit.callS X2 hx (y := own_y5) hown (om hZ hw 82 rfl) (om hZ hw 21 rfl) (om hZ hw 22 rfl) (om hZ hw 23 rfl) (by decide) (backOf (W := 4) (own_rm4b l Z a0 hw (6 : Int32) (4 : Int32) cs fm u8 h2 n0 Z2 O2 (by decide) HB) hZ (own_w hw 23 rfl) (own_w hw 22 rfl) (by decide) (by decide)) (g := (mkF m 25 #[vr arr, vi 4, vr b2] [(.int 4), (.int 6), (.int 0), (.ref b2), (.int 0), (.ref arr)])) rfl (by rw [hml]; rfl) (argsL := [(.int 6), (.int 4)]) (rest := [(.int 0), (.ref b2), (.int 0), (.ref arr)]) (lenOf own_pd3 rfl) rfl (by show 2 * 0 + _ ≤ _; exact Nat.le_of_eq rfl) (hb hby own_d33_25) (fun _ _ => ⟨rfl, e2, (by decide : 1 + 0 ≤ _), (by decide : 4 + 0 ≤ _)⟩)
 dsimp only [Pt.U, Pt.locs, Pt.cells, Pt.slots] at X6 l6 y6 z6 st6 hQ6
 subst l6 y6 z6
 obtain ⟨rfl, N6q, e6⟩ := hQ6
 have N6 := Fr.app N0 N6q
 refine own_st (T' := T6) (g' := (mkF m 28 #[vr arr, vi 4, vr b2] [(.int 4), (.int 0), (.ref b2), (.int 0), (.ref arr)])) st6 ?_
 obtain ⟨T7, h7, Lc7, X7, e7, N7, Kc7, Vc7, st7⟩ := cpA X6 hx hZ hown (own_w hw 83 rfl) (own_w hw 86 rfl) (own_w hw 84 rfl) (own_w hw 85 rfl) e6 f4 V2 (Or.inl ⟨rfl, rfl⟩) (by decide) (by decide) (by decide) (by decide) (by decide) (us := [(.int z0), (.int z1), (.int z2), (.int z3)]) rfl (by decide) N6 g_b2 (g := (mkF m 28 #[vr arr, vi 4, vr b2] [(.int 4), (.int 0), (.ref b2), (.int 0), (.ref arr)])) rfl (by rw [hml]; rfl) rfl (hb hby own_d33_28) (by decide) (W := 0) (by show 2 * 0 + _ ≤ _; exact Nat.le_of_eq rfl) (by decide)
 have K7 : Keep h0 h7 [] := K2.trans Kc7 (allS (Or.inr hz_b2) all0)
 have Z7 : n0 ≤ h7.size := Nat.le_trans Z2 Kc7.1
 have O7 := O2.keep Kc7 (allS g_b2 all0)
 have Vd7 : Arv Z h7 b2 k2 .byte (4 : Int32) [(.int z0), (.int z1), (.int z2), (.int z3)] (.int 0) := Vc7
 refine own_st (T' := T7) (g' := (mkF m 31 #[vr arr, vi 4, vr b2] [])) st7 ?_
 refine own_st (T' := T7) (g' := (mkF m 32 #[vr arr, vi 4, vr b2] [(.ref b2)])) (fun t k => ?_) ?_
 ·refine XS.aloadN X7.here hx rfl (hb hby own_d33_31) rfl rfl ?_
  exact k
 exact own_retA X7 hx Bd rfl rfl (hb hby own_d33_32) e7 (⟨b2, k2, rfl, N7, K7, g_b2, hz_b2, Vd7⟩) (by decide) (by decide)
def own_r28_2 : Room := { frames := 0, cells := 0, slots := 0, locals := 0 }
theorem own_rm28_2 (l : Launch) (Z : State) (a0 : Array Value) (hw : own_W a0 Z) (arr : Addr) (ka : ClassId) (x0 x1 : Int32) (cs : Int32) (fm : Value) (u8 : Addr) (h0 : Heap) (n0 : Nat) (Z0 : n0 ≤ h0.size) (O0 : Old Z n0 h0) (V_a : Arv Z h0 arr ka .byte (2 : Int32) [(.int x0), (.int x1)] (.int 0)) (HB : own_BB Z cs fm u8) :
  own_MF l Z own_y11 (Jvm.Cond.code own_y11 jdk_52_method_6_code 1 (some .int)) [] own_r28_2 #[(.ref arr)] h0 (own_P h0 n0 (.int 1)) := by
 refine own_open (plainFor_of_name own_pn5) hisR (Ls := #[vr arr]) ?_
 intro p e s m below meth c s₁ Bd hZ hx hby hml hown X0 e0
 have N0 := Fr.nil n0
 refine own_st (T' := s₁) (g' := (mkF m 1 #[vr arr] [(.ref arr)])) (fun t k => ?_) ?_
 ·refine XS.aloadN X0.here hx rfl (hb hby own_d28_0) rfl rfl ?_
  exact k
 obtain ⟨cl1, Ar1, q1, S1, M1, H1, G1⟩ := id V_a
 refine own_st (T' := s₁) (g' := (mkF m 4 #[vr arr] [(.int 1)])) (fun t k => ?_) ?_
 ·refine X0.arraylength hx (by rw [e0]; exact Ar1.1) (State.isArrayOf_alike hZ.alike Ar1.2.1) (g := (mkF m 1 #[vr arr] [(.ref arr)])) rfl rfl (hb hby own_d28_1) _ ?_
  rw [len_of S1 M1]
  refine XS.iconst X0.here hx rfl (hb hby own_d28_2) ?_
  refine XS.ishr X0.here hx rfl (hb hby own_d28_3) rfl ?_
  exact k
 exact own_retI X0 hx Bd (hb hby own_d28_4) e0 (⟨rfl, N0, rfl⟩) (by decide) (by decide)
def own_r28_4 : Room := { frames := 0, cells := 0, slots := 0, locals := 0 }
theorem own_rm28_4 (l : Launch) (Z : State) (a0 : Array Value) (hw : own_W a0 Z) (arr : Addr) (ka : ClassId) (x0 x1 x2 x3 : Int32) (cs : Int32) (fm : Value) (u8 : Addr) (h0 : Heap) (n0 : Nat) (Z0 : n0 ≤ h0.size) (O0 : Old Z n0 h0) (V_a : Arv Z h0 arr ka .byte (4 : Int32) [(.int x0), (.int x1), (.int x2), (.int x3)] (.int 0)) (HB : own_BB Z cs fm u8) :
  own_MF l Z own_y11 (Jvm.Cond.code own_y11 jdk_52_method_6_code 1 (some .int)) [] own_r28_4 #[(.ref arr)] h0 (own_P h0 n0 (.int 2)) := by
 refine own_open (plainFor_of_name own_pn5) hisR (Ls := #[vr arr]) ?_
 intro p e s m below meth c s₁ Bd hZ hx hby hml hown X0 e0
 have N0 := Fr.nil n0
 refine own_st (T' := s₁) (g' := (mkF m 1 #[vr arr] [(.ref arr)])) (fun t k => ?_) ?_
 ·refine XS.aloadN X0.here hx rfl (hb hby own_d28_0) rfl rfl ?_
  exact k
 obtain ⟨cl1, Ar1, q1, S1, M1, H1, G1⟩ := id V_a
 refine own_st (T' := s₁) (g' := (mkF m 4 #[vr arr] [(.int 2)])) (fun t k => ?_) ?_
 ·refine X0.arraylength hx (by rw [e0]; exact Ar1.1) (State.isArrayOf_alike hZ.alike Ar1.2.1) (g := (mkF m 1 #[vr arr] [(.ref arr)])) rfl rfl (hb hby own_d28_1) _ ?_
  rw [len_of S1 M1]
  refine XS.iconst X0.here hx rfl (hb hby own_d28_2) ?_
  refine XS.ishr X0.here hx rfl (hb hby own_d28_3) rfl ?_
  exact k
 exact own_retI X0 hx Bd (hb hby own_d28_4) e0 (⟨rfl, N0, rfl⟩) (by decide) (by decide)
def own_r28_6 : Room := { frames := 0, cells := 0, slots := 0, locals := 0 }
theorem own_rm28_6 (l : Launch) (Z : State) (a0 : Array Value) (hw : own_W a0 Z) (arr : Addr) (ka : ClassId) (x0 x1 x2 x3 x4 x5 : Int32) (cs : Int32) (fm : Value) (u8 : Addr) (h0 : Heap) (n0 : Nat) (Z0 : n0 ≤ h0.size) (O0 : Old Z n0 h0) (V_a : Arv Z h0 arr ka .byte (6 : Int32) [(.int x0), (.int x1), (.int x2), (.int x3), (.int x4), (.int x5)] (.int 0)) (HB : own_BB Z cs fm u8) :
  own_MF l Z own_y11 (Jvm.Cond.code own_y11 jdk_52_method_6_code 1 (some .int)) [] own_r28_6 #[(.ref arr)] h0 (own_P h0 n0 (.int 3)) := by
 refine own_open (plainFor_of_name own_pn5) hisR (Ls := #[vr arr]) ?_
 intro p e s m below meth c s₁ Bd hZ hx hby hml hown X0 e0
 have N0 := Fr.nil n0
 refine own_st (T' := s₁) (g' := (mkF m 1 #[vr arr] [(.ref arr)])) (fun t k => ?_) ?_
 ·refine XS.aloadN X0.here hx rfl (hb hby own_d28_0) rfl rfl ?_
  exact k
 obtain ⟨cl1, Ar1, q1, S1, M1, H1, G1⟩ := id V_a
 refine own_st (T' := s₁) (g' := (mkF m 4 #[vr arr] [(.int 3)])) (fun t k => ?_) ?_
 ·refine X0.arraylength hx (by rw [e0]; exact Ar1.1) (State.isArrayOf_alike hZ.alike Ar1.2.1) (g := (mkF m 1 #[vr arr] [(.ref arr)])) rfl rfl (hb hby own_d28_1) _ ?_
  rw [len_of S1 M1]
  refine XS.iconst X0.here hx rfl (hb hby own_d28_2) ?_
  refine XS.ishr X0.here hx rfl (hb hby own_d28_3) rfl ?_
  exact k
 exact own_retI X0 hx Bd (hb hby own_d28_4) e0 (⟨rfl, N0, rfl⟩) (by decide) (by decide)
def own_r31 : Room := { frames := 0, cells := 0, slots := 0, locals := 0 }
theorem own_rm31 (l : Launch) (Z : State) (a0 : Array Value) (hw : own_W a0 Z) (da db : Int32) (cs : Int32) (fm : Value) (u8 : Addr) (h0 : Heap) (n0 : Nat) (Z0 : n0 ≤ h0.size) (O0 : Old Z n0 h0) (HB : own_BB Z cs fm u8) :
  own_MF l Z own_y12 (Jvm.Cond.code own_y12 jdk_42_method_35_code 2 (some .char)) [] own_r31 #[(.int da), (.int db)] h0 (own_P h0 n0 (.int (own_d2 da db))) := by
 refine own_open (plainFor_of_name own_pn1) hisR (Ls := #[vi da, vi db]) ?_
 intro p e s m below meth c s₁ Bd hZ hx hby hml hown X0 e0
 have N0 := Fr.nil n0
 refine own_st (T' := s₁) (g' := (mkF m 11 #[vi da, vi db] [(.int ((((da <<< ((6 : Int32) &&& 31)) ^^^ db) ^^^ (3968 : Int32)).toUInt32.toUInt16.toUInt32.toInt32))])) (fun t k => ?_) ?_
 ·refine XS.iloadN X0.here hx rfl (hb hby own_d31_0) rfl ?_
  refine XS.bipush X0.here hx rfl (hb hby own_d31_1) ?_
  refine XS.ishl X0.here hx rfl (hb hby own_d31_3) rfl ?_
  refine XS.iloadN X0.here hx rfl (hb hby own_d31_4) rfl ?_
  refine XS.ixor X0.here hx rfl (hb hby own_d31_5) rfl ?_
  refine XS.sipush X0.here hx rfl (hb hby own_d31_6) ?_
  refine XS.ixor X0.here hx rfl (hb hby own_d31_9) rfl ?_
  refine XS.i2c X0.here hx rfl (hb hby own_d31_10) rfl ?_
  exact k
 exact own_retN X0 hx Bd (t := .char) (by simp) (XT.narrow_c _) (hb hby own_d31_11) e0 (⟨rfl, N0, rfl⟩) (by decide) (by decide)
def own_r30 : Room := { frames := 0, cells := 0, slots := 0, locals := 0 }
theorem own_rm30 (l : Launch) (Z : State) (a0 : Array Value) (hw : own_W a0 Z) (da : Int32) (cs : Int32) (fm : Value) (u8 : Addr) (h0 : Heap) (n0 : Nat) (Z0 : n0 ≤ h0.size) (O0 : Old Z n0 h0) (hq : (da &&& (192 : Int32)) = (128 : Int32)) (HB : own_BB Z cs fm u8) :
  own_MF l Z own_y13 (Jvm.Cond.code own_y13 jdk_42_method_29_code 1 (some .boolean)) [] own_r30 #[(.int da)] h0 (own_P h0 n0 (.int 0)) := by
 refine own_open (plainFor_of_name own_pn1) hisR (Ls := #[vi da]) ?_
 intro p e s m below meth c s₁ Bd hZ hx hby hml hown X0 e0
 have N0 := Fr.nil n0
 refine own_st (T' := s₁) (g' := (mkF m 16 #[vi da] [(.int 0)])) (fun t k => ?_) ?_
 ·refine XS.iloadN X0.here hx rfl (hb hby own_d30_0) rfl ?_
  refine XS.sipush X0.here hx rfl (hb hby own_d30_1) ?_
  refine XS.iand X0.here hx rfl (hb hby own_d30_4) rfl ?_
  refine XS.sipush X0.here hx rfl (hb hby own_d30_5) ?_
  refine XS.icmpYes X0.here hx rfl (pc0 := 8) (pc' := 15) rfl (hb hby own_d30_8) rfl (teq hq).1 (by decide) (by decide) ?_
  refine XS.iconst X0.here hx rfl (hb hby own_d30_15) ?_
  exact k
 exact own_retN X0 hx Bd (t := .boolean) (by simp) rfl (hb hby own_d30_16) e0 (⟨rfl, N0, rfl⟩) (by decide) (by decide)
def own_r24_2 : Room := { frames := 0, cells := 0, slots := 0, locals := 0 }
theorem own_rm24_2 (l : Launch) (Z : State) (a0 : Array Value) (hw : own_W a0 Z) (cs : Int32) (fm : Value) (u8 : Addr) (h0 : Heap) (n0 : Nat) (Z0 : n0 ≤ h0.size) (O0 : Old Z n0 h0) (HB : own_BB Z cs fm u8) :
  own_MF l Z own_y14 (Jvm.Cond.code own_y14 jdk_52_method_3_code 1 (some .int)) [] own_r24_2 #[(.int 2)] h0 (own_P h0 n0 (.int 4)) := by
 refine own_open (plainFor_of_name own_pn5) hisR (Ls := #[vi 2]) ?_
 intro p e s m below meth c s₁ Bd hZ hx hby hml hown X0 e0
 have N0 := Fr.nil n0
 refine own_st (T' := s₁) (g' := (mkF m 58 #[vi 2] [(.int 4)])) (fun t k => ?_) ?_
 ·refine XS.iloadN X0.here hx rfl (hb hby own_d24_0) rfl ?_
  refine XS.ifYes X0.here hx rfl (pc0 := 1) (pc' := 12) rfl (hb hby own_d24_1) rfl ((if0 _ _).trans (flt (by decide : ¬ ((2 : Int32) < (0 : Int32)))).2.1) (by decide) (by decide) ?_
  refine XS.iloadN X0.here hx rfl (hb hby own_d24_12) rfl ?_
  refine X0.ldcInt hx hown (om hZ hw 131 rfl) (g := (mkF m 13 #[vi 2] [(.int 2)])) rfl (hb hby own_d24_13) _ ?_
  refine XS.icmpYes X0.here hx rfl (pc0 := 15) (pc' := 55) rfl (hb hby own_d24_15) rfl (tlt (by decide : (2 : Int32) < (1073741823 : Int32))).1 (by decide) (by decide) ?_
  refine XS.iloadN X0.here hx rfl (hb hby own_d24_55) rfl ?_
  refine XS.iconst X0.here hx rfl (hb hby own_d24_56) ?_
  refine XS.ishl X0.here hx rfl (hb hby own_d24_57) rfl ?_
  exact k
 exact own_retI X0 hx Bd (hb hby own_d24_58) e0 (⟨rfl, N0, rfl⟩) (by decide) (by decide)
def own_r24_3 : Room := { frames := 0, cells := 0, slots := 0, locals := 0 }
theorem own_rm24_3 (l : Launch) (Z : State) (a0 : Array Value) (hw : own_W a0 Z) (cs : Int32) (fm : Value) (u8 : Addr) (h0 : Heap) (n0 : Nat) (Z0 : n0 ≤ h0.size) (O0 : Old Z n0 h0) (HB : own_BB Z cs fm u8) :
  own_MF l Z own_y14 (Jvm.Cond.code own_y14 jdk_52_method_3_code 1 (some .int)) [] own_r24_3 #[(.int 3)] h0 (own_P h0 n0 (.int 6)) := by
 refine own_open (plainFor_of_name own_pn5) hisR (Ls := #[vi 3]) ?_
 intro p e s m below meth c s₁ Bd hZ hx hby hml hown X0 e0
 have N0 := Fr.nil n0
 refine own_st (T' := s₁) (g' := (mkF m 58 #[vi 3] [(.int 6)])) (fun t k => ?_) ?_
 ·refine XS.iloadN X0.here hx rfl (hb hby own_d24_0) rfl ?_
  refine XS.ifYes X0.here hx rfl (pc0 := 1) (pc' := 12) rfl (hb hby own_d24_1) rfl ((if0 _ _).trans (flt (by decide : ¬ ((3 : Int32) < (0 : Int32)))).2.1) (by decide) (by decide) ?_
  refine XS.iloadN X0.here hx rfl (hb hby own_d24_12) rfl ?_
  refine X0.ldcInt hx hown (om hZ hw 131 rfl) (g := (mkF m 13 #[vi 3] [(.int 3)])) rfl (hb hby own_d24_13) _ ?_
  refine XS.icmpYes X0.here hx rfl (pc0 := 15) (pc' := 55) rfl (hb hby own_d24_15) rfl (tlt (by decide : (3 : Int32) < (1073741823 : Int32))).1 (by decide) (by decide) ?_
  refine XS.iloadN X0.here hx rfl (hb hby own_d24_55) rfl ?_
  refine XS.iconst X0.here hx rfl (hb hby own_d24_56) ?_
  refine XS.ishl X0.here hx rfl (hb hby own_d24_57) rfl ?_
  exact k
 exact own_retI X0 hx Bd (hb hby own_d24_58) e0 (⟨rfl, N0, rfl⟩) (by decide) (by decide)
def own_r23_2 : Room := { frames := 1, cells := 1, slots := 4, locals := 12 }
def own_Q23_2 (Z : State) (cs : Int32) (fm : Value) (u8 : Addr) (h0 : Heap) (n0 : Nat) : Option Value → Heap → List Loc → Prop := fun v h L => ∃ r k, v = some (.ref r) ∧ Fr n0 L ∧ Keep h0 h [] ∧ n0 ≤ r ∧ h0.size ≤ r ∧ Arv Z h r k .byte (4 : Int32) [(.int 0), (.int 0), (.int 0), (.int 0)] (.int 0)
theorem own_rm23_2 (l : Launch) (Z : State) (a0 : Array Value) (hw : own_W a0 Z) (cs : Int32) (fm : Value) (u8 : Addr) (h0 : Heap) (n0 : Nat) (Z0 : n0 ≤ h0.size) (O0 : Old Z n0 h0) (HB : own_BB Z cs fm u8) :
  own_MF l Z own_y15 (Jvm.Cond.code own_y15 jdk_52_method_2_code 1 (some (.array .byte))) [] own_r23_2 #[(.int 2)] h0 (own_Q23_2 Z cs fm u8 h0 n0) := by
 refine own_open (plainFor_of_name own_pn5) hisR (Ls := #[vi 2]) ?_
 intro p e s m below meth c s₁ Bd hZ hx hby hml hown X0 e0
 obtain ⟨-, -, -, -, -, -, -, -, -, E_u8⟩ := id HB
 have N0 := Fr.nil n0
 refine own_st (T' := s₁) (g' := (mkF m 1 #[vi 2] [(.int 2)])) (fun t k => ?_) ?_
 ·refine XS.iloadN X0.here hx rfl (hb hby own_d23_0) rfl ?_
  exact k
 obtain ⟨_, _, ⟨T1, L1, c1, n1⟩, -, X1, ⟨Lc1, hQ1, l1, y1, z1⟩, st1⟩ := Jvm.LawKit.callS X0 hx (y := own_y14) hown (om hZ hw 128 rfl) (om hZ hw 129 rfl) (om hZ hw 126 rfl) (om hZ hw 130 rfl) (by decide) (backOf (W := 0) (own_rm24_2 l Z a0 hw cs fm u8 h0 n0 Z0 O0 HB) hZ (own_w hw 130 rfl) (own_w hw 126 rfl) (by decide) (by decide)) (g := (mkF m 1 #[vi 2] [(.int 2)])) rfl (by rw [hml]; rfl) (argsL := [(.int 2)]) (rest := []) (lenOf own_pd5 rfl) rfl (by show 2 * 0 + _ ≤ _; exact Nat.le_of_eq rfl) (hb hby own_d23_1) (fun _ _ => ⟨rfl, e0, (by decide : 0 + 0 ≤ _), (by decide : 0 + 0 ≤ _)⟩)
 dsimp only [Pt.U, Pt.locs, Pt.cells, Pt.slots] at X1 l1 y1 z1 st1 hQ1
 subst l1 y1 z1
 obtain ⟨rfl, N1q, e1⟩ := hQ1
 have N1 := Fr.app N0 N1q
 refine own_st (T' := T1) (g' := (mkF m 4 #[vi 2] [(.int 4)])) st1 ?_
 obtain ⟨T2, h2, k2, X2, e2, E2, A2, st2⟩ := newP X1 hx hZ (own_w hw 1 rfl) e1 (g := (mkF m 4 #[vi 2] [(.int 4)])) rfl (hb hby own_d23_4) rfl (by decide) (cap := 4) (by decide) (by decide) (by decide) (by decide)
 obtain ⟨b2, g2⟩ : ∃ z, z = h0.size := ⟨_, rfl⟩
 rw [← g2] at A2 st2
 have sz2 : h0.size ≤ b2 := Nat.le_of_eq g2.symm
 have f3 := E_u8.ext O0.2
 have ne_u8_b2 : u8 ≠ b2 := Nat.ne_of_lt (Nat.lt_of_lt_of_le f3.lt sz2)
 have g_b2 : n0 ≤ b2 := Nat.le_trans Z0 sz2
 have hz_b2 : h0.size ≤ b2 := Nat.le_trans (Keep.refl h0 []).1 sz2
 have K2 : Keep h0 h2 [] := (Keep.refl h0 []).ext E2
 have Z2 : n0 ≤ h2.size := Nat.le_trans Z0 E2.1
 have O2 := O0.ext E2
 have V2 : Arv Z h2 b2 k2 .byte (4 : Int32) [(.int 0), (.int 0), (.int 0), (.int 0)] (.int 0) := (Arv.new A2 (by decide)).pad (pad_rep [] (.int 0) 4)
 refine own_st (T' := T2) (g' := (mkF m 6 #[vi 2] [(.ref b2)])) st2 ?_
 exact own_retA X2 hx Bd rfl rfl (hb hby own_d23_6) e2 (⟨b2, k2, rfl, N1, K2, g_b2, hz_b2, V2⟩) (by decide) (by decide)
def own_r23_3 : Room := { frames := 1, cells := 1, slots := 6, locals := 12 }
def own_Q23_3 (Z : State) (cs : Int32) (fm : Value) (u8 : Addr) (h0 : Heap) (n0 : Nat) : Option Value → Heap → List Loc → Prop := fun v h L => ∃ r k, v = some (.ref r) ∧ Fr n0 L ∧ Keep h0 h [] ∧ n0 ≤ r ∧ h0.size ≤ r ∧ Arv Z h r k .byte (6 : Int32) [(.int 0), (.int 0), (.int 0), (.int 0), (.int 0), (.int 0)] (.int 0)
theorem own_rm23_3 (l : Launch) (Z : State) (a0 : Array Value) (hw : own_W a0 Z) (cs : Int32) (fm : Value) (u8 : Addr) (h0 : Heap) (n0 : Nat) (Z0 : n0 ≤ h0.size) (O0 : Old Z n0 h0) (HB : own_BB Z cs fm u8) :
  own_MF l Z own_y15 (Jvm.Cond.code own_y15 jdk_52_method_2_code 1 (some (.array .byte))) [] own_r23_3 #[(.int 3)] h0 (own_Q23_3 Z cs fm u8 h0 n0) := by
 refine own_open (plainFor_of_name own_pn5) hisR (Ls := #[vi 3]) ?_
 intro p e s m below meth c s₁ Bd hZ hx hby hml hown X0 e0
 obtain ⟨-, -, -, -, -, -, -, -, -, E_u8⟩ := id HB
 have N0 := Fr.nil n0
 refine own_st (T' := s₁) (g' := (mkF m 1 #[vi 3] [(.int 3)])) (fun t k => ?_) ?_
 ·refine XS.iloadN X0.here hx rfl (hb hby own_d23_0) rfl ?_
  exact k
 obtain ⟨_, _, ⟨T1, L1, c1, n1⟩, -, X1, ⟨Lc1, hQ1, l1, y1, z1⟩, st1⟩ := Jvm.LawKit.callS X0 hx (y := own_y14) hown (om hZ hw 128 rfl) (om hZ hw 129 rfl) (om hZ hw 126 rfl) (om hZ hw 130 rfl) (by decide) (backOf (W := 0) (own_rm24_3 l Z a0 hw cs fm u8 h0 n0 Z0 O0 HB) hZ (own_w hw 130 rfl) (own_w hw 126 rfl) (by decide) (by decide)) (g := (mkF m 1 #[vi 3] [(.int 3)])) rfl (by rw [hml]; rfl) (argsL := [(.int 3)]) (rest := []) (lenOf own_pd5 rfl) rfl (by show 2 * 0 + _ ≤ _; exact Nat.le_of_eq rfl) (hb hby own_d23_1) (fun _ _ => ⟨rfl, e0, (by decide : 0 + 0 ≤ _), (by decide : 0 + 0 ≤ _)⟩)
 dsimp only [Pt.U, Pt.locs, Pt.cells, Pt.slots] at X1 l1 y1 z1 st1 hQ1
 subst l1 y1 z1
 obtain ⟨rfl, N1q, e1⟩ := hQ1
 have N1 := Fr.app N0 N1q
 refine own_st (T' := T1) (g' := (mkF m 4 #[vi 3] [(.int 6)])) st1 ?_
 obtain ⟨T2, h2, k2, X2, e2, E2, A2, st2⟩ := newP X1 hx hZ (own_w hw 1 rfl) e1 (g := (mkF m 4 #[vi 3] [(.int 6)])) rfl (hb hby own_d23_4) rfl (by decide) (cap := 6) (by decide) (by decide) (by decide) (by decide)
 obtain ⟨b2, g2⟩ : ∃ z, z = h0.size := ⟨_, rfl⟩
 rw [← g2] at A2 st2
 have sz2 : h0.size ≤ b2 := Nat.le_of_eq g2.symm
 have f3 := E_u8.ext O0.2
 have ne_u8_b2 : u8 ≠ b2 := Nat.ne_of_lt (Nat.lt_of_lt_of_le f3.lt sz2)
 have g_b2 : n0 ≤ b2 := Nat.le_trans Z0 sz2
 have hz_b2 : h0.size ≤ b2 := Nat.le_trans (Keep.refl h0 []).1 sz2
 have K2 : Keep h0 h2 [] := (Keep.refl h0 []).ext E2
 have Z2 : n0 ≤ h2.size := Nat.le_trans Z0 E2.1
 have O2 := O0.ext E2
 have V2 : Arv Z h2 b2 k2 .byte (6 : Int32) [(.int 0), (.int 0), (.int 0), (.int 0), (.int 0), (.int 0)] (.int 0) := (Arv.new A2 (by decide)).pad (pad_rep [] (.int 0) 6)
 refine own_st (T' := T2) (g' := (mkF m 6 #[vi 3] [(.ref b2)])) st2 ?_
 exact own_retA X2 hx Bd rfl rfl (hb hby own_d23_6) e2 (⟨b2, k2, rfl, N1, K2, g_b2, hz_b2, V2⟩) (by decide) (by decide)
def own_r27_4 : Room := { frames := 2, cells := 0, slots := 0, locals := 29 }
def own_Q27_4 (Z : State) (arr : Addr) (ka : ClassId) (x0 x1 x2 x3 : Int32) (cs : Int32) (fm : Value) (u8 : Addr) (h0 : Heap) (n0 : Nat) : Option Value → Heap → List Loc → Prop := fun v h L => v = none ∧ Fr n0 L ∧ h = h0
theorem own_rm27_4 (l : Launch) (Z : State) (a0 : Array Value) (hw : own_W a0 Z) (arr : Addr) (ka : ClassId) (x0 x1 x2 x3 : Int32) (cs : Int32) (fm : Value) (u8 : Addr) (h0 : Heap) (n0 : Nat) (Z0 : n0 ≤ h0.size) (O0 : Old Z n0 h0) (V_a : Arv Z h0 arr ka .byte (4 : Int32) [(.int x0), (.int x1), (.int x2), (.int x3)] (.int 0)) (HB : own_BB Z cs fm u8) :
  own_MF l Z own_y16 (Jvm.Cond.code own_y16 jdk_52_method_94_code 3 none) [] own_r27_4 #[(.int 0), (.int 0), (.ref arr)] h0 (own_Q27_4 Z arr ka x0 x1 x2 x3 cs fm u8 h0 n0) := by
 refine own_open (plainFor_of_name own_pn5) hisR (Ls := #[vi 0, vi 0, vr arr]) ?_
 intro p e s m below meth c s₁ Bd hZ hx hby hml hown X0 e0
 have N0 := Fr.nil n0
 refine own_st (T' := s₁) (g' := (mkF m 3 #[vi 0, vi 0, vr arr] [(.ref arr), (.int 0), (.int 0)])) (fun t k => ?_) ?_
 ·refine XS.iloadN X0.here hx rfl (hb hby own_d27_0) rfl ?_
  refine XS.iloadN X0.here hx rfl (hb hby own_d27_1) rfl ?_
  refine XS.aloadN X0.here hx rfl (hb hby own_d27_2) rfl rfl ?_
  exact k
 obtain ⟨_, _, ⟨T1, L1, c1, n1⟩, -, X1, ⟨Lc1, hQ1, l1, y1, z1⟩, st1⟩ := Jvm.LawKit.callS X0 hx (y := own_y11) hown (om hZ hw 141 rfl) (om hZ hw 142 rfl) (om hZ hw 126 rfl) (om hZ hw 143 rfl) (by decide) (backOf (W := 2) (own_rm28_4 l Z a0 hw arr ka x0 x1 x2 x3 cs fm u8 h0 n0 Z0 O0 V_a HB) hZ (own_w hw 143 rfl) (own_w hw 126 rfl) (by decide) (by decide)) (g := (mkF m 3 #[vi 0, vi 0, vr arr] [(.ref arr), (.int 0), (.int 0)])) rfl (by rw [hml]; rfl) (argsL := [(.ref arr)]) (rest := [(.int 0), (.int 0)]) (lenOf own_pd6 rfl) rfl (by show 2 * 0 + _ ≤ _; exact Nat.le_of_eq rfl) (hb hby own_d27_3) (fun _ _ => ⟨rfl, e0, (by decide : 0 + 0 ≤ _), (by decide : 0 + 0 ≤ _)⟩)
 dsimp only [Pt.U, Pt.locs, Pt.cells, Pt.slots] at X1 l1 y1 z1 st1 hQ1
 subst l1 y1 z1
 obtain ⟨rfl, N1q, e1⟩ := hQ1
 have N1 := Fr.app N0 N1q
 refine own_st (T' := T1) (g' := (mkF m 6 #[vi 0, vi 0, vr arr] [(.int 2), (.int 0), (.int 0)])) st1 ?_
 obtain ⟨_, _, ⟨T2, L2, c2, n2⟩, -, X2, ⟨Lc2, hQ2, l2, y2, z2⟩, st2⟩ := Jvm.LawKit.callS X1 hx (y := own_y4) hown (om hZ hw 144 rfl) (om hZ hw 53 rfl) (om hZ hw 37 rfl) (om hZ hw 54 rfl) (by decide) (backOf (W := 0) (own_rm8 l Z a0 hw (0 : Int32) (0 : Int32) (2 : Int32) cs fm u8 h0 n0 Z0 O0 (by decide) (by decide) HB) hZ (own_w hw 54 rfl) (own_w hw 37 rfl) (by decide) (by decide)) (g := (mkF m 6 #[vi 0, vi 0, vr arr] [(.int 2), (.int 0), (.int 0)])) rfl (by rw [hml]; rfl) (argsL := [(.int 0), (.int 0), (.int 2)]) (rest := []) (lenOf own_pd7 rfl) rfl (by show 2 * 0 + _ ≤ _; exact Nat.le_of_eq rfl) (hb hby own_d27_6) (fun _ _ => ⟨rfl, e1, (by decide : 0 + 0 ≤ _), (by decide : 0 + 0 ≤ _)⟩)
 dsimp only [Pt.U, Pt.locs, Pt.cells, Pt.slots] at X2 l2 y2 z2 st2 hQ2
 subst l2 y2 z2
 obtain ⟨rfl, N2q, e2⟩ := hQ2
 have N2 := Fr.app N1 N2q
 refine own_st (T' := T2) (g' := (mkF m 9 #[vi 0, vi 0, vr arr] [(.int 0)])) st2 ?_
 refine own_st (T' := T2) (g' := (mkF m 10 #[vi 0, vi 0, vr arr] [])) (fun t k => ?_) ?_
 ·refine XS.pop X2.here hx rfl (hb hby own_d27_9) rfl rfl ?_
  exact k
 exact own_retV X2 hx Bd (hb hby own_d27_10) e2 (⟨rfl, N2, rfl⟩) (by decide) (by decide)
def own_r27_6 : Room := { frames := 2, cells := 0, slots := 0, locals := 29 }
def own_Q27_6 (Z : State) (arr : Addr) (ka : ClassId) (x0 x1 x2 x3 x4 x5 : Int32) (cs : Int32) (fm : Value) (u8 : Addr) (h0 : Heap) (n0 : Nat) : Option Value → Heap → List Loc → Prop := fun v h L => v = none ∧ Fr n0 L ∧ h = h0
theorem own_rm27_6 (l : Launch) (Z : State) (a0 : Array Value) (hw : own_W a0 Z) (arr : Addr) (ka : ClassId) (x0 x1 x2 x3 x4 x5 : Int32) (cs : Int32) (fm : Value) (u8 : Addr) (h0 : Heap) (n0 : Nat) (Z0 : n0 ≤ h0.size) (O0 : Old Z n0 h0) (V_a : Arv Z h0 arr ka .byte (6 : Int32) [(.int x0), (.int x1), (.int x2), (.int x3), (.int x4), (.int x5)] (.int 0)) (HB : own_BB Z cs fm u8) :
  own_MF l Z own_y16 (Jvm.Cond.code own_y16 jdk_52_method_94_code 3 none) [] own_r27_6 #[(.int 0), (.int 0), (.ref arr)] h0 (own_Q27_6 Z arr ka x0 x1 x2 x3 x4 x5 cs fm u8 h0 n0) := by
 refine own_open (plainFor_of_name own_pn5) hisR (Ls := #[vi 0, vi 0, vr arr]) ?_
 intro p e s m below meth c s₁ Bd hZ hx hby hml hown X0 e0
 have N0 := Fr.nil n0
 refine own_st (T' := s₁) (g' := (mkF m 3 #[vi 0, vi 0, vr arr] [(.ref arr), (.int 0), (.int 0)])) (fun t k => ?_) ?_
 ·refine XS.iloadN X0.here hx rfl (hb hby own_d27_0) rfl ?_
  refine XS.iloadN X0.here hx rfl (hb hby own_d27_1) rfl ?_
  refine XS.aloadN X0.here hx rfl (hb hby own_d27_2) rfl rfl ?_
  exact k
 obtain ⟨_, _, ⟨T1, L1, c1, n1⟩, -, X1, ⟨Lc1, hQ1, l1, y1, z1⟩, st1⟩ := Jvm.LawKit.callS X0 hx (y := own_y11) hown (om hZ hw 141 rfl) (om hZ hw 142 rfl) (om hZ hw 126 rfl) (om hZ hw 143 rfl) (by decide) (backOf (W := 2) (own_rm28_6 l Z a0 hw arr ka x0 x1 x2 x3 x4 x5 cs fm u8 h0 n0 Z0 O0 V_a HB) hZ (own_w hw 143 rfl) (own_w hw 126 rfl) (by decide) (by decide)) (g := (mkF m 3 #[vi 0, vi 0, vr arr] [(.ref arr), (.int 0), (.int 0)])) rfl (by rw [hml]; rfl) (argsL := [(.ref arr)]) (rest := [(.int 0), (.int 0)]) (lenOf own_pd6 rfl) rfl (by show 2 * 0 + _ ≤ _; exact Nat.le_of_eq rfl) (hb hby own_d27_3) (fun _ _ => ⟨rfl, e0, (by decide : 0 + 0 ≤ _), (by decide : 0 + 0 ≤ _)⟩)
 dsimp only [Pt.U, Pt.locs, Pt.cells, Pt.slots] at X1 l1 y1 z1 st1 hQ1
 subst l1 y1 z1
 obtain ⟨rfl, N1q, e1⟩ := hQ1
 have N1 := Fr.app N0 N1q
 refine own_st (T' := T1) (g' := (mkF m 6 #[vi 0, vi 0, vr arr] [(.int 3), (.int 0), (.int 0)])) st1 ?_
 obtain ⟨_, _, ⟨T2, L2, c2, n2⟩, -, X2, ⟨Lc2, hQ2, l2, y2, z2⟩, st2⟩ := Jvm.LawKit.callS X1 hx (y := own_y4) hown (om hZ hw 144 rfl) (om hZ hw 53 rfl) (om hZ hw 37 rfl) (om hZ hw 54 rfl) (by decide) (backOf (W := 0) (own_rm8 l Z a0 hw (0 : Int32) (0 : Int32) (3 : Int32) cs fm u8 h0 n0 Z0 O0 (by decide) (by decide) HB) hZ (own_w hw 54 rfl) (own_w hw 37 rfl) (by decide) (by decide)) (g := (mkF m 6 #[vi 0, vi 0, vr arr] [(.int 3), (.int 0), (.int 0)])) rfl (by rw [hml]; rfl) (argsL := [(.int 0), (.int 0), (.int 3)]) (rest := []) (lenOf own_pd7 rfl) rfl (by show 2 * 0 + _ ≤ _; exact Nat.le_of_eq rfl) (hb hby own_d27_6) (fun _ _ => ⟨rfl, e1, (by decide : 0 + 0 ≤ _), (by decide : 0 + 0 ≤ _)⟩)
 dsimp only [Pt.U, Pt.locs, Pt.cells, Pt.slots] at X2 l2 y2 z2 st2 hQ2
 subst l2 y2 z2
 obtain ⟨rfl, N2q, e2⟩ := hQ2
 have N2 := Fr.app N1 N2q
 refine own_st (T' := T2) (g' := (mkF m 9 #[vi 0, vi 0, vr arr] [(.int 0)])) st2 ?_
 refine own_st (T' := T2) (g' := (mkF m 10 #[vi 0, vi 0, vr arr] [])) (fun t k => ?_) ?_
 ·refine XS.pop X2.here hx rfl (hb hby own_d27_9) rfl rfl ?_
  exact k
 exact own_retV X2 hx Bd (hb hby own_d27_10) e2 (⟨rfl, N2, rfl⟩) (by decide) (by decide)
def own_r26_4 : Room := { frames := 3, cells := 0, slots := 0, locals := 43 }
def own_Q26_4 (Z : State) (src arr : Addr) (ka : ClassId) (x0 x1 x2 x3 : Int32) (cs : Int32) (fm : Value) (u8 : Addr) (h0 : Heap) (n0 : Nat) : Option Value → Heap → List Loc → Prop := fun v h L => v = none ∧ Fr n0 L ∧ h = h0
theorem own_rm26_4 (l : Launch) (Z : State) (a0 : Array Value) (hw : own_W a0 Z) (src arr : Addr) (ka : ClassId) (x0 x1 x2 x3 : Int32) (cs : Int32) (fm : Value) (u8 : Addr) (h0 : Heap) (n0 : Nat) (Z0 : n0 ≤ h0.size) (O0 : Old Z n0 h0) (V_a : Arv Z h0 arr ka .byte (4 : Int32) [(.int x0), (.int x1), (.int x2), (.int x3)] (.int 0)) (HB : own_BB Z cs fm u8) :
  own_MF l Z own_y17 (Jvm.Cond.code own_y17 jdk_52_method_86_code 6 none) [] own_r26_4 #[(.ref src), (.int 0), (.ref arr), (.int 0), (.int 0)] h0 (own_Q26_4 Z src arr ka x0 x1 x2 x3 cs fm u8 h0 n0) := by
 refine own_open (plainFor_of_name own_pn5) hisR (Ls := #[vr src, vi 0, vr arr, vi 0, vi 0, .unset]) ?_
 intro p e s m below meth c s₁ Bd hZ hx hby hml hown X0 e0
 have N0 := Fr.nil n0
 refine own_st (T' := s₁) (g' := (mkF m 4 #[vr src, vi 0, vr arr, vi 0, vi 0, .unset] [(.ref arr), (.int 0), (.int 0)])) (fun t k => ?_) ?_
 ·refine XS.iloadN X0.here hx rfl (hb hby own_d26_0) rfl ?_
  refine XS.iload X0.here hx rfl (hb hby own_d26_1) rfl ?_
  refine XS.aloadN X0.here hx rfl (hb hby own_d26_3) rfl rfl ?_
  exact k
 obtain ⟨_, _, ⟨T1, L1, c1, n1⟩, -, X1, ⟨Lc1, hQ1, l1, y1, z1⟩, st1⟩ := Jvm.LawKit.callS X0 hx (y := own_y16) hown (om hZ hw 138 rfl) (om hZ hw 139 rfl) (om hZ hw 126 rfl) (om hZ hw 140 rfl) (by decide) (backOf (W := 0) (own_rm27_4 l Z a0 hw arr ka x0 x1 x2 x3 cs fm u8 h0 n0 Z0 O0 V_a HB) hZ (own_w hw 140 rfl) (own_w hw 126 rfl) (by decide) (by decide)) (g := (mkF m 4 #[vr src, vi 0, vr arr, vi 0, vi 0, .unset] [(.ref arr), (.int 0), (.int 0)])) rfl (by rw [hml]; rfl) (argsL := [(.int 0), (.int 0), (.ref arr)]) (rest := []) (lenOf own_pd8 rfl) rfl (by show 2 * 0 + _ ≤ _; exact Nat.le_of_eq rfl) (hb hby own_d26_4) (fun _ _ => ⟨rfl, e0, (by decide : 0 + 0 ≤ _), (by decide : 0 + 0 ≤ _)⟩)
 dsimp only [Pt.U, Pt.locs, Pt.cells, Pt.slots] at X1 l1 y1 z1 st1 hQ1
 subst l1 y1 z1
 obtain ⟨rfl, N1q, e1⟩ := hQ1
 have N1 := Fr.app N0 N1q
 refine own_st (T' := T1) (g' := (mkF m 7 #[vr src, vi 0, vr arr, vi 0, vi 0, .unset] [])) st1 ?_
 refine own_st (T' := T1) (g' := (mkF m 41 #[vr src, vi 0, vr arr, vi 0, vi 0, vi 0] [])) (fun t k => ?_) ?_
 ·refine XS.iconst X1.here hx rfl (hb hby own_d26_7) ?_
  refine XS.istore X1.here hx rfl (hb hby own_d26_8) rfl (l' := #[vr src, vi 0, vr arr, vi 0, vi 0, vi 0]) rfl ?_
  refine XS.iload X1.here hx rfl (hb hby own_d26_10) rfl ?_
  refine XS.iload X1.here hx rfl (hb hby own_d26_12) rfl ?_
  refine XS.icmpYes X1.here hx rfl (pc0 := 14) (pc' := 41) rfl (hb hby own_d26_14) rfl (flt Int32.lt_irrefl).2.1 (by decide) (by decide) ?_
  exact k
 exact own_retV X1 hx Bd (hb hby own_d26_41) e1 (⟨rfl, N1, rfl⟩) (by decide) (by decide)
def own_r26_6 : Room := { frames := 3, cells := 0, slots := 0, locals := 43 }
def own_Q26_6 (Z : State) (src arr : Addr) (ka : ClassId) (x0 x1 x2 x3 x4 x5 : Int32) (cs : Int32) (fm : Value) (u8 : Addr) (h0 : Heap) (n0 : Nat) : Option Value → Heap → List Loc → Prop := fun v h L => v = none ∧ Fr n0 L ∧ h = h0
theorem own_rm26_6 (l : Launch) (Z : State) (a0 : Array Value) (hw : own_W a0 Z) (src arr : Addr) (ka : ClassId) (x0 x1 x2 x3 x4 x5 : Int32) (cs : Int32) (fm : Value) (u8 : Addr) (h0 : Heap) (n0 : Nat) (Z0 : n0 ≤ h0.size) (O0 : Old Z n0 h0) (V_a : Arv Z h0 arr ka .byte (6 : Int32) [(.int x0), (.int x1), (.int x2), (.int x3), (.int x4), (.int x5)] (.int 0)) (HB : own_BB Z cs fm u8) :
  own_MF l Z own_y17 (Jvm.Cond.code own_y17 jdk_52_method_86_code 6 none) [] own_r26_6 #[(.ref src), (.int 0), (.ref arr), (.int 0), (.int 0)] h0 (own_Q26_6 Z src arr ka x0 x1 x2 x3 x4 x5 cs fm u8 h0 n0) := by
 refine own_open (plainFor_of_name own_pn5) hisR (Ls := #[vr src, vi 0, vr arr, vi 0, vi 0, .unset]) ?_
 intro p e s m below meth c s₁ Bd hZ hx hby hml hown X0 e0
 have N0 := Fr.nil n0
 refine own_st (T' := s₁) (g' := (mkF m 4 #[vr src, vi 0, vr arr, vi 0, vi 0, .unset] [(.ref arr), (.int 0), (.int 0)])) (fun t k => ?_) ?_
 ·refine XS.iloadN X0.here hx rfl (hb hby own_d26_0) rfl ?_
  refine XS.iload X0.here hx rfl (hb hby own_d26_1) rfl ?_
  refine XS.aloadN X0.here hx rfl (hb hby own_d26_3) rfl rfl ?_
  exact k
 obtain ⟨_, _, ⟨T1, L1, c1, n1⟩, -, X1, ⟨Lc1, hQ1, l1, y1, z1⟩, st1⟩ := Jvm.LawKit.callS X0 hx (y := own_y16) hown (om hZ hw 138 rfl) (om hZ hw 139 rfl) (om hZ hw 126 rfl) (om hZ hw 140 rfl) (by decide) (backOf (W := 0) (own_rm27_6 l Z a0 hw arr ka x0 x1 x2 x3 x4 x5 cs fm u8 h0 n0 Z0 O0 V_a HB) hZ (own_w hw 140 rfl) (own_w hw 126 rfl) (by decide) (by decide)) (g := (mkF m 4 #[vr src, vi 0, vr arr, vi 0, vi 0, .unset] [(.ref arr), (.int 0), (.int 0)])) rfl (by rw [hml]; rfl) (argsL := [(.int 0), (.int 0), (.ref arr)]) (rest := []) (lenOf own_pd8 rfl) rfl (by show 2 * 0 + _ ≤ _; exact Nat.le_of_eq rfl) (hb hby own_d26_4) (fun _ _ => ⟨rfl, e0, (by decide : 0 + 0 ≤ _), (by decide : 0 + 0 ≤ _)⟩)
 dsimp only [Pt.U, Pt.locs, Pt.cells, Pt.slots] at X1 l1 y1 z1 st1 hQ1
 subst l1 y1 z1
 obtain ⟨rfl, N1q, e1⟩ := hQ1
 have N1 := Fr.app N0 N1q
 refine own_st (T' := T1) (g' := (mkF m 7 #[vr src, vi 0, vr arr, vi 0, vi 0, .unset] [])) st1 ?_
 refine own_st (T' := T1) (g' := (mkF m 41 #[vr src, vi 0, vr arr, vi 0, vi 0, vi 0] [])) (fun t k => ?_) ?_
 ·refine XS.iconst X1.here hx rfl (hb hby own_d26_7) ?_
  refine XS.istore X1.here hx rfl (hb hby own_d26_8) rfl (l' := #[vr src, vi 0, vr arr, vi 0, vi 0, vi 0]) rfl ?_
  refine XS.iload X1.here hx rfl (hb hby own_d26_10) rfl ?_
  refine XS.iload X1.here hx rfl (hb hby own_d26_12) rfl ?_
  refine XS.icmpYes X1.here hx rfl (pc0 := 14) (pc' := 41) rfl (hb hby own_d26_14) rfl (flt Int32.lt_irrefl).2.1 (by decide) (by decide) ?_
  exact k
 exact own_retV X1 hx Bd (hb hby own_d26_41) e1 (⟨rfl, N1, rfl⟩) (by decide) (by decide)
def own_r25_4 : Room := { frames := 4, cells := 0, slots := 0, locals := 60 }
def own_Q25_4 (Z : State) (src arr : Addr) (ka : ClassId) (x0 x1 x2 x3 : Int32) (cs : Int32) (fm : Value) (u8 : Addr) (h0 : Heap) (n0 : Nat) : Option Value → Heap → List Loc → Prop := fun v h L => v = none ∧ Fr n0 L ∧ h = h0
theorem own_rm25_4 (l : Launch) (Z : State) (a0 : Array Value) (hw : own_W a0 Z) (src arr : Addr) (ka : ClassId) (x0 x1 x2 x3 : Int32) (cs : Int32) (fm : Value) (u8 : Addr) (h0 : Heap) (n0 : Nat) (Z0 : n0 ≤ h0.size) (O0 : Old Z n0 h0) (V_a : Arv Z h0 arr ka .byte (4 : Int32) [(.int x0), (.int x1), (.int x2), (.int x3)] (.int 0)) (HB : own_BB Z cs fm u8) :
  own_MF l Z own_y18 (Jvm.Cond.code own_y18 jdk_43_method_50_code 5 none) [] own_r25_4 #[(.ref src), (.int 0), (.ref arr), (.int 0), (.int 0)] h0 (own_Q25_4 Z src arr ka x0 x1 x2 x3 cs fm u8 h0 n0) := by
 refine own_open (plainFor_of_name own_pn6) hisR (Ls := #[vr src, vi 0, vr arr, vi 0, vi 0]) ?_
 intro p e s m below meth c s₁ Bd hZ hx hby hml hown X0 e0
 have N0 := Fr.nil n0
 refine own_st (T' := s₁) (g' := (mkF m 6 #[vr src, vi 0, vr arr, vi 0, vi 0] [(.int 0), (.int 0), (.ref arr), (.int 0), (.ref src)])) (fun t k => ?_) ?_
 ·refine XS.aloadN X0.here hx rfl (hb hby own_d25_0) rfl rfl ?_
  refine XS.iloadN X0.here hx rfl (hb hby own_d25_1) rfl ?_
  refine XS.aloadN X0.here hx rfl (hb hby own_d25_2) rfl rfl ?_
  refine XS.iloadN X0.here hx rfl (hb hby own_d25_3) rfl ?_
  refine XS.iload X0.here hx rfl (hb hby own_d25_4) rfl ?_
  exact k
 obtain ⟨_, _, ⟨T1, L1, c1, n1⟩, -, X1, ⟨Lc1, hQ1, l1, y1, z1⟩, st1⟩ := Jvm.LawKit.callS X0 hx (y := own_y17) hown (om hZ hw 135 rfl) (om hZ hw 136 rfl) (om hZ hw 126 rfl) (om hZ hw 137 rfl) (by decide) (backOf (W := 0) (own_rm26_4 l Z a0 hw src arr ka x0 x1 x2 x3 cs fm u8 h0 n0 Z0 O0 V_a HB) hZ (own_w hw 137 rfl) (own_w hw 126 rfl) (by decide) (by decide)) (g := (mkF m 6 #[vr src, vi 0, vr arr, vi 0, vi 0] [(.int 0), (.int 0), (.ref arr), (.int 0), (.ref src)])) rfl (by rw [hml]; rfl) (argsL := [(.ref src), (.int 0), (.ref arr), (.int 0), (.int 0)]) (rest := []) (lenOf own_pd9 rfl) rfl (by show 2 * 0 + _ ≤ _; exact Nat.le_of_eq rfl) (hb hby own_d25_6) (fun _ _ => ⟨rfl, e0, (by decide : 0 + 0 ≤ _), (by decide : 0 + 0 ≤ _)⟩)
 dsimp only [Pt.U, Pt.locs, Pt.cells, Pt.slots] at X1 l1 y1 z1 st1 hQ1
 subst l1 y1 z1
 obtain ⟨rfl, N1q, e1⟩ := hQ1
 have N1 := Fr.app N0 N1q
 refine own_st (T' := T1) (g' := (mkF m 9 #[vr src, vi 0, vr arr, vi 0, vi 0] [])) st1 ?_
 exact own_retV X1 hx Bd (hb hby own_d25_9) e1 (⟨rfl, N1, rfl⟩) (by decide) (by decide)
def own_r25_6 : Room := { frames := 4, cells := 0, slots := 0, locals := 60 }
def own_Q25_6 (Z : State) (src arr : Addr) (ka : ClassId) (x0 x1 x2 x3 x4 x5 : Int32) (cs : Int32) (fm : Value) (u8 : Addr) (h0 : Heap) (n0 : Nat) : Option Value → Heap → List Loc → Prop := fun v h L => v = none ∧ Fr n0 L ∧ h = h0
theorem own_rm25_6 (l : Launch) (Z : State) (a0 : Array Value) (hw : own_W a0 Z) (src arr : Addr) (ka : ClassId) (x0 x1 x2 x3 x4 x5 : Int32) (cs : Int32) (fm : Value) (u8 : Addr) (h0 : Heap) (n0 : Nat) (Z0 : n0 ≤ h0.size) (O0 : Old Z n0 h0) (V_a : Arv Z h0 arr ka .byte (6 : Int32) [(.int x0), (.int x1), (.int x2), (.int x3), (.int x4), (.int x5)] (.int 0)) (HB : own_BB Z cs fm u8) :
  own_MF l Z own_y18 (Jvm.Cond.code own_y18 jdk_43_method_50_code 5 none) [] own_r25_6 #[(.ref src), (.int 0), (.ref arr), (.int 0), (.int 0)] h0 (own_Q25_6 Z src arr ka x0 x1 x2 x3 x4 x5 cs fm u8 h0 n0) := by
 refine own_open (plainFor_of_name own_pn6) hisR (Ls := #[vr src, vi 0, vr arr, vi 0, vi 0]) ?_
 intro p e s m below meth c s₁ Bd hZ hx hby hml hown X0 e0
 have N0 := Fr.nil n0
 refine own_st (T' := s₁) (g' := (mkF m 6 #[vr src, vi 0, vr arr, vi 0, vi 0] [(.int 0), (.int 0), (.ref arr), (.int 0), (.ref src)])) (fun t k => ?_) ?_
 ·refine XS.aloadN X0.here hx rfl (hb hby own_d25_0) rfl rfl ?_
  refine XS.iloadN X0.here hx rfl (hb hby own_d25_1) rfl ?_
  refine XS.aloadN X0.here hx rfl (hb hby own_d25_2) rfl rfl ?_
  refine XS.iloadN X0.here hx rfl (hb hby own_d25_3) rfl ?_
  refine XS.iload X0.here hx rfl (hb hby own_d25_4) rfl ?_
  exact k
 obtain ⟨_, _, ⟨T1, L1, c1, n1⟩, -, X1, ⟨Lc1, hQ1, l1, y1, z1⟩, st1⟩ := Jvm.LawKit.callS X0 hx (y := own_y17) hown (om hZ hw 135 rfl) (om hZ hw 136 rfl) (om hZ hw 126 rfl) (om hZ hw 137 rfl) (by decide) (backOf (W := 0) (own_rm26_6 l Z a0 hw src arr ka x0 x1 x2 x3 x4 x5 cs fm u8 h0 n0 Z0 O0 V_a HB) hZ (own_w hw 137 rfl) (own_w hw 126 rfl) (by decide) (by decide)) (g := (mkF m 6 #[vr src, vi 0, vr arr, vi 0, vi 0] [(.int 0), (.int 0), (.ref arr), (.int 0), (.ref src)])) rfl (by rw [hml]; rfl) (argsL := [(.ref src), (.int 0), (.ref arr), (.int 0), (.int 0)]) (rest := []) (lenOf own_pd9 rfl) rfl (by show 2 * 0 + _ ≤ _; exact Nat.le_of_eq rfl) (hb hby own_d25_6) (fun _ _ => ⟨rfl, e0, (by decide : 0 + 0 ≤ _), (by decide : 0 + 0 ≤ _)⟩)
 dsimp only [Pt.U, Pt.locs, Pt.cells, Pt.slots] at X1 l1 y1 z1 st1 hQ1
 subst l1 y1 z1
 obtain ⟨rfl, N1q, e1⟩ := hQ1
 have N1 := Fr.app N0 N1q
 refine own_st (T' := T1) (g' := (mkF m 9 #[vr src, vi 0, vr arr, vi 0, vi 0] [])) st1 ?_
 exact own_retV X1 hx Bd (hb hby own_d25_9) e1 (⟨rfl, N1, rfl⟩) (by decide) (by decide)
def own_r32_4_0 : Room := { frames := 0, cells := 0, slots := 0, locals := 0 }
def own_Q32_4_0 (Z : State) (arr : Addr) (ka : ClassId) (x0 x1 x2 x3 ch : Int32) (cs : Int32) (fm : Value) (u8 : Addr) (h0 : Heap) (n0 : Nat) : Option Value → Heap → List Loc → Prop := fun v h L => v = none ∧ Fr n0 L ∧ Keep h0 h [arr] ∧ Arv Z h arr ka .byte (4 : Int32) [(.int ((ch >>> ((0 : Int32) &&& 31)).toInt8.toInt32)), (.int ((ch >>> ((8 : Int32) &&& 31)).toInt8.toInt32)), (.int x2), (.int x3)] (.int 0)
theorem own_rm32_4_0 (l : Launch) (Z : State) (a0 : Array Value) (hw : own_W a0 Z) (arr : Addr) (ka : ClassId) (x0 x1 x2 x3 ch : Int32) (cs : Int32) (fm : Value) (u8 : Addr) (h0 : Heap) (n0 : Nat) (Z0 : n0 ≤ h0.size) (O0 : Old Z n0 h0) (V_a : Arv Z h0 arr ka .byte (4 : Int32) [(.int x0), (.int x1), (.int x2), (.int x3)] (.int 0)) (g_a : n0 ≤ arr) (HB : own_BB Z cs fm u8) :
  own_MF l Z own_y19 (Jvm.Cond.code own_y19 jdk_52_method_4_code 3 none) [] own_r32_4_0 #[(.ref arr), (.int 0), (.int ch)] h0 (own_Q32_4_0 Z arr ka x0 x1 x2 x3 ch cs fm u8 h0 n0) := by
 refine own_open (plainFor_of_name own_pn5) hisR (Ls := #[vr arr, vi 0, vi ch]) ?_
 intro p e s m below meth c s₁ Bd hZ hx hby hml hown X0 e0
 obtain ⟨-, -, -, -, S_ad, S_hb, S_lb, -, -, -⟩ := id HB
 have N0 := Fr.nil n0
 have f1 := S_ad.ext O0.2
 obtain ⟨T2, X2, e2, st2⟩ := getS2 X0 hx hZ hown (host := "") (Or.inl (own_w hw 157 rfl)) Via.refl e0 f1 (g := (mkF m 0 #[vr arr, vi 0, vi ch] [])) rfl (hb hby own_d32_0)
 refine own_st (T' := T2) (g' := (mkF m 3 #[vr arr, vi 0, vi ch] [(.int 1)])) st2 ?_
 refine own_st (T' := T2) (g' := (mkF m 38 #[vr arr, vi 1, vi ch] [(.int ch), (.int 0), (.ref arr)])) (fun t k => ?_) ?_
 ·refine XS.ifYes X2.here hx rfl (pc0 := 3) (pc' := 28) rfl (hb hby own_d32_3) rfl ((if0 _ _).trans (feq (by decide : ¬ ((1 : Int32) = (0 : Int32)))).2) (by decide) (by decide) ?_
  refine XS.iloadN X2.here hx rfl (hb hby own_d32_28) rfl ?_
  refine XS.iconst X2.here hx rfl (hb hby own_d32_29) ?_
  refine XS.ishl X2.here hx rfl (hb hby own_d32_30) rfl ?_
  refine XS.istoreN X2.here hx rfl (hb hby own_d32_31) rfl (l' := #[vr arr, vi 0, vi ch]) rfl ?_
  refine XS.aloadN X2.here hx rfl (hb hby own_d32_32) rfl rfl ?_
  refine XS.iloadN X2.here hx rfl (hb hby own_d32_33) rfl ?_
  refine XS.iinc X2.here hx rfl (hb hby own_d32_34) rfl (l' := #[vr arr, vi 1, vi ch]) rfl ?_
  refine XS.iloadN X2.here hx rfl (hb hby own_d32_37) rfl ?_
  exact k
 have f3 := S_hb.ext O0.2
 obtain ⟨T4, X4, e4, st4⟩ := getS2 X2 hx hZ hown (host := "") (Or.inl (own_w hw 158 rfl)) Via.refl e2 f3 (g := (mkF m 38 #[vr arr, vi 1, vi ch] [(.int ch), (.int 0), (.ref arr)])) rfl (hb hby own_d32_38)
 refine own_st (T' := T4) (g' := (mkF m 41 #[vr arr, vi 1, vi ch] [(.int 0), (.int ch), (.int 0), (.ref arr)])) st4 ?_
 refine own_st (T' := T4) (g' := (mkF m 43 #[vr arr, vi 1, vi ch] [(.int ((ch >>> ((0 : Int32) &&& 31)).toInt8.toInt32)), (.int 0), (.ref arr)])) (fun t k => ?_) ?_
 ·refine XS.ishr X4.here hx rfl (hb hby own_d32_41) rfl ?_
  refine XS.i2b X4.here hx rfl (hb hby own_d32_42) rfl ?_
  exact k
 obtain ⟨cl5, Ar5, q5, S5, M5, H5, G5⟩ := id V_a
 obtain ⟨T6, h6, X6, e6, W6, st6⟩ := stB X4 hx hZ e4 Ar5 (j := (0 : Int32)) (inb_of S5 ⟨by decide, by decide⟩) (g := (mkF m 43 #[vr arr, vi 1, vi ch] [(.int ((ch >>> ((0 : Int32) &&& 31)).toInt8.toInt32)), (.int 0), (.ref arr)])) rfl rfl (hb hby own_d32_43)
 have N6 := Fr.snoc X6 N0 g_a
 have K6 : Keep h0 h6 [arr] := (Keep.refl h0 [arr]).wr W6 (Or.inl (List.mem_of_getElem? (i := 0) rfl))
 have Z6 : n0 ≤ h6.size := Nat.le_trans Z0 (Keep.of_wr W6).1
 have O6 := O0.wr W6 g_a
 have fw6 := (show Arv Z h6 arr ka .byte (4 : Int32) [(.int ((ch >>> ((0 : Int32) &&& 31)).toInt8.toInt32)), (.int x1), (.int x2), (.int x3)] (.int 0) by have q : Arv Z h6 arr ka .byte (4 : Int32) [(.int (((ch >>> ((0 : Int32) &&& 31)).toInt8.toInt32).toInt8.toInt32)), (.int x1), (.int x2), (.int x3)] (.int 0) := Arv.set Ar5 q5 S5 M5 H5 G5 (fits_nar_byte _) W6 0 rfl (Nat.le_of_ble_eq_true rfl); rw [own_bb (ch >>> ((0 : Int32) &&& 31))] at q; exact q)
 refine own_st (T' := T6) (g' := (mkF m 44 #[vr arr, vi 1, vi ch] [])) st6 ?_
 refine own_st (T' := T6) (g' := (mkF m 47 #[vr arr, vi 1, vi ch] [(.int ch), (.int 1), (.ref arr)])) (fun t k => ?_) ?_
 ·refine XS.aloadN X6.here hx rfl (hb hby own_d32_44) rfl rfl ?_
  refine XS.iloadN X6.here hx rfl (hb hby own_d32_45) rfl ?_
  refine XS.iloadN X6.here hx rfl (hb hby own_d32_46) rfl ?_
  exact k
 have f7 := S_lb.ext O6.2
 obtain ⟨T8, X8, e8, st8⟩ := getS2 X6 hx hZ hown (host := "") (Or.inl (own_w hw 159 rfl)) Via.refl e6 f7 (g := (mkF m 47 #[vr arr, vi 1, vi ch] [(.int ch), (.int 1), (.ref arr)])) rfl (hb hby own_d32_47)
 refine own_st (T' := T8) (g' := (mkF m 50 #[vr arr, vi 1, vi ch] [(.int 8), (.int ch), (.int 1), (.ref arr)])) st8 ?_
 refine own_st (T' := T8) (g' := (mkF m 52 #[vr arr, vi 1, vi ch] [(.int ((ch >>> ((8 : Int32) &&& 31)).toInt8.toInt32)), (.int 1), (.ref arr)])) (fun t k => ?_) ?_
 ·refine XS.ishr X8.here hx rfl (hb hby own_d32_50) rfl ?_
  refine XS.i2b X8.here hx rfl (hb hby own_d32_51) rfl ?_
  exact k
 obtain ⟨cl9, Ar9, q9, S9, M9, H9, G9⟩ := id fw6
 obtain ⟨T10, h10, X10, e10, W10, st10⟩ := stB X8 hx hZ e8 Ar9 (j := (1 : Int32)) (inb_of S9 ⟨by decide, by decide⟩) (g := (mkF m 52 #[vr arr, vi 1, vi ch] [(.int ((ch >>> ((8 : Int32) &&& 31)).toInt8.toInt32)), (.int 1), (.ref arr)])) rfl rfl (hb hby own_d32_52)
 have N10 := Fr.snoc X10 N6 g_a
 have K10 : Keep h0 h10 [arr] := K6.wr W10 (Or.inl (List.mem_of_getElem? (i := 0) rfl))
 have Z10 : n0 ≤ h10.size := Nat.le_trans Z6 (Keep.of_wr W10).1
 have O10 := O6.wr W10 g_a
 have fw10 := (show Arv Z h10 arr ka .byte (4 : Int32) [(.int ((ch >>> ((0 : Int32) &&& 31)).toInt8.toInt32)), (.int ((ch >>> ((8 : Int32) &&& 31)).toInt8.toInt32)), (.int x2), (.int x3)] (.int 0) by have q : Arv Z h10 arr ka .byte (4 : Int32) [(.int ((ch >>> ((0 : Int32) &&& 31)).toInt8.toInt32)), (.int (((ch >>> ((8 : Int32) &&& 31)).toInt8.toInt32).toInt8.toInt32)), (.int x2), (.int x3)] (.int 0) := Arv.set Ar9 q9 S9 M9 H9 G9 (fits_nar_byte _) W10 1 rfl (Nat.le_of_ble_eq_true rfl); rw [own_bb (ch >>> ((8 : Int32) &&& 31))] at q; exact q)
 refine own_st (T' := T10) (g' := (mkF m 53 #[vr arr, vi 1, vi ch] [])) st10 ?_
 exact own_retV X10 hx Bd (hb hby own_d32_53) e10 (⟨rfl, N10, K10, fw10⟩) (by decide) (by decide)
def own_r32_6_0 : Room := { frames := 0, cells := 0, slots := 0, locals := 0 }
def own_Q32_6_0 (Z : State) (arr : Addr) (ka : ClassId) (x0 x1 x2 x3 x4 x5 ch : Int32) (cs : Int32) (fm : Value) (u8 : Addr) (h0 : Heap) (n0 : Nat) : Option Value → Heap → List Loc → Prop := fun v h L => v = none ∧ Fr n0 L ∧ Keep h0 h [arr] ∧ Arv Z h arr ka .byte (6 : Int32) [(.int ((ch >>> ((0 : Int32) &&& 31)).toInt8.toInt32)), (.int ((ch >>> ((8 : Int32) &&& 31)).toInt8.toInt32)), (.int x2), (.int x3), (.int x4), (.int x5)] (.int 0)
theorem own_rm32_6_0 (l : Launch) (Z : State) (a0 : Array Value) (hw : own_W a0 Z) (arr : Addr) (ka : ClassId) (x0 x1 x2 x3 x4 x5 ch : Int32) (cs : Int32) (fm : Value) (u8 : Addr) (h0 : Heap) (n0 : Nat) (Z0 : n0 ≤ h0.size) (O0 : Old Z n0 h0) (V_a : Arv Z h0 arr ka .byte (6 : Int32) [(.int x0), (.int x1), (.int x2), (.int x3), (.int x4), (.int x5)] (.int 0)) (g_a : n0 ≤ arr) (HB : own_BB Z cs fm u8) :
  own_MF l Z own_y19 (Jvm.Cond.code own_y19 jdk_52_method_4_code 3 none) [] own_r32_6_0 #[(.ref arr), (.int 0), (.int ch)] h0 (own_Q32_6_0 Z arr ka x0 x1 x2 x3 x4 x5 ch cs fm u8 h0 n0) := by
 refine own_open (plainFor_of_name own_pn5) hisR (Ls := #[vr arr, vi 0, vi ch]) ?_
 intro p e s m below meth c s₁ Bd hZ hx hby hml hown X0 e0
 obtain ⟨-, -, -, -, S_ad, S_hb, S_lb, -, -, -⟩ := id HB
 have N0 := Fr.nil n0
 have f1 := S_ad.ext O0.2
 obtain ⟨T2, X2, e2, st2⟩ := getS2 X0 hx hZ hown (host := "") (Or.inl (own_w hw 157 rfl)) Via.refl e0 f1 (g := (mkF m 0 #[vr arr, vi 0, vi ch] [])) rfl (hb hby own_d32_0)
 refine own_st (T' := T2) (g' := (mkF m 3 #[vr arr, vi 0, vi ch] [(.int 1)])) st2 ?_
 refine own_st (T' := T2) (g' := (mkF m 38 #[vr arr, vi 1, vi ch] [(.int ch), (.int 0), (.ref arr)])) (fun t k => ?_) ?_
 ·refine XS.ifYes X2.here hx rfl (pc0 := 3) (pc' := 28) rfl (hb hby own_d32_3) rfl ((if0 _ _).trans (feq (by decide : ¬ ((1 : Int32) = (0 : Int32)))).2) (by decide) (by decide) ?_
  refine XS.iloadN X2.here hx rfl (hb hby own_d32_28) rfl ?_
  refine XS.iconst X2.here hx rfl (hb hby own_d32_29) ?_
  refine XS.ishl X2.here hx rfl (hb hby own_d32_30) rfl ?_
  refine XS.istoreN X2.here hx rfl (hb hby own_d32_31) rfl (l' := #[vr arr, vi 0, vi ch]) rfl ?_
  refine XS.aloadN X2.here hx rfl (hb hby own_d32_32) rfl rfl ?_
  refine XS.iloadN X2.here hx rfl (hb hby own_d32_33) rfl ?_
  refine XS.iinc X2.here hx rfl (hb hby own_d32_34) rfl (l' := #[vr arr, vi 1, vi ch]) rfl ?_
  refine XS.iloadN X2.here hx rfl (hb hby own_d32_37) rfl ?_
  exact k
 have f3 := S_hb.ext O0.2
 obtain ⟨T4, X4, e4, st4⟩ := getS2 X2 hx hZ hown (host := "") (Or.inl (own_w hw 158 rfl)) Via.refl e2 f3 (g := (mkF m 38 #[vr arr, vi 1, vi ch] [(.int ch), (.int 0), (.ref arr)])) rfl (hb hby own_d32_38)
 refine own_st (T' := T4) (g' := (mkF m 41 #[vr arr, vi 1, vi ch] [(.int 0), (.int ch), (.int 0), (.ref arr)])) st4 ?_
 refine own_st (T' := T4) (g' := (mkF m 43 #[vr arr, vi 1, vi ch] [(.int ((ch >>> ((0 : Int32) &&& 31)).toInt8.toInt32)), (.int 0), (.ref arr)])) (fun t k => ?_) ?_
 ·refine XS.ishr X4.here hx rfl (hb hby own_d32_41) rfl ?_
  refine XS.i2b X4.here hx rfl (hb hby own_d32_42) rfl ?_
  exact k
 obtain ⟨cl5, Ar5, q5, S5, M5, H5, G5⟩ := id V_a
 obtain ⟨T6, h6, X6, e6, W6, st6⟩ := stB X4 hx hZ e4 Ar5 (j := (0 : Int32)) (inb_of S5 ⟨by decide, by decide⟩) (g := (mkF m 43 #[vr arr, vi 1, vi ch] [(.int ((ch >>> ((0 : Int32) &&& 31)).toInt8.toInt32)), (.int 0), (.ref arr)])) rfl rfl (hb hby own_d32_43)
 have N6 := Fr.snoc X6 N0 g_a
 have K6 : Keep h0 h6 [arr] := (Keep.refl h0 [arr]).wr W6 (Or.inl (List.mem_of_getElem? (i := 0) rfl))
 have Z6 : n0 ≤ h6.size := Nat.le_trans Z0 (Keep.of_wr W6).1
 have O6 := O0.wr W6 g_a
 have fw6 := (show Arv Z h6 arr ka .byte (6 : Int32) [(.int ((ch >>> ((0 : Int32) &&& 31)).toInt8.toInt32)), (.int x1), (.int x2), (.int x3), (.int x4), (.int x5)] (.int 0) by have q : Arv Z h6 arr ka .byte (6 : Int32) [(.int (((ch >>> ((0 : Int32) &&& 31)).toInt8.toInt32).toInt8.toInt32)), (.int x1), (.int x2), (.int x3), (.int x4), (.int x5)] (.int 0) := Arv.set Ar5 q5 S5 M5 H5 G5 (fits_nar_byte _) W6 0 rfl (Nat.le_of_ble_eq_true rfl); rw [own_bb (ch >>> ((0 : Int32) &&& 31))] at q; exact q)
 refine own_st (T' := T6) (g' := (mkF m 44 #[vr arr, vi 1, vi ch] [])) st6 ?_
 refine own_st (T' := T6) (g' := (mkF m 47 #[vr arr, vi 1, vi ch] [(.int ch), (.int 1), (.ref arr)])) (fun t k => ?_) ?_
 ·refine XS.aloadN X6.here hx rfl (hb hby own_d32_44) rfl rfl ?_
  refine XS.iloadN X6.here hx rfl (hb hby own_d32_45) rfl ?_
  refine XS.iloadN X6.here hx rfl (hb hby own_d32_46) rfl ?_
  exact k
 have f7 := S_lb.ext O6.2
 obtain ⟨T8, X8, e8, st8⟩ := getS2 X6 hx hZ hown (host := "") (Or.inl (own_w hw 159 rfl)) Via.refl e6 f7 (g := (mkF m 47 #[vr arr, vi 1, vi ch] [(.int ch), (.int 1), (.ref arr)])) rfl (hb hby own_d32_47)
 refine own_st (T' := T8) (g' := (mkF m 50 #[vr arr, vi 1, vi ch] [(.int 8), (.int ch), (.int 1), (.ref arr)])) st8 ?_
 refine own_st (T' := T8) (g' := (mkF m 52 #[vr arr, vi 1, vi ch] [(.int ((ch >>> ((8 : Int32) &&& 31)).toInt8.toInt32)), (.int 1), (.ref arr)])) (fun t k => ?_) ?_
 ·refine XS.ishr X8.here hx rfl (hb hby own_d32_50) rfl ?_
  refine XS.i2b X8.here hx rfl (hb hby own_d32_51) rfl ?_
  exact k
 obtain ⟨cl9, Ar9, q9, S9, M9, H9, G9⟩ := id fw6
 obtain ⟨T10, h10, X10, e10, W10, st10⟩ := stB X8 hx hZ e8 Ar9 (j := (1 : Int32)) (inb_of S9 ⟨by decide, by decide⟩) (g := (mkF m 52 #[vr arr, vi 1, vi ch] [(.int ((ch >>> ((8 : Int32) &&& 31)).toInt8.toInt32)), (.int 1), (.ref arr)])) rfl rfl (hb hby own_d32_52)
 have N10 := Fr.snoc X10 N6 g_a
 have K10 : Keep h0 h10 [arr] := K6.wr W10 (Or.inl (List.mem_of_getElem? (i := 0) rfl))
 have Z10 : n0 ≤ h10.size := Nat.le_trans Z6 (Keep.of_wr W10).1
 have O10 := O6.wr W10 g_a
 have fw10 := (show Arv Z h10 arr ka .byte (6 : Int32) [(.int ((ch >>> ((0 : Int32) &&& 31)).toInt8.toInt32)), (.int ((ch >>> ((8 : Int32) &&& 31)).toInt8.toInt32)), (.int x2), (.int x3), (.int x4), (.int x5)] (.int 0) by have q : Arv Z h10 arr ka .byte (6 : Int32) [(.int ((ch >>> ((0 : Int32) &&& 31)).toInt8.toInt32)), (.int (((ch >>> ((8 : Int32) &&& 31)).toInt8.toInt32).toInt8.toInt32)), (.int x2), (.int x3), (.int x4), (.int x5)] (.int 0) := Arv.set Ar9 q9 S9 M9 H9 G9 (fits_nar_byte _) W10 1 rfl (Nat.le_of_ble_eq_true rfl); rw [own_bb (ch >>> ((8 : Int32) &&& 31))] at q; exact q)
 refine own_st (T' := T10) (g' := (mkF m 53 #[vr arr, vi 1, vi ch] [])) st10 ?_
 exact own_retV X10 hx Bd (hb hby own_d32_53) e10 (⟨rfl, N10, K10, fw10⟩) (by decide) (by decide)
def own_r32_6_1 : Room := { frames := 0, cells := 0, slots := 0, locals := 0 }
def own_Q32_6_1 (Z : State) (arr : Addr) (ka : ClassId) (x0 x1 x2 x3 x4 x5 ch : Int32) (cs : Int32) (fm : Value) (u8 : Addr) (h0 : Heap) (n0 : Nat) : Option Value → Heap → List Loc → Prop := fun v h L => v = none ∧ Fr n0 L ∧ Keep h0 h [arr] ∧ Arv Z h arr ka .byte (6 : Int32) [(.int x0), (.int x1), (.int ((ch >>> ((0 : Int32) &&& 31)).toInt8.toInt32)), (.int ((ch >>> ((8 : Int32) &&& 31)).toInt8.toInt32)), (.int x4), (.int x5)] (.int 0)
theorem own_rm32_6_1 (l : Launch) (Z : State) (a0 : Array Value) (hw : own_W a0 Z) (arr : Addr) (ka : ClassId) (x0 x1 x2 x3 x4 x5 ch : Int32) (cs : Int32) (fm : Value) (u8 : Addr) (h0 : Heap) (n0 : Nat) (Z0 : n0 ≤ h0.size) (O0 : Old Z n0 h0) (V_a : Arv Z h0 arr ka .byte (6 : Int32) [(.int x0), (.int x1), (.int x2), (.int x3), (.int x4), (.int x5)] (.int 0)) (g_a : n0 ≤ arr) (HB : own_BB Z cs fm u8) :
  own_MF l Z own_y19 (Jvm.Cond.code own_y19 jdk_52_method_4_code 3 none) [] own_r32_6_1 #[(.ref arr), (.int 1), (.int ch)] h0 (own_Q32_6_1 Z arr ka x0 x1 x2 x3 x4 x5 ch cs fm u8 h0 n0) := by
 refine own_open (plainFor_of_name own_pn5) hisR (Ls := #[vr arr, vi 1, vi ch]) ?_
 intro p e s m below meth c s₁ Bd hZ hx hby hml hown X0 e0
 obtain ⟨-, -, -, -, S_ad, S_hb, S_lb, -, -, -⟩ := id HB
 have N0 := Fr.nil n0
 have f1 := S_ad.ext O0.2
 obtain ⟨T2, X2, e2, st2⟩ := getS2 X0 hx hZ hown (host := "") (Or.inl (own_w hw 157 rfl)) Via.refl e0 f1 (g := (mkF m 0 #[vr arr, vi 1, vi ch] [])) rfl (hb hby own_d32_0)
 refine own_st (T' := T2) (g' := (mkF m 3 #[vr arr, vi 1, vi ch] [(.int 1)])) st2 ?_
 refine own_st (T' := T2) (g' := (mkF m 38 #[vr arr, vi 3, vi ch] [(.int ch), (.int 2), (.ref arr)])) (fun t k => ?_) ?_
 ·refine XS.ifYes X2.here hx rfl (pc0 := 3) (pc' := 28) rfl (hb hby own_d32_3) rfl ((if0 _ _).trans (feq (by decide : ¬ ((1 : Int32) = (0 : Int32)))).2) (by decide) (by decide) ?_
  refine XS.iloadN X2.here hx rfl (hb hby own_d32_28) rfl ?_
  refine XS.iconst X2.here hx rfl (hb hby own_d32_29) ?_
  refine XS.ishl X2.here hx rfl (hb hby own_d32_30) rfl ?_
  refine XS.istoreN X2.here hx rfl (hb hby own_d32_31) rfl (l' := #[vr arr, vi 2, vi ch]) rfl ?_
  refine XS.aloadN X2.here hx rfl (hb hby own_d32_32) rfl rfl ?_
  refine XS.iloadN X2.here hx rfl (hb hby own_d32_33) rfl ?_
  refine XS.iinc X2.here hx rfl (hb hby own_d32_34) rfl (l' := #[vr arr, vi 3, vi ch]) rfl ?_
  refine XS.iloadN X2.here hx rfl (hb hby own_d32_37) rfl ?_
  exact k
 have f3 := S_hb.ext O0.2
 obtain ⟨T4, X4, e4, st4⟩ := getS2 X2 hx hZ hown (host := "") (Or.inl (own_w hw 158 rfl)) Via.refl e2 f3 (g := (mkF m 38 #[vr arr, vi 3, vi ch] [(.int ch), (.int 2), (.ref arr)])) rfl (hb hby own_d32_38)
 refine own_st (T' := T4) (g' := (mkF m 41 #[vr arr, vi 3, vi ch] [(.int 0), (.int ch), (.int 2), (.ref arr)])) st4 ?_
 refine own_st (T' := T4) (g' := (mkF m 43 #[vr arr, vi 3, vi ch] [(.int ((ch >>> ((0 : Int32) &&& 31)).toInt8.toInt32)), (.int 2), (.ref arr)])) (fun t k => ?_) ?_
 ·refine XS.ishr X4.here hx rfl (hb hby own_d32_41) rfl ?_
  refine XS.i2b X4.here hx rfl (hb hby own_d32_42) rfl ?_
  exact k
 obtain ⟨cl5, Ar5, q5, S5, M5, H5, G5⟩ := id V_a
 obtain ⟨T6, h6, X6, e6, W6, st6⟩ := stB X4 hx hZ e4 Ar5 (j := (2 : Int32)) (inb_of S5 ⟨by decide, by decide⟩) (g := (mkF m 43 #[vr arr, vi 3, vi ch] [(.int ((ch >>> ((0 : Int32) &&& 31)).toInt8.toInt32)), (.int 2), (.ref arr)])) rfl rfl (hb hby own_d32_43)
 have N6 := Fr.snoc X6 N0 g_a
 have K6 : Keep h0 h6 [arr] := (Keep.refl h0 [arr]).wr W6 (Or.inl (List.mem_of_getElem? (i := 0) rfl))
 have Z6 : n0 ≤ h6.size := Nat.le_trans Z0 (Keep.of_wr W6).1
 have O6 := O0.wr W6 g_a
 have fw6 := (show Arv Z h6 arr ka .byte (6 : Int32) [(.int x0), (.int x1), (.int ((ch >>> ((0 : Int32) &&& 31)).toInt8.toInt32)), (.int x3), (.int x4), (.int x5)] (.int 0) by have q : Arv Z h6 arr ka .byte (6 : Int32) [(.int x0), (.int x1), (.int (((ch >>> ((0 : Int32) &&& 31)).toInt8.toInt32).toInt8.toInt32)), (.int x3), (.int x4), (.int x5)] (.int 0) := Arv.set Ar5 q5 S5 M5 H5 G5 (fits_nar_byte _) W6 2 rfl (Nat.le_of_ble_eq_true rfl); rw [own_bb (ch >>> ((0 : Int32) &&& 31))] at q; exact q)
 refine own_st (T' := T6) (g' := (mkF m 44 #[vr arr, vi 3, vi ch] [])) st6 ?_
 refine own_st (T' := T6) (g' := (mkF m 47 #[vr arr, vi 3, vi ch] [(.int ch), (.int 3), (.ref arr)])) (fun t k => ?_) ?_
 ·refine XS.aloadN X6.here hx rfl (hb hby own_d32_44) rfl rfl ?_
  refine XS.iloadN X6.here hx rfl (hb hby own_d32_45) rfl ?_
  refine XS.iloadN X6.here hx rfl (hb hby own_d32_46) rfl ?_
  exact k
 have f7 := S_lb.ext O6.2
 obtain ⟨T8, X8, e8, st8⟩ := getS2 X6 hx hZ hown (host := "") (Or.inl (own_w hw 159 rfl)) Via.refl e6 f7 (g := (mkF m 47 #[vr arr, vi 3, vi ch] [(.int ch), (.int 3), (.ref arr)])) rfl (hb hby own_d32_47)
 refine own_st (T' := T8) (g' := (mkF m 50 #[vr arr, vi 3, vi ch] [(.int 8), (.int ch), (.int 3), (.ref arr)])) st8 ?_
 refine own_st (T' := T8) (g' := (mkF m 52 #[vr arr, vi 3, vi ch] [(.int ((ch >>> ((8 : Int32) &&& 31)).toInt8.toInt32)), (.int 3), (.ref arr)])) (fun t k => ?_) ?_
 ·refine XS.ishr X8.here hx rfl (hb hby own_d32_50) rfl ?_
  refine XS.i2b X8.here hx rfl (hb hby own_d32_51) rfl ?_
  exact k
 obtain ⟨cl9, Ar9, q9, S9, M9, H9, G9⟩ := id fw6
 obtain ⟨T10, h10, X10, e10, W10, st10⟩ := stB X8 hx hZ e8 Ar9 (j := (3 : Int32)) (inb_of S9 ⟨by decide, by decide⟩) (g := (mkF m 52 #[vr arr, vi 3, vi ch] [(.int ((ch >>> ((8 : Int32) &&& 31)).toInt8.toInt32)), (.int 3), (.ref arr)])) rfl rfl (hb hby own_d32_52)
 have N10 := Fr.snoc X10 N6 g_a
 have K10 : Keep h0 h10 [arr] := K6.wr W10 (Or.inl (List.mem_of_getElem? (i := 0) rfl))
 have Z10 : n0 ≤ h10.size := Nat.le_trans Z6 (Keep.of_wr W10).1
 have O10 := O6.wr W10 g_a
 have fw10 := (show Arv Z h10 arr ka .byte (6 : Int32) [(.int x0), (.int x1), (.int ((ch >>> ((0 : Int32) &&& 31)).toInt8.toInt32)), (.int ((ch >>> ((8 : Int32) &&& 31)).toInt8.toInt32)), (.int x4), (.int x5)] (.int 0) by have q : Arv Z h10 arr ka .byte (6 : Int32) [(.int x0), (.int x1), (.int ((ch >>> ((0 : Int32) &&& 31)).toInt8.toInt32)), (.int (((ch >>> ((8 : Int32) &&& 31)).toInt8.toInt32).toInt8.toInt32)), (.int x4), (.int x5)] (.int 0) := Arv.set Ar9 q9 S9 M9 H9 G9 (fits_nar_byte _) W10 3 rfl (Nat.le_of_ble_eq_true rfl); rw [own_bb (ch >>> ((8 : Int32) &&& 31))] at q; exact q)
 refine own_st (T' := T10) (g' := (mkF m 53 #[vr arr, vi 3, vi ch] [])) st10 ?_
 exact own_retV X10 hx Bd (hb hby own_d32_53) e10 (⟨rfl, N10, K10, fw10⟩) (by decide) (by decide)
def own_r29_2 : Room := { frames := 1, cells := 0, slots := 0, locals := 15 }
def own_Q29_2 (Z : State) (src dst : Addr) (ks kd : ClassId) (x0 x1 : Int32) (cs : Int32) (fm : Value) (u8 : Addr) (h0 : Heap) (n0 : Nat) : Option Value → Heap → List Loc → Prop := fun v h L => v = some (.int 1) ∧ Fr n0 L ∧ Keep h0 h [dst] ∧ Arv Z h dst kd .byte (4 : Int32) [(.int (((own_d2 x0 x1) >>> ((0 : Int32) &&& 31)).toInt8.toInt32)), (.int (((own_d2 x0 x1) >>> ((8 : Int32) &&& 31)).toInt8.toInt32)), (.int 0), (.int 0)] (.int 0)
theorem own_rm29_2 (l : Launch) (Z : State) (a0 : Array Value) (hw : own_W a0 Z) (src dst : Addr) (ks kd : ClassId) (x0 x1 : Int32) (cs : Int32) (fm : Value) (u8 : Addr) (h0 : Heap) (n0 : Nat) (Z0 : n0 ≤ h0.size) (O0 : Old Z n0 h0) (V_s : Arv Z h0 src ks .byte (2 : Int32) [(.int x0), (.int x1)] (.int 0)) (V_d : Arv Z h0 dst kd .byte (4 : Int32) [(.int 0), (.int 0), (.int 0), (.int 0)] (.int 0)) (g_d : n0 ≤ dst) (nsd : src ≠ dst) (hle : own_lead x0) (hco : own_cont x1) (HB : own_BB Z cs fm u8) :
  own_MF l Z own_y20 (Jvm.Cond.code own_y20 jdk_42_method_38_code 11 (some .int)) [] own_r29_2 #[(.ref src), (.int 0), (.int 2), (.ref dst), (.int 0), (.int 1)] h0 (own_Q29_2 Z src dst ks kd x0 x1 cs fm u8 h0 n0) := by
 refine own_open (plainFor_of_name own_pn1) hisR (Ls := #[vr src, vi 0, vi 2, vr dst, vi 0, vi 1, .unset, .unset, .unset, .unset, .unset]) ?_
 intro p e s m below meth c s₁ Bd hZ hx hby hml hown X0 e0
 have N0 := Fr.nil n0
 refine own_st (T' := s₁) (g' := (mkF m 10 #[vr src, vi 1, vi 2, vr dst, vi 0, vi 1, .unset, .unset, .unset, .unset, .unset] [(.int 0), (.ref src)])) (fun t k => ?_) ?_
 ·refine XS.iloadN X0.here hx rfl (hb hby own_d29_0) rfl ?_
  refine XS.iloadN X0.here hx rfl (hb hby own_d29_1) rfl ?_
  refine XS.icmpNo X0.here hx rfl (hb hby own_d29_2) rfl (tlt (by decide : (0 : Int32) < (2 : Int32))).2.1 ?_
  refine XS.aloadN X0.here hx rfl (hb hby own_d29_5) rfl rfl ?_
  refine XS.iloadN X0.here hx rfl (hb hby own_d29_6) rfl ?_
  refine XS.iinc X0.here hx rfl (hb hby own_d29_7) rfl (l' := #[vr src, vi 1, vi 2, vr dst, vi 0, vi 1, .unset, .unset, .unset, .unset, .unset]) rfl ?_
  exact k
 obtain ⟨cl1, Ar1, q1, S1, M1, H1, G1⟩ := id V_s
 refine own_st (T' := s₁) (g' := (mkF m 60 #[vr src, vi 2, vi 2, vr dst, vi 0, vi 1, vi x0, .unset, .unset, .unset, .unset] [(.int 1), (.ref src)])) (fun t k => ?_) ?_
 ·refine X0.baloadBytes hx (j := (0 : Int32)) (v := (.int x0)) (by rw [e0]; exact Ar1.1) (State.isArrayOf_alike hZ.alike Ar1.2.1) Ar1.2.2 (inb_of S1 ⟨by decide, by decide⟩) (Has.at H1 (inb_of S1 ⟨by decide, by decide⟩) rfl) (g := (mkF m 10 #[vr src, vi 1, vi 2, vr dst, vi 0, vi 1, .unset, .unset, .unset, .unset, .unset] [(.int 0), (.ref src)])) rfl rfl (hb hby own_d29_10) _ ?_
  refine XS.istore X0.here hx rfl (hb hby own_d29_11) rfl (l' := #[vr src, vi 1, vi 2, vr dst, vi 0, vi 1, vi x0, .unset, .unset, .unset, .unset]) rfl ?_
  refine XS.iload X0.here hx rfl (hb hby own_d29_13) rfl ?_
  refine XS.ifYes X0.here hx rfl (pc0 := 15) (pc' := 33) rfl (hb hby own_d29_15) rfl ((if0 _ _).trans (tlt (own_lead_neg hle)).1) (by decide) (by decide) ?_
  refine XS.iload X0.here hx rfl (hb hby own_d29_33) rfl ?_
  refine XS.iconst X0.here hx rfl (hb hby own_d29_35) ?_
  refine XS.ishr X0.here hx rfl (hb hby own_d29_36) rfl ?_
  refine XS.bipush X0.here hx rfl (hb hby own_d29_37) ?_
  refine XS.icmpNo X0.here hx rfl (hb hby own_d29_39) rfl (teq (own_lead_5 hle)).2 ?_
  refine XS.iload X0.here hx rfl (hb hby own_d29_42) rfl ?_
  refine XS.bipush X0.here hx rfl (hb hby own_d29_44) ?_
  refine XS.iand X0.here hx rfl (hb hby own_d29_46) rfl ?_
  refine XS.ifNo X0.here hx rfl (hb hby own_d29_47) rfl ((if0 _ _).trans (feq (own_lead_30 hle)).1) ?_
  refine XS.iloadN X0.here hx rfl (hb hby own_d29_50) rfl ?_
  refine XS.iloadN X0.here hx rfl (hb hby own_d29_51) rfl ?_
  refine XS.icmpNo X0.here hx rfl (hb hby own_d29_52) rfl (tlt (by decide : (1 : Int32) < (2 : Int32))).2.1 ?_
  refine XS.aloadN X0.here hx rfl (hb hby own_d29_55) rfl rfl ?_
  refine XS.iloadN X0.here hx rfl (hb hby own_d29_56) rfl ?_
  refine XS.iinc X0.here hx rfl (hb hby own_d29_57) rfl (l' := #[vr src, vi 2, vi 2, vr dst, vi 0, vi 1, vi x0, .unset, .unset, .unset, .unset]) rfl ?_
  exact k
 obtain ⟨cl2, Ar2, q2, S2, M2, H2, G2⟩ := id V_s
 refine own_st (T' := s₁) (g' := (mkF m 65 #[vr src, vi 2, vi 2, vr dst, vi 0, vi 1, vi x0, vi x1, .unset, .unset, .unset] [(.int x1)])) (fun t k => ?_) ?_
 ·refine X0.baloadBytes hx (j := (1 : Int32)) (v := (.int x1)) (by rw [e0]; exact Ar2.1) (State.isArrayOf_alike hZ.alike Ar2.2.1) Ar2.2.2 (inb_of S2 ⟨by decide, by decide⟩) (Has.at H2 (inb_of S2 ⟨by decide, by decide⟩) rfl) (g := (mkF m 60 #[vr src, vi 2, vi 2, vr dst, vi 0, vi 1, vi x0, .unset, .unset, .unset, .unset] [(.int 1), (.ref src)])) rfl rfl (hb hby own_d29_60) _ ?_
  refine XS.istore X0.here hx rfl (hb hby own_d29_61) rfl (l' := #[vr src, vi 2, vi 2, vr dst, vi 0, vi 1, vi x0, vi x1, .unset, .unset, .unset]) rfl ?_
  refine XS.iload X0.here hx rfl (hb hby own_d29_63) rfl ?_
  exact k
 obtain ⟨_, _, ⟨T3, L3, c3, n3⟩, -, X3, ⟨Lc3, hQ3, l3, y3, z3⟩, st3⟩ := Jvm.LawKit.callS X0 hx (y := own_y13) hown (om hZ hw 148 rfl) (om hZ hw 149 rfl) (om hZ hw 37 rfl) (om hZ hw 150 rfl) (by decide) (backOf (W := 0) (own_rm30 l Z a0 hw x1 cs fm u8 h0 n0 Z0 O0 (own_cont_c hco) HB) hZ (own_w hw 150 rfl) (own_w hw 37 rfl) (by decide) (by decide)) (g := (mkF m 65 #[vr src, vi 2, vi 2, vr dst, vi 0, vi 1, vi x0, vi x1, .unset, .unset, .unset] [(.int x1)])) rfl (by rw [hml]; rfl) (argsL := [(.int x1)]) (rest := []) (lenOf own_pd10 rfl) rfl (by show 2 * 0 + _ ≤ _; exact Nat.le_of_eq rfl) (hb hby own_d29_65) (fun _ _ => ⟨rfl, e0, (by decide : 0 + 0 ≤ _), (by decide : 0 + 0 ≤ _)⟩)
 dsimp only [Pt.U, Pt.locs, Pt.cells, Pt.slots] at X3 l3 y3 z3 st3 hQ3
 subst l3 y3 z3
 obtain ⟨rfl, N3q, e3⟩ := hQ3
 have N3 := Fr.app N0 N3q
 refine own_st (T' := T3) (g' := (mkF m 68 #[vr src, vi 2, vi 2, vr dst, vi 0, vi 1, vi x0, vi x1, .unset, .unset, .unset] [(.int 0)])) st3 ?_
 refine own_st (T' := T3) (g' := (mkF m 110 #[vr src, vi 2, vi 2, vr dst, vi 1, vi 1, vi x0, vi x1, .unset, .unset, .unset] [(.int x1), (.int x0), (.int 0), (.ref dst)])) (fun t k => ?_) ?_
 ·refine XS.ifYes X3.here hx rfl (pc0 := 68) (pc' := 100) rfl (hb hby own_d29_68) rfl ((if0 _ _).trans (teq (rfl : (0 : Int32) = (0 : Int32))).1) (by decide) (by decide) ?_
  refine XS.aloadN X3.here hx rfl (hb hby own_d29_100) rfl rfl ?_
  refine XS.iload X3.here hx rfl (hb hby own_d29_101) rfl ?_
  refine XS.iinc X3.here hx rfl (hb hby own_d29_103) rfl (l' := #[vr src, vi 2, vi 2, vr dst, vi 1, vi 1, vi x0, vi x1, .unset, .unset, .unset]) rfl ?_
  refine XS.iload X3.here hx rfl (hb hby own_d29_106) rfl ?_
  refine XS.iload X3.here hx rfl (hb hby own_d29_108) rfl ?_
  exact k
 obtain ⟨_, _, ⟨T4, L4, c4, n4⟩, -, X4, ⟨Lc4, hQ4, l4, y4, z4⟩, st4⟩ := Jvm.LawKit.callS X3 hx (y := own_y12) hown (om hZ hw 151 rfl) (om hZ hw 152 rfl) (om hZ hw 37 rfl) (om hZ hw 153 rfl) (by decide) (backOf (W := 2) (own_rm31 l Z a0 hw x0 x1 cs fm u8 h0 n0 Z0 O0 HB) hZ (own_w hw 153 rfl) (own_w hw 37 rfl) (by decide) (by decide)) (g := (mkF m 110 #[vr src, vi 2, vi 2, vr dst, vi 1, vi 1, vi x0, vi x1, .unset, .unset, .unset] [(.int x1), (.int x0), (.int 0), (.ref dst)])) rfl (by rw [hml]; rfl) (argsL := [(.int x0), (.int x1)]) (rest := [(.int 0), (.ref dst)]) (lenOf own_pd11 rfl) rfl (by show 2 * 0 + _ ≤ _; exact Nat.le_of_eq rfl) (hb hby own_d29_110) (fun _ _ => ⟨rfl, e3, (by decide : 0 + 0 ≤ _), (by decide : 0 + 0 ≤ _)⟩)
 dsimp only [Pt.U, Pt.locs, Pt.cells, Pt.slots] at X4 l4 y4 z4 st4 hQ4
 subst l4 y4 z4
 obtain ⟨rfl, N4q, e4⟩ := hQ4
 have N4 := Fr.app N3 N4q
 refine own_st (T' := T4) (g' := (mkF m 113 #[vr src, vi 2, vi 2, vr dst, vi 1, vi 1, vi x0, vi x1, .unset, .unset, .unset] [(.int (own_d2 x0 x1)), (.int 0), (.ref dst)])) st4 ?_
 obtain ⟨_, _, ⟨T5, L5, c5, n5⟩, -, X5, ⟨Lc5, hQ5, l5, y5, z5⟩, st5⟩ := Jvm.LawKit.callS X4 hx (y := own_y19) hown (om hZ hw 154 rfl) (om hZ hw 155 rfl) (om hZ hw 126 rfl) (om hZ hw 156 rfl) (by decide) (backOf (W := 0) (own_rm32_4_0 l Z a0 hw dst kd (0 : Int32) (0 : Int32) (0 : Int32) (0 : Int32) (own_d2 x0 x1) cs fm u8 h0 n0 Z0 O0 V_d g_d HB) hZ (own_w hw 156 rfl) (own_w hw 126 rfl) (by decide) (by decide)) (g := (mkF m 113 #[vr src, vi 2, vi 2, vr dst, vi 1, vi 1, vi x0, vi x1, .unset, .unset, .unset] [(.int (own_d2 x0 x1)), (.int 0), (.ref dst)])) rfl (by rw [hml]; rfl) (argsL := [(.ref dst), (.int 0), (.int (own_d2 x0 x1))]) (rest := []) (lenOf own_pd12 rfl) rfl (by show 2 * 0 + _ ≤ _; exact Nat.le_of_eq rfl) (hb hby own_d29_113) (fun _ _ => ⟨rfl, e4, (by decide : 0 + 0 ≤ _), (by decide : 0 + 0 ≤ _)⟩)
 dsimp only [Pt.U, Pt.locs, Pt.cells, Pt.slots] at X5 l5 y5 z5 st5 hQ5
 subst l5 y5 z5
 obtain ⟨h5, e5⟩ : ∃ z, T5.heap = z := ⟨_, rfl⟩
 rw [e5] at hQ5
 obtain ⟨rfl, N5q, Kc5, Vc5⟩ := hQ5
 have N5 := Fr.app N4 N5q
 have K5 : Keep h0 h5 [dst] := (Keep.refl h0 [dst]).trans Kc5 (allS (Or.inl (List.mem_of_getElem? (i := 0) rfl)) all0)
 have Z5 : n0 ≤ h5.size := Nat.le_trans Z0 Kc5.1
 have O5 := O0.keep Kc5 (allS g_d all0)
 refine own_st (T' := T5) (g' := (mkF m 116 #[vr src, vi 2, vi 2, vr dst, vi 1, vi 1, vi x0, vi x1, .unset, .unset, .unset] [])) st5 ?_
 refine own_st (T' := T5) (g' := (mkF m 623 #[vr src, vi 2, vi 2, vr dst, vi 1, vi 1, vi x0, vi x1, .unset, .unset, .unset] [(.int 1)])) (fun t k => ?_) ?_
 ·refine XS.goto X5.here hx rfl (pc0 := 116) (pc' := 0) rfl (hb hby own_d29_116) (by decide) (by decide) ?_
  refine XS.iloadN X5.here hx rfl (hb hby own_d29_0) rfl ?_
  refine XS.iloadN X5.here hx rfl (hb hby own_d29_1) rfl ?_
  refine XS.icmpYes X5.here hx rfl (pc0 := 2) (pc' := 621) rfl (hb hby own_d29_2) rfl (flt Int32.lt_irrefl).2.1 (by decide) (by decide) ?_
  refine XS.iload X5.here hx rfl (hb hby own_d29_621) rfl ?_
  exact k
 exact own_retI X5 hx Bd (hb hby own_d29_623) e5 (⟨rfl, N5, K5, Vc5⟩) (by decide) (by decide)
def own_r29_3 : Room := { frames := 1, cells := 0, slots := 0, locals := 15 }
def own_Q29_3 (Z : State) (src dst : Addr) (ks kd : ClassId) (x0 x1 x2 : Int32) (cs : Int32) (fm : Value) (u8 : Addr) (h0 : Heap) (n0 : Nat) : Option Value → Heap → List Loc → Prop := fun v h L => v = some (.int 2) ∧ Fr n0 L ∧ Keep h0 h [dst] ∧ Arv Z h dst kd .byte (6 : Int32) [(.int (((own_d2 x0 x1) >>> ((0 : Int32) &&& 31)).toInt8.toInt32)), (.int (((own_d2 x0 x1) >>> ((8 : Int32) &&& 31)).toInt8.toInt32)), (.int (((x2.toUInt32.toUInt16.toUInt32.toInt32) >>> ((0 : Int32) &&& 31)).toInt8.toInt32)), (.int (((x2.toUInt32.toUInt16.toUInt32.toInt32) >>> ((8 : Int32) &&& 31)).toInt8.toInt32)), (.int 0), (.int 0)] (.int 0)
theorem own_rm29_3 (l : Launch) (Z : State) (a0 : Array Value) (hw : own_W a0 Z) (src dst : Addr) (ks kd : ClassId) (x0 x1 x2 : Int32) (cs : Int32) (fm : Value) (u8 : Addr) (h0 : Heap) (n0 : Nat) (Z0 : n0 ≤ h0.size) (O0 : Old Z n0 h0) (V_s : Arv Z h0 src ks .byte (3 : Int32) [(.int x0), (.int x1), (.int x2)] (.int 0)) (V_d : Arv Z h0 dst kd .byte (6 : Int32) [(.int 0), (.int 0), (.int 0), (.int 0), (.int 0), (.int 0)] (.int 0)) (g_d : n0 ≤ dst) (nsd : src ≠ dst) (hle : own_lead x0) (hco : own_cont x1) (ha2 : ¬ x2 < (0 : Int32)) (HB : own_BB Z cs fm u8) :
  own_MF l Z own_y20 (Jvm.Cond.code own_y20 jdk_42_method_38_code 11 (some .int)) [] own_r29_3 #[(.ref src), (.int 0), (.int 3), (.ref dst), (.int 0), (.int 1)] h0 (own_Q29_3 Z src dst ks kd x0 x1 x2 cs fm u8 h0 n0) := by
 refine own_open (plainFor_of_name own_pn1) hisR (Ls := #[vr src, vi 0, vi 3, vr dst, vi 0, vi 1, .unset, .unset, .unset, .unset, .unset]) ?_
 intro p e s m below meth c s₁ Bd hZ hx hby hml hown X0 e0
 have N0 := Fr.nil n0
 refine own_st (T' := s₁) (g' := (mkF m 10 #[vr src, vi 1, vi 3, vr dst, vi 0, vi 1, .unset, .unset, .unset, .unset, .unset] [(.int 0), (.ref src)])) (fun t k => ?_) ?_
 ·refine XS.iloadN X0.here hx rfl (hb hby own_d29_0) rfl ?_
  refine XS.iloadN X0.here hx rfl (hb hby own_d29_1) rfl ?_
  refine XS.icmpNo X0.here hx rfl (hb hby own_d29_2) rfl (tlt (by decide : (0 : Int32) < (3 : Int32))).2.1 ?_
  refine XS.aloadN X0.here hx rfl (hb hby own_d29_5) rfl rfl ?_
  refine XS.iloadN X0.here hx rfl (hb hby own_d29_6) rfl ?_
  refine XS.iinc X0.here hx rfl (hb hby own_d29_7) rfl (l' := #[vr src, vi 1, vi 3, vr dst, vi 0, vi 1, .unset, .unset, .unset, .unset, .unset]) rfl ?_
  exact k
 obtain ⟨cl1, Ar1, q1, S1, M1, H1, G1⟩ := id V_s
 refine own_st (T' := s₁) (g' := (mkF m 60 #[vr src, vi 2, vi 3, vr dst, vi 0, vi 1, vi x0, .unset, .unset, .unset, .unset] [(.int 1), (.ref src)])) (fun t k => ?_) ?_
 ·refine X0.baloadBytes hx (j := (0 : Int32)) (v := (.int x0)) (by rw [e0]; exact Ar1.1) (State.isArrayOf_alike hZ.alike Ar1.2.1) Ar1.2.2 (inb_of S1 ⟨by decide, by decide⟩) (Has.at H1 (inb_of S1 ⟨by decide, by decide⟩) rfl) (g := (mkF m 10 #[vr src, vi 1, vi 3, vr dst, vi 0, vi 1, .unset, .unset, .unset, .unset, .unset] [(.int 0), (.ref src)])) rfl rfl (hb hby own_d29_10) _ ?_
  refine XS.istore X0.here hx rfl (hb hby own_d29_11) rfl (l' := #[vr src, vi 1, vi 3, vr dst, vi 0, vi 1, vi x0, .unset, .unset, .unset, .unset]) rfl ?_
  refine XS.iload X0.here hx rfl (hb hby own_d29_13) rfl ?_
  refine XS.ifYes X0.here hx rfl (pc0 := 15) (pc' := 33) rfl (hb hby own_d29_15) rfl ((if0 _ _).trans (tlt (own_lead_neg hle)).1) (by decide) (by decide) ?_
  refine XS.iload X0.here hx rfl (hb hby own_d29_33) rfl ?_
  refine XS.iconst X0.here hx rfl (hb hby own_d29_35) ?_
  refine XS.ishr X0.here hx rfl (hb hby own_d29_36) rfl ?_
  refine XS.bipush X0.here hx rfl (hb hby own_d29_37) ?_
  refine XS.icmpNo X0.here hx rfl (hb hby own_d29_39) rfl (teq (own_lead_5 hle)).2 ?_
  refine XS.iload X0.here hx rfl (hb hby own_d29_42) rfl ?_
  refine XS.bipush X0.here hx rfl (hb hby own_d29_44) ?_
  refine XS.iand X0.here hx rfl (hb hby own_d29_46) rfl ?_
  refine XS.ifNo X0.here hx rfl (hb hby own_d29_47) rfl ((if0 _ _).trans (feq (own_lead_30 hle)).1) ?_
  refine XS.iloadN X0.here hx rfl (hb hby own_d29_50) rfl ?_
  refine XS.iloadN X0.here hx rfl (hb hby own_d29_51) rfl ?_
  refine XS.icmpNo X0.here hx rfl (hb hby own_d29_52) rfl (tlt (by decide : (1 : Int32) < (3 : Int32))).2.1 ?_
  refine XS.aloadN X0.here hx rfl (hb hby own_d29_55) rfl rfl ?_
  refine XS.iloadN X0.here hx rfl (hb hby own_d29_56) rfl ?_
  refine XS.iinc X0.here hx rfl (hb hby own_d29_57) rfl (l' := #[vr src, vi 2, vi 3, vr dst, vi 0, vi 1, vi x0, .unset, .unset, .unset, .unset]) rfl ?_
  exact k
 obtain ⟨cl2, Ar2, q2, S2, M2, H2, G2⟩ := id V_s
 refine own_st (T' := s₁) (g' := (mkF m 65 #[vr src, vi 2, vi 3, vr dst, vi 0, vi 1, vi x0, vi x1, .unset, .unset, .unset] [(.int x1)])) (fun t k => ?_) ?_
 ·refine X0.baloadBytes hx (j := (1 : Int32)) (v := (.int x1)) (by rw [e0]; exact Ar2.1) (State.isArrayOf_alike hZ.alike Ar2.2.1) Ar2.2.2 (inb_of S2 ⟨by decide, by decide⟩) (Has.at H2 (inb_of S2 ⟨by decide, by decide⟩) rfl) (g := (mkF m 60 #[vr src, vi 2, vi 3, vr dst, vi 0, vi 1, vi x0, .unset, .unset, .unset, .unset] [(.int 1), (.ref src)])) rfl rfl (hb hby own_d29_60) _ ?_
  refine XS.istore X0.here hx rfl (hb hby own_d29_61) rfl (l' := #[vr src, vi 2, vi 3, vr dst, vi 0, vi 1, vi x0, vi x1, .unset, .unset, .unset]) rfl ?_
  refine XS.iload X0.here hx rfl (hb hby own_d29_63) rfl ?_
  exact k
 obtain ⟨_, _, ⟨T3, L3, c3, n3⟩, -, X3, ⟨Lc3, hQ3, l3, y3, z3⟩, st3⟩ := Jvm.LawKit.callS X0 hx (y := own_y13) hown (om hZ hw 148 rfl) (om hZ hw 149 rfl) (om hZ hw 37 rfl) (om hZ hw 150 rfl) (by decide) (backOf (W := 0) (own_rm30 l Z a0 hw x1 cs fm u8 h0 n0 Z0 O0 (own_cont_c hco) HB) hZ (own_w hw 150 rfl) (own_w hw 37 rfl) (by decide) (by decide)) (g := (mkF m 65 #[vr src, vi 2, vi 3, vr dst, vi 0, vi 1, vi x0, vi x1, .unset, .unset, .unset] [(.int x1)])) rfl (by rw [hml]; rfl) (argsL := [(.int x1)]) (rest := []) (lenOf own_pd10 rfl) rfl (by show 2 * 0 + _ ≤ _; exact Nat.le_of_eq rfl) (hb hby own_d29_65) (fun _ _ => ⟨rfl, e0, (by decide : 0 + 0 ≤ _), (by decide : 0 + 0 ≤ _)⟩)
 dsimp only [Pt.U, Pt.locs, Pt.cells, Pt.slots] at X3 l3 y3 z3 st3 hQ3
 subst l3 y3 z3
 obtain ⟨rfl, N3q, e3⟩ := hQ3
 have N3 := Fr.app N0 N3q
 refine own_st (T' := T3) (g' := (mkF m 68 #[vr src, vi 2, vi 3, vr dst, vi 0, vi 1, vi x0, vi x1, .unset, .unset, .unset] [(.int 0)])) st3 ?_
 refine own_st (T' := T3) (g' := (mkF m 110 #[vr src, vi 2, vi 3, vr dst, vi 1, vi 1, vi x0, vi x1, .unset, .unset, .unset] [(.int x1), (.int x0), (.int 0), (.ref dst)])) (fun t k => ?_) ?_
 ·refine XS.ifYes X3.here hx rfl (pc0 := 68) (pc' := 100) rfl (hb hby own_d29_68) rfl ((if0 _ _).trans (teq (rfl : (0 : Int32) = (0 : Int32))).1) (by decide) (by decide) ?_
  refine XS.aloadN X3.here hx rfl (hb hby own_d29_100) rfl rfl ?_
  refine XS.iload X3.here hx rfl (hb hby own_d29_101) rfl ?_
  refine XS.iinc X3.here hx rfl (hb hby own_d29_103) rfl (l' := #[vr src, vi 2, vi 3, vr dst, vi 1, vi 1, vi x0, vi x1, .unset, .unset, .unset]) rfl ?_
  refine XS.iload X3.here hx rfl (hb hby own_d29_106) rfl ?_
  refine XS.iload X3.here hx rfl (hb hby own_d29_108) rfl ?_
  exact k
 obtain ⟨_, _, ⟨T4, L4, c4, n4⟩, -, X4, ⟨Lc4, hQ4, l4, y4, z4⟩, st4⟩ := Jvm.LawKit.callS X3 hx (y := own_y12) hown (om hZ hw 151 rfl) (om hZ hw 152 rfl) (om hZ hw 37 rfl) (om hZ hw 153 rfl) (by decide) (backOf (W := 2) (own_rm31 l Z a0 hw x0 x1 cs fm u8 h0 n0 Z0 O0 HB) hZ (own_w hw 153 rfl) (own_w hw 37 rfl) (by decide) (by decide)) (g := (mkF m 110 #[vr src, vi 2, vi 3, vr dst, vi 1, vi 1, vi x0, vi x1, .unset, .unset, .unset] [(.int x1), (.int x0), (.int 0), (.ref dst)])) rfl (by rw [hml]; rfl) (argsL := [(.int x0), (.int x1)]) (rest := [(.int 0), (.ref dst)]) (lenOf own_pd11 rfl) rfl (by show 2 * 0 + _ ≤ _; exact Nat.le_of_eq rfl) (hb hby own_d29_110) (fun _ _ => ⟨rfl, e3, (by decide : 0 + 0 ≤ _), (by decide : 0 + 0 ≤ _)⟩)
 dsimp only [Pt.U, Pt.locs, Pt.cells, Pt.slots] at X4 l4 y4 z4 st4 hQ4
 subst l4 y4 z4
 obtain ⟨rfl, N4q, e4⟩ := hQ4
 have N4 := Fr.app N3 N4q
 refine own_st (T' := T4) (g' := (mkF m 113 #[vr src, vi 2, vi 3, vr dst, vi 1, vi 1, vi x0, vi x1, .unset, .unset, .unset] [(.int (own_d2 x0 x1)), (.int 0), (.ref dst)])) st4 ?_
 obtain ⟨_, _, ⟨T5, L5, c5, n5⟩, -, X5, ⟨Lc5, hQ5, l5, y5, z5⟩, st5⟩ := Jvm.LawKit.callS X4 hx (y := own_y19) hown (om hZ hw 154 rfl) (om hZ hw 155 rfl) (om hZ hw 126 rfl) (om hZ hw 156 rfl) (by decide) (backOf (W := 0) (own_rm32_6_0 l Z a0 hw dst kd (0 : Int32) (0 : Int32) (0 : Int32) (0 : Int32) (0 : Int32) (0 : Int32) (own_d2 x0 x1) cs fm u8 h0 n0 Z0 O0 V_d g_d HB) hZ (own_w hw 156 rfl) (own_w hw 126 rfl) (by decide) (by decide)) (g := (mkF m 113 #[vr src, vi 2, vi 3, vr dst, vi 1, vi 1, vi x0, vi x1, .unset, .unset, .unset] [(.int (own_d2 x0 x1)), (.int 0), (.ref dst)])) rfl (by rw [hml]; rfl) (argsL := [(.ref dst), (.int 0), (.int (own_d2 x0 x1))]) (rest := []) (lenOf own_pd12 rfl) rfl (by show 2 * 0 + _ ≤ _; exact Nat.le_of_eq rfl) (hb hby own_d29_113) (fun _ _ => ⟨rfl, e4, (by decide : 0 + 0 ≤ _), (by decide : 0 + 0 ≤ _)⟩)
 dsimp only [Pt.U, Pt.locs, Pt.cells, Pt.slots] at X5 l5 y5 z5 st5 hQ5
 subst l5 y5 z5
 obtain ⟨h5, e5⟩ : ∃ z, T5.heap = z := ⟨_, rfl⟩
 rw [e5] at hQ5
 obtain ⟨rfl, N5q, Kc5, Vc5⟩ := hQ5
 have N5 := Fr.app N4 N5q
 have K5 : Keep h0 h5 [dst] := (Keep.refl h0 [dst]).trans Kc5 (allS (Or.inl (List.mem_of_getElem? (i := 0) rfl)) all0)
 have Z5 : n0 ≤ h5.size := Nat.le_trans Z0 Kc5.1
 have O5 := O0.keep Kc5 (allS g_d all0)
 refine own_st (T' := T5) (g' := (mkF m 116 #[vr src, vi 2, vi 3, vr dst, vi 1, vi 1, vi x0, vi x1, .unset, .unset, .unset] [])) st5 ?_
 refine own_st (T' := T5) (g' := (mkF m 10 #[vr src, vi 3, vi 3, vr dst, vi 1, vi 1, vi x0, vi x1, .unset, .unset, .unset] [(.int 2), (.ref src)])) (fun t k => ?_) ?_
 ·refine XS.goto X5.here hx rfl (pc0 := 116) (pc' := 0) rfl (hb hby own_d29_116) (by decide) (by decide) ?_
  refine XS.iloadN X5.here hx rfl (hb hby own_d29_0) rfl ?_
  refine XS.iloadN X5.here hx rfl (hb hby own_d29_1) rfl ?_
  refine XS.icmpNo X5.here hx rfl (hb hby own_d29_2) rfl (tlt (by decide : (2 : Int32) < (3 : Int32))).2.1 ?_
  refine XS.aloadN X5.here hx rfl (hb hby own_d29_5) rfl rfl ?_
  refine XS.iloadN X5.here hx rfl (hb hby own_d29_6) rfl ?_
  refine XS.iinc X5.here hx rfl (hb hby own_d29_7) rfl (l' := #[vr src, vi 3, vi 3, vr dst, vi 1, vi 1, vi x0, vi x1, .unset, .unset, .unset]) rfl ?_
  exact k
 have f6 := V_s.keep Kc5 (ninS nsd nin0)
 obtain ⟨cl7, Ar7, q7, S7, M7, H7, G7⟩ := id f6
 refine own_st (T' := T5) (g' := (mkF m 27 #[vr src, vi 3, vi 3, vr dst, vi 2, vi 1, vi x2, vi x1, .unset, .unset, .unset] [(.int (x2.toUInt32.toUInt16.toUInt32.toInt32)), (.int 1), (.ref dst)])) (fun t k => ?_) ?_
 ·refine X5.baloadBytes hx (j := (2 : Int32)) (v := (.int x2)) (by rw [e5]; exact Ar7.1) (State.isArrayOf_alike hZ.alike Ar7.2.1) Ar7.2.2 (inb_of S7 ⟨by decide, by decide⟩) (Has.at H7 (inb_of S7 ⟨by decide, by decide⟩) rfl) (g := (mkF m 10 #[vr src, vi 3, vi 3, vr dst, vi 1, vi 1, vi x0, vi x1, .unset, .unset, .unset] [(.int 2), (.ref src)])) rfl rfl (hb hby own_d29_10) _ ?_
  refine XS.istore X5.here hx rfl (hb hby own_d29_11) rfl (l' := #[vr src, vi 3, vi 3, vr dst, vi 1, vi 1, vi x2, vi x1, .unset, .unset, .unset]) rfl ?_
  refine XS.iload X5.here hx rfl (hb hby own_d29_13) rfl ?_
  refine XS.ifNo X5.here hx rfl (hb hby own_d29_15) rfl ((if0 _ _).trans (flt ha2).1) ?_
  refine XS.aloadN X5.here hx rfl (hb hby own_d29_18) rfl rfl ?_
  refine XS.iload X5.here hx rfl (hb hby own_d29_19) rfl ?_
  refine XS.iinc X5.here hx rfl (hb hby own_d29_21) rfl (l' := #[vr src, vi 3, vi 3, vr dst, vi 2, vi 1, vi x2, vi x1, .unset, .unset, .unset]) rfl ?_
  refine XS.iload X5.here hx rfl (hb hby own_d29_24) rfl ?_
  refine XS.i2c X5.here hx rfl (hb hby own_d29_26) rfl ?_
  exact k
 obtain ⟨_, _, ⟨T8, L8, c8, n8⟩, -, X8, ⟨Lc8, hQ8, l8, y8, z8⟩, st8⟩ := Jvm.LawKit.callS X5 hx (y := own_y19) hown (om hZ hw 154 rfl) (om hZ hw 155 rfl) (om hZ hw 126 rfl) (om hZ hw 156 rfl) (by decide) (backOf (W := 0) (own_rm32_6_1 l Z a0 hw dst kd (((own_d2 x0 x1) >>> ((0 : Int32) &&& 31)).toInt8.toInt32) (((own_d2 x0 x1) >>> ((8 : Int32) &&& 31)).toInt8.toInt32) (0 : Int32) (0 : Int32) (0 : Int32) (0 : Int32) (x2.toUInt32.toUInt16.toUInt32.toInt32) cs fm u8 h5 n0 Z5 O5 Vc5 g_d HB) hZ (own_w hw 156 rfl) (own_w hw 126 rfl) (by decide) (by decide)) (g := (mkF m 27 #[vr src, vi 3, vi 3, vr dst, vi 2, vi 1, vi x2, vi x1, .unset, .unset, .unset] [(.int (x2.toUInt32.toUInt16.toUInt32.toInt32)), (.int 1), (.ref dst)])) rfl (by rw [hml]; rfl) (argsL := [(.ref dst), (.int 1), (.int (x2.toUInt32.toUInt16.toUInt32.toInt32))]) (rest := []) (lenOf own_pd12 rfl) rfl (by show 2 * 0 + _ ≤ _; exact Nat.le_of_eq rfl) (hb hby own_d29_27) (fun _ _ => ⟨rfl, e5, (by decide : 0 + 0 ≤ _), (by decide : 0 + 0 ≤ _)⟩)
 dsimp only [Pt.U, Pt.locs, Pt.cells, Pt.slots] at X8 l8 y8 z8 st8 hQ8
 subst l8 y8 z8
 obtain ⟨h8, e8⟩ : ∃ z, T8.heap = z := ⟨_, rfl⟩
 rw [e8] at hQ8
 obtain ⟨rfl, N8q, Kc8, Vc8⟩ := hQ8
 have N8 := Fr.app N5 N8q
 have K8 : Keep h0 h8 [dst] := K5.trans Kc8 (allS (Or.inl (List.mem_of_getElem? (i := 0) rfl)) all0)
 have Z8 : n0 ≤ h8.size := Nat.le_trans Z5 Kc8.1
 have O8 := O5.keep Kc8 (allS g_d all0)
 refine own_st (T' := T8) (g' := (mkF m 30 #[vr src, vi 3, vi 3, vr dst, vi 2, vi 1, vi x2, vi x1, .unset, .unset, .unset] [])) st8 ?_
 refine own_st (T' := T8) (g' := (mkF m 623 #[vr src, vi 3, vi 3, vr dst, vi 2, vi 1, vi x2, vi x1, .unset, .unset, .unset] [(.int 2)])) (fun t k => ?_) ?_
 ·refine XS.goto X8.here hx rfl (pc0 := 30) (pc' := 618) rfl (hb hby own_d29_30) (by decide) (by decide) ?_
  refine XS.goto X8.here hx rfl (pc0 := 618) (pc' := 0) rfl (hb hby own_d29_618) (by decide) (by decide) ?_
  refine XS.iloadN X8.here hx rfl (hb hby own_d29_0) rfl ?_
  refine XS.iloadN X8.here hx rfl (hb hby own_d29_1) rfl ?_
  refine XS.icmpYes X8.here hx rfl (pc0 := 2) (pc' := 621) rfl (hb hby own_d29_2) rfl (flt Int32.lt_irrefl).2.1 (by decide) (by decide) ?_
  refine XS.iload X8.here hx rfl (hb hby own_d29_621) rfl ?_
  exact k
 exact own_retI X8 hx Bd (hb hby own_d29_623) e8 (⟨rfl, N8, K8, Vc8⟩) (by decide) (by decide)
def own_r10a1 : Room := { frames := 3, cells := 1, slots := 1, locals := 49 }
def own_Q10a1 (Z : State) (b : Addr) (arr : Addr) (ka : ClassId) (y0 y1 y2 y3 y4 y5 y6 y7 st x0 x1 x2 : Int32) (cs : Int32) (fm : Value) (u8 : Addr) (h0 : Heap) (n0 : Nat) : Option Value → Heap → List Loc → Prop := fun v h L => ∃ t k, v = none ∧ Fr n0 L ∧ Keep h0 h [b] ∧ n0 ≤ t ∧ h0.size ≤ t ∧ Fld Z h b "java/lang/String" "value" "[B" (.ref t) ∧ Fld Z h b "java/lang/String" "coder" "B" (.int 0) ∧ Arv Z h t k .byte (1 : Int32) [(.int x0)] (.int 0)
theorem own_rm10a1 (l : Launch) (Z : State) (a0 : Array Value) (hw : own_W a0 Z) (b : Addr) (arr : Addr) (ka : ClassId) (y0 y1 y2 y3 y4 y5 y6 y7 st x0 x1 x2 : Int32) (cs : Int32) (fm : Value) (u8 : Addr) (h0 : Heap) (n0 : Nat) (Z0 : n0 ≤ h0.size) (O0 : Old Z n0 h0) (E_b : Exa Z h0 b "java/lang/String") (F_v : Fld Z h0 b "java/lang/String" "value" "[B" .null) (F_c : Fld Z h0 b "java/lang/String" "coder" "B" (.int 0)) (g_b : n0 ≤ b) (V_a : Arv Z h0 arr ka .byte (8 : Int32) [(.int y0), (.int y1), (.int y2), (.int y3), (.int y4), (.int y5), (.int y6), (.int y7)] (.int 0)) (hYX : own_YX y0 y1 y2 y3 y4 y5 y6 y7 st x0 x1 x2) (nba : b ≠ arr) (ha0 : ¬ x0 < (0 : Int32)) (HB : own_BB Z cs fm u8) :
  own_MF l Z own_y21 (Jvm.Cond.codeWith own_y21 jdk_42_method_11_code 11 none [((800 : Nat), (813 : Nat), (816 : Nat), (202 : Nat))]) [] own_r10a1 #[(.ref b), (.ref u8), (.ref arr), (.int st), (.int 1)] h0 (own_Q10a1 Z b arr ka y0 y1 y2 y3 y4 y5 y6 y7 st x0 x1 x2 cs fm u8 h0 n0) := by
 refine own_open (plainFor_of_name own_pn1) hisWith (Ls := #[vr b, vr u8, vr arr, vi st, vi 1, .unset, .unset, .unset, .unset, .unset, .unset]) ?_
 intro p e s m below meth c s₁ Bd hZ hx hby hml hown X0 e0
 obtain ⟨hcs, -, S_cs, -, -, -, -, -, S_ui, E_u8⟩ := id HB
 have N0 := Fr.nil n0
 have hnm := (name_of_methodNamed Bd.named Bd.method).1
 obtain ⟨ho, hx0, hx1, hx2⟩ := id hYX
 refine own_st (T' := s₁) (g' := (mkF m 1 #[vr b, vr u8, vr arr, vi st, vi 1, .unset, .unset, .unset, .unset, .unset, .unset] [(.ref b)])) (fun t k => ?_) ?_
 ·refine XS.aloadN X0.here hx rfl (hb hby own_d10_0) rfl rfl ?_
  exact k
 obtain ⟨T1, X1, e1, st1⟩ := initO X0 hx hZ hown (own_w hw 64 rfl) (own_w hw 14 rfl) (own_w hw 15 rfl) e0 (g := (mkF m 1 #[vr b, vr u8, vr arr, vi st, vi 1, .unset, .unset, .unset, .unset, .unset, .unset] [(.ref b)])) rfl (by rw [hml]; rfl) rfl (hb hby own_d10_1) (by decide) (W := 0) (by show 2 * 0 + _ ≤ _; exact Nat.le_of_eq rfl) (by decide)
 refine own_st (T' := T1) (g' := (mkF m 4 #[vr b, vr u8, vr arr, vi st, vi 1, .unset, .unset, .unset, .unset, .unset, .unset] [])) st1 ?_
 refine own_st (T' := T1) (g' := (mkF m 31 #[vr b, vr u8, vr arr, vi st, vi 1, .unset, .unset, .unset, .unset, .unset, .unset] [(.ref u8)])) (fun t k => ?_) ?_
 ·refine XS.iload X1.here hx rfl (hb hby own_d10_4) rfl ?_
  refine XS.ifYes X1.here hx rfl (pc0 := 6) (pc' := 30) rfl (hb hby own_d10_6) rfl ((if0 _ _).trans (feq (by decide : ¬ ((1 : Int32) = (0 : Int32)))).2) (by decide) (by decide) ?_
  refine XS.aloadN X1.here hx rfl (hb hby own_d10_30) rfl rfl ?_
  exact k
 have f2 := S_ui.ext O0.2
 obtain ⟨T3, X3, e3, st3⟩ := getS2 X1 hx hZ hown (host := "") (Or.inl (own_w hw 65 rfl)) Via.refl e1 f2 (g := (mkF m 31 #[vr b, vr u8, vr arr, vi st, vi 1, .unset, .unset, .unset, .unset, .unset, .unset] [(.ref u8)])) rfl (hb hby own_d10_31)
 refine own_st (T' := T3) (g' := (mkF m 34 #[vr b, vr u8, vr arr, vi st, vi 1, .unset, .unset, .unset, .unset, .unset, .unset] [(.ref u8), (.ref u8)])) st3 ?_
 refine own_st (T' := T3) (g' := (mkF m 37 #[vr b, vr u8, vr arr, vi st, vi 1, .unset, .unset, .unset, .unset, .unset, .unset] [])) (fun t k => ?_) ?_
 ·refine Jvm.RoadKit.acmp (g := (mkF m 34 #[vr b, vr u8, vr arr, vi st, vi 1, .unset, .unset, .unset, .unset, .unset, .unset] [(.ref u8), (.ref u8)])) X3 hx rfl rfl rfl (pc0 := 34) (pc' := 37) (same := true) rfl (hb hby own_d10_34) rfl (decide_eq_true (congrArg Value.ref (rfl : u8 = u8))) (by decide) (by decide) ?_
  exact k
 have f4 := S_cs.ext O0.2
 obtain ⟨T5, X5, e5, st5⟩ := getS2 X3 hx hZ hown (host := "") (Or.inl (own_w hw 67 rfl)) Via.refl e3 f4 (g := (mkF m 37 #[vr b, vr u8, vr arr, vi st, vi 1, .unset, .unset, .unset, .unset, .unset, .unset] [])) rfl (hb hby own_d10_37)
 refine own_st (T' := T5) (g' := (mkF m 40 #[vr b, vr u8, vr arr, vi st, vi 1, .unset, .unset, .unset, .unset, .unset, .unset] [(.int cs)])) st5 ?_
 refine own_st (T' := T5) (g' := (mkF m 47 #[vr b, vr u8, vr arr, vi st, vi 1, .unset, .unset, .unset, .unset, .unset, .unset] [(.int 1), (.int st), (.ref arr)])) (fun t k => ?_) ?_
 ·refine XS.ifNo X5.here hx rfl (hb hby own_d10_40) rfl ((if0 _ _).trans (feq hcs).1) ?_
  refine XS.aloadN X5.here hx rfl (hb hby own_d10_43) rfl rfl ?_
  refine XS.iloadN X5.here hx rfl (hb hby own_d10_44) rfl ?_
  refine XS.iload X5.here hx rfl (hb hby own_d10_45) rfl ?_
  exact k
 obtain ⟨_, _, ⟨T6, L6, c6, n6⟩, -, X6, ⟨Lc6, hQ6, l6, y6, z6⟩, st6⟩ := Jvm.LawKit.callS X5 hx (y := own_y6) hown (om hZ hw 68 rfl) (om hZ hw 69 rfl) (om hZ hw 70 rfl) (om hZ hw 71 rfl) (by decide) (backOf (W := 0) (own_rm11a1 l Z a0 hw arr ka y0 y1 y2 y3 y4 y5 y6 y7 st x0 x1 x2 cs fm u8 h0 n0 Z0 O0 V_a ⟨ho, hx0, hx1, hx2⟩ ha0 HB) hZ (own_w hw 71 rfl) (own_w hw 70 rfl) (by decide) (by decide)) (g := (mkF m 47 #[vr b, vr u8, vr arr, vi st, vi 1, .unset, .unset, .unset, .unset, .unset, .unset] [(.int 1), (.int st), (.ref arr)])) rfl (by rw [hml]; rfl) (argsL := [(.ref arr), (.int st), (.int 1)]) (rest := []) (lenOf own_pd13 rfl) rfl (by show 2 * 0 + _ ≤ _; exact Nat.le_of_eq rfl) (hb hby own_d10_47) (fun _ _ => ⟨rfl, e5, (by decide : 0 + 0 ≤ _), (by decide : 0 + 0 ≤ _)⟩)
 dsimp only [Pt.U, Pt.locs, Pt.cells, Pt.slots] at X6 l6 y6 z6 st6 hQ6
 subst l6 y6 z6
 obtain ⟨rfl, N6q, e6⟩ := hQ6
 have N6 := Fr.app N0 N6q
 refine own_st (T' := T6) (g' := (mkF m 50 #[vr b, vr u8, vr arr, vi st, vi 1, .unset, .unset, .unset, .unset, .unset, .unset] [(.int 1)])) st6 ?_
 refine own_st (T' := T6) (g' := (mkF m 66 #[vr b, vr u8, vr arr, vi st, vi 1, vi 1, .unset, .unset, .unset, .unset, .unset] [(.int (st + (1 : Int32))), (.int st), (.ref arr), (.ref b)])) (fun t k => ?_) ?_
 ·refine XS.istore X6.here hx rfl (hb hby own_d10_50) rfl (l' := #[vr b, vr u8, vr arr, vi st, vi 1, vi 1, .unset, .unset, .unset, .unset, .unset]) rfl ?_
  refine XS.iload X6.here hx rfl (hb hby own_d10_52) rfl ?_
  refine XS.iload X6.here hx rfl (hb hby own_d10_54) rfl ?_
  refine XS.icmpNo X6.here hx rfl (hb hby own_d10_56) rfl (teq (rfl : (1 : Int32) = (1 : Int32))).2 ?_
  refine XS.aloadN X6.here hx rfl (hb hby own_d10_59) rfl rfl ?_
  refine XS.aloadN X6.here hx rfl (hb hby own_d10_60) rfl rfl ?_
  refine XS.iloadN X6.here hx rfl (hb hby own_d10_61) rfl ?_
  refine XS.iloadN X6.here hx rfl (hb hby own_d10_62) rfl ?_
  refine XS.iload X6.here hx rfl (hb hby own_d10_63) rfl ?_
  refine XS.iadd X6.here hx rfl (hb hby own_d10_65) rfl ?_
  exact k
 obtain ⟨_, _, ⟨T7, L7, c7, n7⟩, -, X7, ⟨Lc7, hQ7, l7, y7, z7⟩, st7⟩ := Jvm.LawKit.callS X6 hx (y := own_y9) hown (om hZ hw 72 rfl) (om hZ hw 73 rfl) (om hZ hw 74 rfl) (om hZ hw 75 rfl) (by decide) (backOf (W := 1) (own_rm12_1 l Z a0 hw arr ka y0 y1 y2 y3 y4 y5 y6 y7 st x0 x1 x2 cs fm u8 h0 n0 Z0 O0 V_a ⟨ho, hx0, hx1, hx2⟩ HB) hZ (own_w hw 75 rfl) (own_w hw 74 rfl) (by decide) (by decide)) (g := (mkF m 66 #[vr b, vr u8, vr arr, vi st, vi 1, vi 1, .unset, .unset, .unset, .unset, .unset] [(.int (st + (1 : Int32))), (.int st), (.ref arr), (.ref b)])) rfl (by rw [hml]; rfl) (argsL := [(.ref arr), (.int st), (.int (st + (1 : Int32)))]) (rest := [(.ref b)]) (lenOf own_pd4 rfl) rfl (by show 2 * 0 + _ ≤ _; exact Nat.le_of_eq rfl) (hb hby own_d10_66) (fun _ _ => ⟨rfl, e6, (by decide : 0 + 1 ≤ _), (by decide : 0 + 1 ≤ _)⟩)
 dsimp only [Pt.U, Pt.locs, Pt.cells, Pt.slots] at X7 l7 y7 z7 st7 hQ7
 subst l7 y7 z7
 obtain ⟨h7, e7⟩ : ∃ z, T7.heap = z := ⟨_, rfl⟩
 rw [e7] at hQ7
 obtain ⟨r7, k7, rfl, N7q, Kc7, g7, hz7, Vc7⟩ := hQ7
 have N7 := Fr.app N6 N7q
 have ne_b_r7 : b ≠ r7 := Nat.ne_of_lt (Nat.lt_of_lt_of_le E_b.lt hz7)
 have ne_arr_r7 : arr ≠ r7 := Nat.ne_of_lt (Nat.lt_of_lt_of_le V_a.lt hz7)
 have f8 := E_u8.ext O0.2
 have ne_u8_r7 : u8 ≠ r7 := Nat.ne_of_lt (Nat.lt_of_lt_of_le f8.lt hz7)
 have hwr7 : h0.size ≤ r7 := Nat.le_trans (Keep.refl h0 [b]).1 hz7
 have K7 : Keep h0 h7 [b] := (Keep.refl h0 [b]).trans Kc7 all0
 have Z7 : n0 ≤ h7.size := Nat.le_trans Z0 Kc7.1
 have O7 := O0.keep Kc7 all0
 refine own_st (T' := T7) (g' := (mkF m 69 #[vr b, vr u8, vr arr, vi st, vi 1, vi 1, .unset, .unset, .unset, .unset, .unset] [(.ref r7), (.ref b)])) st7 ?_
 have f9 := F_v.keep Kc7 nin0
 have f10 := E_b.keep Kc7
 obtain ⟨T11, h11, X11, e11, W11, st11⟩ := putF X7 hx hZ hown (host := "") (Or.inl (own_w hw 87 rfl)) Via.refl e7 f9 f10 (Or.inr ⟨(own_w hw 88 rfl), rfl, hnm⟩) (own_w hw 36 rfl) (ty := (.array .byte)) (by decide) rfl rfl (g := (mkF m 69 #[vr b, vr u8, vr arr, vi st, vi 1, vi 1, .unset, .unset, .unset, .unset, .unset] [(.ref r7), (.ref b)])) rfl rfl (hb hby own_d10_69)
 have N11 := Fr.snoc X11 N7 g_b
 have K11 : Keep h0 h11 [b] := K7.wr W11 (Or.inl (List.mem_of_getElem? (i := 0) rfl))
 have Z11 : n0 ≤ h11.size := Nat.le_trans Z7 (Keep.of_wr W11).1
 have O11 := O7.wr W11 g_b
 have fw11 := (f9.same W11)
 refine own_st (T' := T11) (g' := (mkF m 72 #[vr b, vr u8, vr arr, vi st, vi 1, vi 1, .unset, .unset, .unset, .unset, .unset] [])) st11 ?_
 refine own_st (T' := T11) (g' := (mkF m 74 #[vr b, vr u8, vr arr, vi st, vi 1, vi 1, .unset, .unset, .unset, .unset, .unset] [(.int 0), (.ref b)])) (fun t k => ?_) ?_
 ·refine XS.aloadN X11.here hx rfl (hb hby own_d10_72) rfl rfl ?_
  refine XS.iconst X11.here hx rfl (hb hby own_d10_73) ?_
  exact k
 have f12 := (F_c.keep Kc7 nin0).other W11 (Or.inr (slot_ne (Or.inr (own_w hw 90 rfl)) (Or.inr (own_w hw 88 rfl)) (by decide) (t := .byte) (t' := (.array .byte)) (by decide) (by decide)))
 have f13 := f10.wr W11
 obtain ⟨T14, h14, X14, e14, W14, st14⟩ := putFN X11 hx hZ hown (own_w hw 89 rfl) Via.refl e11 f12 f13 (Or.inr ⟨(own_w hw 90 rfl), rfl, hnm⟩) (own_w hw 36 rfl) (ty := .byte) (v' := (.int 0)) (by decide) rfl rfl (g := (mkF m 74 #[vr b, vr u8, vr arr, vi st, vi 1, vi 1, .unset, .unset, .unset, .unset, .unset] [(.int 0), (.ref b)])) rfl rfl (hb hby own_d10_74)
 have N14 := Fr.snoc X14 N11 g_b
 have K14 : Keep h0 h14 [b] := K11.wr W14 (Or.inl (List.mem_of_getElem? (i := 0) rfl))
 have Z14 : n0 ≤ h14.size := Nat.le_trans Z11 (Keep.of_wr W14).1
 have O14 := O11.wr W14 g_b
 have fw14 := (f12.same W14)
 refine own_st (T' := T14) (g' := (mkF m 77 #[vr b, vr u8, vr arr, vi st, vi 1, vi 1, .unset, .unset, .unset, .unset, .unset] [])) st14 ?_
 have f15 := fw11.other W14 (Or.inr (slot_ne (Or.inr (own_w hw 88 rfl)) (Or.inr (own_w hw 90 rfl)) (by decide) (t := (.array .byte)) (t' := .byte) (by decide) (by decide)))
 have f16 := (Vc7.other W11 (Ne.symm ne_b_r7)).other W14 (Ne.symm ne_b_r7)
 exact own_retV X14 hx Bd (hb hby own_d10_77) e14 (⟨r7, k7, rfl, N14, K14, g7, hwr7, f15, fw14, f16⟩) (by decide) (by decide)
def own_r6a1 : Room := { frames := 4, cells := 1, slots := 1, locals := 71 }
def own_Q6a1 (Z : State) (b : Addr) (arr : Addr) (ka : ClassId) (y0 y1 y2 y3 y4 y5 y6 y7 st x0 x1 x2 : Int32) (cs : Int32) (fm : Value) (u8 : Addr) (h0 : Heap) (n0 : Nat) : Option Value → Heap → List Loc → Prop := fun v h L => ∃ t k, v = none ∧ Fr n0 L ∧ Keep h0 h [b] ∧ n0 ≤ t ∧ h0.size ≤ t ∧ Fld Z h b "java/lang/String" "value" "[B" (.ref t) ∧ Fld Z h b "java/lang/String" "coder" "B" (.int 0) ∧ Arv Z h t k .byte (1 : Int32) [(.int x0)] (.int 0)
theorem own_rm6a1 (l : Launch) (Z : State) (a0 : Array Value) (hw : own_W a0 Z) (b : Addr) (arr : Addr) (ka : ClassId) (y0 y1 y2 y3 y4 y5 y6 y7 st x0 x1 x2 : Int32) (cs : Int32) (fm : Value) (u8 : Addr) (h0 : Heap) (n0 : Nat) (Z0 : n0 ≤ h0.size) (O0 : Old Z n0 h0) (E_b : Exa Z h0 b "java/lang/String") (F_v : Fld Z h0 b "java/lang/String" "value" "[B" .null) (F_c : Fld Z h0 b "java/lang/String" "coder" "B" (.int 0)) (g_b : n0 ≤ b) (V_a : Arv Z h0 arr ka .byte (8 : Int32) [(.int y0), (.int y1), (.int y2), (.int y3), (.int y4), (.int y5), (.int y6), (.int y7)] (.int 0)) (hYX : own_YX y0 y1 y2 y3 y4 y5 y6 y7 st x0 x1 x2) (nba : b ≠ arr) (ha0 : ¬ x0 < (0 : Int32)) (HB : own_BB Z cs fm u8) :
  own_MF l Z own_y22 (Jvm.Cond.code own_y22 jdk_42_method_10_code 5 none) [] own_r6a1 #[(.ref b), (.ref arr), (.int st), (.int 1), (.ref u8)] h0 (own_Q6a1 Z b arr ka y0 y1 y2 y3 y4 y5 y6 y7 st x0 x1 x2 cs fm u8 h0 n0) := by
 refine own_open (plainFor_of_name own_pn1) hisR (Ls := #[vr b, vr arr, vi st, vi 1, vr u8]) ?_
 intro p e s m below meth c s₁ Bd hZ hx hby hml hown X0 e0
 obtain ⟨-, -, -, -, -, -, -, -, -, E_u8⟩ := id HB
 have N0 := Fr.nil n0
 obtain ⟨ho, hx0, hx1, hx2⟩ := id hYX
 refine own_st (T' := s₁) (g' := (mkF m 3 #[vr b, vr arr, vi st, vi 1, vr u8] [(.ref u8), (.ref b)])) (fun t k => ?_) ?_
 ·refine XS.aloadN X0.here hx rfl (hb hby own_d6_0) rfl rfl ?_
  refine XS.aload X0.here hx rfl (hb hby own_d6_1) rfl rfl ?_
  exact k
 obtain ⟨_, _, ⟨T1, L1, c1, n1⟩, -, X1, ⟨Lc1, hQ1, l1, y1, z1⟩, st1⟩ := Jvm.LawKit.callS X0 hx (y := own_y2) hown (om hZ hw 46 rfl) (om hZ hw 47 rfl) (om hZ hw 48 rfl) (om hZ hw 49 rfl) (by decide) (backOf (W := 1) (own_rm7 l Z a0 hw u8 cs fm u8 h0 n0 Z0 O0 HB) hZ (own_w hw 49 rfl) (own_w hw 48 rfl) (by decide) (by decide)) (g := (mkF m 3 #[vr b, vr arr, vi st, vi 1, vr u8] [(.ref u8), (.ref b)])) rfl (by rw [hml]; rfl) (argsL := [(.ref u8)]) (rest := [(.ref b)]) (lenOf own_pd14 rfl) rfl (by show 2 * 0 + _ ≤ _; exact Nat.le_of_eq rfl) (hb hby own_d6_3) (fun _ _ => ⟨rfl, e0, (by decide : 0 + 0 ≤ _), (by decide : 0 + 0 ≤ _)⟩)
 dsimp only [Pt.U, Pt.locs, Pt.cells, Pt.slots] at X1 l1 y1 z1 st1 hQ1
 subst l1 y1 z1
 obtain ⟨rfl, N1q, e1⟩ := hQ1
 have N1 := Fr.app N0 N1q
 refine own_st (T' := T1) (g' := (mkF m 6 #[vr b, vr arr, vi st, vi 1, vr u8] [(.ref u8), (.ref b)])) st1 ?_
 have f2 := E_u8.ext O0.2
 obtain ⟨T3, X3, e3, st3⟩ := castY X1 hx hZ hown (own_w hw 50 rfl) e1 (Ins.of_exa f2 (own_w hw 51 rfl)) (g := (mkF m 6 #[vr b, vr arr, vi st, vi 1, vr u8] [(.ref u8), (.ref b)])) rfl rfl (hb hby own_d6_6)
 refine own_st (T' := T3) (g' := (mkF m 9 #[vr b, vr arr, vi st, vi 1, vr u8] [(.ref u8), (.ref b)])) st3 ?_
 refine own_st (T' := T3) (g' := (mkF m 13 #[vr b, vr arr, vi st, vi 1, vr u8] [(.ref arr), (.int 1), (.int st), (.ref arr), (.ref u8), (.ref b)])) (fun t k => ?_) ?_
 ·refine XS.aloadN X3.here hx rfl (hb hby own_d6_9) rfl rfl ?_
  refine XS.iloadN X3.here hx rfl (hb hby own_d6_10) rfl ?_
  refine XS.iloadN X3.here hx rfl (hb hby own_d6_11) rfl ?_
  refine XS.aloadN X3.here hx rfl (hb hby own_d6_12) rfl rfl ?_
  exact k
 obtain ⟨cl4, Ar4, q4, S4, M4, H4, G4⟩ := id V_a
 refine own_st (T' := T3) (g' := (mkF m 14 #[vr b, vr arr, vi st, vi 1, vr u8] [(.int 8), (.int 1), (.int st), (.ref arr), (.ref u8), (.ref b)])) (fun t k => ?_) ?_
 ·refine X3.arraylength hx (by rw [e3]; exact Ar4.1) (State.isArrayOf_alike hZ.alike Ar4.2.1) (g := (mkF m 13 #[vr b, vr arr, vi st, vi 1, vr u8] [(.ref arr), (.int 1), (.int st), (.ref arr), (.ref u8), (.ref b)])) rfl rfl (hb hby own_d6_13) _ ?_
  rw [len_of S4 M4]
  exact k
 obtain ⟨_, _, ⟨T5, L5, c5, n5⟩, -, X5, ⟨Lc5, hQ5, l5, y5, z5⟩, st5⟩ := Jvm.LawKit.callS X3 hx (y := own_y4) hown (om hZ hw 52 rfl) (om hZ hw 53 rfl) (om hZ hw 37 rfl) (om hZ hw 54 rfl) (by decide) (backOf (W := 3) (own_rm8 l Z a0 hw st (1 : Int32) (8 : Int32) cs fm u8 h0 n0 Z0 O0 (by rcases ho with rfl|rfl|rfl|rfl<;>decide) (by rcases ho with rfl|rfl|rfl|rfl<;>decide) HB) hZ (own_w hw 54 rfl) (own_w hw 37 rfl) (by decide) (by decide)) (g := (mkF m 14 #[vr b, vr arr, vi st, vi 1, vr u8] [(.int 8), (.int 1), (.int st), (.ref arr), (.ref u8), (.ref b)])) rfl (by rw [hml]; rfl) (argsL := [(.int st), (.int 1), (.int 8)]) (rest := [(.ref arr), (.ref u8), (.ref b)]) (lenOf own_pd7 rfl) rfl (by show 2 * 0 + _ ≤ _; exact Nat.le_of_eq rfl) (hb hby own_d6_14) (fun _ _ => ⟨rfl, e3, (by decide : 0 + 0 ≤ _), (by decide : 0 + 0 ≤ _)⟩)
 dsimp only [Pt.U, Pt.locs, Pt.cells, Pt.slots] at X5 l5 y5 z5 st5 hQ5
 subst l5 y5 z5
 obtain ⟨rfl, N5q, e5⟩ := hQ5
 have N5 := Fr.app N1 N5q
 refine own_st (T' := T5) (g' := (mkF m 17 #[vr b, vr arr, vi st, vi 1, vr u8] [(.int st), (.ref arr), (.ref u8), (.ref b)])) st5 ?_
 refine own_st (T' := T5) (g' := (mkF m 18 #[vr b, vr arr, vi st, vi 1, vr u8] [(.int 1), (.int st), (.ref arr), (.ref u8), (.ref b)])) (fun t k => ?_) ?_
 ·refine XS.iloadN X5.here hx rfl (hb hby own_d6_17) rfl ?_
  exact k
 obtain ⟨_, _, ⟨T6, L6, c6, n6⟩, -, X6, ⟨Lc6, hQ6, l6, y6, z6⟩, st6⟩ := X5.specialBackH hx (y := own_y21) rfl hown (om hZ hw 60 rfl) (om hZ hw 61 rfl) (om hZ hw 63 rfl) (by decide) (backOfWith (W := 0) (own_rm10a1 l Z a0 hw b arr ka y0 y1 y2 y3 y4 y5 y6 y7 st x0 x1 x2 cs fm u8 h0 n0 Z0 O0 E_b F_v F_c g_b V_a ⟨ho, hx0, hx1, hx2⟩ nba ha0 HB) hZ (own_w hw 63 rfl) (own_w hw 37 rfl) (by decide) (by decide)) (g := (mkF m 18 #[vr b, vr arr, vi st, vi 1, vr u8] [(.int 1), (.int st), (.ref arr), (.ref u8), (.ref b)])) rfl (by rw [hml]; rfl) (Steps.refl _) (a := b) (argsL := [(.ref u8), (.ref arr), (.int st), (.int 1)]) (rest := []) (lenOf own_pd15 rfl) rfl (by show 2 * 0 + _ ≤ _; exact Nat.le_of_eq rfl) (hb hby own_d6_18) (fun _ _ => ⟨rfl, e5, (by decide : 0 + 1 ≤ _), (by decide : 0 + 1 ≤ _)⟩)
 dsimp only [Pt.U, Pt.locs, Pt.cells, Pt.slots] at X6 l6 y6 z6 st6 hQ6
 subst l6 y6 z6
 obtain ⟨h6, e6⟩ : ∃ z, T6.heap = z := ⟨_, rfl⟩
 rw [e6] at hQ6
 obtain ⟨t6, k6, rfl, N6q, Kc6, g6, hz6, Fv6, Fo6, Vc6⟩ := hQ6
 have N6 := Fr.app N5 N6q
 have ne_b_t6 : b ≠ t6 := Nat.ne_of_lt (Nat.lt_of_lt_of_le E_b.lt hz6)
 have ne_arr_t6 : arr ≠ t6 := Nat.ne_of_lt (Nat.lt_of_lt_of_le V_a.lt hz6)
 have ne_u8_t6 : u8 ≠ t6 := Nat.ne_of_lt (Nat.lt_of_lt_of_le f2.lt hz6)
 have hwt6 : h0.size ≤ t6 := Nat.le_trans (Keep.refl h0 [b]).1 hz6
 have K6 : Keep h0 h6 [b] := (Keep.refl h0 [b]).trans Kc6 (allS (Or.inl (List.mem_of_getElem? (i := 0) rfl)) all0)
 have Z6 : n0 ≤ h6.size := Nat.le_trans Z0 Kc6.1
 have O6 := O0.keep Kc6 (allS g_b all0)
 refine own_tr (T' := T6) (g' := (mkF m 21 #[vr b, vr arr, vi st, vi 1, vr u8] [])) st6 ?_
 exact own_retV X6 hx Bd (hb hby own_d6_21) e6 (⟨t6, k6, rfl, N6, K6, g6, hwt6, Fv6, Fo6, Vc6⟩) (by decide) (by decide)
def own_r10a2 : Room := { frames := 3, cells := 1, slots := 2, locals := 49 }
def own_Q10a2 (Z : State) (b : Addr) (arr : Addr) (ka : ClassId) (y0 y1 y2 y3 y4 y5 y6 y7 st x0 x1 x2 : Int32) (cs : Int32) (fm : Value) (u8 : Addr) (h0 : Heap) (n0 : Nat) : Option Value → Heap → List Loc → Prop := fun v h L => ∃ t k, v = none ∧ Fr n0 L ∧ Keep h0 h [b] ∧ n0 ≤ t ∧ h0.size ≤ t ∧ Fld Z h b "java/lang/String" "value" "[B" (.ref t) ∧ Fld Z h b "java/lang/String" "coder" "B" (.int 0) ∧ Arv Z h t k .byte (2 : Int32) [(.int x0), (.int x1)] (.int 0)
theorem own_rm10a2 (l : Launch) (Z : State) (a0 : Array Value) (hw : own_W a0 Z) (b : Addr) (arr : Addr) (ka : ClassId) (y0 y1 y2 y3 y4 y5 y6 y7 st x0 x1 x2 : Int32) (cs : Int32) (fm : Value) (u8 : Addr) (h0 : Heap) (n0 : Nat) (Z0 : n0 ≤ h0.size) (O0 : Old Z n0 h0) (E_b : Exa Z h0 b "java/lang/String") (F_v : Fld Z h0 b "java/lang/String" "value" "[B" .null) (F_c : Fld Z h0 b "java/lang/String" "coder" "B" (.int 0)) (g_b : n0 ≤ b) (V_a : Arv Z h0 arr ka .byte (8 : Int32) [(.int y0), (.int y1), (.int y2), (.int y3), (.int y4), (.int y5), (.int y6), (.int y7)] (.int 0)) (hYX : own_YX y0 y1 y2 y3 y4 y5 y6 y7 st x0 x1 x2) (nba : b ≠ arr) (ha0 : ¬ x0 < (0 : Int32)) (ha1 : ¬ x1 < (0 : Int32)) (HB : own_BB Z cs fm u8) :
  own_MF l Z own_y21 (Jvm.Cond.codeWith own_y21 jdk_42_method_11_code 11 none [((800 : Nat), (813 : Nat), (816 : Nat), (202 : Nat))]) [] own_r10a2 #[(.ref b), (.ref u8), (.ref arr), (.int st), (.int 2)] h0 (own_Q10a2 Z b arr ka y0 y1 y2 y3 y4 y5 y6 y7 st x0 x1 x2 cs fm u8 h0 n0) := by
 refine own_open (plainFor_of_name own_pn1) hisWith (Ls := #[vr b, vr u8, vr arr, vi st, vi 2, .unset, .unset, .unset, .unset, .unset, .unset]) ?_
 intro p e s m below meth c s₁ Bd hZ hx hby hml hown X0 e0
 obtain ⟨hcs, -, S_cs, -, -, -, -, -, S_ui, E_u8⟩ := id HB
 have N0 := Fr.nil n0
 have hnm := (name_of_methodNamed Bd.named Bd.method).1
 obtain ⟨ho, hx0, hx1, hx2⟩ := id hYX
 refine own_st (T' := s₁) (g' := (mkF m 1 #[vr b, vr u8, vr arr, vi st, vi 2, .unset, .unset, .unset, .unset, .unset, .unset] [(.ref b)])) (fun t k => ?_) ?_
 ·refine XS.aloadN X0.here hx rfl (hb hby own_d10_0) rfl rfl ?_
  exact k
 obtain ⟨T1, X1, e1, st1⟩ := initO X0 hx hZ hown (own_w hw 64 rfl) (own_w hw 14 rfl) (own_w hw 15 rfl) e0 (g := (mkF m 1 #[vr b, vr u8, vr arr, vi st, vi 2, .unset, .unset, .unset, .unset, .unset, .unset] [(.ref b)])) rfl (by rw [hml]; rfl) rfl (hb hby own_d10_1) (by decide) (W := 0) (by show 2 * 0 + _ ≤ _; exact Nat.le_of_eq rfl) (by decide)
 refine own_st (T' := T1) (g' := (mkF m 4 #[vr b, vr u8, vr arr, vi st, vi 2, .unset, .unset, .unset, .unset, .unset, .unset] [])) st1 ?_
 refine own_st (T' := T1) (g' := (mkF m 31 #[vr b, vr u8, vr arr, vi st, vi 2, .unset, .unset, .unset, .unset, .unset, .unset] [(.ref u8)])) (fun t k => ?_) ?_
 ·refine XS.iload X1.here hx rfl (hb hby own_d10_4) rfl ?_
  refine XS.ifYes X1.here hx rfl (pc0 := 6) (pc' := 30) rfl (hb hby own_d10_6) rfl ((if0 _ _).trans (feq (by decide : ¬ ((2 : Int32) = (0 : Int32)))).2) (by decide) (by decide) ?_
  refine XS.aloadN X1.here hx rfl (hb hby own_d10_30) rfl rfl ?_
  exact k
 have f2 := S_ui.ext O0.2
 obtain ⟨T3, X3, e3, st3⟩ := getS2 X1 hx hZ hown (host := "") (Or.inl (own_w hw 65 rfl)) Via.refl e1 f2 (g := (mkF m 31 #[vr b, vr u8, vr arr, vi st, vi 2, .unset, .unset, .unset, .unset, .unset, .unset] [(.ref u8)])) rfl (hb hby own_d10_31)
 refine own_st (T' := T3) (g' := (mkF m 34 #[vr b, vr u8, vr arr, vi st, vi 2, .unset, .unset, .unset, .unset, .unset, .unset] [(.ref u8), (.ref u8)])) st3 ?_
 refine own_st (T' := T3) (g' := (mkF m 37 #[vr b, vr u8, vr arr, vi st, vi 2, .unset, .unset, .unset, .unset, .unset, .unset] [])) (fun t k => ?_) ?_
 ·refine Jvm.RoadKit.acmp (g := (mkF m 34 #[vr b, vr u8, vr arr, vi st, vi 2, .unset, .unset, .unset, .unset, .unset, .unset] [(.ref u8), (.ref u8)])) X3 hx rfl rfl rfl (pc0 := 34) (pc' := 37) (same := true) rfl (hb hby own_d10_34) rfl (decide_eq_true (congrArg Value.ref (rfl : u8 = u8))) (by decide) (by decide) ?_
  exact k
 have f4 := S_cs.ext O0.2
 obtain ⟨T5, X5, e5, st5⟩ := getS2 X3 hx hZ hown (host := "") (Or.inl (own_w hw 67 rfl)) Via.refl e3 f4 (g := (mkF m 37 #[vr b, vr u8, vr arr, vi st, vi 2, .unset, .unset, .unset, .unset, .unset, .unset] [])) rfl (hb hby own_d10_37)
 refine own_st (T' := T5) (g' := (mkF m 40 #[vr b, vr u8, vr arr, vi st, vi 2, .unset, .unset, .unset, .unset, .unset, .unset] [(.int cs)])) st5 ?_
 refine own_st (T' := T5) (g' := (mkF m 47 #[vr b, vr u8, vr arr, vi st, vi 2, .unset, .unset, .unset, .unset, .unset, .unset] [(.int 2), (.int st), (.ref arr)])) (fun t k => ?_) ?_
 ·refine XS.ifNo X5.here hx rfl (hb hby own_d10_40) rfl ((if0 _ _).trans (feq hcs).1) ?_
  refine XS.aloadN X5.here hx rfl (hb hby own_d10_43) rfl rfl ?_
  refine XS.iloadN X5.here hx rfl (hb hby own_d10_44) rfl ?_
  refine XS.iload X5.here hx rfl (hb hby own_d10_45) rfl ?_
  exact k
 obtain ⟨_, _, ⟨T6, L6, c6, n6⟩, -, X6, ⟨Lc6, hQ6, l6, y6, z6⟩, st6⟩ := Jvm.LawKit.callS X5 hx (y := own_y6) hown (om hZ hw 68 rfl) (om hZ hw 69 rfl) (om hZ hw 70 rfl) (om hZ hw 71 rfl) (by decide) (backOf (W := 0) (own_rm11a2 l Z a0 hw arr ka y0 y1 y2 y3 y4 y5 y6 y7 st x0 x1 x2 cs fm u8 h0 n0 Z0 O0 V_a ⟨ho, hx0, hx1, hx2⟩ ha0 ha1 HB) hZ (own_w hw 71 rfl) (own_w hw 70 rfl) (by decide) (by decide)) (g := (mkF m 47 #[vr b, vr u8, vr arr, vi st, vi 2, .unset, .unset, .unset, .unset, .unset, .unset] [(.int 2), (.int st), (.ref arr)])) rfl (by rw [hml]; rfl) (argsL := [(.ref arr), (.int st), (.int 2)]) (rest := []) (lenOf own_pd13 rfl) rfl (by show 2 * 0 + _ ≤ _; exact Nat.le_of_eq rfl) (hb hby own_d10_47) (fun _ _ => ⟨rfl, e5, (by decide : 0 + 0 ≤ _), (by decide : 0 + 0 ≤ _)⟩)
 dsimp only [Pt.U, Pt.locs, Pt.cells, Pt.slots] at X6 l6 y6 z6 st6 hQ6
 subst l6 y6 z6
 obtain ⟨rfl, N6q, e6⟩ := hQ6
 have N6 := Fr.app N0 N6q
 refine own_st (T' := T6) (g' := (mkF m 50 #[vr b, vr u8, vr arr, vi st, vi 2, .unset, .unset, .unset, .unset, .unset, .unset] [(.int 2)])) st6 ?_
 refine own_st (T' := T6) (g' := (mkF m 66 #[vr b, vr u8, vr arr, vi st, vi 2, vi 2, .unset, .unset, .unset, .unset, .unset] [(.int (st + (2 : Int32))), (.int st), (.ref arr), (.ref b)])) (fun t k => ?_) ?_
 ·refine XS.istore X6.here hx rfl (hb hby own_d10_50) rfl (l' := #[vr b, vr u8, vr arr, vi st, vi 2, vi 2, .unset, .unset, .unset, .unset, .unset]) rfl ?_
  refine XS.iload X6.here hx rfl (hb hby own_d10_52) rfl ?_
  refine XS.iload X6.here hx rfl (hb hby own_d10_54) rfl ?_
  refine XS.icmpNo X6.here hx rfl (hb hby own_d10_56) rfl (teq (rfl : (2 : Int32) = (2 : Int32))).2 ?_
  refine XS.aloadN X6.here hx rfl (hb hby own_d10_59) rfl rfl ?_
  refine XS.aloadN X6.here hx rfl (hb hby own_d10_60) rfl rfl ?_
  refine XS.iloadN X6.here hx rfl (hb hby own_d10_61) rfl ?_
  refine XS.iloadN X6.here hx rfl (hb hby own_d10_62) rfl ?_
  refine XS.iload X6.here hx rfl (hb hby own_d10_63) rfl ?_
  refine XS.iadd X6.here hx rfl (hb hby own_d10_65) rfl ?_
  exact k
 obtain ⟨_, _, ⟨T7, L7, c7, n7⟩, -, X7, ⟨Lc7, hQ7, l7, y7, z7⟩, st7⟩ := Jvm.LawKit.callS X6 hx (y := own_y9) hown (om hZ hw 72 rfl) (om hZ hw 73 rfl) (om hZ hw 74 rfl) (om hZ hw 75 rfl) (by decide) (backOf (W := 1) (own_rm12_2 l Z a0 hw arr ka y0 y1 y2 y3 y4 y5 y6 y7 st x0 x1 x2 cs fm u8 h0 n0 Z0 O0 V_a ⟨ho, hx0, hx1, hx2⟩ HB) hZ (own_w hw 75 rfl) (own_w hw 74 rfl) (by decide) (by decide)) (g := (mkF m 66 #[vr b, vr u8, vr arr, vi st, vi 2, vi 2, .unset, .unset, .unset, .unset, .unset] [(.int (st + (2 : Int32))), (.int st), (.ref arr), (.ref b)])) rfl (by rw [hml]; rfl) (argsL := [(.ref arr), (.int st), (.int (st + (2 : Int32)))]) (rest := [(.ref b)]) (lenOf own_pd4 rfl) rfl (by show 2 * 0 + _ ≤ _; exact Nat.le_of_eq rfl) (hb hby own_d10_66) (fun _ _ => ⟨rfl, e6, (by decide : 0 + 1 ≤ _), (by decide : 0 + 2 ≤ _)⟩)
 dsimp only [Pt.U, Pt.locs, Pt.cells, Pt.slots] at X7 l7 y7 z7 st7 hQ7
 subst l7 y7 z7
 obtain ⟨h7, e7⟩ : ∃ z, T7.heap = z := ⟨_, rfl⟩
 rw [e7] at hQ7
 obtain ⟨r7, k7, rfl, N7q, Kc7, g7, hz7, Vc7⟩ := hQ7
 have N7 := Fr.app N6 N7q
 have ne_b_r7 : b ≠ r7 := Nat.ne_of_lt (Nat.lt_of_lt_of_le E_b.lt hz7)
 have ne_arr_r7 : arr ≠ r7 := Nat.ne_of_lt (Nat.lt_of_lt_of_le V_a.lt hz7)
 have f8 := E_u8.ext O0.2
 have ne_u8_r7 : u8 ≠ r7 := Nat.ne_of_lt (Nat.lt_of_lt_of_le f8.lt hz7)
 have hwr7 : h0.size ≤ r7 := Nat.le_trans (Keep.refl h0 [b]).1 hz7
 have K7 : Keep h0 h7 [b] := (Keep.refl h0 [b]).trans Kc7 all0
 have Z7 : n0 ≤ h7.size := Nat.le_trans Z0 Kc7.1
 have O7 := O0.keep Kc7 all0
 refine own_st (T' := T7) (g' := (mkF m 69 #[vr b, vr u8, vr arr, vi st, vi 2, vi 2, .unset, .unset, .unset, .unset, .unset] [(.ref r7), (.ref b)])) st7 ?_
 have f9 := F_v.keep Kc7 nin0
 have f10 := E_b.keep Kc7
 obtain ⟨T11, h11, X11, e11, W11, st11⟩ := putF X7 hx hZ hown (host := "") (Or.inl (own_w hw 87 rfl)) Via.refl e7 f9 f10 (Or.inr ⟨(own_w hw 88 rfl), rfl, hnm⟩) (own_w hw 36 rfl) (ty := (.array .byte)) (by decide) rfl rfl (g := (mkF m 69 #[vr b, vr u8, vr arr, vi st, vi 2, vi 2, .unset, .unset, .unset, .unset, .unset] [(.ref r7), (.ref b)])) rfl rfl (hb hby own_d10_69)
 have N11 := Fr.snoc X11 N7 g_b
 have K11 : Keep h0 h11 [b] := K7.wr W11 (Or.inl (List.mem_of_getElem? (i := 0) rfl))
 have Z11 : n0 ≤ h11.size := Nat.le_trans Z7 (Keep.of_wr W11).1
 have O11 := O7.wr W11 g_b
 have fw11 := (f9.same W11)
 refine own_st (T' := T11) (g' := (mkF m 72 #[vr b, vr u8, vr arr, vi st, vi 2, vi 2, .unset, .unset, .unset, .unset, .unset] [])) st11 ?_
 refine own_st (T' := T11) (g' := (mkF m 74 #[vr b, vr u8, vr arr, vi st, vi 2, vi 2, .unset, .unset, .unset, .unset, .unset] [(.int 0), (.ref b)])) (fun t k => ?_) ?_
 ·refine XS.aloadN X11.here hx rfl (hb hby own_d10_72) rfl rfl ?_
  refine XS.iconst X11.here hx rfl (hb hby own_d10_73) ?_
  exact k
 have f12 := (F_c.keep Kc7 nin0).other W11 (Or.inr (slot_ne (Or.inr (own_w hw 90 rfl)) (Or.inr (own_w hw 88 rfl)) (by decide) (t := .byte) (t' := (.array .byte)) (by decide) (by decide)))
 have f13 := f10.wr W11
 obtain ⟨T14, h14, X14, e14, W14, st14⟩ := putFN X11 hx hZ hown (own_w hw 89 rfl) Via.refl e11 f12 f13 (Or.inr ⟨(own_w hw 90 rfl), rfl, hnm⟩) (own_w hw 36 rfl) (ty := .byte) (v' := (.int 0)) (by decide) rfl rfl (g := (mkF m 74 #[vr b, vr u8, vr arr, vi st, vi 2, vi 2, .unset, .unset, .unset, .unset, .unset] [(.int 0), (.ref b)])) rfl rfl (hb hby own_d10_74)
 have N14 := Fr.snoc X14 N11 g_b
 have K14 : Keep h0 h14 [b] := K11.wr W14 (Or.inl (List.mem_of_getElem? (i := 0) rfl))
 have Z14 : n0 ≤ h14.size := Nat.le_trans Z11 (Keep.of_wr W14).1
 have O14 := O11.wr W14 g_b
 have fw14 := (f12.same W14)
 refine own_st (T' := T14) (g' := (mkF m 77 #[vr b, vr u8, vr arr, vi st, vi 2, vi 2, .unset, .unset, .unset, .unset, .unset] [])) st14 ?_
 have f15 := fw11.other W14 (Or.inr (slot_ne (Or.inr (own_w hw 88 rfl)) (Or.inr (own_w hw 90 rfl)) (by decide) (t := (.array .byte)) (t' := .byte) (by decide) (by decide)))
 have f16 := (Vc7.other W11 (Ne.symm ne_b_r7)).other W14 (Ne.symm ne_b_r7)
 exact own_retV X14 hx Bd (hb hby own_d10_77) e14 (⟨r7, k7, rfl, N14, K14, g7, hwr7, f15, fw14, f16⟩) (by decide) (by decide)
def own_r6a2 : Room := { frames := 4, cells := 1, slots := 2, locals := 71 }
def own_Q6a2 (Z : State) (b : Addr) (arr : Addr) (ka : ClassId) (y0 y1 y2 y3 y4 y5 y6 y7 st x0 x1 x2 : Int32) (cs : Int32) (fm : Value) (u8 : Addr) (h0 : Heap) (n0 : Nat) : Option Value → Heap → List Loc → Prop := fun v h L => ∃ t k, v = none ∧ Fr n0 L ∧ Keep h0 h [b] ∧ n0 ≤ t ∧ h0.size ≤ t ∧ Fld Z h b "java/lang/String" "value" "[B" (.ref t) ∧ Fld Z h b "java/lang/String" "coder" "B" (.int 0) ∧ Arv Z h t k .byte (2 : Int32) [(.int x0), (.int x1)] (.int 0)
theorem own_rm6a2 (l : Launch) (Z : State) (a0 : Array Value) (hw : own_W a0 Z) (b : Addr) (arr : Addr) (ka : ClassId) (y0 y1 y2 y3 y4 y5 y6 y7 st x0 x1 x2 : Int32) (cs : Int32) (fm : Value) (u8 : Addr) (h0 : Heap) (n0 : Nat) (Z0 : n0 ≤ h0.size) (O0 : Old Z n0 h0) (E_b : Exa Z h0 b "java/lang/String") (F_v : Fld Z h0 b "java/lang/String" "value" "[B" .null) (F_c : Fld Z h0 b "java/lang/String" "coder" "B" (.int 0)) (g_b : n0 ≤ b) (V_a : Arv Z h0 arr ka .byte (8 : Int32) [(.int y0), (.int y1), (.int y2), (.int y3), (.int y4), (.int y5), (.int y6), (.int y7)] (.int 0)) (hYX : own_YX y0 y1 y2 y3 y4 y5 y6 y7 st x0 x1 x2) (nba : b ≠ arr) (ha0 : ¬ x0 < (0 : Int32)) (ha1 : ¬ x1 < (0 : Int32)) (HB : own_BB Z cs fm u8) :
  own_MF l Z own_y22 (Jvm.Cond.code own_y22 jdk_42_method_10_code 5 none) [] own_r6a2 #[(.ref b), (.ref arr), (.int st), (.int 2), (.ref u8)] h0 (own_Q6a2 Z b arr ka y0 y1 y2 y3 y4 y5 y6 y7 st x0 x1 x2 cs fm u8 h0 n0) := by
 refine own_open (plainFor_of_name own_pn1) hisR (Ls := #[vr b, vr arr, vi st, vi 2, vr u8]) ?_
 intro p e s m below meth c s₁ Bd hZ hx hby hml hown X0 e0
 obtain ⟨-, -, -, -, -, -, -, -, -, E_u8⟩ := id HB
 have N0 := Fr.nil n0
 obtain ⟨ho, hx0, hx1, hx2⟩ := id hYX
 refine own_st (T' := s₁) (g' := (mkF m 3 #[vr b, vr arr, vi st, vi 2, vr u8] [(.ref u8), (.ref b)])) (fun t k => ?_) ?_
 ·refine XS.aloadN X0.here hx rfl (hb hby own_d6_0) rfl rfl ?_
  refine XS.aload X0.here hx rfl (hb hby own_d6_1) rfl rfl ?_
  exact k
 obtain ⟨_, _, ⟨T1, L1, c1, n1⟩, -, X1, ⟨Lc1, hQ1, l1, y1, z1⟩, st1⟩ := Jvm.LawKit.callS X0 hx (y := own_y2) hown (om hZ hw 46 rfl) (om hZ hw 47 rfl) (om hZ hw 48 rfl) (om hZ hw 49 rfl) (by decide) (backOf (W := 1) (own_rm7 l Z a0 hw u8 cs fm u8 h0 n0 Z0 O0 HB) hZ (own_w hw 49 rfl) (own_w hw 48 rfl) (by decide) (by decide)) (g := (mkF m 3 #[vr b, vr arr, vi st, vi 2, vr u8] [(.ref u8), (.ref b)])) rfl (by rw [hml]; rfl) (argsL := [(.ref u8)]) (rest := [(.ref b)]) (lenOf own_pd14 rfl) rfl (by show 2 * 0 + _ ≤ _; exact Nat.le_of_eq rfl) (hb hby own_d6_3) (fun _ _ => ⟨rfl, e0, (by decide : 0 + 0 ≤ _), (by decide : 0 + 0 ≤ _)⟩)
 dsimp only [Pt.U, Pt.locs, Pt.cells, Pt.slots] at X1 l1 y1 z1 st1 hQ1
 subst l1 y1 z1
 obtain ⟨rfl, N1q, e1⟩ := hQ1
 have N1 := Fr.app N0 N1q
 refine own_st (T' := T1) (g' := (mkF m 6 #[vr b, vr arr, vi st, vi 2, vr u8] [(.ref u8), (.ref b)])) st1 ?_
 have f2 := E_u8.ext O0.2
 obtain ⟨T3, X3, e3, st3⟩ := castY X1 hx hZ hown (own_w hw 50 rfl) e1 (Ins.of_exa f2 (own_w hw 51 rfl)) (g := (mkF m 6 #[vr b, vr arr, vi st, vi 2, vr u8] [(.ref u8), (.ref b)])) rfl rfl (hb hby own_d6_6)
 refine own_st (T' := T3) (g' := (mkF m 9 #[vr b, vr arr, vi st, vi 2, vr u8] [(.ref u8), (.ref b)])) st3 ?_
 refine own_st (T' := T3) (g' := (mkF m 13 #[vr b, vr arr, vi st, vi 2, vr u8] [(.ref arr), (.int 2), (.int st), (.ref arr), (.ref u8), (.ref b)])) (fun t k => ?_) ?_
 ·refine XS.aloadN X3.here hx rfl (hb hby own_d6_9) rfl rfl ?_
  refine XS.iloadN X3.here hx rfl (hb hby own_d6_10) rfl ?_
  refine XS.iloadN X3.here hx rfl (hb hby own_d6_11) rfl ?_
  refine XS.aloadN X3.here hx rfl (hb hby own_d6_12) rfl rfl ?_
  exact k
 obtain ⟨cl4, Ar4, q4, S4, M4, H4, G4⟩ := id V_a
 refine own_st (T' := T3) (g' := (mkF m 14 #[vr b, vr arr, vi st, vi 2, vr u8] [(.int 8), (.int 2), (.int st), (.ref arr), (.ref u8), (.ref b)])) (fun t k => ?_) ?_
 ·refine X3.arraylength hx (by rw [e3]; exact Ar4.1) (State.isArrayOf_alike hZ.alike Ar4.2.1) (g := (mkF m 13 #[vr b, vr arr, vi st, vi 2, vr u8] [(.ref arr), (.int 2), (.int st), (.ref arr), (.ref u8), (.ref b)])) rfl rfl (hb hby own_d6_13) _ ?_
  rw [len_of S4 M4]
  exact k
 obtain ⟨_, _, ⟨T5, L5, c5, n5⟩, -, X5, ⟨Lc5, hQ5, l5, y5, z5⟩, st5⟩ := Jvm.LawKit.callS X3 hx (y := own_y4) hown (om hZ hw 52 rfl) (om hZ hw 53 rfl) (om hZ hw 37 rfl) (om hZ hw 54 rfl) (by decide) (backOf (W := 3) (own_rm8 l Z a0 hw st (2 : Int32) (8 : Int32) cs fm u8 h0 n0 Z0 O0 (by rcases ho with rfl|rfl|rfl|rfl<;>decide) (by rcases ho with rfl|rfl|rfl|rfl<;>decide) HB) hZ (own_w hw 54 rfl) (own_w hw 37 rfl) (by decide) (by decide)) (g := (mkF m 14 #[vr b, vr arr, vi st, vi 2, vr u8] [(.int 8), (.int 2), (.int st), (.ref arr), (.ref u8), (.ref b)])) rfl (by rw [hml]; rfl) (argsL := [(.int st), (.int 2), (.int 8)]) (rest := [(.ref arr), (.ref u8), (.ref b)]) (lenOf own_pd7 rfl) rfl (by show 2 * 0 + _ ≤ _; exact Nat.le_of_eq rfl) (hb hby own_d6_14) (fun _ _ => ⟨rfl, e3, (by decide : 0 + 0 ≤ _), (by decide : 0 + 0 ≤ _)⟩)
 dsimp only [Pt.U, Pt.locs, Pt.cells, Pt.slots] at X5 l5 y5 z5 st5 hQ5
 subst l5 y5 z5
 obtain ⟨rfl, N5q, e5⟩ := hQ5
 have N5 := Fr.app N1 N5q
 refine own_st (T' := T5) (g' := (mkF m 17 #[vr b, vr arr, vi st, vi 2, vr u8] [(.int st), (.ref arr), (.ref u8), (.ref b)])) st5 ?_
 refine own_st (T' := T5) (g' := (mkF m 18 #[vr b, vr arr, vi st, vi 2, vr u8] [(.int 2), (.int st), (.ref arr), (.ref u8), (.ref b)])) (fun t k => ?_) ?_
 ·refine XS.iloadN X5.here hx rfl (hb hby own_d6_17) rfl ?_
  exact k
 obtain ⟨_, _, ⟨T6, L6, c6, n6⟩, -, X6, ⟨Lc6, hQ6, l6, y6, z6⟩, st6⟩ := X5.specialBackH hx (y := own_y21) rfl hown (om hZ hw 60 rfl) (om hZ hw 61 rfl) (om hZ hw 63 rfl) (by decide) (backOfWith (W := 0) (own_rm10a2 l Z a0 hw b arr ka y0 y1 y2 y3 y4 y5 y6 y7 st x0 x1 x2 cs fm u8 h0 n0 Z0 O0 E_b F_v F_c g_b V_a ⟨ho, hx0, hx1, hx2⟩ nba ha0 ha1 HB) hZ (own_w hw 63 rfl) (own_w hw 37 rfl) (by decide) (by decide)) (g := (mkF m 18 #[vr b, vr arr, vi st, vi 2, vr u8] [(.int 2), (.int st), (.ref arr), (.ref u8), (.ref b)])) rfl (by rw [hml]; rfl) (Steps.refl _) (a := b) (argsL := [(.ref u8), (.ref arr), (.int st), (.int 2)]) (rest := []) (lenOf own_pd15 rfl) rfl (by show 2 * 0 + _ ≤ _; exact Nat.le_of_eq rfl) (hb hby own_d6_18) (fun _ _ => ⟨rfl, e5, (by decide : 0 + 1 ≤ _), (by decide : 0 + 2 ≤ _)⟩)
 dsimp only [Pt.U, Pt.locs, Pt.cells, Pt.slots] at X6 l6 y6 z6 st6 hQ6
 subst l6 y6 z6
 obtain ⟨h6, e6⟩ : ∃ z, T6.heap = z := ⟨_, rfl⟩
 rw [e6] at hQ6
 obtain ⟨t6, k6, rfl, N6q, Kc6, g6, hz6, Fv6, Fo6, Vc6⟩ := hQ6
 have N6 := Fr.app N5 N6q
 have ne_b_t6 : b ≠ t6 := Nat.ne_of_lt (Nat.lt_of_lt_of_le E_b.lt hz6)
 have ne_arr_t6 : arr ≠ t6 := Nat.ne_of_lt (Nat.lt_of_lt_of_le V_a.lt hz6)
 have ne_u8_t6 : u8 ≠ t6 := Nat.ne_of_lt (Nat.lt_of_lt_of_le f2.lt hz6)
 have hwt6 : h0.size ≤ t6 := Nat.le_trans (Keep.refl h0 [b]).1 hz6
 have K6 : Keep h0 h6 [b] := (Keep.refl h0 [b]).trans Kc6 (allS (Or.inl (List.mem_of_getElem? (i := 0) rfl)) all0)
 have Z6 : n0 ≤ h6.size := Nat.le_trans Z0 Kc6.1
 have O6 := O0.keep Kc6 (allS g_b all0)
 refine own_tr (T' := T6) (g' := (mkF m 21 #[vr b, vr arr, vi st, vi 2, vr u8] [])) st6 ?_
 exact own_retV X6 hx Bd (hb hby own_d6_21) e6 (⟨t6, k6, rfl, N6, K6, g6, hwt6, Fv6, Fo6, Vc6⟩) (by decide) (by decide)
def own_r10a3 : Room := { frames := 3, cells := 1, slots := 3, locals := 49 }
def own_Q10a3 (Z : State) (b : Addr) (arr : Addr) (ka : ClassId) (y0 y1 y2 y3 y4 y5 y6 y7 st x0 x1 x2 : Int32) (cs : Int32) (fm : Value) (u8 : Addr) (h0 : Heap) (n0 : Nat) : Option Value → Heap → List Loc → Prop := fun v h L => ∃ t k, v = none ∧ Fr n0 L ∧ Keep h0 h [b] ∧ n0 ≤ t ∧ h0.size ≤ t ∧ Fld Z h b "java/lang/String" "value" "[B" (.ref t) ∧ Fld Z h b "java/lang/String" "coder" "B" (.int 0) ∧ Arv Z h t k .byte (3 : Int32) [(.int x0), (.int x1), (.int x2)] (.int 0)
theorem own_rm10a3 (l : Launch) (Z : State) (a0 : Array Value) (hw : own_W a0 Z) (b : Addr) (arr : Addr) (ka : ClassId) (y0 y1 y2 y3 y4 y5 y6 y7 st x0 x1 x2 : Int32) (cs : Int32) (fm : Value) (u8 : Addr) (h0 : Heap) (n0 : Nat) (Z0 : n0 ≤ h0.size) (O0 : Old Z n0 h0) (E_b : Exa Z h0 b "java/lang/String") (F_v : Fld Z h0 b "java/lang/String" "value" "[B" .null) (F_c : Fld Z h0 b "java/lang/String" "coder" "B" (.int 0)) (g_b : n0 ≤ b) (V_a : Arv Z h0 arr ka .byte (8 : Int32) [(.int y0), (.int y1), (.int y2), (.int y3), (.int y4), (.int y5), (.int y6), (.int y7)] (.int 0)) (hYX : own_YX y0 y1 y2 y3 y4 y5 y6 y7 st x0 x1 x2) (nba : b ≠ arr) (ha0 : ¬ x0 < (0 : Int32)) (ha1 : ¬ x1 < (0 : Int32)) (ha2 : ¬ x2 < (0 : Int32)) (HB : own_BB Z cs fm u8) :
  own_MF l Z own_y21 (Jvm.Cond.codeWith own_y21 jdk_42_method_11_code 11 none [((800 : Nat), (813 : Nat), (816 : Nat), (202 : Nat))]) [] own_r10a3 #[(.ref b), (.ref u8), (.ref arr), (.int st), (.int 3)] h0 (own_Q10a3 Z b arr ka y0 y1 y2 y3 y4 y5 y6 y7 st x0 x1 x2 cs fm u8 h0 n0) := by
 refine own_open (plainFor_of_name own_pn1) hisWith (Ls := #[vr b, vr u8, vr arr, vi st, vi 3, .unset, .unset, .unset, .unset, .unset, .unset]) ?_
 intro p e s m below meth c s₁ Bd hZ hx hby hml hown X0 e0
 obtain ⟨hcs, -, S_cs, -, -, -, -, -, S_ui, E_u8⟩ := id HB
 have N0 := Fr.nil n0
 have hnm := (name_of_methodNamed Bd.named Bd.method).1
 obtain ⟨ho, hx0, hx1, hx2⟩ := id hYX
 refine own_st (T' := s₁) (g' := (mkF m 1 #[vr b, vr u8, vr arr, vi st, vi 3, .unset, .unset, .unset, .unset, .unset, .unset] [(.ref b)])) (fun t k => ?_) ?_
 ·refine XS.aloadN X0.here hx rfl (hb hby own_d10_0) rfl rfl ?_
  exact k
 obtain ⟨T1, X1, e1, st1⟩ := initO X0 hx hZ hown (own_w hw 64 rfl) (own_w hw 14 rfl) (own_w hw 15 rfl) e0 (g := (mkF m 1 #[vr b, vr u8, vr arr, vi st, vi 3, .unset, .unset, .unset, .unset, .unset, .unset] [(.ref b)])) rfl (by rw [hml]; rfl) rfl (hb hby own_d10_1) (by decide) (W := 0) (by show 2 * 0 + _ ≤ _; exact Nat.le_of_eq rfl) (by decide)
 refine own_st (T' := T1) (g' := (mkF m 4 #[vr b, vr u8, vr arr, vi st, vi 3, .unset, .unset, .unset, .unset, .unset, .unset] [])) st1 ?_
 refine own_st (T' := T1) (g' := (mkF m 31 #[vr b, vr u8, vr arr, vi st, vi 3, .unset, .unset, .unset, .unset, .unset, .unset] [(.ref u8)])) (fun t k => ?_) ?_
 ·refine XS.iload X1.here hx rfl (hb hby own_d10_4) rfl ?_
  refine XS.ifYes X1.here hx rfl (pc0 := 6) (pc' := 30) rfl (hb hby own_d10_6) rfl ((if0 _ _).trans (feq (by decide : ¬ ((3 : Int32) = (0 : Int32)))).2) (by decide) (by decide) ?_
  refine XS.aloadN X1.here hx rfl (hb hby own_d10_30) rfl rfl ?_
  exact k
 have f2 := S_ui.ext O0.2
 obtain ⟨T3, X3, e3, st3⟩ := getS2 X1 hx hZ hown (host := "") (Or.inl (own_w hw 65 rfl)) Via.refl e1 f2 (g := (mkF m 31 #[vr b, vr u8, vr arr, vi st, vi 3, .unset, .unset, .unset, .unset, .unset, .unset] [(.ref u8)])) rfl (hb hby own_d10_31)
 refine own_st (T' := T3) (g' := (mkF m 34 #[vr b, vr u8, vr arr, vi st, vi 3, .unset, .unset, .unset, .unset, .unset, .unset] [(.ref u8), (.ref u8)])) st3 ?_
 refine own_st (T' := T3) (g' := (mkF m 37 #[vr b, vr u8, vr arr, vi st, vi 3, .unset, .unset, .unset, .unset, .unset, .unset] [])) (fun t k => ?_) ?_
 ·refine Jvm.RoadKit.acmp (g := (mkF m 34 #[vr b, vr u8, vr arr, vi st, vi 3, .unset, .unset, .unset, .unset, .unset, .unset] [(.ref u8), (.ref u8)])) X3 hx rfl rfl rfl (pc0 := 34) (pc' := 37) (same := true) rfl (hb hby own_d10_34) rfl (decide_eq_true (congrArg Value.ref (rfl : u8 = u8))) (by decide) (by decide) ?_
  exact k
 have f4 := S_cs.ext O0.2
 obtain ⟨T5, X5, e5, st5⟩ := getS2 X3 hx hZ hown (host := "") (Or.inl (own_w hw 67 rfl)) Via.refl e3 f4 (g := (mkF m 37 #[vr b, vr u8, vr arr, vi st, vi 3, .unset, .unset, .unset, .unset, .unset, .unset] [])) rfl (hb hby own_d10_37)
 refine own_st (T' := T5) (g' := (mkF m 40 #[vr b, vr u8, vr arr, vi st, vi 3, .unset, .unset, .unset, .unset, .unset, .unset] [(.int cs)])) st5 ?_
 refine own_st (T' := T5) (g' := (mkF m 47 #[vr b, vr u8, vr arr, vi st, vi 3, .unset, .unset, .unset, .unset, .unset, .unset] [(.int 3), (.int st), (.ref arr)])) (fun t k => ?_) ?_
 ·refine XS.ifNo X5.here hx rfl (hb hby own_d10_40) rfl ((if0 _ _).trans (feq hcs).1) ?_
  refine XS.aloadN X5.here hx rfl (hb hby own_d10_43) rfl rfl ?_
  refine XS.iloadN X5.here hx rfl (hb hby own_d10_44) rfl ?_
  refine XS.iload X5.here hx rfl (hb hby own_d10_45) rfl ?_
  exact k
 obtain ⟨_, _, ⟨T6, L6, c6, n6⟩, -, X6, ⟨Lc6, hQ6, l6, y6, z6⟩, st6⟩ := Jvm.LawKit.callS X5 hx (y := own_y6) hown (om hZ hw 68 rfl) (om hZ hw 69 rfl) (om hZ hw 70 rfl) (om hZ hw 71 rfl) (by decide) (backOf (W := 0) (own_rm11a3 l Z a0 hw arr ka y0 y1 y2 y3 y4 y5 y6 y7 st x0 x1 x2 cs fm u8 h0 n0 Z0 O0 V_a ⟨ho, hx0, hx1, hx2⟩ ha0 ha1 ha2 HB) hZ (own_w hw 71 rfl) (own_w hw 70 rfl) (by decide) (by decide)) (g := (mkF m 47 #[vr b, vr u8, vr arr, vi st, vi 3, .unset, .unset, .unset, .unset, .unset, .unset] [(.int 3), (.int st), (.ref arr)])) rfl (by rw [hml]; rfl) (argsL := [(.ref arr), (.int st), (.int 3)]) (rest := []) (lenOf own_pd13 rfl) rfl (by show 2 * 0 + _ ≤ _; exact Nat.le_of_eq rfl) (hb hby own_d10_47) (fun _ _ => ⟨rfl, e5, (by decide : 0 + 0 ≤ _), (by decide : 0 + 0 ≤ _)⟩)
 dsimp only [Pt.U, Pt.locs, Pt.cells, Pt.slots] at X6 l6 y6 z6 st6 hQ6
 subst l6 y6 z6
 obtain ⟨rfl, N6q, e6⟩ := hQ6
 have N6 := Fr.app N0 N6q
 refine own_st (T' := T6) (g' := (mkF m 50 #[vr b, vr u8, vr arr, vi st, vi 3, .unset, .unset, .unset, .unset, .unset, .unset] [(.int 3)])) st6 ?_
 refine own_st (T' := T6) (g' := (mkF m 66 #[vr b, vr u8, vr arr, vi st, vi 3, vi 3, .unset, .unset, .unset, .unset, .unset] [(.int (st + (3 : Int32))), (.int st), (.ref arr), (.ref b)])) (fun t k => ?_) ?_
 ·refine XS.istore X6.here hx rfl (hb hby own_d10_50) rfl (l' := #[vr b, vr u8, vr arr, vi st, vi 3, vi 3, .unset, .unset, .unset, .unset, .unset]) rfl ?_
  refine XS.iload X6.here hx rfl (hb hby own_d10_52) rfl ?_
  refine XS.iload X6.here hx rfl (hb hby own_d10_54) rfl ?_
  refine XS.icmpNo X6.here hx rfl (hb hby own_d10_56) rfl (teq (rfl : (3 : Int32) = (3 : Int32))).2 ?_
  refine XS.aloadN X6.here hx rfl (hb hby own_d10_59) rfl rfl ?_
  refine XS.aloadN X6.here hx rfl (hb hby own_d10_60) rfl rfl ?_
  refine XS.iloadN X6.here hx rfl (hb hby own_d10_61) rfl ?_
  refine XS.iloadN X6.here hx rfl (hb hby own_d10_62) rfl ?_
  refine XS.iload X6.here hx rfl (hb hby own_d10_63) rfl ?_
  refine XS.iadd X6.here hx rfl (hb hby own_d10_65) rfl ?_
  exact k
 obtain ⟨_, _, ⟨T7, L7, c7, n7⟩, -, X7, ⟨Lc7, hQ7, l7, y7, z7⟩, st7⟩ := Jvm.LawKit.callS X6 hx (y := own_y9) hown (om hZ hw 72 rfl) (om hZ hw 73 rfl) (om hZ hw 74 rfl) (om hZ hw 75 rfl) (by decide) (backOf (W := 1) (own_rm12_3 l Z a0 hw arr ka y0 y1 y2 y3 y4 y5 y6 y7 st x0 x1 x2 cs fm u8 h0 n0 Z0 O0 V_a ⟨ho, hx0, hx1, hx2⟩ HB) hZ (own_w hw 75 rfl) (own_w hw 74 rfl) (by decide) (by decide)) (g := (mkF m 66 #[vr b, vr u8, vr arr, vi st, vi 3, vi 3, .unset, .unset, .unset, .unset, .unset] [(.int (st + (3 : Int32))), (.int st), (.ref arr), (.ref b)])) rfl (by rw [hml]; rfl) (argsL := [(.ref arr), (.int st), (.int (st + (3 : Int32)))]) (rest := [(.ref b)]) (lenOf own_pd4 rfl) rfl (by show 2 * 0 + _ ≤ _; exact Nat.le_of_eq rfl) (hb hby own_d10_66) (fun _ _ => ⟨rfl, e6, (by decide : 0 + 1 ≤ _), (by decide : 0 + 3 ≤ _)⟩)
 dsimp only [Pt.U, Pt.locs, Pt.cells, Pt.slots] at X7 l7 y7 z7 st7 hQ7
 subst l7 y7 z7
 obtain ⟨h7, e7⟩ : ∃ z, T7.heap = z := ⟨_, rfl⟩
 rw [e7] at hQ7
 obtain ⟨r7, k7, rfl, N7q, Kc7, g7, hz7, Vc7⟩ := hQ7
 have N7 := Fr.app N6 N7q
 have ne_b_r7 : b ≠ r7 := Nat.ne_of_lt (Nat.lt_of_lt_of_le E_b.lt hz7)
 have ne_arr_r7 : arr ≠ r7 := Nat.ne_of_lt (Nat.lt_of_lt_of_le V_a.lt hz7)
 have f8 := E_u8.ext O0.2
 have ne_u8_r7 : u8 ≠ r7 := Nat.ne_of_lt (Nat.lt_of_lt_of_le f8.lt hz7)
 have hwr7 : h0.size ≤ r7 := Nat.le_trans (Keep.refl h0 [b]).1 hz7
 have K7 : Keep h0 h7 [b] := (Keep.refl h0 [b]).trans Kc7 all0
 have Z7 : n0 ≤ h7.size := Nat.le_trans Z0 Kc7.1
 have O7 := O0.keep Kc7 all0
 refine own_st (T' := T7) (g' := (mkF m 69 #[vr b, vr u8, vr arr, vi st, vi 3, vi 3, .unset, .unset, .unset, .unset, .unset] [(.ref r7), (.ref b)])) st7 ?_
 have f9 := F_v.keep Kc7 nin0
 have f10 := E_b.keep Kc7
 obtain ⟨T11, h11, X11, e11, W11, st11⟩ := putF X7 hx hZ hown (host := "") (Or.inl (own_w hw 87 rfl)) Via.refl e7 f9 f10 (Or.inr ⟨(own_w hw 88 rfl), rfl, hnm⟩) (own_w hw 36 rfl) (ty := (.array .byte)) (by decide) rfl rfl (g := (mkF m 69 #[vr b, vr u8, vr arr, vi st, vi 3, vi 3, .unset, .unset, .unset, .unset, .unset] [(.ref r7), (.ref b)])) rfl rfl (hb hby own_d10_69)
 have N11 := Fr.snoc X11 N7 g_b
 have K11 : Keep h0 h11 [b] := K7.wr W11 (Or.inl (List.mem_of_getElem? (i := 0) rfl))
 have Z11 : n0 ≤ h11.size := Nat.le_trans Z7 (Keep.of_wr W11).1
 have O11 := O7.wr W11 g_b
 have fw11 := (f9.same W11)
 refine own_st (T' := T11) (g' := (mkF m 72 #[vr b, vr u8, vr arr, vi st, vi 3, vi 3, .unset, .unset, .unset, .unset, .unset] [])) st11 ?_
 refine own_st (T' := T11) (g' := (mkF m 74 #[vr b, vr u8, vr arr, vi st, vi 3, vi 3, .unset, .unset, .unset, .unset, .unset] [(.int 0), (.ref b)])) (fun t k => ?_) ?_
 ·refine XS.aloadN X11.here hx rfl (hb hby own_d10_72) rfl rfl ?_
  refine XS.iconst X11.here hx rfl (hb hby own_d10_73) ?_
  exact k
 have f12 := (F_c.keep Kc7 nin0).other W11 (Or.inr (slot_ne (Or.inr (own_w hw 90 rfl)) (Or.inr (own_w hw 88 rfl)) (by decide) (t := .byte) (t' := (.array .byte)) (by decide) (by decide)))
 have f13 := f10.wr W11
 obtain ⟨T14, h14, X14, e14, W14, st14⟩ := putFN X11 hx hZ hown (own_w hw 89 rfl) Via.refl e11 f12 f13 (Or.inr ⟨(own_w hw 90 rfl), rfl, hnm⟩) (own_w hw 36 rfl) (ty := .byte) (v' := (.int 0)) (by decide) rfl rfl (g := (mkF m 74 #[vr b, vr u8, vr arr, vi st, vi 3, vi 3, .unset, .unset, .unset, .unset, .unset] [(.int 0), (.ref b)])) rfl rfl (hb hby own_d10_74)
 have N14 := Fr.snoc X14 N11 g_b
 have K14 : Keep h0 h14 [b] := K11.wr W14 (Or.inl (List.mem_of_getElem? (i := 0) rfl))
 have Z14 : n0 ≤ h14.size := Nat.le_trans Z11 (Keep.of_wr W14).1
 have O14 := O11.wr W14 g_b
 have fw14 := (f12.same W14)
 refine own_st (T' := T14) (g' := (mkF m 77 #[vr b, vr u8, vr arr, vi st, vi 3, vi 3, .unset, .unset, .unset, .unset, .unset] [])) st14 ?_
 have f15 := fw11.other W14 (Or.inr (slot_ne (Or.inr (own_w hw 88 rfl)) (Or.inr (own_w hw 90 rfl)) (by decide) (t := (.array .byte)) (t' := .byte) (by decide) (by decide)))
 have f16 := (Vc7.other W11 (Ne.symm ne_b_r7)).other W14 (Ne.symm ne_b_r7)
 exact own_retV X14 hx Bd (hb hby own_d10_77) e14 (⟨r7, k7, rfl, N14, K14, g7, hwr7, f15, fw14, f16⟩) (by decide) (by decide)
def own_r6a3 : Room := { frames := 4, cells := 1, slots := 3, locals := 71 }
def own_Q6a3 (Z : State) (b : Addr) (arr : Addr) (ka : ClassId) (y0 y1 y2 y3 y4 y5 y6 y7 st x0 x1 x2 : Int32) (cs : Int32) (fm : Value) (u8 : Addr) (h0 : Heap) (n0 : Nat) : Option Value → Heap → List Loc → Prop := fun v h L => ∃ t k, v = none ∧ Fr n0 L ∧ Keep h0 h [b] ∧ n0 ≤ t ∧ h0.size ≤ t ∧ Fld Z h b "java/lang/String" "value" "[B" (.ref t) ∧ Fld Z h b "java/lang/String" "coder" "B" (.int 0) ∧ Arv Z h t k .byte (3 : Int32) [(.int x0), (.int x1), (.int x2)] (.int 0)
theorem own_rm6a3 (l : Launch) (Z : State) (a0 : Array Value) (hw : own_W a0 Z) (b : Addr) (arr : Addr) (ka : ClassId) (y0 y1 y2 y3 y4 y5 y6 y7 st x0 x1 x2 : Int32) (cs : Int32) (fm : Value) (u8 : Addr) (h0 : Heap) (n0 : Nat) (Z0 : n0 ≤ h0.size) (O0 : Old Z n0 h0) (E_b : Exa Z h0 b "java/lang/String") (F_v : Fld Z h0 b "java/lang/String" "value" "[B" .null) (F_c : Fld Z h0 b "java/lang/String" "coder" "B" (.int 0)) (g_b : n0 ≤ b) (V_a : Arv Z h0 arr ka .byte (8 : Int32) [(.int y0), (.int y1), (.int y2), (.int y3), (.int y4), (.int y5), (.int y6), (.int y7)] (.int 0)) (hYX : own_YX y0 y1 y2 y3 y4 y5 y6 y7 st x0 x1 x2) (nba : b ≠ arr) (ha0 : ¬ x0 < (0 : Int32)) (ha1 : ¬ x1 < (0 : Int32)) (ha2 : ¬ x2 < (0 : Int32)) (HB : own_BB Z cs fm u8) :
  own_MF l Z own_y22 (Jvm.Cond.code own_y22 jdk_42_method_10_code 5 none) [] own_r6a3 #[(.ref b), (.ref arr), (.int st), (.int 3), (.ref u8)] h0 (own_Q6a3 Z b arr ka y0 y1 y2 y3 y4 y5 y6 y7 st x0 x1 x2 cs fm u8 h0 n0) := by
 refine own_open (plainFor_of_name own_pn1) hisR (Ls := #[vr b, vr arr, vi st, vi 3, vr u8]) ?_
 intro p e s m below meth c s₁ Bd hZ hx hby hml hown X0 e0
 obtain ⟨-, -, -, -, -, -, -, -, -, E_u8⟩ := id HB
 have N0 := Fr.nil n0
 obtain ⟨ho, hx0, hx1, hx2⟩ := id hYX
 refine own_st (T' := s₁) (g' := (mkF m 3 #[vr b, vr arr, vi st, vi 3, vr u8] [(.ref u8), (.ref b)])) (fun t k => ?_) ?_
 ·refine XS.aloadN X0.here hx rfl (hb hby own_d6_0) rfl rfl ?_
  refine XS.aload X0.here hx rfl (hb hby own_d6_1) rfl rfl ?_
  exact k
 obtain ⟨_, _, ⟨T1, L1, c1, n1⟩, -, X1, ⟨Lc1, hQ1, l1, y1, z1⟩, st1⟩ := Jvm.LawKit.callS X0 hx (y := own_y2) hown (om hZ hw 46 rfl) (om hZ hw 47 rfl) (om hZ hw 48 rfl) (om hZ hw 49 rfl) (by decide) (backOf (W := 1) (own_rm7 l Z a0 hw u8 cs fm u8 h0 n0 Z0 O0 HB) hZ (own_w hw 49 rfl) (own_w hw 48 rfl) (by decide) (by decide)) (g := (mkF m 3 #[vr b, vr arr, vi st, vi 3, vr u8] [(.ref u8), (.ref b)])) rfl (by rw [hml]; rfl) (argsL := [(.ref u8)]) (rest := [(.ref b)]) (lenOf own_pd14 rfl) rfl (by show 2 * 0 + _ ≤ _; exact Nat.le_of_eq rfl) (hb hby own_d6_3) (fun _ _ => ⟨rfl, e0, (by decide : 0 + 0 ≤ _), (by decide : 0 + 0 ≤ _)⟩)
 dsimp only [Pt.U, Pt.locs, Pt.cells, Pt.slots] at X1 l1 y1 z1 st1 hQ1
 subst l1 y1 z1
 obtain ⟨rfl, N1q, e1⟩ := hQ1
 have N1 := Fr.app N0 N1q
 refine own_st (T' := T1) (g' := (mkF m 6 #[vr b, vr arr, vi st, vi 3, vr u8] [(.ref u8), (.ref b)])) st1 ?_
 have f2 := E_u8.ext O0.2
 obtain ⟨T3, X3, e3, st3⟩ := castY X1 hx hZ hown (own_w hw 50 rfl) e1 (Ins.of_exa f2 (own_w hw 51 rfl)) (g := (mkF m 6 #[vr b, vr arr, vi st, vi 3, vr u8] [(.ref u8), (.ref b)])) rfl rfl (hb hby own_d6_6)
 refine own_st (T' := T3) (g' := (mkF m 9 #[vr b, vr arr, vi st, vi 3, vr u8] [(.ref u8), (.ref b)])) st3 ?_
 refine own_st (T' := T3) (g' := (mkF m 13 #[vr b, vr arr, vi st, vi 3, vr u8] [(.ref arr), (.int 3), (.int st), (.ref arr), (.ref u8), (.ref b)])) (fun t k => ?_) ?_
 ·refine XS.aloadN X3.here hx rfl (hb hby own_d6_9) rfl rfl ?_
  refine XS.iloadN X3.here hx rfl (hb hby own_d6_10) rfl ?_
  refine XS.iloadN X3.here hx rfl (hb hby own_d6_11) rfl ?_
  refine XS.aloadN X3.here hx rfl (hb hby own_d6_12) rfl rfl ?_
  exact k
 obtain ⟨cl4, Ar4, q4, S4, M4, H4, G4⟩ := id V_a
 refine own_st (T' := T3) (g' := (mkF m 14 #[vr b, vr arr, vi st, vi 3, vr u8] [(.int 8), (.int 3), (.int st), (.ref arr), (.ref u8), (.ref b)])) (fun t k => ?_) ?_
 ·refine X3.arraylength hx (by rw [e3]; exact Ar4.1) (State.isArrayOf_alike hZ.alike Ar4.2.1) (g := (mkF m 13 #[vr b, vr arr, vi st, vi 3, vr u8] [(.ref arr), (.int 3), (.int st), (.ref arr), (.ref u8), (.ref b)])) rfl rfl (hb hby own_d6_13) _ ?_
  rw [len_of S4 M4]
  exact k
 obtain ⟨_, _, ⟨T5, L5, c5, n5⟩, -, X5, ⟨Lc5, hQ5, l5, y5, z5⟩, st5⟩ := Jvm.LawKit.callS X3 hx (y := own_y4) hown (om hZ hw 52 rfl) (om hZ hw 53 rfl) (om hZ hw 37 rfl) (om hZ hw 54 rfl) (by decide) (backOf (W := 3) (own_rm8 l Z a0 hw st (3 : Int32) (8 : Int32) cs fm u8 h0 n0 Z0 O0 (by rcases ho with rfl|rfl|rfl|rfl<;>decide) (by rcases ho with rfl|rfl|rfl|rfl<;>decide) HB) hZ (own_w hw 54 rfl) (own_w hw 37 rfl) (by decide) (by decide)) (g := (mkF m 14 #[vr b, vr arr, vi st, vi 3, vr u8] [(.int 8), (.int 3), (.int st), (.ref arr), (.ref u8), (.ref b)])) rfl (by rw [hml]; rfl) (argsL := [(.int st), (.int 3), (.int 8)]) (rest := [(.ref arr), (.ref u8), (.ref b)]) (lenOf own_pd7 rfl) rfl (by show 2 * 0 + _ ≤ _; exact Nat.le_of_eq rfl) (hb hby own_d6_14) (fun _ _ => ⟨rfl, e3, (by decide : 0 + 0 ≤ _), (by decide : 0 + 0 ≤ _)⟩)
 dsimp only [Pt.U, Pt.locs, Pt.cells, Pt.slots] at X5 l5 y5 z5 st5 hQ5
 subst l5 y5 z5
 obtain ⟨rfl, N5q, e5⟩ := hQ5
 have N5 := Fr.app N1 N5q
 refine own_st (T' := T5) (g' := (mkF m 17 #[vr b, vr arr, vi st, vi 3, vr u8] [(.int st), (.ref arr), (.ref u8), (.ref b)])) st5 ?_
 refine own_st (T' := T5) (g' := (mkF m 18 #[vr b, vr arr, vi st, vi 3, vr u8] [(.int 3), (.int st), (.ref arr), (.ref u8), (.ref b)])) (fun t k => ?_) ?_
 ·refine XS.iloadN X5.here hx rfl (hb hby own_d6_17) rfl ?_
  exact k
 obtain ⟨_, _, ⟨T6, L6, c6, n6⟩, -, X6, ⟨Lc6, hQ6, l6, y6, z6⟩, st6⟩ := X5.specialBackH hx (y := own_y21) rfl hown (om hZ hw 60 rfl) (om hZ hw 61 rfl) (om hZ hw 63 rfl) (by decide) (backOfWith (W := 0) (own_rm10a3 l Z a0 hw b arr ka y0 y1 y2 y3 y4 y5 y6 y7 st x0 x1 x2 cs fm u8 h0 n0 Z0 O0 E_b F_v F_c g_b V_a ⟨ho, hx0, hx1, hx2⟩ nba ha0 ha1 ha2 HB) hZ (own_w hw 63 rfl) (own_w hw 37 rfl) (by decide) (by decide)) (g := (mkF m 18 #[vr b, vr arr, vi st, vi 3, vr u8] [(.int 3), (.int st), (.ref arr), (.ref u8), (.ref b)])) rfl (by rw [hml]; rfl) (Steps.refl _) (a := b) (argsL := [(.ref u8), (.ref arr), (.int st), (.int 3)]) (rest := []) (lenOf own_pd15 rfl) rfl (by show 2 * 0 + _ ≤ _; exact Nat.le_of_eq rfl) (hb hby own_d6_18) (fun _ _ => ⟨rfl, e5, (by decide : 0 + 1 ≤ _), (by decide : 0 + 3 ≤ _)⟩)
 dsimp only [Pt.U, Pt.locs, Pt.cells, Pt.slots] at X6 l6 y6 z6 st6 hQ6
 subst l6 y6 z6
 obtain ⟨h6, e6⟩ : ∃ z, T6.heap = z := ⟨_, rfl⟩
 rw [e6] at hQ6
 obtain ⟨t6, k6, rfl, N6q, Kc6, g6, hz6, Fv6, Fo6, Vc6⟩ := hQ6
 have N6 := Fr.app N5 N6q
 have ne_b_t6 : b ≠ t6 := Nat.ne_of_lt (Nat.lt_of_lt_of_le E_b.lt hz6)
 have ne_arr_t6 : arr ≠ t6 := Nat.ne_of_lt (Nat.lt_of_lt_of_le V_a.lt hz6)
 have ne_u8_t6 : u8 ≠ t6 := Nat.ne_of_lt (Nat.lt_of_lt_of_le f2.lt hz6)
 have hwt6 : h0.size ≤ t6 := Nat.le_trans (Keep.refl h0 [b]).1 hz6
 have K6 : Keep h0 h6 [b] := (Keep.refl h0 [b]).trans Kc6 (allS (Or.inl (List.mem_of_getElem? (i := 0) rfl)) all0)
 have Z6 : n0 ≤ h6.size := Nat.le_trans Z0 Kc6.1
 have O6 := O0.keep Kc6 (allS g_b all0)
 refine own_tr (T' := T6) (g' := (mkF m 21 #[vr b, vr arr, vi st, vi 3, vr u8] [])) st6 ?_
 exact own_retV X6 hx Bd (hb hby own_d6_21) e6 (⟨t6, k6, rfl, N6, K6, g6, hwt6, Fv6, Fo6, Vc6⟩) (by decide) (by decide)
def own_r10l2 : Room := { frames := 3, cells := 2, slots := 3, locals := 48 }
def own_Q10l2 (Z : State) (b : Addr) (arr : Addr) (ka : ClassId) (y0 y1 y2 y3 y4 y5 y6 y7 st x0 x1 x2 : Int32) (cs : Int32) (fm : Value) (u8 : Addr) (h0 : Heap) (n0 : Nat) : Option Value → Heap → List Loc → Prop := fun v h L => ∃ t k, v = none ∧ Fr n0 L ∧ Keep h0 h [b] ∧ n0 ≤ t ∧ h0.size ≤ t ∧ Fld Z h b "java/lang/String" "value" "[B" (.ref t) ∧ Fld Z h b "java/lang/String" "coder" "B" (.int 0) ∧ Arv Z h t k .byte (1 : Int32) [(.int ((own_d2 x0 x1).toInt8.toInt32))] (.int 0)
theorem own_rm10l2 (l : Launch) (Z : State) (a0 : Array Value) (hw : own_W a0 Z) (b : Addr) (arr : Addr) (ka : ClassId) (y0 y1 y2 y3 y4 y5 y6 y7 st x0 x1 x2 : Int32) (cs : Int32) (fm : Value) (u8 : Addr) (h0 : Heap) (n0 : Nat) (Z0 : n0 ≤ h0.size) (O0 : Old Z n0 h0) (E_b : Exa Z h0 b "java/lang/String") (F_v : Fld Z h0 b "java/lang/String" "value" "[B" .null) (F_c : Fld Z h0 b "java/lang/String" "coder" "B" (.int 0)) (g_b : n0 ≤ b) (V_a : Arv Z h0 arr ka .byte (8 : Int32) [(.int y0), (.int y1), (.int y2), (.int y3), (.int y4), (.int y5), (.int y6), (.int y7)] (.int 0)) (hYX : own_YX y0 y1 y2 y3 y4 y5 y6 y7 st x0 x1 x2) (nba : b ≠ arr) (hm0 : x0 < (0 : Int32)) (hle : own_lead x0) (hco : own_cont x1) (hla : own_lat x0) (HB : own_BB Z cs fm u8) :
  own_MF l Z own_y21 (Jvm.Cond.codeWith own_y21 jdk_42_method_11_code 11 none [((800 : Nat), (813 : Nat), (816 : Nat), (202 : Nat))]) [] own_r10l2 #[(.ref b), (.ref u8), (.ref arr), (.int st), (.int 2)] h0 (own_Q10l2 Z b arr ka y0 y1 y2 y3 y4 y5 y6 y7 st x0 x1 x2 cs fm u8 h0 n0) := by
 refine own_open (plainFor_of_name own_pn1) hisWith (Ls := #[vr b, vr u8, vr arr, vi st, vi 2, .unset, .unset, .unset, .unset, .unset, .unset]) ?_
 intro p e s m below meth c s₁ Bd hZ hx hby hml hown X0 e0
 obtain ⟨hcs, -, S_cs, -, -, -, -, -, S_ui, E_u8⟩ := id HB
 have N0 := Fr.nil n0
 have hnm := (name_of_methodNamed Bd.named Bd.method).1
 obtain ⟨ho, hx0, hx1, hx2⟩ := id hYX
 refine own_st (T' := s₁) (g' := (mkF m 1 #[vr b, vr u8, vr arr, vi st, vi 2, .unset, .unset, .unset, .unset, .unset, .unset] [(.ref b)])) (fun t k => ?_) ?_
 ·refine XS.aloadN X0.here hx rfl (hb hby own_d10_0) rfl rfl ?_
  exact k
 obtain ⟨T1, X1, e1, st1⟩ := initO X0 hx hZ hown (own_w hw 64 rfl) (own_w hw 14 rfl) (own_w hw 15 rfl) e0 (g := (mkF m 1 #[vr b, vr u8, vr arr, vi st, vi 2, .unset, .unset, .unset, .unset, .unset, .unset] [(.ref b)])) rfl (by rw [hml]; rfl) rfl (hb hby own_d10_1) (by decide) (W := 0) (by show 2 * 0 + _ ≤ _; exact Nat.le_of_eq rfl) (by decide)
 refine own_st (T' := T1) (g' := (mkF m 4 #[vr b, vr u8, vr arr, vi st, vi 2, .unset, .unset, .unset, .unset, .unset, .unset] [])) st1 ?_
 refine own_st (T' := T1) (g' := (mkF m 31 #[vr b, vr u8, vr arr, vi st, vi 2, .unset, .unset, .unset, .unset, .unset, .unset] [(.ref u8)])) (fun t k => ?_) ?_
 ·refine XS.iload X1.here hx rfl (hb hby own_d10_4) rfl ?_
  refine XS.ifYes X1.here hx rfl (pc0 := 6) (pc' := 30) rfl (hb hby own_d10_6) rfl ((if0 _ _).trans (feq (by decide : ¬ ((2 : Int32) = (0 : Int32)))).2) (by decide) (by decide) ?_
  refine XS.aloadN X1.here hx rfl (hb hby own_d10_30) rfl rfl ?_
  exact k
 have f2 := S_ui.ext O0.2
 obtain ⟨T3, X3, e3, st3⟩ := getS2 X1 hx hZ hown (host := "") (Or.inl (own_w hw 65 rfl)) Via.refl e1 f2 (g := (mkF m 31 #[vr b, vr u8, vr arr, vi st, vi 2, .unset, .unset, .unset, .unset, .unset, .unset] [(.ref u8)])) rfl (hb hby own_d10_31)
 refine own_st (T' := T3) (g' := (mkF m 34 #[vr b, vr u8, vr arr, vi st, vi 2, .unset, .unset, .unset, .unset, .unset, .unset] [(.ref u8), (.ref u8)])) st3 ?_
 refine own_st (T' := T3) (g' := (mkF m 37 #[vr b, vr u8, vr arr, vi st, vi 2, .unset, .unset, .unset, .unset, .unset, .unset] [])) (fun t k => ?_) ?_
 ·refine Jvm.RoadKit.acmp (g := (mkF m 34 #[vr b, vr u8, vr arr, vi st, vi 2, .unset, .unset, .unset, .unset, .unset, .unset] [(.ref u8), (.ref u8)])) X3 hx rfl rfl rfl (pc0 := 34) (pc' := 37) (same := true) rfl (hb hby own_d10_34) rfl (decide_eq_true (congrArg Value.ref (rfl : u8 = u8))) (by decide) (by decide) ?_
  exact k
 have f4 := S_cs.ext O0.2
 obtain ⟨T5, X5, e5, st5⟩ := getS2 X3 hx hZ hown (host := "") (Or.inl (own_w hw 67 rfl)) Via.refl e3 f4 (g := (mkF m 37 #[vr b, vr u8, vr arr, vi st, vi 2, .unset, .unset, .unset, .unset, .unset, .unset] [])) rfl (hb hby own_d10_37)
 refine own_st (T' := T5) (g' := (mkF m 40 #[vr b, vr u8, vr arr, vi st, vi 2, .unset, .unset, .unset, .unset, .unset, .unset] [(.int cs)])) st5 ?_
 refine own_st (T' := T5) (g' := (mkF m 47 #[vr b, vr u8, vr arr, vi st, vi 2, .unset, .unset, .unset, .unset, .unset, .unset] [(.int 2), (.int st), (.ref arr)])) (fun t k => ?_) ?_
 ·refine XS.ifNo X5.here hx rfl (hb hby own_d10_40) rfl ((if0 _ _).trans (feq hcs).1) ?_
  refine XS.aloadN X5.here hx rfl (hb hby own_d10_43) rfl rfl ?_
  refine XS.iloadN X5.here hx rfl (hb hby own_d10_44) rfl ?_
  refine XS.iload X5.here hx rfl (hb hby own_d10_45) rfl ?_
  exact k
 obtain ⟨_, _, ⟨T6, L6, c6, n6⟩, -, X6, ⟨Lc6, hQ6, l6, y6, z6⟩, st6⟩ := Jvm.LawKit.callS X5 hx (y := own_y6) hown (om hZ hw 68 rfl) (om hZ hw 69 rfl) (om hZ hw 70 rfl) (om hZ hw 71 rfl) (by decide) (backOf (W := 0) (own_rm11m2 l Z a0 hw arr ka y0 y1 y2 y3 y4 y5 y6 y7 st x0 x1 x2 cs fm u8 h0 n0 Z0 O0 V_a ⟨ho, hx0, hx1, hx2⟩ hm0 HB) hZ (own_w hw 71 rfl) (own_w hw 70 rfl) (by decide) (by decide)) (g := (mkF m 47 #[vr b, vr u8, vr arr, vi st, vi 2, .unset, .unset, .unset, .unset, .unset, .unset] [(.int 2), (.int st), (.ref arr)])) rfl (by rw [hml]; rfl) (argsL := [(.ref arr), (.int st), (.int 2)]) (rest := []) (lenOf own_pd13 rfl) rfl (by show 2 * 0 + _ ≤ _; exact Nat.le_of_eq rfl) (hb hby own_d10_47) (fun _ _ => ⟨rfl, e5, (by decide : 0 + 0 ≤ _), (by decide : 0 + 0 ≤ _)⟩)
 dsimp only [Pt.U, Pt.locs, Pt.cells, Pt.slots] at X6 l6 y6 z6 st6 hQ6
 subst l6 y6 z6
 obtain ⟨rfl, N6q, e6⟩ := hQ6
 have N6 := Fr.app N0 N6q
 refine own_st (T' := T6) (g' := (mkF m 50 #[vr b, vr u8, vr arr, vi st, vi 2, .unset, .unset, .unset, .unset, .unset, .unset] [(.int 0)])) st6 ?_
 refine own_st (T' := T6) (g' := (mkF m 84 #[vr b, vr u8, vr arr, vi st, vi 2, vi 0, .unset, .unset, .unset, .unset, .unset] [(.int (st + (2 : Int32))), (.int st), (.ref arr)])) (fun t k => ?_) ?_
 ·refine XS.istore X6.here hx rfl (hb hby own_d10_50) rfl (l' := #[vr b, vr u8, vr arr, vi st, vi 2, vi 0, .unset, .unset, .unset, .unset, .unset]) rfl ?_
  refine XS.iload X6.here hx rfl (hb hby own_d10_52) rfl ?_
  refine XS.iload X6.here hx rfl (hb hby own_d10_54) rfl ?_
  refine XS.icmpYes X6.here hx rfl (pc0 := 56) (pc' := 78) rfl (hb hby own_d10_56) rfl (feq (by decide : ¬ ((0 : Int32) = (2 : Int32)))).2 (by decide) (by decide) ?_
  refine XS.aloadN X6.here hx rfl (hb hby own_d10_78) rfl rfl ?_
  refine XS.iloadN X6.here hx rfl (hb hby own_d10_79) rfl ?_
  refine XS.iloadN X6.here hx rfl (hb hby own_d10_80) rfl ?_
  refine XS.iload X6.here hx rfl (hb hby own_d10_81) rfl ?_
  refine XS.iadd X6.here hx rfl (hb hby own_d10_83) rfl ?_
  exact k
 obtain ⟨_, _, ⟨T7, L7, c7, n7⟩, -, X7, ⟨Lc7, hQ7, l7, y7, z7⟩, st7⟩ := Jvm.LawKit.callS X6 hx (y := own_y9) hown (om hZ hw 72 rfl) (om hZ hw 73 rfl) (om hZ hw 74 rfl) (om hZ hw 75 rfl) (by decide) (backOf (W := 0) (own_rm12_2 l Z a0 hw arr ka y0 y1 y2 y3 y4 y5 y6 y7 st x0 x1 x2 cs fm u8 h0 n0 Z0 O0 V_a ⟨ho, hx0, hx1, hx2⟩ HB) hZ (own_w hw 75 rfl) (own_w hw 74 rfl) (by decide) (by decide)) (g := (mkF m 84 #[vr b, vr u8, vr arr, vi st, vi 2, vi 0, .unset, .unset, .unset, .unset, .unset] [(.int (st + (2 : Int32))), (.int st), (.ref arr)])) rfl (by rw [hml]; rfl) (argsL := [(.ref arr), (.int st), (.int (st + (2 : Int32)))]) (rest := []) (lenOf own_pd4 rfl) rfl (by show 2 * 0 + _ ≤ _; exact Nat.le_of_eq rfl) (hb hby own_d10_84) (fun _ _ => ⟨rfl, e6, (by decide : 0 + 1 ≤ _), (by decide : 0 + 2 ≤ _)⟩)
 dsimp only [Pt.U, Pt.locs, Pt.cells, Pt.slots] at X7 l7 y7 z7 st7 hQ7
 subst l7 y7 z7
 obtain ⟨h7, e7⟩ : ∃ z, T7.heap = z := ⟨_, rfl⟩
 rw [e7] at hQ7
 obtain ⟨r7, k7, rfl, N7q, Kc7, g7, hz7, Vc7⟩ := hQ7
 have N7 := Fr.app N6 N7q
 have ne_b_r7 : b ≠ r7 := Nat.ne_of_lt (Nat.lt_of_lt_of_le E_b.lt hz7)
 have ne_arr_r7 : arr ≠ r7 := Nat.ne_of_lt (Nat.lt_of_lt_of_le V_a.lt hz7)
 have f8 := E_u8.ext O0.2
 have ne_u8_r7 : u8 ≠ r7 := Nat.ne_of_lt (Nat.lt_of_lt_of_le f8.lt hz7)
 have hwr7 : h0.size ≤ r7 := Nat.le_trans (Keep.refl h0 [b]).1 hz7
 have K7 : Keep h0 h7 [b] := (Keep.refl h0 [b]).trans Kc7 all0
 have Z7 : n0 ≤ h7.size := Nat.le_trans Z0 Kc7.1
 have O7 := O0.keep Kc7 all0
 refine own_st (T' := T7) (g' := (mkF m 87 #[vr b, vr u8, vr arr, vi st, vi 2, vi 0, .unset, .unset, .unset, .unset, .unset] [(.ref r7)])) st7 ?_
 refine own_st (T' := T7) (g' := (mkF m 107 #[vr b, vr u8, vr arr, vi st, vi 2, vi 0, vr r7, vi 1, .unset, .unset, .unset] [(.int 0), (.ref r7)])) (fun t k => ?_) ?_
 ·refine XS.astore X7.here hx rfl (hb hby own_d10_87) rfl rfl (l' := #[vr b, vr u8, vr arr, vi st, vi 2, vi 0, vr r7, .unset, .unset, .unset, .unset]) rfl ?_
  refine XS.iload X7.here hx rfl (hb hby own_d10_89) rfl ?_
  refine XS.istore X7.here hx rfl (hb hby own_d10_91) rfl (l' := #[vr b, vr u8, vr arr, vi st, vi 2, vi 0, vr r7, vi 0, .unset, .unset, .unset]) rfl ?_
  refine XS.iload X7.here hx rfl (hb hby own_d10_93) rfl ?_
  refine XS.iload X7.here hx rfl (hb hby own_d10_95) rfl ?_
  refine XS.icmpNo X7.here hx rfl (hb hby own_d10_97) rfl (tlt (by decide : (0 : Int32) < (2 : Int32))).2.1 ?_
  refine XS.aload X7.here hx rfl (hb hby own_d10_100) rfl rfl ?_
  refine XS.iload X7.here hx rfl (hb hby own_d10_102) rfl ?_
  refine XS.iinc X7.here hx rfl (hb hby own_d10_104) rfl (l' := #[vr b, vr u8, vr arr, vi st, vi 2, vi 0, vr r7, vi 1, .unset, .unset, .unset]) rfl ?_
  exact k
 obtain ⟨cl9, Ar9, q9, S9, M9, H9, G9⟩ := id Vc7
 refine own_st (T' := T7) (g' := (mkF m 152 #[vr b, vr u8, vr arr, vi st, vi 2, vi 0, vr r7, vi 1, vi x0, .unset, .unset] [(.int 1), (.ref r7)])) (fun t k => ?_) ?_
 ·refine X7.baloadBytes hx (j := (0 : Int32)) (v := (.int x0)) (by rw [e7]; exact Ar9.1) (State.isArrayOf_alike hZ.alike Ar9.2.1) Ar9.2.2 (inb_of S9 ⟨by decide, by decide⟩) (Has.at H9 (inb_of S9 ⟨by decide, by decide⟩) rfl) (g := (mkF m 107 #[vr b, vr u8, vr arr, vi st, vi 2, vi 0, vr r7, vi 1, .unset, .unset, .unset] [(.int 0), (.ref r7)])) rfl rfl (hb hby own_d10_107) _ ?_
  refine XS.istore X7.here hx rfl (hb hby own_d10_108) rfl (l' := #[vr b, vr u8, vr arr, vi st, vi 2, vi 0, vr r7, vi 1, vi x0, .unset, .unset]) rfl ?_
  refine XS.iload X7.here hx rfl (hb hby own_d10_110) rfl ?_
  refine XS.ifYes X7.here hx rfl (pc0 := 112) (pc' := 129) rfl (hb hby own_d10_112) rfl ((if0 _ _).trans (tlt hm0).1) (by decide) (by decide) ?_
  refine XS.iload X7.here hx rfl (hb hby own_d10_129) rfl ?_
  refine XS.sipush X7.here hx rfl (hb hby own_d10_131) ?_
  refine XS.iand X7.here hx rfl (hb hby own_d10_134) rfl ?_
  refine XS.sipush X7.here hx rfl (hb hby own_d10_135) ?_
  refine XS.icmpNo X7.here hx rfl (hb hby own_d10_138) rfl (teq hla).2 ?_
  refine XS.iload X7.here hx rfl (hb hby own_d10_141) rfl ?_
  refine XS.iload X7.here hx rfl (hb hby own_d10_143) rfl ?_
  refine XS.icmpNo X7.here hx rfl (hb hby own_d10_145) rfl (tlt (by decide : (1 : Int32) < (2 : Int32))).2.1 ?_
  refine XS.aload X7.here hx rfl (hb hby own_d10_148) rfl rfl ?_
  refine XS.iload X7.here hx rfl (hb hby own_d10_150) rfl ?_
  exact k
 obtain ⟨cl10, Ar10, q10, S10, M10, H10, G10⟩ := id Vc7
 refine own_st (T' := T7) (g' := (mkF m 173 #[vr b, vr u8, vr arr, vi st, vi 2, vi 1, vr r7, vi 1, vi x0, vi x1, .unset] [(.int x1), (.int x0), (.int 0), (.ref r7)])) (fun t k => ?_) ?_
 ·refine X7.baloadBytes hx (j := (1 : Int32)) (v := (.int x1)) (by rw [e7]; exact Ar10.1) (State.isArrayOf_alike hZ.alike Ar10.2.1) Ar10.2.2 (inb_of S10 ⟨by decide, by decide⟩) (Has.at H10 (inb_of S10 ⟨by decide, by decide⟩) rfl) (g := (mkF m 152 #[vr b, vr u8, vr arr, vi st, vi 2, vi 0, vr r7, vi 1, vi x0, .unset, .unset] [(.int 1), (.ref r7)])) rfl rfl (hb hby own_d10_152) _ ?_
  refine XS.istore X7.here hx rfl (hb hby own_d10_153) rfl (l' := #[vr b, vr u8, vr arr, vi st, vi 2, vi 0, vr r7, vi 1, vi x0, vi x1, .unset]) rfl ?_
  refine XS.iload X7.here hx rfl (hb hby own_d10_155) rfl ?_
  refine XS.bipush X7.here hx rfl (hb hby own_d10_157) ?_
  refine XS.icmpNo X7.here hx rfl (hb hby own_d10_159) rfl (tlt (own_cont_64 hco)).2.1 ?_
  refine XS.aload X7.here hx rfl (hb hby own_d10_162) rfl rfl ?_
  refine XS.iload X7.here hx rfl (hb hby own_d10_164) rfl ?_
  refine XS.iinc X7.here hx rfl (hb hby own_d10_166) rfl (l' := #[vr b, vr u8, vr arr, vi st, vi 2, vi 1, vr r7, vi 1, vi x0, vi x1, .unset]) rfl ?_
  refine XS.iload X7.here hx rfl (hb hby own_d10_169) rfl ?_
  refine XS.iload X7.here hx rfl (hb hby own_d10_171) rfl ?_
  exact k
 obtain ⟨_, _, ⟨T11, L11, c11, n11⟩, -, X11, ⟨Lc11, hQ11, l11, y11, z11⟩, st11⟩ := Jvm.LawKit.callS X7 hx (y := own_y12) hown (om hZ hw 151 rfl) (om hZ hw 152 rfl) (om hZ hw 37 rfl) (om hZ hw 153 rfl) (by decide) (backOf (W := 2) (own_rm31 l Z a0 hw x0 x1 cs fm u8 h7 n0 Z7 O7 HB) hZ (own_w hw 153 rfl) (own_w hw 37 rfl) (by decide) (by decide)) (g := (mkF m 173 #[vr b, vr u8, vr arr, vi st, vi 2, vi 1, vr r7, vi 1, vi x0, vi x1, .unset] [(.int x1), (.int x0), (.int 0), (.ref r7)])) rfl (by rw [hml]; rfl) (argsL := [(.int x0), (.int x1)]) (rest := [(.int 0), (.ref r7)]) (lenOf own_pd11 rfl) rfl (by show 2 * 0 + _ ≤ _; exact Nat.le_of_eq rfl) (hb hby own_d10_173) (fun _ _ => ⟨rfl, e7, (by decide : 1 + 0 ≤ _), (by decide : 2 + 0 ≤ _)⟩)
 dsimp only [Pt.U, Pt.locs, Pt.cells, Pt.slots] at X11 l11 y11 z11 st11 hQ11
 subst l11 y11 z11
 obtain ⟨rfl, N11q, e11⟩ := hQ11
 have N11 := Fr.app N7 N11q
 refine own_st (T' := T11) (g' := (mkF m 176 #[vr b, vr u8, vr arr, vi st, vi 2, vi 1, vr r7, vi 1, vi x0, vi x1, .unset] [(.int (own_d2 x0 x1)), (.int 0), (.ref r7)])) st11 ?_
 refine own_st (T' := T11) (g' := (mkF m 177 #[vr b, vr u8, vr arr, vi st, vi 2, vi 1, vr r7, vi 1, vi x0, vi x1, .unset] [(.int ((own_d2 x0 x1).toInt8.toInt32)), (.int 0), (.ref r7)])) (fun t k => ?_) ?_
 ·refine XS.i2b X11.here hx rfl (hb hby own_d10_176) rfl ?_
  exact k
 obtain ⟨cl12, Ar12, q12, S12, M12, H12, G12⟩ := id Vc7
 obtain ⟨T13, h13, X13, e13, W13, st13⟩ := stB X11 hx hZ e11 Ar12 (j := (0 : Int32)) (inb_of S12 ⟨by decide, by decide⟩) (g := (mkF m 177 #[vr b, vr u8, vr arr, vi st, vi 2, vi 1, vr r7, vi 1, vi x0, vi x1, .unset] [(.int ((own_d2 x0 x1).toInt8.toInt32)), (.int 0), (.ref r7)])) rfl rfl (hb hby own_d10_177)
 have N13 := Fr.snoc X13 N11 g7
 have K13 : Keep h0 h13 [b] := K7.wr W13 (Or.inr hwr7)
 have Z13 : n0 ≤ h13.size := Nat.le_trans Z7 (Keep.of_wr W13).1
 have O13 := O7.wr W13 g7
 have fw13 := (show Arv Z h13 r7 k7 .byte (2 : Int32) [(.int ((own_d2 x0 x1).toInt8.toInt32)), (.int x1)] (.int 0) by have q : Arv Z h13 r7 k7 .byte (2 : Int32) [(.int (((own_d2 x0 x1).toInt8.toInt32).toInt8.toInt32)), (.int x1)] (.int 0) := Arv.set Ar12 q12 S12 M12 H12 G12 (fits_nar_byte _) W13 0 rfl (Nat.le_of_ble_eq_true rfl); rw [own_bb (own_d2 x0 x1)] at q; exact q)
 refine own_st (T' := T13) (g' := (mkF m 178 #[vr b, vr u8, vr arr, vi st, vi 2, vi 1, vr r7, vi 1, vi x0, vi x1, .unset] [])) st13 ?_
 refine own_st (T' := T13) (g' := (mkF m 201 #[vr b, vr u8, vr arr, vi st, vi 2, vi 1, vr r7, vi 2, vi x0, vi x1, .unset] [(.ref r7), (.int 1)])) (fun t k => ?_) ?_
 ·refine XS.iinc X13.here hx rfl (hb hby own_d10_178) rfl (l' := #[vr b, vr u8, vr arr, vi st, vi 2, vi 1, vr r7, vi 2, vi x0, vi x1, .unset]) rfl ?_
  refine XS.goto X13.here hx rfl (pc0 := 181) (pc' := 93) rfl (hb hby own_d10_181) (by decide) (by decide) ?_
  refine XS.iload X13.here hx rfl (hb hby own_d10_93) rfl ?_
  refine XS.iload X13.here hx rfl (hb hby own_d10_95) rfl ?_
  refine XS.icmpYes X13.here hx rfl (pc0 := 97) (pc' := 190) rfl (hb hby own_d10_97) rfl (flt Int32.lt_irrefl).2.1 (by decide) (by decide) ?_
  refine XS.iload X13.here hx rfl (hb hby own_d10_190) rfl ?_
  refine XS.iload X13.here hx rfl (hb hby own_d10_192) rfl ?_
  refine XS.icmpNo X13.here hx rfl (hb hby own_d10_194) rfl (teq (rfl : (2 : Int32) = (2 : Int32))).2 ?_
  refine XS.iload X13.here hx rfl (hb hby own_d10_197) rfl ?_
  refine XS.aload X13.here hx rfl (hb hby own_d10_199) rfl rfl ?_
  exact k
 obtain ⟨cl14, Ar14, q14, S14, M14, H14, G14⟩ := id fw13
 refine own_st (T' := T13) (g' := (mkF m 209 #[vr b, vr u8, vr arr, vi st, vi 2, vi 1, vr r7, vi 2, vi x0, vi x1, .unset] [(.int 1), (.ref r7)])) (fun t k => ?_) ?_
 ·refine X13.arraylength hx (by rw [e13]; exact Ar14.1) (State.isArrayOf_alike hZ.alike Ar14.2.1) (g := (mkF m 201 #[vr b, vr u8, vr arr, vi st, vi 2, vi 1, vr r7, vi 2, vi x0, vi x1, .unset] [(.ref r7), (.int 1)])) rfl rfl (hb hby own_d10_201) _ ?_
  rw [len_of S14 M14]
  refine XS.icmpNo X13.here hx rfl (hb hby own_d10_202) rfl (feq (by decide : ¬ ((1 : Int32) = (2 : Int32)))).1 ?_
  refine XS.aload X13.here hx rfl (hb hby own_d10_205) rfl rfl ?_
  refine XS.iload X13.here hx rfl (hb hby own_d10_207) rfl ?_
  exact k
 obtain ⟨_, _, ⟨T15, L15, c15, n15⟩, -, X15, ⟨Lc15, hQ15, l15, y15, z15⟩, st15⟩ := Jvm.LawKit.callS X13 hx (y := own_y10) hown (om hZ hw 160 rfl) (om hZ hw 161 rfl) (om hZ hw 74 rfl) (om hZ hw 162 rfl) (by decide) (backOf (W := 0) (own_rm33_2_1 l Z a0 hw r7 k7 ((own_d2 x0 x1).toInt8.toInt32) x1 cs fm u8 h13 n0 Z13 O13 fw13 HB) hZ (own_w hw 162 rfl) (own_w hw 74 rfl) (by decide) (by decide)) (g := (mkF m 209 #[vr b, vr u8, vr arr, vi st, vi 2, vi 1, vr r7, vi 2, vi x0, vi x1, .unset] [(.int 1), (.ref r7)])) rfl (by rw [hml]; rfl) (argsL := [(.ref r7), (.int 1)]) (rest := []) (lenOf own_pd16 rfl) rfl (by show 2 * 0 + _ ≤ _; exact Nat.le_of_eq rfl) (hb hby own_d10_209) (fun _ _ => ⟨rfl, e13, (by decide : 1 + 1 ≤ _), (by decide : 2 + 1 ≤ _)⟩)
 dsimp only [Pt.U, Pt.locs, Pt.cells, Pt.slots] at X15 l15 y15 z15 st15 hQ15
 subst l15 y15 z15
 obtain ⟨h15, e15⟩ : ∃ z, T15.heap = z := ⟨_, rfl⟩
 rw [e15] at hQ15
 obtain ⟨r15, k15, rfl, N15q, Kc15, g15, hz15, Vc15⟩ := hQ15
 have N15 := Fr.app N13 N15q
 have f16 := (E_b.keep Kc7).wr W13
 have ne_b_r15 : b ≠ r15 := Nat.ne_of_lt (Nat.lt_of_lt_of_le f16.lt hz15)
 have f17 := (V_a.keep Kc7 nin0).other W13 ne_arr_r7
 have ne_arr_r15 : arr ≠ r15 := Nat.ne_of_lt (Nat.lt_of_lt_of_le f17.lt hz15)
 have f18 := E_u8.ext O13.2
 have ne_u8_r15 : u8 ≠ r15 := Nat.ne_of_lt (Nat.lt_of_lt_of_le f18.lt hz15)
 have ne_r7_r15 : r7 ≠ r15 := Nat.ne_of_lt (Nat.lt_of_lt_of_le fw13.lt hz15)
 have hwr15 : h0.size ≤ r15 := Nat.le_trans K13.1 hz15
 have K15 : Keep h0 h15 [b] := K13.trans Kc15 all0
 have Z15 : n0 ≤ h15.size := Nat.le_trans Z13 Kc15.1
 have O15 := O13.keep Kc15 all0
 refine own_st (T' := T15) (g' := (mkF m 212 #[vr b, vr u8, vr arr, vi st, vi 2, vi 1, vr r7, vi 2, vi x0, vi x1, .unset] [(.ref r15)])) st15 ?_
 refine own_st (T' := T15) (g' := (mkF m 217 #[vr b, vr u8, vr arr, vi st, vi 2, vi 1, vr r15, vi 2, vi x0, vi x1, .unset] [(.ref r15), (.ref b)])) (fun t k => ?_) ?_
 ·refine XS.astore X15.here hx rfl (hb hby own_d10_212) rfl rfl (l' := #[vr b, vr u8, vr arr, vi st, vi 2, vi 1, vr r15, vi 2, vi x0, vi x1, .unset]) rfl ?_
  refine XS.aloadN X15.here hx rfl (hb hby own_d10_214) rfl rfl ?_
  refine XS.aload X15.here hx rfl (hb hby own_d10_215) rfl rfl ?_
  exact k
 have f19 := ((F_v.keep Kc7 nin0).other W13 (Or.inl ne_b_r7)).keep Kc15 nin0
 have f20 := f16.keep Kc15
 obtain ⟨T21, h21, X21, e21, W21, st21⟩ := putF X15 hx hZ hown (host := "") (Or.inl (own_w hw 87 rfl)) Via.refl e15 f19 f20 (Or.inr ⟨(own_w hw 88 rfl), rfl, hnm⟩) (own_w hw 36 rfl) (ty := (.array .byte)) (by decide) rfl rfl (g := (mkF m 217 #[vr b, vr u8, vr arr, vi st, vi 2, vi 1, vr r15, vi 2, vi x0, vi x1, .unset] [(.ref r15), (.ref b)])) rfl rfl (hb hby own_d10_217)
 have N21 := Fr.snoc X21 N15 g_b
 have K21 : Keep h0 h21 [b] := K15.wr W21 (Or.inl (List.mem_of_getElem? (i := 0) rfl))
 have Z21 : n0 ≤ h21.size := Nat.le_trans Z15 (Keep.of_wr W21).1
 have O21 := O15.wr W21 g_b
 have fw21 := (f19.same W21)
 refine own_st (T' := T21) (g' := (mkF m 220 #[vr b, vr u8, vr arr, vi st, vi 2, vi 1, vr r15, vi 2, vi x0, vi x1, .unset] [])) st21 ?_
 refine own_st (T' := T21) (g' := (mkF m 222 #[vr b, vr u8, vr arr, vi st, vi 2, vi 1, vr r15, vi 2, vi x0, vi x1, .unset] [(.int 0), (.ref b)])) (fun t k => ?_) ?_
 ·refine XS.aloadN X21.here hx rfl (hb hby own_d10_220) rfl rfl ?_
  refine XS.iconst X21.here hx rfl (hb hby own_d10_221) ?_
  exact k
 have f22 := (((F_c.keep Kc7 nin0).other W13 (Or.inl ne_b_r7)).keep Kc15 nin0).other W21 (Or.inr (slot_ne (Or.inr (own_w hw 90 rfl)) (Or.inr (own_w hw 88 rfl)) (by decide) (t := .byte) (t' := (.array .byte)) (by decide) (by decide)))
 have f23 := f20.wr W21
 obtain ⟨T24, h24, X24, e24, W24, st24⟩ := putFN X21 hx hZ hown (own_w hw 89 rfl) Via.refl e21 f22 f23 (Or.inr ⟨(own_w hw 90 rfl), rfl, hnm⟩) (own_w hw 36 rfl) (ty := .byte) (v' := (.int 0)) (by decide) rfl rfl (g := (mkF m 222 #[vr b, vr u8, vr arr, vi st, vi 2, vi 1, vr r15, vi 2, vi x0, vi x1, .unset] [(.int 0), (.ref b)])) rfl rfl (hb hby own_d10_222)
 have N24 := Fr.snoc X24 N21 g_b
 have K24 : Keep h0 h24 [b] := K21.wr W24 (Or.inl (List.mem_of_getElem? (i := 0) rfl))
 have Z24 : n0 ≤ h24.size := Nat.le_trans Z21 (Keep.of_wr W24).1
 have O24 := O21.wr W24 g_b
 have fw24 := (f22.same W24)
 refine own_st (T' := T24) (g' := (mkF m 225 #[vr b, vr u8, vr arr, vi st, vi 2, vi 1, vr r15, vi 2, vi x0, vi x1, .unset] [])) st24 ?_
 have f25 := fw21.other W24 (Or.inr (slot_ne (Or.inr (own_w hw 88 rfl)) (Or.inr (own_w hw 90 rfl)) (by decide) (t := (.array .byte)) (t' := .byte) (by decide) (by decide)))
 have f26 := (Vc15.other W21 (Ne.symm ne_b_r15)).other W24 (Ne.symm ne_b_r15)
 exact own_retV X24 hx Bd (hb hby own_d10_225) e24 (⟨r15, k15, rfl, N24, K24, g15, hwr15, f25, fw24, f26⟩) (by decide) (by decide)
def own_r6l2 : Room := { frames := 4, cells := 2, slots := 3, locals := 70 }
def own_Q6l2 (Z : State) (b : Addr) (arr : Addr) (ka : ClassId) (y0 y1 y2 y3 y4 y5 y6 y7 st x0 x1 x2 : Int32) (cs : Int32) (fm : Value) (u8 : Addr) (h0 : Heap) (n0 : Nat) : Option Value → Heap → List Loc → Prop := fun v h L => ∃ t k, v = none ∧ Fr n0 L ∧ Keep h0 h [b] ∧ n0 ≤ t ∧ h0.size ≤ t ∧ Fld Z h b "java/lang/String" "value" "[B" (.ref t) ∧ Fld Z h b "java/lang/String" "coder" "B" (.int 0) ∧ Arv Z h t k .byte (1 : Int32) [(.int ((own_d2 x0 x1).toInt8.toInt32))] (.int 0)
theorem own_rm6l2 (l : Launch) (Z : State) (a0 : Array Value) (hw : own_W a0 Z) (b : Addr) (arr : Addr) (ka : ClassId) (y0 y1 y2 y3 y4 y5 y6 y7 st x0 x1 x2 : Int32) (cs : Int32) (fm : Value) (u8 : Addr) (h0 : Heap) (n0 : Nat) (Z0 : n0 ≤ h0.size) (O0 : Old Z n0 h0) (E_b : Exa Z h0 b "java/lang/String") (F_v : Fld Z h0 b "java/lang/String" "value" "[B" .null) (F_c : Fld Z h0 b "java/lang/String" "coder" "B" (.int 0)) (g_b : n0 ≤ b) (V_a : Arv Z h0 arr ka .byte (8 : Int32) [(.int y0), (.int y1), (.int y2), (.int y3), (.int y4), (.int y5), (.int y6), (.int y7)] (.int 0)) (hYX : own_YX y0 y1 y2 y3 y4 y5 y6 y7 st x0 x1 x2) (nba : b ≠ arr) (hm0 : x0 < (0 : Int32)) (hle : own_lead x0) (hco : own_cont x1) (hla : own_lat x0) (HB : own_BB Z cs fm u8) :
  own_MF l Z own_y22 (Jvm.Cond.code own_y22 jdk_42_method_10_code 5 none) [] own_r6l2 #[(.ref b), (.ref arr), (.int st), (.int 2), (.ref u8)] h0 (own_Q6l2 Z b arr ka y0 y1 y2 y3 y4 y5 y6 y7 st x0 x1 x2 cs fm u8 h0 n0) := by
 refine own_open (plainFor_of_name own_pn1) hisR (Ls := #[vr b, vr arr, vi st, vi 2, vr u8]) ?_
 intro p e s m below meth c s₁ Bd hZ hx hby hml hown X0 e0
 obtain ⟨-, -, -, -, -, -, -, -, -, E_u8⟩ := id HB
 have N0 := Fr.nil n0
 obtain ⟨ho, hx0, hx1, hx2⟩ := id hYX
 refine own_st (T' := s₁) (g' := (mkF m 3 #[vr b, vr arr, vi st, vi 2, vr u8] [(.ref u8), (.ref b)])) (fun t k => ?_) ?_
 ·refine XS.aloadN X0.here hx rfl (hb hby own_d6_0) rfl rfl ?_
  refine XS.aload X0.here hx rfl (hb hby own_d6_1) rfl rfl ?_
  exact k
 obtain ⟨_, _, ⟨T1, L1, c1, n1⟩, -, X1, ⟨Lc1, hQ1, l1, y1, z1⟩, st1⟩ := Jvm.LawKit.callS X0 hx (y := own_y2) hown (om hZ hw 46 rfl) (om hZ hw 47 rfl) (om hZ hw 48 rfl) (om hZ hw 49 rfl) (by decide) (backOf (W := 1) (own_rm7 l Z a0 hw u8 cs fm u8 h0 n0 Z0 O0 HB) hZ (own_w hw 49 rfl) (own_w hw 48 rfl) (by decide) (by decide)) (g := (mkF m 3 #[vr b, vr arr, vi st, vi 2, vr u8] [(.ref u8), (.ref b)])) rfl (by rw [hml]; rfl) (argsL := [(.ref u8)]) (rest := [(.ref b)]) (lenOf own_pd14 rfl) rfl (by show 2 * 0 + _ ≤ _; exact Nat.le_of_eq rfl) (hb hby own_d6_3) (fun _ _ => ⟨rfl, e0, (by decide : 0 + 0 ≤ _), (by decide : 0 + 0 ≤ _)⟩)
 dsimp only [Pt.U, Pt.locs, Pt.cells, Pt.slots] at X1 l1 y1 z1 st1 hQ1
 subst l1 y1 z1
 obtain ⟨rfl, N1q, e1⟩ := hQ1
 have N1 := Fr.app N0 N1q
 refine own_st (T' := T1) (g' := (mkF m 6 #[vr b, vr arr, vi st, vi 2, vr u8] [(.ref u8), (.ref b)])) st1 ?_
 have f2 := E_u8.ext O0.2
 obtain ⟨T3, X3, e3, st3⟩ := castY X1 hx hZ hown (own_w hw 50 rfl) e1 (Ins.of_exa f2 (own_w hw 51 rfl)) (g := (mkF m 6 #[vr b, vr arr, vi st, vi 2, vr u8] [(.ref u8), (.ref b)])) rfl rfl (hb hby own_d6_6)
 refine own_st (T' := T3) (g' := (mkF m 9 #[vr b, vr arr, vi st, vi 2, vr u8] [(.ref u8), (.ref b)])) st3 ?_
 refine own_st (T' := T3) (g' := (mkF m 13 #[vr b, vr arr, vi st, vi 2, vr u8] [(.ref arr), (.int 2), (.int st), (.ref arr), (.ref u8), (.ref b)])) (fun t k => ?_) ?_
 ·refine XS.aloadN X3.here hx rfl (hb hby own_d6_9) rfl rfl ?_
  refine XS.iloadN X3.here hx rfl (hb hby own_d6_10) rfl ?_
  refine XS.iloadN X3.here hx rfl (hb hby own_d6_11) rfl ?_
  refine XS.aloadN X3.here hx rfl (hb hby own_d6_12) rfl rfl ?_
  exact k
 obtain ⟨cl4, Ar4, q4, S4, M4, H4, G4⟩ := id V_a
 refine own_st (T' := T3) (g' := (mkF m 14 #[vr b, vr arr, vi st, vi 2, vr u8] [(.int 8), (.int 2), (.int st), (.ref arr), (.ref u8), (.ref b)])) (fun t k => ?_) ?_
 ·refine X3.arraylength hx (by rw [e3]; exact Ar4.1) (State.isArrayOf_alike hZ.alike Ar4.2.1) (g := (mkF m 13 #[vr b, vr arr, vi st, vi 2, vr u8] [(.ref arr), (.int 2), (.int st), (.ref arr), (.ref u8), (.ref b)])) rfl rfl (hb hby own_d6_13) _ ?_
  rw [len_of S4 M4]
  exact k
 obtain ⟨_, _, ⟨T5, L5, c5, n5⟩, -, X5, ⟨Lc5, hQ5, l5, y5, z5⟩, st5⟩ := Jvm.LawKit.callS X3 hx (y := own_y4) hown (om hZ hw 52 rfl) (om hZ hw 53 rfl) (om hZ hw 37 rfl) (om hZ hw 54 rfl) (by decide) (backOf (W := 3) (own_rm8 l Z a0 hw st (2 : Int32) (8 : Int32) cs fm u8 h0 n0 Z0 O0 (by rcases ho with rfl|rfl|rfl|rfl<;>decide) (by rcases ho with rfl|rfl|rfl|rfl<;>decide) HB) hZ (own_w hw 54 rfl) (own_w hw 37 rfl) (by decide) (by decide)) (g := (mkF m 14 #[vr b, vr arr, vi st, vi 2, vr u8] [(.int 8), (.int 2), (.int st), (.ref arr), (.ref u8), (.ref b)])) rfl (by rw [hml]; rfl) (argsL := [(.int st), (.int 2), (.int 8)]) (rest := [(.ref arr), (.ref u8), (.ref b)]) (lenOf own_pd7 rfl) rfl (by show 2 * 0 + _ ≤ _; exact Nat.le_of_eq rfl) (hb hby own_d6_14) (fun _ _ => ⟨rfl, e3, (by decide : 0 + 0 ≤ _), (by decide : 0 + 0 ≤ _)⟩)
 dsimp only [Pt.U, Pt.locs, Pt.cells, Pt.slots] at X5 l5 y5 z5 st5 hQ5
 subst l5 y5 z5
 obtain ⟨rfl, N5q, e5⟩ := hQ5
 have N5 := Fr.app N1 N5q
 refine own_st (T' := T5) (g' := (mkF m 17 #[vr b, vr arr, vi st, vi 2, vr u8] [(.int st), (.ref arr), (.ref u8), (.ref b)])) st5 ?_
 refine own_st (T' := T5) (g' := (mkF m 18 #[vr b, vr arr, vi st, vi 2, vr u8] [(.int 2), (.int st), (.ref arr), (.ref u8), (.ref b)])) (fun t k => ?_) ?_
 ·refine XS.iloadN X5.here hx rfl (hb hby own_d6_17) rfl ?_
  exact k
 obtain ⟨_, _, ⟨T6, L6, c6, n6⟩, -, X6, ⟨Lc6, hQ6, l6, y6, z6⟩, st6⟩ := X5.specialBackH hx (y := own_y21) rfl hown (om hZ hw 60 rfl) (om hZ hw 61 rfl) (om hZ hw 63 rfl) (by decide) (backOfWith (W := 0) (own_rm10l2 l Z a0 hw b arr ka y0 y1 y2 y3 y4 y5 y6 y7 st x0 x1 x2 cs fm u8 h0 n0 Z0 O0 E_b F_v F_c g_b V_a ⟨ho, hx0, hx1, hx2⟩ nba hm0 hle hco hla HB) hZ (own_w hw 63 rfl) (own_w hw 37 rfl) (by decide) (by decide)) (g := (mkF m 18 #[vr b, vr arr, vi st, vi 2, vr u8] [(.int 2), (.int st), (.ref arr), (.ref u8), (.ref b)])) rfl (by rw [hml]; rfl) (Steps.refl _) (a := b) (argsL := [(.ref u8), (.ref arr), (.int st), (.int 2)]) (rest := []) (lenOf own_pd15 rfl) rfl (by show 2 * 0 + _ ≤ _; exact Nat.le_of_eq rfl) (hb hby own_d6_18) (fun _ _ => ⟨rfl, e5, (by decide : 0 + 2 ≤ _), (by decide : 0 + 3 ≤ _)⟩)
 dsimp only [Pt.U, Pt.locs, Pt.cells, Pt.slots] at X6 l6 y6 z6 st6 hQ6
 subst l6 y6 z6
 obtain ⟨h6, e6⟩ : ∃ z, T6.heap = z := ⟨_, rfl⟩
 rw [e6] at hQ6
 obtain ⟨t6, k6, rfl, N6q, Kc6, g6, hz6, Fv6, Fo6, Vc6⟩ := hQ6
 have N6 := Fr.app N5 N6q
 have ne_b_t6 : b ≠ t6 := Nat.ne_of_lt (Nat.lt_of_lt_of_le E_b.lt hz6)
 have ne_arr_t6 : arr ≠ t6 := Nat.ne_of_lt (Nat.lt_of_lt_of_le V_a.lt hz6)
 have ne_u8_t6 : u8 ≠ t6 := Nat.ne_of_lt (Nat.lt_of_lt_of_le f2.lt hz6)
 have hwt6 : h0.size ≤ t6 := Nat.le_trans (Keep.refl h0 [b]).1 hz6
 have K6 : Keep h0 h6 [b] := (Keep.refl h0 [b]).trans Kc6 (allS (Or.inl (List.mem_of_getElem? (i := 0) rfl)) all0)
 have Z6 : n0 ≤ h6.size := Nat.le_trans Z0 Kc6.1
 have O6 := O0.keep Kc6 (allS g_b all0)
 refine own_tr (T' := T6) (g' := (mkF m 21 #[vr b, vr arr, vi st, vi 2, vr u8] [])) st6 ?_
 exact own_retV X6 hx Bd (hb hby own_d6_21) e6 (⟨t6, k6, rfl, N6, K6, g6, hwt6, Fv6, Fo6, Vc6⟩) (by decide) (by decide)
def own_r10l3 : Room := { frames := 3, cells := 2, slots := 5, locals := 48 }
def own_Q10l3 (Z : State) (b : Addr) (arr : Addr) (ka : ClassId) (y0 y1 y2 y3 y4 y5 y6 y7 st x0 x1 x2 : Int32) (cs : Int32) (fm : Value) (u8 : Addr) (h0 : Heap) (n0 : Nat) : Option Value → Heap → List Loc → Prop := fun v h L => ∃ t k, v = none ∧ Fr n0 L ∧ Keep h0 h [b] ∧ n0 ≤ t ∧ h0.size ≤ t ∧ Fld Z h b "java/lang/String" "value" "[B" (.ref t) ∧ Fld Z h b "java/lang/String" "coder" "B" (.int 0) ∧ Arv Z h t k .byte (2 : Int32) [(.int ((own_d2 x0 x1).toInt8.toInt32)), (.int (x2.toInt8.toInt32))] (.int 0)
theorem own_rm10l3 (l : Launch) (Z : State) (a0 : Array Value) (hw : own_W a0 Z) (b : Addr) (arr : Addr) (ka : ClassId) (y0 y1 y2 y3 y4 y5 y6 y7 st x0 x1 x2 : Int32) (cs : Int32) (fm : Value) (u8 : Addr) (h0 : Heap) (n0 : Nat) (Z0 : n0 ≤ h0.size) (O0 : Old Z n0 h0) (E_b : Exa Z h0 b "java/lang/String") (F_v : Fld Z h0 b "java/lang/String" "value" "[B" .null) (F_c : Fld Z h0 b "java/lang/String" "coder" "B" (.int 0)) (g_b : n0 ≤ b) (V_a : Arv Z h0 arr ka .byte (8 : Int32) [(.int y0), (.int y1), (.int y2), (.int y3), (.int y4), (.int y5), (.int y6), (.int y7)] (.int 0)) (hYX : own_YX y0 y1 y2 y3 y4 y5 y6 y7 st x0 x1 x2) (nba : b ≠ arr) (hm0 : x0 < (0 : Int32)) (hle : own_lead x0) (hco : own_cont x1) (ha2 : ¬ x2 < (0 : Int32)) (hla : own_lat x0) (HB : own_BB Z cs fm u8) :
  own_MF l Z own_y21 (Jvm.Cond.codeWith own_y21 jdk_42_method_11_code 11 none [((800 : Nat), (813 : Nat), (816 : Nat), (202 : Nat))]) [] own_r10l3 #[(.ref b), (.ref u8), (.ref arr), (.int st), (.int 3)] h0 (own_Q10l3 Z b arr ka y0 y1 y2 y3 y4 y5 y6 y7 st x0 x1 x2 cs fm u8 h0 n0) := by
 refine own_open (plainFor_of_name own_pn1) hisWith (Ls := #[vr b, vr u8, vr arr, vi st, vi 3, .unset, .unset, .unset, .unset, .unset, .unset]) ?_
 intro p e s m below meth c s₁ Bd hZ hx hby hml hown X0 e0
 obtain ⟨hcs, -, S_cs, -, -, -, -, -, S_ui, E_u8⟩ := id HB
 have N0 := Fr.nil n0
 have hnm := (name_of_methodNamed Bd.named Bd.method).1
 obtain ⟨ho, hx0, hx1, hx2⟩ := id hYX
 refine own_st (T' := s₁) (g' := (mkF m 1 #[vr b, vr u8, vr arr, vi st, vi 3, .unset, .unset, .unset, .unset, .unset, .unset] [(.ref b)])) (fun t k => ?_) ?_
 ·refine XS.aloadN X0.here hx rfl (hb hby own_d10_0) rfl rfl ?_
  exact k
 obtain ⟨T1, X1, e1, st1⟩ := initO X0 hx hZ hown (own_w hw 64 rfl) (own_w hw 14 rfl) (own_w hw 15 rfl) e0 (g := (mkF m 1 #[vr b, vr u8, vr arr, vi st, vi 3, .unset, .unset, .unset, .unset, .unset, .unset] [(.ref b)])) rfl (by rw [hml]; rfl) rfl (hb hby own_d10_1) (by decide) (W := 0) (by show 2 * 0 + _ ≤ _; exact Nat.le_of_eq rfl) (by decide)
 refine own_st (T' := T1) (g' := (mkF m 4 #[vr b, vr u8, vr arr, vi st, vi 3, .unset, .unset, .unset, .unset, .unset, .unset] [])) st1 ?_
 refine own_st (T' := T1) (g' := (mkF m 31 #[vr b, vr u8, vr arr, vi st, vi 3, .unset, .unset, .unset, .unset, .unset, .unset] [(.ref u8)])) (fun t k => ?_) ?_
 ·refine XS.iload X1.here hx rfl (hb hby own_d10_4) rfl ?_
  refine XS.ifYes X1.here hx rfl (pc0 := 6) (pc' := 30) rfl (hb hby own_d10_6) rfl ((if0 _ _).trans (feq (by decide : ¬ ((3 : Int32) = (0 : Int32)))).2) (by decide) (by decide) ?_
  refine XS.aloadN X1.here hx rfl (hb hby own_d10_30) rfl rfl ?_
  exact k
 have f2 := S_ui.ext O0.2
 obtain ⟨T3, X3, e3, st3⟩ := getS2 X1 hx hZ hown (host := "") (Or.inl (own_w hw 65 rfl)) Via.refl e1 f2 (g := (mkF m 31 #[vr b, vr u8, vr arr, vi st, vi 3, .unset, .unset, .unset, .unset, .unset, .unset] [(.ref u8)])) rfl (hb hby own_d10_31)
 refine own_st (T' := T3) (g' := (mkF m 34 #[vr b, vr u8, vr arr, vi st, vi 3, .unset, .unset, .unset, .unset, .unset, .unset] [(.ref u8), (.ref u8)])) st3 ?_
 refine own_st (T' := T3) (g' := (mkF m 37 #[vr b, vr u8, vr arr, vi st, vi 3, .unset, .unset, .unset, .unset, .unset, .unset] [])) (fun t k => ?_) ?_
 ·refine Jvm.RoadKit.acmp (g := (mkF m 34 #[vr b, vr u8, vr arr, vi st, vi 3, .unset, .unset, .unset, .unset, .unset, .unset] [(.ref u8), (.ref u8)])) X3 hx rfl rfl rfl (pc0 := 34) (pc' := 37) (same := true) rfl (hb hby own_d10_34) rfl (decide_eq_true (congrArg Value.ref (rfl : u8 = u8))) (by decide) (by decide) ?_
  exact k
 have f4 := S_cs.ext O0.2
 obtain ⟨T5, X5, e5, st5⟩ := getS2 X3 hx hZ hown (host := "") (Or.inl (own_w hw 67 rfl)) Via.refl e3 f4 (g := (mkF m 37 #[vr b, vr u8, vr arr, vi st, vi 3, .unset, .unset, .unset, .unset, .unset, .unset] [])) rfl (hb hby own_d10_37)
 refine own_st (T' := T5) (g' := (mkF m 40 #[vr b, vr u8, vr arr, vi st, vi 3, .unset, .unset, .unset, .unset, .unset, .unset] [(.int cs)])) st5 ?_
 refine own_st (T' := T5) (g' := (mkF m 47 #[vr b, vr u8, vr arr, vi st, vi 3, .unset, .unset, .unset, .unset, .unset, .unset] [(.int 3), (.int st), (.ref arr)])) (fun t k => ?_) ?_
 ·refine XS.ifNo X5.here hx rfl (hb hby own_d10_40) rfl ((if0 _ _).trans (feq hcs).1) ?_
  refine XS.aloadN X5.here hx rfl (hb hby own_d10_43) rfl rfl ?_
  refine XS.iloadN X5.here hx rfl (hb hby own_d10_44) rfl ?_
  refine XS.iload X5.here hx rfl (hb hby own_d10_45) rfl ?_
  exact k
 obtain ⟨_, _, ⟨T6, L6, c6, n6⟩, -, X6, ⟨Lc6, hQ6, l6, y6, z6⟩, st6⟩ := Jvm.LawKit.callS X5 hx (y := own_y6) hown (om hZ hw 68 rfl) (om hZ hw 69 rfl) (om hZ hw 70 rfl) (om hZ hw 71 rfl) (by decide) (backOf (W := 0) (own_rm11m3 l Z a0 hw arr ka y0 y1 y2 y3 y4 y5 y6 y7 st x0 x1 x2 cs fm u8 h0 n0 Z0 O0 V_a ⟨ho, hx0, hx1, hx2⟩ hm0 HB) hZ (own_w hw 71 rfl) (own_w hw 70 rfl) (by decide) (by decide)) (g := (mkF m 47 #[vr b, vr u8, vr arr, vi st, vi 3, .unset, .unset, .unset, .unset, .unset, .unset] [(.int 3), (.int st), (.ref arr)])) rfl (by rw [hml]; rfl) (argsL := [(.ref arr), (.int st), (.int 3)]) (rest := []) (lenOf own_pd13 rfl) rfl (by show 2 * 0 + _ ≤ _; exact Nat.le_of_eq rfl) (hb hby own_d10_47) (fun _ _ => ⟨rfl, e5, (by decide : 0 + 0 ≤ _), (by decide : 0 + 0 ≤ _)⟩)
 dsimp only [Pt.U, Pt.locs, Pt.cells, Pt.slots] at X6 l6 y6 z6 st6 hQ6
 subst l6 y6 z6
 obtain ⟨rfl, N6q, e6⟩ := hQ6
 have N6 := Fr.app N0 N6q
 refine own_st (T' := T6) (g' := (mkF m 50 #[vr b, vr u8, vr arr, vi st, vi 3, .unset, .unset, .unset, .unset, .unset, .unset] [(.int 0)])) st6 ?_
 refine own_st (T' := T6) (g' := (mkF m 84 #[vr b, vr u8, vr arr, vi st, vi 3, vi 0, .unset, .unset, .unset, .unset, .unset] [(.int (st + (3 : Int32))), (.int st), (.ref arr)])) (fun t k => ?_) ?_
 ·refine XS.istore X6.here hx rfl (hb hby own_d10_50) rfl (l' := #[vr b, vr u8, vr arr, vi st, vi 3, vi 0, .unset, .unset, .unset, .unset, .unset]) rfl ?_
  refine XS.iload X6.here hx rfl (hb hby own_d10_52) rfl ?_
  refine XS.iload X6.here hx rfl (hb hby own_d10_54) rfl ?_
  refine XS.icmpYes X6.here hx rfl (pc0 := 56) (pc' := 78) rfl (hb hby own_d10_56) rfl (feq (by decide : ¬ ((0 : Int32) = (3 : Int32)))).2 (by decide) (by decide) ?_
  refine XS.aloadN X6.here hx rfl (hb hby own_d10_78) rfl rfl ?_
  refine XS.iloadN X6.here hx rfl (hb hby own_d10_79) rfl ?_
  refine XS.iloadN X6.here hx rfl (hb hby own_d10_80) rfl ?_
  refine XS.iload X6.here hx rfl (hb hby own_d10_81) rfl ?_
  refine XS.iadd X6.here hx rfl (hb hby own_d10_83) rfl ?_
  exact k
 obtain ⟨_, _, ⟨T7, L7, c7, n7⟩, -, X7, ⟨Lc7, hQ7, l7, y7, z7⟩, st7⟩ := Jvm.LawKit.callS X6 hx (y := own_y9) hown (om hZ hw 72 rfl) (om hZ hw 73 rfl) (om hZ hw 74 rfl) (om hZ hw 75 rfl) (by decide) (backOf (W := 0) (own_rm12_3 l Z a0 hw arr ka y0 y1 y2 y3 y4 y5 y6 y7 st x0 x1 x2 cs fm u8 h0 n0 Z0 O0 V_a ⟨ho, hx0, hx1, hx2⟩ HB) hZ (own_w hw 75 rfl) (own_w hw 74 rfl) (by decide) (by decide)) (g := (mkF m 84 #[vr b, vr u8, vr arr, vi st, vi 3, vi 0, .unset, .unset, .unset, .unset, .unset] [(.int (st + (3 : Int32))), (.int st), (.ref arr)])) rfl (by rw [hml]; rfl) (argsL := [(.ref arr), (.int st), (.int (st + (3 : Int32)))]) (rest := []) (lenOf own_pd4 rfl) rfl (by show 2 * 0 + _ ≤ _; exact Nat.le_of_eq rfl) (hb hby own_d10_84) (fun _ _ => ⟨rfl, e6, (by decide : 0 + 1 ≤ _), (by decide : 0 + 3 ≤ _)⟩)
 dsimp only [Pt.U, Pt.locs, Pt.cells, Pt.slots] at X7 l7 y7 z7 st7 hQ7
 subst l7 y7 z7
 obtain ⟨h7, e7⟩ : ∃ z, T7.heap = z := ⟨_, rfl⟩
 rw [e7] at hQ7
 obtain ⟨r7, k7, rfl, N7q, Kc7, g7, hz7, Vc7⟩ := hQ7
 have N7 := Fr.app N6 N7q
 have ne_b_r7 : b ≠ r7 := Nat.ne_of_lt (Nat.lt_of_lt_of_le E_b.lt hz7)
 have ne_arr_r7 : arr ≠ r7 := Nat.ne_of_lt (Nat.lt_of_lt_of_le V_a.lt hz7)
 have f8 := E_u8.ext O0.2
 have ne_u8_r7 : u8 ≠ r7 := Nat.ne_of_lt (Nat.lt_of_lt_of_le f8.lt hz7)
 have hwr7 : h0.size ≤ r7 := Nat.le_trans (Keep.refl h0 [b]).1 hz7
 have K7 : Keep h0 h7 [b] := (Keep.refl h0 [b]).trans Kc7 all0
 have Z7 : n0 ≤ h7.size := Nat.le_trans Z0 Kc7.1
 have O7 := O0.keep Kc7 all0
 refine own_st (T' := T7) (g' := (mkF m 87 #[vr b, vr u8, vr arr, vi st, vi 3, vi 0, .unset, .unset, .unset, .unset, .unset] [(.ref r7)])) st7 ?_
 refine own_st (T' := T7) (g' := (mkF m 107 #[vr b, vr u8, vr arr, vi st, vi 3, vi 0, vr r7, vi 1, .unset, .unset, .unset] [(.int 0), (.ref r7)])) (fun t k => ?_) ?_
 ·refine XS.astore X7.here hx rfl (hb hby own_d10_87) rfl rfl (l' := #[vr b, vr u8, vr arr, vi st, vi 3, vi 0, vr r7, .unset, .unset, .unset, .unset]) rfl ?_
  refine XS.iload X7.here hx rfl (hb hby own_d10_89) rfl ?_
  refine XS.istore X7.here hx rfl (hb hby own_d10_91) rfl (l' := #[vr b, vr u8, vr arr, vi st, vi 3, vi 0, vr r7, vi 0, .unset, .unset, .unset]) rfl ?_
  refine XS.iload X7.here hx rfl (hb hby own_d10_93) rfl ?_
  refine XS.iload X7.here hx rfl (hb hby own_d10_95) rfl ?_
  refine XS.icmpNo X7.here hx rfl (hb hby own_d10_97) rfl (tlt (by decide : (0 : Int32) < (3 : Int32))).2.1 ?_
  refine XS.aload X7.here hx rfl (hb hby own_d10_100) rfl rfl ?_
  refine XS.iload X7.here hx rfl (hb hby own_d10_102) rfl ?_
  refine XS.iinc X7.here hx rfl (hb hby own_d10_104) rfl (l' := #[vr b, vr u8, vr arr, vi st, vi 3, vi 0, vr r7, vi 1, .unset, .unset, .unset]) rfl ?_
  exact k
 obtain ⟨cl9, Ar9, q9, S9, M9, H9, G9⟩ := id Vc7
 refine own_st (T' := T7) (g' := (mkF m 152 #[vr b, vr u8, vr arr, vi st, vi 3, vi 0, vr r7, vi 1, vi x0, .unset, .unset] [(.int 1), (.ref r7)])) (fun t k => ?_) ?_
 ·refine X7.baloadBytes hx (j := (0 : Int32)) (v := (.int x0)) (by rw [e7]; exact Ar9.1) (State.isArrayOf_alike hZ.alike Ar9.2.1) Ar9.2.2 (inb_of S9 ⟨by decide, by decide⟩) (Has.at H9 (inb_of S9 ⟨by decide, by decide⟩) rfl) (g := (mkF m 107 #[vr b, vr u8, vr arr, vi st, vi 3, vi 0, vr r7, vi 1, .unset, .unset, .unset] [(.int 0), (.ref r7)])) rfl rfl (hb hby own_d10_107) _ ?_
  refine XS.istore X7.here hx rfl (hb hby own_d10_108) rfl (l' := #[vr b, vr u8, vr arr, vi st, vi 3, vi 0, vr r7, vi 1, vi x0, .unset, .unset]) rfl ?_
  refine XS.iload X7.here hx rfl (hb hby own_d10_110) rfl ?_
  refine XS.ifYes X7.here hx rfl (pc0 := 112) (pc' := 129) rfl (hb hby own_d10_112) rfl ((if0 _ _).trans (tlt hm0).1) (by decide) (by decide) ?_
  refine XS.iload X7.here hx rfl (hb hby own_d10_129) rfl ?_
  refine XS.sipush X7.here hx rfl (hb hby own_d10_131) ?_
  refine XS.iand X7.here hx rfl (hb hby own_d10_134) rfl ?_
  refine XS.sipush X7.here hx rfl (hb hby own_d10_135) ?_
  refine XS.icmpNo X7.here hx rfl (hb hby own_d10_138) rfl (teq hla).2 ?_
  refine XS.iload X7.here hx rfl (hb hby own_d10_141) rfl ?_
  refine XS.iload X7.here hx rfl (hb hby own_d10_143) rfl ?_
  refine XS.icmpNo X7.here hx rfl (hb hby own_d10_145) rfl (tlt (by decide : (1 : Int32) < (3 : Int32))).2.1 ?_
  refine XS.aload X7.here hx rfl (hb hby own_d10_148) rfl rfl ?_
  refine XS.iload X7.here hx rfl (hb hby own_d10_150) rfl ?_
  exact k
 obtain ⟨cl10, Ar10, q10, S10, M10, H10, G10⟩ := id Vc7
 refine own_st (T' := T7) (g' := (mkF m 173 #[vr b, vr u8, vr arr, vi st, vi 3, vi 1, vr r7, vi 1, vi x0, vi x1, .unset] [(.int x1), (.int x0), (.int 0), (.ref r7)])) (fun t k => ?_) ?_
 ·refine X7.baloadBytes hx (j := (1 : Int32)) (v := (.int x1)) (by rw [e7]; exact Ar10.1) (State.isArrayOf_alike hZ.alike Ar10.2.1) Ar10.2.2 (inb_of S10 ⟨by decide, by decide⟩) (Has.at H10 (inb_of S10 ⟨by decide, by decide⟩) rfl) (g := (mkF m 152 #[vr b, vr u8, vr arr, vi st, vi 3, vi 0, vr r7, vi 1, vi x0, .unset, .unset] [(.int 1), (.ref r7)])) rfl rfl (hb hby own_d10_152) _ ?_
  refine XS.istore X7.here hx rfl (hb hby own_d10_153) rfl (l' := #[vr b, vr u8, vr arr, vi st, vi 3, vi 0, vr r7, vi 1, vi x0, vi x1, .unset]) rfl ?_
  refine XS.iload X7.here hx rfl (hb hby own_d10_155) rfl ?_
  refine XS.bipush X7.here hx rfl (hb hby own_d10_157) ?_
  refine XS.icmpNo X7.here hx rfl (hb hby own_d10_159) rfl (tlt (own_cont_64 hco)).2.1 ?_
  refine XS.aload X7.here hx rfl (hb hby own_d10_162) rfl rfl ?_
  refine XS.iload X7.here hx rfl (hb hby own_d10_164) rfl ?_
  refine XS.iinc X7.here hx rfl (hb hby own_d10_166) rfl (l' := #[vr b, vr u8, vr arr, vi st, vi 3, vi 1, vr r7, vi 1, vi x0, vi x1, .unset]) rfl ?_
  refine XS.iload X7.here hx rfl (hb hby own_d10_169) rfl ?_
  refine XS.iload X7.here hx rfl (hb hby own_d10_171) rfl ?_
  exact k
 obtain ⟨_, _, ⟨T11, L11, c11, n11⟩, -, X11, ⟨Lc11, hQ11, l11, y11, z11⟩, st11⟩ := Jvm.LawKit.callS X7 hx (y := own_y12) hown (om hZ hw 151 rfl) (om hZ hw 152 rfl) (om hZ hw 37 rfl) (om hZ hw 153 rfl) (by decide) (backOf (W := 2) (own_rm31 l Z a0 hw x0 x1 cs fm u8 h7 n0 Z7 O7 HB) hZ (own_w hw 153 rfl) (own_w hw 37 rfl) (by decide) (by decide)) (g := (mkF m 173 #[vr b, vr u8, vr arr, vi st, vi 3, vi 1, vr r7, vi 1, vi x0, vi x1, .unset] [(.int x1), (.int x0), (.int 0), (.ref r7)])) rfl (by rw [hml]; rfl) (argsL := [(.int x0), (.int x1)]) (rest := [(.int 0), (.ref r7)]) (lenOf own_pd11 rfl) rfl (by show 2 * 0 + _ ≤ _; exact Nat.le_of_eq rfl) (hb hby own_d10_173) (fun _ _ => ⟨rfl, e7, (by decide : 1 + 0 ≤ _), (by decide : 3 + 0 ≤ _)⟩)
 dsimp only [Pt.U, Pt.locs, Pt.cells, Pt.slots] at X11 l11 y11 z11 st11 hQ11
 subst l11 y11 z11
 obtain ⟨rfl, N11q, e11⟩ := hQ11
 have N11 := Fr.app N7 N11q
 refine own_st (T' := T11) (g' := (mkF m 176 #[vr b, vr u8, vr arr, vi st, vi 3, vi 1, vr r7, vi 1, vi x0, vi x1, .unset] [(.int (own_d2 x0 x1)), (.int 0), (.ref r7)])) st11 ?_
 refine own_st (T' := T11) (g' := (mkF m 177 #[vr b, vr u8, vr arr, vi st, vi 3, vi 1, vr r7, vi 1, vi x0, vi x1, .unset] [(.int ((own_d2 x0 x1).toInt8.toInt32)), (.int 0), (.ref r7)])) (fun t k => ?_) ?_
 ·refine XS.i2b X11.here hx rfl (hb hby own_d10_176) rfl ?_
  exact k
 obtain ⟨cl12, Ar12, q12, S12, M12, H12, G12⟩ := id Vc7
 obtain ⟨T13, h13, X13, e13, W13, st13⟩ := stB X11 hx hZ e11 Ar12 (j := (0 : Int32)) (inb_of S12 ⟨by decide, by decide⟩) (g := (mkF m 177 #[vr b, vr u8, vr arr, vi st, vi 3, vi 1, vr r7, vi 1, vi x0, vi x1, .unset] [(.int ((own_d2 x0 x1).toInt8.toInt32)), (.int 0), (.ref r7)])) rfl rfl (hb hby own_d10_177)
 have N13 := Fr.snoc X13 N11 g7
 have K13 : Keep h0 h13 [b] := K7.wr W13 (Or.inr hwr7)
 have Z13 : n0 ≤ h13.size := Nat.le_trans Z7 (Keep.of_wr W13).1
 have O13 := O7.wr W13 g7
 have fw13 := (show Arv Z h13 r7 k7 .byte (3 : Int32) [(.int ((own_d2 x0 x1).toInt8.toInt32)), (.int x1), (.int x2)] (.int 0) by have q : Arv Z h13 r7 k7 .byte (3 : Int32) [(.int (((own_d2 x0 x1).toInt8.toInt32).toInt8.toInt32)), (.int x1), (.int x2)] (.int 0) := Arv.set Ar12 q12 S12 M12 H12 G12 (fits_nar_byte _) W13 0 rfl (Nat.le_of_ble_eq_true rfl); rw [own_bb (own_d2 x0 x1)] at q; exact q)
 refine own_st (T' := T13) (g' := (mkF m 178 #[vr b, vr u8, vr arr, vi st, vi 3, vi 1, vr r7, vi 1, vi x0, vi x1, .unset] [])) st13 ?_
 refine own_st (T' := T13) (g' := (mkF m 107 #[vr b, vr u8, vr arr, vi st, vi 3, vi 1, vr r7, vi 3, vi x0, vi x1, .unset] [(.int 2), (.ref r7)])) (fun t k => ?_) ?_
 ·refine XS.iinc X13.here hx rfl (hb hby own_d10_178) rfl (l' := #[vr b, vr u8, vr arr, vi st, vi 3, vi 1, vr r7, vi 2, vi x0, vi x1, .unset]) rfl ?_
  refine XS.goto X13.here hx rfl (pc0 := 181) (pc' := 93) rfl (hb hby own_d10_181) (by decide) (by decide) ?_
  refine XS.iload X13.here hx rfl (hb hby own_d10_93) rfl ?_
  refine XS.iload X13.here hx rfl (hb hby own_d10_95) rfl ?_
  refine XS.icmpNo X13.here hx rfl (hb hby own_d10_97) rfl (tlt (by decide : (2 : Int32) < (3 : Int32))).2.1 ?_
  refine XS.aload X13.here hx rfl (hb hby own_d10_100) rfl rfl ?_
  refine XS.iload X13.here hx rfl (hb hby own_d10_102) rfl ?_
  refine XS.iinc X13.here hx rfl (hb hby own_d10_104) rfl (l' := #[vr b, vr u8, vr arr, vi st, vi 3, vi 1, vr r7, vi 3, vi x0, vi x1, .unset]) rfl ?_
  exact k
 obtain ⟨cl14, Ar14, q14, S14, M14, H14, G14⟩ := id fw13
 refine own_st (T' := T13) (g' := (mkF m 125 #[vr b, vr u8, vr arr, vi st, vi 3, vi 2, vr r7, vi 3, vi x2, vi x1, .unset] [(.int (x2.toInt8.toInt32)), (.int 1), (.ref r7)])) (fun t k => ?_) ?_
 ·refine X13.baloadBytes hx (j := (2 : Int32)) (v := (.int x2)) (by rw [e13]; exact Ar14.1) (State.isArrayOf_alike hZ.alike Ar14.2.1) Ar14.2.2 (inb_of S14 ⟨by decide, by decide⟩) (Has.at H14 (inb_of S14 ⟨by decide, by decide⟩) rfl) (g := (mkF m 107 #[vr b, vr u8, vr arr, vi st, vi 3, vi 1, vr r7, vi 3, vi x0, vi x1, .unset] [(.int 2), (.ref r7)])) rfl rfl (hb hby own_d10_107) _ ?_
  refine XS.istore X13.here hx rfl (hb hby own_d10_108) rfl (l' := #[vr b, vr u8, vr arr, vi st, vi 3, vi 1, vr r7, vi 3, vi x2, vi x1, .unset]) rfl ?_
  refine XS.iload X13.here hx rfl (hb hby own_d10_110) rfl ?_
  refine XS.ifNo X13.here hx rfl (hb hby own_d10_112) rfl ((if0 _ _).trans (flt ha2).1) ?_
  refine XS.aload X13.here hx rfl (hb hby own_d10_115) rfl rfl ?_
  refine XS.iload X13.here hx rfl (hb hby own_d10_117) rfl ?_
  refine XS.iinc X13.here hx rfl (hb hby own_d10_119) rfl (l' := #[vr b, vr u8, vr arr, vi st, vi 3, vi 2, vr r7, vi 3, vi x2, vi x1, .unset]) rfl ?_
  refine XS.iload X13.here hx rfl (hb hby own_d10_122) rfl ?_
  refine XS.i2b X13.here hx rfl (hb hby own_d10_124) rfl ?_
  exact k
 obtain ⟨cl15, Ar15, q15, S15, M15, H15, G15⟩ := id fw13
 obtain ⟨T16, h16, X16, e16, W16, st16⟩ := stB X13 hx hZ e13 Ar15 (j := (1 : Int32)) (inb_of S15 ⟨by decide, by decide⟩) (g := (mkF m 125 #[vr b, vr u8, vr arr, vi st, vi 3, vi 2, vr r7, vi 3, vi x2, vi x1, .unset] [(.int (x2.toInt8.toInt32)), (.int 1), (.ref r7)])) rfl rfl (hb hby own_d10_125)
 have N16 := Fr.snoc X16 N13 g7
 have K16 : Keep h0 h16 [b] := K13.wr W16 (Or.inr hwr7)
 have Z16 : n0 ≤ h16.size := Nat.le_trans Z13 (Keep.of_wr W16).1
 have O16 := O13.wr W16 g7
 have fw16 := (show Arv Z h16 r7 k7 .byte (3 : Int32) [(.int ((own_d2 x0 x1).toInt8.toInt32)), (.int (x2.toInt8.toInt32)), (.int x2)] (.int 0) by have q : Arv Z h16 r7 k7 .byte (3 : Int32) [(.int ((own_d2 x0 x1).toInt8.toInt32)), (.int ((x2.toInt8.toInt32).toInt8.toInt32)), (.int x2)] (.int 0) := Arv.set Ar15 q15 S15 M15 H15 G15 (fits_nar_byte _) W16 1 rfl (Nat.le_of_ble_eq_true rfl); rw [own_bb x2] at q; exact q)
 refine own_st (T' := T16) (g' := (mkF m 126 #[vr b, vr u8, vr arr, vi st, vi 3, vi 2, vr r7, vi 3, vi x2, vi x1, .unset] [])) st16 ?_
 refine own_st (T' := T16) (g' := (mkF m 201 #[vr b, vr u8, vr arr, vi st, vi 3, vi 2, vr r7, vi 3, vi x2, vi x1, .unset] [(.ref r7), (.int 2)])) (fun t k => ?_) ?_
 ·refine XS.goto X16.here hx rfl (pc0 := 126) (pc' := 93) rfl (hb hby own_d10_126) (by decide) (by decide) ?_
  refine XS.iload X16.here hx rfl (hb hby own_d10_93) rfl ?_
  refine XS.iload X16.here hx rfl (hb hby own_d10_95) rfl ?_
  refine XS.icmpYes X16.here hx rfl (pc0 := 97) (pc' := 190) rfl (hb hby own_d10_97) rfl (flt Int32.lt_irrefl).2.1 (by decide) (by decide) ?_
  refine XS.iload X16.here hx rfl (hb hby own_d10_190) rfl ?_
  refine XS.iload X16.here hx rfl (hb hby own_d10_192) rfl ?_
  refine XS.icmpNo X16.here hx rfl (hb hby own_d10_194) rfl (teq (rfl : (3 : Int32) = (3 : Int32))).2 ?_
  refine XS.iload X16.here hx rfl (hb hby own_d10_197) rfl ?_
  refine XS.aload X16.here hx rfl (hb hby own_d10_199) rfl rfl ?_
  exact k
 obtain ⟨cl17, Ar17, q17, S17, M17, H17, G17⟩ := id fw16
 refine own_st (T' := T16) (g' := (mkF m 209 #[vr b, vr u8, vr arr, vi st, vi 3, vi 2, vr r7, vi 3, vi x2, vi x1, .unset] [(.int 2), (.ref r7)])) (fun t k => ?_) ?_
 ·refine X16.arraylength hx (by rw [e16]; exact Ar17.1) (State.isArrayOf_alike hZ.alike Ar17.2.1) (g := (mkF m 201 #[vr b, vr u8, vr arr, vi st, vi 3, vi 2, vr r7, vi 3, vi x2, vi x1, .unset] [(.ref r7), (.int 2)])) rfl rfl (hb hby own_d10_201) _ ?_
  rw [len_of S17 M17]
  refine XS.icmpNo X16.here hx rfl (hb hby own_d10_202) rfl (feq (by decide : ¬ ((2 : Int32) = (3 : Int32)))).1 ?_
  refine XS.aload X16.here hx rfl (hb hby own_d10_205) rfl rfl ?_
  refine XS.iload X16.here hx rfl (hb hby own_d10_207) rfl ?_
  exact k
 obtain ⟨_, _, ⟨T18, L18, c18, n18⟩, -, X18, ⟨Lc18, hQ18, l18, y18, z18⟩, st18⟩ := Jvm.LawKit.callS X16 hx (y := own_y10) hown (om hZ hw 160 rfl) (om hZ hw 161 rfl) (om hZ hw 74 rfl) (om hZ hw 162 rfl) (by decide) (backOf (W := 0) (own_rm33_3_2 l Z a0 hw r7 k7 ((own_d2 x0 x1).toInt8.toInt32) (x2.toInt8.toInt32) x2 cs fm u8 h16 n0 Z16 O16 fw16 HB) hZ (own_w hw 162 rfl) (own_w hw 74 rfl) (by decide) (by decide)) (g := (mkF m 209 #[vr b, vr u8, vr arr, vi st, vi 3, vi 2, vr r7, vi 3, vi x2, vi x1, .unset] [(.int 2), (.ref r7)])) rfl (by rw [hml]; rfl) (argsL := [(.ref r7), (.int 2)]) (rest := []) (lenOf own_pd16 rfl) rfl (by show 2 * 0 + _ ≤ _; exact Nat.le_of_eq rfl) (hb hby own_d10_209) (fun _ _ => ⟨rfl, e16, (by decide : 1 + 1 ≤ _), (by decide : 3 + 2 ≤ _)⟩)
 dsimp only [Pt.U, Pt.locs, Pt.cells, Pt.slots] at X18 l18 y18 z18 st18 hQ18
 subst l18 y18 z18
 obtain ⟨h18, e18⟩ : ∃ z, T18.heap = z := ⟨_, rfl⟩
 rw [e18] at hQ18
 obtain ⟨r18, k18, rfl, N18q, Kc18, g18, hz18, Vc18⟩ := hQ18
 have N18 := Fr.app N16 N18q
 have f19 := ((E_b.keep Kc7).wr W13).wr W16
 have ne_b_r18 : b ≠ r18 := Nat.ne_of_lt (Nat.lt_of_lt_of_le f19.lt hz18)
 have f20 := ((V_a.keep Kc7 nin0).other W13 ne_arr_r7).other W16 ne_arr_r7
 have ne_arr_r18 : arr ≠ r18 := Nat.ne_of_lt (Nat.lt_of_lt_of_le f20.lt hz18)
 have f21 := E_u8.ext O16.2
 have ne_u8_r18 : u8 ≠ r18 := Nat.ne_of_lt (Nat.lt_of_lt_of_le f21.lt hz18)
 have ne_r7_r18 : r7 ≠ r18 := Nat.ne_of_lt (Nat.lt_of_lt_of_le fw16.lt hz18)
 have hwr18 : h0.size ≤ r18 := Nat.le_trans K16.1 hz18
 have K18 : Keep h0 h18 [b] := K16.trans Kc18 all0
 have Z18 : n0 ≤ h18.size := Nat.le_trans Z16 Kc18.1
 have O18 := O16.keep Kc18 all0
 refine own_st (T' := T18) (g' := (mkF m 212 #[vr b, vr u8, vr arr, vi st, vi 3, vi 2, vr r7, vi 3, vi x2, vi x1, .unset] [(.ref r18)])) st18 ?_
 refine own_st (T' := T18) (g' := (mkF m 217 #[vr b, vr u8, vr arr, vi st, vi 3, vi 2, vr r18, vi 3, vi x2, vi x1, .unset] [(.ref r18), (.ref b)])) (fun t k => ?_) ?_
 ·refine XS.astore X18.here hx rfl (hb hby own_d10_212) rfl rfl (l' := #[vr b, vr u8, vr arr, vi st, vi 3, vi 2, vr r18, vi 3, vi x2, vi x1, .unset]) rfl ?_
  refine XS.aloadN X18.here hx rfl (hb hby own_d10_214) rfl rfl ?_
  refine XS.aload X18.here hx rfl (hb hby own_d10_215) rfl rfl ?_
  exact k
 have f22 := (((F_v.keep Kc7 nin0).other W13 (Or.inl ne_b_r7)).other W16 (Or.inl ne_b_r7)).keep Kc18 nin0
 have f23 := f19.keep Kc18
 obtain ⟨T24, h24, X24, e24, W24, st24⟩ := putF X18 hx hZ hown (host := "") (Or.inl (own_w hw 87 rfl)) Via.refl e18 f22 f23 (Or.inr ⟨(own_w hw 88 rfl), rfl, hnm⟩) (own_w hw 36 rfl) (ty := (.array .byte)) (by decide) rfl rfl (g := (mkF m 217 #[vr b, vr u8, vr arr, vi st, vi 3, vi 2, vr r18, vi 3, vi x2, vi x1, .unset] [(.ref r18), (.ref b)])) rfl rfl (hb hby own_d10_217)
 have N24 := Fr.snoc X24 N18 g_b
 have K24 : Keep h0 h24 [b] := K18.wr W24 (Or.inl (List.mem_of_getElem? (i := 0) rfl))
 have Z24 : n0 ≤ h24.size := Nat.le_trans Z18 (Keep.of_wr W24).1
 have O24 := O18.wr W24 g_b
 have fw24 := (f22.same W24)
 refine own_st (T' := T24) (g' := (mkF m 220 #[vr b, vr u8, vr arr, vi st, vi 3, vi 2, vr r18, vi 3, vi x2, vi x1, .unset] [])) st24 ?_
 refine own_st (T' := T24) (g' := (mkF m 222 #[vr b, vr u8, vr arr, vi st, vi 3, vi 2, vr r18, vi 3, vi x2, vi x1, .unset] [(.int 0), (.ref b)])) (fun t k => ?_) ?_
 ·refine XS.aloadN X24.here hx rfl (hb hby own_d10_220) rfl rfl ?_
  refine XS.iconst X24.here hx rfl (hb hby own_d10_221) ?_
  exact k
 have f25 := ((((F_c.keep Kc7 nin0).other W13 (Or.inl ne_b_r7)).other W16 (Or.inl ne_b_r7)).keep Kc18 nin0).other W24 (Or.inr (slot_ne (Or.inr (own_w hw 90 rfl)) (Or.inr (own_w hw 88 rfl)) (by decide) (t := .byte) (t' := (.array .byte)) (by decide) (by decide)))
 have f26 := f23.wr W24
 obtain ⟨T27, h27, X27, e27, W27, st27⟩ := putFN X24 hx hZ hown (own_w hw 89 rfl) Via.refl e24 f25 f26 (Or.inr ⟨(own_w hw 90 rfl), rfl, hnm⟩) (own_w hw 36 rfl) (ty := .byte) (v' := (.int 0)) (by decide) rfl rfl (g := (mkF m 222 #[vr b, vr u8, vr arr, vi st, vi 3, vi 2, vr r18, vi 3, vi x2, vi x1, .unset] [(.int 0), (.ref b)])) rfl rfl (hb hby own_d10_222)
 have N27 := Fr.snoc X27 N24 g_b
 have K27 : Keep h0 h27 [b] := K24.wr W27 (Or.inl (List.mem_of_getElem? (i := 0) rfl))
 have Z27 : n0 ≤ h27.size := Nat.le_trans Z24 (Keep.of_wr W27).1
 have O27 := O24.wr W27 g_b
 have fw27 := (f25.same W27)
 refine own_st (T' := T27) (g' := (mkF m 225 #[vr b, vr u8, vr arr, vi st, vi 3, vi 2, vr r18, vi 3, vi x2, vi x1, .unset] [])) st27 ?_
 have f28 := fw24.other W27 (Or.inr (slot_ne (Or.inr (own_w hw 88 rfl)) (Or.inr (own_w hw 90 rfl)) (by decide) (t := (.array .byte)) (t' := .byte) (by decide) (by decide)))
 have f29 := (Vc18.other W24 (Ne.symm ne_b_r18)).other W27 (Ne.symm ne_b_r18)
 exact own_retV X27 hx Bd (hb hby own_d10_225) e27 (⟨r18, k18, rfl, N27, K27, g18, hwr18, f28, fw27, f29⟩) (by decide) (by decide)
def own_r6l3 : Room := { frames := 4, cells := 2, slots := 5, locals := 70 }
def own_Q6l3 (Z : State) (b : Addr) (arr : Addr) (ka : ClassId) (y0 y1 y2 y3 y4 y5 y6 y7 st x0 x1 x2 : Int32) (cs : Int32) (fm : Value) (u8 : Addr) (h0 : Heap) (n0 : Nat) : Option Value → Heap → List Loc → Prop := fun v h L => ∃ t k, v = none ∧ Fr n0 L ∧ Keep h0 h [b] ∧ n0 ≤ t ∧ h0.size ≤ t ∧ Fld Z h b "java/lang/String" "value" "[B" (.ref t) ∧ Fld Z h b "java/lang/String" "coder" "B" (.int 0) ∧ Arv Z h t k .byte (2 : Int32) [(.int ((own_d2 x0 x1).toInt8.toInt32)), (.int (x2.toInt8.toInt32))] (.int 0)
theorem own_rm6l3 (l : Launch) (Z : State) (a0 : Array Value) (hw : own_W a0 Z) (b : Addr) (arr : Addr) (ka : ClassId) (y0 y1 y2 y3 y4 y5 y6 y7 st x0 x1 x2 : Int32) (cs : Int32) (fm : Value) (u8 : Addr) (h0 : Heap) (n0 : Nat) (Z0 : n0 ≤ h0.size) (O0 : Old Z n0 h0) (E_b : Exa Z h0 b "java/lang/String") (F_v : Fld Z h0 b "java/lang/String" "value" "[B" .null) (F_c : Fld Z h0 b "java/lang/String" "coder" "B" (.int 0)) (g_b : n0 ≤ b) (V_a : Arv Z h0 arr ka .byte (8 : Int32) [(.int y0), (.int y1), (.int y2), (.int y3), (.int y4), (.int y5), (.int y6), (.int y7)] (.int 0)) (hYX : own_YX y0 y1 y2 y3 y4 y5 y6 y7 st x0 x1 x2) (nba : b ≠ arr) (hm0 : x0 < (0 : Int32)) (hle : own_lead x0) (hco : own_cont x1) (ha2 : ¬ x2 < (0 : Int32)) (hla : own_lat x0) (HB : own_BB Z cs fm u8) :
  own_MF l Z own_y22 (Jvm.Cond.code own_y22 jdk_42_method_10_code 5 none) [] own_r6l3 #[(.ref b), (.ref arr), (.int st), (.int 3), (.ref u8)] h0 (own_Q6l3 Z b arr ka y0 y1 y2 y3 y4 y5 y6 y7 st x0 x1 x2 cs fm u8 h0 n0) := by
 refine own_open (plainFor_of_name own_pn1) hisR (Ls := #[vr b, vr arr, vi st, vi 3, vr u8]) ?_
 intro p e s m below meth c s₁ Bd hZ hx hby hml hown X0 e0
 obtain ⟨-, -, -, -, -, -, -, -, -, E_u8⟩ := id HB
 have N0 := Fr.nil n0
 obtain ⟨ho, hx0, hx1, hx2⟩ := id hYX
 refine own_st (T' := s₁) (g' := (mkF m 3 #[vr b, vr arr, vi st, vi 3, vr u8] [(.ref u8), (.ref b)])) (fun t k => ?_) ?_
 ·refine XS.aloadN X0.here hx rfl (hb hby own_d6_0) rfl rfl ?_
  refine XS.aload X0.here hx rfl (hb hby own_d6_1) rfl rfl ?_
  exact k
 obtain ⟨_, _, ⟨T1, L1, c1, n1⟩, -, X1, ⟨Lc1, hQ1, l1, y1, z1⟩, st1⟩ := Jvm.LawKit.callS X0 hx (y := own_y2) hown (om hZ hw 46 rfl) (om hZ hw 47 rfl) (om hZ hw 48 rfl) (om hZ hw 49 rfl) (by decide) (backOf (W := 1) (own_rm7 l Z a0 hw u8 cs fm u8 h0 n0 Z0 O0 HB) hZ (own_w hw 49 rfl) (own_w hw 48 rfl) (by decide) (by decide)) (g := (mkF m 3 #[vr b, vr arr, vi st, vi 3, vr u8] [(.ref u8), (.ref b)])) rfl (by rw [hml]; rfl) (argsL := [(.ref u8)]) (rest := [(.ref b)]) (lenOf own_pd14 rfl) rfl (by show 2 * 0 + _ ≤ _; exact Nat.le_of_eq rfl) (hb hby own_d6_3) (fun _ _ => ⟨rfl, e0, (by decide : 0 + 0 ≤ _), (by decide : 0 + 0 ≤ _)⟩)
 dsimp only [Pt.U, Pt.locs, Pt.cells, Pt.slots] at X1 l1 y1 z1 st1 hQ1
 subst l1 y1 z1
 obtain ⟨rfl, N1q, e1⟩ := hQ1
 have N1 := Fr.app N0 N1q
 refine own_st (T' := T1) (g' := (mkF m 6 #[vr b, vr arr, vi st, vi 3, vr u8] [(.ref u8), (.ref b)])) st1 ?_
 have f2 := E_u8.ext O0.2
 obtain ⟨T3, X3, e3, st3⟩ := castY X1 hx hZ hown (own_w hw 50 rfl) e1 (Ins.of_exa f2 (own_w hw 51 rfl)) (g := (mkF m 6 #[vr b, vr arr, vi st, vi 3, vr u8] [(.ref u8), (.ref b)])) rfl rfl (hb hby own_d6_6)
 refine own_st (T' := T3) (g' := (mkF m 9 #[vr b, vr arr, vi st, vi 3, vr u8] [(.ref u8), (.ref b)])) st3 ?_
 refine own_st (T' := T3) (g' := (mkF m 13 #[vr b, vr arr, vi st, vi 3, vr u8] [(.ref arr), (.int 3), (.int st), (.ref arr), (.ref u8), (.ref b)])) (fun t k => ?_) ?_
 ·refine XS.aloadN X3.here hx rfl (hb hby own_d6_9) rfl rfl ?_
  refine XS.iloadN X3.here hx rfl (hb hby own_d6_10) rfl ?_
  refine XS.iloadN X3.here hx rfl (hb hby own_d6_11) rfl ?_
  refine XS.aloadN X3.here hx rfl (hb hby own_d6_12) rfl rfl ?_
  exact k
 obtain ⟨cl4, Ar4, q4, S4, M4, H4, G4⟩ := id V_a
 refine own_st (T' := T3) (g' := (mkF m 14 #[vr b, vr arr, vi st, vi 3, vr u8] [(.int 8), (.int 3), (.int st), (.ref arr), (.ref u8), (.ref b)])) (fun t k => ?_) ?_
 ·refine X3.arraylength hx (by rw [e3]; exact Ar4.1) (State.isArrayOf_alike hZ.alike Ar4.2.1) (g := (mkF m 13 #[vr b, vr arr, vi st, vi 3, vr u8] [(.ref arr), (.int 3), (.int st), (.ref arr), (.ref u8), (.ref b)])) rfl rfl (hb hby own_d6_13) _ ?_
  rw [len_of S4 M4]
  exact k
 obtain ⟨_, _, ⟨T5, L5, c5, n5⟩, -, X5, ⟨Lc5, hQ5, l5, y5, z5⟩, st5⟩ := Jvm.LawKit.callS X3 hx (y := own_y4) hown (om hZ hw 52 rfl) (om hZ hw 53 rfl) (om hZ hw 37 rfl) (om hZ hw 54 rfl) (by decide) (backOf (W := 3) (own_rm8 l Z a0 hw st (3 : Int32) (8 : Int32) cs fm u8 h0 n0 Z0 O0 (by rcases ho with rfl|rfl|rfl|rfl<;>decide) (by rcases ho with rfl|rfl|rfl|rfl<;>decide) HB) hZ (own_w hw 54 rfl) (own_w hw 37 rfl) (by decide) (by decide)) (g := (mkF m 14 #[vr b, vr arr, vi st, vi 3, vr u8] [(.int 8), (.int 3), (.int st), (.ref arr), (.ref u8), (.ref b)])) rfl (by rw [hml]; rfl) (argsL := [(.int st), (.int 3), (.int 8)]) (rest := [(.ref arr), (.ref u8), (.ref b)]) (lenOf own_pd7 rfl) rfl (by show 2 * 0 + _ ≤ _; exact Nat.le_of_eq rfl) (hb hby own_d6_14) (fun _ _ => ⟨rfl, e3, (by decide : 0 + 0 ≤ _), (by decide : 0 + 0 ≤ _)⟩)
 dsimp only [Pt.U, Pt.locs, Pt.cells, Pt.slots] at X5 l5 y5 z5 st5 hQ5
 subst l5 y5 z5
 obtain ⟨rfl, N5q, e5⟩ := hQ5
 have N5 := Fr.app N1 N5q
 refine own_st (T' := T5) (g' := (mkF m 17 #[vr b, vr arr, vi st, vi 3, vr u8] [(.int st), (.ref arr), (.ref u8), (.ref b)])) st5 ?_
 refine own_st (T' := T5) (g' := (mkF m 18 #[vr b, vr arr, vi st, vi 3, vr u8] [(.int 3), (.int st), (.ref arr), (.ref u8), (.ref b)])) (fun t k => ?_) ?_
 ·refine XS.iloadN X5.here hx rfl (hb hby own_d6_17) rfl ?_
  exact k
 obtain ⟨_, _, ⟨T6, L6, c6, n6⟩, -, X6, ⟨Lc6, hQ6, l6, y6, z6⟩, st6⟩ := X5.specialBackH hx (y := own_y21) rfl hown (om hZ hw 60 rfl) (om hZ hw 61 rfl) (om hZ hw 63 rfl) (by decide) (backOfWith (W := 0) (own_rm10l3 l Z a0 hw b arr ka y0 y1 y2 y3 y4 y5 y6 y7 st x0 x1 x2 cs fm u8 h0 n0 Z0 O0 E_b F_v F_c g_b V_a ⟨ho, hx0, hx1, hx2⟩ nba hm0 hle hco ha2 hla HB) hZ (own_w hw 63 rfl) (own_w hw 37 rfl) (by decide) (by decide)) (g := (mkF m 18 #[vr b, vr arr, vi st, vi 3, vr u8] [(.int 3), (.int st), (.ref arr), (.ref u8), (.ref b)])) rfl (by rw [hml]; rfl) (Steps.refl _) (a := b) (argsL := [(.ref u8), (.ref arr), (.int st), (.int 3)]) (rest := []) (lenOf own_pd15 rfl) rfl (by show 2 * 0 + _ ≤ _; exact Nat.le_of_eq rfl) (hb hby own_d6_18) (fun _ _ => ⟨rfl, e5, (by decide : 0 + 2 ≤ _), (by decide : 0 + 5 ≤ _)⟩)
 dsimp only [Pt.U, Pt.locs, Pt.cells, Pt.slots] at X6 l6 y6 z6 st6 hQ6
 subst l6 y6 z6
 obtain ⟨h6, e6⟩ : ∃ z, T6.heap = z := ⟨_, rfl⟩
 rw [e6] at hQ6
 obtain ⟨t6, k6, rfl, N6q, Kc6, g6, hz6, Fv6, Fo6, Vc6⟩ := hQ6
 have N6 := Fr.app N5 N6q
 have ne_b_t6 : b ≠ t6 := Nat.ne_of_lt (Nat.lt_of_lt_of_le E_b.lt hz6)
 have ne_arr_t6 : arr ≠ t6 := Nat.ne_of_lt (Nat.lt_of_lt_of_le V_a.lt hz6)
 have ne_u8_t6 : u8 ≠ t6 := Nat.ne_of_lt (Nat.lt_of_lt_of_le f2.lt hz6)
 have hwt6 : h0.size ≤ t6 := Nat.le_trans (Keep.refl h0 [b]).1 hz6
 have K6 : Keep h0 h6 [b] := (Keep.refl h0 [b]).trans Kc6 (allS (Or.inl (List.mem_of_getElem? (i := 0) rfl)) all0)
 have Z6 : n0 ≤ h6.size := Nat.le_trans Z0 Kc6.1
 have O6 := O0.keep Kc6 (allS g_b all0)
 refine own_tr (T' := T6) (g' := (mkF m 21 #[vr b, vr arr, vi st, vi 3, vr u8] [])) st6 ?_
 exact own_retV X6 hx Bd (hb hby own_d6_21) e6 (⟨t6, k6, rfl, N6, K6, g6, hwt6, Fv6, Fo6, Vc6⟩) (by decide) (by decide)
def own_r10u2 : Room := { frames := 5, cells := 3, slots := 8, locals := 76 }
def own_Q10u2 (Z : State) (b : Addr) (arr : Addr) (ka : ClassId) (y0 y1 y2 y3 y4 y5 y6 y7 st x0 x1 x2 : Int32) (cs : Int32) (fm : Value) (u8 : Addr) (h0 : Heap) (n0 : Nat) : Option Value → Heap → List Loc → Prop := fun v h L => ∃ t k, v = none ∧ Fr n0 L ∧ Keep h0 h [b] ∧ n0 ≤ t ∧ h0.size ≤ t ∧ Fld Z h b "java/lang/String" "value" "[B" (.ref t) ∧ Fld Z h b "java/lang/String" "coder" "B" (.int 1) ∧ Arv Z h t k .byte (2 : Int32) [(.int (((own_d2 x0 x1) >>> ((0 : Int32) &&& 31)).toInt8.toInt32)), (.int (((own_d2 x0 x1) >>> ((8 : Int32) &&& 31)).toInt8.toInt32))] (.int 0)
theorem own_rm10u2 (l : Launch) (Z : State) (a0 : Array Value) (hw : own_W a0 Z) (b : Addr) (arr : Addr) (ka : ClassId) (y0 y1 y2 y3 y4 y5 y6 y7 st x0 x1 x2 : Int32) (cs : Int32) (fm : Value) (u8 : Addr) (h0 : Heap) (n0 : Nat) (Z0 : n0 ≤ h0.size) (O0 : Old Z n0 h0) (E_b : Exa Z h0 b "java/lang/String") (F_v : Fld Z h0 b "java/lang/String" "value" "[B" .null) (F_c : Fld Z h0 b "java/lang/String" "coder" "B" (.int 0)) (g_b : n0 ≤ b) (V_a : Arv Z h0 arr ka .byte (8 : Int32) [(.int y0), (.int y1), (.int y2), (.int y3), (.int y4), (.int y5), (.int y6), (.int y7)] (.int 0)) (hYX : own_YX y0 y1 y2 y3 y4 y5 y6 y7 st x0 x1 x2) (nba : b ≠ arr) (hm0 : x0 < (0 : Int32)) (hle : own_lead x0) (hco : own_cont x1) (hla : ¬ own_lat x0) (HB : own_BB Z cs fm u8) :
  own_MF l Z own_y21 (Jvm.Cond.codeWith own_y21 jdk_42_method_11_code 11 none [((800 : Nat), (813 : Nat), (816 : Nat), (202 : Nat))]) [] own_r10u2 #[(.ref b), (.ref u8), (.ref arr), (.int st), (.int 2)] h0 (own_Q10u2 Z b arr ka y0 y1 y2 y3 y4 y5 y6 y7 st x0 x1 x2 cs fm u8 h0 n0) := by
 refine own_open (plainFor_of_name own_pn1) hisWith (Ls := #[vr b, vr u8, vr arr, vi st, vi 2, .unset, .unset, .unset, .unset, .unset, .unset]) ?_
 intro p e s m below meth c s₁ Bd hZ hx hby hml hown X0 e0
 obtain ⟨hcs, -, S_cs, -, -, -, -, -, S_ui, E_u8⟩ := id HB
 have N0 := Fr.nil n0
 have hnm := (name_of_methodNamed Bd.named Bd.method).1
 obtain ⟨ho, hx0, hx1, hx2⟩ := id hYX
 refine own_st (T' := s₁) (g' := (mkF m 1 #[vr b, vr u8, vr arr, vi st, vi 2, .unset, .unset, .unset, .unset, .unset, .unset] [(.ref b)])) (fun t k => ?_) ?_
 ·refine XS.aloadN X0.here hx rfl (hb hby own_d10_0) rfl rfl ?_
  exact k
 obtain ⟨T1, X1, e1, st1⟩ := initO X0 hx hZ hown (own_w hw 64 rfl) (own_w hw 14 rfl) (own_w hw 15 rfl) e0 (g := (mkF m 1 #[vr b, vr u8, vr arr, vi st, vi 2, .unset, .unset, .unset, .unset, .unset, .unset] [(.ref b)])) rfl (by rw [hml]; rfl) rfl (hb hby own_d10_1) (by decide) (W := 0) (by show 2 * 0 + _ ≤ _; exact Nat.le_of_eq rfl) (by decide)
 refine own_st (T' := T1) (g' := (mkF m 4 #[vr b, vr u8, vr arr, vi st, vi 2, .unset, .unset, .unset, .unset, .unset, .unset] [])) st1 ?_
 refine own_st (T' := T1) (g' := (mkF m 31 #[vr b, vr u8, vr arr, vi st, vi 2, .unset, .unset, .unset, .unset, .unset, .unset] [(.ref u8)])) (fun t k => ?_) ?_
 ·refine XS.iload X1.here hx rfl (hb hby own_d10_4) rfl ?_
  refine XS.ifYes X1.here hx rfl (pc0 := 6) (pc' := 30) rfl (hb hby own_d10_6) rfl ((if0 _ _).trans (feq (by decide : ¬ ((2 : Int32) = (0 : Int32)))).2) (by decide) (by decide) ?_
  refine XS.aloadN X1.here hx rfl (hb hby own_d10_30) rfl rfl ?_
  exact k
 have f2 := S_ui.ext O0.2
 obtain ⟨T3, X3, e3, st3⟩ := getS2 X1 hx hZ hown (host := "") (Or.inl (own_w hw 65 rfl)) Via.refl e1 f2 (g := (mkF m 31 #[vr b, vr u8, vr arr, vi st, vi 2, .unset, .unset, .unset, .unset, .unset, .unset] [(.ref u8)])) rfl (hb hby own_d10_31)
 refine own_st (T' := T3) (g' := (mkF m 34 #[vr b, vr u8, vr arr, vi st, vi 2, .unset, .unset, .unset, .unset, .unset, .unset] [(.ref u8), (.ref u8)])) st3 ?_
 refine own_st (T' := T3) (g' := (mkF m 37 #[vr b, vr u8, vr arr, vi st, vi 2, .unset, .unset, .unset, .unset, .unset, .unset] [])) (fun t k => ?_) ?_
 ·refine Jvm.RoadKit.acmp (g := (mkF m 34 #[vr b, vr u8, vr arr, vi st, vi 2, .unset, .unset, .unset, .unset, .unset, .unset] [(.ref u8), (.ref u8)])) X3 hx rfl rfl rfl (pc0 := 34) (pc' := 37) (same := true) rfl (hb hby own_d10_34) rfl (decide_eq_true (congrArg Value.ref (rfl : u8 = u8))) (by decide) (by decide) ?_
  exact k
 have f4 := S_cs.ext O0.2
 obtain ⟨T5, X5, e5, st5⟩ := getS2 X3 hx hZ hown (host := "") (Or.inl (own_w hw 67 rfl)) Via.refl e3 f4 (g := (mkF m 37 #[vr b, vr u8, vr arr, vi st, vi 2, .unset, .unset, .unset, .unset, .unset, .unset] [])) rfl (hb hby own_d10_37)
 refine own_st (T' := T5) (g' := (mkF m 40 #[vr b, vr u8, vr arr, vi st, vi 2, .unset, .unset, .unset, .unset, .unset, .unset] [(.int cs)])) st5 ?_
 refine own_st (T' := T5) (g' := (mkF m 47 #[vr b, vr u8, vr arr, vi st, vi 2, .unset, .unset, .unset, .unset, .unset, .unset] [(.int 2), (.int st), (.ref arr)])) (fun t k => ?_) ?_
 ·refine XS.ifNo X5.here hx rfl (hb hby own_d10_40) rfl ((if0 _ _).trans (feq hcs).1) ?_
  refine XS.aloadN X5.here hx rfl (hb hby own_d10_43) rfl rfl ?_
  refine XS.iloadN X5.here hx rfl (hb hby own_d10_44) rfl ?_
  refine XS.iload X5.here hx rfl (hb hby own_d10_45) rfl ?_
  exact k
 obtain ⟨_, _, ⟨T6, L6, c6, n6⟩, -, X6, ⟨Lc6, hQ6, l6, y6, z6⟩, st6⟩ := Jvm.LawKit.callS X5 hx (y := own_y6) hown (om hZ hw 68 rfl) (om hZ hw 69 rfl) (om hZ hw 70 rfl) (om hZ hw 71 rfl) (by decide) (backOf (W := 0) (own_rm11m2 l Z a0 hw arr ka y0 y1 y2 y3 y4 y5 y6 y7 st x0 x1 x2 cs fm u8 h0 n0 Z0 O0 V_a ⟨ho, hx0, hx1, hx2⟩ hm0 HB) hZ (own_w hw 71 rfl) (own_w hw 70 rfl) (by decide) (by decide)) (g := (mkF m 47 #[vr b, vr u8, vr arr, vi st, vi 2, .unset, .unset, .unset, .unset, .unset, .unset] [(.int 2), (.int st), (.ref arr)])) rfl (by rw [hml]; rfl) (argsL := [(.ref arr), (.int st), (.int 2)]) (rest := []) (lenOf own_pd13 rfl) rfl (by show 2 * 0 + _ ≤ _; exact Nat.le_of_eq rfl) (hb hby own_d10_47) (fun _ _ => ⟨rfl, e5, (by decide : 0 + 0 ≤ _), (by decide : 0 + 0 ≤ _)⟩)
 dsimp only [Pt.U, Pt.locs, Pt.cells, Pt.slots] at X6 l6 y6 z6 st6 hQ6
 subst l6 y6 z6
 obtain ⟨rfl, N6q, e6⟩ := hQ6
 have N6 := Fr.app N0 N6q
 refine own_st (T' := T6) (g' := (mkF m 50 #[vr b, vr u8, vr arr, vi st, vi 2, .unset, .unset, .unset, .unset, .unset, .unset] [(.int 0)])) st6 ?_
 refine own_st (T' := T6) (g' := (mkF m 84 #[vr b, vr u8, vr arr, vi st, vi 2, vi 0, .unset, .unset, .unset, .unset, .unset] [(.int (st + (2 : Int32))), (.int st), (.ref arr)])) (fun t k => ?_) ?_
 ·refine XS.istore X6.here hx rfl (hb hby own_d10_50) rfl (l' := #[vr b, vr u8, vr arr, vi st, vi 2, vi 0, .unset, .unset, .unset, .unset, .unset]) rfl ?_
  refine XS.iload X6.here hx rfl (hb hby own_d10_52) rfl ?_
  refine XS.iload X6.here hx rfl (hb hby own_d10_54) rfl ?_
  refine XS.icmpYes X6.here hx rfl (pc0 := 56) (pc' := 78) rfl (hb hby own_d10_56) rfl (feq (by decide : ¬ ((0 : Int32) = (2 : Int32)))).2 (by decide) (by decide) ?_
  refine XS.aloadN X6.here hx rfl (hb hby own_d10_78) rfl rfl ?_
  refine XS.iloadN X6.here hx rfl (hb hby own_d10_79) rfl ?_
  refine XS.iloadN X6.here hx rfl (hb hby own_d10_80) rfl ?_
  refine XS.iload X6.here hx rfl (hb hby own_d10_81) rfl ?_
  refine XS.iadd X6.here hx rfl (hb hby own_d10_83) rfl ?_
  exact k
 obtain ⟨_, _, ⟨T7, L7, c7, n7⟩, -, X7, ⟨Lc7, hQ7, l7, y7, z7⟩, st7⟩ := Jvm.LawKit.callS X6 hx (y := own_y9) hown (om hZ hw 72 rfl) (om hZ hw 73 rfl) (om hZ hw 74 rfl) (om hZ hw 75 rfl) (by decide) (backOf (W := 0) (own_rm12_2 l Z a0 hw arr ka y0 y1 y2 y3 y4 y5 y6 y7 st x0 x1 x2 cs fm u8 h0 n0 Z0 O0 V_a ⟨ho, hx0, hx1, hx2⟩ HB) hZ (own_w hw 75 rfl) (own_w hw 74 rfl) (by decide) (by decide)) (g := (mkF m 84 #[vr b, vr u8, vr arr, vi st, vi 2, vi 0, .unset, .unset, .unset, .unset, .unset] [(.int (st + (2 : Int32))), (.int st), (.ref arr)])) rfl (by rw [hml]; rfl) (argsL := [(.ref arr), (.int st), (.int (st + (2 : Int32)))]) (rest := []) (lenOf own_pd4 rfl) rfl (by show 2 * 0 + _ ≤ _; exact Nat.le_of_eq rfl) (hb hby own_d10_84) (fun _ _ => ⟨rfl, e6, (by decide : 0 + 1 ≤ _), (by decide : 0 + 2 ≤ _)⟩)
 dsimp only [Pt.U, Pt.locs, Pt.cells, Pt.slots] at X7 l7 y7 z7 st7 hQ7
 subst l7 y7 z7
 obtain ⟨h7, e7⟩ : ∃ z, T7.heap = z := ⟨_, rfl⟩
 rw [e7] at hQ7
 obtain ⟨r7, k7, rfl, N7q, Kc7, g7, hz7, Vc7⟩ := hQ7
 have N7 := Fr.app N6 N7q
 have ne_b_r7 : b ≠ r7 := Nat.ne_of_lt (Nat.lt_of_lt_of_le E_b.lt hz7)
 have ne_arr_r7 : arr ≠ r7 := Nat.ne_of_lt (Nat.lt_of_lt_of_le V_a.lt hz7)
 have f8 := E_u8.ext O0.2
 have ne_u8_r7 : u8 ≠ r7 := Nat.ne_of_lt (Nat.lt_of_lt_of_le f8.lt hz7)
 have hwr7 : h0.size ≤ r7 := Nat.le_trans (Keep.refl h0 [b]).1 hz7
 have K7 : Keep h0 h7 [b] := (Keep.refl h0 [b]).trans Kc7 all0
 have Z7 : n0 ≤ h7.size := Nat.le_trans Z0 Kc7.1
 have O7 := O0.keep Kc7 all0
 refine own_st (T' := T7) (g' := (mkF m 87 #[vr b, vr u8, vr arr, vi st, vi 2, vi 0, .unset, .unset, .unset, .unset, .unset] [(.ref r7)])) st7 ?_
 refine own_st (T' := T7) (g' := (mkF m 107 #[vr b, vr u8, vr arr, vi st, vi 2, vi 0, vr r7, vi 1, .unset, .unset, .unset] [(.int 0), (.ref r7)])) (fun t k => ?_) ?_
 ·refine XS.astore X7.here hx rfl (hb hby own_d10_87) rfl rfl (l' := #[vr b, vr u8, vr arr, vi st, vi 2, vi 0, vr r7, .unset, .unset, .unset, .unset]) rfl ?_
  refine XS.iload X7.here hx rfl (hb hby own_d10_89) rfl ?_
  refine XS.istore X7.here hx rfl (hb hby own_d10_91) rfl (l' := #[vr b, vr u8, vr arr, vi st, vi 2, vi 0, vr r7, vi 0, .unset, .unset, .unset]) rfl ?_
  refine XS.iload X7.here hx rfl (hb hby own_d10_93) rfl ?_
  refine XS.iload X7.here hx rfl (hb hby own_d10_95) rfl ?_
  refine XS.icmpNo X7.here hx rfl (hb hby own_d10_97) rfl (tlt (by decide : (0 : Int32) < (2 : Int32))).2.1 ?_
  refine XS.aload X7.here hx rfl (hb hby own_d10_100) rfl rfl ?_
  refine XS.iload X7.here hx rfl (hb hby own_d10_102) rfl ?_
  refine XS.iinc X7.here hx rfl (hb hby own_d10_104) rfl (l' := #[vr b, vr u8, vr arr, vi st, vi 2, vi 0, vr r7, vi 1, .unset, .unset, .unset]) rfl ?_
  exact k
 obtain ⟨cl9, Ar9, q9, S9, M9, H9, G9⟩ := id Vc7
 refine own_st (T' := T7) (g' := (mkF m 228 #[vr b, vr u8, vr arr, vi st, vi 2, vi 0, vr r7, vi 0, vi x0, .unset, .unset] [(.int 2)])) (fun t k => ?_) ?_
 ·refine X7.baloadBytes hx (j := (0 : Int32)) (v := (.int x0)) (by rw [e7]; exact Ar9.1) (State.isArrayOf_alike hZ.alike Ar9.2.1) Ar9.2.2 (inb_of S9 ⟨by decide, by decide⟩) (Has.at H9 (inb_of S9 ⟨by decide, by decide⟩) rfl) (g := (mkF m 107 #[vr b, vr u8, vr arr, vi st, vi 2, vi 0, vr r7, vi 1, .unset, .unset, .unset] [(.int 0), (.ref r7)])) rfl rfl (hb hby own_d10_107) _ ?_
  refine XS.istore X7.here hx rfl (hb hby own_d10_108) rfl (l' := #[vr b, vr u8, vr arr, vi st, vi 2, vi 0, vr r7, vi 1, vi x0, .unset, .unset]) rfl ?_
  refine XS.iload X7.here hx rfl (hb hby own_d10_110) rfl ?_
  refine XS.ifYes X7.here hx rfl (pc0 := 112) (pc' := 129) rfl (hb hby own_d10_112) rfl ((if0 _ _).trans (tlt hm0).1) (by decide) (by decide) ?_
  refine XS.iload X7.here hx rfl (hb hby own_d10_129) rfl ?_
  refine XS.sipush X7.here hx rfl (hb hby own_d10_131) ?_
  refine XS.iand X7.here hx rfl (hb hby own_d10_134) rfl ?_
  refine XS.sipush X7.here hx rfl (hb hby own_d10_135) ?_
  refine XS.icmpYes X7.here hx rfl (pc0 := 138) (pc' := 184) rfl (hb hby own_d10_138) rfl (feq hla).2 (by decide) (by decide) ?_
  refine XS.iinc X7.here hx rfl (hb hby own_d10_184) rfl (l' := #[vr b, vr u8, vr arr, vi st, vi 2, vi 0, vr r7, vi 0, vi x0, .unset, .unset]) rfl ?_
  refine XS.goto X7.here hx rfl (pc0 := 187) (pc' := 190) rfl (hb hby own_d10_187) (by decide) (by decide) ?_
  refine XS.iload X7.here hx rfl (hb hby own_d10_190) rfl ?_
  refine XS.iload X7.here hx rfl (hb hby own_d10_192) rfl ?_
  refine XS.icmpYes X7.here hx rfl (pc0 := 194) (pc' := 226) rfl (hb hby own_d10_194) rfl (feq (by decide : ¬ ((0 : Int32) = (2 : Int32)))).2 (by decide) (by decide) ?_
  refine XS.iload X7.here hx rfl (hb hby own_d10_226) rfl ?_
  exact k
 obtain ⟨_, _, ⟨T10, L10, c10, n10⟩, -, X10, ⟨Lc10, hQ10, l10, y10, z10⟩, st10⟩ := Jvm.LawKit.callS X7 hx (y := own_y15) hown (om hZ hw 124 rfl) (om hZ hw 125 rfl) (om hZ hw 126 rfl) (om hZ hw 127 rfl) (by decide) (backOf (W := 0) (own_rm23_2 l Z a0 hw cs fm u8 h7 n0 Z7 O7 HB) hZ (own_w hw 127 rfl) (own_w hw 126 rfl) (by decide) (by decide)) (g := (mkF m 228 #[vr b, vr u8, vr arr, vi st, vi 2, vi 0, vr r7, vi 0, vi x0, .unset, .unset] [(.int 2)])) rfl (by rw [hml]; rfl) (argsL := [(.int 2)]) (rest := []) (lenOf own_pd17 rfl) rfl (by show 2 * 0 + _ ≤ _; exact Nat.le_of_eq rfl) (hb hby own_d10_228) (fun _ _ => ⟨rfl, e7, (by decide : 1 + 1 ≤ _), (by decide : 2 + 4 ≤ _)⟩)
 dsimp only [Pt.U, Pt.locs, Pt.cells, Pt.slots] at X10 l10 y10 z10 st10 hQ10
 subst l10 y10 z10
 obtain ⟨h10, e10⟩ : ∃ z, T10.heap = z := ⟨_, rfl⟩
 rw [e10] at hQ10
 obtain ⟨r10, k10, rfl, N10q, Kc10, g10, hz10, Vc10⟩ := hQ10
 have N10 := Fr.app N7 N10q
 have f11 := E_b.keep Kc7
 have ne_b_r10 : b ≠ r10 := Nat.ne_of_lt (Nat.lt_of_lt_of_le f11.lt hz10)
 have f12 := V_a.keep Kc7 nin0
 have ne_arr_r10 : arr ≠ r10 := Nat.ne_of_lt (Nat.lt_of_lt_of_le f12.lt hz10)
 have f13 := E_u8.ext O7.2
 have ne_u8_r10 : u8 ≠ r10 := Nat.ne_of_lt (Nat.lt_of_lt_of_le f13.lt hz10)
 have ne_r7_r10 : r7 ≠ r10 := Nat.ne_of_lt (Nat.lt_of_lt_of_le Vc7.lt hz10)
 have hwr10 : h0.size ≤ r10 := Nat.le_trans K7.1 hz10
 have K10 : Keep h0 h10 [b] := K7.trans Kc10 all0
 have Z10 : n0 ≤ h10.size := Nat.le_trans Z7 Kc10.1
 have O10 := O7.keep Kc10 all0
 refine own_st (T' := T10) (g' := (mkF m 231 #[vr b, vr u8, vr arr, vi st, vi 2, vi 0, vr r7, vi 0, vi x0, .unset, .unset] [(.ref r10)])) st10 ?_
 refine own_st (T' := T10) (g' := (mkF m 241 #[vr b, vr u8, vr arr, vi st, vi 2, vi 0, vr r7, vi 0, vr r10, .unset, .unset] [(.int 0), (.int 0), (.ref r10), (.int 0), (.ref r7)])) (fun t k => ?_) ?_
 ·refine XS.astore X10.here hx rfl (hb hby own_d10_231) rfl rfl (l' := #[vr b, vr u8, vr arr, vi st, vi 2, vi 0, vr r7, vi 0, vr r10, .unset, .unset]) rfl ?_
  refine XS.aload X10.here hx rfl (hb hby own_d10_233) rfl rfl ?_
  refine XS.iconst X10.here hx rfl (hb hby own_d10_235) ?_
  refine XS.aload X10.here hx rfl (hb hby own_d10_236) rfl rfl ?_
  refine XS.iconst X10.here hx rfl (hb hby own_d10_238) ?_
  refine XS.iload X10.here hx rfl (hb hby own_d10_239) rfl ?_
  exact k
 obtain ⟨_, _, ⟨T14, L14, c14, n14⟩, -, X14, ⟨Lc14, hQ14, l14, y14, z14⟩, st14⟩ := Jvm.LawKit.callS X10 hx (y := own_y18) hown (om hZ hw 132 rfl) (om hZ hw 133 rfl) (om hZ hw 116 rfl) (om hZ hw 134 rfl) (by decide) (backOf (W := 0) (own_rm25_4 l Z a0 hw r7 r10 k10 (0 : Int32) (0 : Int32) (0 : Int32) (0 : Int32) cs fm u8 h10 n0 Z10 O10 Vc10 HB) hZ (own_w hw 134 rfl) (own_w hw 116 rfl) (by decide) (by decide)) (g := (mkF m 241 #[vr b, vr u8, vr arr, vi st, vi 2, vi 0, vr r7, vi 0, vr r10, .unset, .unset] [(.int 0), (.int 0), (.ref r10), (.int 0), (.ref r7)])) rfl (by rw [hml]; rfl) (argsL := [(.ref r7), (.int 0), (.ref r10), (.int 0), (.int 0)]) (rest := []) (lenOf own_pd9 rfl) rfl (by show 2 * 0 + _ ≤ _; exact Nat.le_of_eq rfl) (hb hby own_d10_241) (fun _ _ => ⟨rfl, e10, (by decide : 2 + 0 ≤ _), (by decide : 6 + 0 ≤ _)⟩)
 dsimp only [Pt.U, Pt.locs, Pt.cells, Pt.slots] at X14 l14 y14 z14 st14 hQ14
 subst l14 y14 z14
 obtain ⟨rfl, N14q, e14⟩ := hQ14
 have N14 := Fr.app N10 N14q
 refine own_st (T' := T14) (g' := (mkF m 244 #[vr b, vr u8, vr arr, vi st, vi 2, vi 0, vr r7, vi 0, vr r10, .unset, .unset] [])) st14 ?_
 refine own_st (T' := T14) (g' := (mkF m 255 #[vr b, vr u8, vr arr, vi st, vi 2, vi 0, vr r7, vi 0, vr r10, .unset, .unset] [(.int 1), (.int 0), (.ref r10), (.int 2), (.int 0), (.ref r7)])) (fun t k => ?_) ?_
 ·refine XS.aload X14.here hx rfl (hb hby own_d10_244) rfl rfl ?_
  refine XS.iload X14.here hx rfl (hb hby own_d10_246) rfl ?_
  refine XS.iload X14.here hx rfl (hb hby own_d10_248) rfl ?_
  refine XS.aload X14.here hx rfl (hb hby own_d10_250) rfl rfl ?_
  refine XS.iload X14.here hx rfl (hb hby own_d10_252) rfl ?_
  refine XS.iconst X14.here hx rfl (hb hby own_d10_254) ?_
  exact k
 have f15 := Vc7.keep Kc10 nin0
 obtain ⟨_, _, ⟨T16, L16, c16, n16⟩, -, X16, ⟨Lc16, hQ16, l16, y16, z16⟩, st16⟩ := Jvm.LawKit.callS X14 hx (y := own_y20) hown (om hZ hw 145 rfl) (om hZ hw 146 rfl) (om hZ hw 37 rfl) (om hZ hw 147 rfl) (by decide) (backOf (W := 0) (own_rm29_2 l Z a0 hw r7 r10 k7 k10 x0 x1 cs fm u8 h10 n0 Z10 O10 f15 Vc10 g10 ne_r7_r10 hle hco HB) hZ (own_w hw 147 rfl) (own_w hw 37 rfl) (by decide) (by decide)) (g := (mkF m 255 #[vr b, vr u8, vr arr, vi st, vi 2, vi 0, vr r7, vi 0, vr r10, .unset, .unset] [(.int 1), (.int 0), (.ref r10), (.int 2), (.int 0), (.ref r7)])) rfl (by rw [hml]; rfl) (argsL := [(.ref r7), (.int 0), (.int 2), (.ref r10), (.int 0), (.int 1)]) (rest := []) (lenOf own_pd18 rfl) rfl (by show 2 * 0 + _ ≤ _; exact Nat.le_of_eq rfl) (hb hby own_d10_255) (fun _ _ => ⟨rfl, e14, (by decide : 2 + 0 ≤ _), (by decide : 6 + 0 ≤ _)⟩)
 dsimp only [Pt.U, Pt.locs, Pt.cells, Pt.slots] at X16 l16 y16 z16 st16 hQ16
 subst l16 y16 z16
 obtain ⟨h16, e16⟩ : ∃ z, T16.heap = z := ⟨_, rfl⟩
 rw [e16] at hQ16
 obtain ⟨rfl, N16q, Kc16, Vc16⟩ := hQ16
 have N16 := Fr.app N14 N16q
 have K16 : Keep h0 h16 [b] := K10.trans Kc16 (allS (Or.inr hwr10) all0)
 have Z16 : n0 ≤ h16.size := Nat.le_trans Z10 Kc16.1
 have O16 := O10.keep Kc16 (allS g10 all0)
 refine own_st (T' := T16) (g' := (mkF m 258 #[vr b, vr u8, vr arr, vi st, vi 2, vi 0, vr r7, vi 0, vr r10, .unset, .unset] [(.int 1)])) st16 ?_
 refine own_st (T' := T16) (g' := (mkF m 273 #[vr b, vr u8, vr arr, vi st, vi 2, vi 1, vr r7, vi 0, vr r10, .unset, .unset] [(.int 2), (.ref r10)])) (fun t k => ?_) ?_
 ·refine XS.istore X16.here hx rfl (hb hby own_d10_258) rfl (l' := #[vr b, vr u8, vr arr, vi st, vi 2, vi 1, vr r7, vi 0, vr r10, .unset, .unset]) rfl ?_
  refine XS.iload X16.here hx rfl (hb hby own_d10_260) rfl ?_
  refine XS.iload X16.here hx rfl (hb hby own_d10_262) rfl ?_
  refine XS.icmpNo X16.here hx rfl (hb hby own_d10_264) rfl (feq (by decide : ¬ ((1 : Int32) = (2 : Int32)))).1 ?_
  refine XS.aload X16.here hx rfl (hb hby own_d10_267) rfl rfl ?_
  refine XS.iload X16.here hx rfl (hb hby own_d10_269) rfl ?_
  refine XS.iconst X16.here hx rfl (hb hby own_d10_271) ?_
  refine XS.ishl X16.here hx rfl (hb hby own_d10_272) rfl ?_
  exact k
 obtain ⟨_, _, ⟨T17, L17, c17, n17⟩, -, X17, ⟨Lc17, hQ17, l17, y17, z17⟩, st17⟩ := Jvm.LawKit.callS X16 hx (y := own_y10) hown (om hZ hw 160 rfl) (om hZ hw 161 rfl) (om hZ hw 74 rfl) (om hZ hw 162 rfl) (by decide) (backOf (W := 0) (own_rm33_4_2 l Z a0 hw r10 k10 (((own_d2 x0 x1) >>> ((0 : Int32) &&& 31)).toInt8.toInt32) (((own_d2 x0 x1) >>> ((8 : Int32) &&& 31)).toInt8.toInt32) (0 : Int32) (0 : Int32) cs fm u8 h16 n0 Z16 O16 Vc16 HB) hZ (own_w hw 162 rfl) (own_w hw 74 rfl) (by decide) (by decide)) (g := (mkF m 273 #[vr b, vr u8, vr arr, vi st, vi 2, vi 1, vr r7, vi 0, vr r10, .unset, .unset] [(.int 2), (.ref r10)])) rfl (by rw [hml]; rfl) (argsL := [(.ref r10), (.int 2)]) (rest := []) (lenOf own_pd16 rfl) rfl (by show 2 * 0 + _ ≤ _; exact Nat.le_of_eq rfl) (hb hby own_d10_273) (fun _ _ => ⟨rfl, e16, (by decide : 2 + 1 ≤ _), (by decide : 6 + 2 ≤ _)⟩)
 dsimp only [Pt.U, Pt.locs, Pt.cells, Pt.slots] at X17 l17 y17 z17 st17 hQ17
 subst l17 y17 z17
 obtain ⟨h17, e17⟩ : ∃ z, T17.heap = z := ⟨_, rfl⟩
 rw [e17] at hQ17
 obtain ⟨r17, k17, rfl, N17q, Kc17, g17, hz17, Vc17⟩ := hQ17
 have N17 := Fr.app N16 N17q
 have f18 := (f11.keep Kc10).keep Kc16
 have ne_b_r17 : b ≠ r17 := Nat.ne_of_lt (Nat.lt_of_lt_of_le f18.lt hz17)
 have f19 := (f12.keep Kc10 nin0).keep Kc16 (ninS ne_arr_r10 nin0)
 have ne_arr_r17 : arr ≠ r17 := Nat.ne_of_lt (Nat.lt_of_lt_of_le f19.lt hz17)
 have f20 := E_u8.ext O16.2
 have ne_u8_r17 : u8 ≠ r17 := Nat.ne_of_lt (Nat.lt_of_lt_of_le f20.lt hz17)
 have f21 := f15.keep Kc16 (ninS ne_r7_r10 nin0)
 have ne_r7_r17 : r7 ≠ r17 := Nat.ne_of_lt (Nat.lt_of_lt_of_le f21.lt hz17)
 have ne_r10_r17 : r10 ≠ r17 := Nat.ne_of_lt (Nat.lt_of_lt_of_le Vc16.lt hz17)
 have hwr17 : h0.size ≤ r17 := Nat.le_trans K16.1 hz17
 have K17 : Keep h0 h17 [b] := K16.trans Kc17 all0
 have Z17 : n0 ≤ h17.size := Nat.le_trans Z16 Kc17.1
 have O17 := O16.keep Kc17 all0
 refine own_st (T' := T17) (g' := (mkF m 276 #[vr b, vr u8, vr arr, vi st, vi 2, vi 1, vr r7, vi 0, vr r10, .unset, .unset] [(.ref r17)])) st17 ?_
 refine own_st (T' := T17) (g' := (mkF m 281 #[vr b, vr u8, vr arr, vi st, vi 2, vi 1, vr r7, vi 0, vr r17, .unset, .unset] [(.ref r17), (.ref b)])) (fun t k => ?_) ?_
 ·refine XS.astore X17.here hx rfl (hb hby own_d10_276) rfl rfl (l' := #[vr b, vr u8, vr arr, vi st, vi 2, vi 1, vr r7, vi 0, vr r17, .unset, .unset]) rfl ?_
  refine XS.aloadN X17.here hx rfl (hb hby own_d10_278) rfl rfl ?_
  refine XS.aload X17.here hx rfl (hb hby own_d10_279) rfl rfl ?_
  exact k
 have f22 := (((F_v.keep Kc7 nin0).keep Kc10 nin0).keep Kc16 (ninS ne_b_r10 nin0)).keep Kc17 nin0
 have f23 := f18.keep Kc17
 obtain ⟨T24, h24, X24, e24, W24, st24⟩ := putF X17 hx hZ hown (host := "") (Or.inl (own_w hw 87 rfl)) Via.refl e17 f22 f23 (Or.inr ⟨(own_w hw 88 rfl), rfl, hnm⟩) (own_w hw 36 rfl) (ty := (.array .byte)) (by decide) rfl rfl (g := (mkF m 281 #[vr b, vr u8, vr arr, vi st, vi 2, vi 1, vr r7, vi 0, vr r17, .unset, .unset] [(.ref r17), (.ref b)])) rfl rfl (hb hby own_d10_281)
 have N24 := Fr.snoc X24 N17 g_b
 have K24 : Keep h0 h24 [b] := K17.wr W24 (Or.inl (List.mem_of_getElem? (i := 0) rfl))
 have Z24 : n0 ≤ h24.size := Nat.le_trans Z17 (Keep.of_wr W24).1
 have O24 := O17.wr W24 g_b
 have fw24 := (f22.same W24)
 refine own_st (T' := T24) (g' := (mkF m 284 #[vr b, vr u8, vr arr, vi st, vi 2, vi 1, vr r7, vi 0, vr r17, .unset, .unset] [])) st24 ?_
 refine own_st (T' := T24) (g' := (mkF m 286 #[vr b, vr u8, vr arr, vi st, vi 2, vi 1, vr r7, vi 0, vr r17, .unset, .unset] [(.int 1), (.ref b)])) (fun t k => ?_) ?_
 ·refine XS.aloadN X24.here hx rfl (hb hby own_d10_284) rfl rfl ?_
  refine XS.iconst X24.here hx rfl (hb hby own_d10_285) ?_
  exact k
 have f25 := ((((F_c.keep Kc7 nin0).keep Kc10 nin0).keep Kc16 (ninS ne_b_r10 nin0)).keep Kc17 nin0).other W24 (Or.inr (slot_ne (Or.inr (own_w hw 90 rfl)) (Or.inr (own_w hw 88 rfl)) (by decide) (t := .byte) (t' := (.array .byte)) (by decide) (by decide)))
 have f26 := f23.wr W24
 obtain ⟨T27, h27, X27, e27, W27, st27⟩ := putFN X24 hx hZ hown (own_w hw 89 rfl) Via.refl e24 f25 f26 (Or.inr ⟨(own_w hw 90 rfl), rfl, hnm⟩) (own_w hw 36 rfl) (ty := .byte) (v' := (.int 1)) (by decide) rfl rfl (g := (mkF m 286 #[vr b, vr u8, vr arr, vi st, vi 2, vi 1, vr r7, vi 0, vr r17, .unset, .unset] [(.int 1), (.ref b)])) rfl rfl (hb hby own_d10_286)
 have N27 := Fr.snoc X27 N24 g_b
 have K27 : Keep h0 h27 [b] := K24.wr W27 (Or.inl (List.mem_of_getElem? (i := 0) rfl))
 have Z27 : n0 ≤ h27.size := Nat.le_trans Z24 (Keep.of_wr W27).1
 have O27 := O24.wr W27 g_b
 have fw27 := (f25.same W27)
 refine own_st (T' := T27) (g' := (mkF m 289 #[vr b, vr u8, vr arr, vi st, vi 2, vi 1, vr r7, vi 0, vr r17, .unset, .unset] [])) st27 ?_
 have f28 := fw24.other W27 (Or.inr (slot_ne (Or.inr (own_w hw 88 rfl)) (Or.inr (own_w hw 90 rfl)) (by decide) (t := (.array .byte)) (t' := .byte) (by decide) (by decide)))
 have f29 := (Vc17.other W24 (Ne.symm ne_b_r17)).other W27 (Ne.symm ne_b_r17)
 refine own_st (T' := T27) (g' := (mkF m 879 #[vr b, vr u8, vr arr, vi st, vi 2, vi 1, vr r7, vi 0, vr r17, .unset, .unset] [])) (fun t k => ?_) ?_
 ·refine XS.goto X27.here hx rfl (pc0 := 289) (pc' := 879) rfl (hb hby own_d10_289) (by decide) (by decide) ?_
  exact k
 exact own_retV X27 hx Bd (hb hby own_d10_879) e27 (⟨r17, k17, rfl, N27, K27, g17, hwr17, f28, fw27, f29⟩) (by decide) (by decide)
def own_r6u2 : Room := { frames := 6, cells := 3, slots := 8, locals := 98 }
def own_Q6u2 (Z : State) (b : Addr) (arr : Addr) (ka : ClassId) (y0 y1 y2 y3 y4 y5 y6 y7 st x0 x1 x2 : Int32) (cs : Int32) (fm : Value) (u8 : Addr) (h0 : Heap) (n0 : Nat) : Option Value → Heap → List Loc → Prop := fun v h L => ∃ t k, v = none ∧ Fr n0 L ∧ Keep h0 h [b] ∧ n0 ≤ t ∧ h0.size ≤ t ∧ Fld Z h b "java/lang/String" "value" "[B" (.ref t) ∧ Fld Z h b "java/lang/String" "coder" "B" (.int 1) ∧ Arv Z h t k .byte (2 : Int32) [(.int (((own_d2 x0 x1) >>> ((0 : Int32) &&& 31)).toInt8.toInt32)), (.int (((own_d2 x0 x1) >>> ((8 : Int32) &&& 31)).toInt8.toInt32))] (.int 0)
theorem own_rm6u2 (l : Launch) (Z : State) (a0 : Array Value) (hw : own_W a0 Z) (b : Addr) (arr : Addr) (ka : ClassId) (y0 y1 y2 y3 y4 y5 y6 y7 st x0 x1 x2 : Int32) (cs : Int32) (fm : Value) (u8 : Addr) (h0 : Heap) (n0 : Nat) (Z0 : n0 ≤ h0.size) (O0 : Old Z n0 h0) (E_b : Exa Z h0 b "java/lang/String") (F_v : Fld Z h0 b "java/lang/String" "value" "[B" .null) (F_c : Fld Z h0 b "java/lang/String" "coder" "B" (.int 0)) (g_b : n0 ≤ b) (V_a : Arv Z h0 arr ka .byte (8 : Int32) [(.int y0), (.int y1), (.int y2), (.int y3), (.int y4), (.int y5), (.int y6), (.int y7)] (.int 0)) (hYX : own_YX y0 y1 y2 y3 y4 y5 y6 y7 st x0 x1 x2) (nba : b ≠ arr) (hm0 : x0 < (0 : Int32)) (hle : own_lead x0) (hco : own_cont x1) (hla : ¬ own_lat x0) (HB : own_BB Z cs fm u8) :
  own_MF l Z own_y22 (Jvm.Cond.code own_y22 jdk_42_method_10_code 5 none) [] own_r6u2 #[(.ref b), (.ref arr), (.int st), (.int 2), (.ref u8)] h0 (own_Q6u2 Z b arr ka y0 y1 y2 y3 y4 y5 y6 y7 st x0 x1 x2 cs fm u8 h0 n0) := by
 refine own_open (plainFor_of_name own_pn1) hisR (Ls := #[vr b, vr arr, vi st, vi 2, vr u8]) ?_
 intro p e s m below meth c s₁ Bd hZ hx hby hml hown X0 e0
 obtain ⟨-, -, -, -, -, -, -, -, -, E_u8⟩ := id HB
 have N0 := Fr.nil n0
 obtain ⟨ho, hx0, hx1, hx2⟩ := id hYX
 refine own_st (T' := s₁) (g' := (mkF m 3 #[vr b, vr arr, vi st, vi 2, vr u8] [(.ref u8), (.ref b)])) (fun t k => ?_) ?_
 ·refine XS.aloadN X0.here hx rfl (hb hby own_d6_0) rfl rfl ?_
  refine XS.aload X0.here hx rfl (hb hby own_d6_1) rfl rfl ?_
  exact k
 obtain ⟨_, _, ⟨T1, L1, c1, n1⟩, -, X1, ⟨Lc1, hQ1, l1, y1, z1⟩, st1⟩ := Jvm.LawKit.callS X0 hx (y := own_y2) hown (om hZ hw 46 rfl) (om hZ hw 47 rfl) (om hZ hw 48 rfl) (om hZ hw 49 rfl) (by decide) (backOf (W := 1) (own_rm7 l Z a0 hw u8 cs fm u8 h0 n0 Z0 O0 HB) hZ (own_w hw 49 rfl) (own_w hw 48 rfl) (by decide) (by decide)) (g := (mkF m 3 #[vr b, vr arr, vi st, vi 2, vr u8] [(.ref u8), (.ref b)])) rfl (by rw [hml]; rfl) (argsL := [(.ref u8)]) (rest := [(.ref b)]) (lenOf own_pd14 rfl) rfl (by show 2 * 0 + _ ≤ _; exact Nat.le_of_eq rfl) (hb hby own_d6_3) (fun _ _ => ⟨rfl, e0, (by decide : 0 + 0 ≤ _), (by decide : 0 + 0 ≤ _)⟩)
 dsimp only [Pt.U, Pt.locs, Pt.cells, Pt.slots] at X1 l1 y1 z1 st1 hQ1
 subst l1 y1 z1
 obtain ⟨rfl, N1q, e1⟩ := hQ1
 have N1 := Fr.app N0 N1q
 refine own_st (T' := T1) (g' := (mkF m 6 #[vr b, vr arr, vi st, vi 2, vr u8] [(.ref u8), (.ref b)])) st1 ?_
 have f2 := E_u8.ext O0.2
 obtain ⟨T3, X3, e3, st3⟩ := castY X1 hx hZ hown (own_w hw 50 rfl) e1 (Ins.of_exa f2 (own_w hw 51 rfl)) (g := (mkF m 6 #[vr b, vr arr, vi st, vi 2, vr u8] [(.ref u8), (.ref b)])) rfl rfl (hb hby own_d6_6)
 refine own_st (T' := T3) (g' := (mkF m 9 #[vr b, vr arr, vi st, vi 2, vr u8] [(.ref u8), (.ref b)])) st3 ?_
 refine own_st (T' := T3) (g' := (mkF m 13 #[vr b, vr arr, vi st, vi 2, vr u8] [(.ref arr), (.int 2), (.int st), (.ref arr), (.ref u8), (.ref b)])) (fun t k => ?_) ?_
 ·refine XS.aloadN X3.here hx rfl (hb hby own_d6_9) rfl rfl ?_
  refine XS.iloadN X3.here hx rfl (hb hby own_d6_10) rfl ?_
  refine XS.iloadN X3.here hx rfl (hb hby own_d6_11) rfl ?_
  refine XS.aloadN X3.here hx rfl (hb hby own_d6_12) rfl rfl ?_
  exact k
 obtain ⟨cl4, Ar4, q4, S4, M4, H4, G4⟩ := id V_a
 refine own_st (T' := T3) (g' := (mkF m 14 #[vr b, vr arr, vi st, vi 2, vr u8] [(.int 8), (.int 2), (.int st), (.ref arr), (.ref u8), (.ref b)])) (fun t k => ?_) ?_
 ·refine X3.arraylength hx (by rw [e3]; exact Ar4.1) (State.isArrayOf_alike hZ.alike Ar4.2.1) (g := (mkF m 13 #[vr b, vr arr, vi st, vi 2, vr u8] [(.ref arr), (.int 2), (.int st), (.ref arr), (.ref u8), (.ref b)])) rfl rfl (hb hby own_d6_13) _ ?_
  rw [len_of S4 M4]
  exact k
 obtain ⟨_, _, ⟨T5, L5, c5, n5⟩, -, X5, ⟨Lc5, hQ5, l5, y5, z5⟩, st5⟩ := Jvm.LawKit.callS X3 hx (y := own_y4) hown (om hZ hw 52 rfl) (om hZ hw 53 rfl) (om hZ hw 37 rfl) (om hZ hw 54 rfl) (by decide) (backOf (W := 3) (own_rm8 l Z a0 hw st (2 : Int32) (8 : Int32) cs fm u8 h0 n0 Z0 O0 (by rcases ho with rfl|rfl|rfl|rfl<;>decide) (by rcases ho with rfl|rfl|rfl|rfl<;>decide) HB) hZ (own_w hw 54 rfl) (own_w hw 37 rfl) (by decide) (by decide)) (g := (mkF m 14 #[vr b, vr arr, vi st, vi 2, vr u8] [(.int 8), (.int 2), (.int st), (.ref arr), (.ref u8), (.ref b)])) rfl (by rw [hml]; rfl) (argsL := [(.int st), (.int 2), (.int 8)]) (rest := [(.ref arr), (.ref u8), (.ref b)]) (lenOf own_pd7 rfl) rfl (by show 2 * 0 + _ ≤ _; exact Nat.le_of_eq rfl) (hb hby own_d6_14) (fun _ _ => ⟨rfl, e3, (by decide : 0 + 0 ≤ _), (by decide : 0 + 0 ≤ _)⟩)
 dsimp only [Pt.U, Pt.locs, Pt.cells, Pt.slots] at X5 l5 y5 z5 st5 hQ5
 subst l5 y5 z5
 obtain ⟨rfl, N5q, e5⟩ := hQ5
 have N5 := Fr.app N1 N5q
 refine own_st (T' := T5) (g' := (mkF m 17 #[vr b, vr arr, vi st, vi 2, vr u8] [(.int st), (.ref arr), (.ref u8), (.ref b)])) st5 ?_
 refine own_st (T' := T5) (g' := (mkF m 18 #[vr b, vr arr, vi st, vi 2, vr u8] [(.int 2), (.int st), (.ref arr), (.ref u8), (.ref b)])) (fun t k => ?_) ?_
 ·refine XS.iloadN X5.here hx rfl (hb hby own_d6_17) rfl ?_
  exact k
 obtain ⟨_, _, ⟨T6, L6, c6, n6⟩, -, X6, ⟨Lc6, hQ6, l6, y6, z6⟩, st6⟩ := X5.specialBackH hx (y := own_y21) rfl hown (om hZ hw 60 rfl) (om hZ hw 61 rfl) (om hZ hw 63 rfl) (by decide) (backOfWith (W := 0) (own_rm10u2 l Z a0 hw b arr ka y0 y1 y2 y3 y4 y5 y6 y7 st x0 x1 x2 cs fm u8 h0 n0 Z0 O0 E_b F_v F_c g_b V_a ⟨ho, hx0, hx1, hx2⟩ nba hm0 hle hco hla HB) hZ (own_w hw 63 rfl) (own_w hw 37 rfl) (by decide) (by decide)) (g := (mkF m 18 #[vr b, vr arr, vi st, vi 2, vr u8] [(.int 2), (.int st), (.ref arr), (.ref u8), (.ref b)])) rfl (by rw [hml]; rfl) (Steps.refl _) (a := b) (argsL := [(.ref u8), (.ref arr), (.int st), (.int 2)]) (rest := []) (lenOf own_pd15 rfl) rfl (by show 2 * 0 + _ ≤ _; exact Nat.le_of_eq rfl) (hb hby own_d6_18) (fun _ _ => ⟨rfl, e5, (by decide : 0 + 3 ≤ _), (by decide : 0 + 8 ≤ _)⟩)
 dsimp only [Pt.U, Pt.locs, Pt.cells, Pt.slots] at X6 l6 y6 z6 st6 hQ6
 subst l6 y6 z6
 obtain ⟨h6, e6⟩ : ∃ z, T6.heap = z := ⟨_, rfl⟩
 rw [e6] at hQ6
 obtain ⟨t6, k6, rfl, N6q, Kc6, g6, hz6, Fv6, Fo6, Vc6⟩ := hQ6
 have N6 := Fr.app N5 N6q
 have ne_b_t6 : b ≠ t6 := Nat.ne_of_lt (Nat.lt_of_lt_of_le E_b.lt hz6)
 have ne_arr_t6 : arr ≠ t6 := Nat.ne_of_lt (Nat.lt_of_lt_of_le V_a.lt hz6)
 have ne_u8_t6 : u8 ≠ t6 := Nat.ne_of_lt (Nat.lt_of_lt_of_le f2.lt hz6)
 have hwt6 : h0.size ≤ t6 := Nat.le_trans (Keep.refl h0 [b]).1 hz6
 have K6 : Keep h0 h6 [b] := (Keep.refl h0 [b]).trans Kc6 (allS (Or.inl (List.mem_of_getElem? (i := 0) rfl)) all0)
 have Z6 : n0 ≤ h6.size := Nat.le_trans Z0 Kc6.1
 have O6 := O0.keep Kc6 (allS g_b all0)
 refine own_tr (T' := T6) (g' := (mkF m 21 #[vr b, vr arr, vi st, vi 2, vr u8] [])) st6 ?_
 exact own_retV X6 hx Bd (hb hby own_d6_21) e6 (⟨t6, k6, rfl, N6, K6, g6, hwt6, Fv6, Fo6, Vc6⟩) (by decide) (by decide)
def own_r10u3 : Room := { frames := 5, cells := 3, slots := 13, locals := 76 }
def own_Q10u3 (Z : State) (b : Addr) (arr : Addr) (ka : ClassId) (y0 y1 y2 y3 y4 y5 y6 y7 st x0 x1 x2 : Int32) (cs : Int32) (fm : Value) (u8 : Addr) (h0 : Heap) (n0 : Nat) : Option Value → Heap → List Loc → Prop := fun v h L => ∃ t k, v = none ∧ Fr n0 L ∧ Keep h0 h [b] ∧ n0 ≤ t ∧ h0.size ≤ t ∧ Fld Z h b "java/lang/String" "value" "[B" (.ref t) ∧ Fld Z h b "java/lang/String" "coder" "B" (.int 1) ∧ Arv Z h t k .byte (4 : Int32) [(.int (((own_d2 x0 x1) >>> ((0 : Int32) &&& 31)).toInt8.toInt32)), (.int (((own_d2 x0 x1) >>> ((8 : Int32) &&& 31)).toInt8.toInt32)), (.int (((x2.toUInt32.toUInt16.toUInt32.toInt32) >>> ((0 : Int32) &&& 31)).toInt8.toInt32)), (.int (((x2.toUInt32.toUInt16.toUInt32.toInt32) >>> ((8 : Int32) &&& 31)).toInt8.toInt32))] (.int 0)
theorem own_rm10u3 (l : Launch) (Z : State) (a0 : Array Value) (hw : own_W a0 Z) (b : Addr) (arr : Addr) (ka : ClassId) (y0 y1 y2 y3 y4 y5 y6 y7 st x0 x1 x2 : Int32) (cs : Int32) (fm : Value) (u8 : Addr) (h0 : Heap) (n0 : Nat) (Z0 : n0 ≤ h0.size) (O0 : Old Z n0 h0) (E_b : Exa Z h0 b "java/lang/String") (F_v : Fld Z h0 b "java/lang/String" "value" "[B" .null) (F_c : Fld Z h0 b "java/lang/String" "coder" "B" (.int 0)) (g_b : n0 ≤ b) (V_a : Arv Z h0 arr ka .byte (8 : Int32) [(.int y0), (.int y1), (.int y2), (.int y3), (.int y4), (.int y5), (.int y6), (.int y7)] (.int 0)) (hYX : own_YX y0 y1 y2 y3 y4 y5 y6 y7 st x0 x1 x2) (nba : b ≠ arr) (hm0 : x0 < (0 : Int32)) (hle : own_lead x0) (hco : own_cont x1) (ha2 : ¬ x2 < (0 : Int32)) (hla : ¬ own_lat x0) (HB : own_BB Z cs fm u8) :
  own_MF l Z own_y21 (Jvm.Cond.codeWith own_y21 jdk_42_method_11_code 11 none [((800 : Nat), (813 : Nat), (816 : Nat), (202 : Nat))]) [] own_r10u3 #[(.ref b), (.ref u8), (.ref arr), (.int st), (.int 3)] h0 (own_Q10u3 Z b arr ka y0 y1 y2 y3 y4 y5 y6 y7 st x0 x1 x2 cs fm u8 h0 n0) := by
 refine own_open (plainFor_of_name own_pn1) hisWith (Ls := #[vr b, vr u8, vr arr, vi st, vi 3, .unset, .unset, .unset, .unset, .unset, .unset]) ?_
 intro p e s m below meth c s₁ Bd hZ hx hby hml hown X0 e0
 obtain ⟨hcs, -, S_cs, -, -, -, -, -, S_ui, E_u8⟩ := id HB
 have N0 := Fr.nil n0
 have hnm := (name_of_methodNamed Bd.named Bd.method).1
 obtain ⟨ho, hx0, hx1, hx2⟩ := id hYX
 refine own_st (T' := s₁) (g' := (mkF m 1 #[vr b, vr u8, vr arr, vi st, vi 3, .unset, .unset, .unset, .unset, .unset, .unset] [(.ref b)])) (fun t k => ?_) ?_
 ·refine XS.aloadN X0.here hx rfl (hb hby own_d10_0) rfl rfl ?_
  exact k
 obtain ⟨T1, X1, e1, st1⟩ := initO X0 hx hZ hown (own_w hw 64 rfl) (own_w hw 14 rfl) (own_w hw 15 rfl) e0 (g := (mkF m 1 #[vr b, vr u8, vr arr, vi st, vi 3, .unset, .unset, .unset, .unset, .unset, .unset] [(.ref b)])) rfl (by rw [hml]; rfl) rfl (hb hby own_d10_1) (by decide) (W := 0) (by show 2 * 0 + _ ≤ _; exact Nat.le_of_eq rfl) (by decide)
 refine own_st (T' := T1) (g' := (mkF m 4 #[vr b, vr u8, vr arr, vi st, vi 3, .unset, .unset, .unset, .unset, .unset, .unset] [])) st1 ?_
 refine own_st (T' := T1) (g' := (mkF m 31 #[vr b, vr u8, vr arr, vi st, vi 3, .unset, .unset, .unset, .unset, .unset, .unset] [(.ref u8)])) (fun t k => ?_) ?_
 ·refine XS.iload X1.here hx rfl (hb hby own_d10_4) rfl ?_
  refine XS.ifYes X1.here hx rfl (pc0 := 6) (pc' := 30) rfl (hb hby own_d10_6) rfl ((if0 _ _).trans (feq (by decide : ¬ ((3 : Int32) = (0 : Int32)))).2) (by decide) (by decide) ?_
  refine XS.aloadN X1.here hx rfl (hb hby own_d10_30) rfl rfl ?_
  exact k
 have f2 := S_ui.ext O0.2
 obtain ⟨T3, X3, e3, st3⟩ := getS2 X1 hx hZ hown (host := "") (Or.inl (own_w hw 65 rfl)) Via.refl e1 f2 (g := (mkF m 31 #[vr b, vr u8, vr arr, vi st, vi 3, .unset, .unset, .unset, .unset, .unset, .unset] [(.ref u8)])) rfl (hb hby own_d10_31)
 refine own_st (T' := T3) (g' := (mkF m 34 #[vr b, vr u8, vr arr, vi st, vi 3, .unset, .unset, .unset, .unset, .unset, .unset] [(.ref u8), (.ref u8)])) st3 ?_
 refine own_st (T' := T3) (g' := (mkF m 37 #[vr b, vr u8, vr arr, vi st, vi 3, .unset, .unset, .unset, .unset, .unset, .unset] [])) (fun t k => ?_) ?_
 ·refine Jvm.RoadKit.acmp (g := (mkF m 34 #[vr b, vr u8, vr arr, vi st, vi 3, .unset, .unset, .unset, .unset, .unset, .unset] [(.ref u8), (.ref u8)])) X3 hx rfl rfl rfl (pc0 := 34) (pc' := 37) (same := true) rfl (hb hby own_d10_34) rfl (decide_eq_true (congrArg Value.ref (rfl : u8 = u8))) (by decide) (by decide) ?_
  exact k
 have f4 := S_cs.ext O0.2
 obtain ⟨T5, X5, e5, st5⟩ := getS2 X3 hx hZ hown (host := "") (Or.inl (own_w hw 67 rfl)) Via.refl e3 f4 (g := (mkF m 37 #[vr b, vr u8, vr arr, vi st, vi 3, .unset, .unset, .unset, .unset, .unset, .unset] [])) rfl (hb hby own_d10_37)
 refine own_st (T' := T5) (g' := (mkF m 40 #[vr b, vr u8, vr arr, vi st, vi 3, .unset, .unset, .unset, .unset, .unset, .unset] [(.int cs)])) st5 ?_
 refine own_st (T' := T5) (g' := (mkF m 47 #[vr b, vr u8, vr arr, vi st, vi 3, .unset, .unset, .unset, .unset, .unset, .unset] [(.int 3), (.int st), (.ref arr)])) (fun t k => ?_) ?_
 ·refine XS.ifNo X5.here hx rfl (hb hby own_d10_40) rfl ((if0 _ _).trans (feq hcs).1) ?_
  refine XS.aloadN X5.here hx rfl (hb hby own_d10_43) rfl rfl ?_
  refine XS.iloadN X5.here hx rfl (hb hby own_d10_44) rfl ?_
  refine XS.iload X5.here hx rfl (hb hby own_d10_45) rfl ?_
  exact k
 obtain ⟨_, _, ⟨T6, L6, c6, n6⟩, -, X6, ⟨Lc6, hQ6, l6, y6, z6⟩, st6⟩ := Jvm.LawKit.callS X5 hx (y := own_y6) hown (om hZ hw 68 rfl) (om hZ hw 69 rfl) (om hZ hw 70 rfl) (om hZ hw 71 rfl) (by decide) (backOf (W := 0) (own_rm11m3 l Z a0 hw arr ka y0 y1 y2 y3 y4 y5 y6 y7 st x0 x1 x2 cs fm u8 h0 n0 Z0 O0 V_a ⟨ho, hx0, hx1, hx2⟩ hm0 HB) hZ (own_w hw 71 rfl) (own_w hw 70 rfl) (by decide) (by decide)) (g := (mkF m 47 #[vr b, vr u8, vr arr, vi st, vi 3, .unset, .unset, .unset, .unset, .unset, .unset] [(.int 3), (.int st), (.ref arr)])) rfl (by rw [hml]; rfl) (argsL := [(.ref arr), (.int st), (.int 3)]) (rest := []) (lenOf own_pd13 rfl) rfl (by show 2 * 0 + _ ≤ _; exact Nat.le_of_eq rfl) (hb hby own_d10_47) (fun _ _ => ⟨rfl, e5, (by decide : 0 + 0 ≤ _), (by decide : 0 + 0 ≤ _)⟩)
 dsimp only [Pt.U, Pt.locs, Pt.cells, Pt.slots] at X6 l6 y6 z6 st6 hQ6
 subst l6 y6 z6
 obtain ⟨rfl, N6q, e6⟩ := hQ6
 have N6 := Fr.app N0 N6q
 refine own_st (T' := T6) (g' := (mkF m 50 #[vr b, vr u8, vr arr, vi st, vi 3, .unset, .unset, .unset, .unset, .unset, .unset] [(.int 0)])) st6 ?_
 refine own_st (T' := T6) (g' := (mkF m 84 #[vr b, vr u8, vr arr, vi st, vi 3, vi 0, .unset, .unset, .unset, .unset, .unset] [(.int (st + (3 : Int32))), (.int st), (.ref arr)])) (fun t k => ?_) ?_
 ·refine XS.istore X6.here hx rfl (hb hby own_d10_50) rfl (l' := #[vr b, vr u8, vr arr, vi st, vi 3, vi 0, .unset, .unset, .unset, .unset, .unset]) rfl ?_
  refine XS.iload X6.here hx rfl (hb hby own_d10_52) rfl ?_
  refine XS.iload X6.here hx rfl (hb hby own_d10_54) rfl ?_
  refine XS.icmpYes X6.here hx rfl (pc0 := 56) (pc' := 78) rfl (hb hby own_d10_56) rfl (feq (by decide : ¬ ((0 : Int32) = (3 : Int32)))).2 (by decide) (by decide) ?_
  refine XS.aloadN X6.here hx rfl (hb hby own_d10_78) rfl rfl ?_
  refine XS.iloadN X6.here hx rfl (hb hby own_d10_79) rfl ?_
  refine XS.iloadN X6.here hx rfl (hb hby own_d10_80) rfl ?_
  refine XS.iload X6.here hx rfl (hb hby own_d10_81) rfl ?_
  refine XS.iadd X6.here hx rfl (hb hby own_d10_83) rfl ?_
  exact k
 obtain ⟨_, _, ⟨T7, L7, c7, n7⟩, -, X7, ⟨Lc7, hQ7, l7, y7, z7⟩, st7⟩ := Jvm.LawKit.callS X6 hx (y := own_y9) hown (om hZ hw 72 rfl) (om hZ hw 73 rfl) (om hZ hw 74 rfl) (om hZ hw 75 rfl) (by decide) (backOf (W := 0) (own_rm12_3 l Z a0 hw arr ka y0 y1 y2 y3 y4 y5 y6 y7 st x0 x1 x2 cs fm u8 h0 n0 Z0 O0 V_a ⟨ho, hx0, hx1, hx2⟩ HB) hZ (own_w hw 75 rfl) (own_w hw 74 rfl) (by decide) (by decide)) (g := (mkF m 84 #[vr b, vr u8, vr arr, vi st, vi 3, vi 0, .unset, .unset, .unset, .unset, .unset] [(.int (st + (3 : Int32))), (.int st), (.ref arr)])) rfl (by rw [hml]; rfl) (argsL := [(.ref arr), (.int st), (.int (st + (3 : Int32)))]) (rest := []) (lenOf own_pd4 rfl) rfl (by show 2 * 0 + _ ≤ _; exact Nat.le_of_eq rfl) (hb hby own_d10_84) (fun _ _ => ⟨rfl, e6, (by decide : 0 + 1 ≤ _), (by decide : 0 + 3 ≤ _)⟩)
 dsimp only [Pt.U, Pt.locs, Pt.cells, Pt.slots] at X7 l7 y7 z7 st7 hQ7
 subst l7 y7 z7
 obtain ⟨h7, e7⟩ : ∃ z, T7.heap = z := ⟨_, rfl⟩
 rw [e7] at hQ7
 obtain ⟨r7, k7, rfl, N7q, Kc7, g7, hz7, Vc7⟩ := hQ7
 have N7 := Fr.app N6 N7q
 have ne_b_r7 : b ≠ r7 := Nat.ne_of_lt (Nat.lt_of_lt_of_le E_b.lt hz7)
 have ne_arr_r7 : arr ≠ r7 := Nat.ne_of_lt (Nat.lt_of_lt_of_le V_a.lt hz7)
 have f8 := E_u8.ext O0.2
 have ne_u8_r7 : u8 ≠ r7 := Nat.ne_of_lt (Nat.lt_of_lt_of_le f8.lt hz7)
 have hwr7 : h0.size ≤ r7 := Nat.le_trans (Keep.refl h0 [b]).1 hz7
 have K7 : Keep h0 h7 [b] := (Keep.refl h0 [b]).trans Kc7 all0
 have Z7 : n0 ≤ h7.size := Nat.le_trans Z0 Kc7.1
 have O7 := O0.keep Kc7 all0
 refine own_st (T' := T7) (g' := (mkF m 87 #[vr b, vr u8, vr arr, vi st, vi 3, vi 0, .unset, .unset, .unset, .unset, .unset] [(.ref r7)])) st7 ?_
 refine own_st (T' := T7) (g' := (mkF m 107 #[vr b, vr u8, vr arr, vi st, vi 3, vi 0, vr r7, vi 1, .unset, .unset, .unset] [(.int 0), (.ref r7)])) (fun t k => ?_) ?_
 ·refine XS.astore X7.here hx rfl (hb hby own_d10_87) rfl rfl (l' := #[vr b, vr u8, vr arr, vi st, vi 3, vi 0, vr r7, .unset, .unset, .unset, .unset]) rfl ?_
  refine XS.iload X7.here hx rfl (hb hby own_d10_89) rfl ?_
  refine XS.istore X7.here hx rfl (hb hby own_d10_91) rfl (l' := #[vr b, vr u8, vr arr, vi st, vi 3, vi 0, vr r7, vi 0, .unset, .unset, .unset]) rfl ?_
  refine XS.iload X7.here hx rfl (hb hby own_d10_93) rfl ?_
  refine XS.iload X7.here hx rfl (hb hby own_d10_95) rfl ?_
  refine XS.icmpNo X7.here hx rfl (hb hby own_d10_97) rfl (tlt (by decide : (0 : Int32) < (3 : Int32))).2.1 ?_
  refine XS.aload X7.here hx rfl (hb hby own_d10_100) rfl rfl ?_
  refine XS.iload X7.here hx rfl (hb hby own_d10_102) rfl ?_
  refine XS.iinc X7.here hx rfl (hb hby own_d10_104) rfl (l' := #[vr b, vr u8, vr arr, vi st, vi 3, vi 0, vr r7, vi 1, .unset, .unset, .unset]) rfl ?_
  exact k
 obtain ⟨cl9, Ar9, q9, S9, M9, H9, G9⟩ := id Vc7
 refine own_st (T' := T7) (g' := (mkF m 228 #[vr b, vr u8, vr arr, vi st, vi 3, vi 0, vr r7, vi 0, vi x0, .unset, .unset] [(.int 3)])) (fun t k => ?_) ?_
 ·refine X7.baloadBytes hx (j := (0 : Int32)) (v := (.int x0)) (by rw [e7]; exact Ar9.1) (State.isArrayOf_alike hZ.alike Ar9.2.1) Ar9.2.2 (inb_of S9 ⟨by decide, by decide⟩) (Has.at H9 (inb_of S9 ⟨by decide, by decide⟩) rfl) (g := (mkF m 107 #[vr b, vr u8, vr arr, vi st, vi 3, vi 0, vr r7, vi 1, .unset, .unset, .unset] [(.int 0), (.ref r7)])) rfl rfl (hb hby own_d10_107) _ ?_
  refine XS.istore X7.here hx rfl (hb hby own_d10_108) rfl (l' := #[vr b, vr u8, vr arr, vi st, vi 3, vi 0, vr r7, vi 1, vi x0, .unset, .unset]) rfl ?_
  refine XS.iload X7.here hx rfl (hb hby own_d10_110) rfl ?_
  refine XS.ifYes X7.here hx rfl (pc0 := 112) (pc' := 129) rfl (hb hby own_d10_112) rfl ((if0 _ _).trans (tlt hm0).1) (by decide) (by decide) ?_
  refine XS.iload X7.here hx rfl (hb hby own_d10_129) rfl ?_
  refine XS.sipush X7.here hx rfl (hb hby own_d10_131) ?_
  refine XS.iand X7.here hx rfl (hb hby own_d10_134) rfl ?_
  refine XS.sipush X7.here hx rfl (hb hby own_d10_135) ?_
  refine XS.icmpYes X7.here hx rfl (pc0 := 138) (pc' := 184) rfl (hb hby own_d10_138) rfl (feq hla).2 (by decide) (by decide) ?_
  refine XS.iinc X7.here hx rfl (hb hby own_d10_184) rfl (l' := #[vr b, vr u8, vr arr, vi st, vi 3, vi 0, vr r7, vi 0, vi x0, .unset, .unset]) rfl ?_
  refine XS.goto X7.here hx rfl (pc0 := 187) (pc' := 190) rfl (hb hby own_d10_187) (by decide) (by decide) ?_
  refine XS.iload X7.here hx rfl (hb hby own_d10_190) rfl ?_
  refine XS.iload X7.here hx rfl (hb hby own_d10_192) rfl ?_
  refine XS.icmpYes X7.here hx rfl (pc0 := 194) (pc' := 226) rfl (hb hby own_d10_194) rfl (feq (by decide : ¬ ((0 : Int32) = (3 : Int32)))).2 (by decide) (by decide) ?_
  refine XS.iload X7.here hx rfl (hb hby own_d10_226) rfl ?_
  exact k
 obtain ⟨_, _, ⟨T10, L10, c10, n10⟩, -, X10, ⟨Lc10, hQ10, l10, y10, z10⟩, st10⟩ := Jvm.LawKit.callS X7 hx (y := own_y15) hown (om hZ hw 124 rfl) (om hZ hw 125 rfl) (om hZ hw 126 rfl) (om hZ hw 127 rfl) (by decide) (backOf (W := 0) (own_rm23_3 l Z a0 hw cs fm u8 h7 n0 Z7 O7 HB) hZ (own_w hw 127 rfl) (own_w hw 126 rfl) (by decide) (by decide)) (g := (mkF m 228 #[vr b, vr u8, vr arr, vi st, vi 3, vi 0, vr r7, vi 0, vi x0, .unset, .unset] [(.int 3)])) rfl (by rw [hml]; rfl) (argsL := [(.int 3)]) (rest := []) (lenOf own_pd17 rfl) rfl (by show 2 * 0 + _ ≤ _; exact Nat.le_of_eq rfl) (hb hby own_d10_228) (fun _ _ => ⟨rfl, e7, (by decide : 1 + 1 ≤ _), (by decide : 3 + 6 ≤ _)⟩)
 dsimp only [Pt.U, Pt.locs, Pt.cells, Pt.slots] at X10 l10 y10 z10 st10 hQ10
 subst l10 y10 z10
 obtain ⟨h10, e10⟩ : ∃ z, T10.heap = z := ⟨_, rfl⟩
 rw [e10] at hQ10
 obtain ⟨r10, k10, rfl, N10q, Kc10, g10, hz10, Vc10⟩ := hQ10
 have N10 := Fr.app N7 N10q
 have f11 := E_b.keep Kc7
 have ne_b_r10 : b ≠ r10 := Nat.ne_of_lt (Nat.lt_of_lt_of_le f11.lt hz10)
 have f12 := V_a.keep Kc7 nin0
 have ne_arr_r10 : arr ≠ r10 := Nat.ne_of_lt (Nat.lt_of_lt_of_le f12.lt hz10)
 have f13 := E_u8.ext O7.2
 have ne_u8_r10 : u8 ≠ r10 := Nat.ne_of_lt (Nat.lt_of_lt_of_le f13.lt hz10)
 have ne_r7_r10 : r7 ≠ r10 := Nat.ne_of_lt (Nat.lt_of_lt_of_le Vc7.lt hz10)
 have hwr10 : h0.size ≤ r10 := Nat.le_trans K7.1 hz10
 have K10 : Keep h0 h10 [b] := K7.trans Kc10 all0
 have Z10 : n0 ≤ h10.size := Nat.le_trans Z7 Kc10.1
 have O10 := O7.keep Kc10 all0
 refine own_st (T' := T10) (g' := (mkF m 231 #[vr b, vr u8, vr arr, vi st, vi 3, vi 0, vr r7, vi 0, vi x0, .unset, .unset] [(.ref r10)])) st10 ?_
 refine own_st (T' := T10) (g' := (mkF m 241 #[vr b, vr u8, vr arr, vi st, vi 3, vi 0, vr r7, vi 0, vr r10, .unset, .unset] [(.int 0), (.int 0), (.ref r10), (.int 0), (.ref r7)])) (fun t k => ?_) ?_
 ·refine XS.astore X10.here hx rfl (hb hby own_d10_231) rfl rfl (l' := #[vr b, vr u8, vr arr, vi st, vi 3, vi 0, vr r7, vi 0, vr r10, .unset, .unset]) rfl ?_
  refine XS.aload X10.here hx rfl (hb hby own_d10_233) rfl rfl ?_
  refine XS.iconst X10.here hx rfl (hb hby own_d10_235) ?_
  refine XS.aload X10.here hx rfl (hb hby own_d10_236) rfl rfl ?_
  refine XS.iconst X10.here hx rfl (hb hby own_d10_238) ?_
  refine XS.iload X10.here hx rfl (hb hby own_d10_239) rfl ?_
  exact k
 obtain ⟨_, _, ⟨T14, L14, c14, n14⟩, -, X14, ⟨Lc14, hQ14, l14, y14, z14⟩, st14⟩ := Jvm.LawKit.callS X10 hx (y := own_y18) hown (om hZ hw 132 rfl) (om hZ hw 133 rfl) (om hZ hw 116 rfl) (om hZ hw 134 rfl) (by decide) (backOf (W := 0) (own_rm25_6 l Z a0 hw r7 r10 k10 (0 : Int32) (0 : Int32) (0 : Int32) (0 : Int32) (0 : Int32) (0 : Int32) cs fm u8 h10 n0 Z10 O10 Vc10 HB) hZ (own_w hw 134 rfl) (own_w hw 116 rfl) (by decide) (by decide)) (g := (mkF m 241 #[vr b, vr u8, vr arr, vi st, vi 3, vi 0, vr r7, vi 0, vr r10, .unset, .unset] [(.int 0), (.int 0), (.ref r10), (.int 0), (.ref r7)])) rfl (by rw [hml]; rfl) (argsL := [(.ref r7), (.int 0), (.ref r10), (.int 0), (.int 0)]) (rest := []) (lenOf own_pd9 rfl) rfl (by show 2 * 0 + _ ≤ _; exact Nat.le_of_eq rfl) (hb hby own_d10_241) (fun _ _ => ⟨rfl, e10, (by decide : 2 + 0 ≤ _), (by decide : 9 + 0 ≤ _)⟩)
 dsimp only [Pt.U, Pt.locs, Pt.cells, Pt.slots] at X14 l14 y14 z14 st14 hQ14
 subst l14 y14 z14
 obtain ⟨rfl, N14q, e14⟩ := hQ14
 have N14 := Fr.app N10 N14q
 refine own_st (T' := T14) (g' := (mkF m 244 #[vr b, vr u8, vr arr, vi st, vi 3, vi 0, vr r7, vi 0, vr r10, .unset, .unset] [])) st14 ?_
 refine own_st (T' := T14) (g' := (mkF m 255 #[vr b, vr u8, vr arr, vi st, vi 3, vi 0, vr r7, vi 0, vr r10, .unset, .unset] [(.int 1), (.int 0), (.ref r10), (.int 3), (.int 0), (.ref r7)])) (fun t k => ?_) ?_
 ·refine XS.aload X14.here hx rfl (hb hby own_d10_244) rfl rfl ?_
  refine XS.iload X14.here hx rfl (hb hby own_d10_246) rfl ?_
  refine XS.iload X14.here hx rfl (hb hby own_d10_248) rfl ?_
  refine XS.aload X14.here hx rfl (hb hby own_d10_250) rfl rfl ?_
  refine XS.iload X14.here hx rfl (hb hby own_d10_252) rfl ?_
  refine XS.iconst X14.here hx rfl (hb hby own_d10_254) ?_
  exact k
 have f15 := Vc7.keep Kc10 nin0
 obtain ⟨_, _, ⟨T16, L16, c16, n16⟩, -, X16, ⟨Lc16, hQ16, l16, y16, z16⟩, st16⟩ := Jvm.LawKit.callS X14 hx (y := own_y20) hown (om hZ hw 145 rfl) (om hZ hw 146 rfl) (om hZ hw 37 rfl) (om hZ hw 147 rfl) (by decide) (backOf (W := 0) (own_rm29_3 l Z a0 hw r7 r10 k7 k10 x0 x1 x2 cs fm u8 h10 n0 Z10 O10 f15 Vc10 g10 ne_r7_r10 hle hco ha2 HB) hZ (own_w hw 147 rfl) (own_w hw 37 rfl) (by decide) (by decide)) (g := (mkF m 255 #[vr b, vr u8, vr arr, vi st, vi 3, vi 0, vr r7, vi 0, vr r10, .unset, .unset] [(.int 1), (.int 0), (.ref r10), (.int 3), (.int 0), (.ref r7)])) rfl (by rw [hml]; rfl) (argsL := [(.ref r7), (.int 0), (.int 3), (.ref r10), (.int 0), (.int 1)]) (rest := []) (lenOf own_pd18 rfl) rfl (by show 2 * 0 + _ ≤ _; exact Nat.le_of_eq rfl) (hb hby own_d10_255) (fun _ _ => ⟨rfl, e14, (by decide : 2 + 0 ≤ _), (by decide : 9 + 0 ≤ _)⟩)
 dsimp only [Pt.U, Pt.locs, Pt.cells, Pt.slots] at X16 l16 y16 z16 st16 hQ16
 subst l16 y16 z16
 obtain ⟨h16, e16⟩ : ∃ z, T16.heap = z := ⟨_, rfl⟩
 rw [e16] at hQ16
 obtain ⟨rfl, N16q, Kc16, Vc16⟩ := hQ16
 have N16 := Fr.app N14 N16q
 have K16 : Keep h0 h16 [b] := K10.trans Kc16 (allS (Or.inr hwr10) all0)
 have Z16 : n0 ≤ h16.size := Nat.le_trans Z10 Kc16.1
 have O16 := O10.keep Kc16 (allS g10 all0)
 refine own_st (T' := T16) (g' := (mkF m 258 #[vr b, vr u8, vr arr, vi st, vi 3, vi 0, vr r7, vi 0, vr r10, .unset, .unset] [(.int 2)])) st16 ?_
 refine own_st (T' := T16) (g' := (mkF m 273 #[vr b, vr u8, vr arr, vi st, vi 3, vi 2, vr r7, vi 0, vr r10, .unset, .unset] [(.int 4), (.ref r10)])) (fun t k => ?_) ?_
 ·refine XS.istore X16.here hx rfl (hb hby own_d10_258) rfl (l' := #[vr b, vr u8, vr arr, vi st, vi 3, vi 2, vr r7, vi 0, vr r10, .unset, .unset]) rfl ?_
  refine XS.iload X16.here hx rfl (hb hby own_d10_260) rfl ?_
  refine XS.iload X16.here hx rfl (hb hby own_d10_262) rfl ?_
  refine XS.icmpNo X16.here hx rfl (hb hby own_d10_264) rfl (feq (by decide : ¬ ((2 : Int32) = (3 : Int32)))).1 ?_
  refine XS.aload X16.here hx rfl (hb hby own_d10_267) rfl rfl ?_
  refine XS.iload X16.here hx rfl (hb hby own_d10_269) rfl ?_
  refine XS.iconst X16.here hx rfl (hb hby own_d10_271) ?_
  refine XS.ishl X16.here hx rfl (hb hby own_d10_272) rfl ?_
  exact k
 obtain ⟨_, _, ⟨T17, L17, c17, n17⟩, -, X17, ⟨Lc17, hQ17, l17, y17, z17⟩, st17⟩ := Jvm.LawKit.callS X16 hx (y := own_y10) hown (om hZ hw 160 rfl) (om hZ hw 161 rfl) (om hZ hw 74 rfl) (om hZ hw 162 rfl) (by decide) (backOf (W := 0) (own_rm33_6_4 l Z a0 hw r10 k10 (((own_d2 x0 x1) >>> ((0 : Int32) &&& 31)).toInt8.toInt32) (((own_d2 x0 x1) >>> ((8 : Int32) &&& 31)).toInt8.toInt32) (((x2.toUInt32.toUInt16.toUInt32.toInt32) >>> ((0 : Int32) &&& 31)).toInt8.toInt32) (((x2.toUInt32.toUInt16.toUInt32.toInt32) >>> ((8 : Int32) &&& 31)).toInt8.toInt32) (0 : Int32) (0 : Int32) cs fm u8 h16 n0 Z16 O16 Vc16 HB) hZ (own_w hw 162 rfl) (own_w hw 74 rfl) (by decide) (by decide)) (g := (mkF m 273 #[vr b, vr u8, vr arr, vi st, vi 3, vi 2, vr r7, vi 0, vr r10, .unset, .unset] [(.int 4), (.ref r10)])) rfl (by rw [hml]; rfl) (argsL := [(.ref r10), (.int 4)]) (rest := []) (lenOf own_pd16 rfl) rfl (by show 2 * 0 + _ ≤ _; exact Nat.le_of_eq rfl) (hb hby own_d10_273) (fun _ _ => ⟨rfl, e16, (by decide : 2 + 1 ≤ _), (by decide : 9 + 4 ≤ _)⟩)
 dsimp only [Pt.U, Pt.locs, Pt.cells, Pt.slots] at X17 l17 y17 z17 st17 hQ17
 subst l17 y17 z17
 obtain ⟨h17, e17⟩ : ∃ z, T17.heap = z := ⟨_, rfl⟩
 rw [e17] at hQ17
 obtain ⟨r17, k17, rfl, N17q, Kc17, g17, hz17, Vc17⟩ := hQ17
 have N17 := Fr.app N16 N17q
 have f18 := (f11.keep Kc10).keep Kc16
 have ne_b_r17 : b ≠ r17 := Nat.ne_of_lt (Nat.lt_of_lt_of_le f18.lt hz17)
 have f19 := (f12.keep Kc10 nin0).keep Kc16 (ninS ne_arr_r10 nin0)
 have ne_arr_r17 : arr ≠ r17 := Nat.ne_of_lt (Nat.lt_of_lt_of_le f19.lt hz17)
 have f20 := E_u8.ext O16.2
 have ne_u8_r17 : u8 ≠ r17 := Nat.ne_of_lt (Nat.lt_of_lt_of_le f20.lt hz17)
 have f21 := f15.keep Kc16 (ninS ne_r7_r10 nin0)
 have ne_r7_r17 : r7 ≠ r17 := Nat.ne_of_lt (Nat.lt_of_lt_of_le f21.lt hz17)
 have ne_r10_r17 : r10 ≠ r17 := Nat.ne_of_lt (Nat.lt_of_lt_of_le Vc16.lt hz17)
 have hwr17 : h0.size ≤ r17 := Nat.le_trans K16.1 hz17
 have K17 : Keep h0 h17 [b] := K16.trans Kc17 all0
 have Z17 : n0 ≤ h17.size := Nat.le_trans Z16 Kc17.1
 have O17 := O16.keep Kc17 all0
 refine own_st (T' := T17) (g' := (mkF m 276 #[vr b, vr u8, vr arr, vi st, vi 3, vi 2, vr r7, vi 0, vr r10, .unset, .unset] [(.ref r17)])) st17 ?_
 refine own_st (T' := T17) (g' := (mkF m 281 #[vr b, vr u8, vr arr, vi st, vi 3, vi 2, vr r7, vi 0, vr r17, .unset, .unset] [(.ref r17), (.ref b)])) (fun t k => ?_) ?_
 ·refine XS.astore X17.here hx rfl (hb hby own_d10_276) rfl rfl (l' := #[vr b, vr u8, vr arr, vi st, vi 3, vi 2, vr r7, vi 0, vr r17, .unset, .unset]) rfl ?_
  refine XS.aloadN X17.here hx rfl (hb hby own_d10_278) rfl rfl ?_
  refine XS.aload X17.here hx rfl (hb hby own_d10_279) rfl rfl ?_
  exact k
 have f22 := (((F_v.keep Kc7 nin0).keep Kc10 nin0).keep Kc16 (ninS ne_b_r10 nin0)).keep Kc17 nin0
 have f23 := f18.keep Kc17
 obtain ⟨T24, h24, X24, e24, W24, st24⟩ := putF X17 hx hZ hown (host := "") (Or.inl (own_w hw 87 rfl)) Via.refl e17 f22 f23 (Or.inr ⟨(own_w hw 88 rfl), rfl, hnm⟩) (own_w hw 36 rfl) (ty := (.array .byte)) (by decide) rfl rfl (g := (mkF m 281 #[vr b, vr u8, vr arr, vi st, vi 3, vi 2, vr r7, vi 0, vr r17, .unset, .unset] [(.ref r17), (.ref b)])) rfl rfl (hb hby own_d10_281)
 have N24 := Fr.snoc X24 N17 g_b
 have K24 : Keep h0 h24 [b] := K17.wr W24 (Or.inl (List.mem_of_getElem? (i := 0) rfl))
 have Z24 : n0 ≤ h24.size := Nat.le_trans Z17 (Keep.of_wr W24).1
 have O24 := O17.wr W24 g_b
 have fw24 := (f22.same W24)
 refine own_st (T' := T24) (g' := (mkF m 284 #[vr b, vr u8, vr arr, vi st, vi 3, vi 2, vr r7, vi 0, vr r17, .unset, .unset] [])) st24 ?_
 refine own_st (T' := T24) (g' := (mkF m 286 #[vr b, vr u8, vr arr, vi st, vi 3, vi 2, vr r7, vi 0, vr r17, .unset, .unset] [(.int 1), (.ref b)])) (fun t k => ?_) ?_
 ·refine XS.aloadN X24.here hx rfl (hb hby own_d10_284) rfl rfl ?_
  refine XS.iconst X24.here hx rfl (hb hby own_d10_285) ?_
  exact k
 have f25 := ((((F_c.keep Kc7 nin0).keep Kc10 nin0).keep Kc16 (ninS ne_b_r10 nin0)).keep Kc17 nin0).other W24 (Or.inr (slot_ne (Or.inr (own_w hw 90 rfl)) (Or.inr (own_w hw 88 rfl)) (by decide) (t := .byte) (t' := (.array .byte)) (by decide) (by decide)))
 have f26 := f23.wr W24
 obtain ⟨T27, h27, X27, e27, W27, st27⟩ := putFN X24 hx hZ hown (own_w hw 89 rfl) Via.refl e24 f25 f26 (Or.inr ⟨(own_w hw 90 rfl), rfl, hnm⟩) (own_w hw 36 rfl) (ty := .byte) (v' := (.int 1)) (by decide) rfl rfl (g := (mkF m 286 #[vr b, vr u8, vr arr, vi st, vi 3, vi 2, vr r7, vi 0, vr r17, .unset, .unset] [(.int 1), (.ref b)])) rfl rfl (hb hby own_d10_286)
 have N27 := Fr.snoc X27 N24 g_b
 have K27 : Keep h0 h27 [b] := K24.wr W27 (Or.inl (List.mem_of_getElem? (i := 0) rfl))
 have Z27 : n0 ≤ h27.size := Nat.le_trans Z24 (Keep.of_wr W27).1
 have O27 := O24.wr W27 g_b
 have fw27 := (f25.same W27)
 refine own_st (T' := T27) (g' := (mkF m 289 #[vr b, vr u8, vr arr, vi st, vi 3, vi 2, vr r7, vi 0, vr r17, .unset, .unset] [])) st27 ?_
 have f28 := fw24.other W27 (Or.inr (slot_ne (Or.inr (own_w hw 88 rfl)) (Or.inr (own_w hw 90 rfl)) (by decide) (t := (.array .byte)) (t' := .byte) (by decide) (by decide)))
 have f29 := (Vc17.other W24 (Ne.symm ne_b_r17)).other W27 (Ne.symm ne_b_r17)
 refine own_st (T' := T27) (g' := (mkF m 879 #[vr b, vr u8, vr arr, vi st, vi 3, vi 2, vr r7, vi 0, vr r17, .unset, .unset] [])) (fun t k => ?_) ?_
 ·refine XS.goto X27.here hx rfl (pc0 := 289) (pc' := 879) rfl (hb hby own_d10_289) (by decide) (by decide) ?_
  exact k
 exact own_retV X27 hx Bd (hb hby own_d10_879) e27 (⟨r17, k17, rfl, N27, K27, g17, hwr17, f28, fw27, f29⟩) (by decide) (by decide)
def own_r6u3 : Room := { frames := 6, cells := 3, slots := 13, locals := 98 }
def own_Q6u3 (Z : State) (b : Addr) (arr : Addr) (ka : ClassId) (y0 y1 y2 y3 y4 y5 y6 y7 st x0 x1 x2 : Int32) (cs : Int32) (fm : Value) (u8 : Addr) (h0 : Heap) (n0 : Nat) : Option Value → Heap → List Loc → Prop := fun v h L => ∃ t k, v = none ∧ Fr n0 L ∧ Keep h0 h [b] ∧ n0 ≤ t ∧ h0.size ≤ t ∧ Fld Z h b "java/lang/String" "value" "[B" (.ref t) ∧ Fld Z h b "java/lang/String" "coder" "B" (.int 1) ∧ Arv Z h t k .byte (4 : Int32) [(.int (((own_d2 x0 x1) >>> ((0 : Int32) &&& 31)).toInt8.toInt32)), (.int (((own_d2 x0 x1) >>> ((8 : Int32) &&& 31)).toInt8.toInt32)), (.int (((x2.toUInt32.toUInt16.toUInt32.toInt32) >>> ((0 : Int32) &&& 31)).toInt8.toInt32)), (.int (((x2.toUInt32.toUInt16.toUInt32.toInt32) >>> ((8 : Int32) &&& 31)).toInt8.toInt32))] (.int 0)
theorem own_rm6u3 (l : Launch) (Z : State) (a0 : Array Value) (hw : own_W a0 Z) (b : Addr) (arr : Addr) (ka : ClassId) (y0 y1 y2 y3 y4 y5 y6 y7 st x0 x1 x2 : Int32) (cs : Int32) (fm : Value) (u8 : Addr) (h0 : Heap) (n0 : Nat) (Z0 : n0 ≤ h0.size) (O0 : Old Z n0 h0) (E_b : Exa Z h0 b "java/lang/String") (F_v : Fld Z h0 b "java/lang/String" "value" "[B" .null) (F_c : Fld Z h0 b "java/lang/String" "coder" "B" (.int 0)) (g_b : n0 ≤ b) (V_a : Arv Z h0 arr ka .byte (8 : Int32) [(.int y0), (.int y1), (.int y2), (.int y3), (.int y4), (.int y5), (.int y6), (.int y7)] (.int 0)) (hYX : own_YX y0 y1 y2 y3 y4 y5 y6 y7 st x0 x1 x2) (nba : b ≠ arr) (hm0 : x0 < (0 : Int32)) (hle : own_lead x0) (hco : own_cont x1) (ha2 : ¬ x2 < (0 : Int32)) (hla : ¬ own_lat x0) (HB : own_BB Z cs fm u8) :
  own_MF l Z own_y22 (Jvm.Cond.code own_y22 jdk_42_method_10_code 5 none) [] own_r6u3 #[(.ref b), (.ref arr), (.int st), (.int 3), (.ref u8)] h0 (own_Q6u3 Z b arr ka y0 y1 y2 y3 y4 y5 y6 y7 st x0 x1 x2 cs fm u8 h0 n0) := by
 refine own_open (plainFor_of_name own_pn1) hisR (Ls := #[vr b, vr arr, vi st, vi 3, vr u8]) ?_
 intro p e s m below meth c s₁ Bd hZ hx hby hml hown X0 e0
 obtain ⟨-, -, -, -, -, -, -, -, -, E_u8⟩ := id HB
 have N0 := Fr.nil n0
 obtain ⟨ho, hx0, hx1, hx2⟩ := id hYX
 refine own_st (T' := s₁) (g' := (mkF m 3 #[vr b, vr arr, vi st, vi 3, vr u8] [(.ref u8), (.ref b)])) (fun t k => ?_) ?_
 ·refine XS.aloadN X0.here hx rfl (hb hby own_d6_0) rfl rfl ?_
  refine XS.aload X0.here hx rfl (hb hby own_d6_1) rfl rfl ?_
  exact k
 obtain ⟨_, _, ⟨T1, L1, c1, n1⟩, -, X1, ⟨Lc1, hQ1, l1, y1, z1⟩, st1⟩ := Jvm.LawKit.callS X0 hx (y := own_y2) hown (om hZ hw 46 rfl) (om hZ hw 47 rfl) (om hZ hw 48 rfl) (om hZ hw 49 rfl) (by decide) (backOf (W := 1) (own_rm7 l Z a0 hw u8 cs fm u8 h0 n0 Z0 O0 HB) hZ (own_w hw 49 rfl) (own_w hw 48 rfl) (by decide) (by decide)) (g := (mkF m 3 #[vr b, vr arr, vi st, vi 3, vr u8] [(.ref u8), (.ref b)])) rfl (by rw [hml]; rfl) (argsL := [(.ref u8)]) (rest := [(.ref b)]) (lenOf own_pd14 rfl) rfl (by show 2 * 0 + _ ≤ _; exact Nat.le_of_eq rfl) (hb hby own_d6_3) (fun _ _ => ⟨rfl, e0, (by decide : 0 + 0 ≤ _), (by decide : 0 + 0 ≤ _)⟩)
 dsimp only [Pt.U, Pt.locs, Pt.cells, Pt.slots] at X1 l1 y1 z1 st1 hQ1
 subst l1 y1 z1
 obtain ⟨rfl, N1q, e1⟩ := hQ1
 have N1 := Fr.app N0 N1q
 refine own_st (T' := T1) (g' := (mkF m 6 #[vr b, vr arr, vi st, vi 3, vr u8] [(.ref u8), (.ref b)])) st1 ?_
 have f2 := E_u8.ext O0.2
 obtain ⟨T3, X3, e3, st3⟩ := castY X1 hx hZ hown (own_w hw 50 rfl) e1 (Ins.of_exa f2 (own_w hw 51 rfl)) (g := (mkF m 6 #[vr b, vr arr, vi st, vi 3, vr u8] [(.ref u8), (.ref b)])) rfl rfl (hb hby own_d6_6)
 refine own_st (T' := T3) (g' := (mkF m 9 #[vr b, vr arr, vi st, vi 3, vr u8] [(.ref u8), (.ref b)])) st3 ?_
 refine own_st (T' := T3) (g' := (mkF m 13 #[vr b, vr arr, vi st, vi 3, vr u8] [(.ref arr), (.int 3), (.int st), (.ref arr), (.ref u8), (.ref b)])) (fun t k => ?_) ?_
 ·refine XS.aloadN X3.here hx rfl (hb hby own_d6_9) rfl rfl ?_
  refine XS.iloadN X3.here hx rfl (hb hby own_d6_10) rfl ?_
  refine XS.iloadN X3.here hx rfl (hb hby own_d6_11) rfl ?_
  refine XS.aloadN X3.here hx rfl (hb hby own_d6_12) rfl rfl ?_
  exact k
 obtain ⟨cl4, Ar4, q4, S4, M4, H4, G4⟩ := id V_a
 refine own_st (T' := T3) (g' := (mkF m 14 #[vr b, vr arr, vi st, vi 3, vr u8] [(.int 8), (.int 3), (.int st), (.ref arr), (.ref u8), (.ref b)])) (fun t k => ?_) ?_
 ·refine X3.arraylength hx (by rw [e3]; exact Ar4.1) (State.isArrayOf_alike hZ.alike Ar4.2.1) (g := (mkF m 13 #[vr b, vr arr, vi st, vi 3, vr u8] [(.ref arr), (.int 3), (.int st), (.ref arr), (.ref u8), (.ref b)])) rfl rfl (hb hby own_d6_13) _ ?_
  rw [len_of S4 M4]
  exact k
 obtain ⟨_, _, ⟨T5, L5, c5, n5⟩, -, X5, ⟨Lc5, hQ5, l5, y5, z5⟩, st5⟩ := Jvm.LawKit.callS X3 hx (y := own_y4) hown (om hZ hw 52 rfl) (om hZ hw 53 rfl) (om hZ hw 37 rfl) (om hZ hw 54 rfl) (by decide) (backOf (W := 3) (own_rm8 l Z a0 hw st (3 : Int32) (8 : Int32) cs fm u8 h0 n0 Z0 O0 (by rcases ho with rfl|rfl|rfl|rfl<;>decide) (by rcases ho with rfl|rfl|rfl|rfl<;>decide) HB) hZ (own_w hw 54 rfl) (own_w hw 37 rfl) (by decide) (by decide)) (g := (mkF m 14 #[vr b, vr arr, vi st, vi 3, vr u8] [(.int 8), (.int 3), (.int st), (.ref arr), (.ref u8), (.ref b)])) rfl (by rw [hml]; rfl) (argsL := [(.int st), (.int 3), (.int 8)]) (rest := [(.ref arr), (.ref u8), (.ref b)]) (lenOf own_pd7 rfl) rfl (by show 2 * 0 + _ ≤ _; exact Nat.le_of_eq rfl) (hb hby own_d6_14) (fun _ _ => ⟨rfl, e3, (by decide : 0 + 0 ≤ _), (by decide : 0 + 0 ≤ _)⟩)
 dsimp only [Pt.U, Pt.locs, Pt.cells, Pt.slots] at X5 l5 y5 z5 st5 hQ5
 subst l5 y5 z5
 obtain ⟨rfl, N5q, e5⟩ := hQ5
 have N5 := Fr.app N1 N5q
 refine own_st (T' := T5) (g' := (mkF m 17 #[vr b, vr arr, vi st, vi 3, vr u8] [(.int st), (.ref arr), (.ref u8), (.ref b)])) st5 ?_
 refine own_st (T' := T5) (g' := (mkF m 18 #[vr b, vr arr, vi st, vi 3, vr u8] [(.int 3), (.int st), (.ref arr), (.ref u8), (.ref b)])) (fun t k => ?_) ?_
 ·refine XS.iloadN X5.here hx rfl (hb hby own_d6_17) rfl ?_
  exact k
 obtain ⟨_, _, ⟨T6, L6, c6, n6⟩, -, X6, ⟨Lc6, hQ6, l6, y6, z6⟩, st6⟩ := X5.specialBackH hx (y := own_y21) rfl hown (om hZ hw 60 rfl) (om hZ hw 61 rfl) (om hZ hw 63 rfl) (by decide) (backOfWith (W := 0) (own_rm10u3 l Z a0 hw b arr ka y0 y1 y2 y3 y4 y5 y6 y7 st x0 x1 x2 cs fm u8 h0 n0 Z0 O0 E_b F_v F_c g_b V_a ⟨ho, hx0, hx1, hx2⟩ nba hm0 hle hco ha2 hla HB) hZ (own_w hw 63 rfl) (own_w hw 37 rfl) (by decide) (by decide)) (g := (mkF m 18 #[vr b, vr arr, vi st, vi 3, vr u8] [(.int 3), (.int st), (.ref arr), (.ref u8), (.ref b)])) rfl (by rw [hml]; rfl) (Steps.refl _) (a := b) (argsL := [(.ref u8), (.ref arr), (.int st), (.int 3)]) (rest := []) (lenOf own_pd15 rfl) rfl (by show 2 * 0 + _ ≤ _; exact Nat.le_of_eq rfl) (hb hby own_d6_18) (fun _ _ => ⟨rfl, e5, (by decide : 0 + 3 ≤ _), (by decide : 0 + 13 ≤ _)⟩)
 dsimp only [Pt.U, Pt.locs, Pt.cells, Pt.slots] at X6 l6 y6 z6 st6 hQ6
 subst l6 y6 z6
 obtain ⟨h6, e6⟩ : ∃ z, T6.heap = z := ⟨_, rfl⟩
 rw [e6] at hQ6
 obtain ⟨t6, k6, rfl, N6q, Kc6, g6, hz6, Fv6, Fo6, Vc6⟩ := hQ6
 have N6 := Fr.app N5 N6q
 have ne_b_t6 : b ≠ t6 := Nat.ne_of_lt (Nat.lt_of_lt_of_le E_b.lt hz6)
 have ne_arr_t6 : arr ≠ t6 := Nat.ne_of_lt (Nat.lt_of_lt_of_le V_a.lt hz6)
 have ne_u8_t6 : u8 ≠ t6 := Nat.ne_of_lt (Nat.lt_of_lt_of_le f2.lt hz6)
 have hwt6 : h0.size ≤ t6 := Nat.le_trans (Keep.refl h0 [b]).1 hz6
 have K6 : Keep h0 h6 [b] := (Keep.refl h0 [b]).trans Kc6 (allS (Or.inl (List.mem_of_getElem? (i := 0) rfl)) all0)
 have Z6 : n0 ≤ h6.size := Nat.le_trans Z0 Kc6.1
 have O6 := O0.keep Kc6 (allS g_b all0)
 refine own_tr (T' := T6) (g' := (mkF m 21 #[vr b, vr arr, vi st, vi 3, vr u8] [])) st6 ?_
 exact own_retV X6 hx Bd (hb hby own_d6_21) e6 (⟨t6, k6, rfl, N6, K6, g6, hwt6, Fv6, Fo6, Vc6⟩) (by decide) (by decide)
def own_r5a1 : Room := { frames := 5, cells := 2, slots := 5, locals := 88 }
def own_Q5a1 (Z : State) (rr : Addr) (arr : Addr) (ka : ClassId) (y0 y1 y2 y3 y4 y5 y6 y7 st x0 x1 x2 : Int32) (cs : Int32) (fm : Value) (u8 : Addr) (h0 : Heap) (n0 : Nat) : Option Value → Heap → List Loc → Prop := fun v h L => ∃ r t k, v = some (.ref r) ∧ Fr n0 L ∧ Keep h0 h [] ∧ n0 ≤ r ∧ h0.size ≤ r ∧ Exa Z h r "java/lang/String" ∧ Fld Z h r "java/lang/String" "value" "[B" (.ref t) ∧ Fld Z h r "java/lang/String" "coder" "B" (.int 0) ∧ Arv Z h t k .byte (1 : Int32) [(.int x0)] (.int 0)
theorem own_rm5a1 (l : Launch) (Z : State) (a0 : Array Value) (hw : own_W a0 Z) (rr : Addr) (arr : Addr) (ka : ClassId) (y0 y1 y2 y3 y4 y5 y6 y7 st x0 x1 x2 : Int32) (cs : Int32) (fm : Value) (u8 : Addr) (h0 : Heap) (n0 : Nat) (Z0 : n0 ≤ h0.size) (O0 : Old Z n0 h0) (E_r : Exa Z h0 rr "com/example/dyadloom/dyadloom/core/TripletReader$Triplet") (F_b : Fld Z h0 rr "com/example/dyadloom/dyadloom/core/TripletReader$Triplet" "bytes" "[B" (.ref arr)) (F_s : Fld Z h0 rr "com/example/dyadloom/dyadloom/core/TripletReader$Triplet" "columnStart" "I" (.int st)) (F_e : Fld Z h0 rr "com/example/dyadloom/dyadloom/core/TripletReader$Triplet" "columnEnd" "I" (.int (st + (1 : Int32)))) (V_a : Arv Z h0 arr ka .byte (8 : Int32) [(.int y0), (.int y1), (.int y2), (.int y3), (.int y4), (.int y5), (.int y6), (.int y7)] (.int 0)) (hYX : own_YX y0 y1 y2 y3 y4 y5 y6 y7 st x0 x1 x2) (ha0 : ¬ x0 < (0 : Int32)) (HB : own_BB Z cs fm u8) :
  own_MF l Z own_y23 (Jvm.Cond.code own_y23 prog_34_method_3_code 1 (some (.object "java/lang/String"))) [] own_r5a1 #[(.ref rr)] h0 (own_Q5a1 Z rr arr ka y0 y1 y2 y3 y4 y5 y6 y7 st x0 x1 x2 cs fm u8 h0 n0) := by
 refine own_open (plainFor_of_name own_pn7) hisR (Ls := #[vr rr]) ?_
 intro p e s m below meth c s₁ Bd hZ hx hby hml hown X0 e0
 obtain ⟨-, -, -, -, -, -, -, S_u8, -, E_u8⟩ := id HB
 have N0 := Fr.nil n0
 obtain ⟨ho, hx0, hx1, hx2⟩ := id hYX
 obtain ⟨T1, h1, X1, e1, E1, A1, D1, U1, st1⟩ := newO X0 hx hZ hown (own_w hw 35 rfl) (own_w hw 36 rfl) (own_w hw 37 rfl) e0 (g := (mkF m 0 #[vr rr] [])) rfl (hb hby own_d5_0) (by decide) (by decide)
 obtain ⟨b1, g1⟩ : ∃ z, z = h0.size := ⟨_, rfl⟩
 rw [← g1] at A1 D1 U1 st1
 have sz1 : h0.size ≤ b1 := Nat.le_of_eq g1.symm
 have ne_rr_b1 : rr ≠ b1 := Nat.ne_of_lt (Nat.lt_of_lt_of_le E_r.lt sz1)
 have ne_arr_b1 : arr ≠ b1 := Nat.ne_of_lt (Nat.lt_of_lt_of_le V_a.lt sz1)
 have f2 := E_u8.ext O0.2
 have ne_u8_b1 : u8 ≠ b1 := Nat.ne_of_lt (Nat.lt_of_lt_of_le f2.lt sz1)
 have g_b1 : n0 ≤ b1 := Nat.le_trans Z0 sz1
 have hz_b1 : h0.size ≤ b1 := Nat.le_trans (Keep.refl h0 []).1 sz1
 have K1 : Keep h0 h1 [] := (Keep.refl h0 []).ext E1
 have Z1 : n0 ≤ h1.size := Nat.le_trans Z0 E1.1
 have O1 := O0.ext E1
 refine own_st (T' := T1) (g' := (mkF m 3 #[vr rr] [(.ref b1)])) st1 ?_
 refine own_st (T' := T1) (g' := (mkF m 5 #[vr rr] [(.ref rr), (.ref b1), (.ref b1)])) (fun t k => ?_) ?_
 ·refine XS.dup X1.here hx rfl (hb hby own_d5_3) rfl rfl ?_
  refine XS.aloadN X1.here hx rfl (hb hby own_d5_4) rfl rfl ?_
  exact k
 have f3 := F_b.ext E1
 obtain ⟨T4, X4, e4, st4⟩ := getF X1 hx hZ hown (host := "") (Or.inl (own_w hw 38 rfl)) Via.refl e1 f3 (g := (mkF m 5 #[vr rr] [(.ref rr), (.ref b1), (.ref b1)])) rfl rfl (hb hby own_d5_5)
 refine own_st (T' := T4) (g' := (mkF m 8 #[vr rr] [(.ref arr), (.ref b1), (.ref b1)])) st4 ?_
 refine own_st (T' := T4) (g' := (mkF m 9 #[vr rr] [(.ref rr), (.ref arr), (.ref b1), (.ref b1)])) (fun t k => ?_) ?_
 ·refine XS.aloadN X4.here hx rfl (hb hby own_d5_8) rfl rfl ?_
  exact k
 have f5 := F_s.ext E1
 obtain ⟨T6, X6, e6, st6⟩ := getF X4 hx hZ hown (host := "") (Or.inl (own_w hw 39 rfl)) Via.refl e4 f5 (g := (mkF m 9 #[vr rr] [(.ref rr), (.ref arr), (.ref b1), (.ref b1)])) rfl rfl (hb hby own_d5_9)
 refine own_st (T' := T6) (g' := (mkF m 12 #[vr rr] [(.int st), (.ref arr), (.ref b1), (.ref b1)])) st6 ?_
 refine own_st (T' := T6) (g' := (mkF m 13 #[vr rr] [(.ref rr), (.int st), (.ref arr), (.ref b1), (.ref b1)])) (fun t k => ?_) ?_
 ·refine XS.aloadN X6.here hx rfl (hb hby own_d5_12) rfl rfl ?_
  exact k
 have f7 := F_e.ext E1
 obtain ⟨T8, X8, e8, st8⟩ := getF X6 hx hZ hown (host := "") (Or.inl (own_w hw 40 rfl)) Via.refl e6 f7 (g := (mkF m 13 #[vr rr] [(.ref rr), (.int st), (.ref arr), (.ref b1), (.ref b1)])) rfl rfl (hb hby own_d5_13)
 refine own_st (T' := T8) (g' := (mkF m 16 #[vr rr] [(.int (st + (1 : Int32))), (.int st), (.ref arr), (.ref b1), (.ref b1)])) st8 ?_
 refine own_st (T' := T8) (g' := (mkF m 17 #[vr rr] [(.ref rr), (.int (st + (1 : Int32))), (.int st), (.ref arr), (.ref b1), (.ref b1)])) (fun t k => ?_) ?_
 ·refine XS.aloadN X8.here hx rfl (hb hby own_d5_16) rfl rfl ?_
  exact k
 obtain ⟨T9, X9, e9, st9⟩ := getF X8 hx hZ hown (host := "") (Or.inl (own_w hw 39 rfl)) Via.refl e8 f5 (g := (mkF m 17 #[vr rr] [(.ref rr), (.int (st + (1 : Int32))), (.int st), (.ref arr), (.ref b1), (.ref b1)])) rfl rfl (hb hby own_d5_17)
 refine own_st (T' := T9) (g' := (mkF m 20 #[vr rr] [(.int st), (.int (st + (1 : Int32))), (.int st), (.ref arr), (.ref b1), (.ref b1)])) st9 ?_
 refine own_st (T' := T9) (g' := (mkF m 21 #[vr rr] [(.int ((st + (1 : Int32)) - st)), (.int st), (.ref arr), (.ref b1), (.ref b1)])) (fun t k => ?_) ?_
 ·refine XS.isub X9.here hx rfl (hb hby own_d5_20) rfl ?_
  exact k
 rw [show ((st + (1 : Int32)) - st) = (1 : Int32) from (by rcases ho with rfl|rfl|rfl|rfl<;>decide)]
 have f10 := S_u8.ext O1.2
 obtain ⟨T11, X11, e11, st11⟩ := getS2 X9 hx hZ hown (host := "") (Or.inl (own_w hw 41 rfl)) Via.refl e9 f10 (g := (mkF m 21 #[vr rr] [(.int 1), (.int st), (.ref arr), (.ref b1), (.ref b1)])) rfl (hb hby own_d5_21)
 refine own_st (T' := T11) (g' := (mkF m 24 #[vr rr] [(.ref u8), (.int 1), (.int st), (.ref arr), (.ref b1), (.ref b1)])) st11 ?_
 have f12 := V_a.ext E1
 obtain ⟨_, _, ⟨T13, L13, c13, n13⟩, -, X13, ⟨Lc13, hQ13, l13, y13, z13⟩, st13⟩ := X11.specialBack hx (y := own_y22) rfl hown (om hZ hw 43 rfl) (om hZ hw 44 rfl) (om hZ hw 45 rfl) (by decide) (backOf (W := 1) (own_rm6a1 l Z a0 hw b1 arr ka y0 y1 y2 y3 y4 y5 y6 y7 st x0 x1 x2 cs fm u8 h1 n0 Z1 O1 A1 (D1 (Or.inr (own_w hw 88 rfl)) (ty := (.array .byte)) (by decide) : Fld Z h1 b1 "java/lang/String" "value" "[B" .null) (D1 (Or.inr (own_w hw 90 rfl)) (ty := .byte) (by decide) : Fld Z h1 b1 "java/lang/String" "coder" "B" (.int 0)) g_b1 f12 ⟨ho, hx0, hx1, hx2⟩ (Ne.symm ne_arr_b1) ha0 HB) hZ (own_w hw 45 rfl) (own_w hw 37 rfl) (by decide) (by decide)) (g := (mkF m 24 #[vr rr] [(.ref u8), (.int 1), (.int st), (.ref arr), (.ref b1), (.ref b1)])) rfl (by rw [hml]; rfl) (Steps.refl _) (a := b1) (argsL := [(.ref arr), (.int st), (.int 1), (.ref u8)]) (rest := [(.ref b1)]) (lenOf own_pd19 rfl) rfl (by show 2 * 0 + _ ≤ _; exact Nat.le_of_eq rfl) (hb hby own_d5_24) (fun _ _ => ⟨rfl, e11, (by decide : 1 + 1 ≤ _), (by decide : 4 + 1 ≤ _)⟩)
 dsimp only [Pt.U, Pt.locs, Pt.cells, Pt.slots] at X13 l13 y13 z13 st13 hQ13
 subst l13 y13 z13
 obtain ⟨h13, e13⟩ : ∃ z, T13.heap = z := ⟨_, rfl⟩
 rw [e13] at hQ13
 obtain ⟨t13, k13, rfl, N13q, Kc13, g13, hz13, Fv13, Fo13, Vc13⟩ := hQ13
 have N13 := Fr.app N0 N13q
 have f14 := E_r.ext E1
 have ne_rr_t13 : rr ≠ t13 := Nat.ne_of_lt (Nat.lt_of_lt_of_le f14.lt hz13)
 have ne_arr_t13 : arr ≠ t13 := Nat.ne_of_lt (Nat.lt_of_lt_of_le f12.lt hz13)
 have f15 := E_u8.ext O1.2
 have ne_u8_t13 : u8 ≠ t13 := Nat.ne_of_lt (Nat.lt_of_lt_of_le f15.lt hz13)
 have ne_b1_t13 : b1 ≠ t13 := Nat.ne_of_lt (Nat.lt_of_lt_of_le A1.lt hz13)
 have hwt13 : h0.size ≤ t13 := Nat.le_trans K1.1 hz13
 have K13 : Keep h0 h13 [] := K1.trans Kc13 (allS (Or.inr hz_b1) all0)
 have Z13 : n0 ≤ h13.size := Nat.le_trans Z1 Kc13.1
 have O13 := O1.keep Kc13 (allS g_b1 all0)
 refine own_tr (T' := T13) (g' := (mkF m 27 #[vr rr] [(.ref b1)])) st13 ?_
 have f16 := A1.keep Kc13
 exact own_retA X13 hx Bd rfl rfl (hb hby own_d5_27) e13 (⟨b1, t13, k13, rfl, N13, K13, g_b1, hz_b1, f16, Fv13, Fo13, Vc13⟩) (by decide) (by decide)
def own_r5a2 : Room := { frames := 5, cells := 2, slots := 6, locals := 88 }
def own_Q5a2 (Z : State) (rr : Addr) (arr : Addr) (ka : ClassId) (y0 y1 y2 y3 y4 y5 y6 y7 st x0 x1 x2 : Int32) (cs : Int32) (fm : Value) (u8 : Addr) (h0 : Heap) (n0 : Nat) : Option Value → Heap → List Loc → Prop := fun v h L => ∃ r t k, v = some (.ref r) ∧ Fr n0 L ∧ Keep h0 h [] ∧ n0 ≤ r ∧ h0.size ≤ r ∧ Exa Z h r "java/lang/String" ∧ Fld Z h r "java/lang/String" "value" "[B" (.ref t) ∧ Fld Z h r "java/lang/String" "coder" "B" (.int 0) ∧ Arv Z h t k .byte (2 : Int32) [(.int x0), (.int x1)] (.int 0)
theorem own_rm5a2 (l : Launch) (Z : State) (a0 : Array Value) (hw : own_W a0 Z) (rr : Addr) (arr : Addr) (ka : ClassId) (y0 y1 y2 y3 y4 y5 y6 y7 st x0 x1 x2 : Int32) (cs : Int32) (fm : Value) (u8 : Addr) (h0 : Heap) (n0 : Nat) (Z0 : n0 ≤ h0.size) (O0 : Old Z n0 h0) (E_r : Exa Z h0 rr "com/example/dyadloom/dyadloom/core/TripletReader$Triplet") (F_b : Fld Z h0 rr "com/example/dyadloom/dyadloom/core/TripletReader$Triplet" "bytes" "[B" (.ref arr)) (F_s : Fld Z h0 rr "com/example/dyadloom/dyadloom/core/TripletReader$Triplet" "columnStart" "I" (.int st)) (F_e : Fld Z h0 rr "com/example/dyadloom/dyadloom/core/TripletReader$Triplet" "columnEnd" "I" (.int (st + (2 : Int32)))) (V_a : Arv Z h0 arr ka .byte (8 : Int32) [(.int y0), (.int y1), (.int y2), (.int y3), (.int y4), (.int y5), (.int y6), (.int y7)] (.int 0)) (hYX : own_YX y0 y1 y2 y3 y4 y5 y6 y7 st x0 x1 x2) (ha0 : ¬ x0 < (0 : Int32)) (ha1 : ¬ x1 < (0 : Int32)) (HB : own_BB Z cs fm u8) :
  own_MF l Z own_y23 (Jvm.Cond.code own_y23 prog_34_method_3_code 1 (some (.object "java/lang/String"))) [] own_r5a2 #[(.ref rr)] h0 (own_Q5a2 Z rr arr ka y0 y1 y2 y3 y4 y5 y6 y7 st x0 x1 x2 cs fm u8 h0 n0) := by
 refine own_open (plainFor_of_name own_pn7) hisR (Ls := #[vr rr]) ?_
 intro p e s m below meth c s₁ Bd hZ hx hby hml hown X0 e0
 obtain ⟨-, -, -, -, -, -, -, S_u8, -, E_u8⟩ := id HB
 have N0 := Fr.nil n0
 obtain ⟨ho, hx0, hx1, hx2⟩ := id hYX
 obtain ⟨T1, h1, X1, e1, E1, A1, D1, U1, st1⟩ := newO X0 hx hZ hown (own_w hw 35 rfl) (own_w hw 36 rfl) (own_w hw 37 rfl) e0 (g := (mkF m 0 #[vr rr] [])) rfl (hb hby own_d5_0) (by decide) (by decide)
 obtain ⟨b1, g1⟩ : ∃ z, z = h0.size := ⟨_, rfl⟩
 rw [← g1] at A1 D1 U1 st1
 have sz1 : h0.size ≤ b1 := Nat.le_of_eq g1.symm
 have ne_rr_b1 : rr ≠ b1 := Nat.ne_of_lt (Nat.lt_of_lt_of_le E_r.lt sz1)
 have ne_arr_b1 : arr ≠ b1 := Nat.ne_of_lt (Nat.lt_of_lt_of_le V_a.lt sz1)
 have f2 := E_u8.ext O0.2
 have ne_u8_b1 : u8 ≠ b1 := Nat.ne_of_lt (Nat.lt_of_lt_of_le f2.lt sz1)
 have g_b1 : n0 ≤ b1 := Nat.le_trans Z0 sz1
 have hz_b1 : h0.size ≤ b1 := Nat.le_trans (Keep.refl h0 []).1 sz1
 have K1 : Keep h0 h1 [] := (Keep.refl h0 []).ext E1
 have Z1 : n0 ≤ h1.size := Nat.le_trans Z0 E1.1
 have O1 := O0.ext E1
 refine own_st (T' := T1) (g' := (mkF m 3 #[vr rr] [(.ref b1)])) st1 ?_
 refine own_st (T' := T1) (g' := (mkF m 5 #[vr rr] [(.ref rr), (.ref b1), (.ref b1)])) (fun t k => ?_) ?_
 ·refine XS.dup X1.here hx rfl (hb hby own_d5_3) rfl rfl ?_
  refine XS.aloadN X1.here hx rfl (hb hby own_d5_4) rfl rfl ?_
  exact k
 have f3 := F_b.ext E1
 obtain ⟨T4, X4, e4, st4⟩ := getF X1 hx hZ hown (host := "") (Or.inl (own_w hw 38 rfl)) Via.refl e1 f3 (g := (mkF m 5 #[vr rr] [(.ref rr), (.ref b1), (.ref b1)])) rfl rfl (hb hby own_d5_5)
 refine own_st (T' := T4) (g' := (mkF m 8 #[vr rr] [(.ref arr), (.ref b1), (.ref b1)])) st4 ?_
 refine own_st (T' := T4) (g' := (mkF m 9 #[vr rr] [(.ref rr), (.ref arr), (.ref b1), (.ref b1)])) (fun t k => ?_) ?_
 ·refine XS.aloadN X4.here hx rfl (hb hby own_d5_8) rfl rfl ?_
  exact k
 have f5 := F_s.ext E1
 obtain ⟨T6, X6, e6, st6⟩ := getF X4 hx hZ hown (host := "") (Or.inl (own_w hw 39 rfl)) Via.refl e4 f5 (g := (mkF m 9 #[vr rr] [(.ref rr), (.ref arr), (.ref b1), (.ref b1)])) rfl rfl (hb hby own_d5_9)
 refine own_st (T' := T6) (g' := (mkF m 12 #[vr rr] [(.int st), (.ref arr), (.ref b1), (.ref b1)])) st6 ?_
 refine own_st (T' := T6) (g' := (mkF m 13 #[vr rr] [(.ref rr), (.int st), (.ref arr), (.ref b1), (.ref b1)])) (fun t k => ?_) ?_
 ·refine XS.aloadN X6.here hx rfl (hb hby own_d5_12) rfl rfl ?_
  exact k
 have f7 := F_e.ext E1
 obtain ⟨T8, X8, e8, st8⟩ := getF X6 hx hZ hown (host := "") (Or.inl (own_w hw 40 rfl)) Via.refl e6 f7 (g := (mkF m 13 #[vr rr] [(.ref rr), (.int st), (.ref arr), (.ref b1), (.ref b1)])) rfl rfl (hb hby own_d5_13)
 refine own_st (T' := T8) (g' := (mkF m 16 #[vr rr] [(.int (st + (2 : Int32))), (.int st), (.ref arr), (.ref b1), (.ref b1)])) st8 ?_
 refine own_st (T' := T8) (g' := (mkF m 17 #[vr rr] [(.ref rr), (.int (st + (2 : Int32))), (.int st), (.ref arr), (.ref b1), (.ref b1)])) (fun t k => ?_) ?_
 ·refine XS.aloadN X8.here hx rfl (hb hby own_d5_16) rfl rfl ?_
  exact k
 obtain ⟨T9, X9, e9, st9⟩ := getF X8 hx hZ hown (host := "") (Or.inl (own_w hw 39 rfl)) Via.refl e8 f5 (g := (mkF m 17 #[vr rr] [(.ref rr), (.int (st + (2 : Int32))), (.int st), (.ref arr), (.ref b1), (.ref b1)])) rfl rfl (hb hby own_d5_17)
 refine own_st (T' := T9) (g' := (mkF m 20 #[vr rr] [(.int st), (.int (st + (2 : Int32))), (.int st), (.ref arr), (.ref b1), (.ref b1)])) st9 ?_
 refine own_st (T' := T9) (g' := (mkF m 21 #[vr rr] [(.int ((st + (2 : Int32)) - st)), (.int st), (.ref arr), (.ref b1), (.ref b1)])) (fun t k => ?_) ?_
 ·refine XS.isub X9.here hx rfl (hb hby own_d5_20) rfl ?_
  exact k
 rw [show ((st + (2 : Int32)) - st) = (2 : Int32) from (by rcases ho with rfl|rfl|rfl|rfl<;>decide)]
 have f10 := S_u8.ext O1.2
 obtain ⟨T11, X11, e11, st11⟩ := getS2 X9 hx hZ hown (host := "") (Or.inl (own_w hw 41 rfl)) Via.refl e9 f10 (g := (mkF m 21 #[vr rr] [(.int 2), (.int st), (.ref arr), (.ref b1), (.ref b1)])) rfl (hb hby own_d5_21)
 refine own_st (T' := T11) (g' := (mkF m 24 #[vr rr] [(.ref u8), (.int 2), (.int st), (.ref arr), (.ref b1), (.ref b1)])) st11 ?_
 have f12 := V_a.ext E1
 obtain ⟨_, _, ⟨T13, L13, c13, n13⟩, -, X13, ⟨Lc13, hQ13, l13, y13, z13⟩, st13⟩ := X11.specialBack hx (y := own_y22) rfl hown (om hZ hw 43 rfl) (om hZ hw 44 rfl) (om hZ hw 45 rfl) (by decide) (backOf (W := 1) (own_rm6a2 l Z a0 hw b1 arr ka y0 y1 y2 y3 y4 y5 y6 y7 st x0 x1 x2 cs fm u8 h1 n0 Z1 O1 A1 (D1 (Or.inr (own_w hw 88 rfl)) (ty := (.array .byte)) (by decide) : Fld Z h1 b1 "java/lang/String" "value" "[B" .null) (D1 (Or.inr (own_w hw 90 rfl)) (ty := .byte) (by decide) : Fld Z h1 b1 "java/lang/String" "coder" "B" (.int 0)) g_b1 f12 ⟨ho, hx0, hx1, hx2⟩ (Ne.symm ne_arr_b1) ha0 ha1 HB) hZ (own_w hw 45 rfl) (own_w hw 37 rfl) (by decide) (by decide)) (g := (mkF m 24 #[vr rr] [(.ref u8), (.int 2), (.int st), (.ref arr), (.ref b1), (.ref b1)])) rfl (by rw [hml]; rfl) (Steps.refl _) (a := b1) (argsL := [(.ref arr), (.int st), (.int 2), (.ref u8)]) (rest := [(.ref b1)]) (lenOf own_pd19 rfl) rfl (by show 2 * 0 + _ ≤ _; exact Nat.le_of_eq rfl) (hb hby own_d5_24) (fun _ _ => ⟨rfl, e11, (by decide : 1 + 1 ≤ _), (by decide : 4 + 2 ≤ _)⟩)
 dsimp only [Pt.U, Pt.locs, Pt.cells, Pt.slots] at X13 l13 y13 z13 st13 hQ13
 subst l13 y13 z13
 obtain ⟨h13, e13⟩ : ∃ z, T13.heap = z := ⟨_, rfl⟩
 rw [e13] at hQ13
 obtain ⟨t13, k13, rfl, N13q, Kc13, g13, hz13, Fv13, Fo13, Vc13⟩ := hQ13
 have N13 := Fr.app N0 N13q
 have f14 := E_r.ext E1
 have ne_rr_t13 : rr ≠ t13 := Nat.ne_of_lt (Nat.lt_of_lt_of_le f14.lt hz13)
 have ne_arr_t13 : arr ≠ t13 := Nat.ne_of_lt (Nat.lt_of_lt_of_le f12.lt hz13)
 have f15 := E_u8.ext O1.2
 have ne_u8_t13 : u8 ≠ t13 := Nat.ne_of_lt (Nat.lt_of_lt_of_le f15.lt hz13)
 have ne_b1_t13 : b1 ≠ t13 := Nat.ne_of_lt (Nat.lt_of_lt_of_le A1.lt hz13)
 have hwt13 : h0.size ≤ t13 := Nat.le_trans K1.1 hz13
 have K13 : Keep h0 h13 [] := K1.trans Kc13 (allS (Or.inr hz_b1) all0)
 have Z13 : n0 ≤ h13.size := Nat.le_trans Z1 Kc13.1
 have O13 := O1.keep Kc13 (allS g_b1 all0)
 refine own_tr (T' := T13) (g' := (mkF m 27 #[vr rr] [(.ref b1)])) st13 ?_
 have f16 := A1.keep Kc13
 exact own_retA X13 hx Bd rfl rfl (hb hby own_d5_27) e13 (⟨b1, t13, k13, rfl, N13, K13, g_b1, hz_b1, f16, Fv13, Fo13, Vc13⟩) (by decide) (by decide)
def own_r5a3 : Room := { frames := 5, cells := 2, slots := 7, locals := 88 }
def own_Q5a3 (Z : State) (rr : Addr) (arr : Addr) (ka : ClassId) (y0 y1 y2 y3 y4 y5 y6 y7 st x0 x1 x2 : Int32) (cs : Int32) (fm : Value) (u8 : Addr) (h0 : Heap) (n0 : Nat) : Option Value → Heap → List Loc → Prop := fun v h L => ∃ r t k, v = some (.ref r) ∧ Fr n0 L ∧ Keep h0 h [] ∧ n0 ≤ r ∧ h0.size ≤ r ∧ Exa Z h r "java/lang/String" ∧ Fld Z h r "java/lang/String" "value" "[B" (.ref t) ∧ Fld Z h r "java/lang/String" "coder" "B" (.int 0) ∧ Arv Z h t k .byte (3 : Int32) [(.int x0), (.int x1), (.int x2)] (.int 0)
theorem own_rm5a3 (l : Launch) (Z : State) (a0 : Array Value) (hw : own_W a0 Z) (rr : Addr) (arr : Addr) (ka : ClassId) (y0 y1 y2 y3 y4 y5 y6 y7 st x0 x1 x2 : Int32) (cs : Int32) (fm : Value) (u8 : Addr) (h0 : Heap) (n0 : Nat) (Z0 : n0 ≤ h0.size) (O0 : Old Z n0 h0) (E_r : Exa Z h0 rr "com/example/dyadloom/dyadloom/core/TripletReader$Triplet") (F_b : Fld Z h0 rr "com/example/dyadloom/dyadloom/core/TripletReader$Triplet" "bytes" "[B" (.ref arr)) (F_s : Fld Z h0 rr "com/example/dyadloom/dyadloom/core/TripletReader$Triplet" "columnStart" "I" (.int st)) (F_e : Fld Z h0 rr "com/example/dyadloom/dyadloom/core/TripletReader$Triplet" "columnEnd" "I" (.int (st + (3 : Int32)))) (V_a : Arv Z h0 arr ka .byte (8 : Int32) [(.int y0), (.int y1), (.int y2), (.int y3), (.int y4), (.int y5), (.int y6), (.int y7)] (.int 0)) (hYX : own_YX y0 y1 y2 y3 y4 y5 y6 y7 st x0 x1 x2) (ha0 : ¬ x0 < (0 : Int32)) (ha1 : ¬ x1 < (0 : Int32)) (ha2 : ¬ x2 < (0 : Int32)) (HB : own_BB Z cs fm u8) :
  own_MF l Z own_y23 (Jvm.Cond.code own_y23 prog_34_method_3_code 1 (some (.object "java/lang/String"))) [] own_r5a3 #[(.ref rr)] h0 (own_Q5a3 Z rr arr ka y0 y1 y2 y3 y4 y5 y6 y7 st x0 x1 x2 cs fm u8 h0 n0) := by
 refine own_open (plainFor_of_name own_pn7) hisR (Ls := #[vr rr]) ?_
 intro p e s m below meth c s₁ Bd hZ hx hby hml hown X0 e0
 obtain ⟨-, -, -, -, -, -, -, S_u8, -, E_u8⟩ := id HB
 have N0 := Fr.nil n0
 obtain ⟨ho, hx0, hx1, hx2⟩ := id hYX
 obtain ⟨T1, h1, X1, e1, E1, A1, D1, U1, st1⟩ := newO X0 hx hZ hown (own_w hw 35 rfl) (own_w hw 36 rfl) (own_w hw 37 rfl) e0 (g := (mkF m 0 #[vr rr] [])) rfl (hb hby own_d5_0) (by decide) (by decide)
 obtain ⟨b1, g1⟩ : ∃ z, z = h0.size := ⟨_, rfl⟩
 rw [← g1] at A1 D1 U1 st1
 have sz1 : h0.size ≤ b1 := Nat.le_of_eq g1.symm
 have ne_rr_b1 : rr ≠ b1 := Nat.ne_of_lt (Nat.lt_of_lt_of_le E_r.lt sz1)
 have ne_arr_b1 : arr ≠ b1 := Nat.ne_of_lt (Nat.lt_of_lt_of_le V_a.lt sz1)
 have f2 := E_u8.ext O0.2
 have ne_u8_b1 : u8 ≠ b1 := Nat.ne_of_lt (Nat.lt_of_lt_of_le f2.lt sz1)
 have g_b1 : n0 ≤ b1 := Nat.le_trans Z0 sz1
 have hz_b1 : h0.size ≤ b1 := Nat.le_trans (Keep.refl h0 []).1 sz1
 have K1 : Keep h0 h1 [] := (Keep.refl h0 []).ext E1
 have Z1 : n0 ≤ h1.size := Nat.le_trans Z0 E1.1
 have O1 := O0.ext E1
 refine own_st (T' := T1) (g' := (mkF m 3 #[vr rr] [(.ref b1)])) st1 ?_
 refine own_st (T' := T1) (g' := (mkF m 5 #[vr rr] [(.ref rr), (.ref b1), (.ref b1)])) (fun t k => ?_) ?_
 ·refine XS.dup X1.here hx rfl (hb hby own_d5_3) rfl rfl ?_
  refine XS.aloadN X1.here hx rfl (hb hby own_d5_4) rfl rfl ?_
  exact k
 have f3 := F_b.ext E1
 obtain ⟨T4, X4, e4, st4⟩ := getF X1 hx hZ hown (host := "") (Or.inl (own_w hw 38 rfl)) Via.refl e1 f3 (g := (mkF m 5 #[vr rr] [(.ref rr), (.ref b1), (.ref b1)])) rfl rfl (hb hby own_d5_5)
 refine own_st (T' := T4) (g' := (mkF m 8 #[vr rr] [(.ref arr), (.ref b1), (.ref b1)])) st4 ?_
 refine own_st (T' := T4) (g' := (mkF m 9 #[vr rr] [(.ref rr), (.ref arr), (.ref b1), (.ref b1)])) (fun t k => ?_) ?_
 ·refine XS.aloadN X4.here hx rfl (hb hby own_d5_8) rfl rfl ?_
  exact k
 have f5 := F_s.ext E1
 obtain ⟨T6, X6, e6, st6⟩ := getF X4 hx hZ hown (host := "") (Or.inl (own_w hw 39 rfl)) Via.refl e4 f5 (g := (mkF m 9 #[vr rr] [(.ref rr), (.ref arr), (.ref b1), (.ref b1)])) rfl rfl (hb hby own_d5_9)
 refine own_st (T' := T6) (g' := (mkF m 12 #[vr rr] [(.int st), (.ref arr), (.ref b1), (.ref b1)])) st6 ?_
 refine own_st (T' := T6) (g' := (mkF m 13 #[vr rr] [(.ref rr), (.int st), (.ref arr), (.ref b1), (.ref b1)])) (fun t k => ?_) ?_
 ·refine XS.aloadN X6.here hx rfl (hb hby own_d5_12) rfl rfl ?_
  exact k
 have f7 := F_e.ext E1
 obtain ⟨T8, X8, e8, st8⟩ := getF X6 hx hZ hown (host := "") (Or.inl (own_w hw 40 rfl)) Via.refl e6 f7 (g := (mkF m 13 #[vr rr] [(.ref rr), (.int st), (.ref arr), (.ref b1), (.ref b1)])) rfl rfl (hb hby own_d5_13)
 refine own_st (T' := T8) (g' := (mkF m 16 #[vr rr] [(.int (st + (3 : Int32))), (.int st), (.ref arr), (.ref b1), (.ref b1)])) st8 ?_
 refine own_st (T' := T8) (g' := (mkF m 17 #[vr rr] [(.ref rr), (.int (st + (3 : Int32))), (.int st), (.ref arr), (.ref b1), (.ref b1)])) (fun t k => ?_) ?_
 ·refine XS.aloadN X8.here hx rfl (hb hby own_d5_16) rfl rfl ?_
  exact k
 obtain ⟨T9, X9, e9, st9⟩ := getF X8 hx hZ hown (host := "") (Or.inl (own_w hw 39 rfl)) Via.refl e8 f5 (g := (mkF m 17 #[vr rr] [(.ref rr), (.int (st + (3 : Int32))), (.int st), (.ref arr), (.ref b1), (.ref b1)])) rfl rfl (hb hby own_d5_17)
 refine own_st (T' := T9) (g' := (mkF m 20 #[vr rr] [(.int st), (.int (st + (3 : Int32))), (.int st), (.ref arr), (.ref b1), (.ref b1)])) st9 ?_
 refine own_st (T' := T9) (g' := (mkF m 21 #[vr rr] [(.int ((st + (3 : Int32)) - st)), (.int st), (.ref arr), (.ref b1), (.ref b1)])) (fun t k => ?_) ?_
 ·refine XS.isub X9.here hx rfl (hb hby own_d5_20) rfl ?_
  exact k
 rw [show ((st + (3 : Int32)) - st) = (3 : Int32) from (by rcases ho with rfl|rfl|rfl|rfl<;>decide)]
 have f10 := S_u8.ext O1.2
 obtain ⟨T11, X11, e11, st11⟩ := getS2 X9 hx hZ hown (host := "") (Or.inl (own_w hw 41 rfl)) Via.refl e9 f10 (g := (mkF m 21 #[vr rr] [(.int 3), (.int st), (.ref arr), (.ref b1), (.ref b1)])) rfl (hb hby own_d5_21)
 refine own_st (T' := T11) (g' := (mkF m 24 #[vr rr] [(.ref u8), (.int 3), (.int st), (.ref arr), (.ref b1), (.ref b1)])) st11 ?_
 have f12 := V_a.ext E1
 obtain ⟨_, _, ⟨T13, L13, c13, n13⟩, -, X13, ⟨Lc13, hQ13, l13, y13, z13⟩, st13⟩ := X11.specialBack hx (y := own_y22) rfl hown (om hZ hw 43 rfl) (om hZ hw 44 rfl) (om hZ hw 45 rfl) (by decide) (backOf (W := 1) (own_rm6a3 l Z a0 hw b1 arr ka y0 y1 y2 y3 y4 y5 y6 y7 st x0 x1 x2 cs fm u8 h1 n0 Z1 O1 A1 (D1 (Or.inr (own_w hw 88 rfl)) (ty := (.array .byte)) (by decide) : Fld Z h1 b1 "java/lang/String" "value" "[B" .null) (D1 (Or.inr (own_w hw 90 rfl)) (ty := .byte) (by decide) : Fld Z h1 b1 "java/lang/String" "coder" "B" (.int 0)) g_b1 f12 ⟨ho, hx0, hx1, hx2⟩ (Ne.symm ne_arr_b1) ha0 ha1 ha2 HB) hZ (own_w hw 45 rfl) (own_w hw 37 rfl) (by decide) (by decide)) (g := (mkF m 24 #[vr rr] [(.ref u8), (.int 3), (.int st), (.ref arr), (.ref b1), (.ref b1)])) rfl (by rw [hml]; rfl) (Steps.refl _) (a := b1) (argsL := [(.ref arr), (.int st), (.int 3), (.ref u8)]) (rest := [(.ref b1)]) (lenOf own_pd19 rfl) rfl (by show 2 * 0 + _ ≤ _; exact Nat.le_of_eq rfl) (hb hby own_d5_24) (fun _ _ => ⟨rfl, e11, (by decide : 1 + 1 ≤ _), (by decide : 4 + 3 ≤ _)⟩)
 dsimp only [Pt.U, Pt.locs, Pt.cells, Pt.slots] at X13 l13 y13 z13 st13 hQ13
 subst l13 y13 z13
 obtain ⟨h13, e13⟩ : ∃ z, T13.heap = z := ⟨_, rfl⟩
 rw [e13] at hQ13
 obtain ⟨t13, k13, rfl, N13q, Kc13, g13, hz13, Fv13, Fo13, Vc13⟩ := hQ13
 have N13 := Fr.app N0 N13q
 have f14 := E_r.ext E1
 have ne_rr_t13 : rr ≠ t13 := Nat.ne_of_lt (Nat.lt_of_lt_of_le f14.lt hz13)
 have ne_arr_t13 : arr ≠ t13 := Nat.ne_of_lt (Nat.lt_of_lt_of_le f12.lt hz13)
 have f15 := E_u8.ext O1.2
 have ne_u8_t13 : u8 ≠ t13 := Nat.ne_of_lt (Nat.lt_of_lt_of_le f15.lt hz13)
 have ne_b1_t13 : b1 ≠ t13 := Nat.ne_of_lt (Nat.lt_of_lt_of_le A1.lt hz13)
 have hwt13 : h0.size ≤ t13 := Nat.le_trans K1.1 hz13
 have K13 : Keep h0 h13 [] := K1.trans Kc13 (allS (Or.inr hz_b1) all0)
 have Z13 : n0 ≤ h13.size := Nat.le_trans Z1 Kc13.1
 have O13 := O1.keep Kc13 (allS g_b1 all0)
 refine own_tr (T' := T13) (g' := (mkF m 27 #[vr rr] [(.ref b1)])) st13 ?_
 have f16 := A1.keep Kc13
 exact own_retA X13 hx Bd rfl rfl (hb hby own_d5_27) e13 (⟨b1, t13, k13, rfl, N13, K13, g_b1, hz_b1, f16, Fv13, Fo13, Vc13⟩) (by decide) (by decide)
def own_r5l2 : Room := { frames := 5, cells := 3, slots := 7, locals := 87 }
def own_Q5l2 (Z : State) (rr : Addr) (arr : Addr) (ka : ClassId) (y0 y1 y2 y3 y4 y5 y6 y7 st x0 x1 x2 : Int32) (cs : Int32) (fm : Value) (u8 : Addr) (h0 : Heap) (n0 : Nat) : Option Value → Heap → List Loc → Prop := fun v h L => ∃ r t k, v = some (.ref r) ∧ Fr n0 L ∧ Keep h0 h [] ∧ n0 ≤ r ∧ h0.size ≤ r ∧ Exa Z h r "java/lang/String" ∧ Fld Z h r "java/lang/String" "value" "[B" (.ref t) ∧ Fld Z h r "java/lang/String" "coder" "B" (.int 0) ∧ Arv Z h t k .byte (1 : Int32) [(.int ((own_d2 x0 x1).toInt8.toInt32))] (.int 0)
theorem own_rm5l2 (l : Launch) (Z : State) (a0 : Array Value) (hw : own_W a0 Z) (rr : Addr) (arr : Addr) (ka : ClassId) (y0 y1 y2 y3 y4 y5 y6 y7 st x0 x1 x2 : Int32) (cs : Int32) (fm : Value) (u8 : Addr) (h0 : Heap) (n0 : Nat) (Z0 : n0 ≤ h0.size) (O0 : Old Z n0 h0) (E_r : Exa Z h0 rr "com/example/dyadloom/dyadloom/core/TripletReader$Triplet") (F_b : Fld Z h0 rr "com/example/dyadloom/dyadloom/core/TripletReader$Triplet" "bytes" "[B" (.ref arr)) (F_s : Fld Z h0 rr "com/example/dyadloom/dyadloom/core/TripletReader$Triplet" "columnStart" "I" (.int st)) (F_e : Fld Z h0 rr "com/example/dyadloom/dyadloom/core/TripletReader$Triplet" "columnEnd" "I" (.int (st + (2 : Int32)))) (V_a : Arv Z h0 arr ka .byte (8 : Int32) [(.int y0), (.int y1), (.int y2), (.int y3), (.int y4), (.int y5), (.int y6), (.int y7)] (.int 0)) (hYX : own_YX y0 y1 y2 y3 y4 y5 y6 y7 st x0 x1 x2) (hm0 : x0 < (0 : Int32)) (hle : own_lead x0) (hco : own_cont x1) (hla : own_lat x0) (HB : own_BB Z cs fm u8) :
  own_MF l Z own_y23 (Jvm.Cond.code own_y23 prog_34_method_3_code 1 (some (.object "java/lang/String"))) [] own_r5l2 #[(.ref rr)] h0 (own_Q5l2 Z rr arr ka y0 y1 y2 y3 y4 y5 y6 y7 st x0 x1 x2 cs fm u8 h0 n0) := by
 refine own_open (plainFor_of_name own_pn7) hisR (Ls := #[vr rr]) ?_
 intro p e s m below meth c s₁ Bd hZ hx hby hml hown X0 e0
 obtain ⟨-, -, -, -, -, -, -, S_u8, -, E_u8⟩ := id HB
 have N0 := Fr.nil n0
 obtain ⟨ho, hx0, hx1, hx2⟩ := id hYX
 obtain ⟨T1, h1, X1, e1, E1, A1, D1, U1, st1⟩ := newO X0 hx hZ hown (own_w hw 35 rfl) (own_w hw 36 rfl) (own_w hw 37 rfl) e0 (g := (mkF m 0 #[vr rr] [])) rfl (hb hby own_d5_0) (by decide) (by decide)
 obtain ⟨b1, g1⟩ : ∃ z, z = h0.size := ⟨_, rfl⟩
 rw [← g1] at A1 D1 U1 st1
 have sz1 : h0.size ≤ b1 := Nat.le_of_eq g1.symm
 have ne_rr_b1 : rr ≠ b1 := Nat.ne_of_lt (Nat.lt_of_lt_of_le E_r.lt sz1)
 have ne_arr_b1 : arr ≠ b1 := Nat.ne_of_lt (Nat.lt_of_lt_of_le V_a.lt sz1)
 have f2 := E_u8.ext O0.2
 have ne_u8_b1 : u8 ≠ b1 := Nat.ne_of_lt (Nat.lt_of_lt_of_le f2.lt sz1)
 have g_b1 : n0 ≤ b1 := Nat.le_trans Z0 sz1
 have hz_b1 : h0.size ≤ b1 := Nat.le_trans (Keep.refl h0 []).1 sz1
 have K1 : Keep h0 h1 [] := (Keep.refl h0 []).ext E1
 have Z1 : n0 ≤ h1.size := Nat.le_trans Z0 E1.1
 have O1 := O0.ext E1
 refine own_st (T' := T1) (g' := (mkF m 3 #[vr rr] [(.ref b1)])) st1 ?_
 refine own_st (T' := T1) (g' := (mkF m 5 #[vr rr] [(.ref rr), (.ref b1), (.ref b1)])) (fun t k => ?_) ?_
 ·refine XS.dup X1.here hx rfl (hb hby own_d5_3) rfl rfl ?_
  refine XS.aloadN X1.here hx rfl (hb hby own_d5_4) rfl rfl ?_
  exact k
 have f3 := F_b.ext E1
 obtain ⟨T4, X4, e4, st4⟩ := getF X1 hx hZ hown (host := "") (Or.inl (own_w hw 38 rfl)) Via.refl e1 f3 (g := (mkF m 5 #[vr rr] [(.ref rr), (.ref b1), (.ref b1)])) rfl rfl (hb hby own_d5_5)
 refine own_st (T' := T4) (g' := (mkF m 8 #[vr rr] [(.ref arr), (.ref b1), (.ref b1)])) st4 ?_
 refine own_st (T' := T4) (g' := (mkF m 9 #[vr rr] [(.ref rr), (.ref arr), (.ref b1), (.ref b1)])) (fun t k => ?_) ?_
 ·refine XS.aloadN X4.here hx rfl (hb hby own_d5_8) rfl rfl ?_
  exact k
 have f5 := F_s.ext E1
 obtain ⟨T6, X6, e6, st6⟩ := getF X4 hx hZ hown (host := "") (Or.inl (own_w hw 39 rfl)) Via.refl e4 f5 (g := (mkF m 9 #[vr rr] [(.ref rr), (.ref arr), (.ref b1), (.ref b1)])) rfl rfl (hb hby own_d5_9)
 refine own_st (T' := T6) (g' := (mkF m 12 #[vr rr] [(.int st), (.ref arr), (.ref b1), (.ref b1)])) st6 ?_
 refine own_st (T' := T6) (g' := (mkF m 13 #[vr rr] [(.ref rr), (.int st), (.ref arr), (.ref b1), (.ref b1)])) (fun t k => ?_) ?_
 ·refine XS.aloadN X6.here hx rfl (hb hby own_d5_12) rfl rfl ?_
  exact k
 have f7 := F_e.ext E1
 obtain ⟨T8, X8, e8, st8⟩ := getF X6 hx hZ hown (host := "") (Or.inl (own_w hw 40 rfl)) Via.refl e6 f7 (g := (mkF m 13 #[vr rr] [(.ref rr), (.int st), (.ref arr), (.ref b1), (.ref b1)])) rfl rfl (hb hby own_d5_13)
 refine own_st (T' := T8) (g' := (mkF m 16 #[vr rr] [(.int (st + (2 : Int32))), (.int st), (.ref arr), (.ref b1), (.ref b1)])) st8 ?_
 refine own_st (T' := T8) (g' := (mkF m 17 #[vr rr] [(.ref rr), (.int (st + (2 : Int32))), (.int st), (.ref arr), (.ref b1), (.ref b1)])) (fun t k => ?_) ?_
 ·refine XS.aloadN X8.here hx rfl (hb hby own_d5_16) rfl rfl ?_
  exact k
 obtain ⟨T9, X9, e9, st9⟩ := getF X8 hx hZ hown (host := "") (Or.inl (own_w hw 39 rfl)) Via.refl e8 f5 (g := (mkF m 17 #[vr rr] [(.ref rr), (.int (st + (2 : Int32))), (.int st), (.ref arr), (.ref b1), (.ref b1)])) rfl rfl (hb hby own_d5_17)
 refine own_st (T' := T9) (g' := (mkF m 20 #[vr rr] [(.int st), (.int (st + (2 : Int32))), (.int st), (.ref arr), (.ref b1), (.ref b1)])) st9 ?_
 refine own_st (T' := T9) (g' := (mkF m 21 #[vr rr] [(.int ((st + (2 : Int32)) - st)), (.int st), (.ref arr), (.ref b1), (.ref b1)])) (fun t k => ?_) ?_
 ·refine XS.isub X9.here hx rfl (hb hby own_d5_20) rfl ?_
  exact k
 rw [show ((st + (2 : Int32)) - st) = (2 : Int32) from (by rcases ho with rfl|rfl|rfl|rfl<;>decide)]
 have f10 := S_u8.ext O1.2
 obtain ⟨T11, X11, e11, st11⟩ := getS2 X9 hx hZ hown (host := "") (Or.inl (own_w hw 41 rfl)) Via.refl e9 f10 (g := (mkF m 21 #[vr rr] [(.int 2), (.int st), (.ref arr), (.ref b1), (.ref b1)])) rfl (hb hby own_d5_21)
 refine own_st (T' := T11) (g' := (mkF m 24 #[vr rr] [(.ref u8), (.int 2), (.int st), (.ref arr), (.ref b1), (.ref b1)])) st11 ?_
 have f12 := V_a.ext E1
 obtain ⟨_, _, ⟨T13, L13, c13, n13⟩, -, X13, ⟨Lc13, hQ13, l13, y13, z13⟩, st13⟩ := X11.specialBack hx (y := own_y22) rfl hown (om hZ hw 43 rfl) (om hZ hw 44 rfl) (om hZ hw 45 rfl) (by decide) (backOf (W := 1) (own_rm6l2 l Z a0 hw b1 arr ka y0 y1 y2 y3 y4 y5 y6 y7 st x0 x1 x2 cs fm u8 h1 n0 Z1 O1 A1 (D1 (Or.inr (own_w hw 88 rfl)) (ty := (.array .byte)) (by decide) : Fld Z h1 b1 "java/lang/String" "value" "[B" .null) (D1 (Or.inr (own_w hw 90 rfl)) (ty := .byte) (by decide) : Fld Z h1 b1 "java/lang/String" "coder" "B" (.int 0)) g_b1 f12 ⟨ho, hx0, hx1, hx2⟩ (Ne.symm ne_arr_b1) hm0 hle hco hla HB) hZ (own_w hw 45 rfl) (own_w hw 37 rfl) (by decide) (by decide)) (g := (mkF m 24 #[vr rr] [(.ref u8), (.int 2), (.int st), (.ref arr), (.ref b1), (.ref b1)])) rfl (by rw [hml]; rfl) (Steps.refl _) (a := b1) (argsL := [(.ref arr), (.int st), (.int 2), (.ref u8)]) (rest := [(.ref b1)]) (lenOf own_pd19 rfl) rfl (by show 2 * 0 + _ ≤ _; exact Nat.le_of_eq rfl) (hb hby own_d5_24) (fun _ _ => ⟨rfl, e11, (by decide : 1 + 2 ≤ _), (by decide : 4 + 3 ≤ _)⟩)
 dsimp only [Pt.U, Pt.locs, Pt.cells, Pt.slots] at X13 l13 y13 z13 st13 hQ13
 subst l13 y13 z13
 obtain ⟨h13, e13⟩ : ∃ z, T13.heap = z := ⟨_, rfl⟩
 rw [e13] at hQ13
 obtain ⟨t13, k13, rfl, N13q, Kc13, g13, hz13, Fv13, Fo13, Vc13⟩ := hQ13
 have N13 := Fr.app N0 N13q
 have f14 := E_r.ext E1
 have ne_rr_t13 : rr ≠ t13 := Nat.ne_of_lt (Nat.lt_of_lt_of_le f14.lt hz13)
 have ne_arr_t13 : arr ≠ t13 := Nat.ne_of_lt (Nat.lt_of_lt_of_le f12.lt hz13)
 have f15 := E_u8.ext O1.2
 have ne_u8_t13 : u8 ≠ t13 := Nat.ne_of_lt (Nat.lt_of_lt_of_le f15.lt hz13)
 have ne_b1_t13 : b1 ≠ t13 := Nat.ne_of_lt (Nat.lt_of_lt_of_le A1.lt hz13)
 have hwt13 : h0.size ≤ t13 := Nat.le_trans K1.1 hz13
 have K13 : Keep h0 h13 [] := K1.trans Kc13 (allS (Or.inr hz_b1) all0)
 have Z13 : n0 ≤ h13.size := Nat.le_trans Z1 Kc13.1
 have O13 := O1.keep Kc13 (allS g_b1 all0)
 refine own_tr (T' := T13) (g' := (mkF m 27 #[vr rr] [(.ref b1)])) st13 ?_
 have f16 := A1.keep Kc13
 exact own_retA X13 hx Bd rfl rfl (hb hby own_d5_27) e13 (⟨b1, t13, k13, rfl, N13, K13, g_b1, hz_b1, f16, Fv13, Fo13, Vc13⟩) (by decide) (by decide)
def own_r5l3 : Room := { frames := 5, cells := 3, slots := 9, locals := 87 }
def own_Q5l3 (Z : State) (rr : Addr) (arr : Addr) (ka : ClassId) (y0 y1 y2 y3 y4 y5 y6 y7 st x0 x1 x2 : Int32) (cs : Int32) (fm : Value) (u8 : Addr) (h0 : Heap) (n0 : Nat) : Option Value → Heap → List Loc → Prop := fun v h L => ∃ r t k, v = some (.ref r) ∧ Fr n0 L ∧ Keep h0 h [] ∧ n0 ≤ r ∧ h0.size ≤ r ∧ Exa Z h r "java/lang/String" ∧ Fld Z h r "java/lang/String" "value" "[B" (.ref t) ∧ Fld Z h r "java/lang/String" "coder" "B" (.int 0) ∧ Arv Z h t k .byte (2 : Int32) [(.int ((own_d2 x0 x1).toInt8.toInt32)), (.int (x2.toInt8.toInt32))] (.int 0)
theorem own_rm5l3 (l : Launch) (Z : State) (a0 : Array Value) (hw : own_W a0 Z) (rr : Addr) (arr : Addr) (ka : ClassId) (y0 y1 y2 y3 y4 y5 y6 y7 st x0 x1 x2 : Int32) (cs : Int32) (fm : Value) (u8 : Addr) (h0 : Heap) (n0 : Nat) (Z0 : n0 ≤ h0.size) (O0 : Old Z n0 h0) (E_r : Exa Z h0 rr "com/example/dyadloom/dyadloom/core/TripletReader$Triplet") (F_b : Fld Z h0 rr "com/example/dyadloom/dyadloom/core/TripletReader$Triplet" "bytes" "[B" (.ref arr)) (F_s : Fld Z h0 rr "com/example/dyadloom/dyadloom/core/TripletReader$Triplet" "columnStart" "I" (.int st)) (F_e : Fld Z h0 rr "com/example/dyadloom/dyadloom/core/TripletReader$Triplet" "columnEnd" "I" (.int (st + (3 : Int32)))) (V_a : Arv Z h0 arr ka .byte (8 : Int32) [(.int y0), (.int y1), (.int y2), (.int y3), (.int y4), (.int y5), (.int y6), (.int y7)] (.int 0)) (hYX : own_YX y0 y1 y2 y3 y4 y5 y6 y7 st x0 x1 x2) (hm0 : x0 < (0 : Int32)) (hle : own_lead x0) (hco : own_cont x1) (ha2 : ¬ x2 < (0 : Int32)) (hla : own_lat x0) (HB : own_BB Z cs fm u8) :
  own_MF l Z own_y23 (Jvm.Cond.code own_y23 prog_34_method_3_code 1 (some (.object "java/lang/String"))) [] own_r5l3 #[(.ref rr)] h0 (own_Q5l3 Z rr arr ka y0 y1 y2 y3 y4 y5 y6 y7 st x0 x1 x2 cs fm u8 h0 n0) := by
 refine own_open (plainFor_of_name own_pn7) hisR (Ls := #[vr rr]) ?_
 intro p e s m below meth c s₁ Bd hZ hx hby hml hown X0 e0
 obtain ⟨-, -, -, -, -, -, -, S_u8, -, E_u8⟩ := id HB
 have N0 := Fr.nil n0
 obtain ⟨ho, hx0, hx1, hx2⟩ := id hYX
 obtain ⟨T1, h1, X1, e1, E1, A1, D1, U1, st1⟩ := newO X0 hx hZ hown (own_w hw 35 rfl) (own_w hw 36 rfl) (own_w hw 37 rfl) e0 (g := (mkF m 0 #[vr rr] [])) rfl (hb hby own_d5_0) (by decide) (by decide)
 obtain ⟨b1, g1⟩ : ∃ z, z = h0.size := ⟨_, rfl⟩
 rw [← g1] at A1 D1 U1 st1
 have sz1 : h0.size ≤ b1 := Nat.le_of_eq g1.symm
 have ne_rr_b1 : rr ≠ b1 := Nat.ne_of_lt (Nat.lt_of_lt_of_le E_r.lt sz1)
 have ne_arr_b1 : arr ≠ b1 := Nat.ne_of_lt (Nat.lt_of_lt_of_le V_a.lt sz1)
 have f2 := E_u8.ext O0.2
 have ne_u8_b1 : u8 ≠ b1 := Nat.ne_of_lt (Nat.lt_of_lt_of_le f2.lt sz1)
 have g_b1 : n0 ≤ b1 := Nat.le_trans Z0 sz1
 have hz_b1 : h0.size ≤ b1 := Nat.le_trans (Keep.refl h0 []).1 sz1
 have K1 : Keep h0 h1 [] := (Keep.refl h0 []).ext E1
 have Z1 : n0 ≤ h1.size := Nat.le_trans Z0 E1.1
 have O1 := O0.ext E1
 refine own_st (T' := T1) (g' := (mkF m 3 #[vr rr] [(.ref b1)])) st1 ?_
 refine own_st (T' := T1) (g' := (mkF m 5 #[vr rr] [(.ref rr), (.ref b1), (.ref b1)])) (fun t k => ?_) ?_
 ·refine XS.dup X1.here hx rfl (hb hby own_d5_3) rfl rfl ?_
  refine XS.aloadN X1.here hx rfl (hb hby own_d5_4) rfl rfl ?_
  exact k
 have f3 := F_b.ext E1
 obtain ⟨T4, X4, e4, st4⟩ := getF X1 hx hZ hown (host := "") (Or.inl (own_w hw 38 rfl)) Via.refl e1 f3 (g := (mkF m 5 #[vr rr] [(.ref rr), (.ref b1), (.ref b1)])) rfl rfl (hb hby own_d5_5)
 refine own_st (T' := T4) (g' := (mkF m 8 #[vr rr] [(.ref arr), (.ref b1), (.ref b1)])) st4 ?_
 refine own_st (T' := T4) (g' := (mkF m 9 #[vr rr] [(.ref rr), (.ref arr), (.ref b1), (.ref b1)])) (fun t k => ?_) ?_
 ·refine XS.aloadN X4.here hx rfl (hb hby own_d5_8) rfl rfl ?_
  exact k
 have f5 := F_s.ext E1
 obtain ⟨T6, X6, e6, st6⟩ := getF X4 hx hZ hown (host := "") (Or.inl (own_w hw 39 rfl)) Via.refl e4 f5 (g := (mkF m 9 #[vr rr] [(.ref rr), (.ref arr), (.ref b1), (.ref b1)])) rfl rfl (hb hby own_d5_9)
 refine own_st (T' := T6) (g' := (mkF m 12 #[vr rr] [(.int st), (.ref arr), (.ref b1), (.ref b1)])) st6 ?_
 refine own_st (T' := T6) (g' := (mkF m 13 #[vr rr] [(.ref rr), (.int st), (.ref arr), (.ref b1), (.ref b1)])) (fun t k => ?_) ?_
 ·refine XS.aloadN X6.here hx rfl (hb hby own_d5_12) rfl rfl ?_
  exact k
 have f7 := F_e.ext E1
 obtain ⟨T8, X8, e8, st8⟩ := getF X6 hx hZ hown (host := "") (Or.inl (own_w hw 40 rfl)) Via.refl e6 f7 (g := (mkF m 13 #[vr rr] [(.ref rr), (.int st), (.ref arr), (.ref b1), (.ref b1)])) rfl rfl (hb hby own_d5_13)
 refine own_st (T' := T8) (g' := (mkF m 16 #[vr rr] [(.int (st + (3 : Int32))), (.int st), (.ref arr), (.ref b1), (.ref b1)])) st8 ?_
 refine own_st (T' := T8) (g' := (mkF m 17 #[vr rr] [(.ref rr), (.int (st + (3 : Int32))), (.int st), (.ref arr), (.ref b1), (.ref b1)])) (fun t k => ?_) ?_
 ·refine XS.aloadN X8.here hx rfl (hb hby own_d5_16) rfl rfl ?_
  exact k
 obtain ⟨T9, X9, e9, st9⟩ := getF X8 hx hZ hown (host := "") (Or.inl (own_w hw 39 rfl)) Via.refl e8 f5 (g := (mkF m 17 #[vr rr] [(.ref rr), (.int (st + (3 : Int32))), (.int st), (.ref arr), (.ref b1), (.ref b1)])) rfl rfl (hb hby own_d5_17)
 refine own_st (T' := T9) (g' := (mkF m 20 #[vr rr] [(.int st), (.int (st + (3 : Int32))), (.int st), (.ref arr), (.ref b1), (.ref b1)])) st9 ?_
 refine own_st (T' := T9) (g' := (mkF m 21 #[vr rr] [(.int ((st + (3 : Int32)) - st)), (.int st), (.ref arr), (.ref b1), (.ref b1)])) (fun t k => ?_) ?_
 ·refine XS.isub X9.here hx rfl (hb hby own_d5_20) rfl ?_
  exact k
 rw [show ((st + (3 : Int32)) - st) = (3 : Int32) from (by rcases ho with rfl|rfl|rfl|rfl<;>decide)]
 have f10 := S_u8.ext O1.2
 obtain ⟨T11, X11, e11, st11⟩ := getS2 X9 hx hZ hown (host := "") (Or.inl (own_w hw 41 rfl)) Via.refl e9 f10 (g := (mkF m 21 #[vr rr] [(.int 3), (.int st), (.ref arr), (.ref b1), (.ref b1)])) rfl (hb hby own_d5_21)
 refine own_st (T' := T11) (g' := (mkF m 24 #[vr rr] [(.ref u8), (.int 3), (.int st), (.ref arr), (.ref b1), (.ref b1)])) st11 ?_
 have f12 := V_a.ext E1
 obtain ⟨_, _, ⟨T13, L13, c13, n13⟩, -, X13, ⟨Lc13, hQ13, l13, y13, z13⟩, st13⟩ := X11.specialBack hx (y := own_y22) rfl hown (om hZ hw 43 rfl) (om hZ hw 44 rfl) (om hZ hw 45 rfl) (by decide) (backOf (W := 1) (own_rm6l3 l Z a0 hw b1 arr ka y0 y1 y2 y3 y4 y5 y6 y7 st x0 x1 x2 cs fm u8 h1 n0 Z1 O1 A1 (D1 (Or.inr (own_w hw 88 rfl)) (ty := (.array .byte)) (by decide) : Fld Z h1 b1 "java/lang/String" "value" "[B" .null) (D1 (Or.inr (own_w hw 90 rfl)) (ty := .byte) (by decide) : Fld Z h1 b1 "java/lang/String" "coder" "B" (.int 0)) g_b1 f12 ⟨ho, hx0, hx1, hx2⟩ (Ne.symm ne_arr_b1) hm0 hle hco ha2 hla HB) hZ (own_w hw 45 rfl) (own_w hw 37 rfl) (by decide) (by decide)) (g := (mkF m 24 #[vr rr] [(.ref u8), (.int 3), (.int st), (.ref arr), (.ref b1), (.ref b1)])) rfl (by rw [hml]; rfl) (Steps.refl _) (a := b1) (argsL := [(.ref arr), (.int st), (.int 3), (.ref u8)]) (rest := [(.ref b1)]) (lenOf own_pd19 rfl) rfl (by show 2 * 0 + _ ≤ _; exact Nat.le_of_eq rfl) (hb hby own_d5_24) (fun _ _ => ⟨rfl, e11, (by decide : 1 + 2 ≤ _), (by decide : 4 + 5 ≤ _)⟩)
 dsimp only [Pt.U, Pt.locs, Pt.cells, Pt.slots] at X13 l13 y13 z13 st13 hQ13
 subst l13 y13 z13
 obtain ⟨h13, e13⟩ : ∃ z, T13.heap = z := ⟨_, rfl⟩
 rw [e13] at hQ13
 obtain ⟨t13, k13, rfl, N13q, Kc13, g13, hz13, Fv13, Fo13, Vc13⟩ := hQ13
 have N13 := Fr.app N0 N13q
 have f14 := E_r.ext E1
 have ne_rr_t13 : rr ≠ t13 := Nat.ne_of_lt (Nat.lt_of_lt_of_le f14.lt hz13)
 have ne_arr_t13 : arr ≠ t13 := Nat.ne_of_lt (Nat.lt_of_lt_of_le f12.lt hz13)
 have f15 := E_u8.ext O1.2
 have ne_u8_t13 : u8 ≠ t13 := Nat.ne_of_lt (Nat.lt_of_lt_of_le f15.lt hz13)
 have ne_b1_t13 : b1 ≠ t13 := Nat.ne_of_lt (Nat.lt_of_lt_of_le A1.lt hz13)
 have hwt13 : h0.size ≤ t13 := Nat.le_trans K1.1 hz13
 have K13 : Keep h0 h13 [] := K1.trans Kc13 (allS (Or.inr hz_b1) all0)
 have Z13 : n0 ≤ h13.size := Nat.le_trans Z1 Kc13.1
 have O13 := O1.keep Kc13 (allS g_b1 all0)
 refine own_tr (T' := T13) (g' := (mkF m 27 #[vr rr] [(.ref b1)])) st13 ?_
 have f16 := A1.keep Kc13
 exact own_retA X13 hx Bd rfl rfl (hb hby own_d5_27) e13 (⟨b1, t13, k13, rfl, N13, K13, g_b1, hz_b1, f16, Fv13, Fo13, Vc13⟩) (by decide) (by decide)
def own_r5u2 : Room := { frames := 7, cells := 4, slots := 12, locals := 115 }
def own_Q5u2 (Z : State) (rr : Addr) (arr : Addr) (ka : ClassId) (y0 y1 y2 y3 y4 y5 y6 y7 st x0 x1 x2 : Int32) (cs : Int32) (fm : Value) (u8 : Addr) (h0 : Heap) (n0 : Nat) : Option Value → Heap → List Loc → Prop := fun v h L => ∃ r t k, v = some (.ref r) ∧ Fr n0 L ∧ Keep h0 h [] ∧ n0 ≤ r ∧ h0.size ≤ r ∧ Exa Z h r "java/lang/String" ∧ Fld Z h r "java/lang/String" "value" "[B" (.ref t) ∧ Fld Z h r "java/lang/String" "coder" "B" (.int 1) ∧ Arv Z h t k .byte (2 : Int32) [(.int (((own_d2 x0 x1) >>> ((0 : Int32) &&& 31)).toInt8.toInt32)), (.int (((own_d2 x0 x1) >>> ((8 : Int32) &&& 31)).toInt8.toInt32))] (.int 0)
theorem own_rm5u2 (l : Launch) (Z : State) (a0 : Array Value) (hw : own_W a0 Z) (rr : Addr) (arr : Addr) (ka : ClassId) (y0 y1 y2 y3 y4 y5 y6 y7 st x0 x1 x2 : Int32) (cs : Int32) (fm : Value) (u8 : Addr) (h0 : Heap) (n0 : Nat) (Z0 : n0 ≤ h0.size) (O0 : Old Z n0 h0) (E_r : Exa Z h0 rr "com/example/dyadloom/dyadloom/core/TripletReader$Triplet") (F_b : Fld Z h0 rr "com/example/dyadloom/dyadloom/core/TripletReader$Triplet" "bytes" "[B" (.ref arr)) (F_s : Fld Z h0 rr "com/example/dyadloom/dyadloom/core/TripletReader$Triplet" "columnStart" "I" (.int st)) (F_e : Fld Z h0 rr "com/example/dyadloom/dyadloom/core/TripletReader$Triplet" "columnEnd" "I" (.int (st + (2 : Int32)))) (V_a : Arv Z h0 arr ka .byte (8 : Int32) [(.int y0), (.int y1), (.int y2), (.int y3), (.int y4), (.int y5), (.int y6), (.int y7)] (.int 0)) (hYX : own_YX y0 y1 y2 y3 y4 y5 y6 y7 st x0 x1 x2) (hm0 : x0 < (0 : Int32)) (hle : own_lead x0) (hco : own_cont x1) (hla : ¬ own_lat x0) (HB : own_BB Z cs fm u8) :
  own_MF l Z own_y23 (Jvm.Cond.code own_y23 prog_34_method_3_code 1 (some (.object "java/lang/String"))) [] own_r5u2 #[(.ref rr)] h0 (own_Q5u2 Z rr arr ka y0 y1 y2 y3 y4 y5 y6 y7 st x0 x1 x2 cs fm u8 h0 n0) := by
 refine own_open (plainFor_of_name own_pn7) hisR (Ls := #[vr rr]) ?_
 intro p e s m below meth c s₁ Bd hZ hx hby hml hown X0 e0
 obtain ⟨-, -, -, -, -, -, -, S_u8, -, E_u8⟩ := id HB
 have N0 := Fr.nil n0
 obtain ⟨ho, hx0, hx1, hx2⟩ := id hYX
 obtain ⟨T1, h1, X1, e1, E1, A1, D1, U1, st1⟩ := newO X0 hx hZ hown (own_w hw 35 rfl) (own_w hw 36 rfl) (own_w hw 37 rfl) e0 (g := (mkF m 0 #[vr rr] [])) rfl (hb hby own_d5_0) (by decide) (by decide)
 obtain ⟨b1, g1⟩ : ∃ z, z = h0.size := ⟨_, rfl⟩
 rw [← g1] at A1 D1 U1 st1
 have sz1 : h0.size ≤ b1 := Nat.le_of_eq g1.symm
 have ne_rr_b1 : rr ≠ b1 := Nat.ne_of_lt (Nat.lt_of_lt_of_le E_r.lt sz1)
 have ne_arr_b1 : arr ≠ b1 := Nat.ne_of_lt (Nat.lt_of_lt_of_le V_a.lt sz1)
 have f2 := E_u8.ext O0.2
 have ne_u8_b1 : u8 ≠ b1 := Nat.ne_of_lt (Nat.lt_of_lt_of_le f2.lt sz1)
 have g_b1 : n0 ≤ b1 := Nat.le_trans Z0 sz1
 have hz_b1 : h0.size ≤ b1 := Nat.le_trans (Keep.refl h0 []).1 sz1
 have K1 : Keep h0 h1 [] := (Keep.refl h0 []).ext E1
 have Z1 : n0 ≤ h1.size := Nat.le_trans Z0 E1.1
 have O1 := O0.ext E1
 refine own_st (T' := T1) (g' := (mkF m 3 #[vr rr] [(.ref b1)])) st1 ?_
 refine own_st (T' := T1) (g' := (mkF m 5 #[vr rr] [(.ref rr), (.ref b1), (.ref b1)])) (fun t k => ?_) ?_
 ·refine XS.dup X1.here hx rfl (hb hby own_d5_3) rfl rfl ?_
  refine XS.aloadN X1.here hx rfl (hb hby own_d5_4) rfl rfl ?_
  exact k
 have f3 := F_b.ext E1
 obtain ⟨T4, X4, e4, st4⟩ := getF X1 hx hZ hown (host := "") (Or.inl (own_w hw 38 rfl)) Via.refl e1 f3 (g := (mkF m 5 #[vr rr] [(.ref rr), (.ref b1), (.ref b1)])) rfl rfl (hb hby own_d5_5)
 refine own_st (T' := T4) (g' := (mkF m 8 #[vr rr] [(.ref arr), (.ref b1), (.ref b1)])) st4 ?_
 refine own_st (T' := T4) (g' := (mkF m 9 #[vr rr] [(.ref rr), (.ref arr), (.ref b1), (.ref b1)])) (fun t k => ?_) ?_
 ·refine XS.aloadN X4.here hx rfl (hb hby own_d5_8) rfl rfl ?_
  exact k
 have f5 := F_s.ext E1
 obtain ⟨T6, X6, e6, st6⟩ := getF X4 hx hZ hown (host := "") (Or.inl (own_w hw 39 rfl)) Via.refl e4 f5 (g := (mkF m 9 #[vr rr] [(.ref rr), (.ref arr), (.ref b1), (.ref b1)])) rfl rfl (hb hby own_d5_9)
 refine own_st (T' := T6) (g' := (mkF m 12 #[vr rr] [(.int st), (.ref arr), (.ref b1), (.ref b1)])) st6 ?_
 refine own_st (T' := T6) (g' := (mkF m 13 #[vr rr] [(.ref rr), (.int st), (.ref arr), (.ref b1), (.ref b1)])) (fun t k => ?_) ?_
 ·refine XS.aloadN X6.here hx rfl (hb hby own_d5_12) rfl rfl ?_
  exact k
 have f7 := F_e.ext E1
 obtain ⟨T8, X8, e8, st8⟩ := getF X6 hx hZ hown (host := "") (Or.inl (own_w hw 40 rfl)) Via.refl e6 f7 (g := (mkF m 13 #[vr rr] [(.ref rr), (.int st), (.ref arr), (.ref b1), (.ref b1)])) rfl rfl (hb hby own_d5_13)
 refine own_st (T' := T8) (g' := (mkF m 16 #[vr rr] [(.int (st + (2 : Int32))), (.int st), (.ref arr), (.ref b1), (.ref b1)])) st8 ?_
 refine own_st (T' := T8) (g' := (mkF m 17 #[vr rr] [(.ref rr), (.int (st + (2 : Int32))), (.int st), (.ref arr), (.ref b1), (.ref b1)])) (fun t k => ?_) ?_
 ·refine XS.aloadN X8.here hx rfl (hb hby own_d5_16) rfl rfl ?_
  exact k
 obtain ⟨T9, X9, e9, st9⟩ := getF X8 hx hZ hown (host := "") (Or.inl (own_w hw 39 rfl)) Via.refl e8 f5 (g := (mkF m 17 #[vr rr] [(.ref rr), (.int (st + (2 : Int32))), (.int st), (.ref arr), (.ref b1), (.ref b1)])) rfl rfl (hb hby own_d5_17)
 refine own_st (T' := T9) (g' := (mkF m 20 #[vr rr] [(.int st), (.int (st + (2 : Int32))), (.int st), (.ref arr), (.ref b1), (.ref b1)])) st9 ?_
 refine own_st (T' := T9) (g' := (mkF m 21 #[vr rr] [(.int ((st + (2 : Int32)) - st)), (.int st), (.ref arr), (.ref b1), (.ref b1)])) (fun t k => ?_) ?_
 ·refine XS.isub X9.here hx rfl (hb hby own_d5_20) rfl ?_
  exact k
 rw [show ((st + (2 : Int32)) - st) = (2 : Int32) from (by rcases ho with rfl|rfl|rfl|rfl<;>decide)]
 have f10 := S_u8.ext O1.2
 obtain ⟨T11, X11, e11, st11⟩ := getS2 X9 hx hZ hown (host := "") (Or.inl (own_w hw 41 rfl)) Via.refl e9 f10 (g := (mkF m 21 #[vr rr] [(.int 2), (.int st), (.ref arr), (.ref b1), (.ref b1)])) rfl (hb hby own_d5_21)
 refine own_st (T' := T11) (g' := (mkF m 24 #[vr rr] [(.ref u8), (.int 2), (.int st), (.ref arr), (.ref b1), (.ref b1)])) st11 ?_
 have f12 := V_a.ext E1
 obtain ⟨_, _, ⟨T13, L13, c13, n13⟩, -, X13, ⟨Lc13, hQ13, l13, y13, z13⟩, st13⟩ := X11.specialBack hx (y := own_y22) rfl hown (om hZ hw 43 rfl) (om hZ hw 44 rfl) (om hZ hw 45 rfl) (by decide) (backOf (W := 1) (own_rm6u2 l Z a0 hw b1 arr ka y0 y1 y2 y3 y4 y5 y6 y7 st x0 x1 x2 cs fm u8 h1 n0 Z1 O1 A1 (D1 (Or.inr (own_w hw 88 rfl)) (ty := (.array .byte)) (by decide) : Fld Z h1 b1 "java/lang/String" "value" "[B" .null) (D1 (Or.inr (own_w hw 90 rfl)) (ty := .byte) (by decide) : Fld Z h1 b1 "java/lang/String" "coder" "B" (.int 0)) g_b1 f12 ⟨ho, hx0, hx1, hx2⟩ (Ne.symm ne_arr_b1) hm0 hle hco hla HB) hZ (own_w hw 45 rfl) (own_w hw 37 rfl) (by decide) (by decide)) (g := (mkF m 24 #[vr rr] [(.ref u8), (.int 2), (.int st), (.ref arr), (.ref b1), (.ref b1)])) rfl (by rw [hml]; rfl) (Steps.refl _) (a := b1) (argsL := [(.ref arr), (.int st), (.int 2), (.ref u8)]) (rest := [(.ref b1)]) (lenOf own_pd19 rfl) rfl (by show 2 * 0 + _ ≤ _; exact Nat.le_of_eq rfl) (hb hby own_d5_24) (fun _ _ => ⟨rfl, e11, (by decide : 1 + 3 ≤ _), (by decide : 4 + 8 ≤ _)⟩)
 dsimp only [Pt.U, Pt.locs, Pt.cells, Pt.slots] at X13 l13 y13 z13 st13 hQ13
 subst l13 y13 z13
 obtain ⟨h13, e13⟩ : ∃ z, T13.heap = z := ⟨_, rfl⟩
 rw [e13] at hQ13
 obtain ⟨t13, k13, rfl, N13q, Kc13, g13, hz13, Fv13, Fo13, Vc13⟩ := hQ13
 have N13 := Fr.app N0 N13q
 have f14 := E_r.ext E1
 have ne_rr_t13 : rr ≠ t13 := Nat.ne_of_lt (Nat.lt_of_lt_of_le f14.lt hz13)
 have ne_arr_t13 : arr ≠ t13 := Nat.ne_of_lt (Nat.lt_of_lt_of_le f12.lt hz13)
 have f15 := E_u8.ext O1.2
 have ne_u8_t13 : u8 ≠ t13 := Nat.ne_of_lt (Nat.lt_of_lt_of_le f15.lt hz13)
 have ne_b1_t13 : b1 ≠ t13 := Nat.ne_of_lt (Nat.lt_of_lt_of_le A1.lt hz13)
 have hwt13 : h0.size ≤ t13 := Nat.le_trans K1.1 hz13
 have K13 : Keep h0 h13 [] := K1.trans Kc13 (allS (Or.inr hz_b1) all0)
 have Z13 : n0 ≤ h13.size := Nat.le_trans Z1 Kc13.1
 have O13 := O1.keep Kc13 (allS g_b1 all0)
 refine own_tr (T' := T13) (g' := (mkF m 27 #[vr rr] [(.ref b1)])) st13 ?_
 have f16 := A1.keep Kc13
 exact own_retA X13 hx Bd rfl rfl (hb hby own_d5_27) e13 (⟨b1, t13, k13, rfl, N13, K13, g_b1, hz_b1, f16, Fv13, Fo13, Vc13⟩) (by decide) (by decide)
def own_r5u3 : Room := { frames := 7, cells := 4, slots := 17, locals := 115 }
def own_Q5u3 (Z : State) (rr : Addr) (arr : Addr) (ka : ClassId) (y0 y1 y2 y3 y4 y5 y6 y7 st x0 x1 x2 : Int32) (cs : Int32) (fm : Value) (u8 : Addr) (h0 : Heap) (n0 : Nat) : Option Value → Heap → List Loc → Prop := fun v h L => ∃ r t k, v = some (.ref r) ∧ Fr n0 L ∧ Keep h0 h [] ∧ n0 ≤ r ∧ h0.size ≤ r ∧ Exa Z h r "java/lang/String" ∧ Fld Z h r "java/lang/String" "value" "[B" (.ref t) ∧ Fld Z h r "java/lang/String" "coder" "B" (.int 1) ∧ Arv Z h t k .byte (4 : Int32) [(.int (((own_d2 x0 x1) >>> ((0 : Int32) &&& 31)).toInt8.toInt32)), (.int (((own_d2 x0 x1) >>> ((8 : Int32) &&& 31)).toInt8.toInt32)), (.int (((x2.toUInt32.toUInt16.toUInt32.toInt32) >>> ((0 : Int32) &&& 31)).toInt8.toInt32)), (.int (((x2.toUInt32.toUInt16.toUInt32.toInt32) >>> ((8 : Int32) &&& 31)).toInt8.toInt32))] (.int 0)
theorem own_rm5u3 (l : Launch) (Z : State) (a0 : Array Value) (hw : own_W a0 Z) (rr : Addr) (arr : Addr) (ka : ClassId) (y0 y1 y2 y3 y4 y5 y6 y7 st x0 x1 x2 : Int32) (cs : Int32) (fm : Value) (u8 : Addr) (h0 : Heap) (n0 : Nat) (Z0 : n0 ≤ h0.size) (O0 : Old Z n0 h0) (E_r : Exa Z h0 rr "com/example/dyadloom/dyadloom/core/TripletReader$Triplet") (F_b : Fld Z h0 rr "com/example/dyadloom/dyadloom/core/TripletReader$Triplet" "bytes" "[B" (.ref arr)) (F_s : Fld Z h0 rr "com/example/dyadloom/dyadloom/core/TripletReader$Triplet" "columnStart" "I" (.int st)) (F_e : Fld Z h0 rr "com/example/dyadloom/dyadloom/core/TripletReader$Triplet" "columnEnd" "I" (.int (st + (3 : Int32)))) (V_a : Arv Z h0 arr ka .byte (8 : Int32) [(.int y0), (.int y1), (.int y2), (.int y3), (.int y4), (.int y5), (.int y6), (.int y7)] (.int 0)) (hYX : own_YX y0 y1 y2 y3 y4 y5 y6 y7 st x0 x1 x2) (hm0 : x0 < (0 : Int32)) (hle : own_lead x0) (hco : own_cont x1) (ha2 : ¬ x2 < (0 : Int32)) (hla : ¬ own_lat x0) (HB : own_BB Z cs fm u8) :
  own_MF l Z own_y23 (Jvm.Cond.code own_y23 prog_34_method_3_code 1 (some (.object "java/lang/String"))) [] own_r5u3 #[(.ref rr)] h0 (own_Q5u3 Z rr arr ka y0 y1 y2 y3 y4 y5 y6 y7 st x0 x1 x2 cs fm u8 h0 n0) := by
 refine own_open (plainFor_of_name own_pn7) hisR (Ls := #[vr rr]) ?_
 intro p e s m below meth c s₁ Bd hZ hx hby hml hown X0 e0
 obtain ⟨-, -, -, -, -, -, -, S_u8, -, E_u8⟩ := id HB
 have N0 := Fr.nil n0
 obtain ⟨ho, hx0, hx1, hx2⟩ := id hYX
 obtain ⟨T1, h1, X1, e1, E1, A1, D1, U1, st1⟩ := newO X0 hx hZ hown (own_w hw 35 rfl) (own_w hw 36 rfl) (own_w hw 37 rfl) e0 (g := (mkF m 0 #[vr rr] [])) rfl (hb hby own_d5_0) (by decide) (by decide)
 obtain ⟨b1, g1⟩ : ∃ z, z = h0.size := ⟨_, rfl⟩
 rw [← g1] at A1 D1 U1 st1
 have sz1 : h0.size ≤ b1 := Nat.le_of_eq g1.symm
 have ne_rr_b1 : rr ≠ b1 := Nat.ne_of_lt (Nat.lt_of_lt_of_le E_r.lt sz1)
 have ne_arr_b1 : arr ≠ b1 := Nat.ne_of_lt (Nat.lt_of_lt_of_le V_a.lt sz1)
 have f2 := E_u8.ext O0.2
 have ne_u8_b1 : u8 ≠ b1 := Nat.ne_of_lt (Nat.lt_of_lt_of_le f2.lt sz1)
 have g_b1 : n0 ≤ b1 := Nat.le_trans Z0 sz1
 have hz_b1 : h0.size ≤ b1 := Nat.le_trans (Keep.refl h0 []).1 sz1
 have K1 : Keep h0 h1 [] := (Keep.refl h0 []).ext E1
 have Z1 : n0 ≤ h1.size := Nat.le_trans Z0 E1.1
 have O1 := O0.ext E1
 refine own_st (T' := T1) (g' := (mkF m 3 #[vr rr] [(.ref b1)])) st1 ?_
 refine own_st (T' := T1) (g' := (mkF m 5 #[vr rr] [(.ref rr), (.ref b1), (.ref b1)])) (fun t k => ?_) ?_
 ·refine XS.dup X1.here hx rfl (hb hby own_d5_3) rfl rfl ?_
  refine XS.aloadN X1.here hx rfl (hb hby own_d5_4) rfl rfl ?_
  exact k
 have f3 := F_b.ext E1
 obtain ⟨T4, X4, e4, st4⟩ := getF X1 hx hZ hown (host := "") (Or.inl (own_w hw 38 rfl)) Via.refl e1 f3 (g := (mkF m 5 #[vr rr] [(.ref rr), (.ref b1), (.ref b1)])) rfl rfl (hb hby own_d5_5)
 refine own_st (T' := T4) (g' := (mkF m 8 #[vr rr] [(.ref arr), (.ref b1), (.ref b1)])) st4 ?_
 refine own_st (T' := T4) (g' := (mkF m 9 #[vr rr] [(.ref rr), (.ref arr), (.ref b1), (.ref b1)])) (fun t k => ?_) ?_
 ·refine XS.aloadN X4.here hx rfl (hb hby own_d5_8) rfl rfl ?_
  exact k
 have f5 := F_s.ext E1
 obtain ⟨T6, X6, e6, st6⟩ := getF X4 hx hZ hown (host := "") (Or.inl (own_w hw 39 rfl)) Via.refl e4 f5 (g := (mkF m 9 #[vr rr] [(.ref rr), (.ref arr), (.ref b1), (.ref b1)])) rfl rfl (hb hby own_d5_9)
 refine own_st (T' := T6) (g' := (mkF m 12 #[vr rr] [(.int st), (.ref arr), (.ref b1), (.ref b1)])) st6 ?_
 refine own_st (T' := T6) (g' := (mkF m 13 #[vr rr] [(.ref rr), (.int st), (.ref arr), (.ref b1), (.ref b1)])) (fun t k => ?_) ?_
 ·refine XS.aloadN X6.here hx rfl (hb hby own_d5_12) rfl rfl ?_
  exact k
 have f7 := F_e.ext E1
 obtain ⟨T8, X8, e8, st8⟩ := getF X6 hx hZ hown (host := "") (Or.inl (own_w hw 40 rfl)) Via.refl e6 f7 (g := (mkF m 13 #[vr rr] [(.ref rr), (.int st), (.ref arr), (.ref b1), (.ref b1)])) rfl rfl (hb hby own_d5_13)
 refine own_st (T' := T8) (g' := (mkF m 16 #[vr rr] [(.int (st + (3 : Int32))), (.int st), (.ref arr), (.ref b1), (.ref b1)])) st8 ?_
 refine own_st (T' := T8) (g' := (mkF m 17 #[vr rr] [(.ref rr), (.int (st + (3 : Int32))), (.int st), (.ref arr), (.ref b1), (.ref b1)])) (fun t k => ?_) ?_
 ·refine XS.aloadN X8.here hx rfl (hb hby own_d5_16) rfl rfl ?_
  exact k
 obtain ⟨T9, X9, e9, st9⟩ := getF X8 hx hZ hown (host := "") (Or.inl (own_w hw 39 rfl)) Via.refl e8 f5 (g := (mkF m 17 #[vr rr] [(.ref rr), (.int (st + (3 : Int32))), (.int st), (.ref arr), (.ref b1), (.ref b1)])) rfl rfl (hb hby own_d5_17)
 refine own_st (T' := T9) (g' := (mkF m 20 #[vr rr] [(.int st), (.int (st + (3 : Int32))), (.int st), (.ref arr), (.ref b1), (.ref b1)])) st9 ?_
 refine own_st (T' := T9) (g' := (mkF m 21 #[vr rr] [(.int ((st + (3 : Int32)) - st)), (.int st), (.ref arr), (.ref b1), (.ref b1)])) (fun t k => ?_) ?_
 ·refine XS.isub X9.here hx rfl (hb hby own_d5_20) rfl ?_
  exact k
 rw [show ((st + (3 : Int32)) - st) = (3 : Int32) from (by rcases ho with rfl|rfl|rfl|rfl<;>decide)]
 have f10 := S_u8.ext O1.2
 obtain ⟨T11, X11, e11, st11⟩ := getS2 X9 hx hZ hown (host := "") (Or.inl (own_w hw 41 rfl)) Via.refl e9 f10 (g := (mkF m 21 #[vr rr] [(.int 3), (.int st), (.ref arr), (.ref b1), (.ref b1)])) rfl (hb hby own_d5_21)
 refine own_st (T' := T11) (g' := (mkF m 24 #[vr rr] [(.ref u8), (.int 3), (.int st), (.ref arr), (.ref b1), (.ref b1)])) st11 ?_
 have f12 := V_a.ext E1
 obtain ⟨_, _, ⟨T13, L13, c13, n13⟩, -, X13, ⟨Lc13, hQ13, l13, y13, z13⟩, st13⟩ := X11.specialBack hx (y := own_y22) rfl hown (om hZ hw 43 rfl) (om hZ hw 44 rfl) (om hZ hw 45 rfl) (by decide) (backOf (W := 1) (own_rm6u3 l Z a0 hw b1 arr ka y0 y1 y2 y3 y4 y5 y6 y7 st x0 x1 x2 cs fm u8 h1 n0 Z1 O1 A1 (D1 (Or.inr (own_w hw 88 rfl)) (ty := (.array .byte)) (by decide) : Fld Z h1 b1 "java/lang/String" "value" "[B" .null) (D1 (Or.inr (own_w hw 90 rfl)) (ty := .byte) (by decide) : Fld Z h1 b1 "java/lang/String" "coder" "B" (.int 0)) g_b1 f12 ⟨ho, hx0, hx1, hx2⟩ (Ne.symm ne_arr_b1) hm0 hle hco ha2 hla HB) hZ (own_w hw 45 rfl) (own_w hw 37 rfl) (by decide) (by decide)) (g := (mkF m 24 #[vr rr] [(.ref u8), (.int 3), (.int st), (.ref arr), (.ref b1), (.ref b1)])) rfl (by rw [hml]; rfl) (Steps.refl _) (a := b1) (argsL := [(.ref arr), (.int st), (.int 3), (.ref u8)]) (rest := [(.ref b1)]) (lenOf own_pd19 rfl) rfl (by show 2 * 0 + _ ≤ _; exact Nat.le_of_eq rfl) (hb hby own_d5_24) (fun _ _ => ⟨rfl, e11, (by decide : 1 + 3 ≤ _), (by decide : 4 + 13 ≤ _)⟩)
 dsimp only [Pt.U, Pt.locs, Pt.cells, Pt.slots] at X13 l13 y13 z13 st13 hQ13
 subst l13 y13 z13
 obtain ⟨h13, e13⟩ : ∃ z, T13.heap = z := ⟨_, rfl⟩
 rw [e13] at hQ13
 obtain ⟨t13, k13, rfl, N13q, Kc13, g13, hz13, Fv13, Fo13, Vc13⟩ := hQ13
 have N13 := Fr.app N0 N13q
 have f14 := E_r.ext E1
 have ne_rr_t13 : rr ≠ t13 := Nat.ne_of_lt (Nat.lt_of_lt_of_le f14.lt hz13)
 have ne_arr_t13 : arr ≠ t13 := Nat.ne_of_lt (Nat.lt_of_lt_of_le f12.lt hz13)
 have f15 := E_u8.ext O1.2
 have ne_u8_t13 : u8 ≠ t13 := Nat.ne_of_lt (Nat.lt_of_lt_of_le f15.lt hz13)
 have ne_b1_t13 : b1 ≠ t13 := Nat.ne_of_lt (Nat.lt_of_lt_of_le A1.lt hz13)
 have hwt13 : h0.size ≤ t13 := Nat.le_trans K1.1 hz13
 have K13 : Keep h0 h13 [] := K1.trans Kc13 (allS (Or.inr hz_b1) all0)
 have Z13 : n0 ≤ h13.size := Nat.le_trans Z1 Kc13.1
 have O13 := O1.keep Kc13 (allS g_b1 all0)
 refine own_tr (T' := T13) (g' := (mkF m 27 #[vr rr] [(.ref b1)])) st13 ?_
 have f16 := A1.keep Kc13
 exact own_retA X13 hx Bd rfl rfl (hb hby own_d5_27) e13 (⟨b1, t13, k13, rfl, N13, K13, g_b1, hz_b1, f16, Fv13, Fo13, Vc13⟩) (by decide) (by decide)
def own_r19_0_1 : Room := { frames := 0, cells := 0, slots := 0, locals := 0 }
theorem own_rm19_0_1 (l : Launch) (Z : State) (a0 : Array Value) (hw : own_W a0 Z) (r arr : Addr) (ka : ClassId) (x0 : Int32) (cs : Int32) (fm : Value) (u8 : Addr) (h0 : Heap) (n0 : Nat) (Z0 : n0 ≤ h0.size) (O0 : Old Z n0 h0) (E_r : Exa Z h0 r "java/lang/String") (F_v : Fld Z h0 r "java/lang/String" "value" "[B" (.ref arr)) (F_c : Fld Z h0 r "java/lang/String" "coder" "B" (.int 0)) (V_a : Arv Z h0 arr ka .byte (1 : Int32) [(.int x0)] (.int 0)) (HB : own_BB Z cs fm u8) :
  own_MF l Z own_y24 (Jvm.Cond.code own_y24 jdk_42_method_154_code 1 (some .boolean)) [] own_r19_0_1 #[(.ref r)] h0 (own_P h0 n0 (.int 1)) := by
 refine own_open (plainFor_of_name own_pn1) hisR (Ls := #[vr r]) ?_
 intro p e s m below meth c s₁ Bd hZ hx hby hml hown X0 e0
 obtain ⟨hcs, -, S_cs, -, -, -, -, -, -, -⟩ := id HB
 have N0 := Fr.nil n0
 have f1 := S_cs.ext O0.2
 obtain ⟨T2, X2, e2, st2⟩ := getS2 X0 hx hZ hown (host := "") (Or.inl (own_w hw 67 rfl)) Via.refl e0 f1 (g := (mkF m 0 #[vr r] [])) rfl (hb hby own_d19_0)
 refine own_st (T' := T2) (g' := (mkF m 3 #[vr r] [(.int cs)])) st2 ?_
 refine own_st (T' := T2) (g' := (mkF m 7 #[vr r] [(.ref r)])) (fun t k => ?_) ?_
 ·refine XS.ifNo X2.here hx rfl (hb hby own_d19_3) rfl ((if0 _ _).trans (feq hcs).1) ?_
  refine XS.aloadN X2.here hx rfl (hb hby own_d19_6) rfl rfl ?_
  exact k
 obtain ⟨T3, X3, e3, st3⟩ := getF X2 hx hZ hown (host := "") (Or.inl (own_w hw 89 rfl)) Via.refl e2 F_c (g := (mkF m 7 #[vr r] [(.ref r)])) rfl rfl (hb hby own_d19_7)
 refine own_st (T' := T3) (g' := (mkF m 10 #[vr r] [(.int 0)])) st3 ?_
 refine own_st (T' := T3) (g' := (mkF m 18 #[vr r] [(.int 1)])) (fun t k => ?_) ?_
 ·refine XS.ifNo X3.here hx rfl (hb hby own_d19_10) rfl ((if0 _ _).trans (teq (rfl : (0 : Int32) = (0 : Int32))).2) ?_
  refine XS.iconst X3.here hx rfl (hb hby own_d19_13) ?_
  refine XS.goto X3.here hx rfl (pc0 := 14) (pc' := 18) rfl (hb hby own_d19_14) (by decide) (by decide) ?_
  exact k
 exact own_retN X3 hx Bd (t := .boolean) (by simp) rfl (hb hby own_d19_18) e3 (⟨rfl, N0, rfl⟩) (by decide) (by decide)
def own_r19_0_2 : Room := { frames := 0, cells := 0, slots := 0, locals := 0 }
theorem own_rm19_0_2 (l : Launch) (Z : State) (a0 : Array Value) (hw : own_W a0 Z) (r arr : Addr) (ka : ClassId) (x0 x1 : Int32) (cs : Int32) (fm : Value) (u8 : Addr) (h0 : Heap) (n0 : Nat) (Z0 : n0 ≤ h0.size) (O0 : Old Z n0 h0) (E_r : Exa Z h0 r "java/lang/String") (F_v : Fld Z h0 r "java/lang/String" "value" "[B" (.ref arr)) (F_c : Fld Z h0 r "java/lang/String" "coder" "B" (.int 0)) (V_a : Arv Z h0 arr ka .byte (2 : Int32) [(.int x0), (.int x1)] (.int 0)) (HB : own_BB Z cs fm u8) :
  own_MF l Z own_y24 (Jvm.Cond.code own_y24 jdk_42_method_154_code 1 (some .boolean)) [] own_r19_0_2 #[(.ref r)] h0 (own_P h0 n0 (.int 1)) := by
 refine own_open (plainFor_of_name own_pn1) hisR (Ls := #[vr r]) ?_
 intro p e s m below meth c s₁ Bd hZ hx hby hml hown X0 e0
 obtain ⟨hcs, -, S_cs, -, -, -, -, -, -, -⟩ := id HB
 have N0 := Fr.nil n0
 have f1 := S_cs.ext O0.2
 obtain ⟨T2, X2, e2, st2⟩ := getS2 X0 hx hZ hown (host := "") (Or.inl (own_w hw 67 rfl)) Via.refl e0 f1 (g := (mkF m 0 #[vr r] [])) rfl (hb hby own_d19_0)
 refine own_st (T' := T2) (g' := (mkF m 3 #[vr r] [(.int cs)])) st2 ?_
 refine own_st (T' := T2) (g' := (mkF m 7 #[vr r] [(.ref r)])) (fun t k => ?_) ?_
 ·refine XS.ifNo X2.here hx rfl (hb hby own_d19_3) rfl ((if0 _ _).trans (feq hcs).1) ?_
  refine XS.aloadN X2.here hx rfl (hb hby own_d19_6) rfl rfl ?_
  exact k
 obtain ⟨T3, X3, e3, st3⟩ := getF X2 hx hZ hown (host := "") (Or.inl (own_w hw 89 rfl)) Via.refl e2 F_c (g := (mkF m 7 #[vr r] [(.ref r)])) rfl rfl (hb hby own_d19_7)
 refine own_st (T' := T3) (g' := (mkF m 10 #[vr r] [(.int 0)])) st3 ?_
 refine own_st (T' := T3) (g' := (mkF m 18 #[vr r] [(.int 1)])) (fun t k => ?_) ?_
 ·refine XS.ifNo X3.here hx rfl (hb hby own_d19_10) rfl ((if0 _ _).trans (teq (rfl : (0 : Int32) = (0 : Int32))).2) ?_
  refine XS.iconst X3.here hx rfl (hb hby own_d19_13) ?_
  refine XS.goto X3.here hx rfl (pc0 := 14) (pc' := 18) rfl (hb hby own_d19_14) (by decide) (by decide) ?_
  exact k
 exact own_retN X3 hx Bd (t := .boolean) (by simp) rfl (hb hby own_d19_18) e3 (⟨rfl, N0, rfl⟩) (by decide) (by decide)
def own_r19_0_3 : Room := { frames := 0, cells := 0, slots := 0, locals := 0 }
theorem own_rm19_0_3 (l : Launch) (Z : State) (a0 : Array Value) (hw : own_W a0 Z) (r arr : Addr) (ka : ClassId) (x0 x1 x2 : Int32) (cs : Int32) (fm : Value) (u8 : Addr) (h0 : Heap) (n0 : Nat) (Z0 : n0 ≤ h0.size) (O0 : Old Z n0 h0) (E_r : Exa Z h0 r "java/lang/String") (F_v : Fld Z h0 r "java/lang/String" "value" "[B" (.ref arr)) (F_c : Fld Z h0 r "java/lang/String" "coder" "B" (.int 0)) (V_a : Arv Z h0 arr ka .byte (3 : Int32) [(.int x0), (.int x1), (.int x2)] (.int 0)) (HB : own_BB Z cs fm u8) :
  own_MF l Z own_y24 (Jvm.Cond.code own_y24 jdk_42_method_154_code 1 (some .boolean)) [] own_r19_0_3 #[(.ref r)] h0 (own_P h0 n0 (.int 1)) := by
 refine own_open (plainFor_of_name own_pn1) hisR (Ls := #[vr r]) ?_
 intro p e s m below meth c s₁ Bd hZ hx hby hml hown X0 e0
 obtain ⟨hcs, -, S_cs, -, -, -, -, -, -, -⟩ := id HB
 have N0 := Fr.nil n0
 have f1 := S_cs.ext O0.2
 obtain ⟨T2, X2, e2, st2⟩ := getS2 X0 hx hZ hown (host := "") (Or.inl (own_w hw 67 rfl)) Via.refl e0 f1 (g := (mkF m 0 #[vr r] [])) rfl (hb hby own_d19_0)
 refine own_st (T' := T2) (g' := (mkF m 3 #[vr r] [(.int cs)])) st2 ?_
 refine own_st (T' := T2) (g' := (mkF m 7 #[vr r] [(.ref r)])) (fun t k => ?_) ?_
 ·refine XS.ifNo X2.here hx rfl (hb hby own_d19_3) rfl ((if0 _ _).trans (feq hcs).1) ?_
  refine XS.aloadN X2.here hx rfl (hb hby own_d19_6) rfl rfl ?_
  exact k
 obtain ⟨T3, X3, e3, st3⟩ := getF X2 hx hZ hown (host := "") (Or.inl (own_w hw 89 rfl)) Via.refl e2 F_c (g := (mkF m 7 #[vr r] [(.ref r)])) rfl rfl (hb hby own_d19_7)
 refine own_st (T' := T3) (g' := (mkF m 10 #[vr r] [(.int 0)])) st3 ?_
 refine own_st (T' := T3) (g' := (mkF m 18 #[vr r] [(.int 1)])) (fun t k => ?_) ?_
 ·refine XS.ifNo X3.here hx rfl (hb hby own_d19_10) rfl ((if0 _ _).trans (teq (rfl : (0 : Int32) = (0 : Int32))).2) ?_
  refine XS.iconst X3.here hx rfl (hb hby own_d19_13) ?_
  refine XS.goto X3.here hx rfl (pc0 := 14) (pc' := 18) rfl (hb hby own_d19_14) (by decide) (by decide) ?_
  exact k
 exact own_retN X3 hx Bd (t := .boolean) (by simp) rfl (hb hby own_d19_18) e3 (⟨rfl, N0, rfl⟩) (by decide) (by decide)
def own_r19_1_2 : Room := { frames := 0, cells := 0, slots := 0, locals := 0 }
theorem own_rm19_1_2 (l : Launch) (Z : State) (a0 : Array Value) (hw : own_W a0 Z) (r arr : Addr) (ka : ClassId) (x0 x1 : Int32) (cs : Int32) (fm : Value) (u8 : Addr) (h0 : Heap) (n0 : Nat) (Z0 : n0 ≤ h0.size) (O0 : Old Z n0 h0) (E_r : Exa Z h0 r "java/lang/String") (F_v : Fld Z h0 r "java/lang/String" "value" "[B" (.ref arr)) (F_c : Fld Z h0 r "java/lang/String" "coder" "B" (.int 1)) (V_a : Arv Z h0 arr ka .byte (2 : Int32) [(.int x0), (.int x1)] (.int 0)) (HB : own_BB Z cs fm u8) :
  own_MF l Z own_y24 (Jvm.Cond.code own_y24 jdk_42_method_154_code 1 (some .boolean)) [] own_r19_1_2 #[(.ref r)] h0 (own_P h0 n0 (.int 0)) := by
 refine own_open (plainFor_of_name own_pn1) hisR (Ls := #[vr r]) ?_
 intro p e s m below meth c s₁ Bd hZ hx hby hml hown X0 e0
 obtain ⟨hcs, -, S_cs, -, -, -, -, -, -, -⟩ := id HB
 have N0 := Fr.nil n0
 have f1 := S_cs.ext O0.2
 obtain ⟨T2, X2, e2, st2⟩ := getS2 X0 hx hZ hown (host := "") (Or.inl (own_w hw 67 rfl)) Via.refl e0 f1 (g := (mkF m 0 #[vr r] [])) rfl (hb hby own_d19_0)
 refine own_st (T' := T2) (g' := (mkF m 3 #[vr r] [(.int cs)])) st2 ?_
 refine own_st (T' := T2) (g' := (mkF m 7 #[vr r] [(.ref r)])) (fun t k => ?_) ?_
 ·refine XS.ifNo X2.here hx rfl (hb hby own_d19_3) rfl ((if0 _ _).trans (feq hcs).1) ?_
  refine XS.aloadN X2.here hx rfl (hb hby own_d19_6) rfl rfl ?_
  exact k
 obtain ⟨T3, X3, e3, st3⟩ := getF X2 hx hZ hown (host := "") (Or.inl (own_w hw 89 rfl)) Via.refl e2 F_c (g := (mkF m 7 #[vr r] [(.ref r)])) rfl rfl (hb hby own_d19_7)
 refine own_st (T' := T3) (g' := (mkF m 10 #[vr r] [(.int 1)])) st3 ?_
 refine own_st (T' := T3) (g' := (mkF m 18 #[vr r] [(.int 0)])) (fun t k => ?_) ?_
 ·refine XS.ifYes X3.here hx rfl (pc0 := 10) (pc' := 17) rfl (hb hby own_d19_10) rfl ((if0 _ _).trans (feq (by decide : ¬ ((1 : Int32) = (0 : Int32)))).2) (by decide) (by decide) ?_
  refine XS.iconst X3.here hx rfl (hb hby own_d19_17) ?_
  exact k
 exact own_retN X3 hx Bd (t := .boolean) (by simp) rfl (hb hby own_d19_18) e3 (⟨rfl, N0, rfl⟩) (by decide) (by decide)
def own_r19_1_4 : Room := { frames := 0, cells := 0, slots := 0, locals := 0 }
theorem own_rm19_1_4 (l : Launch) (Z : State) (a0 : Array Value) (hw : own_W a0 Z) (r arr : Addr) (ka : ClassId) (x0 x1 x2 x3 : Int32) (cs : Int32) (fm : Value) (u8 : Addr) (h0 : Heap) (n0 : Nat) (Z0 : n0 ≤ h0.size) (O0 : Old Z n0 h0) (E_r : Exa Z h0 r "java/lang/String") (F_v : Fld Z h0 r "java/lang/String" "value" "[B" (.ref arr)) (F_c : Fld Z h0 r "java/lang/String" "coder" "B" (.int 1)) (V_a : Arv Z h0 arr ka .byte (4 : Int32) [(.int x0), (.int x1), (.int x2), (.int x3)] (.int 0)) (HB : own_BB Z cs fm u8) :
  own_MF l Z own_y24 (Jvm.Cond.code own_y24 jdk_42_method_154_code 1 (some .boolean)) [] own_r19_1_4 #[(.ref r)] h0 (own_P h0 n0 (.int 0)) := by
 refine own_open (plainFor_of_name own_pn1) hisR (Ls := #[vr r]) ?_
 intro p e s m below meth c s₁ Bd hZ hx hby hml hown X0 e0
 obtain ⟨hcs, -, S_cs, -, -, -, -, -, -, -⟩ := id HB
 have N0 := Fr.nil n0
 have f1 := S_cs.ext O0.2
 obtain ⟨T2, X2, e2, st2⟩ := getS2 X0 hx hZ hown (host := "") (Or.inl (own_w hw 67 rfl)) Via.refl e0 f1 (g := (mkF m 0 #[vr r] [])) rfl (hb hby own_d19_0)
 refine own_st (T' := T2) (g' := (mkF m 3 #[vr r] [(.int cs)])) st2 ?_
 refine own_st (T' := T2) (g' := (mkF m 7 #[vr r] [(.ref r)])) (fun t k => ?_) ?_
 ·refine XS.ifNo X2.here hx rfl (hb hby own_d19_3) rfl ((if0 _ _).trans (feq hcs).1) ?_
  refine XS.aloadN X2.here hx rfl (hb hby own_d19_6) rfl rfl ?_
  exact k
 obtain ⟨T3, X3, e3, st3⟩ := getF X2 hx hZ hown (host := "") (Or.inl (own_w hw 89 rfl)) Via.refl e2 F_c (g := (mkF m 7 #[vr r] [(.ref r)])) rfl rfl (hb hby own_d19_7)
 refine own_st (T' := T3) (g' := (mkF m 10 #[vr r] [(.int 1)])) st3 ?_
 refine own_st (T' := T3) (g' := (mkF m 18 #[vr r] [(.int 0)])) (fun t k => ?_) ?_
 ·refine XS.ifYes X3.here hx rfl (pc0 := 10) (pc' := 17) rfl (hb hby own_d19_10) rfl ((if0 _ _).trans (feq (by decide : ¬ ((1 : Int32) = (0 : Int32)))).2) (by decide) (by decide) ?_
  refine XS.iconst X3.here hx rfl (hb hby own_d19_17) ?_
  exact k
 exact own_retN X3 hx Bd (t := .boolean) (by simp) rfl (hb hby own_d19_18) e3 (⟨rfl, N0, rfl⟩) (by decide) (by decide)
def own_r16_0_1 : Room := { frames := 0, cells := 0, slots := 0, locals := 0 }
theorem own_rm16_0_1 (l : Launch) (Z : State) (a0 : Array Value) (hw : own_W a0 Z) (r arr : Addr) (ka : ClassId) (x0 : Int32) (cs : Int32) (fm : Value) (u8 : Addr) (h0 : Heap) (n0 : Nat) (Z0 : n0 ≤ h0.size) (O0 : Old Z n0 h0) (E_r : Exa Z h0 r "java/lang/String") (F_v : Fld Z h0 r "java/lang/String" "value" "[B" (.ref arr)) (F_c : Fld Z h0 r "java/lang/String" "coder" "B" (.int 0)) (V_a : Arv Z h0 arr ka .byte (1 : Int32) [(.int x0)] (.int 0)) (HB : own_BB Z cs fm u8) :
  own_MF l Z own_y25 (Jvm.Cond.code own_y25 jdk_42_method_152_code 1 (some .byte)) [] own_r16_0_1 #[(.ref r)] h0 (own_P h0 n0 (.int 0)) := by
 refine own_open (plainFor_of_name own_pn1) hisR (Ls := #[vr r]) ?_
 intro p e s m below meth c s₁ Bd hZ hx hby hml hown X0 e0
 obtain ⟨hcs, -, S_cs, -, -, -, -, -, -, -⟩ := id HB
 have N0 := Fr.nil n0
 have f1 := S_cs.ext O0.2
 obtain ⟨T2, X2, e2, st2⟩ := getS2 X0 hx hZ hown (host := "") (Or.inl (own_w hw 67 rfl)) Via.refl e0 f1 (g := (mkF m 0 #[vr r] [])) rfl (hb hby own_d16_0)
 refine own_st (T' := T2) (g' := (mkF m 3 #[vr r] [(.int cs)])) st2 ?_
 refine own_st (T' := T2) (g' := (mkF m 7 #[vr r] [(.ref r)])) (fun t k => ?_) ?_
 ·refine XS.ifNo X2.here hx rfl (hb hby own_d16_3) rfl ((if0 _ _).trans (feq hcs).1) ?_
  refine XS.aloadN X2.here hx rfl (hb hby own_d16_6) rfl rfl ?_
  exact k
 obtain ⟨T3, X3, e3, st3⟩ := getF X2 hx hZ hown (host := "") (Or.inl (own_w hw 89 rfl)) Via.refl e2 F_c (g := (mkF m 7 #[vr r] [(.ref r)])) rfl rfl (hb hby own_d16_7)
 refine own_st (T' := T3) (g' := (mkF m 10 #[vr r] [(.int 0)])) st3 ?_
 refine own_st (T' := T3) (g' := (mkF m 14 #[vr r] [(.int 0)])) (fun t k => ?_) ?_
 ·refine XS.goto X3.here hx rfl (pc0 := 10) (pc' := 14) rfl (hb hby own_d16_10) (by decide) (by decide) ?_
  exact k
 exact own_retN X3 hx Bd (t := .byte) (by simp) rfl (hb hby own_d16_14) e3 (⟨rfl, N0, rfl⟩) (by decide) (by decide)
def own_r16_0_2 : Room := { frames := 0, cells := 0, slots := 0, locals := 0 }
theorem own_rm16_0_2 (l : Launch) (Z : State) (a0 : Array Value) (hw : own_W a0 Z) (r arr : Addr) (ka : ClassId) (x0 x1 : Int32) (cs : Int32) (fm : Value) (u8 : Addr) (h0 : Heap) (n0 : Nat) (Z0 : n0 ≤ h0.size) (O0 : Old Z n0 h0) (E_r : Exa Z h0 r "java/lang/String") (F_v : Fld Z h0 r "java/lang/String" "value" "[B" (.ref arr)) (F_c : Fld Z h0 r "java/lang/String" "coder" "B" (.int 0)) (V_a : Arv Z h0 arr ka .byte (2 : Int32) [(.int x0), (.int x1)] (.int 0)) (HB : own_BB Z cs fm u8) :
  own_MF l Z own_y25 (Jvm.Cond.code own_y25 jdk_42_method_152_code 1 (some .byte)) [] own_r16_0_2 #[(.ref r)] h0 (own_P h0 n0 (.int 0)) := by
 refine own_open (plainFor_of_name own_pn1) hisR (Ls := #[vr r]) ?_
 intro p e s m below meth c s₁ Bd hZ hx hby hml hown X0 e0
 obtain ⟨hcs, -, S_cs, -, -, -, -, -, -, -⟩ := id HB
 have N0 := Fr.nil n0
 have f1 := S_cs.ext O0.2
 obtain ⟨T2, X2, e2, st2⟩ := getS2 X0 hx hZ hown (host := "") (Or.inl (own_w hw 67 rfl)) Via.refl e0 f1 (g := (mkF m 0 #[vr r] [])) rfl (hb hby own_d16_0)
 refine own_st (T' := T2) (g' := (mkF m 3 #[vr r] [(.int cs)])) st2 ?_
 refine own_st (T' := T2) (g' := (mkF m 7 #[vr r] [(.ref r)])) (fun t k => ?_) ?_
 ·refine XS.ifNo X2.here hx rfl (hb hby own_d16_3) rfl ((if0 _ _).trans (feq hcs).1) ?_
  refine XS.aloadN X2.here hx rfl (hb hby own_d16_6) rfl rfl ?_
  exact k
 obtain ⟨T3, X3, e3, st3⟩ := getF X2 hx hZ hown (host := "") (Or.inl (own_w hw 89 rfl)) Via.refl e2 F_c (g := (mkF m 7 #[vr r] [(.ref r)])) rfl rfl (hb hby own_d16_7)
 refine own_st (T' := T3) (g' := (mkF m 10 #[vr r] [(.int 0)])) st3 ?_
 refine own_st (T' := T3) (g' := (mkF m 14 #[vr r] [(.int 0)])) (fun t k => ?_) ?_
 ·refine XS.goto X3.here hx rfl (pc0 := 10) (pc' := 14) rfl (hb hby own_d16_10) (by decide) (by decide) ?_
  exact k
 exact own_retN X3 hx Bd (t := .byte) (by simp) rfl (hb hby own_d16_14) e3 (⟨rfl, N0, rfl⟩) (by decide) (by decide)
def own_r16_0_3 : Room := { frames := 0, cells := 0, slots := 0, locals := 0 }
theorem own_rm16_0_3 (l : Launch) (Z : State) (a0 : Array Value) (hw : own_W a0 Z) (r arr : Addr) (ka : ClassId) (x0 x1 x2 : Int32) (cs : Int32) (fm : Value) (u8 : Addr) (h0 : Heap) (n0 : Nat) (Z0 : n0 ≤ h0.size) (O0 : Old Z n0 h0) (E_r : Exa Z h0 r "java/lang/String") (F_v : Fld Z h0 r "java/lang/String" "value" "[B" (.ref arr)) (F_c : Fld Z h0 r "java/lang/String" "coder" "B" (.int 0)) (V_a : Arv Z h0 arr ka .byte (3 : Int32) [(.int x0), (.int x1), (.int x2)] (.int 0)) (HB : own_BB Z cs fm u8) :
  own_MF l Z own_y25 (Jvm.Cond.code own_y25 jdk_42_method_152_code 1 (some .byte)) [] own_r16_0_3 #[(.ref r)] h0 (own_P h0 n0 (.int 0)) := by
 refine own_open (plainFor_of_name own_pn1) hisR (Ls := #[vr r]) ?_
 intro p e s m below meth c s₁ Bd hZ hx hby hml hown X0 e0
 obtain ⟨hcs, -, S_cs, -, -, -, -, -, -, -⟩ := id HB
 have N0 := Fr.nil n0
 have f1 := S_cs.ext O0.2
 obtain ⟨T2, X2, e2, st2⟩ := getS2 X0 hx hZ hown (host := "") (Or.inl (own_w hw 67 rfl)) Via.refl e0 f1 (g := (mkF m 0 #[vr r] [])) rfl (hb hby own_d16_0)
 refine own_st (T' := T2) (g' := (mkF m 3 #[vr r] [(.int cs)])) st2 ?_
 refine own_st (T' := T2) (g' := (mkF m 7 #[vr r] [(.ref r)])) (fun t k => ?_) ?_
 ·refine XS.ifNo X2.here hx rfl (hb hby own_d16_3) rfl ((if0 _ _).trans (feq hcs).1) ?_
  refine XS.aloadN X2.here hx rfl (hb hby own_d16_6) rfl rfl ?_
  exact k
 obtain ⟨T3, X3, e3, st3⟩ := getF X2 hx hZ hown (host := "") (Or.inl (own_w hw 89 rfl)) Via.refl e2 F_c (g := (mkF m 7 #[vr r] [(.ref r)])) rfl rfl (hb hby own_d16_7)
 refine own_st (T' := T3) (g' := (mkF m 10 #[vr r] [(.int 0)])) st3 ?_
 refine own_st (T' := T3) (g' := (mkF m 14 #[vr r] [(.int 0)])) (fun t k => ?_) ?_
 ·refine XS.goto X3.here hx rfl (pc0 := 10) (pc' := 14) rfl (hb hby own_d16_10) (by decide) (by decide) ?_
  exact k
 exact own_retN X3 hx Bd (t := .byte) (by simp) rfl (hb hby own_d16_14) e3 (⟨rfl, N0, rfl⟩) (by decide) (by decide)
def own_r16_1_2 : Room := { frames := 0, cells := 0, slots := 0, locals := 0 }
theorem own_rm16_1_2 (l : Launch) (Z : State) (a0 : Array Value) (hw : own_W a0 Z) (r arr : Addr) (ka : ClassId) (x0 x1 : Int32) (cs : Int32) (fm : Value) (u8 : Addr) (h0 : Heap) (n0 : Nat) (Z0 : n0 ≤ h0.size) (O0 : Old Z n0 h0) (E_r : Exa Z h0 r "java/lang/String") (F_v : Fld Z h0 r "java/lang/String" "value" "[B" (.ref arr)) (F_c : Fld Z h0 r "java/lang/String" "coder" "B" (.int 1)) (V_a : Arv Z h0 arr ka .byte (2 : Int32) [(.int x0), (.int x1)] (.int 0)) (HB : own_BB Z cs fm u8) :
  own_MF l Z own_y25 (Jvm.Cond.code own_y25 jdk_42_method_152_code 1 (some .byte)) [] own_r16_1_2 #[(.ref r)] h0 (own_P h0 n0 (.int 1)) := by
 refine own_open (plainFor_of_name own_pn1) hisR (Ls := #[vr r]) ?_
 intro p e s m below meth c s₁ Bd hZ hx hby hml hown X0 e0
 obtain ⟨hcs, -, S_cs, -, -, -, -, -, -, -⟩ := id HB
 have N0 := Fr.nil n0
 have f1 := S_cs.ext O0.2
 obtain ⟨T2, X2, e2, st2⟩ := getS2 X0 hx hZ hown (host := "") (Or.inl (own_w hw 67 rfl)) Via.refl e0 f1 (g := (mkF m 0 #[vr r] [])) rfl (hb hby own_d16_0)
 refine own_st (T' := T2) (g' := (mkF m 3 #[vr r] [(.int cs)])) st2 ?_
 refine own_st (T' := T2) (g' := (mkF m 7 #[vr r] [(.ref r)])) (fun t k => ?_) ?_
 ·refine XS.ifNo X2.here hx rfl (hb hby own_d16_3) rfl ((if0 _ _).trans (feq hcs).1) ?_
  refine XS.aloadN X2.here hx rfl (hb hby own_d16_6) rfl rfl ?_
  exact k
 obtain ⟨T3, X3, e3, st3⟩ := getF X2 hx hZ hown (host := "") (Or.inl (own_w hw 89 rfl)) Via.refl e2 F_c (g := (mkF m 7 #[vr r] [(.ref r)])) rfl rfl (hb hby own_d16_7)
 refine own_st (T' := T3) (g' := (mkF m 10 #[vr r] [(.int 1)])) st3 ?_
 refine own_st (T' := T3) (g' := (mkF m 14 #[vr r] [(.int 1)])) (fun t k => ?_) ?_
 ·refine XS.goto X3.here hx rfl (pc0 := 10) (pc' := 14) rfl (hb hby own_d16_10) (by decide) (by decide) ?_
  exact k
 exact own_retN X3 hx Bd (t := .byte) (by simp) rfl (hb hby own_d16_14) e3 (⟨rfl, N0, rfl⟩) (by decide) (by decide)
def own_r16_1_4 : Room := { frames := 0, cells := 0, slots := 0, locals := 0 }
theorem own_rm16_1_4 (l : Launch) (Z : State) (a0 : Array Value) (hw : own_W a0 Z) (r arr : Addr) (ka : ClassId) (x0 x1 x2 x3 : Int32) (cs : Int32) (fm : Value) (u8 : Addr) (h0 : Heap) (n0 : Nat) (Z0 : n0 ≤ h0.size) (O0 : Old Z n0 h0) (E_r : Exa Z h0 r "java/lang/String") (F_v : Fld Z h0 r "java/lang/String" "value" "[B" (.ref arr)) (F_c : Fld Z h0 r "java/lang/String" "coder" "B" (.int 1)) (V_a : Arv Z h0 arr ka .byte (4 : Int32) [(.int x0), (.int x1), (.int x2), (.int x3)] (.int 0)) (HB : own_BB Z cs fm u8) :
  own_MF l Z own_y25 (Jvm.Cond.code own_y25 jdk_42_method_152_code 1 (some .byte)) [] own_r16_1_4 #[(.ref r)] h0 (own_P h0 n0 (.int 1)) := by
 refine own_open (plainFor_of_name own_pn1) hisR (Ls := #[vr r]) ?_
 intro p e s m below meth c s₁ Bd hZ hx hby hml hown X0 e0
 obtain ⟨hcs, -, S_cs, -, -, -, -, -, -, -⟩ := id HB
 have N0 := Fr.nil n0
 have f1 := S_cs.ext O0.2
 obtain ⟨T2, X2, e2, st2⟩ := getS2 X0 hx hZ hown (host := "") (Or.inl (own_w hw 67 rfl)) Via.refl e0 f1 (g := (mkF m 0 #[vr r] [])) rfl (hb hby own_d16_0)
 refine own_st (T' := T2) (g' := (mkF m 3 #[vr r] [(.int cs)])) st2 ?_
 refine own_st (T' := T2) (g' := (mkF m 7 #[vr r] [(.ref r)])) (fun t k => ?_) ?_
 ·refine XS.ifNo X2.here hx rfl (hb hby own_d16_3) rfl ((if0 _ _).trans (feq hcs).1) ?_
  refine XS.aloadN X2.here hx rfl (hb hby own_d16_6) rfl rfl ?_
  exact k
 obtain ⟨T3, X3, e3, st3⟩ := getF X2 hx hZ hown (host := "") (Or.inl (own_w hw 89 rfl)) Via.refl e2 F_c (g := (mkF m 7 #[vr r] [(.ref r)])) rfl rfl (hb hby own_d16_7)
 refine own_st (T' := T3) (g' := (mkF m 10 #[vr r] [(.int 1)])) st3 ?_
 refine own_st (T' := T3) (g' := (mkF m 14 #[vr r] [(.int 1)])) (fun t k => ?_) ?_
 ·refine XS.goto X3.here hx rfl (pc0 := 10) (pc' := 14) rfl (hb hby own_d16_10) (by decide) (by decide) ?_
  exact k
 exact own_retN X3 hx Bd (t := .byte) (by simp) rfl (hb hby own_d16_14) e3 (⟨rfl, N0, rfl⟩) (by decide) (by decide)
def own_r15_0_1 : Room := { frames := 1, cells := 0, slots := 0, locals := 13 }
theorem own_rm15_0_1 (l : Launch) (Z : State) (a0 : Array Value) (hw : own_W a0 Z) (r arr : Addr) (ka : ClassId) (x0 : Int32) (cs : Int32) (fm : Value) (u8 : Addr) (h0 : Heap) (n0 : Nat) (Z0 : n0 ≤ h0.size) (O0 : Old Z n0 h0) (E_r : Exa Z h0 r "java/lang/String") (F_v : Fld Z h0 r "java/lang/String" "value" "[B" (.ref arr)) (F_c : Fld Z h0 r "java/lang/String" "coder" "B" (.int 0)) (V_a : Arv Z h0 arr ka .byte (1 : Int32) [(.int x0)] (.int 0)) (HB : own_BB Z cs fm u8) :
  own_MF l Z own_y26 (Jvm.Cond.code own_y26 jdk_42_method_54_code 1 (some .int)) [] own_r15_0_1 #[(.ref r)] h0 (own_P h0 n0 (.int 1)) := by
 refine own_open (plainFor_of_name own_pn1) hisR (Ls := #[vr r]) ?_
 intro p e s m below meth c s₁ Bd hZ hx hby hml hown X0 e0
 have N0 := Fr.nil n0
 refine own_st (T' := s₁) (g' := (mkF m 1 #[vr r] [(.ref r)])) (fun t k => ?_) ?_
 ·refine XS.aloadN X0.here hx rfl (hb hby own_d15_0) rfl rfl ?_
  exact k
 obtain ⟨T1, X1, e1, st1⟩ := getF X0 hx hZ hown (host := "") (Or.inl (own_w hw 87 rfl)) Via.refl e0 F_v (g := (mkF m 1 #[vr r] [(.ref r)])) rfl rfl (hb hby own_d15_1)
 refine own_st (T' := T1) (g' := (mkF m 4 #[vr r] [(.ref arr)])) st1 ?_
 obtain ⟨cl2, Ar2, q2, S2, M2, H2, G2⟩ := id V_a
 refine own_st (T' := T1) (g' := (mkF m 6 #[vr r] [(.ref r), (.int 1)])) (fun t k => ?_) ?_
 ·refine X1.arraylength hx (by rw [e1]; exact Ar2.1) (State.isArrayOf_alike hZ.alike Ar2.2.1) (g := (mkF m 4 #[vr r] [(.ref arr)])) rfl rfl (hb hby own_d15_4) _ ?_
  rw [len_of S2 M2]
  refine XS.aloadN X1.here hx rfl (hb hby own_d15_5) rfl rfl ?_
  exact k
 obtain ⟨cq3, kq3, q3a, q3b, q3c⟩ := isOf hZ e1 E_r
 obtain ⟨_, _, ⟨T3, L3, c3, n3⟩, -, X3, ⟨Lc3, hQ3, l3, y3, z3⟩, st3⟩ := X1.virtualBack hx (y := own_y25) (z := own_y25) hown (om hZ hw 96 rfl) (om hZ hw 97 rfl) (notFace_of_selects (args := #[]) (om hZ hw 99 rfl)) (om hZ hw 99 rfl) (om hZ hw 98 rfl) (by decide) (backOf (W := 1) (own_rm16_0_1 l Z a0 hw r arr ka x0 cs fm u8 h0 n0 Z0 O0 E_r F_v F_c V_a HB) hZ (own_w hw 100 rfl) (own_w hw 37 rfl) (by decide) (by decide)) q3a q3c (g := (mkF m 6 #[vr r] [(.ref r), (.int 1)])) rfl (by rw [hml]; rfl) (Steps.refl _) (argsL := []) (rest := [(.int 1)]) (lenOf own_pd20 rfl) rfl (by show 2 * 0 + _ ≤ _; exact Nat.le_of_eq rfl) (hb hby own_d15_6) (fun _ _ => ⟨rfl, e1, (by decide : 0 + 0 ≤ _), (by decide : 0 + 0 ≤ _)⟩)
 dsimp only [Pt.U, Pt.locs, Pt.cells, Pt.slots] at X3 l3 y3 z3 st3 hQ3
 subst l3 y3 z3
 obtain ⟨rfl, N3q, e3⟩ := hQ3
 have N3 := Fr.app N0 N3q
 refine own_tr (T' := T3) (g' := (mkF m 9 #[vr r] [(.int 0), (.int 1)])) st3 ?_
 refine own_st (T' := T3) (g' := (mkF m 10 #[vr r] [(.int 1)])) (fun t k => ?_) ?_
 ·refine XS.ishr X3.here hx rfl (hb hby own_d15_9) rfl ?_
  exact k
 exact own_retI X3 hx Bd (hb hby own_d15_10) e3 (⟨rfl, N3, rfl⟩) (by decide) (by decide)
def own_r15_0_2 : Room := { frames := 1, cells := 0, slots := 0, locals := 13 }
theorem own_rm15_0_2 (l : Launch) (Z : State) (a0 : Array Value) (hw : own_W a0 Z) (r arr : Addr) (ka : ClassId) (x0 x1 : Int32) (cs : Int32) (fm : Value) (u8 : Addr) (h0 : Heap) (n0 : Nat) (Z0 : n0 ≤ h0.size) (O0 : Old Z n0 h0) (E_r : Exa Z h0 r "java/lang/String") (F_v : Fld Z h0 r "java/lang/String" "value" "[B" (.ref arr)) (F_c : Fld Z h0 r "java/lang/String" "coder" "B" (.int 0)) (V_a : Arv Z h0 arr ka .byte (2 : Int32) [(.int x0), (.int x1)] (.int 0)) (HB : own_BB Z cs fm u8) :
  own_MF l Z own_y26 (Jvm.Cond.code own_y26 jdk_42_method_54_code 1 (some .int)) [] own_r15_0_2 #[(.ref r)] h0 (own_P h0 n0 (.int 2)) := by
 refine own_open (plainFor_of_name own_pn1) hisR (Ls := #[vr r]) ?_
 intro p e s m below meth c s₁ Bd hZ hx hby hml hown X0 e0
 have N0 := Fr.nil n0
 refine own_st (T' := s₁) (g' := (mkF m 1 #[vr r] [(.ref r)])) (fun t k => ?_) ?_
 ·refine XS.aloadN X0.here hx rfl (hb hby own_d15_0) rfl rfl ?_
  exact k
 obtain ⟨T1, X1, e1, st1⟩ := getF X0 hx hZ hown (host := "") (Or.inl (own_w hw 87 rfl)) Via.refl e0 F_v (g := (mkF m 1 #[vr r] [(.ref r)])) rfl rfl (hb hby own_d15_1)
 refine own_st (T' := T1) (g' := (mkF m 4 #[vr r] [(.ref arr)])) st1 ?_
 obtain ⟨cl2, Ar2, q2, S2, M2, H2, G2⟩ := id V_a
 refine own_st (T' := T1) (g' := (mkF m 6 #[vr r] [(.ref r), (.int 2)])) (fun t k => ?_) ?_
 ·refine X1.arraylength hx (by rw [e1]; exact Ar2.1) (State.isArrayOf_alike hZ.alike Ar2.2.1) (g := (mkF m 4 #[vr r] [(.ref arr)])) rfl rfl (hb hby own_d15_4) _ ?_
  rw [len_of S2 M2]
  refine XS.aloadN X1.here hx rfl (hb hby own_d15_5) rfl rfl ?_
  exact k
 obtain ⟨cq3, kq3, q3a, q3b, q3c⟩ := isOf hZ e1 E_r
 obtain ⟨_, _, ⟨T3, L3, c3, n3⟩, -, X3, ⟨Lc3, hQ3, l3, y3, z3⟩, st3⟩ := X1.virtualBack hx (y := own_y25) (z := own_y25) hown (om hZ hw 96 rfl) (om hZ hw 97 rfl) (notFace_of_selects (args := #[]) (om hZ hw 99 rfl)) (om hZ hw 99 rfl) (om hZ hw 98 rfl) (by decide) (backOf (W := 1) (own_rm16_0_2 l Z a0 hw r arr ka x0 x1 cs fm u8 h0 n0 Z0 O0 E_r F_v F_c V_a HB) hZ (own_w hw 100 rfl) (own_w hw 37 rfl) (by decide) (by decide)) q3a q3c (g := (mkF m 6 #[vr r] [(.ref r), (.int 2)])) rfl (by rw [hml]; rfl) (Steps.refl _) (argsL := []) (rest := [(.int 2)]) (lenOf own_pd20 rfl) rfl (by show 2 * 0 + _ ≤ _; exact Nat.le_of_eq rfl) (hb hby own_d15_6) (fun _ _ => ⟨rfl, e1, (by decide : 0 + 0 ≤ _), (by decide : 0 + 0 ≤ _)⟩)
 dsimp only [Pt.U, Pt.locs, Pt.cells, Pt.slots] at X3 l3 y3 z3 st3 hQ3
 subst l3 y3 z3
 obtain ⟨rfl, N3q, e3⟩ := hQ3
 have N3 := Fr.app N0 N3q
 refine own_tr (T' := T3) (g' := (mkF m 9 #[vr r] [(.int 0), (.int 2)])) st3 ?_
 refine own_st (T' := T3) (g' := (mkF m 10 #[vr r] [(.int 2)])) (fun t k => ?_) ?_
 ·refine XS.ishr X3.here hx rfl (hb hby own_d15_9) rfl ?_
  exact k
 exact own_retI X3 hx Bd (hb hby own_d15_10) e3 (⟨rfl, N3, rfl⟩) (by decide) (by decide)
def own_r15_0_3 : Room := { frames := 1, cells := 0, slots := 0, locals := 13 }
theorem own_rm15_0_3 (l : Launch) (Z : State) (a0 : Array Value) (hw : own_W a0 Z) (r arr : Addr) (ka : ClassId) (x0 x1 x2 : Int32) (cs : Int32) (fm : Value) (u8 : Addr) (h0 : Heap) (n0 : Nat) (Z0 : n0 ≤ h0.size) (O0 : Old Z n0 h0) (E_r : Exa Z h0 r "java/lang/String") (F_v : Fld Z h0 r "java/lang/String" "value" "[B" (.ref arr)) (F_c : Fld Z h0 r "java/lang/String" "coder" "B" (.int 0)) (V_a : Arv Z h0 arr ka .byte (3 : Int32) [(.int x0), (.int x1), (.int x2)] (.int 0)) (HB : own_BB Z cs fm u8) :
  own_MF l Z own_y26 (Jvm.Cond.code own_y26 jdk_42_method_54_code 1 (some .int)) [] own_r15_0_3 #[(.ref r)] h0 (own_P h0 n0 (.int 3)) := by
 refine own_open (plainFor_of_name own_pn1) hisR (Ls := #[vr r]) ?_
 intro p e s m below meth c s₁ Bd hZ hx hby hml hown X0 e0
 have N0 := Fr.nil n0
 refine own_st (T' := s₁) (g' := (mkF m 1 #[vr r] [(.ref r)])) (fun t k => ?_) ?_
 ·refine XS.aloadN X0.here hx rfl (hb hby own_d15_0) rfl rfl ?_
  exact k
 obtain ⟨T1, X1, e1, st1⟩ := getF X0 hx hZ hown (host := "") (Or.inl (own_w hw 87 rfl)) Via.refl e0 F_v (g := (mkF m 1 #[vr r] [(.ref r)])) rfl rfl (hb hby own_d15_1)
 refine own_st (T' := T1) (g' := (mkF m 4 #[vr r] [(.ref arr)])) st1 ?_
 obtain ⟨cl2, Ar2, q2, S2, M2, H2, G2⟩ := id V_a
 refine own_st (T' := T1) (g' := (mkF m 6 #[vr r] [(.ref r), (.int 3)])) (fun t k => ?_) ?_
 ·refine X1.arraylength hx (by rw [e1]; exact Ar2.1) (State.isArrayOf_alike hZ.alike Ar2.2.1) (g := (mkF m 4 #[vr r] [(.ref arr)])) rfl rfl (hb hby own_d15_4) _ ?_
  rw [len_of S2 M2]
  refine XS.aloadN X1.here hx rfl (hb hby own_d15_5) rfl rfl ?_
  exact k
 obtain ⟨cq3, kq3, q3a, q3b, q3c⟩ := isOf hZ e1 E_r
 obtain ⟨_, _, ⟨T3, L3, c3, n3⟩, -, X3, ⟨Lc3, hQ3, l3, y3, z3⟩, st3⟩ := X1.virtualBack hx (y := own_y25) (z := own_y25) hown (om hZ hw 96 rfl) (om hZ hw 97 rfl) (notFace_of_selects (args := #[]) (om hZ hw 99 rfl)) (om hZ hw 99 rfl) (om hZ hw 98 rfl) (by decide) (backOf (W := 1) (own_rm16_0_3 l Z a0 hw r arr ka x0 x1 x2 cs fm u8 h0 n0 Z0 O0 E_r F_v F_c V_a HB) hZ (own_w hw 100 rfl) (own_w hw 37 rfl) (by decide) (by decide)) q3a q3c (g := (mkF m 6 #[vr r] [(.ref r), (.int 3)])) rfl (by rw [hml]; rfl) (Steps.refl _) (argsL := []) (rest := [(.int 3)]) (lenOf own_pd20 rfl) rfl (by show 2 * 0 + _ ≤ _; exact Nat.le_of_eq rfl) (hb hby own_d15_6) (fun _ _ => ⟨rfl, e1, (by decide : 0 + 0 ≤ _), (by decide : 0 + 0 ≤ _)⟩)
 dsimp only [Pt.U, Pt.locs, Pt.cells, Pt.slots] at X3 l3 y3 z3 st3 hQ3
 subst l3 y3 z3
 obtain ⟨rfl, N3q, e3⟩ := hQ3
 have N3 := Fr.app N0 N3q
 refine own_tr (T' := T3) (g' := (mkF m 9 #[vr r] [(.int 0), (.int 3)])) st3 ?_
 refine own_st (T' := T3) (g' := (mkF m 10 #[vr r] [(.int 3)])) (fun t k => ?_) ?_
 ·refine XS.ishr X3.here hx rfl (hb hby own_d15_9) rfl ?_
  exact k
 exact own_retI X3 hx Bd (hb hby own_d15_10) e3 (⟨rfl, N3, rfl⟩) (by decide) (by decide)
def own_r15_1_2 : Room := { frames := 1, cells := 0, slots := 0, locals := 13 }
theorem own_rm15_1_2 (l : Launch) (Z : State) (a0 : Array Value) (hw : own_W a0 Z) (r arr : Addr) (ka : ClassId) (x0 x1 : Int32) (cs : Int32) (fm : Value) (u8 : Addr) (h0 : Heap) (n0 : Nat) (Z0 : n0 ≤ h0.size) (O0 : Old Z n0 h0) (E_r : Exa Z h0 r "java/lang/String") (F_v : Fld Z h0 r "java/lang/String" "value" "[B" (.ref arr)) (F_c : Fld Z h0 r "java/lang/String" "coder" "B" (.int 1)) (V_a : Arv Z h0 arr ka .byte (2 : Int32) [(.int x0), (.int x1)] (.int 0)) (HB : own_BB Z cs fm u8) :
  own_MF l Z own_y26 (Jvm.Cond.code own_y26 jdk_42_method_54_code 1 (some .int)) [] own_r15_1_2 #[(.ref r)] h0 (own_P h0 n0 (.int 1)) := by
 refine own_open (plainFor_of_name own_pn1) hisR (Ls := #[vr r]) ?_
 intro p e s m below meth c s₁ Bd hZ hx hby hml hown X0 e0
 have N0 := Fr.nil n0
 refine own_st (T' := s₁) (g' := (mkF m 1 #[vr r] [(.ref r)])) (fun t k => ?_) ?_
 ·refine XS.aloadN X0.here hx rfl (hb hby own_d15_0) rfl rfl ?_
  exact k
 obtain ⟨T1, X1, e1, st1⟩ := getF X0 hx hZ hown (host := "") (Or.inl (own_w hw 87 rfl)) Via.refl e0 F_v (g := (mkF m 1 #[vr r] [(.ref r)])) rfl rfl (hb hby own_d15_1)
 refine own_st (T' := T1) (g' := (mkF m 4 #[vr r] [(.ref arr)])) st1 ?_
 obtain ⟨cl2, Ar2, q2, S2, M2, H2, G2⟩ := id V_a
 refine own_st (T' := T1) (g' := (mkF m 6 #[vr r] [(.ref r), (.int 2)])) (fun t k => ?_) ?_
 ·refine X1.arraylength hx (by rw [e1]; exact Ar2.1) (State.isArrayOf_alike hZ.alike Ar2.2.1) (g := (mkF m 4 #[vr r] [(.ref arr)])) rfl rfl (hb hby own_d15_4) _ ?_
  rw [len_of S2 M2]
  refine XS.aloadN X1.here hx rfl (hb hby own_d15_5) rfl rfl ?_
  exact k
 obtain ⟨cq3, kq3, q3a, q3b, q3c⟩ := isOf hZ e1 E_r
 obtain ⟨_, _, ⟨T3, L3, c3, n3⟩, -, X3, ⟨Lc3, hQ3, l3, y3, z3⟩, st3⟩ := X1.virtualBack hx (y := own_y25) (z := own_y25) hown (om hZ hw 96 rfl) (om hZ hw 97 rfl) (notFace_of_selects (args := #[]) (om hZ hw 99 rfl)) (om hZ hw 99 rfl) (om hZ hw 98 rfl) (by decide) (backOf (W := 1) (own_rm16_1_2 l Z a0 hw r arr ka x0 x1 cs fm u8 h0 n0 Z0 O0 E_r F_v F_c V_a HB) hZ (own_w hw 100 rfl) (own_w hw 37 rfl) (by decide) (by decide)) q3a q3c (g := (mkF m 6 #[vr r] [(.ref r), (.int 2)])) rfl (by rw [hml]; rfl) (Steps.refl _) (argsL := []) (rest := [(.int 2)]) (lenOf own_pd20 rfl) rfl (by show 2 * 0 + _ ≤ _; exact Nat.le_of_eq rfl) (hb hby own_d15_6) (fun _ _ => ⟨rfl, e1, (by decide : 0 + 0 ≤ _), (by decide : 0 + 0 ≤ _)⟩)
 dsimp only [Pt.U, Pt.locs, Pt.cells, Pt.slots] at X3 l3 y3 z3 st3 hQ3
 subst l3 y3 z3
 obtain ⟨rfl, N3q, e3⟩ := hQ3
 have N3 := Fr.app N0 N3q
 refine own_tr (T' := T3) (g' := (mkF m 9 #[vr r] [(.int 1), (.int 2)])) st3 ?_
 refine own_st (T' := T3) (g' := (mkF m 10 #[vr r] [(.int 1)])) (fun t k => ?_) ?_
 ·refine XS.ishr X3.here hx rfl (hb hby own_d15_9) rfl ?_
  exact k
 exact own_retI X3 hx Bd (hb hby own_d15_10) e3 (⟨rfl, N3, rfl⟩) (by decide) (by decide)
def own_r15_1_4 : Room := { frames := 1, cells := 0, slots := 0, locals := 13 }
theorem own_rm15_1_4 (l : Launch) (Z : State) (a0 : Array Value) (hw : own_W a0 Z) (r arr : Addr) (ka : ClassId) (x0 x1 x2 x3 : Int32) (cs : Int32) (fm : Value) (u8 : Addr) (h0 : Heap) (n0 : Nat) (Z0 : n0 ≤ h0.size) (O0 : Old Z n0 h0) (E_r : Exa Z h0 r "java/lang/String") (F_v : Fld Z h0 r "java/lang/String" "value" "[B" (.ref arr)) (F_c : Fld Z h0 r "java/lang/String" "coder" "B" (.int 1)) (V_a : Arv Z h0 arr ka .byte (4 : Int32) [(.int x0), (.int x1), (.int x2), (.int x3)] (.int 0)) (HB : own_BB Z cs fm u8) :
  own_MF l Z own_y26 (Jvm.Cond.code own_y26 jdk_42_method_54_code 1 (some .int)) [] own_r15_1_4 #[(.ref r)] h0 (own_P h0 n0 (.int 2)) := by
 refine own_open (plainFor_of_name own_pn1) hisR (Ls := #[vr r]) ?_
 intro p e s m below meth c s₁ Bd hZ hx hby hml hown X0 e0
 have N0 := Fr.nil n0
 refine own_st (T' := s₁) (g' := (mkF m 1 #[vr r] [(.ref r)])) (fun t k => ?_) ?_
 ·refine XS.aloadN X0.here hx rfl (hb hby own_d15_0) rfl rfl ?_
  exact k
 obtain ⟨T1, X1, e1, st1⟩ := getF X0 hx hZ hown (host := "") (Or.inl (own_w hw 87 rfl)) Via.refl e0 F_v (g := (mkF m 1 #[vr r] [(.ref r)])) rfl rfl (hb hby own_d15_1)
 refine own_st (T' := T1) (g' := (mkF m 4 #[vr r] [(.ref arr)])) st1 ?_
 obtain ⟨cl2, Ar2, q2, S2, M2, H2, G2⟩ := id V_a
 refine own_st (T' := T1) (g' := (mkF m 6 #[vr r] [(.ref r), (.int 4)])) (fun t k => ?_) ?_
 ·refine X1.arraylength hx (by rw [e1]; exact Ar2.1) (State.isArrayOf_alike hZ.alike Ar2.2.1) (g := (mkF m 4 #[vr r] [(.ref arr)])) rfl rfl (hb hby own_d15_4) _ ?_
  rw [len_of S2 M2]
  refine XS.aloadN X1.here hx rfl (hb hby own_d15_5) rfl rfl ?_
  exact k
 obtain ⟨cq3, kq3, q3a, q3b, q3c⟩ := isOf hZ e1 E_r
 obtain ⟨_, _, ⟨T3, L3, c3, n3⟩, -, X3, ⟨Lc3, hQ3, l3, y3, z3⟩, st3⟩ := X1.virtualBack hx (y := own_y25) (z := own_y25) hown (om hZ hw 96 rfl) (om hZ hw 97 rfl) (notFace_of_selects (args := #[]) (om hZ hw 99 rfl)) (om hZ hw 99 rfl) (om hZ hw 98 rfl) (by decide) (backOf (W := 1) (own_rm16_1_4 l Z a0 hw r arr ka x0 x1 x2 x3 cs fm u8 h0 n0 Z0 O0 E_r F_v F_c V_a HB) hZ (own_w hw 100 rfl) (own_w hw 37 rfl) (by decide) (by decide)) q3a q3c (g := (mkF m 6 #[vr r] [(.ref r), (.int 4)])) rfl (by rw [hml]; rfl) (Steps.refl _) (argsL := []) (rest := [(.int 4)]) (lenOf own_pd20 rfl) rfl (by show 2 * 0 + _ ≤ _; exact Nat.le_of_eq rfl) (hb hby own_d15_6) (fun _ _ => ⟨rfl, e1, (by decide : 0 + 0 ≤ _), (by decide : 0 + 0 ≤ _)⟩)
 dsimp only [Pt.U, Pt.locs, Pt.cells, Pt.slots] at X3 l3 y3 z3 st3 hQ3
 subst l3 y3 z3
 obtain ⟨rfl, N3q, e3⟩ := hQ3
 have N3 := Fr.app N0 N3q
 refine own_tr (T' := T3) (g' := (mkF m 9 #[vr r] [(.int 1), (.int 4)])) st3 ?_
 refine own_st (T' := T3) (g' := (mkF m 10 #[vr r] [(.int 2)])) (fun t k => ?_) ?_
 ·refine XS.ishr X3.here hx rfl (hb hby own_d15_9) rfl ?_
  exact k
 exact own_retI X3 hx Bd (hb hby own_d15_10) e3 (⟨rfl, N3, rfl⟩) (by decide) (by decide)
def own_r35_2_0 : Room := { frames := 2, cells := 0, slots := 0, locals := 27 }
def own_Q35_2_0 (Z : State) (arr : Addr) (ka : ClassId) (x0 x1 : Int32) (cs : Int32) (fm : Value) (u8 : Addr) (h0 : Heap) (n0 : Nat) : Option Value → Heap → List Loc → Prop := fun v h L => v = none ∧ Fr n0 L ∧ h = h0
theorem own_rm35_2_0 (l : Launch) (Z : State) (a0 : Array Value) (hw : own_W a0 Z) (arr : Addr) (ka : ClassId) (x0 x1 : Int32) (cs : Int32) (fm : Value) (u8 : Addr) (h0 : Heap) (n0 : Nat) (Z0 : n0 ≤ h0.size) (O0 : Old Z n0 h0) (V_a : Arv Z h0 arr ka .byte (2 : Int32) [(.int x0), (.int x1)] (.int 0)) (HB : own_BB Z cs fm u8) :
  own_MF l Z own_y27 (Jvm.Cond.code own_y27 jdk_52_method_91_code 2 none) [] own_r35_2_0 #[(.int 0), (.ref arr)] h0 (own_Q35_2_0 Z arr ka x0 x1 cs fm u8 h0 n0) := by
 refine own_open (plainFor_of_name own_pn5) hisR (Ls := #[vi 0, vr arr]) ?_
 intro p e s m below meth c s₁ Bd hZ hx hby hml hown X0 e0
 have N0 := Fr.nil n0
 refine own_st (T' := s₁) (g' := (mkF m 2 #[vi 0, vr arr] [(.ref arr), (.int 0)])) (fun t k => ?_) ?_
 ·refine XS.iloadN X0.here hx rfl (hb hby own_d35_0) rfl ?_
  refine XS.aloadN X0.here hx rfl (hb hby own_d35_1) rfl rfl ?_
  exact k
 obtain ⟨_, _, ⟨T1, L1, c1, n1⟩, -, X1, ⟨Lc1, hQ1, l1, y1, z1⟩, st1⟩ := Jvm.LawKit.callS X0 hx (y := own_y11) hown (om hZ hw 141 rfl) (om hZ hw 142 rfl) (om hZ hw 126 rfl) (om hZ hw 143 rfl) (by decide) (backOf (W := 1) (own_rm28_2 l Z a0 hw arr ka x0 x1 cs fm u8 h0 n0 Z0 O0 V_a HB) hZ (own_w hw 143 rfl) (own_w hw 126 rfl) (by decide) (by decide)) (g := (mkF m 2 #[vi 0, vr arr] [(.ref arr), (.int 0)])) rfl (by rw [hml]; rfl) (argsL := [(.ref arr)]) (rest := [(.int 0)]) (lenOf own_pd6 rfl) rfl (by show 2 * 0 + _ ≤ _; exact Nat.le_of_eq rfl) (hb hby own_d35_2) (fun _ _ => ⟨rfl, e0, (by decide : 0 + 0 ≤ _), (by decide : 0 + 0 ≤ _)⟩)
 dsimp only [Pt.U, Pt.locs, Pt.cells, Pt.slots] at X1 l1 y1 z1 st1 hQ1
 subst l1 y1 z1
 obtain ⟨rfl, N1q, e1⟩ := hQ1
 have N1 := Fr.app N0 N1q
 refine own_st (T' := T1) (g' := (mkF m 5 #[vi 0, vr arr] [(.int 1), (.int 0)])) st1 ?_
 obtain ⟨_, _, ⟨T2, L2, c2, n2⟩, -, X2, ⟨Lc2, hQ2, l2, y2, z2⟩, st2⟩ := Jvm.LawKit.callS X1 hx (y := own_y1) hown (om hZ hw 169 rfl) (om hZ hw 119 rfl) (om hZ hw 37 rfl) (om hZ hw 120 rfl) (by decide) (backOf (W := 0) (own_rm21 l Z a0 hw (0 : Int32) (1 : Int32) cs fm u8 h0 n0 Z0 O0 (by decide) (by decide) HB) hZ (own_w hw 120 rfl) (own_w hw 37 rfl) (by decide) (by decide)) (g := (mkF m 5 #[vi 0, vr arr] [(.int 1), (.int 0)])) rfl (by rw [hml]; rfl) (argsL := [(.int 0), (.int 1)]) (rest := []) (lenOf own_pd2 rfl) rfl (by show 2 * 0 + _ ≤ _; exact Nat.le_of_eq rfl) (hb hby own_d35_5) (fun _ _ => ⟨rfl, e1, (by decide : 0 + 0 ≤ _), (by decide : 0 + 0 ≤ _)⟩)
 dsimp only [Pt.U, Pt.locs, Pt.cells, Pt.slots] at X2 l2 y2 z2 st2 hQ2
 subst l2 y2 z2
 obtain ⟨rfl, N2q, e2⟩ := hQ2
 have N2 := Fr.app N1 N2q
 refine own_st (T' := T2) (g' := (mkF m 8 #[vi 0, vr arr] [])) st2 ?_
 exact own_retV X2 hx Bd (hb hby own_d35_8) e2 (⟨rfl, N2, rfl⟩) (by decide) (by decide)
def own_r35_4_0 : Room := { frames := 2, cells := 0, slots := 0, locals := 27 }
def own_Q35_4_0 (Z : State) (arr : Addr) (ka : ClassId) (x0 x1 x2 x3 : Int32) (cs : Int32) (fm : Value) (u8 : Addr) (h0 : Heap) (n0 : Nat) : Option Value → Heap → List Loc → Prop := fun v h L => v = none ∧ Fr n0 L ∧ h = h0
theorem own_rm35_4_0 (l : Launch) (Z : State) (a0 : Array Value) (hw : own_W a0 Z) (arr : Addr) (ka : ClassId) (x0 x1 x2 x3 : Int32) (cs : Int32) (fm : Value) (u8 : Addr) (h0 : Heap) (n0 : Nat) (Z0 : n0 ≤ h0.size) (O0 : Old Z n0 h0) (V_a : Arv Z h0 arr ka .byte (4 : Int32) [(.int x0), (.int x1), (.int x2), (.int x3)] (.int 0)) (HB : own_BB Z cs fm u8) :
  own_MF l Z own_y27 (Jvm.Cond.code own_y27 jdk_52_method_91_code 2 none) [] own_r35_4_0 #[(.int 0), (.ref arr)] h0 (own_Q35_4_0 Z arr ka x0 x1 x2 x3 cs fm u8 h0 n0) := by
 refine own_open (plainFor_of_name own_pn5) hisR (Ls := #[vi 0, vr arr]) ?_
 intro p e s m below meth c s₁ Bd hZ hx hby hml hown X0 e0
 have N0 := Fr.nil n0
 refine own_st (T' := s₁) (g' := (mkF m 2 #[vi 0, vr arr] [(.ref arr), (.int 0)])) (fun t k => ?_) ?_
 ·refine XS.iloadN X0.here hx rfl (hb hby own_d35_0) rfl ?_
  refine XS.aloadN X0.here hx rfl (hb hby own_d35_1) rfl rfl ?_
  exact k
 obtain ⟨_, _, ⟨T1, L1, c1, n1⟩, -, X1, ⟨Lc1, hQ1, l1, y1, z1⟩, st1⟩ := Jvm.LawKit.callS X0 hx (y := own_y11) hown (om hZ hw 141 rfl) (om hZ hw 142 rfl) (om hZ hw 126 rfl) (om hZ hw 143 rfl) (by decide) (backOf (W := 1) (own_rm28_4 l Z a0 hw arr ka x0 x1 x2 x3 cs fm u8 h0 n0 Z0 O0 V_a HB) hZ (own_w hw 143 rfl) (own_w hw 126 rfl) (by decide) (by decide)) (g := (mkF m 2 #[vi 0, vr arr] [(.ref arr), (.int 0)])) rfl (by rw [hml]; rfl) (argsL := [(.ref arr)]) (rest := [(.int 0)]) (lenOf own_pd6 rfl) rfl (by show 2 * 0 + _ ≤ _; exact Nat.le_of_eq rfl) (hb hby own_d35_2) (fun _ _ => ⟨rfl, e0, (by decide : 0 + 0 ≤ _), (by decide : 0 + 0 ≤ _)⟩)
 dsimp only [Pt.U, Pt.locs, Pt.cells, Pt.slots] at X1 l1 y1 z1 st1 hQ1
 subst l1 y1 z1
 obtain ⟨rfl, N1q, e1⟩ := hQ1
 have N1 := Fr.app N0 N1q
 refine own_st (T' := T1) (g' := (mkF m 5 #[vi 0, vr arr] [(.int 2), (.int 0)])) st1 ?_
 obtain ⟨_, _, ⟨T2, L2, c2, n2⟩, -, X2, ⟨Lc2, hQ2, l2, y2, z2⟩, st2⟩ := Jvm.LawKit.callS X1 hx (y := own_y1) hown (om hZ hw 169 rfl) (om hZ hw 119 rfl) (om hZ hw 37 rfl) (om hZ hw 120 rfl) (by decide) (backOf (W := 0) (own_rm21 l Z a0 hw (0 : Int32) (2 : Int32) cs fm u8 h0 n0 Z0 O0 (by decide) (by decide) HB) hZ (own_w hw 120 rfl) (own_w hw 37 rfl) (by decide) (by decide)) (g := (mkF m 5 #[vi 0, vr arr] [(.int 2), (.int 0)])) rfl (by rw [hml]; rfl) (argsL := [(.int 0), (.int 2)]) (rest := []) (lenOf own_pd2 rfl) rfl (by show 2 * 0 + _ ≤ _; exact Nat.le_of_eq rfl) (hb hby own_d35_5) (fun _ _ => ⟨rfl, e1, (by decide : 0 + 0 ≤ _), (by decide : 0 + 0 ≤ _)⟩)
 dsimp only [Pt.U, Pt.locs, Pt.cells, Pt.slots] at X2 l2 y2 z2 st2 hQ2
 subst l2 y2 z2
 obtain ⟨rfl, N2q, e2⟩ := hQ2
 have N2 := Fr.app N1 N2q
 refine own_st (T' := T2) (g' := (mkF m 8 #[vi 0, vr arr] [])) st2 ?_
 exact own_retV X2 hx Bd (hb hby own_d35_8) e2 (⟨rfl, N2, rfl⟩) (by decide) (by decide)
def own_r35_4_1 : Room := { frames := 2, cells := 0, slots := 0, locals := 27 }
def own_Q35_4_1 (Z : State) (arr : Addr) (ka : ClassId) (x0 x1 x2 x3 : Int32) (cs : Int32) (fm : Value) (u8 : Addr) (h0 : Heap) (n0 : Nat) : Option Value → Heap → List Loc → Prop := fun v h L => v = none ∧ Fr n0 L ∧ h = h0
theorem own_rm35_4_1 (l : Launch) (Z : State) (a0 : Array Value) (hw : own_W a0 Z) (arr : Addr) (ka : ClassId) (x0 x1 x2 x3 : Int32) (cs : Int32) (fm : Value) (u8 : Addr) (h0 : Heap) (n0 : Nat) (Z0 : n0 ≤ h0.size) (O0 : Old Z n0 h0) (V_a : Arv Z h0 arr ka .byte (4 : Int32) [(.int x0), (.int x1), (.int x2), (.int x3)] (.int 0)) (HB : own_BB Z cs fm u8) :
  own_MF l Z own_y27 (Jvm.Cond.code own_y27 jdk_52_method_91_code 2 none) [] own_r35_4_1 #[(.int 1), (.ref arr)] h0 (own_Q35_4_1 Z arr ka x0 x1 x2 x3 cs fm u8 h0 n0) := by
 refine own_open (plainFor_of_name own_pn5) hisR (Ls := #[vi 1, vr arr]) ?_
 intro p e s m below meth c s₁ Bd hZ hx hby hml hown X0 e0
 have N0 := Fr.nil n0
 refine own_st (T' := s₁) (g' := (mkF m 2 #[vi 1, vr arr] [(.ref arr), (.int 1)])) (fun t k => ?_) ?_
 ·refine XS.iloadN X0.here hx rfl (hb hby own_d35_0) rfl ?_
  refine XS.aloadN X0.here hx rfl (hb hby own_d35_1) rfl rfl ?_
  exact k
 obtain ⟨_, _, ⟨T1, L1, c1, n1⟩, -, X1, ⟨Lc1, hQ1, l1, y1, z1⟩, st1⟩ := Jvm.LawKit.callS X0 hx (y := own_y11) hown (om hZ hw 141 rfl) (om hZ hw 142 rfl) (om hZ hw 126 rfl) (om hZ hw 143 rfl) (by decide) (backOf (W := 1) (own_rm28_4 l Z a0 hw arr ka x0 x1 x2 x3 cs fm u8 h0 n0 Z0 O0 V_a HB) hZ (own_w hw 143 rfl) (own_w hw 126 rfl) (by decide) (by decide)) (g := (mkF m 2 #[vi 1, vr arr] [(.ref arr), (.int 1)])) rfl (by rw [hml]; rfl) (argsL := [(.ref arr)]) (rest := [(.int 1)]) (lenOf own_pd6 rfl) rfl (by show 2 * 0 + _ ≤ _; exact Nat.le_of_eq rfl) (hb hby own_d35_2) (fun _ _ => ⟨rfl, e0, (by decide : 0 + 0 ≤ _), (by decide : 0 + 0 ≤ _)⟩)
 dsimp only [Pt.U, Pt.locs, Pt.cells, Pt.slots] at X1 l1 y1 z1 st1 hQ1
 subst l1 y1 z1
 obtain ⟨rfl, N1q, e1⟩ := hQ1
 have N1 := Fr.app N0 N1q
 refine own_st (T' := T1) (g' := (mkF m 5 #[vi 1, vr arr] [(.int 2), (.int 1)])) st1 ?_
 obtain ⟨_, _, ⟨T2, L2, c2, n2⟩, -, X2, ⟨Lc2, hQ2, l2, y2, z2⟩, st2⟩ := Jvm.LawKit.callS X1 hx (y := own_y1) hown (om hZ hw 169 rfl) (om hZ hw 119 rfl) (om hZ hw 37 rfl) (om hZ hw 120 rfl) (by decide) (backOf (W := 0) (own_rm21 l Z a0 hw (1 : Int32) (2 : Int32) cs fm u8 h0 n0 Z0 O0 (by decide) (by decide) HB) hZ (own_w hw 120 rfl) (own_w hw 37 rfl) (by decide) (by decide)) (g := (mkF m 5 #[vi 1, vr arr] [(.int 2), (.int 1)])) rfl (by rw [hml]; rfl) (argsL := [(.int 1), (.int 2)]) (rest := []) (lenOf own_pd2 rfl) rfl (by show 2 * 0 + _ ≤ _; exact Nat.le_of_eq rfl) (hb hby own_d35_5) (fun _ _ => ⟨rfl, e1, (by decide : 0 + 0 ≤ _), (by decide : 0 + 0 ≤ _)⟩)
 dsimp only [Pt.U, Pt.locs, Pt.cells, Pt.slots] at X2 l2 y2 z2 st2 hQ2
 subst l2 y2 z2
 obtain ⟨rfl, N2q, e2⟩ := hQ2
 have N2 := Fr.app N1 N2q
 refine own_st (T' := T2) (g' := (mkF m 8 #[vi 1, vr arr] [])) st2 ?_
 exact own_retV X2 hx Bd (hb hby own_d35_8) e2 (⟨rfl, N2, rfl⟩) (by decide) (by decide)
def own_r36_2_0 : Room := { frames := 0, cells := 0, slots := 0, locals := 0 }
theorem own_rm36_2_0 (l : Launch) (Z : State) (a0 : Array Value) (hw : own_W a0 Z) (arr : Addr) (ka : ClassId) (x0 x1 : Int32) (cs : Int32) (fm : Value) (u8 : Addr) (h0 : Heap) (n0 : Nat) (Z0 : n0 ≤ h0.size) (O0 : Old Z n0 h0) (V_a : Arv Z h0 arr ka .byte (2 : Int32) [(.int x0), (.int x1)] (.int 0)) (HB : own_BB Z cs fm u8) :
  own_MF l Z own_y28 (Jvm.Cond.code own_y28 jdk_52_method_5_code 2 (some .char)) [] own_r36_2_0 #[(.ref arr), (.int 0)] h0 (own_P h0 n0 (.int (own_gc x0 x1))) := by
 refine own_open (plainFor_of_name own_pn5) hisR (Ls := #[vr arr, vi 0]) ?_
 intro p e s m below meth c s₁ Bd hZ hx hby hml hown X0 e0
 obtain ⟨-, -, -, -, S_ad, S_hb, S_lb, -, -, -⟩ := id HB
 have N0 := Fr.nil n0
 have f1 := S_ad.ext O0.2
 obtain ⟨T2, X2, e2, st2⟩ := getS2 X0 hx hZ hown (host := "") (Or.inl (own_w hw 157 rfl)) Via.refl e0 f1 (g := (mkF m 0 #[vr arr, vi 0] [])) rfl (hb hby own_d36_0)
 refine own_st (T' := T2) (g' := (mkF m 3 #[vr arr, vi 0] [(.int 1)])) st2 ?_
 refine own_st (T' := T2) (g' := (mkF m 37 #[vr arr, vi 1] [(.int 0), (.ref arr)])) (fun t k => ?_) ?_
 ·refine XS.ifYes X2.here hx rfl (pc0 := 3) (pc' := 28) rfl (hb hby own_d36_3) rfl ((if0 _ _).trans (feq (by decide : ¬ ((1 : Int32) = (0 : Int32)))).2) (by decide) (by decide) ?_
  refine XS.iloadN X2.here hx rfl (hb hby own_d36_28) rfl ?_
  refine XS.iconst X2.here hx rfl (hb hby own_d36_29) ?_
  refine XS.ishl X2.here hx rfl (hb hby own_d36_30) rfl ?_
  refine XS.istoreN X2.here hx rfl (hb hby own_d36_31) rfl (l' := #[vr arr, vi 0]) rfl ?_
  refine XS.aloadN X2.here hx rfl (hb hby own_d36_32) rfl rfl ?_
  refine XS.iloadN X2.here hx rfl (hb hby own_d36_33) rfl ?_
  refine XS.iinc X2.here hx rfl (hb hby own_d36_34) rfl (l' := #[vr arr, vi 1]) rfl ?_
  exact k
 obtain ⟨cl3, Ar3, q3, S3, M3, H3, G3⟩ := id V_a
 refine own_st (T' := T2) (g' := (mkF m 42 #[vr arr, vi 1] [(.int (x0 &&& (255 : Int32)))])) (fun t k => ?_) ?_
 ·refine X2.baloadBytes hx (j := (0 : Int32)) (v := (.int x0)) (by rw [e2]; exact Ar3.1) (State.isArrayOf_alike hZ.alike Ar3.2.1) Ar3.2.2 (inb_of S3 ⟨by decide, by decide⟩) (Has.at H3 (inb_of S3 ⟨by decide, by decide⟩) rfl) (g := (mkF m 37 #[vr arr, vi 1] [(.int 0), (.ref arr)])) rfl rfl (hb hby own_d36_37) _ ?_
  refine XS.sipush X2.here hx rfl (hb hby own_d36_38) ?_
  refine XS.iand X2.here hx rfl (hb hby own_d36_41) rfl ?_
  exact k
 have f4 := S_hb.ext O0.2
 obtain ⟨T5, X5, e5, st5⟩ := getS2 X2 hx hZ hown (host := "") (Or.inl (own_w hw 158 rfl)) Via.refl e2 f4 (g := (mkF m 42 #[vr arr, vi 1] [(.int (x0 &&& (255 : Int32)))])) rfl (hb hby own_d36_42)
 refine own_st (T' := T5) (g' := (mkF m 45 #[vr arr, vi 1] [(.int 0), (.int (x0 &&& (255 : Int32)))])) st5 ?_
 refine own_st (T' := T5) (g' := (mkF m 48 #[vr arr, vi 1] [(.int 1), (.ref arr), (.int ((x0 &&& (255 : Int32)) <<< ((0 : Int32) &&& 31)))])) (fun t k => ?_) ?_
 ·refine XS.ishl X5.here hx rfl (hb hby own_d36_45) rfl ?_
  refine XS.aloadN X5.here hx rfl (hb hby own_d36_46) rfl rfl ?_
  refine XS.iloadN X5.here hx rfl (hb hby own_d36_47) rfl ?_
  exact k
 obtain ⟨cl6, Ar6, q6, S6, M6, H6, G6⟩ := id V_a
 refine own_st (T' := T5) (g' := (mkF m 53 #[vr arr, vi 1] [(.int (x1 &&& (255 : Int32))), (.int ((x0 &&& (255 : Int32)) <<< ((0 : Int32) &&& 31)))])) (fun t k => ?_) ?_
 ·refine X5.baloadBytes hx (j := (1 : Int32)) (v := (.int x1)) (by rw [e5]; exact Ar6.1) (State.isArrayOf_alike hZ.alike Ar6.2.1) Ar6.2.2 (inb_of S6 ⟨by decide, by decide⟩) (Has.at H6 (inb_of S6 ⟨by decide, by decide⟩) rfl) (g := (mkF m 48 #[vr arr, vi 1] [(.int 1), (.ref arr), (.int ((x0 &&& (255 : Int32)) <<< ((0 : Int32) &&& 31)))])) rfl rfl (hb hby own_d36_48) _ ?_
  refine XS.sipush X5.here hx rfl (hb hby own_d36_49) ?_
  refine XS.iand X5.here hx rfl (hb hby own_d36_52) rfl ?_
  exact k
 have f7 := S_lb.ext O0.2
 obtain ⟨T8, X8, e8, st8⟩ := getS2 X5 hx hZ hown (host := "") (Or.inl (own_w hw 159 rfl)) Via.refl e5 f7 (g := (mkF m 53 #[vr arr, vi 1] [(.int (x1 &&& (255 : Int32))), (.int ((x0 &&& (255 : Int32)) <<< ((0 : Int32) &&& 31)))])) rfl (hb hby own_d36_53)
 refine own_st (T' := T8) (g' := (mkF m 56 #[vr arr, vi 1] [(.int 8), (.int (x1 &&& (255 : Int32))), (.int ((x0 &&& (255 : Int32)) <<< ((0 : Int32) &&& 31)))])) st8 ?_
 refine own_st (T' := T8) (g' := (mkF m 59 #[vr arr, vi 1] [(.int ((((x0 &&& (255 : Int32)) <<< ((0 : Int32) &&& 31)) ||| ((x1 &&& (255 : Int32)) <<< ((8 : Int32) &&& 31))).toUInt32.toUInt16.toUInt32.toInt32))])) (fun t k => ?_) ?_
 ·refine XS.ishl X8.here hx rfl (hb hby own_d36_56) rfl ?_
  refine XS.ior X8.here hx rfl (hb hby own_d36_57) rfl ?_
  refine XS.i2c X8.here hx rfl (hb hby own_d36_58) rfl ?_
  exact k
 exact own_retN X8 hx Bd (t := .char) (by simp) (XT.narrow_c _) (hb hby own_d36_59) e8 (⟨rfl, N0, rfl⟩) (by decide) (by decide)
def own_r36_4_0 : Room := { frames := 0, cells := 0, slots := 0, locals := 0 }
theorem own_rm36_4_0 (l : Launch) (Z : State) (a0 : Array Value) (hw : own_W a0 Z) (arr : Addr) (ka : ClassId) (x0 x1 x2 x3 : Int32) (cs : Int32) (fm : Value) (u8 : Addr) (h0 : Heap) (n0 : Nat) (Z0 : n0 ≤ h0.size) (O0 : Old Z n0 h0) (V_a : Arv Z h0 arr ka .byte (4 : Int32) [(.int x0), (.int x1), (.int x2), (.int x3)] (.int 0)) (HB : own_BB Z cs fm u8) :
  own_MF l Z own_y28 (Jvm.Cond.code own_y28 jdk_52_method_5_code 2 (some .char)) [] own_r36_4_0 #[(.ref arr), (.int 0)] h0 (own_P h0 n0 (.int (own_gc x0 x1))) := by
 refine own_open (plainFor_of_name own_pn5) hisR (Ls := #[vr arr, vi 0]) ?_
 intro p e s m below meth c s₁ Bd hZ hx hby hml hown X0 e0
 obtain ⟨-, -, -, -, S_ad, S_hb, S_lb, -, -, -⟩ := id HB
 have N0 := Fr.nil n0
 have f1 := S_ad.ext O0.2
 obtain ⟨T2, X2, e2, st2⟩ := getS2 X0 hx hZ hown (host := "") (Or.inl (own_w hw 157 rfl)) Via.refl e0 f1 (g := (mkF m 0 #[vr arr, vi 0] [])) rfl (hb hby own_d36_0)
 refine own_st (T' := T2) (g' := (mkF m 3 #[vr arr, vi 0] [(.int 1)])) st2 ?_
 refine own_st (T' := T2) (g' := (mkF m 37 #[vr arr, vi 1] [(.int 0), (.ref arr)])) (fun t k => ?_) ?_
 ·refine XS.ifYes X2.here hx rfl (pc0 := 3) (pc' := 28) rfl (hb hby own_d36_3) rfl ((if0 _ _).trans (feq (by decide : ¬ ((1 : Int32) = (0 : Int32)))).2) (by decide) (by decide) ?_
  refine XS.iloadN X2.here hx rfl (hb hby own_d36_28) rfl ?_
  refine XS.iconst X2.here hx rfl (hb hby own_d36_29) ?_
  refine XS.ishl X2.here hx rfl (hb hby own_d36_30) rfl ?_
  refine XS.istoreN X2.here hx rfl (hb hby own_d36_31) rfl (l' := #[vr arr, vi 0]) rfl ?_
  refine XS.aloadN X2.here hx rfl (hb hby own_d36_32) rfl rfl ?_
  refine XS.iloadN X2.here hx rfl (hb hby own_d36_33) rfl ?_
  refine XS.iinc X2.here hx rfl (hb hby own_d36_34) rfl (l' := #[vr arr, vi 1]) rfl ?_
  exact k
 obtain ⟨cl3, Ar3, q3, S3, M3, H3, G3⟩ := id V_a
 refine own_st (T' := T2) (g' := (mkF m 42 #[vr arr, vi 1] [(.int (x0 &&& (255 : Int32)))])) (fun t k => ?_) ?_
 ·refine X2.baloadBytes hx (j := (0 : Int32)) (v := (.int x0)) (by rw [e2]; exact Ar3.1) (State.isArrayOf_alike hZ.alike Ar3.2.1) Ar3.2.2 (inb_of S3 ⟨by decide, by decide⟩) (Has.at H3 (inb_of S3 ⟨by decide, by decide⟩) rfl) (g := (mkF m 37 #[vr arr, vi 1] [(.int 0), (.ref arr)])) rfl rfl (hb hby own_d36_37) _ ?_
  refine XS.sipush X2.here hx rfl (hb hby own_d36_38) ?_
  refine XS.iand X2.here hx rfl (hb hby own_d36_41) rfl ?_
  exact k
 have f4 := S_hb.ext O0.2
 obtain ⟨T5, X5, e5, st5⟩ := getS2 X2 hx hZ hown (host := "") (Or.inl (own_w hw 158 rfl)) Via.refl e2 f4 (g := (mkF m 42 #[vr arr, vi 1] [(.int (x0 &&& (255 : Int32)))])) rfl (hb hby own_d36_42)
 refine own_st (T' := T5) (g' := (mkF m 45 #[vr arr, vi 1] [(.int 0), (.int (x0 &&& (255 : Int32)))])) st5 ?_
 refine own_st (T' := T5) (g' := (mkF m 48 #[vr arr, vi 1] [(.int 1), (.ref arr), (.int ((x0 &&& (255 : Int32)) <<< ((0 : Int32) &&& 31)))])) (fun t k => ?_) ?_
 ·refine XS.ishl X5.here hx rfl (hb hby own_d36_45) rfl ?_
  refine XS.aloadN X5.here hx rfl (hb hby own_d36_46) rfl rfl ?_
  refine XS.iloadN X5.here hx rfl (hb hby own_d36_47) rfl ?_
  exact k
 obtain ⟨cl6, Ar6, q6, S6, M6, H6, G6⟩ := id V_a
 refine own_st (T' := T5) (g' := (mkF m 53 #[vr arr, vi 1] [(.int (x1 &&& (255 : Int32))), (.int ((x0 &&& (255 : Int32)) <<< ((0 : Int32) &&& 31)))])) (fun t k => ?_) ?_
 ·refine X5.baloadBytes hx (j := (1 : Int32)) (v := (.int x1)) (by rw [e5]; exact Ar6.1) (State.isArrayOf_alike hZ.alike Ar6.2.1) Ar6.2.2 (inb_of S6 ⟨by decide, by decide⟩) (Has.at H6 (inb_of S6 ⟨by decide, by decide⟩) rfl) (g := (mkF m 48 #[vr arr, vi 1] [(.int 1), (.ref arr), (.int ((x0 &&& (255 : Int32)) <<< ((0 : Int32) &&& 31)))])) rfl rfl (hb hby own_d36_48) _ ?_
  refine XS.sipush X5.here hx rfl (hb hby own_d36_49) ?_
  refine XS.iand X5.here hx rfl (hb hby own_d36_52) rfl ?_
  exact k
 have f7 := S_lb.ext O0.2
 obtain ⟨T8, X8, e8, st8⟩ := getS2 X5 hx hZ hown (host := "") (Or.inl (own_w hw 159 rfl)) Via.refl e5 f7 (g := (mkF m 53 #[vr arr, vi 1] [(.int (x1 &&& (255 : Int32))), (.int ((x0 &&& (255 : Int32)) <<< ((0 : Int32) &&& 31)))])) rfl (hb hby own_d36_53)
 refine own_st (T' := T8) (g' := (mkF m 56 #[vr arr, vi 1] [(.int 8), (.int (x1 &&& (255 : Int32))), (.int ((x0 &&& (255 : Int32)) <<< ((0 : Int32) &&& 31)))])) st8 ?_
 refine own_st (T' := T8) (g' := (mkF m 59 #[vr arr, vi 1] [(.int ((((x0 &&& (255 : Int32)) <<< ((0 : Int32) &&& 31)) ||| ((x1 &&& (255 : Int32)) <<< ((8 : Int32) &&& 31))).toUInt32.toUInt16.toUInt32.toInt32))])) (fun t k => ?_) ?_
 ·refine XS.ishl X8.here hx rfl (hb hby own_d36_56) rfl ?_
  refine XS.ior X8.here hx rfl (hb hby own_d36_57) rfl ?_
  refine XS.i2c X8.here hx rfl (hb hby own_d36_58) rfl ?_
  exact k
 exact own_retN X8 hx Bd (t := .char) (by simp) (XT.narrow_c _) (hb hby own_d36_59) e8 (⟨rfl, N0, rfl⟩) (by decide) (by decide)
def own_r36_4_1 : Room := { frames := 0, cells := 0, slots := 0, locals := 0 }
theorem own_rm36_4_1 (l : Launch) (Z : State) (a0 : Array Value) (hw : own_W a0 Z) (arr : Addr) (ka : ClassId) (x0 x1 x2 x3 : Int32) (cs : Int32) (fm : Value) (u8 : Addr) (h0 : Heap) (n0 : Nat) (Z0 : n0 ≤ h0.size) (O0 : Old Z n0 h0) (V_a : Arv Z h0 arr ka .byte (4 : Int32) [(.int x0), (.int x1), (.int x2), (.int x3)] (.int 0)) (HB : own_BB Z cs fm u8) :
  own_MF l Z own_y28 (Jvm.Cond.code own_y28 jdk_52_method_5_code 2 (some .char)) [] own_r36_4_1 #[(.ref arr), (.int 1)] h0 (own_P h0 n0 (.int (own_gc x2 x3))) := by
 refine own_open (plainFor_of_name own_pn5) hisR (Ls := #[vr arr, vi 1]) ?_
 intro p e s m below meth c s₁ Bd hZ hx hby hml hown X0 e0
 obtain ⟨-, -, -, -, S_ad, S_hb, S_lb, -, -, -⟩ := id HB
 have N0 := Fr.nil n0
 have f1 := S_ad.ext O0.2
 obtain ⟨T2, X2, e2, st2⟩ := getS2 X0 hx hZ hown (host := "") (Or.inl (own_w hw 157 rfl)) Via.refl e0 f1 (g := (mkF m 0 #[vr arr, vi 1] [])) rfl (hb hby own_d36_0)
 refine own_st (T' := T2) (g' := (mkF m 3 #[vr arr, vi 1] [(.int 1)])) st2 ?_
 refine own_st (T' := T2) (g' := (mkF m 37 #[vr arr, vi 3] [(.int 2), (.ref arr)])) (fun t k => ?_) ?_
 ·refine XS.ifYes X2.here hx rfl (pc0 := 3) (pc' := 28) rfl (hb hby own_d36_3) rfl ((if0 _ _).trans (feq (by decide : ¬ ((1 : Int32) = (0 : Int32)))).2) (by decide) (by decide) ?_
  refine XS.iloadN X2.here hx rfl (hb hby own_d36_28) rfl ?_
  refine XS.iconst X2.here hx rfl (hb hby own_d36_29) ?_
  refine XS.ishl X2.here hx rfl (hb hby own_d36_30) rfl ?_
  refine XS.istoreN X2.here hx rfl (hb hby own_d36_31) rfl (l' := #[vr arr, vi 2]) rfl ?_
  refine XS.aloadN X2.here hx rfl (hb hby own_d36_32) rfl rfl ?_
  refine XS.iloadN X2.here hx rfl (hb hby own_d36_33) rfl ?_
  refine XS.iinc X2.here hx rfl (hb hby own_d36_34) rfl (l' := #[vr arr, vi 3]) rfl ?_
  exact k
 obtain ⟨cl3, Ar3, q3, S3, M3, H3, G3⟩ := id V_a
 refine own_st (T' := T2) (g' := (mkF m 42 #[vr arr, vi 3] [(.int (x2 &&& (255 : Int32)))])) (fun t k => ?_) ?_
 ·refine X2.baloadBytes hx (j := (2 : Int32)) (v := (.int x2)) (by rw [e2]; exact Ar3.1) (State.isArrayOf_alike hZ.alike Ar3.2.1) Ar3.2.2 (inb_of S3 ⟨by decide, by decide⟩) (Has.at H3 (inb_of S3 ⟨by decide, by decide⟩) rfl) (g := (mkF m 37 #[vr arr, vi 3] [(.int 2), (.ref arr)])) rfl rfl (hb hby own_d36_37) _ ?_
  refine XS.sipush X2.here hx rfl (hb hby own_d36_38) ?_
  refine XS.iand X2.here hx rfl (hb hby own_d36_41) rfl ?_
  exact k
 have f4 := S_hb.ext O0.2
 obtain ⟨T5, X5, e5, st5⟩ := getS2 X2 hx hZ hown (host := "") (Or.inl (own_w hw 158 rfl)) Via.refl e2 f4 (g := (mkF m 42 #[vr arr, vi 3] [(.int (x2 &&& (255 : Int32)))])) rfl (hb hby own_d36_42)
 refine own_st (T' := T5) (g' := (mkF m 45 #[vr arr, vi 3] [(.int 0), (.int (x2 &&& (255 : Int32)))])) st5 ?_
 refine own_st (T' := T5) (g' := (mkF m 48 #[vr arr, vi 3] [(.int 3), (.ref arr), (.int ((x2 &&& (255 : Int32)) <<< ((0 : Int32) &&& 31)))])) (fun t k => ?_) ?_
 ·refine XS.ishl X5.here hx rfl (hb hby own_d36_45) rfl ?_
  refine XS.aloadN X5.here hx rfl (hb hby own_d36_46) rfl rfl ?_
  refine XS.iloadN X5.here hx rfl (hb hby own_d36_47) rfl ?_
  exact k
 obtain ⟨cl6, Ar6, q6, S6, M6, H6, G6⟩ := id V_a
 refine own_st (T' := T5) (g' := (mkF m 53 #[vr arr, vi 3] [(.int (x3 &&& (255 : Int32))), (.int ((x2 &&& (255 : Int32)) <<< ((0 : Int32) &&& 31)))])) (fun t k => ?_) ?_
 ·refine X5.baloadBytes hx (j := (3 : Int32)) (v := (.int x3)) (by rw [e5]; exact Ar6.1) (State.isArrayOf_alike hZ.alike Ar6.2.1) Ar6.2.2 (inb_of S6 ⟨by decide, by decide⟩) (Has.at H6 (inb_of S6 ⟨by decide, by decide⟩) rfl) (g := (mkF m 48 #[vr arr, vi 3] [(.int 3), (.ref arr), (.int ((x2 &&& (255 : Int32)) <<< ((0 : Int32) &&& 31)))])) rfl rfl (hb hby own_d36_48) _ ?_
  refine XS.sipush X5.here hx rfl (hb hby own_d36_49) ?_
  refine XS.iand X5.here hx rfl (hb hby own_d36_52) rfl ?_
  exact k
 have f7 := S_lb.ext O0.2
 obtain ⟨T8, X8, e8, st8⟩ := getS2 X5 hx hZ hown (host := "") (Or.inl (own_w hw 159 rfl)) Via.refl e5 f7 (g := (mkF m 53 #[vr arr, vi 3] [(.int (x3 &&& (255 : Int32))), (.int ((x2 &&& (255 : Int32)) <<< ((0 : Int32) &&& 31)))])) rfl (hb hby own_d36_53)
 refine own_st (T' := T8) (g' := (mkF m 56 #[vr arr, vi 3] [(.int 8), (.int (x3 &&& (255 : Int32))), (.int ((x2 &&& (255 : Int32)) <<< ((0 : Int32) &&& 31)))])) st8 ?_
 refine own_st (T' := T8) (g' := (mkF m 59 #[vr arr, vi 3] [(.int ((((x2 &&& (255 : Int32)) <<< ((0 : Int32) &&& 31)) ||| ((x3 &&& (255 : Int32)) <<< ((8 : Int32) &&& 31))).toUInt32.toUInt16.toUInt32.toInt32))])) (fun t k => ?_) ?_
 ·refine XS.ishl X8.here hx rfl (hb hby own_d36_56) rfl ?_
  refine XS.ior X8.here hx rfl (hb hby own_d36_57) rfl ?_
  refine XS.i2c X8.here hx rfl (hb hby own_d36_58) rfl ?_
  exact k
 exact own_retN X8 hx Bd (t := .char) (by simp) (XT.narrow_c _) (hb hby own_d36_59) e8 (⟨rfl, N0, rfl⟩) (by decide) (by decide)
def own_r34_2_0 : Room := { frames := 3, cells := 0, slots := 0, locals := 40 }
theorem own_rm34_2_0 (l : Launch) (Z : State) (a0 : Array Value) (hw : own_W a0 Z) (arr : Addr) (ka : ClassId) (x0 x1 : Int32) (cs : Int32) (fm : Value) (u8 : Addr) (h0 : Heap) (n0 : Nat) (Z0 : n0 ≤ h0.size) (O0 : Old Z n0 h0) (V_a : Arv Z h0 arr ka .byte (2 : Int32) [(.int x0), (.int x1)] (.int 0)) (HB : own_BB Z cs fm u8) :
  own_MF l Z own_y29 (Jvm.Cond.code own_y29 jdk_52_method_83_code 2 (some .char)) [] own_r34_2_0 #[(.ref arr), (.int 0)] h0 (own_P h0 n0 (.int (own_gc x0 x1))) := by
 refine own_open (plainFor_of_name own_pn5) hisR (Ls := #[vr arr, vi 0]) ?_
 intro p e s m below meth c s₁ Bd hZ hx hby hml hown X0 e0
 have N0 := Fr.nil n0
 refine own_st (T' := s₁) (g' := (mkF m 2 #[vr arr, vi 0] [(.ref arr), (.int 0)])) (fun t k => ?_) ?_
 ·refine XS.iloadN X0.here hx rfl (hb hby own_d34_0) rfl ?_
  refine XS.aloadN X0.here hx rfl (hb hby own_d34_1) rfl rfl ?_
  exact k
 obtain ⟨_, _, ⟨T1, L1, c1, n1⟩, -, X1, ⟨Lc1, hQ1, l1, y1, z1⟩, st1⟩ := Jvm.LawKit.callS X0 hx (y := own_y27) hown (om hZ hw 166 rfl) (om hZ hw 167 rfl) (om hZ hw 126 rfl) (om hZ hw 168 rfl) (by decide) (backOf (W := 0) (own_rm35_2_0 l Z a0 hw arr ka x0 x1 cs fm u8 h0 n0 Z0 O0 V_a HB) hZ (own_w hw 168 rfl) (own_w hw 126 rfl) (by decide) (by decide)) (g := (mkF m 2 #[vr arr, vi 0] [(.ref arr), (.int 0)])) rfl (by rw [hml]; rfl) (argsL := [(.int 0), (.ref arr)]) (rest := []) (lenOf own_pd21 rfl) rfl (by show 2 * 0 + _ ≤ _; exact Nat.le_of_eq rfl) (hb hby own_d34_2) (fun _ _ => ⟨rfl, e0, (by decide : 0 + 0 ≤ _), (by decide : 0 + 0 ≤ _)⟩)
 dsimp only [Pt.U, Pt.locs, Pt.cells, Pt.slots] at X1 l1 y1 z1 st1 hQ1
 subst l1 y1 z1
 obtain ⟨rfl, N1q, e1⟩ := hQ1
 have N1 := Fr.app N0 N1q
 refine own_st (T' := T1) (g' := (mkF m 5 #[vr arr, vi 0] [])) st1 ?_
 refine own_st (T' := T1) (g' := (mkF m 7 #[vr arr, vi 0] [(.int 0), (.ref arr)])) (fun t k => ?_) ?_
 ·refine XS.aloadN X1.here hx rfl (hb hby own_d34_5) rfl rfl ?_
  refine XS.iloadN X1.here hx rfl (hb hby own_d34_6) rfl ?_
  exact k
 obtain ⟨_, _, ⟨T2, L2, c2, n2⟩, -, X2, ⟨Lc2, hQ2, l2, y2, z2⟩, st2⟩ := Jvm.LawKit.callS X1 hx (y := own_y28) hown (om hZ hw 170 rfl) (om hZ hw 171 rfl) (om hZ hw 126 rfl) (om hZ hw 172 rfl) (by decide) (backOf (W := 0) (own_rm36_2_0 l Z a0 hw arr ka x0 x1 cs fm u8 h0 n0 Z0 O0 V_a HB) hZ (own_w hw 172 rfl) (own_w hw 126 rfl) (by decide) (by decide)) (g := (mkF m 7 #[vr arr, vi 0] [(.int 0), (.ref arr)])) rfl (by rw [hml]; rfl) (argsL := [(.ref arr), (.int 0)]) (rest := []) (lenOf own_pd22 rfl) rfl (by show 2 * 0 + _ ≤ _; exact Nat.le_of_eq rfl) (hb hby own_d34_7) (fun _ _ => ⟨rfl, e1, (by decide : 0 + 0 ≤ _), (by decide : 0 + 0 ≤ _)⟩)
 dsimp only [Pt.U, Pt.locs, Pt.cells, Pt.slots] at X2 l2 y2 z2 st2 hQ2
 subst l2 y2 z2
 obtain ⟨rfl, N2q, e2⟩ := hQ2
 have N2 := Fr.app N1 N2q
 refine own_st (T' := T2) (g' := (mkF m 10 #[vr arr, vi 0] [(.int (own_gc x0 x1))])) st2 ?_
 exact own_retN X2 hx Bd (t := .char) (by simp) (XT.narrow_c _) (hb hby own_d34_10) e2 (⟨rfl, N2, rfl⟩) (by decide) (by decide)
def own_r34_4_0 : Room := { frames := 3, cells := 0, slots := 0, locals := 40 }
theorem own_rm34_4_0 (l : Launch) (Z : State) (a0 : Array Value) (hw : own_W a0 Z) (arr : Addr) (ka : ClassId) (x0 x1 x2 x3 : Int32) (cs : Int32) (fm : Value) (u8 : Addr) (h0 : Heap) (n0 : Nat) (Z0 : n0 ≤ h0.size) (O0 : Old Z n0 h0) (V_a : Arv Z h0 arr ka .byte (4 : Int32) [(.int x0), (.int x1), (.int x2), (.int x3)] (.int 0)) (HB : own_BB Z cs fm u8) :
  own_MF l Z own_y29 (Jvm.Cond.code own_y29 jdk_52_method_83_code 2 (some .char)) [] own_r34_4_0 #[(.ref arr), (.int 0)] h0 (own_P h0 n0 (.int (own_gc x0 x1))) := by
 refine own_open (plainFor_of_name own_pn5) hisR (Ls := #[vr arr, vi 0]) ?_
 intro p e s m below meth c s₁ Bd hZ hx hby hml hown X0 e0
 have N0 := Fr.nil n0
 refine own_st (T' := s₁) (g' := (mkF m 2 #[vr arr, vi 0] [(.ref arr), (.int 0)])) (fun t k => ?_) ?_
 ·refine XS.iloadN X0.here hx rfl (hb hby own_d34_0) rfl ?_
  refine XS.aloadN X0.here hx rfl (hb hby own_d34_1) rfl rfl ?_
  exact k
 obtain ⟨_, _, ⟨T1, L1, c1, n1⟩, -, X1, ⟨Lc1, hQ1, l1, y1, z1⟩, st1⟩ := Jvm.LawKit.callS X0 hx (y := own_y27) hown (om hZ hw 166 rfl) (om hZ hw 167 rfl) (om hZ hw 126 rfl) (om hZ hw 168 rfl) (by decide) (backOf (W := 0) (own_rm35_4_0 l Z a0 hw arr ka x0 x1 x2 x3 cs fm u8 h0 n0 Z0 O0 V_a HB) hZ (own_w hw 168 rfl) (own_w hw 126 rfl) (by decide) (by decide)) (g := (mkF m 2 #[vr arr, vi 0] [(.ref arr), (.int 0)])) rfl (by rw [hml]; rfl) (argsL := [(.int 0), (.ref arr)]) (rest := []) (lenOf own_pd21 rfl) rfl (by show 2 * 0 + _ ≤ _; exact Nat.le_of_eq rfl) (hb hby own_d34_2) (fun _ _ => ⟨rfl, e0, (by decide : 0 + 0 ≤ _), (by decide : 0 + 0 ≤ _)⟩)
 dsimp only [Pt.U, Pt.locs, Pt.cells, Pt.slots] at X1 l1 y1 z1 st1 hQ1
 subst l1 y1 z1
 obtain ⟨rfl, N1q, e1⟩ := hQ1
 have N1 := Fr.app N0 N1q
 refine own_st (T' := T1) (g' := (mkF m 5 #[vr arr, vi 0] [])) st1 ?_
 refine own_st (T' := T1) (g' := (mkF m 7 #[vr arr, vi 0] [(.int 0), (.ref arr)])) (fun t k => ?_) ?_
 ·refine XS.aloadN X1.here hx rfl (hb hby own_d34_5) rfl rfl ?_
  refine XS.iloadN X1.here hx rfl (hb hby own_d34_6) rfl ?_
  exact k
 obtain ⟨_, _, ⟨T2, L2, c2, n2⟩, -, X2, ⟨Lc2, hQ2, l2, y2, z2⟩, st2⟩ := Jvm.LawKit.callS X1 hx (y := own_y28) hown (om hZ hw 170 rfl) (om hZ hw 171 rfl) (om hZ hw 126 rfl) (om hZ hw 172 rfl) (by decide) (backOf (W := 0) (own_rm36_4_0 l Z a0 hw arr ka x0 x1 x2 x3 cs fm u8 h0 n0 Z0 O0 V_a HB) hZ (own_w hw 172 rfl) (own_w hw 126 rfl) (by decide) (by decide)) (g := (mkF m 7 #[vr arr, vi 0] [(.int 0), (.ref arr)])) rfl (by rw [hml]; rfl) (argsL := [(.ref arr), (.int 0)]) (rest := []) (lenOf own_pd22 rfl) rfl (by show 2 * 0 + _ ≤ _; exact Nat.le_of_eq rfl) (hb hby own_d34_7) (fun _ _ => ⟨rfl, e1, (by decide : 0 + 0 ≤ _), (by decide : 0 + 0 ≤ _)⟩)
 dsimp only [Pt.U, Pt.locs, Pt.cells, Pt.slots] at X2 l2 y2 z2 st2 hQ2
 subst l2 y2 z2
 obtain ⟨rfl, N2q, e2⟩ := hQ2
 have N2 := Fr.app N1 N2q
 refine own_st (T' := T2) (g' := (mkF m 10 #[vr arr, vi 0] [(.int (own_gc x0 x1))])) st2 ?_
 exact own_retN X2 hx Bd (t := .char) (by simp) (XT.narrow_c _) (hb hby own_d34_10) e2 (⟨rfl, N2, rfl⟩) (by decide) (by decide)
def own_r34_4_1 : Room := { frames := 3, cells := 0, slots := 0, locals := 40 }
theorem own_rm34_4_1 (l : Launch) (Z : State) (a0 : Array Value) (hw : own_W a0 Z) (arr : Addr) (ka : ClassId) (x0 x1 x2 x3 : Int32) (cs : Int32) (fm : Value) (u8 : Addr) (h0 : Heap) (n0 : Nat) (Z0 : n0 ≤ h0.size) (O0 : Old Z n0 h0) (V_a : Arv Z h0 arr ka .byte (4 : Int32) [(.int x0), (.int x1), (.int x2), (.int x3)] (.int 0)) (HB : own_BB Z cs fm u8) :
  own_MF l Z own_y29 (Jvm.Cond.code own_y29 jdk_52_method_83_code 2 (some .char)) [] own_r34_4_1 #[(.ref arr), (.int 1)] h0 (own_P h0 n0 (.int (own_gc x2 x3))) := by
 refine own_open (plainFor_of_name own_pn5) hisR (Ls := #[vr arr, vi 1]) ?_
 intro p e s m below meth c s₁ Bd hZ hx hby hml hown X0 e0
 have N0 := Fr.nil n0
 refine own_st (T' := s₁) (g' := (mkF m 2 #[vr arr, vi 1] [(.ref arr), (.int 1)])) (fun t k => ?_) ?_
 ·refine XS.iloadN X0.here hx rfl (hb hby own_d34_0) rfl ?_
  refine XS.aloadN X0.here hx rfl (hb hby own_d34_1) rfl rfl ?_
  exact k
 obtain ⟨_, _, ⟨T1, L1, c1, n1⟩, -, X1, ⟨Lc1, hQ1, l1, y1, z1⟩, st1⟩ := Jvm.LawKit.callS X0 hx (y := own_y27) hown (om hZ hw 166 rfl) (om hZ hw 167 rfl) (om hZ hw 126 rfl) (om hZ hw 168 rfl) (by decide) (backOf (W := 0) (own_rm35_4_1 l Z a0 hw arr ka x0 x1 x2 x3 cs fm u8 h0 n0 Z0 O0 V_a HB) hZ (own_w hw 168 rfl) (own_w hw 126 rfl) (by decide) (by decide)) (g := (mkF m 2 #[vr arr, vi 1] [(.ref arr), (.int 1)])) rfl (by rw [hml]; rfl) (argsL := [(.int 1), (.ref arr)]) (rest := []) (lenOf own_pd21 rfl) rfl (by show 2 * 0 + _ ≤ _; exact Nat.le_of_eq rfl) (hb hby own_d34_2) (fun _ _ => ⟨rfl, e0, (by decide : 0 + 0 ≤ _), (by decide : 0 + 0 ≤ _)⟩)
 dsimp only [Pt.U, Pt.locs, Pt.cells, Pt.slots] at X1 l1 y1 z1 st1 hQ1
 subst l1 y1 z1
 obtain ⟨rfl, N1q, e1⟩ := hQ1
 have N1 := Fr.app N0 N1q
 refine own_st (T' := T1) (g' := (mkF m 5 #[vr arr, vi 1] [])) st1 ?_
 refine own_st (T' := T1) (g' := (mkF m 7 #[vr arr, vi 1] [(.int 1), (.ref arr)])) (fun t k => ?_) ?_
 ·refine XS.aloadN X1.here hx rfl (hb hby own_d34_5) rfl rfl ?_
  refine XS.iloadN X1.here hx rfl (hb hby own_d34_6) rfl ?_
  exact k
 obtain ⟨_, _, ⟨T2, L2, c2, n2⟩, -, X2, ⟨Lc2, hQ2, l2, y2, z2⟩, st2⟩ := Jvm.LawKit.callS X1 hx (y := own_y28) hown (om hZ hw 170 rfl) (om hZ hw 171 rfl) (om hZ hw 126 rfl) (om hZ hw 172 rfl) (by decide) (backOf (W := 0) (own_rm36_4_1 l Z a0 hw arr ka x0 x1 x2 x3 cs fm u8 h0 n0 Z0 O0 V_a HB) hZ (own_w hw 172 rfl) (own_w hw 126 rfl) (by decide) (by decide)) (g := (mkF m 7 #[vr arr, vi 1] [(.int 1), (.ref arr)])) rfl (by rw [hml]; rfl) (argsL := [(.ref arr), (.int 1)]) (rest := []) (lenOf own_pd22 rfl) rfl (by show 2 * 0 + _ ≤ _; exact Nat.le_of_eq rfl) (hb hby own_d34_7) (fun _ _ => ⟨rfl, e1, (by decide : 0 + 0 ≤ _), (by decide : 0 + 0 ≤ _)⟩)
 dsimp only [Pt.U, Pt.locs, Pt.cells, Pt.slots] at X2 l2 y2 z2 st2 hQ2
 subst l2 y2 z2
 obtain ⟨rfl, N2q, e2⟩ := hQ2
 have N2 := Fr.app N1 N2q
 refine own_st (T' := T2) (g' := (mkF m 10 #[vr arr, vi 1] [(.int (own_gc x2 x3))])) st2 ?_
 exact own_retN X2 hx Bd (t := .char) (by simp) (XT.narrow_c _) (hb hby own_d34_10) e2 (⟨rfl, N2, rfl⟩) (by decide) (by decide)
def own_r20_1_0 : Room := { frames := 2, cells := 0, slots := 0, locals := 27 }
theorem own_rm20_1_0 (l : Launch) (Z : State) (a0 : Array Value) (hw : own_W a0 Z) (arr : Addr) (ka : ClassId) (x0 : Int32) (cs : Int32) (fm : Value) (u8 : Addr) (h0 : Heap) (n0 : Nat) (Z0 : n0 ≤ h0.size) (O0 : Old Z n0 h0) (V_a : Arv Z h0 arr ka .byte (1 : Int32) [(.int x0)] (.int 0)) (HB : own_BB Z cs fm u8) :
  own_MF l Z own_y30 (Jvm.Cond.code own_y30 jdk_43_method_2_code 2 (some .char)) [] own_r20_1_0 #[(.ref arr), (.int 0)] h0 (own_P h0 n0 (.int (own_lc x0))) := by
 refine own_open (plainFor_of_name own_pn6) hisR (Ls := #[vr arr, vi 0]) ?_
 intro p e s m below meth c s₁ Bd hZ hx hby hml hown X0 e0
 have N0 := Fr.nil n0
 refine own_st (T' := s₁) (g' := (mkF m 2 #[vr arr, vi 0] [(.ref arr), (.int 0)])) (fun t k => ?_) ?_
 ·refine XS.iloadN X0.here hx rfl (hb hby own_d20_0) rfl ?_
  refine XS.aloadN X0.here hx rfl (hb hby own_d20_1) rfl rfl ?_
  exact k
 obtain ⟨cl1, Ar1, q1, S1, M1, H1, G1⟩ := id V_a
 refine own_st (T' := s₁) (g' := (mkF m 3 #[vr arr, vi 0] [(.int 1), (.int 0)])) (fun t k => ?_) ?_
 ·refine X0.arraylength hx (by rw [e0]; exact Ar1.1) (State.isArrayOf_alike hZ.alike Ar1.2.1) (g := (mkF m 2 #[vr arr, vi 0] [(.ref arr), (.int 0)])) rfl rfl (hb hby own_d20_2) _ ?_
  rw [len_of S1 M1]
  exact k
 obtain ⟨_, _, ⟨T2, L2, c2, n2⟩, -, X2, ⟨Lc2, hQ2, l2, y2, z2⟩, st2⟩ := Jvm.LawKit.callS X0 hx (y := own_y1) hown (om hZ hw 118 rfl) (om hZ hw 119 rfl) (om hZ hw 37 rfl) (om hZ hw 120 rfl) (by decide) (backOf (W := 0) (own_rm21 l Z a0 hw (0 : Int32) (1 : Int32) cs fm u8 h0 n0 Z0 O0 (by decide) (by decide) HB) hZ (own_w hw 120 rfl) (own_w hw 37 rfl) (by decide) (by decide)) (g := (mkF m 3 #[vr arr, vi 0] [(.int 1), (.int 0)])) rfl (by rw [hml]; rfl) (argsL := [(.int 0), (.int 1)]) (rest := []) (lenOf own_pd2 rfl) rfl (by show 2 * 0 + _ ≤ _; exact Nat.le_of_eq rfl) (hb hby own_d20_3) (fun _ _ => ⟨rfl, e0, (by decide : 0 + 0 ≤ _), (by decide : 0 + 0 ≤ _)⟩)
 dsimp only [Pt.U, Pt.locs, Pt.cells, Pt.slots] at X2 l2 y2 z2 st2 hQ2
 subst l2 y2 z2
 obtain ⟨rfl, N2q, e2⟩ := hQ2
 have N2 := Fr.app N0 N2q
 refine own_st (T' := T2) (g' := (mkF m 6 #[vr arr, vi 0] [])) st2 ?_
 refine own_st (T' := T2) (g' := (mkF m 8 #[vr arr, vi 0] [(.int 0), (.ref arr)])) (fun t k => ?_) ?_
 ·refine XS.aloadN X2.here hx rfl (hb hby own_d20_6) rfl rfl ?_
  refine XS.iloadN X2.here hx rfl (hb hby own_d20_7) rfl ?_
  exact k
 obtain ⟨cl3, Ar3, q3, S3, M3, H3, G3⟩ := id V_a
 refine own_st (T' := T2) (g' := (mkF m 14 #[vr arr, vi 0] [(.int ((x0 &&& (255 : Int32)).toUInt32.toUInt16.toUInt32.toInt32))])) (fun t k => ?_) ?_
 ·refine X2.baloadBytes hx (j := (0 : Int32)) (v := (.int x0)) (by rw [e2]; exact Ar3.1) (State.isArrayOf_alike hZ.alike Ar3.2.1) Ar3.2.2 (inb_of S3 ⟨by decide, by decide⟩) (Has.at H3 (inb_of S3 ⟨by decide, by decide⟩) rfl) (g := (mkF m 8 #[vr arr, vi 0] [(.int 0), (.ref arr)])) rfl rfl (hb hby own_d20_8) _ ?_
  refine XS.sipush X2.here hx rfl (hb hby own_d20_9) ?_
  refine XS.iand X2.here hx rfl (hb hby own_d20_12) rfl ?_
  refine XS.i2c X2.here hx rfl (hb hby own_d20_13) rfl ?_
  exact k
 exact own_retN X2 hx Bd (t := .char) (by simp) (XT.narrow_c _) (hb hby own_d20_14) e2 (⟨rfl, N2, rfl⟩) (by decide) (by decide)
def own_r20_2_0 : Room := { frames := 2, cells := 0, slots := 0, locals := 27 }
theorem own_rm20_2_0 (l : Launch) (Z : State) (a0 : Array Value) (hw : own_W a0 Z) (arr : Addr) (ka : ClassId) (x0 x1 : Int32) (cs : Int32) (fm : Value) (u8 : Addr) (h0 : Heap) (n0 : Nat) (Z0 : n0 ≤ h0.size) (O0 : Old Z n0 h0) (V_a : Arv Z h0 arr ka .byte (2 : Int32) [(.int x0), (.int x1)] (.int 0)) (HB : own_BB Z cs fm u8) :
  own_MF l Z own_y30 (Jvm.Cond.code own_y30 jdk_43_method_2_code 2 (some .char)) [] own_r20_2_0 #[(.ref arr), (.int 0)] h0 (own_P h0 n0 (.int (own_lc x0))) := by
 refine own_open (plainFor_of_name own_pn6) hisR (Ls := #[vr arr, vi 0]) ?_
 intro p e s m below meth c s₁ Bd hZ hx hby hml hown X0 e0
 have N0 := Fr.nil n0
 refine own_st (T' := s₁) (g' := (mkF m 2 #[vr arr, vi 0] [(.ref arr), (.int 0)])) (fun t k => ?_) ?_
 ·refine XS.iloadN X0.here hx rfl (hb hby own_d20_0) rfl ?_
  refine XS.aloadN X0.here hx rfl (hb hby own_d20_1) rfl rfl ?_
  exact k
 obtain ⟨cl1, Ar1, q1, S1, M1, H1, G1⟩ := id V_a
 refine own_st (T' := s₁) (g' := (mkF m 3 #[vr arr, vi 0] [(.int 2), (.int 0)])) (fun t k => ?_) ?_
 ·refine X0.arraylength hx (by rw [e0]; exact Ar1.1) (State.isArrayOf_alike hZ.alike Ar1.2.1) (g := (mkF m 2 #[vr arr, vi 0] [(.ref arr), (.int 0)])) rfl rfl (hb hby own_d20_2) _ ?_
  rw [len_of S1 M1]
  exact k
 obtain ⟨_, _, ⟨T2, L2, c2, n2⟩, -, X2, ⟨Lc2, hQ2, l2, y2, z2⟩, st2⟩ := Jvm.LawKit.callS X0 hx (y := own_y1) hown (om hZ hw 118 rfl) (om hZ hw 119 rfl) (om hZ hw 37 rfl) (om hZ hw 120 rfl) (by decide) (backOf (W := 0) (own_rm21 l Z a0 hw (0 : Int32) (2 : Int32) cs fm u8 h0 n0 Z0 O0 (by decide) (by decide) HB) hZ (own_w hw 120 rfl) (own_w hw 37 rfl) (by decide) (by decide)) (g := (mkF m 3 #[vr arr, vi 0] [(.int 2), (.int 0)])) rfl (by rw [hml]; rfl) (argsL := [(.int 0), (.int 2)]) (rest := []) (lenOf own_pd2 rfl) rfl (by show 2 * 0 + _ ≤ _; exact Nat.le_of_eq rfl) (hb hby own_d20_3) (fun _ _ => ⟨rfl, e0, (by decide : 0 + 0 ≤ _), (by decide : 0 + 0 ≤ _)⟩)
 dsimp only [Pt.U, Pt.locs, Pt.cells, Pt.slots] at X2 l2 y2 z2 st2 hQ2
 subst l2 y2 z2
 obtain ⟨rfl, N2q, e2⟩ := hQ2
 have N2 := Fr.app N0 N2q
 refine own_st (T' := T2) (g' := (mkF m 6 #[vr arr, vi 0] [])) st2 ?_
 refine own_st (T' := T2) (g' := (mkF m 8 #[vr arr, vi 0] [(.int 0), (.ref arr)])) (fun t k => ?_) ?_
 ·refine XS.aloadN X2.here hx rfl (hb hby own_d20_6) rfl rfl ?_
  refine XS.iloadN X2.here hx rfl (hb hby own_d20_7) rfl ?_
  exact k
 obtain ⟨cl3, Ar3, q3, S3, M3, H3, G3⟩ := id V_a
 refine own_st (T' := T2) (g' := (mkF m 14 #[vr arr, vi 0] [(.int ((x0 &&& (255 : Int32)).toUInt32.toUInt16.toUInt32.toInt32))])) (fun t k => ?_) ?_
 ·refine X2.baloadBytes hx (j := (0 : Int32)) (v := (.int x0)) (by rw [e2]; exact Ar3.1) (State.isArrayOf_alike hZ.alike Ar3.2.1) Ar3.2.2 (inb_of S3 ⟨by decide, by decide⟩) (Has.at H3 (inb_of S3 ⟨by decide, by decide⟩) rfl) (g := (mkF m 8 #[vr arr, vi 0] [(.int 0), (.ref arr)])) rfl rfl (hb hby own_d20_8) _ ?_
  refine XS.sipush X2.here hx rfl (hb hby own_d20_9) ?_
  refine XS.iand X2.here hx rfl (hb hby own_d20_12) rfl ?_
  refine XS.i2c X2.here hx rfl (hb hby own_d20_13) rfl ?_
  exact k
 exact own_retN X2 hx Bd (t := .char) (by simp) (XT.narrow_c _) (hb hby own_d20_14) e2 (⟨rfl, N2, rfl⟩) (by decide) (by decide)
def own_r20_2_1 : Room := { frames := 2, cells := 0, slots := 0, locals := 27 }
theorem own_rm20_2_1 (l : Launch) (Z : State) (a0 : Array Value) (hw : own_W a0 Z) (arr : Addr) (ka : ClassId) (x0 x1 : Int32) (cs : Int32) (fm : Value) (u8 : Addr) (h0 : Heap) (n0 : Nat) (Z0 : n0 ≤ h0.size) (O0 : Old Z n0 h0) (V_a : Arv Z h0 arr ka .byte (2 : Int32) [(.int x0), (.int x1)] (.int 0)) (HB : own_BB Z cs fm u8) :
  own_MF l Z own_y30 (Jvm.Cond.code own_y30 jdk_43_method_2_code 2 (some .char)) [] own_r20_2_1 #[(.ref arr), (.int 1)] h0 (own_P h0 n0 (.int (own_lc x1))) := by
 refine own_open (plainFor_of_name own_pn6) hisR (Ls := #[vr arr, vi 1]) ?_
 intro p e s m below meth c s₁ Bd hZ hx hby hml hown X0 e0
 have N0 := Fr.nil n0
 refine own_st (T' := s₁) (g' := (mkF m 2 #[vr arr, vi 1] [(.ref arr), (.int 1)])) (fun t k => ?_) ?_
 ·refine XS.iloadN X0.here hx rfl (hb hby own_d20_0) rfl ?_
  refine XS.aloadN X0.here hx rfl (hb hby own_d20_1) rfl rfl ?_
  exact k
 obtain ⟨cl1, Ar1, q1, S1, M1, H1, G1⟩ := id V_a
 refine own_st (T' := s₁) (g' := (mkF m 3 #[vr arr, vi 1] [(.int 2), (.int 1)])) (fun t k => ?_) ?_
 ·refine X0.arraylength hx (by rw [e0]; exact Ar1.1) (State.isArrayOf_alike hZ.alike Ar1.2.1) (g := (mkF m 2 #[vr arr, vi 1] [(.ref arr), (.int 1)])) rfl rfl (hb hby own_d20_2) _ ?_
  rw [len_of S1 M1]
  exact k
 obtain ⟨_, _, ⟨T2, L2, c2, n2⟩, -, X2, ⟨Lc2, hQ2, l2, y2, z2⟩, st2⟩ := Jvm.LawKit.callS X0 hx (y := own_y1) hown (om hZ hw 118 rfl) (om hZ hw 119 rfl) (om hZ hw 37 rfl) (om hZ hw 120 rfl) (by decide) (backOf (W := 0) (own_rm21 l Z a0 hw (1 : Int32) (2 : Int32) cs fm u8 h0 n0 Z0 O0 (by decide) (by decide) HB) hZ (own_w hw 120 rfl) (own_w hw 37 rfl) (by decide) (by decide)) (g := (mkF m 3 #[vr arr, vi 1] [(.int 2), (.int 1)])) rfl (by rw [hml]; rfl) (argsL := [(.int 1), (.int 2)]) (rest := []) (lenOf own_pd2 rfl) rfl (by show 2 * 0 + _ ≤ _; exact Nat.le_of_eq rfl) (hb hby own_d20_3) (fun _ _ => ⟨rfl, e0, (by decide : 0 + 0 ≤ _), (by decide : 0 + 0 ≤ _)⟩)
 dsimp only [Pt.U, Pt.locs, Pt.cells, Pt.slots] at X2 l2 y2 z2 st2 hQ2
 subst l2 y2 z2
 obtain ⟨rfl, N2q, e2⟩ := hQ2
 have N2 := Fr.app N0 N2q
 refine own_st (T' := T2) (g' := (mkF m 6 #[vr arr, vi 1] [])) st2 ?_
 refine own_st (T' := T2) (g' := (mkF m 8 #[vr arr, vi 1] [(.int 1), (.ref arr)])) (fun t k => ?_) ?_
 ·refine XS.aloadN X2.here hx rfl (hb hby own_d20_6) rfl rfl ?_
  refine XS.iloadN X2.here hx rfl (hb hby own_d20_7) rfl ?_
  exact k
 obtain ⟨cl3, Ar3, q3, S3, M3, H3, G3⟩ := id V_a
 refine own_st (T' := T2) (g' := (mkF m 14 #[vr arr, vi 1] [(.int ((x1 &&& (255 : Int32)).toUInt32.toUInt16.toUInt32.toInt32))])) (fun t k => ?_) ?_
 ·refine X2.baloadBytes hx (j := (1 : Int32)) (v := (.int x1)) (by rw [e2]; exact Ar3.1) (State.isArrayOf_alike hZ.alike Ar3.2.1) Ar3.2.2 (inb_of S3 ⟨by decide, by decide⟩) (Has.at H3 (inb_of S3 ⟨by decide, by decide⟩) rfl) (g := (mkF m 8 #[vr arr, vi 1] [(.int 1), (.ref arr)])) rfl rfl (hb hby own_d20_8) _ ?_
  refine XS.sipush X2.here hx rfl (hb hby own_d20_9) ?_
  refine XS.iand X2.here hx rfl (hb hby own_d20_12) rfl ?_
  refine XS.i2c X2.here hx rfl (hb hby own_d20_13) rfl ?_
  exact k
 exact own_retN X2 hx Bd (t := .char) (by simp) (XT.narrow_c _) (hb hby own_d20_14) e2 (⟨rfl, N2, rfl⟩) (by decide) (by decide)
def own_r20_3_0 : Room := { frames := 2, cells := 0, slots := 0, locals := 27 }
theorem own_rm20_3_0 (l : Launch) (Z : State) (a0 : Array Value) (hw : own_W a0 Z) (arr : Addr) (ka : ClassId) (x0 x1 x2 : Int32) (cs : Int32) (fm : Value) (u8 : Addr) (h0 : Heap) (n0 : Nat) (Z0 : n0 ≤ h0.size) (O0 : Old Z n0 h0) (V_a : Arv Z h0 arr ka .byte (3 : Int32) [(.int x0), (.int x1), (.int x2)] (.int 0)) (HB : own_BB Z cs fm u8) :
  own_MF l Z own_y30 (Jvm.Cond.code own_y30 jdk_43_method_2_code 2 (some .char)) [] own_r20_3_0 #[(.ref arr), (.int 0)] h0 (own_P h0 n0 (.int (own_lc x0))) := by
 refine own_open (plainFor_of_name own_pn6) hisR (Ls := #[vr arr, vi 0]) ?_
 intro p e s m below meth c s₁ Bd hZ hx hby hml hown X0 e0
 have N0 := Fr.nil n0
 refine own_st (T' := s₁) (g' := (mkF m 2 #[vr arr, vi 0] [(.ref arr), (.int 0)])) (fun t k => ?_) ?_
 ·refine XS.iloadN X0.here hx rfl (hb hby own_d20_0) rfl ?_
  refine XS.aloadN X0.here hx rfl (hb hby own_d20_1) rfl rfl ?_
  exact k
 obtain ⟨cl1, Ar1, q1, S1, M1, H1, G1⟩ := id V_a
 refine own_st (T' := s₁) (g' := (mkF m 3 #[vr arr, vi 0] [(.int 3), (.int 0)])) (fun t k => ?_) ?_
 ·refine X0.arraylength hx (by rw [e0]; exact Ar1.1) (State.isArrayOf_alike hZ.alike Ar1.2.1) (g := (mkF m 2 #[vr arr, vi 0] [(.ref arr), (.int 0)])) rfl rfl (hb hby own_d20_2) _ ?_
  rw [len_of S1 M1]
  exact k
 obtain ⟨_, _, ⟨T2, L2, c2, n2⟩, -, X2, ⟨Lc2, hQ2, l2, y2, z2⟩, st2⟩ := Jvm.LawKit.callS X0 hx (y := own_y1) hown (om hZ hw 118 rfl) (om hZ hw 119 rfl) (om hZ hw 37 rfl) (om hZ hw 120 rfl) (by decide) (backOf (W := 0) (own_rm21 l Z a0 hw (0 : Int32) (3 : Int32) cs fm u8 h0 n0 Z0 O0 (by decide) (by decide) HB) hZ (own_w hw 120 rfl) (own_w hw 37 rfl) (by decide) (by decide)) (g := (mkF m 3 #[vr arr, vi 0] [(.int 3), (.int 0)])) rfl (by rw [hml]; rfl) (argsL := [(.int 0), (.int 3)]) (rest := []) (lenOf own_pd2 rfl) rfl (by show 2 * 0 + _ ≤ _; exact Nat.le_of_eq rfl) (hb hby own_d20_3) (fun _ _ => ⟨rfl, e0, (by decide : 0 + 0 ≤ _), (by decide : 0 + 0 ≤ _)⟩)
 dsimp only [Pt.U, Pt.locs, Pt.cells, Pt.slots] at X2 l2 y2 z2 st2 hQ2
 subst l2 y2 z2
 obtain ⟨rfl, N2q, e2⟩ := hQ2
 have N2 := Fr.app N0 N2q
 refine own_st (T' := T2) (g' := (mkF m 6 #[vr arr, vi 0] [])) st2 ?_
 refine own_st (T' := T2) (g' := (mkF m 8 #[vr arr, vi 0] [(.int 0), (.ref arr)])) (fun t k => ?_) ?_
 ·refine XS.aloadN X2.here hx rfl (hb hby own_d20_6) rfl rfl ?_
  refine XS.iloadN X2.here hx rfl (hb hby own_d20_7) rfl ?_
  exact k
 obtain ⟨cl3, Ar3, q3, S3, M3, H3, G3⟩ := id V_a
 refine own_st (T' := T2) (g' := (mkF m 14 #[vr arr, vi 0] [(.int ((x0 &&& (255 : Int32)).toUInt32.toUInt16.toUInt32.toInt32))])) (fun t k => ?_) ?_
 ·refine X2.baloadBytes hx (j := (0 : Int32)) (v := (.int x0)) (by rw [e2]; exact Ar3.1) (State.isArrayOf_alike hZ.alike Ar3.2.1) Ar3.2.2 (inb_of S3 ⟨by decide, by decide⟩) (Has.at H3 (inb_of S3 ⟨by decide, by decide⟩) rfl) (g := (mkF m 8 #[vr arr, vi 0] [(.int 0), (.ref arr)])) rfl rfl (hb hby own_d20_8) _ ?_
  refine XS.sipush X2.here hx rfl (hb hby own_d20_9) ?_
  refine XS.iand X2.here hx rfl (hb hby own_d20_12) rfl ?_
  refine XS.i2c X2.here hx rfl (hb hby own_d20_13) rfl ?_
  exact k
 exact own_retN X2 hx Bd (t := .char) (by simp) (XT.narrow_c _) (hb hby own_d20_14) e2 (⟨rfl, N2, rfl⟩) (by decide) (by decide)
def own_r20_3_1 : Room := { frames := 2, cells := 0, slots := 0, locals := 27 }
theorem own_rm20_3_1 (l : Launch) (Z : State) (a0 : Array Value) (hw : own_W a0 Z) (arr : Addr) (ka : ClassId) (x0 x1 x2 : Int32) (cs : Int32) (fm : Value) (u8 : Addr) (h0 : Heap) (n0 : Nat) (Z0 : n0 ≤ h0.size) (O0 : Old Z n0 h0) (V_a : Arv Z h0 arr ka .byte (3 : Int32) [(.int x0), (.int x1), (.int x2)] (.int 0)) (HB : own_BB Z cs fm u8) :
  own_MF l Z own_y30 (Jvm.Cond.code own_y30 jdk_43_method_2_code 2 (some .char)) [] own_r20_3_1 #[(.ref arr), (.int 1)] h0 (own_P h0 n0 (.int (own_lc x1))) := by
 refine own_open (plainFor_of_name own_pn6) hisR (Ls := #[vr arr, vi 1]) ?_
 intro p e s m below meth c s₁ Bd hZ hx hby hml hown X0 e0
 have N0 := Fr.nil n0
 refine own_st (T' := s₁) (g' := (mkF m 2 #[vr arr, vi 1] [(.ref arr), (.int 1)])) (fun t k => ?_) ?_
 ·refine XS.iloadN X0.here hx rfl (hb hby own_d20_0) rfl ?_
  refine XS.aloadN X0.here hx rfl (hb hby own_d20_1) rfl rfl ?_
  exact k
 obtain ⟨cl1, Ar1, q1, S1, M1, H1, G1⟩ := id V_a
 refine own_st (T' := s₁) (g' := (mkF m 3 #[vr arr, vi 1] [(.int 3), (.int 1)])) (fun t k => ?_) ?_
 ·refine X0.arraylength hx (by rw [e0]; exact Ar1.1) (State.isArrayOf_alike hZ.alike Ar1.2.1) (g := (mkF m 2 #[vr arr, vi 1] [(.ref arr), (.int 1)])) rfl rfl (hb hby own_d20_2) _ ?_
  rw [len_of S1 M1]
  exact k
 obtain ⟨_, _, ⟨T2, L2, c2, n2⟩, -, X2, ⟨Lc2, hQ2, l2, y2, z2⟩, st2⟩ := Jvm.LawKit.callS X0 hx (y := own_y1) hown (om hZ hw 118 rfl) (om hZ hw 119 rfl) (om hZ hw 37 rfl) (om hZ hw 120 rfl) (by decide) (backOf (W := 0) (own_rm21 l Z a0 hw (1 : Int32) (3 : Int32) cs fm u8 h0 n0 Z0 O0 (by decide) (by decide) HB) hZ (own_w hw 120 rfl) (own_w hw 37 rfl) (by decide) (by decide)) (g := (mkF m 3 #[vr arr, vi 1] [(.int 3), (.int 1)])) rfl (by rw [hml]; rfl) (argsL := [(.int 1), (.int 3)]) (rest := []) (lenOf own_pd2 rfl) rfl (by show 2 * 0 + _ ≤ _; exact Nat.le_of_eq rfl) (hb hby own_d20_3) (fun _ _ => ⟨rfl, e0, (by decide : 0 + 0 ≤ _), (by decide : 0 + 0 ≤ _)⟩)
 dsimp only [Pt.U, Pt.locs, Pt.cells, Pt.slots] at X2 l2 y2 z2 st2 hQ2
 subst l2 y2 z2
 obtain ⟨rfl, N2q, e2⟩ := hQ2
 have N2 := Fr.app N0 N2q
 refine own_st (T' := T2) (g' := (mkF m 6 #[vr arr, vi 1] [])) st2 ?_
 refine own_st (T' := T2) (g' := (mkF m 8 #[vr arr, vi 1] [(.int 1), (.ref arr)])) (fun t k => ?_) ?_
 ·refine XS.aloadN X2.here hx rfl (hb hby own_d20_6) rfl rfl ?_
  refine XS.iloadN X2.here hx rfl (hb hby own_d20_7) rfl ?_
  exact k
 obtain ⟨cl3, Ar3, q3, S3, M3, H3, G3⟩ := id V_a
 refine own_st (T' := T2) (g' := (mkF m 14 #[vr arr, vi 1] [(.int ((x1 &&& (255 : Int32)).toUInt32.toUInt16.toUInt32.toInt32))])) (fun t k => ?_) ?_
 ·refine X2.baloadBytes hx (j := (1 : Int32)) (v := (.int x1)) (by rw [e2]; exact Ar3.1) (State.isArrayOf_alike hZ.alike Ar3.2.1) Ar3.2.2 (inb_of S3 ⟨by decide, by decide⟩) (Has.at H3 (inb_of S3 ⟨by decide, by decide⟩) rfl) (g := (mkF m 8 #[vr arr, vi 1] [(.int 1), (.ref arr)])) rfl rfl (hb hby own_d20_8) _ ?_
  refine XS.sipush X2.here hx rfl (hb hby own_d20_9) ?_
  refine XS.iand X2.here hx rfl (hb hby own_d20_12) rfl ?_
  refine XS.i2c X2.here hx rfl (hb hby own_d20_13) rfl ?_
  exact k
 exact own_retN X2 hx Bd (t := .char) (by simp) (XT.narrow_c _) (hb hby own_d20_14) e2 (⟨rfl, N2, rfl⟩) (by decide) (by decide)
def own_r20_3_2 : Room := { frames := 2, cells := 0, slots := 0, locals := 27 }
theorem own_rm20_3_2 (l : Launch) (Z : State) (a0 : Array Value) (hw : own_W a0 Z) (arr : Addr) (ka : ClassId) (x0 x1 x2 : Int32) (cs : Int32) (fm : Value) (u8 : Addr) (h0 : Heap) (n0 : Nat) (Z0 : n0 ≤ h0.size) (O0 : Old Z n0 h0) (V_a : Arv Z h0 arr ka .byte (3 : Int32) [(.int x0), (.int x1), (.int x2)] (.int 0)) (HB : own_BB Z cs fm u8) :
  own_MF l Z own_y30 (Jvm.Cond.code own_y30 jdk_43_method_2_code 2 (some .char)) [] own_r20_3_2 #[(.ref arr), (.int 2)] h0 (own_P h0 n0 (.int (own_lc x2))) := by
 refine own_open (plainFor_of_name own_pn6) hisR (Ls := #[vr arr, vi 2]) ?_
 intro p e s m below meth c s₁ Bd hZ hx hby hml hown X0 e0
 have N0 := Fr.nil n0
 refine own_st (T' := s₁) (g' := (mkF m 2 #[vr arr, vi 2] [(.ref arr), (.int 2)])) (fun t k => ?_) ?_
 ·refine XS.iloadN X0.here hx rfl (hb hby own_d20_0) rfl ?_
  refine XS.aloadN X0.here hx rfl (hb hby own_d20_1) rfl rfl ?_
  exact k
 obtain ⟨cl1, Ar1, q1, S1, M1, H1, G1⟩ := id V_a
 refine own_st (T' := s₁) (g' := (mkF m 3 #[vr arr, vi 2] [(.int 3), (.int 2)])) (fun t k => ?_) ?_
 ·refine X0.arraylength hx (by rw [e0]; exact Ar1.1) (State.isArrayOf_alike hZ.alike Ar1.2.1) (g := (mkF m 2 #[vr arr, vi 2] [(.ref arr), (.int 2)])) rfl rfl (hb hby own_d20_2) _ ?_
  rw [len_of S1 M1]
  exact k
 obtain ⟨_, _, ⟨T2, L2, c2, n2⟩, -, X2, ⟨Lc2, hQ2, l2, y2, z2⟩, st2⟩ := Jvm.LawKit.callS X0 hx (y := own_y1) hown (om hZ hw 118 rfl) (om hZ hw 119 rfl) (om hZ hw 37 rfl) (om hZ hw 120 rfl) (by decide) (backOf (W := 0) (own_rm21 l Z a0 hw (2 : Int32) (3 : Int32) cs fm u8 h0 n0 Z0 O0 (by decide) (by decide) HB) hZ (own_w hw 120 rfl) (own_w hw 37 rfl) (by decide) (by decide)) (g := (mkF m 3 #[vr arr, vi 2] [(.int 3), (.int 2)])) rfl (by rw [hml]; rfl) (argsL := [(.int 2), (.int 3)]) (rest := []) (lenOf own_pd2 rfl) rfl (by show 2 * 0 + _ ≤ _; exact Nat.le_of_eq rfl) (hb hby own_d20_3) (fun _ _ => ⟨rfl, e0, (by decide : 0 + 0 ≤ _), (by decide : 0 + 0 ≤ _)⟩)
 dsimp only [Pt.U, Pt.locs, Pt.cells, Pt.slots] at X2 l2 y2 z2 st2 hQ2
 subst l2 y2 z2
 obtain ⟨rfl, N2q, e2⟩ := hQ2
 have N2 := Fr.app N0 N2q
 refine own_st (T' := T2) (g' := (mkF m 6 #[vr arr, vi 2] [])) st2 ?_
 refine own_st (T' := T2) (g' := (mkF m 8 #[vr arr, vi 2] [(.int 2), (.ref arr)])) (fun t k => ?_) ?_
 ·refine XS.aloadN X2.here hx rfl (hb hby own_d20_6) rfl rfl ?_
  refine XS.iloadN X2.here hx rfl (hb hby own_d20_7) rfl ?_
  exact k
 obtain ⟨cl3, Ar3, q3, S3, M3, H3, G3⟩ := id V_a
 refine own_st (T' := T2) (g' := (mkF m 14 #[vr arr, vi 2] [(.int ((x2 &&& (255 : Int32)).toUInt32.toUInt16.toUInt32.toInt32))])) (fun t k => ?_) ?_
 ·refine X2.baloadBytes hx (j := (2 : Int32)) (v := (.int x2)) (by rw [e2]; exact Ar3.1) (State.isArrayOf_alike hZ.alike Ar3.2.1) Ar3.2.2 (inb_of S3 ⟨by decide, by decide⟩) (Has.at H3 (inb_of S3 ⟨by decide, by decide⟩) rfl) (g := (mkF m 8 #[vr arr, vi 2] [(.int 2), (.ref arr)])) rfl rfl (hb hby own_d20_8) _ ?_
  refine XS.sipush X2.here hx rfl (hb hby own_d20_9) ?_
  refine XS.iand X2.here hx rfl (hb hby own_d20_12) rfl ?_
  refine XS.i2c X2.here hx rfl (hb hby own_d20_13) rfl ?_
  exact k
 exact own_retN X2 hx Bd (t := .char) (by simp) (XT.narrow_c _) (hb hby own_d20_14) e2 (⟨rfl, N2, rfl⟩) (by decide) (by decide)
def own_r18_0_1_0 : Room := { frames := 3, cells := 0, slots := 0, locals := 40 }
theorem own_rm18_0_1_0 (l : Launch) (Z : State) (a0 : Array Value) (hw : own_W a0 Z) (r arr : Addr) (ka : ClassId) (x0 : Int32) (cs : Int32) (fm : Value) (u8 : Addr) (h0 : Heap) (n0 : Nat) (Z0 : n0 ≤ h0.size) (O0 : Old Z n0 h0) (E_r : Exa Z h0 r "java/lang/String") (F_v : Fld Z h0 r "java/lang/String" "value" "[B" (.ref arr)) (F_c : Fld Z h0 r "java/lang/String" "coder" "B" (.int 0)) (V_a : Arv Z h0 arr ka .byte (1 : Int32) [(.int x0)] (.int 0)) (HB : own_BB Z cs fm u8) :
  own_MF l Z own_y31 (Jvm.Cond.code own_y31 jdk_42_method_56_code 2 (some .char)) [] own_r18_0_1_0 #[(.ref r), (.int 0)] h0 (own_P h0 n0 (.int (own_lc x0))) := by
 refine own_open (plainFor_of_name own_pn1) hisR (Ls := #[vr r, vi 0]) ?_
 intro p e s m below meth c s₁ Bd hZ hx hby hml hown X0 e0
 have N0 := Fr.nil n0
 refine own_st (T' := s₁) (g' := (mkF m 1 #[vr r, vi 0] [(.ref r)])) (fun t k => ?_) ?_
 ·refine XS.aloadN X0.here hx rfl (hb hby own_d18_0) rfl rfl ?_
  exact k
 obtain ⟨cq1, kq1, q1a, q1b, q1c⟩ := isOf hZ e0 E_r
 obtain ⟨_, _, ⟨T1, L1, c1, n1⟩, -, X1, ⟨Lc1, hQ1, l1, y1, z1⟩, st1⟩ := X0.virtualBack hx (y := own_y24) (z := own_y24) hown (om hZ hw 109 rfl) (om hZ hw 110 rfl) (notFace_of_selects (args := #[]) (om hZ hw 112 rfl)) (om hZ hw 112 rfl) (om hZ hw 111 rfl) (by decide) (backOf (W := 0) (own_rm19_0_1 l Z a0 hw r arr ka x0 cs fm u8 h0 n0 Z0 O0 E_r F_v F_c V_a HB) hZ (own_w hw 113 rfl) (own_w hw 37 rfl) (by decide) (by decide)) q1a q1c (g := (mkF m 1 #[vr r, vi 0] [(.ref r)])) rfl (by rw [hml]; rfl) (Steps.refl _) (argsL := []) (rest := []) (lenOf own_pd23 rfl) rfl (by show 2 * 0 + _ ≤ _; exact Nat.le_of_eq rfl) (hb hby own_d18_1) (fun _ _ => ⟨rfl, e0, (by decide : 0 + 0 ≤ _), (by decide : 0 + 0 ≤ _)⟩)
 dsimp only [Pt.U, Pt.locs, Pt.cells, Pt.slots] at X1 l1 y1 z1 st1 hQ1
 subst l1 y1 z1
 obtain ⟨rfl, N1q, e1⟩ := hQ1
 have N1 := Fr.app N0 N1q
 refine own_tr (T' := T1) (g' := (mkF m 4 #[vr r, vi 0] [(.int 1)])) st1 ?_
 refine own_st (T' := T1) (g' := (mkF m 8 #[vr r, vi 0] [(.ref r)])) (fun t k => ?_) ?_
 ·refine XS.ifNo X1.here hx rfl (hb hby own_d18_4) rfl ((if0 _ _).trans (feq (by decide : ¬ ((1 : Int32) = (0 : Int32)))).1) ?_
  refine XS.aloadN X1.here hx rfl (hb hby own_d18_7) rfl rfl ?_
  exact k
 obtain ⟨T2, X2, e2, st2⟩ := getF X1 hx hZ hown (host := "") (Or.inl (own_w hw 87 rfl)) Via.refl e1 F_v (g := (mkF m 8 #[vr r, vi 0] [(.ref r)])) rfl rfl (hb hby own_d18_8)
 refine own_st (T' := T2) (g' := (mkF m 11 #[vr r, vi 0] [(.ref arr)])) st2 ?_
 refine own_st (T' := T2) (g' := (mkF m 12 #[vr r, vi 0] [(.int 0), (.ref arr)])) (fun t k => ?_) ?_
 ·refine XS.iloadN X2.here hx rfl (hb hby own_d18_11) rfl ?_
  exact k
 obtain ⟨_, _, ⟨T3, L3, c3, n3⟩, -, X3, ⟨Lc3, hQ3, l3, y3, z3⟩, st3⟩ := Jvm.LawKit.callS X2 hx (y := own_y30) hown (om hZ hw 114 rfl) (om hZ hw 115 rfl) (om hZ hw 116 rfl) (om hZ hw 117 rfl) (by decide) (backOf (W := 0) (own_rm20_1_0 l Z a0 hw arr ka x0 cs fm u8 h0 n0 Z0 O0 V_a HB) hZ (own_w hw 117 rfl) (own_w hw 116 rfl) (by decide) (by decide)) (g := (mkF m 12 #[vr r, vi 0] [(.int 0), (.ref arr)])) rfl (by rw [hml]; rfl) (argsL := [(.ref arr), (.int 0)]) (rest := []) (lenOf own_pd22 rfl) rfl (by show 2 * 0 + _ ≤ _; exact Nat.le_of_eq rfl) (hb hby own_d18_12) (fun _ _ => ⟨rfl, e2, (by decide : 0 + 0 ≤ _), (by decide : 0 + 0 ≤ _)⟩)
 dsimp only [Pt.U, Pt.locs, Pt.cells, Pt.slots] at X3 l3 y3 z3 st3 hQ3
 subst l3 y3 z3
 obtain ⟨rfl, N3q, e3⟩ := hQ3
 have N3 := Fr.app N1 N3q
 refine own_st (T' := T3) (g' := (mkF m 15 #[vr r, vi 0] [(.int (own_lc x0))])) st3 ?_
 exact own_retN X3 hx Bd (t := .char) (by simp) (XT.narrow_c _) (hb hby own_d18_15) e3 (⟨rfl, N3, rfl⟩) (by decide) (by decide)
def own_r18_0_2_0 : Room := { frames := 3, cells := 0, slots := 0, locals := 40 }
theorem own_rm18_0_2_0 (l : Launch) (Z : State) (a0 : Array Value) (hw : own_W a0 Z) (r arr : Addr) (ka : ClassId) (x0 x1 : Int32) (cs : Int32) (fm : Value) (u8 : Addr) (h0 : Heap) (n0 : Nat) (Z0 : n0 ≤ h0.size) (O0 : Old Z n0 h0) (E_r : Exa Z h0 r "java/lang/String") (F_v : Fld Z h0 r "java/lang/String" "value" "[B" (.ref arr)) (F_c : Fld Z h0 r "java/lang/String" "coder" "B" (.int 0)) (V_a : Arv Z h0 arr ka .byte (2 : Int32) [(.int x0), (.int x1)] (.int 0)) (HB : own_BB Z cs fm u8) :
  own_MF l Z own_y31 (Jvm.Cond.code own_y31 jdk_42_method_56_code 2 (some .char)) [] own_r18_0_2_0 #[(.ref r), (.int 0)] h0 (own_P h0 n0 (.int (own_lc x0))) := by
 refine own_open (plainFor_of_name own_pn1) hisR (Ls := #[vr r, vi 0]) ?_
 intro p e s m below meth c s₁ Bd hZ hx hby hml hown X0 e0
 have N0 := Fr.nil n0
 refine own_st (T' := s₁) (g' := (mkF m 1 #[vr r, vi 0] [(.ref r)])) (fun t k => ?_) ?_
 ·refine XS.aloadN X0.here hx rfl (hb hby own_d18_0) rfl rfl ?_
  exact k
 obtain ⟨cq1, kq1, q1a, q1b, q1c⟩ := isOf hZ e0 E_r
 obtain ⟨_, _, ⟨T1, L1, c1, n1⟩, -, X1, ⟨Lc1, hQ1, l1, y1, z1⟩, st1⟩ := X0.virtualBack hx (y := own_y24) (z := own_y24) hown (om hZ hw 109 rfl) (om hZ hw 110 rfl) (notFace_of_selects (args := #[]) (om hZ hw 112 rfl)) (om hZ hw 112 rfl) (om hZ hw 111 rfl) (by decide) (backOf (W := 0) (own_rm19_0_2 l Z a0 hw r arr ka x0 x1 cs fm u8 h0 n0 Z0 O0 E_r F_v F_c V_a HB) hZ (own_w hw 113 rfl) (own_w hw 37 rfl) (by decide) (by decide)) q1a q1c (g := (mkF m 1 #[vr r, vi 0] [(.ref r)])) rfl (by rw [hml]; rfl) (Steps.refl _) (argsL := []) (rest := []) (lenOf own_pd23 rfl) rfl (by show 2 * 0 + _ ≤ _; exact Nat.le_of_eq rfl) (hb hby own_d18_1) (fun _ _ => ⟨rfl, e0, (by decide : 0 + 0 ≤ _), (by decide : 0 + 0 ≤ _)⟩)
 dsimp only [Pt.U, Pt.locs, Pt.cells, Pt.slots] at X1 l1 y1 z1 st1 hQ1
 subst l1 y1 z1
 obtain ⟨rfl, N1q, e1⟩ := hQ1
 have N1 := Fr.app N0 N1q
 refine own_tr (T' := T1) (g' := (mkF m 4 #[vr r, vi 0] [(.int 1)])) st1 ?_
 refine own_st (T' := T1) (g' := (mkF m 8 #[vr r, vi 0] [(.ref r)])) (fun t k => ?_) ?_
 ·refine XS.ifNo X1.here hx rfl (hb hby own_d18_4) rfl ((if0 _ _).trans (feq (by decide : ¬ ((1 : Int32) = (0 : Int32)))).1) ?_
  refine XS.aloadN X1.here hx rfl (hb hby own_d18_7) rfl rfl ?_
  exact k
 obtain ⟨T2, X2, e2, st2⟩ := getF X1 hx hZ hown (host := "") (Or.inl (own_w hw 87 rfl)) Via.refl e1 F_v (g := (mkF m 8 #[vr r, vi 0] [(.ref r)])) rfl rfl (hb hby own_d18_8)
 refine own_st (T' := T2) (g' := (mkF m 11 #[vr r, vi 0] [(.ref arr)])) st2 ?_
 refine own_st (T' := T2) (g' := (mkF m 12 #[vr r, vi 0] [(.int 0), (.ref arr)])) (fun t k => ?_) ?_
 ·refine XS.iloadN X2.here hx rfl (hb hby own_d18_11) rfl ?_
  exact k
 obtain ⟨_, _, ⟨T3, L3, c3, n3⟩, -, X3, ⟨Lc3, hQ3, l3, y3, z3⟩, st3⟩ := Jvm.LawKit.callS X2 hx (y := own_y30) hown (om hZ hw 114 rfl) (om hZ hw 115 rfl) (om hZ hw 116 rfl) (om hZ hw 117 rfl) (by decide) (backOf (W := 0) (own_rm20_2_0 l Z a0 hw arr ka x0 x1 cs fm u8 h0 n0 Z0 O0 V_a HB) hZ (own_w hw 117 rfl) (own_w hw 116 rfl) (by decide) (by decide)) (g := (mkF m 12 #[vr r, vi 0] [(.int 0), (.ref arr)])) rfl (by rw [hml]; rfl) (argsL := [(.ref arr), (.int 0)]) (rest := []) (lenOf own_pd22 rfl) rfl (by show 2 * 0 + _ ≤ _; exact Nat.le_of_eq rfl) (hb hby own_d18_12) (fun _ _ => ⟨rfl, e2, (by decide : 0 + 0 ≤ _), (by decide : 0 + 0 ≤ _)⟩)
 dsimp only [Pt.U, Pt.locs, Pt.cells, Pt.slots] at X3 l3 y3 z3 st3 hQ3
 subst l3 y3 z3
 obtain ⟨rfl, N3q, e3⟩ := hQ3
 have N3 := Fr.app N1 N3q
 refine own_st (T' := T3) (g' := (mkF m 15 #[vr r, vi 0] [(.int (own_lc x0))])) st3 ?_
 exact own_retN X3 hx Bd (t := .char) (by simp) (XT.narrow_c _) (hb hby own_d18_15) e3 (⟨rfl, N3, rfl⟩) (by decide) (by decide)
def own_r18_0_2_1 : Room := { frames := 3, cells := 0, slots := 0, locals := 40 }
theorem own_rm18_0_2_1 (l : Launch) (Z : State) (a0 : Array Value) (hw : own_W a0 Z) (r arr : Addr) (ka : ClassId) (x0 x1 : Int32) (cs : Int32) (fm : Value) (u8 : Addr) (h0 : Heap) (n0 : Nat) (Z0 : n0 ≤ h0.size) (O0 : Old Z n0 h0) (E_r : Exa Z h0 r "java/lang/String") (F_v : Fld Z h0 r "java/lang/String" "value" "[B" (.ref arr)) (F_c : Fld Z h0 r "java/lang/String" "coder" "B" (.int 0)) (V_a : Arv Z h0 arr ka .byte (2 : Int32) [(.int x0), (.int x1)] (.int 0)) (HB : own_BB Z cs fm u8) :
  own_MF l Z own_y31 (Jvm.Cond.code own_y31 jdk_42_method_56_code 2 (some .char)) [] own_r18_0_2_1 #[(.ref r), (.int 1)] h0 (own_P h0 n0 (.int (own_lc x1))) := by
 refine own_open (plainFor_of_name own_pn1) hisR (Ls := #[vr r, vi 1]) ?_
 intro p e s m below meth c s₁ Bd hZ hx hby hml hown X0 e0
 have N0 := Fr.nil n0
 refine own_st (T' := s₁) (g' := (mkF m 1 #[vr r, vi 1] [(.ref r)])) (fun t k => ?_) ?_
 ·refine XS.aloadN X0.here hx rfl (hb hby own_d18_0) rfl rfl ?_
  exact k
 obtain ⟨cq1, kq1, q1a, q1b, q1c⟩ := isOf hZ e0 E_r
 obtain ⟨_, _, ⟨T1, L1, c1, n1⟩, -, X1, ⟨Lc1, hQ1, l1, y1, z1⟩, st1⟩ := X0.virtualBack hx (y := own_y24) (z := own_y24) hown (om hZ hw 109 rfl) (om hZ hw 110 rfl) (notFace_of_selects (args := #[]) (om hZ hw 112 rfl)) (om hZ hw 112 rfl) (om hZ hw 111 rfl) (by decide) (backOf (W := 0) (own_rm19_0_2 l Z a0 hw r arr ka x0 x1 cs fm u8 h0 n0 Z0 O0 E_r F_v F_c V_a HB) hZ (own_w hw 113 rfl) (own_w hw 37 rfl) (by decide) (by decide)) q1a q1c (g := (mkF m 1 #[vr r, vi 1] [(.ref r)])) rfl (by rw [hml]; rfl) (Steps.refl _) (argsL := []) (rest := []) (lenOf own_pd23 rfl) rfl (by show 2 * 0 + _ ≤ _; exact Nat.le_of_eq rfl) (hb hby own_d18_1) (fun _ _ => ⟨rfl, e0, (by decide : 0 + 0 ≤ _), (by decide : 0 + 0 ≤ _)⟩)
 dsimp only [Pt.U, Pt.locs, Pt.cells, Pt.slots] at X1 l1 y1 z1 st1 hQ1
 subst l1 y1 z1
 obtain ⟨rfl, N1q, e1⟩ := hQ1
 have N1 := Fr.app N0 N1q
 refine own_tr (T' := T1) (g' := (mkF m 4 #[vr r, vi 1] [(.int 1)])) st1 ?_
 refine own_st (T' := T1) (g' := (mkF m 8 #[vr r, vi 1] [(.ref r)])) (fun t k => ?_) ?_
 ·refine XS.ifNo X1.here hx rfl (hb hby own_d18_4) rfl ((if0 _ _).trans (feq (by decide : ¬ ((1 : Int32) = (0 : Int32)))).1) ?_
  refine XS.aloadN X1.here hx rfl (hb hby own_d18_7) rfl rfl ?_
  exact k
 obtain ⟨T2, X2, e2, st2⟩ := getF X1 hx hZ hown (host := "") (Or.inl (own_w hw 87 rfl)) Via.refl e1 F_v (g := (mkF m 8 #[vr r, vi 1] [(.ref r)])) rfl rfl (hb hby own_d18_8)
 refine own_st (T' := T2) (g' := (mkF m 11 #[vr r, vi 1] [(.ref arr)])) st2 ?_
 refine own_st (T' := T2) (g' := (mkF m 12 #[vr r, vi 1] [(.int 1), (.ref arr)])) (fun t k => ?_) ?_
 ·refine XS.iloadN X2.here hx rfl (hb hby own_d18_11) rfl ?_
  exact k
 obtain ⟨_, _, ⟨T3, L3, c3, n3⟩, -, X3, ⟨Lc3, hQ3, l3, y3, z3⟩, st3⟩ := Jvm.LawKit.callS X2 hx (y := own_y30) hown (om hZ hw 114 rfl) (om hZ hw 115 rfl) (om hZ hw 116 rfl) (om hZ hw 117 rfl) (by decide) (backOf (W := 0) (own_rm20_2_1 l Z a0 hw arr ka x0 x1 cs fm u8 h0 n0 Z0 O0 V_a HB) hZ (own_w hw 117 rfl) (own_w hw 116 rfl) (by decide) (by decide)) (g := (mkF m 12 #[vr r, vi 1] [(.int 1), (.ref arr)])) rfl (by rw [hml]; rfl) (argsL := [(.ref arr), (.int 1)]) (rest := []) (lenOf own_pd22 rfl) rfl (by show 2 * 0 + _ ≤ _; exact Nat.le_of_eq rfl) (hb hby own_d18_12) (fun _ _ => ⟨rfl, e2, (by decide : 0 + 0 ≤ _), (by decide : 0 + 0 ≤ _)⟩)
 dsimp only [Pt.U, Pt.locs, Pt.cells, Pt.slots] at X3 l3 y3 z3 st3 hQ3
 subst l3 y3 z3
 obtain ⟨rfl, N3q, e3⟩ := hQ3
 have N3 := Fr.app N1 N3q
 refine own_st (T' := T3) (g' := (mkF m 15 #[vr r, vi 1] [(.int (own_lc x1))])) st3 ?_
 exact own_retN X3 hx Bd (t := .char) (by simp) (XT.narrow_c _) (hb hby own_d18_15) e3 (⟨rfl, N3, rfl⟩) (by decide) (by decide)
def own_r18_0_3_0 : Room := { frames := 3, cells := 0, slots := 0, locals := 40 }
theorem own_rm18_0_3_0 (l : Launch) (Z : State) (a0 : Array Value) (hw : own_W a0 Z) (r arr : Addr) (ka : ClassId) (x0 x1 x2 : Int32) (cs : Int32) (fm : Value) (u8 : Addr) (h0 : Heap) (n0 : Nat) (Z0 : n0 ≤ h0.size) (O0 : Old Z n0 h0) (E_r : Exa Z h0 r "java/lang/String") (F_v : Fld Z h0 r "java/lang/String" "value" "[B" (.ref arr)) (F_c : Fld Z h0 r "java/lang/String" "coder" "B" (.int 0)) (V_a : Arv Z h0 arr ka .byte (3 : Int32) [(.int x0), (.int x1), (.int x2)] (.int 0)) (HB : own_BB Z cs fm u8) :
  own_MF l Z own_y31 (Jvm.Cond.code own_y31 jdk_42_method_56_code 2 (some .char)) [] own_r18_0_3_0 #[(.ref r), (.int 0)] h0 (own_P h0 n0 (.int (own_lc x0))) := by
 refine own_open (plainFor_of_name own_pn1) hisR (Ls := #[vr r, vi 0]) ?_
 intro p e s m below meth c s₁ Bd hZ hx hby hml hown X0 e0
 have N0 := Fr.nil n0
 refine own_st (T' := s₁) (g' := (mkF m 1 #[vr r, vi 0] [(.ref r)])) (fun t k => ?_) ?_
 ·refine XS.aloadN X0.here hx rfl (hb hby own_d18_0) rfl rfl ?_
  exact k
 obtain ⟨cq1, kq1, q1a, q1b, q1c⟩ := isOf hZ e0 E_r
 obtain ⟨_, _, ⟨T1, L1, c1, n1⟩, -, X1, ⟨Lc1, hQ1, l1, y1, z1⟩, st1⟩ := X0.virtualBack hx (y := own_y24) (z := own_y24) hown (om hZ hw 109 rfl) (om hZ hw 110 rfl) (notFace_of_selects (args := #[]) (om hZ hw 112 rfl)) (om hZ hw 112 rfl) (om hZ hw 111 rfl) (by decide) (backOf (W := 0) (own_rm19_0_3 l Z a0 hw r arr ka x0 x1 x2 cs fm u8 h0 n0 Z0 O0 E_r F_v F_c V_a HB) hZ (own_w hw 113 rfl) (own_w hw 37 rfl) (by decide) (by decide)) q1a q1c (g := (mkF m 1 #[vr r, vi 0] [(.ref r)])) rfl (by rw [hml]; rfl) (Steps.refl _) (argsL := []) (rest := []) (lenOf own_pd23 rfl) rfl (by show 2 * 0 + _ ≤ _; exact Nat.le_of_eq rfl) (hb hby own_d18_1) (fun _ _ => ⟨rfl, e0, (by decide : 0 + 0 ≤ _), (by decide : 0 + 0 ≤ _)⟩)
 dsimp only [Pt.U, Pt.locs, Pt.cells, Pt.slots] at X1 l1 y1 z1 st1 hQ1
 subst l1 y1 z1
 obtain ⟨rfl, N1q, e1⟩ := hQ1
 have N1 := Fr.app N0 N1q
 refine own_tr (T' := T1) (g' := (mkF m 4 #[vr r, vi 0] [(.int 1)])) st1 ?_
 refine own_st (T' := T1) (g' := (mkF m 8 #[vr r, vi 0] [(.ref r)])) (fun t k => ?_) ?_
 ·refine XS.ifNo X1.here hx rfl (hb hby own_d18_4) rfl ((if0 _ _).trans (feq (by decide : ¬ ((1 : Int32) = (0 : Int32)))).1) ?_
  refine XS.aloadN X1.here hx rfl (hb hby own_d18_7) rfl rfl ?_
  exact k
 obtain ⟨T2, X2, e2, st2⟩ := getF X1 hx hZ hown (host := "") (Or.inl (own_w hw 87 rfl)) Via.refl e1 F_v (g := (mkF m 8 #[vr r, vi 0] [(.ref r)])) rfl rfl (hb hby own_d18_8)
 refine own_st (T' := T2) (g' := (mkF m 11 #[vr r, vi 0] [(.ref arr)])) st2 ?_
 refine own_st (T' := T2) (g' := (mkF m 12 #[vr r, vi 0] [(.int 0), (.ref arr)])) (fun t k => ?_) ?_
 ·refine XS.iloadN X2.here hx rfl (hb hby own_d18_11) rfl ?_
  exact k
 obtain ⟨_, _, ⟨T3, L3, c3, n3⟩, -, X3, ⟨Lc3, hQ3, l3, y3, z3⟩, st3⟩ := Jvm.LawKit.callS X2 hx (y := own_y30) hown (om hZ hw 114 rfl) (om hZ hw 115 rfl) (om hZ hw 116 rfl) (om hZ hw 117 rfl) (by decide) (backOf (W := 0) (own_rm20_3_0 l Z a0 hw arr ka x0 x1 x2 cs fm u8 h0 n0 Z0 O0 V_a HB) hZ (own_w hw 117 rfl) (own_w hw 116 rfl) (by decide) (by decide)) (g := (mkF m 12 #[vr r, vi 0] [(.int 0), (.ref arr)])) rfl (by rw [hml]; rfl) (argsL := [(.ref arr), (.int 0)]) (rest := []) (lenOf own_pd22 rfl) rfl (by show 2 * 0 + _ ≤ _; exact Nat.le_of_eq rfl) (hb hby own_d18_12) (fun _ _ => ⟨rfl, e2, (by decide : 0 + 0 ≤ _), (by decide : 0 + 0 ≤ _)⟩)
 dsimp only [Pt.U, Pt.locs, Pt.cells, Pt.slots] at X3 l3 y3 z3 st3 hQ3
 subst l3 y3 z3
 obtain ⟨rfl, N3q, e3⟩ := hQ3
 have N3 := Fr.app N1 N3q
 refine own_st (T' := T3) (g' := (mkF m 15 #[vr r, vi 0] [(.int (own_lc x0))])) st3 ?_
 exact own_retN X3 hx Bd (t := .char) (by simp) (XT.narrow_c _) (hb hby own_d18_15) e3 (⟨rfl, N3, rfl⟩) (by decide) (by decide)
def own_r18_0_3_1 : Room := { frames := 3, cells := 0, slots := 0, locals := 40 }
theorem own_rm18_0_3_1 (l : Launch) (Z : State) (a0 : Array Value) (hw : own_W a0 Z) (r arr : Addr) (ka : ClassId) (x0 x1 x2 : Int32) (cs : Int32) (fm : Value) (u8 : Addr) (h0 : Heap) (n0 : Nat) (Z0 : n0 ≤ h0.size) (O0 : Old Z n0 h0) (E_r : Exa Z h0 r "java/lang/String") (F_v : Fld Z h0 r "java/lang/String" "value" "[B" (.ref arr)) (F_c : Fld Z h0 r "java/lang/String" "coder" "B" (.int 0)) (V_a : Arv Z h0 arr ka .byte (3 : Int32) [(.int x0), (.int x1), (.int x2)] (.int 0)) (HB : own_BB Z cs fm u8) :
  own_MF l Z own_y31 (Jvm.Cond.code own_y31 jdk_42_method_56_code 2 (some .char)) [] own_r18_0_3_1 #[(.ref r), (.int 1)] h0 (own_P h0 n0 (.int (own_lc x1))) := by
 refine own_open (plainFor_of_name own_pn1) hisR (Ls := #[vr r, vi 1]) ?_
 intro p e s m below meth c s₁ Bd hZ hx hby hml hown X0 e0
 have N0 := Fr.nil n0
 refine own_st (T' := s₁) (g' := (mkF m 1 #[vr r, vi 1] [(.ref r)])) (fun t k => ?_) ?_
 ·refine XS.aloadN X0.here hx rfl (hb hby own_d18_0) rfl rfl ?_
  exact k
 obtain ⟨cq1, kq1, q1a, q1b, q1c⟩ := isOf hZ e0 E_r
 obtain ⟨_, _, ⟨T1, L1, c1, n1⟩, -, X1, ⟨Lc1, hQ1, l1, y1, z1⟩, st1⟩ := X0.virtualBack hx (y := own_y24) (z := own_y24) hown (om hZ hw 109 rfl) (om hZ hw 110 rfl) (notFace_of_selects (args := #[]) (om hZ hw 112 rfl)) (om hZ hw 112 rfl) (om hZ hw 111 rfl) (by decide) (backOf (W := 0) (own_rm19_0_3 l Z a0 hw r arr ka x0 x1 x2 cs fm u8 h0 n0 Z0 O0 E_r F_v F_c V_a HB) hZ (own_w hw 113 rfl) (own_w hw 37 rfl) (by decide) (by decide)) q1a q1c (g := (mkF m 1 #[vr r, vi 1] [(.ref r)])) rfl (by rw [hml]; rfl) (Steps.refl _) (argsL := []) (rest := []) (lenOf own_pd23 rfl) rfl (by show 2 * 0 + _ ≤ _; exact Nat.le_of_eq rfl) (hb hby own_d18_1) (fun _ _ => ⟨rfl, e0, (by decide : 0 + 0 ≤ _), (by decide : 0 + 0 ≤ _)⟩)
 dsimp only [Pt.U, Pt.locs, Pt.cells, Pt.slots] at X1 l1 y1 z1 st1 hQ1
 subst l1 y1 z1
 obtain ⟨rfl, N1q, e1⟩ := hQ1
 have N1 := Fr.app N0 N1q
 refine own_tr (T' := T1) (g' := (mkF m 4 #[vr r, vi 1] [(.int 1)])) st1 ?_
 refine own_st (T' := T1) (g' := (mkF m 8 #[vr r, vi 1] [(.ref r)])) (fun t k => ?_) ?_
 ·refine XS.ifNo X1.here hx rfl (hb hby own_d18_4) rfl ((if0 _ _).trans (feq (by decide : ¬ ((1 : Int32) = (0 : Int32)))).1) ?_
  refine XS.aloadN X1.here hx rfl (hb hby own_d18_7) rfl rfl ?_
  exact k
 obtain ⟨T2, X2, e2, st2⟩ := getF X1 hx hZ hown (host := "") (Or.inl (own_w hw 87 rfl)) Via.refl e1 F_v (g := (mkF m 8 #[vr r, vi 1] [(.ref r)])) rfl rfl (hb hby own_d18_8)
 refine own_st (T' := T2) (g' := (mkF m 11 #[vr r, vi 1] [(.ref arr)])) st2 ?_
 refine own_st (T' := T2) (g' := (mkF m 12 #[vr r, vi 1] [(.int 1), (.ref arr)])) (fun t k => ?_) ?_
 ·refine XS.iloadN X2.here hx rfl (hb hby own_d18_11) rfl ?_
  exact k
 obtain ⟨_, _, ⟨T3, L3, c3, n3⟩, -, X3, ⟨Lc3, hQ3, l3, y3, z3⟩, st3⟩ := Jvm.LawKit.callS X2 hx (y := own_y30) hown (om hZ hw 114 rfl) (om hZ hw 115 rfl) (om hZ hw 116 rfl) (om hZ hw 117 rfl) (by decide) (backOf (W := 0) (own_rm20_3_1 l Z a0 hw arr ka x0 x1 x2 cs fm u8 h0 n0 Z0 O0 V_a HB) hZ (own_w hw 117 rfl) (own_w hw 116 rfl) (by decide) (by decide)) (g := (mkF m 12 #[vr r, vi 1] [(.int 1), (.ref arr)])) rfl (by rw [hml]; rfl) (argsL := [(.ref arr), (.int 1)]) (rest := []) (lenOf own_pd22 rfl) rfl (by show 2 * 0 + _ ≤ _; exact Nat.le_of_eq rfl) (hb hby own_d18_12) (fun _ _ => ⟨rfl, e2, (by decide : 0 + 0 ≤ _), (by decide : 0 + 0 ≤ _)⟩)
 dsimp only [Pt.U, Pt.locs, Pt.cells, Pt.slots] at X3 l3 y3 z3 st3 hQ3
 subst l3 y3 z3
 obtain ⟨rfl, N3q, e3⟩ := hQ3
 have N3 := Fr.app N1 N3q
 refine own_st (T' := T3) (g' := (mkF m 15 #[vr r, vi 1] [(.int (own_lc x1))])) st3 ?_
 exact own_retN X3 hx Bd (t := .char) (by simp) (XT.narrow_c _) (hb hby own_d18_15) e3 (⟨rfl, N3, rfl⟩) (by decide) (by decide)
def own_r18_0_3_2 : Room := { frames := 3, cells := 0, slots := 0, locals := 40 }
theorem own_rm18_0_3_2 (l : Launch) (Z : State) (a0 : Array Value) (hw : own_W a0 Z) (r arr : Addr) (ka : ClassId) (x0 x1 x2 : Int32) (cs : Int32) (fm : Value) (u8 : Addr) (h0 : Heap) (n0 : Nat) (Z0 : n0 ≤ h0.size) (O0 : Old Z n0 h0) (E_r : Exa Z h0 r "java/lang/String") (F_v : Fld Z h0 r "java/lang/String" "value" "[B" (.ref arr)) (F_c : Fld Z h0 r "java/lang/String" "coder" "B" (.int 0)) (V_a : Arv Z h0 arr ka .byte (3 : Int32) [(.int x0), (.int x1), (.int x2)] (.int 0)) (HB : own_BB Z cs fm u8) :
  own_MF l Z own_y31 (Jvm.Cond.code own_y31 jdk_42_method_56_code 2 (some .char)) [] own_r18_0_3_2 #[(.ref r), (.int 2)] h0 (own_P h0 n0 (.int (own_lc x2))) := by
 refine own_open (plainFor_of_name own_pn1) hisR (Ls := #[vr r, vi 2]) ?_
 intro p e s m below meth c s₁ Bd hZ hx hby hml hown X0 e0
 have N0 := Fr.nil n0
 refine own_st (T' := s₁) (g' := (mkF m 1 #[vr r, vi 2] [(.ref r)])) (fun t k => ?_) ?_
 ·refine XS.aloadN X0.here hx rfl (hb hby own_d18_0) rfl rfl ?_
  exact k
 obtain ⟨cq1, kq1, q1a, q1b, q1c⟩ := isOf hZ e0 E_r
 obtain ⟨_, _, ⟨T1, L1, c1, n1⟩, -, X1, ⟨Lc1, hQ1, l1, y1, z1⟩, st1⟩ := X0.virtualBack hx (y := own_y24) (z := own_y24) hown (om hZ hw 109 rfl) (om hZ hw 110 rfl) (notFace_of_selects (args := #[]) (om hZ hw 112 rfl)) (om hZ hw 112 rfl) (om hZ hw 111 rfl) (by decide) (backOf (W := 0) (own_rm19_0_3 l Z a0 hw r arr ka x0 x1 x2 cs fm u8 h0 n0 Z0 O0 E_r F_v F_c V_a HB) hZ (own_w hw 113 rfl) (own_w hw 37 rfl) (by decide) (by decide)) q1a q1c (g := (mkF m 1 #[vr r, vi 2] [(.ref r)])) rfl (by rw [hml]; rfl) (Steps.refl _) (argsL := []) (rest := []) (lenOf own_pd23 rfl) rfl (by show 2 * 0 + _ ≤ _; exact Nat.le_of_eq rfl) (hb hby own_d18_1) (fun _ _ => ⟨rfl, e0, (by decide : 0 + 0 ≤ _), (by decide : 0 + 0 ≤ _)⟩)
 dsimp only [Pt.U, Pt.locs, Pt.cells, Pt.slots] at X1 l1 y1 z1 st1 hQ1
 subst l1 y1 z1
 obtain ⟨rfl, N1q, e1⟩ := hQ1
 have N1 := Fr.app N0 N1q
 refine own_tr (T' := T1) (g' := (mkF m 4 #[vr r, vi 2] [(.int 1)])) st1 ?_
 refine own_st (T' := T1) (g' := (mkF m 8 #[vr r, vi 2] [(.ref r)])) (fun t k => ?_) ?_
 ·refine XS.ifNo X1.here hx rfl (hb hby own_d18_4) rfl ((if0 _ _).trans (feq (by decide : ¬ ((1 : Int32) = (0 : Int32)))).1) ?_
  refine XS.aloadN X1.here hx rfl (hb hby own_d18_7) rfl rfl ?_
  exact k
 obtain ⟨T2, X2, e2, st2⟩ := getF X1 hx hZ hown (host := "") (Or.inl (own_w hw 87 rfl)) Via.refl e1 F_v (g := (mkF m 8 #[vr r, vi 2] [(.ref r)])) rfl rfl (hb hby own_d18_8)
 refine own_st (T' := T2) (g' := (mkF m 11 #[vr r, vi 2] [(.ref arr)])) st2 ?_
 refine own_st (T' := T2) (g' := (mkF m 12 #[vr r, vi 2] [(.int 2), (.ref arr)])) (fun t k => ?_) ?_
 ·refine XS.iloadN X2.here hx rfl (hb hby own_d18_11) rfl ?_
  exact k
 obtain ⟨_, _, ⟨T3, L3, c3, n3⟩, -, X3, ⟨Lc3, hQ3, l3, y3, z3⟩, st3⟩ := Jvm.LawKit.callS X2 hx (y := own_y30) hown (om hZ hw 114 rfl) (om hZ hw 115 rfl) (om hZ hw 116 rfl) (om hZ hw 117 rfl) (by decide) (backOf (W := 0) (own_rm20_3_2 l Z a0 hw arr ka x0 x1 x2 cs fm u8 h0 n0 Z0 O0 V_a HB) hZ (own_w hw 117 rfl) (own_w hw 116 rfl) (by decide) (by decide)) (g := (mkF m 12 #[vr r, vi 2] [(.int 2), (.ref arr)])) rfl (by rw [hml]; rfl) (argsL := [(.ref arr), (.int 2)]) (rest := []) (lenOf own_pd22 rfl) rfl (by show 2 * 0 + _ ≤ _; exact Nat.le_of_eq rfl) (hb hby own_d18_12) (fun _ _ => ⟨rfl, e2, (by decide : 0 + 0 ≤ _), (by decide : 0 + 0 ≤ _)⟩)
 dsimp only [Pt.U, Pt.locs, Pt.cells, Pt.slots] at X3 l3 y3 z3 st3 hQ3
 subst l3 y3 z3
 obtain ⟨rfl, N3q, e3⟩ := hQ3
 have N3 := Fr.app N1 N3q
 refine own_st (T' := T3) (g' := (mkF m 15 #[vr r, vi 2] [(.int (own_lc x2))])) st3 ?_
 exact own_retN X3 hx Bd (t := .char) (by simp) (XT.narrow_c _) (hb hby own_d18_15) e3 (⟨rfl, N3, rfl⟩) (by decide) (by decide)
def own_r18_1_2_0 : Room := { frames := 4, cells := 0, slots := 0, locals := 53 }
theorem own_rm18_1_2_0 (l : Launch) (Z : State) (a0 : Array Value) (hw : own_W a0 Z) (r arr : Addr) (ka : ClassId) (x0 x1 : Int32) (cs : Int32) (fm : Value) (u8 : Addr) (h0 : Heap) (n0 : Nat) (Z0 : n0 ≤ h0.size) (O0 : Old Z n0 h0) (E_r : Exa Z h0 r "java/lang/String") (F_v : Fld Z h0 r "java/lang/String" "value" "[B" (.ref arr)) (F_c : Fld Z h0 r "java/lang/String" "coder" "B" (.int 1)) (V_a : Arv Z h0 arr ka .byte (2 : Int32) [(.int x0), (.int x1)] (.int 0)) (HB : own_BB Z cs fm u8) :
  own_MF l Z own_y31 (Jvm.Cond.code own_y31 jdk_42_method_56_code 2 (some .char)) [] own_r18_1_2_0 #[(.ref r), (.int 0)] h0 (own_P h0 n0 (.int (own_gc x0 x1))) := by
 refine own_open (plainFor_of_name own_pn1) hisR (Ls := #[vr r, vi 0]) ?_
 intro p e s m below meth c s₁ Bd hZ hx hby hml hown X0 e0
 have N0 := Fr.nil n0
 refine own_st (T' := s₁) (g' := (mkF m 1 #[vr r, vi 0] [(.ref r)])) (fun t k => ?_) ?_
 ·refine XS.aloadN X0.here hx rfl (hb hby own_d18_0) rfl rfl ?_
  exact k
 obtain ⟨cq1, kq1, q1a, q1b, q1c⟩ := isOf hZ e0 E_r
 obtain ⟨_, _, ⟨T1, L1, c1, n1⟩, -, X1, ⟨Lc1, hQ1, l1, y1, z1⟩, st1⟩ := X0.virtualBack hx (y := own_y24) (z := own_y24) hown (om hZ hw 109 rfl) (om hZ hw 110 rfl) (notFace_of_selects (args := #[]) (om hZ hw 112 rfl)) (om hZ hw 112 rfl) (om hZ hw 111 rfl) (by decide) (backOf (W := 0) (own_rm19_1_2 l Z a0 hw r arr ka x0 x1 cs fm u8 h0 n0 Z0 O0 E_r F_v F_c V_a HB) hZ (own_w hw 113 rfl) (own_w hw 37 rfl) (by decide) (by decide)) q1a q1c (g := (mkF m 1 #[vr r, vi 0] [(.ref r)])) rfl (by rw [hml]; rfl) (Steps.refl _) (argsL := []) (rest := []) (lenOf own_pd23 rfl) rfl (by show 2 * 0 + _ ≤ _; exact Nat.le_of_eq rfl) (hb hby own_d18_1) (fun _ _ => ⟨rfl, e0, (by decide : 0 + 0 ≤ _), (by decide : 0 + 0 ≤ _)⟩)
 dsimp only [Pt.U, Pt.locs, Pt.cells, Pt.slots] at X1 l1 y1 z1 st1 hQ1
 subst l1 y1 z1
 obtain ⟨rfl, N1q, e1⟩ := hQ1
 have N1 := Fr.app N0 N1q
 refine own_tr (T' := T1) (g' := (mkF m 4 #[vr r, vi 0] [(.int 0)])) st1 ?_
 refine own_st (T' := T1) (g' := (mkF m 17 #[vr r, vi 0] [(.ref r)])) (fun t k => ?_) ?_
 ·refine XS.ifYes X1.here hx rfl (pc0 := 4) (pc' := 16) rfl (hb hby own_d18_4) rfl ((if0 _ _).trans (teq (rfl : (0 : Int32) = (0 : Int32))).1) (by decide) (by decide) ?_
  refine XS.aloadN X1.here hx rfl (hb hby own_d18_16) rfl rfl ?_
  exact k
 obtain ⟨T2, X2, e2, st2⟩ := getF X1 hx hZ hown (host := "") (Or.inl (own_w hw 87 rfl)) Via.refl e1 F_v (g := (mkF m 17 #[vr r, vi 0] [(.ref r)])) rfl rfl (hb hby own_d18_17)
 refine own_st (T' := T2) (g' := (mkF m 20 #[vr r, vi 0] [(.ref arr)])) st2 ?_
 refine own_st (T' := T2) (g' := (mkF m 21 #[vr r, vi 0] [(.int 0), (.ref arr)])) (fun t k => ?_) ?_
 ·refine XS.iloadN X2.here hx rfl (hb hby own_d18_20) rfl ?_
  exact k
 obtain ⟨_, _, ⟨T3, L3, c3, n3⟩, -, X3, ⟨Lc3, hQ3, l3, y3, z3⟩, st3⟩ := Jvm.LawKit.callS X2 hx (y := own_y29) hown (om hZ hw 163 rfl) (om hZ hw 164 rfl) (om hZ hw 126 rfl) (om hZ hw 165 rfl) (by decide) (backOf (W := 0) (own_rm34_2_0 l Z a0 hw arr ka x0 x1 cs fm u8 h0 n0 Z0 O0 V_a HB) hZ (own_w hw 165 rfl) (own_w hw 126 rfl) (by decide) (by decide)) (g := (mkF m 21 #[vr r, vi 0] [(.int 0), (.ref arr)])) rfl (by rw [hml]; rfl) (argsL := [(.ref arr), (.int 0)]) (rest := []) (lenOf own_pd22 rfl) rfl (by show 2 * 0 + _ ≤ _; exact Nat.le_of_eq rfl) (hb hby own_d18_21) (fun _ _ => ⟨rfl, e2, (by decide : 0 + 0 ≤ _), (by decide : 0 + 0 ≤ _)⟩)
 dsimp only [Pt.U, Pt.locs, Pt.cells, Pt.slots] at X3 l3 y3 z3 st3 hQ3
 subst l3 y3 z3
 obtain ⟨rfl, N3q, e3⟩ := hQ3
 have N3 := Fr.app N1 N3q
 refine own_st (T' := T3) (g' := (mkF m 24 #[vr r, vi 0] [(.int (own_gc x0 x1))])) st3 ?_
 exact own_retN X3 hx Bd (t := .char) (by simp) (XT.narrow_c _) (hb hby own_d18_24) e3 (⟨rfl, N3, rfl⟩) (by decide) (by decide)
def own_r18_1_4_0 : Room := { frames := 4, cells := 0, slots := 0, locals := 53 }
theorem own_rm18_1_4_0 (l : Launch) (Z : State) (a0 : Array Value) (hw : own_W a0 Z) (r arr : Addr) (ka : ClassId) (x0 x1 x2 x3 : Int32) (cs : Int32) (fm : Value) (u8 : Addr) (h0 : Heap) (n0 : Nat) (Z0 : n0 ≤ h0.size) (O0 : Old Z n0 h0) (E_r : Exa Z h0 r "java/lang/String") (F_v : Fld Z h0 r "java/lang/String" "value" "[B" (.ref arr)) (F_c : Fld Z h0 r "java/lang/String" "coder" "B" (.int 1)) (V_a : Arv Z h0 arr ka .byte (4 : Int32) [(.int x0), (.int x1), (.int x2), (.int x3)] (.int 0)) (HB : own_BB Z cs fm u8) :
  own_MF l Z own_y31 (Jvm.Cond.code own_y31 jdk_42_method_56_code 2 (some .char)) [] own_r18_1_4_0 #[(.ref r), (.int 0)] h0 (own_P h0 n0 (.int (own_gc x0 x1))) := by
 refine own_open (plainFor_of_name own_pn1) hisR (Ls := #[vr r, vi 0]) ?_
 intro p e s m below meth c s₁ Bd hZ hx hby hml hown X0 e0
 have N0 := Fr.nil n0
 refine own_st (T' := s₁) (g' := (mkF m 1 #[vr r, vi 0] [(.ref r)])) (fun t k => ?_) ?_
 ·refine XS.aloadN X0.here hx rfl (hb hby own_d18_0) rfl rfl ?_
  exact k
 obtain ⟨cq1, kq1, q1a, q1b, q1c⟩ := isOf hZ e0 E_r
 obtain ⟨_, _, ⟨T1, L1, c1, n1⟩, -, X1, ⟨Lc1, hQ1, l1, y1, z1⟩, st1⟩ := X0.virtualBack hx (y := own_y24) (z := own_y24) hown (om hZ hw 109 rfl) (om hZ hw 110 rfl) (notFace_of_selects (args := #[]) (om hZ hw 112 rfl)) (om hZ hw 112 rfl) (om hZ hw 111 rfl) (by decide) (backOf (W := 0) (own_rm19_1_4 l Z a0 hw r arr ka x0 x1 x2 x3 cs fm u8 h0 n0 Z0 O0 E_r F_v F_c V_a HB) hZ (own_w hw 113 rfl) (own_w hw 37 rfl) (by decide) (by decide)) q1a q1c (g := (mkF m 1 #[vr r, vi 0] [(.ref r)])) rfl (by rw [hml]; rfl) (Steps.refl _) (argsL := []) (rest := []) (lenOf own_pd23 rfl) rfl (by show 2 * 0 + _ ≤ _; exact Nat.le_of_eq rfl) (hb hby own_d18_1) (fun _ _ => ⟨rfl, e0, (by decide : 0 + 0 ≤ _), (by decide : 0 + 0 ≤ _)⟩)
 dsimp only [Pt.U, Pt.locs, Pt.cells, Pt.slots] at X1 l1 y1 z1 st1 hQ1
 subst l1 y1 z1
 obtain ⟨rfl, N1q, e1⟩ := hQ1
 have N1 := Fr.app N0 N1q
 refine own_tr (T' := T1) (g' := (mkF m 4 #[vr r, vi 0] [(.int 0)])) st1 ?_
 refine own_st (T' := T1) (g' := (mkF m 17 #[vr r, vi 0] [(.ref r)])) (fun t k => ?_) ?_
 ·refine XS.ifYes X1.here hx rfl (pc0 := 4) (pc' := 16) rfl (hb hby own_d18_4) rfl ((if0 _ _).trans (teq (rfl : (0 : Int32) = (0 : Int32))).1) (by decide) (by decide) ?_
  refine XS.aloadN X1.here hx rfl (hb hby own_d18_16) rfl rfl ?_
  exact k
 obtain ⟨T2, X2, e2, st2⟩ := getF X1 hx hZ hown (host := "") (Or.inl (own_w hw 87 rfl)) Via.refl e1 F_v (g := (mkF m 17 #[vr r, vi 0] [(.ref r)])) rfl rfl (hb hby own_d18_17)
 refine own_st (T' := T2) (g' := (mkF m 20 #[vr r, vi 0] [(.ref arr)])) st2 ?_
 refine own_st (T' := T2) (g' := (mkF m 21 #[vr r, vi 0] [(.int 0), (.ref arr)])) (fun t k => ?_) ?_
 ·refine XS.iloadN X2.here hx rfl (hb hby own_d18_20) rfl ?_
  exact k
 obtain ⟨_, _, ⟨T3, L3, c3, n3⟩, -, X3, ⟨Lc3, hQ3, l3, y3, z3⟩, st3⟩ := Jvm.LawKit.callS X2 hx (y := own_y29) hown (om hZ hw 163 rfl) (om hZ hw 164 rfl) (om hZ hw 126 rfl) (om hZ hw 165 rfl) (by decide) (backOf (W := 0) (own_rm34_4_0 l Z a0 hw arr ka x0 x1 x2 x3 cs fm u8 h0 n0 Z0 O0 V_a HB) hZ (own_w hw 165 rfl) (own_w hw 126 rfl) (by decide) (by decide)) (g := (mkF m 21 #[vr r, vi 0] [(.int 0), (.ref arr)])) rfl (by rw [hml]; rfl) (argsL := [(.ref arr), (.int 0)]) (rest := []) (lenOf own_pd22 rfl) rfl (by show 2 * 0 + _ ≤ _; exact Nat.le_of_eq rfl) (hb hby own_d18_21) (fun _ _ => ⟨rfl, e2, (by decide : 0 + 0 ≤ _), (by decide : 0 + 0 ≤ _)⟩)
 dsimp only [Pt.U, Pt.locs, Pt.cells, Pt.slots] at X3 l3 y3 z3 st3 hQ3
 subst l3 y3 z3
 obtain ⟨rfl, N3q, e3⟩ := hQ3
 have N3 := Fr.app N1 N3q
 refine own_st (T' := T3) (g' := (mkF m 24 #[vr r, vi 0] [(.int (own_gc x0 x1))])) st3 ?_
 exact own_retN X3 hx Bd (t := .char) (by simp) (XT.narrow_c _) (hb hby own_d18_24) e3 (⟨rfl, N3, rfl⟩) (by decide) (by decide)
def own_r18_1_4_1 : Room := { frames := 4, cells := 0, slots := 0, locals := 53 }
theorem own_rm18_1_4_1 (l : Launch) (Z : State) (a0 : Array Value) (hw : own_W a0 Z) (r arr : Addr) (ka : ClassId) (x0 x1 x2 x3 : Int32) (cs : Int32) (fm : Value) (u8 : Addr) (h0 : Heap) (n0 : Nat) (Z0 : n0 ≤ h0.size) (O0 : Old Z n0 h0) (E_r : Exa Z h0 r "java/lang/String") (F_v : Fld Z h0 r "java/lang/String" "value" "[B" (.ref arr)) (F_c : Fld Z h0 r "java/lang/String" "coder" "B" (.int 1)) (V_a : Arv Z h0 arr ka .byte (4 : Int32) [(.int x0), (.int x1), (.int x2), (.int x3)] (.int 0)) (HB : own_BB Z cs fm u8) :
  own_MF l Z own_y31 (Jvm.Cond.code own_y31 jdk_42_method_56_code 2 (some .char)) [] own_r18_1_4_1 #[(.ref r), (.int 1)] h0 (own_P h0 n0 (.int (own_gc x2 x3))) := by
 refine own_open (plainFor_of_name own_pn1) hisR (Ls := #[vr r, vi 1]) ?_
 intro p e s m below meth c s₁ Bd hZ hx hby hml hown X0 e0
 have N0 := Fr.nil n0
 refine own_st (T' := s₁) (g' := (mkF m 1 #[vr r, vi 1] [(.ref r)])) (fun t k => ?_) ?_
 ·refine XS.aloadN X0.here hx rfl (hb hby own_d18_0) rfl rfl ?_
  exact k
 obtain ⟨cq1, kq1, q1a, q1b, q1c⟩ := isOf hZ e0 E_r
 obtain ⟨_, _, ⟨T1, L1, c1, n1⟩, -, X1, ⟨Lc1, hQ1, l1, y1, z1⟩, st1⟩ := X0.virtualBack hx (y := own_y24) (z := own_y24) hown (om hZ hw 109 rfl) (om hZ hw 110 rfl) (notFace_of_selects (args := #[]) (om hZ hw 112 rfl)) (om hZ hw 112 rfl) (om hZ hw 111 rfl) (by decide) (backOf (W := 0) (own_rm19_1_4 l Z a0 hw r arr ka x0 x1 x2 x3 cs fm u8 h0 n0 Z0 O0 E_r F_v F_c V_a HB) hZ (own_w hw 113 rfl) (own_w hw 37 rfl) (by decide) (by decide)) q1a q1c (g := (mkF m 1 #[vr r, vi 1] [(.ref r)])) rfl (by rw [hml]; rfl) (Steps.refl _) (argsL := []) (rest := []) (lenOf own_pd23 rfl) rfl (by show 2 * 0 + _ ≤ _; exact Nat.le_of_eq rfl) (hb hby own_d18_1) (fun _ _ => ⟨rfl, e0, (by decide : 0 + 0 ≤ _), (by decide : 0 + 0 ≤ _)⟩)
 dsimp only [Pt.U, Pt.locs, Pt.cells, Pt.slots] at X1 l1 y1 z1 st1 hQ1
 subst l1 y1 z1
 obtain ⟨rfl, N1q, e1⟩ := hQ1
 have N1 := Fr.app N0 N1q
 refine own_tr (T' := T1) (g' := (mkF m 4 #[vr r, vi 1] [(.int 0)])) st1 ?_
 refine own_st (T' := T1) (g' := (mkF m 17 #[vr r, vi 1] [(.ref r)])) (fun t k => ?_) ?_
 ·refine XS.ifYes X1.here hx rfl (pc0 := 4) (pc' := 16) rfl (hb hby own_d18_4) rfl ((if0 _ _).trans (teq (rfl : (0 : Int32) = (0 : Int32))).1) (by decide) (by decide) ?_
  refine XS.aloadN X1.here hx rfl (hb hby own_d18_16) rfl rfl ?_
  exact k
 obtain ⟨T2, X2, e2, st2⟩ := getF X1 hx hZ hown (host := "") (Or.inl (own_w hw 87 rfl)) Via.refl e1 F_v (g := (mkF m 17 #[vr r, vi 1] [(.ref r)])) rfl rfl (hb hby own_d18_17)
 refine own_st (T' := T2) (g' := (mkF m 20 #[vr r, vi 1] [(.ref arr)])) st2 ?_
 refine own_st (T' := T2) (g' := (mkF m 21 #[vr r, vi 1] [(.int 1), (.ref arr)])) (fun t k => ?_) ?_
 ·refine XS.iloadN X2.here hx rfl (hb hby own_d18_20) rfl ?_
  exact k
 obtain ⟨_, _, ⟨T3, L3, c3, n3⟩, -, X3, ⟨Lc3, hQ3, l3, y3, z3⟩, st3⟩ := Jvm.LawKit.callS X2 hx (y := own_y29) hown (om hZ hw 163 rfl) (om hZ hw 164 rfl) (om hZ hw 126 rfl) (om hZ hw 165 rfl) (by decide) (backOf (W := 0) (own_rm34_4_1 l Z a0 hw arr ka x0 x1 x2 x3 cs fm u8 h0 n0 Z0 O0 V_a HB) hZ (own_w hw 165 rfl) (own_w hw 126 rfl) (by decide) (by decide)) (g := (mkF m 21 #[vr r, vi 1] [(.int 1), (.ref arr)])) rfl (by rw [hml]; rfl) (argsL := [(.ref arr), (.int 1)]) (rest := []) (lenOf own_pd22 rfl) rfl (by show 2 * 0 + _ ≤ _; exact Nat.le_of_eq rfl) (hb hby own_d18_21) (fun _ _ => ⟨rfl, e2, (by decide : 0 + 0 ≤ _), (by decide : 0 + 0 ≤ _)⟩)
 dsimp only [Pt.U, Pt.locs, Pt.cells, Pt.slots] at X3 l3 y3 z3 st3 hQ3
 subst l3 y3 z3
 obtain ⟨rfl, N3q, e3⟩ := hQ3
 have N3 := Fr.app N1 N3q
 refine own_st (T' := T3) (g' := (mkF m 24 #[vr r, vi 1] [(.int (own_gc x2 x3))])) st3 ?_
 exact own_retN X3 hx Bd (t := .char) (by simp) (XT.narrow_c _) (hb hby own_d18_24) e3 (⟨rfl, N3, rfl⟩) (by decide) (by decide)
def own_r17_0_1_0 : Room := { frames := 4, cells := 0, slots := 0, locals := 53 }
theorem own_rm17_0_1_0 (l : Launch) (Z : State) (a0 : Array Value) (hw : own_W a0 Z) (r arr : Addr) (ka : ClassId) (x0 : Int32) (ex : Int32) (cs : Int32) (fm : Value) (u8 : Addr) (h0 : Heap) (n0 : Nat) (Z0 : n0 ≤ h0.size) (O0 : Old Z n0 h0) (E_r : Exa Z h0 r "java/lang/String") (F_v : Fld Z h0 r "java/lang/String" "value" "[B" (.ref arr)) (F_c : Fld Z h0 r "java/lang/String" "coder" "B" (.int 0)) (V_a : Arv Z h0 arr ka .byte (1 : Int32) [(.int x0)] (.int 0)) (hq : (own_lc x0) = (ex.toUInt32.toUInt16.toUInt32.toInt32)) (HB : own_BB Z cs fm u8) :
  own_MF l Z own_y32 (Jvm.Cond.code own_y32 method_4_code 3 (some .boolean)) [] own_r17_0_1_0 #[(.ref r), (.int 0), (.int ex)] h0 (own_P h0 n0 (.int 1)) := by
 refine own_open (plainFor_of_name own_pn8) hisR (Ls := #[vr r, vi 0, vi ex]) ?_
 intro p e s m below meth c s₁ Bd hZ hx hby hml hown X0 e0
 have N0 := Fr.nil n0
 refine own_st (T' := s₁) (g' := (mkF m 2 #[vr r, vi 0, vi ex] [(.ref r), (.int 0)])) (fun t k => ?_) ?_
 ·refine XS.iloadN X0.here hx rfl (hb hby own_d17_0) rfl ?_
  refine XS.aloadN X0.here hx rfl (hb hby own_d17_1) rfl rfl ?_
  exact k
 obtain ⟨cq1, kq1, q1a, q1b, q1c⟩ := isOf hZ e0 E_r
 obtain ⟨_, _, ⟨T1, L1, c1, n1⟩, -, X1, ⟨Lc1, hQ1, l1, y1, z1⟩, st1⟩ := X0.virtualBack hx (y := own_y26) (z := own_y26) hown (om hZ hw 91 rfl) (om hZ hw 92 rfl) (notFace_of_selects (args := #[]) (om hZ hw 94 rfl)) (om hZ hw 94 rfl) (om hZ hw 93 rfl) (by decide) (backOf (W := 1) (own_rm15_0_1 l Z a0 hw r arr ka x0 cs fm u8 h0 n0 Z0 O0 E_r F_v F_c V_a HB) hZ (own_w hw 95 rfl) (own_w hw 37 rfl) (by decide) (by decide)) q1a q1c (g := (mkF m 2 #[vr r, vi 0, vi ex] [(.ref r), (.int 0)])) rfl (by rw [hml]; rfl) (Steps.refl _) (argsL := []) (rest := [(.int 0)]) (lenOf own_pd24 rfl) rfl (by show 2 * 0 + _ ≤ _; exact Nat.le_of_eq rfl) (hb hby own_d17_2) (fun _ _ => ⟨rfl, e0, (by decide : 0 + 0 ≤ _), (by decide : 0 + 0 ≤ _)⟩)
 dsimp only [Pt.U, Pt.locs, Pt.cells, Pt.slots] at X1 l1 y1 z1 st1 hQ1
 subst l1 y1 z1
 obtain ⟨rfl, N1q, e1⟩ := hQ1
 have N1 := Fr.app N0 N1q
 refine own_tr (T' := T1) (g' := (mkF m 5 #[vr r, vi 0, vi ex] [(.int 1), (.int 0)])) st1 ?_
 refine own_st (T' := T1) (g' := (mkF m 10 #[vr r, vi 0, vi ex] [(.int 0), (.ref r)])) (fun t k => ?_) ?_
 ·refine XS.icmpNo X1.here hx rfl (hb hby own_d17_5) rfl (tlt (by decide : (0 : Int32) < (1 : Int32))).2.1 ?_
  refine XS.aloadN X1.here hx rfl (hb hby own_d17_8) rfl rfl ?_
  refine XS.iloadN X1.here hx rfl (hb hby own_d17_9) rfl ?_
  exact k
 obtain ⟨cq2, kq2, q2a, q2b, q2c⟩ := isOf hZ e1 E_r
 obtain ⟨_, _, ⟨T2, L2, c2, n2⟩, -, X2, ⟨Lc2, hQ2, l2, y2, z2⟩, st2⟩ := X1.virtualBack hx (y := own_y31) (z := own_y31) hown (om hZ hw 104 rfl) (om hZ hw 105 rfl) (notFace_of_selects (args := #[]) (om hZ hw 107 rfl)) (om hZ hw 107 rfl) (om hZ hw 106 rfl) (by decide) (backOf (W := 0) (own_rm18_0_1_0 l Z a0 hw r arr ka x0 cs fm u8 h0 n0 Z0 O0 E_r F_v F_c V_a HB) hZ (own_w hw 108 rfl) (own_w hw 37 rfl) (by decide) (by decide)) q2a q2c (g := (mkF m 10 #[vr r, vi 0, vi ex] [(.int 0), (.ref r)])) rfl (by rw [hml]; rfl) (Steps.refl _) (argsL := [(.int 0)]) (rest := []) (lenOf own_pd25 rfl) rfl (by show 2 * 0 + _ ≤ _; exact Nat.le_of_eq rfl) (hb hby own_d17_10) (fun _ _ => ⟨rfl, e1, (by decide : 0 + 0 ≤ _), (by decide : 0 + 0 ≤ _)⟩)
 dsimp only [Pt.U, Pt.locs, Pt.cells, Pt.slots] at X2 l2 y2 z2 st2 hQ2
 subst l2 y2 z2
 obtain ⟨rfl, N2q, e2⟩ := hQ2
 have N2 := Fr.app N1 N2q
 refine own_tr (T' := T2) (g' := (mkF m 13 #[vr r, vi 0, vi ex] [(.int (own_lc x0))])) st2 ?_
 refine own_st (T' := T2) (g' := (mkF m 23 #[vr r, vi 0, vi ex] [(.int 1)])) (fun t k => ?_) ?_
 ·refine XS.iloadN X2.here hx rfl (hb hby own_d17_13) rfl ?_
  refine XS.i2c X2.here hx rfl (hb hby own_d17_14) rfl ?_
  refine XS.icmpNo X2.here hx rfl (hb hby own_d17_15) rfl (teq hq).2 ?_
  refine XS.iconst X2.here hx rfl (hb hby own_d17_18) ?_
  refine XS.goto X2.here hx rfl (pc0 := 19) (pc' := 23) rfl (hb hby own_d17_19) (by decide) (by decide) ?_
  exact k
 exact own_retN X2 hx Bd (t := .boolean) (by simp) rfl (hb hby own_d17_23) e2 (⟨rfl, N2, rfl⟩) (by decide) (by decide)
def own_r17_0_1_1 : Room := { frames := 2, cells := 0, slots := 0, locals := 26 }
theorem own_rm17_0_1_1 (l : Launch) (Z : State) (a0 : Array Value) (hw : own_W a0 Z) (r arr : Addr) (ka : ClassId) (x0 : Int32) (ex : Int32) (cs : Int32) (fm : Value) (u8 : Addr) (h0 : Heap) (n0 : Nat) (Z0 : n0 ≤ h0.size) (O0 : Old Z n0 h0) (E_r : Exa Z h0 r "java/lang/String") (F_v : Fld Z h0 r "java/lang/String" "value" "[B" (.ref arr)) (F_c : Fld Z h0 r "java/lang/String" "coder" "B" (.int 0)) (V_a : Arv Z h0 arr ka .byte (1 : Int32) [(.int x0)] (.int 0)) (HB : own_BB Z cs fm u8) :
  own_MF l Z own_y32 (Jvm.Cond.code own_y32 method_4_code 3 (some .boolean)) [] own_r17_0_1_1 #[(.ref r), (.int 1), (.int ex)] h0 (own_P h0 n0 (.int 1)) := by
 refine own_open (plainFor_of_name own_pn8) hisR (Ls := #[vr r, vi 1, vi ex]) ?_
 intro p e s m below meth c s₁ Bd hZ hx hby hml hown X0 e0
 have N0 := Fr.nil n0
 refine own_st (T' := s₁) (g' := (mkF m 2 #[vr r, vi 1, vi ex] [(.ref r), (.int 1)])) (fun t k => ?_) ?_
 ·refine XS.iloadN X0.here hx rfl (hb hby own_d17_0) rfl ?_
  refine XS.aloadN X0.here hx rfl (hb hby own_d17_1) rfl rfl ?_
  exact k
 obtain ⟨cq1, kq1, q1a, q1b, q1c⟩ := isOf hZ e0 E_r
 obtain ⟨_, _, ⟨T1, L1, c1, n1⟩, -, X1, ⟨Lc1, hQ1, l1, y1, z1⟩, st1⟩ := X0.virtualBack hx (y := own_y26) (z := own_y26) hown (om hZ hw 91 rfl) (om hZ hw 92 rfl) (notFace_of_selects (args := #[]) (om hZ hw 94 rfl)) (om hZ hw 94 rfl) (om hZ hw 93 rfl) (by decide) (backOf (W := 1) (own_rm15_0_1 l Z a0 hw r arr ka x0 cs fm u8 h0 n0 Z0 O0 E_r F_v F_c V_a HB) hZ (own_w hw 95 rfl) (own_w hw 37 rfl) (by decide) (by decide)) q1a q1c (g := (mkF m 2 #[vr r, vi 1, vi ex] [(.ref r), (.int 1)])) rfl (by rw [hml]; rfl) (Steps.refl _) (argsL := []) (rest := [(.int 1)]) (lenOf own_pd24 rfl) rfl (by show 2 * 0 + _ ≤ _; exact Nat.le_of_eq rfl) (hb hby own_d17_2) (fun _ _ => ⟨rfl, e0, (by decide : 0 + 0 ≤ _), (by decide : 0 + 0 ≤ _)⟩)
 dsimp only [Pt.U, Pt.locs, Pt.cells, Pt.slots] at X1 l1 y1 z1 st1 hQ1
 subst l1 y1 z1
 obtain ⟨rfl, N1q, e1⟩ := hQ1
 have N1 := Fr.app N0 N1q
 refine own_tr (T' := T1) (g' := (mkF m 5 #[vr r, vi 1, vi ex] [(.int 1), (.int 1)])) st1 ?_
 refine own_st (T' := T1) (g' := (mkF m 23 #[vr r, vi 1, vi ex] [(.int 1)])) (fun t k => ?_) ?_
 ·refine XS.icmpYes X1.here hx rfl (pc0 := 5) (pc' := 18) rfl (hb hby own_d17_5) rfl (flt Int32.lt_irrefl).2.1 (by decide) (by decide) ?_
  refine XS.iconst X1.here hx rfl (hb hby own_d17_18) ?_
  refine XS.goto X1.here hx rfl (pc0 := 19) (pc' := 23) rfl (hb hby own_d17_19) (by decide) (by decide) ?_
  exact k
 exact own_retN X1 hx Bd (t := .boolean) (by simp) rfl (hb hby own_d17_23) e1 (⟨rfl, N1, rfl⟩) (by decide) (by decide)
def own_r17_0_1_2 : Room := { frames := 2, cells := 0, slots := 0, locals := 26 }
theorem own_rm17_0_1_2 (l : Launch) (Z : State) (a0 : Array Value) (hw : own_W a0 Z) (r arr : Addr) (ka : ClassId) (x0 : Int32) (ex : Int32) (cs : Int32) (fm : Value) (u8 : Addr) (h0 : Heap) (n0 : Nat) (Z0 : n0 ≤ h0.size) (O0 : Old Z n0 h0) (E_r : Exa Z h0 r "java/lang/String") (F_v : Fld Z h0 r "java/lang/String" "value" "[B" (.ref arr)) (F_c : Fld Z h0 r "java/lang/String" "coder" "B" (.int 0)) (V_a : Arv Z h0 arr ka .byte (1 : Int32) [(.int x0)] (.int 0)) (HB : own_BB Z cs fm u8) :
  own_MF l Z own_y32 (Jvm.Cond.code own_y32 method_4_code 3 (some .boolean)) [] own_r17_0_1_2 #[(.ref r), (.int 2), (.int ex)] h0 (own_P h0 n0 (.int 1)) := by
 refine own_open (plainFor_of_name own_pn8) hisR (Ls := #[vr r, vi 2, vi ex]) ?_
 intro p e s m below meth c s₁ Bd hZ hx hby hml hown X0 e0
 have N0 := Fr.nil n0
 refine own_st (T' := s₁) (g' := (mkF m 2 #[vr r, vi 2, vi ex] [(.ref r), (.int 2)])) (fun t k => ?_) ?_
 ·refine XS.iloadN X0.here hx rfl (hb hby own_d17_0) rfl ?_
  refine XS.aloadN X0.here hx rfl (hb hby own_d17_1) rfl rfl ?_
  exact k
 obtain ⟨cq1, kq1, q1a, q1b, q1c⟩ := isOf hZ e0 E_r
 obtain ⟨_, _, ⟨T1, L1, c1, n1⟩, -, X1, ⟨Lc1, hQ1, l1, y1, z1⟩, st1⟩ := X0.virtualBack hx (y := own_y26) (z := own_y26) hown (om hZ hw 91 rfl) (om hZ hw 92 rfl) (notFace_of_selects (args := #[]) (om hZ hw 94 rfl)) (om hZ hw 94 rfl) (om hZ hw 93 rfl) (by decide) (backOf (W := 1) (own_rm15_0_1 l Z a0 hw r arr ka x0 cs fm u8 h0 n0 Z0 O0 E_r F_v F_c V_a HB) hZ (own_w hw 95 rfl) (own_w hw 37 rfl) (by decide) (by decide)) q1a q1c (g := (mkF m 2 #[vr r, vi 2, vi ex] [(.ref r), (.int 2)])) rfl (by rw [hml]; rfl) (Steps.refl _) (argsL := []) (rest := [(.int 2)]) (lenOf own_pd24 rfl) rfl (by show 2 * 0 + _ ≤ _; exact Nat.le_of_eq rfl) (hb hby own_d17_2) (fun _ _ => ⟨rfl, e0, (by decide : 0 + 0 ≤ _), (by decide : 0 + 0 ≤ _)⟩)
 dsimp only [Pt.U, Pt.locs, Pt.cells, Pt.slots] at X1 l1 y1 z1 st1 hQ1
 subst l1 y1 z1
 obtain ⟨rfl, N1q, e1⟩ := hQ1
 have N1 := Fr.app N0 N1q
 refine own_tr (T' := T1) (g' := (mkF m 5 #[vr r, vi 2, vi ex] [(.int 1), (.int 2)])) st1 ?_
 refine own_st (T' := T1) (g' := (mkF m 23 #[vr r, vi 2, vi ex] [(.int 1)])) (fun t k => ?_) ?_
 ·refine XS.icmpYes X1.here hx rfl (pc0 := 5) (pc' := 18) rfl (hb hby own_d17_5) rfl (flt (by decide : ¬ ((2 : Int32) < (1 : Int32)))).2.1 (by decide) (by decide) ?_
  refine XS.iconst X1.here hx rfl (hb hby own_d17_18) ?_
  refine XS.goto X1.here hx rfl (pc0 := 19) (pc' := 23) rfl (hb hby own_d17_19) (by decide) (by decide) ?_
  exact k
 exact own_retN X1 hx Bd (t := .boolean) (by simp) rfl (hb hby own_d17_23) e1 (⟨rfl, N1, rfl⟩) (by decide) (by decide)
def own_r17_0_2_0 : Room := { frames := 4, cells := 0, slots := 0, locals := 53 }
theorem own_rm17_0_2_0 (l : Launch) (Z : State) (a0 : Array Value) (hw : own_W a0 Z) (r arr : Addr) (ka : ClassId) (x0 x1 : Int32) (ex : Int32) (cs : Int32) (fm : Value) (u8 : Addr) (h0 : Heap) (n0 : Nat) (Z0 : n0 ≤ h0.size) (O0 : Old Z n0 h0) (E_r : Exa Z h0 r "java/lang/String") (F_v : Fld Z h0 r "java/lang/String" "value" "[B" (.ref arr)) (F_c : Fld Z h0 r "java/lang/String" "coder" "B" (.int 0)) (V_a : Arv Z h0 arr ka .byte (2 : Int32) [(.int x0), (.int x1)] (.int 0)) (hq : (own_lc x0) = (ex.toUInt32.toUInt16.toUInt32.toInt32)) (HB : own_BB Z cs fm u8) :
  own_MF l Z own_y32 (Jvm.Cond.code own_y32 method_4_code 3 (some .boolean)) [] own_r17_0_2_0 #[(.ref r), (.int 0), (.int ex)] h0 (own_P h0 n0 (.int 1)) := by
 refine own_open (plainFor_of_name own_pn8) hisR (Ls := #[vr r, vi 0, vi ex]) ?_
 intro p e s m below meth c s₁ Bd hZ hx hby hml hown X0 e0
 have N0 := Fr.nil n0
 refine own_st (T' := s₁) (g' := (mkF m 2 #[vr r, vi 0, vi ex] [(.ref r), (.int 0)])) (fun t k => ?_) ?_
 ·refine XS.iloadN X0.here hx rfl (hb hby own_d17_0) rfl ?_
  refine XS.aloadN X0.here hx rfl (hb hby own_d17_1) rfl rfl ?_
  exact k
 obtain ⟨cq1, kq1, q1a, q1b, q1c⟩ := isOf hZ e0 E_r
 obtain ⟨_, _, ⟨T1, L1, c1, n1⟩, -, X1, ⟨Lc1, hQ1, l1, y1, z1⟩, st1⟩ := X0.virtualBack hx (y := own_y26) (z := own_y26) hown (om hZ hw 91 rfl) (om hZ hw 92 rfl) (notFace_of_selects (args := #[]) (om hZ hw 94 rfl)) (om hZ hw 94 rfl) (om hZ hw 93 rfl) (by decide) (backOf (W := 1) (own_rm15_0_2 l Z a0 hw r arr ka x0 x1 cs fm u8 h0 n0 Z0 O0 E_r F_v F_c V_a HB) hZ (own_w hw 95 rfl) (own_w hw 37 rfl) (by decide) (by decide)) q1a q1c (g := (mkF m 2 #[vr r, vi 0, vi ex] [(.ref r), (.int 0)])) rfl (by rw [hml]; rfl) (Steps.refl _) (argsL := []) (rest := [(.int 0)]) (lenOf own_pd24 rfl) rfl (by show 2 * 0 + _ ≤ _; exact Nat.le_of_eq rfl) (hb hby own_d17_2) (fun _ _ => ⟨rfl, e0, (by decide : 0 + 0 ≤ _), (by decide : 0 + 0 ≤ _)⟩)
 dsimp only [Pt.U, Pt.locs, Pt.cells, Pt.slots] at X1 l1 y1 z1 st1 hQ1
 subst l1 y1 z1
 obtain ⟨rfl, N1q, e1⟩ := hQ1
 have N1 := Fr.app N0 N1q
 refine own_tr (T' := T1) (g' := (mkF m 5 #[vr r, vi 0, vi ex] [(.int 2), (.int 0)])) st1 ?_
 refine own_st (T' := T1) (g' := (mkF m 10 #[vr r, vi 0, vi ex] [(.int 0), (.ref r)])) (fun t k => ?_) ?_
 ·refine XS.icmpNo X1.here hx rfl (hb hby own_d17_5) rfl (tlt (by decide : (0 : Int32) < (2 : Int32))).2.1 ?_
  refine XS.aloadN X1.here hx rfl (hb hby own_d17_8) rfl rfl ?_
  refine XS.iloadN X1.here hx rfl (hb hby own_d17_9) rfl ?_
  exact k
 obtain ⟨cq2, kq2, q2a, q2b, q2c⟩ := isOf hZ e1 E_r
 obtain ⟨_, _, ⟨T2, L2, c2, n2⟩, -, X2, ⟨Lc2, hQ2, l2, y2, z2⟩, st2⟩ := X1.virtualBack hx (y := own_y31) (z := own_y31) hown (om hZ hw 104 rfl) (om hZ hw 105 rfl) (notFace_of_selects (args := #[]) (om hZ hw 107 rfl)) (om hZ hw 107 rfl) (om hZ hw 106 rfl) (by decide) (backOf (W := 0) (own_rm18_0_2_0 l Z a0 hw r arr ka x0 x1 cs fm u8 h0 n0 Z0 O0 E_r F_v F_c V_a HB) hZ (own_w hw 108 rfl) (own_w hw 37 rfl) (by decide) (by decide)) q2a q2c (g := (mkF m 10 #[vr r, vi 0, vi ex] [(.int 0), (.ref r)])) rfl (by rw [hml]; rfl) (Steps.refl _) (argsL := [(.int 0)]) (rest := []) (lenOf own_pd25 rfl) rfl (by show 2 * 0 + _ ≤ _; exact Nat.le_of_eq rfl) (hb hby own_d17_10) (fun _ _ => ⟨rfl, e1, (by decide : 0 + 0 ≤ _), (by decide : 0 + 0 ≤ _)⟩)
 dsimp only [Pt.U, Pt.locs, Pt.cells, Pt.slots] at X2 l2 y2 z2 st2 hQ2
 subst l2 y2 z2
 obtain ⟨rfl, N2q, e2⟩ := hQ2
 have N2 := Fr.app N1 N2q
 refine own_tr (T' := T2) (g' := (mkF m 13 #[vr r, vi 0, vi ex] [(.int (own_lc x0))])) st2 ?_
 refine own_st (T' := T2) (g' := (mkF m 23 #[vr r, vi 0, vi ex] [(.int 1)])) (fun t k => ?_) ?_
 ·refine XS.iloadN X2.here hx rfl (hb hby own_d17_13) rfl ?_
  refine XS.i2c X2.here hx rfl (hb hby own_d17_14) rfl ?_
  refine XS.icmpNo X2.here hx rfl (hb hby own_d17_15) rfl (teq hq).2 ?_
  refine XS.iconst X2.here hx rfl (hb hby own_d17_18) ?_
  refine XS.goto X2.here hx rfl (pc0 := 19) (pc' := 23) rfl (hb hby own_d17_19) (by decide) (by decide) ?_
  exact k
 exact own_retN X2 hx Bd (t := .boolean) (by simp) rfl (hb hby own_d17_23) e2 (⟨rfl, N2, rfl⟩) (by decide) (by decide)
def own_r17_0_2_1 : Room := { frames := 4, cells := 0, slots := 0, locals := 53 }
theorem own_rm17_0_2_1 (l : Launch) (Z : State) (a0 : Array Value) (hw : own_W a0 Z) (r arr : Addr) (ka : ClassId) (x0 x1 : Int32) (ex : Int32) (cs : Int32) (fm : Value) (u8 : Addr) (h0 : Heap) (n0 : Nat) (Z0 : n0 ≤ h0.size) (O0 : Old Z n0 h0) (E_r : Exa Z h0 r "java/lang/String") (F_v : Fld Z h0 r "java/lang/String" "value" "[B" (.ref arr)) (F_c : Fld Z h0 r "java/lang/String" "coder" "B" (.int 0)) (V_a : Arv Z h0 arr ka .byte (2 : Int32) [(.int x0), (.int x1)] (.int 0)) (hq : (own_lc x1) = (ex.toUInt32.toUInt16.toUInt32.toInt32)) (HB : own_BB Z cs fm u8) :
  own_MF l Z own_y32 (Jvm.Cond.code own_y32 method_4_code 3 (some .boolean)) [] own_r17_0_2_1 #[(.ref r), (.int 1), (.int ex)] h0 (own_P h0 n0 (.int 1)) := by
 refine own_open (plainFor_of_name own_pn8) hisR (Ls := #[vr r, vi 1, vi ex]) ?_
 intro p e s m below meth c s₁ Bd hZ hx hby hml hown X0 e0
 have N0 := Fr.nil n0
 refine own_st (T' := s₁) (g' := (mkF m 2 #[vr r, vi 1, vi ex] [(.ref r), (.int 1)])) (fun t k => ?_) ?_
 ·refine XS.iloadN X0.here hx rfl (hb hby own_d17_0) rfl ?_
  refine XS.aloadN X0.here hx rfl (hb hby own_d17_1) rfl rfl ?_
  exact k
 obtain ⟨cq1, kq1, q1a, q1b, q1c⟩ := isOf hZ e0 E_r
 obtain ⟨_, _, ⟨T1, L1, c1, n1⟩, -, X1, ⟨Lc1, hQ1, l1, y1, z1⟩, st1⟩ := X0.virtualBack hx (y := own_y26) (z := own_y26) hown (om hZ hw 91 rfl) (om hZ hw 92 rfl) (notFace_of_selects (args := #[]) (om hZ hw 94 rfl)) (om hZ hw 94 rfl) (om hZ hw 93 rfl) (by decide) (backOf (W := 1) (own_rm15_0_2 l Z a0 hw r arr ka x0 x1 cs fm u8 h0 n0 Z0 O0 E_r F_v F_c V_a HB) hZ (own_w hw 95 rfl) (own_w hw 37 rfl) (by decide) (by decide)) q1a q1c (g := (mkF m 2 #[vr r, vi 1, vi ex] [(.ref r), (.int 1)])) rfl (by rw [hml]; rfl) (Steps.refl _) (argsL := []) (rest := [(.int 1)]) (lenOf own_pd24 rfl) rfl (by show 2 * 0 + _ ≤ _; exact Nat.le_of_eq rfl) (hb hby own_d17_2) (fun _ _ => ⟨rfl, e0, (by decide : 0 + 0 ≤ _), (by decide : 0 + 0 ≤ _)⟩)
 dsimp only [Pt.U, Pt.locs, Pt.cells, Pt.slots] at X1 l1 y1 z1 st1 hQ1
 subst l1 y1 z1
 obtain ⟨rfl, N1q, e1⟩ := hQ1
 have N1 := Fr.app N0 N1q
 refine own_tr (T' := T1) (g' := (mkF m 5 #[vr r, vi 1, vi ex] [(.int 2), (.int 1)])) st1 ?_
 refine own_st (T' := T1) (g' := (mkF m 10 #[vr r, vi 1, vi ex] [(.int 1), (.ref r)])) (fun t k => ?_) ?_
 ·refine XS.icmpNo X1.here hx rfl (hb hby own_d17_5) rfl (tlt (by decide : (1 : Int32) < (2 : Int32))).2.1 ?_
  refine XS.aloadN X1.here hx rfl (hb hby own_d17_8) rfl rfl ?_
  refine XS.iloadN X1.here hx rfl (hb hby own_d17_9) rfl ?_
  exact k
 obtain ⟨cq2, kq2, q2a, q2b, q2c⟩ := isOf hZ e1 E_r
 obtain ⟨_, _, ⟨T2, L2, c2, n2⟩, -, X2, ⟨Lc2, hQ2, l2, y2, z2⟩, st2⟩ := X1.virtualBack hx (y := own_y31) (z := own_y31) hown (om hZ hw 104 rfl) (om hZ hw 105 rfl) (notFace_of_selects (args := #[]) (om hZ hw 107 rfl)) (om hZ hw 107 rfl) (om hZ hw 106 rfl) (by decide) (backOf (W := 0) (own_rm18_0_2_1 l Z a0 hw r arr ka x0 x1 cs fm u8 h0 n0 Z0 O0 E_r F_v F_c V_a HB) hZ (own_w hw 108 rfl) (own_w hw 37 rfl) (by decide) (by decide)) q2a q2c (g := (mkF m 10 #[vr r, vi 1, vi ex] [(.int 1), (.ref r)])) rfl (by rw [hml]; rfl) (Steps.refl _) (argsL := [(.int 1)]) (rest := []) (lenOf own_pd25 rfl) rfl (by show 2 * 0 + _ ≤ _; exact Nat.le_of_eq rfl) (hb hby own_d17_10) (fun _ _ => ⟨rfl, e1, (by decide : 0 + 0 ≤ _), (by decide : 0 + 0 ≤ _)⟩)
 dsimp only [Pt.U, Pt.locs, Pt.cells, Pt.slots] at X2 l2 y2 z2 st2 hQ2
 subst l2 y2 z2
 obtain ⟨rfl, N2q, e2⟩ := hQ2
 have N2 := Fr.app N1 N2q
 refine own_tr (T' := T2) (g' := (mkF m 13 #[vr r, vi 1, vi ex] [(.int (own_lc x1))])) st2 ?_
 refine own_st (T' := T2) (g' := (mkF m 23 #[vr r, vi 1, vi ex] [(.int 1)])) (fun t k => ?_) ?_
 ·refine XS.iloadN X2.here hx rfl (hb hby own_d17_13) rfl ?_
  refine XS.i2c X2.here hx rfl (hb hby own_d17_14) rfl ?_
  refine XS.icmpNo X2.here hx rfl (hb hby own_d17_15) rfl (teq hq).2 ?_
  refine XS.iconst X2.here hx rfl (hb hby own_d17_18) ?_
  refine XS.goto X2.here hx rfl (pc0 := 19) (pc' := 23) rfl (hb hby own_d17_19) (by decide) (by decide) ?_
  exact k
 exact own_retN X2 hx Bd (t := .boolean) (by simp) rfl (hb hby own_d17_23) e2 (⟨rfl, N2, rfl⟩) (by decide) (by decide)
def own_r17_0_2_2 : Room := { frames := 2, cells := 0, slots := 0, locals := 26 }
theorem own_rm17_0_2_2 (l : Launch) (Z : State) (a0 : Array Value) (hw : own_W a0 Z) (r arr : Addr) (ka : ClassId) (x0 x1 : Int32) (ex : Int32) (cs : Int32) (fm : Value) (u8 : Addr) (h0 : Heap) (n0 : Nat) (Z0 : n0 ≤ h0.size) (O0 : Old Z n0 h0) (E_r : Exa Z h0 r "java/lang/String") (F_v : Fld Z h0 r "java/lang/String" "value" "[B" (.ref arr)) (F_c : Fld Z h0 r "java/lang/String" "coder" "B" (.int 0)) (V_a : Arv Z h0 arr ka .byte (2 : Int32) [(.int x0), (.int x1)] (.int 0)) (HB : own_BB Z cs fm u8) :
  own_MF l Z own_y32 (Jvm.Cond.code own_y32 method_4_code 3 (some .boolean)) [] own_r17_0_2_2 #[(.ref r), (.int 2), (.int ex)] h0 (own_P h0 n0 (.int 1)) := by
 refine own_open (plainFor_of_name own_pn8) hisR (Ls := #[vr r, vi 2, vi ex]) ?_
 intro p e s m below meth c s₁ Bd hZ hx hby hml hown X0 e0
 have N0 := Fr.nil n0
 refine own_st (T' := s₁) (g' := (mkF m 2 #[vr r, vi 2, vi ex] [(.ref r), (.int 2)])) (fun t k => ?_) ?_
 ·refine XS.iloadN X0.here hx rfl (hb hby own_d17_0) rfl ?_
  refine XS.aloadN X0.here hx rfl (hb hby own_d17_1) rfl rfl ?_
  exact k
 obtain ⟨cq1, kq1, q1a, q1b, q1c⟩ := isOf hZ e0 E_r
 obtain ⟨_, _, ⟨T1, L1, c1, n1⟩, -, X1, ⟨Lc1, hQ1, l1, y1, z1⟩, st1⟩ := X0.virtualBack hx (y := own_y26) (z := own_y26) hown (om hZ hw 91 rfl) (om hZ hw 92 rfl) (notFace_of_selects (args := #[]) (om hZ hw 94 rfl)) (om hZ hw 94 rfl) (om hZ hw 93 rfl) (by decide) (backOf (W := 1) (own_rm15_0_2 l Z a0 hw r arr ka x0 x1 cs fm u8 h0 n0 Z0 O0 E_r F_v F_c V_a HB) hZ (own_w hw 95 rfl) (own_w hw 37 rfl) (by decide) (by decide)) q1a q1c (g := (mkF m 2 #[vr r, vi 2, vi ex] [(.ref r), (.int 2)])) rfl (by rw [hml]; rfl) (Steps.refl _) (argsL := []) (rest := [(.int 2)]) (lenOf own_pd24 rfl) rfl (by show 2 * 0 + _ ≤ _; exact Nat.le_of_eq rfl) (hb hby own_d17_2) (fun _ _ => ⟨rfl, e0, (by decide : 0 + 0 ≤ _), (by decide : 0 + 0 ≤ _)⟩)
 dsimp only [Pt.U, Pt.locs, Pt.cells, Pt.slots] at X1 l1 y1 z1 st1 hQ1
 subst l1 y1 z1
 obtain ⟨rfl, N1q, e1⟩ := hQ1
 have N1 := Fr.app N0 N1q
 refine own_tr (T' := T1) (g' := (mkF m 5 #[vr r, vi 2, vi ex] [(.int 2), (.int 2)])) st1 ?_
 refine own_st (T' := T1) (g' := (mkF m 23 #[vr r, vi 2, vi ex] [(.int 1)])) (fun t k => ?_) ?_
 ·refine XS.icmpYes X1.here hx rfl (pc0 := 5) (pc' := 18) rfl (hb hby own_d17_5) rfl (flt Int32.lt_irrefl).2.1 (by decide) (by decide) ?_
  refine XS.iconst X1.here hx rfl (hb hby own_d17_18) ?_
  refine XS.goto X1.here hx rfl (pc0 := 19) (pc' := 23) rfl (hb hby own_d17_19) (by decide) (by decide) ?_
  exact k
 exact own_retN X1 hx Bd (t := .boolean) (by simp) rfl (hb hby own_d17_23) e1 (⟨rfl, N1, rfl⟩) (by decide) (by decide)
def own_r17_0_3_0 : Room := { frames := 4, cells := 0, slots := 0, locals := 53 }
theorem own_rm17_0_3_0 (l : Launch) (Z : State) (a0 : Array Value) (hw : own_W a0 Z) (r arr : Addr) (ka : ClassId) (x0 x1 x2 : Int32) (ex : Int32) (cs : Int32) (fm : Value) (u8 : Addr) (h0 : Heap) (n0 : Nat) (Z0 : n0 ≤ h0.size) (O0 : Old Z n0 h0) (E_r : Exa Z h0 r "java/lang/String") (F_v : Fld Z h0 r "java/lang/String" "value" "[B" (.ref arr)) (F_c : Fld Z h0 r "java/lang/String" "coder" "B" (.int 0)) (V_a : Arv Z h0 arr ka .byte (3 : Int32) [(.int x0), (.int x1), (.int x2)] (.int 0)) (hq : (own_lc x0) = (ex.toUInt32.toUInt16.toUInt32.toInt32)) (HB : own_BB Z cs fm u8) :
  own_MF l Z own_y32 (Jvm.Cond.code own_y32 method_4_code 3 (some .boolean)) [] own_r17_0_3_0 #[(.ref r), (.int 0), (.int ex)] h0 (own_P h0 n0 (.int 1)) := by
 refine own_open (plainFor_of_name own_pn8) hisR (Ls := #[vr r, vi 0, vi ex]) ?_
 intro p e s m below meth c s₁ Bd hZ hx hby hml hown X0 e0
 have N0 := Fr.nil n0
 refine own_st (T' := s₁) (g' := (mkF m 2 #[vr r, vi 0, vi ex] [(.ref r), (.int 0)])) (fun t k => ?_) ?_
 ·refine XS.iloadN X0.here hx rfl (hb hby own_d17_0) rfl ?_
  refine XS.aloadN X0.here hx rfl (hb hby own_d17_1) rfl rfl ?_
  exact k
 obtain ⟨cq1, kq1, q1a, q1b, q1c⟩ := isOf hZ e0 E_r
 obtain ⟨_, _, ⟨T1, L1, c1, n1⟩, -, X1, ⟨Lc1, hQ1, l1, y1, z1⟩, st1⟩ := X0.virtualBack hx (y := own_y26) (z := own_y26) hown (om hZ hw 91 rfl) (om hZ hw 92 rfl) (notFace_of_selects (args := #[]) (om hZ hw 94 rfl)) (om hZ hw 94 rfl) (om hZ hw 93 rfl) (by decide) (backOf (W := 1) (own_rm15_0_3 l Z a0 hw r arr ka x0 x1 x2 cs fm u8 h0 n0 Z0 O0 E_r F_v F_c V_a HB) hZ (own_w hw 95 rfl) (own_w hw 37 rfl) (by decide) (by decide)) q1a q1c (g := (mkF m 2 #[vr r, vi 0, vi ex] [(.ref r), (.int 0)])) rfl (by rw [hml]; rfl) (Steps.refl _) (argsL := []) (rest := [(.int 0)]) (lenOf own_pd24 rfl) rfl (by show 2 * 0 + _ ≤ _; exact Nat.le_of_eq rfl) (hb hby own_d17_2) (fun _ _ => ⟨rfl, e0, (by decide : 0 + 0 ≤ _), (by decide : 0 + 0 ≤ _)⟩)
 dsimp only [Pt.U, Pt.locs, Pt.cells, Pt.slots] at X1 l1 y1 z1 st1 hQ1
 subst l1 y1 z1
 obtain ⟨rfl, N1q, e1⟩ := hQ1
 have N1 := Fr.app N0 N1q
 refine own_tr (T' := T1) (g' := (mkF m 5 #[vr r, vi 0, vi ex] [(.int 3), (.int 0)])) st1 ?_
 refine own_st (T' := T1) (g' := (mkF m 10 #[vr r, vi 0, vi ex] [(.int 0), (.ref r)])) (fun t k => ?_) ?_
 ·refine XS.icmpNo X1.here hx rfl (hb hby own_d17_5) rfl (tlt (by decide : (0 : Int32) < (3 : Int32))).2.1 ?_
  refine XS.aloadN X1.here hx rfl (hb hby own_d17_8) rfl rfl ?_
  refine XS.iloadN X1.here hx rfl (hb hby own_d17_9) rfl ?_
  exact k
 obtain ⟨cq2, kq2, q2a, q2b, q2c⟩ := isOf hZ e1 E_r
 obtain ⟨_, _, ⟨T2, L2, c2, n2⟩, -, X2, ⟨Lc2, hQ2, l2, y2, z2⟩, st2⟩ := X1.virtualBack hx (y := own_y31) (z := own_y31) hown (om hZ hw 104 rfl) (om hZ hw 105 rfl) (notFace_of_selects (args := #[]) (om hZ hw 107 rfl)) (om hZ hw 107 rfl) (om hZ hw 106 rfl) (by decide) (backOf (W := 0) (own_rm18_0_3_0 l Z a0 hw r arr ka x0 x1 x2 cs fm u8 h0 n0 Z0 O0 E_r F_v F_c V_a HB) hZ (own_w hw 108 rfl) (own_w hw 37 rfl) (by decide) (by decide)) q2a q2c (g := (mkF m 10 #[vr r, vi 0, vi ex] [(.int 0), (.ref r)])) rfl (by rw [hml]; rfl) (Steps.refl _) (argsL := [(.int 0)]) (rest := []) (lenOf own_pd25 rfl) rfl (by show 2 * 0 + _ ≤ _; exact Nat.le_of_eq rfl) (hb hby own_d17_10) (fun _ _ => ⟨rfl, e1, (by decide : 0 + 0 ≤ _), (by decide : 0 + 0 ≤ _)⟩)
 dsimp only [Pt.U, Pt.locs, Pt.cells, Pt.slots] at X2 l2 y2 z2 st2 hQ2
 subst l2 y2 z2
 obtain ⟨rfl, N2q, e2⟩ := hQ2
 have N2 := Fr.app N1 N2q
 refine own_tr (T' := T2) (g' := (mkF m 13 #[vr r, vi 0, vi ex] [(.int (own_lc x0))])) st2 ?_
 refine own_st (T' := T2) (g' := (mkF m 23 #[vr r, vi 0, vi ex] [(.int 1)])) (fun t k => ?_) ?_
 ·refine XS.iloadN X2.here hx rfl (hb hby own_d17_13) rfl ?_
  refine XS.i2c X2.here hx rfl (hb hby own_d17_14) rfl ?_
  refine XS.icmpNo X2.here hx rfl (hb hby own_d17_15) rfl (teq hq).2 ?_
  refine XS.iconst X2.here hx rfl (hb hby own_d17_18) ?_
  refine XS.goto X2.here hx rfl (pc0 := 19) (pc' := 23) rfl (hb hby own_d17_19) (by decide) (by decide) ?_
  exact k
 exact own_retN X2 hx Bd (t := .boolean) (by simp) rfl (hb hby own_d17_23) e2 (⟨rfl, N2, rfl⟩) (by decide) (by decide)
def own_r17_0_3_1 : Room := { frames := 4, cells := 0, slots := 0, locals := 53 }
theorem own_rm17_0_3_1 (l : Launch) (Z : State) (a0 : Array Value) (hw : own_W a0 Z) (r arr : Addr) (ka : ClassId) (x0 x1 x2 : Int32) (ex : Int32) (cs : Int32) (fm : Value) (u8 : Addr) (h0 : Heap) (n0 : Nat) (Z0 : n0 ≤ h0.size) (O0 : Old Z n0 h0) (E_r : Exa Z h0 r "java/lang/String") (F_v : Fld Z h0 r "java/lang/String" "value" "[B" (.ref arr)) (F_c : Fld Z h0 r "java/lang/String" "coder" "B" (.int 0)) (V_a : Arv Z h0 arr ka .byte (3 : Int32) [(.int x0), (.int x1), (.int x2)] (.int 0)) (hq : (own_lc x1) = (ex.toUInt32.toUInt16.toUInt32.toInt32)) (HB : own_BB Z cs fm u8) :
  own_MF l Z own_y32 (Jvm.Cond.code own_y32 method_4_code 3 (some .boolean)) [] own_r17_0_3_1 #[(.ref r), (.int 1), (.int ex)] h0 (own_P h0 n0 (.int 1)) := by
 refine own_open (plainFor_of_name own_pn8) hisR (Ls := #[vr r, vi 1, vi ex]) ?_
 intro p e s m below meth c s₁ Bd hZ hx hby hml hown X0 e0
 have N0 := Fr.nil n0
 refine own_st (T' := s₁) (g' := (mkF m 2 #[vr r, vi 1, vi ex] [(.ref r), (.int 1)])) (fun t k => ?_) ?_
 ·refine XS.iloadN X0.here hx rfl (hb hby own_d17_0) rfl ?_
  refine XS.aloadN X0.here hx rfl (hb hby own_d17_1) rfl rfl ?_
  exact k
 obtain ⟨cq1, kq1, q1a, q1b, q1c⟩ := isOf hZ e0 E_r
 obtain ⟨_, _, ⟨T1, L1, c1, n1⟩, -, X1, ⟨Lc1, hQ1, l1, y1, z1⟩, st1⟩ := X0.virtualBack hx (y := own_y26) (z := own_y26) hown (om hZ hw 91 rfl) (om hZ hw 92 rfl) (notFace_of_selects (args := #[]) (om hZ hw 94 rfl)) (om hZ hw 94 rfl) (om hZ hw 93 rfl) (by decide) (backOf (W := 1) (own_rm15_0_3 l Z a0 hw r arr ka x0 x1 x2 cs fm u8 h0 n0 Z0 O0 E_r F_v F_c V_a HB) hZ (own_w hw 95 rfl) (own_w hw 37 rfl) (by decide) (by decide)) q1a q1c (g := (mkF m 2 #[vr r, vi 1, vi ex] [(.ref r), (.int 1)])) rfl (by rw [hml]; rfl) (Steps.refl _) (argsL := []) (rest := [(.int 1)]) (lenOf own_pd24 rfl) rfl (by show 2 * 0 + _ ≤ _; exact Nat.le_of_eq rfl) (hb hby own_d17_2) (fun _ _ => ⟨rfl, e0, (by decide : 0 + 0 ≤ _), (by decide : 0 + 0 ≤ _)⟩)
 dsimp only [Pt.U, Pt.locs, Pt.cells, Pt.slots] at X1 l1 y1 z1 st1 hQ1
 subst l1 y1 z1
 obtain ⟨rfl, N1q, e1⟩ := hQ1
 have N1 := Fr.app N0 N1q
 refine own_tr (T' := T1) (g' := (mkF m 5 #[vr r, vi 1, vi ex] [(.int 3), (.int 1)])) st1 ?_
 refine own_st (T' := T1) (g' := (mkF m 10 #[vr r, vi 1, vi ex] [(.int 1), (.ref r)])) (fun t k => ?_) ?_
 ·refine XS.icmpNo X1.here hx rfl (hb hby own_d17_5) rfl (tlt (by decide : (1 : Int32) < (3 : Int32))).2.1 ?_
  refine XS.aloadN X1.here hx rfl (hb hby own_d17_8) rfl rfl ?_
  refine XS.iloadN X1.here hx rfl (hb hby own_d17_9) rfl ?_
  exact k
 obtain ⟨cq2, kq2, q2a, q2b, q2c⟩ := isOf hZ e1 E_r
 obtain ⟨_, _, ⟨T2, L2, c2, n2⟩, -, X2, ⟨Lc2, hQ2, l2, y2, z2⟩, st2⟩ := X1.virtualBack hx (y := own_y31) (z := own_y31) hown (om hZ hw 104 rfl) (om hZ hw 105 rfl) (notFace_of_selects (args := #[]) (om hZ hw 107 rfl)) (om hZ hw 107 rfl) (om hZ hw 106 rfl) (by decide) (backOf (W := 0) (own_rm18_0_3_1 l Z a0 hw r arr ka x0 x1 x2 cs fm u8 h0 n0 Z0 O0 E_r F_v F_c V_a HB) hZ (own_w hw 108 rfl) (own_w hw 37 rfl) (by decide) (by decide)) q2a q2c (g := (mkF m 10 #[vr r, vi 1, vi ex] [(.int 1), (.ref r)])) rfl (by rw [hml]; rfl) (Steps.refl _) (argsL := [(.int 1)]) (rest := []) (lenOf own_pd25 rfl) rfl (by show 2 * 0 + _ ≤ _; exact Nat.le_of_eq rfl) (hb hby own_d17_10) (fun _ _ => ⟨rfl, e1, (by decide : 0 + 0 ≤ _), (by decide : 0 + 0 ≤ _)⟩)
 dsimp only [Pt.U, Pt.locs, Pt.cells, Pt.slots] at X2 l2 y2 z2 st2 hQ2
 subst l2 y2 z2
 obtain ⟨rfl, N2q, e2⟩ := hQ2
 have N2 := Fr.app N1 N2q
 refine own_tr (T' := T2) (g' := (mkF m 13 #[vr r, vi 1, vi ex] [(.int (own_lc x1))])) st2 ?_
 refine own_st (T' := T2) (g' := (mkF m 23 #[vr r, vi 1, vi ex] [(.int 1)])) (fun t k => ?_) ?_
 ·refine XS.iloadN X2.here hx rfl (hb hby own_d17_13) rfl ?_
  refine XS.i2c X2.here hx rfl (hb hby own_d17_14) rfl ?_
  refine XS.icmpNo X2.here hx rfl (hb hby own_d17_15) rfl (teq hq).2 ?_
  refine XS.iconst X2.here hx rfl (hb hby own_d17_18) ?_
  refine XS.goto X2.here hx rfl (pc0 := 19) (pc' := 23) rfl (hb hby own_d17_19) (by decide) (by decide) ?_
  exact k
 exact own_retN X2 hx Bd (t := .boolean) (by simp) rfl (hb hby own_d17_23) e2 (⟨rfl, N2, rfl⟩) (by decide) (by decide)
def own_r17_0_3_2 : Room := { frames := 4, cells := 0, slots := 0, locals := 53 }
theorem own_rm17_0_3_2 (l : Launch) (Z : State) (a0 : Array Value) (hw : own_W a0 Z) (r arr : Addr) (ka : ClassId) (x0 x1 x2 : Int32) (ex : Int32) (cs : Int32) (fm : Value) (u8 : Addr) (h0 : Heap) (n0 : Nat) (Z0 : n0 ≤ h0.size) (O0 : Old Z n0 h0) (E_r : Exa Z h0 r "java/lang/String") (F_v : Fld Z h0 r "java/lang/String" "value" "[B" (.ref arr)) (F_c : Fld Z h0 r "java/lang/String" "coder" "B" (.int 0)) (V_a : Arv Z h0 arr ka .byte (3 : Int32) [(.int x0), (.int x1), (.int x2)] (.int 0)) (hq : (own_lc x2) = (ex.toUInt32.toUInt16.toUInt32.toInt32)) (HB : own_BB Z cs fm u8) :
  own_MF l Z own_y32 (Jvm.Cond.code own_y32 method_4_code 3 (some .boolean)) [] own_r17_0_3_2 #[(.ref r), (.int 2), (.int ex)] h0 (own_P h0 n0 (.int 1)) := by
 refine own_open (plainFor_of_name own_pn8) hisR (Ls := #[vr r, vi 2, vi ex]) ?_
 intro p e s m below meth c s₁ Bd hZ hx hby hml hown X0 e0
 have N0 := Fr.nil n0
 refine own_st (T' := s₁) (g' := (mkF m 2 #[vr r, vi 2, vi ex] [(.ref r), (.int 2)])) (fun t k => ?_) ?_
 ·refine XS.iloadN X0.here hx rfl (hb hby own_d17_0) rfl ?_
  refine XS.aloadN X0.here hx rfl (hb hby own_d17_1) rfl rfl ?_
  exact k
 obtain ⟨cq1, kq1, q1a, q1b, q1c⟩ := isOf hZ e0 E_r
 obtain ⟨_, _, ⟨T1, L1, c1, n1⟩, -, X1, ⟨Lc1, hQ1, l1, y1, z1⟩, st1⟩ := X0.virtualBack hx (y := own_y26) (z := own_y26) hown (om hZ hw 91 rfl) (om hZ hw 92 rfl) (notFace_of_selects (args := #[]) (om hZ hw 94 rfl)) (om hZ hw 94 rfl) (om hZ hw 93 rfl) (by decide) (backOf (W := 1) (own_rm15_0_3 l Z a0 hw r arr ka x0 x1 x2 cs fm u8 h0 n0 Z0 O0 E_r F_v F_c V_a HB) hZ (own_w hw 95 rfl) (own_w hw 37 rfl) (by decide) (by decide)) q1a q1c (g := (mkF m 2 #[vr r, vi 2, vi ex] [(.ref r), (.int 2)])) rfl (by rw [hml]; rfl) (Steps.refl _) (argsL := []) (rest := [(.int 2)]) (lenOf own_pd24 rfl) rfl (by show 2 * 0 + _ ≤ _; exact Nat.le_of_eq rfl) (hb hby own_d17_2) (fun _ _ => ⟨rfl, e0, (by decide : 0 + 0 ≤ _), (by decide : 0 + 0 ≤ _)⟩)
 dsimp only [Pt.U, Pt.locs, Pt.cells, Pt.slots] at X1 l1 y1 z1 st1 hQ1
 subst l1 y1 z1
 obtain ⟨rfl, N1q, e1⟩ := hQ1
 have N1 := Fr.app N0 N1q
 refine own_tr (T' := T1) (g' := (mkF m 5 #[vr r, vi 2, vi ex] [(.int 3), (.int 2)])) st1 ?_
 refine own_st (T' := T1) (g' := (mkF m 10 #[vr r, vi 2, vi ex] [(.int 2), (.ref r)])) (fun t k => ?_) ?_
 ·refine XS.icmpNo X1.here hx rfl (hb hby own_d17_5) rfl (tlt (by decide : (2 : Int32) < (3 : Int32))).2.1 ?_
  refine XS.aloadN X1.here hx rfl (hb hby own_d17_8) rfl rfl ?_
  refine XS.iloadN X1.here hx rfl (hb hby own_d17_9) rfl ?_
  exact k
 obtain ⟨cq2, kq2, q2a, q2b, q2c⟩ := isOf hZ e1 E_r
 obtain ⟨_, _, ⟨T2, L2, c2, n2⟩, -, X2, ⟨Lc2, hQ2, l2, y2, z2⟩, st2⟩ := X1.virtualBack hx (y := own_y31) (z := own_y31) hown (om hZ hw 104 rfl) (om hZ hw 105 rfl) (notFace_of_selects (args := #[]) (om hZ hw 107 rfl)) (om hZ hw 107 rfl) (om hZ hw 106 rfl) (by decide) (backOf (W := 0) (own_rm18_0_3_2 l Z a0 hw r arr ka x0 x1 x2 cs fm u8 h0 n0 Z0 O0 E_r F_v F_c V_a HB) hZ (own_w hw 108 rfl) (own_w hw 37 rfl) (by decide) (by decide)) q2a q2c (g := (mkF m 10 #[vr r, vi 2, vi ex] [(.int 2), (.ref r)])) rfl (by rw [hml]; rfl) (Steps.refl _) (argsL := [(.int 2)]) (rest := []) (lenOf own_pd25 rfl) rfl (by show 2 * 0 + _ ≤ _; exact Nat.le_of_eq rfl) (hb hby own_d17_10) (fun _ _ => ⟨rfl, e1, (by decide : 0 + 0 ≤ _), (by decide : 0 + 0 ≤ _)⟩)
 dsimp only [Pt.U, Pt.locs, Pt.cells, Pt.slots] at X2 l2 y2 z2 st2 hQ2
 subst l2 y2 z2
 obtain ⟨rfl, N2q, e2⟩ := hQ2
 have N2 := Fr.app N1 N2q
 refine own_tr (T' := T2) (g' := (mkF m 13 #[vr r, vi 2, vi ex] [(.int (own_lc x2))])) st2 ?_
 refine own_st (T' := T2) (g' := (mkF m 23 #[vr r, vi 2, vi ex] [(.int 1)])) (fun t k => ?_) ?_
 ·refine XS.iloadN X2.here hx rfl (hb hby own_d17_13) rfl ?_
  refine XS.i2c X2.here hx rfl (hb hby own_d17_14) rfl ?_
  refine XS.icmpNo X2.here hx rfl (hb hby own_d17_15) rfl (teq hq).2 ?_
  refine XS.iconst X2.here hx rfl (hb hby own_d17_18) ?_
  refine XS.goto X2.here hx rfl (pc0 := 19) (pc' := 23) rfl (hb hby own_d17_19) (by decide) (by decide) ?_
  exact k
 exact own_retN X2 hx Bd (t := .boolean) (by simp) rfl (hb hby own_d17_23) e2 (⟨rfl, N2, rfl⟩) (by decide) (by decide)
def own_r17_1_2_0 : Room := { frames := 5, cells := 0, slots := 0, locals := 66 }
theorem own_rm17_1_2_0 (l : Launch) (Z : State) (a0 : Array Value) (hw : own_W a0 Z) (r arr : Addr) (ka : ClassId) (x0 x1 : Int32) (ex : Int32) (cs : Int32) (fm : Value) (u8 : Addr) (h0 : Heap) (n0 : Nat) (Z0 : n0 ≤ h0.size) (O0 : Old Z n0 h0) (E_r : Exa Z h0 r "java/lang/String") (F_v : Fld Z h0 r "java/lang/String" "value" "[B" (.ref arr)) (F_c : Fld Z h0 r "java/lang/String" "coder" "B" (.int 1)) (V_a : Arv Z h0 arr ka .byte (2 : Int32) [(.int x0), (.int x1)] (.int 0)) (hq : (own_gc x0 x1) = (ex.toUInt32.toUInt16.toUInt32.toInt32)) (HB : own_BB Z cs fm u8) :
  own_MF l Z own_y32 (Jvm.Cond.code own_y32 method_4_code 3 (some .boolean)) [] own_r17_1_2_0 #[(.ref r), (.int 0), (.int ex)] h0 (own_P h0 n0 (.int 1)) := by
 refine own_open (plainFor_of_name own_pn8) hisR (Ls := #[vr r, vi 0, vi ex]) ?_
 intro p e s m below meth c s₁ Bd hZ hx hby hml hown X0 e0
 have N0 := Fr.nil n0
 refine own_st (T' := s₁) (g' := (mkF m 2 #[vr r, vi 0, vi ex] [(.ref r), (.int 0)])) (fun t k => ?_) ?_
 ·refine XS.iloadN X0.here hx rfl (hb hby own_d17_0) rfl ?_
  refine XS.aloadN X0.here hx rfl (hb hby own_d17_1) rfl rfl ?_
  exact k
 obtain ⟨cq1, kq1, q1a, q1b, q1c⟩ := isOf hZ e0 E_r
 obtain ⟨_, _, ⟨T1, L1, c1, n1⟩, -, X1, ⟨Lc1, hQ1, l1, y1, z1⟩, st1⟩ := X0.virtualBack hx (y := own_y26) (z := own_y26) hown (om hZ hw 91 rfl) (om hZ hw 92 rfl) (notFace_of_selects (args := #[]) (om hZ hw 94 rfl)) (om hZ hw 94 rfl) (om hZ hw 93 rfl) (by decide) (backOf (W := 1) (own_rm15_1_2 l Z a0 hw r arr ka x0 x1 cs fm u8 h0 n0 Z0 O0 E_r F_v F_c V_a HB) hZ (own_w hw 95 rfl) (own_w hw 37 rfl) (by decide) (by decide)) q1a q1c (g := (mkF m 2 #[vr r, vi 0, vi ex] [(.ref r), (.int 0)])) rfl (by rw [hml]; rfl) (Steps.refl _) (argsL := []) (rest := [(.int 0)]) (lenOf own_pd24 rfl) rfl (by show 2 * 0 + _ ≤ _; exact Nat.le_of_eq rfl) (hb hby own_d17_2) (fun _ _ => ⟨rfl, e0, (by decide : 0 + 0 ≤ _), (by decide : 0 + 0 ≤ _)⟩)
 dsimp only [Pt.U, Pt.locs, Pt.cells, Pt.slots] at X1 l1 y1 z1 st1 hQ1
 subst l1 y1 z1
 obtain ⟨rfl, N1q, e1⟩ := hQ1
 have N1 := Fr.app N0 N1q
 refine own_tr (T' := T1) (g' := (mkF m 5 #[vr r, vi 0, vi ex] [(.int 1), (.int 0)])) st1 ?_
 refine own_st (T' := T1) (g' := (mkF m 10 #[vr r, vi 0, vi ex] [(.int 0), (.ref r)])) (fun t k => ?_) ?_
 ·refine XS.icmpNo X1.here hx rfl (hb hby own_d17_5) rfl (tlt (by decide : (0 : Int32) < (1 : Int32))).2.1 ?_
  refine XS.aloadN X1.here hx rfl (hb hby own_d17_8) rfl rfl ?_
  refine XS.iloadN X1.here hx rfl (hb hby own_d17_9) rfl ?_
  exact k
 obtain ⟨cq2, kq2, q2a, q2b, q2c⟩ := isOf hZ e1 E_r
 obtain ⟨_, _, ⟨T2, L2, c2, n2⟩, -, X2, ⟨Lc2, hQ2, l2, y2, z2⟩, st2⟩ := X1.virtualBack hx (y := own_y31) (z := own_y31) hown (om hZ hw 104 rfl) (om hZ hw 105 rfl) (notFace_of_selects (args := #[]) (om hZ hw 107 rfl)) (om hZ hw 107 rfl) (om hZ hw 106 rfl) (by decide) (backOf (W := 0) (own_rm18_1_2_0 l Z a0 hw r arr ka x0 x1 cs fm u8 h0 n0 Z0 O0 E_r F_v F_c V_a HB) hZ (own_w hw 108 rfl) (own_w hw 37 rfl) (by decide) (by decide)) q2a q2c (g := (mkF m 10 #[vr r, vi 0, vi ex] [(.int 0), (.ref r)])) rfl (by rw [hml]; rfl) (Steps.refl _) (argsL := [(.int 0)]) (rest := []) (lenOf own_pd25 rfl) rfl (by show 2 * 0 + _ ≤ _; exact Nat.le_of_eq rfl) (hb hby own_d17_10) (fun _ _ => ⟨rfl, e1, (by decide : 0 + 0 ≤ _), (by decide : 0 + 0 ≤ _)⟩)
 dsimp only [Pt.U, Pt.locs, Pt.cells, Pt.slots] at X2 l2 y2 z2 st2 hQ2
 subst l2 y2 z2
 obtain ⟨rfl, N2q, e2⟩ := hQ2
 have N2 := Fr.app N1 N2q
 refine own_tr (T' := T2) (g' := (mkF m 13 #[vr r, vi 0, vi ex] [(.int (own_gc x0 x1))])) st2 ?_
 refine own_st (T' := T2) (g' := (mkF m 23 #[vr r, vi 0, vi ex] [(.int 1)])) (fun t k => ?_) ?_
 ·refine XS.iloadN X2.here hx rfl (hb hby own_d17_13) rfl ?_
  refine XS.i2c X2.here hx rfl (hb hby own_d17_14) rfl ?_
  refine XS.icmpNo X2.here hx rfl (hb hby own_d17_15) rfl (teq hq).2 ?_
  refine XS.iconst X2.here hx rfl (hb hby own_d17_18) ?_
  refine XS.goto X2.here hx rfl (pc0 := 19) (pc' := 23) rfl (hb hby own_d17_19) (by decide) (by decide) ?_
  exact k
 exact own_retN X2 hx Bd (t := .boolean) (by simp) rfl (hb hby own_d17_23) e2 (⟨rfl, N2, rfl⟩) (by decide) (by decide)
def own_r17_1_2_1 : Room := { frames := 2, cells := 0, slots := 0, locals := 26 }
theorem own_rm17_1_2_1 (l : Launch) (Z : State) (a0 : Array Value) (hw : own_W a0 Z) (r arr : Addr) (ka : ClassId) (x0 x1 : Int32) (ex : Int32) (cs : Int32) (fm : Value) (u8 : Addr) (h0 : Heap) (n0 : Nat) (Z0 : n0 ≤ h0.size) (O0 : Old Z n0 h0) (E_r : Exa Z h0 r "java/lang/String") (F_v : Fld Z h0 r "java/lang/String" "value" "[B" (.ref arr)) (F_c : Fld Z h0 r "java/lang/String" "coder" "B" (.int 1)) (V_a : Arv Z h0 arr ka .byte (2 : Int32) [(.int x0), (.int x1)] (.int 0)) (HB : own_BB Z cs fm u8) :
  own_MF l Z own_y32 (Jvm.Cond.code own_y32 method_4_code 3 (some .boolean)) [] own_r17_1_2_1 #[(.ref r), (.int 1), (.int ex)] h0 (own_P h0 n0 (.int 1)) := by
 refine own_open (plainFor_of_name own_pn8) hisR (Ls := #[vr r, vi 1, vi ex]) ?_
 intro p e s m below meth c s₁ Bd hZ hx hby hml hown X0 e0
 have N0 := Fr.nil n0
 refine own_st (T' := s₁) (g' := (mkF m 2 #[vr r, vi 1, vi ex] [(.ref r), (.int 1)])) (fun t k => ?_) ?_
 ·refine XS.iloadN X0.here hx rfl (hb hby own_d17_0) rfl ?_
  refine XS.aloadN X0.here hx rfl (hb hby own_d17_1) rfl rfl ?_
  exact k
 obtain ⟨cq1, kq1, q1a, q1b, q1c⟩ := isOf hZ e0 E_r
 obtain ⟨_, _, ⟨T1, L1, c1, n1⟩, -, X1, ⟨Lc1, hQ1, l1, y1, z1⟩, st1⟩ := X0.virtualBack hx (y := own_y26) (z := own_y26) hown (om hZ hw 91 rfl) (om hZ hw 92 rfl) (notFace_of_selects (args := #[]) (om hZ hw 94 rfl)) (om hZ hw 94 rfl) (om hZ hw 93 rfl) (by decide) (backOf (W := 1) (own_rm15_1_2 l Z a0 hw r arr ka x0 x1 cs fm u8 h0 n0 Z0 O0 E_r F_v F_c V_a HB) hZ (own_w hw 95 rfl) (own_w hw 37 rfl) (by decide) (by decide)) q1a q1c (g := (mkF m 2 #[vr r, vi 1, vi ex] [(.ref r), (.int 1)])) rfl (by rw [hml]; rfl) (Steps.refl _) (argsL := []) (rest := [(.int 1)]) (lenOf own_pd24 rfl) rfl (by show 2 * 0 + _ ≤ _; exact Nat.le_of_eq rfl) (hb hby own_d17_2) (fun _ _ => ⟨rfl, e0, (by decide : 0 + 0 ≤ _), (by decide : 0 + 0 ≤ _)⟩)
 dsimp only [Pt.U, Pt.locs, Pt.cells, Pt.slots] at X1 l1 y1 z1 st1 hQ1
 subst l1 y1 z1
 obtain ⟨rfl, N1q, e1⟩ := hQ1
 have N1 := Fr.app N0 N1q
 refine own_tr (T' := T1) (g' := (mkF m 5 #[vr r, vi 1, vi ex] [(.int 1), (.int 1)])) st1 ?_
 refine own_st (T' := T1) (g' := (mkF m 23 #[vr r, vi 1, vi ex] [(.int 1)])) (fun t k => ?_) ?_
 ·refine XS.icmpYes X1.here hx rfl (pc0 := 5) (pc' := 18) rfl (hb hby own_d17_5) rfl (flt Int32.lt_irrefl).2.1 (by decide) (by decide) ?_
  refine XS.iconst X1.here hx rfl (hb hby own_d17_18) ?_
  refine XS.goto X1.here hx rfl (pc0 := 19) (pc' := 23) rfl (hb hby own_d17_19) (by decide) (by decide) ?_
  exact k
 exact own_retN X1 hx Bd (t := .boolean) (by simp) rfl (hb hby own_d17_23) e1 (⟨rfl, N1, rfl⟩) (by decide) (by decide)
def own_r17_1_2_2 : Room := { frames := 2, cells := 0, slots := 0, locals := 26 }
theorem own_rm17_1_2_2 (l : Launch) (Z : State) (a0 : Array Value) (hw : own_W a0 Z) (r arr : Addr) (ka : ClassId) (x0 x1 : Int32) (ex : Int32) (cs : Int32) (fm : Value) (u8 : Addr) (h0 : Heap) (n0 : Nat) (Z0 : n0 ≤ h0.size) (O0 : Old Z n0 h0) (E_r : Exa Z h0 r "java/lang/String") (F_v : Fld Z h0 r "java/lang/String" "value" "[B" (.ref arr)) (F_c : Fld Z h0 r "java/lang/String" "coder" "B" (.int 1)) (V_a : Arv Z h0 arr ka .byte (2 : Int32) [(.int x0), (.int x1)] (.int 0)) (HB : own_BB Z cs fm u8) :
  own_MF l Z own_y32 (Jvm.Cond.code own_y32 method_4_code 3 (some .boolean)) [] own_r17_1_2_2 #[(.ref r), (.int 2), (.int ex)] h0 (own_P h0 n0 (.int 1)) := by
 refine own_open (plainFor_of_name own_pn8) hisR (Ls := #[vr r, vi 2, vi ex]) ?_
 intro p e s m below meth c s₁ Bd hZ hx hby hml hown X0 e0
 have N0 := Fr.nil n0
 refine own_st (T' := s₁) (g' := (mkF m 2 #[vr r, vi 2, vi ex] [(.ref r), (.int 2)])) (fun t k => ?_) ?_
 ·refine XS.iloadN X0.here hx rfl (hb hby own_d17_0) rfl ?_
  refine XS.aloadN X0.here hx rfl (hb hby own_d17_1) rfl rfl ?_
  exact k
 obtain ⟨cq1, kq1, q1a, q1b, q1c⟩ := isOf hZ e0 E_r
 obtain ⟨_, _, ⟨T1, L1, c1, n1⟩, -, X1, ⟨Lc1, hQ1, l1, y1, z1⟩, st1⟩ := X0.virtualBack hx (y := own_y26) (z := own_y26) hown (om hZ hw 91 rfl) (om hZ hw 92 rfl) (notFace_of_selects (args := #[]) (om hZ hw 94 rfl)) (om hZ hw 94 rfl) (om hZ hw 93 rfl) (by decide) (backOf (W := 1) (own_rm15_1_2 l Z a0 hw r arr ka x0 x1 cs fm u8 h0 n0 Z0 O0 E_r F_v F_c V_a HB) hZ (own_w hw 95 rfl) (own_w hw 37 rfl) (by decide) (by decide)) q1a q1c (g := (mkF m 2 #[vr r, vi 2, vi ex] [(.ref r), (.int 2)])) rfl (by rw [hml]; rfl) (Steps.refl _) (argsL := []) (rest := [(.int 2)]) (lenOf own_pd24 rfl) rfl (by show 2 * 0 + _ ≤ _; exact Nat.le_of_eq rfl) (hb hby own_d17_2) (fun _ _ => ⟨rfl, e0, (by decide : 0 + 0 ≤ _), (by decide : 0 + 0 ≤ _)⟩)
 dsimp only [Pt.U, Pt.locs, Pt.cells, Pt.slots] at X1 l1 y1 z1 st1 hQ1
 subst l1 y1 z1
 obtain ⟨rfl, N1q, e1⟩ := hQ1
 have N1 := Fr.app N0 N1q
 refine own_tr (T' := T1) (g' := (mkF m 5 #[vr r, vi 2, vi ex] [(.int 1), (.int 2)])) st1 ?_
 refine own_st (T' := T1) (g' := (mkF m 23 #[vr r, vi 2, vi ex] [(.int 1)])) (fun t k => ?_) ?_
 ·refine XS.icmpYes X1.here hx rfl (pc0 := 5) (pc' := 18) rfl (hb hby own_d17_5) rfl (flt (by decide : ¬ ((2 : Int32) < (1 : Int32)))).2.1 (by decide) (by decide) ?_
  refine XS.iconst X1.here hx rfl (hb hby own_d17_18) ?_
  refine XS.goto X1.here hx rfl (pc0 := 19) (pc' := 23) rfl (hb hby own_d17_19) (by decide) (by decide) ?_
  exact k
 exact own_retN X1 hx Bd (t := .boolean) (by simp) rfl (hb hby own_d17_23) e1 (⟨rfl, N1, rfl⟩) (by decide) (by decide)
def own_r17_1_4_0 : Room := { frames := 5, cells := 0, slots := 0, locals := 66 }
theorem own_rm17_1_4_0 (l : Launch) (Z : State) (a0 : Array Value) (hw : own_W a0 Z) (r arr : Addr) (ka : ClassId) (x0 x1 x2 x3 : Int32) (ex : Int32) (cs : Int32) (fm : Value) (u8 : Addr) (h0 : Heap) (n0 : Nat) (Z0 : n0 ≤ h0.size) (O0 : Old Z n0 h0) (E_r : Exa Z h0 r "java/lang/String") (F_v : Fld Z h0 r "java/lang/String" "value" "[B" (.ref arr)) (F_c : Fld Z h0 r "java/lang/String" "coder" "B" (.int 1)) (V_a : Arv Z h0 arr ka .byte (4 : Int32) [(.int x0), (.int x1), (.int x2), (.int x3)] (.int 0)) (hq : (own_gc x0 x1) = (ex.toUInt32.toUInt16.toUInt32.toInt32)) (HB : own_BB Z cs fm u8) :
  own_MF l Z own_y32 (Jvm.Cond.code own_y32 method_4_code 3 (some .boolean)) [] own_r17_1_4_0 #[(.ref r), (.int 0), (.int ex)] h0 (own_P h0 n0 (.int 1)) := by
 refine own_open (plainFor_of_name own_pn8) hisR (Ls := #[vr r, vi 0, vi ex]) ?_
 intro p e s m below meth c s₁ Bd hZ hx hby hml hown X0 e0
 have N0 := Fr.nil n0
 refine own_st (T' := s₁) (g' := (mkF m 2 #[vr r, vi 0, vi ex] [(.ref r), (.int 0)])) (fun t k => ?_) ?_
 ·refine XS.iloadN X0.here hx rfl (hb hby own_d17_0) rfl ?_
  refine XS.aloadN X0.here hx rfl (hb hby own_d17_1) rfl rfl ?_
  exact k
 obtain ⟨cq1, kq1, q1a, q1b, q1c⟩ := isOf hZ e0 E_r
 obtain ⟨_, _, ⟨T1, L1, c1, n1⟩, -, X1, ⟨Lc1, hQ1, l1, y1, z1⟩, st1⟩ := X0.virtualBack hx (y := own_y26) (z := own_y26) hown (om hZ hw 91 rfl) (om hZ hw 92 rfl) (notFace_of_selects (args := #[]) (om hZ hw 94 rfl)) (om hZ hw 94 rfl) (om hZ hw 93 rfl) (by decide) (backOf (W := 1) (own_rm15_1_4 l Z a0 hw r arr ka x0 x1 x2 x3 cs fm u8 h0 n0 Z0 O0 E_r F_v F_c V_a HB) hZ (own_w hw 95 rfl) (own_w hw 37 rfl) (by decide) (by decide)) q1a q1c (g := (mkF m 2 #[vr r, vi 0, vi ex] [(.ref r), (.int 0)])) rfl (by rw [hml]; rfl) (Steps.refl _) (argsL := []) (rest := [(.int 0)]) (lenOf own_pd24 rfl) rfl (by show 2 * 0 + _ ≤ _; exact Nat.le_of_eq rfl) (hb hby own_d17_2) (fun _ _ => ⟨rfl, e0, (by decide : 0 + 0 ≤ _), (by decide : 0 + 0 ≤ _)⟩)
 dsimp only [Pt.U, Pt.locs, Pt.cells, Pt.slots] at X1 l1 y1 z1 st1 hQ1
 subst l1 y1 z1
 obtain ⟨rfl, N1q, e1⟩ := hQ1
 have N1 := Fr.app N0 N1q
 refine own_tr (T' := T1) (g' := (mkF m 5 #[vr r, vi 0, vi ex] [(.int 2), (.int 0)])) st1 ?_
 refine own_st (T' := T1) (g' := (mkF m 10 #[vr r, vi 0, vi ex] [(.int 0), (.ref r)])) (fun t k => ?_) ?_
 ·refine XS.icmpNo X1.here hx rfl (hb hby own_d17_5) rfl (tlt (by decide : (0 : Int32) < (2 : Int32))).2.1 ?_
  refine XS.aloadN X1.here hx rfl (hb hby own_d17_8) rfl rfl ?_
  refine XS.iloadN X1.here hx rfl (hb hby own_d17_9) rfl ?_
  exact k
 obtain ⟨cq2, kq2, q2a, q2b, q2c⟩ := isOf hZ e1 E_r
 obtain ⟨_, _, ⟨T2, L2, c2, n2⟩, -, X2, ⟨Lc2, hQ2, l2, y2, z2⟩, st2⟩ := X1.virtualBack hx (y := own_y31) (z := own_y31) hown (om hZ hw 104 rfl) (om hZ hw 105 rfl) (notFace_of_selects (args := #[]) (om hZ hw 107 rfl)) (om hZ hw 107 rfl) (om hZ hw 106 rfl) (by decide) (backOf (W := 0) (own_rm18_1_4_0 l Z a0 hw r arr ka x0 x1 x2 x3 cs fm u8 h0 n0 Z0 O0 E_r F_v F_c V_a HB) hZ (own_w hw 108 rfl) (own_w hw 37 rfl) (by decide) (by decide)) q2a q2c (g := (mkF m 10 #[vr r, vi 0, vi ex] [(.int 0), (.ref r)])) rfl (by rw [hml]; rfl) (Steps.refl _) (argsL := [(.int 0)]) (rest := []) (lenOf own_pd25 rfl) rfl (by show 2 * 0 + _ ≤ _; exact Nat.le_of_eq rfl) (hb hby own_d17_10) (fun _ _ => ⟨rfl, e1, (by decide : 0 + 0 ≤ _), (by decide : 0 + 0 ≤ _)⟩)
 dsimp only [Pt.U, Pt.locs, Pt.cells, Pt.slots] at X2 l2 y2 z2 st2 hQ2
 subst l2 y2 z2
 obtain ⟨rfl, N2q, e2⟩ := hQ2
 have N2 := Fr.app N1 N2q
 refine own_tr (T' := T2) (g' := (mkF m 13 #[vr r, vi 0, vi ex] [(.int (own_gc x0 x1))])) st2 ?_
 refine own_st (T' := T2) (g' := (mkF m 23 #[vr r, vi 0, vi ex] [(.int 1)])) (fun t k => ?_) ?_
 ·refine XS.iloadN X2.here hx rfl (hb hby own_d17_13) rfl ?_
  refine XS.i2c X2.here hx rfl (hb hby own_d17_14) rfl ?_
  refine XS.icmpNo X2.here hx rfl (hb hby own_d17_15) rfl (teq hq).2 ?_
  refine XS.iconst X2.here hx rfl (hb hby own_d17_18) ?_
  refine XS.goto X2.here hx rfl (pc0 := 19) (pc' := 23) rfl (hb hby own_d17_19) (by decide) (by decide) ?_
  exact k
 exact own_retN X2 hx Bd (t := .boolean) (by simp) rfl (hb hby own_d17_23) e2 (⟨rfl, N2, rfl⟩) (by decide) (by decide)
def own_r17_1_4_1 : Room := { frames := 5, cells := 0, slots := 0, locals := 66 }
theorem own_rm17_1_4_1 (l : Launch) (Z : State) (a0 : Array Value) (hw : own_W a0 Z) (r arr : Addr) (ka : ClassId) (x0 x1 x2 x3 : Int32) (ex : Int32) (cs : Int32) (fm : Value) (u8 : Addr) (h0 : Heap) (n0 : Nat) (Z0 : n0 ≤ h0.size) (O0 : Old Z n0 h0) (E_r : Exa Z h0 r "java/lang/String") (F_v : Fld Z h0 r "java/lang/String" "value" "[B" (.ref arr)) (F_c : Fld Z h0 r "java/lang/String" "coder" "B" (.int 1)) (V_a : Arv Z h0 arr ka .byte (4 : Int32) [(.int x0), (.int x1), (.int x2), (.int x3)] (.int 0)) (hq : (own_gc x2 x3) = (ex.toUInt32.toUInt16.toUInt32.toInt32)) (HB : own_BB Z cs fm u8) :
  own_MF l Z own_y32 (Jvm.Cond.code own_y32 method_4_code 3 (some .boolean)) [] own_r17_1_4_1 #[(.ref r), (.int 1), (.int ex)] h0 (own_P h0 n0 (.int 1)) := by
 refine own_open (plainFor_of_name own_pn8) hisR (Ls := #[vr r, vi 1, vi ex]) ?_
 intro p e s m below meth c s₁ Bd hZ hx hby hml hown X0 e0
 have N0 := Fr.nil n0
 refine own_st (T' := s₁) (g' := (mkF m 2 #[vr r, vi 1, vi ex] [(.ref r), (.int 1)])) (fun t k => ?_) ?_
 ·refine XS.iloadN X0.here hx rfl (hb hby own_d17_0) rfl ?_
  refine XS.aloadN X0.here hx rfl (hb hby own_d17_1) rfl rfl ?_
  exact k
 obtain ⟨cq1, kq1, q1a, q1b, q1c⟩ := isOf hZ e0 E_r
 obtain ⟨_, _, ⟨T1, L1, c1, n1⟩, -, X1, ⟨Lc1, hQ1, l1, y1, z1⟩, st1⟩ := X0.virtualBack hx (y := own_y26) (z := own_y26) hown (om hZ hw 91 rfl) (om hZ hw 92 rfl) (notFace_of_selects (args := #[]) (om hZ hw 94 rfl)) (om hZ hw 94 rfl) (om hZ hw 93 rfl) (by decide) (backOf (W := 1) (own_rm15_1_4 l Z a0 hw r arr ka x0 x1 x2 x3 cs fm u8 h0 n0 Z0 O0 E_r F_v F_c V_a HB) hZ (own_w hw 95 rfl) (own_w hw 37 rfl) (by decide) (by decide)) q1a q1c (g := (mkF m 2 #[vr r, vi 1, vi ex] [(.ref r), (.int 1)])) rfl (by rw [hml]; rfl) (Steps.refl _) (argsL := []) (rest := [(.int 1)]) (lenOf own_pd24 rfl) rfl (by show 2 * 0 + _ ≤ _; exact Nat.le_of_eq rfl) (hb hby own_d17_2) (fun _ _ => ⟨rfl, e0, (by decide : 0 + 0 ≤ _), (by decide : 0 + 0 ≤ _)⟩)
 dsimp only [Pt.U, Pt.locs, Pt.cells, Pt.slots] at X1 l1 y1 z1 st1 hQ1
 subst l1 y1 z1
 obtain ⟨rfl, N1q, e1⟩ := hQ1
 have N1 := Fr.app N0 N1q
 refine own_tr (T' := T1) (g' := (mkF m 5 #[vr r, vi 1, vi ex] [(.int 2), (.int 1)])) st1 ?_
 refine own_st (T' := T1) (g' := (mkF m 10 #[vr r, vi 1, vi ex] [(.int 1), (.ref r)])) (fun t k => ?_) ?_
 ·refine XS.icmpNo X1.here hx rfl (hb hby own_d17_5) rfl (tlt (by decide : (1 : Int32) < (2 : Int32))).2.1 ?_
  refine XS.aloadN X1.here hx rfl (hb hby own_d17_8) rfl rfl ?_
  refine XS.iloadN X1.here hx rfl (hb hby own_d17_9) rfl ?_
  exact k
 obtain ⟨cq2, kq2, q2a, q2b, q2c⟩ := isOf hZ e1 E_r
 obtain ⟨_, _, ⟨T2, L2, c2, n2⟩, -, X2, ⟨Lc2, hQ2, l2, y2, z2⟩, st2⟩ := X1.virtualBack hx (y := own_y31) (z := own_y31) hown (om hZ hw 104 rfl) (om hZ hw 105 rfl) (notFace_of_selects (args := #[]) (om hZ hw 107 rfl)) (om hZ hw 107 rfl) (om hZ hw 106 rfl) (by decide) (backOf (W := 0) (own_rm18_1_4_1 l Z a0 hw r arr ka x0 x1 x2 x3 cs fm u8 h0 n0 Z0 O0 E_r F_v F_c V_a HB) hZ (own_w hw 108 rfl) (own_w hw 37 rfl) (by decide) (by decide)) q2a q2c (g := (mkF m 10 #[vr r, vi 1, vi ex] [(.int 1), (.ref r)])) rfl (by rw [hml]; rfl) (Steps.refl _) (argsL := [(.int 1)]) (rest := []) (lenOf own_pd25 rfl) rfl (by show 2 * 0 + _ ≤ _; exact Nat.le_of_eq rfl) (hb hby own_d17_10) (fun _ _ => ⟨rfl, e1, (by decide : 0 + 0 ≤ _), (by decide : 0 + 0 ≤ _)⟩)
 dsimp only [Pt.U, Pt.locs, Pt.cells, Pt.slots] at X2 l2 y2 z2 st2 hQ2
 subst l2 y2 z2
 obtain ⟨rfl, N2q, e2⟩ := hQ2
 have N2 := Fr.app N1 N2q
 refine own_tr (T' := T2) (g' := (mkF m 13 #[vr r, vi 1, vi ex] [(.int (own_gc x2 x3))])) st2 ?_
 refine own_st (T' := T2) (g' := (mkF m 23 #[vr r, vi 1, vi ex] [(.int 1)])) (fun t k => ?_) ?_
 ·refine XS.iloadN X2.here hx rfl (hb hby own_d17_13) rfl ?_
  refine XS.i2c X2.here hx rfl (hb hby own_d17_14) rfl ?_
  refine XS.icmpNo X2.here hx rfl (hb hby own_d17_15) rfl (teq hq).2 ?_
  refine XS.iconst X2.here hx rfl (hb hby own_d17_18) ?_
  refine XS.goto X2.here hx rfl (pc0 := 19) (pc' := 23) rfl (hb hby own_d17_19) (by decide) (by decide) ?_
  exact k
 exact own_retN X2 hx Bd (t := .boolean) (by simp) rfl (hb hby own_d17_23) e2 (⟨rfl, N2, rfl⟩) (by decide) (by decide)
def own_r17_1_4_2 : Room := { frames := 2, cells := 0, slots := 0, locals := 26 }
theorem own_rm17_1_4_2 (l : Launch) (Z : State) (a0 : Array Value) (hw : own_W a0 Z) (r arr : Addr) (ka : ClassId) (x0 x1 x2 x3 : Int32) (ex : Int32) (cs : Int32) (fm : Value) (u8 : Addr) (h0 : Heap) (n0 : Nat) (Z0 : n0 ≤ h0.size) (O0 : Old Z n0 h0) (E_r : Exa Z h0 r "java/lang/String") (F_v : Fld Z h0 r "java/lang/String" "value" "[B" (.ref arr)) (F_c : Fld Z h0 r "java/lang/String" "coder" "B" (.int 1)) (V_a : Arv Z h0 arr ka .byte (4 : Int32) [(.int x0), (.int x1), (.int x2), (.int x3)] (.int 0)) (HB : own_BB Z cs fm u8) :
  own_MF l Z own_y32 (Jvm.Cond.code own_y32 method_4_code 3 (some .boolean)) [] own_r17_1_4_2 #[(.ref r), (.int 2), (.int ex)] h0 (own_P h0 n0 (.int 1)) := by
 refine own_open (plainFor_of_name own_pn8) hisR (Ls := #[vr r, vi 2, vi ex]) ?_
 intro p e s m below meth c s₁ Bd hZ hx hby hml hown X0 e0
 have N0 := Fr.nil n0
 refine own_st (T' := s₁) (g' := (mkF m 2 #[vr r, vi 2, vi ex] [(.ref r), (.int 2)])) (fun t k => ?_) ?_
 ·refine XS.iloadN X0.here hx rfl (hb hby own_d17_0) rfl ?_
  refine XS.aloadN X0.here hx rfl (hb hby own_d17_1) rfl rfl ?_
  exact k
 obtain ⟨cq1, kq1, q1a, q1b, q1c⟩ := isOf hZ e0 E_r
 obtain ⟨_, _, ⟨T1, L1, c1, n1⟩, -, X1, ⟨Lc1, hQ1, l1, y1, z1⟩, st1⟩ := X0.virtualBack hx (y := own_y26) (z := own_y26) hown (om hZ hw 91 rfl) (om hZ hw 92 rfl) (notFace_of_selects (args := #[]) (om hZ hw 94 rfl)) (om hZ hw 94 rfl) (om hZ hw 93 rfl) (by decide) (backOf (W := 1) (own_rm15_1_4 l Z a0 hw r arr ka x0 x1 x2 x3 cs fm u8 h0 n0 Z0 O0 E_r F_v F_c V_a HB) hZ (own_w hw 95 rfl) (own_w hw 37 rfl) (by decide) (by decide)) q1a q1c (g := (mkF m 2 #[vr r, vi 2, vi ex] [(.ref r), (.int 2)])) rfl (by rw [hml]; rfl) (Steps.refl _) (argsL := []) (rest := [(.int 2)]) (lenOf own_pd24 rfl) rfl (by show 2 * 0 + _ ≤ _; exact Nat.le_of_eq rfl) (hb hby own_d17_2) (fun _ _ => ⟨rfl, e0, (by decide : 0 + 0 ≤ _), (by decide : 0 + 0 ≤ _)⟩)
 dsimp only [Pt.U, Pt.locs, Pt.cells, Pt.slots] at X1 l1 y1 z1 st1 hQ1
 subst l1 y1 z1
 obtain ⟨rfl, N1q, e1⟩ := hQ1
 have N1 := Fr.app N0 N1q
 refine own_tr (T' := T1) (g' := (mkF m 5 #[vr r, vi 2, vi ex] [(.int 2), (.int 2)])) st1 ?_
 refine own_st (T' := T1) (g' := (mkF m 23 #[vr r, vi 2, vi ex] [(.int 1)])) (fun t k => ?_) ?_
 ·refine XS.icmpYes X1.here hx rfl (pc0 := 5) (pc' := 18) rfl (hb hby own_d17_5) rfl (flt Int32.lt_irrefl).2.1 (by decide) (by decide) ?_
  refine XS.iconst X1.here hx rfl (hb hby own_d17_18) ?_
  refine XS.goto X1.here hx rfl (pc0 := 19) (pc' := 23) rfl (hb hby own_d17_19) (by decide) (by decide) ?_
  exact k
 exact own_retN X1 hx Bd (t := .boolean) (by simp) rfl (hb hby own_d17_23) e1 (⟨rfl, N1, rfl⟩) (by decide) (by decide)
def own_r1 : Room := { frames := 0, cells := 0, slots := 0, locals := 0 }
def own_Q1 (Z : State) (wv : Int64) (ii : Int32) (h0 : Heap) (n0 : Nat) : Option Value → Heap → List Loc → Prop := fun v h L => ∃ z : Int32, v = some (.int z) ∧ Fr n0 L ∧ own_asc z ∧ h = h0
theorem own_rm1 (l : Launch) (Z : State) (a0 : Array Value) (hw : own_W a0 Z) (wv : Int64) (ii : Int32) (h0 : Heap) (n0 : Nat) (Z0 : n0 ≤ h0.size) :
  own_MF l Z own_y33 (Jvm.Cond.code own_y33 method_3_code 3 (some .byte)) [] own_r1 #[(.long wv), (.int ii)] h0 (own_Q1 Z wv ii h0 n0) := by
 refine own_open (plainFor_of_name own_pn8) hisR (Ls := #[vl wv, .second, vi ii]) ?_
 intro p e s m below meth c s₁ Bd hZ hx hby hml hown X0 e0
 have N0 := Fr.nil n0
 refine own_st (T' := s₁) (g' := (mkF m 12 #[vl wv, .second, vi ii] [(.int (((((wv.toUInt64 >>> (((8 : Int32) * ii) &&& 0x3f).toInt64.toUInt64).toInt64) &&& (127 : Int64)).toInt32).toInt8.toInt32))])) (fun t k => ?_) ?_
 ·refine XS.lloadN X0.here hx rfl (hb hby own_d1_0) rfl ?_
  refine XS.bipush X0.here hx rfl (hb hby own_d1_1) ?_
  refine XS.iloadN X0.here hx rfl (hb hby own_d1_3) rfl ?_
  refine XS.imul X0.here hx rfl (hb hby own_d1_4) rfl ?_
  refine XS.lushr X0.here hx rfl (hb hby own_d1_5) rfl ?_
  refine X0.ldc2Long hx hown (om hZ hw 6 rfl) (g := (mkF m 6 #[vl wv, .second, vi ii] [(.long ((wv.toUInt64 >>> (((8 : Int32) * ii) &&& 0x3f).toInt64.toUInt64).toInt64))])) rfl (hb hby own_d1_6) _ ?_
  refine XS.land X0.here hx rfl (hb hby own_d1_9) rfl ?_
  refine XS.l2i X0.here hx rfl (hb hby own_d1_10) rfl ?_
  refine XS.i2b X0.here hx rfl (hb hby own_d1_11) rfl ?_
  exact k
 exact own_retN X0 hx Bd (t := .byte) (by simp) (XT.narrow_b _) (hb hby own_d1_12) e0 (⟨_, rfl, N0, own_asc_i _, rfl⟩) (by decide) (by decide)
def own_r2 : Room := { frames := 1, cells := 0, slots := 0, locals := 12 }
def own_Q2 (Z : State) (a : Addr) (h0 : Heap) (n0 : Nat) : Option Value → Heap → List Loc → Prop := fun v h L => v = none ∧ Fr n0 L ∧ h = h0
theorem own_rm2 (l : Launch) (Z : State) (a0 : Array Value) (hw : own_W a0 Z) (a : Addr) (h0 : Heap) (n0 : Nat) (Z0 : n0 ≤ h0.size) :
  own_MF l Z own_y34 (Jvm.Cond.code own_y34 prog_34_method_1_code 1 none) [] own_r2 #[(.ref a)] h0 (own_Q2 Z a h0 n0) := by
 refine own_open (plainFor_of_name own_pn7) hisR (Ls := #[vr a]) ?_
 intro p e s m below meth c s₁ Bd hZ hx hby hml hown X0 e0
 have N0 := Fr.nil n0
 refine own_st (T' := s₁) (g' := (mkF m 1 #[vr a] [(.ref a)])) (fun t k => ?_) ?_
 ·refine XS.aloadN X0.here hx rfl (hb hby own_d2_0) rfl rfl ?_
  exact k
 obtain ⟨T1, X1, e1, st1⟩ := initO X0 hx hZ hown (own_w hw 13 rfl) (own_w hw 14 rfl) (own_w hw 15 rfl) e0 (g := (mkF m 1 #[vr a] [(.ref a)])) rfl (by rw [hml]; rfl) rfl (hb hby own_d2_1) (by decide) (W := 0) (by show 2 * 0 + _ ≤ _; exact Nat.le_of_eq rfl) (by decide)
 refine own_st (T' := T1) (g' := (mkF m 4 #[vr a] [])) st1 ?_
 exact own_retV X1 hx Bd (hb hby own_d2_4) e1 (⟨rfl, N0, rfl⟩) (by decide) (by decide)
theorem own_ef0 (m : MethodId) (x0 : Int32) (x1 : Int64) (x2 : Int32) (x3 : Int32) : entryFrame m #[(.int x0), (.long x1), (.int x2), (.int x3)] maxLocals = mkF m 0 #[vi x0, vl x1, .second, vi x2, vi x3, .unset, .unset, .unset, .unset, .unset, .unset, .unset, .unset, .unset, .unset, .unset, .unset, .unset] [] := by first | (simp [entryFrame, mkF, argsToLocals, Value.category, maxLocals]; done) | rfl
def own_Q0 (Z : State) (pa : Int32) (pw : Int64) (pd pc_ : Int32) (cs : Int32) (fm : Value) (u8 : Addr) (h0 : Heap) (n0 : Nat) : Option Value → Heap → List Loc → Prop := fun v h L => v = some (.int 1) ∧ Fr n0 L
theorem own_rm0 (l : Launch) (Z : State) (a0 : Array Value) (hw : own_W a0 Z) (ws : List Jvm.Cond) (pa : Int32) (pw : Int64) (pd pc_ : Int32) (cs : Int32) (fm : Value) (u8 : Addr) (h0 : Heap) (n0 : Nat) (Z0 : n0 ≤ h0.size) (O0 : Old Z n0 h0) (HB : own_BB Z cs fm u8) :
  MetFree l x (head1 (Jvm.Cond.code x code maxLocals ret :: ws) room_1) (fun a_ U_ => a_ = #[(.int pa), (.long pw), (.int pd), (.int pc_)] ∧ Z.Warmed39 U_.vm ∧ U_.heap = h0) (fun _ _ _ _ _ => True) (fun _ U_ o_ U'_ => ∃ v_ L_, o_ = .returned v_ ∧ own_Q0 Z pa pw pd pc_ cs fm u8 h0 n0 v_ U'_.heap L_ ∧ FrameEnd U_ o_ U'_ L_ room_1.cells room_1.slots) := by
 refine MetFree.of_bodySF (plainFor_of_name own_pn8) hisR ?_
 intro p e s m args below meth c s₁ Bd hml0 hP hK
 obtain ⟨rfl, hZ, hh⟩ := hP
 obtain ⟨-, -, -, -, -, -, -, -, -, E_u8⟩ := id HB
 have hx := Bd.exec
 have hby := Bd.bytes
 have hml : c.maxLocals = 18 := hml0
 have hown : s.vm.findClass "com/example/dyadloom/dyadloom/core/TripletColumnIdPinLaw" = some m.cls := findClass_of_methodNamed Bd.named
 have hnm := (name_of_methodNamed Bd.named Bd.method).1
 have X0 : Stand p l e room_1 s m #[(.int pa), (.long pw), (.int pd), (.int pc_)] below meth c s₁ [] 0 0 := Stand.of_body Bd
 have e0 : s₁.heap = h0 := by rw [← hh, Bd.state]; rfl
 have N0 := Fr.nil n0
 refine own_in (own_ef0 m pa pw pd pc_) ?_
 show own_Go p e below (own_K s (own_Q0 Z pa pw pd pc_ cs fm u8 h0 n0) room_1.cells room_1.slots) s₁ (mkF m 0 #[vi pa, vl pw, .second, vi pd, vi pc_, .unset, .unset, .unset, .unset, .unset, .unset, .unset, .unset, .unset, .unset, .unset, .unset, .unset] [])
 refine own_st (T' := s₁) (g' := (mkF m 17 #[vi pa, vl pw, .second, vi pd, vi pc_, vi (pa &&& (3 : Int32)), .val (.int ((1 : Int32) + ((((pa.toUInt32 >>> ((2 : Int32) &&& 31).toUInt32).toInt32) &&& (2147483647 : Int32)) % (3 : Int32)))), .unset, .unset, .unset, .unset, .unset, .unset, .unset, .unset, .unset, .unset, .unset] [])) (fun t k => ?_) ?_
 ·refine XS.iloadN X0.here hx rfl (hb hby at_0) rfl ?_
  refine XS.iconst X0.here hx rfl (hb hby at_1) ?_
  refine XS.iand X0.here hx rfl (hb hby at_2) rfl ?_
  refine XS.istore X0.here hx rfl (hb hby at_3) rfl (l' := #[vi pa, vl pw, .second, vi pd, vi pc_, vi (pa &&& (3 : Int32)), .unset, .unset, .unset, .unset, .unset, .unset, .unset, .unset, .unset, .unset, .unset, .unset]) rfl ?_
  refine XS.iconst X0.here hx rfl (hb hby at_5) ?_
  refine XS.iloadN X0.here hx rfl (hb hby at_6) rfl ?_
  refine XS.iconst X0.here hx rfl (hb hby at_7) ?_
  refine XS.iushr X0.here hx rfl (hb hby at_8) rfl ?_
  refine X0.ldcInt hx hown (om hZ hw 0 rfl) (g := (mkF m 9 #[vi pa, vl pw, .second, vi pd, vi pc_, vi (pa &&& (3 : Int32)), .unset, .unset, .unset, .unset, .unset, .unset, .unset, .unset, .unset, .unset, .unset, .unset] [(.int ((pa.toUInt32 >>> ((2 : Int32) &&& 31).toUInt32).toInt32)), (.int 1)])) rfl (hb hby at_9) _ ?_
  refine XS.iand X0.here hx rfl (hb hby at_11) rfl ?_
  refine XS.iconst X0.here hx rfl (hb hby at_12) ?_
  refine iremM X0 hx rfl (hb hby at_13) rfl (by decide) ?_
  refine XS.iadd X0.here hx rfl (hb hby at_14) rfl ?_
  refine XS.istore X0.here hx rfl (hb hby at_15) rfl (l' := #[vi pa, vl pw, .second, vi pd, vi pc_, vi (pa &&& (3 : Int32)), .val (.int ((1 : Int32) + ((((pa.toUInt32 >>> ((2 : Int32) &&& 31).toUInt32).toInt32) &&& (2147483647 : Int32)) % (3 : Int32)))), .unset, .unset, .unset, .unset, .unset, .unset, .unset, .unset, .unset, .unset, .unset]) rfl ?_
  exact k
 obtain ⟨st, hst⟩ : ∃ z, z = (pa &&& (3 : Int32)) := ⟨_, rfl⟩
 have ho : own_o st := hst ▸ own_o_i _
 obtain ⟨ln, hln⟩ : ∃ z, z = ((1 : Int32) + ((((pa.toUInt32 >>> ((2 : Int32) &&& 31).toUInt32).toInt32) &&& (2147483647 : Int32)) % (3 : Int32))) := ⟨_, rfl⟩
 have hl3 : ln = (1 : Int32) ∨ ln = (2 : Int32) ∨ ln = (3 : Int32) := hln ▸ own_l3 _
 rw [← hst, ← hln]
 refine own_st (T' := s₁) (g' := (mkF m 19 #[vi pa, vl pw, .second, vi pd, vi pc_, vi st, vi ln, .unset, .unset, .unset, .unset, .unset, .unset, .unset, .unset, .unset, .unset, .unset] [(.int 8)])) (fun t k => ?_) ?_
 ·refine XS.bipush X0.here hx rfl (hb hby at_17) ?_
  exact k
 obtain ⟨T1, h1, k1, X1, e1, E1, A1, st1⟩ := newP X0 hx hZ (own_w hw 1 rfl) e0 (g := (mkF m 19 #[vi pa, vl pw, .second, vi pd, vi pc_, vi st, vi ln, .unset, .unset, .unset, .unset, .unset, .unset, .unset, .unset, .unset, .unset, .unset] [(.int 8)])) rfl (hb hby at_19) rfl (by decide) (cap := 8) (by decide) (by decide) (by decide) (by decide)
 obtain ⟨b1, g1⟩ : ∃ z, z = h0.size := ⟨_, rfl⟩
 rw [← g1] at A1 st1
 have sz1 : h0.size ≤ b1 := Nat.le_of_eq g1.symm
 have f2 := E_u8.ext O0.2
 have ne_u8_b1 : u8 ≠ b1 := Nat.ne_of_lt (Nat.lt_of_lt_of_le f2.lt sz1)
 have g_b1 : n0 ≤ b1 := Nat.le_trans Z0 sz1
 have hz_b1 : h0.size ≤ b1 := Nat.le_trans (Keep.refl h0 []).1 sz1
 have K1 : Keep h0 h1 [] := (Keep.refl h0 []).ext E1
 have Z1 : n0 ≤ h1.size := Nat.le_trans Z0 E1.1
 have O1 := O0.ext E1
 have V1 : Arv Z h1 b1 k1 .byte (8 : Int32) [(.int 0), (.int 0), (.int 0), (.int 0), (.int 0), (.int 0), (.int 0), (.int 0)] (.int 0) := (Arv.new A1 (by decide)).pad (pad_rep [] (.int 0) 8)
 refine own_st (T' := T1) (g' := (mkF m 21 #[vi pa, vl pw, .second, vi pd, vi pc_, vi st, vi ln, .unset, .unset, .unset, .unset, .unset, .unset, .unset, .unset, .unset, .unset, .unset] [(.ref b1)])) st1 ?_
 refine own_st (T' := T1) (g' := (mkF m 28 #[vi pa, vl pw, .second, vi pd, vi pc_, vi st, vi ln, vr b1, .unset, .unset, .unset, .unset, .unset, .unset, .unset, .unset, .unset, .unset] [(.int 0), (.long pw), (.int 0), (.ref b1)])) (fun t k => ?_) ?_
 ·refine XS.astore X1.here hx rfl (hb hby at_21) rfl rfl (l' := #[vi pa, vl pw, .second, vi pd, vi pc_, vi st, vi ln, vr b1, .unset, .unset, .unset, .unset, .unset, .unset, .unset, .unset, .unset, .unset]) rfl ?_
  refine XS.aload X1.here hx rfl (hb hby at_23) rfl rfl ?_
  refine XS.iconst X1.here hx rfl (hb hby at_25) ?_
  refine XS.lloadN X1.here hx rfl (hb hby at_26) rfl ?_
  refine XS.iconst X1.here hx rfl (hb hby at_27) ?_
  exact k
 obtain ⟨_, _, ⟨T3, L3, c3, n3⟩, -, X3, ⟨Lc3, hQ3, l3, y3, z3⟩, st3⟩ := Jvm.LawKit.callS X1 hx (y := own_y33) hown (om hZ hw 2 rfl) (om hZ hw 3 rfl) (om hZ hw 4 rfl) (om hZ hw 5 rfl) (by decide) (backOf (W := 2) (own_rm1 l Z a0 hw pw (0 : Int32) h1 n0 Z1) hZ (own_w hw 5 rfl) (own_w hw 4 rfl) (by decide) (by decide)) (g := (mkF m 28 #[vi pa, vl pw, .second, vi pd, vi pc_, vi st, vi ln, vr b1, .unset, .unset, .unset, .unset, .unset, .unset, .unset, .unset, .unset, .unset] [(.int 0), (.long pw), (.int 0), (.ref b1)])) rfl (by rw [hml]; rfl) (argsL := [(.long pw), (.int 0)]) (rest := [(.int 0), (.ref b1)]) (lenOf own_pd26 rfl) rfl (by show 2 * 0 + _ ≤ _; exact Nat.le_of_eq rfl) (hb hby at_28) (fun _ _ => ⟨rfl, e1, (by decide : 1 + 0 ≤ _), (by decide : 8 + 0 ≤ _)⟩)
 dsimp only [Pt.U, Pt.locs, Pt.cells, Pt.slots] at X3 l3 y3 z3 st3 hQ3
 subst l3 y3 z3
 obtain ⟨h3, e3⟩ : ∃ z, T3.heap = z := ⟨_, rfl⟩
 rw [e3] at hQ3
 obtain ⟨b_0, rfl, N3q, hs0, eq3⟩ := hQ3
 have N3 := Fr.app N0 N3q
 rw [eq3] at e3
 refine own_st (T' := T3) (g' := (mkF m 31 #[vi pa, vl pw, .second, vi pd, vi pc_, vi st, vi ln, vr b1, .unset, .unset, .unset, .unset, .unset, .unset, .unset, .unset, .unset, .unset] [(.int b_0), (.int 0), (.ref b1)])) st3 ?_
 obtain ⟨cl4, Ar4, q4, S4, M4, H4, G4⟩ := id V1
 obtain ⟨T5, h5, X5, e5, W5, st5⟩ := stB X3 hx hZ e3 Ar4 (j := (0 : Int32)) (inb_of S4 ⟨by decide, by decide⟩) (g := (mkF m 31 #[vi pa, vl pw, .second, vi pd, vi pc_, vi st, vi ln, vr b1, .unset, .unset, .unset, .unset, .unset, .unset, .unset, .unset, .unset, .unset] [(.int b_0), (.int 0), (.ref b1)])) rfl rfl (hb hby at_31)
 have N5 := Fr.snoc X5 N3 g_b1
 have K5 : Keep h0 h5 [] := K1.wr W5 (Or.inr hz_b1)
 have Z5 : n0 ≤ h5.size := Nat.le_trans Z1 (Keep.of_wr W5).1
 have O5 := O1.wr W5 g_b1
 have fw5 := (show Arv Z h5 b1 k1 .byte (8 : Int32) [(.int b_0), (.int 0), (.int 0), (.int 0), (.int 0), (.int 0), (.int 0), (.int 0)] (.int 0) by have q : Arv Z h5 b1 k1 .byte (8 : Int32) [(.int (b_0.toInt8.toInt32)), (.int 0), (.int 0), (.int 0), (.int 0), (.int 0), (.int 0), (.int 0)] (.int 0) := Arv.set Ar4 q4 S4 M4 H4 G4 (fits_nar_byte _) W5 0 rfl (Nat.le_of_ble_eq_true rfl); rw [own_asc_id hs0] at q; exact q)
 refine own_st (T' := T5) (g' := (mkF m 32 #[vi pa, vl pw, .second, vi pd, vi pc_, vi st, vi ln, vr b1, .unset, .unset, .unset, .unset, .unset, .unset, .unset, .unset, .unset, .unset] [])) st5 ?_
 refine own_st (T' := T5) (g' := (mkF m 37 #[vi pa, vl pw, .second, vi pd, vi pc_, vi st, vi ln, vr b1, .unset, .unset, .unset, .unset, .unset, .unset, .unset, .unset, .unset, .unset] [(.int 1), (.long pw), (.int 1), (.ref b1)])) (fun t k => ?_) ?_
 ·refine XS.aload X5.here hx rfl (hb hby at_32) rfl rfl ?_
  refine XS.iconst X5.here hx rfl (hb hby at_34) ?_
  refine XS.lloadN X5.here hx rfl (hb hby at_35) rfl ?_
  refine XS.iconst X5.here hx rfl (hb hby at_36) ?_
  exact k
 obtain ⟨_, _, ⟨T6, L6, c6, n6⟩, -, X6, ⟨Lc6, hQ6, l6, y6, z6⟩, st6⟩ := Jvm.LawKit.callS X5 hx (y := own_y33) hown (om hZ hw 2 rfl) (om hZ hw 3 rfl) (om hZ hw 4 rfl) (om hZ hw 5 rfl) (by decide) (backOf (W := 2) (own_rm1 l Z a0 hw pw (1 : Int32) h5 n0 Z5) hZ (own_w hw 5 rfl) (own_w hw 4 rfl) (by decide) (by decide)) (g := (mkF m 37 #[vi pa, vl pw, .second, vi pd, vi pc_, vi st, vi ln, vr b1, .unset, .unset, .unset, .unset, .unset, .unset, .unset, .unset, .unset, .unset] [(.int 1), (.long pw), (.int 1), (.ref b1)])) rfl (by rw [hml]; rfl) (argsL := [(.long pw), (.int 1)]) (rest := [(.int 1), (.ref b1)]) (lenOf own_pd26 rfl) rfl (by show 2 * 0 + _ ≤ _; exact Nat.le_of_eq rfl) (hb hby at_37) (fun _ _ => ⟨rfl, e5, (by decide : 1 + 0 ≤ _), (by decide : 8 + 0 ≤ _)⟩)
 dsimp only [Pt.U, Pt.locs, Pt.cells, Pt.slots] at X6 l6 y6 z6 st6 hQ6
 subst l6 y6 z6
 obtain ⟨h6, e6⟩ : ∃ z, T6.heap = z := ⟨_, rfl⟩
 rw [e6] at hQ6
 obtain ⟨b_1, rfl, N6q, hs1, eq6⟩ := hQ6
 have N6 := Fr.app N5 N6q
 rw [eq6] at e6
 refine own_st (T' := T6) (g' := (mkF m 40 #[vi pa, vl pw, .second, vi pd, vi pc_, vi st, vi ln, vr b1, .unset, .unset, .unset, .unset, .unset, .unset, .unset, .unset, .unset, .unset] [(.int b_1), (.int 1), (.ref b1)])) st6 ?_
 obtain ⟨cl7, Ar7, q7, S7, M7, H7, G7⟩ := id fw5
 obtain ⟨T8, h8, X8, e8, W8, st8⟩ := stB X6 hx hZ e6 Ar7 (j := (1 : Int32)) (inb_of S7 ⟨by decide, by decide⟩) (g := (mkF m 40 #[vi pa, vl pw, .second, vi pd, vi pc_, vi st, vi ln, vr b1, .unset, .unset, .unset, .unset, .unset, .unset, .unset, .unset, .unset, .unset] [(.int b_1), (.int 1), (.ref b1)])) rfl rfl (hb hby at_40)
 have N8 := Fr.snoc X8 N6 g_b1
 have K8 : Keep h0 h8 [] := K5.wr W8 (Or.inr hz_b1)
 have Z8 : n0 ≤ h8.size := Nat.le_trans Z5 (Keep.of_wr W8).1
 have O8 := O5.wr W8 g_b1
 have fw8 := (show Arv Z h8 b1 k1 .byte (8 : Int32) [(.int b_0), (.int b_1), (.int 0), (.int 0), (.int 0), (.int 0), (.int 0), (.int 0)] (.int 0) by have q : Arv Z h8 b1 k1 .byte (8 : Int32) [(.int b_0), (.int (b_1.toInt8.toInt32)), (.int 0), (.int 0), (.int 0), (.int 0), (.int 0), (.int 0)] (.int 0) := Arv.set Ar7 q7 S7 M7 H7 G7 (fits_nar_byte _) W8 1 rfl (Nat.le_of_ble_eq_true rfl); rw [own_asc_id hs1] at q; exact q)
 refine own_st (T' := T8) (g' := (mkF m 41 #[vi pa, vl pw, .second, vi pd, vi pc_, vi st, vi ln, vr b1, .unset, .unset, .unset, .unset, .unset, .unset, .unset, .unset, .unset, .unset] [])) st8 ?_
 refine own_st (T' := T8) (g' := (mkF m 46 #[vi pa, vl pw, .second, vi pd, vi pc_, vi st, vi ln, vr b1, .unset, .unset, .unset, .unset, .unset, .unset, .unset, .unset, .unset, .unset] [(.int 2), (.long pw), (.int 2), (.ref b1)])) (fun t k => ?_) ?_
 ·refine XS.aload X8.here hx rfl (hb hby at_41) rfl rfl ?_
  refine XS.iconst X8.here hx rfl (hb hby at_43) ?_
  refine XS.lloadN X8.here hx rfl (hb hby at_44) rfl ?_
  refine XS.iconst X8.here hx rfl (hb hby at_45) ?_
  exact k
 obtain ⟨_, _, ⟨T9, L9, c9, n9⟩, -, X9, ⟨Lc9, hQ9, l9, y9, z9⟩, st9⟩ := Jvm.LawKit.callS X8 hx (y := own_y33) hown (om hZ hw 2 rfl) (om hZ hw 3 rfl) (om hZ hw 4 rfl) (om hZ hw 5 rfl) (by decide) (backOf (W := 2) (own_rm1 l Z a0 hw pw (2 : Int32) h8 n0 Z8) hZ (own_w hw 5 rfl) (own_w hw 4 rfl) (by decide) (by decide)) (g := (mkF m 46 #[vi pa, vl pw, .second, vi pd, vi pc_, vi st, vi ln, vr b1, .unset, .unset, .unset, .unset, .unset, .unset, .unset, .unset, .unset, .unset] [(.int 2), (.long pw), (.int 2), (.ref b1)])) rfl (by rw [hml]; rfl) (argsL := [(.long pw), (.int 2)]) (rest := [(.int 2), (.ref b1)]) (lenOf own_pd26 rfl) rfl (by show 2 * 0 + _ ≤ _; exact Nat.le_of_eq rfl) (hb hby at_46) (fun _ _ => ⟨rfl, e8, (by decide : 1 + 0 ≤ _), (by decide : 8 + 0 ≤ _)⟩)
 dsimp only [Pt.U, Pt.locs, Pt.cells, Pt.slots] at X9 l9 y9 z9 st9 hQ9
 subst l9 y9 z9
 obtain ⟨h9, e9⟩ : ∃ z, T9.heap = z := ⟨_, rfl⟩
 rw [e9] at hQ9
 obtain ⟨b_2, rfl, N9q, hs2, eq9⟩ := hQ9
 have N9 := Fr.app N8 N9q
 rw [eq9] at e9
 refine own_st (T' := T9) (g' := (mkF m 49 #[vi pa, vl pw, .second, vi pd, vi pc_, vi st, vi ln, vr b1, .unset, .unset, .unset, .unset, .unset, .unset, .unset, .unset, .unset, .unset] [(.int b_2), (.int 2), (.ref b1)])) st9 ?_
 obtain ⟨cl10, Ar10, q10, S10, M10, H10, G10⟩ := id fw8
 obtain ⟨T11, h11, X11, e11, W11, st11⟩ := stB X9 hx hZ e9 Ar10 (j := (2 : Int32)) (inb_of S10 ⟨by decide, by decide⟩) (g := (mkF m 49 #[vi pa, vl pw, .second, vi pd, vi pc_, vi st, vi ln, vr b1, .unset, .unset, .unset, .unset, .unset, .unset, .unset, .unset, .unset, .unset] [(.int b_2), (.int 2), (.ref b1)])) rfl rfl (hb hby at_49)
 have N11 := Fr.snoc X11 N9 g_b1
 have K11 : Keep h0 h11 [] := K8.wr W11 (Or.inr hz_b1)
 have Z11 : n0 ≤ h11.size := Nat.le_trans Z8 (Keep.of_wr W11).1
 have O11 := O8.wr W11 g_b1
 have fw11 := (show Arv Z h11 b1 k1 .byte (8 : Int32) [(.int b_0), (.int b_1), (.int b_2), (.int 0), (.int 0), (.int 0), (.int 0), (.int 0)] (.int 0) by have q : Arv Z h11 b1 k1 .byte (8 : Int32) [(.int b_0), (.int b_1), (.int (b_2.toInt8.toInt32)), (.int 0), (.int 0), (.int 0), (.int 0), (.int 0)] (.int 0) := Arv.set Ar10 q10 S10 M10 H10 G10 (fits_nar_byte _) W11 2 rfl (Nat.le_of_ble_eq_true rfl); rw [own_asc_id hs2] at q; exact q)
 refine own_st (T' := T11) (g' := (mkF m 50 #[vi pa, vl pw, .second, vi pd, vi pc_, vi st, vi ln, vr b1, .unset, .unset, .unset, .unset, .unset, .unset, .unset, .unset, .unset, .unset] [])) st11 ?_
 refine own_st (T' := T11) (g' := (mkF m 55 #[vi pa, vl pw, .second, vi pd, vi pc_, vi st, vi ln, vr b1, .unset, .unset, .unset, .unset, .unset, .unset, .unset, .unset, .unset, .unset] [(.int 3), (.long pw), (.int 3), (.ref b1)])) (fun t k => ?_) ?_
 ·refine XS.aload X11.here hx rfl (hb hby at_50) rfl rfl ?_
  refine XS.iconst X11.here hx rfl (hb hby at_52) ?_
  refine XS.lloadN X11.here hx rfl (hb hby at_53) rfl ?_
  refine XS.iconst X11.here hx rfl (hb hby at_54) ?_
  exact k
 obtain ⟨_, _, ⟨T12, L12, c12, n12⟩, -, X12, ⟨Lc12, hQ12, l12, y12, z12⟩, st12⟩ := Jvm.LawKit.callS X11 hx (y := own_y33) hown (om hZ hw 2 rfl) (om hZ hw 3 rfl) (om hZ hw 4 rfl) (om hZ hw 5 rfl) (by decide) (backOf (W := 2) (own_rm1 l Z a0 hw pw (3 : Int32) h11 n0 Z11) hZ (own_w hw 5 rfl) (own_w hw 4 rfl) (by decide) (by decide)) (g := (mkF m 55 #[vi pa, vl pw, .second, vi pd, vi pc_, vi st, vi ln, vr b1, .unset, .unset, .unset, .unset, .unset, .unset, .unset, .unset, .unset, .unset] [(.int 3), (.long pw), (.int 3), (.ref b1)])) rfl (by rw [hml]; rfl) (argsL := [(.long pw), (.int 3)]) (rest := [(.int 3), (.ref b1)]) (lenOf own_pd26 rfl) rfl (by show 2 * 0 + _ ≤ _; exact Nat.le_of_eq rfl) (hb hby at_55) (fun _ _ => ⟨rfl, e11, (by decide : 1 + 0 ≤ _), (by decide : 8 + 0 ≤ _)⟩)
 dsimp only [Pt.U, Pt.locs, Pt.cells, Pt.slots] at X12 l12 y12 z12 st12 hQ12
 subst l12 y12 z12
 obtain ⟨h12, e12⟩ : ∃ z, T12.heap = z := ⟨_, rfl⟩
 rw [e12] at hQ12
 obtain ⟨b_3, rfl, N12q, hs3, eq12⟩ := hQ12
 have N12 := Fr.app N11 N12q
 rw [eq12] at e12
 refine own_st (T' := T12) (g' := (mkF m 58 #[vi pa, vl pw, .second, vi pd, vi pc_, vi st, vi ln, vr b1, .unset, .unset, .unset, .unset, .unset, .unset, .unset, .unset, .unset, .unset] [(.int b_3), (.int 3), (.ref b1)])) st12 ?_
 obtain ⟨cl13, Ar13, q13, S13, M13, H13, G13⟩ := id fw11
 obtain ⟨T14, h14, X14, e14, W14, st14⟩ := stB X12 hx hZ e12 Ar13 (j := (3 : Int32)) (inb_of S13 ⟨by decide, by decide⟩) (g := (mkF m 58 #[vi pa, vl pw, .second, vi pd, vi pc_, vi st, vi ln, vr b1, .unset, .unset, .unset, .unset, .unset, .unset, .unset, .unset, .unset, .unset] [(.int b_3), (.int 3), (.ref b1)])) rfl rfl (hb hby at_58)
 have N14 := Fr.snoc X14 N12 g_b1
 have K14 : Keep h0 h14 [] := K11.wr W14 (Or.inr hz_b1)
 have Z14 : n0 ≤ h14.size := Nat.le_trans Z11 (Keep.of_wr W14).1
 have O14 := O11.wr W14 g_b1
 have fw14 := (show Arv Z h14 b1 k1 .byte (8 : Int32) [(.int b_0), (.int b_1), (.int b_2), (.int b_3), (.int 0), (.int 0), (.int 0), (.int 0)] (.int 0) by have q : Arv Z h14 b1 k1 .byte (8 : Int32) [(.int b_0), (.int b_1), (.int b_2), (.int (b_3.toInt8.toInt32)), (.int 0), (.int 0), (.int 0), (.int 0)] (.int 0) := Arv.set Ar13 q13 S13 M13 H13 G13 (fits_nar_byte _) W14 3 rfl (Nat.le_of_ble_eq_true rfl); rw [own_asc_id hs3] at q; exact q)
 refine own_st (T' := T14) (g' := (mkF m 59 #[vi pa, vl pw, .second, vi pd, vi pc_, vi st, vi ln, vr b1, .unset, .unset, .unset, .unset, .unset, .unset, .unset, .unset, .unset, .unset] [])) st14 ?_
 refine own_st (T' := T14) (g' := (mkF m 64 #[vi pa, vl pw, .second, vi pd, vi pc_, vi st, vi ln, vr b1, .unset, .unset, .unset, .unset, .unset, .unset, .unset, .unset, .unset, .unset] [(.int 4), (.long pw), (.int 4), (.ref b1)])) (fun t k => ?_) ?_
 ·refine XS.aload X14.here hx rfl (hb hby at_59) rfl rfl ?_
  refine XS.iconst X14.here hx rfl (hb hby at_61) ?_
  refine XS.lloadN X14.here hx rfl (hb hby at_62) rfl ?_
  refine XS.iconst X14.here hx rfl (hb hby at_63) ?_
  exact k
 obtain ⟨_, _, ⟨T15, L15, c15, n15⟩, -, X15, ⟨Lc15, hQ15, l15, y15, z15⟩, st15⟩ := Jvm.LawKit.callS X14 hx (y := own_y33) hown (om hZ hw 2 rfl) (om hZ hw 3 rfl) (om hZ hw 4 rfl) (om hZ hw 5 rfl) (by decide) (backOf (W := 2) (own_rm1 l Z a0 hw pw (4 : Int32) h14 n0 Z14) hZ (own_w hw 5 rfl) (own_w hw 4 rfl) (by decide) (by decide)) (g := (mkF m 64 #[vi pa, vl pw, .second, vi pd, vi pc_, vi st, vi ln, vr b1, .unset, .unset, .unset, .unset, .unset, .unset, .unset, .unset, .unset, .unset] [(.int 4), (.long pw), (.int 4), (.ref b1)])) rfl (by rw [hml]; rfl) (argsL := [(.long pw), (.int 4)]) (rest := [(.int 4), (.ref b1)]) (lenOf own_pd26 rfl) rfl (by show 2 * 0 + _ ≤ _; exact Nat.le_of_eq rfl) (hb hby at_64) (fun _ _ => ⟨rfl, e14, (by decide : 1 + 0 ≤ _), (by decide : 8 + 0 ≤ _)⟩)
 dsimp only [Pt.U, Pt.locs, Pt.cells, Pt.slots] at X15 l15 y15 z15 st15 hQ15
 subst l15 y15 z15
 obtain ⟨h15, e15⟩ : ∃ z, T15.heap = z := ⟨_, rfl⟩
 rw [e15] at hQ15
 obtain ⟨b_4, rfl, N15q, hs4, eq15⟩ := hQ15
 have N15 := Fr.app N14 N15q
 rw [eq15] at e15
 refine own_st (T' := T15) (g' := (mkF m 67 #[vi pa, vl pw, .second, vi pd, vi pc_, vi st, vi ln, vr b1, .unset, .unset, .unset, .unset, .unset, .unset, .unset, .unset, .unset, .unset] [(.int b_4), (.int 4), (.ref b1)])) st15 ?_
 obtain ⟨cl16, Ar16, q16, S16, M16, H16, G16⟩ := id fw14
 obtain ⟨T17, h17, X17, e17, W17, st17⟩ := stB X15 hx hZ e15 Ar16 (j := (4 : Int32)) (inb_of S16 ⟨by decide, by decide⟩) (g := (mkF m 67 #[vi pa, vl pw, .second, vi pd, vi pc_, vi st, vi ln, vr b1, .unset, .unset, .unset, .unset, .unset, .unset, .unset, .unset, .unset, .unset] [(.int b_4), (.int 4), (.ref b1)])) rfl rfl (hb hby at_67)
 have N17 := Fr.snoc X17 N15 g_b1
 have K17 : Keep h0 h17 [] := K14.wr W17 (Or.inr hz_b1)
 have Z17 : n0 ≤ h17.size := Nat.le_trans Z14 (Keep.of_wr W17).1
 have O17 := O14.wr W17 g_b1
 have fw17 := (show Arv Z h17 b1 k1 .byte (8 : Int32) [(.int b_0), (.int b_1), (.int b_2), (.int b_3), (.int b_4), (.int 0), (.int 0), (.int 0)] (.int 0) by have q : Arv Z h17 b1 k1 .byte (8 : Int32) [(.int b_0), (.int b_1), (.int b_2), (.int b_3), (.int (b_4.toInt8.toInt32)), (.int 0), (.int 0), (.int 0)] (.int 0) := Arv.set Ar16 q16 S16 M16 H16 G16 (fits_nar_byte _) W17 4 rfl (Nat.le_of_ble_eq_true rfl); rw [own_asc_id hs4] at q; exact q)
 refine own_st (T' := T17) (g' := (mkF m 68 #[vi pa, vl pw, .second, vi pd, vi pc_, vi st, vi ln, vr b1, .unset, .unset, .unset, .unset, .unset, .unset, .unset, .unset, .unset, .unset] [])) st17 ?_
 refine own_st (T' := T17) (g' := (mkF m 73 #[vi pa, vl pw, .second, vi pd, vi pc_, vi st, vi ln, vr b1, .unset, .unset, .unset, .unset, .unset, .unset, .unset, .unset, .unset, .unset] [(.int 5), (.long pw), (.int 5), (.ref b1)])) (fun t k => ?_) ?_
 ·refine XS.aload X17.here hx rfl (hb hby at_68) rfl rfl ?_
  refine XS.iconst X17.here hx rfl (hb hby at_70) ?_
  refine XS.lloadN X17.here hx rfl (hb hby at_71) rfl ?_
  refine XS.iconst X17.here hx rfl (hb hby at_72) ?_
  exact k
 obtain ⟨_, _, ⟨T18, L18, c18, n18⟩, -, X18, ⟨Lc18, hQ18, l18, y18, z18⟩, st18⟩ := Jvm.LawKit.callS X17 hx (y := own_y33) hown (om hZ hw 2 rfl) (om hZ hw 3 rfl) (om hZ hw 4 rfl) (om hZ hw 5 rfl) (by decide) (backOf (W := 2) (own_rm1 l Z a0 hw pw (5 : Int32) h17 n0 Z17) hZ (own_w hw 5 rfl) (own_w hw 4 rfl) (by decide) (by decide)) (g := (mkF m 73 #[vi pa, vl pw, .second, vi pd, vi pc_, vi st, vi ln, vr b1, .unset, .unset, .unset, .unset, .unset, .unset, .unset, .unset, .unset, .unset] [(.int 5), (.long pw), (.int 5), (.ref b1)])) rfl (by rw [hml]; rfl) (argsL := [(.long pw), (.int 5)]) (rest := [(.int 5), (.ref b1)]) (lenOf own_pd26 rfl) rfl (by show 2 * 0 + _ ≤ _; exact Nat.le_of_eq rfl) (hb hby at_73) (fun _ _ => ⟨rfl, e17, (by decide : 1 + 0 ≤ _), (by decide : 8 + 0 ≤ _)⟩)
 dsimp only [Pt.U, Pt.locs, Pt.cells, Pt.slots] at X18 l18 y18 z18 st18 hQ18
 subst l18 y18 z18
 obtain ⟨h18, e18⟩ : ∃ z, T18.heap = z := ⟨_, rfl⟩
 rw [e18] at hQ18
 obtain ⟨b_5, rfl, N18q, hs5, eq18⟩ := hQ18
 have N18 := Fr.app N17 N18q
 rw [eq18] at e18
 refine own_st (T' := T18) (g' := (mkF m 76 #[vi pa, vl pw, .second, vi pd, vi pc_, vi st, vi ln, vr b1, .unset, .unset, .unset, .unset, .unset, .unset, .unset, .unset, .unset, .unset] [(.int b_5), (.int 5), (.ref b1)])) st18 ?_
 obtain ⟨cl19, Ar19, q19, S19, M19, H19, G19⟩ := id fw17
 obtain ⟨T20, h20, X20, e20, W20, st20⟩ := stB X18 hx hZ e18 Ar19 (j := (5 : Int32)) (inb_of S19 ⟨by decide, by decide⟩) (g := (mkF m 76 #[vi pa, vl pw, .second, vi pd, vi pc_, vi st, vi ln, vr b1, .unset, .unset, .unset, .unset, .unset, .unset, .unset, .unset, .unset, .unset] [(.int b_5), (.int 5), (.ref b1)])) rfl rfl (hb hby at_76)
 have N20 := Fr.snoc X20 N18 g_b1
 have K20 : Keep h0 h20 [] := K17.wr W20 (Or.inr hz_b1)
 have Z20 : n0 ≤ h20.size := Nat.le_trans Z17 (Keep.of_wr W20).1
 have O20 := O17.wr W20 g_b1
 have fw20 := (show Arv Z h20 b1 k1 .byte (8 : Int32) [(.int b_0), (.int b_1), (.int b_2), (.int b_3), (.int b_4), (.int b_5), (.int 0), (.int 0)] (.int 0) by have q : Arv Z h20 b1 k1 .byte (8 : Int32) [(.int b_0), (.int b_1), (.int b_2), (.int b_3), (.int b_4), (.int (b_5.toInt8.toInt32)), (.int 0), (.int 0)] (.int 0) := Arv.set Ar19 q19 S19 M19 H19 G19 (fits_nar_byte _) W20 5 rfl (Nat.le_of_ble_eq_true rfl); rw [own_asc_id hs5] at q; exact q)
 refine own_st (T' := T20) (g' := (mkF m 77 #[vi pa, vl pw, .second, vi pd, vi pc_, vi st, vi ln, vr b1, .unset, .unset, .unset, .unset, .unset, .unset, .unset, .unset, .unset, .unset] [])) st20 ?_
 refine own_st (T' := T20) (g' := (mkF m 84 #[vi pa, vl pw, .second, vi pd, vi pc_, vi st, vi ln, vr b1, .unset, .unset, .unset, .unset, .unset, .unset, .unset, .unset, .unset, .unset] [(.int 6), (.long pw), (.int 6), (.ref b1)])) (fun t k => ?_) ?_
 ·refine XS.aload X20.here hx rfl (hb hby at_77) rfl rfl ?_
  refine XS.bipush X20.here hx rfl (hb hby at_79) ?_
  refine XS.lloadN X20.here hx rfl (hb hby at_81) rfl ?_
  refine XS.bipush X20.here hx rfl (hb hby at_82) ?_
  exact k
 obtain ⟨_, _, ⟨T21, L21, c21, n21⟩, -, X21, ⟨Lc21, hQ21, l21, y21, z21⟩, st21⟩ := Jvm.LawKit.callS X20 hx (y := own_y33) hown (om hZ hw 2 rfl) (om hZ hw 3 rfl) (om hZ hw 4 rfl) (om hZ hw 5 rfl) (by decide) (backOf (W := 2) (own_rm1 l Z a0 hw pw (6 : Int32) h20 n0 Z20) hZ (own_w hw 5 rfl) (own_w hw 4 rfl) (by decide) (by decide)) (g := (mkF m 84 #[vi pa, vl pw, .second, vi pd, vi pc_, vi st, vi ln, vr b1, .unset, .unset, .unset, .unset, .unset, .unset, .unset, .unset, .unset, .unset] [(.int 6), (.long pw), (.int 6), (.ref b1)])) rfl (by rw [hml]; rfl) (argsL := [(.long pw), (.int 6)]) (rest := [(.int 6), (.ref b1)]) (lenOf own_pd26 rfl) rfl (by show 2 * 0 + _ ≤ _; exact Nat.le_of_eq rfl) (hb hby at_84) (fun _ _ => ⟨rfl, e20, (by decide : 1 + 0 ≤ _), (by decide : 8 + 0 ≤ _)⟩)
 dsimp only [Pt.U, Pt.locs, Pt.cells, Pt.slots] at X21 l21 y21 z21 st21 hQ21
 subst l21 y21 z21
 obtain ⟨h21, e21⟩ : ∃ z, T21.heap = z := ⟨_, rfl⟩
 rw [e21] at hQ21
 obtain ⟨b_6, rfl, N21q, hs6, eq21⟩ := hQ21
 have N21 := Fr.app N20 N21q
 rw [eq21] at e21
 refine own_st (T' := T21) (g' := (mkF m 87 #[vi pa, vl pw, .second, vi pd, vi pc_, vi st, vi ln, vr b1, .unset, .unset, .unset, .unset, .unset, .unset, .unset, .unset, .unset, .unset] [(.int b_6), (.int 6), (.ref b1)])) st21 ?_
 obtain ⟨cl22, Ar22, q22, S22, M22, H22, G22⟩ := id fw20
 obtain ⟨T23, h23, X23, e23, W23, st23⟩ := stB X21 hx hZ e21 Ar22 (j := (6 : Int32)) (inb_of S22 ⟨by decide, by decide⟩) (g := (mkF m 87 #[vi pa, vl pw, .second, vi pd, vi pc_, vi st, vi ln, vr b1, .unset, .unset, .unset, .unset, .unset, .unset, .unset, .unset, .unset, .unset] [(.int b_6), (.int 6), (.ref b1)])) rfl rfl (hb hby at_87)
 have N23 := Fr.snoc X23 N21 g_b1
 have K23 : Keep h0 h23 [] := K20.wr W23 (Or.inr hz_b1)
 have Z23 : n0 ≤ h23.size := Nat.le_trans Z20 (Keep.of_wr W23).1
 have O23 := O20.wr W23 g_b1
 have fw23 := (show Arv Z h23 b1 k1 .byte (8 : Int32) [(.int b_0), (.int b_1), (.int b_2), (.int b_3), (.int b_4), (.int b_5), (.int b_6), (.int 0)] (.int 0) by have q : Arv Z h23 b1 k1 .byte (8 : Int32) [(.int b_0), (.int b_1), (.int b_2), (.int b_3), (.int b_4), (.int b_5), (.int (b_6.toInt8.toInt32)), (.int 0)] (.int 0) := Arv.set Ar22 q22 S22 M22 H22 G22 (fits_nar_byte _) W23 6 rfl (Nat.le_of_ble_eq_true rfl); rw [own_asc_id hs6] at q; exact q)
 refine own_st (T' := T23) (g' := (mkF m 88 #[vi pa, vl pw, .second, vi pd, vi pc_, vi st, vi ln, vr b1, .unset, .unset, .unset, .unset, .unset, .unset, .unset, .unset, .unset, .unset] [])) st23 ?_
 refine own_st (T' := T23) (g' := (mkF m 95 #[vi pa, vl pw, .second, vi pd, vi pc_, vi st, vi ln, vr b1, .unset, .unset, .unset, .unset, .unset, .unset, .unset, .unset, .unset, .unset] [(.int 7), (.long pw), (.int 7), (.ref b1)])) (fun t k => ?_) ?_
 ·refine XS.aload X23.here hx rfl (hb hby at_88) rfl rfl ?_
  refine XS.bipush X23.here hx rfl (hb hby at_90) ?_
  refine XS.lloadN X23.here hx rfl (hb hby at_92) rfl ?_
  refine XS.bipush X23.here hx rfl (hb hby at_93) ?_
  exact k
 obtain ⟨_, _, ⟨T24, L24, c24, n24⟩, -, X24, ⟨Lc24, hQ24, l24, y24, z24⟩, st24⟩ := Jvm.LawKit.callS X23 hx (y := own_y33) hown (om hZ hw 2 rfl) (om hZ hw 3 rfl) (om hZ hw 4 rfl) (om hZ hw 5 rfl) (by decide) (backOf (W := 2) (own_rm1 l Z a0 hw pw (7 : Int32) h23 n0 Z23) hZ (own_w hw 5 rfl) (own_w hw 4 rfl) (by decide) (by decide)) (g := (mkF m 95 #[vi pa, vl pw, .second, vi pd, vi pc_, vi st, vi ln, vr b1, .unset, .unset, .unset, .unset, .unset, .unset, .unset, .unset, .unset, .unset] [(.int 7), (.long pw), (.int 7), (.ref b1)])) rfl (by rw [hml]; rfl) (argsL := [(.long pw), (.int 7)]) (rest := [(.int 7), (.ref b1)]) (lenOf own_pd26 rfl) rfl (by show 2 * 0 + _ ≤ _; exact Nat.le_of_eq rfl) (hb hby at_95) (fun _ _ => ⟨rfl, e23, (by decide : 1 + 0 ≤ _), (by decide : 8 + 0 ≤ _)⟩)
 dsimp only [Pt.U, Pt.locs, Pt.cells, Pt.slots] at X24 l24 y24 z24 st24 hQ24
 subst l24 y24 z24
 obtain ⟨h24, e24⟩ : ∃ z, T24.heap = z := ⟨_, rfl⟩
 rw [e24] at hQ24
 obtain ⟨b_7, rfl, N24q, hs7, eq24⟩ := hQ24
 have N24 := Fr.app N23 N24q
 rw [eq24] at e24
 refine own_st (T' := T24) (g' := (mkF m 98 #[vi pa, vl pw, .second, vi pd, vi pc_, vi st, vi ln, vr b1, .unset, .unset, .unset, .unset, .unset, .unset, .unset, .unset, .unset, .unset] [(.int b_7), (.int 7), (.ref b1)])) st24 ?_
 obtain ⟨cl25, Ar25, q25, S25, M25, H25, G25⟩ := id fw23
 obtain ⟨T26, h26, X26, e26, W26, st26⟩ := stB X24 hx hZ e24 Ar25 (j := (7 : Int32)) (inb_of S25 ⟨by decide, by decide⟩) (g := (mkF m 98 #[vi pa, vl pw, .second, vi pd, vi pc_, vi st, vi ln, vr b1, .unset, .unset, .unset, .unset, .unset, .unset, .unset, .unset, .unset, .unset] [(.int b_7), (.int 7), (.ref b1)])) rfl rfl (hb hby at_98)
 have N26 := Fr.snoc X26 N24 g_b1
 have K26 : Keep h0 h26 [] := K23.wr W26 (Or.inr hz_b1)
 have Z26 : n0 ≤ h26.size := Nat.le_trans Z23 (Keep.of_wr W26).1
 have O26 := O23.wr W26 g_b1
 have fw26 := (show Arv Z h26 b1 k1 .byte (8 : Int32) [(.int b_0), (.int b_1), (.int b_2), (.int b_3), (.int b_4), (.int b_5), (.int b_6), (.int b_7)] (.int 0) by have q : Arv Z h26 b1 k1 .byte (8 : Int32) [(.int b_0), (.int b_1), (.int b_2), (.int b_3), (.int b_4), (.int b_5), (.int b_6), (.int (b_7.toInt8.toInt32))] (.int 0) := Arv.set Ar25 q25 S25 M25 H25 G25 (fits_nar_byte _) W26 7 rfl (Nat.le_of_ble_eq_true rfl); rw [own_asc_id hs7] at q; exact q)
 refine own_st (T' := T26) (g' := (mkF m 99 #[vi pa, vl pw, .second, vi pd, vi pc_, vi st, vi ln, vr b1, .unset, .unset, .unset, .unset, .unset, .unset, .unset, .unset, .unset, .unset] [])) st26 ?_
 have J : ∀ (mu le co el e0_ e1_ e2_ y0 y1 y2 y3 y4 y5 y6 y7 x0 x1 x2 : Int32) (hh : Heap), Arv Z hh b1 k1 .byte (8 : Int32) [(.int y0), (.int y1), (.int y2), (.int y3), (.int y4), (.int y5), (.int y6), (.int y7)] (.int 0) → Keep h0 hh [] → Old Z n0 hh → n0 ≤ hh.size → ([(.int y0), (.int y1), (.int y2), (.int y3), (.int y4), (.int y5), (.int y6), (.int y7)] : List Value).getD (st).toNatClampNeg (.int 0) = .int x0 → ([(.int y0), (.int y1), (.int y2), (.int y3), (.int y4), (.int y5), (.int y6), (.int y7)] : List Value).getD ((st + (1 : Int32))).toNatClampNeg (.int 0) = .int x1 → ([(.int y0), (.int y1), (.int y2), (.int y3), (.int y4), (.int y5), (.int y6), (.int y7)] : List Value).getD (((st + (1 : Int32)) + (1 : Int32))).toNatClampNeg (.int 0) = .int x2 → own_cas ln x0 x1 x2 el e0_ e1_ e2_ → ∀ (T : State) (locs : List Loc), Stand p l e room_1 s m #[(.int pa), (.long pw), (.int pd), (.int pc_)] below meth c T locs 1 8 → Fr n0 locs → T.heap = hh → own_Go p e below (own_K s (own_Q0 Z pa pw pd pc_ cs fm u8 h0 n0) room_1.cells room_1.slots) T (mkF m 238 #[vi pa, vl pw, .second, vi pd, vi pc_, vi st, vi ln, vr b1, vi mu, vi le, vi co, vi el, vi e0_, vi e1_, vi e2_, .unset, .unset, .unset] []) := by
  intro mu le co el e0_ e1_ e2_ y0 y1 y2 y3 y4 y5 y6 y7 x0 x1 x2 hh Vj Kj Oj Zj hx0 hx1 hx2 hcas Tj lj Xj Nj ej
  obtain ⟨T27, h27, X27, e27, E27, A27, D27, U27, st27⟩ := newO Xj hx hZ hown (own_w hw 7 rfl) (own_w hw 8 rfl) (own_w hw 9 rfl) ej (g := (mkF m 238 #[vi pa, vl pw, .second, vi pd, vi pc_, vi st, vi ln, vr b1, vi mu, vi le, vi co, vi el, vi e0_, vi e1_, vi e2_, .unset, .unset, .unset] [])) rfl (hb hby at_238) (by decide) (by decide)
  obtain ⟨b27, g27⟩ : ∃ z, z = hh.size := ⟨_, rfl⟩
  rw [← g27] at A27 D27 U27 st27
  have sz27 : hh.size ≤ b27 := Nat.le_of_eq g27.symm
  have f28 := E_u8.ext Oj.2
  have ne_u8_b27 : u8 ≠ b27 := Nat.ne_of_lt (Nat.lt_of_lt_of_le f28.lt sz27)
  have ne_b1_b27 : b1 ≠ b27 := Nat.ne_of_lt (Nat.lt_of_lt_of_le Vj.lt sz27)
  have g_b27 : n0 ≤ b27 := Nat.le_trans Zj sz27
  have hz_b27 : h0.size ≤ b27 := Nat.le_trans Kj.1 sz27
  have K27 : Keep h0 h27 [] := Kj.ext E27
  have Z27 : n0 ≤ h27.size := Nat.le_trans Zj E27.1
  have O27 := Oj.ext E27
  refine own_st (T' := T27) (g' := (mkF m 241 #[vi pa, vl pw, .second, vi pd, vi pc_, vi st, vi ln, vr b1, vi mu, vi le, vi co, vi el, vi e0_, vi e1_, vi e2_, .unset, .unset, .unset] [(.ref b27)])) st27 ?_
  refine own_st (T' := T27) (g' := (mkF m 242 #[vi pa, vl pw, .second, vi pd, vi pc_, vi st, vi ln, vr b1, vi mu, vi le, vi co, vi el, vi e0_, vi e1_, vi e2_, .unset, .unset, .unset] [(.ref b27), (.ref b27)])) (fun t k => ?_) ?_
  ·refine XS.dup X27.here hx rfl (hb hby at_241) rfl rfl ?_
   exact k
  obtain ⟨_, _, ⟨T29, L29, c29, n29⟩, -, X29, ⟨Lc29, hQ29, l29, y29, z29⟩, st29⟩ := X27.specialBack hx (y := own_y34) rfl hown (om hZ hw 10 rfl) (om hZ hw 11 rfl) (om hZ hw 12 rfl) (by decide) (backOf (W := 1) (own_rm2 l Z a0 hw b27 h27 n0 Z27) hZ (own_w hw 12 rfl) (own_w hw 9 rfl) (by decide) (by decide)) (g := (mkF m 242 #[vi pa, vl pw, .second, vi pd, vi pc_, vi st, vi ln, vr b1, vi mu, vi le, vi co, vi el, vi e0_, vi e1_, vi e2_, .unset, .unset, .unset] [(.ref b27), (.ref b27)])) rfl (by rw [hml]; rfl) (Steps.refl _) (a := b27) (argsL := []) (rest := [(.ref b27)]) (lenOf own_pd27 rfl) rfl (by show 2 * 0 + _ ≤ _; exact Nat.le_of_eq rfl) (hb hby at_242) (fun _ _ => ⟨rfl, e27, (by decide : 2 + 0 ≤ _), (by decide : 14 + 0 ≤ _)⟩)
  dsimp only [Pt.U, Pt.locs, Pt.cells, Pt.slots] at X29 l29 y29 z29 st29 hQ29
  subst l29 y29 z29
  obtain ⟨rfl, N29q, e29⟩ := hQ29
  have N29 := Fr.app Nj N29q
  refine own_tr (T' := T29) (g' := (mkF m 245 #[vi pa, vl pw, .second, vi pd, vi pc_, vi st, vi ln, vr b1, vi mu, vi le, vi co, vi el, vi e0_, vi e1_, vi e2_, .unset, .unset, .unset] [(.ref b27)])) st29 ?_
  refine own_st (T' := T29) (g' := (mkF m 251 #[vi pa, vl pw, .second, vi pd, vi pc_, vi st, vi ln, vr b1, vi mu, vi le, vi co, vi el, vi e0_, vi e1_, vi e2_, vr b27, .unset, .unset] [(.ref b1), (.ref b27)])) (fun t k => ?_) ?_
  ·refine XS.astore X29.here hx rfl (hb hby at_245) rfl rfl (l' := #[vi pa, vl pw, .second, vi pd, vi pc_, vi st, vi ln, vr b1, vi mu, vi le, vi co, vi el, vi e0_, vi e1_, vi e2_, vr b27, .unset, .unset]) rfl ?_
   refine XS.aload X29.here hx rfl (hb hby at_247) rfl rfl ?_
   refine XS.aload X29.here hx rfl (hb hby at_249) rfl rfl ?_
   exact k
  obtain ⟨T30, h30, X30, e30, W30, st30⟩ := putF X29 hx hZ hown (host := "") (Or.inl (own_w hw 16 rfl)) Via.refl e29 (D27 (Or.inl (own_w hw 17 rfl)) (ty := (.array .byte)) (by decide) : Fld Z h27 b27 "com/example/dyadloom/dyadloom/core/TripletReader$Triplet" "bytes" "[B" .null) A27 (Or.inl (own_w hw 17 rfl)) (own_w hw 8 rfl) (ty := (.array .byte)) (by decide) rfl rfl (g := (mkF m 251 #[vi pa, vl pw, .second, vi pd, vi pc_, vi st, vi ln, vr b1, vi mu, vi le, vi co, vi el, vi e0_, vi e1_, vi e2_, vr b27, .unset, .unset] [(.ref b1), (.ref b27)])) rfl rfl (hb hby at_251)
  have N30 := Fr.snoc X30 N29 g_b27
  have K30 : Keep h0 h30 [] := K27.wr W30 (Or.inr hz_b27)
  have Z30 : n0 ≤ h30.size := Nat.le_trans Z27 (Keep.of_wr W30).1
  have O30 := O27.wr W30 g_b27
  have fw30 := ((D27 (Or.inl (own_w hw 17 rfl)) (ty := (.array .byte)) (by decide) : Fld Z h27 b27 "com/example/dyadloom/dyadloom/core/TripletReader$Triplet" "bytes" "[B" .null).same W30)
  refine own_st (T' := T30) (g' := (mkF m 254 #[vi pa, vl pw, .second, vi pd, vi pc_, vi st, vi ln, vr b1, vi mu, vi le, vi co, vi el, vi e0_, vi e1_, vi e2_, vr b27, .unset, .unset] [])) st30 ?_
  refine own_st (T' := T30) (g' := (mkF m 268 #[vi pa, vl pw, .second, vi pd, vi pc_, vi st, vi ln, vr b1, vi mu, vi le, vi co, vi el, vi e0_, vi e1_, vi e2_, vr b27, .val (.int (((pc_.toUInt32 >>> ((8 : Int32) &&& 31).toUInt32).toInt32) &&& (7 : Int32))), .unset] [(.int (((pc_.toUInt32 >>> ((8 : Int32) &&& 31).toUInt32).toInt32) &&& (7 : Int32))), (.ref b27)])) (fun t k => ?_) ?_
  ·refine XS.iload X30.here hx rfl (hb hby at_254) rfl ?_
   refine XS.bipush X30.here hx rfl (hb hby at_256) ?_
   refine XS.iushr X30.here hx rfl (hb hby at_258) rfl ?_
   refine XS.bipush X30.here hx rfl (hb hby at_259) ?_
   refine XS.iand X30.here hx rfl (hb hby at_261) rfl ?_
   refine XS.istore X30.here hx rfl (hb hby at_262) rfl (l' := #[vi pa, vl pw, .second, vi pd, vi pc_, vi st, vi ln, vr b1, vi mu, vi le, vi co, vi el, vi e0_, vi e1_, vi e2_, vr b27, .val (.int (((pc_.toUInt32 >>> ((8 : Int32) &&& 31).toUInt32).toInt32) &&& (7 : Int32))), .unset]) rfl ?_
   refine XS.aload X30.here hx rfl (hb hby at_264) rfl rfl ?_
   refine XS.iload X30.here hx rfl (hb hby at_266) rfl ?_
   exact k
  have f31 := (D27 (Or.inl (own_w hw 19 rfl)) (ty := .int) (by decide) : Fld Z h27 b27 "com/example/dyadloom/dyadloom/core/TripletReader$Triplet" "rowStart" "I" (.int 0)).other W30 (Or.inr (slot_ne (Or.inl (own_w hw 19 rfl)) (Or.inl (own_w hw 17 rfl)) (by decide) (t := .int) (t' := (.array .byte)) (by decide) (by decide)))
  have f32 := A27.wr W30
  obtain ⟨T33, h33, X33, e33, W33, st33⟩ := putF X30 hx hZ hown (host := "") (Or.inl (own_w hw 18 rfl)) Via.refl e30 f31 f32 (Or.inl (own_w hw 19 rfl)) (own_w hw 8 rfl) (ty := .int) (by decide) rfl rfl (g := (mkF m 268 #[vi pa, vl pw, .second, vi pd, vi pc_, vi st, vi ln, vr b1, vi mu, vi le, vi co, vi el, vi e0_, vi e1_, vi e2_, vr b27, .val (.int (((pc_.toUInt32 >>> ((8 : Int32) &&& 31).toUInt32).toInt32) &&& (7 : Int32))), .unset] [(.int (((pc_.toUInt32 >>> ((8 : Int32) &&& 31).toUInt32).toInt32) &&& (7 : Int32))), (.ref b27)])) rfl rfl (hb hby at_268)
  have N33 := Fr.snoc X33 N30 g_b27
  have K33 : Keep h0 h33 [] := K30.wr W33 (Or.inr hz_b27)
  have Z33 : n0 ≤ h33.size := Nat.le_trans Z30 (Keep.of_wr W33).1
  have O33 := O30.wr W33 g_b27
  have fw33 := (f31.same W33)
  refine own_st (T' := T33) (g' := (mkF m 271 #[vi pa, vl pw, .second, vi pd, vi pc_, vi st, vi ln, vr b1, vi mu, vi le, vi co, vi el, vi e0_, vi e1_, vi e2_, vr b27, .val (.int (((pc_.toUInt32 >>> ((8 : Int32) &&& 31).toUInt32).toInt32) &&& (7 : Int32))), .unset] [])) st33 ?_
  refine own_st (T' := T33) (g' := (mkF m 286 #[vi pa, vl pw, .second, vi pd, vi pc_, vi st, vi ln, vr b1, vi mu, vi le, vi co, vi el, vi e0_, vi e1_, vi e2_, vr b27, .val (.int (((pc_.toUInt32 >>> ((8 : Int32) &&& 31).toUInt32).toInt32) &&& (7 : Int32))), .unset] [(.int ((((pc_.toUInt32 >>> ((8 : Int32) &&& 31).toUInt32).toInt32) &&& (7 : Int32)) + (((pc_.toUInt32 >>> ((11 : Int32) &&& 31).toUInt32).toInt32) &&& (7 : Int32)))), (.int 8), (.ref b27)])) (fun t k => ?_) ?_
  ·refine XS.aload X33.here hx rfl (hb hby at_271) rfl rfl ?_
   refine XS.bipush X33.here hx rfl (hb hby at_273) ?_
   refine XS.iload X33.here hx rfl (hb hby at_275) rfl ?_
   refine XS.iload X33.here hx rfl (hb hby at_277) rfl ?_
   refine XS.bipush X33.here hx rfl (hb hby at_279) ?_
   refine XS.iushr X33.here hx rfl (hb hby at_281) rfl ?_
   refine XS.bipush X33.here hx rfl (hb hby at_282) ?_
   refine XS.iand X33.here hx rfl (hb hby at_284) rfl ?_
   refine XS.iadd X33.here hx rfl (hb hby at_285) rfl ?_
   exact k
  obtain ⟨_, _, ⟨T34, L34, c34, n34⟩, -, X34, ⟨Lc34, hQ34, l34, y34, z34⟩, st34⟩ := Jvm.LawKit.callS X33 hx (y := own_y5) hown (om hZ hw 20 rfl) (om hZ hw 21 rfl) (om hZ hw 22 rfl) (om hZ hw 23 rfl) (by decide) (backOf (W := 1) (own_rm4g l Z a0 hw (8 : Int32) ((((pc_.toUInt32 >>> ((8 : Int32) &&& 31).toUInt32).toInt32) &&& (7 : Int32)) + (((pc_.toUInt32 >>> ((11 : Int32) &&& 31).toUInt32).toInt32) &&& (7 : Int32))) cs fm u8 h33 n0 Z33 O33 HB) hZ (own_w hw 23 rfl) (own_w hw 22 rfl) (by decide) (by decide)) (g := (mkF m 286 #[vi pa, vl pw, .second, vi pd, vi pc_, vi st, vi ln, vr b1, vi mu, vi le, vi co, vi el, vi e0_, vi e1_, vi e2_, vr b27, .val (.int (((pc_.toUInt32 >>> ((8 : Int32) &&& 31).toUInt32).toInt32) &&& (7 : Int32))), .unset] [(.int ((((pc_.toUInt32 >>> ((8 : Int32) &&& 31).toUInt32).toInt32) &&& (7 : Int32)) + (((pc_.toUInt32 >>> ((11 : Int32) &&& 31).toUInt32).toInt32) &&& (7 : Int32)))), (.int 8), (.ref b27)])) rfl (by rw [hml]; rfl) (argsL := [(.int 8), (.int ((((pc_.toUInt32 >>> ((8 : Int32) &&& 31).toUInt32).toInt32) &&& (7 : Int32)) + (((pc_.toUInt32 >>> ((11 : Int32) &&& 31).toUInt32).toInt32) &&& (7 : Int32))))]) (rest := [(.ref b27)]) (lenOf own_pd3 rfl) rfl (by show 2 * 0 + _ ≤ _; exact Nat.le_of_eq rfl) (hb hby at_286) (fun _ _ => ⟨rfl, e33, (by decide : 2 + 0 ≤ _), (by decide : 14 + 0 ≤ _)⟩)
  dsimp only [Pt.U, Pt.locs, Pt.cells, Pt.slots] at X34 l34 y34 z34 st34 hQ34
  subst l34 y34 z34
  obtain ⟨h34, e34⟩ : ∃ z, T34.heap = z := ⟨_, rfl⟩
  rw [e34] at hQ34
  obtain ⟨re34, rfl, N34q, eq34⟩ := hQ34
  have N34 := Fr.app N33 N34q
  rw [eq34] at e34
  refine own_st (T' := T34) (g' := (mkF m 289 #[vi pa, vl pw, .second, vi pd, vi pc_, vi st, vi ln, vr b1, vi mu, vi le, vi co, vi el, vi e0_, vi e1_, vi e2_, vr b27, .val (.int (((pc_.toUInt32 >>> ((8 : Int32) &&& 31).toUInt32).toInt32) &&& (7 : Int32))), .unset] [(.int re34), (.ref b27)])) st34 ?_
  have f35 := ((D27 (Or.inl (own_w hw 25 rfl)) (ty := .int) (by decide) : Fld Z h27 b27 "com/example/dyadloom/dyadloom/core/TripletReader$Triplet" "rowEnd" "I" (.int 0)).other W30 (Or.inr (slot_ne (Or.inl (own_w hw 25 rfl)) (Or.inl (own_w hw 17 rfl)) (by decide) (t := .int) (t' := (.array .byte)) (by decide) (by decide)))).other W33 (Or.inr (slot_ne (Or.inl (own_w hw 25 rfl)) (Or.inl (own_w hw 19 rfl)) (by decide) (t := .int) (t' := .int) (by decide) (by decide)))
  have f36 := f32.wr W33
  obtain ⟨T37, h37, X37, e37, W37, st37⟩ := putF X34 hx hZ hown (host := "") (Or.inl (own_w hw 24 rfl)) Via.refl e34 f35 f36 (Or.inl (own_w hw 25 rfl)) (own_w hw 8 rfl) (ty := .int) (by decide) rfl rfl (g := (mkF m 289 #[vi pa, vl pw, .second, vi pd, vi pc_, vi st, vi ln, vr b1, vi mu, vi le, vi co, vi el, vi e0_, vi e1_, vi e2_, vr b27, .val (.int (((pc_.toUInt32 >>> ((8 : Int32) &&& 31).toUInt32).toInt32) &&& (7 : Int32))), .unset] [(.int re34), (.ref b27)])) rfl rfl (hb hby at_289)
  have N37 := Fr.snoc X37 N34 g_b27
  have K37 : Keep h0 h37 [] := K33.wr W37 (Or.inr hz_b27)
  have Z37 : n0 ≤ h37.size := Nat.le_trans Z33 (Keep.of_wr W37).1
  have O37 := O33.wr W37 g_b27
  have fw37 := (f35.same W37)
  refine own_st (T' := T37) (g' := (mkF m 292 #[vi pa, vl pw, .second, vi pd, vi pc_, vi st, vi ln, vr b1, vi mu, vi le, vi co, vi el, vi e0_, vi e1_, vi e2_, vr b27, .val (.int (((pc_.toUInt32 >>> ((8 : Int32) &&& 31).toUInt32).toInt32) &&& (7 : Int32))), .unset] [])) st37 ?_
  refine own_st (T' := T37) (g' := (mkF m 296 #[vi pa, vl pw, .second, vi pd, vi pc_, vi st, vi ln, vr b1, vi mu, vi le, vi co, vi el, vi e0_, vi e1_, vi e2_, vr b27, .val (.int (((pc_.toUInt32 >>> ((8 : Int32) &&& 31).toUInt32).toInt32) &&& (7 : Int32))), .unset] [(.int st), (.ref b27)])) (fun t k => ?_) ?_
  ·refine XS.aload X37.here hx rfl (hb hby at_292) rfl rfl ?_
   refine XS.iload X37.here hx rfl (hb hby at_294) rfl ?_
   exact k
  have f38 := (((D27 (Or.inl (own_w hw 27 rfl)) (ty := .int) (by decide) : Fld Z h27 b27 "com/example/dyadloom/dyadloom/core/TripletReader$Triplet" "columnStart" "I" (.int 0)).other W30 (Or.inr (slot_ne (Or.inl (own_w hw 27 rfl)) (Or.inl (own_w hw 17 rfl)) (by decide) (t := .int) (t' := (.array .byte)) (by decide) (by decide)))).other W33 (Or.inr (slot_ne (Or.inl (own_w hw 27 rfl)) (Or.inl (own_w hw 19 rfl)) (by decide) (t := .int) (t' := .int) (by decide) (by decide)))).other W37 (Or.inr (slot_ne (Or.inl (own_w hw 27 rfl)) (Or.inl (own_w hw 25 rfl)) (by decide) (t := .int) (t' := .int) (by decide) (by decide)))
  have f39 := f36.wr W37
  obtain ⟨T40, h40, X40, e40, W40, st40⟩ := putF X37 hx hZ hown (host := "") (Or.inl (own_w hw 26 rfl)) Via.refl e37 f38 f39 (Or.inl (own_w hw 27 rfl)) (own_w hw 8 rfl) (ty := .int) (by decide) rfl rfl (g := (mkF m 296 #[vi pa, vl pw, .second, vi pd, vi pc_, vi st, vi ln, vr b1, vi mu, vi le, vi co, vi el, vi e0_, vi e1_, vi e2_, vr b27, .val (.int (((pc_.toUInt32 >>> ((8 : Int32) &&& 31).toUInt32).toInt32) &&& (7 : Int32))), .unset] [(.int st), (.ref b27)])) rfl rfl (hb hby at_296)
  have N40 := Fr.snoc X40 N37 g_b27
  have K40 : Keep h0 h40 [] := K37.wr W40 (Or.inr hz_b27)
  have Z40 : n0 ≤ h40.size := Nat.le_trans Z37 (Keep.of_wr W40).1
  have O40 := O37.wr W40 g_b27
  have fw40 := (f38.same W40)
  refine own_st (T' := T40) (g' := (mkF m 299 #[vi pa, vl pw, .second, vi pd, vi pc_, vi st, vi ln, vr b1, vi mu, vi le, vi co, vi el, vi e0_, vi e1_, vi e2_, vr b27, .val (.int (((pc_.toUInt32 >>> ((8 : Int32) &&& 31).toUInt32).toInt32) &&& (7 : Int32))), .unset] [])) st40 ?_
  refine own_st (T' := T40) (g' := (mkF m 306 #[vi pa, vl pw, .second, vi pd, vi pc_, vi st, vi ln, vr b1, vi mu, vi le, vi co, vi el, vi e0_, vi e1_, vi e2_, vr b27, .val (.int (((pc_.toUInt32 >>> ((8 : Int32) &&& 31).toUInt32).toInt32) &&& (7 : Int32))), .unset] [(.int (st + ln)), (.ref b27)])) (fun t k => ?_) ?_
  ·refine XS.aload X40.here hx rfl (hb hby at_299) rfl rfl ?_
   refine XS.iload X40.here hx rfl (hb hby at_301) rfl ?_
   refine XS.iload X40.here hx rfl (hb hby at_303) rfl ?_
   refine XS.iadd X40.here hx rfl (hb hby at_305) rfl ?_
   exact k
  have f41 := ((((D27 (Or.inl (own_w hw 29 rfl)) (ty := .int) (by decide) : Fld Z h27 b27 "com/example/dyadloom/dyadloom/core/TripletReader$Triplet" "columnEnd" "I" (.int 0)).other W30 (Or.inr (slot_ne (Or.inl (own_w hw 29 rfl)) (Or.inl (own_w hw 17 rfl)) (by decide) (t := .int) (t' := (.array .byte)) (by decide) (by decide)))).other W33 (Or.inr (slot_ne (Or.inl (own_w hw 29 rfl)) (Or.inl (own_w hw 19 rfl)) (by decide) (t := .int) (t' := .int) (by decide) (by decide)))).other W37 (Or.inr (slot_ne (Or.inl (own_w hw 29 rfl)) (Or.inl (own_w hw 25 rfl)) (by decide) (t := .int) (t' := .int) (by decide) (by decide)))).other W40 (Or.inr (slot_ne (Or.inl (own_w hw 29 rfl)) (Or.inl (own_w hw 27 rfl)) (by decide) (t := .int) (t' := .int) (by decide) (by decide)))
  have f42 := f39.wr W40
  obtain ⟨T43, h43, X43, e43, W43, st43⟩ := putF X40 hx hZ hown (host := "") (Or.inl (own_w hw 28 rfl)) Via.refl e40 f41 f42 (Or.inl (own_w hw 29 rfl)) (own_w hw 8 rfl) (ty := .int) (by decide) rfl rfl (g := (mkF m 306 #[vi pa, vl pw, .second, vi pd, vi pc_, vi st, vi ln, vr b1, vi mu, vi le, vi co, vi el, vi e0_, vi e1_, vi e2_, vr b27, .val (.int (((pc_.toUInt32 >>> ((8 : Int32) &&& 31).toUInt32).toInt32) &&& (7 : Int32))), .unset] [(.int (st + ln)), (.ref b27)])) rfl rfl (hb hby at_306)
  have N43 := Fr.snoc X43 N40 g_b27
  have K43 : Keep h0 h43 [] := K40.wr W43 (Or.inr hz_b27)
  have Z43 : n0 ≤ h43.size := Nat.le_trans Z40 (Keep.of_wr W43).1
  have O43 := O40.wr W43 g_b27
  have fw43 := (f41.same W43)
  refine own_st (T' := T43) (g' := (mkF m 309 #[vi pa, vl pw, .second, vi pd, vi pc_, vi st, vi ln, vr b1, vi mu, vi le, vi co, vi el, vi e0_, vi e1_, vi e2_, vr b27, .val (.int (((pc_.toUInt32 >>> ((8 : Int32) &&& 31).toUInt32).toInt32) &&& (7 : Int32))), .unset] [])) st43 ?_
  rcases hcas with ⟨as0, as1, as2, hel, rfl, rfl, rfl⟩ | ⟨hl2, hle, hco, as2, hel, rfl, rfl, rfl⟩
  ·have ha0 := own_asc_n as0
   have ha1 := own_asc_n as1
   have ha2 := own_asc_n as2
   rcases hl3 with hq | hq | hq
   ·subst hq
    subst hel
    refine own_st (T' := T43) (g' := (mkF m 311 #[vi pa, vl pw, .second, vi pd, vi pc_, vi st, vi 1, vr b1, vi mu, vi le, vi co, vi 1, vi x0, vi x1, vi x2, vr b27, .val (.int (((pc_.toUInt32 >>> ((8 : Int32) &&& 31).toUInt32).toInt32) &&& (7 : Int32))), .unset] [(.ref b27)])) (fun t k => ?_) ?_
    ·refine XS.aload X43.here hx rfl (hb hby at_309) rfl rfl ?_
     exact k
    have f44 := f42.wr W43
    have f45 := (((fw30.other W33 (Or.inr (slot_ne (Or.inl (own_w hw 17 rfl)) (Or.inl (own_w hw 19 rfl)) (by decide) (t := (.array .byte)) (t' := .int) (by decide) (by decide)))).other W37 (Or.inr (slot_ne (Or.inl (own_w hw 17 rfl)) (Or.inl (own_w hw 25 rfl)) (by decide) (t := (.array .byte)) (t' := .int) (by decide) (by decide)))).other W40 (Or.inr (slot_ne (Or.inl (own_w hw 17 rfl)) (Or.inl (own_w hw 27 rfl)) (by decide) (t := (.array .byte)) (t' := .int) (by decide) (by decide)))).other W43 (Or.inr (slot_ne (Or.inl (own_w hw 17 rfl)) (Or.inl (own_w hw 29 rfl)) (by decide) (t := (.array .byte)) (t' := .int) (by decide) (by decide)))
    have f46 := fw40.other W43 (Or.inr (slot_ne (Or.inl (own_w hw 27 rfl)) (Or.inl (own_w hw 29 rfl)) (by decide) (t := .int) (t' := .int) (by decide) (by decide)))
    have f47 := (((((Vj.ext E27).other W30 ne_b1_b27).other W33 ne_b1_b27).other W37 ne_b1_b27).other W40 ne_b1_b27).other W43 ne_b1_b27
    obtain ⟨cq48, kq48, q48a, q48b, q48c⟩ := isOf hZ e43 f44
    obtain ⟨_, _, ⟨T48, L48, c48, n48⟩, -, X48, ⟨Lc48, hQ48, l48, y48, z48⟩, st48⟩ := X43.virtualBack hx (y := own_y23) (z := own_y23) hown (om hZ hw 30 rfl) (om hZ hw 31 rfl) (notFace_of_selects (args := #[]) (om hZ hw 33 rfl)) (om hZ hw 33 rfl) (om hZ hw 32 rfl) (by decide) (backOf (W := 0) (own_rm5a1 l Z a0 hw b27 b1 k1 y0 y1 y2 y3 y4 y5 y6 y7 st x0 x1 x2 cs fm u8 h43 n0 Z43 O43 f44 f45 f46 fw43 f47 ⟨ho, hx0, hx1, hx2⟩ ha0 HB) hZ (own_w hw 34 rfl) (own_w hw 9 rfl) (by decide) (by decide)) q48a q48c (g := (mkF m 311 #[vi pa, vl pw, .second, vi pd, vi pc_, vi st, vi 1, vr b1, vi mu, vi le, vi co, vi 1, vi x0, vi x1, vi x2, vr b27, .val (.int (((pc_.toUInt32 >>> ((8 : Int32) &&& 31).toUInt32).toInt32) &&& (7 : Int32))), .unset] [(.ref b27)])) rfl (by rw [hml]; rfl) (Steps.refl _) (argsL := []) (rest := []) (lenOf own_pd28 rfl) rfl (by show 2 * 0 + _ ≤ _; exact Nat.le_of_eq rfl) (hb hby at_311) (fun _ _ => ⟨rfl, e43, (by decide : 2 + 2 ≤ _), (by decide : 14 + 5 ≤ _)⟩)
    dsimp only [Pt.U, Pt.locs, Pt.cells, Pt.slots] at X48 l48 y48 z48 st48 hQ48
    subst l48 y48 z48
    obtain ⟨h48, e48⟩ : ∃ z, T48.heap = z := ⟨_, rfl⟩
    rw [e48] at hQ48
    obtain ⟨r48, t48, k48, rfl, N48q, Kc48, g48, hz48, Ec48, Fv48, Fo48, Vc48⟩ := hQ48
    have N48 := Fr.app N43 N48q
    have f49 := E_u8.ext O43.2
    have ne_u8_r48 : u8 ≠ r48 := Nat.ne_of_lt (Nat.lt_of_lt_of_le f49.lt hz48)
    have ne_b1_r48 : b1 ≠ r48 := Nat.ne_of_lt (Nat.lt_of_lt_of_le f47.lt hz48)
    have ne_b27_r48 : b27 ≠ r48 := Nat.ne_of_lt (Nat.lt_of_lt_of_le f44.lt hz48)
    have hwr48 : h0.size ≤ r48 := Nat.le_trans K43.1 hz48
    have K48 : Keep h0 h48 [] := K43.trans Kc48 all0
    have Z48 : n0 ≤ h48.size := Nat.le_trans Z43 Kc48.1
    have O48 := O43.keep Kc48 all0
    refine own_tr (T' := T48) (g' := (mkF m 314 #[vi pa, vl pw, .second, vi pd, vi pc_, vi st, vi 1, vr b1, vi mu, vi le, vi co, vi 1, vi x0, vi x1, vi x2, vr b27, .val (.int (((pc_.toUInt32 >>> ((8 : Int32) &&& 31).toUInt32).toInt32) &&& (7 : Int32))), .unset] [(.ref r48)])) st48 ?_
    refine own_st (T' := T48) (g' := (mkF m 318 #[vi pa, vl pw, .second, vi pd, vi pc_, vi st, vi 1, vr b1, vi mu, vi le, vi co, vi 1, vi x0, vi x1, vi x2, vr b27, .val (.int (((pc_.toUInt32 >>> ((8 : Int32) &&& 31).toUInt32).toInt32) &&& (7 : Int32))), vr r48] [(.ref r48)])) (fun t k => ?_) ?_
    ·refine XS.astore X48.here hx rfl (hb hby at_314) rfl rfl (l' := #[vi pa, vl pw, .second, vi pd, vi pc_, vi st, vi 1, vr b1, vi mu, vi le, vi co, vi 1, vi x0, vi x1, vi x2, vr b27, .val (.int (((pc_.toUInt32 >>> ((8 : Int32) &&& 31).toUInt32).toInt32) &&& (7 : Int32))), vr r48]) rfl ?_
     refine XS.aload X48.here hx rfl (hb hby at_316) rfl rfl ?_
     exact k
    obtain ⟨cq50, kq50, q50a, q50b, q50c⟩ := isOf hZ e48 Ec48
    obtain ⟨_, _, ⟨T50, L50, c50, n50⟩, -, X50, ⟨Lc50, hQ50, l50, y50, z50⟩, st50⟩ := X48.virtualBack hx (y := own_y26) (z := own_y26) hown (om hZ hw 91 rfl) (om hZ hw 92 rfl) (notFace_of_selects (args := #[]) (om hZ hw 94 rfl)) (om hZ hw 94 rfl) (om hZ hw 93 rfl) (by decide) (backOf (W := 0) (own_rm15_0_1 l Z a0 hw r48 t48 k48 x0 cs fm u8 h48 n0 Z48 O48 Ec48 Fv48 Fo48 Vc48 HB) hZ (own_w hw 95 rfl) (own_w hw 37 rfl) (by decide) (by decide)) q50a q50c (g := (mkF m 318 #[vi pa, vl pw, .second, vi pd, vi pc_, vi st, vi 1, vr b1, vi mu, vi le, vi co, vi 1, vi x0, vi x1, vi x2, vr b27, .val (.int (((pc_.toUInt32 >>> ((8 : Int32) &&& 31).toUInt32).toInt32) &&& (7 : Int32))), vr r48] [(.ref r48)])) rfl (by rw [hml]; rfl) (Steps.refl _) (argsL := []) (rest := []) (lenOf own_pd24 rfl) rfl (by show 2 * 0 + _ ≤ _; exact Nat.le_of_eq rfl) (hb hby at_318) (fun _ _ => ⟨rfl, e48, (by decide : 4 + 0 ≤ _), (by decide : 19 + 0 ≤ _)⟩)
    dsimp only [Pt.U, Pt.locs, Pt.cells, Pt.slots] at X50 l50 y50 z50 st50 hQ50
    subst l50 y50 z50
    obtain ⟨rfl, N50q, e50⟩ := hQ50
    have N50 := Fr.app N48 N50q
    refine own_tr (T' := T50) (g' := (mkF m 321 #[vi pa, vl pw, .second, vi pd, vi pc_, vi st, vi 1, vr b1, vi mu, vi le, vi co, vi 1, vi x0, vi x1, vi x2, vr b27, .val (.int (((pc_.toUInt32 >>> ((8 : Int32) &&& 31).toUInt32).toInt32) &&& (7 : Int32))), vr r48] [(.int 1)])) st50 ?_
    refine own_st (T' := T50) (g' := (mkF m 331 #[vi pa, vl pw, .second, vi pd, vi pc_, vi st, vi 1, vr b1, vi mu, vi le, vi co, vi 1, vi x0, vi x1, vi x2, vr b27, .val (.int (((pc_.toUInt32 >>> ((8 : Int32) &&& 31).toUInt32).toInt32) &&& (7 : Int32))), vr r48] [(.int x0), (.int 0), (.ref r48)])) (fun t k => ?_) ?_
    ·refine XS.iload X50.here hx rfl (hb hby at_321) rfl ?_
     refine XS.icmpNo X50.here hx rfl (hb hby at_323) rfl (teq (rfl : (1 : Int32) = (1 : Int32))).2 ?_
     refine XS.aload X50.here hx rfl (hb hby at_326) rfl rfl ?_
     refine XS.iconst X50.here hx rfl (hb hby at_328) ?_
     refine XS.iload X50.here hx rfl (hb hby at_329) rfl ?_
     exact k
    obtain ⟨_, _, ⟨T51, L51, c51, n51⟩, -, X51, ⟨Lc51, hQ51, l51, y51, z51⟩, st51⟩ := Jvm.LawKit.callS X50 hx (y := own_y32) hown (om hZ hw 101 rfl) (om hZ hw 102 rfl) (om hZ hw 4 rfl) (om hZ hw 103 rfl) (by decide) (backOf (W := 0) (own_rm17_0_1_0 l Z a0 hw r48 t48 k48 x0 x0 cs fm u8 h48 n0 Z48 O48 Ec48 Fv48 Fo48 Vc48 (own_eq_a as0) HB) hZ (own_w hw 103 rfl) (own_w hw 4 rfl) (by decide) (by decide)) (g := (mkF m 331 #[vi pa, vl pw, .second, vi pd, vi pc_, vi st, vi 1, vr b1, vi mu, vi le, vi co, vi 1, vi x0, vi x1, vi x2, vr b27, .val (.int (((pc_.toUInt32 >>> ((8 : Int32) &&& 31).toUInt32).toInt32) &&& (7 : Int32))), vr r48] [(.int x0), (.int 0), (.ref r48)])) rfl (by rw [hml]; rfl) (argsL := [(.ref r48), (.int 0), (.int x0)]) (rest := []) (lenOf own_pd29 rfl) rfl (by show 2 * 0 + _ ≤ _; exact Nat.le_of_eq rfl) (hb hby at_331) (fun _ _ => ⟨rfl, e50, (by decide : 4 + 0 ≤ _), (by decide : 19 + 0 ≤ _)⟩)
    dsimp only [Pt.U, Pt.locs, Pt.cells, Pt.slots] at X51 l51 y51 z51 st51 hQ51
    subst l51 y51 z51
    obtain ⟨rfl, N51q, e51⟩ := hQ51
    have N51 := Fr.app N50 N51q
    refine own_st (T' := T51) (g' := (mkF m 334 #[vi pa, vl pw, .second, vi pd, vi pc_, vi st, vi 1, vr b1, vi mu, vi le, vi co, vi 1, vi x0, vi x1, vi x2, vr b27, .val (.int (((pc_.toUInt32 >>> ((8 : Int32) &&& 31).toUInt32).toInt32) &&& (7 : Int32))), vr r48] [(.int 1)])) st51 ?_
    refine own_st (T' := T51) (g' := (mkF m 342 #[vi pa, vl pw, .second, vi pd, vi pc_, vi st, vi 1, vr b1, vi mu, vi le, vi co, vi 1, vi x0, vi x1, vi x2, vr b27, .val (.int (((pc_.toUInt32 >>> ((8 : Int32) &&& 31).toUInt32).toInt32) &&& (7 : Int32))), vr r48] [(.int x1), (.int 1), (.ref r48)])) (fun t k => ?_) ?_
    ·refine XS.ifNo X51.here hx rfl (hb hby at_334) rfl ((if0 _ _).trans (feq (by decide : ¬ ((1 : Int32) = (0 : Int32)))).1) ?_
     refine XS.aload X51.here hx rfl (hb hby at_337) rfl rfl ?_
     refine XS.iconst X51.here hx rfl (hb hby at_339) ?_
     refine XS.iload X51.here hx rfl (hb hby at_340) rfl ?_
     exact k
    obtain ⟨_, _, ⟨T52, L52, c52, n52⟩, -, X52, ⟨Lc52, hQ52, l52, y52, z52⟩, st52⟩ := Jvm.LawKit.callS X51 hx (y := own_y32) hown (om hZ hw 101 rfl) (om hZ hw 102 rfl) (om hZ hw 4 rfl) (om hZ hw 103 rfl) (by decide) (backOf (W := 0) (own_rm17_0_1_1 l Z a0 hw r48 t48 k48 x0 x1 cs fm u8 h48 n0 Z48 O48 Ec48 Fv48 Fo48 Vc48 HB) hZ (own_w hw 103 rfl) (own_w hw 4 rfl) (by decide) (by decide)) (g := (mkF m 342 #[vi pa, vl pw, .second, vi pd, vi pc_, vi st, vi 1, vr b1, vi mu, vi le, vi co, vi 1, vi x0, vi x1, vi x2, vr b27, .val (.int (((pc_.toUInt32 >>> ((8 : Int32) &&& 31).toUInt32).toInt32) &&& (7 : Int32))), vr r48] [(.int x1), (.int 1), (.ref r48)])) rfl (by rw [hml]; rfl) (argsL := [(.ref r48), (.int 1), (.int x1)]) (rest := []) (lenOf own_pd29 rfl) rfl (by show 2 * 0 + _ ≤ _; exact Nat.le_of_eq rfl) (hb hby at_342) (fun _ _ => ⟨rfl, e51, (by decide : 4 + 0 ≤ _), (by decide : 19 + 0 ≤ _)⟩)
    dsimp only [Pt.U, Pt.locs, Pt.cells, Pt.slots] at X52 l52 y52 z52 st52 hQ52
    subst l52 y52 z52
    obtain ⟨rfl, N52q, e52⟩ := hQ52
    have N52 := Fr.app N51 N52q
    refine own_st (T' := T52) (g' := (mkF m 345 #[vi pa, vl pw, .second, vi pd, vi pc_, vi st, vi 1, vr b1, vi mu, vi le, vi co, vi 1, vi x0, vi x1, vi x2, vr b27, .val (.int (((pc_.toUInt32 >>> ((8 : Int32) &&& 31).toUInt32).toInt32) &&& (7 : Int32))), vr r48] [(.int 1)])) st52 ?_
    refine own_st (T' := T52) (g' := (mkF m 353 #[vi pa, vl pw, .second, vi pd, vi pc_, vi st, vi 1, vr b1, vi mu, vi le, vi co, vi 1, vi x0, vi x1, vi x2, vr b27, .val (.int (((pc_.toUInt32 >>> ((8 : Int32) &&& 31).toUInt32).toInt32) &&& (7 : Int32))), vr r48] [(.int x2), (.int 2), (.ref r48)])) (fun t k => ?_) ?_
    ·refine XS.ifNo X52.here hx rfl (hb hby at_345) rfl ((if0 _ _).trans (feq (by decide : ¬ ((1 : Int32) = (0 : Int32)))).1) ?_
     refine XS.aload X52.here hx rfl (hb hby at_348) rfl rfl ?_
     refine XS.iconst X52.here hx rfl (hb hby at_350) ?_
     refine XS.iload X52.here hx rfl (hb hby at_351) rfl ?_
     exact k
    obtain ⟨_, _, ⟨T53, L53, c53, n53⟩, -, X53, ⟨Lc53, hQ53, l53, y53, z53⟩, st53⟩ := Jvm.LawKit.callS X52 hx (y := own_y32) hown (om hZ hw 101 rfl) (om hZ hw 102 rfl) (om hZ hw 4 rfl) (om hZ hw 103 rfl) (by decide) (backOf (W := 0) (own_rm17_0_1_2 l Z a0 hw r48 t48 k48 x0 x2 cs fm u8 h48 n0 Z48 O48 Ec48 Fv48 Fo48 Vc48 HB) hZ (own_w hw 103 rfl) (own_w hw 4 rfl) (by decide) (by decide)) (g := (mkF m 353 #[vi pa, vl pw, .second, vi pd, vi pc_, vi st, vi 1, vr b1, vi mu, vi le, vi co, vi 1, vi x0, vi x1, vi x2, vr b27, .val (.int (((pc_.toUInt32 >>> ((8 : Int32) &&& 31).toUInt32).toInt32) &&& (7 : Int32))), vr r48] [(.int x2), (.int 2), (.ref r48)])) rfl (by rw [hml]; rfl) (argsL := [(.ref r48), (.int 2), (.int x2)]) (rest := []) (lenOf own_pd29 rfl) rfl (by show 2 * 0 + _ ≤ _; exact Nat.le_of_eq rfl) (hb hby at_353) (fun _ _ => ⟨rfl, e52, (by decide : 4 + 0 ≤ _), (by decide : 19 + 0 ≤ _)⟩)
    dsimp only [Pt.U, Pt.locs, Pt.cells, Pt.slots] at X53 l53 y53 z53 st53 hQ53
    subst l53 y53 z53
    obtain ⟨rfl, N53q, e53⟩ := hQ53
    have N53 := Fr.app N52 N53q
    refine own_st (T' := T53) (g' := (mkF m 356 #[vi pa, vl pw, .second, vi pd, vi pc_, vi st, vi 1, vr b1, vi mu, vi le, vi co, vi 1, vi x0, vi x1, vi x2, vr b27, .val (.int (((pc_.toUInt32 >>> ((8 : Int32) &&& 31).toUInt32).toInt32) &&& (7 : Int32))), vr r48] [(.int 1)])) st53 ?_
    refine own_st (T' := T53) (g' := (mkF m 364 #[vi pa, vl pw, .second, vi pd, vi pc_, vi st, vi 1, vr b1, vi mu, vi le, vi co, vi 1, vi x0, vi x1, vi x2, vr b27, .val (.int (((pc_.toUInt32 >>> ((8 : Int32) &&& 31).toUInt32).toInt32) &&& (7 : Int32))), vr r48] [(.int 1)])) (fun t k => ?_) ?_
    ·refine XS.ifNo X53.here hx rfl (hb hby at_356) rfl ((if0 _ _).trans (feq (by decide : ¬ ((1 : Int32) = (0 : Int32)))).1) ?_
     refine XS.iconst X53.here hx rfl (hb hby at_359) ?_
     refine XS.goto X53.here hx rfl (pc0 := 360) (pc' := 364) rfl (hb hby at_360) (by decide) (by decide) ?_
     exact k
    exact own_retN X53 hx Bd (t := .boolean) (by simp) rfl (hb hby at_364) e53 (⟨rfl, N53⟩) (by decide) (by decide)
   ·subst hq
    subst hel
    refine own_st (T' := T43) (g' := (mkF m 311 #[vi pa, vl pw, .second, vi pd, vi pc_, vi st, vi 2, vr b1, vi mu, vi le, vi co, vi 2, vi x0, vi x1, vi x2, vr b27, .val (.int (((pc_.toUInt32 >>> ((8 : Int32) &&& 31).toUInt32).toInt32) &&& (7 : Int32))), .unset] [(.ref b27)])) (fun t k => ?_) ?_
    ·refine XS.aload X43.here hx rfl (hb hby at_309) rfl rfl ?_
     exact k
    have f54 := f42.wr W43
    have f55 := (((fw30.other W33 (Or.inr (slot_ne (Or.inl (own_w hw 17 rfl)) (Or.inl (own_w hw 19 rfl)) (by decide) (t := (.array .byte)) (t' := .int) (by decide) (by decide)))).other W37 (Or.inr (slot_ne (Or.inl (own_w hw 17 rfl)) (Or.inl (own_w hw 25 rfl)) (by decide) (t := (.array .byte)) (t' := .int) (by decide) (by decide)))).other W40 (Or.inr (slot_ne (Or.inl (own_w hw 17 rfl)) (Or.inl (own_w hw 27 rfl)) (by decide) (t := (.array .byte)) (t' := .int) (by decide) (by decide)))).other W43 (Or.inr (slot_ne (Or.inl (own_w hw 17 rfl)) (Or.inl (own_w hw 29 rfl)) (by decide) (t := (.array .byte)) (t' := .int) (by decide) (by decide)))
    have f56 := fw40.other W43 (Or.inr (slot_ne (Or.inl (own_w hw 27 rfl)) (Or.inl (own_w hw 29 rfl)) (by decide) (t := .int) (t' := .int) (by decide) (by decide)))
    have f57 := (((((Vj.ext E27).other W30 ne_b1_b27).other W33 ne_b1_b27).other W37 ne_b1_b27).other W40 ne_b1_b27).other W43 ne_b1_b27
    obtain ⟨cq58, kq58, q58a, q58b, q58c⟩ := isOf hZ e43 f54
    obtain ⟨_, _, ⟨T58, L58, c58, n58⟩, -, X58, ⟨Lc58, hQ58, l58, y58, z58⟩, st58⟩ := X43.virtualBack hx (y := own_y23) (z := own_y23) hown (om hZ hw 30 rfl) (om hZ hw 31 rfl) (notFace_of_selects (args := #[]) (om hZ hw 33 rfl)) (om hZ hw 33 rfl) (om hZ hw 32 rfl) (by decide) (backOf (W := 0) (own_rm5a2 l Z a0 hw b27 b1 k1 y0 y1 y2 y3 y4 y5 y6 y7 st x0 x1 x2 cs fm u8 h43 n0 Z43 O43 f54 f55 f56 fw43 f57 ⟨ho, hx0, hx1, hx2⟩ ha0 ha1 HB) hZ (own_w hw 34 rfl) (own_w hw 9 rfl) (by decide) (by decide)) q58a q58c (g := (mkF m 311 #[vi pa, vl pw, .second, vi pd, vi pc_, vi st, vi 2, vr b1, vi mu, vi le, vi co, vi 2, vi x0, vi x1, vi x2, vr b27, .val (.int (((pc_.toUInt32 >>> ((8 : Int32) &&& 31).toUInt32).toInt32) &&& (7 : Int32))), .unset] [(.ref b27)])) rfl (by rw [hml]; rfl) (Steps.refl _) (argsL := []) (rest := []) (lenOf own_pd28 rfl) rfl (by show 2 * 0 + _ ≤ _; exact Nat.le_of_eq rfl) (hb hby at_311) (fun _ _ => ⟨rfl, e43, (by decide : 2 + 2 ≤ _), (by decide : 14 + 6 ≤ _)⟩)
    dsimp only [Pt.U, Pt.locs, Pt.cells, Pt.slots] at X58 l58 y58 z58 st58 hQ58
    subst l58 y58 z58
    obtain ⟨h58, e58⟩ : ∃ z, T58.heap = z := ⟨_, rfl⟩
    rw [e58] at hQ58
    obtain ⟨r58, t58, k58, rfl, N58q, Kc58, g58, hz58, Ec58, Fv58, Fo58, Vc58⟩ := hQ58
    have N58 := Fr.app N43 N58q
    have f59 := E_u8.ext O43.2
    have ne_u8_r58 : u8 ≠ r58 := Nat.ne_of_lt (Nat.lt_of_lt_of_le f59.lt hz58)
    have ne_b1_r58 : b1 ≠ r58 := Nat.ne_of_lt (Nat.lt_of_lt_of_le f57.lt hz58)
    have ne_b27_r58 : b27 ≠ r58 := Nat.ne_of_lt (Nat.lt_of_lt_of_le f54.lt hz58)
    have hwr58 : h0.size ≤ r58 := Nat.le_trans K43.1 hz58
    have K58 : Keep h0 h58 [] := K43.trans Kc58 all0
    have Z58 : n0 ≤ h58.size := Nat.le_trans Z43 Kc58.1
    have O58 := O43.keep Kc58 all0
    refine own_tr (T' := T58) (g' := (mkF m 314 #[vi pa, vl pw, .second, vi pd, vi pc_, vi st, vi 2, vr b1, vi mu, vi le, vi co, vi 2, vi x0, vi x1, vi x2, vr b27, .val (.int (((pc_.toUInt32 >>> ((8 : Int32) &&& 31).toUInt32).toInt32) &&& (7 : Int32))), .unset] [(.ref r58)])) st58 ?_
    refine own_st (T' := T58) (g' := (mkF m 318 #[vi pa, vl pw, .second, vi pd, vi pc_, vi st, vi 2, vr b1, vi mu, vi le, vi co, vi 2, vi x0, vi x1, vi x2, vr b27, .val (.int (((pc_.toUInt32 >>> ((8 : Int32) &&& 31).toUInt32).toInt32) &&& (7 : Int32))), vr r58] [(.ref r58)])) (fun t k => ?_) ?_
    ·refine XS.astore X58.here hx rfl (hb hby at_314) rfl rfl (l' := #[vi pa, vl pw, .second, vi pd, vi pc_, vi st, vi 2, vr b1, vi mu, vi le, vi co, vi 2, vi x0, vi x1, vi x2, vr b27, .val (.int (((pc_.toUInt32 >>> ((8 : Int32) &&& 31).toUInt32).toInt32) &&& (7 : Int32))), vr r58]) rfl ?_
     refine XS.aload X58.here hx rfl (hb hby at_316) rfl rfl ?_
     exact k
    obtain ⟨cq60, kq60, q60a, q60b, q60c⟩ := isOf hZ e58 Ec58
    obtain ⟨_, _, ⟨T60, L60, c60, n60⟩, -, X60, ⟨Lc60, hQ60, l60, y60, z60⟩, st60⟩ := X58.virtualBack hx (y := own_y26) (z := own_y26) hown (om hZ hw 91 rfl) (om hZ hw 92 rfl) (notFace_of_selects (args := #[]) (om hZ hw 94 rfl)) (om hZ hw 94 rfl) (om hZ hw 93 rfl) (by decide) (backOf (W := 0) (own_rm15_0_2 l Z a0 hw r58 t58 k58 x0 x1 cs fm u8 h58 n0 Z58 O58 Ec58 Fv58 Fo58 Vc58 HB) hZ (own_w hw 95 rfl) (own_w hw 37 rfl) (by decide) (by decide)) q60a q60c (g := (mkF m 318 #[vi pa, vl pw, .second, vi pd, vi pc_, vi st, vi 2, vr b1, vi mu, vi le, vi co, vi 2, vi x0, vi x1, vi x2, vr b27, .val (.int (((pc_.toUInt32 >>> ((8 : Int32) &&& 31).toUInt32).toInt32) &&& (7 : Int32))), vr r58] [(.ref r58)])) rfl (by rw [hml]; rfl) (Steps.refl _) (argsL := []) (rest := []) (lenOf own_pd24 rfl) rfl (by show 2 * 0 + _ ≤ _; exact Nat.le_of_eq rfl) (hb hby at_318) (fun _ _ => ⟨rfl, e58, (by decide : 4 + 0 ≤ _), (by decide : 20 + 0 ≤ _)⟩)
    dsimp only [Pt.U, Pt.locs, Pt.cells, Pt.slots] at X60 l60 y60 z60 st60 hQ60
    subst l60 y60 z60
    obtain ⟨rfl, N60q, e60⟩ := hQ60
    have N60 := Fr.app N58 N60q
    refine own_tr (T' := T60) (g' := (mkF m 321 #[vi pa, vl pw, .second, vi pd, vi pc_, vi st, vi 2, vr b1, vi mu, vi le, vi co, vi 2, vi x0, vi x1, vi x2, vr b27, .val (.int (((pc_.toUInt32 >>> ((8 : Int32) &&& 31).toUInt32).toInt32) &&& (7 : Int32))), vr r58] [(.int 2)])) st60 ?_
    refine own_st (T' := T60) (g' := (mkF m 331 #[vi pa, vl pw, .second, vi pd, vi pc_, vi st, vi 2, vr b1, vi mu, vi le, vi co, vi 2, vi x0, vi x1, vi x2, vr b27, .val (.int (((pc_.toUInt32 >>> ((8 : Int32) &&& 31).toUInt32).toInt32) &&& (7 : Int32))), vr r58] [(.int x0), (.int 0), (.ref r58)])) (fun t k => ?_) ?_
    ·refine XS.iload X60.here hx rfl (hb hby at_321) rfl ?_
     refine XS.icmpNo X60.here hx rfl (hb hby at_323) rfl (teq (rfl : (2 : Int32) = (2 : Int32))).2 ?_
     refine XS.aload X60.here hx rfl (hb hby at_326) rfl rfl ?_
     refine XS.iconst X60.here hx rfl (hb hby at_328) ?_
     refine XS.iload X60.here hx rfl (hb hby at_329) rfl ?_
     exact k
    obtain ⟨_, _, ⟨T61, L61, c61, n61⟩, -, X61, ⟨Lc61, hQ61, l61, y61, z61⟩, st61⟩ := Jvm.LawKit.callS X60 hx (y := own_y32) hown (om hZ hw 101 rfl) (om hZ hw 102 rfl) (om hZ hw 4 rfl) (om hZ hw 103 rfl) (by decide) (backOf (W := 0) (own_rm17_0_2_0 l Z a0 hw r58 t58 k58 x0 x1 x0 cs fm u8 h58 n0 Z58 O58 Ec58 Fv58 Fo58 Vc58 (own_eq_a as0) HB) hZ (own_w hw 103 rfl) (own_w hw 4 rfl) (by decide) (by decide)) (g := (mkF m 331 #[vi pa, vl pw, .second, vi pd, vi pc_, vi st, vi 2, vr b1, vi mu, vi le, vi co, vi 2, vi x0, vi x1, vi x2, vr b27, .val (.int (((pc_.toUInt32 >>> ((8 : Int32) &&& 31).toUInt32).toInt32) &&& (7 : Int32))), vr r58] [(.int x0), (.int 0), (.ref r58)])) rfl (by rw [hml]; rfl) (argsL := [(.ref r58), (.int 0), (.int x0)]) (rest := []) (lenOf own_pd29 rfl) rfl (by show 2 * 0 + _ ≤ _; exact Nat.le_of_eq rfl) (hb hby at_331) (fun _ _ => ⟨rfl, e60, (by decide : 4 + 0 ≤ _), (by decide : 20 + 0 ≤ _)⟩)
    dsimp only [Pt.U, Pt.locs, Pt.cells, Pt.slots] at X61 l61 y61 z61 st61 hQ61
    subst l61 y61 z61
    obtain ⟨rfl, N61q, e61⟩ := hQ61
    have N61 := Fr.app N60 N61q
    refine own_st (T' := T61) (g' := (mkF m 334 #[vi pa, vl pw, .second, vi pd, vi pc_, vi st, vi 2, vr b1, vi mu, vi le, vi co, vi 2, vi x0, vi x1, vi x2, vr b27, .val (.int (((pc_.toUInt32 >>> ((8 : Int32) &&& 31).toUInt32).toInt32) &&& (7 : Int32))), vr r58] [(.int 1)])) st61 ?_
    refine own_st (T' := T61) (g' := (mkF m 342 #[vi pa, vl pw, .second, vi pd, vi pc_, vi st, vi 2, vr b1, vi mu, vi le, vi co, vi 2, vi x0, vi x1, vi x2, vr b27, .val (.int (((pc_.toUInt32 >>> ((8 : Int32) &&& 31).toUInt32).toInt32) &&& (7 : Int32))), vr r58] [(.int x1), (.int 1), (.ref r58)])) (fun t k => ?_) ?_
    ·refine XS.ifNo X61.here hx rfl (hb hby at_334) rfl ((if0 _ _).trans (feq (by decide : ¬ ((1 : Int32) = (0 : Int32)))).1) ?_
     refine XS.aload X61.here hx rfl (hb hby at_337) rfl rfl ?_
     refine XS.iconst X61.here hx rfl (hb hby at_339) ?_
     refine XS.iload X61.here hx rfl (hb hby at_340) rfl ?_
     exact k
    obtain ⟨_, _, ⟨T62, L62, c62, n62⟩, -, X62, ⟨Lc62, hQ62, l62, y62, z62⟩, st62⟩ := Jvm.LawKit.callS X61 hx (y := own_y32) hown (om hZ hw 101 rfl) (om hZ hw 102 rfl) (om hZ hw 4 rfl) (om hZ hw 103 rfl) (by decide) (backOf (W := 0) (own_rm17_0_2_1 l Z a0 hw r58 t58 k58 x0 x1 x1 cs fm u8 h58 n0 Z58 O58 Ec58 Fv58 Fo58 Vc58 (own_eq_a as1) HB) hZ (own_w hw 103 rfl) (own_w hw 4 rfl) (by decide) (by decide)) (g := (mkF m 342 #[vi pa, vl pw, .second, vi pd, vi pc_, vi st, vi 2, vr b1, vi mu, vi le, vi co, vi 2, vi x0, vi x1, vi x2, vr b27, .val (.int (((pc_.toUInt32 >>> ((8 : Int32) &&& 31).toUInt32).toInt32) &&& (7 : Int32))), vr r58] [(.int x1), (.int 1), (.ref r58)])) rfl (by rw [hml]; rfl) (argsL := [(.ref r58), (.int 1), (.int x1)]) (rest := []) (lenOf own_pd29 rfl) rfl (by show 2 * 0 + _ ≤ _; exact Nat.le_of_eq rfl) (hb hby at_342) (fun _ _ => ⟨rfl, e61, (by decide : 4 + 0 ≤ _), (by decide : 20 + 0 ≤ _)⟩)
    dsimp only [Pt.U, Pt.locs, Pt.cells, Pt.slots] at X62 l62 y62 z62 st62 hQ62
    subst l62 y62 z62
    obtain ⟨rfl, N62q, e62⟩ := hQ62
    have N62 := Fr.app N61 N62q
    refine own_st (T' := T62) (g' := (mkF m 345 #[vi pa, vl pw, .second, vi pd, vi pc_, vi st, vi 2, vr b1, vi mu, vi le, vi co, vi 2, vi x0, vi x1, vi x2, vr b27, .val (.int (((pc_.toUInt32 >>> ((8 : Int32) &&& 31).toUInt32).toInt32) &&& (7 : Int32))), vr r58] [(.int 1)])) st62 ?_
    refine own_st (T' := T62) (g' := (mkF m 353 #[vi pa, vl pw, .second, vi pd, vi pc_, vi st, vi 2, vr b1, vi mu, vi le, vi co, vi 2, vi x0, vi x1, vi x2, vr b27, .val (.int (((pc_.toUInt32 >>> ((8 : Int32) &&& 31).toUInt32).toInt32) &&& (7 : Int32))), vr r58] [(.int x2), (.int 2), (.ref r58)])) (fun t k => ?_) ?_
    ·refine XS.ifNo X62.here hx rfl (hb hby at_345) rfl ((if0 _ _).trans (feq (by decide : ¬ ((1 : Int32) = (0 : Int32)))).1) ?_
     refine XS.aload X62.here hx rfl (hb hby at_348) rfl rfl ?_
     refine XS.iconst X62.here hx rfl (hb hby at_350) ?_
     refine XS.iload X62.here hx rfl (hb hby at_351) rfl ?_
     exact k
    obtain ⟨_, _, ⟨T63, L63, c63, n63⟩, -, X63, ⟨Lc63, hQ63, l63, y63, z63⟩, st63⟩ := Jvm.LawKit.callS X62 hx (y := own_y32) hown (om hZ hw 101 rfl) (om hZ hw 102 rfl) (om hZ hw 4 rfl) (om hZ hw 103 rfl) (by decide) (backOf (W := 0) (own_rm17_0_2_2 l Z a0 hw r58 t58 k58 x0 x1 x2 cs fm u8 h58 n0 Z58 O58 Ec58 Fv58 Fo58 Vc58 HB) hZ (own_w hw 103 rfl) (own_w hw 4 rfl) (by decide) (by decide)) (g := (mkF m 353 #[vi pa, vl pw, .second, vi pd, vi pc_, vi st, vi 2, vr b1, vi mu, vi le, vi co, vi 2, vi x0, vi x1, vi x2, vr b27, .val (.int (((pc_.toUInt32 >>> ((8 : Int32) &&& 31).toUInt32).toInt32) &&& (7 : Int32))), vr r58] [(.int x2), (.int 2), (.ref r58)])) rfl (by rw [hml]; rfl) (argsL := [(.ref r58), (.int 2), (.int x2)]) (rest := []) (lenOf own_pd29 rfl) rfl (by show 2 * 0 + _ ≤ _; exact Nat.le_of_eq rfl) (hb hby at_353) (fun _ _ => ⟨rfl, e62, (by decide : 4 + 0 ≤ _), (by decide : 20 + 0 ≤ _)⟩)
    dsimp only [Pt.U, Pt.locs, Pt.cells, Pt.slots] at X63 l63 y63 z63 st63 hQ63
    subst l63 y63 z63
    obtain ⟨rfl, N63q, e63⟩ := hQ63
    have N63 := Fr.app N62 N63q
    refine own_st (T' := T63) (g' := (mkF m 356 #[vi pa, vl pw, .second, vi pd, vi pc_, vi st, vi 2, vr b1, vi mu, vi le, vi co, vi 2, vi x0, vi x1, vi x2, vr b27, .val (.int (((pc_.toUInt32 >>> ((8 : Int32) &&& 31).toUInt32).toInt32) &&& (7 : Int32))), vr r58] [(.int 1)])) st63 ?_
    refine own_st (T' := T63) (g' := (mkF m 364 #[vi pa, vl pw, .second, vi pd, vi pc_, vi st, vi 2, vr b1, vi mu, vi le, vi co, vi 2, vi x0, vi x1, vi x2, vr b27, .val (.int (((pc_.toUInt32 >>> ((8 : Int32) &&& 31).toUInt32).toInt32) &&& (7 : Int32))), vr r58] [(.int 1)])) (fun t k => ?_) ?_
    ·refine XS.ifNo X63.here hx rfl (hb hby at_356) rfl ((if0 _ _).trans (feq (by decide : ¬ ((1 : Int32) = (0 : Int32)))).1) ?_
     refine XS.iconst X63.here hx rfl (hb hby at_359) ?_
     refine XS.goto X63.here hx rfl (pc0 := 360) (pc' := 364) rfl (hb hby at_360) (by decide) (by decide) ?_
     exact k
    exact own_retN X63 hx Bd (t := .boolean) (by simp) rfl (hb hby at_364) e63 (⟨rfl, N63⟩) (by decide) (by decide)
   ·subst hq
    subst hel
    refine own_st (T' := T43) (g' := (mkF m 311 #[vi pa, vl pw, .second, vi pd, vi pc_, vi st, vi 3, vr b1, vi mu, vi le, vi co, vi 3, vi x0, vi x1, vi x2, vr b27, .val (.int (((pc_.toUInt32 >>> ((8 : Int32) &&& 31).toUInt32).toInt32) &&& (7 : Int32))), .unset] [(.ref b27)])) (fun t k => ?_) ?_
    ·refine XS.aload X43.here hx rfl (hb hby at_309) rfl rfl ?_
     exact k
    have f64 := f42.wr W43
    have f65 := (((fw30.other W33 (Or.inr (slot_ne (Or.inl (own_w hw 17 rfl)) (Or.inl (own_w hw 19 rfl)) (by decide) (t := (.array .byte)) (t' := .int) (by decide) (by decide)))).other W37 (Or.inr (slot_ne (Or.inl (own_w hw 17 rfl)) (Or.inl (own_w hw 25 rfl)) (by decide) (t := (.array .byte)) (t' := .int) (by decide) (by decide)))).other W40 (Or.inr (slot_ne (Or.inl (own_w hw 17 rfl)) (Or.inl (own_w hw 27 rfl)) (by decide) (t := (.array .byte)) (t' := .int) (by decide) (by decide)))).other W43 (Or.inr (slot_ne (Or.inl (own_w hw 17 rfl)) (Or.inl (own_w hw 29 rfl)) (by decide) (t := (.array .byte)) (t' := .int) (by decide) (by decide)))
    have f66 := fw40.other W43 (Or.inr (slot_ne (Or.inl (own_w hw 27 rfl)) (Or.inl (own_w hw 29 rfl)) (by decide) (t := .int) (t' := .int) (by decide) (by decide)))
    have f67 := (((((Vj.ext E27).other W30 ne_b1_b27).other W33 ne_b1_b27).other W37 ne_b1_b27).other W40 ne_b1_b27).other W43 ne_b1_b27
    obtain ⟨cq68, kq68, q68a, q68b, q68c⟩ := isOf hZ e43 f64
    obtain ⟨_, _, ⟨T68, L68, c68, n68⟩, -, X68, ⟨Lc68, hQ68, l68, y68, z68⟩, st68⟩ := X43.virtualBack hx (y := own_y23) (z := own_y23) hown (om hZ hw 30 rfl) (om hZ hw 31 rfl) (notFace_of_selects (args := #[]) (om hZ hw 33 rfl)) (om hZ hw 33 rfl) (om hZ hw 32 rfl) (by decide) (backOf (W := 0) (own_rm5a3 l Z a0 hw b27 b1 k1 y0 y1 y2 y3 y4 y5 y6 y7 st x0 x1 x2 cs fm u8 h43 n0 Z43 O43 f64 f65 f66 fw43 f67 ⟨ho, hx0, hx1, hx2⟩ ha0 ha1 ha2 HB) hZ (own_w hw 34 rfl) (own_w hw 9 rfl) (by decide) (by decide)) q68a q68c (g := (mkF m 311 #[vi pa, vl pw, .second, vi pd, vi pc_, vi st, vi 3, vr b1, vi mu, vi le, vi co, vi 3, vi x0, vi x1, vi x2, vr b27, .val (.int (((pc_.toUInt32 >>> ((8 : Int32) &&& 31).toUInt32).toInt32) &&& (7 : Int32))), .unset] [(.ref b27)])) rfl (by rw [hml]; rfl) (Steps.refl _) (argsL := []) (rest := []) (lenOf own_pd28 rfl) rfl (by show 2 * 0 + _ ≤ _; exact Nat.le_of_eq rfl) (hb hby at_311) (fun _ _ => ⟨rfl, e43, (by decide : 2 + 2 ≤ _), (by decide : 14 + 7 ≤ _)⟩)
    dsimp only [Pt.U, Pt.locs, Pt.cells, Pt.slots] at X68 l68 y68 z68 st68 hQ68
    subst l68 y68 z68
    obtain ⟨h68, e68⟩ : ∃ z, T68.heap = z := ⟨_, rfl⟩
    rw [e68] at hQ68
    obtain ⟨r68, t68, k68, rfl, N68q, Kc68, g68, hz68, Ec68, Fv68, Fo68, Vc68⟩ := hQ68
    have N68 := Fr.app N43 N68q
    have f69 := E_u8.ext O43.2
    have ne_u8_r68 : u8 ≠ r68 := Nat.ne_of_lt (Nat.lt_of_lt_of_le f69.lt hz68)
    have ne_b1_r68 : b1 ≠ r68 := Nat.ne_of_lt (Nat.lt_of_lt_of_le f67.lt hz68)
    have ne_b27_r68 : b27 ≠ r68 := Nat.ne_of_lt (Nat.lt_of_lt_of_le f64.lt hz68)
    have hwr68 : h0.size ≤ r68 := Nat.le_trans K43.1 hz68
    have K68 : Keep h0 h68 [] := K43.trans Kc68 all0
    have Z68 : n0 ≤ h68.size := Nat.le_trans Z43 Kc68.1
    have O68 := O43.keep Kc68 all0
    refine own_tr (T' := T68) (g' := (mkF m 314 #[vi pa, vl pw, .second, vi pd, vi pc_, vi st, vi 3, vr b1, vi mu, vi le, vi co, vi 3, vi x0, vi x1, vi x2, vr b27, .val (.int (((pc_.toUInt32 >>> ((8 : Int32) &&& 31).toUInt32).toInt32) &&& (7 : Int32))), .unset] [(.ref r68)])) st68 ?_
    refine own_st (T' := T68) (g' := (mkF m 318 #[vi pa, vl pw, .second, vi pd, vi pc_, vi st, vi 3, vr b1, vi mu, vi le, vi co, vi 3, vi x0, vi x1, vi x2, vr b27, .val (.int (((pc_.toUInt32 >>> ((8 : Int32) &&& 31).toUInt32).toInt32) &&& (7 : Int32))), vr r68] [(.ref r68)])) (fun t k => ?_) ?_
    ·refine XS.astore X68.here hx rfl (hb hby at_314) rfl rfl (l' := #[vi pa, vl pw, .second, vi pd, vi pc_, vi st, vi 3, vr b1, vi mu, vi le, vi co, vi 3, vi x0, vi x1, vi x2, vr b27, .val (.int (((pc_.toUInt32 >>> ((8 : Int32) &&& 31).toUInt32).toInt32) &&& (7 : Int32))), vr r68]) rfl ?_
     refine XS.aload X68.here hx rfl (hb hby at_316) rfl rfl ?_
     exact k
    obtain ⟨cq70, kq70, q70a, q70b, q70c⟩ := isOf hZ e68 Ec68
    obtain ⟨_, _, ⟨T70, L70, c70, n70⟩, -, X70, ⟨Lc70, hQ70, l70, y70, z70⟩, st70⟩ := X68.virtualBack hx (y := own_y26) (z := own_y26) hown (om hZ hw 91 rfl) (om hZ hw 92 rfl) (notFace_of_selects (args := #[]) (om hZ hw 94 rfl)) (om hZ hw 94 rfl) (om hZ hw 93 rfl) (by decide) (backOf (W := 0) (own_rm15_0_3 l Z a0 hw r68 t68 k68 x0 x1 x2 cs fm u8 h68 n0 Z68 O68 Ec68 Fv68 Fo68 Vc68 HB) hZ (own_w hw 95 rfl) (own_w hw 37 rfl) (by decide) (by decide)) q70a q70c (g := (mkF m 318 #[vi pa, vl pw, .second, vi pd, vi pc_, vi st, vi 3, vr b1, vi mu, vi le, vi co, vi 3, vi x0, vi x1, vi x2, vr b27, .val (.int (((pc_.toUInt32 >>> ((8 : Int32) &&& 31).toUInt32).toInt32) &&& (7 : Int32))), vr r68] [(.ref r68)])) rfl (by rw [hml]; rfl) (Steps.refl _) (argsL := []) (rest := []) (lenOf own_pd24 rfl) rfl (by show 2 * 0 + _ ≤ _; exact Nat.le_of_eq rfl) (hb hby at_318) (fun _ _ => ⟨rfl, e68, (by decide : 4 + 0 ≤ _), (by decide : 21 + 0 ≤ _)⟩)
    dsimp only [Pt.U, Pt.locs, Pt.cells, Pt.slots] at X70 l70 y70 z70 st70 hQ70
    subst l70 y70 z70
    obtain ⟨rfl, N70q, e70⟩ := hQ70
    have N70 := Fr.app N68 N70q
    refine own_tr (T' := T70) (g' := (mkF m 321 #[vi pa, vl pw, .second, vi pd, vi pc_, vi st, vi 3, vr b1, vi mu, vi le, vi co, vi 3, vi x0, vi x1, vi x2, vr b27, .val (.int (((pc_.toUInt32 >>> ((8 : Int32) &&& 31).toUInt32).toInt32) &&& (7 : Int32))), vr r68] [(.int 3)])) st70 ?_
    refine own_st (T' := T70) (g' := (mkF m 331 #[vi pa, vl pw, .second, vi pd, vi pc_, vi st, vi 3, vr b1, vi mu, vi le, vi co, vi 3, vi x0, vi x1, vi x2, vr b27, .val (.int (((pc_.toUInt32 >>> ((8 : Int32) &&& 31).toUInt32).toInt32) &&& (7 : Int32))), vr r68] [(.int x0), (.int 0), (.ref r68)])) (fun t k => ?_) ?_
    ·refine XS.iload X70.here hx rfl (hb hby at_321) rfl ?_
     refine XS.icmpNo X70.here hx rfl (hb hby at_323) rfl (teq (rfl : (3 : Int32) = (3 : Int32))).2 ?_
     refine XS.aload X70.here hx rfl (hb hby at_326) rfl rfl ?_
     refine XS.iconst X70.here hx rfl (hb hby at_328) ?_
     refine XS.iload X70.here hx rfl (hb hby at_329) rfl ?_
     exact k
    obtain ⟨_, _, ⟨T71, L71, c71, n71⟩, -, X71, ⟨Lc71, hQ71, l71, y71, z71⟩, st71⟩ := Jvm.LawKit.callS X70 hx (y := own_y32) hown (om hZ hw 101 rfl) (om hZ hw 102 rfl) (om hZ hw 4 rfl) (om hZ hw 103 rfl) (by decide) (backOf (W := 0) (own_rm17_0_3_0 l Z a0 hw r68 t68 k68 x0 x1 x2 x0 cs fm u8 h68 n0 Z68 O68 Ec68 Fv68 Fo68 Vc68 (own_eq_a as0) HB) hZ (own_w hw 103 rfl) (own_w hw 4 rfl) (by decide) (by decide)) (g := (mkF m 331 #[vi pa, vl pw, .second, vi pd, vi pc_, vi st, vi 3, vr b1, vi mu, vi le, vi co, vi 3, vi x0, vi x1, vi x2, vr b27, .val (.int (((pc_.toUInt32 >>> ((8 : Int32) &&& 31).toUInt32).toInt32) &&& (7 : Int32))), vr r68] [(.int x0), (.int 0), (.ref r68)])) rfl (by rw [hml]; rfl) (argsL := [(.ref r68), (.int 0), (.int x0)]) (rest := []) (lenOf own_pd29 rfl) rfl (by show 2 * 0 + _ ≤ _; exact Nat.le_of_eq rfl) (hb hby at_331) (fun _ _ => ⟨rfl, e70, (by decide : 4 + 0 ≤ _), (by decide : 21 + 0 ≤ _)⟩)
    dsimp only [Pt.U, Pt.locs, Pt.cells, Pt.slots] at X71 l71 y71 z71 st71 hQ71
    subst l71 y71 z71
    obtain ⟨rfl, N71q, e71⟩ := hQ71
    have N71 := Fr.app N70 N71q
    refine own_st (T' := T71) (g' := (mkF m 334 #[vi pa, vl pw, .second, vi pd, vi pc_, vi st, vi 3, vr b1, vi mu, vi le, vi co, vi 3, vi x0, vi x1, vi x2, vr b27, .val (.int (((pc_.toUInt32 >>> ((8 : Int32) &&& 31).toUInt32).toInt32) &&& (7 : Int32))), vr r68] [(.int 1)])) st71 ?_
    refine own_st (T' := T71) (g' := (mkF m 342 #[vi pa, vl pw, .second, vi pd, vi pc_, vi st, vi 3, vr b1, vi mu, vi le, vi co, vi 3, vi x0, vi x1, vi x2, vr b27, .val (.int (((pc_.toUInt32 >>> ((8 : Int32) &&& 31).toUInt32).toInt32) &&& (7 : Int32))), vr r68] [(.int x1), (.int 1), (.ref r68)])) (fun t k => ?_) ?_
    ·refine XS.ifNo X71.here hx rfl (hb hby at_334) rfl ((if0 _ _).trans (feq (by decide : ¬ ((1 : Int32) = (0 : Int32)))).1) ?_
     refine XS.aload X71.here hx rfl (hb hby at_337) rfl rfl ?_
     refine XS.iconst X71.here hx rfl (hb hby at_339) ?_
     refine XS.iload X71.here hx rfl (hb hby at_340) rfl ?_
     exact k
    obtain ⟨_, _, ⟨T72, L72, c72, n72⟩, -, X72, ⟨Lc72, hQ72, l72, y72, z72⟩, st72⟩ := Jvm.LawKit.callS X71 hx (y := own_y32) hown (om hZ hw 101 rfl) (om hZ hw 102 rfl) (om hZ hw 4 rfl) (om hZ hw 103 rfl) (by decide) (backOf (W := 0) (own_rm17_0_3_1 l Z a0 hw r68 t68 k68 x0 x1 x2 x1 cs fm u8 h68 n0 Z68 O68 Ec68 Fv68 Fo68 Vc68 (own_eq_a as1) HB) hZ (own_w hw 103 rfl) (own_w hw 4 rfl) (by decide) (by decide)) (g := (mkF m 342 #[vi pa, vl pw, .second, vi pd, vi pc_, vi st, vi 3, vr b1, vi mu, vi le, vi co, vi 3, vi x0, vi x1, vi x2, vr b27, .val (.int (((pc_.toUInt32 >>> ((8 : Int32) &&& 31).toUInt32).toInt32) &&& (7 : Int32))), vr r68] [(.int x1), (.int 1), (.ref r68)])) rfl (by rw [hml]; rfl) (argsL := [(.ref r68), (.int 1), (.int x1)]) (rest := []) (lenOf own_pd29 rfl) rfl (by show 2 * 0 + _ ≤ _; exact Nat.le_of_eq rfl) (hb hby at_342) (fun _ _ => ⟨rfl, e71, (by decide : 4 + 0 ≤ _), (by decide : 21 + 0 ≤ _)⟩)
    dsimp only [Pt.U, Pt.locs, Pt.cells, Pt.slots] at X72 l72 y72 z72 st72 hQ72
    subst l72 y72 z72
    obtain ⟨rfl, N72q, e72⟩ := hQ72
    have N72 := Fr.app N71 N72q
    refine own_st (T' := T72) (g' := (mkF m 345 #[vi pa, vl pw, .second, vi pd, vi pc_, vi st, vi 3, vr b1, vi mu, vi le, vi co, vi 3, vi x0, vi x1, vi x2, vr b27, .val (.int (((pc_.toUInt32 >>> ((8 : Int32) &&& 31).toUInt32).toInt32) &&& (7 : Int32))), vr r68] [(.int 1)])) st72 ?_
    refine own_st (T' := T72) (g' := (mkF m 353 #[vi pa, vl pw, .second, vi pd, vi pc_, vi st, vi 3, vr b1, vi mu, vi le, vi co, vi 3, vi x0, vi x1, vi x2, vr b27, .val (.int (((pc_.toUInt32 >>> ((8 : Int32) &&& 31).toUInt32).toInt32) &&& (7 : Int32))), vr r68] [(.int x2), (.int 2), (.ref r68)])) (fun t k => ?_) ?_
    ·refine XS.ifNo X72.here hx rfl (hb hby at_345) rfl ((if0 _ _).trans (feq (by decide : ¬ ((1 : Int32) = (0 : Int32)))).1) ?_
     refine XS.aload X72.here hx rfl (hb hby at_348) rfl rfl ?_
     refine XS.iconst X72.here hx rfl (hb hby at_350) ?_
     refine XS.iload X72.here hx rfl (hb hby at_351) rfl ?_
     exact k
    obtain ⟨_, _, ⟨T73, L73, c73, n73⟩, -, X73, ⟨Lc73, hQ73, l73, y73, z73⟩, st73⟩ := Jvm.LawKit.callS X72 hx (y := own_y32) hown (om hZ hw 101 rfl) (om hZ hw 102 rfl) (om hZ hw 4 rfl) (om hZ hw 103 rfl) (by decide) (backOf (W := 0) (own_rm17_0_3_2 l Z a0 hw r68 t68 k68 x0 x1 x2 x2 cs fm u8 h68 n0 Z68 O68 Ec68 Fv68 Fo68 Vc68 (own_eq_a as2) HB) hZ (own_w hw 103 rfl) (own_w hw 4 rfl) (by decide) (by decide)) (g := (mkF m 353 #[vi pa, vl pw, .second, vi pd, vi pc_, vi st, vi 3, vr b1, vi mu, vi le, vi co, vi 3, vi x0, vi x1, vi x2, vr b27, .val (.int (((pc_.toUInt32 >>> ((8 : Int32) &&& 31).toUInt32).toInt32) &&& (7 : Int32))), vr r68] [(.int x2), (.int 2), (.ref r68)])) rfl (by rw [hml]; rfl) (argsL := [(.ref r68), (.int 2), (.int x2)]) (rest := []) (lenOf own_pd29 rfl) rfl (by show 2 * 0 + _ ≤ _; exact Nat.le_of_eq rfl) (hb hby at_353) (fun _ _ => ⟨rfl, e72, (by decide : 4 + 0 ≤ _), (by decide : 21 + 0 ≤ _)⟩)
    dsimp only [Pt.U, Pt.locs, Pt.cells, Pt.slots] at X73 l73 y73 z73 st73 hQ73
    subst l73 y73 z73
    obtain ⟨rfl, N73q, e73⟩ := hQ73
    have N73 := Fr.app N72 N73q
    refine own_st (T' := T73) (g' := (mkF m 356 #[vi pa, vl pw, .second, vi pd, vi pc_, vi st, vi 3, vr b1, vi mu, vi le, vi co, vi 3, vi x0, vi x1, vi x2, vr b27, .val (.int (((pc_.toUInt32 >>> ((8 : Int32) &&& 31).toUInt32).toInt32) &&& (7 : Int32))), vr r68] [(.int 1)])) st73 ?_
    refine own_st (T' := T73) (g' := (mkF m 364 #[vi pa, vl pw, .second, vi pd, vi pc_, vi st, vi 3, vr b1, vi mu, vi le, vi co, vi 3, vi x0, vi x1, vi x2, vr b27, .val (.int (((pc_.toUInt32 >>> ((8 : Int32) &&& 31).toUInt32).toInt32) &&& (7 : Int32))), vr r68] [(.int 1)])) (fun t k => ?_) ?_
    ·refine XS.ifNo X73.here hx rfl (hb hby at_356) rfl ((if0 _ _).trans (feq (by decide : ¬ ((1 : Int32) = (0 : Int32)))).1) ?_
     refine XS.iconst X73.here hx rfl (hb hby at_359) ?_
     refine XS.goto X73.here hx rfl (pc0 := 360) (pc' := 364) rfl (hb hby at_360) (by decide) (by decide) ?_
     exact k
    exact own_retN X73 hx Bd (t := .boolean) (by simp) rfl (hb hby at_364) e73 (⟨rfl, N73⟩) (by decide) (by decide)
  ·have ha2 := own_asc_n as2
   by_cases hla : own_lat x0
   ·rcases hl2 with hq | hq
    ·subst hq
     replace hel : el = (1 : Int32) := hel.trans (by decide)
     subst hel
     have hm0 := own_lead_neg hle
     refine own_st (T' := T43) (g' := (mkF m 311 #[vi pa, vl pw, .second, vi pd, vi pc_, vi st, vi 2, vr b1, vi mu, vi le, vi co, vi 1, vi (own_dec x0 x1), vi x2, vi 0, vr b27, .val (.int (((pc_.toUInt32 >>> ((8 : Int32) &&& 31).toUInt32).toInt32) &&& (7 : Int32))), .unset] [(.ref b27)])) (fun t k => ?_) ?_
     ·refine XS.aload X43.here hx rfl (hb hby at_309) rfl rfl ?_
      exact k
     have f74 := f42.wr W43
     have f75 := (((fw30.other W33 (Or.inr (slot_ne (Or.inl (own_w hw 17 rfl)) (Or.inl (own_w hw 19 rfl)) (by decide) (t := (.array .byte)) (t' := .int) (by decide) (by decide)))).other W37 (Or.inr (slot_ne (Or.inl (own_w hw 17 rfl)) (Or.inl (own_w hw 25 rfl)) (by decide) (t := (.array .byte)) (t' := .int) (by decide) (by decide)))).other W40 (Or.inr (slot_ne (Or.inl (own_w hw 17 rfl)) (Or.inl (own_w hw 27 rfl)) (by decide) (t := (.array .byte)) (t' := .int) (by decide) (by decide)))).other W43 (Or.inr (slot_ne (Or.inl (own_w hw 17 rfl)) (Or.inl (own_w hw 29 rfl)) (by decide) (t := (.array .byte)) (t' := .int) (by decide) (by decide)))
     have f76 := fw40.other W43 (Or.inr (slot_ne (Or.inl (own_w hw 27 rfl)) (Or.inl (own_w hw 29 rfl)) (by decide) (t := .int) (t' := .int) (by decide) (by decide)))
     have f77 := (((((Vj.ext E27).other W30 ne_b1_b27).other W33 ne_b1_b27).other W37 ne_b1_b27).other W40 ne_b1_b27).other W43 ne_b1_b27
     obtain ⟨cq78, kq78, q78a, q78b, q78c⟩ := isOf hZ e43 f74
     obtain ⟨_, _, ⟨T78, L78, c78, n78⟩, -, X78, ⟨Lc78, hQ78, l78, y78, z78⟩, st78⟩ := X43.virtualBack hx (y := own_y23) (z := own_y23) hown (om hZ hw 30 rfl) (om hZ hw 31 rfl) (notFace_of_selects (args := #[]) (om hZ hw 33 rfl)) (om hZ hw 33 rfl) (om hZ hw 32 rfl) (by decide) (backOf (W := 0) (own_rm5l2 l Z a0 hw b27 b1 k1 y0 y1 y2 y3 y4 y5 y6 y7 st x0 x1 x2 cs fm u8 h43 n0 Z43 O43 f74 f75 f76 fw43 f77 ⟨ho, hx0, hx1, hx2⟩ hm0 hle hco hla HB) hZ (own_w hw 34 rfl) (own_w hw 9 rfl) (by decide) (by decide)) q78a q78c (g := (mkF m 311 #[vi pa, vl pw, .second, vi pd, vi pc_, vi st, vi 2, vr b1, vi mu, vi le, vi co, vi 1, vi (own_dec x0 x1), vi x2, vi 0, vr b27, .val (.int (((pc_.toUInt32 >>> ((8 : Int32) &&& 31).toUInt32).toInt32) &&& (7 : Int32))), .unset] [(.ref b27)])) rfl (by rw [hml]; rfl) (Steps.refl _) (argsL := []) (rest := []) (lenOf own_pd28 rfl) rfl (by show 2 * 0 + _ ≤ _; exact Nat.le_of_eq rfl) (hb hby at_311) (fun _ _ => ⟨rfl, e43, (by decide : 2 + 3 ≤ _), (by decide : 14 + 7 ≤ _)⟩)
     dsimp only [Pt.U, Pt.locs, Pt.cells, Pt.slots] at X78 l78 y78 z78 st78 hQ78
     subst l78 y78 z78
     obtain ⟨h78, e78⟩ : ∃ z, T78.heap = z := ⟨_, rfl⟩
     rw [e78] at hQ78
     obtain ⟨r78, t78, k78, rfl, N78q, Kc78, g78, hz78, Ec78, Fv78, Fo78, Vc78⟩ := hQ78
     have N78 := Fr.app N43 N78q
     have f79 := E_u8.ext O43.2
     have ne_u8_r78 : u8 ≠ r78 := Nat.ne_of_lt (Nat.lt_of_lt_of_le f79.lt hz78)
     have ne_b1_r78 : b1 ≠ r78 := Nat.ne_of_lt (Nat.lt_of_lt_of_le f77.lt hz78)
     have ne_b27_r78 : b27 ≠ r78 := Nat.ne_of_lt (Nat.lt_of_lt_of_le f74.lt hz78)
     have hwr78 : h0.size ≤ r78 := Nat.le_trans K43.1 hz78
     have K78 : Keep h0 h78 [] := K43.trans Kc78 all0
     have Z78 : n0 ≤ h78.size := Nat.le_trans Z43 Kc78.1
     have O78 := O43.keep Kc78 all0
     refine own_tr (T' := T78) (g' := (mkF m 314 #[vi pa, vl pw, .second, vi pd, vi pc_, vi st, vi 2, vr b1, vi mu, vi le, vi co, vi 1, vi (own_dec x0 x1), vi x2, vi 0, vr b27, .val (.int (((pc_.toUInt32 >>> ((8 : Int32) &&& 31).toUInt32).toInt32) &&& (7 : Int32))), .unset] [(.ref r78)])) st78 ?_
     refine own_st (T' := T78) (g' := (mkF m 318 #[vi pa, vl pw, .second, vi pd, vi pc_, vi st, vi 2, vr b1, vi mu, vi le, vi co, vi 1, vi (own_dec x0 x1), vi x2, vi 0, vr b27, .val (.int (((pc_.toUInt32 >>> ((8 : Int32) &&& 31).toUInt32).toInt32) &&& (7 : Int32))), vr r78] [(.ref r78)])) (fun t k => ?_) ?_
     ·refine XS.astore X78.here hx rfl (hb hby at_314) rfl rfl (l' := #[vi pa, vl pw, .second, vi pd, vi pc_, vi st, vi 2, vr b1, vi mu, vi le, vi co, vi 1, vi (own_dec x0 x1), vi x2, vi 0, vr b27, .val (.int (((pc_.toUInt32 >>> ((8 : Int32) &&& 31).toUInt32).toInt32) &&& (7 : Int32))), vr r78]) rfl ?_
      refine XS.aload X78.here hx rfl (hb hby at_316) rfl rfl ?_
      exact k
     obtain ⟨cq80, kq80, q80a, q80b, q80c⟩ := isOf hZ e78 Ec78
     obtain ⟨_, _, ⟨T80, L80, c80, n80⟩, -, X80, ⟨Lc80, hQ80, l80, y80, z80⟩, st80⟩ := X78.virtualBack hx (y := own_y26) (z := own_y26) hown (om hZ hw 91 rfl) (om hZ hw 92 rfl) (notFace_of_selects (args := #[]) (om hZ hw 94 rfl)) (om hZ hw 94 rfl) (om hZ hw 93 rfl) (by decide) (backOf (W := 0) (own_rm15_0_1 l Z a0 hw r78 t78 k78 ((own_d2 x0 x1).toInt8.toInt32) cs fm u8 h78 n0 Z78 O78 Ec78 Fv78 Fo78 Vc78 HB) hZ (own_w hw 95 rfl) (own_w hw 37 rfl) (by decide) (by decide)) q80a q80c (g := (mkF m 318 #[vi pa, vl pw, .second, vi pd, vi pc_, vi st, vi 2, vr b1, vi mu, vi le, vi co, vi 1, vi (own_dec x0 x1), vi x2, vi 0, vr b27, .val (.int (((pc_.toUInt32 >>> ((8 : Int32) &&& 31).toUInt32).toInt32) &&& (7 : Int32))), vr r78] [(.ref r78)])) rfl (by rw [hml]; rfl) (Steps.refl _) (argsL := []) (rest := []) (lenOf own_pd24 rfl) rfl (by show 2 * 0 + _ ≤ _; exact Nat.le_of_eq rfl) (hb hby at_318) (fun _ _ => ⟨rfl, e78, (by decide : 5 + 0 ≤ _), (by decide : 21 + 0 ≤ _)⟩)
     dsimp only [Pt.U, Pt.locs, Pt.cells, Pt.slots] at X80 l80 y80 z80 st80 hQ80
     subst l80 y80 z80
     obtain ⟨rfl, N80q, e80⟩ := hQ80
     have N80 := Fr.app N78 N80q
     refine own_tr (T' := T80) (g' := (mkF m 321 #[vi pa, vl pw, .second, vi pd, vi pc_, vi st, vi 2, vr b1, vi mu, vi le, vi co, vi 1, vi (own_dec x0 x1), vi x2, vi 0, vr b27, .val (.int (((pc_.toUInt32 >>> ((8 : Int32) &&& 31).toUInt32).toInt32) &&& (7 : Int32))), vr r78] [(.int 1)])) st80 ?_
     refine own_st (T' := T80) (g' := (mkF m 331 #[vi pa, vl pw, .second, vi pd, vi pc_, vi st, vi 2, vr b1, vi mu, vi le, vi co, vi 1, vi (own_dec x0 x1), vi x2, vi 0, vr b27, .val (.int (((pc_.toUInt32 >>> ((8 : Int32) &&& 31).toUInt32).toInt32) &&& (7 : Int32))), vr r78] [(.int (own_dec x0 x1)), (.int 0), (.ref r78)])) (fun t k => ?_) ?_
     ·refine XS.iload X80.here hx rfl (hb hby at_321) rfl ?_
      refine XS.icmpNo X80.here hx rfl (hb hby at_323) rfl (teq (rfl : (1 : Int32) = (1 : Int32))).2 ?_
      refine XS.aload X80.here hx rfl (hb hby at_326) rfl rfl ?_
      refine XS.iconst X80.here hx rfl (hb hby at_328) ?_
      refine XS.iload X80.here hx rfl (hb hby at_329) rfl ?_
      exact k
     obtain ⟨_, _, ⟨T81, L81, c81, n81⟩, -, X81, ⟨Lc81, hQ81, l81, y81, z81⟩, st81⟩ := Jvm.LawKit.callS X80 hx (y := own_y32) hown (om hZ hw 101 rfl) (om hZ hw 102 rfl) (om hZ hw 4 rfl) (om hZ hw 103 rfl) (by decide) (backOf (W := 0) (own_rm17_0_1_0 l Z a0 hw r78 t78 k78 ((own_d2 x0 x1).toInt8.toInt32) (own_dec x0 x1) cs fm u8 h78 n0 Z78 O78 Ec78 Fv78 Fo78 Vc78 (own_eq_l hle hco hla) HB) hZ (own_w hw 103 rfl) (own_w hw 4 rfl) (by decide) (by decide)) (g := (mkF m 331 #[vi pa, vl pw, .second, vi pd, vi pc_, vi st, vi 2, vr b1, vi mu, vi le, vi co, vi 1, vi (own_dec x0 x1), vi x2, vi 0, vr b27, .val (.int (((pc_.toUInt32 >>> ((8 : Int32) &&& 31).toUInt32).toInt32) &&& (7 : Int32))), vr r78] [(.int (own_dec x0 x1)), (.int 0), (.ref r78)])) rfl (by rw [hml]; rfl) (argsL := [(.ref r78), (.int 0), (.int (own_dec x0 x1))]) (rest := []) (lenOf own_pd29 rfl) rfl (by show 2 * 0 + _ ≤ _; exact Nat.le_of_eq rfl) (hb hby at_331) (fun _ _ => ⟨rfl, e80, (by decide : 5 + 0 ≤ _), (by decide : 21 + 0 ≤ _)⟩)
     dsimp only [Pt.U, Pt.locs, Pt.cells, Pt.slots] at X81 l81 y81 z81 st81 hQ81
     subst l81 y81 z81
     obtain ⟨rfl, N81q, e81⟩ := hQ81
     have N81 := Fr.app N80 N81q
     refine own_st (T' := T81) (g' := (mkF m 334 #[vi pa, vl pw, .second, vi pd, vi pc_, vi st, vi 2, vr b1, vi mu, vi le, vi co, vi 1, vi (own_dec x0 x1), vi x2, vi 0, vr b27, .val (.int (((pc_.toUInt32 >>> ((8 : Int32) &&& 31).toUInt32).toInt32) &&& (7 : Int32))), vr r78] [(.int 1)])) st81 ?_
     refine own_st (T' := T81) (g' := (mkF m 342 #[vi pa, vl pw, .second, vi pd, vi pc_, vi st, vi 2, vr b1, vi mu, vi le, vi co, vi 1, vi (own_dec x0 x1), vi x2, vi 0, vr b27, .val (.int (((pc_.toUInt32 >>> ((8 : Int32) &&& 31).toUInt32).toInt32) &&& (7 : Int32))), vr r78] [(.int x2), (.int 1), (.ref r78)])) (fun t k => ?_) ?_
     ·refine XS.ifNo X81.here hx rfl (hb hby at_334) rfl ((if0 _ _).trans (feq (by decide : ¬ ((1 : Int32) = (0 : Int32)))).1) ?_
      refine XS.aload X81.here hx rfl (hb hby at_337) rfl rfl ?_
      refine XS.iconst X81.here hx rfl (hb hby at_339) ?_
      refine XS.iload X81.here hx rfl (hb hby at_340) rfl ?_
      exact k
     obtain ⟨_, _, ⟨T82, L82, c82, n82⟩, -, X82, ⟨Lc82, hQ82, l82, y82, z82⟩, st82⟩ := Jvm.LawKit.callS X81 hx (y := own_y32) hown (om hZ hw 101 rfl) (om hZ hw 102 rfl) (om hZ hw 4 rfl) (om hZ hw 103 rfl) (by decide) (backOf (W := 0) (own_rm17_0_1_1 l Z a0 hw r78 t78 k78 ((own_d2 x0 x1).toInt8.toInt32) x2 cs fm u8 h78 n0 Z78 O78 Ec78 Fv78 Fo78 Vc78 HB) hZ (own_w hw 103 rfl) (own_w hw 4 rfl) (by decide) (by decide)) (g := (mkF m 342 #[vi pa, vl pw, .second, vi pd, vi pc_, vi st, vi 2, vr b1, vi mu, vi le, vi co, vi 1, vi (own_dec x0 x1), vi x2, vi 0, vr b27, .val (.int (((pc_.toUInt32 >>> ((8 : Int32) &&& 31).toUInt32).toInt32) &&& (7 : Int32))), vr r78] [(.int x2), (.int 1), (.ref r78)])) rfl (by rw [hml]; rfl) (argsL := [(.ref r78), (.int 1), (.int x2)]) (rest := []) (lenOf own_pd29 rfl) rfl (by show 2 * 0 + _ ≤ _; exact Nat.le_of_eq rfl) (hb hby at_342) (fun _ _ => ⟨rfl, e81, (by decide : 5 + 0 ≤ _), (by decide : 21 + 0 ≤ _)⟩)
     dsimp only [Pt.U, Pt.locs, Pt.cells, Pt.slots] at X82 l82 y82 z82 st82 hQ82
     subst l82 y82 z82
     obtain ⟨rfl, N82q, e82⟩ := hQ82
     have N82 := Fr.app N81 N82q
     refine own_st (T' := T82) (g' := (mkF m 345 #[vi pa, vl pw, .second, vi pd, vi pc_, vi st, vi 2, vr b1, vi mu, vi le, vi co, vi 1, vi (own_dec x0 x1), vi x2, vi 0, vr b27, .val (.int (((pc_.toUInt32 >>> ((8 : Int32) &&& 31).toUInt32).toInt32) &&& (7 : Int32))), vr r78] [(.int 1)])) st82 ?_
     refine own_st (T' := T82) (g' := (mkF m 353 #[vi pa, vl pw, .second, vi pd, vi pc_, vi st, vi 2, vr b1, vi mu, vi le, vi co, vi 1, vi (own_dec x0 x1), vi x2, vi 0, vr b27, .val (.int (((pc_.toUInt32 >>> ((8 : Int32) &&& 31).toUInt32).toInt32) &&& (7 : Int32))), vr r78] [(.int 0), (.int 2), (.ref r78)])) (fun t k => ?_) ?_
     ·refine XS.ifNo X82.here hx rfl (hb hby at_345) rfl ((if0 _ _).trans (feq (by decide : ¬ ((1 : Int32) = (0 : Int32)))).1) ?_
      refine XS.aload X82.here hx rfl (hb hby at_348) rfl rfl ?_
      refine XS.iconst X82.here hx rfl (hb hby at_350) ?_
      refine XS.iload X82.here hx rfl (hb hby at_351) rfl ?_
      exact k
     obtain ⟨_, _, ⟨T83, L83, c83, n83⟩, -, X83, ⟨Lc83, hQ83, l83, y83, z83⟩, st83⟩ := Jvm.LawKit.callS X82 hx (y := own_y32) hown (om hZ hw 101 rfl) (om hZ hw 102 rfl) (om hZ hw 4 rfl) (om hZ hw 103 rfl) (by decide) (backOf (W := 0) (own_rm17_0_1_2 l Z a0 hw r78 t78 k78 ((own_d2 x0 x1).toInt8.toInt32) (0 : Int32) cs fm u8 h78 n0 Z78 O78 Ec78 Fv78 Fo78 Vc78 HB) hZ (own_w hw 103 rfl) (own_w hw 4 rfl) (by decide) (by decide)) (g := (mkF m 353 #[vi pa, vl pw, .second, vi pd, vi pc_, vi st, vi 2, vr b1, vi mu, vi le, vi co, vi 1, vi (own_dec x0 x1), vi x2, vi 0, vr b27, .val (.int (((pc_.toUInt32 >>> ((8 : Int32) &&& 31).toUInt32).toInt32) &&& (7 : Int32))), vr r78] [(.int 0), (.int 2), (.ref r78)])) rfl (by rw [hml]; rfl) (argsL := [(.ref r78), (.int 2), (.int 0)]) (rest := []) (lenOf own_pd29 rfl) rfl (by show 2 * 0 + _ ≤ _; exact Nat.le_of_eq rfl) (hb hby at_353) (fun _ _ => ⟨rfl, e82, (by decide : 5 + 0 ≤ _), (by decide : 21 + 0 ≤ _)⟩)
     dsimp only [Pt.U, Pt.locs, Pt.cells, Pt.slots] at X83 l83 y83 z83 st83 hQ83
     subst l83 y83 z83
     obtain ⟨rfl, N83q, e83⟩ := hQ83
     have N83 := Fr.app N82 N83q
     refine own_st (T' := T83) (g' := (mkF m 356 #[vi pa, vl pw, .second, vi pd, vi pc_, vi st, vi 2, vr b1, vi mu, vi le, vi co, vi 1, vi (own_dec x0 x1), vi x2, vi 0, vr b27, .val (.int (((pc_.toUInt32 >>> ((8 : Int32) &&& 31).toUInt32).toInt32) &&& (7 : Int32))), vr r78] [(.int 1)])) st83 ?_
     refine own_st (T' := T83) (g' := (mkF m 364 #[vi pa, vl pw, .second, vi pd, vi pc_, vi st, vi 2, vr b1, vi mu, vi le, vi co, vi 1, vi (own_dec x0 x1), vi x2, vi 0, vr b27, .val (.int (((pc_.toUInt32 >>> ((8 : Int32) &&& 31).toUInt32).toInt32) &&& (7 : Int32))), vr r78] [(.int 1)])) (fun t k => ?_) ?_
     ·refine XS.ifNo X83.here hx rfl (hb hby at_356) rfl ((if0 _ _).trans (feq (by decide : ¬ ((1 : Int32) = (0 : Int32)))).1) ?_
      refine XS.iconst X83.here hx rfl (hb hby at_359) ?_
      refine XS.goto X83.here hx rfl (pc0 := 360) (pc' := 364) rfl (hb hby at_360) (by decide) (by decide) ?_
      exact k
     exact own_retN X83 hx Bd (t := .boolean) (by simp) rfl (hb hby at_364) e83 (⟨rfl, N83⟩) (by decide) (by decide)
    ·subst hq
     replace hel : el = (2 : Int32) := hel.trans (by decide)
     subst hel
     have hm0 := own_lead_neg hle
     refine own_st (T' := T43) (g' := (mkF m 311 #[vi pa, vl pw, .second, vi pd, vi pc_, vi st, vi 3, vr b1, vi mu, vi le, vi co, vi 2, vi (own_dec x0 x1), vi x2, vi 0, vr b27, .val (.int (((pc_.toUInt32 >>> ((8 : Int32) &&& 31).toUInt32).toInt32) &&& (7 : Int32))), .unset] [(.ref b27)])) (fun t k => ?_) ?_
     ·refine XS.aload X43.here hx rfl (hb hby at_309) rfl rfl ?_
      exact k
     have f84 := f42.wr W43
     have f85 := (((fw30.other W33 (Or.inr (slot_ne (Or.inl (own_w hw 17 rfl)) (Or.inl (own_w hw 19 rfl)) (by decide) (t := (.array .byte)) (t' := .int) (by decide) (by decide)))).other W37 (Or.inr (slot_ne (Or.inl (own_w hw 17 rfl)) (Or.inl (own_w hw 25 rfl)) (by decide) (t := (.array .byte)) (t' := .int) (by decide) (by decide)))).other W40 (Or.inr (slot_ne (Or.inl (own_w hw 17 rfl)) (Or.inl (own_w hw 27 rfl)) (by decide) (t := (.array .byte)) (t' := .int) (by decide) (by decide)))).other W43 (Or.inr (slot_ne (Or.inl (own_w hw 17 rfl)) (Or.inl (own_w hw 29 rfl)) (by decide) (t := (.array .byte)) (t' := .int) (by decide) (by decide)))
     have f86 := fw40.other W43 (Or.inr (slot_ne (Or.inl (own_w hw 27 rfl)) (Or.inl (own_w hw 29 rfl)) (by decide) (t := .int) (t' := .int) (by decide) (by decide)))
     have f87 := (((((Vj.ext E27).other W30 ne_b1_b27).other W33 ne_b1_b27).other W37 ne_b1_b27).other W40 ne_b1_b27).other W43 ne_b1_b27
     obtain ⟨cq88, kq88, q88a, q88b, q88c⟩ := isOf hZ e43 f84
     obtain ⟨_, _, ⟨T88, L88, c88, n88⟩, -, X88, ⟨Lc88, hQ88, l88, y88, z88⟩, st88⟩ := X43.virtualBack hx (y := own_y23) (z := own_y23) hown (om hZ hw 30 rfl) (om hZ hw 31 rfl) (notFace_of_selects (args := #[]) (om hZ hw 33 rfl)) (om hZ hw 33 rfl) (om hZ hw 32 rfl) (by decide) (backOf (W := 0) (own_rm5l3 l Z a0 hw b27 b1 k1 y0 y1 y2 y3 y4 y5 y6 y7 st x0 x1 x2 cs fm u8 h43 n0 Z43 O43 f84 f85 f86 fw43 f87 ⟨ho, hx0, hx1, hx2⟩ hm0 hle hco ha2 hla HB) hZ (own_w hw 34 rfl) (own_w hw 9 rfl) (by decide) (by decide)) q88a q88c (g := (mkF m 311 #[vi pa, vl pw, .second, vi pd, vi pc_, vi st, vi 3, vr b1, vi mu, vi le, vi co, vi 2, vi (own_dec x0 x1), vi x2, vi 0, vr b27, .val (.int (((pc_.toUInt32 >>> ((8 : Int32) &&& 31).toUInt32).toInt32) &&& (7 : Int32))), .unset] [(.ref b27)])) rfl (by rw [hml]; rfl) (Steps.refl _) (argsL := []) (rest := []) (lenOf own_pd28 rfl) rfl (by show 2 * 0 + _ ≤ _; exact Nat.le_of_eq rfl) (hb hby at_311) (fun _ _ => ⟨rfl, e43, (by decide : 2 + 3 ≤ _), (by decide : 14 + 9 ≤ _)⟩)
     dsimp only [Pt.U, Pt.locs, Pt.cells, Pt.slots] at X88 l88 y88 z88 st88 hQ88
     subst l88 y88 z88
     obtain ⟨h88, e88⟩ : ∃ z, T88.heap = z := ⟨_, rfl⟩
     rw [e88] at hQ88
     obtain ⟨r88, t88, k88, rfl, N88q, Kc88, g88, hz88, Ec88, Fv88, Fo88, Vc88⟩ := hQ88
     have N88 := Fr.app N43 N88q
     have f89 := E_u8.ext O43.2
     have ne_u8_r88 : u8 ≠ r88 := Nat.ne_of_lt (Nat.lt_of_lt_of_le f89.lt hz88)
     have ne_b1_r88 : b1 ≠ r88 := Nat.ne_of_lt (Nat.lt_of_lt_of_le f87.lt hz88)
     have ne_b27_r88 : b27 ≠ r88 := Nat.ne_of_lt (Nat.lt_of_lt_of_le f84.lt hz88)
     have hwr88 : h0.size ≤ r88 := Nat.le_trans K43.1 hz88
     have K88 : Keep h0 h88 [] := K43.trans Kc88 all0
     have Z88 : n0 ≤ h88.size := Nat.le_trans Z43 Kc88.1
     have O88 := O43.keep Kc88 all0
     refine own_tr (T' := T88) (g' := (mkF m 314 #[vi pa, vl pw, .second, vi pd, vi pc_, vi st, vi 3, vr b1, vi mu, vi le, vi co, vi 2, vi (own_dec x0 x1), vi x2, vi 0, vr b27, .val (.int (((pc_.toUInt32 >>> ((8 : Int32) &&& 31).toUInt32).toInt32) &&& (7 : Int32))), .unset] [(.ref r88)])) st88 ?_
     refine own_st (T' := T88) (g' := (mkF m 318 #[vi pa, vl pw, .second, vi pd, vi pc_, vi st, vi 3, vr b1, vi mu, vi le, vi co, vi 2, vi (own_dec x0 x1), vi x2, vi 0, vr b27, .val (.int (((pc_.toUInt32 >>> ((8 : Int32) &&& 31).toUInt32).toInt32) &&& (7 : Int32))), vr r88] [(.ref r88)])) (fun t k => ?_) ?_
     ·refine XS.astore X88.here hx rfl (hb hby at_314) rfl rfl (l' := #[vi pa, vl pw, .second, vi pd, vi pc_, vi st, vi 3, vr b1, vi mu, vi le, vi co, vi 2, vi (own_dec x0 x1), vi x2, vi 0, vr b27, .val (.int (((pc_.toUInt32 >>> ((8 : Int32) &&& 31).toUInt32).toInt32) &&& (7 : Int32))), vr r88]) rfl ?_
      refine XS.aload X88.here hx rfl (hb hby at_316) rfl rfl ?_
      exact k
     obtain ⟨cq90, kq90, q90a, q90b, q90c⟩ := isOf hZ e88 Ec88
     obtain ⟨_, _, ⟨T90, L90, c90, n90⟩, -, X90, ⟨Lc90, hQ90, l90, y90, z90⟩, st90⟩ := X88.virtualBack hx (y := own_y26) (z := own_y26) hown (om hZ hw 91 rfl) (om hZ hw 92 rfl) (notFace_of_selects (args := #[]) (om hZ hw 94 rfl)) (om hZ hw 94 rfl) (om hZ hw 93 rfl) (by decide) (backOf (W := 0) (own_rm15_0_2 l Z a0 hw r88 t88 k88 ((own_d2 x0 x1).toInt8.toInt32) (x2.toInt8.toInt32) cs fm u8 h88 n0 Z88 O88 Ec88 Fv88 Fo88 Vc88 HB) hZ (own_w hw 95 rfl) (own_w hw 37 rfl) (by decide) (by decide)) q90a q90c (g := (mkF m 318 #[vi pa, vl pw, .second, vi pd, vi pc_, vi st, vi 3, vr b1, vi mu, vi le, vi co, vi 2, vi (own_dec x0 x1), vi x2, vi 0, vr b27, .val (.int (((pc_.toUInt32 >>> ((8 : Int32) &&& 31).toUInt32).toInt32) &&& (7 : Int32))), vr r88] [(.ref r88)])) rfl (by rw [hml]; rfl) (Steps.refl _) (argsL := []) (rest := []) (lenOf own_pd24 rfl) rfl (by show 2 * 0 + _ ≤ _; exact Nat.le_of_eq rfl) (hb hby at_318) (fun _ _ => ⟨rfl, e88, (by decide : 5 + 0 ≤ _), (by decide : 23 + 0 ≤ _)⟩)
     dsimp only [Pt.U, Pt.locs, Pt.cells, Pt.slots] at X90 l90 y90 z90 st90 hQ90
     subst l90 y90 z90
     obtain ⟨rfl, N90q, e90⟩ := hQ90
     have N90 := Fr.app N88 N90q
     refine own_tr (T' := T90) (g' := (mkF m 321 #[vi pa, vl pw, .second, vi pd, vi pc_, vi st, vi 3, vr b1, vi mu, vi le, vi co, vi 2, vi (own_dec x0 x1), vi x2, vi 0, vr b27, .val (.int (((pc_.toUInt32 >>> ((8 : Int32) &&& 31).toUInt32).toInt32) &&& (7 : Int32))), vr r88] [(.int 2)])) st90 ?_
     refine own_st (T' := T90) (g' := (mkF m 331 #[vi pa, vl pw, .second, vi pd, vi pc_, vi st, vi 3, vr b1, vi mu, vi le, vi co, vi 2, vi (own_dec x0 x1), vi x2, vi 0, vr b27, .val (.int (((pc_.toUInt32 >>> ((8 : Int32) &&& 31).toUInt32).toInt32) &&& (7 : Int32))), vr r88] [(.int (own_dec x0 x1)), (.int 0), (.ref r88)])) (fun t k => ?_) ?_
     ·refine XS.iload X90.here hx rfl (hb hby at_321) rfl ?_
      refine XS.icmpNo X90.here hx rfl (hb hby at_323) rfl (teq (rfl : (2 : Int32) = (2 : Int32))).2 ?_
      refine XS.aload X90.here hx rfl (hb hby at_326) rfl rfl ?_
      refine XS.iconst X90.here hx rfl (hb hby at_328) ?_
      refine XS.iload X90.here hx rfl (hb hby at_329) rfl ?_
      exact k
     obtain ⟨_, _, ⟨T91, L91, c91, n91⟩, -, X91, ⟨Lc91, hQ91, l91, y91, z91⟩, st91⟩ := Jvm.LawKit.callS X90 hx (y := own_y32) hown (om hZ hw 101 rfl) (om hZ hw 102 rfl) (om hZ hw 4 rfl) (om hZ hw 103 rfl) (by decide) (backOf (W := 0) (own_rm17_0_2_0 l Z a0 hw r88 t88 k88 ((own_d2 x0 x1).toInt8.toInt32) (x2.toInt8.toInt32) (own_dec x0 x1) cs fm u8 h88 n0 Z88 O88 Ec88 Fv88 Fo88 Vc88 (own_eq_l hle hco hla) HB) hZ (own_w hw 103 rfl) (own_w hw 4 rfl) (by decide) (by decide)) (g := (mkF m 331 #[vi pa, vl pw, .second, vi pd, vi pc_, vi st, vi 3, vr b1, vi mu, vi le, vi co, vi 2, vi (own_dec x0 x1), vi x2, vi 0, vr b27, .val (.int (((pc_.toUInt32 >>> ((8 : Int32) &&& 31).toUInt32).toInt32) &&& (7 : Int32))), vr r88] [(.int (own_dec x0 x1)), (.int 0), (.ref r88)])) rfl (by rw [hml]; rfl) (argsL := [(.ref r88), (.int 0), (.int (own_dec x0 x1))]) (rest := []) (lenOf own_pd29 rfl) rfl (by show 2 * 0 + _ ≤ _; exact Nat.le_of_eq rfl) (hb hby at_331) (fun _ _ => ⟨rfl, e90, (by decide : 5 + 0 ≤ _), (by decide : 23 + 0 ≤ _)⟩)
     dsimp only [Pt.U, Pt.locs, Pt.cells, Pt.slots] at X91 l91 y91 z91 st91 hQ91
     subst l91 y91 z91
     obtain ⟨rfl, N91q, e91⟩ := hQ91
     have N91 := Fr.app N90 N91q
     refine own_st (T' := T91) (g' := (mkF m 334 #[vi pa, vl pw, .second, vi pd, vi pc_, vi st, vi 3, vr b1, vi mu, vi le, vi co, vi 2, vi (own_dec x0 x1), vi x2, vi 0, vr b27, .val (.int (((pc_.toUInt32 >>> ((8 : Int32) &&& 31).toUInt32).toInt32) &&& (7 : Int32))), vr r88] [(.int 1)])) st91 ?_
     refine own_st (T' := T91) (g' := (mkF m 342 #[vi pa, vl pw, .second, vi pd, vi pc_, vi st, vi 3, vr b1, vi mu, vi le, vi co, vi 2, vi (own_dec x0 x1), vi x2, vi 0, vr b27, .val (.int (((pc_.toUInt32 >>> ((8 : Int32) &&& 31).toUInt32).toInt32) &&& (7 : Int32))), vr r88] [(.int x2), (.int 1), (.ref r88)])) (fun t k => ?_) ?_
     ·refine XS.ifNo X91.here hx rfl (hb hby at_334) rfl ((if0 _ _).trans (feq (by decide : ¬ ((1 : Int32) = (0 : Int32)))).1) ?_
      refine XS.aload X91.here hx rfl (hb hby at_337) rfl rfl ?_
      refine XS.iconst X91.here hx rfl (hb hby at_339) ?_
      refine XS.iload X91.here hx rfl (hb hby at_340) rfl ?_
      exact k
     obtain ⟨_, _, ⟨T92, L92, c92, n92⟩, -, X92, ⟨Lc92, hQ92, l92, y92, z92⟩, st92⟩ := Jvm.LawKit.callS X91 hx (y := own_y32) hown (om hZ hw 101 rfl) (om hZ hw 102 rfl) (om hZ hw 4 rfl) (om hZ hw 103 rfl) (by decide) (backOf (W := 0) (own_rm17_0_2_1 l Z a0 hw r88 t88 k88 ((own_d2 x0 x1).toInt8.toInt32) (x2.toInt8.toInt32) x2 cs fm u8 h88 n0 Z88 O88 Ec88 Fv88 Fo88 Vc88 (own_eq_al as2) HB) hZ (own_w hw 103 rfl) (own_w hw 4 rfl) (by decide) (by decide)) (g := (mkF m 342 #[vi pa, vl pw, .second, vi pd, vi pc_, vi st, vi 3, vr b1, vi mu, vi le, vi co, vi 2, vi (own_dec x0 x1), vi x2, vi 0, vr b27, .val (.int (((pc_.toUInt32 >>> ((8 : Int32) &&& 31).toUInt32).toInt32) &&& (7 : Int32))), vr r88] [(.int x2), (.int 1), (.ref r88)])) rfl (by rw [hml]; rfl) (argsL := [(.ref r88), (.int 1), (.int x2)]) (rest := []) (lenOf own_pd29 rfl) rfl (by show 2 * 0 + _ ≤ _; exact Nat.le_of_eq rfl) (hb hby at_342) (fun _ _ => ⟨rfl, e91, (by decide : 5 + 0 ≤ _), (by decide : 23 + 0 ≤ _)⟩)
     dsimp only [Pt.U, Pt.locs, Pt.cells, Pt.slots] at X92 l92 y92 z92 st92 hQ92
     subst l92 y92 z92
     obtain ⟨rfl, N92q, e92⟩ := hQ92
     have N92 := Fr.app N91 N92q
     refine own_st (T' := T92) (g' := (mkF m 345 #[vi pa, vl pw, .second, vi pd, vi pc_, vi st, vi 3, vr b1, vi mu, vi le, vi co, vi 2, vi (own_dec x0 x1), vi x2, vi 0, vr b27, .val (.int (((pc_.toUInt32 >>> ((8 : Int32) &&& 31).toUInt32).toInt32) &&& (7 : Int32))), vr r88] [(.int 1)])) st92 ?_
     refine own_st (T' := T92) (g' := (mkF m 353 #[vi pa, vl pw, .second, vi pd, vi pc_, vi st, vi 3, vr b1, vi mu, vi le, vi co, vi 2, vi (own_dec x0 x1), vi x2, vi 0, vr b27, .val (.int (((pc_.toUInt32 >>> ((8 : Int32) &&& 31).toUInt32).toInt32) &&& (7 : Int32))), vr r88] [(.int 0), (.int 2), (.ref r88)])) (fun t k => ?_) ?_
     ·refine XS.ifNo X92.here hx rfl (hb hby at_345) rfl ((if0 _ _).trans (feq (by decide : ¬ ((1 : Int32) = (0 : Int32)))).1) ?_
      refine XS.aload X92.here hx rfl (hb hby at_348) rfl rfl ?_
      refine XS.iconst X92.here hx rfl (hb hby at_350) ?_
      refine XS.iload X92.here hx rfl (hb hby at_351) rfl ?_
      exact k
     obtain ⟨_, _, ⟨T93, L93, c93, n93⟩, -, X93, ⟨Lc93, hQ93, l93, y93, z93⟩, st93⟩ := Jvm.LawKit.callS X92 hx (y := own_y32) hown (om hZ hw 101 rfl) (om hZ hw 102 rfl) (om hZ hw 4 rfl) (om hZ hw 103 rfl) (by decide) (backOf (W := 0) (own_rm17_0_2_2 l Z a0 hw r88 t88 k88 ((own_d2 x0 x1).toInt8.toInt32) (x2.toInt8.toInt32) (0 : Int32) cs fm u8 h88 n0 Z88 O88 Ec88 Fv88 Fo88 Vc88 HB) hZ (own_w hw 103 rfl) (own_w hw 4 rfl) (by decide) (by decide)) (g := (mkF m 353 #[vi pa, vl pw, .second, vi pd, vi pc_, vi st, vi 3, vr b1, vi mu, vi le, vi co, vi 2, vi (own_dec x0 x1), vi x2, vi 0, vr b27, .val (.int (((pc_.toUInt32 >>> ((8 : Int32) &&& 31).toUInt32).toInt32) &&& (7 : Int32))), vr r88] [(.int 0), (.int 2), (.ref r88)])) rfl (by rw [hml]; rfl) (argsL := [(.ref r88), (.int 2), (.int 0)]) (rest := []) (lenOf own_pd29 rfl) rfl (by show 2 * 0 + _ ≤ _; exact Nat.le_of_eq rfl) (hb hby at_353) (fun _ _ => ⟨rfl, e92, (by decide : 5 + 0 ≤ _), (by decide : 23 + 0 ≤ _)⟩)
     dsimp only [Pt.U, Pt.locs, Pt.cells, Pt.slots] at X93 l93 y93 z93 st93 hQ93
     subst l93 y93 z93
     obtain ⟨rfl, N93q, e93⟩ := hQ93
     have N93 := Fr.app N92 N93q
     refine own_st (T' := T93) (g' := (mkF m 356 #[vi pa, vl pw, .second, vi pd, vi pc_, vi st, vi 3, vr b1, vi mu, vi le, vi co, vi 2, vi (own_dec x0 x1), vi x2, vi 0, vr b27, .val (.int (((pc_.toUInt32 >>> ((8 : Int32) &&& 31).toUInt32).toInt32) &&& (7 : Int32))), vr r88] [(.int 1)])) st93 ?_
     refine own_st (T' := T93) (g' := (mkF m 364 #[vi pa, vl pw, .second, vi pd, vi pc_, vi st, vi 3, vr b1, vi mu, vi le, vi co, vi 2, vi (own_dec x0 x1), vi x2, vi 0, vr b27, .val (.int (((pc_.toUInt32 >>> ((8 : Int32) &&& 31).toUInt32).toInt32) &&& (7 : Int32))), vr r88] [(.int 1)])) (fun t k => ?_) ?_
     ·refine XS.ifNo X93.here hx rfl (hb hby at_356) rfl ((if0 _ _).trans (feq (by decide : ¬ ((1 : Int32) = (0 : Int32)))).1) ?_
      refine XS.iconst X93.here hx rfl (hb hby at_359) ?_
      refine XS.goto X93.here hx rfl (pc0 := 360) (pc' := 364) rfl (hb hby at_360) (by decide) (by decide) ?_
      exact k
     exact own_retN X93 hx Bd (t := .boolean) (by simp) rfl (hb hby at_364) e93 (⟨rfl, N93⟩) (by decide) (by decide)
   ·rcases hl2 with hq | hq
    ·subst hq
     replace hel : el = (1 : Int32) := hel.trans (by decide)
     subst hel
     have hm0 := own_lead_neg hle
     refine own_st (T' := T43) (g' := (mkF m 311 #[vi pa, vl pw, .second, vi pd, vi pc_, vi st, vi 2, vr b1, vi mu, vi le, vi co, vi 1, vi (own_dec x0 x1), vi x2, vi 0, vr b27, .val (.int (((pc_.toUInt32 >>> ((8 : Int32) &&& 31).toUInt32).toInt32) &&& (7 : Int32))), .unset] [(.ref b27)])) (fun t k => ?_) ?_
     ·refine XS.aload X43.here hx rfl (hb hby at_309) rfl rfl ?_
      exact k
     have f94 := f42.wr W43
     have f95 := (((fw30.other W33 (Or.inr (slot_ne (Or.inl (own_w hw 17 rfl)) (Or.inl (own_w hw 19 rfl)) (by decide) (t := (.array .byte)) (t' := .int) (by decide) (by decide)))).other W37 (Or.inr (slot_ne (Or.inl (own_w hw 17 rfl)) (Or.inl (own_w hw 25 rfl)) (by decide) (t := (.array .byte)) (t' := .int) (by decide) (by decide)))).other W40 (Or.inr (slot_ne (Or.inl (own_w hw 17 rfl)) (Or.inl (own_w hw 27 rfl)) (by decide) (t := (.array .byte)) (t' := .int) (by decide) (by decide)))).other W43 (Or.inr (slot_ne (Or.inl (own_w hw 17 rfl)) (Or.inl (own_w hw 29 rfl)) (by decide) (t := (.array .byte)) (t' := .int) (by decide) (by decide)))
     have f96 := fw40.other W43 (Or.inr (slot_ne (Or.inl (own_w hw 27 rfl)) (Or.inl (own_w hw 29 rfl)) (by decide) (t := .int) (t' := .int) (by decide) (by decide)))
     have f97 := (((((Vj.ext E27).other W30 ne_b1_b27).other W33 ne_b1_b27).other W37 ne_b1_b27).other W40 ne_b1_b27).other W43 ne_b1_b27
     obtain ⟨cq98, kq98, q98a, q98b, q98c⟩ := isOf hZ e43 f94
     obtain ⟨_, _, ⟨T98, L98, c98, n98⟩, -, X98, ⟨Lc98, hQ98, l98, y98, z98⟩, st98⟩ := X43.virtualBack hx (y := own_y23) (z := own_y23) hown (om hZ hw 30 rfl) (om hZ hw 31 rfl) (notFace_of_selects (args := #[]) (om hZ hw 33 rfl)) (om hZ hw 33 rfl) (om hZ hw 32 rfl) (by decide) (backOf (W := 0) (own_rm5u2 l Z a0 hw b27 b1 k1 y0 y1 y2 y3 y4 y5 y6 y7 st x0 x1 x2 cs fm u8 h43 n0 Z43 O43 f94 f95 f96 fw43 f97 ⟨ho, hx0, hx1, hx2⟩ hm0 hle hco hla HB) hZ (own_w hw 34 rfl) (own_w hw 9 rfl) (by decide) (by decide)) q98a q98c (g := (mkF m 311 #[vi pa, vl pw, .second, vi pd, vi pc_, vi st, vi 2, vr b1, vi mu, vi le, vi co, vi 1, vi (own_dec x0 x1), vi x2, vi 0, vr b27, .val (.int (((pc_.toUInt32 >>> ((8 : Int32) &&& 31).toUInt32).toInt32) &&& (7 : Int32))), .unset] [(.ref b27)])) rfl (by rw [hml]; rfl) (Steps.refl _) (argsL := []) (rest := []) (lenOf own_pd28 rfl) rfl (by show 2 * 0 + _ ≤ _; exact Nat.le_of_eq rfl) (hb hby at_311) (fun _ _ => ⟨rfl, e43, (by decide : 2 + 4 ≤ _), (by decide : 14 + 12 ≤ _)⟩)
     dsimp only [Pt.U, Pt.locs, Pt.cells, Pt.slots] at X98 l98 y98 z98 st98 hQ98
     subst l98 y98 z98
     obtain ⟨h98, e98⟩ : ∃ z, T98.heap = z := ⟨_, rfl⟩
     rw [e98] at hQ98
     obtain ⟨r98, t98, k98, rfl, N98q, Kc98, g98, hz98, Ec98, Fv98, Fo98, Vc98⟩ := hQ98
     have N98 := Fr.app N43 N98q
     have f99 := E_u8.ext O43.2
     have ne_u8_r98 : u8 ≠ r98 := Nat.ne_of_lt (Nat.lt_of_lt_of_le f99.lt hz98)
     have ne_b1_r98 : b1 ≠ r98 := Nat.ne_of_lt (Nat.lt_of_lt_of_le f97.lt hz98)
     have ne_b27_r98 : b27 ≠ r98 := Nat.ne_of_lt (Nat.lt_of_lt_of_le f94.lt hz98)
     have hwr98 : h0.size ≤ r98 := Nat.le_trans K43.1 hz98
     have K98 : Keep h0 h98 [] := K43.trans Kc98 all0
     have Z98 : n0 ≤ h98.size := Nat.le_trans Z43 Kc98.1
     have O98 := O43.keep Kc98 all0
     refine own_tr (T' := T98) (g' := (mkF m 314 #[vi pa, vl pw, .second, vi pd, vi pc_, vi st, vi 2, vr b1, vi mu, vi le, vi co, vi 1, vi (own_dec x0 x1), vi x2, vi 0, vr b27, .val (.int (((pc_.toUInt32 >>> ((8 : Int32) &&& 31).toUInt32).toInt32) &&& (7 : Int32))), .unset] [(.ref r98)])) st98 ?_
     refine own_st (T' := T98) (g' := (mkF m 318 #[vi pa, vl pw, .second, vi pd, vi pc_, vi st, vi 2, vr b1, vi mu, vi le, vi co, vi 1, vi (own_dec x0 x1), vi x2, vi 0, vr b27, .val (.int (((pc_.toUInt32 >>> ((8 : Int32) &&& 31).toUInt32).toInt32) &&& (7 : Int32))), vr r98] [(.ref r98)])) (fun t k => ?_) ?_
     ·refine XS.astore X98.here hx rfl (hb hby at_314) rfl rfl (l' := #[vi pa, vl pw, .second, vi pd, vi pc_, vi st, vi 2, vr b1, vi mu, vi le, vi co, vi 1, vi (own_dec x0 x1), vi x2, vi 0, vr b27, .val (.int (((pc_.toUInt32 >>> ((8 : Int32) &&& 31).toUInt32).toInt32) &&& (7 : Int32))), vr r98]) rfl ?_
      refine XS.aload X98.here hx rfl (hb hby at_316) rfl rfl ?_
      exact k
     obtain ⟨cq100, kq100, q100a, q100b, q100c⟩ := isOf hZ e98 Ec98
     obtain ⟨_, _, ⟨T100, L100, c100, n100⟩, -, X100, ⟨Lc100, hQ100, l100, y100, z100⟩, st100⟩ := X98.virtualBack hx (y := own_y26) (z := own_y26) hown (om hZ hw 91 rfl) (om hZ hw 92 rfl) (notFace_of_selects (args := #[]) (om hZ hw 94 rfl)) (om hZ hw 94 rfl) (om hZ hw 93 rfl) (by decide) (backOf (W := 0) (own_rm15_1_2 l Z a0 hw r98 t98 k98 (((own_d2 x0 x1) >>> ((0 : Int32) &&& 31)).toInt8.toInt32) (((own_d2 x0 x1) >>> ((8 : Int32) &&& 31)).toInt8.toInt32) cs fm u8 h98 n0 Z98 O98 Ec98 Fv98 Fo98 Vc98 HB) hZ (own_w hw 95 rfl) (own_w hw 37 rfl) (by decide) (by decide)) q100a q100c (g := (mkF m 318 #[vi pa, vl pw, .second, vi pd, vi pc_, vi st, vi 2, vr b1, vi mu, vi le, vi co, vi 1, vi (own_dec x0 x1), vi x2, vi 0, vr b27, .val (.int (((pc_.toUInt32 >>> ((8 : Int32) &&& 31).toUInt32).toInt32) &&& (7 : Int32))), vr r98] [(.ref r98)])) rfl (by rw [hml]; rfl) (Steps.refl _) (argsL := []) (rest := []) (lenOf own_pd24 rfl) rfl (by show 2 * 0 + _ ≤ _; exact Nat.le_of_eq rfl) (hb hby at_318) (fun _ _ => ⟨rfl, e98, (by decide : 6 + 0 ≤ _), (by decide : 26 + 0 ≤ _)⟩)
     dsimp only [Pt.U, Pt.locs, Pt.cells, Pt.slots] at X100 l100 y100 z100 st100 hQ100
     subst l100 y100 z100
     obtain ⟨rfl, N100q, e100⟩ := hQ100
     have N100 := Fr.app N98 N100q
     refine own_tr (T' := T100) (g' := (mkF m 321 #[vi pa, vl pw, .second, vi pd, vi pc_, vi st, vi 2, vr b1, vi mu, vi le, vi co, vi 1, vi (own_dec x0 x1), vi x2, vi 0, vr b27, .val (.int (((pc_.toUInt32 >>> ((8 : Int32) &&& 31).toUInt32).toInt32) &&& (7 : Int32))), vr r98] [(.int 1)])) st100 ?_
     refine own_st (T' := T100) (g' := (mkF m 331 #[vi pa, vl pw, .second, vi pd, vi pc_, vi st, vi 2, vr b1, vi mu, vi le, vi co, vi 1, vi (own_dec x0 x1), vi x2, vi 0, vr b27, .val (.int (((pc_.toUInt32 >>> ((8 : Int32) &&& 31).toUInt32).toInt32) &&& (7 : Int32))), vr r98] [(.int (own_dec x0 x1)), (.int 0), (.ref r98)])) (fun t k => ?_) ?_
     ·refine XS.iload X100.here hx rfl (hb hby at_321) rfl ?_
      refine XS.icmpNo X100.here hx rfl (hb hby at_323) rfl (teq (rfl : (1 : Int32) = (1 : Int32))).2 ?_
      refine XS.aload X100.here hx rfl (hb hby at_326) rfl rfl ?_
      refine XS.iconst X100.here hx rfl (hb hby at_328) ?_
      refine XS.iload X100.here hx rfl (hb hby at_329) rfl ?_
      exact k
     obtain ⟨_, _, ⟨T101, L101, c101, n101⟩, -, X101, ⟨Lc101, hQ101, l101, y101, z101⟩, st101⟩ := Jvm.LawKit.callS X100 hx (y := own_y32) hown (om hZ hw 101 rfl) (om hZ hw 102 rfl) (om hZ hw 4 rfl) (om hZ hw 103 rfl) (by decide) (backOf (W := 0) (own_rm17_1_2_0 l Z a0 hw r98 t98 k98 (((own_d2 x0 x1) >>> ((0 : Int32) &&& 31)).toInt8.toInt32) (((own_d2 x0 x1) >>> ((8 : Int32) &&& 31)).toInt8.toInt32) (own_dec x0 x1) cs fm u8 h98 n0 Z98 O98 Ec98 Fv98 Fo98 Vc98 (own_eq_u hle hco) HB) hZ (own_w hw 103 rfl) (own_w hw 4 rfl) (by decide) (by decide)) (g := (mkF m 331 #[vi pa, vl pw, .second, vi pd, vi pc_, vi st, vi 2, vr b1, vi mu, vi le, vi co, vi 1, vi (own_dec x0 x1), vi x2, vi 0, vr b27, .val (.int (((pc_.toUInt32 >>> ((8 : Int32) &&& 31).toUInt32).toInt32) &&& (7 : Int32))), vr r98] [(.int (own_dec x0 x1)), (.int 0), (.ref r98)])) rfl (by rw [hml]; rfl) (argsL := [(.ref r98), (.int 0), (.int (own_dec x0 x1))]) (rest := []) (lenOf own_pd29 rfl) rfl (by show 2 * 0 + _ ≤ _; exact Nat.le_of_eq rfl) (hb hby at_331) (fun _ _ => ⟨rfl, e100, (by decide : 6 + 0 ≤ _), (by decide : 26 + 0 ≤ _)⟩)
     dsimp only [Pt.U, Pt.locs, Pt.cells, Pt.slots] at X101 l101 y101 z101 st101 hQ101
     subst l101 y101 z101
     obtain ⟨rfl, N101q, e101⟩ := hQ101
     have N101 := Fr.app N100 N101q
     refine own_st (T' := T101) (g' := (mkF m 334 #[vi pa, vl pw, .second, vi pd, vi pc_, vi st, vi 2, vr b1, vi mu, vi le, vi co, vi 1, vi (own_dec x0 x1), vi x2, vi 0, vr b27, .val (.int (((pc_.toUInt32 >>> ((8 : Int32) &&& 31).toUInt32).toInt32) &&& (7 : Int32))), vr r98] [(.int 1)])) st101 ?_
     refine own_st (T' := T101) (g' := (mkF m 342 #[vi pa, vl pw, .second, vi pd, vi pc_, vi st, vi 2, vr b1, vi mu, vi le, vi co, vi 1, vi (own_dec x0 x1), vi x2, vi 0, vr b27, .val (.int (((pc_.toUInt32 >>> ((8 : Int32) &&& 31).toUInt32).toInt32) &&& (7 : Int32))), vr r98] [(.int x2), (.int 1), (.ref r98)])) (fun t k => ?_) ?_
     ·refine XS.ifNo X101.here hx rfl (hb hby at_334) rfl ((if0 _ _).trans (feq (by decide : ¬ ((1 : Int32) = (0 : Int32)))).1) ?_
      refine XS.aload X101.here hx rfl (hb hby at_337) rfl rfl ?_
      refine XS.iconst X101.here hx rfl (hb hby at_339) ?_
      refine XS.iload X101.here hx rfl (hb hby at_340) rfl ?_
      exact k
     obtain ⟨_, _, ⟨T102, L102, c102, n102⟩, -, X102, ⟨Lc102, hQ102, l102, y102, z102⟩, st102⟩ := Jvm.LawKit.callS X101 hx (y := own_y32) hown (om hZ hw 101 rfl) (om hZ hw 102 rfl) (om hZ hw 4 rfl) (om hZ hw 103 rfl) (by decide) (backOf (W := 0) (own_rm17_1_2_1 l Z a0 hw r98 t98 k98 (((own_d2 x0 x1) >>> ((0 : Int32) &&& 31)).toInt8.toInt32) (((own_d2 x0 x1) >>> ((8 : Int32) &&& 31)).toInt8.toInt32) x2 cs fm u8 h98 n0 Z98 O98 Ec98 Fv98 Fo98 Vc98 HB) hZ (own_w hw 103 rfl) (own_w hw 4 rfl) (by decide) (by decide)) (g := (mkF m 342 #[vi pa, vl pw, .second, vi pd, vi pc_, vi st, vi 2, vr b1, vi mu, vi le, vi co, vi 1, vi (own_dec x0 x1), vi x2, vi 0, vr b27, .val (.int (((pc_.toUInt32 >>> ((8 : Int32) &&& 31).toUInt32).toInt32) &&& (7 : Int32))), vr r98] [(.int x2), (.int 1), (.ref r98)])) rfl (by rw [hml]; rfl) (argsL := [(.ref r98), (.int 1), (.int x2)]) (rest := []) (lenOf own_pd29 rfl) rfl (by show 2 * 0 + _ ≤ _; exact Nat.le_of_eq rfl) (hb hby at_342) (fun _ _ => ⟨rfl, e101, (by decide : 6 + 0 ≤ _), (by decide : 26 + 0 ≤ _)⟩)
     dsimp only [Pt.U, Pt.locs, Pt.cells, Pt.slots] at X102 l102 y102 z102 st102 hQ102
     subst l102 y102 z102
     obtain ⟨rfl, N102q, e102⟩ := hQ102
     have N102 := Fr.app N101 N102q
     refine own_st (T' := T102) (g' := (mkF m 345 #[vi pa, vl pw, .second, vi pd, vi pc_, vi st, vi 2, vr b1, vi mu, vi le, vi co, vi 1, vi (own_dec x0 x1), vi x2, vi 0, vr b27, .val (.int (((pc_.toUInt32 >>> ((8 : Int32) &&& 31).toUInt32).toInt32) &&& (7 : Int32))), vr r98] [(.int 1)])) st102 ?_
     refine own_st (T' := T102) (g' := (mkF m 353 #[vi pa, vl pw, .second, vi pd, vi pc_, vi st, vi 2, vr b1, vi mu, vi le, vi co, vi 1, vi (own_dec x0 x1), vi x2, vi 0, vr b27, .val (.int (((pc_.toUInt32 >>> ((8 : Int32) &&& 31).toUInt32).toInt32) &&& (7 : Int32))), vr r98] [(.int 0), (.int 2), (.ref r98)])) (fun t k => ?_) ?_
     ·refine XS.ifNo X102.here hx rfl (hb hby at_345) rfl ((if0 _ _).trans (feq (by decide : ¬ ((1 : Int32) = (0 : Int32)))).1) ?_
      refine XS.aload X102.here hx rfl (hb hby at_348) rfl rfl ?_
      refine XS.iconst X102.here hx rfl (hb hby at_350) ?_
      refine XS.iload X102.here hx rfl (hb hby at_351) rfl ?_
      exact k
     obtain ⟨_, _, ⟨T103, L103, c103, n103⟩, -, X103, ⟨Lc103, hQ103, l103, y103, z103⟩, st103⟩ := Jvm.LawKit.callS X102 hx (y := own_y32) hown (om hZ hw 101 rfl) (om hZ hw 102 rfl) (om hZ hw 4 rfl) (om hZ hw 103 rfl) (by decide) (backOf (W := 0) (own_rm17_1_2_2 l Z a0 hw r98 t98 k98 (((own_d2 x0 x1) >>> ((0 : Int32) &&& 31)).toInt8.toInt32) (((own_d2 x0 x1) >>> ((8 : Int32) &&& 31)).toInt8.toInt32) (0 : Int32) cs fm u8 h98 n0 Z98 O98 Ec98 Fv98 Fo98 Vc98 HB) hZ (own_w hw 103 rfl) (own_w hw 4 rfl) (by decide) (by decide)) (g := (mkF m 353 #[vi pa, vl pw, .second, vi pd, vi pc_, vi st, vi 2, vr b1, vi mu, vi le, vi co, vi 1, vi (own_dec x0 x1), vi x2, vi 0, vr b27, .val (.int (((pc_.toUInt32 >>> ((8 : Int32) &&& 31).toUInt32).toInt32) &&& (7 : Int32))), vr r98] [(.int 0), (.int 2), (.ref r98)])) rfl (by rw [hml]; rfl) (argsL := [(.ref r98), (.int 2), (.int 0)]) (rest := []) (lenOf own_pd29 rfl) rfl (by show 2 * 0 + _ ≤ _; exact Nat.le_of_eq rfl) (hb hby at_353) (fun _ _ => ⟨rfl, e102, (by decide : 6 + 0 ≤ _), (by decide : 26 + 0 ≤ _)⟩)
     dsimp only [Pt.U, Pt.locs, Pt.cells, Pt.slots] at X103 l103 y103 z103 st103 hQ103
     subst l103 y103 z103
     obtain ⟨rfl, N103q, e103⟩ := hQ103
     have N103 := Fr.app N102 N103q
     refine own_st (T' := T103) (g' := (mkF m 356 #[vi pa, vl pw, .second, vi pd, vi pc_, vi st, vi 2, vr b1, vi mu, vi le, vi co, vi 1, vi (own_dec x0 x1), vi x2, vi 0, vr b27, .val (.int (((pc_.toUInt32 >>> ((8 : Int32) &&& 31).toUInt32).toInt32) &&& (7 : Int32))), vr r98] [(.int 1)])) st103 ?_
     refine own_st (T' := T103) (g' := (mkF m 364 #[vi pa, vl pw, .second, vi pd, vi pc_, vi st, vi 2, vr b1, vi mu, vi le, vi co, vi 1, vi (own_dec x0 x1), vi x2, vi 0, vr b27, .val (.int (((pc_.toUInt32 >>> ((8 : Int32) &&& 31).toUInt32).toInt32) &&& (7 : Int32))), vr r98] [(.int 1)])) (fun t k => ?_) ?_
     ·refine XS.ifNo X103.here hx rfl (hb hby at_356) rfl ((if0 _ _).trans (feq (by decide : ¬ ((1 : Int32) = (0 : Int32)))).1) ?_
      refine XS.iconst X103.here hx rfl (hb hby at_359) ?_
      refine XS.goto X103.here hx rfl (pc0 := 360) (pc' := 364) rfl (hb hby at_360) (by decide) (by decide) ?_
      exact k
     exact own_retN X103 hx Bd (t := .boolean) (by simp) rfl (hb hby at_364) e103 (⟨rfl, N103⟩) (by decide) (by decide)
    ·subst hq
     replace hel : el = (2 : Int32) := hel.trans (by decide)
     subst hel
     have hm0 := own_lead_neg hle
     refine own_st (T' := T43) (g' := (mkF m 311 #[vi pa, vl pw, .second, vi pd, vi pc_, vi st, vi 3, vr b1, vi mu, vi le, vi co, vi 2, vi (own_dec x0 x1), vi x2, vi 0, vr b27, .val (.int (((pc_.toUInt32 >>> ((8 : Int32) &&& 31).toUInt32).toInt32) &&& (7 : Int32))), .unset] [(.ref b27)])) (fun t k => ?_) ?_
     ·refine XS.aload X43.here hx rfl (hb hby at_309) rfl rfl ?_
      exact k
     have f104 := f42.wr W43
     have f105 := (((fw30.other W33 (Or.inr (slot_ne (Or.inl (own_w hw 17 rfl)) (Or.inl (own_w hw 19 rfl)) (by decide) (t := (.array .byte)) (t' := .int) (by decide) (by decide)))).other W37 (Or.inr (slot_ne (Or.inl (own_w hw 17 rfl)) (Or.inl (own_w hw 25 rfl)) (by decide) (t := (.array .byte)) (t' := .int) (by decide) (by decide)))).other W40 (Or.inr (slot_ne (Or.inl (own_w hw 17 rfl)) (Or.inl (own_w hw 27 rfl)) (by decide) (t := (.array .byte)) (t' := .int) (by decide) (by decide)))).other W43 (Or.inr (slot_ne (Or.inl (own_w hw 17 rfl)) (Or.inl (own_w hw 29 rfl)) (by decide) (t := (.array .byte)) (t' := .int) (by decide) (by decide)))
     have f106 := fw40.other W43 (Or.inr (slot_ne (Or.inl (own_w hw 27 rfl)) (Or.inl (own_w hw 29 rfl)) (by decide) (t := .int) (t' := .int) (by decide) (by decide)))
     have f107 := (((((Vj.ext E27).other W30 ne_b1_b27).other W33 ne_b1_b27).other W37 ne_b1_b27).other W40 ne_b1_b27).other W43 ne_b1_b27
     obtain ⟨cq108, kq108, q108a, q108b, q108c⟩ := isOf hZ e43 f104
     obtain ⟨_, _, ⟨T108, L108, c108, n108⟩, -, X108, ⟨Lc108, hQ108, l108, y108, z108⟩, st108⟩ := X43.virtualBack hx (y := own_y23) (z := own_y23) hown (om hZ hw 30 rfl) (om hZ hw 31 rfl) (notFace_of_selects (args := #[]) (om hZ hw 33 rfl)) (om hZ hw 33 rfl) (om hZ hw 32 rfl) (by decide) (backOf (W := 0) (own_rm5u3 l Z a0 hw b27 b1 k1 y0 y1 y2 y3 y4 y5 y6 y7 st x0 x1 x2 cs fm u8 h43 n0 Z43 O43 f104 f105 f106 fw43 f107 ⟨ho, hx0, hx1, hx2⟩ hm0 hle hco ha2 hla HB) hZ (own_w hw 34 rfl) (own_w hw 9 rfl) (by decide) (by decide)) q108a q108c (g := (mkF m 311 #[vi pa, vl pw, .second, vi pd, vi pc_, vi st, vi 3, vr b1, vi mu, vi le, vi co, vi 2, vi (own_dec x0 x1), vi x2, vi 0, vr b27, .val (.int (((pc_.toUInt32 >>> ((8 : Int32) &&& 31).toUInt32).toInt32) &&& (7 : Int32))), .unset] [(.ref b27)])) rfl (by rw [hml]; rfl) (Steps.refl _) (argsL := []) (rest := []) (lenOf own_pd28 rfl) rfl (by show 2 * 0 + _ ≤ _; exact Nat.le_of_eq rfl) (hb hby at_311) (fun _ _ => ⟨rfl, e43, (by decide : 2 + 4 ≤ _), (by decide : 14 + 17 ≤ _)⟩)
     dsimp only [Pt.U, Pt.locs, Pt.cells, Pt.slots] at X108 l108 y108 z108 st108 hQ108
     subst l108 y108 z108
     obtain ⟨h108, e108⟩ : ∃ z, T108.heap = z := ⟨_, rfl⟩
     rw [e108] at hQ108
     obtain ⟨r108, t108, k108, rfl, N108q, Kc108, g108, hz108, Ec108, Fv108, Fo108, Vc108⟩ := hQ108
     have N108 := Fr.app N43 N108q
     have f109 := E_u8.ext O43.2
     have ne_u8_r108 : u8 ≠ r108 := Nat.ne_of_lt (Nat.lt_of_lt_of_le f109.lt hz108)
     have ne_b1_r108 : b1 ≠ r108 := Nat.ne_of_lt (Nat.lt_of_lt_of_le f107.lt hz108)
     have ne_b27_r108 : b27 ≠ r108 := Nat.ne_of_lt (Nat.lt_of_lt_of_le f104.lt hz108)
     have hwr108 : h0.size ≤ r108 := Nat.le_trans K43.1 hz108
     have K108 : Keep h0 h108 [] := K43.trans Kc108 all0
     have Z108 : n0 ≤ h108.size := Nat.le_trans Z43 Kc108.1
     have O108 := O43.keep Kc108 all0
     refine own_tr (T' := T108) (g' := (mkF m 314 #[vi pa, vl pw, .second, vi pd, vi pc_, vi st, vi 3, vr b1, vi mu, vi le, vi co, vi 2, vi (own_dec x0 x1), vi x2, vi 0, vr b27, .val (.int (((pc_.toUInt32 >>> ((8 : Int32) &&& 31).toUInt32).toInt32) &&& (7 : Int32))), .unset] [(.ref r108)])) st108 ?_
     refine own_st (T' := T108) (g' := (mkF m 318 #[vi pa, vl pw, .second, vi pd, vi pc_, vi st, vi 3, vr b1, vi mu, vi le, vi co, vi 2, vi (own_dec x0 x1), vi x2, vi 0, vr b27, .val (.int (((pc_.toUInt32 >>> ((8 : Int32) &&& 31).toUInt32).toInt32) &&& (7 : Int32))), vr r108] [(.ref r108)])) (fun t k => ?_) ?_
     ·refine XS.astore X108.here hx rfl (hb hby at_314) rfl rfl (l' := #[vi pa, vl pw, .second, vi pd, vi pc_, vi st, vi 3, vr b1, vi mu, vi le, vi co, vi 2, vi (own_dec x0 x1), vi x2, vi 0, vr b27, .val (.int (((pc_.toUInt32 >>> ((8 : Int32) &&& 31).toUInt32).toInt32) &&& (7 : Int32))), vr r108]) rfl ?_
      refine XS.aload X108.here hx rfl (hb hby at_316) rfl rfl ?_
      exact k
     obtain ⟨cq110, kq110, q110a, q110b, q110c⟩ := isOf hZ e108 Ec108
     obtain ⟨_, _, ⟨T110, L110, c110, n110⟩, -, X110, ⟨Lc110, hQ110, l110, y110, z110⟩, st110⟩ := X108.virtualBack hx (y := own_y26) (z := own_y26) hown (om hZ hw 91 rfl) (om hZ hw 92 rfl) (notFace_of_selects (args := #[]) (om hZ hw 94 rfl)) (om hZ hw 94 rfl) (om hZ hw 93 rfl) (by decide) (backOf (W := 0) (own_rm15_1_4 l Z a0 hw r108 t108 k108 (((own_d2 x0 x1) >>> ((0 : Int32) &&& 31)).toInt8.toInt32) (((own_d2 x0 x1) >>> ((8 : Int32) &&& 31)).toInt8.toInt32) (((x2.toUInt32.toUInt16.toUInt32.toInt32) >>> ((0 : Int32) &&& 31)).toInt8.toInt32) (((x2.toUInt32.toUInt16.toUInt32.toInt32) >>> ((8 : Int32) &&& 31)).toInt8.toInt32) cs fm u8 h108 n0 Z108 O108 Ec108 Fv108 Fo108 Vc108 HB) hZ (own_w hw 95 rfl) (own_w hw 37 rfl) (by decide) (by decide)) q110a q110c (g := (mkF m 318 #[vi pa, vl pw, .second, vi pd, vi pc_, vi st, vi 3, vr b1, vi mu, vi le, vi co, vi 2, vi (own_dec x0 x1), vi x2, vi 0, vr b27, .val (.int (((pc_.toUInt32 >>> ((8 : Int32) &&& 31).toUInt32).toInt32) &&& (7 : Int32))), vr r108] [(.ref r108)])) rfl (by rw [hml]; rfl) (Steps.refl _) (argsL := []) (rest := []) (lenOf own_pd24 rfl) rfl (by show 2 * 0 + _ ≤ _; exact Nat.le_of_eq rfl) (hb hby at_318) (fun _ _ => ⟨rfl, e108, (by decide : 6 + 0 ≤ _), (by decide : 31 + 0 ≤ _)⟩)
     dsimp only [Pt.U, Pt.locs, Pt.cells, Pt.slots] at X110 l110 y110 z110 st110 hQ110
     subst l110 y110 z110
     obtain ⟨rfl, N110q, e110⟩ := hQ110
     have N110 := Fr.app N108 N110q
     refine own_tr (T' := T110) (g' := (mkF m 321 #[vi pa, vl pw, .second, vi pd, vi pc_, vi st, vi 3, vr b1, vi mu, vi le, vi co, vi 2, vi (own_dec x0 x1), vi x2, vi 0, vr b27, .val (.int (((pc_.toUInt32 >>> ((8 : Int32) &&& 31).toUInt32).toInt32) &&& (7 : Int32))), vr r108] [(.int 2)])) st110 ?_
     refine own_st (T' := T110) (g' := (mkF m 331 #[vi pa, vl pw, .second, vi pd, vi pc_, vi st, vi 3, vr b1, vi mu, vi le, vi co, vi 2, vi (own_dec x0 x1), vi x2, vi 0, vr b27, .val (.int (((pc_.toUInt32 >>> ((8 : Int32) &&& 31).toUInt32).toInt32) &&& (7 : Int32))), vr r108] [(.int (own_dec x0 x1)), (.int 0), (.ref r108)])) (fun t k => ?_) ?_
     ·refine XS.iload X110.here hx rfl (hb hby at_321) rfl ?_
      refine XS.icmpNo X110.here hx rfl (hb hby at_323) rfl (teq (rfl : (2 : Int32) = (2 : Int32))).2 ?_
      refine XS.aload X110.here hx rfl (hb hby at_326) rfl rfl ?_
      refine XS.iconst X110.here hx rfl (hb hby at_328) ?_
      refine XS.iload X110.here hx rfl (hb hby at_329) rfl ?_
      exact k
     obtain ⟨_, _, ⟨T111, L111, c111, n111⟩, -, X111, ⟨Lc111, hQ111, l111, y111, z111⟩, st111⟩ := Jvm.LawKit.callS X110 hx (y := own_y32) hown (om hZ hw 101 rfl) (om hZ hw 102 rfl) (om hZ hw 4 rfl) (om hZ hw 103 rfl) (by decide) (backOf (W := 0) (own_rm17_1_4_0 l Z a0 hw r108 t108 k108 (((own_d2 x0 x1) >>> ((0 : Int32) &&& 31)).toInt8.toInt32) (((own_d2 x0 x1) >>> ((8 : Int32) &&& 31)).toInt8.toInt32) (((x2.toUInt32.toUInt16.toUInt32.toInt32) >>> ((0 : Int32) &&& 31)).toInt8.toInt32) (((x2.toUInt32.toUInt16.toUInt32.toInt32) >>> ((8 : Int32) &&& 31)).toInt8.toInt32) (own_dec x0 x1) cs fm u8 h108 n0 Z108 O108 Ec108 Fv108 Fo108 Vc108 (own_eq_u hle hco) HB) hZ (own_w hw 103 rfl) (own_w hw 4 rfl) (by decide) (by decide)) (g := (mkF m 331 #[vi pa, vl pw, .second, vi pd, vi pc_, vi st, vi 3, vr b1, vi mu, vi le, vi co, vi 2, vi (own_dec x0 x1), vi x2, vi 0, vr b27, .val (.int (((pc_.toUInt32 >>> ((8 : Int32) &&& 31).toUInt32).toInt32) &&& (7 : Int32))), vr r108] [(.int (own_dec x0 x1)), (.int 0), (.ref r108)])) rfl (by rw [hml]; rfl) (argsL := [(.ref r108), (.int 0), (.int (own_dec x0 x1))]) (rest := []) (lenOf own_pd29 rfl) rfl (by show 2 * 0 + _ ≤ _; exact Nat.le_of_eq rfl) (hb hby at_331) (fun _ _ => ⟨rfl, e110, (by decide : 6 + 0 ≤ _), (by decide : 31 + 0 ≤ _)⟩)
     dsimp only [Pt.U, Pt.locs, Pt.cells, Pt.slots] at X111 l111 y111 z111 st111 hQ111
     subst l111 y111 z111
     obtain ⟨rfl, N111q, e111⟩ := hQ111
     have N111 := Fr.app N110 N111q
     refine own_st (T' := T111) (g' := (mkF m 334 #[vi pa, vl pw, .second, vi pd, vi pc_, vi st, vi 3, vr b1, vi mu, vi le, vi co, vi 2, vi (own_dec x0 x1), vi x2, vi 0, vr b27, .val (.int (((pc_.toUInt32 >>> ((8 : Int32) &&& 31).toUInt32).toInt32) &&& (7 : Int32))), vr r108] [(.int 1)])) st111 ?_
     refine own_st (T' := T111) (g' := (mkF m 342 #[vi pa, vl pw, .second, vi pd, vi pc_, vi st, vi 3, vr b1, vi mu, vi le, vi co, vi 2, vi (own_dec x0 x1), vi x2, vi 0, vr b27, .val (.int (((pc_.toUInt32 >>> ((8 : Int32) &&& 31).toUInt32).toInt32) &&& (7 : Int32))), vr r108] [(.int x2), (.int 1), (.ref r108)])) (fun t k => ?_) ?_
     ·refine XS.ifNo X111.here hx rfl (hb hby at_334) rfl ((if0 _ _).trans (feq (by decide : ¬ ((1 : Int32) = (0 : Int32)))).1) ?_
      refine XS.aload X111.here hx rfl (hb hby at_337) rfl rfl ?_
      refine XS.iconst X111.here hx rfl (hb hby at_339) ?_
      refine XS.iload X111.here hx rfl (hb hby at_340) rfl ?_
      exact k
     obtain ⟨_, _, ⟨T112, L112, c112, n112⟩, -, X112, ⟨Lc112, hQ112, l112, y112, z112⟩, st112⟩ := Jvm.LawKit.callS X111 hx (y := own_y32) hown (om hZ hw 101 rfl) (om hZ hw 102 rfl) (om hZ hw 4 rfl) (om hZ hw 103 rfl) (by decide) (backOf (W := 0) (own_rm17_1_4_1 l Z a0 hw r108 t108 k108 (((own_d2 x0 x1) >>> ((0 : Int32) &&& 31)).toInt8.toInt32) (((own_d2 x0 x1) >>> ((8 : Int32) &&& 31)).toInt8.toInt32) (((x2.toUInt32.toUInt16.toUInt32.toInt32) >>> ((0 : Int32) &&& 31)).toInt8.toInt32) (((x2.toUInt32.toUInt16.toUInt32.toInt32) >>> ((8 : Int32) &&& 31)).toInt8.toInt32) x2 cs fm u8 h108 n0 Z108 O108 Ec108 Fv108 Fo108 Vc108 (own_eq_au as2) HB) hZ (own_w hw 103 rfl) (own_w hw 4 rfl) (by decide) (by decide)) (g := (mkF m 342 #[vi pa, vl pw, .second, vi pd, vi pc_, vi st, vi 3, vr b1, vi mu, vi le, vi co, vi 2, vi (own_dec x0 x1), vi x2, vi 0, vr b27, .val (.int (((pc_.toUInt32 >>> ((8 : Int32) &&& 31).toUInt32).toInt32) &&& (7 : Int32))), vr r108] [(.int x2), (.int 1), (.ref r108)])) rfl (by rw [hml]; rfl) (argsL := [(.ref r108), (.int 1), (.int x2)]) (rest := []) (lenOf own_pd29 rfl) rfl (by show 2 * 0 + _ ≤ _; exact Nat.le_of_eq rfl) (hb hby at_342) (fun _ _ => ⟨rfl, e111, (by decide : 6 + 0 ≤ _), (by decide : 31 + 0 ≤ _)⟩)
     dsimp only [Pt.U, Pt.locs, Pt.cells, Pt.slots] at X112 l112 y112 z112 st112 hQ112
     subst l112 y112 z112
     obtain ⟨rfl, N112q, e112⟩ := hQ112
     have N112 := Fr.app N111 N112q
     refine own_st (T' := T112) (g' := (mkF m 345 #[vi pa, vl pw, .second, vi pd, vi pc_, vi st, vi 3, vr b1, vi mu, vi le, vi co, vi 2, vi (own_dec x0 x1), vi x2, vi 0, vr b27, .val (.int (((pc_.toUInt32 >>> ((8 : Int32) &&& 31).toUInt32).toInt32) &&& (7 : Int32))), vr r108] [(.int 1)])) st112 ?_
     refine own_st (T' := T112) (g' := (mkF m 353 #[vi pa, vl pw, .second, vi pd, vi pc_, vi st, vi 3, vr b1, vi mu, vi le, vi co, vi 2, vi (own_dec x0 x1), vi x2, vi 0, vr b27, .val (.int (((pc_.toUInt32 >>> ((8 : Int32) &&& 31).toUInt32).toInt32) &&& (7 : Int32))), vr r108] [(.int 0), (.int 2), (.ref r108)])) (fun t k => ?_) ?_
     ·refine XS.ifNo X112.here hx rfl (hb hby at_345) rfl ((if0 _ _).trans (feq (by decide : ¬ ((1 : Int32) = (0 : Int32)))).1) ?_
      refine XS.aload X112.here hx rfl (hb hby at_348) rfl rfl ?_
      refine XS.iconst X112.here hx rfl (hb hby at_350) ?_
      refine XS.iload X112.here hx rfl (hb hby at_351) rfl ?_
      exact k
     obtain ⟨_, _, ⟨T113, L113, c113, n113⟩, -, X113, ⟨Lc113, hQ113, l113, y113, z113⟩, st113⟩ := Jvm.LawKit.callS X112 hx (y := own_y32) hown (om hZ hw 101 rfl) (om hZ hw 102 rfl) (om hZ hw 4 rfl) (om hZ hw 103 rfl) (by decide) (backOf (W := 0) (own_rm17_1_4_2 l Z a0 hw r108 t108 k108 (((own_d2 x0 x1) >>> ((0 : Int32) &&& 31)).toInt8.toInt32) (((own_d2 x0 x1) >>> ((8 : Int32) &&& 31)).toInt8.toInt32) (((x2.toUInt32.toUInt16.toUInt32.toInt32) >>> ((0 : Int32) &&& 31)).toInt8.toInt32) (((x2.toUInt32.toUInt16.toUInt32.toInt32) >>> ((8 : Int32) &&& 31)).toInt8.toInt32) (0 : Int32) cs fm u8 h108 n0 Z108 O108 Ec108 Fv108 Fo108 Vc108 HB) hZ (own_w hw 103 rfl) (own_w hw 4 rfl) (by decide) (by decide)) (g := (mkF m 353 #[vi pa, vl pw, .second, vi pd, vi pc_, vi st, vi 3, vr b1, vi mu, vi le, vi co, vi 2, vi (own_dec x0 x1), vi x2, vi 0, vr b27, .val (.int (((pc_.toUInt32 >>> ((8 : Int32) &&& 31).toUInt32).toInt32) &&& (7 : Int32))), vr r108] [(.int 0), (.int 2), (.ref r108)])) rfl (by rw [hml]; rfl) (argsL := [(.ref r108), (.int 2), (.int 0)]) (rest := []) (lenOf own_pd29 rfl) rfl (by show 2 * 0 + _ ≤ _; exact Nat.le_of_eq rfl) (hb hby at_353) (fun _ _ => ⟨rfl, e112, (by decide : 6 + 0 ≤ _), (by decide : 31 + 0 ≤ _)⟩)
     dsimp only [Pt.U, Pt.locs, Pt.cells, Pt.slots] at X113 l113 y113 z113 st113 hQ113
     subst l113 y113 z113
     obtain ⟨rfl, N113q, e113⟩ := hQ113
     have N113 := Fr.app N112 N113q
     refine own_st (T' := T113) (g' := (mkF m 356 #[vi pa, vl pw, .second, vi pd, vi pc_, vi st, vi 3, vr b1, vi mu, vi le, vi co, vi 2, vi (own_dec x0 x1), vi x2, vi 0, vr b27, .val (.int (((pc_.toUInt32 >>> ((8 : Int32) &&& 31).toUInt32).toInt32) &&& (7 : Int32))), vr r108] [(.int 1)])) st113 ?_
     refine own_st (T' := T113) (g' := (mkF m 364 #[vi pa, vl pw, .second, vi pd, vi pc_, vi st, vi 3, vr b1, vi mu, vi le, vi co, vi 2, vi (own_dec x0 x1), vi x2, vi 0, vr b27, .val (.int (((pc_.toUInt32 >>> ((8 : Int32) &&& 31).toUInt32).toInt32) &&& (7 : Int32))), vr r108] [(.int 1)])) (fun t k => ?_) ?_
     ·refine XS.ifNo X113.here hx rfl (hb hby at_356) rfl ((if0 _ _).trans (feq (by decide : ¬ ((1 : Int32) = (0 : Int32)))).1) ?_
      refine XS.iconst X113.here hx rfl (hb hby at_359) ?_
      refine XS.goto X113.here hx rfl (pc0 := 360) (pc' := 364) rfl (hb hby at_360) (by decide) (by decide) ?_
      exact k
     exact own_retN X113 hx Bd (t := .boolean) (by simp) rfl (hb hby at_364) e113 (⟨rfl, N113⟩) (by decide) (by decide)
 have Jn : ∀ (T : State) (locs : List Loc), Stand p l e room_1 s m #[(.int pa), (.long pw), (.int pd), (.int pc_)] below meth c T locs 1 8 → Fr n0 locs → T.heap = h26 → own_Go p e below (own_K s (own_Q0 Z pa pw pd pc_ cs fm u8 h0 n0) room_1.cells room_1.slots) T (mkF m 118 #[vi pa, vl pw, .second, vi pd, vi pc_, vi st, vi ln, vr b1, vi 0, .unset, .unset, .unset, .unset, .unset, .unset, .unset, .unset, .unset] []) := by
  intro T114 locs114 X114 N114 e114
  refine own_st (T' := T114) (g' := (mkF m 144 #[vi pa, vl pw, .second, vi pd, vi pc_, vi st, vi ln, vr b1, vi 0, .val (.int ((194 : Int32) + ((((pd.toUInt32 >>> ((1 : Int32) &&& 31).toUInt32).toInt32) &&& (2147483647 : Int32)) % (30 : Int32)))), vi ((128 : Int32) ||| (pc_ &&& (63 : Int32))), .unset, .unset, .unset, .unset, .unset, .unset, .unset] [])) (fun t k => ?_) ?_
  ·refine XS.sipush X114.here hx rfl (hb hby at_118) ?_
   refine XS.iloadN X114.here hx rfl (hb hby at_121) rfl ?_
   refine XS.iconst X114.here hx rfl (hb hby at_122) ?_
   refine XS.iushr X114.here hx rfl (hb hby at_123) rfl ?_
   refine X114.ldcInt hx hown (om hZ hw 0 rfl) (g := (mkF m 124 #[vi pa, vl pw, .second, vi pd, vi pc_, vi st, vi ln, vr b1, vi 0, .unset, .unset, .unset, .unset, .unset, .unset, .unset, .unset, .unset] [(.int ((pd.toUInt32 >>> ((1 : Int32) &&& 31).toUInt32).toInt32)), (.int 194)])) rfl (hb hby at_124) _ ?_
   refine XS.iand X114.here hx rfl (hb hby at_126) rfl ?_
   refine XS.bipush X114.here hx rfl (hb hby at_127) ?_
   refine iremM X114 hx rfl (hb hby at_129) rfl (by decide) ?_
   refine XS.iadd X114.here hx rfl (hb hby at_130) rfl ?_
   refine XS.istore X114.here hx rfl (hb hby at_131) rfl (l' := #[vi pa, vl pw, .second, vi pd, vi pc_, vi st, vi ln, vr b1, vi 0, .val (.int ((194 : Int32) + ((((pd.toUInt32 >>> ((1 : Int32) &&& 31).toUInt32).toInt32) &&& (2147483647 : Int32)) % (30 : Int32)))), .unset, .unset, .unset, .unset, .unset, .unset, .unset, .unset]) rfl ?_
   refine XS.sipush X114.here hx rfl (hb hby at_133) ?_
   refine XS.iload X114.here hx rfl (hb hby at_136) rfl ?_
   refine XS.bipush X114.here hx rfl (hb hby at_138) ?_
   refine XS.iand X114.here hx rfl (hb hby at_140) rfl ?_
   refine XS.ior X114.here hx rfl (hb hby at_141) rfl ?_
   refine XS.istore X114.here hx rfl (hb hby at_142) rfl (l' := #[vi pa, vl pw, .second, vi pd, vi pc_, vi st, vi ln, vr b1, vi 0, .val (.int ((194 : Int32) + ((((pd.toUInt32 >>> ((1 : Int32) &&& 31).toUInt32).toInt32) &&& (2147483647 : Int32)) % (30 : Int32)))), vi ((128 : Int32) ||| (pc_ &&& (63 : Int32))), .unset, .unset, .unset, .unset, .unset, .unset, .unset]) rfl ?_
   exact k
  obtain ⟨le, eqle⟩ : ∃ z, z = ((194 : Int32) + ((((pd.toUInt32 >>> ((1 : Int32) &&& 31).toUInt32).toInt32) &&& (2147483647 : Int32)) % (30 : Int32))) := ⟨_, rfl⟩
  obtain ⟨co, eqco⟩ : ∃ z, z = ((128 : Int32) ||| (pc_ &&& (63 : Int32))) := ⟨_, rfl⟩
  rw [← eqle, ← eqco]
  rcases ho with hs_ | hs_ | hs_ | hs_
  ·subst hs_
   refine own_st (T' := T114) (g' := (mkF m 217 #[vi pa, vl pw, .second, vi pd, vi pc_, vi 0, vi ln, vr b1, vi 0, vi le, vi co, vi ln, .unset, .unset, .unset, .unset, .unset, .unset] [(.int 0), (.ref b1)])) (fun t k => ?_) ?_
   ·refine XS.iload X114.here hx rfl (hb hby at_144) rfl ?_
    refine XS.ifYes X114.here hx rfl (pc0 := 146) (pc' := 167) rfl (hb hby at_146) rfl ((if0 _ _).trans (teq (by decide)).1) (by decide) (by decide) ?_
    refine XS.iload X114.here hx rfl (hb hby at_167) rfl ?_
    refine XS.ifYes X114.here hx rfl (pc0 := 169) (pc' := 209) rfl (hb hby at_169) rfl ((if0 _ _).trans (teq (by decide)).1) (by decide) (by decide) ?_
    refine XS.iload X114.here hx rfl (hb hby at_209) rfl ?_
    refine XS.istore X114.here hx rfl (hb hby at_211) rfl (l' := #[vi pa, vl pw, .second, vi pd, vi pc_, vi 0, vi ln, vr b1, vi 0, vi le, vi co, vi ln, .unset, .unset, .unset, .unset, .unset, .unset]) rfl ?_
    refine XS.aload X114.here hx rfl (hb hby at_213) rfl rfl ?_
    refine XS.iload X114.here hx rfl (hb hby at_215) rfl ?_
    exact k
   obtain ⟨cl115, Ar115, q115, S115, M115, H115, G115⟩ := id fw26
   refine own_st (T' := T114) (g' := (mkF m 226 #[vi pa, vl pw, .second, vi pd, vi pc_, vi 0, vi ln, vr b1, vi 0, vi le, vi co, vi ln, vi b_0, .unset, .unset, .unset, .unset, .unset] [(.int 1), (.ref b1)])) (fun t k => ?_) ?_
   ·refine X114.baloadBytes hx (j := (0 : Int32)) (v := (.int b_0)) (by rw [e114]; exact Ar115.1) (State.isArrayOf_alike hZ.alike Ar115.2.1) Ar115.2.2 (inb_of S115 ⟨by decide, by decide⟩) (Has.at H115 (inb_of S115 ⟨by decide, by decide⟩) rfl) (g := (mkF m 217 #[vi pa, vl pw, .second, vi pd, vi pc_, vi 0, vi ln, vr b1, vi 0, vi le, vi co, vi ln, .unset, .unset, .unset, .unset, .unset, .unset] [(.int 0), (.ref b1)])) rfl rfl (hb hby at_217) _ ?_
    refine XS.istore X114.here hx rfl (hb hby at_218) rfl (l' := #[vi pa, vl pw, .second, vi pd, vi pc_, vi 0, vi ln, vr b1, vi 0, vi le, vi co, vi ln, vi b_0, .unset, .unset, .unset, .unset, .unset]) rfl ?_
    refine XS.aload X114.here hx rfl (hb hby at_220) rfl rfl ?_
    refine XS.iload X114.here hx rfl (hb hby at_222) rfl ?_
    refine XS.iconst X114.here hx rfl (hb hby at_224) ?_
    refine XS.iadd X114.here hx rfl (hb hby at_225) rfl ?_
    exact k
   obtain ⟨cl116, Ar116, q116, S116, M116, H116, G116⟩ := id fw26
   refine own_st (T' := T114) (g' := (mkF m 235 #[vi pa, vl pw, .second, vi pd, vi pc_, vi 0, vi ln, vr b1, vi 0, vi le, vi co, vi ln, vi b_0, vi b_1, .unset, .unset, .unset, .unset] [(.int 2), (.ref b1)])) (fun t k => ?_) ?_
   ·refine X114.baloadBytes hx (j := (1 : Int32)) (v := (.int b_1)) (by rw [e114]; exact Ar116.1) (State.isArrayOf_alike hZ.alike Ar116.2.1) Ar116.2.2 (inb_of S116 ⟨by decide, by decide⟩) (Has.at H116 (inb_of S116 ⟨by decide, by decide⟩) rfl) (g := (mkF m 226 #[vi pa, vl pw, .second, vi pd, vi pc_, vi 0, vi ln, vr b1, vi 0, vi le, vi co, vi ln, vi b_0, .unset, .unset, .unset, .unset, .unset] [(.int 1), (.ref b1)])) rfl rfl (hb hby at_226) _ ?_
    refine XS.istore X114.here hx rfl (hb hby at_227) rfl (l' := #[vi pa, vl pw, .second, vi pd, vi pc_, vi 0, vi ln, vr b1, vi 0, vi le, vi co, vi ln, vi b_0, vi b_1, .unset, .unset, .unset, .unset]) rfl ?_
    refine XS.aload X114.here hx rfl (hb hby at_229) rfl rfl ?_
    refine XS.iload X114.here hx rfl (hb hby at_231) rfl ?_
    refine XS.iconst X114.here hx rfl (hb hby at_233) ?_
    refine XS.iadd X114.here hx rfl (hb hby at_234) rfl ?_
    exact k
   obtain ⟨cl117, Ar117, q117, S117, M117, H117, G117⟩ := id fw26
   refine own_st (T' := T114) (g' := (mkF m 238 #[vi pa, vl pw, .second, vi pd, vi pc_, vi 0, vi ln, vr b1, vi 0, vi le, vi co, vi ln, vi b_0, vi b_1, vi b_2, .unset, .unset, .unset] [])) (fun t k => ?_) ?_
   ·refine X114.baloadBytes hx (j := (2 : Int32)) (v := (.int b_2)) (by rw [e114]; exact Ar117.1) (State.isArrayOf_alike hZ.alike Ar117.2.1) Ar117.2.2 (inb_of S117 ⟨by decide, by decide⟩) (Has.at H117 (inb_of S117 ⟨by decide, by decide⟩) rfl) (g := (mkF m 235 #[vi pa, vl pw, .second, vi pd, vi pc_, vi 0, vi ln, vr b1, vi 0, vi le, vi co, vi ln, vi b_0, vi b_1, .unset, .unset, .unset, .unset] [(.int 2), (.ref b1)])) rfl rfl (hb hby at_235) _ ?_
    refine XS.istore X114.here hx rfl (hb hby at_236) rfl (l' := #[vi pa, vl pw, .second, vi pd, vi pc_, vi 0, vi ln, vr b1, vi 0, vi le, vi co, vi ln, vi b_0, vi b_1, vi b_2, .unset, .unset, .unset]) rfl ?_
    exact k
   exact J (0 : Int32) le co ln b_0 b_1 b_2 (b_0) (b_1) (b_2) (b_3) (b_4) (b_5) (b_6) (b_7) (b_0) (b_1) (b_2) _ fw26 K26 O26 Z26 rfl rfl rfl (Or.inl ⟨hs0, hs1, hs2, rfl, rfl, rfl, rfl⟩) T114 _ X114 N114 e114
  ·subst hs_
   refine own_st (T' := T114) (g' := (mkF m 217 #[vi pa, vl pw, .second, vi pd, vi pc_, vi 1, vi ln, vr b1, vi 0, vi le, vi co, vi ln, .unset, .unset, .unset, .unset, .unset, .unset] [(.int 1), (.ref b1)])) (fun t k => ?_) ?_
   ·refine XS.iload X114.here hx rfl (hb hby at_144) rfl ?_
    refine XS.ifYes X114.here hx rfl (pc0 := 146) (pc' := 167) rfl (hb hby at_146) rfl ((if0 _ _).trans (teq (by decide)).1) (by decide) (by decide) ?_
    refine XS.iload X114.here hx rfl (hb hby at_167) rfl ?_
    refine XS.ifYes X114.here hx rfl (pc0 := 169) (pc' := 209) rfl (hb hby at_169) rfl ((if0 _ _).trans (teq (by decide)).1) (by decide) (by decide) ?_
    refine XS.iload X114.here hx rfl (hb hby at_209) rfl ?_
    refine XS.istore X114.here hx rfl (hb hby at_211) rfl (l' := #[vi pa, vl pw, .second, vi pd, vi pc_, vi 1, vi ln, vr b1, vi 0, vi le, vi co, vi ln, .unset, .unset, .unset, .unset, .unset, .unset]) rfl ?_
    refine XS.aload X114.here hx rfl (hb hby at_213) rfl rfl ?_
    refine XS.iload X114.here hx rfl (hb hby at_215) rfl ?_
    exact k
   obtain ⟨cl118, Ar118, q118, S118, M118, H118, G118⟩ := id fw26
   refine own_st (T' := T114) (g' := (mkF m 226 #[vi pa, vl pw, .second, vi pd, vi pc_, vi 1, vi ln, vr b1, vi 0, vi le, vi co, vi ln, vi b_1, .unset, .unset, .unset, .unset, .unset] [(.int 2), (.ref b1)])) (fun t k => ?_) ?_
   ·refine X114.baloadBytes hx (j := (1 : Int32)) (v := (.int b_1)) (by rw [e114]; exact Ar118.1) (State.isArrayOf_alike hZ.alike Ar118.2.1) Ar118.2.2 (inb_of S118 ⟨by decide, by decide⟩) (Has.at H118 (inb_of S118 ⟨by decide, by decide⟩) rfl) (g := (mkF m 217 #[vi pa, vl pw, .second, vi pd, vi pc_, vi 1, vi ln, vr b1, vi 0, vi le, vi co, vi ln, .unset, .unset, .unset, .unset, .unset, .unset] [(.int 1), (.ref b1)])) rfl rfl (hb hby at_217) _ ?_
    refine XS.istore X114.here hx rfl (hb hby at_218) rfl (l' := #[vi pa, vl pw, .second, vi pd, vi pc_, vi 1, vi ln, vr b1, vi 0, vi le, vi co, vi ln, vi b_1, .unset, .unset, .unset, .unset, .unset]) rfl ?_
    refine XS.aload X114.here hx rfl (hb hby at_220) rfl rfl ?_
    refine XS.iload X114.here hx rfl (hb hby at_222) rfl ?_
    refine XS.iconst X114.here hx rfl (hb hby at_224) ?_
    refine XS.iadd X114.here hx rfl (hb hby at_225) rfl ?_
    exact k
   obtain ⟨cl119, Ar119, q119, S119, M119, H119, G119⟩ := id fw26
   refine own_st (T' := T114) (g' := (mkF m 235 #[vi pa, vl pw, .second, vi pd, vi pc_, vi 1, vi ln, vr b1, vi 0, vi le, vi co, vi ln, vi b_1, vi b_2, .unset, .unset, .unset, .unset] [(.int 3), (.ref b1)])) (fun t k => ?_) ?_
   ·refine X114.baloadBytes hx (j := (2 : Int32)) (v := (.int b_2)) (by rw [e114]; exact Ar119.1) (State.isArrayOf_alike hZ.alike Ar119.2.1) Ar119.2.2 (inb_of S119 ⟨by decide, by decide⟩) (Has.at H119 (inb_of S119 ⟨by decide, by decide⟩) rfl) (g := (mkF m 226 #[vi pa, vl pw, .second, vi pd, vi pc_, vi 1, vi ln, vr b1, vi 0, vi le, vi co, vi ln, vi b_1, .unset, .unset, .unset, .unset, .unset] [(.int 2), (.ref b1)])) rfl rfl (hb hby at_226) _ ?_
    refine XS.istore X114.here hx rfl (hb hby at_227) rfl (l' := #[vi pa, vl pw, .second, vi pd, vi pc_, vi 1, vi ln, vr b1, vi 0, vi le, vi co, vi ln, vi b_1, vi b_2, .unset, .unset, .unset, .unset]) rfl ?_
    refine XS.aload X114.here hx rfl (hb hby at_229) rfl rfl ?_
    refine XS.iload X114.here hx rfl (hb hby at_231) rfl ?_
    refine XS.iconst X114.here hx rfl (hb hby at_233) ?_
    refine XS.iadd X114.here hx rfl (hb hby at_234) rfl ?_
    exact k
   obtain ⟨cl120, Ar120, q120, S120, M120, H120, G120⟩ := id fw26
   refine own_st (T' := T114) (g' := (mkF m 238 #[vi pa, vl pw, .second, vi pd, vi pc_, vi 1, vi ln, vr b1, vi 0, vi le, vi co, vi ln, vi b_1, vi b_2, vi b_3, .unset, .unset, .unset] [])) (fun t k => ?_) ?_
   ·refine X114.baloadBytes hx (j := (3 : Int32)) (v := (.int b_3)) (by rw [e114]; exact Ar120.1) (State.isArrayOf_alike hZ.alike Ar120.2.1) Ar120.2.2 (inb_of S120 ⟨by decide, by decide⟩) (Has.at H120 (inb_of S120 ⟨by decide, by decide⟩) rfl) (g := (mkF m 235 #[vi pa, vl pw, .second, vi pd, vi pc_, vi 1, vi ln, vr b1, vi 0, vi le, vi co, vi ln, vi b_1, vi b_2, .unset, .unset, .unset, .unset] [(.int 3), (.ref b1)])) rfl rfl (hb hby at_235) _ ?_
    refine XS.istore X114.here hx rfl (hb hby at_236) rfl (l' := #[vi pa, vl pw, .second, vi pd, vi pc_, vi 1, vi ln, vr b1, vi 0, vi le, vi co, vi ln, vi b_1, vi b_2, vi b_3, .unset, .unset, .unset]) rfl ?_
    exact k
   exact J (0 : Int32) le co ln b_1 b_2 b_3 (b_0) (b_1) (b_2) (b_3) (b_4) (b_5) (b_6) (b_7) (b_1) (b_2) (b_3) _ fw26 K26 O26 Z26 rfl rfl rfl (Or.inl ⟨hs1, hs2, hs3, rfl, rfl, rfl, rfl⟩) T114 _ X114 N114 e114
  ·subst hs_
   refine own_st (T' := T114) (g' := (mkF m 217 #[vi pa, vl pw, .second, vi pd, vi pc_, vi 2, vi ln, vr b1, vi 0, vi le, vi co, vi ln, .unset, .unset, .unset, .unset, .unset, .unset] [(.int 2), (.ref b1)])) (fun t k => ?_) ?_
   ·refine XS.iload X114.here hx rfl (hb hby at_144) rfl ?_
    refine XS.ifYes X114.here hx rfl (pc0 := 146) (pc' := 167) rfl (hb hby at_146) rfl ((if0 _ _).trans (teq (by decide)).1) (by decide) (by decide) ?_
    refine XS.iload X114.here hx rfl (hb hby at_167) rfl ?_
    refine XS.ifYes X114.here hx rfl (pc0 := 169) (pc' := 209) rfl (hb hby at_169) rfl ((if0 _ _).trans (teq (by decide)).1) (by decide) (by decide) ?_
    refine XS.iload X114.here hx rfl (hb hby at_209) rfl ?_
    refine XS.istore X114.here hx rfl (hb hby at_211) rfl (l' := #[vi pa, vl pw, .second, vi pd, vi pc_, vi 2, vi ln, vr b1, vi 0, vi le, vi co, vi ln, .unset, .unset, .unset, .unset, .unset, .unset]) rfl ?_
    refine XS.aload X114.here hx rfl (hb hby at_213) rfl rfl ?_
    refine XS.iload X114.here hx rfl (hb hby at_215) rfl ?_
    exact k
   obtain ⟨cl121, Ar121, q121, S121, M121, H121, G121⟩ := id fw26
   refine own_st (T' := T114) (g' := (mkF m 226 #[vi pa, vl pw, .second, vi pd, vi pc_, vi 2, vi ln, vr b1, vi 0, vi le, vi co, vi ln, vi b_2, .unset, .unset, .unset, .unset, .unset] [(.int 3), (.ref b1)])) (fun t k => ?_) ?_
   ·refine X114.baloadBytes hx (j := (2 : Int32)) (v := (.int b_2)) (by rw [e114]; exact Ar121.1) (State.isArrayOf_alike hZ.alike Ar121.2.1) Ar121.2.2 (inb_of S121 ⟨by decide, by decide⟩) (Has.at H121 (inb_of S121 ⟨by decide, by decide⟩) rfl) (g := (mkF m 217 #[vi pa, vl pw, .second, vi pd, vi pc_, vi 2, vi ln, vr b1, vi 0, vi le, vi co, vi ln, .unset, .unset, .unset, .unset, .unset, .unset] [(.int 2), (.ref b1)])) rfl rfl (hb hby at_217) _ ?_
    refine XS.istore X114.here hx rfl (hb hby at_218) rfl (l' := #[vi pa, vl pw, .second, vi pd, vi pc_, vi 2, vi ln, vr b1, vi 0, vi le, vi co, vi ln, vi b_2, .unset, .unset, .unset, .unset, .unset]) rfl ?_
    refine XS.aload X114.here hx rfl (hb hby at_220) rfl rfl ?_
    refine XS.iload X114.here hx rfl (hb hby at_222) rfl ?_
    refine XS.iconst X114.here hx rfl (hb hby at_224) ?_
    refine XS.iadd X114.here hx rfl (hb hby at_225) rfl ?_
    exact k
   obtain ⟨cl122, Ar122, q122, S122, M122, H122, G122⟩ := id fw26
   refine own_st (T' := T114) (g' := (mkF m 235 #[vi pa, vl pw, .second, vi pd, vi pc_, vi 2, vi ln, vr b1, vi 0, vi le, vi co, vi ln, vi b_2, vi b_3, .unset, .unset, .unset, .unset] [(.int 4), (.ref b1)])) (fun t k => ?_) ?_
   ·refine X114.baloadBytes hx (j := (3 : Int32)) (v := (.int b_3)) (by rw [e114]; exact Ar122.1) (State.isArrayOf_alike hZ.alike Ar122.2.1) Ar122.2.2 (inb_of S122 ⟨by decide, by decide⟩) (Has.at H122 (inb_of S122 ⟨by decide, by decide⟩) rfl) (g := (mkF m 226 #[vi pa, vl pw, .second, vi pd, vi pc_, vi 2, vi ln, vr b1, vi 0, vi le, vi co, vi ln, vi b_2, .unset, .unset, .unset, .unset, .unset] [(.int 3), (.ref b1)])) rfl rfl (hb hby at_226) _ ?_
    refine XS.istore X114.here hx rfl (hb hby at_227) rfl (l' := #[vi pa, vl pw, .second, vi pd, vi pc_, vi 2, vi ln, vr b1, vi 0, vi le, vi co, vi ln, vi b_2, vi b_3, .unset, .unset, .unset, .unset]) rfl ?_
    refine XS.aload X114.here hx rfl (hb hby at_229) rfl rfl ?_
    refine XS.iload X114.here hx rfl (hb hby at_231) rfl ?_
    refine XS.iconst X114.here hx rfl (hb hby at_233) ?_
    refine XS.iadd X114.here hx rfl (hb hby at_234) rfl ?_
    exact k
   obtain ⟨cl123, Ar123, q123, S123, M123, H123, G123⟩ := id fw26
   refine own_st (T' := T114) (g' := (mkF m 238 #[vi pa, vl pw, .second, vi pd, vi pc_, vi 2, vi ln, vr b1, vi 0, vi le, vi co, vi ln, vi b_2, vi b_3, vi b_4, .unset, .unset, .unset] [])) (fun t k => ?_) ?_
   ·refine X114.baloadBytes hx (j := (4 : Int32)) (v := (.int b_4)) (by rw [e114]; exact Ar123.1) (State.isArrayOf_alike hZ.alike Ar123.2.1) Ar123.2.2 (inb_of S123 ⟨by decide, by decide⟩) (Has.at H123 (inb_of S123 ⟨by decide, by decide⟩) rfl) (g := (mkF m 235 #[vi pa, vl pw, .second, vi pd, vi pc_, vi 2, vi ln, vr b1, vi 0, vi le, vi co, vi ln, vi b_2, vi b_3, .unset, .unset, .unset, .unset] [(.int 4), (.ref b1)])) rfl rfl (hb hby at_235) _ ?_
    refine XS.istore X114.here hx rfl (hb hby at_236) rfl (l' := #[vi pa, vl pw, .second, vi pd, vi pc_, vi 2, vi ln, vr b1, vi 0, vi le, vi co, vi ln, vi b_2, vi b_3, vi b_4, .unset, .unset, .unset]) rfl ?_
    exact k
   exact J (0 : Int32) le co ln b_2 b_3 b_4 (b_0) (b_1) (b_2) (b_3) (b_4) (b_5) (b_6) (b_7) (b_2) (b_3) (b_4) _ fw26 K26 O26 Z26 rfl rfl rfl (Or.inl ⟨hs2, hs3, hs4, rfl, rfl, rfl, rfl⟩) T114 _ X114 N114 e114
  ·subst hs_
   refine own_st (T' := T114) (g' := (mkF m 217 #[vi pa, vl pw, .second, vi pd, vi pc_, vi 3, vi ln, vr b1, vi 0, vi le, vi co, vi ln, .unset, .unset, .unset, .unset, .unset, .unset] [(.int 3), (.ref b1)])) (fun t k => ?_) ?_
   ·refine XS.iload X114.here hx rfl (hb hby at_144) rfl ?_
    refine XS.ifYes X114.here hx rfl (pc0 := 146) (pc' := 167) rfl (hb hby at_146) rfl ((if0 _ _).trans (teq (by decide)).1) (by decide) (by decide) ?_
    refine XS.iload X114.here hx rfl (hb hby at_167) rfl ?_
    refine XS.ifYes X114.here hx rfl (pc0 := 169) (pc' := 209) rfl (hb hby at_169) rfl ((if0 _ _).trans (teq (by decide)).1) (by decide) (by decide) ?_
    refine XS.iload X114.here hx rfl (hb hby at_209) rfl ?_
    refine XS.istore X114.here hx rfl (hb hby at_211) rfl (l' := #[vi pa, vl pw, .second, vi pd, vi pc_, vi 3, vi ln, vr b1, vi 0, vi le, vi co, vi ln, .unset, .unset, .unset, .unset, .unset, .unset]) rfl ?_
    refine XS.aload X114.here hx rfl (hb hby at_213) rfl rfl ?_
    refine XS.iload X114.here hx rfl (hb hby at_215) rfl ?_
    exact k
   obtain ⟨cl124, Ar124, q124, S124, M124, H124, G124⟩ := id fw26
   refine own_st (T' := T114) (g' := (mkF m 226 #[vi pa, vl pw, .second, vi pd, vi pc_, vi 3, vi ln, vr b1, vi 0, vi le, vi co, vi ln, vi b_3, .unset, .unset, .unset, .unset, .unset] [(.int 4), (.ref b1)])) (fun t k => ?_) ?_
   ·refine X114.baloadBytes hx (j := (3 : Int32)) (v := (.int b_3)) (by rw [e114]; exact Ar124.1) (State.isArrayOf_alike hZ.alike Ar124.2.1) Ar124.2.2 (inb_of S124 ⟨by decide, by decide⟩) (Has.at H124 (inb_of S124 ⟨by decide, by decide⟩) rfl) (g := (mkF m 217 #[vi pa, vl pw, .second, vi pd, vi pc_, vi 3, vi ln, vr b1, vi 0, vi le, vi co, vi ln, .unset, .unset, .unset, .unset, .unset, .unset] [(.int 3), (.ref b1)])) rfl rfl (hb hby at_217) _ ?_
    refine XS.istore X114.here hx rfl (hb hby at_218) rfl (l' := #[vi pa, vl pw, .second, vi pd, vi pc_, vi 3, vi ln, vr b1, vi 0, vi le, vi co, vi ln, vi b_3, .unset, .unset, .unset, .unset, .unset]) rfl ?_
    refine XS.aload X114.here hx rfl (hb hby at_220) rfl rfl ?_
    refine XS.iload X114.here hx rfl (hb hby at_222) rfl ?_
    refine XS.iconst X114.here hx rfl (hb hby at_224) ?_
    refine XS.iadd X114.here hx rfl (hb hby at_225) rfl ?_
    exact k
   obtain ⟨cl125, Ar125, q125, S125, M125, H125, G125⟩ := id fw26
   refine own_st (T' := T114) (g' := (mkF m 235 #[vi pa, vl pw, .second, vi pd, vi pc_, vi 3, vi ln, vr b1, vi 0, vi le, vi co, vi ln, vi b_3, vi b_4, .unset, .unset, .unset, .unset] [(.int 5), (.ref b1)])) (fun t k => ?_) ?_
   ·refine X114.baloadBytes hx (j := (4 : Int32)) (v := (.int b_4)) (by rw [e114]; exact Ar125.1) (State.isArrayOf_alike hZ.alike Ar125.2.1) Ar125.2.2 (inb_of S125 ⟨by decide, by decide⟩) (Has.at H125 (inb_of S125 ⟨by decide, by decide⟩) rfl) (g := (mkF m 226 #[vi pa, vl pw, .second, vi pd, vi pc_, vi 3, vi ln, vr b1, vi 0, vi le, vi co, vi ln, vi b_3, .unset, .unset, .unset, .unset, .unset] [(.int 4), (.ref b1)])) rfl rfl (hb hby at_226) _ ?_
    refine XS.istore X114.here hx rfl (hb hby at_227) rfl (l' := #[vi pa, vl pw, .second, vi pd, vi pc_, vi 3, vi ln, vr b1, vi 0, vi le, vi co, vi ln, vi b_3, vi b_4, .unset, .unset, .unset, .unset]) rfl ?_
    refine XS.aload X114.here hx rfl (hb hby at_229) rfl rfl ?_
    refine XS.iload X114.here hx rfl (hb hby at_231) rfl ?_
    refine XS.iconst X114.here hx rfl (hb hby at_233) ?_
    refine XS.iadd X114.here hx rfl (hb hby at_234) rfl ?_
    exact k
   obtain ⟨cl126, Ar126, q126, S126, M126, H126, G126⟩ := id fw26
   refine own_st (T' := T114) (g' := (mkF m 238 #[vi pa, vl pw, .second, vi pd, vi pc_, vi 3, vi ln, vr b1, vi 0, vi le, vi co, vi ln, vi b_3, vi b_4, vi b_5, .unset, .unset, .unset] [])) (fun t k => ?_) ?_
   ·refine X114.baloadBytes hx (j := (5 : Int32)) (v := (.int b_5)) (by rw [e114]; exact Ar126.1) (State.isArrayOf_alike hZ.alike Ar126.2.1) Ar126.2.2 (inb_of S126 ⟨by decide, by decide⟩) (Has.at H126 (inb_of S126 ⟨by decide, by decide⟩) rfl) (g := (mkF m 235 #[vi pa, vl pw, .second, vi pd, vi pc_, vi 3, vi ln, vr b1, vi 0, vi le, vi co, vi ln, vi b_3, vi b_4, .unset, .unset, .unset, .unset] [(.int 5), (.ref b1)])) rfl rfl (hb hby at_235) _ ?_
    refine XS.istore X114.here hx rfl (hb hby at_236) rfl (l' := #[vi pa, vl pw, .second, vi pd, vi pc_, vi 3, vi ln, vr b1, vi 0, vi le, vi co, vi ln, vi b_3, vi b_4, vi b_5, .unset, .unset, .unset]) rfl ?_
    exact k
   exact J (0 : Int32) le co ln b_3 b_4 b_5 (b_0) (b_1) (b_2) (b_3) (b_4) (b_5) (b_6) (b_7) (b_3) (b_4) (b_5) _ fw26 K26 O26 Z26 rfl rfl rfl (Or.inl ⟨hs3, hs4, hs5, rfl, rfl, rfl, rfl⟩) T114 _ X114 N114 e114
 refine own_st (T' := T26) (g' := (mkF m 102 #[vi pa, vl pw, .second, vi pd, vi pc_, vi st, vi ln, vr b1, .unset, .unset, .unset, .unset, .unset, .unset, .unset, .unset, .unset, .unset] [(.int (pd &&& (1 : Int32)))])) (fun t k => ?_) ?_
 ·refine XS.iloadN X26.here hx rfl (hb hby at_99) rfl ?_
  refine XS.iconst X26.here hx rfl (hb hby at_100) ?_
  refine XS.iand X26.here hx rfl (hb hby at_101) rfl ?_
  exact k
 by_cases hc127 : (pd &&& (1 : Int32)) = (0 : Int32)
 ·refine own_st (T' := T26) (g' := (mkF m 118 #[vi pa, vl pw, .second, vi pd, vi pc_, vi st, vi ln, vr b1, vi 0, .unset, .unset, .unset, .unset, .unset, .unset, .unset, .unset, .unset] [])) (fun t k => ?_) ?_
  ·refine XS.ifYes X26.here hx rfl (pc0 := 102) (pc' := 115) rfl (hb hby at_102) rfl ((if0 _ _).trans (teq hc127).1) (by decide) (by decide) ?_
   refine XS.iconst X26.here hx rfl (hb hby at_115) ?_
   refine XS.istore X26.here hx rfl (hb hby at_116) rfl (l' := #[vi pa, vl pw, .second, vi pd, vi pc_, vi st, vi ln, vr b1, vi 0, .unset, .unset, .unset, .unset, .unset, .unset, .unset, .unset, .unset]) rfl ?_
   exact k
  exact Jn T26 _ X26 N26 e26
 ·refine own_st (T' := T26) (g' := (mkF m 108 #[vi pa, vl pw, .second, vi pd, vi pc_, vi st, vi ln, vr b1, .unset, .unset, .unset, .unset, .unset, .unset, .unset, .unset, .unset, .unset] [(.int 2), (.int ln)])) (fun t k => ?_) ?_
  ·refine XS.ifNo X26.here hx rfl (hb hby at_102) rfl ((if0 _ _).trans (feq hc127).1) ?_
   refine XS.iload X26.here hx rfl (hb hby at_105) rfl ?_
   refine XS.iconst X26.here hx rfl (hb hby at_107) ?_
   exact k
  by_cases hge : ln < (2 : Int32)
  ·refine own_st (T' := T26) (g' := (mkF m 118 #[vi pa, vl pw, .second, vi pd, vi pc_, vi st, vi ln, vr b1, vi 0, .unset, .unset, .unset, .unset, .unset, .unset, .unset, .unset, .unset] [])) (fun t k => ?_) ?_
   ·refine XS.icmpYes X26.here hx rfl (pc0 := 108) (pc' := 115) rfl (hb hby at_108) rfl (tlt hge).1 (by decide) (by decide) ?_
    refine XS.iconst X26.here hx rfl (hb hby at_115) ?_
    refine XS.istore X26.here hx rfl (hb hby at_116) rfl (l' := #[vi pa, vl pw, .second, vi pd, vi pc_, vi st, vi ln, vr b1, vi 0, .unset, .unset, .unset, .unset, .unset, .unset, .unset, .unset, .unset]) rfl ?_
    exact k
   exact Jn T26 _ X26 N26 e26
  ·refine own_st (T' := T26) (g' := (mkF m 144 #[vi pa, vl pw, .second, vi pd, vi pc_, vi st, vi ln, vr b1, vi 1, .val (.int ((194 : Int32) + ((((pd.toUInt32 >>> ((1 : Int32) &&& 31).toUInt32).toInt32) &&& (2147483647 : Int32)) % (30 : Int32)))), vi ((128 : Int32) ||| (pc_ &&& (63 : Int32))), .unset, .unset, .unset, .unset, .unset, .unset, .unset] [])) (fun t k => ?_) ?_
   ·refine XS.icmpNo X26.here hx rfl (hb hby at_108) rfl (flt hge).1 ?_
    refine XS.iconst X26.here hx rfl (hb hby at_111) ?_
    refine XS.goto X26.here hx rfl (pc0 := 112) (pc' := 116) rfl (hb hby at_112) (by decide) (by decide) ?_
    refine XS.istore X26.here hx rfl (hb hby at_116) rfl (l' := #[vi pa, vl pw, .second, vi pd, vi pc_, vi st, vi ln, vr b1, vi 1, .unset, .unset, .unset, .unset, .unset, .unset, .unset, .unset, .unset]) rfl ?_
    refine XS.sipush X26.here hx rfl (hb hby at_118) ?_
    refine XS.iloadN X26.here hx rfl (hb hby at_121) rfl ?_
    refine XS.iconst X26.here hx rfl (hb hby at_122) ?_
    refine XS.iushr X26.here hx rfl (hb hby at_123) rfl ?_
    refine X26.ldcInt hx hown (om hZ hw 0 rfl) (g := (mkF m 124 #[vi pa, vl pw, .second, vi pd, vi pc_, vi st, vi ln, vr b1, vi 1, .unset, .unset, .unset, .unset, .unset, .unset, .unset, .unset, .unset] [(.int ((pd.toUInt32 >>> ((1 : Int32) &&& 31).toUInt32).toInt32)), (.int 194)])) rfl (hb hby at_124) _ ?_
    refine XS.iand X26.here hx rfl (hb hby at_126) rfl ?_
    refine XS.bipush X26.here hx rfl (hb hby at_127) ?_
    refine iremM X26 hx rfl (hb hby at_129) rfl (by decide) ?_
    refine XS.iadd X26.here hx rfl (hb hby at_130) rfl ?_
    refine XS.istore X26.here hx rfl (hb hby at_131) rfl (l' := #[vi pa, vl pw, .second, vi pd, vi pc_, vi st, vi ln, vr b1, vi 1, .val (.int ((194 : Int32) + ((((pd.toUInt32 >>> ((1 : Int32) &&& 31).toUInt32).toInt32) &&& (2147483647 : Int32)) % (30 : Int32)))), .unset, .unset, .unset, .unset, .unset, .unset, .unset, .unset]) rfl ?_
    refine XS.sipush X26.here hx rfl (hb hby at_133) ?_
    refine XS.iload X26.here hx rfl (hb hby at_136) rfl ?_
    refine XS.bipush X26.here hx rfl (hb hby at_138) ?_
    refine XS.iand X26.here hx rfl (hb hby at_140) rfl ?_
    refine XS.ior X26.here hx rfl (hb hby at_141) rfl ?_
    refine XS.istore X26.here hx rfl (hb hby at_142) rfl (l' := #[vi pa, vl pw, .second, vi pd, vi pc_, vi st, vi ln, vr b1, vi 1, .val (.int ((194 : Int32) + ((((pd.toUInt32 >>> ((1 : Int32) &&& 31).toUInt32).toInt32) &&& (2147483647 : Int32)) % (30 : Int32)))), vi ((128 : Int32) ||| (pc_ &&& (63 : Int32))), .unset, .unset, .unset, .unset, .unset, .unset, .unset]) rfl ?_
    exact k
   obtain ⟨le, eqle⟩ : ∃ z, z = ((194 : Int32) + ((((pd.toUInt32 >>> ((1 : Int32) &&& 31).toUInt32).toInt32) &&& (2147483647 : Int32)) % (30 : Int32))) := ⟨_, rfl⟩
   obtain ⟨co, eqco⟩ : ∃ z, z = ((128 : Int32) ||| (pc_ &&& (63 : Int32))) := ⟨_, rfl⟩
   rw [← eqle, ← eqco]
   rcases ho with hs_ | hs_ | hs_ | hs_
   ·subst hs_
    refine own_st (T' := T26) (g' := (mkF m 156 #[vi pa, vl pw, .second, vi pd, vi pc_, vi 0, vi ln, vr b1, vi 1, vi le, vi co, .unset, .unset, .unset, .unset, .unset, .unset, .unset] [(.int (le.toInt8.toInt32)), (.int 0), (.ref b1)])) (fun t k => ?_) ?_
    ·refine XS.iload X26.here hx rfl (hb hby at_144) rfl ?_
     refine XS.ifNo X26.here hx rfl (hb hby at_146) rfl ((if0 _ _).trans (feq (by decide)).1) ?_
     refine XS.aload X26.here hx rfl (hb hby at_149) rfl rfl ?_
     refine XS.iload X26.here hx rfl (hb hby at_151) rfl ?_
     refine XS.iload X26.here hx rfl (hb hby at_153) rfl ?_
     refine XS.i2b X26.here hx rfl (hb hby at_155) rfl ?_
     exact k
    obtain ⟨cl128, Ar128, q128, S128, M128, H128, G128⟩ := id fw26
    obtain ⟨T129, h129, X129, e129, W129, st129⟩ := stB X26 hx hZ e26 Ar128 (j := (0 : Int32)) (inb_of S128 ⟨by decide, by decide⟩) (g := (mkF m 156 #[vi pa, vl pw, .second, vi pd, vi pc_, vi 0, vi ln, vr b1, vi 1, vi le, vi co, .unset, .unset, .unset, .unset, .unset, .unset, .unset] [(.int (le.toInt8.toInt32)), (.int 0), (.ref b1)])) rfl rfl (hb hby at_156)
    have N129 := Fr.snoc X129 N26 g_b1
    have K129 : Keep h0 h129 [] := K26.wr W129 (Or.inr hz_b1)
    have Z129 : n0 ≤ h129.size := Nat.le_trans Z26 (Keep.of_wr W129).1
    have O129 := O26.wr W129 g_b1
    have fw129 := (show Arv Z h129 b1 k1 .byte (8 : Int32) [(.int (le.toInt8.toInt32)), (.int b_1), (.int b_2), (.int b_3), (.int b_4), (.int b_5), (.int b_6), (.int b_7)] (.int 0) by have q : Arv Z h129 b1 k1 .byte (8 : Int32) [(.int ((le.toInt8.toInt32).toInt8.toInt32)), (.int b_1), (.int b_2), (.int b_3), (.int b_4), (.int b_5), (.int b_6), (.int b_7)] (.int 0) := Arv.set Ar128 q128 S128 M128 H128 G128 (fits_nar_byte _) W129 0 rfl (Nat.le_of_ble_eq_true rfl); rw [own_bb le] at q; exact q)
    refine own_st (T' := T129) (g' := (mkF m 157 #[vi pa, vl pw, .second, vi pd, vi pc_, vi 0, vi ln, vr b1, vi 1, vi le, vi co, .unset, .unset, .unset, .unset, .unset, .unset, .unset] [])) st129 ?_
    refine own_st (T' := T129) (g' := (mkF m 166 #[vi pa, vl pw, .second, vi pd, vi pc_, vi 0, vi ln, vr b1, vi 1, vi le, vi co, .unset, .unset, .unset, .unset, .unset, .unset, .unset] [(.int (co.toInt8.toInt32)), (.int 1), (.ref b1)])) (fun t k => ?_) ?_
    ·refine XS.aload X129.here hx rfl (hb hby at_157) rfl rfl ?_
     refine XS.iload X129.here hx rfl (hb hby at_159) rfl ?_
     refine XS.iconst X129.here hx rfl (hb hby at_161) ?_
     refine XS.iadd X129.here hx rfl (hb hby at_162) rfl ?_
     refine XS.iload X129.here hx rfl (hb hby at_163) rfl ?_
     refine XS.i2b X129.here hx rfl (hb hby at_165) rfl ?_
     exact k
    obtain ⟨cl130, Ar130, q130, S130, M130, H130, G130⟩ := id fw129
    obtain ⟨T131, h131, X131, e131, W131, st131⟩ := stB X129 hx hZ e129 Ar130 (j := (1 : Int32)) (inb_of S130 ⟨by decide, by decide⟩) (g := (mkF m 166 #[vi pa, vl pw, .second, vi pd, vi pc_, vi 0, vi ln, vr b1, vi 1, vi le, vi co, .unset, .unset, .unset, .unset, .unset, .unset, .unset] [(.int (co.toInt8.toInt32)), (.int 1), (.ref b1)])) rfl rfl (hb hby at_166)
    have N131 := Fr.snoc X131 N129 g_b1
    have K131 : Keep h0 h131 [] := K129.wr W131 (Or.inr hz_b1)
    have Z131 : n0 ≤ h131.size := Nat.le_trans Z129 (Keep.of_wr W131).1
    have O131 := O129.wr W131 g_b1
    have fw131 := (show Arv Z h131 b1 k1 .byte (8 : Int32) [(.int (le.toInt8.toInt32)), (.int (co.toInt8.toInt32)), (.int b_2), (.int b_3), (.int b_4), (.int b_5), (.int b_6), (.int b_7)] (.int 0) by have q : Arv Z h131 b1 k1 .byte (8 : Int32) [(.int (le.toInt8.toInt32)), (.int ((co.toInt8.toInt32).toInt8.toInt32)), (.int b_2), (.int b_3), (.int b_4), (.int b_5), (.int b_6), (.int b_7)] (.int 0) := Arv.set Ar130 q130 S130 M130 H130 G130 (fits_nar_byte _) W131 1 rfl (Nat.le_of_ble_eq_true rfl); rw [own_bb co] at q; exact q)
    refine own_st (T' := T131) (g' := (mkF m 167 #[vi pa, vl pw, .second, vi pd, vi pc_, vi 0, vi ln, vr b1, vi 1, vi le, vi co, .unset, .unset, .unset, .unset, .unset, .unset, .unset] [])) st131 ?_
    refine own_st (T' := T131) (g' := (mkF m 200 #[vi pa, vl pw, .second, vi pd, vi pc_, vi 0, vi ln, vr b1, vi 1, vi le, vi co, vi (ln - (1 : Int32)), vi (((le &&& (31 : Int32)) <<< ((6 : Int32) &&& 31)) ||| (co &&& (63 : Int32))), .unset, .unset, .unset, .unset, .unset] [(.int 2), (.ref b1)])) (fun t k => ?_) ?_
    ·refine XS.iload X131.here hx rfl (hb hby at_167) rfl ?_
     refine XS.ifNo X131.here hx rfl (hb hby at_169) rfl ((if0 _ _).trans (feq (by decide)).1) ?_
     refine XS.iload X131.here hx rfl (hb hby at_172) rfl ?_
     refine XS.iconst X131.here hx rfl (hb hby at_174) ?_
     refine XS.isub X131.here hx rfl (hb hby at_175) rfl ?_
     refine XS.istore X131.here hx rfl (hb hby at_176) rfl (l' := #[vi pa, vl pw, .second, vi pd, vi pc_, vi 0, vi ln, vr b1, vi 1, vi le, vi co, vi (ln - (1 : Int32)), .unset, .unset, .unset, .unset, .unset, .unset]) rfl ?_
     refine XS.iload X131.here hx rfl (hb hby at_178) rfl ?_
     refine XS.bipush X131.here hx rfl (hb hby at_180) ?_
     refine XS.iand X131.here hx rfl (hb hby at_182) rfl ?_
     refine XS.bipush X131.here hx rfl (hb hby at_183) ?_
     refine XS.ishl X131.here hx rfl (hb hby at_185) rfl ?_
     refine XS.iload X131.here hx rfl (hb hby at_186) rfl ?_
     refine XS.bipush X131.here hx rfl (hb hby at_188) ?_
     refine XS.iand X131.here hx rfl (hb hby at_190) rfl ?_
     refine XS.ior X131.here hx rfl (hb hby at_191) rfl ?_
     refine XS.istore X131.here hx rfl (hb hby at_192) rfl (l' := #[vi pa, vl pw, .second, vi pd, vi pc_, vi 0, vi ln, vr b1, vi 1, vi le, vi co, vi (ln - (1 : Int32)), vi (((le &&& (31 : Int32)) <<< ((6 : Int32) &&& 31)) ||| (co &&& (63 : Int32))), .unset, .unset, .unset, .unset, .unset]) rfl ?_
     refine XS.aload X131.here hx rfl (hb hby at_194) rfl rfl ?_
     refine XS.iload X131.here hx rfl (hb hby at_196) rfl ?_
     refine XS.iconst X131.here hx rfl (hb hby at_198) ?_
     refine XS.iadd X131.here hx rfl (hb hby at_199) rfl ?_
     exact k
    obtain ⟨cl132, Ar132, q132, S132, M132, H132, G132⟩ := id fw131
    refine own_st (T' := T131) (g' := (mkF m 238 #[vi pa, vl pw, .second, vi pd, vi pc_, vi 0, vi ln, vr b1, vi 1, vi le, vi co, vi (ln - (1 : Int32)), vi (((le &&& (31 : Int32)) <<< ((6 : Int32) &&& 31)) ||| (co &&& (63 : Int32))), vi b_2, vi 0, .unset, .unset, .unset] [])) (fun t k => ?_) ?_
    ·refine X131.baloadBytes hx (j := (2 : Int32)) (v := (.int b_2)) (by rw [e131]; exact Ar132.1) (State.isArrayOf_alike hZ.alike Ar132.2.1) Ar132.2.2 (inb_of S132 ⟨by decide, by decide⟩) (Has.at H132 (inb_of S132 ⟨by decide, by decide⟩) rfl) (g := (mkF m 200 #[vi pa, vl pw, .second, vi pd, vi pc_, vi 0, vi ln, vr b1, vi 1, vi le, vi co, vi (ln - (1 : Int32)), vi (((le &&& (31 : Int32)) <<< ((6 : Int32) &&& 31)) ||| (co &&& (63 : Int32))), .unset, .unset, .unset, .unset, .unset] [(.int 2), (.ref b1)])) rfl rfl (hb hby at_200) _ ?_
     refine XS.istore X131.here hx rfl (hb hby at_201) rfl (l' := #[vi pa, vl pw, .second, vi pd, vi pc_, vi 0, vi ln, vr b1, vi 1, vi le, vi co, vi (ln - (1 : Int32)), vi (((le &&& (31 : Int32)) <<< ((6 : Int32) &&& 31)) ||| (co &&& (63 : Int32))), vi b_2, .unset, .unset, .unset, .unset]) rfl ?_
     refine XS.iconst X131.here hx rfl (hb hby at_203) ?_
     refine XS.istore X131.here hx rfl (hb hby at_204) rfl (l' := #[vi pa, vl pw, .second, vi pd, vi pc_, vi 0, vi ln, vr b1, vi 1, vi le, vi co, vi (ln - (1 : Int32)), vi (((le &&& (31 : Int32)) <<< ((6 : Int32) &&& 31)) ||| (co &&& (63 : Int32))), vi b_2, vi 0, .unset, .unset, .unset]) rfl ?_
     refine XS.goto X131.here hx rfl (pc0 := 206) (pc' := 238) rfl (hb hby at_206) (by decide) (by decide) ?_
     exact k
    exact J (1 : Int32) le co (ln - (1 : Int32)) (((le &&& (31 : Int32)) <<< ((6 : Int32) &&& 31)) ||| (co &&& (63 : Int32))) b_2 (0 : Int32) ((le.toInt8.toInt32)) ((co.toInt8.toInt32)) (b_2) (b_3) (b_4) (b_5) (b_6) (b_7) ((le.toInt8.toInt32)) ((co.toInt8.toInt32)) (b_2) _ fw131 K131 O131 Z131 rfl rfl rfl (Or.inr ⟨own_l23 hl3 hge, own_lead_i eqle, own_cont_i eqco, hs2, rfl, own_dec_i eqle eqco, rfl, rfl⟩) T131 _ X131 N131 e131
   ·subst hs_
    refine own_st (T' := T26) (g' := (mkF m 156 #[vi pa, vl pw, .second, vi pd, vi pc_, vi 1, vi ln, vr b1, vi 1, vi le, vi co, .unset, .unset, .unset, .unset, .unset, .unset, .unset] [(.int (le.toInt8.toInt32)), (.int 1), (.ref b1)])) (fun t k => ?_) ?_
    ·refine XS.iload X26.here hx rfl (hb hby at_144) rfl ?_
     refine XS.ifNo X26.here hx rfl (hb hby at_146) rfl ((if0 _ _).trans (feq (by decide)).1) ?_
     refine XS.aload X26.here hx rfl (hb hby at_149) rfl rfl ?_
     refine XS.iload X26.here hx rfl (hb hby at_151) rfl ?_
     refine XS.iload X26.here hx rfl (hb hby at_153) rfl ?_
     refine XS.i2b X26.here hx rfl (hb hby at_155) rfl ?_
     exact k
    obtain ⟨cl133, Ar133, q133, S133, M133, H133, G133⟩ := id fw26
    obtain ⟨T134, h134, X134, e134, W134, st134⟩ := stB X26 hx hZ e26 Ar133 (j := (1 : Int32)) (inb_of S133 ⟨by decide, by decide⟩) (g := (mkF m 156 #[vi pa, vl pw, .second, vi pd, vi pc_, vi 1, vi ln, vr b1, vi 1, vi le, vi co, .unset, .unset, .unset, .unset, .unset, .unset, .unset] [(.int (le.toInt8.toInt32)), (.int 1), (.ref b1)])) rfl rfl (hb hby at_156)
    have N134 := Fr.snoc X134 N26 g_b1
    have K134 : Keep h0 h134 [] := K26.wr W134 (Or.inr hz_b1)
    have Z134 : n0 ≤ h134.size := Nat.le_trans Z26 (Keep.of_wr W134).1
    have O134 := O26.wr W134 g_b1
    have fw134 := (show Arv Z h134 b1 k1 .byte (8 : Int32) [(.int b_0), (.int (le.toInt8.toInt32)), (.int b_2), (.int b_3), (.int b_4), (.int b_5), (.int b_6), (.int b_7)] (.int 0) by have q : Arv Z h134 b1 k1 .byte (8 : Int32) [(.int b_0), (.int ((le.toInt8.toInt32).toInt8.toInt32)), (.int b_2), (.int b_3), (.int b_4), (.int b_5), (.int b_6), (.int b_7)] (.int 0) := Arv.set Ar133 q133 S133 M133 H133 G133 (fits_nar_byte _) W134 1 rfl (Nat.le_of_ble_eq_true rfl); rw [own_bb le] at q; exact q)
    refine own_st (T' := T134) (g' := (mkF m 157 #[vi pa, vl pw, .second, vi pd, vi pc_, vi 1, vi ln, vr b1, vi 1, vi le, vi co, .unset, .unset, .unset, .unset, .unset, .unset, .unset] [])) st134 ?_
    refine own_st (T' := T134) (g' := (mkF m 166 #[vi pa, vl pw, .second, vi pd, vi pc_, vi 1, vi ln, vr b1, vi 1, vi le, vi co, .unset, .unset, .unset, .unset, .unset, .unset, .unset] [(.int (co.toInt8.toInt32)), (.int 2), (.ref b1)])) (fun t k => ?_) ?_
    ·refine XS.aload X134.here hx rfl (hb hby at_157) rfl rfl ?_
     refine XS.iload X134.here hx rfl (hb hby at_159) rfl ?_
     refine XS.iconst X134.here hx rfl (hb hby at_161) ?_
     refine XS.iadd X134.here hx rfl (hb hby at_162) rfl ?_
     refine XS.iload X134.here hx rfl (hb hby at_163) rfl ?_
     refine XS.i2b X134.here hx rfl (hb hby at_165) rfl ?_
     exact k
    obtain ⟨cl135, Ar135, q135, S135, M135, H135, G135⟩ := id fw134
    obtain ⟨T136, h136, X136, e136, W136, st136⟩ := stB X134 hx hZ e134 Ar135 (j := (2 : Int32)) (inb_of S135 ⟨by decide, by decide⟩) (g := (mkF m 166 #[vi pa, vl pw, .second, vi pd, vi pc_, vi 1, vi ln, vr b1, vi 1, vi le, vi co, .unset, .unset, .unset, .unset, .unset, .unset, .unset] [(.int (co.toInt8.toInt32)), (.int 2), (.ref b1)])) rfl rfl (hb hby at_166)
    have N136 := Fr.snoc X136 N134 g_b1
    have K136 : Keep h0 h136 [] := K134.wr W136 (Or.inr hz_b1)
    have Z136 : n0 ≤ h136.size := Nat.le_trans Z134 (Keep.of_wr W136).1
    have O136 := O134.wr W136 g_b1
    have fw136 := (show Arv Z h136 b1 k1 .byte (8 : Int32) [(.int b_0), (.int (le.toInt8.toInt32)), (.int (co.toInt8.toInt32)), (.int b_3), (.int b_4), (.int b_5), (.int b_6), (.int b_7)] (.int 0) by have q : Arv Z h136 b1 k1 .byte (8 : Int32) [(.int b_0), (.int (le.toInt8.toInt32)), (.int ((co.toInt8.toInt32).toInt8.toInt32)), (.int b_3), (.int b_4), (.int b_5), (.int b_6), (.int b_7)] (.int 0) := Arv.set Ar135 q135 S135 M135 H135 G135 (fits_nar_byte _) W136 2 rfl (Nat.le_of_ble_eq_true rfl); rw [own_bb co] at q; exact q)
    refine own_st (T' := T136) (g' := (mkF m 167 #[vi pa, vl pw, .second, vi pd, vi pc_, vi 1, vi ln, vr b1, vi 1, vi le, vi co, .unset, .unset, .unset, .unset, .unset, .unset, .unset] [])) st136 ?_
    refine own_st (T' := T136) (g' := (mkF m 200 #[vi pa, vl pw, .second, vi pd, vi pc_, vi 1, vi ln, vr b1, vi 1, vi le, vi co, vi (ln - (1 : Int32)), vi (((le &&& (31 : Int32)) <<< ((6 : Int32) &&& 31)) ||| (co &&& (63 : Int32))), .unset, .unset, .unset, .unset, .unset] [(.int 3), (.ref b1)])) (fun t k => ?_) ?_
    ·refine XS.iload X136.here hx rfl (hb hby at_167) rfl ?_
     refine XS.ifNo X136.here hx rfl (hb hby at_169) rfl ((if0 _ _).trans (feq (by decide)).1) ?_
     refine XS.iload X136.here hx rfl (hb hby at_172) rfl ?_
     refine XS.iconst X136.here hx rfl (hb hby at_174) ?_
     refine XS.isub X136.here hx rfl (hb hby at_175) rfl ?_
     refine XS.istore X136.here hx rfl (hb hby at_176) rfl (l' := #[vi pa, vl pw, .second, vi pd, vi pc_, vi 1, vi ln, vr b1, vi 1, vi le, vi co, vi (ln - (1 : Int32)), .unset, .unset, .unset, .unset, .unset, .unset]) rfl ?_
     refine XS.iload X136.here hx rfl (hb hby at_178) rfl ?_
     refine XS.bipush X136.here hx rfl (hb hby at_180) ?_
     refine XS.iand X136.here hx rfl (hb hby at_182) rfl ?_
     refine XS.bipush X136.here hx rfl (hb hby at_183) ?_
     refine XS.ishl X136.here hx rfl (hb hby at_185) rfl ?_
     refine XS.iload X136.here hx rfl (hb hby at_186) rfl ?_
     refine XS.bipush X136.here hx rfl (hb hby at_188) ?_
     refine XS.iand X136.here hx rfl (hb hby at_190) rfl ?_
     refine XS.ior X136.here hx rfl (hb hby at_191) rfl ?_
     refine XS.istore X136.here hx rfl (hb hby at_192) rfl (l' := #[vi pa, vl pw, .second, vi pd, vi pc_, vi 1, vi ln, vr b1, vi 1, vi le, vi co, vi (ln - (1 : Int32)), vi (((le &&& (31 : Int32)) <<< ((6 : Int32) &&& 31)) ||| (co &&& (63 : Int32))), .unset, .unset, .unset, .unset, .unset]) rfl ?_
     refine XS.aload X136.here hx rfl (hb hby at_194) rfl rfl ?_
     refine XS.iload X136.here hx rfl (hb hby at_196) rfl ?_
     refine XS.iconst X136.here hx rfl (hb hby at_198) ?_
     refine XS.iadd X136.here hx rfl (hb hby at_199) rfl ?_
     exact k
    obtain ⟨cl137, Ar137, q137, S137, M137, H137, G137⟩ := id fw136
    refine own_st (T' := T136) (g' := (mkF m 238 #[vi pa, vl pw, .second, vi pd, vi pc_, vi 1, vi ln, vr b1, vi 1, vi le, vi co, vi (ln - (1 : Int32)), vi (((le &&& (31 : Int32)) <<< ((6 : Int32) &&& 31)) ||| (co &&& (63 : Int32))), vi b_3, vi 0, .unset, .unset, .unset] [])) (fun t k => ?_) ?_
    ·refine X136.baloadBytes hx (j := (3 : Int32)) (v := (.int b_3)) (by rw [e136]; exact Ar137.1) (State.isArrayOf_alike hZ.alike Ar137.2.1) Ar137.2.2 (inb_of S137 ⟨by decide, by decide⟩) (Has.at H137 (inb_of S137 ⟨by decide, by decide⟩) rfl) (g := (mkF m 200 #[vi pa, vl pw, .second, vi pd, vi pc_, vi 1, vi ln, vr b1, vi 1, vi le, vi co, vi (ln - (1 : Int32)), vi (((le &&& (31 : Int32)) <<< ((6 : Int32) &&& 31)) ||| (co &&& (63 : Int32))), .unset, .unset, .unset, .unset, .unset] [(.int 3), (.ref b1)])) rfl rfl (hb hby at_200) _ ?_
     refine XS.istore X136.here hx rfl (hb hby at_201) rfl (l' := #[vi pa, vl pw, .second, vi pd, vi pc_, vi 1, vi ln, vr b1, vi 1, vi le, vi co, vi (ln - (1 : Int32)), vi (((le &&& (31 : Int32)) <<< ((6 : Int32) &&& 31)) ||| (co &&& (63 : Int32))), vi b_3, .unset, .unset, .unset, .unset]) rfl ?_
     refine XS.iconst X136.here hx rfl (hb hby at_203) ?_
     refine XS.istore X136.here hx rfl (hb hby at_204) rfl (l' := #[vi pa, vl pw, .second, vi pd, vi pc_, vi 1, vi ln, vr b1, vi 1, vi le, vi co, vi (ln - (1 : Int32)), vi (((le &&& (31 : Int32)) <<< ((6 : Int32) &&& 31)) ||| (co &&& (63 : Int32))), vi b_3, vi 0, .unset, .unset, .unset]) rfl ?_
     refine XS.goto X136.here hx rfl (pc0 := 206) (pc' := 238) rfl (hb hby at_206) (by decide) (by decide) ?_
     exact k
    exact J (1 : Int32) le co (ln - (1 : Int32)) (((le &&& (31 : Int32)) <<< ((6 : Int32) &&& 31)) ||| (co &&& (63 : Int32))) b_3 (0 : Int32) (b_0) ((le.toInt8.toInt32)) ((co.toInt8.toInt32)) (b_3) (b_4) (b_5) (b_6) (b_7) ((le.toInt8.toInt32)) ((co.toInt8.toInt32)) (b_3) _ fw136 K136 O136 Z136 rfl rfl rfl (Or.inr ⟨own_l23 hl3 hge, own_lead_i eqle, own_cont_i eqco, hs3, rfl, own_dec_i eqle eqco, rfl, rfl⟩) T136 _ X136 N136 e136
   ·subst hs_
    refine own_st (T' := T26) (g' := (mkF m 156 #[vi pa, vl pw, .second, vi pd, vi pc_, vi 2, vi ln, vr b1, vi 1, vi le, vi co, .unset, .unset, .unset, .unset, .unset, .unset, .unset] [(.int (le.toInt8.toInt32)), (.int 2), (.ref b1)])) (fun t k => ?_) ?_
    ·refine XS.iload X26.here hx rfl (hb hby at_144) rfl ?_
     refine XS.ifNo X26.here hx rfl (hb hby at_146) rfl ((if0 _ _).trans (feq (by decide)).1) ?_
     refine XS.aload X26.here hx rfl (hb hby at_149) rfl rfl ?_
     refine XS.iload X26.here hx rfl (hb hby at_151) rfl ?_
     refine XS.iload X26.here hx rfl (hb hby at_153) rfl ?_
     refine XS.i2b X26.here hx rfl (hb hby at_155) rfl ?_
     exact k
    obtain ⟨cl138, Ar138, q138, S138, M138, H138, G138⟩ := id fw26
    obtain ⟨T139, h139, X139, e139, W139, st139⟩ := stB X26 hx hZ e26 Ar138 (j := (2 : Int32)) (inb_of S138 ⟨by decide, by decide⟩) (g := (mkF m 156 #[vi pa, vl pw, .second, vi pd, vi pc_, vi 2, vi ln, vr b1, vi 1, vi le, vi co, .unset, .unset, .unset, .unset, .unset, .unset, .unset] [(.int (le.toInt8.toInt32)), (.int 2), (.ref b1)])) rfl rfl (hb hby at_156)
    have N139 := Fr.snoc X139 N26 g_b1
    have K139 : Keep h0 h139 [] := K26.wr W139 (Or.inr hz_b1)
    have Z139 : n0 ≤ h139.size := Nat.le_trans Z26 (Keep.of_wr W139).1
    have O139 := O26.wr W139 g_b1
    have fw139 := (show Arv Z h139 b1 k1 .byte (8 : Int32) [(.int b_0), (.int b_1), (.int (le.toInt8.toInt32)), (.int b_3), (.int b_4), (.int b_5), (.int b_6), (.int b_7)] (.int 0) by have q : Arv Z h139 b1 k1 .byte (8 : Int32) [(.int b_0), (.int b_1), (.int ((le.toInt8.toInt32).toInt8.toInt32)), (.int b_3), (.int b_4), (.int b_5), (.int b_6), (.int b_7)] (.int 0) := Arv.set Ar138 q138 S138 M138 H138 G138 (fits_nar_byte _) W139 2 rfl (Nat.le_of_ble_eq_true rfl); rw [own_bb le] at q; exact q)
    refine own_st (T' := T139) (g' := (mkF m 157 #[vi pa, vl pw, .second, vi pd, vi pc_, vi 2, vi ln, vr b1, vi 1, vi le, vi co, .unset, .unset, .unset, .unset, .unset, .unset, .unset] [])) st139 ?_
    refine own_st (T' := T139) (g' := (mkF m 166 #[vi pa, vl pw, .second, vi pd, vi pc_, vi 2, vi ln, vr b1, vi 1, vi le, vi co, .unset, .unset, .unset, .unset, .unset, .unset, .unset] [(.int (co.toInt8.toInt32)), (.int 3), (.ref b1)])) (fun t k => ?_) ?_
    ·refine XS.aload X139.here hx rfl (hb hby at_157) rfl rfl ?_
     refine XS.iload X139.here hx rfl (hb hby at_159) rfl ?_
     refine XS.iconst X139.here hx rfl (hb hby at_161) ?_
     refine XS.iadd X139.here hx rfl (hb hby at_162) rfl ?_
     refine XS.iload X139.here hx rfl (hb hby at_163) rfl ?_
     refine XS.i2b X139.here hx rfl (hb hby at_165) rfl ?_
     exact k
    obtain ⟨cl140, Ar140, q140, S140, M140, H140, G140⟩ := id fw139
    obtain ⟨T141, h141, X141, e141, W141, st141⟩ := stB X139 hx hZ e139 Ar140 (j := (3 : Int32)) (inb_of S140 ⟨by decide, by decide⟩) (g := (mkF m 166 #[vi pa, vl pw, .second, vi pd, vi pc_, vi 2, vi ln, vr b1, vi 1, vi le, vi co, .unset, .unset, .unset, .unset, .unset, .unset, .unset] [(.int (co.toInt8.toInt32)), (.int 3), (.ref b1)])) rfl rfl (hb hby at_166)
    have N141 := Fr.snoc X141 N139 g_b1
    have K141 : Keep h0 h141 [] := K139.wr W141 (Or.inr hz_b1)
    have Z141 : n0 ≤ h141.size := Nat.le_trans Z139 (Keep.of_wr W141).1
    have O141 := O139.wr W141 g_b1
    have fw141 := (show Arv Z h141 b1 k1 .byte (8 : Int32) [(.int b_0), (.int b_1), (.int (le.toInt8.toInt32)), (.int (co.toInt8.toInt32)), (.int b_4), (.int b_5), (.int b_6), (.int b_7)] (.int 0) by have q : Arv Z h141 b1 k1 .byte (8 : Int32) [(.int b_0), (.int b_1), (.int (le.toInt8.toInt32)), (.int ((co.toInt8.toInt32).toInt8.toInt32)), (.int b_4), (.int b_5), (.int b_6), (.int b_7)] (.int 0) := Arv.set Ar140 q140 S140 M140 H140 G140 (fits_nar_byte _) W141 3 rfl (Nat.le_of_ble_eq_true rfl); rw [own_bb co] at q; exact q)
    refine own_st (T' := T141) (g' := (mkF m 167 #[vi pa, vl pw, .second, vi pd, vi pc_, vi 2, vi ln, vr b1, vi 1, vi le, vi co, .unset, .unset, .unset, .unset, .unset, .unset, .unset] [])) st141 ?_
    refine own_st (T' := T141) (g' := (mkF m 200 #[vi pa, vl pw, .second, vi pd, vi pc_, vi 2, vi ln, vr b1, vi 1, vi le, vi co, vi (ln - (1 : Int32)), vi (((le &&& (31 : Int32)) <<< ((6 : Int32) &&& 31)) ||| (co &&& (63 : Int32))), .unset, .unset, .unset, .unset, .unset] [(.int 4), (.ref b1)])) (fun t k => ?_) ?_
    ·refine XS.iload X141.here hx rfl (hb hby at_167) rfl ?_
     refine XS.ifNo X141.here hx rfl (hb hby at_169) rfl ((if0 _ _).trans (feq (by decide)).1) ?_
     refine XS.iload X141.here hx rfl (hb hby at_172) rfl ?_
     refine XS.iconst X141.here hx rfl (hb hby at_174) ?_
     refine XS.isub X141.here hx rfl (hb hby at_175) rfl ?_
     refine XS.istore X141.here hx rfl (hb hby at_176) rfl (l' := #[vi pa, vl pw, .second, vi pd, vi pc_, vi 2, vi ln, vr b1, vi 1, vi le, vi co, vi (ln - (1 : Int32)), .unset, .unset, .unset, .unset, .unset, .unset]) rfl ?_
     refine XS.iload X141.here hx rfl (hb hby at_178) rfl ?_
     refine XS.bipush X141.here hx rfl (hb hby at_180) ?_
     refine XS.iand X141.here hx rfl (hb hby at_182) rfl ?_
     refine XS.bipush X141.here hx rfl (hb hby at_183) ?_
     refine XS.ishl X141.here hx rfl (hb hby at_185) rfl ?_
     refine XS.iload X141.here hx rfl (hb hby at_186) rfl ?_
     refine XS.bipush X141.here hx rfl (hb hby at_188) ?_
     refine XS.iand X141.here hx rfl (hb hby at_190) rfl ?_
     refine XS.ior X141.here hx rfl (hb hby at_191) rfl ?_
     refine XS.istore X141.here hx rfl (hb hby at_192) rfl (l' := #[vi pa, vl pw, .second, vi pd, vi pc_, vi 2, vi ln, vr b1, vi 1, vi le, vi co, vi (ln - (1 : Int32)), vi (((le &&& (31 : Int32)) <<< ((6 : Int32) &&& 31)) ||| (co &&& (63 : Int32))), .unset, .unset, .unset, .unset, .unset]) rfl ?_
     refine XS.aload X141.here hx rfl (hb hby at_194) rfl rfl ?_
     refine XS.iload X141.here hx rfl (hb hby at_196) rfl ?_
     refine XS.iconst X141.here hx rfl (hb hby at_198) ?_
     refine XS.iadd X141.here hx rfl (hb hby at_199) rfl ?_
     exact k
    obtain ⟨cl142, Ar142, q142, S142, M142, H142, G142⟩ := id fw141
    refine own_st (T' := T141) (g' := (mkF m 238 #[vi pa, vl pw, .second, vi pd, vi pc_, vi 2, vi ln, vr b1, vi 1, vi le, vi co, vi (ln - (1 : Int32)), vi (((le &&& (31 : Int32)) <<< ((6 : Int32) &&& 31)) ||| (co &&& (63 : Int32))), vi b_4, vi 0, .unset, .unset, .unset] [])) (fun t k => ?_) ?_
    ·refine X141.baloadBytes hx (j := (4 : Int32)) (v := (.int b_4)) (by rw [e141]; exact Ar142.1) (State.isArrayOf_alike hZ.alike Ar142.2.1) Ar142.2.2 (inb_of S142 ⟨by decide, by decide⟩) (Has.at H142 (inb_of S142 ⟨by decide, by decide⟩) rfl) (g := (mkF m 200 #[vi pa, vl pw, .second, vi pd, vi pc_, vi 2, vi ln, vr b1, vi 1, vi le, vi co, vi (ln - (1 : Int32)), vi (((le &&& (31 : Int32)) <<< ((6 : Int32) &&& 31)) ||| (co &&& (63 : Int32))), .unset, .unset, .unset, .unset, .unset] [(.int 4), (.ref b1)])) rfl rfl (hb hby at_200) _ ?_
     refine XS.istore X141.here hx rfl (hb hby at_201) rfl (l' := #[vi pa, vl pw, .second, vi pd, vi pc_, vi 2, vi ln, vr b1, vi 1, vi le, vi co, vi (ln - (1 : Int32)), vi (((le &&& (31 : Int32)) <<< ((6 : Int32) &&& 31)) ||| (co &&& (63 : Int32))), vi b_4, .unset, .unset, .unset, .unset]) rfl ?_
     refine XS.iconst X141.here hx rfl (hb hby at_203) ?_
     refine XS.istore X141.here hx rfl (hb hby at_204) rfl (l' := #[vi pa, vl pw, .second, vi pd, vi pc_, vi 2, vi ln, vr b1, vi 1, vi le, vi co, vi (ln - (1 : Int32)), vi (((le &&& (31 : Int32)) <<< ((6 : Int32) &&& 31)) ||| (co &&& (63 : Int32))), vi b_4, vi 0, .unset, .unset, .unset]) rfl ?_
     refine XS.goto X141.here hx rfl (pc0 := 206) (pc' := 238) rfl (hb hby at_206) (by decide) (by decide) ?_
     exact k
    exact J (1 : Int32) le co (ln - (1 : Int32)) (((le &&& (31 : Int32)) <<< ((6 : Int32) &&& 31)) ||| (co &&& (63 : Int32))) b_4 (0 : Int32) (b_0) (b_1) ((le.toInt8.toInt32)) ((co.toInt8.toInt32)) (b_4) (b_5) (b_6) (b_7) ((le.toInt8.toInt32)) ((co.toInt8.toInt32)) (b_4) _ fw141 K141 O141 Z141 rfl rfl rfl (Or.inr ⟨own_l23 hl3 hge, own_lead_i eqle, own_cont_i eqco, hs4, rfl, own_dec_i eqle eqco, rfl, rfl⟩) T141 _ X141 N141 e141
   ·subst hs_
    refine own_st (T' := T26) (g' := (mkF m 156 #[vi pa, vl pw, .second, vi pd, vi pc_, vi 3, vi ln, vr b1, vi 1, vi le, vi co, .unset, .unset, .unset, .unset, .unset, .unset, .unset] [(.int (le.toInt8.toInt32)), (.int 3), (.ref b1)])) (fun t k => ?_) ?_
    ·refine XS.iload X26.here hx rfl (hb hby at_144) rfl ?_
     refine XS.ifNo X26.here hx rfl (hb hby at_146) rfl ((if0 _ _).trans (feq (by decide)).1) ?_
     refine XS.aload X26.here hx rfl (hb hby at_149) rfl rfl ?_
     refine XS.iload X26.here hx rfl (hb hby at_151) rfl ?_
     refine XS.iload X26.here hx rfl (hb hby at_153) rfl ?_
     refine XS.i2b X26.here hx rfl (hb hby at_155) rfl ?_
     exact k
    obtain ⟨cl143, Ar143, q143, S143, M143, H143, G143⟩ := id fw26
    obtain ⟨T144, h144, X144, e144, W144, st144⟩ := stB X26 hx hZ e26 Ar143 (j := (3 : Int32)) (inb_of S143 ⟨by decide, by decide⟩) (g := (mkF m 156 #[vi pa, vl pw, .second, vi pd, vi pc_, vi 3, vi ln, vr b1, vi 1, vi le, vi co, .unset, .unset, .unset, .unset, .unset, .unset, .unset] [(.int (le.toInt8.toInt32)), (.int 3), (.ref b1)])) rfl rfl (hb hby at_156)
    have N144 := Fr.snoc X144 N26 g_b1
    have K144 : Keep h0 h144 [] := K26.wr W144 (Or.inr hz_b1)
    have Z144 : n0 ≤ h144.size := Nat.le_trans Z26 (Keep.of_wr W144).1
    have O144 := O26.wr W144 g_b1
    have fw144 := (show Arv Z h144 b1 k1 .byte (8 : Int32) [(.int b_0), (.int b_1), (.int b_2), (.int (le.toInt8.toInt32)), (.int b_4), (.int b_5), (.int b_6), (.int b_7)] (.int 0) by have q : Arv Z h144 b1 k1 .byte (8 : Int32) [(.int b_0), (.int b_1), (.int b_2), (.int ((le.toInt8.toInt32).toInt8.toInt32)), (.int b_4), (.int b_5), (.int b_6), (.int b_7)] (.int 0) := Arv.set Ar143 q143 S143 M143 H143 G143 (fits_nar_byte _) W144 3 rfl (Nat.le_of_ble_eq_true rfl); rw [own_bb le] at q; exact q)
    refine own_st (T' := T144) (g' := (mkF m 157 #[vi pa, vl pw, .second, vi pd, vi pc_, vi 3, vi ln, vr b1, vi 1, vi le, vi co, .unset, .unset, .unset, .unset, .unset, .unset, .unset] [])) st144 ?_
    refine own_st (T' := T144) (g' := (mkF m 166 #[vi pa, vl pw, .second, vi pd, vi pc_, vi 3, vi ln, vr b1, vi 1, vi le, vi co, .unset, .unset, .unset, .unset, .unset, .unset, .unset] [(.int (co.toInt8.toInt32)), (.int 4), (.ref b1)])) (fun t k => ?_) ?_
    ·refine XS.aload X144.here hx rfl (hb hby at_157) rfl rfl ?_
     refine XS.iload X144.here hx rfl (hb hby at_159) rfl ?_
     refine XS.iconst X144.here hx rfl (hb hby at_161) ?_
     refine XS.iadd X144.here hx rfl (hb hby at_162) rfl ?_
     refine XS.iload X144.here hx rfl (hb hby at_163) rfl ?_
     refine XS.i2b X144.here hx rfl (hb hby at_165) rfl ?_
     exact k
    obtain ⟨cl145, Ar145, q145, S145, M145, H145, G145⟩ := id fw144
    obtain ⟨T146, h146, X146, e146, W146, st146⟩ := stB X144 hx hZ e144 Ar145 (j := (4 : Int32)) (inb_of S145 ⟨by decide, by decide⟩) (g := (mkF m 166 #[vi pa, vl pw, .second, vi pd, vi pc_, vi 3, vi ln, vr b1, vi 1, vi le, vi co, .unset, .unset, .unset, .unset, .unset, .unset, .unset] [(.int (co.toInt8.toInt32)), (.int 4), (.ref b1)])) rfl rfl (hb hby at_166)
    have N146 := Fr.snoc X146 N144 g_b1
    have K146 : Keep h0 h146 [] := K144.wr W146 (Or.inr hz_b1)
    have Z146 : n0 ≤ h146.size := Nat.le_trans Z144 (Keep.of_wr W146).1
    have O146 := O144.wr W146 g_b1
    have fw146 := (show Arv Z h146 b1 k1 .byte (8 : Int32) [(.int b_0), (.int b_1), (.int b_2), (.int (le.toInt8.toInt32)), (.int (co.toInt8.toInt32)), (.int b_5), (.int b_6), (.int b_7)] (.int 0) by have q : Arv Z h146 b1 k1 .byte (8 : Int32) [(.int b_0), (.int b_1), (.int b_2), (.int (le.toInt8.toInt32)), (.int ((co.toInt8.toInt32).toInt8.toInt32)), (.int b_5), (.int b_6), (.int b_7)] (.int 0) := Arv.set Ar145 q145 S145 M145 H145 G145 (fits_nar_byte _) W146 4 rfl (Nat.le_of_ble_eq_true rfl); rw [own_bb co] at q; exact q)
    refine own_st (T' := T146) (g' := (mkF m 167 #[vi pa, vl pw, .second, vi pd, vi pc_, vi 3, vi ln, vr b1, vi 1, vi le, vi co, .unset, .unset, .unset, .unset, .unset, .unset, .unset] [])) st146 ?_
    refine own_st (T' := T146) (g' := (mkF m 200 #[vi pa, vl pw, .second, vi pd, vi pc_, vi 3, vi ln, vr b1, vi 1, vi le, vi co, vi (ln - (1 : Int32)), vi (((le &&& (31 : Int32)) <<< ((6 : Int32) &&& 31)) ||| (co &&& (63 : Int32))), .unset, .unset, .unset, .unset, .unset] [(.int 5), (.ref b1)])) (fun t k => ?_) ?_
    ·refine XS.iload X146.here hx rfl (hb hby at_167) rfl ?_
     refine XS.ifNo X146.here hx rfl (hb hby at_169) rfl ((if0 _ _).trans (feq (by decide)).1) ?_
     refine XS.iload X146.here hx rfl (hb hby at_172) rfl ?_
     refine XS.iconst X146.here hx rfl (hb hby at_174) ?_
     refine XS.isub X146.here hx rfl (hb hby at_175) rfl ?_
     refine XS.istore X146.here hx rfl (hb hby at_176) rfl (l' := #[vi pa, vl pw, .second, vi pd, vi pc_, vi 3, vi ln, vr b1, vi 1, vi le, vi co, vi (ln - (1 : Int32)), .unset, .unset, .unset, .unset, .unset, .unset]) rfl ?_
     refine XS.iload X146.here hx rfl (hb hby at_178) rfl ?_
     refine XS.bipush X146.here hx rfl (hb hby at_180) ?_
     refine XS.iand X146.here hx rfl (hb hby at_182) rfl ?_
     refine XS.bipush X146.here hx rfl (hb hby at_183) ?_
     refine XS.ishl X146.here hx rfl (hb hby at_185) rfl ?_
     refine XS.iload X146.here hx rfl (hb hby at_186) rfl ?_
     refine XS.bipush X146.here hx rfl (hb hby at_188) ?_
     refine XS.iand X146.here hx rfl (hb hby at_190) rfl ?_
     refine XS.ior X146.here hx rfl (hb hby at_191) rfl ?_
     refine XS.istore X146.here hx rfl (hb hby at_192) rfl (l' := #[vi pa, vl pw, .second, vi pd, vi pc_, vi 3, vi ln, vr b1, vi 1, vi le, vi co, vi (ln - (1 : Int32)), vi (((le &&& (31 : Int32)) <<< ((6 : Int32) &&& 31)) ||| (co &&& (63 : Int32))), .unset, .unset, .unset, .unset, .unset]) rfl ?_
     refine XS.aload X146.here hx rfl (hb hby at_194) rfl rfl ?_
     refine XS.iload X146.here hx rfl (hb hby at_196) rfl ?_
     refine XS.iconst X146.here hx rfl (hb hby at_198) ?_
     refine XS.iadd X146.here hx rfl (hb hby at_199) rfl ?_
     exact k
    obtain ⟨cl147, Ar147, q147, S147, M147, H147, G147⟩ := id fw146
    refine own_st (T' := T146) (g' := (mkF m 238 #[vi pa, vl pw, .second, vi pd, vi pc_, vi 3, vi ln, vr b1, vi 1, vi le, vi co, vi (ln - (1 : Int32)), vi (((le &&& (31 : Int32)) <<< ((6 : Int32) &&& 31)) ||| (co &&& (63 : Int32))), vi b_5, vi 0, .unset, .unset, .unset] [])) (fun t k => ?_) ?_
    ·refine X146.baloadBytes hx (j := (5 : Int32)) (v := (.int b_5)) (by rw [e146]; exact Ar147.1) (State.isArrayOf_alike hZ.alike Ar147.2.1) Ar147.2.2 (inb_of S147 ⟨by decide, by decide⟩) (Has.at H147 (inb_of S147 ⟨by decide, by decide⟩) rfl) (g := (mkF m 200 #[vi pa, vl pw, .second, vi pd, vi pc_, vi 3, vi ln, vr b1, vi 1, vi le, vi co, vi (ln - (1 : Int32)), vi (((le &&& (31 : Int32)) <<< ((6 : Int32) &&& 31)) ||| (co &&& (63 : Int32))), .unset, .unset, .unset, .unset, .unset] [(.int 5), (.ref b1)])) rfl rfl (hb hby at_200) _ ?_
     refine XS.istore X146.here hx rfl (hb hby at_201) rfl (l' := #[vi pa, vl pw, .second, vi pd, vi pc_, vi 3, vi ln, vr b1, vi 1, vi le, vi co, vi (ln - (1 : Int32)), vi (((le &&& (31 : Int32)) <<< ((6 : Int32) &&& 31)) ||| (co &&& (63 : Int32))), vi b_5, .unset, .unset, .unset, .unset]) rfl ?_
     refine XS.iconst X146.here hx rfl (hb hby at_203) ?_
     refine XS.istore X146.here hx rfl (hb hby at_204) rfl (l' := #[vi pa, vl pw, .second, vi pd, vi pc_, vi 3, vi ln, vr b1, vi 1, vi le, vi co, vi (ln - (1 : Int32)), vi (((le &&& (31 : Int32)) <<< ((6 : Int32) &&& 31)) ||| (co &&& (63 : Int32))), vi b_5, vi 0, .unset, .unset, .unset]) rfl ?_
     refine XS.goto X146.here hx rfl (pc0 := 206) (pc' := 238) rfl (hb hby at_206) (by decide) (by decide) ?_
     exact k
    exact J (1 : Int32) le co (ln - (1 : Int32)) (((le &&& (31 : Int32)) <<< ((6 : Int32) &&& 31)) ||| (co &&& (63 : Int32))) b_5 (0 : Int32) (b_0) (b_1) (b_2) ((le.toInt8.toInt32)) ((co.toInt8.toInt32)) (b_5) (b_6) (b_7) ((le.toInt8.toInt32)) ((co.toInt8.toInt32)) (b_5) _ fw146 K146 O146 Z146 rfl rfl rfl (Or.inr ⟨own_l23 hl3 hge, own_lead_i eqle, own_cont_i eqco, hs5, rfl, own_dec_i eqle eqco, rfl, rfl⟩) T146 _ X146 N146 e146
set_option maxRecDepth 65536 in
set_option maxHeartbeats 40000000 in
theorem own_comes_1 {Post : Tables → Env → Array Value → State → Outcome → State → Prop} (hpost : ∀ tb e args s v u, (limb_1_1.after args s (.returned v) u = true ∧ limb_1_2.after args s (.returned v) u = true ∧ True) → FrameEnd s (.returned v) u (Jvm.fieldLocs frame_1_writes args s ++ Jvm.arrayLocs frame_1_arrays args s ++ Jvm.staticLocs frame_1_statics s) 24 128 → Post tb e args s (.returned v) u) :
    ArmFor flags0 classFile x code maxLocals ret World_1 tables_1 room_1 Calls_1 rest_1 Pre_1 Post := by
  intro l hfl _ _ p e ha hc hk s m args below hf hA hF happ hP
  obtain ⟨hcalls, hrest, hpre⟩ := hP
  obtain ⟨-, -, -, hnamed, -, -, -, hat⟩ := (Spec.applies_iff hf).mp happ
  obtain ⟨hg, hn⟩ := and_e (Cond.before_iff.mp (show (Jvm.Cond.and given_1 narrow_1).before args s = true from hpre))
  obtain ⟨hg0, hgr⟩ := and_e hg
  obtain ⟨ha0, hgr⟩ := and_e hgr
  obtain ⟨ha1, hgr⟩ := and_e hgr
  obtain ⟨ha2, hgr⟩ := and_e hgr
  have ha3 := hgr
  obtain ⟨w0, w1, w2, w3, rfl⟩ : ∃ w0 w1 w2 w3 : Value, args = #[w0, w1, w2, w3] := by
    have hs : args.size = 4 := by simpa [Cond.value, given_1] using hg0
    obtain ⟨L⟩ := args
    match L, hs with
    | [w0, w1, w2, w3], _ => exact ⟨w0, w1, w2, w3, rfl⟩
  have hw := fun d (hd : d ∈ tables_1) => atoms_spec (ws := Jvm.Cond.code x code maxLocals ret :: tables_1) hat d (List.mem_cons_of_mem _ hd)
  have hfit : Fit s := fun {y c} hc i hi => by
    obtain ⟨ha, rfl⟩ := Array.getElem?_eq_some_iff.mp hc
    have q := List.all_eq_true.mp ((Array.all_eq_true_iff_forall_mem.mp hF) _ (Array.getElem_mem ha)) i (List.mem_range.mpr hi)
    simpa [Array.getElem?_eq_getElem hi] using q
  obtain ⟨hsets, hown0⟩ := atoms_of _ (rest_1_c_eq ▸ (show rest_1_c.before _ s = true from hrest))
  obtain ⟨i0, ei0⟩ := is_v ha0
  obtain rfl : w0 = (.int i0) := Option.some.inj ei0
  obtain ⟨i1, ei1⟩ := isL_v ha1
  obtain rfl : w1 = (.long i1) := Option.some.inj ei1
  obtain ⟨i2, ei2⟩ := is_v ha2
  obtain rfl : w2 = (.int i2) := Option.some.inj ei2
  obtain ⟨i3, ei3⟩ := is_v ha3
  obtain rfl : w3 = (.int i3) := Option.some.inj ei3
  obtain ⟨cs, ev_cs⟩ := is_v (Cond.before_iff.mp (hsets _ (List.mem_of_getElem? (i := 7) rfl)))
  have S_cs := Sta.start ev_cs (Or.inl (hsets _ (List.mem_of_getElem? (i := 6) rfl)))
  have hcs : ¬ cs = (0 : Int32) := gotF (Cond.eq_ints ev_cs (Term.int_eval 0)) (by have q := not_v (Cond.before_iff.mp (hsets _ (List.mem_of_getElem? (i := 8) rfl))); exact q)
  obtain ⟨fm, ev_fm, hfm⟩ := isR_v (Cond.before_iff.mp (hsets _ (List.mem_of_getElem? (i := 14) rfl)))
  have S_fm := Sta.start ev_fm (Or.inl (hsets _ (List.mem_of_getElem? (i := 13) rfl)))
  have S_ad := own_sint (Cond.before_iff.mp (hsets _ (List.mem_of_getElem? (i := 21) rfl))) (Or.inl (hsets _ (List.mem_of_getElem? (i := 20) rfl)))
  have S_hb := own_sint (Cond.before_iff.mp (hsets _ (List.mem_of_getElem? (i := 24) rfl))) (Or.inl (hsets _ (List.mem_of_getElem? (i := 23) rfl)))
  have S_lb := own_sint (Cond.before_iff.mp (hsets _ (List.mem_of_getElem? (i := 27) rfl))) (Or.inl (hsets _ (List.mem_of_getElem? (i := 26) rfl)))
  obtain ⟨u8, ev_u8, S_u8, E_u8⟩ := own_enum (Cond.before_iff.mp (hsets _ (List.mem_of_getElem? (i := 5) rfl))) (Or.inl (hsets _ (List.mem_of_getElem? (i := 1) rfl)))
  obtain ⟨ui, ev_ui, S_ui, E_ui⟩ := own_enum (Cond.before_iff.mp (hsets _ (List.mem_of_getElem? (i := 17) rfl))) (Or.inl (hsets _ (List.mem_of_getElem? (i := 3) rfl)))
  obtain rfl := own_same ev_u8 ev_ui (Cond.before_iff.mp (hsets _ (List.mem_of_getElem? (i := 4) rfl)))
  obtain ⟨n, o, h1, h2, h3, _, L, rfl, ⟨rfl, N⟩, hq⟩ := own_rm0 l s _ hw tables_1 i0 i1 i2 i3 cs fm u8 s.heap s.heap.size (Nat.le_refl _) (Old.start s) ⟨hcs, hfm, S_cs, S_fm, S_ad, S_hb, S_lb, S_u8, S_ui, E_u8⟩ p e ha hc hk s m _ below hf ((Spec.applies_iff_loose hf).mp happ).1 ⟨rfl, State.Warmed39.refl s, rfl⟩ trivial
  refine ⟨n, _, h1, h2, h3, hpost _ _ _ _ _ _ ⟨Cond.after_iff.mpr rfl, Cond.after_iff.mpr (eq_i res_at (Term.int_eval (1)) rfl), trivial⟩ ⟨hq.1, hq.2.1, (hq.2.2.sift fun y hy => Or.inr (N y hy)).mono (by decide) (by decide)⟩⟩
theorem main_1_1 : Claimed_1_1 := own_comes_1 fun _ _ _ _ _ _ h hF => ⟨h.1, hF⟩
theorem main_1_2 : Claimed_1_2 := own_comes_1 fun _ _ _ _ _ _ h hF => ⟨h.2.1, hF⟩
end Jvm.Pilot.@@N@@
namespace Jvm.Pilot.@@N@@
open Jvm Jvm.ClassFile Sem Op Lib Jvm.Free Jvm.Stand Jvm.Pilot.@@N@@.Jvm.D
/-! MADE BY PROGRAM (witnessworld.py) out of the Statement's table words and the real class files: 28 classes; the members and pool entries that the words name. The judged class is class 1, her method 1. -/
namespace start1
open Jvm.ClassFile
def u (s : String) : CpInfo := .utf8 (stringToUtf16 s)
/-- a pool by its gaps: so many unusable entries, then the entry; so many at the end -/
def gap : Nat → List CpInfo → List CpInfo
  | 0, r => r
  | n + 1, r => .unusable :: gap n r
def poolList (es : List (Nat × CpInfo)) (last : Nat) : List CpInfo := es.foldr (fun e r => gap e.1 (e.2 :: r)) (gap last [])
def pool (es : List (Nat × CpInfo)) (last : Nat) : Array CpInfo := ⟨poolList es last⟩
def fileOf (pool : Array CpInfo) (this : Nat) (attrs : Array Attribute := #[]) (ms : Array MethodInfo := #[]) (fl : Nat := 33) (sup : Nat := 0) (ifs : Array Nat := #[]) (fds : Array FieldInfo := #[]) : ClassFile where
  minorVersion := 0
  majorVersion := 65
  constantPool := pool
  accessFlags := fl
  thisClass := this
  superClass := sup
  interfaces := ifs
  fields := fds
  methods := ms
  attributes := attrs
def plain (name : String) (sup : Option ClassId) : Class where
  name := name
  kind := .ordinary
  loader := none
  accessFlags := 33
  super := sup
  interfaces := #[]
  cf := none
  fields := #[]
  methods := #[]
  instanceTypes := #[]
  staticTypes := #[]
  resolved := #[]
  callSites := []
  init := .initialized
  statics := none
  mirror := none

def pool0 : Array CpInfo := pool [(5, u "<init>"), (0, u "()V"), (1, .class_ 10), (1, u "java/lang/Object")] 113

def k0c0 : Code := { maxStack := 0, maxLocals := 1, code := object_method_1_code, exceptionTable := #[], attributes := #[] }
def k0m0 : Method := { name := "<init>", desc := "()V", sig := { parameters := [], returnType := none }, accessFlags := 1, code := some k0c0 }
/-- java/lang/Object -/
def k0 : Class := { plain "java/lang/Object" none with
  accessFlags := 33
  interfaces := #[]
  cf := some (fileOf pool0 8 #[] #[{ accessFlags := 1, nameIndex := 5, descriptorIndex := 6, attributes := #[] }] 33 0 #[] #[])
  fields := #[]
  methods := #[k0m0]
  instanceTypes := #[]
  staticTypes := #[]
  resolved := Array.replicate 124 none
  statics := none }

def pool1 : Array CpInfo := pool [(2, .class_ 4), (0, .nameAndType 5 6), (0, u "java/lang/Object"), (0, u "<init>"), (0, u "()V"), (0, .integer 2147483647), (0, .methodref 9 10), (0, .class_ 11), (0, .nameAndType 12 13), (0, u "com/example/dyadloom/dyadloom/core/TripletColumnIdPinLaw"), (0, u "asc"), (0, u "(JI)B"), (0, .class_ 15), (0, u "com/example/dyadloom/dyadloom/core/TripletReader$Triplet"), (0, .methodref 14 3), (0, .fieldref 14 18), (0, .nameAndType 19 20), (0, u "bytes"), (0, u "[B"), (0, .fieldref 14 22), (0, .nameAndType 23 24), (0, u "rowStart"), (0, u "I"), (0, .methodref 26 27), (0, .class_ 28), (0, .nameAndType 29 30), (0, u "java/lang/Math"), (0, u "min"), (0, u "(II)I"), (0, .fieldref 14 32), (0, .nameAndType 33 24), (0, u "rowEnd"), (0, .fieldref 14 35), (0, .nameAndType 36 24), (0, u "columnStart"), (0, .fieldref 14 38), (0, .nameAndType 39 24), (0, u "columnEnd"), (0, .methodref 14 41), (0, .nameAndType 42 43), (0, u "columnId"), (0, u "()Ljava/lang/String;"), (0, .methodref 45 46), (0, .class_ 47), (0, .nameAndType 48 49), (0, u "java/lang/String"), (0, u "length"), (0, u "()I"), (0, .methodref 9 51), (0, .nameAndType 52 53), (0, u "at"), (0, u "(Ljava/lang/String;II)Z"), (0, .long 127), (1, .methodref 45 57), (0, .nameAndType 58 59), (0, u "charAt"), (0, u "(I)C"), (2, u "law"), (0, u "(IJII)Z")] 8

def k1m0 : Method := { name := "<init>", desc := "()V", sig := { parameters := [], returnType := none }, accessFlags := 2, code := none }
def k1c1 : Code := { maxStack := 5, maxLocals := 18, code := code, exceptionTable := #[], attributes := #[] }
def k1m1 : Method := { name := "law", desc := "(IJII)Z", sig := { parameters := [.int, .long, .int, .int], returnType := some .boolean }, accessFlags := 9, code := some k1c1 }
def k1c2 : Code := { maxStack := 4, maxLocals := 3, code := method_3_code, exceptionTable := #[], attributes := #[] }
def k1m2 : Method := { name := "asc", desc := "(JI)B", sig := { parameters := [.long, .int], returnType := some .byte }, accessFlags := 10, code := some k1c2 }
def k1c3 : Code := { maxStack := 2, maxLocals := 3, code := method_4_code, exceptionTable := #[], attributes := #[] }
def k1m3 : Method := { name := "at", desc := "(Ljava/lang/String;II)Z", sig := { parameters := [(.object "java/lang/String"), .int, .int], returnType := some .boolean }, accessFlags := 10, code := some k1c3 }
/-- com/example/dyadloom/dyadloom/core/TripletColumnIdPinLaw -/
def k1 : Class := { plain "com/example/dyadloom/dyadloom/core/TripletColumnIdPinLaw" (some 0) with
  accessFlags := 49
  interfaces := #[]
  cf := some (fileOf pool1 9 #[] #[{ accessFlags := 2, nameIndex := 5, descriptorIndex := 6, attributes := #[] }, { accessFlags := 9, nameIndex := 62, descriptorIndex := 63, attributes := #[] }, { accessFlags := 10, nameIndex := 12, descriptorIndex := 13, attributes := #[] }, { accessFlags := 10, nameIndex := 52, descriptorIndex := 53, attributes := #[] }] 49 2 #[] #[])
  fields := #[]
  methods := #[k1m0, k1m1, k1m2, k1m3]
  instanceTypes := #[]
  staticTypes := #[]
  resolved := Array.replicate 72 none
  statics := none }

def pool2 : Array CpInfo := pool [(1, .methodref 2 3), (0, .class_ 4), (0, .nameAndType 5 6), (0, u "java/lang/Object"), (0, u "<init>"), (0, u "()V"), (0, .class_ 8), (0, u "java/lang/String"), (0, .fieldref 10 11), (0, .class_ 12), (0, .nameAndType 13 14), (0, u "com/example/dyadloom/dyadloom/core/TripletReader$Triplet"), (0, u "bytes"), (0, u "[B"), (2, u "rowStart"), (0, u "I"), (2, u "rowEnd"), (0, .fieldref 23 24), (0, .class_ 25), (0, .nameAndType 26 27), (0, u "java/nio/charset/StandardCharsets"), (0, u "UTF_8"), (0, u "Ljava/nio/charset/Charset;"), (0, .methodref 7 29), (0, .nameAndType 5 30), (0, u "([BIILjava/nio/charset/Charset;)V"), (0, .fieldref 10 32), (0, .nameAndType 33 18), (0, u "columnStart"), (0, .fieldref 10 35), (0, .nameAndType 36 18), (0, u "columnEnd"), (0, u "value"), (0, u "D"), (3, u "()Ljava/lang/String;"), (0, u "columnId"), (3, .class_ 48), (0, u "com/example/dyadloom/dyadloom/core/TripletReader")] 2

def k2c0 : Code := { maxStack := 1, maxLocals := 1, code := prog_34_method_1_code, exceptionTable := #[], attributes := #[] }
def k2m0 : Method := { name := "<init>", desc := "()V", sig := { parameters := [], returnType := none }, accessFlags := 0, code := some k2c0 }
def k2c1 : Code := { maxStack := 6, maxLocals := 1, code := prog_34_method_3_code, exceptionTable := #[], attributes := #[] }
def k2m1 : Method := { name := "columnId", desc := "()Ljava/lang/String;", sig := { parameters := [], returnType := some (.object "java/lang/String") }, accessFlags := 0, code := some k2c1 }
/-- com/example/dyadloom/dyadloom/core/TripletReader$Triplet -/
def k2 : Class := { plain "com/example/dyadloom/dyadloom/core/TripletReader$Triplet" (some 0) with
  accessFlags := 48
  interfaces := #[]
  cf := some (fileOf pool2 10 #[.nestHost 47] #[{ accessFlags := 0, nameIndex := 5, descriptorIndex := 6, attributes := #[] }, { accessFlags := 0, nameIndex := 43, descriptorIndex := 42, attributes := #[] }] 48 2 #[] #[{ accessFlags := 0, nameIndex := 13, descriptorIndex := 14, attributes := #[] }, { accessFlags := 0, nameIndex := 17, descriptorIndex := 18, attributes := #[] }, { accessFlags := 0, nameIndex := 21, descriptorIndex := 18, attributes := #[] }, { accessFlags := 0, nameIndex := 33, descriptorIndex := 18, attributes := #[] }, { accessFlags := 0, nameIndex := 36, descriptorIndex := 18, attributes := #[] }, { accessFlags := 0, nameIndex := 37, descriptorIndex := 38, attributes := #[] }])
  fields := #[{ name := "bytes", type := (.array .byte), accessFlags := 0, slot := 0, constantValue := 0 }, { name := "rowStart", type := .int, accessFlags := 0, slot := 1, constantValue := 0 }, { name := "rowEnd", type := .int, accessFlags := 0, slot := 2, constantValue := 0 }, { name := "columnStart", type := .int, accessFlags := 0, slot := 3, constantValue := 0 }, { name := "columnEnd", type := .int, accessFlags := 0, slot := 4, constantValue := 0 }, { name := "value", type := .double, accessFlags := 0, slot := 5, constantValue := 0 }]
  methods := #[k2m0, k2m1]
  instanceTypes := #[(.array .byte), .int, .int, .int, .int, .double]
  staticTypes := #[]
  resolved := Array.replicate 51 none
  statics := none }

def pool3 : Array CpInfo := pool [(1, .class_ 2), (0, u "java/lang/Math"), (1, .class_ 6), (1, u "java/lang/Object"), (0, u "<init>"), (0, u "()V"), (89, .class_ 100), (1, u "java/lang/Math$RandomNumberGeneratorHolder"), (71, u "negativeZeroFloatBits"), (0, u "J"), (2, u "negativeZeroDoubleBits"), (24, u "min"), (43, u "$assertionsDisabled"), (0, u "Z"), (88, u "(II)I"), (2, u "twoToTheDoubleScaleDown"), (0, u "D"), (4, u "twoToTheDoubleScaleUp"), (9, u "E"), (3, u "PI"), (2, u "TAU"), (2, u "DEGREES_TO_RADIANS"), (0, u "RADIANS_TO_DEGREES")] 94

def k3m0 : Method := { name := "<init>", desc := "()V", sig := { parameters := [], returnType := none }, accessFlags := 2, code := none }
def k3c1 : Code := { maxStack := 2, maxLocals := 2, code := jdk_29_method_69_code, exceptionTable := #[], attributes := #[] }
def k3m1 : Method := { name := "min", desc := "(II)I", sig := { parameters := [.int, .int], returnType := some .int }, accessFlags := 9, code := some k3c1 }
/-- java/lang/Math -/
def k3 : Class := { plain "java/lang/Math" (some 0) with
  accessFlags := 49
  interfaces := #[]
  cf := some (fileOf pool3 1 #[.nestMembers #[98]] #[{ accessFlags := 2, nameIndex := 7, descriptorIndex := 8, attributes := #[] }, { accessFlags := 9, nameIndex := 201, descriptorIndex := 335, attributes := #[] }] 49 4 #[] #[{ accessFlags := 25, nameIndex := 354, descriptorIndex := 339, attributes := #[] }, { accessFlags := 25, nameIndex := 358, descriptorIndex := 339, attributes := #[] }, { accessFlags := 25, nameIndex := 361, descriptorIndex := 339, attributes := #[] }, { accessFlags := 26, nameIndex := 364, descriptorIndex := 339, attributes := #[] }, { accessFlags := 26, nameIndex := 365, descriptorIndex := 339, attributes := #[] }, { accessFlags := 26, nameIndex := 172, descriptorIndex := 173, attributes := #[] }, { accessFlags := 26, nameIndex := 176, descriptorIndex := 173, attributes := #[] }, { accessFlags := 8, nameIndex := 344, descriptorIndex := 339, attributes := #[] }, { accessFlags := 8, nameIndex := 338, descriptorIndex := 339, attributes := #[] }, { accessFlags := 4120, nameIndex := 245, descriptorIndex := 246, attributes := #[] }])
  fields := #[{ name := "E", type := .double, accessFlags := 25, slot := 0, constantValue := 0 }, { name := "PI", type := .double, accessFlags := 25, slot := 1, constantValue := 0 }, { name := "TAU", type := .double, accessFlags := 25, slot := 2, constantValue := 0 }, { name := "DEGREES_TO_RADIANS", type := .double, accessFlags := 26, slot := 3, constantValue := 0 }, { name := "RADIANS_TO_DEGREES", type := .double, accessFlags := 26, slot := 4, constantValue := 0 }, { name := "negativeZeroFloatBits", type := .long, accessFlags := 26, slot := 5, constantValue := 0 }, { name := "negativeZeroDoubleBits", type := .long, accessFlags := 26, slot := 6, constantValue := 0 }, { name := "twoToTheDoubleScaleUp", type := .double, accessFlags := 8, slot := 7, constantValue := 0 }, { name := "twoToTheDoubleScaleDown", type := .double, accessFlags := 8, slot := 8, constantValue := 0 }, { name := "$assertionsDisabled", type := .boolean, accessFlags := 4120, slot := 9, constantValue := 0 }]
  methods := #[k3m0, k3m1]
  instanceTypes := #[]
  staticTypes := #[.double, .double, .double, .double, .double, .long, .long, .double, .double, .boolean]
  resolved := Array.replicate 460 none
  statics := none }

def pool4 : Array CpInfo := pool [(1, .class_ 2), (0, u "java/io/Serializable"), (0, .class_ 4), (0, u "java/lang/Object")] 2

/-- java/io/Serializable -/
def k4 : Class := { plain "java/io/Serializable" (some 0) with
  accessFlags := 1537
  interfaces := #[]
  cf := some (fileOf pool4 1 #[] #[] 1537 3 #[] #[])
  fields := #[]
  methods := #[]
  instanceTypes := #[]
  staticTypes := #[]
  resolved := Array.replicate 7 none
  statics := none }

def pool5 : Array CpInfo := pool [(1, .class_ 2), (0, u "java/lang/Comparable"), (0, .class_ 4), (0, u "java/lang/Object")] 7

/-- java/lang/Comparable -/
def k5 : Class := { plain "java/lang/Comparable" (some 0) with
  accessFlags := 1537
  interfaces := #[]
  cf := some (fileOf pool5 1 #[] #[] 1537 3 #[] #[])
  fields := #[]
  methods := #[]
  instanceTypes := #[]
  staticTypes := #[]
  resolved := Array.replicate 12 none
  statics := none }

def pool6 : Array CpInfo := pool [(2, .class_ 4), (1, u "java/lang/CharSequence"), (42, .class_ 48), (0, u "java/lang/CharSequence$1CodePointIterator"), (10, .class_ 60), (0, u "java/lang/CharSequence$1CharIterator"), (5, .class_ 67), (0, u "java/lang/Object")] 63

/-- java/lang/CharSequence -/
def k6 : Class := { plain "java/lang/CharSequence" (some 0) with
  accessFlags := 1537
  interfaces := #[]
  cf := some (fileOf pool6 2 #[.nestMembers #[47, 59]] #[] 1537 66 #[] #[])
  fields := #[]
  methods := #[]
  instanceTypes := #[]
  staticTypes := #[]
  resolved := Array.replicate 131 none
  statics := none }

def pool7 : Array CpInfo := pool [(1, .class_ 2), (0, u "java/lang/constant/Constable"), (0, .class_ 4), (0, u "java/lang/Object")] 6

/-- java/lang/constant/Constable -/
def k7 : Class := { plain "java/lang/constant/Constable" (some 0) with
  accessFlags := 1537
  interfaces := #[]
  cf := some (fileOf pool7 1 #[] #[] 1537 3 #[] #[])
  fields := #[]
  methods := #[]
  instanceTypes := #[]
  staticTypes := #[]
  resolved := Array.replicate 11 none
  statics := none }

def pool8 : Array CpInfo := pool [(1, .class_ 2), (0, u "java/lang/constant/ConstantDesc"), (0, .class_ 4), (0, u "java/lang/Object")] 32

/-- java/lang/constant/ConstantDesc -/
def k8 : Class := { plain "java/lang/constant/ConstantDesc" (some 0) with
  accessFlags := 1537
  interfaces := #[]
  cf := some (fileOf pool8 1 #[] #[] 1537 3 #[] #[])
  fields := #[]
  methods := #[]
  instanceTypes := #[]
  staticTypes := #[]
  resolved := Array.replicate 37 none
  statics := none }

def pool9 : Array CpInfo := pool [(1, .methodref 2 3), (0, .class_ 4), (0, .nameAndType 5 6), (0, u "java/lang/Object"), (0, u "<init>"), (0, u "()V"), (2, .fieldref 10 11), (0, .class_ 12), (0, .nameAndType 13 14), (0, u "java/lang/String"), (0, u "value"), (0, u "[B"), (0, .fieldref 10 16), (0, .nameAndType 17 18), (0, u "coder"), (0, u "B"), (2, u "hash"), (0, u "I"), (2, u "hashIsZero"), (0, u "Z"), (7, .methodref 10 35), (0, .nameAndType 36 37), (0, u "checkBoundsOffCount"), (0, u "(III)I"), (0, .fieldref 10 39), (0, .nameAndType 40 26), (0, u "COMPACT_STRINGS"), (1, .class_ 44), (1, u "java/lang/StringUTF16"), (9, .methodref 55 56), (0, .class_ 57), (0, .nameAndType 58 59), (0, u "java/util/Arrays"), (0, u "copyOfRange"), (0, u "([BII)[B"), (0, .methodref 42 61), (0, .nameAndType 62 63), (0, u "newBytesFor"), (0, u "(I)[B"), (0, .methodref 42 65), (0, .nameAndType 66 67), (0, u "putChar"), (0, u "([BII)V"), (7, .methodref 10 76), (0, .nameAndType 5 77), (0, u "(Ljava/nio/charset/Charset;[BII)V"), (0, .methodref 79 80), (0, .class_ 81), (0, .nameAndType 82 83), (0, u "java/util/Objects"), (0, u "requireNonNull"), (0, u "(Ljava/lang/Object;)Ljava/lang/Object;"), (0, .class_ 85), (0, u "java/nio/charset/Charset"), (0, .fieldref 87 88), (0, .class_ 89), (0, .nameAndType 90 91), (0, u "sun/nio/cs/UTF_8"), (0, u "INSTANCE"), (0, u "Lsun/nio/cs/UTF_8;"), (0, .methodref 93 94), (0, .class_ 95), (0, .nameAndType 96 97), (0, u "java/lang/StringCoding"), (0, u "countPositives"), (0, u "([BII)I"), (0, .methodref 10 99), (0, .nameAndType 100 101), (0, u "decode2"), (0, u "(II)C"), (0, .methodref 55 103), (0, .nameAndType 104 105), (0, u "copyOf"), (0, u "([BI)[B"), (0, .methodref 107 108), (0, .class_ 109), (0, .nameAndType 110 111), (0, u "java/lang/StringLatin1"), (0, u "inflate"), (0, u "([BI[BII)V"), (0, .methodref 10 113), (0, .nameAndType 114 115), (0, u "decodeUTF8_UTF16"), (0, u "([BII[BIZ)I"), (26, u "()Z"), (95, u "([BIILjava/nio/charset/Charset;)V"), (95, u "()I"), (0, .methodref 10 336), (0, .nameAndType 17 337), (0, u "()B"), (25, u "([BI)C"), (21, .methodref 10 386), (0, .nameAndType 387 388), (0, u "isNotContinuation"), (0, u "(I)Z"), (2, u "(II)V"), (35, u "(I)C"), (64, .methodref 10 493), (0, .nameAndType 494 142), (0, u "isLatin1"), (0, .methodref 107 496), (0, .nameAndType 497 363), (0, u "charAt"), (0, .methodref 42 496), (2, u "checkIndex"), (5, u "length"), (67, .class_ 576), (0, u "java/lang/CharSequence"), (22, u "CASE_INSENSITIVE_ORDER"), (0, u "Ljava/util/Comparator;"), (452, .fieldref 1054 1055), (0, .class_ 1056), (0, .nameAndType 1057 1058), (0, u "jdk/internal/util/Preconditions"), (0, u "SIOOBE_FORMATTER"), (0, u "Ljava/util/function/BiFunction;"), (0, .methodref 1054 1060), (0, .nameAndType 501 1061), (0, u "(IILjava/util/function/BiFunction;)I"), (2, u "(IIILjava/util/function/BiFunction;)I"), (0, .methodref 1054 1066), (0, .nameAndType 1067 1064), (0, u "checkFromIndexSize"), (33, u "serialPersistentFields"), (0, u "[Ljava/io/ObjectStreamField;"), (0, .class_ 1104), (0, u "java/lang/String$CaseInsensitiveComparator"), (1, .class_ 1107), (0, u "java/io/Serializable"), (0, .class_ 1109), (0, u "java/lang/Comparable"), (0, .class_ 1111), (0, u "java/lang/constant/Constable"), (0, .class_ 1113), (0, u "java/lang/constant/ConstantDesc"), (2, u "serialVersionUID"), (0, u "J"), (3, u "REPL"), (0, u "C"), (2, u "LATIN1"), (1, u "UTF16")] 323

def k9m0 : Method := { name := "<init>", desc := "()V", sig := { parameters := [], returnType := none }, accessFlags := 1, code := none }
def k9c1 : Code := { maxStack := 6, maxLocals := 5, code := jdk_42_method_10_code, exceptionTable := #[], attributes := #[] }
def k9m1 : Method := { name := "<init>", desc := "([BIILjava/nio/charset/Charset;)V", sig := { parameters := [(.array .byte), .int, .int, (.object "java/nio/charset/Charset")], returnType := none }, accessFlags := 1, code := some k9c1 }
def k9c2 : Code := { maxStack := 6, maxLocals := 11, code := jdk_42_method_11_code, exceptionTable := #[{ startPc := 800, endPc := 813, handlerPc := 816, catchType := 202 }], attributes := #[] }
def k9m2 : Method := { name := "<init>", desc := "(Ljava/nio/charset/Charset;[BII)V", sig := { parameters := [(.object "java/nio/charset/Charset"), (.array .byte), .int, .int], returnType := none }, accessFlags := 2, code := some k9c2 }
def k9c3 : Code := { maxStack := 2, maxLocals := 1, code := jdk_42_method_29_code, exceptionTable := #[], attributes := #[] }
def k9m3 : Method := { name := "isNotContinuation", desc := "(I)Z", sig := { parameters := [.int], returnType := some .boolean }, accessFlags := 10, code := some k9c3 }
def k9c4 : Code := { maxStack := 2, maxLocals := 2, code := jdk_42_method_35_code, exceptionTable := #[], attributes := #[] }
def k9m4 : Method := { name := "decode2", desc := "(II)C", sig := { parameters := [.int, .int], returnType := some .char }, accessFlags := 10, code := some k9c4 }
def k9c5 : Code := { maxStack := 4, maxLocals := 11, code := jdk_42_method_38_code, exceptionTable := #[], attributes := #[] }
def k9m5 : Method := { name := "decodeUTF8_UTF16", desc := "([BII[BIZ)I", sig := { parameters := [(.array .byte), .int, .int, (.array .byte), .int, .boolean], returnType := some .int }, accessFlags := 10, code := some k9c5 }
def k9c6 : Code := { maxStack := 2, maxLocals := 1, code := jdk_42_method_54_code, exceptionTable := #[], attributes := #[] }
def k9m6 : Method := { name := "length", desc := "()I", sig := { parameters := [], returnType := some .int }, accessFlags := 1, code := some k9c6 }
def k9c7 : Code := { maxStack := 2, maxLocals := 2, code := jdk_42_method_56_code, exceptionTable := #[], attributes := #[] }
def k9m7 : Method := { name := "charAt", desc := "(I)C", sig := { parameters := [.int], returnType := some .char }, accessFlags := 1, code := some k9c7 }
def k9c8 : Code := { maxStack := 1, maxLocals := 1, code := jdk_42_method_152_code, exceptionTable := #[], attributes := #[] }
def k9m8 : Method := { name := "coder", desc := "()B", sig := { parameters := [], returnType := some .byte }, accessFlags := 0, code := some k9c8 }
def k9c9 : Code := { maxStack := 1, maxLocals := 1, code := jdk_42_method_154_code, exceptionTable := #[], attributes := #[] }
def k9m9 : Method := { name := "isLatin1", desc := "()Z", sig := { parameters := [], returnType := some .boolean }, accessFlags := 0, code := some k9c9 }
def k9c10 : Code := { maxStack := 3, maxLocals := 2, code := jdk_42_method_155_code, exceptionTable := #[], attributes := #[] }
def k9m10 : Method := { name := "checkIndex", desc := "(II)V", sig := { parameters := [.int, .int], returnType := none }, accessFlags := 8, code := some k9c10 }
def k9c11 : Code := { maxStack := 4, maxLocals := 3, code := jdk_42_method_157_code, exceptionTable := #[], attributes := #[] }
def k9m11 : Method := { name := "checkBoundsOffCount", desc := "(III)I", sig := { parameters := [.int, .int, .int], returnType := some .int }, accessFlags := 8, code := some k9c11 }
/-- java/lang/String -/
def k9 : Class := { plain "java/lang/String" (some 0) with
  accessFlags := 49
  interfaces := #[4, 5, 6, 7, 8]
  cf := some (fileOf pool9 10 #[.nestMembers #[1103]] #[{ accessFlags := 1, nameIndex := 5, descriptorIndex := 6, attributes := #[] }, { accessFlags := 1, nameIndex := 5, descriptorIndex := 238, attributes := #[] }, { accessFlags := 2, nameIndex := 5, descriptorIndex := 77, attributes := #[] }, { accessFlags := 10, nameIndex := 387, descriptorIndex := 388, attributes := #[] }, { accessFlags := 10, nameIndex := 100, descriptorIndex := 101, attributes := #[] }, { accessFlags := 10, nameIndex := 114, descriptorIndex := 115, attributes := #[] }, { accessFlags := 1, nameIndex := 507, descriptorIndex := 334, attributes := #[] }, { accessFlags := 1, nameIndex := 497, descriptorIndex := 427, attributes := #[] }, { accessFlags := 0, nameIndex := 17, descriptorIndex := 337, attributes := #[] }, { accessFlags := 0, nameIndex := 494, descriptorIndex := 142, attributes := #[] }, { accessFlags := 8, nameIndex := 501, descriptorIndex := 391, attributes := #[] }, { accessFlags := 8, nameIndex := 36, descriptorIndex := 37, attributes := #[] }] 49 2 #[1106, 1108, 575, 1110, 1112] #[{ accessFlags := 18, nameIndex := 13, descriptorIndex := 14, attributes := #[] }, { accessFlags := 18, nameIndex := 17, descriptorIndex := 18, attributes := #[] }, { accessFlags := 2, nameIndex := 21, descriptorIndex := 22, attributes := #[] }, { accessFlags := 2, nameIndex := 25, descriptorIndex := 26, attributes := #[] }, { accessFlags := 26, nameIndex := 1116, descriptorIndex := 1117, attributes := #[] }, { accessFlags := 24, nameIndex := 40, descriptorIndex := 26, attributes := #[] }, { accessFlags := 26, nameIndex := 1101, descriptorIndex := 1102, attributes := #[] }, { accessFlags := 26, nameIndex := 1121, descriptorIndex := 1122, attributes := #[] }, { accessFlags := 25, nameIndex := 599, descriptorIndex := 600, attributes := #[] }, { accessFlags := 24, nameIndex := 1125, descriptorIndex := 18, attributes := #[] }, { accessFlags := 24, nameIndex := 1127, descriptorIndex := 18, attributes := #[] }])
  fields := #[{ name := "value", type := (.array .byte), accessFlags := 18, slot := 0, constantValue := 0 }, { name := "coder", type := .byte, accessFlags := 18, slot := 1, constantValue := 0 }, { name := "hash", type := .int, accessFlags := 2, slot := 2, constantValue := 0 }, { name := "hashIsZero", type := .boolean, accessFlags := 2, slot := 3, constantValue := 0 }, { name := "serialVersionUID", type := .long, accessFlags := 26, slot := 0, constantValue := 0 }, { name := "COMPACT_STRINGS", type := .boolean, accessFlags := 24, slot := 1, constantValue := 0 }, { name := "serialPersistentFields", type := (.array (.object "java/io/ObjectStreamField")), accessFlags := 26, slot := 2, constantValue := 0 }, { name := "REPL", type := .char, accessFlags := 26, slot := 3, constantValue := 0 }, { name := "CASE_INSENSITIVE_ORDER", type := (.object "java/util/Comparator"), accessFlags := 25, slot := 4, constantValue := 0 }, { name := "LATIN1", type := .byte, accessFlags := 24, slot := 5, constantValue := 0 }, { name := "UTF16", type := .byte, accessFlags := 24, slot := 6, constantValue := 0 }]
  methods := #[k9m0, k9m1, k9m2, k9m3, k9m4, k9m5, k9m6, k9m7, k9m8, k9m9, k9m10, k9m11]
  instanceTypes := #[(.array .byte), .byte, .int, .boolean]
  staticTypes := #[.long, .boolean, (.array (.object "java/io/ObjectStreamField")), .char, (.object "java/util/Comparator"), .byte, .byte]
  resolved := Array.replicate 1451 none
  statics := some 0 }

def pool10 : Array CpInfo := pool [(2, .class_ 4), (1, u "java/lang/Object"), (0, u "<init>"), (0, u "()V"), (14, .class_ 23), (1, u "java/nio/charset/StandardCharsets"), (0, u "US_ASCII"), (0, u "Ljava/nio/charset/Charset;"), (7, u "ISO_8859_1"), (7, u "UTF_8"), (5, u "UTF_16BE"), (5, u "UTF_16LE"), (5, u "UTF_16")] 8

def k10m0 : Method := { name := "<init>", desc := "()V", sig := { parameters := [], returnType := none }, accessFlags := 2, code := none }
/-- java/nio/charset/StandardCharsets -/
def k10 : Class := { plain "java/nio/charset/StandardCharsets" (some 0) with
  accessFlags := 49
  interfaces := #[]
  cf := some (fileOf pool10 21 #[] #[{ accessFlags := 2, nameIndex := 5, descriptorIndex := 6, attributes := #[] }] 49 2 #[] #[{ accessFlags := 25, nameIndex := 24, descriptorIndex := 25, attributes := #[] }, { accessFlags := 25, nameIndex := 33, descriptorIndex := 25, attributes := #[] }, { accessFlags := 25, nameIndex := 41, descriptorIndex := 25, attributes := #[] }, { accessFlags := 25, nameIndex := 47, descriptorIndex := 25, attributes := #[] }, { accessFlags := 25, nameIndex := 53, descriptorIndex := 25, attributes := #[] }, { accessFlags := 25, nameIndex := 59, descriptorIndex := 25, attributes := #[] }])
  fields := #[{ name := "US_ASCII", type := (.object "java/nio/charset/Charset"), accessFlags := 25, slot := 0, constantValue := 0 }, { name := "ISO_8859_1", type := (.object "java/nio/charset/Charset"), accessFlags := 25, slot := 1, constantValue := 0 }, { name := "UTF_8", type := (.object "java/nio/charset/Charset"), accessFlags := 25, slot := 2, constantValue := 0 }, { name := "UTF_16BE", type := (.object "java/nio/charset/Charset"), accessFlags := 25, slot := 3, constantValue := 0 }, { name := "UTF_16LE", type := (.object "java/nio/charset/Charset"), accessFlags := 25, slot := 4, constantValue := 0 }, { name := "UTF_16", type := (.object "java/nio/charset/Charset"), accessFlags := 25, slot := 5, constantValue := 0 }]
  methods := #[k10m0]
  instanceTypes := #[]
  staticTypes := #[(.object "java/nio/charset/Charset"), (.object "java/nio/charset/Charset"), (.object "java/nio/charset/Charset"), (.object "java/nio/charset/Charset"), (.object "java/nio/charset/Charset"), (.object "java/nio/charset/Charset")]
  resolved := Array.replicate 68 none
  statics := some 1 }

def pool11 : Array CpInfo := pool [(2, .class_ 4), (1, u "java/lang/Object"), (0, u "<init>"), (0, u "()V"), (35, .class_ 44), (1, u "java/util/Objects"), (0, u "requireNonNull"), (0, u "(Ljava/lang/Object;)Ljava/lang/Object;")] 137

def k11m0 : Method := { name := "<init>", desc := "()V", sig := { parameters := [], returnType := none }, accessFlags := 2, code := none }
def k11c1 : Code := { maxStack := 2, maxLocals := 1, code := jdk_31_method_10_code, exceptionTable := #[], attributes := #[] }
def k11m1 : Method := { name := "requireNonNull", desc := "(Ljava/lang/Object;)Ljava/lang/Object;", sig := { parameters := [(.object "java/lang/Object")], returnType := some (.object "java/lang/Object") }, accessFlags := 9, code := some k11c1 }
/-- java/util/Objects -/
def k11 : Class := { plain "java/util/Objects" (some 0) with
  accessFlags := 49
  interfaces := #[]
  cf := some (fileOf pool11 42 #[] #[{ accessFlags := 2, nameIndex := 5, descriptorIndex := 6, attributes := #[] }, { accessFlags := 9, nameIndex := 45, descriptorIndex := 46, attributes := #[] }] 49 2 #[] #[])
  fields := #[]
  methods := #[k11m0, k11m1]
  instanceTypes := #[]
  staticTypes := #[]
  resolved := Array.replicate 184 none
  statics := none }

def pool12 : Array CpInfo := pool [(18, .class_ 20), (1, u "java/nio/charset/Charset"), (0, u "cache1"), (0, u "[Ljava/lang/Object;"), (2, u "cache2"), (0, .class_ 27), (0, u "java/lang/Object"), (0, .class_ 29), (0, u "java/nio/charset/Charset$1"), (4, .class_ 36), (1, u "java/nio/charset/Charset$ThreadTrackHolder"), (21, .class_ 59), (0, u "java/nio/charset/Charset$2"), (11, .class_ 73), (1, u "java/nio/charset/Charset$ExtendedProviderHolder"), (22, u "standardProvider"), (0, u "Ljava/nio/charset/spi/CharsetProvider;"), (29, u "name"), (7, .class_ 136), (0, u "java/nio/charset/Charset$3"), (5, u "defaultCharset"), (0, u "Ljava/nio/charset/Charset;"), (14, u "zeroAliases"), (0, u "[Ljava/lang/String;"), (29, u "Ljava/lang/String;"), (2, u "aliases"), (2, u "aliasSet"), (0, u "Ljava/util/Set;"), (82, .class_ 280), (0, u "java/lang/Comparable"), (84, .class_ 366), (0, u "java/nio/charset/Charset$ExtendedProviderHolder$1")] 3

/-- java/nio/charset/Charset -/
def k12 : Class := { plain "java/nio/charset/Charset" (some 0) with
  accessFlags := 1057
  interfaces := #[5]
  cf := some (fileOf pool12 18 #[.nestMembers #[71, 365, 34, 135, 58, 28]] #[] 1057 26 #[279] #[{ accessFlags := 26, nameIndex := 96, descriptorIndex := 97, attributes := #[] }, { accessFlags := 26, nameIndex := 158, descriptorIndex := 159, attributes := #[] }, { accessFlags := 74, nameIndex := 21, descriptorIndex := 22, attributes := #[] }, { accessFlags := 74, nameIndex := 25, descriptorIndex := 22, attributes := #[] }, { accessFlags := 10, nameIndex := 142, descriptorIndex := 143, attributes := #[] }, { accessFlags := 18, nameIndex := 127, descriptorIndex := 189, attributes := #[] }, { accessFlags := 18, nameIndex := 192, descriptorIndex := 159, attributes := #[] }, { accessFlags := 2, nameIndex := 195, descriptorIndex := 196, attributes := #[] }])
  fields := #[{ name := "standardProvider", type := (.object "java/nio/charset/spi/CharsetProvider"), accessFlags := 26, slot := 0, constantValue := 0 }, { name := "zeroAliases", type := (.array (.object "java/lang/String")), accessFlags := 26, slot := 1, constantValue := 0 }, { name := "cache1", type := (.array (.object "java/lang/Object")), accessFlags := 74, slot := 2, constantValue := 0 }, { name := "cache2", type := (.array (.object "java/lang/Object")), accessFlags := 74, slot := 3, constantValue := 0 }, { name := "defaultCharset", type := (.object "java/nio/charset/Charset"), accessFlags := 10, slot := 4, constantValue := 0 }, { name := "name", type := (.object "java/lang/String"), accessFlags := 18, slot := 0, constantValue := 0 }, { name := "aliases", type := (.array (.object "java/lang/String")), accessFlags := 18, slot := 1, constantValue := 0 }, { name := "aliasSet", type := (.object "java/util/Set"), accessFlags := 2, slot := 2, constantValue := 0 }]
  methods := #[]
  instanceTypes := #[(.object "java/lang/String"), (.array (.object "java/lang/String")), (.object "java/util/Set")]
  staticTypes := #[(.object "java/nio/charset/spi/CharsetProvider"), (.array (.object "java/lang/String")), (.array (.object "java/lang/Object")), (.array (.object "java/lang/Object")), (.object "java/nio/charset/Charset")]
  resolved := Array.replicate 370 none
  statics := none }

def pool13 : Array CpInfo := pool [(1, .class_ 2), (0, u "sun/nio/cs/HistoricallyNamedCharset"), (0, .class_ 4), (0, u "java/lang/Object")] 4

/-- sun/nio/cs/HistoricallyNamedCharset -/
def k13 : Class := { plain "sun/nio/cs/HistoricallyNamedCharset" (some 0) with
  accessFlags := 1537
  interfaces := #[]
  cf := some (fileOf pool13 1 #[] #[] 1537 3 #[] #[])
  fields := #[]
  methods := #[]
  instanceTypes := #[]
  staticTypes := #[]
  resolved := Array.replicate 9 none
  statics := none }

def pool14 : Array CpInfo := pool [(2, .class_ 4), (1, u "java/nio/charset/Charset"), (130, .class_ 136), (0, u "sun/nio/cs/Unicode"), (0, .class_ 138), (0, u "sun/nio/cs/HistoricallyNamedCharset")] 15

/-- sun/nio/cs/Unicode -/
def k14 : Class := { plain "sun/nio/cs/Unicode" (some 12) with
  accessFlags := 1056
  interfaces := #[13]
  cf := some (fileOf pool14 135 #[] #[] 1056 2 #[137] #[])
  fields := #[]
  methods := #[]
  instanceTypes := #[(.object "java/lang/String"), (.array (.object "java/lang/String")), (.object "java/util/Set")]
  staticTypes := #[]
  resolved := Array.replicate 154 none
  statics := none }

def pool15 : Array CpInfo := pool [(10, .class_ 12), (1, u "sun/nio/cs/Unicode"), (0, u "<init>"), (3, .class_ 18), (0, u "sun/nio/cs/UTF_8$Decoder"), (3, .class_ 23), (0, u "sun/nio/cs/UTF_8$Encoder"), (15, .class_ 40), (0, u "sun/nio/cs/UTF_8"), (2, u "()V"), (2, u "INSTANCE"), (0, u "Lsun/nio/cs/UTF_8;"), (8, u "JLA"), (0, u "Ljdk/internal/access/JavaLangAccess;")] 26

def k15m0 : Method := { name := "<init>", desc := "()V", sig := { parameters := [], returnType := none }, accessFlags := 1, code := none }
/-- sun/nio/cs/UTF_8 -/
def k15 : Class := { plain "sun/nio/cs/UTF_8" (some 14) with
  accessFlags := 49
  interfaces := #[]
  cf := some (fileOf pool15 39 #[.nestMembers #[22, 17]] #[{ accessFlags := 1, nameIndex := 13, descriptorIndex := 43, attributes := #[] }] 49 10 #[] #[{ accessFlags := 25, nameIndex := 46, descriptorIndex := 47, attributes := #[] }, { accessFlags := 26, nameIndex := 56, descriptorIndex := 57, attributes := #[] }])
  fields := #[{ name := "INSTANCE", type := (.object "sun/nio/cs/UTF_8"), accessFlags := 25, slot := 0, constantValue := 0 }, { name := "JLA", type := (.object "jdk/internal/access/JavaLangAccess"), accessFlags := 26, slot := 1, constantValue := 0 }]
  methods := #[k15m0]
  instanceTypes := #[(.object "java/lang/String"), (.array (.object "java/lang/String")), (.object "java/util/Set")]
  staticTypes := #[(.object "sun/nio/cs/UTF_8"), (.object "jdk/internal/access/JavaLangAccess")]
  resolved := Array.replicate 84 none
  statics := some 2 }

def pool16 : Array CpInfo := pool [(2, .class_ 4), (1, u "java/lang/Object"), (0, u "<init>"), (0, u "()V"), (17, .class_ 26), (1, u "jdk/internal/util/Preconditions"), (6, u "checkIndex"), (15, u "checkFromIndexSize"), (5, .class_ 56), (0, u "jdk/internal/util/Preconditions$4"), (57, .class_ 115), (0, u "jdk/internal/util/Preconditions$1"), (7, u "SIOOBE_FORMATTER"), (0, u "Ljava/util/function/BiFunction;"), (0, .class_ 126), (0, u "jdk/internal/util/Preconditions$2"), (3, u "AIOOBE_FORMATTER"), (0, .class_ 132), (0, u "jdk/internal/util/Preconditions$3"), (3, u "IOOBE_FORMATTER"), (41, u "(IILjava/util/function/BiFunction;)I"), (4, u "(IIILjava/util/function/BiFunction;)I")] 10

def k16m0 : Method := { name := "<init>", desc := "()V", sig := { parameters := [], returnType := none }, accessFlags := 1, code := none }
def k16c1 : Code := { maxStack := 3, maxLocals := 3, code := jdk_41_method_11_code, exceptionTable := #[], attributes := #[] }
def k16m1 : Method := { name := "checkIndex", desc := "(IILjava/util/function/BiFunction;)I", sig := { parameters := [.int, .int, (.object "java/util/function/BiFunction")], returnType := some .int }, accessFlags := 9, code := some k16c1 }
def k16c2 : Code := { maxStack := 4, maxLocals := 4, code := jdk_41_method_13_code, exceptionTable := #[], attributes := #[] }
def k16m2 : Method := { name := "checkFromIndexSize", desc := "(IIILjava/util/function/BiFunction;)I", sig := { parameters := [.int, .int, .int, (.object "java/util/function/BiFunction")], returnType := some .int }, accessFlags := 9, code := some k16c2 }
/-- jdk/internal/util/Preconditions -/
def k16 : Class := { plain "jdk/internal/util/Preconditions" (some 0) with
  accessFlags := 33
  interfaces := #[]
  cf := some (fileOf pool16 24 #[.nestMembers #[55, 131, 125, 114]] #[{ accessFlags := 1, nameIndex := 5, descriptorIndex := 6, attributes := #[] }, { accessFlags := 9, nameIndex := 33, descriptorIndex := 178, attributes := #[] }, { accessFlags := 9, nameIndex := 49, descriptorIndex := 183, attributes := #[] }] 33 2 #[] #[{ accessFlags := 25, nameIndex := 123, descriptorIndex := 124, attributes := #[] }, { accessFlags := 25, nameIndex := 130, descriptorIndex := 124, attributes := #[] }, { accessFlags := 25, nameIndex := 136, descriptorIndex := 124, attributes := #[] }])
  fields := #[{ name := "SIOOBE_FORMATTER", type := (.object "java/util/function/BiFunction"), accessFlags := 25, slot := 0, constantValue := 0 }, { name := "AIOOBE_FORMATTER", type := (.object "java/util/function/BiFunction"), accessFlags := 25, slot := 1, constantValue := 0 }, { name := "IOOBE_FORMATTER", type := (.object "java/util/function/BiFunction"), accessFlags := 25, slot := 2, constantValue := 0 }]
  methods := #[k16m0, k16m1, k16m2]
  instanceTypes := #[]
  staticTypes := #[(.object "java/util/function/BiFunction"), (.object "java/util/function/BiFunction"), (.object "java/util/function/BiFunction")]
  resolved := Array.replicate 194 none
  statics := some 3 }

def pool17 : Array CpInfo := pool [(2, .class_ 4), (1, u "java/lang/Object"), (0, u "<init>"), (0, u "()V"), (1, .class_ 10), (1, u "java/lang/StringCoding"), (0, u "countPositives"), (0, u "([BII)I")] 36

def k17m0 : Method := { name := "<init>", desc := "()V", sig := { parameters := [], returnType := none }, accessFlags := 2, code := none }
def k17c1 : Code := { maxStack := 2, maxLocals := 5, code := jdk_123_method_3_code, exceptionTable := #[], attributes := #[] }
def k17m1 : Method := { name := "countPositives", desc := "([BII)I", sig := { parameters := [(.array .byte), .int, .int], returnType := some .int }, accessFlags := 9, code := some k17c1 }
/-- java/lang/StringCoding -/
def k17 : Class := { plain "java/lang/StringCoding" (some 0) with
  accessFlags := 32
  interfaces := #[]
  cf := some (fileOf pool17 8 #[] #[{ accessFlags := 2, nameIndex := 5, descriptorIndex := 6, attributes := #[] }, { accessFlags := 9, nameIndex := 11, descriptorIndex := 12, attributes := #[] }] 32 2 #[] #[])
  fields := #[]
  methods := #[k17m0, k17m1]
  instanceTypes := #[]
  staticTypes := #[]
  resolved := Array.replicate 49 none
  statics := none }

def pool18 : Array CpInfo := pool [(2, .class_ 4), (1, u "java/lang/Object"), (0, u "<init>"), (0, u "()V"), (7, .class_ 16), (1, u "java/util/Arrays"), (57, .class_ 76), (1, u "java/util/Arrays$NaturalOrder"), (36, .class_ 115), (1, u "java/util/Arrays$LegacyMergeSort"), (1, u "Z"), (21, u "copyOfRange"), (10, .methodref 151 152), (0, .class_ 153), (0, .nameAndType 154 155), (0, u "java/lang/System"), (0, u "arraycopy"), (0, u "(Ljava/lang/Object;ILjava/lang/Object;II)V"), (146, u "copyOf"), (1, .methodref 305 306), (0, .class_ 307), (0, .nameAndType 308 309), (0, u "java/lang/Math"), (0, u "min"), (0, u "(II)I"), (29, .methodref 14 340), (0, .nameAndType 341 342), (0, u "copyOfRangeByte"), (0, u "([BII)[B"), (0, .methodref 14 344), (0, .nameAndType 345 346), (0, u "checkLength"), (0, u "(II)V"), (28, .class_ 376), (0, u "java/util/Arrays$ArrayList"), (68, u "$assertionsDisabled"), (269, u "MIN_ARRAY_SORT_GRAN"), (0, u "I"), (2, u "INSERTIONSORT_THRESHOLD"), (149, u "([BI)[B"), (105, .class_ 976), (0, u "java/util/Arrays$ArrayItr")] 52

def k18m0 : Method := { name := "<init>", desc := "()V", sig := { parameters := [], returnType := none }, accessFlags := 2, code := none }
def k18c1 : Code := { maxStack := 6, maxLocals := 3, code := jdk_65_method_121_code, exceptionTable := #[], attributes := #[] }
def k18m1 : Method := { name := "copyOf", desc := "([BI)[B", sig := { parameters := [(.array .byte), .int], returnType := some (.array .byte) }, accessFlags := 9, code := some k18c1 }
def k18c2 : Code := { maxStack := 4, maxLocals := 2, code := jdk_65_method_131_code, exceptionTable := #[], attributes := #[] }
def k18m2 : Method := { name := "checkLength", desc := "(II)V", sig := { parameters := [.int, .int], returnType := none }, accessFlags := 10, code := some k18c2 }
def k18c3 : Code := { maxStack := 3, maxLocals := 3, code := jdk_65_method_132_code, exceptionTable := #[], attributes := #[] }
def k18m3 : Method := { name := "copyOfRange", desc := "([BII)[B", sig := { parameters := [(.array .byte), .int, .int], returnType := some (.array .byte) }, accessFlags := 9, code := some k18c3 }
def k18c4 : Code := { maxStack := 6, maxLocals := 5, code := jdk_65_method_133_code, exceptionTable := #[], attributes := #[] }
def k18m4 : Method := { name := "copyOfRangeByte", desc := "([BII)[B", sig := { parameters := [(.array .byte), .int, .int], returnType := some (.array .byte) }, accessFlags := 10, code := some k18c4 }
/-- java/util/Arrays -/
def k18 : Class := { plain "java/util/Arrays" (some 0) with
  accessFlags := 49
  interfaces := #[]
  cf := some (fileOf pool18 14 #[.nestMembers #[975, 375, 113, 74]] #[{ accessFlags := 2, nameIndex := 5, descriptorIndex := 6, attributes := #[] }, { accessFlags := 9, nameIndex := 302, descriptorIndex := 869, attributes := #[] }, { accessFlags := 10, nameIndex := 345, descriptorIndex := 346, attributes := #[] }, { accessFlags := 9, nameIndex := 139, descriptorIndex := 342, attributes := #[] }, { accessFlags := 10, nameIndex := 341, descriptorIndex := 342, attributes := #[] }] 49 2 #[] #[{ accessFlags := 26, nameIndex := 715, descriptorIndex := 716, attributes := #[] }, { accessFlags := 26, nameIndex := 719, descriptorIndex := 716, attributes := #[] }, { accessFlags := 4120, nameIndex := 445, descriptorIndex := 117, attributes := #[] }])
  fields := #[{ name := "MIN_ARRAY_SORT_GRAN", type := .int, accessFlags := 26, slot := 0, constantValue := 0 }, { name := "INSERTIONSORT_THRESHOLD", type := .int, accessFlags := 26, slot := 1, constantValue := 0 }, { name := "$assertionsDisabled", type := .boolean, accessFlags := 4120, slot := 2, constantValue := 0 }]
  methods := #[k18m0, k18m1, k18m2, k18m3, k18m4]
  instanceTypes := #[]
  staticTypes := #[.int, .int, .boolean]
  resolved := Array.replicate 1029 none
  statics := none }

def pool19 : Array CpInfo := pool [(2, .class_ 4), (1, u "java/lang/Object"), (0, u "<init>"), (0, u "()V"), (1, .class_ 10), (1, u "java/lang/System"), (0, u "allowSecurityManager"), (0, u "I"), (16, u "cons"), (0, u "Ljava/io/Console;"), (77, .class_ 110), (1, u "java/lang/System$CallersHolder"), (43, u "initialErrStream"), (0, u "Ljava/io/PrintStream;"), (19, u "security"), (0, u "Ljava/lang/SecurityManager;"), (31, .class_ 209), (0, u "java/lang/System$1"), (7, u "props"), (0, u "Ljava/util/Properties;"), (2, u "lineSeparator"), (0, u "Ljava/lang/String;"), (96, .class_ 321), (1, u "java/lang/System$LoggerFinder"), (5, .class_ 328), (0, u "java/lang/System$Logger"), (67, u "err"), (2, u "out"), (91, u "notSupportedJnuEncoding"), (15, u "in"), (17, u "initialIn"), (0, u "Ljava/io/InputStream;"), (35, u "bootLayer"), (0, u "Ljava/lang/ModuleLayer;"), (99, .class_ 664), (0, u "java/lang/System$2"), (9, u "NEVER"), (2, u "MAYBE"), (49, u "arraycopy"), (0, u "(Ljava/lang/Object;ILjava/lang/Object;II)V"), (72, .class_ 802), (0, u "java/lang/System$Logger$Level")] 31

def k19m0 : Method := { name := "<init>", desc := "()V", sig := { parameters := [], returnType := none }, accessFlags := 2, code := none }
def k19m1 : Method := { name := "arraycopy", desc := "(Ljava/lang/Object;ILjava/lang/Object;II)V", sig := { parameters := [(.object "java/lang/Object"), .int, (.object "java/lang/Object"), .int, .int], returnType := none }, accessFlags := 265, code := none }
/-- java/lang/System -/
def k19 : Class := { plain "java/lang/System" (some 0) with
  accessFlags := 49
  interfaces := #[]
  cf := some (fileOf pool19 8 #[.nestMembers #[319, 327, 801, 108, 663, 208]] #[{ accessFlags := 2, nameIndex := 5, descriptorIndex := 6, attributes := #[] }, { accessFlags := 265, nameIndex := 727, descriptorIndex := 728, attributes := #[] }] 49 2 #[] #[{ accessFlags := 25, nameIndex := 507, descriptorIndex := 526, attributes := #[] }, { accessFlags := 25, nameIndex := 399, descriptorIndex := 155, attributes := #[] }, { accessFlags := 25, nameIndex := 396, descriptorIndex := 155, attributes := #[] }, { accessFlags := 10, nameIndex := 525, descriptorIndex := 526, attributes := #[] }, { accessFlags := 26, nameIndex := 674, descriptorIndex := 12, attributes := #[] }, { accessFlags := 26, nameIndex := 677, descriptorIndex := 12, attributes := #[] }, { accessFlags := 10, nameIndex := 11, descriptorIndex := 12, attributes := #[] }, { accessFlags := 74, nameIndex := 175, descriptorIndex := 176, attributes := #[] }, { accessFlags := 10, nameIndex := 491, descriptorIndex := 222, attributes := #[] }, { accessFlags := 74, nameIndex := 29, descriptorIndex := 30, attributes := #[] }, { accessFlags := 74, nameIndex := 154, descriptorIndex := 155, attributes := #[] }, { accessFlags := 10, nameIndex := 217, descriptorIndex := 218, attributes := #[] }, { accessFlags := 10, nameIndex := 221, descriptorIndex := 222, attributes := #[] }, { accessFlags := 8, nameIndex := 562, descriptorIndex := 563, attributes := #[] }])
  fields := #[{ name := "in", type := (.object "java/io/InputStream"), accessFlags := 25, slot := 0, constantValue := 0 }, { name := "out", type := (.object "java/io/PrintStream"), accessFlags := 25, slot := 1, constantValue := 0 }, { name := "err", type := (.object "java/io/PrintStream"), accessFlags := 25, slot := 2, constantValue := 0 }, { name := "initialIn", type := (.object "java/io/InputStream"), accessFlags := 10, slot := 3, constantValue := 0 }, { name := "NEVER", type := .int, accessFlags := 26, slot := 4, constantValue := 0 }, { name := "MAYBE", type := .int, accessFlags := 26, slot := 5, constantValue := 0 }, { name := "allowSecurityManager", type := .int, accessFlags := 10, slot := 6, constantValue := 0 }, { name := "security", type := (.object "java/lang/SecurityManager"), accessFlags := 74, slot := 7, constantValue := 0 }, { name := "notSupportedJnuEncoding", type := (.object "java/lang/String"), accessFlags := 10, slot := 8, constantValue := 0 }, { name := "cons", type := (.object "java/io/Console"), accessFlags := 74, slot := 9, constantValue := 0 }, { name := "initialErrStream", type := (.object "java/io/PrintStream"), accessFlags := 74, slot := 10, constantValue := 0 }, { name := "props", type := (.object "java/util/Properties"), accessFlags := 10, slot := 11, constantValue := 0 }, { name := "lineSeparator", type := (.object "java/lang/String"), accessFlags := 10, slot := 12, constantValue := 0 }, { name := "bootLayer", type := (.object "java/lang/ModuleLayer"), accessFlags := 8, slot := 13, constantValue := 0 }]
  methods := #[k19m0, k19m1]
  instanceTypes := #[]
  staticTypes := #[(.object "java/io/InputStream"), (.object "java/io/PrintStream"), (.object "java/io/PrintStream"), (.object "java/io/InputStream"), .int, .int, .int, (.object "java/lang/SecurityManager"), (.object "java/lang/String"), (.object "java/io/Console"), (.object "java/io/PrintStream"), (.object "java/util/Properties"), (.object "java/lang/String"), (.object "java/lang/ModuleLayer")]
  resolved := Array.replicate 834 none
  statics := none }

def pool20 : Array CpInfo := pool [(1, .class_ 2), (0, u "java/lang/String"), (1, .class_ 6), (1, u "java/lang/Object"), (0, u "<init>"), (0, u "()V"), (0, .methodref 1 10), (0, .nameAndType 11 12), (0, u "checkIndex"), (0, u "(II)V"), (1, .class_ 16), (1, u "java/lang/StringLatin1"), (0, u "inflate"), (2, .class_ 22), (1, u "java/lang/StringUTF16"), (3, .nameAndType 17 27), (0, u "([BI[BII)V"), (25, u "([BI)C"), (67, u "$assertionsDisabled"), (0, u "Z"), (98, .class_ 223), (1, u "java/lang/StringLatin1$LinesSpliterator"), (16, .methodref 20 26), (11, u "charAt"), (137, .class_ 391), (0, u "java/lang/StringLatin1$CharsSpliterator")] 3

def k20m0 : Method := { name := "<init>", desc := "()V", sig := { parameters := [], returnType := none }, accessFlags := 0, code := none }
def k20c1 : Code := { maxStack := 2, maxLocals := 2, code := jdk_43_method_2_code, exceptionTable := #[], attributes := #[] }
def k20m1 : Method := { name := "charAt", desc := "([BI)C", sig := { parameters := [(.array .byte), .int], returnType := some .char }, accessFlags := 9, code := some k20c1 }
def k20c2 : Code := { maxStack := 5, maxLocals := 5, code := jdk_43_method_50_code, exceptionTable := #[], attributes := #[] }
def k20m2 : Method := { name := "inflate", desc := "([BI[BII)V", sig := { parameters := [(.array .byte), .int, (.array .byte), .int, .int], returnType := none }, accessFlags := 9, code := some k20c2 }
/-- java/lang/StringLatin1 -/
def k20 : Class := { plain "java/lang/StringLatin1" (some 0) with
  accessFlags := 48
  interfaces := #[]
  cf := some (fileOf pool20 14 #[.nestMembers #[390, 221]] #[{ accessFlags := 0, nameIndex := 7, descriptorIndex := 8, attributes := #[] }, { accessFlags := 9, nameIndex := 252, descriptorIndex := 53, attributes := #[] }, { accessFlags := 9, nameIndex := 17, descriptorIndex := 27, attributes := #[] }] 48 4 #[] #[{ accessFlags := 4120, nameIndex := 121, descriptorIndex := 122, attributes := #[] }])
  fields := #[{ name := "$assertionsDisabled", type := .boolean, accessFlags := 4120, slot := 0, constantValue := 0 }]
  methods := #[k20m0, k20m1, k20m2]
  instanceTypes := #[]
  staticTypes := #[.boolean]
  resolved := Array.replicate 395 none
  statics := none }

def pool21 : Array CpInfo := pool [(3, .class_ 4), (0, u "java/lang/String"), (1, .class_ 8), (1, u "java/lang/Object"), (0, u "<init>"), (0, u "()V"), (0, .methodref 12 13), (0, .class_ 14), (0, .nameAndType 15 16), (0, u "java/lang/StringUTF16"), (0, u "newBytesLength"), (0, u "(I)I"), (3, .integer 1073741823), (23, .fieldref 12 45), (0, .nameAndType 46 47), (0, u "$assertionsDisabled"), (0, u "Z"), (0, .methodref 12 49), (0, .nameAndType 50 51), (0, u "length"), (0, u "([B)I"), (7, .fieldref 12 60), (0, .nameAndType 61 62), (0, u "HI_BYTE_SHIFT"), (0, u "I"), (0, .fieldref 12 64), (0, .nameAndType 65 62), (0, u "LO_BYTE_SHIFT"), (1, .methodref 12 68), (0, .nameAndType 69 70), (0, u "checkIndex"), (0, u "(I[B)V"), (0, .methodref 12 72), (0, .nameAndType 73 74), (0, u "getChar"), (0, u "([BI)C"), (24, u "(II[B)V"), (9, u "newBytesFor"), (0, u "(I)[B"), (2, u "putChar"), (0, u "([BII)V"), (25, u "inflate"), (0, u "([BI[BII)V"), (31, .methodref 12 174), (0, .nameAndType 175 99), (0, u "checkBoundsOffCount"), (105, u "(III)I"), (87, .class_ 371), (1, u "java/lang/StringUTF16$LinesSpliterator"), (20, u "charAt"), (21, .methodref 3 415), (0, .nameAndType 69 416), (0, u "(II)V"), (2, .methodref 3 420), (0, .nameAndType 175 281), (9, u "MAX_LENGTH"), (196, .class_ 628), (0, u "java/lang/StringUTF16$CodePointsSpliterator"), (0, .class_ 630), (0, u "java/lang/StringUTF16$CharsSpliterator")] 4

def k21m0 : Method := { name := "<init>", desc := "()V", sig := { parameters := [], returnType := none }, accessFlags := 0, code := none }
def k21c1 : Code := { maxStack := 1, maxLocals := 1, code := jdk_52_method_2_code, exceptionTable := #[], attributes := #[] }
def k21m1 : Method := { name := "newBytesFor", desc := "(I)[B", sig := { parameters := [.int], returnType := some (.array .byte) }, accessFlags := 9, code := some k21c1 }
def k21c2 : Code := { maxStack := 4, maxLocals := 1, code := jdk_52_method_3_code, exceptionTable := #[], attributes := #[] }
def k21m2 : Method := { name := "newBytesLength", desc := "(I)I", sig := { parameters := [.int], returnType := some .int }, accessFlags := 9, code := some k21c2 }
def k21c3 : Code := { maxStack := 4, maxLocals := 3, code := jdk_52_method_4_code, exceptionTable := #[], attributes := #[] }
def k21m3 : Method := { name := "putChar", desc := "([BII)V", sig := { parameters := [(.array .byte), .int, .int], returnType := none }, accessFlags := 8, code := some k21c3 }
def k21c4 : Code := { maxStack := 3, maxLocals := 2, code := jdk_52_method_5_code, exceptionTable := #[], attributes := #[] }
def k21m4 : Method := { name := "getChar", desc := "([BI)C", sig := { parameters := [(.array .byte), .int], returnType := some .char }, accessFlags := 8, code := some k21c4 }
def k21c5 : Code := { maxStack := 2, maxLocals := 1, code := jdk_52_method_6_code, exceptionTable := #[], attributes := #[] }
def k21m5 : Method := { name := "length", desc := "([B)I", sig := { parameters := [(.array .byte)], returnType := some .int }, accessFlags := 9, code := some k21c5 }
def k21c6 : Code := { maxStack := 2, maxLocals := 2, code := jdk_52_method_83_code, exceptionTable := #[], attributes := #[] }
def k21m6 : Method := { name := "charAt", desc := "([BI)C", sig := { parameters := [(.array .byte), .int], returnType := some .char }, accessFlags := 9, code := some k21c6 }
def k21c7 : Code := { maxStack := 4, maxLocals := 6, code := jdk_52_method_86_code, exceptionTable := #[], attributes := #[] }
def k21m7 : Method := { name := "inflate", desc := "([BI[BII)V", sig := { parameters := [(.array .byte), .int, (.array .byte), .int, .int], returnType := none }, accessFlags := 9, code := some k21c7 }
def k21c8 : Code := { maxStack := 2, maxLocals := 2, code := jdk_52_method_91_code, exceptionTable := #[], attributes := #[] }
def k21m8 : Method := { name := "checkIndex", desc := "(I[B)V", sig := { parameters := [.int, (.array .byte)], returnType := none }, accessFlags := 9, code := some k21c8 }
def k21c9 : Code := { maxStack := 3, maxLocals := 3, code := jdk_52_method_94_code, exceptionTable := #[], attributes := #[] }
def k21m9 : Method := { name := "checkBoundsOffCount", desc := "(II[B)V", sig := { parameters := [.int, .int, (.array .byte)], returnType := none }, accessFlags := 9, code := some k21c9 }
/-- java/lang/StringUTF16 -/
def k21 : Class := { plain "java/lang/StringUTF16" (some 0) with
  accessFlags := 48
  interfaces := #[]
  cf := some (fileOf pool21 12 #[.nestMembers #[627, 629, 369]] #[{ accessFlags := 0, nameIndex := 9, descriptorIndex := 10, attributes := #[] }, { accessFlags := 9, nameIndex := 109, descriptorIndex := 110, attributes := #[] }, { accessFlags := 9, nameIndex := 15, descriptorIndex := 16, attributes := #[] }, { accessFlags := 8, nameIndex := 113, descriptorIndex := 114, attributes := #[] }, { accessFlags := 8, nameIndex := 73, descriptorIndex := 74, attributes := #[] }, { accessFlags := 9, nameIndex := 50, descriptorIndex := 51, attributes := #[] }, { accessFlags := 9, nameIndex := 392, descriptorIndex := 74, attributes := #[] }, { accessFlags := 9, nameIndex := 140, descriptorIndex := 141, attributes := #[] }, { accessFlags := 9, nameIndex := 69, descriptorIndex := 70, attributes := #[] }, { accessFlags := 9, nameIndex := 175, descriptorIndex := 99, attributes := #[] }] 48 6 #[] #[{ accessFlags := 26, nameIndex := 61, descriptorIndex := 62, attributes := #[] }, { accessFlags := 26, nameIndex := 65, descriptorIndex := 62, attributes := #[] }, { accessFlags := 24, nameIndex := 430, descriptorIndex := 62, attributes := #[] }, { accessFlags := 4120, nameIndex := 46, descriptorIndex := 47, attributes := #[] }])
  fields := #[{ name := "HI_BYTE_SHIFT", type := .int, accessFlags := 26, slot := 0, constantValue := 0 }, { name := "LO_BYTE_SHIFT", type := .int, accessFlags := 26, slot := 1, constantValue := 0 }, { name := "MAX_LENGTH", type := .int, accessFlags := 24, slot := 2, constantValue := 0 }, { name := "$assertionsDisabled", type := .boolean, accessFlags := 4120, slot := 3, constantValue := 0 }]
  methods := #[k21m0, k21m1, k21m2, k21m3, k21m4, k21m5, k21m6, k21m7, k21m8, k21m9]
  instanceTypes := #[]
  staticTypes := #[.int, .int, .int, .boolean]
  resolved := Array.replicate 635 none
  statics := some 4 }

def pool22 : Array CpInfo := pool [(9, u "<init>"), (6, .class_ 18), (1, u "java/lang/Object"), (0, u "()V"), (1, .class_ 23), (1, u "jdk/internal/util/ArraysSupport"), (0, u "LOG2_ARRAY_LONG_INDEX_SCALE"), (0, u "I"), (2, u "U"), (0, u "Ljdk/internal/misc/Unsafe;"), (8, u "BIG_ENDIAN"), (0, u "Z"), (8, u "LOG2_BYTE_BIT_SIZE"), (4, u "LOG2_ARRAY_INT_INDEX_SCALE"), (54, u "JLA"), (0, u "Ljdk/internal/access/JavaLangAccess;"), (11, u "LOG2_ARRAY_BOOLEAN_INDEX_SCALE"), (9, u "LOG2_ARRAY_BYTE_INDEX_SCALE"), (5, u "LOG2_ARRAY_CHAR_INDEX_SCALE"), (5, u "LOG2_ARRAY_SHORT_INDEX_SCALE"), (18, u "LOG2_ARRAY_FLOAT_INDEX_SCALE"), (24, u "LOG2_ARRAY_DOUBLE_INDEX_SCALE"), (89, u "T_BOOLEAN"), (2, u "T_CHAR"), (1, u "T_FLOAT"), (1, u "T_DOUBLE"), (1, u "T_BYTE"), (1, u "T_SHORT"), (1, u "T_INT"), (1, u "T_LONG"), (1, u "SOFT_MAX_ARRAY_LENGTH")] 83

def k22m0 : Method := { name := "<init>", desc := "()V", sig := { parameters := [], returnType := none }, accessFlags := 2, code := none }
/-- jdk/internal/util/ArraysSupport -/
def k22 : Class := { plain "jdk/internal/util/ArraysSupport" (some 0) with
  accessFlags := 33
  interfaces := #[]
  cf := some (fileOf pool22 21 #[] #[{ accessFlags := 2, nameIndex := 9, descriptorIndex := 19, attributes := #[] }] 33 16 #[] #[{ accessFlags := 24, nameIndex := 28, descriptorIndex := 29, attributes := #[] }, { accessFlags := 26, nameIndex := 38, descriptorIndex := 39, attributes := #[] }, { accessFlags := 25, nameIndex := 121, descriptorIndex := 25, attributes := #[] }, { accessFlags := 25, nameIndex := 131, descriptorIndex := 25, attributes := #[] }, { accessFlags := 25, nameIndex := 137, descriptorIndex := 25, attributes := #[] }, { accessFlags := 25, nameIndex := 143, descriptorIndex := 25, attributes := #[] }, { accessFlags := 25, nameIndex := 53, descriptorIndex := 25, attributes := #[] }, { accessFlags := 25, nameIndex := 24, descriptorIndex := 25, attributes := #[] }, { accessFlags := 25, nameIndex := 162, descriptorIndex := 25, attributes := #[] }, { accessFlags := 25, nameIndex := 187, descriptorIndex := 25, attributes := #[] }, { accessFlags := 26, nameIndex := 48, descriptorIndex := 25, attributes := #[] }, { accessFlags := 25, nameIndex := 277, descriptorIndex := 25, attributes := #[] }, { accessFlags := 25, nameIndex := 280, descriptorIndex := 25, attributes := #[] }, { accessFlags := 25, nameIndex := 282, descriptorIndex := 25, attributes := #[] }, { accessFlags := 25, nameIndex := 284, descriptorIndex := 25, attributes := #[] }, { accessFlags := 25, nameIndex := 286, descriptorIndex := 25, attributes := #[] }, { accessFlags := 25, nameIndex := 288, descriptorIndex := 25, attributes := #[] }, { accessFlags := 25, nameIndex := 290, descriptorIndex := 25, attributes := #[] }, { accessFlags := 25, nameIndex := 292, descriptorIndex := 25, attributes := #[] }, { accessFlags := 26, nameIndex := 108, descriptorIndex := 109, attributes := #[] }, { accessFlags := 25, nameIndex := 294, descriptorIndex := 25, attributes := #[] }])
  fields := #[{ name := "U", type := (.object "jdk/internal/misc/Unsafe"), accessFlags := 24, slot := 0, constantValue := 0 }, { name := "BIG_ENDIAN", type := .boolean, accessFlags := 26, slot := 1, constantValue := 0 }, { name := "LOG2_ARRAY_BOOLEAN_INDEX_SCALE", type := .int, accessFlags := 25, slot := 2, constantValue := 0 }, { name := "LOG2_ARRAY_BYTE_INDEX_SCALE", type := .int, accessFlags := 25, slot := 3, constantValue := 0 }, { name := "LOG2_ARRAY_CHAR_INDEX_SCALE", type := .int, accessFlags := 25, slot := 4, constantValue := 0 }, { name := "LOG2_ARRAY_SHORT_INDEX_SCALE", type := .int, accessFlags := 25, slot := 5, constantValue := 0 }, { name := "LOG2_ARRAY_INT_INDEX_SCALE", type := .int, accessFlags := 25, slot := 6, constantValue := 0 }, { name := "LOG2_ARRAY_LONG_INDEX_SCALE", type := .int, accessFlags := 25, slot := 7, constantValue := 0 }, { name := "LOG2_ARRAY_FLOAT_INDEX_SCALE", type := .int, accessFlags := 25, slot := 8, constantValue := 0 }, { name := "LOG2_ARRAY_DOUBLE_INDEX_SCALE", type := .int, accessFlags := 25, slot := 9, constantValue := 0 }, { name := "LOG2_BYTE_BIT_SIZE", type := .int, accessFlags := 26, slot := 10, constantValue := 0 }, { name := "T_BOOLEAN", type := .int, accessFlags := 25, slot := 11, constantValue := 0 }, { name := "T_CHAR", type := .int, accessFlags := 25, slot := 12, constantValue := 0 }, { name := "T_FLOAT", type := .int, accessFlags := 25, slot := 13, constantValue := 0 }, { name := "T_DOUBLE", type := .int, accessFlags := 25, slot := 14, constantValue := 0 }, { name := "T_BYTE", type := .int, accessFlags := 25, slot := 15, constantValue := 0 }, { name := "T_SHORT", type := .int, accessFlags := 25, slot := 16, constantValue := 0 }, { name := "T_INT", type := .int, accessFlags := 25, slot := 17, constantValue := 0 }, { name := "T_LONG", type := .int, accessFlags := 25, slot := 18, constantValue := 0 }, { name := "JLA", type := (.object "jdk/internal/access/JavaLangAccess"), accessFlags := 26, slot := 19, constantValue := 0 }, { name := "SOFT_MAX_ARRAY_LENGTH", type := .int, accessFlags := 25, slot := 20, constantValue := 0 }]
  methods := #[k22m0]
  instanceTypes := #[]
  staticTypes := #[(.object "jdk/internal/misc/Unsafe"), .boolean, .int, .int, .int, .int, .int, .int, .int, .int, .int, .int, .int, .int, .int, .int, .int, .int, .int, (.object "jdk/internal/access/JavaLangAccess"), .int]
  resolved := Array.replicate 378 none
  statics := none }

def pool23 : Array CpInfo := pool [(1, u "java/lang/Cloneable"), (0, .class_ 1), (0, u "java/lang/Object"), (0, .class_ 3)] 3

/-- java/lang/Cloneable -/
def k23 : Class := { plain "java/lang/Cloneable" (some 0) with
  accessFlags := 1537
  interfaces := #[]
  cf := some (fileOf pool23 2 #[] #[] 1537 4 #[] #[])
  fields := #[]
  methods := #[]
  instanceTypes := #[]
  staticTypes := #[]
  resolved := Array.replicate 8 none
  statics := none }

/-- the primitive byte -/
def k24 : Class := { plain "byte" none with kind := .primitive 'B', accessFlags := 0x411 }
/-- [B -/
def k25 : Class := { plain "[B" (some 0) with kind := .array 24 .byte, interfaces := #[23, 4], accessFlags := 1041 }

/-- the primitive int -/
def k26 : Class := { plain "int" none with kind := .primitive 'I', accessFlags := 0x411 }
/-- [I -/
def k27 : Class := { plain "[I" (some 0) with kind := .array 26 .int, interfaces := #[23, 4], accessFlags := 1041 }

def heap : Heap := #[{ cls := 9, slots := #[.long 0, .int 1, .null, .int 0, .null, .int 0, .int 0], vm := .statics 9 },
  { cls := 10, slots := #[.null, .null, .ref 5, .null, .null, .null], vm := .statics 10 },
  { cls := 15, slots := #[.ref 5, .null], vm := .statics 15 },
  { cls := 16, slots := #[.null, .null, .null], vm := .statics 16 },
  { cls := 21, slots := #[.int 0, .int 8, .int 0, .int 1], vm := .statics 21 },
  { cls := 15, slots := #[.null, .null, .null], vm := .none }]
def classes : Array Class := #[k0, k1, k2, k3, k4, k5, k6, k7, k8, k9, k10, k11, k12, k13, k14, k15, k16, k17, k18, k19, k20, k21, k22, k23, k24, k25, k26, k27]
def interned : List (Array UInt16 × Addr) := []
def slotsUsed : Nat := 25
def theMethod : MethodId := ⟨1, 1⟩
def args0 : Array Value := #[.int 1, .long 2, .int 3, .int 4]
def aboutOver (below : List Frame) : State where
  vm := { classes := classes, interned := interned.toArray }
  heap := heap
  slotsUsed := slotsUsed
  threads := #[{ frames := .invoking theMethod args0 :: below }]
def below0 : List Frame := [.native { method := ⟨0, 0⟩, args := #[] }]
def about1 : State := aboutOver below0
def p0 : Program := .bare "" "" ""
def e0 : Env := launch0.env 0 0 0
theorem w_frames : about1.frames = Frame.invoking theMethod args0 :: below0 := rfl
set_option maxRecDepth 65536 in
theorem w_args : argsFit about1.vm theMethod args0 = true := by decide +kernel
set_option maxRecDepth 65536 in
theorem w_heap : heapFits about1 = true := by decide +kernel
set_option maxRecDepth 65536 in
theorem w_runnable : about1.curStatus? = some .runnable := by decide +kernel
set_option maxRecDepth 65536 in
theorem w_alone : about1.alone = true := by decide +kernel
set_option maxRecDepth 65536 in
theorem w_named : about1.methodNamed? x = some theMethod := by decide +kernel
set_option maxRecDepth 65536 in
theorem w_hears : about1.hears theMethod below0 = true := by decide +kernel
set_option maxRecDepth 65536 in
theorem w_ripe : about1.ripe theMethod args0 below0 = true := by decide +kernel
theorem w_running : about1.status = .running := rfl
set_option maxRecDepth 65536 in
theorem w_room : about1.hasRoom e0.platform room_1 = true :=
  launch0.hasRoom_least _ room_1 (by decide +kernel) (by decide +kernel) (by decide +kernel) (by decide +kernel) (by decide +kernel) (by decide +kernel)
theorem allAtoms_all (ts : List Jvm.Cond) (a : Array Jvm.Value) (st : Jvm.State) : (allAtoms ts).before a st = ts.all (fun c => c.before a st) := by
  induction ts with
  | nil => rfl
  | cons c t ih =>
    show (Jvm.Cond.and c (allAtoms t)).before a st = _
    rw [Jvm.Cond.before_and, ih, List.all_cons]
def words1 : List Jvm.Cond := Jvm.Cond.code x code maxLocals ret :: tables_1
/-- a 'code' word, met by the world's own term for the bytes: nothing is compared byte by byte -/
theorem code_word {y : MethodName} {bytes : ByteArray} {mx : Nat} {rt : Option FieldType} {a : Array Value} {s : State} {m : MethodId} {meth : Method} {c : Code} (h1 : s.methodNamed? y = some m) (h2 : s.vm.method? m = some meth) (h3 : meth.code = some c) (h4 : c.code = bytes)
    (h5 : (c.maxLocals == mx && c.exceptionTable.isEmpty && decide (c.maxStack ≤ mostOperands) && decide (meth.sig.returnType = rt) && !meth.locks && decide (parseMethodDescriptor y.desc = some meth.sig)) = true) : (Jvm.Cond.code y bytes mx rt).before a s = true := by
  simp only [Bool.and_eq_true, beq_iff_eq, Bool.not_eq_true', decide_eq_true_eq] at h5
  obtain ⟨⟨⟨⟨⟨g1, g2⟩, g3⟩, g4⟩, g5⟩, g6⟩ := h5
  simp [Cond.before, Cond.holds, Cond.value, h1, h2, h3, h4, g1, g2, g3, g4, g5, g6]
def isCode : Jvm.Cond → Bool
  | .code _ _ _ _ => true
  | _ => false
theorem all_split {L : List Jvm.Cond} {P : Jvm.Cond → Bool} (h1 : L.all (fun c => isCode c || P c) = true) (h2 : ∀ c ∈ L.filter isCode, P c = true) : L.all P = true := by
  refine List.all_eq_true.mpr fun c hc => ?_
  have h := List.all_eq_true.mp h1 c hc
  rcases Bool.eq_false_or_eq_true (isCode c) with hi | hi
  · exact h2 c (List.mem_filter.mpr ⟨hc, hi⟩)
  · simpa [hi] using h
set_option maxRecDepth 65536 in
theorem w_c0 : (Jvm.Cond.code x code maxLocals ret).before args0 about1 = true := code_word (m := ⟨1, 1⟩) (meth := k1m1) (c := k1c1) (by decide +kernel) rfl rfl rfl (by decide +kernel)
set_option maxRecDepth 65536 in
theorem w_c1 : (Jvm.Cond.code ({ cls := "com/example/dyadloom/dyadloom/core/TripletColumnIdPinLaw", name := "asc", desc := "(JI)B" } : Jvm.MethodName) method_3_code (3 : Nat) (Option.some Jvm.ClassFile.FieldType.byte)).before args0 about1 = true := code_word (m := ⟨1, 2⟩) (meth := k1m2) (c := k1c2) (by decide +kernel) rfl rfl rfl (by decide +kernel)
set_option maxRecDepth 65536 in
theorem w_c2 : (Jvm.Cond.code ({ cls := "com/example/dyadloom/dyadloom/core/TripletReader$Triplet", name := "<init>", desc := "()V" } : Jvm.MethodName) prog_34_method_1_code (1 : Nat) (Option.none : Option Jvm.ClassFile.FieldType)).before args0 about1 = true := code_word (m := ⟨2, 0⟩) (meth := k2m0) (c := k2c0) (by decide +kernel) rfl rfl rfl (by decide +kernel)
set_option maxRecDepth 65536 in
theorem w_c3 : (Jvm.Cond.code ({ cls := "java/lang/Object", name := "<init>", desc := "()V" } : Jvm.MethodName) object_method_1_code (1 : Nat) (Option.none : Option Jvm.ClassFile.FieldType)).before args0 about1 = true := code_word (m := ⟨0, 0⟩) (meth := k0m0) (c := k0c0) (by decide +kernel) rfl rfl rfl (by decide +kernel)
set_option maxRecDepth 65536 in
theorem w_c4 : (Jvm.Cond.code ({ cls := "java/lang/Math", name := "min", desc := "(II)I" } : Jvm.MethodName) jdk_29_method_69_code (2 : Nat) (Option.some Jvm.ClassFile.FieldType.int)).before args0 about1 = true := code_word (m := ⟨3, 1⟩) (meth := k3m1) (c := k3c1) (by decide +kernel) rfl rfl rfl (by decide +kernel)
set_option maxRecDepth 65536 in
theorem w_c5 : (Jvm.Cond.code ({ cls := "com/example/dyadloom/dyadloom/core/TripletReader$Triplet", name := "columnId", desc := "()Ljava/lang/String;" } : Jvm.MethodName) prog_34_method_3_code (1 : Nat) (Option.some (Jvm.ClassFile.FieldType.object "java/lang/String"))).before args0 about1 = true := code_word (m := ⟨2, 1⟩) (meth := k2m1) (c := k2c1) (by decide +kernel) rfl rfl rfl (by decide +kernel)
set_option maxRecDepth 65536 in
theorem w_c6 : (Jvm.Cond.code ({ cls := "java/lang/String", name := "<init>", desc := "([BIILjava/nio/charset/Charset;)V" } : Jvm.MethodName) jdk_42_method_10_code (5 : Nat) (Option.none : Option Jvm.ClassFile.FieldType)).before args0 about1 = true := code_word (m := ⟨9, 1⟩) (meth := k9m1) (c := k9c1) (by decide +kernel) rfl rfl rfl (by decide +kernel)
set_option maxRecDepth 65536 in
theorem w_c7 : (Jvm.Cond.code ({ cls := "java/util/Objects", name := "requireNonNull", desc := "(Ljava/lang/Object;)Ljava/lang/Object;" } : Jvm.MethodName) jdk_31_method_10_code (1 : Nat) (Option.some (Jvm.ClassFile.FieldType.object "java/lang/Object"))).before args0 about1 = true := code_word (m := ⟨11, 1⟩) (meth := k11m1) (c := k11c1) (by decide +kernel) rfl rfl rfl (by decide +kernel)
set_option maxRecDepth 65536 in
theorem w_c8 : (Jvm.Cond.code ({ cls := "java/lang/String", name := "checkBoundsOffCount", desc := "(III)I" } : Jvm.MethodName) jdk_42_method_157_code (3 : Nat) (Option.some Jvm.ClassFile.FieldType.int)).before args0 about1 = true := code_word (m := ⟨9, 11⟩) (meth := k9m11) (c := k9c11) (by decide +kernel) rfl rfl rfl (by decide +kernel)
set_option maxRecDepth 65536 in
theorem w_c9 : (Jvm.Cond.code ({ cls := "jdk/internal/util/Preconditions", name := "checkFromIndexSize", desc := "(IIILjava/util/function/BiFunction;)I" } : Jvm.MethodName) jdk_41_method_13_code (4 : Nat) (Option.some Jvm.ClassFile.FieldType.int)).before args0 about1 = true := code_word (m := ⟨16, 2⟩) (meth := k16m2) (c := k16c2) (by decide +kernel) rfl rfl rfl (by decide +kernel)
set_option maxRecDepth 65536 in
theorem w_c10 : (Jvm.Cond.code ({ cls := "java/lang/StringCoding", name := "countPositives", desc := "([BII)I" } : Jvm.MethodName) jdk_123_method_3_code (5 : Nat) (Option.some Jvm.ClassFile.FieldType.int)).before args0 about1 = true := code_word (m := ⟨17, 1⟩) (meth := k17m1) (c := k17c1) (by decide +kernel) rfl rfl rfl (by decide +kernel)
set_option maxRecDepth 65536 in
theorem w_c11 : (Jvm.Cond.code ({ cls := "java/util/Arrays", name := "copyOfRange", desc := "([BII)[B" } : Jvm.MethodName) jdk_65_method_132_code (3 : Nat) (Option.some (Jvm.ClassFile.FieldType.array Jvm.ClassFile.FieldType.byte))).before args0 about1 = true := code_word (m := ⟨18, 3⟩) (meth := k18m3) (c := k18c3) (by decide +kernel) rfl rfl rfl (by decide +kernel)
set_option maxRecDepth 65536 in
theorem w_c12 : (Jvm.Cond.code ({ cls := "java/util/Arrays", name := "copyOfRangeByte", desc := "([BII)[B" } : Jvm.MethodName) jdk_65_method_133_code (5 : Nat) (Option.some (Jvm.ClassFile.FieldType.array Jvm.ClassFile.FieldType.byte))).before args0 about1 = true := code_word (m := ⟨18, 4⟩) (meth := k18m4) (c := k18c4) (by decide +kernel) rfl rfl rfl (by decide +kernel)
set_option maxRecDepth 65536 in
theorem w_c13 : (Jvm.Cond.code ({ cls := "java/util/Arrays", name := "checkLength", desc := "(II)V" } : Jvm.MethodName) jdk_65_method_131_code (2 : Nat) (Option.none : Option Jvm.ClassFile.FieldType)).before args0 about1 = true := code_word (m := ⟨18, 2⟩) (meth := k18m2) (c := k18c2) (by decide +kernel) rfl rfl rfl (by decide +kernel)
set_option maxRecDepth 65536 in
theorem w_c14 : (Jvm.Cond.code ({ cls := "java/lang/String", name := "length", desc := "()I" } : Jvm.MethodName) jdk_42_method_54_code (1 : Nat) (Option.some Jvm.ClassFile.FieldType.int)).before args0 about1 = true := code_word (m := ⟨9, 6⟩) (meth := k9m6) (c := k9c6) (by decide +kernel) rfl rfl rfl (by decide +kernel)
set_option maxRecDepth 65536 in
theorem w_c15 : (Jvm.Cond.code ({ cls := "java/lang/String", name := "coder", desc := "()B" } : Jvm.MethodName) jdk_42_method_152_code (1 : Nat) (Option.some Jvm.ClassFile.FieldType.byte)).before args0 about1 = true := code_word (m := ⟨9, 8⟩) (meth := k9m8) (c := k9c8) (by decide +kernel) rfl rfl rfl (by decide +kernel)
set_option maxRecDepth 65536 in
theorem w_c16 : (Jvm.Cond.code ({ cls := "com/example/dyadloom/dyadloom/core/TripletColumnIdPinLaw", name := "at", desc := "(Ljava/lang/String;II)Z" } : Jvm.MethodName) method_4_code (3 : Nat) (Option.some Jvm.ClassFile.FieldType.boolean)).before args0 about1 = true := code_word (m := ⟨1, 3⟩) (meth := k1m3) (c := k1c3) (by decide +kernel) rfl rfl rfl (by decide +kernel)
set_option maxRecDepth 65536 in
theorem w_c17 : (Jvm.Cond.code ({ cls := "java/lang/String", name := "charAt", desc := "(I)C" } : Jvm.MethodName) jdk_42_method_56_code (2 : Nat) (Option.some Jvm.ClassFile.FieldType.char)).before args0 about1 = true := code_word (m := ⟨9, 7⟩) (meth := k9m7) (c := k9c7) (by decide +kernel) rfl rfl rfl (by decide +kernel)
set_option maxRecDepth 65536 in
theorem w_c18 : (Jvm.Cond.code ({ cls := "java/lang/String", name := "isLatin1", desc := "()Z" } : Jvm.MethodName) jdk_42_method_154_code (1 : Nat) (Option.some Jvm.ClassFile.FieldType.boolean)).before args0 about1 = true := code_word (m := ⟨9, 9⟩) (meth := k9m9) (c := k9c9) (by decide +kernel) rfl rfl rfl (by decide +kernel)
set_option maxRecDepth 65536 in
theorem w_c19 : (Jvm.Cond.code ({ cls := "java/lang/StringLatin1", name := "charAt", desc := "([BI)C" } : Jvm.MethodName) jdk_43_method_2_code (2 : Nat) (Option.some Jvm.ClassFile.FieldType.char)).before args0 about1 = true := code_word (m := ⟨20, 1⟩) (meth := k20m1) (c := k20c1) (by decide +kernel) rfl rfl rfl (by decide +kernel)
set_option maxRecDepth 65536 in
theorem w_c20 : (Jvm.Cond.code ({ cls := "java/lang/String", name := "checkIndex", desc := "(II)V" } : Jvm.MethodName) jdk_42_method_155_code (2 : Nat) (Option.none : Option Jvm.ClassFile.FieldType)).before args0 about1 = true := code_word (m := ⟨9, 10⟩) (meth := k9m10) (c := k9c10) (by decide +kernel) rfl rfl rfl (by decide +kernel)
set_option maxRecDepth 65536 in
theorem w_c21 : (Jvm.Cond.code ({ cls := "jdk/internal/util/Preconditions", name := "checkIndex", desc := "(IILjava/util/function/BiFunction;)I" } : Jvm.MethodName) jdk_41_method_11_code (3 : Nat) (Option.some Jvm.ClassFile.FieldType.int)).before args0 about1 = true := code_word (m := ⟨16, 1⟩) (meth := k16m1) (c := k16c1) (by decide +kernel) rfl rfl rfl (by decide +kernel)
set_option maxRecDepth 65536 in
theorem w_c22 : (Jvm.Cond.code ({ cls := "java/lang/StringUTF16", name := "newBytesFor", desc := "(I)[B" } : Jvm.MethodName) jdk_52_method_2_code (1 : Nat) (Option.some (Jvm.ClassFile.FieldType.array Jvm.ClassFile.FieldType.byte))).before args0 about1 = true := code_word (m := ⟨21, 1⟩) (meth := k21m1) (c := k21c1) (by decide +kernel) rfl rfl rfl (by decide +kernel)
set_option maxRecDepth 65536 in
theorem w_c23 : (Jvm.Cond.code ({ cls := "java/lang/StringUTF16", name := "newBytesLength", desc := "(I)I" } : Jvm.MethodName) jdk_52_method_3_code (1 : Nat) (Option.some Jvm.ClassFile.FieldType.int)).before args0 about1 = true := code_word (m := ⟨21, 2⟩) (meth := k21m2) (c := k21c2) (by decide +kernel) rfl rfl rfl (by decide +kernel)
set_option maxRecDepth 65536 in
theorem w_c24 : (Jvm.Cond.code ({ cls := "java/lang/StringLatin1", name := "inflate", desc := "([BI[BII)V" } : Jvm.MethodName) jdk_43_method_50_code (5 : Nat) (Option.none : Option Jvm.ClassFile.FieldType)).before args0 about1 = true := code_word (m := ⟨20, 2⟩) (meth := k20m2) (c := k20c2) (by decide +kernel) rfl rfl rfl (by decide +kernel)
set_option maxRecDepth 65536 in
theorem w_c25 : (Jvm.Cond.code ({ cls := "java/lang/StringUTF16", name := "inflate", desc := "([BI[BII)V" } : Jvm.MethodName) jdk_52_method_86_code (6 : Nat) (Option.none : Option Jvm.ClassFile.FieldType)).before args0 about1 = true := code_word (m := ⟨21, 7⟩) (meth := k21m7) (c := k21c7) (by decide +kernel) rfl rfl rfl (by decide +kernel)
set_option maxRecDepth 65536 in
theorem w_c26 : (Jvm.Cond.code ({ cls := "java/lang/StringUTF16", name := "checkBoundsOffCount", desc := "(II[B)V" } : Jvm.MethodName) jdk_52_method_94_code (3 : Nat) (Option.none : Option Jvm.ClassFile.FieldType)).before args0 about1 = true := code_word (m := ⟨21, 9⟩) (meth := k21m9) (c := k21c9) (by decide +kernel) rfl rfl rfl (by decide +kernel)
set_option maxRecDepth 65536 in
theorem w_c27 : (Jvm.Cond.code ({ cls := "java/lang/StringUTF16", name := "length", desc := "([B)I" } : Jvm.MethodName) jdk_52_method_6_code (1 : Nat) (Option.some Jvm.ClassFile.FieldType.int)).before args0 about1 = true := code_word (m := ⟨21, 5⟩) (meth := k21m5) (c := k21c5) (by decide +kernel) rfl rfl rfl (by decide +kernel)
set_option maxRecDepth 65536 in
theorem w_c28 : (Jvm.Cond.code ({ cls := "java/lang/String", name := "decodeUTF8_UTF16", desc := "([BII[BIZ)I" } : Jvm.MethodName) jdk_42_method_38_code (11 : Nat) (Option.some Jvm.ClassFile.FieldType.int)).before args0 about1 = true := code_word (m := ⟨9, 5⟩) (meth := k9m5) (c := k9c5) (by decide +kernel) rfl rfl rfl (by decide +kernel)
set_option maxRecDepth 65536 in
theorem w_c29 : (Jvm.Cond.code ({ cls := "java/lang/String", name := "isNotContinuation", desc := "(I)Z" } : Jvm.MethodName) jdk_42_method_29_code (1 : Nat) (Option.some Jvm.ClassFile.FieldType.boolean)).before args0 about1 = true := code_word (m := ⟨9, 3⟩) (meth := k9m3) (c := k9c3) (by decide +kernel) rfl rfl rfl (by decide +kernel)
set_option maxRecDepth 65536 in
theorem w_c30 : (Jvm.Cond.code ({ cls := "java/lang/String", name := "decode2", desc := "(II)C" } : Jvm.MethodName) jdk_42_method_35_code (2 : Nat) (Option.some Jvm.ClassFile.FieldType.char)).before args0 about1 = true := code_word (m := ⟨9, 4⟩) (meth := k9m4) (c := k9c4) (by decide +kernel) rfl rfl rfl (by decide +kernel)
set_option maxRecDepth 65536 in
theorem w_c31 : (Jvm.Cond.code ({ cls := "java/lang/StringUTF16", name := "putChar", desc := "([BII)V" } : Jvm.MethodName) jdk_52_method_4_code (3 : Nat) (Option.none : Option Jvm.ClassFile.FieldType)).before args0 about1 = true := code_word (m := ⟨21, 3⟩) (meth := k21m3) (c := k21c3) (by decide +kernel) rfl rfl rfl (by decide +kernel)
set_option maxRecDepth 65536 in
theorem w_c32 : (Jvm.Cond.code ({ cls := "java/util/Arrays", name := "copyOf", desc := "([BI)[B" } : Jvm.MethodName) jdk_65_method_121_code (3 : Nat) (Option.some (Jvm.ClassFile.FieldType.array Jvm.ClassFile.FieldType.byte))).before args0 about1 = true := code_word (m := ⟨18, 1⟩) (meth := k18m1) (c := k18c1) (by decide +kernel) rfl rfl rfl (by decide +kernel)
set_option maxRecDepth 65536 in
theorem w_c33 : (Jvm.Cond.code ({ cls := "java/lang/StringUTF16", name := "charAt", desc := "([BI)C" } : Jvm.MethodName) jdk_52_method_83_code (2 : Nat) (Option.some Jvm.ClassFile.FieldType.char)).before args0 about1 = true := code_word (m := ⟨21, 6⟩) (meth := k21m6) (c := k21c6) (by decide +kernel) rfl rfl rfl (by decide +kernel)
set_option maxRecDepth 65536 in
theorem w_c34 : (Jvm.Cond.code ({ cls := "java/lang/StringUTF16", name := "checkIndex", desc := "(I[B)V" } : Jvm.MethodName) jdk_52_method_91_code (2 : Nat) (Option.none : Option Jvm.ClassFile.FieldType)).before args0 about1 = true := code_word (m := ⟨21, 8⟩) (meth := k21m8) (c := k21c8) (by decide +kernel) rfl rfl rfl (by decide +kernel)
set_option maxRecDepth 65536 in
theorem w_c35 : (Jvm.Cond.code ({ cls := "java/lang/StringUTF16", name := "getChar", desc := "([BI)C" } : Jvm.MethodName) jdk_52_method_5_code (2 : Nat) (Option.some Jvm.ClassFile.FieldType.char)).before args0 about1 = true := code_word (m := ⟨21, 4⟩) (meth := k21m4) (c := k21c4) (by decide +kernel) rfl rfl rfl (by decide +kernel)
def codes1 : List Jvm.Cond := [Jvm.Cond.code x code maxLocals ret, Jvm.Cond.code ({ cls := "com/example/dyadloom/dyadloom/core/TripletColumnIdPinLaw", name := "asc", desc := "(JI)B" } : Jvm.MethodName) method_3_code (3 : Nat) (Option.some Jvm.ClassFile.FieldType.byte), Jvm.Cond.code ({ cls := "com/example/dyadloom/dyadloom/core/TripletReader$Triplet", name := "<init>", desc := "()V" } : Jvm.MethodName) prog_34_method_1_code (1 : Nat) (Option.none : Option Jvm.ClassFile.FieldType), Jvm.Cond.code ({ cls := "java/lang/Object", name := "<init>", desc := "()V" } : Jvm.MethodName) object_method_1_code (1 : Nat) (Option.none : Option Jvm.ClassFile.FieldType), Jvm.Cond.code ({ cls := "java/lang/Math", name := "min", desc := "(II)I" } : Jvm.MethodName) jdk_29_method_69_code (2 : Nat) (Option.some Jvm.ClassFile.FieldType.int), Jvm.Cond.code ({ cls := "com/example/dyadloom/dyadloom/core/TripletReader$Triplet", name := "columnId", desc := "()Ljava/lang/String;" } : Jvm.MethodName) prog_34_method_3_code (1 : Nat) (Option.some (Jvm.ClassFile.FieldType.object "java/lang/String")), Jvm.Cond.code ({ cls := "java/lang/String", name := "<init>", desc := "([BIILjava/nio/charset/Charset;)V" } : Jvm.MethodName) jdk_42_method_10_code (5 : Nat) (Option.none : Option Jvm.ClassFile.FieldType), Jvm.Cond.code ({ cls := "java/util/Objects", name := "requireNonNull", desc := "(Ljava/lang/Object;)Ljava/lang/Object;" } : Jvm.MethodName) jdk_31_method_10_code (1 : Nat) (Option.some (Jvm.ClassFile.FieldType.object "java/lang/Object")), Jvm.Cond.code ({ cls := "java/lang/String", name := "checkBoundsOffCount", desc := "(III)I" } : Jvm.MethodName) jdk_42_method_157_code (3 : Nat) (Option.some Jvm.ClassFile.FieldType.int), Jvm.Cond.code ({ cls := "jdk/internal/util/Preconditions", name := "checkFromIndexSize", desc := "(IIILjava/util/function/BiFunction;)I" } : Jvm.MethodName) jdk_41_method_13_code (4 : Nat) (Option.some Jvm.ClassFile.FieldType.int), Jvm.Cond.code ({ cls := "java/lang/StringCoding", name := "countPositives", desc := "([BII)I" } : Jvm.MethodName) jdk_123_method_3_code (5 : Nat) (Option.some Jvm.ClassFile.FieldType.int), Jvm.Cond.code ({ cls := "java/util/Arrays", name := "copyOfRange", desc := "([BII)[B" } : Jvm.MethodName) jdk_65_method_132_code (3 : Nat) (Option.some (Jvm.ClassFile.FieldType.array Jvm.ClassFile.FieldType.byte)), Jvm.Cond.code ({ cls := "java/util/Arrays", name := "copyOfRangeByte", desc := "([BII)[B" } : Jvm.MethodName) jdk_65_method_133_code (5 : Nat) (Option.some (Jvm.ClassFile.FieldType.array Jvm.ClassFile.FieldType.byte)), Jvm.Cond.code ({ cls := "java/util/Arrays", name := "checkLength", desc := "(II)V" } : Jvm.MethodName) jdk_65_method_131_code (2 : Nat) (Option.none : Option Jvm.ClassFile.FieldType), Jvm.Cond.code ({ cls := "java/lang/String", name := "length", desc := "()I" } : Jvm.MethodName) jdk_42_method_54_code (1 : Nat) (Option.some Jvm.ClassFile.FieldType.int), Jvm.Cond.code ({ cls := "java/lang/String", name := "coder", desc := "()B" } : Jvm.MethodName) jdk_42_method_152_code (1 : Nat) (Option.some Jvm.ClassFile.FieldType.byte), Jvm.Cond.code ({ cls := "com/example/dyadloom/dyadloom/core/TripletColumnIdPinLaw", name := "at", desc := "(Ljava/lang/String;II)Z" } : Jvm.MethodName) method_4_code (3 : Nat) (Option.some Jvm.ClassFile.FieldType.boolean), Jvm.Cond.code ({ cls := "java/lang/String", name := "charAt", desc := "(I)C" } : Jvm.MethodName) jdk_42_method_56_code (2 : Nat) (Option.some Jvm.ClassFile.FieldType.char), Jvm.Cond.code ({ cls := "java/lang/String", name := "isLatin1", desc := "()Z" } : Jvm.MethodName) jdk_42_method_154_code (1 : Nat) (Option.some Jvm.ClassFile.FieldType.boolean), Jvm.Cond.code ({ cls := "java/lang/StringLatin1", name := "charAt", desc := "([BI)C" } : Jvm.MethodName) jdk_43_method_2_code (2 : Nat) (Option.some Jvm.ClassFile.FieldType.char), Jvm.Cond.code ({ cls := "java/lang/String", name := "checkIndex", desc := "(II)V" } : Jvm.MethodName) jdk_42_method_155_code (2 : Nat) (Option.none : Option Jvm.ClassFile.FieldType), Jvm.Cond.code ({ cls := "jdk/internal/util/Preconditions", name := "checkIndex", desc := "(IILjava/util/function/BiFunction;)I" } : Jvm.MethodName) jdk_41_method_11_code (3 : Nat) (Option.some Jvm.ClassFile.FieldType.int), Jvm.Cond.code ({ cls := "java/lang/StringUTF16", name := "newBytesFor", desc := "(I)[B" } : Jvm.MethodName) jdk_52_method_2_code (1 : Nat) (Option.some (Jvm.ClassFile.FieldType.array Jvm.ClassFile.FieldType.byte)), Jvm.Cond.code ({ cls := "java/lang/StringUTF16", name := "newBytesLength", desc := "(I)I" } : Jvm.MethodName) jdk_52_method_3_code (1 : Nat) (Option.some Jvm.ClassFile.FieldType.int), Jvm.Cond.code ({ cls := "java/lang/StringLatin1", name := "inflate", desc := "([BI[BII)V" } : Jvm.MethodName) jdk_43_method_50_code (5 : Nat) (Option.none : Option Jvm.ClassFile.FieldType), Jvm.Cond.code ({ cls := "java/lang/StringUTF16", name := "inflate", desc := "([BI[BII)V" } : Jvm.MethodName) jdk_52_method_86_code (6 : Nat) (Option.none : Option Jvm.ClassFile.FieldType), Jvm.Cond.code ({ cls := "java/lang/StringUTF16", name := "checkBoundsOffCount", desc := "(II[B)V" } : Jvm.MethodName) jdk_52_method_94_code (3 : Nat) (Option.none : Option Jvm.ClassFile.FieldType), Jvm.Cond.code ({ cls := "java/lang/StringUTF16", name := "length", desc := "([B)I" } : Jvm.MethodName) jdk_52_method_6_code (1 : Nat) (Option.some Jvm.ClassFile.FieldType.int), Jvm.Cond.code ({ cls := "java/lang/String", name := "decodeUTF8_UTF16", desc := "([BII[BIZ)I" } : Jvm.MethodName) jdk_42_method_38_code (11 : Nat) (Option.some Jvm.ClassFile.FieldType.int), Jvm.Cond.code ({ cls := "java/lang/String", name := "isNotContinuation", desc := "(I)Z" } : Jvm.MethodName) jdk_42_method_29_code (1 : Nat) (Option.some Jvm.ClassFile.FieldType.boolean), Jvm.Cond.code ({ cls := "java/lang/String", name := "decode2", desc := "(II)C" } : Jvm.MethodName) jdk_42_method_35_code (2 : Nat) (Option.some Jvm.ClassFile.FieldType.char), Jvm.Cond.code ({ cls := "java/lang/StringUTF16", name := "putChar", desc := "([BII)V" } : Jvm.MethodName) jdk_52_method_4_code (3 : Nat) (Option.none : Option Jvm.ClassFile.FieldType), Jvm.Cond.code ({ cls := "java/util/Arrays", name := "copyOf", desc := "([BI)[B" } : Jvm.MethodName) jdk_65_method_121_code (3 : Nat) (Option.some (Jvm.ClassFile.FieldType.array Jvm.ClassFile.FieldType.byte)), Jvm.Cond.code ({ cls := "java/lang/StringUTF16", name := "charAt", desc := "([BI)C" } : Jvm.MethodName) jdk_52_method_83_code (2 : Nat) (Option.some Jvm.ClassFile.FieldType.char), Jvm.Cond.code ({ cls := "java/lang/StringUTF16", name := "checkIndex", desc := "(I[B)V" } : Jvm.MethodName) jdk_52_method_91_code (2 : Nat) (Option.none : Option Jvm.ClassFile.FieldType), Jvm.Cond.code ({ cls := "java/lang/StringUTF16", name := "getChar", desc := "([BI)C" } : Jvm.MethodName) jdk_52_method_5_code (2 : Nat) (Option.some Jvm.ClassFile.FieldType.char)]
set_option maxRecDepth 65536 in
theorem codes_eq : words1.filter isCode = codes1 := rfl
theorem w_codes : ∀ c ∈ words1.filter isCode, c.before args0 about1 = true := by
  rw [codes_eq]
  intro c hc
  simp only [codes1, List.mem_cons, List.not_mem_nil, or_false] at hc
  rcases hc with rfl | rfl | rfl | rfl | rfl | rfl | rfl | rfl | rfl | rfl | rfl | rfl | rfl | rfl | rfl | rfl | rfl | rfl | rfl | rfl | rfl | rfl | rfl | rfl | rfl | rfl | rfl | rfl | rfl | rfl | rfl | rfl | rfl | rfl | rfl | rfl
  · exact w_c0
  · exact w_c1
  · exact w_c2
  · exact w_c3
  · exact w_c4
  · exact w_c5
  · exact w_c6
  · exact w_c7
  · exact w_c8
  · exact w_c9
  · exact w_c10
  · exact w_c11
  · exact w_c12
  · exact w_c13
  · exact w_c14
  · exact w_c15
  · exact w_c16
  · exact w_c17
  · exact w_c18
  · exact w_c19
  · exact w_c20
  · exact w_c21
  · exact w_c22
  · exact w_c23
  · exact w_c24
  · exact w_c25
  · exact w_c26
  · exact w_c27
  · exact w_c28
  · exact w_c29
  · exact w_c30
  · exact w_c31
  · exact w_c32
  · exact w_c33
  · exact w_c34
  · exact w_c35
set_option maxRecDepth 65536 in
theorem w_t1 : (words1.take 24).all (fun c => isCode c || c.before args0 about1) = true := by decide +kernel
set_option maxRecDepth 65536 in
theorem w_t2 : ((words1.drop 24).take 24).all (fun c => isCode c || c.before args0 about1) = true := by decide +kernel
theorem own_cw {y : MethodName} {bytes : ByteArray} {mx : Nat} {rt : Option FieldType} {hs : List (Nat × Nat × Nat × Nat)} {a : Array Value} {s : State} {m : MethodId} {meth : Method} {c : Code} (h1 : s.methodNamed? y = some m) (h2 : s.vm.method? m = some meth) (h3 : meth.code = some c) (h4 : c.code = bytes)
    (h5 : (c.maxLocals == mx && decide (c.exceptionTable.toList.map (fun h => (h.startPc, h.endPc, h.handlerPc, h.catchType)) = hs) && decide (c.maxStack ≤ mostOperands) && decide (meth.sig.returnType = rt) && !meth.locks && decide (parseMethodDescriptor y.desc = some meth.sig)) = true) : (Jvm.Cond.codeWith y bytes mx rt hs).before a s = true := by
  simp only [Bool.and_eq_true, beq_iff_eq, Bool.not_eq_true', decide_eq_true_eq] at h5
  obtain ⟨⟨⟨⟨⟨g1, g2⟩, g3⟩, g4⟩, g5⟩, g6⟩ := h5
  simp [Cond.before, Cond.holds, Cond.value, h1, h2, h3, h4, g1, g2, g3, g4, g5, g6]
set_option maxRecDepth 65536 in
theorem w_t3_0a : ((((words1.drop 24).drop 24).drop 0).take 16).all (fun c => isCode c || c.before args0 about1) = true := by decide +kernel
set_option maxRecDepth 65536 in
theorem w_t3_0b : (Jvm.Cond.codeWith ({ cls := "java/lang/String", name := "<init>", desc := "(Ljava/nio/charset/Charset;[BII)V" } : Jvm.MethodName) jdk_42_method_11_code (11 : Nat) (Option.none : Option Jvm.ClassFile.FieldType) [((800 : Nat), (813 : Nat), (816 : Nat), (202 : Nat))]).before args0 about1 = true := own_cw (m := ⟨9, 2⟩) (meth := k9m2) (c := k9c2) (by decide +kernel) rfl rfl rfl (by decide +kernel)
set_option maxRecDepth 65536 in
theorem w_t3_z : ((((words1.drop 24).drop 24).drop 17).take 7).all (fun c => isCode c || c.before args0 about1) = true := by decide +kernel
set_option maxRecDepth 65536 in
theorem w_t3 : (((words1.drop 24).drop 24).take 24).all (fun c => isCode c || c.before args0 about1) = true := by
  have e : ((words1.drop 24).drop 24).take 24 = (((words1.drop 24).drop 24).drop 0).take 16 ++ ((Jvm.Cond.codeWith ({ cls := "java/lang/String", name := "<init>", desc := "(Ljava/nio/charset/Charset;[BII)V" } : Jvm.MethodName) jdk_42_method_11_code (11 : Nat) (Option.none : Option Jvm.ClassFile.FieldType) [((800 : Nat), (813 : Nat), (816 : Nat), (202 : Nat))]) :: ((((words1.drop 24).drop 24).drop 17).take 7)) := rfl
  rw [e, List.all_append, w_t3_0a, List.all_cons, w_t3_0b, w_t3_z]
  rfl
set_option maxRecDepth 65536 in
theorem w_t4 : ((((words1.drop 24).drop 24).drop 24).take 24).all (fun c => isCode c || c.before args0 about1) = true := by decide +kernel
set_option maxRecDepth 65536 in
theorem w_t5 : (((((words1.drop 24).drop 24).drop 24).drop 24).take 24).all (fun c => isCode c || c.before args0 about1) = true := by decide +kernel
set_option maxRecDepth 65536 in
theorem w_t6 : ((((((words1.drop 24).drop 24).drop 24).drop 24).drop 24).take 24).all (fun c => isCode c || c.before args0 about1) = true := by decide +kernel
set_option maxRecDepth 65536 in
theorem w_t7 : (((((((words1.drop 24).drop 24).drop 24).drop 24).drop 24).drop 24).take 24).all (fun c => isCode c || c.before args0 about1) = true := by decide +kernel
set_option maxRecDepth 65536 in
theorem w_t8 : (((((((words1.drop 24).drop 24).drop 24).drop 24).drop 24).drop 24).drop 24).all (fun c => isCode c || c.before args0 about1) = true := by decide +kernel
theorem w_tables : (allAtoms (Jvm.Cond.code x code maxLocals ret :: tables_1)).before args0 about1 = true := by
  rw [allAtoms_all]
  show words1.all (fun c => c.before args0 about1) = true
  refine all_split ?_ w_codes
  rw [← List.take_append_drop 24 words1, List.all_append, w_t1, ← List.take_append_drop 24 (words1.drop 24), List.all_append, w_t2, ← List.take_append_drop 24 ((words1.drop 24).drop 24), List.all_append, w_t3, ← List.take_append_drop 24 (((words1.drop 24).drop 24).drop 24), List.all_append, w_t4, ← List.take_append_drop 24 ((((words1.drop 24).drop 24).drop 24).drop 24), List.all_append, w_t5, ← List.take_append_drop 24 (((((words1.drop 24).drop 24).drop 24).drop 24).drop 24), List.all_append, w_t6, ← List.take_append_drop 24 ((((((words1.drop 24).drop 24).drop 24).drop 24).drop 24).drop 24), List.all_append, w_t7, w_t8]
  rfl
set_option maxRecDepth 65536 in
theorem w_rest : rest_1_c.before args0 about1 = true := by decide +kernel
set_option maxRecDepth 65536 in
theorem w_case : (Jvm.Cond.and given_1 narrow_1).before args0 about1 = true := by decide +kernel
theorem w_applies : (headSpec (Jvm.Cond.code x code maxLocals ret :: tables_1) room_1).applies x e0.platform about1 = true :=
  (Spec.applies_iff w_frames).mpr ⟨w_running, w_runnable, w_alone, w_named, w_hears, w_ripe, w_room, w_tables⟩
theorem atStart : AtStart classFile x code maxLocals ret World_1 tables_1 room_1 Calls_1 rest_1 Pre_1 launch0 p0 e0 about1 theMethod args0 below0 :=
  ⟨lists_1, trivial, launch0.admits_env _ _ _, launch0.least_env, fairChoices_fair.cas, fairChoices_fair.clock, w_frames, w_args, w_heap, w_applies, trivial, w_rest, w_case⟩
end start1
theorem witness_1 : WitnessClaimed_1 := ⟨start1.p0, start1.e0, start1.about1, start1.theMethod, start1.args0, start1.below0, start1.atStart⟩
end Jvm.Pilot.@@N@@
