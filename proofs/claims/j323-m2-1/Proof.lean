import JvmDerived
import JvmDerived.Pilot.@@N@@Statement
import JvmDerived.Pilot.@@N@@Code
set_option linter.unusedVariables false
set_option linter.unusedSimpArgs false
namespace Jvm.Pilot.@@N@@
open Jvm Jvm.ClassFile Sem Op Lib Jvm.Free Jvm.Stand Jvm.LawKit Jvm.RoadKit Bundle Jvm.Pilot.@@N@@.Jvm.D
theorem own_cast {tb : Tables} {e : Env} {below : List Frame} {T : State} {g g' : JFrame} {t : State} (q : g = g') (k : Steps tb e below (T.setTop g') t) : Steps tb e below (T.setTop g) t := q ▸ k
section Own
variable {p : Program} {l : Launch} {e : Env} {R : Room} {s : State} {m : MethodId} {args : Array Value} {below : List Frame} {meth : Method} {c : Code} {T T' : State} {locs : List Loc} {cells slots : Nat} {g g' : JFrame} {K : Outcome → State → Prop} {h : Heap}
/-- the run from T with g on top comes to an end at which K holds -/
def own_Go (p : Program) (e : Env) (below : List Frame) (K : Outcome → State → Prop) (T : State) (g : JFrame) : Prop := ∃ t o, Steps p.tables e below (T.setTop g) t ∧ t.status = .running ∧ Ended t below o ∧ K o t
def own_K (s : State) (Q : Option Value → Heap → List Loc → Prop) (kc ks : Nat) : Outcome → State → Prop := fun o t => ∃ v L, o = .returned v ∧ Q v t.heap L ∧ FrameEnd s o t L kc ks
theorem own_st (k : ∀ t, Steps p.tables e below (T'.setTop g') t → Steps p.tables e below (T.setTop g) t) (h : own_Go p e below K T' g') : own_Go p e below K T g := by
  obtain ⟨t, o, h1, h2⟩ := h; exact ⟨t, o, k t h1, h2⟩
theorem own_tr (k : Steps p.tables e below (T.setTop g) (T'.setTop g')) (h : own_Go p e below K T' g') : own_Go p e below K T g := by
  obtain ⟨t, o, h1, h2⟩ := h; exact ⟨t, o, k.trans h1, h2⟩
theorem own_in (q : g = g') (h : own_Go p e below K T g') : ∃ t o, Steps p.tables e below (T.setTop g) t ∧ t.status = .running ∧ Ended t below o ∧ K o t := by
  obtain ⟨t, o, h1, h2⟩ := h; exact ⟨t, o, own_cast q h1, h2⟩
variable {Q : Option Value → Heap → List Loc → Prop} {kc ks pc : Nat} {Ls : Array Slot} {rest : List Value} {x : MethodName} {S : Spec} {code : ByteArray} {maxLocals : Nat} {s₁ : State}
theorem own_end (X : Stand p l e R s m args below meth c T locs cells slots) {v : Option Value} (hv : meth.sig.returnType = none → v = none) (hlk : meth.locks = false) (eT : T.heap = h) (hQ : Q v h locs) (hc : cells ≤ kc) (hs : slots ≤ ks)
    (k : ∀ fs, (∀ (f : JFrame) (acts : List Action), f.method = m → f.locked = none → f.entered = [] → (doReturn e (T.setTop f) acts v).1 = T.setFrames fs) → Steps p.tables e below (T.setTop g) (T.setFrames fs)) : own_Go p e below (own_K s Q kc ks) T g := by
  obtain ⟨fs, hr, hrun, hended, hW, hsame⟩ := X.leave (v := v) hv hlk
  refine ⟨_, _, k fs hr, hrun, hended, v, locs, rfl, ?_, ⟨_, rfl⟩, hW, hsame.mono hc hs⟩
  show Q v T.heap locs
  rw [eT]; exact hQ
theorem own_retI (X : Stand p l e R s m args below meth c T locs cells slots) (hx : p.tables.exec = Jvm.exec) (Bd : BodyLoose p l x S code maxLocals (some .int) e s m args below meth c s₁) {z : Int32} (hd : decode c.code pc = .ok (.ireturn, 1)) (eT : T.heap = h) (hQ : Q (some (.int z)) h locs) (hc : cells ≤ kc) (hs : slots ≤ ks) :
    own_Go p e below (own_K s Q kc ks) T (mkF m pc Ls (.int z :: rest)) :=
  own_end X (fun h => by rw [Bd.returns] at h; cases h) Bd.notSynchronized eT hQ hc hs fun fs hr => retOut X hx Bd.returns rfl (Or.inl ⟨rfl, Or.inl rfl, z, rfl⟩) hd hr
theorem own_retJ (X : Stand p l e R s m args below meth c T locs cells slots) (hx : p.tables.exec = Jvm.exec) (Bd : BodyLoose p l x S code maxLocals (some .long) e s m args below meth c s₁) {z : Int64} (hd : decode c.code pc = .ok (.lreturn, 1)) (eT : T.heap = h) (hQ : Q (some (.long z)) h locs) (hc : cells ≤ kc) (hs : slots ≤ ks) :
    own_Go p e below (own_K s Q kc ks) T (mkF m pc Ls (.long z :: rest)) :=
  own_end X (fun h => by rw [Bd.returns] at h; cases h) Bd.notSynchronized eT hQ hc hs fun fs hr => retOut X hx Bd.returns rfl (Or.inr (Or.inl ⟨rfl, rfl, z, rfl⟩)) hd hr
theorem own_retN (X : Stand p l e R s m args below meth c T locs cells slots) (hx : p.tables.exec = Jvm.exec) {t : FieldType} (Bd : BodyLoose p l x S code maxLocals (some t) e s m args below meth c s₁) (ht : t = .boolean ∨ t = .byte ∨ t = .char ∨ t = .short) {z : Int32} (hn : narrow t (.int z) = .int z) (hd : decode c.code pc = .ok (.ireturn, 1)) (eT : T.heap = h) (hQ : Q (some (.int z)) h locs) (hc : cells ≤ kc) (hs : slots ≤ ks) :
    own_Go p e below (own_K s Q kc ks) T (mkF m pc Ls (.int z :: rest)) :=
  own_end X (fun h => by rw [Bd.returns] at h; cases h) Bd.notSynchronized eT hQ hc hs fun fs hr => retOut X hx Bd.returns hn (Or.inl ⟨rfl, Or.inr ht, z, rfl⟩) hd hr
theorem own_retA (X : Stand p l e R s m args below meth c T locs cells slots) (hx : p.tables.exec = Jvm.exec) {t : FieldType} (Bd : BodyLoose p l x S code maxLocals (some t) e s m args below meth c s₁) (ht : t.isReference = true) {w : Value} (hw : w.isRef = true) (hd : decode c.code pc = .ok (.areturn, 1)) (eT : T.heap = h) (hQ : Q (some w) h locs) (hc : cells ≤ kc) (hs : slots ≤ ks) :
    own_Go p e below (own_K s Q kc ks) T (mkF m pc Ls (w :: rest)) :=
  own_end X (fun h => by rw [Bd.returns] at h; cases h) Bd.notSynchronized eT hQ hc hs fun fs hr => retOut X hx Bd.returns (by cases t <;> first | (cases ht; done) | rfl) (Or.inr (Or.inr (Or.inr (Or.inr ⟨rfl, ht, hw⟩)))) hd hr
theorem own_retV (X : Stand p l e R s m args below meth c T locs cells slots) (hx : p.tables.exec = Jvm.exec) (Bd : BodyLoose p l x S code maxLocals none e s m args below meth c s₁) (hd : decode c.code pc = .ok (.return_, 1)) (eT : T.heap = h) (hQ : Q none h locs) (hc : cells ≤ kc) (hs : slots ≤ ks) :
    own_Go p e below (own_K s Q kc ks) T (mkF m pc Ls []) :=
  own_end X (fun _ => rfl) Bd.notSynchronized eT hQ hc hs fun fs hr => X.returnOut hx Bd.returns hd hr
end Own
theorem own_Sta_keep {Z : State} {h h' : Heap} {C n d : String} {v : Value} {ws : List Addr} (F : Sta Z h C n d v) (K : Keep h h' ws) (q : ∀ x ∈ ws, ∀ cell : Cell, h[x]? = some cell → cell.vm.isStatics = false) : Sta Z h' C n d v := by
  obtain ⟨cf, i, k, f, st, cell, h1, h2, h3, h4, h5, h6, h7⟩ := F
  exact ⟨cf, i, k, f, st, cell, h1, h2, h3, h4, K.2.1 _ _ h5 (fun hm => by rw [q _ hm _ h5] at h6; cases h6), h6, h7⟩
theorem own_Ins_keep {Z : State} {h h' : Heap} {a : Addr} {C : String} {b : Bool} {ws : List Addr} (F : Ins Z h a C b) (K : Keep h h' ws) : Ins Z h' a C b := by
  obtain ⟨cell, cT, h1, h2, h3⟩ := F
  obtain ⟨c', e1, e2, e3, -⟩ := K.2.2 _ _ h1
  exact ⟨c', cT, e1, h2, by rw [e2, e3]; exact h3⟩
theorem own_enum {Z : State} {args : Array Value} {C D n d : String} (h : (Cond.exactly (Term.static C n d) D).value args Z none Z [] = some true) (hi : (Cond.initializedFor C n d).before args Z = true ∨ ((Cond.initialized C).before args Z = true ∧ (Cond.laysStatic C n d).before args Z = true)) :
    ∃ a, (Term.static C n d).eval args Z none [] Z = some (.ref a) ∧ Sta Z Z.heap C n d (.ref a) ∧ Exa Z Z.heap a D := by
  obtain ⟨a, e⟩ := exa_v h
  exact ⟨a, e, Sta.start e hi, Exa.start e h⟩
theorem own_ord {Z : State} {args : Array Value} {t : Term} {a : Addr} {O n d : String} {k : Int32} (e : t.eval args Z none [] Z = some (.ref a)) (h : (Cond.eq (Term.field t O n d) (Term.int k)).value args Z none Z [] = some true) : Fld Z Z.heap a O n d (.int k) := by
  refine Fld.start ?_
  have q := fld_at (C := O) (n := n) (dd := d) (first := Z) (o := none) (idx := []) (args := args) e
  obtain ⟨x, y, h1, h2, -⟩ := cmp_v (Or.inl h)
  rw [q] at h1
  have h2' : some (Value.int k) = some y := h2
  cases h2'
  cases x <;> simp [Cond.value, Term.eval, e, h1] at h
  rw [h1, h]
theorem own_bb (x : Int32) : x.toInt8.toInt32.toInt8.toInt32 = x.toInt8.toInt32 := by simp
theorem own_cc (x : Int32) : x.toUInt32.toUInt16.toUInt32.toInt32.toUInt32.toUInt16.toUInt32.toInt32 = x.toUInt32.toUInt16.toUInt32.toInt32 := by simp only [UInt32.toUInt32_toInt32, UInt16.toUInt16_toUInt32]
theorem own_nar_ref {t : FieldType} {v : Value} (h : v.isRef = true) (ht : t.isReference = true) : narrow t v = v := by cases t <;> first | (cases ht; done) | rfl
theorem own_fits_ref {t : FieldType} {v : Value} (h : v.isRef = true) (ht : t.isReference = true) : fits t v = true := by rcases ref_cases h with rfl | ⟨a, rfl⟩ <;> cases t <;> first | (cases ht; done) | rfl
theorem own_nar_b {z : Int32} (h : z = 0 ∨ z = 1) : narrow .boolean (.int z) = .int z := by rcases h with rfl | rfl <;> rfl
theorem own_fits_b {z : Int32} (h : z = 0 ∨ z = 1) : fits .boolean (.int z) = true := by rcases h with rfl | rfl <;> rfl
theorem own_d13_0 : decode jdk_41_method_11_code 0 = .ok (.iload_n 0, 1) := by decide +kernel
theorem own_d13_1 : decode jdk_41_method_11_code 1 = .ok (.ifCond .lt 8, 3) := by decide +kernel
theorem own_d13_4 : decode jdk_41_method_11_code 4 = .ok (.iload_n 0, 1) := by decide +kernel
theorem own_d13_5 : decode jdk_41_method_11_code 5 = .ok (.iload_n 1, 1) := by decide +kernel
theorem own_d13_6 : decode jdk_41_method_11_code 6 = .ok (.if_icmp .lt 10, 3) := by decide +kernel
theorem own_d13_16 : decode jdk_41_method_11_code 16 = .ok (.iload_n 0, 1) := by decide +kernel
theorem own_d13_17 : decode jdk_41_method_11_code 17 = .ok (.ireturn, 1) := by decide +kernel
theorem own_pn0 : plainName "jdk/internal/util/Preconditions" = true := by first | (simp [plainName, overriddenIn]; done) | decide +kernel
theorem own_d12_0 : decode jdk_42_method_155_code 0 = .ok (.iload_n 0, 1) := by decide +kernel
theorem own_d12_1 : decode jdk_42_method_155_code 1 = .ok (.iload_n 1, 1) := by decide +kernel
theorem own_d12_2 : decode jdk_42_method_155_code 2 = .ok (.getstatic 1053, 3) := by decide +kernel
theorem own_d12_5 : decode jdk_42_method_155_code 5 = .ok (.invokestatic 1059, 3) := by decide +kernel
theorem own_pd0 : parseMethodDescriptor "(IILjava/util/function/BiFunction;)I" = some ⟨[.int, .int, (.object "java/util/function/BiFunction")], some .int⟩ := by decide +kernel
theorem own_d12_8 : decode jdk_42_method_155_code 8 = .ok (.pop, 1) := by decide +kernel
theorem own_d12_9 : decode jdk_42_method_155_code 9 = .ok (.return_, 1) := by decide +kernel
theorem own_pn1 : plainName "java/lang/String" = true := by first | (simp [plainName, overriddenIn]; done) | decide +kernel
theorem own_d7_0 : decode jdk_30_method_1_code 0 = .ok (.aload_n 0, 1) := by decide +kernel
theorem own_d7_1 : decode jdk_30_method_1_code 1 = .ok (.invokespecial 1, 3) := by decide +kernel
theorem own_d7_4 : decode jdk_30_method_1_code 4 = .ok (.return_, 1) := by decide +kernel
theorem own_pn2 : plainName "java/lang/Record" = true := by first | (simp [plainName, overriddenIn]; done) | decide +kernel
theorem own_d26_0 : decode jdk_52_method_6_code 0 = .ok (.aload_n 0, 1) := by decide +kernel
theorem own_d26_1 : decode jdk_52_method_6_code 1 = .ok (.arraylength, 1) := by decide +kernel
theorem own_d26_2 : decode jdk_52_method_6_code 2 = .ok (.iconst 1, 1) := by decide +kernel
theorem own_d26_3 : decode jdk_52_method_6_code 3 = .ok (.ishr, 1) := by decide +kernel
theorem own_d26_4 : decode jdk_52_method_6_code 4 = .ok (.ireturn, 1) := by decide +kernel
theorem own_pn3 : plainName "java/lang/StringUTF16" = true := by first | (simp [plainName, overriddenIn]; done) | decide +kernel
theorem own_d25_0 : decode jdk_52_method_91_code 0 = .ok (.iload_n 0, 1) := by decide +kernel
theorem own_d25_1 : decode jdk_52_method_91_code 1 = .ok (.aload_n 1, 1) := by decide +kernel
theorem own_d25_2 : decode jdk_52_method_91_code 2 = .ok (.invokestatic 48, 3) := by decide +kernel
theorem own_pd1 : parseMethodDescriptor "([B)I" = some ⟨[(.array .byte)], some .int⟩ := by decide +kernel
theorem own_d25_5 : decode jdk_52_method_91_code 5 = .ok (.invokestatic 414, 3) := by decide +kernel
theorem own_pd2 : parseMethodDescriptor "(II)V" = some ⟨[.int, .int], none⟩ := by decide +kernel
theorem own_d25_8 : decode jdk_52_method_91_code 8 = .ok (.return_, 1) := by decide +kernel
theorem own_d23_0 : decode jdk_52_method_5_code 0 = .ok (.getstatic 44, 3) := by decide +kernel
theorem own_d23_3 : decode jdk_52_method_5_code 3 = .ok (.ifCond .ne 25, 3) := by decide +kernel
theorem own_d23_28 : decode jdk_52_method_5_code 28 = .ok (.iload_n 1, 1) := by decide +kernel
theorem own_d23_29 : decode jdk_52_method_5_code 29 = .ok (.iconst 1, 1) := by decide +kernel
theorem own_d23_30 : decode jdk_52_method_5_code 30 = .ok (.ishl, 1) := by decide +kernel
theorem own_d23_31 : decode jdk_52_method_5_code 31 = .ok (.istore_n 1, 1) := by decide +kernel
theorem own_d23_32 : decode jdk_52_method_5_code 32 = .ok (.aload_n 0, 1) := by decide +kernel
theorem own_d23_33 : decode jdk_52_method_5_code 33 = .ok (.iload_n 1, 1) := by decide +kernel
theorem own_d23_34 : decode jdk_52_method_5_code 34 = .ok (.iinc 1 1, 3) := by decide +kernel
theorem own_d23_37 : decode jdk_52_method_5_code 37 = .ok (.baload, 1) := by decide +kernel
theorem own_d23_38 : decode jdk_52_method_5_code 38 = .ok (.sipush 255, 3) := by decide +kernel
theorem own_d23_41 : decode jdk_52_method_5_code 41 = .ok (.iand, 1) := by decide +kernel
theorem own_d23_42 : decode jdk_52_method_5_code 42 = .ok (.getstatic 59, 3) := by decide +kernel
theorem own_d23_45 : decode jdk_52_method_5_code 45 = .ok (.ishl, 1) := by decide +kernel
theorem own_d23_46 : decode jdk_52_method_5_code 46 = .ok (.aload_n 0, 1) := by decide +kernel
theorem own_d23_47 : decode jdk_52_method_5_code 47 = .ok (.iload_n 1, 1) := by decide +kernel
theorem own_d23_48 : decode jdk_52_method_5_code 48 = .ok (.baload, 1) := by decide +kernel
theorem own_d23_49 : decode jdk_52_method_5_code 49 = .ok (.sipush 255, 3) := by decide +kernel
theorem own_d23_52 : decode jdk_52_method_5_code 52 = .ok (.iand, 1) := by decide +kernel
theorem own_d23_53 : decode jdk_52_method_5_code 53 = .ok (.getstatic 63, 3) := by decide +kernel
theorem own_d23_56 : decode jdk_52_method_5_code 56 = .ok (.ishl, 1) := by decide +kernel
theorem own_d23_57 : decode jdk_52_method_5_code 57 = .ok (.ior, 1) := by decide +kernel
theorem own_d23_58 : decode jdk_52_method_5_code 58 = .ok (.i2c, 1) := by decide +kernel
theorem own_d23_59 : decode jdk_52_method_5_code 59 = .ok (.ireturn, 1) := by decide +kernel
theorem own_d24_0 : decode jdk_52_method_83_code 0 = .ok (.iload_n 1, 1) := by decide +kernel
theorem own_d24_1 : decode jdk_52_method_83_code 1 = .ok (.aload_n 0, 1) := by decide +kernel
theorem own_d24_2 : decode jdk_52_method_83_code 2 = .ok (.invokestatic 67, 3) := by decide +kernel
theorem own_pd3 : parseMethodDescriptor "(I[B)V" = some ⟨[.int, (.array .byte)], none⟩ := by decide +kernel
theorem own_d24_5 : decode jdk_52_method_83_code 5 = .ok (.aload_n 0, 1) := by decide +kernel
theorem own_d24_6 : decode jdk_52_method_83_code 6 = .ok (.iload_n 1, 1) := by decide +kernel
theorem own_d24_7 : decode jdk_52_method_83_code 7 = .ok (.invokestatic 71, 3) := by decide +kernel
theorem own_pd4 : parseMethodDescriptor "([BI)C" = some ⟨[(.array .byte), .int], some .char⟩ := by decide +kernel
theorem own_d24_10 : decode jdk_52_method_83_code 10 = .ok (.ireturn, 1) := by decide +kernel
theorem own_d11_0 : decode jdk_43_method_2_code 0 = .ok (.iload_n 1, 1) := by decide +kernel
theorem own_d11_1 : decode jdk_43_method_2_code 1 = .ok (.aload_n 0, 1) := by decide +kernel
theorem own_d11_2 : decode jdk_43_method_2_code 2 = .ok (.arraylength, 1) := by decide +kernel
theorem own_d11_3 : decode jdk_43_method_2_code 3 = .ok (.invokestatic 9, 3) := by decide +kernel
theorem own_d11_6 : decode jdk_43_method_2_code 6 = .ok (.aload_n 0, 1) := by decide +kernel
theorem own_d11_7 : decode jdk_43_method_2_code 7 = .ok (.iload_n 1, 1) := by decide +kernel
theorem own_d11_8 : decode jdk_43_method_2_code 8 = .ok (.baload, 1) := by decide +kernel
theorem own_d11_9 : decode jdk_43_method_2_code 9 = .ok (.sipush 255, 3) := by decide +kernel
theorem own_d11_12 : decode jdk_43_method_2_code 12 = .ok (.iand, 1) := by decide +kernel
theorem own_d11_13 : decode jdk_43_method_2_code 13 = .ok (.i2c, 1) := by decide +kernel
theorem own_d11_14 : decode jdk_43_method_2_code 14 = .ok (.ireturn, 1) := by decide +kernel
theorem own_pn4 : plainName "java/lang/StringLatin1" = true := by first | (simp [plainName, overriddenIn]; done) | decide +kernel
theorem own_d10_0 : decode jdk_42_method_154_code 0 = .ok (.getstatic 38, 3) := by decide +kernel
theorem own_d10_3 : decode jdk_42_method_154_code 3 = .ok (.ifCond .eq 14, 3) := by decide +kernel
theorem own_d10_6 : decode jdk_42_method_154_code 6 = .ok (.aload_n 0, 1) := by decide +kernel
theorem own_d10_7 : decode jdk_42_method_154_code 7 = .ok (.getfield 15, 3) := by decide +kernel
theorem own_d10_10 : decode jdk_42_method_154_code 10 = .ok (.ifCond .ne 7, 3) := by decide +kernel
theorem own_d10_13 : decode jdk_42_method_154_code 13 = .ok (.iconst 1, 1) := by decide +kernel
theorem own_d10_14 : decode jdk_42_method_154_code 14 = .ok (.goto 4, 3) := by decide +kernel
theorem own_d10_18 : decode jdk_42_method_154_code 18 = .ok (.ireturn, 1) := by decide +kernel
theorem own_d10_17 : decode jdk_42_method_154_code 17 = .ok (.iconst 0, 1) := by decide +kernel
theorem own_d9_0 : decode jdk_42_method_56_code 0 = .ok (.aload_n 0, 1) := by decide +kernel
theorem own_d9_1 : decode jdk_42_method_56_code 1 = .ok (.invokevirtual 492, 3) := by decide +kernel
theorem own_pd5 : parseMethodDescriptor "()Z" = some ⟨[], some .boolean⟩ := by decide +kernel
theorem own_d9_4 : decode jdk_42_method_56_code 4 = .ok (.ifCond .eq 12, 3) := by decide +kernel
theorem own_d9_7 : decode jdk_42_method_56_code 7 = .ok (.aload_n 0, 1) := by decide +kernel
theorem own_d9_8 : decode jdk_42_method_56_code 8 = .ok (.getfield 9, 3) := by decide +kernel
theorem own_d9_11 : decode jdk_42_method_56_code 11 = .ok (.iload_n 1, 1) := by decide +kernel
theorem own_d9_12 : decode jdk_42_method_56_code 12 = .ok (.invokestatic 495, 3) := by decide +kernel
theorem own_d9_15 : decode jdk_42_method_56_code 15 = .ok (.ireturn, 1) := by decide +kernel
theorem own_d9_16 : decode jdk_42_method_56_code 16 = .ok (.aload_n 0, 1) := by decide +kernel
theorem own_d9_17 : decode jdk_42_method_56_code 17 = .ok (.getfield 9, 3) := by decide +kernel
theorem own_d9_20 : decode jdk_42_method_56_code 20 = .ok (.iload_n 1, 1) := by decide +kernel
theorem own_d9_21 : decode jdk_42_method_56_code 21 = .ok (.invokestatic 498, 3) := by decide +kernel
theorem own_d9_24 : decode jdk_42_method_56_code 24 = .ok (.ireturn, 1) := by decide +kernel
theorem own_d22_0 : decode jdk_52_method_4_code 0 = .ok (.getstatic 44, 3) := by decide +kernel
theorem own_d22_3 : decode jdk_52_method_4_code 3 = .ok (.ifCond .ne 25, 3) := by decide +kernel
theorem own_d22_28 : decode jdk_52_method_4_code 28 = .ok (.iload_n 1, 1) := by decide +kernel
theorem own_d22_29 : decode jdk_52_method_4_code 29 = .ok (.iconst 1, 1) := by decide +kernel
theorem own_d22_30 : decode jdk_52_method_4_code 30 = .ok (.ishl, 1) := by decide +kernel
theorem own_d22_31 : decode jdk_52_method_4_code 31 = .ok (.istore_n 1, 1) := by decide +kernel
theorem own_d22_32 : decode jdk_52_method_4_code 32 = .ok (.aload_n 0, 1) := by decide +kernel
theorem own_d22_33 : decode jdk_52_method_4_code 33 = .ok (.iload_n 1, 1) := by decide +kernel
theorem own_d22_34 : decode jdk_52_method_4_code 34 = .ok (.iinc 1 1, 3) := by decide +kernel
theorem own_d22_37 : decode jdk_52_method_4_code 37 = .ok (.iload_n 2, 1) := by decide +kernel
theorem own_d22_38 : decode jdk_52_method_4_code 38 = .ok (.getstatic 59, 3) := by decide +kernel
theorem own_d22_41 : decode jdk_52_method_4_code 41 = .ok (.ishr, 1) := by decide +kernel
theorem own_d22_42 : decode jdk_52_method_4_code 42 = .ok (.i2b, 1) := by decide +kernel
theorem own_d22_43 : decode jdk_52_method_4_code 43 = .ok (.bastore, 1) := by decide +kernel
theorem own_d22_44 : decode jdk_52_method_4_code 44 = .ok (.aload_n 0, 1) := by decide +kernel
theorem own_d22_45 : decode jdk_52_method_4_code 45 = .ok (.iload_n 1, 1) := by decide +kernel
theorem own_d22_46 : decode jdk_52_method_4_code 46 = .ok (.iload_n 2, 1) := by decide +kernel
theorem own_d22_47 : decode jdk_52_method_4_code 47 = .ok (.getstatic 63, 3) := by decide +kernel
theorem own_d22_50 : decode jdk_52_method_4_code 50 = .ok (.ishr, 1) := by decide +kernel
theorem own_d22_51 : decode jdk_52_method_4_code 51 = .ok (.i2b, 1) := by decide +kernel
theorem own_d22_52 : decode jdk_52_method_4_code 52 = .ok (.bastore, 1) := by decide +kernel
theorem own_d22_53 : decode jdk_52_method_4_code 53 = .ok (.return_, 1) := by decide +kernel
theorem own_d3_0 : decode jdk_43_method_46_code 0 = .ok (.iconst 1, 1) := by decide +kernel
theorem own_d3_1 : decode jdk_43_method_46_code 1 = .ok (.newarray .byte, 2) := by decide +kernel
theorem own_d3_3 : decode jdk_43_method_46_code 3 = .ok (.dup, 1) := by decide +kernel
theorem own_d3_4 : decode jdk_43_method_46_code 4 = .ok (.iconst 0, 1) := by decide +kernel
theorem own_d3_5 : decode jdk_43_method_46_code 5 = .ok (.iload_n 0, 1) := by decide +kernel
theorem own_d3_6 : decode jdk_43_method_46_code 6 = .ok (.i2b, 1) := by decide +kernel
theorem own_d3_7 : decode jdk_43_method_46_code 7 = .ok (.bastore, 1) := by decide +kernel
theorem own_d3_8 : decode jdk_43_method_46_code 8 = .ok (.areturn, 1) := by decide +kernel
theorem own_d27_0 : decode jdk_52_method_24_code 0 = .ok (.iconst 2, 1) := by decide +kernel
theorem own_d27_1 : decode jdk_52_method_24_code 1 = .ok (.newarray .byte, 2) := by decide +kernel
theorem own_d27_3 : decode jdk_52_method_24_code 3 = .ok (.astore_n 1, 1) := by decide +kernel
theorem own_d27_4 : decode jdk_52_method_24_code 4 = .ok (.aload_n 1, 1) := by decide +kernel
theorem own_d27_5 : decode jdk_52_method_24_code 5 = .ok (.iconst 0, 1) := by decide +kernel
theorem own_d27_6 : decode jdk_52_method_24_code 6 = .ok (.iload_n 0, 1) := by decide +kernel
theorem own_d27_7 : decode jdk_52_method_24_code 7 = .ok (.invokestatic 111, 3) := by decide +kernel
theorem own_pd6 : parseMethodDescriptor "([BII)V" = some ⟨[(.array .byte), .int, .int], none⟩ := by decide +kernel
theorem own_d27_10 : decode jdk_52_method_24_code 10 = .ok (.aload_n 1, 1) := by decide +kernel
theorem own_d27_11 : decode jdk_52_method_24_code 11 = .ok (.areturn, 1) := by decide +kernel
theorem own_d21_0 : decode jdk_52_method_3_code 0 = .ok (.iload_n 0, 1) := by decide +kernel
theorem own_d21_1 : decode jdk_52_method_3_code 1 = .ok (.ifCond .ge 11, 3) := by decide +kernel
theorem own_d21_12 : decode jdk_52_method_3_code 12 = .ok (.iload_n 0, 1) := by decide +kernel
theorem own_d21_13 : decode jdk_52_method_3_code 13 = .ok (.ldc 20, 2) := by decide +kernel
theorem own_d21_15 : decode jdk_52_method_3_code 15 = .ok (.if_icmp .lt 40, 3) := by decide +kernel
theorem own_d21_55 : decode jdk_52_method_3_code 55 = .ok (.iload_n 0, 1) := by decide +kernel
theorem own_d21_56 : decode jdk_52_method_3_code 56 = .ok (.iconst 1, 1) := by decide +kernel
theorem own_d21_57 : decode jdk_52_method_3_code 57 = .ok (.ishl, 1) := by decide +kernel
theorem own_d21_58 : decode jdk_52_method_3_code 58 = .ok (.ireturn, 1) := by decide +kernel
theorem own_d20_0 : decode jdk_52_method_2_code 0 = .ok (.iload_n 0, 1) := by decide +kernel
theorem own_d20_1 : decode jdk_52_method_2_code 1 = .ok (.invokestatic 11, 3) := by decide +kernel
theorem own_pd7 : parseMethodDescriptor "(I)I" = some ⟨[.int], some .int⟩ := by decide +kernel
theorem own_d20_4 : decode jdk_52_method_2_code 4 = .ok (.newarray .byte, 2) := by decide +kernel
theorem own_d20_6 : decode jdk_52_method_2_code 6 = .ok (.areturn, 1) := by decide +kernel
theorem own_d19_0 : decode jdk_52_method_14_code 0 = .ok (.iload_n 2, 1) := by decide +kernel
theorem own_d19_1 : decode jdk_52_method_14_code 1 = .ok (.invokestatic 107, 3) := by decide +kernel
theorem own_pd8 : parseMethodDescriptor "(I)[B" = some ⟨[.int], some (.array .byte)⟩ := by decide +kernel
theorem own_d19_4 : decode jdk_52_method_14_code 4 = .ok (.astore_n 3, 1) := by decide +kernel
theorem own_d19_5 : decode jdk_52_method_14_code 5 = .ok (.iconst 0, 1) := by decide +kernel
theorem own_d19_6 : decode jdk_52_method_14_code 6 = .ok (.istore 4, 2) := by decide +kernel
theorem own_d19_8 : decode jdk_52_method_14_code 8 = .ok (.iload 4, 2) := by decide +kernel
theorem own_d19_10 : decode jdk_52_method_14_code 10 = .ok (.iload_n 2, 1) := by decide +kernel
theorem own_d19_11 : decode jdk_52_method_14_code 11 = .ok (.if_icmp .ge 21, 3) := by decide +kernel
theorem own_d19_14 : decode jdk_52_method_14_code 14 = .ok (.aload_n 3, 1) := by decide +kernel
theorem own_d19_15 : decode jdk_52_method_14_code 15 = .ok (.iload 4, 2) := by decide +kernel
theorem own_d19_17 : decode jdk_52_method_14_code 17 = .ok (.aload_n 0, 1) := by decide +kernel
theorem own_d19_18 : decode jdk_52_method_14_code 18 = .ok (.iload_n 1, 1) := by decide +kernel
theorem own_d19_19 : decode jdk_52_method_14_code 19 = .ok (.caload, 1) := by decide +kernel
theorem own_d19_20 : decode jdk_52_method_14_code 20 = .ok (.invokestatic 111, 3) := by decide +kernel
theorem own_d19_23 : decode jdk_52_method_14_code 23 = .ok (.iinc 1 1, 3) := by decide +kernel
theorem own_d19_26 : decode jdk_52_method_14_code 26 = .ok (.iinc 4 1, 3) := by decide +kernel
theorem own_d19_29 : decode jdk_52_method_14_code 29 = .ok (.goto (-21), 3) := by decide +kernel
theorem own_d19_32 : decode jdk_52_method_14_code 32 = .ok (.aload_n 3, 1) := by decide +kernel
theorem own_d19_33 : decode jdk_52_method_14_code 33 = .ok (.areturn, 1) := by decide +kernel
theorem own_d17_0 : decode jdk_52_method_21_code 0 = .ok (.iconst 0, 1) := by decide +kernel
theorem own_d17_1 : decode jdk_52_method_21_code 1 = .ok (.istore 5, 2) := by decide +kernel
theorem own_d17_3 : decode jdk_52_method_21_code 3 = .ok (.iload 5, 2) := by decide +kernel
theorem own_d17_5 : decode jdk_52_method_21_code 5 = .ok (.iload 4, 2) := by decide +kernel
theorem own_d17_7 : decode jdk_52_method_21_code 7 = .ok (.if_icmp .ge 37, 3) := by decide +kernel
theorem own_d17_10 : decode jdk_52_method_21_code 10 = .ok (.aload_n 0, 1) := by decide +kernel
theorem own_d17_11 : decode jdk_52_method_21_code 11 = .ok (.iload_n 1, 1) := by decide +kernel
theorem own_d17_12 : decode jdk_52_method_21_code 12 = .ok (.caload, 1) := by decide +kernel
theorem own_d17_13 : decode jdk_52_method_21_code 13 = .ok (.istore 6, 2) := by decide +kernel
theorem own_d17_15 : decode jdk_52_method_21_code 15 = .ok (.iload 6, 2) := by decide +kernel
theorem own_d17_17 : decode jdk_52_method_21_code 17 = .ok (.sipush 255, 3) := by decide +kernel
theorem own_d17_20 : decode jdk_52_method_21_code 20 = .ok (.if_icmp .le 6, 3) := by decide +kernel
theorem own_d17_23 : decode jdk_52_method_21_code 23 = .ok (.iload 5, 2) := by decide +kernel
theorem own_d17_25 : decode jdk_52_method_21_code 25 = .ok (.ireturn, 1) := by decide +kernel
theorem own_d17_26 : decode jdk_52_method_21_code 26 = .ok (.aload_n 2, 1) := by decide +kernel
theorem own_d17_27 : decode jdk_52_method_21_code 27 = .ok (.iload_n 3, 1) := by decide +kernel
theorem own_d17_28 : decode jdk_52_method_21_code 28 = .ok (.iload 6, 2) := by decide +kernel
theorem own_d17_30 : decode jdk_52_method_21_code 30 = .ok (.i2b, 1) := by decide +kernel
theorem own_d17_31 : decode jdk_52_method_21_code 31 = .ok (.bastore, 1) := by decide +kernel
theorem own_d17_32 : decode jdk_52_method_21_code 32 = .ok (.iinc 1 1, 3) := by decide +kernel
theorem own_d17_35 : decode jdk_52_method_21_code 35 = .ok (.iinc 3 1, 3) := by decide +kernel
theorem own_d17_38 : decode jdk_52_method_21_code 38 = .ok (.iinc 5 1, 3) := by decide +kernel
theorem own_d17_41 : decode jdk_52_method_21_code 41 = .ok (.goto (-38), 3) := by decide +kernel
theorem own_d17_44 : decode jdk_52_method_21_code 44 = .ok (.iload 4, 2) := by decide +kernel
theorem own_d17_46 : decode jdk_52_method_21_code 46 = .ok (.ireturn, 1) := by decide +kernel
theorem own_d16_0 : decode jdk_52_method_16_code 0 = .ok (.iload_n 2, 1) := by decide +kernel
theorem own_d16_1 : decode jdk_52_method_16_code 1 = .ok (.newarray .byte, 2) := by decide +kernel
theorem own_d16_3 : decode jdk_52_method_16_code 3 = .ok (.astore_n 3, 1) := by decide +kernel
theorem own_d16_4 : decode jdk_52_method_16_code 4 = .ok (.aload_n 0, 1) := by decide +kernel
theorem own_d16_5 : decode jdk_52_method_16_code 5 = .ok (.iload_n 1, 1) := by decide +kernel
theorem own_d16_6 : decode jdk_52_method_16_code 6 = .ok (.aload_n 3, 1) := by decide +kernel
theorem own_d16_7 : decode jdk_52_method_16_code 7 = .ok (.iconst 0, 1) := by decide +kernel
theorem own_d16_8 : decode jdk_52_method_16_code 8 = .ok (.iload_n 2, 1) := by decide +kernel
theorem own_d16_9 : decode jdk_52_method_16_code 9 = .ok (.invokestatic 115, 3) := by decide +kernel
theorem own_pd9 : parseMethodDescriptor "([CI[BII)I" = some ⟨[(.array .char), .int, (.array .byte), .int, .int], some .int⟩ := by decide +kernel
theorem own_d16_12 : decode jdk_52_method_16_code 12 = .ok (.istore 4, 2) := by decide +kernel
theorem own_d16_14 : decode jdk_52_method_16_code 14 = .ok (.iload 4, 2) := by decide +kernel
theorem own_d16_16 : decode jdk_52_method_16_code 16 = .ok (.iload_n 2, 1) := by decide +kernel
theorem own_d16_17 : decode jdk_52_method_16_code 17 = .ok (.if_icmp .eq 40, 3) := by decide +kernel
theorem own_d16_20 : decode jdk_52_method_16_code 20 = .ok (.aload_n 0, 1) := by decide +kernel
theorem own_d16_21 : decode jdk_52_method_16_code 21 = .ok (.iload_n 1, 1) := by decide +kernel
theorem own_d16_22 : decode jdk_52_method_16_code 22 = .ok (.iload_n 2, 1) := by decide +kernel
theorem own_d16_23 : decode jdk_52_method_16_code 23 = .ok (.invokestatic 119, 3) := by decide +kernel
theorem own_pd10 : parseMethodDescriptor "([CII)[B" = some ⟨[(.array .char), .int, .int], some (.array .byte)⟩ := by decide +kernel
theorem own_d16_26 : decode jdk_52_method_16_code 26 = .ok (.astore 5, 2) := by decide +kernel
theorem own_d16_28 : decode jdk_52_method_16_code 28 = .ok (.aload 5, 2) := by decide +kernel
theorem own_d16_30 : decode jdk_52_method_16_code 30 = .ok (.iload 4, 2) := by decide +kernel
theorem own_d16_32 : decode jdk_52_method_16_code 32 = .ok (.invokestatic 71, 3) := by decide +kernel
theorem own_d16_35 : decode jdk_52_method_16_code 35 = .ok (.sipush 255, 3) := by decide +kernel
theorem own_d16_38 : decode jdk_52_method_16_code 38 = .ok (.if_icmp .gt 16, 3) := by decide +kernel
theorem own_d16_54 : decode jdk_52_method_16_code 54 = .ok (.aload 5, 2) := by decide +kernel
theorem own_d16_56 : decode jdk_52_method_16_code 56 = .ok (.areturn, 1) := by decide +kernel
theorem own_d16_57 : decode jdk_52_method_16_code 57 = .ok (.aload_n 3, 1) := by decide +kernel
theorem own_d16_58 : decode jdk_52_method_16_code 58 = .ok (.areturn, 1) := by decide +kernel
theorem own_d18_0 : decode jdk_52_method_15_code 0 = .ok (.iload_n 1, 1) := by decide +kernel
theorem own_d18_1 : decode jdk_52_method_15_code 1 = .ok (.aload_n 0, 1) := by decide +kernel
theorem own_d18_2 : decode jdk_52_method_15_code 2 = .ok (.arraylength, 1) := by decide +kernel
theorem own_d18_3 : decode jdk_52_method_15_code 3 = .ok (.isub, 1) := by decide +kernel
theorem own_d18_4 : decode jdk_52_method_15_code 4 = .ok (.bipush 31, 2) := by decide +kernel
theorem own_d18_6 : decode jdk_52_method_15_code 6 = .ok (.iushr, 1) := by decide +kernel
theorem own_d18_7 : decode jdk_52_method_15_code 7 = .ok (.i2b, 1) := by decide +kernel
theorem own_d18_8 : decode jdk_52_method_15_code 8 = .ok (.ireturn, 1) := by decide +kernel
theorem own_d15_0 : decode jdk_42_method_149_code 0 = .ok (.aload_n 0, 1) := by decide +kernel
theorem own_d15_1 : decode jdk_42_method_149_code 1 = .ok (.invokespecial 1, 3) := by decide +kernel
theorem own_d15_4 : decode jdk_42_method_149_code 4 = .ok (.iload_n 3, 1) := by decide +kernel
theorem own_d15_5 : decode jdk_42_method_149_code 5 = .ok (.ifCond .ne 22, 3) := by decide +kernel
theorem own_d15_27 : decode jdk_42_method_149_code 27 = .ok (.getstatic 38, 3) := by decide +kernel
theorem own_d15_30 : decode jdk_42_method_149_code 30 = .ok (.ifCond .eq 28, 3) := by decide +kernel
theorem own_d15_33 : decode jdk_42_method_149_code 33 = .ok (.aload_n 1, 1) := by decide +kernel
theorem own_d15_34 : decode jdk_42_method_149_code 34 = .ok (.iload_n 2, 1) := by decide +kernel
theorem own_d15_35 : decode jdk_42_method_149_code 35 = .ok (.iload_n 3, 1) := by decide +kernel
theorem own_d15_36 : decode jdk_42_method_149_code 36 = .ok (.invokestatic 177, 3) := by decide +kernel
theorem own_d15_39 : decode jdk_42_method_149_code 39 = .ok (.astore 5, 2) := by decide +kernel
theorem own_d15_41 : decode jdk_42_method_149_code 41 = .ok (.aload_n 0, 1) := by decide +kernel
theorem own_d15_42 : decode jdk_42_method_149_code 42 = .ok (.aload 5, 2) := by decide +kernel
theorem own_d15_44 : decode jdk_42_method_149_code 44 = .ok (.iload_n 3, 1) := by decide +kernel
theorem own_d15_45 : decode jdk_42_method_149_code 45 = .ok (.invokestatic 47, 3) := by decide +kernel
theorem own_pd11 : parseMethodDescriptor "([BI)B" = some ⟨[(.array .byte), .int], some .byte⟩ := by decide +kernel
theorem own_d15_48 : decode jdk_42_method_149_code 48 = .ok (.putfield 15, 3) := by decide +kernel
theorem own_d15_51 : decode jdk_42_method_149_code 51 = .ok (.aload_n 0, 1) := by decide +kernel
theorem own_d15_52 : decode jdk_42_method_149_code 52 = .ok (.aload 5, 2) := by decide +kernel
theorem own_d15_54 : decode jdk_42_method_149_code 54 = .ok (.putfield 9, 3) := by decide +kernel
theorem own_d15_57 : decode jdk_42_method_149_code 57 = .ok (.return_, 1) := by decide +kernel
theorem own_d14_0 : decode jdk_42_method_3_code 0 = .ok (.aload_n 0, 1) := by decide +kernel
theorem own_d14_1 : decode jdk_42_method_3_code 1 = .ok (.aload_n 1, 1) := by decide +kernel
theorem own_d14_2 : decode jdk_42_method_3_code 2 = .ok (.iconst 0, 1) := by decide +kernel
theorem own_d14_3 : decode jdk_42_method_3_code 3 = .ok (.aload_n 1, 1) := by decide +kernel
theorem own_d14_4 : decode jdk_42_method_3_code 4 = .ok (.arraylength, 1) := by decide +kernel
theorem own_d14_5 : decode jdk_42_method_3_code 5 = .ok (.aconst_null, 1) := by decide +kernel
theorem own_d14_6 : decode jdk_42_method_3_code 6 = .ok (.invokespecial 27, 3) := by decide +kernel
theorem own_pd12 : parseMethodDescriptor "([CIILjava/lang/Void;)V" = some ⟨[(.array .char), .int, .int, (.object "java/lang/Void")], none⟩ := by decide +kernel
theorem own_d14_9 : decode jdk_42_method_3_code 9 = .ok (.return_, 1) := by decide +kernel
theorem own_d4_0 : decode jdk_42_method_151_code 0 = .ok (.aload_n 0, 1) := by decide +kernel
theorem own_d4_1 : decode jdk_42_method_151_code 1 = .ok (.invokespecial 1, 3) := by decide +kernel
theorem own_d4_4 : decode jdk_42_method_151_code 4 = .ok (.aload_n 0, 1) := by decide +kernel
theorem own_d4_5 : decode jdk_42_method_151_code 5 = .ok (.aload_n 1, 1) := by decide +kernel
theorem own_d4_6 : decode jdk_42_method_151_code 6 = .ok (.putfield 9, 3) := by decide +kernel
theorem own_d4_9 : decode jdk_42_method_151_code 9 = .ok (.aload_n 0, 1) := by decide +kernel
theorem own_d4_10 : decode jdk_42_method_151_code 10 = .ok (.iload_n 2, 1) := by decide +kernel
theorem own_d4_11 : decode jdk_42_method_151_code 11 = .ok (.putfield 15, 3) := by decide +kernel
theorem own_d4_14 : decode jdk_42_method_151_code 14 = .ok (.return_, 1) := by decide +kernel
theorem own_d2_0 : decode jdk_43_method_3_code 0 = .ok (.iload_n 0, 1) := by decide +kernel
theorem own_d2_1 : decode jdk_43_method_3_code 1 = .ok (.sipush 255, 3) := by decide +kernel
theorem own_d2_4 : decode jdk_43_method_3_code 4 = .ok (.if_icmp .gt 7, 3) := by decide +kernel
theorem own_d2_7 : decode jdk_43_method_3_code 7 = .ok (.iconst 1, 1) := by decide +kernel
theorem own_d2_8 : decode jdk_43_method_3_code 8 = .ok (.goto 4, 3) := by decide +kernel
theorem own_d2_12 : decode jdk_43_method_3_code 12 = .ok (.ireturn, 1) := by decide +kernel
theorem own_d2_11 : decode jdk_43_method_3_code 11 = .ok (.iconst 0, 1) := by decide +kernel
theorem own_d1_0 : decode jdk_42_method_139_code 0 = .ok (.getstatic 38, 3) := by decide +kernel
theorem own_d1_3 : decode jdk_42_method_139_code 3 = .ok (.ifCond .eq 23, 3) := by decide +kernel
theorem own_d1_6 : decode jdk_42_method_139_code 6 = .ok (.iload_n 0, 1) := by decide +kernel
theorem own_d1_7 : decode jdk_42_method_139_code 7 = .ok (.invokestatic 1015, 3) := by decide +kernel
theorem own_pd13 : parseMethodDescriptor "(C)Z" = some ⟨[.char], some .boolean⟩ := by decide +kernel
theorem own_d1_10 : decode jdk_42_method_139_code 10 = .ok (.ifCond .eq 16, 3) := by decide +kernel
theorem own_d1_13 : decode jdk_42_method_139_code 13 = .ok (.new 10, 3) := by decide +kernel
theorem own_d1_16 : decode jdk_42_method_139_code 16 = .ok (.dup, 1) := by decide +kernel
theorem own_d1_17 : decode jdk_42_method_139_code 17 = .ok (.iload_n 0, 1) := by decide +kernel
theorem own_d1_18 : decode jdk_42_method_139_code 18 = .ok (.invokestatic 1018, 3) := by decide +kernel
theorem own_pd14 : parseMethodDescriptor "(C)[B" = some ⟨[.char], some (.array .byte)⟩ := by decide +kernel
theorem own_d1_21 : decode jdk_42_method_139_code 21 = .ok (.iconst 0, 1) := by decide +kernel
theorem own_d1_22 : decode jdk_42_method_139_code 22 = .ok (.invokespecial 209, 3) := by decide +kernel
theorem own_pd15 : parseMethodDescriptor "([BB)V" = some ⟨[(.array .byte), .byte], none⟩ := by decide +kernel
theorem own_d1_25 : decode jdk_42_method_139_code 25 = .ok (.areturn, 1) := by decide +kernel
theorem own_d1_26 : decode jdk_42_method_139_code 26 = .ok (.new 10, 3) := by decide +kernel
theorem own_d1_29 : decode jdk_42_method_139_code 29 = .ok (.dup, 1) := by decide +kernel
theorem own_d1_30 : decode jdk_42_method_139_code 30 = .ok (.iload_n 0, 1) := by decide +kernel
theorem own_d1_31 : decode jdk_42_method_139_code 31 = .ok (.invokestatic 1021, 3) := by decide +kernel
theorem own_d1_34 : decode jdk_42_method_139_code 34 = .ok (.iconst 1, 1) := by decide +kernel
theorem own_d1_35 : decode jdk_42_method_139_code 35 = .ok (.invokespecial 209, 3) := by decide +kernel
theorem own_d1_38 : decode jdk_42_method_139_code 38 = .ok (.areturn, 1) := by decide +kernel
theorem own_d6_0 : decode prog_50_method_1_code 0 = .ok (.aload_n 0, 1) := by decide +kernel
theorem own_d6_1 : decode prog_50_method_1_code 1 = .ok (.invokespecial 1, 3) := by decide +kernel
theorem own_pd16 : parseMethodDescriptor "()V" = some ⟨[], none⟩ := by decide +kernel
theorem own_d6_4 : decode prog_50_method_1_code 4 = .ok (.aload_n 0, 1) := by decide +kernel
theorem own_d6_5 : decode prog_50_method_1_code 5 = .ok (.aload_n 1, 1) := by decide +kernel
theorem own_d6_6 : decode prog_50_method_1_code 6 = .ok (.putfield 7, 3) := by decide +kernel
theorem own_d6_9 : decode prog_50_method_1_code 9 = .ok (.aload_n 0, 1) := by decide +kernel
theorem own_d6_10 : decode prog_50_method_1_code 10 = .ok (.iload_n 2, 1) := by decide +kernel
theorem own_d6_11 : decode prog_50_method_1_code 11 = .ok (.putfield 13, 3) := by decide +kernel
theorem own_d6_14 : decode prog_50_method_1_code 14 = .ok (.aload_n 0, 1) := by decide +kernel
theorem own_d6_15 : decode prog_50_method_1_code 15 = .ok (.iload_n 3, 1) := by decide +kernel
theorem own_d6_16 : decode prog_50_method_1_code 16 = .ok (.putfield 17, 3) := by decide +kernel
theorem own_d6_19 : decode prog_50_method_1_code 19 = .ok (.return_, 1) := by decide +kernel
theorem own_pn5 : plainName "com/example/vested_roles/vestedroles/Tokens$Token" = true := by first | (simp [plainName, overriddenIn]; done) | decide +kernel
theorem own_d8_0 : decode prog_50_method_2_code 0 = .ok (.aload_n 0, 1) := by decide +kernel
theorem own_d8_1 : decode prog_50_method_2_code 1 = .ok (.getfield 17, 3) := by decide +kernel
theorem own_d8_4 : decode prog_50_method_2_code 4 = .ok (.ifCond .ne 19, 3) := by decide +kernel
theorem own_d8_23 : decode prog_50_method_2_code 23 = .ok (.iconst 0, 1) := by decide +kernel
theorem own_d8_24 : decode prog_50_method_2_code 24 = .ok (.ireturn, 1) := by decide +kernel
theorem own_d8_7 : decode prog_50_method_2_code 7 = .ok (.aload_n 0, 1) := by decide +kernel
theorem own_d8_8 : decode prog_50_method_2_code 8 = .ok (.getfield 7, 3) := by decide +kernel
theorem own_d8_11 : decode prog_50_method_2_code 11 = .ok (.iconst 0, 1) := by decide +kernel
theorem own_d8_12 : decode prog_50_method_2_code 12 = .ok (.invokevirtual 21, 3) := by decide +kernel
theorem own_pd17 : parseMethodDescriptor "(I)C" = some ⟨[.int], some .char⟩ := by decide +kernel
theorem own_d8_15 : decode prog_50_method_2_code 15 = .ok (.iload_n 1, 1) := by decide +kernel
theorem own_d8_16 : decode prog_50_method_2_code 16 = .ok (.if_icmp .ne 7, 3) := by decide +kernel
theorem own_d8_19 : decode prog_50_method_2_code 19 = .ok (.iconst 1, 1) := by decide +kernel
theorem own_d8_20 : decode prog_50_method_2_code 20 = .ok (.goto 4, 3) := by decide +kernel
theorem own_pd18 : parseMethodDescriptor "(C)Ljava/lang/String;" = some ⟨[.char], some (.object "java/lang/String")⟩ := by decide +kernel
theorem own_pd19 : parseMethodDescriptor "(Ljava/lang/String;IZ)V" = some ⟨[(.object "java/lang/String"), .int, .boolean], none⟩ := by decide +kernel
theorem own_pd20 : parseMethodDescriptor "([C)V" = some ⟨[(.array .char)], none⟩ := by decide +kernel
theorem own_pn6 : plainName "com/example/vested_roles/vestedroles/TokenIsPinLaw" = true := by first | (simp [plainName, overriddenIn]; done) | decide +kernel
theorem own_sint {Z : State} {args : Array Value} {C n d : String} {k : Int32} (h : (Cond.eq (Term.static C n d) (Term.int k)).value args Z none Z [] = some true) (hi : (Cond.initializedFor C n d).before args Z = true ∨ ((Cond.initialized C).before args Z = true ∧ (Cond.laysStatic C n d).before args Z = true)) : Sta Z Z.heap C n d (.int k) := by
  refine Sta.start ?_ hi
  obtain ⟨x, y, h1, h2, -⟩ := cmp_v (Or.inl h)
  have h2' : some (Value.int k) = some y := h2
  cases h2'
  simp only [Cond.value, h1, h2] at h
  cases x <;> simp at h
  rw [h1, h]
def own_gc (x y : Int32) : Int32 := ((((x &&& (255 : Int32)) <<< ((0 : Int32) &&& 31)) ||| ((y &&& (255 : Int32)) <<< ((8 : Int32) &&& 31))).toUInt32.toUInt16.toUInt32.toInt32)
def own_lc (x : Int32) : Int32 := ((x &&& (255 : Int32)).toUInt32.toUInt16.toUInt32.toInt32)
def own_eqi (x y : Int32) : Int32 := if x = y then 1 else 0
theorem own_eqi_b (x y : Int32) : own_eqi x y = 0 ∨ own_eqi x y = 1 := by unfold own_eqi; split; exact Or.inr rfl; exact Or.inl rfl
def own_u16 (c : Int32) : Prop := ∃ u : UInt16, c = u.toUInt32.toInt32
theorem own_u16_c (x : Int32) : own_u16 x.toUInt32.toUInt16.toUInt32.toInt32 := ⟨_, rfl⟩
theorem own_u16_id {c : Int32} (h : own_u16 c) : c.toUInt32.toUInt16.toUInt32.toInt32 = c := by obtain ⟨u, rfl⟩ := h; simp only [UInt32.toUInt32_toInt32, UInt16.toUInt16_toUInt32]
theorem own_u16_r {c : Int32} (h : own_u16 c) : 0 ≤ c.toInt ∧ c.toInt < 65536 := by
  have q := (c_i2c c).2; rw [own_u16_id h] at q; exact q
theorem own_gc_c {c : Int32} (h : own_u16 c) : own_gc ((c >>> ((0 : Int32) &&& 31)).toInt8.toInt32) ((c >>> ((8 : Int32) &&& 31)).toInt8.toInt32) = c := by
  have r := own_u16_r h
  obtain ⟨x, hx⟩ : ∃ z, z = (c >>> ((0 : Int32) &&& 31)).toInt8.toInt32 := ⟨_, rfl⟩
  obtain ⟨y, hy⟩ : ∃ z, z = (c >>> ((8 : Int32) &&& 31)).toInt8.toInt32 := ⟨_, rfl⟩
  have x1 := c_ishr c 0 0 (by decide)
  have x2 := c_i2b (c >>> ((0 : Int32) &&& 31))
  have y1 := c_ishr c 8 8 (by decide)
  have y2 := c_i2b (c >>> ((8 : Int32) &&& 31))
  rw [← hx] at x2 ⊢
  rw [← hy] at y2 ⊢
  have x3 := c_mask x 255 8 (by decide) (by decide)
  have y3 := c_mask y 255 8 (by decide) (by decide)
  have x4 := c_ishl (x &&& 255) 0 0 (by decide)
  have y4 := c_ishl (y &&& 255) 8 8 (by decide)
  obtain ⟨a, ha⟩ : ∃ z, z = (x &&& (255 : Int32)) <<< ((0 : Int32) &&& 31) := ⟨_, rfl⟩
  obtain ⟨b, hb⟩ : ∃ z, z = (y &&& (255 : Int32)) <<< ((8 : Int32) &&& 31) := ⟨_, rfl⟩
  rw [← ha] at x4
  rw [← hb] at y4
  have ra := rng32 a
  have rb := rng32 b
  have o := c_or b a 8 (by decide) 256 (by decide) (by omega) (by omega) (by omega)
  have k := c_i2c (b ||| a)
  have ro := rng32 (b ||| a)
  show ((((x &&& (255 : Int32)) <<< ((0 : Int32) &&& 31)) ||| ((y &&& (255 : Int32)) <<< ((8 : Int32) &&& 31))).toUInt32.toUInt16.toUInt32.toInt32) = c
  rw [← ha, ← hb, Int32.or_comm]
  apply Int32.toInt_inj.mp
  omega
theorem own_gc_lt {c : Int32} (h : own_u16 c) (q : (255 : Int32) < c) : (255 : Int32) < own_gc ((c >>> ((0 : Int32) &&& 31)).toInt8.toInt32) ((c >>> ((8 : Int32) &&& 31)).toInt8.toInt32) := by rw [own_gc_c h]; exact q
theorem own_lc_c {c : Int32} (h : own_u16 c) (q : ¬ (255 : Int32) < c) : own_lc (c.toInt8.toInt32) = c := by
  have r := own_u16_r h
  rw [Int32.lt_iff_toInt_lt] at q
  have a : (255 : Int32).toInt = 255 := rfl
  have x2 := c_i2b c
  have x3 := c_mask c.toInt8.toInt32 255 8 (by decide) (by decide)
  have k := c_i2c (c.toInt8.toInt32 &&& 255)
  show (c.toInt8.toInt32 &&& (255 : Int32)).toUInt32.toUInt16.toUInt32.toInt32 = c
  apply Int32.toInt_inj.mp
  omega

def own_r13 : Room := { frames := 0, cells := 0, slots := 0, locals := 0 }
theorem own_ef13 (m : MethodId) (x0 : Int32) (x1 : Int32) (x2 : Value) (hx2 : x2.isRef = true) : entryFrame m #[(.int x0), (.int x1), x2] 3 = mkF m 0 #[.val (.int x0), .val (.int x1), .val x2] [] := by rcases ref_cases hx2 with rfl | ⟨y2, rfl⟩ <;> first | (simp [entryFrame, mkF, argsToLocals, Value.category]; done) | rfl
def own_Q13 (Z : State) (i n : Int32) (cs : Int32) (fm : Value) (h0 : Heap) (n0 : Nat) : Option Value → Heap → List Loc → Prop := fun v h L => v = some (.int i) ∧ Fr n0 L ∧ h = h0
set_option maxRecDepth 65536 in
set_option maxHeartbeats 40000000 in
theorem own_rm13 (l : Launch) (Z : State) (a0 : Array Value) (hw : ∀ d ∈ tables_1, d.before a0 Z = true) (ws : List Jvm.Cond) (i n : Int32) (cs : Int32) (fm : Value) (h0 : Heap) (n0 : Nat) (Z0 : n0 ≤ h0.size) (O0 : Old Z n0 h0) (hi0 : ¬ i < (0 : Int32)) (hin : i < n) (hcs : ¬ cs = (0 : Int32)) (hfm : fm.isRef = true) (S_cs : Sta Z Z.heap "java/lang/String" "COMPACT_STRINGS" "Z" (.int cs)) (S_fm : Sta Z Z.heap "jdk/internal/util/Preconditions" "SIOOBE_FORMATTER" "Ljava/util/function/BiFunction;" fm) (S_ad : Sta Z Z.heap "java/lang/StringUTF16" "$assertionsDisabled" "Z" (.int (1 : Int32))) (S_hb : Sta Z Z.heap "java/lang/StringUTF16" "HI_BYTE_SHIFT" "I" (.int (0 : Int32))) (S_lb : Sta Z Z.heap "java/lang/StringUTF16" "LO_BYTE_SHIFT" "I" (.int (8 : Int32))) :
    MetFree l (⟨"jdk/internal/util/Preconditions", "checkIndex", "(IILjava/util/function/BiFunction;)I"⟩ : MethodName) (head1 (Jvm.Cond.code (⟨"jdk/internal/util/Preconditions", "checkIndex", "(IILjava/util/function/BiFunction;)I"⟩ : MethodName) jdk_41_method_11_code 3 (some .int) :: ws) own_r13) (fun a_ U_ => a_ = #[(.int i), (.int n), fm] ∧ Z.Warmed39 U_.vm ∧ U_.heap = h0) (fun _ _ _ _ _ => True) (fun _ U_ o_ U'_ => ∃ v_ L_, o_ = .returned v_ ∧ own_Q13 Z i n  cs  fm  h0 n0 v_ U'_.heap L_ ∧ FrameEnd U_ o_ U'_ L_ own_r13.cells own_r13.slots) := by
  refine MetFree.of_bodySF (plainFor_of_name own_pn0) hisR ?_
  intro p e s m args below meth c s₁ Bd hml0 hP hK
  obtain ⟨rfl, hZ, hh⟩ := hP
  have hx := Bd.exec
  have hby := Bd.bytes
  have hml : c.maxLocals = 3 := hml0
  have hown : s.vm.findClass "jdk/internal/util/Preconditions" = some m.cls := findClass_of_methodNamed Bd.named
  have hnm := (name_of_methodNamed Bd.named Bd.method).1
  have X0 : Stand p l e own_r13 s m #[(.int i), (.int n), fm] below meth c s₁ [] 0 0 := Stand.of_body Bd
  have e0 : s₁.heap = h0 := by rw [← hh, Bd.state]; rfl
  have N0 := Fr.nil n0
  refine own_in (own_ef13 m i n fm hfm) ?_
  show own_Go p e below (own_K s (own_Q13 Z i n  cs  fm  h0 n0) own_r13.cells own_r13.slots) s₁ (mkF m 0 #[.val (.int i), .val (.int n), .val fm] [])
  refine own_st (T' := s₁) (g' := (mkF m 17 #[.val (.int i), .val (.int n), .val fm] [(.int i)])) (fun t k => ?_) ?_
  · show Steps p.tables e below (s₁.setTop (mkF m 0 #[.val (.int i), .val (.int n), .val fm] [])) t
    refine XS.iloadN X0.here hx rfl (hb hby own_d13_0) rfl ?_
    refine XS.ifNo X0.here hx rfl (hb hby own_d13_1) rfl ((if0 _ _).trans (flt hi0).1) ?_
    refine XS.iloadN X0.here hx rfl (hb hby own_d13_4) rfl ?_
    refine XS.iloadN X0.here hx rfl (hb hby own_d13_5) rfl ?_
    refine XS.icmpYes X0.here hx rfl (pc0 := 6) (pc' := 16) rfl (hb hby own_d13_6) rfl (tlt hin).1 (by decide) (by decide) ?_
    refine XS.iloadN X0.here hx rfl (hb hby own_d13_16) rfl ?_
    exact k
  exact own_retI X0 hx Bd (hb hby own_d13_17) e0 (⟨rfl, N0, rfl⟩) (by decide) (by decide)
def own_r12 : Room := { frames := 1, cells := 0, slots := 0, locals := 14 }
theorem own_ef12 (m : MethodId) (x0 : Int32) (x1 : Int32) : entryFrame m #[(.int x0), (.int x1)] 2 = mkF m 0 #[.val (.int x0), .val (.int x1)] [] := by first | (simp [entryFrame, mkF, argsToLocals, Value.category]; done) | rfl
def own_Q12 (Z : State) (i n : Int32) (cs : Int32) (fm : Value) (h0 : Heap) (n0 : Nat) : Option Value → Heap → List Loc → Prop := fun v h L => v = none ∧ Fr n0 L ∧ h = h0
set_option maxRecDepth 65536 in
set_option maxHeartbeats 40000000 in
theorem own_rm12 (l : Launch) (Z : State) (a0 : Array Value) (hw : ∀ d ∈ tables_1, d.before a0 Z = true) (ws : List Jvm.Cond) (i n : Int32) (cs : Int32) (fm : Value) (h0 : Heap) (n0 : Nat) (Z0 : n0 ≤ h0.size) (O0 : Old Z n0 h0) (hi0 : ¬ i < (0 : Int32)) (hin : i < n) (hcs : ¬ cs = (0 : Int32)) (hfm : fm.isRef = true) (S_cs : Sta Z Z.heap "java/lang/String" "COMPACT_STRINGS" "Z" (.int cs)) (S_fm : Sta Z Z.heap "jdk/internal/util/Preconditions" "SIOOBE_FORMATTER" "Ljava/util/function/BiFunction;" fm) (S_ad : Sta Z Z.heap "java/lang/StringUTF16" "$assertionsDisabled" "Z" (.int (1 : Int32))) (S_hb : Sta Z Z.heap "java/lang/StringUTF16" "HI_BYTE_SHIFT" "I" (.int (0 : Int32))) (S_lb : Sta Z Z.heap "java/lang/StringUTF16" "LO_BYTE_SHIFT" "I" (.int (8 : Int32))) :
    MetFree l (⟨"java/lang/String", "checkIndex", "(II)V"⟩ : MethodName) (head1 (Jvm.Cond.code (⟨"java/lang/String", "checkIndex", "(II)V"⟩ : MethodName) jdk_42_method_155_code 2 none :: ws) own_r12) (fun a_ U_ => a_ = #[(.int i), (.int n)] ∧ Z.Warmed39 U_.vm ∧ U_.heap = h0) (fun _ _ _ _ _ => True) (fun _ U_ o_ U'_ => ∃ v_ L_, o_ = .returned v_ ∧ own_Q12 Z i n  cs  fm  h0 n0 v_ U'_.heap L_ ∧ FrameEnd U_ o_ U'_ L_ own_r12.cells own_r12.slots) := by
  refine MetFree.of_bodySF (plainFor_of_name own_pn1) hisR ?_
  intro p e s m args below meth c s₁ Bd hml0 hP hK
  obtain ⟨rfl, hZ, hh⟩ := hP
  have hx := Bd.exec
  have hby := Bd.bytes
  have hml : c.maxLocals = 2 := hml0
  have hown : s.vm.findClass "java/lang/String" = some m.cls := findClass_of_methodNamed Bd.named
  have hnm := (name_of_methodNamed Bd.named Bd.method).1
  have X0 : Stand p l e own_r12 s m #[(.int i), (.int n)] below meth c s₁ [] 0 0 := Stand.of_body Bd
  have e0 : s₁.heap = h0 := by rw [← hh, Bd.state]; rfl
  have N0 := Fr.nil n0
  refine own_in (own_ef12 m i n) ?_
  show own_Go p e below (own_K s (own_Q12 Z i n  cs  fm  h0 n0) own_r12.cells own_r12.slots) s₁ (mkF m 0 #[.val (.int i), .val (.int n)] [])
  refine own_st (T' := s₁) (g' := (mkF m 2 #[.val (.int i), .val (.int n)] [(.int n), (.int i)])) (fun t k => ?_) ?_
  · show Steps p.tables e below (s₁.setTop (mkF m 0 #[.val (.int i), .val (.int n)] [])) t
    refine XS.iloadN X0.here hx rfl (hb hby own_d12_0) rfl ?_
    refine XS.iloadN X0.here hx rfl (hb hby own_d12_1) rfl ?_
    exact k
  have f1 := S_fm.ext O0.2
  obtain ⟨T2, X2, e2, st2⟩ := getS2 X0 hx hZ hown (host := "") (Or.inl (hw _ (List.mem_of_getElem? (i := 66) rfl))) Via.refl e0 f1 (g := (mkF m 2 #[.val (.int i), .val (.int n)] [(.int n), (.int i)])) rfl (hb hby own_d12_2)
  refine own_st (T' := T2) (g' := (mkF m 5 #[.val (.int i), .val (.int n)] [fm, (.int n), (.int i)])) st2 ?_
  obtain ⟨_, _, ⟨T3, L3, c3, n3⟩, -, X3, ⟨Lc3, hQ3, l3, y3, z3⟩, st3⟩ := Jvm.LawKit.callS X2 hx (y := (⟨"jdk/internal/util/Preconditions", "checkIndex", "(IILjava/util/function/BiFunction;)I"⟩ : MethodName)) hown (mvT hZ (hw _ (List.mem_of_getElem? (i := 68) rfl))) (mvT hZ (hw _ (List.mem_of_getElem? (i := 69) rfl))) (mvT hZ (hw _ (List.mem_of_getElem? (i := 67) rfl))) (mvT hZ (hw _ (List.mem_of_getElem? (i := 70) rfl))) (by decide) (backOf (W := 0) (own_rm13 l Z a0 hw [] i n cs fm h0 n0 Z0 O0 hi0 hin hcs hfm S_cs S_fm S_ad S_hb S_lb) hZ (hw _ (List.mem_of_getElem? (i := 70) rfl)) (hw _ (List.mem_of_getElem? (i := 67) rfl)) (by decide) (by decide)) (g := (mkF m 5 #[.val (.int i), .val (.int n)] [fm, (.int n), (.int i)])) rfl (by rw [hml]; rfl) (argsL := [(.int i), (.int n), fm]) (rest := []) (lenOf own_pd0 rfl) rfl (by show 2 * 0 + _ ≤ _; exact Nat.le_of_eq rfl) (hb hby own_d12_5) (fun _ _ => ⟨rfl, e2, (by decide : 0 + 0 ≤ _), (by decide : 0 + 0 ≤ _)⟩)
  dsimp only [Pt.U, Pt.locs, Pt.cells, Pt.slots] at X3 l3 y3 z3 st3 hQ3
  subst l3 y3 z3
  obtain ⟨rfl, N3q, e3⟩ := hQ3
  have N3 := Fr.app N0 N3q
  refine own_st (T' := T3) (g' := (mkF m 8 #[.val (.int i), .val (.int n)] [(.int i)])) st3 ?_
  refine own_st (T' := T3) (g' := (mkF m 9 #[.val (.int i), .val (.int n)] [])) (fun t k => ?_) ?_
  · show Steps p.tables e below (T3.setTop (mkF m 8 #[.val (.int i), .val (.int n)] [(.int i)])) t
    refine XS.pop X3.here hx rfl (hb hby own_d12_8) rfl rfl ?_
    exact k
  exact own_retV X3 hx Bd (hb hby own_d12_9) e3 (⟨rfl, N3, rfl⟩) (by decide) (by decide)
def own_r7 : Room := { frames := 1, cells := 0, slots := 0, locals := 12 }
theorem own_ef7 (m : MethodId) (x0 : Addr) : entryFrame m #[(.ref x0)] 1 = mkF m 0 #[.val (.ref x0)] [] := by first | (simp [entryFrame, mkF, argsToLocals, Value.category]; done) | rfl
def own_Q7 (Z : State) (a : Addr) (h0 : Heap) (n0 : Nat) : Option Value → Heap → List Loc → Prop := fun v h L => v = none ∧ Fr n0 L ∧ h = h0
set_option maxRecDepth 65536 in
set_option maxHeartbeats 40000000 in
theorem own_rm7 (l : Launch) (Z : State) (a0 : Array Value) (hw : ∀ d ∈ tables_1, d.before a0 Z = true) (ws : List Jvm.Cond) (a : Addr) (h0 : Heap) (n0 : Nat) (Z0 : n0 ≤ h0.size)  :
    MetFree l (⟨"java/lang/Record", "<init>", "()V"⟩ : MethodName) (head1 (Jvm.Cond.code (⟨"java/lang/Record", "<init>", "()V"⟩ : MethodName) jdk_30_method_1_code 1 none :: ws) own_r7) (fun a_ U_ => a_ = #[(.ref a)] ∧ Z.Warmed39 U_.vm ∧ U_.heap = h0) (fun _ _ _ _ _ => True) (fun _ U_ o_ U'_ => ∃ v_ L_, o_ = .returned v_ ∧ own_Q7 Z a  h0 n0 v_ U'_.heap L_ ∧ FrameEnd U_ o_ U'_ L_ own_r7.cells own_r7.slots) := by
  refine MetFree.of_bodySF (plainFor_of_name own_pn2) hisR ?_
  intro p e s m args below meth c s₁ Bd hml0 hP hK
  obtain ⟨rfl, hZ, hh⟩ := hP
  have hx := Bd.exec
  have hby := Bd.bytes
  have hml : c.maxLocals = 1 := hml0
  have hown : s.vm.findClass "java/lang/Record" = some m.cls := findClass_of_methodNamed Bd.named
  have hnm := (name_of_methodNamed Bd.named Bd.method).1
  have X0 : Stand p l e own_r7 s m #[(.ref a)] below meth c s₁ [] 0 0 := Stand.of_body Bd
  have e0 : s₁.heap = h0 := by rw [← hh, Bd.state]; rfl
  have N0 := Fr.nil n0
  refine own_in (own_ef7 m a) ?_
  show own_Go p e below (own_K s (own_Q7 Z a  h0 n0) own_r7.cells own_r7.slots) s₁ (mkF m 0 #[.val (.ref a)] [])
  refine own_st (T' := s₁) (g' := (mkF m 1 #[.val (.ref a)] [(.ref a)])) (fun t k => ?_) ?_
  · show Steps p.tables e below (s₁.setTop (mkF m 0 #[.val (.ref a)] [])) t
    refine XS.aloadN X0.here hx rfl (hb hby own_d7_0) rfl rfl ?_
    exact k
  obtain ⟨T1, X1, e1, st1⟩ := initO X0 hx hZ hown (hw _ (List.mem_of_getElem? (i := 38) rfl)) (hw _ (List.mem_of_getElem? (i := 21) rfl)) (hw _ (List.mem_of_getElem? (i := 22) rfl)) e0 (g := (mkF m 1 #[.val (.ref a)] [(.ref a)])) rfl (by rw [hml]; rfl) rfl (hb hby own_d7_1) (by decide) (W := 0) (by show 2 * 0 + _ ≤ _; exact Nat.le_of_eq rfl) (by decide)
  refine own_st (T' := T1) (g' := (mkF m 4 #[.val (.ref a)] [])) st1 ?_
  exact own_retV X1 hx Bd (hb hby own_d7_4) e1 (⟨rfl, N0, rfl⟩) (by decide) (by decide)
def own_r26_2 : Room := { frames := 0, cells := 0, slots := 0, locals := 0 }
theorem own_ef26_2 (m : MethodId) (x0 : Addr) : entryFrame m #[(.ref x0)] 1 = mkF m 0 #[.val (.ref x0)] [] := by first | (simp [entryFrame, mkF, argsToLocals, Value.category]; done) | rfl
def own_Q26_2 (Z : State) (arr : Addr) (ka : ClassId) (x0 x1 : Int32) (cs : Int32) (fm : Value) (h0 : Heap) (n0 : Nat) : Option Value → Heap → List Loc → Prop := fun v h L => v = some (.int (1 : Int32)) ∧ Fr n0 L ∧ h = h0
set_option maxRecDepth 65536 in
set_option maxHeartbeats 40000000 in
theorem own_rm26_2 (l : Launch) (Z : State) (a0 : Array Value) (hw : ∀ d ∈ tables_1, d.before a0 Z = true) (ws : List Jvm.Cond) (arr : Addr) (ka : ClassId) (x0 x1 : Int32) (cs : Int32) (fm : Value) (h0 : Heap) (n0 : Nat) (Z0 : n0 ≤ h0.size) (O0 : Old Z n0 h0) (V_a : Arv Z h0 arr ka .byte (2 : Int32) [(.int x0), (.int x1)] (.int (0 : Int32)))  (hcs : ¬ cs = (0 : Int32)) (hfm : fm.isRef = true) (S_cs : Sta Z Z.heap "java/lang/String" "COMPACT_STRINGS" "Z" (.int cs)) (S_fm : Sta Z Z.heap "jdk/internal/util/Preconditions" "SIOOBE_FORMATTER" "Ljava/util/function/BiFunction;" fm) (S_ad : Sta Z Z.heap "java/lang/StringUTF16" "$assertionsDisabled" "Z" (.int (1 : Int32))) (S_hb : Sta Z Z.heap "java/lang/StringUTF16" "HI_BYTE_SHIFT" "I" (.int (0 : Int32))) (S_lb : Sta Z Z.heap "java/lang/StringUTF16" "LO_BYTE_SHIFT" "I" (.int (8 : Int32))) :
    MetFree l (⟨"java/lang/StringUTF16", "length", "([B)I"⟩ : MethodName) (head1 (Jvm.Cond.code (⟨"java/lang/StringUTF16", "length", "([B)I"⟩ : MethodName) jdk_52_method_6_code 1 (some .int) :: ws) own_r26_2) (fun a_ U_ => a_ = #[(.ref arr)] ∧ Z.Warmed39 U_.vm ∧ U_.heap = h0) (fun _ _ _ _ _ => True) (fun _ U_ o_ U'_ => ∃ v_ L_, o_ = .returned v_ ∧ own_Q26_2 Z arr  ka  x0 x1  cs  fm  h0 n0 v_ U'_.heap L_ ∧ FrameEnd U_ o_ U'_ L_ own_r26_2.cells own_r26_2.slots) := by
  refine MetFree.of_bodySF (plainFor_of_name own_pn3) hisR ?_
  intro p e s m args below meth c s₁ Bd hml0 hP hK
  obtain ⟨rfl, hZ, hh⟩ := hP
  have hx := Bd.exec
  have hby := Bd.bytes
  have hml : c.maxLocals = 1 := hml0
  have hown : s.vm.findClass "java/lang/StringUTF16" = some m.cls := findClass_of_methodNamed Bd.named
  have hnm := (name_of_methodNamed Bd.named Bd.method).1
  have X0 : Stand p l e own_r26_2 s m #[(.ref arr)] below meth c s₁ [] 0 0 := Stand.of_body Bd
  have e0 : s₁.heap = h0 := by rw [← hh, Bd.state]; rfl
  have N0 := Fr.nil n0
  refine own_in (own_ef26_2 m arr) ?_
  show own_Go p e below (own_K s (own_Q26_2 Z arr  ka  x0 x1  cs  fm  h0 n0) own_r26_2.cells own_r26_2.slots) s₁ (mkF m 0 #[.val (.ref arr)] [])
  refine own_st (T' := s₁) (g' := (mkF m 1 #[.val (.ref arr)] [(.ref arr)])) (fun t k => ?_) ?_
  · show Steps p.tables e below (s₁.setTop (mkF m 0 #[.val (.ref arr)] [])) t
    refine XS.aloadN X0.here hx rfl (hb hby own_d26_0) rfl rfl ?_
    exact k
  obtain ⟨cl1, Ar1, q1, S1, M1, H1, G1⟩ := id V_a
  refine own_st (T' := s₁) (g' := (mkF m 4 #[.val (.ref arr)] [(.int (1 : Int32))])) (fun t k => ?_) ?_
  · show Steps p.tables e below (s₁.setTop (mkF m 1 #[.val (.ref arr)] [(.ref arr)])) t
    refine X0.arraylength hx (by rw [e0]; exact Ar1.1) (State.isArrayOf_alike hZ.alike Ar1.2.1) (g := (mkF m 1 #[.val (.ref arr)] [(.ref arr)])) rfl rfl (hb hby own_d26_1) _ ?_
    rw [len_of S1 M1]
    show Steps p.tables e below (s₁.setTop (mkF m 2 #[.val (.ref arr)] [(.int (2 : Int32))])) t
    refine XS.iconst X0.here hx rfl (hb hby own_d26_2) ?_
    refine XS.ishr X0.here hx rfl (hb hby own_d26_3) rfl ?_
    exact k
  exact own_retI X0 hx Bd (hb hby own_d26_4) e0 (⟨rfl, N0, rfl⟩) (by decide) (by decide)
def own_r26_4 : Room := { frames := 0, cells := 0, slots := 0, locals := 0 }
theorem own_ef26_4 (m : MethodId) (x0 : Addr) : entryFrame m #[(.ref x0)] 1 = mkF m 0 #[.val (.ref x0)] [] := by first | (simp [entryFrame, mkF, argsToLocals, Value.category]; done) | rfl
def own_Q26_4 (Z : State) (arr : Addr) (ka : ClassId) (x0 x1 x2 x3 : Int32) (cs : Int32) (fm : Value) (h0 : Heap) (n0 : Nat) : Option Value → Heap → List Loc → Prop := fun v h L => v = some (.int (2 : Int32)) ∧ Fr n0 L ∧ h = h0
set_option maxRecDepth 65536 in
set_option maxHeartbeats 40000000 in
theorem own_rm26_4 (l : Launch) (Z : State) (a0 : Array Value) (hw : ∀ d ∈ tables_1, d.before a0 Z = true) (ws : List Jvm.Cond) (arr : Addr) (ka : ClassId) (x0 x1 x2 x3 : Int32) (cs : Int32) (fm : Value) (h0 : Heap) (n0 : Nat) (Z0 : n0 ≤ h0.size) (O0 : Old Z n0 h0) (V_a : Arv Z h0 arr ka .byte (4 : Int32) [(.int x0), (.int x1), (.int x2), (.int x3)] (.int (0 : Int32)))  (hcs : ¬ cs = (0 : Int32)) (hfm : fm.isRef = true) (S_cs : Sta Z Z.heap "java/lang/String" "COMPACT_STRINGS" "Z" (.int cs)) (S_fm : Sta Z Z.heap "jdk/internal/util/Preconditions" "SIOOBE_FORMATTER" "Ljava/util/function/BiFunction;" fm) (S_ad : Sta Z Z.heap "java/lang/StringUTF16" "$assertionsDisabled" "Z" (.int (1 : Int32))) (S_hb : Sta Z Z.heap "java/lang/StringUTF16" "HI_BYTE_SHIFT" "I" (.int (0 : Int32))) (S_lb : Sta Z Z.heap "java/lang/StringUTF16" "LO_BYTE_SHIFT" "I" (.int (8 : Int32))) :
    MetFree l (⟨"java/lang/StringUTF16", "length", "([B)I"⟩ : MethodName) (head1 (Jvm.Cond.code (⟨"java/lang/StringUTF16", "length", "([B)I"⟩ : MethodName) jdk_52_method_6_code 1 (some .int) :: ws) own_r26_4) (fun a_ U_ => a_ = #[(.ref arr)] ∧ Z.Warmed39 U_.vm ∧ U_.heap = h0) (fun _ _ _ _ _ => True) (fun _ U_ o_ U'_ => ∃ v_ L_, o_ = .returned v_ ∧ own_Q26_4 Z arr  ka  x0 x1 x2 x3  cs  fm  h0 n0 v_ U'_.heap L_ ∧ FrameEnd U_ o_ U'_ L_ own_r26_4.cells own_r26_4.slots) := by
  refine MetFree.of_bodySF (plainFor_of_name own_pn3) hisR ?_
  intro p e s m args below meth c s₁ Bd hml0 hP hK
  obtain ⟨rfl, hZ, hh⟩ := hP
  have hx := Bd.exec
  have hby := Bd.bytes
  have hml : c.maxLocals = 1 := hml0
  have hown : s.vm.findClass "java/lang/StringUTF16" = some m.cls := findClass_of_methodNamed Bd.named
  have hnm := (name_of_methodNamed Bd.named Bd.method).1
  have X0 : Stand p l e own_r26_4 s m #[(.ref arr)] below meth c s₁ [] 0 0 := Stand.of_body Bd
  have e0 : s₁.heap = h0 := by rw [← hh, Bd.state]; rfl
  have N0 := Fr.nil n0
  refine own_in (own_ef26_4 m arr) ?_
  show own_Go p e below (own_K s (own_Q26_4 Z arr  ka  x0 x1 x2 x3  cs  fm  h0 n0) own_r26_4.cells own_r26_4.slots) s₁ (mkF m 0 #[.val (.ref arr)] [])
  refine own_st (T' := s₁) (g' := (mkF m 1 #[.val (.ref arr)] [(.ref arr)])) (fun t k => ?_) ?_
  · show Steps p.tables e below (s₁.setTop (mkF m 0 #[.val (.ref arr)] [])) t
    refine XS.aloadN X0.here hx rfl (hb hby own_d26_0) rfl rfl ?_
    exact k
  obtain ⟨cl1, Ar1, q1, S1, M1, H1, G1⟩ := id V_a
  refine own_st (T' := s₁) (g' := (mkF m 4 #[.val (.ref arr)] [(.int (2 : Int32))])) (fun t k => ?_) ?_
  · show Steps p.tables e below (s₁.setTop (mkF m 1 #[.val (.ref arr)] [(.ref arr)])) t
    refine X0.arraylength hx (by rw [e0]; exact Ar1.1) (State.isArrayOf_alike hZ.alike Ar1.2.1) (g := (mkF m 1 #[.val (.ref arr)] [(.ref arr)])) rfl rfl (hb hby own_d26_1) _ ?_
    rw [len_of S1 M1]
    show Steps p.tables e below (s₁.setTop (mkF m 2 #[.val (.ref arr)] [(.int (4 : Int32))])) t
    refine XS.iconst X0.here hx rfl (hb hby own_d26_2) ?_
    refine XS.ishr X0.here hx rfl (hb hby own_d26_3) rfl ?_
    exact k
  exact own_retI X0 hx Bd (hb hby own_d26_4) e0 (⟨rfl, N0, rfl⟩) (by decide) (by decide)
def own_r25_2_0 : Room := { frames := 2, cells := 0, slots := 0, locals := 27 }
theorem own_ef25_2_0 (m : MethodId) (x1 : Addr) : entryFrame m #[(.int (0 : Int32)), (.ref x1)] 2 = mkF m 0 #[.val (.int (0 : Int32)), .val (.ref x1)] [] := by first | (simp [entryFrame, mkF, argsToLocals, Value.category]; done) | rfl
def own_Q25_2_0 (Z : State) (arr : Addr) (ka : ClassId) (x0 x1 : Int32) (cs : Int32) (fm : Value) (h0 : Heap) (n0 : Nat) : Option Value → Heap → List Loc → Prop := fun v h L => v = none ∧ Fr n0 L ∧ h = h0
set_option maxRecDepth 65536 in
set_option maxHeartbeats 40000000 in
theorem own_rm25_2_0 (l : Launch) (Z : State) (a0 : Array Value) (hw : ∀ d ∈ tables_1, d.before a0 Z = true) (ws : List Jvm.Cond) (arr : Addr) (ka : ClassId) (x0 x1 : Int32) (cs : Int32) (fm : Value) (h0 : Heap) (n0 : Nat) (Z0 : n0 ≤ h0.size) (O0 : Old Z n0 h0) (V_a : Arv Z h0 arr ka .byte (2 : Int32) [(.int x0), (.int x1)] (.int (0 : Int32)))  (hcs : ¬ cs = (0 : Int32)) (hfm : fm.isRef = true) (S_cs : Sta Z Z.heap "java/lang/String" "COMPACT_STRINGS" "Z" (.int cs)) (S_fm : Sta Z Z.heap "jdk/internal/util/Preconditions" "SIOOBE_FORMATTER" "Ljava/util/function/BiFunction;" fm) (S_ad : Sta Z Z.heap "java/lang/StringUTF16" "$assertionsDisabled" "Z" (.int (1 : Int32))) (S_hb : Sta Z Z.heap "java/lang/StringUTF16" "HI_BYTE_SHIFT" "I" (.int (0 : Int32))) (S_lb : Sta Z Z.heap "java/lang/StringUTF16" "LO_BYTE_SHIFT" "I" (.int (8 : Int32))) :
    MetFree l (⟨"java/lang/StringUTF16", "checkIndex", "(I[B)V"⟩ : MethodName) (head1 (Jvm.Cond.code (⟨"java/lang/StringUTF16", "checkIndex", "(I[B)V"⟩ : MethodName) jdk_52_method_91_code 2 none :: ws) own_r25_2_0) (fun a_ U_ => a_ = #[(.int (0 : Int32)), (.ref arr)] ∧ Z.Warmed39 U_.vm ∧ U_.heap = h0) (fun _ _ _ _ _ => True) (fun _ U_ o_ U'_ => ∃ v_ L_, o_ = .returned v_ ∧ own_Q25_2_0 Z arr  ka  x0 x1  cs  fm  h0 n0 v_ U'_.heap L_ ∧ FrameEnd U_ o_ U'_ L_ own_r25_2_0.cells own_r25_2_0.slots) := by
  refine MetFree.of_bodySF (plainFor_of_name own_pn3) hisR ?_
  intro p e s m args below meth c s₁ Bd hml0 hP hK
  obtain ⟨rfl, hZ, hh⟩ := hP
  have hx := Bd.exec
  have hby := Bd.bytes
  have hml : c.maxLocals = 2 := hml0
  have hown : s.vm.findClass "java/lang/StringUTF16" = some m.cls := findClass_of_methodNamed Bd.named
  have hnm := (name_of_methodNamed Bd.named Bd.method).1
  have X0 : Stand p l e own_r25_2_0 s m #[(.int (0 : Int32)), (.ref arr)] below meth c s₁ [] 0 0 := Stand.of_body Bd
  have e0 : s₁.heap = h0 := by rw [← hh, Bd.state]; rfl
  have N0 := Fr.nil n0
  refine own_in (own_ef25_2_0 m arr) ?_
  show own_Go p e below (own_K s (own_Q25_2_0 Z arr  ka  x0 x1  cs  fm  h0 n0) own_r25_2_0.cells own_r25_2_0.slots) s₁ (mkF m 0 #[.val (.int (0 : Int32)), .val (.ref arr)] [])
  refine own_st (T' := s₁) (g' := (mkF m 2 #[.val (.int (0 : Int32)), .val (.ref arr)] [(.ref arr), (.int (0 : Int32))])) (fun t k => ?_) ?_
  · show Steps p.tables e below (s₁.setTop (mkF m 0 #[.val (.int (0 : Int32)), .val (.ref arr)] [])) t
    refine XS.iloadN X0.here hx rfl (hb hby own_d25_0) rfl ?_
    refine XS.aloadN X0.here hx rfl (hb hby own_d25_1) rfl rfl ?_
    exact k
  obtain ⟨_, _, ⟨T1, L1, c1, n1⟩, -, X1, ⟨Lc1, hQ1, l1, y1, z1⟩, st1⟩ := Jvm.LawKit.callS X0 hx (y := (⟨"java/lang/StringUTF16", "length", "([B)I"⟩ : MethodName)) hown (mvT hZ (hw _ (List.mem_of_getElem? (i := 114) rfl))) (mvT hZ (hw _ (List.mem_of_getElem? (i := 115) rfl))) (mvT hZ (hw _ (List.mem_of_getElem? (i := 81) rfl))) (mvT hZ (hw _ (List.mem_of_getElem? (i := 116) rfl))) (by decide) (backOf (W := 1) (own_rm26_2 l Z a0 hw [] arr ka x0 x1 cs fm h0 n0 Z0 O0 V_a hcs hfm S_cs S_fm S_ad S_hb S_lb) hZ (hw _ (List.mem_of_getElem? (i := 116) rfl)) (hw _ (List.mem_of_getElem? (i := 81) rfl)) (by decide) (by decide)) (g := (mkF m 2 #[.val (.int (0 : Int32)), .val (.ref arr)] [(.ref arr), (.int (0 : Int32))])) rfl (by rw [hml]; rfl) (argsL := [(.ref arr)]) (rest := [(.int (0 : Int32))]) (lenOf own_pd1 rfl) rfl (by show 2 * 0 + _ ≤ _; exact Nat.le_of_eq rfl) (hb hby own_d25_2) (fun _ _ => ⟨rfl, e0, (by decide : 0 + 0 ≤ _), (by decide : 0 + 0 ≤ _)⟩)
  dsimp only [Pt.U, Pt.locs, Pt.cells, Pt.slots] at X1 l1 y1 z1 st1 hQ1
  subst l1 y1 z1
  obtain ⟨rfl, N1q, e1⟩ := hQ1
  have N1 := Fr.app N0 N1q
  refine own_st (T' := T1) (g' := (mkF m 5 #[.val (.int (0 : Int32)), .val (.ref arr)] [(.int (1 : Int32)), (.int (0 : Int32))])) st1 ?_
  obtain ⟨_, _, ⟨T2, L2, c2, n2⟩, -, X2, ⟨Lc2, hQ2, l2, y2, z2⟩, st2⟩ := Jvm.LawKit.callS X1 hx (y := (⟨"java/lang/String", "checkIndex", "(II)V"⟩ : MethodName)) hown (mvT hZ (hw _ (List.mem_of_getElem? (i := 117) rfl))) (mvT hZ (hw _ (List.mem_of_getElem? (i := 64) rfl))) (mvT hZ (hw _ (List.mem_of_getElem? (i := 3) rfl))) (mvT hZ (hw _ (List.mem_of_getElem? (i := 65) rfl))) (by decide) (backOf (W := 0) (own_rm12 l Z a0 hw [] (0 : Int32) (1 : Int32) cs fm h0 n0 Z0 O0 (by decide) (by decide) hcs hfm S_cs S_fm S_ad S_hb S_lb) hZ (hw _ (List.mem_of_getElem? (i := 65) rfl)) (hw _ (List.mem_of_getElem? (i := 3) rfl)) (by decide) (by decide)) (g := (mkF m 5 #[.val (.int (0 : Int32)), .val (.ref arr)] [(.int (1 : Int32)), (.int (0 : Int32))])) rfl (by rw [hml]; rfl) (argsL := [(.int (0 : Int32)), (.int (1 : Int32))]) (rest := []) (lenOf own_pd2 rfl) rfl (by show 2 * 0 + _ ≤ _; exact Nat.le_of_eq rfl) (hb hby own_d25_5) (fun _ _ => ⟨rfl, e1, (by decide : 0 + 0 ≤ _), (by decide : 0 + 0 ≤ _)⟩)
  dsimp only [Pt.U, Pt.locs, Pt.cells, Pt.slots] at X2 l2 y2 z2 st2 hQ2
  subst l2 y2 z2
  obtain ⟨rfl, N2q, e2⟩ := hQ2
  have N2 := Fr.app N1 N2q
  refine own_st (T' := T2) (g' := (mkF m 8 #[.val (.int (0 : Int32)), .val (.ref arr)] [])) st2 ?_
  exact own_retV X2 hx Bd (hb hby own_d25_8) e2 (⟨rfl, N2, rfl⟩) (by decide) (by decide)
def own_r25_4_0 : Room := { frames := 2, cells := 0, slots := 0, locals := 27 }
theorem own_ef25_4_0 (m : MethodId) (x1 : Addr) : entryFrame m #[(.int (0 : Int32)), (.ref x1)] 2 = mkF m 0 #[.val (.int (0 : Int32)), .val (.ref x1)] [] := by first | (simp [entryFrame, mkF, argsToLocals, Value.category]; done) | rfl
def own_Q25_4_0 (Z : State) (arr : Addr) (ka : ClassId) (x0 x1 x2 x3 : Int32) (cs : Int32) (fm : Value) (h0 : Heap) (n0 : Nat) : Option Value → Heap → List Loc → Prop := fun v h L => v = none ∧ Fr n0 L ∧ h = h0
set_option maxRecDepth 65536 in
set_option maxHeartbeats 40000000 in
theorem own_rm25_4_0 (l : Launch) (Z : State) (a0 : Array Value) (hw : ∀ d ∈ tables_1, d.before a0 Z = true) (ws : List Jvm.Cond) (arr : Addr) (ka : ClassId) (x0 x1 x2 x3 : Int32) (cs : Int32) (fm : Value) (h0 : Heap) (n0 : Nat) (Z0 : n0 ≤ h0.size) (O0 : Old Z n0 h0) (V_a : Arv Z h0 arr ka .byte (4 : Int32) [(.int x0), (.int x1), (.int x2), (.int x3)] (.int (0 : Int32)))  (hcs : ¬ cs = (0 : Int32)) (hfm : fm.isRef = true) (S_cs : Sta Z Z.heap "java/lang/String" "COMPACT_STRINGS" "Z" (.int cs)) (S_fm : Sta Z Z.heap "jdk/internal/util/Preconditions" "SIOOBE_FORMATTER" "Ljava/util/function/BiFunction;" fm) (S_ad : Sta Z Z.heap "java/lang/StringUTF16" "$assertionsDisabled" "Z" (.int (1 : Int32))) (S_hb : Sta Z Z.heap "java/lang/StringUTF16" "HI_BYTE_SHIFT" "I" (.int (0 : Int32))) (S_lb : Sta Z Z.heap "java/lang/StringUTF16" "LO_BYTE_SHIFT" "I" (.int (8 : Int32))) :
    MetFree l (⟨"java/lang/StringUTF16", "checkIndex", "(I[B)V"⟩ : MethodName) (head1 (Jvm.Cond.code (⟨"java/lang/StringUTF16", "checkIndex", "(I[B)V"⟩ : MethodName) jdk_52_method_91_code 2 none :: ws) own_r25_4_0) (fun a_ U_ => a_ = #[(.int (0 : Int32)), (.ref arr)] ∧ Z.Warmed39 U_.vm ∧ U_.heap = h0) (fun _ _ _ _ _ => True) (fun _ U_ o_ U'_ => ∃ v_ L_, o_ = .returned v_ ∧ own_Q25_4_0 Z arr  ka  x0 x1 x2 x3  cs  fm  h0 n0 v_ U'_.heap L_ ∧ FrameEnd U_ o_ U'_ L_ own_r25_4_0.cells own_r25_4_0.slots) := by
  refine MetFree.of_bodySF (plainFor_of_name own_pn3) hisR ?_
  intro p e s m args below meth c s₁ Bd hml0 hP hK
  obtain ⟨rfl, hZ, hh⟩ := hP
  have hx := Bd.exec
  have hby := Bd.bytes
  have hml : c.maxLocals = 2 := hml0
  have hown : s.vm.findClass "java/lang/StringUTF16" = some m.cls := findClass_of_methodNamed Bd.named
  have hnm := (name_of_methodNamed Bd.named Bd.method).1
  have X0 : Stand p l e own_r25_4_0 s m #[(.int (0 : Int32)), (.ref arr)] below meth c s₁ [] 0 0 := Stand.of_body Bd
  have e0 : s₁.heap = h0 := by rw [← hh, Bd.state]; rfl
  have N0 := Fr.nil n0
  refine own_in (own_ef25_4_0 m arr) ?_
  show own_Go p e below (own_K s (own_Q25_4_0 Z arr  ka  x0 x1 x2 x3  cs  fm  h0 n0) own_r25_4_0.cells own_r25_4_0.slots) s₁ (mkF m 0 #[.val (.int (0 : Int32)), .val (.ref arr)] [])
  refine own_st (T' := s₁) (g' := (mkF m 2 #[.val (.int (0 : Int32)), .val (.ref arr)] [(.ref arr), (.int (0 : Int32))])) (fun t k => ?_) ?_
  · show Steps p.tables e below (s₁.setTop (mkF m 0 #[.val (.int (0 : Int32)), .val (.ref arr)] [])) t
    refine XS.iloadN X0.here hx rfl (hb hby own_d25_0) rfl ?_
    refine XS.aloadN X0.here hx rfl (hb hby own_d25_1) rfl rfl ?_
    exact k
  obtain ⟨_, _, ⟨T1, L1, c1, n1⟩, -, X1, ⟨Lc1, hQ1, l1, y1, z1⟩, st1⟩ := Jvm.LawKit.callS X0 hx (y := (⟨"java/lang/StringUTF16", "length", "([B)I"⟩ : MethodName)) hown (mvT hZ (hw _ (List.mem_of_getElem? (i := 114) rfl))) (mvT hZ (hw _ (List.mem_of_getElem? (i := 115) rfl))) (mvT hZ (hw _ (List.mem_of_getElem? (i := 81) rfl))) (mvT hZ (hw _ (List.mem_of_getElem? (i := 116) rfl))) (by decide) (backOf (W := 1) (own_rm26_4 l Z a0 hw [] arr ka x0 x1 x2 x3 cs fm h0 n0 Z0 O0 V_a hcs hfm S_cs S_fm S_ad S_hb S_lb) hZ (hw _ (List.mem_of_getElem? (i := 116) rfl)) (hw _ (List.mem_of_getElem? (i := 81) rfl)) (by decide) (by decide)) (g := (mkF m 2 #[.val (.int (0 : Int32)), .val (.ref arr)] [(.ref arr), (.int (0 : Int32))])) rfl (by rw [hml]; rfl) (argsL := [(.ref arr)]) (rest := [(.int (0 : Int32))]) (lenOf own_pd1 rfl) rfl (by show 2 * 0 + _ ≤ _; exact Nat.le_of_eq rfl) (hb hby own_d25_2) (fun _ _ => ⟨rfl, e0, (by decide : 0 + 0 ≤ _), (by decide : 0 + 0 ≤ _)⟩)
  dsimp only [Pt.U, Pt.locs, Pt.cells, Pt.slots] at X1 l1 y1 z1 st1 hQ1
  subst l1 y1 z1
  obtain ⟨rfl, N1q, e1⟩ := hQ1
  have N1 := Fr.app N0 N1q
  refine own_st (T' := T1) (g' := (mkF m 5 #[.val (.int (0 : Int32)), .val (.ref arr)] [(.int (2 : Int32)), (.int (0 : Int32))])) st1 ?_
  obtain ⟨_, _, ⟨T2, L2, c2, n2⟩, -, X2, ⟨Lc2, hQ2, l2, y2, z2⟩, st2⟩ := Jvm.LawKit.callS X1 hx (y := (⟨"java/lang/String", "checkIndex", "(II)V"⟩ : MethodName)) hown (mvT hZ (hw _ (List.mem_of_getElem? (i := 117) rfl))) (mvT hZ (hw _ (List.mem_of_getElem? (i := 64) rfl))) (mvT hZ (hw _ (List.mem_of_getElem? (i := 3) rfl))) (mvT hZ (hw _ (List.mem_of_getElem? (i := 65) rfl))) (by decide) (backOf (W := 0) (own_rm12 l Z a0 hw [] (0 : Int32) (2 : Int32) cs fm h0 n0 Z0 O0 (by decide) (by decide) hcs hfm S_cs S_fm S_ad S_hb S_lb) hZ (hw _ (List.mem_of_getElem? (i := 65) rfl)) (hw _ (List.mem_of_getElem? (i := 3) rfl)) (by decide) (by decide)) (g := (mkF m 5 #[.val (.int (0 : Int32)), .val (.ref arr)] [(.int (2 : Int32)), (.int (0 : Int32))])) rfl (by rw [hml]; rfl) (argsL := [(.int (0 : Int32)), (.int (2 : Int32))]) (rest := []) (lenOf own_pd2 rfl) rfl (by show 2 * 0 + _ ≤ _; exact Nat.le_of_eq rfl) (hb hby own_d25_5) (fun _ _ => ⟨rfl, e1, (by decide : 0 + 0 ≤ _), (by decide : 0 + 0 ≤ _)⟩)
  dsimp only [Pt.U, Pt.locs, Pt.cells, Pt.slots] at X2 l2 y2 z2 st2 hQ2
  subst l2 y2 z2
  obtain ⟨rfl, N2q, e2⟩ := hQ2
  have N2 := Fr.app N1 N2q
  refine own_st (T' := T2) (g' := (mkF m 8 #[.val (.int (0 : Int32)), .val (.ref arr)] [])) st2 ?_
  exact own_retV X2 hx Bd (hb hby own_d25_8) e2 (⟨rfl, N2, rfl⟩) (by decide) (by decide)
def own_r23_2_0 : Room := { frames := 0, cells := 0, slots := 0, locals := 0 }
theorem own_ef23_2_0 (m : MethodId) (x0 : Addr) : entryFrame m #[(.ref x0), (.int (0 : Int32))] 2 = mkF m 0 #[.val (.ref x0), .val (.int (0 : Int32))] [] := by first | (simp [entryFrame, mkF, argsToLocals, Value.category]; done) | rfl
def own_Q23_2_0 (Z : State) (arr : Addr) (ka : ClassId) (x0 x1 : Int32) (cs : Int32) (fm : Value) (h0 : Heap) (n0 : Nat) : Option Value → Heap → List Loc → Prop := fun v h L => v = some (.int (own_gc x0 x1)) ∧ Fr n0 L ∧ h = h0
set_option maxRecDepth 65536 in
set_option maxHeartbeats 40000000 in
theorem own_rm23_2_0 (l : Launch) (Z : State) (a0 : Array Value) (hw : ∀ d ∈ tables_1, d.before a0 Z = true) (ws : List Jvm.Cond) (arr : Addr) (ka : ClassId) (x0 x1 : Int32) (cs : Int32) (fm : Value) (h0 : Heap) (n0 : Nat) (Z0 : n0 ≤ h0.size) (O0 : Old Z n0 h0) (V_a : Arv Z h0 arr ka .byte (2 : Int32) [(.int x0), (.int x1)] (.int (0 : Int32)))  (hcs : ¬ cs = (0 : Int32)) (hfm : fm.isRef = true) (S_cs : Sta Z Z.heap "java/lang/String" "COMPACT_STRINGS" "Z" (.int cs)) (S_fm : Sta Z Z.heap "jdk/internal/util/Preconditions" "SIOOBE_FORMATTER" "Ljava/util/function/BiFunction;" fm) (S_ad : Sta Z Z.heap "java/lang/StringUTF16" "$assertionsDisabled" "Z" (.int (1 : Int32))) (S_hb : Sta Z Z.heap "java/lang/StringUTF16" "HI_BYTE_SHIFT" "I" (.int (0 : Int32))) (S_lb : Sta Z Z.heap "java/lang/StringUTF16" "LO_BYTE_SHIFT" "I" (.int (8 : Int32))) :
    MetFree l (⟨"java/lang/StringUTF16", "getChar", "([BI)C"⟩ : MethodName) (head1 (Jvm.Cond.code (⟨"java/lang/StringUTF16", "getChar", "([BI)C"⟩ : MethodName) jdk_52_method_5_code 2 (some .char) :: ws) own_r23_2_0) (fun a_ U_ => a_ = #[(.ref arr), (.int (0 : Int32))] ∧ Z.Warmed39 U_.vm ∧ U_.heap = h0) (fun _ _ _ _ _ => True) (fun _ U_ o_ U'_ => ∃ v_ L_, o_ = .returned v_ ∧ own_Q23_2_0 Z arr  ka  x0 x1  cs  fm  h0 n0 v_ U'_.heap L_ ∧ FrameEnd U_ o_ U'_ L_ own_r23_2_0.cells own_r23_2_0.slots) := by
  refine MetFree.of_bodySF (plainFor_of_name own_pn3) hisR ?_
  intro p e s m args below meth c s₁ Bd hml0 hP hK
  obtain ⟨rfl, hZ, hh⟩ := hP
  have hx := Bd.exec
  have hby := Bd.bytes
  have hml : c.maxLocals = 2 := hml0
  have hown : s.vm.findClass "java/lang/StringUTF16" = some m.cls := findClass_of_methodNamed Bd.named
  have hnm := (name_of_methodNamed Bd.named Bd.method).1
  have X0 : Stand p l e own_r23_2_0 s m #[(.ref arr), (.int (0 : Int32))] below meth c s₁ [] 0 0 := Stand.of_body Bd
  have e0 : s₁.heap = h0 := by rw [← hh, Bd.state]; rfl
  have N0 := Fr.nil n0
  refine own_in (own_ef23_2_0 m arr) ?_
  show own_Go p e below (own_K s (own_Q23_2_0 Z arr  ka  x0 x1  cs  fm  h0 n0) own_r23_2_0.cells own_r23_2_0.slots) s₁ (mkF m 0 #[.val (.ref arr), .val (.int (0 : Int32))] [])
  have f1 := S_ad.ext O0.2
  obtain ⟨T2, X2, e2, st2⟩ := getS2 X0 hx hZ hown (host := "") (Or.inl (hw _ (List.mem_of_getElem? (i := 102) rfl))) Via.refl e0 f1 (g := (mkF m 0 #[.val (.ref arr), .val (.int (0 : Int32))] [])) rfl (hb hby own_d23_0)
  refine own_st (T' := T2) (g' := (mkF m 3 #[.val (.ref arr), .val (.int (0 : Int32))] [(.int (1 : Int32))])) st2 ?_
  refine own_st (T' := T2) (g' := (mkF m 37 #[.val (.ref arr), .val (.int (1 : Int32))] [(.int (0 : Int32)), (.ref arr)])) (fun t k => ?_) ?_
  · show Steps p.tables e below (T2.setTop (mkF m 3 #[.val (.ref arr), .val (.int (0 : Int32))] [(.int (1 : Int32))])) t
    refine XS.ifYes X2.here hx rfl (pc0 := 3) (pc' := 28) rfl (hb hby own_d23_3) rfl ((if0 _ _).trans (feq (by decide : ¬ ((1 : Int32) = (0 : Int32)))).2) (by decide) (by decide) ?_
    refine XS.iloadN X2.here hx rfl (hb hby own_d23_28) rfl ?_
    refine XS.iconst X2.here hx rfl (hb hby own_d23_29) ?_
    refine XS.ishl X2.here hx rfl (hb hby own_d23_30) rfl ?_
    refine XS.istoreN X2.here hx rfl (hb hby own_d23_31) rfl (l' := #[.val (.ref arr), .val (.int (0 : Int32))]) rfl ?_
    refine XS.aloadN X2.here hx rfl (hb hby own_d23_32) rfl rfl ?_
    refine XS.iloadN X2.here hx rfl (hb hby own_d23_33) rfl ?_
    refine XS.iinc X2.here hx rfl (hb hby own_d23_34) rfl (l' := #[.val (.ref arr), .val (.int (1 : Int32))]) rfl ?_
    exact k
  obtain ⟨cl3, Ar3, q3, S3, M3, H3, G3⟩ := id V_a
  refine own_st (T' := T2) (g' := (mkF m 42 #[.val (.ref arr), .val (.int (1 : Int32))] [(.int (x0 &&& (255 : Int32)))])) (fun t k => ?_) ?_
  · show Steps p.tables e below (T2.setTop (mkF m 37 #[.val (.ref arr), .val (.int (1 : Int32))] [(.int (0 : Int32)), (.ref arr)])) t
    refine X2.baloadBytes hx (j := (0 : Int32)) (v := (.int x0)) (by rw [e2]; exact Ar3.1) (State.isArrayOf_alike hZ.alike Ar3.2.1) Ar3.2.2 (inb_of S3 ⟨by decide, by decide⟩) (Has.at H3 (inb_of S3 ⟨by decide, by decide⟩) rfl) (g := (mkF m 37 #[.val (.ref arr), .val (.int (1 : Int32))] [(.int (0 : Int32)), (.ref arr)])) rfl rfl (hb hby own_d23_37) _ ?_
    show Steps p.tables e below (T2.setTop (mkF m 38 #[.val (.ref arr), .val (.int (1 : Int32))] [(.int x0)])) t
    refine XS.sipush X2.here hx rfl (hb hby own_d23_38) ?_
    refine XS.iand X2.here hx rfl (hb hby own_d23_41) rfl ?_
    exact k
  have f4 := S_hb.ext O0.2
  obtain ⟨T5, X5, e5, st5⟩ := getS2 X2 hx hZ hown (host := "") (Or.inl (hw _ (List.mem_of_getElem? (i := 103) rfl))) Via.refl e2 f4 (g := (mkF m 42 #[.val (.ref arr), .val (.int (1 : Int32))] [(.int (x0 &&& (255 : Int32)))])) rfl (hb hby own_d23_42)
  refine own_st (T' := T5) (g' := (mkF m 45 #[.val (.ref arr), .val (.int (1 : Int32))] [(.int (0 : Int32)), (.int (x0 &&& (255 : Int32)))])) st5 ?_
  refine own_st (T' := T5) (g' := (mkF m 48 #[.val (.ref arr), .val (.int (1 : Int32))] [(.int (1 : Int32)), (.ref arr), (.int ((x0 &&& (255 : Int32)) <<< ((0 : Int32) &&& 31)))])) (fun t k => ?_) ?_
  · show Steps p.tables e below (T5.setTop (mkF m 45 #[.val (.ref arr), .val (.int (1 : Int32))] [(.int (0 : Int32)), (.int (x0 &&& (255 : Int32)))])) t
    refine XS.ishl X5.here hx rfl (hb hby own_d23_45) rfl ?_
    refine XS.aloadN X5.here hx rfl (hb hby own_d23_46) rfl rfl ?_
    refine XS.iloadN X5.here hx rfl (hb hby own_d23_47) rfl ?_
    exact k
  obtain ⟨cl6, Ar6, q6, S6, M6, H6, G6⟩ := id V_a
  refine own_st (T' := T5) (g' := (mkF m 53 #[.val (.ref arr), .val (.int (1 : Int32))] [(.int (x1 &&& (255 : Int32))), (.int ((x0 &&& (255 : Int32)) <<< ((0 : Int32) &&& 31)))])) (fun t k => ?_) ?_
  · show Steps p.tables e below (T5.setTop (mkF m 48 #[.val (.ref arr), .val (.int (1 : Int32))] [(.int (1 : Int32)), (.ref arr), (.int ((x0 &&& (255 : Int32)) <<< ((0 : Int32) &&& 31)))])) t
    refine X5.baloadBytes hx (j := (1 : Int32)) (v := (.int x1)) (by rw [e5]; exact Ar6.1) (State.isArrayOf_alike hZ.alike Ar6.2.1) Ar6.2.2 (inb_of S6 ⟨by decide, by decide⟩) (Has.at H6 (inb_of S6 ⟨by decide, by decide⟩) rfl) (g := (mkF m 48 #[.val (.ref arr), .val (.int (1 : Int32))] [(.int (1 : Int32)), (.ref arr), (.int ((x0 &&& (255 : Int32)) <<< ((0 : Int32) &&& 31)))])) rfl rfl (hb hby own_d23_48) _ ?_
    show Steps p.tables e below (T5.setTop (mkF m 49 #[.val (.ref arr), .val (.int (1 : Int32))] [(.int x1), (.int ((x0 &&& (255 : Int32)) <<< ((0 : Int32) &&& 31)))])) t
    refine XS.sipush X5.here hx rfl (hb hby own_d23_49) ?_
    refine XS.iand X5.here hx rfl (hb hby own_d23_52) rfl ?_
    exact k
  have f7 := S_lb.ext O0.2
  obtain ⟨T8, X8, e8, st8⟩ := getS2 X5 hx hZ hown (host := "") (Or.inl (hw _ (List.mem_of_getElem? (i := 104) rfl))) Via.refl e5 f7 (g := (mkF m 53 #[.val (.ref arr), .val (.int (1 : Int32))] [(.int (x1 &&& (255 : Int32))), (.int ((x0 &&& (255 : Int32)) <<< ((0 : Int32) &&& 31)))])) rfl (hb hby own_d23_53)
  refine own_st (T' := T8) (g' := (mkF m 56 #[.val (.ref arr), .val (.int (1 : Int32))] [(.int (8 : Int32)), (.int (x1 &&& (255 : Int32))), (.int ((x0 &&& (255 : Int32)) <<< ((0 : Int32) &&& 31)))])) st8 ?_
  refine own_st (T' := T8) (g' := (mkF m 59 #[.val (.ref arr), .val (.int (1 : Int32))] [(.int ((((x0 &&& (255 : Int32)) <<< ((0 : Int32) &&& 31)) ||| ((x1 &&& (255 : Int32)) <<< ((8 : Int32) &&& 31))).toUInt32.toUInt16.toUInt32.toInt32))])) (fun t k => ?_) ?_
  · show Steps p.tables e below (T8.setTop (mkF m 56 #[.val (.ref arr), .val (.int (1 : Int32))] [(.int (8 : Int32)), (.int (x1 &&& (255 : Int32))), (.int ((x0 &&& (255 : Int32)) <<< ((0 : Int32) &&& 31)))])) t
    refine XS.ishl X8.here hx rfl (hb hby own_d23_56) rfl ?_
    refine XS.ior X8.here hx rfl (hb hby own_d23_57) rfl ?_
    refine XS.i2c X8.here hx rfl (hb hby own_d23_58) rfl ?_
    exact k
  exact own_retN X8 hx Bd (t := .char) (by simp) (XT.narrow_c _) (hb hby own_d23_59) e8 (⟨rfl, N0, rfl⟩) (by decide) (by decide)
def own_r23_4_0 : Room := { frames := 0, cells := 0, slots := 0, locals := 0 }
theorem own_ef23_4_0 (m : MethodId) (x0 : Addr) : entryFrame m #[(.ref x0), (.int (0 : Int32))] 2 = mkF m 0 #[.val (.ref x0), .val (.int (0 : Int32))] [] := by first | (simp [entryFrame, mkF, argsToLocals, Value.category]; done) | rfl
def own_Q23_4_0 (Z : State) (arr : Addr) (ka : ClassId) (x0 x1 x2 x3 : Int32) (cs : Int32) (fm : Value) (h0 : Heap) (n0 : Nat) : Option Value → Heap → List Loc → Prop := fun v h L => v = some (.int (own_gc x0 x1)) ∧ Fr n0 L ∧ h = h0
set_option maxRecDepth 65536 in
set_option maxHeartbeats 40000000 in
theorem own_rm23_4_0 (l : Launch) (Z : State) (a0 : Array Value) (hw : ∀ d ∈ tables_1, d.before a0 Z = true) (ws : List Jvm.Cond) (arr : Addr) (ka : ClassId) (x0 x1 x2 x3 : Int32) (cs : Int32) (fm : Value) (h0 : Heap) (n0 : Nat) (Z0 : n0 ≤ h0.size) (O0 : Old Z n0 h0) (V_a : Arv Z h0 arr ka .byte (4 : Int32) [(.int x0), (.int x1), (.int x2), (.int x3)] (.int (0 : Int32)))  (hcs : ¬ cs = (0 : Int32)) (hfm : fm.isRef = true) (S_cs : Sta Z Z.heap "java/lang/String" "COMPACT_STRINGS" "Z" (.int cs)) (S_fm : Sta Z Z.heap "jdk/internal/util/Preconditions" "SIOOBE_FORMATTER" "Ljava/util/function/BiFunction;" fm) (S_ad : Sta Z Z.heap "java/lang/StringUTF16" "$assertionsDisabled" "Z" (.int (1 : Int32))) (S_hb : Sta Z Z.heap "java/lang/StringUTF16" "HI_BYTE_SHIFT" "I" (.int (0 : Int32))) (S_lb : Sta Z Z.heap "java/lang/StringUTF16" "LO_BYTE_SHIFT" "I" (.int (8 : Int32))) :
    MetFree l (⟨"java/lang/StringUTF16", "getChar", "([BI)C"⟩ : MethodName) (head1 (Jvm.Cond.code (⟨"java/lang/StringUTF16", "getChar", "([BI)C"⟩ : MethodName) jdk_52_method_5_code 2 (some .char) :: ws) own_r23_4_0) (fun a_ U_ => a_ = #[(.ref arr), (.int (0 : Int32))] ∧ Z.Warmed39 U_.vm ∧ U_.heap = h0) (fun _ _ _ _ _ => True) (fun _ U_ o_ U'_ => ∃ v_ L_, o_ = .returned v_ ∧ own_Q23_4_0 Z arr  ka  x0 x1 x2 x3  cs  fm  h0 n0 v_ U'_.heap L_ ∧ FrameEnd U_ o_ U'_ L_ own_r23_4_0.cells own_r23_4_0.slots) := by
  refine MetFree.of_bodySF (plainFor_of_name own_pn3) hisR ?_
  intro p e s m args below meth c s₁ Bd hml0 hP hK
  obtain ⟨rfl, hZ, hh⟩ := hP
  have hx := Bd.exec
  have hby := Bd.bytes
  have hml : c.maxLocals = 2 := hml0
  have hown : s.vm.findClass "java/lang/StringUTF16" = some m.cls := findClass_of_methodNamed Bd.named
  have hnm := (name_of_methodNamed Bd.named Bd.method).1
  have X0 : Stand p l e own_r23_4_0 s m #[(.ref arr), (.int (0 : Int32))] below meth c s₁ [] 0 0 := Stand.of_body Bd
  have e0 : s₁.heap = h0 := by rw [← hh, Bd.state]; rfl
  have N0 := Fr.nil n0
  refine own_in (own_ef23_4_0 m arr) ?_
  show own_Go p e below (own_K s (own_Q23_4_0 Z arr  ka  x0 x1 x2 x3  cs  fm  h0 n0) own_r23_4_0.cells own_r23_4_0.slots) s₁ (mkF m 0 #[.val (.ref arr), .val (.int (0 : Int32))] [])
  have f1 := S_ad.ext O0.2
  obtain ⟨T2, X2, e2, st2⟩ := getS2 X0 hx hZ hown (host := "") (Or.inl (hw _ (List.mem_of_getElem? (i := 102) rfl))) Via.refl e0 f1 (g := (mkF m 0 #[.val (.ref arr), .val (.int (0 : Int32))] [])) rfl (hb hby own_d23_0)
  refine own_st (T' := T2) (g' := (mkF m 3 #[.val (.ref arr), .val (.int (0 : Int32))] [(.int (1 : Int32))])) st2 ?_
  refine own_st (T' := T2) (g' := (mkF m 37 #[.val (.ref arr), .val (.int (1 : Int32))] [(.int (0 : Int32)), (.ref arr)])) (fun t k => ?_) ?_
  · show Steps p.tables e below (T2.setTop (mkF m 3 #[.val (.ref arr), .val (.int (0 : Int32))] [(.int (1 : Int32))])) t
    refine XS.ifYes X2.here hx rfl (pc0 := 3) (pc' := 28) rfl (hb hby own_d23_3) rfl ((if0 _ _).trans (feq (by decide : ¬ ((1 : Int32) = (0 : Int32)))).2) (by decide) (by decide) ?_
    refine XS.iloadN X2.here hx rfl (hb hby own_d23_28) rfl ?_
    refine XS.iconst X2.here hx rfl (hb hby own_d23_29) ?_
    refine XS.ishl X2.here hx rfl (hb hby own_d23_30) rfl ?_
    refine XS.istoreN X2.here hx rfl (hb hby own_d23_31) rfl (l' := #[.val (.ref arr), .val (.int (0 : Int32))]) rfl ?_
    refine XS.aloadN X2.here hx rfl (hb hby own_d23_32) rfl rfl ?_
    refine XS.iloadN X2.here hx rfl (hb hby own_d23_33) rfl ?_
    refine XS.iinc X2.here hx rfl (hb hby own_d23_34) rfl (l' := #[.val (.ref arr), .val (.int (1 : Int32))]) rfl ?_
    exact k
  obtain ⟨cl3, Ar3, q3, S3, M3, H3, G3⟩ := id V_a
  refine own_st (T' := T2) (g' := (mkF m 42 #[.val (.ref arr), .val (.int (1 : Int32))] [(.int (x0 &&& (255 : Int32)))])) (fun t k => ?_) ?_
  · show Steps p.tables e below (T2.setTop (mkF m 37 #[.val (.ref arr), .val (.int (1 : Int32))] [(.int (0 : Int32)), (.ref arr)])) t
    refine X2.baloadBytes hx (j := (0 : Int32)) (v := (.int x0)) (by rw [e2]; exact Ar3.1) (State.isArrayOf_alike hZ.alike Ar3.2.1) Ar3.2.2 (inb_of S3 ⟨by decide, by decide⟩) (Has.at H3 (inb_of S3 ⟨by decide, by decide⟩) rfl) (g := (mkF m 37 #[.val (.ref arr), .val (.int (1 : Int32))] [(.int (0 : Int32)), (.ref arr)])) rfl rfl (hb hby own_d23_37) _ ?_
    show Steps p.tables e below (T2.setTop (mkF m 38 #[.val (.ref arr), .val (.int (1 : Int32))] [(.int x0)])) t
    refine XS.sipush X2.here hx rfl (hb hby own_d23_38) ?_
    refine XS.iand X2.here hx rfl (hb hby own_d23_41) rfl ?_
    exact k
  have f4 := S_hb.ext O0.2
  obtain ⟨T5, X5, e5, st5⟩ := getS2 X2 hx hZ hown (host := "") (Or.inl (hw _ (List.mem_of_getElem? (i := 103) rfl))) Via.refl e2 f4 (g := (mkF m 42 #[.val (.ref arr), .val (.int (1 : Int32))] [(.int (x0 &&& (255 : Int32)))])) rfl (hb hby own_d23_42)
  refine own_st (T' := T5) (g' := (mkF m 45 #[.val (.ref arr), .val (.int (1 : Int32))] [(.int (0 : Int32)), (.int (x0 &&& (255 : Int32)))])) st5 ?_
  refine own_st (T' := T5) (g' := (mkF m 48 #[.val (.ref arr), .val (.int (1 : Int32))] [(.int (1 : Int32)), (.ref arr), (.int ((x0 &&& (255 : Int32)) <<< ((0 : Int32) &&& 31)))])) (fun t k => ?_) ?_
  · show Steps p.tables e below (T5.setTop (mkF m 45 #[.val (.ref arr), .val (.int (1 : Int32))] [(.int (0 : Int32)), (.int (x0 &&& (255 : Int32)))])) t
    refine XS.ishl X5.here hx rfl (hb hby own_d23_45) rfl ?_
    refine XS.aloadN X5.here hx rfl (hb hby own_d23_46) rfl rfl ?_
    refine XS.iloadN X5.here hx rfl (hb hby own_d23_47) rfl ?_
    exact k
  obtain ⟨cl6, Ar6, q6, S6, M6, H6, G6⟩ := id V_a
  refine own_st (T' := T5) (g' := (mkF m 53 #[.val (.ref arr), .val (.int (1 : Int32))] [(.int (x1 &&& (255 : Int32))), (.int ((x0 &&& (255 : Int32)) <<< ((0 : Int32) &&& 31)))])) (fun t k => ?_) ?_
  · show Steps p.tables e below (T5.setTop (mkF m 48 #[.val (.ref arr), .val (.int (1 : Int32))] [(.int (1 : Int32)), (.ref arr), (.int ((x0 &&& (255 : Int32)) <<< ((0 : Int32) &&& 31)))])) t
    refine X5.baloadBytes hx (j := (1 : Int32)) (v := (.int x1)) (by rw [e5]; exact Ar6.1) (State.isArrayOf_alike hZ.alike Ar6.2.1) Ar6.2.2 (inb_of S6 ⟨by decide, by decide⟩) (Has.at H6 (inb_of S6 ⟨by decide, by decide⟩) rfl) (g := (mkF m 48 #[.val (.ref arr), .val (.int (1 : Int32))] [(.int (1 : Int32)), (.ref arr), (.int ((x0 &&& (255 : Int32)) <<< ((0 : Int32) &&& 31)))])) rfl rfl (hb hby own_d23_48) _ ?_
    show Steps p.tables e below (T5.setTop (mkF m 49 #[.val (.ref arr), .val (.int (1 : Int32))] [(.int x1), (.int ((x0 &&& (255 : Int32)) <<< ((0 : Int32) &&& 31)))])) t
    refine XS.sipush X5.here hx rfl (hb hby own_d23_49) ?_
    refine XS.iand X5.here hx rfl (hb hby own_d23_52) rfl ?_
    exact k
  have f7 := S_lb.ext O0.2
  obtain ⟨T8, X8, e8, st8⟩ := getS2 X5 hx hZ hown (host := "") (Or.inl (hw _ (List.mem_of_getElem? (i := 104) rfl))) Via.refl e5 f7 (g := (mkF m 53 #[.val (.ref arr), .val (.int (1 : Int32))] [(.int (x1 &&& (255 : Int32))), (.int ((x0 &&& (255 : Int32)) <<< ((0 : Int32) &&& 31)))])) rfl (hb hby own_d23_53)
  refine own_st (T' := T8) (g' := (mkF m 56 #[.val (.ref arr), .val (.int (1 : Int32))] [(.int (8 : Int32)), (.int (x1 &&& (255 : Int32))), (.int ((x0 &&& (255 : Int32)) <<< ((0 : Int32) &&& 31)))])) st8 ?_
  refine own_st (T' := T8) (g' := (mkF m 59 #[.val (.ref arr), .val (.int (1 : Int32))] [(.int ((((x0 &&& (255 : Int32)) <<< ((0 : Int32) &&& 31)) ||| ((x1 &&& (255 : Int32)) <<< ((8 : Int32) &&& 31))).toUInt32.toUInt16.toUInt32.toInt32))])) (fun t k => ?_) ?_
  · show Steps p.tables e below (T8.setTop (mkF m 56 #[.val (.ref arr), .val (.int (1 : Int32))] [(.int (8 : Int32)), (.int (x1 &&& (255 : Int32))), (.int ((x0 &&& (255 : Int32)) <<< ((0 : Int32) &&& 31)))])) t
    refine XS.ishl X8.here hx rfl (hb hby own_d23_56) rfl ?_
    refine XS.ior X8.here hx rfl (hb hby own_d23_57) rfl ?_
    refine XS.i2c X8.here hx rfl (hb hby own_d23_58) rfl ?_
    exact k
  exact own_retN X8 hx Bd (t := .char) (by simp) (XT.narrow_c _) (hb hby own_d23_59) e8 (⟨rfl, N0, rfl⟩) (by decide) (by decide)
def own_r23_4_1 : Room := { frames := 0, cells := 0, slots := 0, locals := 0 }
theorem own_ef23_4_1 (m : MethodId) (x0 : Addr) : entryFrame m #[(.ref x0), (.int (1 : Int32))] 2 = mkF m 0 #[.val (.ref x0), .val (.int (1 : Int32))] [] := by first | (simp [entryFrame, mkF, argsToLocals, Value.category]; done) | rfl
def own_Q23_4_1 (Z : State) (arr : Addr) (ka : ClassId) (x0 x1 x2 x3 : Int32) (cs : Int32) (fm : Value) (h0 : Heap) (n0 : Nat) : Option Value → Heap → List Loc → Prop := fun v h L => v = some (.int (own_gc x2 x3)) ∧ Fr n0 L ∧ h = h0
set_option maxRecDepth 65536 in
set_option maxHeartbeats 40000000 in
theorem own_rm23_4_1 (l : Launch) (Z : State) (a0 : Array Value) (hw : ∀ d ∈ tables_1, d.before a0 Z = true) (ws : List Jvm.Cond) (arr : Addr) (ka : ClassId) (x0 x1 x2 x3 : Int32) (cs : Int32) (fm : Value) (h0 : Heap) (n0 : Nat) (Z0 : n0 ≤ h0.size) (O0 : Old Z n0 h0) (V_a : Arv Z h0 arr ka .byte (4 : Int32) [(.int x0), (.int x1), (.int x2), (.int x3)] (.int (0 : Int32)))  (hcs : ¬ cs = (0 : Int32)) (hfm : fm.isRef = true) (S_cs : Sta Z Z.heap "java/lang/String" "COMPACT_STRINGS" "Z" (.int cs)) (S_fm : Sta Z Z.heap "jdk/internal/util/Preconditions" "SIOOBE_FORMATTER" "Ljava/util/function/BiFunction;" fm) (S_ad : Sta Z Z.heap "java/lang/StringUTF16" "$assertionsDisabled" "Z" (.int (1 : Int32))) (S_hb : Sta Z Z.heap "java/lang/StringUTF16" "HI_BYTE_SHIFT" "I" (.int (0 : Int32))) (S_lb : Sta Z Z.heap "java/lang/StringUTF16" "LO_BYTE_SHIFT" "I" (.int (8 : Int32))) :
    MetFree l (⟨"java/lang/StringUTF16", "getChar", "([BI)C"⟩ : MethodName) (head1 (Jvm.Cond.code (⟨"java/lang/StringUTF16", "getChar", "([BI)C"⟩ : MethodName) jdk_52_method_5_code 2 (some .char) :: ws) own_r23_4_1) (fun a_ U_ => a_ = #[(.ref arr), (.int (1 : Int32))] ∧ Z.Warmed39 U_.vm ∧ U_.heap = h0) (fun _ _ _ _ _ => True) (fun _ U_ o_ U'_ => ∃ v_ L_, o_ = .returned v_ ∧ own_Q23_4_1 Z arr  ka  x0 x1 x2 x3  cs  fm  h0 n0 v_ U'_.heap L_ ∧ FrameEnd U_ o_ U'_ L_ own_r23_4_1.cells own_r23_4_1.slots) := by
  refine MetFree.of_bodySF (plainFor_of_name own_pn3) hisR ?_
  intro p e s m args below meth c s₁ Bd hml0 hP hK
  obtain ⟨rfl, hZ, hh⟩ := hP
  have hx := Bd.exec
  have hby := Bd.bytes
  have hml : c.maxLocals = 2 := hml0
  have hown : s.vm.findClass "java/lang/StringUTF16" = some m.cls := findClass_of_methodNamed Bd.named
  have hnm := (name_of_methodNamed Bd.named Bd.method).1
  have X0 : Stand p l e own_r23_4_1 s m #[(.ref arr), (.int (1 : Int32))] below meth c s₁ [] 0 0 := Stand.of_body Bd
  have e0 : s₁.heap = h0 := by rw [← hh, Bd.state]; rfl
  have N0 := Fr.nil n0
  refine own_in (own_ef23_4_1 m arr) ?_
  show own_Go p e below (own_K s (own_Q23_4_1 Z arr  ka  x0 x1 x2 x3  cs  fm  h0 n0) own_r23_4_1.cells own_r23_4_1.slots) s₁ (mkF m 0 #[.val (.ref arr), .val (.int (1 : Int32))] [])
  have f1 := S_ad.ext O0.2
  obtain ⟨T2, X2, e2, st2⟩ := getS2 X0 hx hZ hown (host := "") (Or.inl (hw _ (List.mem_of_getElem? (i := 102) rfl))) Via.refl e0 f1 (g := (mkF m 0 #[.val (.ref arr), .val (.int (1 : Int32))] [])) rfl (hb hby own_d23_0)
  refine own_st (T' := T2) (g' := (mkF m 3 #[.val (.ref arr), .val (.int (1 : Int32))] [(.int (1 : Int32))])) st2 ?_
  refine own_st (T' := T2) (g' := (mkF m 37 #[.val (.ref arr), .val (.int (3 : Int32))] [(.int (2 : Int32)), (.ref arr)])) (fun t k => ?_) ?_
  · show Steps p.tables e below (T2.setTop (mkF m 3 #[.val (.ref arr), .val (.int (1 : Int32))] [(.int (1 : Int32))])) t
    refine XS.ifYes X2.here hx rfl (pc0 := 3) (pc' := 28) rfl (hb hby own_d23_3) rfl ((if0 _ _).trans (feq (by decide : ¬ ((1 : Int32) = (0 : Int32)))).2) (by decide) (by decide) ?_
    refine XS.iloadN X2.here hx rfl (hb hby own_d23_28) rfl ?_
    refine XS.iconst X2.here hx rfl (hb hby own_d23_29) ?_
    refine XS.ishl X2.here hx rfl (hb hby own_d23_30) rfl ?_
    refine XS.istoreN X2.here hx rfl (hb hby own_d23_31) rfl (l' := #[.val (.ref arr), .val (.int (2 : Int32))]) rfl ?_
    refine XS.aloadN X2.here hx rfl (hb hby own_d23_32) rfl rfl ?_
    refine XS.iloadN X2.here hx rfl (hb hby own_d23_33) rfl ?_
    refine XS.iinc X2.here hx rfl (hb hby own_d23_34) rfl (l' := #[.val (.ref arr), .val (.int (3 : Int32))]) rfl ?_
    exact k
  obtain ⟨cl3, Ar3, q3, S3, M3, H3, G3⟩ := id V_a
  refine own_st (T' := T2) (g' := (mkF m 42 #[.val (.ref arr), .val (.int (3 : Int32))] [(.int (x2 &&& (255 : Int32)))])) (fun t k => ?_) ?_
  · show Steps p.tables e below (T2.setTop (mkF m 37 #[.val (.ref arr), .val (.int (3 : Int32))] [(.int (2 : Int32)), (.ref arr)])) t
    refine X2.baloadBytes hx (j := (2 : Int32)) (v := (.int x2)) (by rw [e2]; exact Ar3.1) (State.isArrayOf_alike hZ.alike Ar3.2.1) Ar3.2.2 (inb_of S3 ⟨by decide, by decide⟩) (Has.at H3 (inb_of S3 ⟨by decide, by decide⟩) rfl) (g := (mkF m 37 #[.val (.ref arr), .val (.int (3 : Int32))] [(.int (2 : Int32)), (.ref arr)])) rfl rfl (hb hby own_d23_37) _ ?_
    show Steps p.tables e below (T2.setTop (mkF m 38 #[.val (.ref arr), .val (.int (3 : Int32))] [(.int x2)])) t
    refine XS.sipush X2.here hx rfl (hb hby own_d23_38) ?_
    refine XS.iand X2.here hx rfl (hb hby own_d23_41) rfl ?_
    exact k
  have f4 := S_hb.ext O0.2
  obtain ⟨T5, X5, e5, st5⟩ := getS2 X2 hx hZ hown (host := "") (Or.inl (hw _ (List.mem_of_getElem? (i := 103) rfl))) Via.refl e2 f4 (g := (mkF m 42 #[.val (.ref arr), .val (.int (3 : Int32))] [(.int (x2 &&& (255 : Int32)))])) rfl (hb hby own_d23_42)
  refine own_st (T' := T5) (g' := (mkF m 45 #[.val (.ref arr), .val (.int (3 : Int32))] [(.int (0 : Int32)), (.int (x2 &&& (255 : Int32)))])) st5 ?_
  refine own_st (T' := T5) (g' := (mkF m 48 #[.val (.ref arr), .val (.int (3 : Int32))] [(.int (3 : Int32)), (.ref arr), (.int ((x2 &&& (255 : Int32)) <<< ((0 : Int32) &&& 31)))])) (fun t k => ?_) ?_
  · show Steps p.tables e below (T5.setTop (mkF m 45 #[.val (.ref arr), .val (.int (3 : Int32))] [(.int (0 : Int32)), (.int (x2 &&& (255 : Int32)))])) t
    refine XS.ishl X5.here hx rfl (hb hby own_d23_45) rfl ?_
    refine XS.aloadN X5.here hx rfl (hb hby own_d23_46) rfl rfl ?_
    refine XS.iloadN X5.here hx rfl (hb hby own_d23_47) rfl ?_
    exact k
  obtain ⟨cl6, Ar6, q6, S6, M6, H6, G6⟩ := id V_a
  refine own_st (T' := T5) (g' := (mkF m 53 #[.val (.ref arr), .val (.int (3 : Int32))] [(.int (x3 &&& (255 : Int32))), (.int ((x2 &&& (255 : Int32)) <<< ((0 : Int32) &&& 31)))])) (fun t k => ?_) ?_
  · show Steps p.tables e below (T5.setTop (mkF m 48 #[.val (.ref arr), .val (.int (3 : Int32))] [(.int (3 : Int32)), (.ref arr), (.int ((x2 &&& (255 : Int32)) <<< ((0 : Int32) &&& 31)))])) t
    refine X5.baloadBytes hx (j := (3 : Int32)) (v := (.int x3)) (by rw [e5]; exact Ar6.1) (State.isArrayOf_alike hZ.alike Ar6.2.1) Ar6.2.2 (inb_of S6 ⟨by decide, by decide⟩) (Has.at H6 (inb_of S6 ⟨by decide, by decide⟩) rfl) (g := (mkF m 48 #[.val (.ref arr), .val (.int (3 : Int32))] [(.int (3 : Int32)), (.ref arr), (.int ((x2 &&& (255 : Int32)) <<< ((0 : Int32) &&& 31)))])) rfl rfl (hb hby own_d23_48) _ ?_
    show Steps p.tables e below (T5.setTop (mkF m 49 #[.val (.ref arr), .val (.int (3 : Int32))] [(.int x3), (.int ((x2 &&& (255 : Int32)) <<< ((0 : Int32) &&& 31)))])) t
    refine XS.sipush X5.here hx rfl (hb hby own_d23_49) ?_
    refine XS.iand X5.here hx rfl (hb hby own_d23_52) rfl ?_
    exact k
  have f7 := S_lb.ext O0.2
  obtain ⟨T8, X8, e8, st8⟩ := getS2 X5 hx hZ hown (host := "") (Or.inl (hw _ (List.mem_of_getElem? (i := 104) rfl))) Via.refl e5 f7 (g := (mkF m 53 #[.val (.ref arr), .val (.int (3 : Int32))] [(.int (x3 &&& (255 : Int32))), (.int ((x2 &&& (255 : Int32)) <<< ((0 : Int32) &&& 31)))])) rfl (hb hby own_d23_53)
  refine own_st (T' := T8) (g' := (mkF m 56 #[.val (.ref arr), .val (.int (3 : Int32))] [(.int (8 : Int32)), (.int (x3 &&& (255 : Int32))), (.int ((x2 &&& (255 : Int32)) <<< ((0 : Int32) &&& 31)))])) st8 ?_
  refine own_st (T' := T8) (g' := (mkF m 59 #[.val (.ref arr), .val (.int (3 : Int32))] [(.int ((((x2 &&& (255 : Int32)) <<< ((0 : Int32) &&& 31)) ||| ((x3 &&& (255 : Int32)) <<< ((8 : Int32) &&& 31))).toUInt32.toUInt16.toUInt32.toInt32))])) (fun t k => ?_) ?_
  · show Steps p.tables e below (T8.setTop (mkF m 56 #[.val (.ref arr), .val (.int (3 : Int32))] [(.int (8 : Int32)), (.int (x3 &&& (255 : Int32))), (.int ((x2 &&& (255 : Int32)) <<< ((0 : Int32) &&& 31)))])) t
    refine XS.ishl X8.here hx rfl (hb hby own_d23_56) rfl ?_
    refine XS.ior X8.here hx rfl (hb hby own_d23_57) rfl ?_
    refine XS.i2c X8.here hx rfl (hb hby own_d23_58) rfl ?_
    exact k
  exact own_retN X8 hx Bd (t := .char) (by simp) (XT.narrow_c _) (hb hby own_d23_59) e8 (⟨rfl, N0, rfl⟩) (by decide) (by decide)
def own_r24_2_0 : Room := { frames := 3, cells := 0, slots := 0, locals := 40 }
theorem own_ef24_2_0 (m : MethodId) (x0 : Addr) : entryFrame m #[(.ref x0), (.int (0 : Int32))] 2 = mkF m 0 #[.val (.ref x0), .val (.int (0 : Int32))] [] := by first | (simp [entryFrame, mkF, argsToLocals, Value.category]; done) | rfl
def own_Q24_2_0 (Z : State) (arr : Addr) (ka : ClassId) (x0 x1 : Int32) (cs : Int32) (fm : Value) (h0 : Heap) (n0 : Nat) : Option Value → Heap → List Loc → Prop := fun v h L => v = some (.int (own_gc x0 x1)) ∧ Fr n0 L ∧ h = h0
set_option maxRecDepth 65536 in
set_option maxHeartbeats 40000000 in
theorem own_rm24_2_0 (l : Launch) (Z : State) (a0 : Array Value) (hw : ∀ d ∈ tables_1, d.before a0 Z = true) (ws : List Jvm.Cond) (arr : Addr) (ka : ClassId) (x0 x1 : Int32) (cs : Int32) (fm : Value) (h0 : Heap) (n0 : Nat) (Z0 : n0 ≤ h0.size) (O0 : Old Z n0 h0) (V_a : Arv Z h0 arr ka .byte (2 : Int32) [(.int x0), (.int x1)] (.int (0 : Int32)))  (hcs : ¬ cs = (0 : Int32)) (hfm : fm.isRef = true) (S_cs : Sta Z Z.heap "java/lang/String" "COMPACT_STRINGS" "Z" (.int cs)) (S_fm : Sta Z Z.heap "jdk/internal/util/Preconditions" "SIOOBE_FORMATTER" "Ljava/util/function/BiFunction;" fm) (S_ad : Sta Z Z.heap "java/lang/StringUTF16" "$assertionsDisabled" "Z" (.int (1 : Int32))) (S_hb : Sta Z Z.heap "java/lang/StringUTF16" "HI_BYTE_SHIFT" "I" (.int (0 : Int32))) (S_lb : Sta Z Z.heap "java/lang/StringUTF16" "LO_BYTE_SHIFT" "I" (.int (8 : Int32))) :
    MetFree l (⟨"java/lang/StringUTF16", "charAt", "([BI)C"⟩ : MethodName) (head1 (Jvm.Cond.code (⟨"java/lang/StringUTF16", "charAt", "([BI)C"⟩ : MethodName) jdk_52_method_83_code 2 (some .char) :: ws) own_r24_2_0) (fun a_ U_ => a_ = #[(.ref arr), (.int (0 : Int32))] ∧ Z.Warmed39 U_.vm ∧ U_.heap = h0) (fun _ _ _ _ _ => True) (fun _ U_ o_ U'_ => ∃ v_ L_, o_ = .returned v_ ∧ own_Q24_2_0 Z arr  ka  x0 x1  cs  fm  h0 n0 v_ U'_.heap L_ ∧ FrameEnd U_ o_ U'_ L_ own_r24_2_0.cells own_r24_2_0.slots) := by
  refine MetFree.of_bodySF (plainFor_of_name own_pn3) hisR ?_
  intro p e s m args below meth c s₁ Bd hml0 hP hK
  obtain ⟨rfl, hZ, hh⟩ := hP
  have hx := Bd.exec
  have hby := Bd.bytes
  have hml : c.maxLocals = 2 := hml0
  have hown : s.vm.findClass "java/lang/StringUTF16" = some m.cls := findClass_of_methodNamed Bd.named
  have hnm := (name_of_methodNamed Bd.named Bd.method).1
  have X0 : Stand p l e own_r24_2_0 s m #[(.ref arr), (.int (0 : Int32))] below meth c s₁ [] 0 0 := Stand.of_body Bd
  have e0 : s₁.heap = h0 := by rw [← hh, Bd.state]; rfl
  have N0 := Fr.nil n0
  refine own_in (own_ef24_2_0 m arr) ?_
  show own_Go p e below (own_K s (own_Q24_2_0 Z arr  ka  x0 x1  cs  fm  h0 n0) own_r24_2_0.cells own_r24_2_0.slots) s₁ (mkF m 0 #[.val (.ref arr), .val (.int (0 : Int32))] [])
  refine own_st (T' := s₁) (g' := (mkF m 2 #[.val (.ref arr), .val (.int (0 : Int32))] [(.ref arr), (.int (0 : Int32))])) (fun t k => ?_) ?_
  · show Steps p.tables e below (s₁.setTop (mkF m 0 #[.val (.ref arr), .val (.int (0 : Int32))] [])) t
    refine XS.iloadN X0.here hx rfl (hb hby own_d24_0) rfl ?_
    refine XS.aloadN X0.here hx rfl (hb hby own_d24_1) rfl rfl ?_
    exact k
  obtain ⟨_, _, ⟨T1, L1, c1, n1⟩, -, X1, ⟨Lc1, hQ1, l1, y1, z1⟩, st1⟩ := Jvm.LawKit.callS X0 hx (y := (⟨"java/lang/StringUTF16", "checkIndex", "(I[B)V"⟩ : MethodName)) hown (mvT hZ (hw _ (List.mem_of_getElem? (i := 111) rfl))) (mvT hZ (hw _ (List.mem_of_getElem? (i := 112) rfl))) (mvT hZ (hw _ (List.mem_of_getElem? (i := 81) rfl))) (mvT hZ (hw _ (List.mem_of_getElem? (i := 113) rfl))) (by decide) (backOf (W := 0) (own_rm25_2_0 l Z a0 hw [] arr ka x0 x1 cs fm h0 n0 Z0 O0 V_a hcs hfm S_cs S_fm S_ad S_hb S_lb) hZ (hw _ (List.mem_of_getElem? (i := 113) rfl)) (hw _ (List.mem_of_getElem? (i := 81) rfl)) (by decide) (by decide)) (g := (mkF m 2 #[.val (.ref arr), .val (.int (0 : Int32))] [(.ref arr), (.int (0 : Int32))])) rfl (by rw [hml]; rfl) (argsL := [(.int (0 : Int32)), (.ref arr)]) (rest := []) (lenOf own_pd3 rfl) rfl (by show 2 * 0 + _ ≤ _; exact Nat.le_of_eq rfl) (hb hby own_d24_2) (fun _ _ => ⟨rfl, e0, (by decide : 0 + 0 ≤ _), (by decide : 0 + 0 ≤ _)⟩)
  dsimp only [Pt.U, Pt.locs, Pt.cells, Pt.slots] at X1 l1 y1 z1 st1 hQ1
  subst l1 y1 z1
  obtain ⟨rfl, N1q, e1⟩ := hQ1
  have N1 := Fr.app N0 N1q
  refine own_st (T' := T1) (g' := (mkF m 5 #[.val (.ref arr), .val (.int (0 : Int32))] [])) st1 ?_
  refine own_st (T' := T1) (g' := (mkF m 7 #[.val (.ref arr), .val (.int (0 : Int32))] [(.int (0 : Int32)), (.ref arr)])) (fun t k => ?_) ?_
  · show Steps p.tables e below (T1.setTop (mkF m 5 #[.val (.ref arr), .val (.int (0 : Int32))] [])) t
    refine XS.aloadN X1.here hx rfl (hb hby own_d24_5) rfl rfl ?_
    refine XS.iloadN X1.here hx rfl (hb hby own_d24_6) rfl ?_
    exact k
  obtain ⟨_, _, ⟨T2, L2, c2, n2⟩, -, X2, ⟨Lc2, hQ2, l2, y2, z2⟩, st2⟩ := Jvm.LawKit.callS X1 hx (y := (⟨"java/lang/StringUTF16", "getChar", "([BI)C"⟩ : MethodName)) hown (mvT hZ (hw _ (List.mem_of_getElem? (i := 105) rfl))) (mvT hZ (hw _ (List.mem_of_getElem? (i := 106) rfl))) (mvT hZ (hw _ (List.mem_of_getElem? (i := 81) rfl))) (mvT hZ (hw _ (List.mem_of_getElem? (i := 107) rfl))) (by decide) (backOf (W := 0) (own_rm23_2_0 l Z a0 hw [] arr ka x0 x1 cs fm h0 n0 Z0 O0 V_a hcs hfm S_cs S_fm S_ad S_hb S_lb) hZ (hw _ (List.mem_of_getElem? (i := 107) rfl)) (hw _ (List.mem_of_getElem? (i := 81) rfl)) (by decide) (by decide)) (g := (mkF m 7 #[.val (.ref arr), .val (.int (0 : Int32))] [(.int (0 : Int32)), (.ref arr)])) rfl (by rw [hml]; rfl) (argsL := [(.ref arr), (.int (0 : Int32))]) (rest := []) (lenOf own_pd4 rfl) rfl (by show 2 * 0 + _ ≤ _; exact Nat.le_of_eq rfl) (hb hby own_d24_7) (fun _ _ => ⟨rfl, e1, (by decide : 0 + 0 ≤ _), (by decide : 0 + 0 ≤ _)⟩)
  dsimp only [Pt.U, Pt.locs, Pt.cells, Pt.slots] at X2 l2 y2 z2 st2 hQ2
  subst l2 y2 z2
  obtain ⟨rfl, N2q, e2⟩ := hQ2
  have N2 := Fr.app N1 N2q
  refine own_st (T' := T2) (g' := (mkF m 10 #[.val (.ref arr), .val (.int (0 : Int32))] [(.int (own_gc x0 x1))])) st2 ?_
  exact own_retN X2 hx Bd (t := .char) (by simp) (XT.narrow_c _) (hb hby own_d24_10) e2 (⟨rfl, N2, rfl⟩) (by decide) (by decide)
def own_r24_4_0 : Room := { frames := 3, cells := 0, slots := 0, locals := 40 }
theorem own_ef24_4_0 (m : MethodId) (x0 : Addr) : entryFrame m #[(.ref x0), (.int (0 : Int32))] 2 = mkF m 0 #[.val (.ref x0), .val (.int (0 : Int32))] [] := by first | (simp [entryFrame, mkF, argsToLocals, Value.category]; done) | rfl
def own_Q24_4_0 (Z : State) (arr : Addr) (ka : ClassId) (x0 x1 x2 x3 : Int32) (cs : Int32) (fm : Value) (h0 : Heap) (n0 : Nat) : Option Value → Heap → List Loc → Prop := fun v h L => v = some (.int (own_gc x0 x1)) ∧ Fr n0 L ∧ h = h0
set_option maxRecDepth 65536 in
set_option maxHeartbeats 40000000 in
theorem own_rm24_4_0 (l : Launch) (Z : State) (a0 : Array Value) (hw : ∀ d ∈ tables_1, d.before a0 Z = true) (ws : List Jvm.Cond) (arr : Addr) (ka : ClassId) (x0 x1 x2 x3 : Int32) (cs : Int32) (fm : Value) (h0 : Heap) (n0 : Nat) (Z0 : n0 ≤ h0.size) (O0 : Old Z n0 h0) (V_a : Arv Z h0 arr ka .byte (4 : Int32) [(.int x0), (.int x1), (.int x2), (.int x3)] (.int (0 : Int32)))  (hcs : ¬ cs = (0 : Int32)) (hfm : fm.isRef = true) (S_cs : Sta Z Z.heap "java/lang/String" "COMPACT_STRINGS" "Z" (.int cs)) (S_fm : Sta Z Z.heap "jdk/internal/util/Preconditions" "SIOOBE_FORMATTER" "Ljava/util/function/BiFunction;" fm) (S_ad : Sta Z Z.heap "java/lang/StringUTF16" "$assertionsDisabled" "Z" (.int (1 : Int32))) (S_hb : Sta Z Z.heap "java/lang/StringUTF16" "HI_BYTE_SHIFT" "I" (.int (0 : Int32))) (S_lb : Sta Z Z.heap "java/lang/StringUTF16" "LO_BYTE_SHIFT" "I" (.int (8 : Int32))) :
    MetFree l (⟨"java/lang/StringUTF16", "charAt", "([BI)C"⟩ : MethodName) (head1 (Jvm.Cond.code (⟨"java/lang/StringUTF16", "charAt", "([BI)C"⟩ : MethodName) jdk_52_method_83_code 2 (some .char) :: ws) own_r24_4_0) (fun a_ U_ => a_ = #[(.ref arr), (.int (0 : Int32))] ∧ Z.Warmed39 U_.vm ∧ U_.heap = h0) (fun _ _ _ _ _ => True) (fun _ U_ o_ U'_ => ∃ v_ L_, o_ = .returned v_ ∧ own_Q24_4_0 Z arr  ka  x0 x1 x2 x3  cs  fm  h0 n0 v_ U'_.heap L_ ∧ FrameEnd U_ o_ U'_ L_ own_r24_4_0.cells own_r24_4_0.slots) := by
  refine MetFree.of_bodySF (plainFor_of_name own_pn3) hisR ?_
  intro p e s m args below meth c s₁ Bd hml0 hP hK
  obtain ⟨rfl, hZ, hh⟩ := hP
  have hx := Bd.exec
  have hby := Bd.bytes
  have hml : c.maxLocals = 2 := hml0
  have hown : s.vm.findClass "java/lang/StringUTF16" = some m.cls := findClass_of_methodNamed Bd.named
  have hnm := (name_of_methodNamed Bd.named Bd.method).1
  have X0 : Stand p l e own_r24_4_0 s m #[(.ref arr), (.int (0 : Int32))] below meth c s₁ [] 0 0 := Stand.of_body Bd
  have e0 : s₁.heap = h0 := by rw [← hh, Bd.state]; rfl
  have N0 := Fr.nil n0
  refine own_in (own_ef24_4_0 m arr) ?_
  show own_Go p e below (own_K s (own_Q24_4_0 Z arr  ka  x0 x1 x2 x3  cs  fm  h0 n0) own_r24_4_0.cells own_r24_4_0.slots) s₁ (mkF m 0 #[.val (.ref arr), .val (.int (0 : Int32))] [])
  refine own_st (T' := s₁) (g' := (mkF m 2 #[.val (.ref arr), .val (.int (0 : Int32))] [(.ref arr), (.int (0 : Int32))])) (fun t k => ?_) ?_
  · show Steps p.tables e below (s₁.setTop (mkF m 0 #[.val (.ref arr), .val (.int (0 : Int32))] [])) t
    refine XS.iloadN X0.here hx rfl (hb hby own_d24_0) rfl ?_
    refine XS.aloadN X0.here hx rfl (hb hby own_d24_1) rfl rfl ?_
    exact k
  obtain ⟨_, _, ⟨T1, L1, c1, n1⟩, -, X1, ⟨Lc1, hQ1, l1, y1, z1⟩, st1⟩ := Jvm.LawKit.callS X0 hx (y := (⟨"java/lang/StringUTF16", "checkIndex", "(I[B)V"⟩ : MethodName)) hown (mvT hZ (hw _ (List.mem_of_getElem? (i := 111) rfl))) (mvT hZ (hw _ (List.mem_of_getElem? (i := 112) rfl))) (mvT hZ (hw _ (List.mem_of_getElem? (i := 81) rfl))) (mvT hZ (hw _ (List.mem_of_getElem? (i := 113) rfl))) (by decide) (backOf (W := 0) (own_rm25_4_0 l Z a0 hw [] arr ka x0 x1 x2 x3 cs fm h0 n0 Z0 O0 V_a hcs hfm S_cs S_fm S_ad S_hb S_lb) hZ (hw _ (List.mem_of_getElem? (i := 113) rfl)) (hw _ (List.mem_of_getElem? (i := 81) rfl)) (by decide) (by decide)) (g := (mkF m 2 #[.val (.ref arr), .val (.int (0 : Int32))] [(.ref arr), (.int (0 : Int32))])) rfl (by rw [hml]; rfl) (argsL := [(.int (0 : Int32)), (.ref arr)]) (rest := []) (lenOf own_pd3 rfl) rfl (by show 2 * 0 + _ ≤ _; exact Nat.le_of_eq rfl) (hb hby own_d24_2) (fun _ _ => ⟨rfl, e0, (by decide : 0 + 0 ≤ _), (by decide : 0 + 0 ≤ _)⟩)
  dsimp only [Pt.U, Pt.locs, Pt.cells, Pt.slots] at X1 l1 y1 z1 st1 hQ1
  subst l1 y1 z1
  obtain ⟨rfl, N1q, e1⟩ := hQ1
  have N1 := Fr.app N0 N1q
  refine own_st (T' := T1) (g' := (mkF m 5 #[.val (.ref arr), .val (.int (0 : Int32))] [])) st1 ?_
  refine own_st (T' := T1) (g' := (mkF m 7 #[.val (.ref arr), .val (.int (0 : Int32))] [(.int (0 : Int32)), (.ref arr)])) (fun t k => ?_) ?_
  · show Steps p.tables e below (T1.setTop (mkF m 5 #[.val (.ref arr), .val (.int (0 : Int32))] [])) t
    refine XS.aloadN X1.here hx rfl (hb hby own_d24_5) rfl rfl ?_
    refine XS.iloadN X1.here hx rfl (hb hby own_d24_6) rfl ?_
    exact k
  obtain ⟨_, _, ⟨T2, L2, c2, n2⟩, -, X2, ⟨Lc2, hQ2, l2, y2, z2⟩, st2⟩ := Jvm.LawKit.callS X1 hx (y := (⟨"java/lang/StringUTF16", "getChar", "([BI)C"⟩ : MethodName)) hown (mvT hZ (hw _ (List.mem_of_getElem? (i := 105) rfl))) (mvT hZ (hw _ (List.mem_of_getElem? (i := 106) rfl))) (mvT hZ (hw _ (List.mem_of_getElem? (i := 81) rfl))) (mvT hZ (hw _ (List.mem_of_getElem? (i := 107) rfl))) (by decide) (backOf (W := 0) (own_rm23_4_0 l Z a0 hw [] arr ka x0 x1 x2 x3 cs fm h0 n0 Z0 O0 V_a hcs hfm S_cs S_fm S_ad S_hb S_lb) hZ (hw _ (List.mem_of_getElem? (i := 107) rfl)) (hw _ (List.mem_of_getElem? (i := 81) rfl)) (by decide) (by decide)) (g := (mkF m 7 #[.val (.ref arr), .val (.int (0 : Int32))] [(.int (0 : Int32)), (.ref arr)])) rfl (by rw [hml]; rfl) (argsL := [(.ref arr), (.int (0 : Int32))]) (rest := []) (lenOf own_pd4 rfl) rfl (by show 2 * 0 + _ ≤ _; exact Nat.le_of_eq rfl) (hb hby own_d24_7) (fun _ _ => ⟨rfl, e1, (by decide : 0 + 0 ≤ _), (by decide : 0 + 0 ≤ _)⟩)
  dsimp only [Pt.U, Pt.locs, Pt.cells, Pt.slots] at X2 l2 y2 z2 st2 hQ2
  subst l2 y2 z2
  obtain ⟨rfl, N2q, e2⟩ := hQ2
  have N2 := Fr.app N1 N2q
  refine own_st (T' := T2) (g' := (mkF m 10 #[.val (.ref arr), .val (.int (0 : Int32))] [(.int (own_gc x0 x1))])) st2 ?_
  exact own_retN X2 hx Bd (t := .char) (by simp) (XT.narrow_c _) (hb hby own_d24_10) e2 (⟨rfl, N2, rfl⟩) (by decide) (by decide)
def own_r11_1_0 : Room := { frames := 2, cells := 0, slots := 0, locals := 27 }
theorem own_ef11_1_0 (m : MethodId) (x0 : Addr) : entryFrame m #[(.ref x0), (.int (0 : Int32))] 2 = mkF m 0 #[.val (.ref x0), .val (.int (0 : Int32))] [] := by first | (simp [entryFrame, mkF, argsToLocals, Value.category]; done) | rfl
def own_Q11_1_0 (Z : State) (arr : Addr) (ka : ClassId) (x0 : Int32) (cs : Int32) (fm : Value) (h0 : Heap) (n0 : Nat) : Option Value → Heap → List Loc → Prop := fun v h L => v = some (.int (own_lc x0)) ∧ Fr n0 L ∧ h = h0
set_option maxRecDepth 65536 in
set_option maxHeartbeats 40000000 in
theorem own_rm11_1_0 (l : Launch) (Z : State) (a0 : Array Value) (hw : ∀ d ∈ tables_1, d.before a0 Z = true) (ws : List Jvm.Cond) (arr : Addr) (ka : ClassId) (x0 : Int32) (cs : Int32) (fm : Value) (h0 : Heap) (n0 : Nat) (Z0 : n0 ≤ h0.size) (O0 : Old Z n0 h0) (V_a : Arv Z h0 arr ka .byte (1 : Int32) [(.int x0)] (.int (0 : Int32)))  (hcs : ¬ cs = (0 : Int32)) (hfm : fm.isRef = true) (S_cs : Sta Z Z.heap "java/lang/String" "COMPACT_STRINGS" "Z" (.int cs)) (S_fm : Sta Z Z.heap "jdk/internal/util/Preconditions" "SIOOBE_FORMATTER" "Ljava/util/function/BiFunction;" fm) (S_ad : Sta Z Z.heap "java/lang/StringUTF16" "$assertionsDisabled" "Z" (.int (1 : Int32))) (S_hb : Sta Z Z.heap "java/lang/StringUTF16" "HI_BYTE_SHIFT" "I" (.int (0 : Int32))) (S_lb : Sta Z Z.heap "java/lang/StringUTF16" "LO_BYTE_SHIFT" "I" (.int (8 : Int32))) :
    MetFree l (⟨"java/lang/StringLatin1", "charAt", "([BI)C"⟩ : MethodName) (head1 (Jvm.Cond.code (⟨"java/lang/StringLatin1", "charAt", "([BI)C"⟩ : MethodName) jdk_43_method_2_code 2 (some .char) :: ws) own_r11_1_0) (fun a_ U_ => a_ = #[(.ref arr), (.int (0 : Int32))] ∧ Z.Warmed39 U_.vm ∧ U_.heap = h0) (fun _ _ _ _ _ => True) (fun _ U_ o_ U'_ => ∃ v_ L_, o_ = .returned v_ ∧ own_Q11_1_0 Z arr  ka  x0  cs  fm  h0 n0 v_ U'_.heap L_ ∧ FrameEnd U_ o_ U'_ L_ own_r11_1_0.cells own_r11_1_0.slots) := by
  refine MetFree.of_bodySF (plainFor_of_name own_pn4) hisR ?_
  intro p e s m args below meth c s₁ Bd hml0 hP hK
  obtain ⟨rfl, hZ, hh⟩ := hP
  have hx := Bd.exec
  have hby := Bd.bytes
  have hml : c.maxLocals = 2 := hml0
  have hown : s.vm.findClass "java/lang/StringLatin1" = some m.cls := findClass_of_methodNamed Bd.named
  have hnm := (name_of_methodNamed Bd.named Bd.method).1
  have X0 : Stand p l e own_r11_1_0 s m #[(.ref arr), (.int (0 : Int32))] below meth c s₁ [] 0 0 := Stand.of_body Bd
  have e0 : s₁.heap = h0 := by rw [← hh, Bd.state]; rfl
  have N0 := Fr.nil n0
  refine own_in (own_ef11_1_0 m arr) ?_
  show own_Go p e below (own_K s (own_Q11_1_0 Z arr  ka  x0  cs  fm  h0 n0) own_r11_1_0.cells own_r11_1_0.slots) s₁ (mkF m 0 #[.val (.ref arr), .val (.int (0 : Int32))] [])
  refine own_st (T' := s₁) (g' := (mkF m 2 #[.val (.ref arr), .val (.int (0 : Int32))] [(.ref arr), (.int (0 : Int32))])) (fun t k => ?_) ?_
  · show Steps p.tables e below (s₁.setTop (mkF m 0 #[.val (.ref arr), .val (.int (0 : Int32))] [])) t
    refine XS.iloadN X0.here hx rfl (hb hby own_d11_0) rfl ?_
    refine XS.aloadN X0.here hx rfl (hb hby own_d11_1) rfl rfl ?_
    exact k
  obtain ⟨cl1, Ar1, q1, S1, M1, H1, G1⟩ := id V_a
  refine own_st (T' := s₁) (g' := (mkF m 3 #[.val (.ref arr), .val (.int (0 : Int32))] [(.int (1 : Int32)), (.int (0 : Int32))])) (fun t k => ?_) ?_
  · show Steps p.tables e below (s₁.setTop (mkF m 2 #[.val (.ref arr), .val (.int (0 : Int32))] [(.ref arr), (.int (0 : Int32))])) t
    refine X0.arraylength hx (by rw [e0]; exact Ar1.1) (State.isArrayOf_alike hZ.alike Ar1.2.1) (g := (mkF m 2 #[.val (.ref arr), .val (.int (0 : Int32))] [(.ref arr), (.int (0 : Int32))])) rfl rfl (hb hby own_d11_2) _ ?_
    rw [len_of S1 M1]
    show Steps p.tables e below (s₁.setTop (mkF m 3 #[.val (.ref arr), .val (.int (0 : Int32))] [(.int (1 : Int32)), (.int (0 : Int32))])) t
    exact k
  obtain ⟨_, _, ⟨T2, L2, c2, n2⟩, -, X2, ⟨Lc2, hQ2, l2, y2, z2⟩, st2⟩ := Jvm.LawKit.callS X0 hx (y := (⟨"java/lang/String", "checkIndex", "(II)V"⟩ : MethodName)) hown (mvT hZ (hw _ (List.mem_of_getElem? (i := 63) rfl))) (mvT hZ (hw _ (List.mem_of_getElem? (i := 64) rfl))) (mvT hZ (hw _ (List.mem_of_getElem? (i := 3) rfl))) (mvT hZ (hw _ (List.mem_of_getElem? (i := 65) rfl))) (by decide) (backOf (W := 0) (own_rm12 l Z a0 hw [] (0 : Int32) (1 : Int32) cs fm h0 n0 Z0 O0 (by decide) (by decide) hcs hfm S_cs S_fm S_ad S_hb S_lb) hZ (hw _ (List.mem_of_getElem? (i := 65) rfl)) (hw _ (List.mem_of_getElem? (i := 3) rfl)) (by decide) (by decide)) (g := (mkF m 3 #[.val (.ref arr), .val (.int (0 : Int32))] [(.int (1 : Int32)), (.int (0 : Int32))])) rfl (by rw [hml]; rfl) (argsL := [(.int (0 : Int32)), (.int (1 : Int32))]) (rest := []) (lenOf own_pd2 rfl) rfl (by show 2 * 0 + _ ≤ _; exact Nat.le_of_eq rfl) (hb hby own_d11_3) (fun _ _ => ⟨rfl, e0, (by decide : 0 + 0 ≤ _), (by decide : 0 + 0 ≤ _)⟩)
  dsimp only [Pt.U, Pt.locs, Pt.cells, Pt.slots] at X2 l2 y2 z2 st2 hQ2
  subst l2 y2 z2
  obtain ⟨rfl, N2q, e2⟩ := hQ2
  have N2 := Fr.app N0 N2q
  refine own_st (T' := T2) (g' := (mkF m 6 #[.val (.ref arr), .val (.int (0 : Int32))] [])) st2 ?_
  refine own_st (T' := T2) (g' := (mkF m 8 #[.val (.ref arr), .val (.int (0 : Int32))] [(.int (0 : Int32)), (.ref arr)])) (fun t k => ?_) ?_
  · show Steps p.tables e below (T2.setTop (mkF m 6 #[.val (.ref arr), .val (.int (0 : Int32))] [])) t
    refine XS.aloadN X2.here hx rfl (hb hby own_d11_6) rfl rfl ?_
    refine XS.iloadN X2.here hx rfl (hb hby own_d11_7) rfl ?_
    exact k
  obtain ⟨cl3, Ar3, q3, S3, M3, H3, G3⟩ := id V_a
  refine own_st (T' := T2) (g' := (mkF m 14 #[.val (.ref arr), .val (.int (0 : Int32))] [(.int ((x0 &&& (255 : Int32)).toUInt32.toUInt16.toUInt32.toInt32))])) (fun t k => ?_) ?_
  · show Steps p.tables e below (T2.setTop (mkF m 8 #[.val (.ref arr), .val (.int (0 : Int32))] [(.int (0 : Int32)), (.ref arr)])) t
    refine X2.baloadBytes hx (j := (0 : Int32)) (v := (.int x0)) (by rw [e2]; exact Ar3.1) (State.isArrayOf_alike hZ.alike Ar3.2.1) Ar3.2.2 (inb_of S3 ⟨by decide, by decide⟩) (Has.at H3 (inb_of S3 ⟨by decide, by decide⟩) rfl) (g := (mkF m 8 #[.val (.ref arr), .val (.int (0 : Int32))] [(.int (0 : Int32)), (.ref arr)])) rfl rfl (hb hby own_d11_8) _ ?_
    show Steps p.tables e below (T2.setTop (mkF m 9 #[.val (.ref arr), .val (.int (0 : Int32))] [(.int x0)])) t
    refine XS.sipush X2.here hx rfl (hb hby own_d11_9) ?_
    refine XS.iand X2.here hx rfl (hb hby own_d11_12) rfl ?_
    refine XS.i2c X2.here hx rfl (hb hby own_d11_13) rfl ?_
    exact k
  exact own_retN X2 hx Bd (t := .char) (by simp) (XT.narrow_c _) (hb hby own_d11_14) e2 (⟨rfl, N2, rfl⟩) (by decide) (by decide)
def own_r11_2_0 : Room := { frames := 2, cells := 0, slots := 0, locals := 27 }
theorem own_ef11_2_0 (m : MethodId) (x0 : Addr) : entryFrame m #[(.ref x0), (.int (0 : Int32))] 2 = mkF m 0 #[.val (.ref x0), .val (.int (0 : Int32))] [] := by first | (simp [entryFrame, mkF, argsToLocals, Value.category]; done) | rfl
def own_Q11_2_0 (Z : State) (arr : Addr) (ka : ClassId) (x0 x1 : Int32) (cs : Int32) (fm : Value) (h0 : Heap) (n0 : Nat) : Option Value → Heap → List Loc → Prop := fun v h L => v = some (.int (own_lc x0)) ∧ Fr n0 L ∧ h = h0
set_option maxRecDepth 65536 in
set_option maxHeartbeats 40000000 in
theorem own_rm11_2_0 (l : Launch) (Z : State) (a0 : Array Value) (hw : ∀ d ∈ tables_1, d.before a0 Z = true) (ws : List Jvm.Cond) (arr : Addr) (ka : ClassId) (x0 x1 : Int32) (cs : Int32) (fm : Value) (h0 : Heap) (n0 : Nat) (Z0 : n0 ≤ h0.size) (O0 : Old Z n0 h0) (V_a : Arv Z h0 arr ka .byte (2 : Int32) [(.int x0), (.int x1)] (.int (0 : Int32)))  (hcs : ¬ cs = (0 : Int32)) (hfm : fm.isRef = true) (S_cs : Sta Z Z.heap "java/lang/String" "COMPACT_STRINGS" "Z" (.int cs)) (S_fm : Sta Z Z.heap "jdk/internal/util/Preconditions" "SIOOBE_FORMATTER" "Ljava/util/function/BiFunction;" fm) (S_ad : Sta Z Z.heap "java/lang/StringUTF16" "$assertionsDisabled" "Z" (.int (1 : Int32))) (S_hb : Sta Z Z.heap "java/lang/StringUTF16" "HI_BYTE_SHIFT" "I" (.int (0 : Int32))) (S_lb : Sta Z Z.heap "java/lang/StringUTF16" "LO_BYTE_SHIFT" "I" (.int (8 : Int32))) :
    MetFree l (⟨"java/lang/StringLatin1", "charAt", "([BI)C"⟩ : MethodName) (head1 (Jvm.Cond.code (⟨"java/lang/StringLatin1", "charAt", "([BI)C"⟩ : MethodName) jdk_43_method_2_code 2 (some .char) :: ws) own_r11_2_0) (fun a_ U_ => a_ = #[(.ref arr), (.int (0 : Int32))] ∧ Z.Warmed39 U_.vm ∧ U_.heap = h0) (fun _ _ _ _ _ => True) (fun _ U_ o_ U'_ => ∃ v_ L_, o_ = .returned v_ ∧ own_Q11_2_0 Z arr  ka  x0 x1  cs  fm  h0 n0 v_ U'_.heap L_ ∧ FrameEnd U_ o_ U'_ L_ own_r11_2_0.cells own_r11_2_0.slots) := by
  refine MetFree.of_bodySF (plainFor_of_name own_pn4) hisR ?_
  intro p e s m args below meth c s₁ Bd hml0 hP hK
  obtain ⟨rfl, hZ, hh⟩ := hP
  have hx := Bd.exec
  have hby := Bd.bytes
  have hml : c.maxLocals = 2 := hml0
  have hown : s.vm.findClass "java/lang/StringLatin1" = some m.cls := findClass_of_methodNamed Bd.named
  have hnm := (name_of_methodNamed Bd.named Bd.method).1
  have X0 : Stand p l e own_r11_2_0 s m #[(.ref arr), (.int (0 : Int32))] below meth c s₁ [] 0 0 := Stand.of_body Bd
  have e0 : s₁.heap = h0 := by rw [← hh, Bd.state]; rfl
  have N0 := Fr.nil n0
  refine own_in (own_ef11_2_0 m arr) ?_
  show own_Go p e below (own_K s (own_Q11_2_0 Z arr  ka  x0 x1  cs  fm  h0 n0) own_r11_2_0.cells own_r11_2_0.slots) s₁ (mkF m 0 #[.val (.ref arr), .val (.int (0 : Int32))] [])
  refine own_st (T' := s₁) (g' := (mkF m 2 #[.val (.ref arr), .val (.int (0 : Int32))] [(.ref arr), (.int (0 : Int32))])) (fun t k => ?_) ?_
  · show Steps p.tables e below (s₁.setTop (mkF m 0 #[.val (.ref arr), .val (.int (0 : Int32))] [])) t
    refine XS.iloadN X0.here hx rfl (hb hby own_d11_0) rfl ?_
    refine XS.aloadN X0.here hx rfl (hb hby own_d11_1) rfl rfl ?_
    exact k
  obtain ⟨cl1, Ar1, q1, S1, M1, H1, G1⟩ := id V_a
  refine own_st (T' := s₁) (g' := (mkF m 3 #[.val (.ref arr), .val (.int (0 : Int32))] [(.int (2 : Int32)), (.int (0 : Int32))])) (fun t k => ?_) ?_
  · show Steps p.tables e below (s₁.setTop (mkF m 2 #[.val (.ref arr), .val (.int (0 : Int32))] [(.ref arr), (.int (0 : Int32))])) t
    refine X0.arraylength hx (by rw [e0]; exact Ar1.1) (State.isArrayOf_alike hZ.alike Ar1.2.1) (g := (mkF m 2 #[.val (.ref arr), .val (.int (0 : Int32))] [(.ref arr), (.int (0 : Int32))])) rfl rfl (hb hby own_d11_2) _ ?_
    rw [len_of S1 M1]
    show Steps p.tables e below (s₁.setTop (mkF m 3 #[.val (.ref arr), .val (.int (0 : Int32))] [(.int (2 : Int32)), (.int (0 : Int32))])) t
    exact k
  obtain ⟨_, _, ⟨T2, L2, c2, n2⟩, -, X2, ⟨Lc2, hQ2, l2, y2, z2⟩, st2⟩ := Jvm.LawKit.callS X0 hx (y := (⟨"java/lang/String", "checkIndex", "(II)V"⟩ : MethodName)) hown (mvT hZ (hw _ (List.mem_of_getElem? (i := 63) rfl))) (mvT hZ (hw _ (List.mem_of_getElem? (i := 64) rfl))) (mvT hZ (hw _ (List.mem_of_getElem? (i := 3) rfl))) (mvT hZ (hw _ (List.mem_of_getElem? (i := 65) rfl))) (by decide) (backOf (W := 0) (own_rm12 l Z a0 hw [] (0 : Int32) (2 : Int32) cs fm h0 n0 Z0 O0 (by decide) (by decide) hcs hfm S_cs S_fm S_ad S_hb S_lb) hZ (hw _ (List.mem_of_getElem? (i := 65) rfl)) (hw _ (List.mem_of_getElem? (i := 3) rfl)) (by decide) (by decide)) (g := (mkF m 3 #[.val (.ref arr), .val (.int (0 : Int32))] [(.int (2 : Int32)), (.int (0 : Int32))])) rfl (by rw [hml]; rfl) (argsL := [(.int (0 : Int32)), (.int (2 : Int32))]) (rest := []) (lenOf own_pd2 rfl) rfl (by show 2 * 0 + _ ≤ _; exact Nat.le_of_eq rfl) (hb hby own_d11_3) (fun _ _ => ⟨rfl, e0, (by decide : 0 + 0 ≤ _), (by decide : 0 + 0 ≤ _)⟩)
  dsimp only [Pt.U, Pt.locs, Pt.cells, Pt.slots] at X2 l2 y2 z2 st2 hQ2
  subst l2 y2 z2
  obtain ⟨rfl, N2q, e2⟩ := hQ2
  have N2 := Fr.app N0 N2q
  refine own_st (T' := T2) (g' := (mkF m 6 #[.val (.ref arr), .val (.int (0 : Int32))] [])) st2 ?_
  refine own_st (T' := T2) (g' := (mkF m 8 #[.val (.ref arr), .val (.int (0 : Int32))] [(.int (0 : Int32)), (.ref arr)])) (fun t k => ?_) ?_
  · show Steps p.tables e below (T2.setTop (mkF m 6 #[.val (.ref arr), .val (.int (0 : Int32))] [])) t
    refine XS.aloadN X2.here hx rfl (hb hby own_d11_6) rfl rfl ?_
    refine XS.iloadN X2.here hx rfl (hb hby own_d11_7) rfl ?_
    exact k
  obtain ⟨cl3, Ar3, q3, S3, M3, H3, G3⟩ := id V_a
  refine own_st (T' := T2) (g' := (mkF m 14 #[.val (.ref arr), .val (.int (0 : Int32))] [(.int ((x0 &&& (255 : Int32)).toUInt32.toUInt16.toUInt32.toInt32))])) (fun t k => ?_) ?_
  · show Steps p.tables e below (T2.setTop (mkF m 8 #[.val (.ref arr), .val (.int (0 : Int32))] [(.int (0 : Int32)), (.ref arr)])) t
    refine X2.baloadBytes hx (j := (0 : Int32)) (v := (.int x0)) (by rw [e2]; exact Ar3.1) (State.isArrayOf_alike hZ.alike Ar3.2.1) Ar3.2.2 (inb_of S3 ⟨by decide, by decide⟩) (Has.at H3 (inb_of S3 ⟨by decide, by decide⟩) rfl) (g := (mkF m 8 #[.val (.ref arr), .val (.int (0 : Int32))] [(.int (0 : Int32)), (.ref arr)])) rfl rfl (hb hby own_d11_8) _ ?_
    show Steps p.tables e below (T2.setTop (mkF m 9 #[.val (.ref arr), .val (.int (0 : Int32))] [(.int x0)])) t
    refine XS.sipush X2.here hx rfl (hb hby own_d11_9) ?_
    refine XS.iand X2.here hx rfl (hb hby own_d11_12) rfl ?_
    refine XS.i2c X2.here hx rfl (hb hby own_d11_13) rfl ?_
    exact k
  exact own_retN X2 hx Bd (t := .char) (by simp) (XT.narrow_c _) (hb hby own_d11_14) e2 (⟨rfl, N2, rfl⟩) (by decide) (by decide)
def own_r10_0 : Room := { frames := 0, cells := 0, slots := 0, locals := 0 }
theorem own_ef10_0 (m : MethodId) (x0 : Addr) : entryFrame m #[(.ref x0)] 1 = mkF m 0 #[.val (.ref x0)] [] := by first | (simp [entryFrame, mkF, argsToLocals, Value.category]; done) | rfl
def own_Q10_0 (Z : State) (r : Addr) (cs : Int32) (fm : Value) (h0 : Heap) (n0 : Nat) : Option Value → Heap → List Loc → Prop := fun v h L => v = some (.int (1 : Int32)) ∧ Fr n0 L ∧ h = h0
set_option maxRecDepth 65536 in
set_option maxHeartbeats 40000000 in
theorem own_rm10_0 (l : Launch) (Z : State) (a0 : Array Value) (hw : ∀ d ∈ tables_1, d.before a0 Z = true) (ws : List Jvm.Cond) (r : Addr) (cs : Int32) (fm : Value) (h0 : Heap) (n0 : Nat) (Z0 : n0 ≤ h0.size) (O0 : Old Z n0 h0) (F_c : Fld Z h0 r "java/lang/String" "coder" "B" (.int (0 : Int32))) (hcs : ¬ cs = (0 : Int32)) (hfm : fm.isRef = true) (S_cs : Sta Z Z.heap "java/lang/String" "COMPACT_STRINGS" "Z" (.int cs)) (S_fm : Sta Z Z.heap "jdk/internal/util/Preconditions" "SIOOBE_FORMATTER" "Ljava/util/function/BiFunction;" fm) (S_ad : Sta Z Z.heap "java/lang/StringUTF16" "$assertionsDisabled" "Z" (.int (1 : Int32))) (S_hb : Sta Z Z.heap "java/lang/StringUTF16" "HI_BYTE_SHIFT" "I" (.int (0 : Int32))) (S_lb : Sta Z Z.heap "java/lang/StringUTF16" "LO_BYTE_SHIFT" "I" (.int (8 : Int32))) :
    MetFree l (⟨"java/lang/String", "isLatin1", "()Z"⟩ : MethodName) (head1 (Jvm.Cond.code (⟨"java/lang/String", "isLatin1", "()Z"⟩ : MethodName) jdk_42_method_154_code 1 (some .boolean) :: ws) own_r10_0) (fun a_ U_ => a_ = #[(.ref r)] ∧ Z.Warmed39 U_.vm ∧ U_.heap = h0) (fun _ _ _ _ _ => True) (fun _ U_ o_ U'_ => ∃ v_ L_, o_ = .returned v_ ∧ own_Q10_0 Z r  cs  fm  h0 n0 v_ U'_.heap L_ ∧ FrameEnd U_ o_ U'_ L_ own_r10_0.cells own_r10_0.slots) := by
  refine MetFree.of_bodySF (plainFor_of_name own_pn1) hisR ?_
  intro p e s m args below meth c s₁ Bd hml0 hP hK
  obtain ⟨rfl, hZ, hh⟩ := hP
  have hx := Bd.exec
  have hby := Bd.bytes
  have hml : c.maxLocals = 1 := hml0
  have hown : s.vm.findClass "java/lang/String" = some m.cls := findClass_of_methodNamed Bd.named
  have hnm := (name_of_methodNamed Bd.named Bd.method).1
  have X0 : Stand p l e own_r10_0 s m #[(.ref r)] below meth c s₁ [] 0 0 := Stand.of_body Bd
  have e0 : s₁.heap = h0 := by rw [← hh, Bd.state]; rfl
  have N0 := Fr.nil n0
  refine own_in (own_ef10_0 m r) ?_
  show own_Go p e below (own_K s (own_Q10_0 Z r  cs  fm  h0 n0) own_r10_0.cells own_r10_0.slots) s₁ (mkF m 0 #[.val (.ref r)] [])
  have f1 := S_cs.ext O0.2
  obtain ⟨T2, X2, e2, st2⟩ := getS2 X0 hx hZ hown (host := "") (Or.inl (hw _ (List.mem_of_getElem? (i := 5) rfl))) Via.refl e0 f1 (g := (mkF m 0 #[.val (.ref r)] [])) rfl (hb hby own_d10_0)
  refine own_st (T' := T2) (g' := (mkF m 3 #[.val (.ref r)] [(.int cs)])) st2 ?_
  refine own_st (T' := T2) (g' := (mkF m 7 #[.val (.ref r)] [(.ref r)])) (fun t k => ?_) ?_
  · show Steps p.tables e below (T2.setTop (mkF m 3 #[.val (.ref r)] [(.int cs)])) t
    refine XS.ifNo X2.here hx rfl (hb hby own_d10_3) rfl ((if0 _ _).trans (feq hcs).1) ?_
    refine XS.aloadN X2.here hx rfl (hb hby own_d10_6) rfl rfl ?_
    exact k
  obtain ⟨T3, X3, e3, st3⟩ := getF X2 hx hZ hown (host := "") (Or.inl (hw _ (List.mem_of_getElem? (i := 25) rfl))) Via.refl e2 F_c (g := (mkF m 7 #[.val (.ref r)] [(.ref r)])) rfl rfl (hb hby own_d10_7)
  refine own_st (T' := T3) (g' := (mkF m 10 #[.val (.ref r)] [(.int (0 : Int32))])) st3 ?_
  refine own_st (T' := T3) (g' := (mkF m 18 #[.val (.ref r)] [(.int (1 : Int32))])) (fun t k => ?_) ?_
  · show Steps p.tables e below (T3.setTop (mkF m 10 #[.val (.ref r)] [(.int (0 : Int32))])) t
    refine XS.ifNo X3.here hx rfl (hb hby own_d10_10) rfl ((if0 _ _).trans (teq (rfl : (0 : Int32) = (0 : Int32))).2) ?_
    refine XS.iconst X3.here hx rfl (hb hby own_d10_13) ?_
    refine XS.goto X3.here hx rfl (pc0 := 14) (pc' := 18) rfl (hb hby own_d10_14) (by decide) (by decide) ?_
    exact k
  exact own_retN X3 hx Bd (t := .boolean) (by simp) rfl (hb hby own_d10_18) e3 (⟨rfl, N0, rfl⟩) (by decide) (by decide)
def own_r10_1 : Room := { frames := 0, cells := 0, slots := 0, locals := 0 }
theorem own_ef10_1 (m : MethodId) (x0 : Addr) : entryFrame m #[(.ref x0)] 1 = mkF m 0 #[.val (.ref x0)] [] := by first | (simp [entryFrame, mkF, argsToLocals, Value.category]; done) | rfl
def own_Q10_1 (Z : State) (r : Addr) (cs : Int32) (fm : Value) (h0 : Heap) (n0 : Nat) : Option Value → Heap → List Loc → Prop := fun v h L => v = some (.int (0 : Int32)) ∧ Fr n0 L ∧ h = h0
set_option maxRecDepth 65536 in
set_option maxHeartbeats 40000000 in
theorem own_rm10_1 (l : Launch) (Z : State) (a0 : Array Value) (hw : ∀ d ∈ tables_1, d.before a0 Z = true) (ws : List Jvm.Cond) (r : Addr) (cs : Int32) (fm : Value) (h0 : Heap) (n0 : Nat) (Z0 : n0 ≤ h0.size) (O0 : Old Z n0 h0) (F_c : Fld Z h0 r "java/lang/String" "coder" "B" (.int (1 : Int32))) (hcs : ¬ cs = (0 : Int32)) (hfm : fm.isRef = true) (S_cs : Sta Z Z.heap "java/lang/String" "COMPACT_STRINGS" "Z" (.int cs)) (S_fm : Sta Z Z.heap "jdk/internal/util/Preconditions" "SIOOBE_FORMATTER" "Ljava/util/function/BiFunction;" fm) (S_ad : Sta Z Z.heap "java/lang/StringUTF16" "$assertionsDisabled" "Z" (.int (1 : Int32))) (S_hb : Sta Z Z.heap "java/lang/StringUTF16" "HI_BYTE_SHIFT" "I" (.int (0 : Int32))) (S_lb : Sta Z Z.heap "java/lang/StringUTF16" "LO_BYTE_SHIFT" "I" (.int (8 : Int32))) :
    MetFree l (⟨"java/lang/String", "isLatin1", "()Z"⟩ : MethodName) (head1 (Jvm.Cond.code (⟨"java/lang/String", "isLatin1", "()Z"⟩ : MethodName) jdk_42_method_154_code 1 (some .boolean) :: ws) own_r10_1) (fun a_ U_ => a_ = #[(.ref r)] ∧ Z.Warmed39 U_.vm ∧ U_.heap = h0) (fun _ _ _ _ _ => True) (fun _ U_ o_ U'_ => ∃ v_ L_, o_ = .returned v_ ∧ own_Q10_1 Z r  cs  fm  h0 n0 v_ U'_.heap L_ ∧ FrameEnd U_ o_ U'_ L_ own_r10_1.cells own_r10_1.slots) := by
  refine MetFree.of_bodySF (plainFor_of_name own_pn1) hisR ?_
  intro p e s m args below meth c s₁ Bd hml0 hP hK
  obtain ⟨rfl, hZ, hh⟩ := hP
  have hx := Bd.exec
  have hby := Bd.bytes
  have hml : c.maxLocals = 1 := hml0
  have hown : s.vm.findClass "java/lang/String" = some m.cls := findClass_of_methodNamed Bd.named
  have hnm := (name_of_methodNamed Bd.named Bd.method).1
  have X0 : Stand p l e own_r10_1 s m #[(.ref r)] below meth c s₁ [] 0 0 := Stand.of_body Bd
  have e0 : s₁.heap = h0 := by rw [← hh, Bd.state]; rfl
  have N0 := Fr.nil n0
  refine own_in (own_ef10_1 m r) ?_
  show own_Go p e below (own_K s (own_Q10_1 Z r  cs  fm  h0 n0) own_r10_1.cells own_r10_1.slots) s₁ (mkF m 0 #[.val (.ref r)] [])
  have f1 := S_cs.ext O0.2
  obtain ⟨T2, X2, e2, st2⟩ := getS2 X0 hx hZ hown (host := "") (Or.inl (hw _ (List.mem_of_getElem? (i := 5) rfl))) Via.refl e0 f1 (g := (mkF m 0 #[.val (.ref r)] [])) rfl (hb hby own_d10_0)
  refine own_st (T' := T2) (g' := (mkF m 3 #[.val (.ref r)] [(.int cs)])) st2 ?_
  refine own_st (T' := T2) (g' := (mkF m 7 #[.val (.ref r)] [(.ref r)])) (fun t k => ?_) ?_
  · show Steps p.tables e below (T2.setTop (mkF m 3 #[.val (.ref r)] [(.int cs)])) t
    refine XS.ifNo X2.here hx rfl (hb hby own_d10_3) rfl ((if0 _ _).trans (feq hcs).1) ?_
    refine XS.aloadN X2.here hx rfl (hb hby own_d10_6) rfl rfl ?_
    exact k
  obtain ⟨T3, X3, e3, st3⟩ := getF X2 hx hZ hown (host := "") (Or.inl (hw _ (List.mem_of_getElem? (i := 25) rfl))) Via.refl e2 F_c (g := (mkF m 7 #[.val (.ref r)] [(.ref r)])) rfl rfl (hb hby own_d10_7)
  refine own_st (T' := T3) (g' := (mkF m 10 #[.val (.ref r)] [(.int (1 : Int32))])) st3 ?_
  refine own_st (T' := T3) (g' := (mkF m 18 #[.val (.ref r)] [(.int (0 : Int32))])) (fun t k => ?_) ?_
  · show Steps p.tables e below (T3.setTop (mkF m 10 #[.val (.ref r)] [(.int (1 : Int32))])) t
    refine XS.ifYes X3.here hx rfl (pc0 := 10) (pc' := 17) rfl (hb hby own_d10_10) rfl ((if0 _ _).trans (feq (by decide : ¬ ((1 : Int32) = (0 : Int32)))).2) (by decide) (by decide) ?_
    refine XS.iconst X3.here hx rfl (hb hby own_d10_17) ?_
    exact k
  exact own_retN X3 hx Bd (t := .boolean) (by simp) rfl (hb hby own_d10_18) e3 (⟨rfl, N0, rfl⟩) (by decide) (by decide)
def own_r9_0_1 : Room := { frames := 3, cells := 0, slots := 0, locals := 40 }
theorem own_ef9_0_1 (m : MethodId) (x0 : Addr) : entryFrame m #[(.ref x0), (.int (0 : Int32))] 2 = mkF m 0 #[.val (.ref x0), .val (.int (0 : Int32))] [] := by first | (simp [entryFrame, mkF, argsToLocals, Value.category]; done) | rfl
def own_Q9_0_1 (Z : State) (r arr : Addr) (ka : ClassId) (x0 : Int32) (cs : Int32) (fm : Value) (h0 : Heap) (n0 : Nat) : Option Value → Heap → List Loc → Prop := fun v h L => v = some (.int (own_lc x0)) ∧ Fr n0 L ∧ h = h0
set_option maxRecDepth 65536 in
set_option maxHeartbeats 40000000 in
theorem own_rm9_0_1 (l : Launch) (Z : State) (a0 : Array Value) (hw : ∀ d ∈ tables_1, d.before a0 Z = true) (ws : List Jvm.Cond) (r arr : Addr) (ka : ClassId) (x0 : Int32) (cs : Int32) (fm : Value) (h0 : Heap) (n0 : Nat) (Z0 : n0 ≤ h0.size) (O0 : Old Z n0 h0) (E_r : Exa Z h0 r "java/lang/String") (F_v : Fld Z h0 r "java/lang/String" "value" "[B" (.ref arr)) (F_c : Fld Z h0 r "java/lang/String" "coder" "B" (.int (0 : Int32))) (V_a : Arv Z h0 arr ka .byte (1 : Int32) [(.int x0)] (.int (0 : Int32))) (hcs : ¬ cs = (0 : Int32)) (hfm : fm.isRef = true) (S_cs : Sta Z Z.heap "java/lang/String" "COMPACT_STRINGS" "Z" (.int cs)) (S_fm : Sta Z Z.heap "jdk/internal/util/Preconditions" "SIOOBE_FORMATTER" "Ljava/util/function/BiFunction;" fm) (S_ad : Sta Z Z.heap "java/lang/StringUTF16" "$assertionsDisabled" "Z" (.int (1 : Int32))) (S_hb : Sta Z Z.heap "java/lang/StringUTF16" "HI_BYTE_SHIFT" "I" (.int (0 : Int32))) (S_lb : Sta Z Z.heap "java/lang/StringUTF16" "LO_BYTE_SHIFT" "I" (.int (8 : Int32))) :
    MetFree l (⟨"java/lang/String", "charAt", "(I)C"⟩ : MethodName) (head1 (Jvm.Cond.code (⟨"java/lang/String", "charAt", "(I)C"⟩ : MethodName) jdk_42_method_56_code 2 (some .char) :: ws) own_r9_0_1) (fun a_ U_ => a_ = #[(.ref r), (.int (0 : Int32))] ∧ Z.Warmed39 U_.vm ∧ U_.heap = h0) (fun _ _ _ _ _ => True) (fun _ U_ o_ U'_ => ∃ v_ L_, o_ = .returned v_ ∧ own_Q9_0_1 Z r arr  ka  x0  cs  fm  h0 n0 v_ U'_.heap L_ ∧ FrameEnd U_ o_ U'_ L_ own_r9_0_1.cells own_r9_0_1.slots) := by
  refine MetFree.of_bodySF (plainFor_of_name own_pn1) hisR ?_
  intro p e s m args below meth c s₁ Bd hml0 hP hK
  obtain ⟨rfl, hZ, hh⟩ := hP
  have hx := Bd.exec
  have hby := Bd.bytes
  have hml : c.maxLocals = 2 := hml0
  have hown : s.vm.findClass "java/lang/String" = some m.cls := findClass_of_methodNamed Bd.named
  have hnm := (name_of_methodNamed Bd.named Bd.method).1
  have X0 : Stand p l e own_r9_0_1 s m #[(.ref r), (.int (0 : Int32))] below meth c s₁ [] 0 0 := Stand.of_body Bd
  have e0 : s₁.heap = h0 := by rw [← hh, Bd.state]; rfl
  have N0 := Fr.nil n0
  refine own_in (own_ef9_0_1 m r) ?_
  show own_Go p e below (own_K s (own_Q9_0_1 Z r arr  ka  x0  cs  fm  h0 n0) own_r9_0_1.cells own_r9_0_1.slots) s₁ (mkF m 0 #[.val (.ref r), .val (.int (0 : Int32))] [])
  refine own_st (T' := s₁) (g' := (mkF m 1 #[.val (.ref r), .val (.int (0 : Int32))] [(.ref r)])) (fun t k => ?_) ?_
  · show Steps p.tables e below (s₁.setTop (mkF m 0 #[.val (.ref r), .val (.int (0 : Int32))] [])) t
    refine XS.aloadN X0.here hx rfl (hb hby own_d9_0) rfl rfl ?_
    exact k
  obtain ⟨cq1, kq1, q1a, q1b, q1c⟩ := isOf hZ e0 E_r
  obtain ⟨_, _, ⟨T1, L1, c1, n1⟩, -, X1, ⟨Lc1, hQ1, l1, y1, z1⟩, st1⟩ := X0.virtualBack hx (y := (⟨"java/lang/String", "isLatin1", "()Z"⟩ : MethodName)) (z := (⟨"java/lang/String", "isLatin1", "()Z"⟩ : MethodName)) hown (mvT hZ (hw _ (List.mem_of_getElem? (i := 55) rfl))) (mvT hZ (hw _ (List.mem_of_getElem? (i := 56) rfl))) (notFace_of_selects (args := #[]) (mvT hZ (hw _ (List.mem_of_getElem? (i := 58) rfl)))) (mvT hZ (hw _ (List.mem_of_getElem? (i := 58) rfl))) (mvT hZ (hw _ (List.mem_of_getElem? (i := 57) rfl))) (by decide) (backOf (W := 0) (own_rm10_0 l Z a0 hw [] r cs fm h0 n0 Z0 O0 F_c hcs hfm S_cs S_fm S_ad S_hb S_lb) hZ (hw _ (List.mem_of_getElem? (i := 59) rfl)) (hw _ (List.mem_of_getElem? (i := 3) rfl)) (by decide) (by decide)) q1a q1c (g := (mkF m 1 #[.val (.ref r), .val (.int (0 : Int32))] [(.ref r)])) rfl (by rw [hml]; rfl) (Steps.refl _) (argsL := []) (rest := []) (lenOf own_pd5 rfl) rfl (by show 2 * 0 + _ ≤ _; exact Nat.le_of_eq rfl) (hb hby own_d9_1) (fun _ _ => ⟨rfl, e0, (by decide : 0 + 0 ≤ _), (by decide : 0 + 0 ≤ _)⟩)
  dsimp only [Pt.U, Pt.locs, Pt.cells, Pt.slots] at X1 l1 y1 z1 st1 hQ1
  subst l1 y1 z1
  obtain ⟨rfl, N1q, e1⟩ := hQ1
  have N1 := Fr.app N0 N1q
  refine own_tr (T' := T1) (g' := (mkF m 4 #[.val (.ref r), .val (.int (0 : Int32))] [(.int (1 : Int32))])) st1 ?_
  refine own_st (T' := T1) (g' := (mkF m 8 #[.val (.ref r), .val (.int (0 : Int32))] [(.ref r)])) (fun t k => ?_) ?_
  · show Steps p.tables e below (T1.setTop (mkF m 4 #[.val (.ref r), .val (.int (0 : Int32))] [(.int (1 : Int32))])) t
    refine XS.ifNo X1.here hx rfl (hb hby own_d9_4) rfl ((if0 _ _).trans (feq (by decide : ¬ ((1 : Int32) = (0 : Int32)))).1) ?_
    refine XS.aloadN X1.here hx rfl (hb hby own_d9_7) rfl rfl ?_
    exact k
  obtain ⟨T2, X2, e2, st2⟩ := getF X1 hx hZ hown (host := "") (Or.inl (hw _ (List.mem_of_getElem? (i := 23) rfl))) Via.refl e1 F_v (g := (mkF m 8 #[.val (.ref r), .val (.int (0 : Int32))] [(.ref r)])) rfl rfl (hb hby own_d9_8)
  refine own_st (T' := T2) (g' := (mkF m 11 #[.val (.ref r), .val (.int (0 : Int32))] [(.ref arr)])) st2 ?_
  refine own_st (T' := T2) (g' := (mkF m 12 #[.val (.ref r), .val (.int (0 : Int32))] [(.int (0 : Int32)), (.ref arr)])) (fun t k => ?_) ?_
  · show Steps p.tables e below (T2.setTop (mkF m 11 #[.val (.ref r), .val (.int (0 : Int32))] [(.ref arr)])) t
    refine XS.iloadN X2.here hx rfl (hb hby own_d9_11) rfl ?_
    exact k
  obtain ⟨_, _, ⟨T3, L3, c3, n3⟩, -, X3, ⟨Lc3, hQ3, l3, y3, z3⟩, st3⟩ := Jvm.LawKit.callS X2 hx (y := (⟨"java/lang/StringLatin1", "charAt", "([BI)C"⟩ : MethodName)) hown (mvT hZ (hw _ (List.mem_of_getElem? (i := 60) rfl))) (mvT hZ (hw _ (List.mem_of_getElem? (i := 61) rfl))) (mvT hZ (hw _ (List.mem_of_getElem? (i := 8) rfl))) (mvT hZ (hw _ (List.mem_of_getElem? (i := 62) rfl))) (by decide) (backOf (W := 0) (own_rm11_1_0 l Z a0 hw [] arr ka x0 cs fm h0 n0 Z0 O0 V_a hcs hfm S_cs S_fm S_ad S_hb S_lb) hZ (hw _ (List.mem_of_getElem? (i := 62) rfl)) (hw _ (List.mem_of_getElem? (i := 8) rfl)) (by decide) (by decide)) (g := (mkF m 12 #[.val (.ref r), .val (.int (0 : Int32))] [(.int (0 : Int32)), (.ref arr)])) rfl (by rw [hml]; rfl) (argsL := [(.ref arr), (.int (0 : Int32))]) (rest := []) (lenOf own_pd4 rfl) rfl (by show 2 * 0 + _ ≤ _; exact Nat.le_of_eq rfl) (hb hby own_d9_12) (fun _ _ => ⟨rfl, e2, (by decide : 0 + 0 ≤ _), (by decide : 0 + 0 ≤ _)⟩)
  dsimp only [Pt.U, Pt.locs, Pt.cells, Pt.slots] at X3 l3 y3 z3 st3 hQ3
  subst l3 y3 z3
  obtain ⟨rfl, N3q, e3⟩ := hQ3
  have N3 := Fr.app N1 N3q
  refine own_st (T' := T3) (g' := (mkF m 15 #[.val (.ref r), .val (.int (0 : Int32))] [(.int (own_lc x0))])) st3 ?_
  exact own_retN X3 hx Bd (t := .char) (by simp) (XT.narrow_c _) (hb hby own_d9_15) e3 (⟨rfl, N3, rfl⟩) (by decide) (by decide)
def own_r9_0_2 : Room := { frames := 3, cells := 0, slots := 0, locals := 40 }
theorem own_ef9_0_2 (m : MethodId) (x0 : Addr) : entryFrame m #[(.ref x0), (.int (0 : Int32))] 2 = mkF m 0 #[.val (.ref x0), .val (.int (0 : Int32))] [] := by first | (simp [entryFrame, mkF, argsToLocals, Value.category]; done) | rfl
def own_Q9_0_2 (Z : State) (r arr : Addr) (ka : ClassId) (x0 x1 : Int32) (cs : Int32) (fm : Value) (h0 : Heap) (n0 : Nat) : Option Value → Heap → List Loc → Prop := fun v h L => v = some (.int (own_lc x0)) ∧ Fr n0 L ∧ h = h0
set_option maxRecDepth 65536 in
set_option maxHeartbeats 40000000 in
theorem own_rm9_0_2 (l : Launch) (Z : State) (a0 : Array Value) (hw : ∀ d ∈ tables_1, d.before a0 Z = true) (ws : List Jvm.Cond) (r arr : Addr) (ka : ClassId) (x0 x1 : Int32) (cs : Int32) (fm : Value) (h0 : Heap) (n0 : Nat) (Z0 : n0 ≤ h0.size) (O0 : Old Z n0 h0) (E_r : Exa Z h0 r "java/lang/String") (F_v : Fld Z h0 r "java/lang/String" "value" "[B" (.ref arr)) (F_c : Fld Z h0 r "java/lang/String" "coder" "B" (.int (0 : Int32))) (V_a : Arv Z h0 arr ka .byte (2 : Int32) [(.int x0), (.int x1)] (.int (0 : Int32))) (hcs : ¬ cs = (0 : Int32)) (hfm : fm.isRef = true) (S_cs : Sta Z Z.heap "java/lang/String" "COMPACT_STRINGS" "Z" (.int cs)) (S_fm : Sta Z Z.heap "jdk/internal/util/Preconditions" "SIOOBE_FORMATTER" "Ljava/util/function/BiFunction;" fm) (S_ad : Sta Z Z.heap "java/lang/StringUTF16" "$assertionsDisabled" "Z" (.int (1 : Int32))) (S_hb : Sta Z Z.heap "java/lang/StringUTF16" "HI_BYTE_SHIFT" "I" (.int (0 : Int32))) (S_lb : Sta Z Z.heap "java/lang/StringUTF16" "LO_BYTE_SHIFT" "I" (.int (8 : Int32))) :
    MetFree l (⟨"java/lang/String", "charAt", "(I)C"⟩ : MethodName) (head1 (Jvm.Cond.code (⟨"java/lang/String", "charAt", "(I)C"⟩ : MethodName) jdk_42_method_56_code 2 (some .char) :: ws) own_r9_0_2) (fun a_ U_ => a_ = #[(.ref r), (.int (0 : Int32))] ∧ Z.Warmed39 U_.vm ∧ U_.heap = h0) (fun _ _ _ _ _ => True) (fun _ U_ o_ U'_ => ∃ v_ L_, o_ = .returned v_ ∧ own_Q9_0_2 Z r arr  ka  x0 x1  cs  fm  h0 n0 v_ U'_.heap L_ ∧ FrameEnd U_ o_ U'_ L_ own_r9_0_2.cells own_r9_0_2.slots) := by
  refine MetFree.of_bodySF (plainFor_of_name own_pn1) hisR ?_
  intro p e s m args below meth c s₁ Bd hml0 hP hK
  obtain ⟨rfl, hZ, hh⟩ := hP
  have hx := Bd.exec
  have hby := Bd.bytes
  have hml : c.maxLocals = 2 := hml0
  have hown : s.vm.findClass "java/lang/String" = some m.cls := findClass_of_methodNamed Bd.named
  have hnm := (name_of_methodNamed Bd.named Bd.method).1
  have X0 : Stand p l e own_r9_0_2 s m #[(.ref r), (.int (0 : Int32))] below meth c s₁ [] 0 0 := Stand.of_body Bd
  have e0 : s₁.heap = h0 := by rw [← hh, Bd.state]; rfl
  have N0 := Fr.nil n0
  refine own_in (own_ef9_0_2 m r) ?_
  show own_Go p e below (own_K s (own_Q9_0_2 Z r arr  ka  x0 x1  cs  fm  h0 n0) own_r9_0_2.cells own_r9_0_2.slots) s₁ (mkF m 0 #[.val (.ref r), .val (.int (0 : Int32))] [])
  refine own_st (T' := s₁) (g' := (mkF m 1 #[.val (.ref r), .val (.int (0 : Int32))] [(.ref r)])) (fun t k => ?_) ?_
  · show Steps p.tables e below (s₁.setTop (mkF m 0 #[.val (.ref r), .val (.int (0 : Int32))] [])) t
    refine XS.aloadN X0.here hx rfl (hb hby own_d9_0) rfl rfl ?_
    exact k
  obtain ⟨cq1, kq1, q1a, q1b, q1c⟩ := isOf hZ e0 E_r
  obtain ⟨_, _, ⟨T1, L1, c1, n1⟩, -, X1, ⟨Lc1, hQ1, l1, y1, z1⟩, st1⟩ := X0.virtualBack hx (y := (⟨"java/lang/String", "isLatin1", "()Z"⟩ : MethodName)) (z := (⟨"java/lang/String", "isLatin1", "()Z"⟩ : MethodName)) hown (mvT hZ (hw _ (List.mem_of_getElem? (i := 55) rfl))) (mvT hZ (hw _ (List.mem_of_getElem? (i := 56) rfl))) (notFace_of_selects (args := #[]) (mvT hZ (hw _ (List.mem_of_getElem? (i := 58) rfl)))) (mvT hZ (hw _ (List.mem_of_getElem? (i := 58) rfl))) (mvT hZ (hw _ (List.mem_of_getElem? (i := 57) rfl))) (by decide) (backOf (W := 0) (own_rm10_0 l Z a0 hw [] r cs fm h0 n0 Z0 O0 F_c hcs hfm S_cs S_fm S_ad S_hb S_lb) hZ (hw _ (List.mem_of_getElem? (i := 59) rfl)) (hw _ (List.mem_of_getElem? (i := 3) rfl)) (by decide) (by decide)) q1a q1c (g := (mkF m 1 #[.val (.ref r), .val (.int (0 : Int32))] [(.ref r)])) rfl (by rw [hml]; rfl) (Steps.refl _) (argsL := []) (rest := []) (lenOf own_pd5 rfl) rfl (by show 2 * 0 + _ ≤ _; exact Nat.le_of_eq rfl) (hb hby own_d9_1) (fun _ _ => ⟨rfl, e0, (by decide : 0 + 0 ≤ _), (by decide : 0 + 0 ≤ _)⟩)
  dsimp only [Pt.U, Pt.locs, Pt.cells, Pt.slots] at X1 l1 y1 z1 st1 hQ1
  subst l1 y1 z1
  obtain ⟨rfl, N1q, e1⟩ := hQ1
  have N1 := Fr.app N0 N1q
  refine own_tr (T' := T1) (g' := (mkF m 4 #[.val (.ref r), .val (.int (0 : Int32))] [(.int (1 : Int32))])) st1 ?_
  refine own_st (T' := T1) (g' := (mkF m 8 #[.val (.ref r), .val (.int (0 : Int32))] [(.ref r)])) (fun t k => ?_) ?_
  · show Steps p.tables e below (T1.setTop (mkF m 4 #[.val (.ref r), .val (.int (0 : Int32))] [(.int (1 : Int32))])) t
    refine XS.ifNo X1.here hx rfl (hb hby own_d9_4) rfl ((if0 _ _).trans (feq (by decide : ¬ ((1 : Int32) = (0 : Int32)))).1) ?_
    refine XS.aloadN X1.here hx rfl (hb hby own_d9_7) rfl rfl ?_
    exact k
  obtain ⟨T2, X2, e2, st2⟩ := getF X1 hx hZ hown (host := "") (Or.inl (hw _ (List.mem_of_getElem? (i := 23) rfl))) Via.refl e1 F_v (g := (mkF m 8 #[.val (.ref r), .val (.int (0 : Int32))] [(.ref r)])) rfl rfl (hb hby own_d9_8)
  refine own_st (T' := T2) (g' := (mkF m 11 #[.val (.ref r), .val (.int (0 : Int32))] [(.ref arr)])) st2 ?_
  refine own_st (T' := T2) (g' := (mkF m 12 #[.val (.ref r), .val (.int (0 : Int32))] [(.int (0 : Int32)), (.ref arr)])) (fun t k => ?_) ?_
  · show Steps p.tables e below (T2.setTop (mkF m 11 #[.val (.ref r), .val (.int (0 : Int32))] [(.ref arr)])) t
    refine XS.iloadN X2.here hx rfl (hb hby own_d9_11) rfl ?_
    exact k
  obtain ⟨_, _, ⟨T3, L3, c3, n3⟩, -, X3, ⟨Lc3, hQ3, l3, y3, z3⟩, st3⟩ := Jvm.LawKit.callS X2 hx (y := (⟨"java/lang/StringLatin1", "charAt", "([BI)C"⟩ : MethodName)) hown (mvT hZ (hw _ (List.mem_of_getElem? (i := 60) rfl))) (mvT hZ (hw _ (List.mem_of_getElem? (i := 61) rfl))) (mvT hZ (hw _ (List.mem_of_getElem? (i := 8) rfl))) (mvT hZ (hw _ (List.mem_of_getElem? (i := 62) rfl))) (by decide) (backOf (W := 0) (own_rm11_2_0 l Z a0 hw [] arr ka x0 x1 cs fm h0 n0 Z0 O0 V_a hcs hfm S_cs S_fm S_ad S_hb S_lb) hZ (hw _ (List.mem_of_getElem? (i := 62) rfl)) (hw _ (List.mem_of_getElem? (i := 8) rfl)) (by decide) (by decide)) (g := (mkF m 12 #[.val (.ref r), .val (.int (0 : Int32))] [(.int (0 : Int32)), (.ref arr)])) rfl (by rw [hml]; rfl) (argsL := [(.ref arr), (.int (0 : Int32))]) (rest := []) (lenOf own_pd4 rfl) rfl (by show 2 * 0 + _ ≤ _; exact Nat.le_of_eq rfl) (hb hby own_d9_12) (fun _ _ => ⟨rfl, e2, (by decide : 0 + 0 ≤ _), (by decide : 0 + 0 ≤ _)⟩)
  dsimp only [Pt.U, Pt.locs, Pt.cells, Pt.slots] at X3 l3 y3 z3 st3 hQ3
  subst l3 y3 z3
  obtain ⟨rfl, N3q, e3⟩ := hQ3
  have N3 := Fr.app N1 N3q
  refine own_st (T' := T3) (g' := (mkF m 15 #[.val (.ref r), .val (.int (0 : Int32))] [(.int (own_lc x0))])) st3 ?_
  exact own_retN X3 hx Bd (t := .char) (by simp) (XT.narrow_c _) (hb hby own_d9_15) e3 (⟨rfl, N3, rfl⟩) (by decide) (by decide)
def own_r9_1_2 : Room := { frames := 4, cells := 0, slots := 0, locals := 53 }
theorem own_ef9_1_2 (m : MethodId) (x0 : Addr) : entryFrame m #[(.ref x0), (.int (0 : Int32))] 2 = mkF m 0 #[.val (.ref x0), .val (.int (0 : Int32))] [] := by first | (simp [entryFrame, mkF, argsToLocals, Value.category]; done) | rfl
def own_Q9_1_2 (Z : State) (r arr : Addr) (ka : ClassId) (x0 x1 : Int32) (cs : Int32) (fm : Value) (h0 : Heap) (n0 : Nat) : Option Value → Heap → List Loc → Prop := fun v h L => v = some (.int (own_gc x0 x1)) ∧ Fr n0 L ∧ h = h0
set_option maxRecDepth 65536 in
set_option maxHeartbeats 40000000 in
theorem own_rm9_1_2 (l : Launch) (Z : State) (a0 : Array Value) (hw : ∀ d ∈ tables_1, d.before a0 Z = true) (ws : List Jvm.Cond) (r arr : Addr) (ka : ClassId) (x0 x1 : Int32) (cs : Int32) (fm : Value) (h0 : Heap) (n0 : Nat) (Z0 : n0 ≤ h0.size) (O0 : Old Z n0 h0) (E_r : Exa Z h0 r "java/lang/String") (F_v : Fld Z h0 r "java/lang/String" "value" "[B" (.ref arr)) (F_c : Fld Z h0 r "java/lang/String" "coder" "B" (.int (1 : Int32))) (V_a : Arv Z h0 arr ka .byte (2 : Int32) [(.int x0), (.int x1)] (.int (0 : Int32))) (hcs : ¬ cs = (0 : Int32)) (hfm : fm.isRef = true) (S_cs : Sta Z Z.heap "java/lang/String" "COMPACT_STRINGS" "Z" (.int cs)) (S_fm : Sta Z Z.heap "jdk/internal/util/Preconditions" "SIOOBE_FORMATTER" "Ljava/util/function/BiFunction;" fm) (S_ad : Sta Z Z.heap "java/lang/StringUTF16" "$assertionsDisabled" "Z" (.int (1 : Int32))) (S_hb : Sta Z Z.heap "java/lang/StringUTF16" "HI_BYTE_SHIFT" "I" (.int (0 : Int32))) (S_lb : Sta Z Z.heap "java/lang/StringUTF16" "LO_BYTE_SHIFT" "I" (.int (8 : Int32))) :
    MetFree l (⟨"java/lang/String", "charAt", "(I)C"⟩ : MethodName) (head1 (Jvm.Cond.code (⟨"java/lang/String", "charAt", "(I)C"⟩ : MethodName) jdk_42_method_56_code 2 (some .char) :: ws) own_r9_1_2) (fun a_ U_ => a_ = #[(.ref r), (.int (0 : Int32))] ∧ Z.Warmed39 U_.vm ∧ U_.heap = h0) (fun _ _ _ _ _ => True) (fun _ U_ o_ U'_ => ∃ v_ L_, o_ = .returned v_ ∧ own_Q9_1_2 Z r arr  ka  x0 x1  cs  fm  h0 n0 v_ U'_.heap L_ ∧ FrameEnd U_ o_ U'_ L_ own_r9_1_2.cells own_r9_1_2.slots) := by
  refine MetFree.of_bodySF (plainFor_of_name own_pn1) hisR ?_
  intro p e s m args below meth c s₁ Bd hml0 hP hK
  obtain ⟨rfl, hZ, hh⟩ := hP
  have hx := Bd.exec
  have hby := Bd.bytes
  have hml : c.maxLocals = 2 := hml0
  have hown : s.vm.findClass "java/lang/String" = some m.cls := findClass_of_methodNamed Bd.named
  have hnm := (name_of_methodNamed Bd.named Bd.method).1
  have X0 : Stand p l e own_r9_1_2 s m #[(.ref r), (.int (0 : Int32))] below meth c s₁ [] 0 0 := Stand.of_body Bd
  have e0 : s₁.heap = h0 := by rw [← hh, Bd.state]; rfl
  have N0 := Fr.nil n0
  refine own_in (own_ef9_1_2 m r) ?_
  show own_Go p e below (own_K s (own_Q9_1_2 Z r arr  ka  x0 x1  cs  fm  h0 n0) own_r9_1_2.cells own_r9_1_2.slots) s₁ (mkF m 0 #[.val (.ref r), .val (.int (0 : Int32))] [])
  refine own_st (T' := s₁) (g' := (mkF m 1 #[.val (.ref r), .val (.int (0 : Int32))] [(.ref r)])) (fun t k => ?_) ?_
  · show Steps p.tables e below (s₁.setTop (mkF m 0 #[.val (.ref r), .val (.int (0 : Int32))] [])) t
    refine XS.aloadN X0.here hx rfl (hb hby own_d9_0) rfl rfl ?_
    exact k
  obtain ⟨cq1, kq1, q1a, q1b, q1c⟩ := isOf hZ e0 E_r
  obtain ⟨_, _, ⟨T1, L1, c1, n1⟩, -, X1, ⟨Lc1, hQ1, l1, y1, z1⟩, st1⟩ := X0.virtualBack hx (y := (⟨"java/lang/String", "isLatin1", "()Z"⟩ : MethodName)) (z := (⟨"java/lang/String", "isLatin1", "()Z"⟩ : MethodName)) hown (mvT hZ (hw _ (List.mem_of_getElem? (i := 55) rfl))) (mvT hZ (hw _ (List.mem_of_getElem? (i := 56) rfl))) (notFace_of_selects (args := #[]) (mvT hZ (hw _ (List.mem_of_getElem? (i := 58) rfl)))) (mvT hZ (hw _ (List.mem_of_getElem? (i := 58) rfl))) (mvT hZ (hw _ (List.mem_of_getElem? (i := 57) rfl))) (by decide) (backOf (W := 0) (own_rm10_1 l Z a0 hw [] r cs fm h0 n0 Z0 O0 F_c hcs hfm S_cs S_fm S_ad S_hb S_lb) hZ (hw _ (List.mem_of_getElem? (i := 59) rfl)) (hw _ (List.mem_of_getElem? (i := 3) rfl)) (by decide) (by decide)) q1a q1c (g := (mkF m 1 #[.val (.ref r), .val (.int (0 : Int32))] [(.ref r)])) rfl (by rw [hml]; rfl) (Steps.refl _) (argsL := []) (rest := []) (lenOf own_pd5 rfl) rfl (by show 2 * 0 + _ ≤ _; exact Nat.le_of_eq rfl) (hb hby own_d9_1) (fun _ _ => ⟨rfl, e0, (by decide : 0 + 0 ≤ _), (by decide : 0 + 0 ≤ _)⟩)
  dsimp only [Pt.U, Pt.locs, Pt.cells, Pt.slots] at X1 l1 y1 z1 st1 hQ1
  subst l1 y1 z1
  obtain ⟨rfl, N1q, e1⟩ := hQ1
  have N1 := Fr.app N0 N1q
  refine own_tr (T' := T1) (g' := (mkF m 4 #[.val (.ref r), .val (.int (0 : Int32))] [(.int (0 : Int32))])) st1 ?_
  refine own_st (T' := T1) (g' := (mkF m 17 #[.val (.ref r), .val (.int (0 : Int32))] [(.ref r)])) (fun t k => ?_) ?_
  · show Steps p.tables e below (T1.setTop (mkF m 4 #[.val (.ref r), .val (.int (0 : Int32))] [(.int (0 : Int32))])) t
    refine XS.ifYes X1.here hx rfl (pc0 := 4) (pc' := 16) rfl (hb hby own_d9_4) rfl ((if0 _ _).trans (teq (rfl : (0 : Int32) = (0 : Int32))).1) (by decide) (by decide) ?_
    refine XS.aloadN X1.here hx rfl (hb hby own_d9_16) rfl rfl ?_
    exact k
  obtain ⟨T2, X2, e2, st2⟩ := getF X1 hx hZ hown (host := "") (Or.inl (hw _ (List.mem_of_getElem? (i := 23) rfl))) Via.refl e1 F_v (g := (mkF m 17 #[.val (.ref r), .val (.int (0 : Int32))] [(.ref r)])) rfl rfl (hb hby own_d9_17)
  refine own_st (T' := T2) (g' := (mkF m 20 #[.val (.ref r), .val (.int (0 : Int32))] [(.ref arr)])) st2 ?_
  refine own_st (T' := T2) (g' := (mkF m 21 #[.val (.ref r), .val (.int (0 : Int32))] [(.int (0 : Int32)), (.ref arr)])) (fun t k => ?_) ?_
  · show Steps p.tables e below (T2.setTop (mkF m 20 #[.val (.ref r), .val (.int (0 : Int32))] [(.ref arr)])) t
    refine XS.iloadN X2.here hx rfl (hb hby own_d9_20) rfl ?_
    exact k
  obtain ⟨_, _, ⟨T3, L3, c3, n3⟩, -, X3, ⟨Lc3, hQ3, l3, y3, z3⟩, st3⟩ := Jvm.LawKit.callS X2 hx (y := (⟨"java/lang/StringUTF16", "charAt", "([BI)C"⟩ : MethodName)) hown (mvT hZ (hw _ (List.mem_of_getElem? (i := 108) rfl))) (mvT hZ (hw _ (List.mem_of_getElem? (i := 109) rfl))) (mvT hZ (hw _ (List.mem_of_getElem? (i := 81) rfl))) (mvT hZ (hw _ (List.mem_of_getElem? (i := 110) rfl))) (by decide) (backOf (W := 0) (own_rm24_2_0 l Z a0 hw [] arr ka x0 x1 cs fm h0 n0 Z0 O0 V_a hcs hfm S_cs S_fm S_ad S_hb S_lb) hZ (hw _ (List.mem_of_getElem? (i := 110) rfl)) (hw _ (List.mem_of_getElem? (i := 81) rfl)) (by decide) (by decide)) (g := (mkF m 21 #[.val (.ref r), .val (.int (0 : Int32))] [(.int (0 : Int32)), (.ref arr)])) rfl (by rw [hml]; rfl) (argsL := [(.ref arr), (.int (0 : Int32))]) (rest := []) (lenOf own_pd4 rfl) rfl (by show 2 * 0 + _ ≤ _; exact Nat.le_of_eq rfl) (hb hby own_d9_21) (fun _ _ => ⟨rfl, e2, (by decide : 0 + 0 ≤ _), (by decide : 0 + 0 ≤ _)⟩)
  dsimp only [Pt.U, Pt.locs, Pt.cells, Pt.slots] at X3 l3 y3 z3 st3 hQ3
  subst l3 y3 z3
  obtain ⟨rfl, N3q, e3⟩ := hQ3
  have N3 := Fr.app N1 N3q
  refine own_st (T' := T3) (g' := (mkF m 24 #[.val (.ref r), .val (.int (0 : Int32))] [(.int (own_gc x0 x1))])) st3 ?_
  exact own_retN X3 hx Bd (t := .char) (by simp) (XT.narrow_c _) (hb hby own_d9_24) e3 (⟨rfl, N3, rfl⟩) (by decide) (by decide)
def own_r9_1_4 : Room := { frames := 4, cells := 0, slots := 0, locals := 53 }
theorem own_ef9_1_4 (m : MethodId) (x0 : Addr) : entryFrame m #[(.ref x0), (.int (0 : Int32))] 2 = mkF m 0 #[.val (.ref x0), .val (.int (0 : Int32))] [] := by first | (simp [entryFrame, mkF, argsToLocals, Value.category]; done) | rfl
def own_Q9_1_4 (Z : State) (r arr : Addr) (ka : ClassId) (x0 x1 x2 x3 : Int32) (cs : Int32) (fm : Value) (h0 : Heap) (n0 : Nat) : Option Value → Heap → List Loc → Prop := fun v h L => v = some (.int (own_gc x0 x1)) ∧ Fr n0 L ∧ h = h0
set_option maxRecDepth 65536 in
set_option maxHeartbeats 40000000 in
theorem own_rm9_1_4 (l : Launch) (Z : State) (a0 : Array Value) (hw : ∀ d ∈ tables_1, d.before a0 Z = true) (ws : List Jvm.Cond) (r arr : Addr) (ka : ClassId) (x0 x1 x2 x3 : Int32) (cs : Int32) (fm : Value) (h0 : Heap) (n0 : Nat) (Z0 : n0 ≤ h0.size) (O0 : Old Z n0 h0) (E_r : Exa Z h0 r "java/lang/String") (F_v : Fld Z h0 r "java/lang/String" "value" "[B" (.ref arr)) (F_c : Fld Z h0 r "java/lang/String" "coder" "B" (.int (1 : Int32))) (V_a : Arv Z h0 arr ka .byte (4 : Int32) [(.int x0), (.int x1), (.int x2), (.int x3)] (.int (0 : Int32))) (hcs : ¬ cs = (0 : Int32)) (hfm : fm.isRef = true) (S_cs : Sta Z Z.heap "java/lang/String" "COMPACT_STRINGS" "Z" (.int cs)) (S_fm : Sta Z Z.heap "jdk/internal/util/Preconditions" "SIOOBE_FORMATTER" "Ljava/util/function/BiFunction;" fm) (S_ad : Sta Z Z.heap "java/lang/StringUTF16" "$assertionsDisabled" "Z" (.int (1 : Int32))) (S_hb : Sta Z Z.heap "java/lang/StringUTF16" "HI_BYTE_SHIFT" "I" (.int (0 : Int32))) (S_lb : Sta Z Z.heap "java/lang/StringUTF16" "LO_BYTE_SHIFT" "I" (.int (8 : Int32))) :
    MetFree l (⟨"java/lang/String", "charAt", "(I)C"⟩ : MethodName) (head1 (Jvm.Cond.code (⟨"java/lang/String", "charAt", "(I)C"⟩ : MethodName) jdk_42_method_56_code 2 (some .char) :: ws) own_r9_1_4) (fun a_ U_ => a_ = #[(.ref r), (.int (0 : Int32))] ∧ Z.Warmed39 U_.vm ∧ U_.heap = h0) (fun _ _ _ _ _ => True) (fun _ U_ o_ U'_ => ∃ v_ L_, o_ = .returned v_ ∧ own_Q9_1_4 Z r arr  ka  x0 x1 x2 x3  cs  fm  h0 n0 v_ U'_.heap L_ ∧ FrameEnd U_ o_ U'_ L_ own_r9_1_4.cells own_r9_1_4.slots) := by
  refine MetFree.of_bodySF (plainFor_of_name own_pn1) hisR ?_
  intro p e s m args below meth c s₁ Bd hml0 hP hK
  obtain ⟨rfl, hZ, hh⟩ := hP
  have hx := Bd.exec
  have hby := Bd.bytes
  have hml : c.maxLocals = 2 := hml0
  have hown : s.vm.findClass "java/lang/String" = some m.cls := findClass_of_methodNamed Bd.named
  have hnm := (name_of_methodNamed Bd.named Bd.method).1
  have X0 : Stand p l e own_r9_1_4 s m #[(.ref r), (.int (0 : Int32))] below meth c s₁ [] 0 0 := Stand.of_body Bd
  have e0 : s₁.heap = h0 := by rw [← hh, Bd.state]; rfl
  have N0 := Fr.nil n0
  refine own_in (own_ef9_1_4 m r) ?_
  show own_Go p e below (own_K s (own_Q9_1_4 Z r arr  ka  x0 x1 x2 x3  cs  fm  h0 n0) own_r9_1_4.cells own_r9_1_4.slots) s₁ (mkF m 0 #[.val (.ref r), .val (.int (0 : Int32))] [])
  refine own_st (T' := s₁) (g' := (mkF m 1 #[.val (.ref r), .val (.int (0 : Int32))] [(.ref r)])) (fun t k => ?_) ?_
  · show Steps p.tables e below (s₁.setTop (mkF m 0 #[.val (.ref r), .val (.int (0 : Int32))] [])) t
    refine XS.aloadN X0.here hx rfl (hb hby own_d9_0) rfl rfl ?_
    exact k
  obtain ⟨cq1, kq1, q1a, q1b, q1c⟩ := isOf hZ e0 E_r
  obtain ⟨_, _, ⟨T1, L1, c1, n1⟩, -, X1, ⟨Lc1, hQ1, l1, y1, z1⟩, st1⟩ := X0.virtualBack hx (y := (⟨"java/lang/String", "isLatin1", "()Z"⟩ : MethodName)) (z := (⟨"java/lang/String", "isLatin1", "()Z"⟩ : MethodName)) hown (mvT hZ (hw _ (List.mem_of_getElem? (i := 55) rfl))) (mvT hZ (hw _ (List.mem_of_getElem? (i := 56) rfl))) (notFace_of_selects (args := #[]) (mvT hZ (hw _ (List.mem_of_getElem? (i := 58) rfl)))) (mvT hZ (hw _ (List.mem_of_getElem? (i := 58) rfl))) (mvT hZ (hw _ (List.mem_of_getElem? (i := 57) rfl))) (by decide) (backOf (W := 0) (own_rm10_1 l Z a0 hw [] r cs fm h0 n0 Z0 O0 F_c hcs hfm S_cs S_fm S_ad S_hb S_lb) hZ (hw _ (List.mem_of_getElem? (i := 59) rfl)) (hw _ (List.mem_of_getElem? (i := 3) rfl)) (by decide) (by decide)) q1a q1c (g := (mkF m 1 #[.val (.ref r), .val (.int (0 : Int32))] [(.ref r)])) rfl (by rw [hml]; rfl) (Steps.refl _) (argsL := []) (rest := []) (lenOf own_pd5 rfl) rfl (by show 2 * 0 + _ ≤ _; exact Nat.le_of_eq rfl) (hb hby own_d9_1) (fun _ _ => ⟨rfl, e0, (by decide : 0 + 0 ≤ _), (by decide : 0 + 0 ≤ _)⟩)
  dsimp only [Pt.U, Pt.locs, Pt.cells, Pt.slots] at X1 l1 y1 z1 st1 hQ1
  subst l1 y1 z1
  obtain ⟨rfl, N1q, e1⟩ := hQ1
  have N1 := Fr.app N0 N1q
  refine own_tr (T' := T1) (g' := (mkF m 4 #[.val (.ref r), .val (.int (0 : Int32))] [(.int (0 : Int32))])) st1 ?_
  refine own_st (T' := T1) (g' := (mkF m 17 #[.val (.ref r), .val (.int (0 : Int32))] [(.ref r)])) (fun t k => ?_) ?_
  · show Steps p.tables e below (T1.setTop (mkF m 4 #[.val (.ref r), .val (.int (0 : Int32))] [(.int (0 : Int32))])) t
    refine XS.ifYes X1.here hx rfl (pc0 := 4) (pc' := 16) rfl (hb hby own_d9_4) rfl ((if0 _ _).trans (teq (rfl : (0 : Int32) = (0 : Int32))).1) (by decide) (by decide) ?_
    refine XS.aloadN X1.here hx rfl (hb hby own_d9_16) rfl rfl ?_
    exact k
  obtain ⟨T2, X2, e2, st2⟩ := getF X1 hx hZ hown (host := "") (Or.inl (hw _ (List.mem_of_getElem? (i := 23) rfl))) Via.refl e1 F_v (g := (mkF m 17 #[.val (.ref r), .val (.int (0 : Int32))] [(.ref r)])) rfl rfl (hb hby own_d9_17)
  refine own_st (T' := T2) (g' := (mkF m 20 #[.val (.ref r), .val (.int (0 : Int32))] [(.ref arr)])) st2 ?_
  refine own_st (T' := T2) (g' := (mkF m 21 #[.val (.ref r), .val (.int (0 : Int32))] [(.int (0 : Int32)), (.ref arr)])) (fun t k => ?_) ?_
  · show Steps p.tables e below (T2.setTop (mkF m 20 #[.val (.ref r), .val (.int (0 : Int32))] [(.ref arr)])) t
    refine XS.iloadN X2.here hx rfl (hb hby own_d9_20) rfl ?_
    exact k
  obtain ⟨_, _, ⟨T3, L3, c3, n3⟩, -, X3, ⟨Lc3, hQ3, l3, y3, z3⟩, st3⟩ := Jvm.LawKit.callS X2 hx (y := (⟨"java/lang/StringUTF16", "charAt", "([BI)C"⟩ : MethodName)) hown (mvT hZ (hw _ (List.mem_of_getElem? (i := 108) rfl))) (mvT hZ (hw _ (List.mem_of_getElem? (i := 109) rfl))) (mvT hZ (hw _ (List.mem_of_getElem? (i := 81) rfl))) (mvT hZ (hw _ (List.mem_of_getElem? (i := 110) rfl))) (by decide) (backOf (W := 0) (own_rm24_4_0 l Z a0 hw [] arr ka x0 x1 x2 x3 cs fm h0 n0 Z0 O0 V_a hcs hfm S_cs S_fm S_ad S_hb S_lb) hZ (hw _ (List.mem_of_getElem? (i := 110) rfl)) (hw _ (List.mem_of_getElem? (i := 81) rfl)) (by decide) (by decide)) (g := (mkF m 21 #[.val (.ref r), .val (.int (0 : Int32))] [(.int (0 : Int32)), (.ref arr)])) rfl (by rw [hml]; rfl) (argsL := [(.ref arr), (.int (0 : Int32))]) (rest := []) (lenOf own_pd4 rfl) rfl (by show 2 * 0 + _ ≤ _; exact Nat.le_of_eq rfl) (hb hby own_d9_21) (fun _ _ => ⟨rfl, e2, (by decide : 0 + 0 ≤ _), (by decide : 0 + 0 ≤ _)⟩)
  dsimp only [Pt.U, Pt.locs, Pt.cells, Pt.slots] at X3 l3 y3 z3 st3 hQ3
  subst l3 y3 z3
  obtain ⟨rfl, N3q, e3⟩ := hQ3
  have N3 := Fr.app N1 N3q
  refine own_st (T' := T3) (g' := (mkF m 24 #[.val (.ref r), .val (.int (0 : Int32))] [(.int (own_gc x0 x1))])) st3 ?_
  exact own_retN X3 hx Bd (t := .char) (by simp) (XT.narrow_c _) (hb hby own_d9_24) e3 (⟨rfl, N3, rfl⟩) (by decide) (by decide)
def own_r22_2_0 : Room := { frames := 0, cells := 0, slots := 0, locals := 0 }
theorem own_ef22_2_0 (m : MethodId) (x0 : Addr) (x2 : Int32) : entryFrame m #[(.ref x0), (.int (0 : Int32)), (.int x2)] 3 = mkF m 0 #[.val (.ref x0), .val (.int (0 : Int32)), .val (.int x2)] [] := by first | (simp [entryFrame, mkF, argsToLocals, Value.category]; done) | rfl
def own_Q22_2_0 (Z : State) (arr : Addr) (ka : ClassId) (x0 x1 ch : Int32) (cs : Int32) (fm : Value) (h0 : Heap) (n0 : Nat) : Option Value → Heap → List Loc → Prop := fun v h L => v = none ∧ Fr n0 L ∧ Keep h0 h [arr] ∧ Arv Z h arr ka .byte (2 : Int32) [(.int ((ch >>> ((0 : Int32) &&& 31)).toInt8.toInt32)), (.int ((ch >>> ((8 : Int32) &&& 31)).toInt8.toInt32))] (.int (0 : Int32))
set_option maxRecDepth 65536 in
set_option maxHeartbeats 40000000 in
theorem own_rm22_2_0 (l : Launch) (Z : State) (a0 : Array Value) (hw : ∀ d ∈ tables_1, d.before a0 Z = true) (ws : List Jvm.Cond) (arr : Addr) (ka : ClassId) (x0 x1 ch : Int32) (cs : Int32) (fm : Value) (h0 : Heap) (n0 : Nat) (Z0 : n0 ≤ h0.size) (O0 : Old Z n0 h0) (V_a : Arv Z h0 arr ka .byte (2 : Int32) [(.int x0), (.int x1)] (.int (0 : Int32))) (g_a : n0 ≤ arr) (hcs : ¬ cs = (0 : Int32)) (hfm : fm.isRef = true) (S_cs : Sta Z Z.heap "java/lang/String" "COMPACT_STRINGS" "Z" (.int cs)) (S_fm : Sta Z Z.heap "jdk/internal/util/Preconditions" "SIOOBE_FORMATTER" "Ljava/util/function/BiFunction;" fm) (S_ad : Sta Z Z.heap "java/lang/StringUTF16" "$assertionsDisabled" "Z" (.int (1 : Int32))) (S_hb : Sta Z Z.heap "java/lang/StringUTF16" "HI_BYTE_SHIFT" "I" (.int (0 : Int32))) (S_lb : Sta Z Z.heap "java/lang/StringUTF16" "LO_BYTE_SHIFT" "I" (.int (8 : Int32))) :
    MetFree l (⟨"java/lang/StringUTF16", "putChar", "([BII)V"⟩ : MethodName) (head1 (Jvm.Cond.code (⟨"java/lang/StringUTF16", "putChar", "([BII)V"⟩ : MethodName) jdk_52_method_4_code 3 none :: ws) own_r22_2_0) (fun a_ U_ => a_ = #[(.ref arr), (.int (0 : Int32)), (.int ch)] ∧ Z.Warmed39 U_.vm ∧ U_.heap = h0) (fun _ _ _ _ _ => True) (fun _ U_ o_ U'_ => ∃ v_ L_, o_ = .returned v_ ∧ own_Q22_2_0 Z arr  ka  x0 x1 ch  cs  fm  h0 n0 v_ U'_.heap L_ ∧ FrameEnd U_ o_ U'_ L_ own_r22_2_0.cells own_r22_2_0.slots) := by
  refine MetFree.of_bodySF (plainFor_of_name own_pn3) hisR ?_
  intro p e s m args below meth c s₁ Bd hml0 hP hK
  obtain ⟨rfl, hZ, hh⟩ := hP
  have hx := Bd.exec
  have hby := Bd.bytes
  have hml : c.maxLocals = 3 := hml0
  have hown : s.vm.findClass "java/lang/StringUTF16" = some m.cls := findClass_of_methodNamed Bd.named
  have hnm := (name_of_methodNamed Bd.named Bd.method).1
  have X0 : Stand p l e own_r22_2_0 s m #[(.ref arr), (.int (0 : Int32)), (.int ch)] below meth c s₁ [] 0 0 := Stand.of_body Bd
  have e0 : s₁.heap = h0 := by rw [← hh, Bd.state]; rfl
  have N0 := Fr.nil n0
  refine own_in (own_ef22_2_0 m arr ch) ?_
  show own_Go p e below (own_K s (own_Q22_2_0 Z arr  ka  x0 x1 ch  cs  fm  h0 n0) own_r22_2_0.cells own_r22_2_0.slots) s₁ (mkF m 0 #[.val (.ref arr), .val (.int (0 : Int32)), .val (.int ch)] [])
  have f1 := S_ad.ext O0.2
  obtain ⟨T2, X2, e2, st2⟩ := getS2 X0 hx hZ hown (host := "") (Or.inl (hw _ (List.mem_of_getElem? (i := 102) rfl))) Via.refl e0 f1 (g := (mkF m 0 #[.val (.ref arr), .val (.int (0 : Int32)), .val (.int ch)] [])) rfl (hb hby own_d22_0)
  refine own_st (T' := T2) (g' := (mkF m 3 #[.val (.ref arr), .val (.int (0 : Int32)), .val (.int ch)] [(.int (1 : Int32))])) st2 ?_
  refine own_st (T' := T2) (g' := (mkF m 38 #[.val (.ref arr), .val (.int (1 : Int32)), .val (.int ch)] [(.int ch), (.int (0 : Int32)), (.ref arr)])) (fun t k => ?_) ?_
  · show Steps p.tables e below (T2.setTop (mkF m 3 #[.val (.ref arr), .val (.int (0 : Int32)), .val (.int ch)] [(.int (1 : Int32))])) t
    refine XS.ifYes X2.here hx rfl (pc0 := 3) (pc' := 28) rfl (hb hby own_d22_3) rfl ((if0 _ _).trans (feq (by decide : ¬ ((1 : Int32) = (0 : Int32)))).2) (by decide) (by decide) ?_
    refine XS.iloadN X2.here hx rfl (hb hby own_d22_28) rfl ?_
    refine XS.iconst X2.here hx rfl (hb hby own_d22_29) ?_
    refine XS.ishl X2.here hx rfl (hb hby own_d22_30) rfl ?_
    refine XS.istoreN X2.here hx rfl (hb hby own_d22_31) rfl (l' := #[.val (.ref arr), .val (.int (0 : Int32)), .val (.int ch)]) rfl ?_
    refine XS.aloadN X2.here hx rfl (hb hby own_d22_32) rfl rfl ?_
    refine XS.iloadN X2.here hx rfl (hb hby own_d22_33) rfl ?_
    refine XS.iinc X2.here hx rfl (hb hby own_d22_34) rfl (l' := #[.val (.ref arr), .val (.int (1 : Int32)), .val (.int ch)]) rfl ?_
    refine XS.iloadN X2.here hx rfl (hb hby own_d22_37) rfl ?_
    exact k
  have f3 := S_hb.ext O0.2
  obtain ⟨T4, X4, e4, st4⟩ := getS2 X2 hx hZ hown (host := "") (Or.inl (hw _ (List.mem_of_getElem? (i := 103) rfl))) Via.refl e2 f3 (g := (mkF m 38 #[.val (.ref arr), .val (.int (1 : Int32)), .val (.int ch)] [(.int ch), (.int (0 : Int32)), (.ref arr)])) rfl (hb hby own_d22_38)
  refine own_st (T' := T4) (g' := (mkF m 41 #[.val (.ref arr), .val (.int (1 : Int32)), .val (.int ch)] [(.int (0 : Int32)), (.int ch), (.int (0 : Int32)), (.ref arr)])) st4 ?_
  refine own_st (T' := T4) (g' := (mkF m 43 #[.val (.ref arr), .val (.int (1 : Int32)), .val (.int ch)] [(.int ((ch >>> ((0 : Int32) &&& 31)).toInt8.toInt32)), (.int (0 : Int32)), (.ref arr)])) (fun t k => ?_) ?_
  · show Steps p.tables e below (T4.setTop (mkF m 41 #[.val (.ref arr), .val (.int (1 : Int32)), .val (.int ch)] [(.int (0 : Int32)), (.int ch), (.int (0 : Int32)), (.ref arr)])) t
    refine XS.ishr X4.here hx rfl (hb hby own_d22_41) rfl ?_
    refine XS.i2b X4.here hx rfl (hb hby own_d22_42) rfl ?_
    exact k
  obtain ⟨cl5, Ar5, q5, S5, M5, H5, G5⟩ := id V_a
  obtain ⟨T6, h6, X6, e6, W6, st6⟩ := stB X4 hx hZ e4 Ar5 (j := (0 : Int32)) (inb_of S5 ⟨by decide, by decide⟩) (g := (mkF m 43 #[.val (.ref arr), .val (.int (1 : Int32)), .val (.int ch)] [(.int ((ch >>> ((0 : Int32) &&& 31)).toInt8.toInt32)), (.int (0 : Int32)), (.ref arr)])) rfl rfl (hb hby own_d22_43)
  have N6 := Fr.snoc X6 N0 g_a
  have K6 : Keep h0 h6 [arr] := (Keep.refl h0 [arr]).wr W6 (Or.inl (List.mem_of_getElem? (i := 0) rfl))
  have Z6 : n0 ≤ h6.size := Nat.le_trans Z0 (Keep.of_wr W6).1
  have O6 := O0.wr W6 g_a
  have fw6 := (show Arv Z h6 arr ka .byte (2 : Int32) [(.int ((ch >>> ((0 : Int32) &&& 31)).toInt8.toInt32)), (.int x1)] (.int (0 : Int32)) by have q : Arv Z h6 arr ka .byte (2 : Int32) [(.int (((ch >>> ((0 : Int32) &&& 31)).toInt8.toInt32).toInt8.toInt32)), (.int x1)] (.int (0 : Int32)) := Arv.set Ar5 q5 S5 M5 H5 G5 (fits_nar_byte _) W6 0 rfl (Nat.le_of_ble_eq_true rfl); rw [own_bb (ch >>> ((0 : Int32) &&& 31))] at q; exact q)
  refine own_st (T' := T6) (g' := (mkF m 44 #[.val (.ref arr), .val (.int (1 : Int32)), .val (.int ch)] [])) st6 ?_
  refine own_st (T' := T6) (g' := (mkF m 47 #[.val (.ref arr), .val (.int (1 : Int32)), .val (.int ch)] [(.int ch), (.int (1 : Int32)), (.ref arr)])) (fun t k => ?_) ?_
  · show Steps p.tables e below (T6.setTop (mkF m 44 #[.val (.ref arr), .val (.int (1 : Int32)), .val (.int ch)] [])) t
    refine XS.aloadN X6.here hx rfl (hb hby own_d22_44) rfl rfl ?_
    refine XS.iloadN X6.here hx rfl (hb hby own_d22_45) rfl ?_
    refine XS.iloadN X6.here hx rfl (hb hby own_d22_46) rfl ?_
    exact k
  have f7 := S_lb.ext O6.2
  obtain ⟨T8, X8, e8, st8⟩ := getS2 X6 hx hZ hown (host := "") (Or.inl (hw _ (List.mem_of_getElem? (i := 104) rfl))) Via.refl e6 f7 (g := (mkF m 47 #[.val (.ref arr), .val (.int (1 : Int32)), .val (.int ch)] [(.int ch), (.int (1 : Int32)), (.ref arr)])) rfl (hb hby own_d22_47)
  refine own_st (T' := T8) (g' := (mkF m 50 #[.val (.ref arr), .val (.int (1 : Int32)), .val (.int ch)] [(.int (8 : Int32)), (.int ch), (.int (1 : Int32)), (.ref arr)])) st8 ?_
  refine own_st (T' := T8) (g' := (mkF m 52 #[.val (.ref arr), .val (.int (1 : Int32)), .val (.int ch)] [(.int ((ch >>> ((8 : Int32) &&& 31)).toInt8.toInt32)), (.int (1 : Int32)), (.ref arr)])) (fun t k => ?_) ?_
  · show Steps p.tables e below (T8.setTop (mkF m 50 #[.val (.ref arr), .val (.int (1 : Int32)), .val (.int ch)] [(.int (8 : Int32)), (.int ch), (.int (1 : Int32)), (.ref arr)])) t
    refine XS.ishr X8.here hx rfl (hb hby own_d22_50) rfl ?_
    refine XS.i2b X8.here hx rfl (hb hby own_d22_51) rfl ?_
    exact k
  obtain ⟨cl9, Ar9, q9, S9, M9, H9, G9⟩ := id fw6
  obtain ⟨T10, h10, X10, e10, W10, st10⟩ := stB X8 hx hZ e8 Ar9 (j := (1 : Int32)) (inb_of S9 ⟨by decide, by decide⟩) (g := (mkF m 52 #[.val (.ref arr), .val (.int (1 : Int32)), .val (.int ch)] [(.int ((ch >>> ((8 : Int32) &&& 31)).toInt8.toInt32)), (.int (1 : Int32)), (.ref arr)])) rfl rfl (hb hby own_d22_52)
  have N10 := Fr.snoc X10 N6 g_a
  have K10 : Keep h0 h10 [arr] := K6.wr W10 (Or.inl (List.mem_of_getElem? (i := 0) rfl))
  have Z10 : n0 ≤ h10.size := Nat.le_trans Z6 (Keep.of_wr W10).1
  have O10 := O6.wr W10 g_a
  have fw10 := (show Arv Z h10 arr ka .byte (2 : Int32) [(.int ((ch >>> ((0 : Int32) &&& 31)).toInt8.toInt32)), (.int ((ch >>> ((8 : Int32) &&& 31)).toInt8.toInt32))] (.int (0 : Int32)) by have q : Arv Z h10 arr ka .byte (2 : Int32) [(.int ((ch >>> ((0 : Int32) &&& 31)).toInt8.toInt32)), (.int (((ch >>> ((8 : Int32) &&& 31)).toInt8.toInt32).toInt8.toInt32))] (.int (0 : Int32)) := Arv.set Ar9 q9 S9 M9 H9 G9 (fits_nar_byte _) W10 1 rfl (Nat.le_of_ble_eq_true rfl); rw [own_bb (ch >>> ((8 : Int32) &&& 31))] at q; exact q)
  refine own_st (T' := T10) (g' := (mkF m 53 #[.val (.ref arr), .val (.int (1 : Int32)), .val (.int ch)] [])) st10 ?_
  exact own_retV X10 hx Bd (hb hby own_d22_53) e10 (⟨rfl, N10, K10, fw10⟩) (by decide) (by decide)
def own_r22_4_0 : Room := { frames := 0, cells := 0, slots := 0, locals := 0 }
theorem own_ef22_4_0 (m : MethodId) (x0 : Addr) (x2 : Int32) : entryFrame m #[(.ref x0), (.int (0 : Int32)), (.int x2)] 3 = mkF m 0 #[.val (.ref x0), .val (.int (0 : Int32)), .val (.int x2)] [] := by first | (simp [entryFrame, mkF, argsToLocals, Value.category]; done) | rfl
def own_Q22_4_0 (Z : State) (arr : Addr) (ka : ClassId) (x0 x1 x2 x3 ch : Int32) (cs : Int32) (fm : Value) (h0 : Heap) (n0 : Nat) : Option Value → Heap → List Loc → Prop := fun v h L => v = none ∧ Fr n0 L ∧ Keep h0 h [arr] ∧ Arv Z h arr ka .byte (4 : Int32) [(.int ((ch >>> ((0 : Int32) &&& 31)).toInt8.toInt32)), (.int ((ch >>> ((8 : Int32) &&& 31)).toInt8.toInt32)), (.int x2), (.int x3)] (.int (0 : Int32))
set_option maxRecDepth 65536 in
set_option maxHeartbeats 40000000 in
theorem own_rm22_4_0 (l : Launch) (Z : State) (a0 : Array Value) (hw : ∀ d ∈ tables_1, d.before a0 Z = true) (ws : List Jvm.Cond) (arr : Addr) (ka : ClassId) (x0 x1 x2 x3 ch : Int32) (cs : Int32) (fm : Value) (h0 : Heap) (n0 : Nat) (Z0 : n0 ≤ h0.size) (O0 : Old Z n0 h0) (V_a : Arv Z h0 arr ka .byte (4 : Int32) [(.int x0), (.int x1), (.int x2), (.int x3)] (.int (0 : Int32))) (g_a : n0 ≤ arr) (hcs : ¬ cs = (0 : Int32)) (hfm : fm.isRef = true) (S_cs : Sta Z Z.heap "java/lang/String" "COMPACT_STRINGS" "Z" (.int cs)) (S_fm : Sta Z Z.heap "jdk/internal/util/Preconditions" "SIOOBE_FORMATTER" "Ljava/util/function/BiFunction;" fm) (S_ad : Sta Z Z.heap "java/lang/StringUTF16" "$assertionsDisabled" "Z" (.int (1 : Int32))) (S_hb : Sta Z Z.heap "java/lang/StringUTF16" "HI_BYTE_SHIFT" "I" (.int (0 : Int32))) (S_lb : Sta Z Z.heap "java/lang/StringUTF16" "LO_BYTE_SHIFT" "I" (.int (8 : Int32))) :
    MetFree l (⟨"java/lang/StringUTF16", "putChar", "([BII)V"⟩ : MethodName) (head1 (Jvm.Cond.code (⟨"java/lang/StringUTF16", "putChar", "([BII)V"⟩ : MethodName) jdk_52_method_4_code 3 none :: ws) own_r22_4_0) (fun a_ U_ => a_ = #[(.ref arr), (.int (0 : Int32)), (.int ch)] ∧ Z.Warmed39 U_.vm ∧ U_.heap = h0) (fun _ _ _ _ _ => True) (fun _ U_ o_ U'_ => ∃ v_ L_, o_ = .returned v_ ∧ own_Q22_4_0 Z arr  ka  x0 x1 x2 x3 ch  cs  fm  h0 n0 v_ U'_.heap L_ ∧ FrameEnd U_ o_ U'_ L_ own_r22_4_0.cells own_r22_4_0.slots) := by
  refine MetFree.of_bodySF (plainFor_of_name own_pn3) hisR ?_
  intro p e s m args below meth c s₁ Bd hml0 hP hK
  obtain ⟨rfl, hZ, hh⟩ := hP
  have hx := Bd.exec
  have hby := Bd.bytes
  have hml : c.maxLocals = 3 := hml0
  have hown : s.vm.findClass "java/lang/StringUTF16" = some m.cls := findClass_of_methodNamed Bd.named
  have hnm := (name_of_methodNamed Bd.named Bd.method).1
  have X0 : Stand p l e own_r22_4_0 s m #[(.ref arr), (.int (0 : Int32)), (.int ch)] below meth c s₁ [] 0 0 := Stand.of_body Bd
  have e0 : s₁.heap = h0 := by rw [← hh, Bd.state]; rfl
  have N0 := Fr.nil n0
  refine own_in (own_ef22_4_0 m arr ch) ?_
  show own_Go p e below (own_K s (own_Q22_4_0 Z arr  ka  x0 x1 x2 x3 ch  cs  fm  h0 n0) own_r22_4_0.cells own_r22_4_0.slots) s₁ (mkF m 0 #[.val (.ref arr), .val (.int (0 : Int32)), .val (.int ch)] [])
  have f1 := S_ad.ext O0.2
  obtain ⟨T2, X2, e2, st2⟩ := getS2 X0 hx hZ hown (host := "") (Or.inl (hw _ (List.mem_of_getElem? (i := 102) rfl))) Via.refl e0 f1 (g := (mkF m 0 #[.val (.ref arr), .val (.int (0 : Int32)), .val (.int ch)] [])) rfl (hb hby own_d22_0)
  refine own_st (T' := T2) (g' := (mkF m 3 #[.val (.ref arr), .val (.int (0 : Int32)), .val (.int ch)] [(.int (1 : Int32))])) st2 ?_
  refine own_st (T' := T2) (g' := (mkF m 38 #[.val (.ref arr), .val (.int (1 : Int32)), .val (.int ch)] [(.int ch), (.int (0 : Int32)), (.ref arr)])) (fun t k => ?_) ?_
  · show Steps p.tables e below (T2.setTop (mkF m 3 #[.val (.ref arr), .val (.int (0 : Int32)), .val (.int ch)] [(.int (1 : Int32))])) t
    refine XS.ifYes X2.here hx rfl (pc0 := 3) (pc' := 28) rfl (hb hby own_d22_3) rfl ((if0 _ _).trans (feq (by decide : ¬ ((1 : Int32) = (0 : Int32)))).2) (by decide) (by decide) ?_
    refine XS.iloadN X2.here hx rfl (hb hby own_d22_28) rfl ?_
    refine XS.iconst X2.here hx rfl (hb hby own_d22_29) ?_
    refine XS.ishl X2.here hx rfl (hb hby own_d22_30) rfl ?_
    refine XS.istoreN X2.here hx rfl (hb hby own_d22_31) rfl (l' := #[.val (.ref arr), .val (.int (0 : Int32)), .val (.int ch)]) rfl ?_
    refine XS.aloadN X2.here hx rfl (hb hby own_d22_32) rfl rfl ?_
    refine XS.iloadN X2.here hx rfl (hb hby own_d22_33) rfl ?_
    refine XS.iinc X2.here hx rfl (hb hby own_d22_34) rfl (l' := #[.val (.ref arr), .val (.int (1 : Int32)), .val (.int ch)]) rfl ?_
    refine XS.iloadN X2.here hx rfl (hb hby own_d22_37) rfl ?_
    exact k
  have f3 := S_hb.ext O0.2
  obtain ⟨T4, X4, e4, st4⟩ := getS2 X2 hx hZ hown (host := "") (Or.inl (hw _ (List.mem_of_getElem? (i := 103) rfl))) Via.refl e2 f3 (g := (mkF m 38 #[.val (.ref arr), .val (.int (1 : Int32)), .val (.int ch)] [(.int ch), (.int (0 : Int32)), (.ref arr)])) rfl (hb hby own_d22_38)
  refine own_st (T' := T4) (g' := (mkF m 41 #[.val (.ref arr), .val (.int (1 : Int32)), .val (.int ch)] [(.int (0 : Int32)), (.int ch), (.int (0 : Int32)), (.ref arr)])) st4 ?_
  refine own_st (T' := T4) (g' := (mkF m 43 #[.val (.ref arr), .val (.int (1 : Int32)), .val (.int ch)] [(.int ((ch >>> ((0 : Int32) &&& 31)).toInt8.toInt32)), (.int (0 : Int32)), (.ref arr)])) (fun t k => ?_) ?_
  · show Steps p.tables e below (T4.setTop (mkF m 41 #[.val (.ref arr), .val (.int (1 : Int32)), .val (.int ch)] [(.int (0 : Int32)), (.int ch), (.int (0 : Int32)), (.ref arr)])) t
    refine XS.ishr X4.here hx rfl (hb hby own_d22_41) rfl ?_
    refine XS.i2b X4.here hx rfl (hb hby own_d22_42) rfl ?_
    exact k
  obtain ⟨cl5, Ar5, q5, S5, M5, H5, G5⟩ := id V_a
  obtain ⟨T6, h6, X6, e6, W6, st6⟩ := stB X4 hx hZ e4 Ar5 (j := (0 : Int32)) (inb_of S5 ⟨by decide, by decide⟩) (g := (mkF m 43 #[.val (.ref arr), .val (.int (1 : Int32)), .val (.int ch)] [(.int ((ch >>> ((0 : Int32) &&& 31)).toInt8.toInt32)), (.int (0 : Int32)), (.ref arr)])) rfl rfl (hb hby own_d22_43)
  have N6 := Fr.snoc X6 N0 g_a
  have K6 : Keep h0 h6 [arr] := (Keep.refl h0 [arr]).wr W6 (Or.inl (List.mem_of_getElem? (i := 0) rfl))
  have Z6 : n0 ≤ h6.size := Nat.le_trans Z0 (Keep.of_wr W6).1
  have O6 := O0.wr W6 g_a
  have fw6 := (show Arv Z h6 arr ka .byte (4 : Int32) [(.int ((ch >>> ((0 : Int32) &&& 31)).toInt8.toInt32)), (.int x1), (.int x2), (.int x3)] (.int (0 : Int32)) by have q : Arv Z h6 arr ka .byte (4 : Int32) [(.int (((ch >>> ((0 : Int32) &&& 31)).toInt8.toInt32).toInt8.toInt32)), (.int x1), (.int x2), (.int x3)] (.int (0 : Int32)) := Arv.set Ar5 q5 S5 M5 H5 G5 (fits_nar_byte _) W6 0 rfl (Nat.le_of_ble_eq_true rfl); rw [own_bb (ch >>> ((0 : Int32) &&& 31))] at q; exact q)
  refine own_st (T' := T6) (g' := (mkF m 44 #[.val (.ref arr), .val (.int (1 : Int32)), .val (.int ch)] [])) st6 ?_
  refine own_st (T' := T6) (g' := (mkF m 47 #[.val (.ref arr), .val (.int (1 : Int32)), .val (.int ch)] [(.int ch), (.int (1 : Int32)), (.ref arr)])) (fun t k => ?_) ?_
  · show Steps p.tables e below (T6.setTop (mkF m 44 #[.val (.ref arr), .val (.int (1 : Int32)), .val (.int ch)] [])) t
    refine XS.aloadN X6.here hx rfl (hb hby own_d22_44) rfl rfl ?_
    refine XS.iloadN X6.here hx rfl (hb hby own_d22_45) rfl ?_
    refine XS.iloadN X6.here hx rfl (hb hby own_d22_46) rfl ?_
    exact k
  have f7 := S_lb.ext O6.2
  obtain ⟨T8, X8, e8, st8⟩ := getS2 X6 hx hZ hown (host := "") (Or.inl (hw _ (List.mem_of_getElem? (i := 104) rfl))) Via.refl e6 f7 (g := (mkF m 47 #[.val (.ref arr), .val (.int (1 : Int32)), .val (.int ch)] [(.int ch), (.int (1 : Int32)), (.ref arr)])) rfl (hb hby own_d22_47)
  refine own_st (T' := T8) (g' := (mkF m 50 #[.val (.ref arr), .val (.int (1 : Int32)), .val (.int ch)] [(.int (8 : Int32)), (.int ch), (.int (1 : Int32)), (.ref arr)])) st8 ?_
  refine own_st (T' := T8) (g' := (mkF m 52 #[.val (.ref arr), .val (.int (1 : Int32)), .val (.int ch)] [(.int ((ch >>> ((8 : Int32) &&& 31)).toInt8.toInt32)), (.int (1 : Int32)), (.ref arr)])) (fun t k => ?_) ?_
  · show Steps p.tables e below (T8.setTop (mkF m 50 #[.val (.ref arr), .val (.int (1 : Int32)), .val (.int ch)] [(.int (8 : Int32)), (.int ch), (.int (1 : Int32)), (.ref arr)])) t
    refine XS.ishr X8.here hx rfl (hb hby own_d22_50) rfl ?_
    refine XS.i2b X8.here hx rfl (hb hby own_d22_51) rfl ?_
    exact k
  obtain ⟨cl9, Ar9, q9, S9, M9, H9, G9⟩ := id fw6
  obtain ⟨T10, h10, X10, e10, W10, st10⟩ := stB X8 hx hZ e8 Ar9 (j := (1 : Int32)) (inb_of S9 ⟨by decide, by decide⟩) (g := (mkF m 52 #[.val (.ref arr), .val (.int (1 : Int32)), .val (.int ch)] [(.int ((ch >>> ((8 : Int32) &&& 31)).toInt8.toInt32)), (.int (1 : Int32)), (.ref arr)])) rfl rfl (hb hby own_d22_52)
  have N10 := Fr.snoc X10 N6 g_a
  have K10 : Keep h0 h10 [arr] := K6.wr W10 (Or.inl (List.mem_of_getElem? (i := 0) rfl))
  have Z10 : n0 ≤ h10.size := Nat.le_trans Z6 (Keep.of_wr W10).1
  have O10 := O6.wr W10 g_a
  have fw10 := (show Arv Z h10 arr ka .byte (4 : Int32) [(.int ((ch >>> ((0 : Int32) &&& 31)).toInt8.toInt32)), (.int ((ch >>> ((8 : Int32) &&& 31)).toInt8.toInt32)), (.int x2), (.int x3)] (.int (0 : Int32)) by have q : Arv Z h10 arr ka .byte (4 : Int32) [(.int ((ch >>> ((0 : Int32) &&& 31)).toInt8.toInt32)), (.int (((ch >>> ((8 : Int32) &&& 31)).toInt8.toInt32).toInt8.toInt32)), (.int x2), (.int x3)] (.int (0 : Int32)) := Arv.set Ar9 q9 S9 M9 H9 G9 (fits_nar_byte _) W10 1 rfl (Nat.le_of_ble_eq_true rfl); rw [own_bb (ch >>> ((8 : Int32) &&& 31))] at q; exact q)
  refine own_st (T' := T10) (g' := (mkF m 53 #[.val (.ref arr), .val (.int (1 : Int32)), .val (.int ch)] [])) st10 ?_
  exact own_retV X10 hx Bd (hb hby own_d22_53) e10 (⟨rfl, N10, K10, fw10⟩) (by decide) (by decide)
def own_r22_4_1 : Room := { frames := 0, cells := 0, slots := 0, locals := 0 }
theorem own_ef22_4_1 (m : MethodId) (x0 : Addr) (x2 : Int32) : entryFrame m #[(.ref x0), (.int (1 : Int32)), (.int x2)] 3 = mkF m 0 #[.val (.ref x0), .val (.int (1 : Int32)), .val (.int x2)] [] := by first | (simp [entryFrame, mkF, argsToLocals, Value.category]; done) | rfl
def own_Q22_4_1 (Z : State) (arr : Addr) (ka : ClassId) (x0 x1 x2 x3 ch : Int32) (cs : Int32) (fm : Value) (h0 : Heap) (n0 : Nat) : Option Value → Heap → List Loc → Prop := fun v h L => v = none ∧ Fr n0 L ∧ Keep h0 h [arr] ∧ Arv Z h arr ka .byte (4 : Int32) [(.int x0), (.int x1), (.int ((ch >>> ((0 : Int32) &&& 31)).toInt8.toInt32)), (.int ((ch >>> ((8 : Int32) &&& 31)).toInt8.toInt32))] (.int (0 : Int32))
set_option maxRecDepth 65536 in
set_option maxHeartbeats 40000000 in
theorem own_rm22_4_1 (l : Launch) (Z : State) (a0 : Array Value) (hw : ∀ d ∈ tables_1, d.before a0 Z = true) (ws : List Jvm.Cond) (arr : Addr) (ka : ClassId) (x0 x1 x2 x3 ch : Int32) (cs : Int32) (fm : Value) (h0 : Heap) (n0 : Nat) (Z0 : n0 ≤ h0.size) (O0 : Old Z n0 h0) (V_a : Arv Z h0 arr ka .byte (4 : Int32) [(.int x0), (.int x1), (.int x2), (.int x3)] (.int (0 : Int32))) (g_a : n0 ≤ arr) (hcs : ¬ cs = (0 : Int32)) (hfm : fm.isRef = true) (S_cs : Sta Z Z.heap "java/lang/String" "COMPACT_STRINGS" "Z" (.int cs)) (S_fm : Sta Z Z.heap "jdk/internal/util/Preconditions" "SIOOBE_FORMATTER" "Ljava/util/function/BiFunction;" fm) (S_ad : Sta Z Z.heap "java/lang/StringUTF16" "$assertionsDisabled" "Z" (.int (1 : Int32))) (S_hb : Sta Z Z.heap "java/lang/StringUTF16" "HI_BYTE_SHIFT" "I" (.int (0 : Int32))) (S_lb : Sta Z Z.heap "java/lang/StringUTF16" "LO_BYTE_SHIFT" "I" (.int (8 : Int32))) :
    MetFree l (⟨"java/lang/StringUTF16", "putChar", "([BII)V"⟩ : MethodName) (head1 (Jvm.Cond.code (⟨"java/lang/StringUTF16", "putChar", "([BII)V"⟩ : MethodName) jdk_52_method_4_code 3 none :: ws) own_r22_4_1) (fun a_ U_ => a_ = #[(.ref arr), (.int (1 : Int32)), (.int ch)] ∧ Z.Warmed39 U_.vm ∧ U_.heap = h0) (fun _ _ _ _ _ => True) (fun _ U_ o_ U'_ => ∃ v_ L_, o_ = .returned v_ ∧ own_Q22_4_1 Z arr  ka  x0 x1 x2 x3 ch  cs  fm  h0 n0 v_ U'_.heap L_ ∧ FrameEnd U_ o_ U'_ L_ own_r22_4_1.cells own_r22_4_1.slots) := by
  refine MetFree.of_bodySF (plainFor_of_name own_pn3) hisR ?_
  intro p e s m args below meth c s₁ Bd hml0 hP hK
  obtain ⟨rfl, hZ, hh⟩ := hP
  have hx := Bd.exec
  have hby := Bd.bytes
  have hml : c.maxLocals = 3 := hml0
  have hown : s.vm.findClass "java/lang/StringUTF16" = some m.cls := findClass_of_methodNamed Bd.named
  have hnm := (name_of_methodNamed Bd.named Bd.method).1
  have X0 : Stand p l e own_r22_4_1 s m #[(.ref arr), (.int (1 : Int32)), (.int ch)] below meth c s₁ [] 0 0 := Stand.of_body Bd
  have e0 : s₁.heap = h0 := by rw [← hh, Bd.state]; rfl
  have N0 := Fr.nil n0
  refine own_in (own_ef22_4_1 m arr ch) ?_
  show own_Go p e below (own_K s (own_Q22_4_1 Z arr  ka  x0 x1 x2 x3 ch  cs  fm  h0 n0) own_r22_4_1.cells own_r22_4_1.slots) s₁ (mkF m 0 #[.val (.ref arr), .val (.int (1 : Int32)), .val (.int ch)] [])
  have f1 := S_ad.ext O0.2
  obtain ⟨T2, X2, e2, st2⟩ := getS2 X0 hx hZ hown (host := "") (Or.inl (hw _ (List.mem_of_getElem? (i := 102) rfl))) Via.refl e0 f1 (g := (mkF m 0 #[.val (.ref arr), .val (.int (1 : Int32)), .val (.int ch)] [])) rfl (hb hby own_d22_0)
  refine own_st (T' := T2) (g' := (mkF m 3 #[.val (.ref arr), .val (.int (1 : Int32)), .val (.int ch)] [(.int (1 : Int32))])) st2 ?_
  refine own_st (T' := T2) (g' := (mkF m 38 #[.val (.ref arr), .val (.int (3 : Int32)), .val (.int ch)] [(.int ch), (.int (2 : Int32)), (.ref arr)])) (fun t k => ?_) ?_
  · show Steps p.tables e below (T2.setTop (mkF m 3 #[.val (.ref arr), .val (.int (1 : Int32)), .val (.int ch)] [(.int (1 : Int32))])) t
    refine XS.ifYes X2.here hx rfl (pc0 := 3) (pc' := 28) rfl (hb hby own_d22_3) rfl ((if0 _ _).trans (feq (by decide : ¬ ((1 : Int32) = (0 : Int32)))).2) (by decide) (by decide) ?_
    refine XS.iloadN X2.here hx rfl (hb hby own_d22_28) rfl ?_
    refine XS.iconst X2.here hx rfl (hb hby own_d22_29) ?_
    refine XS.ishl X2.here hx rfl (hb hby own_d22_30) rfl ?_
    refine XS.istoreN X2.here hx rfl (hb hby own_d22_31) rfl (l' := #[.val (.ref arr), .val (.int (2 : Int32)), .val (.int ch)]) rfl ?_
    refine XS.aloadN X2.here hx rfl (hb hby own_d22_32) rfl rfl ?_
    refine XS.iloadN X2.here hx rfl (hb hby own_d22_33) rfl ?_
    refine XS.iinc X2.here hx rfl (hb hby own_d22_34) rfl (l' := #[.val (.ref arr), .val (.int (3 : Int32)), .val (.int ch)]) rfl ?_
    refine XS.iloadN X2.here hx rfl (hb hby own_d22_37) rfl ?_
    exact k
  have f3 := S_hb.ext O0.2
  obtain ⟨T4, X4, e4, st4⟩ := getS2 X2 hx hZ hown (host := "") (Or.inl (hw _ (List.mem_of_getElem? (i := 103) rfl))) Via.refl e2 f3 (g := (mkF m 38 #[.val (.ref arr), .val (.int (3 : Int32)), .val (.int ch)] [(.int ch), (.int (2 : Int32)), (.ref arr)])) rfl (hb hby own_d22_38)
  refine own_st (T' := T4) (g' := (mkF m 41 #[.val (.ref arr), .val (.int (3 : Int32)), .val (.int ch)] [(.int (0 : Int32)), (.int ch), (.int (2 : Int32)), (.ref arr)])) st4 ?_
  refine own_st (T' := T4) (g' := (mkF m 43 #[.val (.ref arr), .val (.int (3 : Int32)), .val (.int ch)] [(.int ((ch >>> ((0 : Int32) &&& 31)).toInt8.toInt32)), (.int (2 : Int32)), (.ref arr)])) (fun t k => ?_) ?_
  · show Steps p.tables e below (T4.setTop (mkF m 41 #[.val (.ref arr), .val (.int (3 : Int32)), .val (.int ch)] [(.int (0 : Int32)), (.int ch), (.int (2 : Int32)), (.ref arr)])) t
    refine XS.ishr X4.here hx rfl (hb hby own_d22_41) rfl ?_
    refine XS.i2b X4.here hx rfl (hb hby own_d22_42) rfl ?_
    exact k
  obtain ⟨cl5, Ar5, q5, S5, M5, H5, G5⟩ := id V_a
  obtain ⟨T6, h6, X6, e6, W6, st6⟩ := stB X4 hx hZ e4 Ar5 (j := (2 : Int32)) (inb_of S5 ⟨by decide, by decide⟩) (g := (mkF m 43 #[.val (.ref arr), .val (.int (3 : Int32)), .val (.int ch)] [(.int ((ch >>> ((0 : Int32) &&& 31)).toInt8.toInt32)), (.int (2 : Int32)), (.ref arr)])) rfl rfl (hb hby own_d22_43)
  have N6 := Fr.snoc X6 N0 g_a
  have K6 : Keep h0 h6 [arr] := (Keep.refl h0 [arr]).wr W6 (Or.inl (List.mem_of_getElem? (i := 0) rfl))
  have Z6 : n0 ≤ h6.size := Nat.le_trans Z0 (Keep.of_wr W6).1
  have O6 := O0.wr W6 g_a
  have fw6 := (show Arv Z h6 arr ka .byte (4 : Int32) [(.int x0), (.int x1), (.int ((ch >>> ((0 : Int32) &&& 31)).toInt8.toInt32)), (.int x3)] (.int (0 : Int32)) by have q : Arv Z h6 arr ka .byte (4 : Int32) [(.int x0), (.int x1), (.int (((ch >>> ((0 : Int32) &&& 31)).toInt8.toInt32).toInt8.toInt32)), (.int x3)] (.int (0 : Int32)) := Arv.set Ar5 q5 S5 M5 H5 G5 (fits_nar_byte _) W6 2 rfl (Nat.le_of_ble_eq_true rfl); rw [own_bb (ch >>> ((0 : Int32) &&& 31))] at q; exact q)
  refine own_st (T' := T6) (g' := (mkF m 44 #[.val (.ref arr), .val (.int (3 : Int32)), .val (.int ch)] [])) st6 ?_
  refine own_st (T' := T6) (g' := (mkF m 47 #[.val (.ref arr), .val (.int (3 : Int32)), .val (.int ch)] [(.int ch), (.int (3 : Int32)), (.ref arr)])) (fun t k => ?_) ?_
  · show Steps p.tables e below (T6.setTop (mkF m 44 #[.val (.ref arr), .val (.int (3 : Int32)), .val (.int ch)] [])) t
    refine XS.aloadN X6.here hx rfl (hb hby own_d22_44) rfl rfl ?_
    refine XS.iloadN X6.here hx rfl (hb hby own_d22_45) rfl ?_
    refine XS.iloadN X6.here hx rfl (hb hby own_d22_46) rfl ?_
    exact k
  have f7 := S_lb.ext O6.2
  obtain ⟨T8, X8, e8, st8⟩ := getS2 X6 hx hZ hown (host := "") (Or.inl (hw _ (List.mem_of_getElem? (i := 104) rfl))) Via.refl e6 f7 (g := (mkF m 47 #[.val (.ref arr), .val (.int (3 : Int32)), .val (.int ch)] [(.int ch), (.int (3 : Int32)), (.ref arr)])) rfl (hb hby own_d22_47)
  refine own_st (T' := T8) (g' := (mkF m 50 #[.val (.ref arr), .val (.int (3 : Int32)), .val (.int ch)] [(.int (8 : Int32)), (.int ch), (.int (3 : Int32)), (.ref arr)])) st8 ?_
  refine own_st (T' := T8) (g' := (mkF m 52 #[.val (.ref arr), .val (.int (3 : Int32)), .val (.int ch)] [(.int ((ch >>> ((8 : Int32) &&& 31)).toInt8.toInt32)), (.int (3 : Int32)), (.ref arr)])) (fun t k => ?_) ?_
  · show Steps p.tables e below (T8.setTop (mkF m 50 #[.val (.ref arr), .val (.int (3 : Int32)), .val (.int ch)] [(.int (8 : Int32)), (.int ch), (.int (3 : Int32)), (.ref arr)])) t
    refine XS.ishr X8.here hx rfl (hb hby own_d22_50) rfl ?_
    refine XS.i2b X8.here hx rfl (hb hby own_d22_51) rfl ?_
    exact k
  obtain ⟨cl9, Ar9, q9, S9, M9, H9, G9⟩ := id fw6
  obtain ⟨T10, h10, X10, e10, W10, st10⟩ := stB X8 hx hZ e8 Ar9 (j := (3 : Int32)) (inb_of S9 ⟨by decide, by decide⟩) (g := (mkF m 52 #[.val (.ref arr), .val (.int (3 : Int32)), .val (.int ch)] [(.int ((ch >>> ((8 : Int32) &&& 31)).toInt8.toInt32)), (.int (3 : Int32)), (.ref arr)])) rfl rfl (hb hby own_d22_52)
  have N10 := Fr.snoc X10 N6 g_a
  have K10 : Keep h0 h10 [arr] := K6.wr W10 (Or.inl (List.mem_of_getElem? (i := 0) rfl))
  have Z10 : n0 ≤ h10.size := Nat.le_trans Z6 (Keep.of_wr W10).1
  have O10 := O6.wr W10 g_a
  have fw10 := (show Arv Z h10 arr ka .byte (4 : Int32) [(.int x0), (.int x1), (.int ((ch >>> ((0 : Int32) &&& 31)).toInt8.toInt32)), (.int ((ch >>> ((8 : Int32) &&& 31)).toInt8.toInt32))] (.int (0 : Int32)) by have q : Arv Z h10 arr ka .byte (4 : Int32) [(.int x0), (.int x1), (.int ((ch >>> ((0 : Int32) &&& 31)).toInt8.toInt32)), (.int (((ch >>> ((8 : Int32) &&& 31)).toInt8.toInt32).toInt8.toInt32))] (.int (0 : Int32)) := Arv.set Ar9 q9 S9 M9 H9 G9 (fits_nar_byte _) W10 3 rfl (Nat.le_of_ble_eq_true rfl); rw [own_bb (ch >>> ((8 : Int32) &&& 31))] at q; exact q)
  refine own_st (T' := T10) (g' := (mkF m 53 #[.val (.ref arr), .val (.int (3 : Int32)), .val (.int ch)] [])) st10 ?_
  exact own_retV X10 hx Bd (hb hby own_d22_53) e10 (⟨rfl, N10, K10, fw10⟩) (by decide) (by decide)
def own_r3 : Room := { frames := 0, cells := 1, slots := 1, locals := 0 }
theorem own_ef3 (m : MethodId) (x0 : Int32) : entryFrame m #[(.int x0)] 1 = mkF m 0 #[.val (.int x0)] [] := by first | (simp [entryFrame, mkF, argsToLocals, Value.category]; done) | rfl
def own_Q3 (Z : State) (ch : Int32) (cs : Int32) (fm : Value) (h0 : Heap) (n0 : Nat) : Option Value → Heap → List Loc → Prop := fun v h L => ∃ r k, v = some (.ref r) ∧ Fr n0 L ∧ Keep h0 h [] ∧ n0 ≤ r ∧ h0.size ≤ r ∧ Arv Z h r k .byte (1 : Int32) [(.int (ch.toInt8.toInt32))] (.int (0 : Int32))
set_option maxRecDepth 65536 in
set_option maxHeartbeats 40000000 in
theorem own_rm3 (l : Launch) (Z : State) (a0 : Array Value) (hw : ∀ d ∈ tables_1, d.before a0 Z = true) (ws : List Jvm.Cond) (ch : Int32) (cs : Int32) (fm : Value) (h0 : Heap) (n0 : Nat) (Z0 : n0 ≤ h0.size) (O0 : Old Z n0 h0)  (hcs : ¬ cs = (0 : Int32)) (hfm : fm.isRef = true) (S_cs : Sta Z Z.heap "java/lang/String" "COMPACT_STRINGS" "Z" (.int cs)) (S_fm : Sta Z Z.heap "jdk/internal/util/Preconditions" "SIOOBE_FORMATTER" "Ljava/util/function/BiFunction;" fm) (S_ad : Sta Z Z.heap "java/lang/StringUTF16" "$assertionsDisabled" "Z" (.int (1 : Int32))) (S_hb : Sta Z Z.heap "java/lang/StringUTF16" "HI_BYTE_SHIFT" "I" (.int (0 : Int32))) (S_lb : Sta Z Z.heap "java/lang/StringUTF16" "LO_BYTE_SHIFT" "I" (.int (8 : Int32))) :
    MetFree l (⟨"java/lang/StringLatin1", "toBytes", "(C)[B"⟩ : MethodName) (head1 (Jvm.Cond.code (⟨"java/lang/StringLatin1", "toBytes", "(C)[B"⟩ : MethodName) jdk_43_method_46_code 1 (some (.array .byte)) :: ws) own_r3) (fun a_ U_ => a_ = #[(.int ch)] ∧ Z.Warmed39 U_.vm ∧ U_.heap = h0) (fun _ _ _ _ _ => True) (fun _ U_ o_ U'_ => ∃ v_ L_, o_ = .returned v_ ∧ own_Q3 Z ch  cs  fm  h0 n0 v_ U'_.heap L_ ∧ FrameEnd U_ o_ U'_ L_ own_r3.cells own_r3.slots) := by
  refine MetFree.of_bodySF (plainFor_of_name own_pn4) hisR ?_
  intro p e s m args below meth c s₁ Bd hml0 hP hK
  obtain ⟨rfl, hZ, hh⟩ := hP
  have hx := Bd.exec
  have hby := Bd.bytes
  have hml : c.maxLocals = 1 := hml0
  have hown : s.vm.findClass "java/lang/StringLatin1" = some m.cls := findClass_of_methodNamed Bd.named
  have hnm := (name_of_methodNamed Bd.named Bd.method).1
  have X0 : Stand p l e own_r3 s m #[(.int ch)] below meth c s₁ [] 0 0 := Stand.of_body Bd
  have e0 : s₁.heap = h0 := by rw [← hh, Bd.state]; rfl
  have N0 := Fr.nil n0
  refine own_in (own_ef3 m ch) ?_
  show own_Go p e below (own_K s (own_Q3 Z ch  cs  fm  h0 n0) own_r3.cells own_r3.slots) s₁ (mkF m 0 #[.val (.int ch)] [])
  refine own_st (T' := s₁) (g' := (mkF m 1 #[.val (.int ch)] [(.int (1 : Int32))])) (fun t k => ?_) ?_
  · show Steps p.tables e below (s₁.setTop (mkF m 0 #[.val (.int ch)] [])) t
    refine XS.iconst X0.here hx rfl (hb hby own_d3_0) ?_
    exact k
  obtain ⟨T1, h1, k1, X1, e1, E1, A1, st1⟩ := newP X0 hx hZ (hw _ (List.mem_of_getElem? (i := 15) rfl)) e0 (g := (mkF m 1 #[.val (.int ch)] [(.int (1 : Int32))])) rfl (hb hby own_d3_1) rfl (by decide) (cap := 1) (by decide) (by decide) (by decide) (by decide)
  obtain ⟨b1, g1⟩ : ∃ z, z = h0.size := ⟨_, rfl⟩
  rw [← g1] at A1 st1
  have sz1 : h0.size ≤ b1 := Nat.le_of_eq g1.symm
  have g_b1 : n0 ≤ b1 := Nat.le_trans Z0 sz1
  have hz_b1 : h0.size ≤ b1 := Nat.le_trans (Keep.refl h0 []).1 sz1
  have K1 : Keep h0 h1 [] := (Keep.refl h0 []).ext E1
  have Z1 : n0 ≤ h1.size := Nat.le_trans Z0 E1.1
  have O1 := O0.ext E1
  have V1 : Arv Z h1 b1 k1 .byte (1 : Int32) [(.int (0 : Int32))] (.int (0 : Int32)) := (Arv.new A1 (by decide)).pad (pad_rep [] (.int (0 : Int32)) 1)
  refine own_st (T' := T1) (g' := (mkF m 3 #[.val (.int ch)] [(.ref b1)])) st1 ?_
  refine own_st (T' := T1) (g' := (mkF m 7 #[.val (.int ch)] [(.int (ch.toInt8.toInt32)), (.int (0 : Int32)), (.ref b1), (.ref b1)])) (fun t k => ?_) ?_
  · show Steps p.tables e below (T1.setTop (mkF m 3 #[.val (.int ch)] [(.ref b1)])) t
    refine XS.dup X1.here hx rfl (hb hby own_d3_3) rfl rfl ?_
    refine XS.iconst X1.here hx rfl (hb hby own_d3_4) ?_
    refine XS.iloadN X1.here hx rfl (hb hby own_d3_5) rfl ?_
    refine XS.i2b X1.here hx rfl (hb hby own_d3_6) rfl ?_
    exact k
  obtain ⟨cl2, Ar2, q2, S2, M2, H2, G2⟩ := id V1
  obtain ⟨T3, h3, X3, e3, W3, st3⟩ := stB X1 hx hZ e1 Ar2 (j := (0 : Int32)) (inb_of S2 ⟨by decide, by decide⟩) (g := (mkF m 7 #[.val (.int ch)] [(.int (ch.toInt8.toInt32)), (.int (0 : Int32)), (.ref b1), (.ref b1)])) rfl rfl (hb hby own_d3_7)
  have N3 := Fr.snoc X3 N0 g_b1
  have K3 : Keep h0 h3 [] := K1.wr W3 (Or.inr hz_b1)
  have Z3 : n0 ≤ h3.size := Nat.le_trans Z1 (Keep.of_wr W3).1
  have O3 := O1.wr W3 g_b1
  have fw3 := (show Arv Z h3 b1 k1 .byte (1 : Int32) [(.int (ch.toInt8.toInt32))] (.int (0 : Int32)) by have q : Arv Z h3 b1 k1 .byte (1 : Int32) [(.int ((ch.toInt8.toInt32).toInt8.toInt32))] (.int (0 : Int32)) := Arv.set Ar2 q2 S2 M2 H2 G2 (fits_nar_byte _) W3 0 rfl (Nat.le_of_ble_eq_true rfl); rw [own_bb ch] at q; exact q)
  refine own_st (T' := T3) (g' := (mkF m 8 #[.val (.int ch)] [(.ref b1)])) st3 ?_
  exact own_retA X3 hx Bd rfl rfl (hb hby own_d3_8) e3 (⟨b1, k1, rfl, N3, K3, g_b1, hz_b1, fw3⟩) (by decide) (by decide)
def own_r27 : Room := { frames := 1, cells := 1, slots := 2, locals := 14 }
theorem own_ef27 (m : MethodId) (x0 : Int32) : entryFrame m #[(.int x0)] 2 = mkF m 0 #[.val (.int x0), .unset] [] := by first | (simp [entryFrame, mkF, argsToLocals, Value.category]; done) | rfl
def own_Q27 (Z : State) (ch : Int32) (cs : Int32) (fm : Value) (h0 : Heap) (n0 : Nat) : Option Value → Heap → List Loc → Prop := fun v h L => ∃ r k, v = some (.ref r) ∧ Fr n0 L ∧ Keep h0 h [] ∧ n0 ≤ r ∧ h0.size ≤ r ∧ Arv Z h r k .byte (2 : Int32) [(.int ((ch >>> ((0 : Int32) &&& 31)).toInt8.toInt32)), (.int ((ch >>> ((8 : Int32) &&& 31)).toInt8.toInt32))] (.int (0 : Int32))
set_option maxRecDepth 65536 in
set_option maxHeartbeats 40000000 in
theorem own_rm27 (l : Launch) (Z : State) (a0 : Array Value) (hw : ∀ d ∈ tables_1, d.before a0 Z = true) (ws : List Jvm.Cond) (ch : Int32) (cs : Int32) (fm : Value) (h0 : Heap) (n0 : Nat) (Z0 : n0 ≤ h0.size) (O0 : Old Z n0 h0)  (hcs : ¬ cs = (0 : Int32)) (hfm : fm.isRef = true) (S_cs : Sta Z Z.heap "java/lang/String" "COMPACT_STRINGS" "Z" (.int cs)) (S_fm : Sta Z Z.heap "jdk/internal/util/Preconditions" "SIOOBE_FORMATTER" "Ljava/util/function/BiFunction;" fm) (S_ad : Sta Z Z.heap "java/lang/StringUTF16" "$assertionsDisabled" "Z" (.int (1 : Int32))) (S_hb : Sta Z Z.heap "java/lang/StringUTF16" "HI_BYTE_SHIFT" "I" (.int (0 : Int32))) (S_lb : Sta Z Z.heap "java/lang/StringUTF16" "LO_BYTE_SHIFT" "I" (.int (8 : Int32))) :
    MetFree l (⟨"java/lang/StringUTF16", "toBytes", "(C)[B"⟩ : MethodName) (head1 (Jvm.Cond.code (⟨"java/lang/StringUTF16", "toBytes", "(C)[B"⟩ : MethodName) jdk_52_method_24_code 2 (some (.array .byte)) :: ws) own_r27) (fun a_ U_ => a_ = #[(.int ch)] ∧ Z.Warmed39 U_.vm ∧ U_.heap = h0) (fun _ _ _ _ _ => True) (fun _ U_ o_ U'_ => ∃ v_ L_, o_ = .returned v_ ∧ own_Q27 Z ch  cs  fm  h0 n0 v_ U'_.heap L_ ∧ FrameEnd U_ o_ U'_ L_ own_r27.cells own_r27.slots) := by
  refine MetFree.of_bodySF (plainFor_of_name own_pn3) hisR ?_
  intro p e s m args below meth c s₁ Bd hml0 hP hK
  obtain ⟨rfl, hZ, hh⟩ := hP
  have hx := Bd.exec
  have hby := Bd.bytes
  have hml : c.maxLocals = 2 := hml0
  have hown : s.vm.findClass "java/lang/StringUTF16" = some m.cls := findClass_of_methodNamed Bd.named
  have hnm := (name_of_methodNamed Bd.named Bd.method).1
  have X0 : Stand p l e own_r27 s m #[(.int ch)] below meth c s₁ [] 0 0 := Stand.of_body Bd
  have e0 : s₁.heap = h0 := by rw [← hh, Bd.state]; rfl
  have N0 := Fr.nil n0
  refine own_in (own_ef27 m ch) ?_
  show own_Go p e below (own_K s (own_Q27 Z ch  cs  fm  h0 n0) own_r27.cells own_r27.slots) s₁ (mkF m 0 #[.val (.int ch), .unset] [])
  refine own_st (T' := s₁) (g' := (mkF m 1 #[.val (.int ch), .unset] [(.int (2 : Int32))])) (fun t k => ?_) ?_
  · show Steps p.tables e below (s₁.setTop (mkF m 0 #[.val (.int ch), .unset] [])) t
    refine XS.iconst X0.here hx rfl (hb hby own_d27_0) ?_
    exact k
  obtain ⟨T1, h1, k1, X1, e1, E1, A1, st1⟩ := newP X0 hx hZ (hw _ (List.mem_of_getElem? (i := 15) rfl)) e0 (g := (mkF m 1 #[.val (.int ch), .unset] [(.int (2 : Int32))])) rfl (hb hby own_d27_1) rfl (by decide) (cap := 2) (by decide) (by decide) (by decide) (by decide)
  obtain ⟨b1, g1⟩ : ∃ z, z = h0.size := ⟨_, rfl⟩
  rw [← g1] at A1 st1
  have sz1 : h0.size ≤ b1 := Nat.le_of_eq g1.symm
  have g_b1 : n0 ≤ b1 := Nat.le_trans Z0 sz1
  have hz_b1 : h0.size ≤ b1 := Nat.le_trans (Keep.refl h0 []).1 sz1
  have K1 : Keep h0 h1 [] := (Keep.refl h0 []).ext E1
  have Z1 : n0 ≤ h1.size := Nat.le_trans Z0 E1.1
  have O1 := O0.ext E1
  have V1 : Arv Z h1 b1 k1 .byte (2 : Int32) [(.int (0 : Int32)), (.int (0 : Int32))] (.int (0 : Int32)) := (Arv.new A1 (by decide)).pad (pad_rep [] (.int (0 : Int32)) 2)
  refine own_st (T' := T1) (g' := (mkF m 3 #[.val (.int ch), .unset] [(.ref b1)])) st1 ?_
  refine own_st (T' := T1) (g' := (mkF m 7 #[.val (.int ch), .val (.ref b1)] [(.int ch), (.int (0 : Int32)), (.ref b1)])) (fun t k => ?_) ?_
  · show Steps p.tables e below (T1.setTop (mkF m 3 #[.val (.int ch), .unset] [(.ref b1)])) t
    refine XS.astoreN X1.here hx rfl (hb hby own_d27_3) rfl rfl (l' := #[.val (.int ch), .val (.ref b1)]) rfl ?_
    refine XS.aloadN X1.here hx rfl (hb hby own_d27_4) rfl rfl ?_
    refine XS.iconst X1.here hx rfl (hb hby own_d27_5) ?_
    refine XS.iloadN X1.here hx rfl (hb hby own_d27_6) rfl ?_
    exact k
  obtain ⟨_, _, ⟨T2, L2, c2, n2⟩, -, X2, ⟨Lc2, hQ2, l2, y2, z2⟩, st2⟩ := Jvm.LawKit.callS X1 hx (y := (⟨"java/lang/StringUTF16", "putChar", "([BII)V"⟩ : MethodName)) hown (mvT hZ (hw _ (List.mem_of_getElem? (i := 99) rfl))) (mvT hZ (hw _ (List.mem_of_getElem? (i := 100) rfl))) (mvT hZ (hw _ (List.mem_of_getElem? (i := 81) rfl))) (mvT hZ (hw _ (List.mem_of_getElem? (i := 101) rfl))) (by decide) (backOf (W := 0) (own_rm22_2_0 l Z a0 hw [] b1 k1 (0 : Int32) (0 : Int32) ch cs fm h1 n0 Z1 O1 V1 g_b1 hcs hfm S_cs S_fm S_ad S_hb S_lb) hZ (hw _ (List.mem_of_getElem? (i := 101) rfl)) (hw _ (List.mem_of_getElem? (i := 81) rfl)) (by decide) (by decide)) (g := (mkF m 7 #[.val (.int ch), .val (.ref b1)] [(.int ch), (.int (0 : Int32)), (.ref b1)])) rfl (by rw [hml]; rfl) (argsL := [(.ref b1), (.int (0 : Int32)), (.int ch)]) (rest := []) (lenOf own_pd6 rfl) rfl (by show 2 * 0 + _ ≤ _; exact Nat.le_of_eq rfl) (hb hby own_d27_7) (fun _ _ => ⟨rfl, e1, (by decide : 1 + 0 ≤ _), (by decide : 2 + 0 ≤ _)⟩)
  dsimp only [Pt.U, Pt.locs, Pt.cells, Pt.slots] at X2 l2 y2 z2 st2 hQ2
  subst l2 y2 z2
  obtain ⟨h2, e2⟩ : ∃ z, T2.heap = z := ⟨_, rfl⟩
  rw [e2] at hQ2
  obtain ⟨rfl, N2q, Kc2, Vc2⟩ := hQ2
  have N2 := Fr.app N0 N2q
  have K2 : Keep h0 h2 [] := K1.trans Kc2 (allS (Or.inr hz_b1) all0)
  have Z2 : n0 ≤ h2.size := Nat.le_trans Z1 Kc2.1
  have O2 := O1.keep Kc2 (allS g_b1 all0)
  refine own_st (T' := T2) (g' := (mkF m 10 #[.val (.int ch), .val (.ref b1)] [])) st2 ?_
  refine own_st (T' := T2) (g' := (mkF m 11 #[.val (.int ch), .val (.ref b1)] [(.ref b1)])) (fun t k => ?_) ?_
  · show Steps p.tables e below (T2.setTop (mkF m 10 #[.val (.int ch), .val (.ref b1)] [])) t
    refine XS.aloadN X2.here hx rfl (hb hby own_d27_10) rfl rfl ?_
    exact k
  exact own_retA X2 hx Bd rfl rfl (hb hby own_d27_11) e2 (⟨b1, k1, rfl, N2, K2, g_b1, hz_b1, Vc2⟩) (by decide) (by decide)
def own_r21 : Room := { frames := 0, cells := 0, slots := 0, locals := 0 }
theorem own_ef21 (m : MethodId)  : entryFrame m #[(.int (2 : Int32))] 1 = mkF m 0 #[.val (.int (2 : Int32))] [] := by first | (simp [entryFrame, mkF, argsToLocals, Value.category]; done) | rfl
def own_Q21 (Z : State) (cs : Int32) (fm : Value) (h0 : Heap) (n0 : Nat) : Option Value → Heap → List Loc → Prop := fun v h L => v = some (.int (4 : Int32)) ∧ Fr n0 L ∧ h = h0
set_option maxRecDepth 65536 in
set_option maxHeartbeats 40000000 in
theorem own_rm21 (l : Launch) (Z : State) (a0 : Array Value) (hw : ∀ d ∈ tables_1, d.before a0 Z = true) (ws : List Jvm.Cond) (cs : Int32) (fm : Value) (h0 : Heap) (n0 : Nat) (Z0 : n0 ≤ h0.size) (O0 : Old Z n0 h0)  (hcs : ¬ cs = (0 : Int32)) (hfm : fm.isRef = true) (S_cs : Sta Z Z.heap "java/lang/String" "COMPACT_STRINGS" "Z" (.int cs)) (S_fm : Sta Z Z.heap "jdk/internal/util/Preconditions" "SIOOBE_FORMATTER" "Ljava/util/function/BiFunction;" fm) (S_ad : Sta Z Z.heap "java/lang/StringUTF16" "$assertionsDisabled" "Z" (.int (1 : Int32))) (S_hb : Sta Z Z.heap "java/lang/StringUTF16" "HI_BYTE_SHIFT" "I" (.int (0 : Int32))) (S_lb : Sta Z Z.heap "java/lang/StringUTF16" "LO_BYTE_SHIFT" "I" (.int (8 : Int32))) :
    MetFree l (⟨"java/lang/StringUTF16", "newBytesLength", "(I)I"⟩ : MethodName) (head1 (Jvm.Cond.code (⟨"java/lang/StringUTF16", "newBytesLength", "(I)I"⟩ : MethodName) jdk_52_method_3_code 1 (some .int) :: ws) own_r21) (fun a_ U_ => a_ = #[(.int (2 : Int32))] ∧ Z.Warmed39 U_.vm ∧ U_.heap = h0) (fun _ _ _ _ _ => True) (fun _ U_ o_ U'_ => ∃ v_ L_, o_ = .returned v_ ∧ own_Q21 Z cs  fm  h0 n0 v_ U'_.heap L_ ∧ FrameEnd U_ o_ U'_ L_ own_r21.cells own_r21.slots) := by
  refine MetFree.of_bodySF (plainFor_of_name own_pn3) hisR ?_
  intro p e s m args below meth c s₁ Bd hml0 hP hK
  obtain ⟨rfl, hZ, hh⟩ := hP
  have hx := Bd.exec
  have hby := Bd.bytes
  have hml : c.maxLocals = 1 := hml0
  have hown : s.vm.findClass "java/lang/StringUTF16" = some m.cls := findClass_of_methodNamed Bd.named
  have hnm := (name_of_methodNamed Bd.named Bd.method).1
  have X0 : Stand p l e own_r21 s m #[(.int (2 : Int32))] below meth c s₁ [] 0 0 := Stand.of_body Bd
  have e0 : s₁.heap = h0 := by rw [← hh, Bd.state]; rfl
  have N0 := Fr.nil n0
  refine own_in (own_ef21 m ) ?_
  show own_Go p e below (own_K s (own_Q21 Z cs  fm  h0 n0) own_r21.cells own_r21.slots) s₁ (mkF m 0 #[.val (.int (2 : Int32))] [])
  refine own_st (T' := s₁) (g' := (mkF m 58 #[.val (.int (2 : Int32))] [(.int (4 : Int32))])) (fun t k => ?_) ?_
  · show Steps p.tables e below (s₁.setTop (mkF m 0 #[.val (.int (2 : Int32))] [])) t
    refine XS.iloadN X0.here hx rfl (hb hby own_d21_0) rfl ?_
    refine XS.ifYes X0.here hx rfl (pc0 := 1) (pc' := 12) rfl (hb hby own_d21_1) rfl ((if0 _ _).trans (flt (by decide : ¬ ((2 : Int32) < (0 : Int32)))).2.1) (by decide) (by decide) ?_
    refine XS.iloadN X0.here hx rfl (hb hby own_d21_12) rfl ?_
    refine X0.ldcInt hx hown (mvT hZ (hw _ (List.mem_of_getElem? (i := 98) rfl))) (g := (mkF m 13 #[.val (.int (2 : Int32))] [(.int (2 : Int32))])) rfl (hb hby own_d21_13) _ ?_
    refine XS.icmpYes X0.here hx rfl (pc0 := 15) (pc' := 55) rfl (hb hby own_d21_15) rfl (tlt (by decide : (2 : Int32) < (1073741823 : Int32))).1 (by decide) (by decide) ?_
    refine XS.iloadN X0.here hx rfl (hb hby own_d21_55) rfl ?_
    refine XS.iconst X0.here hx rfl (hb hby own_d21_56) ?_
    refine XS.ishl X0.here hx rfl (hb hby own_d21_57) rfl ?_
    exact k
  exact own_retI X0 hx Bd (hb hby own_d21_58) e0 (⟨rfl, N0, rfl⟩) (by decide) (by decide)
def own_r20 : Room := { frames := 1, cells := 1, slots := 4, locals := 12 }
theorem own_ef20 (m : MethodId)  : entryFrame m #[(.int (2 : Int32))] 1 = mkF m 0 #[.val (.int (2 : Int32))] [] := by first | (simp [entryFrame, mkF, argsToLocals, Value.category]; done) | rfl
def own_Q20 (Z : State) (cs : Int32) (fm : Value) (h0 : Heap) (n0 : Nat) : Option Value → Heap → List Loc → Prop := fun v h L => ∃ r k, v = some (.ref r) ∧ Fr n0 L ∧ Keep h0 h [] ∧ n0 ≤ r ∧ h0.size ≤ r ∧ Arv Z h r k .byte (4 : Int32) [(.int (0 : Int32)), (.int (0 : Int32)), (.int (0 : Int32)), (.int (0 : Int32))] (.int (0 : Int32))
set_option maxRecDepth 65536 in
set_option maxHeartbeats 40000000 in
theorem own_rm20 (l : Launch) (Z : State) (a0 : Array Value) (hw : ∀ d ∈ tables_1, d.before a0 Z = true) (ws : List Jvm.Cond) (cs : Int32) (fm : Value) (h0 : Heap) (n0 : Nat) (Z0 : n0 ≤ h0.size) (O0 : Old Z n0 h0)  (hcs : ¬ cs = (0 : Int32)) (hfm : fm.isRef = true) (S_cs : Sta Z Z.heap "java/lang/String" "COMPACT_STRINGS" "Z" (.int cs)) (S_fm : Sta Z Z.heap "jdk/internal/util/Preconditions" "SIOOBE_FORMATTER" "Ljava/util/function/BiFunction;" fm) (S_ad : Sta Z Z.heap "java/lang/StringUTF16" "$assertionsDisabled" "Z" (.int (1 : Int32))) (S_hb : Sta Z Z.heap "java/lang/StringUTF16" "HI_BYTE_SHIFT" "I" (.int (0 : Int32))) (S_lb : Sta Z Z.heap "java/lang/StringUTF16" "LO_BYTE_SHIFT" "I" (.int (8 : Int32))) :
    MetFree l (⟨"java/lang/StringUTF16", "newBytesFor", "(I)[B"⟩ : MethodName) (head1 (Jvm.Cond.code (⟨"java/lang/StringUTF16", "newBytesFor", "(I)[B"⟩ : MethodName) jdk_52_method_2_code 1 (some (.array .byte)) :: ws) own_r20) (fun a_ U_ => a_ = #[(.int (2 : Int32))] ∧ Z.Warmed39 U_.vm ∧ U_.heap = h0) (fun _ _ _ _ _ => True) (fun _ U_ o_ U'_ => ∃ v_ L_, o_ = .returned v_ ∧ own_Q20 Z cs  fm  h0 n0 v_ U'_.heap L_ ∧ FrameEnd U_ o_ U'_ L_ own_r20.cells own_r20.slots) := by
  refine MetFree.of_bodySF (plainFor_of_name own_pn3) hisR ?_
  intro p e s m args below meth c s₁ Bd hml0 hP hK
  obtain ⟨rfl, hZ, hh⟩ := hP
  have hx := Bd.exec
  have hby := Bd.bytes
  have hml : c.maxLocals = 1 := hml0
  have hown : s.vm.findClass "java/lang/StringUTF16" = some m.cls := findClass_of_methodNamed Bd.named
  have hnm := (name_of_methodNamed Bd.named Bd.method).1
  have X0 : Stand p l e own_r20 s m #[(.int (2 : Int32))] below meth c s₁ [] 0 0 := Stand.of_body Bd
  have e0 : s₁.heap = h0 := by rw [← hh, Bd.state]; rfl
  have N0 := Fr.nil n0
  refine own_in (own_ef20 m ) ?_
  show own_Go p e below (own_K s (own_Q20 Z cs  fm  h0 n0) own_r20.cells own_r20.slots) s₁ (mkF m 0 #[.val (.int (2 : Int32))] [])
  refine own_st (T' := s₁) (g' := (mkF m 1 #[.val (.int (2 : Int32))] [(.int (2 : Int32))])) (fun t k => ?_) ?_
  · show Steps p.tables e below (s₁.setTop (mkF m 0 #[.val (.int (2 : Int32))] [])) t
    refine XS.iloadN X0.here hx rfl (hb hby own_d20_0) rfl ?_
    exact k
  obtain ⟨_, _, ⟨T1, L1, c1, n1⟩, -, X1, ⟨Lc1, hQ1, l1, y1, z1⟩, st1⟩ := Jvm.LawKit.callS X0 hx (y := (⟨"java/lang/StringUTF16", "newBytesLength", "(I)I"⟩ : MethodName)) hown (mvT hZ (hw _ (List.mem_of_getElem? (i := 95) rfl))) (mvT hZ (hw _ (List.mem_of_getElem? (i := 96) rfl))) (mvT hZ (hw _ (List.mem_of_getElem? (i := 81) rfl))) (mvT hZ (hw _ (List.mem_of_getElem? (i := 97) rfl))) (by decide) (backOf (W := 0) (own_rm21 l Z a0 hw []  cs fm h0 n0 Z0 O0  hcs hfm S_cs S_fm S_ad S_hb S_lb) hZ (hw _ (List.mem_of_getElem? (i := 97) rfl)) (hw _ (List.mem_of_getElem? (i := 81) rfl)) (by decide) (by decide)) (g := (mkF m 1 #[.val (.int (2 : Int32))] [(.int (2 : Int32))])) rfl (by rw [hml]; rfl) (argsL := [(.int (2 : Int32))]) (rest := []) (lenOf own_pd7 rfl) rfl (by show 2 * 0 + _ ≤ _; exact Nat.le_of_eq rfl) (hb hby own_d20_1) (fun _ _ => ⟨rfl, e0, (by decide : 0 + 0 ≤ _), (by decide : 0 + 0 ≤ _)⟩)
  dsimp only [Pt.U, Pt.locs, Pt.cells, Pt.slots] at X1 l1 y1 z1 st1 hQ1
  subst l1 y1 z1
  obtain ⟨rfl, N1q, e1⟩ := hQ1
  have N1 := Fr.app N0 N1q
  refine own_st (T' := T1) (g' := (mkF m 4 #[.val (.int (2 : Int32))] [(.int (4 : Int32))])) st1 ?_
  obtain ⟨T2, h2, k2, X2, e2, E2, A2, st2⟩ := newP X1 hx hZ (hw _ (List.mem_of_getElem? (i := 15) rfl)) e1 (g := (mkF m 4 #[.val (.int (2 : Int32))] [(.int (4 : Int32))])) rfl (hb hby own_d20_4) rfl (by decide) (cap := 4) (by decide) (by decide) (by decide) (by decide)
  obtain ⟨b2, g2⟩ : ∃ z, z = h0.size := ⟨_, rfl⟩
  rw [← g2] at A2 st2
  have sz2 : h0.size ≤ b2 := Nat.le_of_eq g2.symm
  have g_b2 : n0 ≤ b2 := Nat.le_trans Z0 sz2
  have hz_b2 : h0.size ≤ b2 := Nat.le_trans (Keep.refl h0 []).1 sz2
  have K2 : Keep h0 h2 [] := (Keep.refl h0 []).ext E2
  have Z2 : n0 ≤ h2.size := Nat.le_trans Z0 E2.1
  have O2 := O0.ext E2
  have V2 : Arv Z h2 b2 k2 .byte (4 : Int32) [(.int (0 : Int32)), (.int (0 : Int32)), (.int (0 : Int32)), (.int (0 : Int32))] (.int (0 : Int32)) := (Arv.new A2 (by decide)).pad (pad_rep [] (.int (0 : Int32)) 4)
  refine own_st (T' := T2) (g' := (mkF m 6 #[.val (.int (2 : Int32))] [(.ref b2)])) st2 ?_
  exact own_retA X2 hx Bd rfl rfl (hb hby own_d20_6) e2 (⟨b2, k2, rfl, N1, K2, g_b2, hz_b2, V2⟩) (by decide) (by decide)
def own_r19 : Room := { frames := 2, cells := 1, slots := 4, locals := 24 }
theorem own_ef19 (m : MethodId) (x0 : Addr) : entryFrame m #[(.ref x0), (.int (0 : Int32)), (.int (2 : Int32))] 5 = mkF m 0 #[.val (.ref x0), .val (.int (0 : Int32)), .val (.int (2 : Int32)), .unset, .unset] [] := by first | (simp [entryFrame, mkF, argsToLocals, Value.category]; done) | rfl
def own_Q19 (Z : State) (ca : Addr) (kc : ClassId) (c0 c1 : Int32) (cs : Int32) (fm : Value) (h0 : Heap) (n0 : Nat) : Option Value → Heap → List Loc → Prop := fun v h L => ∃ r k, v = some (.ref r) ∧ Fr n0 L ∧ Keep h0 h [] ∧ n0 ≤ r ∧ h0.size ≤ r ∧ Arv Z h r k .byte (4 : Int32) [(.int ((c0 >>> ((0 : Int32) &&& 31)).toInt8.toInt32)), (.int ((c0 >>> ((8 : Int32) &&& 31)).toInt8.toInt32)), (.int ((c1 >>> ((0 : Int32) &&& 31)).toInt8.toInt32)), (.int ((c1 >>> ((8 : Int32) &&& 31)).toInt8.toInt32))] (.int (0 : Int32))
set_option maxRecDepth 65536 in
set_option maxHeartbeats 40000000 in
theorem own_rm19 (l : Launch) (Z : State) (a0 : Array Value) (hw : ∀ d ∈ tables_1, d.before a0 Z = true) (ws : List Jvm.Cond) (ca : Addr) (kc : ClassId) (c0 c1 : Int32) (cs : Int32) (fm : Value) (h0 : Heap) (n0 : Nat) (Z0 : n0 ≤ h0.size) (O0 : Old Z n0 h0) (V_c : Arv Z h0 ca kc .char (2 : Int32) [(.int c0), (.int c1)] (.int (0 : Int32))) (hcs : ¬ cs = (0 : Int32)) (hfm : fm.isRef = true) (S_cs : Sta Z Z.heap "java/lang/String" "COMPACT_STRINGS" "Z" (.int cs)) (S_fm : Sta Z Z.heap "jdk/internal/util/Preconditions" "SIOOBE_FORMATTER" "Ljava/util/function/BiFunction;" fm) (S_ad : Sta Z Z.heap "java/lang/StringUTF16" "$assertionsDisabled" "Z" (.int (1 : Int32))) (S_hb : Sta Z Z.heap "java/lang/StringUTF16" "HI_BYTE_SHIFT" "I" (.int (0 : Int32))) (S_lb : Sta Z Z.heap "java/lang/StringUTF16" "LO_BYTE_SHIFT" "I" (.int (8 : Int32))) :
    MetFree l (⟨"java/lang/StringUTF16", "toBytes", "([CII)[B"⟩ : MethodName) (head1 (Jvm.Cond.code (⟨"java/lang/StringUTF16", "toBytes", "([CII)[B"⟩ : MethodName) jdk_52_method_14_code 5 (some (.array .byte)) :: ws) own_r19) (fun a_ U_ => a_ = #[(.ref ca), (.int (0 : Int32)), (.int (2 : Int32))] ∧ Z.Warmed39 U_.vm ∧ U_.heap = h0) (fun _ _ _ _ _ => True) (fun _ U_ o_ U'_ => ∃ v_ L_, o_ = .returned v_ ∧ own_Q19 Z ca  kc  c0 c1  cs  fm  h0 n0 v_ U'_.heap L_ ∧ FrameEnd U_ o_ U'_ L_ own_r19.cells own_r19.slots) := by
  refine MetFree.of_bodySF (plainFor_of_name own_pn3) hisR ?_
  intro p e s m args below meth c s₁ Bd hml0 hP hK
  obtain ⟨rfl, hZ, hh⟩ := hP
  have hx := Bd.exec
  have hby := Bd.bytes
  have hml : c.maxLocals = 5 := hml0
  have hown : s.vm.findClass "java/lang/StringUTF16" = some m.cls := findClass_of_methodNamed Bd.named
  have hnm := (name_of_methodNamed Bd.named Bd.method).1
  have X0 : Stand p l e own_r19 s m #[(.ref ca), (.int (0 : Int32)), (.int (2 : Int32))] below meth c s₁ [] 0 0 := Stand.of_body Bd
  have e0 : s₁.heap = h0 := by rw [← hh, Bd.state]; rfl
  have N0 := Fr.nil n0
  refine own_in (own_ef19 m ca) ?_
  show own_Go p e below (own_K s (own_Q19 Z ca  kc  c0 c1  cs  fm  h0 n0) own_r19.cells own_r19.slots) s₁ (mkF m 0 #[.val (.ref ca), .val (.int (0 : Int32)), .val (.int (2 : Int32)), .unset, .unset] [])
  refine own_st (T' := s₁) (g' := (mkF m 1 #[.val (.ref ca), .val (.int (0 : Int32)), .val (.int (2 : Int32)), .unset, .unset] [(.int (2 : Int32))])) (fun t k => ?_) ?_
  · show Steps p.tables e below (s₁.setTop (mkF m 0 #[.val (.ref ca), .val (.int (0 : Int32)), .val (.int (2 : Int32)), .unset, .unset] [])) t
    refine XS.iloadN X0.here hx rfl (hb hby own_d19_0) rfl ?_
    exact k
  obtain ⟨_, _, ⟨T1, L1, c1, n1⟩, -, X1, ⟨Lc1, hQ1, l1, y1, z1⟩, st1⟩ := Jvm.LawKit.callS X0 hx (y := (⟨"java/lang/StringUTF16", "newBytesFor", "(I)[B"⟩ : MethodName)) hown (mvT hZ (hw _ (List.mem_of_getElem? (i := 92) rfl))) (mvT hZ (hw _ (List.mem_of_getElem? (i := 93) rfl))) (mvT hZ (hw _ (List.mem_of_getElem? (i := 81) rfl))) (mvT hZ (hw _ (List.mem_of_getElem? (i := 94) rfl))) (by decide) (backOf (W := 0) (own_rm20 l Z a0 hw []  cs fm h0 n0 Z0 O0  hcs hfm S_cs S_fm S_ad S_hb S_lb) hZ (hw _ (List.mem_of_getElem? (i := 94) rfl)) (hw _ (List.mem_of_getElem? (i := 81) rfl)) (by decide) (by decide)) (g := (mkF m 1 #[.val (.ref ca), .val (.int (0 : Int32)), .val (.int (2 : Int32)), .unset, .unset] [(.int (2 : Int32))])) rfl (by rw [hml]; rfl) (argsL := [(.int (2 : Int32))]) (rest := []) (lenOf own_pd8 rfl) rfl (by show 2 * 0 + _ ≤ _; exact Nat.le_of_eq rfl) (hb hby own_d19_1) (fun _ _ => ⟨rfl, e0, (by decide : 0 + 1 ≤ _), (by decide : 0 + 4 ≤ _)⟩)
  dsimp only [Pt.U, Pt.locs, Pt.cells, Pt.slots] at X1 l1 y1 z1 st1 hQ1
  subst l1 y1 z1
  obtain ⟨h1, e1⟩ : ∃ z, T1.heap = z := ⟨_, rfl⟩
  rw [e1] at hQ1
  obtain ⟨r1, k1, rfl, N1q, Kc1, g1, hz1, Vc1⟩ := hQ1
  have N1 := Fr.app N0 N1q
  have ne_ca_r1 : ca ≠ r1 := Nat.ne_of_lt (Nat.lt_of_lt_of_le V_c.lt hz1)
  have hwr1 : h0.size ≤ r1 := Nat.le_trans (Keep.refl h0 []).1 hz1
  have K1 : Keep h0 h1 [] := (Keep.refl h0 []).trans Kc1 all0
  have Z1 : n0 ≤ h1.size := Nat.le_trans Z0 Kc1.1
  have O1 := O0.keep Kc1 all0
  refine own_st (T' := T1) (g' := (mkF m 4 #[.val (.ref ca), .val (.int (0 : Int32)), .val (.int (2 : Int32)), .unset, .unset] [(.ref r1)])) st1 ?_
  refine own_st (T' := T1) (g' := (mkF m 19 #[.val (.ref ca), .val (.int (0 : Int32)), .val (.int (2 : Int32)), .val (.ref r1), .val (.int (0 : Int32))] [(.int (0 : Int32)), (.ref ca), (.int (0 : Int32)), (.ref r1)])) (fun t k => ?_) ?_
  · show Steps p.tables e below (T1.setTop (mkF m 4 #[.val (.ref ca), .val (.int (0 : Int32)), .val (.int (2 : Int32)), .unset, .unset] [(.ref r1)])) t
    refine XS.astoreN X1.here hx rfl (hb hby own_d19_4) rfl rfl (l' := #[.val (.ref ca), .val (.int (0 : Int32)), .val (.int (2 : Int32)), .val (.ref r1), .unset]) rfl ?_
    refine XS.iconst X1.here hx rfl (hb hby own_d19_5) ?_
    refine XS.istore X1.here hx rfl (hb hby own_d19_6) rfl (l' := #[.val (.ref ca), .val (.int (0 : Int32)), .val (.int (2 : Int32)), .val (.ref r1), .val (.int (0 : Int32))]) rfl ?_
    refine XS.iload X1.here hx rfl (hb hby own_d19_8) rfl ?_
    refine XS.iloadN X1.here hx rfl (hb hby own_d19_10) rfl ?_
    refine XS.icmpNo X1.here hx rfl (hb hby own_d19_11) rfl (tlt (by decide : (0 : Int32) < (2 : Int32))).2.1 ?_
    refine XS.aloadN X1.here hx rfl (hb hby own_d19_14) rfl rfl ?_
    refine XS.iload X1.here hx rfl (hb hby own_d19_15) rfl ?_
    refine XS.aloadN X1.here hx rfl (hb hby own_d19_17) rfl rfl ?_
    refine XS.iloadN X1.here hx rfl (hb hby own_d19_18) rfl ?_
    exact k
  have f2 := V_c.keep Kc1 nin0
  obtain ⟨cl3, Ar3, q3, S3, M3, H3, G3⟩ := id f2
  refine own_st (T' := T1) (g' := (mkF m 20 #[.val (.ref ca), .val (.int (0 : Int32)), .val (.int (2 : Int32)), .val (.ref r1), .val (.int (0 : Int32))] [(.int c0), (.int (0 : Int32)), (.ref r1)])) (fun t k => ?_) ?_
  · show Steps p.tables e below (T1.setTop (mkF m 19 #[.val (.ref ca), .val (.int (0 : Int32)), .val (.int (2 : Int32)), .val (.ref r1), .val (.int (0 : Int32))] [(.int (0 : Int32)), (.ref ca), (.int (0 : Int32)), (.ref r1)])) t
    refine X1.caload hx (j := (0 : Int32)) (v := (.int c0)) (by rw [e1]; exact Ar3.1) (State.isArrayOf_alike hZ.alike Ar3.2.1) Ar3.2.2 (inb_of S3 ⟨by decide, by decide⟩) (Has.at H3 (inb_of S3 ⟨by decide, by decide⟩) rfl) (g := (mkF m 19 #[.val (.ref ca), .val (.int (0 : Int32)), .val (.int (2 : Int32)), .val (.ref r1), .val (.int (0 : Int32))] [(.int (0 : Int32)), (.ref ca), (.int (0 : Int32)), (.ref r1)])) rfl rfl (hb hby own_d19_19) _ ?_
    show Steps p.tables e below (T1.setTop (mkF m 20 #[.val (.ref ca), .val (.int (0 : Int32)), .val (.int (2 : Int32)), .val (.ref r1), .val (.int (0 : Int32))] [(.int c0), (.int (0 : Int32)), (.ref r1)])) t
    exact k
  obtain ⟨_, _, ⟨T4, L4, c4, n4⟩, -, X4, ⟨Lc4, hQ4, l4, y4, z4⟩, st4⟩ := Jvm.LawKit.callS X1 hx (y := (⟨"java/lang/StringUTF16", "putChar", "([BII)V"⟩ : MethodName)) hown (mvT hZ (hw _ (List.mem_of_getElem? (i := 99) rfl))) (mvT hZ (hw _ (List.mem_of_getElem? (i := 100) rfl))) (mvT hZ (hw _ (List.mem_of_getElem? (i := 81) rfl))) (mvT hZ (hw _ (List.mem_of_getElem? (i := 101) rfl))) (by decide) (backOf (W := 0) (own_rm22_4_0 l Z a0 hw [] r1 k1 (0 : Int32) (0 : Int32) (0 : Int32) (0 : Int32) c0 cs fm h1 n0 Z1 O1 Vc1 g1 hcs hfm S_cs S_fm S_ad S_hb S_lb) hZ (hw _ (List.mem_of_getElem? (i := 101) rfl)) (hw _ (List.mem_of_getElem? (i := 81) rfl)) (by decide) (by decide)) (g := (mkF m 20 #[.val (.ref ca), .val (.int (0 : Int32)), .val (.int (2 : Int32)), .val (.ref r1), .val (.int (0 : Int32))] [(.int c0), (.int (0 : Int32)), (.ref r1)])) rfl (by rw [hml]; rfl) (argsL := [(.ref r1), (.int (0 : Int32)), (.int c0)]) (rest := []) (lenOf own_pd6 rfl) rfl (by show 2 * 0 + _ ≤ _; exact Nat.le_of_eq rfl) (hb hby own_d19_20) (fun _ _ => ⟨rfl, e1, (by decide : 1 + 0 ≤ _), (by decide : 4 + 0 ≤ _)⟩)
  dsimp only [Pt.U, Pt.locs, Pt.cells, Pt.slots] at X4 l4 y4 z4 st4 hQ4
  subst l4 y4 z4
  obtain ⟨h4, e4⟩ : ∃ z, T4.heap = z := ⟨_, rfl⟩
  rw [e4] at hQ4
  obtain ⟨rfl, N4q, Kc4, Vc4⟩ := hQ4
  have N4 := Fr.app N1 N4q
  have K4 : Keep h0 h4 [] := K1.trans Kc4 (allS (Or.inr hwr1) all0)
  have Z4 : n0 ≤ h4.size := Nat.le_trans Z1 Kc4.1
  have O4 := O1.keep Kc4 (allS g1 all0)
  refine own_st (T' := T4) (g' := (mkF m 23 #[.val (.ref ca), .val (.int (0 : Int32)), .val (.int (2 : Int32)), .val (.ref r1), .val (.int (0 : Int32))] [])) st4 ?_
  refine own_st (T' := T4) (g' := (mkF m 19 #[.val (.ref ca), .val (.int (1 : Int32)), .val (.int (2 : Int32)), .val (.ref r1), .val (.int (1 : Int32))] [(.int (1 : Int32)), (.ref ca), (.int (1 : Int32)), (.ref r1)])) (fun t k => ?_) ?_
  · show Steps p.tables e below (T4.setTop (mkF m 23 #[.val (.ref ca), .val (.int (0 : Int32)), .val (.int (2 : Int32)), .val (.ref r1), .val (.int (0 : Int32))] [])) t
    refine XS.iinc X4.here hx rfl (hb hby own_d19_23) rfl (l' := #[.val (.ref ca), .val (.int (1 : Int32)), .val (.int (2 : Int32)), .val (.ref r1), .val (.int (0 : Int32))]) rfl ?_
    refine XS.iinc X4.here hx rfl (hb hby own_d19_26) rfl (l' := #[.val (.ref ca), .val (.int (1 : Int32)), .val (.int (2 : Int32)), .val (.ref r1), .val (.int (1 : Int32))]) rfl ?_
    refine XS.goto X4.here hx rfl (pc0 := 29) (pc' := 8) rfl (hb hby own_d19_29) (by decide) (by decide) ?_
    refine XS.iload X4.here hx rfl (hb hby own_d19_8) rfl ?_
    refine XS.iloadN X4.here hx rfl (hb hby own_d19_10) rfl ?_
    refine XS.icmpNo X4.here hx rfl (hb hby own_d19_11) rfl (tlt (by decide : (1 : Int32) < (2 : Int32))).2.1 ?_
    refine XS.aloadN X4.here hx rfl (hb hby own_d19_14) rfl rfl ?_
    refine XS.iload X4.here hx rfl (hb hby own_d19_15) rfl ?_
    refine XS.aloadN X4.here hx rfl (hb hby own_d19_17) rfl rfl ?_
    refine XS.iloadN X4.here hx rfl (hb hby own_d19_18) rfl ?_
    exact k
  have f5 := f2.keep Kc4 (ninS ne_ca_r1 nin0)
  obtain ⟨cl6, Ar6, q6, S6, M6, H6, G6⟩ := id f5
  refine own_st (T' := T4) (g' := (mkF m 20 #[.val (.ref ca), .val (.int (1 : Int32)), .val (.int (2 : Int32)), .val (.ref r1), .val (.int (1 : Int32))] [(.int c1), (.int (1 : Int32)), (.ref r1)])) (fun t k => ?_) ?_
  · show Steps p.tables e below (T4.setTop (mkF m 19 #[.val (.ref ca), .val (.int (1 : Int32)), .val (.int (2 : Int32)), .val (.ref r1), .val (.int (1 : Int32))] [(.int (1 : Int32)), (.ref ca), (.int (1 : Int32)), (.ref r1)])) t
    refine X4.caload hx (j := (1 : Int32)) (v := (.int c1)) (by rw [e4]; exact Ar6.1) (State.isArrayOf_alike hZ.alike Ar6.2.1) Ar6.2.2 (inb_of S6 ⟨by decide, by decide⟩) (Has.at H6 (inb_of S6 ⟨by decide, by decide⟩) rfl) (g := (mkF m 19 #[.val (.ref ca), .val (.int (1 : Int32)), .val (.int (2 : Int32)), .val (.ref r1), .val (.int (1 : Int32))] [(.int (1 : Int32)), (.ref ca), (.int (1 : Int32)), (.ref r1)])) rfl rfl (hb hby own_d19_19) _ ?_
    show Steps p.tables e below (T4.setTop (mkF m 20 #[.val (.ref ca), .val (.int (1 : Int32)), .val (.int (2 : Int32)), .val (.ref r1), .val (.int (1 : Int32))] [(.int c1), (.int (1 : Int32)), (.ref r1)])) t
    exact k
  obtain ⟨_, _, ⟨T7, L7, c7, n7⟩, -, X7, ⟨Lc7, hQ7, l7, y7, z7⟩, st7⟩ := Jvm.LawKit.callS X4 hx (y := (⟨"java/lang/StringUTF16", "putChar", "([BII)V"⟩ : MethodName)) hown (mvT hZ (hw _ (List.mem_of_getElem? (i := 99) rfl))) (mvT hZ (hw _ (List.mem_of_getElem? (i := 100) rfl))) (mvT hZ (hw _ (List.mem_of_getElem? (i := 81) rfl))) (mvT hZ (hw _ (List.mem_of_getElem? (i := 101) rfl))) (by decide) (backOf (W := 0) (own_rm22_4_1 l Z a0 hw [] r1 k1 ((c0 >>> ((0 : Int32) &&& 31)).toInt8.toInt32) ((c0 >>> ((8 : Int32) &&& 31)).toInt8.toInt32) (0 : Int32) (0 : Int32) c1 cs fm h4 n0 Z4 O4 Vc4 g1 hcs hfm S_cs S_fm S_ad S_hb S_lb) hZ (hw _ (List.mem_of_getElem? (i := 101) rfl)) (hw _ (List.mem_of_getElem? (i := 81) rfl)) (by decide) (by decide)) (g := (mkF m 20 #[.val (.ref ca), .val (.int (1 : Int32)), .val (.int (2 : Int32)), .val (.ref r1), .val (.int (1 : Int32))] [(.int c1), (.int (1 : Int32)), (.ref r1)])) rfl (by rw [hml]; rfl) (argsL := [(.ref r1), (.int (1 : Int32)), (.int c1)]) (rest := []) (lenOf own_pd6 rfl) rfl (by show 2 * 0 + _ ≤ _; exact Nat.le_of_eq rfl) (hb hby own_d19_20) (fun _ _ => ⟨rfl, e4, (by decide : 1 + 0 ≤ _), (by decide : 4 + 0 ≤ _)⟩)
  dsimp only [Pt.U, Pt.locs, Pt.cells, Pt.slots] at X7 l7 y7 z7 st7 hQ7
  subst l7 y7 z7
  obtain ⟨h7, e7⟩ : ∃ z, T7.heap = z := ⟨_, rfl⟩
  rw [e7] at hQ7
  obtain ⟨rfl, N7q, Kc7, Vc7⟩ := hQ7
  have N7 := Fr.app N4 N7q
  have K7 : Keep h0 h7 [] := K4.trans Kc7 (allS (Or.inr hwr1) all0)
  have Z7 : n0 ≤ h7.size := Nat.le_trans Z4 Kc7.1
  have O7 := O4.keep Kc7 (allS g1 all0)
  refine own_st (T' := T7) (g' := (mkF m 23 #[.val (.ref ca), .val (.int (1 : Int32)), .val (.int (2 : Int32)), .val (.ref r1), .val (.int (1 : Int32))] [])) st7 ?_
  refine own_st (T' := T7) (g' := (mkF m 33 #[.val (.ref ca), .val (.int (2 : Int32)), .val (.int (2 : Int32)), .val (.ref r1), .val (.int (2 : Int32))] [(.ref r1)])) (fun t k => ?_) ?_
  · show Steps p.tables e below (T7.setTop (mkF m 23 #[.val (.ref ca), .val (.int (1 : Int32)), .val (.int (2 : Int32)), .val (.ref r1), .val (.int (1 : Int32))] [])) t
    refine XS.iinc X7.here hx rfl (hb hby own_d19_23) rfl (l' := #[.val (.ref ca), .val (.int (2 : Int32)), .val (.int (2 : Int32)), .val (.ref r1), .val (.int (1 : Int32))]) rfl ?_
    refine XS.iinc X7.here hx rfl (hb hby own_d19_26) rfl (l' := #[.val (.ref ca), .val (.int (2 : Int32)), .val (.int (2 : Int32)), .val (.ref r1), .val (.int (2 : Int32))]) rfl ?_
    refine XS.goto X7.here hx rfl (pc0 := 29) (pc' := 8) rfl (hb hby own_d19_29) (by decide) (by decide) ?_
    refine XS.iload X7.here hx rfl (hb hby own_d19_8) rfl ?_
    refine XS.iloadN X7.here hx rfl (hb hby own_d19_10) rfl ?_
    refine XS.icmpYes X7.here hx rfl (pc0 := 11) (pc' := 32) rfl (hb hby own_d19_11) rfl (flt Int32.lt_irrefl).2.1 (by decide) (by decide) ?_
    refine XS.aloadN X7.here hx rfl (hb hby own_d19_32) rfl rfl ?_
    exact k
  exact own_retA X7 hx Bd rfl rfl (hb hby own_d19_33) e7 (⟨r1, k1, rfl, N7, K7, g1, hwr1, Vc7⟩) (by decide) (by decide)
def own_r17a : Room := { frames := 0, cells := 0, slots := 0, locals := 0 }
theorem own_ef17a (m : MethodId) (x0 : Addr) (x2 : Addr) : entryFrame m #[(.ref x0), (.int (0 : Int32)), (.ref x2), (.int (0 : Int32)), (.int (2 : Int32))] 7 = mkF m 0 #[.val (.ref x0), .val (.int (0 : Int32)), .val (.ref x2), .val (.int (0 : Int32)), .val (.int (2 : Int32)), .unset, .unset] [] := by first | (simp [entryFrame, mkF, argsToLocals, Value.category]; done) | rfl
def own_Q17a (Z : State) (ca : Addr) (kc : ClassId) (c0 c1 : Int32) (da : Addr) (kd : ClassId) (cs : Int32) (fm : Value) (h0 : Heap) (n0 : Nat) : Option Value → Heap → List Loc → Prop := fun v h L => v = some (.int (0 : Int32)) ∧ Fr n0 L ∧ Keep h0 h [da] ∧ Arv Z h da kd .byte (2 : Int32) [(.int (0 : Int32)), (.int (0 : Int32))] (.int (0 : Int32))
set_option maxRecDepth 65536 in
set_option maxHeartbeats 40000000 in
theorem own_rm17a (l : Launch) (Z : State) (a0 : Array Value) (hw : ∀ d ∈ tables_1, d.before a0 Z = true) (ws : List Jvm.Cond) (ca : Addr) (kc : ClassId) (c0 c1 : Int32) (da : Addr) (kd : ClassId) (cs : Int32) (fm : Value) (h0 : Heap) (n0 : Nat) (Z0 : n0 ≤ h0.size) (O0 : Old Z n0 h0) (V_c : Arv Z h0 ca kc .char (2 : Int32) [(.int c0), (.int c1)] (.int (0 : Int32))) (V_d : Arv Z h0 da kd .byte (2 : Int32) [(.int (0 : Int32)), (.int (0 : Int32))] (.int (0 : Int32))) (g_d : n0 ≤ da) (ncd : ca ≠ da) (h0c : (255 : Int32) < c0) (hcs : ¬ cs = (0 : Int32)) (hfm : fm.isRef = true) (S_cs : Sta Z Z.heap "java/lang/String" "COMPACT_STRINGS" "Z" (.int cs)) (S_fm : Sta Z Z.heap "jdk/internal/util/Preconditions" "SIOOBE_FORMATTER" "Ljava/util/function/BiFunction;" fm) (S_ad : Sta Z Z.heap "java/lang/StringUTF16" "$assertionsDisabled" "Z" (.int (1 : Int32))) (S_hb : Sta Z Z.heap "java/lang/StringUTF16" "HI_BYTE_SHIFT" "I" (.int (0 : Int32))) (S_lb : Sta Z Z.heap "java/lang/StringUTF16" "LO_BYTE_SHIFT" "I" (.int (8 : Int32))) :
    MetFree l (⟨"java/lang/StringUTF16", "compress", "([CI[BII)I"⟩ : MethodName) (head1 (Jvm.Cond.code (⟨"java/lang/StringUTF16", "compress", "([CI[BII)I"⟩ : MethodName) jdk_52_method_21_code 7 (some .int) :: ws) own_r17a) (fun a_ U_ => a_ = #[(.ref ca), (.int (0 : Int32)), (.ref da), (.int (0 : Int32)), (.int (2 : Int32))] ∧ Z.Warmed39 U_.vm ∧ U_.heap = h0) (fun _ _ _ _ _ => True) (fun _ U_ o_ U'_ => ∃ v_ L_, o_ = .returned v_ ∧ own_Q17a Z ca  kc  c0 c1  da  kd  cs  fm  h0 n0 v_ U'_.heap L_ ∧ FrameEnd U_ o_ U'_ L_ own_r17a.cells own_r17a.slots) := by
  refine MetFree.of_bodySF (plainFor_of_name own_pn3) hisR ?_
  intro p e s m args below meth c s₁ Bd hml0 hP hK
  obtain ⟨rfl, hZ, hh⟩ := hP
  have hx := Bd.exec
  have hby := Bd.bytes
  have hml : c.maxLocals = 7 := hml0
  have hown : s.vm.findClass "java/lang/StringUTF16" = some m.cls := findClass_of_methodNamed Bd.named
  have hnm := (name_of_methodNamed Bd.named Bd.method).1
  have X0 : Stand p l e own_r17a s m #[(.ref ca), (.int (0 : Int32)), (.ref da), (.int (0 : Int32)), (.int (2 : Int32))] below meth c s₁ [] 0 0 := Stand.of_body Bd
  have e0 : s₁.heap = h0 := by rw [← hh, Bd.state]; rfl
  have N0 := Fr.nil n0
  refine own_in (own_ef17a m ca da) ?_
  show own_Go p e below (own_K s (own_Q17a Z ca  kc  c0 c1  da  kd  cs  fm  h0 n0) own_r17a.cells own_r17a.slots) s₁ (mkF m 0 #[.val (.ref ca), .val (.int (0 : Int32)), .val (.ref da), .val (.int (0 : Int32)), .val (.int (2 : Int32)), .unset, .unset] [])
  refine own_st (T' := s₁) (g' := (mkF m 12 #[.val (.ref ca), .val (.int (0 : Int32)), .val (.ref da), .val (.int (0 : Int32)), .val (.int (2 : Int32)), .val (.int (0 : Int32)), .unset] [(.int (0 : Int32)), (.ref ca)])) (fun t k => ?_) ?_
  · show Steps p.tables e below (s₁.setTop (mkF m 0 #[.val (.ref ca), .val (.int (0 : Int32)), .val (.ref da), .val (.int (0 : Int32)), .val (.int (2 : Int32)), .unset, .unset] [])) t
    refine XS.iconst X0.here hx rfl (hb hby own_d17_0) ?_
    refine XS.istore X0.here hx rfl (hb hby own_d17_1) rfl (l' := #[.val (.ref ca), .val (.int (0 : Int32)), .val (.ref da), .val (.int (0 : Int32)), .val (.int (2 : Int32)), .val (.int (0 : Int32)), .unset]) rfl ?_
    refine XS.iload X0.here hx rfl (hb hby own_d17_3) rfl ?_
    refine XS.iload X0.here hx rfl (hb hby own_d17_5) rfl ?_
    refine XS.icmpNo X0.here hx rfl (hb hby own_d17_7) rfl (tlt (by decide : (0 : Int32) < (2 : Int32))).2.1 ?_
    refine XS.aloadN X0.here hx rfl (hb hby own_d17_10) rfl rfl ?_
    refine XS.iloadN X0.here hx rfl (hb hby own_d17_11) rfl ?_
    exact k
  obtain ⟨cl1, Ar1, q1, S1, M1, H1, G1⟩ := id V_c
  refine own_st (T' := s₁) (g' := (mkF m 25 #[.val (.ref ca), .val (.int (0 : Int32)), .val (.ref da), .val (.int (0 : Int32)), .val (.int (2 : Int32)), .val (.int (0 : Int32)), .val (.int c0)] [(.int (0 : Int32))])) (fun t k => ?_) ?_
  · show Steps p.tables e below (s₁.setTop (mkF m 12 #[.val (.ref ca), .val (.int (0 : Int32)), .val (.ref da), .val (.int (0 : Int32)), .val (.int (2 : Int32)), .val (.int (0 : Int32)), .unset] [(.int (0 : Int32)), (.ref ca)])) t
    refine X0.caload hx (j := (0 : Int32)) (v := (.int c0)) (by rw [e0]; exact Ar1.1) (State.isArrayOf_alike hZ.alike Ar1.2.1) Ar1.2.2 (inb_of S1 ⟨by decide, by decide⟩) (Has.at H1 (inb_of S1 ⟨by decide, by decide⟩) rfl) (g := (mkF m 12 #[.val (.ref ca), .val (.int (0 : Int32)), .val (.ref da), .val (.int (0 : Int32)), .val (.int (2 : Int32)), .val (.int (0 : Int32)), .unset] [(.int (0 : Int32)), (.ref ca)])) rfl rfl (hb hby own_d17_12) _ ?_
    show Steps p.tables e below (s₁.setTop (mkF m 13 #[.val (.ref ca), .val (.int (0 : Int32)), .val (.ref da), .val (.int (0 : Int32)), .val (.int (2 : Int32)), .val (.int (0 : Int32)), .unset] [(.int c0)])) t
    refine XS.istore X0.here hx rfl (hb hby own_d17_13) rfl (l' := #[.val (.ref ca), .val (.int (0 : Int32)), .val (.ref da), .val (.int (0 : Int32)), .val (.int (2 : Int32)), .val (.int (0 : Int32)), .val (.int c0)]) rfl ?_
    refine XS.iload X0.here hx rfl (hb hby own_d17_15) rfl ?_
    refine XS.sipush X0.here hx rfl (hb hby own_d17_17) ?_
    refine XS.icmpNo X0.here hx rfl (hb hby own_d17_20) rfl (tlt h0c).2.2.2 ?_
    refine XS.iload X0.here hx rfl (hb hby own_d17_23) rfl ?_
    exact k
  exact own_retI X0 hx Bd (hb hby own_d17_25) e0 (⟨rfl, N0, (Keep.refl h0 [da]), V_d⟩) (by decide) (by decide)
def own_r17b : Room := { frames := 0, cells := 0, slots := 0, locals := 0 }
theorem own_ef17b (m : MethodId) (x0 : Addr) (x2 : Addr) : entryFrame m #[(.ref x0), (.int (0 : Int32)), (.ref x2), (.int (0 : Int32)), (.int (2 : Int32))] 7 = mkF m 0 #[.val (.ref x0), .val (.int (0 : Int32)), .val (.ref x2), .val (.int (0 : Int32)), .val (.int (2 : Int32)), .unset, .unset] [] := by first | (simp [entryFrame, mkF, argsToLocals, Value.category]; done) | rfl
def own_Q17b (Z : State) (ca : Addr) (kc : ClassId) (c0 c1 : Int32) (da : Addr) (kd : ClassId) (cs : Int32) (fm : Value) (h0 : Heap) (n0 : Nat) : Option Value → Heap → List Loc → Prop := fun v h L => v = some (.int (1 : Int32)) ∧ Fr n0 L ∧ Keep h0 h [da] ∧ Arv Z h da kd .byte (2 : Int32) [(.int (c0.toInt8.toInt32)), (.int (0 : Int32))] (.int (0 : Int32))
set_option maxRecDepth 65536 in
set_option maxHeartbeats 40000000 in
theorem own_rm17b (l : Launch) (Z : State) (a0 : Array Value) (hw : ∀ d ∈ tables_1, d.before a0 Z = true) (ws : List Jvm.Cond) (ca : Addr) (kc : ClassId) (c0 c1 : Int32) (da : Addr) (kd : ClassId) (cs : Int32) (fm : Value) (h0 : Heap) (n0 : Nat) (Z0 : n0 ≤ h0.size) (O0 : Old Z n0 h0) (V_c : Arv Z h0 ca kc .char (2 : Int32) [(.int c0), (.int c1)] (.int (0 : Int32))) (V_d : Arv Z h0 da kd .byte (2 : Int32) [(.int (0 : Int32)), (.int (0 : Int32))] (.int (0 : Int32))) (g_d : n0 ≤ da) (ncd : ca ≠ da) (h0c : ¬ (255 : Int32) < c0) (h1c : (255 : Int32) < c1) (hcs : ¬ cs = (0 : Int32)) (hfm : fm.isRef = true) (S_cs : Sta Z Z.heap "java/lang/String" "COMPACT_STRINGS" "Z" (.int cs)) (S_fm : Sta Z Z.heap "jdk/internal/util/Preconditions" "SIOOBE_FORMATTER" "Ljava/util/function/BiFunction;" fm) (S_ad : Sta Z Z.heap "java/lang/StringUTF16" "$assertionsDisabled" "Z" (.int (1 : Int32))) (S_hb : Sta Z Z.heap "java/lang/StringUTF16" "HI_BYTE_SHIFT" "I" (.int (0 : Int32))) (S_lb : Sta Z Z.heap "java/lang/StringUTF16" "LO_BYTE_SHIFT" "I" (.int (8 : Int32))) :
    MetFree l (⟨"java/lang/StringUTF16", "compress", "([CI[BII)I"⟩ : MethodName) (head1 (Jvm.Cond.code (⟨"java/lang/StringUTF16", "compress", "([CI[BII)I"⟩ : MethodName) jdk_52_method_21_code 7 (some .int) :: ws) own_r17b) (fun a_ U_ => a_ = #[(.ref ca), (.int (0 : Int32)), (.ref da), (.int (0 : Int32)), (.int (2 : Int32))] ∧ Z.Warmed39 U_.vm ∧ U_.heap = h0) (fun _ _ _ _ _ => True) (fun _ U_ o_ U'_ => ∃ v_ L_, o_ = .returned v_ ∧ own_Q17b Z ca  kc  c0 c1  da  kd  cs  fm  h0 n0 v_ U'_.heap L_ ∧ FrameEnd U_ o_ U'_ L_ own_r17b.cells own_r17b.slots) := by
  refine MetFree.of_bodySF (plainFor_of_name own_pn3) hisR ?_
  intro p e s m args below meth c s₁ Bd hml0 hP hK
  obtain ⟨rfl, hZ, hh⟩ := hP
  have hx := Bd.exec
  have hby := Bd.bytes
  have hml : c.maxLocals = 7 := hml0
  have hown : s.vm.findClass "java/lang/StringUTF16" = some m.cls := findClass_of_methodNamed Bd.named
  have hnm := (name_of_methodNamed Bd.named Bd.method).1
  have X0 : Stand p l e own_r17b s m #[(.ref ca), (.int (0 : Int32)), (.ref da), (.int (0 : Int32)), (.int (2 : Int32))] below meth c s₁ [] 0 0 := Stand.of_body Bd
  have e0 : s₁.heap = h0 := by rw [← hh, Bd.state]; rfl
  have N0 := Fr.nil n0
  refine own_in (own_ef17b m ca da) ?_
  show own_Go p e below (own_K s (own_Q17b Z ca  kc  c0 c1  da  kd  cs  fm  h0 n0) own_r17b.cells own_r17b.slots) s₁ (mkF m 0 #[.val (.ref ca), .val (.int (0 : Int32)), .val (.ref da), .val (.int (0 : Int32)), .val (.int (2 : Int32)), .unset, .unset] [])
  refine own_st (T' := s₁) (g' := (mkF m 12 #[.val (.ref ca), .val (.int (0 : Int32)), .val (.ref da), .val (.int (0 : Int32)), .val (.int (2 : Int32)), .val (.int (0 : Int32)), .unset] [(.int (0 : Int32)), (.ref ca)])) (fun t k => ?_) ?_
  · show Steps p.tables e below (s₁.setTop (mkF m 0 #[.val (.ref ca), .val (.int (0 : Int32)), .val (.ref da), .val (.int (0 : Int32)), .val (.int (2 : Int32)), .unset, .unset] [])) t
    refine XS.iconst X0.here hx rfl (hb hby own_d17_0) ?_
    refine XS.istore X0.here hx rfl (hb hby own_d17_1) rfl (l' := #[.val (.ref ca), .val (.int (0 : Int32)), .val (.ref da), .val (.int (0 : Int32)), .val (.int (2 : Int32)), .val (.int (0 : Int32)), .unset]) rfl ?_
    refine XS.iload X0.here hx rfl (hb hby own_d17_3) rfl ?_
    refine XS.iload X0.here hx rfl (hb hby own_d17_5) rfl ?_
    refine XS.icmpNo X0.here hx rfl (hb hby own_d17_7) rfl (tlt (by decide : (0 : Int32) < (2 : Int32))).2.1 ?_
    refine XS.aloadN X0.here hx rfl (hb hby own_d17_10) rfl rfl ?_
    refine XS.iloadN X0.here hx rfl (hb hby own_d17_11) rfl ?_
    exact k
  obtain ⟨cl1, Ar1, q1, S1, M1, H1, G1⟩ := id V_c
  refine own_st (T' := s₁) (g' := (mkF m 31 #[.val (.ref ca), .val (.int (0 : Int32)), .val (.ref da), .val (.int (0 : Int32)), .val (.int (2 : Int32)), .val (.int (0 : Int32)), .val (.int c0)] [(.int (c0.toInt8.toInt32)), (.int (0 : Int32)), (.ref da)])) (fun t k => ?_) ?_
  · show Steps p.tables e below (s₁.setTop (mkF m 12 #[.val (.ref ca), .val (.int (0 : Int32)), .val (.ref da), .val (.int (0 : Int32)), .val (.int (2 : Int32)), .val (.int (0 : Int32)), .unset] [(.int (0 : Int32)), (.ref ca)])) t
    refine X0.caload hx (j := (0 : Int32)) (v := (.int c0)) (by rw [e0]; exact Ar1.1) (State.isArrayOf_alike hZ.alike Ar1.2.1) Ar1.2.2 (inb_of S1 ⟨by decide, by decide⟩) (Has.at H1 (inb_of S1 ⟨by decide, by decide⟩) rfl) (g := (mkF m 12 #[.val (.ref ca), .val (.int (0 : Int32)), .val (.ref da), .val (.int (0 : Int32)), .val (.int (2 : Int32)), .val (.int (0 : Int32)), .unset] [(.int (0 : Int32)), (.ref ca)])) rfl rfl (hb hby own_d17_12) _ ?_
    show Steps p.tables e below (s₁.setTop (mkF m 13 #[.val (.ref ca), .val (.int (0 : Int32)), .val (.ref da), .val (.int (0 : Int32)), .val (.int (2 : Int32)), .val (.int (0 : Int32)), .unset] [(.int c0)])) t
    refine XS.istore X0.here hx rfl (hb hby own_d17_13) rfl (l' := #[.val (.ref ca), .val (.int (0 : Int32)), .val (.ref da), .val (.int (0 : Int32)), .val (.int (2 : Int32)), .val (.int (0 : Int32)), .val (.int c0)]) rfl ?_
    refine XS.iload X0.here hx rfl (hb hby own_d17_15) rfl ?_
    refine XS.sipush X0.here hx rfl (hb hby own_d17_17) ?_
    refine XS.icmpYes X0.here hx rfl (pc0 := 20) (pc' := 26) rfl (hb hby own_d17_20) rfl (flt h0c).2.2.2 (by decide) (by decide) ?_
    refine XS.aloadN X0.here hx rfl (hb hby own_d17_26) rfl rfl ?_
    refine XS.iloadN X0.here hx rfl (hb hby own_d17_27) rfl ?_
    refine XS.iload X0.here hx rfl (hb hby own_d17_28) rfl ?_
    refine XS.i2b X0.here hx rfl (hb hby own_d17_30) rfl ?_
    exact k
  obtain ⟨cl2, Ar2, q2, S2, M2, H2, G2⟩ := id V_d
  obtain ⟨T3, h3, X3, e3, W3, st3⟩ := stB X0 hx hZ e0 Ar2 (j := (0 : Int32)) (inb_of S2 ⟨by decide, by decide⟩) (g := (mkF m 31 #[.val (.ref ca), .val (.int (0 : Int32)), .val (.ref da), .val (.int (0 : Int32)), .val (.int (2 : Int32)), .val (.int (0 : Int32)), .val (.int c0)] [(.int (c0.toInt8.toInt32)), (.int (0 : Int32)), (.ref da)])) rfl rfl (hb hby own_d17_31)
  have N3 := Fr.snoc X3 N0 g_d
  have K3 : Keep h0 h3 [da] := (Keep.refl h0 [da]).wr W3 (Or.inl (List.mem_of_getElem? (i := 0) rfl))
  have Z3 : n0 ≤ h3.size := Nat.le_trans Z0 (Keep.of_wr W3).1
  have O3 := O0.wr W3 g_d
  have fw3 := (show Arv Z h3 da kd .byte (2 : Int32) [(.int (c0.toInt8.toInt32)), (.int (0 : Int32))] (.int (0 : Int32)) by have q : Arv Z h3 da kd .byte (2 : Int32) [(.int ((c0.toInt8.toInt32).toInt8.toInt32)), (.int (0 : Int32))] (.int (0 : Int32)) := Arv.set Ar2 q2 S2 M2 H2 G2 (fits_nar_byte _) W3 0 rfl (Nat.le_of_ble_eq_true rfl); rw [own_bb c0] at q; exact q)
  refine own_st (T' := T3) (g' := (mkF m 32 #[.val (.ref ca), .val (.int (0 : Int32)), .val (.ref da), .val (.int (0 : Int32)), .val (.int (2 : Int32)), .val (.int (0 : Int32)), .val (.int c0)] [])) st3 ?_
  refine own_st (T' := T3) (g' := (mkF m 12 #[.val (.ref ca), .val (.int (1 : Int32)), .val (.ref da), .val (.int (1 : Int32)), .val (.int (2 : Int32)), .val (.int (1 : Int32)), .val (.int c0)] [(.int (1 : Int32)), (.ref ca)])) (fun t k => ?_) ?_
  · show Steps p.tables e below (T3.setTop (mkF m 32 #[.val (.ref ca), .val (.int (0 : Int32)), .val (.ref da), .val (.int (0 : Int32)), .val (.int (2 : Int32)), .val (.int (0 : Int32)), .val (.int c0)] [])) t
    refine XS.iinc X3.here hx rfl (hb hby own_d17_32) rfl (l' := #[.val (.ref ca), .val (.int (1 : Int32)), .val (.ref da), .val (.int (0 : Int32)), .val (.int (2 : Int32)), .val (.int (0 : Int32)), .val (.int c0)]) rfl ?_
    refine XS.iinc X3.here hx rfl (hb hby own_d17_35) rfl (l' := #[.val (.ref ca), .val (.int (1 : Int32)), .val (.ref da), .val (.int (1 : Int32)), .val (.int (2 : Int32)), .val (.int (0 : Int32)), .val (.int c0)]) rfl ?_
    refine XS.iinc X3.here hx rfl (hb hby own_d17_38) rfl (l' := #[.val (.ref ca), .val (.int (1 : Int32)), .val (.ref da), .val (.int (1 : Int32)), .val (.int (2 : Int32)), .val (.int (1 : Int32)), .val (.int c0)]) rfl ?_
    refine XS.goto X3.here hx rfl (pc0 := 41) (pc' := 3) rfl (hb hby own_d17_41) (by decide) (by decide) ?_
    refine XS.iload X3.here hx rfl (hb hby own_d17_3) rfl ?_
    refine XS.iload X3.here hx rfl (hb hby own_d17_5) rfl ?_
    refine XS.icmpNo X3.here hx rfl (hb hby own_d17_7) rfl (tlt (by decide : (1 : Int32) < (2 : Int32))).2.1 ?_
    refine XS.aloadN X3.here hx rfl (hb hby own_d17_10) rfl rfl ?_
    refine XS.iloadN X3.here hx rfl (hb hby own_d17_11) rfl ?_
    exact k
  have f4 := V_c.other W3 ncd
  obtain ⟨cl5, Ar5, q5, S5, M5, H5, G5⟩ := id f4
  refine own_st (T' := T3) (g' := (mkF m 25 #[.val (.ref ca), .val (.int (1 : Int32)), .val (.ref da), .val (.int (1 : Int32)), .val (.int (2 : Int32)), .val (.int (1 : Int32)), .val (.int c1)] [(.int (1 : Int32))])) (fun t k => ?_) ?_
  · show Steps p.tables e below (T3.setTop (mkF m 12 #[.val (.ref ca), .val (.int (1 : Int32)), .val (.ref da), .val (.int (1 : Int32)), .val (.int (2 : Int32)), .val (.int (1 : Int32)), .val (.int c0)] [(.int (1 : Int32)), (.ref ca)])) t
    refine X3.caload hx (j := (1 : Int32)) (v := (.int c1)) (by rw [e3]; exact Ar5.1) (State.isArrayOf_alike hZ.alike Ar5.2.1) Ar5.2.2 (inb_of S5 ⟨by decide, by decide⟩) (Has.at H5 (inb_of S5 ⟨by decide, by decide⟩) rfl) (g := (mkF m 12 #[.val (.ref ca), .val (.int (1 : Int32)), .val (.ref da), .val (.int (1 : Int32)), .val (.int (2 : Int32)), .val (.int (1 : Int32)), .val (.int c0)] [(.int (1 : Int32)), (.ref ca)])) rfl rfl (hb hby own_d17_12) _ ?_
    show Steps p.tables e below (T3.setTop (mkF m 13 #[.val (.ref ca), .val (.int (1 : Int32)), .val (.ref da), .val (.int (1 : Int32)), .val (.int (2 : Int32)), .val (.int (1 : Int32)), .val (.int c0)] [(.int c1)])) t
    refine XS.istore X3.here hx rfl (hb hby own_d17_13) rfl (l' := #[.val (.ref ca), .val (.int (1 : Int32)), .val (.ref da), .val (.int (1 : Int32)), .val (.int (2 : Int32)), .val (.int (1 : Int32)), .val (.int c1)]) rfl ?_
    refine XS.iload X3.here hx rfl (hb hby own_d17_15) rfl ?_
    refine XS.sipush X3.here hx rfl (hb hby own_d17_17) ?_
    refine XS.icmpNo X3.here hx rfl (hb hby own_d17_20) rfl (tlt h1c).2.2.2 ?_
    refine XS.iload X3.here hx rfl (hb hby own_d17_23) rfl ?_
    exact k
  exact own_retI X3 hx Bd (hb hby own_d17_25) e3 (⟨rfl, N3, K3, fw3⟩) (by decide) (by decide)
def own_r17c : Room := { frames := 0, cells := 0, slots := 0, locals := 0 }
theorem own_ef17c (m : MethodId) (x0 : Addr) (x2 : Addr) : entryFrame m #[(.ref x0), (.int (0 : Int32)), (.ref x2), (.int (0 : Int32)), (.int (2 : Int32))] 7 = mkF m 0 #[.val (.ref x0), .val (.int (0 : Int32)), .val (.ref x2), .val (.int (0 : Int32)), .val (.int (2 : Int32)), .unset, .unset] [] := by first | (simp [entryFrame, mkF, argsToLocals, Value.category]; done) | rfl
def own_Q17c (Z : State) (ca : Addr) (kc : ClassId) (c0 c1 : Int32) (da : Addr) (kd : ClassId) (cs : Int32) (fm : Value) (h0 : Heap) (n0 : Nat) : Option Value → Heap → List Loc → Prop := fun v h L => v = some (.int (2 : Int32)) ∧ Fr n0 L ∧ Keep h0 h [da] ∧ Arv Z h da kd .byte (2 : Int32) [(.int (c0.toInt8.toInt32)), (.int (c1.toInt8.toInt32))] (.int (0 : Int32))
set_option maxRecDepth 65536 in
set_option maxHeartbeats 40000000 in
theorem own_rm17c (l : Launch) (Z : State) (a0 : Array Value) (hw : ∀ d ∈ tables_1, d.before a0 Z = true) (ws : List Jvm.Cond) (ca : Addr) (kc : ClassId) (c0 c1 : Int32) (da : Addr) (kd : ClassId) (cs : Int32) (fm : Value) (h0 : Heap) (n0 : Nat) (Z0 : n0 ≤ h0.size) (O0 : Old Z n0 h0) (V_c : Arv Z h0 ca kc .char (2 : Int32) [(.int c0), (.int c1)] (.int (0 : Int32))) (V_d : Arv Z h0 da kd .byte (2 : Int32) [(.int (0 : Int32)), (.int (0 : Int32))] (.int (0 : Int32))) (g_d : n0 ≤ da) (ncd : ca ≠ da) (h0c : ¬ (255 : Int32) < c0) (h1c : ¬ (255 : Int32) < c1) (hcs : ¬ cs = (0 : Int32)) (hfm : fm.isRef = true) (S_cs : Sta Z Z.heap "java/lang/String" "COMPACT_STRINGS" "Z" (.int cs)) (S_fm : Sta Z Z.heap "jdk/internal/util/Preconditions" "SIOOBE_FORMATTER" "Ljava/util/function/BiFunction;" fm) (S_ad : Sta Z Z.heap "java/lang/StringUTF16" "$assertionsDisabled" "Z" (.int (1 : Int32))) (S_hb : Sta Z Z.heap "java/lang/StringUTF16" "HI_BYTE_SHIFT" "I" (.int (0 : Int32))) (S_lb : Sta Z Z.heap "java/lang/StringUTF16" "LO_BYTE_SHIFT" "I" (.int (8 : Int32))) :
    MetFree l (⟨"java/lang/StringUTF16", "compress", "([CI[BII)I"⟩ : MethodName) (head1 (Jvm.Cond.code (⟨"java/lang/StringUTF16", "compress", "([CI[BII)I"⟩ : MethodName) jdk_52_method_21_code 7 (some .int) :: ws) own_r17c) (fun a_ U_ => a_ = #[(.ref ca), (.int (0 : Int32)), (.ref da), (.int (0 : Int32)), (.int (2 : Int32))] ∧ Z.Warmed39 U_.vm ∧ U_.heap = h0) (fun _ _ _ _ _ => True) (fun _ U_ o_ U'_ => ∃ v_ L_, o_ = .returned v_ ∧ own_Q17c Z ca  kc  c0 c1  da  kd  cs  fm  h0 n0 v_ U'_.heap L_ ∧ FrameEnd U_ o_ U'_ L_ own_r17c.cells own_r17c.slots) := by
  refine MetFree.of_bodySF (plainFor_of_name own_pn3) hisR ?_
  intro p e s m args below meth c s₁ Bd hml0 hP hK
  obtain ⟨rfl, hZ, hh⟩ := hP
  have hx := Bd.exec
  have hby := Bd.bytes
  have hml : c.maxLocals = 7 := hml0
  have hown : s.vm.findClass "java/lang/StringUTF16" = some m.cls := findClass_of_methodNamed Bd.named
  have hnm := (name_of_methodNamed Bd.named Bd.method).1
  have X0 : Stand p l e own_r17c s m #[(.ref ca), (.int (0 : Int32)), (.ref da), (.int (0 : Int32)), (.int (2 : Int32))] below meth c s₁ [] 0 0 := Stand.of_body Bd
  have e0 : s₁.heap = h0 := by rw [← hh, Bd.state]; rfl
  have N0 := Fr.nil n0
  refine own_in (own_ef17c m ca da) ?_
  show own_Go p e below (own_K s (own_Q17c Z ca  kc  c0 c1  da  kd  cs  fm  h0 n0) own_r17c.cells own_r17c.slots) s₁ (mkF m 0 #[.val (.ref ca), .val (.int (0 : Int32)), .val (.ref da), .val (.int (0 : Int32)), .val (.int (2 : Int32)), .unset, .unset] [])
  refine own_st (T' := s₁) (g' := (mkF m 12 #[.val (.ref ca), .val (.int (0 : Int32)), .val (.ref da), .val (.int (0 : Int32)), .val (.int (2 : Int32)), .val (.int (0 : Int32)), .unset] [(.int (0 : Int32)), (.ref ca)])) (fun t k => ?_) ?_
  · show Steps p.tables e below (s₁.setTop (mkF m 0 #[.val (.ref ca), .val (.int (0 : Int32)), .val (.ref da), .val (.int (0 : Int32)), .val (.int (2 : Int32)), .unset, .unset] [])) t
    refine XS.iconst X0.here hx rfl (hb hby own_d17_0) ?_
    refine XS.istore X0.here hx rfl (hb hby own_d17_1) rfl (l' := #[.val (.ref ca), .val (.int (0 : Int32)), .val (.ref da), .val (.int (0 : Int32)), .val (.int (2 : Int32)), .val (.int (0 : Int32)), .unset]) rfl ?_
    refine XS.iload X0.here hx rfl (hb hby own_d17_3) rfl ?_
    refine XS.iload X0.here hx rfl (hb hby own_d17_5) rfl ?_
    refine XS.icmpNo X0.here hx rfl (hb hby own_d17_7) rfl (tlt (by decide : (0 : Int32) < (2 : Int32))).2.1 ?_
    refine XS.aloadN X0.here hx rfl (hb hby own_d17_10) rfl rfl ?_
    refine XS.iloadN X0.here hx rfl (hb hby own_d17_11) rfl ?_
    exact k
  obtain ⟨cl1, Ar1, q1, S1, M1, H1, G1⟩ := id V_c
  refine own_st (T' := s₁) (g' := (mkF m 31 #[.val (.ref ca), .val (.int (0 : Int32)), .val (.ref da), .val (.int (0 : Int32)), .val (.int (2 : Int32)), .val (.int (0 : Int32)), .val (.int c0)] [(.int (c0.toInt8.toInt32)), (.int (0 : Int32)), (.ref da)])) (fun t k => ?_) ?_
  · show Steps p.tables e below (s₁.setTop (mkF m 12 #[.val (.ref ca), .val (.int (0 : Int32)), .val (.ref da), .val (.int (0 : Int32)), .val (.int (2 : Int32)), .val (.int (0 : Int32)), .unset] [(.int (0 : Int32)), (.ref ca)])) t
    refine X0.caload hx (j := (0 : Int32)) (v := (.int c0)) (by rw [e0]; exact Ar1.1) (State.isArrayOf_alike hZ.alike Ar1.2.1) Ar1.2.2 (inb_of S1 ⟨by decide, by decide⟩) (Has.at H1 (inb_of S1 ⟨by decide, by decide⟩) rfl) (g := (mkF m 12 #[.val (.ref ca), .val (.int (0 : Int32)), .val (.ref da), .val (.int (0 : Int32)), .val (.int (2 : Int32)), .val (.int (0 : Int32)), .unset] [(.int (0 : Int32)), (.ref ca)])) rfl rfl (hb hby own_d17_12) _ ?_
    show Steps p.tables e below (s₁.setTop (mkF m 13 #[.val (.ref ca), .val (.int (0 : Int32)), .val (.ref da), .val (.int (0 : Int32)), .val (.int (2 : Int32)), .val (.int (0 : Int32)), .unset] [(.int c0)])) t
    refine XS.istore X0.here hx rfl (hb hby own_d17_13) rfl (l' := #[.val (.ref ca), .val (.int (0 : Int32)), .val (.ref da), .val (.int (0 : Int32)), .val (.int (2 : Int32)), .val (.int (0 : Int32)), .val (.int c0)]) rfl ?_
    refine XS.iload X0.here hx rfl (hb hby own_d17_15) rfl ?_
    refine XS.sipush X0.here hx rfl (hb hby own_d17_17) ?_
    refine XS.icmpYes X0.here hx rfl (pc0 := 20) (pc' := 26) rfl (hb hby own_d17_20) rfl (flt h0c).2.2.2 (by decide) (by decide) ?_
    refine XS.aloadN X0.here hx rfl (hb hby own_d17_26) rfl rfl ?_
    refine XS.iloadN X0.here hx rfl (hb hby own_d17_27) rfl ?_
    refine XS.iload X0.here hx rfl (hb hby own_d17_28) rfl ?_
    refine XS.i2b X0.here hx rfl (hb hby own_d17_30) rfl ?_
    exact k
  obtain ⟨cl2, Ar2, q2, S2, M2, H2, G2⟩ := id V_d
  obtain ⟨T3, h3, X3, e3, W3, st3⟩ := stB X0 hx hZ e0 Ar2 (j := (0 : Int32)) (inb_of S2 ⟨by decide, by decide⟩) (g := (mkF m 31 #[.val (.ref ca), .val (.int (0 : Int32)), .val (.ref da), .val (.int (0 : Int32)), .val (.int (2 : Int32)), .val (.int (0 : Int32)), .val (.int c0)] [(.int (c0.toInt8.toInt32)), (.int (0 : Int32)), (.ref da)])) rfl rfl (hb hby own_d17_31)
  have N3 := Fr.snoc X3 N0 g_d
  have K3 : Keep h0 h3 [da] := (Keep.refl h0 [da]).wr W3 (Or.inl (List.mem_of_getElem? (i := 0) rfl))
  have Z3 : n0 ≤ h3.size := Nat.le_trans Z0 (Keep.of_wr W3).1
  have O3 := O0.wr W3 g_d
  have fw3 := (show Arv Z h3 da kd .byte (2 : Int32) [(.int (c0.toInt8.toInt32)), (.int (0 : Int32))] (.int (0 : Int32)) by have q : Arv Z h3 da kd .byte (2 : Int32) [(.int ((c0.toInt8.toInt32).toInt8.toInt32)), (.int (0 : Int32))] (.int (0 : Int32)) := Arv.set Ar2 q2 S2 M2 H2 G2 (fits_nar_byte _) W3 0 rfl (Nat.le_of_ble_eq_true rfl); rw [own_bb c0] at q; exact q)
  refine own_st (T' := T3) (g' := (mkF m 32 #[.val (.ref ca), .val (.int (0 : Int32)), .val (.ref da), .val (.int (0 : Int32)), .val (.int (2 : Int32)), .val (.int (0 : Int32)), .val (.int c0)] [])) st3 ?_
  refine own_st (T' := T3) (g' := (mkF m 12 #[.val (.ref ca), .val (.int (1 : Int32)), .val (.ref da), .val (.int (1 : Int32)), .val (.int (2 : Int32)), .val (.int (1 : Int32)), .val (.int c0)] [(.int (1 : Int32)), (.ref ca)])) (fun t k => ?_) ?_
  · show Steps p.tables e below (T3.setTop (mkF m 32 #[.val (.ref ca), .val (.int (0 : Int32)), .val (.ref da), .val (.int (0 : Int32)), .val (.int (2 : Int32)), .val (.int (0 : Int32)), .val (.int c0)] [])) t
    refine XS.iinc X3.here hx rfl (hb hby own_d17_32) rfl (l' := #[.val (.ref ca), .val (.int (1 : Int32)), .val (.ref da), .val (.int (0 : Int32)), .val (.int (2 : Int32)), .val (.int (0 : Int32)), .val (.int c0)]) rfl ?_
    refine XS.iinc X3.here hx rfl (hb hby own_d17_35) rfl (l' := #[.val (.ref ca), .val (.int (1 : Int32)), .val (.ref da), .val (.int (1 : Int32)), .val (.int (2 : Int32)), .val (.int (0 : Int32)), .val (.int c0)]) rfl ?_
    refine XS.iinc X3.here hx rfl (hb hby own_d17_38) rfl (l' := #[.val (.ref ca), .val (.int (1 : Int32)), .val (.ref da), .val (.int (1 : Int32)), .val (.int (2 : Int32)), .val (.int (1 : Int32)), .val (.int c0)]) rfl ?_
    refine XS.goto X3.here hx rfl (pc0 := 41) (pc' := 3) rfl (hb hby own_d17_41) (by decide) (by decide) ?_
    refine XS.iload X3.here hx rfl (hb hby own_d17_3) rfl ?_
    refine XS.iload X3.here hx rfl (hb hby own_d17_5) rfl ?_
    refine XS.icmpNo X3.here hx rfl (hb hby own_d17_7) rfl (tlt (by decide : (1 : Int32) < (2 : Int32))).2.1 ?_
    refine XS.aloadN X3.here hx rfl (hb hby own_d17_10) rfl rfl ?_
    refine XS.iloadN X3.here hx rfl (hb hby own_d17_11) rfl ?_
    exact k
  have f4 := V_c.other W3 ncd
  obtain ⟨cl5, Ar5, q5, S5, M5, H5, G5⟩ := id f4
  refine own_st (T' := T3) (g' := (mkF m 31 #[.val (.ref ca), .val (.int (1 : Int32)), .val (.ref da), .val (.int (1 : Int32)), .val (.int (2 : Int32)), .val (.int (1 : Int32)), .val (.int c1)] [(.int (c1.toInt8.toInt32)), (.int (1 : Int32)), (.ref da)])) (fun t k => ?_) ?_
  · show Steps p.tables e below (T3.setTop (mkF m 12 #[.val (.ref ca), .val (.int (1 : Int32)), .val (.ref da), .val (.int (1 : Int32)), .val (.int (2 : Int32)), .val (.int (1 : Int32)), .val (.int c0)] [(.int (1 : Int32)), (.ref ca)])) t
    refine X3.caload hx (j := (1 : Int32)) (v := (.int c1)) (by rw [e3]; exact Ar5.1) (State.isArrayOf_alike hZ.alike Ar5.2.1) Ar5.2.2 (inb_of S5 ⟨by decide, by decide⟩) (Has.at H5 (inb_of S5 ⟨by decide, by decide⟩) rfl) (g := (mkF m 12 #[.val (.ref ca), .val (.int (1 : Int32)), .val (.ref da), .val (.int (1 : Int32)), .val (.int (2 : Int32)), .val (.int (1 : Int32)), .val (.int c0)] [(.int (1 : Int32)), (.ref ca)])) rfl rfl (hb hby own_d17_12) _ ?_
    show Steps p.tables e below (T3.setTop (mkF m 13 #[.val (.ref ca), .val (.int (1 : Int32)), .val (.ref da), .val (.int (1 : Int32)), .val (.int (2 : Int32)), .val (.int (1 : Int32)), .val (.int c0)] [(.int c1)])) t
    refine XS.istore X3.here hx rfl (hb hby own_d17_13) rfl (l' := #[.val (.ref ca), .val (.int (1 : Int32)), .val (.ref da), .val (.int (1 : Int32)), .val (.int (2 : Int32)), .val (.int (1 : Int32)), .val (.int c1)]) rfl ?_
    refine XS.iload X3.here hx rfl (hb hby own_d17_15) rfl ?_
    refine XS.sipush X3.here hx rfl (hb hby own_d17_17) ?_
    refine XS.icmpYes X3.here hx rfl (pc0 := 20) (pc' := 26) rfl (hb hby own_d17_20) rfl (flt h1c).2.2.2 (by decide) (by decide) ?_
    refine XS.aloadN X3.here hx rfl (hb hby own_d17_26) rfl rfl ?_
    refine XS.iloadN X3.here hx rfl (hb hby own_d17_27) rfl ?_
    refine XS.iload X3.here hx rfl (hb hby own_d17_28) rfl ?_
    refine XS.i2b X3.here hx rfl (hb hby own_d17_30) rfl ?_
    exact k
  obtain ⟨cl6, Ar6, q6, S6, M6, H6, G6⟩ := id fw3
  obtain ⟨T7, h7, X7, e7, W7, st7⟩ := stB X3 hx hZ e3 Ar6 (j := (1 : Int32)) (inb_of S6 ⟨by decide, by decide⟩) (g := (mkF m 31 #[.val (.ref ca), .val (.int (1 : Int32)), .val (.ref da), .val (.int (1 : Int32)), .val (.int (2 : Int32)), .val (.int (1 : Int32)), .val (.int c1)] [(.int (c1.toInt8.toInt32)), (.int (1 : Int32)), (.ref da)])) rfl rfl (hb hby own_d17_31)
  have N7 := Fr.snoc X7 N3 g_d
  have K7 : Keep h0 h7 [da] := K3.wr W7 (Or.inl (List.mem_of_getElem? (i := 0) rfl))
  have Z7 : n0 ≤ h7.size := Nat.le_trans Z3 (Keep.of_wr W7).1
  have O7 := O3.wr W7 g_d
  have fw7 := (show Arv Z h7 da kd .byte (2 : Int32) [(.int (c0.toInt8.toInt32)), (.int (c1.toInt8.toInt32))] (.int (0 : Int32)) by have q : Arv Z h7 da kd .byte (2 : Int32) [(.int (c0.toInt8.toInt32)), (.int ((c1.toInt8.toInt32).toInt8.toInt32))] (.int (0 : Int32)) := Arv.set Ar6 q6 S6 M6 H6 G6 (fits_nar_byte _) W7 1 rfl (Nat.le_of_ble_eq_true rfl); rw [own_bb c1] at q; exact q)
  refine own_st (T' := T7) (g' := (mkF m 32 #[.val (.ref ca), .val (.int (1 : Int32)), .val (.ref da), .val (.int (1 : Int32)), .val (.int (2 : Int32)), .val (.int (1 : Int32)), .val (.int c1)] [])) st7 ?_
  refine own_st (T' := T7) (g' := (mkF m 46 #[.val (.ref ca), .val (.int (2 : Int32)), .val (.ref da), .val (.int (2 : Int32)), .val (.int (2 : Int32)), .val (.int (2 : Int32)), .val (.int c1)] [(.int (2 : Int32))])) (fun t k => ?_) ?_
  · show Steps p.tables e below (T7.setTop (mkF m 32 #[.val (.ref ca), .val (.int (1 : Int32)), .val (.ref da), .val (.int (1 : Int32)), .val (.int (2 : Int32)), .val (.int (1 : Int32)), .val (.int c1)] [])) t
    refine XS.iinc X7.here hx rfl (hb hby own_d17_32) rfl (l' := #[.val (.ref ca), .val (.int (2 : Int32)), .val (.ref da), .val (.int (1 : Int32)), .val (.int (2 : Int32)), .val (.int (1 : Int32)), .val (.int c1)]) rfl ?_
    refine XS.iinc X7.here hx rfl (hb hby own_d17_35) rfl (l' := #[.val (.ref ca), .val (.int (2 : Int32)), .val (.ref da), .val (.int (2 : Int32)), .val (.int (2 : Int32)), .val (.int (1 : Int32)), .val (.int c1)]) rfl ?_
    refine XS.iinc X7.here hx rfl (hb hby own_d17_38) rfl (l' := #[.val (.ref ca), .val (.int (2 : Int32)), .val (.ref da), .val (.int (2 : Int32)), .val (.int (2 : Int32)), .val (.int (2 : Int32)), .val (.int c1)]) rfl ?_
    refine XS.goto X7.here hx rfl (pc0 := 41) (pc' := 3) rfl (hb hby own_d17_41) (by decide) (by decide) ?_
    refine XS.iload X7.here hx rfl (hb hby own_d17_3) rfl ?_
    refine XS.iload X7.here hx rfl (hb hby own_d17_5) rfl ?_
    refine XS.icmpYes X7.here hx rfl (pc0 := 7) (pc' := 44) rfl (hb hby own_d17_7) rfl (flt Int32.lt_irrefl).2.1 (by decide) (by decide) ?_
    refine XS.iload X7.here hx rfl (hb hby own_d17_44) rfl ?_
    exact k
  exact own_retI X7 hx Bd (hb hby own_d17_46) e7 (⟨rfl, N7, K7, fw7⟩) (by decide) (by decide)
def own_r16a : Room := { frames := 3, cells := 2, slots := 6, locals := 40 }
theorem own_ef16a (m : MethodId) (x0 : Addr) : entryFrame m #[(.ref x0), (.int (0 : Int32)), (.int (2 : Int32))] 6 = mkF m 0 #[.val (.ref x0), .val (.int (0 : Int32)), .val (.int (2 : Int32)), .unset, .unset, .unset] [] := by first | (simp [entryFrame, mkF, argsToLocals, Value.category]; done) | rfl
def own_Q16a (Z : State) (ca : Addr) (kc : ClassId) (c0 c1 : Int32) (cs : Int32) (fm : Value) (h0 : Heap) (n0 : Nat) : Option Value → Heap → List Loc → Prop := fun v h L => ∃ r k, v = some (.ref r) ∧ Fr n0 L ∧ Keep h0 h [] ∧ n0 ≤ r ∧ h0.size ≤ r ∧ Arv Z h r k .byte (4 : Int32) [(.int ((c0 >>> ((0 : Int32) &&& 31)).toInt8.toInt32)), (.int ((c0 >>> ((8 : Int32) &&& 31)).toInt8.toInt32)), (.int ((c1 >>> ((0 : Int32) &&& 31)).toInt8.toInt32)), (.int ((c1 >>> ((8 : Int32) &&& 31)).toInt8.toInt32))] (.int (0 : Int32))
set_option maxRecDepth 65536 in
set_option maxHeartbeats 40000000 in
theorem own_rm16a (l : Launch) (Z : State) (a0 : Array Value) (hw : ∀ d ∈ tables_1, d.before a0 Z = true) (ws : List Jvm.Cond) (ca : Addr) (kc : ClassId) (c0 c1 : Int32) (cs : Int32) (fm : Value) (h0 : Heap) (n0 : Nat) (Z0 : n0 ≤ h0.size) (O0 : Old Z n0 h0) (V_c : Arv Z h0 ca kc .char (2 : Int32) [(.int c0), (.int c1)] (.int (0 : Int32))) (h0c : (255 : Int32) < c0) (rg0 : own_u16 c0) (rg1 : own_u16 c1) (hcs : ¬ cs = (0 : Int32)) (hfm : fm.isRef = true) (S_cs : Sta Z Z.heap "java/lang/String" "COMPACT_STRINGS" "Z" (.int cs)) (S_fm : Sta Z Z.heap "jdk/internal/util/Preconditions" "SIOOBE_FORMATTER" "Ljava/util/function/BiFunction;" fm) (S_ad : Sta Z Z.heap "java/lang/StringUTF16" "$assertionsDisabled" "Z" (.int (1 : Int32))) (S_hb : Sta Z Z.heap "java/lang/StringUTF16" "HI_BYTE_SHIFT" "I" (.int (0 : Int32))) (S_lb : Sta Z Z.heap "java/lang/StringUTF16" "LO_BYTE_SHIFT" "I" (.int (8 : Int32))) :
    MetFree l (⟨"java/lang/StringUTF16", "compress", "([CII)[B"⟩ : MethodName) (head1 (Jvm.Cond.code (⟨"java/lang/StringUTF16", "compress", "([CII)[B"⟩ : MethodName) jdk_52_method_16_code 6 (some (.array .byte)) :: ws) own_r16a) (fun a_ U_ => a_ = #[(.ref ca), (.int (0 : Int32)), (.int (2 : Int32))] ∧ Z.Warmed39 U_.vm ∧ U_.heap = h0) (fun _ _ _ _ _ => True) (fun _ U_ o_ U'_ => ∃ v_ L_, o_ = .returned v_ ∧ own_Q16a Z ca  kc  c0 c1  cs  fm  h0 n0 v_ U'_.heap L_ ∧ FrameEnd U_ o_ U'_ L_ own_r16a.cells own_r16a.slots) := by
  refine MetFree.of_bodySF (plainFor_of_name own_pn3) hisR ?_
  intro p e s m args below meth c s₁ Bd hml0 hP hK
  obtain ⟨rfl, hZ, hh⟩ := hP
  have hx := Bd.exec
  have hby := Bd.bytes
  have hml : c.maxLocals = 6 := hml0
  have hown : s.vm.findClass "java/lang/StringUTF16" = some m.cls := findClass_of_methodNamed Bd.named
  have hnm := (name_of_methodNamed Bd.named Bd.method).1
  have X0 : Stand p l e own_r16a s m #[(.ref ca), (.int (0 : Int32)), (.int (2 : Int32))] below meth c s₁ [] 0 0 := Stand.of_body Bd
  have e0 : s₁.heap = h0 := by rw [← hh, Bd.state]; rfl
  have N0 := Fr.nil n0
  refine own_in (own_ef16a m ca) ?_
  show own_Go p e below (own_K s (own_Q16a Z ca  kc  c0 c1  cs  fm  h0 n0) own_r16a.cells own_r16a.slots) s₁ (mkF m 0 #[.val (.ref ca), .val (.int (0 : Int32)), .val (.int (2 : Int32)), .unset, .unset, .unset] [])
  refine own_st (T' := s₁) (g' := (mkF m 1 #[.val (.ref ca), .val (.int (0 : Int32)), .val (.int (2 : Int32)), .unset, .unset, .unset] [(.int (2 : Int32))])) (fun t k => ?_) ?_
  · show Steps p.tables e below (s₁.setTop (mkF m 0 #[.val (.ref ca), .val (.int (0 : Int32)), .val (.int (2 : Int32)), .unset, .unset, .unset] [])) t
    refine XS.iloadN X0.here hx rfl (hb hby own_d16_0) rfl ?_
    exact k
  obtain ⟨T1, h1, k1, X1, e1, E1, A1, st1⟩ := newP X0 hx hZ (hw _ (List.mem_of_getElem? (i := 15) rfl)) e0 (g := (mkF m 1 #[.val (.ref ca), .val (.int (0 : Int32)), .val (.int (2 : Int32)), .unset, .unset, .unset] [(.int (2 : Int32))])) rfl (hb hby own_d16_1) rfl (by decide) (cap := 2) (by decide) (by decide) (by decide) (by decide)
  obtain ⟨b1, g1⟩ : ∃ z, z = h0.size := ⟨_, rfl⟩
  rw [← g1] at A1 st1
  have sz1 : h0.size ≤ b1 := Nat.le_of_eq g1.symm
  have ne_ca_b1 : ca ≠ b1 := Nat.ne_of_lt (Nat.lt_of_lt_of_le V_c.lt sz1)
  have g_b1 : n0 ≤ b1 := Nat.le_trans Z0 sz1
  have hz_b1 : h0.size ≤ b1 := Nat.le_trans (Keep.refl h0 []).1 sz1
  have K1 : Keep h0 h1 [] := (Keep.refl h0 []).ext E1
  have Z1 : n0 ≤ h1.size := Nat.le_trans Z0 E1.1
  have O1 := O0.ext E1
  have V1 : Arv Z h1 b1 k1 .byte (2 : Int32) [(.int (0 : Int32)), (.int (0 : Int32))] (.int (0 : Int32)) := (Arv.new A1 (by decide)).pad (pad_rep [] (.int (0 : Int32)) 2)
  refine own_st (T' := T1) (g' := (mkF m 3 #[.val (.ref ca), .val (.int (0 : Int32)), .val (.int (2 : Int32)), .unset, .unset, .unset] [(.ref b1)])) st1 ?_
  refine own_st (T' := T1) (g' := (mkF m 9 #[.val (.ref ca), .val (.int (0 : Int32)), .val (.int (2 : Int32)), .val (.ref b1), .unset, .unset] [(.int (2 : Int32)), (.int (0 : Int32)), (.ref b1), (.int (0 : Int32)), (.ref ca)])) (fun t k => ?_) ?_
  · show Steps p.tables e below (T1.setTop (mkF m 3 #[.val (.ref ca), .val (.int (0 : Int32)), .val (.int (2 : Int32)), .unset, .unset, .unset] [(.ref b1)])) t
    refine XS.astoreN X1.here hx rfl (hb hby own_d16_3) rfl rfl (l' := #[.val (.ref ca), .val (.int (0 : Int32)), .val (.int (2 : Int32)), .val (.ref b1), .unset, .unset]) rfl ?_
    refine XS.aloadN X1.here hx rfl (hb hby own_d16_4) rfl rfl ?_
    refine XS.iloadN X1.here hx rfl (hb hby own_d16_5) rfl ?_
    refine XS.aloadN X1.here hx rfl (hb hby own_d16_6) rfl rfl ?_
    refine XS.iconst X1.here hx rfl (hb hby own_d16_7) ?_
    refine XS.iloadN X1.here hx rfl (hb hby own_d16_8) rfl ?_
    exact k
  have f2 := V_c.ext E1
  obtain ⟨_, _, ⟨T3, L3, c3, n3⟩, -, X3, ⟨Lc3, hQ3, l3, y3, z3⟩, st3⟩ := Jvm.LawKit.callS X1 hx (y := (⟨"java/lang/StringUTF16", "compress", "([CI[BII)I"⟩ : MethodName)) hown (mvT hZ (hw _ (List.mem_of_getElem? (i := 83) rfl))) (mvT hZ (hw _ (List.mem_of_getElem? (i := 84) rfl))) (mvT hZ (hw _ (List.mem_of_getElem? (i := 81) rfl))) (mvT hZ (hw _ (List.mem_of_getElem? (i := 85) rfl))) (by decide) (backOf (W := 0) (own_rm17a l Z a0 hw [] ca kc c0 c1 b1 k1 cs fm h1 n0 Z1 O1 f2 V1 g_b1 ne_ca_b1 h0c hcs hfm S_cs S_fm S_ad S_hb S_lb) hZ (hw _ (List.mem_of_getElem? (i := 85) rfl)) (hw _ (List.mem_of_getElem? (i := 81) rfl)) (by decide) (by decide)) (g := (mkF m 9 #[.val (.ref ca), .val (.int (0 : Int32)), .val (.int (2 : Int32)), .val (.ref b1), .unset, .unset] [(.int (2 : Int32)), (.int (0 : Int32)), (.ref b1), (.int (0 : Int32)), (.ref ca)])) rfl (by rw [hml]; rfl) (argsL := [(.ref ca), (.int (0 : Int32)), (.ref b1), (.int (0 : Int32)), (.int (2 : Int32))]) (rest := []) (lenOf own_pd9 rfl) rfl (by show 2 * 0 + _ ≤ _; exact Nat.le_of_eq rfl) (hb hby own_d16_9) (fun _ _ => ⟨rfl, e1, (by decide : 1 + 0 ≤ _), (by decide : 2 + 0 ≤ _)⟩)
  dsimp only [Pt.U, Pt.locs, Pt.cells, Pt.slots] at X3 l3 y3 z3 st3 hQ3
  subst l3 y3 z3
  obtain ⟨h3, e3⟩ : ∃ z, T3.heap = z := ⟨_, rfl⟩
  rw [e3] at hQ3
  obtain ⟨rfl, N3q, Kc3, Vc3⟩ := hQ3
  have N3 := Fr.app N0 N3q
  have K3 : Keep h0 h3 [] := K1.trans Kc3 (allS (Or.inr hz_b1) all0)
  have Z3 : n0 ≤ h3.size := Nat.le_trans Z1 Kc3.1
  have O3 := O1.keep Kc3 (allS g_b1 all0)
  refine own_st (T' := T3) (g' := (mkF m 12 #[.val (.ref ca), .val (.int (0 : Int32)), .val (.int (2 : Int32)), .val (.ref b1), .unset, .unset] [(.int (0 : Int32))])) st3 ?_
  refine own_st (T' := T3) (g' := (mkF m 23 #[.val (.ref ca), .val (.int (0 : Int32)), .val (.int (2 : Int32)), .val (.ref b1), .val (.int (0 : Int32)), .unset] [(.int (2 : Int32)), (.int (0 : Int32)), (.ref ca)])) (fun t k => ?_) ?_
  · show Steps p.tables e below (T3.setTop (mkF m 12 #[.val (.ref ca), .val (.int (0 : Int32)), .val (.int (2 : Int32)), .val (.ref b1), .unset, .unset] [(.int (0 : Int32))])) t
    refine XS.istore X3.here hx rfl (hb hby own_d16_12) rfl (l' := #[.val (.ref ca), .val (.int (0 : Int32)), .val (.int (2 : Int32)), .val (.ref b1), .val (.int (0 : Int32)), .unset]) rfl ?_
    refine XS.iload X3.here hx rfl (hb hby own_d16_14) rfl ?_
    refine XS.iloadN X3.here hx rfl (hb hby own_d16_16) rfl ?_
    refine XS.icmpNo X3.here hx rfl (hb hby own_d16_17) rfl (feq (by decide : ¬ ((0 : Int32) = (2 : Int32)))).1 ?_
    refine XS.aloadN X3.here hx rfl (hb hby own_d16_20) rfl rfl ?_
    refine XS.iloadN X3.here hx rfl (hb hby own_d16_21) rfl ?_
    refine XS.iloadN X3.here hx rfl (hb hby own_d16_22) rfl ?_
    exact k
  have f4 := f2.keep Kc3 (ninS ne_ca_b1 nin0)
  obtain ⟨_, _, ⟨T5, L5, c5, n5⟩, -, X5, ⟨Lc5, hQ5, l5, y5, z5⟩, st5⟩ := Jvm.LawKit.callS X3 hx (y := (⟨"java/lang/StringUTF16", "toBytes", "([CII)[B"⟩ : MethodName)) hown (mvT hZ (hw _ (List.mem_of_getElem? (i := 89) rfl))) (mvT hZ (hw _ (List.mem_of_getElem? (i := 90) rfl))) (mvT hZ (hw _ (List.mem_of_getElem? (i := 81) rfl))) (mvT hZ (hw _ (List.mem_of_getElem? (i := 91) rfl))) (by decide) (backOf (W := 0) (own_rm19 l Z a0 hw [] ca kc c0 c1 cs fm h3 n0 Z3 O3 f4 hcs hfm S_cs S_fm S_ad S_hb S_lb) hZ (hw _ (List.mem_of_getElem? (i := 91) rfl)) (hw _ (List.mem_of_getElem? (i := 81) rfl)) (by decide) (by decide)) (g := (mkF m 23 #[.val (.ref ca), .val (.int (0 : Int32)), .val (.int (2 : Int32)), .val (.ref b1), .val (.int (0 : Int32)), .unset] [(.int (2 : Int32)), (.int (0 : Int32)), (.ref ca)])) rfl (by rw [hml]; rfl) (argsL := [(.ref ca), (.int (0 : Int32)), (.int (2 : Int32))]) (rest := []) (lenOf own_pd10 rfl) rfl (by show 2 * 0 + _ ≤ _; exact Nat.le_of_eq rfl) (hb hby own_d16_23) (fun _ _ => ⟨rfl, e3, (by decide : 1 + 1 ≤ _), (by decide : 2 + 4 ≤ _)⟩)
  dsimp only [Pt.U, Pt.locs, Pt.cells, Pt.slots] at X5 l5 y5 z5 st5 hQ5
  subst l5 y5 z5
  obtain ⟨h5, e5⟩ : ∃ z, T5.heap = z := ⟨_, rfl⟩
  rw [e5] at hQ5
  obtain ⟨r5, k5, rfl, N5q, Kc5, g5, hz5, Vc5⟩ := hQ5
  have N5 := Fr.app N3 N5q
  have ne_ca_r5 : ca ≠ r5 := Nat.ne_of_lt (Nat.lt_of_lt_of_le f4.lt hz5)
  have ne_b1_r5 : b1 ≠ r5 := Nat.ne_of_lt (Nat.lt_of_lt_of_le Vc3.lt hz5)
  have hwr5 : h0.size ≤ r5 := Nat.le_trans K3.1 hz5
  have K5 : Keep h0 h5 [] := K3.trans Kc5 all0
  have Z5 : n0 ≤ h5.size := Nat.le_trans Z3 Kc5.1
  have O5 := O3.keep Kc5 all0
  refine own_st (T' := T5) (g' := (mkF m 26 #[.val (.ref ca), .val (.int (0 : Int32)), .val (.int (2 : Int32)), .val (.ref b1), .val (.int (0 : Int32)), .unset] [(.ref r5)])) st5 ?_
  refine own_st (T' := T5) (g' := (mkF m 32 #[.val (.ref ca), .val (.int (0 : Int32)), .val (.int (2 : Int32)), .val (.ref b1), .val (.int (0 : Int32)), .val (.ref r5)] [(.int (0 : Int32)), (.ref r5)])) (fun t k => ?_) ?_
  · show Steps p.tables e below (T5.setTop (mkF m 26 #[.val (.ref ca), .val (.int (0 : Int32)), .val (.int (2 : Int32)), .val (.ref b1), .val (.int (0 : Int32)), .unset] [(.ref r5)])) t
    refine XS.astore X5.here hx rfl (hb hby own_d16_26) rfl rfl (l' := #[.val (.ref ca), .val (.int (0 : Int32)), .val (.int (2 : Int32)), .val (.ref b1), .val (.int (0 : Int32)), .val (.ref r5)]) rfl ?_
    refine XS.aload X5.here hx rfl (hb hby own_d16_28) rfl rfl ?_
    refine XS.iload X5.here hx rfl (hb hby own_d16_30) rfl ?_
    exact k
  obtain ⟨_, _, ⟨T6, L6, c6, n6⟩, -, X6, ⟨Lc6, hQ6, l6, y6, z6⟩, st6⟩ := Jvm.LawKit.callS X5 hx (y := (⟨"java/lang/StringUTF16", "getChar", "([BI)C"⟩ : MethodName)) hown (mvT hZ (hw _ (List.mem_of_getElem? (i := 105) rfl))) (mvT hZ (hw _ (List.mem_of_getElem? (i := 106) rfl))) (mvT hZ (hw _ (List.mem_of_getElem? (i := 81) rfl))) (mvT hZ (hw _ (List.mem_of_getElem? (i := 107) rfl))) (by decide) (backOf (W := 0) (own_rm23_4_0 l Z a0 hw [] r5 k5 ((c0 >>> ((0 : Int32) &&& 31)).toInt8.toInt32) ((c0 >>> ((8 : Int32) &&& 31)).toInt8.toInt32) ((c1 >>> ((0 : Int32) &&& 31)).toInt8.toInt32) ((c1 >>> ((8 : Int32) &&& 31)).toInt8.toInt32) cs fm h5 n0 Z5 O5 Vc5 hcs hfm S_cs S_fm S_ad S_hb S_lb) hZ (hw _ (List.mem_of_getElem? (i := 107) rfl)) (hw _ (List.mem_of_getElem? (i := 81) rfl)) (by decide) (by decide)) (g := (mkF m 32 #[.val (.ref ca), .val (.int (0 : Int32)), .val (.int (2 : Int32)), .val (.ref b1), .val (.int (0 : Int32)), .val (.ref r5)] [(.int (0 : Int32)), (.ref r5)])) rfl (by rw [hml]; rfl) (argsL := [(.ref r5), (.int (0 : Int32))]) (rest := []) (lenOf own_pd4 rfl) rfl (by show 2 * 0 + _ ≤ _; exact Nat.le_of_eq rfl) (hb hby own_d16_32) (fun _ _ => ⟨rfl, e5, (by decide : 2 + 0 ≤ _), (by decide : 6 + 0 ≤ _)⟩)
  dsimp only [Pt.U, Pt.locs, Pt.cells, Pt.slots] at X6 l6 y6 z6 st6 hQ6
  subst l6 y6 z6
  obtain ⟨rfl, N6q, e6⟩ := hQ6
  have N6 := Fr.app N5 N6q
  refine own_st (T' := T6) (g' := (mkF m 35 #[.val (.ref ca), .val (.int (0 : Int32)), .val (.int (2 : Int32)), .val (.ref b1), .val (.int (0 : Int32)), .val (.ref r5)] [(.int (own_gc ((c0 >>> ((0 : Int32) &&& 31)).toInt8.toInt32) ((c0 >>> ((8 : Int32) &&& 31)).toInt8.toInt32)))])) st6 ?_
  refine own_st (T' := T6) (g' := (mkF m 56 #[.val (.ref ca), .val (.int (0 : Int32)), .val (.int (2 : Int32)), .val (.ref b1), .val (.int (0 : Int32)), .val (.ref r5)] [(.ref r5)])) (fun t k => ?_) ?_
  · show Steps p.tables e below (T6.setTop (mkF m 35 #[.val (.ref ca), .val (.int (0 : Int32)), .val (.int (2 : Int32)), .val (.ref b1), .val (.int (0 : Int32)), .val (.ref r5)] [(.int (own_gc ((c0 >>> ((0 : Int32) &&& 31)).toInt8.toInt32) ((c0 >>> ((8 : Int32) &&& 31)).toInt8.toInt32)))])) t
    refine XS.sipush X6.here hx rfl (hb hby own_d16_35) ?_
    refine XS.icmpYes X6.here hx rfl (pc0 := 38) (pc' := 54) rfl (hb hby own_d16_38) rfl (tlt (own_gc_lt rg0 h0c)).2.2.1 (by decide) (by decide) ?_
    refine XS.aload X6.here hx rfl (hb hby own_d16_54) rfl rfl ?_
    exact k
  exact own_retA X6 hx Bd rfl rfl (hb hby own_d16_56) e6 (⟨r5, k5, rfl, N6, K5, g5, hwr5, Vc5⟩) (by decide) (by decide)
def own_r16b : Room := { frames := 3, cells := 2, slots := 6, locals := 40 }
theorem own_ef16b (m : MethodId) (x0 : Addr) : entryFrame m #[(.ref x0), (.int (0 : Int32)), (.int (2 : Int32))] 6 = mkF m 0 #[.val (.ref x0), .val (.int (0 : Int32)), .val (.int (2 : Int32)), .unset, .unset, .unset] [] := by first | (simp [entryFrame, mkF, argsToLocals, Value.category]; done) | rfl
def own_Q16b (Z : State) (ca : Addr) (kc : ClassId) (c0 c1 : Int32) (cs : Int32) (fm : Value) (h0 : Heap) (n0 : Nat) : Option Value → Heap → List Loc → Prop := fun v h L => ∃ r k, v = some (.ref r) ∧ Fr n0 L ∧ Keep h0 h [] ∧ n0 ≤ r ∧ h0.size ≤ r ∧ Arv Z h r k .byte (4 : Int32) [(.int ((c0 >>> ((0 : Int32) &&& 31)).toInt8.toInt32)), (.int ((c0 >>> ((8 : Int32) &&& 31)).toInt8.toInt32)), (.int ((c1 >>> ((0 : Int32) &&& 31)).toInt8.toInt32)), (.int ((c1 >>> ((8 : Int32) &&& 31)).toInt8.toInt32))] (.int (0 : Int32))
set_option maxRecDepth 65536 in
set_option maxHeartbeats 40000000 in
theorem own_rm16b (l : Launch) (Z : State) (a0 : Array Value) (hw : ∀ d ∈ tables_1, d.before a0 Z = true) (ws : List Jvm.Cond) (ca : Addr) (kc : ClassId) (c0 c1 : Int32) (cs : Int32) (fm : Value) (h0 : Heap) (n0 : Nat) (Z0 : n0 ≤ h0.size) (O0 : Old Z n0 h0) (V_c : Arv Z h0 ca kc .char (2 : Int32) [(.int c0), (.int c1)] (.int (0 : Int32))) (h0c : ¬ (255 : Int32) < c0) (h1c : (255 : Int32) < c1) (rg0 : own_u16 c0) (rg1 : own_u16 c1) (hcs : ¬ cs = (0 : Int32)) (hfm : fm.isRef = true) (S_cs : Sta Z Z.heap "java/lang/String" "COMPACT_STRINGS" "Z" (.int cs)) (S_fm : Sta Z Z.heap "jdk/internal/util/Preconditions" "SIOOBE_FORMATTER" "Ljava/util/function/BiFunction;" fm) (S_ad : Sta Z Z.heap "java/lang/StringUTF16" "$assertionsDisabled" "Z" (.int (1 : Int32))) (S_hb : Sta Z Z.heap "java/lang/StringUTF16" "HI_BYTE_SHIFT" "I" (.int (0 : Int32))) (S_lb : Sta Z Z.heap "java/lang/StringUTF16" "LO_BYTE_SHIFT" "I" (.int (8 : Int32))) :
    MetFree l (⟨"java/lang/StringUTF16", "compress", "([CII)[B"⟩ : MethodName) (head1 (Jvm.Cond.code (⟨"java/lang/StringUTF16", "compress", "([CII)[B"⟩ : MethodName) jdk_52_method_16_code 6 (some (.array .byte)) :: ws) own_r16b) (fun a_ U_ => a_ = #[(.ref ca), (.int (0 : Int32)), (.int (2 : Int32))] ∧ Z.Warmed39 U_.vm ∧ U_.heap = h0) (fun _ _ _ _ _ => True) (fun _ U_ o_ U'_ => ∃ v_ L_, o_ = .returned v_ ∧ own_Q16b Z ca  kc  c0 c1  cs  fm  h0 n0 v_ U'_.heap L_ ∧ FrameEnd U_ o_ U'_ L_ own_r16b.cells own_r16b.slots) := by
  refine MetFree.of_bodySF (plainFor_of_name own_pn3) hisR ?_
  intro p e s m args below meth c s₁ Bd hml0 hP hK
  obtain ⟨rfl, hZ, hh⟩ := hP
  have hx := Bd.exec
  have hby := Bd.bytes
  have hml : c.maxLocals = 6 := hml0
  have hown : s.vm.findClass "java/lang/StringUTF16" = some m.cls := findClass_of_methodNamed Bd.named
  have hnm := (name_of_methodNamed Bd.named Bd.method).1
  have X0 : Stand p l e own_r16b s m #[(.ref ca), (.int (0 : Int32)), (.int (2 : Int32))] below meth c s₁ [] 0 0 := Stand.of_body Bd
  have e0 : s₁.heap = h0 := by rw [← hh, Bd.state]; rfl
  have N0 := Fr.nil n0
  refine own_in (own_ef16b m ca) ?_
  show own_Go p e below (own_K s (own_Q16b Z ca  kc  c0 c1  cs  fm  h0 n0) own_r16b.cells own_r16b.slots) s₁ (mkF m 0 #[.val (.ref ca), .val (.int (0 : Int32)), .val (.int (2 : Int32)), .unset, .unset, .unset] [])
  refine own_st (T' := s₁) (g' := (mkF m 1 #[.val (.ref ca), .val (.int (0 : Int32)), .val (.int (2 : Int32)), .unset, .unset, .unset] [(.int (2 : Int32))])) (fun t k => ?_) ?_
  · show Steps p.tables e below (s₁.setTop (mkF m 0 #[.val (.ref ca), .val (.int (0 : Int32)), .val (.int (2 : Int32)), .unset, .unset, .unset] [])) t
    refine XS.iloadN X0.here hx rfl (hb hby own_d16_0) rfl ?_
    exact k
  obtain ⟨T1, h1, k1, X1, e1, E1, A1, st1⟩ := newP X0 hx hZ (hw _ (List.mem_of_getElem? (i := 15) rfl)) e0 (g := (mkF m 1 #[.val (.ref ca), .val (.int (0 : Int32)), .val (.int (2 : Int32)), .unset, .unset, .unset] [(.int (2 : Int32))])) rfl (hb hby own_d16_1) rfl (by decide) (cap := 2) (by decide) (by decide) (by decide) (by decide)
  obtain ⟨b1, g1⟩ : ∃ z, z = h0.size := ⟨_, rfl⟩
  rw [← g1] at A1 st1
  have sz1 : h0.size ≤ b1 := Nat.le_of_eq g1.symm
  have ne_ca_b1 : ca ≠ b1 := Nat.ne_of_lt (Nat.lt_of_lt_of_le V_c.lt sz1)
  have g_b1 : n0 ≤ b1 := Nat.le_trans Z0 sz1
  have hz_b1 : h0.size ≤ b1 := Nat.le_trans (Keep.refl h0 []).1 sz1
  have K1 : Keep h0 h1 [] := (Keep.refl h0 []).ext E1
  have Z1 : n0 ≤ h1.size := Nat.le_trans Z0 E1.1
  have O1 := O0.ext E1
  have V1 : Arv Z h1 b1 k1 .byte (2 : Int32) [(.int (0 : Int32)), (.int (0 : Int32))] (.int (0 : Int32)) := (Arv.new A1 (by decide)).pad (pad_rep [] (.int (0 : Int32)) 2)
  refine own_st (T' := T1) (g' := (mkF m 3 #[.val (.ref ca), .val (.int (0 : Int32)), .val (.int (2 : Int32)), .unset, .unset, .unset] [(.ref b1)])) st1 ?_
  refine own_st (T' := T1) (g' := (mkF m 9 #[.val (.ref ca), .val (.int (0 : Int32)), .val (.int (2 : Int32)), .val (.ref b1), .unset, .unset] [(.int (2 : Int32)), (.int (0 : Int32)), (.ref b1), (.int (0 : Int32)), (.ref ca)])) (fun t k => ?_) ?_
  · show Steps p.tables e below (T1.setTop (mkF m 3 #[.val (.ref ca), .val (.int (0 : Int32)), .val (.int (2 : Int32)), .unset, .unset, .unset] [(.ref b1)])) t
    refine XS.astoreN X1.here hx rfl (hb hby own_d16_3) rfl rfl (l' := #[.val (.ref ca), .val (.int (0 : Int32)), .val (.int (2 : Int32)), .val (.ref b1), .unset, .unset]) rfl ?_
    refine XS.aloadN X1.here hx rfl (hb hby own_d16_4) rfl rfl ?_
    refine XS.iloadN X1.here hx rfl (hb hby own_d16_5) rfl ?_
    refine XS.aloadN X1.here hx rfl (hb hby own_d16_6) rfl rfl ?_
    refine XS.iconst X1.here hx rfl (hb hby own_d16_7) ?_
    refine XS.iloadN X1.here hx rfl (hb hby own_d16_8) rfl ?_
    exact k
  have f2 := V_c.ext E1
  obtain ⟨_, _, ⟨T3, L3, c3, n3⟩, -, X3, ⟨Lc3, hQ3, l3, y3, z3⟩, st3⟩ := Jvm.LawKit.callS X1 hx (y := (⟨"java/lang/StringUTF16", "compress", "([CI[BII)I"⟩ : MethodName)) hown (mvT hZ (hw _ (List.mem_of_getElem? (i := 83) rfl))) (mvT hZ (hw _ (List.mem_of_getElem? (i := 84) rfl))) (mvT hZ (hw _ (List.mem_of_getElem? (i := 81) rfl))) (mvT hZ (hw _ (List.mem_of_getElem? (i := 85) rfl))) (by decide) (backOf (W := 0) (own_rm17b l Z a0 hw [] ca kc c0 c1 b1 k1 cs fm h1 n0 Z1 O1 f2 V1 g_b1 ne_ca_b1 h0c h1c hcs hfm S_cs S_fm S_ad S_hb S_lb) hZ (hw _ (List.mem_of_getElem? (i := 85) rfl)) (hw _ (List.mem_of_getElem? (i := 81) rfl)) (by decide) (by decide)) (g := (mkF m 9 #[.val (.ref ca), .val (.int (0 : Int32)), .val (.int (2 : Int32)), .val (.ref b1), .unset, .unset] [(.int (2 : Int32)), (.int (0 : Int32)), (.ref b1), (.int (0 : Int32)), (.ref ca)])) rfl (by rw [hml]; rfl) (argsL := [(.ref ca), (.int (0 : Int32)), (.ref b1), (.int (0 : Int32)), (.int (2 : Int32))]) (rest := []) (lenOf own_pd9 rfl) rfl (by show 2 * 0 + _ ≤ _; exact Nat.le_of_eq rfl) (hb hby own_d16_9) (fun _ _ => ⟨rfl, e1, (by decide : 1 + 0 ≤ _), (by decide : 2 + 0 ≤ _)⟩)
  dsimp only [Pt.U, Pt.locs, Pt.cells, Pt.slots] at X3 l3 y3 z3 st3 hQ3
  subst l3 y3 z3
  obtain ⟨h3, e3⟩ : ∃ z, T3.heap = z := ⟨_, rfl⟩
  rw [e3] at hQ3
  obtain ⟨rfl, N3q, Kc3, Vc3⟩ := hQ3
  have N3 := Fr.app N0 N3q
  have K3 : Keep h0 h3 [] := K1.trans Kc3 (allS (Or.inr hz_b1) all0)
  have Z3 : n0 ≤ h3.size := Nat.le_trans Z1 Kc3.1
  have O3 := O1.keep Kc3 (allS g_b1 all0)
  refine own_st (T' := T3) (g' := (mkF m 12 #[.val (.ref ca), .val (.int (0 : Int32)), .val (.int (2 : Int32)), .val (.ref b1), .unset, .unset] [(.int (1 : Int32))])) st3 ?_
  refine own_st (T' := T3) (g' := (mkF m 23 #[.val (.ref ca), .val (.int (0 : Int32)), .val (.int (2 : Int32)), .val (.ref b1), .val (.int (1 : Int32)), .unset] [(.int (2 : Int32)), (.int (0 : Int32)), (.ref ca)])) (fun t k => ?_) ?_
  · show Steps p.tables e below (T3.setTop (mkF m 12 #[.val (.ref ca), .val (.int (0 : Int32)), .val (.int (2 : Int32)), .val (.ref b1), .unset, .unset] [(.int (1 : Int32))])) t
    refine XS.istore X3.here hx rfl (hb hby own_d16_12) rfl (l' := #[.val (.ref ca), .val (.int (0 : Int32)), .val (.int (2 : Int32)), .val (.ref b1), .val (.int (1 : Int32)), .unset]) rfl ?_
    refine XS.iload X3.here hx rfl (hb hby own_d16_14) rfl ?_
    refine XS.iloadN X3.here hx rfl (hb hby own_d16_16) rfl ?_
    refine XS.icmpNo X3.here hx rfl (hb hby own_d16_17) rfl (feq (by decide : ¬ ((1 : Int32) = (2 : Int32)))).1 ?_
    refine XS.aloadN X3.here hx rfl (hb hby own_d16_20) rfl rfl ?_
    refine XS.iloadN X3.here hx rfl (hb hby own_d16_21) rfl ?_
    refine XS.iloadN X3.here hx rfl (hb hby own_d16_22) rfl ?_
    exact k
  have f4 := f2.keep Kc3 (ninS ne_ca_b1 nin0)
  obtain ⟨_, _, ⟨T5, L5, c5, n5⟩, -, X5, ⟨Lc5, hQ5, l5, y5, z5⟩, st5⟩ := Jvm.LawKit.callS X3 hx (y := (⟨"java/lang/StringUTF16", "toBytes", "([CII)[B"⟩ : MethodName)) hown (mvT hZ (hw _ (List.mem_of_getElem? (i := 89) rfl))) (mvT hZ (hw _ (List.mem_of_getElem? (i := 90) rfl))) (mvT hZ (hw _ (List.mem_of_getElem? (i := 81) rfl))) (mvT hZ (hw _ (List.mem_of_getElem? (i := 91) rfl))) (by decide) (backOf (W := 0) (own_rm19 l Z a0 hw [] ca kc c0 c1 cs fm h3 n0 Z3 O3 f4 hcs hfm S_cs S_fm S_ad S_hb S_lb) hZ (hw _ (List.mem_of_getElem? (i := 91) rfl)) (hw _ (List.mem_of_getElem? (i := 81) rfl)) (by decide) (by decide)) (g := (mkF m 23 #[.val (.ref ca), .val (.int (0 : Int32)), .val (.int (2 : Int32)), .val (.ref b1), .val (.int (1 : Int32)), .unset] [(.int (2 : Int32)), (.int (0 : Int32)), (.ref ca)])) rfl (by rw [hml]; rfl) (argsL := [(.ref ca), (.int (0 : Int32)), (.int (2 : Int32))]) (rest := []) (lenOf own_pd10 rfl) rfl (by show 2 * 0 + _ ≤ _; exact Nat.le_of_eq rfl) (hb hby own_d16_23) (fun _ _ => ⟨rfl, e3, (by decide : 1 + 1 ≤ _), (by decide : 2 + 4 ≤ _)⟩)
  dsimp only [Pt.U, Pt.locs, Pt.cells, Pt.slots] at X5 l5 y5 z5 st5 hQ5
  subst l5 y5 z5
  obtain ⟨h5, e5⟩ : ∃ z, T5.heap = z := ⟨_, rfl⟩
  rw [e5] at hQ5
  obtain ⟨r5, k5, rfl, N5q, Kc5, g5, hz5, Vc5⟩ := hQ5
  have N5 := Fr.app N3 N5q
  have ne_ca_r5 : ca ≠ r5 := Nat.ne_of_lt (Nat.lt_of_lt_of_le f4.lt hz5)
  have ne_b1_r5 : b1 ≠ r5 := Nat.ne_of_lt (Nat.lt_of_lt_of_le Vc3.lt hz5)
  have hwr5 : h0.size ≤ r5 := Nat.le_trans K3.1 hz5
  have K5 : Keep h0 h5 [] := K3.trans Kc5 all0
  have Z5 : n0 ≤ h5.size := Nat.le_trans Z3 Kc5.1
  have O5 := O3.keep Kc5 all0
  refine own_st (T' := T5) (g' := (mkF m 26 #[.val (.ref ca), .val (.int (0 : Int32)), .val (.int (2 : Int32)), .val (.ref b1), .val (.int (1 : Int32)), .unset] [(.ref r5)])) st5 ?_
  refine own_st (T' := T5) (g' := (mkF m 32 #[.val (.ref ca), .val (.int (0 : Int32)), .val (.int (2 : Int32)), .val (.ref b1), .val (.int (1 : Int32)), .val (.ref r5)] [(.int (1 : Int32)), (.ref r5)])) (fun t k => ?_) ?_
  · show Steps p.tables e below (T5.setTop (mkF m 26 #[.val (.ref ca), .val (.int (0 : Int32)), .val (.int (2 : Int32)), .val (.ref b1), .val (.int (1 : Int32)), .unset] [(.ref r5)])) t
    refine XS.astore X5.here hx rfl (hb hby own_d16_26) rfl rfl (l' := #[.val (.ref ca), .val (.int (0 : Int32)), .val (.int (2 : Int32)), .val (.ref b1), .val (.int (1 : Int32)), .val (.ref r5)]) rfl ?_
    refine XS.aload X5.here hx rfl (hb hby own_d16_28) rfl rfl ?_
    refine XS.iload X5.here hx rfl (hb hby own_d16_30) rfl ?_
    exact k
  obtain ⟨_, _, ⟨T6, L6, c6, n6⟩, -, X6, ⟨Lc6, hQ6, l6, y6, z6⟩, st6⟩ := Jvm.LawKit.callS X5 hx (y := (⟨"java/lang/StringUTF16", "getChar", "([BI)C"⟩ : MethodName)) hown (mvT hZ (hw _ (List.mem_of_getElem? (i := 105) rfl))) (mvT hZ (hw _ (List.mem_of_getElem? (i := 106) rfl))) (mvT hZ (hw _ (List.mem_of_getElem? (i := 81) rfl))) (mvT hZ (hw _ (List.mem_of_getElem? (i := 107) rfl))) (by decide) (backOf (W := 0) (own_rm23_4_1 l Z a0 hw [] r5 k5 ((c0 >>> ((0 : Int32) &&& 31)).toInt8.toInt32) ((c0 >>> ((8 : Int32) &&& 31)).toInt8.toInt32) ((c1 >>> ((0 : Int32) &&& 31)).toInt8.toInt32) ((c1 >>> ((8 : Int32) &&& 31)).toInt8.toInt32) cs fm h5 n0 Z5 O5 Vc5 hcs hfm S_cs S_fm S_ad S_hb S_lb) hZ (hw _ (List.mem_of_getElem? (i := 107) rfl)) (hw _ (List.mem_of_getElem? (i := 81) rfl)) (by decide) (by decide)) (g := (mkF m 32 #[.val (.ref ca), .val (.int (0 : Int32)), .val (.int (2 : Int32)), .val (.ref b1), .val (.int (1 : Int32)), .val (.ref r5)] [(.int (1 : Int32)), (.ref r5)])) rfl (by rw [hml]; rfl) (argsL := [(.ref r5), (.int (1 : Int32))]) (rest := []) (lenOf own_pd4 rfl) rfl (by show 2 * 0 + _ ≤ _; exact Nat.le_of_eq rfl) (hb hby own_d16_32) (fun _ _ => ⟨rfl, e5, (by decide : 2 + 0 ≤ _), (by decide : 6 + 0 ≤ _)⟩)
  dsimp only [Pt.U, Pt.locs, Pt.cells, Pt.slots] at X6 l6 y6 z6 st6 hQ6
  subst l6 y6 z6
  obtain ⟨rfl, N6q, e6⟩ := hQ6
  have N6 := Fr.app N5 N6q
  refine own_st (T' := T6) (g' := (mkF m 35 #[.val (.ref ca), .val (.int (0 : Int32)), .val (.int (2 : Int32)), .val (.ref b1), .val (.int (1 : Int32)), .val (.ref r5)] [(.int (own_gc ((c1 >>> ((0 : Int32) &&& 31)).toInt8.toInt32) ((c1 >>> ((8 : Int32) &&& 31)).toInt8.toInt32)))])) st6 ?_
  refine own_st (T' := T6) (g' := (mkF m 56 #[.val (.ref ca), .val (.int (0 : Int32)), .val (.int (2 : Int32)), .val (.ref b1), .val (.int (1 : Int32)), .val (.ref r5)] [(.ref r5)])) (fun t k => ?_) ?_
  · show Steps p.tables e below (T6.setTop (mkF m 35 #[.val (.ref ca), .val (.int (0 : Int32)), .val (.int (2 : Int32)), .val (.ref b1), .val (.int (1 : Int32)), .val (.ref r5)] [(.int (own_gc ((c1 >>> ((0 : Int32) &&& 31)).toInt8.toInt32) ((c1 >>> ((8 : Int32) &&& 31)).toInt8.toInt32)))])) t
    refine XS.sipush X6.here hx rfl (hb hby own_d16_35) ?_
    refine XS.icmpYes X6.here hx rfl (pc0 := 38) (pc' := 54) rfl (hb hby own_d16_38) rfl (tlt (own_gc_lt rg1 h1c)).2.2.1 (by decide) (by decide) ?_
    refine XS.aload X6.here hx rfl (hb hby own_d16_54) rfl rfl ?_
    exact k
  exact own_retA X6 hx Bd rfl rfl (hb hby own_d16_56) e6 (⟨r5, k5, rfl, N6, K5, g5, hwr5, Vc5⟩) (by decide) (by decide)
def own_r16c : Room := { frames := 1, cells := 1, slots := 2, locals := 18 }
theorem own_ef16c (m : MethodId) (x0 : Addr) : entryFrame m #[(.ref x0), (.int (0 : Int32)), (.int (2 : Int32))] 6 = mkF m 0 #[.val (.ref x0), .val (.int (0 : Int32)), .val (.int (2 : Int32)), .unset, .unset, .unset] [] := by first | (simp [entryFrame, mkF, argsToLocals, Value.category]; done) | rfl
def own_Q16c (Z : State) (ca : Addr) (kc : ClassId) (c0 c1 : Int32) (cs : Int32) (fm : Value) (h0 : Heap) (n0 : Nat) : Option Value → Heap → List Loc → Prop := fun v h L => ∃ r k, v = some (.ref r) ∧ Fr n0 L ∧ Keep h0 h [] ∧ n0 ≤ r ∧ h0.size ≤ r ∧ Arv Z h r k .byte (2 : Int32) [(.int (c0.toInt8.toInt32)), (.int (c1.toInt8.toInt32))] (.int (0 : Int32))
set_option maxRecDepth 65536 in
set_option maxHeartbeats 40000000 in
theorem own_rm16c (l : Launch) (Z : State) (a0 : Array Value) (hw : ∀ d ∈ tables_1, d.before a0 Z = true) (ws : List Jvm.Cond) (ca : Addr) (kc : ClassId) (c0 c1 : Int32) (cs : Int32) (fm : Value) (h0 : Heap) (n0 : Nat) (Z0 : n0 ≤ h0.size) (O0 : Old Z n0 h0) (V_c : Arv Z h0 ca kc .char (2 : Int32) [(.int c0), (.int c1)] (.int (0 : Int32))) (h0c : ¬ (255 : Int32) < c0) (h1c : ¬ (255 : Int32) < c1) (rg0 : own_u16 c0) (rg1 : own_u16 c1) (hcs : ¬ cs = (0 : Int32)) (hfm : fm.isRef = true) (S_cs : Sta Z Z.heap "java/lang/String" "COMPACT_STRINGS" "Z" (.int cs)) (S_fm : Sta Z Z.heap "jdk/internal/util/Preconditions" "SIOOBE_FORMATTER" "Ljava/util/function/BiFunction;" fm) (S_ad : Sta Z Z.heap "java/lang/StringUTF16" "$assertionsDisabled" "Z" (.int (1 : Int32))) (S_hb : Sta Z Z.heap "java/lang/StringUTF16" "HI_BYTE_SHIFT" "I" (.int (0 : Int32))) (S_lb : Sta Z Z.heap "java/lang/StringUTF16" "LO_BYTE_SHIFT" "I" (.int (8 : Int32))) :
    MetFree l (⟨"java/lang/StringUTF16", "compress", "([CII)[B"⟩ : MethodName) (head1 (Jvm.Cond.code (⟨"java/lang/StringUTF16", "compress", "([CII)[B"⟩ : MethodName) jdk_52_method_16_code 6 (some (.array .byte)) :: ws) own_r16c) (fun a_ U_ => a_ = #[(.ref ca), (.int (0 : Int32)), (.int (2 : Int32))] ∧ Z.Warmed39 U_.vm ∧ U_.heap = h0) (fun _ _ _ _ _ => True) (fun _ U_ o_ U'_ => ∃ v_ L_, o_ = .returned v_ ∧ own_Q16c Z ca  kc  c0 c1  cs  fm  h0 n0 v_ U'_.heap L_ ∧ FrameEnd U_ o_ U'_ L_ own_r16c.cells own_r16c.slots) := by
  refine MetFree.of_bodySF (plainFor_of_name own_pn3) hisR ?_
  intro p e s m args below meth c s₁ Bd hml0 hP hK
  obtain ⟨rfl, hZ, hh⟩ := hP
  have hx := Bd.exec
  have hby := Bd.bytes
  have hml : c.maxLocals = 6 := hml0
  have hown : s.vm.findClass "java/lang/StringUTF16" = some m.cls := findClass_of_methodNamed Bd.named
  have hnm := (name_of_methodNamed Bd.named Bd.method).1
  have X0 : Stand p l e own_r16c s m #[(.ref ca), (.int (0 : Int32)), (.int (2 : Int32))] below meth c s₁ [] 0 0 := Stand.of_body Bd
  have e0 : s₁.heap = h0 := by rw [← hh, Bd.state]; rfl
  have N0 := Fr.nil n0
  refine own_in (own_ef16c m ca) ?_
  show own_Go p e below (own_K s (own_Q16c Z ca  kc  c0 c1  cs  fm  h0 n0) own_r16c.cells own_r16c.slots) s₁ (mkF m 0 #[.val (.ref ca), .val (.int (0 : Int32)), .val (.int (2 : Int32)), .unset, .unset, .unset] [])
  refine own_st (T' := s₁) (g' := (mkF m 1 #[.val (.ref ca), .val (.int (0 : Int32)), .val (.int (2 : Int32)), .unset, .unset, .unset] [(.int (2 : Int32))])) (fun t k => ?_) ?_
  · show Steps p.tables e below (s₁.setTop (mkF m 0 #[.val (.ref ca), .val (.int (0 : Int32)), .val (.int (2 : Int32)), .unset, .unset, .unset] [])) t
    refine XS.iloadN X0.here hx rfl (hb hby own_d16_0) rfl ?_
    exact k
  obtain ⟨T1, h1, k1, X1, e1, E1, A1, st1⟩ := newP X0 hx hZ (hw _ (List.mem_of_getElem? (i := 15) rfl)) e0 (g := (mkF m 1 #[.val (.ref ca), .val (.int (0 : Int32)), .val (.int (2 : Int32)), .unset, .unset, .unset] [(.int (2 : Int32))])) rfl (hb hby own_d16_1) rfl (by decide) (cap := 2) (by decide) (by decide) (by decide) (by decide)
  obtain ⟨b1, g1⟩ : ∃ z, z = h0.size := ⟨_, rfl⟩
  rw [← g1] at A1 st1
  have sz1 : h0.size ≤ b1 := Nat.le_of_eq g1.symm
  have ne_ca_b1 : ca ≠ b1 := Nat.ne_of_lt (Nat.lt_of_lt_of_le V_c.lt sz1)
  have g_b1 : n0 ≤ b1 := Nat.le_trans Z0 sz1
  have hz_b1 : h0.size ≤ b1 := Nat.le_trans (Keep.refl h0 []).1 sz1
  have K1 : Keep h0 h1 [] := (Keep.refl h0 []).ext E1
  have Z1 : n0 ≤ h1.size := Nat.le_trans Z0 E1.1
  have O1 := O0.ext E1
  have V1 : Arv Z h1 b1 k1 .byte (2 : Int32) [(.int (0 : Int32)), (.int (0 : Int32))] (.int (0 : Int32)) := (Arv.new A1 (by decide)).pad (pad_rep [] (.int (0 : Int32)) 2)
  refine own_st (T' := T1) (g' := (mkF m 3 #[.val (.ref ca), .val (.int (0 : Int32)), .val (.int (2 : Int32)), .unset, .unset, .unset] [(.ref b1)])) st1 ?_
  refine own_st (T' := T1) (g' := (mkF m 9 #[.val (.ref ca), .val (.int (0 : Int32)), .val (.int (2 : Int32)), .val (.ref b1), .unset, .unset] [(.int (2 : Int32)), (.int (0 : Int32)), (.ref b1), (.int (0 : Int32)), (.ref ca)])) (fun t k => ?_) ?_
  · show Steps p.tables e below (T1.setTop (mkF m 3 #[.val (.ref ca), .val (.int (0 : Int32)), .val (.int (2 : Int32)), .unset, .unset, .unset] [(.ref b1)])) t
    refine XS.astoreN X1.here hx rfl (hb hby own_d16_3) rfl rfl (l' := #[.val (.ref ca), .val (.int (0 : Int32)), .val (.int (2 : Int32)), .val (.ref b1), .unset, .unset]) rfl ?_
    refine XS.aloadN X1.here hx rfl (hb hby own_d16_4) rfl rfl ?_
    refine XS.iloadN X1.here hx rfl (hb hby own_d16_5) rfl ?_
    refine XS.aloadN X1.here hx rfl (hb hby own_d16_6) rfl rfl ?_
    refine XS.iconst X1.here hx rfl (hb hby own_d16_7) ?_
    refine XS.iloadN X1.here hx rfl (hb hby own_d16_8) rfl ?_
    exact k
  have f2 := V_c.ext E1
  obtain ⟨_, _, ⟨T3, L3, c3, n3⟩, -, X3, ⟨Lc3, hQ3, l3, y3, z3⟩, st3⟩ := Jvm.LawKit.callS X1 hx (y := (⟨"java/lang/StringUTF16", "compress", "([CI[BII)I"⟩ : MethodName)) hown (mvT hZ (hw _ (List.mem_of_getElem? (i := 83) rfl))) (mvT hZ (hw _ (List.mem_of_getElem? (i := 84) rfl))) (mvT hZ (hw _ (List.mem_of_getElem? (i := 81) rfl))) (mvT hZ (hw _ (List.mem_of_getElem? (i := 85) rfl))) (by decide) (backOf (W := 0) (own_rm17c l Z a0 hw [] ca kc c0 c1 b1 k1 cs fm h1 n0 Z1 O1 f2 V1 g_b1 ne_ca_b1 h0c h1c hcs hfm S_cs S_fm S_ad S_hb S_lb) hZ (hw _ (List.mem_of_getElem? (i := 85) rfl)) (hw _ (List.mem_of_getElem? (i := 81) rfl)) (by decide) (by decide)) (g := (mkF m 9 #[.val (.ref ca), .val (.int (0 : Int32)), .val (.int (2 : Int32)), .val (.ref b1), .unset, .unset] [(.int (2 : Int32)), (.int (0 : Int32)), (.ref b1), (.int (0 : Int32)), (.ref ca)])) rfl (by rw [hml]; rfl) (argsL := [(.ref ca), (.int (0 : Int32)), (.ref b1), (.int (0 : Int32)), (.int (2 : Int32))]) (rest := []) (lenOf own_pd9 rfl) rfl (by show 2 * 0 + _ ≤ _; exact Nat.le_of_eq rfl) (hb hby own_d16_9) (fun _ _ => ⟨rfl, e1, (by decide : 1 + 0 ≤ _), (by decide : 2 + 0 ≤ _)⟩)
  dsimp only [Pt.U, Pt.locs, Pt.cells, Pt.slots] at X3 l3 y3 z3 st3 hQ3
  subst l3 y3 z3
  obtain ⟨h3, e3⟩ : ∃ z, T3.heap = z := ⟨_, rfl⟩
  rw [e3] at hQ3
  obtain ⟨rfl, N3q, Kc3, Vc3⟩ := hQ3
  have N3 := Fr.app N0 N3q
  have K3 : Keep h0 h3 [] := K1.trans Kc3 (allS (Or.inr hz_b1) all0)
  have Z3 : n0 ≤ h3.size := Nat.le_trans Z1 Kc3.1
  have O3 := O1.keep Kc3 (allS g_b1 all0)
  refine own_st (T' := T3) (g' := (mkF m 12 #[.val (.ref ca), .val (.int (0 : Int32)), .val (.int (2 : Int32)), .val (.ref b1), .unset, .unset] [(.int (2 : Int32))])) st3 ?_
  refine own_st (T' := T3) (g' := (mkF m 58 #[.val (.ref ca), .val (.int (0 : Int32)), .val (.int (2 : Int32)), .val (.ref b1), .val (.int (2 : Int32)), .unset] [(.ref b1)])) (fun t k => ?_) ?_
  · show Steps p.tables e below (T3.setTop (mkF m 12 #[.val (.ref ca), .val (.int (0 : Int32)), .val (.int (2 : Int32)), .val (.ref b1), .unset, .unset] [(.int (2 : Int32))])) t
    refine XS.istore X3.here hx rfl (hb hby own_d16_12) rfl (l' := #[.val (.ref ca), .val (.int (0 : Int32)), .val (.int (2 : Int32)), .val (.ref b1), .val (.int (2 : Int32)), .unset]) rfl ?_
    refine XS.iload X3.here hx rfl (hb hby own_d16_14) rfl ?_
    refine XS.iloadN X3.here hx rfl (hb hby own_d16_16) rfl ?_
    refine XS.icmpYes X3.here hx rfl (pc0 := 17) (pc' := 57) rfl (hb hby own_d16_17) rfl (teq (rfl : (2 : Int32) = (2 : Int32))).1 (by decide) (by decide) ?_
    refine XS.aloadN X3.here hx rfl (hb hby own_d16_57) rfl rfl ?_
    exact k
  exact own_retA X3 hx Bd rfl rfl (hb hby own_d16_58) e3 (⟨b1, k1, rfl, N3, K3, g_b1, hz_b1, Vc3⟩) (by decide) (by decide)
def own_r18_2_2 : Room := { frames := 0, cells := 0, slots := 0, locals := 0 }
theorem own_ef18_2_2 (m : MethodId) (x0 : Addr) : entryFrame m #[(.ref x0), (.int (2 : Int32))] 2 = mkF m 0 #[.val (.ref x0), .val (.int (2 : Int32))] [] := by first | (simp [entryFrame, mkF, argsToLocals, Value.category]; done) | rfl
def own_Q18_2_2 (Z : State) (arr : Addr) (ka : ClassId) (x0 x1 : Int32) (cs : Int32) (fm : Value) (h0 : Heap) (n0 : Nat) : Option Value → Heap → List Loc → Prop := fun v h L => v = some (.int (0 : Int32)) ∧ Fr n0 L ∧ h = h0
set_option maxRecDepth 65536 in
set_option maxHeartbeats 40000000 in
theorem own_rm18_2_2 (l : Launch) (Z : State) (a0 : Array Value) (hw : ∀ d ∈ tables_1, d.before a0 Z = true) (ws : List Jvm.Cond) (arr : Addr) (ka : ClassId) (x0 x1 : Int32) (cs : Int32) (fm : Value) (h0 : Heap) (n0 : Nat) (Z0 : n0 ≤ h0.size) (O0 : Old Z n0 h0) (V_a : Arv Z h0 arr ka .byte (2 : Int32) [(.int x0), (.int x1)] (.int (0 : Int32)))  (hcs : ¬ cs = (0 : Int32)) (hfm : fm.isRef = true) (S_cs : Sta Z Z.heap "java/lang/String" "COMPACT_STRINGS" "Z" (.int cs)) (S_fm : Sta Z Z.heap "jdk/internal/util/Preconditions" "SIOOBE_FORMATTER" "Ljava/util/function/BiFunction;" fm) (S_ad : Sta Z Z.heap "java/lang/StringUTF16" "$assertionsDisabled" "Z" (.int (1 : Int32))) (S_hb : Sta Z Z.heap "java/lang/StringUTF16" "HI_BYTE_SHIFT" "I" (.int (0 : Int32))) (S_lb : Sta Z Z.heap "java/lang/StringUTF16" "LO_BYTE_SHIFT" "I" (.int (8 : Int32))) :
    MetFree l (⟨"java/lang/StringUTF16", "coderFromArrayLen", "([BI)B"⟩ : MethodName) (head1 (Jvm.Cond.code (⟨"java/lang/StringUTF16", "coderFromArrayLen", "([BI)B"⟩ : MethodName) jdk_52_method_15_code 2 (some .byte) :: ws) own_r18_2_2) (fun a_ U_ => a_ = #[(.ref arr), (.int (2 : Int32))] ∧ Z.Warmed39 U_.vm ∧ U_.heap = h0) (fun _ _ _ _ _ => True) (fun _ U_ o_ U'_ => ∃ v_ L_, o_ = .returned v_ ∧ own_Q18_2_2 Z arr  ka  x0 x1  cs  fm  h0 n0 v_ U'_.heap L_ ∧ FrameEnd U_ o_ U'_ L_ own_r18_2_2.cells own_r18_2_2.slots) := by
  refine MetFree.of_bodySF (plainFor_of_name own_pn3) hisR ?_
  intro p e s m args below meth c s₁ Bd hml0 hP hK
  obtain ⟨rfl, hZ, hh⟩ := hP
  have hx := Bd.exec
  have hby := Bd.bytes
  have hml : c.maxLocals = 2 := hml0
  have hown : s.vm.findClass "java/lang/StringUTF16" = some m.cls := findClass_of_methodNamed Bd.named
  have hnm := (name_of_methodNamed Bd.named Bd.method).1
  have X0 : Stand p l e own_r18_2_2 s m #[(.ref arr), (.int (2 : Int32))] below meth c s₁ [] 0 0 := Stand.of_body Bd
  have e0 : s₁.heap = h0 := by rw [← hh, Bd.state]; rfl
  have N0 := Fr.nil n0
  refine own_in (own_ef18_2_2 m arr) ?_
  show own_Go p e below (own_K s (own_Q18_2_2 Z arr  ka  x0 x1  cs  fm  h0 n0) own_r18_2_2.cells own_r18_2_2.slots) s₁ (mkF m 0 #[.val (.ref arr), .val (.int (2 : Int32))] [])
  refine own_st (T' := s₁) (g' := (mkF m 2 #[.val (.ref arr), .val (.int (2 : Int32))] [(.ref arr), (.int (2 : Int32))])) (fun t k => ?_) ?_
  · show Steps p.tables e below (s₁.setTop (mkF m 0 #[.val (.ref arr), .val (.int (2 : Int32))] [])) t
    refine XS.iloadN X0.here hx rfl (hb hby own_d18_0) rfl ?_
    refine XS.aloadN X0.here hx rfl (hb hby own_d18_1) rfl rfl ?_
    exact k
  obtain ⟨cl1, Ar1, q1, S1, M1, H1, G1⟩ := id V_a
  refine own_st (T' := s₁) (g' := (mkF m 8 #[.val (.ref arr), .val (.int (2 : Int32))] [(.int (0 : Int32))])) (fun t k => ?_) ?_
  · show Steps p.tables e below (s₁.setTop (mkF m 2 #[.val (.ref arr), .val (.int (2 : Int32))] [(.ref arr), (.int (2 : Int32))])) t
    refine X0.arraylength hx (by rw [e0]; exact Ar1.1) (State.isArrayOf_alike hZ.alike Ar1.2.1) (g := (mkF m 2 #[.val (.ref arr), .val (.int (2 : Int32))] [(.ref arr), (.int (2 : Int32))])) rfl rfl (hb hby own_d18_2) _ ?_
    rw [len_of S1 M1]
    show Steps p.tables e below (s₁.setTop (mkF m 3 #[.val (.ref arr), .val (.int (2 : Int32))] [(.int (2 : Int32)), (.int (2 : Int32))])) t
    refine XS.isub X0.here hx rfl (hb hby own_d18_3) rfl ?_
    refine XS.bipush X0.here hx rfl (hb hby own_d18_4) ?_
    refine XS.iushr X0.here hx rfl (hb hby own_d18_6) rfl ?_
    refine XS.i2b X0.here hx rfl (hb hby own_d18_7) rfl ?_
    exact k
  exact own_retN X0 hx Bd (t := .byte) (by simp) rfl (hb hby own_d18_8) e0 (⟨rfl, N0, rfl⟩) (by decide) (by decide)
def own_r18_4_2 : Room := { frames := 0, cells := 0, slots := 0, locals := 0 }
theorem own_ef18_4_2 (m : MethodId) (x0 : Addr) : entryFrame m #[(.ref x0), (.int (2 : Int32))] 2 = mkF m 0 #[.val (.ref x0), .val (.int (2 : Int32))] [] := by first | (simp [entryFrame, mkF, argsToLocals, Value.category]; done) | rfl
def own_Q18_4_2 (Z : State) (arr : Addr) (ka : ClassId) (x0 x1 x2 x3 : Int32) (cs : Int32) (fm : Value) (h0 : Heap) (n0 : Nat) : Option Value → Heap → List Loc → Prop := fun v h L => v = some (.int (1 : Int32)) ∧ Fr n0 L ∧ h = h0
set_option maxRecDepth 65536 in
set_option maxHeartbeats 40000000 in
theorem own_rm18_4_2 (l : Launch) (Z : State) (a0 : Array Value) (hw : ∀ d ∈ tables_1, d.before a0 Z = true) (ws : List Jvm.Cond) (arr : Addr) (ka : ClassId) (x0 x1 x2 x3 : Int32) (cs : Int32) (fm : Value) (h0 : Heap) (n0 : Nat) (Z0 : n0 ≤ h0.size) (O0 : Old Z n0 h0) (V_a : Arv Z h0 arr ka .byte (4 : Int32) [(.int x0), (.int x1), (.int x2), (.int x3)] (.int (0 : Int32)))  (hcs : ¬ cs = (0 : Int32)) (hfm : fm.isRef = true) (S_cs : Sta Z Z.heap "java/lang/String" "COMPACT_STRINGS" "Z" (.int cs)) (S_fm : Sta Z Z.heap "jdk/internal/util/Preconditions" "SIOOBE_FORMATTER" "Ljava/util/function/BiFunction;" fm) (S_ad : Sta Z Z.heap "java/lang/StringUTF16" "$assertionsDisabled" "Z" (.int (1 : Int32))) (S_hb : Sta Z Z.heap "java/lang/StringUTF16" "HI_BYTE_SHIFT" "I" (.int (0 : Int32))) (S_lb : Sta Z Z.heap "java/lang/StringUTF16" "LO_BYTE_SHIFT" "I" (.int (8 : Int32))) :
    MetFree l (⟨"java/lang/StringUTF16", "coderFromArrayLen", "([BI)B"⟩ : MethodName) (head1 (Jvm.Cond.code (⟨"java/lang/StringUTF16", "coderFromArrayLen", "([BI)B"⟩ : MethodName) jdk_52_method_15_code 2 (some .byte) :: ws) own_r18_4_2) (fun a_ U_ => a_ = #[(.ref arr), (.int (2 : Int32))] ∧ Z.Warmed39 U_.vm ∧ U_.heap = h0) (fun _ _ _ _ _ => True) (fun _ U_ o_ U'_ => ∃ v_ L_, o_ = .returned v_ ∧ own_Q18_4_2 Z arr  ka  x0 x1 x2 x3  cs  fm  h0 n0 v_ U'_.heap L_ ∧ FrameEnd U_ o_ U'_ L_ own_r18_4_2.cells own_r18_4_2.slots) := by
  refine MetFree.of_bodySF (plainFor_of_name own_pn3) hisR ?_
  intro p e s m args below meth c s₁ Bd hml0 hP hK
  obtain ⟨rfl, hZ, hh⟩ := hP
  have hx := Bd.exec
  have hby := Bd.bytes
  have hml : c.maxLocals = 2 := hml0
  have hown : s.vm.findClass "java/lang/StringUTF16" = some m.cls := findClass_of_methodNamed Bd.named
  have hnm := (name_of_methodNamed Bd.named Bd.method).1
  have X0 : Stand p l e own_r18_4_2 s m #[(.ref arr), (.int (2 : Int32))] below meth c s₁ [] 0 0 := Stand.of_body Bd
  have e0 : s₁.heap = h0 := by rw [← hh, Bd.state]; rfl
  have N0 := Fr.nil n0
  refine own_in (own_ef18_4_2 m arr) ?_
  show own_Go p e below (own_K s (own_Q18_4_2 Z arr  ka  x0 x1 x2 x3  cs  fm  h0 n0) own_r18_4_2.cells own_r18_4_2.slots) s₁ (mkF m 0 #[.val (.ref arr), .val (.int (2 : Int32))] [])
  refine own_st (T' := s₁) (g' := (mkF m 2 #[.val (.ref arr), .val (.int (2 : Int32))] [(.ref arr), (.int (2 : Int32))])) (fun t k => ?_) ?_
  · show Steps p.tables e below (s₁.setTop (mkF m 0 #[.val (.ref arr), .val (.int (2 : Int32))] [])) t
    refine XS.iloadN X0.here hx rfl (hb hby own_d18_0) rfl ?_
    refine XS.aloadN X0.here hx rfl (hb hby own_d18_1) rfl rfl ?_
    exact k
  obtain ⟨cl1, Ar1, q1, S1, M1, H1, G1⟩ := id V_a
  refine own_st (T' := s₁) (g' := (mkF m 8 #[.val (.ref arr), .val (.int (2 : Int32))] [(.int (1 : Int32))])) (fun t k => ?_) ?_
  · show Steps p.tables e below (s₁.setTop (mkF m 2 #[.val (.ref arr), .val (.int (2 : Int32))] [(.ref arr), (.int (2 : Int32))])) t
    refine X0.arraylength hx (by rw [e0]; exact Ar1.1) (State.isArrayOf_alike hZ.alike Ar1.2.1) (g := (mkF m 2 #[.val (.ref arr), .val (.int (2 : Int32))] [(.ref arr), (.int (2 : Int32))])) rfl rfl (hb hby own_d18_2) _ ?_
    rw [len_of S1 M1]
    show Steps p.tables e below (s₁.setTop (mkF m 3 #[.val (.ref arr), .val (.int (2 : Int32))] [(.int (4 : Int32)), (.int (2 : Int32))])) t
    refine XS.isub X0.here hx rfl (hb hby own_d18_3) rfl ?_
    refine XS.bipush X0.here hx rfl (hb hby own_d18_4) ?_
    refine XS.iushr X0.here hx rfl (hb hby own_d18_6) rfl ?_
    refine XS.i2b X0.here hx rfl (hb hby own_d18_7) rfl ?_
    exact k
  exact own_retN X0 hx Bd (t := .byte) (by simp) rfl (hb hby own_d18_8) e0 (⟨rfl, N0, rfl⟩) (by decide) (by decide)
def own_r15a : Room := { frames := 4, cells := 2, slots := 6, locals := 57 }
theorem own_ef15a (m : MethodId) (x0 : Addr) (x1 : Addr) : entryFrame m #[(.ref x0), (.ref x1), (.int (0 : Int32)), (.int (2 : Int32)), .null] 6 = mkF m 0 #[.val (.ref x0), .val (.ref x1), .val (.int (0 : Int32)), .val (.int (2 : Int32)), .val .null, .unset] [] := by first | (simp [entryFrame, mkF, argsToLocals, Value.category]; done) | rfl
def own_Q15a (Z : State) (b : Addr) (ca : Addr) (kc : ClassId) (c0 c1 : Int32) (cs : Int32) (fm : Value) (h0 : Heap) (n0 : Nat) : Option Value → Heap → List Loc → Prop := fun v h L => ∃ t k, v = none ∧ Fr n0 L ∧ Keep h0 h [b] ∧ n0 ≤ t ∧ h0.size ≤ t ∧ Fld Z h b "java/lang/String" "value" "[B" (.ref t) ∧ Fld Z h b "java/lang/String" "coder" "B" (.int (1 : Int32)) ∧ Arv Z h t k .byte (4 : Int32) [(.int ((c0 >>> ((0 : Int32) &&& 31)).toInt8.toInt32)), (.int ((c0 >>> ((8 : Int32) &&& 31)).toInt8.toInt32)), (.int ((c1 >>> ((0 : Int32) &&& 31)).toInt8.toInt32)), (.int ((c1 >>> ((8 : Int32) &&& 31)).toInt8.toInt32))] (.int (0 : Int32))
set_option maxRecDepth 65536 in
set_option maxHeartbeats 40000000 in
theorem own_rm15a (l : Launch) (Z : State) (a0 : Array Value) (hw : ∀ d ∈ tables_1, d.before a0 Z = true) (ws : List Jvm.Cond) (b : Addr) (ca : Addr) (kc : ClassId) (c0 c1 : Int32) (cs : Int32) (fm : Value) (h0 : Heap) (n0 : Nat) (Z0 : n0 ≤ h0.size) (O0 : Old Z n0 h0) (E_b : Exa Z h0 b "java/lang/String") (F_v : Fld Z h0 b "java/lang/String" "value" "[B" .null) (F_c : Fld Z h0 b "java/lang/String" "coder" "B" (.int (0 : Int32))) (g_b : n0 ≤ b) (V_c : Arv Z h0 ca kc .char (2 : Int32) [(.int c0), (.int c1)] (.int (0 : Int32))) (nbc : b ≠ ca) (h0c : (255 : Int32) < c0) (rg0 : own_u16 c0) (rg1 : own_u16 c1) (hcs : ¬ cs = (0 : Int32)) (hfm : fm.isRef = true) (S_cs : Sta Z Z.heap "java/lang/String" "COMPACT_STRINGS" "Z" (.int cs)) (S_fm : Sta Z Z.heap "jdk/internal/util/Preconditions" "SIOOBE_FORMATTER" "Ljava/util/function/BiFunction;" fm) (S_ad : Sta Z Z.heap "java/lang/StringUTF16" "$assertionsDisabled" "Z" (.int (1 : Int32))) (S_hb : Sta Z Z.heap "java/lang/StringUTF16" "HI_BYTE_SHIFT" "I" (.int (0 : Int32))) (S_lb : Sta Z Z.heap "java/lang/StringUTF16" "LO_BYTE_SHIFT" "I" (.int (8 : Int32))) :
    MetFree l (⟨"java/lang/String", "<init>", "([CIILjava/lang/Void;)V"⟩ : MethodName) (head1 (Jvm.Cond.code (⟨"java/lang/String", "<init>", "([CIILjava/lang/Void;)V"⟩ : MethodName) jdk_42_method_149_code 6 none :: ws) own_r15a) (fun a_ U_ => a_ = #[(.ref b), (.ref ca), (.int (0 : Int32)), (.int (2 : Int32)), .null] ∧ Z.Warmed39 U_.vm ∧ U_.heap = h0) (fun _ _ _ _ _ => True) (fun _ U_ o_ U'_ => ∃ v_ L_, o_ = .returned v_ ∧ own_Q15a Z b  ca  kc  c0 c1  cs  fm  h0 n0 v_ U'_.heap L_ ∧ FrameEnd U_ o_ U'_ L_ own_r15a.cells own_r15a.slots) := by
  refine MetFree.of_bodySF (plainFor_of_name own_pn1) hisR ?_
  intro p e s m args below meth c s₁ Bd hml0 hP hK
  obtain ⟨rfl, hZ, hh⟩ := hP
  have hx := Bd.exec
  have hby := Bd.bytes
  have hml : c.maxLocals = 6 := hml0
  have hown : s.vm.findClass "java/lang/String" = some m.cls := findClass_of_methodNamed Bd.named
  have hnm := (name_of_methodNamed Bd.named Bd.method).1
  have X0 : Stand p l e own_r15a s m #[(.ref b), (.ref ca), (.int (0 : Int32)), (.int (2 : Int32)), .null] below meth c s₁ [] 0 0 := Stand.of_body Bd
  have e0 : s₁.heap = h0 := by rw [← hh, Bd.state]; rfl
  have N0 := Fr.nil n0
  refine own_in (own_ef15a m b ca) ?_
  show own_Go p e below (own_K s (own_Q15a Z b  ca  kc  c0 c1  cs  fm  h0 n0) own_r15a.cells own_r15a.slots) s₁ (mkF m 0 #[.val (.ref b), .val (.ref ca), .val (.int (0 : Int32)), .val (.int (2 : Int32)), .val .null, .unset] [])
  refine own_st (T' := s₁) (g' := (mkF m 1 #[.val (.ref b), .val (.ref ca), .val (.int (0 : Int32)), .val (.int (2 : Int32)), .val .null, .unset] [(.ref b)])) (fun t k => ?_) ?_
  · show Steps p.tables e below (s₁.setTop (mkF m 0 #[.val (.ref b), .val (.ref ca), .val (.int (0 : Int32)), .val (.int (2 : Int32)), .val .null, .unset] [])) t
    refine XS.aloadN X0.here hx rfl (hb hby own_d15_0) rfl rfl ?_
    exact k
  obtain ⟨T1, X1, e1, st1⟩ := initO X0 hx hZ hown (hw _ (List.mem_of_getElem? (i := 20) rfl)) (hw _ (List.mem_of_getElem? (i := 21) rfl)) (hw _ (List.mem_of_getElem? (i := 22) rfl)) e0 (g := (mkF m 1 #[.val (.ref b), .val (.ref ca), .val (.int (0 : Int32)), .val (.int (2 : Int32)), .val .null, .unset] [(.ref b)])) rfl (by rw [hml]; rfl) rfl (hb hby own_d15_1) (by decide) (W := 0) (by show 2 * 0 + _ ≤ _; exact Nat.le_of_eq rfl) (by decide)
  refine own_st (T' := T1) (g' := (mkF m 4 #[.val (.ref b), .val (.ref ca), .val (.int (0 : Int32)), .val (.int (2 : Int32)), .val .null, .unset] [])) st1 ?_
  refine own_st (T' := T1) (g' := (mkF m 27 #[.val (.ref b), .val (.ref ca), .val (.int (0 : Int32)), .val (.int (2 : Int32)), .val .null, .unset] [])) (fun t k => ?_) ?_
  · show Steps p.tables e below (T1.setTop (mkF m 4 #[.val (.ref b), .val (.ref ca), .val (.int (0 : Int32)), .val (.int (2 : Int32)), .val .null, .unset] [])) t
    refine XS.iloadN X1.here hx rfl (hb hby own_d15_4) rfl ?_
    refine XS.ifYes X1.here hx rfl (pc0 := 5) (pc' := 27) rfl (hb hby own_d15_5) rfl ((if0 _ _).trans (feq (by decide : ¬ ((2 : Int32) = (0 : Int32)))).2) (by decide) (by decide) ?_
    exact k
  have f2 := S_cs.ext O0.2
  obtain ⟨T3, X3, e3, st3⟩ := getS2 X1 hx hZ hown (host := "") (Or.inl (hw _ (List.mem_of_getElem? (i := 5) rfl))) Via.refl e1 f2 (g := (mkF m 27 #[.val (.ref b), .val (.ref ca), .val (.int (0 : Int32)), .val (.int (2 : Int32)), .val .null, .unset] [])) rfl (hb hby own_d15_27)
  refine own_st (T' := T3) (g' := (mkF m 30 #[.val (.ref b), .val (.ref ca), .val (.int (0 : Int32)), .val (.int (2 : Int32)), .val .null, .unset] [(.int cs)])) st3 ?_
  refine own_st (T' := T3) (g' := (mkF m 36 #[.val (.ref b), .val (.ref ca), .val (.int (0 : Int32)), .val (.int (2 : Int32)), .val .null, .unset] [(.int (2 : Int32)), (.int (0 : Int32)), (.ref ca)])) (fun t k => ?_) ?_
  · show Steps p.tables e below (T3.setTop (mkF m 30 #[.val (.ref b), .val (.ref ca), .val (.int (0 : Int32)), .val (.int (2 : Int32)), .val .null, .unset] [(.int cs)])) t
    refine XS.ifNo X3.here hx rfl (hb hby own_d15_30) rfl ((if0 _ _).trans (feq hcs).1) ?_
    refine XS.aloadN X3.here hx rfl (hb hby own_d15_33) rfl rfl ?_
    refine XS.iloadN X3.here hx rfl (hb hby own_d15_34) rfl ?_
    refine XS.iloadN X3.here hx rfl (hb hby own_d15_35) rfl ?_
    exact k
  obtain ⟨_, _, ⟨T4, L4, c4, n4⟩, -, X4, ⟨Lc4, hQ4, l4, y4, z4⟩, st4⟩ := Jvm.LawKit.callS X3 hx (y := (⟨"java/lang/StringUTF16", "compress", "([CII)[B"⟩ : MethodName)) hown (mvT hZ (hw _ (List.mem_of_getElem? (i := 79) rfl))) (mvT hZ (hw _ (List.mem_of_getElem? (i := 80) rfl))) (mvT hZ (hw _ (List.mem_of_getElem? (i := 81) rfl))) (mvT hZ (hw _ (List.mem_of_getElem? (i := 82) rfl))) (by decide) (backOf (W := 0) (own_rm16a l Z a0 hw [] ca kc c0 c1 cs fm h0 n0 Z0 O0 V_c h0c rg0 rg1 hcs hfm S_cs S_fm S_ad S_hb S_lb) hZ (hw _ (List.mem_of_getElem? (i := 82) rfl)) (hw _ (List.mem_of_getElem? (i := 81) rfl)) (by decide) (by decide)) (g := (mkF m 36 #[.val (.ref b), .val (.ref ca), .val (.int (0 : Int32)), .val (.int (2 : Int32)), .val .null, .unset] [(.int (2 : Int32)), (.int (0 : Int32)), (.ref ca)])) rfl (by rw [hml]; rfl) (argsL := [(.ref ca), (.int (0 : Int32)), (.int (2 : Int32))]) (rest := []) (lenOf own_pd10 rfl) rfl (by show 2 * 0 + _ ≤ _; exact Nat.le_of_eq rfl) (hb hby own_d15_36) (fun _ _ => ⟨rfl, e3, (by decide : 0 + 2 ≤ _), (by decide : 0 + 6 ≤ _)⟩)
  dsimp only [Pt.U, Pt.locs, Pt.cells, Pt.slots] at X4 l4 y4 z4 st4 hQ4
  subst l4 y4 z4
  obtain ⟨h4, e4⟩ : ∃ z, T4.heap = z := ⟨_, rfl⟩
  rw [e4] at hQ4
  obtain ⟨r4, k4, rfl, N4q, Kc4, g4, hz4, Vc4⟩ := hQ4
  have N4 := Fr.app N0 N4q
  have ne_b_r4 : b ≠ r4 := Nat.ne_of_lt (Nat.lt_of_lt_of_le E_b.lt hz4)
  have ne_ca_r4 : ca ≠ r4 := Nat.ne_of_lt (Nat.lt_of_lt_of_le V_c.lt hz4)
  have hwr4 : h0.size ≤ r4 := Nat.le_trans (Keep.refl h0 [b]).1 hz4
  have K4 : Keep h0 h4 [b] := (Keep.refl h0 [b]).trans Kc4 all0
  have Z4 : n0 ≤ h4.size := Nat.le_trans Z0 Kc4.1
  have O4 := O0.keep Kc4 all0
  refine own_st (T' := T4) (g' := (mkF m 39 #[.val (.ref b), .val (.ref ca), .val (.int (0 : Int32)), .val (.int (2 : Int32)), .val .null, .unset] [(.ref r4)])) st4 ?_
  refine own_st (T' := T4) (g' := (mkF m 45 #[.val (.ref b), .val (.ref ca), .val (.int (0 : Int32)), .val (.int (2 : Int32)), .val .null, .val (.ref r4)] [(.int (2 : Int32)), (.ref r4), (.ref b)])) (fun t k => ?_) ?_
  · show Steps p.tables e below (T4.setTop (mkF m 39 #[.val (.ref b), .val (.ref ca), .val (.int (0 : Int32)), .val (.int (2 : Int32)), .val .null, .unset] [(.ref r4)])) t
    refine XS.astore X4.here hx rfl (hb hby own_d15_39) rfl rfl (l' := #[.val (.ref b), .val (.ref ca), .val (.int (0 : Int32)), .val (.int (2 : Int32)), .val .null, .val (.ref r4)]) rfl ?_
    refine XS.aloadN X4.here hx rfl (hb hby own_d15_41) rfl rfl ?_
    refine XS.aload X4.here hx rfl (hb hby own_d15_42) rfl rfl ?_
    refine XS.iloadN X4.here hx rfl (hb hby own_d15_44) rfl ?_
    exact k
  obtain ⟨_, _, ⟨T5, L5, c5, n5⟩, -, X5, ⟨Lc5, hQ5, l5, y5, z5⟩, st5⟩ := Jvm.LawKit.callS X4 hx (y := (⟨"java/lang/StringUTF16", "coderFromArrayLen", "([BI)B"⟩ : MethodName)) hown (mvT hZ (hw _ (List.mem_of_getElem? (i := 86) rfl))) (mvT hZ (hw _ (List.mem_of_getElem? (i := 87) rfl))) (mvT hZ (hw _ (List.mem_of_getElem? (i := 81) rfl))) (mvT hZ (hw _ (List.mem_of_getElem? (i := 88) rfl))) (by decide) (backOf (W := 1) (own_rm18_4_2 l Z a0 hw [] r4 k4 ((c0 >>> ((0 : Int32) &&& 31)).toInt8.toInt32) ((c0 >>> ((8 : Int32) &&& 31)).toInt8.toInt32) ((c1 >>> ((0 : Int32) &&& 31)).toInt8.toInt32) ((c1 >>> ((8 : Int32) &&& 31)).toInt8.toInt32) cs fm h4 n0 Z4 O4 Vc4 hcs hfm S_cs S_fm S_ad S_hb S_lb) hZ (hw _ (List.mem_of_getElem? (i := 88) rfl)) (hw _ (List.mem_of_getElem? (i := 81) rfl)) (by decide) (by decide)) (g := (mkF m 45 #[.val (.ref b), .val (.ref ca), .val (.int (0 : Int32)), .val (.int (2 : Int32)), .val .null, .val (.ref r4)] [(.int (2 : Int32)), (.ref r4), (.ref b)])) rfl (by rw [hml]; rfl) (argsL := [(.ref r4), (.int (2 : Int32))]) (rest := [(.ref b)]) (lenOf own_pd11 rfl) rfl (by show 2 * 0 + _ ≤ _; exact Nat.le_of_eq rfl) (hb hby own_d15_45) (fun _ _ => ⟨rfl, e4, (by decide : 2 + 0 ≤ _), (by decide : 6 + 0 ≤ _)⟩)
  dsimp only [Pt.U, Pt.locs, Pt.cells, Pt.slots] at X5 l5 y5 z5 st5 hQ5
  subst l5 y5 z5
  obtain ⟨rfl, N5q, e5⟩ := hQ5
  have N5 := Fr.app N4 N5q
  refine own_st (T' := T5) (g' := (mkF m 48 #[.val (.ref b), .val (.ref ca), .val (.int (0 : Int32)), .val (.int (2 : Int32)), .val .null, .val (.ref r4)] [(.int (1 : Int32)), (.ref b)])) st5 ?_
  have f6 := F_c.keep Kc4 nin0
  have f7 := E_b.keep Kc4
  obtain ⟨T8, h8, X8, e8, W8, st8⟩ := putFN X5 hx hZ hown (hw _ (List.mem_of_getElem? (i := 25) rfl)) Via.refl e5 f6 f7 (Or.inr ⟨(hw _ (List.mem_of_getElem? (i := 26) rfl)), rfl, hnm⟩) (hw _ (List.mem_of_getElem? (i := 11) rfl)) (ty := .byte) (v' := (.int (1 : Int32))) (by decide) rfl rfl (g := (mkF m 48 #[.val (.ref b), .val (.ref ca), .val (.int (0 : Int32)), .val (.int (2 : Int32)), .val .null, .val (.ref r4)] [(.int (1 : Int32)), (.ref b)])) rfl rfl (hb hby own_d15_48)
  have N8 := Fr.snoc X8 N5 g_b
  have K8 : Keep h0 h8 [b] := K4.wr W8 (Or.inl (List.mem_of_getElem? (i := 0) rfl))
  have Z8 : n0 ≤ h8.size := Nat.le_trans Z4 (Keep.of_wr W8).1
  have O8 := O4.wr W8 g_b
  have fw8 := (f6.same W8)
  refine own_st (T' := T8) (g' := (mkF m 51 #[.val (.ref b), .val (.ref ca), .val (.int (0 : Int32)), .val (.int (2 : Int32)), .val .null, .val (.ref r4)] [])) st8 ?_
  refine own_st (T' := T8) (g' := (mkF m 54 #[.val (.ref b), .val (.ref ca), .val (.int (0 : Int32)), .val (.int (2 : Int32)), .val .null, .val (.ref r4)] [(.ref r4), (.ref b)])) (fun t k => ?_) ?_
  · show Steps p.tables e below (T8.setTop (mkF m 51 #[.val (.ref b), .val (.ref ca), .val (.int (0 : Int32)), .val (.int (2 : Int32)), .val .null, .val (.ref r4)] [])) t
    refine XS.aloadN X8.here hx rfl (hb hby own_d15_51) rfl rfl ?_
    refine XS.aload X8.here hx rfl (hb hby own_d15_52) rfl rfl ?_
    exact k
  have f9 := (F_v.keep Kc4 nin0).other W8 (Or.inr (slot_ne (Or.inr (hw _ (List.mem_of_getElem? (i := 24) rfl))) (Or.inr (hw _ (List.mem_of_getElem? (i := 26) rfl))) (by decide) (t := (.array .byte)) (t' := .byte) (by decide) (by decide)))
  have f10 := f7.wr W8
  obtain ⟨T11, h11, X11, e11, W11, st11⟩ := putF X8 hx hZ hown (host := "") (Or.inl (hw _ (List.mem_of_getElem? (i := 23) rfl))) Via.refl e8 f9 f10 (Or.inr ⟨(hw _ (List.mem_of_getElem? (i := 24) rfl)), rfl, hnm⟩) (hw _ (List.mem_of_getElem? (i := 11) rfl)) (ty := (.array .byte)) (by decide) rfl rfl (g := (mkF m 54 #[.val (.ref b), .val (.ref ca), .val (.int (0 : Int32)), .val (.int (2 : Int32)), .val .null, .val (.ref r4)] [(.ref r4), (.ref b)])) rfl rfl (hb hby own_d15_54)
  have N11 := Fr.snoc X11 N8 g_b
  have K11 : Keep h0 h11 [b] := K8.wr W11 (Or.inl (List.mem_of_getElem? (i := 0) rfl))
  have Z11 : n0 ≤ h11.size := Nat.le_trans Z8 (Keep.of_wr W11).1
  have O11 := O8.wr W11 g_b
  have fw11 := (f9.same W11)
  refine own_st (T' := T11) (g' := (mkF m 57 #[.val (.ref b), .val (.ref ca), .val (.int (0 : Int32)), .val (.int (2 : Int32)), .val .null, .val (.ref r4)] [])) st11 ?_
  have f12 := fw8.other W11 (Or.inr (slot_ne (Or.inr (hw _ (List.mem_of_getElem? (i := 26) rfl))) (Or.inr (hw _ (List.mem_of_getElem? (i := 24) rfl))) (by decide) (t := .byte) (t' := (.array .byte)) (by decide) (by decide)))
  have f13 := (Vc4.other W8 (Ne.symm ne_b_r4)).other W11 (Ne.symm ne_b_r4)
  exact own_retV X11 hx Bd (hb hby own_d15_57) e11 (⟨r4, k4, rfl, N11, K11, g4, hwr4, fw11, f12, f13⟩) (by decide) (by decide)
def own_r15b : Room := { frames := 4, cells := 2, slots := 6, locals := 57 }
theorem own_ef15b (m : MethodId) (x0 : Addr) (x1 : Addr) : entryFrame m #[(.ref x0), (.ref x1), (.int (0 : Int32)), (.int (2 : Int32)), .null] 6 = mkF m 0 #[.val (.ref x0), .val (.ref x1), .val (.int (0 : Int32)), .val (.int (2 : Int32)), .val .null, .unset] [] := by first | (simp [entryFrame, mkF, argsToLocals, Value.category]; done) | rfl
def own_Q15b (Z : State) (b : Addr) (ca : Addr) (kc : ClassId) (c0 c1 : Int32) (cs : Int32) (fm : Value) (h0 : Heap) (n0 : Nat) : Option Value → Heap → List Loc → Prop := fun v h L => ∃ t k, v = none ∧ Fr n0 L ∧ Keep h0 h [b] ∧ n0 ≤ t ∧ h0.size ≤ t ∧ Fld Z h b "java/lang/String" "value" "[B" (.ref t) ∧ Fld Z h b "java/lang/String" "coder" "B" (.int (1 : Int32)) ∧ Arv Z h t k .byte (4 : Int32) [(.int ((c0 >>> ((0 : Int32) &&& 31)).toInt8.toInt32)), (.int ((c0 >>> ((8 : Int32) &&& 31)).toInt8.toInt32)), (.int ((c1 >>> ((0 : Int32) &&& 31)).toInt8.toInt32)), (.int ((c1 >>> ((8 : Int32) &&& 31)).toInt8.toInt32))] (.int (0 : Int32))
set_option maxRecDepth 65536 in
set_option maxHeartbeats 40000000 in
theorem own_rm15b (l : Launch) (Z : State) (a0 : Array Value) (hw : ∀ d ∈ tables_1, d.before a0 Z = true) (ws : List Jvm.Cond) (b : Addr) (ca : Addr) (kc : ClassId) (c0 c1 : Int32) (cs : Int32) (fm : Value) (h0 : Heap) (n0 : Nat) (Z0 : n0 ≤ h0.size) (O0 : Old Z n0 h0) (E_b : Exa Z h0 b "java/lang/String") (F_v : Fld Z h0 b "java/lang/String" "value" "[B" .null) (F_c : Fld Z h0 b "java/lang/String" "coder" "B" (.int (0 : Int32))) (g_b : n0 ≤ b) (V_c : Arv Z h0 ca kc .char (2 : Int32) [(.int c0), (.int c1)] (.int (0 : Int32))) (nbc : b ≠ ca) (h0c : ¬ (255 : Int32) < c0) (h1c : (255 : Int32) < c1) (rg0 : own_u16 c0) (rg1 : own_u16 c1) (hcs : ¬ cs = (0 : Int32)) (hfm : fm.isRef = true) (S_cs : Sta Z Z.heap "java/lang/String" "COMPACT_STRINGS" "Z" (.int cs)) (S_fm : Sta Z Z.heap "jdk/internal/util/Preconditions" "SIOOBE_FORMATTER" "Ljava/util/function/BiFunction;" fm) (S_ad : Sta Z Z.heap "java/lang/StringUTF16" "$assertionsDisabled" "Z" (.int (1 : Int32))) (S_hb : Sta Z Z.heap "java/lang/StringUTF16" "HI_BYTE_SHIFT" "I" (.int (0 : Int32))) (S_lb : Sta Z Z.heap "java/lang/StringUTF16" "LO_BYTE_SHIFT" "I" (.int (8 : Int32))) :
    MetFree l (⟨"java/lang/String", "<init>", "([CIILjava/lang/Void;)V"⟩ : MethodName) (head1 (Jvm.Cond.code (⟨"java/lang/String", "<init>", "([CIILjava/lang/Void;)V"⟩ : MethodName) jdk_42_method_149_code 6 none :: ws) own_r15b) (fun a_ U_ => a_ = #[(.ref b), (.ref ca), (.int (0 : Int32)), (.int (2 : Int32)), .null] ∧ Z.Warmed39 U_.vm ∧ U_.heap = h0) (fun _ _ _ _ _ => True) (fun _ U_ o_ U'_ => ∃ v_ L_, o_ = .returned v_ ∧ own_Q15b Z b  ca  kc  c0 c1  cs  fm  h0 n0 v_ U'_.heap L_ ∧ FrameEnd U_ o_ U'_ L_ own_r15b.cells own_r15b.slots) := by
  refine MetFree.of_bodySF (plainFor_of_name own_pn1) hisR ?_
  intro p e s m args below meth c s₁ Bd hml0 hP hK
  obtain ⟨rfl, hZ, hh⟩ := hP
  have hx := Bd.exec
  have hby := Bd.bytes
  have hml : c.maxLocals = 6 := hml0
  have hown : s.vm.findClass "java/lang/String" = some m.cls := findClass_of_methodNamed Bd.named
  have hnm := (name_of_methodNamed Bd.named Bd.method).1
  have X0 : Stand p l e own_r15b s m #[(.ref b), (.ref ca), (.int (0 : Int32)), (.int (2 : Int32)), .null] below meth c s₁ [] 0 0 := Stand.of_body Bd
  have e0 : s₁.heap = h0 := by rw [← hh, Bd.state]; rfl
  have N0 := Fr.nil n0
  refine own_in (own_ef15b m b ca) ?_
  show own_Go p e below (own_K s (own_Q15b Z b  ca  kc  c0 c1  cs  fm  h0 n0) own_r15b.cells own_r15b.slots) s₁ (mkF m 0 #[.val (.ref b), .val (.ref ca), .val (.int (0 : Int32)), .val (.int (2 : Int32)), .val .null, .unset] [])
  refine own_st (T' := s₁) (g' := (mkF m 1 #[.val (.ref b), .val (.ref ca), .val (.int (0 : Int32)), .val (.int (2 : Int32)), .val .null, .unset] [(.ref b)])) (fun t k => ?_) ?_
  · show Steps p.tables e below (s₁.setTop (mkF m 0 #[.val (.ref b), .val (.ref ca), .val (.int (0 : Int32)), .val (.int (2 : Int32)), .val .null, .unset] [])) t
    refine XS.aloadN X0.here hx rfl (hb hby own_d15_0) rfl rfl ?_
    exact k
  obtain ⟨T1, X1, e1, st1⟩ := initO X0 hx hZ hown (hw _ (List.mem_of_getElem? (i := 20) rfl)) (hw _ (List.mem_of_getElem? (i := 21) rfl)) (hw _ (List.mem_of_getElem? (i := 22) rfl)) e0 (g := (mkF m 1 #[.val (.ref b), .val (.ref ca), .val (.int (0 : Int32)), .val (.int (2 : Int32)), .val .null, .unset] [(.ref b)])) rfl (by rw [hml]; rfl) rfl (hb hby own_d15_1) (by decide) (W := 0) (by show 2 * 0 + _ ≤ _; exact Nat.le_of_eq rfl) (by decide)
  refine own_st (T' := T1) (g' := (mkF m 4 #[.val (.ref b), .val (.ref ca), .val (.int (0 : Int32)), .val (.int (2 : Int32)), .val .null, .unset] [])) st1 ?_
  refine own_st (T' := T1) (g' := (mkF m 27 #[.val (.ref b), .val (.ref ca), .val (.int (0 : Int32)), .val (.int (2 : Int32)), .val .null, .unset] [])) (fun t k => ?_) ?_
  · show Steps p.tables e below (T1.setTop (mkF m 4 #[.val (.ref b), .val (.ref ca), .val (.int (0 : Int32)), .val (.int (2 : Int32)), .val .null, .unset] [])) t
    refine XS.iloadN X1.here hx rfl (hb hby own_d15_4) rfl ?_
    refine XS.ifYes X1.here hx rfl (pc0 := 5) (pc' := 27) rfl (hb hby own_d15_5) rfl ((if0 _ _).trans (feq (by decide : ¬ ((2 : Int32) = (0 : Int32)))).2) (by decide) (by decide) ?_
    exact k
  have f2 := S_cs.ext O0.2
  obtain ⟨T3, X3, e3, st3⟩ := getS2 X1 hx hZ hown (host := "") (Or.inl (hw _ (List.mem_of_getElem? (i := 5) rfl))) Via.refl e1 f2 (g := (mkF m 27 #[.val (.ref b), .val (.ref ca), .val (.int (0 : Int32)), .val (.int (2 : Int32)), .val .null, .unset] [])) rfl (hb hby own_d15_27)
  refine own_st (T' := T3) (g' := (mkF m 30 #[.val (.ref b), .val (.ref ca), .val (.int (0 : Int32)), .val (.int (2 : Int32)), .val .null, .unset] [(.int cs)])) st3 ?_
  refine own_st (T' := T3) (g' := (mkF m 36 #[.val (.ref b), .val (.ref ca), .val (.int (0 : Int32)), .val (.int (2 : Int32)), .val .null, .unset] [(.int (2 : Int32)), (.int (0 : Int32)), (.ref ca)])) (fun t k => ?_) ?_
  · show Steps p.tables e below (T3.setTop (mkF m 30 #[.val (.ref b), .val (.ref ca), .val (.int (0 : Int32)), .val (.int (2 : Int32)), .val .null, .unset] [(.int cs)])) t
    refine XS.ifNo X3.here hx rfl (hb hby own_d15_30) rfl ((if0 _ _).trans (feq hcs).1) ?_
    refine XS.aloadN X3.here hx rfl (hb hby own_d15_33) rfl rfl ?_
    refine XS.iloadN X3.here hx rfl (hb hby own_d15_34) rfl ?_
    refine XS.iloadN X3.here hx rfl (hb hby own_d15_35) rfl ?_
    exact k
  obtain ⟨_, _, ⟨T4, L4, c4, n4⟩, -, X4, ⟨Lc4, hQ4, l4, y4, z4⟩, st4⟩ := Jvm.LawKit.callS X3 hx (y := (⟨"java/lang/StringUTF16", "compress", "([CII)[B"⟩ : MethodName)) hown (mvT hZ (hw _ (List.mem_of_getElem? (i := 79) rfl))) (mvT hZ (hw _ (List.mem_of_getElem? (i := 80) rfl))) (mvT hZ (hw _ (List.mem_of_getElem? (i := 81) rfl))) (mvT hZ (hw _ (List.mem_of_getElem? (i := 82) rfl))) (by decide) (backOf (W := 0) (own_rm16b l Z a0 hw [] ca kc c0 c1 cs fm h0 n0 Z0 O0 V_c h0c h1c rg0 rg1 hcs hfm S_cs S_fm S_ad S_hb S_lb) hZ (hw _ (List.mem_of_getElem? (i := 82) rfl)) (hw _ (List.mem_of_getElem? (i := 81) rfl)) (by decide) (by decide)) (g := (mkF m 36 #[.val (.ref b), .val (.ref ca), .val (.int (0 : Int32)), .val (.int (2 : Int32)), .val .null, .unset] [(.int (2 : Int32)), (.int (0 : Int32)), (.ref ca)])) rfl (by rw [hml]; rfl) (argsL := [(.ref ca), (.int (0 : Int32)), (.int (2 : Int32))]) (rest := []) (lenOf own_pd10 rfl) rfl (by show 2 * 0 + _ ≤ _; exact Nat.le_of_eq rfl) (hb hby own_d15_36) (fun _ _ => ⟨rfl, e3, (by decide : 0 + 2 ≤ _), (by decide : 0 + 6 ≤ _)⟩)
  dsimp only [Pt.U, Pt.locs, Pt.cells, Pt.slots] at X4 l4 y4 z4 st4 hQ4
  subst l4 y4 z4
  obtain ⟨h4, e4⟩ : ∃ z, T4.heap = z := ⟨_, rfl⟩
  rw [e4] at hQ4
  obtain ⟨r4, k4, rfl, N4q, Kc4, g4, hz4, Vc4⟩ := hQ4
  have N4 := Fr.app N0 N4q
  have ne_b_r4 : b ≠ r4 := Nat.ne_of_lt (Nat.lt_of_lt_of_le E_b.lt hz4)
  have ne_ca_r4 : ca ≠ r4 := Nat.ne_of_lt (Nat.lt_of_lt_of_le V_c.lt hz4)
  have hwr4 : h0.size ≤ r4 := Nat.le_trans (Keep.refl h0 [b]).1 hz4
  have K4 : Keep h0 h4 [b] := (Keep.refl h0 [b]).trans Kc4 all0
  have Z4 : n0 ≤ h4.size := Nat.le_trans Z0 Kc4.1
  have O4 := O0.keep Kc4 all0
  refine own_st (T' := T4) (g' := (mkF m 39 #[.val (.ref b), .val (.ref ca), .val (.int (0 : Int32)), .val (.int (2 : Int32)), .val .null, .unset] [(.ref r4)])) st4 ?_
  refine own_st (T' := T4) (g' := (mkF m 45 #[.val (.ref b), .val (.ref ca), .val (.int (0 : Int32)), .val (.int (2 : Int32)), .val .null, .val (.ref r4)] [(.int (2 : Int32)), (.ref r4), (.ref b)])) (fun t k => ?_) ?_
  · show Steps p.tables e below (T4.setTop (mkF m 39 #[.val (.ref b), .val (.ref ca), .val (.int (0 : Int32)), .val (.int (2 : Int32)), .val .null, .unset] [(.ref r4)])) t
    refine XS.astore X4.here hx rfl (hb hby own_d15_39) rfl rfl (l' := #[.val (.ref b), .val (.ref ca), .val (.int (0 : Int32)), .val (.int (2 : Int32)), .val .null, .val (.ref r4)]) rfl ?_
    refine XS.aloadN X4.here hx rfl (hb hby own_d15_41) rfl rfl ?_
    refine XS.aload X4.here hx rfl (hb hby own_d15_42) rfl rfl ?_
    refine XS.iloadN X4.here hx rfl (hb hby own_d15_44) rfl ?_
    exact k
  obtain ⟨_, _, ⟨T5, L5, c5, n5⟩, -, X5, ⟨Lc5, hQ5, l5, y5, z5⟩, st5⟩ := Jvm.LawKit.callS X4 hx (y := (⟨"java/lang/StringUTF16", "coderFromArrayLen", "([BI)B"⟩ : MethodName)) hown (mvT hZ (hw _ (List.mem_of_getElem? (i := 86) rfl))) (mvT hZ (hw _ (List.mem_of_getElem? (i := 87) rfl))) (mvT hZ (hw _ (List.mem_of_getElem? (i := 81) rfl))) (mvT hZ (hw _ (List.mem_of_getElem? (i := 88) rfl))) (by decide) (backOf (W := 1) (own_rm18_4_2 l Z a0 hw [] r4 k4 ((c0 >>> ((0 : Int32) &&& 31)).toInt8.toInt32) ((c0 >>> ((8 : Int32) &&& 31)).toInt8.toInt32) ((c1 >>> ((0 : Int32) &&& 31)).toInt8.toInt32) ((c1 >>> ((8 : Int32) &&& 31)).toInt8.toInt32) cs fm h4 n0 Z4 O4 Vc4 hcs hfm S_cs S_fm S_ad S_hb S_lb) hZ (hw _ (List.mem_of_getElem? (i := 88) rfl)) (hw _ (List.mem_of_getElem? (i := 81) rfl)) (by decide) (by decide)) (g := (mkF m 45 #[.val (.ref b), .val (.ref ca), .val (.int (0 : Int32)), .val (.int (2 : Int32)), .val .null, .val (.ref r4)] [(.int (2 : Int32)), (.ref r4), (.ref b)])) rfl (by rw [hml]; rfl) (argsL := [(.ref r4), (.int (2 : Int32))]) (rest := [(.ref b)]) (lenOf own_pd11 rfl) rfl (by show 2 * 0 + _ ≤ _; exact Nat.le_of_eq rfl) (hb hby own_d15_45) (fun _ _ => ⟨rfl, e4, (by decide : 2 + 0 ≤ _), (by decide : 6 + 0 ≤ _)⟩)
  dsimp only [Pt.U, Pt.locs, Pt.cells, Pt.slots] at X5 l5 y5 z5 st5 hQ5
  subst l5 y5 z5
  obtain ⟨rfl, N5q, e5⟩ := hQ5
  have N5 := Fr.app N4 N5q
  refine own_st (T' := T5) (g' := (mkF m 48 #[.val (.ref b), .val (.ref ca), .val (.int (0 : Int32)), .val (.int (2 : Int32)), .val .null, .val (.ref r4)] [(.int (1 : Int32)), (.ref b)])) st5 ?_
  have f6 := F_c.keep Kc4 nin0
  have f7 := E_b.keep Kc4
  obtain ⟨T8, h8, X8, e8, W8, st8⟩ := putFN X5 hx hZ hown (hw _ (List.mem_of_getElem? (i := 25) rfl)) Via.refl e5 f6 f7 (Or.inr ⟨(hw _ (List.mem_of_getElem? (i := 26) rfl)), rfl, hnm⟩) (hw _ (List.mem_of_getElem? (i := 11) rfl)) (ty := .byte) (v' := (.int (1 : Int32))) (by decide) rfl rfl (g := (mkF m 48 #[.val (.ref b), .val (.ref ca), .val (.int (0 : Int32)), .val (.int (2 : Int32)), .val .null, .val (.ref r4)] [(.int (1 : Int32)), (.ref b)])) rfl rfl (hb hby own_d15_48)
  have N8 := Fr.snoc X8 N5 g_b
  have K8 : Keep h0 h8 [b] := K4.wr W8 (Or.inl (List.mem_of_getElem? (i := 0) rfl))
  have Z8 : n0 ≤ h8.size := Nat.le_trans Z4 (Keep.of_wr W8).1
  have O8 := O4.wr W8 g_b
  have fw8 := (f6.same W8)
  refine own_st (T' := T8) (g' := (mkF m 51 #[.val (.ref b), .val (.ref ca), .val (.int (0 : Int32)), .val (.int (2 : Int32)), .val .null, .val (.ref r4)] [])) st8 ?_
  refine own_st (T' := T8) (g' := (mkF m 54 #[.val (.ref b), .val (.ref ca), .val (.int (0 : Int32)), .val (.int (2 : Int32)), .val .null, .val (.ref r4)] [(.ref r4), (.ref b)])) (fun t k => ?_) ?_
  · show Steps p.tables e below (T8.setTop (mkF m 51 #[.val (.ref b), .val (.ref ca), .val (.int (0 : Int32)), .val (.int (2 : Int32)), .val .null, .val (.ref r4)] [])) t
    refine XS.aloadN X8.here hx rfl (hb hby own_d15_51) rfl rfl ?_
    refine XS.aload X8.here hx rfl (hb hby own_d15_52) rfl rfl ?_
    exact k
  have f9 := (F_v.keep Kc4 nin0).other W8 (Or.inr (slot_ne (Or.inr (hw _ (List.mem_of_getElem? (i := 24) rfl))) (Or.inr (hw _ (List.mem_of_getElem? (i := 26) rfl))) (by decide) (t := (.array .byte)) (t' := .byte) (by decide) (by decide)))
  have f10 := f7.wr W8
  obtain ⟨T11, h11, X11, e11, W11, st11⟩ := putF X8 hx hZ hown (host := "") (Or.inl (hw _ (List.mem_of_getElem? (i := 23) rfl))) Via.refl e8 f9 f10 (Or.inr ⟨(hw _ (List.mem_of_getElem? (i := 24) rfl)), rfl, hnm⟩) (hw _ (List.mem_of_getElem? (i := 11) rfl)) (ty := (.array .byte)) (by decide) rfl rfl (g := (mkF m 54 #[.val (.ref b), .val (.ref ca), .val (.int (0 : Int32)), .val (.int (2 : Int32)), .val .null, .val (.ref r4)] [(.ref r4), (.ref b)])) rfl rfl (hb hby own_d15_54)
  have N11 := Fr.snoc X11 N8 g_b
  have K11 : Keep h0 h11 [b] := K8.wr W11 (Or.inl (List.mem_of_getElem? (i := 0) rfl))
  have Z11 : n0 ≤ h11.size := Nat.le_trans Z8 (Keep.of_wr W11).1
  have O11 := O8.wr W11 g_b
  have fw11 := (f9.same W11)
  refine own_st (T' := T11) (g' := (mkF m 57 #[.val (.ref b), .val (.ref ca), .val (.int (0 : Int32)), .val (.int (2 : Int32)), .val .null, .val (.ref r4)] [])) st11 ?_
  have f12 := fw8.other W11 (Or.inr (slot_ne (Or.inr (hw _ (List.mem_of_getElem? (i := 26) rfl))) (Or.inr (hw _ (List.mem_of_getElem? (i := 24) rfl))) (by decide) (t := .byte) (t' := (.array .byte)) (by decide) (by decide)))
  have f13 := (Vc4.other W8 (Ne.symm ne_b_r4)).other W11 (Ne.symm ne_b_r4)
  exact own_retV X11 hx Bd (hb hby own_d15_57) e11 (⟨r4, k4, rfl, N11, K11, g4, hwr4, fw11, f12, f13⟩) (by decide) (by decide)
def own_r15c : Room := { frames := 2, cells := 1, slots := 2, locals := 35 }
theorem own_ef15c (m : MethodId) (x0 : Addr) (x1 : Addr) : entryFrame m #[(.ref x0), (.ref x1), (.int (0 : Int32)), (.int (2 : Int32)), .null] 6 = mkF m 0 #[.val (.ref x0), .val (.ref x1), .val (.int (0 : Int32)), .val (.int (2 : Int32)), .val .null, .unset] [] := by first | (simp [entryFrame, mkF, argsToLocals, Value.category]; done) | rfl
def own_Q15c (Z : State) (b : Addr) (ca : Addr) (kc : ClassId) (c0 c1 : Int32) (cs : Int32) (fm : Value) (h0 : Heap) (n0 : Nat) : Option Value → Heap → List Loc → Prop := fun v h L => ∃ t k, v = none ∧ Fr n0 L ∧ Keep h0 h [b] ∧ n0 ≤ t ∧ h0.size ≤ t ∧ Fld Z h b "java/lang/String" "value" "[B" (.ref t) ∧ Fld Z h b "java/lang/String" "coder" "B" (.int (0 : Int32)) ∧ Arv Z h t k .byte (2 : Int32) [(.int (c0.toInt8.toInt32)), (.int (c1.toInt8.toInt32))] (.int (0 : Int32))
set_option maxRecDepth 65536 in
set_option maxHeartbeats 40000000 in
theorem own_rm15c (l : Launch) (Z : State) (a0 : Array Value) (hw : ∀ d ∈ tables_1, d.before a0 Z = true) (ws : List Jvm.Cond) (b : Addr) (ca : Addr) (kc : ClassId) (c0 c1 : Int32) (cs : Int32) (fm : Value) (h0 : Heap) (n0 : Nat) (Z0 : n0 ≤ h0.size) (O0 : Old Z n0 h0) (E_b : Exa Z h0 b "java/lang/String") (F_v : Fld Z h0 b "java/lang/String" "value" "[B" .null) (F_c : Fld Z h0 b "java/lang/String" "coder" "B" (.int (0 : Int32))) (g_b : n0 ≤ b) (V_c : Arv Z h0 ca kc .char (2 : Int32) [(.int c0), (.int c1)] (.int (0 : Int32))) (nbc : b ≠ ca) (h0c : ¬ (255 : Int32) < c0) (h1c : ¬ (255 : Int32) < c1) (rg0 : own_u16 c0) (rg1 : own_u16 c1) (hcs : ¬ cs = (0 : Int32)) (hfm : fm.isRef = true) (S_cs : Sta Z Z.heap "java/lang/String" "COMPACT_STRINGS" "Z" (.int cs)) (S_fm : Sta Z Z.heap "jdk/internal/util/Preconditions" "SIOOBE_FORMATTER" "Ljava/util/function/BiFunction;" fm) (S_ad : Sta Z Z.heap "java/lang/StringUTF16" "$assertionsDisabled" "Z" (.int (1 : Int32))) (S_hb : Sta Z Z.heap "java/lang/StringUTF16" "HI_BYTE_SHIFT" "I" (.int (0 : Int32))) (S_lb : Sta Z Z.heap "java/lang/StringUTF16" "LO_BYTE_SHIFT" "I" (.int (8 : Int32))) :
    MetFree l (⟨"java/lang/String", "<init>", "([CIILjava/lang/Void;)V"⟩ : MethodName) (head1 (Jvm.Cond.code (⟨"java/lang/String", "<init>", "([CIILjava/lang/Void;)V"⟩ : MethodName) jdk_42_method_149_code 6 none :: ws) own_r15c) (fun a_ U_ => a_ = #[(.ref b), (.ref ca), (.int (0 : Int32)), (.int (2 : Int32)), .null] ∧ Z.Warmed39 U_.vm ∧ U_.heap = h0) (fun _ _ _ _ _ => True) (fun _ U_ o_ U'_ => ∃ v_ L_, o_ = .returned v_ ∧ own_Q15c Z b  ca  kc  c0 c1  cs  fm  h0 n0 v_ U'_.heap L_ ∧ FrameEnd U_ o_ U'_ L_ own_r15c.cells own_r15c.slots) := by
  refine MetFree.of_bodySF (plainFor_of_name own_pn1) hisR ?_
  intro p e s m args below meth c s₁ Bd hml0 hP hK
  obtain ⟨rfl, hZ, hh⟩ := hP
  have hx := Bd.exec
  have hby := Bd.bytes
  have hml : c.maxLocals = 6 := hml0
  have hown : s.vm.findClass "java/lang/String" = some m.cls := findClass_of_methodNamed Bd.named
  have hnm := (name_of_methodNamed Bd.named Bd.method).1
  have X0 : Stand p l e own_r15c s m #[(.ref b), (.ref ca), (.int (0 : Int32)), (.int (2 : Int32)), .null] below meth c s₁ [] 0 0 := Stand.of_body Bd
  have e0 : s₁.heap = h0 := by rw [← hh, Bd.state]; rfl
  have N0 := Fr.nil n0
  refine own_in (own_ef15c m b ca) ?_
  show own_Go p e below (own_K s (own_Q15c Z b  ca  kc  c0 c1  cs  fm  h0 n0) own_r15c.cells own_r15c.slots) s₁ (mkF m 0 #[.val (.ref b), .val (.ref ca), .val (.int (0 : Int32)), .val (.int (2 : Int32)), .val .null, .unset] [])
  refine own_st (T' := s₁) (g' := (mkF m 1 #[.val (.ref b), .val (.ref ca), .val (.int (0 : Int32)), .val (.int (2 : Int32)), .val .null, .unset] [(.ref b)])) (fun t k => ?_) ?_
  · show Steps p.tables e below (s₁.setTop (mkF m 0 #[.val (.ref b), .val (.ref ca), .val (.int (0 : Int32)), .val (.int (2 : Int32)), .val .null, .unset] [])) t
    refine XS.aloadN X0.here hx rfl (hb hby own_d15_0) rfl rfl ?_
    exact k
  obtain ⟨T1, X1, e1, st1⟩ := initO X0 hx hZ hown (hw _ (List.mem_of_getElem? (i := 20) rfl)) (hw _ (List.mem_of_getElem? (i := 21) rfl)) (hw _ (List.mem_of_getElem? (i := 22) rfl)) e0 (g := (mkF m 1 #[.val (.ref b), .val (.ref ca), .val (.int (0 : Int32)), .val (.int (2 : Int32)), .val .null, .unset] [(.ref b)])) rfl (by rw [hml]; rfl) rfl (hb hby own_d15_1) (by decide) (W := 0) (by show 2 * 0 + _ ≤ _; exact Nat.le_of_eq rfl) (by decide)
  refine own_st (T' := T1) (g' := (mkF m 4 #[.val (.ref b), .val (.ref ca), .val (.int (0 : Int32)), .val (.int (2 : Int32)), .val .null, .unset] [])) st1 ?_
  refine own_st (T' := T1) (g' := (mkF m 27 #[.val (.ref b), .val (.ref ca), .val (.int (0 : Int32)), .val (.int (2 : Int32)), .val .null, .unset] [])) (fun t k => ?_) ?_
  · show Steps p.tables e below (T1.setTop (mkF m 4 #[.val (.ref b), .val (.ref ca), .val (.int (0 : Int32)), .val (.int (2 : Int32)), .val .null, .unset] [])) t
    refine XS.iloadN X1.here hx rfl (hb hby own_d15_4) rfl ?_
    refine XS.ifYes X1.here hx rfl (pc0 := 5) (pc' := 27) rfl (hb hby own_d15_5) rfl ((if0 _ _).trans (feq (by decide : ¬ ((2 : Int32) = (0 : Int32)))).2) (by decide) (by decide) ?_
    exact k
  have f2 := S_cs.ext O0.2
  obtain ⟨T3, X3, e3, st3⟩ := getS2 X1 hx hZ hown (host := "") (Or.inl (hw _ (List.mem_of_getElem? (i := 5) rfl))) Via.refl e1 f2 (g := (mkF m 27 #[.val (.ref b), .val (.ref ca), .val (.int (0 : Int32)), .val (.int (2 : Int32)), .val .null, .unset] [])) rfl (hb hby own_d15_27)
  refine own_st (T' := T3) (g' := (mkF m 30 #[.val (.ref b), .val (.ref ca), .val (.int (0 : Int32)), .val (.int (2 : Int32)), .val .null, .unset] [(.int cs)])) st3 ?_
  refine own_st (T' := T3) (g' := (mkF m 36 #[.val (.ref b), .val (.ref ca), .val (.int (0 : Int32)), .val (.int (2 : Int32)), .val .null, .unset] [(.int (2 : Int32)), (.int (0 : Int32)), (.ref ca)])) (fun t k => ?_) ?_
  · show Steps p.tables e below (T3.setTop (mkF m 30 #[.val (.ref b), .val (.ref ca), .val (.int (0 : Int32)), .val (.int (2 : Int32)), .val .null, .unset] [(.int cs)])) t
    refine XS.ifNo X3.here hx rfl (hb hby own_d15_30) rfl ((if0 _ _).trans (feq hcs).1) ?_
    refine XS.aloadN X3.here hx rfl (hb hby own_d15_33) rfl rfl ?_
    refine XS.iloadN X3.here hx rfl (hb hby own_d15_34) rfl ?_
    refine XS.iloadN X3.here hx rfl (hb hby own_d15_35) rfl ?_
    exact k
  obtain ⟨_, _, ⟨T4, L4, c4, n4⟩, -, X4, ⟨Lc4, hQ4, l4, y4, z4⟩, st4⟩ := Jvm.LawKit.callS X3 hx (y := (⟨"java/lang/StringUTF16", "compress", "([CII)[B"⟩ : MethodName)) hown (mvT hZ (hw _ (List.mem_of_getElem? (i := 79) rfl))) (mvT hZ (hw _ (List.mem_of_getElem? (i := 80) rfl))) (mvT hZ (hw _ (List.mem_of_getElem? (i := 81) rfl))) (mvT hZ (hw _ (List.mem_of_getElem? (i := 82) rfl))) (by decide) (backOf (W := 0) (own_rm16c l Z a0 hw [] ca kc c0 c1 cs fm h0 n0 Z0 O0 V_c h0c h1c rg0 rg1 hcs hfm S_cs S_fm S_ad S_hb S_lb) hZ (hw _ (List.mem_of_getElem? (i := 82) rfl)) (hw _ (List.mem_of_getElem? (i := 81) rfl)) (by decide) (by decide)) (g := (mkF m 36 #[.val (.ref b), .val (.ref ca), .val (.int (0 : Int32)), .val (.int (2 : Int32)), .val .null, .unset] [(.int (2 : Int32)), (.int (0 : Int32)), (.ref ca)])) rfl (by rw [hml]; rfl) (argsL := [(.ref ca), (.int (0 : Int32)), (.int (2 : Int32))]) (rest := []) (lenOf own_pd10 rfl) rfl (by show 2 * 0 + _ ≤ _; exact Nat.le_of_eq rfl) (hb hby own_d15_36) (fun _ _ => ⟨rfl, e3, (by decide : 0 + 1 ≤ _), (by decide : 0 + 2 ≤ _)⟩)
  dsimp only [Pt.U, Pt.locs, Pt.cells, Pt.slots] at X4 l4 y4 z4 st4 hQ4
  subst l4 y4 z4
  obtain ⟨h4, e4⟩ : ∃ z, T4.heap = z := ⟨_, rfl⟩
  rw [e4] at hQ4
  obtain ⟨r4, k4, rfl, N4q, Kc4, g4, hz4, Vc4⟩ := hQ4
  have N4 := Fr.app N0 N4q
  have ne_b_r4 : b ≠ r4 := Nat.ne_of_lt (Nat.lt_of_lt_of_le E_b.lt hz4)
  have ne_ca_r4 : ca ≠ r4 := Nat.ne_of_lt (Nat.lt_of_lt_of_le V_c.lt hz4)
  have hwr4 : h0.size ≤ r4 := Nat.le_trans (Keep.refl h0 [b]).1 hz4
  have K4 : Keep h0 h4 [b] := (Keep.refl h0 [b]).trans Kc4 all0
  have Z4 : n0 ≤ h4.size := Nat.le_trans Z0 Kc4.1
  have O4 := O0.keep Kc4 all0
  refine own_st (T' := T4) (g' := (mkF m 39 #[.val (.ref b), .val (.ref ca), .val (.int (0 : Int32)), .val (.int (2 : Int32)), .val .null, .unset] [(.ref r4)])) st4 ?_
  refine own_st (T' := T4) (g' := (mkF m 45 #[.val (.ref b), .val (.ref ca), .val (.int (0 : Int32)), .val (.int (2 : Int32)), .val .null, .val (.ref r4)] [(.int (2 : Int32)), (.ref r4), (.ref b)])) (fun t k => ?_) ?_
  · show Steps p.tables e below (T4.setTop (mkF m 39 #[.val (.ref b), .val (.ref ca), .val (.int (0 : Int32)), .val (.int (2 : Int32)), .val .null, .unset] [(.ref r4)])) t
    refine XS.astore X4.here hx rfl (hb hby own_d15_39) rfl rfl (l' := #[.val (.ref b), .val (.ref ca), .val (.int (0 : Int32)), .val (.int (2 : Int32)), .val .null, .val (.ref r4)]) rfl ?_
    refine XS.aloadN X4.here hx rfl (hb hby own_d15_41) rfl rfl ?_
    refine XS.aload X4.here hx rfl (hb hby own_d15_42) rfl rfl ?_
    refine XS.iloadN X4.here hx rfl (hb hby own_d15_44) rfl ?_
    exact k
  obtain ⟨_, _, ⟨T5, L5, c5, n5⟩, -, X5, ⟨Lc5, hQ5, l5, y5, z5⟩, st5⟩ := Jvm.LawKit.callS X4 hx (y := (⟨"java/lang/StringUTF16", "coderFromArrayLen", "([BI)B"⟩ : MethodName)) hown (mvT hZ (hw _ (List.mem_of_getElem? (i := 86) rfl))) (mvT hZ (hw _ (List.mem_of_getElem? (i := 87) rfl))) (mvT hZ (hw _ (List.mem_of_getElem? (i := 81) rfl))) (mvT hZ (hw _ (List.mem_of_getElem? (i := 88) rfl))) (by decide) (backOf (W := 1) (own_rm18_2_2 l Z a0 hw [] r4 k4 (c0.toInt8.toInt32) (c1.toInt8.toInt32) cs fm h4 n0 Z4 O4 Vc4 hcs hfm S_cs S_fm S_ad S_hb S_lb) hZ (hw _ (List.mem_of_getElem? (i := 88) rfl)) (hw _ (List.mem_of_getElem? (i := 81) rfl)) (by decide) (by decide)) (g := (mkF m 45 #[.val (.ref b), .val (.ref ca), .val (.int (0 : Int32)), .val (.int (2 : Int32)), .val .null, .val (.ref r4)] [(.int (2 : Int32)), (.ref r4), (.ref b)])) rfl (by rw [hml]; rfl) (argsL := [(.ref r4), (.int (2 : Int32))]) (rest := [(.ref b)]) (lenOf own_pd11 rfl) rfl (by show 2 * 0 + _ ≤ _; exact Nat.le_of_eq rfl) (hb hby own_d15_45) (fun _ _ => ⟨rfl, e4, (by decide : 1 + 0 ≤ _), (by decide : 2 + 0 ≤ _)⟩)
  dsimp only [Pt.U, Pt.locs, Pt.cells, Pt.slots] at X5 l5 y5 z5 st5 hQ5
  subst l5 y5 z5
  obtain ⟨rfl, N5q, e5⟩ := hQ5
  have N5 := Fr.app N4 N5q
  refine own_st (T' := T5) (g' := (mkF m 48 #[.val (.ref b), .val (.ref ca), .val (.int (0 : Int32)), .val (.int (2 : Int32)), .val .null, .val (.ref r4)] [(.int (0 : Int32)), (.ref b)])) st5 ?_
  have f6 := F_c.keep Kc4 nin0
  have f7 := E_b.keep Kc4
  obtain ⟨T8, h8, X8, e8, W8, st8⟩ := putFN X5 hx hZ hown (hw _ (List.mem_of_getElem? (i := 25) rfl)) Via.refl e5 f6 f7 (Or.inr ⟨(hw _ (List.mem_of_getElem? (i := 26) rfl)), rfl, hnm⟩) (hw _ (List.mem_of_getElem? (i := 11) rfl)) (ty := .byte) (v' := (.int (0 : Int32))) (by decide) rfl rfl (g := (mkF m 48 #[.val (.ref b), .val (.ref ca), .val (.int (0 : Int32)), .val (.int (2 : Int32)), .val .null, .val (.ref r4)] [(.int (0 : Int32)), (.ref b)])) rfl rfl (hb hby own_d15_48)
  have N8 := Fr.snoc X8 N5 g_b
  have K8 : Keep h0 h8 [b] := K4.wr W8 (Or.inl (List.mem_of_getElem? (i := 0) rfl))
  have Z8 : n0 ≤ h8.size := Nat.le_trans Z4 (Keep.of_wr W8).1
  have O8 := O4.wr W8 g_b
  have fw8 := (f6.same W8)
  refine own_st (T' := T8) (g' := (mkF m 51 #[.val (.ref b), .val (.ref ca), .val (.int (0 : Int32)), .val (.int (2 : Int32)), .val .null, .val (.ref r4)] [])) st8 ?_
  refine own_st (T' := T8) (g' := (mkF m 54 #[.val (.ref b), .val (.ref ca), .val (.int (0 : Int32)), .val (.int (2 : Int32)), .val .null, .val (.ref r4)] [(.ref r4), (.ref b)])) (fun t k => ?_) ?_
  · show Steps p.tables e below (T8.setTop (mkF m 51 #[.val (.ref b), .val (.ref ca), .val (.int (0 : Int32)), .val (.int (2 : Int32)), .val .null, .val (.ref r4)] [])) t
    refine XS.aloadN X8.here hx rfl (hb hby own_d15_51) rfl rfl ?_
    refine XS.aload X8.here hx rfl (hb hby own_d15_52) rfl rfl ?_
    exact k
  have f9 := (F_v.keep Kc4 nin0).other W8 (Or.inr (slot_ne (Or.inr (hw _ (List.mem_of_getElem? (i := 24) rfl))) (Or.inr (hw _ (List.mem_of_getElem? (i := 26) rfl))) (by decide) (t := (.array .byte)) (t' := .byte) (by decide) (by decide)))
  have f10 := f7.wr W8
  obtain ⟨T11, h11, X11, e11, W11, st11⟩ := putF X8 hx hZ hown (host := "") (Or.inl (hw _ (List.mem_of_getElem? (i := 23) rfl))) Via.refl e8 f9 f10 (Or.inr ⟨(hw _ (List.mem_of_getElem? (i := 24) rfl)), rfl, hnm⟩) (hw _ (List.mem_of_getElem? (i := 11) rfl)) (ty := (.array .byte)) (by decide) rfl rfl (g := (mkF m 54 #[.val (.ref b), .val (.ref ca), .val (.int (0 : Int32)), .val (.int (2 : Int32)), .val .null, .val (.ref r4)] [(.ref r4), (.ref b)])) rfl rfl (hb hby own_d15_54)
  have N11 := Fr.snoc X11 N8 g_b
  have K11 : Keep h0 h11 [b] := K8.wr W11 (Or.inl (List.mem_of_getElem? (i := 0) rfl))
  have Z11 : n0 ≤ h11.size := Nat.le_trans Z8 (Keep.of_wr W11).1
  have O11 := O8.wr W11 g_b
  have fw11 := (f9.same W11)
  refine own_st (T' := T11) (g' := (mkF m 57 #[.val (.ref b), .val (.ref ca), .val (.int (0 : Int32)), .val (.int (2 : Int32)), .val .null, .val (.ref r4)] [])) st11 ?_
  have f12 := fw8.other W11 (Or.inr (slot_ne (Or.inr (hw _ (List.mem_of_getElem? (i := 26) rfl))) (Or.inr (hw _ (List.mem_of_getElem? (i := 24) rfl))) (by decide) (t := .byte) (t' := (.array .byte)) (by decide) (by decide)))
  have f13 := (Vc4.other W8 (Ne.symm ne_b_r4)).other W11 (Ne.symm ne_b_r4)
  exact own_retV X11 hx Bd (hb hby own_d15_57) e11 (⟨r4, k4, rfl, N11, K11, g4, hwr4, fw11, f12, f13⟩) (by decide) (by decide)
def own_r14a : Room := { frames := 5, cells := 2, slots := 6, locals := 74 }
theorem own_ef14a (m : MethodId) (x0 : Addr) (x1 : Addr) : entryFrame m #[(.ref x0), (.ref x1)] 2 = mkF m 0 #[.val (.ref x0), .val (.ref x1)] [] := by first | (simp [entryFrame, mkF, argsToLocals, Value.category]; done) | rfl
def own_Q14a (Z : State) (b : Addr) (ca : Addr) (kc : ClassId) (c0 c1 : Int32) (cs : Int32) (fm : Value) (h0 : Heap) (n0 : Nat) : Option Value → Heap → List Loc → Prop := fun v h L => ∃ t k, v = none ∧ Fr n0 L ∧ Keep h0 h [b] ∧ n0 ≤ t ∧ h0.size ≤ t ∧ Fld Z h b "java/lang/String" "value" "[B" (.ref t) ∧ Fld Z h b "java/lang/String" "coder" "B" (.int (1 : Int32)) ∧ Arv Z h t k .byte (4 : Int32) [(.int ((c0 >>> ((0 : Int32) &&& 31)).toInt8.toInt32)), (.int ((c0 >>> ((8 : Int32) &&& 31)).toInt8.toInt32)), (.int ((c1 >>> ((0 : Int32) &&& 31)).toInt8.toInt32)), (.int ((c1 >>> ((8 : Int32) &&& 31)).toInt8.toInt32))] (.int (0 : Int32))
set_option maxRecDepth 65536 in
set_option maxHeartbeats 40000000 in
theorem own_rm14a (l : Launch) (Z : State) (a0 : Array Value) (hw : ∀ d ∈ tables_1, d.before a0 Z = true) (ws : List Jvm.Cond) (b : Addr) (ca : Addr) (kc : ClassId) (c0 c1 : Int32) (cs : Int32) (fm : Value) (h0 : Heap) (n0 : Nat) (Z0 : n0 ≤ h0.size) (O0 : Old Z n0 h0) (E_b : Exa Z h0 b "java/lang/String") (F_v : Fld Z h0 b "java/lang/String" "value" "[B" .null) (F_c : Fld Z h0 b "java/lang/String" "coder" "B" (.int (0 : Int32))) (g_b : n0 ≤ b) (V_c : Arv Z h0 ca kc .char (2 : Int32) [(.int c0), (.int c1)] (.int (0 : Int32))) (nbc : b ≠ ca) (h0c : (255 : Int32) < c0) (rg0 : own_u16 c0) (rg1 : own_u16 c1) (hcs : ¬ cs = (0 : Int32)) (hfm : fm.isRef = true) (S_cs : Sta Z Z.heap "java/lang/String" "COMPACT_STRINGS" "Z" (.int cs)) (S_fm : Sta Z Z.heap "jdk/internal/util/Preconditions" "SIOOBE_FORMATTER" "Ljava/util/function/BiFunction;" fm) (S_ad : Sta Z Z.heap "java/lang/StringUTF16" "$assertionsDisabled" "Z" (.int (1 : Int32))) (S_hb : Sta Z Z.heap "java/lang/StringUTF16" "HI_BYTE_SHIFT" "I" (.int (0 : Int32))) (S_lb : Sta Z Z.heap "java/lang/StringUTF16" "LO_BYTE_SHIFT" "I" (.int (8 : Int32))) :
    MetFree l (⟨"java/lang/String", "<init>", "([C)V"⟩ : MethodName) (head1 (Jvm.Cond.code (⟨"java/lang/String", "<init>", "([C)V"⟩ : MethodName) jdk_42_method_3_code 2 none :: ws) own_r14a) (fun a_ U_ => a_ = #[(.ref b), (.ref ca)] ∧ Z.Warmed39 U_.vm ∧ U_.heap = h0) (fun _ _ _ _ _ => True) (fun _ U_ o_ U'_ => ∃ v_ L_, o_ = .returned v_ ∧ own_Q14a Z b  ca  kc  c0 c1  cs  fm  h0 n0 v_ U'_.heap L_ ∧ FrameEnd U_ o_ U'_ L_ own_r14a.cells own_r14a.slots) := by
  refine MetFree.of_bodySF (plainFor_of_name own_pn1) hisR ?_
  intro p e s m args below meth c s₁ Bd hml0 hP hK
  obtain ⟨rfl, hZ, hh⟩ := hP
  have hx := Bd.exec
  have hby := Bd.bytes
  have hml : c.maxLocals = 2 := hml0
  have hown : s.vm.findClass "java/lang/String" = some m.cls := findClass_of_methodNamed Bd.named
  have hnm := (name_of_methodNamed Bd.named Bd.method).1
  have X0 : Stand p l e own_r14a s m #[(.ref b), (.ref ca)] below meth c s₁ [] 0 0 := Stand.of_body Bd
  have e0 : s₁.heap = h0 := by rw [← hh, Bd.state]; rfl
  have N0 := Fr.nil n0
  refine own_in (own_ef14a m b ca) ?_
  show own_Go p e below (own_K s (own_Q14a Z b  ca  kc  c0 c1  cs  fm  h0 n0) own_r14a.cells own_r14a.slots) s₁ (mkF m 0 #[.val (.ref b), .val (.ref ca)] [])
  refine own_st (T' := s₁) (g' := (mkF m 4 #[.val (.ref b), .val (.ref ca)] [(.ref ca), (.int (0 : Int32)), (.ref ca), (.ref b)])) (fun t k => ?_) ?_
  · show Steps p.tables e below (s₁.setTop (mkF m 0 #[.val (.ref b), .val (.ref ca)] [])) t
    refine XS.aloadN X0.here hx rfl (hb hby own_d14_0) rfl rfl ?_
    refine XS.aloadN X0.here hx rfl (hb hby own_d14_1) rfl rfl ?_
    refine XS.iconst X0.here hx rfl (hb hby own_d14_2) ?_
    refine XS.aloadN X0.here hx rfl (hb hby own_d14_3) rfl rfl ?_
    exact k
  obtain ⟨cl1, Ar1, q1, S1, M1, H1, G1⟩ := id V_c
  refine own_st (T' := s₁) (g' := (mkF m 6 #[.val (.ref b), .val (.ref ca)] [.null, (.int (2 : Int32)), (.int (0 : Int32)), (.ref ca), (.ref b)])) (fun t k => ?_) ?_
  · show Steps p.tables e below (s₁.setTop (mkF m 4 #[.val (.ref b), .val (.ref ca)] [(.ref ca), (.int (0 : Int32)), (.ref ca), (.ref b)])) t
    refine X0.arraylength hx (by rw [e0]; exact Ar1.1) (State.isArrayOf_alike hZ.alike Ar1.2.1) (g := (mkF m 4 #[.val (.ref b), .val (.ref ca)] [(.ref ca), (.int (0 : Int32)), (.ref ca), (.ref b)])) rfl rfl (hb hby own_d14_4) _ ?_
    rw [len_of S1 M1]
    show Steps p.tables e below (s₁.setTop (mkF m 5 #[.val (.ref b), .val (.ref ca)] [(.int (2 : Int32)), (.int (0 : Int32)), (.ref ca), (.ref b)])) t
    refine XS.aconstNull X0.here hx rfl (hb hby own_d14_5) ?_
    exact k
  obtain ⟨_, _, ⟨T2, L2, c2, n2⟩, -, X2, ⟨Lc2, hQ2, l2, y2, z2⟩, st2⟩ := X0.specialBack hx (y := (⟨"java/lang/String", "<init>", "([CIILjava/lang/Void;)V"⟩ : MethodName)) rfl hown (mvT hZ (hw _ (List.mem_of_getElem? (i := 76) rfl))) (mvT hZ (hw _ (List.mem_of_getElem? (i := 77) rfl))) (mvT hZ (hw _ (List.mem_of_getElem? (i := 78) rfl))) (by decide) (backOf (W := 0) (own_rm15a l Z a0 hw [] b ca kc c0 c1 cs fm h0 n0 Z0 O0 E_b F_v F_c g_b V_c nbc h0c rg0 rg1 hcs hfm S_cs S_fm S_ad S_hb S_lb) hZ (hw _ (List.mem_of_getElem? (i := 78) rfl)) (hw _ (List.mem_of_getElem? (i := 3) rfl)) (by decide) (by decide)) (g := (mkF m 6 #[.val (.ref b), .val (.ref ca)] [.null, (.int (2 : Int32)), (.int (0 : Int32)), (.ref ca), (.ref b)])) rfl (by rw [hml]; rfl) (Steps.refl _) (a := b) (argsL := [(.ref ca), (.int (0 : Int32)), (.int (2 : Int32)), .null]) (rest := []) (lenOf own_pd12 rfl) rfl (by show 2 * 0 + _ ≤ _; exact Nat.le_of_eq rfl) (hb hby own_d14_6) (fun _ _ => ⟨rfl, e0, (by decide : 0 + 2 ≤ _), (by decide : 0 + 6 ≤ _)⟩)
  dsimp only [Pt.U, Pt.locs, Pt.cells, Pt.slots] at X2 l2 y2 z2 st2 hQ2
  subst l2 y2 z2
  obtain ⟨h2, e2⟩ : ∃ z, T2.heap = z := ⟨_, rfl⟩
  rw [e2] at hQ2
  obtain ⟨t2, k2, rfl, N2q, Kc2, g2, hz2, Fv2, Fo2, Vc2⟩ := hQ2
  have N2 := Fr.app N0 N2q
  have ne_b_t2 : b ≠ t2 := Nat.ne_of_lt (Nat.lt_of_lt_of_le E_b.lt hz2)
  have ne_ca_t2 : ca ≠ t2 := Nat.ne_of_lt (Nat.lt_of_lt_of_le V_c.lt hz2)
  have hwt2 : h0.size ≤ t2 := Nat.le_trans (Keep.refl h0 [b]).1 hz2
  have K2 : Keep h0 h2 [b] := (Keep.refl h0 [b]).trans Kc2 (allS (Or.inl (List.mem_of_getElem? (i := 0) rfl)) all0)
  have Z2 : n0 ≤ h2.size := Nat.le_trans Z0 Kc2.1
  have O2 := O0.keep Kc2 (allS g_b all0)
  refine own_tr (T' := T2) (g' := (mkF m 9 #[.val (.ref b), .val (.ref ca)] [])) st2 ?_
  exact own_retV X2 hx Bd (hb hby own_d14_9) e2 (⟨t2, k2, rfl, N2, K2, g2, hwt2, Fv2, Fo2, Vc2⟩) (by decide) (by decide)
def own_r14b : Room := { frames := 5, cells := 2, slots := 6, locals := 74 }
theorem own_ef14b (m : MethodId) (x0 : Addr) (x1 : Addr) : entryFrame m #[(.ref x0), (.ref x1)] 2 = mkF m 0 #[.val (.ref x0), .val (.ref x1)] [] := by first | (simp [entryFrame, mkF, argsToLocals, Value.category]; done) | rfl
def own_Q14b (Z : State) (b : Addr) (ca : Addr) (kc : ClassId) (c0 c1 : Int32) (cs : Int32) (fm : Value) (h0 : Heap) (n0 : Nat) : Option Value → Heap → List Loc → Prop := fun v h L => ∃ t k, v = none ∧ Fr n0 L ∧ Keep h0 h [b] ∧ n0 ≤ t ∧ h0.size ≤ t ∧ Fld Z h b "java/lang/String" "value" "[B" (.ref t) ∧ Fld Z h b "java/lang/String" "coder" "B" (.int (1 : Int32)) ∧ Arv Z h t k .byte (4 : Int32) [(.int ((c0 >>> ((0 : Int32) &&& 31)).toInt8.toInt32)), (.int ((c0 >>> ((8 : Int32) &&& 31)).toInt8.toInt32)), (.int ((c1 >>> ((0 : Int32) &&& 31)).toInt8.toInt32)), (.int ((c1 >>> ((8 : Int32) &&& 31)).toInt8.toInt32))] (.int (0 : Int32))
set_option maxRecDepth 65536 in
set_option maxHeartbeats 40000000 in
theorem own_rm14b (l : Launch) (Z : State) (a0 : Array Value) (hw : ∀ d ∈ tables_1, d.before a0 Z = true) (ws : List Jvm.Cond) (b : Addr) (ca : Addr) (kc : ClassId) (c0 c1 : Int32) (cs : Int32) (fm : Value) (h0 : Heap) (n0 : Nat) (Z0 : n0 ≤ h0.size) (O0 : Old Z n0 h0) (E_b : Exa Z h0 b "java/lang/String") (F_v : Fld Z h0 b "java/lang/String" "value" "[B" .null) (F_c : Fld Z h0 b "java/lang/String" "coder" "B" (.int (0 : Int32))) (g_b : n0 ≤ b) (V_c : Arv Z h0 ca kc .char (2 : Int32) [(.int c0), (.int c1)] (.int (0 : Int32))) (nbc : b ≠ ca) (h0c : ¬ (255 : Int32) < c0) (h1c : (255 : Int32) < c1) (rg0 : own_u16 c0) (rg1 : own_u16 c1) (hcs : ¬ cs = (0 : Int32)) (hfm : fm.isRef = true) (S_cs : Sta Z Z.heap "java/lang/String" "COMPACT_STRINGS" "Z" (.int cs)) (S_fm : Sta Z Z.heap "jdk/internal/util/Preconditions" "SIOOBE_FORMATTER" "Ljava/util/function/BiFunction;" fm) (S_ad : Sta Z Z.heap "java/lang/StringUTF16" "$assertionsDisabled" "Z" (.int (1 : Int32))) (S_hb : Sta Z Z.heap "java/lang/StringUTF16" "HI_BYTE_SHIFT" "I" (.int (0 : Int32))) (S_lb : Sta Z Z.heap "java/lang/StringUTF16" "LO_BYTE_SHIFT" "I" (.int (8 : Int32))) :
    MetFree l (⟨"java/lang/String", "<init>", "([C)V"⟩ : MethodName) (head1 (Jvm.Cond.code (⟨"java/lang/String", "<init>", "([C)V"⟩ : MethodName) jdk_42_method_3_code 2 none :: ws) own_r14b) (fun a_ U_ => a_ = #[(.ref b), (.ref ca)] ∧ Z.Warmed39 U_.vm ∧ U_.heap = h0) (fun _ _ _ _ _ => True) (fun _ U_ o_ U'_ => ∃ v_ L_, o_ = .returned v_ ∧ own_Q14b Z b  ca  kc  c0 c1  cs  fm  h0 n0 v_ U'_.heap L_ ∧ FrameEnd U_ o_ U'_ L_ own_r14b.cells own_r14b.slots) := by
  refine MetFree.of_bodySF (plainFor_of_name own_pn1) hisR ?_
  intro p e s m args below meth c s₁ Bd hml0 hP hK
  obtain ⟨rfl, hZ, hh⟩ := hP
  have hx := Bd.exec
  have hby := Bd.bytes
  have hml : c.maxLocals = 2 := hml0
  have hown : s.vm.findClass "java/lang/String" = some m.cls := findClass_of_methodNamed Bd.named
  have hnm := (name_of_methodNamed Bd.named Bd.method).1
  have X0 : Stand p l e own_r14b s m #[(.ref b), (.ref ca)] below meth c s₁ [] 0 0 := Stand.of_body Bd
  have e0 : s₁.heap = h0 := by rw [← hh, Bd.state]; rfl
  have N0 := Fr.nil n0
  refine own_in (own_ef14b m b ca) ?_
  show own_Go p e below (own_K s (own_Q14b Z b  ca  kc  c0 c1  cs  fm  h0 n0) own_r14b.cells own_r14b.slots) s₁ (mkF m 0 #[.val (.ref b), .val (.ref ca)] [])
  refine own_st (T' := s₁) (g' := (mkF m 4 #[.val (.ref b), .val (.ref ca)] [(.ref ca), (.int (0 : Int32)), (.ref ca), (.ref b)])) (fun t k => ?_) ?_
  · show Steps p.tables e below (s₁.setTop (mkF m 0 #[.val (.ref b), .val (.ref ca)] [])) t
    refine XS.aloadN X0.here hx rfl (hb hby own_d14_0) rfl rfl ?_
    refine XS.aloadN X0.here hx rfl (hb hby own_d14_1) rfl rfl ?_
    refine XS.iconst X0.here hx rfl (hb hby own_d14_2) ?_
    refine XS.aloadN X0.here hx rfl (hb hby own_d14_3) rfl rfl ?_
    exact k
  obtain ⟨cl1, Ar1, q1, S1, M1, H1, G1⟩ := id V_c
  refine own_st (T' := s₁) (g' := (mkF m 6 #[.val (.ref b), .val (.ref ca)] [.null, (.int (2 : Int32)), (.int (0 : Int32)), (.ref ca), (.ref b)])) (fun t k => ?_) ?_
  · show Steps p.tables e below (s₁.setTop (mkF m 4 #[.val (.ref b), .val (.ref ca)] [(.ref ca), (.int (0 : Int32)), (.ref ca), (.ref b)])) t
    refine X0.arraylength hx (by rw [e0]; exact Ar1.1) (State.isArrayOf_alike hZ.alike Ar1.2.1) (g := (mkF m 4 #[.val (.ref b), .val (.ref ca)] [(.ref ca), (.int (0 : Int32)), (.ref ca), (.ref b)])) rfl rfl (hb hby own_d14_4) _ ?_
    rw [len_of S1 M1]
    show Steps p.tables e below (s₁.setTop (mkF m 5 #[.val (.ref b), .val (.ref ca)] [(.int (2 : Int32)), (.int (0 : Int32)), (.ref ca), (.ref b)])) t
    refine XS.aconstNull X0.here hx rfl (hb hby own_d14_5) ?_
    exact k
  obtain ⟨_, _, ⟨T2, L2, c2, n2⟩, -, X2, ⟨Lc2, hQ2, l2, y2, z2⟩, st2⟩ := X0.specialBack hx (y := (⟨"java/lang/String", "<init>", "([CIILjava/lang/Void;)V"⟩ : MethodName)) rfl hown (mvT hZ (hw _ (List.mem_of_getElem? (i := 76) rfl))) (mvT hZ (hw _ (List.mem_of_getElem? (i := 77) rfl))) (mvT hZ (hw _ (List.mem_of_getElem? (i := 78) rfl))) (by decide) (backOf (W := 0) (own_rm15b l Z a0 hw [] b ca kc c0 c1 cs fm h0 n0 Z0 O0 E_b F_v F_c g_b V_c nbc h0c h1c rg0 rg1 hcs hfm S_cs S_fm S_ad S_hb S_lb) hZ (hw _ (List.mem_of_getElem? (i := 78) rfl)) (hw _ (List.mem_of_getElem? (i := 3) rfl)) (by decide) (by decide)) (g := (mkF m 6 #[.val (.ref b), .val (.ref ca)] [.null, (.int (2 : Int32)), (.int (0 : Int32)), (.ref ca), (.ref b)])) rfl (by rw [hml]; rfl) (Steps.refl _) (a := b) (argsL := [(.ref ca), (.int (0 : Int32)), (.int (2 : Int32)), .null]) (rest := []) (lenOf own_pd12 rfl) rfl (by show 2 * 0 + _ ≤ _; exact Nat.le_of_eq rfl) (hb hby own_d14_6) (fun _ _ => ⟨rfl, e0, (by decide : 0 + 2 ≤ _), (by decide : 0 + 6 ≤ _)⟩)
  dsimp only [Pt.U, Pt.locs, Pt.cells, Pt.slots] at X2 l2 y2 z2 st2 hQ2
  subst l2 y2 z2
  obtain ⟨h2, e2⟩ : ∃ z, T2.heap = z := ⟨_, rfl⟩
  rw [e2] at hQ2
  obtain ⟨t2, k2, rfl, N2q, Kc2, g2, hz2, Fv2, Fo2, Vc2⟩ := hQ2
  have N2 := Fr.app N0 N2q
  have ne_b_t2 : b ≠ t2 := Nat.ne_of_lt (Nat.lt_of_lt_of_le E_b.lt hz2)
  have ne_ca_t2 : ca ≠ t2 := Nat.ne_of_lt (Nat.lt_of_lt_of_le V_c.lt hz2)
  have hwt2 : h0.size ≤ t2 := Nat.le_trans (Keep.refl h0 [b]).1 hz2
  have K2 : Keep h0 h2 [b] := (Keep.refl h0 [b]).trans Kc2 (allS (Or.inl (List.mem_of_getElem? (i := 0) rfl)) all0)
  have Z2 : n0 ≤ h2.size := Nat.le_trans Z0 Kc2.1
  have O2 := O0.keep Kc2 (allS g_b all0)
  refine own_tr (T' := T2) (g' := (mkF m 9 #[.val (.ref b), .val (.ref ca)] [])) st2 ?_
  exact own_retV X2 hx Bd (hb hby own_d14_9) e2 (⟨t2, k2, rfl, N2, K2, g2, hwt2, Fv2, Fo2, Vc2⟩) (by decide) (by decide)
def own_r14c : Room := { frames := 3, cells := 1, slots := 2, locals := 52 }
theorem own_ef14c (m : MethodId) (x0 : Addr) (x1 : Addr) : entryFrame m #[(.ref x0), (.ref x1)] 2 = mkF m 0 #[.val (.ref x0), .val (.ref x1)] [] := by first | (simp [entryFrame, mkF, argsToLocals, Value.category]; done) | rfl
def own_Q14c (Z : State) (b : Addr) (ca : Addr) (kc : ClassId) (c0 c1 : Int32) (cs : Int32) (fm : Value) (h0 : Heap) (n0 : Nat) : Option Value → Heap → List Loc → Prop := fun v h L => ∃ t k, v = none ∧ Fr n0 L ∧ Keep h0 h [b] ∧ n0 ≤ t ∧ h0.size ≤ t ∧ Fld Z h b "java/lang/String" "value" "[B" (.ref t) ∧ Fld Z h b "java/lang/String" "coder" "B" (.int (0 : Int32)) ∧ Arv Z h t k .byte (2 : Int32) [(.int (c0.toInt8.toInt32)), (.int (c1.toInt8.toInt32))] (.int (0 : Int32))
set_option maxRecDepth 65536 in
set_option maxHeartbeats 40000000 in
theorem own_rm14c (l : Launch) (Z : State) (a0 : Array Value) (hw : ∀ d ∈ tables_1, d.before a0 Z = true) (ws : List Jvm.Cond) (b : Addr) (ca : Addr) (kc : ClassId) (c0 c1 : Int32) (cs : Int32) (fm : Value) (h0 : Heap) (n0 : Nat) (Z0 : n0 ≤ h0.size) (O0 : Old Z n0 h0) (E_b : Exa Z h0 b "java/lang/String") (F_v : Fld Z h0 b "java/lang/String" "value" "[B" .null) (F_c : Fld Z h0 b "java/lang/String" "coder" "B" (.int (0 : Int32))) (g_b : n0 ≤ b) (V_c : Arv Z h0 ca kc .char (2 : Int32) [(.int c0), (.int c1)] (.int (0 : Int32))) (nbc : b ≠ ca) (h0c : ¬ (255 : Int32) < c0) (h1c : ¬ (255 : Int32) < c1) (rg0 : own_u16 c0) (rg1 : own_u16 c1) (hcs : ¬ cs = (0 : Int32)) (hfm : fm.isRef = true) (S_cs : Sta Z Z.heap "java/lang/String" "COMPACT_STRINGS" "Z" (.int cs)) (S_fm : Sta Z Z.heap "jdk/internal/util/Preconditions" "SIOOBE_FORMATTER" "Ljava/util/function/BiFunction;" fm) (S_ad : Sta Z Z.heap "java/lang/StringUTF16" "$assertionsDisabled" "Z" (.int (1 : Int32))) (S_hb : Sta Z Z.heap "java/lang/StringUTF16" "HI_BYTE_SHIFT" "I" (.int (0 : Int32))) (S_lb : Sta Z Z.heap "java/lang/StringUTF16" "LO_BYTE_SHIFT" "I" (.int (8 : Int32))) :
    MetFree l (⟨"java/lang/String", "<init>", "([C)V"⟩ : MethodName) (head1 (Jvm.Cond.code (⟨"java/lang/String", "<init>", "([C)V"⟩ : MethodName) jdk_42_method_3_code 2 none :: ws) own_r14c) (fun a_ U_ => a_ = #[(.ref b), (.ref ca)] ∧ Z.Warmed39 U_.vm ∧ U_.heap = h0) (fun _ _ _ _ _ => True) (fun _ U_ o_ U'_ => ∃ v_ L_, o_ = .returned v_ ∧ own_Q14c Z b  ca  kc  c0 c1  cs  fm  h0 n0 v_ U'_.heap L_ ∧ FrameEnd U_ o_ U'_ L_ own_r14c.cells own_r14c.slots) := by
  refine MetFree.of_bodySF (plainFor_of_name own_pn1) hisR ?_
  intro p e s m args below meth c s₁ Bd hml0 hP hK
  obtain ⟨rfl, hZ, hh⟩ := hP
  have hx := Bd.exec
  have hby := Bd.bytes
  have hml : c.maxLocals = 2 := hml0
  have hown : s.vm.findClass "java/lang/String" = some m.cls := findClass_of_methodNamed Bd.named
  have hnm := (name_of_methodNamed Bd.named Bd.method).1
  have X0 : Stand p l e own_r14c s m #[(.ref b), (.ref ca)] below meth c s₁ [] 0 0 := Stand.of_body Bd
  have e0 : s₁.heap = h0 := by rw [← hh, Bd.state]; rfl
  have N0 := Fr.nil n0
  refine own_in (own_ef14c m b ca) ?_
  show own_Go p e below (own_K s (own_Q14c Z b  ca  kc  c0 c1  cs  fm  h0 n0) own_r14c.cells own_r14c.slots) s₁ (mkF m 0 #[.val (.ref b), .val (.ref ca)] [])
  refine own_st (T' := s₁) (g' := (mkF m 4 #[.val (.ref b), .val (.ref ca)] [(.ref ca), (.int (0 : Int32)), (.ref ca), (.ref b)])) (fun t k => ?_) ?_
  · show Steps p.tables e below (s₁.setTop (mkF m 0 #[.val (.ref b), .val (.ref ca)] [])) t
    refine XS.aloadN X0.here hx rfl (hb hby own_d14_0) rfl rfl ?_
    refine XS.aloadN X0.here hx rfl (hb hby own_d14_1) rfl rfl ?_
    refine XS.iconst X0.here hx rfl (hb hby own_d14_2) ?_
    refine XS.aloadN X0.here hx rfl (hb hby own_d14_3) rfl rfl ?_
    exact k
  obtain ⟨cl1, Ar1, q1, S1, M1, H1, G1⟩ := id V_c
  refine own_st (T' := s₁) (g' := (mkF m 6 #[.val (.ref b), .val (.ref ca)] [.null, (.int (2 : Int32)), (.int (0 : Int32)), (.ref ca), (.ref b)])) (fun t k => ?_) ?_
  · show Steps p.tables e below (s₁.setTop (mkF m 4 #[.val (.ref b), .val (.ref ca)] [(.ref ca), (.int (0 : Int32)), (.ref ca), (.ref b)])) t
    refine X0.arraylength hx (by rw [e0]; exact Ar1.1) (State.isArrayOf_alike hZ.alike Ar1.2.1) (g := (mkF m 4 #[.val (.ref b), .val (.ref ca)] [(.ref ca), (.int (0 : Int32)), (.ref ca), (.ref b)])) rfl rfl (hb hby own_d14_4) _ ?_
    rw [len_of S1 M1]
    show Steps p.tables e below (s₁.setTop (mkF m 5 #[.val (.ref b), .val (.ref ca)] [(.int (2 : Int32)), (.int (0 : Int32)), (.ref ca), (.ref b)])) t
    refine XS.aconstNull X0.here hx rfl (hb hby own_d14_5) ?_
    exact k
  obtain ⟨_, _, ⟨T2, L2, c2, n2⟩, -, X2, ⟨Lc2, hQ2, l2, y2, z2⟩, st2⟩ := X0.specialBack hx (y := (⟨"java/lang/String", "<init>", "([CIILjava/lang/Void;)V"⟩ : MethodName)) rfl hown (mvT hZ (hw _ (List.mem_of_getElem? (i := 76) rfl))) (mvT hZ (hw _ (List.mem_of_getElem? (i := 77) rfl))) (mvT hZ (hw _ (List.mem_of_getElem? (i := 78) rfl))) (by decide) (backOf (W := 0) (own_rm15c l Z a0 hw [] b ca kc c0 c1 cs fm h0 n0 Z0 O0 E_b F_v F_c g_b V_c nbc h0c h1c rg0 rg1 hcs hfm S_cs S_fm S_ad S_hb S_lb) hZ (hw _ (List.mem_of_getElem? (i := 78) rfl)) (hw _ (List.mem_of_getElem? (i := 3) rfl)) (by decide) (by decide)) (g := (mkF m 6 #[.val (.ref b), .val (.ref ca)] [.null, (.int (2 : Int32)), (.int (0 : Int32)), (.ref ca), (.ref b)])) rfl (by rw [hml]; rfl) (Steps.refl _) (a := b) (argsL := [(.ref ca), (.int (0 : Int32)), (.int (2 : Int32)), .null]) (rest := []) (lenOf own_pd12 rfl) rfl (by show 2 * 0 + _ ≤ _; exact Nat.le_of_eq rfl) (hb hby own_d14_6) (fun _ _ => ⟨rfl, e0, (by decide : 0 + 1 ≤ _), (by decide : 0 + 2 ≤ _)⟩)
  dsimp only [Pt.U, Pt.locs, Pt.cells, Pt.slots] at X2 l2 y2 z2 st2 hQ2
  subst l2 y2 z2
  obtain ⟨h2, e2⟩ : ∃ z, T2.heap = z := ⟨_, rfl⟩
  rw [e2] at hQ2
  obtain ⟨t2, k2, rfl, N2q, Kc2, g2, hz2, Fv2, Fo2, Vc2⟩ := hQ2
  have N2 := Fr.app N0 N2q
  have ne_b_t2 : b ≠ t2 := Nat.ne_of_lt (Nat.lt_of_lt_of_le E_b.lt hz2)
  have ne_ca_t2 : ca ≠ t2 := Nat.ne_of_lt (Nat.lt_of_lt_of_le V_c.lt hz2)
  have hwt2 : h0.size ≤ t2 := Nat.le_trans (Keep.refl h0 [b]).1 hz2
  have K2 : Keep h0 h2 [b] := (Keep.refl h0 [b]).trans Kc2 (allS (Or.inl (List.mem_of_getElem? (i := 0) rfl)) all0)
  have Z2 : n0 ≤ h2.size := Nat.le_trans Z0 Kc2.1
  have O2 := O0.keep Kc2 (allS g_b all0)
  refine own_tr (T' := T2) (g' := (mkF m 9 #[.val (.ref b), .val (.ref ca)] [])) st2 ?_
  exact own_retV X2 hx Bd (hb hby own_d14_9) e2 (⟨t2, k2, rfl, N2, K2, g2, hwt2, Fv2, Fo2, Vc2⟩) (by decide) (by decide)
def own_r4_0 : Room := { frames := 1, cells := 0, slots := 0, locals := 12 }
theorem own_ef4_0 (m : MethodId) (x0 : Addr) (x1 : Addr) : entryFrame m #[(.ref x0), (.ref x1), (.int (0 : Int32))] 3 = mkF m 0 #[.val (.ref x0), .val (.ref x1), .val (.int (0 : Int32))] [] := by first | (simp [entryFrame, mkF, argsToLocals, Value.category]; done) | rfl
def own_Q4_0 (Z : State) (b arr : Addr) (cs : Int32) (fm : Value) (h0 : Heap) (n0 : Nat) : Option Value → Heap → List Loc → Prop := fun v h L => v = none ∧ Fr n0 L ∧ Keep h0 h [b] ∧ Fld Z h b "java/lang/String" "value" "[B" (.ref arr) ∧ Fld Z h b "java/lang/String" "coder" "B" (.int (0 : Int32))
set_option maxRecDepth 65536 in
set_option maxHeartbeats 40000000 in
theorem own_rm4_0 (l : Launch) (Z : State) (a0 : Array Value) (hw : ∀ d ∈ tables_1, d.before a0 Z = true) (ws : List Jvm.Cond) (b arr : Addr) (cs : Int32) (fm : Value) (h0 : Heap) (n0 : Nat) (Z0 : n0 ≤ h0.size) (O0 : Old Z n0 h0) (E_b : Exa Z h0 b "java/lang/String") (F_v : Fld Z h0 b "java/lang/String" "value" "[B" .null) (F_c : Fld Z h0 b "java/lang/String" "coder" "B" (.int (0 : Int32))) (g_b : n0 ≤ b) (hcs : ¬ cs = (0 : Int32)) (hfm : fm.isRef = true) (S_cs : Sta Z Z.heap "java/lang/String" "COMPACT_STRINGS" "Z" (.int cs)) (S_fm : Sta Z Z.heap "jdk/internal/util/Preconditions" "SIOOBE_FORMATTER" "Ljava/util/function/BiFunction;" fm) (S_ad : Sta Z Z.heap "java/lang/StringUTF16" "$assertionsDisabled" "Z" (.int (1 : Int32))) (S_hb : Sta Z Z.heap "java/lang/StringUTF16" "HI_BYTE_SHIFT" "I" (.int (0 : Int32))) (S_lb : Sta Z Z.heap "java/lang/StringUTF16" "LO_BYTE_SHIFT" "I" (.int (8 : Int32))) :
    MetFree l (⟨"java/lang/String", "<init>", "([BB)V"⟩ : MethodName) (head1 (Jvm.Cond.code (⟨"java/lang/String", "<init>", "([BB)V"⟩ : MethodName) jdk_42_method_151_code 3 none :: ws) own_r4_0) (fun a_ U_ => a_ = #[(.ref b), (.ref arr), (.int (0 : Int32))] ∧ Z.Warmed39 U_.vm ∧ U_.heap = h0) (fun _ _ _ _ _ => True) (fun _ U_ o_ U'_ => ∃ v_ L_, o_ = .returned v_ ∧ own_Q4_0 Z b arr  cs  fm  h0 n0 v_ U'_.heap L_ ∧ FrameEnd U_ o_ U'_ L_ own_r4_0.cells own_r4_0.slots) := by
  refine MetFree.of_bodySF (plainFor_of_name own_pn1) hisR ?_
  intro p e s m args below meth c s₁ Bd hml0 hP hK
  obtain ⟨rfl, hZ, hh⟩ := hP
  have hx := Bd.exec
  have hby := Bd.bytes
  have hml : c.maxLocals = 3 := hml0
  have hown : s.vm.findClass "java/lang/String" = some m.cls := findClass_of_methodNamed Bd.named
  have hnm := (name_of_methodNamed Bd.named Bd.method).1
  have X0 : Stand p l e own_r4_0 s m #[(.ref b), (.ref arr), (.int (0 : Int32))] below meth c s₁ [] 0 0 := Stand.of_body Bd
  have e0 : s₁.heap = h0 := by rw [← hh, Bd.state]; rfl
  have N0 := Fr.nil n0
  refine own_in (own_ef4_0 m b arr) ?_
  show own_Go p e below (own_K s (own_Q4_0 Z b arr  cs  fm  h0 n0) own_r4_0.cells own_r4_0.slots) s₁ (mkF m 0 #[.val (.ref b), .val (.ref arr), .val (.int (0 : Int32))] [])
  refine own_st (T' := s₁) (g' := (mkF m 1 #[.val (.ref b), .val (.ref arr), .val (.int (0 : Int32))] [(.ref b)])) (fun t k => ?_) ?_
  · show Steps p.tables e below (s₁.setTop (mkF m 0 #[.val (.ref b), .val (.ref arr), .val (.int (0 : Int32))] [])) t
    refine XS.aloadN X0.here hx rfl (hb hby own_d4_0) rfl rfl ?_
    exact k
  obtain ⟨T1, X1, e1, st1⟩ := initO X0 hx hZ hown (hw _ (List.mem_of_getElem? (i := 20) rfl)) (hw _ (List.mem_of_getElem? (i := 21) rfl)) (hw _ (List.mem_of_getElem? (i := 22) rfl)) e0 (g := (mkF m 1 #[.val (.ref b), .val (.ref arr), .val (.int (0 : Int32))] [(.ref b)])) rfl (by rw [hml]; rfl) rfl (hb hby own_d4_1) (by decide) (W := 0) (by show 2 * 0 + _ ≤ _; exact Nat.le_of_eq rfl) (by decide)
  refine own_st (T' := T1) (g' := (mkF m 4 #[.val (.ref b), .val (.ref arr), .val (.int (0 : Int32))] [])) st1 ?_
  refine own_st (T' := T1) (g' := (mkF m 6 #[.val (.ref b), .val (.ref arr), .val (.int (0 : Int32))] [(.ref arr), (.ref b)])) (fun t k => ?_) ?_
  · show Steps p.tables e below (T1.setTop (mkF m 4 #[.val (.ref b), .val (.ref arr), .val (.int (0 : Int32))] [])) t
    refine XS.aloadN X1.here hx rfl (hb hby own_d4_4) rfl rfl ?_
    refine XS.aloadN X1.here hx rfl (hb hby own_d4_5) rfl rfl ?_
    exact k
  obtain ⟨T2, h2, X2, e2, W2, st2⟩ := putF X1 hx hZ hown (host := "") (Or.inl (hw _ (List.mem_of_getElem? (i := 23) rfl))) Via.refl e1 F_v E_b (Or.inr ⟨(hw _ (List.mem_of_getElem? (i := 24) rfl)), rfl, hnm⟩) (hw _ (List.mem_of_getElem? (i := 11) rfl)) (ty := (.array .byte)) (by decide) rfl rfl (g := (mkF m 6 #[.val (.ref b), .val (.ref arr), .val (.int (0 : Int32))] [(.ref arr), (.ref b)])) rfl rfl (hb hby own_d4_6)
  have N2 := Fr.snoc X2 N0 g_b
  have K2 : Keep h0 h2 [b] := (Keep.refl h0 [b]).wr W2 (Or.inl (List.mem_of_getElem? (i := 0) rfl))
  have Z2 : n0 ≤ h2.size := Nat.le_trans Z0 (Keep.of_wr W2).1
  have O2 := O0.wr W2 g_b
  have fw2 := (F_v.same W2)
  refine own_st (T' := T2) (g' := (mkF m 9 #[.val (.ref b), .val (.ref arr), .val (.int (0 : Int32))] [])) st2 ?_
  refine own_st (T' := T2) (g' := (mkF m 11 #[.val (.ref b), .val (.ref arr), .val (.int (0 : Int32))] [(.int (0 : Int32)), (.ref b)])) (fun t k => ?_) ?_
  · show Steps p.tables e below (T2.setTop (mkF m 9 #[.val (.ref b), .val (.ref arr), .val (.int (0 : Int32))] [])) t
    refine XS.aloadN X2.here hx rfl (hb hby own_d4_9) rfl rfl ?_
    refine XS.iloadN X2.here hx rfl (hb hby own_d4_10) rfl ?_
    exact k
  have f3 := F_c.other W2 (Or.inr (slot_ne (Or.inr (hw _ (List.mem_of_getElem? (i := 26) rfl))) (Or.inr (hw _ (List.mem_of_getElem? (i := 24) rfl))) (by decide) (t := .byte) (t' := (.array .byte)) (by decide) (by decide)))
  have f4 := E_b.wr W2
  obtain ⟨T5, h5, X5, e5, W5, st5⟩ := putFN X2 hx hZ hown (hw _ (List.mem_of_getElem? (i := 25) rfl)) Via.refl e2 f3 f4 (Or.inr ⟨(hw _ (List.mem_of_getElem? (i := 26) rfl)), rfl, hnm⟩) (hw _ (List.mem_of_getElem? (i := 11) rfl)) (ty := .byte) (v' := (.int (0 : Int32))) (by decide) rfl rfl (g := (mkF m 11 #[.val (.ref b), .val (.ref arr), .val (.int (0 : Int32))] [(.int (0 : Int32)), (.ref b)])) rfl rfl (hb hby own_d4_11)
  have N5 := Fr.snoc X5 N2 g_b
  have K5 : Keep h0 h5 [b] := K2.wr W5 (Or.inl (List.mem_of_getElem? (i := 0) rfl))
  have Z5 : n0 ≤ h5.size := Nat.le_trans Z2 (Keep.of_wr W5).1
  have O5 := O2.wr W5 g_b
  have fw5 := (f3.same W5)
  refine own_st (T' := T5) (g' := (mkF m 14 #[.val (.ref b), .val (.ref arr), .val (.int (0 : Int32))] [])) st5 ?_
  have f6 := fw2.other W5 (Or.inr (slot_ne (Or.inr (hw _ (List.mem_of_getElem? (i := 24) rfl))) (Or.inr (hw _ (List.mem_of_getElem? (i := 26) rfl))) (by decide) (t := (.array .byte)) (t' := .byte) (by decide) (by decide)))
  exact own_retV X5 hx Bd (hb hby own_d4_14) e5 (⟨rfl, N5, K5, f6, fw5⟩) (by decide) (by decide)
def own_r4_1 : Room := { frames := 1, cells := 0, slots := 0, locals := 12 }
theorem own_ef4_1 (m : MethodId) (x0 : Addr) (x1 : Addr) : entryFrame m #[(.ref x0), (.ref x1), (.int (1 : Int32))] 3 = mkF m 0 #[.val (.ref x0), .val (.ref x1), .val (.int (1 : Int32))] [] := by first | (simp [entryFrame, mkF, argsToLocals, Value.category]; done) | rfl
def own_Q4_1 (Z : State) (b arr : Addr) (cs : Int32) (fm : Value) (h0 : Heap) (n0 : Nat) : Option Value → Heap → List Loc → Prop := fun v h L => v = none ∧ Fr n0 L ∧ Keep h0 h [b] ∧ Fld Z h b "java/lang/String" "value" "[B" (.ref arr) ∧ Fld Z h b "java/lang/String" "coder" "B" (.int (1 : Int32))
set_option maxRecDepth 65536 in
set_option maxHeartbeats 40000000 in
theorem own_rm4_1 (l : Launch) (Z : State) (a0 : Array Value) (hw : ∀ d ∈ tables_1, d.before a0 Z = true) (ws : List Jvm.Cond) (b arr : Addr) (cs : Int32) (fm : Value) (h0 : Heap) (n0 : Nat) (Z0 : n0 ≤ h0.size) (O0 : Old Z n0 h0) (E_b : Exa Z h0 b "java/lang/String") (F_v : Fld Z h0 b "java/lang/String" "value" "[B" .null) (F_c : Fld Z h0 b "java/lang/String" "coder" "B" (.int (0 : Int32))) (g_b : n0 ≤ b) (hcs : ¬ cs = (0 : Int32)) (hfm : fm.isRef = true) (S_cs : Sta Z Z.heap "java/lang/String" "COMPACT_STRINGS" "Z" (.int cs)) (S_fm : Sta Z Z.heap "jdk/internal/util/Preconditions" "SIOOBE_FORMATTER" "Ljava/util/function/BiFunction;" fm) (S_ad : Sta Z Z.heap "java/lang/StringUTF16" "$assertionsDisabled" "Z" (.int (1 : Int32))) (S_hb : Sta Z Z.heap "java/lang/StringUTF16" "HI_BYTE_SHIFT" "I" (.int (0 : Int32))) (S_lb : Sta Z Z.heap "java/lang/StringUTF16" "LO_BYTE_SHIFT" "I" (.int (8 : Int32))) :
    MetFree l (⟨"java/lang/String", "<init>", "([BB)V"⟩ : MethodName) (head1 (Jvm.Cond.code (⟨"java/lang/String", "<init>", "([BB)V"⟩ : MethodName) jdk_42_method_151_code 3 none :: ws) own_r4_1) (fun a_ U_ => a_ = #[(.ref b), (.ref arr), (.int (1 : Int32))] ∧ Z.Warmed39 U_.vm ∧ U_.heap = h0) (fun _ _ _ _ _ => True) (fun _ U_ o_ U'_ => ∃ v_ L_, o_ = .returned v_ ∧ own_Q4_1 Z b arr  cs  fm  h0 n0 v_ U'_.heap L_ ∧ FrameEnd U_ o_ U'_ L_ own_r4_1.cells own_r4_1.slots) := by
  refine MetFree.of_bodySF (plainFor_of_name own_pn1) hisR ?_
  intro p e s m args below meth c s₁ Bd hml0 hP hK
  obtain ⟨rfl, hZ, hh⟩ := hP
  have hx := Bd.exec
  have hby := Bd.bytes
  have hml : c.maxLocals = 3 := hml0
  have hown : s.vm.findClass "java/lang/String" = some m.cls := findClass_of_methodNamed Bd.named
  have hnm := (name_of_methodNamed Bd.named Bd.method).1
  have X0 : Stand p l e own_r4_1 s m #[(.ref b), (.ref arr), (.int (1 : Int32))] below meth c s₁ [] 0 0 := Stand.of_body Bd
  have e0 : s₁.heap = h0 := by rw [← hh, Bd.state]; rfl
  have N0 := Fr.nil n0
  refine own_in (own_ef4_1 m b arr) ?_
  show own_Go p e below (own_K s (own_Q4_1 Z b arr  cs  fm  h0 n0) own_r4_1.cells own_r4_1.slots) s₁ (mkF m 0 #[.val (.ref b), .val (.ref arr), .val (.int (1 : Int32))] [])
  refine own_st (T' := s₁) (g' := (mkF m 1 #[.val (.ref b), .val (.ref arr), .val (.int (1 : Int32))] [(.ref b)])) (fun t k => ?_) ?_
  · show Steps p.tables e below (s₁.setTop (mkF m 0 #[.val (.ref b), .val (.ref arr), .val (.int (1 : Int32))] [])) t
    refine XS.aloadN X0.here hx rfl (hb hby own_d4_0) rfl rfl ?_
    exact k
  obtain ⟨T1, X1, e1, st1⟩ := initO X0 hx hZ hown (hw _ (List.mem_of_getElem? (i := 20) rfl)) (hw _ (List.mem_of_getElem? (i := 21) rfl)) (hw _ (List.mem_of_getElem? (i := 22) rfl)) e0 (g := (mkF m 1 #[.val (.ref b), .val (.ref arr), .val (.int (1 : Int32))] [(.ref b)])) rfl (by rw [hml]; rfl) rfl (hb hby own_d4_1) (by decide) (W := 0) (by show 2 * 0 + _ ≤ _; exact Nat.le_of_eq rfl) (by decide)
  refine own_st (T' := T1) (g' := (mkF m 4 #[.val (.ref b), .val (.ref arr), .val (.int (1 : Int32))] [])) st1 ?_
  refine own_st (T' := T1) (g' := (mkF m 6 #[.val (.ref b), .val (.ref arr), .val (.int (1 : Int32))] [(.ref arr), (.ref b)])) (fun t k => ?_) ?_
  · show Steps p.tables e below (T1.setTop (mkF m 4 #[.val (.ref b), .val (.ref arr), .val (.int (1 : Int32))] [])) t
    refine XS.aloadN X1.here hx rfl (hb hby own_d4_4) rfl rfl ?_
    refine XS.aloadN X1.here hx rfl (hb hby own_d4_5) rfl rfl ?_
    exact k
  obtain ⟨T2, h2, X2, e2, W2, st2⟩ := putF X1 hx hZ hown (host := "") (Or.inl (hw _ (List.mem_of_getElem? (i := 23) rfl))) Via.refl e1 F_v E_b (Or.inr ⟨(hw _ (List.mem_of_getElem? (i := 24) rfl)), rfl, hnm⟩) (hw _ (List.mem_of_getElem? (i := 11) rfl)) (ty := (.array .byte)) (by decide) rfl rfl (g := (mkF m 6 #[.val (.ref b), .val (.ref arr), .val (.int (1 : Int32))] [(.ref arr), (.ref b)])) rfl rfl (hb hby own_d4_6)
  have N2 := Fr.snoc X2 N0 g_b
  have K2 : Keep h0 h2 [b] := (Keep.refl h0 [b]).wr W2 (Or.inl (List.mem_of_getElem? (i := 0) rfl))
  have Z2 : n0 ≤ h2.size := Nat.le_trans Z0 (Keep.of_wr W2).1
  have O2 := O0.wr W2 g_b
  have fw2 := (F_v.same W2)
  refine own_st (T' := T2) (g' := (mkF m 9 #[.val (.ref b), .val (.ref arr), .val (.int (1 : Int32))] [])) st2 ?_
  refine own_st (T' := T2) (g' := (mkF m 11 #[.val (.ref b), .val (.ref arr), .val (.int (1 : Int32))] [(.int (1 : Int32)), (.ref b)])) (fun t k => ?_) ?_
  · show Steps p.tables e below (T2.setTop (mkF m 9 #[.val (.ref b), .val (.ref arr), .val (.int (1 : Int32))] [])) t
    refine XS.aloadN X2.here hx rfl (hb hby own_d4_9) rfl rfl ?_
    refine XS.iloadN X2.here hx rfl (hb hby own_d4_10) rfl ?_
    exact k
  have f3 := F_c.other W2 (Or.inr (slot_ne (Or.inr (hw _ (List.mem_of_getElem? (i := 26) rfl))) (Or.inr (hw _ (List.mem_of_getElem? (i := 24) rfl))) (by decide) (t := .byte) (t' := (.array .byte)) (by decide) (by decide)))
  have f4 := E_b.wr W2
  obtain ⟨T5, h5, X5, e5, W5, st5⟩ := putFN X2 hx hZ hown (hw _ (List.mem_of_getElem? (i := 25) rfl)) Via.refl e2 f3 f4 (Or.inr ⟨(hw _ (List.mem_of_getElem? (i := 26) rfl)), rfl, hnm⟩) (hw _ (List.mem_of_getElem? (i := 11) rfl)) (ty := .byte) (v' := (.int (1 : Int32))) (by decide) rfl rfl (g := (mkF m 11 #[.val (.ref b), .val (.ref arr), .val (.int (1 : Int32))] [(.int (1 : Int32)), (.ref b)])) rfl rfl (hb hby own_d4_11)
  have N5 := Fr.snoc X5 N2 g_b
  have K5 : Keep h0 h5 [b] := K2.wr W5 (Or.inl (List.mem_of_getElem? (i := 0) rfl))
  have Z5 : n0 ≤ h5.size := Nat.le_trans Z2 (Keep.of_wr W5).1
  have O5 := O2.wr W5 g_b
  have fw5 := (f3.same W5)
  refine own_st (T' := T5) (g' := (mkF m 14 #[.val (.ref b), .val (.ref arr), .val (.int (1 : Int32))] [])) st5 ?_
  have f6 := fw2.other W5 (Or.inr (slot_ne (Or.inr (hw _ (List.mem_of_getElem? (i := 24) rfl))) (Or.inr (hw _ (List.mem_of_getElem? (i := 26) rfl))) (by decide) (t := (.array .byte)) (t' := .byte) (by decide) (by decide)))
  exact own_retV X5 hx Bd (hb hby own_d4_14) e5 (⟨rfl, N5, K5, f6, fw5⟩) (by decide) (by decide)
def own_r2_0 : Room := { frames := 0, cells := 0, slots := 0, locals := 0 }
theorem own_ef2_0 (m : MethodId) (x0 : Int32) : entryFrame m #[(.int x0)] 1 = mkF m 0 #[.val (.int x0)] [] := by first | (simp [entryFrame, mkF, argsToLocals, Value.category]; done) | rfl
def own_Q2_0 (Z : State) (ch : Int32) (cs : Int32) (fm : Value) (h0 : Heap) (n0 : Nat) : Option Value → Heap → List Loc → Prop := fun v h L => v = some (.int (1 : Int32)) ∧ Fr n0 L ∧ h = h0
set_option maxRecDepth 65536 in
set_option maxHeartbeats 40000000 in
theorem own_rm2_0 (l : Launch) (Z : State) (a0 : Array Value) (hw : ∀ d ∈ tables_1, d.before a0 Z = true) (ws : List Jvm.Cond) (ch : Int32) (cs : Int32) (fm : Value) (h0 : Heap) (n0 : Nat) (Z0 : n0 ≤ h0.size) (O0 : Old Z n0 h0) (hc : ¬ (255 : Int32) < ch) (hcs : ¬ cs = (0 : Int32)) (hfm : fm.isRef = true) (S_cs : Sta Z Z.heap "java/lang/String" "COMPACT_STRINGS" "Z" (.int cs)) (S_fm : Sta Z Z.heap "jdk/internal/util/Preconditions" "SIOOBE_FORMATTER" "Ljava/util/function/BiFunction;" fm) (S_ad : Sta Z Z.heap "java/lang/StringUTF16" "$assertionsDisabled" "Z" (.int (1 : Int32))) (S_hb : Sta Z Z.heap "java/lang/StringUTF16" "HI_BYTE_SHIFT" "I" (.int (0 : Int32))) (S_lb : Sta Z Z.heap "java/lang/StringUTF16" "LO_BYTE_SHIFT" "I" (.int (8 : Int32))) :
    MetFree l (⟨"java/lang/StringLatin1", "canEncode", "(C)Z"⟩ : MethodName) (head1 (Jvm.Cond.code (⟨"java/lang/StringLatin1", "canEncode", "(C)Z"⟩ : MethodName) jdk_43_method_3_code 1 (some .boolean) :: ws) own_r2_0) (fun a_ U_ => a_ = #[(.int ch)] ∧ Z.Warmed39 U_.vm ∧ U_.heap = h0) (fun _ _ _ _ _ => True) (fun _ U_ o_ U'_ => ∃ v_ L_, o_ = .returned v_ ∧ own_Q2_0 Z ch  cs  fm  h0 n0 v_ U'_.heap L_ ∧ FrameEnd U_ o_ U'_ L_ own_r2_0.cells own_r2_0.slots) := by
  refine MetFree.of_bodySF (plainFor_of_name own_pn4) hisR ?_
  intro p e s m args below meth c s₁ Bd hml0 hP hK
  obtain ⟨rfl, hZ, hh⟩ := hP
  have hx := Bd.exec
  have hby := Bd.bytes
  have hml : c.maxLocals = 1 := hml0
  have hown : s.vm.findClass "java/lang/StringLatin1" = some m.cls := findClass_of_methodNamed Bd.named
  have hnm := (name_of_methodNamed Bd.named Bd.method).1
  have X0 : Stand p l e own_r2_0 s m #[(.int ch)] below meth c s₁ [] 0 0 := Stand.of_body Bd
  have e0 : s₁.heap = h0 := by rw [← hh, Bd.state]; rfl
  have N0 := Fr.nil n0
  refine own_in (own_ef2_0 m ch) ?_
  show own_Go p e below (own_K s (own_Q2_0 Z ch  cs  fm  h0 n0) own_r2_0.cells own_r2_0.slots) s₁ (mkF m 0 #[.val (.int ch)] [])
  refine own_st (T' := s₁) (g' := (mkF m 12 #[.val (.int ch)] [(.int (1 : Int32))])) (fun t k => ?_) ?_
  · show Steps p.tables e below (s₁.setTop (mkF m 0 #[.val (.int ch)] [])) t
    refine XS.iloadN X0.here hx rfl (hb hby own_d2_0) rfl ?_
    refine XS.sipush X0.here hx rfl (hb hby own_d2_1) ?_
    refine XS.icmpNo X0.here hx rfl (hb hby own_d2_4) rfl (flt hc).2.2.1 ?_
    refine XS.iconst X0.here hx rfl (hb hby own_d2_7) ?_
    refine XS.goto X0.here hx rfl (pc0 := 8) (pc' := 12) rfl (hb hby own_d2_8) (by decide) (by decide) ?_
    exact k
  exact own_retN X0 hx Bd (t := .boolean) (by simp) rfl (hb hby own_d2_12) e0 (⟨rfl, N0, rfl⟩) (by decide) (by decide)
def own_r2_1 : Room := { frames := 0, cells := 0, slots := 0, locals := 0 }
theorem own_ef2_1 (m : MethodId) (x0 : Int32) : entryFrame m #[(.int x0)] 1 = mkF m 0 #[.val (.int x0)] [] := by first | (simp [entryFrame, mkF, argsToLocals, Value.category]; done) | rfl
def own_Q2_1 (Z : State) (ch : Int32) (cs : Int32) (fm : Value) (h0 : Heap) (n0 : Nat) : Option Value → Heap → List Loc → Prop := fun v h L => v = some (.int (0 : Int32)) ∧ Fr n0 L ∧ h = h0
set_option maxRecDepth 65536 in
set_option maxHeartbeats 40000000 in
theorem own_rm2_1 (l : Launch) (Z : State) (a0 : Array Value) (hw : ∀ d ∈ tables_1, d.before a0 Z = true) (ws : List Jvm.Cond) (ch : Int32) (cs : Int32) (fm : Value) (h0 : Heap) (n0 : Nat) (Z0 : n0 ≤ h0.size) (O0 : Old Z n0 h0) (hc : (255 : Int32) < ch) (hcs : ¬ cs = (0 : Int32)) (hfm : fm.isRef = true) (S_cs : Sta Z Z.heap "java/lang/String" "COMPACT_STRINGS" "Z" (.int cs)) (S_fm : Sta Z Z.heap "jdk/internal/util/Preconditions" "SIOOBE_FORMATTER" "Ljava/util/function/BiFunction;" fm) (S_ad : Sta Z Z.heap "java/lang/StringUTF16" "$assertionsDisabled" "Z" (.int (1 : Int32))) (S_hb : Sta Z Z.heap "java/lang/StringUTF16" "HI_BYTE_SHIFT" "I" (.int (0 : Int32))) (S_lb : Sta Z Z.heap "java/lang/StringUTF16" "LO_BYTE_SHIFT" "I" (.int (8 : Int32))) :
    MetFree l (⟨"java/lang/StringLatin1", "canEncode", "(C)Z"⟩ : MethodName) (head1 (Jvm.Cond.code (⟨"java/lang/StringLatin1", "canEncode", "(C)Z"⟩ : MethodName) jdk_43_method_3_code 1 (some .boolean) :: ws) own_r2_1) (fun a_ U_ => a_ = #[(.int ch)] ∧ Z.Warmed39 U_.vm ∧ U_.heap = h0) (fun _ _ _ _ _ => True) (fun _ U_ o_ U'_ => ∃ v_ L_, o_ = .returned v_ ∧ own_Q2_1 Z ch  cs  fm  h0 n0 v_ U'_.heap L_ ∧ FrameEnd U_ o_ U'_ L_ own_r2_1.cells own_r2_1.slots) := by
  refine MetFree.of_bodySF (plainFor_of_name own_pn4) hisR ?_
  intro p e s m args below meth c s₁ Bd hml0 hP hK
  obtain ⟨rfl, hZ, hh⟩ := hP
  have hx := Bd.exec
  have hby := Bd.bytes
  have hml : c.maxLocals = 1 := hml0
  have hown : s.vm.findClass "java/lang/StringLatin1" = some m.cls := findClass_of_methodNamed Bd.named
  have hnm := (name_of_methodNamed Bd.named Bd.method).1
  have X0 : Stand p l e own_r2_1 s m #[(.int ch)] below meth c s₁ [] 0 0 := Stand.of_body Bd
  have e0 : s₁.heap = h0 := by rw [← hh, Bd.state]; rfl
  have N0 := Fr.nil n0
  refine own_in (own_ef2_1 m ch) ?_
  show own_Go p e below (own_K s (own_Q2_1 Z ch  cs  fm  h0 n0) own_r2_1.cells own_r2_1.slots) s₁ (mkF m 0 #[.val (.int ch)] [])
  refine own_st (T' := s₁) (g' := (mkF m 12 #[.val (.int ch)] [(.int (0 : Int32))])) (fun t k => ?_) ?_
  · show Steps p.tables e below (s₁.setTop (mkF m 0 #[.val (.int ch)] [])) t
    refine XS.iloadN X0.here hx rfl (hb hby own_d2_0) rfl ?_
    refine XS.sipush X0.here hx rfl (hb hby own_d2_1) ?_
    refine XS.icmpYes X0.here hx rfl (pc0 := 4) (pc' := 11) rfl (hb hby own_d2_4) rfl (tlt hc).2.2.1 (by decide) (by decide) ?_
    refine XS.iconst X0.here hx rfl (hb hby own_d2_11) ?_
    exact k
  exact own_retN X0 hx Bd (t := .boolean) (by simp) rfl (hb hby own_d2_12) e0 (⟨rfl, N0, rfl⟩) (by decide) (by decide)
def own_r1_0 : Room := { frames := 2, cells := 2, slots := 5, locals := 27 }
theorem own_ef1_0 (m : MethodId) (x0 : Int32) : entryFrame m #[(.int x0)] 1 = mkF m 0 #[.val (.int x0)] [] := by first | (simp [entryFrame, mkF, argsToLocals, Value.category]; done) | rfl
def own_Q1_0 (Z : State) (ch : Int32) (cs : Int32) (fm : Value) (h0 : Heap) (n0 : Nat) : Option Value → Heap → List Loc → Prop := fun v h L => ∃ r t k, v = some (.ref r) ∧ Fr n0 L ∧ Keep h0 h [] ∧ n0 ≤ r ∧ h0.size ≤ r ∧ Exa Z h r "java/lang/String" ∧ Fld Z h r "java/lang/String" "value" "[B" (.ref t) ∧ Fld Z h r "java/lang/String" "coder" "B" (.int (0 : Int32)) ∧ Arv Z h t k .byte (1 : Int32) [(.int (ch.toInt8.toInt32))] (.int (0 : Int32))
set_option maxRecDepth 65536 in
set_option maxHeartbeats 40000000 in
theorem own_rm1_0 (l : Launch) (Z : State) (a0 : Array Value) (hw : ∀ d ∈ tables_1, d.before a0 Z = true) (ws : List Jvm.Cond) (ch : Int32) (cs : Int32) (fm : Value) (h0 : Heap) (n0 : Nat) (Z0 : n0 ≤ h0.size) (O0 : Old Z n0 h0) (hc : ¬ (255 : Int32) < ch) (hcs : ¬ cs = (0 : Int32)) (hfm : fm.isRef = true) (S_cs : Sta Z Z.heap "java/lang/String" "COMPACT_STRINGS" "Z" (.int cs)) (S_fm : Sta Z Z.heap "jdk/internal/util/Preconditions" "SIOOBE_FORMATTER" "Ljava/util/function/BiFunction;" fm) (S_ad : Sta Z Z.heap "java/lang/StringUTF16" "$assertionsDisabled" "Z" (.int (1 : Int32))) (S_hb : Sta Z Z.heap "java/lang/StringUTF16" "HI_BYTE_SHIFT" "I" (.int (0 : Int32))) (S_lb : Sta Z Z.heap "java/lang/StringUTF16" "LO_BYTE_SHIFT" "I" (.int (8 : Int32))) :
    MetFree l (⟨"java/lang/String", "valueOf", "(C)Ljava/lang/String;"⟩ : MethodName) (head1 (Jvm.Cond.code (⟨"java/lang/String", "valueOf", "(C)Ljava/lang/String;"⟩ : MethodName) jdk_42_method_139_code 1 (some (.object "java/lang/String")) :: ws) own_r1_0) (fun a_ U_ => a_ = #[(.int ch)] ∧ Z.Warmed39 U_.vm ∧ U_.heap = h0) (fun _ _ _ _ _ => True) (fun _ U_ o_ U'_ => ∃ v_ L_, o_ = .returned v_ ∧ own_Q1_0 Z ch  cs  fm  h0 n0 v_ U'_.heap L_ ∧ FrameEnd U_ o_ U'_ L_ own_r1_0.cells own_r1_0.slots) := by
  refine MetFree.of_bodySF (plainFor_of_name own_pn1) hisR ?_
  intro p e s m args below meth c s₁ Bd hml0 hP hK
  obtain ⟨rfl, hZ, hh⟩ := hP
  have hx := Bd.exec
  have hby := Bd.bytes
  have hml : c.maxLocals = 1 := hml0
  have hown : s.vm.findClass "java/lang/String" = some m.cls := findClass_of_methodNamed Bd.named
  have hnm := (name_of_methodNamed Bd.named Bd.method).1
  have X0 : Stand p l e own_r1_0 s m #[(.int ch)] below meth c s₁ [] 0 0 := Stand.of_body Bd
  have e0 : s₁.heap = h0 := by rw [← hh, Bd.state]; rfl
  have N0 := Fr.nil n0
  refine own_in (own_ef1_0 m ch) ?_
  show own_Go p e below (own_K s (own_Q1_0 Z ch  cs  fm  h0 n0) own_r1_0.cells own_r1_0.slots) s₁ (mkF m 0 #[.val (.int ch)] [])
  have f1 := S_cs.ext O0.2
  obtain ⟨T2, X2, e2, st2⟩ := getS2 X0 hx hZ hown (host := "") (Or.inl (hw _ (List.mem_of_getElem? (i := 5) rfl))) Via.refl e0 f1 (g := (mkF m 0 #[.val (.int ch)] [])) rfl (hb hby own_d1_0)
  refine own_st (T' := T2) (g' := (mkF m 3 #[.val (.int ch)] [(.int cs)])) st2 ?_
  refine own_st (T' := T2) (g' := (mkF m 7 #[.val (.int ch)] [(.int ch)])) (fun t k => ?_) ?_
  · show Steps p.tables e below (T2.setTop (mkF m 3 #[.val (.int ch)] [(.int cs)])) t
    refine XS.ifNo X2.here hx rfl (hb hby own_d1_3) rfl ((if0 _ _).trans (feq hcs).1) ?_
    refine XS.iloadN X2.here hx rfl (hb hby own_d1_6) rfl ?_
    exact k
  obtain ⟨_, _, ⟨T3, L3, c3, n3⟩, -, X3, ⟨Lc3, hQ3, l3, y3, z3⟩, st3⟩ := Jvm.LawKit.callS X2 hx (y := (⟨"java/lang/StringLatin1", "canEncode", "(C)Z"⟩ : MethodName)) hown (mvT hZ (hw _ (List.mem_of_getElem? (i := 6) rfl))) (mvT hZ (hw _ (List.mem_of_getElem? (i := 7) rfl))) (mvT hZ (hw _ (List.mem_of_getElem? (i := 8) rfl))) (mvT hZ (hw _ (List.mem_of_getElem? (i := 9) rfl))) (by decide) (backOf (W := 0) (own_rm2_0 l Z a0 hw [] ch cs fm h0 n0 Z0 O0 hc hcs hfm S_cs S_fm S_ad S_hb S_lb) hZ (hw _ (List.mem_of_getElem? (i := 9) rfl)) (hw _ (List.mem_of_getElem? (i := 8) rfl)) (by decide) (by decide)) (g := (mkF m 7 #[.val (.int ch)] [(.int ch)])) rfl (by rw [hml]; rfl) (argsL := [(.int ch)]) (rest := []) (lenOf own_pd13 rfl) rfl (by show 2 * 0 + _ ≤ _; exact Nat.le_of_eq rfl) (hb hby own_d1_7) (fun _ _ => ⟨rfl, e2, (by decide : 0 + 0 ≤ _), (by decide : 0 + 0 ≤ _)⟩)
  dsimp only [Pt.U, Pt.locs, Pt.cells, Pt.slots] at X3 l3 y3 z3 st3 hQ3
  subst l3 y3 z3
  obtain ⟨rfl, N3q, e3⟩ := hQ3
  have N3 := Fr.app N0 N3q
  refine own_st (T' := T3) (g' := (mkF m 10 #[.val (.int ch)] [(.int (1 : Int32))])) st3 ?_
  refine own_st (T' := T3) (g' := (mkF m 13 #[.val (.int ch)] [])) (fun t k => ?_) ?_
  · show Steps p.tables e below (T3.setTop (mkF m 10 #[.val (.int ch)] [(.int (1 : Int32))])) t
    refine XS.ifNo X3.here hx rfl (hb hby own_d1_10) rfl ((if0 _ _).trans (feq (by decide : ¬ ((1 : Int32) = (0 : Int32)))).1) ?_
    exact k
  obtain ⟨T4, h4, X4, e4, E4, A4, D4, U4, st4⟩ := newO X3 hx hZ hown (hw _ (List.mem_of_getElem? (i := 10) rfl)) (hw _ (List.mem_of_getElem? (i := 11) rfl)) (hw _ (List.mem_of_getElem? (i := 3) rfl)) e3 (g := (mkF m 13 #[.val (.int ch)] [])) rfl (hb hby own_d1_13) (by decide) (by decide)
  obtain ⟨b4, g4⟩ : ∃ z, z = h0.size := ⟨_, rfl⟩
  rw [← g4] at A4 D4 U4 st4
  have sz4 : h0.size ≤ b4 := Nat.le_of_eq g4.symm
  have g_b4 : n0 ≤ b4 := Nat.le_trans Z0 sz4
  have hz_b4 : h0.size ≤ b4 := Nat.le_trans (Keep.refl h0 []).1 sz4
  have K4 : Keep h0 h4 [] := (Keep.refl h0 []).ext E4
  have Z4 : n0 ≤ h4.size := Nat.le_trans Z0 E4.1
  have O4 := O0.ext E4
  refine own_st (T' := T4) (g' := (mkF m 16 #[.val (.int ch)] [(.ref b4)])) st4 ?_
  refine own_st (T' := T4) (g' := (mkF m 18 #[.val (.int ch)] [(.int ch), (.ref b4), (.ref b4)])) (fun t k => ?_) ?_
  · show Steps p.tables e below (T4.setTop (mkF m 16 #[.val (.int ch)] [(.ref b4)])) t
    refine XS.dup X4.here hx rfl (hb hby own_d1_16) rfl rfl ?_
    refine XS.iloadN X4.here hx rfl (hb hby own_d1_17) rfl ?_
    exact k
  obtain ⟨_, _, ⟨T5, L5, c5, n5⟩, -, X5, ⟨Lc5, hQ5, l5, y5, z5⟩, st5⟩ := Jvm.LawKit.callS X4 hx (y := (⟨"java/lang/StringLatin1", "toBytes", "(C)[B"⟩ : MethodName)) hown (mvT hZ (hw _ (List.mem_of_getElem? (i := 12) rfl))) (mvT hZ (hw _ (List.mem_of_getElem? (i := 13) rfl))) (mvT hZ (hw _ (List.mem_of_getElem? (i := 8) rfl))) (mvT hZ (hw _ (List.mem_of_getElem? (i := 14) rfl))) (by decide) (backOf (W := 2) (own_rm3 l Z a0 hw [] ch cs fm h4 n0 Z4 O4  hcs hfm S_cs S_fm S_ad S_hb S_lb) hZ (hw _ (List.mem_of_getElem? (i := 14) rfl)) (hw _ (List.mem_of_getElem? (i := 8) rfl)) (by decide) (by decide)) (g := (mkF m 18 #[.val (.int ch)] [(.int ch), (.ref b4), (.ref b4)])) rfl (by rw [hml]; rfl) (argsL := [(.int ch)]) (rest := [(.ref b4), (.ref b4)]) (lenOf own_pd14 rfl) rfl (by show 2 * 0 + _ ≤ _; exact Nat.le_of_eq rfl) (hb hby own_d1_18) (fun _ _ => ⟨rfl, e4, (by decide : 1 + 1 ≤ _), (by decide : 4 + 1 ≤ _)⟩)
  dsimp only [Pt.U, Pt.locs, Pt.cells, Pt.slots] at X5 l5 y5 z5 st5 hQ5
  subst l5 y5 z5
  obtain ⟨h5, e5⟩ : ∃ z, T5.heap = z := ⟨_, rfl⟩
  rw [e5] at hQ5
  obtain ⟨r5, k5, rfl, N5q, Kc5, g5, hz5, Vc5⟩ := hQ5
  have N5 := Fr.app N3 N5q
  have ne_b4_r5 : b4 ≠ r5 := Nat.ne_of_lt (Nat.lt_of_lt_of_le A4.lt hz5)
  have hwr5 : h0.size ≤ r5 := Nat.le_trans K4.1 hz5
  have K5 : Keep h0 h5 [] := K4.trans Kc5 all0
  have Z5 : n0 ≤ h5.size := Nat.le_trans Z4 Kc5.1
  have O5 := O4.keep Kc5 all0
  refine own_st (T' := T5) (g' := (mkF m 21 #[.val (.int ch)] [(.ref r5), (.ref b4), (.ref b4)])) st5 ?_
  refine own_st (T' := T5) (g' := (mkF m 22 #[.val (.int ch)] [(.int (0 : Int32)), (.ref r5), (.ref b4), (.ref b4)])) (fun t k => ?_) ?_
  · show Steps p.tables e below (T5.setTop (mkF m 21 #[.val (.int ch)] [(.ref r5), (.ref b4), (.ref b4)])) t
    refine XS.iconst X5.here hx rfl (hb hby own_d1_21) ?_
    exact k
  have f6 := A4.keep Kc5
  have f7 := (D4 (Or.inr (hw _ (List.mem_of_getElem? (i := 24) rfl))) (ty := (.array .byte)) (by decide) : Fld Z h4 b4 "java/lang/String" "value" "[B" .null).keep Kc5 nin0
  have f8 := (D4 (Or.inr (hw _ (List.mem_of_getElem? (i := 26) rfl))) (ty := .byte) (by decide) : Fld Z h4 b4 "java/lang/String" "coder" "B" (.int (0 : Int32))).keep Kc5 nin0
  obtain ⟨_, _, ⟨T9, L9, c9, n9⟩, -, X9, ⟨Lc9, hQ9, l9, y9, z9⟩, st9⟩ := X5.specialBack hx (y := (⟨"java/lang/String", "<init>", "([BB)V"⟩ : MethodName)) rfl hown (mvT hZ (hw _ (List.mem_of_getElem? (i := 16) rfl))) (mvT hZ (hw _ (List.mem_of_getElem? (i := 17) rfl))) (mvT hZ (hw _ (List.mem_of_getElem? (i := 19) rfl))) (by decide) (backOf (W := 1) (own_rm4_0 l Z a0 hw [] b4 r5 cs fm h5 n0 Z5 O5 f6 f7 f8 g_b4 hcs hfm S_cs S_fm S_ad S_hb S_lb) hZ (hw _ (List.mem_of_getElem? (i := 19) rfl)) (hw _ (List.mem_of_getElem? (i := 3) rfl)) (by decide) (by decide)) (g := (mkF m 22 #[.val (.int ch)] [(.int (0 : Int32)), (.ref r5), (.ref b4), (.ref b4)])) rfl (by rw [hml]; rfl) (Steps.refl _) (a := b4) (argsL := [(.ref r5), (.int (0 : Int32))]) (rest := [(.ref b4)]) (lenOf own_pd15 rfl) rfl (by show 2 * 0 + _ ≤ _; exact Nat.le_of_eq rfl) (hb hby own_d1_22) (fun _ _ => ⟨rfl, e5, (by decide : 2 + 0 ≤ _), (by decide : 5 + 0 ≤ _)⟩)
  dsimp only [Pt.U, Pt.locs, Pt.cells, Pt.slots] at X9 l9 y9 z9 st9 hQ9
  subst l9 y9 z9
  obtain ⟨h9, e9⟩ : ∃ z, T9.heap = z := ⟨_, rfl⟩
  rw [e9] at hQ9
  obtain ⟨rfl, N9q, Kc9, Fv9, Fo9⟩ := hQ9
  have N9 := Fr.app N5 N9q
  have K9 : Keep h0 h9 [] := K5.trans Kc9 (allS (Or.inr hz_b4) all0)
  have Z9 : n0 ≤ h9.size := Nat.le_trans Z5 Kc9.1
  have O9 := O5.keep Kc9 (allS g_b4 all0)
  refine own_tr (T' := T9) (g' := (mkF m 25 #[.val (.int ch)] [(.ref b4)])) st9 ?_
  have f10 := f6.keep Kc9
  have f11 := Vc5.keep Kc9 (ninS (Ne.symm ne_b4_r5) nin0)
  exact own_retA X9 hx Bd rfl rfl (hb hby own_d1_25) e9 (⟨b4, r5, k5, rfl, N9, K9, g_b4, hz_b4, f10, Fv9, Fo9, f11⟩) (by decide) (by decide)
def own_r1_1 : Room := { frames := 2, cells := 2, slots := 6, locals := 29 }
theorem own_ef1_1 (m : MethodId) (x0 : Int32) : entryFrame m #[(.int x0)] 1 = mkF m 0 #[.val (.int x0)] [] := by first | (simp [entryFrame, mkF, argsToLocals, Value.category]; done) | rfl
def own_Q1_1 (Z : State) (ch : Int32) (cs : Int32) (fm : Value) (h0 : Heap) (n0 : Nat) : Option Value → Heap → List Loc → Prop := fun v h L => ∃ r t k, v = some (.ref r) ∧ Fr n0 L ∧ Keep h0 h [] ∧ n0 ≤ r ∧ h0.size ≤ r ∧ Exa Z h r "java/lang/String" ∧ Fld Z h r "java/lang/String" "value" "[B" (.ref t) ∧ Fld Z h r "java/lang/String" "coder" "B" (.int (1 : Int32)) ∧ Arv Z h t k .byte (2 : Int32) [(.int ((ch >>> ((0 : Int32) &&& 31)).toInt8.toInt32)), (.int ((ch >>> ((8 : Int32) &&& 31)).toInt8.toInt32))] (.int (0 : Int32))
set_option maxRecDepth 65536 in
set_option maxHeartbeats 40000000 in
theorem own_rm1_1 (l : Launch) (Z : State) (a0 : Array Value) (hw : ∀ d ∈ tables_1, d.before a0 Z = true) (ws : List Jvm.Cond) (ch : Int32) (cs : Int32) (fm : Value) (h0 : Heap) (n0 : Nat) (Z0 : n0 ≤ h0.size) (O0 : Old Z n0 h0) (hc : (255 : Int32) < ch) (hcs : ¬ cs = (0 : Int32)) (hfm : fm.isRef = true) (S_cs : Sta Z Z.heap "java/lang/String" "COMPACT_STRINGS" "Z" (.int cs)) (S_fm : Sta Z Z.heap "jdk/internal/util/Preconditions" "SIOOBE_FORMATTER" "Ljava/util/function/BiFunction;" fm) (S_ad : Sta Z Z.heap "java/lang/StringUTF16" "$assertionsDisabled" "Z" (.int (1 : Int32))) (S_hb : Sta Z Z.heap "java/lang/StringUTF16" "HI_BYTE_SHIFT" "I" (.int (0 : Int32))) (S_lb : Sta Z Z.heap "java/lang/StringUTF16" "LO_BYTE_SHIFT" "I" (.int (8 : Int32))) :
    MetFree l (⟨"java/lang/String", "valueOf", "(C)Ljava/lang/String;"⟩ : MethodName) (head1 (Jvm.Cond.code (⟨"java/lang/String", "valueOf", "(C)Ljava/lang/String;"⟩ : MethodName) jdk_42_method_139_code 1 (some (.object "java/lang/String")) :: ws) own_r1_1) (fun a_ U_ => a_ = #[(.int ch)] ∧ Z.Warmed39 U_.vm ∧ U_.heap = h0) (fun _ _ _ _ _ => True) (fun _ U_ o_ U'_ => ∃ v_ L_, o_ = .returned v_ ∧ own_Q1_1 Z ch  cs  fm  h0 n0 v_ U'_.heap L_ ∧ FrameEnd U_ o_ U'_ L_ own_r1_1.cells own_r1_1.slots) := by
  refine MetFree.of_bodySF (plainFor_of_name own_pn1) hisR ?_
  intro p e s m args below meth c s₁ Bd hml0 hP hK
  obtain ⟨rfl, hZ, hh⟩ := hP
  have hx := Bd.exec
  have hby := Bd.bytes
  have hml : c.maxLocals = 1 := hml0
  have hown : s.vm.findClass "java/lang/String" = some m.cls := findClass_of_methodNamed Bd.named
  have hnm := (name_of_methodNamed Bd.named Bd.method).1
  have X0 : Stand p l e own_r1_1 s m #[(.int ch)] below meth c s₁ [] 0 0 := Stand.of_body Bd
  have e0 : s₁.heap = h0 := by rw [← hh, Bd.state]; rfl
  have N0 := Fr.nil n0
  refine own_in (own_ef1_1 m ch) ?_
  show own_Go p e below (own_K s (own_Q1_1 Z ch  cs  fm  h0 n0) own_r1_1.cells own_r1_1.slots) s₁ (mkF m 0 #[.val (.int ch)] [])
  have f1 := S_cs.ext O0.2
  obtain ⟨T2, X2, e2, st2⟩ := getS2 X0 hx hZ hown (host := "") (Or.inl (hw _ (List.mem_of_getElem? (i := 5) rfl))) Via.refl e0 f1 (g := (mkF m 0 #[.val (.int ch)] [])) rfl (hb hby own_d1_0)
  refine own_st (T' := T2) (g' := (mkF m 3 #[.val (.int ch)] [(.int cs)])) st2 ?_
  refine own_st (T' := T2) (g' := (mkF m 7 #[.val (.int ch)] [(.int ch)])) (fun t k => ?_) ?_
  · show Steps p.tables e below (T2.setTop (mkF m 3 #[.val (.int ch)] [(.int cs)])) t
    refine XS.ifNo X2.here hx rfl (hb hby own_d1_3) rfl ((if0 _ _).trans (feq hcs).1) ?_
    refine XS.iloadN X2.here hx rfl (hb hby own_d1_6) rfl ?_
    exact k
  obtain ⟨_, _, ⟨T3, L3, c3, n3⟩, -, X3, ⟨Lc3, hQ3, l3, y3, z3⟩, st3⟩ := Jvm.LawKit.callS X2 hx (y := (⟨"java/lang/StringLatin1", "canEncode", "(C)Z"⟩ : MethodName)) hown (mvT hZ (hw _ (List.mem_of_getElem? (i := 6) rfl))) (mvT hZ (hw _ (List.mem_of_getElem? (i := 7) rfl))) (mvT hZ (hw _ (List.mem_of_getElem? (i := 8) rfl))) (mvT hZ (hw _ (List.mem_of_getElem? (i := 9) rfl))) (by decide) (backOf (W := 0) (own_rm2_1 l Z a0 hw [] ch cs fm h0 n0 Z0 O0 hc hcs hfm S_cs S_fm S_ad S_hb S_lb) hZ (hw _ (List.mem_of_getElem? (i := 9) rfl)) (hw _ (List.mem_of_getElem? (i := 8) rfl)) (by decide) (by decide)) (g := (mkF m 7 #[.val (.int ch)] [(.int ch)])) rfl (by rw [hml]; rfl) (argsL := [(.int ch)]) (rest := []) (lenOf own_pd13 rfl) rfl (by show 2 * 0 + _ ≤ _; exact Nat.le_of_eq rfl) (hb hby own_d1_7) (fun _ _ => ⟨rfl, e2, (by decide : 0 + 0 ≤ _), (by decide : 0 + 0 ≤ _)⟩)
  dsimp only [Pt.U, Pt.locs, Pt.cells, Pt.slots] at X3 l3 y3 z3 st3 hQ3
  subst l3 y3 z3
  obtain ⟨rfl, N3q, e3⟩ := hQ3
  have N3 := Fr.app N0 N3q
  refine own_st (T' := T3) (g' := (mkF m 10 #[.val (.int ch)] [(.int (0 : Int32))])) st3 ?_
  refine own_st (T' := T3) (g' := (mkF m 26 #[.val (.int ch)] [])) (fun t k => ?_) ?_
  · show Steps p.tables e below (T3.setTop (mkF m 10 #[.val (.int ch)] [(.int (0 : Int32))])) t
    refine XS.ifYes X3.here hx rfl (pc0 := 10) (pc' := 26) rfl (hb hby own_d1_10) rfl ((if0 _ _).trans (teq (rfl : (0 : Int32) = (0 : Int32))).1) (by decide) (by decide) ?_
    exact k
  obtain ⟨T4, h4, X4, e4, E4, A4, D4, U4, st4⟩ := newO X3 hx hZ hown (hw _ (List.mem_of_getElem? (i := 10) rfl)) (hw _ (List.mem_of_getElem? (i := 11) rfl)) (hw _ (List.mem_of_getElem? (i := 3) rfl)) e3 (g := (mkF m 26 #[.val (.int ch)] [])) rfl (hb hby own_d1_26) (by decide) (by decide)
  obtain ⟨b4, g4⟩ : ∃ z, z = h0.size := ⟨_, rfl⟩
  rw [← g4] at A4 D4 U4 st4
  have sz4 : h0.size ≤ b4 := Nat.le_of_eq g4.symm
  have g_b4 : n0 ≤ b4 := Nat.le_trans Z0 sz4
  have hz_b4 : h0.size ≤ b4 := Nat.le_trans (Keep.refl h0 []).1 sz4
  have K4 : Keep h0 h4 [] := (Keep.refl h0 []).ext E4
  have Z4 : n0 ≤ h4.size := Nat.le_trans Z0 E4.1
  have O4 := O0.ext E4
  refine own_st (T' := T4) (g' := (mkF m 29 #[.val (.int ch)] [(.ref b4)])) st4 ?_
  refine own_st (T' := T4) (g' := (mkF m 31 #[.val (.int ch)] [(.int ch), (.ref b4), (.ref b4)])) (fun t k => ?_) ?_
  · show Steps p.tables e below (T4.setTop (mkF m 29 #[.val (.int ch)] [(.ref b4)])) t
    refine XS.dup X4.here hx rfl (hb hby own_d1_29) rfl rfl ?_
    refine XS.iloadN X4.here hx rfl (hb hby own_d1_30) rfl ?_
    exact k
  obtain ⟨_, _, ⟨T5, L5, c5, n5⟩, -, X5, ⟨Lc5, hQ5, l5, y5, z5⟩, st5⟩ := Jvm.LawKit.callS X4 hx (y := (⟨"java/lang/StringUTF16", "toBytes", "(C)[B"⟩ : MethodName)) hown (mvT hZ (hw _ (List.mem_of_getElem? (i := 118) rfl))) (mvT hZ (hw _ (List.mem_of_getElem? (i := 119) rfl))) (mvT hZ (hw _ (List.mem_of_getElem? (i := 81) rfl))) (mvT hZ (hw _ (List.mem_of_getElem? (i := 120) rfl))) (by decide) (backOf (W := 2) (own_rm27 l Z a0 hw [] ch cs fm h4 n0 Z4 O4  hcs hfm S_cs S_fm S_ad S_hb S_lb) hZ (hw _ (List.mem_of_getElem? (i := 120) rfl)) (hw _ (List.mem_of_getElem? (i := 81) rfl)) (by decide) (by decide)) (g := (mkF m 31 #[.val (.int ch)] [(.int ch), (.ref b4), (.ref b4)])) rfl (by rw [hml]; rfl) (argsL := [(.int ch)]) (rest := [(.ref b4), (.ref b4)]) (lenOf own_pd14 rfl) rfl (by show 2 * 0 + _ ≤ _; exact Nat.le_of_eq rfl) (hb hby own_d1_31) (fun _ _ => ⟨rfl, e4, (by decide : 1 + 1 ≤ _), (by decide : 4 + 2 ≤ _)⟩)
  dsimp only [Pt.U, Pt.locs, Pt.cells, Pt.slots] at X5 l5 y5 z5 st5 hQ5
  subst l5 y5 z5
  obtain ⟨h5, e5⟩ : ∃ z, T5.heap = z := ⟨_, rfl⟩
  rw [e5] at hQ5
  obtain ⟨r5, k5, rfl, N5q, Kc5, g5, hz5, Vc5⟩ := hQ5
  have N5 := Fr.app N3 N5q
  have ne_b4_r5 : b4 ≠ r5 := Nat.ne_of_lt (Nat.lt_of_lt_of_le A4.lt hz5)
  have hwr5 : h0.size ≤ r5 := Nat.le_trans K4.1 hz5
  have K5 : Keep h0 h5 [] := K4.trans Kc5 all0
  have Z5 : n0 ≤ h5.size := Nat.le_trans Z4 Kc5.1
  have O5 := O4.keep Kc5 all0
  refine own_st (T' := T5) (g' := (mkF m 34 #[.val (.int ch)] [(.ref r5), (.ref b4), (.ref b4)])) st5 ?_
  refine own_st (T' := T5) (g' := (mkF m 35 #[.val (.int ch)] [(.int (1 : Int32)), (.ref r5), (.ref b4), (.ref b4)])) (fun t k => ?_) ?_
  · show Steps p.tables e below (T5.setTop (mkF m 34 #[.val (.int ch)] [(.ref r5), (.ref b4), (.ref b4)])) t
    refine XS.iconst X5.here hx rfl (hb hby own_d1_34) ?_
    exact k
  have f6 := A4.keep Kc5
  have f7 := (D4 (Or.inr (hw _ (List.mem_of_getElem? (i := 24) rfl))) (ty := (.array .byte)) (by decide) : Fld Z h4 b4 "java/lang/String" "value" "[B" .null).keep Kc5 nin0
  have f8 := (D4 (Or.inr (hw _ (List.mem_of_getElem? (i := 26) rfl))) (ty := .byte) (by decide) : Fld Z h4 b4 "java/lang/String" "coder" "B" (.int (0 : Int32))).keep Kc5 nin0
  obtain ⟨_, _, ⟨T9, L9, c9, n9⟩, -, X9, ⟨Lc9, hQ9, l9, y9, z9⟩, st9⟩ := X5.specialBack hx (y := (⟨"java/lang/String", "<init>", "([BB)V"⟩ : MethodName)) rfl hown (mvT hZ (hw _ (List.mem_of_getElem? (i := 16) rfl))) (mvT hZ (hw _ (List.mem_of_getElem? (i := 17) rfl))) (mvT hZ (hw _ (List.mem_of_getElem? (i := 19) rfl))) (by decide) (backOf (W := 1) (own_rm4_1 l Z a0 hw [] b4 r5 cs fm h5 n0 Z5 O5 f6 f7 f8 g_b4 hcs hfm S_cs S_fm S_ad S_hb S_lb) hZ (hw _ (List.mem_of_getElem? (i := 19) rfl)) (hw _ (List.mem_of_getElem? (i := 3) rfl)) (by decide) (by decide)) (g := (mkF m 35 #[.val (.int ch)] [(.int (1 : Int32)), (.ref r5), (.ref b4), (.ref b4)])) rfl (by rw [hml]; rfl) (Steps.refl _) (a := b4) (argsL := [(.ref r5), (.int (1 : Int32))]) (rest := [(.ref b4)]) (lenOf own_pd15 rfl) rfl (by show 2 * 0 + _ ≤ _; exact Nat.le_of_eq rfl) (hb hby own_d1_35) (fun _ _ => ⟨rfl, e5, (by decide : 2 + 0 ≤ _), (by decide : 6 + 0 ≤ _)⟩)
  dsimp only [Pt.U, Pt.locs, Pt.cells, Pt.slots] at X9 l9 y9 z9 st9 hQ9
  subst l9 y9 z9
  obtain ⟨h9, e9⟩ : ∃ z, T9.heap = z := ⟨_, rfl⟩
  rw [e9] at hQ9
  obtain ⟨rfl, N9q, Kc9, Fv9, Fo9⟩ := hQ9
  have N9 := Fr.app N5 N9q
  have K9 : Keep h0 h9 [] := K5.trans Kc9 (allS (Or.inr hz_b4) all0)
  have Z9 : n0 ≤ h9.size := Nat.le_trans Z5 Kc9.1
  have O9 := O5.keep Kc9 (allS g_b4 all0)
  refine own_tr (T' := T9) (g' := (mkF m 38 #[.val (.int ch)] [(.ref b4)])) st9 ?_
  have f10 := f6.keep Kc9
  have f11 := Vc5.keep Kc9 (ninS (Ne.symm ne_b4_r5) nin0)
  exact own_retA X9 hx Bd rfl rfl (hb hby own_d1_38) e9 (⟨b4, r5, k5, rfl, N9, K9, g_b4, hz_b4, f10, Fv9, Fo9, f11⟩) (by decide) (by decide)
def own_r6_0 : Room := { frames := 2, cells := 0, slots := 0, locals := 24 }
theorem own_ef6_0 (m : MethodId) (x0 : Addr) (x1 : Addr) (x2 : Int32) : entryFrame m #[(.ref x0), (.ref x1), (.int x2), (.int (0 : Int32))] 4 = mkF m 0 #[.val (.ref x0), .val (.ref x1), .val (.int x2), .val (.int (0 : Int32))] [] := by first | (simp [entryFrame, mkF, argsToLocals, Value.category]; done) | rfl
def own_Q6_0 (Z : State) (b sx : Addr) (po : Int32) (cs : Int32) (fm : Value) (h0 : Heap) (n0 : Nat) : Option Value → Heap → List Loc → Prop := fun v h L => v = none ∧ Fr n0 L ∧ Keep h0 h [b] ∧ Fld Z h b "com/example/vested_roles/vestedroles/Tokens$Token" "text" "Ljava/lang/String;" (.ref sx) ∧ Fld Z h b "com/example/vested_roles/vestedroles/Tokens$Token" "isName" "Z" (.int (0 : Int32))
set_option maxRecDepth 65536 in
set_option maxHeartbeats 40000000 in
theorem own_rm6_0 (l : Launch) (Z : State) (a0 : Array Value) (hw : ∀ d ∈ tables_1, d.before a0 Z = true) (ws : List Jvm.Cond) (b sx : Addr) (po : Int32) (cs : Int32) (fm : Value) (h0 : Heap) (n0 : Nat) (Z0 : n0 ≤ h0.size) (O0 : Old Z n0 h0) (E_b : Exa Z h0 b "com/example/vested_roles/vestedroles/Tokens$Token") (F0 : Fld Z h0 b "com/example/vested_roles/vestedroles/Tokens$Token" "text" "Ljava/lang/String;" .null) (F1 : Fld Z h0 b "com/example/vested_roles/vestedroles/Tokens$Token" "position" "I" (.int (0 : Int32))) (F2 : Fld Z h0 b "com/example/vested_roles/vestedroles/Tokens$Token" "isName" "Z" (.int (0 : Int32))) (g_b : n0 ≤ b) (hcs : ¬ cs = (0 : Int32)) (hfm : fm.isRef = true) (S_cs : Sta Z Z.heap "java/lang/String" "COMPACT_STRINGS" "Z" (.int cs)) (S_fm : Sta Z Z.heap "jdk/internal/util/Preconditions" "SIOOBE_FORMATTER" "Ljava/util/function/BiFunction;" fm) (S_ad : Sta Z Z.heap "java/lang/StringUTF16" "$assertionsDisabled" "Z" (.int (1 : Int32))) (S_hb : Sta Z Z.heap "java/lang/StringUTF16" "HI_BYTE_SHIFT" "I" (.int (0 : Int32))) (S_lb : Sta Z Z.heap "java/lang/StringUTF16" "LO_BYTE_SHIFT" "I" (.int (8 : Int32))) :
    MetFree l (⟨"com/example/vested_roles/vestedroles/Tokens$Token", "<init>", "(Ljava/lang/String;IZ)V"⟩ : MethodName) (head1 (Jvm.Cond.code (⟨"com/example/vested_roles/vestedroles/Tokens$Token", "<init>", "(Ljava/lang/String;IZ)V"⟩ : MethodName) prog_50_method_1_code 4 none :: ws) own_r6_0) (fun a_ U_ => a_ = #[(.ref b), (.ref sx), (.int po), (.int (0 : Int32))] ∧ Z.Warmed39 U_.vm ∧ U_.heap = h0) (fun _ _ _ _ _ => True) (fun _ U_ o_ U'_ => ∃ v_ L_, o_ = .returned v_ ∧ own_Q6_0 Z b sx  po  cs  fm  h0 n0 v_ U'_.heap L_ ∧ FrameEnd U_ o_ U'_ L_ own_r6_0.cells own_r6_0.slots) := by
  refine MetFree.of_bodySF (plainFor_of_name own_pn5) hisR ?_
  intro p e s m args below meth c s₁ Bd hml0 hP hK
  obtain ⟨rfl, hZ, hh⟩ := hP
  have hx := Bd.exec
  have hby := Bd.bytes
  have hml : c.maxLocals = 4 := hml0
  have hown : s.vm.findClass "com/example/vested_roles/vestedroles/Tokens$Token" = some m.cls := findClass_of_methodNamed Bd.named
  have hnm := (name_of_methodNamed Bd.named Bd.method).1
  have X0 : Stand p l e own_r6_0 s m #[(.ref b), (.ref sx), (.int po), (.int (0 : Int32))] below meth c s₁ [] 0 0 := Stand.of_body Bd
  have e0 : s₁.heap = h0 := by rw [← hh, Bd.state]; rfl
  have N0 := Fr.nil n0
  refine own_in (own_ef6_0 m b sx po) ?_
  show own_Go p e below (own_K s (own_Q6_0 Z b sx  po  cs  fm  h0 n0) own_r6_0.cells own_r6_0.slots) s₁ (mkF m 0 #[.val (.ref b), .val (.ref sx), .val (.int po), .val (.int (0 : Int32))] [])
  refine own_st (T' := s₁) (g' := (mkF m 1 #[.val (.ref b), .val (.ref sx), .val (.int po), .val (.int (0 : Int32))] [(.ref b)])) (fun t k => ?_) ?_
  · show Steps p.tables e below (s₁.setTop (mkF m 0 #[.val (.ref b), .val (.ref sx), .val (.int po), .val (.int (0 : Int32))] [])) t
    refine XS.aloadN X0.here hx rfl (hb hby own_d6_0) rfl rfl ?_
    exact k
  obtain ⟨_, _, ⟨T1, L1, c1, n1⟩, -, X1, ⟨Lc1, hQ1, l1, y1, z1⟩, st1⟩ := X0.specialBack hx (y := (⟨"java/lang/Record", "<init>", "()V"⟩ : MethodName)) rfl hown (mvT hZ (hw _ (List.mem_of_getElem? (i := 33) rfl))) (mvT hZ (hw _ (List.mem_of_getElem? (i := 34) rfl))) (mvT hZ (hw _ (List.mem_of_getElem? (i := 37) rfl))) (by decide) (backOf (W := 0) (own_rm7 l Z a0 hw [] b h0 n0 Z0) hZ (hw _ (List.mem_of_getElem? (i := 37) rfl)) (hw _ (List.mem_of_getElem? (i := 36) rfl)) (by decide) (by decide)) (g := (mkF m 1 #[.val (.ref b), .val (.ref sx), .val (.int po), .val (.int (0 : Int32))] [(.ref b)])) rfl (by rw [hml]; rfl) (Steps.refl _) (a := b) (argsL := []) (rest := []) (lenOf own_pd16 rfl) rfl (by show 2 * 0 + _ ≤ _; exact Nat.le_of_eq rfl) (hb hby own_d6_1) (fun _ _ => ⟨rfl, e0, (by decide : 0 + 0 ≤ _), (by decide : 0 + 0 ≤ _)⟩)
  dsimp only [Pt.U, Pt.locs, Pt.cells, Pt.slots] at X1 l1 y1 z1 st1 hQ1
  subst l1 y1 z1
  obtain ⟨rfl, N1q, e1⟩ := hQ1
  have N1 := Fr.app N0 N1q
  refine own_tr (T' := T1) (g' := (mkF m 4 #[.val (.ref b), .val (.ref sx), .val (.int po), .val (.int (0 : Int32))] [])) st1 ?_
  refine own_st (T' := T1) (g' := (mkF m 6 #[.val (.ref b), .val (.ref sx), .val (.int po), .val (.int (0 : Int32))] [(.ref sx), (.ref b)])) (fun t k => ?_) ?_
  · show Steps p.tables e below (T1.setTop (mkF m 4 #[.val (.ref b), .val (.ref sx), .val (.int po), .val (.int (0 : Int32))] [])) t
    refine XS.aloadN X1.here hx rfl (hb hby own_d6_4) rfl rfl ?_
    refine XS.aloadN X1.here hx rfl (hb hby own_d6_5) rfl rfl ?_
    exact k
  obtain ⟨T2, h2, X2, e2, W2, st2⟩ := putF X1 hx hZ hown (host := "") (Or.inl (hw _ (List.mem_of_getElem? (i := 39) rfl))) Via.refl e1 F0 E_b (Or.inr ⟨(hw _ (List.mem_of_getElem? (i := 40) rfl)), rfl, hnm⟩) (hw _ (List.mem_of_getElem? (i := 28) rfl)) (ty := (.object "java/lang/String")) (by decide) rfl rfl (g := (mkF m 6 #[.val (.ref b), .val (.ref sx), .val (.int po), .val (.int (0 : Int32))] [(.ref sx), (.ref b)])) rfl rfl (hb hby own_d6_6)
  have N2 := Fr.snoc X2 N1 g_b
  have K2 : Keep h0 h2 [b] := (Keep.refl h0 [b]).wr W2 (Or.inl (List.mem_of_getElem? (i := 0) rfl))
  have Z2 : n0 ≤ h2.size := Nat.le_trans Z0 (Keep.of_wr W2).1
  have O2 := O0.wr W2 g_b
  have fw2 := (F0.same W2)
  refine own_st (T' := T2) (g' := (mkF m 9 #[.val (.ref b), .val (.ref sx), .val (.int po), .val (.int (0 : Int32))] [])) st2 ?_
  refine own_st (T' := T2) (g' := (mkF m 11 #[.val (.ref b), .val (.ref sx), .val (.int po), .val (.int (0 : Int32))] [(.int po), (.ref b)])) (fun t k => ?_) ?_
  · show Steps p.tables e below (T2.setTop (mkF m 9 #[.val (.ref b), .val (.ref sx), .val (.int po), .val (.int (0 : Int32))] [])) t
    refine XS.aloadN X2.here hx rfl (hb hby own_d6_9) rfl rfl ?_
    refine XS.iloadN X2.here hx rfl (hb hby own_d6_10) rfl ?_
    exact k
  have f3 := F1.other W2 (Or.inr (slot_ne (Or.inr (hw _ (List.mem_of_getElem? (i := 42) rfl))) (Or.inr (hw _ (List.mem_of_getElem? (i := 40) rfl))) (by decide) (t := .int) (t' := (.object "java/lang/String")) (by decide) (by decide)))
  have f4 := E_b.wr W2
  obtain ⟨T5, h5, X5, e5, W5, st5⟩ := putF X2 hx hZ hown (host := "") (Or.inl (hw _ (List.mem_of_getElem? (i := 41) rfl))) Via.refl e2 f3 f4 (Or.inr ⟨(hw _ (List.mem_of_getElem? (i := 42) rfl)), rfl, hnm⟩) (hw _ (List.mem_of_getElem? (i := 28) rfl)) (ty := .int) (by decide) rfl rfl (g := (mkF m 11 #[.val (.ref b), .val (.ref sx), .val (.int po), .val (.int (0 : Int32))] [(.int po), (.ref b)])) rfl rfl (hb hby own_d6_11)
  have N5 := Fr.snoc X5 N2 g_b
  have K5 : Keep h0 h5 [b] := K2.wr W5 (Or.inl (List.mem_of_getElem? (i := 0) rfl))
  have Z5 : n0 ≤ h5.size := Nat.le_trans Z2 (Keep.of_wr W5).1
  have O5 := O2.wr W5 g_b
  have fw5 := (f3.same W5)
  refine own_st (T' := T5) (g' := (mkF m 14 #[.val (.ref b), .val (.ref sx), .val (.int po), .val (.int (0 : Int32))] [])) st5 ?_
  refine own_st (T' := T5) (g' := (mkF m 16 #[.val (.ref b), .val (.ref sx), .val (.int po), .val (.int (0 : Int32))] [(.int (0 : Int32)), (.ref b)])) (fun t k => ?_) ?_
  · show Steps p.tables e below (T5.setTop (mkF m 14 #[.val (.ref b), .val (.ref sx), .val (.int po), .val (.int (0 : Int32))] [])) t
    refine XS.aloadN X5.here hx rfl (hb hby own_d6_14) rfl rfl ?_
    refine XS.iloadN X5.here hx rfl (hb hby own_d6_15) rfl ?_
    exact k
  have f6 := (F2.other W2 (Or.inr (slot_ne (Or.inr (hw _ (List.mem_of_getElem? (i := 44) rfl))) (Or.inr (hw _ (List.mem_of_getElem? (i := 40) rfl))) (by decide) (t := .boolean) (t' := (.object "java/lang/String")) (by decide) (by decide)))).other W5 (Or.inr (slot_ne (Or.inr (hw _ (List.mem_of_getElem? (i := 44) rfl))) (Or.inr (hw _ (List.mem_of_getElem? (i := 42) rfl))) (by decide) (t := .boolean) (t' := .int) (by decide) (by decide)))
  have f7 := f4.wr W5
  obtain ⟨T8, h8, X8, e8, W8, st8⟩ := putFN X5 hx hZ hown (hw _ (List.mem_of_getElem? (i := 43) rfl)) Via.refl e5 f6 f7 (Or.inr ⟨(hw _ (List.mem_of_getElem? (i := 44) rfl)), rfl, hnm⟩) (hw _ (List.mem_of_getElem? (i := 28) rfl)) (ty := .boolean) (v' := (.int (0 : Int32))) (by decide) rfl rfl (g := (mkF m 16 #[.val (.ref b), .val (.ref sx), .val (.int po), .val (.int (0 : Int32))] [(.int (0 : Int32)), (.ref b)])) rfl rfl (hb hby own_d6_16)
  have N8 := Fr.snoc X8 N5 g_b
  have K8 : Keep h0 h8 [b] := K5.wr W8 (Or.inl (List.mem_of_getElem? (i := 0) rfl))
  have Z8 : n0 ≤ h8.size := Nat.le_trans Z5 (Keep.of_wr W8).1
  have O8 := O5.wr W8 g_b
  have fw8 := (f6.same W8)
  refine own_st (T' := T8) (g' := (mkF m 19 #[.val (.ref b), .val (.ref sx), .val (.int po), .val (.int (0 : Int32))] [])) st8 ?_
  have f9 := (fw2.other W5 (Or.inr (slot_ne (Or.inr (hw _ (List.mem_of_getElem? (i := 40) rfl))) (Or.inr (hw _ (List.mem_of_getElem? (i := 42) rfl))) (by decide) (t := (.object "java/lang/String")) (t' := .int) (by decide) (by decide)))).other W8 (Or.inr (slot_ne (Or.inr (hw _ (List.mem_of_getElem? (i := 40) rfl))) (Or.inr (hw _ (List.mem_of_getElem? (i := 44) rfl))) (by decide) (t := (.object "java/lang/String")) (t' := .boolean) (by decide) (by decide)))
  exact own_retV X8 hx Bd (hb hby own_d6_19) e8 (⟨rfl, N8, K8, f9, fw8⟩) (by decide) (by decide)
def own_r6_1 : Room := { frames := 2, cells := 0, slots := 0, locals := 24 }
theorem own_ef6_1 (m : MethodId) (x0 : Addr) (x1 : Addr) (x2 : Int32) : entryFrame m #[(.ref x0), (.ref x1), (.int x2), (.int (1 : Int32))] 4 = mkF m 0 #[.val (.ref x0), .val (.ref x1), .val (.int x2), .val (.int (1 : Int32))] [] := by first | (simp [entryFrame, mkF, argsToLocals, Value.category]; done) | rfl
def own_Q6_1 (Z : State) (b sx : Addr) (po : Int32) (cs : Int32) (fm : Value) (h0 : Heap) (n0 : Nat) : Option Value → Heap → List Loc → Prop := fun v h L => v = none ∧ Fr n0 L ∧ Keep h0 h [b] ∧ Fld Z h b "com/example/vested_roles/vestedroles/Tokens$Token" "text" "Ljava/lang/String;" (.ref sx) ∧ Fld Z h b "com/example/vested_roles/vestedroles/Tokens$Token" "isName" "Z" (.int (1 : Int32))
set_option maxRecDepth 65536 in
set_option maxHeartbeats 40000000 in
theorem own_rm6_1 (l : Launch) (Z : State) (a0 : Array Value) (hw : ∀ d ∈ tables_1, d.before a0 Z = true) (ws : List Jvm.Cond) (b sx : Addr) (po : Int32) (cs : Int32) (fm : Value) (h0 : Heap) (n0 : Nat) (Z0 : n0 ≤ h0.size) (O0 : Old Z n0 h0) (E_b : Exa Z h0 b "com/example/vested_roles/vestedroles/Tokens$Token") (F0 : Fld Z h0 b "com/example/vested_roles/vestedroles/Tokens$Token" "text" "Ljava/lang/String;" .null) (F1 : Fld Z h0 b "com/example/vested_roles/vestedroles/Tokens$Token" "position" "I" (.int (0 : Int32))) (F2 : Fld Z h0 b "com/example/vested_roles/vestedroles/Tokens$Token" "isName" "Z" (.int (0 : Int32))) (g_b : n0 ≤ b) (hcs : ¬ cs = (0 : Int32)) (hfm : fm.isRef = true) (S_cs : Sta Z Z.heap "java/lang/String" "COMPACT_STRINGS" "Z" (.int cs)) (S_fm : Sta Z Z.heap "jdk/internal/util/Preconditions" "SIOOBE_FORMATTER" "Ljava/util/function/BiFunction;" fm) (S_ad : Sta Z Z.heap "java/lang/StringUTF16" "$assertionsDisabled" "Z" (.int (1 : Int32))) (S_hb : Sta Z Z.heap "java/lang/StringUTF16" "HI_BYTE_SHIFT" "I" (.int (0 : Int32))) (S_lb : Sta Z Z.heap "java/lang/StringUTF16" "LO_BYTE_SHIFT" "I" (.int (8 : Int32))) :
    MetFree l (⟨"com/example/vested_roles/vestedroles/Tokens$Token", "<init>", "(Ljava/lang/String;IZ)V"⟩ : MethodName) (head1 (Jvm.Cond.code (⟨"com/example/vested_roles/vestedroles/Tokens$Token", "<init>", "(Ljava/lang/String;IZ)V"⟩ : MethodName) prog_50_method_1_code 4 none :: ws) own_r6_1) (fun a_ U_ => a_ = #[(.ref b), (.ref sx), (.int po), (.int (1 : Int32))] ∧ Z.Warmed39 U_.vm ∧ U_.heap = h0) (fun _ _ _ _ _ => True) (fun _ U_ o_ U'_ => ∃ v_ L_, o_ = .returned v_ ∧ own_Q6_1 Z b sx  po  cs  fm  h0 n0 v_ U'_.heap L_ ∧ FrameEnd U_ o_ U'_ L_ own_r6_1.cells own_r6_1.slots) := by
  refine MetFree.of_bodySF (plainFor_of_name own_pn5) hisR ?_
  intro p e s m args below meth c s₁ Bd hml0 hP hK
  obtain ⟨rfl, hZ, hh⟩ := hP
  have hx := Bd.exec
  have hby := Bd.bytes
  have hml : c.maxLocals = 4 := hml0
  have hown : s.vm.findClass "com/example/vested_roles/vestedroles/Tokens$Token" = some m.cls := findClass_of_methodNamed Bd.named
  have hnm := (name_of_methodNamed Bd.named Bd.method).1
  have X0 : Stand p l e own_r6_1 s m #[(.ref b), (.ref sx), (.int po), (.int (1 : Int32))] below meth c s₁ [] 0 0 := Stand.of_body Bd
  have e0 : s₁.heap = h0 := by rw [← hh, Bd.state]; rfl
  have N0 := Fr.nil n0
  refine own_in (own_ef6_1 m b sx po) ?_
  show own_Go p e below (own_K s (own_Q6_1 Z b sx  po  cs  fm  h0 n0) own_r6_1.cells own_r6_1.slots) s₁ (mkF m 0 #[.val (.ref b), .val (.ref sx), .val (.int po), .val (.int (1 : Int32))] [])
  refine own_st (T' := s₁) (g' := (mkF m 1 #[.val (.ref b), .val (.ref sx), .val (.int po), .val (.int (1 : Int32))] [(.ref b)])) (fun t k => ?_) ?_
  · show Steps p.tables e below (s₁.setTop (mkF m 0 #[.val (.ref b), .val (.ref sx), .val (.int po), .val (.int (1 : Int32))] [])) t
    refine XS.aloadN X0.here hx rfl (hb hby own_d6_0) rfl rfl ?_
    exact k
  obtain ⟨_, _, ⟨T1, L1, c1, n1⟩, -, X1, ⟨Lc1, hQ1, l1, y1, z1⟩, st1⟩ := X0.specialBack hx (y := (⟨"java/lang/Record", "<init>", "()V"⟩ : MethodName)) rfl hown (mvT hZ (hw _ (List.mem_of_getElem? (i := 33) rfl))) (mvT hZ (hw _ (List.mem_of_getElem? (i := 34) rfl))) (mvT hZ (hw _ (List.mem_of_getElem? (i := 37) rfl))) (by decide) (backOf (W := 0) (own_rm7 l Z a0 hw [] b h0 n0 Z0) hZ (hw _ (List.mem_of_getElem? (i := 37) rfl)) (hw _ (List.mem_of_getElem? (i := 36) rfl)) (by decide) (by decide)) (g := (mkF m 1 #[.val (.ref b), .val (.ref sx), .val (.int po), .val (.int (1 : Int32))] [(.ref b)])) rfl (by rw [hml]; rfl) (Steps.refl _) (a := b) (argsL := []) (rest := []) (lenOf own_pd16 rfl) rfl (by show 2 * 0 + _ ≤ _; exact Nat.le_of_eq rfl) (hb hby own_d6_1) (fun _ _ => ⟨rfl, e0, (by decide : 0 + 0 ≤ _), (by decide : 0 + 0 ≤ _)⟩)
  dsimp only [Pt.U, Pt.locs, Pt.cells, Pt.slots] at X1 l1 y1 z1 st1 hQ1
  subst l1 y1 z1
  obtain ⟨rfl, N1q, e1⟩ := hQ1
  have N1 := Fr.app N0 N1q
  refine own_tr (T' := T1) (g' := (mkF m 4 #[.val (.ref b), .val (.ref sx), .val (.int po), .val (.int (1 : Int32))] [])) st1 ?_
  refine own_st (T' := T1) (g' := (mkF m 6 #[.val (.ref b), .val (.ref sx), .val (.int po), .val (.int (1 : Int32))] [(.ref sx), (.ref b)])) (fun t k => ?_) ?_
  · show Steps p.tables e below (T1.setTop (mkF m 4 #[.val (.ref b), .val (.ref sx), .val (.int po), .val (.int (1 : Int32))] [])) t
    refine XS.aloadN X1.here hx rfl (hb hby own_d6_4) rfl rfl ?_
    refine XS.aloadN X1.here hx rfl (hb hby own_d6_5) rfl rfl ?_
    exact k
  obtain ⟨T2, h2, X2, e2, W2, st2⟩ := putF X1 hx hZ hown (host := "") (Or.inl (hw _ (List.mem_of_getElem? (i := 39) rfl))) Via.refl e1 F0 E_b (Or.inr ⟨(hw _ (List.mem_of_getElem? (i := 40) rfl)), rfl, hnm⟩) (hw _ (List.mem_of_getElem? (i := 28) rfl)) (ty := (.object "java/lang/String")) (by decide) rfl rfl (g := (mkF m 6 #[.val (.ref b), .val (.ref sx), .val (.int po), .val (.int (1 : Int32))] [(.ref sx), (.ref b)])) rfl rfl (hb hby own_d6_6)
  have N2 := Fr.snoc X2 N1 g_b
  have K2 : Keep h0 h2 [b] := (Keep.refl h0 [b]).wr W2 (Or.inl (List.mem_of_getElem? (i := 0) rfl))
  have Z2 : n0 ≤ h2.size := Nat.le_trans Z0 (Keep.of_wr W2).1
  have O2 := O0.wr W2 g_b
  have fw2 := (F0.same W2)
  refine own_st (T' := T2) (g' := (mkF m 9 #[.val (.ref b), .val (.ref sx), .val (.int po), .val (.int (1 : Int32))] [])) st2 ?_
  refine own_st (T' := T2) (g' := (mkF m 11 #[.val (.ref b), .val (.ref sx), .val (.int po), .val (.int (1 : Int32))] [(.int po), (.ref b)])) (fun t k => ?_) ?_
  · show Steps p.tables e below (T2.setTop (mkF m 9 #[.val (.ref b), .val (.ref sx), .val (.int po), .val (.int (1 : Int32))] [])) t
    refine XS.aloadN X2.here hx rfl (hb hby own_d6_9) rfl rfl ?_
    refine XS.iloadN X2.here hx rfl (hb hby own_d6_10) rfl ?_
    exact k
  have f3 := F1.other W2 (Or.inr (slot_ne (Or.inr (hw _ (List.mem_of_getElem? (i := 42) rfl))) (Or.inr (hw _ (List.mem_of_getElem? (i := 40) rfl))) (by decide) (t := .int) (t' := (.object "java/lang/String")) (by decide) (by decide)))
  have f4 := E_b.wr W2
  obtain ⟨T5, h5, X5, e5, W5, st5⟩ := putF X2 hx hZ hown (host := "") (Or.inl (hw _ (List.mem_of_getElem? (i := 41) rfl))) Via.refl e2 f3 f4 (Or.inr ⟨(hw _ (List.mem_of_getElem? (i := 42) rfl)), rfl, hnm⟩) (hw _ (List.mem_of_getElem? (i := 28) rfl)) (ty := .int) (by decide) rfl rfl (g := (mkF m 11 #[.val (.ref b), .val (.ref sx), .val (.int po), .val (.int (1 : Int32))] [(.int po), (.ref b)])) rfl rfl (hb hby own_d6_11)
  have N5 := Fr.snoc X5 N2 g_b
  have K5 : Keep h0 h5 [b] := K2.wr W5 (Or.inl (List.mem_of_getElem? (i := 0) rfl))
  have Z5 : n0 ≤ h5.size := Nat.le_trans Z2 (Keep.of_wr W5).1
  have O5 := O2.wr W5 g_b
  have fw5 := (f3.same W5)
  refine own_st (T' := T5) (g' := (mkF m 14 #[.val (.ref b), .val (.ref sx), .val (.int po), .val (.int (1 : Int32))] [])) st5 ?_
  refine own_st (T' := T5) (g' := (mkF m 16 #[.val (.ref b), .val (.ref sx), .val (.int po), .val (.int (1 : Int32))] [(.int (1 : Int32)), (.ref b)])) (fun t k => ?_) ?_
  · show Steps p.tables e below (T5.setTop (mkF m 14 #[.val (.ref b), .val (.ref sx), .val (.int po), .val (.int (1 : Int32))] [])) t
    refine XS.aloadN X5.here hx rfl (hb hby own_d6_14) rfl rfl ?_
    refine XS.iloadN X5.here hx rfl (hb hby own_d6_15) rfl ?_
    exact k
  have f6 := (F2.other W2 (Or.inr (slot_ne (Or.inr (hw _ (List.mem_of_getElem? (i := 44) rfl))) (Or.inr (hw _ (List.mem_of_getElem? (i := 40) rfl))) (by decide) (t := .boolean) (t' := (.object "java/lang/String")) (by decide) (by decide)))).other W5 (Or.inr (slot_ne (Or.inr (hw _ (List.mem_of_getElem? (i := 44) rfl))) (Or.inr (hw _ (List.mem_of_getElem? (i := 42) rfl))) (by decide) (t := .boolean) (t' := .int) (by decide) (by decide)))
  have f7 := f4.wr W5
  obtain ⟨T8, h8, X8, e8, W8, st8⟩ := putFN X5 hx hZ hown (hw _ (List.mem_of_getElem? (i := 43) rfl)) Via.refl e5 f6 f7 (Or.inr ⟨(hw _ (List.mem_of_getElem? (i := 44) rfl)), rfl, hnm⟩) (hw _ (List.mem_of_getElem? (i := 28) rfl)) (ty := .boolean) (v' := (.int (1 : Int32))) (by decide) rfl rfl (g := (mkF m 16 #[.val (.ref b), .val (.ref sx), .val (.int po), .val (.int (1 : Int32))] [(.int (1 : Int32)), (.ref b)])) rfl rfl (hb hby own_d6_16)
  have N8 := Fr.snoc X8 N5 g_b
  have K8 : Keep h0 h8 [b] := K5.wr W8 (Or.inl (List.mem_of_getElem? (i := 0) rfl))
  have Z8 : n0 ≤ h8.size := Nat.le_trans Z5 (Keep.of_wr W8).1
  have O8 := O5.wr W8 g_b
  have fw8 := (f6.same W8)
  refine own_st (T' := T8) (g' := (mkF m 19 #[.val (.ref b), .val (.ref sx), .val (.int po), .val (.int (1 : Int32))] [])) st8 ?_
  have f9 := (fw2.other W5 (Or.inr (slot_ne (Or.inr (hw _ (List.mem_of_getElem? (i := 40) rfl))) (Or.inr (hw _ (List.mem_of_getElem? (i := 42) rfl))) (by decide) (t := (.object "java/lang/String")) (t' := .int) (by decide) (by decide)))).other W8 (Or.inr (slot_ne (Or.inr (hw _ (List.mem_of_getElem? (i := 40) rfl))) (Or.inr (hw _ (List.mem_of_getElem? (i := 44) rfl))) (by decide) (t := (.object "java/lang/String")) (t' := .boolean) (by decide) (by decide)))
  exact own_retV X8 hx Bd (hb hby own_d6_19) e8 (⟨rfl, N8, K8, f9, fw8⟩) (by decide) (by decide)
def own_r8n : Room := { frames := 0, cells := 0, slots := 0, locals := 0 }
theorem own_ef8n (m : MethodId) (x0 : Addr) (x1 : Int32) : entryFrame m #[(.ref x0), (.int x1)] 2 = mkF m 0 #[.val (.ref x0), .val (.int x1)] [] := by first | (simp [entryFrame, mkF, argsToLocals, Value.category]; done) | rfl
def own_Q8n (Z : State) (r : Addr) (mk : Int32) (cs : Int32) (fm : Value) (h0 : Heap) (n0 : Nat) : Option Value → Heap → List Loc → Prop := fun v h L => v = some (.int (0 : Int32)) ∧ Fr n0 L ∧ h = h0
set_option maxRecDepth 65536 in
set_option maxHeartbeats 40000000 in
theorem own_rm8n (l : Launch) (Z : State) (a0 : Array Value) (hw : ∀ d ∈ tables_1, d.before a0 Z = true) (ws : List Jvm.Cond) (r : Addr) (mk : Int32) (cs : Int32) (fm : Value) (h0 : Heap) (n0 : Nat) (Z0 : n0 ≤ h0.size) (O0 : Old Z n0 h0) (F_n : Fld Z h0 r "com/example/vested_roles/vestedroles/Tokens$Token" "isName" "Z" (.int (1 : Int32))) (hcs : ¬ cs = (0 : Int32)) (hfm : fm.isRef = true) (S_cs : Sta Z Z.heap "java/lang/String" "COMPACT_STRINGS" "Z" (.int cs)) (S_fm : Sta Z Z.heap "jdk/internal/util/Preconditions" "SIOOBE_FORMATTER" "Ljava/util/function/BiFunction;" fm) (S_ad : Sta Z Z.heap "java/lang/StringUTF16" "$assertionsDisabled" "Z" (.int (1 : Int32))) (S_hb : Sta Z Z.heap "java/lang/StringUTF16" "HI_BYTE_SHIFT" "I" (.int (0 : Int32))) (S_lb : Sta Z Z.heap "java/lang/StringUTF16" "LO_BYTE_SHIFT" "I" (.int (8 : Int32))) :
    MetFree l (⟨"com/example/vested_roles/vestedroles/Tokens$Token", "is", "(C)Z"⟩ : MethodName) (head1 (Jvm.Cond.code (⟨"com/example/vested_roles/vestedroles/Tokens$Token", "is", "(C)Z"⟩ : MethodName) prog_50_method_2_code 2 (some .boolean) :: ws) own_r8n) (fun a_ U_ => a_ = #[(.ref r), (.int mk)] ∧ Z.Warmed39 U_.vm ∧ U_.heap = h0) (fun _ _ _ _ _ => True) (fun _ U_ o_ U'_ => ∃ v_ L_, o_ = .returned v_ ∧ own_Q8n Z r  mk  cs  fm  h0 n0 v_ U'_.heap L_ ∧ FrameEnd U_ o_ U'_ L_ own_r8n.cells own_r8n.slots) := by
  refine MetFree.of_bodySF (plainFor_of_name own_pn5) hisR ?_
  intro p e s m args below meth c s₁ Bd hml0 hP hK
  obtain ⟨rfl, hZ, hh⟩ := hP
  have hx := Bd.exec
  have hby := Bd.bytes
  have hml : c.maxLocals = 2 := hml0
  have hown : s.vm.findClass "com/example/vested_roles/vestedroles/Tokens$Token" = some m.cls := findClass_of_methodNamed Bd.named
  have hnm := (name_of_methodNamed Bd.named Bd.method).1
  have X0 : Stand p l e own_r8n s m #[(.ref r), (.int mk)] below meth c s₁ [] 0 0 := Stand.of_body Bd
  have e0 : s₁.heap = h0 := by rw [← hh, Bd.state]; rfl
  have N0 := Fr.nil n0
  refine own_in (own_ef8n m r mk) ?_
  show own_Go p e below (own_K s (own_Q8n Z r  mk  cs  fm  h0 n0) own_r8n.cells own_r8n.slots) s₁ (mkF m 0 #[.val (.ref r), .val (.int mk)] [])
  refine own_st (T' := s₁) (g' := (mkF m 1 #[.val (.ref r), .val (.int mk)] [(.ref r)])) (fun t k => ?_) ?_
  · show Steps p.tables e below (s₁.setTop (mkF m 0 #[.val (.ref r), .val (.int mk)] [])) t
    refine XS.aloadN X0.here hx rfl (hb hby own_d8_0) rfl rfl ?_
    exact k
  obtain ⟨T1, X1, e1, st1⟩ := getF X0 hx hZ hown (host := "") (Or.inl (hw _ (List.mem_of_getElem? (i := 43) rfl))) Via.refl e0 F_n (g := (mkF m 1 #[.val (.ref r), .val (.int mk)] [(.ref r)])) rfl rfl (hb hby own_d8_1)
  refine own_st (T' := T1) (g' := (mkF m 4 #[.val (.ref r), .val (.int mk)] [(.int (1 : Int32))])) st1 ?_
  refine own_st (T' := T1) (g' := (mkF m 24 #[.val (.ref r), .val (.int mk)] [(.int (0 : Int32))])) (fun t k => ?_) ?_
  · show Steps p.tables e below (T1.setTop (mkF m 4 #[.val (.ref r), .val (.int mk)] [(.int (1 : Int32))])) t
    refine XS.ifYes X1.here hx rfl (pc0 := 4) (pc' := 23) rfl (hb hby own_d8_4) rfl ((if0 _ _).trans (feq (by decide : ¬ ((1 : Int32) = (0 : Int32)))).2) (by decide) (by decide) ?_
    refine XS.iconst X1.here hx rfl (hb hby own_d8_23) ?_
    exact k
  exact own_retN X1 hx Bd (t := .boolean) (by simp) rfl (hb hby own_d8_24) e1 (⟨rfl, N0, rfl⟩) (by decide) (by decide)
def own_r8_0_1 : Room := { frames := 4, cells := 0, slots := 0, locals := 53 }
theorem own_ef8_0_1 (m : MethodId) (x0 : Addr) (x1 : Int32) : entryFrame m #[(.ref x0), (.int x1)] 2 = mkF m 0 #[.val (.ref x0), .val (.int x1)] [] := by first | (simp [entryFrame, mkF, argsToLocals, Value.category]; done) | rfl
def own_Q8_0_1 (Z : State) (r sx arr : Addr) (ka : ClassId) (x0 mk : Int32) (cs : Int32) (fm : Value) (h0 : Heap) (n0 : Nat) : Option Value → Heap → List Loc → Prop := fun v h L => v = some (.int (own_eqi (own_lc x0) mk)) ∧ Fr n0 L ∧ h = h0
set_option maxRecDepth 65536 in
set_option maxHeartbeats 40000000 in
theorem own_rm8_0_1 (l : Launch) (Z : State) (a0 : Array Value) (hw : ∀ d ∈ tables_1, d.before a0 Z = true) (ws : List Jvm.Cond) (r sx arr : Addr) (ka : ClassId) (x0 mk : Int32) (cs : Int32) (fm : Value) (h0 : Heap) (n0 : Nat) (Z0 : n0 ≤ h0.size) (O0 : Old Z n0 h0) (F_n : Fld Z h0 r "com/example/vested_roles/vestedroles/Tokens$Token" "isName" "Z" (.int (0 : Int32))) (F_t : Fld Z h0 r "com/example/vested_roles/vestedroles/Tokens$Token" "text" "Ljava/lang/String;" (.ref sx)) (E_s : Exa Z h0 sx "java/lang/String") (F_v : Fld Z h0 sx "java/lang/String" "value" "[B" (.ref arr)) (F_c : Fld Z h0 sx "java/lang/String" "coder" "B" (.int (0 : Int32))) (V_a : Arv Z h0 arr ka .byte (1 : Int32) [(.int x0)] (.int (0 : Int32))) (hcs : ¬ cs = (0 : Int32)) (hfm : fm.isRef = true) (S_cs : Sta Z Z.heap "java/lang/String" "COMPACT_STRINGS" "Z" (.int cs)) (S_fm : Sta Z Z.heap "jdk/internal/util/Preconditions" "SIOOBE_FORMATTER" "Ljava/util/function/BiFunction;" fm) (S_ad : Sta Z Z.heap "java/lang/StringUTF16" "$assertionsDisabled" "Z" (.int (1 : Int32))) (S_hb : Sta Z Z.heap "java/lang/StringUTF16" "HI_BYTE_SHIFT" "I" (.int (0 : Int32))) (S_lb : Sta Z Z.heap "java/lang/StringUTF16" "LO_BYTE_SHIFT" "I" (.int (8 : Int32))) :
    MetFree l (⟨"com/example/vested_roles/vestedroles/Tokens$Token", "is", "(C)Z"⟩ : MethodName) (head1 (Jvm.Cond.code (⟨"com/example/vested_roles/vestedroles/Tokens$Token", "is", "(C)Z"⟩ : MethodName) prog_50_method_2_code 2 (some .boolean) :: ws) own_r8_0_1) (fun a_ U_ => a_ = #[(.ref r), (.int mk)] ∧ Z.Warmed39 U_.vm ∧ U_.heap = h0) (fun _ _ _ _ _ => True) (fun _ U_ o_ U'_ => ∃ v_ L_, o_ = .returned v_ ∧ own_Q8_0_1 Z r sx arr  ka  x0 mk  cs  fm  h0 n0 v_ U'_.heap L_ ∧ FrameEnd U_ o_ U'_ L_ own_r8_0_1.cells own_r8_0_1.slots) := by
  refine MetFree.of_bodySF (plainFor_of_name own_pn5) hisR ?_
  intro p e s m args below meth c s₁ Bd hml0 hP hK
  obtain ⟨rfl, hZ, hh⟩ := hP
  have hx := Bd.exec
  have hby := Bd.bytes
  have hml : c.maxLocals = 2 := hml0
  have hown : s.vm.findClass "com/example/vested_roles/vestedroles/Tokens$Token" = some m.cls := findClass_of_methodNamed Bd.named
  have hnm := (name_of_methodNamed Bd.named Bd.method).1
  have X0 : Stand p l e own_r8_0_1 s m #[(.ref r), (.int mk)] below meth c s₁ [] 0 0 := Stand.of_body Bd
  have e0 : s₁.heap = h0 := by rw [← hh, Bd.state]; rfl
  have N0 := Fr.nil n0
  refine own_in (own_ef8_0_1 m r mk) ?_
  show own_Go p e below (own_K s (own_Q8_0_1 Z r sx arr  ka  x0 mk  cs  fm  h0 n0) own_r8_0_1.cells own_r8_0_1.slots) s₁ (mkF m 0 #[.val (.ref r), .val (.int mk)] [])
  refine own_st (T' := s₁) (g' := (mkF m 1 #[.val (.ref r), .val (.int mk)] [(.ref r)])) (fun t k => ?_) ?_
  · show Steps p.tables e below (s₁.setTop (mkF m 0 #[.val (.ref r), .val (.int mk)] [])) t
    refine XS.aloadN X0.here hx rfl (hb hby own_d8_0) rfl rfl ?_
    exact k
  obtain ⟨T1, X1, e1, st1⟩ := getF X0 hx hZ hown (host := "") (Or.inl (hw _ (List.mem_of_getElem? (i := 43) rfl))) Via.refl e0 F_n (g := (mkF m 1 #[.val (.ref r), .val (.int mk)] [(.ref r)])) rfl rfl (hb hby own_d8_1)
  refine own_st (T' := T1) (g' := (mkF m 4 #[.val (.ref r), .val (.int mk)] [(.int (0 : Int32))])) st1 ?_
  refine own_st (T' := T1) (g' := (mkF m 8 #[.val (.ref r), .val (.int mk)] [(.ref r)])) (fun t k => ?_) ?_
  · show Steps p.tables e below (T1.setTop (mkF m 4 #[.val (.ref r), .val (.int mk)] [(.int (0 : Int32))])) t
    refine XS.ifNo X1.here hx rfl (hb hby own_d8_4) rfl ((if0 _ _).trans (teq (rfl : (0 : Int32) = (0 : Int32))).2) ?_
    refine XS.aloadN X1.here hx rfl (hb hby own_d8_7) rfl rfl ?_
    exact k
  obtain ⟨T2, X2, e2, st2⟩ := getF X1 hx hZ hown (host := "") (Or.inl (hw _ (List.mem_of_getElem? (i := 39) rfl))) Via.refl e1 F_t (g := (mkF m 8 #[.val (.ref r), .val (.int mk)] [(.ref r)])) rfl rfl (hb hby own_d8_8)
  refine own_st (T' := T2) (g' := (mkF m 11 #[.val (.ref r), .val (.int mk)] [(.ref sx)])) st2 ?_
  refine own_st (T' := T2) (g' := (mkF m 12 #[.val (.ref r), .val (.int mk)] [(.int (0 : Int32)), (.ref sx)])) (fun t k => ?_) ?_
  · show Steps p.tables e below (T2.setTop (mkF m 11 #[.val (.ref r), .val (.int mk)] [(.ref sx)])) t
    refine XS.iconst X2.here hx rfl (hb hby own_d8_11) ?_
    exact k
  obtain ⟨cq3, kq3, q3a, q3b, q3c⟩ := isOf hZ e2 E_s
  obtain ⟨_, _, ⟨T3, L3, c3, n3⟩, -, X3, ⟨Lc3, hQ3, l3, y3, z3⟩, st3⟩ := X2.virtualBack hx (y := (⟨"java/lang/String", "charAt", "(I)C"⟩ : MethodName)) (z := (⟨"java/lang/String", "charAt", "(I)C"⟩ : MethodName)) hown (mvT hZ (hw _ (List.mem_of_getElem? (i := 50) rfl))) (mvT hZ (hw _ (List.mem_of_getElem? (i := 51) rfl))) (notFace_of_selects (args := #[]) (mvT hZ (hw _ (List.mem_of_getElem? (i := 53) rfl)))) (mvT hZ (hw _ (List.mem_of_getElem? (i := 53) rfl))) (mvT hZ (hw _ (List.mem_of_getElem? (i := 52) rfl))) (by decide) (backOf (W := 0) (own_rm9_0_1 l Z a0 hw [] sx arr ka x0 cs fm h0 n0 Z0 O0 E_s F_v F_c V_a hcs hfm S_cs S_fm S_ad S_hb S_lb) hZ (hw _ (List.mem_of_getElem? (i := 54) rfl)) (hw _ (List.mem_of_getElem? (i := 3) rfl)) (by decide) (by decide)) q3a q3c (g := (mkF m 12 #[.val (.ref r), .val (.int mk)] [(.int (0 : Int32)), (.ref sx)])) rfl (by rw [hml]; rfl) (Steps.refl _) (argsL := [(.int (0 : Int32))]) (rest := []) (lenOf own_pd17 rfl) rfl (by show 2 * 0 + _ ≤ _; exact Nat.le_of_eq rfl) (hb hby own_d8_12) (fun _ _ => ⟨rfl, e2, (by decide : 0 + 0 ≤ _), (by decide : 0 + 0 ≤ _)⟩)
  dsimp only [Pt.U, Pt.locs, Pt.cells, Pt.slots] at X3 l3 y3 z3 st3 hQ3
  subst l3 y3 z3
  obtain ⟨rfl, N3q, e3⟩ := hQ3
  have N3 := Fr.app N0 N3q
  refine own_tr (T' := T3) (g' := (mkF m 15 #[.val (.ref r), .val (.int mk)] [(.int (own_lc x0))])) st3 ?_
  refine own_st (T' := T3) (g' := (mkF m 16 #[.val (.ref r), .val (.int mk)] [(.int mk), (.int (own_lc x0))])) (fun t k => ?_) ?_
  · show Steps p.tables e below (T3.setTop (mkF m 15 #[.val (.ref r), .val (.int mk)] [(.int (own_lc x0))])) t
    refine XS.iloadN X3.here hx rfl (hb hby own_d8_15) rfl ?_
    exact k
  by_cases hc4 : (own_lc x0) = mk
  · refine own_st (T' := T3) (g' := (mkF m 24 #[.val (.ref r), .val (.int mk)] [(.int (1 : Int32))])) (fun t k => ?_) ?_
    · show Steps p.tables e below (T3.setTop (mkF m 16 #[.val (.ref r), .val (.int mk)] [(.int mk), (.int (own_lc x0))])) t
      refine XS.icmpNo X3.here hx rfl (hb hby own_d8_16) rfl (teq hc4).2 ?_
      refine XS.iconst X3.here hx rfl (hb hby own_d8_19) ?_
      refine XS.goto X3.here hx rfl (pc0 := 20) (pc' := 24) rfl (hb hby own_d8_20) (by decide) (by decide) ?_
      exact k
    exact own_retN X3 hx Bd (t := .boolean) (by simp) rfl (hb hby own_d8_24) e3 (⟨by simp only [own_eqi, hc4, if_true, if_false], N3, rfl⟩) (by decide) (by decide)
  · refine own_st (T' := T3) (g' := (mkF m 24 #[.val (.ref r), .val (.int mk)] [(.int (0 : Int32))])) (fun t k => ?_) ?_
    · show Steps p.tables e below (T3.setTop (mkF m 16 #[.val (.ref r), .val (.int mk)] [(.int mk), (.int (own_lc x0))])) t
      refine XS.icmpYes X3.here hx rfl (pc0 := 16) (pc' := 23) rfl (hb hby own_d8_16) rfl (feq hc4).2 (by decide) (by decide) ?_
      refine XS.iconst X3.here hx rfl (hb hby own_d8_23) ?_
      exact k
    exact own_retN X3 hx Bd (t := .boolean) (by simp) rfl (hb hby own_d8_24) e3 (⟨by simp only [own_eqi, hc4, if_true, if_false], N3, rfl⟩) (by decide) (by decide)
def own_r8_0_2 : Room := { frames := 4, cells := 0, slots := 0, locals := 53 }
theorem own_ef8_0_2 (m : MethodId) (x0 : Addr) (x1 : Int32) : entryFrame m #[(.ref x0), (.int x1)] 2 = mkF m 0 #[.val (.ref x0), .val (.int x1)] [] := by first | (simp [entryFrame, mkF, argsToLocals, Value.category]; done) | rfl
def own_Q8_0_2 (Z : State) (r sx arr : Addr) (ka : ClassId) (x0 x1 mk : Int32) (cs : Int32) (fm : Value) (h0 : Heap) (n0 : Nat) : Option Value → Heap → List Loc → Prop := fun v h L => v = some (.int (own_eqi (own_lc x0) mk)) ∧ Fr n0 L ∧ h = h0
set_option maxRecDepth 65536 in
set_option maxHeartbeats 40000000 in
theorem own_rm8_0_2 (l : Launch) (Z : State) (a0 : Array Value) (hw : ∀ d ∈ tables_1, d.before a0 Z = true) (ws : List Jvm.Cond) (r sx arr : Addr) (ka : ClassId) (x0 x1 mk : Int32) (cs : Int32) (fm : Value) (h0 : Heap) (n0 : Nat) (Z0 : n0 ≤ h0.size) (O0 : Old Z n0 h0) (F_n : Fld Z h0 r "com/example/vested_roles/vestedroles/Tokens$Token" "isName" "Z" (.int (0 : Int32))) (F_t : Fld Z h0 r "com/example/vested_roles/vestedroles/Tokens$Token" "text" "Ljava/lang/String;" (.ref sx)) (E_s : Exa Z h0 sx "java/lang/String") (F_v : Fld Z h0 sx "java/lang/String" "value" "[B" (.ref arr)) (F_c : Fld Z h0 sx "java/lang/String" "coder" "B" (.int (0 : Int32))) (V_a : Arv Z h0 arr ka .byte (2 : Int32) [(.int x0), (.int x1)] (.int (0 : Int32))) (hcs : ¬ cs = (0 : Int32)) (hfm : fm.isRef = true) (S_cs : Sta Z Z.heap "java/lang/String" "COMPACT_STRINGS" "Z" (.int cs)) (S_fm : Sta Z Z.heap "jdk/internal/util/Preconditions" "SIOOBE_FORMATTER" "Ljava/util/function/BiFunction;" fm) (S_ad : Sta Z Z.heap "java/lang/StringUTF16" "$assertionsDisabled" "Z" (.int (1 : Int32))) (S_hb : Sta Z Z.heap "java/lang/StringUTF16" "HI_BYTE_SHIFT" "I" (.int (0 : Int32))) (S_lb : Sta Z Z.heap "java/lang/StringUTF16" "LO_BYTE_SHIFT" "I" (.int (8 : Int32))) :
    MetFree l (⟨"com/example/vested_roles/vestedroles/Tokens$Token", "is", "(C)Z"⟩ : MethodName) (head1 (Jvm.Cond.code (⟨"com/example/vested_roles/vestedroles/Tokens$Token", "is", "(C)Z"⟩ : MethodName) prog_50_method_2_code 2 (some .boolean) :: ws) own_r8_0_2) (fun a_ U_ => a_ = #[(.ref r), (.int mk)] ∧ Z.Warmed39 U_.vm ∧ U_.heap = h0) (fun _ _ _ _ _ => True) (fun _ U_ o_ U'_ => ∃ v_ L_, o_ = .returned v_ ∧ own_Q8_0_2 Z r sx arr  ka  x0 x1 mk  cs  fm  h0 n0 v_ U'_.heap L_ ∧ FrameEnd U_ o_ U'_ L_ own_r8_0_2.cells own_r8_0_2.slots) := by
  refine MetFree.of_bodySF (plainFor_of_name own_pn5) hisR ?_
  intro p e s m args below meth c s₁ Bd hml0 hP hK
  obtain ⟨rfl, hZ, hh⟩ := hP
  have hx := Bd.exec
  have hby := Bd.bytes
  have hml : c.maxLocals = 2 := hml0
  have hown : s.vm.findClass "com/example/vested_roles/vestedroles/Tokens$Token" = some m.cls := findClass_of_methodNamed Bd.named
  have hnm := (name_of_methodNamed Bd.named Bd.method).1
  have X0 : Stand p l e own_r8_0_2 s m #[(.ref r), (.int mk)] below meth c s₁ [] 0 0 := Stand.of_body Bd
  have e0 : s₁.heap = h0 := by rw [← hh, Bd.state]; rfl
  have N0 := Fr.nil n0
  refine own_in (own_ef8_0_2 m r mk) ?_
  show own_Go p e below (own_K s (own_Q8_0_2 Z r sx arr  ka  x0 x1 mk  cs  fm  h0 n0) own_r8_0_2.cells own_r8_0_2.slots) s₁ (mkF m 0 #[.val (.ref r), .val (.int mk)] [])
  refine own_st (T' := s₁) (g' := (mkF m 1 #[.val (.ref r), .val (.int mk)] [(.ref r)])) (fun t k => ?_) ?_
  · show Steps p.tables e below (s₁.setTop (mkF m 0 #[.val (.ref r), .val (.int mk)] [])) t
    refine XS.aloadN X0.here hx rfl (hb hby own_d8_0) rfl rfl ?_
    exact k
  obtain ⟨T1, X1, e1, st1⟩ := getF X0 hx hZ hown (host := "") (Or.inl (hw _ (List.mem_of_getElem? (i := 43) rfl))) Via.refl e0 F_n (g := (mkF m 1 #[.val (.ref r), .val (.int mk)] [(.ref r)])) rfl rfl (hb hby own_d8_1)
  refine own_st (T' := T1) (g' := (mkF m 4 #[.val (.ref r), .val (.int mk)] [(.int (0 : Int32))])) st1 ?_
  refine own_st (T' := T1) (g' := (mkF m 8 #[.val (.ref r), .val (.int mk)] [(.ref r)])) (fun t k => ?_) ?_
  · show Steps p.tables e below (T1.setTop (mkF m 4 #[.val (.ref r), .val (.int mk)] [(.int (0 : Int32))])) t
    refine XS.ifNo X1.here hx rfl (hb hby own_d8_4) rfl ((if0 _ _).trans (teq (rfl : (0 : Int32) = (0 : Int32))).2) ?_
    refine XS.aloadN X1.here hx rfl (hb hby own_d8_7) rfl rfl ?_
    exact k
  obtain ⟨T2, X2, e2, st2⟩ := getF X1 hx hZ hown (host := "") (Or.inl (hw _ (List.mem_of_getElem? (i := 39) rfl))) Via.refl e1 F_t (g := (mkF m 8 #[.val (.ref r), .val (.int mk)] [(.ref r)])) rfl rfl (hb hby own_d8_8)
  refine own_st (T' := T2) (g' := (mkF m 11 #[.val (.ref r), .val (.int mk)] [(.ref sx)])) st2 ?_
  refine own_st (T' := T2) (g' := (mkF m 12 #[.val (.ref r), .val (.int mk)] [(.int (0 : Int32)), (.ref sx)])) (fun t k => ?_) ?_
  · show Steps p.tables e below (T2.setTop (mkF m 11 #[.val (.ref r), .val (.int mk)] [(.ref sx)])) t
    refine XS.iconst X2.here hx rfl (hb hby own_d8_11) ?_
    exact k
  obtain ⟨cq3, kq3, q3a, q3b, q3c⟩ := isOf hZ e2 E_s
  obtain ⟨_, _, ⟨T3, L3, c3, n3⟩, -, X3, ⟨Lc3, hQ3, l3, y3, z3⟩, st3⟩ := X2.virtualBack hx (y := (⟨"java/lang/String", "charAt", "(I)C"⟩ : MethodName)) (z := (⟨"java/lang/String", "charAt", "(I)C"⟩ : MethodName)) hown (mvT hZ (hw _ (List.mem_of_getElem? (i := 50) rfl))) (mvT hZ (hw _ (List.mem_of_getElem? (i := 51) rfl))) (notFace_of_selects (args := #[]) (mvT hZ (hw _ (List.mem_of_getElem? (i := 53) rfl)))) (mvT hZ (hw _ (List.mem_of_getElem? (i := 53) rfl))) (mvT hZ (hw _ (List.mem_of_getElem? (i := 52) rfl))) (by decide) (backOf (W := 0) (own_rm9_0_2 l Z a0 hw [] sx arr ka x0 x1 cs fm h0 n0 Z0 O0 E_s F_v F_c V_a hcs hfm S_cs S_fm S_ad S_hb S_lb) hZ (hw _ (List.mem_of_getElem? (i := 54) rfl)) (hw _ (List.mem_of_getElem? (i := 3) rfl)) (by decide) (by decide)) q3a q3c (g := (mkF m 12 #[.val (.ref r), .val (.int mk)] [(.int (0 : Int32)), (.ref sx)])) rfl (by rw [hml]; rfl) (Steps.refl _) (argsL := [(.int (0 : Int32))]) (rest := []) (lenOf own_pd17 rfl) rfl (by show 2 * 0 + _ ≤ _; exact Nat.le_of_eq rfl) (hb hby own_d8_12) (fun _ _ => ⟨rfl, e2, (by decide : 0 + 0 ≤ _), (by decide : 0 + 0 ≤ _)⟩)
  dsimp only [Pt.U, Pt.locs, Pt.cells, Pt.slots] at X3 l3 y3 z3 st3 hQ3
  subst l3 y3 z3
  obtain ⟨rfl, N3q, e3⟩ := hQ3
  have N3 := Fr.app N0 N3q
  refine own_tr (T' := T3) (g' := (mkF m 15 #[.val (.ref r), .val (.int mk)] [(.int (own_lc x0))])) st3 ?_
  refine own_st (T' := T3) (g' := (mkF m 16 #[.val (.ref r), .val (.int mk)] [(.int mk), (.int (own_lc x0))])) (fun t k => ?_) ?_
  · show Steps p.tables e below (T3.setTop (mkF m 15 #[.val (.ref r), .val (.int mk)] [(.int (own_lc x0))])) t
    refine XS.iloadN X3.here hx rfl (hb hby own_d8_15) rfl ?_
    exact k
  by_cases hc4 : (own_lc x0) = mk
  · refine own_st (T' := T3) (g' := (mkF m 24 #[.val (.ref r), .val (.int mk)] [(.int (1 : Int32))])) (fun t k => ?_) ?_
    · show Steps p.tables e below (T3.setTop (mkF m 16 #[.val (.ref r), .val (.int mk)] [(.int mk), (.int (own_lc x0))])) t
      refine XS.icmpNo X3.here hx rfl (hb hby own_d8_16) rfl (teq hc4).2 ?_
      refine XS.iconst X3.here hx rfl (hb hby own_d8_19) ?_
      refine XS.goto X3.here hx rfl (pc0 := 20) (pc' := 24) rfl (hb hby own_d8_20) (by decide) (by decide) ?_
      exact k
    exact own_retN X3 hx Bd (t := .boolean) (by simp) rfl (hb hby own_d8_24) e3 (⟨by simp only [own_eqi, hc4, if_true, if_false], N3, rfl⟩) (by decide) (by decide)
  · refine own_st (T' := T3) (g' := (mkF m 24 #[.val (.ref r), .val (.int mk)] [(.int (0 : Int32))])) (fun t k => ?_) ?_
    · show Steps p.tables e below (T3.setTop (mkF m 16 #[.val (.ref r), .val (.int mk)] [(.int mk), (.int (own_lc x0))])) t
      refine XS.icmpYes X3.here hx rfl (pc0 := 16) (pc' := 23) rfl (hb hby own_d8_16) rfl (feq hc4).2 (by decide) (by decide) ?_
      refine XS.iconst X3.here hx rfl (hb hby own_d8_23) ?_
      exact k
    exact own_retN X3 hx Bd (t := .boolean) (by simp) rfl (hb hby own_d8_24) e3 (⟨by simp only [own_eqi, hc4, if_true, if_false], N3, rfl⟩) (by decide) (by decide)
def own_r8_1_2 : Room := { frames := 5, cells := 0, slots := 0, locals := 66 }
theorem own_ef8_1_2 (m : MethodId) (x0 : Addr) (x1 : Int32) : entryFrame m #[(.ref x0), (.int x1)] 2 = mkF m 0 #[.val (.ref x0), .val (.int x1)] [] := by first | (simp [entryFrame, mkF, argsToLocals, Value.category]; done) | rfl
def own_Q8_1_2 (Z : State) (r sx arr : Addr) (ka : ClassId) (x0 x1 mk : Int32) (cs : Int32) (fm : Value) (h0 : Heap) (n0 : Nat) : Option Value → Heap → List Loc → Prop := fun v h L => v = some (.int (own_eqi (own_gc x0 x1) mk)) ∧ Fr n0 L ∧ h = h0
set_option maxRecDepth 65536 in
set_option maxHeartbeats 40000000 in
theorem own_rm8_1_2 (l : Launch) (Z : State) (a0 : Array Value) (hw : ∀ d ∈ tables_1, d.before a0 Z = true) (ws : List Jvm.Cond) (r sx arr : Addr) (ka : ClassId) (x0 x1 mk : Int32) (cs : Int32) (fm : Value) (h0 : Heap) (n0 : Nat) (Z0 : n0 ≤ h0.size) (O0 : Old Z n0 h0) (F_n : Fld Z h0 r "com/example/vested_roles/vestedroles/Tokens$Token" "isName" "Z" (.int (0 : Int32))) (F_t : Fld Z h0 r "com/example/vested_roles/vestedroles/Tokens$Token" "text" "Ljava/lang/String;" (.ref sx)) (E_s : Exa Z h0 sx "java/lang/String") (F_v : Fld Z h0 sx "java/lang/String" "value" "[B" (.ref arr)) (F_c : Fld Z h0 sx "java/lang/String" "coder" "B" (.int (1 : Int32))) (V_a : Arv Z h0 arr ka .byte (2 : Int32) [(.int x0), (.int x1)] (.int (0 : Int32))) (hcs : ¬ cs = (0 : Int32)) (hfm : fm.isRef = true) (S_cs : Sta Z Z.heap "java/lang/String" "COMPACT_STRINGS" "Z" (.int cs)) (S_fm : Sta Z Z.heap "jdk/internal/util/Preconditions" "SIOOBE_FORMATTER" "Ljava/util/function/BiFunction;" fm) (S_ad : Sta Z Z.heap "java/lang/StringUTF16" "$assertionsDisabled" "Z" (.int (1 : Int32))) (S_hb : Sta Z Z.heap "java/lang/StringUTF16" "HI_BYTE_SHIFT" "I" (.int (0 : Int32))) (S_lb : Sta Z Z.heap "java/lang/StringUTF16" "LO_BYTE_SHIFT" "I" (.int (8 : Int32))) :
    MetFree l (⟨"com/example/vested_roles/vestedroles/Tokens$Token", "is", "(C)Z"⟩ : MethodName) (head1 (Jvm.Cond.code (⟨"com/example/vested_roles/vestedroles/Tokens$Token", "is", "(C)Z"⟩ : MethodName) prog_50_method_2_code 2 (some .boolean) :: ws) own_r8_1_2) (fun a_ U_ => a_ = #[(.ref r), (.int mk)] ∧ Z.Warmed39 U_.vm ∧ U_.heap = h0) (fun _ _ _ _ _ => True) (fun _ U_ o_ U'_ => ∃ v_ L_, o_ = .returned v_ ∧ own_Q8_1_2 Z r sx arr  ka  x0 x1 mk  cs  fm  h0 n0 v_ U'_.heap L_ ∧ FrameEnd U_ o_ U'_ L_ own_r8_1_2.cells own_r8_1_2.slots) := by
  refine MetFree.of_bodySF (plainFor_of_name own_pn5) hisR ?_
  intro p e s m args below meth c s₁ Bd hml0 hP hK
  obtain ⟨rfl, hZ, hh⟩ := hP
  have hx := Bd.exec
  have hby := Bd.bytes
  have hml : c.maxLocals = 2 := hml0
  have hown : s.vm.findClass "com/example/vested_roles/vestedroles/Tokens$Token" = some m.cls := findClass_of_methodNamed Bd.named
  have hnm := (name_of_methodNamed Bd.named Bd.method).1
  have X0 : Stand p l e own_r8_1_2 s m #[(.ref r), (.int mk)] below meth c s₁ [] 0 0 := Stand.of_body Bd
  have e0 : s₁.heap = h0 := by rw [← hh, Bd.state]; rfl
  have N0 := Fr.nil n0
  refine own_in (own_ef8_1_2 m r mk) ?_
  show own_Go p e below (own_K s (own_Q8_1_2 Z r sx arr  ka  x0 x1 mk  cs  fm  h0 n0) own_r8_1_2.cells own_r8_1_2.slots) s₁ (mkF m 0 #[.val (.ref r), .val (.int mk)] [])
  refine own_st (T' := s₁) (g' := (mkF m 1 #[.val (.ref r), .val (.int mk)] [(.ref r)])) (fun t k => ?_) ?_
  · show Steps p.tables e below (s₁.setTop (mkF m 0 #[.val (.ref r), .val (.int mk)] [])) t
    refine XS.aloadN X0.here hx rfl (hb hby own_d8_0) rfl rfl ?_
    exact k
  obtain ⟨T1, X1, e1, st1⟩ := getF X0 hx hZ hown (host := "") (Or.inl (hw _ (List.mem_of_getElem? (i := 43) rfl))) Via.refl e0 F_n (g := (mkF m 1 #[.val (.ref r), .val (.int mk)] [(.ref r)])) rfl rfl (hb hby own_d8_1)
  refine own_st (T' := T1) (g' := (mkF m 4 #[.val (.ref r), .val (.int mk)] [(.int (0 : Int32))])) st1 ?_
  refine own_st (T' := T1) (g' := (mkF m 8 #[.val (.ref r), .val (.int mk)] [(.ref r)])) (fun t k => ?_) ?_
  · show Steps p.tables e below (T1.setTop (mkF m 4 #[.val (.ref r), .val (.int mk)] [(.int (0 : Int32))])) t
    refine XS.ifNo X1.here hx rfl (hb hby own_d8_4) rfl ((if0 _ _).trans (teq (rfl : (0 : Int32) = (0 : Int32))).2) ?_
    refine XS.aloadN X1.here hx rfl (hb hby own_d8_7) rfl rfl ?_
    exact k
  obtain ⟨T2, X2, e2, st2⟩ := getF X1 hx hZ hown (host := "") (Or.inl (hw _ (List.mem_of_getElem? (i := 39) rfl))) Via.refl e1 F_t (g := (mkF m 8 #[.val (.ref r), .val (.int mk)] [(.ref r)])) rfl rfl (hb hby own_d8_8)
  refine own_st (T' := T2) (g' := (mkF m 11 #[.val (.ref r), .val (.int mk)] [(.ref sx)])) st2 ?_
  refine own_st (T' := T2) (g' := (mkF m 12 #[.val (.ref r), .val (.int mk)] [(.int (0 : Int32)), (.ref sx)])) (fun t k => ?_) ?_
  · show Steps p.tables e below (T2.setTop (mkF m 11 #[.val (.ref r), .val (.int mk)] [(.ref sx)])) t
    refine XS.iconst X2.here hx rfl (hb hby own_d8_11) ?_
    exact k
  obtain ⟨cq3, kq3, q3a, q3b, q3c⟩ := isOf hZ e2 E_s
  obtain ⟨_, _, ⟨T3, L3, c3, n3⟩, -, X3, ⟨Lc3, hQ3, l3, y3, z3⟩, st3⟩ := X2.virtualBack hx (y := (⟨"java/lang/String", "charAt", "(I)C"⟩ : MethodName)) (z := (⟨"java/lang/String", "charAt", "(I)C"⟩ : MethodName)) hown (mvT hZ (hw _ (List.mem_of_getElem? (i := 50) rfl))) (mvT hZ (hw _ (List.mem_of_getElem? (i := 51) rfl))) (notFace_of_selects (args := #[]) (mvT hZ (hw _ (List.mem_of_getElem? (i := 53) rfl)))) (mvT hZ (hw _ (List.mem_of_getElem? (i := 53) rfl))) (mvT hZ (hw _ (List.mem_of_getElem? (i := 52) rfl))) (by decide) (backOf (W := 0) (own_rm9_1_2 l Z a0 hw [] sx arr ka x0 x1 cs fm h0 n0 Z0 O0 E_s F_v F_c V_a hcs hfm S_cs S_fm S_ad S_hb S_lb) hZ (hw _ (List.mem_of_getElem? (i := 54) rfl)) (hw _ (List.mem_of_getElem? (i := 3) rfl)) (by decide) (by decide)) q3a q3c (g := (mkF m 12 #[.val (.ref r), .val (.int mk)] [(.int (0 : Int32)), (.ref sx)])) rfl (by rw [hml]; rfl) (Steps.refl _) (argsL := [(.int (0 : Int32))]) (rest := []) (lenOf own_pd17 rfl) rfl (by show 2 * 0 + _ ≤ _; exact Nat.le_of_eq rfl) (hb hby own_d8_12) (fun _ _ => ⟨rfl, e2, (by decide : 0 + 0 ≤ _), (by decide : 0 + 0 ≤ _)⟩)
  dsimp only [Pt.U, Pt.locs, Pt.cells, Pt.slots] at X3 l3 y3 z3 st3 hQ3
  subst l3 y3 z3
  obtain ⟨rfl, N3q, e3⟩ := hQ3
  have N3 := Fr.app N0 N3q
  refine own_tr (T' := T3) (g' := (mkF m 15 #[.val (.ref r), .val (.int mk)] [(.int (own_gc x0 x1))])) st3 ?_
  refine own_st (T' := T3) (g' := (mkF m 16 #[.val (.ref r), .val (.int mk)] [(.int mk), (.int (own_gc x0 x1))])) (fun t k => ?_) ?_
  · show Steps p.tables e below (T3.setTop (mkF m 15 #[.val (.ref r), .val (.int mk)] [(.int (own_gc x0 x1))])) t
    refine XS.iloadN X3.here hx rfl (hb hby own_d8_15) rfl ?_
    exact k
  by_cases hc4 : (own_gc x0 x1) = mk
  · refine own_st (T' := T3) (g' := (mkF m 24 #[.val (.ref r), .val (.int mk)] [(.int (1 : Int32))])) (fun t k => ?_) ?_
    · show Steps p.tables e below (T3.setTop (mkF m 16 #[.val (.ref r), .val (.int mk)] [(.int mk), (.int (own_gc x0 x1))])) t
      refine XS.icmpNo X3.here hx rfl (hb hby own_d8_16) rfl (teq hc4).2 ?_
      refine XS.iconst X3.here hx rfl (hb hby own_d8_19) ?_
      refine XS.goto X3.here hx rfl (pc0 := 20) (pc' := 24) rfl (hb hby own_d8_20) (by decide) (by decide) ?_
      exact k
    exact own_retN X3 hx Bd (t := .boolean) (by simp) rfl (hb hby own_d8_24) e3 (⟨by simp only [own_eqi, hc4, if_true, if_false], N3, rfl⟩) (by decide) (by decide)
  · refine own_st (T' := T3) (g' := (mkF m 24 #[.val (.ref r), .val (.int mk)] [(.int (0 : Int32))])) (fun t k => ?_) ?_
    · show Steps p.tables e below (T3.setTop (mkF m 16 #[.val (.ref r), .val (.int mk)] [(.int mk), (.int (own_gc x0 x1))])) t
      refine XS.icmpYes X3.here hx rfl (pc0 := 16) (pc' := 23) rfl (hb hby own_d8_16) rfl (feq hc4).2 (by decide) (by decide) ?_
      refine XS.iconst X3.here hx rfl (hb hby own_d8_23) ?_
      exact k
    exact own_retN X3 hx Bd (t := .boolean) (by simp) rfl (hb hby own_d8_24) e3 (⟨by simp only [own_eqi, hc4, if_true, if_false], N3, rfl⟩) (by decide) (by decide)
def own_r8_1_4 : Room := { frames := 5, cells := 0, slots := 0, locals := 66 }
theorem own_ef8_1_4 (m : MethodId) (x0 : Addr) (x1 : Int32) : entryFrame m #[(.ref x0), (.int x1)] 2 = mkF m 0 #[.val (.ref x0), .val (.int x1)] [] := by first | (simp [entryFrame, mkF, argsToLocals, Value.category]; done) | rfl
def own_Q8_1_4 (Z : State) (r sx arr : Addr) (ka : ClassId) (x0 x1 x2 x3 mk : Int32) (cs : Int32) (fm : Value) (h0 : Heap) (n0 : Nat) : Option Value → Heap → List Loc → Prop := fun v h L => v = some (.int (own_eqi (own_gc x0 x1) mk)) ∧ Fr n0 L ∧ h = h0
set_option maxRecDepth 65536 in
set_option maxHeartbeats 40000000 in
theorem own_rm8_1_4 (l : Launch) (Z : State) (a0 : Array Value) (hw : ∀ d ∈ tables_1, d.before a0 Z = true) (ws : List Jvm.Cond) (r sx arr : Addr) (ka : ClassId) (x0 x1 x2 x3 mk : Int32) (cs : Int32) (fm : Value) (h0 : Heap) (n0 : Nat) (Z0 : n0 ≤ h0.size) (O0 : Old Z n0 h0) (F_n : Fld Z h0 r "com/example/vested_roles/vestedroles/Tokens$Token" "isName" "Z" (.int (0 : Int32))) (F_t : Fld Z h0 r "com/example/vested_roles/vestedroles/Tokens$Token" "text" "Ljava/lang/String;" (.ref sx)) (E_s : Exa Z h0 sx "java/lang/String") (F_v : Fld Z h0 sx "java/lang/String" "value" "[B" (.ref arr)) (F_c : Fld Z h0 sx "java/lang/String" "coder" "B" (.int (1 : Int32))) (V_a : Arv Z h0 arr ka .byte (4 : Int32) [(.int x0), (.int x1), (.int x2), (.int x3)] (.int (0 : Int32))) (hcs : ¬ cs = (0 : Int32)) (hfm : fm.isRef = true) (S_cs : Sta Z Z.heap "java/lang/String" "COMPACT_STRINGS" "Z" (.int cs)) (S_fm : Sta Z Z.heap "jdk/internal/util/Preconditions" "SIOOBE_FORMATTER" "Ljava/util/function/BiFunction;" fm) (S_ad : Sta Z Z.heap "java/lang/StringUTF16" "$assertionsDisabled" "Z" (.int (1 : Int32))) (S_hb : Sta Z Z.heap "java/lang/StringUTF16" "HI_BYTE_SHIFT" "I" (.int (0 : Int32))) (S_lb : Sta Z Z.heap "java/lang/StringUTF16" "LO_BYTE_SHIFT" "I" (.int (8 : Int32))) :
    MetFree l (⟨"com/example/vested_roles/vestedroles/Tokens$Token", "is", "(C)Z"⟩ : MethodName) (head1 (Jvm.Cond.code (⟨"com/example/vested_roles/vestedroles/Tokens$Token", "is", "(C)Z"⟩ : MethodName) prog_50_method_2_code 2 (some .boolean) :: ws) own_r8_1_4) (fun a_ U_ => a_ = #[(.ref r), (.int mk)] ∧ Z.Warmed39 U_.vm ∧ U_.heap = h0) (fun _ _ _ _ _ => True) (fun _ U_ o_ U'_ => ∃ v_ L_, o_ = .returned v_ ∧ own_Q8_1_4 Z r sx arr  ka  x0 x1 x2 x3 mk  cs  fm  h0 n0 v_ U'_.heap L_ ∧ FrameEnd U_ o_ U'_ L_ own_r8_1_4.cells own_r8_1_4.slots) := by
  refine MetFree.of_bodySF (plainFor_of_name own_pn5) hisR ?_
  intro p e s m args below meth c s₁ Bd hml0 hP hK
  obtain ⟨rfl, hZ, hh⟩ := hP
  have hx := Bd.exec
  have hby := Bd.bytes
  have hml : c.maxLocals = 2 := hml0
  have hown : s.vm.findClass "com/example/vested_roles/vestedroles/Tokens$Token" = some m.cls := findClass_of_methodNamed Bd.named
  have hnm := (name_of_methodNamed Bd.named Bd.method).1
  have X0 : Stand p l e own_r8_1_4 s m #[(.ref r), (.int mk)] below meth c s₁ [] 0 0 := Stand.of_body Bd
  have e0 : s₁.heap = h0 := by rw [← hh, Bd.state]; rfl
  have N0 := Fr.nil n0
  refine own_in (own_ef8_1_4 m r mk) ?_
  show own_Go p e below (own_K s (own_Q8_1_4 Z r sx arr  ka  x0 x1 x2 x3 mk  cs  fm  h0 n0) own_r8_1_4.cells own_r8_1_4.slots) s₁ (mkF m 0 #[.val (.ref r), .val (.int mk)] [])
  refine own_st (T' := s₁) (g' := (mkF m 1 #[.val (.ref r), .val (.int mk)] [(.ref r)])) (fun t k => ?_) ?_
  · show Steps p.tables e below (s₁.setTop (mkF m 0 #[.val (.ref r), .val (.int mk)] [])) t
    refine XS.aloadN X0.here hx rfl (hb hby own_d8_0) rfl rfl ?_
    exact k
  obtain ⟨T1, X1, e1, st1⟩ := getF X0 hx hZ hown (host := "") (Or.inl (hw _ (List.mem_of_getElem? (i := 43) rfl))) Via.refl e0 F_n (g := (mkF m 1 #[.val (.ref r), .val (.int mk)] [(.ref r)])) rfl rfl (hb hby own_d8_1)
  refine own_st (T' := T1) (g' := (mkF m 4 #[.val (.ref r), .val (.int mk)] [(.int (0 : Int32))])) st1 ?_
  refine own_st (T' := T1) (g' := (mkF m 8 #[.val (.ref r), .val (.int mk)] [(.ref r)])) (fun t k => ?_) ?_
  · show Steps p.tables e below (T1.setTop (mkF m 4 #[.val (.ref r), .val (.int mk)] [(.int (0 : Int32))])) t
    refine XS.ifNo X1.here hx rfl (hb hby own_d8_4) rfl ((if0 _ _).trans (teq (rfl : (0 : Int32) = (0 : Int32))).2) ?_
    refine XS.aloadN X1.here hx rfl (hb hby own_d8_7) rfl rfl ?_
    exact k
  obtain ⟨T2, X2, e2, st2⟩ := getF X1 hx hZ hown (host := "") (Or.inl (hw _ (List.mem_of_getElem? (i := 39) rfl))) Via.refl e1 F_t (g := (mkF m 8 #[.val (.ref r), .val (.int mk)] [(.ref r)])) rfl rfl (hb hby own_d8_8)
  refine own_st (T' := T2) (g' := (mkF m 11 #[.val (.ref r), .val (.int mk)] [(.ref sx)])) st2 ?_
  refine own_st (T' := T2) (g' := (mkF m 12 #[.val (.ref r), .val (.int mk)] [(.int (0 : Int32)), (.ref sx)])) (fun t k => ?_) ?_
  · show Steps p.tables e below (T2.setTop (mkF m 11 #[.val (.ref r), .val (.int mk)] [(.ref sx)])) t
    refine XS.iconst X2.here hx rfl (hb hby own_d8_11) ?_
    exact k
  obtain ⟨cq3, kq3, q3a, q3b, q3c⟩ := isOf hZ e2 E_s
  obtain ⟨_, _, ⟨T3, L3, c3, n3⟩, -, X3, ⟨Lc3, hQ3, l3, y3, z3⟩, st3⟩ := X2.virtualBack hx (y := (⟨"java/lang/String", "charAt", "(I)C"⟩ : MethodName)) (z := (⟨"java/lang/String", "charAt", "(I)C"⟩ : MethodName)) hown (mvT hZ (hw _ (List.mem_of_getElem? (i := 50) rfl))) (mvT hZ (hw _ (List.mem_of_getElem? (i := 51) rfl))) (notFace_of_selects (args := #[]) (mvT hZ (hw _ (List.mem_of_getElem? (i := 53) rfl)))) (mvT hZ (hw _ (List.mem_of_getElem? (i := 53) rfl))) (mvT hZ (hw _ (List.mem_of_getElem? (i := 52) rfl))) (by decide) (backOf (W := 0) (own_rm9_1_4 l Z a0 hw [] sx arr ka x0 x1 x2 x3 cs fm h0 n0 Z0 O0 E_s F_v F_c V_a hcs hfm S_cs S_fm S_ad S_hb S_lb) hZ (hw _ (List.mem_of_getElem? (i := 54) rfl)) (hw _ (List.mem_of_getElem? (i := 3) rfl)) (by decide) (by decide)) q3a q3c (g := (mkF m 12 #[.val (.ref r), .val (.int mk)] [(.int (0 : Int32)), (.ref sx)])) rfl (by rw [hml]; rfl) (Steps.refl _) (argsL := [(.int (0 : Int32))]) (rest := []) (lenOf own_pd17 rfl) rfl (by show 2 * 0 + _ ≤ _; exact Nat.le_of_eq rfl) (hb hby own_d8_12) (fun _ _ => ⟨rfl, e2, (by decide : 0 + 0 ≤ _), (by decide : 0 + 0 ≤ _)⟩)
  dsimp only [Pt.U, Pt.locs, Pt.cells, Pt.slots] at X3 l3 y3 z3 st3 hQ3
  subst l3 y3 z3
  obtain ⟨rfl, N3q, e3⟩ := hQ3
  have N3 := Fr.app N0 N3q
  refine own_tr (T' := T3) (g' := (mkF m 15 #[.val (.ref r), .val (.int mk)] [(.int (own_gc x0 x1))])) st3 ?_
  refine own_st (T' := T3) (g' := (mkF m 16 #[.val (.ref r), .val (.int mk)] [(.int mk), (.int (own_gc x0 x1))])) (fun t k => ?_) ?_
  · show Steps p.tables e below (T3.setTop (mkF m 15 #[.val (.ref r), .val (.int mk)] [(.int (own_gc x0 x1))])) t
    refine XS.iloadN X3.here hx rfl (hb hby own_d8_15) rfl ?_
    exact k
  by_cases hc4 : (own_gc x0 x1) = mk
  · refine own_st (T' := T3) (g' := (mkF m 24 #[.val (.ref r), .val (.int mk)] [(.int (1 : Int32))])) (fun t k => ?_) ?_
    · show Steps p.tables e below (T3.setTop (mkF m 16 #[.val (.ref r), .val (.int mk)] [(.int mk), (.int (own_gc x0 x1))])) t
      refine XS.icmpNo X3.here hx rfl (hb hby own_d8_16) rfl (teq hc4).2 ?_
      refine XS.iconst X3.here hx rfl (hb hby own_d8_19) ?_
      refine XS.goto X3.here hx rfl (pc0 := 20) (pc' := 24) rfl (hb hby own_d8_20) (by decide) (by decide) ?_
      exact k
    exact own_retN X3 hx Bd (t := .boolean) (by simp) rfl (hb hby own_d8_24) e3 (⟨by simp only [own_eqi, hc4, if_true, if_false], N3, rfl⟩) (by decide) (by decide)
  · refine own_st (T' := T3) (g' := (mkF m 24 #[.val (.ref r), .val (.int mk)] [(.int (0 : Int32))])) (fun t k => ?_) ?_
    · show Steps p.tables e below (T3.setTop (mkF m 16 #[.val (.ref r), .val (.int mk)] [(.int mk), (.int (own_gc x0 x1))])) t
      refine XS.icmpYes X3.here hx rfl (pc0 := 16) (pc' := 23) rfl (hb hby own_d8_16) rfl (feq hc4).2 (by decide) (by decide) ?_
      refine XS.iconst X3.here hx rfl (hb hby own_d8_23) ?_
      exact k
    exact own_retN X3 hx Bd (t := .boolean) (by simp) rfl (hb hby own_d8_24) e3 (⟨by simp only [own_eqi, hc4, if_true, if_false], N3, rfl⟩) (by decide) (by decide)
theorem own_ef0 (m : MethodId) (x0 : Int32) (x1 : Int32) (x2 : Int32) (x3 : Int32) (x4 : Int32) : entryFrame m #[(.int x0), (.int x1), (.int x2), (.int x3), (.int x4)] maxLocals = mkF m 0 #[.val (.int x0), .val (.int x1), .val (.int x2), .val (.int x3), .val (.int x4), .unset, .unset, .unset, .unset, .unset, .unset, .unset, .unset, .unset] [] := by first | (simp [entryFrame, mkF, argsToLocals, Value.category, maxLocals]; done) | rfl
def own_Q0 (Z : State) (pa pb pc_ po fl : Int32) (cs : Int32) (fm : Value) (h0 : Heap) (n0 : Nat) : Option Value → Heap → List Loc → Prop := fun v h L => v = some (.int 1) ∧ Fr n0 L
set_option maxRecDepth 65536 in
set_option maxHeartbeats 40000000 in
theorem own_rm0 (l : Launch) (Z : State) (a0 : Array Value) (hw : ∀ d ∈ tables_1, d.before a0 Z = true) (ws : List Jvm.Cond) (pa pb pc_ po fl : Int32) (cs : Int32) (fm : Value) (h0 : Heap) (n0 : Nat) (Z0 : n0 ≤ h0.size) (O0 : Old Z n0 h0) (hcs : ¬ cs = (0 : Int32)) (hfm : fm.isRef = true) (S_cs : Sta Z Z.heap "java/lang/String" "COMPACT_STRINGS" "Z" (.int cs)) (S_fm : Sta Z Z.heap "jdk/internal/util/Preconditions" "SIOOBE_FORMATTER" "Ljava/util/function/BiFunction;" fm) (S_ad : Sta Z Z.heap "java/lang/StringUTF16" "$assertionsDisabled" "Z" (.int (1 : Int32))) (S_hb : Sta Z Z.heap "java/lang/StringUTF16" "HI_BYTE_SHIFT" "I" (.int (0 : Int32))) (S_lb : Sta Z Z.heap "java/lang/StringUTF16" "LO_BYTE_SHIFT" "I" (.int (8 : Int32))) :
    MetFree l x (head1 (Jvm.Cond.code x code maxLocals ret :: ws) room_1) (fun a_ U_ => a_ = #[(.int pa), (.int pb), (.int pc_), (.int po), (.int fl)] ∧ Z.Warmed39 U_.vm ∧ U_.heap = h0) (fun _ _ _ _ _ => True) (fun _ U_ o_ U'_ => ∃ v_ L_, o_ = .returned v_ ∧ own_Q0 Z pa pb pc_ po fl  cs  fm  h0 n0 v_ U'_.heap L_ ∧ FrameEnd U_ o_ U'_ L_ room_1.cells room_1.slots) := by
  refine MetFree.of_bodySF (plainFor_of_name own_pn6) hisR ?_
  intro p e s m args below meth c s₁ Bd hml0 hP hK
  obtain ⟨rfl, hZ, hh⟩ := hP
  have hx := Bd.exec
  have hby := Bd.bytes
  have hml : c.maxLocals = 14 := hml0
  have hown : s.vm.findClass "com/example/vested_roles/vestedroles/TokenIsPinLaw" = some m.cls := findClass_of_methodNamed Bd.named
  have hnm := (name_of_methodNamed Bd.named Bd.method).1
  have X0 : Stand p l e room_1 s m #[(.int pa), (.int pb), (.int pc_), (.int po), (.int fl)] below meth c s₁ [] 0 0 := Stand.of_body Bd
  have e0 : s₁.heap = h0 := by rw [← hh, Bd.state]; rfl
  have N0 := Fr.nil n0
  refine own_in (own_ef0 m pa pb pc_ po fl) ?_
  show own_Go p e below (own_K s (own_Q0 Z pa pb pc_ po fl  cs  fm  h0 n0) room_1.cells room_1.slots) s₁ (mkF m 0 #[.val (.int pa), .val (.int pb), .val (.int pc_), .val (.int po), .val (.int fl), .unset, .unset, .unset, .unset, .unset, .unset, .unset, .unset, .unset] [])
  refine own_st (T' := s₁) (g' := (mkF m 14 #[.val (.int pa), .val (.int pb), .val (.int pc_), .val (.int po), .val (.int fl), .val (.int ((pa &&& (65535 : Int32)).toUInt32.toUInt16.toUInt32.toInt32)), .val (.int ((pb &&& (65535 : Int32)).toUInt32.toUInt16.toUInt32.toInt32)), .unset, .unset, .unset, .unset, .unset, .unset, .unset] [])) (fun t k => ?_) ?_
  · show Steps p.tables e below (s₁.setTop (mkF m 0 #[.val (.int pa), .val (.int pb), .val (.int pc_), .val (.int po), .val (.int fl), .unset, .unset, .unset, .unset, .unset, .unset, .unset, .unset, .unset] [])) t
    refine XS.iloadN X0.here hx rfl (hb hby at_0) rfl ?_
    refine X0.ldcInt hx hown (mvT hZ (hw _ (List.mem_of_getElem? (i := 0) rfl))) (g := (mkF m 1 #[.val (.int pa), .val (.int pb), .val (.int pc_), .val (.int po), .val (.int fl), .unset, .unset, .unset, .unset, .unset, .unset, .unset, .unset, .unset] [(.int pa)])) rfl (hb hby at_1) _ ?_
    refine XS.iand X0.here hx rfl (hb hby at_3) rfl ?_
    refine XS.i2c X0.here hx rfl (hb hby at_4) rfl ?_
    refine XS.istore X0.here hx rfl (hb hby at_5) rfl (l' := #[.val (.int pa), .val (.int pb), .val (.int pc_), .val (.int po), .val (.int fl), .val (.int ((pa &&& (65535 : Int32)).toUInt32.toUInt16.toUInt32.toInt32)), .unset, .unset, .unset, .unset, .unset, .unset, .unset, .unset]) rfl ?_
    refine XS.iloadN X0.here hx rfl (hb hby at_7) rfl ?_
    refine X0.ldcInt hx hown (mvT hZ (hw _ (List.mem_of_getElem? (i := 0) rfl))) (g := (mkF m 8 #[.val (.int pa), .val (.int pb), .val (.int pc_), .val (.int po), .val (.int fl), .val (.int ((pa &&& (65535 : Int32)).toUInt32.toUInt16.toUInt32.toInt32)), .unset, .unset, .unset, .unset, .unset, .unset, .unset, .unset] [(.int pb)])) rfl (hb hby at_8) _ ?_
    refine XS.iand X0.here hx rfl (hb hby at_10) rfl ?_
    refine XS.i2c X0.here hx rfl (hb hby at_11) rfl ?_
    refine XS.istore X0.here hx rfl (hb hby at_12) rfl (l' := #[.val (.int pa), .val (.int pb), .val (.int pc_), .val (.int po), .val (.int fl), .val (.int ((pa &&& (65535 : Int32)).toUInt32.toUInt16.toUInt32.toInt32)), .val (.int ((pb &&& (65535 : Int32)).toUInt32.toUInt16.toUInt32.toInt32)), .unset, .unset, .unset, .unset, .unset, .unset, .unset]) rfl ?_
    exact k
  obtain ⟨c0, ec0⟩ : ∃ z, z = ((pa &&& (65535 : Int32)).toUInt32.toUInt16.toUInt32.toInt32) := ⟨_, rfl⟩
  have rg0 : own_u16 c0 := ec0 ▸ own_u16_c _
  obtain ⟨c1, ec1⟩ : ∃ z, z = ((pb &&& (65535 : Int32)).toUInt32.toUInt16.toUInt32.toInt32) := ⟨_, rfl⟩
  have rg1 : own_u16 c1 := ec1 ▸ own_u16_c _
  rw [← ec0, ← ec1]
  refine own_st (T' := s₁) (g' := (mkF m 18 #[.val (.int pa), .val (.int pb), .val (.int pc_), .val (.int po), .val (.int fl), .val (.int c0), .val (.int c1), .unset, .unset, .unset, .unset, .unset, .unset, .unset] [(.int (fl &&& (1 : Int32)))])) (fun t k => ?_) ?_
  · show Steps p.tables e below (s₁.setTop (mkF m 14 #[.val (.int pa), .val (.int pb), .val (.int pc_), .val (.int po), .val (.int fl), .val (.int c0), .val (.int c1), .unset, .unset, .unset, .unset, .unset, .unset, .unset] [])) t
    refine XS.iload X0.here hx rfl (hb hby at_14) rfl ?_
    refine XS.iconst X0.here hx rfl (hb hby at_16) ?_
    refine XS.iand X0.here hx rfl (hb hby at_17) rfl ?_
    exact k
  by_cases hc1 : (fl &&& (1 : Int32)) = (0 : Int32)
  · refine own_st (T' := s₁) (g' := (mkF m 41 #[.val (.int pa), .val (.int pb), .val (.int pc_), .val (.int po), .val (.int fl), .val (.int c0), .val (.int c1), .val (.int (0 : Int32)), .val (.int (((fl.toUInt32 >>> ((1 : Int32) &&& 31).toUInt32).toInt32) &&& (3 : Int32))), .unset, .unset, .unset, .unset, .unset] [(.int (fl &&& (8 : Int32)))])) (fun t k => ?_) ?_
    · show Steps p.tables e below (s₁.setTop (mkF m 18 #[.val (.int pa), .val (.int pb), .val (.int pc_), .val (.int po), .val (.int fl), .val (.int c0), .val (.int c1), .unset, .unset, .unset, .unset, .unset, .unset, .unset] [(.int (fl &&& (1 : Int32)))])) t
      refine XS.ifYes X0.here hx rfl (pc0 := 18) (pc' := 25) rfl (hb hby at_18) rfl ((if0 _ _).trans (teq hc1).1) (by decide) (by decide) ?_
      refine XS.iconst X0.here hx rfl (hb hby at_25) ?_
      refine XS.istore X0.here hx rfl (hb hby at_26) rfl (l' := #[.val (.int pa), .val (.int pb), .val (.int pc_), .val (.int po), .val (.int fl), .val (.int c0), .val (.int c1), .val (.int (0 : Int32)), .unset, .unset, .unset, .unset, .unset, .unset]) rfl ?_
      refine XS.iload X0.here hx rfl (hb hby at_28) rfl ?_
      refine XS.iconst X0.here hx rfl (hb hby at_30) ?_
      refine XS.iushr X0.here hx rfl (hb hby at_31) rfl ?_
      refine XS.iconst X0.here hx rfl (hb hby at_32) ?_
      refine XS.iand X0.here hx rfl (hb hby at_33) rfl ?_
      refine XS.istore X0.here hx rfl (hb hby at_34) rfl (l' := #[.val (.int pa), .val (.int pb), .val (.int pc_), .val (.int po), .val (.int fl), .val (.int c0), .val (.int c1), .val (.int (0 : Int32)), .val (.int (((fl.toUInt32 >>> ((1 : Int32) &&& 31).toUInt32).toInt32) &&& (3 : Int32))), .unset, .unset, .unset, .unset, .unset]) rfl ?_
      refine XS.iload X0.here hx rfl (hb hby at_36) rfl ?_
      refine XS.bipush X0.here hx rfl (hb hby at_38) ?_
      refine XS.iand X0.here hx rfl (hb hby at_40) rfl ?_
      exact k
    by_cases hc2 : (fl &&& (8 : Int32)) = (0 : Int32)
    · refine own_st (T' := s₁) (g' := (mkF m 53 #[.val (.int pa), .val (.int pb), .val (.int pc_), .val (.int po), .val (.int fl), .val (.int c0), .val (.int c1), .val (.int (0 : Int32)), .val (.int (((fl.toUInt32 >>> ((1 : Int32) &&& 31).toUInt32).toInt32) &&& (3 : Int32))), .val (.int (0 : Int32)), .unset, .unset, .unset, .unset] [(.int (((fl.toUInt32 >>> ((1 : Int32) &&& 31).toUInt32).toInt32) &&& (3 : Int32)))])) (fun t k => ?_) ?_
      · show Steps p.tables e below (s₁.setTop (mkF m 41 #[.val (.int pa), .val (.int pb), .val (.int pc_), .val (.int po), .val (.int fl), .val (.int c0), .val (.int c1), .val (.int (0 : Int32)), .val (.int (((fl.toUInt32 >>> ((1 : Int32) &&& 31).toUInt32).toInt32) &&& (3 : Int32))), .unset, .unset, .unset, .unset, .unset] [(.int (fl &&& (8 : Int32)))])) t
        refine XS.ifYes X0.here hx rfl (pc0 := 41) (pc' := 48) rfl (hb hby at_41) rfl ((if0 _ _).trans (teq hc2).1) (by decide) (by decide) ?_
        refine XS.iconst X0.here hx rfl (hb hby at_48) ?_
        refine XS.istore X0.here hx rfl (hb hby at_49) rfl (l' := #[.val (.int pa), .val (.int pb), .val (.int pc_), .val (.int po), .val (.int fl), .val (.int c0), .val (.int c1), .val (.int (0 : Int32)), .val (.int (((fl.toUInt32 >>> ((1 : Int32) &&& 31).toUInt32).toInt32) &&& (3 : Int32))), .val (.int (0 : Int32)), .unset, .unset, .unset, .unset]) rfl ?_
        refine XS.iload X0.here hx rfl (hb hby at_51) rfl ?_
        exact k
      have Jm : ∀ (mk : Int32) (T : State) (locs : List Loc), Stand p l e room_1 s m #[(.int pa), (.int pb), (.int pc_), (.int po), (.int fl)] below meth c T locs 0 0 → Fr n0 locs → T.heap = h0 → own_Go p e below (own_K s (own_Q0 Z pa pb pc_ po fl  cs  fm  h0 n0) room_1.cells room_1.slots) T (mkF m 83 #[.val (.int pa), .val (.int pb), .val (.int pc_), .val (.int po), .val (.int fl), .val (.int c0), .val (.int c1), .val (.int (0 : Int32)), .val (.int (((fl.toUInt32 >>> ((1 : Int32) &&& 31).toUInt32).toInt32) &&& (3 : Int32))), .val (.int (0 : Int32)), .val (.int mk), .unset, .unset, .unset] []) := by
        intro mk T3 locs3 X3 N3 e3
        by_cases h0c : (255 : Int32) < c0
        · refine own_st (T' := T3) (g' := (mkF m 121 #[.val (.int pa), .val (.int pb), .val (.int pc_), .val (.int po), .val (.int fl), .val (.int c0), .val (.int c1), .val (.int (0 : Int32)), .val (.int (((fl.toUInt32 >>> ((1 : Int32) &&& 31).toUInt32).toInt32) &&& (3 : Int32))), .val (.int (0 : Int32)), .val (.int mk), .unset, .unset, .unset] [(.int c0)])) (fun t k => ?_) ?_
          · show Steps p.tables e below (T3.setTop (mkF m 83 #[.val (.int pa), .val (.int pb), .val (.int pc_), .val (.int po), .val (.int fl), .val (.int c0), .val (.int c1), .val (.int (0 : Int32)), .val (.int (((fl.toUInt32 >>> ((1 : Int32) &&& 31).toUInt32).toInt32) &&& (3 : Int32))), .val (.int (0 : Int32)), .val (.int mk), .unset, .unset, .unset] [])) t
            refine XS.iload X3.here hx rfl (hb hby at_83) rfl ?_
            refine XS.ifYes X3.here hx rfl (pc0 := 85) (pc' := 119) rfl (hb hby at_85) rfl ((if0 _ _).trans (teq (rfl : (0 : Int32) = (0 : Int32))).1) (by decide) (by decide) ?_
            refine XS.iload X3.here hx rfl (hb hby at_119) rfl ?_
            exact k
          obtain ⟨_, _, ⟨T4, L4, c4, n4⟩, -, X4, ⟨Lc4, hQ4, l4, y4, z4⟩, st4⟩ := Jvm.LawKit.callS X3 hx (y := (⟨"java/lang/String", "valueOf", "(C)Ljava/lang/String;"⟩ : MethodName)) hown (mvT hZ (hw _ (List.mem_of_getElem? (i := 1) rfl))) (mvT hZ (hw _ (List.mem_of_getElem? (i := 2) rfl))) (mvT hZ (hw _ (List.mem_of_getElem? (i := 3) rfl))) (mvT hZ (hw _ (List.mem_of_getElem? (i := 4) rfl))) (by decide) (backOf (W := 0) (own_rm1_1 l Z a0 hw [] c0 cs fm h0 n0 Z0 O0 h0c hcs hfm S_cs S_fm S_ad S_hb S_lb) hZ (hw _ (List.mem_of_getElem? (i := 4) rfl)) (hw _ (List.mem_of_getElem? (i := 3) rfl)) (by decide) (by decide)) (g := (mkF m 121 #[.val (.int pa), .val (.int pb), .val (.int pc_), .val (.int po), .val (.int fl), .val (.int c0), .val (.int c1), .val (.int (0 : Int32)), .val (.int (((fl.toUInt32 >>> ((1 : Int32) &&& 31).toUInt32).toInt32) &&& (3 : Int32))), .val (.int (0 : Int32)), .val (.int mk), .unset, .unset, .unset] [(.int c0)])) rfl (by rw [hml]; rfl) (argsL := [(.int c0)]) (rest := []) (lenOf own_pd18 rfl) rfl (by show 2 * 0 + _ ≤ _; exact Nat.le_of_eq rfl) (hb hby at_121) (fun _ _ => ⟨rfl, e3, (by decide : 0 + 2 ≤ _), (by decide : 0 + 6 ≤ _)⟩)
          dsimp only [Pt.U, Pt.locs, Pt.cells, Pt.slots] at X4 l4 y4 z4 st4 hQ4
          subst l4 y4 z4
          obtain ⟨h4, e4⟩ : ∃ z, T4.heap = z := ⟨_, rfl⟩
          rw [e4] at hQ4
          obtain ⟨r4, t4, k4, rfl, N4q, Kc4, g4, hz4, Ec4, Fv4, Fo4, Vc4⟩ := hQ4
          have N4 := Fr.app N3 N4q
          have hwr4 : h0.size ≤ r4 := Nat.le_trans (Keep.refl h0 []).1 hz4
          have K4 : Keep h0 h4 [] := (Keep.refl h0 []).trans Kc4 all0
          have Z4 : n0 ≤ h4.size := Nat.le_trans Z0 Kc4.1
          have O4 := O0.keep Kc4 all0
          refine own_st (T' := T4) (g' := (mkF m 124 #[.val (.int pa), .val (.int pb), .val (.int pc_), .val (.int po), .val (.int fl), .val (.int c0), .val (.int c1), .val (.int (0 : Int32)), .val (.int (((fl.toUInt32 >>> ((1 : Int32) &&& 31).toUInt32).toInt32) &&& (3 : Int32))), .val (.int (0 : Int32)), .val (.int mk), .unset, .unset, .unset] [(.ref r4)])) st4 ?_
          refine own_st (T' := T4) (g' := (mkF m 126 #[.val (.int pa), .val (.int pb), .val (.int pc_), .val (.int po), .val (.int fl), .val (.int c0), .val (.int c1), .val (.int (0 : Int32)), .val (.int (((fl.toUInt32 >>> ((1 : Int32) &&& 31).toUInt32).toInt32) &&& (3 : Int32))), .val (.int (0 : Int32)), .val (.int mk), .val (.ref r4), .unset, .unset] [])) (fun t k => ?_) ?_
          · show Steps p.tables e below (T4.setTop (mkF m 124 #[.val (.int pa), .val (.int pb), .val (.int pc_), .val (.int po), .val (.int fl), .val (.int c0), .val (.int c1), .val (.int (0 : Int32)), .val (.int (((fl.toUInt32 >>> ((1 : Int32) &&& 31).toUInt32).toInt32) &&& (3 : Int32))), .val (.int (0 : Int32)), .val (.int mk), .unset, .unset, .unset] [(.ref r4)])) t
            refine XS.astore X4.here hx rfl (hb hby at_124) rfl rfl (l' := #[.val (.int pa), .val (.int pb), .val (.int pc_), .val (.int po), .val (.int fl), .val (.int c0), .val (.int c1), .val (.int (0 : Int32)), .val (.int (((fl.toUInt32 >>> ((1 : Int32) &&& 31).toUInt32).toInt32) &&& (3 : Int32))), .val (.int (0 : Int32)), .val (.int mk), .val (.ref r4), .unset, .unset]) rfl ?_
            exact k
          obtain ⟨T5, h5, X5, e5, E5, A5, D5, U5, st5⟩ := newO X4 hx hZ hown (hw _ (List.mem_of_getElem? (i := 27) rfl)) (hw _ (List.mem_of_getElem? (i := 28) rfl)) (hw _ (List.mem_of_getElem? (i := 29) rfl)) e4 (g := (mkF m 126 #[.val (.int pa), .val (.int pb), .val (.int pc_), .val (.int po), .val (.int fl), .val (.int c0), .val (.int c1), .val (.int (0 : Int32)), .val (.int (((fl.toUInt32 >>> ((1 : Int32) &&& 31).toUInt32).toInt32) &&& (3 : Int32))), .val (.int (0 : Int32)), .val (.int mk), .val (.ref r4), .unset, .unset] [])) rfl (hb hby at_126) (by decide) (by decide)
          obtain ⟨b5, g5⟩ : ∃ z, z = h4.size := ⟨_, rfl⟩
          rw [← g5] at A5 D5 U5 st5
          have sz5 : h4.size ≤ b5 := Nat.le_of_eq g5.symm
          have ne_r4_b5 : r4 ≠ b5 := Nat.ne_of_lt (Nat.lt_of_lt_of_le Ec4.lt sz5)
          have ne_t4_b5 : t4 ≠ b5 := Nat.ne_of_lt (Nat.lt_of_lt_of_le Vc4.lt sz5)
          have g_b5 : n0 ≤ b5 := Nat.le_trans Z4 sz5
          have hz_b5 : h0.size ≤ b5 := Nat.le_trans K4.1 sz5
          have K5 : Keep h0 h5 [] := K4.ext E5
          have Z5 : n0 ≤ h5.size := Nat.le_trans Z4 E5.1
          have O5 := O4.ext E5
          refine own_st (T' := T5) (g' := (mkF m 129 #[.val (.int pa), .val (.int pb), .val (.int pc_), .val (.int po), .val (.int fl), .val (.int c0), .val (.int c1), .val (.int (0 : Int32)), .val (.int (((fl.toUInt32 >>> ((1 : Int32) &&& 31).toUInt32).toInt32) &&& (3 : Int32))), .val (.int (0 : Int32)), .val (.int mk), .val (.ref r4), .unset, .unset] [(.ref b5)])) st5 ?_
          refine own_st (T' := T5) (g' := (mkF m 135 #[.val (.int pa), .val (.int pb), .val (.int pc_), .val (.int po), .val (.int fl), .val (.int c0), .val (.int c1), .val (.int (0 : Int32)), .val (.int (((fl.toUInt32 >>> ((1 : Int32) &&& 31).toUInt32).toInt32) &&& (3 : Int32))), .val (.int (0 : Int32)), .val (.int mk), .val (.ref r4), .unset, .unset] [(.int (0 : Int32)), (.int po), (.ref r4), (.ref b5), (.ref b5)])) (fun t k => ?_) ?_
          · show Steps p.tables e below (T5.setTop (mkF m 129 #[.val (.int pa), .val (.int pb), .val (.int pc_), .val (.int po), .val (.int fl), .val (.int c0), .val (.int c1), .val (.int (0 : Int32)), .val (.int (((fl.toUInt32 >>> ((1 : Int32) &&& 31).toUInt32).toInt32) &&& (3 : Int32))), .val (.int (0 : Int32)), .val (.int mk), .val (.ref r4), .unset, .unset] [(.ref b5)])) t
            refine XS.dup X5.here hx rfl (hb hby at_129) rfl rfl ?_
            refine XS.aload X5.here hx rfl (hb hby at_130) rfl rfl ?_
            refine XS.iloadN X5.here hx rfl (hb hby at_132) rfl ?_
            refine XS.iload X5.here hx rfl (hb hby at_133) rfl ?_
            exact k
          obtain ⟨_, _, ⟨T6, L6, c6, n6⟩, -, X6, ⟨Lc6, hQ6, l6, y6, z6⟩, st6⟩ := X5.specialBack hx (y := (⟨"com/example/vested_roles/vestedroles/Tokens$Token", "<init>", "(Ljava/lang/String;IZ)V"⟩ : MethodName)) rfl hown (mvT hZ (hw _ (List.mem_of_getElem? (i := 30) rfl))) (mvT hZ (hw _ (List.mem_of_getElem? (i := 31) rfl))) (mvT hZ (hw _ (List.mem_of_getElem? (i := 32) rfl))) (by decide) (backOf (W := 1) (own_rm6_0 l Z a0 hw [] b5 r4 po cs fm h5 n0 Z5 O5 A5 (D5 (Or.inr (hw _ (List.mem_of_getElem? (i := 40) rfl))) (ty := (.object "java/lang/String")) (by decide) : Fld Z h5 b5 "com/example/vested_roles/vestedroles/Tokens$Token" "text" "Ljava/lang/String;" .null) (D5 (Or.inr (hw _ (List.mem_of_getElem? (i := 42) rfl))) (ty := .int) (by decide) : Fld Z h5 b5 "com/example/vested_roles/vestedroles/Tokens$Token" "position" "I" (.int (0 : Int32))) (D5 (Or.inr (hw _ (List.mem_of_getElem? (i := 44) rfl))) (ty := .boolean) (by decide) : Fld Z h5 b5 "com/example/vested_roles/vestedroles/Tokens$Token" "isName" "Z" (.int (0 : Int32))) g_b5 hcs hfm S_cs S_fm S_ad S_hb S_lb) hZ (hw _ (List.mem_of_getElem? (i := 32) rfl)) (hw _ (List.mem_of_getElem? (i := 29) rfl)) (by decide) (by decide)) (g := (mkF m 135 #[.val (.int pa), .val (.int pb), .val (.int pc_), .val (.int po), .val (.int fl), .val (.int c0), .val (.int c1), .val (.int (0 : Int32)), .val (.int (((fl.toUInt32 >>> ((1 : Int32) &&& 31).toUInt32).toInt32) &&& (3 : Int32))), .val (.int (0 : Int32)), .val (.int mk), .val (.ref r4), .unset, .unset] [(.int (0 : Int32)), (.int po), (.ref r4), (.ref b5), (.ref b5)])) rfl (by rw [hml]; rfl) (Steps.refl _) (a := b5) (argsL := [(.ref r4), (.int po), (.int (0 : Int32))]) (rest := [(.ref b5)]) (lenOf own_pd19 rfl) rfl (by show 2 * 0 + _ ≤ _; exact Nat.le_of_eq rfl) (hb hby at_135) (fun _ _ => ⟨rfl, e5, (by decide : 3 + 0 ≤ _), (by decide : 9 + 0 ≤ _)⟩)
          dsimp only [Pt.U, Pt.locs, Pt.cells, Pt.slots] at X6 l6 y6 z6 st6 hQ6
          subst l6 y6 z6
          obtain ⟨h6, e6⟩ : ∃ z, T6.heap = z := ⟨_, rfl⟩
          rw [e6] at hQ6
          obtain ⟨rfl, N6q, Kc6, Fx6, Fn6⟩ := hQ6
          have N6 := Fr.app N4 N6q
          have K6 : Keep h0 h6 [] := K5.trans Kc6 (allS (Or.inr hz_b5) all0)
          have Z6 : n0 ≤ h6.size := Nat.le_trans Z5 Kc6.1
          have O6 := O5.keep Kc6 (allS g_b5 all0)
          refine own_tr (T' := T6) (g' := (mkF m 138 #[.val (.int pa), .val (.int pb), .val (.int pc_), .val (.int po), .val (.int fl), .val (.int c0), .val (.int c1), .val (.int (0 : Int32)), .val (.int (((fl.toUInt32 >>> ((1 : Int32) &&& 31).toUInt32).toInt32) &&& (3 : Int32))), .val (.int (0 : Int32)), .val (.int mk), .val (.ref r4), .unset, .unset] [(.ref b5)])) st6 ?_
          refine own_st (T' := T6) (g' := (mkF m 155 #[.val (.int pa), .val (.int pb), .val (.int pc_), .val (.int po), .val (.int fl), .val (.int c0), .val (.int c1), .val (.int (0 : Int32)), .val (.int (((fl.toUInt32 >>> ((1 : Int32) &&& 31).toUInt32).toInt32) &&& (3 : Int32))), .val (.int (0 : Int32)), .val (.int mk), .val (.ref r4), .val (.ref b5), .unset] [(.int mk), (.int c0)])) (fun t k => ?_) ?_
          · show Steps p.tables e below (T6.setTop (mkF m 138 #[.val (.int pa), .val (.int pb), .val (.int pc_), .val (.int po), .val (.int fl), .val (.int c0), .val (.int c1), .val (.int (0 : Int32)), .val (.int (((fl.toUInt32 >>> ((1 : Int32) &&& 31).toUInt32).toInt32) &&& (3 : Int32))), .val (.int (0 : Int32)), .val (.int mk), .val (.ref r4), .unset, .unset] [(.ref b5)])) t
            refine XS.astore X6.here hx rfl (hb hby at_138) rfl rfl (l' := #[.val (.int pa), .val (.int pb), .val (.int pc_), .val (.int po), .val (.int fl), .val (.int c0), .val (.int c1), .val (.int (0 : Int32)), .val (.int (((fl.toUInt32 >>> ((1 : Int32) &&& 31).toUInt32).toInt32) &&& (3 : Int32))), .val (.int (0 : Int32)), .val (.int mk), .val (.ref r4), .val (.ref b5), .unset]) rfl ?_
            refine XS.iload X6.here hx rfl (hb hby at_140) rfl ?_
            refine XS.ifYes X6.here hx rfl (pc0 := 142) (pc' := 151) rfl (hb hby at_142) rfl ((if0 _ _).trans (teq (rfl : (0 : Int32) = (0 : Int32))).1) (by decide) (by decide) ?_
            refine XS.iload X6.here hx rfl (hb hby at_151) rfl ?_
            refine XS.iload X6.here hx rfl (hb hby at_153) rfl ?_
            exact k
          by_cases hc7 : c0 = mk
          · refine own_st (T' := T6) (g' := (mkF m 169 #[.val (.int pa), .val (.int pb), .val (.int pc_), .val (.int po), .val (.int fl), .val (.int c0), .val (.int c1), .val (.int (0 : Int32)), .val (.int (((fl.toUInt32 >>> ((1 : Int32) &&& 31).toUInt32).toInt32) &&& (3 : Int32))), .val (.int (0 : Int32)), .val (.int mk), .val (.ref r4), .val (.ref b5), .val (.int (1 : Int32))] [(.int mk), (.ref b5)])) (fun t k => ?_) ?_
            · show Steps p.tables e below (T6.setTop (mkF m 155 #[.val (.int pa), .val (.int pb), .val (.int pc_), .val (.int po), .val (.int fl), .val (.int c0), .val (.int c1), .val (.int (0 : Int32)), .val (.int (((fl.toUInt32 >>> ((1 : Int32) &&& 31).toUInt32).toInt32) &&& (3 : Int32))), .val (.int (0 : Int32)), .val (.int mk), .val (.ref r4), .val (.ref b5), .unset] [(.int mk), (.int c0)])) t
              refine XS.icmpNo X6.here hx rfl (hb hby at_155) rfl (teq hc7).2 ?_
              refine XS.iconst X6.here hx rfl (hb hby at_158) ?_
              refine XS.goto X6.here hx rfl (pc0 := 159) (pc' := 163) rfl (hb hby at_159) (by decide) (by decide) ?_
              refine XS.istore X6.here hx rfl (hb hby at_163) rfl (l' := #[.val (.int pa), .val (.int pb), .val (.int pc_), .val (.int po), .val (.int fl), .val (.int c0), .val (.int c1), .val (.int (0 : Int32)), .val (.int (((fl.toUInt32 >>> ((1 : Int32) &&& 31).toUInt32).toInt32) &&& (3 : Int32))), .val (.int (0 : Int32)), .val (.int mk), .val (.ref r4), .val (.ref b5), .val (.int (1 : Int32))]) rfl ?_
              refine XS.aload X6.here hx rfl (hb hby at_165) rfl rfl ?_
              refine XS.iload X6.here hx rfl (hb hby at_167) rfl ?_
              exact k
            have f8 := (Ec4.ext E5).keep Kc6
            have f9 := (Fv4.ext E5).keep Kc6 (ninS ne_r4_b5 nin0)
            have f10 := (Fo4.ext E5).keep Kc6 (ninS ne_r4_b5 nin0)
            have f11 := (Vc4.ext E5).keep Kc6 (ninS ne_t4_b5 nin0)
            have f13 := A5.keep Kc6
            obtain ⟨cq12, kq12, q12a, q12b, q12c⟩ := isOf hZ e6 f13
            obtain ⟨_, _, ⟨T12, L12, c12, n12⟩, -, X12, ⟨Lc12, hQ12, l12, y12, z12⟩, st12⟩ := X6.virtualBack hx (y := (⟨"com/example/vested_roles/vestedroles/Tokens$Token", "is", "(C)Z"⟩ : MethodName)) (z := (⟨"com/example/vested_roles/vestedroles/Tokens$Token", "is", "(C)Z"⟩ : MethodName)) hown (mvT hZ (hw _ (List.mem_of_getElem? (i := 45) rfl))) (mvT hZ (hw _ (List.mem_of_getElem? (i := 46) rfl))) (notFace_of_selects (args := #[]) (mvT hZ (hw _ (List.mem_of_getElem? (i := 48) rfl)))) (mvT hZ (hw _ (List.mem_of_getElem? (i := 48) rfl))) (mvT hZ (hw _ (List.mem_of_getElem? (i := 47) rfl))) (by decide) (backOf (W := 0) (own_rm8_1_2 l Z a0 hw [] b5 r4 t4 k4 ((c0 >>> ((0 : Int32) &&& 31)).toInt8.toInt32) ((c0 >>> ((8 : Int32) &&& 31)).toInt8.toInt32) mk cs fm h6 n0 Z6 O6 Fn6 Fx6 f8 f9 f10 f11 hcs hfm S_cs S_fm S_ad S_hb S_lb) hZ (hw _ (List.mem_of_getElem? (i := 49) rfl)) (hw _ (List.mem_of_getElem? (i := 29) rfl)) (by decide) (by decide)) q12a q12c (g := (mkF m 169 #[.val (.int pa), .val (.int pb), .val (.int pc_), .val (.int po), .val (.int fl), .val (.int c0), .val (.int c1), .val (.int (0 : Int32)), .val (.int (((fl.toUInt32 >>> ((1 : Int32) &&& 31).toUInt32).toInt32) &&& (3 : Int32))), .val (.int (0 : Int32)), .val (.int mk), .val (.ref r4), .val (.ref b5), .val (.int (1 : Int32))] [(.int mk), (.ref b5)])) rfl (by rw [hml]; rfl) (Steps.refl _) (argsL := [(.int mk)]) (rest := []) (lenOf own_pd13 rfl) rfl (by show 2 * 0 + _ ≤ _; exact Nat.le_of_eq rfl) (hb hby at_169) (fun _ _ => ⟨rfl, e6, (by decide : 3 + 0 ≤ _), (by decide : 9 + 0 ≤ _)⟩)
            dsimp only [Pt.U, Pt.locs, Pt.cells, Pt.slots] at X12 l12 y12 z12 st12 hQ12
            subst l12 y12 z12
            obtain ⟨rfl, N12q, e12⟩ := hQ12
            have N12 := Fr.app N6 N12q
            refine own_tr (T' := T12) (g' := (mkF m 172 #[.val (.int pa), .val (.int pb), .val (.int pc_), .val (.int po), .val (.int fl), .val (.int c0), .val (.int c1), .val (.int (0 : Int32)), .val (.int (((fl.toUInt32 >>> ((1 : Int32) &&& 31).toUInt32).toInt32) &&& (3 : Int32))), .val (.int (0 : Int32)), .val (.int mk), .val (.ref r4), .val (.ref b5), .val (.int (1 : Int32))] [(.int (own_eqi (own_gc ((c0 >>> ((0 : Int32) &&& 31)).toInt8.toInt32) ((c0 >>> ((8 : Int32) &&& 31)).toInt8.toInt32)) mk))])) st12 ?_
            have hG : (own_eqi (own_gc ((c0 >>> ((0 : Int32) &&& 31)).toInt8.toInt32) ((c0 >>> ((8 : Int32) &&& 31)).toInt8.toInt32)) mk) = (1 : Int32) := by rw [(own_gc_c rg0)]; simp only [own_eqi, hc7, if_true, if_false]
            refine own_st (T' := T12) (g' := (mkF m 182 #[.val (.int pa), .val (.int pb), .val (.int pc_), .val (.int po), .val (.int fl), .val (.int c0), .val (.int c1), .val (.int (0 : Int32)), .val (.int (((fl.toUInt32 >>> ((1 : Int32) &&& 31).toUInt32).toInt32) &&& (3 : Int32))), .val (.int (0 : Int32)), .val (.int mk), .val (.ref r4), .val (.ref b5), .val (.int (1 : Int32))] [(.int (1 : Int32))])) (fun t k => ?_) ?_
            · show Steps p.tables e below (T12.setTop (mkF m 172 #[.val (.int pa), .val (.int pb), .val (.int pc_), .val (.int po), .val (.int fl), .val (.int c0), .val (.int c1), .val (.int (0 : Int32)), .val (.int (((fl.toUInt32 >>> ((1 : Int32) &&& 31).toUInt32).toInt32) &&& (3 : Int32))), .val (.int (0 : Int32)), .val (.int mk), .val (.ref r4), .val (.ref b5), .val (.int (1 : Int32))] [(.int (own_eqi (own_gc ((c0 >>> ((0 : Int32) &&& 31)).toInt8.toInt32) ((c0 >>> ((8 : Int32) &&& 31)).toInt8.toInt32)) mk))])) t
              refine XS.iload X12.here hx rfl (hb hby at_172) rfl ?_
              refine XS.icmpNo X12.here hx rfl (hb hby at_174) rfl (teq hG).2 ?_
              refine XS.iconst X12.here hx rfl (hb hby at_177) ?_
              refine XS.goto X12.here hx rfl (pc0 := 178) (pc' := 182) rfl (hb hby at_178) (by decide) (by decide) ?_
              exact k
            exact own_retN X12 hx Bd (t := .boolean) (by simp) rfl (hb hby at_182) e12 (⟨rfl, N12⟩) (by decide) (by decide)
          · refine own_st (T' := T6) (g' := (mkF m 169 #[.val (.int pa), .val (.int pb), .val (.int pc_), .val (.int po), .val (.int fl), .val (.int c0), .val (.int c1), .val (.int (0 : Int32)), .val (.int (((fl.toUInt32 >>> ((1 : Int32) &&& 31).toUInt32).toInt32) &&& (3 : Int32))), .val (.int (0 : Int32)), .val (.int mk), .val (.ref r4), .val (.ref b5), .val (.int (0 : Int32))] [(.int mk), (.ref b5)])) (fun t k => ?_) ?_
            · show Steps p.tables e below (T6.setTop (mkF m 155 #[.val (.int pa), .val (.int pb), .val (.int pc_), .val (.int po), .val (.int fl), .val (.int c0), .val (.int c1), .val (.int (0 : Int32)), .val (.int (((fl.toUInt32 >>> ((1 : Int32) &&& 31).toUInt32).toInt32) &&& (3 : Int32))), .val (.int (0 : Int32)), .val (.int mk), .val (.ref r4), .val (.ref b5), .unset] [(.int mk), (.int c0)])) t
              refine XS.icmpYes X6.here hx rfl (pc0 := 155) (pc' := 162) rfl (hb hby at_155) rfl (feq hc7).2 (by decide) (by decide) ?_
              refine XS.iconst X6.here hx rfl (hb hby at_162) ?_
              refine XS.istore X6.here hx rfl (hb hby at_163) rfl (l' := #[.val (.int pa), .val (.int pb), .val (.int pc_), .val (.int po), .val (.int fl), .val (.int c0), .val (.int c1), .val (.int (0 : Int32)), .val (.int (((fl.toUInt32 >>> ((1 : Int32) &&& 31).toUInt32).toInt32) &&& (3 : Int32))), .val (.int (0 : Int32)), .val (.int mk), .val (.ref r4), .val (.ref b5), .val (.int (0 : Int32))]) rfl ?_
              refine XS.aload X6.here hx rfl (hb hby at_165) rfl rfl ?_
              refine XS.iload X6.here hx rfl (hb hby at_167) rfl ?_
              exact k
            have f14 := (Ec4.ext E5).keep Kc6
            have f15 := (Fv4.ext E5).keep Kc6 (ninS ne_r4_b5 nin0)
            have f16 := (Fo4.ext E5).keep Kc6 (ninS ne_r4_b5 nin0)
            have f17 := (Vc4.ext E5).keep Kc6 (ninS ne_t4_b5 nin0)
            have f19 := A5.keep Kc6
            obtain ⟨cq18, kq18, q18a, q18b, q18c⟩ := isOf hZ e6 f19
            obtain ⟨_, _, ⟨T18, L18, c18, n18⟩, -, X18, ⟨Lc18, hQ18, l18, y18, z18⟩, st18⟩ := X6.virtualBack hx (y := (⟨"com/example/vested_roles/vestedroles/Tokens$Token", "is", "(C)Z"⟩ : MethodName)) (z := (⟨"com/example/vested_roles/vestedroles/Tokens$Token", "is", "(C)Z"⟩ : MethodName)) hown (mvT hZ (hw _ (List.mem_of_getElem? (i := 45) rfl))) (mvT hZ (hw _ (List.mem_of_getElem? (i := 46) rfl))) (notFace_of_selects (args := #[]) (mvT hZ (hw _ (List.mem_of_getElem? (i := 48) rfl)))) (mvT hZ (hw _ (List.mem_of_getElem? (i := 48) rfl))) (mvT hZ (hw _ (List.mem_of_getElem? (i := 47) rfl))) (by decide) (backOf (W := 0) (own_rm8_1_2 l Z a0 hw [] b5 r4 t4 k4 ((c0 >>> ((0 : Int32) &&& 31)).toInt8.toInt32) ((c0 >>> ((8 : Int32) &&& 31)).toInt8.toInt32) mk cs fm h6 n0 Z6 O6 Fn6 Fx6 f14 f15 f16 f17 hcs hfm S_cs S_fm S_ad S_hb S_lb) hZ (hw _ (List.mem_of_getElem? (i := 49) rfl)) (hw _ (List.mem_of_getElem? (i := 29) rfl)) (by decide) (by decide)) q18a q18c (g := (mkF m 169 #[.val (.int pa), .val (.int pb), .val (.int pc_), .val (.int po), .val (.int fl), .val (.int c0), .val (.int c1), .val (.int (0 : Int32)), .val (.int (((fl.toUInt32 >>> ((1 : Int32) &&& 31).toUInt32).toInt32) &&& (3 : Int32))), .val (.int (0 : Int32)), .val (.int mk), .val (.ref r4), .val (.ref b5), .val (.int (0 : Int32))] [(.int mk), (.ref b5)])) rfl (by rw [hml]; rfl) (Steps.refl _) (argsL := [(.int mk)]) (rest := []) (lenOf own_pd13 rfl) rfl (by show 2 * 0 + _ ≤ _; exact Nat.le_of_eq rfl) (hb hby at_169) (fun _ _ => ⟨rfl, e6, (by decide : 3 + 0 ≤ _), (by decide : 9 + 0 ≤ _)⟩)
            dsimp only [Pt.U, Pt.locs, Pt.cells, Pt.slots] at X18 l18 y18 z18 st18 hQ18
            subst l18 y18 z18
            obtain ⟨rfl, N18q, e18⟩ := hQ18
            have N18 := Fr.app N6 N18q
            refine own_tr (T' := T18) (g' := (mkF m 172 #[.val (.int pa), .val (.int pb), .val (.int pc_), .val (.int po), .val (.int fl), .val (.int c0), .val (.int c1), .val (.int (0 : Int32)), .val (.int (((fl.toUInt32 >>> ((1 : Int32) &&& 31).toUInt32).toInt32) &&& (3 : Int32))), .val (.int (0 : Int32)), .val (.int mk), .val (.ref r4), .val (.ref b5), .val (.int (0 : Int32))] [(.int (own_eqi (own_gc ((c0 >>> ((0 : Int32) &&& 31)).toInt8.toInt32) ((c0 >>> ((8 : Int32) &&& 31)).toInt8.toInt32)) mk))])) st18 ?_
            have hG : (own_eqi (own_gc ((c0 >>> ((0 : Int32) &&& 31)).toInt8.toInt32) ((c0 >>> ((8 : Int32) &&& 31)).toInt8.toInt32)) mk) = (0 : Int32) := by rw [(own_gc_c rg0)]; simp only [own_eqi, hc7, if_true, if_false]
            refine own_st (T' := T18) (g' := (mkF m 182 #[.val (.int pa), .val (.int pb), .val (.int pc_), .val (.int po), .val (.int fl), .val (.int c0), .val (.int c1), .val (.int (0 : Int32)), .val (.int (((fl.toUInt32 >>> ((1 : Int32) &&& 31).toUInt32).toInt32) &&& (3 : Int32))), .val (.int (0 : Int32)), .val (.int mk), .val (.ref r4), .val (.ref b5), .val (.int (0 : Int32))] [(.int (1 : Int32))])) (fun t k => ?_) ?_
            · show Steps p.tables e below (T18.setTop (mkF m 172 #[.val (.int pa), .val (.int pb), .val (.int pc_), .val (.int po), .val (.int fl), .val (.int c0), .val (.int c1), .val (.int (0 : Int32)), .val (.int (((fl.toUInt32 >>> ((1 : Int32) &&& 31).toUInt32).toInt32) &&& (3 : Int32))), .val (.int (0 : Int32)), .val (.int mk), .val (.ref r4), .val (.ref b5), .val (.int (0 : Int32))] [(.int (own_eqi (own_gc ((c0 >>> ((0 : Int32) &&& 31)).toInt8.toInt32) ((c0 >>> ((8 : Int32) &&& 31)).toInt8.toInt32)) mk))])) t
              refine XS.iload X18.here hx rfl (hb hby at_172) rfl ?_
              refine XS.icmpNo X18.here hx rfl (hb hby at_174) rfl (teq hG).2 ?_
              refine XS.iconst X18.here hx rfl (hb hby at_177) ?_
              refine XS.goto X18.here hx rfl (pc0 := 178) (pc' := 182) rfl (hb hby at_178) (by decide) (by decide) ?_
              exact k
            exact own_retN X18 hx Bd (t := .boolean) (by simp) rfl (hb hby at_182) e18 (⟨rfl, N18⟩) (by decide) (by decide)
        · refine own_st (T' := T3) (g' := (mkF m 121 #[.val (.int pa), .val (.int pb), .val (.int pc_), .val (.int po), .val (.int fl), .val (.int c0), .val (.int c1), .val (.int (0 : Int32)), .val (.int (((fl.toUInt32 >>> ((1 : Int32) &&& 31).toUInt32).toInt32) &&& (3 : Int32))), .val (.int (0 : Int32)), .val (.int mk), .unset, .unset, .unset] [(.int c0)])) (fun t k => ?_) ?_
          · show Steps p.tables e below (T3.setTop (mkF m 83 #[.val (.int pa), .val (.int pb), .val (.int pc_), .val (.int po), .val (.int fl), .val (.int c0), .val (.int c1), .val (.int (0 : Int32)), .val (.int (((fl.toUInt32 >>> ((1 : Int32) &&& 31).toUInt32).toInt32) &&& (3 : Int32))), .val (.int (0 : Int32)), .val (.int mk), .unset, .unset, .unset] [])) t
            refine XS.iload X3.here hx rfl (hb hby at_83) rfl ?_
            refine XS.ifYes X3.here hx rfl (pc0 := 85) (pc' := 119) rfl (hb hby at_85) rfl ((if0 _ _).trans (teq (rfl : (0 : Int32) = (0 : Int32))).1) (by decide) (by decide) ?_
            refine XS.iload X3.here hx rfl (hb hby at_119) rfl ?_
            exact k
          obtain ⟨_, _, ⟨T20, L20, c20, n20⟩, -, X20, ⟨Lc20, hQ20, l20, y20, z20⟩, st20⟩ := Jvm.LawKit.callS X3 hx (y := (⟨"java/lang/String", "valueOf", "(C)Ljava/lang/String;"⟩ : MethodName)) hown (mvT hZ (hw _ (List.mem_of_getElem? (i := 1) rfl))) (mvT hZ (hw _ (List.mem_of_getElem? (i := 2) rfl))) (mvT hZ (hw _ (List.mem_of_getElem? (i := 3) rfl))) (mvT hZ (hw _ (List.mem_of_getElem? (i := 4) rfl))) (by decide) (backOf (W := 0) (own_rm1_0 l Z a0 hw [] c0 cs fm h0 n0 Z0 O0 h0c hcs hfm S_cs S_fm S_ad S_hb S_lb) hZ (hw _ (List.mem_of_getElem? (i := 4) rfl)) (hw _ (List.mem_of_getElem? (i := 3) rfl)) (by decide) (by decide)) (g := (mkF m 121 #[.val (.int pa), .val (.int pb), .val (.int pc_), .val (.int po), .val (.int fl), .val (.int c0), .val (.int c1), .val (.int (0 : Int32)), .val (.int (((fl.toUInt32 >>> ((1 : Int32) &&& 31).toUInt32).toInt32) &&& (3 : Int32))), .val (.int (0 : Int32)), .val (.int mk), .unset, .unset, .unset] [(.int c0)])) rfl (by rw [hml]; rfl) (argsL := [(.int c0)]) (rest := []) (lenOf own_pd18 rfl) rfl (by show 2 * 0 + _ ≤ _; exact Nat.le_of_eq rfl) (hb hby at_121) (fun _ _ => ⟨rfl, e3, (by decide : 0 + 2 ≤ _), (by decide : 0 + 5 ≤ _)⟩)
          dsimp only [Pt.U, Pt.locs, Pt.cells, Pt.slots] at X20 l20 y20 z20 st20 hQ20
          subst l20 y20 z20
          obtain ⟨h20, e20⟩ : ∃ z, T20.heap = z := ⟨_, rfl⟩
          rw [e20] at hQ20
          obtain ⟨r20, t20, k20, rfl, N20q, Kc20, g20, hz20, Ec20, Fv20, Fo20, Vc20⟩ := hQ20
          have N20 := Fr.app N3 N20q
          have hwr20 : h0.size ≤ r20 := Nat.le_trans (Keep.refl h0 []).1 hz20
          have K20 : Keep h0 h20 [] := (Keep.refl h0 []).trans Kc20 all0
          have Z20 : n0 ≤ h20.size := Nat.le_trans Z0 Kc20.1
          have O20 := O0.keep Kc20 all0
          refine own_st (T' := T20) (g' := (mkF m 124 #[.val (.int pa), .val (.int pb), .val (.int pc_), .val (.int po), .val (.int fl), .val (.int c0), .val (.int c1), .val (.int (0 : Int32)), .val (.int (((fl.toUInt32 >>> ((1 : Int32) &&& 31).toUInt32).toInt32) &&& (3 : Int32))), .val (.int (0 : Int32)), .val (.int mk), .unset, .unset, .unset] [(.ref r20)])) st20 ?_
          refine own_st (T' := T20) (g' := (mkF m 126 #[.val (.int pa), .val (.int pb), .val (.int pc_), .val (.int po), .val (.int fl), .val (.int c0), .val (.int c1), .val (.int (0 : Int32)), .val (.int (((fl.toUInt32 >>> ((1 : Int32) &&& 31).toUInt32).toInt32) &&& (3 : Int32))), .val (.int (0 : Int32)), .val (.int mk), .val (.ref r20), .unset, .unset] [])) (fun t k => ?_) ?_
          · show Steps p.tables e below (T20.setTop (mkF m 124 #[.val (.int pa), .val (.int pb), .val (.int pc_), .val (.int po), .val (.int fl), .val (.int c0), .val (.int c1), .val (.int (0 : Int32)), .val (.int (((fl.toUInt32 >>> ((1 : Int32) &&& 31).toUInt32).toInt32) &&& (3 : Int32))), .val (.int (0 : Int32)), .val (.int mk), .unset, .unset, .unset] [(.ref r20)])) t
            refine XS.astore X20.here hx rfl (hb hby at_124) rfl rfl (l' := #[.val (.int pa), .val (.int pb), .val (.int pc_), .val (.int po), .val (.int fl), .val (.int c0), .val (.int c1), .val (.int (0 : Int32)), .val (.int (((fl.toUInt32 >>> ((1 : Int32) &&& 31).toUInt32).toInt32) &&& (3 : Int32))), .val (.int (0 : Int32)), .val (.int mk), .val (.ref r20), .unset, .unset]) rfl ?_
            exact k
          obtain ⟨T21, h21, X21, e21, E21, A21, D21, U21, st21⟩ := newO X20 hx hZ hown (hw _ (List.mem_of_getElem? (i := 27) rfl)) (hw _ (List.mem_of_getElem? (i := 28) rfl)) (hw _ (List.mem_of_getElem? (i := 29) rfl)) e20 (g := (mkF m 126 #[.val (.int pa), .val (.int pb), .val (.int pc_), .val (.int po), .val (.int fl), .val (.int c0), .val (.int c1), .val (.int (0 : Int32)), .val (.int (((fl.toUInt32 >>> ((1 : Int32) &&& 31).toUInt32).toInt32) &&& (3 : Int32))), .val (.int (0 : Int32)), .val (.int mk), .val (.ref r20), .unset, .unset] [])) rfl (hb hby at_126) (by decide) (by decide)
          obtain ⟨b21, g21⟩ : ∃ z, z = h20.size := ⟨_, rfl⟩
          rw [← g21] at A21 D21 U21 st21
          have sz21 : h20.size ≤ b21 := Nat.le_of_eq g21.symm
          have ne_r20_b21 : r20 ≠ b21 := Nat.ne_of_lt (Nat.lt_of_lt_of_le Ec20.lt sz21)
          have ne_t20_b21 : t20 ≠ b21 := Nat.ne_of_lt (Nat.lt_of_lt_of_le Vc20.lt sz21)
          have g_b21 : n0 ≤ b21 := Nat.le_trans Z20 sz21
          have hz_b21 : h0.size ≤ b21 := Nat.le_trans K20.1 sz21
          have K21 : Keep h0 h21 [] := K20.ext E21
          have Z21 : n0 ≤ h21.size := Nat.le_trans Z20 E21.1
          have O21 := O20.ext E21
          refine own_st (T' := T21) (g' := (mkF m 129 #[.val (.int pa), .val (.int pb), .val (.int pc_), .val (.int po), .val (.int fl), .val (.int c0), .val (.int c1), .val (.int (0 : Int32)), .val (.int (((fl.toUInt32 >>> ((1 : Int32) &&& 31).toUInt32).toInt32) &&& (3 : Int32))), .val (.int (0 : Int32)), .val (.int mk), .val (.ref r20), .unset, .unset] [(.ref b21)])) st21 ?_
          refine own_st (T' := T21) (g' := (mkF m 135 #[.val (.int pa), .val (.int pb), .val (.int pc_), .val (.int po), .val (.int fl), .val (.int c0), .val (.int c1), .val (.int (0 : Int32)), .val (.int (((fl.toUInt32 >>> ((1 : Int32) &&& 31).toUInt32).toInt32) &&& (3 : Int32))), .val (.int (0 : Int32)), .val (.int mk), .val (.ref r20), .unset, .unset] [(.int (0 : Int32)), (.int po), (.ref r20), (.ref b21), (.ref b21)])) (fun t k => ?_) ?_
          · show Steps p.tables e below (T21.setTop (mkF m 129 #[.val (.int pa), .val (.int pb), .val (.int pc_), .val (.int po), .val (.int fl), .val (.int c0), .val (.int c1), .val (.int (0 : Int32)), .val (.int (((fl.toUInt32 >>> ((1 : Int32) &&& 31).toUInt32).toInt32) &&& (3 : Int32))), .val (.int (0 : Int32)), .val (.int mk), .val (.ref r20), .unset, .unset] [(.ref b21)])) t
            refine XS.dup X21.here hx rfl (hb hby at_129) rfl rfl ?_
            refine XS.aload X21.here hx rfl (hb hby at_130) rfl rfl ?_
            refine XS.iloadN X21.here hx rfl (hb hby at_132) rfl ?_
            refine XS.iload X21.here hx rfl (hb hby at_133) rfl ?_
            exact k
          obtain ⟨_, _, ⟨T22, L22, c22, n22⟩, -, X22, ⟨Lc22, hQ22, l22, y22, z22⟩, st22⟩ := X21.specialBack hx (y := (⟨"com/example/vested_roles/vestedroles/Tokens$Token", "<init>", "(Ljava/lang/String;IZ)V"⟩ : MethodName)) rfl hown (mvT hZ (hw _ (List.mem_of_getElem? (i := 30) rfl))) (mvT hZ (hw _ (List.mem_of_getElem? (i := 31) rfl))) (mvT hZ (hw _ (List.mem_of_getElem? (i := 32) rfl))) (by decide) (backOf (W := 1) (own_rm6_0 l Z a0 hw [] b21 r20 po cs fm h21 n0 Z21 O21 A21 (D21 (Or.inr (hw _ (List.mem_of_getElem? (i := 40) rfl))) (ty := (.object "java/lang/String")) (by decide) : Fld Z h21 b21 "com/example/vested_roles/vestedroles/Tokens$Token" "text" "Ljava/lang/String;" .null) (D21 (Or.inr (hw _ (List.mem_of_getElem? (i := 42) rfl))) (ty := .int) (by decide) : Fld Z h21 b21 "com/example/vested_roles/vestedroles/Tokens$Token" "position" "I" (.int (0 : Int32))) (D21 (Or.inr (hw _ (List.mem_of_getElem? (i := 44) rfl))) (ty := .boolean) (by decide) : Fld Z h21 b21 "com/example/vested_roles/vestedroles/Tokens$Token" "isName" "Z" (.int (0 : Int32))) g_b21 hcs hfm S_cs S_fm S_ad S_hb S_lb) hZ (hw _ (List.mem_of_getElem? (i := 32) rfl)) (hw _ (List.mem_of_getElem? (i := 29) rfl)) (by decide) (by decide)) (g := (mkF m 135 #[.val (.int pa), .val (.int pb), .val (.int pc_), .val (.int po), .val (.int fl), .val (.int c0), .val (.int c1), .val (.int (0 : Int32)), .val (.int (((fl.toUInt32 >>> ((1 : Int32) &&& 31).toUInt32).toInt32) &&& (3 : Int32))), .val (.int (0 : Int32)), .val (.int mk), .val (.ref r20), .unset, .unset] [(.int (0 : Int32)), (.int po), (.ref r20), (.ref b21), (.ref b21)])) rfl (by rw [hml]; rfl) (Steps.refl _) (a := b21) (argsL := [(.ref r20), (.int po), (.int (0 : Int32))]) (rest := [(.ref b21)]) (lenOf own_pd19 rfl) rfl (by show 2 * 0 + _ ≤ _; exact Nat.le_of_eq rfl) (hb hby at_135) (fun _ _ => ⟨rfl, e21, (by decide : 3 + 0 ≤ _), (by decide : 8 + 0 ≤ _)⟩)
          dsimp only [Pt.U, Pt.locs, Pt.cells, Pt.slots] at X22 l22 y22 z22 st22 hQ22
          subst l22 y22 z22
          obtain ⟨h22, e22⟩ : ∃ z, T22.heap = z := ⟨_, rfl⟩
          rw [e22] at hQ22
          obtain ⟨rfl, N22q, Kc22, Fx22, Fn22⟩ := hQ22
          have N22 := Fr.app N20 N22q
          have K22 : Keep h0 h22 [] := K21.trans Kc22 (allS (Or.inr hz_b21) all0)
          have Z22 : n0 ≤ h22.size := Nat.le_trans Z21 Kc22.1
          have O22 := O21.keep Kc22 (allS g_b21 all0)
          refine own_tr (T' := T22) (g' := (mkF m 138 #[.val (.int pa), .val (.int pb), .val (.int pc_), .val (.int po), .val (.int fl), .val (.int c0), .val (.int c1), .val (.int (0 : Int32)), .val (.int (((fl.toUInt32 >>> ((1 : Int32) &&& 31).toUInt32).toInt32) &&& (3 : Int32))), .val (.int (0 : Int32)), .val (.int mk), .val (.ref r20), .unset, .unset] [(.ref b21)])) st22 ?_
          refine own_st (T' := T22) (g' := (mkF m 155 #[.val (.int pa), .val (.int pb), .val (.int pc_), .val (.int po), .val (.int fl), .val (.int c0), .val (.int c1), .val (.int (0 : Int32)), .val (.int (((fl.toUInt32 >>> ((1 : Int32) &&& 31).toUInt32).toInt32) &&& (3 : Int32))), .val (.int (0 : Int32)), .val (.int mk), .val (.ref r20), .val (.ref b21), .unset] [(.int mk), (.int c0)])) (fun t k => ?_) ?_
          · show Steps p.tables e below (T22.setTop (mkF m 138 #[.val (.int pa), .val (.int pb), .val (.int pc_), .val (.int po), .val (.int fl), .val (.int c0), .val (.int c1), .val (.int (0 : Int32)), .val (.int (((fl.toUInt32 >>> ((1 : Int32) &&& 31).toUInt32).toInt32) &&& (3 : Int32))), .val (.int (0 : Int32)), .val (.int mk), .val (.ref r20), .unset, .unset] [(.ref b21)])) t
            refine XS.astore X22.here hx rfl (hb hby at_138) rfl rfl (l' := #[.val (.int pa), .val (.int pb), .val (.int pc_), .val (.int po), .val (.int fl), .val (.int c0), .val (.int c1), .val (.int (0 : Int32)), .val (.int (((fl.toUInt32 >>> ((1 : Int32) &&& 31).toUInt32).toInt32) &&& (3 : Int32))), .val (.int (0 : Int32)), .val (.int mk), .val (.ref r20), .val (.ref b21), .unset]) rfl ?_
            refine XS.iload X22.here hx rfl (hb hby at_140) rfl ?_
            refine XS.ifYes X22.here hx rfl (pc0 := 142) (pc' := 151) rfl (hb hby at_142) rfl ((if0 _ _).trans (teq (rfl : (0 : Int32) = (0 : Int32))).1) (by decide) (by decide) ?_
            refine XS.iload X22.here hx rfl (hb hby at_151) rfl ?_
            refine XS.iload X22.here hx rfl (hb hby at_153) rfl ?_
            exact k
          by_cases hc23 : c0 = mk
          · refine own_st (T' := T22) (g' := (mkF m 169 #[.val (.int pa), .val (.int pb), .val (.int pc_), .val (.int po), .val (.int fl), .val (.int c0), .val (.int c1), .val (.int (0 : Int32)), .val (.int (((fl.toUInt32 >>> ((1 : Int32) &&& 31).toUInt32).toInt32) &&& (3 : Int32))), .val (.int (0 : Int32)), .val (.int mk), .val (.ref r20), .val (.ref b21), .val (.int (1 : Int32))] [(.int mk), (.ref b21)])) (fun t k => ?_) ?_
            · show Steps p.tables e below (T22.setTop (mkF m 155 #[.val (.int pa), .val (.int pb), .val (.int pc_), .val (.int po), .val (.int fl), .val (.int c0), .val (.int c1), .val (.int (0 : Int32)), .val (.int (((fl.toUInt32 >>> ((1 : Int32) &&& 31).toUInt32).toInt32) &&& (3 : Int32))), .val (.int (0 : Int32)), .val (.int mk), .val (.ref r20), .val (.ref b21), .unset] [(.int mk), (.int c0)])) t
              refine XS.icmpNo X22.here hx rfl (hb hby at_155) rfl (teq hc23).2 ?_
              refine XS.iconst X22.here hx rfl (hb hby at_158) ?_
              refine XS.goto X22.here hx rfl (pc0 := 159) (pc' := 163) rfl (hb hby at_159) (by decide) (by decide) ?_
              refine XS.istore X22.here hx rfl (hb hby at_163) rfl (l' := #[.val (.int pa), .val (.int pb), .val (.int pc_), .val (.int po), .val (.int fl), .val (.int c0), .val (.int c1), .val (.int (0 : Int32)), .val (.int (((fl.toUInt32 >>> ((1 : Int32) &&& 31).toUInt32).toInt32) &&& (3 : Int32))), .val (.int (0 : Int32)), .val (.int mk), .val (.ref r20), .val (.ref b21), .val (.int (1 : Int32))]) rfl ?_
              refine XS.aload X22.here hx rfl (hb hby at_165) rfl rfl ?_
              refine XS.iload X22.here hx rfl (hb hby at_167) rfl ?_
              exact k
            have f24 := (Ec20.ext E21).keep Kc22
            have f25 := (Fv20.ext E21).keep Kc22 (ninS ne_r20_b21 nin0)
            have f26 := (Fo20.ext E21).keep Kc22 (ninS ne_r20_b21 nin0)
            have f27 := (Vc20.ext E21).keep Kc22 (ninS ne_t20_b21 nin0)
            have f29 := A21.keep Kc22
            obtain ⟨cq28, kq28, q28a, q28b, q28c⟩ := isOf hZ e22 f29
            obtain ⟨_, _, ⟨T28, L28, c28, n28⟩, -, X28, ⟨Lc28, hQ28, l28, y28, z28⟩, st28⟩ := X22.virtualBack hx (y := (⟨"com/example/vested_roles/vestedroles/Tokens$Token", "is", "(C)Z"⟩ : MethodName)) (z := (⟨"com/example/vested_roles/vestedroles/Tokens$Token", "is", "(C)Z"⟩ : MethodName)) hown (mvT hZ (hw _ (List.mem_of_getElem? (i := 45) rfl))) (mvT hZ (hw _ (List.mem_of_getElem? (i := 46) rfl))) (notFace_of_selects (args := #[]) (mvT hZ (hw _ (List.mem_of_getElem? (i := 48) rfl)))) (mvT hZ (hw _ (List.mem_of_getElem? (i := 48) rfl))) (mvT hZ (hw _ (List.mem_of_getElem? (i := 47) rfl))) (by decide) (backOf (W := 0) (own_rm8_0_1 l Z a0 hw [] b21 r20 t20 k20 (c0.toInt8.toInt32) mk cs fm h22 n0 Z22 O22 Fn22 Fx22 f24 f25 f26 f27 hcs hfm S_cs S_fm S_ad S_hb S_lb) hZ (hw _ (List.mem_of_getElem? (i := 49) rfl)) (hw _ (List.mem_of_getElem? (i := 29) rfl)) (by decide) (by decide)) q28a q28c (g := (mkF m 169 #[.val (.int pa), .val (.int pb), .val (.int pc_), .val (.int po), .val (.int fl), .val (.int c0), .val (.int c1), .val (.int (0 : Int32)), .val (.int (((fl.toUInt32 >>> ((1 : Int32) &&& 31).toUInt32).toInt32) &&& (3 : Int32))), .val (.int (0 : Int32)), .val (.int mk), .val (.ref r20), .val (.ref b21), .val (.int (1 : Int32))] [(.int mk), (.ref b21)])) rfl (by rw [hml]; rfl) (Steps.refl _) (argsL := [(.int mk)]) (rest := []) (lenOf own_pd13 rfl) rfl (by show 2 * 0 + _ ≤ _; exact Nat.le_of_eq rfl) (hb hby at_169) (fun _ _ => ⟨rfl, e22, (by decide : 3 + 0 ≤ _), (by decide : 8 + 0 ≤ _)⟩)
            dsimp only [Pt.U, Pt.locs, Pt.cells, Pt.slots] at X28 l28 y28 z28 st28 hQ28
            subst l28 y28 z28
            obtain ⟨rfl, N28q, e28⟩ := hQ28
            have N28 := Fr.app N22 N28q
            refine own_tr (T' := T28) (g' := (mkF m 172 #[.val (.int pa), .val (.int pb), .val (.int pc_), .val (.int po), .val (.int fl), .val (.int c0), .val (.int c1), .val (.int (0 : Int32)), .val (.int (((fl.toUInt32 >>> ((1 : Int32) &&& 31).toUInt32).toInt32) &&& (3 : Int32))), .val (.int (0 : Int32)), .val (.int mk), .val (.ref r20), .val (.ref b21), .val (.int (1 : Int32))] [(.int (own_eqi (own_lc (c0.toInt8.toInt32)) mk))])) st28 ?_
            have hG : (own_eqi (own_lc (c0.toInt8.toInt32)) mk) = (1 : Int32) := by rw [(own_lc_c rg0 h0c)]; simp only [own_eqi, hc23, if_true, if_false]
            refine own_st (T' := T28) (g' := (mkF m 182 #[.val (.int pa), .val (.int pb), .val (.int pc_), .val (.int po), .val (.int fl), .val (.int c0), .val (.int c1), .val (.int (0 : Int32)), .val (.int (((fl.toUInt32 >>> ((1 : Int32) &&& 31).toUInt32).toInt32) &&& (3 : Int32))), .val (.int (0 : Int32)), .val (.int mk), .val (.ref r20), .val (.ref b21), .val (.int (1 : Int32))] [(.int (1 : Int32))])) (fun t k => ?_) ?_
            · show Steps p.tables e below (T28.setTop (mkF m 172 #[.val (.int pa), .val (.int pb), .val (.int pc_), .val (.int po), .val (.int fl), .val (.int c0), .val (.int c1), .val (.int (0 : Int32)), .val (.int (((fl.toUInt32 >>> ((1 : Int32) &&& 31).toUInt32).toInt32) &&& (3 : Int32))), .val (.int (0 : Int32)), .val (.int mk), .val (.ref r20), .val (.ref b21), .val (.int (1 : Int32))] [(.int (own_eqi (own_lc (c0.toInt8.toInt32)) mk))])) t
              refine XS.iload X28.here hx rfl (hb hby at_172) rfl ?_
              refine XS.icmpNo X28.here hx rfl (hb hby at_174) rfl (teq hG).2 ?_
              refine XS.iconst X28.here hx rfl (hb hby at_177) ?_
              refine XS.goto X28.here hx rfl (pc0 := 178) (pc' := 182) rfl (hb hby at_178) (by decide) (by decide) ?_
              exact k
            exact own_retN X28 hx Bd (t := .boolean) (by simp) rfl (hb hby at_182) e28 (⟨rfl, N28⟩) (by decide) (by decide)
          · refine own_st (T' := T22) (g' := (mkF m 169 #[.val (.int pa), .val (.int pb), .val (.int pc_), .val (.int po), .val (.int fl), .val (.int c0), .val (.int c1), .val (.int (0 : Int32)), .val (.int (((fl.toUInt32 >>> ((1 : Int32) &&& 31).toUInt32).toInt32) &&& (3 : Int32))), .val (.int (0 : Int32)), .val (.int mk), .val (.ref r20), .val (.ref b21), .val (.int (0 : Int32))] [(.int mk), (.ref b21)])) (fun t k => ?_) ?_
            · show Steps p.tables e below (T22.setTop (mkF m 155 #[.val (.int pa), .val (.int pb), .val (.int pc_), .val (.int po), .val (.int fl), .val (.int c0), .val (.int c1), .val (.int (0 : Int32)), .val (.int (((fl.toUInt32 >>> ((1 : Int32) &&& 31).toUInt32).toInt32) &&& (3 : Int32))), .val (.int (0 : Int32)), .val (.int mk), .val (.ref r20), .val (.ref b21), .unset] [(.int mk), (.int c0)])) t
              refine XS.icmpYes X22.here hx rfl (pc0 := 155) (pc' := 162) rfl (hb hby at_155) rfl (feq hc23).2 (by decide) (by decide) ?_
              refine XS.iconst X22.here hx rfl (hb hby at_162) ?_
              refine XS.istore X22.here hx rfl (hb hby at_163) rfl (l' := #[.val (.int pa), .val (.int pb), .val (.int pc_), .val (.int po), .val (.int fl), .val (.int c0), .val (.int c1), .val (.int (0 : Int32)), .val (.int (((fl.toUInt32 >>> ((1 : Int32) &&& 31).toUInt32).toInt32) &&& (3 : Int32))), .val (.int (0 : Int32)), .val (.int mk), .val (.ref r20), .val (.ref b21), .val (.int (0 : Int32))]) rfl ?_
              refine XS.aload X22.here hx rfl (hb hby at_165) rfl rfl ?_
              refine XS.iload X22.here hx rfl (hb hby at_167) rfl ?_
              exact k
            have f30 := (Ec20.ext E21).keep Kc22
            have f31 := (Fv20.ext E21).keep Kc22 (ninS ne_r20_b21 nin0)
            have f32 := (Fo20.ext E21).keep Kc22 (ninS ne_r20_b21 nin0)
            have f33 := (Vc20.ext E21).keep Kc22 (ninS ne_t20_b21 nin0)
            have f35 := A21.keep Kc22
            obtain ⟨cq34, kq34, q34a, q34b, q34c⟩ := isOf hZ e22 f35
            obtain ⟨_, _, ⟨T34, L34, c34, n34⟩, -, X34, ⟨Lc34, hQ34, l34, y34, z34⟩, st34⟩ := X22.virtualBack hx (y := (⟨"com/example/vested_roles/vestedroles/Tokens$Token", "is", "(C)Z"⟩ : MethodName)) (z := (⟨"com/example/vested_roles/vestedroles/Tokens$Token", "is", "(C)Z"⟩ : MethodName)) hown (mvT hZ (hw _ (List.mem_of_getElem? (i := 45) rfl))) (mvT hZ (hw _ (List.mem_of_getElem? (i := 46) rfl))) (notFace_of_selects (args := #[]) (mvT hZ (hw _ (List.mem_of_getElem? (i := 48) rfl)))) (mvT hZ (hw _ (List.mem_of_getElem? (i := 48) rfl))) (mvT hZ (hw _ (List.mem_of_getElem? (i := 47) rfl))) (by decide) (backOf (W := 0) (own_rm8_0_1 l Z a0 hw [] b21 r20 t20 k20 (c0.toInt8.toInt32) mk cs fm h22 n0 Z22 O22 Fn22 Fx22 f30 f31 f32 f33 hcs hfm S_cs S_fm S_ad S_hb S_lb) hZ (hw _ (List.mem_of_getElem? (i := 49) rfl)) (hw _ (List.mem_of_getElem? (i := 29) rfl)) (by decide) (by decide)) q34a q34c (g := (mkF m 169 #[.val (.int pa), .val (.int pb), .val (.int pc_), .val (.int po), .val (.int fl), .val (.int c0), .val (.int c1), .val (.int (0 : Int32)), .val (.int (((fl.toUInt32 >>> ((1 : Int32) &&& 31).toUInt32).toInt32) &&& (3 : Int32))), .val (.int (0 : Int32)), .val (.int mk), .val (.ref r20), .val (.ref b21), .val (.int (0 : Int32))] [(.int mk), (.ref b21)])) rfl (by rw [hml]; rfl) (Steps.refl _) (argsL := [(.int mk)]) (rest := []) (lenOf own_pd13 rfl) rfl (by show 2 * 0 + _ ≤ _; exact Nat.le_of_eq rfl) (hb hby at_169) (fun _ _ => ⟨rfl, e22, (by decide : 3 + 0 ≤ _), (by decide : 8 + 0 ≤ _)⟩)
            dsimp only [Pt.U, Pt.locs, Pt.cells, Pt.slots] at X34 l34 y34 z34 st34 hQ34
            subst l34 y34 z34
            obtain ⟨rfl, N34q, e34⟩ := hQ34
            have N34 := Fr.app N22 N34q
            refine own_tr (T' := T34) (g' := (mkF m 172 #[.val (.int pa), .val (.int pb), .val (.int pc_), .val (.int po), .val (.int fl), .val (.int c0), .val (.int c1), .val (.int (0 : Int32)), .val (.int (((fl.toUInt32 >>> ((1 : Int32) &&& 31).toUInt32).toInt32) &&& (3 : Int32))), .val (.int (0 : Int32)), .val (.int mk), .val (.ref r20), .val (.ref b21), .val (.int (0 : Int32))] [(.int (own_eqi (own_lc (c0.toInt8.toInt32)) mk))])) st34 ?_
            have hG : (own_eqi (own_lc (c0.toInt8.toInt32)) mk) = (0 : Int32) := by rw [(own_lc_c rg0 h0c)]; simp only [own_eqi, hc23, if_true, if_false]
            refine own_st (T' := T34) (g' := (mkF m 182 #[.val (.int pa), .val (.int pb), .val (.int pc_), .val (.int po), .val (.int fl), .val (.int c0), .val (.int c1), .val (.int (0 : Int32)), .val (.int (((fl.toUInt32 >>> ((1 : Int32) &&& 31).toUInt32).toInt32) &&& (3 : Int32))), .val (.int (0 : Int32)), .val (.int mk), .val (.ref r20), .val (.ref b21), .val (.int (0 : Int32))] [(.int (1 : Int32))])) (fun t k => ?_) ?_
            · show Steps p.tables e below (T34.setTop (mkF m 172 #[.val (.int pa), .val (.int pb), .val (.int pc_), .val (.int po), .val (.int fl), .val (.int c0), .val (.int c1), .val (.int (0 : Int32)), .val (.int (((fl.toUInt32 >>> ((1 : Int32) &&& 31).toUInt32).toInt32) &&& (3 : Int32))), .val (.int (0 : Int32)), .val (.int mk), .val (.ref r20), .val (.ref b21), .val (.int (0 : Int32))] [(.int (own_eqi (own_lc (c0.toInt8.toInt32)) mk))])) t
              refine XS.iload X34.here hx rfl (hb hby at_172) rfl ?_
              refine XS.icmpNo X34.here hx rfl (hb hby at_174) rfl (teq hG).2 ?_
              refine XS.iconst X34.here hx rfl (hb hby at_177) ?_
              refine XS.goto X34.here hx rfl (pc0 := 178) (pc' := 182) rfl (hb hby at_178) (by decide) (by decide) ?_
              exact k
            exact own_retN X34 hx Bd (t := .boolean) (by simp) rfl (hb hby at_182) e34 (⟨rfl, N34⟩) (by decide) (by decide)
      by_cases hc36 : (((fl.toUInt32 >>> ((1 : Int32) &&& 31).toUInt32).toInt32) &&& (3 : Int32)) = (0 : Int32)
      · refine own_st (T' := s₁) (g' := (mkF m 83 #[.val (.int pa), .val (.int pb), .val (.int pc_), .val (.int po), .val (.int fl), .val (.int c0), .val (.int c1), .val (.int (0 : Int32)), .val (.int (((fl.toUInt32 >>> ((1 : Int32) &&& 31).toUInt32).toInt32) &&& (3 : Int32))), .val (.int (0 : Int32)), .val (.int c0), .unset, .unset, .unset] [])) (fun t k => ?_) ?_
        · show Steps p.tables e below (s₁.setTop (mkF m 53 #[.val (.int pa), .val (.int pb), .val (.int pc_), .val (.int po), .val (.int fl), .val (.int c0), .val (.int c1), .val (.int (0 : Int32)), .val (.int (((fl.toUInt32 >>> ((1 : Int32) &&& 31).toUInt32).toInt32) &&& (3 : Int32))), .val (.int (0 : Int32)), .unset, .unset, .unset, .unset] [(.int (((fl.toUInt32 >>> ((1 : Int32) &&& 31).toUInt32).toInt32) &&& (3 : Int32)))])) t
          refine XS.ifNo X0.here hx rfl (hb hby at_53) rfl ((if0 _ _).trans (teq hc36).2) ?_
          refine XS.iload X0.here hx rfl (hb hby at_56) rfl ?_
          refine XS.istore X0.here hx rfl (hb hby at_58) rfl (l' := #[.val (.int pa), .val (.int pb), .val (.int pc_), .val (.int po), .val (.int fl), .val (.int c0), .val (.int c1), .val (.int (0 : Int32)), .val (.int (((fl.toUInt32 >>> ((1 : Int32) &&& 31).toUInt32).toInt32) &&& (3 : Int32))), .val (.int (0 : Int32)), .val (.int c0), .unset, .unset, .unset]) rfl ?_
          refine XS.goto X0.here hx rfl (pc0 := 60) (pc' := 83) rfl (hb hby at_60) (by decide) (by decide) ?_
          exact k
        exact Jm _ s₁ _ X0 N0 e0
      · refine own_st (T' := s₁) (g' := (mkF m 66 #[.val (.int pa), .val (.int pb), .val (.int pc_), .val (.int po), .val (.int fl), .val (.int c0), .val (.int c1), .val (.int (0 : Int32)), .val (.int (((fl.toUInt32 >>> ((1 : Int32) &&& 31).toUInt32).toInt32) &&& (3 : Int32))), .val (.int (0 : Int32)), .unset, .unset, .unset, .unset] [(.int (1 : Int32)), (.int (((fl.toUInt32 >>> ((1 : Int32) &&& 31).toUInt32).toInt32) &&& (3 : Int32)))])) (fun t k => ?_) ?_
        · show Steps p.tables e below (s₁.setTop (mkF m 53 #[.val (.int pa), .val (.int pb), .val (.int pc_), .val (.int po), .val (.int fl), .val (.int c0), .val (.int c1), .val (.int (0 : Int32)), .val (.int (((fl.toUInt32 >>> ((1 : Int32) &&& 31).toUInt32).toInt32) &&& (3 : Int32))), .val (.int (0 : Int32)), .unset, .unset, .unset, .unset] [(.int (((fl.toUInt32 >>> ((1 : Int32) &&& 31).toUInt32).toInt32) &&& (3 : Int32)))])) t
          refine XS.ifYes X0.here hx rfl (pc0 := 53) (pc' := 63) rfl (hb hby at_53) rfl ((if0 _ _).trans (feq hc36).2) (by decide) (by decide) ?_
          refine XS.iload X0.here hx rfl (hb hby at_63) rfl ?_
          refine XS.iconst X0.here hx rfl (hb hby at_65) ?_
          exact k
        by_cases hc37 : (((fl.toUInt32 >>> ((1 : Int32) &&& 31).toUInt32).toInt32) &&& (3 : Int32)) = (1 : Int32)
        · refine own_st (T' := s₁) (g' := (mkF m 83 #[.val (.int pa), .val (.int pb), .val (.int pc_), .val (.int po), .val (.int fl), .val (.int c0), .val (.int c1), .val (.int (0 : Int32)), .val (.int (((fl.toUInt32 >>> ((1 : Int32) &&& 31).toUInt32).toInt32) &&& (3 : Int32))), .val (.int (0 : Int32)), .val (.int c1), .unset, .unset, .unset] [])) (fun t k => ?_) ?_
          · show Steps p.tables e below (s₁.setTop (mkF m 66 #[.val (.int pa), .val (.int pb), .val (.int pc_), .val (.int po), .val (.int fl), .val (.int c0), .val (.int c1), .val (.int (0 : Int32)), .val (.int (((fl.toUInt32 >>> ((1 : Int32) &&& 31).toUInt32).toInt32) &&& (3 : Int32))), .val (.int (0 : Int32)), .unset, .unset, .unset, .unset] [(.int (1 : Int32)), (.int (((fl.toUInt32 >>> ((1 : Int32) &&& 31).toUInt32).toInt32) &&& (3 : Int32)))])) t
            refine XS.icmpNo X0.here hx rfl (hb hby at_66) rfl (teq hc37).2 ?_
            refine XS.iload X0.here hx rfl (hb hby at_69) rfl ?_
            refine XS.istore X0.here hx rfl (hb hby at_71) rfl (l' := #[.val (.int pa), .val (.int pb), .val (.int pc_), .val (.int po), .val (.int fl), .val (.int c0), .val (.int c1), .val (.int (0 : Int32)), .val (.int (((fl.toUInt32 >>> ((1 : Int32) &&& 31).toUInt32).toInt32) &&& (3 : Int32))), .val (.int (0 : Int32)), .val (.int c1), .unset, .unset, .unset]) rfl ?_
            refine XS.goto X0.here hx rfl (pc0 := 73) (pc' := 83) rfl (hb hby at_73) (by decide) (by decide) ?_
            exact k
          exact Jm _ s₁ _ X0 N0 e0
        · refine own_st (T' := s₁) (g' := (mkF m 83 #[.val (.int pa), .val (.int pb), .val (.int pc_), .val (.int po), .val (.int fl), .val (.int c0), .val (.int c1), .val (.int (0 : Int32)), .val (.int (((fl.toUInt32 >>> ((1 : Int32) &&& 31).toUInt32).toInt32) &&& (3 : Int32))), .val (.int (0 : Int32)), .val (.int ((pc_ &&& (65535 : Int32)).toUInt32.toUInt16.toUInt32.toInt32)), .unset, .unset, .unset] [])) (fun t k => ?_) ?_
          · show Steps p.tables e below (s₁.setTop (mkF m 66 #[.val (.int pa), .val (.int pb), .val (.int pc_), .val (.int po), .val (.int fl), .val (.int c0), .val (.int c1), .val (.int (0 : Int32)), .val (.int (((fl.toUInt32 >>> ((1 : Int32) &&& 31).toUInt32).toInt32) &&& (3 : Int32))), .val (.int (0 : Int32)), .unset, .unset, .unset, .unset] [(.int (1 : Int32)), (.int (((fl.toUInt32 >>> ((1 : Int32) &&& 31).toUInt32).toInt32) &&& (3 : Int32)))])) t
            refine XS.icmpYes X0.here hx rfl (pc0 := 66) (pc' := 76) rfl (hb hby at_66) rfl (feq hc37).2 (by decide) (by decide) ?_
            refine XS.iloadN X0.here hx rfl (hb hby at_76) rfl ?_
            refine X0.ldcInt hx hown (mvT hZ (hw _ (List.mem_of_getElem? (i := 0) rfl))) (g := (mkF m 77 #[.val (.int pa), .val (.int pb), .val (.int pc_), .val (.int po), .val (.int fl), .val (.int c0), .val (.int c1), .val (.int (0 : Int32)), .val (.int (((fl.toUInt32 >>> ((1 : Int32) &&& 31).toUInt32).toInt32) &&& (3 : Int32))), .val (.int (0 : Int32)), .unset, .unset, .unset, .unset] [(.int pc_)])) rfl (hb hby at_77) _ ?_
            refine XS.iand X0.here hx rfl (hb hby at_79) rfl ?_
            refine XS.i2c X0.here hx rfl (hb hby at_80) rfl ?_
            refine XS.istore X0.here hx rfl (hb hby at_81) rfl (l' := #[.val (.int pa), .val (.int pb), .val (.int pc_), .val (.int po), .val (.int fl), .val (.int c0), .val (.int c1), .val (.int (0 : Int32)), .val (.int (((fl.toUInt32 >>> ((1 : Int32) &&& 31).toUInt32).toInt32) &&& (3 : Int32))), .val (.int (0 : Int32)), .val (.int ((pc_ &&& (65535 : Int32)).toUInt32.toUInt16.toUInt32.toInt32)), .unset, .unset, .unset]) rfl ?_
            exact k
          exact Jm _ s₁ _ X0 N0 e0
    · refine own_st (T' := s₁) (g' := (mkF m 53 #[.val (.int pa), .val (.int pb), .val (.int pc_), .val (.int po), .val (.int fl), .val (.int c0), .val (.int c1), .val (.int (0 : Int32)), .val (.int (((fl.toUInt32 >>> ((1 : Int32) &&& 31).toUInt32).toInt32) &&& (3 : Int32))), .val (.int (1 : Int32)), .unset, .unset, .unset, .unset] [(.int (((fl.toUInt32 >>> ((1 : Int32) &&& 31).toUInt32).toInt32) &&& (3 : Int32)))])) (fun t k => ?_) ?_
      · show Steps p.tables e below (s₁.setTop (mkF m 41 #[.val (.int pa), .val (.int pb), .val (.int pc_), .val (.int po), .val (.int fl), .val (.int c0), .val (.int c1), .val (.int (0 : Int32)), .val (.int (((fl.toUInt32 >>> ((1 : Int32) &&& 31).toUInt32).toInt32) &&& (3 : Int32))), .unset, .unset, .unset, .unset, .unset] [(.int (fl &&& (8 : Int32)))])) t
        refine XS.ifNo X0.here hx rfl (hb hby at_41) rfl ((if0 _ _).trans (feq hc2).1) ?_
        refine XS.iconst X0.here hx rfl (hb hby at_44) ?_
        refine XS.goto X0.here hx rfl (pc0 := 45) (pc' := 49) rfl (hb hby at_45) (by decide) (by decide) ?_
        refine XS.istore X0.here hx rfl (hb hby at_49) rfl (l' := #[.val (.int pa), .val (.int pb), .val (.int pc_), .val (.int po), .val (.int fl), .val (.int c0), .val (.int c1), .val (.int (0 : Int32)), .val (.int (((fl.toUInt32 >>> ((1 : Int32) &&& 31).toUInt32).toInt32) &&& (3 : Int32))), .val (.int (1 : Int32)), .unset, .unset, .unset, .unset]) rfl ?_
        refine XS.iload X0.here hx rfl (hb hby at_51) rfl ?_
        exact k
      have Jm : ∀ (mk : Int32) (T : State) (locs : List Loc), Stand p l e room_1 s m #[(.int pa), (.int pb), (.int pc_), (.int po), (.int fl)] below meth c T locs 0 0 → Fr n0 locs → T.heap = h0 → own_Go p e below (own_K s (own_Q0 Z pa pb pc_ po fl  cs  fm  h0 n0) room_1.cells room_1.slots) T (mkF m 83 #[.val (.int pa), .val (.int pb), .val (.int pc_), .val (.int po), .val (.int fl), .val (.int c0), .val (.int c1), .val (.int (0 : Int32)), .val (.int (((fl.toUInt32 >>> ((1 : Int32) &&& 31).toUInt32).toInt32) &&& (3 : Int32))), .val (.int (1 : Int32)), .val (.int mk), .unset, .unset, .unset] []) := by
        intro mk T38 locs38 X38 N38 e38
        by_cases h0c : (255 : Int32) < c0
        · refine own_st (T' := T38) (g' := (mkF m 89 #[.val (.int pa), .val (.int pb), .val (.int pc_), .val (.int po), .val (.int fl), .val (.int c0), .val (.int c1), .val (.int (0 : Int32)), .val (.int (((fl.toUInt32 >>> ((1 : Int32) &&& 31).toUInt32).toInt32) &&& (3 : Int32))), .val (.int (1 : Int32)), .val (.int mk), .unset, .unset, .unset] [(.int (2 : Int32))])) (fun t k => ?_) ?_
          · show Steps p.tables e below (T38.setTop (mkF m 83 #[.val (.int pa), .val (.int pb), .val (.int pc_), .val (.int po), .val (.int fl), .val (.int c0), .val (.int c1), .val (.int (0 : Int32)), .val (.int (((fl.toUInt32 >>> ((1 : Int32) &&& 31).toUInt32).toInt32) &&& (3 : Int32))), .val (.int (1 : Int32)), .val (.int mk), .unset, .unset, .unset] [])) t
            refine XS.iload X38.here hx rfl (hb hby at_83) rfl ?_
            refine XS.ifNo X38.here hx rfl (hb hby at_85) rfl ((if0 _ _).trans (feq (by decide : ¬ ((1 : Int32) = (0 : Int32)))).1) ?_
            refine XS.iconst X38.here hx rfl (hb hby at_88) ?_
            exact k
          obtain ⟨T39, h39, k39, X39, e39, E39, A39, st39⟩ := newP X38 hx hZ (hw _ (List.mem_of_getElem? (i := 71) rfl)) e38 (g := (mkF m 89 #[.val (.int pa), .val (.int pb), .val (.int pc_), .val (.int po), .val (.int fl), .val (.int c0), .val (.int c1), .val (.int (0 : Int32)), .val (.int (((fl.toUInt32 >>> ((1 : Int32) &&& 31).toUInt32).toInt32) &&& (3 : Int32))), .val (.int (1 : Int32)), .val (.int mk), .unset, .unset, .unset] [(.int (2 : Int32))])) rfl (hb hby at_89) rfl (by decide) (cap := 2) (by decide) (by decide) (by decide) (by decide)
          obtain ⟨b39, g39⟩ : ∃ z, z = h0.size := ⟨_, rfl⟩
          rw [← g39] at A39 st39
          have sz39 : h0.size ≤ b39 := Nat.le_of_eq g39.symm
          have g_b39 : n0 ≤ b39 := Nat.le_trans Z0 sz39
          have hz_b39 : h0.size ≤ b39 := Nat.le_trans (Keep.refl h0 []).1 sz39
          have K39 : Keep h0 h39 [] := (Keep.refl h0 []).ext E39
          have Z39 : n0 ≤ h39.size := Nat.le_trans Z0 E39.1
          have O39 := O0.ext E39
          have V39 : Arv Z h39 b39 k39 .char (2 : Int32) [(.int (0 : Int32)), (.int (0 : Int32))] (.int (0 : Int32)) := (Arv.new A39 (by decide)).pad (pad_rep [] (.int (0 : Int32)) 2)
          refine own_st (T' := T39) (g' := (mkF m 91 #[.val (.int pa), .val (.int pb), .val (.int pc_), .val (.int po), .val (.int fl), .val (.int c0), .val (.int c1), .val (.int (0 : Int32)), .val (.int (((fl.toUInt32 >>> ((1 : Int32) &&& 31).toUInt32).toInt32) &&& (3 : Int32))), .val (.int (1 : Int32)), .val (.int mk), .unset, .unset, .unset] [(.ref b39)])) st39 ?_
          refine own_st (T' := T39) (g' := (mkF m 98 #[.val (.int pa), .val (.int pb), .val (.int pc_), .val (.int po), .val (.int fl), .val (.int c0), .val (.int c1), .val (.int (0 : Int32)), .val (.int (((fl.toUInt32 >>> ((1 : Int32) &&& 31).toUInt32).toInt32) &&& (3 : Int32))), .val (.int (1 : Int32)), .val (.int mk), .unset, .val (.ref b39), .unset] [(.int c0), (.int (0 : Int32)), (.ref b39)])) (fun t k => ?_) ?_
          · show Steps p.tables e below (T39.setTop (mkF m 91 #[.val (.int pa), .val (.int pb), .val (.int pc_), .val (.int po), .val (.int fl), .val (.int c0), .val (.int c1), .val (.int (0 : Int32)), .val (.int (((fl.toUInt32 >>> ((1 : Int32) &&& 31).toUInt32).toInt32) &&& (3 : Int32))), .val (.int (1 : Int32)), .val (.int mk), .unset, .unset, .unset] [(.ref b39)])) t
            refine XS.astore X39.here hx rfl (hb hby at_91) rfl rfl (l' := #[.val (.int pa), .val (.int pb), .val (.int pc_), .val (.int po), .val (.int fl), .val (.int c0), .val (.int c1), .val (.int (0 : Int32)), .val (.int (((fl.toUInt32 >>> ((1 : Int32) &&& 31).toUInt32).toInt32) &&& (3 : Int32))), .val (.int (1 : Int32)), .val (.int mk), .unset, .val (.ref b39), .unset]) rfl ?_
            refine XS.aload X39.here hx rfl (hb hby at_93) rfl rfl ?_
            refine XS.iconst X39.here hx rfl (hb hby at_95) ?_
            refine XS.iload X39.here hx rfl (hb hby at_96) rfl ?_
            exact k
          obtain ⟨cl40, Ar40, q40, S40, M40, H40, G40⟩ := id V39
          obtain ⟨T41, h41, X41, e41, W41, st41⟩ := stC X39 hx hZ e39 Ar40 (j := (0 : Int32)) (inb_of S40 ⟨by decide, by decide⟩) (g := (mkF m 98 #[.val (.int pa), .val (.int pb), .val (.int pc_), .val (.int po), .val (.int fl), .val (.int c0), .val (.int c1), .val (.int (0 : Int32)), .val (.int (((fl.toUInt32 >>> ((1 : Int32) &&& 31).toUInt32).toInt32) &&& (3 : Int32))), .val (.int (1 : Int32)), .val (.int mk), .unset, .val (.ref b39), .unset] [(.int c0), (.int (0 : Int32)), (.ref b39)])) rfl rfl (hb hby at_98)
          have N41 := Fr.snoc X41 N38 g_b39
          have K41 : Keep h0 h41 [] := K39.wr W41 (Or.inr hz_b39)
          have Z41 : n0 ≤ h41.size := Nat.le_trans Z39 (Keep.of_wr W41).1
          have O41 := O39.wr W41 g_b39
          have fw41 := (show Arv Z h41 b39 k39 .char (2 : Int32) [(.int c0), (.int (0 : Int32))] (.int (0 : Int32)) by have q : Arv Z h41 b39 k39 .char (2 : Int32) [(.int (c0.toUInt32.toUInt16.toUInt32.toInt32)), (.int (0 : Int32))] (.int (0 : Int32)) := Arv.set Ar40 q40 S40 M40 H40 G40 (fits_nar_char _) W41 0 rfl (Nat.le_of_ble_eq_true rfl); rw [own_u16_id rg0] at q; exact q)
          refine own_st (T' := T41) (g' := (mkF m 99 #[.val (.int pa), .val (.int pb), .val (.int pc_), .val (.int po), .val (.int fl), .val (.int c0), .val (.int c1), .val (.int (0 : Int32)), .val (.int (((fl.toUInt32 >>> ((1 : Int32) &&& 31).toUInt32).toInt32) &&& (3 : Int32))), .val (.int (1 : Int32)), .val (.int mk), .unset, .val (.ref b39), .unset] [])) st41 ?_
          refine own_st (T' := T41) (g' := (mkF m 104 #[.val (.int pa), .val (.int pb), .val (.int pc_), .val (.int po), .val (.int fl), .val (.int c0), .val (.int c1), .val (.int (0 : Int32)), .val (.int (((fl.toUInt32 >>> ((1 : Int32) &&& 31).toUInt32).toInt32) &&& (3 : Int32))), .val (.int (1 : Int32)), .val (.int mk), .unset, .val (.ref b39), .unset] [(.int c1), (.int (1 : Int32)), (.ref b39)])) (fun t k => ?_) ?_
          · show Steps p.tables e below (T41.setTop (mkF m 99 #[.val (.int pa), .val (.int pb), .val (.int pc_), .val (.int po), .val (.int fl), .val (.int c0), .val (.int c1), .val (.int (0 : Int32)), .val (.int (((fl.toUInt32 >>> ((1 : Int32) &&& 31).toUInt32).toInt32) &&& (3 : Int32))), .val (.int (1 : Int32)), .val (.int mk), .unset, .val (.ref b39), .unset] [])) t
            refine XS.aload X41.here hx rfl (hb hby at_99) rfl rfl ?_
            refine XS.iconst X41.here hx rfl (hb hby at_101) ?_
            refine XS.iload X41.here hx rfl (hb hby at_102) rfl ?_
            exact k
          obtain ⟨cl42, Ar42, q42, S42, M42, H42, G42⟩ := id fw41
          obtain ⟨T43, h43, X43, e43, W43, st43⟩ := stC X41 hx hZ e41 Ar42 (j := (1 : Int32)) (inb_of S42 ⟨by decide, by decide⟩) (g := (mkF m 104 #[.val (.int pa), .val (.int pb), .val (.int pc_), .val (.int po), .val (.int fl), .val (.int c0), .val (.int c1), .val (.int (0 : Int32)), .val (.int (((fl.toUInt32 >>> ((1 : Int32) &&& 31).toUInt32).toInt32) &&& (3 : Int32))), .val (.int (1 : Int32)), .val (.int mk), .unset, .val (.ref b39), .unset] [(.int c1), (.int (1 : Int32)), (.ref b39)])) rfl rfl (hb hby at_104)
          have N43 := Fr.snoc X43 N41 g_b39
          have K43 : Keep h0 h43 [] := K41.wr W43 (Or.inr hz_b39)
          have Z43 : n0 ≤ h43.size := Nat.le_trans Z41 (Keep.of_wr W43).1
          have O43 := O41.wr W43 g_b39
          have fw43 := (show Arv Z h43 b39 k39 .char (2 : Int32) [(.int c0), (.int c1)] (.int (0 : Int32)) by have q : Arv Z h43 b39 k39 .char (2 : Int32) [(.int c0), (.int (c1.toUInt32.toUInt16.toUInt32.toInt32))] (.int (0 : Int32)) := Arv.set Ar42 q42 S42 M42 H42 G42 (fits_nar_char _) W43 1 rfl (Nat.le_of_ble_eq_true rfl); rw [own_u16_id rg1] at q; exact q)
          refine own_st (T' := T43) (g' := (mkF m 105 #[.val (.int pa), .val (.int pb), .val (.int pc_), .val (.int po), .val (.int fl), .val (.int c0), .val (.int c1), .val (.int (0 : Int32)), .val (.int (((fl.toUInt32 >>> ((1 : Int32) &&& 31).toUInt32).toInt32) &&& (3 : Int32))), .val (.int (1 : Int32)), .val (.int mk), .unset, .val (.ref b39), .unset] [])) st43 ?_
          obtain ⟨T44, h44, X44, e44, E44, A44, D44, U44, st44⟩ := newO X43 hx hZ hown (hw _ (List.mem_of_getElem? (i := 72) rfl)) (hw _ (List.mem_of_getElem? (i := 11) rfl)) (hw _ (List.mem_of_getElem? (i := 3) rfl)) e43 (g := (mkF m 105 #[.val (.int pa), .val (.int pb), .val (.int pc_), .val (.int po), .val (.int fl), .val (.int c0), .val (.int c1), .val (.int (0 : Int32)), .val (.int (((fl.toUInt32 >>> ((1 : Int32) &&& 31).toUInt32).toInt32) &&& (3 : Int32))), .val (.int (1 : Int32)), .val (.int mk), .unset, .val (.ref b39), .unset] [])) rfl (hb hby at_105) (by decide) (by decide)
          obtain ⟨b44, g44⟩ : ∃ z, z = h43.size := ⟨_, rfl⟩
          rw [← g44] at A44 D44 U44 st44
          have sz44 : h43.size ≤ b44 := Nat.le_of_eq g44.symm
          have ne_b39_b44 : b39 ≠ b44 := Nat.ne_of_lt (Nat.lt_of_lt_of_le fw43.lt sz44)
          have g_b44 : n0 ≤ b44 := Nat.le_trans Z43 sz44
          have hz_b44 : h0.size ≤ b44 := Nat.le_trans K43.1 sz44
          have K44 : Keep h0 h44 [] := K43.ext E44
          have Z44 : n0 ≤ h44.size := Nat.le_trans Z43 E44.1
          have O44 := O43.ext E44
          refine own_st (T' := T44) (g' := (mkF m 108 #[.val (.int pa), .val (.int pb), .val (.int pc_), .val (.int po), .val (.int fl), .val (.int c0), .val (.int c1), .val (.int (0 : Int32)), .val (.int (((fl.toUInt32 >>> ((1 : Int32) &&& 31).toUInt32).toInt32) &&& (3 : Int32))), .val (.int (1 : Int32)), .val (.int mk), .unset, .val (.ref b39), .unset] [(.ref b44)])) st44 ?_
          refine own_st (T' := T44) (g' := (mkF m 111 #[.val (.int pa), .val (.int pb), .val (.int pc_), .val (.int po), .val (.int fl), .val (.int c0), .val (.int c1), .val (.int (0 : Int32)), .val (.int (((fl.toUInt32 >>> ((1 : Int32) &&& 31).toUInt32).toInt32) &&& (3 : Int32))), .val (.int (1 : Int32)), .val (.int mk), .unset, .val (.ref b39), .unset] [(.ref b39), (.ref b44), (.ref b44)])) (fun t k => ?_) ?_
          · show Steps p.tables e below (T44.setTop (mkF m 108 #[.val (.int pa), .val (.int pb), .val (.int pc_), .val (.int po), .val (.int fl), .val (.int c0), .val (.int c1), .val (.int (0 : Int32)), .val (.int (((fl.toUInt32 >>> ((1 : Int32) &&& 31).toUInt32).toInt32) &&& (3 : Int32))), .val (.int (1 : Int32)), .val (.int mk), .unset, .val (.ref b39), .unset] [(.ref b44)])) t
            refine XS.dup X44.here hx rfl (hb hby at_108) rfl rfl ?_
            refine XS.aload X44.here hx rfl (hb hby at_109) rfl rfl ?_
            exact k
          have f45 := fw43.ext E44
          obtain ⟨_, _, ⟨T46, L46, c46, n46⟩, -, X46, ⟨Lc46, hQ46, l46, y46, z46⟩, st46⟩ := X44.specialBack hx (y := (⟨"java/lang/String", "<init>", "([C)V"⟩ : MethodName)) rfl hown (mvT hZ (hw _ (List.mem_of_getElem? (i := 73) rfl))) (mvT hZ (hw _ (List.mem_of_getElem? (i := 74) rfl))) (mvT hZ (hw _ (List.mem_of_getElem? (i := 75) rfl))) (by decide) (backOf (W := 1) (own_rm14a l Z a0 hw [] b44 b39 k39 c0 c1 cs fm h44 n0 Z44 O44 A44 (D44 (Or.inr (hw _ (List.mem_of_getElem? (i := 24) rfl))) (ty := (.array .byte)) (by decide) : Fld Z h44 b44 "java/lang/String" "value" "[B" .null) (D44 (Or.inr (hw _ (List.mem_of_getElem? (i := 26) rfl))) (ty := .byte) (by decide) : Fld Z h44 b44 "java/lang/String" "coder" "B" (.int (0 : Int32))) g_b44 f45 (Ne.symm ne_b39_b44) h0c rg0 rg1 hcs hfm S_cs S_fm S_ad S_hb S_lb) hZ (hw _ (List.mem_of_getElem? (i := 75) rfl)) (hw _ (List.mem_of_getElem? (i := 3) rfl)) (by decide) (by decide)) (g := (mkF m 111 #[.val (.int pa), .val (.int pb), .val (.int pc_), .val (.int po), .val (.int fl), .val (.int c0), .val (.int c1), .val (.int (0 : Int32)), .val (.int (((fl.toUInt32 >>> ((1 : Int32) &&& 31).toUInt32).toInt32) &&& (3 : Int32))), .val (.int (1 : Int32)), .val (.int mk), .unset, .val (.ref b39), .unset] [(.ref b39), (.ref b44), (.ref b44)])) rfl (by rw [hml]; rfl) (Steps.refl _) (a := b44) (argsL := [(.ref b39)]) (rest := [(.ref b44)]) (lenOf own_pd20 rfl) rfl (by show 2 * 0 + _ ≤ _; exact Nat.le_of_eq rfl) (hb hby at_111) (fun _ _ => ⟨rfl, e44, (by decide : 2 + 2 ≤ _), (by decide : 6 + 6 ≤ _)⟩)
          dsimp only [Pt.U, Pt.locs, Pt.cells, Pt.slots] at X46 l46 y46 z46 st46 hQ46
          subst l46 y46 z46
          obtain ⟨h46, e46⟩ : ∃ z, T46.heap = z := ⟨_, rfl⟩
          rw [e46] at hQ46
          obtain ⟨t46, k46, rfl, N46q, Kc46, g46, hz46, Fv46, Fo46, Vc46⟩ := hQ46
          have N46 := Fr.app N43 N46q
          have ne_b39_t46 : b39 ≠ t46 := Nat.ne_of_lt (Nat.lt_of_lt_of_le f45.lt hz46)
          have ne_b44_t46 : b44 ≠ t46 := Nat.ne_of_lt (Nat.lt_of_lt_of_le A44.lt hz46)
          have hwt46 : h0.size ≤ t46 := Nat.le_trans K44.1 hz46
          have K46 : Keep h0 h46 [] := K44.trans Kc46 (allS (Or.inr hz_b44) all0)
          have Z46 : n0 ≤ h46.size := Nat.le_trans Z44 Kc46.1
          have O46 := O44.keep Kc46 (allS g_b44 all0)
          refine own_tr (T' := T46) (g' := (mkF m 114 #[.val (.int pa), .val (.int pb), .val (.int pc_), .val (.int po), .val (.int fl), .val (.int c0), .val (.int c1), .val (.int (0 : Int32)), .val (.int (((fl.toUInt32 >>> ((1 : Int32) &&& 31).toUInt32).toInt32) &&& (3 : Int32))), .val (.int (1 : Int32)), .val (.int mk), .unset, .val (.ref b39), .unset] [(.ref b44)])) st46 ?_
          refine own_st (T' := T46) (g' := (mkF m 126 #[.val (.int pa), .val (.int pb), .val (.int pc_), .val (.int po), .val (.int fl), .val (.int c0), .val (.int c1), .val (.int (0 : Int32)), .val (.int (((fl.toUInt32 >>> ((1 : Int32) &&& 31).toUInt32).toInt32) &&& (3 : Int32))), .val (.int (1 : Int32)), .val (.int mk), .val (.ref b44), .val (.ref b39), .unset] [])) (fun t k => ?_) ?_
          · show Steps p.tables e below (T46.setTop (mkF m 114 #[.val (.int pa), .val (.int pb), .val (.int pc_), .val (.int po), .val (.int fl), .val (.int c0), .val (.int c1), .val (.int (0 : Int32)), .val (.int (((fl.toUInt32 >>> ((1 : Int32) &&& 31).toUInt32).toInt32) &&& (3 : Int32))), .val (.int (1 : Int32)), .val (.int mk), .unset, .val (.ref b39), .unset] [(.ref b44)])) t
            refine XS.astore X46.here hx rfl (hb hby at_114) rfl rfl (l' := #[.val (.int pa), .val (.int pb), .val (.int pc_), .val (.int po), .val (.int fl), .val (.int c0), .val (.int c1), .val (.int (0 : Int32)), .val (.int (((fl.toUInt32 >>> ((1 : Int32) &&& 31).toUInt32).toInt32) &&& (3 : Int32))), .val (.int (1 : Int32)), .val (.int mk), .val (.ref b44), .val (.ref b39), .unset]) rfl ?_
            refine XS.goto X46.here hx rfl (pc0 := 116) (pc' := 126) rfl (hb hby at_116) (by decide) (by decide) ?_
            exact k
          obtain ⟨T47, h47, X47, e47, E47, A47, D47, U47, st47⟩ := newO X46 hx hZ hown (hw _ (List.mem_of_getElem? (i := 27) rfl)) (hw _ (List.mem_of_getElem? (i := 28) rfl)) (hw _ (List.mem_of_getElem? (i := 29) rfl)) e46 (g := (mkF m 126 #[.val (.int pa), .val (.int pb), .val (.int pc_), .val (.int po), .val (.int fl), .val (.int c0), .val (.int c1), .val (.int (0 : Int32)), .val (.int (((fl.toUInt32 >>> ((1 : Int32) &&& 31).toUInt32).toInt32) &&& (3 : Int32))), .val (.int (1 : Int32)), .val (.int mk), .val (.ref b44), .val (.ref b39), .unset] [])) rfl (hb hby at_126) (by decide) (by decide)
          obtain ⟨b47, g47⟩ : ∃ z, z = h46.size := ⟨_, rfl⟩
          rw [← g47] at A47 D47 U47 st47
          have sz47 : h46.size ≤ b47 := Nat.le_of_eq g47.symm
          have f48 := f45.keep Kc46 (ninS ne_b39_b44 nin0)
          have ne_b39_b47 : b39 ≠ b47 := Nat.ne_of_lt (Nat.lt_of_lt_of_le f48.lt sz47)
          have f49 := A44.keep Kc46
          have ne_b44_b47 : b44 ≠ b47 := Nat.ne_of_lt (Nat.lt_of_lt_of_le f49.lt sz47)
          have ne_t46_b47 : t46 ≠ b47 := Nat.ne_of_lt (Nat.lt_of_lt_of_le Vc46.lt sz47)
          have g_b47 : n0 ≤ b47 := Nat.le_trans Z46 sz47
          have hz_b47 : h0.size ≤ b47 := Nat.le_trans K46.1 sz47
          have K47 : Keep h0 h47 [] := K46.ext E47
          have Z47 : n0 ≤ h47.size := Nat.le_trans Z46 E47.1
          have O47 := O46.ext E47
          refine own_st (T' := T47) (g' := (mkF m 129 #[.val (.int pa), .val (.int pb), .val (.int pc_), .val (.int po), .val (.int fl), .val (.int c0), .val (.int c1), .val (.int (0 : Int32)), .val (.int (((fl.toUInt32 >>> ((1 : Int32) &&& 31).toUInt32).toInt32) &&& (3 : Int32))), .val (.int (1 : Int32)), .val (.int mk), .val (.ref b44), .val (.ref b39), .unset] [(.ref b47)])) st47 ?_
          refine own_st (T' := T47) (g' := (mkF m 135 #[.val (.int pa), .val (.int pb), .val (.int pc_), .val (.int po), .val (.int fl), .val (.int c0), .val (.int c1), .val (.int (0 : Int32)), .val (.int (((fl.toUInt32 >>> ((1 : Int32) &&& 31).toUInt32).toInt32) &&& (3 : Int32))), .val (.int (1 : Int32)), .val (.int mk), .val (.ref b44), .val (.ref b39), .unset] [(.int (0 : Int32)), (.int po), (.ref b44), (.ref b47), (.ref b47)])) (fun t k => ?_) ?_
          · show Steps p.tables e below (T47.setTop (mkF m 129 #[.val (.int pa), .val (.int pb), .val (.int pc_), .val (.int po), .val (.int fl), .val (.int c0), .val (.int c1), .val (.int (0 : Int32)), .val (.int (((fl.toUInt32 >>> ((1 : Int32) &&& 31).toUInt32).toInt32) &&& (3 : Int32))), .val (.int (1 : Int32)), .val (.int mk), .val (.ref b44), .val (.ref b39), .unset] [(.ref b47)])) t
            refine XS.dup X47.here hx rfl (hb hby at_129) rfl rfl ?_
            refine XS.aload X47.here hx rfl (hb hby at_130) rfl rfl ?_
            refine XS.iloadN X47.here hx rfl (hb hby at_132) rfl ?_
            refine XS.iload X47.here hx rfl (hb hby at_133) rfl ?_
            exact k
          obtain ⟨_, _, ⟨T50, L50, c50, n50⟩, -, X50, ⟨Lc50, hQ50, l50, y50, z50⟩, st50⟩ := X47.specialBack hx (y := (⟨"com/example/vested_roles/vestedroles/Tokens$Token", "<init>", "(Ljava/lang/String;IZ)V"⟩ : MethodName)) rfl hown (mvT hZ (hw _ (List.mem_of_getElem? (i := 30) rfl))) (mvT hZ (hw _ (List.mem_of_getElem? (i := 31) rfl))) (mvT hZ (hw _ (List.mem_of_getElem? (i := 32) rfl))) (by decide) (backOf (W := 1) (own_rm6_0 l Z a0 hw [] b47 b44 po cs fm h47 n0 Z47 O47 A47 (D47 (Or.inr (hw _ (List.mem_of_getElem? (i := 40) rfl))) (ty := (.object "java/lang/String")) (by decide) : Fld Z h47 b47 "com/example/vested_roles/vestedroles/Tokens$Token" "text" "Ljava/lang/String;" .null) (D47 (Or.inr (hw _ (List.mem_of_getElem? (i := 42) rfl))) (ty := .int) (by decide) : Fld Z h47 b47 "com/example/vested_roles/vestedroles/Tokens$Token" "position" "I" (.int (0 : Int32))) (D47 (Or.inr (hw _ (List.mem_of_getElem? (i := 44) rfl))) (ty := .boolean) (by decide) : Fld Z h47 b47 "com/example/vested_roles/vestedroles/Tokens$Token" "isName" "Z" (.int (0 : Int32))) g_b47 hcs hfm S_cs S_fm S_ad S_hb S_lb) hZ (hw _ (List.mem_of_getElem? (i := 32) rfl)) (hw _ (List.mem_of_getElem? (i := 29) rfl)) (by decide) (by decide)) (g := (mkF m 135 #[.val (.int pa), .val (.int pb), .val (.int pc_), .val (.int po), .val (.int fl), .val (.int c0), .val (.int c1), .val (.int (0 : Int32)), .val (.int (((fl.toUInt32 >>> ((1 : Int32) &&& 31).toUInt32).toInt32) &&& (3 : Int32))), .val (.int (1 : Int32)), .val (.int mk), .val (.ref b44), .val (.ref b39), .unset] [(.int (0 : Int32)), (.int po), (.ref b44), (.ref b47), (.ref b47)])) rfl (by rw [hml]; rfl) (Steps.refl _) (a := b47) (argsL := [(.ref b44), (.int po), (.int (0 : Int32))]) (rest := [(.ref b47)]) (lenOf own_pd19 rfl) rfl (by show 2 * 0 + _ ≤ _; exact Nat.le_of_eq rfl) (hb hby at_135) (fun _ _ => ⟨rfl, e47, (by decide : 5 + 0 ≤ _), (by decide : 15 + 0 ≤ _)⟩)
          dsimp only [Pt.U, Pt.locs, Pt.cells, Pt.slots] at X50 l50 y50 z50 st50 hQ50
          subst l50 y50 z50
          obtain ⟨h50, e50⟩ : ∃ z, T50.heap = z := ⟨_, rfl⟩
          rw [e50] at hQ50
          obtain ⟨rfl, N50q, Kc50, Fx50, Fn50⟩ := hQ50
          have N50 := Fr.app N46 N50q
          have K50 : Keep h0 h50 [] := K47.trans Kc50 (allS (Or.inr hz_b47) all0)
          have Z50 : n0 ≤ h50.size := Nat.le_trans Z47 Kc50.1
          have O50 := O47.keep Kc50 (allS g_b47 all0)
          refine own_tr (T' := T50) (g' := (mkF m 138 #[.val (.int pa), .val (.int pb), .val (.int pc_), .val (.int po), .val (.int fl), .val (.int c0), .val (.int c1), .val (.int (0 : Int32)), .val (.int (((fl.toUInt32 >>> ((1 : Int32) &&& 31).toUInt32).toInt32) &&& (3 : Int32))), .val (.int (1 : Int32)), .val (.int mk), .val (.ref b44), .val (.ref b39), .unset] [(.ref b47)])) st50 ?_
          refine own_st (T' := T50) (g' := (mkF m 155 #[.val (.int pa), .val (.int pb), .val (.int pc_), .val (.int po), .val (.int fl), .val (.int c0), .val (.int c1), .val (.int (0 : Int32)), .val (.int (((fl.toUInt32 >>> ((1 : Int32) &&& 31).toUInt32).toInt32) &&& (3 : Int32))), .val (.int (1 : Int32)), .val (.int mk), .val (.ref b44), .val (.ref b47), .unset] [(.int mk), (.int c0)])) (fun t k => ?_) ?_
          · show Steps p.tables e below (T50.setTop (mkF m 138 #[.val (.int pa), .val (.int pb), .val (.int pc_), .val (.int po), .val (.int fl), .val (.int c0), .val (.int c1), .val (.int (0 : Int32)), .val (.int (((fl.toUInt32 >>> ((1 : Int32) &&& 31).toUInt32).toInt32) &&& (3 : Int32))), .val (.int (1 : Int32)), .val (.int mk), .val (.ref b44), .val (.ref b39), .unset] [(.ref b47)])) t
            refine XS.astore X50.here hx rfl (hb hby at_138) rfl rfl (l' := #[.val (.int pa), .val (.int pb), .val (.int pc_), .val (.int po), .val (.int fl), .val (.int c0), .val (.int c1), .val (.int (0 : Int32)), .val (.int (((fl.toUInt32 >>> ((1 : Int32) &&& 31).toUInt32).toInt32) &&& (3 : Int32))), .val (.int (1 : Int32)), .val (.int mk), .val (.ref b44), .val (.ref b47), .unset]) rfl ?_
            refine XS.iload X50.here hx rfl (hb hby at_140) rfl ?_
            refine XS.ifYes X50.here hx rfl (pc0 := 142) (pc' := 151) rfl (hb hby at_142) rfl ((if0 _ _).trans (teq (rfl : (0 : Int32) = (0 : Int32))).1) (by decide) (by decide) ?_
            refine XS.iload X50.here hx rfl (hb hby at_151) rfl ?_
            refine XS.iload X50.here hx rfl (hb hby at_153) rfl ?_
            exact k
          by_cases hc51 : c0 = mk
          · refine own_st (T' := T50) (g' := (mkF m 169 #[.val (.int pa), .val (.int pb), .val (.int pc_), .val (.int po), .val (.int fl), .val (.int c0), .val (.int c1), .val (.int (0 : Int32)), .val (.int (((fl.toUInt32 >>> ((1 : Int32) &&& 31).toUInt32).toInt32) &&& (3 : Int32))), .val (.int (1 : Int32)), .val (.int mk), .val (.ref b44), .val (.ref b47), .val (.int (1 : Int32))] [(.int mk), (.ref b47)])) (fun t k => ?_) ?_
            · show Steps p.tables e below (T50.setTop (mkF m 155 #[.val (.int pa), .val (.int pb), .val (.int pc_), .val (.int po), .val (.int fl), .val (.int c0), .val (.int c1), .val (.int (0 : Int32)), .val (.int (((fl.toUInt32 >>> ((1 : Int32) &&& 31).toUInt32).toInt32) &&& (3 : Int32))), .val (.int (1 : Int32)), .val (.int mk), .val (.ref b44), .val (.ref b47), .unset] [(.int mk), (.int c0)])) t
              refine XS.icmpNo X50.here hx rfl (hb hby at_155) rfl (teq hc51).2 ?_
              refine XS.iconst X50.here hx rfl (hb hby at_158) ?_
              refine XS.goto X50.here hx rfl (pc0 := 159) (pc' := 163) rfl (hb hby at_159) (by decide) (by decide) ?_
              refine XS.istore X50.here hx rfl (hb hby at_163) rfl (l' := #[.val (.int pa), .val (.int pb), .val (.int pc_), .val (.int po), .val (.int fl), .val (.int c0), .val (.int c1), .val (.int (0 : Int32)), .val (.int (((fl.toUInt32 >>> ((1 : Int32) &&& 31).toUInt32).toInt32) &&& (3 : Int32))), .val (.int (1 : Int32)), .val (.int mk), .val (.ref b44), .val (.ref b47), .val (.int (1 : Int32))]) rfl ?_
              refine XS.aload X50.here hx rfl (hb hby at_165) rfl rfl ?_
              refine XS.iload X50.here hx rfl (hb hby at_167) rfl ?_
              exact k
            have f52 := (f49.ext E47).keep Kc50
            have f53 := (Fv46.ext E47).keep Kc50 (ninS ne_b44_b47 nin0)
            have f54 := (Fo46.ext E47).keep Kc50 (ninS ne_b44_b47 nin0)
            have f55 := (Vc46.ext E47).keep Kc50 (ninS ne_t46_b47 nin0)
            have f57 := A47.keep Kc50
            obtain ⟨cq56, kq56, q56a, q56b, q56c⟩ := isOf hZ e50 f57
            obtain ⟨_, _, ⟨T56, L56, c56, n56⟩, -, X56, ⟨Lc56, hQ56, l56, y56, z56⟩, st56⟩ := X50.virtualBack hx (y := (⟨"com/example/vested_roles/vestedroles/Tokens$Token", "is", "(C)Z"⟩ : MethodName)) (z := (⟨"com/example/vested_roles/vestedroles/Tokens$Token", "is", "(C)Z"⟩ : MethodName)) hown (mvT hZ (hw _ (List.mem_of_getElem? (i := 45) rfl))) (mvT hZ (hw _ (List.mem_of_getElem? (i := 46) rfl))) (notFace_of_selects (args := #[]) (mvT hZ (hw _ (List.mem_of_getElem? (i := 48) rfl)))) (mvT hZ (hw _ (List.mem_of_getElem? (i := 48) rfl))) (mvT hZ (hw _ (List.mem_of_getElem? (i := 47) rfl))) (by decide) (backOf (W := 0) (own_rm8_1_4 l Z a0 hw [] b47 b44 t46 k46 ((c0 >>> ((0 : Int32) &&& 31)).toInt8.toInt32) ((c0 >>> ((8 : Int32) &&& 31)).toInt8.toInt32) ((c1 >>> ((0 : Int32) &&& 31)).toInt8.toInt32) ((c1 >>> ((8 : Int32) &&& 31)).toInt8.toInt32) mk cs fm h50 n0 Z50 O50 Fn50 Fx50 f52 f53 f54 f55 hcs hfm S_cs S_fm S_ad S_hb S_lb) hZ (hw _ (List.mem_of_getElem? (i := 49) rfl)) (hw _ (List.mem_of_getElem? (i := 29) rfl)) (by decide) (by decide)) q56a q56c (g := (mkF m 169 #[.val (.int pa), .val (.int pb), .val (.int pc_), .val (.int po), .val (.int fl), .val (.int c0), .val (.int c1), .val (.int (0 : Int32)), .val (.int (((fl.toUInt32 >>> ((1 : Int32) &&& 31).toUInt32).toInt32) &&& (3 : Int32))), .val (.int (1 : Int32)), .val (.int mk), .val (.ref b44), .val (.ref b47), .val (.int (1 : Int32))] [(.int mk), (.ref b47)])) rfl (by rw [hml]; rfl) (Steps.refl _) (argsL := [(.int mk)]) (rest := []) (lenOf own_pd13 rfl) rfl (by show 2 * 0 + _ ≤ _; exact Nat.le_of_eq rfl) (hb hby at_169) (fun _ _ => ⟨rfl, e50, (by decide : 5 + 0 ≤ _), (by decide : 15 + 0 ≤ _)⟩)
            dsimp only [Pt.U, Pt.locs, Pt.cells, Pt.slots] at X56 l56 y56 z56 st56 hQ56
            subst l56 y56 z56
            obtain ⟨rfl, N56q, e56⟩ := hQ56
            have N56 := Fr.app N50 N56q
            refine own_tr (T' := T56) (g' := (mkF m 172 #[.val (.int pa), .val (.int pb), .val (.int pc_), .val (.int po), .val (.int fl), .val (.int c0), .val (.int c1), .val (.int (0 : Int32)), .val (.int (((fl.toUInt32 >>> ((1 : Int32) &&& 31).toUInt32).toInt32) &&& (3 : Int32))), .val (.int (1 : Int32)), .val (.int mk), .val (.ref b44), .val (.ref b47), .val (.int (1 : Int32))] [(.int (own_eqi (own_gc ((c0 >>> ((0 : Int32) &&& 31)).toInt8.toInt32) ((c0 >>> ((8 : Int32) &&& 31)).toInt8.toInt32)) mk))])) st56 ?_
            have hG : (own_eqi (own_gc ((c0 >>> ((0 : Int32) &&& 31)).toInt8.toInt32) ((c0 >>> ((8 : Int32) &&& 31)).toInt8.toInt32)) mk) = (1 : Int32) := by rw [(own_gc_c rg0)]; simp only [own_eqi, hc51, if_true, if_false]
            refine own_st (T' := T56) (g' := (mkF m 182 #[.val (.int pa), .val (.int pb), .val (.int pc_), .val (.int po), .val (.int fl), .val (.int c0), .val (.int c1), .val (.int (0 : Int32)), .val (.int (((fl.toUInt32 >>> ((1 : Int32) &&& 31).toUInt32).toInt32) &&& (3 : Int32))), .val (.int (1 : Int32)), .val (.int mk), .val (.ref b44), .val (.ref b47), .val (.int (1 : Int32))] [(.int (1 : Int32))])) (fun t k => ?_) ?_
            · show Steps p.tables e below (T56.setTop (mkF m 172 #[.val (.int pa), .val (.int pb), .val (.int pc_), .val (.int po), .val (.int fl), .val (.int c0), .val (.int c1), .val (.int (0 : Int32)), .val (.int (((fl.toUInt32 >>> ((1 : Int32) &&& 31).toUInt32).toInt32) &&& (3 : Int32))), .val (.int (1 : Int32)), .val (.int mk), .val (.ref b44), .val (.ref b47), .val (.int (1 : Int32))] [(.int (own_eqi (own_gc ((c0 >>> ((0 : Int32) &&& 31)).toInt8.toInt32) ((c0 >>> ((8 : Int32) &&& 31)).toInt8.toInt32)) mk))])) t
              refine XS.iload X56.here hx rfl (hb hby at_172) rfl ?_
              refine XS.icmpNo X56.here hx rfl (hb hby at_174) rfl (teq hG).2 ?_
              refine XS.iconst X56.here hx rfl (hb hby at_177) ?_
              refine XS.goto X56.here hx rfl (pc0 := 178) (pc' := 182) rfl (hb hby at_178) (by decide) (by decide) ?_
              exact k
            exact own_retN X56 hx Bd (t := .boolean) (by simp) rfl (hb hby at_182) e56 (⟨rfl, N56⟩) (by decide) (by decide)
          · refine own_st (T' := T50) (g' := (mkF m 169 #[.val (.int pa), .val (.int pb), .val (.int pc_), .val (.int po), .val (.int fl), .val (.int c0), .val (.int c1), .val (.int (0 : Int32)), .val (.int (((fl.toUInt32 >>> ((1 : Int32) &&& 31).toUInt32).toInt32) &&& (3 : Int32))), .val (.int (1 : Int32)), .val (.int mk), .val (.ref b44), .val (.ref b47), .val (.int (0 : Int32))] [(.int mk), (.ref b47)])) (fun t k => ?_) ?_
            · show Steps p.tables e below (T50.setTop (mkF m 155 #[.val (.int pa), .val (.int pb), .val (.int pc_), .val (.int po), .val (.int fl), .val (.int c0), .val (.int c1), .val (.int (0 : Int32)), .val (.int (((fl.toUInt32 >>> ((1 : Int32) &&& 31).toUInt32).toInt32) &&& (3 : Int32))), .val (.int (1 : Int32)), .val (.int mk), .val (.ref b44), .val (.ref b47), .unset] [(.int mk), (.int c0)])) t
              refine XS.icmpYes X50.here hx rfl (pc0 := 155) (pc' := 162) rfl (hb hby at_155) rfl (feq hc51).2 (by decide) (by decide) ?_
              refine XS.iconst X50.here hx rfl (hb hby at_162) ?_
              refine XS.istore X50.here hx rfl (hb hby at_163) rfl (l' := #[.val (.int pa), .val (.int pb), .val (.int pc_), .val (.int po), .val (.int fl), .val (.int c0), .val (.int c1), .val (.int (0 : Int32)), .val (.int (((fl.toUInt32 >>> ((1 : Int32) &&& 31).toUInt32).toInt32) &&& (3 : Int32))), .val (.int (1 : Int32)), .val (.int mk), .val (.ref b44), .val (.ref b47), .val (.int (0 : Int32))]) rfl ?_
              refine XS.aload X50.here hx rfl (hb hby at_165) rfl rfl ?_
              refine XS.iload X50.here hx rfl (hb hby at_167) rfl ?_
              exact k
            have f58 := (f49.ext E47).keep Kc50
            have f59 := (Fv46.ext E47).keep Kc50 (ninS ne_b44_b47 nin0)
            have f60 := (Fo46.ext E47).keep Kc50 (ninS ne_b44_b47 nin0)
            have f61 := (Vc46.ext E47).keep Kc50 (ninS ne_t46_b47 nin0)
            have f63 := A47.keep Kc50
            obtain ⟨cq62, kq62, q62a, q62b, q62c⟩ := isOf hZ e50 f63
            obtain ⟨_, _, ⟨T62, L62, c62, n62⟩, -, X62, ⟨Lc62, hQ62, l62, y62, z62⟩, st62⟩ := X50.virtualBack hx (y := (⟨"com/example/vested_roles/vestedroles/Tokens$Token", "is", "(C)Z"⟩ : MethodName)) (z := (⟨"com/example/vested_roles/vestedroles/Tokens$Token", "is", "(C)Z"⟩ : MethodName)) hown (mvT hZ (hw _ (List.mem_of_getElem? (i := 45) rfl))) (mvT hZ (hw _ (List.mem_of_getElem? (i := 46) rfl))) (notFace_of_selects (args := #[]) (mvT hZ (hw _ (List.mem_of_getElem? (i := 48) rfl)))) (mvT hZ (hw _ (List.mem_of_getElem? (i := 48) rfl))) (mvT hZ (hw _ (List.mem_of_getElem? (i := 47) rfl))) (by decide) (backOf (W := 0) (own_rm8_1_4 l Z a0 hw [] b47 b44 t46 k46 ((c0 >>> ((0 : Int32) &&& 31)).toInt8.toInt32) ((c0 >>> ((8 : Int32) &&& 31)).toInt8.toInt32) ((c1 >>> ((0 : Int32) &&& 31)).toInt8.toInt32) ((c1 >>> ((8 : Int32) &&& 31)).toInt8.toInt32) mk cs fm h50 n0 Z50 O50 Fn50 Fx50 f58 f59 f60 f61 hcs hfm S_cs S_fm S_ad S_hb S_lb) hZ (hw _ (List.mem_of_getElem? (i := 49) rfl)) (hw _ (List.mem_of_getElem? (i := 29) rfl)) (by decide) (by decide)) q62a q62c (g := (mkF m 169 #[.val (.int pa), .val (.int pb), .val (.int pc_), .val (.int po), .val (.int fl), .val (.int c0), .val (.int c1), .val (.int (0 : Int32)), .val (.int (((fl.toUInt32 >>> ((1 : Int32) &&& 31).toUInt32).toInt32) &&& (3 : Int32))), .val (.int (1 : Int32)), .val (.int mk), .val (.ref b44), .val (.ref b47), .val (.int (0 : Int32))] [(.int mk), (.ref b47)])) rfl (by rw [hml]; rfl) (Steps.refl _) (argsL := [(.int mk)]) (rest := []) (lenOf own_pd13 rfl) rfl (by show 2 * 0 + _ ≤ _; exact Nat.le_of_eq rfl) (hb hby at_169) (fun _ _ => ⟨rfl, e50, (by decide : 5 + 0 ≤ _), (by decide : 15 + 0 ≤ _)⟩)
            dsimp only [Pt.U, Pt.locs, Pt.cells, Pt.slots] at X62 l62 y62 z62 st62 hQ62
            subst l62 y62 z62
            obtain ⟨rfl, N62q, e62⟩ := hQ62
            have N62 := Fr.app N50 N62q
            refine own_tr (T' := T62) (g' := (mkF m 172 #[.val (.int pa), .val (.int pb), .val (.int pc_), .val (.int po), .val (.int fl), .val (.int c0), .val (.int c1), .val (.int (0 : Int32)), .val (.int (((fl.toUInt32 >>> ((1 : Int32) &&& 31).toUInt32).toInt32) &&& (3 : Int32))), .val (.int (1 : Int32)), .val (.int mk), .val (.ref b44), .val (.ref b47), .val (.int (0 : Int32))] [(.int (own_eqi (own_gc ((c0 >>> ((0 : Int32) &&& 31)).toInt8.toInt32) ((c0 >>> ((8 : Int32) &&& 31)).toInt8.toInt32)) mk))])) st62 ?_
            have hG : (own_eqi (own_gc ((c0 >>> ((0 : Int32) &&& 31)).toInt8.toInt32) ((c0 >>> ((8 : Int32) &&& 31)).toInt8.toInt32)) mk) = (0 : Int32) := by rw [(own_gc_c rg0)]; simp only [own_eqi, hc51, if_true, if_false]
            refine own_st (T' := T62) (g' := (mkF m 182 #[.val (.int pa), .val (.int pb), .val (.int pc_), .val (.int po), .val (.int fl), .val (.int c0), .val (.int c1), .val (.int (0 : Int32)), .val (.int (((fl.toUInt32 >>> ((1 : Int32) &&& 31).toUInt32).toInt32) &&& (3 : Int32))), .val (.int (1 : Int32)), .val (.int mk), .val (.ref b44), .val (.ref b47), .val (.int (0 : Int32))] [(.int (1 : Int32))])) (fun t k => ?_) ?_
            · show Steps p.tables e below (T62.setTop (mkF m 172 #[.val (.int pa), .val (.int pb), .val (.int pc_), .val (.int po), .val (.int fl), .val (.int c0), .val (.int c1), .val (.int (0 : Int32)), .val (.int (((fl.toUInt32 >>> ((1 : Int32) &&& 31).toUInt32).toInt32) &&& (3 : Int32))), .val (.int (1 : Int32)), .val (.int mk), .val (.ref b44), .val (.ref b47), .val (.int (0 : Int32))] [(.int (own_eqi (own_gc ((c0 >>> ((0 : Int32) &&& 31)).toInt8.toInt32) ((c0 >>> ((8 : Int32) &&& 31)).toInt8.toInt32)) mk))])) t
              refine XS.iload X62.here hx rfl (hb hby at_172) rfl ?_
              refine XS.icmpNo X62.here hx rfl (hb hby at_174) rfl (teq hG).2 ?_
              refine XS.iconst X62.here hx rfl (hb hby at_177) ?_
              refine XS.goto X62.here hx rfl (pc0 := 178) (pc' := 182) rfl (hb hby at_178) (by decide) (by decide) ?_
              exact k
            exact own_retN X62 hx Bd (t := .boolean) (by simp) rfl (hb hby at_182) e62 (⟨rfl, N62⟩) (by decide) (by decide)
        · by_cases h1c : (255 : Int32) < c1
          · refine own_st (T' := T38) (g' := (mkF m 89 #[.val (.int pa), .val (.int pb), .val (.int pc_), .val (.int po), .val (.int fl), .val (.int c0), .val (.int c1), .val (.int (0 : Int32)), .val (.int (((fl.toUInt32 >>> ((1 : Int32) &&& 31).toUInt32).toInt32) &&& (3 : Int32))), .val (.int (1 : Int32)), .val (.int mk), .unset, .unset, .unset] [(.int (2 : Int32))])) (fun t k => ?_) ?_
            · show Steps p.tables e below (T38.setTop (mkF m 83 #[.val (.int pa), .val (.int pb), .val (.int pc_), .val (.int po), .val (.int fl), .val (.int c0), .val (.int c1), .val (.int (0 : Int32)), .val (.int (((fl.toUInt32 >>> ((1 : Int32) &&& 31).toUInt32).toInt32) &&& (3 : Int32))), .val (.int (1 : Int32)), .val (.int mk), .unset, .unset, .unset] [])) t
              refine XS.iload X38.here hx rfl (hb hby at_83) rfl ?_
              refine XS.ifNo X38.here hx rfl (hb hby at_85) rfl ((if0 _ _).trans (feq (by decide : ¬ ((1 : Int32) = (0 : Int32)))).1) ?_
              refine XS.iconst X38.here hx rfl (hb hby at_88) ?_
              exact k
            obtain ⟨T64, h64, k64, X64, e64, E64, A64, st64⟩ := newP X38 hx hZ (hw _ (List.mem_of_getElem? (i := 71) rfl)) e38 (g := (mkF m 89 #[.val (.int pa), .val (.int pb), .val (.int pc_), .val (.int po), .val (.int fl), .val (.int c0), .val (.int c1), .val (.int (0 : Int32)), .val (.int (((fl.toUInt32 >>> ((1 : Int32) &&& 31).toUInt32).toInt32) &&& (3 : Int32))), .val (.int (1 : Int32)), .val (.int mk), .unset, .unset, .unset] [(.int (2 : Int32))])) rfl (hb hby at_89) rfl (by decide) (cap := 2) (by decide) (by decide) (by decide) (by decide)
            obtain ⟨b64, g64⟩ : ∃ z, z = h0.size := ⟨_, rfl⟩
            rw [← g64] at A64 st64
            have sz64 : h0.size ≤ b64 := Nat.le_of_eq g64.symm
            have g_b64 : n0 ≤ b64 := Nat.le_trans Z0 sz64
            have hz_b64 : h0.size ≤ b64 := Nat.le_trans (Keep.refl h0 []).1 sz64
            have K64 : Keep h0 h64 [] := (Keep.refl h0 []).ext E64
            have Z64 : n0 ≤ h64.size := Nat.le_trans Z0 E64.1
            have O64 := O0.ext E64
            have V64 : Arv Z h64 b64 k64 .char (2 : Int32) [(.int (0 : Int32)), (.int (0 : Int32))] (.int (0 : Int32)) := (Arv.new A64 (by decide)).pad (pad_rep [] (.int (0 : Int32)) 2)
            refine own_st (T' := T64) (g' := (mkF m 91 #[.val (.int pa), .val (.int pb), .val (.int pc_), .val (.int po), .val (.int fl), .val (.int c0), .val (.int c1), .val (.int (0 : Int32)), .val (.int (((fl.toUInt32 >>> ((1 : Int32) &&& 31).toUInt32).toInt32) &&& (3 : Int32))), .val (.int (1 : Int32)), .val (.int mk), .unset, .unset, .unset] [(.ref b64)])) st64 ?_
            refine own_st (T' := T64) (g' := (mkF m 98 #[.val (.int pa), .val (.int pb), .val (.int pc_), .val (.int po), .val (.int fl), .val (.int c0), .val (.int c1), .val (.int (0 : Int32)), .val (.int (((fl.toUInt32 >>> ((1 : Int32) &&& 31).toUInt32).toInt32) &&& (3 : Int32))), .val (.int (1 : Int32)), .val (.int mk), .unset, .val (.ref b64), .unset] [(.int c0), (.int (0 : Int32)), (.ref b64)])) (fun t k => ?_) ?_
            · show Steps p.tables e below (T64.setTop (mkF m 91 #[.val (.int pa), .val (.int pb), .val (.int pc_), .val (.int po), .val (.int fl), .val (.int c0), .val (.int c1), .val (.int (0 : Int32)), .val (.int (((fl.toUInt32 >>> ((1 : Int32) &&& 31).toUInt32).toInt32) &&& (3 : Int32))), .val (.int (1 : Int32)), .val (.int mk), .unset, .unset, .unset] [(.ref b64)])) t
              refine XS.astore X64.here hx rfl (hb hby at_91) rfl rfl (l' := #[.val (.int pa), .val (.int pb), .val (.int pc_), .val (.int po), .val (.int fl), .val (.int c0), .val (.int c1), .val (.int (0 : Int32)), .val (.int (((fl.toUInt32 >>> ((1 : Int32) &&& 31).toUInt32).toInt32) &&& (3 : Int32))), .val (.int (1 : Int32)), .val (.int mk), .unset, .val (.ref b64), .unset]) rfl ?_
              refine XS.aload X64.here hx rfl (hb hby at_93) rfl rfl ?_
              refine XS.iconst X64.here hx rfl (hb hby at_95) ?_
              refine XS.iload X64.here hx rfl (hb hby at_96) rfl ?_
              exact k
            obtain ⟨cl65, Ar65, q65, S65, M65, H65, G65⟩ := id V64
            obtain ⟨T66, h66, X66, e66, W66, st66⟩ := stC X64 hx hZ e64 Ar65 (j := (0 : Int32)) (inb_of S65 ⟨by decide, by decide⟩) (g := (mkF m 98 #[.val (.int pa), .val (.int pb), .val (.int pc_), .val (.int po), .val (.int fl), .val (.int c0), .val (.int c1), .val (.int (0 : Int32)), .val (.int (((fl.toUInt32 >>> ((1 : Int32) &&& 31).toUInt32).toInt32) &&& (3 : Int32))), .val (.int (1 : Int32)), .val (.int mk), .unset, .val (.ref b64), .unset] [(.int c0), (.int (0 : Int32)), (.ref b64)])) rfl rfl (hb hby at_98)
            have N66 := Fr.snoc X66 N38 g_b64
            have K66 : Keep h0 h66 [] := K64.wr W66 (Or.inr hz_b64)
            have Z66 : n0 ≤ h66.size := Nat.le_trans Z64 (Keep.of_wr W66).1
            have O66 := O64.wr W66 g_b64
            have fw66 := (show Arv Z h66 b64 k64 .char (2 : Int32) [(.int c0), (.int (0 : Int32))] (.int (0 : Int32)) by have q : Arv Z h66 b64 k64 .char (2 : Int32) [(.int (c0.toUInt32.toUInt16.toUInt32.toInt32)), (.int (0 : Int32))] (.int (0 : Int32)) := Arv.set Ar65 q65 S65 M65 H65 G65 (fits_nar_char _) W66 0 rfl (Nat.le_of_ble_eq_true rfl); rw [own_u16_id rg0] at q; exact q)
            refine own_st (T' := T66) (g' := (mkF m 99 #[.val (.int pa), .val (.int pb), .val (.int pc_), .val (.int po), .val (.int fl), .val (.int c0), .val (.int c1), .val (.int (0 : Int32)), .val (.int (((fl.toUInt32 >>> ((1 : Int32) &&& 31).toUInt32).toInt32) &&& (3 : Int32))), .val (.int (1 : Int32)), .val (.int mk), .unset, .val (.ref b64), .unset] [])) st66 ?_
            refine own_st (T' := T66) (g' := (mkF m 104 #[.val (.int pa), .val (.int pb), .val (.int pc_), .val (.int po), .val (.int fl), .val (.int c0), .val (.int c1), .val (.int (0 : Int32)), .val (.int (((fl.toUInt32 >>> ((1 : Int32) &&& 31).toUInt32).toInt32) &&& (3 : Int32))), .val (.int (1 : Int32)), .val (.int mk), .unset, .val (.ref b64), .unset] [(.int c1), (.int (1 : Int32)), (.ref b64)])) (fun t k => ?_) ?_
            · show Steps p.tables e below (T66.setTop (mkF m 99 #[.val (.int pa), .val (.int pb), .val (.int pc_), .val (.int po), .val (.int fl), .val (.int c0), .val (.int c1), .val (.int (0 : Int32)), .val (.int (((fl.toUInt32 >>> ((1 : Int32) &&& 31).toUInt32).toInt32) &&& (3 : Int32))), .val (.int (1 : Int32)), .val (.int mk), .unset, .val (.ref b64), .unset] [])) t
              refine XS.aload X66.here hx rfl (hb hby at_99) rfl rfl ?_
              refine XS.iconst X66.here hx rfl (hb hby at_101) ?_
              refine XS.iload X66.here hx rfl (hb hby at_102) rfl ?_
              exact k
            obtain ⟨cl67, Ar67, q67, S67, M67, H67, G67⟩ := id fw66
            obtain ⟨T68, h68, X68, e68, W68, st68⟩ := stC X66 hx hZ e66 Ar67 (j := (1 : Int32)) (inb_of S67 ⟨by decide, by decide⟩) (g := (mkF m 104 #[.val (.int pa), .val (.int pb), .val (.int pc_), .val (.int po), .val (.int fl), .val (.int c0), .val (.int c1), .val (.int (0 : Int32)), .val (.int (((fl.toUInt32 >>> ((1 : Int32) &&& 31).toUInt32).toInt32) &&& (3 : Int32))), .val (.int (1 : Int32)), .val (.int mk), .unset, .val (.ref b64), .unset] [(.int c1), (.int (1 : Int32)), (.ref b64)])) rfl rfl (hb hby at_104)
            have N68 := Fr.snoc X68 N66 g_b64
            have K68 : Keep h0 h68 [] := K66.wr W68 (Or.inr hz_b64)
            have Z68 : n0 ≤ h68.size := Nat.le_trans Z66 (Keep.of_wr W68).1
            have O68 := O66.wr W68 g_b64
            have fw68 := (show Arv Z h68 b64 k64 .char (2 : Int32) [(.int c0), (.int c1)] (.int (0 : Int32)) by have q : Arv Z h68 b64 k64 .char (2 : Int32) [(.int c0), (.int (c1.toUInt32.toUInt16.toUInt32.toInt32))] (.int (0 : Int32)) := Arv.set Ar67 q67 S67 M67 H67 G67 (fits_nar_char _) W68 1 rfl (Nat.le_of_ble_eq_true rfl); rw [own_u16_id rg1] at q; exact q)
            refine own_st (T' := T68) (g' := (mkF m 105 #[.val (.int pa), .val (.int pb), .val (.int pc_), .val (.int po), .val (.int fl), .val (.int c0), .val (.int c1), .val (.int (0 : Int32)), .val (.int (((fl.toUInt32 >>> ((1 : Int32) &&& 31).toUInt32).toInt32) &&& (3 : Int32))), .val (.int (1 : Int32)), .val (.int mk), .unset, .val (.ref b64), .unset] [])) st68 ?_
            obtain ⟨T69, h69, X69, e69, E69, A69, D69, U69, st69⟩ := newO X68 hx hZ hown (hw _ (List.mem_of_getElem? (i := 72) rfl)) (hw _ (List.mem_of_getElem? (i := 11) rfl)) (hw _ (List.mem_of_getElem? (i := 3) rfl)) e68 (g := (mkF m 105 #[.val (.int pa), .val (.int pb), .val (.int pc_), .val (.int po), .val (.int fl), .val (.int c0), .val (.int c1), .val (.int (0 : Int32)), .val (.int (((fl.toUInt32 >>> ((1 : Int32) &&& 31).toUInt32).toInt32) &&& (3 : Int32))), .val (.int (1 : Int32)), .val (.int mk), .unset, .val (.ref b64), .unset] [])) rfl (hb hby at_105) (by decide) (by decide)
            obtain ⟨b69, g69⟩ : ∃ z, z = h68.size := ⟨_, rfl⟩
            rw [← g69] at A69 D69 U69 st69
            have sz69 : h68.size ≤ b69 := Nat.le_of_eq g69.symm
            have ne_b64_b69 : b64 ≠ b69 := Nat.ne_of_lt (Nat.lt_of_lt_of_le fw68.lt sz69)
            have g_b69 : n0 ≤ b69 := Nat.le_trans Z68 sz69
            have hz_b69 : h0.size ≤ b69 := Nat.le_trans K68.1 sz69
            have K69 : Keep h0 h69 [] := K68.ext E69
            have Z69 : n0 ≤ h69.size := Nat.le_trans Z68 E69.1
            have O69 := O68.ext E69
            refine own_st (T' := T69) (g' := (mkF m 108 #[.val (.int pa), .val (.int pb), .val (.int pc_), .val (.int po), .val (.int fl), .val (.int c0), .val (.int c1), .val (.int (0 : Int32)), .val (.int (((fl.toUInt32 >>> ((1 : Int32) &&& 31).toUInt32).toInt32) &&& (3 : Int32))), .val (.int (1 : Int32)), .val (.int mk), .unset, .val (.ref b64), .unset] [(.ref b69)])) st69 ?_
            refine own_st (T' := T69) (g' := (mkF m 111 #[.val (.int pa), .val (.int pb), .val (.int pc_), .val (.int po), .val (.int fl), .val (.int c0), .val (.int c1), .val (.int (0 : Int32)), .val (.int (((fl.toUInt32 >>> ((1 : Int32) &&& 31).toUInt32).toInt32) &&& (3 : Int32))), .val (.int (1 : Int32)), .val (.int mk), .unset, .val (.ref b64), .unset] [(.ref b64), (.ref b69), (.ref b69)])) (fun t k => ?_) ?_
            · show Steps p.tables e below (T69.setTop (mkF m 108 #[.val (.int pa), .val (.int pb), .val (.int pc_), .val (.int po), .val (.int fl), .val (.int c0), .val (.int c1), .val (.int (0 : Int32)), .val (.int (((fl.toUInt32 >>> ((1 : Int32) &&& 31).toUInt32).toInt32) &&& (3 : Int32))), .val (.int (1 : Int32)), .val (.int mk), .unset, .val (.ref b64), .unset] [(.ref b69)])) t
              refine XS.dup X69.here hx rfl (hb hby at_108) rfl rfl ?_
              refine XS.aload X69.here hx rfl (hb hby at_109) rfl rfl ?_
              exact k
            have f70 := fw68.ext E69
            obtain ⟨_, _, ⟨T71, L71, c71, n71⟩, -, X71, ⟨Lc71, hQ71, l71, y71, z71⟩, st71⟩ := X69.specialBack hx (y := (⟨"java/lang/String", "<init>", "([C)V"⟩ : MethodName)) rfl hown (mvT hZ (hw _ (List.mem_of_getElem? (i := 73) rfl))) (mvT hZ (hw _ (List.mem_of_getElem? (i := 74) rfl))) (mvT hZ (hw _ (List.mem_of_getElem? (i := 75) rfl))) (by decide) (backOf (W := 1) (own_rm14b l Z a0 hw [] b69 b64 k64 c0 c1 cs fm h69 n0 Z69 O69 A69 (D69 (Or.inr (hw _ (List.mem_of_getElem? (i := 24) rfl))) (ty := (.array .byte)) (by decide) : Fld Z h69 b69 "java/lang/String" "value" "[B" .null) (D69 (Or.inr (hw _ (List.mem_of_getElem? (i := 26) rfl))) (ty := .byte) (by decide) : Fld Z h69 b69 "java/lang/String" "coder" "B" (.int (0 : Int32))) g_b69 f70 (Ne.symm ne_b64_b69) h0c h1c rg0 rg1 hcs hfm S_cs S_fm S_ad S_hb S_lb) hZ (hw _ (List.mem_of_getElem? (i := 75) rfl)) (hw _ (List.mem_of_getElem? (i := 3) rfl)) (by decide) (by decide)) (g := (mkF m 111 #[.val (.int pa), .val (.int pb), .val (.int pc_), .val (.int po), .val (.int fl), .val (.int c0), .val (.int c1), .val (.int (0 : Int32)), .val (.int (((fl.toUInt32 >>> ((1 : Int32) &&& 31).toUInt32).toInt32) &&& (3 : Int32))), .val (.int (1 : Int32)), .val (.int mk), .unset, .val (.ref b64), .unset] [(.ref b64), (.ref b69), (.ref b69)])) rfl (by rw [hml]; rfl) (Steps.refl _) (a := b69) (argsL := [(.ref b64)]) (rest := [(.ref b69)]) (lenOf own_pd20 rfl) rfl (by show 2 * 0 + _ ≤ _; exact Nat.le_of_eq rfl) (hb hby at_111) (fun _ _ => ⟨rfl, e69, (by decide : 2 + 2 ≤ _), (by decide : 6 + 6 ≤ _)⟩)
            dsimp only [Pt.U, Pt.locs, Pt.cells, Pt.slots] at X71 l71 y71 z71 st71 hQ71
            subst l71 y71 z71
            obtain ⟨h71, e71⟩ : ∃ z, T71.heap = z := ⟨_, rfl⟩
            rw [e71] at hQ71
            obtain ⟨t71, k71, rfl, N71q, Kc71, g71, hz71, Fv71, Fo71, Vc71⟩ := hQ71
            have N71 := Fr.app N68 N71q
            have ne_b64_t71 : b64 ≠ t71 := Nat.ne_of_lt (Nat.lt_of_lt_of_le f70.lt hz71)
            have ne_b69_t71 : b69 ≠ t71 := Nat.ne_of_lt (Nat.lt_of_lt_of_le A69.lt hz71)
            have hwt71 : h0.size ≤ t71 := Nat.le_trans K69.1 hz71
            have K71 : Keep h0 h71 [] := K69.trans Kc71 (allS (Or.inr hz_b69) all0)
            have Z71 : n0 ≤ h71.size := Nat.le_trans Z69 Kc71.1
            have O71 := O69.keep Kc71 (allS g_b69 all0)
            refine own_tr (T' := T71) (g' := (mkF m 114 #[.val (.int pa), .val (.int pb), .val (.int pc_), .val (.int po), .val (.int fl), .val (.int c0), .val (.int c1), .val (.int (0 : Int32)), .val (.int (((fl.toUInt32 >>> ((1 : Int32) &&& 31).toUInt32).toInt32) &&& (3 : Int32))), .val (.int (1 : Int32)), .val (.int mk), .unset, .val (.ref b64), .unset] [(.ref b69)])) st71 ?_
            refine own_st (T' := T71) (g' := (mkF m 126 #[.val (.int pa), .val (.int pb), .val (.int pc_), .val (.int po), .val (.int fl), .val (.int c0), .val (.int c1), .val (.int (0 : Int32)), .val (.int (((fl.toUInt32 >>> ((1 : Int32) &&& 31).toUInt32).toInt32) &&& (3 : Int32))), .val (.int (1 : Int32)), .val (.int mk), .val (.ref b69), .val (.ref b64), .unset] [])) (fun t k => ?_) ?_
            · show Steps p.tables e below (T71.setTop (mkF m 114 #[.val (.int pa), .val (.int pb), .val (.int pc_), .val (.int po), .val (.int fl), .val (.int c0), .val (.int c1), .val (.int (0 : Int32)), .val (.int (((fl.toUInt32 >>> ((1 : Int32) &&& 31).toUInt32).toInt32) &&& (3 : Int32))), .val (.int (1 : Int32)), .val (.int mk), .unset, .val (.ref b64), .unset] [(.ref b69)])) t
              refine XS.astore X71.here hx rfl (hb hby at_114) rfl rfl (l' := #[.val (.int pa), .val (.int pb), .val (.int pc_), .val (.int po), .val (.int fl), .val (.int c0), .val (.int c1), .val (.int (0 : Int32)), .val (.int (((fl.toUInt32 >>> ((1 : Int32) &&& 31).toUInt32).toInt32) &&& (3 : Int32))), .val (.int (1 : Int32)), .val (.int mk), .val (.ref b69), .val (.ref b64), .unset]) rfl ?_
              refine XS.goto X71.here hx rfl (pc0 := 116) (pc' := 126) rfl (hb hby at_116) (by decide) (by decide) ?_
              exact k
            obtain ⟨T72, h72, X72, e72, E72, A72, D72, U72, st72⟩ := newO X71 hx hZ hown (hw _ (List.mem_of_getElem? (i := 27) rfl)) (hw _ (List.mem_of_getElem? (i := 28) rfl)) (hw _ (List.mem_of_getElem? (i := 29) rfl)) e71 (g := (mkF m 126 #[.val (.int pa), .val (.int pb), .val (.int pc_), .val (.int po), .val (.int fl), .val (.int c0), .val (.int c1), .val (.int (0 : Int32)), .val (.int (((fl.toUInt32 >>> ((1 : Int32) &&& 31).toUInt32).toInt32) &&& (3 : Int32))), .val (.int (1 : Int32)), .val (.int mk), .val (.ref b69), .val (.ref b64), .unset] [])) rfl (hb hby at_126) (by decide) (by decide)
            obtain ⟨b72, g72⟩ : ∃ z, z = h71.size := ⟨_, rfl⟩
            rw [← g72] at A72 D72 U72 st72
            have sz72 : h71.size ≤ b72 := Nat.le_of_eq g72.symm
            have f73 := f70.keep Kc71 (ninS ne_b64_b69 nin0)
            have ne_b64_b72 : b64 ≠ b72 := Nat.ne_of_lt (Nat.lt_of_lt_of_le f73.lt sz72)
            have f74 := A69.keep Kc71
            have ne_b69_b72 : b69 ≠ b72 := Nat.ne_of_lt (Nat.lt_of_lt_of_le f74.lt sz72)
            have ne_t71_b72 : t71 ≠ b72 := Nat.ne_of_lt (Nat.lt_of_lt_of_le Vc71.lt sz72)
            have g_b72 : n0 ≤ b72 := Nat.le_trans Z71 sz72
            have hz_b72 : h0.size ≤ b72 := Nat.le_trans K71.1 sz72
            have K72 : Keep h0 h72 [] := K71.ext E72
            have Z72 : n0 ≤ h72.size := Nat.le_trans Z71 E72.1
            have O72 := O71.ext E72
            refine own_st (T' := T72) (g' := (mkF m 129 #[.val (.int pa), .val (.int pb), .val (.int pc_), .val (.int po), .val (.int fl), .val (.int c0), .val (.int c1), .val (.int (0 : Int32)), .val (.int (((fl.toUInt32 >>> ((1 : Int32) &&& 31).toUInt32).toInt32) &&& (3 : Int32))), .val (.int (1 : Int32)), .val (.int mk), .val (.ref b69), .val (.ref b64), .unset] [(.ref b72)])) st72 ?_
            refine own_st (T' := T72) (g' := (mkF m 135 #[.val (.int pa), .val (.int pb), .val (.int pc_), .val (.int po), .val (.int fl), .val (.int c0), .val (.int c1), .val (.int (0 : Int32)), .val (.int (((fl.toUInt32 >>> ((1 : Int32) &&& 31).toUInt32).toInt32) &&& (3 : Int32))), .val (.int (1 : Int32)), .val (.int mk), .val (.ref b69), .val (.ref b64), .unset] [(.int (0 : Int32)), (.int po), (.ref b69), (.ref b72), (.ref b72)])) (fun t k => ?_) ?_
            · show Steps p.tables e below (T72.setTop (mkF m 129 #[.val (.int pa), .val (.int pb), .val (.int pc_), .val (.int po), .val (.int fl), .val (.int c0), .val (.int c1), .val (.int (0 : Int32)), .val (.int (((fl.toUInt32 >>> ((1 : Int32) &&& 31).toUInt32).toInt32) &&& (3 : Int32))), .val (.int (1 : Int32)), .val (.int mk), .val (.ref b69), .val (.ref b64), .unset] [(.ref b72)])) t
              refine XS.dup X72.here hx rfl (hb hby at_129) rfl rfl ?_
              refine XS.aload X72.here hx rfl (hb hby at_130) rfl rfl ?_
              refine XS.iloadN X72.here hx rfl (hb hby at_132) rfl ?_
              refine XS.iload X72.here hx rfl (hb hby at_133) rfl ?_
              exact k
            obtain ⟨_, _, ⟨T75, L75, c75, n75⟩, -, X75, ⟨Lc75, hQ75, l75, y75, z75⟩, st75⟩ := X72.specialBack hx (y := (⟨"com/example/vested_roles/vestedroles/Tokens$Token", "<init>", "(Ljava/lang/String;IZ)V"⟩ : MethodName)) rfl hown (mvT hZ (hw _ (List.mem_of_getElem? (i := 30) rfl))) (mvT hZ (hw _ (List.mem_of_getElem? (i := 31) rfl))) (mvT hZ (hw _ (List.mem_of_getElem? (i := 32) rfl))) (by decide) (backOf (W := 1) (own_rm6_0 l Z a0 hw [] b72 b69 po cs fm h72 n0 Z72 O72 A72 (D72 (Or.inr (hw _ (List.mem_of_getElem? (i := 40) rfl))) (ty := (.object "java/lang/String")) (by decide) : Fld Z h72 b72 "com/example/vested_roles/vestedroles/Tokens$Token" "text" "Ljava/lang/String;" .null) (D72 (Or.inr (hw _ (List.mem_of_getElem? (i := 42) rfl))) (ty := .int) (by decide) : Fld Z h72 b72 "com/example/vested_roles/vestedroles/Tokens$Token" "position" "I" (.int (0 : Int32))) (D72 (Or.inr (hw _ (List.mem_of_getElem? (i := 44) rfl))) (ty := .boolean) (by decide) : Fld Z h72 b72 "com/example/vested_roles/vestedroles/Tokens$Token" "isName" "Z" (.int (0 : Int32))) g_b72 hcs hfm S_cs S_fm S_ad S_hb S_lb) hZ (hw _ (List.mem_of_getElem? (i := 32) rfl)) (hw _ (List.mem_of_getElem? (i := 29) rfl)) (by decide) (by decide)) (g := (mkF m 135 #[.val (.int pa), .val (.int pb), .val (.int pc_), .val (.int po), .val (.int fl), .val (.int c0), .val (.int c1), .val (.int (0 : Int32)), .val (.int (((fl.toUInt32 >>> ((1 : Int32) &&& 31).toUInt32).toInt32) &&& (3 : Int32))), .val (.int (1 : Int32)), .val (.int mk), .val (.ref b69), .val (.ref b64), .unset] [(.int (0 : Int32)), (.int po), (.ref b69), (.ref b72), (.ref b72)])) rfl (by rw [hml]; rfl) (Steps.refl _) (a := b72) (argsL := [(.ref b69), (.int po), (.int (0 : Int32))]) (rest := [(.ref b72)]) (lenOf own_pd19 rfl) rfl (by show 2 * 0 + _ ≤ _; exact Nat.le_of_eq rfl) (hb hby at_135) (fun _ _ => ⟨rfl, e72, (by decide : 5 + 0 ≤ _), (by decide : 15 + 0 ≤ _)⟩)
            dsimp only [Pt.U, Pt.locs, Pt.cells, Pt.slots] at X75 l75 y75 z75 st75 hQ75
            subst l75 y75 z75
            obtain ⟨h75, e75⟩ : ∃ z, T75.heap = z := ⟨_, rfl⟩
            rw [e75] at hQ75
            obtain ⟨rfl, N75q, Kc75, Fx75, Fn75⟩ := hQ75
            have N75 := Fr.app N71 N75q
            have K75 : Keep h0 h75 [] := K72.trans Kc75 (allS (Or.inr hz_b72) all0)
            have Z75 : n0 ≤ h75.size := Nat.le_trans Z72 Kc75.1
            have O75 := O72.keep Kc75 (allS g_b72 all0)
            refine own_tr (T' := T75) (g' := (mkF m 138 #[.val (.int pa), .val (.int pb), .val (.int pc_), .val (.int po), .val (.int fl), .val (.int c0), .val (.int c1), .val (.int (0 : Int32)), .val (.int (((fl.toUInt32 >>> ((1 : Int32) &&& 31).toUInt32).toInt32) &&& (3 : Int32))), .val (.int (1 : Int32)), .val (.int mk), .val (.ref b69), .val (.ref b64), .unset] [(.ref b72)])) st75 ?_
            refine own_st (T' := T75) (g' := (mkF m 155 #[.val (.int pa), .val (.int pb), .val (.int pc_), .val (.int po), .val (.int fl), .val (.int c0), .val (.int c1), .val (.int (0 : Int32)), .val (.int (((fl.toUInt32 >>> ((1 : Int32) &&& 31).toUInt32).toInt32) &&& (3 : Int32))), .val (.int (1 : Int32)), .val (.int mk), .val (.ref b69), .val (.ref b72), .unset] [(.int mk), (.int c0)])) (fun t k => ?_) ?_
            · show Steps p.tables e below (T75.setTop (mkF m 138 #[.val (.int pa), .val (.int pb), .val (.int pc_), .val (.int po), .val (.int fl), .val (.int c0), .val (.int c1), .val (.int (0 : Int32)), .val (.int (((fl.toUInt32 >>> ((1 : Int32) &&& 31).toUInt32).toInt32) &&& (3 : Int32))), .val (.int (1 : Int32)), .val (.int mk), .val (.ref b69), .val (.ref b64), .unset] [(.ref b72)])) t
              refine XS.astore X75.here hx rfl (hb hby at_138) rfl rfl (l' := #[.val (.int pa), .val (.int pb), .val (.int pc_), .val (.int po), .val (.int fl), .val (.int c0), .val (.int c1), .val (.int (0 : Int32)), .val (.int (((fl.toUInt32 >>> ((1 : Int32) &&& 31).toUInt32).toInt32) &&& (3 : Int32))), .val (.int (1 : Int32)), .val (.int mk), .val (.ref b69), .val (.ref b72), .unset]) rfl ?_
              refine XS.iload X75.here hx rfl (hb hby at_140) rfl ?_
              refine XS.ifYes X75.here hx rfl (pc0 := 142) (pc' := 151) rfl (hb hby at_142) rfl ((if0 _ _).trans (teq (rfl : (0 : Int32) = (0 : Int32))).1) (by decide) (by decide) ?_
              refine XS.iload X75.here hx rfl (hb hby at_151) rfl ?_
              refine XS.iload X75.here hx rfl (hb hby at_153) rfl ?_
              exact k
            by_cases hc76 : c0 = mk
            · refine own_st (T' := T75) (g' := (mkF m 169 #[.val (.int pa), .val (.int pb), .val (.int pc_), .val (.int po), .val (.int fl), .val (.int c0), .val (.int c1), .val (.int (0 : Int32)), .val (.int (((fl.toUInt32 >>> ((1 : Int32) &&& 31).toUInt32).toInt32) &&& (3 : Int32))), .val (.int (1 : Int32)), .val (.int mk), .val (.ref b69), .val (.ref b72), .val (.int (1 : Int32))] [(.int mk), (.ref b72)])) (fun t k => ?_) ?_
              · show Steps p.tables e below (T75.setTop (mkF m 155 #[.val (.int pa), .val (.int pb), .val (.int pc_), .val (.int po), .val (.int fl), .val (.int c0), .val (.int c1), .val (.int (0 : Int32)), .val (.int (((fl.toUInt32 >>> ((1 : Int32) &&& 31).toUInt32).toInt32) &&& (3 : Int32))), .val (.int (1 : Int32)), .val (.int mk), .val (.ref b69), .val (.ref b72), .unset] [(.int mk), (.int c0)])) t
                refine XS.icmpNo X75.here hx rfl (hb hby at_155) rfl (teq hc76).2 ?_
                refine XS.iconst X75.here hx rfl (hb hby at_158) ?_
                refine XS.goto X75.here hx rfl (pc0 := 159) (pc' := 163) rfl (hb hby at_159) (by decide) (by decide) ?_
                refine XS.istore X75.here hx rfl (hb hby at_163) rfl (l' := #[.val (.int pa), .val (.int pb), .val (.int pc_), .val (.int po), .val (.int fl), .val (.int c0), .val (.int c1), .val (.int (0 : Int32)), .val (.int (((fl.toUInt32 >>> ((1 : Int32) &&& 31).toUInt32).toInt32) &&& (3 : Int32))), .val (.int (1 : Int32)), .val (.int mk), .val (.ref b69), .val (.ref b72), .val (.int (1 : Int32))]) rfl ?_
                refine XS.aload X75.here hx rfl (hb hby at_165) rfl rfl ?_
                refine XS.iload X75.here hx rfl (hb hby at_167) rfl ?_
                exact k
              have f77 := (f74.ext E72).keep Kc75
              have f78 := (Fv71.ext E72).keep Kc75 (ninS ne_b69_b72 nin0)
              have f79 := (Fo71.ext E72).keep Kc75 (ninS ne_b69_b72 nin0)
              have f80 := (Vc71.ext E72).keep Kc75 (ninS ne_t71_b72 nin0)
              have f82 := A72.keep Kc75
              obtain ⟨cq81, kq81, q81a, q81b, q81c⟩ := isOf hZ e75 f82
              obtain ⟨_, _, ⟨T81, L81, c81, n81⟩, -, X81, ⟨Lc81, hQ81, l81, y81, z81⟩, st81⟩ := X75.virtualBack hx (y := (⟨"com/example/vested_roles/vestedroles/Tokens$Token", "is", "(C)Z"⟩ : MethodName)) (z := (⟨"com/example/vested_roles/vestedroles/Tokens$Token", "is", "(C)Z"⟩ : MethodName)) hown (mvT hZ (hw _ (List.mem_of_getElem? (i := 45) rfl))) (mvT hZ (hw _ (List.mem_of_getElem? (i := 46) rfl))) (notFace_of_selects (args := #[]) (mvT hZ (hw _ (List.mem_of_getElem? (i := 48) rfl)))) (mvT hZ (hw _ (List.mem_of_getElem? (i := 48) rfl))) (mvT hZ (hw _ (List.mem_of_getElem? (i := 47) rfl))) (by decide) (backOf (W := 0) (own_rm8_1_4 l Z a0 hw [] b72 b69 t71 k71 ((c0 >>> ((0 : Int32) &&& 31)).toInt8.toInt32) ((c0 >>> ((8 : Int32) &&& 31)).toInt8.toInt32) ((c1 >>> ((0 : Int32) &&& 31)).toInt8.toInt32) ((c1 >>> ((8 : Int32) &&& 31)).toInt8.toInt32) mk cs fm h75 n0 Z75 O75 Fn75 Fx75 f77 f78 f79 f80 hcs hfm S_cs S_fm S_ad S_hb S_lb) hZ (hw _ (List.mem_of_getElem? (i := 49) rfl)) (hw _ (List.mem_of_getElem? (i := 29) rfl)) (by decide) (by decide)) q81a q81c (g := (mkF m 169 #[.val (.int pa), .val (.int pb), .val (.int pc_), .val (.int po), .val (.int fl), .val (.int c0), .val (.int c1), .val (.int (0 : Int32)), .val (.int (((fl.toUInt32 >>> ((1 : Int32) &&& 31).toUInt32).toInt32) &&& (3 : Int32))), .val (.int (1 : Int32)), .val (.int mk), .val (.ref b69), .val (.ref b72), .val (.int (1 : Int32))] [(.int mk), (.ref b72)])) rfl (by rw [hml]; rfl) (Steps.refl _) (argsL := [(.int mk)]) (rest := []) (lenOf own_pd13 rfl) rfl (by show 2 * 0 + _ ≤ _; exact Nat.le_of_eq rfl) (hb hby at_169) (fun _ _ => ⟨rfl, e75, (by decide : 5 + 0 ≤ _), (by decide : 15 + 0 ≤ _)⟩)
              dsimp only [Pt.U, Pt.locs, Pt.cells, Pt.slots] at X81 l81 y81 z81 st81 hQ81
              subst l81 y81 z81
              obtain ⟨rfl, N81q, e81⟩ := hQ81
              have N81 := Fr.app N75 N81q
              refine own_tr (T' := T81) (g' := (mkF m 172 #[.val (.int pa), .val (.int pb), .val (.int pc_), .val (.int po), .val (.int fl), .val (.int c0), .val (.int c1), .val (.int (0 : Int32)), .val (.int (((fl.toUInt32 >>> ((1 : Int32) &&& 31).toUInt32).toInt32) &&& (3 : Int32))), .val (.int (1 : Int32)), .val (.int mk), .val (.ref b69), .val (.ref b72), .val (.int (1 : Int32))] [(.int (own_eqi (own_gc ((c0 >>> ((0 : Int32) &&& 31)).toInt8.toInt32) ((c0 >>> ((8 : Int32) &&& 31)).toInt8.toInt32)) mk))])) st81 ?_
              have hG : (own_eqi (own_gc ((c0 >>> ((0 : Int32) &&& 31)).toInt8.toInt32) ((c0 >>> ((8 : Int32) &&& 31)).toInt8.toInt32)) mk) = (1 : Int32) := by rw [(own_gc_c rg0)]; simp only [own_eqi, hc76, if_true, if_false]
              refine own_st (T' := T81) (g' := (mkF m 182 #[.val (.int pa), .val (.int pb), .val (.int pc_), .val (.int po), .val (.int fl), .val (.int c0), .val (.int c1), .val (.int (0 : Int32)), .val (.int (((fl.toUInt32 >>> ((1 : Int32) &&& 31).toUInt32).toInt32) &&& (3 : Int32))), .val (.int (1 : Int32)), .val (.int mk), .val (.ref b69), .val (.ref b72), .val (.int (1 : Int32))] [(.int (1 : Int32))])) (fun t k => ?_) ?_
              · show Steps p.tables e below (T81.setTop (mkF m 172 #[.val (.int pa), .val (.int pb), .val (.int pc_), .val (.int po), .val (.int fl), .val (.int c0), .val (.int c1), .val (.int (0 : Int32)), .val (.int (((fl.toUInt32 >>> ((1 : Int32) &&& 31).toUInt32).toInt32) &&& (3 : Int32))), .val (.int (1 : Int32)), .val (.int mk), .val (.ref b69), .val (.ref b72), .val (.int (1 : Int32))] [(.int (own_eqi (own_gc ((c0 >>> ((0 : Int32) &&& 31)).toInt8.toInt32) ((c0 >>> ((8 : Int32) &&& 31)).toInt8.toInt32)) mk))])) t
                refine XS.iload X81.here hx rfl (hb hby at_172) rfl ?_
                refine XS.icmpNo X81.here hx rfl (hb hby at_174) rfl (teq hG).2 ?_
                refine XS.iconst X81.here hx rfl (hb hby at_177) ?_
                refine XS.goto X81.here hx rfl (pc0 := 178) (pc' := 182) rfl (hb hby at_178) (by decide) (by decide) ?_
                exact k
              exact own_retN X81 hx Bd (t := .boolean) (by simp) rfl (hb hby at_182) e81 (⟨rfl, N81⟩) (by decide) (by decide)
            · refine own_st (T' := T75) (g' := (mkF m 169 #[.val (.int pa), .val (.int pb), .val (.int pc_), .val (.int po), .val (.int fl), .val (.int c0), .val (.int c1), .val (.int (0 : Int32)), .val (.int (((fl.toUInt32 >>> ((1 : Int32) &&& 31).toUInt32).toInt32) &&& (3 : Int32))), .val (.int (1 : Int32)), .val (.int mk), .val (.ref b69), .val (.ref b72), .val (.int (0 : Int32))] [(.int mk), (.ref b72)])) (fun t k => ?_) ?_
              · show Steps p.tables e below (T75.setTop (mkF m 155 #[.val (.int pa), .val (.int pb), .val (.int pc_), .val (.int po), .val (.int fl), .val (.int c0), .val (.int c1), .val (.int (0 : Int32)), .val (.int (((fl.toUInt32 >>> ((1 : Int32) &&& 31).toUInt32).toInt32) &&& (3 : Int32))), .val (.int (1 : Int32)), .val (.int mk), .val (.ref b69), .val (.ref b72), .unset] [(.int mk), (.int c0)])) t
                refine XS.icmpYes X75.here hx rfl (pc0 := 155) (pc' := 162) rfl (hb hby at_155) rfl (feq hc76).2 (by decide) (by decide) ?_
                refine XS.iconst X75.here hx rfl (hb hby at_162) ?_
                refine XS.istore X75.here hx rfl (hb hby at_163) rfl (l' := #[.val (.int pa), .val (.int pb), .val (.int pc_), .val (.int po), .val (.int fl), .val (.int c0), .val (.int c1), .val (.int (0 : Int32)), .val (.int (((fl.toUInt32 >>> ((1 : Int32) &&& 31).toUInt32).toInt32) &&& (3 : Int32))), .val (.int (1 : Int32)), .val (.int mk), .val (.ref b69), .val (.ref b72), .val (.int (0 : Int32))]) rfl ?_
                refine XS.aload X75.here hx rfl (hb hby at_165) rfl rfl ?_
                refine XS.iload X75.here hx rfl (hb hby at_167) rfl ?_
                exact k
              have f83 := (f74.ext E72).keep Kc75
              have f84 := (Fv71.ext E72).keep Kc75 (ninS ne_b69_b72 nin0)
              have f85 := (Fo71.ext E72).keep Kc75 (ninS ne_b69_b72 nin0)
              have f86 := (Vc71.ext E72).keep Kc75 (ninS ne_t71_b72 nin0)
              have f88 := A72.keep Kc75
              obtain ⟨cq87, kq87, q87a, q87b, q87c⟩ := isOf hZ e75 f88
              obtain ⟨_, _, ⟨T87, L87, c87, n87⟩, -, X87, ⟨Lc87, hQ87, l87, y87, z87⟩, st87⟩ := X75.virtualBack hx (y := (⟨"com/example/vested_roles/vestedroles/Tokens$Token", "is", "(C)Z"⟩ : MethodName)) (z := (⟨"com/example/vested_roles/vestedroles/Tokens$Token", "is", "(C)Z"⟩ : MethodName)) hown (mvT hZ (hw _ (List.mem_of_getElem? (i := 45) rfl))) (mvT hZ (hw _ (List.mem_of_getElem? (i := 46) rfl))) (notFace_of_selects (args := #[]) (mvT hZ (hw _ (List.mem_of_getElem? (i := 48) rfl)))) (mvT hZ (hw _ (List.mem_of_getElem? (i := 48) rfl))) (mvT hZ (hw _ (List.mem_of_getElem? (i := 47) rfl))) (by decide) (backOf (W := 0) (own_rm8_1_4 l Z a0 hw [] b72 b69 t71 k71 ((c0 >>> ((0 : Int32) &&& 31)).toInt8.toInt32) ((c0 >>> ((8 : Int32) &&& 31)).toInt8.toInt32) ((c1 >>> ((0 : Int32) &&& 31)).toInt8.toInt32) ((c1 >>> ((8 : Int32) &&& 31)).toInt8.toInt32) mk cs fm h75 n0 Z75 O75 Fn75 Fx75 f83 f84 f85 f86 hcs hfm S_cs S_fm S_ad S_hb S_lb) hZ (hw _ (List.mem_of_getElem? (i := 49) rfl)) (hw _ (List.mem_of_getElem? (i := 29) rfl)) (by decide) (by decide)) q87a q87c (g := (mkF m 169 #[.val (.int pa), .val (.int pb), .val (.int pc_), .val (.int po), .val (.int fl), .val (.int c0), .val (.int c1), .val (.int (0 : Int32)), .val (.int (((fl.toUInt32 >>> ((1 : Int32) &&& 31).toUInt32).toInt32) &&& (3 : Int32))), .val (.int (1 : Int32)), .val (.int mk), .val (.ref b69), .val (.ref b72), .val (.int (0 : Int32))] [(.int mk), (.ref b72)])) rfl (by rw [hml]; rfl) (Steps.refl _) (argsL := [(.int mk)]) (rest := []) (lenOf own_pd13 rfl) rfl (by show 2 * 0 + _ ≤ _; exact Nat.le_of_eq rfl) (hb hby at_169) (fun _ _ => ⟨rfl, e75, (by decide : 5 + 0 ≤ _), (by decide : 15 + 0 ≤ _)⟩)
              dsimp only [Pt.U, Pt.locs, Pt.cells, Pt.slots] at X87 l87 y87 z87 st87 hQ87
              subst l87 y87 z87
              obtain ⟨rfl, N87q, e87⟩ := hQ87
              have N87 := Fr.app N75 N87q
              refine own_tr (T' := T87) (g' := (mkF m 172 #[.val (.int pa), .val (.int pb), .val (.int pc_), .val (.int po), .val (.int fl), .val (.int c0), .val (.int c1), .val (.int (0 : Int32)), .val (.int (((fl.toUInt32 >>> ((1 : Int32) &&& 31).toUInt32).toInt32) &&& (3 : Int32))), .val (.int (1 : Int32)), .val (.int mk), .val (.ref b69), .val (.ref b72), .val (.int (0 : Int32))] [(.int (own_eqi (own_gc ((c0 >>> ((0 : Int32) &&& 31)).toInt8.toInt32) ((c0 >>> ((8 : Int32) &&& 31)).toInt8.toInt32)) mk))])) st87 ?_
              have hG : (own_eqi (own_gc ((c0 >>> ((0 : Int32) &&& 31)).toInt8.toInt32) ((c0 >>> ((8 : Int32) &&& 31)).toInt8.toInt32)) mk) = (0 : Int32) := by rw [(own_gc_c rg0)]; simp only [own_eqi, hc76, if_true, if_false]
              refine own_st (T' := T87) (g' := (mkF m 182 #[.val (.int pa), .val (.int pb), .val (.int pc_), .val (.int po), .val (.int fl), .val (.int c0), .val (.int c1), .val (.int (0 : Int32)), .val (.int (((fl.toUInt32 >>> ((1 : Int32) &&& 31).toUInt32).toInt32) &&& (3 : Int32))), .val (.int (1 : Int32)), .val (.int mk), .val (.ref b69), .val (.ref b72), .val (.int (0 : Int32))] [(.int (1 : Int32))])) (fun t k => ?_) ?_
              · show Steps p.tables e below (T87.setTop (mkF m 172 #[.val (.int pa), .val (.int pb), .val (.int pc_), .val (.int po), .val (.int fl), .val (.int c0), .val (.int c1), .val (.int (0 : Int32)), .val (.int (((fl.toUInt32 >>> ((1 : Int32) &&& 31).toUInt32).toInt32) &&& (3 : Int32))), .val (.int (1 : Int32)), .val (.int mk), .val (.ref b69), .val (.ref b72), .val (.int (0 : Int32))] [(.int (own_eqi (own_gc ((c0 >>> ((0 : Int32) &&& 31)).toInt8.toInt32) ((c0 >>> ((8 : Int32) &&& 31)).toInt8.toInt32)) mk))])) t
                refine XS.iload X87.here hx rfl (hb hby at_172) rfl ?_
                refine XS.icmpNo X87.here hx rfl (hb hby at_174) rfl (teq hG).2 ?_
                refine XS.iconst X87.here hx rfl (hb hby at_177) ?_
                refine XS.goto X87.here hx rfl (pc0 := 178) (pc' := 182) rfl (hb hby at_178) (by decide) (by decide) ?_
                exact k
              exact own_retN X87 hx Bd (t := .boolean) (by simp) rfl (hb hby at_182) e87 (⟨rfl, N87⟩) (by decide) (by decide)
          · refine own_st (T' := T38) (g' := (mkF m 89 #[.val (.int pa), .val (.int pb), .val (.int pc_), .val (.int po), .val (.int fl), .val (.int c0), .val (.int c1), .val (.int (0 : Int32)), .val (.int (((fl.toUInt32 >>> ((1 : Int32) &&& 31).toUInt32).toInt32) &&& (3 : Int32))), .val (.int (1 : Int32)), .val (.int mk), .unset, .unset, .unset] [(.int (2 : Int32))])) (fun t k => ?_) ?_
            · show Steps p.tables e below (T38.setTop (mkF m 83 #[.val (.int pa), .val (.int pb), .val (.int pc_), .val (.int po), .val (.int fl), .val (.int c0), .val (.int c1), .val (.int (0 : Int32)), .val (.int (((fl.toUInt32 >>> ((1 : Int32) &&& 31).toUInt32).toInt32) &&& (3 : Int32))), .val (.int (1 : Int32)), .val (.int mk), .unset, .unset, .unset] [])) t
              refine XS.iload X38.here hx rfl (hb hby at_83) rfl ?_
              refine XS.ifNo X38.here hx rfl (hb hby at_85) rfl ((if0 _ _).trans (feq (by decide : ¬ ((1 : Int32) = (0 : Int32)))).1) ?_
              refine XS.iconst X38.here hx rfl (hb hby at_88) ?_
              exact k
            obtain ⟨T89, h89, k89, X89, e89, E89, A89, st89⟩ := newP X38 hx hZ (hw _ (List.mem_of_getElem? (i := 71) rfl)) e38 (g := (mkF m 89 #[.val (.int pa), .val (.int pb), .val (.int pc_), .val (.int po), .val (.int fl), .val (.int c0), .val (.int c1), .val (.int (0 : Int32)), .val (.int (((fl.toUInt32 >>> ((1 : Int32) &&& 31).toUInt32).toInt32) &&& (3 : Int32))), .val (.int (1 : Int32)), .val (.int mk), .unset, .unset, .unset] [(.int (2 : Int32))])) rfl (hb hby at_89) rfl (by decide) (cap := 2) (by decide) (by decide) (by decide) (by decide)
            obtain ⟨b89, g89⟩ : ∃ z, z = h0.size := ⟨_, rfl⟩
            rw [← g89] at A89 st89
            have sz89 : h0.size ≤ b89 := Nat.le_of_eq g89.symm
            have g_b89 : n0 ≤ b89 := Nat.le_trans Z0 sz89
            have hz_b89 : h0.size ≤ b89 := Nat.le_trans (Keep.refl h0 []).1 sz89
            have K89 : Keep h0 h89 [] := (Keep.refl h0 []).ext E89
            have Z89 : n0 ≤ h89.size := Nat.le_trans Z0 E89.1
            have O89 := O0.ext E89
            have V89 : Arv Z h89 b89 k89 .char (2 : Int32) [(.int (0 : Int32)), (.int (0 : Int32))] (.int (0 : Int32)) := (Arv.new A89 (by decide)).pad (pad_rep [] (.int (0 : Int32)) 2)
            refine own_st (T' := T89) (g' := (mkF m 91 #[.val (.int pa), .val (.int pb), .val (.int pc_), .val (.int po), .val (.int fl), .val (.int c0), .val (.int c1), .val (.int (0 : Int32)), .val (.int (((fl.toUInt32 >>> ((1 : Int32) &&& 31).toUInt32).toInt32) &&& (3 : Int32))), .val (.int (1 : Int32)), .val (.int mk), .unset, .unset, .unset] [(.ref b89)])) st89 ?_
            refine own_st (T' := T89) (g' := (mkF m 98 #[.val (.int pa), .val (.int pb), .val (.int pc_), .val (.int po), .val (.int fl), .val (.int c0), .val (.int c1), .val (.int (0 : Int32)), .val (.int (((fl.toUInt32 >>> ((1 : Int32) &&& 31).toUInt32).toInt32) &&& (3 : Int32))), .val (.int (1 : Int32)), .val (.int mk), .unset, .val (.ref b89), .unset] [(.int c0), (.int (0 : Int32)), (.ref b89)])) (fun t k => ?_) ?_
            · show Steps p.tables e below (T89.setTop (mkF m 91 #[.val (.int pa), .val (.int pb), .val (.int pc_), .val (.int po), .val (.int fl), .val (.int c0), .val (.int c1), .val (.int (0 : Int32)), .val (.int (((fl.toUInt32 >>> ((1 : Int32) &&& 31).toUInt32).toInt32) &&& (3 : Int32))), .val (.int (1 : Int32)), .val (.int mk), .unset, .unset, .unset] [(.ref b89)])) t
              refine XS.astore X89.here hx rfl (hb hby at_91) rfl rfl (l' := #[.val (.int pa), .val (.int pb), .val (.int pc_), .val (.int po), .val (.int fl), .val (.int c0), .val (.int c1), .val (.int (0 : Int32)), .val (.int (((fl.toUInt32 >>> ((1 : Int32) &&& 31).toUInt32).toInt32) &&& (3 : Int32))), .val (.int (1 : Int32)), .val (.int mk), .unset, .val (.ref b89), .unset]) rfl ?_
              refine XS.aload X89.here hx rfl (hb hby at_93) rfl rfl ?_
              refine XS.iconst X89.here hx rfl (hb hby at_95) ?_
              refine XS.iload X89.here hx rfl (hb hby at_96) rfl ?_
              exact k
            obtain ⟨cl90, Ar90, q90, S90, M90, H90, G90⟩ := id V89
            obtain ⟨T91, h91, X91, e91, W91, st91⟩ := stC X89 hx hZ e89 Ar90 (j := (0 : Int32)) (inb_of S90 ⟨by decide, by decide⟩) (g := (mkF m 98 #[.val (.int pa), .val (.int pb), .val (.int pc_), .val (.int po), .val (.int fl), .val (.int c0), .val (.int c1), .val (.int (0 : Int32)), .val (.int (((fl.toUInt32 >>> ((1 : Int32) &&& 31).toUInt32).toInt32) &&& (3 : Int32))), .val (.int (1 : Int32)), .val (.int mk), .unset, .val (.ref b89), .unset] [(.int c0), (.int (0 : Int32)), (.ref b89)])) rfl rfl (hb hby at_98)
            have N91 := Fr.snoc X91 N38 g_b89
            have K91 : Keep h0 h91 [] := K89.wr W91 (Or.inr hz_b89)
            have Z91 : n0 ≤ h91.size := Nat.le_trans Z89 (Keep.of_wr W91).1
            have O91 := O89.wr W91 g_b89
            have fw91 := (show Arv Z h91 b89 k89 .char (2 : Int32) [(.int c0), (.int (0 : Int32))] (.int (0 : Int32)) by have q : Arv Z h91 b89 k89 .char (2 : Int32) [(.int (c0.toUInt32.toUInt16.toUInt32.toInt32)), (.int (0 : Int32))] (.int (0 : Int32)) := Arv.set Ar90 q90 S90 M90 H90 G90 (fits_nar_char _) W91 0 rfl (Nat.le_of_ble_eq_true rfl); rw [own_u16_id rg0] at q; exact q)
            refine own_st (T' := T91) (g' := (mkF m 99 #[.val (.int pa), .val (.int pb), .val (.int pc_), .val (.int po), .val (.int fl), .val (.int c0), .val (.int c1), .val (.int (0 : Int32)), .val (.int (((fl.toUInt32 >>> ((1 : Int32) &&& 31).toUInt32).toInt32) &&& (3 : Int32))), .val (.int (1 : Int32)), .val (.int mk), .unset, .val (.ref b89), .unset] [])) st91 ?_
            refine own_st (T' := T91) (g' := (mkF m 104 #[.val (.int pa), .val (.int pb), .val (.int pc_), .val (.int po), .val (.int fl), .val (.int c0), .val (.int c1), .val (.int (0 : Int32)), .val (.int (((fl.toUInt32 >>> ((1 : Int32) &&& 31).toUInt32).toInt32) &&& (3 : Int32))), .val (.int (1 : Int32)), .val (.int mk), .unset, .val (.ref b89), .unset] [(.int c1), (.int (1 : Int32)), (.ref b89)])) (fun t k => ?_) ?_
            · show Steps p.tables e below (T91.setTop (mkF m 99 #[.val (.int pa), .val (.int pb), .val (.int pc_), .val (.int po), .val (.int fl), .val (.int c0), .val (.int c1), .val (.int (0 : Int32)), .val (.int (((fl.toUInt32 >>> ((1 : Int32) &&& 31).toUInt32).toInt32) &&& (3 : Int32))), .val (.int (1 : Int32)), .val (.int mk), .unset, .val (.ref b89), .unset] [])) t
              refine XS.aload X91.here hx rfl (hb hby at_99) rfl rfl ?_
              refine XS.iconst X91.here hx rfl (hb hby at_101) ?_
              refine XS.iload X91.here hx rfl (hb hby at_102) rfl ?_
              exact k
            obtain ⟨cl92, Ar92, q92, S92, M92, H92, G92⟩ := id fw91
            obtain ⟨T93, h93, X93, e93, W93, st93⟩ := stC X91 hx hZ e91 Ar92 (j := (1 : Int32)) (inb_of S92 ⟨by decide, by decide⟩) (g := (mkF m 104 #[.val (.int pa), .val (.int pb), .val (.int pc_), .val (.int po), .val (.int fl), .val (.int c0), .val (.int c1), .val (.int (0 : Int32)), .val (.int (((fl.toUInt32 >>> ((1 : Int32) &&& 31).toUInt32).toInt32) &&& (3 : Int32))), .val (.int (1 : Int32)), .val (.int mk), .unset, .val (.ref b89), .unset] [(.int c1), (.int (1 : Int32)), (.ref b89)])) rfl rfl (hb hby at_104)
            have N93 := Fr.snoc X93 N91 g_b89
            have K93 : Keep h0 h93 [] := K91.wr W93 (Or.inr hz_b89)
            have Z93 : n0 ≤ h93.size := Nat.le_trans Z91 (Keep.of_wr W93).1
            have O93 := O91.wr W93 g_b89
            have fw93 := (show Arv Z h93 b89 k89 .char (2 : Int32) [(.int c0), (.int c1)] (.int (0 : Int32)) by have q : Arv Z h93 b89 k89 .char (2 : Int32) [(.int c0), (.int (c1.toUInt32.toUInt16.toUInt32.toInt32))] (.int (0 : Int32)) := Arv.set Ar92 q92 S92 M92 H92 G92 (fits_nar_char _) W93 1 rfl (Nat.le_of_ble_eq_true rfl); rw [own_u16_id rg1] at q; exact q)
            refine own_st (T' := T93) (g' := (mkF m 105 #[.val (.int pa), .val (.int pb), .val (.int pc_), .val (.int po), .val (.int fl), .val (.int c0), .val (.int c1), .val (.int (0 : Int32)), .val (.int (((fl.toUInt32 >>> ((1 : Int32) &&& 31).toUInt32).toInt32) &&& (3 : Int32))), .val (.int (1 : Int32)), .val (.int mk), .unset, .val (.ref b89), .unset] [])) st93 ?_
            obtain ⟨T94, h94, X94, e94, E94, A94, D94, U94, st94⟩ := newO X93 hx hZ hown (hw _ (List.mem_of_getElem? (i := 72) rfl)) (hw _ (List.mem_of_getElem? (i := 11) rfl)) (hw _ (List.mem_of_getElem? (i := 3) rfl)) e93 (g := (mkF m 105 #[.val (.int pa), .val (.int pb), .val (.int pc_), .val (.int po), .val (.int fl), .val (.int c0), .val (.int c1), .val (.int (0 : Int32)), .val (.int (((fl.toUInt32 >>> ((1 : Int32) &&& 31).toUInt32).toInt32) &&& (3 : Int32))), .val (.int (1 : Int32)), .val (.int mk), .unset, .val (.ref b89), .unset] [])) rfl (hb hby at_105) (by decide) (by decide)
            obtain ⟨b94, g94⟩ : ∃ z, z = h93.size := ⟨_, rfl⟩
            rw [← g94] at A94 D94 U94 st94
            have sz94 : h93.size ≤ b94 := Nat.le_of_eq g94.symm
            have ne_b89_b94 : b89 ≠ b94 := Nat.ne_of_lt (Nat.lt_of_lt_of_le fw93.lt sz94)
            have g_b94 : n0 ≤ b94 := Nat.le_trans Z93 sz94
            have hz_b94 : h0.size ≤ b94 := Nat.le_trans K93.1 sz94
            have K94 : Keep h0 h94 [] := K93.ext E94
            have Z94 : n0 ≤ h94.size := Nat.le_trans Z93 E94.1
            have O94 := O93.ext E94
            refine own_st (T' := T94) (g' := (mkF m 108 #[.val (.int pa), .val (.int pb), .val (.int pc_), .val (.int po), .val (.int fl), .val (.int c0), .val (.int c1), .val (.int (0 : Int32)), .val (.int (((fl.toUInt32 >>> ((1 : Int32) &&& 31).toUInt32).toInt32) &&& (3 : Int32))), .val (.int (1 : Int32)), .val (.int mk), .unset, .val (.ref b89), .unset] [(.ref b94)])) st94 ?_
            refine own_st (T' := T94) (g' := (mkF m 111 #[.val (.int pa), .val (.int pb), .val (.int pc_), .val (.int po), .val (.int fl), .val (.int c0), .val (.int c1), .val (.int (0 : Int32)), .val (.int (((fl.toUInt32 >>> ((1 : Int32) &&& 31).toUInt32).toInt32) &&& (3 : Int32))), .val (.int (1 : Int32)), .val (.int mk), .unset, .val (.ref b89), .unset] [(.ref b89), (.ref b94), (.ref b94)])) (fun t k => ?_) ?_
            · show Steps p.tables e below (T94.setTop (mkF m 108 #[.val (.int pa), .val (.int pb), .val (.int pc_), .val (.int po), .val (.int fl), .val (.int c0), .val (.int c1), .val (.int (0 : Int32)), .val (.int (((fl.toUInt32 >>> ((1 : Int32) &&& 31).toUInt32).toInt32) &&& (3 : Int32))), .val (.int (1 : Int32)), .val (.int mk), .unset, .val (.ref b89), .unset] [(.ref b94)])) t
              refine XS.dup X94.here hx rfl (hb hby at_108) rfl rfl ?_
              refine XS.aload X94.here hx rfl (hb hby at_109) rfl rfl ?_
              exact k
            have f95 := fw93.ext E94
            obtain ⟨_, _, ⟨T96, L96, c96, n96⟩, -, X96, ⟨Lc96, hQ96, l96, y96, z96⟩, st96⟩ := X94.specialBack hx (y := (⟨"java/lang/String", "<init>", "([C)V"⟩ : MethodName)) rfl hown (mvT hZ (hw _ (List.mem_of_getElem? (i := 73) rfl))) (mvT hZ (hw _ (List.mem_of_getElem? (i := 74) rfl))) (mvT hZ (hw _ (List.mem_of_getElem? (i := 75) rfl))) (by decide) (backOf (W := 1) (own_rm14c l Z a0 hw [] b94 b89 k89 c0 c1 cs fm h94 n0 Z94 O94 A94 (D94 (Or.inr (hw _ (List.mem_of_getElem? (i := 24) rfl))) (ty := (.array .byte)) (by decide) : Fld Z h94 b94 "java/lang/String" "value" "[B" .null) (D94 (Or.inr (hw _ (List.mem_of_getElem? (i := 26) rfl))) (ty := .byte) (by decide) : Fld Z h94 b94 "java/lang/String" "coder" "B" (.int (0 : Int32))) g_b94 f95 (Ne.symm ne_b89_b94) h0c h1c rg0 rg1 hcs hfm S_cs S_fm S_ad S_hb S_lb) hZ (hw _ (List.mem_of_getElem? (i := 75) rfl)) (hw _ (List.mem_of_getElem? (i := 3) rfl)) (by decide) (by decide)) (g := (mkF m 111 #[.val (.int pa), .val (.int pb), .val (.int pc_), .val (.int po), .val (.int fl), .val (.int c0), .val (.int c1), .val (.int (0 : Int32)), .val (.int (((fl.toUInt32 >>> ((1 : Int32) &&& 31).toUInt32).toInt32) &&& (3 : Int32))), .val (.int (1 : Int32)), .val (.int mk), .unset, .val (.ref b89), .unset] [(.ref b89), (.ref b94), (.ref b94)])) rfl (by rw [hml]; rfl) (Steps.refl _) (a := b94) (argsL := [(.ref b89)]) (rest := [(.ref b94)]) (lenOf own_pd20 rfl) rfl (by show 2 * 0 + _ ≤ _; exact Nat.le_of_eq rfl) (hb hby at_111) (fun _ _ => ⟨rfl, e94, (by decide : 2 + 1 ≤ _), (by decide : 6 + 2 ≤ _)⟩)
            dsimp only [Pt.U, Pt.locs, Pt.cells, Pt.slots] at X96 l96 y96 z96 st96 hQ96
            subst l96 y96 z96
            obtain ⟨h96, e96⟩ : ∃ z, T96.heap = z := ⟨_, rfl⟩
            rw [e96] at hQ96
            obtain ⟨t96, k96, rfl, N96q, Kc96, g96, hz96, Fv96, Fo96, Vc96⟩ := hQ96
            have N96 := Fr.app N93 N96q
            have ne_b89_t96 : b89 ≠ t96 := Nat.ne_of_lt (Nat.lt_of_lt_of_le f95.lt hz96)
            have ne_b94_t96 : b94 ≠ t96 := Nat.ne_of_lt (Nat.lt_of_lt_of_le A94.lt hz96)
            have hwt96 : h0.size ≤ t96 := Nat.le_trans K94.1 hz96
            have K96 : Keep h0 h96 [] := K94.trans Kc96 (allS (Or.inr hz_b94) all0)
            have Z96 : n0 ≤ h96.size := Nat.le_trans Z94 Kc96.1
            have O96 := O94.keep Kc96 (allS g_b94 all0)
            refine own_tr (T' := T96) (g' := (mkF m 114 #[.val (.int pa), .val (.int pb), .val (.int pc_), .val (.int po), .val (.int fl), .val (.int c0), .val (.int c1), .val (.int (0 : Int32)), .val (.int (((fl.toUInt32 >>> ((1 : Int32) &&& 31).toUInt32).toInt32) &&& (3 : Int32))), .val (.int (1 : Int32)), .val (.int mk), .unset, .val (.ref b89), .unset] [(.ref b94)])) st96 ?_
            refine own_st (T' := T96) (g' := (mkF m 126 #[.val (.int pa), .val (.int pb), .val (.int pc_), .val (.int po), .val (.int fl), .val (.int c0), .val (.int c1), .val (.int (0 : Int32)), .val (.int (((fl.toUInt32 >>> ((1 : Int32) &&& 31).toUInt32).toInt32) &&& (3 : Int32))), .val (.int (1 : Int32)), .val (.int mk), .val (.ref b94), .val (.ref b89), .unset] [])) (fun t k => ?_) ?_
            · show Steps p.tables e below (T96.setTop (mkF m 114 #[.val (.int pa), .val (.int pb), .val (.int pc_), .val (.int po), .val (.int fl), .val (.int c0), .val (.int c1), .val (.int (0 : Int32)), .val (.int (((fl.toUInt32 >>> ((1 : Int32) &&& 31).toUInt32).toInt32) &&& (3 : Int32))), .val (.int (1 : Int32)), .val (.int mk), .unset, .val (.ref b89), .unset] [(.ref b94)])) t
              refine XS.astore X96.here hx rfl (hb hby at_114) rfl rfl (l' := #[.val (.int pa), .val (.int pb), .val (.int pc_), .val (.int po), .val (.int fl), .val (.int c0), .val (.int c1), .val (.int (0 : Int32)), .val (.int (((fl.toUInt32 >>> ((1 : Int32) &&& 31).toUInt32).toInt32) &&& (3 : Int32))), .val (.int (1 : Int32)), .val (.int mk), .val (.ref b94), .val (.ref b89), .unset]) rfl ?_
              refine XS.goto X96.here hx rfl (pc0 := 116) (pc' := 126) rfl (hb hby at_116) (by decide) (by decide) ?_
              exact k
            obtain ⟨T97, h97, X97, e97, E97, A97, D97, U97, st97⟩ := newO X96 hx hZ hown (hw _ (List.mem_of_getElem? (i := 27) rfl)) (hw _ (List.mem_of_getElem? (i := 28) rfl)) (hw _ (List.mem_of_getElem? (i := 29) rfl)) e96 (g := (mkF m 126 #[.val (.int pa), .val (.int pb), .val (.int pc_), .val (.int po), .val (.int fl), .val (.int c0), .val (.int c1), .val (.int (0 : Int32)), .val (.int (((fl.toUInt32 >>> ((1 : Int32) &&& 31).toUInt32).toInt32) &&& (3 : Int32))), .val (.int (1 : Int32)), .val (.int mk), .val (.ref b94), .val (.ref b89), .unset] [])) rfl (hb hby at_126) (by decide) (by decide)
            obtain ⟨b97, g97⟩ : ∃ z, z = h96.size := ⟨_, rfl⟩
            rw [← g97] at A97 D97 U97 st97
            have sz97 : h96.size ≤ b97 := Nat.le_of_eq g97.symm
            have f98 := f95.keep Kc96 (ninS ne_b89_b94 nin0)
            have ne_b89_b97 : b89 ≠ b97 := Nat.ne_of_lt (Nat.lt_of_lt_of_le f98.lt sz97)
            have f99 := A94.keep Kc96
            have ne_b94_b97 : b94 ≠ b97 := Nat.ne_of_lt (Nat.lt_of_lt_of_le f99.lt sz97)
            have ne_t96_b97 : t96 ≠ b97 := Nat.ne_of_lt (Nat.lt_of_lt_of_le Vc96.lt sz97)
            have g_b97 : n0 ≤ b97 := Nat.le_trans Z96 sz97
            have hz_b97 : h0.size ≤ b97 := Nat.le_trans K96.1 sz97
            have K97 : Keep h0 h97 [] := K96.ext E97
            have Z97 : n0 ≤ h97.size := Nat.le_trans Z96 E97.1
            have O97 := O96.ext E97
            refine own_st (T' := T97) (g' := (mkF m 129 #[.val (.int pa), .val (.int pb), .val (.int pc_), .val (.int po), .val (.int fl), .val (.int c0), .val (.int c1), .val (.int (0 : Int32)), .val (.int (((fl.toUInt32 >>> ((1 : Int32) &&& 31).toUInt32).toInt32) &&& (3 : Int32))), .val (.int (1 : Int32)), .val (.int mk), .val (.ref b94), .val (.ref b89), .unset] [(.ref b97)])) st97 ?_
            refine own_st (T' := T97) (g' := (mkF m 135 #[.val (.int pa), .val (.int pb), .val (.int pc_), .val (.int po), .val (.int fl), .val (.int c0), .val (.int c1), .val (.int (0 : Int32)), .val (.int (((fl.toUInt32 >>> ((1 : Int32) &&& 31).toUInt32).toInt32) &&& (3 : Int32))), .val (.int (1 : Int32)), .val (.int mk), .val (.ref b94), .val (.ref b89), .unset] [(.int (0 : Int32)), (.int po), (.ref b94), (.ref b97), (.ref b97)])) (fun t k => ?_) ?_
            · show Steps p.tables e below (T97.setTop (mkF m 129 #[.val (.int pa), .val (.int pb), .val (.int pc_), .val (.int po), .val (.int fl), .val (.int c0), .val (.int c1), .val (.int (0 : Int32)), .val (.int (((fl.toUInt32 >>> ((1 : Int32) &&& 31).toUInt32).toInt32) &&& (3 : Int32))), .val (.int (1 : Int32)), .val (.int mk), .val (.ref b94), .val (.ref b89), .unset] [(.ref b97)])) t
              refine XS.dup X97.here hx rfl (hb hby at_129) rfl rfl ?_
              refine XS.aload X97.here hx rfl (hb hby at_130) rfl rfl ?_
              refine XS.iloadN X97.here hx rfl (hb hby at_132) rfl ?_
              refine XS.iload X97.here hx rfl (hb hby at_133) rfl ?_
              exact k
            obtain ⟨_, _, ⟨T100, L100, c100, n100⟩, -, X100, ⟨Lc100, hQ100, l100, y100, z100⟩, st100⟩ := X97.specialBack hx (y := (⟨"com/example/vested_roles/vestedroles/Tokens$Token", "<init>", "(Ljava/lang/String;IZ)V"⟩ : MethodName)) rfl hown (mvT hZ (hw _ (List.mem_of_getElem? (i := 30) rfl))) (mvT hZ (hw _ (List.mem_of_getElem? (i := 31) rfl))) (mvT hZ (hw _ (List.mem_of_getElem? (i := 32) rfl))) (by decide) (backOf (W := 1) (own_rm6_0 l Z a0 hw [] b97 b94 po cs fm h97 n0 Z97 O97 A97 (D97 (Or.inr (hw _ (List.mem_of_getElem? (i := 40) rfl))) (ty := (.object "java/lang/String")) (by decide) : Fld Z h97 b97 "com/example/vested_roles/vestedroles/Tokens$Token" "text" "Ljava/lang/String;" .null) (D97 (Or.inr (hw _ (List.mem_of_getElem? (i := 42) rfl))) (ty := .int) (by decide) : Fld Z h97 b97 "com/example/vested_roles/vestedroles/Tokens$Token" "position" "I" (.int (0 : Int32))) (D97 (Or.inr (hw _ (List.mem_of_getElem? (i := 44) rfl))) (ty := .boolean) (by decide) : Fld Z h97 b97 "com/example/vested_roles/vestedroles/Tokens$Token" "isName" "Z" (.int (0 : Int32))) g_b97 hcs hfm S_cs S_fm S_ad S_hb S_lb) hZ (hw _ (List.mem_of_getElem? (i := 32) rfl)) (hw _ (List.mem_of_getElem? (i := 29) rfl)) (by decide) (by decide)) (g := (mkF m 135 #[.val (.int pa), .val (.int pb), .val (.int pc_), .val (.int po), .val (.int fl), .val (.int c0), .val (.int c1), .val (.int (0 : Int32)), .val (.int (((fl.toUInt32 >>> ((1 : Int32) &&& 31).toUInt32).toInt32) &&& (3 : Int32))), .val (.int (1 : Int32)), .val (.int mk), .val (.ref b94), .val (.ref b89), .unset] [(.int (0 : Int32)), (.int po), (.ref b94), (.ref b97), (.ref b97)])) rfl (by rw [hml]; rfl) (Steps.refl _) (a := b97) (argsL := [(.ref b94), (.int po), (.int (0 : Int32))]) (rest := [(.ref b97)]) (lenOf own_pd19 rfl) rfl (by show 2 * 0 + _ ≤ _; exact Nat.le_of_eq rfl) (hb hby at_135) (fun _ _ => ⟨rfl, e97, (by decide : 4 + 0 ≤ _), (by decide : 11 + 0 ≤ _)⟩)
            dsimp only [Pt.U, Pt.locs, Pt.cells, Pt.slots] at X100 l100 y100 z100 st100 hQ100
            subst l100 y100 z100
            obtain ⟨h100, e100⟩ : ∃ z, T100.heap = z := ⟨_, rfl⟩
            rw [e100] at hQ100
            obtain ⟨rfl, N100q, Kc100, Fx100, Fn100⟩ := hQ100
            have N100 := Fr.app N96 N100q
            have K100 : Keep h0 h100 [] := K97.trans Kc100 (allS (Or.inr hz_b97) all0)
            have Z100 : n0 ≤ h100.size := Nat.le_trans Z97 Kc100.1
            have O100 := O97.keep Kc100 (allS g_b97 all0)
            refine own_tr (T' := T100) (g' := (mkF m 138 #[.val (.int pa), .val (.int pb), .val (.int pc_), .val (.int po), .val (.int fl), .val (.int c0), .val (.int c1), .val (.int (0 : Int32)), .val (.int (((fl.toUInt32 >>> ((1 : Int32) &&& 31).toUInt32).toInt32) &&& (3 : Int32))), .val (.int (1 : Int32)), .val (.int mk), .val (.ref b94), .val (.ref b89), .unset] [(.ref b97)])) st100 ?_
            refine own_st (T' := T100) (g' := (mkF m 155 #[.val (.int pa), .val (.int pb), .val (.int pc_), .val (.int po), .val (.int fl), .val (.int c0), .val (.int c1), .val (.int (0 : Int32)), .val (.int (((fl.toUInt32 >>> ((1 : Int32) &&& 31).toUInt32).toInt32) &&& (3 : Int32))), .val (.int (1 : Int32)), .val (.int mk), .val (.ref b94), .val (.ref b97), .unset] [(.int mk), (.int c0)])) (fun t k => ?_) ?_
            · show Steps p.tables e below (T100.setTop (mkF m 138 #[.val (.int pa), .val (.int pb), .val (.int pc_), .val (.int po), .val (.int fl), .val (.int c0), .val (.int c1), .val (.int (0 : Int32)), .val (.int (((fl.toUInt32 >>> ((1 : Int32) &&& 31).toUInt32).toInt32) &&& (3 : Int32))), .val (.int (1 : Int32)), .val (.int mk), .val (.ref b94), .val (.ref b89), .unset] [(.ref b97)])) t
              refine XS.astore X100.here hx rfl (hb hby at_138) rfl rfl (l' := #[.val (.int pa), .val (.int pb), .val (.int pc_), .val (.int po), .val (.int fl), .val (.int c0), .val (.int c1), .val (.int (0 : Int32)), .val (.int (((fl.toUInt32 >>> ((1 : Int32) &&& 31).toUInt32).toInt32) &&& (3 : Int32))), .val (.int (1 : Int32)), .val (.int mk), .val (.ref b94), .val (.ref b97), .unset]) rfl ?_
              refine XS.iload X100.here hx rfl (hb hby at_140) rfl ?_
              refine XS.ifYes X100.here hx rfl (pc0 := 142) (pc' := 151) rfl (hb hby at_142) rfl ((if0 _ _).trans (teq (rfl : (0 : Int32) = (0 : Int32))).1) (by decide) (by decide) ?_
              refine XS.iload X100.here hx rfl (hb hby at_151) rfl ?_
              refine XS.iload X100.here hx rfl (hb hby at_153) rfl ?_
              exact k
            by_cases hc101 : c0 = mk
            · refine own_st (T' := T100) (g' := (mkF m 169 #[.val (.int pa), .val (.int pb), .val (.int pc_), .val (.int po), .val (.int fl), .val (.int c0), .val (.int c1), .val (.int (0 : Int32)), .val (.int (((fl.toUInt32 >>> ((1 : Int32) &&& 31).toUInt32).toInt32) &&& (3 : Int32))), .val (.int (1 : Int32)), .val (.int mk), .val (.ref b94), .val (.ref b97), .val (.int (1 : Int32))] [(.int mk), (.ref b97)])) (fun t k => ?_) ?_
              · show Steps p.tables e below (T100.setTop (mkF m 155 #[.val (.int pa), .val (.int pb), .val (.int pc_), .val (.int po), .val (.int fl), .val (.int c0), .val (.int c1), .val (.int (0 : Int32)), .val (.int (((fl.toUInt32 >>> ((1 : Int32) &&& 31).toUInt32).toInt32) &&& (3 : Int32))), .val (.int (1 : Int32)), .val (.int mk), .val (.ref b94), .val (.ref b97), .unset] [(.int mk), (.int c0)])) t
                refine XS.icmpNo X100.here hx rfl (hb hby at_155) rfl (teq hc101).2 ?_
                refine XS.iconst X100.here hx rfl (hb hby at_158) ?_
                refine XS.goto X100.here hx rfl (pc0 := 159) (pc' := 163) rfl (hb hby at_159) (by decide) (by decide) ?_
                refine XS.istore X100.here hx rfl (hb hby at_163) rfl (l' := #[.val (.int pa), .val (.int pb), .val (.int pc_), .val (.int po), .val (.int fl), .val (.int c0), .val (.int c1), .val (.int (0 : Int32)), .val (.int (((fl.toUInt32 >>> ((1 : Int32) &&& 31).toUInt32).toInt32) &&& (3 : Int32))), .val (.int (1 : Int32)), .val (.int mk), .val (.ref b94), .val (.ref b97), .val (.int (1 : Int32))]) rfl ?_
                refine XS.aload X100.here hx rfl (hb hby at_165) rfl rfl ?_
                refine XS.iload X100.here hx rfl (hb hby at_167) rfl ?_
                exact k
              have f102 := (f99.ext E97).keep Kc100
              have f103 := (Fv96.ext E97).keep Kc100 (ninS ne_b94_b97 nin0)
              have f104 := (Fo96.ext E97).keep Kc100 (ninS ne_b94_b97 nin0)
              have f105 := (Vc96.ext E97).keep Kc100 (ninS ne_t96_b97 nin0)
              have f107 := A97.keep Kc100
              obtain ⟨cq106, kq106, q106a, q106b, q106c⟩ := isOf hZ e100 f107
              obtain ⟨_, _, ⟨T106, L106, c106, n106⟩, -, X106, ⟨Lc106, hQ106, l106, y106, z106⟩, st106⟩ := X100.virtualBack hx (y := (⟨"com/example/vested_roles/vestedroles/Tokens$Token", "is", "(C)Z"⟩ : MethodName)) (z := (⟨"com/example/vested_roles/vestedroles/Tokens$Token", "is", "(C)Z"⟩ : MethodName)) hown (mvT hZ (hw _ (List.mem_of_getElem? (i := 45) rfl))) (mvT hZ (hw _ (List.mem_of_getElem? (i := 46) rfl))) (notFace_of_selects (args := #[]) (mvT hZ (hw _ (List.mem_of_getElem? (i := 48) rfl)))) (mvT hZ (hw _ (List.mem_of_getElem? (i := 48) rfl))) (mvT hZ (hw _ (List.mem_of_getElem? (i := 47) rfl))) (by decide) (backOf (W := 0) (own_rm8_0_2 l Z a0 hw [] b97 b94 t96 k96 (c0.toInt8.toInt32) (c1.toInt8.toInt32) mk cs fm h100 n0 Z100 O100 Fn100 Fx100 f102 f103 f104 f105 hcs hfm S_cs S_fm S_ad S_hb S_lb) hZ (hw _ (List.mem_of_getElem? (i := 49) rfl)) (hw _ (List.mem_of_getElem? (i := 29) rfl)) (by decide) (by decide)) q106a q106c (g := (mkF m 169 #[.val (.int pa), .val (.int pb), .val (.int pc_), .val (.int po), .val (.int fl), .val (.int c0), .val (.int c1), .val (.int (0 : Int32)), .val (.int (((fl.toUInt32 >>> ((1 : Int32) &&& 31).toUInt32).toInt32) &&& (3 : Int32))), .val (.int (1 : Int32)), .val (.int mk), .val (.ref b94), .val (.ref b97), .val (.int (1 : Int32))] [(.int mk), (.ref b97)])) rfl (by rw [hml]; rfl) (Steps.refl _) (argsL := [(.int mk)]) (rest := []) (lenOf own_pd13 rfl) rfl (by show 2 * 0 + _ ≤ _; exact Nat.le_of_eq rfl) (hb hby at_169) (fun _ _ => ⟨rfl, e100, (by decide : 4 + 0 ≤ _), (by decide : 11 + 0 ≤ _)⟩)
              dsimp only [Pt.U, Pt.locs, Pt.cells, Pt.slots] at X106 l106 y106 z106 st106 hQ106
              subst l106 y106 z106
              obtain ⟨rfl, N106q, e106⟩ := hQ106
              have N106 := Fr.app N100 N106q
              refine own_tr (T' := T106) (g' := (mkF m 172 #[.val (.int pa), .val (.int pb), .val (.int pc_), .val (.int po), .val (.int fl), .val (.int c0), .val (.int c1), .val (.int (0 : Int32)), .val (.int (((fl.toUInt32 >>> ((1 : Int32) &&& 31).toUInt32).toInt32) &&& (3 : Int32))), .val (.int (1 : Int32)), .val (.int mk), .val (.ref b94), .val (.ref b97), .val (.int (1 : Int32))] [(.int (own_eqi (own_lc (c0.toInt8.toInt32)) mk))])) st106 ?_
              have hG : (own_eqi (own_lc (c0.toInt8.toInt32)) mk) = (1 : Int32) := by rw [(own_lc_c rg0 h0c)]; simp only [own_eqi, hc101, if_true, if_false]
              refine own_st (T' := T106) (g' := (mkF m 182 #[.val (.int pa), .val (.int pb), .val (.int pc_), .val (.int po), .val (.int fl), .val (.int c0), .val (.int c1), .val (.int (0 : Int32)), .val (.int (((fl.toUInt32 >>> ((1 : Int32) &&& 31).toUInt32).toInt32) &&& (3 : Int32))), .val (.int (1 : Int32)), .val (.int mk), .val (.ref b94), .val (.ref b97), .val (.int (1 : Int32))] [(.int (1 : Int32))])) (fun t k => ?_) ?_
              · show Steps p.tables e below (T106.setTop (mkF m 172 #[.val (.int pa), .val (.int pb), .val (.int pc_), .val (.int po), .val (.int fl), .val (.int c0), .val (.int c1), .val (.int (0 : Int32)), .val (.int (((fl.toUInt32 >>> ((1 : Int32) &&& 31).toUInt32).toInt32) &&& (3 : Int32))), .val (.int (1 : Int32)), .val (.int mk), .val (.ref b94), .val (.ref b97), .val (.int (1 : Int32))] [(.int (own_eqi (own_lc (c0.toInt8.toInt32)) mk))])) t
                refine XS.iload X106.here hx rfl (hb hby at_172) rfl ?_
                refine XS.icmpNo X106.here hx rfl (hb hby at_174) rfl (teq hG).2 ?_
                refine XS.iconst X106.here hx rfl (hb hby at_177) ?_
                refine XS.goto X106.here hx rfl (pc0 := 178) (pc' := 182) rfl (hb hby at_178) (by decide) (by decide) ?_
                exact k
              exact own_retN X106 hx Bd (t := .boolean) (by simp) rfl (hb hby at_182) e106 (⟨rfl, N106⟩) (by decide) (by decide)
            · refine own_st (T' := T100) (g' := (mkF m 169 #[.val (.int pa), .val (.int pb), .val (.int pc_), .val (.int po), .val (.int fl), .val (.int c0), .val (.int c1), .val (.int (0 : Int32)), .val (.int (((fl.toUInt32 >>> ((1 : Int32) &&& 31).toUInt32).toInt32) &&& (3 : Int32))), .val (.int (1 : Int32)), .val (.int mk), .val (.ref b94), .val (.ref b97), .val (.int (0 : Int32))] [(.int mk), (.ref b97)])) (fun t k => ?_) ?_
              · show Steps p.tables e below (T100.setTop (mkF m 155 #[.val (.int pa), .val (.int pb), .val (.int pc_), .val (.int po), .val (.int fl), .val (.int c0), .val (.int c1), .val (.int (0 : Int32)), .val (.int (((fl.toUInt32 >>> ((1 : Int32) &&& 31).toUInt32).toInt32) &&& (3 : Int32))), .val (.int (1 : Int32)), .val (.int mk), .val (.ref b94), .val (.ref b97), .unset] [(.int mk), (.int c0)])) t
                refine XS.icmpYes X100.here hx rfl (pc0 := 155) (pc' := 162) rfl (hb hby at_155) rfl (feq hc101).2 (by decide) (by decide) ?_
                refine XS.iconst X100.here hx rfl (hb hby at_162) ?_
                refine XS.istore X100.here hx rfl (hb hby at_163) rfl (l' := #[.val (.int pa), .val (.int pb), .val (.int pc_), .val (.int po), .val (.int fl), .val (.int c0), .val (.int c1), .val (.int (0 : Int32)), .val (.int (((fl.toUInt32 >>> ((1 : Int32) &&& 31).toUInt32).toInt32) &&& (3 : Int32))), .val (.int (1 : Int32)), .val (.int mk), .val (.ref b94), .val (.ref b97), .val (.int (0 : Int32))]) rfl ?_
                refine XS.aload X100.here hx rfl (hb hby at_165) rfl rfl ?_
                refine XS.iload X100.here hx rfl (hb hby at_167) rfl ?_
                exact k
              have f108 := (f99.ext E97).keep Kc100
              have f109 := (Fv96.ext E97).keep Kc100 (ninS ne_b94_b97 nin0)
              have f110 := (Fo96.ext E97).keep Kc100 (ninS ne_b94_b97 nin0)
              have f111 := (Vc96.ext E97).keep Kc100 (ninS ne_t96_b97 nin0)
              have f113 := A97.keep Kc100
              obtain ⟨cq112, kq112, q112a, q112b, q112c⟩ := isOf hZ e100 f113
              obtain ⟨_, _, ⟨T112, L112, c112, n112⟩, -, X112, ⟨Lc112, hQ112, l112, y112, z112⟩, st112⟩ := X100.virtualBack hx (y := (⟨"com/example/vested_roles/vestedroles/Tokens$Token", "is", "(C)Z"⟩ : MethodName)) (z := (⟨"com/example/vested_roles/vestedroles/Tokens$Token", "is", "(C)Z"⟩ : MethodName)) hown (mvT hZ (hw _ (List.mem_of_getElem? (i := 45) rfl))) (mvT hZ (hw _ (List.mem_of_getElem? (i := 46) rfl))) (notFace_of_selects (args := #[]) (mvT hZ (hw _ (List.mem_of_getElem? (i := 48) rfl)))) (mvT hZ (hw _ (List.mem_of_getElem? (i := 48) rfl))) (mvT hZ (hw _ (List.mem_of_getElem? (i := 47) rfl))) (by decide) (backOf (W := 0) (own_rm8_0_2 l Z a0 hw [] b97 b94 t96 k96 (c0.toInt8.toInt32) (c1.toInt8.toInt32) mk cs fm h100 n0 Z100 O100 Fn100 Fx100 f108 f109 f110 f111 hcs hfm S_cs S_fm S_ad S_hb S_lb) hZ (hw _ (List.mem_of_getElem? (i := 49) rfl)) (hw _ (List.mem_of_getElem? (i := 29) rfl)) (by decide) (by decide)) q112a q112c (g := (mkF m 169 #[.val (.int pa), .val (.int pb), .val (.int pc_), .val (.int po), .val (.int fl), .val (.int c0), .val (.int c1), .val (.int (0 : Int32)), .val (.int (((fl.toUInt32 >>> ((1 : Int32) &&& 31).toUInt32).toInt32) &&& (3 : Int32))), .val (.int (1 : Int32)), .val (.int mk), .val (.ref b94), .val (.ref b97), .val (.int (0 : Int32))] [(.int mk), (.ref b97)])) rfl (by rw [hml]; rfl) (Steps.refl _) (argsL := [(.int mk)]) (rest := []) (lenOf own_pd13 rfl) rfl (by show 2 * 0 + _ ≤ _; exact Nat.le_of_eq rfl) (hb hby at_169) (fun _ _ => ⟨rfl, e100, (by decide : 4 + 0 ≤ _), (by decide : 11 + 0 ≤ _)⟩)
              dsimp only [Pt.U, Pt.locs, Pt.cells, Pt.slots] at X112 l112 y112 z112 st112 hQ112
              subst l112 y112 z112
              obtain ⟨rfl, N112q, e112⟩ := hQ112
              have N112 := Fr.app N100 N112q
              refine own_tr (T' := T112) (g' := (mkF m 172 #[.val (.int pa), .val (.int pb), .val (.int pc_), .val (.int po), .val (.int fl), .val (.int c0), .val (.int c1), .val (.int (0 : Int32)), .val (.int (((fl.toUInt32 >>> ((1 : Int32) &&& 31).toUInt32).toInt32) &&& (3 : Int32))), .val (.int (1 : Int32)), .val (.int mk), .val (.ref b94), .val (.ref b97), .val (.int (0 : Int32))] [(.int (own_eqi (own_lc (c0.toInt8.toInt32)) mk))])) st112 ?_
              have hG : (own_eqi (own_lc (c0.toInt8.toInt32)) mk) = (0 : Int32) := by rw [(own_lc_c rg0 h0c)]; simp only [own_eqi, hc101, if_true, if_false]
              refine own_st (T' := T112) (g' := (mkF m 182 #[.val (.int pa), .val (.int pb), .val (.int pc_), .val (.int po), .val (.int fl), .val (.int c0), .val (.int c1), .val (.int (0 : Int32)), .val (.int (((fl.toUInt32 >>> ((1 : Int32) &&& 31).toUInt32).toInt32) &&& (3 : Int32))), .val (.int (1 : Int32)), .val (.int mk), .val (.ref b94), .val (.ref b97), .val (.int (0 : Int32))] [(.int (1 : Int32))])) (fun t k => ?_) ?_
              · show Steps p.tables e below (T112.setTop (mkF m 172 #[.val (.int pa), .val (.int pb), .val (.int pc_), .val (.int po), .val (.int fl), .val (.int c0), .val (.int c1), .val (.int (0 : Int32)), .val (.int (((fl.toUInt32 >>> ((1 : Int32) &&& 31).toUInt32).toInt32) &&& (3 : Int32))), .val (.int (1 : Int32)), .val (.int mk), .val (.ref b94), .val (.ref b97), .val (.int (0 : Int32))] [(.int (own_eqi (own_lc (c0.toInt8.toInt32)) mk))])) t
                refine XS.iload X112.here hx rfl (hb hby at_172) rfl ?_
                refine XS.icmpNo X112.here hx rfl (hb hby at_174) rfl (teq hG).2 ?_
                refine XS.iconst X112.here hx rfl (hb hby at_177) ?_
                refine XS.goto X112.here hx rfl (pc0 := 178) (pc' := 182) rfl (hb hby at_178) (by decide) (by decide) ?_
                exact k
              exact own_retN X112 hx Bd (t := .boolean) (by simp) rfl (hb hby at_182) e112 (⟨rfl, N112⟩) (by decide) (by decide)
      by_cases hc114 : (((fl.toUInt32 >>> ((1 : Int32) &&& 31).toUInt32).toInt32) &&& (3 : Int32)) = (0 : Int32)
      · refine own_st (T' := s₁) (g' := (mkF m 83 #[.val (.int pa), .val (.int pb), .val (.int pc_), .val (.int po), .val (.int fl), .val (.int c0), .val (.int c1), .val (.int (0 : Int32)), .val (.int (((fl.toUInt32 >>> ((1 : Int32) &&& 31).toUInt32).toInt32) &&& (3 : Int32))), .val (.int (1 : Int32)), .val (.int c0), .unset, .unset, .unset] [])) (fun t k => ?_) ?_
        · show Steps p.tables e below (s₁.setTop (mkF m 53 #[.val (.int pa), .val (.int pb), .val (.int pc_), .val (.int po), .val (.int fl), .val (.int c0), .val (.int c1), .val (.int (0 : Int32)), .val (.int (((fl.toUInt32 >>> ((1 : Int32) &&& 31).toUInt32).toInt32) &&& (3 : Int32))), .val (.int (1 : Int32)), .unset, .unset, .unset, .unset] [(.int (((fl.toUInt32 >>> ((1 : Int32) &&& 31).toUInt32).toInt32) &&& (3 : Int32)))])) t
          refine XS.ifNo X0.here hx rfl (hb hby at_53) rfl ((if0 _ _).trans (teq hc114).2) ?_
          refine XS.iload X0.here hx rfl (hb hby at_56) rfl ?_
          refine XS.istore X0.here hx rfl (hb hby at_58) rfl (l' := #[.val (.int pa), .val (.int pb), .val (.int pc_), .val (.int po), .val (.int fl), .val (.int c0), .val (.int c1), .val (.int (0 : Int32)), .val (.int (((fl.toUInt32 >>> ((1 : Int32) &&& 31).toUInt32).toInt32) &&& (3 : Int32))), .val (.int (1 : Int32)), .val (.int c0), .unset, .unset, .unset]) rfl ?_
          refine XS.goto X0.here hx rfl (pc0 := 60) (pc' := 83) rfl (hb hby at_60) (by decide) (by decide) ?_
          exact k
        exact Jm _ s₁ _ X0 N0 e0
      · refine own_st (T' := s₁) (g' := (mkF m 66 #[.val (.int pa), .val (.int pb), .val (.int pc_), .val (.int po), .val (.int fl), .val (.int c0), .val (.int c1), .val (.int (0 : Int32)), .val (.int (((fl.toUInt32 >>> ((1 : Int32) &&& 31).toUInt32).toInt32) &&& (3 : Int32))), .val (.int (1 : Int32)), .unset, .unset, .unset, .unset] [(.int (1 : Int32)), (.int (((fl.toUInt32 >>> ((1 : Int32) &&& 31).toUInt32).toInt32) &&& (3 : Int32)))])) (fun t k => ?_) ?_
        · show Steps p.tables e below (s₁.setTop (mkF m 53 #[.val (.int pa), .val (.int pb), .val (.int pc_), .val (.int po), .val (.int fl), .val (.int c0), .val (.int c1), .val (.int (0 : Int32)), .val (.int (((fl.toUInt32 >>> ((1 : Int32) &&& 31).toUInt32).toInt32) &&& (3 : Int32))), .val (.int (1 : Int32)), .unset, .unset, .unset, .unset] [(.int (((fl.toUInt32 >>> ((1 : Int32) &&& 31).toUInt32).toInt32) &&& (3 : Int32)))])) t
          refine XS.ifYes X0.here hx rfl (pc0 := 53) (pc' := 63) rfl (hb hby at_53) rfl ((if0 _ _).trans (feq hc114).2) (by decide) (by decide) ?_
          refine XS.iload X0.here hx rfl (hb hby at_63) rfl ?_
          refine XS.iconst X0.here hx rfl (hb hby at_65) ?_
          exact k
        by_cases hc115 : (((fl.toUInt32 >>> ((1 : Int32) &&& 31).toUInt32).toInt32) &&& (3 : Int32)) = (1 : Int32)
        · refine own_st (T' := s₁) (g' := (mkF m 83 #[.val (.int pa), .val (.int pb), .val (.int pc_), .val (.int po), .val (.int fl), .val (.int c0), .val (.int c1), .val (.int (0 : Int32)), .val (.int (((fl.toUInt32 >>> ((1 : Int32) &&& 31).toUInt32).toInt32) &&& (3 : Int32))), .val (.int (1 : Int32)), .val (.int c1), .unset, .unset, .unset] [])) (fun t k => ?_) ?_
          · show Steps p.tables e below (s₁.setTop (mkF m 66 #[.val (.int pa), .val (.int pb), .val (.int pc_), .val (.int po), .val (.int fl), .val (.int c0), .val (.int c1), .val (.int (0 : Int32)), .val (.int (((fl.toUInt32 >>> ((1 : Int32) &&& 31).toUInt32).toInt32) &&& (3 : Int32))), .val (.int (1 : Int32)), .unset, .unset, .unset, .unset] [(.int (1 : Int32)), (.int (((fl.toUInt32 >>> ((1 : Int32) &&& 31).toUInt32).toInt32) &&& (3 : Int32)))])) t
            refine XS.icmpNo X0.here hx rfl (hb hby at_66) rfl (teq hc115).2 ?_
            refine XS.iload X0.here hx rfl (hb hby at_69) rfl ?_
            refine XS.istore X0.here hx rfl (hb hby at_71) rfl (l' := #[.val (.int pa), .val (.int pb), .val (.int pc_), .val (.int po), .val (.int fl), .val (.int c0), .val (.int c1), .val (.int (0 : Int32)), .val (.int (((fl.toUInt32 >>> ((1 : Int32) &&& 31).toUInt32).toInt32) &&& (3 : Int32))), .val (.int (1 : Int32)), .val (.int c1), .unset, .unset, .unset]) rfl ?_
            refine XS.goto X0.here hx rfl (pc0 := 73) (pc' := 83) rfl (hb hby at_73) (by decide) (by decide) ?_
            exact k
          exact Jm _ s₁ _ X0 N0 e0
        · refine own_st (T' := s₁) (g' := (mkF m 83 #[.val (.int pa), .val (.int pb), .val (.int pc_), .val (.int po), .val (.int fl), .val (.int c0), .val (.int c1), .val (.int (0 : Int32)), .val (.int (((fl.toUInt32 >>> ((1 : Int32) &&& 31).toUInt32).toInt32) &&& (3 : Int32))), .val (.int (1 : Int32)), .val (.int ((pc_ &&& (65535 : Int32)).toUInt32.toUInt16.toUInt32.toInt32)), .unset, .unset, .unset] [])) (fun t k => ?_) ?_
          · show Steps p.tables e below (s₁.setTop (mkF m 66 #[.val (.int pa), .val (.int pb), .val (.int pc_), .val (.int po), .val (.int fl), .val (.int c0), .val (.int c1), .val (.int (0 : Int32)), .val (.int (((fl.toUInt32 >>> ((1 : Int32) &&& 31).toUInt32).toInt32) &&& (3 : Int32))), .val (.int (1 : Int32)), .unset, .unset, .unset, .unset] [(.int (1 : Int32)), (.int (((fl.toUInt32 >>> ((1 : Int32) &&& 31).toUInt32).toInt32) &&& (3 : Int32)))])) t
            refine XS.icmpYes X0.here hx rfl (pc0 := 66) (pc' := 76) rfl (hb hby at_66) rfl (feq hc115).2 (by decide) (by decide) ?_
            refine XS.iloadN X0.here hx rfl (hb hby at_76) rfl ?_
            refine X0.ldcInt hx hown (mvT hZ (hw _ (List.mem_of_getElem? (i := 0) rfl))) (g := (mkF m 77 #[.val (.int pa), .val (.int pb), .val (.int pc_), .val (.int po), .val (.int fl), .val (.int c0), .val (.int c1), .val (.int (0 : Int32)), .val (.int (((fl.toUInt32 >>> ((1 : Int32) &&& 31).toUInt32).toInt32) &&& (3 : Int32))), .val (.int (1 : Int32)), .unset, .unset, .unset, .unset] [(.int pc_)])) rfl (hb hby at_77) _ ?_
            refine XS.iand X0.here hx rfl (hb hby at_79) rfl ?_
            refine XS.i2c X0.here hx rfl (hb hby at_80) rfl ?_
            refine XS.istore X0.here hx rfl (hb hby at_81) rfl (l' := #[.val (.int pa), .val (.int pb), .val (.int pc_), .val (.int po), .val (.int fl), .val (.int c0), .val (.int c1), .val (.int (0 : Int32)), .val (.int (((fl.toUInt32 >>> ((1 : Int32) &&& 31).toUInt32).toInt32) &&& (3 : Int32))), .val (.int (1 : Int32)), .val (.int ((pc_ &&& (65535 : Int32)).toUInt32.toUInt16.toUInt32.toInt32)), .unset, .unset, .unset]) rfl ?_
            exact k
          exact Jm _ s₁ _ X0 N0 e0
  · refine own_st (T' := s₁) (g' := (mkF m 41 #[.val (.int pa), .val (.int pb), .val (.int pc_), .val (.int po), .val (.int fl), .val (.int c0), .val (.int c1), .val (.int (1 : Int32)), .val (.int (((fl.toUInt32 >>> ((1 : Int32) &&& 31).toUInt32).toInt32) &&& (3 : Int32))), .unset, .unset, .unset, .unset, .unset] [(.int (fl &&& (8 : Int32)))])) (fun t k => ?_) ?_
    · show Steps p.tables e below (s₁.setTop (mkF m 18 #[.val (.int pa), .val (.int pb), .val (.int pc_), .val (.int po), .val (.int fl), .val (.int c0), .val (.int c1), .unset, .unset, .unset, .unset, .unset, .unset, .unset] [(.int (fl &&& (1 : Int32)))])) t
      refine XS.ifNo X0.here hx rfl (hb hby at_18) rfl ((if0 _ _).trans (feq hc1).1) ?_
      refine XS.iconst X0.here hx rfl (hb hby at_21) ?_
      refine XS.goto X0.here hx rfl (pc0 := 22) (pc' := 26) rfl (hb hby at_22) (by decide) (by decide) ?_
      refine XS.istore X0.here hx rfl (hb hby at_26) rfl (l' := #[.val (.int pa), .val (.int pb), .val (.int pc_), .val (.int po), .val (.int fl), .val (.int c0), .val (.int c1), .val (.int (1 : Int32)), .unset, .unset, .unset, .unset, .unset, .unset]) rfl ?_
      refine XS.iload X0.here hx rfl (hb hby at_28) rfl ?_
      refine XS.iconst X0.here hx rfl (hb hby at_30) ?_
      refine XS.iushr X0.here hx rfl (hb hby at_31) rfl ?_
      refine XS.iconst X0.here hx rfl (hb hby at_32) ?_
      refine XS.iand X0.here hx rfl (hb hby at_33) rfl ?_
      refine XS.istore X0.here hx rfl (hb hby at_34) rfl (l' := #[.val (.int pa), .val (.int pb), .val (.int pc_), .val (.int po), .val (.int fl), .val (.int c0), .val (.int c1), .val (.int (1 : Int32)), .val (.int (((fl.toUInt32 >>> ((1 : Int32) &&& 31).toUInt32).toInt32) &&& (3 : Int32))), .unset, .unset, .unset, .unset, .unset]) rfl ?_
      refine XS.iload X0.here hx rfl (hb hby at_36) rfl ?_
      refine XS.bipush X0.here hx rfl (hb hby at_38) ?_
      refine XS.iand X0.here hx rfl (hb hby at_40) rfl ?_
      exact k
    by_cases hc116 : (fl &&& (8 : Int32)) = (0 : Int32)
    · refine own_st (T' := s₁) (g' := (mkF m 53 #[.val (.int pa), .val (.int pb), .val (.int pc_), .val (.int po), .val (.int fl), .val (.int c0), .val (.int c1), .val (.int (1 : Int32)), .val (.int (((fl.toUInt32 >>> ((1 : Int32) &&& 31).toUInt32).toInt32) &&& (3 : Int32))), .val (.int (0 : Int32)), .unset, .unset, .unset, .unset] [(.int (((fl.toUInt32 >>> ((1 : Int32) &&& 31).toUInt32).toInt32) &&& (3 : Int32)))])) (fun t k => ?_) ?_
      · show Steps p.tables e below (s₁.setTop (mkF m 41 #[.val (.int pa), .val (.int pb), .val (.int pc_), .val (.int po), .val (.int fl), .val (.int c0), .val (.int c1), .val (.int (1 : Int32)), .val (.int (((fl.toUInt32 >>> ((1 : Int32) &&& 31).toUInt32).toInt32) &&& (3 : Int32))), .unset, .unset, .unset, .unset, .unset] [(.int (fl &&& (8 : Int32)))])) t
        refine XS.ifYes X0.here hx rfl (pc0 := 41) (pc' := 48) rfl (hb hby at_41) rfl ((if0 _ _).trans (teq hc116).1) (by decide) (by decide) ?_
        refine XS.iconst X0.here hx rfl (hb hby at_48) ?_
        refine XS.istore X0.here hx rfl (hb hby at_49) rfl (l' := #[.val (.int pa), .val (.int pb), .val (.int pc_), .val (.int po), .val (.int fl), .val (.int c0), .val (.int c1), .val (.int (1 : Int32)), .val (.int (((fl.toUInt32 >>> ((1 : Int32) &&& 31).toUInt32).toInt32) &&& (3 : Int32))), .val (.int (0 : Int32)), .unset, .unset, .unset, .unset]) rfl ?_
        refine XS.iload X0.here hx rfl (hb hby at_51) rfl ?_
        exact k
      have Jm : ∀ (mk : Int32) (T : State) (locs : List Loc), Stand p l e room_1 s m #[(.int pa), (.int pb), (.int pc_), (.int po), (.int fl)] below meth c T locs 0 0 → Fr n0 locs → T.heap = h0 → own_Go p e below (own_K s (own_Q0 Z pa pb pc_ po fl  cs  fm  h0 n0) room_1.cells room_1.slots) T (mkF m 83 #[.val (.int pa), .val (.int pb), .val (.int pc_), .val (.int po), .val (.int fl), .val (.int c0), .val (.int c1), .val (.int (1 : Int32)), .val (.int (((fl.toUInt32 >>> ((1 : Int32) &&& 31).toUInt32).toInt32) &&& (3 : Int32))), .val (.int (0 : Int32)), .val (.int mk), .unset, .unset, .unset] []) := by
        intro mk T117 locs117 X117 N117 e117
        by_cases h0c : (255 : Int32) < c0
        · refine own_st (T' := T117) (g' := (mkF m 121 #[.val (.int pa), .val (.int pb), .val (.int pc_), .val (.int po), .val (.int fl), .val (.int c0), .val (.int c1), .val (.int (1 : Int32)), .val (.int (((fl.toUInt32 >>> ((1 : Int32) &&& 31).toUInt32).toInt32) &&& (3 : Int32))), .val (.int (0 : Int32)), .val (.int mk), .unset, .unset, .unset] [(.int c0)])) (fun t k => ?_) ?_
          · show Steps p.tables e below (T117.setTop (mkF m 83 #[.val (.int pa), .val (.int pb), .val (.int pc_), .val (.int po), .val (.int fl), .val (.int c0), .val (.int c1), .val (.int (1 : Int32)), .val (.int (((fl.toUInt32 >>> ((1 : Int32) &&& 31).toUInt32).toInt32) &&& (3 : Int32))), .val (.int (0 : Int32)), .val (.int mk), .unset, .unset, .unset] [])) t
            refine XS.iload X117.here hx rfl (hb hby at_83) rfl ?_
            refine XS.ifYes X117.here hx rfl (pc0 := 85) (pc' := 119) rfl (hb hby at_85) rfl ((if0 _ _).trans (teq (rfl : (0 : Int32) = (0 : Int32))).1) (by decide) (by decide) ?_
            refine XS.iload X117.here hx rfl (hb hby at_119) rfl ?_
            exact k
          obtain ⟨_, _, ⟨T118, L118, c118, n118⟩, -, X118, ⟨Lc118, hQ118, l118, y118, z118⟩, st118⟩ := Jvm.LawKit.callS X117 hx (y := (⟨"java/lang/String", "valueOf", "(C)Ljava/lang/String;"⟩ : MethodName)) hown (mvT hZ (hw _ (List.mem_of_getElem? (i := 1) rfl))) (mvT hZ (hw _ (List.mem_of_getElem? (i := 2) rfl))) (mvT hZ (hw _ (List.mem_of_getElem? (i := 3) rfl))) (mvT hZ (hw _ (List.mem_of_getElem? (i := 4) rfl))) (by decide) (backOf (W := 0) (own_rm1_1 l Z a0 hw [] c0 cs fm h0 n0 Z0 O0 h0c hcs hfm S_cs S_fm S_ad S_hb S_lb) hZ (hw _ (List.mem_of_getElem? (i := 4) rfl)) (hw _ (List.mem_of_getElem? (i := 3) rfl)) (by decide) (by decide)) (g := (mkF m 121 #[.val (.int pa), .val (.int pb), .val (.int pc_), .val (.int po), .val (.int fl), .val (.int c0), .val (.int c1), .val (.int (1 : Int32)), .val (.int (((fl.toUInt32 >>> ((1 : Int32) &&& 31).toUInt32).toInt32) &&& (3 : Int32))), .val (.int (0 : Int32)), .val (.int mk), .unset, .unset, .unset] [(.int c0)])) rfl (by rw [hml]; rfl) (argsL := [(.int c0)]) (rest := []) (lenOf own_pd18 rfl) rfl (by show 2 * 0 + _ ≤ _; exact Nat.le_of_eq rfl) (hb hby at_121) (fun _ _ => ⟨rfl, e117, (by decide : 0 + 2 ≤ _), (by decide : 0 + 6 ≤ _)⟩)
          dsimp only [Pt.U, Pt.locs, Pt.cells, Pt.slots] at X118 l118 y118 z118 st118 hQ118
          subst l118 y118 z118
          obtain ⟨h118, e118⟩ : ∃ z, T118.heap = z := ⟨_, rfl⟩
          rw [e118] at hQ118
          obtain ⟨r118, t118, k118, rfl, N118q, Kc118, g118, hz118, Ec118, Fv118, Fo118, Vc118⟩ := hQ118
          have N118 := Fr.app N117 N118q
          have hwr118 : h0.size ≤ r118 := Nat.le_trans (Keep.refl h0 []).1 hz118
          have K118 : Keep h0 h118 [] := (Keep.refl h0 []).trans Kc118 all0
          have Z118 : n0 ≤ h118.size := Nat.le_trans Z0 Kc118.1
          have O118 := O0.keep Kc118 all0
          refine own_st (T' := T118) (g' := (mkF m 124 #[.val (.int pa), .val (.int pb), .val (.int pc_), .val (.int po), .val (.int fl), .val (.int c0), .val (.int c1), .val (.int (1 : Int32)), .val (.int (((fl.toUInt32 >>> ((1 : Int32) &&& 31).toUInt32).toInt32) &&& (3 : Int32))), .val (.int (0 : Int32)), .val (.int mk), .unset, .unset, .unset] [(.ref r118)])) st118 ?_
          refine own_st (T' := T118) (g' := (mkF m 126 #[.val (.int pa), .val (.int pb), .val (.int pc_), .val (.int po), .val (.int fl), .val (.int c0), .val (.int c1), .val (.int (1 : Int32)), .val (.int (((fl.toUInt32 >>> ((1 : Int32) &&& 31).toUInt32).toInt32) &&& (3 : Int32))), .val (.int (0 : Int32)), .val (.int mk), .val (.ref r118), .unset, .unset] [])) (fun t k => ?_) ?_
          · show Steps p.tables e below (T118.setTop (mkF m 124 #[.val (.int pa), .val (.int pb), .val (.int pc_), .val (.int po), .val (.int fl), .val (.int c0), .val (.int c1), .val (.int (1 : Int32)), .val (.int (((fl.toUInt32 >>> ((1 : Int32) &&& 31).toUInt32).toInt32) &&& (3 : Int32))), .val (.int (0 : Int32)), .val (.int mk), .unset, .unset, .unset] [(.ref r118)])) t
            refine XS.astore X118.here hx rfl (hb hby at_124) rfl rfl (l' := #[.val (.int pa), .val (.int pb), .val (.int pc_), .val (.int po), .val (.int fl), .val (.int c0), .val (.int c1), .val (.int (1 : Int32)), .val (.int (((fl.toUInt32 >>> ((1 : Int32) &&& 31).toUInt32).toInt32) &&& (3 : Int32))), .val (.int (0 : Int32)), .val (.int mk), .val (.ref r118), .unset, .unset]) rfl ?_
            exact k
          obtain ⟨T119, h119, X119, e119, E119, A119, D119, U119, st119⟩ := newO X118 hx hZ hown (hw _ (List.mem_of_getElem? (i := 27) rfl)) (hw _ (List.mem_of_getElem? (i := 28) rfl)) (hw _ (List.mem_of_getElem? (i := 29) rfl)) e118 (g := (mkF m 126 #[.val (.int pa), .val (.int pb), .val (.int pc_), .val (.int po), .val (.int fl), .val (.int c0), .val (.int c1), .val (.int (1 : Int32)), .val (.int (((fl.toUInt32 >>> ((1 : Int32) &&& 31).toUInt32).toInt32) &&& (3 : Int32))), .val (.int (0 : Int32)), .val (.int mk), .val (.ref r118), .unset, .unset] [])) rfl (hb hby at_126) (by decide) (by decide)
          obtain ⟨b119, g119⟩ : ∃ z, z = h118.size := ⟨_, rfl⟩
          rw [← g119] at A119 D119 U119 st119
          have sz119 : h118.size ≤ b119 := Nat.le_of_eq g119.symm
          have ne_r118_b119 : r118 ≠ b119 := Nat.ne_of_lt (Nat.lt_of_lt_of_le Ec118.lt sz119)
          have ne_t118_b119 : t118 ≠ b119 := Nat.ne_of_lt (Nat.lt_of_lt_of_le Vc118.lt sz119)
          have g_b119 : n0 ≤ b119 := Nat.le_trans Z118 sz119
          have hz_b119 : h0.size ≤ b119 := Nat.le_trans K118.1 sz119
          have K119 : Keep h0 h119 [] := K118.ext E119
          have Z119 : n0 ≤ h119.size := Nat.le_trans Z118 E119.1
          have O119 := O118.ext E119
          refine own_st (T' := T119) (g' := (mkF m 129 #[.val (.int pa), .val (.int pb), .val (.int pc_), .val (.int po), .val (.int fl), .val (.int c0), .val (.int c1), .val (.int (1 : Int32)), .val (.int (((fl.toUInt32 >>> ((1 : Int32) &&& 31).toUInt32).toInt32) &&& (3 : Int32))), .val (.int (0 : Int32)), .val (.int mk), .val (.ref r118), .unset, .unset] [(.ref b119)])) st119 ?_
          refine own_st (T' := T119) (g' := (mkF m 135 #[.val (.int pa), .val (.int pb), .val (.int pc_), .val (.int po), .val (.int fl), .val (.int c0), .val (.int c1), .val (.int (1 : Int32)), .val (.int (((fl.toUInt32 >>> ((1 : Int32) &&& 31).toUInt32).toInt32) &&& (3 : Int32))), .val (.int (0 : Int32)), .val (.int mk), .val (.ref r118), .unset, .unset] [(.int (1 : Int32)), (.int po), (.ref r118), (.ref b119), (.ref b119)])) (fun t k => ?_) ?_
          · show Steps p.tables e below (T119.setTop (mkF m 129 #[.val (.int pa), .val (.int pb), .val (.int pc_), .val (.int po), .val (.int fl), .val (.int c0), .val (.int c1), .val (.int (1 : Int32)), .val (.int (((fl.toUInt32 >>> ((1 : Int32) &&& 31).toUInt32).toInt32) &&& (3 : Int32))), .val (.int (0 : Int32)), .val (.int mk), .val (.ref r118), .unset, .unset] [(.ref b119)])) t
            refine XS.dup X119.here hx rfl (hb hby at_129) rfl rfl ?_
            refine XS.aload X119.here hx rfl (hb hby at_130) rfl rfl ?_
            refine XS.iloadN X119.here hx rfl (hb hby at_132) rfl ?_
            refine XS.iload X119.here hx rfl (hb hby at_133) rfl ?_
            exact k
          obtain ⟨_, _, ⟨T120, L120, c120, n120⟩, -, X120, ⟨Lc120, hQ120, l120, y120, z120⟩, st120⟩ := X119.specialBack hx (y := (⟨"com/example/vested_roles/vestedroles/Tokens$Token", "<init>", "(Ljava/lang/String;IZ)V"⟩ : MethodName)) rfl hown (mvT hZ (hw _ (List.mem_of_getElem? (i := 30) rfl))) (mvT hZ (hw _ (List.mem_of_getElem? (i := 31) rfl))) (mvT hZ (hw _ (List.mem_of_getElem? (i := 32) rfl))) (by decide) (backOf (W := 1) (own_rm6_1 l Z a0 hw [] b119 r118 po cs fm h119 n0 Z119 O119 A119 (D119 (Or.inr (hw _ (List.mem_of_getElem? (i := 40) rfl))) (ty := (.object "java/lang/String")) (by decide) : Fld Z h119 b119 "com/example/vested_roles/vestedroles/Tokens$Token" "text" "Ljava/lang/String;" .null) (D119 (Or.inr (hw _ (List.mem_of_getElem? (i := 42) rfl))) (ty := .int) (by decide) : Fld Z h119 b119 "com/example/vested_roles/vestedroles/Tokens$Token" "position" "I" (.int (0 : Int32))) (D119 (Or.inr (hw _ (List.mem_of_getElem? (i := 44) rfl))) (ty := .boolean) (by decide) : Fld Z h119 b119 "com/example/vested_roles/vestedroles/Tokens$Token" "isName" "Z" (.int (0 : Int32))) g_b119 hcs hfm S_cs S_fm S_ad S_hb S_lb) hZ (hw _ (List.mem_of_getElem? (i := 32) rfl)) (hw _ (List.mem_of_getElem? (i := 29) rfl)) (by decide) (by decide)) (g := (mkF m 135 #[.val (.int pa), .val (.int pb), .val (.int pc_), .val (.int po), .val (.int fl), .val (.int c0), .val (.int c1), .val (.int (1 : Int32)), .val (.int (((fl.toUInt32 >>> ((1 : Int32) &&& 31).toUInt32).toInt32) &&& (3 : Int32))), .val (.int (0 : Int32)), .val (.int mk), .val (.ref r118), .unset, .unset] [(.int (1 : Int32)), (.int po), (.ref r118), (.ref b119), (.ref b119)])) rfl (by rw [hml]; rfl) (Steps.refl _) (a := b119) (argsL := [(.ref r118), (.int po), (.int (1 : Int32))]) (rest := [(.ref b119)]) (lenOf own_pd19 rfl) rfl (by show 2 * 0 + _ ≤ _; exact Nat.le_of_eq rfl) (hb hby at_135) (fun _ _ => ⟨rfl, e119, (by decide : 3 + 0 ≤ _), (by decide : 9 + 0 ≤ _)⟩)
          dsimp only [Pt.U, Pt.locs, Pt.cells, Pt.slots] at X120 l120 y120 z120 st120 hQ120
          subst l120 y120 z120
          obtain ⟨h120, e120⟩ : ∃ z, T120.heap = z := ⟨_, rfl⟩
          rw [e120] at hQ120
          obtain ⟨rfl, N120q, Kc120, Fx120, Fn120⟩ := hQ120
          have N120 := Fr.app N118 N120q
          have K120 : Keep h0 h120 [] := K119.trans Kc120 (allS (Or.inr hz_b119) all0)
          have Z120 : n0 ≤ h120.size := Nat.le_trans Z119 Kc120.1
          have O120 := O119.keep Kc120 (allS g_b119 all0)
          refine own_tr (T' := T120) (g' := (mkF m 138 #[.val (.int pa), .val (.int pb), .val (.int pc_), .val (.int po), .val (.int fl), .val (.int c0), .val (.int c1), .val (.int (1 : Int32)), .val (.int (((fl.toUInt32 >>> ((1 : Int32) &&& 31).toUInt32).toInt32) &&& (3 : Int32))), .val (.int (0 : Int32)), .val (.int mk), .val (.ref r118), .unset, .unset] [(.ref b119)])) st120 ?_
          refine own_st (T' := T120) (g' := (mkF m 169 #[.val (.int pa), .val (.int pb), .val (.int pc_), .val (.int po), .val (.int fl), .val (.int c0), .val (.int c1), .val (.int (1 : Int32)), .val (.int (((fl.toUInt32 >>> ((1 : Int32) &&& 31).toUInt32).toInt32) &&& (3 : Int32))), .val (.int (0 : Int32)), .val (.int mk), .val (.ref r118), .val (.ref b119), .val (.int (0 : Int32))] [(.int mk), (.ref b119)])) (fun t k => ?_) ?_
          · show Steps p.tables e below (T120.setTop (mkF m 138 #[.val (.int pa), .val (.int pb), .val (.int pc_), .val (.int po), .val (.int fl), .val (.int c0), .val (.int c1), .val (.int (1 : Int32)), .val (.int (((fl.toUInt32 >>> ((1 : Int32) &&& 31).toUInt32).toInt32) &&& (3 : Int32))), .val (.int (0 : Int32)), .val (.int mk), .val (.ref r118), .unset, .unset] [(.ref b119)])) t
            refine XS.astore X120.here hx rfl (hb hby at_138) rfl rfl (l' := #[.val (.int pa), .val (.int pb), .val (.int pc_), .val (.int po), .val (.int fl), .val (.int c0), .val (.int c1), .val (.int (1 : Int32)), .val (.int (((fl.toUInt32 >>> ((1 : Int32) &&& 31).toUInt32).toInt32) &&& (3 : Int32))), .val (.int (0 : Int32)), .val (.int mk), .val (.ref r118), .val (.ref b119), .unset]) rfl ?_
            refine XS.iload X120.here hx rfl (hb hby at_140) rfl ?_
            refine XS.ifNo X120.here hx rfl (hb hby at_142) rfl ((if0 _ _).trans (feq (by decide : ¬ ((1 : Int32) = (0 : Int32)))).1) ?_
            refine XS.iconst X120.here hx rfl (hb hby at_145) ?_
            refine XS.istore X120.here hx rfl (hb hby at_146) rfl (l' := #[.val (.int pa), .val (.int pb), .val (.int pc_), .val (.int po), .val (.int fl), .val (.int c0), .val (.int c1), .val (.int (1 : Int32)), .val (.int (((fl.toUInt32 >>> ((1 : Int32) &&& 31).toUInt32).toInt32) &&& (3 : Int32))), .val (.int (0 : Int32)), .val (.int mk), .val (.ref r118), .val (.ref b119), .val (.int (0 : Int32))]) rfl ?_
            refine XS.goto X120.here hx rfl (pc0 := 148) (pc' := 165) rfl (hb hby at_148) (by decide) (by decide) ?_
            refine XS.aload X120.here hx rfl (hb hby at_165) rfl rfl ?_
            refine XS.iload X120.here hx rfl (hb hby at_167) rfl ?_
            exact k
          have f122 := A119.keep Kc120
          obtain ⟨cq121, kq121, q121a, q121b, q121c⟩ := isOf hZ e120 f122
          obtain ⟨_, _, ⟨T121, L121, c121, n121⟩, -, X121, ⟨Lc121, hQ121, l121, y121, z121⟩, st121⟩ := X120.virtualBack hx (y := (⟨"com/example/vested_roles/vestedroles/Tokens$Token", "is", "(C)Z"⟩ : MethodName)) (z := (⟨"com/example/vested_roles/vestedroles/Tokens$Token", "is", "(C)Z"⟩ : MethodName)) hown (mvT hZ (hw _ (List.mem_of_getElem? (i := 45) rfl))) (mvT hZ (hw _ (List.mem_of_getElem? (i := 46) rfl))) (notFace_of_selects (args := #[]) (mvT hZ (hw _ (List.mem_of_getElem? (i := 48) rfl)))) (mvT hZ (hw _ (List.mem_of_getElem? (i := 48) rfl))) (mvT hZ (hw _ (List.mem_of_getElem? (i := 47) rfl))) (by decide) (backOf (W := 0) (own_rm8n l Z a0 hw [] b119 mk cs fm h120 n0 Z120 O120 Fn120 hcs hfm S_cs S_fm S_ad S_hb S_lb) hZ (hw _ (List.mem_of_getElem? (i := 49) rfl)) (hw _ (List.mem_of_getElem? (i := 29) rfl)) (by decide) (by decide)) q121a q121c (g := (mkF m 169 #[.val (.int pa), .val (.int pb), .val (.int pc_), .val (.int po), .val (.int fl), .val (.int c0), .val (.int c1), .val (.int (1 : Int32)), .val (.int (((fl.toUInt32 >>> ((1 : Int32) &&& 31).toUInt32).toInt32) &&& (3 : Int32))), .val (.int (0 : Int32)), .val (.int mk), .val (.ref r118), .val (.ref b119), .val (.int (0 : Int32))] [(.int mk), (.ref b119)])) rfl (by rw [hml]; rfl) (Steps.refl _) (argsL := [(.int mk)]) (rest := []) (lenOf own_pd13 rfl) rfl (by show 2 * 0 + _ ≤ _; exact Nat.le_of_eq rfl) (hb hby at_169) (fun _ _ => ⟨rfl, e120, (by decide : 3 + 0 ≤ _), (by decide : 9 + 0 ≤ _)⟩)
          dsimp only [Pt.U, Pt.locs, Pt.cells, Pt.slots] at X121 l121 y121 z121 st121 hQ121
          subst l121 y121 z121
          obtain ⟨rfl, N121q, e121⟩ := hQ121
          have N121 := Fr.app N120 N121q
          refine own_tr (T' := T121) (g' := (mkF m 172 #[.val (.int pa), .val (.int pb), .val (.int pc_), .val (.int po), .val (.int fl), .val (.int c0), .val (.int c1), .val (.int (1 : Int32)), .val (.int (((fl.toUInt32 >>> ((1 : Int32) &&& 31).toUInt32).toInt32) &&& (3 : Int32))), .val (.int (0 : Int32)), .val (.int mk), .val (.ref r118), .val (.ref b119), .val (.int (0 : Int32))] [(.int (0 : Int32))])) st121 ?_
          refine own_st (T' := T121) (g' := (mkF m 182 #[.val (.int pa), .val (.int pb), .val (.int pc_), .val (.int po), .val (.int fl), .val (.int c0), .val (.int c1), .val (.int (1 : Int32)), .val (.int (((fl.toUInt32 >>> ((1 : Int32) &&& 31).toUInt32).toInt32) &&& (3 : Int32))), .val (.int (0 : Int32)), .val (.int mk), .val (.ref r118), .val (.ref b119), .val (.int (0 : Int32))] [(.int (1 : Int32))])) (fun t k => ?_) ?_
          · show Steps p.tables e below (T121.setTop (mkF m 172 #[.val (.int pa), .val (.int pb), .val (.int pc_), .val (.int po), .val (.int fl), .val (.int c0), .val (.int c1), .val (.int (1 : Int32)), .val (.int (((fl.toUInt32 >>> ((1 : Int32) &&& 31).toUInt32).toInt32) &&& (3 : Int32))), .val (.int (0 : Int32)), .val (.int mk), .val (.ref r118), .val (.ref b119), .val (.int (0 : Int32))] [(.int (0 : Int32))])) t
            refine XS.iload X121.here hx rfl (hb hby at_172) rfl ?_
            refine XS.icmpNo X121.here hx rfl (hb hby at_174) rfl (teq (rfl : (0 : Int32) = (0 : Int32))).2 ?_
            refine XS.iconst X121.here hx rfl (hb hby at_177) ?_
            refine XS.goto X121.here hx rfl (pc0 := 178) (pc' := 182) rfl (hb hby at_178) (by decide) (by decide) ?_
            exact k
          exact own_retN X121 hx Bd (t := .boolean) (by simp) rfl (hb hby at_182) e121 (⟨rfl, N121⟩) (by decide) (by decide)
        · refine own_st (T' := T117) (g' := (mkF m 121 #[.val (.int pa), .val (.int pb), .val (.int pc_), .val (.int po), .val (.int fl), .val (.int c0), .val (.int c1), .val (.int (1 : Int32)), .val (.int (((fl.toUInt32 >>> ((1 : Int32) &&& 31).toUInt32).toInt32) &&& (3 : Int32))), .val (.int (0 : Int32)), .val (.int mk), .unset, .unset, .unset] [(.int c0)])) (fun t k => ?_) ?_
          · show Steps p.tables e below (T117.setTop (mkF m 83 #[.val (.int pa), .val (.int pb), .val (.int pc_), .val (.int po), .val (.int fl), .val (.int c0), .val (.int c1), .val (.int (1 : Int32)), .val (.int (((fl.toUInt32 >>> ((1 : Int32) &&& 31).toUInt32).toInt32) &&& (3 : Int32))), .val (.int (0 : Int32)), .val (.int mk), .unset, .unset, .unset] [])) t
            refine XS.iload X117.here hx rfl (hb hby at_83) rfl ?_
            refine XS.ifYes X117.here hx rfl (pc0 := 85) (pc' := 119) rfl (hb hby at_85) rfl ((if0 _ _).trans (teq (rfl : (0 : Int32) = (0 : Int32))).1) (by decide) (by decide) ?_
            refine XS.iload X117.here hx rfl (hb hby at_119) rfl ?_
            exact k
          obtain ⟨_, _, ⟨T123, L123, c123, n123⟩, -, X123, ⟨Lc123, hQ123, l123, y123, z123⟩, st123⟩ := Jvm.LawKit.callS X117 hx (y := (⟨"java/lang/String", "valueOf", "(C)Ljava/lang/String;"⟩ : MethodName)) hown (mvT hZ (hw _ (List.mem_of_getElem? (i := 1) rfl))) (mvT hZ (hw _ (List.mem_of_getElem? (i := 2) rfl))) (mvT hZ (hw _ (List.mem_of_getElem? (i := 3) rfl))) (mvT hZ (hw _ (List.mem_of_getElem? (i := 4) rfl))) (by decide) (backOf (W := 0) (own_rm1_0 l Z a0 hw [] c0 cs fm h0 n0 Z0 O0 h0c hcs hfm S_cs S_fm S_ad S_hb S_lb) hZ (hw _ (List.mem_of_getElem? (i := 4) rfl)) (hw _ (List.mem_of_getElem? (i := 3) rfl)) (by decide) (by decide)) (g := (mkF m 121 #[.val (.int pa), .val (.int pb), .val (.int pc_), .val (.int po), .val (.int fl), .val (.int c0), .val (.int c1), .val (.int (1 : Int32)), .val (.int (((fl.toUInt32 >>> ((1 : Int32) &&& 31).toUInt32).toInt32) &&& (3 : Int32))), .val (.int (0 : Int32)), .val (.int mk), .unset, .unset, .unset] [(.int c0)])) rfl (by rw [hml]; rfl) (argsL := [(.int c0)]) (rest := []) (lenOf own_pd18 rfl) rfl (by show 2 * 0 + _ ≤ _; exact Nat.le_of_eq rfl) (hb hby at_121) (fun _ _ => ⟨rfl, e117, (by decide : 0 + 2 ≤ _), (by decide : 0 + 5 ≤ _)⟩)
          dsimp only [Pt.U, Pt.locs, Pt.cells, Pt.slots] at X123 l123 y123 z123 st123 hQ123
          subst l123 y123 z123
          obtain ⟨h123, e123⟩ : ∃ z, T123.heap = z := ⟨_, rfl⟩
          rw [e123] at hQ123
          obtain ⟨r123, t123, k123, rfl, N123q, Kc123, g123, hz123, Ec123, Fv123, Fo123, Vc123⟩ := hQ123
          have N123 := Fr.app N117 N123q
          have hwr123 : h0.size ≤ r123 := Nat.le_trans (Keep.refl h0 []).1 hz123
          have K123 : Keep h0 h123 [] := (Keep.refl h0 []).trans Kc123 all0
          have Z123 : n0 ≤ h123.size := Nat.le_trans Z0 Kc123.1
          have O123 := O0.keep Kc123 all0
          refine own_st (T' := T123) (g' := (mkF m 124 #[.val (.int pa), .val (.int pb), .val (.int pc_), .val (.int po), .val (.int fl), .val (.int c0), .val (.int c1), .val (.int (1 : Int32)), .val (.int (((fl.toUInt32 >>> ((1 : Int32) &&& 31).toUInt32).toInt32) &&& (3 : Int32))), .val (.int (0 : Int32)), .val (.int mk), .unset, .unset, .unset] [(.ref r123)])) st123 ?_
          refine own_st (T' := T123) (g' := (mkF m 126 #[.val (.int pa), .val (.int pb), .val (.int pc_), .val (.int po), .val (.int fl), .val (.int c0), .val (.int c1), .val (.int (1 : Int32)), .val (.int (((fl.toUInt32 >>> ((1 : Int32) &&& 31).toUInt32).toInt32) &&& (3 : Int32))), .val (.int (0 : Int32)), .val (.int mk), .val (.ref r123), .unset, .unset] [])) (fun t k => ?_) ?_
          · show Steps p.tables e below (T123.setTop (mkF m 124 #[.val (.int pa), .val (.int pb), .val (.int pc_), .val (.int po), .val (.int fl), .val (.int c0), .val (.int c1), .val (.int (1 : Int32)), .val (.int (((fl.toUInt32 >>> ((1 : Int32) &&& 31).toUInt32).toInt32) &&& (3 : Int32))), .val (.int (0 : Int32)), .val (.int mk), .unset, .unset, .unset] [(.ref r123)])) t
            refine XS.astore X123.here hx rfl (hb hby at_124) rfl rfl (l' := #[.val (.int pa), .val (.int pb), .val (.int pc_), .val (.int po), .val (.int fl), .val (.int c0), .val (.int c1), .val (.int (1 : Int32)), .val (.int (((fl.toUInt32 >>> ((1 : Int32) &&& 31).toUInt32).toInt32) &&& (3 : Int32))), .val (.int (0 : Int32)), .val (.int mk), .val (.ref r123), .unset, .unset]) rfl ?_
            exact k
          obtain ⟨T124, h124, X124, e124, E124, A124, D124, U124, st124⟩ := newO X123 hx hZ hown (hw _ (List.mem_of_getElem? (i := 27) rfl)) (hw _ (List.mem_of_getElem? (i := 28) rfl)) (hw _ (List.mem_of_getElem? (i := 29) rfl)) e123 (g := (mkF m 126 #[.val (.int pa), .val (.int pb), .val (.int pc_), .val (.int po), .val (.int fl), .val (.int c0), .val (.int c1), .val (.int (1 : Int32)), .val (.int (((fl.toUInt32 >>> ((1 : Int32) &&& 31).toUInt32).toInt32) &&& (3 : Int32))), .val (.int (0 : Int32)), .val (.int mk), .val (.ref r123), .unset, .unset] [])) rfl (hb hby at_126) (by decide) (by decide)
          obtain ⟨b124, g124⟩ : ∃ z, z = h123.size := ⟨_, rfl⟩
          rw [← g124] at A124 D124 U124 st124
          have sz124 : h123.size ≤ b124 := Nat.le_of_eq g124.symm
          have ne_r123_b124 : r123 ≠ b124 := Nat.ne_of_lt (Nat.lt_of_lt_of_le Ec123.lt sz124)
          have ne_t123_b124 : t123 ≠ b124 := Nat.ne_of_lt (Nat.lt_of_lt_of_le Vc123.lt sz124)
          have g_b124 : n0 ≤ b124 := Nat.le_trans Z123 sz124
          have hz_b124 : h0.size ≤ b124 := Nat.le_trans K123.1 sz124
          have K124 : Keep h0 h124 [] := K123.ext E124
          have Z124 : n0 ≤ h124.size := Nat.le_trans Z123 E124.1
          have O124 := O123.ext E124
          refine own_st (T' := T124) (g' := (mkF m 129 #[.val (.int pa), .val (.int pb), .val (.int pc_), .val (.int po), .val (.int fl), .val (.int c0), .val (.int c1), .val (.int (1 : Int32)), .val (.int (((fl.toUInt32 >>> ((1 : Int32) &&& 31).toUInt32).toInt32) &&& (3 : Int32))), .val (.int (0 : Int32)), .val (.int mk), .val (.ref r123), .unset, .unset] [(.ref b124)])) st124 ?_
          refine own_st (T' := T124) (g' := (mkF m 135 #[.val (.int pa), .val (.int pb), .val (.int pc_), .val (.int po), .val (.int fl), .val (.int c0), .val (.int c1), .val (.int (1 : Int32)), .val (.int (((fl.toUInt32 >>> ((1 : Int32) &&& 31).toUInt32).toInt32) &&& (3 : Int32))), .val (.int (0 : Int32)), .val (.int mk), .val (.ref r123), .unset, .unset] [(.int (1 : Int32)), (.int po), (.ref r123), (.ref b124), (.ref b124)])) (fun t k => ?_) ?_
          · show Steps p.tables e below (T124.setTop (mkF m 129 #[.val (.int pa), .val (.int pb), .val (.int pc_), .val (.int po), .val (.int fl), .val (.int c0), .val (.int c1), .val (.int (1 : Int32)), .val (.int (((fl.toUInt32 >>> ((1 : Int32) &&& 31).toUInt32).toInt32) &&& (3 : Int32))), .val (.int (0 : Int32)), .val (.int mk), .val (.ref r123), .unset, .unset] [(.ref b124)])) t
            refine XS.dup X124.here hx rfl (hb hby at_129) rfl rfl ?_
            refine XS.aload X124.here hx rfl (hb hby at_130) rfl rfl ?_
            refine XS.iloadN X124.here hx rfl (hb hby at_132) rfl ?_
            refine XS.iload X124.here hx rfl (hb hby at_133) rfl ?_
            exact k
          obtain ⟨_, _, ⟨T125, L125, c125, n125⟩, -, X125, ⟨Lc125, hQ125, l125, y125, z125⟩, st125⟩ := X124.specialBack hx (y := (⟨"com/example/vested_roles/vestedroles/Tokens$Token", "<init>", "(Ljava/lang/String;IZ)V"⟩ : MethodName)) rfl hown (mvT hZ (hw _ (List.mem_of_getElem? (i := 30) rfl))) (mvT hZ (hw _ (List.mem_of_getElem? (i := 31) rfl))) (mvT hZ (hw _ (List.mem_of_getElem? (i := 32) rfl))) (by decide) (backOf (W := 1) (own_rm6_1 l Z a0 hw [] b124 r123 po cs fm h124 n0 Z124 O124 A124 (D124 (Or.inr (hw _ (List.mem_of_getElem? (i := 40) rfl))) (ty := (.object "java/lang/String")) (by decide) : Fld Z h124 b124 "com/example/vested_roles/vestedroles/Tokens$Token" "text" "Ljava/lang/String;" .null) (D124 (Or.inr (hw _ (List.mem_of_getElem? (i := 42) rfl))) (ty := .int) (by decide) : Fld Z h124 b124 "com/example/vested_roles/vestedroles/Tokens$Token" "position" "I" (.int (0 : Int32))) (D124 (Or.inr (hw _ (List.mem_of_getElem? (i := 44) rfl))) (ty := .boolean) (by decide) : Fld Z h124 b124 "com/example/vested_roles/vestedroles/Tokens$Token" "isName" "Z" (.int (0 : Int32))) g_b124 hcs hfm S_cs S_fm S_ad S_hb S_lb) hZ (hw _ (List.mem_of_getElem? (i := 32) rfl)) (hw _ (List.mem_of_getElem? (i := 29) rfl)) (by decide) (by decide)) (g := (mkF m 135 #[.val (.int pa), .val (.int pb), .val (.int pc_), .val (.int po), .val (.int fl), .val (.int c0), .val (.int c1), .val (.int (1 : Int32)), .val (.int (((fl.toUInt32 >>> ((1 : Int32) &&& 31).toUInt32).toInt32) &&& (3 : Int32))), .val (.int (0 : Int32)), .val (.int mk), .val (.ref r123), .unset, .unset] [(.int (1 : Int32)), (.int po), (.ref r123), (.ref b124), (.ref b124)])) rfl (by rw [hml]; rfl) (Steps.refl _) (a := b124) (argsL := [(.ref r123), (.int po), (.int (1 : Int32))]) (rest := [(.ref b124)]) (lenOf own_pd19 rfl) rfl (by show 2 * 0 + _ ≤ _; exact Nat.le_of_eq rfl) (hb hby at_135) (fun _ _ => ⟨rfl, e124, (by decide : 3 + 0 ≤ _), (by decide : 8 + 0 ≤ _)⟩)
          dsimp only [Pt.U, Pt.locs, Pt.cells, Pt.slots] at X125 l125 y125 z125 st125 hQ125
          subst l125 y125 z125
          obtain ⟨h125, e125⟩ : ∃ z, T125.heap = z := ⟨_, rfl⟩
          rw [e125] at hQ125
          obtain ⟨rfl, N125q, Kc125, Fx125, Fn125⟩ := hQ125
          have N125 := Fr.app N123 N125q
          have K125 : Keep h0 h125 [] := K124.trans Kc125 (allS (Or.inr hz_b124) all0)
          have Z125 : n0 ≤ h125.size := Nat.le_trans Z124 Kc125.1
          have O125 := O124.keep Kc125 (allS g_b124 all0)
          refine own_tr (T' := T125) (g' := (mkF m 138 #[.val (.int pa), .val (.int pb), .val (.int pc_), .val (.int po), .val (.int fl), .val (.int c0), .val (.int c1), .val (.int (1 : Int32)), .val (.int (((fl.toUInt32 >>> ((1 : Int32) &&& 31).toUInt32).toInt32) &&& (3 : Int32))), .val (.int (0 : Int32)), .val (.int mk), .val (.ref r123), .unset, .unset] [(.ref b124)])) st125 ?_
          refine own_st (T' := T125) (g' := (mkF m 169 #[.val (.int pa), .val (.int pb), .val (.int pc_), .val (.int po), .val (.int fl), .val (.int c0), .val (.int c1), .val (.int (1 : Int32)), .val (.int (((fl.toUInt32 >>> ((1 : Int32) &&& 31).toUInt32).toInt32) &&& (3 : Int32))), .val (.int (0 : Int32)), .val (.int mk), .val (.ref r123), .val (.ref b124), .val (.int (0 : Int32))] [(.int mk), (.ref b124)])) (fun t k => ?_) ?_
          · show Steps p.tables e below (T125.setTop (mkF m 138 #[.val (.int pa), .val (.int pb), .val (.int pc_), .val (.int po), .val (.int fl), .val (.int c0), .val (.int c1), .val (.int (1 : Int32)), .val (.int (((fl.toUInt32 >>> ((1 : Int32) &&& 31).toUInt32).toInt32) &&& (3 : Int32))), .val (.int (0 : Int32)), .val (.int mk), .val (.ref r123), .unset, .unset] [(.ref b124)])) t
            refine XS.astore X125.here hx rfl (hb hby at_138) rfl rfl (l' := #[.val (.int pa), .val (.int pb), .val (.int pc_), .val (.int po), .val (.int fl), .val (.int c0), .val (.int c1), .val (.int (1 : Int32)), .val (.int (((fl.toUInt32 >>> ((1 : Int32) &&& 31).toUInt32).toInt32) &&& (3 : Int32))), .val (.int (0 : Int32)), .val (.int mk), .val (.ref r123), .val (.ref b124), .unset]) rfl ?_
            refine XS.iload X125.here hx rfl (hb hby at_140) rfl ?_
            refine XS.ifNo X125.here hx rfl (hb hby at_142) rfl ((if0 _ _).trans (feq (by decide : ¬ ((1 : Int32) = (0 : Int32)))).1) ?_
            refine XS.iconst X125.here hx rfl (hb hby at_145) ?_
            refine XS.istore X125.here hx rfl (hb hby at_146) rfl (l' := #[.val (.int pa), .val (.int pb), .val (.int pc_), .val (.int po), .val (.int fl), .val (.int c0), .val (.int c1), .val (.int (1 : Int32)), .val (.int (((fl.toUInt32 >>> ((1 : Int32) &&& 31).toUInt32).toInt32) &&& (3 : Int32))), .val (.int (0 : Int32)), .val (.int mk), .val (.ref r123), .val (.ref b124), .val (.int (0 : Int32))]) rfl ?_
            refine XS.goto X125.here hx rfl (pc0 := 148) (pc' := 165) rfl (hb hby at_148) (by decide) (by decide) ?_
            refine XS.aload X125.here hx rfl (hb hby at_165) rfl rfl ?_
            refine XS.iload X125.here hx rfl (hb hby at_167) rfl ?_
            exact k
          have f127 := A124.keep Kc125
          obtain ⟨cq126, kq126, q126a, q126b, q126c⟩ := isOf hZ e125 f127
          obtain ⟨_, _, ⟨T126, L126, c126, n126⟩, -, X126, ⟨Lc126, hQ126, l126, y126, z126⟩, st126⟩ := X125.virtualBack hx (y := (⟨"com/example/vested_roles/vestedroles/Tokens$Token", "is", "(C)Z"⟩ : MethodName)) (z := (⟨"com/example/vested_roles/vestedroles/Tokens$Token", "is", "(C)Z"⟩ : MethodName)) hown (mvT hZ (hw _ (List.mem_of_getElem? (i := 45) rfl))) (mvT hZ (hw _ (List.mem_of_getElem? (i := 46) rfl))) (notFace_of_selects (args := #[]) (mvT hZ (hw _ (List.mem_of_getElem? (i := 48) rfl)))) (mvT hZ (hw _ (List.mem_of_getElem? (i := 48) rfl))) (mvT hZ (hw _ (List.mem_of_getElem? (i := 47) rfl))) (by decide) (backOf (W := 0) (own_rm8n l Z a0 hw [] b124 mk cs fm h125 n0 Z125 O125 Fn125 hcs hfm S_cs S_fm S_ad S_hb S_lb) hZ (hw _ (List.mem_of_getElem? (i := 49) rfl)) (hw _ (List.mem_of_getElem? (i := 29) rfl)) (by decide) (by decide)) q126a q126c (g := (mkF m 169 #[.val (.int pa), .val (.int pb), .val (.int pc_), .val (.int po), .val (.int fl), .val (.int c0), .val (.int c1), .val (.int (1 : Int32)), .val (.int (((fl.toUInt32 >>> ((1 : Int32) &&& 31).toUInt32).toInt32) &&& (3 : Int32))), .val (.int (0 : Int32)), .val (.int mk), .val (.ref r123), .val (.ref b124), .val (.int (0 : Int32))] [(.int mk), (.ref b124)])) rfl (by rw [hml]; rfl) (Steps.refl _) (argsL := [(.int mk)]) (rest := []) (lenOf own_pd13 rfl) rfl (by show 2 * 0 + _ ≤ _; exact Nat.le_of_eq rfl) (hb hby at_169) (fun _ _ => ⟨rfl, e125, (by decide : 3 + 0 ≤ _), (by decide : 8 + 0 ≤ _)⟩)
          dsimp only [Pt.U, Pt.locs, Pt.cells, Pt.slots] at X126 l126 y126 z126 st126 hQ126
          subst l126 y126 z126
          obtain ⟨rfl, N126q, e126⟩ := hQ126
          have N126 := Fr.app N125 N126q
          refine own_tr (T' := T126) (g' := (mkF m 172 #[.val (.int pa), .val (.int pb), .val (.int pc_), .val (.int po), .val (.int fl), .val (.int c0), .val (.int c1), .val (.int (1 : Int32)), .val (.int (((fl.toUInt32 >>> ((1 : Int32) &&& 31).toUInt32).toInt32) &&& (3 : Int32))), .val (.int (0 : Int32)), .val (.int mk), .val (.ref r123), .val (.ref b124), .val (.int (0 : Int32))] [(.int (0 : Int32))])) st126 ?_
          refine own_st (T' := T126) (g' := (mkF m 182 #[.val (.int pa), .val (.int pb), .val (.int pc_), .val (.int po), .val (.int fl), .val (.int c0), .val (.int c1), .val (.int (1 : Int32)), .val (.int (((fl.toUInt32 >>> ((1 : Int32) &&& 31).toUInt32).toInt32) &&& (3 : Int32))), .val (.int (0 : Int32)), .val (.int mk), .val (.ref r123), .val (.ref b124), .val (.int (0 : Int32))] [(.int (1 : Int32))])) (fun t k => ?_) ?_
          · show Steps p.tables e below (T126.setTop (mkF m 172 #[.val (.int pa), .val (.int pb), .val (.int pc_), .val (.int po), .val (.int fl), .val (.int c0), .val (.int c1), .val (.int (1 : Int32)), .val (.int (((fl.toUInt32 >>> ((1 : Int32) &&& 31).toUInt32).toInt32) &&& (3 : Int32))), .val (.int (0 : Int32)), .val (.int mk), .val (.ref r123), .val (.ref b124), .val (.int (0 : Int32))] [(.int (0 : Int32))])) t
            refine XS.iload X126.here hx rfl (hb hby at_172) rfl ?_
            refine XS.icmpNo X126.here hx rfl (hb hby at_174) rfl (teq (rfl : (0 : Int32) = (0 : Int32))).2 ?_
            refine XS.iconst X126.here hx rfl (hb hby at_177) ?_
            refine XS.goto X126.here hx rfl (pc0 := 178) (pc' := 182) rfl (hb hby at_178) (by decide) (by decide) ?_
            exact k
          exact own_retN X126 hx Bd (t := .boolean) (by simp) rfl (hb hby at_182) e126 (⟨rfl, N126⟩) (by decide) (by decide)
      by_cases hc128 : (((fl.toUInt32 >>> ((1 : Int32) &&& 31).toUInt32).toInt32) &&& (3 : Int32)) = (0 : Int32)
      · refine own_st (T' := s₁) (g' := (mkF m 83 #[.val (.int pa), .val (.int pb), .val (.int pc_), .val (.int po), .val (.int fl), .val (.int c0), .val (.int c1), .val (.int (1 : Int32)), .val (.int (((fl.toUInt32 >>> ((1 : Int32) &&& 31).toUInt32).toInt32) &&& (3 : Int32))), .val (.int (0 : Int32)), .val (.int c0), .unset, .unset, .unset] [])) (fun t k => ?_) ?_
        · show Steps p.tables e below (s₁.setTop (mkF m 53 #[.val (.int pa), .val (.int pb), .val (.int pc_), .val (.int po), .val (.int fl), .val (.int c0), .val (.int c1), .val (.int (1 : Int32)), .val (.int (((fl.toUInt32 >>> ((1 : Int32) &&& 31).toUInt32).toInt32) &&& (3 : Int32))), .val (.int (0 : Int32)), .unset, .unset, .unset, .unset] [(.int (((fl.toUInt32 >>> ((1 : Int32) &&& 31).toUInt32).toInt32) &&& (3 : Int32)))])) t
          refine XS.ifNo X0.here hx rfl (hb hby at_53) rfl ((if0 _ _).trans (teq hc128).2) ?_
          refine XS.iload X0.here hx rfl (hb hby at_56) rfl ?_
          refine XS.istore X0.here hx rfl (hb hby at_58) rfl (l' := #[.val (.int pa), .val (.int pb), .val (.int pc_), .val (.int po), .val (.int fl), .val (.int c0), .val (.int c1), .val (.int (1 : Int32)), .val (.int (((fl.toUInt32 >>> ((1 : Int32) &&& 31).toUInt32).toInt32) &&& (3 : Int32))), .val (.int (0 : Int32)), .val (.int c0), .unset, .unset, .unset]) rfl ?_
          refine XS.goto X0.here hx rfl (pc0 := 60) (pc' := 83) rfl (hb hby at_60) (by decide) (by decide) ?_
          exact k
        exact Jm _ s₁ _ X0 N0 e0
      · refine own_st (T' := s₁) (g' := (mkF m 66 #[.val (.int pa), .val (.int pb), .val (.int pc_), .val (.int po), .val (.int fl), .val (.int c0), .val (.int c1), .val (.int (1 : Int32)), .val (.int (((fl.toUInt32 >>> ((1 : Int32) &&& 31).toUInt32).toInt32) &&& (3 : Int32))), .val (.int (0 : Int32)), .unset, .unset, .unset, .unset] [(.int (1 : Int32)), (.int (((fl.toUInt32 >>> ((1 : Int32) &&& 31).toUInt32).toInt32) &&& (3 : Int32)))])) (fun t k => ?_) ?_
        · show Steps p.tables e below (s₁.setTop (mkF m 53 #[.val (.int pa), .val (.int pb), .val (.int pc_), .val (.int po), .val (.int fl), .val (.int c0), .val (.int c1), .val (.int (1 : Int32)), .val (.int (((fl.toUInt32 >>> ((1 : Int32) &&& 31).toUInt32).toInt32) &&& (3 : Int32))), .val (.int (0 : Int32)), .unset, .unset, .unset, .unset] [(.int (((fl.toUInt32 >>> ((1 : Int32) &&& 31).toUInt32).toInt32) &&& (3 : Int32)))])) t
          refine XS.ifYes X0.here hx rfl (pc0 := 53) (pc' := 63) rfl (hb hby at_53) rfl ((if0 _ _).trans (feq hc128).2) (by decide) (by decide) ?_
          refine XS.iload X0.here hx rfl (hb hby at_63) rfl ?_
          refine XS.iconst X0.here hx rfl (hb hby at_65) ?_
          exact k
        by_cases hc129 : (((fl.toUInt32 >>> ((1 : Int32) &&& 31).toUInt32).toInt32) &&& (3 : Int32)) = (1 : Int32)
        · refine own_st (T' := s₁) (g' := (mkF m 83 #[.val (.int pa), .val (.int pb), .val (.int pc_), .val (.int po), .val (.int fl), .val (.int c0), .val (.int c1), .val (.int (1 : Int32)), .val (.int (((fl.toUInt32 >>> ((1 : Int32) &&& 31).toUInt32).toInt32) &&& (3 : Int32))), .val (.int (0 : Int32)), .val (.int c1), .unset, .unset, .unset] [])) (fun t k => ?_) ?_
          · show Steps p.tables e below (s₁.setTop (mkF m 66 #[.val (.int pa), .val (.int pb), .val (.int pc_), .val (.int po), .val (.int fl), .val (.int c0), .val (.int c1), .val (.int (1 : Int32)), .val (.int (((fl.toUInt32 >>> ((1 : Int32) &&& 31).toUInt32).toInt32) &&& (3 : Int32))), .val (.int (0 : Int32)), .unset, .unset, .unset, .unset] [(.int (1 : Int32)), (.int (((fl.toUInt32 >>> ((1 : Int32) &&& 31).toUInt32).toInt32) &&& (3 : Int32)))])) t
            refine XS.icmpNo X0.here hx rfl (hb hby at_66) rfl (teq hc129).2 ?_
            refine XS.iload X0.here hx rfl (hb hby at_69) rfl ?_
            refine XS.istore X0.here hx rfl (hb hby at_71) rfl (l' := #[.val (.int pa), .val (.int pb), .val (.int pc_), .val (.int po), .val (.int fl), .val (.int c0), .val (.int c1), .val (.int (1 : Int32)), .val (.int (((fl.toUInt32 >>> ((1 : Int32) &&& 31).toUInt32).toInt32) &&& (3 : Int32))), .val (.int (0 : Int32)), .val (.int c1), .unset, .unset, .unset]) rfl ?_
            refine XS.goto X0.here hx rfl (pc0 := 73) (pc' := 83) rfl (hb hby at_73) (by decide) (by decide) ?_
            exact k
          exact Jm _ s₁ _ X0 N0 e0
        · refine own_st (T' := s₁) (g' := (mkF m 83 #[.val (.int pa), .val (.int pb), .val (.int pc_), .val (.int po), .val (.int fl), .val (.int c0), .val (.int c1), .val (.int (1 : Int32)), .val (.int (((fl.toUInt32 >>> ((1 : Int32) &&& 31).toUInt32).toInt32) &&& (3 : Int32))), .val (.int (0 : Int32)), .val (.int ((pc_ &&& (65535 : Int32)).toUInt32.toUInt16.toUInt32.toInt32)), .unset, .unset, .unset] [])) (fun t k => ?_) ?_
          · show Steps p.tables e below (s₁.setTop (mkF m 66 #[.val (.int pa), .val (.int pb), .val (.int pc_), .val (.int po), .val (.int fl), .val (.int c0), .val (.int c1), .val (.int (1 : Int32)), .val (.int (((fl.toUInt32 >>> ((1 : Int32) &&& 31).toUInt32).toInt32) &&& (3 : Int32))), .val (.int (0 : Int32)), .unset, .unset, .unset, .unset] [(.int (1 : Int32)), (.int (((fl.toUInt32 >>> ((1 : Int32) &&& 31).toUInt32).toInt32) &&& (3 : Int32)))])) t
            refine XS.icmpYes X0.here hx rfl (pc0 := 66) (pc' := 76) rfl (hb hby at_66) rfl (feq hc129).2 (by decide) (by decide) ?_
            refine XS.iloadN X0.here hx rfl (hb hby at_76) rfl ?_
            refine X0.ldcInt hx hown (mvT hZ (hw _ (List.mem_of_getElem? (i := 0) rfl))) (g := (mkF m 77 #[.val (.int pa), .val (.int pb), .val (.int pc_), .val (.int po), .val (.int fl), .val (.int c0), .val (.int c1), .val (.int (1 : Int32)), .val (.int (((fl.toUInt32 >>> ((1 : Int32) &&& 31).toUInt32).toInt32) &&& (3 : Int32))), .val (.int (0 : Int32)), .unset, .unset, .unset, .unset] [(.int pc_)])) rfl (hb hby at_77) _ ?_
            refine XS.iand X0.here hx rfl (hb hby at_79) rfl ?_
            refine XS.i2c X0.here hx rfl (hb hby at_80) rfl ?_
            refine XS.istore X0.here hx rfl (hb hby at_81) rfl (l' := #[.val (.int pa), .val (.int pb), .val (.int pc_), .val (.int po), .val (.int fl), .val (.int c0), .val (.int c1), .val (.int (1 : Int32)), .val (.int (((fl.toUInt32 >>> ((1 : Int32) &&& 31).toUInt32).toInt32) &&& (3 : Int32))), .val (.int (0 : Int32)), .val (.int ((pc_ &&& (65535 : Int32)).toUInt32.toUInt16.toUInt32.toInt32)), .unset, .unset, .unset]) rfl ?_
            exact k
          exact Jm _ s₁ _ X0 N0 e0
    · refine own_st (T' := s₁) (g' := (mkF m 53 #[.val (.int pa), .val (.int pb), .val (.int pc_), .val (.int po), .val (.int fl), .val (.int c0), .val (.int c1), .val (.int (1 : Int32)), .val (.int (((fl.toUInt32 >>> ((1 : Int32) &&& 31).toUInt32).toInt32) &&& (3 : Int32))), .val (.int (1 : Int32)), .unset, .unset, .unset, .unset] [(.int (((fl.toUInt32 >>> ((1 : Int32) &&& 31).toUInt32).toInt32) &&& (3 : Int32)))])) (fun t k => ?_) ?_
      · show Steps p.tables e below (s₁.setTop (mkF m 41 #[.val (.int pa), .val (.int pb), .val (.int pc_), .val (.int po), .val (.int fl), .val (.int c0), .val (.int c1), .val (.int (1 : Int32)), .val (.int (((fl.toUInt32 >>> ((1 : Int32) &&& 31).toUInt32).toInt32) &&& (3 : Int32))), .unset, .unset, .unset, .unset, .unset] [(.int (fl &&& (8 : Int32)))])) t
        refine XS.ifNo X0.here hx rfl (hb hby at_41) rfl ((if0 _ _).trans (feq hc116).1) ?_
        refine XS.iconst X0.here hx rfl (hb hby at_44) ?_
        refine XS.goto X0.here hx rfl (pc0 := 45) (pc' := 49) rfl (hb hby at_45) (by decide) (by decide) ?_
        refine XS.istore X0.here hx rfl (hb hby at_49) rfl (l' := #[.val (.int pa), .val (.int pb), .val (.int pc_), .val (.int po), .val (.int fl), .val (.int c0), .val (.int c1), .val (.int (1 : Int32)), .val (.int (((fl.toUInt32 >>> ((1 : Int32) &&& 31).toUInt32).toInt32) &&& (3 : Int32))), .val (.int (1 : Int32)), .unset, .unset, .unset, .unset]) rfl ?_
        refine XS.iload X0.here hx rfl (hb hby at_51) rfl ?_
        exact k
      have Jm : ∀ (mk : Int32) (T : State) (locs : List Loc), Stand p l e room_1 s m #[(.int pa), (.int pb), (.int pc_), (.int po), (.int fl)] below meth c T locs 0 0 → Fr n0 locs → T.heap = h0 → own_Go p e below (own_K s (own_Q0 Z pa pb pc_ po fl  cs  fm  h0 n0) room_1.cells room_1.slots) T (mkF m 83 #[.val (.int pa), .val (.int pb), .val (.int pc_), .val (.int po), .val (.int fl), .val (.int c0), .val (.int c1), .val (.int (1 : Int32)), .val (.int (((fl.toUInt32 >>> ((1 : Int32) &&& 31).toUInt32).toInt32) &&& (3 : Int32))), .val (.int (1 : Int32)), .val (.int mk), .unset, .unset, .unset] []) := by
        intro mk T130 locs130 X130 N130 e130
        by_cases h0c : (255 : Int32) < c0
        · refine own_st (T' := T130) (g' := (mkF m 89 #[.val (.int pa), .val (.int pb), .val (.int pc_), .val (.int po), .val (.int fl), .val (.int c0), .val (.int c1), .val (.int (1 : Int32)), .val (.int (((fl.toUInt32 >>> ((1 : Int32) &&& 31).toUInt32).toInt32) &&& (3 : Int32))), .val (.int (1 : Int32)), .val (.int mk), .unset, .unset, .unset] [(.int (2 : Int32))])) (fun t k => ?_) ?_
          · show Steps p.tables e below (T130.setTop (mkF m 83 #[.val (.int pa), .val (.int pb), .val (.int pc_), .val (.int po), .val (.int fl), .val (.int c0), .val (.int c1), .val (.int (1 : Int32)), .val (.int (((fl.toUInt32 >>> ((1 : Int32) &&& 31).toUInt32).toInt32) &&& (3 : Int32))), .val (.int (1 : Int32)), .val (.int mk), .unset, .unset, .unset] [])) t
            refine XS.iload X130.here hx rfl (hb hby at_83) rfl ?_
            refine XS.ifNo X130.here hx rfl (hb hby at_85) rfl ((if0 _ _).trans (feq (by decide : ¬ ((1 : Int32) = (0 : Int32)))).1) ?_
            refine XS.iconst X130.here hx rfl (hb hby at_88) ?_
            exact k
          obtain ⟨T131, h131, k131, X131, e131, E131, A131, st131⟩ := newP X130 hx hZ (hw _ (List.mem_of_getElem? (i := 71) rfl)) e130 (g := (mkF m 89 #[.val (.int pa), .val (.int pb), .val (.int pc_), .val (.int po), .val (.int fl), .val (.int c0), .val (.int c1), .val (.int (1 : Int32)), .val (.int (((fl.toUInt32 >>> ((1 : Int32) &&& 31).toUInt32).toInt32) &&& (3 : Int32))), .val (.int (1 : Int32)), .val (.int mk), .unset, .unset, .unset] [(.int (2 : Int32))])) rfl (hb hby at_89) rfl (by decide) (cap := 2) (by decide) (by decide) (by decide) (by decide)
          obtain ⟨b131, g131⟩ : ∃ z, z = h0.size := ⟨_, rfl⟩
          rw [← g131] at A131 st131
          have sz131 : h0.size ≤ b131 := Nat.le_of_eq g131.symm
          have g_b131 : n0 ≤ b131 := Nat.le_trans Z0 sz131
          have hz_b131 : h0.size ≤ b131 := Nat.le_trans (Keep.refl h0 []).1 sz131
          have K131 : Keep h0 h131 [] := (Keep.refl h0 []).ext E131
          have Z131 : n0 ≤ h131.size := Nat.le_trans Z0 E131.1
          have O131 := O0.ext E131
          have V131 : Arv Z h131 b131 k131 .char (2 : Int32) [(.int (0 : Int32)), (.int (0 : Int32))] (.int (0 : Int32)) := (Arv.new A131 (by decide)).pad (pad_rep [] (.int (0 : Int32)) 2)
          refine own_st (T' := T131) (g' := (mkF m 91 #[.val (.int pa), .val (.int pb), .val (.int pc_), .val (.int po), .val (.int fl), .val (.int c0), .val (.int c1), .val (.int (1 : Int32)), .val (.int (((fl.toUInt32 >>> ((1 : Int32) &&& 31).toUInt32).toInt32) &&& (3 : Int32))), .val (.int (1 : Int32)), .val (.int mk), .unset, .unset, .unset] [(.ref b131)])) st131 ?_
          refine own_st (T' := T131) (g' := (mkF m 98 #[.val (.int pa), .val (.int pb), .val (.int pc_), .val (.int po), .val (.int fl), .val (.int c0), .val (.int c1), .val (.int (1 : Int32)), .val (.int (((fl.toUInt32 >>> ((1 : Int32) &&& 31).toUInt32).toInt32) &&& (3 : Int32))), .val (.int (1 : Int32)), .val (.int mk), .unset, .val (.ref b131), .unset] [(.int c0), (.int (0 : Int32)), (.ref b131)])) (fun t k => ?_) ?_
          · show Steps p.tables e below (T131.setTop (mkF m 91 #[.val (.int pa), .val (.int pb), .val (.int pc_), .val (.int po), .val (.int fl), .val (.int c0), .val (.int c1), .val (.int (1 : Int32)), .val (.int (((fl.toUInt32 >>> ((1 : Int32) &&& 31).toUInt32).toInt32) &&& (3 : Int32))), .val (.int (1 : Int32)), .val (.int mk), .unset, .unset, .unset] [(.ref b131)])) t
            refine XS.astore X131.here hx rfl (hb hby at_91) rfl rfl (l' := #[.val (.int pa), .val (.int pb), .val (.int pc_), .val (.int po), .val (.int fl), .val (.int c0), .val (.int c1), .val (.int (1 : Int32)), .val (.int (((fl.toUInt32 >>> ((1 : Int32) &&& 31).toUInt32).toInt32) &&& (3 : Int32))), .val (.int (1 : Int32)), .val (.int mk), .unset, .val (.ref b131), .unset]) rfl ?_
            refine XS.aload X131.here hx rfl (hb hby at_93) rfl rfl ?_
            refine XS.iconst X131.here hx rfl (hb hby at_95) ?_
            refine XS.iload X131.here hx rfl (hb hby at_96) rfl ?_
            exact k
          obtain ⟨cl132, Ar132, q132, S132, M132, H132, G132⟩ := id V131
          obtain ⟨T133, h133, X133, e133, W133, st133⟩ := stC X131 hx hZ e131 Ar132 (j := (0 : Int32)) (inb_of S132 ⟨by decide, by decide⟩) (g := (mkF m 98 #[.val (.int pa), .val (.int pb), .val (.int pc_), .val (.int po), .val (.int fl), .val (.int c0), .val (.int c1), .val (.int (1 : Int32)), .val (.int (((fl.toUInt32 >>> ((1 : Int32) &&& 31).toUInt32).toInt32) &&& (3 : Int32))), .val (.int (1 : Int32)), .val (.int mk), .unset, .val (.ref b131), .unset] [(.int c0), (.int (0 : Int32)), (.ref b131)])) rfl rfl (hb hby at_98)
          have N133 := Fr.snoc X133 N130 g_b131
          have K133 : Keep h0 h133 [] := K131.wr W133 (Or.inr hz_b131)
          have Z133 : n0 ≤ h133.size := Nat.le_trans Z131 (Keep.of_wr W133).1
          have O133 := O131.wr W133 g_b131
          have fw133 := (show Arv Z h133 b131 k131 .char (2 : Int32) [(.int c0), (.int (0 : Int32))] (.int (0 : Int32)) by have q : Arv Z h133 b131 k131 .char (2 : Int32) [(.int (c0.toUInt32.toUInt16.toUInt32.toInt32)), (.int (0 : Int32))] (.int (0 : Int32)) := Arv.set Ar132 q132 S132 M132 H132 G132 (fits_nar_char _) W133 0 rfl (Nat.le_of_ble_eq_true rfl); rw [own_u16_id rg0] at q; exact q)
          refine own_st (T' := T133) (g' := (mkF m 99 #[.val (.int pa), .val (.int pb), .val (.int pc_), .val (.int po), .val (.int fl), .val (.int c0), .val (.int c1), .val (.int (1 : Int32)), .val (.int (((fl.toUInt32 >>> ((1 : Int32) &&& 31).toUInt32).toInt32) &&& (3 : Int32))), .val (.int (1 : Int32)), .val (.int mk), .unset, .val (.ref b131), .unset] [])) st133 ?_
          refine own_st (T' := T133) (g' := (mkF m 104 #[.val (.int pa), .val (.int pb), .val (.int pc_), .val (.int po), .val (.int fl), .val (.int c0), .val (.int c1), .val (.int (1 : Int32)), .val (.int (((fl.toUInt32 >>> ((1 : Int32) &&& 31).toUInt32).toInt32) &&& (3 : Int32))), .val (.int (1 : Int32)), .val (.int mk), .unset, .val (.ref b131), .unset] [(.int c1), (.int (1 : Int32)), (.ref b131)])) (fun t k => ?_) ?_
          · show Steps p.tables e below (T133.setTop (mkF m 99 #[.val (.int pa), .val (.int pb), .val (.int pc_), .val (.int po), .val (.int fl), .val (.int c0), .val (.int c1), .val (.int (1 : Int32)), .val (.int (((fl.toUInt32 >>> ((1 : Int32) &&& 31).toUInt32).toInt32) &&& (3 : Int32))), .val (.int (1 : Int32)), .val (.int mk), .unset, .val (.ref b131), .unset] [])) t
            refine XS.aload X133.here hx rfl (hb hby at_99) rfl rfl ?_
            refine XS.iconst X133.here hx rfl (hb hby at_101) ?_
            refine XS.iload X133.here hx rfl (hb hby at_102) rfl ?_
            exact k
          obtain ⟨cl134, Ar134, q134, S134, M134, H134, G134⟩ := id fw133
          obtain ⟨T135, h135, X135, e135, W135, st135⟩ := stC X133 hx hZ e133 Ar134 (j := (1 : Int32)) (inb_of S134 ⟨by decide, by decide⟩) (g := (mkF m 104 #[.val (.int pa), .val (.int pb), .val (.int pc_), .val (.int po), .val (.int fl), .val (.int c0), .val (.int c1), .val (.int (1 : Int32)), .val (.int (((fl.toUInt32 >>> ((1 : Int32) &&& 31).toUInt32).toInt32) &&& (3 : Int32))), .val (.int (1 : Int32)), .val (.int mk), .unset, .val (.ref b131), .unset] [(.int c1), (.int (1 : Int32)), (.ref b131)])) rfl rfl (hb hby at_104)
          have N135 := Fr.snoc X135 N133 g_b131
          have K135 : Keep h0 h135 [] := K133.wr W135 (Or.inr hz_b131)
          have Z135 : n0 ≤ h135.size := Nat.le_trans Z133 (Keep.of_wr W135).1
          have O135 := O133.wr W135 g_b131
          have fw135 := (show Arv Z h135 b131 k131 .char (2 : Int32) [(.int c0), (.int c1)] (.int (0 : Int32)) by have q : Arv Z h135 b131 k131 .char (2 : Int32) [(.int c0), (.int (c1.toUInt32.toUInt16.toUInt32.toInt32))] (.int (0 : Int32)) := Arv.set Ar134 q134 S134 M134 H134 G134 (fits_nar_char _) W135 1 rfl (Nat.le_of_ble_eq_true rfl); rw [own_u16_id rg1] at q; exact q)
          refine own_st (T' := T135) (g' := (mkF m 105 #[.val (.int pa), .val (.int pb), .val (.int pc_), .val (.int po), .val (.int fl), .val (.int c0), .val (.int c1), .val (.int (1 : Int32)), .val (.int (((fl.toUInt32 >>> ((1 : Int32) &&& 31).toUInt32).toInt32) &&& (3 : Int32))), .val (.int (1 : Int32)), .val (.int mk), .unset, .val (.ref b131), .unset] [])) st135 ?_
          obtain ⟨T136, h136, X136, e136, E136, A136, D136, U136, st136⟩ := newO X135 hx hZ hown (hw _ (List.mem_of_getElem? (i := 72) rfl)) (hw _ (List.mem_of_getElem? (i := 11) rfl)) (hw _ (List.mem_of_getElem? (i := 3) rfl)) e135 (g := (mkF m 105 #[.val (.int pa), .val (.int pb), .val (.int pc_), .val (.int po), .val (.int fl), .val (.int c0), .val (.int c1), .val (.int (1 : Int32)), .val (.int (((fl.toUInt32 >>> ((1 : Int32) &&& 31).toUInt32).toInt32) &&& (3 : Int32))), .val (.int (1 : Int32)), .val (.int mk), .unset, .val (.ref b131), .unset] [])) rfl (hb hby at_105) (by decide) (by decide)
          obtain ⟨b136, g136⟩ : ∃ z, z = h135.size := ⟨_, rfl⟩
          rw [← g136] at A136 D136 U136 st136
          have sz136 : h135.size ≤ b136 := Nat.le_of_eq g136.symm
          have ne_b131_b136 : b131 ≠ b136 := Nat.ne_of_lt (Nat.lt_of_lt_of_le fw135.lt sz136)
          have g_b136 : n0 ≤ b136 := Nat.le_trans Z135 sz136
          have hz_b136 : h0.size ≤ b136 := Nat.le_trans K135.1 sz136
          have K136 : Keep h0 h136 [] := K135.ext E136
          have Z136 : n0 ≤ h136.size := Nat.le_trans Z135 E136.1
          have O136 := O135.ext E136
          refine own_st (T' := T136) (g' := (mkF m 108 #[.val (.int pa), .val (.int pb), .val (.int pc_), .val (.int po), .val (.int fl), .val (.int c0), .val (.int c1), .val (.int (1 : Int32)), .val (.int (((fl.toUInt32 >>> ((1 : Int32) &&& 31).toUInt32).toInt32) &&& (3 : Int32))), .val (.int (1 : Int32)), .val (.int mk), .unset, .val (.ref b131), .unset] [(.ref b136)])) st136 ?_
          refine own_st (T' := T136) (g' := (mkF m 111 #[.val (.int pa), .val (.int pb), .val (.int pc_), .val (.int po), .val (.int fl), .val (.int c0), .val (.int c1), .val (.int (1 : Int32)), .val (.int (((fl.toUInt32 >>> ((1 : Int32) &&& 31).toUInt32).toInt32) &&& (3 : Int32))), .val (.int (1 : Int32)), .val (.int mk), .unset, .val (.ref b131), .unset] [(.ref b131), (.ref b136), (.ref b136)])) (fun t k => ?_) ?_
          · show Steps p.tables e below (T136.setTop (mkF m 108 #[.val (.int pa), .val (.int pb), .val (.int pc_), .val (.int po), .val (.int fl), .val (.int c0), .val (.int c1), .val (.int (1 : Int32)), .val (.int (((fl.toUInt32 >>> ((1 : Int32) &&& 31).toUInt32).toInt32) &&& (3 : Int32))), .val (.int (1 : Int32)), .val (.int mk), .unset, .val (.ref b131), .unset] [(.ref b136)])) t
            refine XS.dup X136.here hx rfl (hb hby at_108) rfl rfl ?_
            refine XS.aload X136.here hx rfl (hb hby at_109) rfl rfl ?_
            exact k
          have f137 := fw135.ext E136
          obtain ⟨_, _, ⟨T138, L138, c138, n138⟩, -, X138, ⟨Lc138, hQ138, l138, y138, z138⟩, st138⟩ := X136.specialBack hx (y := (⟨"java/lang/String", "<init>", "([C)V"⟩ : MethodName)) rfl hown (mvT hZ (hw _ (List.mem_of_getElem? (i := 73) rfl))) (mvT hZ (hw _ (List.mem_of_getElem? (i := 74) rfl))) (mvT hZ (hw _ (List.mem_of_getElem? (i := 75) rfl))) (by decide) (backOf (W := 1) (own_rm14a l Z a0 hw [] b136 b131 k131 c0 c1 cs fm h136 n0 Z136 O136 A136 (D136 (Or.inr (hw _ (List.mem_of_getElem? (i := 24) rfl))) (ty := (.array .byte)) (by decide) : Fld Z h136 b136 "java/lang/String" "value" "[B" .null) (D136 (Or.inr (hw _ (List.mem_of_getElem? (i := 26) rfl))) (ty := .byte) (by decide) : Fld Z h136 b136 "java/lang/String" "coder" "B" (.int (0 : Int32))) g_b136 f137 (Ne.symm ne_b131_b136) h0c rg0 rg1 hcs hfm S_cs S_fm S_ad S_hb S_lb) hZ (hw _ (List.mem_of_getElem? (i := 75) rfl)) (hw _ (List.mem_of_getElem? (i := 3) rfl)) (by decide) (by decide)) (g := (mkF m 111 #[.val (.int pa), .val (.int pb), .val (.int pc_), .val (.int po), .val (.int fl), .val (.int c0), .val (.int c1), .val (.int (1 : Int32)), .val (.int (((fl.toUInt32 >>> ((1 : Int32) &&& 31).toUInt32).toInt32) &&& (3 : Int32))), .val (.int (1 : Int32)), .val (.int mk), .unset, .val (.ref b131), .unset] [(.ref b131), (.ref b136), (.ref b136)])) rfl (by rw [hml]; rfl) (Steps.refl _) (a := b136) (argsL := [(.ref b131)]) (rest := [(.ref b136)]) (lenOf own_pd20 rfl) rfl (by show 2 * 0 + _ ≤ _; exact Nat.le_of_eq rfl) (hb hby at_111) (fun _ _ => ⟨rfl, e136, (by decide : 2 + 2 ≤ _), (by decide : 6 + 6 ≤ _)⟩)
          dsimp only [Pt.U, Pt.locs, Pt.cells, Pt.slots] at X138 l138 y138 z138 st138 hQ138
          subst l138 y138 z138
          obtain ⟨h138, e138⟩ : ∃ z, T138.heap = z := ⟨_, rfl⟩
          rw [e138] at hQ138
          obtain ⟨t138, k138, rfl, N138q, Kc138, g138, hz138, Fv138, Fo138, Vc138⟩ := hQ138
          have N138 := Fr.app N135 N138q
          have ne_b131_t138 : b131 ≠ t138 := Nat.ne_of_lt (Nat.lt_of_lt_of_le f137.lt hz138)
          have ne_b136_t138 : b136 ≠ t138 := Nat.ne_of_lt (Nat.lt_of_lt_of_le A136.lt hz138)
          have hwt138 : h0.size ≤ t138 := Nat.le_trans K136.1 hz138
          have K138 : Keep h0 h138 [] := K136.trans Kc138 (allS (Or.inr hz_b136) all0)
          have Z138 : n0 ≤ h138.size := Nat.le_trans Z136 Kc138.1
          have O138 := O136.keep Kc138 (allS g_b136 all0)
          refine own_tr (T' := T138) (g' := (mkF m 114 #[.val (.int pa), .val (.int pb), .val (.int pc_), .val (.int po), .val (.int fl), .val (.int c0), .val (.int c1), .val (.int (1 : Int32)), .val (.int (((fl.toUInt32 >>> ((1 : Int32) &&& 31).toUInt32).toInt32) &&& (3 : Int32))), .val (.int (1 : Int32)), .val (.int mk), .unset, .val (.ref b131), .unset] [(.ref b136)])) st138 ?_
          refine own_st (T' := T138) (g' := (mkF m 126 #[.val (.int pa), .val (.int pb), .val (.int pc_), .val (.int po), .val (.int fl), .val (.int c0), .val (.int c1), .val (.int (1 : Int32)), .val (.int (((fl.toUInt32 >>> ((1 : Int32) &&& 31).toUInt32).toInt32) &&& (3 : Int32))), .val (.int (1 : Int32)), .val (.int mk), .val (.ref b136), .val (.ref b131), .unset] [])) (fun t k => ?_) ?_
          · show Steps p.tables e below (T138.setTop (mkF m 114 #[.val (.int pa), .val (.int pb), .val (.int pc_), .val (.int po), .val (.int fl), .val (.int c0), .val (.int c1), .val (.int (1 : Int32)), .val (.int (((fl.toUInt32 >>> ((1 : Int32) &&& 31).toUInt32).toInt32) &&& (3 : Int32))), .val (.int (1 : Int32)), .val (.int mk), .unset, .val (.ref b131), .unset] [(.ref b136)])) t
            refine XS.astore X138.here hx rfl (hb hby at_114) rfl rfl (l' := #[.val (.int pa), .val (.int pb), .val (.int pc_), .val (.int po), .val (.int fl), .val (.int c0), .val (.int c1), .val (.int (1 : Int32)), .val (.int (((fl.toUInt32 >>> ((1 : Int32) &&& 31).toUInt32).toInt32) &&& (3 : Int32))), .val (.int (1 : Int32)), .val (.int mk), .val (.ref b136), .val (.ref b131), .unset]) rfl ?_
            refine XS.goto X138.here hx rfl (pc0 := 116) (pc' := 126) rfl (hb hby at_116) (by decide) (by decide) ?_
            exact k
          obtain ⟨T139, h139, X139, e139, E139, A139, D139, U139, st139⟩ := newO X138 hx hZ hown (hw _ (List.mem_of_getElem? (i := 27) rfl)) (hw _ (List.mem_of_getElem? (i := 28) rfl)) (hw _ (List.mem_of_getElem? (i := 29) rfl)) e138 (g := (mkF m 126 #[.val (.int pa), .val (.int pb), .val (.int pc_), .val (.int po), .val (.int fl), .val (.int c0), .val (.int c1), .val (.int (1 : Int32)), .val (.int (((fl.toUInt32 >>> ((1 : Int32) &&& 31).toUInt32).toInt32) &&& (3 : Int32))), .val (.int (1 : Int32)), .val (.int mk), .val (.ref b136), .val (.ref b131), .unset] [])) rfl (hb hby at_126) (by decide) (by decide)
          obtain ⟨b139, g139⟩ : ∃ z, z = h138.size := ⟨_, rfl⟩
          rw [← g139] at A139 D139 U139 st139
          have sz139 : h138.size ≤ b139 := Nat.le_of_eq g139.symm
          have f140 := f137.keep Kc138 (ninS ne_b131_b136 nin0)
          have ne_b131_b139 : b131 ≠ b139 := Nat.ne_of_lt (Nat.lt_of_lt_of_le f140.lt sz139)
          have f141 := A136.keep Kc138
          have ne_b136_b139 : b136 ≠ b139 := Nat.ne_of_lt (Nat.lt_of_lt_of_le f141.lt sz139)
          have ne_t138_b139 : t138 ≠ b139 := Nat.ne_of_lt (Nat.lt_of_lt_of_le Vc138.lt sz139)
          have g_b139 : n0 ≤ b139 := Nat.le_trans Z138 sz139
          have hz_b139 : h0.size ≤ b139 := Nat.le_trans K138.1 sz139
          have K139 : Keep h0 h139 [] := K138.ext E139
          have Z139 : n0 ≤ h139.size := Nat.le_trans Z138 E139.1
          have O139 := O138.ext E139
          refine own_st (T' := T139) (g' := (mkF m 129 #[.val (.int pa), .val (.int pb), .val (.int pc_), .val (.int po), .val (.int fl), .val (.int c0), .val (.int c1), .val (.int (1 : Int32)), .val (.int (((fl.toUInt32 >>> ((1 : Int32) &&& 31).toUInt32).toInt32) &&& (3 : Int32))), .val (.int (1 : Int32)), .val (.int mk), .val (.ref b136), .val (.ref b131), .unset] [(.ref b139)])) st139 ?_
          refine own_st (T' := T139) (g' := (mkF m 135 #[.val (.int pa), .val (.int pb), .val (.int pc_), .val (.int po), .val (.int fl), .val (.int c0), .val (.int c1), .val (.int (1 : Int32)), .val (.int (((fl.toUInt32 >>> ((1 : Int32) &&& 31).toUInt32).toInt32) &&& (3 : Int32))), .val (.int (1 : Int32)), .val (.int mk), .val (.ref b136), .val (.ref b131), .unset] [(.int (1 : Int32)), (.int po), (.ref b136), (.ref b139), (.ref b139)])) (fun t k => ?_) ?_
          · show Steps p.tables e below (T139.setTop (mkF m 129 #[.val (.int pa), .val (.int pb), .val (.int pc_), .val (.int po), .val (.int fl), .val (.int c0), .val (.int c1), .val (.int (1 : Int32)), .val (.int (((fl.toUInt32 >>> ((1 : Int32) &&& 31).toUInt32).toInt32) &&& (3 : Int32))), .val (.int (1 : Int32)), .val (.int mk), .val (.ref b136), .val (.ref b131), .unset] [(.ref b139)])) t
            refine XS.dup X139.here hx rfl (hb hby at_129) rfl rfl ?_
            refine XS.aload X139.here hx rfl (hb hby at_130) rfl rfl ?_
            refine XS.iloadN X139.here hx rfl (hb hby at_132) rfl ?_
            refine XS.iload X139.here hx rfl (hb hby at_133) rfl ?_
            exact k
          obtain ⟨_, _, ⟨T142, L142, c142, n142⟩, -, X142, ⟨Lc142, hQ142, l142, y142, z142⟩, st142⟩ := X139.specialBack hx (y := (⟨"com/example/vested_roles/vestedroles/Tokens$Token", "<init>", "(Ljava/lang/String;IZ)V"⟩ : MethodName)) rfl hown (mvT hZ (hw _ (List.mem_of_getElem? (i := 30) rfl))) (mvT hZ (hw _ (List.mem_of_getElem? (i := 31) rfl))) (mvT hZ (hw _ (List.mem_of_getElem? (i := 32) rfl))) (by decide) (backOf (W := 1) (own_rm6_1 l Z a0 hw [] b139 b136 po cs fm h139 n0 Z139 O139 A139 (D139 (Or.inr (hw _ (List.mem_of_getElem? (i := 40) rfl))) (ty := (.object "java/lang/String")) (by decide) : Fld Z h139 b139 "com/example/vested_roles/vestedroles/Tokens$Token" "text" "Ljava/lang/String;" .null) (D139 (Or.inr (hw _ (List.mem_of_getElem? (i := 42) rfl))) (ty := .int) (by decide) : Fld Z h139 b139 "com/example/vested_roles/vestedroles/Tokens$Token" "position" "I" (.int (0 : Int32))) (D139 (Or.inr (hw _ (List.mem_of_getElem? (i := 44) rfl))) (ty := .boolean) (by decide) : Fld Z h139 b139 "com/example/vested_roles/vestedroles/Tokens$Token" "isName" "Z" (.int (0 : Int32))) g_b139 hcs hfm S_cs S_fm S_ad S_hb S_lb) hZ (hw _ (List.mem_of_getElem? (i := 32) rfl)) (hw _ (List.mem_of_getElem? (i := 29) rfl)) (by decide) (by decide)) (g := (mkF m 135 #[.val (.int pa), .val (.int pb), .val (.int pc_), .val (.int po), .val (.int fl), .val (.int c0), .val (.int c1), .val (.int (1 : Int32)), .val (.int (((fl.toUInt32 >>> ((1 : Int32) &&& 31).toUInt32).toInt32) &&& (3 : Int32))), .val (.int (1 : Int32)), .val (.int mk), .val (.ref b136), .val (.ref b131), .unset] [(.int (1 : Int32)), (.int po), (.ref b136), (.ref b139), (.ref b139)])) rfl (by rw [hml]; rfl) (Steps.refl _) (a := b139) (argsL := [(.ref b136), (.int po), (.int (1 : Int32))]) (rest := [(.ref b139)]) (lenOf own_pd19 rfl) rfl (by show 2 * 0 + _ ≤ _; exact Nat.le_of_eq rfl) (hb hby at_135) (fun _ _ => ⟨rfl, e139, (by decide : 5 + 0 ≤ _), (by decide : 15 + 0 ≤ _)⟩)
          dsimp only [Pt.U, Pt.locs, Pt.cells, Pt.slots] at X142 l142 y142 z142 st142 hQ142
          subst l142 y142 z142
          obtain ⟨h142, e142⟩ : ∃ z, T142.heap = z := ⟨_, rfl⟩
          rw [e142] at hQ142
          obtain ⟨rfl, N142q, Kc142, Fx142, Fn142⟩ := hQ142
          have N142 := Fr.app N138 N142q
          have K142 : Keep h0 h142 [] := K139.trans Kc142 (allS (Or.inr hz_b139) all0)
          have Z142 : n0 ≤ h142.size := Nat.le_trans Z139 Kc142.1
          have O142 := O139.keep Kc142 (allS g_b139 all0)
          refine own_tr (T' := T142) (g' := (mkF m 138 #[.val (.int pa), .val (.int pb), .val (.int pc_), .val (.int po), .val (.int fl), .val (.int c0), .val (.int c1), .val (.int (1 : Int32)), .val (.int (((fl.toUInt32 >>> ((1 : Int32) &&& 31).toUInt32).toInt32) &&& (3 : Int32))), .val (.int (1 : Int32)), .val (.int mk), .val (.ref b136), .val (.ref b131), .unset] [(.ref b139)])) st142 ?_
          refine own_st (T' := T142) (g' := (mkF m 169 #[.val (.int pa), .val (.int pb), .val (.int pc_), .val (.int po), .val (.int fl), .val (.int c0), .val (.int c1), .val (.int (1 : Int32)), .val (.int (((fl.toUInt32 >>> ((1 : Int32) &&& 31).toUInt32).toInt32) &&& (3 : Int32))), .val (.int (1 : Int32)), .val (.int mk), .val (.ref b136), .val (.ref b139), .val (.int (0 : Int32))] [(.int mk), (.ref b139)])) (fun t k => ?_) ?_
          · show Steps p.tables e below (T142.setTop (mkF m 138 #[.val (.int pa), .val (.int pb), .val (.int pc_), .val (.int po), .val (.int fl), .val (.int c0), .val (.int c1), .val (.int (1 : Int32)), .val (.int (((fl.toUInt32 >>> ((1 : Int32) &&& 31).toUInt32).toInt32) &&& (3 : Int32))), .val (.int (1 : Int32)), .val (.int mk), .val (.ref b136), .val (.ref b131), .unset] [(.ref b139)])) t
            refine XS.astore X142.here hx rfl (hb hby at_138) rfl rfl (l' := #[.val (.int pa), .val (.int pb), .val (.int pc_), .val (.int po), .val (.int fl), .val (.int c0), .val (.int c1), .val (.int (1 : Int32)), .val (.int (((fl.toUInt32 >>> ((1 : Int32) &&& 31).toUInt32).toInt32) &&& (3 : Int32))), .val (.int (1 : Int32)), .val (.int mk), .val (.ref b136), .val (.ref b139), .unset]) rfl ?_
            refine XS.iload X142.here hx rfl (hb hby at_140) rfl ?_
            refine XS.ifNo X142.here hx rfl (hb hby at_142) rfl ((if0 _ _).trans (feq (by decide : ¬ ((1 : Int32) = (0 : Int32)))).1) ?_
            refine XS.iconst X142.here hx rfl (hb hby at_145) ?_
            refine XS.istore X142.here hx rfl (hb hby at_146) rfl (l' := #[.val (.int pa), .val (.int pb), .val (.int pc_), .val (.int po), .val (.int fl), .val (.int c0), .val (.int c1), .val (.int (1 : Int32)), .val (.int (((fl.toUInt32 >>> ((1 : Int32) &&& 31).toUInt32).toInt32) &&& (3 : Int32))), .val (.int (1 : Int32)), .val (.int mk), .val (.ref b136), .val (.ref b139), .val (.int (0 : Int32))]) rfl ?_
            refine XS.goto X142.here hx rfl (pc0 := 148) (pc' := 165) rfl (hb hby at_148) (by decide) (by decide) ?_
            refine XS.aload X142.here hx rfl (hb hby at_165) rfl rfl ?_
            refine XS.iload X142.here hx rfl (hb hby at_167) rfl ?_
            exact k
          have f144 := A139.keep Kc142
          obtain ⟨cq143, kq143, q143a, q143b, q143c⟩ := isOf hZ e142 f144
          obtain ⟨_, _, ⟨T143, L143, c143, n143⟩, -, X143, ⟨Lc143, hQ143, l143, y143, z143⟩, st143⟩ := X142.virtualBack hx (y := (⟨"com/example/vested_roles/vestedroles/Tokens$Token", "is", "(C)Z"⟩ : MethodName)) (z := (⟨"com/example/vested_roles/vestedroles/Tokens$Token", "is", "(C)Z"⟩ : MethodName)) hown (mvT hZ (hw _ (List.mem_of_getElem? (i := 45) rfl))) (mvT hZ (hw _ (List.mem_of_getElem? (i := 46) rfl))) (notFace_of_selects (args := #[]) (mvT hZ (hw _ (List.mem_of_getElem? (i := 48) rfl)))) (mvT hZ (hw _ (List.mem_of_getElem? (i := 48) rfl))) (mvT hZ (hw _ (List.mem_of_getElem? (i := 47) rfl))) (by decide) (backOf (W := 0) (own_rm8n l Z a0 hw [] b139 mk cs fm h142 n0 Z142 O142 Fn142 hcs hfm S_cs S_fm S_ad S_hb S_lb) hZ (hw _ (List.mem_of_getElem? (i := 49) rfl)) (hw _ (List.mem_of_getElem? (i := 29) rfl)) (by decide) (by decide)) q143a q143c (g := (mkF m 169 #[.val (.int pa), .val (.int pb), .val (.int pc_), .val (.int po), .val (.int fl), .val (.int c0), .val (.int c1), .val (.int (1 : Int32)), .val (.int (((fl.toUInt32 >>> ((1 : Int32) &&& 31).toUInt32).toInt32) &&& (3 : Int32))), .val (.int (1 : Int32)), .val (.int mk), .val (.ref b136), .val (.ref b139), .val (.int (0 : Int32))] [(.int mk), (.ref b139)])) rfl (by rw [hml]; rfl) (Steps.refl _) (argsL := [(.int mk)]) (rest := []) (lenOf own_pd13 rfl) rfl (by show 2 * 0 + _ ≤ _; exact Nat.le_of_eq rfl) (hb hby at_169) (fun _ _ => ⟨rfl, e142, (by decide : 5 + 0 ≤ _), (by decide : 15 + 0 ≤ _)⟩)
          dsimp only [Pt.U, Pt.locs, Pt.cells, Pt.slots] at X143 l143 y143 z143 st143 hQ143
          subst l143 y143 z143
          obtain ⟨rfl, N143q, e143⟩ := hQ143
          have N143 := Fr.app N142 N143q
          refine own_tr (T' := T143) (g' := (mkF m 172 #[.val (.int pa), .val (.int pb), .val (.int pc_), .val (.int po), .val (.int fl), .val (.int c0), .val (.int c1), .val (.int (1 : Int32)), .val (.int (((fl.toUInt32 >>> ((1 : Int32) &&& 31).toUInt32).toInt32) &&& (3 : Int32))), .val (.int (1 : Int32)), .val (.int mk), .val (.ref b136), .val (.ref b139), .val (.int (0 : Int32))] [(.int (0 : Int32))])) st143 ?_
          refine own_st (T' := T143) (g' := (mkF m 182 #[.val (.int pa), .val (.int pb), .val (.int pc_), .val (.int po), .val (.int fl), .val (.int c0), .val (.int c1), .val (.int (1 : Int32)), .val (.int (((fl.toUInt32 >>> ((1 : Int32) &&& 31).toUInt32).toInt32) &&& (3 : Int32))), .val (.int (1 : Int32)), .val (.int mk), .val (.ref b136), .val (.ref b139), .val (.int (0 : Int32))] [(.int (1 : Int32))])) (fun t k => ?_) ?_
          · show Steps p.tables e below (T143.setTop (mkF m 172 #[.val (.int pa), .val (.int pb), .val (.int pc_), .val (.int po), .val (.int fl), .val (.int c0), .val (.int c1), .val (.int (1 : Int32)), .val (.int (((fl.toUInt32 >>> ((1 : Int32) &&& 31).toUInt32).toInt32) &&& (3 : Int32))), .val (.int (1 : Int32)), .val (.int mk), .val (.ref b136), .val (.ref b139), .val (.int (0 : Int32))] [(.int (0 : Int32))])) t
            refine XS.iload X143.here hx rfl (hb hby at_172) rfl ?_
            refine XS.icmpNo X143.here hx rfl (hb hby at_174) rfl (teq (rfl : (0 : Int32) = (0 : Int32))).2 ?_
            refine XS.iconst X143.here hx rfl (hb hby at_177) ?_
            refine XS.goto X143.here hx rfl (pc0 := 178) (pc' := 182) rfl (hb hby at_178) (by decide) (by decide) ?_
            exact k
          exact own_retN X143 hx Bd (t := .boolean) (by simp) rfl (hb hby at_182) e143 (⟨rfl, N143⟩) (by decide) (by decide)
        · by_cases h1c : (255 : Int32) < c1
          · refine own_st (T' := T130) (g' := (mkF m 89 #[.val (.int pa), .val (.int pb), .val (.int pc_), .val (.int po), .val (.int fl), .val (.int c0), .val (.int c1), .val (.int (1 : Int32)), .val (.int (((fl.toUInt32 >>> ((1 : Int32) &&& 31).toUInt32).toInt32) &&& (3 : Int32))), .val (.int (1 : Int32)), .val (.int mk), .unset, .unset, .unset] [(.int (2 : Int32))])) (fun t k => ?_) ?_
            · show Steps p.tables e below (T130.setTop (mkF m 83 #[.val (.int pa), .val (.int pb), .val (.int pc_), .val (.int po), .val (.int fl), .val (.int c0), .val (.int c1), .val (.int (1 : Int32)), .val (.int (((fl.toUInt32 >>> ((1 : Int32) &&& 31).toUInt32).toInt32) &&& (3 : Int32))), .val (.int (1 : Int32)), .val (.int mk), .unset, .unset, .unset] [])) t
              refine XS.iload X130.here hx rfl (hb hby at_83) rfl ?_
              refine XS.ifNo X130.here hx rfl (hb hby at_85) rfl ((if0 _ _).trans (feq (by decide : ¬ ((1 : Int32) = (0 : Int32)))).1) ?_
              refine XS.iconst X130.here hx rfl (hb hby at_88) ?_
              exact k
            obtain ⟨T145, h145, k145, X145, e145, E145, A145, st145⟩ := newP X130 hx hZ (hw _ (List.mem_of_getElem? (i := 71) rfl)) e130 (g := (mkF m 89 #[.val (.int pa), .val (.int pb), .val (.int pc_), .val (.int po), .val (.int fl), .val (.int c0), .val (.int c1), .val (.int (1 : Int32)), .val (.int (((fl.toUInt32 >>> ((1 : Int32) &&& 31).toUInt32).toInt32) &&& (3 : Int32))), .val (.int (1 : Int32)), .val (.int mk), .unset, .unset, .unset] [(.int (2 : Int32))])) rfl (hb hby at_89) rfl (by decide) (cap := 2) (by decide) (by decide) (by decide) (by decide)
            obtain ⟨b145, g145⟩ : ∃ z, z = h0.size := ⟨_, rfl⟩
            rw [← g145] at A145 st145
            have sz145 : h0.size ≤ b145 := Nat.le_of_eq g145.symm
            have g_b145 : n0 ≤ b145 := Nat.le_trans Z0 sz145
            have hz_b145 : h0.size ≤ b145 := Nat.le_trans (Keep.refl h0 []).1 sz145
            have K145 : Keep h0 h145 [] := (Keep.refl h0 []).ext E145
            have Z145 : n0 ≤ h145.size := Nat.le_trans Z0 E145.1
            have O145 := O0.ext E145
            have V145 : Arv Z h145 b145 k145 .char (2 : Int32) [(.int (0 : Int32)), (.int (0 : Int32))] (.int (0 : Int32)) := (Arv.new A145 (by decide)).pad (pad_rep [] (.int (0 : Int32)) 2)
            refine own_st (T' := T145) (g' := (mkF m 91 #[.val (.int pa), .val (.int pb), .val (.int pc_), .val (.int po), .val (.int fl), .val (.int c0), .val (.int c1), .val (.int (1 : Int32)), .val (.int (((fl.toUInt32 >>> ((1 : Int32) &&& 31).toUInt32).toInt32) &&& (3 : Int32))), .val (.int (1 : Int32)), .val (.int mk), .unset, .unset, .unset] [(.ref b145)])) st145 ?_
            refine own_st (T' := T145) (g' := (mkF m 98 #[.val (.int pa), .val (.int pb), .val (.int pc_), .val (.int po), .val (.int fl), .val (.int c0), .val (.int c1), .val (.int (1 : Int32)), .val (.int (((fl.toUInt32 >>> ((1 : Int32) &&& 31).toUInt32).toInt32) &&& (3 : Int32))), .val (.int (1 : Int32)), .val (.int mk), .unset, .val (.ref b145), .unset] [(.int c0), (.int (0 : Int32)), (.ref b145)])) (fun t k => ?_) ?_
            · show Steps p.tables e below (T145.setTop (mkF m 91 #[.val (.int pa), .val (.int pb), .val (.int pc_), .val (.int po), .val (.int fl), .val (.int c0), .val (.int c1), .val (.int (1 : Int32)), .val (.int (((fl.toUInt32 >>> ((1 : Int32) &&& 31).toUInt32).toInt32) &&& (3 : Int32))), .val (.int (1 : Int32)), .val (.int mk), .unset, .unset, .unset] [(.ref b145)])) t
              refine XS.astore X145.here hx rfl (hb hby at_91) rfl rfl (l' := #[.val (.int pa), .val (.int pb), .val (.int pc_), .val (.int po), .val (.int fl), .val (.int c0), .val (.int c1), .val (.int (1 : Int32)), .val (.int (((fl.toUInt32 >>> ((1 : Int32) &&& 31).toUInt32).toInt32) &&& (3 : Int32))), .val (.int (1 : Int32)), .val (.int mk), .unset, .val (.ref b145), .unset]) rfl ?_
              refine XS.aload X145.here hx rfl (hb hby at_93) rfl rfl ?_
              refine XS.iconst X145.here hx rfl (hb hby at_95) ?_
              refine XS.iload X145.here hx rfl (hb hby at_96) rfl ?_
              exact k
            obtain ⟨cl146, Ar146, q146, S146, M146, H146, G146⟩ := id V145
            obtain ⟨T147, h147, X147, e147, W147, st147⟩ := stC X145 hx hZ e145 Ar146 (j := (0 : Int32)) (inb_of S146 ⟨by decide, by decide⟩) (g := (mkF m 98 #[.val (.int pa), .val (.int pb), .val (.int pc_), .val (.int po), .val (.int fl), .val (.int c0), .val (.int c1), .val (.int (1 : Int32)), .val (.int (((fl.toUInt32 >>> ((1 : Int32) &&& 31).toUInt32).toInt32) &&& (3 : Int32))), .val (.int (1 : Int32)), .val (.int mk), .unset, .val (.ref b145), .unset] [(.int c0), (.int (0 : Int32)), (.ref b145)])) rfl rfl (hb hby at_98)
            have N147 := Fr.snoc X147 N130 g_b145
            have K147 : Keep h0 h147 [] := K145.wr W147 (Or.inr hz_b145)
            have Z147 : n0 ≤ h147.size := Nat.le_trans Z145 (Keep.of_wr W147).1
            have O147 := O145.wr W147 g_b145
            have fw147 := (show Arv Z h147 b145 k145 .char (2 : Int32) [(.int c0), (.int (0 : Int32))] (.int (0 : Int32)) by have q : Arv Z h147 b145 k145 .char (2 : Int32) [(.int (c0.toUInt32.toUInt16.toUInt32.toInt32)), (.int (0 : Int32))] (.int (0 : Int32)) := Arv.set Ar146 q146 S146 M146 H146 G146 (fits_nar_char _) W147 0 rfl (Nat.le_of_ble_eq_true rfl); rw [own_u16_id rg0] at q; exact q)
            refine own_st (T' := T147) (g' := (mkF m 99 #[.val (.int pa), .val (.int pb), .val (.int pc_), .val (.int po), .val (.int fl), .val (.int c0), .val (.int c1), .val (.int (1 : Int32)), .val (.int (((fl.toUInt32 >>> ((1 : Int32) &&& 31).toUInt32).toInt32) &&& (3 : Int32))), .val (.int (1 : Int32)), .val (.int mk), .unset, .val (.ref b145), .unset] [])) st147 ?_
            refine own_st (T' := T147) (g' := (mkF m 104 #[.val (.int pa), .val (.int pb), .val (.int pc_), .val (.int po), .val (.int fl), .val (.int c0), .val (.int c1), .val (.int (1 : Int32)), .val (.int (((fl.toUInt32 >>> ((1 : Int32) &&& 31).toUInt32).toInt32) &&& (3 : Int32))), .val (.int (1 : Int32)), .val (.int mk), .unset, .val (.ref b145), .unset] [(.int c1), (.int (1 : Int32)), (.ref b145)])) (fun t k => ?_) ?_
            · show Steps p.tables e below (T147.setTop (mkF m 99 #[.val (.int pa), .val (.int pb), .val (.int pc_), .val (.int po), .val (.int fl), .val (.int c0), .val (.int c1), .val (.int (1 : Int32)), .val (.int (((fl.toUInt32 >>> ((1 : Int32) &&& 31).toUInt32).toInt32) &&& (3 : Int32))), .val (.int (1 : Int32)), .val (.int mk), .unset, .val (.ref b145), .unset] [])) t
              refine XS.aload X147.here hx rfl (hb hby at_99) rfl rfl ?_
              refine XS.iconst X147.here hx rfl (hb hby at_101) ?_
              refine XS.iload X147.here hx rfl (hb hby at_102) rfl ?_
              exact k
            obtain ⟨cl148, Ar148, q148, S148, M148, H148, G148⟩ := id fw147
            obtain ⟨T149, h149, X149, e149, W149, st149⟩ := stC X147 hx hZ e147 Ar148 (j := (1 : Int32)) (inb_of S148 ⟨by decide, by decide⟩) (g := (mkF m 104 #[.val (.int pa), .val (.int pb), .val (.int pc_), .val (.int po), .val (.int fl), .val (.int c0), .val (.int c1), .val (.int (1 : Int32)), .val (.int (((fl.toUInt32 >>> ((1 : Int32) &&& 31).toUInt32).toInt32) &&& (3 : Int32))), .val (.int (1 : Int32)), .val (.int mk), .unset, .val (.ref b145), .unset] [(.int c1), (.int (1 : Int32)), (.ref b145)])) rfl rfl (hb hby at_104)
            have N149 := Fr.snoc X149 N147 g_b145
            have K149 : Keep h0 h149 [] := K147.wr W149 (Or.inr hz_b145)
            have Z149 : n0 ≤ h149.size := Nat.le_trans Z147 (Keep.of_wr W149).1
            have O149 := O147.wr W149 g_b145
            have fw149 := (show Arv Z h149 b145 k145 .char (2 : Int32) [(.int c0), (.int c1)] (.int (0 : Int32)) by have q : Arv Z h149 b145 k145 .char (2 : Int32) [(.int c0), (.int (c1.toUInt32.toUInt16.toUInt32.toInt32))] (.int (0 : Int32)) := Arv.set Ar148 q148 S148 M148 H148 G148 (fits_nar_char _) W149 1 rfl (Nat.le_of_ble_eq_true rfl); rw [own_u16_id rg1] at q; exact q)
            refine own_st (T' := T149) (g' := (mkF m 105 #[.val (.int pa), .val (.int pb), .val (.int pc_), .val (.int po), .val (.int fl), .val (.int c0), .val (.int c1), .val (.int (1 : Int32)), .val (.int (((fl.toUInt32 >>> ((1 : Int32) &&& 31).toUInt32).toInt32) &&& (3 : Int32))), .val (.int (1 : Int32)), .val (.int mk), .unset, .val (.ref b145), .unset] [])) st149 ?_
            obtain ⟨T150, h150, X150, e150, E150, A150, D150, U150, st150⟩ := newO X149 hx hZ hown (hw _ (List.mem_of_getElem? (i := 72) rfl)) (hw _ (List.mem_of_getElem? (i := 11) rfl)) (hw _ (List.mem_of_getElem? (i := 3) rfl)) e149 (g := (mkF m 105 #[.val (.int pa), .val (.int pb), .val (.int pc_), .val (.int po), .val (.int fl), .val (.int c0), .val (.int c1), .val (.int (1 : Int32)), .val (.int (((fl.toUInt32 >>> ((1 : Int32) &&& 31).toUInt32).toInt32) &&& (3 : Int32))), .val (.int (1 : Int32)), .val (.int mk), .unset, .val (.ref b145), .unset] [])) rfl (hb hby at_105) (by decide) (by decide)
            obtain ⟨b150, g150⟩ : ∃ z, z = h149.size := ⟨_, rfl⟩
            rw [← g150] at A150 D150 U150 st150
            have sz150 : h149.size ≤ b150 := Nat.le_of_eq g150.symm
            have ne_b145_b150 : b145 ≠ b150 := Nat.ne_of_lt (Nat.lt_of_lt_of_le fw149.lt sz150)
            have g_b150 : n0 ≤ b150 := Nat.le_trans Z149 sz150
            have hz_b150 : h0.size ≤ b150 := Nat.le_trans K149.1 sz150
            have K150 : Keep h0 h150 [] := K149.ext E150
            have Z150 : n0 ≤ h150.size := Nat.le_trans Z149 E150.1
            have O150 := O149.ext E150
            refine own_st (T' := T150) (g' := (mkF m 108 #[.val (.int pa), .val (.int pb), .val (.int pc_), .val (.int po), .val (.int fl), .val (.int c0), .val (.int c1), .val (.int (1 : Int32)), .val (.int (((fl.toUInt32 >>> ((1 : Int32) &&& 31).toUInt32).toInt32) &&& (3 : Int32))), .val (.int (1 : Int32)), .val (.int mk), .unset, .val (.ref b145), .unset] [(.ref b150)])) st150 ?_
            refine own_st (T' := T150) (g' := (mkF m 111 #[.val (.int pa), .val (.int pb), .val (.int pc_), .val (.int po), .val (.int fl), .val (.int c0), .val (.int c1), .val (.int (1 : Int32)), .val (.int (((fl.toUInt32 >>> ((1 : Int32) &&& 31).toUInt32).toInt32) &&& (3 : Int32))), .val (.int (1 : Int32)), .val (.int mk), .unset, .val (.ref b145), .unset] [(.ref b145), (.ref b150), (.ref b150)])) (fun t k => ?_) ?_
            · show Steps p.tables e below (T150.setTop (mkF m 108 #[.val (.int pa), .val (.int pb), .val (.int pc_), .val (.int po), .val (.int fl), .val (.int c0), .val (.int c1), .val (.int (1 : Int32)), .val (.int (((fl.toUInt32 >>> ((1 : Int32) &&& 31).toUInt32).toInt32) &&& (3 : Int32))), .val (.int (1 : Int32)), .val (.int mk), .unset, .val (.ref b145), .unset] [(.ref b150)])) t
              refine XS.dup X150.here hx rfl (hb hby at_108) rfl rfl ?_
              refine XS.aload X150.here hx rfl (hb hby at_109) rfl rfl ?_
              exact k
            have f151 := fw149.ext E150
            obtain ⟨_, _, ⟨T152, L152, c152, n152⟩, -, X152, ⟨Lc152, hQ152, l152, y152, z152⟩, st152⟩ := X150.specialBack hx (y := (⟨"java/lang/String", "<init>", "([C)V"⟩ : MethodName)) rfl hown (mvT hZ (hw _ (List.mem_of_getElem? (i := 73) rfl))) (mvT hZ (hw _ (List.mem_of_getElem? (i := 74) rfl))) (mvT hZ (hw _ (List.mem_of_getElem? (i := 75) rfl))) (by decide) (backOf (W := 1) (own_rm14b l Z a0 hw [] b150 b145 k145 c0 c1 cs fm h150 n0 Z150 O150 A150 (D150 (Or.inr (hw _ (List.mem_of_getElem? (i := 24) rfl))) (ty := (.array .byte)) (by decide) : Fld Z h150 b150 "java/lang/String" "value" "[B" .null) (D150 (Or.inr (hw _ (List.mem_of_getElem? (i := 26) rfl))) (ty := .byte) (by decide) : Fld Z h150 b150 "java/lang/String" "coder" "B" (.int (0 : Int32))) g_b150 f151 (Ne.symm ne_b145_b150) h0c h1c rg0 rg1 hcs hfm S_cs S_fm S_ad S_hb S_lb) hZ (hw _ (List.mem_of_getElem? (i := 75) rfl)) (hw _ (List.mem_of_getElem? (i := 3) rfl)) (by decide) (by decide)) (g := (mkF m 111 #[.val (.int pa), .val (.int pb), .val (.int pc_), .val (.int po), .val (.int fl), .val (.int c0), .val (.int c1), .val (.int (1 : Int32)), .val (.int (((fl.toUInt32 >>> ((1 : Int32) &&& 31).toUInt32).toInt32) &&& (3 : Int32))), .val (.int (1 : Int32)), .val (.int mk), .unset, .val (.ref b145), .unset] [(.ref b145), (.ref b150), (.ref b150)])) rfl (by rw [hml]; rfl) (Steps.refl _) (a := b150) (argsL := [(.ref b145)]) (rest := [(.ref b150)]) (lenOf own_pd20 rfl) rfl (by show 2 * 0 + _ ≤ _; exact Nat.le_of_eq rfl) (hb hby at_111) (fun _ _ => ⟨rfl, e150, (by decide : 2 + 2 ≤ _), (by decide : 6 + 6 ≤ _)⟩)
            dsimp only [Pt.U, Pt.locs, Pt.cells, Pt.slots] at X152 l152 y152 z152 st152 hQ152
            subst l152 y152 z152
            obtain ⟨h152, e152⟩ : ∃ z, T152.heap = z := ⟨_, rfl⟩
            rw [e152] at hQ152
            obtain ⟨t152, k152, rfl, N152q, Kc152, g152, hz152, Fv152, Fo152, Vc152⟩ := hQ152
            have N152 := Fr.app N149 N152q
            have ne_b145_t152 : b145 ≠ t152 := Nat.ne_of_lt (Nat.lt_of_lt_of_le f151.lt hz152)
            have ne_b150_t152 : b150 ≠ t152 := Nat.ne_of_lt (Nat.lt_of_lt_of_le A150.lt hz152)
            have hwt152 : h0.size ≤ t152 := Nat.le_trans K150.1 hz152
            have K152 : Keep h0 h152 [] := K150.trans Kc152 (allS (Or.inr hz_b150) all0)
            have Z152 : n0 ≤ h152.size := Nat.le_trans Z150 Kc152.1
            have O152 := O150.keep Kc152 (allS g_b150 all0)
            refine own_tr (T' := T152) (g' := (mkF m 114 #[.val (.int pa), .val (.int pb), .val (.int pc_), .val (.int po), .val (.int fl), .val (.int c0), .val (.int c1), .val (.int (1 : Int32)), .val (.int (((fl.toUInt32 >>> ((1 : Int32) &&& 31).toUInt32).toInt32) &&& (3 : Int32))), .val (.int (1 : Int32)), .val (.int mk), .unset, .val (.ref b145), .unset] [(.ref b150)])) st152 ?_
            refine own_st (T' := T152) (g' := (mkF m 126 #[.val (.int pa), .val (.int pb), .val (.int pc_), .val (.int po), .val (.int fl), .val (.int c0), .val (.int c1), .val (.int (1 : Int32)), .val (.int (((fl.toUInt32 >>> ((1 : Int32) &&& 31).toUInt32).toInt32) &&& (3 : Int32))), .val (.int (1 : Int32)), .val (.int mk), .val (.ref b150), .val (.ref b145), .unset] [])) (fun t k => ?_) ?_
            · show Steps p.tables e below (T152.setTop (mkF m 114 #[.val (.int pa), .val (.int pb), .val (.int pc_), .val (.int po), .val (.int fl), .val (.int c0), .val (.int c1), .val (.int (1 : Int32)), .val (.int (((fl.toUInt32 >>> ((1 : Int32) &&& 31).toUInt32).toInt32) &&& (3 : Int32))), .val (.int (1 : Int32)), .val (.int mk), .unset, .val (.ref b145), .unset] [(.ref b150)])) t
              refine XS.astore X152.here hx rfl (hb hby at_114) rfl rfl (l' := #[.val (.int pa), .val (.int pb), .val (.int pc_), .val (.int po), .val (.int fl), .val (.int c0), .val (.int c1), .val (.int (1 : Int32)), .val (.int (((fl.toUInt32 >>> ((1 : Int32) &&& 31).toUInt32).toInt32) &&& (3 : Int32))), .val (.int (1 : Int32)), .val (.int mk), .val (.ref b150), .val (.ref b145), .unset]) rfl ?_
              refine XS.goto X152.here hx rfl (pc0 := 116) (pc' := 126) rfl (hb hby at_116) (by decide) (by decide) ?_
              exact k
            obtain ⟨T153, h153, X153, e153, E153, A153, D153, U153, st153⟩ := newO X152 hx hZ hown (hw _ (List.mem_of_getElem? (i := 27) rfl)) (hw _ (List.mem_of_getElem? (i := 28) rfl)) (hw _ (List.mem_of_getElem? (i := 29) rfl)) e152 (g := (mkF m 126 #[.val (.int pa), .val (.int pb), .val (.int pc_), .val (.int po), .val (.int fl), .val (.int c0), .val (.int c1), .val (.int (1 : Int32)), .val (.int (((fl.toUInt32 >>> ((1 : Int32) &&& 31).toUInt32).toInt32) &&& (3 : Int32))), .val (.int (1 : Int32)), .val (.int mk), .val (.ref b150), .val (.ref b145), .unset] [])) rfl (hb hby at_126) (by decide) (by decide)
            obtain ⟨b153, g153⟩ : ∃ z, z = h152.size := ⟨_, rfl⟩
            rw [← g153] at A153 D153 U153 st153
            have sz153 : h152.size ≤ b153 := Nat.le_of_eq g153.symm
            have f154 := f151.keep Kc152 (ninS ne_b145_b150 nin0)
            have ne_b145_b153 : b145 ≠ b153 := Nat.ne_of_lt (Nat.lt_of_lt_of_le f154.lt sz153)
            have f155 := A150.keep Kc152
            have ne_b150_b153 : b150 ≠ b153 := Nat.ne_of_lt (Nat.lt_of_lt_of_le f155.lt sz153)
            have ne_t152_b153 : t152 ≠ b153 := Nat.ne_of_lt (Nat.lt_of_lt_of_le Vc152.lt sz153)
            have g_b153 : n0 ≤ b153 := Nat.le_trans Z152 sz153
            have hz_b153 : h0.size ≤ b153 := Nat.le_trans K152.1 sz153
            have K153 : Keep h0 h153 [] := K152.ext E153
            have Z153 : n0 ≤ h153.size := Nat.le_trans Z152 E153.1
            have O153 := O152.ext E153
            refine own_st (T' := T153) (g' := (mkF m 129 #[.val (.int pa), .val (.int pb), .val (.int pc_), .val (.int po), .val (.int fl), .val (.int c0), .val (.int c1), .val (.int (1 : Int32)), .val (.int (((fl.toUInt32 >>> ((1 : Int32) &&& 31).toUInt32).toInt32) &&& (3 : Int32))), .val (.int (1 : Int32)), .val (.int mk), .val (.ref b150), .val (.ref b145), .unset] [(.ref b153)])) st153 ?_
            refine own_st (T' := T153) (g' := (mkF m 135 #[.val (.int pa), .val (.int pb), .val (.int pc_), .val (.int po), .val (.int fl), .val (.int c0), .val (.int c1), .val (.int (1 : Int32)), .val (.int (((fl.toUInt32 >>> ((1 : Int32) &&& 31).toUInt32).toInt32) &&& (3 : Int32))), .val (.int (1 : Int32)), .val (.int mk), .val (.ref b150), .val (.ref b145), .unset] [(.int (1 : Int32)), (.int po), (.ref b150), (.ref b153), (.ref b153)])) (fun t k => ?_) ?_
            · show Steps p.tables e below (T153.setTop (mkF m 129 #[.val (.int pa), .val (.int pb), .val (.int pc_), .val (.int po), .val (.int fl), .val (.int c0), .val (.int c1), .val (.int (1 : Int32)), .val (.int (((fl.toUInt32 >>> ((1 : Int32) &&& 31).toUInt32).toInt32) &&& (3 : Int32))), .val (.int (1 : Int32)), .val (.int mk), .val (.ref b150), .val (.ref b145), .unset] [(.ref b153)])) t
              refine XS.dup X153.here hx rfl (hb hby at_129) rfl rfl ?_
              refine XS.aload X153.here hx rfl (hb hby at_130) rfl rfl ?_
              refine XS.iloadN X153.here hx rfl (hb hby at_132) rfl ?_
              refine XS.iload X153.here hx rfl (hb hby at_133) rfl ?_
              exact k
            obtain ⟨_, _, ⟨T156, L156, c156, n156⟩, -, X156, ⟨Lc156, hQ156, l156, y156, z156⟩, st156⟩ := X153.specialBack hx (y := (⟨"com/example/vested_roles/vestedroles/Tokens$Token", "<init>", "(Ljava/lang/String;IZ)V"⟩ : MethodName)) rfl hown (mvT hZ (hw _ (List.mem_of_getElem? (i := 30) rfl))) (mvT hZ (hw _ (List.mem_of_getElem? (i := 31) rfl))) (mvT hZ (hw _ (List.mem_of_getElem? (i := 32) rfl))) (by decide) (backOf (W := 1) (own_rm6_1 l Z a0 hw [] b153 b150 po cs fm h153 n0 Z153 O153 A153 (D153 (Or.inr (hw _ (List.mem_of_getElem? (i := 40) rfl))) (ty := (.object "java/lang/String")) (by decide) : Fld Z h153 b153 "com/example/vested_roles/vestedroles/Tokens$Token" "text" "Ljava/lang/String;" .null) (D153 (Or.inr (hw _ (List.mem_of_getElem? (i := 42) rfl))) (ty := .int) (by decide) : Fld Z h153 b153 "com/example/vested_roles/vestedroles/Tokens$Token" "position" "I" (.int (0 : Int32))) (D153 (Or.inr (hw _ (List.mem_of_getElem? (i := 44) rfl))) (ty := .boolean) (by decide) : Fld Z h153 b153 "com/example/vested_roles/vestedroles/Tokens$Token" "isName" "Z" (.int (0 : Int32))) g_b153 hcs hfm S_cs S_fm S_ad S_hb S_lb) hZ (hw _ (List.mem_of_getElem? (i := 32) rfl)) (hw _ (List.mem_of_getElem? (i := 29) rfl)) (by decide) (by decide)) (g := (mkF m 135 #[.val (.int pa), .val (.int pb), .val (.int pc_), .val (.int po), .val (.int fl), .val (.int c0), .val (.int c1), .val (.int (1 : Int32)), .val (.int (((fl.toUInt32 >>> ((1 : Int32) &&& 31).toUInt32).toInt32) &&& (3 : Int32))), .val (.int (1 : Int32)), .val (.int mk), .val (.ref b150), .val (.ref b145), .unset] [(.int (1 : Int32)), (.int po), (.ref b150), (.ref b153), (.ref b153)])) rfl (by rw [hml]; rfl) (Steps.refl _) (a := b153) (argsL := [(.ref b150), (.int po), (.int (1 : Int32))]) (rest := [(.ref b153)]) (lenOf own_pd19 rfl) rfl (by show 2 * 0 + _ ≤ _; exact Nat.le_of_eq rfl) (hb hby at_135) (fun _ _ => ⟨rfl, e153, (by decide : 5 + 0 ≤ _), (by decide : 15 + 0 ≤ _)⟩)
            dsimp only [Pt.U, Pt.locs, Pt.cells, Pt.slots] at X156 l156 y156 z156 st156 hQ156
            subst l156 y156 z156
            obtain ⟨h156, e156⟩ : ∃ z, T156.heap = z := ⟨_, rfl⟩
            rw [e156] at hQ156
            obtain ⟨rfl, N156q, Kc156, Fx156, Fn156⟩ := hQ156
            have N156 := Fr.app N152 N156q
            have K156 : Keep h0 h156 [] := K153.trans Kc156 (allS (Or.inr hz_b153) all0)
            have Z156 : n0 ≤ h156.size := Nat.le_trans Z153 Kc156.1
            have O156 := O153.keep Kc156 (allS g_b153 all0)
            refine own_tr (T' := T156) (g' := (mkF m 138 #[.val (.int pa), .val (.int pb), .val (.int pc_), .val (.int po), .val (.int fl), .val (.int c0), .val (.int c1), .val (.int (1 : Int32)), .val (.int (((fl.toUInt32 >>> ((1 : Int32) &&& 31).toUInt32).toInt32) &&& (3 : Int32))), .val (.int (1 : Int32)), .val (.int mk), .val (.ref b150), .val (.ref b145), .unset] [(.ref b153)])) st156 ?_
            refine own_st (T' := T156) (g' := (mkF m 169 #[.val (.int pa), .val (.int pb), .val (.int pc_), .val (.int po), .val (.int fl), .val (.int c0), .val (.int c1), .val (.int (1 : Int32)), .val (.int (((fl.toUInt32 >>> ((1 : Int32) &&& 31).toUInt32).toInt32) &&& (3 : Int32))), .val (.int (1 : Int32)), .val (.int mk), .val (.ref b150), .val (.ref b153), .val (.int (0 : Int32))] [(.int mk), (.ref b153)])) (fun t k => ?_) ?_
            · show Steps p.tables e below (T156.setTop (mkF m 138 #[.val (.int pa), .val (.int pb), .val (.int pc_), .val (.int po), .val (.int fl), .val (.int c0), .val (.int c1), .val (.int (1 : Int32)), .val (.int (((fl.toUInt32 >>> ((1 : Int32) &&& 31).toUInt32).toInt32) &&& (3 : Int32))), .val (.int (1 : Int32)), .val (.int mk), .val (.ref b150), .val (.ref b145), .unset] [(.ref b153)])) t
              refine XS.astore X156.here hx rfl (hb hby at_138) rfl rfl (l' := #[.val (.int pa), .val (.int pb), .val (.int pc_), .val (.int po), .val (.int fl), .val (.int c0), .val (.int c1), .val (.int (1 : Int32)), .val (.int (((fl.toUInt32 >>> ((1 : Int32) &&& 31).toUInt32).toInt32) &&& (3 : Int32))), .val (.int (1 : Int32)), .val (.int mk), .val (.ref b150), .val (.ref b153), .unset]) rfl ?_
              refine XS.iload X156.here hx rfl (hb hby at_140) rfl ?_
              refine XS.ifNo X156.here hx rfl (hb hby at_142) rfl ((if0 _ _).trans (feq (by decide : ¬ ((1 : Int32) = (0 : Int32)))).1) ?_
              refine XS.iconst X156.here hx rfl (hb hby at_145) ?_
              refine XS.istore X156.here hx rfl (hb hby at_146) rfl (l' := #[.val (.int pa), .val (.int pb), .val (.int pc_), .val (.int po), .val (.int fl), .val (.int c0), .val (.int c1), .val (.int (1 : Int32)), .val (.int (((fl.toUInt32 >>> ((1 : Int32) &&& 31).toUInt32).toInt32) &&& (3 : Int32))), .val (.int (1 : Int32)), .val (.int mk), .val (.ref b150), .val (.ref b153), .val (.int (0 : Int32))]) rfl ?_
              refine XS.goto X156.here hx rfl (pc0 := 148) (pc' := 165) rfl (hb hby at_148) (by decide) (by decide) ?_
              refine XS.aload X156.here hx rfl (hb hby at_165) rfl rfl ?_
              refine XS.iload X156.here hx rfl (hb hby at_167) rfl ?_
              exact k
            have f158 := A153.keep Kc156
            obtain ⟨cq157, kq157, q157a, q157b, q157c⟩ := isOf hZ e156 f158
            obtain ⟨_, _, ⟨T157, L157, c157, n157⟩, -, X157, ⟨Lc157, hQ157, l157, y157, z157⟩, st157⟩ := X156.virtualBack hx (y := (⟨"com/example/vested_roles/vestedroles/Tokens$Token", "is", "(C)Z"⟩ : MethodName)) (z := (⟨"com/example/vested_roles/vestedroles/Tokens$Token", "is", "(C)Z"⟩ : MethodName)) hown (mvT hZ (hw _ (List.mem_of_getElem? (i := 45) rfl))) (mvT hZ (hw _ (List.mem_of_getElem? (i := 46) rfl))) (notFace_of_selects (args := #[]) (mvT hZ (hw _ (List.mem_of_getElem? (i := 48) rfl)))) (mvT hZ (hw _ (List.mem_of_getElem? (i := 48) rfl))) (mvT hZ (hw _ (List.mem_of_getElem? (i := 47) rfl))) (by decide) (backOf (W := 0) (own_rm8n l Z a0 hw [] b153 mk cs fm h156 n0 Z156 O156 Fn156 hcs hfm S_cs S_fm S_ad S_hb S_lb) hZ (hw _ (List.mem_of_getElem? (i := 49) rfl)) (hw _ (List.mem_of_getElem? (i := 29) rfl)) (by decide) (by decide)) q157a q157c (g := (mkF m 169 #[.val (.int pa), .val (.int pb), .val (.int pc_), .val (.int po), .val (.int fl), .val (.int c0), .val (.int c1), .val (.int (1 : Int32)), .val (.int (((fl.toUInt32 >>> ((1 : Int32) &&& 31).toUInt32).toInt32) &&& (3 : Int32))), .val (.int (1 : Int32)), .val (.int mk), .val (.ref b150), .val (.ref b153), .val (.int (0 : Int32))] [(.int mk), (.ref b153)])) rfl (by rw [hml]; rfl) (Steps.refl _) (argsL := [(.int mk)]) (rest := []) (lenOf own_pd13 rfl) rfl (by show 2 * 0 + _ ≤ _; exact Nat.le_of_eq rfl) (hb hby at_169) (fun _ _ => ⟨rfl, e156, (by decide : 5 + 0 ≤ _), (by decide : 15 + 0 ≤ _)⟩)
            dsimp only [Pt.U, Pt.locs, Pt.cells, Pt.slots] at X157 l157 y157 z157 st157 hQ157
            subst l157 y157 z157
            obtain ⟨rfl, N157q, e157⟩ := hQ157
            have N157 := Fr.app N156 N157q
            refine own_tr (T' := T157) (g' := (mkF m 172 #[.val (.int pa), .val (.int pb), .val (.int pc_), .val (.int po), .val (.int fl), .val (.int c0), .val (.int c1), .val (.int (1 : Int32)), .val (.int (((fl.toUInt32 >>> ((1 : Int32) &&& 31).toUInt32).toInt32) &&& (3 : Int32))), .val (.int (1 : Int32)), .val (.int mk), .val (.ref b150), .val (.ref b153), .val (.int (0 : Int32))] [(.int (0 : Int32))])) st157 ?_
            refine own_st (T' := T157) (g' := (mkF m 182 #[.val (.int pa), .val (.int pb), .val (.int pc_), .val (.int po), .val (.int fl), .val (.int c0), .val (.int c1), .val (.int (1 : Int32)), .val (.int (((fl.toUInt32 >>> ((1 : Int32) &&& 31).toUInt32).toInt32) &&& (3 : Int32))), .val (.int (1 : Int32)), .val (.int mk), .val (.ref b150), .val (.ref b153), .val (.int (0 : Int32))] [(.int (1 : Int32))])) (fun t k => ?_) ?_
            · show Steps p.tables e below (T157.setTop (mkF m 172 #[.val (.int pa), .val (.int pb), .val (.int pc_), .val (.int po), .val (.int fl), .val (.int c0), .val (.int c1), .val (.int (1 : Int32)), .val (.int (((fl.toUInt32 >>> ((1 : Int32) &&& 31).toUInt32).toInt32) &&& (3 : Int32))), .val (.int (1 : Int32)), .val (.int mk), .val (.ref b150), .val (.ref b153), .val (.int (0 : Int32))] [(.int (0 : Int32))])) t
              refine XS.iload X157.here hx rfl (hb hby at_172) rfl ?_
              refine XS.icmpNo X157.here hx rfl (hb hby at_174) rfl (teq (rfl : (0 : Int32) = (0 : Int32))).2 ?_
              refine XS.iconst X157.here hx rfl (hb hby at_177) ?_
              refine XS.goto X157.here hx rfl (pc0 := 178) (pc' := 182) rfl (hb hby at_178) (by decide) (by decide) ?_
              exact k
            exact own_retN X157 hx Bd (t := .boolean) (by simp) rfl (hb hby at_182) e157 (⟨rfl, N157⟩) (by decide) (by decide)
          · refine own_st (T' := T130) (g' := (mkF m 89 #[.val (.int pa), .val (.int pb), .val (.int pc_), .val (.int po), .val (.int fl), .val (.int c0), .val (.int c1), .val (.int (1 : Int32)), .val (.int (((fl.toUInt32 >>> ((1 : Int32) &&& 31).toUInt32).toInt32) &&& (3 : Int32))), .val (.int (1 : Int32)), .val (.int mk), .unset, .unset, .unset] [(.int (2 : Int32))])) (fun t k => ?_) ?_
            · show Steps p.tables e below (T130.setTop (mkF m 83 #[.val (.int pa), .val (.int pb), .val (.int pc_), .val (.int po), .val (.int fl), .val (.int c0), .val (.int c1), .val (.int (1 : Int32)), .val (.int (((fl.toUInt32 >>> ((1 : Int32) &&& 31).toUInt32).toInt32) &&& (3 : Int32))), .val (.int (1 : Int32)), .val (.int mk), .unset, .unset, .unset] [])) t
              refine XS.iload X130.here hx rfl (hb hby at_83) rfl ?_
              refine XS.ifNo X130.here hx rfl (hb hby at_85) rfl ((if0 _ _).trans (feq (by decide : ¬ ((1 : Int32) = (0 : Int32)))).1) ?_
              refine XS.iconst X130.here hx rfl (hb hby at_88) ?_
              exact k
            obtain ⟨T159, h159, k159, X159, e159, E159, A159, st159⟩ := newP X130 hx hZ (hw _ (List.mem_of_getElem? (i := 71) rfl)) e130 (g := (mkF m 89 #[.val (.int pa), .val (.int pb), .val (.int pc_), .val (.int po), .val (.int fl), .val (.int c0), .val (.int c1), .val (.int (1 : Int32)), .val (.int (((fl.toUInt32 >>> ((1 : Int32) &&& 31).toUInt32).toInt32) &&& (3 : Int32))), .val (.int (1 : Int32)), .val (.int mk), .unset, .unset, .unset] [(.int (2 : Int32))])) rfl (hb hby at_89) rfl (by decide) (cap := 2) (by decide) (by decide) (by decide) (by decide)
            obtain ⟨b159, g159⟩ : ∃ z, z = h0.size := ⟨_, rfl⟩
            rw [← g159] at A159 st159
            have sz159 : h0.size ≤ b159 := Nat.le_of_eq g159.symm
            have g_b159 : n0 ≤ b159 := Nat.le_trans Z0 sz159
            have hz_b159 : h0.size ≤ b159 := Nat.le_trans (Keep.refl h0 []).1 sz159
            have K159 : Keep h0 h159 [] := (Keep.refl h0 []).ext E159
            have Z159 : n0 ≤ h159.size := Nat.le_trans Z0 E159.1
            have O159 := O0.ext E159
            have V159 : Arv Z h159 b159 k159 .char (2 : Int32) [(.int (0 : Int32)), (.int (0 : Int32))] (.int (0 : Int32)) := (Arv.new A159 (by decide)).pad (pad_rep [] (.int (0 : Int32)) 2)
            refine own_st (T' := T159) (g' := (mkF m 91 #[.val (.int pa), .val (.int pb), .val (.int pc_), .val (.int po), .val (.int fl), .val (.int c0), .val (.int c1), .val (.int (1 : Int32)), .val (.int (((fl.toUInt32 >>> ((1 : Int32) &&& 31).toUInt32).toInt32) &&& (3 : Int32))), .val (.int (1 : Int32)), .val (.int mk), .unset, .unset, .unset] [(.ref b159)])) st159 ?_
            refine own_st (T' := T159) (g' := (mkF m 98 #[.val (.int pa), .val (.int pb), .val (.int pc_), .val (.int po), .val (.int fl), .val (.int c0), .val (.int c1), .val (.int (1 : Int32)), .val (.int (((fl.toUInt32 >>> ((1 : Int32) &&& 31).toUInt32).toInt32) &&& (3 : Int32))), .val (.int (1 : Int32)), .val (.int mk), .unset, .val (.ref b159), .unset] [(.int c0), (.int (0 : Int32)), (.ref b159)])) (fun t k => ?_) ?_
            · show Steps p.tables e below (T159.setTop (mkF m 91 #[.val (.int pa), .val (.int pb), .val (.int pc_), .val (.int po), .val (.int fl), .val (.int c0), .val (.int c1), .val (.int (1 : Int32)), .val (.int (((fl.toUInt32 >>> ((1 : Int32) &&& 31).toUInt32).toInt32) &&& (3 : Int32))), .val (.int (1 : Int32)), .val (.int mk), .unset, .unset, .unset] [(.ref b159)])) t
              refine XS.astore X159.here hx rfl (hb hby at_91) rfl rfl (l' := #[.val (.int pa), .val (.int pb), .val (.int pc_), .val (.int po), .val (.int fl), .val (.int c0), .val (.int c1), .val (.int (1 : Int32)), .val (.int (((fl.toUInt32 >>> ((1 : Int32) &&& 31).toUInt32).toInt32) &&& (3 : Int32))), .val (.int (1 : Int32)), .val (.int mk), .unset, .val (.ref b159), .unset]) rfl ?_
              refine XS.aload X159.here hx rfl (hb hby at_93) rfl rfl ?_
              refine XS.iconst X159.here hx rfl (hb hby at_95) ?_
              refine XS.iload X159.here hx rfl (hb hby at_96) rfl ?_
              exact k
            obtain ⟨cl160, Ar160, q160, S160, M160, H160, G160⟩ := id V159
            obtain ⟨T161, h161, X161, e161, W161, st161⟩ := stC X159 hx hZ e159 Ar160 (j := (0 : Int32)) (inb_of S160 ⟨by decide, by decide⟩) (g := (mkF m 98 #[.val (.int pa), .val (.int pb), .val (.int pc_), .val (.int po), .val (.int fl), .val (.int c0), .val (.int c1), .val (.int (1 : Int32)), .val (.int (((fl.toUInt32 >>> ((1 : Int32) &&& 31).toUInt32).toInt32) &&& (3 : Int32))), .val (.int (1 : Int32)), .val (.int mk), .unset, .val (.ref b159), .unset] [(.int c0), (.int (0 : Int32)), (.ref b159)])) rfl rfl (hb hby at_98)
            have N161 := Fr.snoc X161 N130 g_b159
            have K161 : Keep h0 h161 [] := K159.wr W161 (Or.inr hz_b159)
            have Z161 : n0 ≤ h161.size := Nat.le_trans Z159 (Keep.of_wr W161).1
            have O161 := O159.wr W161 g_b159
            have fw161 := (show Arv Z h161 b159 k159 .char (2 : Int32) [(.int c0), (.int (0 : Int32))] (.int (0 : Int32)) by have q : Arv Z h161 b159 k159 .char (2 : Int32) [(.int (c0.toUInt32.toUInt16.toUInt32.toInt32)), (.int (0 : Int32))] (.int (0 : Int32)) := Arv.set Ar160 q160 S160 M160 H160 G160 (fits_nar_char _) W161 0 rfl (Nat.le_of_ble_eq_true rfl); rw [own_u16_id rg0] at q; exact q)
            refine own_st (T' := T161) (g' := (mkF m 99 #[.val (.int pa), .val (.int pb), .val (.int pc_), .val (.int po), .val (.int fl), .val (.int c0), .val (.int c1), .val (.int (1 : Int32)), .val (.int (((fl.toUInt32 >>> ((1 : Int32) &&& 31).toUInt32).toInt32) &&& (3 : Int32))), .val (.int (1 : Int32)), .val (.int mk), .unset, .val (.ref b159), .unset] [])) st161 ?_
            refine own_st (T' := T161) (g' := (mkF m 104 #[.val (.int pa), .val (.int pb), .val (.int pc_), .val (.int po), .val (.int fl), .val (.int c0), .val (.int c1), .val (.int (1 : Int32)), .val (.int (((fl.toUInt32 >>> ((1 : Int32) &&& 31).toUInt32).toInt32) &&& (3 : Int32))), .val (.int (1 : Int32)), .val (.int mk), .unset, .val (.ref b159), .unset] [(.int c1), (.int (1 : Int32)), (.ref b159)])) (fun t k => ?_) ?_
            · show Steps p.tables e below (T161.setTop (mkF m 99 #[.val (.int pa), .val (.int pb), .val (.int pc_), .val (.int po), .val (.int fl), .val (.int c0), .val (.int c1), .val (.int (1 : Int32)), .val (.int (((fl.toUInt32 >>> ((1 : Int32) &&& 31).toUInt32).toInt32) &&& (3 : Int32))), .val (.int (1 : Int32)), .val (.int mk), .unset, .val (.ref b159), .unset] [])) t
              refine XS.aload X161.here hx rfl (hb hby at_99) rfl rfl ?_
              refine XS.iconst X161.here hx rfl (hb hby at_101) ?_
              refine XS.iload X161.here hx rfl (hb hby at_102) rfl ?_
              exact k
            obtain ⟨cl162, Ar162, q162, S162, M162, H162, G162⟩ := id fw161
            obtain ⟨T163, h163, X163, e163, W163, st163⟩ := stC X161 hx hZ e161 Ar162 (j := (1 : Int32)) (inb_of S162 ⟨by decide, by decide⟩) (g := (mkF m 104 #[.val (.int pa), .val (.int pb), .val (.int pc_), .val (.int po), .val (.int fl), .val (.int c0), .val (.int c1), .val (.int (1 : Int32)), .val (.int (((fl.toUInt32 >>> ((1 : Int32) &&& 31).toUInt32).toInt32) &&& (3 : Int32))), .val (.int (1 : Int32)), .val (.int mk), .unset, .val (.ref b159), .unset] [(.int c1), (.int (1 : Int32)), (.ref b159)])) rfl rfl (hb hby at_104)
            have N163 := Fr.snoc X163 N161 g_b159
            have K163 : Keep h0 h163 [] := K161.wr W163 (Or.inr hz_b159)
            have Z163 : n0 ≤ h163.size := Nat.le_trans Z161 (Keep.of_wr W163).1
            have O163 := O161.wr W163 g_b159
            have fw163 := (show Arv Z h163 b159 k159 .char (2 : Int32) [(.int c0), (.int c1)] (.int (0 : Int32)) by have q : Arv Z h163 b159 k159 .char (2 : Int32) [(.int c0), (.int (c1.toUInt32.toUInt16.toUInt32.toInt32))] (.int (0 : Int32)) := Arv.set Ar162 q162 S162 M162 H162 G162 (fits_nar_char _) W163 1 rfl (Nat.le_of_ble_eq_true rfl); rw [own_u16_id rg1] at q; exact q)
            refine own_st (T' := T163) (g' := (mkF m 105 #[.val (.int pa), .val (.int pb), .val (.int pc_), .val (.int po), .val (.int fl), .val (.int c0), .val (.int c1), .val (.int (1 : Int32)), .val (.int (((fl.toUInt32 >>> ((1 : Int32) &&& 31).toUInt32).toInt32) &&& (3 : Int32))), .val (.int (1 : Int32)), .val (.int mk), .unset, .val (.ref b159), .unset] [])) st163 ?_
            obtain ⟨T164, h164, X164, e164, E164, A164, D164, U164, st164⟩ := newO X163 hx hZ hown (hw _ (List.mem_of_getElem? (i := 72) rfl)) (hw _ (List.mem_of_getElem? (i := 11) rfl)) (hw _ (List.mem_of_getElem? (i := 3) rfl)) e163 (g := (mkF m 105 #[.val (.int pa), .val (.int pb), .val (.int pc_), .val (.int po), .val (.int fl), .val (.int c0), .val (.int c1), .val (.int (1 : Int32)), .val (.int (((fl.toUInt32 >>> ((1 : Int32) &&& 31).toUInt32).toInt32) &&& (3 : Int32))), .val (.int (1 : Int32)), .val (.int mk), .unset, .val (.ref b159), .unset] [])) rfl (hb hby at_105) (by decide) (by decide)
            obtain ⟨b164, g164⟩ : ∃ z, z = h163.size := ⟨_, rfl⟩
            rw [← g164] at A164 D164 U164 st164
            have sz164 : h163.size ≤ b164 := Nat.le_of_eq g164.symm
            have ne_b159_b164 : b159 ≠ b164 := Nat.ne_of_lt (Nat.lt_of_lt_of_le fw163.lt sz164)
            have g_b164 : n0 ≤ b164 := Nat.le_trans Z163 sz164
            have hz_b164 : h0.size ≤ b164 := Nat.le_trans K163.1 sz164
            have K164 : Keep h0 h164 [] := K163.ext E164
            have Z164 : n0 ≤ h164.size := Nat.le_trans Z163 E164.1
            have O164 := O163.ext E164
            refine own_st (T' := T164) (g' := (mkF m 108 #[.val (.int pa), .val (.int pb), .val (.int pc_), .val (.int po), .val (.int fl), .val (.int c0), .val (.int c1), .val (.int (1 : Int32)), .val (.int (((fl.toUInt32 >>> ((1 : Int32) &&& 31).toUInt32).toInt32) &&& (3 : Int32))), .val (.int (1 : Int32)), .val (.int mk), .unset, .val (.ref b159), .unset] [(.ref b164)])) st164 ?_
            refine own_st (T' := T164) (g' := (mkF m 111 #[.val (.int pa), .val (.int pb), .val (.int pc_), .val (.int po), .val (.int fl), .val (.int c0), .val (.int c1), .val (.int (1 : Int32)), .val (.int (((fl.toUInt32 >>> ((1 : Int32) &&& 31).toUInt32).toInt32) &&& (3 : Int32))), .val (.int (1 : Int32)), .val (.int mk), .unset, .val (.ref b159), .unset] [(.ref b159), (.ref b164), (.ref b164)])) (fun t k => ?_) ?_
            · show Steps p.tables e below (T164.setTop (mkF m 108 #[.val (.int pa), .val (.int pb), .val (.int pc_), .val (.int po), .val (.int fl), .val (.int c0), .val (.int c1), .val (.int (1 : Int32)), .val (.int (((fl.toUInt32 >>> ((1 : Int32) &&& 31).toUInt32).toInt32) &&& (3 : Int32))), .val (.int (1 : Int32)), .val (.int mk), .unset, .val (.ref b159), .unset] [(.ref b164)])) t
              refine XS.dup X164.here hx rfl (hb hby at_108) rfl rfl ?_
              refine XS.aload X164.here hx rfl (hb hby at_109) rfl rfl ?_
              exact k
            have f165 := fw163.ext E164
            obtain ⟨_, _, ⟨T166, L166, c166, n166⟩, -, X166, ⟨Lc166, hQ166, l166, y166, z166⟩, st166⟩ := X164.specialBack hx (y := (⟨"java/lang/String", "<init>", "([C)V"⟩ : MethodName)) rfl hown (mvT hZ (hw _ (List.mem_of_getElem? (i := 73) rfl))) (mvT hZ (hw _ (List.mem_of_getElem? (i := 74) rfl))) (mvT hZ (hw _ (List.mem_of_getElem? (i := 75) rfl))) (by decide) (backOf (W := 1) (own_rm14c l Z a0 hw [] b164 b159 k159 c0 c1 cs fm h164 n0 Z164 O164 A164 (D164 (Or.inr (hw _ (List.mem_of_getElem? (i := 24) rfl))) (ty := (.array .byte)) (by decide) : Fld Z h164 b164 "java/lang/String" "value" "[B" .null) (D164 (Or.inr (hw _ (List.mem_of_getElem? (i := 26) rfl))) (ty := .byte) (by decide) : Fld Z h164 b164 "java/lang/String" "coder" "B" (.int (0 : Int32))) g_b164 f165 (Ne.symm ne_b159_b164) h0c h1c rg0 rg1 hcs hfm S_cs S_fm S_ad S_hb S_lb) hZ (hw _ (List.mem_of_getElem? (i := 75) rfl)) (hw _ (List.mem_of_getElem? (i := 3) rfl)) (by decide) (by decide)) (g := (mkF m 111 #[.val (.int pa), .val (.int pb), .val (.int pc_), .val (.int po), .val (.int fl), .val (.int c0), .val (.int c1), .val (.int (1 : Int32)), .val (.int (((fl.toUInt32 >>> ((1 : Int32) &&& 31).toUInt32).toInt32) &&& (3 : Int32))), .val (.int (1 : Int32)), .val (.int mk), .unset, .val (.ref b159), .unset] [(.ref b159), (.ref b164), (.ref b164)])) rfl (by rw [hml]; rfl) (Steps.refl _) (a := b164) (argsL := [(.ref b159)]) (rest := [(.ref b164)]) (lenOf own_pd20 rfl) rfl (by show 2 * 0 + _ ≤ _; exact Nat.le_of_eq rfl) (hb hby at_111) (fun _ _ => ⟨rfl, e164, (by decide : 2 + 1 ≤ _), (by decide : 6 + 2 ≤ _)⟩)
            dsimp only [Pt.U, Pt.locs, Pt.cells, Pt.slots] at X166 l166 y166 z166 st166 hQ166
            subst l166 y166 z166
            obtain ⟨h166, e166⟩ : ∃ z, T166.heap = z := ⟨_, rfl⟩
            rw [e166] at hQ166
            obtain ⟨t166, k166, rfl, N166q, Kc166, g166, hz166, Fv166, Fo166, Vc166⟩ := hQ166
            have N166 := Fr.app N163 N166q
            have ne_b159_t166 : b159 ≠ t166 := Nat.ne_of_lt (Nat.lt_of_lt_of_le f165.lt hz166)
            have ne_b164_t166 : b164 ≠ t166 := Nat.ne_of_lt (Nat.lt_of_lt_of_le A164.lt hz166)
            have hwt166 : h0.size ≤ t166 := Nat.le_trans K164.1 hz166
            have K166 : Keep h0 h166 [] := K164.trans Kc166 (allS (Or.inr hz_b164) all0)
            have Z166 : n0 ≤ h166.size := Nat.le_trans Z164 Kc166.1
            have O166 := O164.keep Kc166 (allS g_b164 all0)
            refine own_tr (T' := T166) (g' := (mkF m 114 #[.val (.int pa), .val (.int pb), .val (.int pc_), .val (.int po), .val (.int fl), .val (.int c0), .val (.int c1), .val (.int (1 : Int32)), .val (.int (((fl.toUInt32 >>> ((1 : Int32) &&& 31).toUInt32).toInt32) &&& (3 : Int32))), .val (.int (1 : Int32)), .val (.int mk), .unset, .val (.ref b159), .unset] [(.ref b164)])) st166 ?_
            refine own_st (T' := T166) (g' := (mkF m 126 #[.val (.int pa), .val (.int pb), .val (.int pc_), .val (.int po), .val (.int fl), .val (.int c0), .val (.int c1), .val (.int (1 : Int32)), .val (.int (((fl.toUInt32 >>> ((1 : Int32) &&& 31).toUInt32).toInt32) &&& (3 : Int32))), .val (.int (1 : Int32)), .val (.int mk), .val (.ref b164), .val (.ref b159), .unset] [])) (fun t k => ?_) ?_
            · show Steps p.tables e below (T166.setTop (mkF m 114 #[.val (.int pa), .val (.int pb), .val (.int pc_), .val (.int po), .val (.int fl), .val (.int c0), .val (.int c1), .val (.int (1 : Int32)), .val (.int (((fl.toUInt32 >>> ((1 : Int32) &&& 31).toUInt32).toInt32) &&& (3 : Int32))), .val (.int (1 : Int32)), .val (.int mk), .unset, .val (.ref b159), .unset] [(.ref b164)])) t
              refine XS.astore X166.here hx rfl (hb hby at_114) rfl rfl (l' := #[.val (.int pa), .val (.int pb), .val (.int pc_), .val (.int po), .val (.int fl), .val (.int c0), .val (.int c1), .val (.int (1 : Int32)), .val (.int (((fl.toUInt32 >>> ((1 : Int32) &&& 31).toUInt32).toInt32) &&& (3 : Int32))), .val (.int (1 : Int32)), .val (.int mk), .val (.ref b164), .val (.ref b159), .unset]) rfl ?_
              refine XS.goto X166.here hx rfl (pc0 := 116) (pc' := 126) rfl (hb hby at_116) (by decide) (by decide) ?_
              exact k
            obtain ⟨T167, h167, X167, e167, E167, A167, D167, U167, st167⟩ := newO X166 hx hZ hown (hw _ (List.mem_of_getElem? (i := 27) rfl)) (hw _ (List.mem_of_getElem? (i := 28) rfl)) (hw _ (List.mem_of_getElem? (i := 29) rfl)) e166 (g := (mkF m 126 #[.val (.int pa), .val (.int pb), .val (.int pc_), .val (.int po), .val (.int fl), .val (.int c0), .val (.int c1), .val (.int (1 : Int32)), .val (.int (((fl.toUInt32 >>> ((1 : Int32) &&& 31).toUInt32).toInt32) &&& (3 : Int32))), .val (.int (1 : Int32)), .val (.int mk), .val (.ref b164), .val (.ref b159), .unset] [])) rfl (hb hby at_126) (by decide) (by decide)
            obtain ⟨b167, g167⟩ : ∃ z, z = h166.size := ⟨_, rfl⟩
            rw [← g167] at A167 D167 U167 st167
            have sz167 : h166.size ≤ b167 := Nat.le_of_eq g167.symm
            have f168 := f165.keep Kc166 (ninS ne_b159_b164 nin0)
            have ne_b159_b167 : b159 ≠ b167 := Nat.ne_of_lt (Nat.lt_of_lt_of_le f168.lt sz167)
            have f169 := A164.keep Kc166
            have ne_b164_b167 : b164 ≠ b167 := Nat.ne_of_lt (Nat.lt_of_lt_of_le f169.lt sz167)
            have ne_t166_b167 : t166 ≠ b167 := Nat.ne_of_lt (Nat.lt_of_lt_of_le Vc166.lt sz167)
            have g_b167 : n0 ≤ b167 := Nat.le_trans Z166 sz167
            have hz_b167 : h0.size ≤ b167 := Nat.le_trans K166.1 sz167
            have K167 : Keep h0 h167 [] := K166.ext E167
            have Z167 : n0 ≤ h167.size := Nat.le_trans Z166 E167.1
            have O167 := O166.ext E167
            refine own_st (T' := T167) (g' := (mkF m 129 #[.val (.int pa), .val (.int pb), .val (.int pc_), .val (.int po), .val (.int fl), .val (.int c0), .val (.int c1), .val (.int (1 : Int32)), .val (.int (((fl.toUInt32 >>> ((1 : Int32) &&& 31).toUInt32).toInt32) &&& (3 : Int32))), .val (.int (1 : Int32)), .val (.int mk), .val (.ref b164), .val (.ref b159), .unset] [(.ref b167)])) st167 ?_
            refine own_st (T' := T167) (g' := (mkF m 135 #[.val (.int pa), .val (.int pb), .val (.int pc_), .val (.int po), .val (.int fl), .val (.int c0), .val (.int c1), .val (.int (1 : Int32)), .val (.int (((fl.toUInt32 >>> ((1 : Int32) &&& 31).toUInt32).toInt32) &&& (3 : Int32))), .val (.int (1 : Int32)), .val (.int mk), .val (.ref b164), .val (.ref b159), .unset] [(.int (1 : Int32)), (.int po), (.ref b164), (.ref b167), (.ref b167)])) (fun t k => ?_) ?_
            · show Steps p.tables e below (T167.setTop (mkF m 129 #[.val (.int pa), .val (.int pb), .val (.int pc_), .val (.int po), .val (.int fl), .val (.int c0), .val (.int c1), .val (.int (1 : Int32)), .val (.int (((fl.toUInt32 >>> ((1 : Int32) &&& 31).toUInt32).toInt32) &&& (3 : Int32))), .val (.int (1 : Int32)), .val (.int mk), .val (.ref b164), .val (.ref b159), .unset] [(.ref b167)])) t
              refine XS.dup X167.here hx rfl (hb hby at_129) rfl rfl ?_
              refine XS.aload X167.here hx rfl (hb hby at_130) rfl rfl ?_
              refine XS.iloadN X167.here hx rfl (hb hby at_132) rfl ?_
              refine XS.iload X167.here hx rfl (hb hby at_133) rfl ?_
              exact k
            obtain ⟨_, _, ⟨T170, L170, c170, n170⟩, -, X170, ⟨Lc170, hQ170, l170, y170, z170⟩, st170⟩ := X167.specialBack hx (y := (⟨"com/example/vested_roles/vestedroles/Tokens$Token", "<init>", "(Ljava/lang/String;IZ)V"⟩ : MethodName)) rfl hown (mvT hZ (hw _ (List.mem_of_getElem? (i := 30) rfl))) (mvT hZ (hw _ (List.mem_of_getElem? (i := 31) rfl))) (mvT hZ (hw _ (List.mem_of_getElem? (i := 32) rfl))) (by decide) (backOf (W := 1) (own_rm6_1 l Z a0 hw [] b167 b164 po cs fm h167 n0 Z167 O167 A167 (D167 (Or.inr (hw _ (List.mem_of_getElem? (i := 40) rfl))) (ty := (.object "java/lang/String")) (by decide) : Fld Z h167 b167 "com/example/vested_roles/vestedroles/Tokens$Token" "text" "Ljava/lang/String;" .null) (D167 (Or.inr (hw _ (List.mem_of_getElem? (i := 42) rfl))) (ty := .int) (by decide) : Fld Z h167 b167 "com/example/vested_roles/vestedroles/Tokens$Token" "position" "I" (.int (0 : Int32))) (D167 (Or.inr (hw _ (List.mem_of_getElem? (i := 44) rfl))) (ty := .boolean) (by decide) : Fld Z h167 b167 "com/example/vested_roles/vestedroles/Tokens$Token" "isName" "Z" (.int (0 : Int32))) g_b167 hcs hfm S_cs S_fm S_ad S_hb S_lb) hZ (hw _ (List.mem_of_getElem? (i := 32) rfl)) (hw _ (List.mem_of_getElem? (i := 29) rfl)) (by decide) (by decide)) (g := (mkF m 135 #[.val (.int pa), .val (.int pb), .val (.int pc_), .val (.int po), .val (.int fl), .val (.int c0), .val (.int c1), .val (.int (1 : Int32)), .val (.int (((fl.toUInt32 >>> ((1 : Int32) &&& 31).toUInt32).toInt32) &&& (3 : Int32))), .val (.int (1 : Int32)), .val (.int mk), .val (.ref b164), .val (.ref b159), .unset] [(.int (1 : Int32)), (.int po), (.ref b164), (.ref b167), (.ref b167)])) rfl (by rw [hml]; rfl) (Steps.refl _) (a := b167) (argsL := [(.ref b164), (.int po), (.int (1 : Int32))]) (rest := [(.ref b167)]) (lenOf own_pd19 rfl) rfl (by show 2 * 0 + _ ≤ _; exact Nat.le_of_eq rfl) (hb hby at_135) (fun _ _ => ⟨rfl, e167, (by decide : 4 + 0 ≤ _), (by decide : 11 + 0 ≤ _)⟩)
            dsimp only [Pt.U, Pt.locs, Pt.cells, Pt.slots] at X170 l170 y170 z170 st170 hQ170
            subst l170 y170 z170
            obtain ⟨h170, e170⟩ : ∃ z, T170.heap = z := ⟨_, rfl⟩
            rw [e170] at hQ170
            obtain ⟨rfl, N170q, Kc170, Fx170, Fn170⟩ := hQ170
            have N170 := Fr.app N166 N170q
            have K170 : Keep h0 h170 [] := K167.trans Kc170 (allS (Or.inr hz_b167) all0)
            have Z170 : n0 ≤ h170.size := Nat.le_trans Z167 Kc170.1
            have O170 := O167.keep Kc170 (allS g_b167 all0)
            refine own_tr (T' := T170) (g' := (mkF m 138 #[.val (.int pa), .val (.int pb), .val (.int pc_), .val (.int po), .val (.int fl), .val (.int c0), .val (.int c1), .val (.int (1 : Int32)), .val (.int (((fl.toUInt32 >>> ((1 : Int32) &&& 31).toUInt32).toInt32) &&& (3 : Int32))), .val (.int (1 : Int32)), .val (.int mk), .val (.ref b164), .val (.ref b159), .unset] [(.ref b167)])) st170 ?_
            refine own_st (T' := T170) (g' := (mkF m 169 #[.val (.int pa), .val (.int pb), .val (.int pc_), .val (.int po), .val (.int fl), .val (.int c0), .val (.int c1), .val (.int (1 : Int32)), .val (.int (((fl.toUInt32 >>> ((1 : Int32) &&& 31).toUInt32).toInt32) &&& (3 : Int32))), .val (.int (1 : Int32)), .val (.int mk), .val (.ref b164), .val (.ref b167), .val (.int (0 : Int32))] [(.int mk), (.ref b167)])) (fun t k => ?_) ?_
            · show Steps p.tables e below (T170.setTop (mkF m 138 #[.val (.int pa), .val (.int pb), .val (.int pc_), .val (.int po), .val (.int fl), .val (.int c0), .val (.int c1), .val (.int (1 : Int32)), .val (.int (((fl.toUInt32 >>> ((1 : Int32) &&& 31).toUInt32).toInt32) &&& (3 : Int32))), .val (.int (1 : Int32)), .val (.int mk), .val (.ref b164), .val (.ref b159), .unset] [(.ref b167)])) t
              refine XS.astore X170.here hx rfl (hb hby at_138) rfl rfl (l' := #[.val (.int pa), .val (.int pb), .val (.int pc_), .val (.int po), .val (.int fl), .val (.int c0), .val (.int c1), .val (.int (1 : Int32)), .val (.int (((fl.toUInt32 >>> ((1 : Int32) &&& 31).toUInt32).toInt32) &&& (3 : Int32))), .val (.int (1 : Int32)), .val (.int mk), .val (.ref b164), .val (.ref b167), .unset]) rfl ?_
              refine XS.iload X170.here hx rfl (hb hby at_140) rfl ?_
              refine XS.ifNo X170.here hx rfl (hb hby at_142) rfl ((if0 _ _).trans (feq (by decide : ¬ ((1 : Int32) = (0 : Int32)))).1) ?_
              refine XS.iconst X170.here hx rfl (hb hby at_145) ?_
              refine XS.istore X170.here hx rfl (hb hby at_146) rfl (l' := #[.val (.int pa), .val (.int pb), .val (.int pc_), .val (.int po), .val (.int fl), .val (.int c0), .val (.int c1), .val (.int (1 : Int32)), .val (.int (((fl.toUInt32 >>> ((1 : Int32) &&& 31).toUInt32).toInt32) &&& (3 : Int32))), .val (.int (1 : Int32)), .val (.int mk), .val (.ref b164), .val (.ref b167), .val (.int (0 : Int32))]) rfl ?_
              refine XS.goto X170.here hx rfl (pc0 := 148) (pc' := 165) rfl (hb hby at_148) (by decide) (by decide) ?_
              refine XS.aload X170.here hx rfl (hb hby at_165) rfl rfl ?_
              refine XS.iload X170.here hx rfl (hb hby at_167) rfl ?_
              exact k
            have f172 := A167.keep Kc170
            obtain ⟨cq171, kq171, q171a, q171b, q171c⟩ := isOf hZ e170 f172
            obtain ⟨_, _, ⟨T171, L171, c171, n171⟩, -, X171, ⟨Lc171, hQ171, l171, y171, z171⟩, st171⟩ := X170.virtualBack hx (y := (⟨"com/example/vested_roles/vestedroles/Tokens$Token", "is", "(C)Z"⟩ : MethodName)) (z := (⟨"com/example/vested_roles/vestedroles/Tokens$Token", "is", "(C)Z"⟩ : MethodName)) hown (mvT hZ (hw _ (List.mem_of_getElem? (i := 45) rfl))) (mvT hZ (hw _ (List.mem_of_getElem? (i := 46) rfl))) (notFace_of_selects (args := #[]) (mvT hZ (hw _ (List.mem_of_getElem? (i := 48) rfl)))) (mvT hZ (hw _ (List.mem_of_getElem? (i := 48) rfl))) (mvT hZ (hw _ (List.mem_of_getElem? (i := 47) rfl))) (by decide) (backOf (W := 0) (own_rm8n l Z a0 hw [] b167 mk cs fm h170 n0 Z170 O170 Fn170 hcs hfm S_cs S_fm S_ad S_hb S_lb) hZ (hw _ (List.mem_of_getElem? (i := 49) rfl)) (hw _ (List.mem_of_getElem? (i := 29) rfl)) (by decide) (by decide)) q171a q171c (g := (mkF m 169 #[.val (.int pa), .val (.int pb), .val (.int pc_), .val (.int po), .val (.int fl), .val (.int c0), .val (.int c1), .val (.int (1 : Int32)), .val (.int (((fl.toUInt32 >>> ((1 : Int32) &&& 31).toUInt32).toInt32) &&& (3 : Int32))), .val (.int (1 : Int32)), .val (.int mk), .val (.ref b164), .val (.ref b167), .val (.int (0 : Int32))] [(.int mk), (.ref b167)])) rfl (by rw [hml]; rfl) (Steps.refl _) (argsL := [(.int mk)]) (rest := []) (lenOf own_pd13 rfl) rfl (by show 2 * 0 + _ ≤ _; exact Nat.le_of_eq rfl) (hb hby at_169) (fun _ _ => ⟨rfl, e170, (by decide : 4 + 0 ≤ _), (by decide : 11 + 0 ≤ _)⟩)
            dsimp only [Pt.U, Pt.locs, Pt.cells, Pt.slots] at X171 l171 y171 z171 st171 hQ171
            subst l171 y171 z171
            obtain ⟨rfl, N171q, e171⟩ := hQ171
            have N171 := Fr.app N170 N171q
            refine own_tr (T' := T171) (g' := (mkF m 172 #[.val (.int pa), .val (.int pb), .val (.int pc_), .val (.int po), .val (.int fl), .val (.int c0), .val (.int c1), .val (.int (1 : Int32)), .val (.int (((fl.toUInt32 >>> ((1 : Int32) &&& 31).toUInt32).toInt32) &&& (3 : Int32))), .val (.int (1 : Int32)), .val (.int mk), .val (.ref b164), .val (.ref b167), .val (.int (0 : Int32))] [(.int (0 : Int32))])) st171 ?_
            refine own_st (T' := T171) (g' := (mkF m 182 #[.val (.int pa), .val (.int pb), .val (.int pc_), .val (.int po), .val (.int fl), .val (.int c0), .val (.int c1), .val (.int (1 : Int32)), .val (.int (((fl.toUInt32 >>> ((1 : Int32) &&& 31).toUInt32).toInt32) &&& (3 : Int32))), .val (.int (1 : Int32)), .val (.int mk), .val (.ref b164), .val (.ref b167), .val (.int (0 : Int32))] [(.int (1 : Int32))])) (fun t k => ?_) ?_
            · show Steps p.tables e below (T171.setTop (mkF m 172 #[.val (.int pa), .val (.int pb), .val (.int pc_), .val (.int po), .val (.int fl), .val (.int c0), .val (.int c1), .val (.int (1 : Int32)), .val (.int (((fl.toUInt32 >>> ((1 : Int32) &&& 31).toUInt32).toInt32) &&& (3 : Int32))), .val (.int (1 : Int32)), .val (.int mk), .val (.ref b164), .val (.ref b167), .val (.int (0 : Int32))] [(.int (0 : Int32))])) t
              refine XS.iload X171.here hx rfl (hb hby at_172) rfl ?_
              refine XS.icmpNo X171.here hx rfl (hb hby at_174) rfl (teq (rfl : (0 : Int32) = (0 : Int32))).2 ?_
              refine XS.iconst X171.here hx rfl (hb hby at_177) ?_
              refine XS.goto X171.here hx rfl (pc0 := 178) (pc' := 182) rfl (hb hby at_178) (by decide) (by decide) ?_
              exact k
            exact own_retN X171 hx Bd (t := .boolean) (by simp) rfl (hb hby at_182) e171 (⟨rfl, N171⟩) (by decide) (by decide)
      by_cases hc173 : (((fl.toUInt32 >>> ((1 : Int32) &&& 31).toUInt32).toInt32) &&& (3 : Int32)) = (0 : Int32)
      · refine own_st (T' := s₁) (g' := (mkF m 83 #[.val (.int pa), .val (.int pb), .val (.int pc_), .val (.int po), .val (.int fl), .val (.int c0), .val (.int c1), .val (.int (1 : Int32)), .val (.int (((fl.toUInt32 >>> ((1 : Int32) &&& 31).toUInt32).toInt32) &&& (3 : Int32))), .val (.int (1 : Int32)), .val (.int c0), .unset, .unset, .unset] [])) (fun t k => ?_) ?_
        · show Steps p.tables e below (s₁.setTop (mkF m 53 #[.val (.int pa), .val (.int pb), .val (.int pc_), .val (.int po), .val (.int fl), .val (.int c0), .val (.int c1), .val (.int (1 : Int32)), .val (.int (((fl.toUInt32 >>> ((1 : Int32) &&& 31).toUInt32).toInt32) &&& (3 : Int32))), .val (.int (1 : Int32)), .unset, .unset, .unset, .unset] [(.int (((fl.toUInt32 >>> ((1 : Int32) &&& 31).toUInt32).toInt32) &&& (3 : Int32)))])) t
          refine XS.ifNo X0.here hx rfl (hb hby at_53) rfl ((if0 _ _).trans (teq hc173).2) ?_
          refine XS.iload X0.here hx rfl (hb hby at_56) rfl ?_
          refine XS.istore X0.here hx rfl (hb hby at_58) rfl (l' := #[.val (.int pa), .val (.int pb), .val (.int pc_), .val (.int po), .val (.int fl), .val (.int c0), .val (.int c1), .val (.int (1 : Int32)), .val (.int (((fl.toUInt32 >>> ((1 : Int32) &&& 31).toUInt32).toInt32) &&& (3 : Int32))), .val (.int (1 : Int32)), .val (.int c0), .unset, .unset, .unset]) rfl ?_
          refine XS.goto X0.here hx rfl (pc0 := 60) (pc' := 83) rfl (hb hby at_60) (by decide) (by decide) ?_
          exact k
        exact Jm _ s₁ _ X0 N0 e0
      · refine own_st (T' := s₁) (g' := (mkF m 66 #[.val (.int pa), .val (.int pb), .val (.int pc_), .val (.int po), .val (.int fl), .val (.int c0), .val (.int c1), .val (.int (1 : Int32)), .val (.int (((fl.toUInt32 >>> ((1 : Int32) &&& 31).toUInt32).toInt32) &&& (3 : Int32))), .val (.int (1 : Int32)), .unset, .unset, .unset, .unset] [(.int (1 : Int32)), (.int (((fl.toUInt32 >>> ((1 : Int32) &&& 31).toUInt32).toInt32) &&& (3 : Int32)))])) (fun t k => ?_) ?_
        · show Steps p.tables e below (s₁.setTop (mkF m 53 #[.val (.int pa), .val (.int pb), .val (.int pc_), .val (.int po), .val (.int fl), .val (.int c0), .val (.int c1), .val (.int (1 : Int32)), .val (.int (((fl.toUInt32 >>> ((1 : Int32) &&& 31).toUInt32).toInt32) &&& (3 : Int32))), .val (.int (1 : Int32)), .unset, .unset, .unset, .unset] [(.int (((fl.toUInt32 >>> ((1 : Int32) &&& 31).toUInt32).toInt32) &&& (3 : Int32)))])) t
          refine XS.ifYes X0.here hx rfl (pc0 := 53) (pc' := 63) rfl (hb hby at_53) rfl ((if0 _ _).trans (feq hc173).2) (by decide) (by decide) ?_
          refine XS.iload X0.here hx rfl (hb hby at_63) rfl ?_
          refine XS.iconst X0.here hx rfl (hb hby at_65) ?_
          exact k
        by_cases hc174 : (((fl.toUInt32 >>> ((1 : Int32) &&& 31).toUInt32).toInt32) &&& (3 : Int32)) = (1 : Int32)
        · refine own_st (T' := s₁) (g' := (mkF m 83 #[.val (.int pa), .val (.int pb), .val (.int pc_), .val (.int po), .val (.int fl), .val (.int c0), .val (.int c1), .val (.int (1 : Int32)), .val (.int (((fl.toUInt32 >>> ((1 : Int32) &&& 31).toUInt32).toInt32) &&& (3 : Int32))), .val (.int (1 : Int32)), .val (.int c1), .unset, .unset, .unset] [])) (fun t k => ?_) ?_
          · show Steps p.tables e below (s₁.setTop (mkF m 66 #[.val (.int pa), .val (.int pb), .val (.int pc_), .val (.int po), .val (.int fl), .val (.int c0), .val (.int c1), .val (.int (1 : Int32)), .val (.int (((fl.toUInt32 >>> ((1 : Int32) &&& 31).toUInt32).toInt32) &&& (3 : Int32))), .val (.int (1 : Int32)), .unset, .unset, .unset, .unset] [(.int (1 : Int32)), (.int (((fl.toUInt32 >>> ((1 : Int32) &&& 31).toUInt32).toInt32) &&& (3 : Int32)))])) t
            refine XS.icmpNo X0.here hx rfl (hb hby at_66) rfl (teq hc174).2 ?_
            refine XS.iload X0.here hx rfl (hb hby at_69) rfl ?_
            refine XS.istore X0.here hx rfl (hb hby at_71) rfl (l' := #[.val (.int pa), .val (.int pb), .val (.int pc_), .val (.int po), .val (.int fl), .val (.int c0), .val (.int c1), .val (.int (1 : Int32)), .val (.int (((fl.toUInt32 >>> ((1 : Int32) &&& 31).toUInt32).toInt32) &&& (3 : Int32))), .val (.int (1 : Int32)), .val (.int c1), .unset, .unset, .unset]) rfl ?_
            refine XS.goto X0.here hx rfl (pc0 := 73) (pc' := 83) rfl (hb hby at_73) (by decide) (by decide) ?_
            exact k
          exact Jm _ s₁ _ X0 N0 e0
        · refine own_st (T' := s₁) (g' := (mkF m 83 #[.val (.int pa), .val (.int pb), .val (.int pc_), .val (.int po), .val (.int fl), .val (.int c0), .val (.int c1), .val (.int (1 : Int32)), .val (.int (((fl.toUInt32 >>> ((1 : Int32) &&& 31).toUInt32).toInt32) &&& (3 : Int32))), .val (.int (1 : Int32)), .val (.int ((pc_ &&& (65535 : Int32)).toUInt32.toUInt16.toUInt32.toInt32)), .unset, .unset, .unset] [])) (fun t k => ?_) ?_
          · show Steps p.tables e below (s₁.setTop (mkF m 66 #[.val (.int pa), .val (.int pb), .val (.int pc_), .val (.int po), .val (.int fl), .val (.int c0), .val (.int c1), .val (.int (1 : Int32)), .val (.int (((fl.toUInt32 >>> ((1 : Int32) &&& 31).toUInt32).toInt32) &&& (3 : Int32))), .val (.int (1 : Int32)), .unset, .unset, .unset, .unset] [(.int (1 : Int32)), (.int (((fl.toUInt32 >>> ((1 : Int32) &&& 31).toUInt32).toInt32) &&& (3 : Int32)))])) t
            refine XS.icmpYes X0.here hx rfl (pc0 := 66) (pc' := 76) rfl (hb hby at_66) rfl (feq hc174).2 (by decide) (by decide) ?_
            refine XS.iloadN X0.here hx rfl (hb hby at_76) rfl ?_
            refine X0.ldcInt hx hown (mvT hZ (hw _ (List.mem_of_getElem? (i := 0) rfl))) (g := (mkF m 77 #[.val (.int pa), .val (.int pb), .val (.int pc_), .val (.int po), .val (.int fl), .val (.int c0), .val (.int c1), .val (.int (1 : Int32)), .val (.int (((fl.toUInt32 >>> ((1 : Int32) &&& 31).toUInt32).toInt32) &&& (3 : Int32))), .val (.int (1 : Int32)), .unset, .unset, .unset, .unset] [(.int pc_)])) rfl (hb hby at_77) _ ?_
            refine XS.iand X0.here hx rfl (hb hby at_79) rfl ?_
            refine XS.i2c X0.here hx rfl (hb hby at_80) rfl ?_
            refine XS.istore X0.here hx rfl (hb hby at_81) rfl (l' := #[.val (.int pa), .val (.int pb), .val (.int pc_), .val (.int po), .val (.int fl), .val (.int c0), .val (.int c1), .val (.int (1 : Int32)), .val (.int (((fl.toUInt32 >>> ((1 : Int32) &&& 31).toUInt32).toInt32) &&& (3 : Int32))), .val (.int (1 : Int32)), .val (.int ((pc_ &&& (65535 : Int32)).toUInt32.toUInt16.toUInt32.toInt32)), .unset, .unset, .unset]) rfl ?_
            exact k
          exact Jm _ s₁ _ X0 N0 e0
set_option maxRecDepth 65536 in
set_option maxHeartbeats 40000000 in
theorem own_comes_1 {Post : Tables → Env → Array Value → State → Outcome → State → Prop} (hpost : ∀ tb e args s v u, (limb_1_1.after args s (.returned v) u = true ∧ limb_1_2.after args s (.returned v) u = true ∧ True) → FrameEnd s (.returned v) u (Jvm.fieldLocs frame_1_writes args s ++ Jvm.arrayLocs frame_1_arrays args s ++ Jvm.staticLocs frame_1_statics s) 24 128 → Post tb e args s (.returned v) u) :
    ArmFor flags0 classFile x code maxLocals ret World_1 tables_1 room_1 Calls_1 rest_1 Pre_1 Post := by
  intro l hfl _ _ p e ha hc hk s m args below hf hA hF happ hP
  obtain ⟨hcalls, hrest, hpre⟩ := hP
  obtain ⟨-, -, -, hnamed, -, -, -, hat⟩ := (Spec.applies_iff hf).mp happ
  obtain ⟨hg, hn⟩ := and_e (Cond.before_iff.mp (show (Jvm.Cond.and given_1 narrow_1).before args s = true from hpre))
  obtain ⟨hg0, hgr⟩ := and_e hg
  obtain ⟨ha0, hgr⟩ := and_e hgr
  obtain ⟨ha1, hgr⟩ := and_e hgr
  obtain ⟨ha2, hgr⟩ := and_e hgr
  obtain ⟨ha3, hgr⟩ := and_e hgr
  have ha4 := hgr
  obtain ⟨w0, w1, w2, w3, w4, rfl⟩ : ∃ w0 w1 w2 w3 w4 : Value, args = #[w0, w1, w2, w3, w4] := by
    have hs : args.size = 5 := by simpa [Cond.value, given_1] using hg0
    obtain ⟨L⟩ := args
    match L, hs with
    | [w0, w1, w2, w3, w4], _ => exact ⟨w0, w1, w2, w3, w4, rfl⟩
  have hw := fun d (hd : d ∈ tables_1) => atoms_spec (ws := Jvm.Cond.code x code maxLocals ret :: tables_1) hat d (List.mem_cons_of_mem _ hd)
  have hfit : Fit s := fun {y c} hc i hi => by
    obtain ⟨ha, rfl⟩ := Array.getElem?_eq_some_iff.mp hc
    have q := List.all_eq_true.mp ((Array.all_eq_true_iff_forall_mem.mp hF) _ (Array.getElem_mem ha)) i (List.mem_range.mpr hi)
    simpa [Array.getElem?_eq_getElem hi] using q
  obtain ⟨hsets, hown0⟩ := atoms_of _ (rest_1_c_eq ▸ (show rest_1_c.before _ s = true from hrest))
  obtain ⟨i0, ei0⟩ := is_v ha0
  obtain rfl : w0 = (.int i0) := Option.some.inj ei0
  obtain ⟨i1, ei1⟩ := is_v ha1
  obtain rfl : w1 = (.int i1) := Option.some.inj ei1
  obtain ⟨i2, ei2⟩ := is_v ha2
  obtain rfl : w2 = (.int i2) := Option.some.inj ei2
  obtain ⟨i3, ei3⟩ := is_v ha3
  obtain rfl : w3 = (.int i3) := Option.some.inj ei3
  obtain ⟨i4, ei4⟩ := is_v ha4
  obtain rfl : w4 = (.int i4) := Option.some.inj ei4
  obtain ⟨cs, ev_cs⟩ := is_v (Cond.before_iff.mp (hsets _ (List.mem_of_getElem? (i := 1) rfl)))
  have S_cs := Sta.start ev_cs (Or.inl (hsets _ (List.mem_of_getElem? (i := 0) rfl)))
  have hcs : ¬ cs = (0 : Int32) := gotF (Cond.eq_ints ev_cs (Term.int_eval 0)) (by have q := not_v (Cond.before_iff.mp (hsets _ (List.mem_of_getElem? (i := 2) rfl))); exact q)
  obtain ⟨fm, ev_fm, hfm⟩ := isR_v (Cond.before_iff.mp (hsets _ (List.mem_of_getElem? (i := 8) rfl)))
  have S_fm := Sta.start ev_fm (Or.inl (hsets _ (List.mem_of_getElem? (i := 7) rfl)))
  have S_ad := own_sint (Cond.before_iff.mp (hsets _ (List.mem_of_getElem? (i := 12) rfl))) (Or.inl (hsets _ (List.mem_of_getElem? (i := 11) rfl)))
  have S_hb := own_sint (Cond.before_iff.mp (hsets _ (List.mem_of_getElem? (i := 15) rfl))) (Or.inl (hsets _ (List.mem_of_getElem? (i := 14) rfl)))
  have S_lb := own_sint (Cond.before_iff.mp (hsets _ (List.mem_of_getElem? (i := 18) rfl))) (Or.inl (hsets _ (List.mem_of_getElem? (i := 17) rfl)))
  obtain ⟨n, o, h1, h2, h3, _, L, rfl, ⟨rfl, N⟩, hq⟩ := own_rm0 l s _ hw tables_1 i0 i1 i2 i3 i4 cs fm s.heap s.heap.size (Nat.le_refl _) (Old.start s) hcs hfm S_cs S_fm S_ad S_hb S_lb p e ha hc hk s m _ below hf ((Spec.applies_iff_loose hf).mp happ).1 ⟨rfl, State.Warmed39.refl s, rfl⟩ trivial
  refine ⟨n, _, h1, h2, h3, hpost _ _ _ _ _ _ ⟨Cond.after_iff.mpr rfl, Cond.after_iff.mpr (eq_i res_at (Term.int_eval (1)) rfl), trivial⟩ ⟨hq.1, hq.2.1, (hq.2.2.sift fun y hy => Or.inr (N y hy)).mono (by decide) (by decide)⟩⟩
theorem main_1_1 : Claimed_1_1 := own_comes_1 fun _ _ _ _ _ _ h hF => ⟨h.1, hF⟩
theorem main_1_2 : Claimed_1_2 := own_comes_1 fun _ _ _ _ _ _ h hF => ⟨h.2.1, hF⟩
end Jvm.Pilot.@@N@@
namespace Jvm.Pilot.@@N@@
open Jvm Jvm.ClassFile Sem Op Lib Jvm.Free Jvm.Stand Jvm.Pilot.@@N@@.Jvm.D
/-! MADE BY PROGRAM (witnessworld.py) out of the Statement's table words and the real class files: 21 classes; the members and pool entries that the words name. The judged class is class 1, her method 1. -/
namespace start1
open Jvm.ClassFile
def u (s : String) : CpInfo := .utf8 (stringToUtf16 s)
/-- a pool by its gaps: so many unusable entries, then the entry; so many at the end -/
def gap : Nat → List CpInfo → List CpInfo
  | 0, r => r
  | n + 1, r => .unusable :: gap n r
def poolList (es : List (Nat × CpInfo)) (last : Nat) : List CpInfo := es.foldr (fun e r => gap e.1 (e.2 :: r)) (gap last [])
def pool (es : List (Nat × CpInfo)) (last : Nat) : Array CpInfo := ⟨poolList es last⟩
def fileOf (pool : Array CpInfo) (this : Nat) (attrs : Array Attribute := #[]) (ms : Array MethodInfo := #[]) (fl : Nat := 33) (sup : Nat := 0) (ifs : Array Nat := #[]) (fds : Array FieldInfo := #[]) : ClassFile where
  minorVersion := 0
  majorVersion := 65
  constantPool := pool
  accessFlags := fl
  thisClass := this
  superClass := sup
  interfaces := ifs
  fields := fds
  methods := ms
  attributes := attrs
def plain (name : String) (sup : Option ClassId) : Class where
  name := name
  kind := .ordinary
  loader := none
  accessFlags := 33
  super := sup
  interfaces := #[]
  cf := none
  fields := #[]
  methods := #[]
  instanceTypes := #[]
  staticTypes := #[]
  resolved := #[]
  callSites := []
  init := .initialized
  statics := none
  mirror := none

def pool0 : Array CpInfo := pool [(5, u "<init>"), (0, u "()V"), (1, .class_ 10), (1, u "java/lang/Object")] 113

def k0c0 : Code := { maxStack := 0, maxLocals := 1, code := object_method_1_code, exceptionTable := #[], attributes := #[] }
def k0m0 : Method := { name := "<init>", desc := "()V", sig := { parameters := [], returnType := none }, accessFlags := 1, code := some k0c0 }
/-- java/lang/Object -/
def k0 : Class := { plain "java/lang/Object" none with
  accessFlags := 33
  interfaces := #[]
  cf := some (fileOf pool0 8 #[] #[{ accessFlags := 1, nameIndex := 5, descriptorIndex := 6, attributes := #[] }] 33 0 #[] #[])
  fields := #[]
  methods := #[k0m0]
  instanceTypes := #[]
  staticTypes := #[]
  resolved := Array.replicate 124 none
  statics := none }

def pool1 : Array CpInfo := pool [(2, .class_ 4), (1, u "java/lang/Object"), (0, u "<init>"), (0, u "()V"), (0, .integer 65535), (0, .class_ 9), (0, u "java/lang/String"), (0, .methodref 8 11), (0, .nameAndType 5 12), (0, u "([C)V"), (0, .methodref 8 14), (0, .nameAndType 15 16), (0, u "valueOf"), (0, u "(C)Ljava/lang/String;"), (0, .class_ 18), (0, u "com/example/vested_roles/vestedroles/Tokens$Token"), (0, .methodref 17 20), (0, .nameAndType 5 21), (0, u "(Ljava/lang/String;IZ)V"), (0, .methodref 17 23), (0, .nameAndType 24 25), (0, u "is"), (0, u "(C)Z"), (0, .class_ 27), (0, u "com/example/vested_roles/vestedroles/TokenIsPinLaw"), (2, u "law"), (0, u "(IIIII)Z")] 7

def k1m0 : Method := { name := "<init>", desc := "()V", sig := { parameters := [], returnType := none }, accessFlags := 2, code := none }
def k1c1 : Code := { maxStack := 5, maxLocals := 14, code := code, exceptionTable := #[], attributes := #[] }
def k1m1 : Method := { name := "law", desc := "(IIIII)Z", sig := { parameters := [.int, .int, .int, .int, .int], returnType := some .boolean }, accessFlags := 9, code := some k1c1 }
/-- com/example/vested_roles/vestedroles/TokenIsPinLaw -/
def k1 : Class := { plain "com/example/vested_roles/vestedroles/TokenIsPinLaw" (some 0) with
  accessFlags := 49
  interfaces := #[]
  cf := some (fileOf pool1 26 #[] #[{ accessFlags := 2, nameIndex := 5, descriptorIndex := 6, attributes := #[] }, { accessFlags := 9, nameIndex := 30, descriptorIndex := 31, attributes := #[] }] 49 2 #[] #[])
  fields := #[]
  methods := #[k1m0, k1m1]
  instanceTypes := #[]
  staticTypes := #[]
  resolved := Array.replicate 39 none
  statics := none }

def pool2 : Array CpInfo := pool [(1, .class_ 2), (0, u "java/io/Serializable"), (0, .class_ 4), (0, u "java/lang/Object")] 2

/-- java/io/Serializable -/
def k2 : Class := { plain "java/io/Serializable" (some 0) with
  accessFlags := 1537
  interfaces := #[]
  cf := some (fileOf pool2 1 #[] #[] 1537 3 #[] #[])
  fields := #[]
  methods := #[]
  instanceTypes := #[]
  staticTypes := #[]
  resolved := Array.replicate 7 none
  statics := none }

def pool3 : Array CpInfo := pool [(1, .class_ 2), (0, u "java/lang/Comparable"), (0, .class_ 4), (0, u "java/lang/Object")] 7

/-- java/lang/Comparable -/
def k3 : Class := { plain "java/lang/Comparable" (some 0) with
  accessFlags := 1537
  interfaces := #[]
  cf := some (fileOf pool3 1 #[] #[] 1537 3 #[] #[])
  fields := #[]
  methods := #[]
  instanceTypes := #[]
  staticTypes := #[]
  resolved := Array.replicate 12 none
  statics := none }

def pool4 : Array CpInfo := pool [(2, .class_ 4), (1, u "java/lang/CharSequence"), (42, .class_ 48), (0, u "java/lang/CharSequence$1CodePointIterator"), (10, .class_ 60), (0, u "java/lang/CharSequence$1CharIterator"), (5, .class_ 67), (0, u "java/lang/Object")] 63

/-- java/lang/CharSequence -/
def k4 : Class := { plain "java/lang/CharSequence" (some 0) with
  accessFlags := 1537
  interfaces := #[]
  cf := some (fileOf pool4 2 #[.nestMembers #[47, 59]] #[] 1537 66 #[] #[])
  fields := #[]
  methods := #[]
  instanceTypes := #[]
  staticTypes := #[]
  resolved := Array.replicate 131 none
  statics := none }

def pool5 : Array CpInfo := pool [(1, .class_ 2), (0, u "java/lang/constant/Constable"), (0, .class_ 4), (0, u "java/lang/Object")] 6

/-- java/lang/constant/Constable -/
def k5 : Class := { plain "java/lang/constant/Constable" (some 0) with
  accessFlags := 1537
  interfaces := #[]
  cf := some (fileOf pool5 1 #[] #[] 1537 3 #[] #[])
  fields := #[]
  methods := #[]
  instanceTypes := #[]
  staticTypes := #[]
  resolved := Array.replicate 11 none
  statics := none }

def pool6 : Array CpInfo := pool [(1, .class_ 2), (0, u "java/lang/constant/ConstantDesc"), (0, .class_ 4), (0, u "java/lang/Object")] 32

/-- java/lang/constant/ConstantDesc -/
def k6 : Class := { plain "java/lang/constant/ConstantDesc" (some 0) with
  accessFlags := 1537
  interfaces := #[]
  cf := some (fileOf pool6 1 #[] #[] 1537 3 #[] #[])
  fields := #[]
  methods := #[]
  instanceTypes := #[]
  staticTypes := #[]
  resolved := Array.replicate 37 none
  statics := none }

def pool7 : Array CpInfo := pool [(1, .methodref 2 3), (0, .class_ 4), (0, .nameAndType 5 6), (0, u "java/lang/Object"), (0, u "<init>"), (0, u "()V"), (2, .fieldref 10 11), (0, .class_ 12), (0, .nameAndType 13 14), (0, u "java/lang/String"), (0, u "value"), (0, u "[B"), (0, .fieldref 10 16), (0, .nameAndType 17 18), (0, u "coder"), (0, u "B"), (2, u "hash"), (0, u "I"), (2, u "hashIsZero"), (0, u "Z"), (0, .methodref 10 28), (0, .nameAndType 5 29), (0, u "([CIILjava/lang/Void;)V"), (8, .fieldref 10 39), (0, .nameAndType 40 26), (0, u "COMPACT_STRINGS"), (1, .class_ 44), (1, u "java/lang/StringUTF16"), (0, u "compress"), (1, .methodref 42 48), (0, .nameAndType 49 50), (0, u "coderFromArrayLen"), (0, u "([BI)B"), (2, u "toBytes"), (53, .class_ 109), (1, u "java/lang/StringLatin1"), (32, u "()Z"), (34, .methodref 42 178), (0, .nameAndType 45 179), (0, u "([CII)[B"), (29, .methodref 10 210), (0, .nameAndType 5 211), (0, u "([BB)V"), (151, u "([BI)C"), (5, u "(C)Z"), (21, u "(II)V"), (35, u "(I)C"), (64, .methodref 10 493), (0, .nameAndType 494 142), (0, u "isLatin1"), (0, .methodref 107 496), (0, .nameAndType 497 363), (0, u "charAt"), (0, .methodref 42 496), (2, u "checkIndex"), (73, .class_ 576), (0, u "java/lang/CharSequence"), (22, u "CASE_INSENSITIVE_ORDER"), (0, u "Ljava/util/Comparator;"), (181, u "valueOf"), (0, u "(C)Ljava/lang/String;"), (226, u "([C)V"), (4, .methodref 107 1016), (0, .nameAndType 1017 369), (0, u "canEncode"), (0, .methodref 107 1019), (0, .nameAndType 53 1020), (0, u "(C)[B"), (0, .methodref 42 1019), (31, .fieldref 1054 1055), (0, .class_ 1056), (0, .nameAndType 1057 1058), (0, u "jdk/internal/util/Preconditions"), (0, u "SIOOBE_FORMATTER"), (0, u "Ljava/util/function/BiFunction;"), (0, .methodref 1054 1060), (0, .nameAndType 501 1061), (0, u "(IILjava/util/function/BiFunction;)I"), (39, u "serialPersistentFields"), (0, u "[Ljava/io/ObjectStreamField;"), (0, .class_ 1104), (0, u "java/lang/String$CaseInsensitiveComparator"), (1, .class_ 1107), (0, u "java/io/Serializable"), (0, .class_ 1109), (0, u "java/lang/Comparable"), (0, .class_ 1111), (0, u "java/lang/constant/Constable"), (0, .class_ 1113), (0, u "java/lang/constant/ConstantDesc"), (2, u "serialVersionUID"), (0, u "J"), (3, u "REPL"), (0, u "C"), (2, u "LATIN1"), (1, u "UTF16")] 323

def k7m0 : Method := { name := "<init>", desc := "()V", sig := { parameters := [], returnType := none }, accessFlags := 1, code := none }
def k7c1 : Code := { maxStack := 5, maxLocals := 2, code := jdk_42_method_3_code, exceptionTable := #[], attributes := #[] }
def k7m1 : Method := { name := "<init>", desc := "([C)V", sig := { parameters := [(.array .char)], returnType := none }, accessFlags := 1, code := some k7c1 }
def k7c2 : Code := { maxStack := 2, maxLocals := 2, code := jdk_42_method_56_code, exceptionTable := #[], attributes := #[] }
def k7m2 : Method := { name := "charAt", desc := "(I)C", sig := { parameters := [.int], returnType := some .char }, accessFlags := 1, code := some k7c2 }
def k7c3 : Code := { maxStack := 4, maxLocals := 1, code := jdk_42_method_139_code, exceptionTable := #[], attributes := #[] }
def k7m3 : Method := { name := "valueOf", desc := "(C)Ljava/lang/String;", sig := { parameters := [.char], returnType := some (.object "java/lang/String") }, accessFlags := 9, code := some k7c3 }
def k7c4 : Code := { maxStack := 4, maxLocals := 6, code := jdk_42_method_149_code, exceptionTable := #[], attributes := #[] }
def k7m4 : Method := { name := "<init>", desc := "([CIILjava/lang/Void;)V", sig := { parameters := [(.array .char), .int, .int, (.object "java/lang/Void")], returnType := none }, accessFlags := 2, code := some k7c4 }
def k7c5 : Code := { maxStack := 2, maxLocals := 3, code := jdk_42_method_151_code, exceptionTable := #[], attributes := #[] }
def k7m5 : Method := { name := "<init>", desc := "([BB)V", sig := { parameters := [(.array .byte), .byte], returnType := none }, accessFlags := 0, code := some k7c5 }
def k7c6 : Code := { maxStack := 1, maxLocals := 1, code := jdk_42_method_154_code, exceptionTable := #[], attributes := #[] }
def k7m6 : Method := { name := "isLatin1", desc := "()Z", sig := { parameters := [], returnType := some .boolean }, accessFlags := 0, code := some k7c6 }
def k7c7 : Code := { maxStack := 3, maxLocals := 2, code := jdk_42_method_155_code, exceptionTable := #[], attributes := #[] }
def k7m7 : Method := { name := "checkIndex", desc := "(II)V", sig := { parameters := [.int, .int], returnType := none }, accessFlags := 8, code := some k7c7 }
/-- java/lang/String -/
def k7 : Class := { plain "java/lang/String" (some 0) with
  accessFlags := 49
  interfaces := #[2, 3, 4, 5, 6]
  cf := some (fileOf pool7 10 #[.nestMembers #[1103]] #[{ accessFlags := 1, nameIndex := 5, descriptorIndex := 6, attributes := #[] }, { accessFlags := 1, nameIndex := 5, descriptorIndex := 1010, attributes := #[] }, { accessFlags := 1, nameIndex := 497, descriptorIndex := 427, attributes := #[] }, { accessFlags := 9, nameIndex := 782, descriptorIndex := 783, attributes := #[] }, { accessFlags := 2, nameIndex := 5, descriptorIndex := 29, attributes := #[] }, { accessFlags := 0, nameIndex := 5, descriptorIndex := 211, attributes := #[] }, { accessFlags := 0, nameIndex := 494, descriptorIndex := 142, attributes := #[] }, { accessFlags := 8, nameIndex := 501, descriptorIndex := 391, attributes := #[] }] 49 2 #[1106, 1108, 575, 1110, 1112] #[{ accessFlags := 18, nameIndex := 13, descriptorIndex := 14, attributes := #[] }, { accessFlags := 18, nameIndex := 17, descriptorIndex := 18, attributes := #[] }, { accessFlags := 2, nameIndex := 21, descriptorIndex := 22, attributes := #[] }, { accessFlags := 2, nameIndex := 25, descriptorIndex := 26, attributes := #[] }, { accessFlags := 26, nameIndex := 1116, descriptorIndex := 1117, attributes := #[] }, { accessFlags := 24, nameIndex := 40, descriptorIndex := 26, attributes := #[] }, { accessFlags := 26, nameIndex := 1101, descriptorIndex := 1102, attributes := #[] }, { accessFlags := 26, nameIndex := 1121, descriptorIndex := 1122, attributes := #[] }, { accessFlags := 25, nameIndex := 599, descriptorIndex := 600, attributes := #[] }, { accessFlags := 24, nameIndex := 1125, descriptorIndex := 18, attributes := #[] }, { accessFlags := 24, nameIndex := 1127, descriptorIndex := 18, attributes := #[] }])
  fields := #[{ name := "value", type := (.array .byte), accessFlags := 18, slot := 0, constantValue := 0 }, { name := "coder", type := .byte, accessFlags := 18, slot := 1, constantValue := 0 }, { name := "hash", type := .int, accessFlags := 2, slot := 2, constantValue := 0 }, { name := "hashIsZero", type := .boolean, accessFlags := 2, slot := 3, constantValue := 0 }, { name := "serialVersionUID", type := .long, accessFlags := 26, slot := 0, constantValue := 0 }, { name := "COMPACT_STRINGS", type := .boolean, accessFlags := 24, slot := 1, constantValue := 0 }, { name := "serialPersistentFields", type := (.array (.object "java/io/ObjectStreamField")), accessFlags := 26, slot := 2, constantValue := 0 }, { name := "REPL", type := .char, accessFlags := 26, slot := 3, constantValue := 0 }, { name := "CASE_INSENSITIVE_ORDER", type := (.object "java/util/Comparator"), accessFlags := 25, slot := 4, constantValue := 0 }, { name := "LATIN1", type := .byte, accessFlags := 24, slot := 5, constantValue := 0 }, { name := "UTF16", type := .byte, accessFlags := 24, slot := 6, constantValue := 0 }]
  methods := #[k7m0, k7m1, k7m2, k7m3, k7m4, k7m5, k7m6, k7m7]
  instanceTypes := #[(.array .byte), .byte, .int, .boolean]
  staticTypes := #[.long, .boolean, (.array (.object "java/io/ObjectStreamField")), .char, (.object "java/util/Comparator"), .byte, .byte]
  resolved := Array.replicate 1451 none
  statics := some 0 }

def pool8 : Array CpInfo := pool [(1, .class_ 2), (0, u "java/lang/String"), (1, .class_ 6), (1, u "java/lang/Object"), (0, u "<init>"), (0, u "()V"), (0, .methodref 1 10), (0, .nameAndType 11 12), (0, u "checkIndex"), (0, u "(II)V"), (1, .class_ 16), (1, u "java/lang/StringLatin1"), (36, u "([BI)C"), (36, u "canEncode"), (14, u "(C)Z"), (15, u "$assertionsDisabled"), (0, u "Z"), (98, .class_ 223), (1, u "java/lang/StringLatin1$LinesSpliterator"), (28, u "charAt"), (127, u "toBytes"), (1, u "(C)[B"), (7, .class_ 391), (0, u "java/lang/StringLatin1$CharsSpliterator")] 3

def k8m0 : Method := { name := "<init>", desc := "()V", sig := { parameters := [], returnType := none }, accessFlags := 0, code := none }
def k8c1 : Code := { maxStack := 2, maxLocals := 2, code := jdk_43_method_2_code, exceptionTable := #[], attributes := #[] }
def k8m1 : Method := { name := "charAt", desc := "([BI)C", sig := { parameters := [(.array .byte), .int], returnType := some .char }, accessFlags := 9, code := some k8c1 }
def k8c2 : Code := { maxStack := 2, maxLocals := 1, code := jdk_43_method_3_code, exceptionTable := #[], attributes := #[] }
def k8m2 : Method := { name := "canEncode", desc := "(C)Z", sig := { parameters := [.char], returnType := some .boolean }, accessFlags := 9, code := some k8c2 }
def k8c3 : Code := { maxStack := 4, maxLocals := 1, code := jdk_43_method_46_code, exceptionTable := #[], attributes := #[] }
def k8m3 : Method := { name := "toBytes", desc := "(C)[B", sig := { parameters := [.char], returnType := some (.array .byte) }, accessFlags := 9, code := some k8c3 }
/-- java/lang/StringLatin1 -/
def k8 : Class := { plain "java/lang/StringLatin1" (some 0) with
  accessFlags := 48
  interfaces := #[]
  cf := some (fileOf pool8 14 #[.nestMembers #[390, 221]] #[{ accessFlags := 0, nameIndex := 7, descriptorIndex := 8, attributes := #[] }, { accessFlags := 9, nameIndex := 252, descriptorIndex := 53, attributes := #[] }, { accessFlags := 9, nameIndex := 90, descriptorIndex := 105, attributes := #[] }, { accessFlags := 9, nameIndex := 380, descriptorIndex := 382, attributes := #[] }] 48 4 #[] #[{ accessFlags := 4120, nameIndex := 121, descriptorIndex := 122, attributes := #[] }])
  fields := #[{ name := "$assertionsDisabled", type := .boolean, accessFlags := 4120, slot := 0, constantValue := 0 }]
  methods := #[k8m0, k8m1, k8m2, k8m3]
  instanceTypes := #[]
  staticTypes := #[.boolean]
  resolved := Array.replicate 395 none
  statics := none }

def pool9 : Array CpInfo := pool [(1, .methodref 2 3), (0, .class_ 4), (0, .nameAndType 5 6), (0, u "java/lang/Object"), (0, u "<init>"), (0, u "()V"), (0, .class_ 8), (0, u "java/lang/Record")] 13

def k9c0 : Code := { maxStack := 1, maxLocals := 1, code := jdk_30_method_1_code, exceptionTable := #[], attributes := #[] }
def k9m0 : Method := { name := "<init>", desc := "()V", sig := { parameters := [], returnType := none }, accessFlags := 4, code := some k9c0 }
/-- java/lang/Record -/
def k9 : Class := { plain "java/lang/Record" (some 0) with
  accessFlags := 1057
  interfaces := #[]
  cf := some (fileOf pool9 7 #[] #[{ accessFlags := 4, nameIndex := 5, descriptorIndex := 6, attributes := #[] }] 1057 2 #[] #[])
  fields := #[]
  methods := #[k9m0]
  instanceTypes := #[]
  staticTypes := #[]
  resolved := Array.replicate 22 none
  statics := none }

def pool10 : Array CpInfo := pool [(1, .methodref 2 3), (0, .class_ 4), (0, .nameAndType 5 6), (0, u "java/lang/Record"), (0, u "<init>"), (0, u "()V"), (0, .fieldref 8 9), (0, .class_ 10), (0, .nameAndType 11 12), (0, u "com/example/vested_roles/vestedroles/Tokens$Token"), (0, u "text"), (0, u "Ljava/lang/String;"), (0, .fieldref 8 14), (0, .nameAndType 15 16), (0, u "position"), (0, u "I"), (0, .fieldref 8 18), (0, .nameAndType 19 20), (0, u "isName"), (0, u "Z"), (0, .methodref 22 23), (0, .class_ 24), (0, .nameAndType 25 26), (0, u "java/lang/String"), (0, u "charAt"), (0, u "(I)C"), (21, u "(Ljava/lang/String;IZ)V"), (3, u "is"), (0, u "(C)Z"), (10, .class_ 65), (0, u "com/example/vested_roles/vestedroles/Tokens")] 29

def k10c0 : Code := { maxStack := 2, maxLocals := 4, code := prog_50_method_1_code, exceptionTable := #[], attributes := #[] }
def k10m0 : Method := { name := "<init>", desc := "(Ljava/lang/String;IZ)V", sig := { parameters := [(.object "java/lang/String"), .int, .boolean], returnType := none }, accessFlags := 0, code := some k10c0 }
def k10c1 : Code := { maxStack := 2, maxLocals := 2, code := prog_50_method_2_code, exceptionTable := #[], attributes := #[] }
def k10m1 : Method := { name := "is", desc := "(C)Z", sig := { parameters := [.char], returnType := some .boolean }, accessFlags := 0, code := some k10c1 }
/-- com/example/vested_roles/vestedroles/Tokens$Token -/
def k10 : Class := { plain "com/example/vested_roles/vestedroles/Tokens$Token" (some 9) with
  accessFlags := 48
  interfaces := #[]
  cf := some (fileOf pool10 8 #[.nestHost 64] #[{ accessFlags := 0, nameIndex := 5, descriptorIndex := 48, attributes := #[] }, { accessFlags := 0, nameIndex := 52, descriptorIndex := 53, attributes := #[] }] 48 2 #[] #[{ accessFlags := 18, nameIndex := 11, descriptorIndex := 12, attributes := #[] }, { accessFlags := 18, nameIndex := 15, descriptorIndex := 16, attributes := #[] }, { accessFlags := 18, nameIndex := 19, descriptorIndex := 20, attributes := #[] }])
  fields := #[{ name := "text", type := (.object "java/lang/String"), accessFlags := 18, slot := 0, constantValue := 0 }, { name := "position", type := .int, accessFlags := 18, slot := 1, constantValue := 0 }, { name := "isName", type := .boolean, accessFlags := 18, slot := 2, constantValue := 0 }]
  methods := #[k10m0, k10m1]
  instanceTypes := #[(.object "java/lang/String"), .int, .boolean]
  staticTypes := #[]
  resolved := Array.replicate 95 none
  statics := none }

def pool11 : Array CpInfo := pool [(2, .class_ 4), (1, u "java/lang/Object"), (0, u "<init>"), (0, u "()V"), (17, .class_ 26), (1, u "jdk/internal/util/Preconditions"), (6, u "checkIndex"), (21, .class_ 56), (0, u "jdk/internal/util/Preconditions$4"), (57, .class_ 115), (0, u "jdk/internal/util/Preconditions$1"), (7, u "SIOOBE_FORMATTER"), (0, u "Ljava/util/function/BiFunction;"), (0, .class_ 126), (0, u "jdk/internal/util/Preconditions$2"), (3, u "AIOOBE_FORMATTER"), (0, .class_ 132), (0, u "jdk/internal/util/Preconditions$3"), (3, u "IOOBE_FORMATTER"), (41, u "(IILjava/util/function/BiFunction;)I")] 15

def k11m0 : Method := { name := "<init>", desc := "()V", sig := { parameters := [], returnType := none }, accessFlags := 1, code := none }
def k11c1 : Code := { maxStack := 3, maxLocals := 3, code := jdk_41_method_11_code, exceptionTable := #[], attributes := #[] }
def k11m1 : Method := { name := "checkIndex", desc := "(IILjava/util/function/BiFunction;)I", sig := { parameters := [.int, .int, (.object "java/util/function/BiFunction")], returnType := some .int }, accessFlags := 9, code := some k11c1 }
/-- jdk/internal/util/Preconditions -/
def k11 : Class := { plain "jdk/internal/util/Preconditions" (some 0) with
  accessFlags := 33
  interfaces := #[]
  cf := some (fileOf pool11 24 #[.nestMembers #[55, 131, 125, 114]] #[{ accessFlags := 1, nameIndex := 5, descriptorIndex := 6, attributes := #[] }, { accessFlags := 9, nameIndex := 33, descriptorIndex := 178, attributes := #[] }] 33 2 #[] #[{ accessFlags := 25, nameIndex := 123, descriptorIndex := 124, attributes := #[] }, { accessFlags := 25, nameIndex := 130, descriptorIndex := 124, attributes := #[] }, { accessFlags := 25, nameIndex := 136, descriptorIndex := 124, attributes := #[] }])
  fields := #[{ name := "SIOOBE_FORMATTER", type := (.object "java/util/function/BiFunction"), accessFlags := 25, slot := 0, constantValue := 0 }, { name := "AIOOBE_FORMATTER", type := (.object "java/util/function/BiFunction"), accessFlags := 25, slot := 1, constantValue := 0 }, { name := "IOOBE_FORMATTER", type := (.object "java/util/function/BiFunction"), accessFlags := 25, slot := 2, constantValue := 0 }]
  methods := #[k11m0, k11m1]
  instanceTypes := #[]
  staticTypes := #[(.object "java/util/function/BiFunction"), (.object "java/util/function/BiFunction"), (.object "java/util/function/BiFunction")]
  resolved := Array.replicate 194 none
  statics := some 1 }

def pool12 : Array CpInfo := pool [(3, .class_ 4), (0, u "java/lang/String"), (1, .class_ 8), (1, u "java/lang/Object"), (0, u "<init>"), (0, u "()V"), (0, .methodref 12 13), (0, .class_ 14), (0, .nameAndType 15 16), (0, u "java/lang/StringUTF16"), (0, u "newBytesLength"), (0, u "(I)I"), (3, .integer 1073741823), (23, .fieldref 12 45), (0, .nameAndType 46 47), (0, u "$assertionsDisabled"), (0, u "Z"), (0, .methodref 12 49), (0, .nameAndType 50 51), (0, u "length"), (0, u "([B)I"), (7, .fieldref 12 60), (0, .nameAndType 61 62), (0, u "HI_BYTE_SHIFT"), (0, u "I"), (0, .fieldref 12 64), (0, .nameAndType 65 62), (0, u "LO_BYTE_SHIFT"), (1, .methodref 12 68), (0, .nameAndType 69 70), (0, u "checkIndex"), (0, u "(I[B)V"), (0, .methodref 12 72), (0, .nameAndType 73 74), (0, u "getChar"), (0, u "([BI)C"), (32, .methodref 12 108), (0, .nameAndType 109 110), (0, u "newBytesFor"), (0, u "(I)[B"), (0, .methodref 12 112), (0, .nameAndType 113 114), (0, u "putChar"), (0, u "([BII)V"), (0, .methodref 12 116), (0, .nameAndType 117 118), (0, u "compress"), (0, u "([CI[BII)I"), (0, .methodref 12 120), (0, .nameAndType 121 122), (0, u "toBytes"), (0, u "([CII)[B"), (138, u "coderFromArrayLen"), (0, u "([BI)B"), (106, .class_ 371), (1, u "java/lang/StringUTF16$LinesSpliterator"), (20, u "charAt"), (21, .methodref 3 415), (0, .nameAndType 69 416), (0, u "(II)V"), (13, u "MAX_LENGTH"), (44, u "(C)[B"), (151, .class_ 628), (0, u "java/lang/StringUTF16$CodePointsSpliterator"), (0, .class_ 630), (0, u "java/lang/StringUTF16$CharsSpliterator")] 4

def k12m0 : Method := { name := "<init>", desc := "()V", sig := { parameters := [], returnType := none }, accessFlags := 0, code := none }
def k12c1 : Code := { maxStack := 1, maxLocals := 1, code := jdk_52_method_2_code, exceptionTable := #[], attributes := #[] }
def k12m1 : Method := { name := "newBytesFor", desc := "(I)[B", sig := { parameters := [.int], returnType := some (.array .byte) }, accessFlags := 9, code := some k12c1 }
def k12c2 : Code := { maxStack := 4, maxLocals := 1, code := jdk_52_method_3_code, exceptionTable := #[], attributes := #[] }
def k12m2 : Method := { name := "newBytesLength", desc := "(I)I", sig := { parameters := [.int], returnType := some .int }, accessFlags := 9, code := some k12c2 }
def k12c3 : Code := { maxStack := 4, maxLocals := 3, code := jdk_52_method_4_code, exceptionTable := #[], attributes := #[] }
def k12m3 : Method := { name := "putChar", desc := "([BII)V", sig := { parameters := [(.array .byte), .int, .int], returnType := none }, accessFlags := 8, code := some k12c3 }
def k12c4 : Code := { maxStack := 3, maxLocals := 2, code := jdk_52_method_5_code, exceptionTable := #[], attributes := #[] }
def k12m4 : Method := { name := "getChar", desc := "([BI)C", sig := { parameters := [(.array .byte), .int], returnType := some .char }, accessFlags := 8, code := some k12c4 }
def k12c5 : Code := { maxStack := 2, maxLocals := 1, code := jdk_52_method_6_code, exceptionTable := #[], attributes := #[] }
def k12m5 : Method := { name := "length", desc := "([B)I", sig := { parameters := [(.array .byte)], returnType := some .int }, accessFlags := 9, code := some k12c5 }
def k12c6 : Code := { maxStack := 4, maxLocals := 5, code := jdk_52_method_14_code, exceptionTable := #[], attributes := #[] }
def k12m6 : Method := { name := "toBytes", desc := "([CII)[B", sig := { parameters := [(.array .char), .int, .int], returnType := some (.array .byte) }, accessFlags := 9, code := some k12c6 }
def k12c7 : Code := { maxStack := 2, maxLocals := 2, code := jdk_52_method_15_code, exceptionTable := #[], attributes := #[] }
def k12m7 : Method := { name := "coderFromArrayLen", desc := "([BI)B", sig := { parameters := [(.array .byte), .int], returnType := some .byte }, accessFlags := 8, code := some k12c7 }
def k12c8 : Code := { maxStack := 5, maxLocals := 6, code := jdk_52_method_16_code, exceptionTable := #[], attributes := #[] }
def k12m8 : Method := { name := "compress", desc := "([CII)[B", sig := { parameters := [(.array .char), .int, .int], returnType := some (.array .byte) }, accessFlags := 9, code := some k12c8 }
def k12c9 : Code := { maxStack := 3, maxLocals := 7, code := jdk_52_method_21_code, exceptionTable := #[], attributes := #[] }
def k12m9 : Method := { name := "compress", desc := "([CI[BII)I", sig := { parameters := [(.array .char), .int, (.array .byte), .int, .int], returnType := some .int }, accessFlags := 9, code := some k12c9 }
def k12c10 : Code := { maxStack := 3, maxLocals := 2, code := jdk_52_method_24_code, exceptionTable := #[], attributes := #[] }
def k12m10 : Method := { name := "toBytes", desc := "(C)[B", sig := { parameters := [.char], returnType := some (.array .byte) }, accessFlags := 9, code := some k12c10 }
def k12c11 : Code := { maxStack := 2, maxLocals := 2, code := jdk_52_method_83_code, exceptionTable := #[], attributes := #[] }
def k12m11 : Method := { name := "charAt", desc := "([BI)C", sig := { parameters := [(.array .byte), .int], returnType := some .char }, accessFlags := 9, code := some k12c11 }
def k12c12 : Code := { maxStack := 2, maxLocals := 2, code := jdk_52_method_91_code, exceptionTable := #[], attributes := #[] }
def k12m12 : Method := { name := "checkIndex", desc := "(I[B)V", sig := { parameters := [.int, (.array .byte)], returnType := none }, accessFlags := 9, code := some k12c12 }
/-- java/lang/StringUTF16 -/
def k12 : Class := { plain "java/lang/StringUTF16" (some 0) with
  accessFlags := 48
  interfaces := #[]
  cf := some (fileOf pool12 12 #[.nestMembers #[627, 629, 369]] #[{ accessFlags := 0, nameIndex := 9, descriptorIndex := 10, attributes := #[] }, { accessFlags := 9, nameIndex := 109, descriptorIndex := 110, attributes := #[] }, { accessFlags := 9, nameIndex := 15, descriptorIndex := 16, attributes := #[] }, { accessFlags := 8, nameIndex := 113, descriptorIndex := 114, attributes := #[] }, { accessFlags := 8, nameIndex := 73, descriptorIndex := 74, attributes := #[] }, { accessFlags := 9, nameIndex := 50, descriptorIndex := 51, attributes := #[] }, { accessFlags := 9, nameIndex := 121, descriptorIndex := 122, attributes := #[] }, { accessFlags := 8, nameIndex := 261, descriptorIndex := 262, attributes := #[] }, { accessFlags := 9, nameIndex := 117, descriptorIndex := 122, attributes := #[] }, { accessFlags := 9, nameIndex := 117, descriptorIndex := 118, attributes := #[] }, { accessFlags := 9, nameIndex := 121, descriptorIndex := 475, attributes := #[] }, { accessFlags := 9, nameIndex := 392, descriptorIndex := 74, attributes := #[] }, { accessFlags := 9, nameIndex := 69, descriptorIndex := 70, attributes := #[] }] 48 6 #[] #[{ accessFlags := 26, nameIndex := 61, descriptorIndex := 62, attributes := #[] }, { accessFlags := 26, nameIndex := 65, descriptorIndex := 62, attributes := #[] }, { accessFlags := 24, nameIndex := 430, descriptorIndex := 62, attributes := #[] }, { accessFlags := 4120, nameIndex := 46, descriptorIndex := 47, attributes := #[] }])
  fields := #[{ name := "HI_BYTE_SHIFT", type := .int, accessFlags := 26, slot := 0, constantValue := 0 }, { name := "LO_BYTE_SHIFT", type := .int, accessFlags := 26, slot := 1, constantValue := 0 }, { name := "MAX_LENGTH", type := .int, accessFlags := 24, slot := 2, constantValue := 0 }, { name := "$assertionsDisabled", type := .boolean, accessFlags := 4120, slot := 3, constantValue := 0 }]
  methods := #[k12m0, k12m1, k12m2, k12m3, k12m4, k12m5, k12m6, k12m7, k12m8, k12m9, k12m10, k12m11, k12m12]
  instanceTypes := #[]
  staticTypes := #[.int, .int, .int, .boolean]
  resolved := Array.replicate 635 none
  statics := some 2 }

def pool13 : Array CpInfo := pool [(9, u "<init>"), (6, .class_ 18), (1, u "java/lang/Object"), (0, u "()V"), (1, .class_ 23), (1, u "jdk/internal/util/ArraysSupport"), (0, u "LOG2_ARRAY_LONG_INDEX_SCALE"), (0, u "I"), (2, u "U"), (0, u "Ljdk/internal/misc/Unsafe;"), (8, u "BIG_ENDIAN"), (0, u "Z"), (8, u "LOG2_BYTE_BIT_SIZE"), (4, u "LOG2_ARRAY_INT_INDEX_SCALE"), (54, u "JLA"), (0, u "Ljdk/internal/access/JavaLangAccess;"), (11, u "LOG2_ARRAY_BOOLEAN_INDEX_SCALE"), (9, u "LOG2_ARRAY_BYTE_INDEX_SCALE"), (5, u "LOG2_ARRAY_CHAR_INDEX_SCALE"), (5, u "LOG2_ARRAY_SHORT_INDEX_SCALE"), (18, u "LOG2_ARRAY_FLOAT_INDEX_SCALE"), (24, u "LOG2_ARRAY_DOUBLE_INDEX_SCALE"), (89, u "T_BOOLEAN"), (2, u "T_CHAR"), (1, u "T_FLOAT"), (1, u "T_DOUBLE"), (1, u "T_BYTE"), (1, u "T_SHORT"), (1, u "T_INT"), (1, u "T_LONG"), (1, u "SOFT_MAX_ARRAY_LENGTH")] 83

def k13m0 : Method := { name := "<init>", desc := "()V", sig := { parameters := [], returnType := none }, accessFlags := 2, code := none }
/-- jdk/internal/util/ArraysSupport -/
def k13 : Class := { plain "jdk/internal/util/ArraysSupport" (some 0) with
  accessFlags := 33
  interfaces := #[]
  cf := some (fileOf pool13 21 #[] #[{ accessFlags := 2, nameIndex := 9, descriptorIndex := 19, attributes := #[] }] 33 16 #[] #[{ accessFlags := 24, nameIndex := 28, descriptorIndex := 29, attributes := #[] }, { accessFlags := 26, nameIndex := 38, descriptorIndex := 39, attributes := #[] }, { accessFlags := 25, nameIndex := 121, descriptorIndex := 25, attributes := #[] }, { accessFlags := 25, nameIndex := 131, descriptorIndex := 25, attributes := #[] }, { accessFlags := 25, nameIndex := 137, descriptorIndex := 25, attributes := #[] }, { accessFlags := 25, nameIndex := 143, descriptorIndex := 25, attributes := #[] }, { accessFlags := 25, nameIndex := 53, descriptorIndex := 25, attributes := #[] }, { accessFlags := 25, nameIndex := 24, descriptorIndex := 25, attributes := #[] }, { accessFlags := 25, nameIndex := 162, descriptorIndex := 25, attributes := #[] }, { accessFlags := 25, nameIndex := 187, descriptorIndex := 25, attributes := #[] }, { accessFlags := 26, nameIndex := 48, descriptorIndex := 25, attributes := #[] }, { accessFlags := 25, nameIndex := 277, descriptorIndex := 25, attributes := #[] }, { accessFlags := 25, nameIndex := 280, descriptorIndex := 25, attributes := #[] }, { accessFlags := 25, nameIndex := 282, descriptorIndex := 25, attributes := #[] }, { accessFlags := 25, nameIndex := 284, descriptorIndex := 25, attributes := #[] }, { accessFlags := 25, nameIndex := 286, descriptorIndex := 25, attributes := #[] }, { accessFlags := 25, nameIndex := 288, descriptorIndex := 25, attributes := #[] }, { accessFlags := 25, nameIndex := 290, descriptorIndex := 25, attributes := #[] }, { accessFlags := 25, nameIndex := 292, descriptorIndex := 25, attributes := #[] }, { accessFlags := 26, nameIndex := 108, descriptorIndex := 109, attributes := #[] }, { accessFlags := 25, nameIndex := 294, descriptorIndex := 25, attributes := #[] }])
  fields := #[{ name := "U", type := (.object "jdk/internal/misc/Unsafe"), accessFlags := 24, slot := 0, constantValue := 0 }, { name := "BIG_ENDIAN", type := .boolean, accessFlags := 26, slot := 1, constantValue := 0 }, { name := "LOG2_ARRAY_BOOLEAN_INDEX_SCALE", type := .int, accessFlags := 25, slot := 2, constantValue := 0 }, { name := "LOG2_ARRAY_BYTE_INDEX_SCALE", type := .int, accessFlags := 25, slot := 3, constantValue := 0 }, { name := "LOG2_ARRAY_CHAR_INDEX_SCALE", type := .int, accessFlags := 25, slot := 4, constantValue := 0 }, { name := "LOG2_ARRAY_SHORT_INDEX_SCALE", type := .int, accessFlags := 25, slot := 5, constantValue := 0 }, { name := "LOG2_ARRAY_INT_INDEX_SCALE", type := .int, accessFlags := 25, slot := 6, constantValue := 0 }, { name := "LOG2_ARRAY_LONG_INDEX_SCALE", type := .int, accessFlags := 25, slot := 7, constantValue := 0 }, { name := "LOG2_ARRAY_FLOAT_INDEX_SCALE", type := .int, accessFlags := 25, slot := 8, constantValue := 0 }, { name := "LOG2_ARRAY_DOUBLE_INDEX_SCALE", type := .int, accessFlags := 25, slot := 9, constantValue := 0 }, { name := "LOG2_BYTE_BIT_SIZE", type := .int, accessFlags := 26, slot := 10, constantValue := 0 }, { name := "T_BOOLEAN", type := .int, accessFlags := 25, slot := 11, constantValue := 0 }, { name := "T_CHAR", type := .int, accessFlags := 25, slot := 12, constantValue := 0 }, { name := "T_FLOAT", type := .int, accessFlags := 25, slot := 13, constantValue := 0 }, { name := "T_DOUBLE", type := .int, accessFlags := 25, slot := 14, constantValue := 0 }, { name := "T_BYTE", type := .int, accessFlags := 25, slot := 15, constantValue := 0 }, { name := "T_SHORT", type := .int, accessFlags := 25, slot := 16, constantValue := 0 }, { name := "T_INT", type := .int, accessFlags := 25, slot := 17, constantValue := 0 }, { name := "T_LONG", type := .int, accessFlags := 25, slot := 18, constantValue := 0 }, { name := "JLA", type := (.object "jdk/internal/access/JavaLangAccess"), accessFlags := 26, slot := 19, constantValue := 0 }, { name := "SOFT_MAX_ARRAY_LENGTH", type := .int, accessFlags := 25, slot := 20, constantValue := 0 }]
  methods := #[k13m0]
  instanceTypes := #[]
  staticTypes := #[(.object "jdk/internal/misc/Unsafe"), .boolean, .int, .int, .int, .int, .int, .int, .int, .int, .int, .int, .int, .int, .int, .int, .int, .int, .int, (.object "jdk/internal/access/JavaLangAccess"), .int]
  resolved := Array.replicate 378 none
  statics := none }

def pool14 : Array CpInfo := pool [(1, u "java/lang/Cloneable"), (0, .class_ 1), (0, u "java/lang/Object"), (0, .class_ 3)] 3

/-- java/lang/Cloneable -/
def k14 : Class := { plain "java/lang/Cloneable" (some 0) with
  accessFlags := 1537
  interfaces := #[]
  cf := some (fileOf pool14 2 #[] #[] 1537 4 #[] #[])
  fields := #[]
  methods := #[]
  instanceTypes := #[]
  staticTypes := #[]
  resolved := Array.replicate 8 none
  statics := none }

/-- the primitive byte -/
def k15 : Class := { plain "byte" none with kind := .primitive 'B', accessFlags := 0x411 }
/-- [B -/
def k16 : Class := { plain "[B" (some 0) with kind := .array 15 .byte, interfaces := #[14, 2], accessFlags := 1041 }

/-- the primitive char -/
def k17 : Class := { plain "char" none with kind := .primitive 'C', accessFlags := 0x411 }
/-- [C -/
def k18 : Class := { plain "[C" (some 0) with kind := .array 17 .char, interfaces := #[14, 2], accessFlags := 1041 }

/-- the primitive int -/
def k19 : Class := { plain "int" none with kind := .primitive 'I', accessFlags := 0x411 }
/-- [I -/
def k20 : Class := { plain "[I" (some 0) with kind := .array 19 .int, interfaces := #[14, 2], accessFlags := 1041 }

def heap : Heap := #[{ cls := 7, slots := #[.long 0, .int 1, .null, .int 0, .null, .int 0, .int 0], vm := .statics 7 },
  { cls := 11, slots := #[.null, .null, .null], vm := .statics 11 },
  { cls := 12, slots := #[.int 0, .int 8, .int 0, .int 1], vm := .statics 12 }]
def classes : Array Class := #[k0, k1, k2, k3, k4, k5, k6, k7, k8, k9, k10, k11, k12, k13, k14, k15, k16, k17, k18, k19, k20]
def interned : List (Array UInt16 × Addr) := []
def slotsUsed : Nat := 14
def theMethod : MethodId := ⟨1, 1⟩
def args0 : Array Value := #[.int 1, .int 2, .int 3, .int 4, .int 5]
def aboutOver (below : List Frame) : State where
  vm := { classes := classes, interned := interned.toArray }
  heap := heap
  slotsUsed := slotsUsed
  threads := #[{ frames := .invoking theMethod args0 :: below }]
def below0 : List Frame := [.native { method := ⟨0, 0⟩, args := #[] }]
def about1 : State := aboutOver below0
def p0 : Program := .bare "" "" ""
def e0 : Env := launch0.env 0 0 0
theorem w_frames : about1.frames = Frame.invoking theMethod args0 :: below0 := rfl
set_option maxRecDepth 65536 in
theorem w_args : argsFit about1.vm theMethod args0 = true := by decide +kernel
set_option maxRecDepth 65536 in
theorem w_heap : heapFits about1 = true := by decide +kernel
set_option maxRecDepth 65536 in
theorem w_runnable : about1.curStatus? = some .runnable := by decide +kernel
set_option maxRecDepth 65536 in
theorem w_alone : about1.alone = true := by decide +kernel
set_option maxRecDepth 65536 in
theorem w_named : about1.methodNamed? x = some theMethod := by decide +kernel
set_option maxRecDepth 65536 in
theorem w_hears : about1.hears theMethod below0 = true := by decide +kernel
set_option maxRecDepth 65536 in
theorem w_ripe : about1.ripe theMethod args0 below0 = true := by decide +kernel
theorem w_running : about1.status = .running := rfl
set_option maxRecDepth 65536 in
theorem w_room : about1.hasRoom e0.platform room_1 = true :=
  launch0.hasRoom_least _ room_1 (by decide +kernel) (by decide +kernel) (by decide +kernel) (by decide +kernel) (by decide +kernel) (by decide +kernel)
theorem allAtoms_all (ts : List Jvm.Cond) (a : Array Jvm.Value) (st : Jvm.State) : (allAtoms ts).before a st = ts.all (fun c => c.before a st) := by
  induction ts with
  | nil => rfl
  | cons c t ih =>
    show (Jvm.Cond.and c (allAtoms t)).before a st = _
    rw [Jvm.Cond.before_and, ih, List.all_cons]
def words1 : List Jvm.Cond := Jvm.Cond.code x code maxLocals ret :: tables_1
/-- a 'code' word, met by the world's own term for the bytes: nothing is compared byte by byte -/
theorem code_word {y : MethodName} {bytes : ByteArray} {mx : Nat} {rt : Option FieldType} {a : Array Value} {s : State} {m : MethodId} {meth : Method} {c : Code} (h1 : s.methodNamed? y = some m) (h2 : s.vm.method? m = some meth) (h3 : meth.code = some c) (h4 : c.code = bytes)
    (h5 : (c.maxLocals == mx && c.exceptionTable.isEmpty && decide (c.maxStack ≤ mostOperands) && decide (meth.sig.returnType = rt) && !meth.locks && decide (parseMethodDescriptor y.desc = some meth.sig)) = true) : (Jvm.Cond.code y bytes mx rt).before a s = true := by
  simp only [Bool.and_eq_true, beq_iff_eq, Bool.not_eq_true', decide_eq_true_eq] at h5
  obtain ⟨⟨⟨⟨⟨g1, g2⟩, g3⟩, g4⟩, g5⟩, g6⟩ := h5
  simp [Cond.before, Cond.holds, Cond.value, h1, h2, h3, h4, g1, g2, g3, g4, g5, g6]
def isCode : Jvm.Cond → Bool
  | .code _ _ _ _ => true
  | _ => false
theorem all_split {L : List Jvm.Cond} {P : Jvm.Cond → Bool} (h1 : L.all (fun c => isCode c || P c) = true) (h2 : ∀ c ∈ L.filter isCode, P c = true) : L.all P = true := by
  refine List.all_eq_true.mpr fun c hc => ?_
  have h := List.all_eq_true.mp h1 c hc
  rcases Bool.eq_false_or_eq_true (isCode c) with hi | hi
  · exact h2 c (List.mem_filter.mpr ⟨hc, hi⟩)
  · simpa [hi] using h
set_option maxRecDepth 65536 in
theorem w_c0 : (Jvm.Cond.code x code maxLocals ret).before args0 about1 = true := code_word (m := ⟨1, 1⟩) (meth := k1m1) (c := k1c1) (by decide +kernel) rfl rfl rfl (by decide +kernel)
set_option maxRecDepth 65536 in
theorem w_c1 : (Jvm.Cond.code ({ cls := "java/lang/String", name := "valueOf", desc := "(C)Ljava/lang/String;" } : Jvm.MethodName) jdk_42_method_139_code (1 : Nat) (Option.some (Jvm.ClassFile.FieldType.object "java/lang/String"))).before args0 about1 = true := code_word (m := ⟨7, 3⟩) (meth := k7m3) (c := k7c3) (by decide +kernel) rfl rfl rfl (by decide +kernel)
set_option maxRecDepth 65536 in
theorem w_c2 : (Jvm.Cond.code ({ cls := "java/lang/StringLatin1", name := "canEncode", desc := "(C)Z" } : Jvm.MethodName) jdk_43_method_3_code (1 : Nat) (Option.some Jvm.ClassFile.FieldType.boolean)).before args0 about1 = true := code_word (m := ⟨8, 2⟩) (meth := k8m2) (c := k8c2) (by decide +kernel) rfl rfl rfl (by decide +kernel)
set_option maxRecDepth 65536 in
theorem w_c3 : (Jvm.Cond.code ({ cls := "java/lang/StringLatin1", name := "toBytes", desc := "(C)[B" } : Jvm.MethodName) jdk_43_method_46_code (1 : Nat) (Option.some (Jvm.ClassFile.FieldType.array Jvm.ClassFile.FieldType.byte))).before args0 about1 = true := code_word (m := ⟨8, 3⟩) (meth := k8m3) (c := k8c3) (by decide +kernel) rfl rfl rfl (by decide +kernel)
set_option maxRecDepth 65536 in
theorem w_c4 : (Jvm.Cond.code ({ cls := "java/lang/String", name := "<init>", desc := "([BB)V" } : Jvm.MethodName) jdk_42_method_151_code (3 : Nat) (Option.none : Option Jvm.ClassFile.FieldType)).before args0 about1 = true := code_word (m := ⟨7, 5⟩) (meth := k7m5) (c := k7c5) (by decide +kernel) rfl rfl rfl (by decide +kernel)
set_option maxRecDepth 65536 in
theorem w_c5 : (Jvm.Cond.code ({ cls := "java/lang/Object", name := "<init>", desc := "()V" } : Jvm.MethodName) object_method_1_code (1 : Nat) (Option.none : Option Jvm.ClassFile.FieldType)).before args0 about1 = true := code_word (m := ⟨0, 0⟩) (meth := k0m0) (c := k0c0) (by decide +kernel) rfl rfl rfl (by decide +kernel)
set_option maxRecDepth 65536 in
theorem w_c6 : (Jvm.Cond.code ({ cls := "com/example/vested_roles/vestedroles/Tokens$Token", name := "<init>", desc := "(Ljava/lang/String;IZ)V" } : Jvm.MethodName) prog_50_method_1_code (4 : Nat) (Option.none : Option Jvm.ClassFile.FieldType)).before args0 about1 = true := code_word (m := ⟨10, 0⟩) (meth := k10m0) (c := k10c0) (by decide +kernel) rfl rfl rfl (by decide +kernel)
set_option maxRecDepth 65536 in
theorem w_c7 : (Jvm.Cond.code ({ cls := "java/lang/Record", name := "<init>", desc := "()V" } : Jvm.MethodName) jdk_30_method_1_code (1 : Nat) (Option.none : Option Jvm.ClassFile.FieldType)).before args0 about1 = true := code_word (m := ⟨9, 0⟩) (meth := k9m0) (c := k9c0) (by decide +kernel) rfl rfl rfl (by decide +kernel)
set_option maxRecDepth 65536 in
theorem w_c8 : (Jvm.Cond.code ({ cls := "com/example/vested_roles/vestedroles/Tokens$Token", name := "is", desc := "(C)Z" } : Jvm.MethodName) prog_50_method_2_code (2 : Nat) (Option.some Jvm.ClassFile.FieldType.boolean)).before args0 about1 = true := code_word (m := ⟨10, 1⟩) (meth := k10m1) (c := k10c1) (by decide +kernel) rfl rfl rfl (by decide +kernel)
set_option maxRecDepth 65536 in
theorem w_c9 : (Jvm.Cond.code ({ cls := "java/lang/String", name := "charAt", desc := "(I)C" } : Jvm.MethodName) jdk_42_method_56_code (2 : Nat) (Option.some Jvm.ClassFile.FieldType.char)).before args0 about1 = true := code_word (m := ⟨7, 2⟩) (meth := k7m2) (c := k7c2) (by decide +kernel) rfl rfl rfl (by decide +kernel)
set_option maxRecDepth 65536 in
theorem w_c10 : (Jvm.Cond.code ({ cls := "java/lang/String", name := "isLatin1", desc := "()Z" } : Jvm.MethodName) jdk_42_method_154_code (1 : Nat) (Option.some Jvm.ClassFile.FieldType.boolean)).before args0 about1 = true := code_word (m := ⟨7, 6⟩) (meth := k7m6) (c := k7c6) (by decide +kernel) rfl rfl rfl (by decide +kernel)
set_option maxRecDepth 65536 in
theorem w_c11 : (Jvm.Cond.code ({ cls := "java/lang/StringLatin1", name := "charAt", desc := "([BI)C" } : Jvm.MethodName) jdk_43_method_2_code (2 : Nat) (Option.some Jvm.ClassFile.FieldType.char)).before args0 about1 = true := code_word (m := ⟨8, 1⟩) (meth := k8m1) (c := k8c1) (by decide +kernel) rfl rfl rfl (by decide +kernel)
set_option maxRecDepth 65536 in
theorem w_c12 : (Jvm.Cond.code ({ cls := "java/lang/String", name := "checkIndex", desc := "(II)V" } : Jvm.MethodName) jdk_42_method_155_code (2 : Nat) (Option.none : Option Jvm.ClassFile.FieldType)).before args0 about1 = true := code_word (m := ⟨7, 7⟩) (meth := k7m7) (c := k7c7) (by decide +kernel) rfl rfl rfl (by decide +kernel)
set_option maxRecDepth 65536 in
theorem w_c13 : (Jvm.Cond.code ({ cls := "jdk/internal/util/Preconditions", name := "checkIndex", desc := "(IILjava/util/function/BiFunction;)I" } : Jvm.MethodName) jdk_41_method_11_code (3 : Nat) (Option.some Jvm.ClassFile.FieldType.int)).before args0 about1 = true := code_word (m := ⟨11, 1⟩) (meth := k11m1) (c := k11c1) (by decide +kernel) rfl rfl rfl (by decide +kernel)
set_option maxRecDepth 65536 in
theorem w_c14 : (Jvm.Cond.code ({ cls := "java/lang/String", name := "<init>", desc := "([C)V" } : Jvm.MethodName) jdk_42_method_3_code (2 : Nat) (Option.none : Option Jvm.ClassFile.FieldType)).before args0 about1 = true := code_word (m := ⟨7, 1⟩) (meth := k7m1) (c := k7c1) (by decide +kernel) rfl rfl rfl (by decide +kernel)
set_option maxRecDepth 65536 in
theorem w_c15 : (Jvm.Cond.code ({ cls := "java/lang/String", name := "<init>", desc := "([CIILjava/lang/Void;)V" } : Jvm.MethodName) jdk_42_method_149_code (6 : Nat) (Option.none : Option Jvm.ClassFile.FieldType)).before args0 about1 = true := code_word (m := ⟨7, 4⟩) (meth := k7m4) (c := k7c4) (by decide +kernel) rfl rfl rfl (by decide +kernel)
set_option maxRecDepth 65536 in
theorem w_c16 : (Jvm.Cond.code ({ cls := "java/lang/StringUTF16", name := "compress", desc := "([CII)[B" } : Jvm.MethodName) jdk_52_method_16_code (6 : Nat) (Option.some (Jvm.ClassFile.FieldType.array Jvm.ClassFile.FieldType.byte))).before args0 about1 = true := code_word (m := ⟨12, 8⟩) (meth := k12m8) (c := k12c8) (by decide +kernel) rfl rfl rfl (by decide +kernel)
set_option maxRecDepth 65536 in
theorem w_c17 : (Jvm.Cond.code ({ cls := "java/lang/StringUTF16", name := "compress", desc := "([CI[BII)I" } : Jvm.MethodName) jdk_52_method_21_code (7 : Nat) (Option.some Jvm.ClassFile.FieldType.int)).before args0 about1 = true := code_word (m := ⟨12, 9⟩) (meth := k12m9) (c := k12c9) (by decide +kernel) rfl rfl rfl (by decide +kernel)
set_option maxRecDepth 65536 in
theorem w_c18 : (Jvm.Cond.code ({ cls := "java/lang/StringUTF16", name := "coderFromArrayLen", desc := "([BI)B" } : Jvm.MethodName) jdk_52_method_15_code (2 : Nat) (Option.some Jvm.ClassFile.FieldType.byte)).before args0 about1 = true := code_word (m := ⟨12, 7⟩) (meth := k12m7) (c := k12c7) (by decide +kernel) rfl rfl rfl (by decide +kernel)
set_option maxRecDepth 65536 in
theorem w_c19 : (Jvm.Cond.code ({ cls := "java/lang/StringUTF16", name := "toBytes", desc := "([CII)[B" } : Jvm.MethodName) jdk_52_method_14_code (5 : Nat) (Option.some (Jvm.ClassFile.FieldType.array Jvm.ClassFile.FieldType.byte))).before args0 about1 = true := code_word (m := ⟨12, 6⟩) (meth := k12m6) (c := k12c6) (by decide +kernel) rfl rfl rfl (by decide +kernel)
set_option maxRecDepth 65536 in
theorem w_c20 : (Jvm.Cond.code ({ cls := "java/lang/StringUTF16", name := "newBytesFor", desc := "(I)[B" } : Jvm.MethodName) jdk_52_method_2_code (1 : Nat) (Option.some (Jvm.ClassFile.FieldType.array Jvm.ClassFile.FieldType.byte))).before args0 about1 = true := code_word (m := ⟨12, 1⟩) (meth := k12m1) (c := k12c1) (by decide +kernel) rfl rfl rfl (by decide +kernel)
set_option maxRecDepth 65536 in
theorem w_c21 : (Jvm.Cond.code ({ cls := "java/lang/StringUTF16", name := "newBytesLength", desc := "(I)I" } : Jvm.MethodName) jdk_52_method_3_code (1 : Nat) (Option.some Jvm.ClassFile.FieldType.int)).before args0 about1 = true := code_word (m := ⟨12, 2⟩) (meth := k12m2) (c := k12c2) (by decide +kernel) rfl rfl rfl (by decide +kernel)
set_option maxRecDepth 65536 in
theorem w_c22 : (Jvm.Cond.code ({ cls := "java/lang/StringUTF16", name := "putChar", desc := "([BII)V" } : Jvm.MethodName) jdk_52_method_4_code (3 : Nat) (Option.none : Option Jvm.ClassFile.FieldType)).before args0 about1 = true := code_word (m := ⟨12, 3⟩) (meth := k12m3) (c := k12c3) (by decide +kernel) rfl rfl rfl (by decide +kernel)
set_option maxRecDepth 65536 in
theorem w_c23 : (Jvm.Cond.code ({ cls := "java/lang/StringUTF16", name := "getChar", desc := "([BI)C" } : Jvm.MethodName) jdk_52_method_5_code (2 : Nat) (Option.some Jvm.ClassFile.FieldType.char)).before args0 about1 = true := code_word (m := ⟨12, 4⟩) (meth := k12m4) (c := k12c4) (by decide +kernel) rfl rfl rfl (by decide +kernel)
set_option maxRecDepth 65536 in
theorem w_c24 : (Jvm.Cond.code ({ cls := "java/lang/StringUTF16", name := "charAt", desc := "([BI)C" } : Jvm.MethodName) jdk_52_method_83_code (2 : Nat) (Option.some Jvm.ClassFile.FieldType.char)).before args0 about1 = true := code_word (m := ⟨12, 11⟩) (meth := k12m11) (c := k12c11) (by decide +kernel) rfl rfl rfl (by decide +kernel)
set_option maxRecDepth 65536 in
theorem w_c25 : (Jvm.Cond.code ({ cls := "java/lang/StringUTF16", name := "checkIndex", desc := "(I[B)V" } : Jvm.MethodName) jdk_52_method_91_code (2 : Nat) (Option.none : Option Jvm.ClassFile.FieldType)).before args0 about1 = true := code_word (m := ⟨12, 12⟩) (meth := k12m12) (c := k12c12) (by decide +kernel) rfl rfl rfl (by decide +kernel)
set_option maxRecDepth 65536 in
theorem w_c26 : (Jvm.Cond.code ({ cls := "java/lang/StringUTF16", name := "length", desc := "([B)I" } : Jvm.MethodName) jdk_52_method_6_code (1 : Nat) (Option.some Jvm.ClassFile.FieldType.int)).before args0 about1 = true := code_word (m := ⟨12, 5⟩) (meth := k12m5) (c := k12c5) (by decide +kernel) rfl rfl rfl (by decide +kernel)
set_option maxRecDepth 65536 in
theorem w_c27 : (Jvm.Cond.code ({ cls := "java/lang/StringUTF16", name := "toBytes", desc := "(C)[B" } : Jvm.MethodName) jdk_52_method_24_code (2 : Nat) (Option.some (Jvm.ClassFile.FieldType.array Jvm.ClassFile.FieldType.byte))).before args0 about1 = true := code_word (m := ⟨12, 10⟩) (meth := k12m10) (c := k12c10) (by decide +kernel) rfl rfl rfl (by decide +kernel)
def codes1 : List Jvm.Cond := [Jvm.Cond.code x code maxLocals ret, Jvm.Cond.code ({ cls := "java/lang/String", name := "valueOf", desc := "(C)Ljava/lang/String;" } : Jvm.MethodName) jdk_42_method_139_code (1 : Nat) (Option.some (Jvm.ClassFile.FieldType.object "java/lang/String")), Jvm.Cond.code ({ cls := "java/lang/StringLatin1", name := "canEncode", desc := "(C)Z" } : Jvm.MethodName) jdk_43_method_3_code (1 : Nat) (Option.some Jvm.ClassFile.FieldType.boolean), Jvm.Cond.code ({ cls := "java/lang/StringLatin1", name := "toBytes", desc := "(C)[B" } : Jvm.MethodName) jdk_43_method_46_code (1 : Nat) (Option.some (Jvm.ClassFile.FieldType.array Jvm.ClassFile.FieldType.byte)), Jvm.Cond.code ({ cls := "java/lang/String", name := "<init>", desc := "([BB)V" } : Jvm.MethodName) jdk_42_method_151_code (3 : Nat) (Option.none : Option Jvm.ClassFile.FieldType), Jvm.Cond.code ({ cls := "java/lang/Object", name := "<init>", desc := "()V" } : Jvm.MethodName) object_method_1_code (1 : Nat) (Option.none : Option Jvm.ClassFile.FieldType), Jvm.Cond.code ({ cls := "com/example/vested_roles/vestedroles/Tokens$Token", name := "<init>", desc := "(Ljava/lang/String;IZ)V" } : Jvm.MethodName) prog_50_method_1_code (4 : Nat) (Option.none : Option Jvm.ClassFile.FieldType), Jvm.Cond.code ({ cls := "java/lang/Record", name := "<init>", desc := "()V" } : Jvm.MethodName) jdk_30_method_1_code (1 : Nat) (Option.none : Option Jvm.ClassFile.FieldType), Jvm.Cond.code ({ cls := "com/example/vested_roles/vestedroles/Tokens$Token", name := "is", desc := "(C)Z" } : Jvm.MethodName) prog_50_method_2_code (2 : Nat) (Option.some Jvm.ClassFile.FieldType.boolean), Jvm.Cond.code ({ cls := "java/lang/String", name := "charAt", desc := "(I)C" } : Jvm.MethodName) jdk_42_method_56_code (2 : Nat) (Option.some Jvm.ClassFile.FieldType.char), Jvm.Cond.code ({ cls := "java/lang/String", name := "isLatin1", desc := "()Z" } : Jvm.MethodName) jdk_42_method_154_code (1 : Nat) (Option.some Jvm.ClassFile.FieldType.boolean), Jvm.Cond.code ({ cls := "java/lang/StringLatin1", name := "charAt", desc := "([BI)C" } : Jvm.MethodName) jdk_43_method_2_code (2 : Nat) (Option.some Jvm.ClassFile.FieldType.char), Jvm.Cond.code ({ cls := "java/lang/String", name := "checkIndex", desc := "(II)V" } : Jvm.MethodName) jdk_42_method_155_code (2 : Nat) (Option.none : Option Jvm.ClassFile.FieldType), Jvm.Cond.code ({ cls := "jdk/internal/util/Preconditions", name := "checkIndex", desc := "(IILjava/util/function/BiFunction;)I" } : Jvm.MethodName) jdk_41_method_11_code (3 : Nat) (Option.some Jvm.ClassFile.FieldType.int), Jvm.Cond.code ({ cls := "java/lang/String", name := "<init>", desc := "([C)V" } : Jvm.MethodName) jdk_42_method_3_code (2 : Nat) (Option.none : Option Jvm.ClassFile.FieldType), Jvm.Cond.code ({ cls := "java/lang/String", name := "<init>", desc := "([CIILjava/lang/Void;)V" } : Jvm.MethodName) jdk_42_method_149_code (6 : Nat) (Option.none : Option Jvm.ClassFile.FieldType), Jvm.Cond.code ({ cls := "java/lang/StringUTF16", name := "compress", desc := "([CII)[B" } : Jvm.MethodName) jdk_52_method_16_code (6 : Nat) (Option.some (Jvm.ClassFile.FieldType.array Jvm.ClassFile.FieldType.byte)), Jvm.Cond.code ({ cls := "java/lang/StringUTF16", name := "compress", desc := "([CI[BII)I" } : Jvm.MethodName) jdk_52_method_21_code (7 : Nat) (Option.some Jvm.ClassFile.FieldType.int), Jvm.Cond.code ({ cls := "java/lang/StringUTF16", name := "coderFromArrayLen", desc := "([BI)B" } : Jvm.MethodName) jdk_52_method_15_code (2 : Nat) (Option.some Jvm.ClassFile.FieldType.byte), Jvm.Cond.code ({ cls := "java/lang/StringUTF16", name := "toBytes", desc := "([CII)[B" } : Jvm.MethodName) jdk_52_method_14_code (5 : Nat) (Option.some (Jvm.ClassFile.FieldType.array Jvm.ClassFile.FieldType.byte)), Jvm.Cond.code ({ cls := "java/lang/StringUTF16", name := "newBytesFor", desc := "(I)[B" } : Jvm.MethodName) jdk_52_method_2_code (1 : Nat) (Option.some (Jvm.ClassFile.FieldType.array Jvm.ClassFile.FieldType.byte)), Jvm.Cond.code ({ cls := "java/lang/StringUTF16", name := "newBytesLength", desc := "(I)I" } : Jvm.MethodName) jdk_52_method_3_code (1 : Nat) (Option.some Jvm.ClassFile.FieldType.int), Jvm.Cond.code ({ cls := "java/lang/StringUTF16", name := "putChar", desc := "([BII)V" } : Jvm.MethodName) jdk_52_method_4_code (3 : Nat) (Option.none : Option Jvm.ClassFile.FieldType), Jvm.Cond.code ({ cls := "java/lang/StringUTF16", name := "getChar", desc := "([BI)C" } : Jvm.MethodName) jdk_52_method_5_code (2 : Nat) (Option.some Jvm.ClassFile.FieldType.char), Jvm.Cond.code ({ cls := "java/lang/StringUTF16", name := "charAt", desc := "([BI)C" } : Jvm.MethodName) jdk_52_method_83_code (2 : Nat) (Option.some Jvm.ClassFile.FieldType.char), Jvm.Cond.code ({ cls := "java/lang/StringUTF16", name := "checkIndex", desc := "(I[B)V" } : Jvm.MethodName) jdk_52_method_91_code (2 : Nat) (Option.none : Option Jvm.ClassFile.FieldType), Jvm.Cond.code ({ cls := "java/lang/StringUTF16", name := "length", desc := "([B)I" } : Jvm.MethodName) jdk_52_method_6_code (1 : Nat) (Option.some Jvm.ClassFile.FieldType.int), Jvm.Cond.code ({ cls := "java/lang/StringUTF16", name := "toBytes", desc := "(C)[B" } : Jvm.MethodName) jdk_52_method_24_code (2 : Nat) (Option.some (Jvm.ClassFile.FieldType.array Jvm.ClassFile.FieldType.byte))]
set_option maxRecDepth 65536 in
theorem codes_eq : words1.filter isCode = codes1 := rfl
theorem w_codes : ∀ c ∈ words1.filter isCode, c.before args0 about1 = true := by
  rw [codes_eq]
  intro c hc
  simp only [codes1, List.mem_cons, List.not_mem_nil, or_false] at hc
  rcases hc with rfl | rfl | rfl | rfl | rfl | rfl | rfl | rfl | rfl | rfl | rfl | rfl | rfl | rfl | rfl | rfl | rfl | rfl | rfl | rfl | rfl | rfl | rfl | rfl | rfl | rfl | rfl | rfl
  · exact w_c0
  · exact w_c1
  · exact w_c2
  · exact w_c3
  · exact w_c4
  · exact w_c5
  · exact w_c6
  · exact w_c7
  · exact w_c8
  · exact w_c9
  · exact w_c10
  · exact w_c11
  · exact w_c12
  · exact w_c13
  · exact w_c14
  · exact w_c15
  · exact w_c16
  · exact w_c17
  · exact w_c18
  · exact w_c19
  · exact w_c20
  · exact w_c21
  · exact w_c22
  · exact w_c23
  · exact w_c24
  · exact w_c25
  · exact w_c26
  · exact w_c27
set_option maxRecDepth 65536 in
theorem w_t1 : (words1.take 24).all (fun c => isCode c || c.before args0 about1) = true := by decide +kernel
set_option maxRecDepth 65536 in
theorem w_t2 : ((words1.drop 24).take 24).all (fun c => isCode c || c.before args0 about1) = true := by decide +kernel
set_option maxRecDepth 65536 in
theorem w_t3 : (((words1.drop 24).drop 24).take 24).all (fun c => isCode c || c.before args0 about1) = true := by decide +kernel
set_option maxRecDepth 65536 in
theorem w_t4 : ((((words1.drop 24).drop 24).drop 24).take 24).all (fun c => isCode c || c.before args0 about1) = true := by decide +kernel
set_option maxRecDepth 65536 in
theorem w_t5 : (((((words1.drop 24).drop 24).drop 24).drop 24).take 24).all (fun c => isCode c || c.before args0 about1) = true := by decide +kernel
set_option maxRecDepth 65536 in
theorem w_t6 : (((((words1.drop 24).drop 24).drop 24).drop 24).drop 24).all (fun c => isCode c || c.before args0 about1) = true := by decide +kernel
theorem w_tables : (allAtoms (Jvm.Cond.code x code maxLocals ret :: tables_1)).before args0 about1 = true := by
  rw [allAtoms_all]
  show words1.all (fun c => c.before args0 about1) = true
  refine all_split ?_ w_codes
  rw [← List.take_append_drop 24 words1, List.all_append, w_t1, ← List.take_append_drop 24 (words1.drop 24), List.all_append, w_t2, ← List.take_append_drop 24 ((words1.drop 24).drop 24), List.all_append, w_t3, ← List.take_append_drop 24 (((words1.drop 24).drop 24).drop 24), List.all_append, w_t4, ← List.take_append_drop 24 ((((words1.drop 24).drop 24).drop 24).drop 24), List.all_append, w_t5, w_t6]
  rfl
set_option maxRecDepth 65536 in
theorem w_rest : rest_1_c.before args0 about1 = true := by decide +kernel
set_option maxRecDepth 65536 in
theorem w_case : (Jvm.Cond.and given_1 narrow_1).before args0 about1 = true := by decide +kernel
theorem w_applies : (headSpec (Jvm.Cond.code x code maxLocals ret :: tables_1) room_1).applies x e0.platform about1 = true :=
  (Spec.applies_iff w_frames).mpr ⟨w_running, w_runnable, w_alone, w_named, w_hears, w_ripe, w_room, w_tables⟩
theorem atStart : AtStart classFile x code maxLocals ret World_1 tables_1 room_1 Calls_1 rest_1 Pre_1 launch0 p0 e0 about1 theMethod args0 below0 :=
  ⟨lists_1, trivial, launch0.admits_env _ _ _, launch0.least_env, fairChoices_fair.cas, fairChoices_fair.clock, w_frames, w_args, w_heap, w_applies, trivial, w_rest, w_case⟩
end start1
theorem witness_1 : WitnessClaimed_1 := ⟨start1.p0, start1.e0, start1.about1, start1.theMethod, start1.args0, start1.below0, start1.atStart⟩
end Jvm.Pilot.@@N@@
