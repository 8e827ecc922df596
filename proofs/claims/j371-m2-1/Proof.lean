import JvmDerived
import JvmDerived.Pilot.@@N@@Statement
import JvmDerived.Pilot.@@N@@Code
set_option linter.unusedVariables false
set_option linter.unusedSimpArgs false
namespace Jvm.Pilot.@@N@@
open Jvm Jvm.ClassFile Sem Op Lib Jvm.Free Jvm.Stand Jvm.LawKit Jvm.RoadKit Bundle Jvm.Pilot.@@N@@.Jvm.D
theorem own_cast {tb : Tables} {e : Env} {below : List Frame} {T : State} {g g' : JFrame} {t : State} (q : g = g') (k : Steps tb e below (T.setTop g') t) : Steps tb e below (T.setTop g) t := q ▸ k
section Own
variable {p : Program} {l : Launch} {e : Env} {R : Room} {s : State} {m : MethodId} {args : Array Value} {below : List Frame} {meth : Method} {c : Code} {T T' : State} {locs : List Loc} {cells slots : Nat} {g g' : JFrame} {K : Outcome → State → Prop} {h : Heap}
/-- the run from T with g on top comes to an end at which K holds -/
def own_Go (p : Program) (e : Env) (below : List Frame) (K : Outcome → State → Prop) (T : State) (g : JFrame) : Prop := ∃ t o, Steps p.tables e below (T.setTop g) t ∧ t.status = .running ∧ Ended t below o ∧ K o t
def own_K (s : State) (Q : Option Value → Heap → List Loc → Prop) (kc ks : Nat) : Outcome → State → Prop := fun o t => ∃ v L, o = .returned v ∧ Q v t.heap L ∧ FrameEnd s o t L kc ks
theorem own_st (k : ∀ t, Steps p.tables e below (T'.setTop g') t → Steps p.tables e below (T.setTop g) t) (h : own_Go p e below K T' g') : own_Go p e below K T g := by
  obtain ⟨t, o, h1, h2⟩ := h; exact ⟨t, o, k t h1, h2⟩
theorem own_tr (k : Steps p.tables e below (T.setTop g) (T'.setTop g')) (h : own_Go p e below K T' g') : own_Go p e below K T g := by
  obtain ⟨t, o, h1, h2⟩ := h; exact ⟨t, o, k.trans h1, h2⟩
theorem own_in (q : g = g') (h : own_Go p e below K T g') : ∃ t o, Steps p.tables e below (T.setTop g) t ∧ t.status = .running ∧ Ended t below o ∧ K o t := by
  obtain ⟨t, o, h1, h2⟩ := h; exact ⟨t, o, own_cast q h1, h2⟩
variable {Q : Option Value → Heap → List Loc → Prop} {kc ks pc : Nat} {Ls : Array Slot} {rest : List Value} {x : MethodName} {S : Spec} {code : ByteArray} {maxLocals : Nat} {s₁ : State}
theorem own_end (X : Stand p l e R s m args below meth c T locs cells slots) {v : Option Value} (hv : meth.sig.returnType = none → v = none) (hlk : meth.locks = false) (eT : T.heap = h) (hQ : Q v h locs) (hc : cells ≤ kc) (hs : slots ≤ ks)
    (k : ∀ fs, (∀ (f : JFrame) (acts : List Action), f.method = m → f.locked = none → f.entered = [] → (doReturn e (T.setTop f) acts v).1 = T.setFrames fs) → Steps p.tables e below (T.setTop g) (T.setFrames fs)) : own_Go p e below (own_K s Q kc ks) T g := by
  obtain ⟨fs, hr, hrun, hended, hW, hsame⟩ := X.leave (v := v) hv hlk
  refine ⟨_, _, k fs hr, hrun, hended, v, locs, rfl, ?_, ⟨_, rfl⟩, hW, hsame.mono hc hs⟩
  show Q v T.heap locs
  rw [eT]; exact hQ
theorem own_retI (X : Stand p l e R s m args below meth c T locs cells slots) (hx : p.tables.exec = Jvm.exec) (Bd : BodyLoose p l x S code maxLocals (some .int) e s m args below meth c s₁) {z : Int32} (hd : decode c.code pc = .ok (.ireturn, 1)) (eT : T.heap = h) (hQ : Q (some (.int z)) h locs) (hc : cells ≤ kc) (hs : slots ≤ ks) :
    own_Go p e below (own_K s Q kc ks) T (mkF m pc Ls (.int z :: rest)) :=
  own_end X (fun h => by rw [Bd.returns] at h; cases h) Bd.notSynchronized eT hQ hc hs fun fs hr => retOut X hx Bd.returns rfl (Or.inl ⟨rfl, Or.inl rfl, z, rfl⟩) hd hr
theorem own_retJ (X : Stand p l e R s m args below meth c T locs cells slots) (hx : p.tables.exec = Jvm.exec) (Bd : BodyLoose p l x S code maxLocals (some .long) e s m args below meth c s₁) {z : Int64} (hd : decode c.code pc = .ok (.lreturn, 1)) (eT : T.heap = h) (hQ : Q (some (.long z)) h locs) (hc : cells ≤ kc) (hs : slots ≤ ks) :
    own_Go p e below (own_K s Q kc ks) T (mkF m pc Ls (.long z :: rest)) :=
  own_end X (fun h => by rw [Bd.returns] at h; cases h) Bd.notSynchronized eT hQ hc hs fun fs hr => retOut X hx Bd.returns rfl (Or.inr (Or.inl ⟨rfl, rfl, z, rfl⟩)) hd hr
theorem own_retN (X : Stand p l e R s m args below meth c T locs cells slots) (hx : p.tables.exec = Jvm.exec) {t : FieldType} (Bd : BodyLoose p l x S code maxLocals (some t) e s m args below meth c s₁) (ht : t = .boolean ∨ t = .byte ∨ t = .char ∨ t = .short) {z : Int32} (hn : narrow t (.int z) = .int z) (hd : decode c.code pc = .ok (.ireturn, 1)) (eT : T.heap = h) (hQ : Q (some (.int z)) h locs) (hc : cells ≤ kc) (hs : slots ≤ ks) :
    own_Go p e below (own_K s Q kc ks) T (mkF m pc Ls (.int z :: rest)) :=
  own_end X (fun h => by rw [Bd.returns] at h; cases h) Bd.notSynchronized eT hQ hc hs fun fs hr => retOut X hx Bd.returns hn (Or.inl ⟨rfl, Or.inr ht, z, rfl⟩) hd hr
theorem own_retA (X : Stand p l e R s m args below meth c T locs cells slots) (hx : p.tables.exec = Jvm.exec) {t : FieldType} (Bd : BodyLoose p l x S code maxLocals (some t) e s m args below meth c s₁) (ht : t.isReference = true) {w : Value} (hw : w.isRef = true) (hd : decode c.code pc = .ok (.areturn, 1)) (eT : T.heap = h) (hQ : Q (some w) h locs) (hc : cells ≤ kc) (hs : slots ≤ ks) :
    own_Go p e below (own_K s Q kc ks) T (mkF m pc Ls (w :: rest)) :=
  own_end X (fun h => by rw [Bd.returns] at h; cases h) Bd.notSynchronized eT hQ hc hs fun fs hr => retOut X hx Bd.returns (by cases t <;> first | (cases ht; done) | rfl) (Or.inr (Or.inr (Or.inr (Or.inr ⟨rfl, ht, hw⟩)))) hd hr
theorem own_retV (X : Stand p l e R s m args below meth c T locs cells slots) (hx : p.tables.exec = Jvm.exec) (Bd : BodyLoose p l x S code maxLocals none e s m args below meth c s₁) (hd : decode c.code pc = .ok (.return_, 1)) (eT : T.heap = h) (hQ : Q none h locs) (hc : cells ≤ kc) (hs : slots ≤ ks) :
    own_Go p e below (own_K s Q kc ks) T (mkF m pc Ls []) :=
  own_end X (fun _ => rfl) Bd.notSynchronized eT hQ hc hs fun fs hr => X.returnOut hx Bd.returns hd hr
end Own
theorem own_Sta_keep {Z : State} {h h' : Heap} {C n d : String} {v : Value} {ws : List Addr} (F : Sta Z h C n d v) (K : Keep h h' ws) (q : ∀ x ∈ ws, ∀ cell : Cell, h[x]? = some cell → cell.vm.isStatics = false) : Sta Z h' C n d v := by
  obtain ⟨cf, i, k, f, st, cell, h1, h2, h3, h4, h5, h6, h7⟩ := F
  exact ⟨cf, i, k, f, st, cell, h1, h2, h3, h4, K.2.1 _ _ h5 (fun hm => by rw [q _ hm _ h5] at h6; cases h6), h6, h7⟩
theorem own_Ins_keep {Z : State} {h h' : Heap} {a : Addr} {C : String} {b : Bool} {ws : List Addr} (F : Ins Z h a C b) (K : Keep h h' ws) : Ins Z h' a C b := by
  obtain ⟨cell, cT, h1, h2, h3⟩ := F
  obtain ⟨c', e1, e2, e3, -⟩ := K.2.2 _ _ h1
  exact ⟨c', cT, e1, h2, by rw [e2, e3]; exact h3⟩
theorem own_enum {Z : State} {args : Array Value} {C D n d : String} (h : (Cond.exactly (Term.static C n d) D).value args Z none Z [] = some true) (hi : (Cond.initializedFor C n d).before args Z = true ∨ ((Cond.initialized C).before args Z = true ∧ (Cond.laysStatic C n d).before args Z = true)) :
    ∃ a, (Term.static C n d).eval args Z none [] Z = some (.ref a) ∧ Sta Z Z.heap C n d (.ref a) ∧ Exa Z Z.heap a D := by
  obtain ⟨a, e⟩ := exa_v h
  exact ⟨a, e, Sta.start e hi, Exa.start e h⟩
theorem own_ord {Z : State} {args : Array Value} {t : Term} {a : Addr} {O n d : String} {k : Int32} (e : t.eval args Z none [] Z = some (.ref a)) (h : (Cond.eq (Term.field t O n d) (Term.int k)).value args Z none Z [] = some true) : Fld Z Z.heap a O n d (.int k) := by
  refine Fld.start ?_
  have q := fld_at (C := O) (n := n) (dd := d) (first := Z) (o := none) (idx := []) (args := args) e
  obtain ⟨x, y, h1, h2, -⟩ := cmp_v (Or.inl h)
  rw [q] at h1
  have h2' : some (Value.int k) = some y := h2
  cases h2'
  cases x <;> simp [Cond.value, Term.eval, e, h1] at h
  rw [h1, h]
theorem own_bb (x : Int32) : x.toInt8.toInt32.toInt8.toInt32 = x.toInt8.toInt32 := by simp
theorem own_cc (x : Int32) : x.toUInt32.toUInt16.toUInt32.toInt32.toUInt32.toUInt16.toUInt32.toInt32 = x.toUInt32.toUInt16.toUInt32.toInt32 := by simp only [UInt32.toUInt32_toInt32, UInt16.toUInt16_toUInt32]
theorem own_nar_ref {t : FieldType} {v : Value} (h : v.isRef = true) (ht : t.isReference = true) : narrow t v = v := by cases t <;> first | (cases ht; done) | rfl
theorem own_fits_ref {t : FieldType} {v : Value} (h : v.isRef = true) (ht : t.isReference = true) : fits t v = true := by rcases ref_cases h with rfl | ⟨a, rfl⟩ <;> cases t <;> first | (cases ht; done) | rfl
theorem own_nar_b {z : Int32} (h : z = 0 ∨ z = 1) : narrow .boolean (.int z) = .int z := by rcases h with rfl | rfl <;> rfl
theorem own_fits_b {z : Int32} (h : z = 0 ∨ z = 1) : fits .boolean (.int z) = true := by rcases h with rfl | rfl <;> rfl
theorem own_d10_0 : decode jdk_18_method_1_code 0 = .ok (.aload_n 0, 1) := by decide +kernel
theorem own_d10_1 : decode jdk_18_method_1_code 1 = .ok (.invokespecial 1, 3) := by decide +kernel
theorem own_d10_4 : decode jdk_18_method_1_code 4 = .ok (.return_, 1) := by decide +kernel
theorem own_pn0 : plainName "java/lang/Number" = true := by first | (simp [plainName, overriddenIn]; done) | decide +kernel
theorem own_d9_0 : decode jdk_33_method_23_code 0 = .ok (.aload_n 0, 1) := by decide +kernel
theorem own_d9_1 : decode jdk_33_method_23_code 1 = .ok (.invokespecial 202, 3) := by decide +kernel
theorem own_pd0 : parseMethodDescriptor "()V" = some ⟨[], none⟩ := by decide +kernel
theorem own_d9_4 : decode jdk_33_method_23_code 4 = .ok (.aload_n 0, 1) := by decide +kernel
theorem own_d9_5 : decode jdk_33_method_23_code 5 = .ok (.iload_n 1, 1) := by decide +kernel
theorem own_d9_6 : decode jdk_33_method_23_code 6 = .ok (.putfield 205, 3) := by decide +kernel
theorem own_d9_9 : decode jdk_33_method_23_code 9 = .ok (.return_, 1) := by decide +kernel
theorem own_pn1 : plainName "java/lang/Integer" = true := by first | (simp [plainName, overriddenIn]; done) | decide +kernel
theorem own_d11_0 : decode jdk_33_method_27_code 0 = .ok (.aload_n 0, 1) := by decide +kernel
theorem own_d11_1 : decode jdk_33_method_27_code 1 = .ok (.getfield 205, 3) := by decide +kernel
theorem own_d11_4 : decode jdk_33_method_27_code 4 = .ok (.ireturn, 1) := by decide +kernel
theorem own_d8_0 : decode jdk_33_method_22_code 0 = .ok (.iload_n 0, 1) := by decide +kernel
theorem own_d8_1 : decode jdk_33_method_22_code 1 = .ok (.bipush (-128), 2) := by decide +kernel
theorem own_d8_3 : decode jdk_33_method_22_code 3 = .ok (.if_icmp .lt 20, 3) := by decide +kernel
theorem own_d8_23 : decode jdk_33_method_22_code 23 = .ok (.new 1, 3) := by decide +kernel
theorem own_d8_26 : decode jdk_33_method_22_code 26 = .ok (.dup, 1) := by decide +kernel
theorem own_d8_27 : decode jdk_33_method_22_code 27 = .ok (.iload_n 0, 1) := by decide +kernel
theorem own_d8_28 : decode jdk_33_method_22_code 28 = .ok (.invokespecial 199, 3) := by decide +kernel
theorem own_pd1 : parseMethodDescriptor "(I)V" = some ⟨[.int], none⟩ := by decide +kernel
theorem own_d8_31 : decode jdk_33_method_22_code 31 = .ok (.areturn, 1) := by decide +kernel
theorem own_d8_6 : decode jdk_33_method_22_code 6 = .ok (.iload_n 0, 1) := by decide +kernel
theorem own_d8_7 : decode jdk_33_method_22_code 7 = .ok (.getstatic 191, 3) := by decide +kernel
theorem own_d8_10 : decode jdk_33_method_22_code 10 = .ok (.if_icmp .gt 13, 3) := by decide +kernel
theorem own_d8_13 : decode jdk_33_method_22_code 13 = .ok (.getstatic 195, 3) := by decide +kernel
theorem own_d8_16 : decode jdk_33_method_22_code 16 = .ok (.iload_n 0, 1) := by decide +kernel
theorem own_d8_17 : decode jdk_33_method_22_code 17 = .ok (.sipush 128, 3) := by decide +kernel
theorem own_d8_20 : decode jdk_33_method_22_code 20 = .ok (.iadd, 1) := by decide +kernel
theorem own_d8_21 : decode jdk_33_method_22_code 21 = .ok (.aaload, 1) := by decide +kernel
theorem own_d8_22 : decode jdk_33_method_22_code 22 = .ok (.areturn, 1) := by decide +kernel
theorem own_d5_0 : decode jdk_43_method_3_code 0 = .ok (.iload_n 0, 1) := by decide +kernel
theorem own_d5_1 : decode jdk_43_method_3_code 1 = .ok (.sipush 255, 3) := by decide +kernel
theorem own_d5_4 : decode jdk_43_method_3_code 4 = .ok (.if_icmp .gt 7, 3) := by decide +kernel
theorem own_d5_7 : decode jdk_43_method_3_code 7 = .ok (.iconst 1, 1) := by decide +kernel
theorem own_d5_8 : decode jdk_43_method_3_code 8 = .ok (.goto 4, 3) := by decide +kernel
theorem own_d5_12 : decode jdk_43_method_3_code 12 = .ok (.ireturn, 1) := by decide +kernel
theorem own_pn2 : plainName "java/lang/StringLatin1" = true := by first | (simp [plainName, overriddenIn]; done) | decide +kernel
theorem own_d6_0 : decode jdk_43_method_46_code 0 = .ok (.iconst 1, 1) := by decide +kernel
theorem own_d6_1 : decode jdk_43_method_46_code 1 = .ok (.newarray .byte, 2) := by decide +kernel
theorem own_d6_3 : decode jdk_43_method_46_code 3 = .ok (.dup, 1) := by decide +kernel
theorem own_d6_4 : decode jdk_43_method_46_code 4 = .ok (.iconst 0, 1) := by decide +kernel
theorem own_d6_5 : decode jdk_43_method_46_code 5 = .ok (.iload_n 0, 1) := by decide +kernel
theorem own_d6_6 : decode jdk_43_method_46_code 6 = .ok (.i2b, 1) := by decide +kernel
theorem own_d6_7 : decode jdk_43_method_46_code 7 = .ok (.bastore, 1) := by decide +kernel
theorem own_d6_8 : decode jdk_43_method_46_code 8 = .ok (.areturn, 1) := by decide +kernel
theorem own_d7_0 : decode jdk_42_method_151_code 0 = .ok (.aload_n 0, 1) := by decide +kernel
theorem own_d7_1 : decode jdk_42_method_151_code 1 = .ok (.invokespecial 1, 3) := by decide +kernel
theorem own_d7_4 : decode jdk_42_method_151_code 4 = .ok (.aload_n 0, 1) := by decide +kernel
theorem own_d7_5 : decode jdk_42_method_151_code 5 = .ok (.aload_n 1, 1) := by decide +kernel
theorem own_d7_6 : decode jdk_42_method_151_code 6 = .ok (.putfield 9, 3) := by decide +kernel
theorem own_d7_9 : decode jdk_42_method_151_code 9 = .ok (.aload_n 0, 1) := by decide +kernel
theorem own_d7_10 : decode jdk_42_method_151_code 10 = .ok (.iload_n 2, 1) := by decide +kernel
theorem own_d7_11 : decode jdk_42_method_151_code 11 = .ok (.putfield 15, 3) := by decide +kernel
theorem own_d7_14 : decode jdk_42_method_151_code 14 = .ok (.return_, 1) := by decide +kernel
theorem own_pn3 : plainName "java/lang/String" = true := by first | (simp [plainName, overriddenIn]; done) | decide +kernel
theorem own_d4_0 : decode jdk_42_method_139_code 0 = .ok (.getstatic 38, 3) := by decide +kernel
theorem own_d4_3 : decode jdk_42_method_139_code 3 = .ok (.ifCond .eq 23, 3) := by decide +kernel
theorem own_d4_6 : decode jdk_42_method_139_code 6 = .ok (.iload_n 0, 1) := by decide +kernel
theorem own_d4_7 : decode jdk_42_method_139_code 7 = .ok (.invokestatic 1015, 3) := by decide +kernel
theorem own_pd2 : parseMethodDescriptor "(C)Z" = some ⟨[.char], some .boolean⟩ := by decide +kernel
theorem own_d4_10 : decode jdk_42_method_139_code 10 = .ok (.ifCond .eq 16, 3) := by decide +kernel
theorem own_d4_13 : decode jdk_42_method_139_code 13 = .ok (.new 10, 3) := by decide +kernel
theorem own_d4_16 : decode jdk_42_method_139_code 16 = .ok (.dup, 1) := by decide +kernel
theorem own_d4_17 : decode jdk_42_method_139_code 17 = .ok (.iload_n 0, 1) := by decide +kernel
theorem own_d4_18 : decode jdk_42_method_139_code 18 = .ok (.invokestatic 1018, 3) := by decide +kernel
theorem own_pd3 : parseMethodDescriptor "(C)[B" = some ⟨[.char], some (.array .byte)⟩ := by decide +kernel
theorem own_d4_21 : decode jdk_42_method_139_code 21 = .ok (.iconst 0, 1) := by decide +kernel
theorem own_d4_22 : decode jdk_42_method_139_code 22 = .ok (.invokespecial 209, 3) := by decide +kernel
theorem own_pd4 : parseMethodDescriptor "([BB)V" = some ⟨[(.array .byte), .byte], none⟩ := by decide +kernel
theorem own_d4_25 : decode jdk_42_method_139_code 25 = .ok (.areturn, 1) := by decide +kernel
theorem own_d1_0 : decode prog_28_method_1_code 0 = .ok (.aload_n 0, 1) := by decide +kernel
theorem own_d1_1 : decode prog_28_method_1_code 1 = .ok (.invokespecial 1, 3) := by decide +kernel
theorem own_d1_4 : decode prog_28_method_1_code 4 = .ok (.aload_n 0, 1) := by decide +kernel
theorem own_d1_5 : decode prog_28_method_1_code 5 = .ok (.aload_n 1, 1) := by decide +kernel
theorem own_d1_6 : decode prog_28_method_1_code 6 = .ok (.putfield 7, 3) := by decide +kernel
theorem own_d1_9 : decode prog_28_method_1_code 9 = .ok (.aload_n 0, 1) := by decide +kernel
theorem own_d1_10 : decode prog_28_method_1_code 10 = .ok (.aload_n 2, 1) := by decide +kernel
theorem own_d1_11 : decode prog_28_method_1_code 11 = .ok (.putfield 13, 3) := by decide +kernel
theorem own_d1_14 : decode prog_28_method_1_code 14 = .ok (.return_, 1) := by decide +kernel
theorem own_pn4 : plainName "com/example/durable_cron/durablecron/store/RequestOutcome" = true := by first | (simp [plainName, overriddenIn]; done) | decide +kernel
theorem own_d12_0 : decode prog_28_method_7_code 0 = .ok (.iload_n 0, 1) := by decide +kernel
theorem own_d12_1 : decode prog_28_method_7_code 1 = .ok (.sipush 200, 3) := by decide +kernel
theorem own_d12_4 : decode prog_28_method_7_code 4 = .ok (.if_icmp .lt 14, 3) := by decide +kernel
theorem own_d12_18 : decode prog_28_method_7_code 18 = .ok (.iconst 0, 1) := by decide +kernel
theorem own_d12_19 : decode prog_28_method_7_code 19 = .ok (.ireturn, 1) := by decide +kernel
theorem own_d12_7 : decode prog_28_method_7_code 7 = .ok (.iload_n 0, 1) := by decide +kernel
theorem own_d12_8 : decode prog_28_method_7_code 8 = .ok (.sipush 299, 3) := by decide +kernel
theorem own_d12_11 : decode prog_28_method_7_code 11 = .ok (.if_icmp .gt 7, 3) := by decide +kernel
theorem own_d12_14 : decode prog_28_method_7_code 14 = .ok (.iconst 1, 1) := by decide +kernel
theorem own_d12_15 : decode prog_28_method_7_code 15 = .ok (.goto 4, 3) := by decide +kernel
theorem own_d3_0 : decode prog_28_method_4_code 0 = .ok (.aload_n 0, 1) := by decide +kernel
theorem own_d3_1 : decode prog_28_method_4_code 1 = .ok (.getfield 7, 3) := by decide +kernel
theorem own_d3_4 : decode prog_28_method_4_code 4 = .ok (.ifnull 20, 3) := by decide +kernel
theorem own_d3_24 : decode prog_28_method_4_code 24 = .ok (.iconst 0, 1) := by decide +kernel
theorem own_d3_25 : decode prog_28_method_4_code 25 = .ok (.ireturn, 1) := by decide +kernel
theorem own_d3_7 : decode prog_28_method_4_code 7 = .ok (.aload_n 0, 1) := by decide +kernel
theorem own_d3_8 : decode prog_28_method_4_code 8 = .ok (.getfield 7, 3) := by decide +kernel
theorem own_d3_11 : decode prog_28_method_4_code 11 = .ok (.invokevirtual 36, 3) := by decide +kernel
theorem own_pd5 : parseMethodDescriptor "()I" = some ⟨[], some .int⟩ := by decide +kernel
theorem own_d3_14 : decode prog_28_method_4_code 14 = .ok (.invokestatic 23, 3) := by decide +kernel
theorem own_pd6 : parseMethodDescriptor "(I)Z" = some ⟨[.int], some .boolean⟩ := by decide +kernel
theorem own_d3_17 : decode prog_28_method_4_code 17 = .ok (.ifCond .eq 7, 3) := by decide +kernel
theorem own_d3_20 : decode prog_28_method_4_code 20 = .ok (.iconst 1, 1) := by decide +kernel
theorem own_d3_21 : decode prog_28_method_4_code 21 = .ok (.goto 4, 3) := by decide +kernel
theorem own_pd7 : parseMethodDescriptor "(C)Ljava/lang/String;" = some ⟨[.char], some (.object "java/lang/String")⟩ := by decide +kernel
theorem own_pd8 : parseMethodDescriptor "(I)Ljava/lang/Integer;" = some ⟨[.int], some (.object "java/lang/Integer")⟩ := by decide +kernel
theorem own_pd9 : parseMethodDescriptor "(Ljava/lang/Integer;Ljava/lang/String;)V" = some ⟨[(.object "java/lang/Integer"), (.object "java/lang/String")], none⟩ := by decide +kernel
theorem own_pd10 : parseMethodDescriptor "()Z" = some ⟨[], some .boolean⟩ := by decide +kernel
theorem own_pn5 : plainName "com/example/durable_cron/durablecron/store/RequestOutcomeSucceededPinLaw" = true := by first | (simp [plainName, overriddenIn]; done) | decide +kernel
theorem own_sint {Z : State} {args : Array Value} {C n d : String} {k : Int32} (h : (Cond.eq (Term.static C n d) (Term.int k)).value args Z none Z [] = some true) (hi : (Cond.initializedFor C n d).before args Z = true ∨ ((Cond.initialized C).before args Z = true ∧ (Cond.laysStatic C n d).before args Z = true)) : Sta Z Z.heap C n d (.int k) := by
  refine Sta.start ?_ hi
  obtain ⟨x, y, h1, h2, -⟩ := cmp_v (Or.inl h)
  have h2' : some (Value.int k) = some y := h2
  cases h2'
  simp only [Cond.value, h1, h2] at h
  cases x <;> simp at h
  rw [h1, h]
theorem own_cidx {x : Int32} (h1 : ¬ x < (-128 : Int32)) (h2 : ¬ (127 : Int32) < x) : ¬ (x + (128 : Int32) < 0 ∨ (256 : Int32).toNatClampNeg ≤ (x + (128 : Int32)).toNatClampNeg) := by
  rw [Int32.lt_iff_toInt_lt] at h1 h2
  have a1 : (-128 : Int32).toInt = -128 := rfl
  have a2 : (127 : Int32).toInt = 127 := rfl
  have a3 : (128 : Int32).toInt = 128 := rfl
  have q : (x + 128).toInt = x.toInt + 128 := by rw [Int32.toInt_add]; exact Int.bmod_eq_of_le (by omega) (by omega)
  rintro (h | h)
  · rw [Int32.lt_iff_toInt_lt, q] at h; have : (0 : Int32).toInt = 0 := rfl; omega
  · have a4 : (256 : Int32).toNatClampNeg = 256 := rfl
    rw [a4] at h; simp only [Int32.toNatClampNeg, q] at h; omega
theorem own_cval (x : Int32) : x + (128 : Int32) - 128 = x := Int32.add_sub_cancel x 128
theorem own_ne_or {r b n : Nat} {k : Nat} (h : r < n ∨ k ≤ r) (h1 : n ≤ b) (h2 : b < k) : b ≠ r := by omega
theorem own_len {Z : State} {args : Array Value} {t : Term} {a : Addr} {c : Cell} {ty : FieldType} {k : Int32} (e : t.eval args Z none [] Z = some (.ref a)) (A : Arr Z Z.heap a c ty) (h : (Cond.eq (Term.length t) (Term.int k)).value args Z none Z [] = some true) : c.slots.size < 2 ^ 31 ∧ c.slots.size.toInt32 = k := by
  obtain ⟨x, y, e1, e2, -⟩ := cmp_v (Or.inl h)
  have hl : c.slots.size < 2 ^ 31 := by
    have z := A.fin (Vm.Alike.refl _)
    cases Nat.lt_or_ge c.slots.size (2 ^ 31) with
    | inl q => exact q
    | inr q => simp [Term.eval, e, z, Nat.not_lt.mpr q] at e1
  have e3 := len_f e (A.fin (Vm.Alike.refl _)) hl
  exact ⟨hl, gotT (Cond.eq_ints e3 (Term.int_eval k)) h⟩
theorem own_idx128 {Z : State} {args : Array Value} {j : Int32} (hj : ¬ j < 0) : (Term.sub (Term.index 0) (Term.int 128)).eval args Z none [j.toNatClampNeg] Z = some (.int (j - 128)) := by
  simp [Term.eval, (back32 hj).1]
theorem own_twin {Z : State} {args : Array Value} {C n d n' d' : String} {v w : Value} (S : Sta Z Z.heap C n d v) (l1 : (Cond.laysStatic C n d).before args Z = true) (l2 : (Cond.laysStatic C n' d').before args Z = true) (e : (Term.static C n' d').eval args Z none [] Z = some w) : Sta Z Z.heap C n' d' w := by
  obtain ⟨cf, i, k, f, st, cell, h1, h2, h3, h4, h5, h6, h7⟩ := S
  obtain ⟨c2, k2, i2, f2, st2, cell2, q1, q2, -⟩ := Cond.laysStatic_spec l1
  cases h1.symm.trans q2
  have hi : (Cond.initialized C).before args Z = true := by
    have := State.fieldFound?_class h1
    simp [Cond.before, Cond.holds, Cond.value, q1, this, h3]
  exact Sta.start e (Or.inr ⟨hi, l2⟩)
def own_ok (x : Int32) : Int32 := if x < (200 : Int32) then 0 else if (299 : Int32) < x then 0 else 1
theorem own_ok_ne {x : Int32} (h : ¬ own_ok x = 0) : own_ok x = 1 := by
  unfold own_ok at h ⊢; by_cases h1 : x < (200 : Int32) <;> by_cases h2 : (299 : Int32) < x <;> simp only [h1, h2, if_true, if_false] at h ⊢ <;> first | rfl | exact absurd trivial h
theorem own_sub200 (x : Int32) : (x.toInt64 - (200 : Int64)).toInt = x.toInt - 200 := by
  have l := x.le_toInt; have u := x.toInt_lt
  rw [Int64.toInt_sub, Int32.toInt_toInt64]; have : (200 : Int64).toInt = 200 := rfl; rw [this]; exact Int.bmod_eq_of_le (by omega) (by omega)
theorem own_ok_lo {x : Int32} (h : x.toInt64 - (200 : Int64) < (0 : Int64)) : own_ok x = (0 : Int32) := by
  rw [Int64.lt_iff_toInt_lt, own_sub200] at h
  have : x < (200 : Int32) := by rw [Int32.lt_iff_toInt_lt]; have a : (200 : Int32).toInt = 200 := rfl; have b : (0 : Int64).toInt = 0 := rfl; omega
  simp only [own_ok, this, if_true]
theorem own_ok_in {x : Int32} (h : ¬ x.toInt64 - (200 : Int64) < (0 : Int64)) (h' : x.toInt64 - (200 : Int64) < (100 : Int64)) : own_ok x = (1 : Int32) := by
  rw [Int64.lt_iff_toInt_lt, own_sub200] at h h'
  have b : (0 : Int64).toInt = 0 := rfl
  have b' : (100 : Int64).toInt = 100 := rfl
  have a : (200 : Int32).toInt = 200 := rfl
  have a' : (299 : Int32).toInt = 299 := rfl
  have c1 : ¬ x < (200 : Int32) := by rw [Int32.lt_iff_toInt_lt]; omega
  have c2 : ¬ (299 : Int32) < x := by rw [Int32.lt_iff_toInt_lt]; omega
  simp only [own_ok, c1, c2, if_false]
theorem own_ok_hi {x : Int32} (h' : ¬ x.toInt64 - (200 : Int64) < (100 : Int64)) : own_ok x = (0 : Int32) := by
  rw [Int64.lt_iff_toInt_lt, own_sub200] at h'
  have b' : (100 : Int64).toInt = 100 := rfl
  have a' : (299 : Int32).toInt = 299 := rfl
  have c2 : (299 : Int32) < x := by rw [Int32.lt_iff_toInt_lt]; omega
  simp only [own_ok, c2, if_true]; split <;> rfl
theorem own_255 (x : Int32) : ¬ (255 : Int32) < (x &&& (255 : Int32)).toUInt32.toUInt16.toUInt32.toInt32 := by
  rw [i2c_mask]; have h := (c_and x 255 (by decide)).2; rw [Int32.lt_iff_toInt_lt]; omega

def own_r10 : Room := { frames := 1, cells := 0, slots := 0, locals := 12 }
theorem own_ef10 (m : MethodId) (x0 : Addr) : entryFrame m #[(.ref x0)] 1 = mkF m 0 #[.val (.ref x0)] [] := by first | (simp [entryFrame, mkF, argsToLocals, Value.category]; done) | rfl
def own_Q10 (Z : State) (a : Addr) (h0 : Heap) (n0 : Nat) : Option Value → Heap → List Loc → Prop := fun v h L => v = none ∧ Fr n0 L ∧ h = h0
set_option maxRecDepth 65536 in
set_option maxHeartbeats 40000000 in
theorem own_rm10 (l : Launch) (Z : State) (a0 : Array Value) (hw : ∀ d ∈ tables_1, d.before a0 Z = true) (ws : List Jvm.Cond) (a : Addr) (h0 : Heap) (n0 : Nat) (Z0 : n0 ≤ h0.size)  :
    MetFree l (⟨"java/lang/Number", "<init>", "()V"⟩ : MethodName) (head1 (Jvm.Cond.code (⟨"java/lang/Number", "<init>", "()V"⟩ : MethodName) jdk_18_method_1_code 1 none :: ws) own_r10) (fun a_ U_ => a_ = #[(.ref a)] ∧ Z.Warmed39 U_.vm ∧ U_.heap = h0) (fun _ _ _ _ _ => True) (fun _ U_ o_ U'_ => ∃ v_ L_, o_ = .returned v_ ∧ own_Q10 Z a  h0 n0 v_ U'_.heap L_ ∧ FrameEnd U_ o_ U'_ L_ own_r10.cells own_r10.slots) := by
  refine MetFree.of_bodySF (plainFor_of_name own_pn0) hisR ?_
  intro p e s m args below meth c s₁ Bd hml0 hP hK
  obtain ⟨rfl, hZ, hh⟩ := hP
  have hx := Bd.exec
  have hby := Bd.bytes
  have hml : c.maxLocals = 1 := hml0
  have hown : s.vm.findClass "java/lang/Number" = some m.cls := findClass_of_methodNamed Bd.named
  have hnm := (name_of_methodNamed Bd.named Bd.method).1
  have X0 : Stand p l e own_r10 s m #[(.ref a)] below meth c s₁ [] 0 0 := Stand.of_body Bd
  have e0 : s₁.heap = h0 := by rw [← hh, Bd.state]; rfl
  have N0 := Fr.nil n0
  refine own_in (own_ef10 m a) ?_
  show own_Go p e below (own_K s (own_Q10 Z a  h0 n0) own_r10.cells own_r10.slots) s₁ (mkF m 0 #[.val (.ref a)] [])
  refine own_st (T' := s₁) (g' := (mkF m 1 #[.val (.ref a)] [(.ref a)])) (fun t k => ?_) ?_
  · show Steps p.tables e below (s₁.setTop (mkF m 0 #[.val (.ref a)] [])) t
    refine XS.aloadN X0.here hx rfl (hb hby own_d10_0) rfl rfl ?_
    exact k
  obtain ⟨T1, X1, e1, st1⟩ := initO X0 hx hZ hown (hw _ (List.mem_of_getElem? (i := 62) rfl)) (hw _ (List.mem_of_getElem? (i := 7) rfl)) (hw _ (List.mem_of_getElem? (i := 8) rfl)) e0 (g := (mkF m 1 #[.val (.ref a)] [(.ref a)])) rfl (by rw [hml]; rfl) rfl (hb hby own_d10_1) (by decide) (W := 0) (by show 2 * 0 + _ ≤ _; exact Nat.le_of_eq rfl) (by decide)
  refine own_st (T' := T1) (g' := (mkF m 4 #[.val (.ref a)] [])) st1 ?_
  exact own_retV X1 hx Bd (hb hby own_d10_4) e1 (⟨rfl, N0, rfl⟩) (by decide) (by decide)
def own_r9 : Room := { frames := 2, cells := 0, slots := 0, locals := 24 }
theorem own_ef9 (m : MethodId) (x0 : Addr) (x1 : Int32) : entryFrame m #[(.ref x0), (.int x1)] 2 = mkF m 0 #[.val (.ref x0), .val (.int x1)] [] := by first | (simp [entryFrame, mkF, argsToLocals, Value.category]; done) | rfl
def own_Q9 (Z : State) (b : Addr) (xv : Int32) (h0 : Heap) (n0 : Nat) : Option Value → Heap → List Loc → Prop := fun v h L => v = none ∧ Fr n0 L ∧ Keep h0 h [b] ∧ Fld Z h b "java/lang/Integer" "value" "I" (.int xv)
set_option maxRecDepth 65536 in
set_option maxHeartbeats 40000000 in
theorem own_rm9 (l : Launch) (Z : State) (a0 : Array Value) (hw : ∀ d ∈ tables_1, d.before a0 Z = true) (ws : List Jvm.Cond) (b : Addr) (xv : Int32) (h0 : Heap) (n0 : Nat) (Z0 : n0 ≤ h0.size) (E_b : Exa Z h0 b "java/lang/Integer") (F_b : Fld Z h0 b "java/lang/Integer" "value" "I" (.int (0 : Int32))) (g_b : n0 ≤ b) :
    MetFree l (⟨"java/lang/Integer", "<init>", "(I)V"⟩ : MethodName) (head1 (Jvm.Cond.code (⟨"java/lang/Integer", "<init>", "(I)V"⟩ : MethodName) jdk_33_method_23_code 2 none :: ws) own_r9) (fun a_ U_ => a_ = #[(.ref b), (.int xv)] ∧ Z.Warmed39 U_.vm ∧ U_.heap = h0) (fun _ _ _ _ _ => True) (fun _ U_ o_ U'_ => ∃ v_ L_, o_ = .returned v_ ∧ own_Q9 Z b  xv  h0 n0 v_ U'_.heap L_ ∧ FrameEnd U_ o_ U'_ L_ own_r9.cells own_r9.slots) := by
  refine MetFree.of_bodySF (plainFor_of_name own_pn1) hisR ?_
  intro p e s m args below meth c s₁ Bd hml0 hP hK
  obtain ⟨rfl, hZ, hh⟩ := hP
  have hx := Bd.exec
  have hby := Bd.bytes
  have hml : c.maxLocals = 2 := hml0
  have hown : s.vm.findClass "java/lang/Integer" = some m.cls := findClass_of_methodNamed Bd.named
  have hnm := (name_of_methodNamed Bd.named Bd.method).1
  have X0 : Stand p l e own_r9 s m #[(.ref b), (.int xv)] below meth c s₁ [] 0 0 := Stand.of_body Bd
  have e0 : s₁.heap = h0 := by rw [← hh, Bd.state]; rfl
  have N0 := Fr.nil n0
  refine own_in (own_ef9 m b xv) ?_
  show own_Go p e below (own_K s (own_Q9 Z b  xv  h0 n0) own_r9.cells own_r9.slots) s₁ (mkF m 0 #[.val (.ref b), .val (.int xv)] [])
  refine own_st (T' := s₁) (g' := (mkF m 1 #[.val (.ref b), .val (.int xv)] [(.ref b)])) (fun t k => ?_) ?_
  · show Steps p.tables e below (s₁.setTop (mkF m 0 #[.val (.ref b), .val (.int xv)] [])) t
    refine XS.aloadN X0.here hx rfl (hb hby own_d9_0) rfl rfl ?_
    exact k
  obtain ⟨_, _, ⟨T1, L1, c1, n1⟩, -, X1, ⟨Lc1, hQ1, l1, y1, z1⟩, st1⟩ := X0.specialBack hx (y := (⟨"java/lang/Number", "<init>", "()V"⟩ : MethodName)) rfl hown (mvT hZ (hw _ (List.mem_of_getElem? (i := 56) rfl))) (mvT hZ (hw _ (List.mem_of_getElem? (i := 57) rfl))) (mvT hZ (hw _ (List.mem_of_getElem? (i := 61) rfl))) (by decide) (backOf (W := 0) (own_rm10 l Z a0 hw [] b h0 n0 Z0) hZ (hw _ (List.mem_of_getElem? (i := 61) rfl)) (hw _ (List.mem_of_getElem? (i := 60) rfl)) (by decide) (by decide)) (g := (mkF m 1 #[.val (.ref b), .val (.int xv)] [(.ref b)])) rfl (by rw [hml]; rfl) (Steps.refl _) (a := b) (argsL := []) (rest := []) (lenOf own_pd0 rfl) rfl (by show 2 * 0 + _ ≤ _; exact Nat.le_of_eq rfl) (hb hby own_d9_1) (fun _ _ => ⟨rfl, e0, (by decide : 0 + 0 ≤ _), (by decide : 0 + 0 ≤ _)⟩)
  dsimp only [Pt.U, Pt.locs, Pt.cells, Pt.slots] at X1 l1 y1 z1 st1 hQ1
  subst l1 y1 z1
  obtain ⟨rfl, N1q, e1⟩ := hQ1
  have N1 := Fr.app N0 N1q
  refine own_tr (T' := T1) (g' := (mkF m 4 #[.val (.ref b), .val (.int xv)] [])) st1 ?_
  refine own_st (T' := T1) (g' := (mkF m 6 #[.val (.ref b), .val (.int xv)] [(.int xv), (.ref b)])) (fun t k => ?_) ?_
  · show Steps p.tables e below (T1.setTop (mkF m 4 #[.val (.ref b), .val (.int xv)] [])) t
    refine XS.aloadN X1.here hx rfl (hb hby own_d9_4) rfl rfl ?_
    refine XS.iloadN X1.here hx rfl (hb hby own_d9_5) rfl ?_
    exact k
  obtain ⟨T2, h2, X2, e2, W2, st2⟩ := putF X1 hx hZ hown (host := "") (Or.inl (hw _ (List.mem_of_getElem? (i := 63) rfl))) Via.refl e1 F_b E_b (Or.inr ⟨(hw _ (List.mem_of_getElem? (i := 64) rfl)), rfl, hnm⟩) (hw _ (List.mem_of_getElem? (i := 51) rfl)) (ty := .int) (by decide) rfl rfl (g := (mkF m 6 #[.val (.ref b), .val (.int xv)] [(.int xv), (.ref b)])) rfl rfl (hb hby own_d9_6)
  have N2 := Fr.snoc X2 N1 g_b
  have K2 : Keep h0 h2 [b] := (Keep.refl h0 [b]).wr W2 (Or.inl (List.mem_of_getElem? (i := 0) rfl))
  have Z2 : n0 ≤ h2.size := Nat.le_trans Z0 (Keep.of_wr W2).1
  have fw2 := (F_b.same W2)
  refine own_st (T' := T2) (g' := (mkF m 9 #[.val (.ref b), .val (.int xv)] [])) st2 ?_
  exact own_retV X2 hx Bd (hb hby own_d9_9) e2 (⟨rfl, N2, K2, fw2⟩) (by decide) (by decide)
def own_r11 : Room := { frames := 0, cells := 0, slots := 0, locals := 0 }
theorem own_ef11 (m : MethodId) (x0 : Addr) : entryFrame m #[(.ref x0)] 1 = mkF m 0 #[.val (.ref x0)] [] := by first | (simp [entryFrame, mkF, argsToLocals, Value.category]; done) | rfl
def own_Q11 (Z : State) (b : Addr) (xv : Int32) (h0 : Heap) (n0 : Nat) : Option Value → Heap → List Loc → Prop := fun v h L => v = some (.int xv) ∧ Fr n0 L ∧ h = h0
set_option maxRecDepth 65536 in
set_option maxHeartbeats 40000000 in
theorem own_rm11 (l : Launch) (Z : State) (a0 : Array Value) (hw : ∀ d ∈ tables_1, d.before a0 Z = true) (ws : List Jvm.Cond) (b : Addr) (xv : Int32) (h0 : Heap) (n0 : Nat) (Z0 : n0 ≤ h0.size) (F_b : Fld Z h0 b "java/lang/Integer" "value" "I" (.int xv)) :
    MetFree l (⟨"java/lang/Integer", "intValue", "()I"⟩ : MethodName) (head1 (Jvm.Cond.code (⟨"java/lang/Integer", "intValue", "()I"⟩ : MethodName) jdk_33_method_27_code 1 (some .int) :: ws) own_r11) (fun a_ U_ => a_ = #[(.ref b)] ∧ Z.Warmed39 U_.vm ∧ U_.heap = h0) (fun _ _ _ _ _ => True) (fun _ U_ o_ U'_ => ∃ v_ L_, o_ = .returned v_ ∧ own_Q11 Z b  xv  h0 n0 v_ U'_.heap L_ ∧ FrameEnd U_ o_ U'_ L_ own_r11.cells own_r11.slots) := by
  refine MetFree.of_bodySF (plainFor_of_name own_pn1) hisR ?_
  intro p e s m args below meth c s₁ Bd hml0 hP hK
  obtain ⟨rfl, hZ, hh⟩ := hP
  have hx := Bd.exec
  have hby := Bd.bytes
  have hml : c.maxLocals = 1 := hml0
  have hown : s.vm.findClass "java/lang/Integer" = some m.cls := findClass_of_methodNamed Bd.named
  have hnm := (name_of_methodNamed Bd.named Bd.method).1
  have X0 : Stand p l e own_r11 s m #[(.ref b)] below meth c s₁ [] 0 0 := Stand.of_body Bd
  have e0 : s₁.heap = h0 := by rw [← hh, Bd.state]; rfl
  have N0 := Fr.nil n0
  refine own_in (own_ef11 m b) ?_
  show own_Go p e below (own_K s (own_Q11 Z b  xv  h0 n0) own_r11.cells own_r11.slots) s₁ (mkF m 0 #[.val (.ref b)] [])
  refine own_st (T' := s₁) (g' := (mkF m 1 #[.val (.ref b)] [(.ref b)])) (fun t k => ?_) ?_
  · show Steps p.tables e below (s₁.setTop (mkF m 0 #[.val (.ref b)] [])) t
    refine XS.aloadN X0.here hx rfl (hb hby own_d11_0) rfl rfl ?_
    exact k
  obtain ⟨T1, X1, e1, st1⟩ := getF X0 hx hZ hown (host := "") (Or.inl (hw _ (List.mem_of_getElem? (i := 63) rfl))) Via.refl e0 F_b (g := (mkF m 1 #[.val (.ref b)] [(.ref b)])) rfl rfl (hb hby own_d11_1)
  refine own_st (T' := T1) (g' := (mkF m 4 #[.val (.ref b)] [(.int xv)])) st1 ?_
  exact own_retI X1 hx Bd (hb hby own_d11_4) e1 (⟨rfl, N0, rfl⟩) (by decide) (by decide)
def own_r8 : Room := { frames := 3, cells := 1, slots := 1, locals := 38 }
theorem own_ef8 (m : MethodId) (x0 : Int32) : entryFrame m #[(.int x0)] 1 = mkF m 0 #[.val (.int x0)] [] := by first | (simp [entryFrame, mkF, argsToLocals, Value.category]; done) | rfl
def own_Q8 (Z : State) (xv : Int32) (ca : Addr) (cc : Cell) (h0 : Heap) (n0 : Nat) : Option Value → Heap → List Loc → Prop := fun v h L => ∃ r, v = some (.ref r) ∧ Fr n0 L ∧ Keep h0 h [] ∧ Exa Z h r "java/lang/Integer" ∧ Fld Z h r "java/lang/Integer" "value" "I" (.int xv) ∧ (r < n0 ∨ h0.size ≤ r)
set_option maxRecDepth 65536 in
set_option maxHeartbeats 40000000 in
theorem own_rm8 (l : Launch) (Z : State) (a0 : Array Value) (hw : ∀ d ∈ tables_1, d.before a0 Z = true) (ws : List Jvm.Cond) (xv : Int32) (ca : Addr) (cc : Cell) (h0 : Heap) (n0 : Nat) (Z0 : n0 ≤ h0.size) (O0 : Old Z n0 h0) (S_hi : Sta Z Z.heap "java/lang/Integer$IntegerCache" "high" "I" (.int (127 : Int32))) (S_ca : Sta Z Z.heap "java/lang/Integer$IntegerCache" "cache" "[Ljava/lang/Integer;" (.ref ca)) (B_c : Bxs Z ca cc "java/lang/Integer" "I" (256 : Int32) (fun j => .int (j - 128))) :
    MetFree l (⟨"java/lang/Integer", "valueOf", "(I)Ljava/lang/Integer;"⟩ : MethodName) (head1 (Jvm.Cond.code (⟨"java/lang/Integer", "valueOf", "(I)Ljava/lang/Integer;"⟩ : MethodName) jdk_33_method_22_code 1 (some (.object "java/lang/Integer")) :: ws) own_r8) (fun a_ U_ => a_ = #[(.int xv)] ∧ Z.Warmed39 U_.vm ∧ U_.heap = h0) (fun _ _ _ _ _ => True) (fun _ U_ o_ U'_ => ∃ v_ L_, o_ = .returned v_ ∧ own_Q8 Z xv  ca  cc  h0 n0 v_ U'_.heap L_ ∧ FrameEnd U_ o_ U'_ L_ own_r8.cells own_r8.slots) := by
  refine MetFree.of_bodySF (plainFor_of_name own_pn1) hisR ?_
  intro p e s m args below meth c s₁ Bd hml0 hP hK
  obtain ⟨rfl, hZ, hh⟩ := hP
  have hx := Bd.exec
  have hby := Bd.bytes
  have hml : c.maxLocals = 1 := hml0
  have hown : s.vm.findClass "java/lang/Integer" = some m.cls := findClass_of_methodNamed Bd.named
  have hnm := (name_of_methodNamed Bd.named Bd.method).1
  have X0 : Stand p l e own_r8 s m #[(.int xv)] below meth c s₁ [] 0 0 := Stand.of_body Bd
  have e0 : s₁.heap = h0 := by rw [← hh, Bd.state]; rfl
  have N0 := Fr.nil n0
  refine own_in (own_ef8 m xv) ?_
  show own_Go p e below (own_K s (own_Q8 Z xv  ca  cc  h0 n0) own_r8.cells own_r8.slots) s₁ (mkF m 0 #[.val (.int xv)] [])
  refine own_st (T' := s₁) (g' := (mkF m 3 #[.val (.int xv)] [(.int (-128 : Int32)), (.int xv)])) (fun t k => ?_) ?_
  · show Steps p.tables e below (s₁.setTop (mkF m 0 #[.val (.int xv)] [])) t
    refine XS.iloadN X0.here hx rfl (hb hby own_d8_0) rfl ?_
    refine XS.bipush X0.here hx rfl (hb hby own_d8_1) ?_
    exact k
  by_cases hc1 : xv < (-128 : Int32)
  · refine own_st (T' := s₁) (g' := (mkF m 23 #[.val (.int xv)] [])) (fun t k => ?_) ?_
    · show Steps p.tables e below (s₁.setTop (mkF m 3 #[.val (.int xv)] [(.int (-128 : Int32)), (.int xv)])) t
      refine XS.icmpYes X0.here hx rfl (pc0 := 3) (pc' := 23) rfl (hb hby own_d8_3) rfl (tlt hc1).1 (by decide) (by decide) ?_
      exact k
    obtain ⟨T2, h2, X2, e2, E2, A2, D2, U2, st2⟩ := newO X0 hx hZ hown (hw _ (List.mem_of_getElem? (i := 50) rfl)) (hw _ (List.mem_of_getElem? (i := 51) rfl)) (hw _ (List.mem_of_getElem? (i := 46) rfl)) e0 (g := (mkF m 23 #[.val (.int xv)] [])) rfl (hb hby own_d8_23) (by decide) (by decide)
    obtain ⟨b2, g2⟩ : ∃ z, z = h0.size := ⟨_, rfl⟩
    rw [← g2] at A2 D2 U2 st2
    have sz2 : h0.size ≤ b2 := Nat.le_of_eq g2.symm
    have g_b2 : n0 ≤ b2 := Nat.le_trans Z0 sz2
    have hz_b2 : h0.size ≤ b2 := Nat.le_trans (Keep.refl h0 []).1 sz2
    have K2 : Keep h0 h2 [] := (Keep.refl h0 []).ext E2
    have Z2 : n0 ≤ h2.size := Nat.le_trans Z0 E2.1
    have O2 := O0.ext E2
    refine own_st (T' := T2) (g' := (mkF m 26 #[.val (.int xv)] [(.ref b2)])) st2 ?_
    refine own_st (T' := T2) (g' := (mkF m 28 #[.val (.int xv)] [(.int xv), (.ref b2), (.ref b2)])) (fun t k => ?_) ?_
    · show Steps p.tables e below (T2.setTop (mkF m 26 #[.val (.int xv)] [(.ref b2)])) t
      refine XS.dup X2.here hx rfl (hb hby own_d8_26) rfl rfl ?_
      refine XS.iloadN X2.here hx rfl (hb hby own_d8_27) rfl ?_
      exact k
    obtain ⟨_, _, ⟨T3, L3, c3, n3⟩, -, X3, ⟨Lc3, hQ3, l3, y3, z3⟩, st3⟩ := X2.specialBack hx (y := (⟨"java/lang/Integer", "<init>", "(I)V"⟩ : MethodName)) rfl hown (mvT hZ (hw _ (List.mem_of_getElem? (i := 52) rfl))) (mvT hZ (hw _ (List.mem_of_getElem? (i := 53) rfl))) (mvT hZ (hw _ (List.mem_of_getElem? (i := 55) rfl))) (by decide) (backOf (W := 1) (own_rm9 l Z a0 hw [] b2 xv h2 n0 Z2 A2 (D2 (Or.inr (hw _ (List.mem_of_getElem? (i := 64) rfl))) (ty := .int) (by decide) : Fld Z h2 b2 "java/lang/Integer" "value" "I" (.int (0 : Int32))) g_b2) hZ (hw _ (List.mem_of_getElem? (i := 55) rfl)) (hw _ (List.mem_of_getElem? (i := 46) rfl)) (by decide) (by decide)) (g := (mkF m 28 #[.val (.int xv)] [(.int xv), (.ref b2), (.ref b2)])) rfl (by rw [hml]; rfl) (Steps.refl _) (a := b2) (argsL := [(.int xv)]) (rest := [(.ref b2)]) (lenOf own_pd1 rfl) rfl (by show 2 * 0 + _ ≤ _; exact Nat.le_of_eq rfl) (hb hby own_d8_28) (fun _ _ => ⟨rfl, e2, (by decide : 1 + 0 ≤ _), (by decide : 1 + 0 ≤ _)⟩)
    dsimp only [Pt.U, Pt.locs, Pt.cells, Pt.slots] at X3 l3 y3 z3 st3 hQ3
    subst l3 y3 z3
    obtain ⟨h3, e3⟩ : ∃ z, T3.heap = z := ⟨_, rfl⟩
    rw [e3] at hQ3
    obtain ⟨rfl, N3q, Kc3, Fc3⟩ := hQ3
    have N3 := Fr.app N0 N3q
    have K3 : Keep h0 h3 [] := K2.trans Kc3 (allS (Or.inr hz_b2) all0)
    have Z3 : n0 ≤ h3.size := Nat.le_trans Z2 Kc3.1
    have O3 := O2.keep Kc3 (allS g_b2 all0)
    refine own_tr (T' := T3) (g' := (mkF m 31 #[.val (.int xv)] [(.ref b2)])) st3 ?_
    have f4 := A2.keep Kc3
    exact own_retA X3 hx Bd rfl rfl (hb hby own_d8_31) e3 (⟨b2, rfl, N3, K3, f4, Fc3, Or.inr hz_b2⟩) (by decide) (by decide)
  · refine own_st (T' := s₁) (g' := (mkF m 7 #[.val (.int xv)] [(.int xv)])) (fun t k => ?_) ?_
    · show Steps p.tables e below (s₁.setTop (mkF m 3 #[.val (.int xv)] [(.int (-128 : Int32)), (.int xv)])) t
      refine XS.icmpNo X0.here hx rfl (hb hby own_d8_3) rfl (flt hc1).1 ?_
      refine XS.iloadN X0.here hx rfl (hb hby own_d8_6) rfl ?_
      exact k
    have f5 := S_hi.ext O0.2
    obtain ⟨T6, X6, e6, st6⟩ := getS2 X0 hx hZ hown (host := "") (Or.inl (hw _ (List.mem_of_getElem? (i := 48) rfl))) Via.refl e0 f5 (g := (mkF m 7 #[.val (.int xv)] [(.int xv)])) rfl (hb hby own_d8_7)
    refine own_st (T' := T6) (g' := (mkF m 10 #[.val (.int xv)] [(.int (127 : Int32)), (.int xv)])) st6 ?_
    by_cases hc7 : (127 : Int32) < xv
    · refine own_st (T' := T6) (g' := (mkF m 23 #[.val (.int xv)] [])) (fun t k => ?_) ?_
      · show Steps p.tables e below (T6.setTop (mkF m 10 #[.val (.int xv)] [(.int (127 : Int32)), (.int xv)])) t
        refine XS.icmpYes X6.here hx rfl (pc0 := 10) (pc' := 23) rfl (hb hby own_d8_10) rfl (tlt hc7).2.2.1 (by decide) (by decide) ?_
        exact k
      obtain ⟨T8, h8, X8, e8, E8, A8, D8, U8, st8⟩ := newO X6 hx hZ hown (hw _ (List.mem_of_getElem? (i := 50) rfl)) (hw _ (List.mem_of_getElem? (i := 51) rfl)) (hw _ (List.mem_of_getElem? (i := 46) rfl)) e6 (g := (mkF m 23 #[.val (.int xv)] [])) rfl (hb hby own_d8_23) (by decide) (by decide)
      obtain ⟨b8, g8⟩ : ∃ z, z = h0.size := ⟨_, rfl⟩
      rw [← g8] at A8 D8 U8 st8
      have sz8 : h0.size ≤ b8 := Nat.le_of_eq g8.symm
      have g_b8 : n0 ≤ b8 := Nat.le_trans Z0 sz8
      have hz_b8 : h0.size ≤ b8 := Nat.le_trans (Keep.refl h0 []).1 sz8
      have K8 : Keep h0 h8 [] := (Keep.refl h0 []).ext E8
      have Z8 : n0 ≤ h8.size := Nat.le_trans Z0 E8.1
      have O8 := O0.ext E8
      refine own_st (T' := T8) (g' := (mkF m 26 #[.val (.int xv)] [(.ref b8)])) st8 ?_
      refine own_st (T' := T8) (g' := (mkF m 28 #[.val (.int xv)] [(.int xv), (.ref b8), (.ref b8)])) (fun t k => ?_) ?_
      · show Steps p.tables e below (T8.setTop (mkF m 26 #[.val (.int xv)] [(.ref b8)])) t
        refine XS.dup X8.here hx rfl (hb hby own_d8_26) rfl rfl ?_
        refine XS.iloadN X8.here hx rfl (hb hby own_d8_27) rfl ?_
        exact k
      obtain ⟨_, _, ⟨T9, L9, c9, n9⟩, -, X9, ⟨Lc9, hQ9, l9, y9, z9⟩, st9⟩ := X8.specialBack hx (y := (⟨"java/lang/Integer", "<init>", "(I)V"⟩ : MethodName)) rfl hown (mvT hZ (hw _ (List.mem_of_getElem? (i := 52) rfl))) (mvT hZ (hw _ (List.mem_of_getElem? (i := 53) rfl))) (mvT hZ (hw _ (List.mem_of_getElem? (i := 55) rfl))) (by decide) (backOf (W := 1) (own_rm9 l Z a0 hw [] b8 xv h8 n0 Z8 A8 (D8 (Or.inr (hw _ (List.mem_of_getElem? (i := 64) rfl))) (ty := .int) (by decide) : Fld Z h8 b8 "java/lang/Integer" "value" "I" (.int (0 : Int32))) g_b8) hZ (hw _ (List.mem_of_getElem? (i := 55) rfl)) (hw _ (List.mem_of_getElem? (i := 46) rfl)) (by decide) (by decide)) (g := (mkF m 28 #[.val (.int xv)] [(.int xv), (.ref b8), (.ref b8)])) rfl (by rw [hml]; rfl) (Steps.refl _) (a := b8) (argsL := [(.int xv)]) (rest := [(.ref b8)]) (lenOf own_pd1 rfl) rfl (by show 2 * 0 + _ ≤ _; exact Nat.le_of_eq rfl) (hb hby own_d8_28) (fun _ _ => ⟨rfl, e8, (by decide : 1 + 0 ≤ _), (by decide : 1 + 0 ≤ _)⟩)
      dsimp only [Pt.U, Pt.locs, Pt.cells, Pt.slots] at X9 l9 y9 z9 st9 hQ9
      subst l9 y9 z9
      obtain ⟨h9, e9⟩ : ∃ z, T9.heap = z := ⟨_, rfl⟩
      rw [e9] at hQ9
      obtain ⟨rfl, N9q, Kc9, Fc9⟩ := hQ9
      have N9 := Fr.app N0 N9q
      have K9 : Keep h0 h9 [] := K8.trans Kc9 (allS (Or.inr hz_b8) all0)
      have Z9 : n0 ≤ h9.size := Nat.le_trans Z8 Kc9.1
      have O9 := O8.keep Kc9 (allS g_b8 all0)
      refine own_tr (T' := T9) (g' := (mkF m 31 #[.val (.int xv)] [(.ref b8)])) st9 ?_
      have f10 := A8.keep Kc9
      exact own_retA X9 hx Bd rfl rfl (hb hby own_d8_31) e9 (⟨b8, rfl, N9, K9, f10, Fc9, Or.inr hz_b8⟩) (by decide) (by decide)
    · refine own_st (T' := T6) (g' := (mkF m 13 #[.val (.int xv)] [])) (fun t k => ?_) ?_
      · show Steps p.tables e below (T6.setTop (mkF m 10 #[.val (.int xv)] [(.int (127 : Int32)), (.int xv)])) t
        refine XS.icmpNo X6.here hx rfl (hb hby own_d8_10) rfl (flt hc7).2.2.1 ?_
        exact k
      have f11 := S_ca.ext O0.2
      obtain ⟨T12, X12, e12, st12⟩ := getS2 X6 hx hZ hown (host := "") (Or.inl (hw _ (List.mem_of_getElem? (i := 74) rfl))) Via.refl e6 f11 (g := (mkF m 13 #[.val (.int xv)] [])) rfl (hb hby own_d8_13)
      refine own_st (T' := T12) (g' := (mkF m 16 #[.val (.int xv)] [(.ref ca)])) st12 ?_
      refine own_st (T' := T12) (g' := (mkF m 21 #[.val (.int xv)] [(.int (xv + (128 : Int32))), (.ref ca)])) (fun t k => ?_) ?_
      · show Steps p.tables e below (T12.setTop (mkF m 16 #[.val (.int xv)] [(.ref ca)])) t
        refine XS.iloadN X12.here hx rfl (hb hby own_d8_16) rfl ?_
        refine XS.sipush X12.here hx rfl (hb hby own_d8_17) ?_
        refine XS.iadd X12.here hx rfl (hb hby own_d8_20) rfl ?_
        exact k
      have hin := own_cidx hc1 hc7
      obtain ⟨rb, at_b, E_b, F_b⟩ := B_c.2.2.2 (xv + (128 : Int32)) (by rw [B_c.2.1]; exact hin)
      have A_c := (B_c.ext O0.2).1
      simp only [own_cval] at F_b
      have hlt : rb < n0 := O0.1 ▸ E_b.lt
      refine own_st (T' := T12) (g' := (mkF m 22 #[.val (.int xv)] [(.ref rb)])) (fun t k => ?_) ?_
      · show Steps p.tables e below (T12.setTop (mkF m 21 #[.val (.int xv)] [(.int (xv + (128 : Int32))), (.ref ca)])) t
        refine X12.aaload hx (j := (xv + (128 : Int32))) (v := (.ref rb)) (by rw [e12]; exact A_c.1) (State.isArrayOf_alike hZ.alike A_c.2.1) rfl A_c.2.2 (by rw [B_c.2.1]; exact hin) at_b (g := (mkF m 21 #[.val (.int xv)] [(.int (xv + (128 : Int32))), (.ref ca)])) rfl rfl (hb hby own_d8_21) _ ?_
        show Steps p.tables e below (T12.setTop (mkF m 22 #[.val (.int xv)] [(.ref rb)])) t
        exact k
      exact own_retA X12 hx Bd rfl rfl (hb hby own_d8_22) e12 (⟨rb, rfl, N0, (Keep.refl h0 []), E_b.ext O0.2, F_b.ext O0.2, Or.inl hlt⟩) (by decide) (by decide)
def own_r5 : Room := { frames := 0, cells := 0, slots := 0, locals := 0 }
theorem own_ef5 (m : MethodId) (x0 : Int32) : entryFrame m #[(.int x0)] 1 = mkF m 0 #[.val (.int x0)] [] := by first | (simp [entryFrame, mkF, argsToLocals, Value.category]; done) | rfl
def own_Q5 (Z : State) (ch : Int32) (h0 : Heap) (n0 : Nat) : Option Value → Heap → List Loc → Prop := fun v h L => v = some (.int (1 : Int32)) ∧ Fr n0 L ∧ h = h0
set_option maxRecDepth 65536 in
set_option maxHeartbeats 40000000 in
theorem own_rm5 (l : Launch) (Z : State) (a0 : Array Value) (hw : ∀ d ∈ tables_1, d.before a0 Z = true) (ws : List Jvm.Cond) (ch : Int32) (h0 : Heap) (n0 : Nat) (Z0 : n0 ≤ h0.size) (hch : ¬ (255 : Int32) < ch) :
    MetFree l (⟨"java/lang/StringLatin1", "canEncode", "(C)Z"⟩ : MethodName) (head1 (Jvm.Cond.code (⟨"java/lang/StringLatin1", "canEncode", "(C)Z"⟩ : MethodName) jdk_43_method_3_code 1 (some .boolean) :: ws) own_r5) (fun a_ U_ => a_ = #[(.int ch)] ∧ Z.Warmed39 U_.vm ∧ U_.heap = h0) (fun _ _ _ _ _ => True) (fun _ U_ o_ U'_ => ∃ v_ L_, o_ = .returned v_ ∧ own_Q5 Z ch  h0 n0 v_ U'_.heap L_ ∧ FrameEnd U_ o_ U'_ L_ own_r5.cells own_r5.slots) := by
  refine MetFree.of_bodySF (plainFor_of_name own_pn2) hisR ?_
  intro p e s m args below meth c s₁ Bd hml0 hP hK
  obtain ⟨rfl, hZ, hh⟩ := hP
  have hx := Bd.exec
  have hby := Bd.bytes
  have hml : c.maxLocals = 1 := hml0
  have hown : s.vm.findClass "java/lang/StringLatin1" = some m.cls := findClass_of_methodNamed Bd.named
  have hnm := (name_of_methodNamed Bd.named Bd.method).1
  have X0 : Stand p l e own_r5 s m #[(.int ch)] below meth c s₁ [] 0 0 := Stand.of_body Bd
  have e0 : s₁.heap = h0 := by rw [← hh, Bd.state]; rfl
  have N0 := Fr.nil n0
  refine own_in (own_ef5 m ch) ?_
  show own_Go p e below (own_K s (own_Q5 Z ch  h0 n0) own_r5.cells own_r5.slots) s₁ (mkF m 0 #[.val (.int ch)] [])
  refine own_st (T' := s₁) (g' := (mkF m 12 #[.val (.int ch)] [(.int (1 : Int32))])) (fun t k => ?_) ?_
  · show Steps p.tables e below (s₁.setTop (mkF m 0 #[.val (.int ch)] [])) t
    refine XS.iloadN X0.here hx rfl (hb hby own_d5_0) rfl ?_
    refine XS.sipush X0.here hx rfl (hb hby own_d5_1) ?_
    refine XS.icmpNo X0.here hx rfl (hb hby own_d5_4) rfl (flt hch).2.2.1 ?_
    refine XS.iconst X0.here hx rfl (hb hby own_d5_7) ?_
    refine XS.goto X0.here hx rfl (pc0 := 8) (pc' := 12) rfl (hb hby own_d5_8) (by decide) (by decide) ?_
    exact k
  exact own_retN X0 hx Bd (t := .boolean) (by simp) rfl (hb hby own_d5_12) e0 (⟨rfl, N0, rfl⟩) (by decide) (by decide)
def own_r6 : Room := { frames := 0, cells := 1, slots := 1, locals := 0 }
theorem own_ef6 (m : MethodId) (x0 : Int32) : entryFrame m #[(.int x0)] 1 = mkF m 0 #[.val (.int x0)] [] := by first | (simp [entryFrame, mkF, argsToLocals, Value.category]; done) | rfl
def own_Q6 (Z : State) (ch : Int32) (h0 : Heap) (n0 : Nat) : Option Value → Heap → List Loc → Prop := fun v h L => ∃ r k, v = some (.ref r) ∧ Fr n0 L ∧ Keep h0 h [] ∧ n0 ≤ r ∧ h0.size ≤ r ∧ Arv Z h r k .byte (1 : Int32) [(.int (ch.toInt8.toInt32))] (.int (0 : Int32))
set_option maxRecDepth 65536 in
set_option maxHeartbeats 40000000 in
theorem own_rm6 (l : Launch) (Z : State) (a0 : Array Value) (hw : ∀ d ∈ tables_1, d.before a0 Z = true) (ws : List Jvm.Cond) (ch : Int32) (h0 : Heap) (n0 : Nat) (Z0 : n0 ≤ h0.size)  :
    MetFree l (⟨"java/lang/StringLatin1", "toBytes", "(C)[B"⟩ : MethodName) (head1 (Jvm.Cond.code (⟨"java/lang/StringLatin1", "toBytes", "(C)[B"⟩ : MethodName) jdk_43_method_46_code 1 (some (.array .byte)) :: ws) own_r6) (fun a_ U_ => a_ = #[(.int ch)] ∧ Z.Warmed39 U_.vm ∧ U_.heap = h0) (fun _ _ _ _ _ => True) (fun _ U_ o_ U'_ => ∃ v_ L_, o_ = .returned v_ ∧ own_Q6 Z ch  h0 n0 v_ U'_.heap L_ ∧ FrameEnd U_ o_ U'_ L_ own_r6.cells own_r6.slots) := by
  refine MetFree.of_bodySF (plainFor_of_name own_pn2) hisR ?_
  intro p e s m args below meth c s₁ Bd hml0 hP hK
  obtain ⟨rfl, hZ, hh⟩ := hP
  have hx := Bd.exec
  have hby := Bd.bytes
  have hml : c.maxLocals = 1 := hml0
  have hown : s.vm.findClass "java/lang/StringLatin1" = some m.cls := findClass_of_methodNamed Bd.named
  have hnm := (name_of_methodNamed Bd.named Bd.method).1
  have X0 : Stand p l e own_r6 s m #[(.int ch)] below meth c s₁ [] 0 0 := Stand.of_body Bd
  have e0 : s₁.heap = h0 := by rw [← hh, Bd.state]; rfl
  have N0 := Fr.nil n0
  refine own_in (own_ef6 m ch) ?_
  show own_Go p e below (own_K s (own_Q6 Z ch  h0 n0) own_r6.cells own_r6.slots) s₁ (mkF m 0 #[.val (.int ch)] [])
  refine own_st (T' := s₁) (g' := (mkF m 1 #[.val (.int ch)] [(.int (1 : Int32))])) (fun t k => ?_) ?_
  · show Steps p.tables e below (s₁.setTop (mkF m 0 #[.val (.int ch)] [])) t
    refine XS.iconst X0.here hx rfl (hb hby own_d6_0) ?_
    exact k
  obtain ⟨T1, h1, k1, X1, e1, E1, A1, st1⟩ := newP X0 hx hZ (hw _ (List.mem_of_getElem? (i := 34) rfl)) e0 (g := (mkF m 1 #[.val (.int ch)] [(.int (1 : Int32))])) rfl (hb hby own_d6_1) rfl (by decide) (cap := 1) (by decide) (by decide) (by decide) (by decide)
  obtain ⟨b1, g1⟩ : ∃ z, z = h0.size := ⟨_, rfl⟩
  rw [← g1] at A1 st1
  have sz1 : h0.size ≤ b1 := Nat.le_of_eq g1.symm
  have g_b1 : n0 ≤ b1 := Nat.le_trans Z0 sz1
  have hz_b1 : h0.size ≤ b1 := Nat.le_trans (Keep.refl h0 []).1 sz1
  have K1 : Keep h0 h1 [] := (Keep.refl h0 []).ext E1
  have Z1 : n0 ≤ h1.size := Nat.le_trans Z0 E1.1
  have V1 : Arv Z h1 b1 k1 .byte (1 : Int32) [(.int (0 : Int32))] (.int (0 : Int32)) := (Arv.new A1 (by decide)).pad (pad_rep [] (.int (0 : Int32)) 1)
  refine own_st (T' := T1) (g' := (mkF m 3 #[.val (.int ch)] [(.ref b1)])) st1 ?_
  refine own_st (T' := T1) (g' := (mkF m 7 #[.val (.int ch)] [(.int (ch.toInt8.toInt32)), (.int (0 : Int32)), (.ref b1), (.ref b1)])) (fun t k => ?_) ?_
  · show Steps p.tables e below (T1.setTop (mkF m 3 #[.val (.int ch)] [(.ref b1)])) t
    refine XS.dup X1.here hx rfl (hb hby own_d6_3) rfl rfl ?_
    refine XS.iconst X1.here hx rfl (hb hby own_d6_4) ?_
    refine XS.iloadN X1.here hx rfl (hb hby own_d6_5) rfl ?_
    refine XS.i2b X1.here hx rfl (hb hby own_d6_6) rfl ?_
    exact k
  obtain ⟨cl2, Ar2, q2, S2, M2, H2, G2⟩ := id V1
  obtain ⟨T3, h3, X3, e3, W3, st3⟩ := stB X1 hx hZ e1 Ar2 (j := (0 : Int32)) (inb_of S2 ⟨by decide, by decide⟩) (g := (mkF m 7 #[.val (.int ch)] [(.int (ch.toInt8.toInt32)), (.int (0 : Int32)), (.ref b1), (.ref b1)])) rfl rfl (hb hby own_d6_7)
  have N3 := Fr.snoc X3 N0 g_b1
  have K3 : Keep h0 h3 [] := K1.wr W3 (Or.inr hz_b1)
  have Z3 : n0 ≤ h3.size := Nat.le_trans Z1 (Keep.of_wr W3).1
  have fw3 := (show Arv Z h3 b1 k1 .byte (1 : Int32) [(.int (ch.toInt8.toInt32))] (.int (0 : Int32)) by have q : Arv Z h3 b1 k1 .byte (1 : Int32) [(.int ((ch.toInt8.toInt32).toInt8.toInt32))] (.int (0 : Int32)) := Arv.set Ar2 q2 S2 M2 H2 G2 (fits_nar_byte _) W3 0 rfl (Nat.le_of_ble_eq_true rfl); rw [own_bb ch] at q; exact q)
  refine own_st (T' := T3) (g' := (mkF m 8 #[.val (.int ch)] [(.ref b1)])) st3 ?_
  exact own_retA X3 hx Bd rfl rfl (hb hby own_d6_8) e3 (⟨b1, k1, rfl, N3, K3, g_b1, hz_b1, fw3⟩) (by decide) (by decide)
def own_r7 : Room := { frames := 1, cells := 0, slots := 0, locals := 12 }
theorem own_ef7 (m : MethodId) (x0 : Addr) (x1 : Addr) : entryFrame m #[(.ref x0), (.ref x1), (.int (0 : Int32))] 3 = mkF m 0 #[.val (.ref x0), .val (.ref x1), .val (.int (0 : Int32))] [] := by first | (simp [entryFrame, mkF, argsToLocals, Value.category]; done) | rfl
def own_Q7 (Z : State) (b arr : Addr) (h0 : Heap) (n0 : Nat) : Option Value → Heap → List Loc → Prop := fun v h L => v = none ∧ Fr n0 L ∧ Keep h0 h [b] ∧ Fld Z h b "java/lang/String" "value" "[B" (.ref arr) ∧ Fld Z h b "java/lang/String" "coder" "B" (.int (0 : Int32))
set_option maxRecDepth 65536 in
set_option maxHeartbeats 40000000 in
theorem own_rm7 (l : Launch) (Z : State) (a0 : Array Value) (hw : ∀ d ∈ tables_1, d.before a0 Z = true) (ws : List Jvm.Cond) (b arr : Addr) (h0 : Heap) (n0 : Nat) (Z0 : n0 ≤ h0.size) (E_b : Exa Z h0 b "java/lang/String") (F_v : Fld Z h0 b "java/lang/String" "value" "[B" .null) (F_c : Fld Z h0 b "java/lang/String" "coder" "B" (.int (0 : Int32))) (g_b : n0 ≤ b) :
    MetFree l (⟨"java/lang/String", "<init>", "([BB)V"⟩ : MethodName) (head1 (Jvm.Cond.code (⟨"java/lang/String", "<init>", "([BB)V"⟩ : MethodName) jdk_42_method_151_code 3 none :: ws) own_r7) (fun a_ U_ => a_ = #[(.ref b), (.ref arr), (.int (0 : Int32))] ∧ Z.Warmed39 U_.vm ∧ U_.heap = h0) (fun _ _ _ _ _ => True) (fun _ U_ o_ U'_ => ∃ v_ L_, o_ = .returned v_ ∧ own_Q7 Z b arr  h0 n0 v_ U'_.heap L_ ∧ FrameEnd U_ o_ U'_ L_ own_r7.cells own_r7.slots) := by
  refine MetFree.of_bodySF (plainFor_of_name own_pn3) hisR ?_
  intro p e s m args below meth c s₁ Bd hml0 hP hK
  obtain ⟨rfl, hZ, hh⟩ := hP
  have hx := Bd.exec
  have hby := Bd.bytes
  have hml : c.maxLocals = 3 := hml0
  have hown : s.vm.findClass "java/lang/String" = some m.cls := findClass_of_methodNamed Bd.named
  have hnm := (name_of_methodNamed Bd.named Bd.method).1
  have X0 : Stand p l e own_r7 s m #[(.ref b), (.ref arr), (.int (0 : Int32))] below meth c s₁ [] 0 0 := Stand.of_body Bd
  have e0 : s₁.heap = h0 := by rw [← hh, Bd.state]; rfl
  have N0 := Fr.nil n0
  refine own_in (own_ef7 m b arr) ?_
  show own_Go p e below (own_K s (own_Q7 Z b arr  h0 n0) own_r7.cells own_r7.slots) s₁ (mkF m 0 #[.val (.ref b), .val (.ref arr), .val (.int (0 : Int32))] [])
  refine own_st (T' := s₁) (g' := (mkF m 1 #[.val (.ref b), .val (.ref arr), .val (.int (0 : Int32))] [(.ref b)])) (fun t k => ?_) ?_
  · show Steps p.tables e below (s₁.setTop (mkF m 0 #[.val (.ref b), .val (.ref arr), .val (.int (0 : Int32))] [])) t
    refine XS.aloadN X0.here hx rfl (hb hby own_d7_0) rfl rfl ?_
    exact k
  obtain ⟨T1, X1, e1, st1⟩ := initO X0 hx hZ hown (hw _ (List.mem_of_getElem? (i := 39) rfl)) (hw _ (List.mem_of_getElem? (i := 7) rfl)) (hw _ (List.mem_of_getElem? (i := 8) rfl)) e0 (g := (mkF m 1 #[.val (.ref b), .val (.ref arr), .val (.int (0 : Int32))] [(.ref b)])) rfl (by rw [hml]; rfl) rfl (hb hby own_d7_1) (by decide) (W := 0) (by show 2 * 0 + _ ≤ _; exact Nat.le_of_eq rfl) (by decide)
  refine own_st (T' := T1) (g' := (mkF m 4 #[.val (.ref b), .val (.ref arr), .val (.int (0 : Int32))] [])) st1 ?_
  refine own_st (T' := T1) (g' := (mkF m 6 #[.val (.ref b), .val (.ref arr), .val (.int (0 : Int32))] [(.ref arr), (.ref b)])) (fun t k => ?_) ?_
  · show Steps p.tables e below (T1.setTop (mkF m 4 #[.val (.ref b), .val (.ref arr), .val (.int (0 : Int32))] [])) t
    refine XS.aloadN X1.here hx rfl (hb hby own_d7_4) rfl rfl ?_
    refine XS.aloadN X1.here hx rfl (hb hby own_d7_5) rfl rfl ?_
    exact k
  obtain ⟨T2, h2, X2, e2, W2, st2⟩ := putF X1 hx hZ hown (host := "") (Or.inl (hw _ (List.mem_of_getElem? (i := 40) rfl))) Via.refl e1 F_v E_b (Or.inr ⟨(hw _ (List.mem_of_getElem? (i := 41) rfl)), rfl, hnm⟩) (hw _ (List.mem_of_getElem? (i := 30) rfl)) (ty := (.array .byte)) (by decide) rfl rfl (g := (mkF m 6 #[.val (.ref b), .val (.ref arr), .val (.int (0 : Int32))] [(.ref arr), (.ref b)])) rfl rfl (hb hby own_d7_6)
  have N2 := Fr.snoc X2 N0 g_b
  have K2 : Keep h0 h2 [b] := (Keep.refl h0 [b]).wr W2 (Or.inl (List.mem_of_getElem? (i := 0) rfl))
  have Z2 : n0 ≤ h2.size := Nat.le_trans Z0 (Keep.of_wr W2).1
  have fw2 := (F_v.same W2)
  refine own_st (T' := T2) (g' := (mkF m 9 #[.val (.ref b), .val (.ref arr), .val (.int (0 : Int32))] [])) st2 ?_
  refine own_st (T' := T2) (g' := (mkF m 11 #[.val (.ref b), .val (.ref arr), .val (.int (0 : Int32))] [(.int (0 : Int32)), (.ref b)])) (fun t k => ?_) ?_
  · show Steps p.tables e below (T2.setTop (mkF m 9 #[.val (.ref b), .val (.ref arr), .val (.int (0 : Int32))] [])) t
    refine XS.aloadN X2.here hx rfl (hb hby own_d7_9) rfl rfl ?_
    refine XS.iloadN X2.here hx rfl (hb hby own_d7_10) rfl ?_
    exact k
  have f3 := F_c.other W2 (Or.inr (slot_ne (Or.inr (hw _ (List.mem_of_getElem? (i := 43) rfl))) (Or.inr (hw _ (List.mem_of_getElem? (i := 41) rfl))) (by decide) (t := .byte) (t' := (.array .byte)) (by decide) (by decide)))
  have f4 := E_b.wr W2
  obtain ⟨T5, h5, X5, e5, W5, st5⟩ := putFN X2 hx hZ hown (hw _ (List.mem_of_getElem? (i := 42) rfl)) Via.refl e2 f3 f4 (Or.inr ⟨(hw _ (List.mem_of_getElem? (i := 43) rfl)), rfl, hnm⟩) (hw _ (List.mem_of_getElem? (i := 30) rfl)) (ty := .byte) (v' := (.int (0 : Int32))) (by decide) rfl rfl (g := (mkF m 11 #[.val (.ref b), .val (.ref arr), .val (.int (0 : Int32))] [(.int (0 : Int32)), (.ref b)])) rfl rfl (hb hby own_d7_11)
  have N5 := Fr.snoc X5 N2 g_b
  have K5 : Keep h0 h5 [b] := K2.wr W5 (Or.inl (List.mem_of_getElem? (i := 0) rfl))
  have Z5 : n0 ≤ h5.size := Nat.le_trans Z2 (Keep.of_wr W5).1
  have fw5 := (f3.same W5)
  refine own_st (T' := T5) (g' := (mkF m 14 #[.val (.ref b), .val (.ref arr), .val (.int (0 : Int32))] [])) st5 ?_
  have f6 := fw2.other W5 (Or.inr (slot_ne (Or.inr (hw _ (List.mem_of_getElem? (i := 41) rfl))) (Or.inr (hw _ (List.mem_of_getElem? (i := 43) rfl))) (by decide) (t := (.array .byte)) (t' := .byte) (by decide) (by decide)))
  exact own_retV X5 hx Bd (hb hby own_d7_14) e5 (⟨rfl, N5, K5, f6, fw5⟩) (by decide) (by decide)
def own_r4 : Room := { frames := 2, cells := 2, slots := 5, locals := 27 }
theorem own_ef4 (m : MethodId) (x0 : Int32) : entryFrame m #[(.int x0)] 1 = mkF m 0 #[.val (.int x0)] [] := by first | (simp [entryFrame, mkF, argsToLocals, Value.category]; done) | rfl
def own_Q4 (Z : State) (ch cs : Int32) (h0 : Heap) (n0 : Nat) : Option Value → Heap → List Loc → Prop := fun v h L => ∃ r, v = some (.ref r) ∧ Fr n0 L ∧ Keep h0 h [] ∧ n0 ≤ r ∧ h0.size ≤ r ∧ Exa Z h r "java/lang/String"
set_option maxRecDepth 65536 in
set_option maxHeartbeats 40000000 in
theorem own_rm4 (l : Launch) (Z : State) (a0 : Array Value) (hw : ∀ d ∈ tables_1, d.before a0 Z = true) (ws : List Jvm.Cond) (ch cs : Int32) (h0 : Heap) (n0 : Nat) (Z0 : n0 ≤ h0.size) (O0 : Old Z n0 h0) (S_cs : Sta Z Z.heap "java/lang/String" "COMPACT_STRINGS" "Z" (.int cs)) (hcs : ¬ cs = (0 : Int32)) (hch : ¬ (255 : Int32) < ch) :
    MetFree l (⟨"java/lang/String", "valueOf", "(C)Ljava/lang/String;"⟩ : MethodName) (head1 (Jvm.Cond.code (⟨"java/lang/String", "valueOf", "(C)Ljava/lang/String;"⟩ : MethodName) jdk_42_method_139_code 1 (some (.object "java/lang/String")) :: ws) own_r4) (fun a_ U_ => a_ = #[(.int ch)] ∧ Z.Warmed39 U_.vm ∧ U_.heap = h0) (fun _ _ _ _ _ => True) (fun _ U_ o_ U'_ => ∃ v_ L_, o_ = .returned v_ ∧ own_Q4 Z ch cs  h0 n0 v_ U'_.heap L_ ∧ FrameEnd U_ o_ U'_ L_ own_r4.cells own_r4.slots) := by
  refine MetFree.of_bodySF (plainFor_of_name own_pn3) hisR ?_
  intro p e s m args below meth c s₁ Bd hml0 hP hK
  obtain ⟨rfl, hZ, hh⟩ := hP
  have hx := Bd.exec
  have hby := Bd.bytes
  have hml : c.maxLocals = 1 := hml0
  have hown : s.vm.findClass "java/lang/String" = some m.cls := findClass_of_methodNamed Bd.named
  have hnm := (name_of_methodNamed Bd.named Bd.method).1
  have X0 : Stand p l e own_r4 s m #[(.int ch)] below meth c s₁ [] 0 0 := Stand.of_body Bd
  have e0 : s₁.heap = h0 := by rw [← hh, Bd.state]; rfl
  have N0 := Fr.nil n0
  refine own_in (own_ef4 m ch) ?_
  show own_Go p e below (own_K s (own_Q4 Z ch cs  h0 n0) own_r4.cells own_r4.slots) s₁ (mkF m 0 #[.val (.int ch)] [])
  have f1 := S_cs.ext O0.2
  obtain ⟨T2, X2, e2, st2⟩ := getS2 X0 hx hZ hown (host := "") (Or.inl (hw _ (List.mem_of_getElem? (i := 24) rfl))) Via.refl e0 f1 (g := (mkF m 0 #[.val (.int ch)] [])) rfl (hb hby own_d4_0)
  refine own_st (T' := T2) (g' := (mkF m 3 #[.val (.int ch)] [(.int cs)])) st2 ?_
  refine own_st (T' := T2) (g' := (mkF m 7 #[.val (.int ch)] [(.int ch)])) (fun t k => ?_) ?_
  · show Steps p.tables e below (T2.setTop (mkF m 3 #[.val (.int ch)] [(.int cs)])) t
    refine XS.ifNo X2.here hx rfl (hb hby own_d4_3) rfl ((if0 _ _).trans (feq hcs).1) ?_
    refine XS.iloadN X2.here hx rfl (hb hby own_d4_6) rfl ?_
    exact k
  obtain ⟨_, _, ⟨T3, L3, c3, n3⟩, -, X3, ⟨Lc3, hQ3, l3, y3, z3⟩, st3⟩ := Jvm.LawKit.callS X2 hx (y := (⟨"java/lang/StringLatin1", "canEncode", "(C)Z"⟩ : MethodName)) hown (mvT hZ (hw _ (List.mem_of_getElem? (i := 25) rfl))) (mvT hZ (hw _ (List.mem_of_getElem? (i := 26) rfl))) (mvT hZ (hw _ (List.mem_of_getElem? (i := 27) rfl))) (mvT hZ (hw _ (List.mem_of_getElem? (i := 28) rfl))) (by decide) (backOf (W := 0) (own_rm5 l Z a0 hw [] ch h0 n0 Z0 hch) hZ (hw _ (List.mem_of_getElem? (i := 28) rfl)) (hw _ (List.mem_of_getElem? (i := 27) rfl)) (by decide) (by decide)) (g := (mkF m 7 #[.val (.int ch)] [(.int ch)])) rfl (by rw [hml]; rfl) (argsL := [(.int ch)]) (rest := []) (lenOf own_pd2 rfl) rfl (by show 2 * 0 + _ ≤ _; exact Nat.le_of_eq rfl) (hb hby own_d4_7) (fun _ _ => ⟨rfl, e2, (by decide : 0 + 0 ≤ _), (by decide : 0 + 0 ≤ _)⟩)
  dsimp only [Pt.U, Pt.locs, Pt.cells, Pt.slots] at X3 l3 y3 z3 st3 hQ3
  subst l3 y3 z3
  obtain ⟨rfl, N3q, e3⟩ := hQ3
  have N3 := Fr.app N0 N3q
  refine own_st (T' := T3) (g' := (mkF m 10 #[.val (.int ch)] [(.int (1 : Int32))])) st3 ?_
  refine own_st (T' := T3) (g' := (mkF m 13 #[.val (.int ch)] [])) (fun t k => ?_) ?_
  · show Steps p.tables e below (T3.setTop (mkF m 10 #[.val (.int ch)] [(.int (1 : Int32))])) t
    refine XS.ifNo X3.here hx rfl (hb hby own_d4_10) rfl ((if0 _ _).trans (feq (by decide : ¬ ((1 : Int32) = (0 : Int32)))).1) ?_
    exact k
  obtain ⟨T4, h4, X4, e4, E4, A4, D4, U4, st4⟩ := newO X3 hx hZ hown (hw _ (List.mem_of_getElem? (i := 29) rfl)) (hw _ (List.mem_of_getElem? (i := 30) rfl)) (hw _ (List.mem_of_getElem? (i := 22) rfl)) e3 (g := (mkF m 13 #[.val (.int ch)] [])) rfl (hb hby own_d4_13) (by decide) (by decide)
  obtain ⟨b4, g4⟩ : ∃ z, z = h0.size := ⟨_, rfl⟩
  rw [← g4] at A4 D4 U4 st4
  have sz4 : h0.size ≤ b4 := Nat.le_of_eq g4.symm
  have g_b4 : n0 ≤ b4 := Nat.le_trans Z0 sz4
  have hz_b4 : h0.size ≤ b4 := Nat.le_trans (Keep.refl h0 []).1 sz4
  have K4 : Keep h0 h4 [] := (Keep.refl h0 []).ext E4
  have Z4 : n0 ≤ h4.size := Nat.le_trans Z0 E4.1
  have O4 := O0.ext E4
  refine own_st (T' := T4) (g' := (mkF m 16 #[.val (.int ch)] [(.ref b4)])) st4 ?_
  refine own_st (T' := T4) (g' := (mkF m 18 #[.val (.int ch)] [(.int ch), (.ref b4), (.ref b4)])) (fun t k => ?_) ?_
  · show Steps p.tables e below (T4.setTop (mkF m 16 #[.val (.int ch)] [(.ref b4)])) t
    refine XS.dup X4.here hx rfl (hb hby own_d4_16) rfl rfl ?_
    refine XS.iloadN X4.here hx rfl (hb hby own_d4_17) rfl ?_
    exact k
  obtain ⟨_, _, ⟨T5, L5, c5, n5⟩, -, X5, ⟨Lc5, hQ5, l5, y5, z5⟩, st5⟩ := Jvm.LawKit.callS X4 hx (y := (⟨"java/lang/StringLatin1", "toBytes", "(C)[B"⟩ : MethodName)) hown (mvT hZ (hw _ (List.mem_of_getElem? (i := 31) rfl))) (mvT hZ (hw _ (List.mem_of_getElem? (i := 32) rfl))) (mvT hZ (hw _ (List.mem_of_getElem? (i := 27) rfl))) (mvT hZ (hw _ (List.mem_of_getElem? (i := 33) rfl))) (by decide) (backOf (W := 2) (own_rm6 l Z a0 hw [] ch h4 n0 Z4) hZ (hw _ (List.mem_of_getElem? (i := 33) rfl)) (hw _ (List.mem_of_getElem? (i := 27) rfl)) (by decide) (by decide)) (g := (mkF m 18 #[.val (.int ch)] [(.int ch), (.ref b4), (.ref b4)])) rfl (by rw [hml]; rfl) (argsL := [(.int ch)]) (rest := [(.ref b4), (.ref b4)]) (lenOf own_pd3 rfl) rfl (by show 2 * 0 + _ ≤ _; exact Nat.le_of_eq rfl) (hb hby own_d4_18) (fun _ _ => ⟨rfl, e4, (by decide : 1 + 1 ≤ _), (by decide : 4 + 1 ≤ _)⟩)
  dsimp only [Pt.U, Pt.locs, Pt.cells, Pt.slots] at X5 l5 y5 z5 st5 hQ5
  subst l5 y5 z5
  obtain ⟨h5, e5⟩ : ∃ z, T5.heap = z := ⟨_, rfl⟩
  rw [e5] at hQ5
  obtain ⟨r5, k5, rfl, N5q, Kc5, g5, hz5, Vc5⟩ := hQ5
  have N5 := Fr.app N3 N5q
  have ne_b4_r5 : b4 ≠ r5 := Nat.ne_of_lt (Nat.lt_of_lt_of_le A4.lt hz5)
  have hz05 : h0.size ≤ r5 := Nat.le_trans K4.1 hz5
  have K5 : Keep h0 h5 [] := K4.trans Kc5 all0
  have Z5 : n0 ≤ h5.size := Nat.le_trans Z4 Kc5.1
  have O5 := O4.keep Kc5 all0
  refine own_st (T' := T5) (g' := (mkF m 21 #[.val (.int ch)] [(.ref r5), (.ref b4), (.ref b4)])) st5 ?_
  refine own_st (T' := T5) (g' := (mkF m 22 #[.val (.int ch)] [(.int (0 : Int32)), (.ref r5), (.ref b4), (.ref b4)])) (fun t k => ?_) ?_
  · show Steps p.tables e below (T5.setTop (mkF m 21 #[.val (.int ch)] [(.ref r5), (.ref b4), (.ref b4)])) t
    refine XS.iconst X5.here hx rfl (hb hby own_d4_21) ?_
    exact k
  have f6 := A4.keep Kc5
  have f7 := (D4 (Or.inr (hw _ (List.mem_of_getElem? (i := 41) rfl))) (ty := (.array .byte)) (by decide) : Fld Z h4 b4 "java/lang/String" "value" "[B" .null).keep Kc5 nin0
  have f8 := (D4 (Or.inr (hw _ (List.mem_of_getElem? (i := 43) rfl))) (ty := .byte) (by decide) : Fld Z h4 b4 "java/lang/String" "coder" "B" (.int (0 : Int32))).keep Kc5 nin0
  obtain ⟨_, _, ⟨T9, L9, c9, n9⟩, -, X9, ⟨Lc9, hQ9, l9, y9, z9⟩, st9⟩ := X5.specialBack hx (y := (⟨"java/lang/String", "<init>", "([BB)V"⟩ : MethodName)) rfl hown (mvT hZ (hw _ (List.mem_of_getElem? (i := 35) rfl))) (mvT hZ (hw _ (List.mem_of_getElem? (i := 36) rfl))) (mvT hZ (hw _ (List.mem_of_getElem? (i := 38) rfl))) (by decide) (backOf (W := 1) (own_rm7 l Z a0 hw [] b4 r5 h5 n0 Z5 f6 f7 f8 g_b4) hZ (hw _ (List.mem_of_getElem? (i := 38) rfl)) (hw _ (List.mem_of_getElem? (i := 22) rfl)) (by decide) (by decide)) (g := (mkF m 22 #[.val (.int ch)] [(.int (0 : Int32)), (.ref r5), (.ref b4), (.ref b4)])) rfl (by rw [hml]; rfl) (Steps.refl _) (a := b4) (argsL := [(.ref r5), (.int (0 : Int32))]) (rest := [(.ref b4)]) (lenOf own_pd4 rfl) rfl (by show 2 * 0 + _ ≤ _; exact Nat.le_of_eq rfl) (hb hby own_d4_22) (fun _ _ => ⟨rfl, e5, (by decide : 2 + 0 ≤ _), (by decide : 5 + 0 ≤ _)⟩)
  dsimp only [Pt.U, Pt.locs, Pt.cells, Pt.slots] at X9 l9 y9 z9 st9 hQ9
  subst l9 y9 z9
  obtain ⟨h9, e9⟩ : ∃ z, T9.heap = z := ⟨_, rfl⟩
  rw [e9] at hQ9
  obtain ⟨rfl, N9q, Kc9, Fv9, Fo9⟩ := hQ9
  have N9 := Fr.app N5 N9q
  have K9 : Keep h0 h9 [] := K5.trans Kc9 (allS (Or.inr hz_b4) all0)
  have Z9 : n0 ≤ h9.size := Nat.le_trans Z5 Kc9.1
  have O9 := O5.keep Kc9 (allS g_b4 all0)
  refine own_tr (T' := T9) (g' := (mkF m 25 #[.val (.int ch)] [(.ref b4)])) st9 ?_
  have f10 := f6.keep Kc9
  exact own_retA X9 hx Bd rfl rfl (hb hby own_d4_25) e9 (⟨b4, rfl, N9, K9, g_b4, hz_b4, f10⟩) (by decide) (by decide)
def own_r1 : Room := { frames := 1, cells := 0, slots := 0, locals := 12 }
theorem own_ef1 (m : MethodId) (x0 : Addr) (x1 : Value) (hx1 : x1.isRef = true) (x2 : Value) (hx2 : x2.isRef = true) : entryFrame m #[(.ref x0), x1, x2] 3 = mkF m 0 #[.val (.ref x0), .val x1, .val x2] [] := by rcases ref_cases hx1 with rfl | ⟨y1, rfl⟩ <;> rcases ref_cases hx2 with rfl | ⟨y2, rfl⟩ <;> first | (simp [entryFrame, mkF, argsToLocals, Value.category]; done) | rfl
def own_Q1 (Z : State) (b : Addr) (vi vf : Value) (h0 : Heap) (n0 : Nat) : Option Value → Heap → List Loc → Prop := fun v h L => v = none ∧ Fr n0 L ∧ Keep h0 h [b] ∧ Fld Z h b "com/example/durable_cron/durablecron/store/RequestOutcome" "statusCode" "Ljava/lang/Integer;" vi
set_option maxRecDepth 65536 in
set_option maxHeartbeats 40000000 in
theorem own_rm1 (l : Launch) (Z : State) (a0 : Array Value) (hw : ∀ d ∈ tables_1, d.before a0 Z = true) (ws : List Jvm.Cond) (b : Addr) (vi vf : Value) (h0 : Heap) (n0 : Nat) (Z0 : n0 ≤ h0.size) (hvi : vi.isRef = true) (hvf : vf.isRef = true) (E_b : Exa Z h0 b "com/example/durable_cron/durablecron/store/RequestOutcome") (F_s : Fld Z h0 b "com/example/durable_cron/durablecron/store/RequestOutcome" "statusCode" "Ljava/lang/Integer;" .null) (F_f : Fld Z h0 b "com/example/durable_cron/durablecron/store/RequestOutcome" "failure" "Ljava/lang/String;" .null) (g_b : n0 ≤ b) :
    MetFree l (⟨"com/example/durable_cron/durablecron/store/RequestOutcome", "<init>", "(Ljava/lang/Integer;Ljava/lang/String;)V"⟩ : MethodName) (head1 (Jvm.Cond.code (⟨"com/example/durable_cron/durablecron/store/RequestOutcome", "<init>", "(Ljava/lang/Integer;Ljava/lang/String;)V"⟩ : MethodName) prog_28_method_1_code 3 none :: ws) own_r1) (fun a_ U_ => a_ = #[(.ref b), vi, vf] ∧ Z.Warmed39 U_.vm ∧ U_.heap = h0) (fun _ _ _ _ _ => True) (fun _ U_ o_ U'_ => ∃ v_ L_, o_ = .returned v_ ∧ own_Q1 Z b  vi vf  h0 n0 v_ U'_.heap L_ ∧ FrameEnd U_ o_ U'_ L_ own_r1.cells own_r1.slots) := by
  refine MetFree.of_bodySF (plainFor_of_name own_pn4) hisR ?_
  intro p e s m args below meth c s₁ Bd hml0 hP hK
  obtain ⟨rfl, hZ, hh⟩ := hP
  have hx := Bd.exec
  have hby := Bd.bytes
  have hml : c.maxLocals = 3 := hml0
  have hown : s.vm.findClass "com/example/durable_cron/durablecron/store/RequestOutcome" = some m.cls := findClass_of_methodNamed Bd.named
  have hnm := (name_of_methodNamed Bd.named Bd.method).1
  have X0 : Stand p l e own_r1 s m #[(.ref b), vi, vf] below meth c s₁ [] 0 0 := Stand.of_body Bd
  have e0 : s₁.heap = h0 := by rw [← hh, Bd.state]; rfl
  have N0 := Fr.nil n0
  refine own_in (own_ef1 m b vi hvi vf hvf) ?_
  show own_Go p e below (own_K s (own_Q1 Z b  vi vf  h0 n0) own_r1.cells own_r1.slots) s₁ (mkF m 0 #[.val (.ref b), .val vi, .val vf] [])
  refine own_st (T' := s₁) (g' := (mkF m 1 #[.val (.ref b), .val vi, .val vf] [(.ref b)])) (fun t k => ?_) ?_
  · show Steps p.tables e below (s₁.setTop (mkF m 0 #[.val (.ref b), .val vi, .val vf] [])) t
    refine XS.aloadN X0.here hx rfl (hb hby own_d1_0) rfl rfl ?_
    exact k
  obtain ⟨T1, X1, e1, st1⟩ := initO X0 hx hZ hown (hw _ (List.mem_of_getElem? (i := 6) rfl)) (hw _ (List.mem_of_getElem? (i := 7) rfl)) (hw _ (List.mem_of_getElem? (i := 8) rfl)) e0 (g := (mkF m 1 #[.val (.ref b), .val vi, .val vf] [(.ref b)])) rfl (by rw [hml]; rfl) rfl (hb hby own_d1_1) (by decide) (W := 0) (by show 2 * 0 + _ ≤ _; exact Nat.le_of_eq rfl) (by decide)
  refine own_st (T' := T1) (g' := (mkF m 4 #[.val (.ref b), .val vi, .val vf] [])) st1 ?_
  refine own_st (T' := T1) (g' := (mkF m 6 #[.val (.ref b), .val vi, .val vf] [vi, (.ref b)])) (fun t k => ?_) ?_
  · show Steps p.tables e below (T1.setTop (mkF m 4 #[.val (.ref b), .val vi, .val vf] [])) t
    refine XS.aloadN X1.here hx rfl (hb hby own_d1_4) rfl rfl ?_
    refine XS.aloadN X1.here hx rfl (hb hby own_d1_5) rfl hvi ?_
    exact k
  obtain ⟨T2, h2, X2, e2, W2, st2⟩ := putF X1 hx hZ hown (host := "") (Or.inl (hw _ (List.mem_of_getElem? (i := 9) rfl))) Via.refl e1 F_s E_b (Or.inr ⟨(hw _ (List.mem_of_getElem? (i := 10) rfl)), rfl, hnm⟩) (hw _ (List.mem_of_getElem? (i := 1) rfl)) (ty := (.object "java/lang/Integer")) (by decide) (own_nar_ref hvi rfl) (own_fits_ref hvi rfl) (g := (mkF m 6 #[.val (.ref b), .val vi, .val vf] [vi, (.ref b)])) rfl rfl (hb hby own_d1_6)
  have N2 := Fr.snoc X2 N0 g_b
  have K2 : Keep h0 h2 [b] := (Keep.refl h0 [b]).wr W2 (Or.inl (List.mem_of_getElem? (i := 0) rfl))
  have Z2 : n0 ≤ h2.size := Nat.le_trans Z0 (Keep.of_wr W2).1
  have fw2 := (F_s.same W2)
  refine own_st (T' := T2) (g' := (mkF m 9 #[.val (.ref b), .val vi, .val vf] [])) st2 ?_
  refine own_st (T' := T2) (g' := (mkF m 11 #[.val (.ref b), .val vi, .val vf] [vf, (.ref b)])) (fun t k => ?_) ?_
  · show Steps p.tables e below (T2.setTop (mkF m 9 #[.val (.ref b), .val vi, .val vf] [])) t
    refine XS.aloadN X2.here hx rfl (hb hby own_d1_9) rfl rfl ?_
    refine XS.aloadN X2.here hx rfl (hb hby own_d1_10) rfl hvf ?_
    exact k
  have f3 := F_f.other W2 (Or.inr (slot_ne (Or.inr (hw _ (List.mem_of_getElem? (i := 12) rfl))) (Or.inr (hw _ (List.mem_of_getElem? (i := 10) rfl))) (by decide) (t := (.object "java/lang/String")) (t' := (.object "java/lang/Integer")) (by decide) (by decide)))
  have f4 := E_b.wr W2
  obtain ⟨T5, h5, X5, e5, W5, st5⟩ := putF X2 hx hZ hown (host := "") (Or.inl (hw _ (List.mem_of_getElem? (i := 11) rfl))) Via.refl e2 f3 f4 (Or.inr ⟨(hw _ (List.mem_of_getElem? (i := 12) rfl)), rfl, hnm⟩) (hw _ (List.mem_of_getElem? (i := 1) rfl)) (ty := (.object "java/lang/String")) (by decide) (own_nar_ref hvf rfl) (own_fits_ref hvf rfl) (g := (mkF m 11 #[.val (.ref b), .val vi, .val vf] [vf, (.ref b)])) rfl rfl (hb hby own_d1_11)
  have N5 := Fr.snoc X5 N2 g_b
  have K5 : Keep h0 h5 [b] := K2.wr W5 (Or.inl (List.mem_of_getElem? (i := 0) rfl))
  have Z5 : n0 ≤ h5.size := Nat.le_trans Z2 (Keep.of_wr W5).1
  have fw5 := (f3.same W5)
  refine own_st (T' := T5) (g' := (mkF m 14 #[.val (.ref b), .val vi, .val vf] [])) st5 ?_
  have f6 := fw2.other W5 (Or.inr (slot_ne (Or.inr (hw _ (List.mem_of_getElem? (i := 10) rfl))) (Or.inr (hw _ (List.mem_of_getElem? (i := 12) rfl))) (by decide) (t := (.object "java/lang/Integer")) (t' := (.object "java/lang/String")) (by decide) (by decide)))
  exact own_retV X5 hx Bd (hb hby own_d1_14) e5 (⟨rfl, N5, K5, f6⟩) (by decide) (by decide)
def own_r12 : Room := { frames := 0, cells := 0, slots := 0, locals := 0 }
theorem own_ef12 (m : MethodId) (x0 : Int32) : entryFrame m #[(.int x0)] 1 = mkF m 0 #[.val (.int x0)] [] := by first | (simp [entryFrame, mkF, argsToLocals, Value.category]; done) | rfl
def own_Q12 (Z : State) (xv : Int32) (h0 : Heap) (n0 : Nat) : Option Value → Heap → List Loc → Prop := fun v h L => v = some (.int (own_ok xv)) ∧ Fr n0 L ∧ h = h0
set_option maxRecDepth 65536 in
set_option maxHeartbeats 40000000 in
theorem own_rm12 (l : Launch) (Z : State) (a0 : Array Value) (hw : ∀ d ∈ tables_1, d.before a0 Z = true) (ws : List Jvm.Cond) (xv : Int32) (h0 : Heap) (n0 : Nat) (Z0 : n0 ≤ h0.size)  :
    MetFree l (⟨"com/example/durable_cron/durablecron/store/RequestOutcome", "isSuccess", "(I)Z"⟩ : MethodName) (head1 (Jvm.Cond.code (⟨"com/example/durable_cron/durablecron/store/RequestOutcome", "isSuccess", "(I)Z"⟩ : MethodName) prog_28_method_7_code 1 (some .boolean) :: ws) own_r12) (fun a_ U_ => a_ = #[(.int xv)] ∧ Z.Warmed39 U_.vm ∧ U_.heap = h0) (fun _ _ _ _ _ => True) (fun _ U_ o_ U'_ => ∃ v_ L_, o_ = .returned v_ ∧ own_Q12 Z xv  h0 n0 v_ U'_.heap L_ ∧ FrameEnd U_ o_ U'_ L_ own_r12.cells own_r12.slots) := by
  refine MetFree.of_bodySF (plainFor_of_name own_pn4) hisR ?_
  intro p e s m args below meth c s₁ Bd hml0 hP hK
  obtain ⟨rfl, hZ, hh⟩ := hP
  have hx := Bd.exec
  have hby := Bd.bytes
  have hml : c.maxLocals = 1 := hml0
  have hown : s.vm.findClass "com/example/durable_cron/durablecron/store/RequestOutcome" = some m.cls := findClass_of_methodNamed Bd.named
  have hnm := (name_of_methodNamed Bd.named Bd.method).1
  have X0 : Stand p l e own_r12 s m #[(.int xv)] below meth c s₁ [] 0 0 := Stand.of_body Bd
  have e0 : s₁.heap = h0 := by rw [← hh, Bd.state]; rfl
  have N0 := Fr.nil n0
  refine own_in (own_ef12 m xv) ?_
  show own_Go p e below (own_K s (own_Q12 Z xv  h0 n0) own_r12.cells own_r12.slots) s₁ (mkF m 0 #[.val (.int xv)] [])
  refine own_st (T' := s₁) (g' := (mkF m 4 #[.val (.int xv)] [(.int (200 : Int32)), (.int xv)])) (fun t k => ?_) ?_
  · show Steps p.tables e below (s₁.setTop (mkF m 0 #[.val (.int xv)] [])) t
    refine XS.iloadN X0.here hx rfl (hb hby own_d12_0) rfl ?_
    refine XS.sipush X0.here hx rfl (hb hby own_d12_1) ?_
    exact k
  by_cases hc1 : xv < (200 : Int32)
  · refine own_st (T' := s₁) (g' := (mkF m 19 #[.val (.int xv)] [(.int (0 : Int32))])) (fun t k => ?_) ?_
    · show Steps p.tables e below (s₁.setTop (mkF m 4 #[.val (.int xv)] [(.int (200 : Int32)), (.int xv)])) t
      refine XS.icmpYes X0.here hx rfl (pc0 := 4) (pc' := 18) rfl (hb hby own_d12_4) rfl (tlt hc1).1 (by decide) (by decide) ?_
      refine XS.iconst X0.here hx rfl (hb hby own_d12_18) ?_
      exact k
    exact own_retN X0 hx Bd (t := .boolean) (by simp) rfl (hb hby own_d12_19) e0 (⟨by simp only [own_ok, hc1, if_true, if_false], N0, rfl⟩) (by decide) (by decide)
  · refine own_st (T' := s₁) (g' := (mkF m 11 #[.val (.int xv)] [(.int (299 : Int32)), (.int xv)])) (fun t k => ?_) ?_
    · show Steps p.tables e below (s₁.setTop (mkF m 4 #[.val (.int xv)] [(.int (200 : Int32)), (.int xv)])) t
      refine XS.icmpNo X0.here hx rfl (hb hby own_d12_4) rfl (flt hc1).1 ?_
      refine XS.iloadN X0.here hx rfl (hb hby own_d12_7) rfl ?_
      refine XS.sipush X0.here hx rfl (hb hby own_d12_8) ?_
      exact k
    by_cases hc2 : (299 : Int32) < xv
    · refine own_st (T' := s₁) (g' := (mkF m 19 #[.val (.int xv)] [(.int (0 : Int32))])) (fun t k => ?_) ?_
      · show Steps p.tables e below (s₁.setTop (mkF m 11 #[.val (.int xv)] [(.int (299 : Int32)), (.int xv)])) t
        refine XS.icmpYes X0.here hx rfl (pc0 := 11) (pc' := 18) rfl (hb hby own_d12_11) rfl (tlt hc2).2.2.1 (by decide) (by decide) ?_
        refine XS.iconst X0.here hx rfl (hb hby own_d12_18) ?_
        exact k
      exact own_retN X0 hx Bd (t := .boolean) (by simp) rfl (hb hby own_d12_19) e0 (⟨by simp only [own_ok, hc1, hc2, if_true, if_false], N0, rfl⟩) (by decide) (by decide)
    · refine own_st (T' := s₁) (g' := (mkF m 19 #[.val (.int xv)] [(.int (1 : Int32))])) (fun t k => ?_) ?_
      · show Steps p.tables e below (s₁.setTop (mkF m 11 #[.val (.int xv)] [(.int (299 : Int32)), (.int xv)])) t
        refine XS.icmpNo X0.here hx rfl (hb hby own_d12_11) rfl (flt hc2).2.2.1 ?_
        refine XS.iconst X0.here hx rfl (hb hby own_d12_14) ?_
        refine XS.goto X0.here hx rfl (pc0 := 15) (pc' := 19) rfl (hb hby own_d12_15) (by decide) (by decide) ?_
        exact k
      exact own_retN X0 hx Bd (t := .boolean) (by simp) rfl (hb hby own_d12_19) e0 (⟨by simp only [own_ok, hc1, hc2, if_true, if_false], N0, rfl⟩) (by decide) (by decide)
def own_r3n : Room := { frames := 0, cells := 0, slots := 0, locals := 0 }
theorem own_ef3n (m : MethodId) (x0 : Addr) : entryFrame m #[(.ref x0)] 1 = mkF m 0 #[.val (.ref x0)] [] := by first | (simp [entryFrame, mkF, argsToLocals, Value.category]; done) | rfl
def own_Q3n (Z : State) (r : Addr) (h0 : Heap) (n0 : Nat) : Option Value → Heap → List Loc → Prop := fun v h L => v = some (.int (0 : Int32)) ∧ Fr n0 L ∧ h = h0
set_option maxRecDepth 65536 in
set_option maxHeartbeats 40000000 in
theorem own_rm3n (l : Launch) (Z : State) (a0 : Array Value) (hw : ∀ d ∈ tables_1, d.before a0 Z = true) (ws : List Jvm.Cond) (r : Addr) (h0 : Heap) (n0 : Nat) (Z0 : n0 ≤ h0.size) (F_s : Fld Z h0 r "com/example/durable_cron/durablecron/store/RequestOutcome" "statusCode" "Ljava/lang/Integer;" .null) :
    MetFree l (⟨"com/example/durable_cron/durablecron/store/RequestOutcome", "succeeded", "()Z"⟩ : MethodName) (head1 (Jvm.Cond.code (⟨"com/example/durable_cron/durablecron/store/RequestOutcome", "succeeded", "()Z"⟩ : MethodName) prog_28_method_4_code 1 (some .boolean) :: ws) own_r3n) (fun a_ U_ => a_ = #[(.ref r)] ∧ Z.Warmed39 U_.vm ∧ U_.heap = h0) (fun _ _ _ _ _ => True) (fun _ U_ o_ U'_ => ∃ v_ L_, o_ = .returned v_ ∧ own_Q3n Z r  h0 n0 v_ U'_.heap L_ ∧ FrameEnd U_ o_ U'_ L_ own_r3n.cells own_r3n.slots) := by
  refine MetFree.of_bodySF (plainFor_of_name own_pn4) hisR ?_
  intro p e s m args below meth c s₁ Bd hml0 hP hK
  obtain ⟨rfl, hZ, hh⟩ := hP
  have hx := Bd.exec
  have hby := Bd.bytes
  have hml : c.maxLocals = 1 := hml0
  have hown : s.vm.findClass "com/example/durable_cron/durablecron/store/RequestOutcome" = some m.cls := findClass_of_methodNamed Bd.named
  have hnm := (name_of_methodNamed Bd.named Bd.method).1
  have X0 : Stand p l e own_r3n s m #[(.ref r)] below meth c s₁ [] 0 0 := Stand.of_body Bd
  have e0 : s₁.heap = h0 := by rw [← hh, Bd.state]; rfl
  have N0 := Fr.nil n0
  refine own_in (own_ef3n m r) ?_
  show own_Go p e below (own_K s (own_Q3n Z r  h0 n0) own_r3n.cells own_r3n.slots) s₁ (mkF m 0 #[.val (.ref r)] [])
  refine own_st (T' := s₁) (g' := (mkF m 1 #[.val (.ref r)] [(.ref r)])) (fun t k => ?_) ?_
  · show Steps p.tables e below (s₁.setTop (mkF m 0 #[.val (.ref r)] [])) t
    refine XS.aloadN X0.here hx rfl (hb hby own_d3_0) rfl rfl ?_
    exact k
  obtain ⟨T1, X1, e1, st1⟩ := getF X0 hx hZ hown (host := "") (Or.inl (hw _ (List.mem_of_getElem? (i := 9) rfl))) Via.refl e0 F_s (g := (mkF m 1 #[.val (.ref r)] [(.ref r)])) rfl rfl (hb hby own_d3_1)
  refine own_st (T' := T1) (g' := (mkF m 4 #[.val (.ref r)] [.null])) st1 ?_
  refine own_st (T' := T1) (g' := (mkF m 25 #[.val (.ref r)] [(.int (0 : Int32))])) (fun t k => ?_) ?_
  · show Steps p.tables e below (T1.setTop (mkF m 4 #[.val (.ref r)] [.null])) t
    refine XS.ifnullYes X1.here hx rfl (pc0 := 4) (pc' := 24) rfl (hb hby own_d3_4) rfl (by decide) (by decide) ?_
    refine XS.iconst X1.here hx rfl (hb hby own_d3_24) ?_
    exact k
  exact own_retN X1 hx Bd (t := .boolean) (by simp) rfl (hb hby own_d3_25) e1 (⟨rfl, N0, rfl⟩) (by decide) (by decide)
def own_r3y : Room := { frames := 1, cells := 0, slots := 0, locals := 12 }
theorem own_ef3y (m : MethodId) (x0 : Addr) : entryFrame m #[(.ref x0)] 1 = mkF m 0 #[.val (.ref x0)] [] := by first | (simp [entryFrame, mkF, argsToLocals, Value.category]; done) | rfl
def own_Q3y (Z : State) (r i : Addr) (xv : Int32) (h0 : Heap) (n0 : Nat) : Option Value → Heap → List Loc → Prop := fun v h L => v = some (.int (own_ok xv)) ∧ Fr n0 L ∧ h = h0
set_option maxRecDepth 65536 in
set_option maxHeartbeats 40000000 in
theorem own_rm3y (l : Launch) (Z : State) (a0 : Array Value) (hw : ∀ d ∈ tables_1, d.before a0 Z = true) (ws : List Jvm.Cond) (r i : Addr) (xv : Int32) (h0 : Heap) (n0 : Nat) (Z0 : n0 ≤ h0.size) (F_s : Fld Z h0 r "com/example/durable_cron/durablecron/store/RequestOutcome" "statusCode" "Ljava/lang/Integer;" (.ref i)) (E_i : Exa Z h0 i "java/lang/Integer") (F_i : Fld Z h0 i "java/lang/Integer" "value" "I" (.int xv)) :
    MetFree l (⟨"com/example/durable_cron/durablecron/store/RequestOutcome", "succeeded", "()Z"⟩ : MethodName) (head1 (Jvm.Cond.code (⟨"com/example/durable_cron/durablecron/store/RequestOutcome", "succeeded", "()Z"⟩ : MethodName) prog_28_method_4_code 1 (some .boolean) :: ws) own_r3y) (fun a_ U_ => a_ = #[(.ref r)] ∧ Z.Warmed39 U_.vm ∧ U_.heap = h0) (fun _ _ _ _ _ => True) (fun _ U_ o_ U'_ => ∃ v_ L_, o_ = .returned v_ ∧ own_Q3y Z r i  xv  h0 n0 v_ U'_.heap L_ ∧ FrameEnd U_ o_ U'_ L_ own_r3y.cells own_r3y.slots) := by
  refine MetFree.of_bodySF (plainFor_of_name own_pn4) hisR ?_
  intro p e s m args below meth c s₁ Bd hml0 hP hK
  obtain ⟨rfl, hZ, hh⟩ := hP
  have hx := Bd.exec
  have hby := Bd.bytes
  have hml : c.maxLocals = 1 := hml0
  have hown : s.vm.findClass "com/example/durable_cron/durablecron/store/RequestOutcome" = some m.cls := findClass_of_methodNamed Bd.named
  have hnm := (name_of_methodNamed Bd.named Bd.method).1
  have X0 : Stand p l e own_r3y s m #[(.ref r)] below meth c s₁ [] 0 0 := Stand.of_body Bd
  have e0 : s₁.heap = h0 := by rw [← hh, Bd.state]; rfl
  have N0 := Fr.nil n0
  refine own_in (own_ef3y m r) ?_
  show own_Go p e below (own_K s (own_Q3y Z r i  xv  h0 n0) own_r3y.cells own_r3y.slots) s₁ (mkF m 0 #[.val (.ref r)] [])
  refine own_st (T' := s₁) (g' := (mkF m 1 #[.val (.ref r)] [(.ref r)])) (fun t k => ?_) ?_
  · show Steps p.tables e below (s₁.setTop (mkF m 0 #[.val (.ref r)] [])) t
    refine XS.aloadN X0.here hx rfl (hb hby own_d3_0) rfl rfl ?_
    exact k
  obtain ⟨T1, X1, e1, st1⟩ := getF X0 hx hZ hown (host := "") (Or.inl (hw _ (List.mem_of_getElem? (i := 9) rfl))) Via.refl e0 F_s (g := (mkF m 1 #[.val (.ref r)] [(.ref r)])) rfl rfl (hb hby own_d3_1)
  refine own_st (T' := T1) (g' := (mkF m 4 #[.val (.ref r)] [(.ref i)])) st1 ?_
  refine own_st (T' := T1) (g' := (mkF m 8 #[.val (.ref r)] [(.ref r)])) (fun t k => ?_) ?_
  · show Steps p.tables e below (T1.setTop (mkF m 4 #[.val (.ref r)] [(.ref i)])) t
    refine XS.ifnullNo X1.here hx rfl (hb hby own_d3_4) rfl ?_
    refine XS.aloadN X1.here hx rfl (hb hby own_d3_7) rfl rfl ?_
    exact k
  obtain ⟨T2, X2, e2, st2⟩ := getF X1 hx hZ hown (host := "") (Or.inl (hw _ (List.mem_of_getElem? (i := 9) rfl))) Via.refl e1 F_s (g := (mkF m 8 #[.val (.ref r)] [(.ref r)])) rfl rfl (hb hby own_d3_8)
  refine own_st (T' := T2) (g' := (mkF m 11 #[.val (.ref r)] [(.ref i)])) st2 ?_
  obtain ⟨cq3, kq3, q3a, q3b, q3c⟩ := isOf hZ e2 E_i
  obtain ⟨_, _, ⟨T3, L3, c3, n3⟩, -, X3, ⟨Lc3, hQ3, l3, y3, z3⟩, st3⟩ := X2.virtualBack hx (y := (⟨"java/lang/Integer", "intValue", "()I"⟩ : MethodName)) (z := (⟨"java/lang/Integer", "intValue", "()I"⟩ : MethodName)) hown (mvT hZ (hw _ (List.mem_of_getElem? (i := 65) rfl))) (mvT hZ (hw _ (List.mem_of_getElem? (i := 66) rfl))) (notFace_of_selects (args := #[]) (mvT hZ (hw _ (List.mem_of_getElem? (i := 68) rfl)))) (mvT hZ (hw _ (List.mem_of_getElem? (i := 68) rfl))) (mvT hZ (hw _ (List.mem_of_getElem? (i := 67) rfl))) (by decide) (backOf (W := 0) (own_rm11 l Z a0 hw [] i xv h0 n0 Z0 F_i) hZ (hw _ (List.mem_of_getElem? (i := 69) rfl)) (hw _ (List.mem_of_getElem? (i := 46) rfl)) (by decide) (by decide)) q3a q3c (g := (mkF m 11 #[.val (.ref r)] [(.ref i)])) rfl (by rw [hml]; rfl) (Steps.refl _) (argsL := []) (rest := []) (lenOf own_pd5 rfl) rfl (by show 2 * 0 + _ ≤ _; exact Nat.le_of_eq rfl) (hb hby own_d3_11) (fun _ _ => ⟨rfl, e2, (by decide : 0 + 0 ≤ _), (by decide : 0 + 0 ≤ _)⟩)
  dsimp only [Pt.U, Pt.locs, Pt.cells, Pt.slots] at X3 l3 y3 z3 st3 hQ3
  subst l3 y3 z3
  obtain ⟨rfl, N3q, e3⟩ := hQ3
  have N3 := Fr.app N0 N3q
  refine own_tr (T' := T3) (g' := (mkF m 14 #[.val (.ref r)] [(.int xv)])) st3 ?_
  obtain ⟨_, _, ⟨T4, L4, c4, n4⟩, -, X4, ⟨Lc4, hQ4, l4, y4, z4⟩, st4⟩ := Jvm.LawKit.callS X3 hx (y := (⟨"com/example/durable_cron/durablecron/store/RequestOutcome", "isSuccess", "(I)Z"⟩ : MethodName)) hown (mvT hZ (hw _ (List.mem_of_getElem? (i := 70) rfl))) (mvT hZ (hw _ (List.mem_of_getElem? (i := 71) rfl))) (mvT hZ (hw _ (List.mem_of_getElem? (i := 2) rfl))) (mvT hZ (hw _ (List.mem_of_getElem? (i := 72) rfl))) (by decide) (backOf (W := 0) (own_rm12 l Z a0 hw [] xv h0 n0 Z0) hZ (hw _ (List.mem_of_getElem? (i := 72) rfl)) (hw _ (List.mem_of_getElem? (i := 2) rfl)) (by decide) (by decide)) (g := (mkF m 14 #[.val (.ref r)] [(.int xv)])) rfl (by rw [hml]; rfl) (argsL := [(.int xv)]) (rest := []) (lenOf own_pd6 rfl) rfl (by show 2 * 0 + _ ≤ _; exact Nat.le_of_eq rfl) (hb hby own_d3_14) (fun _ _ => ⟨rfl, e3, (by decide : 0 + 0 ≤ _), (by decide : 0 + 0 ≤ _)⟩)
  dsimp only [Pt.U, Pt.locs, Pt.cells, Pt.slots] at X4 l4 y4 z4 st4 hQ4
  subst l4 y4 z4
  obtain ⟨rfl, N4q, e4⟩ := hQ4
  have N4 := Fr.app N3 N4q
  refine own_st (T' := T4) (g' := (mkF m 17 #[.val (.ref r)] [(.int (own_ok xv))])) st4 ?_
  by_cases hc5 : (own_ok xv) = (0 : Int32)
  · refine own_st (T' := T4) (g' := (mkF m 25 #[.val (.ref r)] [(.int (0 : Int32))])) (fun t k => ?_) ?_
    · show Steps p.tables e below (T4.setTop (mkF m 17 #[.val (.ref r)] [(.int (own_ok xv))])) t
      refine XS.ifYes X4.here hx rfl (pc0 := 17) (pc' := 24) rfl (hb hby own_d3_17) rfl ((if0 _ _).trans (teq hc5).1) (by decide) (by decide) ?_
      refine XS.iconst X4.here hx rfl (hb hby own_d3_24) ?_
      exact k
    exact own_retN X4 hx Bd (t := .boolean) (by simp) rfl (hb hby own_d3_25) e4 (⟨by rw [hc5], N4, rfl⟩) (by decide) (by decide)
  · refine own_st (T' := T4) (g' := (mkF m 25 #[.val (.ref r)] [(.int (1 : Int32))])) (fun t k => ?_) ?_
    · show Steps p.tables e below (T4.setTop (mkF m 17 #[.val (.ref r)] [(.int (own_ok xv))])) t
      refine XS.ifNo X4.here hx rfl (hb hby own_d3_17) rfl ((if0 _ _).trans (feq hc5).1) ?_
      refine XS.iconst X4.here hx rfl (hb hby own_d3_20) ?_
      refine XS.goto X4.here hx rfl (pc0 := 21) (pc' := 25) rfl (hb hby own_d3_21) (by decide) (by decide) ?_
      exact k
    exact own_retN X4 hx Bd (t := .boolean) (by simp) rfl (hb hby own_d3_25) e4 (⟨by rw [own_ok_ne hc5], N4, rfl⟩) (by decide) (by decide)
theorem own_ef0 (m : MethodId) (x0 : Int32) (x1 : Int32) (x2 : Int32) : entryFrame m #[(.int x0), (.int x1), (.int x2)] maxLocals = mkF m 0 #[.val (.int x0), .val (.int x1), .val (.int x2), .unset, .unset, .unset, .unset, .unset, .unset, .unset, .unset] [] := by first | (simp [entryFrame, mkF, argsToLocals, Value.category, maxLocals]; done) | rfl
def own_Q0 (Z : State) (xx fl cc0 cs : Int32) (ca : Addr) (cc : Cell) (h0 : Heap) (n0 : Nat) : Option Value → Heap → List Loc → Prop := fun v h L => v = some (.int 1) ∧ Fr n0 L
set_option maxRecDepth 65536 in
set_option maxHeartbeats 40000000 in
theorem own_rm0 (l : Launch) (Z : State) (a0 : Array Value) (hw : ∀ d ∈ tables_1, d.before a0 Z = true) (ws : List Jvm.Cond) (xx fl cc0 cs : Int32) (ca : Addr) (cc : Cell) (h0 : Heap) (n0 : Nat) (Z0 : n0 ≤ h0.size) (O0 : Old Z n0 h0) (S_cs : Sta Z Z.heap "java/lang/String" "COMPACT_STRINGS" "Z" (.int cs)) (hcs : ¬ cs = (0 : Int32)) (S_hi : Sta Z Z.heap "java/lang/Integer$IntegerCache" "high" "I" (.int (127 : Int32))) (S_ca : Sta Z Z.heap "java/lang/Integer$IntegerCache" "cache" "[Ljava/lang/Integer;" (.ref ca)) (B_c : Bxs Z ca cc "java/lang/Integer" "I" (256 : Int32) (fun j => .int (j - 128))) :
    MetFree l x (head1 (Jvm.Cond.code x code maxLocals ret :: ws) room_1) (fun a_ U_ => a_ = #[(.int xx), (.int fl), (.int cc0)] ∧ Z.Warmed39 U_.vm ∧ U_.heap = h0) (fun _ _ _ _ _ => True) (fun _ U_ o_ U'_ => ∃ v_ L_, o_ = .returned v_ ∧ own_Q0 Z xx fl cc0 cs  ca  cc  h0 n0 v_ U'_.heap L_ ∧ FrameEnd U_ o_ U'_ L_ room_1.cells room_1.slots) := by
  refine MetFree.of_bodySF (plainFor_of_name own_pn5) hisR ?_
  intro p e s m args below meth c s₁ Bd hml0 hP hK
  obtain ⟨rfl, hZ, hh⟩ := hP
  have hx := Bd.exec
  have hby := Bd.bytes
  have hml : c.maxLocals = 11 := hml0
  have hown : s.vm.findClass "com/example/durable_cron/durablecron/store/RequestOutcomeSucceededPinLaw" = some m.cls := findClass_of_methodNamed Bd.named
  have hnm := (name_of_methodNamed Bd.named Bd.method).1
  have X0 : Stand p l e room_1 s m #[(.int xx), (.int fl), (.int cc0)] below meth c s₁ [] 0 0 := Stand.of_body Bd
  have e0 : s₁.heap = h0 := by rw [← hh, Bd.state]; rfl
  have N0 := Fr.nil n0
  refine own_in (own_ef0 m xx fl cc0) ?_
  show own_Go p e below (own_K s (own_Q0 Z xx fl cc0 cs  ca  cc  h0 n0) room_1.cells room_1.slots) s₁ (mkF m 0 #[.val (.int xx), .val (.int fl), .val (.int cc0), .unset, .unset, .unset, .unset, .unset, .unset, .unset, .unset] [])
  refine own_st (T' := s₁) (g' := (mkF m 3 #[.val (.int xx), .val (.int fl), .val (.int cc0), .unset, .unset, .unset, .unset, .unset, .unset, .unset, .unset] [(.int (fl &&& (1 : Int32)))])) (fun t k => ?_) ?_
  · show Steps p.tables e below (s₁.setTop (mkF m 0 #[.val (.int xx), .val (.int fl), .val (.int cc0), .unset, .unset, .unset, .unset, .unset, .unset, .unset, .unset] [])) t
    refine XS.iloadN X0.here hx rfl (hb hby at_0) rfl ?_
    refine XS.iconst X0.here hx rfl (hb hby at_1) ?_
    refine XS.iand X0.here hx rfl (hb hby at_2) rfl ?_
    exact k
  by_cases hc1 : (fl &&& (1 : Int32)) = (0 : Int32)
  · refine own_st (T' := s₁) (g' := (mkF m 15 #[.val (.int xx), .val (.int fl), .val (.int cc0), .val (.int (0 : Int32)), .unset, .unset, .unset, .unset, .unset, .unset, .unset] [(.int (fl &&& (2 : Int32)))])) (fun t k => ?_) ?_
    · show Steps p.tables e below (s₁.setTop (mkF m 3 #[.val (.int xx), .val (.int fl), .val (.int cc0), .unset, .unset, .unset, .unset, .unset, .unset, .unset, .unset] [(.int (fl &&& (1 : Int32)))])) t
      refine XS.ifYes X0.here hx rfl (pc0 := 3) (pc' := 10) rfl (hb hby at_3) rfl ((if0 _ _).trans (teq hc1).1) (by decide) (by decide) ?_
      refine XS.iconst X0.here hx rfl (hb hby at_10) ?_
      refine XS.istoreN X0.here hx rfl (hb hby at_11) rfl (l' := #[.val (.int xx), .val (.int fl), .val (.int cc0), .val (.int (0 : Int32)), .unset, .unset, .unset, .unset, .unset, .unset, .unset]) rfl ?_
      refine XS.iloadN X0.here hx rfl (hb hby at_12) rfl ?_
      refine XS.iconst X0.here hx rfl (hb hby at_13) ?_
      refine XS.iand X0.here hx rfl (hb hby at_14) rfl ?_
      exact k
    by_cases hc2 : (fl &&& (2 : Int32)) = (0 : Int32)
    · refine own_st (T' := s₁) (g' := (mkF m 28 #[.val (.int xx), .val (.int fl), .val (.int cc0), .val (.int (0 : Int32)), .val (.int (0 : Int32)), .unset, .unset, .unset, .unset, .unset, .unset] [(.int (fl &&& (4 : Int32)))])) (fun t k => ?_) ?_
      · show Steps p.tables e below (s₁.setTop (mkF m 15 #[.val (.int xx), .val (.int fl), .val (.int cc0), .val (.int (0 : Int32)), .unset, .unset, .unset, .unset, .unset, .unset, .unset] [(.int (fl &&& (2 : Int32)))])) t
        refine XS.ifYes X0.here hx rfl (pc0 := 15) (pc' := 22) rfl (hb hby at_15) rfl ((if0 _ _).trans (teq hc2).1) (by decide) (by decide) ?_
        refine XS.iconst X0.here hx rfl (hb hby at_22) ?_
        refine XS.istore X0.here hx rfl (hb hby at_23) rfl (l' := #[.val (.int xx), .val (.int fl), .val (.int cc0), .val (.int (0 : Int32)), .val (.int (0 : Int32)), .unset, .unset, .unset, .unset, .unset, .unset]) rfl ?_
        refine XS.iloadN X0.here hx rfl (hb hby at_25) rfl ?_
        refine XS.iconst X0.here hx rfl (hb hby at_26) ?_
        refine XS.iand X0.here hx rfl (hb hby at_27) rfl ?_
        exact k
      have Jc : ∀ (cd : Int32) (T : State) (locs : List Loc), Stand p l e room_1 s m #[(.int xx), (.int fl), (.int cc0)] below meth c T locs 0 0 → Fr n0 locs → T.heap = h0 → own_Go p e below (own_K s (own_Q0 Z xx fl cc0 cs  ca  cc  h0 n0) room_1.cells room_1.slots) T (mkF m 46 #[.val (.int xx), .val (.int fl), .val (.int cc0), .val (.int (0 : Int32)), .val (.int (0 : Int32)), .unset, .unset, .unset, .unset, .unset, .unset] [(.int cd)]) := by
        intro cd T3 locs3 X3 N3 e3
        refine own_st (T' := T3) (g' := (mkF m 63 #[.val (.int xx), .val (.int fl), .val (.int cc0), .val (.int (0 : Int32)), .val (.int (0 : Int32)), .val (.int cd), .unset, .unset, .unset, .unset, .unset] [(.int ((cc0 &&& (255 : Int32)).toUInt32.toUInt16.toUInt32.toInt32))])) (fun t k => ?_) ?_
        · show Steps p.tables e below (T3.setTop (mkF m 46 #[.val (.int xx), .val (.int fl), .val (.int cc0), .val (.int (0 : Int32)), .val (.int (0 : Int32)), .unset, .unset, .unset, .unset, .unset, .unset] [(.int cd)])) t
          refine XS.istore X3.here hx rfl (hb hby at_46) rfl (l' := #[.val (.int xx), .val (.int fl), .val (.int cc0), .val (.int (0 : Int32)), .val (.int (0 : Int32)), .val (.int cd), .unset, .unset, .unset, .unset, .unset]) rfl ?_
          refine XS.iload X3.here hx rfl (hb hby at_48) rfl ?_
          refine XS.ifYes X3.here hx rfl (pc0 := 50) (pc' := 57) rfl (hb hby at_50) rfl ((if0 _ _).trans (teq (rfl : (0 : Int32) = (0 : Int32))).1) (by decide) (by decide) ?_
          refine XS.iloadN X3.here hx rfl (hb hby at_57) rfl ?_
          refine XS.sipush X3.here hx rfl (hb hby at_58) ?_
          refine XS.iand X3.here hx rfl (hb hby at_61) rfl ?_
          refine XS.i2c X3.here hx rfl (hb hby at_62) rfl ?_
          exact k
        obtain ⟨_, _, ⟨T4, L4, c4, n4⟩, -, X4, ⟨Lc4, hQ4, l4, y4, z4⟩, st4⟩ := Jvm.LawKit.callS X3 hx (y := (⟨"java/lang/String", "valueOf", "(C)Ljava/lang/String;"⟩ : MethodName)) hown (mvT hZ (hw _ (List.mem_of_getElem? (i := 20) rfl))) (mvT hZ (hw _ (List.mem_of_getElem? (i := 21) rfl))) (mvT hZ (hw _ (List.mem_of_getElem? (i := 22) rfl))) (mvT hZ (hw _ (List.mem_of_getElem? (i := 23) rfl))) (by decide) (backOf (W := 0) (own_rm4 l Z a0 hw [] ((cc0 &&& (255 : Int32)).toUInt32.toUInt16.toUInt32.toInt32) cs h0 n0 Z0 O0 S_cs hcs (own_255 _)) hZ (hw _ (List.mem_of_getElem? (i := 23) rfl)) (hw _ (List.mem_of_getElem? (i := 22) rfl)) (by decide) (by decide)) (g := (mkF m 63 #[.val (.int xx), .val (.int fl), .val (.int cc0), .val (.int (0 : Int32)), .val (.int (0 : Int32)), .val (.int cd), .unset, .unset, .unset, .unset, .unset] [(.int ((cc0 &&& (255 : Int32)).toUInt32.toUInt16.toUInt32.toInt32))])) rfl (by rw [hml]; rfl) (argsL := [(.int ((cc0 &&& (255 : Int32)).toUInt32.toUInt16.toUInt32.toInt32))]) (rest := []) (lenOf own_pd7 rfl) rfl (by show 2 * 0 + _ ≤ _; exact Nat.le_of_eq rfl) (hb hby at_63) (fun _ _ => ⟨rfl, e3, (by decide : 0 + 2 ≤ _), (by decide : 0 + 5 ≤ _)⟩)
        dsimp only [Pt.U, Pt.locs, Pt.cells, Pt.slots] at X4 l4 y4 z4 st4 hQ4
        subst l4 y4 z4
        obtain ⟨h4, e4⟩ : ∃ z, T4.heap = z := ⟨_, rfl⟩
        rw [e4] at hQ4
        obtain ⟨r4, rfl, N4q, Kc4, g4, hz4, Ec4⟩ := hQ4
        have N4 := Fr.app N3 N4q
        have hz04 : h0.size ≤ r4 := Nat.le_trans (Keep.refl h0 []).1 hz4
        have K4 : Keep h0 h4 [] := (Keep.refl h0 []).trans Kc4 all0
        have Z4 : n0 ≤ h4.size := Nat.le_trans Z0 Kc4.1
        have O4 := O0.keep Kc4 all0
        refine own_st (T' := T4) (g' := (mkF m 66 #[.val (.int xx), .val (.int fl), .val (.int cc0), .val (.int (0 : Int32)), .val (.int (0 : Int32)), .val (.int cd), .unset, .unset, .unset, .unset, .unset] [(.ref r4)])) st4 ?_
        refine own_st (T' := T4) (g' := (mkF m 68 #[.val (.int xx), .val (.int fl), .val (.int cc0), .val (.int (0 : Int32)), .val (.int (0 : Int32)), .val (.int cd), .val (.ref r4), .unset, .unset, .unset, .unset] [])) (fun t k => ?_) ?_
        · show Steps p.tables e below (T4.setTop (mkF m 66 #[.val (.int xx), .val (.int fl), .val (.int cc0), .val (.int (0 : Int32)), .val (.int (0 : Int32)), .val (.int cd), .unset, .unset, .unset, .unset, .unset] [(.ref r4)])) t
          refine XS.astore X4.here hx rfl (hb hby at_66) rfl rfl (l' := #[.val (.int xx), .val (.int fl), .val (.int cc0), .val (.int (0 : Int32)), .val (.int (0 : Int32)), .val (.int cd), .val (.ref r4), .unset, .unset, .unset, .unset]) rfl ?_
          exact k
        obtain ⟨T5, h5, X5, e5, E5, A5, D5, U5, st5⟩ := newO X4 hx hZ hown (hw _ (List.mem_of_getElem? (i := 0) rfl)) (hw _ (List.mem_of_getElem? (i := 1) rfl)) (hw _ (List.mem_of_getElem? (i := 2) rfl)) e4 (g := (mkF m 68 #[.val (.int xx), .val (.int fl), .val (.int cc0), .val (.int (0 : Int32)), .val (.int (0 : Int32)), .val (.int cd), .val (.ref r4), .unset, .unset, .unset, .unset] [])) rfl (hb hby at_68) (by decide) (by decide)
        obtain ⟨b5, g5⟩ : ∃ z, z = h4.size := ⟨_, rfl⟩
        rw [← g5] at A5 D5 U5 st5
        have sz5 : h4.size ≤ b5 := Nat.le_of_eq g5.symm
        have ne_r4_b5 : r4 ≠ b5 := Nat.ne_of_lt (Nat.lt_of_lt_of_le Ec4.lt sz5)
        have g_b5 : n0 ≤ b5 := Nat.le_trans Z4 sz5
        have hz_b5 : h0.size ≤ b5 := Nat.le_trans K4.1 sz5
        have K5 : Keep h0 h5 [] := K4.ext E5
        have Z5 : n0 ≤ h5.size := Nat.le_trans Z4 E5.1
        have O5 := O4.ext E5
        refine own_st (T' := T5) (g' := (mkF m 71 #[.val (.int xx), .val (.int fl), .val (.int cc0), .val (.int (0 : Int32)), .val (.int (0 : Int32)), .val (.int cd), .val (.ref r4), .unset, .unset, .unset, .unset] [(.ref b5)])) st5 ?_
        refine own_st (T' := T5) (g' := (mkF m 82 #[.val (.int xx), .val (.int fl), .val (.int cc0), .val (.int (0 : Int32)), .val (.int (0 : Int32)), .val (.int cd), .val (.ref r4), .unset, .unset, .unset, .unset] [(.int cd), (.ref b5), (.ref b5)])) (fun t k => ?_) ?_
        · show Steps p.tables e below (T5.setTop (mkF m 71 #[.val (.int xx), .val (.int fl), .val (.int cc0), .val (.int (0 : Int32)), .val (.int (0 : Int32)), .val (.int cd), .val (.ref r4), .unset, .unset, .unset, .unset] [(.ref b5)])) t
          refine XS.dup X5.here hx rfl (hb hby at_71) rfl rfl ?_
          refine XS.iloadN X5.here hx rfl (hb hby at_72) rfl ?_
          refine XS.ifYes X5.here hx rfl (pc0 := 73) (pc' := 80) rfl (hb hby at_73) rfl ((if0 _ _).trans (teq (rfl : (0 : Int32) = (0 : Int32))).1) (by decide) (by decide) ?_
          refine XS.iload X5.here hx rfl (hb hby at_80) rfl ?_
          exact k
        obtain ⟨_, _, ⟨T6, L6, c6, n6⟩, -, X6, ⟨Lc6, hQ6, l6, y6, z6⟩, st6⟩ := Jvm.LawKit.callS X5 hx (y := (⟨"java/lang/Integer", "valueOf", "(I)Ljava/lang/Integer;"⟩ : MethodName)) hown (mvT hZ (hw _ (List.mem_of_getElem? (i := 44) rfl))) (mvT hZ (hw _ (List.mem_of_getElem? (i := 45) rfl))) (mvT hZ (hw _ (List.mem_of_getElem? (i := 46) rfl))) (mvT hZ (hw _ (List.mem_of_getElem? (i := 47) rfl))) (by decide) (backOf (W := 2) (own_rm8 l Z a0 hw [] cd ca cc h5 n0 Z5 O5 S_hi S_ca B_c) hZ (hw _ (List.mem_of_getElem? (i := 47) rfl)) (hw _ (List.mem_of_getElem? (i := 46) rfl)) (by decide) (by decide)) (g := (mkF m 82 #[.val (.int xx), .val (.int fl), .val (.int cc0), .val (.int (0 : Int32)), .val (.int (0 : Int32)), .val (.int cd), .val (.ref r4), .unset, .unset, .unset, .unset] [(.int cd), (.ref b5), (.ref b5)])) rfl (by rw [hml]; rfl) (argsL := [(.int cd)]) (rest := [(.ref b5), (.ref b5)]) (lenOf own_pd8 rfl) rfl (by show 2 * 0 + _ ≤ _; exact Nat.le_of_eq rfl) (hb hby at_82) (fun _ _ => ⟨rfl, e5, (by decide : 3 + 1 ≤ _), (by decide : 7 + 1 ≤ _)⟩)
        dsimp only [Pt.U, Pt.locs, Pt.cells, Pt.slots] at X6 l6 y6 z6 st6 hQ6
        subst l6 y6 z6
        obtain ⟨h6, e6⟩ : ∃ z, T6.heap = z := ⟨_, rfl⟩
        rw [e6] at hQ6
        obtain ⟨r6, rfl, N6q, Kc6, Ec6, Fc6, hr6⟩ := hQ6
        have N6 := Fr.app N4 N6q
        have f7 := Ec4.ext E5
        have ne_r4_r6 : r4 ≠ r6 := own_ne_or hr6 g4 f7.lt
        have ne_b5_r6 : b5 ≠ r6 := own_ne_or hr6 g_b5 A5.lt
        have K6 : Keep h0 h6 [] := K5.trans Kc6 all0
        have Z6 : n0 ≤ h6.size := Nat.le_trans Z5 Kc6.1
        have O6 := O5.keep Kc6 all0
        refine own_st (T' := T6) (g' := (mkF m 85 #[.val (.int xx), .val (.int fl), .val (.int cc0), .val (.int (0 : Int32)), .val (.int (0 : Int32)), .val (.int cd), .val (.ref r4), .unset, .unset, .unset, .unset] [(.ref r6), (.ref b5), (.ref b5)])) st6 ?_
        refine own_st (T' := T6) (g' := (mkF m 87 #[.val (.int xx), .val (.int fl), .val (.int cc0), .val (.int (0 : Int32)), .val (.int (0 : Int32)), .val (.int cd), .val (.ref r4), .unset, .unset, .unset, .unset] [(.ref r4), (.ref r6), (.ref b5), (.ref b5)])) (fun t k => ?_) ?_
        · show Steps p.tables e below (T6.setTop (mkF m 85 #[.val (.int xx), .val (.int fl), .val (.int cc0), .val (.int (0 : Int32)), .val (.int (0 : Int32)), .val (.int cd), .val (.ref r4), .unset, .unset, .unset, .unset] [(.ref r6), (.ref b5), (.ref b5)])) t
          refine XS.aload X6.here hx rfl (hb hby at_85) rfl rfl ?_
          exact k
        have f8 := A5.keep Kc6
        have f9 := (D5 (Or.inr (hw _ (List.mem_of_getElem? (i := 10) rfl))) (ty := (.object "java/lang/Integer")) (by decide) : Fld Z h5 b5 "com/example/durable_cron/durablecron/store/RequestOutcome" "statusCode" "Ljava/lang/Integer;" .null).keep Kc6 nin0
        have f10 := (D5 (Or.inr (hw _ (List.mem_of_getElem? (i := 12) rfl))) (ty := (.object "java/lang/String")) (by decide) : Fld Z h5 b5 "com/example/durable_cron/durablecron/store/RequestOutcome" "failure" "Ljava/lang/String;" .null).keep Kc6 nin0
        obtain ⟨_, _, ⟨T11, L11, c11, n11⟩, -, X11, ⟨Lc11, hQ11, l11, y11, z11⟩, st11⟩ := X6.specialBack hx (y := (⟨"com/example/durable_cron/durablecron/store/RequestOutcome", "<init>", "(Ljava/lang/Integer;Ljava/lang/String;)V"⟩ : MethodName)) rfl hown (mvT hZ (hw _ (List.mem_of_getElem? (i := 3) rfl))) (mvT hZ (hw _ (List.mem_of_getElem? (i := 4) rfl))) (mvT hZ (hw _ (List.mem_of_getElem? (i := 5) rfl))) (by decide) (backOf (W := 1) (own_rm1 l Z a0 hw [] b5 (.ref r6) (.ref r4) h6 n0 Z6 rfl rfl f8 f9 f10 g_b5) hZ (hw _ (List.mem_of_getElem? (i := 5) rfl)) (hw _ (List.mem_of_getElem? (i := 2) rfl)) (by decide) (by decide)) (g := (mkF m 87 #[.val (.int xx), .val (.int fl), .val (.int cc0), .val (.int (0 : Int32)), .val (.int (0 : Int32)), .val (.int cd), .val (.ref r4), .unset, .unset, .unset, .unset] [(.ref r4), (.ref r6), (.ref b5), (.ref b5)])) rfl (by rw [hml]; rfl) (Steps.refl _) (a := b5) (argsL := [(.ref r6), (.ref r4)]) (rest := [(.ref b5)]) (lenOf own_pd9 rfl) rfl (by show 2 * 0 + _ ≤ _; exact Nat.le_of_eq rfl) (hb hby at_87) (fun _ _ => ⟨rfl, e6, (by decide : 4 + 0 ≤ _), (by decide : 8 + 0 ≤ _)⟩)
        dsimp only [Pt.U, Pt.locs, Pt.cells, Pt.slots] at X11 l11 y11 z11 st11 hQ11
        subst l11 y11 z11
        obtain ⟨h11, e11⟩ : ∃ z, T11.heap = z := ⟨_, rfl⟩
        rw [e11] at hQ11
        obtain ⟨rfl, N11q, Kc11, Fc11⟩ := hQ11
        have N11 := Fr.app N6 N11q
        have K11 : Keep h0 h11 [] := K6.trans Kc11 (allS (Or.inr hz_b5) all0)
        have Z11 : n0 ≤ h11.size := Nat.le_trans Z6 Kc11.1
        have O11 := O6.keep Kc11 (allS g_b5 all0)
        refine own_tr (T' := T11) (g' := (mkF m 90 #[.val (.int xx), .val (.int fl), .val (.int cc0), .val (.int (0 : Int32)), .val (.int (0 : Int32)), .val (.int cd), .val (.ref r4), .unset, .unset, .unset, .unset] [(.ref b5)])) st11 ?_
        refine own_st (T' := T11) (g' := (mkF m 109 #[.val (.int xx), .val (.int fl), .val (.int cc0), .val (.int (0 : Int32)), .val (.int (0 : Int32)), .val (.int cd), .val (.ref r4), .val (.ref b5), .val (.long ((cd.toInt64) - (200 : Int64))), .second, .unset] [(.int (lcmpW ((cd.toInt64) - (200 : Int64)) (0 : Int64)))])) (fun t k => ?_) ?_
        · show Steps p.tables e below (T11.setTop (mkF m 90 #[.val (.int xx), .val (.int fl), .val (.int cc0), .val (.int (0 : Int32)), .val (.int (0 : Int32)), .val (.int cd), .val (.ref r4), .unset, .unset, .unset, .unset] [(.ref b5)])) t
          refine XS.astore X11.here hx rfl (hb hby at_90) rfl rfl (l' := #[.val (.int xx), .val (.int fl), .val (.int cc0), .val (.int (0 : Int32)), .val (.int (0 : Int32)), .val (.int cd), .val (.ref r4), .val (.ref b5), .unset, .unset, .unset]) rfl ?_
          refine XS.iload X11.here hx rfl (hb hby at_92) rfl ?_
          refine XS.i2l X11.here hx rfl (hb hby at_94) rfl ?_
          refine X11.ldc2Long hx hown (mvT hZ (hw _ (List.mem_of_getElem? (i := 13) rfl))) (g := (mkF m 95 #[.val (.int xx), .val (.int fl), .val (.int cc0), .val (.int (0 : Int32)), .val (.int (0 : Int32)), .val (.int cd), .val (.ref r4), .val (.ref b5), .unset, .unset, .unset] [(.long (cd.toInt64))])) rfl (hb hby at_95) _ ?_
          refine XS.lsub X11.here hx rfl (hb hby at_98) rfl ?_
          refine XS.lstore X11.here hx rfl (hb hby at_99) rfl (l' := #[.val (.int xx), .val (.int fl), .val (.int cc0), .val (.int (0 : Int32)), .val (.int (0 : Int32)), .val (.int cd), .val (.ref r4), .val (.ref b5), .val (.long ((cd.toInt64) - (200 : Int64))), .second, .unset]) rfl ?_
          refine XS.iloadN X11.here hx rfl (hb hby at_101) rfl ?_
          refine XS.ifNo X11.here hx rfl (hb hby at_102) rfl ((if0 _ _).trans (teq (rfl : (0 : Int32) = (0 : Int32))).2) ?_
          refine XS.lload X11.here hx rfl (hb hby at_105) rfl ?_
          refine XS.lconst X11.here hx rfl (hb hby at_107) ?_
          refine XS.lcmp X11.here hx rfl (hb hby at_108) rfl ?_
          exact k
        by_cases hc12 : ((cd.toInt64) - (200 : Int64)) < (0 : Int64)
        · refine own_st (T' := T11) (g' := (mkF m 130 #[.val (.int xx), .val (.int fl), .val (.int cc0), .val (.int (0 : Int32)), .val (.int (0 : Int32)), .val (.int cd), .val (.ref r4), .val (.ref b5), .val (.long ((cd.toInt64) - (200 : Int64))), .second, .val (.int (0 : Int32))] [(.ref b5)])) (fun t k => ?_) ?_
          · show Steps p.tables e below (T11.setTop (mkF m 109 #[.val (.int xx), .val (.int fl), .val (.int cc0), .val (.int (0 : Int32)), .val (.int (0 : Int32)), .val (.int cd), .val (.ref r4), .val (.ref b5), .val (.long ((cd.toInt64) - (200 : Int64))), .second, .unset] [(.int (lcmpW ((cd.toInt64) - (200 : Int64)) (0 : Int64)))])) t
            refine XS.ifYes X11.here hx rfl (pc0 := 109) (pc' := 125) rfl (hb hby at_109) rfl ((if0 _ _).trans (tlt ((lw_lt _ _).mpr hc12)).1) (by decide) (by decide) ?_
            refine XS.iconst X11.here hx rfl (hb hby at_125) ?_
            refine XS.istore X11.here hx rfl (hb hby at_126) rfl (l' := #[.val (.int xx), .val (.int fl), .val (.int cc0), .val (.int (0 : Int32)), .val (.int (0 : Int32)), .val (.int cd), .val (.ref r4), .val (.ref b5), .val (.long ((cd.toInt64) - (200 : Int64))), .second, .val (.int (0 : Int32))]) rfl ?_
            refine XS.aload X11.here hx rfl (hb hby at_128) rfl rfl ?_
            exact k
          have f13 := Fc6.keep Kc11 (ninS (Ne.symm ne_b5_r6) nin0)
          have f14 := Ec6.keep Kc11
          have f16 := f8.keep Kc11
          obtain ⟨cq15, kq15, q15a, q15b, q15c⟩ := isOf hZ e11 f16
          obtain ⟨_, _, ⟨T15, L15, c15, n15⟩, -, X15, ⟨Lc15, hQ15, l15, y15, z15⟩, st15⟩ := X11.virtualBack hx (y := (⟨"com/example/durable_cron/durablecron/store/RequestOutcome", "succeeded", "()Z"⟩ : MethodName)) (z := (⟨"com/example/durable_cron/durablecron/store/RequestOutcome", "succeeded", "()Z"⟩ : MethodName)) hown (mvT hZ (hw _ (List.mem_of_getElem? (i := 14) rfl))) (mvT hZ (hw _ (List.mem_of_getElem? (i := 15) rfl))) (notFace_of_selects (args := #[]) (mvT hZ (hw _ (List.mem_of_getElem? (i := 17) rfl)))) (mvT hZ (hw _ (List.mem_of_getElem? (i := 17) rfl))) (mvT hZ (hw _ (List.mem_of_getElem? (i := 16) rfl))) (by decide) (backOf (W := 0) (own_rm3y l Z a0 hw [] b5 r6 cd h11 n0 Z11 Fc11 f14 f13) hZ (hw _ (List.mem_of_getElem? (i := 18) rfl)) (hw _ (List.mem_of_getElem? (i := 2) rfl)) (by decide) (by decide)) q15a q15c (g := (mkF m 130 #[.val (.int xx), .val (.int fl), .val (.int cc0), .val (.int (0 : Int32)), .val (.int (0 : Int32)), .val (.int cd), .val (.ref r4), .val (.ref b5), .val (.long ((cd.toInt64) - (200 : Int64))), .second, .val (.int (0 : Int32))] [(.ref b5)])) rfl (by rw [hml]; rfl) (Steps.refl _) (argsL := []) (rest := []) (lenOf own_pd10 rfl) rfl (by show 2 * 0 + _ ≤ _; exact Nat.le_of_eq rfl) (hb hby at_130) (fun _ _ => ⟨rfl, e11, (by decide : 4 + 0 ≤ _), (by decide : 8 + 0 ≤ _)⟩)
          dsimp only [Pt.U, Pt.locs, Pt.cells, Pt.slots] at X15 l15 y15 z15 st15 hQ15
          subst l15 y15 z15
          obtain ⟨rfl, N15q, e15⟩ := hQ15
          have N15 := Fr.app N11 N15q
          refine own_tr (T' := T15) (g' := (mkF m 133 #[.val (.int xx), .val (.int fl), .val (.int cc0), .val (.int (0 : Int32)), .val (.int (0 : Int32)), .val (.int cd), .val (.ref r4), .val (.ref b5), .val (.long ((cd.toInt64) - (200 : Int64))), .second, .val (.int (0 : Int32))] [(.int (own_ok cd))])) st15 ?_
          have hG := own_ok_lo hc12
          refine own_st (T' := T15) (g' := (mkF m 143 #[.val (.int xx), .val (.int fl), .val (.int cc0), .val (.int (0 : Int32)), .val (.int (0 : Int32)), .val (.int cd), .val (.ref r4), .val (.ref b5), .val (.long ((cd.toInt64) - (200 : Int64))), .second, .val (.int (0 : Int32))] [(.int (1 : Int32))])) (fun t k => ?_) ?_
          · show Steps p.tables e below (T15.setTop (mkF m 133 #[.val (.int xx), .val (.int fl), .val (.int cc0), .val (.int (0 : Int32)), .val (.int (0 : Int32)), .val (.int cd), .val (.ref r4), .val (.ref b5), .val (.long ((cd.toInt64) - (200 : Int64))), .second, .val (.int (0 : Int32))] [(.int (own_ok cd))])) t
            refine XS.iload X15.here hx rfl (hb hby at_133) rfl ?_
            refine XS.icmpNo X15.here hx rfl (hb hby at_135) rfl (teq hG).2 ?_
            refine XS.iconst X15.here hx rfl (hb hby at_138) ?_
            refine XS.goto X15.here hx rfl (pc0 := 139) (pc' := 143) rfl (hb hby at_139) (by decide) (by decide) ?_
            exact k
          exact own_retN X15 hx Bd (t := .boolean) (by simp) rfl (hb hby at_143) e15 (⟨rfl, N15⟩) (by decide) (by decide)
        · refine own_st (T' := T11) (g' := (mkF m 118 #[.val (.int xx), .val (.int fl), .val (.int cc0), .val (.int (0 : Int32)), .val (.int (0 : Int32)), .val (.int cd), .val (.ref r4), .val (.ref b5), .val (.long ((cd.toInt64) - (200 : Int64))), .second, .unset] [(.int (lcmpW ((cd.toInt64) - (200 : Int64)) (100 : Int64)))])) (fun t k => ?_) ?_
          · show Steps p.tables e below (T11.setTop (mkF m 109 #[.val (.int xx), .val (.int fl), .val (.int cc0), .val (.int (0 : Int32)), .val (.int (0 : Int32)), .val (.int cd), .val (.ref r4), .val (.ref b5), .val (.long ((cd.toInt64) - (200 : Int64))), .second, .unset] [(.int (lcmpW ((cd.toInt64) - (200 : Int64)) (0 : Int64)))])) t
            refine XS.ifNo X11.here hx rfl (hb hby at_109) rfl ((if0 _ _).trans (flt (fun q => hc12 ((lw_lt _ _).mp q))).1) ?_
            refine XS.lload X11.here hx rfl (hb hby at_112) rfl ?_
            refine X11.ldc2Long hx hown (mvT hZ (hw _ (List.mem_of_getElem? (i := 73) rfl))) (g := (mkF m 114 #[.val (.int xx), .val (.int fl), .val (.int cc0), .val (.int (0 : Int32)), .val (.int (0 : Int32)), .val (.int cd), .val (.ref r4), .val (.ref b5), .val (.long ((cd.toInt64) - (200 : Int64))), .second, .unset] [(.long ((cd.toInt64) - (200 : Int64)))])) rfl (hb hby at_114) _ ?_
            refine XS.lcmp X11.here hx rfl (hb hby at_117) rfl ?_
            exact k
          by_cases hc17 : ((cd.toInt64) - (200 : Int64)) < (100 : Int64)
          · refine own_st (T' := T11) (g' := (mkF m 130 #[.val (.int xx), .val (.int fl), .val (.int cc0), .val (.int (0 : Int32)), .val (.int (0 : Int32)), .val (.int cd), .val (.ref r4), .val (.ref b5), .val (.long ((cd.toInt64) - (200 : Int64))), .second, .val (.int (1 : Int32))] [(.ref b5)])) (fun t k => ?_) ?_
            · show Steps p.tables e below (T11.setTop (mkF m 118 #[.val (.int xx), .val (.int fl), .val (.int cc0), .val (.int (0 : Int32)), .val (.int (0 : Int32)), .val (.int cd), .val (.ref r4), .val (.ref b5), .val (.long ((cd.toInt64) - (200 : Int64))), .second, .unset] [(.int (lcmpW ((cd.toInt64) - (200 : Int64)) (100 : Int64)))])) t
              refine XS.ifNo X11.here hx rfl (hb hby at_118) rfl ((if0 _ _).trans (tlt ((lw_lt _ _).mpr hc17)).2.1) ?_
              refine XS.iconst X11.here hx rfl (hb hby at_121) ?_
              refine XS.goto X11.here hx rfl (pc0 := 122) (pc' := 126) rfl (hb hby at_122) (by decide) (by decide) ?_
              refine XS.istore X11.here hx rfl (hb hby at_126) rfl (l' := #[.val (.int xx), .val (.int fl), .val (.int cc0), .val (.int (0 : Int32)), .val (.int (0 : Int32)), .val (.int cd), .val (.ref r4), .val (.ref b5), .val (.long ((cd.toInt64) - (200 : Int64))), .second, .val (.int (1 : Int32))]) rfl ?_
              refine XS.aload X11.here hx rfl (hb hby at_128) rfl rfl ?_
              exact k
            have f18 := Fc6.keep Kc11 (ninS (Ne.symm ne_b5_r6) nin0)
            have f19 := Ec6.keep Kc11
            have f21 := f8.keep Kc11
            obtain ⟨cq20, kq20, q20a, q20b, q20c⟩ := isOf hZ e11 f21
            obtain ⟨_, _, ⟨T20, L20, c20, n20⟩, -, X20, ⟨Lc20, hQ20, l20, y20, z20⟩, st20⟩ := X11.virtualBack hx (y := (⟨"com/example/durable_cron/durablecron/store/RequestOutcome", "succeeded", "()Z"⟩ : MethodName)) (z := (⟨"com/example/durable_cron/durablecron/store/RequestOutcome", "succeeded", "()Z"⟩ : MethodName)) hown (mvT hZ (hw _ (List.mem_of_getElem? (i := 14) rfl))) (mvT hZ (hw _ (List.mem_of_getElem? (i := 15) rfl))) (notFace_of_selects (args := #[]) (mvT hZ (hw _ (List.mem_of_getElem? (i := 17) rfl)))) (mvT hZ (hw _ (List.mem_of_getElem? (i := 17) rfl))) (mvT hZ (hw _ (List.mem_of_getElem? (i := 16) rfl))) (by decide) (backOf (W := 0) (own_rm3y l Z a0 hw [] b5 r6 cd h11 n0 Z11 Fc11 f19 f18) hZ (hw _ (List.mem_of_getElem? (i := 18) rfl)) (hw _ (List.mem_of_getElem? (i := 2) rfl)) (by decide) (by decide)) q20a q20c (g := (mkF m 130 #[.val (.int xx), .val (.int fl), .val (.int cc0), .val (.int (0 : Int32)), .val (.int (0 : Int32)), .val (.int cd), .val (.ref r4), .val (.ref b5), .val (.long ((cd.toInt64) - (200 : Int64))), .second, .val (.int (1 : Int32))] [(.ref b5)])) rfl (by rw [hml]; rfl) (Steps.refl _) (argsL := []) (rest := []) (lenOf own_pd10 rfl) rfl (by show 2 * 0 + _ ≤ _; exact Nat.le_of_eq rfl) (hb hby at_130) (fun _ _ => ⟨rfl, e11, (by decide : 4 + 0 ≤ _), (by decide : 8 + 0 ≤ _)⟩)
            dsimp only [Pt.U, Pt.locs, Pt.cells, Pt.slots] at X20 l20 y20 z20 st20 hQ20
            subst l20 y20 z20
            obtain ⟨rfl, N20q, e20⟩ := hQ20
            have N20 := Fr.app N11 N20q
            refine own_tr (T' := T20) (g' := (mkF m 133 #[.val (.int xx), .val (.int fl), .val (.int cc0), .val (.int (0 : Int32)), .val (.int (0 : Int32)), .val (.int cd), .val (.ref r4), .val (.ref b5), .val (.long ((cd.toInt64) - (200 : Int64))), .second, .val (.int (1 : Int32))] [(.int (own_ok cd))])) st20 ?_
            have hG := own_ok_in hc12 hc17
            refine own_st (T' := T20) (g' := (mkF m 143 #[.val (.int xx), .val (.int fl), .val (.int cc0), .val (.int (0 : Int32)), .val (.int (0 : Int32)), .val (.int cd), .val (.ref r4), .val (.ref b5), .val (.long ((cd.toInt64) - (200 : Int64))), .second, .val (.int (1 : Int32))] [(.int (1 : Int32))])) (fun t k => ?_) ?_
            · show Steps p.tables e below (T20.setTop (mkF m 133 #[.val (.int xx), .val (.int fl), .val (.int cc0), .val (.int (0 : Int32)), .val (.int (0 : Int32)), .val (.int cd), .val (.ref r4), .val (.ref b5), .val (.long ((cd.toInt64) - (200 : Int64))), .second, .val (.int (1 : Int32))] [(.int (own_ok cd))])) t
              refine XS.iload X20.here hx rfl (hb hby at_133) rfl ?_
              refine XS.icmpNo X20.here hx rfl (hb hby at_135) rfl (teq hG).2 ?_
              refine XS.iconst X20.here hx rfl (hb hby at_138) ?_
              refine XS.goto X20.here hx rfl (pc0 := 139) (pc' := 143) rfl (hb hby at_139) (by decide) (by decide) ?_
              exact k
            exact own_retN X20 hx Bd (t := .boolean) (by simp) rfl (hb hby at_143) e20 (⟨rfl, N20⟩) (by decide) (by decide)
          · refine own_st (T' := T11) (g' := (mkF m 130 #[.val (.int xx), .val (.int fl), .val (.int cc0), .val (.int (0 : Int32)), .val (.int (0 : Int32)), .val (.int cd), .val (.ref r4), .val (.ref b5), .val (.long ((cd.toInt64) - (200 : Int64))), .second, .val (.int (0 : Int32))] [(.ref b5)])) (fun t k => ?_) ?_
            · show Steps p.tables e below (T11.setTop (mkF m 118 #[.val (.int xx), .val (.int fl), .val (.int cc0), .val (.int (0 : Int32)), .val (.int (0 : Int32)), .val (.int cd), .val (.ref r4), .val (.ref b5), .val (.long ((cd.toInt64) - (200 : Int64))), .second, .unset] [(.int (lcmpW ((cd.toInt64) - (200 : Int64)) (100 : Int64)))])) t
              refine XS.ifYes X11.here hx rfl (pc0 := 118) (pc' := 125) rfl (hb hby at_118) rfl ((if0 _ _).trans (flt (fun q => hc17 ((lw_lt _ _).mp q))).2.1) (by decide) (by decide) ?_
              refine XS.iconst X11.here hx rfl (hb hby at_125) ?_
              refine XS.istore X11.here hx rfl (hb hby at_126) rfl (l' := #[.val (.int xx), .val (.int fl), .val (.int cc0), .val (.int (0 : Int32)), .val (.int (0 : Int32)), .val (.int cd), .val (.ref r4), .val (.ref b5), .val (.long ((cd.toInt64) - (200 : Int64))), .second, .val (.int (0 : Int32))]) rfl ?_
              refine XS.aload X11.here hx rfl (hb hby at_128) rfl rfl ?_
              exact k
            have f22 := Fc6.keep Kc11 (ninS (Ne.symm ne_b5_r6) nin0)
            have f23 := Ec6.keep Kc11
            have f25 := f8.keep Kc11
            obtain ⟨cq24, kq24, q24a, q24b, q24c⟩ := isOf hZ e11 f25
            obtain ⟨_, _, ⟨T24, L24, c24, n24⟩, -, X24, ⟨Lc24, hQ24, l24, y24, z24⟩, st24⟩ := X11.virtualBack hx (y := (⟨"com/example/durable_cron/durablecron/store/RequestOutcome", "succeeded", "()Z"⟩ : MethodName)) (z := (⟨"com/example/durable_cron/durablecron/store/RequestOutcome", "succeeded", "()Z"⟩ : MethodName)) hown (mvT hZ (hw _ (List.mem_of_getElem? (i := 14) rfl))) (mvT hZ (hw _ (List.mem_of_getElem? (i := 15) rfl))) (notFace_of_selects (args := #[]) (mvT hZ (hw _ (List.mem_of_getElem? (i := 17) rfl)))) (mvT hZ (hw _ (List.mem_of_getElem? (i := 17) rfl))) (mvT hZ (hw _ (List.mem_of_getElem? (i := 16) rfl))) (by decide) (backOf (W := 0) (own_rm3y l Z a0 hw [] b5 r6 cd h11 n0 Z11 Fc11 f23 f22) hZ (hw _ (List.mem_of_getElem? (i := 18) rfl)) (hw _ (List.mem_of_getElem? (i := 2) rfl)) (by decide) (by decide)) q24a q24c (g := (mkF m 130 #[.val (.int xx), .val (.int fl), .val (.int cc0), .val (.int (0 : Int32)), .val (.int (0 : Int32)), .val (.int cd), .val (.ref r4), .val (.ref b5), .val (.long ((cd.toInt64) - (200 : Int64))), .second, .val (.int (0 : Int32))] [(.ref b5)])) rfl (by rw [hml]; rfl) (Steps.refl _) (argsL := []) (rest := []) (lenOf own_pd10 rfl) rfl (by show 2 * 0 + _ ≤ _; exact Nat.le_of_eq rfl) (hb hby at_130) (fun _ _ => ⟨rfl, e11, (by decide : 4 + 0 ≤ _), (by decide : 8 + 0 ≤ _)⟩)
            dsimp only [Pt.U, Pt.locs, Pt.cells, Pt.slots] at X24 l24 y24 z24 st24 hQ24
            subst l24 y24 z24
            obtain ⟨rfl, N24q, e24⟩ := hQ24
            have N24 := Fr.app N11 N24q
            refine own_tr (T' := T24) (g' := (mkF m 133 #[.val (.int xx), .val (.int fl), .val (.int cc0), .val (.int (0 : Int32)), .val (.int (0 : Int32)), .val (.int cd), .val (.ref r4), .val (.ref b5), .val (.long ((cd.toInt64) - (200 : Int64))), .second, .val (.int (0 : Int32))] [(.int (own_ok cd))])) st24 ?_
            have hG := own_ok_hi hc17
            refine own_st (T' := T24) (g' := (mkF m 143 #[.val (.int xx), .val (.int fl), .val (.int cc0), .val (.int (0 : Int32)), .val (.int (0 : Int32)), .val (.int cd), .val (.ref r4), .val (.ref b5), .val (.long ((cd.toInt64) - (200 : Int64))), .second, .val (.int (0 : Int32))] [(.int (1 : Int32))])) (fun t k => ?_) ?_
            · show Steps p.tables e below (T24.setTop (mkF m 133 #[.val (.int xx), .val (.int fl), .val (.int cc0), .val (.int (0 : Int32)), .val (.int (0 : Int32)), .val (.int cd), .val (.ref r4), .val (.ref b5), .val (.long ((cd.toInt64) - (200 : Int64))), .second, .val (.int (0 : Int32))] [(.int (own_ok cd))])) t
              refine XS.iload X24.here hx rfl (hb hby at_133) rfl ?_
              refine XS.icmpNo X24.here hx rfl (hb hby at_135) rfl (teq hG).2 ?_
              refine XS.iconst X24.here hx rfl (hb hby at_138) ?_
              refine XS.goto X24.here hx rfl (pc0 := 139) (pc' := 143) rfl (hb hby at_139) (by decide) (by decide) ?_
              exact k
            exact own_retN X24 hx Bd (t := .boolean) (by simp) rfl (hb hby at_143) e24 (⟨rfl, N24⟩) (by decide) (by decide)
      by_cases hc26 : (fl &&& (4 : Int32)) = (0 : Int32)
      · refine own_st (T' := s₁) (g' := (mkF m 46 #[.val (.int xx), .val (.int fl), .val (.int cc0), .val (.int (0 : Int32)), .val (.int (0 : Int32)), .unset, .unset, .unset, .unset, .unset, .unset] [(.int xx)])) (fun t k => ?_) ?_
        · show Steps p.tables e below (s₁.setTop (mkF m 28 #[.val (.int xx), .val (.int fl), .val (.int cc0), .val (.int (0 : Int32)), .val (.int (0 : Int32)), .unset, .unset, .unset, .unset, .unset, .unset] [(.int (fl &&& (4 : Int32)))])) t
          refine XS.ifYes X0.here hx rfl (pc0 := 28) (pc' := 45) rfl (hb hby at_28) rfl ((if0 _ _).trans (teq hc26).1) (by decide) (by decide) ?_
          refine XS.iloadN X0.here hx rfl (hb hby at_45) rfl ?_
          exact k
        exact Jc _ s₁ _ X0 N0 e0
      · refine own_st (T' := s₁) (g' := (mkF m 46 #[.val (.int xx), .val (.int fl), .val (.int cc0), .val (.int (0 : Int32)), .val (.int (0 : Int32)), .unset, .unset, .unset, .unset, .unset, .unset] [(.int ((190 : Int32) + ((xx &&& (2147483647 : Int32)) % (120 : Int32))))])) (fun t k => ?_) ?_
        · show Steps p.tables e below (s₁.setTop (mkF m 28 #[.val (.int xx), .val (.int fl), .val (.int cc0), .val (.int (0 : Int32)), .val (.int (0 : Int32)), .unset, .unset, .unset, .unset, .unset, .unset] [(.int (fl &&& (4 : Int32)))])) t
          refine XS.ifNo X0.here hx rfl (hb hby at_28) rfl ((if0 _ _).trans (feq hc26).1) ?_
          refine XS.sipush X0.here hx rfl (hb hby at_31) ?_
          refine XS.iloadN X0.here hx rfl (hb hby at_34) rfl ?_
          refine X0.ldcInt hx hown (mvT hZ (hw _ (List.mem_of_getElem? (i := 19) rfl))) (g := (mkF m 35 #[.val (.int xx), .val (.int fl), .val (.int cc0), .val (.int (0 : Int32)), .val (.int (0 : Int32)), .unset, .unset, .unset, .unset, .unset, .unset] [(.int xx), (.int (190 : Int32))])) rfl (hb hby at_35) _ ?_
          refine XS.iand X0.here hx rfl (hb hby at_37) rfl ?_
          refine XS.bipush X0.here hx rfl (hb hby at_38) ?_
          refine iremM X0 hx rfl (hb hby at_40) rfl (by decide) ?_
          refine XS.iadd X0.here hx rfl (hb hby at_41) rfl ?_
          refine XS.goto X0.here hx rfl (pc0 := 42) (pc' := 46) rfl (hb hby at_42) (by decide) (by decide) ?_
          exact k
        exact Jc _ s₁ _ X0 N0 e0
    · refine own_st (T' := s₁) (g' := (mkF m 28 #[.val (.int xx), .val (.int fl), .val (.int cc0), .val (.int (0 : Int32)), .val (.int (1 : Int32)), .unset, .unset, .unset, .unset, .unset, .unset] [(.int (fl &&& (4 : Int32)))])) (fun t k => ?_) ?_
      · show Steps p.tables e below (s₁.setTop (mkF m 15 #[.val (.int xx), .val (.int fl), .val (.int cc0), .val (.int (0 : Int32)), .unset, .unset, .unset, .unset, .unset, .unset, .unset] [(.int (fl &&& (2 : Int32)))])) t
        refine XS.ifNo X0.here hx rfl (hb hby at_15) rfl ((if0 _ _).trans (feq hc2).1) ?_
        refine XS.iconst X0.here hx rfl (hb hby at_18) ?_
        refine XS.goto X0.here hx rfl (pc0 := 19) (pc' := 23) rfl (hb hby at_19) (by decide) (by decide) ?_
        refine XS.istore X0.here hx rfl (hb hby at_23) rfl (l' := #[.val (.int xx), .val (.int fl), .val (.int cc0), .val (.int (0 : Int32)), .val (.int (1 : Int32)), .unset, .unset, .unset, .unset, .unset, .unset]) rfl ?_
        refine XS.iloadN X0.here hx rfl (hb hby at_25) rfl ?_
        refine XS.iconst X0.here hx rfl (hb hby at_26) ?_
        refine XS.iand X0.here hx rfl (hb hby at_27) rfl ?_
        exact k
      have Jc : ∀ (cd : Int32) (T : State) (locs : List Loc), Stand p l e room_1 s m #[(.int xx), (.int fl), (.int cc0)] below meth c T locs 0 0 → Fr n0 locs → T.heap = h0 → own_Go p e below (own_K s (own_Q0 Z xx fl cc0 cs  ca  cc  h0 n0) room_1.cells room_1.slots) T (mkF m 46 #[.val (.int xx), .val (.int fl), .val (.int cc0), .val (.int (0 : Int32)), .val (.int (1 : Int32)), .unset, .unset, .unset, .unset, .unset, .unset] [(.int cd)]) := by
        intro cd T27 locs27 X27 N27 e27
        refine own_st (T' := T27) (g' := (mkF m 68 #[.val (.int xx), .val (.int fl), .val (.int cc0), .val (.int (0 : Int32)), .val (.int (1 : Int32)), .val (.int cd), .val .null, .unset, .unset, .unset, .unset] [])) (fun t k => ?_) ?_
        · show Steps p.tables e below (T27.setTop (mkF m 46 #[.val (.int xx), .val (.int fl), .val (.int cc0), .val (.int (0 : Int32)), .val (.int (1 : Int32)), .unset, .unset, .unset, .unset, .unset, .unset] [(.int cd)])) t
          refine XS.istore X27.here hx rfl (hb hby at_46) rfl (l' := #[.val (.int xx), .val (.int fl), .val (.int cc0), .val (.int (0 : Int32)), .val (.int (1 : Int32)), .val (.int cd), .unset, .unset, .unset, .unset, .unset]) rfl ?_
          refine XS.iload X27.here hx rfl (hb hby at_48) rfl ?_
          refine XS.ifNo X27.here hx rfl (hb hby at_50) rfl ((if0 _ _).trans (feq (by decide : ¬ ((1 : Int32) = (0 : Int32)))).1) ?_
          refine XS.aconstNull X27.here hx rfl (hb hby at_53) ?_
          refine XS.goto X27.here hx rfl (pc0 := 54) (pc' := 66) rfl (hb hby at_54) (by decide) (by decide) ?_
          refine XS.astore X27.here hx rfl (hb hby at_66) rfl rfl (l' := #[.val (.int xx), .val (.int fl), .val (.int cc0), .val (.int (0 : Int32)), .val (.int (1 : Int32)), .val (.int cd), .val .null, .unset, .unset, .unset, .unset]) rfl ?_
          exact k
        obtain ⟨T28, h28, X28, e28, E28, A28, D28, U28, st28⟩ := newO X27 hx hZ hown (hw _ (List.mem_of_getElem? (i := 0) rfl)) (hw _ (List.mem_of_getElem? (i := 1) rfl)) (hw _ (List.mem_of_getElem? (i := 2) rfl)) e27 (g := (mkF m 68 #[.val (.int xx), .val (.int fl), .val (.int cc0), .val (.int (0 : Int32)), .val (.int (1 : Int32)), .val (.int cd), .val .null, .unset, .unset, .unset, .unset] [])) rfl (hb hby at_68) (by decide) (by decide)
        obtain ⟨b28, g28⟩ : ∃ z, z = h0.size := ⟨_, rfl⟩
        rw [← g28] at A28 D28 U28 st28
        have sz28 : h0.size ≤ b28 := Nat.le_of_eq g28.symm
        have g_b28 : n0 ≤ b28 := Nat.le_trans Z0 sz28
        have hz_b28 : h0.size ≤ b28 := Nat.le_trans (Keep.refl h0 []).1 sz28
        have K28 : Keep h0 h28 [] := (Keep.refl h0 []).ext E28
        have Z28 : n0 ≤ h28.size := Nat.le_trans Z0 E28.1
        have O28 := O0.ext E28
        refine own_st (T' := T28) (g' := (mkF m 71 #[.val (.int xx), .val (.int fl), .val (.int cc0), .val (.int (0 : Int32)), .val (.int (1 : Int32)), .val (.int cd), .val .null, .unset, .unset, .unset, .unset] [(.ref b28)])) st28 ?_
        refine own_st (T' := T28) (g' := (mkF m 82 #[.val (.int xx), .val (.int fl), .val (.int cc0), .val (.int (0 : Int32)), .val (.int (1 : Int32)), .val (.int cd), .val .null, .unset, .unset, .unset, .unset] [(.int cd), (.ref b28), (.ref b28)])) (fun t k => ?_) ?_
        · show Steps p.tables e below (T28.setTop (mkF m 71 #[.val (.int xx), .val (.int fl), .val (.int cc0), .val (.int (0 : Int32)), .val (.int (1 : Int32)), .val (.int cd), .val .null, .unset, .unset, .unset, .unset] [(.ref b28)])) t
          refine XS.dup X28.here hx rfl (hb hby at_71) rfl rfl ?_
          refine XS.iloadN X28.here hx rfl (hb hby at_72) rfl ?_
          refine XS.ifYes X28.here hx rfl (pc0 := 73) (pc' := 80) rfl (hb hby at_73) rfl ((if0 _ _).trans (teq (rfl : (0 : Int32) = (0 : Int32))).1) (by decide) (by decide) ?_
          refine XS.iload X28.here hx rfl (hb hby at_80) rfl ?_
          exact k
        obtain ⟨_, _, ⟨T29, L29, c29, n29⟩, -, X29, ⟨Lc29, hQ29, l29, y29, z29⟩, st29⟩ := Jvm.LawKit.callS X28 hx (y := (⟨"java/lang/Integer", "valueOf", "(I)Ljava/lang/Integer;"⟩ : MethodName)) hown (mvT hZ (hw _ (List.mem_of_getElem? (i := 44) rfl))) (mvT hZ (hw _ (List.mem_of_getElem? (i := 45) rfl))) (mvT hZ (hw _ (List.mem_of_getElem? (i := 46) rfl))) (mvT hZ (hw _ (List.mem_of_getElem? (i := 47) rfl))) (by decide) (backOf (W := 2) (own_rm8 l Z a0 hw [] cd ca cc h28 n0 Z28 O28 S_hi S_ca B_c) hZ (hw _ (List.mem_of_getElem? (i := 47) rfl)) (hw _ (List.mem_of_getElem? (i := 46) rfl)) (by decide) (by decide)) (g := (mkF m 82 #[.val (.int xx), .val (.int fl), .val (.int cc0), .val (.int (0 : Int32)), .val (.int (1 : Int32)), .val (.int cd), .val .null, .unset, .unset, .unset, .unset] [(.int cd), (.ref b28), (.ref b28)])) rfl (by rw [hml]; rfl) (argsL := [(.int cd)]) (rest := [(.ref b28), (.ref b28)]) (lenOf own_pd8 rfl) rfl (by show 2 * 0 + _ ≤ _; exact Nat.le_of_eq rfl) (hb hby at_82) (fun _ _ => ⟨rfl, e28, (by decide : 1 + 1 ≤ _), (by decide : 2 + 1 ≤ _)⟩)
        dsimp only [Pt.U, Pt.locs, Pt.cells, Pt.slots] at X29 l29 y29 z29 st29 hQ29
        subst l29 y29 z29
        obtain ⟨h29, e29⟩ : ∃ z, T29.heap = z := ⟨_, rfl⟩
        rw [e29] at hQ29
        obtain ⟨r29, rfl, N29q, Kc29, Ec29, Fc29, hr29⟩ := hQ29
        have N29 := Fr.app N27 N29q
        have ne_b28_r29 : b28 ≠ r29 := own_ne_or hr29 g_b28 A28.lt
        have K29 : Keep h0 h29 [] := K28.trans Kc29 all0
        have Z29 : n0 ≤ h29.size := Nat.le_trans Z28 Kc29.1
        have O29 := O28.keep Kc29 all0
        refine own_st (T' := T29) (g' := (mkF m 85 #[.val (.int xx), .val (.int fl), .val (.int cc0), .val (.int (0 : Int32)), .val (.int (1 : Int32)), .val (.int cd), .val .null, .unset, .unset, .unset, .unset] [(.ref r29), (.ref b28), (.ref b28)])) st29 ?_
        refine own_st (T' := T29) (g' := (mkF m 87 #[.val (.int xx), .val (.int fl), .val (.int cc0), .val (.int (0 : Int32)), .val (.int (1 : Int32)), .val (.int cd), .val .null, .unset, .unset, .unset, .unset] [.null, (.ref r29), (.ref b28), (.ref b28)])) (fun t k => ?_) ?_
        · show Steps p.tables e below (T29.setTop (mkF m 85 #[.val (.int xx), .val (.int fl), .val (.int cc0), .val (.int (0 : Int32)), .val (.int (1 : Int32)), .val (.int cd), .val .null, .unset, .unset, .unset, .unset] [(.ref r29), (.ref b28), (.ref b28)])) t
          refine XS.aload X29.here hx rfl (hb hby at_85) rfl rfl ?_
          exact k
        have f30 := A28.keep Kc29
        have f31 := (D28 (Or.inr (hw _ (List.mem_of_getElem? (i := 10) rfl))) (ty := (.object "java/lang/Integer")) (by decide) : Fld Z h28 b28 "com/example/durable_cron/durablecron/store/RequestOutcome" "statusCode" "Ljava/lang/Integer;" .null).keep Kc29 nin0
        have f32 := (D28 (Or.inr (hw _ (List.mem_of_getElem? (i := 12) rfl))) (ty := (.object "java/lang/String")) (by decide) : Fld Z h28 b28 "com/example/durable_cron/durablecron/store/RequestOutcome" "failure" "Ljava/lang/String;" .null).keep Kc29 nin0
        obtain ⟨_, _, ⟨T33, L33, c33, n33⟩, -, X33, ⟨Lc33, hQ33, l33, y33, z33⟩, st33⟩ := X29.specialBack hx (y := (⟨"com/example/durable_cron/durablecron/store/RequestOutcome", "<init>", "(Ljava/lang/Integer;Ljava/lang/String;)V"⟩ : MethodName)) rfl hown (mvT hZ (hw _ (List.mem_of_getElem? (i := 3) rfl))) (mvT hZ (hw _ (List.mem_of_getElem? (i := 4) rfl))) (mvT hZ (hw _ (List.mem_of_getElem? (i := 5) rfl))) (by decide) (backOf (W := 1) (own_rm1 l Z a0 hw [] b28 (.ref r29) .null h29 n0 Z29 rfl rfl f30 f31 f32 g_b28) hZ (hw _ (List.mem_of_getElem? (i := 5) rfl)) (hw _ (List.mem_of_getElem? (i := 2) rfl)) (by decide) (by decide)) (g := (mkF m 87 #[.val (.int xx), .val (.int fl), .val (.int cc0), .val (.int (0 : Int32)), .val (.int (1 : Int32)), .val (.int cd), .val .null, .unset, .unset, .unset, .unset] [.null, (.ref r29), (.ref b28), (.ref b28)])) rfl (by rw [hml]; rfl) (Steps.refl _) (a := b28) (argsL := [(.ref r29), .null]) (rest := [(.ref b28)]) (lenOf own_pd9 rfl) rfl (by show 2 * 0 + _ ≤ _; exact Nat.le_of_eq rfl) (hb hby at_87) (fun _ _ => ⟨rfl, e29, (by decide : 2 + 0 ≤ _), (by decide : 3 + 0 ≤ _)⟩)
        dsimp only [Pt.U, Pt.locs, Pt.cells, Pt.slots] at X33 l33 y33 z33 st33 hQ33
        subst l33 y33 z33
        obtain ⟨h33, e33⟩ : ∃ z, T33.heap = z := ⟨_, rfl⟩
        rw [e33] at hQ33
        obtain ⟨rfl, N33q, Kc33, Fc33⟩ := hQ33
        have N33 := Fr.app N29 N33q
        have K33 : Keep h0 h33 [] := K29.trans Kc33 (allS (Or.inr hz_b28) all0)
        have Z33 : n0 ≤ h33.size := Nat.le_trans Z29 Kc33.1
        have O33 := O29.keep Kc33 (allS g_b28 all0)
        refine own_tr (T' := T33) (g' := (mkF m 90 #[.val (.int xx), .val (.int fl), .val (.int cc0), .val (.int (0 : Int32)), .val (.int (1 : Int32)), .val (.int cd), .val .null, .unset, .unset, .unset, .unset] [(.ref b28)])) st33 ?_
        refine own_st (T' := T33) (g' := (mkF m 109 #[.val (.int xx), .val (.int fl), .val (.int cc0), .val (.int (0 : Int32)), .val (.int (1 : Int32)), .val (.int cd), .val .null, .val (.ref b28), .val (.long ((cd.toInt64) - (200 : Int64))), .second, .unset] [(.int (lcmpW ((cd.toInt64) - (200 : Int64)) (0 : Int64)))])) (fun t k => ?_) ?_
        · show Steps p.tables e below (T33.setTop (mkF m 90 #[.val (.int xx), .val (.int fl), .val (.int cc0), .val (.int (0 : Int32)), .val (.int (1 : Int32)), .val (.int cd), .val .null, .unset, .unset, .unset, .unset] [(.ref b28)])) t
          refine XS.astore X33.here hx rfl (hb hby at_90) rfl rfl (l' := #[.val (.int xx), .val (.int fl), .val (.int cc0), .val (.int (0 : Int32)), .val (.int (1 : Int32)), .val (.int cd), .val .null, .val (.ref b28), .unset, .unset, .unset]) rfl ?_
          refine XS.iload X33.here hx rfl (hb hby at_92) rfl ?_
          refine XS.i2l X33.here hx rfl (hb hby at_94) rfl ?_
          refine X33.ldc2Long hx hown (mvT hZ (hw _ (List.mem_of_getElem? (i := 13) rfl))) (g := (mkF m 95 #[.val (.int xx), .val (.int fl), .val (.int cc0), .val (.int (0 : Int32)), .val (.int (1 : Int32)), .val (.int cd), .val .null, .val (.ref b28), .unset, .unset, .unset] [(.long (cd.toInt64))])) rfl (hb hby at_95) _ ?_
          refine XS.lsub X33.here hx rfl (hb hby at_98) rfl ?_
          refine XS.lstore X33.here hx rfl (hb hby at_99) rfl (l' := #[.val (.int xx), .val (.int fl), .val (.int cc0), .val (.int (0 : Int32)), .val (.int (1 : Int32)), .val (.int cd), .val .null, .val (.ref b28), .val (.long ((cd.toInt64) - (200 : Int64))), .second, .unset]) rfl ?_
          refine XS.iloadN X33.here hx rfl (hb hby at_101) rfl ?_
          refine XS.ifNo X33.here hx rfl (hb hby at_102) rfl ((if0 _ _).trans (teq (rfl : (0 : Int32) = (0 : Int32))).2) ?_
          refine XS.lload X33.here hx rfl (hb hby at_105) rfl ?_
          refine XS.lconst X33.here hx rfl (hb hby at_107) ?_
          refine XS.lcmp X33.here hx rfl (hb hby at_108) rfl ?_
          exact k
        by_cases hc34 : ((cd.toInt64) - (200 : Int64)) < (0 : Int64)
        · refine own_st (T' := T33) (g' := (mkF m 130 #[.val (.int xx), .val (.int fl), .val (.int cc0), .val (.int (0 : Int32)), .val (.int (1 : Int32)), .val (.int cd), .val .null, .val (.ref b28), .val (.long ((cd.toInt64) - (200 : Int64))), .second, .val (.int (0 : Int32))] [(.ref b28)])) (fun t k => ?_) ?_
          · show Steps p.tables e below (T33.setTop (mkF m 109 #[.val (.int xx), .val (.int fl), .val (.int cc0), .val (.int (0 : Int32)), .val (.int (1 : Int32)), .val (.int cd), .val .null, .val (.ref b28), .val (.long ((cd.toInt64) - (200 : Int64))), .second, .unset] [(.int (lcmpW ((cd.toInt64) - (200 : Int64)) (0 : Int64)))])) t
            refine XS.ifYes X33.here hx rfl (pc0 := 109) (pc' := 125) rfl (hb hby at_109) rfl ((if0 _ _).trans (tlt ((lw_lt _ _).mpr hc34)).1) (by decide) (by decide) ?_
            refine XS.iconst X33.here hx rfl (hb hby at_125) ?_
            refine XS.istore X33.here hx rfl (hb hby at_126) rfl (l' := #[.val (.int xx), .val (.int fl), .val (.int cc0), .val (.int (0 : Int32)), .val (.int (1 : Int32)), .val (.int cd), .val .null, .val (.ref b28), .val (.long ((cd.toInt64) - (200 : Int64))), .second, .val (.int (0 : Int32))]) rfl ?_
            refine XS.aload X33.here hx rfl (hb hby at_128) rfl rfl ?_
            exact k
          have f35 := Fc29.keep Kc33 (ninS (Ne.symm ne_b28_r29) nin0)
          have f36 := Ec29.keep Kc33
          have f38 := f30.keep Kc33
          obtain ⟨cq37, kq37, q37a, q37b, q37c⟩ := isOf hZ e33 f38
          obtain ⟨_, _, ⟨T37, L37, c37, n37⟩, -, X37, ⟨Lc37, hQ37, l37, y37, z37⟩, st37⟩ := X33.virtualBack hx (y := (⟨"com/example/durable_cron/durablecron/store/RequestOutcome", "succeeded", "()Z"⟩ : MethodName)) (z := (⟨"com/example/durable_cron/durablecron/store/RequestOutcome", "succeeded", "()Z"⟩ : MethodName)) hown (mvT hZ (hw _ (List.mem_of_getElem? (i := 14) rfl))) (mvT hZ (hw _ (List.mem_of_getElem? (i := 15) rfl))) (notFace_of_selects (args := #[]) (mvT hZ (hw _ (List.mem_of_getElem? (i := 17) rfl)))) (mvT hZ (hw _ (List.mem_of_getElem? (i := 17) rfl))) (mvT hZ (hw _ (List.mem_of_getElem? (i := 16) rfl))) (by decide) (backOf (W := 0) (own_rm3y l Z a0 hw [] b28 r29 cd h33 n0 Z33 Fc33 f36 f35) hZ (hw _ (List.mem_of_getElem? (i := 18) rfl)) (hw _ (List.mem_of_getElem? (i := 2) rfl)) (by decide) (by decide)) q37a q37c (g := (mkF m 130 #[.val (.int xx), .val (.int fl), .val (.int cc0), .val (.int (0 : Int32)), .val (.int (1 : Int32)), .val (.int cd), .val .null, .val (.ref b28), .val (.long ((cd.toInt64) - (200 : Int64))), .second, .val (.int (0 : Int32))] [(.ref b28)])) rfl (by rw [hml]; rfl) (Steps.refl _) (argsL := []) (rest := []) (lenOf own_pd10 rfl) rfl (by show 2 * 0 + _ ≤ _; exact Nat.le_of_eq rfl) (hb hby at_130) (fun _ _ => ⟨rfl, e33, (by decide : 2 + 0 ≤ _), (by decide : 3 + 0 ≤ _)⟩)
          dsimp only [Pt.U, Pt.locs, Pt.cells, Pt.slots] at X37 l37 y37 z37 st37 hQ37
          subst l37 y37 z37
          obtain ⟨rfl, N37q, e37⟩ := hQ37
          have N37 := Fr.app N33 N37q
          refine own_tr (T' := T37) (g' := (mkF m 133 #[.val (.int xx), .val (.int fl), .val (.int cc0), .val (.int (0 : Int32)), .val (.int (1 : Int32)), .val (.int cd), .val .null, .val (.ref b28), .val (.long ((cd.toInt64) - (200 : Int64))), .second, .val (.int (0 : Int32))] [(.int (own_ok cd))])) st37 ?_
          have hG := own_ok_lo hc34
          refine own_st (T' := T37) (g' := (mkF m 143 #[.val (.int xx), .val (.int fl), .val (.int cc0), .val (.int (0 : Int32)), .val (.int (1 : Int32)), .val (.int cd), .val .null, .val (.ref b28), .val (.long ((cd.toInt64) - (200 : Int64))), .second, .val (.int (0 : Int32))] [(.int (1 : Int32))])) (fun t k => ?_) ?_
          · show Steps p.tables e below (T37.setTop (mkF m 133 #[.val (.int xx), .val (.int fl), .val (.int cc0), .val (.int (0 : Int32)), .val (.int (1 : Int32)), .val (.int cd), .val .null, .val (.ref b28), .val (.long ((cd.toInt64) - (200 : Int64))), .second, .val (.int (0 : Int32))] [(.int (own_ok cd))])) t
            refine XS.iload X37.here hx rfl (hb hby at_133) rfl ?_
            refine XS.icmpNo X37.here hx rfl (hb hby at_135) rfl (teq hG).2 ?_
            refine XS.iconst X37.here hx rfl (hb hby at_138) ?_
            refine XS.goto X37.here hx rfl (pc0 := 139) (pc' := 143) rfl (hb hby at_139) (by decide) (by decide) ?_
            exact k
          exact own_retN X37 hx Bd (t := .boolean) (by simp) rfl (hb hby at_143) e37 (⟨rfl, N37⟩) (by decide) (by decide)
        · refine own_st (T' := T33) (g' := (mkF m 118 #[.val (.int xx), .val (.int fl), .val (.int cc0), .val (.int (0 : Int32)), .val (.int (1 : Int32)), .val (.int cd), .val .null, .val (.ref b28), .val (.long ((cd.toInt64) - (200 : Int64))), .second, .unset] [(.int (lcmpW ((cd.toInt64) - (200 : Int64)) (100 : Int64)))])) (fun t k => ?_) ?_
          · show Steps p.tables e below (T33.setTop (mkF m 109 #[.val (.int xx), .val (.int fl), .val (.int cc0), .val (.int (0 : Int32)), .val (.int (1 : Int32)), .val (.int cd), .val .null, .val (.ref b28), .val (.long ((cd.toInt64) - (200 : Int64))), .second, .unset] [(.int (lcmpW ((cd.toInt64) - (200 : Int64)) (0 : Int64)))])) t
            refine XS.ifNo X33.here hx rfl (hb hby at_109) rfl ((if0 _ _).trans (flt (fun q => hc34 ((lw_lt _ _).mp q))).1) ?_
            refine XS.lload X33.here hx rfl (hb hby at_112) rfl ?_
            refine X33.ldc2Long hx hown (mvT hZ (hw _ (List.mem_of_getElem? (i := 73) rfl))) (g := (mkF m 114 #[.val (.int xx), .val (.int fl), .val (.int cc0), .val (.int (0 : Int32)), .val (.int (1 : Int32)), .val (.int cd), .val .null, .val (.ref b28), .val (.long ((cd.toInt64) - (200 : Int64))), .second, .unset] [(.long ((cd.toInt64) - (200 : Int64)))])) rfl (hb hby at_114) _ ?_
            refine XS.lcmp X33.here hx rfl (hb hby at_117) rfl ?_
            exact k
          by_cases hc39 : ((cd.toInt64) - (200 : Int64)) < (100 : Int64)
          · refine own_st (T' := T33) (g' := (mkF m 130 #[.val (.int xx), .val (.int fl), .val (.int cc0), .val (.int (0 : Int32)), .val (.int (1 : Int32)), .val (.int cd), .val .null, .val (.ref b28), .val (.long ((cd.toInt64) - (200 : Int64))), .second, .val (.int (1 : Int32))] [(.ref b28)])) (fun t k => ?_) ?_
            · show Steps p.tables e below (T33.setTop (mkF m 118 #[.val (.int xx), .val (.int fl), .val (.int cc0), .val (.int (0 : Int32)), .val (.int (1 : Int32)), .val (.int cd), .val .null, .val (.ref b28), .val (.long ((cd.toInt64) - (200 : Int64))), .second, .unset] [(.int (lcmpW ((cd.toInt64) - (200 : Int64)) (100 : Int64)))])) t
              refine XS.ifNo X33.here hx rfl (hb hby at_118) rfl ((if0 _ _).trans (tlt ((lw_lt _ _).mpr hc39)).2.1) ?_
              refine XS.iconst X33.here hx rfl (hb hby at_121) ?_
              refine XS.goto X33.here hx rfl (pc0 := 122) (pc' := 126) rfl (hb hby at_122) (by decide) (by decide) ?_
              refine XS.istore X33.here hx rfl (hb hby at_126) rfl (l' := #[.val (.int xx), .val (.int fl), .val (.int cc0), .val (.int (0 : Int32)), .val (.int (1 : Int32)), .val (.int cd), .val .null, .val (.ref b28), .val (.long ((cd.toInt64) - (200 : Int64))), .second, .val (.int (1 : Int32))]) rfl ?_
              refine XS.aload X33.here hx rfl (hb hby at_128) rfl rfl ?_
              exact k
            have f40 := Fc29.keep Kc33 (ninS (Ne.symm ne_b28_r29) nin0)
            have f41 := Ec29.keep Kc33
            have f43 := f30.keep Kc33
            obtain ⟨cq42, kq42, q42a, q42b, q42c⟩ := isOf hZ e33 f43
            obtain ⟨_, _, ⟨T42, L42, c42, n42⟩, -, X42, ⟨Lc42, hQ42, l42, y42, z42⟩, st42⟩ := X33.virtualBack hx (y := (⟨"com/example/durable_cron/durablecron/store/RequestOutcome", "succeeded", "()Z"⟩ : MethodName)) (z := (⟨"com/example/durable_cron/durablecron/store/RequestOutcome", "succeeded", "()Z"⟩ : MethodName)) hown (mvT hZ (hw _ (List.mem_of_getElem? (i := 14) rfl))) (mvT hZ (hw _ (List.mem_of_getElem? (i := 15) rfl))) (notFace_of_selects (args := #[]) (mvT hZ (hw _ (List.mem_of_getElem? (i := 17) rfl)))) (mvT hZ (hw _ (List.mem_of_getElem? (i := 17) rfl))) (mvT hZ (hw _ (List.mem_of_getElem? (i := 16) rfl))) (by decide) (backOf (W := 0) (own_rm3y l Z a0 hw [] b28 r29 cd h33 n0 Z33 Fc33 f41 f40) hZ (hw _ (List.mem_of_getElem? (i := 18) rfl)) (hw _ (List.mem_of_getElem? (i := 2) rfl)) (by decide) (by decide)) q42a q42c (g := (mkF m 130 #[.val (.int xx), .val (.int fl), .val (.int cc0), .val (.int (0 : Int32)), .val (.int (1 : Int32)), .val (.int cd), .val .null, .val (.ref b28), .val (.long ((cd.toInt64) - (200 : Int64))), .second, .val (.int (1 : Int32))] [(.ref b28)])) rfl (by rw [hml]; rfl) (Steps.refl _) (argsL := []) (rest := []) (lenOf own_pd10 rfl) rfl (by show 2 * 0 + _ ≤ _; exact Nat.le_of_eq rfl) (hb hby at_130) (fun _ _ => ⟨rfl, e33, (by decide : 2 + 0 ≤ _), (by decide : 3 + 0 ≤ _)⟩)
            dsimp only [Pt.U, Pt.locs, Pt.cells, Pt.slots] at X42 l42 y42 z42 st42 hQ42
            subst l42 y42 z42
            obtain ⟨rfl, N42q, e42⟩ := hQ42
            have N42 := Fr.app N33 N42q
            refine own_tr (T' := T42) (g' := (mkF m 133 #[.val (.int xx), .val (.int fl), .val (.int cc0), .val (.int (0 : Int32)), .val (.int (1 : Int32)), .val (.int cd), .val .null, .val (.ref b28), .val (.long ((cd.toInt64) - (200 : Int64))), .second, .val (.int (1 : Int32))] [(.int (own_ok cd))])) st42 ?_
            have hG := own_ok_in hc34 hc39
            refine own_st (T' := T42) (g' := (mkF m 143 #[.val (.int xx), .val (.int fl), .val (.int cc0), .val (.int (0 : Int32)), .val (.int (1 : Int32)), .val (.int cd), .val .null, .val (.ref b28), .val (.long ((cd.toInt64) - (200 : Int64))), .second, .val (.int (1 : Int32))] [(.int (1 : Int32))])) (fun t k => ?_) ?_
            · show Steps p.tables e below (T42.setTop (mkF m 133 #[.val (.int xx), .val (.int fl), .val (.int cc0), .val (.int (0 : Int32)), .val (.int (1 : Int32)), .val (.int cd), .val .null, .val (.ref b28), .val (.long ((cd.toInt64) - (200 : Int64))), .second, .val (.int (1 : Int32))] [(.int (own_ok cd))])) t
              refine XS.iload X42.here hx rfl (hb hby at_133) rfl ?_
              refine XS.icmpNo X42.here hx rfl (hb hby at_135) rfl (teq hG).2 ?_
              refine XS.iconst X42.here hx rfl (hb hby at_138) ?_
              refine XS.goto X42.here hx rfl (pc0 := 139) (pc' := 143) rfl (hb hby at_139) (by decide) (by decide) ?_
              exact k
            exact own_retN X42 hx Bd (t := .boolean) (by simp) rfl (hb hby at_143) e42 (⟨rfl, N42⟩) (by decide) (by decide)
          · refine own_st (T' := T33) (g' := (mkF m 130 #[.val (.int xx), .val (.int fl), .val (.int cc0), .val (.int (0 : Int32)), .val (.int (1 : Int32)), .val (.int cd), .val .null, .val (.ref b28), .val (.long ((cd.toInt64) - (200 : Int64))), .second, .val (.int (0 : Int32))] [(.ref b28)])) (fun t k => ?_) ?_
            · show Steps p.tables e below (T33.setTop (mkF m 118 #[.val (.int xx), .val (.int fl), .val (.int cc0), .val (.int (0 : Int32)), .val (.int (1 : Int32)), .val (.int cd), .val .null, .val (.ref b28), .val (.long ((cd.toInt64) - (200 : Int64))), .second, .unset] [(.int (lcmpW ((cd.toInt64) - (200 : Int64)) (100 : Int64)))])) t
              refine XS.ifYes X33.here hx rfl (pc0 := 118) (pc' := 125) rfl (hb hby at_118) rfl ((if0 _ _).trans (flt (fun q => hc39 ((lw_lt _ _).mp q))).2.1) (by decide) (by decide) ?_
              refine XS.iconst X33.here hx rfl (hb hby at_125) ?_
              refine XS.istore X33.here hx rfl (hb hby at_126) rfl (l' := #[.val (.int xx), .val (.int fl), .val (.int cc0), .val (.int (0 : Int32)), .val (.int (1 : Int32)), .val (.int cd), .val .null, .val (.ref b28), .val (.long ((cd.toInt64) - (200 : Int64))), .second, .val (.int (0 : Int32))]) rfl ?_
              refine XS.aload X33.here hx rfl (hb hby at_128) rfl rfl ?_
              exact k
            have f44 := Fc29.keep Kc33 (ninS (Ne.symm ne_b28_r29) nin0)
            have f45 := Ec29.keep Kc33
            have f47 := f30.keep Kc33
            obtain ⟨cq46, kq46, q46a, q46b, q46c⟩ := isOf hZ e33 f47
            obtain ⟨_, _, ⟨T46, L46, c46, n46⟩, -, X46, ⟨Lc46, hQ46, l46, y46, z46⟩, st46⟩ := X33.virtualBack hx (y := (⟨"com/example/durable_cron/durablecron/store/RequestOutcome", "succeeded", "()Z"⟩ : MethodName)) (z := (⟨"com/example/durable_cron/durablecron/store/RequestOutcome", "succeeded", "()Z"⟩ : MethodName)) hown (mvT hZ (hw _ (List.mem_of_getElem? (i := 14) rfl))) (mvT hZ (hw _ (List.mem_of_getElem? (i := 15) rfl))) (notFace_of_selects (args := #[]) (mvT hZ (hw _ (List.mem_of_getElem? (i := 17) rfl)))) (mvT hZ (hw _ (List.mem_of_getElem? (i := 17) rfl))) (mvT hZ (hw _ (List.mem_of_getElem? (i := 16) rfl))) (by decide) (backOf (W := 0) (own_rm3y l Z a0 hw [] b28 r29 cd h33 n0 Z33 Fc33 f45 f44) hZ (hw _ (List.mem_of_getElem? (i := 18) rfl)) (hw _ (List.mem_of_getElem? (i := 2) rfl)) (by decide) (by decide)) q46a q46c (g := (mkF m 130 #[.val (.int xx), .val (.int fl), .val (.int cc0), .val (.int (0 : Int32)), .val (.int (1 : Int32)), .val (.int cd), .val .null, .val (.ref b28), .val (.long ((cd.toInt64) - (200 : Int64))), .second, .val (.int (0 : Int32))] [(.ref b28)])) rfl (by rw [hml]; rfl) (Steps.refl _) (argsL := []) (rest := []) (lenOf own_pd10 rfl) rfl (by show 2 * 0 + _ ≤ _; exact Nat.le_of_eq rfl) (hb hby at_130) (fun _ _ => ⟨rfl, e33, (by decide : 2 + 0 ≤ _), (by decide : 3 + 0 ≤ _)⟩)
            dsimp only [Pt.U, Pt.locs, Pt.cells, Pt.slots] at X46 l46 y46 z46 st46 hQ46
            subst l46 y46 z46
            obtain ⟨rfl, N46q, e46⟩ := hQ46
            have N46 := Fr.app N33 N46q
            refine own_tr (T' := T46) (g' := (mkF m 133 #[.val (.int xx), .val (.int fl), .val (.int cc0), .val (.int (0 : Int32)), .val (.int (1 : Int32)), .val (.int cd), .val .null, .val (.ref b28), .val (.long ((cd.toInt64) - (200 : Int64))), .second, .val (.int (0 : Int32))] [(.int (own_ok cd))])) st46 ?_
            have hG := own_ok_hi hc39
            refine own_st (T' := T46) (g' := (mkF m 143 #[.val (.int xx), .val (.int fl), .val (.int cc0), .val (.int (0 : Int32)), .val (.int (1 : Int32)), .val (.int cd), .val .null, .val (.ref b28), .val (.long ((cd.toInt64) - (200 : Int64))), .second, .val (.int (0 : Int32))] [(.int (1 : Int32))])) (fun t k => ?_) ?_
            · show Steps p.tables e below (T46.setTop (mkF m 133 #[.val (.int xx), .val (.int fl), .val (.int cc0), .val (.int (0 : Int32)), .val (.int (1 : Int32)), .val (.int cd), .val .null, .val (.ref b28), .val (.long ((cd.toInt64) - (200 : Int64))), .second, .val (.int (0 : Int32))] [(.int (own_ok cd))])) t
              refine XS.iload X46.here hx rfl (hb hby at_133) rfl ?_
              refine XS.icmpNo X46.here hx rfl (hb hby at_135) rfl (teq hG).2 ?_
              refine XS.iconst X46.here hx rfl (hb hby at_138) ?_
              refine XS.goto X46.here hx rfl (pc0 := 139) (pc' := 143) rfl (hb hby at_139) (by decide) (by decide) ?_
              exact k
            exact own_retN X46 hx Bd (t := .boolean) (by simp) rfl (hb hby at_143) e46 (⟨rfl, N46⟩) (by decide) (by decide)
      by_cases hc48 : (fl &&& (4 : Int32)) = (0 : Int32)
      · refine own_st (T' := s₁) (g' := (mkF m 46 #[.val (.int xx), .val (.int fl), .val (.int cc0), .val (.int (0 : Int32)), .val (.int (1 : Int32)), .unset, .unset, .unset, .unset, .unset, .unset] [(.int xx)])) (fun t k => ?_) ?_
        · show Steps p.tables e below (s₁.setTop (mkF m 28 #[.val (.int xx), .val (.int fl), .val (.int cc0), .val (.int (0 : Int32)), .val (.int (1 : Int32)), .unset, .unset, .unset, .unset, .unset, .unset] [(.int (fl &&& (4 : Int32)))])) t
          refine XS.ifYes X0.here hx rfl (pc0 := 28) (pc' := 45) rfl (hb hby at_28) rfl ((if0 _ _).trans (teq hc48).1) (by decide) (by decide) ?_
          refine XS.iloadN X0.here hx rfl (hb hby at_45) rfl ?_
          exact k
        exact Jc _ s₁ _ X0 N0 e0
      · refine own_st (T' := s₁) (g' := (mkF m 46 #[.val (.int xx), .val (.int fl), .val (.int cc0), .val (.int (0 : Int32)), .val (.int (1 : Int32)), .unset, .unset, .unset, .unset, .unset, .unset] [(.int ((190 : Int32) + ((xx &&& (2147483647 : Int32)) % (120 : Int32))))])) (fun t k => ?_) ?_
        · show Steps p.tables e below (s₁.setTop (mkF m 28 #[.val (.int xx), .val (.int fl), .val (.int cc0), .val (.int (0 : Int32)), .val (.int (1 : Int32)), .unset, .unset, .unset, .unset, .unset, .unset] [(.int (fl &&& (4 : Int32)))])) t
          refine XS.ifNo X0.here hx rfl (hb hby at_28) rfl ((if0 _ _).trans (feq hc48).1) ?_
          refine XS.sipush X0.here hx rfl (hb hby at_31) ?_
          refine XS.iloadN X0.here hx rfl (hb hby at_34) rfl ?_
          refine X0.ldcInt hx hown (mvT hZ (hw _ (List.mem_of_getElem? (i := 19) rfl))) (g := (mkF m 35 #[.val (.int xx), .val (.int fl), .val (.int cc0), .val (.int (0 : Int32)), .val (.int (1 : Int32)), .unset, .unset, .unset, .unset, .unset, .unset] [(.int xx), (.int (190 : Int32))])) rfl (hb hby at_35) _ ?_
          refine XS.iand X0.here hx rfl (hb hby at_37) rfl ?_
          refine XS.bipush X0.here hx rfl (hb hby at_38) ?_
          refine iremM X0 hx rfl (hb hby at_40) rfl (by decide) ?_
          refine XS.iadd X0.here hx rfl (hb hby at_41) rfl ?_
          refine XS.goto X0.here hx rfl (pc0 := 42) (pc' := 46) rfl (hb hby at_42) (by decide) (by decide) ?_
          exact k
        exact Jc _ s₁ _ X0 N0 e0
  · refine own_st (T' := s₁) (g' := (mkF m 15 #[.val (.int xx), .val (.int fl), .val (.int cc0), .val (.int (1 : Int32)), .unset, .unset, .unset, .unset, .unset, .unset, .unset] [(.int (fl &&& (2 : Int32)))])) (fun t k => ?_) ?_
    · show Steps p.tables e below (s₁.setTop (mkF m 3 #[.val (.int xx), .val (.int fl), .val (.int cc0), .unset, .unset, .unset, .unset, .unset, .unset, .unset, .unset] [(.int (fl &&& (1 : Int32)))])) t
      refine XS.ifNo X0.here hx rfl (hb hby at_3) rfl ((if0 _ _).trans (feq hc1).1) ?_
      refine XS.iconst X0.here hx rfl (hb hby at_6) ?_
      refine XS.goto X0.here hx rfl (pc0 := 7) (pc' := 11) rfl (hb hby at_7) (by decide) (by decide) ?_
      refine XS.istoreN X0.here hx rfl (hb hby at_11) rfl (l' := #[.val (.int xx), .val (.int fl), .val (.int cc0), .val (.int (1 : Int32)), .unset, .unset, .unset, .unset, .unset, .unset, .unset]) rfl ?_
      refine XS.iloadN X0.here hx rfl (hb hby at_12) rfl ?_
      refine XS.iconst X0.here hx rfl (hb hby at_13) ?_
      refine XS.iand X0.here hx rfl (hb hby at_14) rfl ?_
      exact k
    by_cases hc49 : (fl &&& (2 : Int32)) = (0 : Int32)
    · refine own_st (T' := s₁) (g' := (mkF m 28 #[.val (.int xx), .val (.int fl), .val (.int cc0), .val (.int (1 : Int32)), .val (.int (0 : Int32)), .unset, .unset, .unset, .unset, .unset, .unset] [(.int (fl &&& (4 : Int32)))])) (fun t k => ?_) ?_
      · show Steps p.tables e below (s₁.setTop (mkF m 15 #[.val (.int xx), .val (.int fl), .val (.int cc0), .val (.int (1 : Int32)), .unset, .unset, .unset, .unset, .unset, .unset, .unset] [(.int (fl &&& (2 : Int32)))])) t
        refine XS.ifYes X0.here hx rfl (pc0 := 15) (pc' := 22) rfl (hb hby at_15) rfl ((if0 _ _).trans (teq hc49).1) (by decide) (by decide) ?_
        refine XS.iconst X0.here hx rfl (hb hby at_22) ?_
        refine XS.istore X0.here hx rfl (hb hby at_23) rfl (l' := #[.val (.int xx), .val (.int fl), .val (.int cc0), .val (.int (1 : Int32)), .val (.int (0 : Int32)), .unset, .unset, .unset, .unset, .unset, .unset]) rfl ?_
        refine XS.iloadN X0.here hx rfl (hb hby at_25) rfl ?_
        refine XS.iconst X0.here hx rfl (hb hby at_26) ?_
        refine XS.iand X0.here hx rfl (hb hby at_27) rfl ?_
        exact k
      have Jc : ∀ (cd : Int32) (T : State) (locs : List Loc), Stand p l e room_1 s m #[(.int xx), (.int fl), (.int cc0)] below meth c T locs 0 0 → Fr n0 locs → T.heap = h0 → own_Go p e below (own_K s (own_Q0 Z xx fl cc0 cs  ca  cc  h0 n0) room_1.cells room_1.slots) T (mkF m 46 #[.val (.int xx), .val (.int fl), .val (.int cc0), .val (.int (1 : Int32)), .val (.int (0 : Int32)), .unset, .unset, .unset, .unset, .unset, .unset] [(.int cd)]) := by
        intro cd T50 locs50 X50 N50 e50
        refine own_st (T' := T50) (g' := (mkF m 63 #[.val (.int xx), .val (.int fl), .val (.int cc0), .val (.int (1 : Int32)), .val (.int (0 : Int32)), .val (.int cd), .unset, .unset, .unset, .unset, .unset] [(.int ((cc0 &&& (255 : Int32)).toUInt32.toUInt16.toUInt32.toInt32))])) (fun t k => ?_) ?_
        · show Steps p.tables e below (T50.setTop (mkF m 46 #[.val (.int xx), .val (.int fl), .val (.int cc0), .val (.int (1 : Int32)), .val (.int (0 : Int32)), .unset, .unset, .unset, .unset, .unset, .unset] [(.int cd)])) t
          refine XS.istore X50.here hx rfl (hb hby at_46) rfl (l' := #[.val (.int xx), .val (.int fl), .val (.int cc0), .val (.int (1 : Int32)), .val (.int (0 : Int32)), .val (.int cd), .unset, .unset, .unset, .unset, .unset]) rfl ?_
          refine XS.iload X50.here hx rfl (hb hby at_48) rfl ?_
          refine XS.ifYes X50.here hx rfl (pc0 := 50) (pc' := 57) rfl (hb hby at_50) rfl ((if0 _ _).trans (teq (rfl : (0 : Int32) = (0 : Int32))).1) (by decide) (by decide) ?_
          refine XS.iloadN X50.here hx rfl (hb hby at_57) rfl ?_
          refine XS.sipush X50.here hx rfl (hb hby at_58) ?_
          refine XS.iand X50.here hx rfl (hb hby at_61) rfl ?_
          refine XS.i2c X50.here hx rfl (hb hby at_62) rfl ?_
          exact k
        obtain ⟨_, _, ⟨T51, L51, c51, n51⟩, -, X51, ⟨Lc51, hQ51, l51, y51, z51⟩, st51⟩ := Jvm.LawKit.callS X50 hx (y := (⟨"java/lang/String", "valueOf", "(C)Ljava/lang/String;"⟩ : MethodName)) hown (mvT hZ (hw _ (List.mem_of_getElem? (i := 20) rfl))) (mvT hZ (hw _ (List.mem_of_getElem? (i := 21) rfl))) (mvT hZ (hw _ (List.mem_of_getElem? (i := 22) rfl))) (mvT hZ (hw _ (List.mem_of_getElem? (i := 23) rfl))) (by decide) (backOf (W := 0) (own_rm4 l Z a0 hw [] ((cc0 &&& (255 : Int32)).toUInt32.toUInt16.toUInt32.toInt32) cs h0 n0 Z0 O0 S_cs hcs (own_255 _)) hZ (hw _ (List.mem_of_getElem? (i := 23) rfl)) (hw _ (List.mem_of_getElem? (i := 22) rfl)) (by decide) (by decide)) (g := (mkF m 63 #[.val (.int xx), .val (.int fl), .val (.int cc0), .val (.int (1 : Int32)), .val (.int (0 : Int32)), .val (.int cd), .unset, .unset, .unset, .unset, .unset] [(.int ((cc0 &&& (255 : Int32)).toUInt32.toUInt16.toUInt32.toInt32))])) rfl (by rw [hml]; rfl) (argsL := [(.int ((cc0 &&& (255 : Int32)).toUInt32.toUInt16.toUInt32.toInt32))]) (rest := []) (lenOf own_pd7 rfl) rfl (by show 2 * 0 + _ ≤ _; exact Nat.le_of_eq rfl) (hb hby at_63) (fun _ _ => ⟨rfl, e50, (by decide : 0 + 2 ≤ _), (by decide : 0 + 5 ≤ _)⟩)
        dsimp only [Pt.U, Pt.locs, Pt.cells, Pt.slots] at X51 l51 y51 z51 st51 hQ51
        subst l51 y51 z51
        obtain ⟨h51, e51⟩ : ∃ z, T51.heap = z := ⟨_, rfl⟩
        rw [e51] at hQ51
        obtain ⟨r51, rfl, N51q, Kc51, g51, hz51, Ec51⟩ := hQ51
        have N51 := Fr.app N50 N51q
        have hz051 : h0.size ≤ r51 := Nat.le_trans (Keep.refl h0 []).1 hz51
        have K51 : Keep h0 h51 [] := (Keep.refl h0 []).trans Kc51 all0
        have Z51 : n0 ≤ h51.size := Nat.le_trans Z0 Kc51.1
        have O51 := O0.keep Kc51 all0
        refine own_st (T' := T51) (g' := (mkF m 66 #[.val (.int xx), .val (.int fl), .val (.int cc0), .val (.int (1 : Int32)), .val (.int (0 : Int32)), .val (.int cd), .unset, .unset, .unset, .unset, .unset] [(.ref r51)])) st51 ?_
        refine own_st (T' := T51) (g' := (mkF m 68 #[.val (.int xx), .val (.int fl), .val (.int cc0), .val (.int (1 : Int32)), .val (.int (0 : Int32)), .val (.int cd), .val (.ref r51), .unset, .unset, .unset, .unset] [])) (fun t k => ?_) ?_
        · show Steps p.tables e below (T51.setTop (mkF m 66 #[.val (.int xx), .val (.int fl), .val (.int cc0), .val (.int (1 : Int32)), .val (.int (0 : Int32)), .val (.int cd), .unset, .unset, .unset, .unset, .unset] [(.ref r51)])) t
          refine XS.astore X51.here hx rfl (hb hby at_66) rfl rfl (l' := #[.val (.int xx), .val (.int fl), .val (.int cc0), .val (.int (1 : Int32)), .val (.int (0 : Int32)), .val (.int cd), .val (.ref r51), .unset, .unset, .unset, .unset]) rfl ?_
          exact k
        obtain ⟨T52, h52, X52, e52, E52, A52, D52, U52, st52⟩ := newO X51 hx hZ hown (hw _ (List.mem_of_getElem? (i := 0) rfl)) (hw _ (List.mem_of_getElem? (i := 1) rfl)) (hw _ (List.mem_of_getElem? (i := 2) rfl)) e51 (g := (mkF m 68 #[.val (.int xx), .val (.int fl), .val (.int cc0), .val (.int (1 : Int32)), .val (.int (0 : Int32)), .val (.int cd), .val (.ref r51), .unset, .unset, .unset, .unset] [])) rfl (hb hby at_68) (by decide) (by decide)
        obtain ⟨b52, g52⟩ : ∃ z, z = h51.size := ⟨_, rfl⟩
        rw [← g52] at A52 D52 U52 st52
        have sz52 : h51.size ≤ b52 := Nat.le_of_eq g52.symm
        have ne_r51_b52 : r51 ≠ b52 := Nat.ne_of_lt (Nat.lt_of_lt_of_le Ec51.lt sz52)
        have g_b52 : n0 ≤ b52 := Nat.le_trans Z51 sz52
        have hz_b52 : h0.size ≤ b52 := Nat.le_trans K51.1 sz52
        have K52 : Keep h0 h52 [] := K51.ext E52
        have Z52 : n0 ≤ h52.size := Nat.le_trans Z51 E52.1
        have O52 := O51.ext E52
        refine own_st (T' := T52) (g' := (mkF m 71 #[.val (.int xx), .val (.int fl), .val (.int cc0), .val (.int (1 : Int32)), .val (.int (0 : Int32)), .val (.int cd), .val (.ref r51), .unset, .unset, .unset, .unset] [(.ref b52)])) st52 ?_
        refine own_st (T' := T52) (g' := (mkF m 87 #[.val (.int xx), .val (.int fl), .val (.int cc0), .val (.int (1 : Int32)), .val (.int (0 : Int32)), .val (.int cd), .val (.ref r51), .unset, .unset, .unset, .unset] [(.ref r51), .null, (.ref b52), (.ref b52)])) (fun t k => ?_) ?_
        · show Steps p.tables e below (T52.setTop (mkF m 71 #[.val (.int xx), .val (.int fl), .val (.int cc0), .val (.int (1 : Int32)), .val (.int (0 : Int32)), .val (.int cd), .val (.ref r51), .unset, .unset, .unset, .unset] [(.ref b52)])) t
          refine XS.dup X52.here hx rfl (hb hby at_71) rfl rfl ?_
          refine XS.iloadN X52.here hx rfl (hb hby at_72) rfl ?_
          refine XS.ifNo X52.here hx rfl (hb hby at_73) rfl ((if0 _ _).trans (feq (by decide : ¬ ((1 : Int32) = (0 : Int32)))).1) ?_
          refine XS.aconstNull X52.here hx rfl (hb hby at_76) ?_
          refine XS.goto X52.here hx rfl (pc0 := 77) (pc' := 85) rfl (hb hby at_77) (by decide) (by decide) ?_
          refine XS.aload X52.here hx rfl (hb hby at_85) rfl rfl ?_
          exact k
        obtain ⟨_, _, ⟨T53, L53, c53, n53⟩, -, X53, ⟨Lc53, hQ53, l53, y53, z53⟩, st53⟩ := X52.specialBack hx (y := (⟨"com/example/durable_cron/durablecron/store/RequestOutcome", "<init>", "(Ljava/lang/Integer;Ljava/lang/String;)V"⟩ : MethodName)) rfl hown (mvT hZ (hw _ (List.mem_of_getElem? (i := 3) rfl))) (mvT hZ (hw _ (List.mem_of_getElem? (i := 4) rfl))) (mvT hZ (hw _ (List.mem_of_getElem? (i := 5) rfl))) (by decide) (backOf (W := 1) (own_rm1 l Z a0 hw [] b52 .null (.ref r51) h52 n0 Z52 rfl rfl A52 (D52 (Or.inr (hw _ (List.mem_of_getElem? (i := 10) rfl))) (ty := (.object "java/lang/Integer")) (by decide) : Fld Z h52 b52 "com/example/durable_cron/durablecron/store/RequestOutcome" "statusCode" "Ljava/lang/Integer;" .null) (D52 (Or.inr (hw _ (List.mem_of_getElem? (i := 12) rfl))) (ty := (.object "java/lang/String")) (by decide) : Fld Z h52 b52 "com/example/durable_cron/durablecron/store/RequestOutcome" "failure" "Ljava/lang/String;" .null) g_b52) hZ (hw _ (List.mem_of_getElem? (i := 5) rfl)) (hw _ (List.mem_of_getElem? (i := 2) rfl)) (by decide) (by decide)) (g := (mkF m 87 #[.val (.int xx), .val (.int fl), .val (.int cc0), .val (.int (1 : Int32)), .val (.int (0 : Int32)), .val (.int cd), .val (.ref r51), .unset, .unset, .unset, .unset] [(.ref r51), .null, (.ref b52), (.ref b52)])) rfl (by rw [hml]; rfl) (Steps.refl _) (a := b52) (argsL := [.null, (.ref r51)]) (rest := [(.ref b52)]) (lenOf own_pd9 rfl) rfl (by show 2 * 0 + _ ≤ _; exact Nat.le_of_eq rfl) (hb hby at_87) (fun _ _ => ⟨rfl, e52, (by decide : 3 + 0 ≤ _), (by decide : 7 + 0 ≤ _)⟩)
        dsimp only [Pt.U, Pt.locs, Pt.cells, Pt.slots] at X53 l53 y53 z53 st53 hQ53
        subst l53 y53 z53
        obtain ⟨h53, e53⟩ : ∃ z, T53.heap = z := ⟨_, rfl⟩
        rw [e53] at hQ53
        obtain ⟨rfl, N53q, Kc53, Fc53⟩ := hQ53
        have N53 := Fr.app N51 N53q
        have K53 : Keep h0 h53 [] := K52.trans Kc53 (allS (Or.inr hz_b52) all0)
        have Z53 : n0 ≤ h53.size := Nat.le_trans Z52 Kc53.1
        have O53 := O52.keep Kc53 (allS g_b52 all0)
        refine own_tr (T' := T53) (g' := (mkF m 90 #[.val (.int xx), .val (.int fl), .val (.int cc0), .val (.int (1 : Int32)), .val (.int (0 : Int32)), .val (.int cd), .val (.ref r51), .unset, .unset, .unset, .unset] [(.ref b52)])) st53 ?_
        refine own_st (T' := T53) (g' := (mkF m 130 #[.val (.int xx), .val (.int fl), .val (.int cc0), .val (.int (1 : Int32)), .val (.int (0 : Int32)), .val (.int cd), .val (.ref r51), .val (.ref b52), .val (.long ((cd.toInt64) - (200 : Int64))), .second, .val (.int (0 : Int32))] [(.ref b52)])) (fun t k => ?_) ?_
        · show Steps p.tables e below (T53.setTop (mkF m 90 #[.val (.int xx), .val (.int fl), .val (.int cc0), .val (.int (1 : Int32)), .val (.int (0 : Int32)), .val (.int cd), .val (.ref r51), .unset, .unset, .unset, .unset] [(.ref b52)])) t
          refine XS.astore X53.here hx rfl (hb hby at_90) rfl rfl (l' := #[.val (.int xx), .val (.int fl), .val (.int cc0), .val (.int (1 : Int32)), .val (.int (0 : Int32)), .val (.int cd), .val (.ref r51), .val (.ref b52), .unset, .unset, .unset]) rfl ?_
          refine XS.iload X53.here hx rfl (hb hby at_92) rfl ?_
          refine XS.i2l X53.here hx rfl (hb hby at_94) rfl ?_
          refine X53.ldc2Long hx hown (mvT hZ (hw _ (List.mem_of_getElem? (i := 13) rfl))) (g := (mkF m 95 #[.val (.int xx), .val (.int fl), .val (.int cc0), .val (.int (1 : Int32)), .val (.int (0 : Int32)), .val (.int cd), .val (.ref r51), .val (.ref b52), .unset, .unset, .unset] [(.long (cd.toInt64))])) rfl (hb hby at_95) _ ?_
          refine XS.lsub X53.here hx rfl (hb hby at_98) rfl ?_
          refine XS.lstore X53.here hx rfl (hb hby at_99) rfl (l' := #[.val (.int xx), .val (.int fl), .val (.int cc0), .val (.int (1 : Int32)), .val (.int (0 : Int32)), .val (.int cd), .val (.ref r51), .val (.ref b52), .val (.long ((cd.toInt64) - (200 : Int64))), .second, .unset]) rfl ?_
          refine XS.iloadN X53.here hx rfl (hb hby at_101) rfl ?_
          refine XS.ifYes X53.here hx rfl (pc0 := 102) (pc' := 125) rfl (hb hby at_102) rfl ((if0 _ _).trans (feq (by decide : ¬ ((1 : Int32) = (0 : Int32)))).2) (by decide) (by decide) ?_
          refine XS.iconst X53.here hx rfl (hb hby at_125) ?_
          refine XS.istore X53.here hx rfl (hb hby at_126) rfl (l' := #[.val (.int xx), .val (.int fl), .val (.int cc0), .val (.int (1 : Int32)), .val (.int (0 : Int32)), .val (.int cd), .val (.ref r51), .val (.ref b52), .val (.long ((cd.toInt64) - (200 : Int64))), .second, .val (.int (0 : Int32))]) rfl ?_
          refine XS.aload X53.here hx rfl (hb hby at_128) rfl rfl ?_
          exact k
        have f55 := A52.keep Kc53
        obtain ⟨cq54, kq54, q54a, q54b, q54c⟩ := isOf hZ e53 f55
        obtain ⟨_, _, ⟨T54, L54, c54, n54⟩, -, X54, ⟨Lc54, hQ54, l54, y54, z54⟩, st54⟩ := X53.virtualBack hx (y := (⟨"com/example/durable_cron/durablecron/store/RequestOutcome", "succeeded", "()Z"⟩ : MethodName)) (z := (⟨"com/example/durable_cron/durablecron/store/RequestOutcome", "succeeded", "()Z"⟩ : MethodName)) hown (mvT hZ (hw _ (List.mem_of_getElem? (i := 14) rfl))) (mvT hZ (hw _ (List.mem_of_getElem? (i := 15) rfl))) (notFace_of_selects (args := #[]) (mvT hZ (hw _ (List.mem_of_getElem? (i := 17) rfl)))) (mvT hZ (hw _ (List.mem_of_getElem? (i := 17) rfl))) (mvT hZ (hw _ (List.mem_of_getElem? (i := 16) rfl))) (by decide) (backOf (W := 0) (own_rm3n l Z a0 hw [] b52 h53 n0 Z53 Fc53) hZ (hw _ (List.mem_of_getElem? (i := 18) rfl)) (hw _ (List.mem_of_getElem? (i := 2) rfl)) (by decide) (by decide)) q54a q54c (g := (mkF m 130 #[.val (.int xx), .val (.int fl), .val (.int cc0), .val (.int (1 : Int32)), .val (.int (0 : Int32)), .val (.int cd), .val (.ref r51), .val (.ref b52), .val (.long ((cd.toInt64) - (200 : Int64))), .second, .val (.int (0 : Int32))] [(.ref b52)])) rfl (by rw [hml]; rfl) (Steps.refl _) (argsL := []) (rest := []) (lenOf own_pd10 rfl) rfl (by show 2 * 0 + _ ≤ _; exact Nat.le_of_eq rfl) (hb hby at_130) (fun _ _ => ⟨rfl, e53, (by decide : 3 + 0 ≤ _), (by decide : 7 + 0 ≤ _)⟩)
        dsimp only [Pt.U, Pt.locs, Pt.cells, Pt.slots] at X54 l54 y54 z54 st54 hQ54
        subst l54 y54 z54
        obtain ⟨rfl, N54q, e54⟩ := hQ54
        have N54 := Fr.app N53 N54q
        refine own_tr (T' := T54) (g' := (mkF m 133 #[.val (.int xx), .val (.int fl), .val (.int cc0), .val (.int (1 : Int32)), .val (.int (0 : Int32)), .val (.int cd), .val (.ref r51), .val (.ref b52), .val (.long ((cd.toInt64) - (200 : Int64))), .second, .val (.int (0 : Int32))] [(.int (0 : Int32))])) st54 ?_
        refine own_st (T' := T54) (g' := (mkF m 143 #[.val (.int xx), .val (.int fl), .val (.int cc0), .val (.int (1 : Int32)), .val (.int (0 : Int32)), .val (.int cd), .val (.ref r51), .val (.ref b52), .val (.long ((cd.toInt64) - (200 : Int64))), .second, .val (.int (0 : Int32))] [(.int (1 : Int32))])) (fun t k => ?_) ?_
        · show Steps p.tables e below (T54.setTop (mkF m 133 #[.val (.int xx), .val (.int fl), .val (.int cc0), .val (.int (1 : Int32)), .val (.int (0 : Int32)), .val (.int cd), .val (.ref r51), .val (.ref b52), .val (.long ((cd.toInt64) - (200 : Int64))), .second, .val (.int (0 : Int32))] [(.int (0 : Int32))])) t
          refine XS.iload X54.here hx rfl (hb hby at_133) rfl ?_
          refine XS.icmpNo X54.here hx rfl (hb hby at_135) rfl (teq (rfl : (0 : Int32) = (0 : Int32))).2 ?_
          refine XS.iconst X54.here hx rfl (hb hby at_138) ?_
          refine XS.goto X54.here hx rfl (pc0 := 139) (pc' := 143) rfl (hb hby at_139) (by decide) (by decide) ?_
          exact k
        exact own_retN X54 hx Bd (t := .boolean) (by simp) rfl (hb hby at_143) e54 (⟨rfl, N54⟩) (by decide) (by decide)
      by_cases hc56 : (fl &&& (4 : Int32)) = (0 : Int32)
      · refine own_st (T' := s₁) (g' := (mkF m 46 #[.val (.int xx), .val (.int fl), .val (.int cc0), .val (.int (1 : Int32)), .val (.int (0 : Int32)), .unset, .unset, .unset, .unset, .unset, .unset] [(.int xx)])) (fun t k => ?_) ?_
        · show Steps p.tables e below (s₁.setTop (mkF m 28 #[.val (.int xx), .val (.int fl), .val (.int cc0), .val (.int (1 : Int32)), .val (.int (0 : Int32)), .unset, .unset, .unset, .unset, .unset, .unset] [(.int (fl &&& (4 : Int32)))])) t
          refine XS.ifYes X0.here hx rfl (pc0 := 28) (pc' := 45) rfl (hb hby at_28) rfl ((if0 _ _).trans (teq hc56).1) (by decide) (by decide) ?_
          refine XS.iloadN X0.here hx rfl (hb hby at_45) rfl ?_
          exact k
        exact Jc _ s₁ _ X0 N0 e0
      · refine own_st (T' := s₁) (g' := (mkF m 46 #[.val (.int xx), .val (.int fl), .val (.int cc0), .val (.int (1 : Int32)), .val (.int (0 : Int32)), .unset, .unset, .unset, .unset, .unset, .unset] [(.int ((190 : Int32) + ((xx &&& (2147483647 : Int32)) % (120 : Int32))))])) (fun t k => ?_) ?_
        · show Steps p.tables e below (s₁.setTop (mkF m 28 #[.val (.int xx), .val (.int fl), .val (.int cc0), .val (.int (1 : Int32)), .val (.int (0 : Int32)), .unset, .unset, .unset, .unset, .unset, .unset] [(.int (fl &&& (4 : Int32)))])) t
          refine XS.ifNo X0.here hx rfl (hb hby at_28) rfl ((if0 _ _).trans (feq hc56).1) ?_
          refine XS.sipush X0.here hx rfl (hb hby at_31) ?_
          refine XS.iloadN X0.here hx rfl (hb hby at_34) rfl ?_
          refine X0.ldcInt hx hown (mvT hZ (hw _ (List.mem_of_getElem? (i := 19) rfl))) (g := (mkF m 35 #[.val (.int xx), .val (.int fl), .val (.int cc0), .val (.int (1 : Int32)), .val (.int (0 : Int32)), .unset, .unset, .unset, .unset, .unset, .unset] [(.int xx), (.int (190 : Int32))])) rfl (hb hby at_35) _ ?_
          refine XS.iand X0.here hx rfl (hb hby at_37) rfl ?_
          refine XS.bipush X0.here hx rfl (hb hby at_38) ?_
          refine iremM X0 hx rfl (hb hby at_40) rfl (by decide) ?_
          refine XS.iadd X0.here hx rfl (hb hby at_41) rfl ?_
          refine XS.goto X0.here hx rfl (pc0 := 42) (pc' := 46) rfl (hb hby at_42) (by decide) (by decide) ?_
          exact k
        exact Jc _ s₁ _ X0 N0 e0
    · refine own_st (T' := s₁) (g' := (mkF m 28 #[.val (.int xx), .val (.int fl), .val (.int cc0), .val (.int (1 : Int32)), .val (.int (1 : Int32)), .unset, .unset, .unset, .unset, .unset, .unset] [(.int (fl &&& (4 : Int32)))])) (fun t k => ?_) ?_
      · show Steps p.tables e below (s₁.setTop (mkF m 15 #[.val (.int xx), .val (.int fl), .val (.int cc0), .val (.int (1 : Int32)), .unset, .unset, .unset, .unset, .unset, .unset, .unset] [(.int (fl &&& (2 : Int32)))])) t
        refine XS.ifNo X0.here hx rfl (hb hby at_15) rfl ((if0 _ _).trans (feq hc49).1) ?_
        refine XS.iconst X0.here hx rfl (hb hby at_18) ?_
        refine XS.goto X0.here hx rfl (pc0 := 19) (pc' := 23) rfl (hb hby at_19) (by decide) (by decide) ?_
        refine XS.istore X0.here hx rfl (hb hby at_23) rfl (l' := #[.val (.int xx), .val (.int fl), .val (.int cc0), .val (.int (1 : Int32)), .val (.int (1 : Int32)), .unset, .unset, .unset, .unset, .unset, .unset]) rfl ?_
        refine XS.iloadN X0.here hx rfl (hb hby at_25) rfl ?_
        refine XS.iconst X0.here hx rfl (hb hby at_26) ?_
        refine XS.iand X0.here hx rfl (hb hby at_27) rfl ?_
        exact k
      have Jc : ∀ (cd : Int32) (T : State) (locs : List Loc), Stand p l e room_1 s m #[(.int xx), (.int fl), (.int cc0)] below meth c T locs 0 0 → Fr n0 locs → T.heap = h0 → own_Go p e below (own_K s (own_Q0 Z xx fl cc0 cs  ca  cc  h0 n0) room_1.cells room_1.slots) T (mkF m 46 #[.val (.int xx), .val (.int fl), .val (.int cc0), .val (.int (1 : Int32)), .val (.int (1 : Int32)), .unset, .unset, .unset, .unset, .unset, .unset] [(.int cd)]) := by
        intro cd T57 locs57 X57 N57 e57
        refine own_st (T' := T57) (g' := (mkF m 68 #[.val (.int xx), .val (.int fl), .val (.int cc0), .val (.int (1 : Int32)), .val (.int (1 : Int32)), .val (.int cd), .val .null, .unset, .unset, .unset, .unset] [])) (fun t k => ?_) ?_
        · show Steps p.tables e below (T57.setTop (mkF m 46 #[.val (.int xx), .val (.int fl), .val (.int cc0), .val (.int (1 : Int32)), .val (.int (1 : Int32)), .unset, .unset, .unset, .unset, .unset, .unset] [(.int cd)])) t
          refine XS.istore X57.here hx rfl (hb hby at_46) rfl (l' := #[.val (.int xx), .val (.int fl), .val (.int cc0), .val (.int (1 : Int32)), .val (.int (1 : Int32)), .val (.int cd), .unset, .unset, .unset, .unset, .unset]) rfl ?_
          refine XS.iload X57.here hx rfl (hb hby at_48) rfl ?_
          refine XS.ifNo X57.here hx rfl (hb hby at_50) rfl ((if0 _ _).trans (feq (by decide : ¬ ((1 : Int32) = (0 : Int32)))).1) ?_
          refine XS.aconstNull X57.here hx rfl (hb hby at_53) ?_
          refine XS.goto X57.here hx rfl (pc0 := 54) (pc' := 66) rfl (hb hby at_54) (by decide) (by decide) ?_
          refine XS.astore X57.here hx rfl (hb hby at_66) rfl rfl (l' := #[.val (.int xx), .val (.int fl), .val (.int cc0), .val (.int (1 : Int32)), .val (.int (1 : Int32)), .val (.int cd), .val .null, .unset, .unset, .unset, .unset]) rfl ?_
          exact k
        obtain ⟨T58, h58, X58, e58, E58, A58, D58, U58, st58⟩ := newO X57 hx hZ hown (hw _ (List.mem_of_getElem? (i := 0) rfl)) (hw _ (List.mem_of_getElem? (i := 1) rfl)) (hw _ (List.mem_of_getElem? (i := 2) rfl)) e57 (g := (mkF m 68 #[.val (.int xx), .val (.int fl), .val (.int cc0), .val (.int (1 : Int32)), .val (.int (1 : Int32)), .val (.int cd), .val .null, .unset, .unset, .unset, .unset] [])) rfl (hb hby at_68) (by decide) (by decide)
        obtain ⟨b58, g58⟩ : ∃ z, z = h0.size := ⟨_, rfl⟩
        rw [← g58] at A58 D58 U58 st58
        have sz58 : h0.size ≤ b58 := Nat.le_of_eq g58.symm
        have g_b58 : n0 ≤ b58 := Nat.le_trans Z0 sz58
        have hz_b58 : h0.size ≤ b58 := Nat.le_trans (Keep.refl h0 []).1 sz58
        have K58 : Keep h0 h58 [] := (Keep.refl h0 []).ext E58
        have Z58 : n0 ≤ h58.size := Nat.le_trans Z0 E58.1
        have O58 := O0.ext E58
        refine own_st (T' := T58) (g' := (mkF m 71 #[.val (.int xx), .val (.int fl), .val (.int cc0), .val (.int (1 : Int32)), .val (.int (1 : Int32)), .val (.int cd), .val .null, .unset, .unset, .unset, .unset] [(.ref b58)])) st58 ?_
        refine own_st (T' := T58) (g' := (mkF m 87 #[.val (.int xx), .val (.int fl), .val (.int cc0), .val (.int (1 : Int32)), .val (.int (1 : Int32)), .val (.int cd), .val .null, .unset, .unset, .unset, .unset] [.null, .null, (.ref b58), (.ref b58)])) (fun t k => ?_) ?_
        · show Steps p.tables e below (T58.setTop (mkF m 71 #[.val (.int xx), .val (.int fl), .val (.int cc0), .val (.int (1 : Int32)), .val (.int (1 : Int32)), .val (.int cd), .val .null, .unset, .unset, .unset, .unset] [(.ref b58)])) t
          refine XS.dup X58.here hx rfl (hb hby at_71) rfl rfl ?_
          refine XS.iloadN X58.here hx rfl (hb hby at_72) rfl ?_
          refine XS.ifNo X58.here hx rfl (hb hby at_73) rfl ((if0 _ _).trans (feq (by decide : ¬ ((1 : Int32) = (0 : Int32)))).1) ?_
          refine XS.aconstNull X58.here hx rfl (hb hby at_76) ?_
          refine XS.goto X58.here hx rfl (pc0 := 77) (pc' := 85) rfl (hb hby at_77) (by decide) (by decide) ?_
          refine XS.aload X58.here hx rfl (hb hby at_85) rfl rfl ?_
          exact k
        obtain ⟨_, _, ⟨T59, L59, c59, n59⟩, -, X59, ⟨Lc59, hQ59, l59, y59, z59⟩, st59⟩ := X58.specialBack hx (y := (⟨"com/example/durable_cron/durablecron/store/RequestOutcome", "<init>", "(Ljava/lang/Integer;Ljava/lang/String;)V"⟩ : MethodName)) rfl hown (mvT hZ (hw _ (List.mem_of_getElem? (i := 3) rfl))) (mvT hZ (hw _ (List.mem_of_getElem? (i := 4) rfl))) (mvT hZ (hw _ (List.mem_of_getElem? (i := 5) rfl))) (by decide) (backOf (W := 1) (own_rm1 l Z a0 hw [] b58 .null .null h58 n0 Z58 rfl rfl A58 (D58 (Or.inr (hw _ (List.mem_of_getElem? (i := 10) rfl))) (ty := (.object "java/lang/Integer")) (by decide) : Fld Z h58 b58 "com/example/durable_cron/durablecron/store/RequestOutcome" "statusCode" "Ljava/lang/Integer;" .null) (D58 (Or.inr (hw _ (List.mem_of_getElem? (i := 12) rfl))) (ty := (.object "java/lang/String")) (by decide) : Fld Z h58 b58 "com/example/durable_cron/durablecron/store/RequestOutcome" "failure" "Ljava/lang/String;" .null) g_b58) hZ (hw _ (List.mem_of_getElem? (i := 5) rfl)) (hw _ (List.mem_of_getElem? (i := 2) rfl)) (by decide) (by decide)) (g := (mkF m 87 #[.val (.int xx), .val (.int fl), .val (.int cc0), .val (.int (1 : Int32)), .val (.int (1 : Int32)), .val (.int cd), .val .null, .unset, .unset, .unset, .unset] [.null, .null, (.ref b58), (.ref b58)])) rfl (by rw [hml]; rfl) (Steps.refl _) (a := b58) (argsL := [.null, .null]) (rest := [(.ref b58)]) (lenOf own_pd9 rfl) rfl (by show 2 * 0 + _ ≤ _; exact Nat.le_of_eq rfl) (hb hby at_87) (fun _ _ => ⟨rfl, e58, (by decide : 1 + 0 ≤ _), (by decide : 2 + 0 ≤ _)⟩)
        dsimp only [Pt.U, Pt.locs, Pt.cells, Pt.slots] at X59 l59 y59 z59 st59 hQ59
        subst l59 y59 z59
        obtain ⟨h59, e59⟩ : ∃ z, T59.heap = z := ⟨_, rfl⟩
        rw [e59] at hQ59
        obtain ⟨rfl, N59q, Kc59, Fc59⟩ := hQ59
        have N59 := Fr.app N57 N59q
        have K59 : Keep h0 h59 [] := K58.trans Kc59 (allS (Or.inr hz_b58) all0)
        have Z59 : n0 ≤ h59.size := Nat.le_trans Z58 Kc59.1
        have O59 := O58.keep Kc59 (allS g_b58 all0)
        refine own_tr (T' := T59) (g' := (mkF m 90 #[.val (.int xx), .val (.int fl), .val (.int cc0), .val (.int (1 : Int32)), .val (.int (1 : Int32)), .val (.int cd), .val .null, .unset, .unset, .unset, .unset] [(.ref b58)])) st59 ?_
        refine own_st (T' := T59) (g' := (mkF m 130 #[.val (.int xx), .val (.int fl), .val (.int cc0), .val (.int (1 : Int32)), .val (.int (1 : Int32)), .val (.int cd), .val .null, .val (.ref b58), .val (.long ((cd.toInt64) - (200 : Int64))), .second, .val (.int (0 : Int32))] [(.ref b58)])) (fun t k => ?_) ?_
        · show Steps p.tables e below (T59.setTop (mkF m 90 #[.val (.int xx), .val (.int fl), .val (.int cc0), .val (.int (1 : Int32)), .val (.int (1 : Int32)), .val (.int cd), .val .null, .unset, .unset, .unset, .unset] [(.ref b58)])) t
          refine XS.astore X59.here hx rfl (hb hby at_90) rfl rfl (l' := #[.val (.int xx), .val (.int fl), .val (.int cc0), .val (.int (1 : Int32)), .val (.int (1 : Int32)), .val (.int cd), .val .null, .val (.ref b58), .unset, .unset, .unset]) rfl ?_
          refine XS.iload X59.here hx rfl (hb hby at_92) rfl ?_
          refine XS.i2l X59.here hx rfl (hb hby at_94) rfl ?_
          refine X59.ldc2Long hx hown (mvT hZ (hw _ (List.mem_of_getElem? (i := 13) rfl))) (g := (mkF m 95 #[.val (.int xx), .val (.int fl), .val (.int cc0), .val (.int (1 : Int32)), .val (.int (1 : Int32)), .val (.int cd), .val .null, .val (.ref b58), .unset, .unset, .unset] [(.long (cd.toInt64))])) rfl (hb hby at_95) _ ?_
          refine XS.lsub X59.here hx rfl (hb hby at_98) rfl ?_
          refine XS.lstore X59.here hx rfl (hb hby at_99) rfl (l' := #[.val (.int xx), .val (.int fl), .val (.int cc0), .val (.int (1 : Int32)), .val (.int (1 : Int32)), .val (.int cd), .val .null, .val (.ref b58), .val (.long ((cd.toInt64) - (200 : Int64))), .second, .unset]) rfl ?_
          refine XS.iloadN X59.here hx rfl (hb hby at_101) rfl ?_
          refine XS.ifYes X59.here hx rfl (pc0 := 102) (pc' := 125) rfl (hb hby at_102) rfl ((if0 _ _).trans (feq (by decide : ¬ ((1 : Int32) = (0 : Int32)))).2) (by decide) (by decide) ?_
          refine XS.iconst X59.here hx rfl (hb hby at_125) ?_
          refine XS.istore X59.here hx rfl (hb hby at_126) rfl (l' := #[.val (.int xx), .val (.int fl), .val (.int cc0), .val (.int (1 : Int32)), .val (.int (1 : Int32)), .val (.int cd), .val .null, .val (.ref b58), .val (.long ((cd.toInt64) - (200 : Int64))), .second, .val (.int (0 : Int32))]) rfl ?_
          refine XS.aload X59.here hx rfl (hb hby at_128) rfl rfl ?_
          exact k
        have f61 := A58.keep Kc59
        obtain ⟨cq60, kq60, q60a, q60b, q60c⟩ := isOf hZ e59 f61
        obtain ⟨_, _, ⟨T60, L60, c60, n60⟩, -, X60, ⟨Lc60, hQ60, l60, y60, z60⟩, st60⟩ := X59.virtualBack hx (y := (⟨"com/example/durable_cron/durablecron/store/RequestOutcome", "succeeded", "()Z"⟩ : MethodName)) (z := (⟨"com/example/durable_cron/durablecron/store/RequestOutcome", "succeeded", "()Z"⟩ : MethodName)) hown (mvT hZ (hw _ (List.mem_of_getElem? (i := 14) rfl))) (mvT hZ (hw _ (List.mem_of_getElem? (i := 15) rfl))) (notFace_of_selects (args := #[]) (mvT hZ (hw _ (List.mem_of_getElem? (i := 17) rfl)))) (mvT hZ (hw _ (List.mem_of_getElem? (i := 17) rfl))) (mvT hZ (hw _ (List.mem_of_getElem? (i := 16) rfl))) (by decide) (backOf (W := 0) (own_rm3n l Z a0 hw [] b58 h59 n0 Z59 Fc59) hZ (hw _ (List.mem_of_getElem? (i := 18) rfl)) (hw _ (List.mem_of_getElem? (i := 2) rfl)) (by decide) (by decide)) q60a q60c (g := (mkF m 130 #[.val (.int xx), .val (.int fl), .val (.int cc0), .val (.int (1 : Int32)), .val (.int (1 : Int32)), .val (.int cd), .val .null, .val (.ref b58), .val (.long ((cd.toInt64) - (200 : Int64))), .second, .val (.int (0 : Int32))] [(.ref b58)])) rfl (by rw [hml]; rfl) (Steps.refl _) (argsL := []) (rest := []) (lenOf own_pd10 rfl) rfl (by show 2 * 0 + _ ≤ _; exact Nat.le_of_eq rfl) (hb hby at_130) (fun _ _ => ⟨rfl, e59, (by decide : 1 + 0 ≤ _), (by decide : 2 + 0 ≤ _)⟩)
        dsimp only [Pt.U, Pt.locs, Pt.cells, Pt.slots] at X60 l60 y60 z60 st60 hQ60
        subst l60 y60 z60
        obtain ⟨rfl, N60q, e60⟩ := hQ60
        have N60 := Fr.app N59 N60q
        refine own_tr (T' := T60) (g' := (mkF m 133 #[.val (.int xx), .val (.int fl), .val (.int cc0), .val (.int (1 : Int32)), .val (.int (1 : Int32)), .val (.int cd), .val .null, .val (.ref b58), .val (.long ((cd.toInt64) - (200 : Int64))), .second, .val (.int (0 : Int32))] [(.int (0 : Int32))])) st60 ?_
        refine own_st (T' := T60) (g' := (mkF m 143 #[.val (.int xx), .val (.int fl), .val (.int cc0), .val (.int (1 : Int32)), .val (.int (1 : Int32)), .val (.int cd), .val .null, .val (.ref b58), .val (.long ((cd.toInt64) - (200 : Int64))), .second, .val (.int (0 : Int32))] [(.int (1 : Int32))])) (fun t k => ?_) ?_
        · show Steps p.tables e below (T60.setTop (mkF m 133 #[.val (.int xx), .val (.int fl), .val (.int cc0), .val (.int (1 : Int32)), .val (.int (1 : Int32)), .val (.int cd), .val .null, .val (.ref b58), .val (.long ((cd.toInt64) - (200 : Int64))), .second, .val (.int (0 : Int32))] [(.int (0 : Int32))])) t
          refine XS.iload X60.here hx rfl (hb hby at_133) rfl ?_
          refine XS.icmpNo X60.here hx rfl (hb hby at_135) rfl (teq (rfl : (0 : Int32) = (0 : Int32))).2 ?_
          refine XS.iconst X60.here hx rfl (hb hby at_138) ?_
          refine XS.goto X60.here hx rfl (pc0 := 139) (pc' := 143) rfl (hb hby at_139) (by decide) (by decide) ?_
          exact k
        exact own_retN X60 hx Bd (t := .boolean) (by simp) rfl (hb hby at_143) e60 (⟨rfl, N60⟩) (by decide) (by decide)
      by_cases hc62 : (fl &&& (4 : Int32)) = (0 : Int32)
      · refine own_st (T' := s₁) (g' := (mkF m 46 #[.val (.int xx), .val (.int fl), .val (.int cc0), .val (.int (1 : Int32)), .val (.int (1 : Int32)), .unset, .unset, .unset, .unset, .unset, .unset] [(.int xx)])) (fun t k => ?_) ?_
        · show Steps p.tables e below (s₁.setTop (mkF m 28 #[.val (.int xx), .val (.int fl), .val (.int cc0), .val (.int (1 : Int32)), .val (.int (1 : Int32)), .unset, .unset, .unset, .unset, .unset, .unset] [(.int (fl &&& (4 : Int32)))])) t
          refine XS.ifYes X0.here hx rfl (pc0 := 28) (pc' := 45) rfl (hb hby at_28) rfl ((if0 _ _).trans (teq hc62).1) (by decide) (by decide) ?_
          refine XS.iloadN X0.here hx rfl (hb hby at_45) rfl ?_
          exact k
        exact Jc _ s₁ _ X0 N0 e0
      · refine own_st (T' := s₁) (g' := (mkF m 46 #[.val (.int xx), .val (.int fl), .val (.int cc0), .val (.int (1 : Int32)), .val (.int (1 : Int32)), .unset, .unset, .unset, .unset, .unset, .unset] [(.int ((190 : Int32) + ((xx &&& (2147483647 : Int32)) % (120 : Int32))))])) (fun t k => ?_) ?_
        · show Steps p.tables e below (s₁.setTop (mkF m 28 #[.val (.int xx), .val (.int fl), .val (.int cc0), .val (.int (1 : Int32)), .val (.int (1 : Int32)), .unset, .unset, .unset, .unset, .unset, .unset] [(.int (fl &&& (4 : Int32)))])) t
          refine XS.ifNo X0.here hx rfl (hb hby at_28) rfl ((if0 _ _).trans (feq hc62).1) ?_
          refine XS.sipush X0.here hx rfl (hb hby at_31) ?_
          refine XS.iloadN X0.here hx rfl (hb hby at_34) rfl ?_
          refine X0.ldcInt hx hown (mvT hZ (hw _ (List.mem_of_getElem? (i := 19) rfl))) (g := (mkF m 35 #[.val (.int xx), .val (.int fl), .val (.int cc0), .val (.int (1 : Int32)), .val (.int (1 : Int32)), .unset, .unset, .unset, .unset, .unset, .unset] [(.int xx), (.int (190 : Int32))])) rfl (hb hby at_35) _ ?_
          refine XS.iand X0.here hx rfl (hb hby at_37) rfl ?_
          refine XS.bipush X0.here hx rfl (hb hby at_38) ?_
          refine iremM X0 hx rfl (hb hby at_40) rfl (by decide) ?_
          refine XS.iadd X0.here hx rfl (hb hby at_41) rfl ?_
          refine XS.goto X0.here hx rfl (pc0 := 42) (pc' := 46) rfl (hb hby at_42) (by decide) (by decide) ?_
          exact k
        exact Jc _ s₁ _ X0 N0 e0
set_option maxRecDepth 65536 in
set_option maxHeartbeats 40000000 in
theorem own_comes_1 {Post : Tables → Env → Array Value → State → Outcome → State → Prop} (hpost : ∀ tb e args s v u, (limb_1_1.after args s (.returned v) u = true ∧ limb_1_2.after args s (.returned v) u = true ∧ True) → FrameEnd s (.returned v) u (Jvm.fieldLocs frame_1_writes args s ++ Jvm.arrayLocs frame_1_arrays args s ++ Jvm.staticLocs frame_1_statics s) 16 128 → Post tb e args s (.returned v) u) :
    ArmFor flags0 classFile x code maxLocals ret World_1 tables_1 room_1 Calls_1 rest_1 Pre_1 Post := by
  intro l hfl _ _ p e ha hc hk s m args below hf hA hF happ hP
  obtain ⟨hcalls, hrest, hpre⟩ := hP
  obtain ⟨-, -, -, hnamed, -, -, -, hat⟩ := (Spec.applies_iff hf).mp happ
  obtain ⟨hg, hn⟩ := and_e (Cond.before_iff.mp (show (Jvm.Cond.and given_1 narrow_1).before args s = true from hpre))
  obtain ⟨hg0, hgr⟩ := and_e hg
  obtain ⟨ha0, hgr⟩ := and_e hgr
  obtain ⟨ha1, hgr⟩ := and_e hgr
  have ha2 := hgr
  obtain ⟨w0, w1, w2, rfl⟩ : ∃ w0 w1 w2 : Value, args = #[w0, w1, w2] := by
    have hs : args.size = 3 := by simpa [Cond.value, given_1] using hg0
    obtain ⟨L⟩ := args
    match L, hs with
    | [w0, w1, w2], _ => exact ⟨w0, w1, w2, rfl⟩
  have hw := fun d (hd : d ∈ tables_1) => atoms_spec (ws := Jvm.Cond.code x code maxLocals ret :: tables_1) hat d (List.mem_cons_of_mem _ hd)
  have hfit : Fit s := fun {y c} hc i hi => by
    obtain ⟨ha, rfl⟩ := Array.getElem?_eq_some_iff.mp hc
    have q := List.all_eq_true.mp ((Array.all_eq_true_iff_forall_mem.mp hF) _ (Array.getElem_mem ha)) i (List.mem_range.mpr hi)
    simpa [Array.getElem?_eq_getElem hi] using q
  obtain ⟨hsets, hown0⟩ := atoms_of _ (rest_1_c_eq ▸ (show rest_1_c.before _ s = true from hrest))
  obtain ⟨i0, ei0⟩ := is_v ha0
  obtain rfl : w0 = (.int i0) := Option.some.inj ei0
  obtain ⟨i1, ei1⟩ := is_v ha1
  obtain rfl : w1 = (.int i1) := Option.some.inj ei1
  obtain ⟨i2, ei2⟩ := is_v ha2
  obtain rfl : w2 = (.int i2) := Option.some.inj ei2
  obtain ⟨cs, ev_cs⟩ := is_v (Cond.before_iff.mp (hsets _ (List.mem_of_getElem? (i := 1) rfl)))
  have S_cs := Sta.start ev_cs (Or.inl (hsets _ (List.mem_of_getElem? (i := 0) rfl)))
  have hcs : ¬ cs = (0 : Int32) := gotF (Cond.eq_ints ev_cs (Term.int_eval 0)) (by have q := not_v (Cond.before_iff.mp (hsets _ (List.mem_of_getElem? (i := 2) rfl))); exact q)
  have S_hi := own_sint (Cond.before_iff.mp (hsets _ (List.mem_of_getElem? (i := 12) rfl))) (Or.inl (hsets _ (List.mem_of_getElem? (i := 10) rfl)))
  have ar_c := Cond.before_iff.mp (hsets _ (List.mem_of_getElem? (i := 13) rfl))
  obtain ⟨ca, ev_c⟩ := arr_v ar_c
  obtain ⟨cc, A_c⟩ := Arr.start ev_c ar_c
  have S_ca : Sta s s.heap "java/lang/Integer$IntegerCache" "cache" "[Ljava/lang/Integer;" (.ref ca) := own_twin S_hi (hsets _ (List.mem_of_getElem? (i := 9) rfl)) (hsets _ (List.mem_of_getElem? (i := 11) rfl)) ev_c
  obtain ⟨lc, zc⟩ := own_len ev_c A_c (Cond.before_iff.mp (hsets _ (List.mem_of_getElem? (i := 15) rfl)))
  have B_c : Bxs s ca cc "java/lang/Integer" "I" (256 : Int32) (fun j => .int (j - 128)) := Bxs.start (fun _ => ev_c) A_c lc zc (by decide) (Cond.before_iff.mp (hsets _ (List.mem_of_getElem? (i := 16) rfl))) (fun X j hj hX => eqv_i (own_idx128 hj) hX)
  obtain ⟨n, o, h1, h2, h3, _, L, rfl, ⟨rfl, N⟩, hq⟩ := own_rm0 l s _ hw tables_1 i0 i1 i2 cs ca cc s.heap s.heap.size (Nat.le_refl _) (Old.start s) S_cs hcs S_hi S_ca B_c p e ha hc hk s m _ below hf ((Spec.applies_iff_loose hf).mp happ).1 ⟨rfl, State.Warmed39.refl s, rfl⟩ trivial
  refine ⟨n, _, h1, h2, h3, hpost _ _ _ _ _ _ ⟨Cond.after_iff.mpr rfl, Cond.after_iff.mpr (eq_i res_at (Term.int_eval (1)) rfl), trivial⟩ ⟨hq.1, hq.2.1, (hq.2.2.sift fun y hy => Or.inr (N y hy)).mono (by decide) (by decide)⟩⟩
theorem main_1_1 : Claimed_1_1 := own_comes_1 fun _ _ _ _ _ _ h hF => ⟨h.1, hF⟩
theorem main_1_2 : Claimed_1_2 := own_comes_1 fun _ _ _ _ _ _ h hF => ⟨h.2.1, hF⟩
end Jvm.Pilot.@@N@@
namespace Jvm.Pilot.@@N@@
open Jvm Jvm.ClassFile Sem Op Lib Jvm.Free Jvm.Stand Jvm.Pilot.@@N@@.Jvm.D
/-! MADE BY PROGRAM (witnessworld.py) out of the Statement's table words and the real class files: 21 classes; the members and pool entries that the words name. The judged class is class 1, her method 1. -/
namespace start1
open Jvm.ClassFile
def u (s : String) : CpInfo := .utf8 (stringToUtf16 s)
/-- a pool by its gaps: so many unusable entries, then the entry; so many at the end -/
def gap : Nat → List CpInfo → List CpInfo
  | 0, r => r
  | n + 1, r => .unusable :: gap n r
def poolList (es : List (Nat × CpInfo)) (last : Nat) : List CpInfo := es.foldr (fun e r => gap e.1 (e.2 :: r)) (gap last [])
def pool (es : List (Nat × CpInfo)) (last : Nat) : Array CpInfo := ⟨poolList es last⟩
def fileOf (pool : Array CpInfo) (this : Nat) (attrs : Array Attribute := #[]) (ms : Array MethodInfo := #[]) (fl : Nat := 33) (sup : Nat := 0) (ifs : Array Nat := #[]) (fds : Array FieldInfo := #[]) : ClassFile where
  minorVersion := 0
  majorVersion := 65
  constantPool := pool
  accessFlags := fl
  thisClass := this
  superClass := sup
  interfaces := ifs
  fields := fds
  methods := ms
  attributes := attrs
def plain (name : String) (sup : Option ClassId) : Class where
  name := name
  kind := .ordinary
  loader := none
  accessFlags := 33
  super := sup
  interfaces := #[]
  cf := none
  fields := #[]
  methods := #[]
  instanceTypes := #[]
  staticTypes := #[]
  resolved := #[]
  callSites := []
  init := .initialized
  statics := none
  mirror := none

def pool0 : Array CpInfo := pool [(5, u "<init>"), (0, u "()V"), (1, .class_ 10), (1, u "java/lang/Object")] 113

def k0c0 : Code := { maxStack := 0, maxLocals := 1, code := object_method_1_code, exceptionTable := #[], attributes := #[] }
def k0m0 : Method := { name := "<init>", desc := "()V", sig := { parameters := [], returnType := none }, accessFlags := 1, code := some k0c0 }
/-- java/lang/Object -/
def k0 : Class := { plain "java/lang/Object" none with
  accessFlags := 33
  interfaces := #[]
  cf := some (fileOf pool0 8 #[] #[{ accessFlags := 1, nameIndex := 5, descriptorIndex := 6, attributes := #[] }] 33 0 #[] #[])
  fields := #[]
  methods := #[k0m0]
  instanceTypes := #[]
  staticTypes := #[]
  resolved := Array.replicate 124 none
  statics := none }

def pool1 : Array CpInfo := pool [(2, .class_ 4), (1, u "java/lang/Object"), (0, u "<init>"), (0, u "()V"), (0, .integer 2147483647), (0, .methodref 9 10), (0, .class_ 11), (0, .nameAndType 12 13), (0, u "java/lang/String"), (0, u "valueOf"), (0, u "(C)Ljava/lang/String;"), (0, .class_ 15), (0, u "com/example/durable_cron/durablecron/store/RequestOutcome"), (0, .methodref 17 18), (0, .class_ 19), (0, .nameAndType 12 20), (0, u "java/lang/Integer"), (0, u "(I)Ljava/lang/Integer;"), (0, .methodref 14 22), (0, .nameAndType 5 23), (0, u "(Ljava/lang/Integer;Ljava/lang/String;)V"), (0, .long 200), (1, .long 100), (1, .methodref 14 29), (0, .nameAndType 30 31), (0, u "succeeded"), (0, u "()Z"), (0, .class_ 33), (0, u "com/example/durable_cron/durablecron/store/RequestOutcomeSucceededPinLaw"), (2, u "law"), (0, u "(III)Z")] 3

def k1m0 : Method := { name := "<init>", desc := "()V", sig := { parameters := [], returnType := none }, accessFlags := 1, code := none }
def k1c1 : Code := { maxStack := 4, maxLocals := 11, code := code, exceptionTable := #[], attributes := #[] }
def k1m1 : Method := { name := "law", desc := "(III)Z", sig := { parameters := [.int, .int, .int], returnType := some .boolean }, accessFlags := 9, code := some k1c1 }
/-- com/example/durable_cron/durablecron/store/RequestOutcomeSucceededPinLaw -/
def k1 : Class := { plain "com/example/durable_cron/durablecron/store/RequestOutcomeSucceededPinLaw" (some 0) with
  accessFlags := 49
  interfaces := #[]
  cf := some (fileOf pool1 32 #[] #[{ accessFlags := 1, nameIndex := 5, descriptorIndex := 6, attributes := #[] }, { accessFlags := 9, nameIndex := 36, descriptorIndex := 37, attributes := #[] }] 49 2 #[] #[])
  fields := #[]
  methods := #[k1m0, k1m1]
  instanceTypes := #[]
  staticTypes := #[]
  resolved := Array.replicate 41 none
  statics := none }

def pool2 : Array CpInfo := pool [(1, .methodref 2 3), (0, .class_ 4), (0, .nameAndType 5 6), (0, u "java/lang/Object"), (0, u "<init>"), (0, u "()V"), (0, .fieldref 8 9), (0, .class_ 10), (0, .nameAndType 11 12), (0, u "com/example/durable_cron/durablecron/store/RequestOutcome"), (0, u "statusCode"), (0, u "Ljava/lang/Integer;"), (0, .fieldref 8 14), (0, .nameAndType 15 16), (0, u "failure"), (0, u "Ljava/lang/String;"), (1, .class_ 20), (1, u "java/lang/Integer"), (2, .methodref 8 24), (0, .nameAndType 25 26), (0, u "isSuccess"), (0, u "(I)Z"), (8, u "(Ljava/lang/Integer;Ljava/lang/String;)V"), (0, .methodref 18 37), (0, .nameAndType 38 39), (0, u "intValue"), (0, u "()I"), (9, u "succeeded"), (0, u "()Z")] 21

def k2c0 : Code := { maxStack := 2, maxLocals := 3, code := prog_28_method_1_code, exceptionTable := #[], attributes := #[] }
def k2m0 : Method := { name := "<init>", desc := "(Ljava/lang/Integer;Ljava/lang/String;)V", sig := { parameters := [(.object "java/lang/Integer"), (.object "java/lang/String")], returnType := none }, accessFlags := 0, code := some k2c0 }
def k2c1 : Code := { maxStack := 1, maxLocals := 1, code := prog_28_method_4_code, exceptionTable := #[], attributes := #[] }
def k2m1 : Method := { name := "succeeded", desc := "()Z", sig := { parameters := [], returnType := some .boolean }, accessFlags := 1, code := some k2c1 }
def k2c2 : Code := { maxStack := 2, maxLocals := 1, code := prog_28_method_7_code, exceptionTable := #[], attributes := #[] }
def k2m2 : Method := { name := "isSuccess", desc := "(I)Z", sig := { parameters := [.int], returnType := some .boolean }, accessFlags := 10, code := some k2c2 }
/-- com/example/durable_cron/durablecron/store/RequestOutcome -/
def k2 : Class := { plain "com/example/durable_cron/durablecron/store/RequestOutcome" (some 0) with
  accessFlags := 33
  interfaces := #[]
  cf := some (fileOf pool2 8 #[] #[{ accessFlags := 0, nameIndex := 5, descriptorIndex := 35, attributes := #[] }, { accessFlags := 1, nameIndex := 49, descriptorIndex := 50, attributes := #[] }, { accessFlags := 10, nameIndex := 25, descriptorIndex := 26, attributes := #[] }] 33 2 #[] #[{ accessFlags := 18, nameIndex := 11, descriptorIndex := 12, attributes := #[] }, { accessFlags := 18, nameIndex := 15, descriptorIndex := 16, attributes := #[] }])
  fields := #[{ name := "statusCode", type := (.object "java/lang/Integer"), accessFlags := 18, slot := 0, constantValue := 0 }, { name := "failure", type := (.object "java/lang/String"), accessFlags := 18, slot := 1, constantValue := 0 }]
  methods := #[k2m0, k2m1, k2m2]
  instanceTypes := #[(.object "java/lang/Integer"), (.object "java/lang/String")]
  staticTypes := #[]
  resolved := Array.replicate 72 none
  statics := none }

def pool3 : Array CpInfo := pool [(1, .class_ 2), (0, u "java/io/Serializable"), (0, .class_ 4), (0, u "java/lang/Object")] 2

/-- java/io/Serializable -/
def k3 : Class := { plain "java/io/Serializable" (some 0) with
  accessFlags := 1537
  interfaces := #[]
  cf := some (fileOf pool3 1 #[] #[] 1537 3 #[] #[])
  fields := #[]
  methods := #[]
  instanceTypes := #[]
  staticTypes := #[]
  resolved := Array.replicate 7 none
  statics := none }

def pool4 : Array CpInfo := pool [(1, .class_ 2), (0, u "java/lang/Comparable"), (0, .class_ 4), (0, u "java/lang/Object")] 7

/-- java/lang/Comparable -/
def k4 : Class := { plain "java/lang/Comparable" (some 0) with
  accessFlags := 1537
  interfaces := #[]
  cf := some (fileOf pool4 1 #[] #[] 1537 3 #[] #[])
  fields := #[]
  methods := #[]
  instanceTypes := #[]
  staticTypes := #[]
  resolved := Array.replicate 12 none
  statics := none }

def pool5 : Array CpInfo := pool [(2, .class_ 4), (1, u "java/lang/CharSequence"), (42, .class_ 48), (0, u "java/lang/CharSequence$1CodePointIterator"), (10, .class_ 60), (0, u "java/lang/CharSequence$1CharIterator"), (5, .class_ 67), (0, u "java/lang/Object")] 63

/-- java/lang/CharSequence -/
def k5 : Class := { plain "java/lang/CharSequence" (some 0) with
  accessFlags := 1537
  interfaces := #[]
  cf := some (fileOf pool5 2 #[.nestMembers #[47, 59]] #[] 1537 66 #[] #[])
  fields := #[]
  methods := #[]
  instanceTypes := #[]
  staticTypes := #[]
  resolved := Array.replicate 131 none
  statics := none }

def pool6 : Array CpInfo := pool [(1, .class_ 2), (0, u "java/lang/constant/Constable"), (0, .class_ 4), (0, u "java/lang/Object")] 6

/-- java/lang/constant/Constable -/
def k6 : Class := { plain "java/lang/constant/Constable" (some 0) with
  accessFlags := 1537
  interfaces := #[]
  cf := some (fileOf pool6 1 #[] #[] 1537 3 #[] #[])
  fields := #[]
  methods := #[]
  instanceTypes := #[]
  staticTypes := #[]
  resolved := Array.replicate 11 none
  statics := none }

def pool7 : Array CpInfo := pool [(1, .class_ 2), (0, u "java/lang/constant/ConstantDesc"), (0, .class_ 4), (0, u "java/lang/Object")] 32

/-- java/lang/constant/ConstantDesc -/
def k7 : Class := { plain "java/lang/constant/ConstantDesc" (some 0) with
  accessFlags := 1537
  interfaces := #[]
  cf := some (fileOf pool7 1 #[] #[] 1537 3 #[] #[])
  fields := #[]
  methods := #[]
  instanceTypes := #[]
  staticTypes := #[]
  resolved := Array.replicate 37 none
  statics := none }

def pool8 : Array CpInfo := pool [(1, .methodref 2 3), (0, .class_ 4), (0, .nameAndType 5 6), (0, u "java/lang/Object"), (0, u "<init>"), (0, u "()V"), (2, .fieldref 10 11), (0, .class_ 12), (0, .nameAndType 13 14), (0, u "java/lang/String"), (0, u "value"), (0, u "[B"), (0, .fieldref 10 16), (0, .nameAndType 17 18), (0, u "coder"), (0, u "B"), (2, u "hash"), (0, u "I"), (2, u "hashIsZero"), (0, u "Z"), (11, .fieldref 10 39), (0, .nameAndType 40 26), (0, u "COMPACT_STRINGS"), (12, u "toBytes"), (53, .class_ 109), (1, u "java/lang/StringLatin1"), (99, .methodref 10 210), (0, .nameAndType 5 211), (0, u "([BB)V"), (157, u "(C)Z"), (205, .class_ 576), (0, u "java/lang/CharSequence"), (22, u "CASE_INSENSITIVE_ORDER"), (0, u "Ljava/util/Comparator;"), (181, u "valueOf"), (0, u "(C)Ljava/lang/String;"), (231, .methodref 107 1016), (0, .nameAndType 1017 369), (0, u "canEncode"), (0, .methodref 107 1019), (0, .nameAndType 53 1020), (0, u "(C)[B"), (80, u "serialPersistentFields"), (0, u "[Ljava/io/ObjectStreamField;"), (0, .class_ 1104), (0, u "java/lang/String$CaseInsensitiveComparator"), (1, .class_ 1107), (0, u "java/io/Serializable"), (0, .class_ 1109), (0, u "java/lang/Comparable"), (0, .class_ 1111), (0, u "java/lang/constant/Constable"), (0, .class_ 1113), (0, u "java/lang/constant/ConstantDesc"), (2, u "serialVersionUID"), (0, u "J"), (3, u "REPL"), (0, u "C"), (2, u "LATIN1"), (1, u "UTF16")] 323

def k8m0 : Method := { name := "<init>", desc := "()V", sig := { parameters := [], returnType := none }, accessFlags := 1, code := none }
def k8c1 : Code := { maxStack := 4, maxLocals := 1, code := jdk_42_method_139_code, exceptionTable := #[], attributes := #[] }
def k8m1 : Method := { name := "valueOf", desc := "(C)Ljava/lang/String;", sig := { parameters := [.char], returnType := some (.object "java/lang/String") }, accessFlags := 9, code := some k8c1 }
def k8c2 : Code := { maxStack := 2, maxLocals := 3, code := jdk_42_method_151_code, exceptionTable := #[], attributes := #[] }
def k8m2 : Method := { name := "<init>", desc := "([BB)V", sig := { parameters := [(.array .byte), .byte], returnType := none }, accessFlags := 0, code := some k8c2 }
/-- java/lang/String -/
def k8 : Class := { plain "java/lang/String" (some 0) with
  accessFlags := 49
  interfaces := #[3, 4, 5, 6, 7]
  cf := some (fileOf pool8 10 #[.nestMembers #[1103]] #[{ accessFlags := 1, nameIndex := 5, descriptorIndex := 6, attributes := #[] }, { accessFlags := 9, nameIndex := 782, descriptorIndex := 783, attributes := #[] }, { accessFlags := 0, nameIndex := 5, descriptorIndex := 211, attributes := #[] }] 49 2 #[1106, 1108, 575, 1110, 1112] #[{ accessFlags := 18, nameIndex := 13, descriptorIndex := 14, attributes := #[] }, { accessFlags := 18, nameIndex := 17, descriptorIndex := 18, attributes := #[] }, { accessFlags := 2, nameIndex := 21, descriptorIndex := 22, attributes := #[] }, { accessFlags := 2, nameIndex := 25, descriptorIndex := 26, attributes := #[] }, { accessFlags := 26, nameIndex := 1116, descriptorIndex := 1117, attributes := #[] }, { accessFlags := 24, nameIndex := 40, descriptorIndex := 26, attributes := #[] }, { accessFlags := 26, nameIndex := 1101, descriptorIndex := 1102, attributes := #[] }, { accessFlags := 26, nameIndex := 1121, descriptorIndex := 1122, attributes := #[] }, { accessFlags := 25, nameIndex := 599, descriptorIndex := 600, attributes := #[] }, { accessFlags := 24, nameIndex := 1125, descriptorIndex := 18, attributes := #[] }, { accessFlags := 24, nameIndex := 1127, descriptorIndex := 18, attributes := #[] }])
  fields := #[{ name := "value", type := (.array .byte), accessFlags := 18, slot := 0, constantValue := 0 }, { name := "coder", type := .byte, accessFlags := 18, slot := 1, constantValue := 0 }, { name := "hash", type := .int, accessFlags := 2, slot := 2, constantValue := 0 }, { name := "hashIsZero", type := .boolean, accessFlags := 2, slot := 3, constantValue := 0 }, { name := "serialVersionUID", type := .long, accessFlags := 26, slot := 0, constantValue := 0 }, { name := "COMPACT_STRINGS", type := .boolean, accessFlags := 24, slot := 1, constantValue := 0 }, { name := "serialPersistentFields", type := (.array (.object "java/io/ObjectStreamField")), accessFlags := 26, slot := 2, constantValue := 0 }, { name := "REPL", type := .char, accessFlags := 26, slot := 3, constantValue := 0 }, { name := "CASE_INSENSITIVE_ORDER", type := (.object "java/util/Comparator"), accessFlags := 25, slot := 4, constantValue := 0 }, { name := "LATIN1", type := .byte, accessFlags := 24, slot := 5, constantValue := 0 }, { name := "UTF16", type := .byte, accessFlags := 24, slot := 6, constantValue := 0 }]
  methods := #[k8m0, k8m1, k8m2]
  instanceTypes := #[(.array .byte), .byte, .int, .boolean]
  staticTypes := #[.long, .boolean, (.array (.object "java/io/ObjectStreamField")), .char, (.object "java/util/Comparator"), .byte, .byte]
  resolved := Array.replicate 1451 none
  statics := some 0 }

def pool9 : Array CpInfo := pool [(4, .class_ 6), (1, u "java/lang/Object"), (0, u "<init>"), (0, u "()V"), (5, .class_ 16), (1, u "java/lang/StringLatin1"), (73, u "canEncode"), (14, u "(C)Z"), (15, u "$assertionsDisabled"), (0, u "Z"), (98, .class_ 223), (1, u "java/lang/StringLatin1$LinesSpliterator"), (156, u "toBytes"), (1, u "(C)[B"), (7, .class_ 391), (0, u "java/lang/StringLatin1$CharsSpliterator")] 3

def k9m0 : Method := { name := "<init>", desc := "()V", sig := { parameters := [], returnType := none }, accessFlags := 0, code := none }
def k9c1 : Code := { maxStack := 2, maxLocals := 1, code := jdk_43_method_3_code, exceptionTable := #[], attributes := #[] }
def k9m1 : Method := { name := "canEncode", desc := "(C)Z", sig := { parameters := [.char], returnType := some .boolean }, accessFlags := 9, code := some k9c1 }
def k9c2 : Code := { maxStack := 4, maxLocals := 1, code := jdk_43_method_46_code, exceptionTable := #[], attributes := #[] }
def k9m2 : Method := { name := "toBytes", desc := "(C)[B", sig := { parameters := [.char], returnType := some (.array .byte) }, accessFlags := 9, code := some k9c2 }
/-- java/lang/StringLatin1 -/
def k9 : Class := { plain "java/lang/StringLatin1" (some 0) with
  accessFlags := 48
  interfaces := #[]
  cf := some (fileOf pool9 14 #[.nestMembers #[390, 221]] #[{ accessFlags := 0, nameIndex := 7, descriptorIndex := 8, attributes := #[] }, { accessFlags := 9, nameIndex := 90, descriptorIndex := 105, attributes := #[] }, { accessFlags := 9, nameIndex := 380, descriptorIndex := 382, attributes := #[] }] 48 4 #[] #[{ accessFlags := 4120, nameIndex := 121, descriptorIndex := 122, attributes := #[] }])
  fields := #[{ name := "$assertionsDisabled", type := .boolean, accessFlags := 4120, slot := 0, constantValue := 0 }]
  methods := #[k9m0, k9m1, k9m2]
  instanceTypes := #[]
  staticTypes := #[.boolean]
  resolved := Array.replicate 395 none
  statics := none }

def pool10 : Array CpInfo := pool [(1, .methodref 2 3), (0, .class_ 4), (0, .nameAndType 5 6), (0, u "java/lang/Object"), (0, u "<init>"), (0, u "()V"), (1, .class_ 10), (1, u "java/lang/Number"), (2, .class_ 14), (0, u "java/io/Serializable"), (0, u "serialVersionUID"), (0, u "J")] 20

def k10c0 : Code := { maxStack := 1, maxLocals := 1, code := jdk_18_method_1_code, exceptionTable := #[], attributes := #[] }
def k10m0 : Method := { name := "<init>", desc := "()V", sig := { parameters := [], returnType := none }, accessFlags := 1, code := some k10c0 }
/-- java/lang/Number -/
def k10 : Class := { plain "java/lang/Number" (some 0) with
  accessFlags := 1057
  interfaces := #[3]
  cf := some (fileOf pool10 8 #[] #[{ accessFlags := 1, nameIndex := 5, descriptorIndex := 6, attributes := #[] }] 1057 2 #[13] #[{ accessFlags := 26, nameIndex := 15, descriptorIndex := 16, attributes := #[] }])
  fields := #[{ name := "serialVersionUID", type := .long, accessFlags := 26, slot := 0, constantValue := 0 }]
  methods := #[k10m0]
  instanceTypes := #[]
  staticTypes := #[.long]
  resolved := Array.replicate 37 none
  statics := none }

def pool11 : Array CpInfo := pool [(1, .class_ 2), (0, u "java/lang/Integer"), (16, u "digits"), (0, u "[C"), (46, u "<init>"), (17, u "DigitOnes"), (0, u "[B"), (2, u "DigitTens"), (10, .nameAndType 67 101), (0, u "()V"), (19, u "()I"), (65, u "valueOf"), (0, u "(I)Ljava/lang/Integer;"), (0, .class_ 190), (0, u "java/lang/Integer$IntegerCache"), (0, .fieldref 189 192), (0, .nameAndType 193 194), (0, u "high"), (0, u "I"), (0, .fieldref 189 196), (0, .nameAndType 197 198), (0, u "cache"), (0, u "[Ljava/lang/Integer;"), (0, .methodref 1 200), (0, .nameAndType 67 201), (0, u "(I)V"), (0, .methodref 203 100), (0, .class_ 204), (0, u "java/lang/Number"), (0, .fieldref 1 206), (0, .nameAndType 207 194), (0, u "value"), (5, u "intValue"), (88, u "TYPE"), (0, u "Ljava/lang/Class;"), (0, .class_ 305), (0, u "java/lang/Comparable"), (0, .class_ 307), (0, u "java/lang/constant/Constable"), (0, .class_ 309), (0, u "java/lang/constant/ConstantDesc"), (0, u "MIN_VALUE"), (1, u "MAX_VALUE"), (3, u "SIZE"), (1, u "BYTES"), (1, u "serialVersionUID"), (0, u "J")] 131

def k11c0 : Code := { maxStack := 3, maxLocals := 1, code := jdk_33_method_22_code, exceptionTable := #[], attributes := #[] }
def k11m0 : Method := { name := "valueOf", desc := "(I)Ljava/lang/Integer;", sig := { parameters := [.int], returnType := some (.object "java/lang/Integer") }, accessFlags := 9, code := some k11c0 }
def k11c1 : Code := { maxStack := 2, maxLocals := 2, code := jdk_33_method_23_code, exceptionTable := #[], attributes := #[] }
def k11m1 : Method := { name := "<init>", desc := "(I)V", sig := { parameters := [.int], returnType := none }, accessFlags := 1, code := some k11c1 }
def k11c2 : Code := { maxStack := 1, maxLocals := 1, code := jdk_33_method_27_code, exceptionTable := #[], attributes := #[] }
def k11m2 : Method := { name := "intValue", desc := "()I", sig := { parameters := [], returnType := some .int }, accessFlags := 1, code := some k11c2 }
/-- java/lang/Integer -/
def k11 : Class := { plain "java/lang/Integer" (some 10) with
  accessFlags := 49
  interfaces := #[4, 6, 7]
  cf := some (fileOf pool11 1 #[.nestMembers #[189]] #[{ accessFlags := 9, nameIndex := 187, descriptorIndex := 188, attributes := #[] }, { accessFlags := 1, nameIndex := 67, descriptorIndex := 201, attributes := #[] }, { accessFlags := 1, nameIndex := 213, descriptorIndex := 121, attributes := #[] }] 49 203 #[304, 306, 308] #[{ accessFlags := 25, nameIndex := 310, descriptorIndex := 194, attributes := #[] }, { accessFlags := 25, nameIndex := 312, descriptorIndex := 194, attributes := #[] }, { accessFlags := 25, nameIndex := 302, descriptorIndex := 303, attributes := #[] }, { accessFlags := 24, nameIndex := 19, descriptorIndex := 20, attributes := #[] }, { accessFlags := 24, nameIndex := 89, descriptorIndex := 86, attributes := #[] }, { accessFlags := 24, nameIndex := 85, descriptorIndex := 86, attributes := #[] }, { accessFlags := 18, nameIndex := 207, descriptorIndex := 194, attributes := #[] }, { accessFlags := 25, nameIndex := 316, descriptorIndex := 194, attributes := #[] }, { accessFlags := 25, nameIndex := 318, descriptorIndex := 194, attributes := #[] }, { accessFlags := 26, nameIndex := 320, descriptorIndex := 321, attributes := #[] }])
  fields := #[{ name := "MIN_VALUE", type := .int, accessFlags := 25, slot := 0, constantValue := 0 }, { name := "MAX_VALUE", type := .int, accessFlags := 25, slot := 1, constantValue := 0 }, { name := "TYPE", type := (.object "java/lang/Class"), accessFlags := 25, slot := 2, constantValue := 0 }, { name := "digits", type := (.array .char), accessFlags := 24, slot := 3, constantValue := 0 }, { name := "DigitTens", type := (.array .byte), accessFlags := 24, slot := 4, constantValue := 0 }, { name := "DigitOnes", type := (.array .byte), accessFlags := 24, slot := 5, constantValue := 0 }, { name := "value", type := .int, accessFlags := 18, slot := 0, constantValue := 0 }, { name := "SIZE", type := .int, accessFlags := 25, slot := 6, constantValue := 0 }, { name := "BYTES", type := .int, accessFlags := 25, slot := 7, constantValue := 0 }, { name := "serialVersionUID", type := .long, accessFlags := 26, slot := 8, constantValue := 0 }]
  methods := #[k11m0, k11m1, k11m2]
  instanceTypes := #[.int]
  staticTypes := #[.int, .int, (.object "java/lang/Class"), (.array .char), (.array .byte), (.array .byte), .int, .int, .long]
  resolved := Array.replicate 453 none
  statics := none }

def pool12 : Array CpInfo := pool [(2, .class_ 4), (1, u "java/lang/Object"), (0, u "<init>"), (0, u "()V"), (0, .class_ 8), (0, u "java/lang/Integer"), (7, .class_ 18), (1, u "java/lang/Integer$IntegerCache"), (0, u "$assertionsDisabled"), (0, u "Z"), (26, u "high"), (0, u "I"), (8, u "archivedCache"), (0, u "[Ljava/lang/Integer;"), (12, u "cache"), (0, u "low")] 27

def k12m0 : Method := { name := "<init>", desc := "()V", sig := { parameters := [], returnType := none }, accessFlags := 2, code := none }
/-- java/lang/Integer$IntegerCache -/
def k12 : Class := { plain "java/lang/Integer$IntegerCache" (some 0) with
  accessFlags := 48
  interfaces := #[]
  cf := some (fileOf pool12 16 #[.nestHost 7] #[{ accessFlags := 2, nameIndex := 5, descriptorIndex := 6, attributes := #[] }] 48 2 #[] #[{ accessFlags := 24, nameIndex := 72, descriptorIndex := 48, attributes := #[] }, { accessFlags := 24, nameIndex := 47, descriptorIndex := 48, attributes := #[] }, { accessFlags := 24, nameIndex := 71, descriptorIndex := 58, attributes := #[] }, { accessFlags := 8, nameIndex := 57, descriptorIndex := 58, attributes := #[] }, { accessFlags := 4120, nameIndex := 19, descriptorIndex := 20, attributes := #[] }])
  fields := #[{ name := "low", type := .int, accessFlags := 24, slot := 0, constantValue := 0 }, { name := "high", type := .int, accessFlags := 24, slot := 1, constantValue := 0 }, { name := "cache", type := (.array (.object "java/lang/Integer")), accessFlags := 24, slot := 2, constantValue := 0 }, { name := "archivedCache", type := (.array (.object "java/lang/Integer")), accessFlags := 8, slot := 3, constantValue := 0 }, { name := "$assertionsDisabled", type := .boolean, accessFlags := 4120, slot := 4, constantValue := 0 }]
  methods := #[k12m0]
  instanceTypes := #[]
  staticTypes := #[.int, .int, (.array (.object "java/lang/Integer")), (.array (.object "java/lang/Integer")), .boolean]
  resolved := Array.replicate 100 none
  statics := some 1 }

def pool13 : Array CpInfo := pool [(2, .class_ 4), (1, u "java/lang/Object"), (0, u "<init>"), (0, u "()V"), (17, .class_ 26), (1, u "jdk/internal/util/Preconditions"), (28, .class_ 56), (0, u "jdk/internal/util/Preconditions$4"), (57, .class_ 115), (0, u "jdk/internal/util/Preconditions$1"), (7, u "SIOOBE_FORMATTER"), (0, u "Ljava/util/function/BiFunction;"), (0, .class_ 126), (0, u "jdk/internal/util/Preconditions$2"), (3, u "AIOOBE_FORMATTER"), (0, .class_ 132), (0, u "jdk/internal/util/Preconditions$3"), (3, u "IOOBE_FORMATTER")] 57

def k13m0 : Method := { name := "<init>", desc := "()V", sig := { parameters := [], returnType := none }, accessFlags := 1, code := none }
/-- jdk/internal/util/Preconditions -/
def k13 : Class := { plain "jdk/internal/util/Preconditions" (some 0) with
  accessFlags := 33
  interfaces := #[]
  cf := some (fileOf pool13 24 #[.nestMembers #[55, 131, 125, 114]] #[{ accessFlags := 1, nameIndex := 5, descriptorIndex := 6, attributes := #[] }] 33 2 #[] #[{ accessFlags := 25, nameIndex := 123, descriptorIndex := 124, attributes := #[] }, { accessFlags := 25, nameIndex := 130, descriptorIndex := 124, attributes := #[] }, { accessFlags := 25, nameIndex := 136, descriptorIndex := 124, attributes := #[] }])
  fields := #[{ name := "SIOOBE_FORMATTER", type := (.object "java/util/function/BiFunction"), accessFlags := 25, slot := 0, constantValue := 0 }, { name := "AIOOBE_FORMATTER", type := (.object "java/util/function/BiFunction"), accessFlags := 25, slot := 1, constantValue := 0 }, { name := "IOOBE_FORMATTER", type := (.object "java/util/function/BiFunction"), accessFlags := 25, slot := 2, constantValue := 0 }]
  methods := #[k13m0]
  instanceTypes := #[]
  staticTypes := #[(.object "java/util/function/BiFunction"), (.object "java/util/function/BiFunction"), (.object "java/util/function/BiFunction")]
  resolved := Array.replicate 194 none
  statics := some 2 }

def pool14 : Array CpInfo := pool [(9, u "<init>"), (6, .class_ 18), (1, u "java/lang/Object"), (0, u "()V"), (1, .class_ 23), (1, u "jdk/internal/util/ArraysSupport"), (0, u "LOG2_ARRAY_LONG_INDEX_SCALE"), (0, u "I"), (2, u "U"), (0, u "Ljdk/internal/misc/Unsafe;"), (8, u "BIG_ENDIAN"), (0, u "Z"), (8, u "LOG2_BYTE_BIT_SIZE"), (4, u "LOG2_ARRAY_INT_INDEX_SCALE"), (54, u "JLA"), (0, u "Ljdk/internal/access/JavaLangAccess;"), (11, u "LOG2_ARRAY_BOOLEAN_INDEX_SCALE"), (9, u "LOG2_ARRAY_BYTE_INDEX_SCALE"), (5, u "LOG2_ARRAY_CHAR_INDEX_SCALE"), (5, u "LOG2_ARRAY_SHORT_INDEX_SCALE"), (18, u "LOG2_ARRAY_FLOAT_INDEX_SCALE"), (24, u "LOG2_ARRAY_DOUBLE_INDEX_SCALE"), (89, u "T_BOOLEAN"), (2, u "T_CHAR"), (1, u "T_FLOAT"), (1, u "T_DOUBLE"), (1, u "T_BYTE"), (1, u "T_SHORT"), (1, u "T_INT"), (1, u "T_LONG"), (1, u "SOFT_MAX_ARRAY_LENGTH")] 83

def k14m0 : Method := { name := "<init>", desc := "()V", sig := { parameters := [], returnType := none }, accessFlags := 2, code := none }
/-- jdk/internal/util/ArraysSupport -/
def k14 : Class := { plain "jdk/internal/util/ArraysSupport" (some 0) with
  accessFlags := 33
  interfaces := #[]
  cf := some (fileOf pool14 21 #[] #[{ accessFlags := 2, nameIndex := 9, descriptorIndex := 19, attributes := #[] }] 33 16 #[] #[{ accessFlags := 24, nameIndex := 28, descriptorIndex := 29, attributes := #[] }, { accessFlags := 26, nameIndex := 38, descriptorIndex := 39, attributes := #[] }, { accessFlags := 25, nameIndex := 121, descriptorIndex := 25, attributes := #[] }, { accessFlags := 25, nameIndex := 131, descriptorIndex := 25, attributes := #[] }, { accessFlags := 25, nameIndex := 137, descriptorIndex := 25, attributes := #[] }, { accessFlags := 25, nameIndex := 143, descriptorIndex := 25, attributes := #[] }, { accessFlags := 25, nameIndex := 53, descriptorIndex := 25, attributes := #[] }, { accessFlags := 25, nameIndex := 24, descriptorIndex := 25, attributes := #[] }, { accessFlags := 25, nameIndex := 162, descriptorIndex := 25, attributes := #[] }, { accessFlags := 25, nameIndex := 187, descriptorIndex := 25, attributes := #[] }, { accessFlags := 26, nameIndex := 48, descriptorIndex := 25, attributes := #[] }, { accessFlags := 25, nameIndex := 277, descriptorIndex := 25, attributes := #[] }, { accessFlags := 25, nameIndex := 280, descriptorIndex := 25, attributes := #[] }, { accessFlags := 25, nameIndex := 282, descriptorIndex := 25, attributes := #[] }, { accessFlags := 25, nameIndex := 284, descriptorIndex := 25, attributes := #[] }, { accessFlags := 25, nameIndex := 286, descriptorIndex := 25, attributes := #[] }, { accessFlags := 25, nameIndex := 288, descriptorIndex := 25, attributes := #[] }, { accessFlags := 25, nameIndex := 290, descriptorIndex := 25, attributes := #[] }, { accessFlags := 25, nameIndex := 292, descriptorIndex := 25, attributes := #[] }, { accessFlags := 26, nameIndex := 108, descriptorIndex := 109, attributes := #[] }, { accessFlags := 25, nameIndex := 294, descriptorIndex := 25, attributes := #[] }])
  fields := #[{ name := "U", type := (.object "jdk/internal/misc/Unsafe"), accessFlags := 24, slot := 0, constantValue := 0 }, { name := "BIG_ENDIAN", type := .boolean, accessFlags := 26, slot := 1, constantValue := 0 }, { name := "LOG2_ARRAY_BOOLEAN_INDEX_SCALE", type := .int, accessFlags := 25, slot := 2, constantValue := 0 }, { name := "LOG2_ARRAY_BYTE_INDEX_SCALE", type := .int, accessFlags := 25, slot := 3, constantValue := 0 }, { name := "LOG2_ARRAY_CHAR_INDEX_SCALE", type := .int, accessFlags := 25, slot := 4, constantValue := 0 }, { name := "LOG2_ARRAY_SHORT_INDEX_SCALE", type := .int, accessFlags := 25, slot := 5, constantValue := 0 }, { name := "LOG2_ARRAY_INT_INDEX_SCALE", type := .int, accessFlags := 25, slot := 6, constantValue := 0 }, { name := "LOG2_ARRAY_LONG_INDEX_SCALE", type := .int, accessFlags := 25, slot := 7, constantValue := 0 }, { name := "LOG2_ARRAY_FLOAT_INDEX_SCALE", type := .int, accessFlags := 25, slot := 8, constantValue := 0 }, { name := "LOG2_ARRAY_DOUBLE_INDEX_SCALE", type := .int, accessFlags := 25, slot := 9, constantValue := 0 }, { name := "LOG2_BYTE_BIT_SIZE", type := .int, accessFlags := 26, slot := 10, constantValue := 0 }, { name := "T_BOOLEAN", type := .int, accessFlags := 25, slot := 11, constantValue := 0 }, { name := "T_CHAR", type := .int, accessFlags := 25, slot := 12, constantValue := 0 }, { name := "T_FLOAT", type := .int, accessFlags := 25, slot := 13, constantValue := 0 }, { name := "T_DOUBLE", type := .int, accessFlags := 25, slot := 14, constantValue := 0 }, { name := "T_BYTE", type := .int, accessFlags := 25, slot := 15, constantValue := 0 }, { name := "T_SHORT", type := .int, accessFlags := 25, slot := 16, constantValue := 0 }, { name := "T_INT", type := .int, accessFlags := 25, slot := 17, constantValue := 0 }, { name := "T_LONG", type := .int, accessFlags := 25, slot := 18, constantValue := 0 }, { name := "JLA", type := (.object "jdk/internal/access/JavaLangAccess"), accessFlags := 26, slot := 19, constantValue := 0 }, { name := "SOFT_MAX_ARRAY_LENGTH", type := .int, accessFlags := 25, slot := 20, constantValue := 0 }]
  methods := #[k14m0]
  instanceTypes := #[]
  staticTypes := #[(.object "jdk/internal/misc/Unsafe"), .boolean, .int, .int, .int, .int, .int, .int, .int, .int, .int, .int, .int, .int, .int, .int, .int, .int, .int, (.object "jdk/internal/access/JavaLangAccess"), .int]
  resolved := Array.replicate 378 none
  statics := none }

def pool15 : Array CpInfo := pool [(1, u "java/lang/Cloneable"), (0, .class_ 1), (0, u "java/lang/Object"), (0, .class_ 3)] 3

/-- java/lang/Cloneable -/
def k15 : Class := { plain "java/lang/Cloneable" (some 0) with
  accessFlags := 1537
  interfaces := #[]
  cf := some (fileOf pool15 2 #[] #[] 1537 4 #[] #[])
  fields := #[]
  methods := #[]
  instanceTypes := #[]
  staticTypes := #[]
  resolved := Array.replicate 8 none
  statics := none }

/-- the primitive byte -/
def k16 : Class := { plain "byte" none with kind := .primitive 'B', accessFlags := 0x411 }
/-- [B -/
def k17 : Class := { plain "[B" (some 0) with kind := .array 16 .byte, interfaces := #[15, 3], accessFlags := 1041 }

/-- the primitive int -/
def k18 : Class := { plain "int" none with kind := .primitive 'I', accessFlags := 0x411 }
/-- [I -/
def k19 : Class := { plain "[I" (some 0) with kind := .array 18 .int, interfaces := #[15, 3], accessFlags := 1041 }

/-- [Ljava/lang/Integer; -/
def k20 : Class := { plain "[Ljava/lang/Integer;" (some 0) with kind := .array 11 (.object "java/lang/Integer"), interfaces := #[15, 3], accessFlags := 1041 }

def heap : Heap := #[{ cls := 8, slots := #[.long 0, .int 1, .null, .int 0, .null, .int 0, .int 0], vm := .statics 8 },
  { cls := 12, slots := #[.int 0, .int 127, .ref 3, .null, .int 0], vm := .statics 12 },
  { cls := 13, slots := #[.null, .null, .null], vm := .statics 13 },
  { cls := 20, slots := #[.ref 4, .ref 5, .ref 6, .ref 7, .ref 8, .ref 9, .ref 10, .ref 11, .ref 12, .ref 13, .ref 14, .ref 15, .ref 16, .ref 17, .ref 18, .ref 19, .ref 20, .ref 21, .ref 22, .ref 23, .ref 24, .ref 25, .ref 26, .ref 27, .ref 28, .ref 29, .ref 30, .ref 31, .ref 32, .ref 33, .ref 34, .ref 35, .ref 36, .ref 37, .ref 38, .ref 39, .ref 40, .ref 41, .ref 42, .ref 43, .ref 44, .ref 45, .ref 46, .ref 47, .ref 48, .ref 49, .ref 50, .ref 51, .ref 52, .ref 53, .ref 54, .ref 55, .ref 56, .ref 57, .ref 58, .ref 59, .ref 60, .ref 61, .ref 62, .ref 63, .ref 64, .ref 65, .ref 66, .ref 67, .ref 68, .ref 69, .ref 70, .ref 71, .ref 72, .ref 73, .ref 74, .ref 75, .ref 76, .ref 77, .ref 78, .ref 79, .ref 80, .ref 81, .ref 82, .ref 83, .ref 84, .ref 85, .ref 86, .ref 87, .ref 88, .ref 89, .ref 90, .ref 91, .ref 92, .ref 93, .ref 94, .ref 95, .ref 96, .ref 97, .ref 98, .ref 99, .ref 100, .ref 101, .ref 102, .ref 103, .ref 104, .ref 105, .ref 106, .ref 107, .ref 108, .ref 109, .ref 110, .ref 111, .ref 112, .ref 113, .ref 114, .ref 115, .ref 116, .ref 117, .ref 118, .ref 119, .ref 120, .ref 121, .ref 122, .ref 123, .ref 124, .ref 125, .ref 126, .ref 127, .ref 128, .ref 129, .ref 130, .ref 131, .ref 132, .ref 133, .ref 134, .ref 135, .ref 136, .ref 137, .ref 138, .ref 139, .ref 140, .ref 141, .ref 142, .ref 143, .ref 144, .ref 145, .ref 146, .ref 147, .ref 148, .ref 149, .ref 150, .ref 151, .ref 152, .ref 153, .ref 154, .ref 155, .ref 156, .ref 157, .ref 158, .ref 159, .ref 160, .ref 161, .ref 162, .ref 163, .ref 164, .ref 165, .ref 166, .ref 167, .ref 168, .ref 169, .ref 170, .ref 171, .ref 172, .ref 173, .ref 174, .ref 175, .ref 176, .ref 177, .ref 178, .ref 179, .ref 180, .ref 181, .ref 182, .ref 183, .ref 184, .ref 185, .ref 186, .ref 187, .ref 188, .ref 189, .ref 190, .ref 191, .ref 192, .ref 193, .ref 194, .ref 195, .ref 196, .ref 197, .ref 198, .ref 199, .ref 200, .ref 201, .ref 202, .ref 203, .ref 204, .ref 205, .ref 206, .ref 207, .ref 208, .ref 209, .ref 210, .ref 211, .ref 212, .ref 213, .ref 214, .ref 215, .ref 216, .ref 217, .ref 218, .ref 219, .ref 220, .ref 221, .ref 222, .ref 223, .ref 224, .ref 225, .ref 226, .ref 227, .ref 228, .ref 229, .ref 230, .ref 231, .ref 232, .ref 233, .ref 234, .ref 235, .ref 236, .ref 237, .ref 238, .ref 239, .ref 240, .ref 241, .ref 242, .ref 243, .ref 244, .ref 245, .ref 246, .ref 247, .ref 248, .ref 249, .ref 250, .ref 251, .ref 252, .ref 253, .ref 254, .ref 255, .ref 256, .ref 257, .ref 258, .ref 259], vm := .none },
  { cls := 11, slots := #[.int (-128)], vm := .none },
  { cls := 11, slots := #[.int (-127)], vm := .none },
  { cls := 11, slots := #[.int (-126)], vm := .none },
  { cls := 11, slots := #[.int (-125)], vm := .none },
  { cls := 11, slots := #[.int (-124)], vm := .none },
  { cls := 11, slots := #[.int (-123)], vm := .none },
  { cls := 11, slots := #[.int (-122)], vm := .none },
  { cls := 11, slots := #[.int (-121)], vm := .none },
  { cls := 11, slots := #[.int (-120)], vm := .none },
  { cls := 11, slots := #[.int (-119)], vm := .none },
  { cls := 11, slots := #[.int (-118)], vm := .none },
  { cls := 11, slots := #[.int (-117)], vm := .none },
  { cls := 11, slots := #[.int (-116)], vm := .none },
  { cls := 11, slots := #[.int (-115)], vm := .none },
  { cls := 11, slots := #[.int (-114)], vm := .none },
  { cls := 11, slots := #[.int (-113)], vm := .none },
  { cls := 11, slots := #[.int (-112)], vm := .none },
  { cls := 11, slots := #[.int (-111)], vm := .none },
  { cls := 11, slots := #[.int (-110)], vm := .none },
  { cls := 11, slots := #[.int (-109)], vm := .none },
  { cls := 11, slots := #[.int (-108)], vm := .none },
  { cls := 11, slots := #[.int (-107)], vm := .none },
  { cls := 11, slots := #[.int (-106)], vm := .none },
  { cls := 11, slots := #[.int (-105)], vm := .none },
  { cls := 11, slots := #[.int (-104)], vm := .none },
  { cls := 11, slots := #[.int (-103)], vm := .none },
  { cls := 11, slots := #[.int (-102)], vm := .none },
  { cls := 11, slots := #[.int (-101)], vm := .none },
  { cls := 11, slots := #[.int (-100)], vm := .none },
  { cls := 11, slots := #[.int (-99)], vm := .none },
  { cls := 11, slots := #[.int (-98)], vm := .none },
  { cls := 11, slots := #[.int (-97)], vm := .none },
  { cls := 11, slots := #[.int (-96)], vm := .none },
  { cls := 11, slots := #[.int (-95)], vm := .none },
  { cls := 11, slots := #[.int (-94)], vm := .none },
  { cls := 11, slots := #[.int (-93)], vm := .none },
  { cls := 11, slots := #[.int (-92)], vm := .none },
  { cls := 11, slots := #[.int (-91)], vm := .none },
  { cls := 11, slots := #[.int (-90)], vm := .none },
  { cls := 11, slots := #[.int (-89)], vm := .none },
  { cls := 11, slots := #[.int (-88)], vm := .none },
  { cls := 11, slots := #[.int (-87)], vm := .none },
  { cls := 11, slots := #[.int (-86)], vm := .none },
  { cls := 11, slots := #[.int (-85)], vm := .none },
  { cls := 11, slots := #[.int (-84)], vm := .none },
  { cls := 11, slots := #[.int (-83)], vm := .none },
  { cls := 11, slots := #[.int (-82)], vm := .none },
  { cls := 11, slots := #[.int (-81)], vm := .none },
  { cls := 11, slots := #[.int (-80)], vm := .none },
  { cls := 11, slots := #[.int (-79)], vm := .none },
  { cls := 11, slots := #[.int (-78)], vm := .none },
  { cls := 11, slots := #[.int (-77)], vm := .none },
  { cls := 11, slots := #[.int (-76)], vm := .none },
  { cls := 11, slots := #[.int (-75)], vm := .none },
  { cls := 11, slots := #[.int (-74)], vm := .none },
  { cls := 11, slots := #[.int (-73)], vm := .none },
  { cls := 11, slots := #[.int (-72)], vm := .none },
  { cls := 11, slots := #[.int (-71)], vm := .none },
  { cls := 11, slots := #[.int (-70)], vm := .none },
  { cls := 11, slots := #[.int (-69)], vm := .none },
  { cls := 11, slots := #[.int (-68)], vm := .none },
  { cls := 11, slots := #[.int (-67)], vm := .none },
  { cls := 11, slots := #[.int (-66)], vm := .none },
  { cls := 11, slots := #[.int (-65)], vm := .none },
  { cls := 11, slots := #[.int (-64)], vm := .none },
  { cls := 11, slots := #[.int (-63)], vm := .none },
  { cls := 11, slots := #[.int (-62)], vm := .none },
  { cls := 11, slots := #[.int (-61)], vm := .none },
  { cls := 11, slots := #[.int (-60)], vm := .none },
  { cls := 11, slots := #[.int (-59)], vm := .none },
  { cls := 11, slots := #[.int (-58)], vm := .none },
  { cls := 11, slots := #[.int (-57)], vm := .none },
  { cls := 11, slots := #[.int (-56)], vm := .none },
  { cls := 11, slots := #[.int (-55)], vm := .none },
  { cls := 11, slots := #[.int (-54)], vm := .none },
  { cls := 11, slots := #[.int (-53)], vm := .none },
  { cls := 11, slots := #[.int (-52)], vm := .none },
  { cls := 11, slots := #[.int (-51)], vm := .none },
  { cls := 11, slots := #[.int (-50)], vm := .none },
  { cls := 11, slots := #[.int (-49)], vm := .none },
  { cls := 11, slots := #[.int (-48)], vm := .none },
  { cls := 11, slots := #[.int (-47)], vm := .none },
  { cls := 11, slots := #[.int (-46)], vm := .none },
  { cls := 11, slots := #[.int (-45)], vm := .none },
  { cls := 11, slots := #[.int (-44)], vm := .none },
  { cls := 11, slots := #[.int (-43)], vm := .none },
  { cls := 11, slots := #[.int (-42)], vm := .none },
  { cls := 11, slots := #[.int (-41)], vm := .none },
  { cls := 11, slots := #[.int (-40)], vm := .none },
  { cls := 11, slots := #[.int (-39)], vm := .none },
  { cls := 11, slots := #[.int (-38)], vm := .none },
  { cls := 11, slots := #[.int (-37)], vm := .none },
  { cls := 11, slots := #[.int (-36)], vm := .none },
  { cls := 11, slots := #[.int (-35)], vm := .none },
  { cls := 11, slots := #[.int (-34)], vm := .none },
  { cls := 11, slots := #[.int (-33)], vm := .none },
  { cls := 11, slots := #[.int (-32)], vm := .none },
  { cls := 11, slots := #[.int (-31)], vm := .none },
  { cls := 11, slots := #[.int (-30)], vm := .none },
  { cls := 11, slots := #[.int (-29)], vm := .none },
  { cls := 11, slots := #[.int (-28)], vm := .none },
  { cls := 11, slots := #[.int (-27)], vm := .none },
  { cls := 11, slots := #[.int (-26)], vm := .none },
  { cls := 11, slots := #[.int (-25)], vm := .none },
  { cls := 11, slots := #[.int (-24)], vm := .none },
  { cls := 11, slots := #[.int (-23)], vm := .none },
  { cls := 11, slots := #[.int (-22)], vm := .none },
  { cls := 11, slots := #[.int (-21)], vm := .none },
  { cls := 11, slots := #[.int (-20)], vm := .none },
  { cls := 11, slots := #[.int (-19)], vm := .none },
  { cls := 11, slots := #[.int (-18)], vm := .none },
  { cls := 11, slots := #[.int (-17)], vm := .none },
  { cls := 11, slots := #[.int (-16)], vm := .none },
  { cls := 11, slots := #[.int (-15)], vm := .none },
  { cls := 11, slots := #[.int (-14)], vm := .none },
  { cls := 11, slots := #[.int (-13)], vm := .none },
  { cls := 11, slots := #[.int (-12)], vm := .none },
  { cls := 11, slots := #[.int (-11)], vm := .none },
  { cls := 11, slots := #[.int (-10)], vm := .none },
  { cls := 11, slots := #[.int (-9)], vm := .none },
  { cls := 11, slots := #[.int (-8)], vm := .none },
  { cls := 11, slots := #[.int (-7)], vm := .none },
  { cls := 11, slots := #[.int (-6)], vm := .none },
  { cls := 11, slots := #[.int (-5)], vm := .none },
  { cls := 11, slots := #[.int (-4)], vm := .none },
  { cls := 11, slots := #[.int (-3)], vm := .none },
  { cls := 11, slots := #[.int (-2)], vm := .none },
  { cls := 11, slots := #[.int (-1)], vm := .none },
  { cls := 11, slots := #[.int (0)], vm := .none },
  { cls := 11, slots := #[.int (1)], vm := .none },
  { cls := 11, slots := #[.int (2)], vm := .none },
  { cls := 11, slots := #[.int (3)], vm := .none },
  { cls := 11, slots := #[.int (4)], vm := .none },
  { cls := 11, slots := #[.int (5)], vm := .none },
  { cls := 11, slots := #[.int (6)], vm := .none },
  { cls := 11, slots := #[.int (7)], vm := .none },
  { cls := 11, slots := #[.int (8)], vm := .none },
  { cls := 11, slots := #[.int (9)], vm := .none },
  { cls := 11, slots := #[.int (10)], vm := .none },
  { cls := 11, slots := #[.int (11)], vm := .none },
  { cls := 11, slots := #[.int (12)], vm := .none },
  { cls := 11, slots := #[.int (13)], vm := .none },
  { cls := 11, slots := #[.int (14)], vm := .none },
  { cls := 11, slots := #[.int (15)], vm := .none },
  { cls := 11, slots := #[.int (16)], vm := .none },
  { cls := 11, slots := #[.int (17)], vm := .none },
  { cls := 11, slots := #[.int (18)], vm := .none },
  { cls := 11, slots := #[.int (19)], vm := .none },
  { cls := 11, slots := #[.int (20)], vm := .none },
  { cls := 11, slots := #[.int (21)], vm := .none },
  { cls := 11, slots := #[.int (22)], vm := .none },
  { cls := 11, slots := #[.int (23)], vm := .none },
  { cls := 11, slots := #[.int (24)], vm := .none },
  { cls := 11, slots := #[.int (25)], vm := .none },
  { cls := 11, slots := #[.int (26)], vm := .none },
  { cls := 11, slots := #[.int (27)], vm := .none },
  { cls := 11, slots := #[.int (28)], vm := .none },
  { cls := 11, slots := #[.int (29)], vm := .none },
  { cls := 11, slots := #[.int (30)], vm := .none },
  { cls := 11, slots := #[.int (31)], vm := .none },
  { cls := 11, slots := #[.int (32)], vm := .none },
  { cls := 11, slots := #[.int (33)], vm := .none },
  { cls := 11, slots := #[.int (34)], vm := .none },
  { cls := 11, slots := #[.int (35)], vm := .none },
  { cls := 11, slots := #[.int (36)], vm := .none },
  { cls := 11, slots := #[.int (37)], vm := .none },
  { cls := 11, slots := #[.int (38)], vm := .none },
  { cls := 11, slots := #[.int (39)], vm := .none },
  { cls := 11, slots := #[.int (40)], vm := .none },
  { cls := 11, slots := #[.int (41)], vm := .none },
  { cls := 11, slots := #[.int (42)], vm := .none },
  { cls := 11, slots := #[.int (43)], vm := .none },
  { cls := 11, slots := #[.int (44)], vm := .none },
  { cls := 11, slots := #[.int (45)], vm := .none },
  { cls := 11, slots := #[.int (46)], vm := .none },
  { cls := 11, slots := #[.int (47)], vm := .none },
  { cls := 11, slots := #[.int (48)], vm := .none },
  { cls := 11, slots := #[.int (49)], vm := .none },
  { cls := 11, slots := #[.int (50)], vm := .none },
  { cls := 11, slots := #[.int (51)], vm := .none },
  { cls := 11, slots := #[.int (52)], vm := .none },
  { cls := 11, slots := #[.int (53)], vm := .none },
  { cls := 11, slots := #[.int (54)], vm := .none },
  { cls := 11, slots := #[.int (55)], vm := .none },
  { cls := 11, slots := #[.int (56)], vm := .none },
  { cls := 11, slots := #[.int (57)], vm := .none },
  { cls := 11, slots := #[.int (58)], vm := .none },
  { cls := 11, slots := #[.int (59)], vm := .none },
  { cls := 11, slots := #[.int (60)], vm := .none },
  { cls := 11, slots := #[.int (61)], vm := .none },
  { cls := 11, slots := #[.int (62)], vm := .none },
  { cls := 11, slots := #[.int (63)], vm := .none },
  { cls := 11, slots := #[.int (64)], vm := .none },
  { cls := 11, slots := #[.int (65)], vm := .none },
  { cls := 11, slots := #[.int (66)], vm := .none },
  { cls := 11, slots := #[.int (67)], vm := .none },
  { cls := 11, slots := #[.int (68)], vm := .none },
  { cls := 11, slots := #[.int (69)], vm := .none },
  { cls := 11, slots := #[.int (70)], vm := .none },
  { cls := 11, slots := #[.int (71)], vm := .none },
  { cls := 11, slots := #[.int (72)], vm := .none },
  { cls := 11, slots := #[.int (73)], vm := .none },
  { cls := 11, slots := #[.int (74)], vm := .none },
  { cls := 11, slots := #[.int (75)], vm := .none },
  { cls := 11, slots := #[.int (76)], vm := .none },
  { cls := 11, slots := #[.int (77)], vm := .none },
  { cls := 11, slots := #[.int (78)], vm := .none },
  { cls := 11, slots := #[.int (79)], vm := .none },
  { cls := 11, slots := #[.int (80)], vm := .none },
  { cls := 11, slots := #[.int (81)], vm := .none },
  { cls := 11, slots := #[.int (82)], vm := .none },
  { cls := 11, slots := #[.int (83)], vm := .none },
  { cls := 11, slots := #[.int (84)], vm := .none },
  { cls := 11, slots := #[.int (85)], vm := .none },
  { cls := 11, slots := #[.int (86)], vm := .none },
  { cls := 11, slots := #[.int (87)], vm := .none },
  { cls := 11, slots := #[.int (88)], vm := .none },
  { cls := 11, slots := #[.int (89)], vm := .none },
  { cls := 11, slots := #[.int (90)], vm := .none },
  { cls := 11, slots := #[.int (91)], vm := .none },
  { cls := 11, slots := #[.int (92)], vm := .none },
  { cls := 11, slots := #[.int (93)], vm := .none },
  { cls := 11, slots := #[.int (94)], vm := .none },
  { cls := 11, slots := #[.int (95)], vm := .none },
  { cls := 11, slots := #[.int (96)], vm := .none },
  { cls := 11, slots := #[.int (97)], vm := .none },
  { cls := 11, slots := #[.int (98)], vm := .none },
  { cls := 11, slots := #[.int (99)], vm := .none },
  { cls := 11, slots := #[.int (100)], vm := .none },
  { cls := 11, slots := #[.int (101)], vm := .none },
  { cls := 11, slots := #[.int (102)], vm := .none },
  { cls := 11, slots := #[.int (103)], vm := .none },
  { cls := 11, slots := #[.int (104)], vm := .none },
  { cls := 11, slots := #[.int (105)], vm := .none },
  { cls := 11, slots := #[.int (106)], vm := .none },
  { cls := 11, slots := #[.int (107)], vm := .none },
  { cls := 11, slots := #[.int (108)], vm := .none },
  { cls := 11, slots := #[.int (109)], vm := .none },
  { cls := 11, slots := #[.int (110)], vm := .none },
  { cls := 11, slots := #[.int (111)], vm := .none },
  { cls := 11, slots := #[.int (112)], vm := .none },
  { cls := 11, slots := #[.int (113)], vm := .none },
  { cls := 11, slots := #[.int (114)], vm := .none },
  { cls := 11, slots := #[.int (115)], vm := .none },
  { cls := 11, slots := #[.int (116)], vm := .none },
  { cls := 11, slots := #[.int (117)], vm := .none },
  { cls := 11, slots := #[.int (118)], vm := .none },
  { cls := 11, slots := #[.int (119)], vm := .none },
  { cls := 11, slots := #[.int (120)], vm := .none },
  { cls := 11, slots := #[.int (121)], vm := .none },
  { cls := 11, slots := #[.int (122)], vm := .none },
  { cls := 11, slots := #[.int (123)], vm := .none },
  { cls := 11, slots := #[.int (124)], vm := .none },
  { cls := 11, slots := #[.int (125)], vm := .none },
  { cls := 11, slots := #[.int (126)], vm := .none },
  { cls := 11, slots := #[.int (127)], vm := .none }]
def classes : Array Class := #[k0, k1, k2, k3, k4, k5, k6, k7, k8, k9, k10, k11, k12, k13, k14, k15, k16, k17, k18, k19, k20]
def interned : List (Array UInt16 × Addr) := []
def slotsUsed : Nat := 527
def theMethod : MethodId := ⟨1, 1⟩
def args0 : Array Value := #[.int 1, .int 1, .int 1]
def aboutOver (below : List Frame) : State where
  vm := { classes := classes, interned := interned.toArray }
  heap := heap
  slotsUsed := slotsUsed
  threads := #[{ frames := .invoking theMethod args0 :: below }]
def below0 : List Frame := [.native { method := ⟨0, 0⟩, args := #[] }]
def about1 : State := aboutOver below0
def p0 : Program := .bare "" "" ""
def e0 : Env := launch0.env 0 0 0
theorem w_frames : about1.frames = Frame.invoking theMethod args0 :: below0 := rfl
set_option maxRecDepth 65536 in
theorem w_args : argsFit about1.vm theMethod args0 = true := by decide +kernel
set_option maxRecDepth 65536 in
theorem w_heap : heapFits about1 = true := by decide +kernel
set_option maxRecDepth 65536 in
theorem w_runnable : about1.curStatus? = some .runnable := by decide +kernel
set_option maxRecDepth 65536 in
theorem w_alone : about1.alone = true := by decide +kernel
set_option maxRecDepth 65536 in
theorem w_named : about1.methodNamed? x = some theMethod := by decide +kernel
set_option maxRecDepth 65536 in
theorem w_hears : about1.hears theMethod below0 = true := by decide +kernel
set_option maxRecDepth 65536 in
theorem w_ripe : about1.ripe theMethod args0 below0 = true := by decide +kernel
theorem w_running : about1.status = .running := rfl
set_option maxRecDepth 65536 in
theorem w_room : about1.hasRoom e0.platform room_1 = true :=
  launch0.hasRoom_least _ room_1 (by decide +kernel) (by decide +kernel) (by decide +kernel) (by decide +kernel) (by decide +kernel) (by decide +kernel)
theorem allAtoms_all (ts : List Jvm.Cond) (a : Array Jvm.Value) (st : Jvm.State) : (allAtoms ts).before a st = ts.all (fun c => c.before a st) := by
  induction ts with
  | nil => rfl
  | cons c t ih =>
    show (Jvm.Cond.and c (allAtoms t)).before a st = _
    rw [Jvm.Cond.before_and, ih, List.all_cons]
def words1 : List Jvm.Cond := Jvm.Cond.code x code maxLocals ret :: tables_1
/-- a 'code' word, met by the world's own term for the bytes: nothing is compared byte by byte -/
theorem code_word {y : MethodName} {bytes : ByteArray} {mx : Nat} {rt : Option FieldType} {a : Array Value} {s : State} {m : MethodId} {meth : Method} {c : Code} (h1 : s.methodNamed? y = some m) (h2 : s.vm.method? m = some meth) (h3 : meth.code = some c) (h4 : c.code = bytes)
    (h5 : (c.maxLocals == mx && c.exceptionTable.isEmpty && decide (c.maxStack ≤ mostOperands) && decide (meth.sig.returnType = rt) && !meth.locks && decide (parseMethodDescriptor y.desc = some meth.sig)) = true) : (Jvm.Cond.code y bytes mx rt).before a s = true := by
  simp only [Bool.and_eq_true, beq_iff_eq, Bool.not_eq_true', decide_eq_true_eq] at h5
  obtain ⟨⟨⟨⟨⟨g1, g2⟩, g3⟩, g4⟩, g5⟩, g6⟩ := h5
  simp [Cond.before, Cond.holds, Cond.value, h1, h2, h3, h4, g1, g2, g3, g4, g5, g6]
def isCode : Jvm.Cond → Bool
  | .code _ _ _ _ => true
  | _ => false
theorem all_split {L : List Jvm.Cond} {P : Jvm.Cond → Bool} (h1 : L.all (fun c => isCode c || P c) = true) (h2 : ∀ c ∈ L.filter isCode, P c = true) : L.all P = true := by
  refine List.all_eq_true.mpr fun c hc => ?_
  have h := List.all_eq_true.mp h1 c hc
  rcases Bool.eq_false_or_eq_true (isCode c) with hi | hi
  · exact h2 c (List.mem_filter.mpr ⟨hc, hi⟩)
  · simpa [hi] using h
set_option maxRecDepth 65536 in
theorem w_c0 : (Jvm.Cond.code x code maxLocals ret).before args0 about1 = true := code_word (m := ⟨1, 1⟩) (meth := k1m1) (c := k1c1) (by decide +kernel) rfl rfl rfl (by decide +kernel)
set_option maxRecDepth 65536 in
theorem w_c1 : (Jvm.Cond.code ({ cls := "com/example/durable_cron/durablecron/store/RequestOutcome", name := "<init>", desc := "(Ljava/lang/Integer;Ljava/lang/String;)V" } : Jvm.MethodName) prog_28_method_1_code (3 : Nat) (Option.none : Option Jvm.ClassFile.FieldType)).before args0 about1 = true := code_word (m := ⟨2, 0⟩) (meth := k2m0) (c := k2c0) (by decide +kernel) rfl rfl rfl (by decide +kernel)
set_option maxRecDepth 65536 in
theorem w_c2 : (Jvm.Cond.code ({ cls := "java/lang/Object", name := "<init>", desc := "()V" } : Jvm.MethodName) object_method_1_code (1 : Nat) (Option.none : Option Jvm.ClassFile.FieldType)).before args0 about1 = true := code_word (m := ⟨0, 0⟩) (meth := k0m0) (c := k0c0) (by decide +kernel) rfl rfl rfl (by decide +kernel)
set_option maxRecDepth 65536 in
theorem w_c3 : (Jvm.Cond.code ({ cls := "com/example/durable_cron/durablecron/store/RequestOutcome", name := "succeeded", desc := "()Z" } : Jvm.MethodName) prog_28_method_4_code (1 : Nat) (Option.some Jvm.ClassFile.FieldType.boolean)).before args0 about1 = true := code_word (m := ⟨2, 1⟩) (meth := k2m1) (c := k2c1) (by decide +kernel) rfl rfl rfl (by decide +kernel)
set_option maxRecDepth 65536 in
theorem w_c4 : (Jvm.Cond.code ({ cls := "java/lang/String", name := "valueOf", desc := "(C)Ljava/lang/String;" } : Jvm.MethodName) jdk_42_method_139_code (1 : Nat) (Option.some (Jvm.ClassFile.FieldType.object "java/lang/String"))).before args0 about1 = true := code_word (m := ⟨8, 1⟩) (meth := k8m1) (c := k8c1) (by decide +kernel) rfl rfl rfl (by decide +kernel)
set_option maxRecDepth 65536 in
theorem w_c5 : (Jvm.Cond.code ({ cls := "java/lang/StringLatin1", name := "canEncode", desc := "(C)Z" } : Jvm.MethodName) jdk_43_method_3_code (1 : Nat) (Option.some Jvm.ClassFile.FieldType.boolean)).before args0 about1 = true := code_word (m := ⟨9, 1⟩) (meth := k9m1) (c := k9c1) (by decide +kernel) rfl rfl rfl (by decide +kernel)
set_option maxRecDepth 65536 in
theorem w_c6 : (Jvm.Cond.code ({ cls := "java/lang/StringLatin1", name := "toBytes", desc := "(C)[B" } : Jvm.MethodName) jdk_43_method_46_code (1 : Nat) (Option.some (Jvm.ClassFile.FieldType.array Jvm.ClassFile.FieldType.byte))).before args0 about1 = true := code_word (m := ⟨9, 2⟩) (meth := k9m2) (c := k9c2) (by decide +kernel) rfl rfl rfl (by decide +kernel)
set_option maxRecDepth 65536 in
theorem w_c7 : (Jvm.Cond.code ({ cls := "java/lang/String", name := "<init>", desc := "([BB)V" } : Jvm.MethodName) jdk_42_method_151_code (3 : Nat) (Option.none : Option Jvm.ClassFile.FieldType)).before args0 about1 = true := code_word (m := ⟨8, 2⟩) (meth := k8m2) (c := k8c2) (by decide +kernel) rfl rfl rfl (by decide +kernel)
set_option maxRecDepth 65536 in
theorem w_c8 : (Jvm.Cond.code ({ cls := "java/lang/Integer", name := "valueOf", desc := "(I)Ljava/lang/Integer;" } : Jvm.MethodName) jdk_33_method_22_code (1 : Nat) (Option.some (Jvm.ClassFile.FieldType.object "java/lang/Integer"))).before args0 about1 = true := code_word (m := ⟨11, 0⟩) (meth := k11m0) (c := k11c0) (by decide +kernel) rfl rfl rfl (by decide +kernel)
set_option maxRecDepth 65536 in
theorem w_c9 : (Jvm.Cond.code ({ cls := "java/lang/Integer", name := "<init>", desc := "(I)V" } : Jvm.MethodName) jdk_33_method_23_code (2 : Nat) (Option.none : Option Jvm.ClassFile.FieldType)).before args0 about1 = true := code_word (m := ⟨11, 1⟩) (meth := k11m1) (c := k11c1) (by decide +kernel) rfl rfl rfl (by decide +kernel)
set_option maxRecDepth 65536 in
theorem w_c10 : (Jvm.Cond.code ({ cls := "java/lang/Number", name := "<init>", desc := "()V" } : Jvm.MethodName) jdk_18_method_1_code (1 : Nat) (Option.none : Option Jvm.ClassFile.FieldType)).before args0 about1 = true := code_word (m := ⟨10, 0⟩) (meth := k10m0) (c := k10c0) (by decide +kernel) rfl rfl rfl (by decide +kernel)
set_option maxRecDepth 65536 in
theorem w_c11 : (Jvm.Cond.code ({ cls := "java/lang/Integer", name := "intValue", desc := "()I" } : Jvm.MethodName) jdk_33_method_27_code (1 : Nat) (Option.some Jvm.ClassFile.FieldType.int)).before args0 about1 = true := code_word (m := ⟨11, 2⟩) (meth := k11m2) (c := k11c2) (by decide +kernel) rfl rfl rfl (by decide +kernel)
set_option maxRecDepth 65536 in
theorem w_c12 : (Jvm.Cond.code ({ cls := "com/example/durable_cron/durablecron/store/RequestOutcome", name := "isSuccess", desc := "(I)Z" } : Jvm.MethodName) prog_28_method_7_code (1 : Nat) (Option.some Jvm.ClassFile.FieldType.boolean)).before args0 about1 = true := code_word (m := ⟨2, 2⟩) (meth := k2m2) (c := k2c2) (by decide +kernel) rfl rfl rfl (by decide +kernel)
def codes1 : List Jvm.Cond := [Jvm.Cond.code x code maxLocals ret, Jvm.Cond.code ({ cls := "com/example/durable_cron/durablecron/store/RequestOutcome", name := "<init>", desc := "(Ljava/lang/Integer;Ljava/lang/String;)V" } : Jvm.MethodName) prog_28_method_1_code (3 : Nat) (Option.none : Option Jvm.ClassFile.FieldType), Jvm.Cond.code ({ cls := "java/lang/Object", name := "<init>", desc := "()V" } : Jvm.MethodName) object_method_1_code (1 : Nat) (Option.none : Option Jvm.ClassFile.FieldType), Jvm.Cond.code ({ cls := "com/example/durable_cron/durablecron/store/RequestOutcome", name := "succeeded", desc := "()Z" } : Jvm.MethodName) prog_28_method_4_code (1 : Nat) (Option.some Jvm.ClassFile.FieldType.boolean), Jvm.Cond.code ({ cls := "java/lang/String", name := "valueOf", desc := "(C)Ljava/lang/String;" } : Jvm.MethodName) jdk_42_method_139_code (1 : Nat) (Option.some (Jvm.ClassFile.FieldType.object "java/lang/String")), Jvm.Cond.code ({ cls := "java/lang/StringLatin1", name := "canEncode", desc := "(C)Z" } : Jvm.MethodName) jdk_43_method_3_code (1 : Nat) (Option.some Jvm.ClassFile.FieldType.boolean), Jvm.Cond.code ({ cls := "java/lang/StringLatin1", name := "toBytes", desc := "(C)[B" } : Jvm.MethodName) jdk_43_method_46_code (1 : Nat) (Option.some (Jvm.ClassFile.FieldType.array Jvm.ClassFile.FieldType.byte)), Jvm.Cond.code ({ cls := "java/lang/String", name := "<init>", desc := "([BB)V" } : Jvm.MethodName) jdk_42_method_151_code (3 : Nat) (Option.none : Option Jvm.ClassFile.FieldType), Jvm.Cond.code ({ cls := "java/lang/Integer", name := "valueOf", desc := "(I)Ljava/lang/Integer;" } : Jvm.MethodName) jdk_33_method_22_code (1 : Nat) (Option.some (Jvm.ClassFile.FieldType.object "java/lang/Integer")), Jvm.Cond.code ({ cls := "java/lang/Integer", name := "<init>", desc := "(I)V" } : Jvm.MethodName) jdk_33_method_23_code (2 : Nat) (Option.none : Option Jvm.ClassFile.FieldType), Jvm.Cond.code ({ cls := "java/lang/Number", name := "<init>", desc := "()V" } : Jvm.MethodName) jdk_18_method_1_code (1 : Nat) (Option.none : Option Jvm.ClassFile.FieldType), Jvm.Cond.code ({ cls := "java/lang/Integer", name := "intValue", desc := "()I" } : Jvm.MethodName) jdk_33_method_27_code (1 : Nat) (Option.some Jvm.ClassFile.FieldType.int), Jvm.Cond.code ({ cls := "com/example/durable_cron/durablecron/store/RequestOutcome", name := "isSuccess", desc := "(I)Z" } : Jvm.MethodName) prog_28_method_7_code (1 : Nat) (Option.some Jvm.ClassFile.FieldType.boolean)]
set_option maxRecDepth 65536 in
theorem codes_eq : words1.filter isCode = codes1 := rfl
theorem w_codes : ∀ c ∈ words1.filter isCode, c.before args0 about1 = true := by
  rw [codes_eq]
  intro c hc
  simp only [codes1, List.mem_cons, List.not_mem_nil, or_false] at hc
  rcases hc with rfl | rfl | rfl | rfl | rfl | rfl | rfl | rfl | rfl | rfl | rfl | rfl | rfl
  · exact w_c0
  · exact w_c1
  · exact w_c2
  · exact w_c3
  · exact w_c4
  · exact w_c5
  · exact w_c6
  · exact w_c7
  · exact w_c8
  · exact w_c9
  · exact w_c10
  · exact w_c11
  · exact w_c12
set_option maxRecDepth 65536 in
theorem w_t1 : (words1.take 24).all (fun c => isCode c || c.before args0 about1) = true := by decide +kernel
set_option maxRecDepth 65536 in
theorem w_t2 : ((words1.drop 24).take 24).all (fun c => isCode c || c.before args0 about1) = true := by decide +kernel
set_option maxRecDepth 65536 in
theorem w_t3 : (((words1.drop 24).drop 24).take 24).all (fun c => isCode c || c.before args0 about1) = true := by decide +kernel
set_option maxRecDepth 65536 in
theorem w_t4 : (((words1.drop 24).drop 24).drop 24).all (fun c => isCode c || c.before args0 about1) = true := by decide +kernel
theorem w_tables : (allAtoms (Jvm.Cond.code x code maxLocals ret :: tables_1)).before args0 about1 = true := by
  rw [allAtoms_all]
  show words1.all (fun c => c.before args0 about1) = true
  refine all_split ?_ w_codes
  rw [← List.take_append_drop 24 words1, List.all_append, w_t1, ← List.take_append_drop 24 (words1.drop 24), List.all_append, w_t2, ← List.take_append_drop 24 ((words1.drop 24).drop 24), List.all_append, w_t3, w_t4]
  rfl
set_option maxRecDepth 65536 in
theorem w_rest : rest_1_c.before args0 about1 = true := by decide +kernel
set_option maxRecDepth 65536 in
theorem w_case : (Jvm.Cond.and given_1 narrow_1).before args0 about1 = true := by decide +kernel
theorem w_applies : (headSpec (Jvm.Cond.code x code maxLocals ret :: tables_1) room_1).applies x e0.platform about1 = true :=
  (Spec.applies_iff w_frames).mpr ⟨w_running, w_runnable, w_alone, w_named, w_hears, w_ripe, w_room, w_tables⟩
theorem atStart : AtStart classFile x code maxLocals ret World_1 tables_1 room_1 Calls_1 rest_1 Pre_1 launch0 p0 e0 about1 theMethod args0 below0 :=
  ⟨lists_1, trivial, launch0.admits_env _ _ _, launch0.least_env, fairChoices_fair.cas, fairChoices_fair.clock, w_frames, w_args, w_heap, w_applies, trivial, w_rest, w_case⟩
end start1
theorem witness_1 : WitnessClaimed_1 := ⟨start1.p0, start1.e0, start1.about1, start1.theMethod, start1.args0, start1.below0, start1.atStart⟩
end Jvm.Pilot.@@N@@
