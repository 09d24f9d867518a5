import JvmDerived
import JvmDerived.Pilot.@@N@@Statement
import JvmDerived.Pilot.@@N@@Code
set_option linter.unusedVariables false
set_option linter.unusedSimpArgs false
namespace Jvm.RoadKit
open Sem ClassFile Op Lib Jvm.Stand Jvm.Free Jvm.LawKit
section New
variable {p : Program} {l : Launch} {e : Env} {R : Room} {s : State} {m : MethodId} {args : Array Value} {below : List Frame} {meth : Method} {c : Code} {T : State} {locs : List Loc} {cells slots : Nat}
theorem retI (X : Stand p l e R s m args below meth c T locs cells slots) (hx : p.tables.exec = Jvm.exec) {pc : Nat} {Ls : Array Slot} {z : Int32} {rest : List Value} (hret : meth.sig.returnType = some .int) (hd : decode c.code pc = .ok (.ireturn, 1)) {fs : List Frame}
    (hl : ∀ (f : JFrame) (acts : List Action), f.method = m → f.locked = none → f.entered = [] → (doReturn e (T.setTop f) acts (some (.int z))).1 = T.setFrames fs) : Steps p.tables e below (T.setTop (mkF m pc Ls (.int z :: rest))) (T.setFrames fs) := by
  have hm' : T.vm.method? m = some meth := X.method'
  have hn : narrow .int (.int z) = .int z := rfl
  show Steps p.tables e below (T.setTop { method := m, pc := pc, locals := Ls, stack := _ :: rest, locked := none }) _
  jvm_step X.here [X.here.top, hx, hd, hm', hret, hn]
  first | (intro acts; rw [hl _ acts rfl rfl rfl]) | rw [hl _ _ rfl rfl rfl]
  exact Steps.refl _
end New
end Jvm.RoadKit
namespace Jvm.Pilot.@@N@@
open Jvm Jvm.ClassFile Sem Op Lib Jvm.Free Jvm.Stand Jvm.LawKit Jvm.RoadKit Bundle Jvm.Pilot.@@N@@.Jvm.D
abbrev vi (x : Int32) : Slot := .val (.int x)
abbrev vj (x : Int64) : Slot := .val (.long x)
abbrev vr (x : Addr) : Slot := .val (.ref x)
abbrev vN : Slot := .val .null
abbrev un : Slot := .unset
abbrev SS (p : Program) (e : Env) (below : List Frame) (m : MethodId) (T : State) (pc : Nat) (L : Array Slot) (S : List Value) (t : State) : Prop := Steps p.tables e below (T.setTop (mkF m pc L S)) t
theorem ww {a0 : Array Value} {Z : State} (hw : ∀ d ∈ tables_1, d.before a0 Z = true) (i : Nat) {d : Jvm.Cond} (h : tables_1[i]? = some d) : d.before a0 Z = true := hw _ (List.mem_of_getElem? h)
abbrev y_0 : MethodName := ⟨"java/lang/String", "coder", "()B"⟩
abbrev y_1 : MethodName := ⟨"java/lang/String", "length", "()I"⟩
abbrev y_2 : MethodName := ⟨"java/lang/String", "isLatin1", "()Z"⟩
abbrev y_3 : MethodName := ⟨"jdk/internal/util/Preconditions", "checkIndex", "(IILjava/util/function/BiFunction;)I"⟩
abbrev y_4 : MethodName := ⟨"java/lang/String", "checkIndex", "(II)V"⟩
abbrev y_5 : MethodName := ⟨"java/lang/StringLatin1", "charAt", "([BI)C"⟩
abbrev y_6 : MethodName := ⟨"java/lang/String", "charAt", "(I)C"⟩
abbrev y_7 : MethodName := ⟨"java/lang/AbstractStringBuilder", "getValue", "()[B"⟩
abbrev y_8 : MethodName := ⟨"java/lang/AbstractStringBuilder", "<init>", "(I)V"⟩
abbrev y_9 : MethodName := ⟨"java/lang/StringBuilder", "<init>", "()V"⟩
abbrev y_10 : MethodName := ⟨"java/lang/AbstractStringBuilder", "ensureCapacityInternal", "(I)V"⟩
abbrev y_11 : MethodName := ⟨"java/lang/AbstractStringBuilder", "inflateIfNeededFor", "(Ljava/lang/String;)V"⟩
abbrev y_12 : MethodName := ⟨"java/lang/String", "getBytes", "([BIB)V"⟩
abbrev y_13 : MethodName := ⟨"java/lang/AbstractStringBuilder", "putStringAt", "(ILjava/lang/String;)V"⟩
abbrev y_14 : MethodName := ⟨"java/lang/AbstractStringBuilder", "append", "(Ljava/lang/String;)Ljava/lang/AbstractStringBuilder;"⟩
abbrev y_15 : MethodName := ⟨"java/lang/StringBuilder", "append", "(Ljava/lang/String;)Ljava/lang/StringBuilder;"⟩
abbrev y_16 : MethodName := ⟨"java/lang/AbstractStringBuilder", "length", "()I"⟩
abbrev y_17 : MethodName := ⟨"java/lang/StringBuilder", "length", "()I"⟩
abbrev y_18 : MethodName := ⟨"java/lang/AbstractStringBuilder", "isLatin1", "()Z"⟩
abbrev y_19 : MethodName := ⟨"java/util/Arrays", "checkLength", "(II)V"⟩
abbrev y_20 : MethodName := ⟨"java/lang/Math", "min", "(II)I"⟩
abbrev y_21 : MethodName := ⟨"java/util/Arrays", "copyOfRangeByte", "([BII)[B"⟩
abbrev y_22 : MethodName := ⟨"java/util/Arrays", "copyOfRange", "([BII)[B"⟩
abbrev y_23 : MethodName := ⟨"java/lang/String", "<init>", "(Ljava/lang/AbstractStringBuilder;Ljava/lang/Void;)V"⟩
abbrev y_24 : MethodName := ⟨"java/lang/String", "<init>", "(Ljava/lang/StringBuilder;)V"⟩
abbrev y_25 : MethodName := ⟨"java/lang/StringBuilder", "toString", "()Ljava/lang/String;"⟩
abbrev y_26 : MethodName := ⟨"java/lang/Record", "<init>", "()V"⟩
abbrev y_27 : MethodName := ⟨"java/lang/String", "<init>", "([CIILjava/lang/Void;)V"⟩
abbrev y_28 : MethodName := ⟨"java/lang/String", "<init>", "([C)V"⟩
abbrev y_29 : MethodName := ⟨"java/lang/StringUTF16", "compress", "([CI[BII)I"⟩
abbrev y_30 : MethodName := ⟨"java/lang/StringUTF16", "compress", "([CII)[B"⟩
abbrev y_31 : MethodName := ⟨"java/lang/StringUTF16", "coderFromArrayLen", "([BI)B"⟩
abbrev y_32 : MethodName := ⟨"java/lang/String", "startsWith", "(Ljava/lang/String;I)Z"⟩
abbrev y_33 : MethodName := ⟨"jdk/internal/util/ArraysSupport", "mismatch", "([BI[BII)I"⟩
abbrev y_34 : MethodName := ⟨"java/lang/String", "endsWith", "(Ljava/lang/String;)Z"⟩
abbrev y_35 : MethodName := ⟨"com/example/federant/federant/saml/HubEndpointsUnderPinLaw", "at", "(Ljava/lang/String;I[CILjava/lang/String;)Z"⟩
abbrev y_36 : MethodName := ⟨"com/example/federant/federant/saml/HubEndpointsUnderPinLaw", "matches", "(Ljava/lang/String;[CILjava/lang/String;)Z"⟩
abbrev y_37 : MethodName := ⟨"com/example/federant/federant/saml/HubEndpoints", "<init>", "(Ljava/lang/String;Ljava/lang/String;Ljava/lang/String;)V"⟩
abbrev y_38 : MethodName := ⟨"com/example/federant/federant/saml/HubEndpoints", "entityId", "()Ljava/lang/String;"⟩
abbrev y_39 : MethodName := ⟨"com/example/federant/federant/saml/HubEndpoints", "metadata", "()Ljava/lang/String;"⟩
abbrev y_40 : MethodName := ⟨"com/example/federant/federant/saml/HubEndpoints", "assertionConsumer", "()Ljava/lang/String;"⟩
abbrev y_41 : MethodName := ⟨"com/example/federant/federant/saml/HubEndpoints", "under", "(Ljava/lang/String;)Lcom/example/federant/federant/saml/HubEndpoints;"⟩
abbrev y_42 : MethodName := ⟨"com/example/federant/federant/saml/HubEndpointsUnderPinLaw", "noSlash", "(I)C"⟩
theorem own_fld {args : Array Value} {s : State} {t : Term} {C f d : String} {k : Int32} {w : Addr} (ev : t.eval args s none [] s = some (.ref w)) (h : (Jvm.Cond.eq (Term.field t C f d) (Term.int k)).value args s none s [] = some true) : Fld s s.heap w C f d (.int k) := Fld.start ((fld_at ev).symm.trans (eqv_i (Term.int_eval k) h))
theorem own_shr0 (x : Int32) : x >>> ((0 : Int32) &&& 31) = x := by
  rw [← Int32.toInt_inj, c_ishr x 0 0 (by decide)]; simp
theorem own_shl0 (x : Int32) : x <<< ((0 : Int32) &&& 31) = x := by
  have h := c_ishl x 0 0 (by decide); have r1 := rng32 x; have r2 := rng32 (x <<< ((0 : Int32) &&& 31))
  have e : ((2 ^ 0 : Nat) : Int) = 1 := rfl
  rw [e] at h; rw [← Int32.toInt_inj]; omega
theorem own_lne {x y : Int32} (h : x < y) : ¬ x = y := fun e => by subst e; exact absurd h (by simp [Int32.lt_irrefl])
theorem own_sub0 (x : Int32) : x - (0 : Int32) = x := by simp
def own_b (x : Int32) : Int32 := x.toInt8.toInt32
theorem own_bb (x : Int32) : (x.toInt8.toInt32).toInt8.toInt32 = own_b x := by simp [own_b]
theorem own_nc (x : Int32) : nar .char ((x &&& (255 : Int32)).toUInt32.toUInt16.toUInt32.toInt32) = x &&& (255 : Int32) := by
  show ((x &&& (255 : Int32)).toUInt32.toUInt16.toUInt32.toInt32).toUInt32.toUInt16.toUInt32.toInt32 = _
  rw [i2c_mask, i2c_mask]
theorem own_n255 (x : Int32) : nar .char (x &&& (255 : Int32)) = x &&& (255 : Int32) := i2c_mask x
theorem own_safe {Z : State} {EL : List (String × Nat)} {vm : Vm} {h : Heap} {x : Addr} (hal : Z.vm.Alike vm) (E : Exa Z h x "java/lang/String") (F : Fld Z h x "java/lang/String" "value" "[B" .null) : Safe Z EL vm h x := fun B => by
  obtain ⟨p, hp, u, a, hb, q, hq, S, rfl | rfl⟩ := B
  · obtain ⟨cS, ⟨⟨s1, s2, s3, ⟨cv, kv, iv, s4, s4'⟩, -, s6, s7, s8, -⟩, -⟩, -⟩ := S
    obtain ⟨cell, cf, k, i, f, h1, h2, h3, h4, h5, h6, h7⟩ := F
    cases (show h[q.sa]? = some q.sC from s1).symm.trans h1
    obtain ⟨kv', z4⟩ := ff_back (U := Wst Z vm h) hal s4
    cases h2.symm.trans z4
    rw [h7] at s8; cases s8
  · obtain ⟨cell, kx, e1, e2, -⟩ := E
    cases (show h[q.sd]? = some q.SA from S.hd).symm.trans e1
    obtain ⟨cS, -, -, hB, -⟩ := S
    have hB' : Z.vm.findClass "[B" = some q.SA.cls := by rw [← hal.findClass]; exact hB
    exact ids_ne e2 hB' (by decide) rfl
theorem own_sm {Z : State} {a0 : Array Value} {y y2 : MethodName} {C : String} (w1 : (Jvm.Cond.declares y).before a0 Z = true) (w2 : (Jvm.Cond.selects C y2 y2).before a0 Z = true) (w3 : (Jvm.Cond.instanceMethod y2).before a0 Z = true) (hc : y2.cls = y.cls) (hn : y.cls ≠ "java/lang/invoke/MethodHandle" ∧ y.cls ≠ "java/lang/invoke/VarHandle") : (Jvm.Cond.sameMethod y.cls y.cls y.name y.desc).before a0 Z = true := by
  obtain ⟨r, meth, q1, q2, -⟩ := Cond.declares_spec w1
  obtain ⟨r2, meth2, p1, -⟩ := Cond.instanceMethod_spec w3
  obtain ⟨kr, hk, hi⟩ := notFace_of_selects w2 r2 p1
  have f1 := findClass_of_methodNamed q1
  have f2 := findClass_of_methodNamed p1
  rw [hc] at f2
  have ec : r2.cls = r.cls := Option.some.inj (f2.symm.trans f1)
  rw [ec] at hk
  obtain ⟨kn, hkn, hnm⟩ := Vm.findClass_spec f1
  cases hk.symm.trans hkn
  have q1' := q1
  simp only [State.methodNamed?, f1, hk, Option.bind_eq_bind, Option.bind_some, Option.pure_def] at q1'
  obtain ⟨j, hj, ej⟩ := Option.bind_eq_some_iff.mp q1'
  have ej' : (⟨r.cls, j⟩ : MethodId) = r := Option.some.inj ej
  have hm : (kr.methods[j]?).isSome := by
    rw [← ej'] at q2
    simp only [Vm.method?, hk, Option.bind_eq_bind, Option.bind_some] at q2
    rw [q2]; rfl
  have hf := State.methodFound?_declared (name := y.name) (desc := y.desc) f1 hk (fun z => by simp [signaturePolymorphic, hnm, hn.1, hn.2]) hj hm
  rw [ej'] at hf
  have q3 : Z.methodNamed? ⟨y.cls, y.name, y.desc⟩ = some r := q1
  simp [Cond.before, Cond.holds, Cond.value, f1, hf, q3, hk, hi]
theorem own_decl {args : Array Value} {s : State} {y : MethodName} {bytes : ByteArray} {maxL : Nat} {ret : Option FieldType} (wc : (Jvm.Cond.code y bytes maxL ret).before args s = true) (wi : (Jvm.Cond.instanceMethod y).before args s = true) : (Jvm.Cond.declares y).before args s = true := by
  obtain ⟨mk, meth, hn, hm, hst, -⟩ := Cond.instanceMethod_spec wi
  obtain ⟨m2, c2, q1, -, -, -, -, -, -, hsig⟩ := Cond.code_spec hn wc
  cases hm.symm.trans q1
  simp [Cond.before, Cond.holds, Cond.value, hn, hm, hst, hsig]
theorem own_nf {args : Array Value} {s : State} {y y2 : MethodName} {C : String} (w2 : (Jvm.Cond.selects C y2 y2).before args s = true) (w3 : (Jvm.Cond.instanceMethod y2).before args s = true) (hc : y2.cls = y.cls) : NotFace s y := fun r0 h0 => by
  obtain ⟨r2, meth2, p1, -⟩ := Cond.instanceMethod_spec w3
  obtain ⟨kr, hk, hi⟩ := notFace_of_selects w2 r2 p1
  have f1 := findClass_of_methodNamed h0
  have f2 := findClass_of_methodNamed p1
  rw [hc] at f2
  have ec : r2.cls = r0.cls := Option.some.inj (f2.symm.trans f1)
  rw [ec] at hk
  exact ⟨kr, hk, hi⟩
theorem own_bnd (x : Int32) : 0 ≤ (x &&& (255 : Int32)).toInt ∧ (x &&& (255 : Int32)).toInt ≤ 255 := c_and x 255 (by decide)
theorem own_le (x : Int32) : ¬ (255 : Int32) < x &&& (255 : Int32) := by
  rw [Int32.lt_iff_toInt_lt]; have := own_bnd x; have e : (255 : Int32).toInt = 255 := by decide
  omega
theorem own_b47 {x : Int32} (h : ¬ x &&& (255 : Int32) = 47) : ¬ own_b (x &&& (255 : Int32)) = 47 := fun g => h (by
  have h1 := c_i2b (x &&& 255); have b1 := own_bnd x
  have e : (own_b (x &&& 255)).toInt = (47 : Int32).toInt := by rw [g]
  have e2 : (47 : Int32).toInt = 47 := by decide
  rw [← Int32.toInt_inj]; simp only [own_b] at e; omega)
theorem own_n4 (p : Int32) : p &&& (3 : Int32) = 0 ∨ p &&& (3 : Int32) = 1 ∨ p &&& (3 : Int32) = 2 ∨ p &&& (3 : Int32) = 3 := by
  have h := c_mask p 3 2 (by decide) (by decide)
  have e0 : (0 : Int32).toInt = 0 := by decide
  have e1 : (1 : Int32).toInt = 1 := by decide
  have e2 : (2 : Int32).toInt = 2 := by decide
  have e3 : (3 : Int32).toInt = 3 := by decide
  simp only [← Int32.toInt_inj, e0, e1, e2, e3]
  omega
theorem own_f0 {k : Int32} {P : Prop} (h0 : ¬ k < (0 : Int32)) (h : k < (0 : Int32)) : P := absurd h h0
theorem own_f1 {k : Int32} (h0 : ¬ k < (0 : Int32)) (h : k < (1 : Int32)) : k = (0 : Int32) := by
  rw [Int32.lt_iff_toInt_lt] at h0 h
  have e0 : (0 : Int32).toInt = 0 := by decide
  have e1 : (1 : Int32).toInt = 1 := by decide
  simp only [← Int32.toInt_inj, e0, e1] at h0 h ⊢
  omega
theorem own_f2 {k : Int32} (h0 : ¬ k < (0 : Int32)) (h : k < (2 : Int32)) : k = (0 : Int32) ∨ k = (1 : Int32) := by
  rw [Int32.lt_iff_toInt_lt] at h0 h
  have e0 : (0 : Int32).toInt = 0 := by decide
  have e1 : (1 : Int32).toInt = 1 := by decide
  have e2 : (2 : Int32).toInt = 2 := by decide
  simp only [← Int32.toInt_inj, e0, e1, e2] at h0 h ⊢
  omega
theorem own_f3 {k : Int32} (h0 : ¬ k < (0 : Int32)) (h : k < (3 : Int32)) : k = (0 : Int32) ∨ k = (1 : Int32) ∨ k = (2 : Int32) := by
  rw [Int32.lt_iff_toInt_lt] at h0 h
  have e0 : (0 : Int32).toInt = 0 := by decide
  have e1 : (1 : Int32).toInt = 1 := by decide
  have e2 : (2 : Int32).toInt = 2 := by decide
  have e3 : (3 : Int32).toInt = 3 := by decide
  simp only [← Int32.toInt_inj, e0, e1, e2, e3] at h0 h ⊢
  omega
theorem own_f4 {k : Int32} (h0 : ¬ k < (0 : Int32)) (h : k < (4 : Int32)) : k = (0 : Int32) ∨ k = (1 : Int32) ∨ k = (2 : Int32) ∨ k = (3 : Int32) := by
  rw [Int32.lt_iff_toInt_lt] at h0 h
  have e0 : (0 : Int32).toInt = 0 := by decide
  have e1 : (1 : Int32).toInt = 1 := by decide
  have e2 : (2 : Int32).toInt = 2 := by decide
  have e3 : (3 : Int32).toInt = 3 := by decide
  have e4 : (4 : Int32).toInt = 4 := by decide
  simp only [← Int32.toInt_inj, e0, e1, e2, e3, e4] at h0 h ⊢
  omega
theorem own_f5 {k : Int32} (h0 : ¬ k < (0 : Int32)) (h : k < (5 : Int32)) : k = (0 : Int32) ∨ k = (1 : Int32) ∨ k = (2 : Int32) ∨ k = (3 : Int32) ∨ k = (4 : Int32) := by
  rw [Int32.lt_iff_toInt_lt] at h0 h
  have e0 : (0 : Int32).toInt = 0 := by decide
  have e1 : (1 : Int32).toInt = 1 := by decide
  have e2 : (2 : Int32).toInt = 2 := by decide
  have e3 : (3 : Int32).toInt = 3 := by decide
  have e4 : (4 : Int32).toInt = 4 := by decide
  have e5 : (5 : Int32).toInt = 5 := by decide
  simp only [← Int32.toInt_inj, e0, e1, e2, e3, e4, e5] at h0 h ⊢
  omega
theorem own_f6 {k : Int32} (h0 : ¬ k < (0 : Int32)) (h : k < (6 : Int32)) : k = (0 : Int32) ∨ k = (1 : Int32) ∨ k = (2 : Int32) ∨ k = (3 : Int32) ∨ k = (4 : Int32) ∨ k = (5 : Int32) := by
  rw [Int32.lt_iff_toInt_lt] at h0 h
  have e0 : (0 : Int32).toInt = 0 := by decide
  have e1 : (1 : Int32).toInt = 1 := by decide
  have e2 : (2 : Int32).toInt = 2 := by decide
  have e3 : (3 : Int32).toInt = 3 := by decide
  have e4 : (4 : Int32).toInt = 4 := by decide
  have e5 : (5 : Int32).toInt = 5 := by decide
  have e6 : (6 : Int32).toInt = 6 := by decide
  simp only [← Int32.toInt_inj, e0, e1, e2, e3, e4, e5, e6] at h0 h ⊢
  omega
theorem own_f7 {k : Int32} (h0 : ¬ k < (0 : Int32)) (h : k < (7 : Int32)) : k = (0 : Int32) ∨ k = (1 : Int32) ∨ k = (2 : Int32) ∨ k = (3 : Int32) ∨ k = (4 : Int32) ∨ k = (5 : Int32) ∨ k = (6 : Int32) := by
  rw [Int32.lt_iff_toInt_lt] at h0 h
  have e0 : (0 : Int32).toInt = 0 := by decide
  have e1 : (1 : Int32).toInt = 1 := by decide
  have e2 : (2 : Int32).toInt = 2 := by decide
  have e3 : (3 : Int32).toInt = 3 := by decide
  have e4 : (4 : Int32).toInt = 4 := by decide
  have e5 : (5 : Int32).toInt = 5 := by decide
  have e6 : (6 : Int32).toInt = 6 := by decide
  have e7 : (7 : Int32).toInt = 7 := by decide
  simp only [← Int32.toInt_inj, e0, e1, e2, e3, e4, e5, e6, e7] at h0 h ⊢
  omega
theorem own_f8 {k : Int32} (h0 : ¬ k < (0 : Int32)) (h : k < (8 : Int32)) : k = (0 : Int32) ∨ k = (1 : Int32) ∨ k = (2 : Int32) ∨ k = (3 : Int32) ∨ k = (4 : Int32) ∨ k = (5 : Int32) ∨ k = (6 : Int32) ∨ k = (7 : Int32) := by
  rw [Int32.lt_iff_toInt_lt] at h0 h
  have e0 : (0 : Int32).toInt = 0 := by decide
  have e1 : (1 : Int32).toInt = 1 := by decide
  have e2 : (2 : Int32).toInt = 2 := by decide
  have e3 : (3 : Int32).toInt = 3 := by decide
  have e4 : (4 : Int32).toInt = 4 := by decide
  have e5 : (5 : Int32).toInt = 5 := by decide
  have e6 : (6 : Int32).toInt = 6 := by decide
  have e7 : (7 : Int32).toInt = 7 := by decide
  have e8 : (8 : Int32).toInt = 8 := by decide
  simp only [← Int32.toInt_inj, e0, e1, e2, e3, e4, e5, e6, e7, e8] at h0 h ⊢
  omega
theorem own_f9 {k : Int32} (h0 : ¬ k < (0 : Int32)) (h : k < (9 : Int32)) : k = (0 : Int32) ∨ k = (1 : Int32) ∨ k = (2 : Int32) ∨ k = (3 : Int32) ∨ k = (4 : Int32) ∨ k = (5 : Int32) ∨ k = (6 : Int32) ∨ k = (7 : Int32) ∨ k = (8 : Int32) := by
  rw [Int32.lt_iff_toInt_lt] at h0 h
  have e0 : (0 : Int32).toInt = 0 := by decide
  have e1 : (1 : Int32).toInt = 1 := by decide
  have e2 : (2 : Int32).toInt = 2 := by decide
  have e3 : (3 : Int32).toInt = 3 := by decide
  have e4 : (4 : Int32).toInt = 4 := by decide
  have e5 : (5 : Int32).toInt = 5 := by decide
  have e6 : (6 : Int32).toInt = 6 := by decide
  have e7 : (7 : Int32).toInt = 7 := by decide
  have e8 : (8 : Int32).toInt = 8 := by decide
  have e9 : (9 : Int32).toInt = 9 := by decide
  simp only [← Int32.toInt_inj, e0, e1, e2, e3, e4, e5, e6, e7, e8, e9] at h0 h ⊢
  omega
theorem own_f10 {k : Int32} (h0 : ¬ k < (0 : Int32)) (h : k < (10 : Int32)) : k = (0 : Int32) ∨ k = (1 : Int32) ∨ k = (2 : Int32) ∨ k = (3 : Int32) ∨ k = (4 : Int32) ∨ k = (5 : Int32) ∨ k = (6 : Int32) ∨ k = (7 : Int32) ∨ k = (8 : Int32) ∨ k = (9 : Int32) := by
  rw [Int32.lt_iff_toInt_lt] at h0 h
  have e0 : (0 : Int32).toInt = 0 := by decide
  have e1 : (1 : Int32).toInt = 1 := by decide
  have e2 : (2 : Int32).toInt = 2 := by decide
  have e3 : (3 : Int32).toInt = 3 := by decide
  have e4 : (4 : Int32).toInt = 4 := by decide
  have e5 : (5 : Int32).toInt = 5 := by decide
  have e6 : (6 : Int32).toInt = 6 := by decide
  have e7 : (7 : Int32).toInt = 7 := by decide
  have e8 : (8 : Int32).toInt = 8 := by decide
  have e9 : (9 : Int32).toInt = 9 := by decide
  have e10 : (10 : Int32).toInt = 10 := by decide
  simp only [← Int32.toInt_inj, e0, e1, e2, e3, e4, e5, e6, e7, e8, e9, e10] at h0 h ⊢
  omega
theorem own_f11 {k : Int32} (h0 : ¬ k < (0 : Int32)) (h : k < (11 : Int32)) : k = (0 : Int32) ∨ k = (1 : Int32) ∨ k = (2 : Int32) ∨ k = (3 : Int32) ∨ k = (4 : Int32) ∨ k = (5 : Int32) ∨ k = (6 : Int32) ∨ k = (7 : Int32) ∨ k = (8 : Int32) ∨ k = (9 : Int32) ∨ k = (10 : Int32) := by
  rw [Int32.lt_iff_toInt_lt] at h0 h
  have e0 : (0 : Int32).toInt = 0 := by decide
  have e1 : (1 : Int32).toInt = 1 := by decide
  have e2 : (2 : Int32).toInt = 2 := by decide
  have e3 : (3 : Int32).toInt = 3 := by decide
  have e4 : (4 : Int32).toInt = 4 := by decide
  have e5 : (5 : Int32).toInt = 5 := by decide
  have e6 : (6 : Int32).toInt = 6 := by decide
  have e7 : (7 : Int32).toInt = 7 := by decide
  have e8 : (8 : Int32).toInt = 8 := by decide
  have e9 : (9 : Int32).toInt = 9 := by decide
  have e10 : (10 : Int32).toInt = 10 := by decide
  have e11 : (11 : Int32).toInt = 11 := by decide
  simp only [← Int32.toInt_inj, e0, e1, e2, e3, e4, e5, e6, e7, e8, e9, e10, e11] at h0 h ⊢
  omega
theorem own_f12 {k : Int32} (h0 : ¬ k < (0 : Int32)) (h : k < (12 : Int32)) : k = (0 : Int32) ∨ k = (1 : Int32) ∨ k = (2 : Int32) ∨ k = (3 : Int32) ∨ k = (4 : Int32) ∨ k = (5 : Int32) ∨ k = (6 : Int32) ∨ k = (7 : Int32) ∨ k = (8 : Int32) ∨ k = (9 : Int32) ∨ k = (10 : Int32) ∨ k = (11 : Int32) := by
  rw [Int32.lt_iff_toInt_lt] at h0 h
  have e0 : (0 : Int32).toInt = 0 := by decide
  have e1 : (1 : Int32).toInt = 1 := by decide
  have e2 : (2 : Int32).toInt = 2 := by decide
  have e3 : (3 : Int32).toInt = 3 := by decide
  have e4 : (4 : Int32).toInt = 4 := by decide
  have e5 : (5 : Int32).toInt = 5 := by decide
  have e6 : (6 : Int32).toInt = 6 := by decide
  have e7 : (7 : Int32).toInt = 7 := by decide
  have e8 : (8 : Int32).toInt = 8 := by decide
  have e9 : (9 : Int32).toInt = 9 := by decide
  have e10 : (10 : Int32).toInt = 10 := by decide
  have e11 : (11 : Int32).toInt = 11 := by decide
  have e12 : (12 : Int32).toInt = 12 := by decide
  simp only [← Int32.toInt_inj, e0, e1, e2, e3, e4, e5, e6, e7, e8, e9, e10, e11, e12] at h0 h ⊢
  omega
theorem own_f13 {k : Int32} (h0 : ¬ k < (0 : Int32)) (h : k < (13 : Int32)) : k = (0 : Int32) ∨ k = (1 : Int32) ∨ k = (2 : Int32) ∨ k = (3 : Int32) ∨ k = (4 : Int32) ∨ k = (5 : Int32) ∨ k = (6 : Int32) ∨ k = (7 : Int32) ∨ k = (8 : Int32) ∨ k = (9 : Int32) ∨ k = (10 : Int32) ∨ k = (11 : Int32) ∨ k = (12 : Int32) := by
  rw [Int32.lt_iff_toInt_lt] at h0 h
  have e0 : (0 : Int32).toInt = 0 := by decide
  have e1 : (1 : Int32).toInt = 1 := by decide
  have e2 : (2 : Int32).toInt = 2 := by decide
  have e3 : (3 : Int32).toInt = 3 := by decide
  have e4 : (4 : Int32).toInt = 4 := by decide
  have e5 : (5 : Int32).toInt = 5 := by decide
  have e6 : (6 : Int32).toInt = 6 := by decide
  have e7 : (7 : Int32).toInt = 7 := by decide
  have e8 : (8 : Int32).toInt = 8 := by decide
  have e9 : (9 : Int32).toInt = 9 := by decide
  have e10 : (10 : Int32).toInt = 10 := by decide
  have e11 : (11 : Int32).toInt = 11 := by decide
  have e12 : (12 : Int32).toInt = 12 := by decide
  have e13 : (13 : Int32).toInt = 13 := by decide
  simp only [← Int32.toInt_inj, e0, e1, e2, e3, e4, e5, e6, e7, e8, e9, e10, e11, e12, e13] at h0 h ⊢
  omega
theorem own_f14 {k : Int32} (h0 : ¬ k < (0 : Int32)) (h : k < (14 : Int32)) : k = (0 : Int32) ∨ k = (1 : Int32) ∨ k = (2 : Int32) ∨ k = (3 : Int32) ∨ k = (4 : Int32) ∨ k = (5 : Int32) ∨ k = (6 : Int32) ∨ k = (7 : Int32) ∨ k = (8 : Int32) ∨ k = (9 : Int32) ∨ k = (10 : Int32) ∨ k = (11 : Int32) ∨ k = (12 : Int32) ∨ k = (13 : Int32) := by
  rw [Int32.lt_iff_toInt_lt] at h0 h
  have e0 : (0 : Int32).toInt = 0 := by decide
  have e1 : (1 : Int32).toInt = 1 := by decide
  have e2 : (2 : Int32).toInt = 2 := by decide
  have e3 : (3 : Int32).toInt = 3 := by decide
  have e4 : (4 : Int32).toInt = 4 := by decide
  have e5 : (5 : Int32).toInt = 5 := by decide
  have e6 : (6 : Int32).toInt = 6 := by decide
  have e7 : (7 : Int32).toInt = 7 := by decide
  have e8 : (8 : Int32).toInt = 8 := by decide
  have e9 : (9 : Int32).toInt = 9 := by decide
  have e10 : (10 : Int32).toInt = 10 := by decide
  have e11 : (11 : Int32).toInt = 11 := by decide
  have e12 : (12 : Int32).toInt = 12 := by decide
  have e13 : (13 : Int32).toInt = 13 := by decide
  have e14 : (14 : Int32).toInt = 14 := by decide
  simp only [← Int32.toInt_inj, e0, e1, e2, e3, e4, e5, e6, e7, e8, e9, e10, e11, e12, e13, e14] at h0 h ⊢
  omega
theorem own_f15 {k : Int32} (h0 : ¬ k < (0 : Int32)) (h : k < (15 : Int32)) : k = (0 : Int32) ∨ k = (1 : Int32) ∨ k = (2 : Int32) ∨ k = (3 : Int32) ∨ k = (4 : Int32) ∨ k = (5 : Int32) ∨ k = (6 : Int32) ∨ k = (7 : Int32) ∨ k = (8 : Int32) ∨ k = (9 : Int32) ∨ k = (10 : Int32) ∨ k = (11 : Int32) ∨ k = (12 : Int32) ∨ k = (13 : Int32) ∨ k = (14 : Int32) := by
  rw [Int32.lt_iff_toInt_lt] at h0 h
  have e0 : (0 : Int32).toInt = 0 := by decide
  have e1 : (1 : Int32).toInt = 1 := by decide
  have e2 : (2 : Int32).toInt = 2 := by decide
  have e3 : (3 : Int32).toInt = 3 := by decide
  have e4 : (4 : Int32).toInt = 4 := by decide
  have e5 : (5 : Int32).toInt = 5 := by decide
  have e6 : (6 : Int32).toInt = 6 := by decide
  have e7 : (7 : Int32).toInt = 7 := by decide
  have e8 : (8 : Int32).toInt = 8 := by decide
  have e9 : (9 : Int32).toInt = 9 := by decide
  have e10 : (10 : Int32).toInt = 10 := by decide
  have e11 : (11 : Int32).toInt = 11 := by decide
  have e12 : (12 : Int32).toInt = 12 := by decide
  have e13 : (13 : Int32).toInt = 13 := by decide
  have e14 : (14 : Int32).toInt = 14 := by decide
  have e15 : (15 : Int32).toInt = 15 := by decide
  simp only [← Int32.toInt_inj, e0, e1, e2, e3, e4, e5, e6, e7, e8, e9, e10, e11, e12, e13, e14, e15] at h0 h ⊢
  omega
abbrev EL : List (String × Nat) := consts_1
theorem own_hEL {a0 : Array Value} {Z : State} (hw : ∀ d ∈ tables_1, d.before a0 Z = true) : EW Z a0 EL := (EW.cons (ww hw 26 rfl) (by decide) (EW.cons (ww hw 106 rfl) (by decide) (EW.cons (ww hw 152 rfl) (by decide) (EW.cons (ww hw 153 rfl) (by decide) (EW.cons (ww hw 174 rfl) (by decide) (EW.cons (ww hw 210 rfl) (by decide) (EW.cons (ww hw 216 rfl) (by decide) (EW.cons (ww hw 14 rfl) (by decide) EW.nil))))))))
theorem own_wS {a0 : Array Value} {Z : State} (hw : ∀ d ∈ tables_1, d.before a0 Z = true) : ∀ a ∈ Bundle.stringAtoms, a.before a0 Z = true := fun d hd => by
  simp only [Bundle.stringAtoms, List.mem_cons, List.not_mem_nil, or_false] at hd
  rcases hd with rfl | rfl | rfl | rfl | rfl | rfl | rfl
  · exact ww hw 3 rfl
  · exact ww hw 2 rfl
  · exact ww hw 15 rfl
  · exact ww hw 16 rfl
  · exact ww hw 17 rfl
  · exact ww hw 18 rfl
  · exact ww hw 19 rfl
abbrev nO : Value := .int (0 : Int32)
theorem own_toI {x : Int32} {k : Int} (h : 0 ≤ x.toInt ∧ x.toInt ≤ 255) : x &&& (255 : Int32) = x := by
  have h1 := c_mask x 255 8 (by decide) (by decide)
  rw [← Int32.toInt_inj]; omega
theorem own_back {x : Int32} (h : 0 ≤ x.toInt ∧ x.toInt ≤ 255) : (own_b x &&& (255 : Int32)) = x := by
  have h1 := c_mask (own_b x) 255 8 (by decide) (by decide); have h2 := c_i2b x
  simp only [own_b] at h1 ⊢
  rw [← Int32.toInt_inj]; omega
theorem own_x (p : Int32) : ∃ x, (p &&& (255 : Int32)).toUInt32.toUInt16.toUInt32.toInt32 = x ∧ ¬ (255 : Int32) < x ∧ nar .char x = x ∧ (own_b x &&& (255 : Int32)) = x := ⟨p &&& 255, i2c_mask p, own_le p, own_n255 p, own_back (own_bnd p)⟩
def own_ns (p : Int32) : Int32 := if ((p &&& (255 : Int32)) % (255 : Int32)) < (47 : Int32) then ((p &&& (255 : Int32)) % (255 : Int32)) else ((p &&& (255 : Int32)) % (255 : Int32)) + 1
theorem own_rem (p : Int32) : 0 ≤ ((p &&& (255 : Int32)) % (255 : Int32)).toInt ∧ ((p &&& (255 : Int32)) % (255 : Int32)).toInt ≤ 254 := by
  have h := own_bnd p
  have q := (c_irem (p &&& (255 : Int32)) 255 255 (by decide)).1 h.1
  omega
theorem own_nsr (p : Int32) : 0 ≤ (own_ns p).toInt ∧ (own_ns p).toInt ≤ 255 ∧ ¬ (own_ns p).toInt = 47 := by
  have h := own_rem p; have e : (47 : Int32).toInt = 47 := by decide
  have e1 : (1 : Int32).toInt = 1 := by decide
  unfold own_ns; split
  · rename_i q; rw [Int32.lt_iff_toInt_lt, e] at q; omega
  · rename_i q; rw [Int32.lt_iff_toInt_lt, e] at q
    have h2 := c_iadd ((p &&& (255 : Int32)) % (255 : Int32)) 1
    have r := rng32 (((p &&& (255 : Int32)) % (255 : Int32)) + 1)
    rw [e1] at h2; omega
theorem own_ns255 (p : Int32) : own_ns p &&& (255 : Int32) = own_ns p := own_toI (k := 0) ⟨(own_nsr p).1, (own_nsr p).2.1⟩
theorem own_nsp (p : Int32) : ¬ (255 : Int32) < own_ns p ∧ nar .char (own_ns p) = own_ns p ∧ ¬ own_b (own_ns p) = 47 ∧ (own_b (own_ns p) &&& (255 : Int32)) = own_ns p := by
  have h := own_nsr p; have e := own_ns255 p
  refine ⟨?_, ?_, fun g => ?_, own_back ⟨h.1, h.2.1⟩⟩
  · rw [← e]; exact own_le _
  · rw [← e]; exact own_n255 _
  · have b := own_back ⟨h.1, h.2.1⟩
    rw [g] at b
    exact h.2.2 (by rw [← b]; decide)
theorem own_nar2 (p : Int32) : nar .char ((own_ns p).toUInt32.toUInt16.toUInt32.toInt32) = own_ns p := by
  rw [← own_ns255 p]; exact own_nc _
theorem own_ns1 {p : Int32} (h : ((p &&& (255 : Int32)) % (255 : Int32)) < (47 : Int32)) : nar .char (((p &&& (255 : Int32)) % (255 : Int32)).toUInt32.toUInt16.toUInt32.toInt32) = own_ns p := by
  have q := own_nar2 p; rw [own_ns, if_pos h] at q ⊢; exact q
theorem own_ns2 {p : Int32} (h : ¬ ((p &&& (255 : Int32)) % (255 : Int32)) < (47 : Int32)) : nar .char ((((p &&& (255 : Int32)) % (255 : Int32)) + (1 : Int32)).toUInt32.toUInt16.toUInt32.toInt32) = own_ns p := by
  have q := own_nar2 p; rw [own_ns, if_neg h] at q ⊢; exact q
theorem d7_0 : decode jdk_42_method_152_code 0 = .ok (.getstatic 38, 3) := by decide +kernel
theorem d7_3 : decode jdk_42_method_152_code 3 = .ok (.ifCond .eq 10, 3) := by decide +kernel
theorem d7_6 : decode jdk_42_method_152_code 6 = .ok (.aload_n 0, 1) := by decide +kernel
theorem d7_7 : decode jdk_42_method_152_code 7 = .ok (.getfield 15, 3) := by decide +kernel
theorem d7_10 : decode jdk_42_method_152_code 10 = .ok (.goto 4, 3) := by decide +kernel
theorem d7_14 : decode jdk_42_method_152_code 14 = .ok (.ireturn, 1) := by decide +kernel
theorem pn_0 : plainName "java/lang/String" = true := by first | (simp [plainName, overriddenIn]; done) | decide +kernel
theorem ef_rm_coder (m : MethodId) (x0 : Addr) : entryFrame m #[(.ref x0)] 1 = mkF m 0 #[vr x0] [] := by first | (simp [entryFrame, mkF, argsToLocals, Value.category]; done) | rfl
def Q_rm_coder (Z : State) (a1 : Addr) (zc : Int32) (h0 : Heap) (n0 : Nat) (v : Option Value) (h : Heap) (L : List Loc) : Prop := (v = some (.int (0 : Int32))) ∧ (Fr n0 L) ∧ (h = h0)
set_option maxRecDepth 65536 in
set_option maxHeartbeats 40000000 in
theorem rm_coder (l : Launch) (Z : State) (a0 : Array Value) (hw : ∀ d ∈ tables_1, d.before a0 Z = true) (ws : List Jvm.Cond) (a1 : Addr) (zc : Int32) (h0 : Heap) (n0 : Nat) (Z0 : n0 ≤ h0.size) (O0 : Old Z n0 h0) (F_coder_a1 : Fld Z h0 a1 "java/lang/String" "coder" "B" (.int (0 : Int32))) (S_CS : Sta Z Z.heap "java/lang/String" "COMPACT_STRINGS" "Z" (.int zc)) (hz : ¬ zc = (0 : Int32)) :
    MetFree l y_0 (head1 (Jvm.Cond.code y_0 jdk_42_method_152_code 1 (some .byte) :: ws) ({ frames := 0, cells := 0, slots := 0, locals := 0 } : Room)) (fun a U => a = #[(.ref a1)] ∧ Z.Warmed39 U.vm ∧ U.heap = h0) (fun _ _ _ _ _ => True) (fun _ U o U' => ∃ v L, o = .returned v ∧ Q_rm_coder Z a1 zc h0 n0 v U'.heap L ∧ FrameEnd U o U' L ({ frames := 0, cells := 0, slots := 0, locals := 0 } : Room).cells ({ frames := 0, cells := 0, slots := 0, locals := 0 } : Room).slots) := by
  refine MetFree.of_bodySF (plainFor_of_name pn_0) hisR ?_
  intro p e s m args below meth c s₁ Bd hml0 hP hK
  obtain ⟨rfl, hZ, hh⟩ := hP
  have hx := Bd.exec
  have hby := Bd.bytes
  have hml : c.maxLocals = 1 := hml0
  have hown : s.vm.findClass "java/lang/String" = some m.cls := findClass_of_methodNamed Bd.named
  have hnm := (name_of_methodNamed Bd.named Bd.method).1
  have X0 : Stand p l e ({ frames := 0, cells := 0, slots := 0, locals := 0 } : Room) s m #[(.ref a1)] below meth c s₁ [] 0 0 := Stand.of_body Bd
  have e0 : s₁.heap = h0 := by rw [← hh, Bd.state]; rfl
  have N0 := Fr.nil n0
  have KC : Keep h0 h0 [] := Keep.refl h0 _
  have pre0 : ∀ t, Steps p.tables e below (s₁.setTop (mkF m 0 #[vr a1] [])) t → Steps p.tables e below (s₁.setTop (entryFrame m #[(.ref a1)] 1)) t := fun t k => castTop (ef_rm_coder m a1) k
  obtain ⟨T1, X1, e1, st1⟩ := getS2 X0 hx hZ hown (host := "") (Or.inl (ww hw 42 rfl)) Via.refl e0 (S_CS.ext O0.2) (g := (mkF m 0 #[vr a1] [])) rfl (hb hby d7_0)
  obtain ⟨T2, X2, e2, st2⟩ := getF X1 hx hZ hown (host := "") (Or.inl (ww hw 21 rfl)) Via.refl e1 F_coder_a1 (g := (mkF m 7 #[vr a1] [(.ref a1)])) rfl rfl (hb hby d7_7)
  obtain ⟨fs, hr, hrun, hended, hW, hsame⟩ := X2.leave (v := some (.int (0 : Int32))) (fun h => by rw [Bd.returns] at h; cases h)
  refine ⟨_, _, pre0 _ ?_, hrun, hended, _, _, rfl, ?_, ⟨_, rfl⟩, hW, hsame.mono (by decide) (by decide)⟩
  · show SS p e below m s₁ 0 #[vr a1] [] _
    refine st1 _ ?_
    show SS p e below m T1 3 #[vr a1] [(.int zc)] _
    refine XS.ifNo X1.here hx rfl (hb hby d7_3) rfl ((if0 _ _).trans (feq hz).1) ?_
    show SS p e below m T1 6 #[vr a1] [] _
    refine XS.aloadN X1.here hx rfl (hb hby d7_6) rfl rfl ?_
    show SS p e below m T1 7 #[vr a1] [(.ref a1)] _
    refine st2 _ ?_
    show SS p e below m T2 10 #[vr a1] [(.int (0 : Int32))] _
    refine XS.goto X2.here hx rfl (pc0 := 10) (pc' := 14) rfl (hb hby d7_10) (by decide) (by decide) ?_
    show SS p e below m T2 14 #[vr a1] [(.int (0 : Int32))] _
    exact retN X2 hx (t := .byte) Bd.returns (by simp) (hb hby d7_14) hr
  · show Q_rm_coder Z a1 zc h0 n0 _ T2.heap _
    rw [e2]
    exact ⟨rfl, N0, rfl⟩
theorem pd_0 : parseMethodDescriptor "()B" = some ⟨[], some .byte⟩ := by decide +kernel
theorem d6_0 : decode jdk_42_method_54_code 0 = .ok (.aload_n 0, 1) := by decide +kernel
theorem d6_1 : decode jdk_42_method_54_code 1 = .ok (.getfield 9, 3) := by decide +kernel
theorem d6_4 : decode jdk_42_method_54_code 4 = .ok (.arraylength, 1) := by decide +kernel
theorem d6_5 : decode jdk_42_method_54_code 5 = .ok (.aload_n 0, 1) := by decide +kernel
theorem d6_6 : decode jdk_42_method_54_code 6 = .ok (.invokevirtual 335, 3) := by decide +kernel
theorem d6_9 : decode jdk_42_method_54_code 9 = .ok (.ishr, 1) := by decide +kernel
theorem d6_10 : decode jdk_42_method_54_code 10 = .ok (.ireturn, 1) := by decide +kernel
theorem ef_rm_length (m : MethodId) (x0 : Addr) : entryFrame m #[(.ref x0)] 1 = mkF m 0 #[vr x0] [] := by first | (simp [entryFrame, mkF, argsToLocals, Value.category]; done) | rfl
def Q_rm_length (Z : State) (a1 : Addr) (ta : Addr) (k : ClassId) (z : Int32) (vs : List Value) (zc : Int32) (h0 : Heap) (n0 : Nat) (v : Option Value) (h : Heap) (L : List Loc) : Prop := (v = some (.int z)) ∧ (Fr n0 L) ∧ (h = h0)
set_option maxRecDepth 65536 in
set_option maxHeartbeats 40000000 in
theorem rm_length (l : Launch) (Z : State) (a0 : Array Value) (hw : ∀ d ∈ tables_1, d.before a0 Z = true) (ws : List Jvm.Cond) (a1 : Addr) (ta : Addr) (k : ClassId) (z : Int32) (vs : List Value) (zc : Int32) (h0 : Heap) (n0 : Nat) (Z0 : n0 ≤ h0.size) (O0 : Old Z n0 h0) (E_a1 : Exa Z h0 a1 "java/lang/String") (F_value_a1 : Fld Z h0 a1 "java/lang/String" "value" "[B" (.ref ta)) (F_coder_a1 : Fld Z h0 a1 "java/lang/String" "coder" "B" (.int (0 : Int32))) (V_ta : Arv Z h0 ta k .byte z vs (.int (0 : Int32))) (S_CS : Sta Z Z.heap "java/lang/String" "COMPACT_STRINGS" "Z" (.int zc)) (hz : ¬ zc = (0 : Int32)) :
    MetFree l y_1 (head1 (Jvm.Cond.code y_1 jdk_42_method_54_code 1 (some .int) :: ws) ({ frames := 1, cells := 0, slots := 0, locals := 13 } : Room)) (fun a U => a = #[(.ref a1)] ∧ Z.Warmed39 U.vm ∧ U.heap = h0) (fun _ _ _ _ _ => True) (fun _ U o U' => ∃ v L, o = .returned v ∧ Q_rm_length Z a1 ta k z vs zc h0 n0 v U'.heap L ∧ FrameEnd U o U' L ({ frames := 1, cells := 0, slots := 0, locals := 13 } : Room).cells ({ frames := 1, cells := 0, slots := 0, locals := 13 } : Room).slots) := by
  refine MetFree.of_bodySF (plainFor_of_name pn_0) hisR ?_
  intro p e s m args below meth c s₁ Bd hml0 hP hK
  obtain ⟨rfl, hZ, hh⟩ := hP
  have hx := Bd.exec
  have hby := Bd.bytes
  have hml : c.maxLocals = 1 := hml0
  have hown : s.vm.findClass "java/lang/String" = some m.cls := findClass_of_methodNamed Bd.named
  have hnm := (name_of_methodNamed Bd.named Bd.method).1
  have X0 : Stand p l e ({ frames := 1, cells := 0, slots := 0, locals := 13 } : Room) s m #[(.ref a1)] below meth c s₁ [] 0 0 := Stand.of_body Bd
  have e0 : s₁.heap = h0 := by rw [← hh, Bd.state]; rfl
  have N0 := Fr.nil n0
  have KC : Keep h0 h0 [] := Keep.refl h0 _
  have pre0 : ∀ t, Steps p.tables e below (s₁.setTop (mkF m 0 #[vr a1] [])) t → Steps p.tables e below (s₁.setTop (entryFrame m #[(.ref a1)] 1)) t := fun t k => castTop (ef_rm_length m a1) k
  obtain ⟨T1, X1, e1, st1⟩ := getF X0 hx hZ hown (host := "") (Or.inl (ww hw 20 rfl)) Via.refl e0 F_value_a1 (g := (mkF m 1 #[vr a1] [(.ref a1)])) rfl rfl (hb hby d6_1)
  have Vo2 := V_ta
  obtain ⟨cl2, Ar2, -, Sz2, Nn2, -, -⟩ := Vo2
  have ia2 := State.isArrayOf_alike hZ.alike Ar2.2.1
  obtain ⟨cq3, kq3, q3a, q3b, q3c⟩ := isOf hZ e1 E_a1
  obtain ⟨_, _, ⟨T3, L3, kz3, nz3⟩, -, X3, ⟨Lc3, hQ3, l3, y3, z3⟩, st3⟩ := X1.virtualBack hx (y := y_0) (z := y_0) hown (mvT hZ (ww hw 37 rfl)) (mvT hZ (ww hw 38 rfl)) (notFace_of_selects (args := #[]) (mvT hZ (ww hw 40 rfl))) (mvT hZ (ww hw 40 rfl)) (mvT hZ (ww hw 39 rfl)) (by decide) (backOf (W := 1) (rm_coder l Z a0 hw [] a1 zc h0 n0 (Nat.le_trans Z0 KC.1) O0 F_coder_a1 S_CS hz) hZ (ww hw 41 rfl) (ww hw 3 rfl) (by decide) (by decide)) q3a q3c (g := (mkF m 6 #[vr a1] [(.ref a1), (.int z)])) rfl (by rw [hml]; rfl) (Steps.refl _) (argsL := []) (rest := [(.int z)]) (lenOf pd_0 rfl) rfl (by show 2 * 0 + _ ≤ _; exact Nat.le_of_eq rfl) (hb hby d6_6) (fun _ _ => ⟨rfl, e1, (by decide : 0 + 0 ≤ _), (by decide : 0 + 0 ≤ _)⟩)
  dsimp only [Pt.U, Pt.locs, Pt.cells, Pt.slots] at X3 l3 y3 z3 st3 hQ3
  subst l3 y3 z3
  obtain ⟨rfl, N3q, e3⟩ := hQ3
  have N3 := Fr.app N0 N3q
  obtain ⟨fs, hr, hrun, hended, hW, hsame⟩ := X3.leave (v := some (.int (z >>> ((0 : Int32) &&& 31)))) (fun h => by rw [Bd.returns] at h; cases h)
  refine ⟨_, _, pre0 _ ?_, hrun, hended, _, _, rfl, ?_, ⟨_, rfl⟩, hW, hsame.mono (by decide) (by decide)⟩
  · show SS p e below m s₁ 0 #[vr a1] [] _
    refine XS.aloadN X0.here hx rfl (hb hby d6_0) rfl rfl ?_
    show SS p e below m s₁ 1 #[vr a1] [(.ref a1)] _
    refine st1 _ ?_
    show SS p e below m T1 4 #[vr a1] [(.ref ta)] _
    refine X1.arraylength hx (by rw [e1]; exact Ar2.1) ia2 (g := (mkF m 4 #[vr a1] [(.ref ta)])) rfl rfl (hb hby d6_4) _ ?_
    rw [len_of Sz2 Nn2]
    show SS p e below m T1 5 #[vr a1] [(.int z)] _
    refine XS.aloadN X1.here hx rfl (hb hby d6_5) rfl rfl ?_
    show SS p e below m T1 6 #[vr a1] [(.ref a1), (.int z)] _
    refine st3.trans ?_
    show SS p e below m T3 9 #[vr a1] [(.int (0 : Int32)), (.int z)] _
    refine XS.ishr X3.here hx rfl (hb hby d6_9) rfl ?_
    show SS p e below m T3 10 #[vr a1] [(.int (z >>> ((0 : Int32) &&& 31)))] _
    exact retI X3 hx Bd.returns (hb hby d6_10) hr
  · show Q_rm_length Z a1 ta k z vs zc h0 n0 _ T3.heap _
    rw [e3]
    exact ⟨(congrArg (fun z => some (Value.int z)) (own_shr0 z)), N3, rfl⟩
theorem d34_0 : decode jdk_42_method_154_code 0 = .ok (.getstatic 38, 3) := by decide +kernel
theorem d34_3 : decode jdk_42_method_154_code 3 = .ok (.ifCond .eq 14, 3) := by decide +kernel
theorem d34_6 : decode jdk_42_method_154_code 6 = .ok (.aload_n 0, 1) := by decide +kernel
theorem d34_7 : decode jdk_42_method_154_code 7 = .ok (.getfield 15, 3) := by decide +kernel
theorem d34_10 : decode jdk_42_method_154_code 10 = .ok (.ifCond .ne 7, 3) := by decide +kernel
theorem d34_13 : decode jdk_42_method_154_code 13 = .ok (.iconst 1, 1) := by decide +kernel
theorem d34_14 : decode jdk_42_method_154_code 14 = .ok (.goto 4, 3) := by decide +kernel
theorem d34_18 : decode jdk_42_method_154_code 18 = .ok (.ireturn, 1) := by decide +kernel
theorem ef_rm_isL (m : MethodId) (x0 : Addr) : entryFrame m #[(.ref x0)] 1 = mkF m 0 #[vr x0] [] := by first | (simp [entryFrame, mkF, argsToLocals, Value.category]; done) | rfl
def Q_rm_isL (Z : State) (a1 : Addr) (zc : Int32) (h0 : Heap) (n0 : Nat) (v : Option Value) (h : Heap) (L : List Loc) : Prop := (v = some (.int (1 : Int32))) ∧ (Fr n0 L) ∧ (h = h0)
set_option maxRecDepth 65536 in
set_option maxHeartbeats 40000000 in
theorem rm_isL (l : Launch) (Z : State) (a0 : Array Value) (hw : ∀ d ∈ tables_1, d.before a0 Z = true) (ws : List Jvm.Cond) (a1 : Addr) (zc : Int32) (h0 : Heap) (n0 : Nat) (Z0 : n0 ≤ h0.size) (O0 : Old Z n0 h0) (F_coder_a1 : Fld Z h0 a1 "java/lang/String" "coder" "B" (.int (0 : Int32))) (S_CS : Sta Z Z.heap "java/lang/String" "COMPACT_STRINGS" "Z" (.int zc)) (hz : ¬ zc = (0 : Int32)) :
    MetFree l y_2 (head1 (Jvm.Cond.code y_2 jdk_42_method_154_code 1 (some .boolean) :: ws) ({ frames := 0, cells := 0, slots := 0, locals := 0 } : Room)) (fun a U => a = #[(.ref a1)] ∧ Z.Warmed39 U.vm ∧ U.heap = h0) (fun _ _ _ _ _ => True) (fun _ U o U' => ∃ v L, o = .returned v ∧ Q_rm_isL Z a1 zc h0 n0 v U'.heap L ∧ FrameEnd U o U' L ({ frames := 0, cells := 0, slots := 0, locals := 0 } : Room).cells ({ frames := 0, cells := 0, slots := 0, locals := 0 } : Room).slots) := by
  refine MetFree.of_bodySF (plainFor_of_name pn_0) hisR ?_
  intro p e s m args below meth c s₁ Bd hml0 hP hK
  obtain ⟨rfl, hZ, hh⟩ := hP
  have hx := Bd.exec
  have hby := Bd.bytes
  have hml : c.maxLocals = 1 := hml0
  have hown : s.vm.findClass "java/lang/String" = some m.cls := findClass_of_methodNamed Bd.named
  have hnm := (name_of_methodNamed Bd.named Bd.method).1
  have X0 : Stand p l e ({ frames := 0, cells := 0, slots := 0, locals := 0 } : Room) s m #[(.ref a1)] below meth c s₁ [] 0 0 := Stand.of_body Bd
  have e0 : s₁.heap = h0 := by rw [← hh, Bd.state]; rfl
  have N0 := Fr.nil n0
  have KC : Keep h0 h0 [] := Keep.refl h0 _
  have pre0 : ∀ t, Steps p.tables e below (s₁.setTop (mkF m 0 #[vr a1] [])) t → Steps p.tables e below (s₁.setTop (entryFrame m #[(.ref a1)] 1)) t := fun t k => castTop (ef_rm_isL m a1) k
  obtain ⟨T1, X1, e1, st1⟩ := getS2 X0 hx hZ hown (host := "") (Or.inl (ww hw 42 rfl)) Via.refl e0 (S_CS.ext O0.2) (g := (mkF m 0 #[vr a1] [])) rfl (hb hby d34_0)
  obtain ⟨T2, X2, e2, st2⟩ := getF X1 hx hZ hown (host := "") (Or.inl (ww hw 21 rfl)) Via.refl e1 F_coder_a1 (g := (mkF m 7 #[vr a1] [(.ref a1)])) rfl rfl (hb hby d34_7)
  obtain ⟨fs, hr, hrun, hended, hW, hsame⟩ := X2.leave (v := some (.int (1 : Int32))) (fun h => by rw [Bd.returns] at h; cases h)
  refine ⟨_, _, pre0 _ ?_, hrun, hended, _, _, rfl, ?_, ⟨_, rfl⟩, hW, hsame.mono (by decide) (by decide)⟩
  · show SS p e below m s₁ 0 #[vr a1] [] _
    refine st1 _ ?_
    show SS p e below m T1 3 #[vr a1] [(.int zc)] _
    refine XS.ifNo X1.here hx rfl (hb hby d34_3) rfl ((if0 _ _).trans (feq hz).1) ?_
    show SS p e below m T1 6 #[vr a1] [] _
    refine XS.aloadN X1.here hx rfl (hb hby d34_6) rfl rfl ?_
    show SS p e below m T1 7 #[vr a1] [(.ref a1)] _
    refine st2 _ ?_
    show SS p e below m T2 10 #[vr a1] [(.int (0 : Int32))] _
    refine XS.ifNo X2.here hx rfl (hb hby d34_10) rfl ((if0 _ _).trans (teq (by decide)).2) ?_
    show SS p e below m T2 13 #[vr a1] [] _
    refine XS.iconst X2.here hx rfl (hb hby d34_13) ?_
    show SS p e below m T2 14 #[vr a1] [(.int (1 : Int32))] _
    refine XS.goto X2.here hx rfl (pc0 := 14) (pc' := 18) rfl (hb hby d34_14) (by decide) (by decide) ?_
    show SS p e below m T2 18 #[vr a1] [(.int (1 : Int32))] _
    exact retN X2 hx (t := .boolean) Bd.returns (by simp) (hb hby d34_18) hr
  · show Q_rm_isL Z a1 zc h0 n0 _ T2.heap _
    rw [e2]
    exact ⟨rfl, N0, rfl⟩
theorem d37_0 : decode jdk_41_method_11_code 0 = .ok (.iload_n 0, 1) := by decide +kernel
theorem d37_1 : decode jdk_41_method_11_code 1 = .ok (.ifCond .lt 8, 3) := by decide +kernel
theorem d37_4 : decode jdk_41_method_11_code 4 = .ok (.iload_n 0, 1) := by decide +kernel
theorem d37_5 : decode jdk_41_method_11_code 5 = .ok (.iload_n 1, 1) := by decide +kernel
theorem d37_6 : decode jdk_41_method_11_code 6 = .ok (.if_icmp .lt 10, 3) := by decide +kernel
theorem d37_16 : decode jdk_41_method_11_code 16 = .ok (.iload_n 0, 1) := by decide +kernel
theorem d37_17 : decode jdk_41_method_11_code 17 = .ok (.ireturn, 1) := by decide +kernel
theorem pn_1 : plainName "jdk/internal/util/Preconditions" = true := by first | (simp [plainName, overriddenIn]; done) | decide +kernel
theorem ef_rm_pci (m : MethodId) (x0 : Int32) (x1 : Int32) (x2 : Value) (hx2 : x2.isRef = true) : entryFrame m #[(.int x0), (.int x1), x2] 3 = mkF m 0 #[vi x0, vi x1, .val x2] [] := by
  rcases ref_cases hx2 with rfl | ⟨w2, rfl⟩
  all_goals first | (simp [entryFrame, mkF, argsToLocals, Value.category]; done) | rfl
def Q_rm_pci (Z : State) (p1 : Int32) (p2 : Int32) (fm : Value) (h0 : Heap) (n0 : Nat) (v : Option Value) (h : Heap) (L : List Loc) : Prop := (v = some (.int p1)) ∧ (Fr n0 L) ∧ (h = h0)
set_option maxRecDepth 65536 in
set_option maxHeartbeats 40000000 in
theorem rm_pci (l : Launch) (Z : State) (a0 : Array Value) (hw : ∀ d ∈ tables_1, d.before a0 Z = true) (ws : List Jvm.Cond) (p1 : Int32) (p2 : Int32) (fm : Value) (h0 : Heap) (n0 : Nat) (Z0 : n0 ≤ h0.size) (O0 : Old Z n0 h0) (hW_fm : fm.isRef = true) (hq1 : ¬ p1 < (0 : Int32)) (hq2 : p1 < p2) :
    MetFree l y_3 (head1 (Jvm.Cond.code y_3 jdk_41_method_11_code 3 (some .int) :: ws) ({ frames := 0, cells := 0, slots := 0, locals := 0 } : Room)) (fun a U => a = #[(.int p1), (.int p2), fm] ∧ Z.Warmed39 U.vm ∧ U.heap = h0) (fun _ _ _ _ _ => True) (fun _ U o U' => ∃ v L, o = .returned v ∧ Q_rm_pci Z p1 p2 fm h0 n0 v U'.heap L ∧ FrameEnd U o U' L ({ frames := 0, cells := 0, slots := 0, locals := 0 } : Room).cells ({ frames := 0, cells := 0, slots := 0, locals := 0 } : Room).slots) := by
  refine MetFree.of_bodySF (plainFor_of_name pn_1) hisR ?_
  intro p e s m args below meth c s₁ Bd hml0 hP hK
  obtain ⟨rfl, hZ, hh⟩ := hP
  have hx := Bd.exec
  have hby := Bd.bytes
  have hml : c.maxLocals = 3 := hml0
  have hown : s.vm.findClass "jdk/internal/util/Preconditions" = some m.cls := findClass_of_methodNamed Bd.named
  have hnm := (name_of_methodNamed Bd.named Bd.method).1
  have X0 : Stand p l e ({ frames := 0, cells := 0, slots := 0, locals := 0 } : Room) s m #[(.int p1), (.int p2), fm] below meth c s₁ [] 0 0 := Stand.of_body Bd
  have e0 : s₁.heap = h0 := by rw [← hh, Bd.state]; rfl
  have N0 := Fr.nil n0
  have KC : Keep h0 h0 [] := Keep.refl h0 _
  have pre0 : ∀ t, Steps p.tables e below (s₁.setTop (mkF m 0 #[vi p1, vi p2, .val fm] [])) t → Steps p.tables e below (s₁.setTop (entryFrame m #[(.int p1), (.int p2), fm] 3)) t := fun t k => castTop (ef_rm_pci m p1 p2 fm hW_fm) k
  obtain ⟨fs, hr, hrun, hended, hW, hsame⟩ := X0.leave (v := some (.int p1)) (fun h => by rw [Bd.returns] at h; cases h)
  refine ⟨_, _, pre0 _ ?_, hrun, hended, _, _, rfl, ?_, ⟨_, rfl⟩, hW, hsame.mono (by decide) (by decide)⟩
  · show SS p e below m s₁ 0 #[vi p1, vi p2, .val fm] [] _
    refine XS.iloadN X0.here hx rfl (hb hby d37_0) rfl ?_
    show SS p e below m s₁ 1 #[vi p1, vi p2, .val fm] [(.int p1)] _
    refine XS.ifNo X0.here hx rfl (hb hby d37_1) rfl ((if0 _ _).trans (flt hq1).1) ?_
    show SS p e below m s₁ 4 #[vi p1, vi p2, .val fm] [] _
    refine XS.iloadN X0.here hx rfl (hb hby d37_4) rfl ?_
    show SS p e below m s₁ 5 #[vi p1, vi p2, .val fm] [(.int p1)] _
    refine XS.iloadN X0.here hx rfl (hb hby d37_5) rfl ?_
    show SS p e below m s₁ 6 #[vi p1, vi p2, .val fm] [(.int p2), (.int p1)] _
    refine XS.icmpYes X0.here hx rfl (pc0 := 6) (pc' := 16) rfl (hb hby d37_6) rfl (tlt hq2).1 (by decide) (by decide) ?_
    show SS p e below m s₁ 16 #[vi p1, vi p2, .val fm] [] _
    refine XS.iloadN X0.here hx rfl (hb hby d37_16) rfl ?_
    show SS p e below m s₁ 17 #[vi p1, vi p2, .val fm] [(.int p1)] _
    exact retI X0 hx Bd.returns (hb hby d37_17) hr
  · show Q_rm_pci Z p1 p2 fm h0 n0 _ s₁.heap _
    rw [e0]
    exact ⟨rfl, N0, rfl⟩
theorem pd_1 : parseMethodDescriptor "(IILjava/util/function/BiFunction;)I" = some ⟨[.int, .int, (.object "java/util/function/BiFunction")], some .int⟩ := by decide +kernel
theorem d36_0 : decode jdk_42_method_155_code 0 = .ok (.iload_n 0, 1) := by decide +kernel
theorem d36_1 : decode jdk_42_method_155_code 1 = .ok (.iload_n 1, 1) := by decide +kernel
theorem d36_2 : decode jdk_42_method_155_code 2 = .ok (.getstatic 1053, 3) := by decide +kernel
theorem d36_5 : decode jdk_42_method_155_code 5 = .ok (.invokestatic 1059, 3) := by decide +kernel
theorem d36_8 : decode jdk_42_method_155_code 8 = .ok (.pop, 1) := by decide +kernel
theorem d36_9 : decode jdk_42_method_155_code 9 = .ok (.return_, 1) := by decide +kernel
theorem ef_rm_sci (m : MethodId) (x0 : Int32) (x1 : Int32) : entryFrame m #[(.int x0), (.int x1)] 2 = mkF m 0 #[vi x0, vi x1] [] := by first | (simp [entryFrame, mkF, argsToLocals, Value.category]; done) | rfl
def Q_rm_sci (Z : State) (p1 : Int32) (p2 : Int32) (fm : Value) (h0 : Heap) (n0 : Nat) (v : Option Value) (h : Heap) (L : List Loc) : Prop := (v = none) ∧ (Fr n0 L) ∧ (h = h0)
set_option maxRecDepth 65536 in
set_option maxHeartbeats 40000000 in
theorem rm_sci (l : Launch) (Z : State) (a0 : Array Value) (hw : ∀ d ∈ tables_1, d.before a0 Z = true) (ws : List Jvm.Cond) (p1 : Int32) (p2 : Int32) (fm : Value) (h0 : Heap) (n0 : Nat) (Z0 : n0 ≤ h0.size) (O0 : Old Z n0 h0) (S_FM : Sta Z Z.heap "jdk/internal/util/Preconditions" "SIOOBE_FORMATTER" "Ljava/util/function/BiFunction;" fm) (hW_fm : fm.isRef = true) (hq1 : ¬ p1 < (0 : Int32)) (hq2 : p1 < p2) :
    MetFree l y_4 (head1 (Jvm.Cond.code y_4 jdk_42_method_155_code 2 none :: ws) ({ frames := 1, cells := 0, slots := 0, locals := 14 } : Room)) (fun a U => a = #[(.int p1), (.int p2)] ∧ Z.Warmed39 U.vm ∧ U.heap = h0) (fun _ _ _ _ _ => True) (fun _ U o U' => ∃ v L, o = .returned v ∧ Q_rm_sci Z p1 p2 fm h0 n0 v U'.heap L ∧ FrameEnd U o U' L ({ frames := 1, cells := 0, slots := 0, locals := 14 } : Room).cells ({ frames := 1, cells := 0, slots := 0, locals := 14 } : Room).slots) := by
  refine MetFree.of_bodySF (plainFor_of_name pn_0) hisR ?_
  intro p e s m args below meth c s₁ Bd hml0 hP hK
  obtain ⟨rfl, hZ, hh⟩ := hP
  have hx := Bd.exec
  have hby := Bd.bytes
  have hml : c.maxLocals = 2 := hml0
  have hown : s.vm.findClass "java/lang/String" = some m.cls := findClass_of_methodNamed Bd.named
  have hnm := (name_of_methodNamed Bd.named Bd.method).1
  have X0 : Stand p l e ({ frames := 1, cells := 0, slots := 0, locals := 14 } : Room) s m #[(.int p1), (.int p2)] below meth c s₁ [] 0 0 := Stand.of_body Bd
  have e0 : s₁.heap = h0 := by rw [← hh, Bd.state]; rfl
  have N0 := Fr.nil n0
  have KC : Keep h0 h0 [] := Keep.refl h0 _
  have pre0 : ∀ t, Steps p.tables e below (s₁.setTop (mkF m 0 #[vi p1, vi p2] [])) t → Steps p.tables e below (s₁.setTop (entryFrame m #[(.int p1), (.int p2)] 2)) t := fun t k => castTop (ef_rm_sci m p1 p2) k
  obtain ⟨T1, X1, e1, st1⟩ := getS2 X0 hx hZ hown (host := "") (Or.inl (ww hw 200 rfl)) Via.refl e0 (S_FM.ext O0.2) (g := (mkF m 2 #[vi p1, vi p2] [(.int p2), (.int p1)])) rfl (hb hby d36_2)
  obtain ⟨_, _, ⟨T2, L2, kz2, nz2⟩, -, X2, ⟨Lc2, hQ2, l2, y2, z2⟩, st2⟩ := Jvm.LawKit.callS X1 hx (y := y_3) hown (mvT hZ (ww hw 202 rfl)) (mvT hZ (ww hw 203 rfl)) (mvT hZ (ww hw 201 rfl)) (mvT hZ (ww hw 204 rfl)) (by decide) (backOf (W := 0) (rm_pci l Z a0 hw [] p1 p2 fm h0 n0 (Nat.le_trans Z0 KC.1) O0 hW_fm hq1 hq2) hZ (ww hw 204 rfl) (ww hw 201 rfl) (by decide) (by decide)) (g := (mkF m 5 #[vi p1, vi p2] [fm, (.int p2), (.int p1)])) rfl (by rw [hml]; rfl) (argsL := [(.int p1), (.int p2), fm]) (rest := []) (lenOf pd_1 rfl) rfl (by show 2 * 0 + _ ≤ _; exact Nat.le_of_eq rfl) (hb hby d36_5) (fun _ _ => ⟨rfl, e1, (by decide : 0 + 0 ≤ _), (by decide : 0 + 0 ≤ _)⟩)
  dsimp only [Pt.U, Pt.locs, Pt.cells, Pt.slots] at X2 l2 y2 z2 st2 hQ2
  subst l2 y2 z2
  obtain ⟨rfl, N2q, e2⟩ := hQ2
  have N2 := Fr.app N0 N2q
  obtain ⟨fs, hr, hrun, hended, hW, hsame⟩ := X2.leave (v := none) (fun _ => rfl)
  refine ⟨_, _, pre0 _ ?_, hrun, hended, _, _, rfl, ?_, ⟨_, rfl⟩, hW, hsame.mono (by decide) (by decide)⟩
  · show SS p e below m s₁ 0 #[vi p1, vi p2] [] _
    refine XS.iloadN X0.here hx rfl (hb hby d36_0) rfl ?_
    show SS p e below m s₁ 1 #[vi p1, vi p2] [(.int p1)] _
    refine XS.iloadN X0.here hx rfl (hb hby d36_1) rfl ?_
    show SS p e below m s₁ 2 #[vi p1, vi p2] [(.int p2), (.int p1)] _
    refine st1 _ ?_
    show SS p e below m T1 5 #[vi p1, vi p2] [fm, (.int p2), (.int p1)] _
    refine st2 _ ?_
    show SS p e below m T2 8 #[vi p1, vi p2] [(.int p1)] _
    refine XS.pop X2.here hx rfl (hb hby d36_8) rfl rfl ?_
    show SS p e below m T2 9 #[vi p1, vi p2] [] _
    exact X2.returnOut hx Bd.returns (hb hby d36_9) hr
  · show Q_rm_sci Z p1 p2 fm h0 n0 _ T2.heap _
    rw [e2]
    exact ⟨rfl, N2, rfl⟩
theorem pd_2 : parseMethodDescriptor "(II)V" = some ⟨[.int, .int], none⟩ := by decide +kernel
theorem d35_0 : decode jdk_43_method_2_code 0 = .ok (.iload_n 1, 1) := by decide +kernel
theorem d35_1 : decode jdk_43_method_2_code 1 = .ok (.aload_n 0, 1) := by decide +kernel
theorem d35_2 : decode jdk_43_method_2_code 2 = .ok (.arraylength, 1) := by decide +kernel
theorem d35_3 : decode jdk_43_method_2_code 3 = .ok (.invokestatic 9, 3) := by decide +kernel
theorem d35_6 : decode jdk_43_method_2_code 6 = .ok (.aload_n 0, 1) := by decide +kernel
theorem d35_7 : decode jdk_43_method_2_code 7 = .ok (.iload_n 1, 1) := by decide +kernel
theorem d35_8 : decode jdk_43_method_2_code 8 = .ok (.baload, 1) := by decide +kernel
theorem d35_9 : decode jdk_43_method_2_code 9 = .ok (.sipush 255, 3) := by decide +kernel
theorem d35_12 : decode jdk_43_method_2_code 12 = .ok (.iand, 1) := by decide +kernel
theorem d35_13 : decode jdk_43_method_2_code 13 = .ok (.i2c, 1) := by decide +kernel
theorem d35_14 : decode jdk_43_method_2_code 14 = .ok (.ireturn, 1) := by decide +kernel
theorem pn_2 : plainName "java/lang/StringLatin1" = true := by first | (simp [plainName, overriddenIn]; done) | decide +kernel
theorem ef_rm_lca (m : MethodId) (x0 : Addr) (x1 : Int32) : entryFrame m #[(.ref x0), (.int x1)] 2 = mkF m 0 #[vr x0, vi x1] [] := by first | (simp [entryFrame, mkF, argsToLocals, Value.category]; done) | rfl
def Q_rm_lca (Z : State) (a1 : Addr) (p2 : Int32) (k : ClassId) (z : Int32) (vs : List Value) (u : Int32) (fm : Value) (h0 : Heap) (n0 : Nat) (v : Option Value) (h : Heap) (L : List Loc) : Prop := (v = some (.int (u &&& (255 : Int32)))) ∧ (Fr n0 L) ∧ (h = h0)
set_option maxRecDepth 65536 in
set_option maxHeartbeats 40000000 in
theorem rm_lca (l : Launch) (Z : State) (a0 : Array Value) (hw : ∀ d ∈ tables_1, d.before a0 Z = true) (ws : List Jvm.Cond) (a1 : Addr) (p2 : Int32) (k : ClassId) (z : Int32) (vs : List Value) (u : Int32) (fm : Value) (h0 : Heap) (n0 : Nat) (Z0 : n0 ≤ h0.size) (O0 : Old Z n0 h0) (V_a1 : Arv Z h0 a1 k .byte z vs (.int (0 : Int32))) (S_FM : Sta Z Z.heap "jdk/internal/util/Preconditions" "SIOOBE_FORMATTER" "Ljava/util/function/BiFunction;" fm) (hW_fm : fm.isRef = true) (hq1 : ¬ p2 < (0 : Int32)) (hq2 : p2 < z) (hU : vs.getD p2.toNatClampNeg (.int (0 : Int32)) = .int u) :
    MetFree l y_5 (head1 (Jvm.Cond.code y_5 jdk_43_method_2_code 2 (some .char) :: ws) ({ frames := 2, cells := 0, slots := 0, locals := 27 } : Room)) (fun a U => a = #[(.ref a1), (.int p2)] ∧ Z.Warmed39 U.vm ∧ U.heap = h0) (fun _ _ _ _ _ => True) (fun _ U o U' => ∃ v L, o = .returned v ∧ Q_rm_lca Z a1 p2 k z vs u fm h0 n0 v U'.heap L ∧ FrameEnd U o U' L ({ frames := 2, cells := 0, slots := 0, locals := 27 } : Room).cells ({ frames := 2, cells := 0, slots := 0, locals := 27 } : Room).slots) := by
  refine MetFree.of_bodySF (plainFor_of_name pn_2) hisR ?_
  intro p e s m args below meth c s₁ Bd hml0 hP hK
  obtain ⟨rfl, hZ, hh⟩ := hP
  have hx := Bd.exec
  have hby := Bd.bytes
  have hml : c.maxLocals = 2 := hml0
  have hown : s.vm.findClass "java/lang/StringLatin1" = some m.cls := findClass_of_methodNamed Bd.named
  have hnm := (name_of_methodNamed Bd.named Bd.method).1
  have X0 : Stand p l e ({ frames := 2, cells := 0, slots := 0, locals := 27 } : Room) s m #[(.ref a1), (.int p2)] below meth c s₁ [] 0 0 := Stand.of_body Bd
  have e0 : s₁.heap = h0 := by rw [← hh, Bd.state]; rfl
  have N0 := Fr.nil n0
  have KC : Keep h0 h0 [] := Keep.refl h0 _
  have pre0 : ∀ t, Steps p.tables e below (s₁.setTop (mkF m 0 #[vr a1, vi p2] [])) t → Steps p.tables e below (s₁.setTop (entryFrame m #[(.ref a1), (.int p2)] 2)) t := fun t k => castTop (ef_rm_lca m a1 p2) k
  have Vo1 := V_a1
  obtain ⟨cl1, Ar1, -, Sz1, Nn1, -, -⟩ := Vo1
  have ia1 := State.isArrayOf_alike hZ.alike Ar1.2.1
  obtain ⟨_, _, ⟨T2, L2, kz2, nz2⟩, -, X2, ⟨Lc2, hQ2, l2, y2, z2⟩, st2⟩ := Jvm.LawKit.callS X0 hx (y := y_4) hown (mvT hZ (ww hw 197 rfl)) (mvT hZ (ww hw 198 rfl)) (mvT hZ (ww hw 3 rfl)) (mvT hZ (ww hw 199 rfl)) (by decide) (backOf (W := 0) (rm_sci l Z a0 hw [] p2 z fm h0 n0 (Nat.le_trans Z0 KC.1) O0 S_FM hW_fm hq1 hq2) hZ (ww hw 199 rfl) (ww hw 3 rfl) (by decide) (by decide)) (g := (mkF m 3 #[vr a1, vi p2] [(.int z), (.int p2)])) rfl (by rw [hml]; rfl) (argsL := [(.int p2), (.int z)]) (rest := []) (lenOf pd_2 rfl) rfl (by show 2 * 0 + _ ≤ _; exact Nat.le_of_eq rfl) (hb hby d35_3) (fun _ _ => ⟨rfl, e0, (by decide : 0 + 0 ≤ _), (by decide : 0 + 0 ≤ _)⟩)
  dsimp only [Pt.U, Pt.locs, Pt.cells, Pt.slots] at X2 l2 y2 z2 st2 hQ2
  subst l2 y2 z2
  obtain ⟨rfl, N2q, e2⟩ := hQ2
  have N2 := Fr.app N0 N2q
  have Vo3 := V_a1
  obtain ⟨cl3, Ar3, q3, Sz3, Nn3, Hh3, Gg3⟩ := Vo3
  have hin3 : ¬ (p2 < 0 ∨ cl3.slots.size ≤ (p2).toNatClampNeg) := inb_of Sz3 ⟨hq1, hq2⟩
  have hat3 : cl3.slots[(p2).toNatClampNeg]? = some (.int u) := Has.at Hh3 hin3 hU
  have ia3 := State.isArrayOf_alike hZ.alike Ar3.2.1
  obtain ⟨fs, hr, hrun, hended, hW, hsame⟩ := X2.leave (v := some (.int (nar .char ((u &&& (255 : Int32)).toUInt32.toUInt16.toUInt32.toInt32)))) (fun h => by rw [Bd.returns] at h; cases h)
  refine ⟨_, _, pre0 _ ?_, hrun, hended, _, _, rfl, ?_, ⟨_, rfl⟩, hW, hsame.mono (by decide) (by decide)⟩
  · show SS p e below m s₁ 0 #[vr a1, vi p2] [] _
    refine XS.iloadN X0.here hx rfl (hb hby d35_0) rfl ?_
    show SS p e below m s₁ 1 #[vr a1, vi p2] [(.int p2)] _
    refine XS.aloadN X0.here hx rfl (hb hby d35_1) rfl rfl ?_
    show SS p e below m s₁ 2 #[vr a1, vi p2] [(.ref a1), (.int p2)] _
    refine X0.arraylength hx (by rw [e0]; exact Ar1.1) ia1 (g := (mkF m 2 #[vr a1, vi p2] [(.ref a1), (.int p2)])) rfl rfl (hb hby d35_2) _ ?_
    rw [len_of Sz1 Nn1]
    show SS p e below m s₁ 3 #[vr a1, vi p2] [(.int z), (.int p2)] _
    refine st2 _ ?_
    show SS p e below m T2 6 #[vr a1, vi p2] [] _
    refine XS.aloadN X2.here hx rfl (hb hby d35_6) rfl rfl ?_
    show SS p e below m T2 7 #[vr a1, vi p2] [(.ref a1)] _
    refine XS.iloadN X2.here hx rfl (hb hby d35_7) rfl ?_
    show SS p e below m T2 8 #[vr a1, vi p2] [(.int p2), (.ref a1)] _
    refine X2.baloadBytes hx (j := p2) (v := (.int u)) (by rw [e2]; exact Ar3.1) ia3 Ar3.2.2 hin3 hat3 (g := (mkF m 8 #[vr a1, vi p2] [(.int p2), (.ref a1)])) rfl rfl (hb hby d35_8) _ ?_
    show SS p e below m T2 9 #[vr a1, vi p2] [(.int u)] _
    refine XS.sipush X2.here hx rfl (hb hby d35_9) ?_
    show SS p e below m T2 12 #[vr a1, vi p2] [(.int (255 : Int32)), (.int u)] _
    refine XS.iand X2.here hx rfl (hb hby d35_12) rfl ?_
    show SS p e below m T2 13 #[vr a1, vi p2] [(.int (u &&& (255 : Int32)))] _
    refine XS.i2c X2.here hx rfl (hb hby d35_13) rfl ?_
    show SS p e below m T2 14 #[vr a1, vi p2] [(.int ((u &&& (255 : Int32)).toUInt32.toUInt16.toUInt32.toInt32))] _
    exact retN X2 hx (t := .char) Bd.returns (by simp) (hb hby d35_14) hr
  · show Q_rm_lca Z a1 p2 k z vs u fm h0 n0 _ T2.heap _
    rw [e2]
    exact ⟨(congrArg (fun z => some (Value.int z)) (own_nc _)), N2, rfl⟩
theorem pd_3 : parseMethodDescriptor "()Z" = some ⟨[], some .boolean⟩ := by decide +kernel
theorem pd_4 : parseMethodDescriptor "([BI)C" = some ⟨[(.array .byte), .int], some .char⟩ := by decide +kernel
theorem d33_0 : decode jdk_42_method_56_code 0 = .ok (.aload_n 0, 1) := by decide +kernel
theorem d33_1 : decode jdk_42_method_56_code 1 = .ok (.invokevirtual 492, 3) := by decide +kernel
theorem d33_4 : decode jdk_42_method_56_code 4 = .ok (.ifCond .eq 12, 3) := by decide +kernel
theorem d33_7 : decode jdk_42_method_56_code 7 = .ok (.aload_n 0, 1) := by decide +kernel
theorem d33_8 : decode jdk_42_method_56_code 8 = .ok (.getfield 9, 3) := by decide +kernel
theorem d33_11 : decode jdk_42_method_56_code 11 = .ok (.iload_n 1, 1) := by decide +kernel
theorem d33_12 : decode jdk_42_method_56_code 12 = .ok (.invokestatic 495, 3) := by decide +kernel
theorem d33_15 : decode jdk_42_method_56_code 15 = .ok (.ireturn, 1) := by decide +kernel
theorem ef_rm_cha (m : MethodId) (x0 : Addr) (x1 : Int32) : entryFrame m #[(.ref x0), (.int x1)] 2 = mkF m 0 #[vr x0, vi x1] [] := by first | (simp [entryFrame, mkF, argsToLocals, Value.category]; done) | rfl
def Q_rm_cha (Z : State) (a1 : Addr) (p2 : Int32) (ta : Addr) (k : ClassId) (z : Int32) (vs : List Value) (u : Int32) (zc : Int32) (fm : Value) (h0 : Heap) (n0 : Nat) (v : Option Value) (h : Heap) (L : List Loc) : Prop := (v = some (.int (u &&& (255 : Int32)))) ∧ (Fr n0 L) ∧ (h = h0)
set_option maxRecDepth 65536 in
set_option maxHeartbeats 40000000 in
theorem rm_cha (l : Launch) (Z : State) (a0 : Array Value) (hw : ∀ d ∈ tables_1, d.before a0 Z = true) (ws : List Jvm.Cond) (a1 : Addr) (p2 : Int32) (ta : Addr) (k : ClassId) (z : Int32) (vs : List Value) (u : Int32) (zc : Int32) (fm : Value) (h0 : Heap) (n0 : Nat) (Z0 : n0 ≤ h0.size) (O0 : Old Z n0 h0) (E_a1 : Exa Z h0 a1 "java/lang/String") (F_value_a1 : Fld Z h0 a1 "java/lang/String" "value" "[B" (.ref ta)) (F_coder_a1 : Fld Z h0 a1 "java/lang/String" "coder" "B" (.int (0 : Int32))) (V_ta : Arv Z h0 ta k .byte z vs (.int (0 : Int32))) (S_CS : Sta Z Z.heap "java/lang/String" "COMPACT_STRINGS" "Z" (.int zc)) (hz : ¬ zc = (0 : Int32)) (S_FM : Sta Z Z.heap "jdk/internal/util/Preconditions" "SIOOBE_FORMATTER" "Ljava/util/function/BiFunction;" fm) (hW_fm : fm.isRef = true) (hq1 : ¬ p2 < (0 : Int32)) (hq2 : p2 < z) (hU : vs.getD p2.toNatClampNeg (.int (0 : Int32)) = .int u) :
    MetFree l y_6 (head1 (Jvm.Cond.code y_6 jdk_42_method_56_code 2 (some .char) :: ws) ({ frames := 3, cells := 0, slots := 0, locals := 40 } : Room)) (fun a U => a = #[(.ref a1), (.int p2)] ∧ Z.Warmed39 U.vm ∧ U.heap = h0) (fun _ _ _ _ _ => True) (fun _ U o U' => ∃ v L, o = .returned v ∧ Q_rm_cha Z a1 p2 ta k z vs u zc fm h0 n0 v U'.heap L ∧ FrameEnd U o U' L ({ frames := 3, cells := 0, slots := 0, locals := 40 } : Room).cells ({ frames := 3, cells := 0, slots := 0, locals := 40 } : Room).slots) := by
  refine MetFree.of_bodySF (plainFor_of_name pn_0) hisR ?_
  intro p e s m args below meth c s₁ Bd hml0 hP hK
  obtain ⟨rfl, hZ, hh⟩ := hP
  have hx := Bd.exec
  have hby := Bd.bytes
  have hml : c.maxLocals = 2 := hml0
  have hown : s.vm.findClass "java/lang/String" = some m.cls := findClass_of_methodNamed Bd.named
  have hnm := (name_of_methodNamed Bd.named Bd.method).1
  have X0 : Stand p l e ({ frames := 3, cells := 0, slots := 0, locals := 40 } : Room) s m #[(.ref a1), (.int p2)] below meth c s₁ [] 0 0 := Stand.of_body Bd
  have e0 : s₁.heap = h0 := by rw [← hh, Bd.state]; rfl
  have N0 := Fr.nil n0
  have KC : Keep h0 h0 [] := Keep.refl h0 _
  have pre0 : ∀ t, Steps p.tables e below (s₁.setTop (mkF m 0 #[vr a1, vi p2] [])) t → Steps p.tables e below (s₁.setTop (entryFrame m #[(.ref a1), (.int p2)] 2)) t := fun t k => castTop (ef_rm_cha m a1 p2) k
  obtain ⟨cq1, kq1, q1a, q1b, q1c⟩ := isOf hZ e0 E_a1
  obtain ⟨_, _, ⟨T1, L1, kz1, nz1⟩, -, X1, ⟨Lc1, hQ1, l1, y1, z1⟩, st1⟩ := X0.virtualBack hx (y := y_2) (z := y_2) hown (mvT hZ (ww hw 188 rfl)) (mvT hZ (ww hw 189 rfl)) (notFace_of_selects (args := #[]) (mvT hZ (ww hw 191 rfl))) (mvT hZ (ww hw 191 rfl)) (mvT hZ (ww hw 190 rfl)) (by decide) (backOf (W := 0) (rm_isL l Z a0 hw [] a1 zc h0 n0 (Nat.le_trans Z0 KC.1) O0 F_coder_a1 S_CS hz) hZ (ww hw 192 rfl) (ww hw 3 rfl) (by decide) (by decide)) q1a q1c (g := (mkF m 1 #[vr a1, vi p2] [(.ref a1)])) rfl (by rw [hml]; rfl) (Steps.refl _) (argsL := []) (rest := []) (lenOf pd_3 rfl) rfl (by show 2 * 0 + _ ≤ _; exact Nat.le_of_eq rfl) (hb hby d33_1) (fun _ _ => ⟨rfl, e0, (by decide : 0 + 0 ≤ _), (by decide : 0 + 0 ≤ _)⟩)
  dsimp only [Pt.U, Pt.locs, Pt.cells, Pt.slots] at X1 l1 y1 z1 st1 hQ1
  subst l1 y1 z1
  obtain ⟨rfl, N1q, e1⟩ := hQ1
  have N1 := Fr.app N0 N1q
  obtain ⟨T2, X2, e2, st2⟩ := getF X1 hx hZ hown (host := "") (Or.inl (ww hw 20 rfl)) Via.refl e1 F_value_a1 (g := (mkF m 8 #[vr a1, vi p2] [(.ref a1)])) rfl rfl (hb hby d33_8)
  obtain ⟨_, _, ⟨T3, L3, kz3, nz3⟩, -, X3, ⟨Lc3, hQ3, l3, y3, z3⟩, st3⟩ := Jvm.LawKit.callS X2 hx (y := y_5) hown (mvT hZ (ww hw 193 rfl)) (mvT hZ (ww hw 194 rfl)) (mvT hZ (ww hw 195 rfl)) (mvT hZ (ww hw 196 rfl)) (by decide) (backOf (W := 0) (rm_lca l Z a0 hw [] ta p2 k z vs u fm h0 n0 (Nat.le_trans Z0 KC.1) O0 V_ta S_FM hW_fm hq1 hq2 hU) hZ (ww hw 196 rfl) (ww hw 195 rfl) (by decide) (by decide)) (g := (mkF m 12 #[vr a1, vi p2] [(.int p2), (.ref ta)])) rfl (by rw [hml]; rfl) (argsL := [(.ref ta), (.int p2)]) (rest := []) (lenOf pd_4 rfl) rfl (by show 2 * 0 + _ ≤ _; exact Nat.le_of_eq rfl) (hb hby d33_12) (fun _ _ => ⟨rfl, e2, (by decide : 0 + 0 ≤ _), (by decide : 0 + 0 ≤ _)⟩)
  dsimp only [Pt.U, Pt.locs, Pt.cells, Pt.slots] at X3 l3 y3 z3 st3 hQ3
  subst l3 y3 z3
  obtain ⟨rfl, N3q, e3⟩ := hQ3
  have N3 := Fr.app N1 N3q
  obtain ⟨fs, hr, hrun, hended, hW, hsame⟩ := X3.leave (v := some (.int (nar .char (u &&& (255 : Int32))))) (fun h => by rw [Bd.returns] at h; cases h)
  refine ⟨_, _, pre0 _ ?_, hrun, hended, _, _, rfl, ?_, ⟨_, rfl⟩, hW, hsame.mono (by decide) (by decide)⟩
  · show SS p e below m s₁ 0 #[vr a1, vi p2] [] _
    refine XS.aloadN X0.here hx rfl (hb hby d33_0) rfl rfl ?_
    show SS p e below m s₁ 1 #[vr a1, vi p2] [(.ref a1)] _
    refine st1.trans ?_
    show SS p e below m T1 4 #[vr a1, vi p2] [(.int (1 : Int32))] _
    refine XS.ifNo X1.here hx rfl (hb hby d33_4) rfl ((if0 _ _).trans (feq (by decide)).1) ?_
    show SS p e below m T1 7 #[vr a1, vi p2] [] _
    refine XS.aloadN X1.here hx rfl (hb hby d33_7) rfl rfl ?_
    show SS p e below m T1 8 #[vr a1, vi p2] [(.ref a1)] _
    refine st2 _ ?_
    show SS p e below m T2 11 #[vr a1, vi p2] [(.ref ta)] _
    refine XS.iloadN X2.here hx rfl (hb hby d33_11) rfl ?_
    show SS p e below m T2 12 #[vr a1, vi p2] [(.int p2), (.ref ta)] _
    refine st3 _ ?_
    show SS p e below m T3 15 #[vr a1, vi p2] [(.int (u &&& (255 : Int32)))] _
    exact retN X3 hx (t := .char) Bd.returns (by simp) (hb hby d33_15) hr
  · show Q_rm_cha Z a1 p2 ta k z vs u zc fm h0 n0 _ T3.heap _
    rw [e3]
    exact ⟨(congrArg (fun z => some (Value.int z)) (own_n255 u)), N3, rfl⟩
theorem d10_0 : decode jdk_68_method_2_code 0 = .ok (.aload_n 0, 1) := by decide +kernel
theorem d10_1 : decode jdk_68_method_2_code 1 = .ok (.invokespecial 3, 3) := by decide +kernel
theorem d10_4 : decode jdk_68_method_2_code 4 = .ok (.getstatic 18, 3) := by decide +kernel
theorem d10_7 : decode jdk_68_method_2_code 7 = .ok (.ifCond .eq 18, 3) := by decide +kernel
theorem d10_10 : decode jdk_68_method_2_code 10 = .ok (.aload_n 0, 1) := by decide +kernel
theorem d10_11 : decode jdk_68_method_2_code 11 = .ok (.iload_n 1, 1) := by decide +kernel
theorem d10_12 : decode jdk_68_method_2_code 12 = .ok (.newarray .byte, 2) := by decide +kernel
theorem d10_14 : decode jdk_68_method_2_code 14 = .ok (.putfield 15, 3) := by decide +kernel
theorem d10_17 : decode jdk_68_method_2_code 17 = .ok (.aload_n 0, 1) := by decide +kernel
theorem d10_18 : decode jdk_68_method_2_code 18 = .ok (.iconst 0, 1) := by decide +kernel
theorem d10_19 : decode jdk_68_method_2_code 19 = .ok (.putfield 22, 3) := by decide +kernel
theorem d10_22 : decode jdk_68_method_2_code 22 = .ok (.goto 16, 3) := by decide +kernel
theorem d10_38 : decode jdk_68_method_2_code 38 = .ok (.return_, 1) := by decide +kernel
theorem pn_3 : plainName "java/lang/AbstractStringBuilder" = true := by first | (simp [plainName, overriddenIn]; done) | decide +kernel
theorem ef_rm_abi (m : MethodId) (x0 : Addr) (x1 : Int32) : entryFrame m #[(.ref x0), (.int x1)] 2 = mkF m 0 #[vr x0, vi x1] [] := by first | (simp [entryFrame, mkF, argsToLocals, Value.category]; done) | rfl
def Q_rm_abi (Z : State) (a1 : Addr) (zc : Int32) (h0 : Heap) (n0 : Nat) (v : Option Value) (h : Heap) (L : List Loc) : Prop := ∃ ta : Addr, ∃ k : ClassId, (v = none) ∧ (Fr n0 L) ∧ (Keep h0 h [a1]) ∧ (h0.size ≤ ta) ∧ (Fld Z h a1 "java/lang/AbstractStringBuilder" "value" "[B" (.ref ta)) ∧ (Fld Z h a1 "java/lang/AbstractStringBuilder" "coder" "B" (.int (0 : Int32))) ∧ (Fld Z h a1 "java/lang/AbstractStringBuilder" "count" "I" (.int (0 : Int32))) ∧ (Arv Z h ta k .byte (16 : Int32) [(.int (0 : Int32)), (.int (0 : Int32)), (.int (0 : Int32)), (.int (0 : Int32)), (.int (0 : Int32)), (.int (0 : Int32)), (.int (0 : Int32)), (.int (0 : Int32)), (.int (0 : Int32)), (.int (0 : Int32)), (.int (0 : Int32)), (.int (0 : Int32)), (.int (0 : Int32)), (.int (0 : Int32)), (.int (0 : Int32)), (.int (0 : Int32))] (.int (0 : Int32)))
set_option maxRecDepth 65536 in
set_option maxHeartbeats 40000000 in
theorem rm_abi (l : Launch) (Z : State) (a0 : Array Value) (hw : ∀ d ∈ tables_1, d.before a0 Z = true) (ws : List Jvm.Cond) (a1 : Addr) (zc : Int32) (h0 : Heap) (n0 : Nat) (Z0 : n0 ≤ h0.size) (O0 : Old Z n0 h0) (F_value_a1 : Fld Z h0 a1 "java/lang/AbstractStringBuilder" "value" "[B" .null) (F_coder_a1 : Fld Z h0 a1 "java/lang/AbstractStringBuilder" "coder" "B" (.int (0 : Int32))) (F_count_a1 : Fld Z h0 a1 "java/lang/AbstractStringBuilder" "count" "I" (.int (0 : Int32))) (E_a1 : Exa Z h0 a1 "java/lang/StringBuilder") (g_a1 : n0 ≤ a1) (S_CS : Sta Z Z.heap "java/lang/String" "COMPACT_STRINGS" "Z" (.int zc)) (hz : ¬ zc = (0 : Int32)) :
    MetFree l y_8 (head1 (Jvm.Cond.code y_8 jdk_68_method_2_code 2 none :: ws) ({ frames := 1, cells := 1, slots := 16, locals := 12 } : Room)) (fun a U => a = #[(.ref a1), (.int (16 : Int32))] ∧ Z.Warmed39 U.vm ∧ U.heap = h0) (fun _ _ _ _ _ => True) (fun _ U o U' => ∃ v L, o = .returned v ∧ Q_rm_abi Z a1 zc h0 n0 v U'.heap L ∧ FrameEnd U o U' L ({ frames := 1, cells := 1, slots := 16, locals := 12 } : Room).cells ({ frames := 1, cells := 1, slots := 16, locals := 12 } : Room).slots) := by
  refine MetFree.of_bodySF (plainFor_of_name pn_3) hisR ?_
  intro p e s m args below meth c s₁ Bd hml0 hP hK
  obtain ⟨rfl, hZ, hh⟩ := hP
  have hx := Bd.exec
  have hby := Bd.bytes
  have hml : c.maxLocals = 2 := hml0
  have hown : s.vm.findClass "java/lang/AbstractStringBuilder" = some m.cls := findClass_of_methodNamed Bd.named
  have hnm := (name_of_methodNamed Bd.named Bd.method).1
  have X0 : Stand p l e ({ frames := 1, cells := 1, slots := 16, locals := 12 } : Room) s m #[(.ref a1), (.int (16 : Int32))] below meth c s₁ [] 0 0 := Stand.of_body Bd
  have e0 : s₁.heap = h0 := by rw [← hh, Bd.state]; rfl
  have N0 := Fr.nil n0
  have KC : Keep h0 h0 [a1] := Keep.refl h0 _
  have pre0 : ∀ t, Steps p.tables e below (s₁.setTop (mkF m 0 #[vr a1, vi (16 : Int32)] [])) t → Steps p.tables e below (s₁.setTop (entryFrame m #[(.ref a1), (.int (16 : Int32))] 2)) t := fun t k => castTop (ef_rm_abi m a1 (16 : Int32)) k
  obtain ⟨T1, X1, e1, st1⟩ := initO X0 hx hZ hown (ww hw 62 rfl) (ww hw 12 rfl) (ww hw 13 rfl) e0 (g := (mkF m 1 #[vr a1, vi (16 : Int32)] [(.ref a1)])) rfl (by rw [hml]; rfl) rfl (hb hby d10_1) (by decide) (W := 0) (by show 2 * 0 + _ ≤ _; exact Nat.le_of_eq rfl) (by decide)
  obtain ⟨T2, X2, e2, st2⟩ := getS2 X1 hx hZ hown (host := "") (Or.inl (ww hw 63 rfl)) Via.refl e1 (S_CS.ext O0.2) (g := (mkF m 4 #[vr a1, vi (16 : Int32)] [])) rfl (hb hby d10_4)
  obtain ⟨T3, h3, k3, X3, e3, E3, A3, st3⟩ := newP X2 hx hZ (ww hw 15 rfl) e2 (g := (mkF m 12 #[vr a1, vi (16 : Int32)] [(.int (16 : Int32)), (.ref a1)])) rfl (hb hby d10_12) rfl (by decide) (cap := 16) (by decide) (by decide) (by decide) (by decide)
  obtain ⟨b3, g3⟩ : ∃ z, z = h0.size := ⟨_, rfl⟩
  rw [← g3] at A3 st3
  have ne_a1_b3 : a1 ≠ b3 := Nat.ne_of_lt (Nat.lt_of_lt_of_le F_value_a1.lt (Nat.le_of_eq g3.symm))
  have g_b3 : n0 ≤ b3 := Nat.le_trans (Nat.le_trans Z0 KC.1) (Nat.le_of_eq g3.symm)
  have sz_b3 : h0.size ≤ b3 := Nat.le_trans KC.1 (Nat.le_of_eq g3.symm)
  replace F_value_a1 := F_value_a1.ext E3
  replace F_coder_a1 := F_coder_a1.ext E3
  replace F_count_a1 := F_count_a1.ext E3
  replace E_a1 := E_a1.ext E3
  replace O0 := O0.ext E3
  replace KC := KC.ext E3
  have V_b3 : Arv Z h3 b3 k3 .byte (16 : Int32) [(.int (0 : Int32)), (.int (0 : Int32)), (.int (0 : Int32)), (.int (0 : Int32)), (.int (0 : Int32)), (.int (0 : Int32)), (.int (0 : Int32)), (.int (0 : Int32)), (.int (0 : Int32)), (.int (0 : Int32)), (.int (0 : Int32)), (.int (0 : Int32)), (.int (0 : Int32)), (.int (0 : Int32)), (.int (0 : Int32)), (.int (0 : Int32))] (.int (0 : Int32)) := (Arv.new A3 (by decide)).pad (pad_rep [] (.int (0 : Int32)) 16)
  obtain ⟨T4, h4, X4, e4, W4, st4⟩ := putF X3 hx hZ hown (host := "") (Or.inl (ww hw 64 rfl)) Via.refl e3 F_value_a1 E_a1 (Or.inl (ww hw 65 rfl)) (ww hw 51 rfl) (ty := (.array .byte)) (by decide) rfl rfl (g := (mkF m 14 #[vr a1, vi (16 : Int32)] [(.ref b3), (.ref a1)])) rfl rfl (hb hby d10_14)
  have N4 := Fr.snoc X4 N0 g_a1
  replace F_value_a1 := F_value_a1.same W4
  replace F_coder_a1 := F_coder_a1.other W4 (Or.inr (slot_ne (Or.inl (ww hw 67 rfl)) (Or.inl (ww hw 65 rfl)) (by decide) (t := .byte) (t' := (.array .byte)) (by decide) (by decide)))
  replace F_count_a1 := F_count_a1.other W4 (Or.inr (slot_ne (Or.inl (ww hw 80 rfl)) (Or.inl (ww hw 65 rfl)) (by decide) (t := .int) (t' := (.array .byte)) (by decide) (by decide)))
  replace E_a1 := E_a1.wr W4
  replace V_b3 := V_b3.other W4 (Ne.symm ne_a1_b3)
  replace O0 := O0.wr W4 g_a1
  replace KC := KC.wr W4 (Or.inl (List.mem_of_getElem? (i := 0) rfl))
  obtain ⟨T5, h5, X5, e5, W5, st5⟩ := putFN X4 hx hZ hown (ww hw 66 rfl) Via.refl e4 F_coder_a1 E_a1 (Or.inl (ww hw 67 rfl)) (ww hw 51 rfl) (ty := .byte) (v' := .int (0 : Int32)) (by decide) rfl rfl (g := (mkF m 19 #[vr a1, vi (16 : Int32)] [(.int (0 : Int32)), (.ref a1)])) rfl rfl (hb hby d10_19)
  have N5 := Fr.snoc X5 N4 g_a1
  replace F_coder_a1 := F_coder_a1.same W5
  replace F_value_a1 := F_value_a1.other W5 (Or.inr (slot_ne (Or.inl (ww hw 65 rfl)) (Or.inl (ww hw 67 rfl)) (by decide) (t := (.array .byte)) (t' := .byte) (by decide) (by decide)))
  replace F_count_a1 := F_count_a1.other W5 (Or.inr (slot_ne (Or.inl (ww hw 80 rfl)) (Or.inl (ww hw 67 rfl)) (by decide) (t := .int) (t' := .byte) (by decide) (by decide)))
  replace E_a1 := E_a1.wr W5
  replace V_b3 := V_b3.other W5 (Ne.symm ne_a1_b3)
  replace O0 := O0.wr W5 g_a1
  replace KC := KC.wr W5 (Or.inl (List.mem_of_getElem? (i := 0) rfl))
  obtain ⟨fs, hr, hrun, hended, hW, hsame⟩ := X5.leave (v := none) (fun _ => rfl)
  refine ⟨_, _, pre0 _ ?_, hrun, hended, _, _, rfl, ?_, ⟨_, rfl⟩, hW, hsame.mono (by decide) (by decide)⟩
  · show SS p e below m s₁ 0 #[vr a1, vi (16 : Int32)] [] _
    refine XS.aloadN X0.here hx rfl (hb hby d10_0) rfl rfl ?_
    show SS p e below m s₁ 1 #[vr a1, vi (16 : Int32)] [(.ref a1)] _
    refine st1 _ ?_
    show SS p e below m T1 4 #[vr a1, vi (16 : Int32)] [] _
    refine st2 _ ?_
    show SS p e below m T2 7 #[vr a1, vi (16 : Int32)] [(.int zc)] _
    refine XS.ifNo X2.here hx rfl (hb hby d10_7) rfl ((if0 _ _).trans (feq hz).1) ?_
    show SS p e below m T2 10 #[vr a1, vi (16 : Int32)] [] _
    refine XS.aloadN X2.here hx rfl (hb hby d10_10) rfl rfl ?_
    show SS p e below m T2 11 #[vr a1, vi (16 : Int32)] [(.ref a1)] _
    refine XS.iloadN X2.here hx rfl (hb hby d10_11) rfl ?_
    show SS p e below m T2 12 #[vr a1, vi (16 : Int32)] [(.int (16 : Int32)), (.ref a1)] _
    refine st3 _ ?_
    show SS p e below m T3 14 #[vr a1, vi (16 : Int32)] [(.ref b3), (.ref a1)] _
    refine st4 _ ?_
    show SS p e below m T4 17 #[vr a1, vi (16 : Int32)] [] _
    refine XS.aloadN X4.here hx rfl (hb hby d10_17) rfl rfl ?_
    show SS p e below m T4 18 #[vr a1, vi (16 : Int32)] [(.ref a1)] _
    refine XS.iconst X4.here hx rfl (hb hby d10_18) ?_
    show SS p e below m T4 19 #[vr a1, vi (16 : Int32)] [(.int (0 : Int32)), (.ref a1)] _
    refine st5 _ ?_
    show SS p e below m T5 22 #[vr a1, vi (16 : Int32)] [] _
    refine XS.goto X5.here hx rfl (pc0 := 22) (pc' := 38) rfl (hb hby d10_22) (by decide) (by decide) ?_
    show SS p e below m T5 38 #[vr a1, vi (16 : Int32)] [] _
    exact X5.returnOut hx Bd.returns (hb hby d10_38) hr
  · show Q_rm_abi Z a1 zc h0 n0 _ T5.heap _
    rw [e5]
    exact ⟨b3, k3, rfl, N5, KC, sz_b3, F_value_a1, F_coder_a1, F_count_a1, V_b3⟩
theorem pd_5 : parseMethodDescriptor "(I)V" = some ⟨[.int], none⟩ := by decide +kernel
theorem d9_0 : decode jdk_67_method_1_code 0 = .ok (.aload_n 0, 1) := by decide +kernel
theorem d9_1 : decode jdk_67_method_1_code 1 = .ok (.bipush 16, 2) := by decide +kernel
theorem d9_3 : decode jdk_67_method_1_code 3 = .ok (.invokespecial 1, 3) := by decide +kernel
theorem d9_6 : decode jdk_67_method_1_code 6 = .ok (.return_, 1) := by decide +kernel
theorem pn_4 : plainName "java/lang/StringBuilder" = true := by first | (simp [plainName, overriddenIn]; done) | decide +kernel
theorem ef_rm_sbi (m : MethodId) (x0 : Addr) : entryFrame m #[(.ref x0)] 1 = mkF m 0 #[vr x0] [] := by first | (simp [entryFrame, mkF, argsToLocals, Value.category]; done) | rfl
def Q_rm_sbi (Z : State) (a1 : Addr) (zc : Int32) (h0 : Heap) (n0 : Nat) (v : Option Value) (h : Heap) (L : List Loc) : Prop := ∃ ta : Addr, ∃ k : ClassId, (v = none) ∧ (Fr n0 L) ∧ (Keep h0 h [a1]) ∧ (h0.size ≤ ta) ∧ (Fld Z h a1 "java/lang/AbstractStringBuilder" "value" "[B" (.ref ta)) ∧ (Fld Z h a1 "java/lang/AbstractStringBuilder" "coder" "B" (.int (0 : Int32))) ∧ (Fld Z h a1 "java/lang/AbstractStringBuilder" "count" "I" (.int (0 : Int32))) ∧ (Arv Z h ta k .byte (16 : Int32) [(.int (0 : Int32)), (.int (0 : Int32)), (.int (0 : Int32)), (.int (0 : Int32)), (.int (0 : Int32)), (.int (0 : Int32)), (.int (0 : Int32)), (.int (0 : Int32)), (.int (0 : Int32)), (.int (0 : Int32)), (.int (0 : Int32)), (.int (0 : Int32)), (.int (0 : Int32)), (.int (0 : Int32)), (.int (0 : Int32)), (.int (0 : Int32))] (.int (0 : Int32)))
set_option maxRecDepth 65536 in
set_option maxHeartbeats 40000000 in
theorem rm_sbi (l : Launch) (Z : State) (a0 : Array Value) (hw : ∀ d ∈ tables_1, d.before a0 Z = true) (ws : List Jvm.Cond) (a1 : Addr) (zc : Int32) (h0 : Heap) (n0 : Nat) (Z0 : n0 ≤ h0.size) (O0 : Old Z n0 h0) (F_value_a1 : Fld Z h0 a1 "java/lang/AbstractStringBuilder" "value" "[B" .null) (F_coder_a1 : Fld Z h0 a1 "java/lang/AbstractStringBuilder" "coder" "B" (.int (0 : Int32))) (F_count_a1 : Fld Z h0 a1 "java/lang/AbstractStringBuilder" "count" "I" (.int (0 : Int32))) (E_a1 : Exa Z h0 a1 "java/lang/StringBuilder") (g_a1 : n0 ≤ a1) (S_CS : Sta Z Z.heap "java/lang/String" "COMPACT_STRINGS" "Z" (.int zc)) (hz : ¬ zc = (0 : Int32)) :
    MetFree l y_9 (head1 (Jvm.Cond.code y_9 jdk_67_method_1_code 1 none :: ws) ({ frames := 2, cells := 1, slots := 16, locals := 25 } : Room)) (fun a U => a = #[(.ref a1)] ∧ Z.Warmed39 U.vm ∧ U.heap = h0) (fun _ _ _ _ _ => True) (fun _ U o U' => ∃ v L, o = .returned v ∧ Q_rm_sbi Z a1 zc h0 n0 v U'.heap L ∧ FrameEnd U o U' L ({ frames := 2, cells := 1, slots := 16, locals := 25 } : Room).cells ({ frames := 2, cells := 1, slots := 16, locals := 25 } : Room).slots) := by
  refine MetFree.of_bodySF (plainFor_of_name pn_4) hisR ?_
  intro p e s m args below meth c s₁ Bd hml0 hP hK
  obtain ⟨rfl, hZ, hh⟩ := hP
  have hx := Bd.exec
  have hby := Bd.bytes
  have hml : c.maxLocals = 1 := hml0
  have hown : s.vm.findClass "java/lang/StringBuilder" = some m.cls := findClass_of_methodNamed Bd.named
  have hnm := (name_of_methodNamed Bd.named Bd.method).1
  have X0 : Stand p l e ({ frames := 2, cells := 1, slots := 16, locals := 25 } : Room) s m #[(.ref a1)] below meth c s₁ [] 0 0 := Stand.of_body Bd
  have e0 : s₁.heap = h0 := by rw [← hh, Bd.state]; rfl
  have N0 := Fr.nil n0
  have KC : Keep h0 h0 [a1] := Keep.refl h0 _
  have pre0 : ∀ t, Steps p.tables e below (s₁.setTop (mkF m 0 #[vr a1] [])) t → Steps p.tables e below (s₁.setTop (entryFrame m #[(.ref a1)] 1)) t := fun t k => castTop (ef_rm_sbi m a1) k
  obtain ⟨_, _, ⟨T1, L1, kz1, nz1⟩, -, X1, ⟨Lc1, hQ1, l1, y1, z1⟩, st1⟩ := X0.specialBack hx (y := y_8) rfl hown (mvT hZ (ww hw 56 rfl)) (mvT hZ (ww hw 57 rfl)) (mvT hZ (ww hw 61 rfl)) (by decide) (backOf (W := 0) (rm_abi l Z a0 hw [] a1 zc h0 n0 (Nat.le_trans Z0 KC.1) O0 F_value_a1 F_coder_a1 F_count_a1 E_a1 g_a1 S_CS hz) hZ (ww hw 61 rfl) (ww hw 60 rfl) (by decide) (by decide)) (g := (mkF m 3 #[vr a1] [(.int (16 : Int32)), (.ref a1)])) rfl (by rw [hml]; rfl) (Steps.refl _) (a := a1) (argsL := [(.int (16 : Int32))]) (rest := []) (lenOf pd_5 rfl) rfl (by show 2 * 0 + _ ≤ _; exact Nat.le_of_eq rfl) (hb hby d9_3) (fun _ _ => ⟨rfl, e0, (by decide : 0 + 1 ≤ _), (by decide : 0 + 16 ≤ _)⟩)
  dsimp only [Pt.U, Pt.locs, Pt.cells, Pt.slots] at X1 l1 y1 z1 st1 hQ1
  subst l1 y1 z1
  obtain ⟨b1_ta, k_1, rfl, N1q, K1, sz_b1_ta, F_value_a1_1, F_coder_a1_1, F_count_a1_1, V_ta_1⟩ := hQ1
  have N1 := Fr.app N0 N1q
  have ne_a1_b1_ta : a1 ≠ b1_ta := Nat.ne_of_lt (Nat.lt_of_lt_of_le F_value_a1.lt sz_b1_ta)
  have g_b1_ta : n0 ≤ b1_ta := Nat.le_trans (Nat.le_trans Z0 KC.1) sz_b1_ta
  replace sz_b1_ta : h0.size ≤ b1_ta := Nat.le_trans KC.1 sz_b1_ta
  replace E_a1 := E_a1.keep K1
  replace O0 := O0.keep K1 (allS g_a1 all0)
  replace KC := KC.trans K1 (allS (Or.inl (List.mem_of_getElem? (i := 0) rfl)) all0)
  obtain ⟨fs, hr, hrun, hended, hW, hsame⟩ := X1.leave (v := none) (fun _ => rfl)
  refine ⟨_, _, pre0 _ ?_, hrun, hended, _, _, rfl, ?_, ⟨_, rfl⟩, hW, hsame.mono (by decide) (by decide)⟩
  · show SS p e below m s₁ 0 #[vr a1] [] _
    refine XS.aloadN X0.here hx rfl (hb hby d9_0) rfl rfl ?_
    show SS p e below m s₁ 1 #[vr a1] [(.ref a1)] _
    refine XS.bipush X0.here hx rfl (hb hby d9_1) ?_
    show SS p e below m s₁ 3 #[vr a1] [(.int (16 : Int32)), (.ref a1)] _
    refine st1.trans ?_
    show SS p e below m T1 6 #[vr a1] [] _
    exact X1.returnOut hx Bd.returns (hb hby d9_6) hr
  · show Q_rm_sbi Z a1 zc h0 n0 _ T1.heap _
    exact ⟨b1_ta, k_1, rfl, N1, KC, sz_b1_ta, F_value_a1_1, F_coder_a1_1, F_count_a1_1, V_ta_1⟩
theorem d13_0 : decode jdk_68_method_9_code 0 = .ok (.aload_n 0, 1) := by decide +kernel
theorem d13_1 : decode jdk_68_method_9_code 1 = .ok (.getfield 15, 3) := by decide +kernel
theorem d13_4 : decode jdk_68_method_9_code 4 = .ok (.arraylength, 1) := by decide +kernel
theorem d13_5 : decode jdk_68_method_9_code 5 = .ok (.aload_n 0, 1) := by decide +kernel
theorem d13_6 : decode jdk_68_method_9_code 6 = .ok (.getfield 22, 3) := by decide +kernel
theorem d13_9 : decode jdk_68_method_9_code 9 = .ok (.ishr, 1) := by decide +kernel
theorem d13_10 : decode jdk_68_method_9_code 10 = .ok (.istore_n 2, 1) := by decide +kernel
theorem d13_11 : decode jdk_68_method_9_code 11 = .ok (.iload_n 1, 1) := by decide +kernel
theorem d13_12 : decode jdk_68_method_9_code 12 = .ok (.iload_n 2, 1) := by decide +kernel
theorem d13_13 : decode jdk_68_method_9_code 13 = .ok (.isub, 1) := by decide +kernel
theorem d13_14 : decode jdk_68_method_9_code 14 = .ok (.ifCond .le 24, 3) := by decide +kernel
theorem d13_38 : decode jdk_68_method_9_code 38 = .ok (.return_, 1) := by decide +kernel
theorem ef_rm_ens (m : MethodId) (x0 : Addr) (x1 : Int32) : entryFrame m #[(.ref x0), (.int x1)] 3 = mkF m 0 #[vr x0, vi x1, .unset] [] := by first | (simp [entryFrame, mkF, argsToLocals, Value.category]; done) | rfl
def Q_rm_ens (Z : State) (a1 : Addr) (p2 : Int32) (ta : Addr) (k : ClassId) (vs : List Value) (h0 : Heap) (n0 : Nat) (v : Option Value) (h : Heap) (L : List Loc) : Prop := (v = none) ∧ (Fr n0 L) ∧ (h = h0)
set_option maxRecDepth 65536 in
set_option maxHeartbeats 40000000 in
theorem rm_ens (l : Launch) (Z : State) (a0 : Array Value) (hw : ∀ d ∈ tables_1, d.before a0 Z = true) (ws : List Jvm.Cond) (a1 : Addr) (p2 : Int32) (ta : Addr) (k : ClassId) (vs : List Value) (h0 : Heap) (n0 : Nat) (Z0 : n0 ≤ h0.size) (O0 : Old Z n0 h0) (F_value_a1 : Fld Z h0 a1 "java/lang/AbstractStringBuilder" "value" "[B" (.ref ta)) (F_coder_a1 : Fld Z h0 a1 "java/lang/AbstractStringBuilder" "coder" "B" (.int (0 : Int32))) (V_ta : Arv Z h0 ta k .byte (16 : Int32) vs (.int (0 : Int32))) (hle : ¬ (0 : Int32) < (p2 - (16 : Int32))) :
    MetFree l y_10 (head1 (Jvm.Cond.code y_10 jdk_68_method_9_code 3 none :: ws) ({ frames := 0, cells := 0, slots := 0, locals := 0 } : Room)) (fun a U => a = #[(.ref a1), (.int p2)] ∧ Z.Warmed39 U.vm ∧ U.heap = h0) (fun _ _ _ _ _ => True) (fun _ U o U' => ∃ v L, o = .returned v ∧ Q_rm_ens Z a1 p2 ta k vs h0 n0 v U'.heap L ∧ FrameEnd U o U' L ({ frames := 0, cells := 0, slots := 0, locals := 0 } : Room).cells ({ frames := 0, cells := 0, slots := 0, locals := 0 } : Room).slots) := by
  refine MetFree.of_bodySF (plainFor_of_name pn_3) hisR ?_
  intro p e s m args below meth c s₁ Bd hml0 hP hK
  obtain ⟨rfl, hZ, hh⟩ := hP
  have hx := Bd.exec
  have hby := Bd.bytes
  have hml : c.maxLocals = 3 := hml0
  have hown : s.vm.findClass "java/lang/AbstractStringBuilder" = some m.cls := findClass_of_methodNamed Bd.named
  have hnm := (name_of_methodNamed Bd.named Bd.method).1
  have X0 : Stand p l e ({ frames := 0, cells := 0, slots := 0, locals := 0 } : Room) s m #[(.ref a1), (.int p2)] below meth c s₁ [] 0 0 := Stand.of_body Bd
  have e0 : s₁.heap = h0 := by rw [← hh, Bd.state]; rfl
  have N0 := Fr.nil n0
  have KC : Keep h0 h0 [] := Keep.refl h0 _
  have pre0 : ∀ t, Steps p.tables e below (s₁.setTop (mkF m 0 #[vr a1, vi p2, un] [])) t → Steps p.tables e below (s₁.setTop (entryFrame m #[(.ref a1), (.int p2)] 3)) t := fun t k => castTop (ef_rm_ens m a1 p2) k
  obtain ⟨T1, X1, e1, st1⟩ := getF X0 hx hZ hown (host := "") (Or.inl (ww hw 64 rfl)) Via.refl e0 F_value_a1 (g := (mkF m 1 #[vr a1, vi p2, un] [(.ref a1)])) rfl rfl (hb hby d13_1)
  have Vo2 := V_ta
  obtain ⟨cl2, Ar2, -, Sz2, Nn2, -, -⟩ := Vo2
  have ia2 := State.isArrayOf_alike hZ.alike Ar2.2.1
  obtain ⟨T3, X3, e3, st3⟩ := getF X1 hx hZ hown (host := "") (Or.inl (ww hw 66 rfl)) Via.refl e1 F_coder_a1 (g := (mkF m 6 #[vr a1, vi p2, un] [(.ref a1), (.int (16 : Int32))])) rfl rfl (hb hby d13_6)
  have pre4 : ∀ t, Steps p.tables e below (T3.setTop (mkF m 10 #[vr a1, vi p2, un] [(.int ((16 : Int32) >>> ((0 : Int32) &&& 31)))])) t → Steps p.tables e below (s₁.setTop (entryFrame m #[(.ref a1), (.int p2)] 3)) t := by
    intro t kt
    refine pre0 t ?_
    show SS p e below m s₁ 0 #[vr a1, vi p2, un] [] _
    refine XS.aloadN X0.here hx rfl (hb hby d13_0) rfl rfl ?_
    show SS p e below m s₁ 1 #[vr a1, vi p2, un] [(.ref a1)] _
    refine st1 _ ?_
    show SS p e below m T1 4 #[vr a1, vi p2, un] [(.ref ta)] _
    refine X1.arraylength hx (by rw [e1]; exact Ar2.1) ia2 (g := (mkF m 4 #[vr a1, vi p2, un] [(.ref ta)])) rfl rfl (hb hby d13_4) _ ?_
    rw [len_of Sz2 Nn2]
    show SS p e below m T1 5 #[vr a1, vi p2, un] [(.int (16 : Int32))] _
    refine XS.aloadN X1.here hx rfl (hb hby d13_5) rfl rfl ?_
    show SS p e below m T1 6 #[vr a1, vi p2, un] [(.ref a1), (.int (16 : Int32))] _
    refine st3 _ ?_
    show SS p e below m T3 9 #[vr a1, vi p2, un] [(.int (0 : Int32)), (.int (16 : Int32))] _
    refine XS.ishr X3.here hx rfl (hb hby d13_9) rfl ?_
    exact kt
  rw [(own_shr0 _)] at pre4
  obtain ⟨fs, hr, hrun, hended, hW, hsame⟩ := X3.leave (v := none) (fun _ => rfl)
  refine ⟨_, _, pre4 _ ?_, hrun, hended, _, _, rfl, ?_, ⟨_, rfl⟩, hW, hsame.mono (by decide) (by decide)⟩
  · show SS p e below m T3 10 #[vr a1, vi p2, un] [(.int (16 : Int32))] _
    refine XS.istoreN X3.here hx rfl (hb hby d13_10) rfl (l' := #[vr a1, vi p2, vi (16 : Int32)]) rfl ?_
    show SS p e below m T3 11 #[vr a1, vi p2, vi (16 : Int32)] [] _
    refine XS.iloadN X3.here hx rfl (hb hby d13_11) rfl ?_
    show SS p e below m T3 12 #[vr a1, vi p2, vi (16 : Int32)] [(.int p2)] _
    refine XS.iloadN X3.here hx rfl (hb hby d13_12) rfl ?_
    show SS p e below m T3 13 #[vr a1, vi p2, vi (16 : Int32)] [(.int (16 : Int32)), (.int p2)] _
    refine XS.isub X3.here hx rfl (hb hby d13_13) rfl ?_
    show SS p e below m T3 14 #[vr a1, vi p2, vi (16 : Int32)] [(.int (p2 - (16 : Int32)))] _
    refine XS.ifYes X3.here hx rfl (pc0 := 14) (pc' := 38) rfl (hb hby d13_14) rfl ((if0 _ _).trans (flt hle).2.2.2) (by decide) (by decide) ?_
    show SS p e below m T3 38 #[vr a1, vi p2, vi (16 : Int32)] [] _
    exact X3.returnOut hx Bd.returns (hb hby d13_38) hr
  · show Q_rm_ens Z a1 p2 ta k vs h0 n0 _ T3.heap _
    rw [e3]
    exact ⟨rfl, N0, rfl⟩
theorem d15_0 : decode jdk_68_method_71_code 0 = .ok (.getstatic 18, 3) := by decide +kernel
theorem d15_3 : decode jdk_68_method_71_code 3 = .ok (.ifCond .eq 18, 3) := by decide +kernel
theorem d15_6 : decode jdk_68_method_71_code 6 = .ok (.aload_n 0, 1) := by decide +kernel
theorem d15_7 : decode jdk_68_method_71_code 7 = .ok (.getfield 22, 3) := by decide +kernel
theorem d15_10 : decode jdk_68_method_71_code 10 = .ok (.aload_n 1, 1) := by decide +kernel
theorem d15_11 : decode jdk_68_method_71_code 11 = .ok (.invokevirtual 40, 3) := by decide +kernel
theorem d15_14 : decode jdk_68_method_71_code 14 = .ok (.if_icmp .eq 7, 3) := by decide +kernel
theorem d15_21 : decode jdk_68_method_71_code 21 = .ok (.return_, 1) := by decide +kernel
theorem ef_rm_inf (m : MethodId) (x0 : Addr) (x1 : Addr) : entryFrame m #[(.ref x0), (.ref x1)] 2 = mkF m 0 #[vr x0, vr x1] [] := by first | (simp [entryFrame, mkF, argsToLocals, Value.category]; done) | rfl
def Q_rm_inf (Z : State) (a1 : Addr) (a2 : Addr) (zc : Int32) (h0 : Heap) (n0 : Nat) (v : Option Value) (h : Heap) (L : List Loc) : Prop := (v = none) ∧ (Fr n0 L) ∧ (h = h0)
set_option maxRecDepth 65536 in
set_option maxHeartbeats 40000000 in
theorem rm_inf (l : Launch) (Z : State) (a0 : Array Value) (hw : ∀ d ∈ tables_1, d.before a0 Z = true) (ws : List Jvm.Cond) (a1 : Addr) (a2 : Addr) (zc : Int32) (h0 : Heap) (n0 : Nat) (Z0 : n0 ≤ h0.size) (O0 : Old Z n0 h0) (F_coder_a1 : Fld Z h0 a1 "java/lang/AbstractStringBuilder" "coder" "B" (.int (0 : Int32))) (E_a2 : Exa Z h0 a2 "java/lang/String") (F_coder_a2 : Fld Z h0 a2 "java/lang/String" "coder" "B" (.int (0 : Int32))) (S_CS : Sta Z Z.heap "java/lang/String" "COMPACT_STRINGS" "Z" (.int zc)) (hz : ¬ zc = (0 : Int32)) :
    MetFree l y_11 (head1 (Jvm.Cond.code y_11 jdk_68_method_71_code 2 none :: ws) ({ frames := 1, cells := 0, slots := 0, locals := 13 } : Room)) (fun a U => a = #[(.ref a1), (.ref a2)] ∧ Z.Warmed39 U.vm ∧ U.heap = h0) (fun _ _ _ _ _ => True) (fun _ U o U' => ∃ v L, o = .returned v ∧ Q_rm_inf Z a1 a2 zc h0 n0 v U'.heap L ∧ FrameEnd U o U' L ({ frames := 1, cells := 0, slots := 0, locals := 13 } : Room).cells ({ frames := 1, cells := 0, slots := 0, locals := 13 } : Room).slots) := by
  refine MetFree.of_bodySF (plainFor_of_name pn_3) hisR ?_
  intro p e s m args below meth c s₁ Bd hml0 hP hK
  obtain ⟨rfl, hZ, hh⟩ := hP
  have hx := Bd.exec
  have hby := Bd.bytes
  have hml : c.maxLocals = 2 := hml0
  have hown : s.vm.findClass "java/lang/AbstractStringBuilder" = some m.cls := findClass_of_methodNamed Bd.named
  have hnm := (name_of_methodNamed Bd.named Bd.method).1
  have X0 : Stand p l e ({ frames := 1, cells := 0, slots := 0, locals := 13 } : Room) s m #[(.ref a1), (.ref a2)] below meth c s₁ [] 0 0 := Stand.of_body Bd
  have e0 : s₁.heap = h0 := by rw [← hh, Bd.state]; rfl
  have N0 := Fr.nil n0
  have KC : Keep h0 h0 [] := Keep.refl h0 _
  have pre0 : ∀ t, Steps p.tables e below (s₁.setTop (mkF m 0 #[vr a1, vr a2] [])) t → Steps p.tables e below (s₁.setTop (entryFrame m #[(.ref a1), (.ref a2)] 2)) t := fun t k => castTop (ef_rm_inf m a1 a2) k
  obtain ⟨T1, X1, e1, st1⟩ := getS2 X0 hx hZ hown (host := "") (Or.inl (ww hw 63 rfl)) Via.refl e0 (S_CS.ext O0.2) (g := (mkF m 0 #[vr a1, vr a2] [])) rfl (hb hby d15_0)
  obtain ⟨T2, X2, e2, st2⟩ := getF X1 hx hZ hown (host := "") (Or.inl (ww hw 66 rfl)) Via.refl e1 F_coder_a1 (g := (mkF m 7 #[vr a1, vr a2] [(.ref a1)])) rfl rfl (hb hby d15_7)
  obtain ⟨cq3, kq3, q3a, q3b, q3c⟩ := isOf hZ e2 E_a2
  obtain ⟨_, _, ⟨T3, L3, kz3, nz3⟩, -, X3, ⟨Lc3, hQ3, l3, y3, z3⟩, st3⟩ := X2.virtualBack hx (y := y_0) (z := y_0) hown (mvT hZ (ww hw 96 rfl)) (mvT hZ (ww hw 38 rfl)) (notFace_of_selects (args := #[]) (mvT hZ (ww hw 40 rfl))) (mvT hZ (ww hw 40 rfl)) (mvT hZ (ww hw 39 rfl)) (by decide) (backOf (W := 1) (rm_coder l Z a0 hw [] a2 zc h0 n0 (Nat.le_trans Z0 KC.1) O0 F_coder_a2 S_CS hz) hZ (ww hw 41 rfl) (ww hw 3 rfl) (by decide) (by decide)) q3a q3c (g := (mkF m 11 #[vr a1, vr a2] [(.ref a2), (.int (0 : Int32))])) rfl (by rw [hml]; rfl) (Steps.refl _) (argsL := []) (rest := [(.int (0 : Int32))]) (lenOf pd_0 rfl) rfl (by show 2 * 0 + _ ≤ _; exact Nat.le_of_eq rfl) (hb hby d15_11) (fun _ _ => ⟨rfl, e2, (by decide : 0 + 0 ≤ _), (by decide : 0 + 0 ≤ _)⟩)
  dsimp only [Pt.U, Pt.locs, Pt.cells, Pt.slots] at X3 l3 y3 z3 st3 hQ3
  subst l3 y3 z3
  obtain ⟨rfl, N3q, e3⟩ := hQ3
  have N3 := Fr.app N0 N3q
  obtain ⟨fs, hr, hrun, hended, hW, hsame⟩ := X3.leave (v := none) (fun _ => rfl)
  refine ⟨_, _, pre0 _ ?_, hrun, hended, _, _, rfl, ?_, ⟨_, rfl⟩, hW, hsame.mono (by decide) (by decide)⟩
  · show SS p e below m s₁ 0 #[vr a1, vr a2] [] _
    refine st1 _ ?_
    show SS p e below m T1 3 #[vr a1, vr a2] [(.int zc)] _
    refine XS.ifNo X1.here hx rfl (hb hby d15_3) rfl ((if0 _ _).trans (feq hz).1) ?_
    show SS p e below m T1 6 #[vr a1, vr a2] [] _
    refine XS.aloadN X1.here hx rfl (hb hby d15_6) rfl rfl ?_
    show SS p e below m T1 7 #[vr a1, vr a2] [(.ref a1)] _
    refine st2 _ ?_
    show SS p e below m T2 10 #[vr a1, vr a2] [(.int (0 : Int32))] _
    refine XS.aloadN X2.here hx rfl (hb hby d15_10) rfl rfl ?_
    show SS p e below m T2 11 #[vr a1, vr a2] [(.ref a2), (.int (0 : Int32))] _
    refine st3.trans ?_
    show SS p e below m T3 14 #[vr a1, vr a2] [(.int (0 : Int32)), (.int (0 : Int32))] _
    refine XS.icmpYes X3.here hx rfl (pc0 := 14) (pc' := 21) rfl (hb hby d15_14) rfl (teq (by decide)).1 (by decide) (by decide) ?_
    show SS p e below m T3 21 #[vr a1, vr a2] [] _
    exact X3.returnOut hx Bd.returns (hb hby d15_21) hr
  · show Q_rm_inf Z a1 a2 zc h0 n0 _ T3.heap _
    rw [e3]
    exact ⟨rfl, N3, rfl⟩
theorem d16_0 : decode jdk_42_method_147_code 0 = .ok (.aload_n 0, 1) := by decide +kernel
theorem d16_1 : decode jdk_42_method_147_code 1 = .ok (.invokevirtual 335, 3) := by decide +kernel
theorem d16_4 : decode jdk_42_method_147_code 4 = .ok (.iload_n 3, 1) := by decide +kernel
theorem d16_5 : decode jdk_42_method_147_code 5 = .ok (.if_icmp .ne 23, 3) := by decide +kernel
theorem d16_8 : decode jdk_42_method_147_code 8 = .ok (.aload_n 0, 1) := by decide +kernel
theorem d16_9 : decode jdk_42_method_147_code 9 = .ok (.getfield 9, 3) := by decide +kernel
theorem d16_12 : decode jdk_42_method_147_code 12 = .ok (.iconst 0, 1) := by decide +kernel
theorem d16_13 : decode jdk_42_method_147_code 13 = .ok (.aload_n 1, 1) := by decide +kernel
theorem d16_14 : decode jdk_42_method_147_code 14 = .ok (.iload_n 2, 1) := by decide +kernel
theorem d16_15 : decode jdk_42_method_147_code 15 = .ok (.iload_n 3, 1) := by decide +kernel
theorem d16_16 : decode jdk_42_method_147_code 16 = .ok (.ishl, 1) := by decide +kernel
theorem d16_17 : decode jdk_42_method_147_code 17 = .ok (.aload_n 0, 1) := by decide +kernel
theorem d16_18 : decode jdk_42_method_147_code 18 = .ok (.getfield 9, 3) := by decide +kernel
theorem d16_21 : decode jdk_42_method_147_code 21 = .ok (.arraylength, 1) := by decide +kernel
theorem d16_22 : decode jdk_42_method_147_code 22 = .ok (.invokestatic 212, 3) := by decide +kernel
theorem d16_25 : decode jdk_42_method_147_code 25 = .ok (.goto 18, 3) := by decide +kernel
theorem d16_43 : decode jdk_42_method_147_code 43 = .ok (.return_, 1) := by decide +kernel
theorem ef_rm_gb (m : MethodId) (x0 : Addr) (x1 : Addr) (x2 : Int32) (x3 : Int32) : entryFrame m #[(.ref x0), (.ref x1), (.int x2), (.int x3)] 4 = mkF m 0 #[vr x0, vr x1, vi x2, vi x3] [] := by first | (simp [entryFrame, mkF, argsToLocals, Value.category]; done) | rfl
def Q_rm_gb (Z : State) (a1 : Addr) (a2 : Addr) (p3 : Int32) (ta : Addr) (k : ClassId) (z : Int32) (vs : List Value) (kd : ClassId) (vd : List Value) (vd' : List Value) (zc : Int32) (h0 : Heap) (n0 : Nat) (v : Option Value) (h : Heap) (L : List Loc) : Prop := (v = none) ∧ (Fr n0 L) ∧ (Keep h0 h [a2]) ∧ (Arv Z h a2 kd .byte (16 : Int32) vd' (.int (0 : Int32)))
set_option maxRecDepth 65536 in
set_option maxHeartbeats 40000000 in
theorem rm_gb (l : Launch) (Z : State) (a0 : Array Value) (hw : ∀ d ∈ tables_1, d.before a0 Z = true) (ws : List Jvm.Cond) (a1 : Addr) (a2 : Addr) (p3 : Int32) (ta : Addr) (k : ClassId) (z : Int32) (vs : List Value) (kd : ClassId) (vd : List Value) (vd' : List Value) (zc : Int32) (h0 : Heap) (n0 : Nat) (Z0 : n0 ≤ h0.size) (O0 : Old Z n0 h0) (E_a1 : Exa Z h0 a1 "java/lang/String") (F_value_a1 : Fld Z h0 a1 "java/lang/String" "value" "[B" (.ref ta)) (F_coder_a1 : Fld Z h0 a1 "java/lang/String" "coder" "B" (.int (0 : Int32))) (V_ta : Arv Z h0 ta k .byte z vs (.int (0 : Int32))) (V_a2 : Arv Z h0 a2 kd .byte (16 : Int32) vd (.int (0 : Int32))) (g_a2 : n0 ≤ a2) (ne_t : ta ≠ a2) (S_CS : Sta Z Z.heap "java/lang/String" "COMPACT_STRINGS" "Z" (.int zc)) (hz : ¬ zc = (0 : Int32)) (hp3 : ¬ p3 < (0 : Int32)) (hz0 : ¬ z < (0 : Int32)) (hfit : p3.toNatClampNeg + z.toNatClampNeg ≤ 16) (hlen : p3.toNatClampNeg + z.toNatClampNeg ≤ vd.length) (hv : (vd.take p3.toNatClampNeg ++ ((List.range z.toNatClampNeg).map fun i => vs.getD ((0 : Int32).toNatClampNeg + i) (.int (0 : Int32))) ++ vd.drop (p3.toNatClampNeg + z.toNatClampNeg)) = vd') :
    MetFree l y_12 (head1 (Jvm.Cond.code y_12 jdk_42_method_147_code 4 none :: ws) ({ frames := 1, cells := 0, slots := 0, locals := 18 } : Room)) (fun a U => a = #[(.ref a1), (.ref a2), (.int p3), (.int (0 : Int32))] ∧ Z.Warmed39 U.vm ∧ U.heap = h0) (fun _ _ _ _ _ => True) (fun _ U o U' => ∃ v L, o = .returned v ∧ Q_rm_gb Z a1 a2 p3 ta k z vs kd vd vd' zc h0 n0 v U'.heap L ∧ FrameEnd U o U' L ({ frames := 1, cells := 0, slots := 0, locals := 18 } : Room).cells ({ frames := 1, cells := 0, slots := 0, locals := 18 } : Room).slots) := by
  refine MetFree.of_bodySF (plainFor_of_name pn_0) hisR ?_
  intro p e s m args below meth c s₁ Bd hml0 hP hK
  obtain ⟨rfl, hZ, hh⟩ := hP
  have hx := Bd.exec
  have hby := Bd.bytes
  have hml : c.maxLocals = 4 := hml0
  have hown : s.vm.findClass "java/lang/String" = some m.cls := findClass_of_methodNamed Bd.named
  have hnm := (name_of_methodNamed Bd.named Bd.method).1
  have X0 : Stand p l e ({ frames := 1, cells := 0, slots := 0, locals := 18 } : Room) s m #[(.ref a1), (.ref a2), (.int p3), (.int (0 : Int32))] below meth c s₁ [] 0 0 := Stand.of_body Bd
  have e0 : s₁.heap = h0 := by rw [← hh, Bd.state]; rfl
  have N0 := Fr.nil n0
  have KC : Keep h0 h0 [a2] := Keep.refl h0 _
  have pre0 : ∀ t, Steps p.tables e below (s₁.setTop (mkF m 0 #[vr a1, vr a2, vi p3, vi (0 : Int32)] [])) t → Steps p.tables e below (s₁.setTop (entryFrame m #[(.ref a1), (.ref a2), (.int p3), (.int (0 : Int32))] 4)) t := fun t k => castTop (ef_rm_gb m a1 a2 p3 (0 : Int32)) k
  obtain ⟨cq1, kq1, q1a, q1b, q1c⟩ := isOf hZ e0 E_a1
  obtain ⟨_, _, ⟨T1, L1, kz1, nz1⟩, -, X1, ⟨Lc1, hQ1, l1, y1, z1⟩, st1⟩ := X0.virtualBack hx (y := y_0) (z := y_0) hown (mvT hZ (ww hw 37 rfl)) (mvT hZ (ww hw 38 rfl)) (notFace_of_selects (args := #[]) (mvT hZ (ww hw 40 rfl))) (mvT hZ (ww hw 40 rfl)) (mvT hZ (ww hw 39 rfl)) (by decide) (backOf (W := 0) (rm_coder l Z a0 hw [] a1 zc h0 n0 (Nat.le_trans Z0 KC.1) O0 F_coder_a1 S_CS hz) hZ (ww hw 41 rfl) (ww hw 3 rfl) (by decide) (by decide)) q1a q1c (g := (mkF m 1 #[vr a1, vr a2, vi p3, vi (0 : Int32)] [(.ref a1)])) rfl (by rw [hml]; rfl) (Steps.refl _) (argsL := []) (rest := []) (lenOf pd_0 rfl) rfl (by show 2 * 0 + _ ≤ _; exact Nat.le_of_eq rfl) (hb hby d16_1) (fun _ _ => ⟨rfl, e0, (by decide : 0 + 0 ≤ _), (by decide : 0 + 0 ≤ _)⟩)
  dsimp only [Pt.U, Pt.locs, Pt.cells, Pt.slots] at X1 l1 y1 z1 st1 hQ1
  subst l1 y1 z1
  obtain ⟨rfl, N1q, e1⟩ := hQ1
  have N1 := Fr.app N0 N1q
  obtain ⟨T2, X2, e2, st2⟩ := getF X1 hx hZ hown (host := "") (Or.inl (ww hw 20 rfl)) Via.refl e1 F_value_a1 (g := (mkF m 9 #[vr a1, vr a2, vi p3, vi (0 : Int32)] [(.ref a1)])) rfl rfl (hb hby d16_9)
  have pre3 : ∀ t, Steps p.tables e below (T2.setTop (mkF m 17 #[vr a1, vr a2, vi p3, vi (0 : Int32)] [(.int (p3 <<< ((0 : Int32) &&& 31))), (.ref a2), (.int (0 : Int32)), (.ref ta)])) t → Steps p.tables e below (s₁.setTop (entryFrame m #[(.ref a1), (.ref a2), (.int p3), (.int (0 : Int32))] 4)) t := by
    intro t kt
    refine pre0 t ?_
    show SS p e below m s₁ 0 #[vr a1, vr a2, vi p3, vi (0 : Int32)] [] _
    refine XS.aloadN X0.here hx rfl (hb hby d16_0) rfl rfl ?_
    show SS p e below m s₁ 1 #[vr a1, vr a2, vi p3, vi (0 : Int32)] [(.ref a1)] _
    refine st1.trans ?_
    show SS p e below m T1 4 #[vr a1, vr a2, vi p3, vi (0 : Int32)] [(.int (0 : Int32))] _
    refine XS.iloadN X1.here hx rfl (hb hby d16_4) rfl ?_
    show SS p e below m T1 5 #[vr a1, vr a2, vi p3, vi (0 : Int32)] [(.int (0 : Int32)), (.int (0 : Int32))] _
    refine XS.icmpNo X1.here hx rfl (hb hby d16_5) rfl (teq (by decide)).2 ?_
    show SS p e below m T1 8 #[vr a1, vr a2, vi p3, vi (0 : Int32)] [] _
    refine XS.aloadN X1.here hx rfl (hb hby d16_8) rfl rfl ?_
    show SS p e below m T1 9 #[vr a1, vr a2, vi p3, vi (0 : Int32)] [(.ref a1)] _
    refine st2 _ ?_
    show SS p e below m T2 12 #[vr a1, vr a2, vi p3, vi (0 : Int32)] [(.ref ta)] _
    refine XS.iconst X2.here hx rfl (hb hby d16_12) ?_
    show SS p e below m T2 13 #[vr a1, vr a2, vi p3, vi (0 : Int32)] [(.int (0 : Int32)), (.ref ta)] _
    refine XS.aloadN X2.here hx rfl (hb hby d16_13) rfl rfl ?_
    show SS p e below m T2 14 #[vr a1, vr a2, vi p3, vi (0 : Int32)] [(.ref a2), (.int (0 : Int32)), (.ref ta)] _
    refine XS.iloadN X2.here hx rfl (hb hby d16_14) rfl ?_
    show SS p e below m T2 15 #[vr a1, vr a2, vi p3, vi (0 : Int32)] [(.int p3), (.ref a2), (.int (0 : Int32)), (.ref ta)] _
    refine XS.iloadN X2.here hx rfl (hb hby d16_15) rfl ?_
    show SS p e below m T2 16 #[vr a1, vr a2, vi p3, vi (0 : Int32)] [(.int (0 : Int32)), (.int p3), (.ref a2), (.int (0 : Int32)), (.ref ta)] _
    refine XS.ishl X2.here hx rfl (hb hby d16_16) rfl ?_
    exact kt
  rw [(own_shl0 _)] at pre3
  obtain ⟨T4, X4, e4, st4⟩ := getF X2 hx hZ hown (host := "") (Or.inl (ww hw 20 rfl)) Via.refl e2 F_value_a1 (g := (mkF m 18 #[vr a1, vr a2, vi p3, vi (0 : Int32)] [(.ref a1), (.int p3), (.ref a2), (.int (0 : Int32)), (.ref ta)])) rfl rfl (hb hby d16_18)
  have Vo5 := V_ta
  obtain ⟨cl5, Ar5, -, Sz5, Nn5, -, -⟩ := Vo5
  have ia5 := State.isArrayOf_alike hZ.alike Ar5.2.1
  obtain ⟨T6, h6, L6, X6, e6, N6, K6, Vq6, st6⟩ := cpA X4 hx hZ hown (ww hw 102 rfl) (ww hw 105 rfl) (ww hw 103 rfl) (ww hw 104 rfl) e4 V_ta V_a2 (us := (List.range z.toNatClampNeg).map fun i => vs.getD ((0 : Int32).toNatClampNeg + i) (.int (0 : Int32))) (Or.inl ⟨rfl, rfl⟩) (by decide) hp3 hz0 (by show 0 + _ ≤ _; omega) (by show _ ≤ 16; exact hfit) rfl hlen N1 g_a2 (g := (mkF m 22 #[vr a1, vr a2, vi p3, vi (0 : Int32)] [(.int z), (.int p3), (.ref a2), (.int (0 : Int32)), (.ref ta)])) rfl (by rw [hml]; rfl) rfl (hb hby d16_22) (by decide) (W := 0) (by show 2 * 0 + _ ≤ _; exact Nat.le_of_eq rfl) (by decide)
  have nev_a1_a2 : a1 ≠ a2 := Exa.neArv E_a1 V_a2 (ww hw 2 rfl)
  replace E_a1 := E_a1.keep K6
  replace F_value_a1 := F_value_a1.keep K6 (ninS nev_a1_a2 nin0)
  replace F_coder_a1 := F_coder_a1.keep K6 (ninS nev_a1_a2 nin0)
  replace V_ta := V_ta.keep K6 (ninS ne_t nin0)
  replace O0 := O0.keep K6 (allS g_a2 all0)
  replace KC := KC.trans K6 (allS (Or.inl (List.mem_of_getElem? (i := 0) rfl)) all0)
  rw [hv] at Vq6
  obtain ⟨fs, hr, hrun, hended, hW, hsame⟩ := X6.leave (v := none) (fun _ => rfl)
  refine ⟨_, _, pre3 _ ?_, hrun, hended, _, _, rfl, ?_, ⟨_, rfl⟩, hW, hsame.mono (by decide) (by decide)⟩
  · show SS p e below m T2 17 #[vr a1, vr a2, vi p3, vi (0 : Int32)] [(.int p3), (.ref a2), (.int (0 : Int32)), (.ref ta)] _
    refine XS.aloadN X2.here hx rfl (hb hby d16_17) rfl rfl ?_
    show SS p e below m T2 18 #[vr a1, vr a2, vi p3, vi (0 : Int32)] [(.ref a1), (.int p3), (.ref a2), (.int (0 : Int32)), (.ref ta)] _
    refine st4 _ ?_
    show SS p e below m T4 21 #[vr a1, vr a2, vi p3, vi (0 : Int32)] [(.ref ta), (.int p3), (.ref a2), (.int (0 : Int32)), (.ref ta)] _
    refine X4.arraylength hx (by rw [e4]; exact Ar5.1) ia5 (g := (mkF m 21 #[vr a1, vr a2, vi p3, vi (0 : Int32)] [(.ref ta), (.int p3), (.ref a2), (.int (0 : Int32)), (.ref ta)])) rfl rfl (hb hby d16_21) _ ?_
    rw [len_of Sz5 Nn5]
    show SS p e below m T4 22 #[vr a1, vr a2, vi p3, vi (0 : Int32)] [(.int z), (.int p3), (.ref a2), (.int (0 : Int32)), (.ref ta)] _
    refine st6 _ ?_
    show SS p e below m T6 25 #[vr a1, vr a2, vi p3, vi (0 : Int32)] [] _
    refine XS.goto X6.here hx rfl (pc0 := 25) (pc' := 43) rfl (hb hby d16_25) (by decide) (by decide) ?_
    show SS p e below m T6 43 #[vr a1, vr a2, vi p3, vi (0 : Int32)] [] _
    exact X6.returnOut hx Bd.returns (hb hby d16_43) hr
  · show Q_rm_gb Z a1 a2 p3 ta k z vs kd vd vd' zc h0 n0 _ T6.heap _
    rw [e6]
    exact ⟨rfl, N6, KC, Vq6⟩
theorem pd_6 : parseMethodDescriptor "(Ljava/lang/String;)V" = some ⟨[(.object "java/lang/String")], none⟩ := by decide +kernel
theorem pd_7 : parseMethodDescriptor "([BIB)V" = some ⟨[(.array .byte), .int, .byte], none⟩ := by decide +kernel
theorem d14_0 : decode jdk_68_method_73_code 0 = .ok (.aload_n 0, 1) := by decide +kernel
theorem d14_1 : decode jdk_68_method_73_code 1 = .ok (.aload_n 2, 1) := by decide +kernel
theorem d14_2 : decode jdk_68_method_73_code 2 = .ok (.invokevirtual 397, 3) := by decide +kernel
theorem d14_5 : decode jdk_68_method_73_code 5 = .ok (.aload_n 2, 1) := by decide +kernel
theorem d14_6 : decode jdk_68_method_73_code 6 = .ok (.aload_n 0, 1) := by decide +kernel
theorem d14_7 : decode jdk_68_method_73_code 7 = .ok (.getfield 15, 3) := by decide +kernel
theorem d14_10 : decode jdk_68_method_73_code 10 = .ok (.iload_n 1, 1) := by decide +kernel
theorem d14_11 : decode jdk_68_method_73_code 11 = .ok (.aload_n 0, 1) := by decide +kernel
theorem d14_12 : decode jdk_68_method_73_code 12 = .ok (.getfield 22, 3) := by decide +kernel
theorem d14_15 : decode jdk_68_method_73_code 15 = .ok (.invokevirtual 399, 3) := by decide +kernel
theorem d14_18 : decode jdk_68_method_73_code 18 = .ok (.return_, 1) := by decide +kernel
theorem ef_rm_psa (m : MethodId) (x0 : Addr) (x1 : Int32) (x2 : Addr) : entryFrame m #[(.ref x0), (.int x1), (.ref x2)] 3 = mkF m 0 #[vr x0, vi x1, vr x2] [] := by first | (simp [entryFrame, mkF, argsToLocals, Value.category]; done) | rfl
def Q_rm_psa (Z : State) (a1 : Addr) (p2 : Int32) (a3 : Addr) (ta : Addr) (k : ClassId) (z : Int32) (vs : List Value) (kd : ClassId) (vd : List Value) (vd' : List Value) (tb : Addr) (zc : Int32) (h0 : Heap) (n0 : Nat) (v : Option Value) (h : Heap) (L : List Loc) : Prop := (v = none) ∧ (Fr n0 L) ∧ (Keep h0 h [tb]) ∧ (Arv Z h tb kd .byte (16 : Int32) vd' (.int (0 : Int32)))
set_option maxRecDepth 65536 in
set_option maxHeartbeats 40000000 in
theorem rm_psa (l : Launch) (Z : State) (a0 : Array Value) (hw : ∀ d ∈ tables_1, d.before a0 Z = true) (ws : List Jvm.Cond) (a1 : Addr) (p2 : Int32) (a3 : Addr) (ta : Addr) (k : ClassId) (z : Int32) (vs : List Value) (kd : ClassId) (vd : List Value) (vd' : List Value) (tb : Addr) (zc : Int32) (h0 : Heap) (n0 : Nat) (Z0 : n0 ≤ h0.size) (O0 : Old Z n0 h0) (F_value_a1 : Fld Z h0 a1 "java/lang/AbstractStringBuilder" "value" "[B" (.ref tb)) (F_coder_a1 : Fld Z h0 a1 "java/lang/AbstractStringBuilder" "coder" "B" (.int (0 : Int32))) (E_a1 : Exa Z h0 a1 "java/lang/StringBuilder") (E_a3 : Exa Z h0 a3 "java/lang/String") (F_value_a3 : Fld Z h0 a3 "java/lang/String" "value" "[B" (.ref ta)) (F_coder_a3 : Fld Z h0 a3 "java/lang/String" "coder" "B" (.int (0 : Int32))) (V_ta : Arv Z h0 ta k .byte z vs (.int (0 : Int32))) (V_tb : Arv Z h0 tb kd .byte (16 : Int32) vd (.int (0 : Int32))) (g_tb : n0 ≤ tb) (ne_t : ta ≠ tb) (S_CS : Sta Z Z.heap "java/lang/String" "COMPACT_STRINGS" "Z" (.int zc)) (hz : ¬ zc = (0 : Int32)) (hp3 : ¬ p2 < (0 : Int32)) (hz0 : ¬ z < (0 : Int32)) (hfit : p2.toNatClampNeg + z.toNatClampNeg ≤ 16) (hlen : p2.toNatClampNeg + z.toNatClampNeg ≤ vd.length) (hv : (vd.take p2.toNatClampNeg ++ ((List.range z.toNatClampNeg).map fun i => vs.getD ((0 : Int32).toNatClampNeg + i) (.int (0 : Int32))) ++ vd.drop (p2.toNatClampNeg + z.toNatClampNeg)) = vd') :
    MetFree l y_13 (head1 (Jvm.Cond.code y_13 jdk_68_method_73_code 3 none :: ws) ({ frames := 2, cells := 0, slots := 0, locals := 33 } : Room)) (fun a U => a = #[(.ref a1), (.int p2), (.ref a3)] ∧ Z.Warmed39 U.vm ∧ U.heap = h0) (fun _ _ _ _ _ => True) (fun _ U o U' => ∃ v L, o = .returned v ∧ Q_rm_psa Z a1 p2 a3 ta k z vs kd vd vd' tb zc h0 n0 v U'.heap L ∧ FrameEnd U o U' L ({ frames := 2, cells := 0, slots := 0, locals := 33 } : Room).cells ({ frames := 2, cells := 0, slots := 0, locals := 33 } : Room).slots) := by
  refine MetFree.of_bodySF (plainFor_of_name pn_3) hisR ?_
  intro p e s m args below meth c s₁ Bd hml0 hP hK
  obtain ⟨rfl, hZ, hh⟩ := hP
  have hx := Bd.exec
  have hby := Bd.bytes
  have hml : c.maxLocals = 3 := hml0
  have hown : s.vm.findClass "java/lang/AbstractStringBuilder" = some m.cls := findClass_of_methodNamed Bd.named
  have hnm := (name_of_methodNamed Bd.named Bd.method).1
  have X0 : Stand p l e ({ frames := 2, cells := 0, slots := 0, locals := 33 } : Room) s m #[(.ref a1), (.int p2), (.ref a3)] below meth c s₁ [] 0 0 := Stand.of_body Bd
  have e0 : s₁.heap = h0 := by rw [← hh, Bd.state]; rfl
  have N0 := Fr.nil n0
  have KC : Keep h0 h0 [tb] := Keep.refl h0 _
  have pre0 : ∀ t, Steps p.tables e below (s₁.setTop (mkF m 0 #[vr a1, vi p2, vr a3] [])) t → Steps p.tables e below (s₁.setTop (entryFrame m #[(.ref a1), (.int p2), (.ref a3)] 3)) t := fun t k => castTop (ef_rm_psa m a1 p2 a3) k
  obtain ⟨cq1, kq1, q1a, q1b, q1c⟩ := isOf hZ e0 E_a1
  obtain ⟨_, _, ⟨T1, L1, kz1, nz1⟩, -, X1, ⟨Lc1, hQ1, l1, y1, z1⟩, st1⟩ := X0.virtualBack hx (y := y_11) (z := y_11) hown (mvT hZ (ww hw 91 rfl)) (own_decl (mvT hZ (ww hw 95 rfl)) (mvT hZ (ww hw 92 rfl))) (notFace_of_selects (args := #[]) (mvT hZ (ww hw 94 rfl))) (mvT hZ (ww hw 94 rfl)) (mvT hZ (ww hw 92 rfl)) (by decide) (backOf (W := 0) (rm_inf l Z a0 hw [] a1 a3 zc h0 n0 (Nat.le_trans Z0 KC.1) O0 F_coder_a1 E_a3 F_coder_a3 S_CS hz) hZ (ww hw 95 rfl) (ww hw 60 rfl) (by decide) (by decide)) q1a q1c (g := (mkF m 2 #[vr a1, vi p2, vr a3] [(.ref a3), (.ref a1)])) rfl (by rw [hml]; rfl) (Steps.refl _) (argsL := [(.ref a3)]) (rest := []) (lenOf pd_6 rfl) rfl (by show 2 * 0 + _ ≤ _; exact Nat.le_of_eq rfl) (hb hby d14_2) (fun _ _ => ⟨rfl, e0, (by decide : 0 + 0 ≤ _), (by decide : 0 + 0 ≤ _)⟩)
  dsimp only [Pt.U, Pt.locs, Pt.cells, Pt.slots] at X1 l1 y1 z1 st1 hQ1
  subst l1 y1 z1
  obtain ⟨rfl, N1q, e1⟩ := hQ1
  have N1 := Fr.app N0 N1q
  obtain ⟨T2, X2, e2, st2⟩ := getF X1 hx hZ hown (host := "") (Or.inl (ww hw 64 rfl)) Via.refl e1 F_value_a1 (g := (mkF m 7 #[vr a1, vi p2, vr a3] [(.ref a1), (.ref a3)])) rfl rfl (hb hby d14_7)
  obtain ⟨T3, X3, e3, st3⟩ := getF X2 hx hZ hown (host := "") (Or.inl (ww hw 66 rfl)) Via.refl e2 F_coder_a1 (g := (mkF m 12 #[vr a1, vi p2, vr a3] [(.ref a1), (.int p2), (.ref tb), (.ref a3)])) rfl rfl (hb hby d14_12)
  obtain ⟨cq4, kq4, q4a, q4b, q4c⟩ := isOf hZ e3 E_a3
  obtain ⟨_, _, ⟨T4, L4, kz4, nz4⟩, -, X4, ⟨Lc4, hQ4, l4, y4, z4⟩, st4⟩ := X3.virtualBack hx (y := y_12) (z := y_12) hown (mvT hZ (ww hw 97 rfl)) (mvT hZ (ww hw 98 rfl)) (notFace_of_selects (args := #[]) (mvT hZ (ww hw 100 rfl))) (mvT hZ (ww hw 100 rfl)) (mvT hZ (ww hw 99 rfl)) (by decide) (backOf (W := 0) (rm_gb l Z a0 hw [] a3 tb p2 ta k z vs kd vd vd' zc h0 n0 (Nat.le_trans Z0 KC.1) O0 E_a3 F_value_a3 F_coder_a3 V_ta V_tb g_tb ne_t S_CS hz hp3 hz0 hfit hlen hv) hZ (ww hw 101 rfl) (ww hw 3 rfl) (by decide) (by decide)) q4a q4c (g := (mkF m 15 #[vr a1, vi p2, vr a3] [(.int (0 : Int32)), (.int p2), (.ref tb), (.ref a3)])) rfl (by rw [hml]; rfl) (Steps.refl _) (argsL := [(.ref tb), (.int p2), (.int (0 : Int32))]) (rest := []) (lenOf pd_7 rfl) rfl (by show 2 * 0 + _ ≤ _; exact Nat.le_of_eq rfl) (hb hby d14_15) (fun _ _ => ⟨rfl, e3, (by decide : 0 + 0 ≤ _), (by decide : 0 + 0 ≤ _)⟩)
  dsimp only [Pt.U, Pt.locs, Pt.cells, Pt.slots] at X4 l4 y4 z4 st4 hQ4
  subst l4 y4 z4
  obtain ⟨rfl, N4q, K4, V_a2_4⟩ := hQ4
  have N4 := Fr.app N1 N4q
  have nev_a1_tb : a1 ≠ tb := Exa.neArv E_a1 V_tb (ww hw 51 rfl)
  have nev_a3_tb : a3 ≠ tb := Exa.neArv E_a3 V_tb (ww hw 2 rfl)
  replace F_value_a1 := F_value_a1.keep K4 (ninS nev_a1_tb nin0)
  replace F_coder_a1 := F_coder_a1.keep K4 (ninS nev_a1_tb nin0)
  replace E_a1 := E_a1.keep K4
  replace E_a3 := E_a3.keep K4
  replace F_value_a3 := F_value_a3.keep K4 (ninS nev_a3_tb nin0)
  replace F_coder_a3 := F_coder_a3.keep K4 (ninS nev_a3_tb nin0)
  replace V_ta := V_ta.keep K4 (ninS ne_t nin0)
  replace O0 := O0.keep K4 (allS g_tb all0)
  replace KC := KC.trans K4 (allS (Or.inl (List.mem_of_getElem? (i := 0) rfl)) all0)
  obtain ⟨fs, hr, hrun, hended, hW, hsame⟩ := X4.leave (v := none) (fun _ => rfl)
  refine ⟨_, _, pre0 _ ?_, hrun, hended, _, _, rfl, ?_, ⟨_, rfl⟩, hW, hsame.mono (by decide) (by decide)⟩
  · show SS p e below m s₁ 0 #[vr a1, vi p2, vr a3] [] _
    refine XS.aloadN X0.here hx rfl (hb hby d14_0) rfl rfl ?_
    show SS p e below m s₁ 1 #[vr a1, vi p2, vr a3] [(.ref a1)] _
    refine XS.aloadN X0.here hx rfl (hb hby d14_1) rfl rfl ?_
    show SS p e below m s₁ 2 #[vr a1, vi p2, vr a3] [(.ref a3), (.ref a1)] _
    refine st1.trans ?_
    show SS p e below m T1 5 #[vr a1, vi p2, vr a3] [] _
    refine XS.aloadN X1.here hx rfl (hb hby d14_5) rfl rfl ?_
    show SS p e below m T1 6 #[vr a1, vi p2, vr a3] [(.ref a3)] _
    refine XS.aloadN X1.here hx rfl (hb hby d14_6) rfl rfl ?_
    show SS p e below m T1 7 #[vr a1, vi p2, vr a3] [(.ref a1), (.ref a3)] _
    refine st2 _ ?_
    show SS p e below m T2 10 #[vr a1, vi p2, vr a3] [(.ref tb), (.ref a3)] _
    refine XS.iloadN X2.here hx rfl (hb hby d14_10) rfl ?_
    show SS p e below m T2 11 #[vr a1, vi p2, vr a3] [(.int p2), (.ref tb), (.ref a3)] _
    refine XS.aloadN X2.here hx rfl (hb hby d14_11) rfl rfl ?_
    show SS p e below m T2 12 #[vr a1, vi p2, vr a3] [(.ref a1), (.int p2), (.ref tb), (.ref a3)] _
    refine st3 _ ?_
    show SS p e below m T3 15 #[vr a1, vi p2, vr a3] [(.int (0 : Int32)), (.int p2), (.ref tb), (.ref a3)] _
    refine st4.trans ?_
    show SS p e below m T4 18 #[vr a1, vi p2, vr a3] [] _
    exact X4.returnOut hx Bd.returns (hb hby d14_18) hr
  · show Q_rm_psa Z a1 p2 a3 ta k z vs kd vd vd' tb zc h0 n0 _ T4.heap _
    exact ⟨rfl, N4, KC, V_a2_4⟩
theorem pd_8 : parseMethodDescriptor "()I" = some ⟨[], some .int⟩ := by decide +kernel
theorem pd_9 : parseMethodDescriptor "(ILjava/lang/String;)V" = some ⟨[.int, (.object "java/lang/String")], none⟩ := by decide +kernel
theorem d12_0 : decode jdk_68_method_22_code 0 = .ok (.aload_n 1, 1) := by decide +kernel
theorem d12_1 : decode jdk_68_method_22_code 1 = .ok (.ifnonnull 8, 3) := by decide +kernel
theorem d12_9 : decode jdk_68_method_22_code 9 = .ok (.aload_n 1, 1) := by decide +kernel
theorem d12_10 : decode jdk_68_method_22_code 10 = .ok (.invokevirtual 32, 3) := by decide +kernel
theorem d12_13 : decode jdk_68_method_22_code 13 = .ok (.istore_n 2, 1) := by decide +kernel
theorem d12_14 : decode jdk_68_method_22_code 14 = .ok (.aload_n 0, 1) := by decide +kernel
theorem d12_15 : decode jdk_68_method_22_code 15 = .ok (.aload_n 0, 1) := by decide +kernel
theorem d12_16 : decode jdk_68_method_22_code 16 = .ok (.getfield 79, 3) := by decide +kernel
theorem d12_19 : decode jdk_68_method_22_code 19 = .ok (.iload_n 2, 1) := by decide +kernel
theorem d12_20 : decode jdk_68_method_22_code 20 = .ok (.iadd, 1) := by decide +kernel
theorem d12_21 : decode jdk_68_method_22_code 21 = .ok (.invokevirtual 100, 3) := by decide +kernel
theorem d12_24 : decode jdk_68_method_22_code 24 = .ok (.aload_n 0, 1) := by decide +kernel
theorem d12_25 : decode jdk_68_method_22_code 25 = .ok (.aload_n 0, 1) := by decide +kernel
theorem d12_26 : decode jdk_68_method_22_code 26 = .ok (.getfield 79, 3) := by decide +kernel
theorem d12_29 : decode jdk_68_method_22_code 29 = .ok (.aload_n 1, 1) := by decide +kernel
theorem d12_30 : decode jdk_68_method_22_code 30 = .ok (.invokevirtual 208, 3) := by decide +kernel
theorem d12_33 : decode jdk_68_method_22_code 33 = .ok (.aload_n 0, 1) := by decide +kernel
theorem d12_34 : decode jdk_68_method_22_code 34 = .ok (.dup, 1) := by decide +kernel
theorem d12_35 : decode jdk_68_method_22_code 35 = .ok (.getfield 79, 3) := by decide +kernel
theorem d12_38 : decode jdk_68_method_22_code 38 = .ok (.iload_n 2, 1) := by decide +kernel
theorem d12_39 : decode jdk_68_method_22_code 39 = .ok (.iadd, 1) := by decide +kernel
theorem d12_40 : decode jdk_68_method_22_code 40 = .ok (.putfield 79, 3) := by decide +kernel
theorem d12_43 : decode jdk_68_method_22_code 43 = .ok (.aload_n 0, 1) := by decide +kernel
theorem d12_44 : decode jdk_68_method_22_code 44 = .ok (.areturn, 1) := by decide +kernel
theorem ef_rm_aap (m : MethodId) (x0 : Addr) (x1 : Addr) : entryFrame m #[(.ref x0), (.ref x1)] 3 = mkF m 0 #[vr x0, vr x1, .unset] [] := by first | (simp [entryFrame, mkF, argsToLocals, Value.category]; done) | rfl
def Q_rm_aap (Z : State) (a1 : Addr) (a2 : Addr) (ta : Addr) (k : ClassId) (z : Int32) (vs : List Value) (kd : ClassId) (vd : List Value) (vd' : List Value) (tb : Addr) (c0 : Int32) (m' : Int32) (zc : Int32) (h0 : Heap) (n0 : Nat) (v : Option Value) (h : Heap) (L : List Loc) : Prop := (v = some (.ref a1)) ∧ (Fr n0 L) ∧ (Keep h0 h [a1, tb]) ∧ (Fld Z h a1 "java/lang/AbstractStringBuilder" "value" "[B" (.ref tb)) ∧ (Fld Z h a1 "java/lang/AbstractStringBuilder" "coder" "B" (.int (0 : Int32))) ∧ (Fld Z h a1 "java/lang/AbstractStringBuilder" "count" "I" (.int m')) ∧ (Arv Z h tb kd .byte (16 : Int32) vd' (.int (0 : Int32)))
set_option maxRecDepth 65536 in
set_option maxHeartbeats 40000000 in
theorem rm_aap (l : Launch) (Z : State) (a0 : Array Value) (hw : ∀ d ∈ tables_1, d.before a0 Z = true) (ws : List Jvm.Cond) (a1 : Addr) (a2 : Addr) (ta : Addr) (k : ClassId) (z : Int32) (vs : List Value) (kd : ClassId) (vd : List Value) (vd' : List Value) (tb : Addr) (c0 : Int32) (m' : Int32) (zc : Int32) (h0 : Heap) (n0 : Nat) (Z0 : n0 ≤ h0.size) (O0 : Old Z n0 h0) (F_value_a1 : Fld Z h0 a1 "java/lang/AbstractStringBuilder" "value" "[B" (.ref tb)) (F_coder_a1 : Fld Z h0 a1 "java/lang/AbstractStringBuilder" "coder" "B" (.int (0 : Int32))) (F_count_a1 : Fld Z h0 a1 "java/lang/AbstractStringBuilder" "count" "I" (.int c0)) (E_a1 : Exa Z h0 a1 "java/lang/StringBuilder") (g_a1 : n0 ≤ a1) (E_a2 : Exa Z h0 a2 "java/lang/String") (F_value_a2 : Fld Z h0 a2 "java/lang/String" "value" "[B" (.ref ta)) (F_coder_a2 : Fld Z h0 a2 "java/lang/String" "coder" "B" (.int (0 : Int32))) (V_ta : Arv Z h0 ta k .byte z vs (.int (0 : Int32))) (V_tb : Arv Z h0 tb kd .byte (16 : Int32) vd (.int (0 : Int32))) (g_tb : n0 ≤ tb) (ne_t : ta ≠ tb) (ne_tb : tb ≠ a1) (ne_ta : ta ≠ a1) (S_CS : Sta Z Z.heap "java/lang/String" "COMPACT_STRINGS" "Z" (.int zc)) (hz : ¬ zc = (0 : Int32)) (hle : ¬ (0 : Int32) < ((c0 + z) - (16 : Int32))) (hMm : c0 + z = m') (hp3 : ¬ c0 < (0 : Int32)) (hz0 : ¬ z < (0 : Int32)) (hfit : c0.toNatClampNeg + z.toNatClampNeg ≤ 16) (hlen : c0.toNatClampNeg + z.toNatClampNeg ≤ vd.length) (hv : (vd.take c0.toNatClampNeg ++ ((List.range z.toNatClampNeg).map fun i => vs.getD ((0 : Int32).toNatClampNeg + i) (.int (0 : Int32))) ++ vd.drop (c0.toNatClampNeg + z.toNatClampNeg)) = vd') :
    MetFree l y_14 (head1 (Jvm.Cond.code y_14 jdk_68_method_22_code 3 (some (.object "java/lang/AbstractStringBuilder")) :: ws) ({ frames := 3, cells := 0, slots := 0, locals := 47 } : Room)) (fun a U => a = #[(.ref a1), (.ref a2)] ∧ Z.Warmed39 U.vm ∧ U.heap = h0) (fun _ _ _ _ _ => True) (fun _ U o U' => ∃ v L, o = .returned v ∧ Q_rm_aap Z a1 a2 ta k z vs kd vd vd' tb c0 m' zc h0 n0 v U'.heap L ∧ FrameEnd U o U' L ({ frames := 3, cells := 0, slots := 0, locals := 47 } : Room).cells ({ frames := 3, cells := 0, slots := 0, locals := 47 } : Room).slots) := by
  refine MetFree.of_bodySF (plainFor_of_name pn_3) hisR ?_
  intro p e s m args below meth c s₁ Bd hml0 hP hK
  obtain ⟨rfl, hZ, hh⟩ := hP
  have hx := Bd.exec
  have hby := Bd.bytes
  have hml : c.maxLocals = 3 := hml0
  have hown : s.vm.findClass "java/lang/AbstractStringBuilder" = some m.cls := findClass_of_methodNamed Bd.named
  have hnm := (name_of_methodNamed Bd.named Bd.method).1
  have X0 : Stand p l e ({ frames := 3, cells := 0, slots := 0, locals := 47 } : Room) s m #[(.ref a1), (.ref a2)] below meth c s₁ [] 0 0 := Stand.of_body Bd
  have e0 : s₁.heap = h0 := by rw [← hh, Bd.state]; rfl
  have N0 := Fr.nil n0
  have KC : Keep h0 h0 [a1, tb] := Keep.refl h0 _
  have pre0 : ∀ t, Steps p.tables e below (s₁.setTop (mkF m 0 #[vr a1, vr a2, un] [])) t → Steps p.tables e below (s₁.setTop (entryFrame m #[(.ref a1), (.ref a2)] 3)) t := fun t k => castTop (ef_rm_aap m a1 a2) k
  obtain ⟨cq1, kq1, q1a, q1b, q1c⟩ := isOf hZ e0 E_a2
  obtain ⟨_, _, ⟨T1, L1, kz1, nz1⟩, -, X1, ⟨Lc1, hQ1, l1, y1, z1⟩, st1⟩ := X0.virtualBack hx (y := y_1) (z := y_1) hown (mvT hZ (ww hw 78 rfl)) (mvT hZ (ww hw 33 rfl)) (notFace_of_selects (args := #[]) (mvT hZ (ww hw 35 rfl))) (mvT hZ (ww hw 35 rfl)) (mvT hZ (ww hw 34 rfl)) (by decide) (backOf (W := 0) (rm_length l Z a0 hw [] a2 ta k z vs zc h0 n0 (Nat.le_trans Z0 KC.1) O0 E_a2 F_value_a2 F_coder_a2 V_ta S_CS hz) hZ (ww hw 36 rfl) (ww hw 3 rfl) (by decide) (by decide)) q1a q1c (g := (mkF m 10 #[vr a1, vr a2, un] [(.ref a2)])) rfl (by rw [hml]; rfl) (Steps.refl _) (argsL := []) (rest := []) (lenOf pd_8 rfl) rfl (by show 2 * 0 + _ ≤ _; exact Nat.le_of_eq rfl) (hb hby d12_10) (fun _ _ => ⟨rfl, e0, (by decide : 0 + 0 ≤ _), (by decide : 0 + 0 ≤ _)⟩)
  dsimp only [Pt.U, Pt.locs, Pt.cells, Pt.slots] at X1 l1 y1 z1 st1 hQ1
  subst l1 y1 z1
  obtain ⟨rfl, N1q, e1⟩ := hQ1
  have N1 := Fr.app N0 N1q
  obtain ⟨T2, X2, e2, st2⟩ := getF X1 hx hZ hown (host := "") (Or.inl (ww hw 79 rfl)) Via.refl e1 F_count_a1 (g := (mkF m 16 #[vr a1, vr a2, vi z] [(.ref a1), (.ref a1)])) rfl rfl (hb hby d12_16)
  obtain ⟨cq3, kq3, q3a, q3b, q3c⟩ := isOf hZ e2 E_a1
  obtain ⟨_, _, ⟨T3, L3, kz3, nz3⟩, -, X3, ⟨Lc3, hQ3, l3, y3, z3⟩, st3⟩ := X2.virtualBack hx (y := y_10) (z := y_10) hown (mvT hZ (ww hw 81 rfl)) (own_decl (mvT hZ (ww hw 85 rfl)) (mvT hZ (ww hw 82 rfl))) (notFace_of_selects (args := #[]) (mvT hZ (ww hw 84 rfl))) (mvT hZ (ww hw 84 rfl)) (mvT hZ (ww hw 82 rfl)) (by decide) (backOf (W := 0) (rm_ens l Z a0 hw [] a1 (c0 + z) tb kd vd h0 n0 (Nat.le_trans Z0 KC.1) O0 F_value_a1 F_coder_a1 V_tb hle) hZ (ww hw 85 rfl) (ww hw 60 rfl) (by decide) (by decide)) q3a q3c (g := (mkF m 21 #[vr a1, vr a2, vi z] [(.int (c0 + z)), (.ref a1)])) rfl (by rw [hml]; rfl) (Steps.refl _) (argsL := [(.int (c0 + z))]) (rest := []) (lenOf pd_5 rfl) rfl (by show 2 * 0 + _ ≤ _; exact Nat.le_of_eq rfl) (hb hby d12_21) (fun _ _ => ⟨rfl, e2, (by decide : 0 + 0 ≤ _), (by decide : 0 + 0 ≤ _)⟩)
  dsimp only [Pt.U, Pt.locs, Pt.cells, Pt.slots] at X3 l3 y3 z3 st3 hQ3
  subst l3 y3 z3
  obtain ⟨rfl, N3q, e3⟩ := hQ3
  have N3 := Fr.app N1 N3q
  obtain ⟨T4, X4, e4, st4⟩ := getF X3 hx hZ hown (host := "") (Or.inl (ww hw 79 rfl)) Via.refl e3 F_count_a1 (g := (mkF m 26 #[vr a1, vr a2, vi z] [(.ref a1), (.ref a1)])) rfl rfl (hb hby d12_26)
  obtain ⟨cq5, kq5, q5a, q5b, q5c⟩ := isOf hZ e4 E_a1
  obtain ⟨_, _, ⟨T5, L5, kz5, nz5⟩, -, X5, ⟨Lc5, hQ5, l5, y5, z5⟩, st5⟩ := X4.virtualBack hx (y := y_13) (z := y_13) hown (mvT hZ (ww hw 86 rfl)) (own_decl (mvT hZ (ww hw 90 rfl)) (mvT hZ (ww hw 87 rfl))) (notFace_of_selects (args := #[]) (mvT hZ (ww hw 89 rfl))) (mvT hZ (ww hw 89 rfl)) (mvT hZ (ww hw 87 rfl)) (by decide) (backOf (W := 0) (rm_psa l Z a0 hw [] a1 c0 a2 ta k z vs kd vd vd' tb zc h0 n0 (Nat.le_trans Z0 KC.1) O0 F_value_a1 F_coder_a1 E_a1 E_a2 F_value_a2 F_coder_a2 V_ta V_tb g_tb ne_t S_CS hz hp3 hz0 hfit hlen hv) hZ (ww hw 90 rfl) (ww hw 60 rfl) (by decide) (by decide)) q5a q5c (g := (mkF m 30 #[vr a1, vr a2, vi z] [(.ref a2), (.int c0), (.ref a1)])) rfl (by rw [hml]; rfl) (Steps.refl _) (argsL := [(.int c0), (.ref a2)]) (rest := []) (lenOf pd_9 rfl) rfl (by show 2 * 0 + _ ≤ _; exact Nat.le_of_eq rfl) (hb hby d12_30) (fun _ _ => ⟨rfl, e4, (by decide : 0 + 0 ≤ _), (by decide : 0 + 0 ≤ _)⟩)
  dsimp only [Pt.U, Pt.locs, Pt.cells, Pt.slots] at X5 l5 y5 z5 st5 hQ5
  subst l5 y5 z5
  obtain ⟨rfl, N5q, K5, V_tb_5⟩ := hQ5
  have N5 := Fr.app N3 N5q
  have nev_a2_tb : a2 ≠ tb := Exa.neArv E_a2 V_tb (ww hw 2 rfl)
  replace F_value_a1 := F_value_a1.keep K5 (ninS (Ne.symm ne_tb) nin0)
  replace F_coder_a1 := F_coder_a1.keep K5 (ninS (Ne.symm ne_tb) nin0)
  replace F_count_a1 := F_count_a1.keep K5 (ninS (Ne.symm ne_tb) nin0)
  replace E_a1 := E_a1.keep K5
  replace E_a2 := E_a2.keep K5
  replace F_value_a2 := F_value_a2.keep K5 (ninS nev_a2_tb nin0)
  replace F_coder_a2 := F_coder_a2.keep K5 (ninS nev_a2_tb nin0)
  replace V_ta := V_ta.keep K5 (ninS ne_t nin0)
  replace O0 := O0.keep K5 (allS g_tb all0)
  replace KC := KC.trans K5 (allS (Or.inl (List.mem_of_getElem? (i := 1) rfl)) all0)
  obtain ⟨T6, X6, e6, st6⟩ := getF X5 hx hZ hown (host := "") (Or.inl (ww hw 79 rfl)) Via.refl rfl F_count_a1 (g := (mkF m 35 #[vr a1, vr a2, vi z] [(.ref a1), (.ref a1)])) rfl rfl (hb hby d12_35)
  obtain ⟨T7, h7, X7, e7, W7, st7⟩ := putF X6 hx hZ hown (host := "") (Or.inl (ww hw 79 rfl)) Via.refl e6 F_count_a1 E_a1 (Or.inl (ww hw 80 rfl)) (ww hw 51 rfl) (ty := .int) (by decide) rfl rfl (g := (mkF m 40 #[vr a1, vr a2, vi z] [(.int (c0 + z)), (.ref a1)])) rfl rfl (hb hby d12_40)
  have N7 := Fr.snoc X7 N5 g_a1
  replace F_count_a1 := F_count_a1.same W7
  have nec_a2_a1 : a2 ≠ a1 := Exa.ne E_a2 E_a1 (by decide)
  replace F_value_a1 := F_value_a1.other W7 (Or.inr (slot_ne (Or.inl (ww hw 65 rfl)) (Or.inl (ww hw 80 rfl)) (by decide) (t := (.array .byte)) (t' := .int) (by decide) (by decide)))
  replace F_coder_a1 := F_coder_a1.other W7 (Or.inr (slot_ne (Or.inl (ww hw 67 rfl)) (Or.inl (ww hw 80 rfl)) (by decide) (t := .byte) (t' := .int) (by decide) (by decide)))
  replace E_a1 := E_a1.wr W7
  replace E_a2 := E_a2.wr W7
  replace F_value_a2 := F_value_a2.other W7 (Or.inl nec_a2_a1)
  replace F_coder_a2 := F_coder_a2.other W7 (Or.inl nec_a2_a1)
  replace V_ta := V_ta.other W7 ne_ta
  replace V_tb_5 := V_tb_5.other W7 ne_tb
  replace O0 := O0.wr W7 g_a1
  replace KC := KC.wr W7 (Or.inl (List.mem_of_getElem? (i := 0) rfl))
  rw [hMm] at F_count_a1
  obtain ⟨fs, hr, hrun, hended, hW, hsame⟩ := X7.leave (v := some (.ref a1)) (fun h => by rw [Bd.returns] at h; cases h)
  refine ⟨_, _, pre0 _ ?_, hrun, hended, _, _, rfl, ?_, ⟨_, rfl⟩, hW, hsame.mono (by decide) (by decide)⟩
  · show SS p e below m s₁ 0 #[vr a1, vr a2, un] [] _
    refine XS.aloadN X0.here hx rfl (hb hby d12_0) rfl rfl ?_
    show SS p e below m s₁ 1 #[vr a1, vr a2, un] [(.ref a2)] _
    refine XS.ifnonnullYes X0.here hx rfl (pc0 := 1) (pc' := 9) rfl (hb hby d12_1) rfl (by decide) (by decide) ?_
    show SS p e below m s₁ 9 #[vr a1, vr a2, un] [] _
    refine XS.aloadN X0.here hx rfl (hb hby d12_9) rfl rfl ?_
    show SS p e below m s₁ 10 #[vr a1, vr a2, un] [(.ref a2)] _
    refine st1.trans ?_
    show SS p e below m T1 13 #[vr a1, vr a2, un] [(.int z)] _
    refine XS.istoreN X1.here hx rfl (hb hby d12_13) rfl (l' := #[vr a1, vr a2, vi z]) rfl ?_
    show SS p e below m T1 14 #[vr a1, vr a2, vi z] [] _
    refine XS.aloadN X1.here hx rfl (hb hby d12_14) rfl rfl ?_
    show SS p e below m T1 15 #[vr a1, vr a2, vi z] [(.ref a1)] _
    refine XS.aloadN X1.here hx rfl (hb hby d12_15) rfl rfl ?_
    show SS p e below m T1 16 #[vr a1, vr a2, vi z] [(.ref a1), (.ref a1)] _
    refine st2 _ ?_
    show SS p e below m T2 19 #[vr a1, vr a2, vi z] [(.int c0), (.ref a1)] _
    refine XS.iloadN X2.here hx rfl (hb hby d12_19) rfl ?_
    show SS p e below m T2 20 #[vr a1, vr a2, vi z] [(.int z), (.int c0), (.ref a1)] _
    refine XS.iadd X2.here hx rfl (hb hby d12_20) rfl ?_
    show SS p e below m T2 21 #[vr a1, vr a2, vi z] [(.int (c0 + z)), (.ref a1)] _
    refine st3.trans ?_
    show SS p e below m T3 24 #[vr a1, vr a2, vi z] [] _
    refine XS.aloadN X3.here hx rfl (hb hby d12_24) rfl rfl ?_
    show SS p e below m T3 25 #[vr a1, vr a2, vi z] [(.ref a1)] _
    refine XS.aloadN X3.here hx rfl (hb hby d12_25) rfl rfl ?_
    show SS p e below m T3 26 #[vr a1, vr a2, vi z] [(.ref a1), (.ref a1)] _
    refine st4 _ ?_
    show SS p e below m T4 29 #[vr a1, vr a2, vi z] [(.int c0), (.ref a1)] _
    refine XS.aloadN X4.here hx rfl (hb hby d12_29) rfl rfl ?_
    show SS p e below m T4 30 #[vr a1, vr a2, vi z] [(.ref a2), (.int c0), (.ref a1)] _
    refine st5.trans ?_
    show SS p e below m T5 33 #[vr a1, vr a2, vi z] [] _
    refine XS.aloadN X5.here hx rfl (hb hby d12_33) rfl rfl ?_
    show SS p e below m T5 34 #[vr a1, vr a2, vi z] [(.ref a1)] _
    refine XS.dup X5.here hx rfl (hb hby d12_34) rfl rfl ?_
    show SS p e below m T5 35 #[vr a1, vr a2, vi z] [(.ref a1), (.ref a1)] _
    refine st6 _ ?_
    show SS p e below m T6 38 #[vr a1, vr a2, vi z] [(.int c0), (.ref a1)] _
    refine XS.iloadN X6.here hx rfl (hb hby d12_38) rfl ?_
    show SS p e below m T6 39 #[vr a1, vr a2, vi z] [(.int z), (.int c0), (.ref a1)] _
    refine XS.iadd X6.here hx rfl (hb hby d12_39) rfl ?_
    show SS p e below m T6 40 #[vr a1, vr a2, vi z] [(.int (c0 + z)), (.ref a1)] _
    refine st7 _ ?_
    show SS p e below m T7 43 #[vr a1, vr a2, vi z] [] _
    refine XS.aloadN X7.here hx rfl (hb hby d12_43) rfl rfl ?_
    show SS p e below m T7 44 #[vr a1, vr a2, vi z] [(.ref a1)] _
    jvm_step X7.here [X7.here.top, hx, (hb hby d12_44), X7.method', Bd.returns, Value.isRef, FieldType.isReference]
    first | (intro acts; rw [hr _ acts rfl rfl rfl]) | rw [hr _ _ rfl rfl rfl]
    exact Steps.refl _
  · show Q_rm_aap Z a1 a2 ta k z vs kd vd vd' tb c0 m' zc h0 n0 _ T7.heap _
    rw [e7]
    exact ⟨rfl, N7, KC, F_value_a1, F_coder_a1, F_count_a1, V_tb_5⟩
theorem pd_10 : parseMethodDescriptor "(Ljava/lang/String;)Ljava/lang/AbstractStringBuilder;" = some ⟨[(.object "java/lang/String")], some (.object "java/lang/AbstractStringBuilder")⟩ := by decide +kernel
theorem d11_0 : decode jdk_67_method_7_code 0 = .ok (.aload_n 0, 1) := by decide +kernel
theorem d11_1 : decode jdk_67_method_7_code 1 = .ok (.aload_n 1, 1) := by decide +kernel
theorem d11_2 : decode jdk_67_method_7_code 2 = .ok (.invokespecial 29, 3) := by decide +kernel
theorem d11_5 : decode jdk_67_method_7_code 5 = .ok (.pop, 1) := by decide +kernel
theorem d11_6 : decode jdk_67_method_7_code 6 = .ok (.aload_n 0, 1) := by decide +kernel
theorem d11_7 : decode jdk_67_method_7_code 7 = .ok (.areturn, 1) := by decide +kernel
theorem ef_rm_sap (m : MethodId) (x0 : Addr) (x1 : Addr) : entryFrame m #[(.ref x0), (.ref x1)] 2 = mkF m 0 #[vr x0, vr x1] [] := by first | (simp [entryFrame, mkF, argsToLocals, Value.category]; done) | rfl
def Q_rm_sap (Z : State) (a1 : Addr) (a2 : Addr) (ta : Addr) (k : ClassId) (z : Int32) (vs : List Value) (kd : ClassId) (vd : List Value) (vd' : List Value) (tb : Addr) (c0 : Int32) (m' : Int32) (zc : Int32) (h0 : Heap) (n0 : Nat) (v : Option Value) (h : Heap) (L : List Loc) : Prop := (v = some (.ref a1)) ∧ (Fr n0 L) ∧ (Keep h0 h [a1, tb]) ∧ (Fld Z h a1 "java/lang/AbstractStringBuilder" "value" "[B" (.ref tb)) ∧ (Fld Z h a1 "java/lang/AbstractStringBuilder" "coder" "B" (.int (0 : Int32))) ∧ (Fld Z h a1 "java/lang/AbstractStringBuilder" "count" "I" (.int m')) ∧ (Arv Z h tb kd .byte (16 : Int32) vd' (.int (0 : Int32)))
set_option maxRecDepth 65536 in
set_option maxHeartbeats 40000000 in
theorem rm_sap (l : Launch) (Z : State) (a0 : Array Value) (hw : ∀ d ∈ tables_1, d.before a0 Z = true) (ws : List Jvm.Cond) (a1 : Addr) (a2 : Addr) (ta : Addr) (k : ClassId) (z : Int32) (vs : List Value) (kd : ClassId) (vd : List Value) (vd' : List Value) (tb : Addr) (c0 : Int32) (m' : Int32) (zc : Int32) (h0 : Heap) (n0 : Nat) (Z0 : n0 ≤ h0.size) (O0 : Old Z n0 h0) (F_value_a1 : Fld Z h0 a1 "java/lang/AbstractStringBuilder" "value" "[B" (.ref tb)) (F_coder_a1 : Fld Z h0 a1 "java/lang/AbstractStringBuilder" "coder" "B" (.int (0 : Int32))) (F_count_a1 : Fld Z h0 a1 "java/lang/AbstractStringBuilder" "count" "I" (.int c0)) (E_a1 : Exa Z h0 a1 "java/lang/StringBuilder") (g_a1 : n0 ≤ a1) (E_a2 : Exa Z h0 a2 "java/lang/String") (F_value_a2 : Fld Z h0 a2 "java/lang/String" "value" "[B" (.ref ta)) (F_coder_a2 : Fld Z h0 a2 "java/lang/String" "coder" "B" (.int (0 : Int32))) (V_ta : Arv Z h0 ta k .byte z vs (.int (0 : Int32))) (V_tb : Arv Z h0 tb kd .byte (16 : Int32) vd (.int (0 : Int32))) (g_tb : n0 ≤ tb) (ne_t : ta ≠ tb) (ne_tb : tb ≠ a1) (ne_ta : ta ≠ a1) (S_CS : Sta Z Z.heap "java/lang/String" "COMPACT_STRINGS" "Z" (.int zc)) (hz : ¬ zc = (0 : Int32)) (hle : ¬ (0 : Int32) < ((c0 + z) - (16 : Int32))) (hMm : c0 + z = m') (hp3 : ¬ c0 < (0 : Int32)) (hz0 : ¬ z < (0 : Int32)) (hfit : c0.toNatClampNeg + z.toNatClampNeg ≤ 16) (hlen : c0.toNatClampNeg + z.toNatClampNeg ≤ vd.length) (hv : (vd.take c0.toNatClampNeg ++ ((List.range z.toNatClampNeg).map fun i => vs.getD ((0 : Int32).toNatClampNeg + i) (.int (0 : Int32))) ++ vd.drop (c0.toNatClampNeg + z.toNatClampNeg)) = vd') :
    MetFree l y_15 (head1 (Jvm.Cond.code y_15 jdk_67_method_7_code 2 (some (.object "java/lang/StringBuilder")) :: ws) ({ frames := 4, cells := 0, slots := 0, locals := 61 } : Room)) (fun a U => a = #[(.ref a1), (.ref a2)] ∧ Z.Warmed39 U.vm ∧ U.heap = h0) (fun _ _ _ _ _ => True) (fun _ U o U' => ∃ v L, o = .returned v ∧ Q_rm_sap Z a1 a2 ta k z vs kd vd vd' tb c0 m' zc h0 n0 v U'.heap L ∧ FrameEnd U o U' L ({ frames := 4, cells := 0, slots := 0, locals := 61 } : Room).cells ({ frames := 4, cells := 0, slots := 0, locals := 61 } : Room).slots) := by
  refine MetFree.of_bodySF (plainFor_of_name pn_4) hisR ?_
  intro p e s m args below meth c s₁ Bd hml0 hP hK
  obtain ⟨rfl, hZ, hh⟩ := hP
  have hx := Bd.exec
  have hby := Bd.bytes
  have hml : c.maxLocals = 2 := hml0
  have hown : s.vm.findClass "java/lang/StringBuilder" = some m.cls := findClass_of_methodNamed Bd.named
  have hnm := (name_of_methodNamed Bd.named Bd.method).1
  have X0 : Stand p l e ({ frames := 4, cells := 0, slots := 0, locals := 61 } : Room) s m #[(.ref a1), (.ref a2)] below meth c s₁ [] 0 0 := Stand.of_body Bd
  have e0 : s₁.heap = h0 := by rw [← hh, Bd.state]; rfl
  have N0 := Fr.nil n0
  have KC : Keep h0 h0 [a1, tb] := Keep.refl h0 _
  have pre0 : ∀ t, Steps p.tables e below (s₁.setTop (mkF m 0 #[vr a1, vr a2] [])) t → Steps p.tables e below (s₁.setTop (entryFrame m #[(.ref a1), (.ref a2)] 2)) t := fun t k => castTop (ef_rm_sap m a1 a2) k
  obtain ⟨_, _, ⟨T1, L1, kz1, nz1⟩, -, X1, ⟨Lc1, hQ1, l1, y1, z1⟩, st1⟩ := superBack X0 hx hZ (y := y_14) hown (ww hw 73 rfl) (own_sm (ww hw 76 rfl) (ww hw 122 rfl) (ww hw 121 rfl) rfl (by decide)) (ww hw 74 rfl) (ww hw 75 rfl) (by decide) (backOf (W := 0) (rm_aap l Z a0 hw [] a1 a2 ta k z vs kd vd vd' tb c0 m' zc h0 n0 (Nat.le_trans Z0 KC.1) O0 F_value_a1 F_coder_a1 F_count_a1 E_a1 g_a1 E_a2 F_value_a2 F_coder_a2 V_ta V_tb g_tb ne_t ne_tb ne_ta S_CS hz hle hMm hp3 hz0 hfit hlen hv) hZ (ww hw 77 rfl) (ww hw 60 rfl) (by decide) (by decide)) e0 (Ins.self E_a1) (g := (mkF m 2 #[vr a1, vr a2] [(.ref a2), (.ref a1)])) rfl (by rw [hml]; rfl) (ww hw 77 rfl) (argsL := [(.ref a2)]) (rest := []) (lenOf pd_10 rfl) rfl (by show 2 * 0 + _ ≤ _; exact Nat.le_of_eq rfl) (hb hby d11_2) (fun _ _ => ⟨rfl, e0, (by decide : 0 + 0 ≤ _), (by decide : 0 + 0 ≤ _)⟩)
  dsimp only [Pt.U, Pt.locs, Pt.cells, Pt.slots] at X1 l1 y1 z1 st1 hQ1
  subst l1 y1 z1
  obtain ⟨rfl, N1q, K1, F_value_a1_1, F_coder_a1_1, F_count_a1_1, V_tb_1⟩ := hQ1
  have N1 := Fr.app N0 N1q
  have nev_a2_tb : a2 ≠ tb := Exa.neArv E_a2 V_tb (ww hw 2 rfl)
  have nec_a2_a1 : a2 ≠ a1 := Exa.ne E_a2 E_a1 (by decide)
  replace E_a1 := E_a1.keep K1
  replace E_a2 := E_a2.keep K1
  replace F_value_a2 := F_value_a2.keep K1 (ninS nec_a2_a1 (ninS nev_a2_tb nin0))
  replace F_coder_a2 := F_coder_a2.keep K1 (ninS nec_a2_a1 (ninS nev_a2_tb nin0))
  replace V_ta := V_ta.keep K1 (ninS ne_ta (ninS ne_t nin0))
  replace O0 := O0.keep K1 (allS g_a1 (allS g_tb all0))
  replace KC := KC.trans K1 (allS (Or.inl (List.mem_of_getElem? (i := 0) rfl)) (allS (Or.inl (List.mem_of_getElem? (i := 1) rfl)) all0))
  obtain ⟨fs, hr, hrun, hended, hW, hsame⟩ := X1.leave (v := some (.ref a1)) (fun h => by rw [Bd.returns] at h; cases h)
  refine ⟨_, _, pre0 _ ?_, hrun, hended, _, _, rfl, ?_, ⟨_, rfl⟩, hW, hsame.mono (by decide) (by decide)⟩
  · show SS p e below m s₁ 0 #[vr a1, vr a2] [] _
    refine XS.aloadN X0.here hx rfl (hb hby d11_0) rfl rfl ?_
    show SS p e below m s₁ 1 #[vr a1, vr a2] [(.ref a1)] _
    refine XS.aloadN X0.here hx rfl (hb hby d11_1) rfl rfl ?_
    show SS p e below m s₁ 2 #[vr a1, vr a2] [(.ref a2), (.ref a1)] _
    refine st1.trans ?_
    show SS p e below m T1 5 #[vr a1, vr a2] [(.ref a1)] _
    refine XS.pop X1.here hx rfl (hb hby d11_5) rfl rfl ?_
    show SS p e below m T1 6 #[vr a1, vr a2] [] _
    refine XS.aloadN X1.here hx rfl (hb hby d11_6) rfl rfl ?_
    show SS p e below m T1 7 #[vr a1, vr a2] [(.ref a1)] _
    jvm_step X1.here [X1.here.top, hx, (hb hby d11_7), X1.method', Bd.returns, Value.isRef, FieldType.isReference]
    first | (intro acts; rw [hr _ acts rfl rfl rfl]) | rw [hr _ _ rfl rfl rfl]
    exact Steps.refl _
  · show Q_rm_sap Z a1 a2 ta k z vs kd vd vd' tb c0 m' zc h0 n0 _ T1.heap _
    exact ⟨rfl, N1, KC, F_value_a1_1, F_coder_a1_1, F_count_a1_1, V_tb_1⟩
theorem d20_0 : decode jdk_68_method_64_code 0 = .ok (.aload_n 0, 1) := by decide +kernel
theorem d20_1 : decode jdk_68_method_64_code 1 = .ok (.getfield 15, 3) := by decide +kernel
theorem d20_4 : decode jdk_68_method_64_code 4 = .ok (.areturn, 1) := by decide +kernel
theorem ef_rm_gv (m : MethodId) (x0 : Addr) : entryFrame m #[(.ref x0)] 1 = mkF m 0 #[vr x0] [] := by first | (simp [entryFrame, mkF, argsToLocals, Value.category]; done) | rfl
def Q_rm_gv (Z : State) (a1 : Addr) (ta : Addr) (h0 : Heap) (n0 : Nat) (v : Option Value) (h : Heap) (L : List Loc) : Prop := (v = some (.ref ta)) ∧ (Fr n0 L) ∧ (h = h0)
set_option maxRecDepth 65536 in
set_option maxHeartbeats 40000000 in
theorem rm_gv (l : Launch) (Z : State) (a0 : Array Value) (hw : ∀ d ∈ tables_1, d.before a0 Z = true) (ws : List Jvm.Cond) (a1 : Addr) (ta : Addr) (h0 : Heap) (n0 : Nat) (Z0 : n0 ≤ h0.size) (O0 : Old Z n0 h0) (F_value_a1 : Fld Z h0 a1 "java/lang/AbstractStringBuilder" "value" "[B" (.ref ta)) :
    MetFree l y_7 (head1 (Jvm.Cond.code y_7 jdk_68_method_64_code 1 (some (.array .byte)) :: ws) ({ frames := 0, cells := 0, slots := 0, locals := 0 } : Room)) (fun a U => a = #[(.ref a1)] ∧ Z.Warmed39 U.vm ∧ U.heap = h0) (fun _ _ _ _ _ => True) (fun _ U o U' => ∃ v L, o = .returned v ∧ Q_rm_gv Z a1 ta h0 n0 v U'.heap L ∧ FrameEnd U o U' L ({ frames := 0, cells := 0, slots := 0, locals := 0 } : Room).cells ({ frames := 0, cells := 0, slots := 0, locals := 0 } : Room).slots) := by
  refine MetFree.of_bodySF (plainFor_of_name pn_3) hisR ?_
  intro p e s m args below meth c s₁ Bd hml0 hP hK
  obtain ⟨rfl, hZ, hh⟩ := hP
  have hx := Bd.exec
  have hby := Bd.bytes
  have hml : c.maxLocals = 1 := hml0
  have hown : s.vm.findClass "java/lang/AbstractStringBuilder" = some m.cls := findClass_of_methodNamed Bd.named
  have hnm := (name_of_methodNamed Bd.named Bd.method).1
  have X0 : Stand p l e ({ frames := 0, cells := 0, slots := 0, locals := 0 } : Room) s m #[(.ref a1)] below meth c s₁ [] 0 0 := Stand.of_body Bd
  have e0 : s₁.heap = h0 := by rw [← hh, Bd.state]; rfl
  have N0 := Fr.nil n0
  have KC : Keep h0 h0 [] := Keep.refl h0 _
  have pre0 : ∀ t, Steps p.tables e below (s₁.setTop (mkF m 0 #[vr a1] [])) t → Steps p.tables e below (s₁.setTop (entryFrame m #[(.ref a1)] 1)) t := fun t k => castTop (ef_rm_gv m a1) k
  obtain ⟨T1, X1, e1, st1⟩ := getF X0 hx hZ hown (host := "") (Or.inl (ww hw 64 rfl)) Via.refl e0 F_value_a1 (g := (mkF m 1 #[vr a1] [(.ref a1)])) rfl rfl (hb hby d20_1)
  obtain ⟨fs, hr, hrun, hended, hW, hsame⟩ := X1.leave (v := some (.ref ta)) (fun h => by rw [Bd.returns] at h; cases h)
  refine ⟨_, _, pre0 _ ?_, hrun, hended, _, _, rfl, ?_, ⟨_, rfl⟩, hW, hsame.mono (by decide) (by decide)⟩
  · show SS p e below m s₁ 0 #[vr a1] [] _
    refine XS.aloadN X0.here hx rfl (hb hby d20_0) rfl rfl ?_
    show SS p e below m s₁ 1 #[vr a1] [(.ref a1)] _
    refine st1 _ ?_
    show SS p e below m T1 4 #[vr a1] [(.ref ta)] _
    jvm_step X1.here [X1.here.top, hx, (hb hby d20_4), X1.method', Bd.returns, Value.isRef, FieldType.isReference]
    first | (intro acts; rw [hr _ acts rfl rfl rfl]) | rw [hr _ _ rfl rfl rfl]
    exact Steps.refl _
  · show Q_rm_gv Z a1 ta h0 n0 _ T1.heap _
    rw [e1]
    exact ⟨rfl, N0, rfl⟩
theorem d22_0 : decode jdk_68_method_6_code 0 = .ok (.aload_n 0, 1) := by decide +kernel
theorem d22_1 : decode jdk_68_method_6_code 1 = .ok (.getfield 79, 3) := by decide +kernel
theorem d22_4 : decode jdk_68_method_6_code 4 = .ok (.ireturn, 1) := by decide +kernel
theorem ef_rm_abl (m : MethodId) (x0 : Addr) : entryFrame m #[(.ref x0)] 1 = mkF m 0 #[vr x0] [] := by first | (simp [entryFrame, mkF, argsToLocals, Value.category]; done) | rfl
def Q_rm_abl (Z : State) (a1 : Addr) (c0 : Int32) (h0 : Heap) (n0 : Nat) (v : Option Value) (h : Heap) (L : List Loc) : Prop := (v = some (.int c0)) ∧ (Fr n0 L) ∧ (h = h0)
set_option maxRecDepth 65536 in
set_option maxHeartbeats 40000000 in
theorem rm_abl (l : Launch) (Z : State) (a0 : Array Value) (hw : ∀ d ∈ tables_1, d.before a0 Z = true) (ws : List Jvm.Cond) (a1 : Addr) (c0 : Int32) (h0 : Heap) (n0 : Nat) (Z0 : n0 ≤ h0.size) (O0 : Old Z n0 h0) (F_count_a1 : Fld Z h0 a1 "java/lang/AbstractStringBuilder" "count" "I" (.int c0)) :
    MetFree l y_16 (head1 (Jvm.Cond.code y_16 jdk_68_method_6_code 1 (some .int) :: ws) ({ frames := 0, cells := 0, slots := 0, locals := 0 } : Room)) (fun a U => a = #[(.ref a1)] ∧ Z.Warmed39 U.vm ∧ U.heap = h0) (fun _ _ _ _ _ => True) (fun _ U o U' => ∃ v L, o = .returned v ∧ Q_rm_abl Z a1 c0 h0 n0 v U'.heap L ∧ FrameEnd U o U' L ({ frames := 0, cells := 0, slots := 0, locals := 0 } : Room).cells ({ frames := 0, cells := 0, slots := 0, locals := 0 } : Room).slots) := by
  refine MetFree.of_bodySF (plainFor_of_name pn_3) hisR ?_
  intro p e s m args below meth c s₁ Bd hml0 hP hK
  obtain ⟨rfl, hZ, hh⟩ := hP
  have hx := Bd.exec
  have hby := Bd.bytes
  have hml : c.maxLocals = 1 := hml0
  have hown : s.vm.findClass "java/lang/AbstractStringBuilder" = some m.cls := findClass_of_methodNamed Bd.named
  have hnm := (name_of_methodNamed Bd.named Bd.method).1
  have X0 : Stand p l e ({ frames := 0, cells := 0, slots := 0, locals := 0 } : Room) s m #[(.ref a1)] below meth c s₁ [] 0 0 := Stand.of_body Bd
  have e0 : s₁.heap = h0 := by rw [← hh, Bd.state]; rfl
  have N0 := Fr.nil n0
  have KC : Keep h0 h0 [] := Keep.refl h0 _
  have pre0 : ∀ t, Steps p.tables e below (s₁.setTop (mkF m 0 #[vr a1] [])) t → Steps p.tables e below (s₁.setTop (entryFrame m #[(.ref a1)] 1)) t := fun t k => castTop (ef_rm_abl m a1) k
  obtain ⟨T1, X1, e1, st1⟩ := getF X0 hx hZ hown (host := "") (Or.inl (ww hw 79 rfl)) Via.refl e0 F_count_a1 (g := (mkF m 1 #[vr a1] [(.ref a1)])) rfl rfl (hb hby d22_1)
  obtain ⟨fs, hr, hrun, hended, hW, hsame⟩ := X1.leave (v := some (.int c0)) (fun h => by rw [Bd.returns] at h; cases h)
  refine ⟨_, _, pre0 _ ?_, hrun, hended, _, _, rfl, ?_, ⟨_, rfl⟩, hW, hsame.mono (by decide) (by decide)⟩
  · show SS p e below m s₁ 0 #[vr a1] [] _
    refine XS.aloadN X0.here hx rfl (hb hby d22_0) rfl rfl ?_
    show SS p e below m s₁ 1 #[vr a1] [(.ref a1)] _
    refine st1 _ ?_
    show SS p e below m T1 4 #[vr a1] [(.int c0)] _
    exact retI X1 hx Bd.returns (hb hby d22_4) hr
  · show Q_rm_abl Z a1 c0 h0 n0 _ T1.heap _
    rw [e1]
    exact ⟨rfl, N0, rfl⟩
theorem d21_0 : decode jdk_67_method_93_code 0 = .ok (.aload_n 0, 1) := by decide +kernel
theorem d21_1 : decode jdk_67_method_93_code 1 = .ok (.invokespecial 343, 3) := by decide +kernel
theorem d21_4 : decode jdk_67_method_93_code 4 = .ok (.ireturn, 1) := by decide +kernel
theorem ef_rm_sbl (m : MethodId) (x0 : Addr) : entryFrame m #[(.ref x0)] 1 = mkF m 0 #[vr x0] [] := by first | (simp [entryFrame, mkF, argsToLocals, Value.category]; done) | rfl
def Q_rm_sbl (Z : State) (a1 : Addr) (c0 : Int32) (h0 : Heap) (n0 : Nat) (v : Option Value) (h : Heap) (L : List Loc) : Prop := (v = some (.int c0)) ∧ (Fr n0 L) ∧ (h = h0)
set_option maxRecDepth 65536 in
set_option maxHeartbeats 40000000 in
theorem rm_sbl (l : Launch) (Z : State) (a0 : Array Value) (hw : ∀ d ∈ tables_1, d.before a0 Z = true) (ws : List Jvm.Cond) (a1 : Addr) (c0 : Int32) (h0 : Heap) (n0 : Nat) (Z0 : n0 ≤ h0.size) (O0 : Old Z n0 h0) (F_count_a1 : Fld Z h0 a1 "java/lang/AbstractStringBuilder" "count" "I" (.int c0)) (E_a1 : Exa Z h0 a1 "java/lang/StringBuilder") :
    MetFree l y_17 (head1 (Jvm.Cond.code y_17 jdk_67_method_93_code 1 (some .int) :: ws) ({ frames := 1, cells := 0, slots := 0, locals := 12 } : Room)) (fun a U => a = #[(.ref a1)] ∧ Z.Warmed39 U.vm ∧ U.heap = h0) (fun _ _ _ _ _ => True) (fun _ U o U' => ∃ v L, o = .returned v ∧ Q_rm_sbl Z a1 c0 h0 n0 v U'.heap L ∧ FrameEnd U o U' L ({ frames := 1, cells := 0, slots := 0, locals := 12 } : Room).cells ({ frames := 1, cells := 0, slots := 0, locals := 12 } : Room).slots) := by
  refine MetFree.of_bodySF (plainFor_of_name pn_4) hisR ?_
  intro p e s m args below meth c s₁ Bd hml0 hP hK
  obtain ⟨rfl, hZ, hh⟩ := hP
  have hx := Bd.exec
  have hby := Bd.bytes
  have hml : c.maxLocals = 1 := hml0
  have hown : s.vm.findClass "java/lang/StringBuilder" = some m.cls := findClass_of_methodNamed Bd.named
  have hnm := (name_of_methodNamed Bd.named Bd.method).1
  have X0 : Stand p l e ({ frames := 1, cells := 0, slots := 0, locals := 12 } : Room) s m #[(.ref a1)] below meth c s₁ [] 0 0 := Stand.of_body Bd
  have e0 : s₁.heap = h0 := by rw [← hh, Bd.state]; rfl
  have N0 := Fr.nil n0
  have KC : Keep h0 h0 [] := Keep.refl h0 _
  have pre0 : ∀ t, Steps p.tables e below (s₁.setTop (mkF m 0 #[vr a1] [])) t → Steps p.tables e below (s₁.setTop (entryFrame m #[(.ref a1)] 1)) t := fun t k => castTop (ef_rm_sbl m a1) k
  obtain ⟨_, _, ⟨T1, L1, kz1, nz1⟩, -, X1, ⟨Lc1, hQ1, l1, y1, z1⟩, st1⟩ := superBack X0 hx hZ (y := y_16) hown (ww hw 130 rfl) (own_sm (ww hw 125 rfl) (ww hw 122 rfl) (ww hw 121 rfl) rfl (by decide)) (ww hw 126 rfl) (ww hw 75 rfl) (by decide) (backOf (W := 0) (rm_abl l Z a0 hw [] a1 c0 h0 n0 (Nat.le_trans Z0 KC.1) O0 F_count_a1) hZ (ww hw 131 rfl) (ww hw 60 rfl) (by decide) (by decide)) e0 (Ins.self E_a1) (g := (mkF m 1 #[vr a1] [(.ref a1)])) rfl (by rw [hml]; rfl) (ww hw 131 rfl) (argsL := []) (rest := []) (lenOf pd_8 rfl) rfl (by show 2 * 0 + _ ≤ _; exact Nat.le_of_eq rfl) (hb hby d21_1) (fun _ _ => ⟨rfl, e0, (by decide : 0 + 0 ≤ _), (by decide : 0 + 0 ≤ _)⟩)
  dsimp only [Pt.U, Pt.locs, Pt.cells, Pt.slots] at X1 l1 y1 z1 st1 hQ1
  subst l1 y1 z1
  obtain ⟨rfl, N1q, e1⟩ := hQ1
  have N1 := Fr.app N0 N1q
  obtain ⟨fs, hr, hrun, hended, hW, hsame⟩ := X1.leave (v := some (.int c0)) (fun h => by rw [Bd.returns] at h; cases h)
  refine ⟨_, _, pre0 _ ?_, hrun, hended, _, _, rfl, ?_, ⟨_, rfl⟩, hW, hsame.mono (by decide) (by decide)⟩
  · show SS p e below m s₁ 0 #[vr a1] [] _
    refine XS.aloadN X0.here hx rfl (hb hby d21_0) rfl rfl ?_
    show SS p e below m s₁ 1 #[vr a1] [(.ref a1)] _
    refine st1.trans ?_
    show SS p e below m T1 4 #[vr a1] [(.int c0)] _
    exact retI X1 hx Bd.returns (hb hby d21_4) hr
  · show Q_rm_sbl Z a1 c0 h0 n0 _ T1.heap _
    rw [e1]
    exact ⟨rfl, N1, rfl⟩
theorem d23_0 : decode jdk_68_method_68_code 0 = .ok (.getstatic 18, 3) := by decide +kernel
theorem d23_3 : decode jdk_68_method_68_code 3 = .ok (.ifCond .eq 14, 3) := by decide +kernel
theorem d23_6 : decode jdk_68_method_68_code 6 = .ok (.aload_n 0, 1) := by decide +kernel
theorem d23_7 : decode jdk_68_method_68_code 7 = .ok (.getfield 22, 3) := by decide +kernel
theorem d23_10 : decode jdk_68_method_68_code 10 = .ok (.ifCond .ne 7, 3) := by decide +kernel
theorem d23_13 : decode jdk_68_method_68_code 13 = .ok (.iconst 1, 1) := by decide +kernel
theorem d23_14 : decode jdk_68_method_68_code 14 = .ok (.goto 4, 3) := by decide +kernel
theorem d23_18 : decode jdk_68_method_68_code 18 = .ok (.ireturn, 1) := by decide +kernel
theorem ef_rm_abL (m : MethodId) (x0 : Addr) : entryFrame m #[(.ref x0)] 1 = mkF m 0 #[vr x0] [] := by first | (simp [entryFrame, mkF, argsToLocals, Value.category]; done) | rfl
def Q_rm_abL (Z : State) (a1 : Addr) (zc : Int32) (h0 : Heap) (n0 : Nat) (v : Option Value) (h : Heap) (L : List Loc) : Prop := (v = some (.int (1 : Int32))) ∧ (Fr n0 L) ∧ (h = h0)
set_option maxRecDepth 65536 in
set_option maxHeartbeats 40000000 in
theorem rm_abL (l : Launch) (Z : State) (a0 : Array Value) (hw : ∀ d ∈ tables_1, d.before a0 Z = true) (ws : List Jvm.Cond) (a1 : Addr) (zc : Int32) (h0 : Heap) (n0 : Nat) (Z0 : n0 ≤ h0.size) (O0 : Old Z n0 h0) (F_coder_a1 : Fld Z h0 a1 "java/lang/AbstractStringBuilder" "coder" "B" (.int (0 : Int32))) (S_CS : Sta Z Z.heap "java/lang/String" "COMPACT_STRINGS" "Z" (.int zc)) (hz : ¬ zc = (0 : Int32)) :
    MetFree l y_18 (head1 (Jvm.Cond.code y_18 jdk_68_method_68_code 1 (some .boolean) :: ws) ({ frames := 0, cells := 0, slots := 0, locals := 0 } : Room)) (fun a U => a = #[(.ref a1)] ∧ Z.Warmed39 U.vm ∧ U.heap = h0) (fun _ _ _ _ _ => True) (fun _ U o U' => ∃ v L, o = .returned v ∧ Q_rm_abL Z a1 zc h0 n0 v U'.heap L ∧ FrameEnd U o U' L ({ frames := 0, cells := 0, slots := 0, locals := 0 } : Room).cells ({ frames := 0, cells := 0, slots := 0, locals := 0 } : Room).slots) := by
  refine MetFree.of_bodySF (plainFor_of_name pn_3) hisR ?_
  intro p e s m args below meth c s₁ Bd hml0 hP hK
  obtain ⟨rfl, hZ, hh⟩ := hP
  have hx := Bd.exec
  have hby := Bd.bytes
  have hml : c.maxLocals = 1 := hml0
  have hown : s.vm.findClass "java/lang/AbstractStringBuilder" = some m.cls := findClass_of_methodNamed Bd.named
  have hnm := (name_of_methodNamed Bd.named Bd.method).1
  have X0 : Stand p l e ({ frames := 0, cells := 0, slots := 0, locals := 0 } : Room) s m #[(.ref a1)] below meth c s₁ [] 0 0 := Stand.of_body Bd
  have e0 : s₁.heap = h0 := by rw [← hh, Bd.state]; rfl
  have N0 := Fr.nil n0
  have KC : Keep h0 h0 [] := Keep.refl h0 _
  have pre0 : ∀ t, Steps p.tables e below (s₁.setTop (mkF m 0 #[vr a1] [])) t → Steps p.tables e below (s₁.setTop (entryFrame m #[(.ref a1)] 1)) t := fun t k => castTop (ef_rm_abL m a1) k
  obtain ⟨T1, X1, e1, st1⟩ := getS2 X0 hx hZ hown (host := "") (Or.inl (ww hw 63 rfl)) Via.refl e0 (S_CS.ext O0.2) (g := (mkF m 0 #[vr a1] [])) rfl (hb hby d23_0)
  obtain ⟨T2, X2, e2, st2⟩ := getF X1 hx hZ hown (host := "") (Or.inl (ww hw 66 rfl)) Via.refl e1 F_coder_a1 (g := (mkF m 7 #[vr a1] [(.ref a1)])) rfl rfl (hb hby d23_7)
  obtain ⟨fs, hr, hrun, hended, hW, hsame⟩ := X2.leave (v := some (.int (1 : Int32))) (fun h => by rw [Bd.returns] at h; cases h)
  refine ⟨_, _, pre0 _ ?_, hrun, hended, _, _, rfl, ?_, ⟨_, rfl⟩, hW, hsame.mono (by decide) (by decide)⟩
  · show SS p e below m s₁ 0 #[vr a1] [] _
    refine st1 _ ?_
    show SS p e below m T1 3 #[vr a1] [(.int zc)] _
    refine XS.ifNo X1.here hx rfl (hb hby d23_3) rfl ((if0 _ _).trans (feq hz).1) ?_
    show SS p e below m T1 6 #[vr a1] [] _
    refine XS.aloadN X1.here hx rfl (hb hby d23_6) rfl rfl ?_
    show SS p e below m T1 7 #[vr a1] [(.ref a1)] _
    refine st2 _ ?_
    show SS p e below m T2 10 #[vr a1] [(.int (0 : Int32))] _
    refine XS.ifNo X2.here hx rfl (hb hby d23_10) rfl ((if0 _ _).trans (teq (by decide)).2) ?_
    show SS p e below m T2 13 #[vr a1] [] _
    refine XS.iconst X2.here hx rfl (hb hby d23_13) ?_
    show SS p e below m T2 14 #[vr a1] [(.int (1 : Int32))] _
    refine XS.goto X2.here hx rfl (pc0 := 14) (pc' := 18) rfl (hb hby d23_14) (by decide) (by decide) ?_
    show SS p e below m T2 18 #[vr a1] [(.int (1 : Int32))] _
    exact retN X2 hx (t := .boolean) Bd.returns (by simp) (hb hby d23_18) hr
  · show Q_rm_abL Z a1 zc h0 n0 _ T2.heap _
    rw [e2]
    exact ⟨rfl, N0, rfl⟩
theorem d26_0 : decode jdk_65_method_131_code 0 = .ok (.iload_n 1, 1) := by decide +kernel
theorem d26_1 : decode jdk_65_method_131_code 1 = .ok (.iload_n 0, 1) := by decide +kernel
theorem d26_2 : decode jdk_65_method_131_code 2 = .ok (.if_icmp .ge 35, 3) := by decide +kernel
theorem d26_37 : decode jdk_65_method_131_code 37 = .ok (.return_, 1) := by decide +kernel
theorem pn_5 : plainName "java/util/Arrays" = true := by first | (simp [plainName, overriddenIn]; done) | decide +kernel
theorem ef_rm_ckl (m : MethodId) (x0 : Int32) (x1 : Int32) : entryFrame m #[(.int x0), (.int x1)] 2 = mkF m 0 #[vi x0, vi x1] [] := by first | (simp [entryFrame, mkF, argsToLocals, Value.category]; done) | rfl
def Q_rm_ckl (Z : State) (p2 : Int32) (h0 : Heap) (n0 : Nat) (v : Option Value) (h : Heap) (L : List Loc) : Prop := (v = none) ∧ (Fr n0 L) ∧ (h = h0)
set_option maxRecDepth 65536 in
set_option maxHeartbeats 40000000 in
theorem rm_ckl (l : Launch) (Z : State) (a0 : Array Value) (hw : ∀ d ∈ tables_1, d.before a0 Z = true) (ws : List Jvm.Cond) (p2 : Int32) (h0 : Heap) (n0 : Nat) (Z0 : n0 ≤ h0.size) (O0 : Old Z n0 h0) (hp0 : ¬ p2 < (0 : Int32)) :
    MetFree l y_19 (head1 (Jvm.Cond.code y_19 jdk_65_method_131_code 2 none :: ws) ({ frames := 0, cells := 0, slots := 0, locals := 0 } : Room)) (fun a U => a = #[(.int (0 : Int32)), (.int p2)] ∧ Z.Warmed39 U.vm ∧ U.heap = h0) (fun _ _ _ _ _ => True) (fun _ U o U' => ∃ v L, o = .returned v ∧ Q_rm_ckl Z p2 h0 n0 v U'.heap L ∧ FrameEnd U o U' L ({ frames := 0, cells := 0, slots := 0, locals := 0 } : Room).cells ({ frames := 0, cells := 0, slots := 0, locals := 0 } : Room).slots) := by
  refine MetFree.of_bodySF (plainFor_of_name pn_5) hisR ?_
  intro p e s m args below meth c s₁ Bd hml0 hP hK
  obtain ⟨rfl, hZ, hh⟩ := hP
  have hx := Bd.exec
  have hby := Bd.bytes
  have hml : c.maxLocals = 2 := hml0
  have hown : s.vm.findClass "java/util/Arrays" = some m.cls := findClass_of_methodNamed Bd.named
  have hnm := (name_of_methodNamed Bd.named Bd.method).1
  have X0 : Stand p l e ({ frames := 0, cells := 0, slots := 0, locals := 0 } : Room) s m #[(.int (0 : Int32)), (.int p2)] below meth c s₁ [] 0 0 := Stand.of_body Bd
  have e0 : s₁.heap = h0 := by rw [← hh, Bd.state]; rfl
  have N0 := Fr.nil n0
  have KC : Keep h0 h0 [] := Keep.refl h0 _
  have pre0 : ∀ t, Steps p.tables e below (s₁.setTop (mkF m 0 #[vi (0 : Int32), vi p2] [])) t → Steps p.tables e below (s₁.setTop (entryFrame m #[(.int (0 : Int32)), (.int p2)] 2)) t := fun t k => castTop (ef_rm_ckl m (0 : Int32) p2) k
  obtain ⟨fs, hr, hrun, hended, hW, hsame⟩ := X0.leave (v := none) (fun _ => rfl)
  refine ⟨_, _, pre0 _ ?_, hrun, hended, _, _, rfl, ?_, ⟨_, rfl⟩, hW, hsame.mono (by decide) (by decide)⟩
  · show SS p e below m s₁ 0 #[vi (0 : Int32), vi p2] [] _
    refine XS.iloadN X0.here hx rfl (hb hby d26_0) rfl ?_
    show SS p e below m s₁ 1 #[vi (0 : Int32), vi p2] [(.int p2)] _
    refine XS.iloadN X0.here hx rfl (hb hby d26_1) rfl ?_
    show SS p e below m s₁ 2 #[vi (0 : Int32), vi p2] [(.int (0 : Int32)), (.int p2)] _
    refine XS.icmpYes X0.here hx rfl (pc0 := 2) (pc' := 37) rfl (hb hby d26_2) rfl (flt hp0).2.1 (by decide) (by decide) ?_
    show SS p e below m s₁ 37 #[vi (0 : Int32), vi p2] [] _
    exact X0.returnOut hx Bd.returns (hb hby d26_37) hr
  · show Q_rm_ckl Z p2 h0 n0 _ s₁.heap _
    rw [e0]
    exact ⟨rfl, N0, rfl⟩
theorem d27_0 : decode jdk_29_method_69_code 0 = .ok (.iload_n 0, 1) := by decide +kernel
theorem d27_1 : decode jdk_29_method_69_code 1 = .ok (.iload_n 1, 1) := by decide +kernel
theorem d27_2 : decode jdk_29_method_69_code 2 = .ok (.if_icmp .gt 7, 3) := by decide +kernel
theorem d27_5 : decode jdk_29_method_69_code 5 = .ok (.iload_n 0, 1) := by decide +kernel
theorem d27_6 : decode jdk_29_method_69_code 6 = .ok (.goto 4, 3) := by decide +kernel
theorem d27_9 : decode jdk_29_method_69_code 9 = .ok (.iload_n 1, 1) := by decide +kernel
theorem d27_10 : decode jdk_29_method_69_code 10 = .ok (.ireturn, 1) := by decide +kernel
theorem ef_rm_min (m : MethodId) (x0 : Int32) (x1 : Int32) : entryFrame m #[(.int x0), (.int x1)] 2 = mkF m 0 #[vi x0, vi x1] [] := by first | (simp [entryFrame, mkF, argsToLocals, Value.category]; done) | rfl
def Q_rm_min (Z : State) (p1 : Int32) (p2 : Int32) (h0 : Heap) (n0 : Nat) (v : Option Value) (h : Heap) (L : List Loc) : Prop := (v = some (.int (if p2 < p1 then p2 else p1))) ∧ (Fr n0 L) ∧ (h = h0)
set_option maxRecDepth 65536 in
set_option maxHeartbeats 40000000 in
theorem rm_min (l : Launch) (Z : State) (a0 : Array Value) (hw : ∀ d ∈ tables_1, d.before a0 Z = true) (ws : List Jvm.Cond) (p1 : Int32) (p2 : Int32) (h0 : Heap) (n0 : Nat) (Z0 : n0 ≤ h0.size) (O0 : Old Z n0 h0) :
    MetFree l y_20 (head1 (Jvm.Cond.code y_20 jdk_29_method_69_code 2 (some .int) :: ws) ({ frames := 0, cells := 0, slots := 0, locals := 0 } : Room)) (fun a U => a = #[(.int p1), (.int p2)] ∧ Z.Warmed39 U.vm ∧ U.heap = h0) (fun _ _ _ _ _ => True) (fun _ U o U' => ∃ v L, o = .returned v ∧ Q_rm_min Z p1 p2 h0 n0 v U'.heap L ∧ FrameEnd U o U' L ({ frames := 0, cells := 0, slots := 0, locals := 0 } : Room).cells ({ frames := 0, cells := 0, slots := 0, locals := 0 } : Room).slots) := by
  refine MetFree.of_bodySF (Jvm.Free.JP.mathPlain rfl (by decide +kernel)) hisR ?_
  intro p e s m args below meth c s₁ Bd hml0 hP hK
  obtain ⟨rfl, hZ, hh⟩ := hP
  have hx := Bd.exec
  have hby := Bd.bytes
  have hml : c.maxLocals = 2 := hml0
  have hown : s.vm.findClass "java/lang/Math" = some m.cls := findClass_of_methodNamed Bd.named
  have hnm := (name_of_methodNamed Bd.named Bd.method).1
  have X0 : Stand p l e ({ frames := 0, cells := 0, slots := 0, locals := 0 } : Room) s m #[(.int p1), (.int p2)] below meth c s₁ [] 0 0 := Stand.of_body Bd
  have e0 : s₁.heap = h0 := by rw [← hh, Bd.state]; rfl
  have N0 := Fr.nil n0
  have KC : Keep h0 h0 [] := Keep.refl h0 _
  have pre0 : ∀ t, Steps p.tables e below (s₁.setTop (mkF m 0 #[vi p1, vi p2] [])) t → Steps p.tables e below (s₁.setTop (entryFrame m #[(.int p1), (.int p2)] 2)) t := fun t k => castTop (ef_rm_min m p1 p2) k
  have pre1 : ∀ t, Steps p.tables e below (s₁.setTop (mkF m 2 #[vi p1, vi p2] [(.int p2), (.int p1)])) t → Steps p.tables e below (s₁.setTop (entryFrame m #[(.int p1), (.int p2)] 2)) t := by
    intro t kt
    refine pre0 t ?_
    show SS p e below m s₁ 0 #[vi p1, vi p2] [] _
    refine XS.iloadN X0.here hx rfl (hb hby d27_0) rfl ?_
    show SS p e below m s₁ 1 #[vi p1, vi p2] [(.int p1)] _
    refine XS.iloadN X0.here hx rfl (hb hby d27_1) rfl ?_
    exact kt
  by_cases hc2_2 : p2 < p1
  · obtain ⟨fs, hr, hrun, hended, hW, hsame⟩ := X0.leave (v := some (.int p2)) (fun h => by rw [Bd.returns] at h; cases h)
    refine ⟨_, _, pre1 _ ?_, hrun, hended, _, _, rfl, ?_, ⟨_, rfl⟩, hW, hsame.mono (by decide) (by decide)⟩
    · show SS p e below m s₁ 2 #[vi p1, vi p2] [(.int p2), (.int p1)] _
      refine XS.icmpYes X0.here hx rfl (pc0 := 2) (pc' := 9) rfl (hb hby d27_2) rfl (tlt hc2_2).2.2.1 (by decide) (by decide) ?_
      show SS p e below m s₁ 9 #[vi p1, vi p2] [] _
      refine XS.iloadN X0.here hx rfl (hb hby d27_9) rfl ?_
      show SS p e below m s₁ 10 #[vi p1, vi p2] [(.int p2)] _
      exact retI X0 hx Bd.returns (hb hby d27_10) hr
    · show Q_rm_min Z p1 p2 h0 n0 _ s₁.heap _
      rw [e0]
      exact ⟨(by simp [hc2_2]), N0, rfl⟩
  · obtain ⟨fs, hr, hrun, hended, hW, hsame⟩ := X0.leave (v := some (.int p1)) (fun h => by rw [Bd.returns] at h; cases h)
    refine ⟨_, _, pre1 _ ?_, hrun, hended, _, _, rfl, ?_, ⟨_, rfl⟩, hW, hsame.mono (by decide) (by decide)⟩
    · show SS p e below m s₁ 2 #[vi p1, vi p2] [(.int p2), (.int p1)] _
      refine XS.icmpNo X0.here hx rfl (hb hby d27_2) rfl (flt hc2_2).2.2.1 ?_
      show SS p e below m s₁ 5 #[vi p1, vi p2] [] _
      refine XS.iloadN X0.here hx rfl (hb hby d27_5) rfl ?_
      show SS p e below m s₁ 6 #[vi p1, vi p2] [(.int p1)] _
      refine XS.goto X0.here hx rfl (pc0 := 6) (pc' := 10) rfl (hb hby d27_6) (by decide) (by decide) ?_
      show SS p e below m s₁ 10 #[vi p1, vi p2] [(.int p1)] _
      exact retI X0 hx Bd.returns (hb hby d27_10) hr
    · show Q_rm_min Z p1 p2 h0 n0 _ s₁.heap _
      rw [e0]
      exact ⟨(by simp [hc2_2]), N0, rfl⟩
theorem pd_11 : parseMethodDescriptor "(II)I" = some ⟨[.int, .int], some .int⟩ := by decide +kernel
theorem d25_0 : decode jdk_65_method_133_code 0 = .ok (.iload_n 1, 1) := by decide +kernel
theorem d25_1 : decode jdk_65_method_133_code 1 = .ok (.iload_n 2, 1) := by decide +kernel
theorem d25_2 : decode jdk_65_method_133_code 2 = .ok (.invokestatic 343, 3) := by decide +kernel
theorem d25_5 : decode jdk_65_method_133_code 5 = .ok (.iload_n 2, 1) := by decide +kernel
theorem d25_6 : decode jdk_65_method_133_code 6 = .ok (.iload_n 1, 1) := by decide +kernel
theorem d25_7 : decode jdk_65_method_133_code 7 = .ok (.isub, 1) := by decide +kernel
theorem d25_8 : decode jdk_65_method_133_code 8 = .ok (.istore_n 3, 1) := by decide +kernel
theorem d25_9 : decode jdk_65_method_133_code 9 = .ok (.iload_n 3, 1) := by decide +kernel
theorem d25_10 : decode jdk_65_method_133_code 10 = .ok (.newarray .byte, 2) := by decide +kernel
theorem d25_12 : decode jdk_65_method_133_code 12 = .ok (.astore 4, 2) := by decide +kernel
theorem d25_14 : decode jdk_65_method_133_code 14 = .ok (.aload_n 0, 1) := by decide +kernel
theorem d25_15 : decode jdk_65_method_133_code 15 = .ok (.iload_n 1, 1) := by decide +kernel
theorem d25_16 : decode jdk_65_method_133_code 16 = .ok (.aload 4, 2) := by decide +kernel
theorem d25_18 : decode jdk_65_method_133_code 18 = .ok (.iconst 0, 1) := by decide +kernel
theorem d25_19 : decode jdk_65_method_133_code 19 = .ok (.aload_n 0, 1) := by decide +kernel
theorem d25_20 : decode jdk_65_method_133_code 20 = .ok (.arraylength, 1) := by decide +kernel
theorem d25_21 : decode jdk_65_method_133_code 21 = .ok (.iload_n 1, 1) := by decide +kernel
theorem d25_22 : decode jdk_65_method_133_code 22 = .ok (.isub, 1) := by decide +kernel
theorem d25_23 : decode jdk_65_method_133_code 23 = .ok (.iload_n 3, 1) := by decide +kernel
theorem d25_24 : decode jdk_65_method_133_code 24 = .ok (.invokestatic 304, 3) := by decide +kernel
theorem d25_27 : decode jdk_65_method_133_code 27 = .ok (.invokestatic 150, 3) := by decide +kernel
theorem d25_30 : decode jdk_65_method_133_code 30 = .ok (.aload 4, 2) := by decide +kernel
theorem d25_32 : decode jdk_65_method_133_code 32 = .ok (.areturn, 1) := by decide +kernel
theorem ef_rm_crb (m : MethodId) (x0 : Addr) (x1 : Int32) (x2 : Int32) : entryFrame m #[(.ref x0), (.int x1), (.int x2)] 5 = mkF m 0 #[vr x0, vi x1, vi x2, .unset, .unset] [] := by first | (simp [entryFrame, mkF, argsToLocals, Value.category]; done) | rfl
def Q_rm_crb (Z : State) (a1 : Addr) (p3 : Int32) (k : ClassId) (vs : List Value) (vs2 : List Value) (h0 : Heap) (n0 : Nat) (v : Option Value) (h : Heap) (L : List Loc) : Prop := ∃ b : Addr, ∃ k2 : ClassId, (v = some (.ref b)) ∧ (Fr n0 L) ∧ (Keep h0 h []) ∧ (h0.size ≤ b) ∧ (Arv Z h b k2 .byte p3 vs2 (.int (0 : Int32)))
set_option maxRecDepth 65536 in
set_option maxHeartbeats 40000000 in
theorem rm_crb (l : Launch) (Z : State) (a0 : Array Value) (hw : ∀ d ∈ tables_1, d.before a0 Z = true) (ws : List Jvm.Cond) (a1 : Addr) (p3 : Int32) (k : ClassId) (vs : List Value) (vs2 : List Value) (h0 : Heap) (n0 : Nat) (Z0 : n0 ≤ h0.size) (O0 : Old Z n0 h0) (V_a1 : Arv Z h0 a1 k .byte (16 : Int32) vs (.int (0 : Int32))) (hp0 : ¬ p3 < (0 : Int32)) (hlt : p3 < (16 : Int32)) (h16 : p3.toNatClampNeg ≤ 16) (hv2 : ((List.replicate 16 (.int (0 : Int32))).take (0 : Int32).toNatClampNeg ++ ((List.range p3.toNatClampNeg).map fun i => vs.getD ((0 : Int32).toNatClampNeg + i) (.int (0 : Int32))) ++ (List.replicate 16 (.int (0 : Int32))).drop ((0 : Int32).toNatClampNeg + p3.toNatClampNeg)) = vs2) :
    MetFree l y_21 (head1 (Jvm.Cond.code y_21 jdk_65_method_133_code 5 (some (.array .byte)) :: ws) ({ frames := 1, cells := 1, slots := 16, locals := 18 } : Room)) (fun a U => a = #[(.ref a1), (.int (0 : Int32)), (.int p3)] ∧ Z.Warmed39 U.vm ∧ U.heap = h0) (fun _ _ _ _ _ => True) (fun _ U o U' => ∃ v L, o = .returned v ∧ Q_rm_crb Z a1 p3 k vs vs2 h0 n0 v U'.heap L ∧ FrameEnd U o U' L ({ frames := 1, cells := 1, slots := 16, locals := 18 } : Room).cells ({ frames := 1, cells := 1, slots := 16, locals := 18 } : Room).slots) := by
  refine MetFree.of_bodySF (plainFor_of_name pn_5) hisR ?_
  intro p e s m args below meth c s₁ Bd hml0 hP hK
  obtain ⟨rfl, hZ, hh⟩ := hP
  have hx := Bd.exec
  have hby := Bd.bytes
  have hml : c.maxLocals = 5 := hml0
  have hown : s.vm.findClass "java/util/Arrays" = some m.cls := findClass_of_methodNamed Bd.named
  have hnm := (name_of_methodNamed Bd.named Bd.method).1
  have X0 : Stand p l e ({ frames := 1, cells := 1, slots := 16, locals := 18 } : Room) s m #[(.ref a1), (.int (0 : Int32)), (.int p3)] below meth c s₁ [] 0 0 := Stand.of_body Bd
  have e0 : s₁.heap = h0 := by rw [← hh, Bd.state]; rfl
  have N0 := Fr.nil n0
  have KC : Keep h0 h0 [] := Keep.refl h0 _
  have pre0 : ∀ t, Steps p.tables e below (s₁.setTop (mkF m 0 #[vr a1, vi (0 : Int32), vi p3, un, un] [])) t → Steps p.tables e below (s₁.setTop (entryFrame m #[(.ref a1), (.int (0 : Int32)), (.int p3)] 5)) t := fun t k => castTop (ef_rm_crb m a1 (0 : Int32) p3) k
  obtain ⟨_, _, ⟨T1, L1, kz1, nz1⟩, -, X1, ⟨Lc1, hQ1, l1, y1, z1⟩, st1⟩ := Jvm.LawKit.callS X0 hx (y := y_19) hown (mvT hZ (ww hw 144 rfl)) (mvT hZ (ww hw 145 rfl)) (mvT hZ (ww hw 139 rfl)) (mvT hZ (ww hw 146 rfl)) (by decide) (backOf (W := 0) (rm_ckl l Z a0 hw [] p3 h0 n0 (Nat.le_trans Z0 KC.1) O0 hp0) hZ (ww hw 146 rfl) (ww hw 139 rfl) (by decide) (by decide)) (g := (mkF m 2 #[vr a1, vi (0 : Int32), vi p3, un, un] [(.int p3), (.int (0 : Int32))])) rfl (by rw [hml]; rfl) (argsL := [(.int (0 : Int32)), (.int p3)]) (rest := []) (lenOf pd_2 rfl) rfl (by show 2 * 0 + _ ≤ _; exact Nat.le_of_eq rfl) (hb hby d25_2) (fun _ _ => ⟨rfl, e0, (by decide : 0 + 0 ≤ _), (by decide : 0 + 0 ≤ _)⟩)
  dsimp only [Pt.U, Pt.locs, Pt.cells, Pt.slots] at X1 l1 y1 z1 st1 hQ1
  subst l1 y1 z1
  obtain ⟨rfl, N1q, e1⟩ := hQ1
  have N1 := Fr.app N0 N1q
  have pre2 : ∀ t, Steps p.tables e below (T1.setTop (mkF m 8 #[vr a1, vi (0 : Int32), vi p3, un, un] [(.int (p3 - (0 : Int32)))])) t → Steps p.tables e below (s₁.setTop (entryFrame m #[(.ref a1), (.int (0 : Int32)), (.int p3)] 5)) t := by
    intro t kt
    refine pre0 t ?_
    show SS p e below m s₁ 0 #[vr a1, vi (0 : Int32), vi p3, un, un] [] _
    refine XS.iloadN X0.here hx rfl (hb hby d25_0) rfl ?_
    show SS p e below m s₁ 1 #[vr a1, vi (0 : Int32), vi p3, un, un] [(.int (0 : Int32))] _
    refine XS.iloadN X0.here hx rfl (hb hby d25_1) rfl ?_
    show SS p e below m s₁ 2 #[vr a1, vi (0 : Int32), vi p3, un, un] [(.int p3), (.int (0 : Int32))] _
    refine st1 _ ?_
    show SS p e below m T1 5 #[vr a1, vi (0 : Int32), vi p3, un, un] [] _
    refine XS.iloadN X1.here hx rfl (hb hby d25_5) rfl ?_
    show SS p e below m T1 6 #[vr a1, vi (0 : Int32), vi p3, un, un] [(.int p3)] _
    refine XS.iloadN X1.here hx rfl (hb hby d25_6) rfl ?_
    show SS p e below m T1 7 #[vr a1, vi (0 : Int32), vi p3, un, un] [(.int (0 : Int32)), (.int p3)] _
    refine XS.isub X1.here hx rfl (hb hby d25_7) rfl ?_
    exact kt
  rw [(own_sub0 _)] at pre2
  obtain ⟨T3, h3, k3, X3, e3, E3, A3, st3⟩ := newP X1 hx hZ (ww hw 15 rfl) e1 (g := (mkF m 10 #[vr a1, vi (0 : Int32), vi p3, vi p3, un] [(.int p3)])) rfl (hb hby d25_10) rfl hp0 (cap := 16) h16 (by decide) (by decide) (by decide)
  obtain ⟨b3, g3⟩ : ∃ z, z = h0.size := ⟨_, rfl⟩
  rw [← g3] at A3 st3
  have ne_a1_b3 : a1 ≠ b3 := Nat.ne_of_lt (Nat.lt_of_lt_of_le V_a1.lt (Nat.le_of_eq g3.symm))
  have g_b3 : n0 ≤ b3 := Nat.le_trans (Nat.le_trans Z0 KC.1) (Nat.le_of_eq g3.symm)
  have sz_b3 : h0.size ≤ b3 := Nat.le_trans KC.1 (Nat.le_of_eq g3.symm)
  replace V_a1 := V_a1.ext E3
  replace O0 := O0.ext E3
  replace KC := KC.ext E3
  have V_b3 : Arv Z h3 b3 k3 .byte p3 [] (.int (0 : Int32)) := Arv.new A3 hp0
  have Vo4 := V_a1
  obtain ⟨cl4, Ar4, -, Sz4, Nn4, -, -⟩ := Vo4
  have ia4 := State.isArrayOf_alike hZ.alike Ar4.2.1
  obtain ⟨_, _, ⟨T5, L5, kz5, nz5⟩, -, X5, ⟨Lc5, hQ5, l5, y5, z5⟩, st5⟩ := Jvm.LawKit.callS X3 hx (y := y_20) hown (mvT hZ (ww hw 147 rfl)) (mvT hZ (ww hw 148 rfl)) (mvT hZ (ww hw 149 rfl)) (mvT hZ (ww hw 150 rfl)) (by decide) (backOf (W := 4) (rm_min l Z a0 hw [] (16 : Int32) p3 h3 n0 (Nat.le_trans Z0 KC.1) O0 ) hZ (ww hw 150 rfl) (ww hw 149 rfl) (by decide) (by decide)) (g := (mkF m 24 #[vr a1, vi (0 : Int32), vi p3, vi p3, vr b3] [(.int p3), (.int (16 : Int32)), (.int (0 : Int32)), (.ref b3), (.int (0 : Int32)), (.ref a1)])) rfl (by rw [hml]; rfl) (argsL := [(.int (16 : Int32)), (.int p3)]) (rest := [(.int (0 : Int32)), (.ref b3), (.int (0 : Int32)), (.ref a1)]) (lenOf pd_11 rfl) rfl (by show 2 * 0 + _ ≤ _; exact Nat.le_of_eq rfl) (hb hby d25_24) (fun _ _ => ⟨rfl, e3, (by decide : 1 + 0 ≤ _), (by decide : 16 + 0 ≤ _)⟩)
  dsimp only [Pt.U, Pt.locs, Pt.cells, Pt.slots] at X5 l5 y5 z5 st5 hQ5
  subst l5 y5 z5
  obtain ⟨rfl, N5q, e5⟩ := hQ5
  have N5 := Fr.app N1 N5q
  have pre6 : ∀ t, Steps p.tables e below (T5.setTop (mkF m 27 #[vr a1, vi (0 : Int32), vi p3, vi p3, vr b3] [(.int (if p3 < (16 : Int32) then p3 else (16 : Int32))), (.int (0 : Int32)), (.ref b3), (.int (0 : Int32)), (.ref a1)])) t → Steps p.tables e below (s₁.setTop (entryFrame m #[(.ref a1), (.int (0 : Int32)), (.int p3)] 5)) t := by
    intro t kt
    refine pre2 t ?_
    show SS p e below m T1 8 #[vr a1, vi (0 : Int32), vi p3, un, un] [(.int p3)] _
    refine XS.istoreN X1.here hx rfl (hb hby d25_8) rfl (l' := #[vr a1, vi (0 : Int32), vi p3, vi p3, un]) rfl ?_
    show SS p e below m T1 9 #[vr a1, vi (0 : Int32), vi p3, vi p3, un] [] _
    refine XS.iloadN X1.here hx rfl (hb hby d25_9) rfl ?_
    show SS p e below m T1 10 #[vr a1, vi (0 : Int32), vi p3, vi p3, un] [(.int p3)] _
    refine st3 _ ?_
    show SS p e below m T3 12 #[vr a1, vi (0 : Int32), vi p3, vi p3, un] [(.ref b3)] _
    refine XS.astore X3.here hx rfl (hb hby d25_12) rfl rfl (l' := #[vr a1, vi (0 : Int32), vi p3, vi p3, vr b3]) rfl ?_
    show SS p e below m T3 14 #[vr a1, vi (0 : Int32), vi p3, vi p3, vr b3] [] _
    refine XS.aloadN X3.here hx rfl (hb hby d25_14) rfl rfl ?_
    show SS p e below m T3 15 #[vr a1, vi (0 : Int32), vi p3, vi p3, vr b3] [(.ref a1)] _
    refine XS.iloadN X3.here hx rfl (hb hby d25_15) rfl ?_
    show SS p e below m T3 16 #[vr a1, vi (0 : Int32), vi p3, vi p3, vr b3] [(.int (0 : Int32)), (.ref a1)] _
    refine XS.aload X3.here hx rfl (hb hby d25_16) rfl rfl ?_
    show SS p e below m T3 18 #[vr a1, vi (0 : Int32), vi p3, vi p3, vr b3] [(.ref b3), (.int (0 : Int32)), (.ref a1)] _
    refine XS.iconst X3.here hx rfl (hb hby d25_18) ?_
    show SS p e below m T3 19 #[vr a1, vi (0 : Int32), vi p3, vi p3, vr b3] [(.int (0 : Int32)), (.ref b3), (.int (0 : Int32)), (.ref a1)] _
    refine XS.aloadN X3.here hx rfl (hb hby d25_19) rfl rfl ?_
    show SS p e below m T3 20 #[vr a1, vi (0 : Int32), vi p3, vi p3, vr b3] [(.ref a1), (.int (0 : Int32)), (.ref b3), (.int (0 : Int32)), (.ref a1)] _
    refine X3.arraylength hx (by rw [e3]; exact Ar4.1) ia4 (g := (mkF m 20 #[vr a1, vi (0 : Int32), vi p3, vi p3, vr b3] [(.ref a1), (.int (0 : Int32)), (.ref b3), (.int (0 : Int32)), (.ref a1)])) rfl rfl (hb hby d25_20) _ ?_
    rw [len_of Sz4 Nn4]
    show SS p e below m T3 21 #[vr a1, vi (0 : Int32), vi p3, vi p3, vr b3] [(.int (16 : Int32)), (.int (0 : Int32)), (.ref b3), (.int (0 : Int32)), (.ref a1)] _
    refine XS.iloadN X3.here hx rfl (hb hby d25_21) rfl ?_
    show SS p e below m T3 22 #[vr a1, vi (0 : Int32), vi p3, vi p3, vr b3] [(.int (0 : Int32)), (.int (16 : Int32)), (.int (0 : Int32)), (.ref b3), (.int (0 : Int32)), (.ref a1)] _
    refine XS.isub X3.here hx rfl (hb hby d25_22) rfl ?_
    show SS p e below m T3 23 #[vr a1, vi (0 : Int32), vi p3, vi p3, vr b3] [(.int (16 : Int32)), (.int (0 : Int32)), (.ref b3), (.int (0 : Int32)), (.ref a1)] _
    refine XS.iloadN X3.here hx rfl (hb hby d25_23) rfl ?_
    show SS p e below m T3 24 #[vr a1, vi (0 : Int32), vi p3, vi p3, vr b3] [(.int p3), (.int (16 : Int32)), (.int (0 : Int32)), (.ref b3), (.int (0 : Int32)), (.ref a1)] _
    refine st5 _ ?_
    exact kt
  rw [(if_pos hlt)] at pre6
  have Vp : Arv Z h3 b3 k3 .byte p3 (List.replicate 16 (.int (0 : Int32))) (.int (0 : Int32)) := V_b3.pad (pad_rep [] (.int (0 : Int32)) 16)
  obtain ⟨T7, h7, L7, X7, e7, N7, K7, Vq7, st7⟩ := cpA X5 hx hZ hown (ww hw 151 rfl) (ww hw 105 rfl) (ww hw 103 rfl) (ww hw 104 rfl) e5 V_a1 Vp (us := (List.range p3.toNatClampNeg).map fun i => vs.getD ((0 : Int32).toNatClampNeg + i) (.int (0 : Int32))) (Or.inl ⟨rfl, rfl⟩) (by decide) (by decide) hp0 (by show 0 + _ ≤ 16; omega) (by show 0 + _ ≤ _; omega) rfl (by simp only [List.length_replicate]; show 0 + _ ≤ _; omega) N5 g_b3 (g := (mkF m 27 #[vr a1, vi (0 : Int32), vi p3, vi p3, vr b3] [(.int p3), (.int (0 : Int32)), (.ref b3), (.int (0 : Int32)), (.ref a1)])) rfl (by rw [hml]; rfl) rfl (hb hby d25_27) (by decide) (W := 0) (by show 2 * 0 + _ ≤ _; exact Nat.le_of_eq rfl) (by decide)
  replace V_a1 := V_a1.keep K7 (ninS ne_a1_b3 nin0)
  replace O0 := O0.keep K7 (allS g_b3 all0)
  replace KC := KC.trans K7 (allS (Or.inr sz_b3) all0)
  rw [hv2] at Vq7
  obtain ⟨fs, hr, hrun, hended, hW, hsame⟩ := X7.leave (v := some (.ref b3)) (fun h => by rw [Bd.returns] at h; cases h)
  refine ⟨_, _, pre6 _ ?_, hrun, hended, _, _, rfl, ?_, ⟨_, rfl⟩, hW, hsame.mono (by decide) (by decide)⟩
  · show SS p e below m T5 27 #[vr a1, vi (0 : Int32), vi p3, vi p3, vr b3] [(.int p3), (.int (0 : Int32)), (.ref b3), (.int (0 : Int32)), (.ref a1)] _
    refine st7 _ ?_
    show SS p e below m T7 30 #[vr a1, vi (0 : Int32), vi p3, vi p3, vr b3] [] _
    refine XS.aload X7.here hx rfl (hb hby d25_30) rfl rfl ?_
    show SS p e below m T7 32 #[vr a1, vi (0 : Int32), vi p3, vi p3, vr b3] [(.ref b3)] _
    jvm_step X7.here [X7.here.top, hx, (hb hby d25_32), X7.method', Bd.returns, Value.isRef, FieldType.isReference]
    first | (intro acts; rw [hr _ acts rfl rfl rfl]) | rw [hr _ _ rfl rfl rfl]
    exact Steps.refl _
  · show Q_rm_crb Z a1 p3 k vs vs2 h0 n0 _ T7.heap _
    rw [e7]
    exact ⟨b3, k3, rfl, N7, KC, sz_b3, Vq7⟩
theorem pd_12 : parseMethodDescriptor "([BII)[B" = some ⟨[(.array .byte), .int, .int], some (.array .byte)⟩ := by decide +kernel
theorem d24_0 : decode jdk_65_method_132_code 0 = .ok (.iload_n 1, 1) := by decide +kernel
theorem d24_1 : decode jdk_65_method_132_code 1 = .ok (.ifCond .ne 9, 3) := by decide +kernel
theorem d24_4 : decode jdk_65_method_132_code 4 = .ok (.iload_n 2, 1) := by decide +kernel
theorem d24_5 : decode jdk_65_method_132_code 5 = .ok (.aload_n 0, 1) := by decide +kernel
theorem d24_6 : decode jdk_65_method_132_code 6 = .ok (.arraylength, 1) := by decide +kernel
theorem d24_7 : decode jdk_65_method_132_code 7 = .ok (.if_icmp .eq 10, 3) := by decide +kernel
theorem d24_10 : decode jdk_65_method_132_code 10 = .ok (.aload_n 0, 1) := by decide +kernel
theorem d24_11 : decode jdk_65_method_132_code 11 = .ok (.iload_n 1, 1) := by decide +kernel
theorem d24_12 : decode jdk_65_method_132_code 12 = .ok (.iload_n 2, 1) := by decide +kernel
theorem d24_13 : decode jdk_65_method_132_code 13 = .ok (.invokestatic 339, 3) := by decide +kernel
theorem d24_16 : decode jdk_65_method_132_code 16 = .ok (.areturn, 1) := by decide +kernel
theorem ef_rm_cor (m : MethodId) (x0 : Addr) (x1 : Int32) (x2 : Int32) : entryFrame m #[(.ref x0), (.int x1), (.int x2)] 3 = mkF m 0 #[vr x0, vi x1, vi x2] [] := by first | (simp [entryFrame, mkF, argsToLocals, Value.category]; done) | rfl
def Q_rm_cor (Z : State) (a1 : Addr) (p3 : Int32) (k : ClassId) (vs : List Value) (vs2 : List Value) (h0 : Heap) (n0 : Nat) (v : Option Value) (h : Heap) (L : List Loc) : Prop := ∃ b : Addr, ∃ k2 : ClassId, (v = some (.ref b)) ∧ (Fr n0 L) ∧ (Keep h0 h []) ∧ (h0.size ≤ b) ∧ (Arv Z h b k2 .byte p3 vs2 (.int (0 : Int32)))
set_option maxRecDepth 65536 in
set_option maxHeartbeats 40000000 in
theorem rm_cor (l : Launch) (Z : State) (a0 : Array Value) (hw : ∀ d ∈ tables_1, d.before a0 Z = true) (ws : List Jvm.Cond) (a1 : Addr) (p3 : Int32) (k : ClassId) (vs : List Value) (vs2 : List Value) (h0 : Heap) (n0 : Nat) (Z0 : n0 ≤ h0.size) (O0 : Old Z n0 h0) (V_a1 : Arv Z h0 a1 k .byte (16 : Int32) vs (.int (0 : Int32))) (hp0 : ¬ p3 < (0 : Int32)) (hlt : p3 < (16 : Int32)) (h16 : p3.toNatClampNeg ≤ 16) (hv2 : ((List.replicate 16 (.int (0 : Int32))).take (0 : Int32).toNatClampNeg ++ ((List.range p3.toNatClampNeg).map fun i => vs.getD ((0 : Int32).toNatClampNeg + i) (.int (0 : Int32))) ++ (List.replicate 16 (.int (0 : Int32))).drop ((0 : Int32).toNatClampNeg + p3.toNatClampNeg)) = vs2) :
    MetFree l y_22 (head1 (Jvm.Cond.code y_22 jdk_65_method_132_code 3 (some (.array .byte)) :: ws) ({ frames := 2, cells := 1, slots := 16, locals := 34 } : Room)) (fun a U => a = #[(.ref a1), (.int (0 : Int32)), (.int p3)] ∧ Z.Warmed39 U.vm ∧ U.heap = h0) (fun _ _ _ _ _ => True) (fun _ U o U' => ∃ v L, o = .returned v ∧ Q_rm_cor Z a1 p3 k vs vs2 h0 n0 v U'.heap L ∧ FrameEnd U o U' L ({ frames := 2, cells := 1, slots := 16, locals := 34 } : Room).cells ({ frames := 2, cells := 1, slots := 16, locals := 34 } : Room).slots) := by
  refine MetFree.of_bodySF (plainFor_of_name pn_5) hisR ?_
  intro p e s m args below meth c s₁ Bd hml0 hP hK
  obtain ⟨rfl, hZ, hh⟩ := hP
  have hx := Bd.exec
  have hby := Bd.bytes
  have hml : c.maxLocals = 3 := hml0
  have hown : s.vm.findClass "java/util/Arrays" = some m.cls := findClass_of_methodNamed Bd.named
  have hnm := (name_of_methodNamed Bd.named Bd.method).1
  have X0 : Stand p l e ({ frames := 2, cells := 1, slots := 16, locals := 34 } : Room) s m #[(.ref a1), (.int (0 : Int32)), (.int p3)] below meth c s₁ [] 0 0 := Stand.of_body Bd
  have e0 : s₁.heap = h0 := by rw [← hh, Bd.state]; rfl
  have N0 := Fr.nil n0
  have KC : Keep h0 h0 [] := Keep.refl h0 _
  have pre0 : ∀ t, Steps p.tables e below (s₁.setTop (mkF m 0 #[vr a1, vi (0 : Int32), vi p3] [])) t → Steps p.tables e below (s₁.setTop (entryFrame m #[(.ref a1), (.int (0 : Int32)), (.int p3)] 3)) t := fun t k => castTop (ef_rm_cor m a1 (0 : Int32) p3) k
  have Vo1 := V_a1
  obtain ⟨cl1, Ar1, -, Sz1, Nn1, -, -⟩ := Vo1
  have ia1 := State.isArrayOf_alike hZ.alike Ar1.2.1
  obtain ⟨_, _, ⟨T2, L2, kz2, nz2⟩, -, X2, ⟨Lc2, hQ2, l2, y2, z2⟩, st2⟩ := Jvm.LawKit.callS X0 hx (y := y_21) hown (mvT hZ (ww hw 141 rfl)) (mvT hZ (ww hw 142 rfl)) (mvT hZ (ww hw 139 rfl)) (mvT hZ (ww hw 143 rfl)) (by decide) (backOf (W := 0) (rm_crb l Z a0 hw [] a1 p3 k vs vs2 h0 n0 (Nat.le_trans Z0 KC.1) O0 V_a1 hp0 hlt h16 hv2) hZ (ww hw 143 rfl) (ww hw 139 rfl) (by decide) (by decide)) (g := (mkF m 13 #[vr a1, vi (0 : Int32), vi p3] [(.int p3), (.int (0 : Int32)), (.ref a1)])) rfl (by rw [hml]; rfl) (argsL := [(.ref a1), (.int (0 : Int32)), (.int p3)]) (rest := []) (lenOf pd_12 rfl) rfl (by show 2 * 0 + _ ≤ _; exact Nat.le_of_eq rfl) (hb hby d24_13) (fun _ _ => ⟨rfl, e0, (by decide : 0 + 1 ≤ _), (by decide : 0 + 16 ≤ _)⟩)
  dsimp only [Pt.U, Pt.locs, Pt.cells, Pt.slots] at X2 l2 y2 z2 st2 hQ2
  subst l2 y2 z2
  obtain ⟨b2_b, k2_2, rfl, N2q, K2, sz_b2_b, V_b_2⟩ := hQ2
  have N2 := Fr.app N0 N2q
  have ne_a1_b2_b : a1 ≠ b2_b := Nat.ne_of_lt (Nat.lt_of_lt_of_le V_a1.lt sz_b2_b)
  have g_b2_b : n0 ≤ b2_b := Nat.le_trans (Nat.le_trans Z0 KC.1) sz_b2_b
  replace sz_b2_b : h0.size ≤ b2_b := Nat.le_trans KC.1 sz_b2_b
  replace V_a1 := V_a1.keep K2 nin0
  replace O0 := O0.keep K2 all0
  replace KC := KC.trans K2 all0
  obtain ⟨fs, hr, hrun, hended, hW, hsame⟩ := X2.leave (v := some (.ref b2_b)) (fun h => by rw [Bd.returns] at h; cases h)
  refine ⟨_, _, pre0 _ ?_, hrun, hended, _, _, rfl, ?_, ⟨_, rfl⟩, hW, hsame.mono (by decide) (by decide)⟩
  · show SS p e below m s₁ 0 #[vr a1, vi (0 : Int32), vi p3] [] _
    refine XS.iloadN X0.here hx rfl (hb hby d24_0) rfl ?_
    show SS p e below m s₁ 1 #[vr a1, vi (0 : Int32), vi p3] [(.int (0 : Int32))] _
    refine XS.ifNo X0.here hx rfl (hb hby d24_1) rfl ((if0 _ _).trans (teq (by decide)).2) ?_
    show SS p e below m s₁ 4 #[vr a1, vi (0 : Int32), vi p3] [] _
    refine XS.iloadN X0.here hx rfl (hb hby d24_4) rfl ?_
    show SS p e below m s₁ 5 #[vr a1, vi (0 : Int32), vi p3] [(.int p3)] _
    refine XS.aloadN X0.here hx rfl (hb hby d24_5) rfl rfl ?_
    show SS p e below m s₁ 6 #[vr a1, vi (0 : Int32), vi p3] [(.ref a1), (.int p3)] _
    refine X0.arraylength hx (by rw [e0]; exact Ar1.1) ia1 (g := (mkF m 6 #[vr a1, vi (0 : Int32), vi p3] [(.ref a1), (.int p3)])) rfl rfl (hb hby d24_6) _ ?_
    rw [len_of Sz1 Nn1]
    show SS p e below m s₁ 7 #[vr a1, vi (0 : Int32), vi p3] [(.int (16 : Int32)), (.int p3)] _
    refine XS.icmpNo X0.here hx rfl (hb hby d24_7) rfl (feq (own_lne hlt)).1 ?_
    show SS p e below m s₁ 10 #[vr a1, vi (0 : Int32), vi p3] [] _
    refine XS.aloadN X0.here hx rfl (hb hby d24_10) rfl rfl ?_
    show SS p e below m s₁ 11 #[vr a1, vi (0 : Int32), vi p3] [(.ref a1)] _
    refine XS.iloadN X0.here hx rfl (hb hby d24_11) rfl ?_
    show SS p e below m s₁ 12 #[vr a1, vi (0 : Int32), vi p3] [(.int (0 : Int32)), (.ref a1)] _
    refine XS.iloadN X0.here hx rfl (hb hby d24_12) rfl ?_
    show SS p e below m s₁ 13 #[vr a1, vi (0 : Int32), vi p3] [(.int p3), (.int (0 : Int32)), (.ref a1)] _
    refine st2 _ ?_
    show SS p e below m T2 16 #[vr a1, vi (0 : Int32), vi p3] [(.ref b2_b)] _
    jvm_step X2.here [X2.here.top, hx, (hb hby d24_16), X2.method', Bd.returns, Value.isRef, FieldType.isReference]
    first | (intro acts; rw [hr _ acts rfl rfl rfl]) | rw [hr _ _ rfl rfl rfl]
    exact Steps.refl _
  · show Q_rm_cor Z a1 p3 k vs vs2 h0 n0 _ T2.heap _
    exact ⟨b2_b, k2_2, rfl, N2, KC, sz_b2_b, V_b_2⟩
theorem pd_13 : parseMethodDescriptor "()[B" = some ⟨[], some (.array .byte)⟩ := by decide +kernel
theorem d19_0 : decode jdk_42_method_150_code 0 = .ok (.aload_n 0, 1) := by decide +kernel
theorem d19_1 : decode jdk_42_method_150_code 1 = .ok (.invokespecial 1, 3) := by decide +kernel
theorem d19_4 : decode jdk_42_method_150_code 4 = .ok (.aload_n 1, 1) := by decide +kernel
theorem d19_5 : decode jdk_42_method_150_code 5 = .ok (.invokevirtual 552, 3) := by decide +kernel
theorem d19_8 : decode jdk_42_method_150_code 8 = .ok (.astore_n 3, 1) := by decide +kernel
theorem d19_9 : decode jdk_42_method_150_code 9 = .ok (.aload_n 1, 1) := by decide +kernel
theorem d19_10 : decode jdk_42_method_150_code 10 = .ok (.invokevirtual 549, 3) := by decide +kernel
theorem d19_13 : decode jdk_42_method_150_code 13 = .ok (.istore 4, 2) := by decide +kernel
theorem d19_15 : decode jdk_42_method_150_code 15 = .ok (.aload_n 1, 1) := by decide +kernel
theorem d19_16 : decode jdk_42_method_150_code 16 = .ok (.invokevirtual 1047, 3) := by decide +kernel
theorem d19_19 : decode jdk_42_method_150_code 19 = .ok (.ifCond .eq 22, 3) := by decide +kernel
theorem d19_22 : decode jdk_42_method_150_code 22 = .ok (.aload_n 0, 1) := by decide +kernel
theorem d19_23 : decode jdk_42_method_150_code 23 = .ok (.iconst 0, 1) := by decide +kernel
theorem d19_24 : decode jdk_42_method_150_code 24 = .ok (.putfield 15, 3) := by decide +kernel
theorem d19_27 : decode jdk_42_method_150_code 27 = .ok (.aload_n 0, 1) := by decide +kernel
theorem d19_28 : decode jdk_42_method_150_code 28 = .ok (.aload_n 3, 1) := by decide +kernel
theorem d19_29 : decode jdk_42_method_150_code 29 = .ok (.iconst 0, 1) := by decide +kernel
theorem d19_30 : decode jdk_42_method_150_code 30 = .ok (.iload 4, 2) := by decide +kernel
theorem d19_32 : decode jdk_42_method_150_code 32 = .ok (.invokestatic 54, 3) := by decide +kernel
theorem d19_35 : decode jdk_42_method_150_code 35 = .ok (.putfield 9, 3) := by decide +kernel
theorem d19_38 : decode jdk_42_method_150_code 38 = .ok (.goto 59, 3) := by decide +kernel
theorem d19_97 : decode jdk_42_method_150_code 97 = .ok (.return_, 1) := by decide +kernel
theorem ef_rm_sib (m : MethodId) (x0 : Addr) (x1 : Addr) : entryFrame m #[(.ref x0), (.ref x1), .null] 5 = mkF m 0 #[vr x0, vr x1, vN, .unset, .unset] [] := by first | (simp [entryFrame, mkF, argsToLocals, Value.category]; done) | rfl
def Q_rm_sib (Z : State) (a1 : Addr) (a2 : Addr) (tb : Addr) (c0 : Int32) (k : ClassId) (vs : List Value) (vs2 : List Value) (zc : Int32) (h0 : Heap) (n0 : Nat) (v : Option Value) (h : Heap) (L : List Loc) : Prop := ∃ b : Addr, ∃ k2 : ClassId, (v = none) ∧ (Fr n0 L) ∧ (Keep h0 h [a1]) ∧ (h0.size ≤ b) ∧ (Fld Z h a1 "java/lang/String" "value" "[B" (.ref b)) ∧ (Fld Z h a1 "java/lang/String" "coder" "B" (.int (0 : Int32))) ∧ (Arv Z h b k2 .byte c0 vs2 (.int (0 : Int32)))
set_option maxRecDepth 65536 in
set_option maxHeartbeats 40000000 in
theorem rm_sib (l : Launch) (Z : State) (a0 : Array Value) (hw : ∀ d ∈ tables_1, d.before a0 Z = true) (ws : List Jvm.Cond) (a1 : Addr) (a2 : Addr) (tb : Addr) (c0 : Int32) (k : ClassId) (vs : List Value) (vs2 : List Value) (zc : Int32) (h0 : Heap) (n0 : Nat) (Z0 : n0 ≤ h0.size) (O0 : Old Z n0 h0) (F_value_a1 : Fld Z h0 a1 "java/lang/String" "value" "[B" .null) (F_coder_a1 : Fld Z h0 a1 "java/lang/String" "coder" "B" (.int (0 : Int32))) (E_a1 : Exa Z h0 a1 "java/lang/String") (g_a1 : n0 ≤ a1) (F_value_a2 : Fld Z h0 a2 "java/lang/AbstractStringBuilder" "value" "[B" (.ref tb)) (F_coder_a2 : Fld Z h0 a2 "java/lang/AbstractStringBuilder" "coder" "B" (.int (0 : Int32))) (F_count_a2 : Fld Z h0 a2 "java/lang/AbstractStringBuilder" "count" "I" (.int c0)) (E_a2 : Exa Z h0 a2 "java/lang/StringBuilder") (V_tb : Arv Z h0 tb k .byte (16 : Int32) vs (.int (0 : Int32))) (ne_tb : tb ≠ a1) (ne_a2 : a2 ≠ a1) (S_CS : Sta Z Z.heap "java/lang/String" "COMPACT_STRINGS" "Z" (.int zc)) (hz : ¬ zc = (0 : Int32)) (hp0 : ¬ c0 < (0 : Int32)) (hlt : c0 < (16 : Int32)) (h16 : c0.toNatClampNeg ≤ 16) (hv2 : ((List.replicate 16 (.int (0 : Int32))).take (0 : Int32).toNatClampNeg ++ ((List.range c0.toNatClampNeg).map fun i => vs.getD ((0 : Int32).toNatClampNeg + i) (.int (0 : Int32))) ++ (List.replicate 16 (.int (0 : Int32))).drop ((0 : Int32).toNatClampNeg + c0.toNatClampNeg)) = vs2) :
    MetFree l y_23 (head1 (Jvm.Cond.code y_23 jdk_42_method_150_code 5 none :: ws) ({ frames := 3, cells := 1, slots := 16, locals := 49 } : Room)) (fun a U => a = #[(.ref a1), (.ref a2), .null] ∧ Z.Warmed39 U.vm ∧ U.heap = h0) (fun _ _ _ _ _ => True) (fun _ U o U' => ∃ v L, o = .returned v ∧ Q_rm_sib Z a1 a2 tb c0 k vs vs2 zc h0 n0 v U'.heap L ∧ FrameEnd U o U' L ({ frames := 3, cells := 1, slots := 16, locals := 49 } : Room).cells ({ frames := 3, cells := 1, slots := 16, locals := 49 } : Room).slots) := by
  refine MetFree.of_bodySF (plainFor_of_name pn_0) hisR ?_
  intro p e s m args below meth c s₁ Bd hml0 hP hK
  obtain ⟨rfl, hZ, hh⟩ := hP
  have hx := Bd.exec
  have hby := Bd.bytes
  have hml : c.maxLocals = 5 := hml0
  have hown : s.vm.findClass "java/lang/String" = some m.cls := findClass_of_methodNamed Bd.named
  have hnm := (name_of_methodNamed Bd.named Bd.method).1
  have X0 : Stand p l e ({ frames := 3, cells := 1, slots := 16, locals := 49 } : Room) s m #[(.ref a1), (.ref a2), .null] below meth c s₁ [] 0 0 := Stand.of_body Bd
  have e0 : s₁.heap = h0 := by rw [← hh, Bd.state]; rfl
  have N0 := Fr.nil n0
  have KC : Keep h0 h0 [a1] := Keep.refl h0 _
  have pre0 : ∀ t, Steps p.tables e below (s₁.setTop (mkF m 0 #[vr a1, vr a2, vN, un, un] [])) t → Steps p.tables e below (s₁.setTop (entryFrame m #[(.ref a1), (.ref a2), .null] 5)) t := fun t k => castTop (ef_rm_sib m a1 a2) k
  obtain ⟨T1, X1, e1, st1⟩ := initO X0 hx hZ hown (ww hw 11 rfl) (ww hw 12 rfl) (ww hw 13 rfl) e0 (g := (mkF m 1 #[vr a1, vr a2, vN, un, un] [(.ref a1)])) rfl (by rw [hml]; rfl) rfl (hb hby d19_1) (by decide) (W := 0) (by show 2 * 0 + _ ≤ _; exact Nat.le_of_eq rfl) (by decide)
  obtain ⟨cq2, kq2, q2a, q2b, q2c⟩ := isOf hZ e1 E_a2
  obtain ⟨_, _, ⟨T2, L2, kz2, nz2⟩, -, X2, ⟨Lc2, hQ2, l2, y2, z2⟩, st2⟩ := X1.virtualBack hx (y := y_7) (z := y_7) hown (mvT hZ (ww hw 119 rfl)) (mvT hZ (ww hw 120 rfl)) (notFace_of_selects (args := #[]) (mvT hZ (ww hw 122 rfl))) (mvT hZ (ww hw 122 rfl)) (mvT hZ (ww hw 121 rfl)) (by decide) (backOf (W := 0) (rm_gv l Z a0 hw [] a2 tb h0 n0 (Nat.le_trans Z0 KC.1) O0 F_value_a2) hZ (ww hw 123 rfl) (ww hw 60 rfl) (by decide) (by decide)) q2a q2c (g := (mkF m 5 #[vr a1, vr a2, vN, un, un] [(.ref a2)])) rfl (by rw [hml]; rfl) (Steps.refl _) (argsL := []) (rest := []) (lenOf pd_13 rfl) rfl (by show 2 * 0 + _ ≤ _; exact Nat.le_of_eq rfl) (hb hby d19_5) (fun _ _ => ⟨rfl, e1, (by decide : 0 + 0 ≤ _), (by decide : 0 + 0 ≤ _)⟩)
  dsimp only [Pt.U, Pt.locs, Pt.cells, Pt.slots] at X2 l2 y2 z2 st2 hQ2
  subst l2 y2 z2
  obtain ⟨rfl, N2q, e2⟩ := hQ2
  have N2 := Fr.app N0 N2q
  obtain ⟨cq3, kq3, q3a, q3b, q3c⟩ := isOf hZ e2 E_a2
  obtain ⟨_, _, ⟨T3, L3, kz3, nz3⟩, -, X3, ⟨Lc3, hQ3, l3, y3, z3⟩, st3⟩ := X2.virtualBack hx (y := y_16) (z := y_17) hown (mvT hZ (ww hw 124 rfl)) (mvT hZ (ww hw 125 rfl)) (own_nf (args := #[]) (y2 := y_7) (mvT hZ (ww hw 122 rfl)) (mvT hZ (ww hw 121 rfl)) rfl) (mvT hZ (ww hw 127 rfl)) (mvT hZ (ww hw 128 rfl)) (by decide) (backOf (W := 0) (rm_sbl l Z a0 hw [] a2 c0 h0 n0 (Nat.le_trans Z0 KC.1) O0 F_count_a2 E_a2) hZ (ww hw 129 rfl) (ww hw 52 rfl) (by decide) (by decide)) q3a q3c (g := (mkF m 10 #[vr a1, vr a2, vN, vr tb, un] [(.ref a2)])) rfl (by rw [hml]; rfl) (Steps.refl _) (argsL := []) (rest := []) (lenOf pd_8 rfl) rfl (by show 2 * 0 + _ ≤ _; exact Nat.le_of_eq rfl) (hb hby d19_10) (fun _ _ => ⟨rfl, e2, (by decide : 0 + 0 ≤ _), (by decide : 0 + 0 ≤ _)⟩)
  dsimp only [Pt.U, Pt.locs, Pt.cells, Pt.slots] at X3 l3 y3 z3 st3 hQ3
  subst l3 y3 z3
  obtain ⟨rfl, N3q, e3⟩ := hQ3
  have N3 := Fr.app N2 N3q
  obtain ⟨cq4, kq4, q4a, q4b, q4c⟩ := isOf hZ e3 E_a2
  obtain ⟨_, _, ⟨T4, L4, kz4, nz4⟩, -, X4, ⟨Lc4, hQ4, l4, y4, z4⟩, st4⟩ := X3.virtualBack hx (y := y_18) (z := y_18) hown (mvT hZ (ww hw 132 rfl)) (mvT hZ (ww hw 133 rfl)) (notFace_of_selects (args := #[]) (mvT hZ (ww hw 135 rfl))) (mvT hZ (ww hw 135 rfl)) (mvT hZ (ww hw 134 rfl)) (by decide) (backOf (W := 0) (rm_abL l Z a0 hw [] a2 zc h0 n0 (Nat.le_trans Z0 KC.1) O0 F_coder_a2 S_CS hz) hZ (ww hw 136 rfl) (ww hw 60 rfl) (by decide) (by decide)) q4a q4c (g := (mkF m 16 #[vr a1, vr a2, vN, vr tb, vi c0] [(.ref a2)])) rfl (by rw [hml]; rfl) (Steps.refl _) (argsL := []) (rest := []) (lenOf pd_3 rfl) rfl (by show 2 * 0 + _ ≤ _; exact Nat.le_of_eq rfl) (hb hby d19_16) (fun _ _ => ⟨rfl, e3, (by decide : 0 + 0 ≤ _), (by decide : 0 + 0 ≤ _)⟩)
  dsimp only [Pt.U, Pt.locs, Pt.cells, Pt.slots] at X4 l4 y4 z4 st4 hQ4
  subst l4 y4 z4
  obtain ⟨rfl, N4q, e4⟩ := hQ4
  have N4 := Fr.app N3 N4q
  obtain ⟨T5, h5, X5, e5, W5, st5⟩ := putFN X4 hx hZ hown (ww hw 21 rfl) Via.refl e4 F_coder_a1 E_a1 (Or.inr ⟨(ww hw 17 rfl), rfl, hnm⟩) (ww hw 2 rfl) (ty := .byte) (v' := .int (0 : Int32)) (by decide) rfl rfl (g := (mkF m 24 #[vr a1, vr a2, vN, vr tb, vi c0] [(.int (0 : Int32)), (.ref a1)])) rfl rfl (hb hby d19_24)
  have N5 := Fr.snoc X5 N4 g_a1
  replace F_coder_a1 := F_coder_a1.same W5
  replace F_value_a1 := F_value_a1.other W5 (Or.inr (slot_ne (Or.inr (ww hw 16 rfl)) (Or.inr (ww hw 17 rfl)) (by decide) (t := (.array .byte)) (t' := .byte) (by decide) (by decide)))
  replace E_a1 := E_a1.wr W5
  replace F_value_a2 := F_value_a2.other W5 (Or.inl ne_a2)
  replace F_coder_a2 := F_coder_a2.other W5 (Or.inl ne_a2)
  replace F_count_a2 := F_count_a2.other W5 (Or.inl ne_a2)
  replace E_a2 := E_a2.wr W5
  replace V_tb := V_tb.other W5 ne_tb
  replace O0 := O0.wr W5 g_a1
  replace KC := KC.wr W5 (Or.inl (List.mem_of_getElem? (i := 0) rfl))
  obtain ⟨_, _, ⟨T6, L6, kz6, nz6⟩, -, X6, ⟨Lc6, hQ6, l6, y6, z6⟩, st6⟩ := Jvm.LawKit.callS X5 hx (y := y_22) hown (mvT hZ (ww hw 137 rfl)) (mvT hZ (ww hw 138 rfl)) (mvT hZ (ww hw 139 rfl)) (mvT hZ (ww hw 140 rfl)) (by decide) (backOf (W := 1) (rm_cor l Z a0 hw [] tb c0 k vs vs2 h5 n0 (Nat.le_trans Z0 KC.1) O0 V_tb hp0 hlt h16 hv2) hZ (ww hw 140 rfl) (ww hw 139 rfl) (by decide) (by decide)) (g := (mkF m 32 #[vr a1, vr a2, vN, vr tb, vi c0] [(.int c0), (.int (0 : Int32)), (.ref tb), (.ref a1)])) rfl (by rw [hml]; rfl) (argsL := [(.ref tb), (.int (0 : Int32)), (.int c0)]) (rest := [(.ref a1)]) (lenOf pd_12 rfl) rfl (by show 2 * 0 + _ ≤ _; exact Nat.le_of_eq rfl) (hb hby d19_32) (fun _ _ => ⟨rfl, e5, (by decide : 0 + 1 ≤ _), (by decide : 0 + 16 ≤ _)⟩)
  dsimp only [Pt.U, Pt.locs, Pt.cells, Pt.slots] at X6 l6 y6 z6 st6 hQ6
  subst l6 y6 z6
  obtain ⟨b6_b, k2_6, rfl, N6q, K6, sz_b6_b, V_b_6⟩ := hQ6
  have N6 := Fr.app N5 N6q
  have ne_a1_b6_b : a1 ≠ b6_b := Nat.ne_of_lt (Nat.lt_of_lt_of_le F_value_a1.lt sz_b6_b)
  have ne_a2_b6_b : a2 ≠ b6_b := Nat.ne_of_lt (Nat.lt_of_lt_of_le F_value_a2.lt sz_b6_b)
  have ne_tb_b6_b : tb ≠ b6_b := Nat.ne_of_lt (Nat.lt_of_lt_of_le V_tb.lt sz_b6_b)
  have g_b6_b : n0 ≤ b6_b := Nat.le_trans (Nat.le_trans Z0 KC.1) sz_b6_b
  replace sz_b6_b : h0.size ≤ b6_b := Nat.le_trans KC.1 sz_b6_b
  replace F_value_a1 := F_value_a1.keep K6 nin0
  replace F_coder_a1 := F_coder_a1.keep K6 nin0
  replace E_a1 := E_a1.keep K6
  replace F_value_a2 := F_value_a2.keep K6 nin0
  replace F_coder_a2 := F_coder_a2.keep K6 nin0
  replace F_count_a2 := F_count_a2.keep K6 nin0
  replace E_a2 := E_a2.keep K6
  replace V_tb := V_tb.keep K6 nin0
  replace O0 := O0.keep K6 all0
  replace KC := KC.trans K6 all0
  obtain ⟨T7, h7, X7, e7, W7, st7⟩ := putF X6 hx hZ hown (host := "") (Or.inl (ww hw 20 rfl)) Via.refl rfl F_value_a1 E_a1 (Or.inr ⟨(ww hw 16 rfl), rfl, hnm⟩) (ww hw 2 rfl) (ty := (.array .byte)) (by decide) rfl rfl (g := (mkF m 35 #[vr a1, vr a2, vN, vr tb, vi c0] [(.ref b6_b), (.ref a1)])) rfl rfl (hb hby d19_35)
  have N7 := Fr.snoc X7 N6 g_a1
  replace F_value_a1 := F_value_a1.same W7
  replace F_coder_a1 := F_coder_a1.other W7 (Or.inr (slot_ne (Or.inr (ww hw 17 rfl)) (Or.inr (ww hw 16 rfl)) (by decide) (t := .byte) (t' := (.array .byte)) (by decide) (by decide)))
  replace E_a1 := E_a1.wr W7
  replace F_value_a2 := F_value_a2.other W7 (Or.inl ne_a2)
  replace F_coder_a2 := F_coder_a2.other W7 (Or.inl ne_a2)
  replace F_count_a2 := F_count_a2.other W7 (Or.inl ne_a2)
  replace E_a2 := E_a2.wr W7
  replace V_tb := V_tb.other W7 ne_tb
  replace V_b_6 := V_b_6.other W7 (Ne.symm ne_a1_b6_b)
  replace O0 := O0.wr W7 g_a1
  replace KC := KC.wr W7 (Or.inl (List.mem_of_getElem? (i := 0) rfl))
  obtain ⟨fs, hr, hrun, hended, hW, hsame⟩ := X7.leave (v := none) (fun _ => rfl)
  refine ⟨_, _, pre0 _ ?_, hrun, hended, _, _, rfl, ?_, ⟨_, rfl⟩, hW, hsame.mono (by decide) (by decide)⟩
  · show SS p e below m s₁ 0 #[vr a1, vr a2, vN, un, un] [] _
    refine XS.aloadN X0.here hx rfl (hb hby d19_0) rfl rfl ?_
    show SS p e below m s₁ 1 #[vr a1, vr a2, vN, un, un] [(.ref a1)] _
    refine st1 _ ?_
    show SS p e below m T1 4 #[vr a1, vr a2, vN, un, un] [] _
    refine XS.aloadN X1.here hx rfl (hb hby d19_4) rfl rfl ?_
    show SS p e below m T1 5 #[vr a1, vr a2, vN, un, un] [(.ref a2)] _
    refine st2.trans ?_
    show SS p e below m T2 8 #[vr a1, vr a2, vN, un, un] [(.ref tb)] _
    refine XS.astoreN X2.here hx rfl (hb hby d19_8) rfl rfl (l' := #[vr a1, vr a2, vN, vr tb, un]) rfl ?_
    show SS p e below m T2 9 #[vr a1, vr a2, vN, vr tb, un] [] _
    refine XS.aloadN X2.here hx rfl (hb hby d19_9) rfl rfl ?_
    show SS p e below m T2 10 #[vr a1, vr a2, vN, vr tb, un] [(.ref a2)] _
    refine st3.trans ?_
    show SS p e below m T3 13 #[vr a1, vr a2, vN, vr tb, un] [(.int c0)] _
    refine XS.istore X3.here hx rfl (hb hby d19_13) rfl (l' := #[vr a1, vr a2, vN, vr tb, vi c0]) rfl ?_
    show SS p e below m T3 15 #[vr a1, vr a2, vN, vr tb, vi c0] [] _
    refine XS.aloadN X3.here hx rfl (hb hby d19_15) rfl rfl ?_
    show SS p e below m T3 16 #[vr a1, vr a2, vN, vr tb, vi c0] [(.ref a2)] _
    refine st4.trans ?_
    show SS p e below m T4 19 #[vr a1, vr a2, vN, vr tb, vi c0] [(.int (1 : Int32))] _
    refine XS.ifNo X4.here hx rfl (hb hby d19_19) rfl ((if0 _ _).trans (feq (by decide)).1) ?_
    show SS p e below m T4 22 #[vr a1, vr a2, vN, vr tb, vi c0] [] _
    refine XS.aloadN X4.here hx rfl (hb hby d19_22) rfl rfl ?_
    show SS p e below m T4 23 #[vr a1, vr a2, vN, vr tb, vi c0] [(.ref a1)] _
    refine XS.iconst X4.here hx rfl (hb hby d19_23) ?_
    show SS p e below m T4 24 #[vr a1, vr a2, vN, vr tb, vi c0] [(.int (0 : Int32)), (.ref a1)] _
    refine st5 _ ?_
    show SS p e below m T5 27 #[vr a1, vr a2, vN, vr tb, vi c0] [] _
    refine XS.aloadN X5.here hx rfl (hb hby d19_27) rfl rfl ?_
    show SS p e below m T5 28 #[vr a1, vr a2, vN, vr tb, vi c0] [(.ref a1)] _
    refine XS.aloadN X5.here hx rfl (hb hby d19_28) rfl rfl ?_
    show SS p e below m T5 29 #[vr a1, vr a2, vN, vr tb, vi c0] [(.ref tb), (.ref a1)] _
    refine XS.iconst X5.here hx rfl (hb hby d19_29) ?_
    show SS p e below m T5 30 #[vr a1, vr a2, vN, vr tb, vi c0] [(.int (0 : Int32)), (.ref tb), (.ref a1)] _
    refine XS.iload X5.here hx rfl (hb hby d19_30) rfl ?_
    show SS p e below m T5 32 #[vr a1, vr a2, vN, vr tb, vi c0] [(.int c0), (.int (0 : Int32)), (.ref tb), (.ref a1)] _
    refine st6 _ ?_
    show SS p e below m T6 35 #[vr a1, vr a2, vN, vr tb, vi c0] [(.ref b6_b), (.ref a1)] _
    refine st7 _ ?_
    show SS p e below m T7 38 #[vr a1, vr a2, vN, vr tb, vi c0] [] _
    refine XS.goto X7.here hx rfl (pc0 := 38) (pc' := 97) rfl (hb hby d19_38) (by decide) (by decide) ?_
    show SS p e below m T7 97 #[vr a1, vr a2, vN, vr tb, vi c0] [] _
    exact X7.returnOut hx Bd.returns (hb hby d19_97) hr
  · show Q_rm_sib Z a1 a2 tb c0 k vs vs2 zc h0 n0 _ T7.heap _
    rw [e7]
    exact ⟨b6_b, k2_6, rfl, N7, KC, sz_b6_b, F_value_a1, F_coder_a1, V_b_6⟩
theorem pd_14 : parseMethodDescriptor "(Ljava/lang/AbstractStringBuilder;Ljava/lang/Void;)V" = some ⟨[(.object "java/lang/AbstractStringBuilder"), (.object "java/lang/Void")], none⟩ := by decide +kernel
theorem d18_0 : decode jdk_42_method_53_code 0 = .ok (.aload_n 0, 1) := by decide +kernel
theorem d18_1 : decode jdk_42_method_53_code 1 = .ok (.aload_n 1, 1) := by decide +kernel
theorem d18_2 : decode jdk_42_method_53_code 2 = .ok (.aconst_null, 1) := by decide +kernel
theorem d18_3 : decode jdk_42_method_53_code 3 = .ok (.invokespecial 489, 3) := by decide +kernel
theorem d18_6 : decode jdk_42_method_53_code 6 = .ok (.return_, 1) := by decide +kernel
theorem ef_rm_sis (m : MethodId) (x0 : Addr) (x1 : Addr) : entryFrame m #[(.ref x0), (.ref x1)] 2 = mkF m 0 #[vr x0, vr x1] [] := by first | (simp [entryFrame, mkF, argsToLocals, Value.category]; done) | rfl
def Q_rm_sis (Z : State) (a1 : Addr) (a2 : Addr) (tb : Addr) (c0 : Int32) (k : ClassId) (vs : List Value) (vs2 : List Value) (zc : Int32) (h0 : Heap) (n0 : Nat) (v : Option Value) (h : Heap) (L : List Loc) : Prop := ∃ b : Addr, ∃ k2 : ClassId, (v = none) ∧ (Fr n0 L) ∧ (Keep h0 h [a1]) ∧ (h0.size ≤ b) ∧ (Fld Z h a1 "java/lang/String" "value" "[B" (.ref b)) ∧ (Fld Z h a1 "java/lang/String" "coder" "B" (.int (0 : Int32))) ∧ (Arv Z h b k2 .byte c0 vs2 (.int (0 : Int32)))
set_option maxRecDepth 65536 in
set_option maxHeartbeats 40000000 in
theorem rm_sis (l : Launch) (Z : State) (a0 : Array Value) (hw : ∀ d ∈ tables_1, d.before a0 Z = true) (ws : List Jvm.Cond) (a1 : Addr) (a2 : Addr) (tb : Addr) (c0 : Int32) (k : ClassId) (vs : List Value) (vs2 : List Value) (zc : Int32) (h0 : Heap) (n0 : Nat) (Z0 : n0 ≤ h0.size) (O0 : Old Z n0 h0) (F_value_a1 : Fld Z h0 a1 "java/lang/String" "value" "[B" .null) (F_coder_a1 : Fld Z h0 a1 "java/lang/String" "coder" "B" (.int (0 : Int32))) (E_a1 : Exa Z h0 a1 "java/lang/String") (g_a1 : n0 ≤ a1) (F_value_a2 : Fld Z h0 a2 "java/lang/AbstractStringBuilder" "value" "[B" (.ref tb)) (F_coder_a2 : Fld Z h0 a2 "java/lang/AbstractStringBuilder" "coder" "B" (.int (0 : Int32))) (F_count_a2 : Fld Z h0 a2 "java/lang/AbstractStringBuilder" "count" "I" (.int c0)) (E_a2 : Exa Z h0 a2 "java/lang/StringBuilder") (V_tb : Arv Z h0 tb k .byte (16 : Int32) vs (.int (0 : Int32))) (ne_tb : tb ≠ a1) (ne_a2 : a2 ≠ a1) (S_CS : Sta Z Z.heap "java/lang/String" "COMPACT_STRINGS" "Z" (.int zc)) (hz : ¬ zc = (0 : Int32)) (hp0 : ¬ c0 < (0 : Int32)) (hlt : c0 < (16 : Int32)) (h16 : c0.toNatClampNeg ≤ 16) (hv2 : ((List.replicate 16 (.int (0 : Int32))).take (0 : Int32).toNatClampNeg ++ ((List.range c0.toNatClampNeg).map fun i => vs.getD ((0 : Int32).toNatClampNeg + i) (.int (0 : Int32))) ++ (List.replicate 16 (.int (0 : Int32))).drop ((0 : Int32).toNatClampNeg + c0.toNatClampNeg)) = vs2) :
    MetFree l y_24 (head1 (Jvm.Cond.code y_24 jdk_42_method_53_code 2 none :: ws) ({ frames := 4, cells := 1, slots := 16, locals := 65 } : Room)) (fun a U => a = #[(.ref a1), (.ref a2)] ∧ Z.Warmed39 U.vm ∧ U.heap = h0) (fun _ _ _ _ _ => True) (fun _ U o U' => ∃ v L, o = .returned v ∧ Q_rm_sis Z a1 a2 tb c0 k vs vs2 zc h0 n0 v U'.heap L ∧ FrameEnd U o U' L ({ frames := 4, cells := 1, slots := 16, locals := 65 } : Room).cells ({ frames := 4, cells := 1, slots := 16, locals := 65 } : Room).slots) := by
  refine MetFree.of_bodySF (plainFor_of_name pn_0) hisR ?_
  intro p e s m args below meth c s₁ Bd hml0 hP hK
  obtain ⟨rfl, hZ, hh⟩ := hP
  have hx := Bd.exec
  have hby := Bd.bytes
  have hml : c.maxLocals = 2 := hml0
  have hown : s.vm.findClass "java/lang/String" = some m.cls := findClass_of_methodNamed Bd.named
  have hnm := (name_of_methodNamed Bd.named Bd.method).1
  have X0 : Stand p l e ({ frames := 4, cells := 1, slots := 16, locals := 65 } : Room) s m #[(.ref a1), (.ref a2)] below meth c s₁ [] 0 0 := Stand.of_body Bd
  have e0 : s₁.heap = h0 := by rw [← hh, Bd.state]; rfl
  have N0 := Fr.nil n0
  have KC : Keep h0 h0 [a1] := Keep.refl h0 _
  have pre0 : ∀ t, Steps p.tables e below (s₁.setTop (mkF m 0 #[vr a1, vr a2] [])) t → Steps p.tables e below (s₁.setTop (entryFrame m #[(.ref a1), (.ref a2)] 2)) t := fun t k => castTop (ef_rm_sis m a1 a2) k
  obtain ⟨_, _, ⟨T1, L1, kz1, nz1⟩, -, X1, ⟨Lc1, hQ1, l1, y1, z1⟩, st1⟩ := X0.specialBack hx (y := y_23) rfl hown (mvT hZ (ww hw 116 rfl)) (mvT hZ (ww hw 117 rfl)) (mvT hZ (ww hw 118 rfl)) (by decide) (backOf (W := 0) (rm_sib l Z a0 hw [] a1 a2 tb c0 k vs vs2 zc h0 n0 (Nat.le_trans Z0 KC.1) O0 F_value_a1 F_coder_a1 E_a1 g_a1 F_value_a2 F_coder_a2 F_count_a2 E_a2 V_tb ne_tb ne_a2 S_CS hz hp0 hlt h16 hv2) hZ (ww hw 118 rfl) (ww hw 3 rfl) (by decide) (by decide)) (g := (mkF m 3 #[vr a1, vr a2] [.null, (.ref a2), (.ref a1)])) rfl (by rw [hml]; rfl) (Steps.refl _) (a := a1) (argsL := [(.ref a2), .null]) (rest := []) (lenOf pd_14 rfl) rfl (by show 2 * 0 + _ ≤ _; exact Nat.le_of_eq rfl) (hb hby d18_3) (fun _ _ => ⟨rfl, e0, (by decide : 0 + 1 ≤ _), (by decide : 0 + 16 ≤ _)⟩)
  dsimp only [Pt.U, Pt.locs, Pt.cells, Pt.slots] at X1 l1 y1 z1 st1 hQ1
  subst l1 y1 z1
  obtain ⟨b1_b, k2_1, rfl, N1q, K1, sz_b1_b, F_value_a1_1, F_coder_a1_1, V_b_1⟩ := hQ1
  have N1 := Fr.app N0 N1q
  have ne_a1_b1_b : a1 ≠ b1_b := Nat.ne_of_lt (Nat.lt_of_lt_of_le F_value_a1.lt sz_b1_b)
  have ne_a2_b1_b : a2 ≠ b1_b := Nat.ne_of_lt (Nat.lt_of_lt_of_le F_value_a2.lt sz_b1_b)
  have ne_tb_b1_b : tb ≠ b1_b := Nat.ne_of_lt (Nat.lt_of_lt_of_le V_tb.lt sz_b1_b)
  have g_b1_b : n0 ≤ b1_b := Nat.le_trans (Nat.le_trans Z0 KC.1) sz_b1_b
  replace sz_b1_b : h0.size ≤ b1_b := Nat.le_trans KC.1 sz_b1_b
  replace E_a1 := E_a1.keep K1
  replace F_value_a2 := F_value_a2.keep K1 (ninS ne_a2 nin0)
  replace F_coder_a2 := F_coder_a2.keep K1 (ninS ne_a2 nin0)
  replace F_count_a2 := F_count_a2.keep K1 (ninS ne_a2 nin0)
  replace E_a2 := E_a2.keep K1
  replace V_tb := V_tb.keep K1 (ninS ne_tb nin0)
  replace O0 := O0.keep K1 (allS g_a1 all0)
  replace KC := KC.trans K1 (allS (Or.inl (List.mem_of_getElem? (i := 0) rfl)) all0)
  obtain ⟨fs, hr, hrun, hended, hW, hsame⟩ := X1.leave (v := none) (fun _ => rfl)
  refine ⟨_, _, pre0 _ ?_, hrun, hended, _, _, rfl, ?_, ⟨_, rfl⟩, hW, hsame.mono (by decide) (by decide)⟩
  · show SS p e below m s₁ 0 #[vr a1, vr a2] [] _
    refine XS.aloadN X0.here hx rfl (hb hby d18_0) rfl rfl ?_
    show SS p e below m s₁ 1 #[vr a1, vr a2] [(.ref a1)] _
    refine XS.aloadN X0.here hx rfl (hb hby d18_1) rfl rfl ?_
    show SS p e below m s₁ 2 #[vr a1, vr a2] [(.ref a2), (.ref a1)] _
    refine XS.aconstNull X0.here hx rfl (hb hby d18_2) ?_
    show SS p e below m s₁ 3 #[vr a1, vr a2] [.null, (.ref a2), (.ref a1)] _
    refine st1.trans ?_
    show SS p e below m T1 6 #[vr a1, vr a2] [] _
    exact X1.returnOut hx Bd.returns (hb hby d18_6) hr
  · show Q_rm_sis Z a1 a2 tb c0 k vs vs2 zc h0 n0 _ T1.heap _
    exact ⟨b1_b, k2_1, rfl, N1, KC, sz_b1_b, F_value_a1_1, F_coder_a1_1, V_b_1⟩
theorem pd_15 : parseMethodDescriptor "(Ljava/lang/StringBuilder;)V" = some ⟨[(.object "java/lang/StringBuilder")], none⟩ := by decide +kernel
theorem d17_0 : decode jdk_67_method_42_code 0 = .ok (.new 18, 3) := by decide +kernel
theorem d17_3 : decode jdk_67_method_42_code 3 = .ok (.dup, 1) := by decide +kernel
theorem d17_4 : decode jdk_67_method_42_code 4 = .ok (.aload_n 0, 1) := by decide +kernel
theorem d17_5 : decode jdk_67_method_42_code 5 = .ok (.invokespecial 137, 3) := by decide +kernel
theorem d17_8 : decode jdk_67_method_42_code 8 = .ok (.areturn, 1) := by decide +kernel
theorem ef_rm_tos (m : MethodId) (x0 : Addr) : entryFrame m #[(.ref x0)] 1 = mkF m 0 #[vr x0] [] := by first | (simp [entryFrame, mkF, argsToLocals, Value.category]; done) | rfl
def Q_rm_tos (Z : State) (a1 : Addr) (tb : Addr) (c0 : Int32) (k : ClassId) (vs : List Value) (vs2 : List Value) (zc : Int32) (h0 : Heap) (n0 : Nat) (v : Option Value) (h : Heap) (L : List Loc) : Prop := ∃ s0 : Addr, ∃ b : Addr, ∃ k2 : ClassId, (v = some (.ref s0)) ∧ (Fr n0 L) ∧ (Keep h0 h []) ∧ (h0.size ≤ s0) ∧ (h0.size ≤ b) ∧ (Exa Z h s0 "java/lang/String") ∧ (Fld Z h s0 "java/lang/String" "value" "[B" (.ref b)) ∧ (Fld Z h s0 "java/lang/String" "coder" "B" (.int (0 : Int32))) ∧ (Arv Z h b k2 .byte c0 vs2 (.int (0 : Int32)))
set_option maxRecDepth 65536 in
set_option maxHeartbeats 40000000 in
theorem rm_tos (l : Launch) (Z : State) (a0 : Array Value) (hw : ∀ d ∈ tables_1, d.before a0 Z = true) (ws : List Jvm.Cond) (a1 : Addr) (tb : Addr) (c0 : Int32) (k : ClassId) (vs : List Value) (vs2 : List Value) (zc : Int32) (h0 : Heap) (n0 : Nat) (Z0 : n0 ≤ h0.size) (O0 : Old Z n0 h0) (F_value_a1 : Fld Z h0 a1 "java/lang/AbstractStringBuilder" "value" "[B" (.ref tb)) (F_coder_a1 : Fld Z h0 a1 "java/lang/AbstractStringBuilder" "coder" "B" (.int (0 : Int32))) (F_count_a1 : Fld Z h0 a1 "java/lang/AbstractStringBuilder" "count" "I" (.int c0)) (E_a1 : Exa Z h0 a1 "java/lang/StringBuilder") (V_tb : Arv Z h0 tb k .byte (16 : Int32) vs (.int (0 : Int32))) (S_CS : Sta Z Z.heap "java/lang/String" "COMPACT_STRINGS" "Z" (.int zc)) (hz : ¬ zc = (0 : Int32)) (hp0 : ¬ c0 < (0 : Int32)) (hlt : c0 < (16 : Int32)) (h16 : c0.toNatClampNeg ≤ 16) (hv2 : ((List.replicate 16 (.int (0 : Int32))).take (0 : Int32).toNatClampNeg ++ ((List.range c0.toNatClampNeg).map fun i => vs.getD ((0 : Int32).toNatClampNeg + i) (.int (0 : Int32))) ++ (List.replicate 16 (.int (0 : Int32))).drop ((0 : Int32).toNatClampNeg + c0.toNatClampNeg)) = vs2) :
    MetFree l y_25 (head1 (Jvm.Cond.code y_25 jdk_67_method_42_code 1 (some (.object "java/lang/String")) :: ws) ({ frames := 5, cells := 2, slots := 20, locals := 79 } : Room)) (fun a U => a = #[(.ref a1)] ∧ Z.Warmed39 U.vm ∧ U.heap = h0) (fun _ _ _ _ _ => True) (fun _ U o U' => ∃ v L, o = .returned v ∧ Q_rm_tos Z a1 tb c0 k vs vs2 zc h0 n0 v U'.heap L ∧ FrameEnd U o U' L ({ frames := 5, cells := 2, slots := 20, locals := 79 } : Room).cells ({ frames := 5, cells := 2, slots := 20, locals := 79 } : Room).slots) := by
  refine MetFree.of_bodySF (plainFor_of_name pn_4) hisR ?_
  intro p e s m args below meth c s₁ Bd hml0 hP hK
  obtain ⟨rfl, hZ, hh⟩ := hP
  have hx := Bd.exec
  have hby := Bd.bytes
  have hml : c.maxLocals = 1 := hml0
  have hown : s.vm.findClass "java/lang/StringBuilder" = some m.cls := findClass_of_methodNamed Bd.named
  have hnm := (name_of_methodNamed Bd.named Bd.method).1
  have X0 : Stand p l e ({ frames := 5, cells := 2, slots := 20, locals := 79 } : Room) s m #[(.ref a1)] below meth c s₁ [] 0 0 := Stand.of_body Bd
  have e0 : s₁.heap = h0 := by rw [← hh, Bd.state]; rfl
  have N0 := Fr.nil n0
  have KC : Keep h0 h0 [] := Keep.refl h0 _
  have pre0 : ∀ t, Steps p.tables e below (s₁.setTop (mkF m 0 #[vr a1] [])) t → Steps p.tables e below (s₁.setTop (entryFrame m #[(.ref a1)] 1)) t := fun t k => castTop (ef_rm_tos m a1) k
  obtain ⟨T1, h1, X1, e1, E1, A1, D1, -, st1⟩ := newO X0 hx hZ hown (ww hw 112 rfl) (ww hw 2 rfl) (ww hw 3 rfl) e0 (g := (mkF m 0 #[vr a1] [])) rfl (hb hby d17_0) (by decide) (by decide)
  obtain ⟨b1, g1⟩ : ∃ z, z = h0.size := ⟨_, rfl⟩
  rw [← g1] at A1 D1 st1
  have ne_a1_b1 : a1 ≠ b1 := Nat.ne_of_lt (Nat.lt_of_lt_of_le F_value_a1.lt (Nat.le_of_eq g1.symm))
  have ne_tb_b1 : tb ≠ b1 := Nat.ne_of_lt (Nat.lt_of_lt_of_le V_tb.lt (Nat.le_of_eq g1.symm))
  have g_b1 : n0 ≤ b1 := Nat.le_trans (Nat.le_trans Z0 KC.1) (Nat.le_of_eq g1.symm)
  have sz_b1 : h0.size ≤ b1 := Nat.le_trans KC.1 (Nat.le_of_eq g1.symm)
  replace F_value_a1 := F_value_a1.ext E1
  replace F_coder_a1 := F_coder_a1.ext E1
  replace F_count_a1 := F_count_a1.ext E1
  replace E_a1 := E_a1.ext E1
  replace V_tb := V_tb.ext E1
  replace O0 := O0.ext E1
  replace KC := KC.ext E1
  have F_value_b1 : Fld Z h1 b1 "java/lang/String" "value" "[B" .null := D1 (Or.inr (ww hw 16 rfl)) (ty := (.array .byte)) (by decide)
  have F_coder_b1 : Fld Z h1 b1 "java/lang/String" "coder" "B" (.int (0 : Int32)) := D1 (Or.inr (ww hw 17 rfl)) (ty := .byte) (by decide)
  obtain ⟨_, _, ⟨T2, L2, kz2, nz2⟩, -, X2, ⟨Lc2, hQ2, l2, y2, z2⟩, st2⟩ := X1.specialBack hx (y := y_24) rfl hown (mvT hZ (ww hw 113 rfl)) (mvT hZ (ww hw 114 rfl)) (mvT hZ (ww hw 115 rfl)) (by decide) (backOf (W := 1) (rm_sis l Z a0 hw [] b1 a1 tb c0 k vs vs2 zc h1 n0 (Nat.le_trans Z0 KC.1) O0 F_value_b1 F_coder_b1 A1 g_b1 F_value_a1 F_coder_a1 F_count_a1 E_a1 V_tb ne_tb_b1 ne_a1_b1 S_CS hz hp0 hlt h16 hv2) hZ (ww hw 115 rfl) (ww hw 3 rfl) (by decide) (by decide)) (g := (mkF m 5 #[vr a1] [(.ref a1), (.ref b1), (.ref b1)])) rfl (by rw [hml]; rfl) (Steps.refl _) (a := b1) (argsL := [(.ref a1)]) (rest := [(.ref b1)]) (lenOf pd_15 rfl) rfl (by show 2 * 0 + _ ≤ _; exact Nat.le_of_eq rfl) (hb hby d17_5) (fun _ _ => ⟨rfl, e1, (by decide : 1 + 1 ≤ _), (by decide : 4 + 16 ≤ _)⟩)
  dsimp only [Pt.U, Pt.locs, Pt.cells, Pt.slots] at X2 l2 y2 z2 st2 hQ2
  subst l2 y2 z2
  obtain ⟨b2_b, k2_2, rfl, N2q, K2, sz_b2_b, F_value_a1_2, F_coder_a1_2, V_b_2⟩ := hQ2
  have N2 := Fr.app N0 N2q
  have ne_a1_b2_b : a1 ≠ b2_b := Nat.ne_of_lt (Nat.lt_of_lt_of_le F_value_a1.lt sz_b2_b)
  have ne_tb_b2_b : tb ≠ b2_b := Nat.ne_of_lt (Nat.lt_of_lt_of_le V_tb.lt sz_b2_b)
  have ne_b1_b2_b : b1 ≠ b2_b := Nat.ne_of_lt (Nat.lt_of_lt_of_le A1.lt sz_b2_b)
  have g_b2_b : n0 ≤ b2_b := Nat.le_trans (Nat.le_trans Z0 KC.1) sz_b2_b
  replace sz_b2_b : h0.size ≤ b2_b := Nat.le_trans KC.1 sz_b2_b
  replace F_value_a1 := F_value_a1.keep K2 (ninS ne_a1_b1 nin0)
  replace F_coder_a1 := F_coder_a1.keep K2 (ninS ne_a1_b1 nin0)
  replace F_count_a1 := F_count_a1.keep K2 (ninS ne_a1_b1 nin0)
  replace E_a1 := E_a1.keep K2
  replace V_tb := V_tb.keep K2 (ninS ne_tb_b1 nin0)
  replace A1 := A1.keep K2
  replace O0 := O0.keep K2 (allS g_b1 all0)
  replace KC := KC.trans K2 (allS (Or.inr sz_b1) all0)
  obtain ⟨fs, hr, hrun, hended, hW, hsame⟩ := X2.leave (v := some (.ref b1)) (fun h => by rw [Bd.returns] at h; cases h)
  refine ⟨_, _, pre0 _ ?_, hrun, hended, _, _, rfl, ?_, ⟨_, rfl⟩, hW, hsame.mono (by decide) (by decide)⟩
  · show SS p e below m s₁ 0 #[vr a1] [] _
    refine st1 _ ?_
    show SS p e below m T1 3 #[vr a1] [(.ref b1)] _
    refine XS.dup X1.here hx rfl (hb hby d17_3) rfl rfl ?_
    show SS p e below m T1 4 #[vr a1] [(.ref b1), (.ref b1)] _
    refine XS.aloadN X1.here hx rfl (hb hby d17_4) rfl rfl ?_
    show SS p e below m T1 5 #[vr a1] [(.ref a1), (.ref b1), (.ref b1)] _
    refine st2.trans ?_
    show SS p e below m T2 8 #[vr a1] [(.ref b1)] _
    jvm_step X2.here [X2.here.top, hx, (hb hby d17_8), X2.method', Bd.returns, Value.isRef, FieldType.isReference]
    first | (intro acts; rw [hr _ acts rfl rfl rfl]) | rw [hr _ _ rfl rfl rfl]
    exact Steps.refl _
  · show Q_rm_tos Z a1 tb c0 k vs vs2 zc h0 n0 _ T2.heap _
    exact ⟨b1, b2_b, k2_2, rfl, N2, KC, sz_b1, sz_b2_b, A1, F_value_a1_2, F_coder_a1_2, V_b_2⟩
theorem d29_0 : decode jdk_30_method_1_code 0 = .ok (.aload_n 0, 1) := by decide +kernel
theorem d29_1 : decode jdk_30_method_1_code 1 = .ok (.invokespecial 1, 3) := by decide +kernel
theorem d29_4 : decode jdk_30_method_1_code 4 = .ok (.return_, 1) := by decide +kernel
theorem pn_6 : plainName "java/lang/Record" = true := by first | (simp [plainName, overriddenIn]; done) | decide +kernel
theorem ef_rm_rec (m : MethodId) (x0 : Addr) : entryFrame m #[(.ref x0)] 1 = mkF m 0 #[vr x0] [] := by first | (simp [entryFrame, mkF, argsToLocals, Value.category]; done) | rfl
def Q_rm_rec (Z : State) (a1 : Addr) (h0 : Heap) (n0 : Nat) (v : Option Value) (h : Heap) (L : List Loc) : Prop := (v = none) ∧ (Fr n0 L) ∧ (h = h0)
set_option maxRecDepth 65536 in
set_option maxHeartbeats 40000000 in
theorem rm_rec (l : Launch) (Z : State) (a0 : Array Value) (hw : ∀ d ∈ tables_1, d.before a0 Z = true) (ws : List Jvm.Cond) (a1 : Addr) (h0 : Heap) (n0 : Nat) (Z0 : n0 ≤ h0.size) (O0 : Old Z n0 h0) :
    MetFree l y_26 (head1 (Jvm.Cond.code y_26 jdk_30_method_1_code 1 none :: ws) ({ frames := 1, cells := 0, slots := 0, locals := 12 } : Room)) (fun a U => a = #[(.ref a1)] ∧ Z.Warmed39 U.vm ∧ U.heap = h0) (fun _ _ _ _ _ => True) (fun _ U o U' => ∃ v L, o = .returned v ∧ Q_rm_rec Z a1 h0 n0 v U'.heap L ∧ FrameEnd U o U' L ({ frames := 1, cells := 0, slots := 0, locals := 12 } : Room).cells ({ frames := 1, cells := 0, slots := 0, locals := 12 } : Room).slots) := by
  refine MetFree.of_bodySF (plainFor_of_name pn_6) hisR ?_
  intro p e s m args below meth c s₁ Bd hml0 hP hK
  obtain ⟨rfl, hZ, hh⟩ := hP
  have hx := Bd.exec
  have hby := Bd.bytes
  have hml : c.maxLocals = 1 := hml0
  have hown : s.vm.findClass "java/lang/Record" = some m.cls := findClass_of_methodNamed Bd.named
  have hnm := (name_of_methodNamed Bd.named Bd.method).1
  have X0 : Stand p l e ({ frames := 1, cells := 0, slots := 0, locals := 12 } : Room) s m #[(.ref a1)] below meth c s₁ [] 0 0 := Stand.of_body Bd
  have e0 : s₁.heap = h0 := by rw [← hh, Bd.state]; rfl
  have N0 := Fr.nil n0
  have KC : Keep h0 h0 [] := Keep.refl h0 _
  have pre0 : ∀ t, Steps p.tables e below (s₁.setTop (mkF m 0 #[vr a1] [])) t → Steps p.tables e below (s₁.setTop (entryFrame m #[(.ref a1)] 1)) t := fun t k => castTop (ef_rm_rec m a1) k
  obtain ⟨T1, X1, e1, st1⟩ := initO X0 hx hZ hown (ww hw 162 rfl) (ww hw 12 rfl) (ww hw 13 rfl) e0 (g := (mkF m 1 #[vr a1] [(.ref a1)])) rfl (by rw [hml]; rfl) rfl (hb hby d29_1) (by decide) (W := 0) (by show 2 * 0 + _ ≤ _; exact Nat.le_of_eq rfl) (by decide)
  obtain ⟨fs, hr, hrun, hended, hW, hsame⟩ := X1.leave (v := none) (fun _ => rfl)
  refine ⟨_, _, pre0 _ ?_, hrun, hended, _, _, rfl, ?_, ⟨_, rfl⟩, hW, hsame.mono (by decide) (by decide)⟩
  · show SS p e below m s₁ 0 #[vr a1] [] _
    refine XS.aloadN X0.here hx rfl (hb hby d29_0) rfl rfl ?_
    show SS p e below m s₁ 1 #[vr a1] [(.ref a1)] _
    refine st1 _ ?_
    show SS p e below m T1 4 #[vr a1] [] _
    exact X1.returnOut hx Bd.returns (hb hby d29_4) hr
  · show Q_rm_rec Z a1 h0 n0 _ T1.heap _
    rw [e1]
    exact ⟨rfl, N0, rfl⟩
theorem d2_0 : decode jdk_42_method_149_code 0 = .ok (.aload_n 0, 1) := by decide +kernel
theorem d2_1 : decode jdk_42_method_149_code 1 = .ok (.invokespecial 1, 3) := by decide +kernel
theorem d2_4 : decode jdk_42_method_149_code 4 = .ok (.iload_n 3, 1) := by decide +kernel
theorem d2_5 : decode jdk_42_method_149_code 5 = .ok (.ifCond .ne 22, 3) := by decide +kernel
theorem d2_8 : decode jdk_42_method_149_code 8 = .ok (.aload_n 0, 1) := by decide +kernel
theorem d2_9 : decode jdk_42_method_149_code 9 = .ok (.ldc 7, 2) := by decide +kernel
theorem d2_11 : decode jdk_42_method_149_code 11 = .ok (.getfield 9, 3) := by decide +kernel
theorem d2_14 : decode jdk_42_method_149_code 14 = .ok (.putfield 9, 3) := by decide +kernel
theorem d2_17 : decode jdk_42_method_149_code 17 = .ok (.aload_n 0, 1) := by decide +kernel
theorem d2_18 : decode jdk_42_method_149_code 18 = .ok (.ldc 7, 2) := by decide +kernel
theorem d2_20 : decode jdk_42_method_149_code 20 = .ok (.getfield 15, 3) := by decide +kernel
theorem d2_23 : decode jdk_42_method_149_code 23 = .ok (.putfield 15, 3) := by decide +kernel
theorem d2_26 : decode jdk_42_method_149_code 26 = .ok (.return_, 1) := by decide +kernel
theorem ef_rm_i40 (m : MethodId) (x0 : Addr) (x1 : Addr) (x2 : Int32) (x3 : Int32) : entryFrame m #[(.ref x0), (.ref x1), (.int x2), (.int x3), .null] 6 = mkF m 0 #[vr x0, vr x1, vi x2, vi x3, vN, .unset] [] := by first | (simp [entryFrame, mkF, argsToLocals, Value.category]; done) | rfl
def Q_rm_i40 (Z : State) (a1 : Addr) (a2 : Addr) (h0 : Heap) (n0 : Nat) (v : Option Value) (h : Heap) (L : List Loc) : Prop := ∃ tz : Addr, ∃ kb : ClassId, (v = none) ∧ (Fr n0 L) ∧ (Keep h0 h [a1]) ∧ (Fld Z h a1 "java/lang/String" "value" "[B" (.ref tz)) ∧ (Fld Z h a1 "java/lang/String" "coder" "B" (.int (0 : Int32))) ∧ (Arv Z h tz kb .byte (0 : Int32) [] (.int (0 : Int32)))
set_option maxRecDepth 65536 in
set_option maxHeartbeats 40000000 in
theorem rm_i40 (l : Launch) (Z : State) (a0 : Array Value) (hw : ∀ d ∈ tables_1, d.before a0 Z = true) (ws : List Jvm.Cond) (a1 : Addr) (a2 : Addr) (h0 : Heap) (n0 : Nat) (Z0 : n0 ≤ h0.size) (O0 : Old Z n0 h0) (F_value_a1 : Fld Z h0 a1 "java/lang/String" "value" "[B" .null) (F_coder_a1 : Fld Z h0 a1 "java/lang/String" "coder" "B" (.int (0 : Int32))) (E_a1 : Exa Z h0 a1 "java/lang/String") (g_a1 : n0 ≤ a1) :
    MetFree l y_27 (head1 (Jvm.Cond.code y_27 jdk_42_method_149_code 6 none :: ws) ({ frames := 1, cells := 4, slots := 8, locals := 12 } : Room)) (fun a U => a = #[(.ref a1), (.ref a2), (.int (0 : Int32)), (.int (0 : Int32)), .null] ∧ Z.Warmed39 U.vm ∧ U.heap = h0 ∧ CHv Z EL U.vm h0) (fun _ _ _ _ _ => True) (fun _ U o U' => ∃ v L, o = .returned v ∧ Q_rm_i40 Z a1 a2 h0 n0 v U'.heap L ∧ CHr Z EL U.vm U.heap U'.vm U'.heap ∧ ReturnedEndW U o U' L ({ frames := 1, cells := 4, slots := 8, locals := 12 } : Room).cells ({ frames := 1, cells := 4, slots := 8, locals := 12 } : Room).slots) := by
  refine MetFree.of_bodySF (plainFor_of_name pn_0) hisR ?_
  intro p e s m args below meth c s₁ Bd hml0 hP hK
  obtain ⟨rfl, hZ0, hh, hC0⟩ := hP
  have hx := Bd.exec
  have hby := Bd.bytes
  have hml : c.maxLocals = 6 := hml0
  have hown : (s.setVm s.vm).vm.findClass "java/lang/String" = some m.cls := findClass_of_methodNamed Bd.named
  have hnm := (name_of_methodNamed Bd.named Bd.method).1
  have X0 : Stand p l e ({ frames := 1, cells := 4, slots := 8, locals := 12 } : Room) (s.setVm s.vm) m #[(.ref a1), (.ref a2), (.int (0 : Int32)), (.int (0 : Int32)), .null] below meth c s₁ [] 0 0 := Stand.of_body Bd
  have e0 : s₁.heap = h0 := by rw [← hh, Bd.state]; rfl
  have N0 := Fr.nil n0
  have KC : Keep h0 h0 [a1] := Keep.refl h0 _
  have pre0 : ∀ t, Steps p.tables e below (s₁.setTop (mkF m 0 #[vr a1, vr a2, vi (0 : Int32), vi (0 : Int32), vN, un] [])) t → Steps p.tables e below (s₁.setTop (entryFrame m #[(.ref a1), (.ref a2), (.int (0 : Int32)), (.int (0 : Int32)), .null] 6)) t := fun t k => castTop (ef_rm_i40 m a1 a2 (0 : Int32) (0 : Int32)) k
  have hZ : Z.Warmed39 (s.setVm s.vm).vm := hZ0
  have hEL := own_hEL hw
  have wS := own_wS hw
  have hS : s.Since s.vm 0 := (State.WarmedH.refl s).since 0
  have hk : 0 ≤ h0.size := Nat.zero_le _
  have hC : CHr Z EL s.vm h0 s.vm h0 := CHr.refl hC0
  obtain ⟨T1, X1, e1, st1⟩ := initO X0 hx hZ hown (ww hw 11 rfl) (ww hw 12 rfl) (ww hw 13 rfl) e0 (g := (mkF m 1 #[vr a1, vr a2, vi (0 : Int32), vi (0 : Int32), vN, un] [(.ref a1)])) rfl (by rw [hml]; rfl) rfl (hb hby d2_1) (by decide) (W := 0) (by show 2 * 0 + _ ≤ _; exact Nat.le_of_eq rfl) (by decide)
  have Sf_a1 := (own_safe (EL := EL) hZ.alike E_a1 F_value_a1)
  obtain ⟨sa2, T2, h2, kx2, sb2, kc2, X2, e2, E2, hS2, hk2, hZ2, hown2, Ex2, Fc2, Fv2, Vv2, -, -, C2, -, nx2, st2⟩ := ldcCH X1 hx hZ hown (ww hw 14 rfl) wS e1 hS hk hEL (by decide) hC.1 (vs := []) (z := (0 : Int32)) ⟨by decide, by first | rfl | decide⟩ (by decide) (by first | rfl | decide) (g := (mkF m 9 #[vr a1, vr a2, vi (0 : Int32), vi (0 : Int32), vN, un] [(.ref a1)])) rfl (hb hby d2_9) (n := 0) (by decide) (by decide) (by decide) (by decide)
  replace Sf_a1 := C2.safe E_a1.lt Sf_a1
  replace F_value_a1 := F_value_a1.ext E2
  replace F_coder_a1 := F_coder_a1.ext E2
  replace E_a1 := E_a1.ext E2
  replace O0 := O0.ext E2
  replace KC := KC.ext E2
  replace hC := hC.trans C2
  replace hZ := hZ2
  replace hown := hown2
  replace hS := hS2
  replace hk := hk2
  have nx2_a1 := nx2 _ Sf_a1
  obtain ⟨T3, X3, e3, st3⟩ := getF X2 hx hZ hown (host := "") (Or.inl (ww hw 20 rfl)) Via.refl e2 Fv2 (g := (mkF m 11 #[vr a1, vr a2, vi (0 : Int32), vi (0 : Int32), vN, un] [(.ref sa2), (.ref a1)])) rfl rfl (hb hby d2_11)
  obtain ⟨T4, h4, X4, e4, W4, st4⟩ := putF X3 hx hZ hown (host := "") (Or.inl (ww hw 20 rfl)) Via.refl e3 F_value_a1 E_a1 (Or.inr ⟨(ww hw 16 rfl), rfl, hnm⟩) (ww hw 2 rfl) (ty := (.array .byte)) (by decide) rfl rfl (g := (mkF m 14 #[vr a1, vr a2, vi (0 : Int32), vi (0 : Int32), vN, un] [(.ref sb2), (.ref a1)])) rfl rfl (hb hby d2_14)
  have N4 := Fr.snoc X4 N0 g_a1
  replace F_value_a1 := F_value_a1.same W4
  have SfW4 := Sf_a1
  replace Sf_a1 := Safe.wr W4 Sf_a1 hC.1 Sf_a1
  replace hk := Nat.le_trans hk (Keep.of_wr W4).1
  replace hC := hC.trans (CHr.wr W4 SfW4 hC.1)
  replace F_coder_a1 := F_coder_a1.other W4 (Or.inr (slot_ne (Or.inr (ww hw 17 rfl)) (Or.inr (ww hw 16 rfl)) (by decide) (t := .byte) (t' := (.array .byte)) (by decide) (by decide)))
  replace E_a1 := E_a1.wr W4
  replace Ex2 := Ex2.wr W4
  replace Fc2 := Fc2.other W4 (Or.inl (Ne.symm nx2_a1.1))
  replace Fv2 := Fv2.other W4 (Or.inl (Ne.symm nx2_a1.1))
  replace Vv2 := Vv2.other W4 (Ne.symm nx2_a1.2)
  replace O0 := O0.wr W4 g_a1
  replace KC := KC.wr W4 (Or.inl (List.mem_of_getElem? (i := 0) rfl))
  obtain ⟨sa5, T5, h5, kx5, sb5, kc5, X5, e5, E5, hS5, hk5, hZ5, hown5, Ex5, Fc5, Fv5, Vv5, -, -, C5, -, nx5, st5⟩ := ldcCH X4 hx hZ hown (ww hw 14 rfl) wS e4 hS hk hEL (by decide) hC.1 (vs := []) (z := (0 : Int32)) ⟨by decide, by first | rfl | decide⟩ (by decide) (by first | rfl | decide) (g := (mkF m 18 #[vr a1, vr a2, vi (0 : Int32), vi (0 : Int32), vN, un] [(.ref a1)])) rfl (hb hby d2_18) (n := 0) (by decide) (by decide) (by decide) (by decide)
  replace Sf_a1 := C5.safe E_a1.lt Sf_a1
  replace F_value_a1 := F_value_a1.ext E5
  replace F_coder_a1 := F_coder_a1.ext E5
  replace E_a1 := E_a1.ext E5
  replace Ex2 := Ex2.ext E5
  replace Fc2 := Fc2.ext E5
  replace Fv2 := Fv2.ext E5
  replace Vv2 := Vv2.ext E5
  replace O0 := O0.ext E5
  replace KC := KC.ext E5
  replace hC := hC.trans C5
  replace hZ := hZ5
  replace hown := hown5
  replace hS := hS5
  replace hk := hk5
  have nx5_a1 := nx5 _ Sf_a1
  obtain ⟨T6, X6, e6, st6⟩ := getF X5 hx hZ hown (host := "") (Or.inl (ww hw 21 rfl)) Via.refl e5 Fc5 (g := (mkF m 20 #[vr a1, vr a2, vi (0 : Int32), vi (0 : Int32), vN, un] [(.ref sa5), (.ref a1)])) rfl rfl (hb hby d2_20)
  obtain ⟨T7, h7, X7, e7, W7, st7⟩ := putFN X6 hx hZ hown (ww hw 21 rfl) Via.refl e6 F_coder_a1 E_a1 (Or.inr ⟨(ww hw 17 rfl), rfl, hnm⟩) (ww hw 2 rfl) (ty := .byte) (v' := .int (0 : Int32)) (by decide) rfl rfl (g := (mkF m 23 #[vr a1, vr a2, vi (0 : Int32), vi (0 : Int32), vN, un] [(.int (0 : Int32)), (.ref a1)])) rfl rfl (hb hby d2_23)
  have N7 := Fr.snoc X7 N4 g_a1
  replace F_coder_a1 := F_coder_a1.same W7
  have SfW7 := Sf_a1
  replace Sf_a1 := Safe.wr W7 Sf_a1 hC.1 Sf_a1
  replace hk := Nat.le_trans hk (Keep.of_wr W7).1
  replace hC := hC.trans (CHr.wr W7 SfW7 hC.1)
  replace F_value_a1 := F_value_a1.other W7 (Or.inr (slot_ne (Or.inr (ww hw 16 rfl)) (Or.inr (ww hw 17 rfl)) (by decide) (t := (.array .byte)) (t' := .byte) (by decide) (by decide)))
  replace E_a1 := E_a1.wr W7
  replace Ex2 := Ex2.wr W7
  replace Fc2 := Fc2.other W7 (Or.inl (Ne.symm nx2_a1.1))
  replace Fv2 := Fv2.other W7 (Or.inl (Ne.symm nx2_a1.1))
  replace Vv2 := Vv2.other W7 (Ne.symm nx2_a1.2)
  replace Ex5 := Ex5.wr W7
  replace Fc5 := Fc5.other W7 (Or.inl (Ne.symm nx5_a1.1))
  replace Fv5 := Fv5.other W7 (Or.inl (Ne.symm nx5_a1.1))
  replace Vv5 := Vv5.other W7 (Ne.symm nx5_a1.2)
  replace O0 := O0.wr W7 g_a1
  replace KC := KC.wr W7 (Or.inl (List.mem_of_getElem? (i := 0) rfl))
  obtain ⟨fs, hr, hrun, hended, hRE⟩ := X7.leaveW hS (by rw [e7]; exact hk) (v := none) (fun _ => rfl)
  refine ⟨_, _, pre0 _ ?_, hrun, hended, _, _, rfl, ?_, ?_, hRE.1, hRE.2.1, hRE.2.2.1, hRE.2.2.2.mono (by decide) (by decide)⟩
  · show SS p e below m s₁ 0 #[vr a1, vr a2, vi (0 : Int32), vi (0 : Int32), vN, un] [] _
    refine XS.aloadN X0.here hx rfl (hb hby d2_0) rfl rfl ?_
    show SS p e below m s₁ 1 #[vr a1, vr a2, vi (0 : Int32), vi (0 : Int32), vN, un] [(.ref a1)] _
    refine st1 _ ?_
    show SS p e below m T1 4 #[vr a1, vr a2, vi (0 : Int32), vi (0 : Int32), vN, un] [] _
    refine XS.iloadN X1.here hx rfl (hb hby d2_4) rfl ?_
    show SS p e below m T1 5 #[vr a1, vr a2, vi (0 : Int32), vi (0 : Int32), vN, un] [(.int (0 : Int32))] _
    refine XS.ifNo X1.here hx rfl (hb hby d2_5) rfl ((if0 _ _).trans (teq (by decide)).2) ?_
    show SS p e below m T1 8 #[vr a1, vr a2, vi (0 : Int32), vi (0 : Int32), vN, un] [] _
    refine XS.aloadN X1.here hx rfl (hb hby d2_8) rfl rfl ?_
    show SS p e below m T1 9 #[vr a1, vr a2, vi (0 : Int32), vi (0 : Int32), vN, un] [(.ref a1)] _
    refine st2 _ ?_
    show SS p e below m T2 11 #[vr a1, vr a2, vi (0 : Int32), vi (0 : Int32), vN, un] [(.ref sa2), (.ref a1)] _
    refine st3 _ ?_
    show SS p e below m T3 14 #[vr a1, vr a2, vi (0 : Int32), vi (0 : Int32), vN, un] [(.ref sb2), (.ref a1)] _
    refine st4 _ ?_
    show SS p e below m T4 17 #[vr a1, vr a2, vi (0 : Int32), vi (0 : Int32), vN, un] [] _
    refine XS.aloadN X4.here hx rfl (hb hby d2_17) rfl rfl ?_
    show SS p e below m T4 18 #[vr a1, vr a2, vi (0 : Int32), vi (0 : Int32), vN, un] [(.ref a1)] _
    refine st5 _ ?_
    show SS p e below m T5 20 #[vr a1, vr a2, vi (0 : Int32), vi (0 : Int32), vN, un] [(.ref sa5), (.ref a1)] _
    refine st6 _ ?_
    show SS p e below m T6 23 #[vr a1, vr a2, vi (0 : Int32), vi (0 : Int32), vN, un] [(.int (0 : Int32)), (.ref a1)] _
    refine st7 _ ?_
    show SS p e below m T7 26 #[vr a1, vr a2, vi (0 : Int32), vi (0 : Int32), vN, un] [] _
    exact X7.returnOut hx Bd.returns (hb hby d2_26) hr
  · show Q_rm_i40 Z a1 a2 h0 n0 _ T7.heap _
    rw [e7]
    exact ⟨sb2, kc2, rfl, N7, KC, F_value_a1, F_coder_a1, Vv2⟩
  · show CHr Z EL s.vm s.heap T7.vm T7.heap
    rw [hh, e7]
    exact hC.trans (CHv.at X7 hZ hEL hC.1)
theorem pd_16 : parseMethodDescriptor "([CIILjava/lang/Void;)V" = some ⟨[(.array .char), .int, .int, (.object "java/lang/Void")], none⟩ := by decide +kernel
theorem d1_0 : decode jdk_42_method_3_code 0 = .ok (.aload_n 0, 1) := by decide +kernel
theorem d1_1 : decode jdk_42_method_3_code 1 = .ok (.aload_n 1, 1) := by decide +kernel
theorem d1_2 : decode jdk_42_method_3_code 2 = .ok (.iconst 0, 1) := by decide +kernel
theorem d1_3 : decode jdk_42_method_3_code 3 = .ok (.aload_n 1, 1) := by decide +kernel
theorem d1_4 : decode jdk_42_method_3_code 4 = .ok (.arraylength, 1) := by decide +kernel
theorem d1_5 : decode jdk_42_method_3_code 5 = .ok (.aconst_null, 1) := by decide +kernel
theorem d1_6 : decode jdk_42_method_3_code 6 = .ok (.invokespecial 27, 3) := by decide +kernel
theorem d1_9 : decode jdk_42_method_3_code 9 = .ok (.return_, 1) := by decide +kernel
theorem ef_rm_i10 (m : MethodId) (x0 : Addr) (x1 : Addr) : entryFrame m #[(.ref x0), (.ref x1)] 2 = mkF m 0 #[vr x0, vr x1] [] := by first | (simp [entryFrame, mkF, argsToLocals, Value.category]; done) | rfl
def Q_rm_i10 (Z : State) (a1 : Addr) (a2 : Addr) (kc : ClassId) (h0 : Heap) (n0 : Nat) (v : Option Value) (h : Heap) (L : List Loc) : Prop := ∃ tz : Addr, ∃ kb : ClassId, (v = none) ∧ (Fr n0 L) ∧ (Keep h0 h [a1]) ∧ (Fld Z h a1 "java/lang/String" "value" "[B" (.ref tz)) ∧ (Fld Z h a1 "java/lang/String" "coder" "B" (.int (0 : Int32))) ∧ (Arv Z h tz kb .byte (0 : Int32) [] (.int (0 : Int32)))
set_option maxRecDepth 65536 in
set_option maxHeartbeats 40000000 in
theorem rm_i10 (l : Launch) (Z : State) (a0 : Array Value) (hw : ∀ d ∈ tables_1, d.before a0 Z = true) (ws : List Jvm.Cond) (a1 : Addr) (a2 : Addr) (kc : ClassId) (h0 : Heap) (n0 : Nat) (Z0 : n0 ≤ h0.size) (O0 : Old Z n0 h0) (F_value_a1 : Fld Z h0 a1 "java/lang/String" "value" "[B" .null) (F_coder_a1 : Fld Z h0 a1 "java/lang/String" "coder" "B" (.int (0 : Int32))) (E_a1 : Exa Z h0 a1 "java/lang/String") (g_a1 : n0 ≤ a1) (V_a2 : Arv Z h0 a2 kc .char (0 : Int32) [] (.int (0 : Int32))) :
    MetFree l y_28 (head1 (Jvm.Cond.code y_28 jdk_42_method_3_code 2 none :: ws) ({ frames := 2, cells := 4, slots := 8, locals := 29 } : Room)) (fun a U => a = #[(.ref a1), (.ref a2)] ∧ Z.Warmed39 U.vm ∧ U.heap = h0 ∧ CHv Z EL U.vm h0) (fun _ _ _ _ _ => True) (fun _ U o U' => ∃ v L, o = .returned v ∧ Q_rm_i10 Z a1 a2 kc h0 n0 v U'.heap L ∧ CHr Z EL U.vm U.heap U'.vm U'.heap ∧ ReturnedEndW U o U' L ({ frames := 2, cells := 4, slots := 8, locals := 29 } : Room).cells ({ frames := 2, cells := 4, slots := 8, locals := 29 } : Room).slots) := by
  refine MetFree.of_bodySF (plainFor_of_name pn_0) hisR ?_
  intro p e s m args below meth c s₁ Bd hml0 hP hK
  obtain ⟨rfl, hZ0, hh, hC0⟩ := hP
  have hx := Bd.exec
  have hby := Bd.bytes
  have hml : c.maxLocals = 2 := hml0
  have hown : (s.setVm s.vm).vm.findClass "java/lang/String" = some m.cls := findClass_of_methodNamed Bd.named
  have hnm := (name_of_methodNamed Bd.named Bd.method).1
  have X0 : Stand p l e ({ frames := 2, cells := 4, slots := 8, locals := 29 } : Room) (s.setVm s.vm) m #[(.ref a1), (.ref a2)] below meth c s₁ [] 0 0 := Stand.of_body Bd
  have e0 : s₁.heap = h0 := by rw [← hh, Bd.state]; rfl
  have N0 := Fr.nil n0
  have KC : Keep h0 h0 [a1] := Keep.refl h0 _
  have pre0 : ∀ t, Steps p.tables e below (s₁.setTop (mkF m 0 #[vr a1, vr a2] [])) t → Steps p.tables e below (s₁.setTop (entryFrame m #[(.ref a1), (.ref a2)] 2)) t := fun t k => castTop (ef_rm_i10 m a1 a2) k
  have hZ : Z.Warmed39 (s.setVm s.vm).vm := hZ0
  have hEL := own_hEL hw
  have wS := own_wS hw
  have hS : s.Since s.vm 0 := (State.WarmedH.refl s).since 0
  have hk : 0 ≤ h0.size := Nat.zero_le _
  have hC : CHr Z EL s.vm h0 s.vm h0 := CHr.refl hC0
  have Vo1 := V_a2
  obtain ⟨cl1, Ar1, -, Sz1, Nn1, -, -⟩ := Vo1
  have ia1 := State.isArrayOf_alike hZ.alike Ar1.2.1
  obtain ⟨_, _, ⟨T2, L2, kz2, nz2⟩, -, X2, hS2, gr2, ⟨Lc2, hQ2, l2, y2, z2, C2⟩, st2⟩ := X0.specialBackS hx (y := y_27) rfl hown (mvT hZ (ww hw 7 rfl)) (mvT hZ (ww hw 8 rfl)) (mvT hZ (ww hw 10 rfl)) (by decide) (backOfSH (W := 0) (rm_i40 l Z a0 hw [] a1 a2 h0 n0 (Nat.le_trans Z0 KC.1) O0 F_value_a1 F_coder_a1 E_a1 g_a1) hZ (ww hw 10 rfl) (ww hw 3 rfl) (by decide) (by decide) hEL hC.1) (g := (mkF m 6 #[vr a1, vr a2] [.null, (.int (0 : Int32)), (.int (0 : Int32)), (.ref a2), (.ref a1)])) rfl (by rw [hml]; rfl) (Steps.refl _) (a := a1) (argsL := [(.ref a2), (.int (0 : Int32)), (.int (0 : Int32)), .null]) (rest := []) (lenOf pd_16 rfl) rfl (by show 2 * 0 + _ ≤ _; exact Nat.le_of_eq rfl) (hb hby d1_6) (fun _ _ => ⟨rfl, e0, (by decide : 0 + 4 ≤ _), (by decide : 0 + 8 ≤ _)⟩)
  dsimp only [Pt.U, Pt.locs, Pt.cells, Pt.slots] at X2 l2 y2 z2 st2 hQ2 hS2 gr2 C2
  subst l2 y2 z2
  rw [e0] at gr2
  obtain ⟨Xr2, hSr2, hZr2, hownr2⟩ := rebS hS hk X2 hS2 gr2 hZ hown
  replace hC := hC.trans C2
  replace hZ := hZr2
  replace hown := hownr2
  replace hS := hSr2
  replace hk : T2.heap.size ≤ T2.heap.size := Nat.le_refl _
  replace X2 := Xr2
  obtain ⟨tz_2, kb_2, rfl, N2q, K2, F_value_a1_2, F_coder_a1_2, V_tz_2⟩ := hQ2
  have N2 := Fr.app N0 N2q
  have nev_a1_a2 : a1 ≠ a2 := Exa.neArv E_a1 V_a2 (ww hw 2 rfl)
  replace E_a1 := E_a1.keep K2
  replace V_a2 := V_a2.keep K2 (ninS (Ne.symm nev_a1_a2) nin0)
  replace O0 := O0.keep K2 (allS g_a1 all0)
  replace KC := KC.trans K2 (allS (Or.inl (List.mem_of_getElem? (i := 0) rfl)) all0)
  obtain ⟨fs, hr, hrun, hended, hRE⟩ := X2.leaveW hS hk (v := none) (fun _ => rfl)
  refine ⟨_, _, pre0 _ ?_, hrun, hended, _, _, rfl, ?_, ?_, hRE.1, hRE.2.1, hRE.2.2.1, hRE.2.2.2.mono (by decide) (by decide)⟩
  · show SS p e below m s₁ 0 #[vr a1, vr a2] [] _
    refine XS.aloadN X0.here hx rfl (hb hby d1_0) rfl rfl ?_
    show SS p e below m s₁ 1 #[vr a1, vr a2] [(.ref a1)] _
    refine XS.aloadN X0.here hx rfl (hb hby d1_1) rfl rfl ?_
    show SS p e below m s₁ 2 #[vr a1, vr a2] [(.ref a2), (.ref a1)] _
    refine XS.iconst X0.here hx rfl (hb hby d1_2) ?_
    show SS p e below m s₁ 3 #[vr a1, vr a2] [(.int (0 : Int32)), (.ref a2), (.ref a1)] _
    refine XS.aloadN X0.here hx rfl (hb hby d1_3) rfl rfl ?_
    show SS p e below m s₁ 4 #[vr a1, vr a2] [(.ref a2), (.int (0 : Int32)), (.ref a2), (.ref a1)] _
    refine X0.arraylength hx (by rw [e0]; exact Ar1.1) ia1 (g := (mkF m 4 #[vr a1, vr a2] [(.ref a2), (.int (0 : Int32)), (.ref a2), (.ref a1)])) rfl rfl (hb hby d1_4) _ ?_
    rw [len_of Sz1 Nn1]
    show SS p e below m s₁ 5 #[vr a1, vr a2] [(.int (0 : Int32)), (.int (0 : Int32)), (.ref a2), (.ref a1)] _
    refine XS.aconstNull X0.here hx rfl (hb hby d1_5) ?_
    show SS p e below m s₁ 6 #[vr a1, vr a2] [.null, (.int (0 : Int32)), (.int (0 : Int32)), (.ref a2), (.ref a1)] _
    refine st2.trans ?_
    show SS p e below m T2 9 #[vr a1, vr a2] [] _
    exact X2.returnOut hx Bd.returns (hb hby d1_9) hr
  · show Q_rm_i10 Z a1 a2 kc h0 n0 _ T2.heap _
    exact ⟨tz_2, kb_2, rfl, N2, KC, F_value_a1_2, F_coder_a1_2, V_tz_2⟩
  · show CHr Z EL s.vm s.heap T2.vm T2.heap
    rw [hh]
    exact hC.trans (CHv.at X2 hZ hEL hC.1)
theorem d42_0 : decode jdk_52_method_21_code 0 = .ok (.iconst 0, 1) := by decide +kernel
theorem d42_1 : decode jdk_52_method_21_code 1 = .ok (.istore 5, 2) := by decide +kernel
theorem d42_3 : decode jdk_52_method_21_code 3 = .ok (.iload 5, 2) := by decide +kernel
theorem d42_5 : decode jdk_52_method_21_code 5 = .ok (.iload 4, 2) := by decide +kernel
theorem d42_7 : decode jdk_52_method_21_code 7 = .ok (.if_icmp .ge 37, 3) := by decide +kernel
theorem d42_10 : decode jdk_52_method_21_code 10 = .ok (.aload_n 0, 1) := by decide +kernel
theorem d42_11 : decode jdk_52_method_21_code 11 = .ok (.iload_n 1, 1) := by decide +kernel
theorem d42_12 : decode jdk_52_method_21_code 12 = .ok (.caload, 1) := by decide +kernel
theorem d42_13 : decode jdk_52_method_21_code 13 = .ok (.istore 6, 2) := by decide +kernel
theorem d42_15 : decode jdk_52_method_21_code 15 = .ok (.iload 6, 2) := by decide +kernel
theorem d42_17 : decode jdk_52_method_21_code 17 = .ok (.sipush 255, 3) := by decide +kernel
theorem d42_20 : decode jdk_52_method_21_code 20 = .ok (.if_icmp .le 6, 3) := by decide +kernel
theorem d42_26 : decode jdk_52_method_21_code 26 = .ok (.aload_n 2, 1) := by decide +kernel
theorem d42_27 : decode jdk_52_method_21_code 27 = .ok (.iload_n 3, 1) := by decide +kernel
theorem d42_28 : decode jdk_52_method_21_code 28 = .ok (.iload 6, 2) := by decide +kernel
theorem d42_30 : decode jdk_52_method_21_code 30 = .ok (.i2b, 1) := by decide +kernel
theorem d42_31 : decode jdk_52_method_21_code 31 = .ok (.bastore, 1) := by decide +kernel
theorem d42_32 : decode jdk_52_method_21_code 32 = .ok (.iinc 1 1, 3) := by decide +kernel
theorem d42_35 : decode jdk_52_method_21_code 35 = .ok (.iinc 3 1, 3) := by decide +kernel
theorem d42_38 : decode jdk_52_method_21_code 38 = .ok (.iinc 5 1, 3) := by decide +kernel
theorem d42_41 : decode jdk_52_method_21_code 41 = .ok (.goto (-38), 3) := by decide +kernel
theorem d42_44 : decode jdk_52_method_21_code 44 = .ok (.iload 4, 2) := by decide +kernel
theorem d42_46 : decode jdk_52_method_21_code 46 = .ok (.ireturn, 1) := by decide +kernel
theorem pn_7 : plainName "java/lang/StringUTF16" = true := by first | (simp [plainName, overriddenIn]; done) | decide +kernel
theorem ef_rm_cmp1 (m : MethodId) (x0 : Addr) (x1 : Int32) (x2 : Addr) (x3 : Int32) (x4 : Int32) : entryFrame m #[(.ref x0), (.int x1), (.ref x2), (.int x3), (.int x4)] 7 = mkF m 0 #[vr x0, vi x1, vr x2, vi x3, vi x4, .unset, .unset] [] := by first | (simp [entryFrame, mkF, argsToLocals, Value.category]; done) | rfl
def Q_rm_cmp1 (Z : State) (a1 : Addr) (a3 : Addr) (kc : ClassId) (kb : ClassId) (x0 : Int32) (h0 : Heap) (n0 : Nat) (v : Option Value) (h : Heap) (L : List Loc) : Prop := (v = some (.int (1 : Int32))) ∧ (Fr n0 L) ∧ (Keep h0 h [a3]) ∧ (Arv Z h a3 kb .byte (1 : Int32) [(.int (own_b x0))] (.int (0 : Int32)))
set_option maxRecDepth 65536 in
set_option maxHeartbeats 40000000 in
theorem rm_cmp1 (l : Launch) (Z : State) (a0 : Array Value) (hw : ∀ d ∈ tables_1, d.before a0 Z = true) (ws : List Jvm.Cond) (a1 : Addr) (a3 : Addr) (kc : ClassId) (kb : ClassId) (x0 : Int32) (h0 : Heap) (n0 : Nat) (Z0 : n0 ≤ h0.size) (O0 : Old Z n0 h0) (V_a1 : Arv Z h0 a1 kc .char (1 : Int32) [(.int x0)] (.int (0 : Int32))) (V_a3 : Arv Z h0 a3 kb .byte (1 : Int32) [(.int (0 : Int32))] (.int (0 : Int32))) (g_a3 : n0 ≤ a3) (ne_13 : a1 ≠ a3) (hx0 : ¬ (255 : Int32) < x0) :
    MetFree l y_29 (head1 (Jvm.Cond.code y_29 jdk_52_method_21_code 7 (some .int) :: ws) ({ frames := 0, cells := 0, slots := 0, locals := 0 } : Room)) (fun a U => a = #[(.ref a1), (.int (0 : Int32)), (.ref a3), (.int (0 : Int32)), (.int (1 : Int32))] ∧ Z.Warmed39 U.vm ∧ U.heap = h0) (fun _ _ _ _ _ => True) (fun _ U o U' => ∃ v L, o = .returned v ∧ Q_rm_cmp1 Z a1 a3 kc kb x0 h0 n0 v U'.heap L ∧ FrameEnd U o U' L ({ frames := 0, cells := 0, slots := 0, locals := 0 } : Room).cells ({ frames := 0, cells := 0, slots := 0, locals := 0 } : Room).slots) := by
  refine MetFree.of_bodySF (plainFor_of_name pn_7) hisR ?_
  intro p e s m args below meth c s₁ Bd hml0 hP hK
  obtain ⟨rfl, hZ, hh⟩ := hP
  have hx := Bd.exec
  have hby := Bd.bytes
  have hml : c.maxLocals = 7 := hml0
  have hown : s.vm.findClass "java/lang/StringUTF16" = some m.cls := findClass_of_methodNamed Bd.named
  have hnm := (name_of_methodNamed Bd.named Bd.method).1
  have X0 : Stand p l e ({ frames := 0, cells := 0, slots := 0, locals := 0 } : Room) s m #[(.ref a1), (.int (0 : Int32)), (.ref a3), (.int (0 : Int32)), (.int (1 : Int32))] below meth c s₁ [] 0 0 := Stand.of_body Bd
  have e0 : s₁.heap = h0 := by rw [← hh, Bd.state]; rfl
  have N0 := Fr.nil n0
  have KC : Keep h0 h0 [a3] := Keep.refl h0 _
  have pre0 : ∀ t, Steps p.tables e below (s₁.setTop (mkF m 0 #[vr a1, vi (0 : Int32), vr a3, vi (0 : Int32), vi (1 : Int32), un, un] [])) t → Steps p.tables e below (s₁.setTop (entryFrame m #[(.ref a1), (.int (0 : Int32)), (.ref a3), (.int (0 : Int32)), (.int (1 : Int32))] 7)) t := fun t k => castTop (ef_rm_cmp1 m a1 (0 : Int32) a3 (0 : Int32) (1 : Int32)) k
  have Vo1 := V_a1
  obtain ⟨cl1, Ar1, q1, Sz1, Nn1, Hh1, Gg1⟩ := Vo1
  have hin1 : ¬ ((0 : Int32) < 0 ∨ cl1.slots.size ≤ ((0 : Int32)).toNatClampNeg) := inb_of Sz1 ⟨by decide, by decide⟩
  have hat1 : cl1.slots[((0 : Int32)).toNatClampNeg]? = some (.int x0) := Has.at Hh1 hin1 rfl
  have ia1 := State.isArrayOf_alike hZ.alike Ar1.2.1
  have Vo2 := V_a3
  obtain ⟨cl2, Ar2, q2, Sz2, Nn2, Hh2, Gg2⟩ := Vo2
  have hin2 : ¬ ((0 : Int32) < 0 ∨ cl2.slots.size ≤ ((0 : Int32)).toNatClampNeg) := inb_of Sz2 ⟨by decide, by decide⟩
  obtain ⟨T3, h3, X3, e3, W3, st3⟩ := stB X0 hx hZ e0 Ar2 (j := (0 : Int32)) hin2 (g := (mkF m 31 #[vr a1, vi (0 : Int32), vr a3, vi (0 : Int32), vi (1 : Int32), vi (0 : Int32), vi x0] [(.int (x0.toInt8.toInt32)), (.int (0 : Int32)), (.ref a3)])) rfl rfl (hb hby d42_31)
  have Vn3 := Arv.set Ar2 q2 Sz2 Nn2 Hh2 Gg2 (fits_nar_byte _) W3 (0) rfl (Nat.le_of_ble_eq_true rfl)
  have N3 := Fr.snoc X3 N0 g_a3
  have Vm3 : Arv Z h3 a3 kb .byte (1 : Int32) [(.int (own_b x0))] (.int (0 : Int32)) := by have hh := Vn3; rw [own_bb] at hh; exact hh
  replace V_a1 := V_a1.other W3 ne_13
  replace O0 := O0.wr W3 g_a3
  replace KC := KC.wr W3 (Or.inl (List.mem_of_getElem? (i := 0) rfl))
  obtain ⟨fs, hr, hrun, hended, hW, hsame⟩ := X3.leave (v := some (.int (1 : Int32))) (fun h => by rw [Bd.returns] at h; cases h)
  refine ⟨_, _, pre0 _ ?_, hrun, hended, _, _, rfl, ?_, ⟨_, rfl⟩, hW, hsame.mono (by decide) (by decide)⟩
  · show SS p e below m s₁ 0 #[vr a1, vi (0 : Int32), vr a3, vi (0 : Int32), vi (1 : Int32), un, un] [] _
    refine XS.iconst X0.here hx rfl (hb hby d42_0) ?_
    show SS p e below m s₁ 1 #[vr a1, vi (0 : Int32), vr a3, vi (0 : Int32), vi (1 : Int32), un, un] [(.int (0 : Int32))] _
    refine XS.istore X0.here hx rfl (hb hby d42_1) rfl (l' := #[vr a1, vi (0 : Int32), vr a3, vi (0 : Int32), vi (1 : Int32), vi (0 : Int32), un]) rfl ?_
    show SS p e below m s₁ 3 #[vr a1, vi (0 : Int32), vr a3, vi (0 : Int32), vi (1 : Int32), vi (0 : Int32), un] [] _
    refine XS.iload X0.here hx rfl (hb hby d42_3) rfl ?_
    show SS p e below m s₁ 5 #[vr a1, vi (0 : Int32), vr a3, vi (0 : Int32), vi (1 : Int32), vi (0 : Int32), un] [(.int (0 : Int32))] _
    refine XS.iload X0.here hx rfl (hb hby d42_5) rfl ?_
    show SS p e below m s₁ 7 #[vr a1, vi (0 : Int32), vr a3, vi (0 : Int32), vi (1 : Int32), vi (0 : Int32), un] [(.int (1 : Int32)), (.int (0 : Int32))] _
    refine XS.icmpNo X0.here hx rfl (hb hby d42_7) rfl (tlt (by decide)).2.1 ?_
    show SS p e below m s₁ 10 #[vr a1, vi (0 : Int32), vr a3, vi (0 : Int32), vi (1 : Int32), vi (0 : Int32), un] [] _
    refine XS.aloadN X0.here hx rfl (hb hby d42_10) rfl rfl ?_
    show SS p e below m s₁ 11 #[vr a1, vi (0 : Int32), vr a3, vi (0 : Int32), vi (1 : Int32), vi (0 : Int32), un] [(.ref a1)] _
    refine XS.iloadN X0.here hx rfl (hb hby d42_11) rfl ?_
    show SS p e below m s₁ 12 #[vr a1, vi (0 : Int32), vr a3, vi (0 : Int32), vi (1 : Int32), vi (0 : Int32), un] [(.int (0 : Int32)), (.ref a1)] _
    refine X0.caload hx (j := (0 : Int32)) (v := (.int x0)) (by rw [e0]; exact Ar1.1) ia1 Ar1.2.2 hin1 hat1 (g := (mkF m 12 #[vr a1, vi (0 : Int32), vr a3, vi (0 : Int32), vi (1 : Int32), vi (0 : Int32), un] [(.int (0 : Int32)), (.ref a1)])) rfl rfl (hb hby d42_12) _ ?_
    show SS p e below m s₁ 13 #[vr a1, vi (0 : Int32), vr a3, vi (0 : Int32), vi (1 : Int32), vi (0 : Int32), un] [(.int x0)] _
    refine XS.istore X0.here hx rfl (hb hby d42_13) rfl (l' := #[vr a1, vi (0 : Int32), vr a3, vi (0 : Int32), vi (1 : Int32), vi (0 : Int32), vi x0]) rfl ?_
    show SS p e below m s₁ 15 #[vr a1, vi (0 : Int32), vr a3, vi (0 : Int32), vi (1 : Int32), vi (0 : Int32), vi x0] [] _
    refine XS.iload X0.here hx rfl (hb hby d42_15) rfl ?_
    show SS p e below m s₁ 17 #[vr a1, vi (0 : Int32), vr a3, vi (0 : Int32), vi (1 : Int32), vi (0 : Int32), vi x0] [(.int x0)] _
    refine XS.sipush X0.here hx rfl (hb hby d42_17) ?_
    show SS p e below m s₁ 20 #[vr a1, vi (0 : Int32), vr a3, vi (0 : Int32), vi (1 : Int32), vi (0 : Int32), vi x0] [(.int (255 : Int32)), (.int x0)] _
    refine XS.icmpYes X0.here hx rfl (pc0 := 20) (pc' := 26) rfl (hb hby d42_20) rfl (flt hx0).2.2.2 (by decide) (by decide) ?_
    show SS p e below m s₁ 26 #[vr a1, vi (0 : Int32), vr a3, vi (0 : Int32), vi (1 : Int32), vi (0 : Int32), vi x0] [] _
    refine XS.aloadN X0.here hx rfl (hb hby d42_26) rfl rfl ?_
    show SS p e below m s₁ 27 #[vr a1, vi (0 : Int32), vr a3, vi (0 : Int32), vi (1 : Int32), vi (0 : Int32), vi x0] [(.ref a3)] _
    refine XS.iloadN X0.here hx rfl (hb hby d42_27) rfl ?_
    show SS p e below m s₁ 28 #[vr a1, vi (0 : Int32), vr a3, vi (0 : Int32), vi (1 : Int32), vi (0 : Int32), vi x0] [(.int (0 : Int32)), (.ref a3)] _
    refine XS.iload X0.here hx rfl (hb hby d42_28) rfl ?_
    show SS p e below m s₁ 30 #[vr a1, vi (0 : Int32), vr a3, vi (0 : Int32), vi (1 : Int32), vi (0 : Int32), vi x0] [(.int x0), (.int (0 : Int32)), (.ref a3)] _
    refine XS.i2b X0.here hx rfl (hb hby d42_30) rfl ?_
    show SS p e below m s₁ 31 #[vr a1, vi (0 : Int32), vr a3, vi (0 : Int32), vi (1 : Int32), vi (0 : Int32), vi x0] [(.int (x0.toInt8.toInt32)), (.int (0 : Int32)), (.ref a3)] _
    refine st3 _ ?_
    show SS p e below m T3 32 #[vr a1, vi (0 : Int32), vr a3, vi (0 : Int32), vi (1 : Int32), vi (0 : Int32), vi x0] [] _
    refine XS.iinc X3.here hx rfl (hb hby d42_32) rfl (l' := #[vr a1, vi (1 : Int32), vr a3, vi (0 : Int32), vi (1 : Int32), vi (0 : Int32), vi x0]) rfl ?_
    show SS p e below m T3 35 #[vr a1, vi (1 : Int32), vr a3, vi (0 : Int32), vi (1 : Int32), vi (0 : Int32), vi x0] [] _
    refine XS.iinc X3.here hx rfl (hb hby d42_35) rfl (l' := #[vr a1, vi (1 : Int32), vr a3, vi (1 : Int32), vi (1 : Int32), vi (0 : Int32), vi x0]) rfl ?_
    show SS p e below m T3 38 #[vr a1, vi (1 : Int32), vr a3, vi (1 : Int32), vi (1 : Int32), vi (0 : Int32), vi x0] [] _
    refine XS.iinc X3.here hx rfl (hb hby d42_38) rfl (l' := #[vr a1, vi (1 : Int32), vr a3, vi (1 : Int32), vi (1 : Int32), vi (1 : Int32), vi x0]) rfl ?_
    show SS p e below m T3 41 #[vr a1, vi (1 : Int32), vr a3, vi (1 : Int32), vi (1 : Int32), vi (1 : Int32), vi x0] [] _
    refine XS.goto X3.here hx rfl (pc0 := 41) (pc' := 3) rfl (hb hby d42_41) (by decide) (by decide) ?_
    show SS p e below m T3 3 #[vr a1, vi (1 : Int32), vr a3, vi (1 : Int32), vi (1 : Int32), vi (1 : Int32), vi x0] [] _
    refine XS.iload X3.here hx rfl (hb hby d42_3) rfl ?_
    show SS p e below m T3 5 #[vr a1, vi (1 : Int32), vr a3, vi (1 : Int32), vi (1 : Int32), vi (1 : Int32), vi x0] [(.int (1 : Int32))] _
    refine XS.iload X3.here hx rfl (hb hby d42_5) rfl ?_
    show SS p e below m T3 7 #[vr a1, vi (1 : Int32), vr a3, vi (1 : Int32), vi (1 : Int32), vi (1 : Int32), vi x0] [(.int (1 : Int32)), (.int (1 : Int32))] _
    refine XS.icmpYes X3.here hx rfl (pc0 := 7) (pc' := 44) rfl (hb hby d42_7) rfl (flt (by decide)).2.1 (by decide) (by decide) ?_
    show SS p e below m T3 44 #[vr a1, vi (1 : Int32), vr a3, vi (1 : Int32), vi (1 : Int32), vi (1 : Int32), vi x0] [] _
    refine XS.iload X3.here hx rfl (hb hby d42_44) rfl ?_
    show SS p e below m T3 46 #[vr a1, vi (1 : Int32), vr a3, vi (1 : Int32), vi (1 : Int32), vi (1 : Int32), vi x0] [(.int (1 : Int32))] _
    exact retI X3 hx Bd.returns (hb hby d42_46) hr
  · show Q_rm_cmp1 Z a1 a3 kc kb x0 h0 n0 _ T3.heap _
    rw [e3]
    exact ⟨rfl, N3, KC, Vm3⟩
theorem pd_17 : parseMethodDescriptor "([CI[BII)I" = some ⟨[(.array .char), .int, (.array .byte), .int, .int], some .int⟩ := by decide +kernel
theorem d41_0 : decode jdk_52_method_16_code 0 = .ok (.iload_n 2, 1) := by decide +kernel
theorem d41_1 : decode jdk_52_method_16_code 1 = .ok (.newarray .byte, 2) := by decide +kernel
theorem d41_3 : decode jdk_52_method_16_code 3 = .ok (.astore_n 3, 1) := by decide +kernel
theorem d41_4 : decode jdk_52_method_16_code 4 = .ok (.aload_n 0, 1) := by decide +kernel
theorem d41_5 : decode jdk_52_method_16_code 5 = .ok (.iload_n 1, 1) := by decide +kernel
theorem d41_6 : decode jdk_52_method_16_code 6 = .ok (.aload_n 3, 1) := by decide +kernel
theorem d41_7 : decode jdk_52_method_16_code 7 = .ok (.iconst 0, 1) := by decide +kernel
theorem d41_8 : decode jdk_52_method_16_code 8 = .ok (.iload_n 2, 1) := by decide +kernel
theorem d41_9 : decode jdk_52_method_16_code 9 = .ok (.invokestatic 115, 3) := by decide +kernel
theorem d41_12 : decode jdk_52_method_16_code 12 = .ok (.istore 4, 2) := by decide +kernel
theorem d41_14 : decode jdk_52_method_16_code 14 = .ok (.iload 4, 2) := by decide +kernel
theorem d41_16 : decode jdk_52_method_16_code 16 = .ok (.iload_n 2, 1) := by decide +kernel
theorem d41_17 : decode jdk_52_method_16_code 17 = .ok (.if_icmp .eq 40, 3) := by decide +kernel
theorem d41_57 : decode jdk_52_method_16_code 57 = .ok (.aload_n 3, 1) := by decide +kernel
theorem d41_58 : decode jdk_52_method_16_code 58 = .ok (.areturn, 1) := by decide +kernel
theorem ef_rm_cm1 (m : MethodId) (x0 : Addr) (x1 : Int32) (x2 : Int32) : entryFrame m #[(.ref x0), (.int x1), (.int x2)] 6 = mkF m 0 #[vr x0, vi x1, vi x2, .unset, .unset, .unset] [] := by first | (simp [entryFrame, mkF, argsToLocals, Value.category]; done) | rfl
def Q_rm_cm1 (Z : State) (a1 : Addr) (kc : ClassId) (x0 : Int32) (h0 : Heap) (n0 : Nat) (v : Option Value) (h : Heap) (L : List Loc) : Prop := ∃ tz : Addr, ∃ kb : ClassId, (v = some (.ref tz)) ∧ (Fr n0 L) ∧ (Keep h0 h []) ∧ (h0.size ≤ tz) ∧ (Arv Z h tz kb .byte (1 : Int32) [(.int (own_b x0))] (.int (0 : Int32)))
set_option maxRecDepth 65536 in
set_option maxHeartbeats 40000000 in
theorem rm_cm1 (l : Launch) (Z : State) (a0 : Array Value) (hw : ∀ d ∈ tables_1, d.before a0 Z = true) (ws : List Jvm.Cond) (a1 : Addr) (kc : ClassId) (x0 : Int32) (h0 : Heap) (n0 : Nat) (Z0 : n0 ≤ h0.size) (O0 : Old Z n0 h0) (V_a1 : Arv Z h0 a1 kc .char (1 : Int32) [(.int x0)] (.int (0 : Int32))) (hx0 : ¬ (255 : Int32) < x0) :
    MetFree l y_30 (head1 (Jvm.Cond.code y_30 jdk_52_method_16_code 6 (some (.array .byte)) :: ws) ({ frames := 1, cells := 1, slots := 1, locals := 18 } : Room)) (fun a U => a = #[(.ref a1), (.int (0 : Int32)), (.int (1 : Int32))] ∧ Z.Warmed39 U.vm ∧ U.heap = h0) (fun _ _ _ _ _ => True) (fun _ U o U' => ∃ v L, o = .returned v ∧ Q_rm_cm1 Z a1 kc x0 h0 n0 v U'.heap L ∧ FrameEnd U o U' L ({ frames := 1, cells := 1, slots := 1, locals := 18 } : Room).cells ({ frames := 1, cells := 1, slots := 1, locals := 18 } : Room).slots) := by
  refine MetFree.of_bodySF (plainFor_of_name pn_7) hisR ?_
  intro p e s m args below meth c s₁ Bd hml0 hP hK
  obtain ⟨rfl, hZ, hh⟩ := hP
  have hx := Bd.exec
  have hby := Bd.bytes
  have hml : c.maxLocals = 6 := hml0
  have hown : s.vm.findClass "java/lang/StringUTF16" = some m.cls := findClass_of_methodNamed Bd.named
  have hnm := (name_of_methodNamed Bd.named Bd.method).1
  have X0 : Stand p l e ({ frames := 1, cells := 1, slots := 1, locals := 18 } : Room) s m #[(.ref a1), (.int (0 : Int32)), (.int (1 : Int32))] below meth c s₁ [] 0 0 := Stand.of_body Bd
  have e0 : s₁.heap = h0 := by rw [← hh, Bd.state]; rfl
  have N0 := Fr.nil n0
  have KC : Keep h0 h0 [] := Keep.refl h0 _
  have pre0 : ∀ t, Steps p.tables e below (s₁.setTop (mkF m 0 #[vr a1, vi (0 : Int32), vi (1 : Int32), un, un, un] [])) t → Steps p.tables e below (s₁.setTop (entryFrame m #[(.ref a1), (.int (0 : Int32)), (.int (1 : Int32))] 6)) t := fun t k => castTop (ef_rm_cm1 m a1 (0 : Int32) (1 : Int32)) k
  obtain ⟨T1, h1, k1, X1, e1, E1, A1, st1⟩ := newP X0 hx hZ (ww hw 15 rfl) e0 (g := (mkF m 1 #[vr a1, vi (0 : Int32), vi (1 : Int32), un, un, un] [(.int (1 : Int32))])) rfl (hb hby d41_1) rfl (by decide) (cap := 1) (by decide) (by decide) (by decide) (by decide)
  obtain ⟨b1, g1⟩ : ∃ z, z = h0.size := ⟨_, rfl⟩
  rw [← g1] at A1 st1
  have ne_a1_b1 : a1 ≠ b1 := Nat.ne_of_lt (Nat.lt_of_lt_of_le V_a1.lt (Nat.le_of_eq g1.symm))
  have g_b1 : n0 ≤ b1 := Nat.le_trans (Nat.le_trans Z0 KC.1) (Nat.le_of_eq g1.symm)
  have sz_b1 : h0.size ≤ b1 := Nat.le_trans KC.1 (Nat.le_of_eq g1.symm)
  replace V_a1 := V_a1.ext E1
  replace O0 := O0.ext E1
  replace KC := KC.ext E1
  have V_b1 : Arv Z h1 b1 k1 .byte (1 : Int32) [(.int (0 : Int32))] (.int (0 : Int32)) := (Arv.new A1 (by decide)).pad (pad_rep [] (.int (0 : Int32)) 1)
  obtain ⟨_, _, ⟨T2, L2, kz2, nz2⟩, -, X2, ⟨Lc2, hQ2, l2, y2, z2⟩, st2⟩ := Jvm.LawKit.callS X1 hx (y := y_29) hown (mvT hZ (ww hw 224 rfl)) (mvT hZ (ww hw 225 rfl)) (mvT hZ (ww hw 222 rfl)) (mvT hZ (ww hw 226 rfl)) (by decide) (backOf (W := 0) (rm_cmp1 l Z a0 hw [] a1 b1 kc k1 x0 h1 n0 (Nat.le_trans Z0 KC.1) O0 V_a1 V_b1 g_b1 ne_a1_b1 hx0) hZ (ww hw 226 rfl) (ww hw 222 rfl) (by decide) (by decide)) (g := (mkF m 9 #[vr a1, vi (0 : Int32), vi (1 : Int32), vr b1, un, un] [(.int (1 : Int32)), (.int (0 : Int32)), (.ref b1), (.int (0 : Int32)), (.ref a1)])) rfl (by rw [hml]; rfl) (argsL := [(.ref a1), (.int (0 : Int32)), (.ref b1), (.int (0 : Int32)), (.int (1 : Int32))]) (rest := []) (lenOf pd_17 rfl) rfl (by show 2 * 0 + _ ≤ _; exact Nat.le_of_eq rfl) (hb hby d41_9) (fun _ _ => ⟨rfl, e1, (by decide : 1 + 0 ≤ _), (by decide : 1 + 0 ≤ _)⟩)
  dsimp only [Pt.U, Pt.locs, Pt.cells, Pt.slots] at X2 l2 y2 z2 st2 hQ2
  subst l2 y2 z2
  obtain ⟨rfl, N2q, K2, V_a3_2⟩ := hQ2
  have N2 := Fr.app N0 N2q
  replace V_a1 := V_a1.keep K2 (ninS ne_a1_b1 nin0)
  replace O0 := O0.keep K2 (allS g_b1 all0)
  replace KC := KC.trans K2 (allS (Or.inr sz_b1) all0)
  obtain ⟨fs, hr, hrun, hended, hW, hsame⟩ := X2.leave (v := some (.ref b1)) (fun h => by rw [Bd.returns] at h; cases h)
  refine ⟨_, _, pre0 _ ?_, hrun, hended, _, _, rfl, ?_, ⟨_, rfl⟩, hW, hsame.mono (by decide) (by decide)⟩
  · show SS p e below m s₁ 0 #[vr a1, vi (0 : Int32), vi (1 : Int32), un, un, un] [] _
    refine XS.iloadN X0.here hx rfl (hb hby d41_0) rfl ?_
    show SS p e below m s₁ 1 #[vr a1, vi (0 : Int32), vi (1 : Int32), un, un, un] [(.int (1 : Int32))] _
    refine st1 _ ?_
    show SS p e below m T1 3 #[vr a1, vi (0 : Int32), vi (1 : Int32), un, un, un] [(.ref b1)] _
    refine XS.astoreN X1.here hx rfl (hb hby d41_3) rfl rfl (l' := #[vr a1, vi (0 : Int32), vi (1 : Int32), vr b1, un, un]) rfl ?_
    show SS p e below m T1 4 #[vr a1, vi (0 : Int32), vi (1 : Int32), vr b1, un, un] [] _
    refine XS.aloadN X1.here hx rfl (hb hby d41_4) rfl rfl ?_
    show SS p e below m T1 5 #[vr a1, vi (0 : Int32), vi (1 : Int32), vr b1, un, un] [(.ref a1)] _
    refine XS.iloadN X1.here hx rfl (hb hby d41_5) rfl ?_
    show SS p e below m T1 6 #[vr a1, vi (0 : Int32), vi (1 : Int32), vr b1, un, un] [(.int (0 : Int32)), (.ref a1)] _
    refine XS.aloadN X1.here hx rfl (hb hby d41_6) rfl rfl ?_
    show SS p e below m T1 7 #[vr a1, vi (0 : Int32), vi (1 : Int32), vr b1, un, un] [(.ref b1), (.int (0 : Int32)), (.ref a1)] _
    refine XS.iconst X1.here hx rfl (hb hby d41_7) ?_
    show SS p e below m T1 8 #[vr a1, vi (0 : Int32), vi (1 : Int32), vr b1, un, un] [(.int (0 : Int32)), (.ref b1), (.int (0 : Int32)), (.ref a1)] _
    refine XS.iloadN X1.here hx rfl (hb hby d41_8) rfl ?_
    show SS p e below m T1 9 #[vr a1, vi (0 : Int32), vi (1 : Int32), vr b1, un, un] [(.int (1 : Int32)), (.int (0 : Int32)), (.ref b1), (.int (0 : Int32)), (.ref a1)] _
    refine st2 _ ?_
    show SS p e below m T2 12 #[vr a1, vi (0 : Int32), vi (1 : Int32), vr b1, un, un] [(.int (1 : Int32))] _
    refine XS.istore X2.here hx rfl (hb hby d41_12) rfl (l' := #[vr a1, vi (0 : Int32), vi (1 : Int32), vr b1, vi (1 : Int32), un]) rfl ?_
    show SS p e below m T2 14 #[vr a1, vi (0 : Int32), vi (1 : Int32), vr b1, vi (1 : Int32), un] [] _
    refine XS.iload X2.here hx rfl (hb hby d41_14) rfl ?_
    show SS p e below m T2 16 #[vr a1, vi (0 : Int32), vi (1 : Int32), vr b1, vi (1 : Int32), un] [(.int (1 : Int32))] _
    refine XS.iloadN X2.here hx rfl (hb hby d41_16) rfl ?_
    show SS p e below m T2 17 #[vr a1, vi (0 : Int32), vi (1 : Int32), vr b1, vi (1 : Int32), un] [(.int (1 : Int32)), (.int (1 : Int32))] _
    refine XS.icmpYes X2.here hx rfl (pc0 := 17) (pc' := 57) rfl (hb hby d41_17) rfl (teq (by decide)).1 (by decide) (by decide) ?_
    show SS p e below m T2 57 #[vr a1, vi (0 : Int32), vi (1 : Int32), vr b1, vi (1 : Int32), un] [] _
    refine XS.aloadN X2.here hx rfl (hb hby d41_57) rfl rfl ?_
    show SS p e below m T2 58 #[vr a1, vi (0 : Int32), vi (1 : Int32), vr b1, vi (1 : Int32), un] [(.ref b1)] _
    jvm_step X2.here [X2.here.top, hx, (hb hby d41_58), X2.method', Bd.returns, Value.isRef, FieldType.isReference]
    first | (intro acts; rw [hr _ acts rfl rfl rfl]) | rw [hr _ _ rfl rfl rfl]
    exact Steps.refl _
  · show Q_rm_cm1 Z a1 kc x0 h0 n0 _ T2.heap _
    exact ⟨b1, k1, rfl, N2, KC, sz_b1, V_a3_2⟩
theorem d43_0 : decode jdk_52_method_15_code 0 = .ok (.iload_n 1, 1) := by decide +kernel
theorem d43_1 : decode jdk_52_method_15_code 1 = .ok (.aload_n 0, 1) := by decide +kernel
theorem d43_2 : decode jdk_52_method_15_code 2 = .ok (.arraylength, 1) := by decide +kernel
theorem d43_3 : decode jdk_52_method_15_code 3 = .ok (.isub, 1) := by decide +kernel
theorem d43_4 : decode jdk_52_method_15_code 4 = .ok (.bipush 31, 2) := by decide +kernel
theorem d43_6 : decode jdk_52_method_15_code 6 = .ok (.iushr, 1) := by decide +kernel
theorem d43_7 : decode jdk_52_method_15_code 7 = .ok (.i2b, 1) := by decide +kernel
theorem d43_8 : decode jdk_52_method_15_code 8 = .ok (.ireturn, 1) := by decide +kernel
theorem ef_rm_cf1 (m : MethodId) (x0 : Addr) (x1 : Int32) : entryFrame m #[(.ref x0), (.int x1)] 2 = mkF m 0 #[vr x0, vi x1] [] := by first | (simp [entryFrame, mkF, argsToLocals, Value.category]; done) | rfl
def Q_rm_cf1 (Z : State) (a1 : Addr) (kb : ClassId) (vs : List Value) (h0 : Heap) (n0 : Nat) (v : Option Value) (h : Heap) (L : List Loc) : Prop := (v = some (.int (0 : Int32))) ∧ (Fr n0 L) ∧ (h = h0)
set_option maxRecDepth 65536 in
set_option maxHeartbeats 40000000 in
theorem rm_cf1 (l : Launch) (Z : State) (a0 : Array Value) (hw : ∀ d ∈ tables_1, d.before a0 Z = true) (ws : List Jvm.Cond) (a1 : Addr) (kb : ClassId) (vs : List Value) (h0 : Heap) (n0 : Nat) (Z0 : n0 ≤ h0.size) (O0 : Old Z n0 h0) (V_a1 : Arv Z h0 a1 kb .byte (1 : Int32) vs (.int (0 : Int32))) :
    MetFree l y_31 (head1 (Jvm.Cond.code y_31 jdk_52_method_15_code 2 (some .byte) :: ws) ({ frames := 0, cells := 0, slots := 0, locals := 0 } : Room)) (fun a U => a = #[(.ref a1), (.int (1 : Int32))] ∧ Z.Warmed39 U.vm ∧ U.heap = h0) (fun _ _ _ _ _ => True) (fun _ U o U' => ∃ v L, o = .returned v ∧ Q_rm_cf1 Z a1 kb vs h0 n0 v U'.heap L ∧ FrameEnd U o U' L ({ frames := 0, cells := 0, slots := 0, locals := 0 } : Room).cells ({ frames := 0, cells := 0, slots := 0, locals := 0 } : Room).slots) := by
  refine MetFree.of_bodySF (plainFor_of_name pn_7) hisR ?_
  intro p e s m args below meth c s₁ Bd hml0 hP hK
  obtain ⟨rfl, hZ, hh⟩ := hP
  have hx := Bd.exec
  have hby := Bd.bytes
  have hml : c.maxLocals = 2 := hml0
  have hown : s.vm.findClass "java/lang/StringUTF16" = some m.cls := findClass_of_methodNamed Bd.named
  have hnm := (name_of_methodNamed Bd.named Bd.method).1
  have X0 : Stand p l e ({ frames := 0, cells := 0, slots := 0, locals := 0 } : Room) s m #[(.ref a1), (.int (1 : Int32))] below meth c s₁ [] 0 0 := Stand.of_body Bd
  have e0 : s₁.heap = h0 := by rw [← hh, Bd.state]; rfl
  have N0 := Fr.nil n0
  have KC : Keep h0 h0 [] := Keep.refl h0 _
  have pre0 : ∀ t, Steps p.tables e below (s₁.setTop (mkF m 0 #[vr a1, vi (1 : Int32)] [])) t → Steps p.tables e below (s₁.setTop (entryFrame m #[(.ref a1), (.int (1 : Int32))] 2)) t := fun t k => castTop (ef_rm_cf1 m a1 (1 : Int32)) k
  have Vo1 := V_a1
  obtain ⟨cl1, Ar1, -, Sz1, Nn1, -, -⟩ := Vo1
  have ia1 := State.isArrayOf_alike hZ.alike Ar1.2.1
  obtain ⟨fs, hr, hrun, hended, hW, hsame⟩ := X0.leave (v := some (.int (nar .byte ((((0 : Int32).toUInt32 >>> ((31 : Int32) &&& 31).toUInt32).toInt32).toInt8.toInt32)))) (fun h => by rw [Bd.returns] at h; cases h)
  refine ⟨_, _, pre0 _ ?_, hrun, hended, _, _, rfl, ?_, ⟨_, rfl⟩, hW, hsame.mono (by decide) (by decide)⟩
  · show SS p e below m s₁ 0 #[vr a1, vi (1 : Int32)] [] _
    refine XS.iloadN X0.here hx rfl (hb hby d43_0) rfl ?_
    show SS p e below m s₁ 1 #[vr a1, vi (1 : Int32)] [(.int (1 : Int32))] _
    refine XS.aloadN X0.here hx rfl (hb hby d43_1) rfl rfl ?_
    show SS p e below m s₁ 2 #[vr a1, vi (1 : Int32)] [(.ref a1), (.int (1 : Int32))] _
    refine X0.arraylength hx (by rw [e0]; exact Ar1.1) ia1 (g := (mkF m 2 #[vr a1, vi (1 : Int32)] [(.ref a1), (.int (1 : Int32))])) rfl rfl (hb hby d43_2) _ ?_
    rw [len_of Sz1 Nn1]
    show SS p e below m s₁ 3 #[vr a1, vi (1 : Int32)] [(.int (1 : Int32)), (.int (1 : Int32))] _
    refine XS.isub X0.here hx rfl (hb hby d43_3) rfl ?_
    show SS p e below m s₁ 4 #[vr a1, vi (1 : Int32)] [(.int (0 : Int32))] _
    refine XS.bipush X0.here hx rfl (hb hby d43_4) ?_
    show SS p e below m s₁ 6 #[vr a1, vi (1 : Int32)] [(.int (31 : Int32)), (.int (0 : Int32))] _
    refine XS.iushr X0.here hx rfl (hb hby d43_6) rfl ?_
    show SS p e below m s₁ 7 #[vr a1, vi (1 : Int32)] [(.int (((0 : Int32).toUInt32 >>> ((31 : Int32) &&& 31).toUInt32).toInt32))] _
    refine XS.i2b X0.here hx rfl (hb hby d43_7) rfl ?_
    show SS p e below m s₁ 8 #[vr a1, vi (1 : Int32)] [(.int ((((0 : Int32).toUInt32 >>> ((31 : Int32) &&& 31).toUInt32).toInt32).toInt8.toInt32))] _
    exact retN X0 hx (t := .byte) Bd.returns (by simp) (hb hby d43_8) hr
  · show Q_rm_cf1 Z a1 kb vs h0 n0 _ s₁.heap _
    rw [e0]
    exact ⟨(by decide), N0, rfl⟩
theorem pd_18 : parseMethodDescriptor "([CII)[B" = some ⟨[(.array .char), .int, .int], some (.array .byte)⟩ := by decide +kernel
theorem pd_19 : parseMethodDescriptor "([BI)B" = some ⟨[(.array .byte), .int], some .byte⟩ := by decide +kernel
theorem d2_27 : decode jdk_42_method_149_code 27 = .ok (.getstatic 38, 3) := by decide +kernel
theorem d2_30 : decode jdk_42_method_149_code 30 = .ok (.ifCond .eq 28, 3) := by decide +kernel
theorem d2_33 : decode jdk_42_method_149_code 33 = .ok (.aload_n 1, 1) := by decide +kernel
theorem d2_34 : decode jdk_42_method_149_code 34 = .ok (.iload_n 2, 1) := by decide +kernel
theorem d2_35 : decode jdk_42_method_149_code 35 = .ok (.iload_n 3, 1) := by decide +kernel
theorem d2_36 : decode jdk_42_method_149_code 36 = .ok (.invokestatic 177, 3) := by decide +kernel
theorem d2_39 : decode jdk_42_method_149_code 39 = .ok (.astore 5, 2) := by decide +kernel
theorem d2_41 : decode jdk_42_method_149_code 41 = .ok (.aload_n 0, 1) := by decide +kernel
theorem d2_42 : decode jdk_42_method_149_code 42 = .ok (.aload 5, 2) := by decide +kernel
theorem d2_44 : decode jdk_42_method_149_code 44 = .ok (.iload_n 3, 1) := by decide +kernel
theorem d2_45 : decode jdk_42_method_149_code 45 = .ok (.invokestatic 47, 3) := by decide +kernel
theorem d2_48 : decode jdk_42_method_149_code 48 = .ok (.putfield 15, 3) := by decide +kernel
theorem d2_51 : decode jdk_42_method_149_code 51 = .ok (.aload_n 0, 1) := by decide +kernel
theorem d2_52 : decode jdk_42_method_149_code 52 = .ok (.aload 5, 2) := by decide +kernel
theorem d2_54 : decode jdk_42_method_149_code 54 = .ok (.putfield 9, 3) := by decide +kernel
theorem d2_57 : decode jdk_42_method_149_code 57 = .ok (.return_, 1) := by decide +kernel
theorem ef_rm_i41 (m : MethodId) (x0 : Addr) (x1 : Addr) (x2 : Int32) (x3 : Int32) : entryFrame m #[(.ref x0), (.ref x1), (.int x2), (.int x3), .null] 6 = mkF m 0 #[vr x0, vr x1, vi x2, vi x3, vN, .unset] [] := by first | (simp [entryFrame, mkF, argsToLocals, Value.category]; done) | rfl
def Q_rm_i41 (Z : State) (a1 : Addr) (a2 : Addr) (kc : ClassId) (x0 : Int32) (zc : Int32) (h0 : Heap) (n0 : Nat) (v : Option Value) (h : Heap) (L : List Loc) : Prop := ∃ tz : Addr, ∃ kb : ClassId, (v = none) ∧ (Fr n0 L) ∧ (Keep h0 h [a1]) ∧ (h0.size ≤ tz) ∧ (Fld Z h a1 "java/lang/String" "value" "[B" (.ref tz)) ∧ (Fld Z h a1 "java/lang/String" "coder" "B" (.int (0 : Int32))) ∧ (Arv Z h tz kb .byte (1 : Int32) [(.int (own_b x0))] (.int (0 : Int32)))
set_option maxRecDepth 65536 in
set_option maxHeartbeats 40000000 in
theorem rm_i41 (l : Launch) (Z : State) (a0 : Array Value) (hw : ∀ d ∈ tables_1, d.before a0 Z = true) (ws : List Jvm.Cond) (a1 : Addr) (a2 : Addr) (kc : ClassId) (x0 : Int32) (zc : Int32) (h0 : Heap) (n0 : Nat) (Z0 : n0 ≤ h0.size) (O0 : Old Z n0 h0) (F_value_a1 : Fld Z h0 a1 "java/lang/String" "value" "[B" .null) (F_coder_a1 : Fld Z h0 a1 "java/lang/String" "coder" "B" (.int (0 : Int32))) (E_a1 : Exa Z h0 a1 "java/lang/String") (g_a1 : n0 ≤ a1) (V_a2 : Arv Z h0 a2 kc .char (1 : Int32) [(.int x0)] (.int (0 : Int32))) (S_CS : Sta Z Z.heap "java/lang/String" "COMPACT_STRINGS" "Z" (.int zc)) (hz : ¬ zc = (0 : Int32)) (hx0 : ¬ (255 : Int32) < x0) :
    MetFree l y_27 (head1 (Jvm.Cond.code y_27 jdk_42_method_149_code 6 none :: ws) ({ frames := 2, cells := 1, slots := 1, locals := 35 } : Room)) (fun a U => a = #[(.ref a1), (.ref a2), (.int (0 : Int32)), (.int (1 : Int32)), .null] ∧ Z.Warmed39 U.vm ∧ U.heap = h0) (fun _ _ _ _ _ => True) (fun _ U o U' => ∃ v L, o = .returned v ∧ Q_rm_i41 Z a1 a2 kc x0 zc h0 n0 v U'.heap L ∧ FrameEnd U o U' L ({ frames := 2, cells := 1, slots := 1, locals := 35 } : Room).cells ({ frames := 2, cells := 1, slots := 1, locals := 35 } : Room).slots) := by
  refine MetFree.of_bodySF (plainFor_of_name pn_0) hisR ?_
  intro p e s m args below meth c s₁ Bd hml0 hP hK
  obtain ⟨rfl, hZ, hh⟩ := hP
  have hx := Bd.exec
  have hby := Bd.bytes
  have hml : c.maxLocals = 6 := hml0
  have hown : s.vm.findClass "java/lang/String" = some m.cls := findClass_of_methodNamed Bd.named
  have hnm := (name_of_methodNamed Bd.named Bd.method).1
  have X0 : Stand p l e ({ frames := 2, cells := 1, slots := 1, locals := 35 } : Room) s m #[(.ref a1), (.ref a2), (.int (0 : Int32)), (.int (1 : Int32)), .null] below meth c s₁ [] 0 0 := Stand.of_body Bd
  have e0 : s₁.heap = h0 := by rw [← hh, Bd.state]; rfl
  have N0 := Fr.nil n0
  have KC : Keep h0 h0 [a1] := Keep.refl h0 _
  have pre0 : ∀ t, Steps p.tables e below (s₁.setTop (mkF m 0 #[vr a1, vr a2, vi (0 : Int32), vi (1 : Int32), vN, un] [])) t → Steps p.tables e below (s₁.setTop (entryFrame m #[(.ref a1), (.ref a2), (.int (0 : Int32)), (.int (1 : Int32)), .null] 6)) t := fun t k => castTop (ef_rm_i41 m a1 a2 (0 : Int32) (1 : Int32)) k
  obtain ⟨T1, X1, e1, st1⟩ := initO X0 hx hZ hown (ww hw 11 rfl) (ww hw 12 rfl) (ww hw 13 rfl) e0 (g := (mkF m 1 #[vr a1, vr a2, vi (0 : Int32), vi (1 : Int32), vN, un] [(.ref a1)])) rfl (by rw [hml]; rfl) rfl (hb hby d2_1) (by decide) (W := 0) (by show 2 * 0 + _ ≤ _; exact Nat.le_of_eq rfl) (by decide)
  obtain ⟨T2, X2, e2, st2⟩ := getS2 X1 hx hZ hown (host := "") (Or.inl (ww hw 42 rfl)) Via.refl e1 (S_CS.ext O0.2) (g := (mkF m 27 #[vr a1, vr a2, vi (0 : Int32), vi (1 : Int32), vN, un] [])) rfl (hb hby d2_27)
  obtain ⟨_, _, ⟨T3, L3, kz3, nz3⟩, -, X3, ⟨Lc3, hQ3, l3, y3, z3⟩, st3⟩ := Jvm.LawKit.callS X2 hx (y := y_30) hown (mvT hZ (ww hw 220 rfl)) (mvT hZ (ww hw 221 rfl)) (mvT hZ (ww hw 222 rfl)) (mvT hZ (ww hw 223 rfl)) (by decide) (backOf (W := 0) (rm_cm1 l Z a0 hw [] a2 kc x0 h0 n0 (Nat.le_trans Z0 KC.1) O0 V_a2 hx0) hZ (ww hw 223 rfl) (ww hw 222 rfl) (by decide) (by decide)) (g := (mkF m 36 #[vr a1, vr a2, vi (0 : Int32), vi (1 : Int32), vN, un] [(.int (1 : Int32)), (.int (0 : Int32)), (.ref a2)])) rfl (by rw [hml]; rfl) (argsL := [(.ref a2), (.int (0 : Int32)), (.int (1 : Int32))]) (rest := []) (lenOf pd_18 rfl) rfl (by show 2 * 0 + _ ≤ _; exact Nat.le_of_eq rfl) (hb hby d2_36) (fun _ _ => ⟨rfl, e2, (by decide : 0 + 1 ≤ _), (by decide : 0 + 1 ≤ _)⟩)
  dsimp only [Pt.U, Pt.locs, Pt.cells, Pt.slots] at X3 l3 y3 z3 st3 hQ3
  subst l3 y3 z3
  obtain ⟨b3_tz, kb_3, rfl, N3q, K3, sz_b3_tz, V_tz_3⟩ := hQ3
  have N3 := Fr.app N0 N3q
  have ne_a1_b3_tz : a1 ≠ b3_tz := Nat.ne_of_lt (Nat.lt_of_lt_of_le F_value_a1.lt sz_b3_tz)
  have ne_a2_b3_tz : a2 ≠ b3_tz := Nat.ne_of_lt (Nat.lt_of_lt_of_le V_a2.lt sz_b3_tz)
  have g_b3_tz : n0 ≤ b3_tz := Nat.le_trans (Nat.le_trans Z0 KC.1) sz_b3_tz
  replace sz_b3_tz : h0.size ≤ b3_tz := Nat.le_trans KC.1 sz_b3_tz
  replace F_value_a1 := F_value_a1.keep K3 nin0
  replace F_coder_a1 := F_coder_a1.keep K3 nin0
  replace E_a1 := E_a1.keep K3
  replace V_a2 := V_a2.keep K3 nin0
  replace O0 := O0.keep K3 all0
  replace KC := KC.trans K3 all0
  obtain ⟨_, _, ⟨T4, L4, kz4, nz4⟩, -, X4, ⟨Lc4, hQ4, l4, y4, z4⟩, st4⟩ := Jvm.LawKit.callS X3 hx (y := y_31) hown (mvT hZ (ww hw 227 rfl)) (mvT hZ (ww hw 228 rfl)) (mvT hZ (ww hw 222 rfl)) (mvT hZ (ww hw 229 rfl)) (by decide) (backOf (W := 1) (rm_cf1 l Z a0 hw [] b3_tz kb_3 [(.int (own_b x0))] T3.heap n0 (Nat.le_trans Z0 KC.1) O0 V_tz_3) hZ (ww hw 229 rfl) (ww hw 222 rfl) (by decide) (by decide)) (g := (mkF m 45 #[vr a1, vr a2, vi (0 : Int32), vi (1 : Int32), vN, vr b3_tz] [(.int (1 : Int32)), (.ref b3_tz), (.ref a1)])) rfl (by rw [hml]; rfl) (argsL := [(.ref b3_tz), (.int (1 : Int32))]) (rest := [(.ref a1)]) (lenOf pd_19 rfl) rfl (by show 2 * 0 + _ ≤ _; exact Nat.le_of_eq rfl) (hb hby d2_45) (fun _ _ => ⟨rfl, rfl, (by decide : 1 + 0 ≤ _), (by decide : 1 + 0 ≤ _)⟩)
  dsimp only [Pt.U, Pt.locs, Pt.cells, Pt.slots] at X4 l4 y4 z4 st4 hQ4
  subst l4 y4 z4
  obtain ⟨rfl, N4q, e4⟩ := hQ4
  have N4 := Fr.app N3 N4q
  obtain ⟨T5, h5, X5, e5, W5, st5⟩ := putFN X4 hx hZ hown (ww hw 21 rfl) Via.refl e4 F_coder_a1 E_a1 (Or.inr ⟨(ww hw 17 rfl), rfl, hnm⟩) (ww hw 2 rfl) (ty := .byte) (v' := .int (0 : Int32)) (by decide) rfl rfl (g := (mkF m 48 #[vr a1, vr a2, vi (0 : Int32), vi (1 : Int32), vN, vr b3_tz] [(.int (0 : Int32)), (.ref a1)])) rfl rfl (hb hby d2_48)
  have N5 := Fr.snoc X5 N4 g_a1
  replace F_coder_a1 := F_coder_a1.same W5
  have nev_a1_a2 : a1 ≠ a2 := Exa.neArv E_a1 V_a2 (ww hw 2 rfl)
  replace F_value_a1 := F_value_a1.other W5 (Or.inr (slot_ne (Or.inr (ww hw 16 rfl)) (Or.inr (ww hw 17 rfl)) (by decide) (t := (.array .byte)) (t' := .byte) (by decide) (by decide)))
  replace E_a1 := E_a1.wr W5
  replace V_a2 := V_a2.other W5 (Ne.symm nev_a1_a2)
  replace V_tz_3 := V_tz_3.other W5 (Ne.symm ne_a1_b3_tz)
  replace O0 := O0.wr W5 g_a1
  replace KC := KC.wr W5 (Or.inl (List.mem_of_getElem? (i := 0) rfl))
  obtain ⟨T6, h6, X6, e6, W6, st6⟩ := putF X5 hx hZ hown (host := "") (Or.inl (ww hw 20 rfl)) Via.refl e5 F_value_a1 E_a1 (Or.inr ⟨(ww hw 16 rfl), rfl, hnm⟩) (ww hw 2 rfl) (ty := (.array .byte)) (by decide) rfl rfl (g := (mkF m 54 #[vr a1, vr a2, vi (0 : Int32), vi (1 : Int32), vN, vr b3_tz] [(.ref b3_tz), (.ref a1)])) rfl rfl (hb hby d2_54)
  have N6 := Fr.snoc X6 N5 g_a1
  replace F_value_a1 := F_value_a1.same W6
  replace F_coder_a1 := F_coder_a1.other W6 (Or.inr (slot_ne (Or.inr (ww hw 17 rfl)) (Or.inr (ww hw 16 rfl)) (by decide) (t := .byte) (t' := (.array .byte)) (by decide) (by decide)))
  replace E_a1 := E_a1.wr W6
  replace V_a2 := V_a2.other W6 (Ne.symm nev_a1_a2)
  replace V_tz_3 := V_tz_3.other W6 (Ne.symm ne_a1_b3_tz)
  replace O0 := O0.wr W6 g_a1
  replace KC := KC.wr W6 (Or.inl (List.mem_of_getElem? (i := 0) rfl))
  obtain ⟨fs, hr, hrun, hended, hW, hsame⟩ := X6.leave (v := none) (fun _ => rfl)
  refine ⟨_, _, pre0 _ ?_, hrun, hended, _, _, rfl, ?_, ⟨_, rfl⟩, hW, hsame.mono (by decide) (by decide)⟩
  · show SS p e below m s₁ 0 #[vr a1, vr a2, vi (0 : Int32), vi (1 : Int32), vN, un] [] _
    refine XS.aloadN X0.here hx rfl (hb hby d2_0) rfl rfl ?_
    show SS p e below m s₁ 1 #[vr a1, vr a2, vi (0 : Int32), vi (1 : Int32), vN, un] [(.ref a1)] _
    refine st1 _ ?_
    show SS p e below m T1 4 #[vr a1, vr a2, vi (0 : Int32), vi (1 : Int32), vN, un] [] _
    refine XS.iloadN X1.here hx rfl (hb hby d2_4) rfl ?_
    show SS p e below m T1 5 #[vr a1, vr a2, vi (0 : Int32), vi (1 : Int32), vN, un] [(.int (1 : Int32))] _
    refine XS.ifYes X1.here hx rfl (pc0 := 5) (pc' := 27) rfl (hb hby d2_5) rfl ((if0 _ _).trans (feq (by decide)).2) (by decide) (by decide) ?_
    show SS p e below m T1 27 #[vr a1, vr a2, vi (0 : Int32), vi (1 : Int32), vN, un] [] _
    refine st2 _ ?_
    show SS p e below m T2 30 #[vr a1, vr a2, vi (0 : Int32), vi (1 : Int32), vN, un] [(.int zc)] _
    refine XS.ifNo X2.here hx rfl (hb hby d2_30) rfl ((if0 _ _).trans (feq hz).1) ?_
    show SS p e below m T2 33 #[vr a1, vr a2, vi (0 : Int32), vi (1 : Int32), vN, un] [] _
    refine XS.aloadN X2.here hx rfl (hb hby d2_33) rfl rfl ?_
    show SS p e below m T2 34 #[vr a1, vr a2, vi (0 : Int32), vi (1 : Int32), vN, un] [(.ref a2)] _
    refine XS.iloadN X2.here hx rfl (hb hby d2_34) rfl ?_
    show SS p e below m T2 35 #[vr a1, vr a2, vi (0 : Int32), vi (1 : Int32), vN, un] [(.int (0 : Int32)), (.ref a2)] _
    refine XS.iloadN X2.here hx rfl (hb hby d2_35) rfl ?_
    show SS p e below m T2 36 #[vr a1, vr a2, vi (0 : Int32), vi (1 : Int32), vN, un] [(.int (1 : Int32)), (.int (0 : Int32)), (.ref a2)] _
    refine st3 _ ?_
    show SS p e below m T3 39 #[vr a1, vr a2, vi (0 : Int32), vi (1 : Int32), vN, un] [(.ref b3_tz)] _
    refine XS.astore X3.here hx rfl (hb hby d2_39) rfl rfl (l' := #[vr a1, vr a2, vi (0 : Int32), vi (1 : Int32), vN, vr b3_tz]) rfl ?_
    show SS p e below m T3 41 #[vr a1, vr a2, vi (0 : Int32), vi (1 : Int32), vN, vr b3_tz] [] _
    refine XS.aloadN X3.here hx rfl (hb hby d2_41) rfl rfl ?_
    show SS p e below m T3 42 #[vr a1, vr a2, vi (0 : Int32), vi (1 : Int32), vN, vr b3_tz] [(.ref a1)] _
    refine XS.aload X3.here hx rfl (hb hby d2_42) rfl rfl ?_
    show SS p e below m T3 44 #[vr a1, vr a2, vi (0 : Int32), vi (1 : Int32), vN, vr b3_tz] [(.ref b3_tz), (.ref a1)] _
    refine XS.iloadN X3.here hx rfl (hb hby d2_44) rfl ?_
    show SS p e below m T3 45 #[vr a1, vr a2, vi (0 : Int32), vi (1 : Int32), vN, vr b3_tz] [(.int (1 : Int32)), (.ref b3_tz), (.ref a1)] _
    refine st4 _ ?_
    show SS p e below m T4 48 #[vr a1, vr a2, vi (0 : Int32), vi (1 : Int32), vN, vr b3_tz] [(.int (0 : Int32)), (.ref a1)] _
    refine st5 _ ?_
    show SS p e below m T5 51 #[vr a1, vr a2, vi (0 : Int32), vi (1 : Int32), vN, vr b3_tz] [] _
    refine XS.aloadN X5.here hx rfl (hb hby d2_51) rfl rfl ?_
    show SS p e below m T5 52 #[vr a1, vr a2, vi (0 : Int32), vi (1 : Int32), vN, vr b3_tz] [(.ref a1)] _
    refine XS.aload X5.here hx rfl (hb hby d2_52) rfl rfl ?_
    show SS p e below m T5 54 #[vr a1, vr a2, vi (0 : Int32), vi (1 : Int32), vN, vr b3_tz] [(.ref b3_tz), (.ref a1)] _
    refine st6 _ ?_
    show SS p e below m T6 57 #[vr a1, vr a2, vi (0 : Int32), vi (1 : Int32), vN, vr b3_tz] [] _
    exact X6.returnOut hx Bd.returns (hb hby d2_57) hr
  · show Q_rm_i41 Z a1 a2 kc x0 zc h0 n0 _ T6.heap _
    rw [e6]
    exact ⟨b3_tz, kb_3, rfl, N6, KC, sz_b3_tz, F_value_a1, F_coder_a1, V_tz_3⟩
theorem ef_rm_i11 (m : MethodId) (x0 : Addr) (x1 : Addr) : entryFrame m #[(.ref x0), (.ref x1)] 2 = mkF m 0 #[vr x0, vr x1] [] := by first | (simp [entryFrame, mkF, argsToLocals, Value.category]; done) | rfl
def Q_rm_i11 (Z : State) (a1 : Addr) (a2 : Addr) (kc : ClassId) (x0 : Int32) (zc : Int32) (h0 : Heap) (n0 : Nat) (v : Option Value) (h : Heap) (L : List Loc) : Prop := ∃ tz : Addr, ∃ kb : ClassId, (v = none) ∧ (Fr n0 L) ∧ (Keep h0 h [a1]) ∧ (h0.size ≤ tz) ∧ (Fld Z h a1 "java/lang/String" "value" "[B" (.ref tz)) ∧ (Fld Z h a1 "java/lang/String" "coder" "B" (.int (0 : Int32))) ∧ (Arv Z h tz kb .byte (1 : Int32) [(.int (own_b x0))] (.int (0 : Int32)))
set_option maxRecDepth 65536 in
set_option maxHeartbeats 40000000 in
theorem rm_i11 (l : Launch) (Z : State) (a0 : Array Value) (hw : ∀ d ∈ tables_1, d.before a0 Z = true) (ws : List Jvm.Cond) (a1 : Addr) (a2 : Addr) (kc : ClassId) (x0 : Int32) (zc : Int32) (h0 : Heap) (n0 : Nat) (Z0 : n0 ≤ h0.size) (O0 : Old Z n0 h0) (F_value_a1 : Fld Z h0 a1 "java/lang/String" "value" "[B" .null) (F_coder_a1 : Fld Z h0 a1 "java/lang/String" "coder" "B" (.int (0 : Int32))) (E_a1 : Exa Z h0 a1 "java/lang/String") (g_a1 : n0 ≤ a1) (V_a2 : Arv Z h0 a2 kc .char (1 : Int32) [(.int x0)] (.int (0 : Int32))) (S_CS : Sta Z Z.heap "java/lang/String" "COMPACT_STRINGS" "Z" (.int zc)) (hz : ¬ zc = (0 : Int32)) (hx0 : ¬ (255 : Int32) < x0) :
    MetFree l y_28 (head1 (Jvm.Cond.code y_28 jdk_42_method_3_code 2 none :: ws) ({ frames := 3, cells := 1, slots := 1, locals := 52 } : Room)) (fun a U => a = #[(.ref a1), (.ref a2)] ∧ Z.Warmed39 U.vm ∧ U.heap = h0) (fun _ _ _ _ _ => True) (fun _ U o U' => ∃ v L, o = .returned v ∧ Q_rm_i11 Z a1 a2 kc x0 zc h0 n0 v U'.heap L ∧ FrameEnd U o U' L ({ frames := 3, cells := 1, slots := 1, locals := 52 } : Room).cells ({ frames := 3, cells := 1, slots := 1, locals := 52 } : Room).slots) := by
  refine MetFree.of_bodySF (plainFor_of_name pn_0) hisR ?_
  intro p e s m args below meth c s₁ Bd hml0 hP hK
  obtain ⟨rfl, hZ, hh⟩ := hP
  have hx := Bd.exec
  have hby := Bd.bytes
  have hml : c.maxLocals = 2 := hml0
  have hown : s.vm.findClass "java/lang/String" = some m.cls := findClass_of_methodNamed Bd.named
  have hnm := (name_of_methodNamed Bd.named Bd.method).1
  have X0 : Stand p l e ({ frames := 3, cells := 1, slots := 1, locals := 52 } : Room) s m #[(.ref a1), (.ref a2)] below meth c s₁ [] 0 0 := Stand.of_body Bd
  have e0 : s₁.heap = h0 := by rw [← hh, Bd.state]; rfl
  have N0 := Fr.nil n0
  have KC : Keep h0 h0 [a1] := Keep.refl h0 _
  have pre0 : ∀ t, Steps p.tables e below (s₁.setTop (mkF m 0 #[vr a1, vr a2] [])) t → Steps p.tables e below (s₁.setTop (entryFrame m #[(.ref a1), (.ref a2)] 2)) t := fun t k => castTop (ef_rm_i11 m a1 a2) k
  have Vo1 := V_a2
  obtain ⟨cl1, Ar1, -, Sz1, Nn1, -, -⟩ := Vo1
  have ia1 := State.isArrayOf_alike hZ.alike Ar1.2.1
  obtain ⟨_, _, ⟨T2, L2, kz2, nz2⟩, -, X2, ⟨Lc2, hQ2, l2, y2, z2⟩, st2⟩ := X0.specialBack hx (y := y_27) rfl hown (mvT hZ (ww hw 7 rfl)) (mvT hZ (ww hw 8 rfl)) (mvT hZ (ww hw 10 rfl)) (by decide) (backOf (W := 0) (rm_i41 l Z a0 hw [] a1 a2 kc x0 zc h0 n0 (Nat.le_trans Z0 KC.1) O0 F_value_a1 F_coder_a1 E_a1 g_a1 V_a2 S_CS hz hx0) hZ (ww hw 10 rfl) (ww hw 3 rfl) (by decide) (by decide)) (g := (mkF m 6 #[vr a1, vr a2] [.null, (.int (1 : Int32)), (.int (0 : Int32)), (.ref a2), (.ref a1)])) rfl (by rw [hml]; rfl) (Steps.refl _) (a := a1) (argsL := [(.ref a2), (.int (0 : Int32)), (.int (1 : Int32)), .null]) (rest := []) (lenOf pd_16 rfl) rfl (by show 2 * 0 + _ ≤ _; exact Nat.le_of_eq rfl) (hb hby d1_6) (fun _ _ => ⟨rfl, e0, (by decide : 0 + 1 ≤ _), (by decide : 0 + 1 ≤ _)⟩)
  dsimp only [Pt.U, Pt.locs, Pt.cells, Pt.slots] at X2 l2 y2 z2 st2 hQ2
  subst l2 y2 z2
  obtain ⟨b2_tz, kb_2, rfl, N2q, K2, sz_b2_tz, F_value_a1_2, F_coder_a1_2, V_tz_2⟩ := hQ2
  have N2 := Fr.app N0 N2q
  have ne_a1_b2_tz : a1 ≠ b2_tz := Nat.ne_of_lt (Nat.lt_of_lt_of_le F_value_a1.lt sz_b2_tz)
  have ne_a2_b2_tz : a2 ≠ b2_tz := Nat.ne_of_lt (Nat.lt_of_lt_of_le V_a2.lt sz_b2_tz)
  have g_b2_tz : n0 ≤ b2_tz := Nat.le_trans (Nat.le_trans Z0 KC.1) sz_b2_tz
  replace sz_b2_tz : h0.size ≤ b2_tz := Nat.le_trans KC.1 sz_b2_tz
  have nev_a1_a2 : a1 ≠ a2 := Exa.neArv E_a1 V_a2 (ww hw 2 rfl)
  replace E_a1 := E_a1.keep K2
  replace V_a2 := V_a2.keep K2 (ninS (Ne.symm nev_a1_a2) nin0)
  replace O0 := O0.keep K2 (allS g_a1 all0)
  replace KC := KC.trans K2 (allS (Or.inl (List.mem_of_getElem? (i := 0) rfl)) all0)
  obtain ⟨fs, hr, hrun, hended, hW, hsame⟩ := X2.leave (v := none) (fun _ => rfl)
  refine ⟨_, _, pre0 _ ?_, hrun, hended, _, _, rfl, ?_, ⟨_, rfl⟩, hW, hsame.mono (by decide) (by decide)⟩
  · show SS p e below m s₁ 0 #[vr a1, vr a2] [] _
    refine XS.aloadN X0.here hx rfl (hb hby d1_0) rfl rfl ?_
    show SS p e below m s₁ 1 #[vr a1, vr a2] [(.ref a1)] _
    refine XS.aloadN X0.here hx rfl (hb hby d1_1) rfl rfl ?_
    show SS p e below m s₁ 2 #[vr a1, vr a2] [(.ref a2), (.ref a1)] _
    refine XS.iconst X0.here hx rfl (hb hby d1_2) ?_
    show SS p e below m s₁ 3 #[vr a1, vr a2] [(.int (0 : Int32)), (.ref a2), (.ref a1)] _
    refine XS.aloadN X0.here hx rfl (hb hby d1_3) rfl rfl ?_
    show SS p e below m s₁ 4 #[vr a1, vr a2] [(.ref a2), (.int (0 : Int32)), (.ref a2), (.ref a1)] _
    refine X0.arraylength hx (by rw [e0]; exact Ar1.1) ia1 (g := (mkF m 4 #[vr a1, vr a2] [(.ref a2), (.int (0 : Int32)), (.ref a2), (.ref a1)])) rfl rfl (hb hby d1_4) _ ?_
    rw [len_of Sz1 Nn1]
    show SS p e below m s₁ 5 #[vr a1, vr a2] [(.int (1 : Int32)), (.int (0 : Int32)), (.ref a2), (.ref a1)] _
    refine XS.aconstNull X0.here hx rfl (hb hby d1_5) ?_
    show SS p e below m s₁ 6 #[vr a1, vr a2] [.null, (.int (1 : Int32)), (.int (0 : Int32)), (.ref a2), (.ref a1)] _
    refine st2.trans ?_
    show SS p e below m T2 9 #[vr a1, vr a2] [] _
    exact X2.returnOut hx Bd.returns (hb hby d1_9) hr
  · show Q_rm_i11 Z a1 a2 kc x0 zc h0 n0 _ T2.heap _
    exact ⟨b2_tz, kb_2, rfl, N2, KC, sz_b2_tz, F_value_a1_2, F_coder_a1_2, V_tz_2⟩
theorem ef_rm_cmp2 (m : MethodId) (x0 : Addr) (x1 : Int32) (x2 : Addr) (x3 : Int32) (x4 : Int32) : entryFrame m #[(.ref x0), (.int x1), (.ref x2), (.int x3), (.int x4)] 7 = mkF m 0 #[vr x0, vi x1, vr x2, vi x3, vi x4, .unset, .unset] [] := by first | (simp [entryFrame, mkF, argsToLocals, Value.category]; done) | rfl
def Q_rm_cmp2 (Z : State) (a1 : Addr) (a3 : Addr) (kc : ClassId) (kb : ClassId) (x0 : Int32) (x1 : Int32) (h0 : Heap) (n0 : Nat) (v : Option Value) (h : Heap) (L : List Loc) : Prop := (v = some (.int (2 : Int32))) ∧ (Fr n0 L) ∧ (Keep h0 h [a3]) ∧ (Arv Z h a3 kb .byte (2 : Int32) [(.int (own_b x0)), (.int (own_b x1))] (.int (0 : Int32)))
set_option maxRecDepth 65536 in
set_option maxHeartbeats 40000000 in
theorem rm_cmp2 (l : Launch) (Z : State) (a0 : Array Value) (hw : ∀ d ∈ tables_1, d.before a0 Z = true) (ws : List Jvm.Cond) (a1 : Addr) (a3 : Addr) (kc : ClassId) (kb : ClassId) (x0 : Int32) (x1 : Int32) (h0 : Heap) (n0 : Nat) (Z0 : n0 ≤ h0.size) (O0 : Old Z n0 h0) (V_a1 : Arv Z h0 a1 kc .char (2 : Int32) [(.int x0), (.int x1)] (.int (0 : Int32))) (V_a3 : Arv Z h0 a3 kb .byte (2 : Int32) [(.int (0 : Int32)), (.int (0 : Int32))] (.int (0 : Int32))) (g_a3 : n0 ≤ a3) (ne_13 : a1 ≠ a3) (hx0 : ¬ (255 : Int32) < x0) (hx1 : ¬ (255 : Int32) < x1) :
    MetFree l y_29 (head1 (Jvm.Cond.code y_29 jdk_52_method_21_code 7 (some .int) :: ws) ({ frames := 0, cells := 0, slots := 0, locals := 0 } : Room)) (fun a U => a = #[(.ref a1), (.int (0 : Int32)), (.ref a3), (.int (0 : Int32)), (.int (2 : Int32))] ∧ Z.Warmed39 U.vm ∧ U.heap = h0) (fun _ _ _ _ _ => True) (fun _ U o U' => ∃ v L, o = .returned v ∧ Q_rm_cmp2 Z a1 a3 kc kb x0 x1 h0 n0 v U'.heap L ∧ FrameEnd U o U' L ({ frames := 0, cells := 0, slots := 0, locals := 0 } : Room).cells ({ frames := 0, cells := 0, slots := 0, locals := 0 } : Room).slots) := by
  refine MetFree.of_bodySF (plainFor_of_name pn_7) hisR ?_
  intro p e s m args below meth c s₁ Bd hml0 hP hK
  obtain ⟨rfl, hZ, hh⟩ := hP
  have hx := Bd.exec
  have hby := Bd.bytes
  have hml : c.maxLocals = 7 := hml0
  have hown : s.vm.findClass "java/lang/StringUTF16" = some m.cls := findClass_of_methodNamed Bd.named
  have hnm := (name_of_methodNamed Bd.named Bd.method).1
  have X0 : Stand p l e ({ frames := 0, cells := 0, slots := 0, locals := 0 } : Room) s m #[(.ref a1), (.int (0 : Int32)), (.ref a3), (.int (0 : Int32)), (.int (2 : Int32))] below meth c s₁ [] 0 0 := Stand.of_body Bd
  have e0 : s₁.heap = h0 := by rw [← hh, Bd.state]; rfl
  have N0 := Fr.nil n0
  have KC : Keep h0 h0 [a3] := Keep.refl h0 _
  have pre0 : ∀ t, Steps p.tables e below (s₁.setTop (mkF m 0 #[vr a1, vi (0 : Int32), vr a3, vi (0 : Int32), vi (2 : Int32), un, un] [])) t → Steps p.tables e below (s₁.setTop (entryFrame m #[(.ref a1), (.int (0 : Int32)), (.ref a3), (.int (0 : Int32)), (.int (2 : Int32))] 7)) t := fun t k => castTop (ef_rm_cmp2 m a1 (0 : Int32) a3 (0 : Int32) (2 : Int32)) k
  have Vo1 := V_a1
  obtain ⟨cl1, Ar1, q1, Sz1, Nn1, Hh1, Gg1⟩ := Vo1
  have hin1 : ¬ ((0 : Int32) < 0 ∨ cl1.slots.size ≤ ((0 : Int32)).toNatClampNeg) := inb_of Sz1 ⟨by decide, by decide⟩
  have hat1 : cl1.slots[((0 : Int32)).toNatClampNeg]? = some (.int x0) := Has.at Hh1 hin1 rfl
  have ia1 := State.isArrayOf_alike hZ.alike Ar1.2.1
  have Vo2 := V_a3
  obtain ⟨cl2, Ar2, q2, Sz2, Nn2, Hh2, Gg2⟩ := Vo2
  have hin2 : ¬ ((0 : Int32) < 0 ∨ cl2.slots.size ≤ ((0 : Int32)).toNatClampNeg) := inb_of Sz2 ⟨by decide, by decide⟩
  obtain ⟨T3, h3, X3, e3, W3, st3⟩ := stB X0 hx hZ e0 Ar2 (j := (0 : Int32)) hin2 (g := (mkF m 31 #[vr a1, vi (0 : Int32), vr a3, vi (0 : Int32), vi (2 : Int32), vi (0 : Int32), vi x0] [(.int (x0.toInt8.toInt32)), (.int (0 : Int32)), (.ref a3)])) rfl rfl (hb hby d42_31)
  have Vn3 := Arv.set Ar2 q2 Sz2 Nn2 Hh2 Gg2 (fits_nar_byte _) W3 (0) rfl (Nat.le_of_ble_eq_true rfl)
  have N3 := Fr.snoc X3 N0 g_a3
  have Vm3 : Arv Z h3 a3 kb .byte (2 : Int32) [(.int (own_b x0)), (.int (0 : Int32))] (.int (0 : Int32)) := by have hh := Vn3; rw [own_bb] at hh; exact hh
  replace V_a1 := V_a1.other W3 ne_13
  replace O0 := O0.wr W3 g_a3
  replace KC := KC.wr W3 (Or.inl (List.mem_of_getElem? (i := 0) rfl))
  have Vo4 := V_a1
  obtain ⟨cl4, Ar4, q4, Sz4, Nn4, Hh4, Gg4⟩ := Vo4
  have hin4 : ¬ ((1 : Int32) < 0 ∨ cl4.slots.size ≤ ((1 : Int32)).toNatClampNeg) := inb_of Sz4 ⟨by decide, by decide⟩
  have hat4 : cl4.slots[((1 : Int32)).toNatClampNeg]? = some (.int x1) := Has.at Hh4 hin4 rfl
  have ia4 := State.isArrayOf_alike hZ.alike Ar4.2.1
  have Vo5 := Vm3
  obtain ⟨cl5, Ar5, q5, Sz5, Nn5, Hh5, Gg5⟩ := Vo5
  have hin5 : ¬ ((1 : Int32) < 0 ∨ cl5.slots.size ≤ ((1 : Int32)).toNatClampNeg) := inb_of Sz5 ⟨by decide, by decide⟩
  obtain ⟨T6, h6, X6, e6, W6, st6⟩ := stB X3 hx hZ e3 Ar5 (j := (1 : Int32)) hin5 (g := (mkF m 31 #[vr a1, vi (1 : Int32), vr a3, vi (1 : Int32), vi (2 : Int32), vi (1 : Int32), vi x1] [(.int (x1.toInt8.toInt32)), (.int (1 : Int32)), (.ref a3)])) rfl rfl (hb hby d42_31)
  have Vn6 := Arv.set Ar5 q5 Sz5 Nn5 Hh5 Gg5 (fits_nar_byte _) W6 (1) rfl (Nat.le_of_ble_eq_true rfl)
  have N6 := Fr.snoc X6 N3 g_a3
  have Vm6 : Arv Z h6 a3 kb .byte (2 : Int32) [(.int (own_b x0)), (.int (own_b x1))] (.int (0 : Int32)) := by have hh := Vn6; rw [own_bb] at hh; exact hh
  replace V_a1 := V_a1.other W6 ne_13
  replace O0 := O0.wr W6 g_a3
  replace KC := KC.wr W6 (Or.inl (List.mem_of_getElem? (i := 0) rfl))
  obtain ⟨fs, hr, hrun, hended, hW, hsame⟩ := X6.leave (v := some (.int (2 : Int32))) (fun h => by rw [Bd.returns] at h; cases h)
  refine ⟨_, _, pre0 _ ?_, hrun, hended, _, _, rfl, ?_, ⟨_, rfl⟩, hW, hsame.mono (by decide) (by decide)⟩
  · show SS p e below m s₁ 0 #[vr a1, vi (0 : Int32), vr a3, vi (0 : Int32), vi (2 : Int32), un, un] [] _
    refine XS.iconst X0.here hx rfl (hb hby d42_0) ?_
    show SS p e below m s₁ 1 #[vr a1, vi (0 : Int32), vr a3, vi (0 : Int32), vi (2 : Int32), un, un] [(.int (0 : Int32))] _
    refine XS.istore X0.here hx rfl (hb hby d42_1) rfl (l' := #[vr a1, vi (0 : Int32), vr a3, vi (0 : Int32), vi (2 : Int32), vi (0 : Int32), un]) rfl ?_
    show SS p e below m s₁ 3 #[vr a1, vi (0 : Int32), vr a3, vi (0 : Int32), vi (2 : Int32), vi (0 : Int32), un] [] _
    refine XS.iload X0.here hx rfl (hb hby d42_3) rfl ?_
    show SS p e below m s₁ 5 #[vr a1, vi (0 : Int32), vr a3, vi (0 : Int32), vi (2 : Int32), vi (0 : Int32), un] [(.int (0 : Int32))] _
    refine XS.iload X0.here hx rfl (hb hby d42_5) rfl ?_
    show SS p e below m s₁ 7 #[vr a1, vi (0 : Int32), vr a3, vi (0 : Int32), vi (2 : Int32), vi (0 : Int32), un] [(.int (2 : Int32)), (.int (0 : Int32))] _
    refine XS.icmpNo X0.here hx rfl (hb hby d42_7) rfl (tlt (by decide)).2.1 ?_
    show SS p e below m s₁ 10 #[vr a1, vi (0 : Int32), vr a3, vi (0 : Int32), vi (2 : Int32), vi (0 : Int32), un] [] _
    refine XS.aloadN X0.here hx rfl (hb hby d42_10) rfl rfl ?_
    show SS p e below m s₁ 11 #[vr a1, vi (0 : Int32), vr a3, vi (0 : Int32), vi (2 : Int32), vi (0 : Int32), un] [(.ref a1)] _
    refine XS.iloadN X0.here hx rfl (hb hby d42_11) rfl ?_
    show SS p e below m s₁ 12 #[vr a1, vi (0 : Int32), vr a3, vi (0 : Int32), vi (2 : Int32), vi (0 : Int32), un] [(.int (0 : Int32)), (.ref a1)] _
    refine X0.caload hx (j := (0 : Int32)) (v := (.int x0)) (by rw [e0]; exact Ar1.1) ia1 Ar1.2.2 hin1 hat1 (g := (mkF m 12 #[vr a1, vi (0 : Int32), vr a3, vi (0 : Int32), vi (2 : Int32), vi (0 : Int32), un] [(.int (0 : Int32)), (.ref a1)])) rfl rfl (hb hby d42_12) _ ?_
    show SS p e below m s₁ 13 #[vr a1, vi (0 : Int32), vr a3, vi (0 : Int32), vi (2 : Int32), vi (0 : Int32), un] [(.int x0)] _
    refine XS.istore X0.here hx rfl (hb hby d42_13) rfl (l' := #[vr a1, vi (0 : Int32), vr a3, vi (0 : Int32), vi (2 : Int32), vi (0 : Int32), vi x0]) rfl ?_
    show SS p e below m s₁ 15 #[vr a1, vi (0 : Int32), vr a3, vi (0 : Int32), vi (2 : Int32), vi (0 : Int32), vi x0] [] _
    refine XS.iload X0.here hx rfl (hb hby d42_15) rfl ?_
    show SS p e below m s₁ 17 #[vr a1, vi (0 : Int32), vr a3, vi (0 : Int32), vi (2 : Int32), vi (0 : Int32), vi x0] [(.int x0)] _
    refine XS.sipush X0.here hx rfl (hb hby d42_17) ?_
    show SS p e below m s₁ 20 #[vr a1, vi (0 : Int32), vr a3, vi (0 : Int32), vi (2 : Int32), vi (0 : Int32), vi x0] [(.int (255 : Int32)), (.int x0)] _
    refine XS.icmpYes X0.here hx rfl (pc0 := 20) (pc' := 26) rfl (hb hby d42_20) rfl (flt hx0).2.2.2 (by decide) (by decide) ?_
    show SS p e below m s₁ 26 #[vr a1, vi (0 : Int32), vr a3, vi (0 : Int32), vi (2 : Int32), vi (0 : Int32), vi x0] [] _
    refine XS.aloadN X0.here hx rfl (hb hby d42_26) rfl rfl ?_
    show SS p e below m s₁ 27 #[vr a1, vi (0 : Int32), vr a3, vi (0 : Int32), vi (2 : Int32), vi (0 : Int32), vi x0] [(.ref a3)] _
    refine XS.iloadN X0.here hx rfl (hb hby d42_27) rfl ?_
    show SS p e below m s₁ 28 #[vr a1, vi (0 : Int32), vr a3, vi (0 : Int32), vi (2 : Int32), vi (0 : Int32), vi x0] [(.int (0 : Int32)), (.ref a3)] _
    refine XS.iload X0.here hx rfl (hb hby d42_28) rfl ?_
    show SS p e below m s₁ 30 #[vr a1, vi (0 : Int32), vr a3, vi (0 : Int32), vi (2 : Int32), vi (0 : Int32), vi x0] [(.int x0), (.int (0 : Int32)), (.ref a3)] _
    refine XS.i2b X0.here hx rfl (hb hby d42_30) rfl ?_
    show SS p e below m s₁ 31 #[vr a1, vi (0 : Int32), vr a3, vi (0 : Int32), vi (2 : Int32), vi (0 : Int32), vi x0] [(.int (x0.toInt8.toInt32)), (.int (0 : Int32)), (.ref a3)] _
    refine st3 _ ?_
    show SS p e below m T3 32 #[vr a1, vi (0 : Int32), vr a3, vi (0 : Int32), vi (2 : Int32), vi (0 : Int32), vi x0] [] _
    refine XS.iinc X3.here hx rfl (hb hby d42_32) rfl (l' := #[vr a1, vi (1 : Int32), vr a3, vi (0 : Int32), vi (2 : Int32), vi (0 : Int32), vi x0]) rfl ?_
    show SS p e below m T3 35 #[vr a1, vi (1 : Int32), vr a3, vi (0 : Int32), vi (2 : Int32), vi (0 : Int32), vi x0] [] _
    refine XS.iinc X3.here hx rfl (hb hby d42_35) rfl (l' := #[vr a1, vi (1 : Int32), vr a3, vi (1 : Int32), vi (2 : Int32), vi (0 : Int32), vi x0]) rfl ?_
    show SS p e below m T3 38 #[vr a1, vi (1 : Int32), vr a3, vi (1 : Int32), vi (2 : Int32), vi (0 : Int32), vi x0] [] _
    refine XS.iinc X3.here hx rfl (hb hby d42_38) rfl (l' := #[vr a1, vi (1 : Int32), vr a3, vi (1 : Int32), vi (2 : Int32), vi (1 : Int32), vi x0]) rfl ?_
    show SS p e below m T3 41 #[vr a1, vi (1 : Int32), vr a3, vi (1 : Int32), vi (2 : Int32), vi (1 : Int32), vi x0] [] _
    refine XS.goto X3.here hx rfl (pc0 := 41) (pc' := 3) rfl (hb hby d42_41) (by decide) (by decide) ?_
    show SS p e below m T3 3 #[vr a1, vi (1 : Int32), vr a3, vi (1 : Int32), vi (2 : Int32), vi (1 : Int32), vi x0] [] _
    refine XS.iload X3.here hx rfl (hb hby d42_3) rfl ?_
    show SS p e below m T3 5 #[vr a1, vi (1 : Int32), vr a3, vi (1 : Int32), vi (2 : Int32), vi (1 : Int32), vi x0] [(.int (1 : Int32))] _
    refine XS.iload X3.here hx rfl (hb hby d42_5) rfl ?_
    show SS p e below m T3 7 #[vr a1, vi (1 : Int32), vr a3, vi (1 : Int32), vi (2 : Int32), vi (1 : Int32), vi x0] [(.int (2 : Int32)), (.int (1 : Int32))] _
    refine XS.icmpNo X3.here hx rfl (hb hby d42_7) rfl (tlt (by decide)).2.1 ?_
    show SS p e below m T3 10 #[vr a1, vi (1 : Int32), vr a3, vi (1 : Int32), vi (2 : Int32), vi (1 : Int32), vi x0] [] _
    refine XS.aloadN X3.here hx rfl (hb hby d42_10) rfl rfl ?_
    show SS p e below m T3 11 #[vr a1, vi (1 : Int32), vr a3, vi (1 : Int32), vi (2 : Int32), vi (1 : Int32), vi x0] [(.ref a1)] _
    refine XS.iloadN X3.here hx rfl (hb hby d42_11) rfl ?_
    show SS p e below m T3 12 #[vr a1, vi (1 : Int32), vr a3, vi (1 : Int32), vi (2 : Int32), vi (1 : Int32), vi x0] [(.int (1 : Int32)), (.ref a1)] _
    refine X3.caload hx (j := (1 : Int32)) (v := (.int x1)) (by rw [e3]; exact Ar4.1) ia4 Ar4.2.2 hin4 hat4 (g := (mkF m 12 #[vr a1, vi (1 : Int32), vr a3, vi (1 : Int32), vi (2 : Int32), vi (1 : Int32), vi x0] [(.int (1 : Int32)), (.ref a1)])) rfl rfl (hb hby d42_12) _ ?_
    show SS p e below m T3 13 #[vr a1, vi (1 : Int32), vr a3, vi (1 : Int32), vi (2 : Int32), vi (1 : Int32), vi x0] [(.int x1)] _
    refine XS.istore X3.here hx rfl (hb hby d42_13) rfl (l' := #[vr a1, vi (1 : Int32), vr a3, vi (1 : Int32), vi (2 : Int32), vi (1 : Int32), vi x1]) rfl ?_
    show SS p e below m T3 15 #[vr a1, vi (1 : Int32), vr a3, vi (1 : Int32), vi (2 : Int32), vi (1 : Int32), vi x1] [] _
    refine XS.iload X3.here hx rfl (hb hby d42_15) rfl ?_
    show SS p e below m T3 17 #[vr a1, vi (1 : Int32), vr a3, vi (1 : Int32), vi (2 : Int32), vi (1 : Int32), vi x1] [(.int x1)] _
    refine XS.sipush X3.here hx rfl (hb hby d42_17) ?_
    show SS p e below m T3 20 #[vr a1, vi (1 : Int32), vr a3, vi (1 : Int32), vi (2 : Int32), vi (1 : Int32), vi x1] [(.int (255 : Int32)), (.int x1)] _
    refine XS.icmpYes X3.here hx rfl (pc0 := 20) (pc' := 26) rfl (hb hby d42_20) rfl (flt hx1).2.2.2 (by decide) (by decide) ?_
    show SS p e below m T3 26 #[vr a1, vi (1 : Int32), vr a3, vi (1 : Int32), vi (2 : Int32), vi (1 : Int32), vi x1] [] _
    refine XS.aloadN X3.here hx rfl (hb hby d42_26) rfl rfl ?_
    show SS p e below m T3 27 #[vr a1, vi (1 : Int32), vr a3, vi (1 : Int32), vi (2 : Int32), vi (1 : Int32), vi x1] [(.ref a3)] _
    refine XS.iloadN X3.here hx rfl (hb hby d42_27) rfl ?_
    show SS p e below m T3 28 #[vr a1, vi (1 : Int32), vr a3, vi (1 : Int32), vi (2 : Int32), vi (1 : Int32), vi x1] [(.int (1 : Int32)), (.ref a3)] _
    refine XS.iload X3.here hx rfl (hb hby d42_28) rfl ?_
    show SS p e below m T3 30 #[vr a1, vi (1 : Int32), vr a3, vi (1 : Int32), vi (2 : Int32), vi (1 : Int32), vi x1] [(.int x1), (.int (1 : Int32)), (.ref a3)] _
    refine XS.i2b X3.here hx rfl (hb hby d42_30) rfl ?_
    show SS p e below m T3 31 #[vr a1, vi (1 : Int32), vr a3, vi (1 : Int32), vi (2 : Int32), vi (1 : Int32), vi x1] [(.int (x1.toInt8.toInt32)), (.int (1 : Int32)), (.ref a3)] _
    refine st6 _ ?_
    show SS p e below m T6 32 #[vr a1, vi (1 : Int32), vr a3, vi (1 : Int32), vi (2 : Int32), vi (1 : Int32), vi x1] [] _
    refine XS.iinc X6.here hx rfl (hb hby d42_32) rfl (l' := #[vr a1, vi (2 : Int32), vr a3, vi (1 : Int32), vi (2 : Int32), vi (1 : Int32), vi x1]) rfl ?_
    show SS p e below m T6 35 #[vr a1, vi (2 : Int32), vr a3, vi (1 : Int32), vi (2 : Int32), vi (1 : Int32), vi x1] [] _
    refine XS.iinc X6.here hx rfl (hb hby d42_35) rfl (l' := #[vr a1, vi (2 : Int32), vr a3, vi (2 : Int32), vi (2 : Int32), vi (1 : Int32), vi x1]) rfl ?_
    show SS p e below m T6 38 #[vr a1, vi (2 : Int32), vr a3, vi (2 : Int32), vi (2 : Int32), vi (1 : Int32), vi x1] [] _
    refine XS.iinc X6.here hx rfl (hb hby d42_38) rfl (l' := #[vr a1, vi (2 : Int32), vr a3, vi (2 : Int32), vi (2 : Int32), vi (2 : Int32), vi x1]) rfl ?_
    show SS p e below m T6 41 #[vr a1, vi (2 : Int32), vr a3, vi (2 : Int32), vi (2 : Int32), vi (2 : Int32), vi x1] [] _
    refine XS.goto X6.here hx rfl (pc0 := 41) (pc' := 3) rfl (hb hby d42_41) (by decide) (by decide) ?_
    show SS p e below m T6 3 #[vr a1, vi (2 : Int32), vr a3, vi (2 : Int32), vi (2 : Int32), vi (2 : Int32), vi x1] [] _
    refine XS.iload X6.here hx rfl (hb hby d42_3) rfl ?_
    show SS p e below m T6 5 #[vr a1, vi (2 : Int32), vr a3, vi (2 : Int32), vi (2 : Int32), vi (2 : Int32), vi x1] [(.int (2 : Int32))] _
    refine XS.iload X6.here hx rfl (hb hby d42_5) rfl ?_
    show SS p e below m T6 7 #[vr a1, vi (2 : Int32), vr a3, vi (2 : Int32), vi (2 : Int32), vi (2 : Int32), vi x1] [(.int (2 : Int32)), (.int (2 : Int32))] _
    refine XS.icmpYes X6.here hx rfl (pc0 := 7) (pc' := 44) rfl (hb hby d42_7) rfl (flt (by decide)).2.1 (by decide) (by decide) ?_
    show SS p e below m T6 44 #[vr a1, vi (2 : Int32), vr a3, vi (2 : Int32), vi (2 : Int32), vi (2 : Int32), vi x1] [] _
    refine XS.iload X6.here hx rfl (hb hby d42_44) rfl ?_
    show SS p e below m T6 46 #[vr a1, vi (2 : Int32), vr a3, vi (2 : Int32), vi (2 : Int32), vi (2 : Int32), vi x1] [(.int (2 : Int32))] _
    exact retI X6 hx Bd.returns (hb hby d42_46) hr
  · show Q_rm_cmp2 Z a1 a3 kc kb x0 x1 h0 n0 _ T6.heap _
    rw [e6]
    exact ⟨rfl, N6, KC, Vm6⟩
theorem ef_rm_cm2 (m : MethodId) (x0 : Addr) (x1 : Int32) (x2 : Int32) : entryFrame m #[(.ref x0), (.int x1), (.int x2)] 6 = mkF m 0 #[vr x0, vi x1, vi x2, .unset, .unset, .unset] [] := by first | (simp [entryFrame, mkF, argsToLocals, Value.category]; done) | rfl
def Q_rm_cm2 (Z : State) (a1 : Addr) (kc : ClassId) (x0 : Int32) (x1 : Int32) (h0 : Heap) (n0 : Nat) (v : Option Value) (h : Heap) (L : List Loc) : Prop := ∃ tz : Addr, ∃ kb : ClassId, (v = some (.ref tz)) ∧ (Fr n0 L) ∧ (Keep h0 h []) ∧ (h0.size ≤ tz) ∧ (Arv Z h tz kb .byte (2 : Int32) [(.int (own_b x0)), (.int (own_b x1))] (.int (0 : Int32)))
set_option maxRecDepth 65536 in
set_option maxHeartbeats 40000000 in
theorem rm_cm2 (l : Launch) (Z : State) (a0 : Array Value) (hw : ∀ d ∈ tables_1, d.before a0 Z = true) (ws : List Jvm.Cond) (a1 : Addr) (kc : ClassId) (x0 : Int32) (x1 : Int32) (h0 : Heap) (n0 : Nat) (Z0 : n0 ≤ h0.size) (O0 : Old Z n0 h0) (V_a1 : Arv Z h0 a1 kc .char (2 : Int32) [(.int x0), (.int x1)] (.int (0 : Int32))) (hx0 : ¬ (255 : Int32) < x0) (hx1 : ¬ (255 : Int32) < x1) :
    MetFree l y_30 (head1 (Jvm.Cond.code y_30 jdk_52_method_16_code 6 (some (.array .byte)) :: ws) ({ frames := 1, cells := 1, slots := 2, locals := 18 } : Room)) (fun a U => a = #[(.ref a1), (.int (0 : Int32)), (.int (2 : Int32))] ∧ Z.Warmed39 U.vm ∧ U.heap = h0) (fun _ _ _ _ _ => True) (fun _ U o U' => ∃ v L, o = .returned v ∧ Q_rm_cm2 Z a1 kc x0 x1 h0 n0 v U'.heap L ∧ FrameEnd U o U' L ({ frames := 1, cells := 1, slots := 2, locals := 18 } : Room).cells ({ frames := 1, cells := 1, slots := 2, locals := 18 } : Room).slots) := by
  refine MetFree.of_bodySF (plainFor_of_name pn_7) hisR ?_
  intro p e s m args below meth c s₁ Bd hml0 hP hK
  obtain ⟨rfl, hZ, hh⟩ := hP
  have hx := Bd.exec
  have hby := Bd.bytes
  have hml : c.maxLocals = 6 := hml0
  have hown : s.vm.findClass "java/lang/StringUTF16" = some m.cls := findClass_of_methodNamed Bd.named
  have hnm := (name_of_methodNamed Bd.named Bd.method).1
  have X0 : Stand p l e ({ frames := 1, cells := 1, slots := 2, locals := 18 } : Room) s m #[(.ref a1), (.int (0 : Int32)), (.int (2 : Int32))] below meth c s₁ [] 0 0 := Stand.of_body Bd
  have e0 : s₁.heap = h0 := by rw [← hh, Bd.state]; rfl
  have N0 := Fr.nil n0
  have KC : Keep h0 h0 [] := Keep.refl h0 _
  have pre0 : ∀ t, Steps p.tables e below (s₁.setTop (mkF m 0 #[vr a1, vi (0 : Int32), vi (2 : Int32), un, un, un] [])) t → Steps p.tables e below (s₁.setTop (entryFrame m #[(.ref a1), (.int (0 : Int32)), (.int (2 : Int32))] 6)) t := fun t k => castTop (ef_rm_cm2 m a1 (0 : Int32) (2 : Int32)) k
  obtain ⟨T1, h1, k1, X1, e1, E1, A1, st1⟩ := newP X0 hx hZ (ww hw 15 rfl) e0 (g := (mkF m 1 #[vr a1, vi (0 : Int32), vi (2 : Int32), un, un, un] [(.int (2 : Int32))])) rfl (hb hby d41_1) rfl (by decide) (cap := 2) (by decide) (by decide) (by decide) (by decide)
  obtain ⟨b1, g1⟩ : ∃ z, z = h0.size := ⟨_, rfl⟩
  rw [← g1] at A1 st1
  have ne_a1_b1 : a1 ≠ b1 := Nat.ne_of_lt (Nat.lt_of_lt_of_le V_a1.lt (Nat.le_of_eq g1.symm))
  have g_b1 : n0 ≤ b1 := Nat.le_trans (Nat.le_trans Z0 KC.1) (Nat.le_of_eq g1.symm)
  have sz_b1 : h0.size ≤ b1 := Nat.le_trans KC.1 (Nat.le_of_eq g1.symm)
  replace V_a1 := V_a1.ext E1
  replace O0 := O0.ext E1
  replace KC := KC.ext E1
  have V_b1 : Arv Z h1 b1 k1 .byte (2 : Int32) [(.int (0 : Int32)), (.int (0 : Int32))] (.int (0 : Int32)) := (Arv.new A1 (by decide)).pad (pad_rep [] (.int (0 : Int32)) 2)
  obtain ⟨_, _, ⟨T2, L2, kz2, nz2⟩, -, X2, ⟨Lc2, hQ2, l2, y2, z2⟩, st2⟩ := Jvm.LawKit.callS X1 hx (y := y_29) hown (mvT hZ (ww hw 224 rfl)) (mvT hZ (ww hw 225 rfl)) (mvT hZ (ww hw 222 rfl)) (mvT hZ (ww hw 226 rfl)) (by decide) (backOf (W := 0) (rm_cmp2 l Z a0 hw [] a1 b1 kc k1 x0 x1 h1 n0 (Nat.le_trans Z0 KC.1) O0 V_a1 V_b1 g_b1 ne_a1_b1 hx0 hx1) hZ (ww hw 226 rfl) (ww hw 222 rfl) (by decide) (by decide)) (g := (mkF m 9 #[vr a1, vi (0 : Int32), vi (2 : Int32), vr b1, un, un] [(.int (2 : Int32)), (.int (0 : Int32)), (.ref b1), (.int (0 : Int32)), (.ref a1)])) rfl (by rw [hml]; rfl) (argsL := [(.ref a1), (.int (0 : Int32)), (.ref b1), (.int (0 : Int32)), (.int (2 : Int32))]) (rest := []) (lenOf pd_17 rfl) rfl (by show 2 * 0 + _ ≤ _; exact Nat.le_of_eq rfl) (hb hby d41_9) (fun _ _ => ⟨rfl, e1, (by decide : 1 + 0 ≤ _), (by decide : 2 + 0 ≤ _)⟩)
  dsimp only [Pt.U, Pt.locs, Pt.cells, Pt.slots] at X2 l2 y2 z2 st2 hQ2
  subst l2 y2 z2
  obtain ⟨rfl, N2q, K2, V_a3_2⟩ := hQ2
  have N2 := Fr.app N0 N2q
  replace V_a1 := V_a1.keep K2 (ninS ne_a1_b1 nin0)
  replace O0 := O0.keep K2 (allS g_b1 all0)
  replace KC := KC.trans K2 (allS (Or.inr sz_b1) all0)
  obtain ⟨fs, hr, hrun, hended, hW, hsame⟩ := X2.leave (v := some (.ref b1)) (fun h => by rw [Bd.returns] at h; cases h)
  refine ⟨_, _, pre0 _ ?_, hrun, hended, _, _, rfl, ?_, ⟨_, rfl⟩, hW, hsame.mono (by decide) (by decide)⟩
  · show SS p e below m s₁ 0 #[vr a1, vi (0 : Int32), vi (2 : Int32), un, un, un] [] _
    refine XS.iloadN X0.here hx rfl (hb hby d41_0) rfl ?_
    show SS p e below m s₁ 1 #[vr a1, vi (0 : Int32), vi (2 : Int32), un, un, un] [(.int (2 : Int32))] _
    refine st1 _ ?_
    show SS p e below m T1 3 #[vr a1, vi (0 : Int32), vi (2 : Int32), un, un, un] [(.ref b1)] _
    refine XS.astoreN X1.here hx rfl (hb hby d41_3) rfl rfl (l' := #[vr a1, vi (0 : Int32), vi (2 : Int32), vr b1, un, un]) rfl ?_
    show SS p e below m T1 4 #[vr a1, vi (0 : Int32), vi (2 : Int32), vr b1, un, un] [] _
    refine XS.aloadN X1.here hx rfl (hb hby d41_4) rfl rfl ?_
    show SS p e below m T1 5 #[vr a1, vi (0 : Int32), vi (2 : Int32), vr b1, un, un] [(.ref a1)] _
    refine XS.iloadN X1.here hx rfl (hb hby d41_5) rfl ?_
    show SS p e below m T1 6 #[vr a1, vi (0 : Int32), vi (2 : Int32), vr b1, un, un] [(.int (0 : Int32)), (.ref a1)] _
    refine XS.aloadN X1.here hx rfl (hb hby d41_6) rfl rfl ?_
    show SS p e below m T1 7 #[vr a1, vi (0 : Int32), vi (2 : Int32), vr b1, un, un] [(.ref b1), (.int (0 : Int32)), (.ref a1)] _
    refine XS.iconst X1.here hx rfl (hb hby d41_7) ?_
    show SS p e below m T1 8 #[vr a1, vi (0 : Int32), vi (2 : Int32), vr b1, un, un] [(.int (0 : Int32)), (.ref b1), (.int (0 : Int32)), (.ref a1)] _
    refine XS.iloadN X1.here hx rfl (hb hby d41_8) rfl ?_
    show SS p e below m T1 9 #[vr a1, vi (0 : Int32), vi (2 : Int32), vr b1, un, un] [(.int (2 : Int32)), (.int (0 : Int32)), (.ref b1), (.int (0 : Int32)), (.ref a1)] _
    refine st2 _ ?_
    show SS p e below m T2 12 #[vr a1, vi (0 : Int32), vi (2 : Int32), vr b1, un, un] [(.int (2 : Int32))] _
    refine XS.istore X2.here hx rfl (hb hby d41_12) rfl (l' := #[vr a1, vi (0 : Int32), vi (2 : Int32), vr b1, vi (2 : Int32), un]) rfl ?_
    show SS p e below m T2 14 #[vr a1, vi (0 : Int32), vi (2 : Int32), vr b1, vi (2 : Int32), un] [] _
    refine XS.iload X2.here hx rfl (hb hby d41_14) rfl ?_
    show SS p e below m T2 16 #[vr a1, vi (0 : Int32), vi (2 : Int32), vr b1, vi (2 : Int32), un] [(.int (2 : Int32))] _
    refine XS.iloadN X2.here hx rfl (hb hby d41_16) rfl ?_
    show SS p e below m T2 17 #[vr a1, vi (0 : Int32), vi (2 : Int32), vr b1, vi (2 : Int32), un] [(.int (2 : Int32)), (.int (2 : Int32))] _
    refine XS.icmpYes X2.here hx rfl (pc0 := 17) (pc' := 57) rfl (hb hby d41_17) rfl (teq (by decide)).1 (by decide) (by decide) ?_
    show SS p e below m T2 57 #[vr a1, vi (0 : Int32), vi (2 : Int32), vr b1, vi (2 : Int32), un] [] _
    refine XS.aloadN X2.here hx rfl (hb hby d41_57) rfl rfl ?_
    show SS p e below m T2 58 #[vr a1, vi (0 : Int32), vi (2 : Int32), vr b1, vi (2 : Int32), un] [(.ref b1)] _
    jvm_step X2.here [X2.here.top, hx, (hb hby d41_58), X2.method', Bd.returns, Value.isRef, FieldType.isReference]
    first | (intro acts; rw [hr _ acts rfl rfl rfl]) | rw [hr _ _ rfl rfl rfl]
    exact Steps.refl _
  · show Q_rm_cm2 Z a1 kc x0 x1 h0 n0 _ T2.heap _
    exact ⟨b1, k1, rfl, N2, KC, sz_b1, V_a3_2⟩
theorem ef_rm_cf2 (m : MethodId) (x0 : Addr) (x1 : Int32) : entryFrame m #[(.ref x0), (.int x1)] 2 = mkF m 0 #[vr x0, vi x1] [] := by first | (simp [entryFrame, mkF, argsToLocals, Value.category]; done) | rfl
def Q_rm_cf2 (Z : State) (a1 : Addr) (kb : ClassId) (vs : List Value) (h0 : Heap) (n0 : Nat) (v : Option Value) (h : Heap) (L : List Loc) : Prop := (v = some (.int (0 : Int32))) ∧ (Fr n0 L) ∧ (h = h0)
set_option maxRecDepth 65536 in
set_option maxHeartbeats 40000000 in
theorem rm_cf2 (l : Launch) (Z : State) (a0 : Array Value) (hw : ∀ d ∈ tables_1, d.before a0 Z = true) (ws : List Jvm.Cond) (a1 : Addr) (kb : ClassId) (vs : List Value) (h0 : Heap) (n0 : Nat) (Z0 : n0 ≤ h0.size) (O0 : Old Z n0 h0) (V_a1 : Arv Z h0 a1 kb .byte (2 : Int32) vs (.int (0 : Int32))) :
    MetFree l y_31 (head1 (Jvm.Cond.code y_31 jdk_52_method_15_code 2 (some .byte) :: ws) ({ frames := 0, cells := 0, slots := 0, locals := 0 } : Room)) (fun a U => a = #[(.ref a1), (.int (2 : Int32))] ∧ Z.Warmed39 U.vm ∧ U.heap = h0) (fun _ _ _ _ _ => True) (fun _ U o U' => ∃ v L, o = .returned v ∧ Q_rm_cf2 Z a1 kb vs h0 n0 v U'.heap L ∧ FrameEnd U o U' L ({ frames := 0, cells := 0, slots := 0, locals := 0 } : Room).cells ({ frames := 0, cells := 0, slots := 0, locals := 0 } : Room).slots) := by
  refine MetFree.of_bodySF (plainFor_of_name pn_7) hisR ?_
  intro p e s m args below meth c s₁ Bd hml0 hP hK
  obtain ⟨rfl, hZ, hh⟩ := hP
  have hx := Bd.exec
  have hby := Bd.bytes
  have hml : c.maxLocals = 2 := hml0
  have hown : s.vm.findClass "java/lang/StringUTF16" = some m.cls := findClass_of_methodNamed Bd.named
  have hnm := (name_of_methodNamed Bd.named Bd.method).1
  have X0 : Stand p l e ({ frames := 0, cells := 0, slots := 0, locals := 0 } : Room) s m #[(.ref a1), (.int (2 : Int32))] below meth c s₁ [] 0 0 := Stand.of_body Bd
  have e0 : s₁.heap = h0 := by rw [← hh, Bd.state]; rfl
  have N0 := Fr.nil n0
  have KC : Keep h0 h0 [] := Keep.refl h0 _
  have pre0 : ∀ t, Steps p.tables e below (s₁.setTop (mkF m 0 #[vr a1, vi (2 : Int32)] [])) t → Steps p.tables e below (s₁.setTop (entryFrame m #[(.ref a1), (.int (2 : Int32))] 2)) t := fun t k => castTop (ef_rm_cf2 m a1 (2 : Int32)) k
  have Vo1 := V_a1
  obtain ⟨cl1, Ar1, -, Sz1, Nn1, -, -⟩ := Vo1
  have ia1 := State.isArrayOf_alike hZ.alike Ar1.2.1
  obtain ⟨fs, hr, hrun, hended, hW, hsame⟩ := X0.leave (v := some (.int (nar .byte ((((0 : Int32).toUInt32 >>> ((31 : Int32) &&& 31).toUInt32).toInt32).toInt8.toInt32)))) (fun h => by rw [Bd.returns] at h; cases h)
  refine ⟨_, _, pre0 _ ?_, hrun, hended, _, _, rfl, ?_, ⟨_, rfl⟩, hW, hsame.mono (by decide) (by decide)⟩
  · show SS p e below m s₁ 0 #[vr a1, vi (2 : Int32)] [] _
    refine XS.iloadN X0.here hx rfl (hb hby d43_0) rfl ?_
    show SS p e below m s₁ 1 #[vr a1, vi (2 : Int32)] [(.int (2 : Int32))] _
    refine XS.aloadN X0.here hx rfl (hb hby d43_1) rfl rfl ?_
    show SS p e below m s₁ 2 #[vr a1, vi (2 : Int32)] [(.ref a1), (.int (2 : Int32))] _
    refine X0.arraylength hx (by rw [e0]; exact Ar1.1) ia1 (g := (mkF m 2 #[vr a1, vi (2 : Int32)] [(.ref a1), (.int (2 : Int32))])) rfl rfl (hb hby d43_2) _ ?_
    rw [len_of Sz1 Nn1]
    show SS p e below m s₁ 3 #[vr a1, vi (2 : Int32)] [(.int (2 : Int32)), (.int (2 : Int32))] _
    refine XS.isub X0.here hx rfl (hb hby d43_3) rfl ?_
    show SS p e below m s₁ 4 #[vr a1, vi (2 : Int32)] [(.int (0 : Int32))] _
    refine XS.bipush X0.here hx rfl (hb hby d43_4) ?_
    show SS p e below m s₁ 6 #[vr a1, vi (2 : Int32)] [(.int (31 : Int32)), (.int (0 : Int32))] _
    refine XS.iushr X0.here hx rfl (hb hby d43_6) rfl ?_
    show SS p e below m s₁ 7 #[vr a1, vi (2 : Int32)] [(.int (((0 : Int32).toUInt32 >>> ((31 : Int32) &&& 31).toUInt32).toInt32))] _
    refine XS.i2b X0.here hx rfl (hb hby d43_7) rfl ?_
    show SS p e below m s₁ 8 #[vr a1, vi (2 : Int32)] [(.int ((((0 : Int32).toUInt32 >>> ((31 : Int32) &&& 31).toUInt32).toInt32).toInt8.toInt32))] _
    exact retN X0 hx (t := .byte) Bd.returns (by simp) (hb hby d43_8) hr
  · show Q_rm_cf2 Z a1 kb vs h0 n0 _ s₁.heap _
    rw [e0]
    exact ⟨(by decide), N0, rfl⟩
theorem ef_rm_i42 (m : MethodId) (x0 : Addr) (x1 : Addr) (x2 : Int32) (x3 : Int32) : entryFrame m #[(.ref x0), (.ref x1), (.int x2), (.int x3), .null] 6 = mkF m 0 #[vr x0, vr x1, vi x2, vi x3, vN, .unset] [] := by first | (simp [entryFrame, mkF, argsToLocals, Value.category]; done) | rfl
def Q_rm_i42 (Z : State) (a1 : Addr) (a2 : Addr) (kc : ClassId) (x0 : Int32) (x1 : Int32) (zc : Int32) (h0 : Heap) (n0 : Nat) (v : Option Value) (h : Heap) (L : List Loc) : Prop := ∃ tz : Addr, ∃ kb : ClassId, (v = none) ∧ (Fr n0 L) ∧ (Keep h0 h [a1]) ∧ (h0.size ≤ tz) ∧ (Fld Z h a1 "java/lang/String" "value" "[B" (.ref tz)) ∧ (Fld Z h a1 "java/lang/String" "coder" "B" (.int (0 : Int32))) ∧ (Arv Z h tz kb .byte (2 : Int32) [(.int (own_b x0)), (.int (own_b x1))] (.int (0 : Int32)))
set_option maxRecDepth 65536 in
set_option maxHeartbeats 40000000 in
theorem rm_i42 (l : Launch) (Z : State) (a0 : Array Value) (hw : ∀ d ∈ tables_1, d.before a0 Z = true) (ws : List Jvm.Cond) (a1 : Addr) (a2 : Addr) (kc : ClassId) (x0 : Int32) (x1 : Int32) (zc : Int32) (h0 : Heap) (n0 : Nat) (Z0 : n0 ≤ h0.size) (O0 : Old Z n0 h0) (F_value_a1 : Fld Z h0 a1 "java/lang/String" "value" "[B" .null) (F_coder_a1 : Fld Z h0 a1 "java/lang/String" "coder" "B" (.int (0 : Int32))) (E_a1 : Exa Z h0 a1 "java/lang/String") (g_a1 : n0 ≤ a1) (V_a2 : Arv Z h0 a2 kc .char (2 : Int32) [(.int x0), (.int x1)] (.int (0 : Int32))) (S_CS : Sta Z Z.heap "java/lang/String" "COMPACT_STRINGS" "Z" (.int zc)) (hz : ¬ zc = (0 : Int32)) (hx0 : ¬ (255 : Int32) < x0) (hx1 : ¬ (255 : Int32) < x1) :
    MetFree l y_27 (head1 (Jvm.Cond.code y_27 jdk_42_method_149_code 6 none :: ws) ({ frames := 2, cells := 1, slots := 2, locals := 35 } : Room)) (fun a U => a = #[(.ref a1), (.ref a2), (.int (0 : Int32)), (.int (2 : Int32)), .null] ∧ Z.Warmed39 U.vm ∧ U.heap = h0) (fun _ _ _ _ _ => True) (fun _ U o U' => ∃ v L, o = .returned v ∧ Q_rm_i42 Z a1 a2 kc x0 x1 zc h0 n0 v U'.heap L ∧ FrameEnd U o U' L ({ frames := 2, cells := 1, slots := 2, locals := 35 } : Room).cells ({ frames := 2, cells := 1, slots := 2, locals := 35 } : Room).slots) := by
  refine MetFree.of_bodySF (plainFor_of_name pn_0) hisR ?_
  intro p e s m args below meth c s₁ Bd hml0 hP hK
  obtain ⟨rfl, hZ, hh⟩ := hP
  have hx := Bd.exec
  have hby := Bd.bytes
  have hml : c.maxLocals = 6 := hml0
  have hown : s.vm.findClass "java/lang/String" = some m.cls := findClass_of_methodNamed Bd.named
  have hnm := (name_of_methodNamed Bd.named Bd.method).1
  have X0 : Stand p l e ({ frames := 2, cells := 1, slots := 2, locals := 35 } : Room) s m #[(.ref a1), (.ref a2), (.int (0 : Int32)), (.int (2 : Int32)), .null] below meth c s₁ [] 0 0 := Stand.of_body Bd
  have e0 : s₁.heap = h0 := by rw [← hh, Bd.state]; rfl
  have N0 := Fr.nil n0
  have KC : Keep h0 h0 [a1] := Keep.refl h0 _
  have pre0 : ∀ t, Steps p.tables e below (s₁.setTop (mkF m 0 #[vr a1, vr a2, vi (0 : Int32), vi (2 : Int32), vN, un] [])) t → Steps p.tables e below (s₁.setTop (entryFrame m #[(.ref a1), (.ref a2), (.int (0 : Int32)), (.int (2 : Int32)), .null] 6)) t := fun t k => castTop (ef_rm_i42 m a1 a2 (0 : Int32) (2 : Int32)) k
  obtain ⟨T1, X1, e1, st1⟩ := initO X0 hx hZ hown (ww hw 11 rfl) (ww hw 12 rfl) (ww hw 13 rfl) e0 (g := (mkF m 1 #[vr a1, vr a2, vi (0 : Int32), vi (2 : Int32), vN, un] [(.ref a1)])) rfl (by rw [hml]; rfl) rfl (hb hby d2_1) (by decide) (W := 0) (by show 2 * 0 + _ ≤ _; exact Nat.le_of_eq rfl) (by decide)
  obtain ⟨T2, X2, e2, st2⟩ := getS2 X1 hx hZ hown (host := "") (Or.inl (ww hw 42 rfl)) Via.refl e1 (S_CS.ext O0.2) (g := (mkF m 27 #[vr a1, vr a2, vi (0 : Int32), vi (2 : Int32), vN, un] [])) rfl (hb hby d2_27)
  obtain ⟨_, _, ⟨T3, L3, kz3, nz3⟩, -, X3, ⟨Lc3, hQ3, l3, y3, z3⟩, st3⟩ := Jvm.LawKit.callS X2 hx (y := y_30) hown (mvT hZ (ww hw 220 rfl)) (mvT hZ (ww hw 221 rfl)) (mvT hZ (ww hw 222 rfl)) (mvT hZ (ww hw 223 rfl)) (by decide) (backOf (W := 0) (rm_cm2 l Z a0 hw [] a2 kc x0 x1 h0 n0 (Nat.le_trans Z0 KC.1) O0 V_a2 hx0 hx1) hZ (ww hw 223 rfl) (ww hw 222 rfl) (by decide) (by decide)) (g := (mkF m 36 #[vr a1, vr a2, vi (0 : Int32), vi (2 : Int32), vN, un] [(.int (2 : Int32)), (.int (0 : Int32)), (.ref a2)])) rfl (by rw [hml]; rfl) (argsL := [(.ref a2), (.int (0 : Int32)), (.int (2 : Int32))]) (rest := []) (lenOf pd_18 rfl) rfl (by show 2 * 0 + _ ≤ _; exact Nat.le_of_eq rfl) (hb hby d2_36) (fun _ _ => ⟨rfl, e2, (by decide : 0 + 1 ≤ _), (by decide : 0 + 2 ≤ _)⟩)
  dsimp only [Pt.U, Pt.locs, Pt.cells, Pt.slots] at X3 l3 y3 z3 st3 hQ3
  subst l3 y3 z3
  obtain ⟨b3_tz, kb_3, rfl, N3q, K3, sz_b3_tz, V_tz_3⟩ := hQ3
  have N3 := Fr.app N0 N3q
  have ne_a1_b3_tz : a1 ≠ b3_tz := Nat.ne_of_lt (Nat.lt_of_lt_of_le F_value_a1.lt sz_b3_tz)
  have ne_a2_b3_tz : a2 ≠ b3_tz := Nat.ne_of_lt (Nat.lt_of_lt_of_le V_a2.lt sz_b3_tz)
  have g_b3_tz : n0 ≤ b3_tz := Nat.le_trans (Nat.le_trans Z0 KC.1) sz_b3_tz
  replace sz_b3_tz : h0.size ≤ b3_tz := Nat.le_trans KC.1 sz_b3_tz
  replace F_value_a1 := F_value_a1.keep K3 nin0
  replace F_coder_a1 := F_coder_a1.keep K3 nin0
  replace E_a1 := E_a1.keep K3
  replace V_a2 := V_a2.keep K3 nin0
  replace O0 := O0.keep K3 all0
  replace KC := KC.trans K3 all0
  obtain ⟨_, _, ⟨T4, L4, kz4, nz4⟩, -, X4, ⟨Lc4, hQ4, l4, y4, z4⟩, st4⟩ := Jvm.LawKit.callS X3 hx (y := y_31) hown (mvT hZ (ww hw 227 rfl)) (mvT hZ (ww hw 228 rfl)) (mvT hZ (ww hw 222 rfl)) (mvT hZ (ww hw 229 rfl)) (by decide) (backOf (W := 1) (rm_cf2 l Z a0 hw [] b3_tz kb_3 [(.int (own_b x0)), (.int (own_b x1))] T3.heap n0 (Nat.le_trans Z0 KC.1) O0 V_tz_3) hZ (ww hw 229 rfl) (ww hw 222 rfl) (by decide) (by decide)) (g := (mkF m 45 #[vr a1, vr a2, vi (0 : Int32), vi (2 : Int32), vN, vr b3_tz] [(.int (2 : Int32)), (.ref b3_tz), (.ref a1)])) rfl (by rw [hml]; rfl) (argsL := [(.ref b3_tz), (.int (2 : Int32))]) (rest := [(.ref a1)]) (lenOf pd_19 rfl) rfl (by show 2 * 0 + _ ≤ _; exact Nat.le_of_eq rfl) (hb hby d2_45) (fun _ _ => ⟨rfl, rfl, (by decide : 1 + 0 ≤ _), (by decide : 2 + 0 ≤ _)⟩)
  dsimp only [Pt.U, Pt.locs, Pt.cells, Pt.slots] at X4 l4 y4 z4 st4 hQ4
  subst l4 y4 z4
  obtain ⟨rfl, N4q, e4⟩ := hQ4
  have N4 := Fr.app N3 N4q
  obtain ⟨T5, h5, X5, e5, W5, st5⟩ := putFN X4 hx hZ hown (ww hw 21 rfl) Via.refl e4 F_coder_a1 E_a1 (Or.inr ⟨(ww hw 17 rfl), rfl, hnm⟩) (ww hw 2 rfl) (ty := .byte) (v' := .int (0 : Int32)) (by decide) rfl rfl (g := (mkF m 48 #[vr a1, vr a2, vi (0 : Int32), vi (2 : Int32), vN, vr b3_tz] [(.int (0 : Int32)), (.ref a1)])) rfl rfl (hb hby d2_48)
  have N5 := Fr.snoc X5 N4 g_a1
  replace F_coder_a1 := F_coder_a1.same W5
  have nev_a1_a2 : a1 ≠ a2 := Exa.neArv E_a1 V_a2 (ww hw 2 rfl)
  replace F_value_a1 := F_value_a1.other W5 (Or.inr (slot_ne (Or.inr (ww hw 16 rfl)) (Or.inr (ww hw 17 rfl)) (by decide) (t := (.array .byte)) (t' := .byte) (by decide) (by decide)))
  replace E_a1 := E_a1.wr W5
  replace V_a2 := V_a2.other W5 (Ne.symm nev_a1_a2)
  replace V_tz_3 := V_tz_3.other W5 (Ne.symm ne_a1_b3_tz)
  replace O0 := O0.wr W5 g_a1
  replace KC := KC.wr W5 (Or.inl (List.mem_of_getElem? (i := 0) rfl))
  obtain ⟨T6, h6, X6, e6, W6, st6⟩ := putF X5 hx hZ hown (host := "") (Or.inl (ww hw 20 rfl)) Via.refl e5 F_value_a1 E_a1 (Or.inr ⟨(ww hw 16 rfl), rfl, hnm⟩) (ww hw 2 rfl) (ty := (.array .byte)) (by decide) rfl rfl (g := (mkF m 54 #[vr a1, vr a2, vi (0 : Int32), vi (2 : Int32), vN, vr b3_tz] [(.ref b3_tz), (.ref a1)])) rfl rfl (hb hby d2_54)
  have N6 := Fr.snoc X6 N5 g_a1
  replace F_value_a1 := F_value_a1.same W6
  replace F_coder_a1 := F_coder_a1.other W6 (Or.inr (slot_ne (Or.inr (ww hw 17 rfl)) (Or.inr (ww hw 16 rfl)) (by decide) (t := .byte) (t' := (.array .byte)) (by decide) (by decide)))
  replace E_a1 := E_a1.wr W6
  replace V_a2 := V_a2.other W6 (Ne.symm nev_a1_a2)
  replace V_tz_3 := V_tz_3.other W6 (Ne.symm ne_a1_b3_tz)
  replace O0 := O0.wr W6 g_a1
  replace KC := KC.wr W6 (Or.inl (List.mem_of_getElem? (i := 0) rfl))
  obtain ⟨fs, hr, hrun, hended, hW, hsame⟩ := X6.leave (v := none) (fun _ => rfl)
  refine ⟨_, _, pre0 _ ?_, hrun, hended, _, _, rfl, ?_, ⟨_, rfl⟩, hW, hsame.mono (by decide) (by decide)⟩
  · show SS p e below m s₁ 0 #[vr a1, vr a2, vi (0 : Int32), vi (2 : Int32), vN, un] [] _
    refine XS.aloadN X0.here hx rfl (hb hby d2_0) rfl rfl ?_
    show SS p e below m s₁ 1 #[vr a1, vr a2, vi (0 : Int32), vi (2 : Int32), vN, un] [(.ref a1)] _
    refine st1 _ ?_
    show SS p e below m T1 4 #[vr a1, vr a2, vi (0 : Int32), vi (2 : Int32), vN, un] [] _
    refine XS.iloadN X1.here hx rfl (hb hby d2_4) rfl ?_
    show SS p e below m T1 5 #[vr a1, vr a2, vi (0 : Int32), vi (2 : Int32), vN, un] [(.int (2 : Int32))] _
    refine XS.ifYes X1.here hx rfl (pc0 := 5) (pc' := 27) rfl (hb hby d2_5) rfl ((if0 _ _).trans (feq (by decide)).2) (by decide) (by decide) ?_
    show SS p e below m T1 27 #[vr a1, vr a2, vi (0 : Int32), vi (2 : Int32), vN, un] [] _
    refine st2 _ ?_
    show SS p e below m T2 30 #[vr a1, vr a2, vi (0 : Int32), vi (2 : Int32), vN, un] [(.int zc)] _
    refine XS.ifNo X2.here hx rfl (hb hby d2_30) rfl ((if0 _ _).trans (feq hz).1) ?_
    show SS p e below m T2 33 #[vr a1, vr a2, vi (0 : Int32), vi (2 : Int32), vN, un] [] _
    refine XS.aloadN X2.here hx rfl (hb hby d2_33) rfl rfl ?_
    show SS p e below m T2 34 #[vr a1, vr a2, vi (0 : Int32), vi (2 : Int32), vN, un] [(.ref a2)] _
    refine XS.iloadN X2.here hx rfl (hb hby d2_34) rfl ?_
    show SS p e below m T2 35 #[vr a1, vr a2, vi (0 : Int32), vi (2 : Int32), vN, un] [(.int (0 : Int32)), (.ref a2)] _
    refine XS.iloadN X2.here hx rfl (hb hby d2_35) rfl ?_
    show SS p e below m T2 36 #[vr a1, vr a2, vi (0 : Int32), vi (2 : Int32), vN, un] [(.int (2 : Int32)), (.int (0 : Int32)), (.ref a2)] _
    refine st3 _ ?_
    show SS p e below m T3 39 #[vr a1, vr a2, vi (0 : Int32), vi (2 : Int32), vN, un] [(.ref b3_tz)] _
    refine XS.astore X3.here hx rfl (hb hby d2_39) rfl rfl (l' := #[vr a1, vr a2, vi (0 : Int32), vi (2 : Int32), vN, vr b3_tz]) rfl ?_
    show SS p e below m T3 41 #[vr a1, vr a2, vi (0 : Int32), vi (2 : Int32), vN, vr b3_tz] [] _
    refine XS.aloadN X3.here hx rfl (hb hby d2_41) rfl rfl ?_
    show SS p e below m T3 42 #[vr a1, vr a2, vi (0 : Int32), vi (2 : Int32), vN, vr b3_tz] [(.ref a1)] _
    refine XS.aload X3.here hx rfl (hb hby d2_42) rfl rfl ?_
    show SS p e below m T3 44 #[vr a1, vr a2, vi (0 : Int32), vi (2 : Int32), vN, vr b3_tz] [(.ref b3_tz), (.ref a1)] _
    refine XS.iloadN X3.here hx rfl (hb hby d2_44) rfl ?_
    show SS p e below m T3 45 #[vr a1, vr a2, vi (0 : Int32), vi (2 : Int32), vN, vr b3_tz] [(.int (2 : Int32)), (.ref b3_tz), (.ref a1)] _
    refine st4 _ ?_
    show SS p e below m T4 48 #[vr a1, vr a2, vi (0 : Int32), vi (2 : Int32), vN, vr b3_tz] [(.int (0 : Int32)), (.ref a1)] _
    refine st5 _ ?_
    show SS p e below m T5 51 #[vr a1, vr a2, vi (0 : Int32), vi (2 : Int32), vN, vr b3_tz] [] _
    refine XS.aloadN X5.here hx rfl (hb hby d2_51) rfl rfl ?_
    show SS p e below m T5 52 #[vr a1, vr a2, vi (0 : Int32), vi (2 : Int32), vN, vr b3_tz] [(.ref a1)] _
    refine XS.aload X5.here hx rfl (hb hby d2_52) rfl rfl ?_
    show SS p e below m T5 54 #[vr a1, vr a2, vi (0 : Int32), vi (2 : Int32), vN, vr b3_tz] [(.ref b3_tz), (.ref a1)] _
    refine st6 _ ?_
    show SS p e below m T6 57 #[vr a1, vr a2, vi (0 : Int32), vi (2 : Int32), vN, vr b3_tz] [] _
    exact X6.returnOut hx Bd.returns (hb hby d2_57) hr
  · show Q_rm_i42 Z a1 a2 kc x0 x1 zc h0 n0 _ T6.heap _
    rw [e6]
    exact ⟨b3_tz, kb_3, rfl, N6, KC, sz_b3_tz, F_value_a1, F_coder_a1, V_tz_3⟩
theorem ef_rm_i12 (m : MethodId) (x0 : Addr) (x1 : Addr) : entryFrame m #[(.ref x0), (.ref x1)] 2 = mkF m 0 #[vr x0, vr x1] [] := by first | (simp [entryFrame, mkF, argsToLocals, Value.category]; done) | rfl
def Q_rm_i12 (Z : State) (a1 : Addr) (a2 : Addr) (kc : ClassId) (x0 : Int32) (x1 : Int32) (zc : Int32) (h0 : Heap) (n0 : Nat) (v : Option Value) (h : Heap) (L : List Loc) : Prop := ∃ tz : Addr, ∃ kb : ClassId, (v = none) ∧ (Fr n0 L) ∧ (Keep h0 h [a1]) ∧ (h0.size ≤ tz) ∧ (Fld Z h a1 "java/lang/String" "value" "[B" (.ref tz)) ∧ (Fld Z h a1 "java/lang/String" "coder" "B" (.int (0 : Int32))) ∧ (Arv Z h tz kb .byte (2 : Int32) [(.int (own_b x0)), (.int (own_b x1))] (.int (0 : Int32)))
set_option maxRecDepth 65536 in
set_option maxHeartbeats 40000000 in
theorem rm_i12 (l : Launch) (Z : State) (a0 : Array Value) (hw : ∀ d ∈ tables_1, d.before a0 Z = true) (ws : List Jvm.Cond) (a1 : Addr) (a2 : Addr) (kc : ClassId) (x0 : Int32) (x1 : Int32) (zc : Int32) (h0 : Heap) (n0 : Nat) (Z0 : n0 ≤ h0.size) (O0 : Old Z n0 h0) (F_value_a1 : Fld Z h0 a1 "java/lang/String" "value" "[B" .null) (F_coder_a1 : Fld Z h0 a1 "java/lang/String" "coder" "B" (.int (0 : Int32))) (E_a1 : Exa Z h0 a1 "java/lang/String") (g_a1 : n0 ≤ a1) (V_a2 : Arv Z h0 a2 kc .char (2 : Int32) [(.int x0), (.int x1)] (.int (0 : Int32))) (S_CS : Sta Z Z.heap "java/lang/String" "COMPACT_STRINGS" "Z" (.int zc)) (hz : ¬ zc = (0 : Int32)) (hx0 : ¬ (255 : Int32) < x0) (hx1 : ¬ (255 : Int32) < x1) :
    MetFree l y_28 (head1 (Jvm.Cond.code y_28 jdk_42_method_3_code 2 none :: ws) ({ frames := 3, cells := 1, slots := 2, locals := 52 } : Room)) (fun a U => a = #[(.ref a1), (.ref a2)] ∧ Z.Warmed39 U.vm ∧ U.heap = h0) (fun _ _ _ _ _ => True) (fun _ U o U' => ∃ v L, o = .returned v ∧ Q_rm_i12 Z a1 a2 kc x0 x1 zc h0 n0 v U'.heap L ∧ FrameEnd U o U' L ({ frames := 3, cells := 1, slots := 2, locals := 52 } : Room).cells ({ frames := 3, cells := 1, slots := 2, locals := 52 } : Room).slots) := by
  refine MetFree.of_bodySF (plainFor_of_name pn_0) hisR ?_
  intro p e s m args below meth c s₁ Bd hml0 hP hK
  obtain ⟨rfl, hZ, hh⟩ := hP
  have hx := Bd.exec
  have hby := Bd.bytes
  have hml : c.maxLocals = 2 := hml0
  have hown : s.vm.findClass "java/lang/String" = some m.cls := findClass_of_methodNamed Bd.named
  have hnm := (name_of_methodNamed Bd.named Bd.method).1
  have X0 : Stand p l e ({ frames := 3, cells := 1, slots := 2, locals := 52 } : Room) s m #[(.ref a1), (.ref a2)] below meth c s₁ [] 0 0 := Stand.of_body Bd
  have e0 : s₁.heap = h0 := by rw [← hh, Bd.state]; rfl
  have N0 := Fr.nil n0
  have KC : Keep h0 h0 [a1] := Keep.refl h0 _
  have pre0 : ∀ t, Steps p.tables e below (s₁.setTop (mkF m 0 #[vr a1, vr a2] [])) t → Steps p.tables e below (s₁.setTop (entryFrame m #[(.ref a1), (.ref a2)] 2)) t := fun t k => castTop (ef_rm_i12 m a1 a2) k
  have Vo1 := V_a2
  obtain ⟨cl1, Ar1, -, Sz1, Nn1, -, -⟩ := Vo1
  have ia1 := State.isArrayOf_alike hZ.alike Ar1.2.1
  obtain ⟨_, _, ⟨T2, L2, kz2, nz2⟩, -, X2, ⟨Lc2, hQ2, l2, y2, z2⟩, st2⟩ := X0.specialBack hx (y := y_27) rfl hown (mvT hZ (ww hw 7 rfl)) (mvT hZ (ww hw 8 rfl)) (mvT hZ (ww hw 10 rfl)) (by decide) (backOf (W := 0) (rm_i42 l Z a0 hw [] a1 a2 kc x0 x1 zc h0 n0 (Nat.le_trans Z0 KC.1) O0 F_value_a1 F_coder_a1 E_a1 g_a1 V_a2 S_CS hz hx0 hx1) hZ (ww hw 10 rfl) (ww hw 3 rfl) (by decide) (by decide)) (g := (mkF m 6 #[vr a1, vr a2] [.null, (.int (2 : Int32)), (.int (0 : Int32)), (.ref a2), (.ref a1)])) rfl (by rw [hml]; rfl) (Steps.refl _) (a := a1) (argsL := [(.ref a2), (.int (0 : Int32)), (.int (2 : Int32)), .null]) (rest := []) (lenOf pd_16 rfl) rfl (by show 2 * 0 + _ ≤ _; exact Nat.le_of_eq rfl) (hb hby d1_6) (fun _ _ => ⟨rfl, e0, (by decide : 0 + 1 ≤ _), (by decide : 0 + 2 ≤ _)⟩)
  dsimp only [Pt.U, Pt.locs, Pt.cells, Pt.slots] at X2 l2 y2 z2 st2 hQ2
  subst l2 y2 z2
  obtain ⟨b2_tz, kb_2, rfl, N2q, K2, sz_b2_tz, F_value_a1_2, F_coder_a1_2, V_tz_2⟩ := hQ2
  have N2 := Fr.app N0 N2q
  have ne_a1_b2_tz : a1 ≠ b2_tz := Nat.ne_of_lt (Nat.lt_of_lt_of_le F_value_a1.lt sz_b2_tz)
  have ne_a2_b2_tz : a2 ≠ b2_tz := Nat.ne_of_lt (Nat.lt_of_lt_of_le V_a2.lt sz_b2_tz)
  have g_b2_tz : n0 ≤ b2_tz := Nat.le_trans (Nat.le_trans Z0 KC.1) sz_b2_tz
  replace sz_b2_tz : h0.size ≤ b2_tz := Nat.le_trans KC.1 sz_b2_tz
  have nev_a1_a2 : a1 ≠ a2 := Exa.neArv E_a1 V_a2 (ww hw 2 rfl)
  replace E_a1 := E_a1.keep K2
  replace V_a2 := V_a2.keep K2 (ninS (Ne.symm nev_a1_a2) nin0)
  replace O0 := O0.keep K2 (allS g_a1 all0)
  replace KC := KC.trans K2 (allS (Or.inl (List.mem_of_getElem? (i := 0) rfl)) all0)
  obtain ⟨fs, hr, hrun, hended, hW, hsame⟩ := X2.leave (v := none) (fun _ => rfl)
  refine ⟨_, _, pre0 _ ?_, hrun, hended, _, _, rfl, ?_, ⟨_, rfl⟩, hW, hsame.mono (by decide) (by decide)⟩
  · show SS p e below m s₁ 0 #[vr a1, vr a2] [] _
    refine XS.aloadN X0.here hx rfl (hb hby d1_0) rfl rfl ?_
    show SS p e below m s₁ 1 #[vr a1, vr a2] [(.ref a1)] _
    refine XS.aloadN X0.here hx rfl (hb hby d1_1) rfl rfl ?_
    show SS p e below m s₁ 2 #[vr a1, vr a2] [(.ref a2), (.ref a1)] _
    refine XS.iconst X0.here hx rfl (hb hby d1_2) ?_
    show SS p e below m s₁ 3 #[vr a1, vr a2] [(.int (0 : Int32)), (.ref a2), (.ref a1)] _
    refine XS.aloadN X0.here hx rfl (hb hby d1_3) rfl rfl ?_
    show SS p e below m s₁ 4 #[vr a1, vr a2] [(.ref a2), (.int (0 : Int32)), (.ref a2), (.ref a1)] _
    refine X0.arraylength hx (by rw [e0]; exact Ar1.1) ia1 (g := (mkF m 4 #[vr a1, vr a2] [(.ref a2), (.int (0 : Int32)), (.ref a2), (.ref a1)])) rfl rfl (hb hby d1_4) _ ?_
    rw [len_of Sz1 Nn1]
    show SS p e below m s₁ 5 #[vr a1, vr a2] [(.int (2 : Int32)), (.int (0 : Int32)), (.ref a2), (.ref a1)] _
    refine XS.aconstNull X0.here hx rfl (hb hby d1_5) ?_
    show SS p e below m s₁ 6 #[vr a1, vr a2] [.null, (.int (2 : Int32)), (.int (0 : Int32)), (.ref a2), (.ref a1)] _
    refine st2.trans ?_
    show SS p e below m T2 9 #[vr a1, vr a2] [] _
    exact X2.returnOut hx Bd.returns (hb hby d1_9) hr
  · show Q_rm_i12 Z a1 a2 kc x0 x1 zc h0 n0 _ T2.heap _
    exact ⟨b2_tz, kb_2, rfl, N2, KC, sz_b2_tz, F_value_a1_2, F_coder_a1_2, V_tz_2⟩
theorem ef_rm_cmp3 (m : MethodId) (x0 : Addr) (x1 : Int32) (x2 : Addr) (x3 : Int32) (x4 : Int32) : entryFrame m #[(.ref x0), (.int x1), (.ref x2), (.int x3), (.int x4)] 7 = mkF m 0 #[vr x0, vi x1, vr x2, vi x3, vi x4, .unset, .unset] [] := by first | (simp [entryFrame, mkF, argsToLocals, Value.category]; done) | rfl
def Q_rm_cmp3 (Z : State) (a1 : Addr) (a3 : Addr) (kc : ClassId) (kb : ClassId) (x0 : Int32) (x1 : Int32) (x2 : Int32) (h0 : Heap) (n0 : Nat) (v : Option Value) (h : Heap) (L : List Loc) : Prop := (v = some (.int (3 : Int32))) ∧ (Fr n0 L) ∧ (Keep h0 h [a3]) ∧ (Arv Z h a3 kb .byte (3 : Int32) [(.int (own_b x0)), (.int (own_b x1)), (.int (own_b x2))] (.int (0 : Int32)))
set_option maxRecDepth 65536 in
set_option maxHeartbeats 40000000 in
theorem rm_cmp3 (l : Launch) (Z : State) (a0 : Array Value) (hw : ∀ d ∈ tables_1, d.before a0 Z = true) (ws : List Jvm.Cond) (a1 : Addr) (a3 : Addr) (kc : ClassId) (kb : ClassId) (x0 : Int32) (x1 : Int32) (x2 : Int32) (h0 : Heap) (n0 : Nat) (Z0 : n0 ≤ h0.size) (O0 : Old Z n0 h0) (V_a1 : Arv Z h0 a1 kc .char (3 : Int32) [(.int x0), (.int x1), (.int x2)] (.int (0 : Int32))) (V_a3 : Arv Z h0 a3 kb .byte (3 : Int32) [(.int (0 : Int32)), (.int (0 : Int32)), (.int (0 : Int32))] (.int (0 : Int32))) (g_a3 : n0 ≤ a3) (ne_13 : a1 ≠ a3) (hx0 : ¬ (255 : Int32) < x0) (hx1 : ¬ (255 : Int32) < x1) (hx2 : ¬ (255 : Int32) < x2) :
    MetFree l y_29 (head1 (Jvm.Cond.code y_29 jdk_52_method_21_code 7 (some .int) :: ws) ({ frames := 0, cells := 0, slots := 0, locals := 0 } : Room)) (fun a U => a = #[(.ref a1), (.int (0 : Int32)), (.ref a3), (.int (0 : Int32)), (.int (3 : Int32))] ∧ Z.Warmed39 U.vm ∧ U.heap = h0) (fun _ _ _ _ _ => True) (fun _ U o U' => ∃ v L, o = .returned v ∧ Q_rm_cmp3 Z a1 a3 kc kb x0 x1 x2 h0 n0 v U'.heap L ∧ FrameEnd U o U' L ({ frames := 0, cells := 0, slots := 0, locals := 0 } : Room).cells ({ frames := 0, cells := 0, slots := 0, locals := 0 } : Room).slots) := by
  refine MetFree.of_bodySF (plainFor_of_name pn_7) hisR ?_
  intro p e s m args below meth c s₁ Bd hml0 hP hK
  obtain ⟨rfl, hZ, hh⟩ := hP
  have hx := Bd.exec
  have hby := Bd.bytes
  have hml : c.maxLocals = 7 := hml0
  have hown : s.vm.findClass "java/lang/StringUTF16" = some m.cls := findClass_of_methodNamed Bd.named
  have hnm := (name_of_methodNamed Bd.named Bd.method).1
  have X0 : Stand p l e ({ frames := 0, cells := 0, slots := 0, locals := 0 } : Room) s m #[(.ref a1), (.int (0 : Int32)), (.ref a3), (.int (0 : Int32)), (.int (3 : Int32))] below meth c s₁ [] 0 0 := Stand.of_body Bd
  have e0 : s₁.heap = h0 := by rw [← hh, Bd.state]; rfl
  have N0 := Fr.nil n0
  have KC : Keep h0 h0 [a3] := Keep.refl h0 _
  have pre0 : ∀ t, Steps p.tables e below (s₁.setTop (mkF m 0 #[vr a1, vi (0 : Int32), vr a3, vi (0 : Int32), vi (3 : Int32), un, un] [])) t → Steps p.tables e below (s₁.setTop (entryFrame m #[(.ref a1), (.int (0 : Int32)), (.ref a3), (.int (0 : Int32)), (.int (3 : Int32))] 7)) t := fun t k => castTop (ef_rm_cmp3 m a1 (0 : Int32) a3 (0 : Int32) (3 : Int32)) k
  have Vo1 := V_a1
  obtain ⟨cl1, Ar1, q1, Sz1, Nn1, Hh1, Gg1⟩ := Vo1
  have hin1 : ¬ ((0 : Int32) < 0 ∨ cl1.slots.size ≤ ((0 : Int32)).toNatClampNeg) := inb_of Sz1 ⟨by decide, by decide⟩
  have hat1 : cl1.slots[((0 : Int32)).toNatClampNeg]? = some (.int x0) := Has.at Hh1 hin1 rfl
  have ia1 := State.isArrayOf_alike hZ.alike Ar1.2.1
  have Vo2 := V_a3
  obtain ⟨cl2, Ar2, q2, Sz2, Nn2, Hh2, Gg2⟩ := Vo2
  have hin2 : ¬ ((0 : Int32) < 0 ∨ cl2.slots.size ≤ ((0 : Int32)).toNatClampNeg) := inb_of Sz2 ⟨by decide, by decide⟩
  obtain ⟨T3, h3, X3, e3, W3, st3⟩ := stB X0 hx hZ e0 Ar2 (j := (0 : Int32)) hin2 (g := (mkF m 31 #[vr a1, vi (0 : Int32), vr a3, vi (0 : Int32), vi (3 : Int32), vi (0 : Int32), vi x0] [(.int (x0.toInt8.toInt32)), (.int (0 : Int32)), (.ref a3)])) rfl rfl (hb hby d42_31)
  have Vn3 := Arv.set Ar2 q2 Sz2 Nn2 Hh2 Gg2 (fits_nar_byte _) W3 (0) rfl (Nat.le_of_ble_eq_true rfl)
  have N3 := Fr.snoc X3 N0 g_a3
  have Vm3 : Arv Z h3 a3 kb .byte (3 : Int32) [(.int (own_b x0)), (.int (0 : Int32)), (.int (0 : Int32))] (.int (0 : Int32)) := by have hh := Vn3; rw [own_bb] at hh; exact hh
  replace V_a1 := V_a1.other W3 ne_13
  replace O0 := O0.wr W3 g_a3
  replace KC := KC.wr W3 (Or.inl (List.mem_of_getElem? (i := 0) rfl))
  have Vo4 := V_a1
  obtain ⟨cl4, Ar4, q4, Sz4, Nn4, Hh4, Gg4⟩ := Vo4
  have hin4 : ¬ ((1 : Int32) < 0 ∨ cl4.slots.size ≤ ((1 : Int32)).toNatClampNeg) := inb_of Sz4 ⟨by decide, by decide⟩
  have hat4 : cl4.slots[((1 : Int32)).toNatClampNeg]? = some (.int x1) := Has.at Hh4 hin4 rfl
  have ia4 := State.isArrayOf_alike hZ.alike Ar4.2.1
  have Vo5 := Vm3
  obtain ⟨cl5, Ar5, q5, Sz5, Nn5, Hh5, Gg5⟩ := Vo5
  have hin5 : ¬ ((1 : Int32) < 0 ∨ cl5.slots.size ≤ ((1 : Int32)).toNatClampNeg) := inb_of Sz5 ⟨by decide, by decide⟩
  obtain ⟨T6, h6, X6, e6, W6, st6⟩ := stB X3 hx hZ e3 Ar5 (j := (1 : Int32)) hin5 (g := (mkF m 31 #[vr a1, vi (1 : Int32), vr a3, vi (1 : Int32), vi (3 : Int32), vi (1 : Int32), vi x1] [(.int (x1.toInt8.toInt32)), (.int (1 : Int32)), (.ref a3)])) rfl rfl (hb hby d42_31)
  have Vn6 := Arv.set Ar5 q5 Sz5 Nn5 Hh5 Gg5 (fits_nar_byte _) W6 (1) rfl (Nat.le_of_ble_eq_true rfl)
  have N6 := Fr.snoc X6 N3 g_a3
  have Vm6 : Arv Z h6 a3 kb .byte (3 : Int32) [(.int (own_b x0)), (.int (own_b x1)), (.int (0 : Int32))] (.int (0 : Int32)) := by have hh := Vn6; rw [own_bb] at hh; exact hh
  replace V_a1 := V_a1.other W6 ne_13
  replace O0 := O0.wr W6 g_a3
  replace KC := KC.wr W6 (Or.inl (List.mem_of_getElem? (i := 0) rfl))
  have Vo7 := V_a1
  obtain ⟨cl7, Ar7, q7, Sz7, Nn7, Hh7, Gg7⟩ := Vo7
  have hin7 : ¬ ((2 : Int32) < 0 ∨ cl7.slots.size ≤ ((2 : Int32)).toNatClampNeg) := inb_of Sz7 ⟨by decide, by decide⟩
  have hat7 : cl7.slots[((2 : Int32)).toNatClampNeg]? = some (.int x2) := Has.at Hh7 hin7 rfl
  have ia7 := State.isArrayOf_alike hZ.alike Ar7.2.1
  have Vo8 := Vm6
  obtain ⟨cl8, Ar8, q8, Sz8, Nn8, Hh8, Gg8⟩ := Vo8
  have hin8 : ¬ ((2 : Int32) < 0 ∨ cl8.slots.size ≤ ((2 : Int32)).toNatClampNeg) := inb_of Sz8 ⟨by decide, by decide⟩
  obtain ⟨T9, h9, X9, e9, W9, st9⟩ := stB X6 hx hZ e6 Ar8 (j := (2 : Int32)) hin8 (g := (mkF m 31 #[vr a1, vi (2 : Int32), vr a3, vi (2 : Int32), vi (3 : Int32), vi (2 : Int32), vi x2] [(.int (x2.toInt8.toInt32)), (.int (2 : Int32)), (.ref a3)])) rfl rfl (hb hby d42_31)
  have Vn9 := Arv.set Ar8 q8 Sz8 Nn8 Hh8 Gg8 (fits_nar_byte _) W9 (2) rfl (Nat.le_of_ble_eq_true rfl)
  have N9 := Fr.snoc X9 N6 g_a3
  have Vm9 : Arv Z h9 a3 kb .byte (3 : Int32) [(.int (own_b x0)), (.int (own_b x1)), (.int (own_b x2))] (.int (0 : Int32)) := by have hh := Vn9; rw [own_bb] at hh; exact hh
  replace V_a1 := V_a1.other W9 ne_13
  replace O0 := O0.wr W9 g_a3
  replace KC := KC.wr W9 (Or.inl (List.mem_of_getElem? (i := 0) rfl))
  obtain ⟨fs, hr, hrun, hended, hW, hsame⟩ := X9.leave (v := some (.int (3 : Int32))) (fun h => by rw [Bd.returns] at h; cases h)
  refine ⟨_, _, pre0 _ ?_, hrun, hended, _, _, rfl, ?_, ⟨_, rfl⟩, hW, hsame.mono (by decide) (by decide)⟩
  · show SS p e below m s₁ 0 #[vr a1, vi (0 : Int32), vr a3, vi (0 : Int32), vi (3 : Int32), un, un] [] _
    refine XS.iconst X0.here hx rfl (hb hby d42_0) ?_
    show SS p e below m s₁ 1 #[vr a1, vi (0 : Int32), vr a3, vi (0 : Int32), vi (3 : Int32), un, un] [(.int (0 : Int32))] _
    refine XS.istore X0.here hx rfl (hb hby d42_1) rfl (l' := #[vr a1, vi (0 : Int32), vr a3, vi (0 : Int32), vi (3 : Int32), vi (0 : Int32), un]) rfl ?_
    show SS p e below m s₁ 3 #[vr a1, vi (0 : Int32), vr a3, vi (0 : Int32), vi (3 : Int32), vi (0 : Int32), un] [] _
    refine XS.iload X0.here hx rfl (hb hby d42_3) rfl ?_
    show SS p e below m s₁ 5 #[vr a1, vi (0 : Int32), vr a3, vi (0 : Int32), vi (3 : Int32), vi (0 : Int32), un] [(.int (0 : Int32))] _
    refine XS.iload X0.here hx rfl (hb hby d42_5) rfl ?_
    show SS p e below m s₁ 7 #[vr a1, vi (0 : Int32), vr a3, vi (0 : Int32), vi (3 : Int32), vi (0 : Int32), un] [(.int (3 : Int32)), (.int (0 : Int32))] _
    refine XS.icmpNo X0.here hx rfl (hb hby d42_7) rfl (tlt (by decide)).2.1 ?_
    show SS p e below m s₁ 10 #[vr a1, vi (0 : Int32), vr a3, vi (0 : Int32), vi (3 : Int32), vi (0 : Int32), un] [] _
    refine XS.aloadN X0.here hx rfl (hb hby d42_10) rfl rfl ?_
    show SS p e below m s₁ 11 #[vr a1, vi (0 : Int32), vr a3, vi (0 : Int32), vi (3 : Int32), vi (0 : Int32), un] [(.ref a1)] _
    refine XS.iloadN X0.here hx rfl (hb hby d42_11) rfl ?_
    show SS p e below m s₁ 12 #[vr a1, vi (0 : Int32), vr a3, vi (0 : Int32), vi (3 : Int32), vi (0 : Int32), un] [(.int (0 : Int32)), (.ref a1)] _
    refine X0.caload hx (j := (0 : Int32)) (v := (.int x0)) (by rw [e0]; exact Ar1.1) ia1 Ar1.2.2 hin1 hat1 (g := (mkF m 12 #[vr a1, vi (0 : Int32), vr a3, vi (0 : Int32), vi (3 : Int32), vi (0 : Int32), un] [(.int (0 : Int32)), (.ref a1)])) rfl rfl (hb hby d42_12) _ ?_
    show SS p e below m s₁ 13 #[vr a1, vi (0 : Int32), vr a3, vi (0 : Int32), vi (3 : Int32), vi (0 : Int32), un] [(.int x0)] _
    refine XS.istore X0.here hx rfl (hb hby d42_13) rfl (l' := #[vr a1, vi (0 : Int32), vr a3, vi (0 : Int32), vi (3 : Int32), vi (0 : Int32), vi x0]) rfl ?_
    show SS p e below m s₁ 15 #[vr a1, vi (0 : Int32), vr a3, vi (0 : Int32), vi (3 : Int32), vi (0 : Int32), vi x0] [] _
    refine XS.iload X0.here hx rfl (hb hby d42_15) rfl ?_
    show SS p e below m s₁ 17 #[vr a1, vi (0 : Int32), vr a3, vi (0 : Int32), vi (3 : Int32), vi (0 : Int32), vi x0] [(.int x0)] _
    refine XS.sipush X0.here hx rfl (hb hby d42_17) ?_
    show SS p e below m s₁ 20 #[vr a1, vi (0 : Int32), vr a3, vi (0 : Int32), vi (3 : Int32), vi (0 : Int32), vi x0] [(.int (255 : Int32)), (.int x0)] _
    refine XS.icmpYes X0.here hx rfl (pc0 := 20) (pc' := 26) rfl (hb hby d42_20) rfl (flt hx0).2.2.2 (by decide) (by decide) ?_
    show SS p e below m s₁ 26 #[vr a1, vi (0 : Int32), vr a3, vi (0 : Int32), vi (3 : Int32), vi (0 : Int32), vi x0] [] _
    refine XS.aloadN X0.here hx rfl (hb hby d42_26) rfl rfl ?_
    show SS p e below m s₁ 27 #[vr a1, vi (0 : Int32), vr a3, vi (0 : Int32), vi (3 : Int32), vi (0 : Int32), vi x0] [(.ref a3)] _
    refine XS.iloadN X0.here hx rfl (hb hby d42_27) rfl ?_
    show SS p e below m s₁ 28 #[vr a1, vi (0 : Int32), vr a3, vi (0 : Int32), vi (3 : Int32), vi (0 : Int32), vi x0] [(.int (0 : Int32)), (.ref a3)] _
    refine XS.iload X0.here hx rfl (hb hby d42_28) rfl ?_
    show SS p e below m s₁ 30 #[vr a1, vi (0 : Int32), vr a3, vi (0 : Int32), vi (3 : Int32), vi (0 : Int32), vi x0] [(.int x0), (.int (0 : Int32)), (.ref a3)] _
    refine XS.i2b X0.here hx rfl (hb hby d42_30) rfl ?_
    show SS p e below m s₁ 31 #[vr a1, vi (0 : Int32), vr a3, vi (0 : Int32), vi (3 : Int32), vi (0 : Int32), vi x0] [(.int (x0.toInt8.toInt32)), (.int (0 : Int32)), (.ref a3)] _
    refine st3 _ ?_
    show SS p e below m T3 32 #[vr a1, vi (0 : Int32), vr a3, vi (0 : Int32), vi (3 : Int32), vi (0 : Int32), vi x0] [] _
    refine XS.iinc X3.here hx rfl (hb hby d42_32) rfl (l' := #[vr a1, vi (1 : Int32), vr a3, vi (0 : Int32), vi (3 : Int32), vi (0 : Int32), vi x0]) rfl ?_
    show SS p e below m T3 35 #[vr a1, vi (1 : Int32), vr a3, vi (0 : Int32), vi (3 : Int32), vi (0 : Int32), vi x0] [] _
    refine XS.iinc X3.here hx rfl (hb hby d42_35) rfl (l' := #[vr a1, vi (1 : Int32), vr a3, vi (1 : Int32), vi (3 : Int32), vi (0 : Int32), vi x0]) rfl ?_
    show SS p e below m T3 38 #[vr a1, vi (1 : Int32), vr a3, vi (1 : Int32), vi (3 : Int32), vi (0 : Int32), vi x0] [] _
    refine XS.iinc X3.here hx rfl (hb hby d42_38) rfl (l' := #[vr a1, vi (1 : Int32), vr a3, vi (1 : Int32), vi (3 : Int32), vi (1 : Int32), vi x0]) rfl ?_
    show SS p e below m T3 41 #[vr a1, vi (1 : Int32), vr a3, vi (1 : Int32), vi (3 : Int32), vi (1 : Int32), vi x0] [] _
    refine XS.goto X3.here hx rfl (pc0 := 41) (pc' := 3) rfl (hb hby d42_41) (by decide) (by decide) ?_
    show SS p e below m T3 3 #[vr a1, vi (1 : Int32), vr a3, vi (1 : Int32), vi (3 : Int32), vi (1 : Int32), vi x0] [] _
    refine XS.iload X3.here hx rfl (hb hby d42_3) rfl ?_
    show SS p e below m T3 5 #[vr a1, vi (1 : Int32), vr a3, vi (1 : Int32), vi (3 : Int32), vi (1 : Int32), vi x0] [(.int (1 : Int32))] _
    refine XS.iload X3.here hx rfl (hb hby d42_5) rfl ?_
    show SS p e below m T3 7 #[vr a1, vi (1 : Int32), vr a3, vi (1 : Int32), vi (3 : Int32), vi (1 : Int32), vi x0] [(.int (3 : Int32)), (.int (1 : Int32))] _
    refine XS.icmpNo X3.here hx rfl (hb hby d42_7) rfl (tlt (by decide)).2.1 ?_
    show SS p e below m T3 10 #[vr a1, vi (1 : Int32), vr a3, vi (1 : Int32), vi (3 : Int32), vi (1 : Int32), vi x0] [] _
    refine XS.aloadN X3.here hx rfl (hb hby d42_10) rfl rfl ?_
    show SS p e below m T3 11 #[vr a1, vi (1 : Int32), vr a3, vi (1 : Int32), vi (3 : Int32), vi (1 : Int32), vi x0] [(.ref a1)] _
    refine XS.iloadN X3.here hx rfl (hb hby d42_11) rfl ?_
    show SS p e below m T3 12 #[vr a1, vi (1 : Int32), vr a3, vi (1 : Int32), vi (3 : Int32), vi (1 : Int32), vi x0] [(.int (1 : Int32)), (.ref a1)] _
    refine X3.caload hx (j := (1 : Int32)) (v := (.int x1)) (by rw [e3]; exact Ar4.1) ia4 Ar4.2.2 hin4 hat4 (g := (mkF m 12 #[vr a1, vi (1 : Int32), vr a3, vi (1 : Int32), vi (3 : Int32), vi (1 : Int32), vi x0] [(.int (1 : Int32)), (.ref a1)])) rfl rfl (hb hby d42_12) _ ?_
    show SS p e below m T3 13 #[vr a1, vi (1 : Int32), vr a3, vi (1 : Int32), vi (3 : Int32), vi (1 : Int32), vi x0] [(.int x1)] _
    refine XS.istore X3.here hx rfl (hb hby d42_13) rfl (l' := #[vr a1, vi (1 : Int32), vr a3, vi (1 : Int32), vi (3 : Int32), vi (1 : Int32), vi x1]) rfl ?_
    show SS p e below m T3 15 #[vr a1, vi (1 : Int32), vr a3, vi (1 : Int32), vi (3 : Int32), vi (1 : Int32), vi x1] [] _
    refine XS.iload X3.here hx rfl (hb hby d42_15) rfl ?_
    show SS p e below m T3 17 #[vr a1, vi (1 : Int32), vr a3, vi (1 : Int32), vi (3 : Int32), vi (1 : Int32), vi x1] [(.int x1)] _
    refine XS.sipush X3.here hx rfl (hb hby d42_17) ?_
    show SS p e below m T3 20 #[vr a1, vi (1 : Int32), vr a3, vi (1 : Int32), vi (3 : Int32), vi (1 : Int32), vi x1] [(.int (255 : Int32)), (.int x1)] _
    refine XS.icmpYes X3.here hx rfl (pc0 := 20) (pc' := 26) rfl (hb hby d42_20) rfl (flt hx1).2.2.2 (by decide) (by decide) ?_
    show SS p e below m T3 26 #[vr a1, vi (1 : Int32), vr a3, vi (1 : Int32), vi (3 : Int32), vi (1 : Int32), vi x1] [] _
    refine XS.aloadN X3.here hx rfl (hb hby d42_26) rfl rfl ?_
    show SS p e below m T3 27 #[vr a1, vi (1 : Int32), vr a3, vi (1 : Int32), vi (3 : Int32), vi (1 : Int32), vi x1] [(.ref a3)] _
    refine XS.iloadN X3.here hx rfl (hb hby d42_27) rfl ?_
    show SS p e below m T3 28 #[vr a1, vi (1 : Int32), vr a3, vi (1 : Int32), vi (3 : Int32), vi (1 : Int32), vi x1] [(.int (1 : Int32)), (.ref a3)] _
    refine XS.iload X3.here hx rfl (hb hby d42_28) rfl ?_
    show SS p e below m T3 30 #[vr a1, vi (1 : Int32), vr a3, vi (1 : Int32), vi (3 : Int32), vi (1 : Int32), vi x1] [(.int x1), (.int (1 : Int32)), (.ref a3)] _
    refine XS.i2b X3.here hx rfl (hb hby d42_30) rfl ?_
    show SS p e below m T3 31 #[vr a1, vi (1 : Int32), vr a3, vi (1 : Int32), vi (3 : Int32), vi (1 : Int32), vi x1] [(.int (x1.toInt8.toInt32)), (.int (1 : Int32)), (.ref a3)] _
    refine st6 _ ?_
    show SS p e below m T6 32 #[vr a1, vi (1 : Int32), vr a3, vi (1 : Int32), vi (3 : Int32), vi (1 : Int32), vi x1] [] _
    refine XS.iinc X6.here hx rfl (hb hby d42_32) rfl (l' := #[vr a1, vi (2 : Int32), vr a3, vi (1 : Int32), vi (3 : Int32), vi (1 : Int32), vi x1]) rfl ?_
    show SS p e below m T6 35 #[vr a1, vi (2 : Int32), vr a3, vi (1 : Int32), vi (3 : Int32), vi (1 : Int32), vi x1] [] _
    refine XS.iinc X6.here hx rfl (hb hby d42_35) rfl (l' := #[vr a1, vi (2 : Int32), vr a3, vi (2 : Int32), vi (3 : Int32), vi (1 : Int32), vi x1]) rfl ?_
    show SS p e below m T6 38 #[vr a1, vi (2 : Int32), vr a3, vi (2 : Int32), vi (3 : Int32), vi (1 : Int32), vi x1] [] _
    refine XS.iinc X6.here hx rfl (hb hby d42_38) rfl (l' := #[vr a1, vi (2 : Int32), vr a3, vi (2 : Int32), vi (3 : Int32), vi (2 : Int32), vi x1]) rfl ?_
    show SS p e below m T6 41 #[vr a1, vi (2 : Int32), vr a3, vi (2 : Int32), vi (3 : Int32), vi (2 : Int32), vi x1] [] _
    refine XS.goto X6.here hx rfl (pc0 := 41) (pc' := 3) rfl (hb hby d42_41) (by decide) (by decide) ?_
    show SS p e below m T6 3 #[vr a1, vi (2 : Int32), vr a3, vi (2 : Int32), vi (3 : Int32), vi (2 : Int32), vi x1] [] _
    refine XS.iload X6.here hx rfl (hb hby d42_3) rfl ?_
    show SS p e below m T6 5 #[vr a1, vi (2 : Int32), vr a3, vi (2 : Int32), vi (3 : Int32), vi (2 : Int32), vi x1] [(.int (2 : Int32))] _
    refine XS.iload X6.here hx rfl (hb hby d42_5) rfl ?_
    show SS p e below m T6 7 #[vr a1, vi (2 : Int32), vr a3, vi (2 : Int32), vi (3 : Int32), vi (2 : Int32), vi x1] [(.int (3 : Int32)), (.int (2 : Int32))] _
    refine XS.icmpNo X6.here hx rfl (hb hby d42_7) rfl (tlt (by decide)).2.1 ?_
    show SS p e below m T6 10 #[vr a1, vi (2 : Int32), vr a3, vi (2 : Int32), vi (3 : Int32), vi (2 : Int32), vi x1] [] _
    refine XS.aloadN X6.here hx rfl (hb hby d42_10) rfl rfl ?_
    show SS p e below m T6 11 #[vr a1, vi (2 : Int32), vr a3, vi (2 : Int32), vi (3 : Int32), vi (2 : Int32), vi x1] [(.ref a1)] _
    refine XS.iloadN X6.here hx rfl (hb hby d42_11) rfl ?_
    show SS p e below m T6 12 #[vr a1, vi (2 : Int32), vr a3, vi (2 : Int32), vi (3 : Int32), vi (2 : Int32), vi x1] [(.int (2 : Int32)), (.ref a1)] _
    refine X6.caload hx (j := (2 : Int32)) (v := (.int x2)) (by rw [e6]; exact Ar7.1) ia7 Ar7.2.2 hin7 hat7 (g := (mkF m 12 #[vr a1, vi (2 : Int32), vr a3, vi (2 : Int32), vi (3 : Int32), vi (2 : Int32), vi x1] [(.int (2 : Int32)), (.ref a1)])) rfl rfl (hb hby d42_12) _ ?_
    show SS p e below m T6 13 #[vr a1, vi (2 : Int32), vr a3, vi (2 : Int32), vi (3 : Int32), vi (2 : Int32), vi x1] [(.int x2)] _
    refine XS.istore X6.here hx rfl (hb hby d42_13) rfl (l' := #[vr a1, vi (2 : Int32), vr a3, vi (2 : Int32), vi (3 : Int32), vi (2 : Int32), vi x2]) rfl ?_
    show SS p e below m T6 15 #[vr a1, vi (2 : Int32), vr a3, vi (2 : Int32), vi (3 : Int32), vi (2 : Int32), vi x2] [] _
    refine XS.iload X6.here hx rfl (hb hby d42_15) rfl ?_
    show SS p e below m T6 17 #[vr a1, vi (2 : Int32), vr a3, vi (2 : Int32), vi (3 : Int32), vi (2 : Int32), vi x2] [(.int x2)] _
    refine XS.sipush X6.here hx rfl (hb hby d42_17) ?_
    show SS p e below m T6 20 #[vr a1, vi (2 : Int32), vr a3, vi (2 : Int32), vi (3 : Int32), vi (2 : Int32), vi x2] [(.int (255 : Int32)), (.int x2)] _
    refine XS.icmpYes X6.here hx rfl (pc0 := 20) (pc' := 26) rfl (hb hby d42_20) rfl (flt hx2).2.2.2 (by decide) (by decide) ?_
    show SS p e below m T6 26 #[vr a1, vi (2 : Int32), vr a3, vi (2 : Int32), vi (3 : Int32), vi (2 : Int32), vi x2] [] _
    refine XS.aloadN X6.here hx rfl (hb hby d42_26) rfl rfl ?_
    show SS p e below m T6 27 #[vr a1, vi (2 : Int32), vr a3, vi (2 : Int32), vi (3 : Int32), vi (2 : Int32), vi x2] [(.ref a3)] _
    refine XS.iloadN X6.here hx rfl (hb hby d42_27) rfl ?_
    show SS p e below m T6 28 #[vr a1, vi (2 : Int32), vr a3, vi (2 : Int32), vi (3 : Int32), vi (2 : Int32), vi x2] [(.int (2 : Int32)), (.ref a3)] _
    refine XS.iload X6.here hx rfl (hb hby d42_28) rfl ?_
    show SS p e below m T6 30 #[vr a1, vi (2 : Int32), vr a3, vi (2 : Int32), vi (3 : Int32), vi (2 : Int32), vi x2] [(.int x2), (.int (2 : Int32)), (.ref a3)] _
    refine XS.i2b X6.here hx rfl (hb hby d42_30) rfl ?_
    show SS p e below m T6 31 #[vr a1, vi (2 : Int32), vr a3, vi (2 : Int32), vi (3 : Int32), vi (2 : Int32), vi x2] [(.int (x2.toInt8.toInt32)), (.int (2 : Int32)), (.ref a3)] _
    refine st9 _ ?_
    show SS p e below m T9 32 #[vr a1, vi (2 : Int32), vr a3, vi (2 : Int32), vi (3 : Int32), vi (2 : Int32), vi x2] [] _
    refine XS.iinc X9.here hx rfl (hb hby d42_32) rfl (l' := #[vr a1, vi (3 : Int32), vr a3, vi (2 : Int32), vi (3 : Int32), vi (2 : Int32), vi x2]) rfl ?_
    show SS p e below m T9 35 #[vr a1, vi (3 : Int32), vr a3, vi (2 : Int32), vi (3 : Int32), vi (2 : Int32), vi x2] [] _
    refine XS.iinc X9.here hx rfl (hb hby d42_35) rfl (l' := #[vr a1, vi (3 : Int32), vr a3, vi (3 : Int32), vi (3 : Int32), vi (2 : Int32), vi x2]) rfl ?_
    show SS p e below m T9 38 #[vr a1, vi (3 : Int32), vr a3, vi (3 : Int32), vi (3 : Int32), vi (2 : Int32), vi x2] [] _
    refine XS.iinc X9.here hx rfl (hb hby d42_38) rfl (l' := #[vr a1, vi (3 : Int32), vr a3, vi (3 : Int32), vi (3 : Int32), vi (3 : Int32), vi x2]) rfl ?_
    show SS p e below m T9 41 #[vr a1, vi (3 : Int32), vr a3, vi (3 : Int32), vi (3 : Int32), vi (3 : Int32), vi x2] [] _
    refine XS.goto X9.here hx rfl (pc0 := 41) (pc' := 3) rfl (hb hby d42_41) (by decide) (by decide) ?_
    show SS p e below m T9 3 #[vr a1, vi (3 : Int32), vr a3, vi (3 : Int32), vi (3 : Int32), vi (3 : Int32), vi x2] [] _
    refine XS.iload X9.here hx rfl (hb hby d42_3) rfl ?_
    show SS p e below m T9 5 #[vr a1, vi (3 : Int32), vr a3, vi (3 : Int32), vi (3 : Int32), vi (3 : Int32), vi x2] [(.int (3 : Int32))] _
    refine XS.iload X9.here hx rfl (hb hby d42_5) rfl ?_
    show SS p e below m T9 7 #[vr a1, vi (3 : Int32), vr a3, vi (3 : Int32), vi (3 : Int32), vi (3 : Int32), vi x2] [(.int (3 : Int32)), (.int (3 : Int32))] _
    refine XS.icmpYes X9.here hx rfl (pc0 := 7) (pc' := 44) rfl (hb hby d42_7) rfl (flt (by decide)).2.1 (by decide) (by decide) ?_
    show SS p e below m T9 44 #[vr a1, vi (3 : Int32), vr a3, vi (3 : Int32), vi (3 : Int32), vi (3 : Int32), vi x2] [] _
    refine XS.iload X9.here hx rfl (hb hby d42_44) rfl ?_
    show SS p e below m T9 46 #[vr a1, vi (3 : Int32), vr a3, vi (3 : Int32), vi (3 : Int32), vi (3 : Int32), vi x2] [(.int (3 : Int32))] _
    exact retI X9 hx Bd.returns (hb hby d42_46) hr
  · show Q_rm_cmp3 Z a1 a3 kc kb x0 x1 x2 h0 n0 _ T9.heap _
    rw [e9]
    exact ⟨rfl, N9, KC, Vm9⟩
theorem ef_rm_cm3 (m : MethodId) (x0 : Addr) (x1 : Int32) (x2 : Int32) : entryFrame m #[(.ref x0), (.int x1), (.int x2)] 6 = mkF m 0 #[vr x0, vi x1, vi x2, .unset, .unset, .unset] [] := by first | (simp [entryFrame, mkF, argsToLocals, Value.category]; done) | rfl
def Q_rm_cm3 (Z : State) (a1 : Addr) (kc : ClassId) (x0 : Int32) (x1 : Int32) (x2 : Int32) (h0 : Heap) (n0 : Nat) (v : Option Value) (h : Heap) (L : List Loc) : Prop := ∃ tz : Addr, ∃ kb : ClassId, (v = some (.ref tz)) ∧ (Fr n0 L) ∧ (Keep h0 h []) ∧ (h0.size ≤ tz) ∧ (Arv Z h tz kb .byte (3 : Int32) [(.int (own_b x0)), (.int (own_b x1)), (.int (own_b x2))] (.int (0 : Int32)))
set_option maxRecDepth 65536 in
set_option maxHeartbeats 40000000 in
theorem rm_cm3 (l : Launch) (Z : State) (a0 : Array Value) (hw : ∀ d ∈ tables_1, d.before a0 Z = true) (ws : List Jvm.Cond) (a1 : Addr) (kc : ClassId) (x0 : Int32) (x1 : Int32) (x2 : Int32) (h0 : Heap) (n0 : Nat) (Z0 : n0 ≤ h0.size) (O0 : Old Z n0 h0) (V_a1 : Arv Z h0 a1 kc .char (3 : Int32) [(.int x0), (.int x1), (.int x2)] (.int (0 : Int32))) (hx0 : ¬ (255 : Int32) < x0) (hx1 : ¬ (255 : Int32) < x1) (hx2 : ¬ (255 : Int32) < x2) :
    MetFree l y_30 (head1 (Jvm.Cond.code y_30 jdk_52_method_16_code 6 (some (.array .byte)) :: ws) ({ frames := 1, cells := 1, slots := 3, locals := 18 } : Room)) (fun a U => a = #[(.ref a1), (.int (0 : Int32)), (.int (3 : Int32))] ∧ Z.Warmed39 U.vm ∧ U.heap = h0) (fun _ _ _ _ _ => True) (fun _ U o U' => ∃ v L, o = .returned v ∧ Q_rm_cm3 Z a1 kc x0 x1 x2 h0 n0 v U'.heap L ∧ FrameEnd U o U' L ({ frames := 1, cells := 1, slots := 3, locals := 18 } : Room).cells ({ frames := 1, cells := 1, slots := 3, locals := 18 } : Room).slots) := by
  refine MetFree.of_bodySF (plainFor_of_name pn_7) hisR ?_
  intro p e s m args below meth c s₁ Bd hml0 hP hK
  obtain ⟨rfl, hZ, hh⟩ := hP
  have hx := Bd.exec
  have hby := Bd.bytes
  have hml : c.maxLocals = 6 := hml0
  have hown : s.vm.findClass "java/lang/StringUTF16" = some m.cls := findClass_of_methodNamed Bd.named
  have hnm := (name_of_methodNamed Bd.named Bd.method).1
  have X0 : Stand p l e ({ frames := 1, cells := 1, slots := 3, locals := 18 } : Room) s m #[(.ref a1), (.int (0 : Int32)), (.int (3 : Int32))] below meth c s₁ [] 0 0 := Stand.of_body Bd
  have e0 : s₁.heap = h0 := by rw [← hh, Bd.state]; rfl
  have N0 := Fr.nil n0
  have KC : Keep h0 h0 [] := Keep.refl h0 _
  have pre0 : ∀ t, Steps p.tables e below (s₁.setTop (mkF m 0 #[vr a1, vi (0 : Int32), vi (3 : Int32), un, un, un] [])) t → Steps p.tables e below (s₁.setTop (entryFrame m #[(.ref a1), (.int (0 : Int32)), (.int (3 : Int32))] 6)) t := fun t k => castTop (ef_rm_cm3 m a1 (0 : Int32) (3 : Int32)) k
  obtain ⟨T1, h1, k1, X1, e1, E1, A1, st1⟩ := newP X0 hx hZ (ww hw 15 rfl) e0 (g := (mkF m 1 #[vr a1, vi (0 : Int32), vi (3 : Int32), un, un, un] [(.int (3 : Int32))])) rfl (hb hby d41_1) rfl (by decide) (cap := 3) (by decide) (by decide) (by decide) (by decide)
  obtain ⟨b1, g1⟩ : ∃ z, z = h0.size := ⟨_, rfl⟩
  rw [← g1] at A1 st1
  have ne_a1_b1 : a1 ≠ b1 := Nat.ne_of_lt (Nat.lt_of_lt_of_le V_a1.lt (Nat.le_of_eq g1.symm))
  have g_b1 : n0 ≤ b1 := Nat.le_trans (Nat.le_trans Z0 KC.1) (Nat.le_of_eq g1.symm)
  have sz_b1 : h0.size ≤ b1 := Nat.le_trans KC.1 (Nat.le_of_eq g1.symm)
  replace V_a1 := V_a1.ext E1
  replace O0 := O0.ext E1
  replace KC := KC.ext E1
  have V_b1 : Arv Z h1 b1 k1 .byte (3 : Int32) [(.int (0 : Int32)), (.int (0 : Int32)), (.int (0 : Int32))] (.int (0 : Int32)) := (Arv.new A1 (by decide)).pad (pad_rep [] (.int (0 : Int32)) 3)
  obtain ⟨_, _, ⟨T2, L2, kz2, nz2⟩, -, X2, ⟨Lc2, hQ2, l2, y2, z2⟩, st2⟩ := Jvm.LawKit.callS X1 hx (y := y_29) hown (mvT hZ (ww hw 224 rfl)) (mvT hZ (ww hw 225 rfl)) (mvT hZ (ww hw 222 rfl)) (mvT hZ (ww hw 226 rfl)) (by decide) (backOf (W := 0) (rm_cmp3 l Z a0 hw [] a1 b1 kc k1 x0 x1 x2 h1 n0 (Nat.le_trans Z0 KC.1) O0 V_a1 V_b1 g_b1 ne_a1_b1 hx0 hx1 hx2) hZ (ww hw 226 rfl) (ww hw 222 rfl) (by decide) (by decide)) (g := (mkF m 9 #[vr a1, vi (0 : Int32), vi (3 : Int32), vr b1, un, un] [(.int (3 : Int32)), (.int (0 : Int32)), (.ref b1), (.int (0 : Int32)), (.ref a1)])) rfl (by rw [hml]; rfl) (argsL := [(.ref a1), (.int (0 : Int32)), (.ref b1), (.int (0 : Int32)), (.int (3 : Int32))]) (rest := []) (lenOf pd_17 rfl) rfl (by show 2 * 0 + _ ≤ _; exact Nat.le_of_eq rfl) (hb hby d41_9) (fun _ _ => ⟨rfl, e1, (by decide : 1 + 0 ≤ _), (by decide : 3 + 0 ≤ _)⟩)
  dsimp only [Pt.U, Pt.locs, Pt.cells, Pt.slots] at X2 l2 y2 z2 st2 hQ2
  subst l2 y2 z2
  obtain ⟨rfl, N2q, K2, V_a3_2⟩ := hQ2
  have N2 := Fr.app N0 N2q
  replace V_a1 := V_a1.keep K2 (ninS ne_a1_b1 nin0)
  replace O0 := O0.keep K2 (allS g_b1 all0)
  replace KC := KC.trans K2 (allS (Or.inr sz_b1) all0)
  obtain ⟨fs, hr, hrun, hended, hW, hsame⟩ := X2.leave (v := some (.ref b1)) (fun h => by rw [Bd.returns] at h; cases h)
  refine ⟨_, _, pre0 _ ?_, hrun, hended, _, _, rfl, ?_, ⟨_, rfl⟩, hW, hsame.mono (by decide) (by decide)⟩
  · show SS p e below m s₁ 0 #[vr a1, vi (0 : Int32), vi (3 : Int32), un, un, un] [] _
    refine XS.iloadN X0.here hx rfl (hb hby d41_0) rfl ?_
    show SS p e below m s₁ 1 #[vr a1, vi (0 : Int32), vi (3 : Int32), un, un, un] [(.int (3 : Int32))] _
    refine st1 _ ?_
    show SS p e below m T1 3 #[vr a1, vi (0 : Int32), vi (3 : Int32), un, un, un] [(.ref b1)] _
    refine XS.astoreN X1.here hx rfl (hb hby d41_3) rfl rfl (l' := #[vr a1, vi (0 : Int32), vi (3 : Int32), vr b1, un, un]) rfl ?_
    show SS p e below m T1 4 #[vr a1, vi (0 : Int32), vi (3 : Int32), vr b1, un, un] [] _
    refine XS.aloadN X1.here hx rfl (hb hby d41_4) rfl rfl ?_
    show SS p e below m T1 5 #[vr a1, vi (0 : Int32), vi (3 : Int32), vr b1, un, un] [(.ref a1)] _
    refine XS.iloadN X1.here hx rfl (hb hby d41_5) rfl ?_
    show SS p e below m T1 6 #[vr a1, vi (0 : Int32), vi (3 : Int32), vr b1, un, un] [(.int (0 : Int32)), (.ref a1)] _
    refine XS.aloadN X1.here hx rfl (hb hby d41_6) rfl rfl ?_
    show SS p e below m T1 7 #[vr a1, vi (0 : Int32), vi (3 : Int32), vr b1, un, un] [(.ref b1), (.int (0 : Int32)), (.ref a1)] _
    refine XS.iconst X1.here hx rfl (hb hby d41_7) ?_
    show SS p e below m T1 8 #[vr a1, vi (0 : Int32), vi (3 : Int32), vr b1, un, un] [(.int (0 : Int32)), (.ref b1), (.int (0 : Int32)), (.ref a1)] _
    refine XS.iloadN X1.here hx rfl (hb hby d41_8) rfl ?_
    show SS p e below m T1 9 #[vr a1, vi (0 : Int32), vi (3 : Int32), vr b1, un, un] [(.int (3 : Int32)), (.int (0 : Int32)), (.ref b1), (.int (0 : Int32)), (.ref a1)] _
    refine st2 _ ?_
    show SS p e below m T2 12 #[vr a1, vi (0 : Int32), vi (3 : Int32), vr b1, un, un] [(.int (3 : Int32))] _
    refine XS.istore X2.here hx rfl (hb hby d41_12) rfl (l' := #[vr a1, vi (0 : Int32), vi (3 : Int32), vr b1, vi (3 : Int32), un]) rfl ?_
    show SS p e below m T2 14 #[vr a1, vi (0 : Int32), vi (3 : Int32), vr b1, vi (3 : Int32), un] [] _
    refine XS.iload X2.here hx rfl (hb hby d41_14) rfl ?_
    show SS p e below m T2 16 #[vr a1, vi (0 : Int32), vi (3 : Int32), vr b1, vi (3 : Int32), un] [(.int (3 : Int32))] _
    refine XS.iloadN X2.here hx rfl (hb hby d41_16) rfl ?_
    show SS p e below m T2 17 #[vr a1, vi (0 : Int32), vi (3 : Int32), vr b1, vi (3 : Int32), un] [(.int (3 : Int32)), (.int (3 : Int32))] _
    refine XS.icmpYes X2.here hx rfl (pc0 := 17) (pc' := 57) rfl (hb hby d41_17) rfl (teq (by decide)).1 (by decide) (by decide) ?_
    show SS p e below m T2 57 #[vr a1, vi (0 : Int32), vi (3 : Int32), vr b1, vi (3 : Int32), un] [] _
    refine XS.aloadN X2.here hx rfl (hb hby d41_57) rfl rfl ?_
    show SS p e below m T2 58 #[vr a1, vi (0 : Int32), vi (3 : Int32), vr b1, vi (3 : Int32), un] [(.ref b1)] _
    jvm_step X2.here [X2.here.top, hx, (hb hby d41_58), X2.method', Bd.returns, Value.isRef, FieldType.isReference]
    first | (intro acts; rw [hr _ acts rfl rfl rfl]) | rw [hr _ _ rfl rfl rfl]
    exact Steps.refl _
  · show Q_rm_cm3 Z a1 kc x0 x1 x2 h0 n0 _ T2.heap _
    exact ⟨b1, k1, rfl, N2, KC, sz_b1, V_a3_2⟩
theorem ef_rm_cf3 (m : MethodId) (x0 : Addr) (x1 : Int32) : entryFrame m #[(.ref x0), (.int x1)] 2 = mkF m 0 #[vr x0, vi x1] [] := by first | (simp [entryFrame, mkF, argsToLocals, Value.category]; done) | rfl
def Q_rm_cf3 (Z : State) (a1 : Addr) (kb : ClassId) (vs : List Value) (h0 : Heap) (n0 : Nat) (v : Option Value) (h : Heap) (L : List Loc) : Prop := (v = some (.int (0 : Int32))) ∧ (Fr n0 L) ∧ (h = h0)
set_option maxRecDepth 65536 in
set_option maxHeartbeats 40000000 in
theorem rm_cf3 (l : Launch) (Z : State) (a0 : Array Value) (hw : ∀ d ∈ tables_1, d.before a0 Z = true) (ws : List Jvm.Cond) (a1 : Addr) (kb : ClassId) (vs : List Value) (h0 : Heap) (n0 : Nat) (Z0 : n0 ≤ h0.size) (O0 : Old Z n0 h0) (V_a1 : Arv Z h0 a1 kb .byte (3 : Int32) vs (.int (0 : Int32))) :
    MetFree l y_31 (head1 (Jvm.Cond.code y_31 jdk_52_method_15_code 2 (some .byte) :: ws) ({ frames := 0, cells := 0, slots := 0, locals := 0 } : Room)) (fun a U => a = #[(.ref a1), (.int (3 : Int32))] ∧ Z.Warmed39 U.vm ∧ U.heap = h0) (fun _ _ _ _ _ => True) (fun _ U o U' => ∃ v L, o = .returned v ∧ Q_rm_cf3 Z a1 kb vs h0 n0 v U'.heap L ∧ FrameEnd U o U' L ({ frames := 0, cells := 0, slots := 0, locals := 0 } : Room).cells ({ frames := 0, cells := 0, slots := 0, locals := 0 } : Room).slots) := by
  refine MetFree.of_bodySF (plainFor_of_name pn_7) hisR ?_
  intro p e s m args below meth c s₁ Bd hml0 hP hK
  obtain ⟨rfl, hZ, hh⟩ := hP
  have hx := Bd.exec
  have hby := Bd.bytes
  have hml : c.maxLocals = 2 := hml0
  have hown : s.vm.findClass "java/lang/StringUTF16" = some m.cls := findClass_of_methodNamed Bd.named
  have hnm := (name_of_methodNamed Bd.named Bd.method).1
  have X0 : Stand p l e ({ frames := 0, cells := 0, slots := 0, locals := 0 } : Room) s m #[(.ref a1), (.int (3 : Int32))] below meth c s₁ [] 0 0 := Stand.of_body Bd
  have e0 : s₁.heap = h0 := by rw [← hh, Bd.state]; rfl
  have N0 := Fr.nil n0
  have KC : Keep h0 h0 [] := Keep.refl h0 _
  have pre0 : ∀ t, Steps p.tables e below (s₁.setTop (mkF m 0 #[vr a1, vi (3 : Int32)] [])) t → Steps p.tables e below (s₁.setTop (entryFrame m #[(.ref a1), (.int (3 : Int32))] 2)) t := fun t k => castTop (ef_rm_cf3 m a1 (3 : Int32)) k
  have Vo1 := V_a1
  obtain ⟨cl1, Ar1, -, Sz1, Nn1, -, -⟩ := Vo1
  have ia1 := State.isArrayOf_alike hZ.alike Ar1.2.1
  obtain ⟨fs, hr, hrun, hended, hW, hsame⟩ := X0.leave (v := some (.int (nar .byte ((((0 : Int32).toUInt32 >>> ((31 : Int32) &&& 31).toUInt32).toInt32).toInt8.toInt32)))) (fun h => by rw [Bd.returns] at h; cases h)
  refine ⟨_, _, pre0 _ ?_, hrun, hended, _, _, rfl, ?_, ⟨_, rfl⟩, hW, hsame.mono (by decide) (by decide)⟩
  · show SS p e below m s₁ 0 #[vr a1, vi (3 : Int32)] [] _
    refine XS.iloadN X0.here hx rfl (hb hby d43_0) rfl ?_
    show SS p e below m s₁ 1 #[vr a1, vi (3 : Int32)] [(.int (3 : Int32))] _
    refine XS.aloadN X0.here hx rfl (hb hby d43_1) rfl rfl ?_
    show SS p e below m s₁ 2 #[vr a1, vi (3 : Int32)] [(.ref a1), (.int (3 : Int32))] _
    refine X0.arraylength hx (by rw [e0]; exact Ar1.1) ia1 (g := (mkF m 2 #[vr a1, vi (3 : Int32)] [(.ref a1), (.int (3 : Int32))])) rfl rfl (hb hby d43_2) _ ?_
    rw [len_of Sz1 Nn1]
    show SS p e below m s₁ 3 #[vr a1, vi (3 : Int32)] [(.int (3 : Int32)), (.int (3 : Int32))] _
    refine XS.isub X0.here hx rfl (hb hby d43_3) rfl ?_
    show SS p e below m s₁ 4 #[vr a1, vi (3 : Int32)] [(.int (0 : Int32))] _
    refine XS.bipush X0.here hx rfl (hb hby d43_4) ?_
    show SS p e below m s₁ 6 #[vr a1, vi (3 : Int32)] [(.int (31 : Int32)), (.int (0 : Int32))] _
    refine XS.iushr X0.here hx rfl (hb hby d43_6) rfl ?_
    show SS p e below m s₁ 7 #[vr a1, vi (3 : Int32)] [(.int (((0 : Int32).toUInt32 >>> ((31 : Int32) &&& 31).toUInt32).toInt32))] _
    refine XS.i2b X0.here hx rfl (hb hby d43_7) rfl ?_
    show SS p e below m s₁ 8 #[vr a1, vi (3 : Int32)] [(.int ((((0 : Int32).toUInt32 >>> ((31 : Int32) &&& 31).toUInt32).toInt32).toInt8.toInt32))] _
    exact retN X0 hx (t := .byte) Bd.returns (by simp) (hb hby d43_8) hr
  · show Q_rm_cf3 Z a1 kb vs h0 n0 _ s₁.heap _
    rw [e0]
    exact ⟨(by decide), N0, rfl⟩
theorem ef_rm_i43 (m : MethodId) (x0 : Addr) (x1 : Addr) (x2 : Int32) (x3 : Int32) : entryFrame m #[(.ref x0), (.ref x1), (.int x2), (.int x3), .null] 6 = mkF m 0 #[vr x0, vr x1, vi x2, vi x3, vN, .unset] [] := by first | (simp [entryFrame, mkF, argsToLocals, Value.category]; done) | rfl
def Q_rm_i43 (Z : State) (a1 : Addr) (a2 : Addr) (kc : ClassId) (x0 : Int32) (x1 : Int32) (x2 : Int32) (zc : Int32) (h0 : Heap) (n0 : Nat) (v : Option Value) (h : Heap) (L : List Loc) : Prop := ∃ tz : Addr, ∃ kb : ClassId, (v = none) ∧ (Fr n0 L) ∧ (Keep h0 h [a1]) ∧ (h0.size ≤ tz) ∧ (Fld Z h a1 "java/lang/String" "value" "[B" (.ref tz)) ∧ (Fld Z h a1 "java/lang/String" "coder" "B" (.int (0 : Int32))) ∧ (Arv Z h tz kb .byte (3 : Int32) [(.int (own_b x0)), (.int (own_b x1)), (.int (own_b x2))] (.int (0 : Int32)))
set_option maxRecDepth 65536 in
set_option maxHeartbeats 40000000 in
theorem rm_i43 (l : Launch) (Z : State) (a0 : Array Value) (hw : ∀ d ∈ tables_1, d.before a0 Z = true) (ws : List Jvm.Cond) (a1 : Addr) (a2 : Addr) (kc : ClassId) (x0 : Int32) (x1 : Int32) (x2 : Int32) (zc : Int32) (h0 : Heap) (n0 : Nat) (Z0 : n0 ≤ h0.size) (O0 : Old Z n0 h0) (F_value_a1 : Fld Z h0 a1 "java/lang/String" "value" "[B" .null) (F_coder_a1 : Fld Z h0 a1 "java/lang/String" "coder" "B" (.int (0 : Int32))) (E_a1 : Exa Z h0 a1 "java/lang/String") (g_a1 : n0 ≤ a1) (V_a2 : Arv Z h0 a2 kc .char (3 : Int32) [(.int x0), (.int x1), (.int x2)] (.int (0 : Int32))) (S_CS : Sta Z Z.heap "java/lang/String" "COMPACT_STRINGS" "Z" (.int zc)) (hz : ¬ zc = (0 : Int32)) (hx0 : ¬ (255 : Int32) < x0) (hx1 : ¬ (255 : Int32) < x1) (hx2 : ¬ (255 : Int32) < x2) :
    MetFree l y_27 (head1 (Jvm.Cond.code y_27 jdk_42_method_149_code 6 none :: ws) ({ frames := 2, cells := 1, slots := 3, locals := 35 } : Room)) (fun a U => a = #[(.ref a1), (.ref a2), (.int (0 : Int32)), (.int (3 : Int32)), .null] ∧ Z.Warmed39 U.vm ∧ U.heap = h0) (fun _ _ _ _ _ => True) (fun _ U o U' => ∃ v L, o = .returned v ∧ Q_rm_i43 Z a1 a2 kc x0 x1 x2 zc h0 n0 v U'.heap L ∧ FrameEnd U o U' L ({ frames := 2, cells := 1, slots := 3, locals := 35 } : Room).cells ({ frames := 2, cells := 1, slots := 3, locals := 35 } : Room).slots) := by
  refine MetFree.of_bodySF (plainFor_of_name pn_0) hisR ?_
  intro p e s m args below meth c s₁ Bd hml0 hP hK
  obtain ⟨rfl, hZ, hh⟩ := hP
  have hx := Bd.exec
  have hby := Bd.bytes
  have hml : c.maxLocals = 6 := hml0
  have hown : s.vm.findClass "java/lang/String" = some m.cls := findClass_of_methodNamed Bd.named
  have hnm := (name_of_methodNamed Bd.named Bd.method).1
  have X0 : Stand p l e ({ frames := 2, cells := 1, slots := 3, locals := 35 } : Room) s m #[(.ref a1), (.ref a2), (.int (0 : Int32)), (.int (3 : Int32)), .null] below meth c s₁ [] 0 0 := Stand.of_body Bd
  have e0 : s₁.heap = h0 := by rw [← hh, Bd.state]; rfl
  have N0 := Fr.nil n0
  have KC : Keep h0 h0 [a1] := Keep.refl h0 _
  have pre0 : ∀ t, Steps p.tables e below (s₁.setTop (mkF m 0 #[vr a1, vr a2, vi (0 : Int32), vi (3 : Int32), vN, un] [])) t → Steps p.tables e below (s₁.setTop (entryFrame m #[(.ref a1), (.ref a2), (.int (0 : Int32)), (.int (3 : Int32)), .null] 6)) t := fun t k => castTop (ef_rm_i43 m a1 a2 (0 : Int32) (3 : Int32)) k
  obtain ⟨T1, X1, e1, st1⟩ := initO X0 hx hZ hown (ww hw 11 rfl) (ww hw 12 rfl) (ww hw 13 rfl) e0 (g := (mkF m 1 #[vr a1, vr a2, vi (0 : Int32), vi (3 : Int32), vN, un] [(.ref a1)])) rfl (by rw [hml]; rfl) rfl (hb hby d2_1) (by decide) (W := 0) (by show 2 * 0 + _ ≤ _; exact Nat.le_of_eq rfl) (by decide)
  obtain ⟨T2, X2, e2, st2⟩ := getS2 X1 hx hZ hown (host := "") (Or.inl (ww hw 42 rfl)) Via.refl e1 (S_CS.ext O0.2) (g := (mkF m 27 #[vr a1, vr a2, vi (0 : Int32), vi (3 : Int32), vN, un] [])) rfl (hb hby d2_27)
  obtain ⟨_, _, ⟨T3, L3, kz3, nz3⟩, -, X3, ⟨Lc3, hQ3, l3, y3, z3⟩, st3⟩ := Jvm.LawKit.callS X2 hx (y := y_30) hown (mvT hZ (ww hw 220 rfl)) (mvT hZ (ww hw 221 rfl)) (mvT hZ (ww hw 222 rfl)) (mvT hZ (ww hw 223 rfl)) (by decide) (backOf (W := 0) (rm_cm3 l Z a0 hw [] a2 kc x0 x1 x2 h0 n0 (Nat.le_trans Z0 KC.1) O0 V_a2 hx0 hx1 hx2) hZ (ww hw 223 rfl) (ww hw 222 rfl) (by decide) (by decide)) (g := (mkF m 36 #[vr a1, vr a2, vi (0 : Int32), vi (3 : Int32), vN, un] [(.int (3 : Int32)), (.int (0 : Int32)), (.ref a2)])) rfl (by rw [hml]; rfl) (argsL := [(.ref a2), (.int (0 : Int32)), (.int (3 : Int32))]) (rest := []) (lenOf pd_18 rfl) rfl (by show 2 * 0 + _ ≤ _; exact Nat.le_of_eq rfl) (hb hby d2_36) (fun _ _ => ⟨rfl, e2, (by decide : 0 + 1 ≤ _), (by decide : 0 + 3 ≤ _)⟩)
  dsimp only [Pt.U, Pt.locs, Pt.cells, Pt.slots] at X3 l3 y3 z3 st3 hQ3
  subst l3 y3 z3
  obtain ⟨b3_tz, kb_3, rfl, N3q, K3, sz_b3_tz, V_tz_3⟩ := hQ3
  have N3 := Fr.app N0 N3q
  have ne_a1_b3_tz : a1 ≠ b3_tz := Nat.ne_of_lt (Nat.lt_of_lt_of_le F_value_a1.lt sz_b3_tz)
  have ne_a2_b3_tz : a2 ≠ b3_tz := Nat.ne_of_lt (Nat.lt_of_lt_of_le V_a2.lt sz_b3_tz)
  have g_b3_tz : n0 ≤ b3_tz := Nat.le_trans (Nat.le_trans Z0 KC.1) sz_b3_tz
  replace sz_b3_tz : h0.size ≤ b3_tz := Nat.le_trans KC.1 sz_b3_tz
  replace F_value_a1 := F_value_a1.keep K3 nin0
  replace F_coder_a1 := F_coder_a1.keep K3 nin0
  replace E_a1 := E_a1.keep K3
  replace V_a2 := V_a2.keep K3 nin0
  replace O0 := O0.keep K3 all0
  replace KC := KC.trans K3 all0
  obtain ⟨_, _, ⟨T4, L4, kz4, nz4⟩, -, X4, ⟨Lc4, hQ4, l4, y4, z4⟩, st4⟩ := Jvm.LawKit.callS X3 hx (y := y_31) hown (mvT hZ (ww hw 227 rfl)) (mvT hZ (ww hw 228 rfl)) (mvT hZ (ww hw 222 rfl)) (mvT hZ (ww hw 229 rfl)) (by decide) (backOf (W := 1) (rm_cf3 l Z a0 hw [] b3_tz kb_3 [(.int (own_b x0)), (.int (own_b x1)), (.int (own_b x2))] T3.heap n0 (Nat.le_trans Z0 KC.1) O0 V_tz_3) hZ (ww hw 229 rfl) (ww hw 222 rfl) (by decide) (by decide)) (g := (mkF m 45 #[vr a1, vr a2, vi (0 : Int32), vi (3 : Int32), vN, vr b3_tz] [(.int (3 : Int32)), (.ref b3_tz), (.ref a1)])) rfl (by rw [hml]; rfl) (argsL := [(.ref b3_tz), (.int (3 : Int32))]) (rest := [(.ref a1)]) (lenOf pd_19 rfl) rfl (by show 2 * 0 + _ ≤ _; exact Nat.le_of_eq rfl) (hb hby d2_45) (fun _ _ => ⟨rfl, rfl, (by decide : 1 + 0 ≤ _), (by decide : 3 + 0 ≤ _)⟩)
  dsimp only [Pt.U, Pt.locs, Pt.cells, Pt.slots] at X4 l4 y4 z4 st4 hQ4
  subst l4 y4 z4
  obtain ⟨rfl, N4q, e4⟩ := hQ4
  have N4 := Fr.app N3 N4q
  obtain ⟨T5, h5, X5, e5, W5, st5⟩ := putFN X4 hx hZ hown (ww hw 21 rfl) Via.refl e4 F_coder_a1 E_a1 (Or.inr ⟨(ww hw 17 rfl), rfl, hnm⟩) (ww hw 2 rfl) (ty := .byte) (v' := .int (0 : Int32)) (by decide) rfl rfl (g := (mkF m 48 #[vr a1, vr a2, vi (0 : Int32), vi (3 : Int32), vN, vr b3_tz] [(.int (0 : Int32)), (.ref a1)])) rfl rfl (hb hby d2_48)
  have N5 := Fr.snoc X5 N4 g_a1
  replace F_coder_a1 := F_coder_a1.same W5
  have nev_a1_a2 : a1 ≠ a2 := Exa.neArv E_a1 V_a2 (ww hw 2 rfl)
  replace F_value_a1 := F_value_a1.other W5 (Or.inr (slot_ne (Or.inr (ww hw 16 rfl)) (Or.inr (ww hw 17 rfl)) (by decide) (t := (.array .byte)) (t' := .byte) (by decide) (by decide)))
  replace E_a1 := E_a1.wr W5
  replace V_a2 := V_a2.other W5 (Ne.symm nev_a1_a2)
  replace V_tz_3 := V_tz_3.other W5 (Ne.symm ne_a1_b3_tz)
  replace O0 := O0.wr W5 g_a1
  replace KC := KC.wr W5 (Or.inl (List.mem_of_getElem? (i := 0) rfl))
  obtain ⟨T6, h6, X6, e6, W6, st6⟩ := putF X5 hx hZ hown (host := "") (Or.inl (ww hw 20 rfl)) Via.refl e5 F_value_a1 E_a1 (Or.inr ⟨(ww hw 16 rfl), rfl, hnm⟩) (ww hw 2 rfl) (ty := (.array .byte)) (by decide) rfl rfl (g := (mkF m 54 #[vr a1, vr a2, vi (0 : Int32), vi (3 : Int32), vN, vr b3_tz] [(.ref b3_tz), (.ref a1)])) rfl rfl (hb hby d2_54)
  have N6 := Fr.snoc X6 N5 g_a1
  replace F_value_a1 := F_value_a1.same W6
  replace F_coder_a1 := F_coder_a1.other W6 (Or.inr (slot_ne (Or.inr (ww hw 17 rfl)) (Or.inr (ww hw 16 rfl)) (by decide) (t := .byte) (t' := (.array .byte)) (by decide) (by decide)))
  replace E_a1 := E_a1.wr W6
  replace V_a2 := V_a2.other W6 (Ne.symm nev_a1_a2)
  replace V_tz_3 := V_tz_3.other W6 (Ne.symm ne_a1_b3_tz)
  replace O0 := O0.wr W6 g_a1
  replace KC := KC.wr W6 (Or.inl (List.mem_of_getElem? (i := 0) rfl))
  obtain ⟨fs, hr, hrun, hended, hW, hsame⟩ := X6.leave (v := none) (fun _ => rfl)
  refine ⟨_, _, pre0 _ ?_, hrun, hended, _, _, rfl, ?_, ⟨_, rfl⟩, hW, hsame.mono (by decide) (by decide)⟩
  · show SS p e below m s₁ 0 #[vr a1, vr a2, vi (0 : Int32), vi (3 : Int32), vN, un] [] _
    refine XS.aloadN X0.here hx rfl (hb hby d2_0) rfl rfl ?_
    show SS p e below m s₁ 1 #[vr a1, vr a2, vi (0 : Int32), vi (3 : Int32), vN, un] [(.ref a1)] _
    refine st1 _ ?_
    show SS p e below m T1 4 #[vr a1, vr a2, vi (0 : Int32), vi (3 : Int32), vN, un] [] _
    refine XS.iloadN X1.here hx rfl (hb hby d2_4) rfl ?_
    show SS p e below m T1 5 #[vr a1, vr a2, vi (0 : Int32), vi (3 : Int32), vN, un] [(.int (3 : Int32))] _
    refine XS.ifYes X1.here hx rfl (pc0 := 5) (pc' := 27) rfl (hb hby d2_5) rfl ((if0 _ _).trans (feq (by decide)).2) (by decide) (by decide) ?_
    show SS p e below m T1 27 #[vr a1, vr a2, vi (0 : Int32), vi (3 : Int32), vN, un] [] _
    refine st2 _ ?_
    show SS p e below m T2 30 #[vr a1, vr a2, vi (0 : Int32), vi (3 : Int32), vN, un] [(.int zc)] _
    refine XS.ifNo X2.here hx rfl (hb hby d2_30) rfl ((if0 _ _).trans (feq hz).1) ?_
    show SS p e below m T2 33 #[vr a1, vr a2, vi (0 : Int32), vi (3 : Int32), vN, un] [] _
    refine XS.aloadN X2.here hx rfl (hb hby d2_33) rfl rfl ?_
    show SS p e below m T2 34 #[vr a1, vr a2, vi (0 : Int32), vi (3 : Int32), vN, un] [(.ref a2)] _
    refine XS.iloadN X2.here hx rfl (hb hby d2_34) rfl ?_
    show SS p e below m T2 35 #[vr a1, vr a2, vi (0 : Int32), vi (3 : Int32), vN, un] [(.int (0 : Int32)), (.ref a2)] _
    refine XS.iloadN X2.here hx rfl (hb hby d2_35) rfl ?_
    show SS p e below m T2 36 #[vr a1, vr a2, vi (0 : Int32), vi (3 : Int32), vN, un] [(.int (3 : Int32)), (.int (0 : Int32)), (.ref a2)] _
    refine st3 _ ?_
    show SS p e below m T3 39 #[vr a1, vr a2, vi (0 : Int32), vi (3 : Int32), vN, un] [(.ref b3_tz)] _
    refine XS.astore X3.here hx rfl (hb hby d2_39) rfl rfl (l' := #[vr a1, vr a2, vi (0 : Int32), vi (3 : Int32), vN, vr b3_tz]) rfl ?_
    show SS p e below m T3 41 #[vr a1, vr a2, vi (0 : Int32), vi (3 : Int32), vN, vr b3_tz] [] _
    refine XS.aloadN X3.here hx rfl (hb hby d2_41) rfl rfl ?_
    show SS p e below m T3 42 #[vr a1, vr a2, vi (0 : Int32), vi (3 : Int32), vN, vr b3_tz] [(.ref a1)] _
    refine XS.aload X3.here hx rfl (hb hby d2_42) rfl rfl ?_
    show SS p e below m T3 44 #[vr a1, vr a2, vi (0 : Int32), vi (3 : Int32), vN, vr b3_tz] [(.ref b3_tz), (.ref a1)] _
    refine XS.iloadN X3.here hx rfl (hb hby d2_44) rfl ?_
    show SS p e below m T3 45 #[vr a1, vr a2, vi (0 : Int32), vi (3 : Int32), vN, vr b3_tz] [(.int (3 : Int32)), (.ref b3_tz), (.ref a1)] _
    refine st4 _ ?_
    show SS p e below m T4 48 #[vr a1, vr a2, vi (0 : Int32), vi (3 : Int32), vN, vr b3_tz] [(.int (0 : Int32)), (.ref a1)] _
    refine st5 _ ?_
    show SS p e below m T5 51 #[vr a1, vr a2, vi (0 : Int32), vi (3 : Int32), vN, vr b3_tz] [] _
    refine XS.aloadN X5.here hx rfl (hb hby d2_51) rfl rfl ?_
    show SS p e below m T5 52 #[vr a1, vr a2, vi (0 : Int32), vi (3 : Int32), vN, vr b3_tz] [(.ref a1)] _
    refine XS.aload X5.here hx rfl (hb hby d2_52) rfl rfl ?_
    show SS p e below m T5 54 #[vr a1, vr a2, vi (0 : Int32), vi (3 : Int32), vN, vr b3_tz] [(.ref b3_tz), (.ref a1)] _
    refine st6 _ ?_
    show SS p e below m T6 57 #[vr a1, vr a2, vi (0 : Int32), vi (3 : Int32), vN, vr b3_tz] [] _
    exact X6.returnOut hx Bd.returns (hb hby d2_57) hr
  · show Q_rm_i43 Z a1 a2 kc x0 x1 x2 zc h0 n0 _ T6.heap _
    rw [e6]
    exact ⟨b3_tz, kb_3, rfl, N6, KC, sz_b3_tz, F_value_a1, F_coder_a1, V_tz_3⟩
theorem ef_rm_i13 (m : MethodId) (x0 : Addr) (x1 : Addr) : entryFrame m #[(.ref x0), (.ref x1)] 2 = mkF m 0 #[vr x0, vr x1] [] := by first | (simp [entryFrame, mkF, argsToLocals, Value.category]; done) | rfl
def Q_rm_i13 (Z : State) (a1 : Addr) (a2 : Addr) (kc : ClassId) (x0 : Int32) (x1 : Int32) (x2 : Int32) (zc : Int32) (h0 : Heap) (n0 : Nat) (v : Option Value) (h : Heap) (L : List Loc) : Prop := ∃ tz : Addr, ∃ kb : ClassId, (v = none) ∧ (Fr n0 L) ∧ (Keep h0 h [a1]) ∧ (h0.size ≤ tz) ∧ (Fld Z h a1 "java/lang/String" "value" "[B" (.ref tz)) ∧ (Fld Z h a1 "java/lang/String" "coder" "B" (.int (0 : Int32))) ∧ (Arv Z h tz kb .byte (3 : Int32) [(.int (own_b x0)), (.int (own_b x1)), (.int (own_b x2))] (.int (0 : Int32)))
set_option maxRecDepth 65536 in
set_option maxHeartbeats 40000000 in
theorem rm_i13 (l : Launch) (Z : State) (a0 : Array Value) (hw : ∀ d ∈ tables_1, d.before a0 Z = true) (ws : List Jvm.Cond) (a1 : Addr) (a2 : Addr) (kc : ClassId) (x0 : Int32) (x1 : Int32) (x2 : Int32) (zc : Int32) (h0 : Heap) (n0 : Nat) (Z0 : n0 ≤ h0.size) (O0 : Old Z n0 h0) (F_value_a1 : Fld Z h0 a1 "java/lang/String" "value" "[B" .null) (F_coder_a1 : Fld Z h0 a1 "java/lang/String" "coder" "B" (.int (0 : Int32))) (E_a1 : Exa Z h0 a1 "java/lang/String") (g_a1 : n0 ≤ a1) (V_a2 : Arv Z h0 a2 kc .char (3 : Int32) [(.int x0), (.int x1), (.int x2)] (.int (0 : Int32))) (S_CS : Sta Z Z.heap "java/lang/String" "COMPACT_STRINGS" "Z" (.int zc)) (hz : ¬ zc = (0 : Int32)) (hx0 : ¬ (255 : Int32) < x0) (hx1 : ¬ (255 : Int32) < x1) (hx2 : ¬ (255 : Int32) < x2) :
    MetFree l y_28 (head1 (Jvm.Cond.code y_28 jdk_42_method_3_code 2 none :: ws) ({ frames := 3, cells := 1, slots := 3, locals := 52 } : Room)) (fun a U => a = #[(.ref a1), (.ref a2)] ∧ Z.Warmed39 U.vm ∧ U.heap = h0) (fun _ _ _ _ _ => True) (fun _ U o U' => ∃ v L, o = .returned v ∧ Q_rm_i13 Z a1 a2 kc x0 x1 x2 zc h0 n0 v U'.heap L ∧ FrameEnd U o U' L ({ frames := 3, cells := 1, slots := 3, locals := 52 } : Room).cells ({ frames := 3, cells := 1, slots := 3, locals := 52 } : Room).slots) := by
  refine MetFree.of_bodySF (plainFor_of_name pn_0) hisR ?_
  intro p e s m args below meth c s₁ Bd hml0 hP hK
  obtain ⟨rfl, hZ, hh⟩ := hP
  have hx := Bd.exec
  have hby := Bd.bytes
  have hml : c.maxLocals = 2 := hml0
  have hown : s.vm.findClass "java/lang/String" = some m.cls := findClass_of_methodNamed Bd.named
  have hnm := (name_of_methodNamed Bd.named Bd.method).1
  have X0 : Stand p l e ({ frames := 3, cells := 1, slots := 3, locals := 52 } : Room) s m #[(.ref a1), (.ref a2)] below meth c s₁ [] 0 0 := Stand.of_body Bd
  have e0 : s₁.heap = h0 := by rw [← hh, Bd.state]; rfl
  have N0 := Fr.nil n0
  have KC : Keep h0 h0 [a1] := Keep.refl h0 _
  have pre0 : ∀ t, Steps p.tables e below (s₁.setTop (mkF m 0 #[vr a1, vr a2] [])) t → Steps p.tables e below (s₁.setTop (entryFrame m #[(.ref a1), (.ref a2)] 2)) t := fun t k => castTop (ef_rm_i13 m a1 a2) k
  have Vo1 := V_a2
  obtain ⟨cl1, Ar1, -, Sz1, Nn1, -, -⟩ := Vo1
  have ia1 := State.isArrayOf_alike hZ.alike Ar1.2.1
  obtain ⟨_, _, ⟨T2, L2, kz2, nz2⟩, -, X2, ⟨Lc2, hQ2, l2, y2, z2⟩, st2⟩ := X0.specialBack hx (y := y_27) rfl hown (mvT hZ (ww hw 7 rfl)) (mvT hZ (ww hw 8 rfl)) (mvT hZ (ww hw 10 rfl)) (by decide) (backOf (W := 0) (rm_i43 l Z a0 hw [] a1 a2 kc x0 x1 x2 zc h0 n0 (Nat.le_trans Z0 KC.1) O0 F_value_a1 F_coder_a1 E_a1 g_a1 V_a2 S_CS hz hx0 hx1 hx2) hZ (ww hw 10 rfl) (ww hw 3 rfl) (by decide) (by decide)) (g := (mkF m 6 #[vr a1, vr a2] [.null, (.int (3 : Int32)), (.int (0 : Int32)), (.ref a2), (.ref a1)])) rfl (by rw [hml]; rfl) (Steps.refl _) (a := a1) (argsL := [(.ref a2), (.int (0 : Int32)), (.int (3 : Int32)), .null]) (rest := []) (lenOf pd_16 rfl) rfl (by show 2 * 0 + _ ≤ _; exact Nat.le_of_eq rfl) (hb hby d1_6) (fun _ _ => ⟨rfl, e0, (by decide : 0 + 1 ≤ _), (by decide : 0 + 3 ≤ _)⟩)
  dsimp only [Pt.U, Pt.locs, Pt.cells, Pt.slots] at X2 l2 y2 z2 st2 hQ2
  subst l2 y2 z2
  obtain ⟨b2_tz, kb_2, rfl, N2q, K2, sz_b2_tz, F_value_a1_2, F_coder_a1_2, V_tz_2⟩ := hQ2
  have N2 := Fr.app N0 N2q
  have ne_a1_b2_tz : a1 ≠ b2_tz := Nat.ne_of_lt (Nat.lt_of_lt_of_le F_value_a1.lt sz_b2_tz)
  have ne_a2_b2_tz : a2 ≠ b2_tz := Nat.ne_of_lt (Nat.lt_of_lt_of_le V_a2.lt sz_b2_tz)
  have g_b2_tz : n0 ≤ b2_tz := Nat.le_trans (Nat.le_trans Z0 KC.1) sz_b2_tz
  replace sz_b2_tz : h0.size ≤ b2_tz := Nat.le_trans KC.1 sz_b2_tz
  have nev_a1_a2 : a1 ≠ a2 := Exa.neArv E_a1 V_a2 (ww hw 2 rfl)
  replace E_a1 := E_a1.keep K2
  replace V_a2 := V_a2.keep K2 (ninS (Ne.symm nev_a1_a2) nin0)
  replace O0 := O0.keep K2 (allS g_a1 all0)
  replace KC := KC.trans K2 (allS (Or.inl (List.mem_of_getElem? (i := 0) rfl)) all0)
  obtain ⟨fs, hr, hrun, hended, hW, hsame⟩ := X2.leave (v := none) (fun _ => rfl)
  refine ⟨_, _, pre0 _ ?_, hrun, hended, _, _, rfl, ?_, ⟨_, rfl⟩, hW, hsame.mono (by decide) (by decide)⟩
  · show SS p e below m s₁ 0 #[vr a1, vr a2] [] _
    refine XS.aloadN X0.here hx rfl (hb hby d1_0) rfl rfl ?_
    show SS p e below m s₁ 1 #[vr a1, vr a2] [(.ref a1)] _
    refine XS.aloadN X0.here hx rfl (hb hby d1_1) rfl rfl ?_
    show SS p e below m s₁ 2 #[vr a1, vr a2] [(.ref a2), (.ref a1)] _
    refine XS.iconst X0.here hx rfl (hb hby d1_2) ?_
    show SS p e below m s₁ 3 #[vr a1, vr a2] [(.int (0 : Int32)), (.ref a2), (.ref a1)] _
    refine XS.aloadN X0.here hx rfl (hb hby d1_3) rfl rfl ?_
    show SS p e below m s₁ 4 #[vr a1, vr a2] [(.ref a2), (.int (0 : Int32)), (.ref a2), (.ref a1)] _
    refine X0.arraylength hx (by rw [e0]; exact Ar1.1) ia1 (g := (mkF m 4 #[vr a1, vr a2] [(.ref a2), (.int (0 : Int32)), (.ref a2), (.ref a1)])) rfl rfl (hb hby d1_4) _ ?_
    rw [len_of Sz1 Nn1]
    show SS p e below m s₁ 5 #[vr a1, vr a2] [(.int (3 : Int32)), (.int (0 : Int32)), (.ref a2), (.ref a1)] _
    refine XS.aconstNull X0.here hx rfl (hb hby d1_5) ?_
    show SS p e below m s₁ 6 #[vr a1, vr a2] [.null, (.int (3 : Int32)), (.int (0 : Int32)), (.ref a2), (.ref a1)] _
    refine st2.trans ?_
    show SS p e below m T2 9 #[vr a1, vr a2] [] _
    exact X2.returnOut hx Bd.returns (hb hby d1_9) hr
  · show Q_rm_i13 Z a1 a2 kc x0 x1 x2 zc h0 n0 _ T2.heap _
    exact ⟨b2_tz, kb_2, rfl, N2, KC, sz_b2_tz, F_value_a1_2, F_coder_a1_2, V_tz_2⟩
theorem d8_0 : decode jdk_42_method_75_code 0 = .ok (.iload_n 2, 1) := by decide +kernel
theorem d8_1 : decode jdk_42_method_75_code 1 = .ok (.ifCond .lt 16, 3) := by decide +kernel
theorem d8_17 : decode jdk_42_method_75_code 17 = .ok (.iconst 0, 1) := by decide +kernel
theorem d8_18 : decode jdk_42_method_75_code 18 = .ok (.ireturn, 1) := by decide +kernel
theorem ef_rm_sw0 (m : MethodId) (x0 : Addr) (x1 : Addr) (x2 : Int32) : entryFrame m #[(.ref x0), (.ref x1), (.int x2)] 8 = mkF m 0 #[vr x0, vr x1, vi x2, .unset, .unset, .unset, .unset, .unset] [] := by first | (simp [entryFrame, mkF, argsToLocals, Value.category]; done) | rfl
def Q_rm_sw0 (Z : State) (a1 : Addr) (a2 : Addr) (h0 : Heap) (n0 : Nat) (v : Option Value) (h : Heap) (L : List Loc) : Prop := (v = some (.int (0 : Int32))) ∧ (Fr n0 L) ∧ (h = h0)
set_option maxRecDepth 65536 in
set_option maxHeartbeats 40000000 in
theorem rm_sw0 (l : Launch) (Z : State) (a0 : Array Value) (hw : ∀ d ∈ tables_1, d.before a0 Z = true) (ws : List Jvm.Cond) (a1 : Addr) (a2 : Addr) (h0 : Heap) (n0 : Nat) (Z0 : n0 ≤ h0.size) (O0 : Old Z n0 h0) :
    MetFree l y_32 (head1 (Jvm.Cond.code y_32 jdk_42_method_75_code 8 (some .boolean) :: ws) ({ frames := 0, cells := 0, slots := 0, locals := 0 } : Room)) (fun a U => a = #[(.ref a1), (.ref a2), (.int (-1 : Int32))] ∧ Z.Warmed39 U.vm ∧ U.heap = h0) (fun _ _ _ _ _ => True) (fun _ U o U' => ∃ v L, o = .returned v ∧ Q_rm_sw0 Z a1 a2 h0 n0 v U'.heap L ∧ FrameEnd U o U' L ({ frames := 0, cells := 0, slots := 0, locals := 0 } : Room).cells ({ frames := 0, cells := 0, slots := 0, locals := 0 } : Room).slots) := by
  refine MetFree.of_bodySF (plainFor_of_name pn_0) hisR ?_
  intro p e s m args below meth c s₁ Bd hml0 hP hK
  obtain ⟨rfl, hZ, hh⟩ := hP
  have hx := Bd.exec
  have hby := Bd.bytes
  have hml : c.maxLocals = 8 := hml0
  have hown : s.vm.findClass "java/lang/String" = some m.cls := findClass_of_methodNamed Bd.named
  have hnm := (name_of_methodNamed Bd.named Bd.method).1
  have X0 : Stand p l e ({ frames := 0, cells := 0, slots := 0, locals := 0 } : Room) s m #[(.ref a1), (.ref a2), (.int (-1 : Int32))] below meth c s₁ [] 0 0 := Stand.of_body Bd
  have e0 : s₁.heap = h0 := by rw [← hh, Bd.state]; rfl
  have N0 := Fr.nil n0
  have KC : Keep h0 h0 [] := Keep.refl h0 _
  have pre0 : ∀ t, Steps p.tables e below (s₁.setTop (mkF m 0 #[vr a1, vr a2, vi (-1 : Int32), un, un, un, un, un] [])) t → Steps p.tables e below (s₁.setTop (entryFrame m #[(.ref a1), (.ref a2), (.int (-1 : Int32))] 8)) t := fun t k => castTop (ef_rm_sw0 m a1 a2 (-1 : Int32)) k
  obtain ⟨fs, hr, hrun, hended, hW, hsame⟩ := X0.leave (v := some (.int (0 : Int32))) (fun h => by rw [Bd.returns] at h; cases h)
  refine ⟨_, _, pre0 _ ?_, hrun, hended, _, _, rfl, ?_, ⟨_, rfl⟩, hW, hsame.mono (by decide) (by decide)⟩
  · show SS p e below m s₁ 0 #[vr a1, vr a2, vi (-1 : Int32), un, un, un, un, un] [] _
    refine XS.iloadN X0.here hx rfl (hb hby d8_0) rfl ?_
    show SS p e below m s₁ 1 #[vr a1, vr a2, vi (-1 : Int32), un, un, un, un, un] [(.int (-1 : Int32))] _
    refine XS.ifYes X0.here hx rfl (pc0 := 1) (pc' := 17) rfl (hb hby d8_1) rfl ((if0 _ _).trans (tlt (by decide)).1) (by decide) (by decide) ?_
    show SS p e below m s₁ 17 #[vr a1, vr a2, vi (-1 : Int32), un, un, un, un, un] [] _
    refine XS.iconst X0.here hx rfl (hb hby d8_17) ?_
    show SS p e below m s₁ 18 #[vr a1, vr a2, vi (-1 : Int32), un, un, un, un, un] [(.int (0 : Int32))] _
    exact retN X0 hx (t := .boolean) Bd.returns (by simp) (hb hby d8_18) hr
  · show Q_rm_sw0 Z a1 a2 h0 n0 _ s₁.heap _
    rw [e0]
    exact ⟨rfl, N0, rfl⟩
theorem d44_0 : decode jdk_48_method_14_code 0 = .ok (.iconst 0, 1) := by decide +kernel
theorem d44_1 : decode jdk_48_method_14_code 1 = .ok (.istore 5, 2) := by decide +kernel
theorem d44_3 : decode jdk_48_method_14_code 3 = .ok (.iload 4, 2) := by decide +kernel
theorem d44_5 : decode jdk_48_method_14_code 5 = .ok (.bipush 7, 2) := by decide +kernel
theorem d44_7 : decode jdk_48_method_14_code 7 = .ok (.if_icmp .le 63, 3) := by decide +kernel
theorem d44_70 : decode jdk_48_method_14_code 70 = .ok (.iload 5, 2) := by decide +kernel
theorem d44_72 : decode jdk_48_method_14_code 72 = .ok (.iload 4, 2) := by decide +kernel
theorem d44_74 : decode jdk_48_method_14_code 74 = .ok (.if_icmp .ge 27, 3) := by decide +kernel
theorem d44_77 : decode jdk_48_method_14_code 77 = .ok (.aload_n 0, 1) := by decide +kernel
theorem d44_78 : decode jdk_48_method_14_code 78 = .ok (.iload_n 1, 1) := by decide +kernel
theorem d44_79 : decode jdk_48_method_14_code 79 = .ok (.iload 5, 2) := by decide +kernel
theorem d44_81 : decode jdk_48_method_14_code 81 = .ok (.iadd, 1) := by decide +kernel
theorem d44_82 : decode jdk_48_method_14_code 82 = .ok (.baload, 1) := by decide +kernel
theorem d44_83 : decode jdk_48_method_14_code 83 = .ok (.aload_n 2, 1) := by decide +kernel
theorem d44_84 : decode jdk_48_method_14_code 84 = .ok (.iload_n 3, 1) := by decide +kernel
theorem d44_85 : decode jdk_48_method_14_code 85 = .ok (.iload 5, 2) := by decide +kernel
theorem d44_87 : decode jdk_48_method_14_code 87 = .ok (.iadd, 1) := by decide +kernel
theorem d44_88 : decode jdk_48_method_14_code 88 = .ok (.baload, 1) := by decide +kernel
theorem d44_89 : decode jdk_48_method_14_code 89 = .ok (.if_icmp .eq 6, 3) := by decide +kernel
theorem d44_92 : decode jdk_48_method_14_code 92 = .ok (.iload 5, 2) := by decide +kernel
theorem d44_94 : decode jdk_48_method_14_code 94 = .ok (.ireturn, 1) := by decide +kernel
theorem pn_8 : plainName "jdk/internal/util/ArraysSupport" = true := by first | (simp [plainName, overriddenIn]; done) | decide +kernel
theorem ef_rm_mm0 (m : MethodId) (x0 : Addr) (x1 : Int32) (x2 : Addr) (x3 : Int32) (x4 : Int32) : entryFrame m #[(.ref x0), (.int x1), (.ref x2), (.int x3), (.int x4)] 8 = mkF m 0 #[vr x0, vi x1, vr x2, vi x3, vi x4, .unset, .unset, .unset] [] := by first | (simp [entryFrame, mkF, argsToLocals, Value.category]; done) | rfl
def Q_rm_mm0 (Z : State) (a1 : Addr) (a3 : Addr) (k1 : ClassId) (z1 : Int32) (vs1 : List Value) (u : Int32) (k3 : ClassId) (w : Int32) (h0 : Heap) (n0 : Nat) (v : Option Value) (h : Heap) (L : List Loc) : Prop := (v = some (.int (0 : Int32))) ∧ (Fr n0 L) ∧ (h = h0)
set_option maxRecDepth 65536 in
set_option maxHeartbeats 40000000 in
theorem rm_mm0 (l : Launch) (Z : State) (a0 : Array Value) (hw : ∀ d ∈ tables_1, d.before a0 Z = true) (ws : List Jvm.Cond) (a1 : Addr) (a3 : Addr) (k1 : ClassId) (z1 : Int32) (vs1 : List Value) (u : Int32) (k3 : ClassId) (w : Int32) (h0 : Heap) (n0 : Nat) (Z0 : n0 ≤ h0.size) (O0 : Old Z n0 h0) (V_a1 : Arv Z h0 a1 k1 .byte z1 vs1 (.int (0 : Int32))) (V_a3 : Arv Z h0 a3 k3 .byte (1 : Int32) [(.int w)] (.int (0 : Int32))) (hM : (0 : Int32) < z1) (hU : vs1.getD (0 : Int32).toNatClampNeg (.int (0 : Int32)) = .int u) (hN : ¬ u = w) :
    MetFree l y_33 (head1 (Jvm.Cond.code y_33 jdk_48_method_14_code 8 (some .int) :: ws) ({ frames := 0, cells := 0, slots := 0, locals := 0 } : Room)) (fun a U => a = #[(.ref a1), (.int (0 : Int32)), (.ref a3), (.int (0 : Int32)), (.int (1 : Int32))] ∧ Z.Warmed39 U.vm ∧ U.heap = h0) (fun _ _ _ _ _ => True) (fun _ U o U' => ∃ v L, o = .returned v ∧ Q_rm_mm0 Z a1 a3 k1 z1 vs1 u k3 w h0 n0 v U'.heap L ∧ FrameEnd U o U' L ({ frames := 0, cells := 0, slots := 0, locals := 0 } : Room).cells ({ frames := 0, cells := 0, slots := 0, locals := 0 } : Room).slots) := by
  refine MetFree.of_bodySF (plainFor_of_name pn_8) hisR ?_
  intro p e s m args below meth c s₁ Bd hml0 hP hK
  obtain ⟨rfl, hZ, hh⟩ := hP
  have hx := Bd.exec
  have hby := Bd.bytes
  have hml : c.maxLocals = 8 := hml0
  have hown : s.vm.findClass "jdk/internal/util/ArraysSupport" = some m.cls := findClass_of_methodNamed Bd.named
  have hnm := (name_of_methodNamed Bd.named Bd.method).1
  have X0 : Stand p l e ({ frames := 0, cells := 0, slots := 0, locals := 0 } : Room) s m #[(.ref a1), (.int (0 : Int32)), (.ref a3), (.int (0 : Int32)), (.int (1 : Int32))] below meth c s₁ [] 0 0 := Stand.of_body Bd
  have e0 : s₁.heap = h0 := by rw [← hh, Bd.state]; rfl
  have N0 := Fr.nil n0
  have KC : Keep h0 h0 [] := Keep.refl h0 _
  have pre0 : ∀ t, Steps p.tables e below (s₁.setTop (mkF m 0 #[vr a1, vi (0 : Int32), vr a3, vi (0 : Int32), vi (1 : Int32), un, un, un] [])) t → Steps p.tables e below (s₁.setTop (entryFrame m #[(.ref a1), (.int (0 : Int32)), (.ref a3), (.int (0 : Int32)), (.int (1 : Int32))] 8)) t := fun t k => castTop (ef_rm_mm0 m a1 (0 : Int32) a3 (0 : Int32) (1 : Int32)) k
  have Vo1 := V_a1
  obtain ⟨cl1, Ar1, q1, Sz1, Nn1, Hh1, Gg1⟩ := Vo1
  have hin1 : ¬ ((0 : Int32) < 0 ∨ cl1.slots.size ≤ ((0 : Int32)).toNatClampNeg) := inb_of Sz1 ⟨by decide, hM⟩
  have hat1 : cl1.slots[((0 : Int32)).toNatClampNeg]? = some (.int u) := Has.at Hh1 hin1 hU
  have ia1 := State.isArrayOf_alike hZ.alike Ar1.2.1
  have Vo2 := V_a3
  obtain ⟨cl2, Ar2, q2, Sz2, Nn2, Hh2, Gg2⟩ := Vo2
  have hin2 : ¬ ((0 : Int32) < 0 ∨ cl2.slots.size ≤ ((0 : Int32)).toNatClampNeg) := inb_of Sz2 ⟨by decide, by decide⟩
  have hat2 : cl2.slots[((0 : Int32)).toNatClampNeg]? = some (.int w) := Has.at Hh2 hin2 rfl
  have ia2 := State.isArrayOf_alike hZ.alike Ar2.2.1
  obtain ⟨fs, hr, hrun, hended, hW, hsame⟩ := X0.leave (v := some (.int (0 : Int32))) (fun h => by rw [Bd.returns] at h; cases h)
  refine ⟨_, _, pre0 _ ?_, hrun, hended, _, _, rfl, ?_, ⟨_, rfl⟩, hW, hsame.mono (by decide) (by decide)⟩
  · show SS p e below m s₁ 0 #[vr a1, vi (0 : Int32), vr a3, vi (0 : Int32), vi (1 : Int32), un, un, un] [] _
    refine XS.iconst X0.here hx rfl (hb hby d44_0) ?_
    show SS p e below m s₁ 1 #[vr a1, vi (0 : Int32), vr a3, vi (0 : Int32), vi (1 : Int32), un, un, un] [(.int (0 : Int32))] _
    refine XS.istore X0.here hx rfl (hb hby d44_1) rfl (l' := #[vr a1, vi (0 : Int32), vr a3, vi (0 : Int32), vi (1 : Int32), vi (0 : Int32), un, un]) rfl ?_
    show SS p e below m s₁ 3 #[vr a1, vi (0 : Int32), vr a3, vi (0 : Int32), vi (1 : Int32), vi (0 : Int32), un, un] [] _
    refine XS.iload X0.here hx rfl (hb hby d44_3) rfl ?_
    show SS p e below m s₁ 5 #[vr a1, vi (0 : Int32), vr a3, vi (0 : Int32), vi (1 : Int32), vi (0 : Int32), un, un] [(.int (1 : Int32))] _
    refine XS.bipush X0.here hx rfl (hb hby d44_5) ?_
    show SS p e below m s₁ 7 #[vr a1, vi (0 : Int32), vr a3, vi (0 : Int32), vi (1 : Int32), vi (0 : Int32), un, un] [(.int (7 : Int32)), (.int (1 : Int32))] _
    refine XS.icmpYes X0.here hx rfl (pc0 := 7) (pc' := 70) rfl (hb hby d44_7) rfl (flt (by decide)).2.2.2 (by decide) (by decide) ?_
    show SS p e below m s₁ 70 #[vr a1, vi (0 : Int32), vr a3, vi (0 : Int32), vi (1 : Int32), vi (0 : Int32), un, un] [] _
    refine XS.iload X0.here hx rfl (hb hby d44_70) rfl ?_
    show SS p e below m s₁ 72 #[vr a1, vi (0 : Int32), vr a3, vi (0 : Int32), vi (1 : Int32), vi (0 : Int32), un, un] [(.int (0 : Int32))] _
    refine XS.iload X0.here hx rfl (hb hby d44_72) rfl ?_
    show SS p e below m s₁ 74 #[vr a1, vi (0 : Int32), vr a3, vi (0 : Int32), vi (1 : Int32), vi (0 : Int32), un, un] [(.int (1 : Int32)), (.int (0 : Int32))] _
    refine XS.icmpNo X0.here hx rfl (hb hby d44_74) rfl (tlt (by decide)).2.1 ?_
    show SS p e below m s₁ 77 #[vr a1, vi (0 : Int32), vr a3, vi (0 : Int32), vi (1 : Int32), vi (0 : Int32), un, un] [] _
    refine XS.aloadN X0.here hx rfl (hb hby d44_77) rfl rfl ?_
    show SS p e below m s₁ 78 #[vr a1, vi (0 : Int32), vr a3, vi (0 : Int32), vi (1 : Int32), vi (0 : Int32), un, un] [(.ref a1)] _
    refine XS.iloadN X0.here hx rfl (hb hby d44_78) rfl ?_
    show SS p e below m s₁ 79 #[vr a1, vi (0 : Int32), vr a3, vi (0 : Int32), vi (1 : Int32), vi (0 : Int32), un, un] [(.int (0 : Int32)), (.ref a1)] _
    refine XS.iload X0.here hx rfl (hb hby d44_79) rfl ?_
    show SS p e below m s₁ 81 #[vr a1, vi (0 : Int32), vr a3, vi (0 : Int32), vi (1 : Int32), vi (0 : Int32), un, un] [(.int (0 : Int32)), (.int (0 : Int32)), (.ref a1)] _
    refine XS.iadd X0.here hx rfl (hb hby d44_81) rfl ?_
    show SS p e below m s₁ 82 #[vr a1, vi (0 : Int32), vr a3, vi (0 : Int32), vi (1 : Int32), vi (0 : Int32), un, un] [(.int (0 : Int32)), (.ref a1)] _
    refine X0.baloadBytes hx (j := (0 : Int32)) (v := (.int u)) (by rw [e0]; exact Ar1.1) ia1 Ar1.2.2 hin1 hat1 (g := (mkF m 82 #[vr a1, vi (0 : Int32), vr a3, vi (0 : Int32), vi (1 : Int32), vi (0 : Int32), un, un] [(.int (0 : Int32)), (.ref a1)])) rfl rfl (hb hby d44_82) _ ?_
    show SS p e below m s₁ 83 #[vr a1, vi (0 : Int32), vr a3, vi (0 : Int32), vi (1 : Int32), vi (0 : Int32), un, un] [(.int u)] _
    refine XS.aloadN X0.here hx rfl (hb hby d44_83) rfl rfl ?_
    show SS p e below m s₁ 84 #[vr a1, vi (0 : Int32), vr a3, vi (0 : Int32), vi (1 : Int32), vi (0 : Int32), un, un] [(.ref a3), (.int u)] _
    refine XS.iloadN X0.here hx rfl (hb hby d44_84) rfl ?_
    show SS p e below m s₁ 85 #[vr a1, vi (0 : Int32), vr a3, vi (0 : Int32), vi (1 : Int32), vi (0 : Int32), un, un] [(.int (0 : Int32)), (.ref a3), (.int u)] _
    refine XS.iload X0.here hx rfl (hb hby d44_85) rfl ?_
    show SS p e below m s₁ 87 #[vr a1, vi (0 : Int32), vr a3, vi (0 : Int32), vi (1 : Int32), vi (0 : Int32), un, un] [(.int (0 : Int32)), (.int (0 : Int32)), (.ref a3), (.int u)] _
    refine XS.iadd X0.here hx rfl (hb hby d44_87) rfl ?_
    show SS p e below m s₁ 88 #[vr a1, vi (0 : Int32), vr a3, vi (0 : Int32), vi (1 : Int32), vi (0 : Int32), un, un] [(.int (0 : Int32)), (.ref a3), (.int u)] _
    refine X0.baloadBytes hx (j := (0 : Int32)) (v := (.int w)) (by rw [e0]; exact Ar2.1) ia2 Ar2.2.2 hin2 hat2 (g := (mkF m 88 #[vr a1, vi (0 : Int32), vr a3, vi (0 : Int32), vi (1 : Int32), vi (0 : Int32), un, un] [(.int (0 : Int32)), (.ref a3), (.int u)])) rfl rfl (hb hby d44_88) _ ?_
    show SS p e below m s₁ 89 #[vr a1, vi (0 : Int32), vr a3, vi (0 : Int32), vi (1 : Int32), vi (0 : Int32), un, un] [(.int w), (.int u)] _
    refine XS.icmpNo X0.here hx rfl (hb hby d44_89) rfl (feq hN).1 ?_
    show SS p e below m s₁ 92 #[vr a1, vi (0 : Int32), vr a3, vi (0 : Int32), vi (1 : Int32), vi (0 : Int32), un, un] [] _
    refine XS.iload X0.here hx rfl (hb hby d44_92) rfl ?_
    show SS p e below m s₁ 94 #[vr a1, vi (0 : Int32), vr a3, vi (0 : Int32), vi (1 : Int32), vi (0 : Int32), un, un] [(.int (0 : Int32))] _
    exact retI X0 hx Bd.returns (hb hby d44_94) hr
  · show Q_rm_mm0 Z a1 a3 k1 z1 vs1 u k3 w h0 n0 _ s₁.heap _
    rw [e0]
    exact ⟨rfl, N0, rfl⟩
theorem pd_20 : parseMethodDescriptor "([BI[BII)I" = some ⟨[(.array .byte), .int, (.array .byte), .int, .int], some .int⟩ := by decide +kernel
theorem d8_4 : decode jdk_42_method_75_code 4 = .ok (.iload_n 2, 1) := by decide +kernel
theorem d8_5 : decode jdk_42_method_75_code 5 = .ok (.aload_n 0, 1) := by decide +kernel
theorem d8_6 : decode jdk_42_method_75_code 6 = .ok (.invokevirtual 505, 3) := by decide +kernel
theorem d8_9 : decode jdk_42_method_75_code 9 = .ok (.aload_n 1, 1) := by decide +kernel
theorem d8_10 : decode jdk_42_method_75_code 10 = .ok (.invokevirtual 505, 3) := by decide +kernel
theorem d8_13 : decode jdk_42_method_75_code 13 = .ok (.isub, 1) := by decide +kernel
theorem d8_14 : decode jdk_42_method_75_code 14 = .ok (.if_icmp .le 5, 3) := by decide +kernel
theorem d8_19 : decode jdk_42_method_75_code 19 = .ok (.aload_n 0, 1) := by decide +kernel
theorem d8_20 : decode jdk_42_method_75_code 20 = .ok (.getfield 9, 3) := by decide +kernel
theorem d8_23 : decode jdk_42_method_75_code 23 = .ok (.astore_n 3, 1) := by decide +kernel
theorem d8_24 : decode jdk_42_method_75_code 24 = .ok (.aload_n 1, 1) := by decide +kernel
theorem d8_25 : decode jdk_42_method_75_code 25 = .ok (.getfield 9, 3) := by decide +kernel
theorem d8_28 : decode jdk_42_method_75_code 28 = .ok (.astore 4, 2) := by decide +kernel
theorem d8_30 : decode jdk_42_method_75_code 30 = .ok (.iconst 0, 1) := by decide +kernel
theorem d8_31 : decode jdk_42_method_75_code 31 = .ok (.istore 5, 2) := by decide +kernel
theorem d8_33 : decode jdk_42_method_75_code 33 = .ok (.aload 4, 2) := by decide +kernel
theorem d8_35 : decode jdk_42_method_75_code 35 = .ok (.arraylength, 1) := by decide +kernel
theorem d8_36 : decode jdk_42_method_75_code 36 = .ok (.istore 6, 2) := by decide +kernel
theorem d8_38 : decode jdk_42_method_75_code 38 = .ok (.aload_n 0, 1) := by decide +kernel
theorem d8_39 : decode jdk_42_method_75_code 39 = .ok (.invokevirtual 335, 3) := by decide +kernel
theorem d8_42 : decode jdk_42_method_75_code 42 = .ok (.istore 7, 2) := by decide +kernel
theorem d8_44 : decode jdk_42_method_75_code 44 = .ok (.iload 7, 2) := by decide +kernel
theorem d8_46 : decode jdk_42_method_75_code 46 = .ok (.aload_n 1, 1) := by decide +kernel
theorem d8_47 : decode jdk_42_method_75_code 47 = .ok (.invokevirtual 335, 3) := by decide +kernel
theorem d8_50 : decode jdk_42_method_75_code 50 = .ok (.if_icmp .ne 32, 3) := by decide +kernel
theorem d8_53 : decode jdk_42_method_75_code 53 = .ok (.iload 7, 2) := by decide +kernel
theorem d8_55 : decode jdk_42_method_75_code 55 = .ok (.iconst 1, 1) := by decide +kernel
theorem d8_56 : decode jdk_42_method_75_code 56 = .ok (.if_icmp .ne 7, 3) := by decide +kernel
theorem d8_63 : decode jdk_42_method_75_code 63 = .ok (.aload_n 3, 1) := by decide +kernel
theorem d8_64 : decode jdk_42_method_75_code 64 = .ok (.iload_n 2, 1) := by decide +kernel
theorem d8_65 : decode jdk_42_method_75_code 65 = .ok (.aload 4, 2) := by decide +kernel
theorem d8_67 : decode jdk_42_method_75_code 67 = .ok (.iconst 0, 1) := by decide +kernel
theorem d8_68 : decode jdk_42_method_75_code 68 = .ok (.iload 6, 2) := by decide +kernel
theorem d8_70 : decode jdk_42_method_75_code 70 = .ok (.invokestatic 607, 3) := by decide +kernel
theorem d8_73 : decode jdk_42_method_75_code 73 = .ok (.ifCond .ge 7, 3) := by decide +kernel
theorem d8_80 : decode jdk_42_method_75_code 80 = .ok (.iconst 0, 1) := by decide +kernel
theorem d8_81 : decode jdk_42_method_75_code 81 = .ok (.ireturn, 1) := by decide +kernel
theorem ef_rm_sw1 (m : MethodId) (x0 : Addr) (x1 : Addr) (x2 : Int32) : entryFrame m #[(.ref x0), (.ref x1), (.int x2)] 8 = mkF m 0 #[vr x0, vr x1, vi x2, .unset, .unset, .unset, .unset, .unset] [] := by first | (simp [entryFrame, mkF, argsToLocals, Value.category]; done) | rfl
def Q_rm_sw1 (Z : State) (a1 : Addr) (a2 : Addr) (t1 : Addr) (k1 : ClassId) (vs1 : List Value) (u : Int32) (t2 : Addr) (k2 : ClassId) (w : Int32) (zc : Int32) (h0 : Heap) (n0 : Nat) (v : Option Value) (h : Heap) (L : List Loc) : Prop := (v = some (.int (0 : Int32))) ∧ (Fr n0 L) ∧ (h = h0)
set_option maxRecDepth 65536 in
set_option maxHeartbeats 40000000 in
theorem rm_sw1 (l : Launch) (Z : State) (a0 : Array Value) (hw : ∀ d ∈ tables_1, d.before a0 Z = true) (ws : List Jvm.Cond) (a1 : Addr) (a2 : Addr) (t1 : Addr) (k1 : ClassId) (vs1 : List Value) (u : Int32) (t2 : Addr) (k2 : ClassId) (w : Int32) (zc : Int32) (h0 : Heap) (n0 : Nat) (Z0 : n0 ≤ h0.size) (O0 : Old Z n0 h0) (E_a1 : Exa Z h0 a1 "java/lang/String") (F_value_a1 : Fld Z h0 a1 "java/lang/String" "value" "[B" (.ref t1)) (F_coder_a1 : Fld Z h0 a1 "java/lang/String" "coder" "B" (.int (0 : Int32))) (V_t1 : Arv Z h0 t1 k1 .byte (1 : Int32) vs1 (.int (0 : Int32))) (E_a2 : Exa Z h0 a2 "java/lang/String") (F_value_a2 : Fld Z h0 a2 "java/lang/String" "value" "[B" (.ref t2)) (F_coder_a2 : Fld Z h0 a2 "java/lang/String" "coder" "B" (.int (0 : Int32))) (V_t2 : Arv Z h0 t2 k2 .byte (1 : Int32) [(.int w)] (.int (0 : Int32))) (S_CS : Sta Z Z.heap "java/lang/String" "COMPACT_STRINGS" "Z" (.int zc)) (hz : ¬ zc = (0 : Int32)) (hU : vs1.getD (0 : Int32).toNatClampNeg (.int (0 : Int32)) = .int u) (hN : ¬ u = w) :
    MetFree l y_32 (head1 (Jvm.Cond.code y_32 jdk_42_method_75_code 8 (some .boolean) :: ws) ({ frames := 2, cells := 0, slots := 0, locals := 27 } : Room)) (fun a U => a = #[(.ref a1), (.ref a2), (.int (0 : Int32))] ∧ Z.Warmed39 U.vm ∧ U.heap = h0) (fun _ _ _ _ _ => True) (fun _ U o U' => ∃ v L, o = .returned v ∧ Q_rm_sw1 Z a1 a2 t1 k1 vs1 u t2 k2 w zc h0 n0 v U'.heap L ∧ FrameEnd U o U' L ({ frames := 2, cells := 0, slots := 0, locals := 27 } : Room).cells ({ frames := 2, cells := 0, slots := 0, locals := 27 } : Room).slots) := by
  refine MetFree.of_bodySF (plainFor_of_name pn_0) hisR ?_
  intro p e s m args below meth c s₁ Bd hml0 hP hK
  obtain ⟨rfl, hZ, hh⟩ := hP
  have hx := Bd.exec
  have hby := Bd.bytes
  have hml : c.maxLocals = 8 := hml0
  have hown : s.vm.findClass "java/lang/String" = some m.cls := findClass_of_methodNamed Bd.named
  have hnm := (name_of_methodNamed Bd.named Bd.method).1
  have X0 : Stand p l e ({ frames := 2, cells := 0, slots := 0, locals := 27 } : Room) s m #[(.ref a1), (.ref a2), (.int (0 : Int32))] below meth c s₁ [] 0 0 := Stand.of_body Bd
  have e0 : s₁.heap = h0 := by rw [← hh, Bd.state]; rfl
  have N0 := Fr.nil n0
  have KC : Keep h0 h0 [] := Keep.refl h0 _
  have pre0 : ∀ t, Steps p.tables e below (s₁.setTop (mkF m 0 #[vr a1, vr a2, vi (0 : Int32), un, un, un, un, un] [])) t → Steps p.tables e below (s₁.setTop (entryFrame m #[(.ref a1), (.ref a2), (.int (0 : Int32))] 8)) t := fun t k => castTop (ef_rm_sw1 m a1 a2 (0 : Int32)) k
  obtain ⟨cq1, kq1, q1a, q1b, q1c⟩ := isOf hZ e0 E_a1
  obtain ⟨_, _, ⟨T1, L1, kz1, nz1⟩, -, X1, ⟨Lc1, hQ1, l1, y1, z1⟩, st1⟩ := X0.virtualBack hx (y := y_1) (z := y_1) hown (mvT hZ (ww hw 32 rfl)) (mvT hZ (ww hw 33 rfl)) (notFace_of_selects (args := #[]) (mvT hZ (ww hw 35 rfl))) (mvT hZ (ww hw 35 rfl)) (mvT hZ (ww hw 34 rfl)) (by decide) (backOf (W := 1) (rm_length l Z a0 hw [] a1 t1 k1 (1 : Int32) vs1 zc h0 n0 (Nat.le_trans Z0 KC.1) O0 E_a1 F_value_a1 F_coder_a1 V_t1 S_CS hz) hZ (ww hw 36 rfl) (ww hw 3 rfl) (by decide) (by decide)) q1a q1c (g := (mkF m 6 #[vr a1, vr a2, vi (0 : Int32), un, un, un, un, un] [(.ref a1), (.int (0 : Int32))])) rfl (by rw [hml]; rfl) (Steps.refl _) (argsL := []) (rest := [(.int (0 : Int32))]) (lenOf pd_8 rfl) rfl (by show 2 * 0 + _ ≤ _; exact Nat.le_of_eq rfl) (hb hby d8_6) (fun _ _ => ⟨rfl, e0, (by decide : 0 + 0 ≤ _), (by decide : 0 + 0 ≤ _)⟩)
  dsimp only [Pt.U, Pt.locs, Pt.cells, Pt.slots] at X1 l1 y1 z1 st1 hQ1
  subst l1 y1 z1
  obtain ⟨rfl, N1q, e1⟩ := hQ1
  have N1 := Fr.app N0 N1q
  obtain ⟨cq2, kq2, q2a, q2b, q2c⟩ := isOf hZ e1 E_a2
  obtain ⟨_, _, ⟨T2, L2, kz2, nz2⟩, -, X2, ⟨Lc2, hQ2, l2, y2, z2⟩, st2⟩ := X1.virtualBack hx (y := y_1) (z := y_1) hown (mvT hZ (ww hw 32 rfl)) (mvT hZ (ww hw 33 rfl)) (notFace_of_selects (args := #[]) (mvT hZ (ww hw 35 rfl))) (mvT hZ (ww hw 35 rfl)) (mvT hZ (ww hw 34 rfl)) (by decide) (backOf (W := 2) (rm_length l Z a0 hw [] a2 t2 k2 (1 : Int32) [(.int w)] zc h0 n0 (Nat.le_trans Z0 KC.1) O0 E_a2 F_value_a2 F_coder_a2 V_t2 S_CS hz) hZ (ww hw 36 rfl) (ww hw 3 rfl) (by decide) (by decide)) q2a q2c (g := (mkF m 10 #[vr a1, vr a2, vi (0 : Int32), un, un, un, un, un] [(.ref a2), (.int (1 : Int32)), (.int (0 : Int32))])) rfl (by rw [hml]; rfl) (Steps.refl _) (argsL := []) (rest := [(.int (1 : Int32)), (.int (0 : Int32))]) (lenOf pd_8 rfl) rfl (by show 2 * 0 + _ ≤ _; exact Nat.le_of_eq rfl) (hb hby d8_10) (fun _ _ => ⟨rfl, e1, (by decide : 0 + 0 ≤ _), (by decide : 0 + 0 ≤ _)⟩)
  dsimp only [Pt.U, Pt.locs, Pt.cells, Pt.slots] at X2 l2 y2 z2 st2 hQ2
  subst l2 y2 z2
  obtain ⟨rfl, N2q, e2⟩ := hQ2
  have N2 := Fr.app N1 N2q
  obtain ⟨T3, X3, e3, st3⟩ := getF X2 hx hZ hown (host := "") (Or.inl (ww hw 20 rfl)) Via.refl e2 F_value_a1 (g := (mkF m 20 #[vr a1, vr a2, vi (0 : Int32), un, un, un, un, un] [(.ref a1)])) rfl rfl (hb hby d8_20)
  obtain ⟨T4, X4, e4, st4⟩ := getF X3 hx hZ hown (host := "") (Or.inl (ww hw 20 rfl)) Via.refl e3 F_value_a2 (g := (mkF m 25 #[vr a1, vr a2, vi (0 : Int32), vr t1, un, un, un, un] [(.ref a2)])) rfl rfl (hb hby d8_25)
  have Vo5 := V_t2
  obtain ⟨cl5, Ar5, -, Sz5, Nn5, -, -⟩ := Vo5
  have ia5 := State.isArrayOf_alike hZ.alike Ar5.2.1
  obtain ⟨cq6, kq6, q6a, q6b, q6c⟩ := isOf hZ e4 E_a1
  obtain ⟨_, _, ⟨T6, L6, kz6, nz6⟩, -, X6, ⟨Lc6, hQ6, l6, y6, z6⟩, st6⟩ := X4.virtualBack hx (y := y_0) (z := y_0) hown (mvT hZ (ww hw 37 rfl)) (mvT hZ (ww hw 38 rfl)) (notFace_of_selects (args := #[]) (mvT hZ (ww hw 40 rfl))) (mvT hZ (ww hw 40 rfl)) (mvT hZ (ww hw 39 rfl)) (by decide) (backOf (W := 0) (rm_coder l Z a0 hw [] a1 zc h0 n0 (Nat.le_trans Z0 KC.1) O0 F_coder_a1 S_CS hz) hZ (ww hw 41 rfl) (ww hw 3 rfl) (by decide) (by decide)) q6a q6c (g := (mkF m 39 #[vr a1, vr a2, vi (0 : Int32), vr t1, vr t2, vi (0 : Int32), vi (1 : Int32), un] [(.ref a1)])) rfl (by rw [hml]; rfl) (Steps.refl _) (argsL := []) (rest := []) (lenOf pd_0 rfl) rfl (by show 2 * 0 + _ ≤ _; exact Nat.le_of_eq rfl) (hb hby d8_39) (fun _ _ => ⟨rfl, e4, (by decide : 0 + 0 ≤ _), (by decide : 0 + 0 ≤ _)⟩)
  dsimp only [Pt.U, Pt.locs, Pt.cells, Pt.slots] at X6 l6 y6 z6 st6 hQ6
  subst l6 y6 z6
  obtain ⟨rfl, N6q, e6⟩ := hQ6
  have N6 := Fr.app N2 N6q
  obtain ⟨cq7, kq7, q7a, q7b, q7c⟩ := isOf hZ e6 E_a2
  obtain ⟨_, _, ⟨T7, L7, kz7, nz7⟩, -, X7, ⟨Lc7, hQ7, l7, y7, z7⟩, st7⟩ := X6.virtualBack hx (y := y_0) (z := y_0) hown (mvT hZ (ww hw 37 rfl)) (mvT hZ (ww hw 38 rfl)) (notFace_of_selects (args := #[]) (mvT hZ (ww hw 40 rfl))) (mvT hZ (ww hw 40 rfl)) (mvT hZ (ww hw 39 rfl)) (by decide) (backOf (W := 1) (rm_coder l Z a0 hw [] a2 zc h0 n0 (Nat.le_trans Z0 KC.1) O0 F_coder_a2 S_CS hz) hZ (ww hw 41 rfl) (ww hw 3 rfl) (by decide) (by decide)) q7a q7c (g := (mkF m 47 #[vr a1, vr a2, vi (0 : Int32), vr t1, vr t2, vi (0 : Int32), vi (1 : Int32), vi (0 : Int32)] [(.ref a2), (.int (0 : Int32))])) rfl (by rw [hml]; rfl) (Steps.refl _) (argsL := []) (rest := [(.int (0 : Int32))]) (lenOf pd_0 rfl) rfl (by show 2 * 0 + _ ≤ _; exact Nat.le_of_eq rfl) (hb hby d8_47) (fun _ _ => ⟨rfl, e6, (by decide : 0 + 0 ≤ _), (by decide : 0 + 0 ≤ _)⟩)
  dsimp only [Pt.U, Pt.locs, Pt.cells, Pt.slots] at X7 l7 y7 z7 st7 hQ7
  subst l7 y7 z7
  obtain ⟨rfl, N7q, e7⟩ := hQ7
  have N7 := Fr.app N6 N7q
  obtain ⟨_, _, ⟨T8, L8, kz8, nz8⟩, -, X8, ⟨Lc8, hQ8, l8, y8, z8⟩, st8⟩ := Jvm.LawKit.callS X7 hx (y := y_33) hown (mvT hZ (ww hw 230 rfl)) (mvT hZ (ww hw 231 rfl)) (mvT hZ (ww hw 232 rfl)) (mvT hZ (ww hw 233 rfl)) (by decide) (backOf (W := 0) (rm_mm0 l Z a0 hw [] t1 t2 k1 (1 : Int32) vs1 u k2 w h0 n0 (Nat.le_trans Z0 KC.1) O0 V_t1 V_t2 (by decide) hU hN) hZ (ww hw 233 rfl) (ww hw 232 rfl) (by decide) (by decide)) (g := (mkF m 70 #[vr a1, vr a2, vi (0 : Int32), vr t1, vr t2, vi (0 : Int32), vi (1 : Int32), vi (0 : Int32)] [(.int (1 : Int32)), (.int (0 : Int32)), (.ref t2), (.int (0 : Int32)), (.ref t1)])) rfl (by rw [hml]; rfl) (argsL := [(.ref t1), (.int (0 : Int32)), (.ref t2), (.int (0 : Int32)), (.int (1 : Int32))]) (rest := []) (lenOf pd_20 rfl) rfl (by show 2 * 0 + _ ≤ _; exact Nat.le_of_eq rfl) (hb hby d8_70) (fun _ _ => ⟨rfl, e7, (by decide : 0 + 0 ≤ _), (by decide : 0 + 0 ≤ _)⟩)
  dsimp only [Pt.U, Pt.locs, Pt.cells, Pt.slots] at X8 l8 y8 z8 st8 hQ8
  subst l8 y8 z8
  obtain ⟨rfl, N8q, e8⟩ := hQ8
  have N8 := Fr.app N7 N8q
  obtain ⟨fs, hr, hrun, hended, hW, hsame⟩ := X8.leave (v := some (.int (0 : Int32))) (fun h => by rw [Bd.returns] at h; cases h)
  refine ⟨_, _, pre0 _ ?_, hrun, hended, _, _, rfl, ?_, ⟨_, rfl⟩, hW, hsame.mono (by decide) (by decide)⟩
  · show SS p e below m s₁ 0 #[vr a1, vr a2, vi (0 : Int32), un, un, un, un, un] [] _
    refine XS.iloadN X0.here hx rfl (hb hby d8_0) rfl ?_
    show SS p e below m s₁ 1 #[vr a1, vr a2, vi (0 : Int32), un, un, un, un, un] [(.int (0 : Int32))] _
    refine XS.ifNo X0.here hx rfl (hb hby d8_1) rfl ((if0 _ _).trans (flt (by decide)).1) ?_
    show SS p e below m s₁ 4 #[vr a1, vr a2, vi (0 : Int32), un, un, un, un, un] [] _
    refine XS.iloadN X0.here hx rfl (hb hby d8_4) rfl ?_
    show SS p e below m s₁ 5 #[vr a1, vr a2, vi (0 : Int32), un, un, un, un, un] [(.int (0 : Int32))] _
    refine XS.aloadN X0.here hx rfl (hb hby d8_5) rfl rfl ?_
    show SS p e below m s₁ 6 #[vr a1, vr a2, vi (0 : Int32), un, un, un, un, un] [(.ref a1), (.int (0 : Int32))] _
    refine st1.trans ?_
    show SS p e below m T1 9 #[vr a1, vr a2, vi (0 : Int32), un, un, un, un, un] [(.int (1 : Int32)), (.int (0 : Int32))] _
    refine XS.aloadN X1.here hx rfl (hb hby d8_9) rfl rfl ?_
    show SS p e below m T1 10 #[vr a1, vr a2, vi (0 : Int32), un, un, un, un, un] [(.ref a2), (.int (1 : Int32)), (.int (0 : Int32))] _
    refine st2.trans ?_
    show SS p e below m T2 13 #[vr a1, vr a2, vi (0 : Int32), un, un, un, un, un] [(.int (1 : Int32)), (.int (1 : Int32)), (.int (0 : Int32))] _
    refine XS.isub X2.here hx rfl (hb hby d8_13) rfl ?_
    show SS p e below m T2 14 #[vr a1, vr a2, vi (0 : Int32), un, un, un, un, un] [(.int (0 : Int32)), (.int (0 : Int32))] _
    refine XS.icmpYes X2.here hx rfl (pc0 := 14) (pc' := 19) rfl (hb hby d8_14) rfl (flt (by decide)).2.2.2 (by decide) (by decide) ?_
    show SS p e below m T2 19 #[vr a1, vr a2, vi (0 : Int32), un, un, un, un, un] [] _
    refine XS.aloadN X2.here hx rfl (hb hby d8_19) rfl rfl ?_
    show SS p e below m T2 20 #[vr a1, vr a2, vi (0 : Int32), un, un, un, un, un] [(.ref a1)] _
    refine st3 _ ?_
    show SS p e below m T3 23 #[vr a1, vr a2, vi (0 : Int32), un, un, un, un, un] [(.ref t1)] _
    refine XS.astoreN X3.here hx rfl (hb hby d8_23) rfl rfl (l' := #[vr a1, vr a2, vi (0 : Int32), vr t1, un, un, un, un]) rfl ?_
    show SS p e below m T3 24 #[vr a1, vr a2, vi (0 : Int32), vr t1, un, un, un, un] [] _
    refine XS.aloadN X3.here hx rfl (hb hby d8_24) rfl rfl ?_
    show SS p e below m T3 25 #[vr a1, vr a2, vi (0 : Int32), vr t1, un, un, un, un] [(.ref a2)] _
    refine st4 _ ?_
    show SS p e below m T4 28 #[vr a1, vr a2, vi (0 : Int32), vr t1, un, un, un, un] [(.ref t2)] _
    refine XS.astore X4.here hx rfl (hb hby d8_28) rfl rfl (l' := #[vr a1, vr a2, vi (0 : Int32), vr t1, vr t2, un, un, un]) rfl ?_
    show SS p e below m T4 30 #[vr a1, vr a2, vi (0 : Int32), vr t1, vr t2, un, un, un] [] _
    refine XS.iconst X4.here hx rfl (hb hby d8_30) ?_
    show SS p e below m T4 31 #[vr a1, vr a2, vi (0 : Int32), vr t1, vr t2, un, un, un] [(.int (0 : Int32))] _
    refine XS.istore X4.here hx rfl (hb hby d8_31) rfl (l' := #[vr a1, vr a2, vi (0 : Int32), vr t1, vr t2, vi (0 : Int32), un, un]) rfl ?_
    show SS p e below m T4 33 #[vr a1, vr a2, vi (0 : Int32), vr t1, vr t2, vi (0 : Int32), un, un] [] _
    refine XS.aload X4.here hx rfl (hb hby d8_33) rfl rfl ?_
    show SS p e below m T4 35 #[vr a1, vr a2, vi (0 : Int32), vr t1, vr t2, vi (0 : Int32), un, un] [(.ref t2)] _
    refine X4.arraylength hx (by rw [e4]; exact Ar5.1) ia5 (g := (mkF m 35 #[vr a1, vr a2, vi (0 : Int32), vr t1, vr t2, vi (0 : Int32), un, un] [(.ref t2)])) rfl rfl (hb hby d8_35) _ ?_
    rw [len_of Sz5 Nn5]
    show SS p e below m T4 36 #[vr a1, vr a2, vi (0 : Int32), vr t1, vr t2, vi (0 : Int32), un, un] [(.int (1 : Int32))] _
    refine XS.istore X4.here hx rfl (hb hby d8_36) rfl (l' := #[vr a1, vr a2, vi (0 : Int32), vr t1, vr t2, vi (0 : Int32), vi (1 : Int32), un]) rfl ?_
    show SS p e below m T4 38 #[vr a1, vr a2, vi (0 : Int32), vr t1, vr t2, vi (0 : Int32), vi (1 : Int32), un] [] _
    refine XS.aloadN X4.here hx rfl (hb hby d8_38) rfl rfl ?_
    show SS p e below m T4 39 #[vr a1, vr a2, vi (0 : Int32), vr t1, vr t2, vi (0 : Int32), vi (1 : Int32), un] [(.ref a1)] _
    refine st6.trans ?_
    show SS p e below m T6 42 #[vr a1, vr a2, vi (0 : Int32), vr t1, vr t2, vi (0 : Int32), vi (1 : Int32), un] [(.int (0 : Int32))] _
    refine XS.istore X6.here hx rfl (hb hby d8_42) rfl (l' := #[vr a1, vr a2, vi (0 : Int32), vr t1, vr t2, vi (0 : Int32), vi (1 : Int32), vi (0 : Int32)]) rfl ?_
    show SS p e below m T6 44 #[vr a1, vr a2, vi (0 : Int32), vr t1, vr t2, vi (0 : Int32), vi (1 : Int32), vi (0 : Int32)] [] _
    refine XS.iload X6.here hx rfl (hb hby d8_44) rfl ?_
    show SS p e below m T6 46 #[vr a1, vr a2, vi (0 : Int32), vr t1, vr t2, vi (0 : Int32), vi (1 : Int32), vi (0 : Int32)] [(.int (0 : Int32))] _
    refine XS.aloadN X6.here hx rfl (hb hby d8_46) rfl rfl ?_
    show SS p e below m T6 47 #[vr a1, vr a2, vi (0 : Int32), vr t1, vr t2, vi (0 : Int32), vi (1 : Int32), vi (0 : Int32)] [(.ref a2), (.int (0 : Int32))] _
    refine st7.trans ?_
    show SS p e below m T7 50 #[vr a1, vr a2, vi (0 : Int32), vr t1, vr t2, vi (0 : Int32), vi (1 : Int32), vi (0 : Int32)] [(.int (0 : Int32)), (.int (0 : Int32))] _
    refine XS.icmpNo X7.here hx rfl (hb hby d8_50) rfl (teq (by decide)).2 ?_
    show SS p e below m T7 53 #[vr a1, vr a2, vi (0 : Int32), vr t1, vr t2, vi (0 : Int32), vi (1 : Int32), vi (0 : Int32)] [] _
    refine XS.iload X7.here hx rfl (hb hby d8_53) rfl ?_
    show SS p e below m T7 55 #[vr a1, vr a2, vi (0 : Int32), vr t1, vr t2, vi (0 : Int32), vi (1 : Int32), vi (0 : Int32)] [(.int (0 : Int32))] _
    refine XS.iconst X7.here hx rfl (hb hby d8_55) ?_
    show SS p e below m T7 56 #[vr a1, vr a2, vi (0 : Int32), vr t1, vr t2, vi (0 : Int32), vi (1 : Int32), vi (0 : Int32)] [(.int (1 : Int32)), (.int (0 : Int32))] _
    refine XS.icmpYes X7.here hx rfl (pc0 := 56) (pc' := 63) rfl (hb hby d8_56) rfl (feq (by decide)).2 (by decide) (by decide) ?_
    show SS p e below m T7 63 #[vr a1, vr a2, vi (0 : Int32), vr t1, vr t2, vi (0 : Int32), vi (1 : Int32), vi (0 : Int32)] [] _
    refine XS.aloadN X7.here hx rfl (hb hby d8_63) rfl rfl ?_
    show SS p e below m T7 64 #[vr a1, vr a2, vi (0 : Int32), vr t1, vr t2, vi (0 : Int32), vi (1 : Int32), vi (0 : Int32)] [(.ref t1)] _
    refine XS.iloadN X7.here hx rfl (hb hby d8_64) rfl ?_
    show SS p e below m T7 65 #[vr a1, vr a2, vi (0 : Int32), vr t1, vr t2, vi (0 : Int32), vi (1 : Int32), vi (0 : Int32)] [(.int (0 : Int32)), (.ref t1)] _
    refine XS.aload X7.here hx rfl (hb hby d8_65) rfl rfl ?_
    show SS p e below m T7 67 #[vr a1, vr a2, vi (0 : Int32), vr t1, vr t2, vi (0 : Int32), vi (1 : Int32), vi (0 : Int32)] [(.ref t2), (.int (0 : Int32)), (.ref t1)] _
    refine XS.iconst X7.here hx rfl (hb hby d8_67) ?_
    show SS p e below m T7 68 #[vr a1, vr a2, vi (0 : Int32), vr t1, vr t2, vi (0 : Int32), vi (1 : Int32), vi (0 : Int32)] [(.int (0 : Int32)), (.ref t2), (.int (0 : Int32)), (.ref t1)] _
    refine XS.iload X7.here hx rfl (hb hby d8_68) rfl ?_
    show SS p e below m T7 70 #[vr a1, vr a2, vi (0 : Int32), vr t1, vr t2, vi (0 : Int32), vi (1 : Int32), vi (0 : Int32)] [(.int (1 : Int32)), (.int (0 : Int32)), (.ref t2), (.int (0 : Int32)), (.ref t1)] _
    refine st8 _ ?_
    show SS p e below m T8 73 #[vr a1, vr a2, vi (0 : Int32), vr t1, vr t2, vi (0 : Int32), vi (1 : Int32), vi (0 : Int32)] [(.int (0 : Int32))] _
    refine XS.ifYes X8.here hx rfl (pc0 := 73) (pc' := 80) rfl (hb hby d8_73) rfl ((if0 _ _).trans (flt (by decide)).2.1) (by decide) (by decide) ?_
    show SS p e below m T8 80 #[vr a1, vr a2, vi (0 : Int32), vr t1, vr t2, vi (0 : Int32), vi (1 : Int32), vi (0 : Int32)] [] _
    refine XS.iconst X8.here hx rfl (hb hby d8_80) ?_
    show SS p e below m T8 81 #[vr a1, vr a2, vi (0 : Int32), vr t1, vr t2, vi (0 : Int32), vi (1 : Int32), vi (0 : Int32)] [(.int (0 : Int32))] _
    exact retN X8 hx (t := .boolean) Bd.returns (by simp) (hb hby d8_81) hr
  · show Q_rm_sw1 Z a1 a2 t1 k1 vs1 u t2 k2 w zc h0 n0 _ T8.heap _
    rw [e8]
    exact ⟨rfl, N8, rfl⟩
theorem ef_rm_mm1 (m : MethodId) (x0 : Addr) (x1 : Int32) (x2 : Addr) (x3 : Int32) (x4 : Int32) : entryFrame m #[(.ref x0), (.int x1), (.ref x2), (.int x3), (.int x4)] 8 = mkF m 0 #[vr x0, vi x1, vr x2, vi x3, vi x4, .unset, .unset, .unset] [] := by first | (simp [entryFrame, mkF, argsToLocals, Value.category]; done) | rfl
def Q_rm_mm1 (Z : State) (a1 : Addr) (a3 : Addr) (k1 : ClassId) (z1 : Int32) (vs1 : List Value) (u : Int32) (k3 : ClassId) (w : Int32) (h0 : Heap) (n0 : Nat) (v : Option Value) (h : Heap) (L : List Loc) : Prop := (v = some (.int (0 : Int32))) ∧ (Fr n0 L) ∧ (h = h0)
set_option maxRecDepth 65536 in
set_option maxHeartbeats 40000000 in
theorem rm_mm1 (l : Launch) (Z : State) (a0 : Array Value) (hw : ∀ d ∈ tables_1, d.before a0 Z = true) (ws : List Jvm.Cond) (a1 : Addr) (a3 : Addr) (k1 : ClassId) (z1 : Int32) (vs1 : List Value) (u : Int32) (k3 : ClassId) (w : Int32) (h0 : Heap) (n0 : Nat) (Z0 : n0 ≤ h0.size) (O0 : Old Z n0 h0) (V_a1 : Arv Z h0 a1 k1 .byte z1 vs1 (.int (0 : Int32))) (V_a3 : Arv Z h0 a3 k3 .byte (1 : Int32) [(.int w)] (.int (0 : Int32))) (hM : (1 : Int32) < z1) (hU : vs1.getD (1 : Int32).toNatClampNeg (.int (0 : Int32)) = .int u) (hN : ¬ u = w) :
    MetFree l y_33 (head1 (Jvm.Cond.code y_33 jdk_48_method_14_code 8 (some .int) :: ws) ({ frames := 0, cells := 0, slots := 0, locals := 0 } : Room)) (fun a U => a = #[(.ref a1), (.int (1 : Int32)), (.ref a3), (.int (0 : Int32)), (.int (1 : Int32))] ∧ Z.Warmed39 U.vm ∧ U.heap = h0) (fun _ _ _ _ _ => True) (fun _ U o U' => ∃ v L, o = .returned v ∧ Q_rm_mm1 Z a1 a3 k1 z1 vs1 u k3 w h0 n0 v U'.heap L ∧ FrameEnd U o U' L ({ frames := 0, cells := 0, slots := 0, locals := 0 } : Room).cells ({ frames := 0, cells := 0, slots := 0, locals := 0 } : Room).slots) := by
  refine MetFree.of_bodySF (plainFor_of_name pn_8) hisR ?_
  intro p e s m args below meth c s₁ Bd hml0 hP hK
  obtain ⟨rfl, hZ, hh⟩ := hP
  have hx := Bd.exec
  have hby := Bd.bytes
  have hml : c.maxLocals = 8 := hml0
  have hown : s.vm.findClass "jdk/internal/util/ArraysSupport" = some m.cls := findClass_of_methodNamed Bd.named
  have hnm := (name_of_methodNamed Bd.named Bd.method).1
  have X0 : Stand p l e ({ frames := 0, cells := 0, slots := 0, locals := 0 } : Room) s m #[(.ref a1), (.int (1 : Int32)), (.ref a3), (.int (0 : Int32)), (.int (1 : Int32))] below meth c s₁ [] 0 0 := Stand.of_body Bd
  have e0 : s₁.heap = h0 := by rw [← hh, Bd.state]; rfl
  have N0 := Fr.nil n0
  have KC : Keep h0 h0 [] := Keep.refl h0 _
  have pre0 : ∀ t, Steps p.tables e below (s₁.setTop (mkF m 0 #[vr a1, vi (1 : Int32), vr a3, vi (0 : Int32), vi (1 : Int32), un, un, un] [])) t → Steps p.tables e below (s₁.setTop (entryFrame m #[(.ref a1), (.int (1 : Int32)), (.ref a3), (.int (0 : Int32)), (.int (1 : Int32))] 8)) t := fun t k => castTop (ef_rm_mm1 m a1 (1 : Int32) a3 (0 : Int32) (1 : Int32)) k
  have Vo1 := V_a1
  obtain ⟨cl1, Ar1, q1, Sz1, Nn1, Hh1, Gg1⟩ := Vo1
  have hin1 : ¬ ((1 : Int32) < 0 ∨ cl1.slots.size ≤ ((1 : Int32)).toNatClampNeg) := inb_of Sz1 ⟨by decide, hM⟩
  have hat1 : cl1.slots[((1 : Int32)).toNatClampNeg]? = some (.int u) := Has.at Hh1 hin1 hU
  have ia1 := State.isArrayOf_alike hZ.alike Ar1.2.1
  have Vo2 := V_a3
  obtain ⟨cl2, Ar2, q2, Sz2, Nn2, Hh2, Gg2⟩ := Vo2
  have hin2 : ¬ ((0 : Int32) < 0 ∨ cl2.slots.size ≤ ((0 : Int32)).toNatClampNeg) := inb_of Sz2 ⟨by decide, by decide⟩
  have hat2 : cl2.slots[((0 : Int32)).toNatClampNeg]? = some (.int w) := Has.at Hh2 hin2 rfl
  have ia2 := State.isArrayOf_alike hZ.alike Ar2.2.1
  obtain ⟨fs, hr, hrun, hended, hW, hsame⟩ := X0.leave (v := some (.int (0 : Int32))) (fun h => by rw [Bd.returns] at h; cases h)
  refine ⟨_, _, pre0 _ ?_, hrun, hended, _, _, rfl, ?_, ⟨_, rfl⟩, hW, hsame.mono (by decide) (by decide)⟩
  · show SS p e below m s₁ 0 #[vr a1, vi (1 : Int32), vr a3, vi (0 : Int32), vi (1 : Int32), un, un, un] [] _
    refine XS.iconst X0.here hx rfl (hb hby d44_0) ?_
    show SS p e below m s₁ 1 #[vr a1, vi (1 : Int32), vr a3, vi (0 : Int32), vi (1 : Int32), un, un, un] [(.int (0 : Int32))] _
    refine XS.istore X0.here hx rfl (hb hby d44_1) rfl (l' := #[vr a1, vi (1 : Int32), vr a3, vi (0 : Int32), vi (1 : Int32), vi (0 : Int32), un, un]) rfl ?_
    show SS p e below m s₁ 3 #[vr a1, vi (1 : Int32), vr a3, vi (0 : Int32), vi (1 : Int32), vi (0 : Int32), un, un] [] _
    refine XS.iload X0.here hx rfl (hb hby d44_3) rfl ?_
    show SS p e below m s₁ 5 #[vr a1, vi (1 : Int32), vr a3, vi (0 : Int32), vi (1 : Int32), vi (0 : Int32), un, un] [(.int (1 : Int32))] _
    refine XS.bipush X0.here hx rfl (hb hby d44_5) ?_
    show SS p e below m s₁ 7 #[vr a1, vi (1 : Int32), vr a3, vi (0 : Int32), vi (1 : Int32), vi (0 : Int32), un, un] [(.int (7 : Int32)), (.int (1 : Int32))] _
    refine XS.icmpYes X0.here hx rfl (pc0 := 7) (pc' := 70) rfl (hb hby d44_7) rfl (flt (by decide)).2.2.2 (by decide) (by decide) ?_
    show SS p e below m s₁ 70 #[vr a1, vi (1 : Int32), vr a3, vi (0 : Int32), vi (1 : Int32), vi (0 : Int32), un, un] [] _
    refine XS.iload X0.here hx rfl (hb hby d44_70) rfl ?_
    show SS p e below m s₁ 72 #[vr a1, vi (1 : Int32), vr a3, vi (0 : Int32), vi (1 : Int32), vi (0 : Int32), un, un] [(.int (0 : Int32))] _
    refine XS.iload X0.here hx rfl (hb hby d44_72) rfl ?_
    show SS p e below m s₁ 74 #[vr a1, vi (1 : Int32), vr a3, vi (0 : Int32), vi (1 : Int32), vi (0 : Int32), un, un] [(.int (1 : Int32)), (.int (0 : Int32))] _
    refine XS.icmpNo X0.here hx rfl (hb hby d44_74) rfl (tlt (by decide)).2.1 ?_
    show SS p e below m s₁ 77 #[vr a1, vi (1 : Int32), vr a3, vi (0 : Int32), vi (1 : Int32), vi (0 : Int32), un, un] [] _
    refine XS.aloadN X0.here hx rfl (hb hby d44_77) rfl rfl ?_
    show SS p e below m s₁ 78 #[vr a1, vi (1 : Int32), vr a3, vi (0 : Int32), vi (1 : Int32), vi (0 : Int32), un, un] [(.ref a1)] _
    refine XS.iloadN X0.here hx rfl (hb hby d44_78) rfl ?_
    show SS p e below m s₁ 79 #[vr a1, vi (1 : Int32), vr a3, vi (0 : Int32), vi (1 : Int32), vi (0 : Int32), un, un] [(.int (1 : Int32)), (.ref a1)] _
    refine XS.iload X0.here hx rfl (hb hby d44_79) rfl ?_
    show SS p e below m s₁ 81 #[vr a1, vi (1 : Int32), vr a3, vi (0 : Int32), vi (1 : Int32), vi (0 : Int32), un, un] [(.int (0 : Int32)), (.int (1 : Int32)), (.ref a1)] _
    refine XS.iadd X0.here hx rfl (hb hby d44_81) rfl ?_
    show SS p e below m s₁ 82 #[vr a1, vi (1 : Int32), vr a3, vi (0 : Int32), vi (1 : Int32), vi (0 : Int32), un, un] [(.int (1 : Int32)), (.ref a1)] _
    refine X0.baloadBytes hx (j := (1 : Int32)) (v := (.int u)) (by rw [e0]; exact Ar1.1) ia1 Ar1.2.2 hin1 hat1 (g := (mkF m 82 #[vr a1, vi (1 : Int32), vr a3, vi (0 : Int32), vi (1 : Int32), vi (0 : Int32), un, un] [(.int (1 : Int32)), (.ref a1)])) rfl rfl (hb hby d44_82) _ ?_
    show SS p e below m s₁ 83 #[vr a1, vi (1 : Int32), vr a3, vi (0 : Int32), vi (1 : Int32), vi (0 : Int32), un, un] [(.int u)] _
    refine XS.aloadN X0.here hx rfl (hb hby d44_83) rfl rfl ?_
    show SS p e below m s₁ 84 #[vr a1, vi (1 : Int32), vr a3, vi (0 : Int32), vi (1 : Int32), vi (0 : Int32), un, un] [(.ref a3), (.int u)] _
    refine XS.iloadN X0.here hx rfl (hb hby d44_84) rfl ?_
    show SS p e below m s₁ 85 #[vr a1, vi (1 : Int32), vr a3, vi (0 : Int32), vi (1 : Int32), vi (0 : Int32), un, un] [(.int (0 : Int32)), (.ref a3), (.int u)] _
    refine XS.iload X0.here hx rfl (hb hby d44_85) rfl ?_
    show SS p e below m s₁ 87 #[vr a1, vi (1 : Int32), vr a3, vi (0 : Int32), vi (1 : Int32), vi (0 : Int32), un, un] [(.int (0 : Int32)), (.int (0 : Int32)), (.ref a3), (.int u)] _
    refine XS.iadd X0.here hx rfl (hb hby d44_87) rfl ?_
    show SS p e below m s₁ 88 #[vr a1, vi (1 : Int32), vr a3, vi (0 : Int32), vi (1 : Int32), vi (0 : Int32), un, un] [(.int (0 : Int32)), (.ref a3), (.int u)] _
    refine X0.baloadBytes hx (j := (0 : Int32)) (v := (.int w)) (by rw [e0]; exact Ar2.1) ia2 Ar2.2.2 hin2 hat2 (g := (mkF m 88 #[vr a1, vi (1 : Int32), vr a3, vi (0 : Int32), vi (1 : Int32), vi (0 : Int32), un, un] [(.int (0 : Int32)), (.ref a3), (.int u)])) rfl rfl (hb hby d44_88) _ ?_
    show SS p e below m s₁ 89 #[vr a1, vi (1 : Int32), vr a3, vi (0 : Int32), vi (1 : Int32), vi (0 : Int32), un, un] [(.int w), (.int u)] _
    refine XS.icmpNo X0.here hx rfl (hb hby d44_89) rfl (feq hN).1 ?_
    show SS p e below m s₁ 92 #[vr a1, vi (1 : Int32), vr a3, vi (0 : Int32), vi (1 : Int32), vi (0 : Int32), un, un] [] _
    refine XS.iload X0.here hx rfl (hb hby d44_92) rfl ?_
    show SS p e below m s₁ 94 #[vr a1, vi (1 : Int32), vr a3, vi (0 : Int32), vi (1 : Int32), vi (0 : Int32), un, un] [(.int (0 : Int32))] _
    exact retI X0 hx Bd.returns (hb hby d44_94) hr
  · show Q_rm_mm1 Z a1 a3 k1 z1 vs1 u k3 w h0 n0 _ s₁.heap _
    rw [e0]
    exact ⟨rfl, N0, rfl⟩
theorem ef_rm_sw2 (m : MethodId) (x0 : Addr) (x1 : Addr) (x2 : Int32) : entryFrame m #[(.ref x0), (.ref x1), (.int x2)] 8 = mkF m 0 #[vr x0, vr x1, vi x2, .unset, .unset, .unset, .unset, .unset] [] := by first | (simp [entryFrame, mkF, argsToLocals, Value.category]; done) | rfl
def Q_rm_sw2 (Z : State) (a1 : Addr) (a2 : Addr) (t1 : Addr) (k1 : ClassId) (vs1 : List Value) (u : Int32) (t2 : Addr) (k2 : ClassId) (w : Int32) (zc : Int32) (h0 : Heap) (n0 : Nat) (v : Option Value) (h : Heap) (L : List Loc) : Prop := (v = some (.int (0 : Int32))) ∧ (Fr n0 L) ∧ (h = h0)
set_option maxRecDepth 65536 in
set_option maxHeartbeats 40000000 in
theorem rm_sw2 (l : Launch) (Z : State) (a0 : Array Value) (hw : ∀ d ∈ tables_1, d.before a0 Z = true) (ws : List Jvm.Cond) (a1 : Addr) (a2 : Addr) (t1 : Addr) (k1 : ClassId) (vs1 : List Value) (u : Int32) (t2 : Addr) (k2 : ClassId) (w : Int32) (zc : Int32) (h0 : Heap) (n0 : Nat) (Z0 : n0 ≤ h0.size) (O0 : Old Z n0 h0) (E_a1 : Exa Z h0 a1 "java/lang/String") (F_value_a1 : Fld Z h0 a1 "java/lang/String" "value" "[B" (.ref t1)) (F_coder_a1 : Fld Z h0 a1 "java/lang/String" "coder" "B" (.int (0 : Int32))) (V_t1 : Arv Z h0 t1 k1 .byte (2 : Int32) vs1 (.int (0 : Int32))) (E_a2 : Exa Z h0 a2 "java/lang/String") (F_value_a2 : Fld Z h0 a2 "java/lang/String" "value" "[B" (.ref t2)) (F_coder_a2 : Fld Z h0 a2 "java/lang/String" "coder" "B" (.int (0 : Int32))) (V_t2 : Arv Z h0 t2 k2 .byte (1 : Int32) [(.int w)] (.int (0 : Int32))) (S_CS : Sta Z Z.heap "java/lang/String" "COMPACT_STRINGS" "Z" (.int zc)) (hz : ¬ zc = (0 : Int32)) (hU : vs1.getD (1 : Int32).toNatClampNeg (.int (0 : Int32)) = .int u) (hN : ¬ u = w) :
    MetFree l y_32 (head1 (Jvm.Cond.code y_32 jdk_42_method_75_code 8 (some .boolean) :: ws) ({ frames := 2, cells := 0, slots := 0, locals := 27 } : Room)) (fun a U => a = #[(.ref a1), (.ref a2), (.int (1 : Int32))] ∧ Z.Warmed39 U.vm ∧ U.heap = h0) (fun _ _ _ _ _ => True) (fun _ U o U' => ∃ v L, o = .returned v ∧ Q_rm_sw2 Z a1 a2 t1 k1 vs1 u t2 k2 w zc h0 n0 v U'.heap L ∧ FrameEnd U o U' L ({ frames := 2, cells := 0, slots := 0, locals := 27 } : Room).cells ({ frames := 2, cells := 0, slots := 0, locals := 27 } : Room).slots) := by
  refine MetFree.of_bodySF (plainFor_of_name pn_0) hisR ?_
  intro p e s m args below meth c s₁ Bd hml0 hP hK
  obtain ⟨rfl, hZ, hh⟩ := hP
  have hx := Bd.exec
  have hby := Bd.bytes
  have hml : c.maxLocals = 8 := hml0
  have hown : s.vm.findClass "java/lang/String" = some m.cls := findClass_of_methodNamed Bd.named
  have hnm := (name_of_methodNamed Bd.named Bd.method).1
  have X0 : Stand p l e ({ frames := 2, cells := 0, slots := 0, locals := 27 } : Room) s m #[(.ref a1), (.ref a2), (.int (1 : Int32))] below meth c s₁ [] 0 0 := Stand.of_body Bd
  have e0 : s₁.heap = h0 := by rw [← hh, Bd.state]; rfl
  have N0 := Fr.nil n0
  have KC : Keep h0 h0 [] := Keep.refl h0 _
  have pre0 : ∀ t, Steps p.tables e below (s₁.setTop (mkF m 0 #[vr a1, vr a2, vi (1 : Int32), un, un, un, un, un] [])) t → Steps p.tables e below (s₁.setTop (entryFrame m #[(.ref a1), (.ref a2), (.int (1 : Int32))] 8)) t := fun t k => castTop (ef_rm_sw2 m a1 a2 (1 : Int32)) k
  obtain ⟨cq1, kq1, q1a, q1b, q1c⟩ := isOf hZ e0 E_a1
  obtain ⟨_, _, ⟨T1, L1, kz1, nz1⟩, -, X1, ⟨Lc1, hQ1, l1, y1, z1⟩, st1⟩ := X0.virtualBack hx (y := y_1) (z := y_1) hown (mvT hZ (ww hw 32 rfl)) (mvT hZ (ww hw 33 rfl)) (notFace_of_selects (args := #[]) (mvT hZ (ww hw 35 rfl))) (mvT hZ (ww hw 35 rfl)) (mvT hZ (ww hw 34 rfl)) (by decide) (backOf (W := 1) (rm_length l Z a0 hw [] a1 t1 k1 (2 : Int32) vs1 zc h0 n0 (Nat.le_trans Z0 KC.1) O0 E_a1 F_value_a1 F_coder_a1 V_t1 S_CS hz) hZ (ww hw 36 rfl) (ww hw 3 rfl) (by decide) (by decide)) q1a q1c (g := (mkF m 6 #[vr a1, vr a2, vi (1 : Int32), un, un, un, un, un] [(.ref a1), (.int (1 : Int32))])) rfl (by rw [hml]; rfl) (Steps.refl _) (argsL := []) (rest := [(.int (1 : Int32))]) (lenOf pd_8 rfl) rfl (by show 2 * 0 + _ ≤ _; exact Nat.le_of_eq rfl) (hb hby d8_6) (fun _ _ => ⟨rfl, e0, (by decide : 0 + 0 ≤ _), (by decide : 0 + 0 ≤ _)⟩)
  dsimp only [Pt.U, Pt.locs, Pt.cells, Pt.slots] at X1 l1 y1 z1 st1 hQ1
  subst l1 y1 z1
  obtain ⟨rfl, N1q, e1⟩ := hQ1
  have N1 := Fr.app N0 N1q
  obtain ⟨cq2, kq2, q2a, q2b, q2c⟩ := isOf hZ e1 E_a2
  obtain ⟨_, _, ⟨T2, L2, kz2, nz2⟩, -, X2, ⟨Lc2, hQ2, l2, y2, z2⟩, st2⟩ := X1.virtualBack hx (y := y_1) (z := y_1) hown (mvT hZ (ww hw 32 rfl)) (mvT hZ (ww hw 33 rfl)) (notFace_of_selects (args := #[]) (mvT hZ (ww hw 35 rfl))) (mvT hZ (ww hw 35 rfl)) (mvT hZ (ww hw 34 rfl)) (by decide) (backOf (W := 2) (rm_length l Z a0 hw [] a2 t2 k2 (1 : Int32) [(.int w)] zc h0 n0 (Nat.le_trans Z0 KC.1) O0 E_a2 F_value_a2 F_coder_a2 V_t2 S_CS hz) hZ (ww hw 36 rfl) (ww hw 3 rfl) (by decide) (by decide)) q2a q2c (g := (mkF m 10 #[vr a1, vr a2, vi (1 : Int32), un, un, un, un, un] [(.ref a2), (.int (2 : Int32)), (.int (1 : Int32))])) rfl (by rw [hml]; rfl) (Steps.refl _) (argsL := []) (rest := [(.int (2 : Int32)), (.int (1 : Int32))]) (lenOf pd_8 rfl) rfl (by show 2 * 0 + _ ≤ _; exact Nat.le_of_eq rfl) (hb hby d8_10) (fun _ _ => ⟨rfl, e1, (by decide : 0 + 0 ≤ _), (by decide : 0 + 0 ≤ _)⟩)
  dsimp only [Pt.U, Pt.locs, Pt.cells, Pt.slots] at X2 l2 y2 z2 st2 hQ2
  subst l2 y2 z2
  obtain ⟨rfl, N2q, e2⟩ := hQ2
  have N2 := Fr.app N1 N2q
  obtain ⟨T3, X3, e3, st3⟩ := getF X2 hx hZ hown (host := "") (Or.inl (ww hw 20 rfl)) Via.refl e2 F_value_a1 (g := (mkF m 20 #[vr a1, vr a2, vi (1 : Int32), un, un, un, un, un] [(.ref a1)])) rfl rfl (hb hby d8_20)
  obtain ⟨T4, X4, e4, st4⟩ := getF X3 hx hZ hown (host := "") (Or.inl (ww hw 20 rfl)) Via.refl e3 F_value_a2 (g := (mkF m 25 #[vr a1, vr a2, vi (1 : Int32), vr t1, un, un, un, un] [(.ref a2)])) rfl rfl (hb hby d8_25)
  have Vo5 := V_t2
  obtain ⟨cl5, Ar5, -, Sz5, Nn5, -, -⟩ := Vo5
  have ia5 := State.isArrayOf_alike hZ.alike Ar5.2.1
  obtain ⟨cq6, kq6, q6a, q6b, q6c⟩ := isOf hZ e4 E_a1
  obtain ⟨_, _, ⟨T6, L6, kz6, nz6⟩, -, X6, ⟨Lc6, hQ6, l6, y6, z6⟩, st6⟩ := X4.virtualBack hx (y := y_0) (z := y_0) hown (mvT hZ (ww hw 37 rfl)) (mvT hZ (ww hw 38 rfl)) (notFace_of_selects (args := #[]) (mvT hZ (ww hw 40 rfl))) (mvT hZ (ww hw 40 rfl)) (mvT hZ (ww hw 39 rfl)) (by decide) (backOf (W := 0) (rm_coder l Z a0 hw [] a1 zc h0 n0 (Nat.le_trans Z0 KC.1) O0 F_coder_a1 S_CS hz) hZ (ww hw 41 rfl) (ww hw 3 rfl) (by decide) (by decide)) q6a q6c (g := (mkF m 39 #[vr a1, vr a2, vi (1 : Int32), vr t1, vr t2, vi (0 : Int32), vi (1 : Int32), un] [(.ref a1)])) rfl (by rw [hml]; rfl) (Steps.refl _) (argsL := []) (rest := []) (lenOf pd_0 rfl) rfl (by show 2 * 0 + _ ≤ _; exact Nat.le_of_eq rfl) (hb hby d8_39) (fun _ _ => ⟨rfl, e4, (by decide : 0 + 0 ≤ _), (by decide : 0 + 0 ≤ _)⟩)
  dsimp only [Pt.U, Pt.locs, Pt.cells, Pt.slots] at X6 l6 y6 z6 st6 hQ6
  subst l6 y6 z6
  obtain ⟨rfl, N6q, e6⟩ := hQ6
  have N6 := Fr.app N2 N6q
  obtain ⟨cq7, kq7, q7a, q7b, q7c⟩ := isOf hZ e6 E_a2
  obtain ⟨_, _, ⟨T7, L7, kz7, nz7⟩, -, X7, ⟨Lc7, hQ7, l7, y7, z7⟩, st7⟩ := X6.virtualBack hx (y := y_0) (z := y_0) hown (mvT hZ (ww hw 37 rfl)) (mvT hZ (ww hw 38 rfl)) (notFace_of_selects (args := #[]) (mvT hZ (ww hw 40 rfl))) (mvT hZ (ww hw 40 rfl)) (mvT hZ (ww hw 39 rfl)) (by decide) (backOf (W := 1) (rm_coder l Z a0 hw [] a2 zc h0 n0 (Nat.le_trans Z0 KC.1) O0 F_coder_a2 S_CS hz) hZ (ww hw 41 rfl) (ww hw 3 rfl) (by decide) (by decide)) q7a q7c (g := (mkF m 47 #[vr a1, vr a2, vi (1 : Int32), vr t1, vr t2, vi (0 : Int32), vi (1 : Int32), vi (0 : Int32)] [(.ref a2), (.int (0 : Int32))])) rfl (by rw [hml]; rfl) (Steps.refl _) (argsL := []) (rest := [(.int (0 : Int32))]) (lenOf pd_0 rfl) rfl (by show 2 * 0 + _ ≤ _; exact Nat.le_of_eq rfl) (hb hby d8_47) (fun _ _ => ⟨rfl, e6, (by decide : 0 + 0 ≤ _), (by decide : 0 + 0 ≤ _)⟩)
  dsimp only [Pt.U, Pt.locs, Pt.cells, Pt.slots] at X7 l7 y7 z7 st7 hQ7
  subst l7 y7 z7
  obtain ⟨rfl, N7q, e7⟩ := hQ7
  have N7 := Fr.app N6 N7q
  obtain ⟨_, _, ⟨T8, L8, kz8, nz8⟩, -, X8, ⟨Lc8, hQ8, l8, y8, z8⟩, st8⟩ := Jvm.LawKit.callS X7 hx (y := y_33) hown (mvT hZ (ww hw 230 rfl)) (mvT hZ (ww hw 231 rfl)) (mvT hZ (ww hw 232 rfl)) (mvT hZ (ww hw 233 rfl)) (by decide) (backOf (W := 0) (rm_mm1 l Z a0 hw [] t1 t2 k1 (2 : Int32) vs1 u k2 w h0 n0 (Nat.le_trans Z0 KC.1) O0 V_t1 V_t2 (by decide) hU hN) hZ (ww hw 233 rfl) (ww hw 232 rfl) (by decide) (by decide)) (g := (mkF m 70 #[vr a1, vr a2, vi (1 : Int32), vr t1, vr t2, vi (0 : Int32), vi (1 : Int32), vi (0 : Int32)] [(.int (1 : Int32)), (.int (0 : Int32)), (.ref t2), (.int (1 : Int32)), (.ref t1)])) rfl (by rw [hml]; rfl) (argsL := [(.ref t1), (.int (1 : Int32)), (.ref t2), (.int (0 : Int32)), (.int (1 : Int32))]) (rest := []) (lenOf pd_20 rfl) rfl (by show 2 * 0 + _ ≤ _; exact Nat.le_of_eq rfl) (hb hby d8_70) (fun _ _ => ⟨rfl, e7, (by decide : 0 + 0 ≤ _), (by decide : 0 + 0 ≤ _)⟩)
  dsimp only [Pt.U, Pt.locs, Pt.cells, Pt.slots] at X8 l8 y8 z8 st8 hQ8
  subst l8 y8 z8
  obtain ⟨rfl, N8q, e8⟩ := hQ8
  have N8 := Fr.app N7 N8q
  obtain ⟨fs, hr, hrun, hended, hW, hsame⟩ := X8.leave (v := some (.int (0 : Int32))) (fun h => by rw [Bd.returns] at h; cases h)
  refine ⟨_, _, pre0 _ ?_, hrun, hended, _, _, rfl, ?_, ⟨_, rfl⟩, hW, hsame.mono (by decide) (by decide)⟩
  · show SS p e below m s₁ 0 #[vr a1, vr a2, vi (1 : Int32), un, un, un, un, un] [] _
    refine XS.iloadN X0.here hx rfl (hb hby d8_0) rfl ?_
    show SS p e below m s₁ 1 #[vr a1, vr a2, vi (1 : Int32), un, un, un, un, un] [(.int (1 : Int32))] _
    refine XS.ifNo X0.here hx rfl (hb hby d8_1) rfl ((if0 _ _).trans (flt (by decide)).1) ?_
    show SS p e below m s₁ 4 #[vr a1, vr a2, vi (1 : Int32), un, un, un, un, un] [] _
    refine XS.iloadN X0.here hx rfl (hb hby d8_4) rfl ?_
    show SS p e below m s₁ 5 #[vr a1, vr a2, vi (1 : Int32), un, un, un, un, un] [(.int (1 : Int32))] _
    refine XS.aloadN X0.here hx rfl (hb hby d8_5) rfl rfl ?_
    show SS p e below m s₁ 6 #[vr a1, vr a2, vi (1 : Int32), un, un, un, un, un] [(.ref a1), (.int (1 : Int32))] _
    refine st1.trans ?_
    show SS p e below m T1 9 #[vr a1, vr a2, vi (1 : Int32), un, un, un, un, un] [(.int (2 : Int32)), (.int (1 : Int32))] _
    refine XS.aloadN X1.here hx rfl (hb hby d8_9) rfl rfl ?_
    show SS p e below m T1 10 #[vr a1, vr a2, vi (1 : Int32), un, un, un, un, un] [(.ref a2), (.int (2 : Int32)), (.int (1 : Int32))] _
    refine st2.trans ?_
    show SS p e below m T2 13 #[vr a1, vr a2, vi (1 : Int32), un, un, un, un, un] [(.int (1 : Int32)), (.int (2 : Int32)), (.int (1 : Int32))] _
    refine XS.isub X2.here hx rfl (hb hby d8_13) rfl ?_
    show SS p e below m T2 14 #[vr a1, vr a2, vi (1 : Int32), un, un, un, un, un] [(.int (1 : Int32)), (.int (1 : Int32))] _
    refine XS.icmpYes X2.here hx rfl (pc0 := 14) (pc' := 19) rfl (hb hby d8_14) rfl (flt (by decide)).2.2.2 (by decide) (by decide) ?_
    show SS p e below m T2 19 #[vr a1, vr a2, vi (1 : Int32), un, un, un, un, un] [] _
    refine XS.aloadN X2.here hx rfl (hb hby d8_19) rfl rfl ?_
    show SS p e below m T2 20 #[vr a1, vr a2, vi (1 : Int32), un, un, un, un, un] [(.ref a1)] _
    refine st3 _ ?_
    show SS p e below m T3 23 #[vr a1, vr a2, vi (1 : Int32), un, un, un, un, un] [(.ref t1)] _
    refine XS.astoreN X3.here hx rfl (hb hby d8_23) rfl rfl (l' := #[vr a1, vr a2, vi (1 : Int32), vr t1, un, un, un, un]) rfl ?_
    show SS p e below m T3 24 #[vr a1, vr a2, vi (1 : Int32), vr t1, un, un, un, un] [] _
    refine XS.aloadN X3.here hx rfl (hb hby d8_24) rfl rfl ?_
    show SS p e below m T3 25 #[vr a1, vr a2, vi (1 : Int32), vr t1, un, un, un, un] [(.ref a2)] _
    refine st4 _ ?_
    show SS p e below m T4 28 #[vr a1, vr a2, vi (1 : Int32), vr t1, un, un, un, un] [(.ref t2)] _
    refine XS.astore X4.here hx rfl (hb hby d8_28) rfl rfl (l' := #[vr a1, vr a2, vi (1 : Int32), vr t1, vr t2, un, un, un]) rfl ?_
    show SS p e below m T4 30 #[vr a1, vr a2, vi (1 : Int32), vr t1, vr t2, un, un, un] [] _
    refine XS.iconst X4.here hx rfl (hb hby d8_30) ?_
    show SS p e below m T4 31 #[vr a1, vr a2, vi (1 : Int32), vr t1, vr t2, un, un, un] [(.int (0 : Int32))] _
    refine XS.istore X4.here hx rfl (hb hby d8_31) rfl (l' := #[vr a1, vr a2, vi (1 : Int32), vr t1, vr t2, vi (0 : Int32), un, un]) rfl ?_
    show SS p e below m T4 33 #[vr a1, vr a2, vi (1 : Int32), vr t1, vr t2, vi (0 : Int32), un, un] [] _
    refine XS.aload X4.here hx rfl (hb hby d8_33) rfl rfl ?_
    show SS p e below m T4 35 #[vr a1, vr a2, vi (1 : Int32), vr t1, vr t2, vi (0 : Int32), un, un] [(.ref t2)] _
    refine X4.arraylength hx (by rw [e4]; exact Ar5.1) ia5 (g := (mkF m 35 #[vr a1, vr a2, vi (1 : Int32), vr t1, vr t2, vi (0 : Int32), un, un] [(.ref t2)])) rfl rfl (hb hby d8_35) _ ?_
    rw [len_of Sz5 Nn5]
    show SS p e below m T4 36 #[vr a1, vr a2, vi (1 : Int32), vr t1, vr t2, vi (0 : Int32), un, un] [(.int (1 : Int32))] _
    refine XS.istore X4.here hx rfl (hb hby d8_36) rfl (l' := #[vr a1, vr a2, vi (1 : Int32), vr t1, vr t2, vi (0 : Int32), vi (1 : Int32), un]) rfl ?_
    show SS p e below m T4 38 #[vr a1, vr a2, vi (1 : Int32), vr t1, vr t2, vi (0 : Int32), vi (1 : Int32), un] [] _
    refine XS.aloadN X4.here hx rfl (hb hby d8_38) rfl rfl ?_
    show SS p e below m T4 39 #[vr a1, vr a2, vi (1 : Int32), vr t1, vr t2, vi (0 : Int32), vi (1 : Int32), un] [(.ref a1)] _
    refine st6.trans ?_
    show SS p e below m T6 42 #[vr a1, vr a2, vi (1 : Int32), vr t1, vr t2, vi (0 : Int32), vi (1 : Int32), un] [(.int (0 : Int32))] _
    refine XS.istore X6.here hx rfl (hb hby d8_42) rfl (l' := #[vr a1, vr a2, vi (1 : Int32), vr t1, vr t2, vi (0 : Int32), vi (1 : Int32), vi (0 : Int32)]) rfl ?_
    show SS p e below m T6 44 #[vr a1, vr a2, vi (1 : Int32), vr t1, vr t2, vi (0 : Int32), vi (1 : Int32), vi (0 : Int32)] [] _
    refine XS.iload X6.here hx rfl (hb hby d8_44) rfl ?_
    show SS p e below m T6 46 #[vr a1, vr a2, vi (1 : Int32), vr t1, vr t2, vi (0 : Int32), vi (1 : Int32), vi (0 : Int32)] [(.int (0 : Int32))] _
    refine XS.aloadN X6.here hx rfl (hb hby d8_46) rfl rfl ?_
    show SS p e below m T6 47 #[vr a1, vr a2, vi (1 : Int32), vr t1, vr t2, vi (0 : Int32), vi (1 : Int32), vi (0 : Int32)] [(.ref a2), (.int (0 : Int32))] _
    refine st7.trans ?_
    show SS p e below m T7 50 #[vr a1, vr a2, vi (1 : Int32), vr t1, vr t2, vi (0 : Int32), vi (1 : Int32), vi (0 : Int32)] [(.int (0 : Int32)), (.int (0 : Int32))] _
    refine XS.icmpNo X7.here hx rfl (hb hby d8_50) rfl (teq (by decide)).2 ?_
    show SS p e below m T7 53 #[vr a1, vr a2, vi (1 : Int32), vr t1, vr t2, vi (0 : Int32), vi (1 : Int32), vi (0 : Int32)] [] _
    refine XS.iload X7.here hx rfl (hb hby d8_53) rfl ?_
    show SS p e below m T7 55 #[vr a1, vr a2, vi (1 : Int32), vr t1, vr t2, vi (0 : Int32), vi (1 : Int32), vi (0 : Int32)] [(.int (0 : Int32))] _
    refine XS.iconst X7.here hx rfl (hb hby d8_55) ?_
    show SS p e below m T7 56 #[vr a1, vr a2, vi (1 : Int32), vr t1, vr t2, vi (0 : Int32), vi (1 : Int32), vi (0 : Int32)] [(.int (1 : Int32)), (.int (0 : Int32))] _
    refine XS.icmpYes X7.here hx rfl (pc0 := 56) (pc' := 63) rfl (hb hby d8_56) rfl (feq (by decide)).2 (by decide) (by decide) ?_
    show SS p e below m T7 63 #[vr a1, vr a2, vi (1 : Int32), vr t1, vr t2, vi (0 : Int32), vi (1 : Int32), vi (0 : Int32)] [] _
    refine XS.aloadN X7.here hx rfl (hb hby d8_63) rfl rfl ?_
    show SS p e below m T7 64 #[vr a1, vr a2, vi (1 : Int32), vr t1, vr t2, vi (0 : Int32), vi (1 : Int32), vi (0 : Int32)] [(.ref t1)] _
    refine XS.iloadN X7.here hx rfl (hb hby d8_64) rfl ?_
    show SS p e below m T7 65 #[vr a1, vr a2, vi (1 : Int32), vr t1, vr t2, vi (0 : Int32), vi (1 : Int32), vi (0 : Int32)] [(.int (1 : Int32)), (.ref t1)] _
    refine XS.aload X7.here hx rfl (hb hby d8_65) rfl rfl ?_
    show SS p e below m T7 67 #[vr a1, vr a2, vi (1 : Int32), vr t1, vr t2, vi (0 : Int32), vi (1 : Int32), vi (0 : Int32)] [(.ref t2), (.int (1 : Int32)), (.ref t1)] _
    refine XS.iconst X7.here hx rfl (hb hby d8_67) ?_
    show SS p e below m T7 68 #[vr a1, vr a2, vi (1 : Int32), vr t1, vr t2, vi (0 : Int32), vi (1 : Int32), vi (0 : Int32)] [(.int (0 : Int32)), (.ref t2), (.int (1 : Int32)), (.ref t1)] _
    refine XS.iload X7.here hx rfl (hb hby d8_68) rfl ?_
    show SS p e below m T7 70 #[vr a1, vr a2, vi (1 : Int32), vr t1, vr t2, vi (0 : Int32), vi (1 : Int32), vi (0 : Int32)] [(.int (1 : Int32)), (.int (0 : Int32)), (.ref t2), (.int (1 : Int32)), (.ref t1)] _
    refine st8 _ ?_
    show SS p e below m T8 73 #[vr a1, vr a2, vi (1 : Int32), vr t1, vr t2, vi (0 : Int32), vi (1 : Int32), vi (0 : Int32)] [(.int (0 : Int32))] _
    refine XS.ifYes X8.here hx rfl (pc0 := 73) (pc' := 80) rfl (hb hby d8_73) rfl ((if0 _ _).trans (flt (by decide)).2.1) (by decide) (by decide) ?_
    show SS p e below m T8 80 #[vr a1, vr a2, vi (1 : Int32), vr t1, vr t2, vi (0 : Int32), vi (1 : Int32), vi (0 : Int32)] [] _
    refine XS.iconst X8.here hx rfl (hb hby d8_80) ?_
    show SS p e below m T8 81 #[vr a1, vr a2, vi (1 : Int32), vr t1, vr t2, vi (0 : Int32), vi (1 : Int32), vi (0 : Int32)] [(.int (0 : Int32))] _
    exact retN X8 hx (t := .boolean) Bd.returns (by simp) (hb hby d8_81) hr
  · show Q_rm_sw2 Z a1 a2 t1 k1 vs1 u t2 k2 w zc h0 n0 _ T8.heap _
    rw [e8]
    exact ⟨rfl, N8, rfl⟩
theorem ef_rm_mm2 (m : MethodId) (x0 : Addr) (x1 : Int32) (x2 : Addr) (x3 : Int32) (x4 : Int32) : entryFrame m #[(.ref x0), (.int x1), (.ref x2), (.int x3), (.int x4)] 8 = mkF m 0 #[vr x0, vi x1, vr x2, vi x3, vi x4, .unset, .unset, .unset] [] := by first | (simp [entryFrame, mkF, argsToLocals, Value.category]; done) | rfl
def Q_rm_mm2 (Z : State) (a1 : Addr) (a3 : Addr) (k1 : ClassId) (z1 : Int32) (vs1 : List Value) (u : Int32) (k3 : ClassId) (w : Int32) (h0 : Heap) (n0 : Nat) (v : Option Value) (h : Heap) (L : List Loc) : Prop := (v = some (.int (0 : Int32))) ∧ (Fr n0 L) ∧ (h = h0)
set_option maxRecDepth 65536 in
set_option maxHeartbeats 40000000 in
theorem rm_mm2 (l : Launch) (Z : State) (a0 : Array Value) (hw : ∀ d ∈ tables_1, d.before a0 Z = true) (ws : List Jvm.Cond) (a1 : Addr) (a3 : Addr) (k1 : ClassId) (z1 : Int32) (vs1 : List Value) (u : Int32) (k3 : ClassId) (w : Int32) (h0 : Heap) (n0 : Nat) (Z0 : n0 ≤ h0.size) (O0 : Old Z n0 h0) (V_a1 : Arv Z h0 a1 k1 .byte z1 vs1 (.int (0 : Int32))) (V_a3 : Arv Z h0 a3 k3 .byte (1 : Int32) [(.int w)] (.int (0 : Int32))) (hM : (2 : Int32) < z1) (hU : vs1.getD (2 : Int32).toNatClampNeg (.int (0 : Int32)) = .int u) (hN : ¬ u = w) :
    MetFree l y_33 (head1 (Jvm.Cond.code y_33 jdk_48_method_14_code 8 (some .int) :: ws) ({ frames := 0, cells := 0, slots := 0, locals := 0 } : Room)) (fun a U => a = #[(.ref a1), (.int (2 : Int32)), (.ref a3), (.int (0 : Int32)), (.int (1 : Int32))] ∧ Z.Warmed39 U.vm ∧ U.heap = h0) (fun _ _ _ _ _ => True) (fun _ U o U' => ∃ v L, o = .returned v ∧ Q_rm_mm2 Z a1 a3 k1 z1 vs1 u k3 w h0 n0 v U'.heap L ∧ FrameEnd U o U' L ({ frames := 0, cells := 0, slots := 0, locals := 0 } : Room).cells ({ frames := 0, cells := 0, slots := 0, locals := 0 } : Room).slots) := by
  refine MetFree.of_bodySF (plainFor_of_name pn_8) hisR ?_
  intro p e s m args below meth c s₁ Bd hml0 hP hK
  obtain ⟨rfl, hZ, hh⟩ := hP
  have hx := Bd.exec
  have hby := Bd.bytes
  have hml : c.maxLocals = 8 := hml0
  have hown : s.vm.findClass "jdk/internal/util/ArraysSupport" = some m.cls := findClass_of_methodNamed Bd.named
  have hnm := (name_of_methodNamed Bd.named Bd.method).1
  have X0 : Stand p l e ({ frames := 0, cells := 0, slots := 0, locals := 0 } : Room) s m #[(.ref a1), (.int (2 : Int32)), (.ref a3), (.int (0 : Int32)), (.int (1 : Int32))] below meth c s₁ [] 0 0 := Stand.of_body Bd
  have e0 : s₁.heap = h0 := by rw [← hh, Bd.state]; rfl
  have N0 := Fr.nil n0
  have KC : Keep h0 h0 [] := Keep.refl h0 _
  have pre0 : ∀ t, Steps p.tables e below (s₁.setTop (mkF m 0 #[vr a1, vi (2 : Int32), vr a3, vi (0 : Int32), vi (1 : Int32), un, un, un] [])) t → Steps p.tables e below (s₁.setTop (entryFrame m #[(.ref a1), (.int (2 : Int32)), (.ref a3), (.int (0 : Int32)), (.int (1 : Int32))] 8)) t := fun t k => castTop (ef_rm_mm2 m a1 (2 : Int32) a3 (0 : Int32) (1 : Int32)) k
  have Vo1 := V_a1
  obtain ⟨cl1, Ar1, q1, Sz1, Nn1, Hh1, Gg1⟩ := Vo1
  have hin1 : ¬ ((2 : Int32) < 0 ∨ cl1.slots.size ≤ ((2 : Int32)).toNatClampNeg) := inb_of Sz1 ⟨by decide, hM⟩
  have hat1 : cl1.slots[((2 : Int32)).toNatClampNeg]? = some (.int u) := Has.at Hh1 hin1 hU
  have ia1 := State.isArrayOf_alike hZ.alike Ar1.2.1
  have Vo2 := V_a3
  obtain ⟨cl2, Ar2, q2, Sz2, Nn2, Hh2, Gg2⟩ := Vo2
  have hin2 : ¬ ((0 : Int32) < 0 ∨ cl2.slots.size ≤ ((0 : Int32)).toNatClampNeg) := inb_of Sz2 ⟨by decide, by decide⟩
  have hat2 : cl2.slots[((0 : Int32)).toNatClampNeg]? = some (.int w) := Has.at Hh2 hin2 rfl
  have ia2 := State.isArrayOf_alike hZ.alike Ar2.2.1
  obtain ⟨fs, hr, hrun, hended, hW, hsame⟩ := X0.leave (v := some (.int (0 : Int32))) (fun h => by rw [Bd.returns] at h; cases h)
  refine ⟨_, _, pre0 _ ?_, hrun, hended, _, _, rfl, ?_, ⟨_, rfl⟩, hW, hsame.mono (by decide) (by decide)⟩
  · show SS p e below m s₁ 0 #[vr a1, vi (2 : Int32), vr a3, vi (0 : Int32), vi (1 : Int32), un, un, un] [] _
    refine XS.iconst X0.here hx rfl (hb hby d44_0) ?_
    show SS p e below m s₁ 1 #[vr a1, vi (2 : Int32), vr a3, vi (0 : Int32), vi (1 : Int32), un, un, un] [(.int (0 : Int32))] _
    refine XS.istore X0.here hx rfl (hb hby d44_1) rfl (l' := #[vr a1, vi (2 : Int32), vr a3, vi (0 : Int32), vi (1 : Int32), vi (0 : Int32), un, un]) rfl ?_
    show SS p e below m s₁ 3 #[vr a1, vi (2 : Int32), vr a3, vi (0 : Int32), vi (1 : Int32), vi (0 : Int32), un, un] [] _
    refine XS.iload X0.here hx rfl (hb hby d44_3) rfl ?_
    show SS p e below m s₁ 5 #[vr a1, vi (2 : Int32), vr a3, vi (0 : Int32), vi (1 : Int32), vi (0 : Int32), un, un] [(.int (1 : Int32))] _
    refine XS.bipush X0.here hx rfl (hb hby d44_5) ?_
    show SS p e below m s₁ 7 #[vr a1, vi (2 : Int32), vr a3, vi (0 : Int32), vi (1 : Int32), vi (0 : Int32), un, un] [(.int (7 : Int32)), (.int (1 : Int32))] _
    refine XS.icmpYes X0.here hx rfl (pc0 := 7) (pc' := 70) rfl (hb hby d44_7) rfl (flt (by decide)).2.2.2 (by decide) (by decide) ?_
    show SS p e below m s₁ 70 #[vr a1, vi (2 : Int32), vr a3, vi (0 : Int32), vi (1 : Int32), vi (0 : Int32), un, un] [] _
    refine XS.iload X0.here hx rfl (hb hby d44_70) rfl ?_
    show SS p e below m s₁ 72 #[vr a1, vi (2 : Int32), vr a3, vi (0 : Int32), vi (1 : Int32), vi (0 : Int32), un, un] [(.int (0 : Int32))] _
    refine XS.iload X0.here hx rfl (hb hby d44_72) rfl ?_
    show SS p e below m s₁ 74 #[vr a1, vi (2 : Int32), vr a3, vi (0 : Int32), vi (1 : Int32), vi (0 : Int32), un, un] [(.int (1 : Int32)), (.int (0 : Int32))] _
    refine XS.icmpNo X0.here hx rfl (hb hby d44_74) rfl (tlt (by decide)).2.1 ?_
    show SS p e below m s₁ 77 #[vr a1, vi (2 : Int32), vr a3, vi (0 : Int32), vi (1 : Int32), vi (0 : Int32), un, un] [] _
    refine XS.aloadN X0.here hx rfl (hb hby d44_77) rfl rfl ?_
    show SS p e below m s₁ 78 #[vr a1, vi (2 : Int32), vr a3, vi (0 : Int32), vi (1 : Int32), vi (0 : Int32), un, un] [(.ref a1)] _
    refine XS.iloadN X0.here hx rfl (hb hby d44_78) rfl ?_
    show SS p e below m s₁ 79 #[vr a1, vi (2 : Int32), vr a3, vi (0 : Int32), vi (1 : Int32), vi (0 : Int32), un, un] [(.int (2 : Int32)), (.ref a1)] _
    refine XS.iload X0.here hx rfl (hb hby d44_79) rfl ?_
    show SS p e below m s₁ 81 #[vr a1, vi (2 : Int32), vr a3, vi (0 : Int32), vi (1 : Int32), vi (0 : Int32), un, un] [(.int (0 : Int32)), (.int (2 : Int32)), (.ref a1)] _
    refine XS.iadd X0.here hx rfl (hb hby d44_81) rfl ?_
    show SS p e below m s₁ 82 #[vr a1, vi (2 : Int32), vr a3, vi (0 : Int32), vi (1 : Int32), vi (0 : Int32), un, un] [(.int (2 : Int32)), (.ref a1)] _
    refine X0.baloadBytes hx (j := (2 : Int32)) (v := (.int u)) (by rw [e0]; exact Ar1.1) ia1 Ar1.2.2 hin1 hat1 (g := (mkF m 82 #[vr a1, vi (2 : Int32), vr a3, vi (0 : Int32), vi (1 : Int32), vi (0 : Int32), un, un] [(.int (2 : Int32)), (.ref a1)])) rfl rfl (hb hby d44_82) _ ?_
    show SS p e below m s₁ 83 #[vr a1, vi (2 : Int32), vr a3, vi (0 : Int32), vi (1 : Int32), vi (0 : Int32), un, un] [(.int u)] _
    refine XS.aloadN X0.here hx rfl (hb hby d44_83) rfl rfl ?_
    show SS p e below m s₁ 84 #[vr a1, vi (2 : Int32), vr a3, vi (0 : Int32), vi (1 : Int32), vi (0 : Int32), un, un] [(.ref a3), (.int u)] _
    refine XS.iloadN X0.here hx rfl (hb hby d44_84) rfl ?_
    show SS p e below m s₁ 85 #[vr a1, vi (2 : Int32), vr a3, vi (0 : Int32), vi (1 : Int32), vi (0 : Int32), un, un] [(.int (0 : Int32)), (.ref a3), (.int u)] _
    refine XS.iload X0.here hx rfl (hb hby d44_85) rfl ?_
    show SS p e below m s₁ 87 #[vr a1, vi (2 : Int32), vr a3, vi (0 : Int32), vi (1 : Int32), vi (0 : Int32), un, un] [(.int (0 : Int32)), (.int (0 : Int32)), (.ref a3), (.int u)] _
    refine XS.iadd X0.here hx rfl (hb hby d44_87) rfl ?_
    show SS p e below m s₁ 88 #[vr a1, vi (2 : Int32), vr a3, vi (0 : Int32), vi (1 : Int32), vi (0 : Int32), un, un] [(.int (0 : Int32)), (.ref a3), (.int u)] _
    refine X0.baloadBytes hx (j := (0 : Int32)) (v := (.int w)) (by rw [e0]; exact Ar2.1) ia2 Ar2.2.2 hin2 hat2 (g := (mkF m 88 #[vr a1, vi (2 : Int32), vr a3, vi (0 : Int32), vi (1 : Int32), vi (0 : Int32), un, un] [(.int (0 : Int32)), (.ref a3), (.int u)])) rfl rfl (hb hby d44_88) _ ?_
    show SS p e below m s₁ 89 #[vr a1, vi (2 : Int32), vr a3, vi (0 : Int32), vi (1 : Int32), vi (0 : Int32), un, un] [(.int w), (.int u)] _
    refine XS.icmpNo X0.here hx rfl (hb hby d44_89) rfl (feq hN).1 ?_
    show SS p e below m s₁ 92 #[vr a1, vi (2 : Int32), vr a3, vi (0 : Int32), vi (1 : Int32), vi (0 : Int32), un, un] [] _
    refine XS.iload X0.here hx rfl (hb hby d44_92) rfl ?_
    show SS p e below m s₁ 94 #[vr a1, vi (2 : Int32), vr a3, vi (0 : Int32), vi (1 : Int32), vi (0 : Int32), un, un] [(.int (0 : Int32))] _
    exact retI X0 hx Bd.returns (hb hby d44_94) hr
  · show Q_rm_mm2 Z a1 a3 k1 z1 vs1 u k3 w h0 n0 _ s₁.heap _
    rw [e0]
    exact ⟨rfl, N0, rfl⟩
theorem ef_rm_sw3 (m : MethodId) (x0 : Addr) (x1 : Addr) (x2 : Int32) : entryFrame m #[(.ref x0), (.ref x1), (.int x2)] 8 = mkF m 0 #[vr x0, vr x1, vi x2, .unset, .unset, .unset, .unset, .unset] [] := by first | (simp [entryFrame, mkF, argsToLocals, Value.category]; done) | rfl
def Q_rm_sw3 (Z : State) (a1 : Addr) (a2 : Addr) (t1 : Addr) (k1 : ClassId) (vs1 : List Value) (u : Int32) (t2 : Addr) (k2 : ClassId) (w : Int32) (zc : Int32) (h0 : Heap) (n0 : Nat) (v : Option Value) (h : Heap) (L : List Loc) : Prop := (v = some (.int (0 : Int32))) ∧ (Fr n0 L) ∧ (h = h0)
set_option maxRecDepth 65536 in
set_option maxHeartbeats 40000000 in
theorem rm_sw3 (l : Launch) (Z : State) (a0 : Array Value) (hw : ∀ d ∈ tables_1, d.before a0 Z = true) (ws : List Jvm.Cond) (a1 : Addr) (a2 : Addr) (t1 : Addr) (k1 : ClassId) (vs1 : List Value) (u : Int32) (t2 : Addr) (k2 : ClassId) (w : Int32) (zc : Int32) (h0 : Heap) (n0 : Nat) (Z0 : n0 ≤ h0.size) (O0 : Old Z n0 h0) (E_a1 : Exa Z h0 a1 "java/lang/String") (F_value_a1 : Fld Z h0 a1 "java/lang/String" "value" "[B" (.ref t1)) (F_coder_a1 : Fld Z h0 a1 "java/lang/String" "coder" "B" (.int (0 : Int32))) (V_t1 : Arv Z h0 t1 k1 .byte (3 : Int32) vs1 (.int (0 : Int32))) (E_a2 : Exa Z h0 a2 "java/lang/String") (F_value_a2 : Fld Z h0 a2 "java/lang/String" "value" "[B" (.ref t2)) (F_coder_a2 : Fld Z h0 a2 "java/lang/String" "coder" "B" (.int (0 : Int32))) (V_t2 : Arv Z h0 t2 k2 .byte (1 : Int32) [(.int w)] (.int (0 : Int32))) (S_CS : Sta Z Z.heap "java/lang/String" "COMPACT_STRINGS" "Z" (.int zc)) (hz : ¬ zc = (0 : Int32)) (hU : vs1.getD (2 : Int32).toNatClampNeg (.int (0 : Int32)) = .int u) (hN : ¬ u = w) :
    MetFree l y_32 (head1 (Jvm.Cond.code y_32 jdk_42_method_75_code 8 (some .boolean) :: ws) ({ frames := 2, cells := 0, slots := 0, locals := 27 } : Room)) (fun a U => a = #[(.ref a1), (.ref a2), (.int (2 : Int32))] ∧ Z.Warmed39 U.vm ∧ U.heap = h0) (fun _ _ _ _ _ => True) (fun _ U o U' => ∃ v L, o = .returned v ∧ Q_rm_sw3 Z a1 a2 t1 k1 vs1 u t2 k2 w zc h0 n0 v U'.heap L ∧ FrameEnd U o U' L ({ frames := 2, cells := 0, slots := 0, locals := 27 } : Room).cells ({ frames := 2, cells := 0, slots := 0, locals := 27 } : Room).slots) := by
  refine MetFree.of_bodySF (plainFor_of_name pn_0) hisR ?_
  intro p e s m args below meth c s₁ Bd hml0 hP hK
  obtain ⟨rfl, hZ, hh⟩ := hP
  have hx := Bd.exec
  have hby := Bd.bytes
  have hml : c.maxLocals = 8 := hml0
  have hown : s.vm.findClass "java/lang/String" = some m.cls := findClass_of_methodNamed Bd.named
  have hnm := (name_of_methodNamed Bd.named Bd.method).1
  have X0 : Stand p l e ({ frames := 2, cells := 0, slots := 0, locals := 27 } : Room) s m #[(.ref a1), (.ref a2), (.int (2 : Int32))] below meth c s₁ [] 0 0 := Stand.of_body Bd
  have e0 : s₁.heap = h0 := by rw [← hh, Bd.state]; rfl
  have N0 := Fr.nil n0
  have KC : Keep h0 h0 [] := Keep.refl h0 _
  have pre0 : ∀ t, Steps p.tables e below (s₁.setTop (mkF m 0 #[vr a1, vr a2, vi (2 : Int32), un, un, un, un, un] [])) t → Steps p.tables e below (s₁.setTop (entryFrame m #[(.ref a1), (.ref a2), (.int (2 : Int32))] 8)) t := fun t k => castTop (ef_rm_sw3 m a1 a2 (2 : Int32)) k
  obtain ⟨cq1, kq1, q1a, q1b, q1c⟩ := isOf hZ e0 E_a1
  obtain ⟨_, _, ⟨T1, L1, kz1, nz1⟩, -, X1, ⟨Lc1, hQ1, l1, y1, z1⟩, st1⟩ := X0.virtualBack hx (y := y_1) (z := y_1) hown (mvT hZ (ww hw 32 rfl)) (mvT hZ (ww hw 33 rfl)) (notFace_of_selects (args := #[]) (mvT hZ (ww hw 35 rfl))) (mvT hZ (ww hw 35 rfl)) (mvT hZ (ww hw 34 rfl)) (by decide) (backOf (W := 1) (rm_length l Z a0 hw [] a1 t1 k1 (3 : Int32) vs1 zc h0 n0 (Nat.le_trans Z0 KC.1) O0 E_a1 F_value_a1 F_coder_a1 V_t1 S_CS hz) hZ (ww hw 36 rfl) (ww hw 3 rfl) (by decide) (by decide)) q1a q1c (g := (mkF m 6 #[vr a1, vr a2, vi (2 : Int32), un, un, un, un, un] [(.ref a1), (.int (2 : Int32))])) rfl (by rw [hml]; rfl) (Steps.refl _) (argsL := []) (rest := [(.int (2 : Int32))]) (lenOf pd_8 rfl) rfl (by show 2 * 0 + _ ≤ _; exact Nat.le_of_eq rfl) (hb hby d8_6) (fun _ _ => ⟨rfl, e0, (by decide : 0 + 0 ≤ _), (by decide : 0 + 0 ≤ _)⟩)
  dsimp only [Pt.U, Pt.locs, Pt.cells, Pt.slots] at X1 l1 y1 z1 st1 hQ1
  subst l1 y1 z1
  obtain ⟨rfl, N1q, e1⟩ := hQ1
  have N1 := Fr.app N0 N1q
  obtain ⟨cq2, kq2, q2a, q2b, q2c⟩ := isOf hZ e1 E_a2
  obtain ⟨_, _, ⟨T2, L2, kz2, nz2⟩, -, X2, ⟨Lc2, hQ2, l2, y2, z2⟩, st2⟩ := X1.virtualBack hx (y := y_1) (z := y_1) hown (mvT hZ (ww hw 32 rfl)) (mvT hZ (ww hw 33 rfl)) (notFace_of_selects (args := #[]) (mvT hZ (ww hw 35 rfl))) (mvT hZ (ww hw 35 rfl)) (mvT hZ (ww hw 34 rfl)) (by decide) (backOf (W := 2) (rm_length l Z a0 hw [] a2 t2 k2 (1 : Int32) [(.int w)] zc h0 n0 (Nat.le_trans Z0 KC.1) O0 E_a2 F_value_a2 F_coder_a2 V_t2 S_CS hz) hZ (ww hw 36 rfl) (ww hw 3 rfl) (by decide) (by decide)) q2a q2c (g := (mkF m 10 #[vr a1, vr a2, vi (2 : Int32), un, un, un, un, un] [(.ref a2), (.int (3 : Int32)), (.int (2 : Int32))])) rfl (by rw [hml]; rfl) (Steps.refl _) (argsL := []) (rest := [(.int (3 : Int32)), (.int (2 : Int32))]) (lenOf pd_8 rfl) rfl (by show 2 * 0 + _ ≤ _; exact Nat.le_of_eq rfl) (hb hby d8_10) (fun _ _ => ⟨rfl, e1, (by decide : 0 + 0 ≤ _), (by decide : 0 + 0 ≤ _)⟩)
  dsimp only [Pt.U, Pt.locs, Pt.cells, Pt.slots] at X2 l2 y2 z2 st2 hQ2
  subst l2 y2 z2
  obtain ⟨rfl, N2q, e2⟩ := hQ2
  have N2 := Fr.app N1 N2q
  obtain ⟨T3, X3, e3, st3⟩ := getF X2 hx hZ hown (host := "") (Or.inl (ww hw 20 rfl)) Via.refl e2 F_value_a1 (g := (mkF m 20 #[vr a1, vr a2, vi (2 : Int32), un, un, un, un, un] [(.ref a1)])) rfl rfl (hb hby d8_20)
  obtain ⟨T4, X4, e4, st4⟩ := getF X3 hx hZ hown (host := "") (Or.inl (ww hw 20 rfl)) Via.refl e3 F_value_a2 (g := (mkF m 25 #[vr a1, vr a2, vi (2 : Int32), vr t1, un, un, un, un] [(.ref a2)])) rfl rfl (hb hby d8_25)
  have Vo5 := V_t2
  obtain ⟨cl5, Ar5, -, Sz5, Nn5, -, -⟩ := Vo5
  have ia5 := State.isArrayOf_alike hZ.alike Ar5.2.1
  obtain ⟨cq6, kq6, q6a, q6b, q6c⟩ := isOf hZ e4 E_a1
  obtain ⟨_, _, ⟨T6, L6, kz6, nz6⟩, -, X6, ⟨Lc6, hQ6, l6, y6, z6⟩, st6⟩ := X4.virtualBack hx (y := y_0) (z := y_0) hown (mvT hZ (ww hw 37 rfl)) (mvT hZ (ww hw 38 rfl)) (notFace_of_selects (args := #[]) (mvT hZ (ww hw 40 rfl))) (mvT hZ (ww hw 40 rfl)) (mvT hZ (ww hw 39 rfl)) (by decide) (backOf (W := 0) (rm_coder l Z a0 hw [] a1 zc h0 n0 (Nat.le_trans Z0 KC.1) O0 F_coder_a1 S_CS hz) hZ (ww hw 41 rfl) (ww hw 3 rfl) (by decide) (by decide)) q6a q6c (g := (mkF m 39 #[vr a1, vr a2, vi (2 : Int32), vr t1, vr t2, vi (0 : Int32), vi (1 : Int32), un] [(.ref a1)])) rfl (by rw [hml]; rfl) (Steps.refl _) (argsL := []) (rest := []) (lenOf pd_0 rfl) rfl (by show 2 * 0 + _ ≤ _; exact Nat.le_of_eq rfl) (hb hby d8_39) (fun _ _ => ⟨rfl, e4, (by decide : 0 + 0 ≤ _), (by decide : 0 + 0 ≤ _)⟩)
  dsimp only [Pt.U, Pt.locs, Pt.cells, Pt.slots] at X6 l6 y6 z6 st6 hQ6
  subst l6 y6 z6
  obtain ⟨rfl, N6q, e6⟩ := hQ6
  have N6 := Fr.app N2 N6q
  obtain ⟨cq7, kq7, q7a, q7b, q7c⟩ := isOf hZ e6 E_a2
  obtain ⟨_, _, ⟨T7, L7, kz7, nz7⟩, -, X7, ⟨Lc7, hQ7, l7, y7, z7⟩, st7⟩ := X6.virtualBack hx (y := y_0) (z := y_0) hown (mvT hZ (ww hw 37 rfl)) (mvT hZ (ww hw 38 rfl)) (notFace_of_selects (args := #[]) (mvT hZ (ww hw 40 rfl))) (mvT hZ (ww hw 40 rfl)) (mvT hZ (ww hw 39 rfl)) (by decide) (backOf (W := 1) (rm_coder l Z a0 hw [] a2 zc h0 n0 (Nat.le_trans Z0 KC.1) O0 F_coder_a2 S_CS hz) hZ (ww hw 41 rfl) (ww hw 3 rfl) (by decide) (by decide)) q7a q7c (g := (mkF m 47 #[vr a1, vr a2, vi (2 : Int32), vr t1, vr t2, vi (0 : Int32), vi (1 : Int32), vi (0 : Int32)] [(.ref a2), (.int (0 : Int32))])) rfl (by rw [hml]; rfl) (Steps.refl _) (argsL := []) (rest := [(.int (0 : Int32))]) (lenOf pd_0 rfl) rfl (by show 2 * 0 + _ ≤ _; exact Nat.le_of_eq rfl) (hb hby d8_47) (fun _ _ => ⟨rfl, e6, (by decide : 0 + 0 ≤ _), (by decide : 0 + 0 ≤ _)⟩)
  dsimp only [Pt.U, Pt.locs, Pt.cells, Pt.slots] at X7 l7 y7 z7 st7 hQ7
  subst l7 y7 z7
  obtain ⟨rfl, N7q, e7⟩ := hQ7
  have N7 := Fr.app N6 N7q
  obtain ⟨_, _, ⟨T8, L8, kz8, nz8⟩, -, X8, ⟨Lc8, hQ8, l8, y8, z8⟩, st8⟩ := Jvm.LawKit.callS X7 hx (y := y_33) hown (mvT hZ (ww hw 230 rfl)) (mvT hZ (ww hw 231 rfl)) (mvT hZ (ww hw 232 rfl)) (mvT hZ (ww hw 233 rfl)) (by decide) (backOf (W := 0) (rm_mm2 l Z a0 hw [] t1 t2 k1 (3 : Int32) vs1 u k2 w h0 n0 (Nat.le_trans Z0 KC.1) O0 V_t1 V_t2 (by decide) hU hN) hZ (ww hw 233 rfl) (ww hw 232 rfl) (by decide) (by decide)) (g := (mkF m 70 #[vr a1, vr a2, vi (2 : Int32), vr t1, vr t2, vi (0 : Int32), vi (1 : Int32), vi (0 : Int32)] [(.int (1 : Int32)), (.int (0 : Int32)), (.ref t2), (.int (2 : Int32)), (.ref t1)])) rfl (by rw [hml]; rfl) (argsL := [(.ref t1), (.int (2 : Int32)), (.ref t2), (.int (0 : Int32)), (.int (1 : Int32))]) (rest := []) (lenOf pd_20 rfl) rfl (by show 2 * 0 + _ ≤ _; exact Nat.le_of_eq rfl) (hb hby d8_70) (fun _ _ => ⟨rfl, e7, (by decide : 0 + 0 ≤ _), (by decide : 0 + 0 ≤ _)⟩)
  dsimp only [Pt.U, Pt.locs, Pt.cells, Pt.slots] at X8 l8 y8 z8 st8 hQ8
  subst l8 y8 z8
  obtain ⟨rfl, N8q, e8⟩ := hQ8
  have N8 := Fr.app N7 N8q
  obtain ⟨fs, hr, hrun, hended, hW, hsame⟩ := X8.leave (v := some (.int (0 : Int32))) (fun h => by rw [Bd.returns] at h; cases h)
  refine ⟨_, _, pre0 _ ?_, hrun, hended, _, _, rfl, ?_, ⟨_, rfl⟩, hW, hsame.mono (by decide) (by decide)⟩
  · show SS p e below m s₁ 0 #[vr a1, vr a2, vi (2 : Int32), un, un, un, un, un] [] _
    refine XS.iloadN X0.here hx rfl (hb hby d8_0) rfl ?_
    show SS p e below m s₁ 1 #[vr a1, vr a2, vi (2 : Int32), un, un, un, un, un] [(.int (2 : Int32))] _
    refine XS.ifNo X0.here hx rfl (hb hby d8_1) rfl ((if0 _ _).trans (flt (by decide)).1) ?_
    show SS p e below m s₁ 4 #[vr a1, vr a2, vi (2 : Int32), un, un, un, un, un] [] _
    refine XS.iloadN X0.here hx rfl (hb hby d8_4) rfl ?_
    show SS p e below m s₁ 5 #[vr a1, vr a2, vi (2 : Int32), un, un, un, un, un] [(.int (2 : Int32))] _
    refine XS.aloadN X0.here hx rfl (hb hby d8_5) rfl rfl ?_
    show SS p e below m s₁ 6 #[vr a1, vr a2, vi (2 : Int32), un, un, un, un, un] [(.ref a1), (.int (2 : Int32))] _
    refine st1.trans ?_
    show SS p e below m T1 9 #[vr a1, vr a2, vi (2 : Int32), un, un, un, un, un] [(.int (3 : Int32)), (.int (2 : Int32))] _
    refine XS.aloadN X1.here hx rfl (hb hby d8_9) rfl rfl ?_
    show SS p e below m T1 10 #[vr a1, vr a2, vi (2 : Int32), un, un, un, un, un] [(.ref a2), (.int (3 : Int32)), (.int (2 : Int32))] _
    refine st2.trans ?_
    show SS p e below m T2 13 #[vr a1, vr a2, vi (2 : Int32), un, un, un, un, un] [(.int (1 : Int32)), (.int (3 : Int32)), (.int (2 : Int32))] _
    refine XS.isub X2.here hx rfl (hb hby d8_13) rfl ?_
    show SS p e below m T2 14 #[vr a1, vr a2, vi (2 : Int32), un, un, un, un, un] [(.int (2 : Int32)), (.int (2 : Int32))] _
    refine XS.icmpYes X2.here hx rfl (pc0 := 14) (pc' := 19) rfl (hb hby d8_14) rfl (flt (by decide)).2.2.2 (by decide) (by decide) ?_
    show SS p e below m T2 19 #[vr a1, vr a2, vi (2 : Int32), un, un, un, un, un] [] _
    refine XS.aloadN X2.here hx rfl (hb hby d8_19) rfl rfl ?_
    show SS p e below m T2 20 #[vr a1, vr a2, vi (2 : Int32), un, un, un, un, un] [(.ref a1)] _
    refine st3 _ ?_
    show SS p e below m T3 23 #[vr a1, vr a2, vi (2 : Int32), un, un, un, un, un] [(.ref t1)] _
    refine XS.astoreN X3.here hx rfl (hb hby d8_23) rfl rfl (l' := #[vr a1, vr a2, vi (2 : Int32), vr t1, un, un, un, un]) rfl ?_
    show SS p e below m T3 24 #[vr a1, vr a2, vi (2 : Int32), vr t1, un, un, un, un] [] _
    refine XS.aloadN X3.here hx rfl (hb hby d8_24) rfl rfl ?_
    show SS p e below m T3 25 #[vr a1, vr a2, vi (2 : Int32), vr t1, un, un, un, un] [(.ref a2)] _
    refine st4 _ ?_
    show SS p e below m T4 28 #[vr a1, vr a2, vi (2 : Int32), vr t1, un, un, un, un] [(.ref t2)] _
    refine XS.astore X4.here hx rfl (hb hby d8_28) rfl rfl (l' := #[vr a1, vr a2, vi (2 : Int32), vr t1, vr t2, un, un, un]) rfl ?_
    show SS p e below m T4 30 #[vr a1, vr a2, vi (2 : Int32), vr t1, vr t2, un, un, un] [] _
    refine XS.iconst X4.here hx rfl (hb hby d8_30) ?_
    show SS p e below m T4 31 #[vr a1, vr a2, vi (2 : Int32), vr t1, vr t2, un, un, un] [(.int (0 : Int32))] _
    refine XS.istore X4.here hx rfl (hb hby d8_31) rfl (l' := #[vr a1, vr a2, vi (2 : Int32), vr t1, vr t2, vi (0 : Int32), un, un]) rfl ?_
    show SS p e below m T4 33 #[vr a1, vr a2, vi (2 : Int32), vr t1, vr t2, vi (0 : Int32), un, un] [] _
    refine XS.aload X4.here hx rfl (hb hby d8_33) rfl rfl ?_
    show SS p e below m T4 35 #[vr a1, vr a2, vi (2 : Int32), vr t1, vr t2, vi (0 : Int32), un, un] [(.ref t2)] _
    refine X4.arraylength hx (by rw [e4]; exact Ar5.1) ia5 (g := (mkF m 35 #[vr a1, vr a2, vi (2 : Int32), vr t1, vr t2, vi (0 : Int32), un, un] [(.ref t2)])) rfl rfl (hb hby d8_35) _ ?_
    rw [len_of Sz5 Nn5]
    show SS p e below m T4 36 #[vr a1, vr a2, vi (2 : Int32), vr t1, vr t2, vi (0 : Int32), un, un] [(.int (1 : Int32))] _
    refine XS.istore X4.here hx rfl (hb hby d8_36) rfl (l' := #[vr a1, vr a2, vi (2 : Int32), vr t1, vr t2, vi (0 : Int32), vi (1 : Int32), un]) rfl ?_
    show SS p e below m T4 38 #[vr a1, vr a2, vi (2 : Int32), vr t1, vr t2, vi (0 : Int32), vi (1 : Int32), un] [] _
    refine XS.aloadN X4.here hx rfl (hb hby d8_38) rfl rfl ?_
    show SS p e below m T4 39 #[vr a1, vr a2, vi (2 : Int32), vr t1, vr t2, vi (0 : Int32), vi (1 : Int32), un] [(.ref a1)] _
    refine st6.trans ?_
    show SS p e below m T6 42 #[vr a1, vr a2, vi (2 : Int32), vr t1, vr t2, vi (0 : Int32), vi (1 : Int32), un] [(.int (0 : Int32))] _
    refine XS.istore X6.here hx rfl (hb hby d8_42) rfl (l' := #[vr a1, vr a2, vi (2 : Int32), vr t1, vr t2, vi (0 : Int32), vi (1 : Int32), vi (0 : Int32)]) rfl ?_
    show SS p e below m T6 44 #[vr a1, vr a2, vi (2 : Int32), vr t1, vr t2, vi (0 : Int32), vi (1 : Int32), vi (0 : Int32)] [] _
    refine XS.iload X6.here hx rfl (hb hby d8_44) rfl ?_
    show SS p e below m T6 46 #[vr a1, vr a2, vi (2 : Int32), vr t1, vr t2, vi (0 : Int32), vi (1 : Int32), vi (0 : Int32)] [(.int (0 : Int32))] _
    refine XS.aloadN X6.here hx rfl (hb hby d8_46) rfl rfl ?_
    show SS p e below m T6 47 #[vr a1, vr a2, vi (2 : Int32), vr t1, vr t2, vi (0 : Int32), vi (1 : Int32), vi (0 : Int32)] [(.ref a2), (.int (0 : Int32))] _
    refine st7.trans ?_
    show SS p e below m T7 50 #[vr a1, vr a2, vi (2 : Int32), vr t1, vr t2, vi (0 : Int32), vi (1 : Int32), vi (0 : Int32)] [(.int (0 : Int32)), (.int (0 : Int32))] _
    refine XS.icmpNo X7.here hx rfl (hb hby d8_50) rfl (teq (by decide)).2 ?_
    show SS p e below m T7 53 #[vr a1, vr a2, vi (2 : Int32), vr t1, vr t2, vi (0 : Int32), vi (1 : Int32), vi (0 : Int32)] [] _
    refine XS.iload X7.here hx rfl (hb hby d8_53) rfl ?_
    show SS p e below m T7 55 #[vr a1, vr a2, vi (2 : Int32), vr t1, vr t2, vi (0 : Int32), vi (1 : Int32), vi (0 : Int32)] [(.int (0 : Int32))] _
    refine XS.iconst X7.here hx rfl (hb hby d8_55) ?_
    show SS p e below m T7 56 #[vr a1, vr a2, vi (2 : Int32), vr t1, vr t2, vi (0 : Int32), vi (1 : Int32), vi (0 : Int32)] [(.int (1 : Int32)), (.int (0 : Int32))] _
    refine XS.icmpYes X7.here hx rfl (pc0 := 56) (pc' := 63) rfl (hb hby d8_56) rfl (feq (by decide)).2 (by decide) (by decide) ?_
    show SS p e below m T7 63 #[vr a1, vr a2, vi (2 : Int32), vr t1, vr t2, vi (0 : Int32), vi (1 : Int32), vi (0 : Int32)] [] _
    refine XS.aloadN X7.here hx rfl (hb hby d8_63) rfl rfl ?_
    show SS p e below m T7 64 #[vr a1, vr a2, vi (2 : Int32), vr t1, vr t2, vi (0 : Int32), vi (1 : Int32), vi (0 : Int32)] [(.ref t1)] _
    refine XS.iloadN X7.here hx rfl (hb hby d8_64) rfl ?_
    show SS p e below m T7 65 #[vr a1, vr a2, vi (2 : Int32), vr t1, vr t2, vi (0 : Int32), vi (1 : Int32), vi (0 : Int32)] [(.int (2 : Int32)), (.ref t1)] _
    refine XS.aload X7.here hx rfl (hb hby d8_65) rfl rfl ?_
    show SS p e below m T7 67 #[vr a1, vr a2, vi (2 : Int32), vr t1, vr t2, vi (0 : Int32), vi (1 : Int32), vi (0 : Int32)] [(.ref t2), (.int (2 : Int32)), (.ref t1)] _
    refine XS.iconst X7.here hx rfl (hb hby d8_67) ?_
    show SS p e below m T7 68 #[vr a1, vr a2, vi (2 : Int32), vr t1, vr t2, vi (0 : Int32), vi (1 : Int32), vi (0 : Int32)] [(.int (0 : Int32)), (.ref t2), (.int (2 : Int32)), (.ref t1)] _
    refine XS.iload X7.here hx rfl (hb hby d8_68) rfl ?_
    show SS p e below m T7 70 #[vr a1, vr a2, vi (2 : Int32), vr t1, vr t2, vi (0 : Int32), vi (1 : Int32), vi (0 : Int32)] [(.int (1 : Int32)), (.int (0 : Int32)), (.ref t2), (.int (2 : Int32)), (.ref t1)] _
    refine st8 _ ?_
    show SS p e below m T8 73 #[vr a1, vr a2, vi (2 : Int32), vr t1, vr t2, vi (0 : Int32), vi (1 : Int32), vi (0 : Int32)] [(.int (0 : Int32))] _
    refine XS.ifYes X8.here hx rfl (pc0 := 73) (pc' := 80) rfl (hb hby d8_73) rfl ((if0 _ _).trans (flt (by decide)).2.1) (by decide) (by decide) ?_
    show SS p e below m T8 80 #[vr a1, vr a2, vi (2 : Int32), vr t1, vr t2, vi (0 : Int32), vi (1 : Int32), vi (0 : Int32)] [] _
    refine XS.iconst X8.here hx rfl (hb hby d8_80) ?_
    show SS p e below m T8 81 #[vr a1, vr a2, vi (2 : Int32), vr t1, vr t2, vi (0 : Int32), vi (1 : Int32), vi (0 : Int32)] [(.int (0 : Int32))] _
    exact retN X8 hx (t := .boolean) Bd.returns (by simp) (hb hby d8_81) hr
  · show Q_rm_sw3 Z a1 a2 t1 k1 vs1 u t2 k2 w zc h0 n0 _ T8.heap _
    rw [e8]
    exact ⟨rfl, N8, rfl⟩
theorem pd_21 : parseMethodDescriptor "(Ljava/lang/String;I)Z" = some ⟨[(.object "java/lang/String"), .int], some .boolean⟩ := by decide +kernel
theorem d5_0 : decode jdk_42_method_77_code 0 = .ok (.aload_n 0, 1) := by decide +kernel
theorem d5_1 : decode jdk_42_method_77_code 1 = .ok (.aload_n 1, 1) := by decide +kernel
theorem d5_2 : decode jdk_42_method_77_code 2 = .ok (.aload_n 0, 1) := by decide +kernel
theorem d5_3 : decode jdk_42_method_77_code 3 = .ok (.invokevirtual 505, 3) := by decide +kernel
theorem d5_6 : decode jdk_42_method_77_code 6 = .ok (.aload_n 1, 1) := by decide +kernel
theorem d5_7 : decode jdk_42_method_77_code 7 = .ok (.invokevirtual 505, 3) := by decide +kernel
theorem d5_10 : decode jdk_42_method_77_code 10 = .ok (.isub, 1) := by decide +kernel
theorem d5_11 : decode jdk_42_method_77_code 11 = .ok (.invokevirtual 624, 3) := by decide +kernel
theorem d5_14 : decode jdk_42_method_77_code 14 = .ok (.ireturn, 1) := by decide +kernel
theorem ef_rm_ew (m : MethodId) (x0 : Addr) (x1 : Addr) : entryFrame m #[(.ref x0), (.ref x1)] 2 = mkF m 0 #[vr x0, vr x1] [] := by first | (simp [entryFrame, mkF, argsToLocals, Value.category]; done) | rfl
def Q_rm_ew (Z : State) (a1 : Addr) (a2 : Addr) (t1 : Addr) (k1 : ClassId) (z1 : Int32) (vs1 : List Value) (t2 : Addr) (k2 : ClassId) (w : Int32) (zc : Int32) (h0 : Heap) (n0 : Nat) (v : Option Value) (h : Heap) (L : List Loc) : Prop := (v = some (.int (0 : Int32))) ∧ (Fr n0 L) ∧ (h = h0)
set_option maxRecDepth 65536 in
set_option maxHeartbeats 40000000 in
theorem rm_ew (l : Launch) (Z : State) (a0 : Array Value) (hw : ∀ d ∈ tables_1, d.before a0 Z = true) (ws : List Jvm.Cond) (a1 : Addr) (a2 : Addr) (t1 : Addr) (k1 : ClassId) (z1 : Int32) (vs1 : List Value) (t2 : Addr) (k2 : ClassId) (w : Int32) (zc : Int32) (h0 : Heap) (n0 : Nat) (Z0 : n0 ≤ h0.size) (O0 : Old Z n0 h0) (E_a1 : Exa Z h0 a1 "java/lang/String") (F_value_a1 : Fld Z h0 a1 "java/lang/String" "value" "[B" (.ref t1)) (F_coder_a1 : Fld Z h0 a1 "java/lang/String" "coder" "B" (.int (0 : Int32))) (V_t1 : Arv Z h0 t1 k1 .byte z1 vs1 (.int (0 : Int32))) (E_a2 : Exa Z h0 a2 "java/lang/String") (F_value_a2 : Fld Z h0 a2 "java/lang/String" "value" "[B" (.ref t2)) (F_coder_a2 : Fld Z h0 a2 "java/lang/String" "coder" "B" (.int (0 : Int32))) (V_t2 : Arv Z h0 t2 k2 .byte (1 : Int32) [(.int w)] (.int (0 : Int32))) (S_CS : Sta Z Z.heap "java/lang/String" "COMPACT_STRINGS" "Z" (.int zc)) (hz : ¬ zc = (0 : Int32)) (hD : (z1 = (0 : Int32)) ∨ (z1 = (1 : Int32) ∧ ∃ u : Int32, vs1.getD (0 : Int32).toNatClampNeg (.int (0 : Int32)) = .int u ∧ ¬ u = w) ∨ (z1 = (2 : Int32) ∧ ∃ u : Int32, vs1.getD (1 : Int32).toNatClampNeg (.int (0 : Int32)) = .int u ∧ ¬ u = w) ∨ (z1 = (3 : Int32) ∧ ∃ u : Int32, vs1.getD (2 : Int32).toNatClampNeg (.int (0 : Int32)) = .int u ∧ ¬ u = w)) :
    MetFree l y_34 (head1 (Jvm.Cond.code y_34 jdk_42_method_77_code 2 (some .boolean) :: ws) ({ frames := 3, cells := 0, slots := 0, locals := 46 } : Room)) (fun a U => a = #[(.ref a1), (.ref a2)] ∧ Z.Warmed39 U.vm ∧ U.heap = h0) (fun _ _ _ _ _ => True) (fun _ U o U' => ∃ v L, o = .returned v ∧ Q_rm_ew Z a1 a2 t1 k1 z1 vs1 t2 k2 w zc h0 n0 v U'.heap L ∧ FrameEnd U o U' L ({ frames := 3, cells := 0, slots := 0, locals := 46 } : Room).cells ({ frames := 3, cells := 0, slots := 0, locals := 46 } : Room).slots) := by
  refine MetFree.of_bodySF (plainFor_of_name pn_0) hisR ?_
  intro p e s m args below meth c s₁ Bd hml0 hP hK
  obtain ⟨rfl, hZ, hh⟩ := hP
  have hx := Bd.exec
  have hby := Bd.bytes
  have hml : c.maxLocals = 2 := hml0
  have hown : s.vm.findClass "java/lang/String" = some m.cls := findClass_of_methodNamed Bd.named
  have hnm := (name_of_methodNamed Bd.named Bd.method).1
  have X0 : Stand p l e ({ frames := 3, cells := 0, slots := 0, locals := 46 } : Room) s m #[(.ref a1), (.ref a2)] below meth c s₁ [] 0 0 := Stand.of_body Bd
  have e0 : s₁.heap = h0 := by rw [← hh, Bd.state]; rfl
  have N0 := Fr.nil n0
  have KC : Keep h0 h0 [] := Keep.refl h0 _
  have pre0 : ∀ t, Steps p.tables e below (s₁.setTop (mkF m 0 #[vr a1, vr a2] [])) t → Steps p.tables e below (s₁.setTop (entryFrame m #[(.ref a1), (.ref a2)] 2)) t := fun t k => castTop (ef_rm_ew m a1 a2) k
  rcases hD with hD | ⟨hD, u, hU, hN⟩ | ⟨hD, u, hU, hN⟩ | ⟨hD, u, hU, hN⟩
  · replace V_t1 := (by have hh := V_t1; rw [hD] at hh; exact hh : Arv Z h0 t1 k1 .byte (0 : Int32) vs1 (.int (0 : Int32)))
    obtain ⟨cq1, kq1, q1a, q1b, q1c⟩ := isOf hZ e0 E_a1
    obtain ⟨_, _, ⟨T1, L1, kz1, nz1⟩, -, X1, ⟨Lc1, hQ1, l1, y1, z1⟩, st1⟩ := X0.virtualBack hx (y := y_1) (z := y_1) hown (mvT hZ (ww hw 32 rfl)) (mvT hZ (ww hw 33 rfl)) (notFace_of_selects (args := #[]) (mvT hZ (ww hw 35 rfl))) (mvT hZ (ww hw 35 rfl)) (mvT hZ (ww hw 34 rfl)) (by decide) (backOf (W := 2) (rm_length l Z a0 hw [] a1 t1 k1 (0 : Int32) vs1 zc h0 n0 (Nat.le_trans Z0 KC.1) O0 E_a1 F_value_a1 F_coder_a1 V_t1 S_CS hz) hZ (ww hw 36 rfl) (ww hw 3 rfl) (by decide) (by decide)) q1a q1c (g := (mkF m 3 #[vr a1, vr a2] [(.ref a1), (.ref a2), (.ref a1)])) rfl (by rw [hml]; rfl) (Steps.refl _) (argsL := []) (rest := [(.ref a2), (.ref a1)]) (lenOf pd_8 rfl) rfl (by show 2 * 0 + _ ≤ _; exact Nat.le_of_eq rfl) (hb hby d5_3) (fun _ _ => ⟨rfl, e0, (by decide : 0 + 0 ≤ _), (by decide : 0 + 0 ≤ _)⟩)
    dsimp only [Pt.U, Pt.locs, Pt.cells, Pt.slots] at X1 l1 y1 z1 st1 hQ1
    subst l1 y1 z1
    obtain ⟨rfl, N1q, e1⟩ := hQ1
    have N1 := Fr.app N0 N1q
    obtain ⟨cq2, kq2, q2a, q2b, q2c⟩ := isOf hZ e1 E_a2
    obtain ⟨_, _, ⟨T2, L2, kz2, nz2⟩, -, X2, ⟨Lc2, hQ2, l2, y2, z2⟩, st2⟩ := X1.virtualBack hx (y := y_1) (z := y_1) hown (mvT hZ (ww hw 32 rfl)) (mvT hZ (ww hw 33 rfl)) (notFace_of_selects (args := #[]) (mvT hZ (ww hw 35 rfl))) (mvT hZ (ww hw 35 rfl)) (mvT hZ (ww hw 34 rfl)) (by decide) (backOf (W := 3) (rm_length l Z a0 hw [] a2 t2 k2 (1 : Int32) [(.int w)] zc h0 n0 (Nat.le_trans Z0 KC.1) O0 E_a2 F_value_a2 F_coder_a2 V_t2 S_CS hz) hZ (ww hw 36 rfl) (ww hw 3 rfl) (by decide) (by decide)) q2a q2c (g := (mkF m 7 #[vr a1, vr a2] [(.ref a2), (.int (0 : Int32)), (.ref a2), (.ref a1)])) rfl (by rw [hml]; rfl) (Steps.refl _) (argsL := []) (rest := [(.int (0 : Int32)), (.ref a2), (.ref a1)]) (lenOf pd_8 rfl) rfl (by show 2 * 0 + _ ≤ _; exact Nat.le_of_eq rfl) (hb hby d5_7) (fun _ _ => ⟨rfl, e1, (by decide : 0 + 0 ≤ _), (by decide : 0 + 0 ≤ _)⟩)
    dsimp only [Pt.U, Pt.locs, Pt.cells, Pt.slots] at X2 l2 y2 z2 st2 hQ2
    subst l2 y2 z2
    obtain ⟨rfl, N2q, e2⟩ := hQ2
    have N2 := Fr.app N1 N2q
    obtain ⟨cq3, kq3, q3a, q3b, q3c⟩ := isOf hZ e2 E_a1
    obtain ⟨_, _, ⟨T3, L3, kz3, nz3⟩, -, X3, ⟨Lc3, hQ3, l3, y3, z3⟩, st3⟩ := X2.virtualBack hx (y := y_32) (z := y_32) hown (mvT hZ (ww hw 43 rfl)) (mvT hZ (ww hw 44 rfl)) (notFace_of_selects (args := #[]) (mvT hZ (ww hw 46 rfl))) (mvT hZ (ww hw 46 rfl)) (mvT hZ (ww hw 45 rfl)) (by decide) (backOf (W := 0) (rm_sw0 l Z a0 hw [] a1 a2 h0 n0 (Nat.le_trans Z0 KC.1) O0 ) hZ (ww hw 47 rfl) (ww hw 3 rfl) (by decide) (by decide)) q3a q3c (g := (mkF m 11 #[vr a1, vr a2] [(.int (-1 : Int32)), (.ref a2), (.ref a1)])) rfl (by rw [hml]; rfl) (Steps.refl _) (argsL := [(.ref a2), (.int (-1 : Int32))]) (rest := []) (lenOf pd_21 rfl) rfl (by show 2 * 0 + _ ≤ _; exact Nat.le_of_eq rfl) (hb hby d5_11) (fun _ _ => ⟨rfl, e2, (by decide : 0 + 0 ≤ _), (by decide : 0 + 0 ≤ _)⟩)
    dsimp only [Pt.U, Pt.locs, Pt.cells, Pt.slots] at X3 l3 y3 z3 st3 hQ3
    subst l3 y3 z3
    obtain ⟨rfl, N3q, e3⟩ := hQ3
    have N3 := Fr.app N2 N3q
    obtain ⟨fs, hr, hrun, hended, hW, hsame⟩ := X3.leave (v := some (.int (0 : Int32))) (fun h => by rw [Bd.returns] at h; cases h)
    refine ⟨_, _, pre0 _ ?_, hrun, hended, _, _, rfl, ?_, ⟨_, rfl⟩, hW, hsame.mono (by decide) (by decide)⟩
    · show SS p e below m s₁ 0 #[vr a1, vr a2] [] _
      refine XS.aloadN X0.here hx rfl (hb hby d5_0) rfl rfl ?_
      show SS p e below m s₁ 1 #[vr a1, vr a2] [(.ref a1)] _
      refine XS.aloadN X0.here hx rfl (hb hby d5_1) rfl rfl ?_
      show SS p e below m s₁ 2 #[vr a1, vr a2] [(.ref a2), (.ref a1)] _
      refine XS.aloadN X0.here hx rfl (hb hby d5_2) rfl rfl ?_
      show SS p e below m s₁ 3 #[vr a1, vr a2] [(.ref a1), (.ref a2), (.ref a1)] _
      refine st1.trans ?_
      show SS p e below m T1 6 #[vr a1, vr a2] [(.int (0 : Int32)), (.ref a2), (.ref a1)] _
      refine XS.aloadN X1.here hx rfl (hb hby d5_6) rfl rfl ?_
      show SS p e below m T1 7 #[vr a1, vr a2] [(.ref a2), (.int (0 : Int32)), (.ref a2), (.ref a1)] _
      refine st2.trans ?_
      show SS p e below m T2 10 #[vr a1, vr a2] [(.int (1 : Int32)), (.int (0 : Int32)), (.ref a2), (.ref a1)] _
      refine XS.isub X2.here hx rfl (hb hby d5_10) rfl ?_
      show SS p e below m T2 11 #[vr a1, vr a2] [(.int (-1 : Int32)), (.ref a2), (.ref a1)] _
      refine st3.trans ?_
      show SS p e below m T3 14 #[vr a1, vr a2] [(.int (0 : Int32))] _
      exact retN X3 hx (t := .boolean) Bd.returns (by simp) (hb hby d5_14) hr
    · show Q_rm_ew Z a1 a2 t1 k1 z1 vs1 t2 k2 w zc h0 n0 _ T3.heap _
      rw [e3]
      exact ⟨rfl, N3, rfl⟩
  · replace V_t1 := (by have hh := V_t1; rw [hD] at hh; exact hh : Arv Z h0 t1 k1 .byte (1 : Int32) vs1 (.int (0 : Int32)))
    obtain ⟨cq4, kq4, q4a, q4b, q4c⟩ := isOf hZ e0 E_a1
    obtain ⟨_, _, ⟨T4, L4, kz4, nz4⟩, -, X4, ⟨Lc4, hQ4, l4, y4, z4⟩, st4⟩ := X0.virtualBack hx (y := y_1) (z := y_1) hown (mvT hZ (ww hw 32 rfl)) (mvT hZ (ww hw 33 rfl)) (notFace_of_selects (args := #[]) (mvT hZ (ww hw 35 rfl))) (mvT hZ (ww hw 35 rfl)) (mvT hZ (ww hw 34 rfl)) (by decide) (backOf (W := 2) (rm_length l Z a0 hw [] a1 t1 k1 (1 : Int32) vs1 zc h0 n0 (Nat.le_trans Z0 KC.1) O0 E_a1 F_value_a1 F_coder_a1 V_t1 S_CS hz) hZ (ww hw 36 rfl) (ww hw 3 rfl) (by decide) (by decide)) q4a q4c (g := (mkF m 3 #[vr a1, vr a2] [(.ref a1), (.ref a2), (.ref a1)])) rfl (by rw [hml]; rfl) (Steps.refl _) (argsL := []) (rest := [(.ref a2), (.ref a1)]) (lenOf pd_8 rfl) rfl (by show 2 * 0 + _ ≤ _; exact Nat.le_of_eq rfl) (hb hby d5_3) (fun _ _ => ⟨rfl, e0, (by decide : 0 + 0 ≤ _), (by decide : 0 + 0 ≤ _)⟩)
    dsimp only [Pt.U, Pt.locs, Pt.cells, Pt.slots] at X4 l4 y4 z4 st4 hQ4
    subst l4 y4 z4
    obtain ⟨rfl, N4q, e4⟩ := hQ4
    have N4 := Fr.app N0 N4q
    obtain ⟨cq5, kq5, q5a, q5b, q5c⟩ := isOf hZ e4 E_a2
    obtain ⟨_, _, ⟨T5, L5, kz5, nz5⟩, -, X5, ⟨Lc5, hQ5, l5, y5, z5⟩, st5⟩ := X4.virtualBack hx (y := y_1) (z := y_1) hown (mvT hZ (ww hw 32 rfl)) (mvT hZ (ww hw 33 rfl)) (notFace_of_selects (args := #[]) (mvT hZ (ww hw 35 rfl))) (mvT hZ (ww hw 35 rfl)) (mvT hZ (ww hw 34 rfl)) (by decide) (backOf (W := 3) (rm_length l Z a0 hw [] a2 t2 k2 (1 : Int32) [(.int w)] zc h0 n0 (Nat.le_trans Z0 KC.1) O0 E_a2 F_value_a2 F_coder_a2 V_t2 S_CS hz) hZ (ww hw 36 rfl) (ww hw 3 rfl) (by decide) (by decide)) q5a q5c (g := (mkF m 7 #[vr a1, vr a2] [(.ref a2), (.int (1 : Int32)), (.ref a2), (.ref a1)])) rfl (by rw [hml]; rfl) (Steps.refl _) (argsL := []) (rest := [(.int (1 : Int32)), (.ref a2), (.ref a1)]) (lenOf pd_8 rfl) rfl (by show 2 * 0 + _ ≤ _; exact Nat.le_of_eq rfl) (hb hby d5_7) (fun _ _ => ⟨rfl, e4, (by decide : 0 + 0 ≤ _), (by decide : 0 + 0 ≤ _)⟩)
    dsimp only [Pt.U, Pt.locs, Pt.cells, Pt.slots] at X5 l5 y5 z5 st5 hQ5
    subst l5 y5 z5
    obtain ⟨rfl, N5q, e5⟩ := hQ5
    have N5 := Fr.app N4 N5q
    obtain ⟨cq6, kq6, q6a, q6b, q6c⟩ := isOf hZ e5 E_a1
    obtain ⟨_, _, ⟨T6, L6, kz6, nz6⟩, -, X6, ⟨Lc6, hQ6, l6, y6, z6⟩, st6⟩ := X5.virtualBack hx (y := y_32) (z := y_32) hown (mvT hZ (ww hw 43 rfl)) (mvT hZ (ww hw 44 rfl)) (notFace_of_selects (args := #[]) (mvT hZ (ww hw 46 rfl))) (mvT hZ (ww hw 46 rfl)) (mvT hZ (ww hw 45 rfl)) (by decide) (backOf (W := 0) (rm_sw1 l Z a0 hw [] a1 a2 t1 k1 vs1 u t2 k2 w zc h0 n0 (Nat.le_trans Z0 KC.1) O0 E_a1 F_value_a1 F_coder_a1 V_t1 E_a2 F_value_a2 F_coder_a2 V_t2 S_CS hz hU hN) hZ (ww hw 47 rfl) (ww hw 3 rfl) (by decide) (by decide)) q6a q6c (g := (mkF m 11 #[vr a1, vr a2] [(.int (0 : Int32)), (.ref a2), (.ref a1)])) rfl (by rw [hml]; rfl) (Steps.refl _) (argsL := [(.ref a2), (.int (0 : Int32))]) (rest := []) (lenOf pd_21 rfl) rfl (by show 2 * 0 + _ ≤ _; exact Nat.le_of_eq rfl) (hb hby d5_11) (fun _ _ => ⟨rfl, e5, (by decide : 0 + 0 ≤ _), (by decide : 0 + 0 ≤ _)⟩)
    dsimp only [Pt.U, Pt.locs, Pt.cells, Pt.slots] at X6 l6 y6 z6 st6 hQ6
    subst l6 y6 z6
    obtain ⟨rfl, N6q, e6⟩ := hQ6
    have N6 := Fr.app N5 N6q
    obtain ⟨fs, hr, hrun, hended, hW, hsame⟩ := X6.leave (v := some (.int (0 : Int32))) (fun h => by rw [Bd.returns] at h; cases h)
    refine ⟨_, _, pre0 _ ?_, hrun, hended, _, _, rfl, ?_, ⟨_, rfl⟩, hW, hsame.mono (by decide) (by decide)⟩
    · show SS p e below m s₁ 0 #[vr a1, vr a2] [] _
      refine XS.aloadN X0.here hx rfl (hb hby d5_0) rfl rfl ?_
      show SS p e below m s₁ 1 #[vr a1, vr a2] [(.ref a1)] _
      refine XS.aloadN X0.here hx rfl (hb hby d5_1) rfl rfl ?_
      show SS p e below m s₁ 2 #[vr a1, vr a2] [(.ref a2), (.ref a1)] _
      refine XS.aloadN X0.here hx rfl (hb hby d5_2) rfl rfl ?_
      show SS p e below m s₁ 3 #[vr a1, vr a2] [(.ref a1), (.ref a2), (.ref a1)] _
      refine st4.trans ?_
      show SS p e below m T4 6 #[vr a1, vr a2] [(.int (1 : Int32)), (.ref a2), (.ref a1)] _
      refine XS.aloadN X4.here hx rfl (hb hby d5_6) rfl rfl ?_
      show SS p e below m T4 7 #[vr a1, vr a2] [(.ref a2), (.int (1 : Int32)), (.ref a2), (.ref a1)] _
      refine st5.trans ?_
      show SS p e below m T5 10 #[vr a1, vr a2] [(.int (1 : Int32)), (.int (1 : Int32)), (.ref a2), (.ref a1)] _
      refine XS.isub X5.here hx rfl (hb hby d5_10) rfl ?_
      show SS p e below m T5 11 #[vr a1, vr a2] [(.int (0 : Int32)), (.ref a2), (.ref a1)] _
      refine st6.trans ?_
      show SS p e below m T6 14 #[vr a1, vr a2] [(.int (0 : Int32))] _
      exact retN X6 hx (t := .boolean) Bd.returns (by simp) (hb hby d5_14) hr
    · show Q_rm_ew Z a1 a2 t1 k1 z1 vs1 t2 k2 w zc h0 n0 _ T6.heap _
      rw [e6]
      exact ⟨rfl, N6, rfl⟩
  · replace V_t1 := (by have hh := V_t1; rw [hD] at hh; exact hh : Arv Z h0 t1 k1 .byte (2 : Int32) vs1 (.int (0 : Int32)))
    obtain ⟨cq7, kq7, q7a, q7b, q7c⟩ := isOf hZ e0 E_a1
    obtain ⟨_, _, ⟨T7, L7, kz7, nz7⟩, -, X7, ⟨Lc7, hQ7, l7, y7, z7⟩, st7⟩ := X0.virtualBack hx (y := y_1) (z := y_1) hown (mvT hZ (ww hw 32 rfl)) (mvT hZ (ww hw 33 rfl)) (notFace_of_selects (args := #[]) (mvT hZ (ww hw 35 rfl))) (mvT hZ (ww hw 35 rfl)) (mvT hZ (ww hw 34 rfl)) (by decide) (backOf (W := 2) (rm_length l Z a0 hw [] a1 t1 k1 (2 : Int32) vs1 zc h0 n0 (Nat.le_trans Z0 KC.1) O0 E_a1 F_value_a1 F_coder_a1 V_t1 S_CS hz) hZ (ww hw 36 rfl) (ww hw 3 rfl) (by decide) (by decide)) q7a q7c (g := (mkF m 3 #[vr a1, vr a2] [(.ref a1), (.ref a2), (.ref a1)])) rfl (by rw [hml]; rfl) (Steps.refl _) (argsL := []) (rest := [(.ref a2), (.ref a1)]) (lenOf pd_8 rfl) rfl (by show 2 * 0 + _ ≤ _; exact Nat.le_of_eq rfl) (hb hby d5_3) (fun _ _ => ⟨rfl, e0, (by decide : 0 + 0 ≤ _), (by decide : 0 + 0 ≤ _)⟩)
    dsimp only [Pt.U, Pt.locs, Pt.cells, Pt.slots] at X7 l7 y7 z7 st7 hQ7
    subst l7 y7 z7
    obtain ⟨rfl, N7q, e7⟩ := hQ7
    have N7 := Fr.app N0 N7q
    obtain ⟨cq8, kq8, q8a, q8b, q8c⟩ := isOf hZ e7 E_a2
    obtain ⟨_, _, ⟨T8, L8, kz8, nz8⟩, -, X8, ⟨Lc8, hQ8, l8, y8, z8⟩, st8⟩ := X7.virtualBack hx (y := y_1) (z := y_1) hown (mvT hZ (ww hw 32 rfl)) (mvT hZ (ww hw 33 rfl)) (notFace_of_selects (args := #[]) (mvT hZ (ww hw 35 rfl))) (mvT hZ (ww hw 35 rfl)) (mvT hZ (ww hw 34 rfl)) (by decide) (backOf (W := 3) (rm_length l Z a0 hw [] a2 t2 k2 (1 : Int32) [(.int w)] zc h0 n0 (Nat.le_trans Z0 KC.1) O0 E_a2 F_value_a2 F_coder_a2 V_t2 S_CS hz) hZ (ww hw 36 rfl) (ww hw 3 rfl) (by decide) (by decide)) q8a q8c (g := (mkF m 7 #[vr a1, vr a2] [(.ref a2), (.int (2 : Int32)), (.ref a2), (.ref a1)])) rfl (by rw [hml]; rfl) (Steps.refl _) (argsL := []) (rest := [(.int (2 : Int32)), (.ref a2), (.ref a1)]) (lenOf pd_8 rfl) rfl (by show 2 * 0 + _ ≤ _; exact Nat.le_of_eq rfl) (hb hby d5_7) (fun _ _ => ⟨rfl, e7, (by decide : 0 + 0 ≤ _), (by decide : 0 + 0 ≤ _)⟩)
    dsimp only [Pt.U, Pt.locs, Pt.cells, Pt.slots] at X8 l8 y8 z8 st8 hQ8
    subst l8 y8 z8
    obtain ⟨rfl, N8q, e8⟩ := hQ8
    have N8 := Fr.app N7 N8q
    obtain ⟨cq9, kq9, q9a, q9b, q9c⟩ := isOf hZ e8 E_a1
    obtain ⟨_, _, ⟨T9, L9, kz9, nz9⟩, -, X9, ⟨Lc9, hQ9, l9, y9, z9⟩, st9⟩ := X8.virtualBack hx (y := y_32) (z := y_32) hown (mvT hZ (ww hw 43 rfl)) (mvT hZ (ww hw 44 rfl)) (notFace_of_selects (args := #[]) (mvT hZ (ww hw 46 rfl))) (mvT hZ (ww hw 46 rfl)) (mvT hZ (ww hw 45 rfl)) (by decide) (backOf (W := 0) (rm_sw2 l Z a0 hw [] a1 a2 t1 k1 vs1 u t2 k2 w zc h0 n0 (Nat.le_trans Z0 KC.1) O0 E_a1 F_value_a1 F_coder_a1 V_t1 E_a2 F_value_a2 F_coder_a2 V_t2 S_CS hz hU hN) hZ (ww hw 47 rfl) (ww hw 3 rfl) (by decide) (by decide)) q9a q9c (g := (mkF m 11 #[vr a1, vr a2] [(.int (1 : Int32)), (.ref a2), (.ref a1)])) rfl (by rw [hml]; rfl) (Steps.refl _) (argsL := [(.ref a2), (.int (1 : Int32))]) (rest := []) (lenOf pd_21 rfl) rfl (by show 2 * 0 + _ ≤ _; exact Nat.le_of_eq rfl) (hb hby d5_11) (fun _ _ => ⟨rfl, e8, (by decide : 0 + 0 ≤ _), (by decide : 0 + 0 ≤ _)⟩)
    dsimp only [Pt.U, Pt.locs, Pt.cells, Pt.slots] at X9 l9 y9 z9 st9 hQ9
    subst l9 y9 z9
    obtain ⟨rfl, N9q, e9⟩ := hQ9
    have N9 := Fr.app N8 N9q
    obtain ⟨fs, hr, hrun, hended, hW, hsame⟩ := X9.leave (v := some (.int (0 : Int32))) (fun h => by rw [Bd.returns] at h; cases h)
    refine ⟨_, _, pre0 _ ?_, hrun, hended, _, _, rfl, ?_, ⟨_, rfl⟩, hW, hsame.mono (by decide) (by decide)⟩
    · show SS p e below m s₁ 0 #[vr a1, vr a2] [] _
      refine XS.aloadN X0.here hx rfl (hb hby d5_0) rfl rfl ?_
      show SS p e below m s₁ 1 #[vr a1, vr a2] [(.ref a1)] _
      refine XS.aloadN X0.here hx rfl (hb hby d5_1) rfl rfl ?_
      show SS p e below m s₁ 2 #[vr a1, vr a2] [(.ref a2), (.ref a1)] _
      refine XS.aloadN X0.here hx rfl (hb hby d5_2) rfl rfl ?_
      show SS p e below m s₁ 3 #[vr a1, vr a2] [(.ref a1), (.ref a2), (.ref a1)] _
      refine st7.trans ?_
      show SS p e below m T7 6 #[vr a1, vr a2] [(.int (2 : Int32)), (.ref a2), (.ref a1)] _
      refine XS.aloadN X7.here hx rfl (hb hby d5_6) rfl rfl ?_
      show SS p e below m T7 7 #[vr a1, vr a2] [(.ref a2), (.int (2 : Int32)), (.ref a2), (.ref a1)] _
      refine st8.trans ?_
      show SS p e below m T8 10 #[vr a1, vr a2] [(.int (1 : Int32)), (.int (2 : Int32)), (.ref a2), (.ref a1)] _
      refine XS.isub X8.here hx rfl (hb hby d5_10) rfl ?_
      show SS p e below m T8 11 #[vr a1, vr a2] [(.int (1 : Int32)), (.ref a2), (.ref a1)] _
      refine st9.trans ?_
      show SS p e below m T9 14 #[vr a1, vr a2] [(.int (0 : Int32))] _
      exact retN X9 hx (t := .boolean) Bd.returns (by simp) (hb hby d5_14) hr
    · show Q_rm_ew Z a1 a2 t1 k1 z1 vs1 t2 k2 w zc h0 n0 _ T9.heap _
      rw [e9]
      exact ⟨rfl, N9, rfl⟩
  · replace V_t1 := (by have hh := V_t1; rw [hD] at hh; exact hh : Arv Z h0 t1 k1 .byte (3 : Int32) vs1 (.int (0 : Int32)))
    obtain ⟨cq10, kq10, q10a, q10b, q10c⟩ := isOf hZ e0 E_a1
    obtain ⟨_, _, ⟨T10, L10, kz10, nz10⟩, -, X10, ⟨Lc10, hQ10, l10, y10, z10⟩, st10⟩ := X0.virtualBack hx (y := y_1) (z := y_1) hown (mvT hZ (ww hw 32 rfl)) (mvT hZ (ww hw 33 rfl)) (notFace_of_selects (args := #[]) (mvT hZ (ww hw 35 rfl))) (mvT hZ (ww hw 35 rfl)) (mvT hZ (ww hw 34 rfl)) (by decide) (backOf (W := 2) (rm_length l Z a0 hw [] a1 t1 k1 (3 : Int32) vs1 zc h0 n0 (Nat.le_trans Z0 KC.1) O0 E_a1 F_value_a1 F_coder_a1 V_t1 S_CS hz) hZ (ww hw 36 rfl) (ww hw 3 rfl) (by decide) (by decide)) q10a q10c (g := (mkF m 3 #[vr a1, vr a2] [(.ref a1), (.ref a2), (.ref a1)])) rfl (by rw [hml]; rfl) (Steps.refl _) (argsL := []) (rest := [(.ref a2), (.ref a1)]) (lenOf pd_8 rfl) rfl (by show 2 * 0 + _ ≤ _; exact Nat.le_of_eq rfl) (hb hby d5_3) (fun _ _ => ⟨rfl, e0, (by decide : 0 + 0 ≤ _), (by decide : 0 + 0 ≤ _)⟩)
    dsimp only [Pt.U, Pt.locs, Pt.cells, Pt.slots] at X10 l10 y10 z10 st10 hQ10
    subst l10 y10 z10
    obtain ⟨rfl, N10q, e10⟩ := hQ10
    have N10 := Fr.app N0 N10q
    obtain ⟨cq11, kq11, q11a, q11b, q11c⟩ := isOf hZ e10 E_a2
    obtain ⟨_, _, ⟨T11, L11, kz11, nz11⟩, -, X11, ⟨Lc11, hQ11, l11, y11, z11⟩, st11⟩ := X10.virtualBack hx (y := y_1) (z := y_1) hown (mvT hZ (ww hw 32 rfl)) (mvT hZ (ww hw 33 rfl)) (notFace_of_selects (args := #[]) (mvT hZ (ww hw 35 rfl))) (mvT hZ (ww hw 35 rfl)) (mvT hZ (ww hw 34 rfl)) (by decide) (backOf (W := 3) (rm_length l Z a0 hw [] a2 t2 k2 (1 : Int32) [(.int w)] zc h0 n0 (Nat.le_trans Z0 KC.1) O0 E_a2 F_value_a2 F_coder_a2 V_t2 S_CS hz) hZ (ww hw 36 rfl) (ww hw 3 rfl) (by decide) (by decide)) q11a q11c (g := (mkF m 7 #[vr a1, vr a2] [(.ref a2), (.int (3 : Int32)), (.ref a2), (.ref a1)])) rfl (by rw [hml]; rfl) (Steps.refl _) (argsL := []) (rest := [(.int (3 : Int32)), (.ref a2), (.ref a1)]) (lenOf pd_8 rfl) rfl (by show 2 * 0 + _ ≤ _; exact Nat.le_of_eq rfl) (hb hby d5_7) (fun _ _ => ⟨rfl, e10, (by decide : 0 + 0 ≤ _), (by decide : 0 + 0 ≤ _)⟩)
    dsimp only [Pt.U, Pt.locs, Pt.cells, Pt.slots] at X11 l11 y11 z11 st11 hQ11
    subst l11 y11 z11
    obtain ⟨rfl, N11q, e11⟩ := hQ11
    have N11 := Fr.app N10 N11q
    obtain ⟨cq12, kq12, q12a, q12b, q12c⟩ := isOf hZ e11 E_a1
    obtain ⟨_, _, ⟨T12, L12, kz12, nz12⟩, -, X12, ⟨Lc12, hQ12, l12, y12, z12⟩, st12⟩ := X11.virtualBack hx (y := y_32) (z := y_32) hown (mvT hZ (ww hw 43 rfl)) (mvT hZ (ww hw 44 rfl)) (notFace_of_selects (args := #[]) (mvT hZ (ww hw 46 rfl))) (mvT hZ (ww hw 46 rfl)) (mvT hZ (ww hw 45 rfl)) (by decide) (backOf (W := 0) (rm_sw3 l Z a0 hw [] a1 a2 t1 k1 vs1 u t2 k2 w zc h0 n0 (Nat.le_trans Z0 KC.1) O0 E_a1 F_value_a1 F_coder_a1 V_t1 E_a2 F_value_a2 F_coder_a2 V_t2 S_CS hz hU hN) hZ (ww hw 47 rfl) (ww hw 3 rfl) (by decide) (by decide)) q12a q12c (g := (mkF m 11 #[vr a1, vr a2] [(.int (2 : Int32)), (.ref a2), (.ref a1)])) rfl (by rw [hml]; rfl) (Steps.refl _) (argsL := [(.ref a2), (.int (2 : Int32))]) (rest := []) (lenOf pd_21 rfl) rfl (by show 2 * 0 + _ ≤ _; exact Nat.le_of_eq rfl) (hb hby d5_11) (fun _ _ => ⟨rfl, e11, (by decide : 0 + 0 ≤ _), (by decide : 0 + 0 ≤ _)⟩)
    dsimp only [Pt.U, Pt.locs, Pt.cells, Pt.slots] at X12 l12 y12 z12 st12 hQ12
    subst l12 y12 z12
    obtain ⟨rfl, N12q, e12⟩ := hQ12
    have N12 := Fr.app N11 N12q
    obtain ⟨fs, hr, hrun, hended, hW, hsame⟩ := X12.leave (v := some (.int (0 : Int32))) (fun h => by rw [Bd.returns] at h; cases h)
    refine ⟨_, _, pre0 _ ?_, hrun, hended, _, _, rfl, ?_, ⟨_, rfl⟩, hW, hsame.mono (by decide) (by decide)⟩
    · show SS p e below m s₁ 0 #[vr a1, vr a2] [] _
      refine XS.aloadN X0.here hx rfl (hb hby d5_0) rfl rfl ?_
      show SS p e below m s₁ 1 #[vr a1, vr a2] [(.ref a1)] _
      refine XS.aloadN X0.here hx rfl (hb hby d5_1) rfl rfl ?_
      show SS p e below m s₁ 2 #[vr a1, vr a2] [(.ref a2), (.ref a1)] _
      refine XS.aloadN X0.here hx rfl (hb hby d5_2) rfl rfl ?_
      show SS p e below m s₁ 3 #[vr a1, vr a2] [(.ref a1), (.ref a2), (.ref a1)] _
      refine st10.trans ?_
      show SS p e below m T10 6 #[vr a1, vr a2] [(.int (3 : Int32)), (.ref a2), (.ref a1)] _
      refine XS.aloadN X10.here hx rfl (hb hby d5_6) rfl rfl ?_
      show SS p e below m T10 7 #[vr a1, vr a2] [(.ref a2), (.int (3 : Int32)), (.ref a2), (.ref a1)] _
      refine st11.trans ?_
      show SS p e below m T11 10 #[vr a1, vr a2] [(.int (1 : Int32)), (.int (3 : Int32)), (.ref a2), (.ref a1)] _
      refine XS.isub X11.here hx rfl (hb hby d5_10) rfl ?_
      show SS p e below m T11 11 #[vr a1, vr a2] [(.int (2 : Int32)), (.ref a2), (.ref a1)] _
      refine st12.trans ?_
      show SS p e below m T12 14 #[vr a1, vr a2] [(.int (0 : Int32))] _
      exact retN X12 hx (t := .boolean) Bd.returns (by simp) (hb hby d5_14) hr
    · show Q_rm_ew Z a1 a2 t1 k1 z1 vs1 t2 k2 w zc h0 n0 _ T12.heap _
      rw [e12]
      exact ⟨rfl, N12, rfl⟩
theorem pd_22 : parseMethodDescriptor "(I)C" = some ⟨[.int], some .char⟩ := by decide +kernel
theorem d32_0 : decode method_5_code 0 = .ok (.iload_n 1, 1) := by decide +kernel
theorem d32_1 : decode method_5_code 1 = .ok (.aload_n 0, 1) := by decide +kernel
theorem d32_2 : decode method_5_code 2 = .ok (.invokevirtual 44, 3) := by decide +kernel
theorem d32_5 : decode method_5_code 5 = .ok (.if_icmp .lt 5, 3) := by decide +kernel
theorem d32_8 : decode method_5_code 8 = .ok (.iconst 1, 1) := by decide +kernel
theorem d32_9 : decode method_5_code 9 = .ok (.ireturn, 1) := by decide +kernel
theorem d32_10 : decode method_5_code 10 = .ok (.iload_n 1, 1) := by decide +kernel
theorem d32_11 : decode method_5_code 11 = .ok (.iload_n 3, 1) := by decide +kernel
theorem d32_12 : decode method_5_code 12 = .ok (.if_icmp .ge 11, 3) := by decide +kernel
theorem d32_15 : decode method_5_code 15 = .ok (.aload_n 2, 1) := by decide +kernel
theorem d32_16 : decode method_5_code 16 = .ok (.iload_n 1, 1) := by decide +kernel
theorem d32_17 : decode method_5_code 17 = .ok (.caload, 1) := by decide +kernel
theorem d32_18 : decode method_5_code 18 = .ok (.istore 5, 2) := by decide +kernel
theorem d32_20 : decode method_5_code 20 = .ok (.goto 13, 3) := by decide +kernel
theorem d32_23 : decode method_5_code 23 = .ok (.aload 4, 2) := by decide +kernel
theorem d32_25 : decode method_5_code 25 = .ok (.iload_n 1, 1) := by decide +kernel
theorem d32_26 : decode method_5_code 26 = .ok (.iload_n 3, 1) := by decide +kernel
theorem d32_27 : decode method_5_code 27 = .ok (.isub, 1) := by decide +kernel
theorem d32_28 : decode method_5_code 28 = .ok (.invokevirtual 52, 3) := by decide +kernel
theorem d32_31 : decode method_5_code 31 = .ok (.istore 5, 2) := by decide +kernel
theorem d32_33 : decode method_5_code 33 = .ok (.aload_n 0, 1) := by decide +kernel
theorem d32_34 : decode method_5_code 34 = .ok (.iload_n 1, 1) := by decide +kernel
theorem d32_35 : decode method_5_code 35 = .ok (.invokevirtual 52, 3) := by decide +kernel
theorem d32_38 : decode method_5_code 38 = .ok (.iload 5, 2) := by decide +kernel
theorem d32_40 : decode method_5_code 40 = .ok (.if_icmp .ne 7, 3) := by decide +kernel
theorem d32_43 : decode method_5_code 43 = .ok (.iconst 1, 1) := by decide +kernel
theorem d32_44 : decode method_5_code 44 = .ok (.goto 4, 3) := by decide +kernel
theorem d32_48 : decode method_5_code 48 = .ok (.ireturn, 1) := by decide +kernel
theorem pn_9 : plainName "com/example/federant/federant/saml/HubEndpointsUnderPinLaw" = true := by first | (simp [plainName, overriddenIn]; done) | decide +kernel
theorem ef_rm_at (m : MethodId) (x0 : Addr) (x1 : Int32) (x2 : Addr) (x3 : Int32) (x4 : Addr) : entryFrame m #[(.ref x0), (.int x1), (.ref x2), (.int x3), (.ref x4)] 6 = mkF m 0 #[vr x0, vi x1, vr x2, vi x3, vr x4, .unset] [] := by first | (simp [entryFrame, mkF, argsToLocals, Value.category]; done) | rfl
def Q_rm_at (Z : State) (a1 : Addr) (p2 : Int32) (a3 : Addr) (p4 : Int32) (a5 : Addr) (t1 : Addr) (k1 : ClassId) (z1 : Int32) (vs1 : List Value) (kb : ClassId) (zb : Int32) (vsb : List Value) (t5 : Addr) (k5 : ClassId) (z5 : Int32) (vs5 : List Value) (zc : Int32) (fm : Value) (h0 : Heap) (n0 : Nat) (v : Option Value) (h : Heap) (L : List Loc) : Prop := (v = some (.int (1 : Int32))) ∧ (Fr n0 L) ∧ (h = h0)
set_option maxRecDepth 65536 in
set_option maxHeartbeats 40000000 in
theorem rm_at (l : Launch) (Z : State) (a0 : Array Value) (hw : ∀ d ∈ tables_1, d.before a0 Z = true) (ws : List Jvm.Cond) (a1 : Addr) (p2 : Int32) (a3 : Addr) (p4 : Int32) (a5 : Addr) (t1 : Addr) (k1 : ClassId) (z1 : Int32) (vs1 : List Value) (kb : ClassId) (zb : Int32) (vsb : List Value) (t5 : Addr) (k5 : ClassId) (z5 : Int32) (vs5 : List Value) (zc : Int32) (fm : Value) (h0 : Heap) (n0 : Nat) (Z0 : n0 ≤ h0.size) (O0 : Old Z n0 h0) (E_a1 : Exa Z h0 a1 "java/lang/String") (F_value_a1 : Fld Z h0 a1 "java/lang/String" "value" "[B" (.ref t1)) (F_coder_a1 : Fld Z h0 a1 "java/lang/String" "coder" "B" (.int (0 : Int32))) (V_t1 : Arv Z h0 t1 k1 .byte z1 vs1 (.int (0 : Int32))) (V_a3 : Arv Z h0 a3 kb .char zb vsb (.int (0 : Int32))) (E_a5 : Exa Z h0 a5 "java/lang/String") (F_value_a5 : Fld Z h0 a5 "java/lang/String" "value" "[B" (.ref t5)) (F_coder_a5 : Fld Z h0 a5 "java/lang/String" "coder" "B" (.int (0 : Int32))) (V_t5 : Arv Z h0 t5 k5 .byte z5 vs5 (.int (0 : Int32))) (S_CS : Sta Z Z.heap "java/lang/String" "COMPACT_STRINGS" "Z" (.int zc)) (hz : ¬ zc = (0 : Int32)) (S_FM : Sta Z Z.heap "jdk/internal/util/Preconditions" "SIOOBE_FORMATTER" "Ljava/util/function/BiFunction;" fm) (hW_fm : fm.isRef = true) (hk0 : ¬ p2 < (0 : Int32)) (hAa : p2 < z1 → p2 < p4 → p2 < zb ∧ ∃ u x : Int32, vs1.getD p2.toNatClampNeg (.int (0 : Int32)) = .int u ∧ vsb.getD p2.toNatClampNeg (.int (0 : Int32)) = .int x ∧ (u &&& (255 : Int32)) = x) (hAb : p2 < z1 → ¬ p2 < p4 → ¬ (p2 - p4) < (0 : Int32) ∧ (p2 - p4) < z5 ∧ ∃ u : Int32, vs1.getD p2.toNatClampNeg (.int (0 : Int32)) = .int u ∧ vs5.getD (p2 - p4).toNatClampNeg (.int (0 : Int32)) = .int u) :
    MetFree l y_35 (head1 (Jvm.Cond.code y_35 method_5_code 6 (some .boolean) :: ws) ({ frames := 4, cells := 0, slots := 0, locals := 53 } : Room)) (fun a U => a = #[(.ref a1), (.int p2), (.ref a3), (.int p4), (.ref a5)] ∧ Z.Warmed39 U.vm ∧ U.heap = h0) (fun _ _ _ _ _ => True) (fun _ U o U' => ∃ v L, o = .returned v ∧ Q_rm_at Z a1 p2 a3 p4 a5 t1 k1 z1 vs1 kb zb vsb t5 k5 z5 vs5 zc fm h0 n0 v U'.heap L ∧ FrameEnd U o U' L ({ frames := 4, cells := 0, slots := 0, locals := 53 } : Room).cells ({ frames := 4, cells := 0, slots := 0, locals := 53 } : Room).slots) := by
  refine MetFree.of_bodySF (plainFor_of_name pn_9) hisR ?_
  intro p e s m args below meth c s₁ Bd hml0 hP hK
  obtain ⟨rfl, hZ, hh⟩ := hP
  have hx := Bd.exec
  have hby := Bd.bytes
  have hml : c.maxLocals = 6 := hml0
  have hown : s.vm.findClass "com/example/federant/federant/saml/HubEndpointsUnderPinLaw" = some m.cls := findClass_of_methodNamed Bd.named
  have hnm := (name_of_methodNamed Bd.named Bd.method).1
  have X0 : Stand p l e ({ frames := 4, cells := 0, slots := 0, locals := 53 } : Room) s m #[(.ref a1), (.int p2), (.ref a3), (.int p4), (.ref a5)] below meth c s₁ [] 0 0 := Stand.of_body Bd
  have e0 : s₁.heap = h0 := by rw [← hh, Bd.state]; rfl
  have N0 := Fr.nil n0
  have KC : Keep h0 h0 [] := Keep.refl h0 _
  have pre0 : ∀ t, Steps p.tables e below (s₁.setTop (mkF m 0 #[vr a1, vi p2, vr a3, vi p4, vr a5, un] [])) t → Steps p.tables e below (s₁.setTop (entryFrame m #[(.ref a1), (.int p2), (.ref a3), (.int p4), (.ref a5)] 6)) t := fun t k => castTop (ef_rm_at m a1 p2 a3 p4 a5) k
  obtain ⟨cq1, kq1, q1a, q1b, q1c⟩ := isOf hZ e0 E_a1
  obtain ⟨_, _, ⟨T1, L1, kz1, nz1⟩, -, X1, ⟨Lc1, hQ1, l1, y1, z1⟩, st1⟩ := X0.virtualBack hx (y := y_1) (z := y_1) hown (mvT hZ (ww hw 179 rfl)) (mvT hZ (ww hw 33 rfl)) (notFace_of_selects (args := #[]) (mvT hZ (ww hw 35 rfl))) (mvT hZ (ww hw 35 rfl)) (mvT hZ (ww hw 34 rfl)) (by decide) (backOf (W := 1) (rm_length l Z a0 hw [] a1 t1 k1 z1 vs1 zc h0 n0 (Nat.le_trans Z0 KC.1) O0 E_a1 F_value_a1 F_coder_a1 V_t1 S_CS hz) hZ (ww hw 36 rfl) (ww hw 3 rfl) (by decide) (by decide)) q1a q1c (g := (mkF m 2 #[vr a1, vi p2, vr a3, vi p4, vr a5, un] [(.ref a1), (.int p2)])) rfl (by rw [hml]; rfl) (Steps.refl _) (argsL := []) (rest := [(.int p2)]) (lenOf pd_8 rfl) rfl (by show 2 * 0 + _ ≤ _; exact Nat.le_of_eq rfl) (hb hby d32_2) (fun _ _ => ⟨rfl, e0, (by decide : 0 + 0 ≤ _), (by decide : 0 + 0 ≤ _)⟩)
  dsimp only [Pt.U, Pt.locs, Pt.cells, Pt.slots] at X1 l1 y1 z1 st1 hQ1
  subst l1 y1 z1
  obtain ⟨rfl, N1q, e1⟩ := hQ1
  have N1 := Fr.app N0 N1q
  have pre2 : ∀ t, Steps p.tables e below (T1.setTop (mkF m 5 #[vr a1, vi p2, vr a3, vi p4, vr a5, un] [(.int z1), (.int p2)])) t → Steps p.tables e below (s₁.setTop (entryFrame m #[(.ref a1), (.int p2), (.ref a3), (.int p4), (.ref a5)] 6)) t := by
    intro t kt
    refine pre0 t ?_
    show SS p e below m s₁ 0 #[vr a1, vi p2, vr a3, vi p4, vr a5, un] [] _
    refine XS.iloadN X0.here hx rfl (hb hby d32_0) rfl ?_
    show SS p e below m s₁ 1 #[vr a1, vi p2, vr a3, vi p4, vr a5, un] [(.int p2)] _
    refine XS.aloadN X0.here hx rfl (hb hby d32_1) rfl rfl ?_
    show SS p e below m s₁ 2 #[vr a1, vi p2, vr a3, vi p4, vr a5, un] [(.ref a1), (.int p2)] _
    refine st1.trans ?_
    exact kt
  by_cases hc5_3 : p2 < z1
  · have pre4 : ∀ t, Steps p.tables e below (T1.setTop (mkF m 12 #[vr a1, vi p2, vr a3, vi p4, vr a5, un] [(.int p4), (.int p2)])) t → Steps p.tables e below (s₁.setTop (entryFrame m #[(.ref a1), (.int p2), (.ref a3), (.int p4), (.ref a5)] 6)) t := by
      intro t kt
      refine pre2 t ?_
      show SS p e below m T1 5 #[vr a1, vi p2, vr a3, vi p4, vr a5, un] [(.int z1), (.int p2)] _
      refine XS.icmpYes X1.here hx rfl (pc0 := 5) (pc' := 10) rfl (hb hby d32_5) rfl (tlt hc5_3).1 (by decide) (by decide) ?_
      show SS p e below m T1 10 #[vr a1, vi p2, vr a3, vi p4, vr a5, un] [] _
      refine XS.iloadN X1.here hx rfl (hb hby d32_10) rfl ?_
      show SS p e below m T1 11 #[vr a1, vi p2, vr a3, vi p4, vr a5, un] [(.int p2)] _
      refine XS.iloadN X1.here hx rfl (hb hby d32_11) rfl ?_
      exact kt
    by_cases hc12_5 : p2 < p4
    · obtain ⟨hA, u, x, hU, hV, hE⟩ := hAa hc5_3 hc12_5
      have Vo6 := V_a3
      obtain ⟨cl6, Ar6, q6, Sz6, Nn6, Hh6, Gg6⟩ := Vo6
      have hin6 : ¬ (p2 < 0 ∨ cl6.slots.size ≤ (p2).toNatClampNeg) := inb_of Sz6 ⟨hk0, hA⟩
      have hat6 : cl6.slots[(p2).toNatClampNeg]? = some (.int x) := Has.at Hh6 hin6 hV
      have ia6 := State.isArrayOf_alike hZ.alike Ar6.2.1
      obtain ⟨cq7, kq7, q7a, q7b, q7c⟩ := isOf hZ e1 E_a1
      obtain ⟨_, _, ⟨T7, L7, kz7, nz7⟩, -, X7, ⟨Lc7, hQ7, l7, y7, z7⟩, st7⟩ := X1.virtualBack hx (y := y_6) (z := y_6) hown (mvT hZ (ww hw 183 rfl)) (mvT hZ (ww hw 184 rfl)) (notFace_of_selects (args := #[]) (mvT hZ (ww hw 186 rfl))) (mvT hZ (ww hw 186 rfl)) (mvT hZ (ww hw 185 rfl)) (by decide) (backOf (W := 0) (rm_cha l Z a0 hw [] a1 p2 t1 k1 z1 vs1 u zc fm h0 n0 (Nat.le_trans Z0 KC.1) O0 E_a1 F_value_a1 F_coder_a1 V_t1 S_CS hz S_FM hW_fm hk0 hc5_3 hU) hZ (ww hw 187 rfl) (ww hw 3 rfl) (by decide) (by decide)) q7a q7c (g := (mkF m 35 #[vr a1, vi p2, vr a3, vi p4, vr a5, vi x] [(.int p2), (.ref a1)])) rfl (by rw [hml]; rfl) (Steps.refl _) (argsL := [(.int p2)]) (rest := []) (lenOf pd_22 rfl) rfl (by show 2 * 0 + _ ≤ _; exact Nat.le_of_eq rfl) (hb hby d32_35) (fun _ _ => ⟨rfl, e1, (by decide : 0 + 0 ≤ _), (by decide : 0 + 0 ≤ _)⟩)
      dsimp only [Pt.U, Pt.locs, Pt.cells, Pt.slots] at X7 l7 y7 z7 st7 hQ7
      subst l7 y7 z7
      obtain ⟨rfl, N7q, e7⟩ := hQ7
      have N7 := Fr.app N1 N7q
      obtain ⟨fs, hr, hrun, hended, hW, hsame⟩ := X7.leave (v := some (.int (1 : Int32))) (fun h => by rw [Bd.returns] at h; cases h)
      refine ⟨_, _, pre4 _ ?_, hrun, hended, _, _, rfl, ?_, ⟨_, rfl⟩, hW, hsame.mono (by decide) (by decide)⟩
      · show SS p e below m T1 12 #[vr a1, vi p2, vr a3, vi p4, vr a5, un] [(.int p4), (.int p2)] _
        refine XS.icmpNo X1.here hx rfl (hb hby d32_12) rfl (tlt hc12_5).2.1 ?_
        show SS p e below m T1 15 #[vr a1, vi p2, vr a3, vi p4, vr a5, un] [] _
        refine XS.aloadN X1.here hx rfl (hb hby d32_15) rfl rfl ?_
        show SS p e below m T1 16 #[vr a1, vi p2, vr a3, vi p4, vr a5, un] [(.ref a3)] _
        refine XS.iloadN X1.here hx rfl (hb hby d32_16) rfl ?_
        show SS p e below m T1 17 #[vr a1, vi p2, vr a3, vi p4, vr a5, un] [(.int p2), (.ref a3)] _
        refine X1.caload hx (j := p2) (v := (.int x)) (by rw [e1]; exact Ar6.1) ia6 Ar6.2.2 hin6 hat6 (g := (mkF m 17 #[vr a1, vi p2, vr a3, vi p4, vr a5, un] [(.int p2), (.ref a3)])) rfl rfl (hb hby d32_17) _ ?_
        show SS p e below m T1 18 #[vr a1, vi p2, vr a3, vi p4, vr a5, un] [(.int x)] _
        refine XS.istore X1.here hx rfl (hb hby d32_18) rfl (l' := #[vr a1, vi p2, vr a3, vi p4, vr a5, vi x]) rfl ?_
        show SS p e below m T1 20 #[vr a1, vi p2, vr a3, vi p4, vr a5, vi x] [] _
        refine XS.goto X1.here hx rfl (pc0 := 20) (pc' := 33) rfl (hb hby d32_20) (by decide) (by decide) ?_
        show SS p e below m T1 33 #[vr a1, vi p2, vr a3, vi p4, vr a5, vi x] [] _
        refine XS.aloadN X1.here hx rfl (hb hby d32_33) rfl rfl ?_
        show SS p e below m T1 34 #[vr a1, vi p2, vr a3, vi p4, vr a5, vi x] [(.ref a1)] _
        refine XS.iloadN X1.here hx rfl (hb hby d32_34) rfl ?_
        show SS p e below m T1 35 #[vr a1, vi p2, vr a3, vi p4, vr a5, vi x] [(.int p2), (.ref a1)] _
        refine st7.trans ?_
        show SS p e below m T7 38 #[vr a1, vi p2, vr a3, vi p4, vr a5, vi x] [(.int (u &&& (255 : Int32)))] _
        refine XS.iload X7.here hx rfl (hb hby d32_38) rfl ?_
        show SS p e below m T7 40 #[vr a1, vi p2, vr a3, vi p4, vr a5, vi x] [(.int x), (.int (u &&& (255 : Int32)))] _
        refine XS.icmpNo X7.here hx rfl (hb hby d32_40) rfl (teq hE).2 ?_
        show SS p e below m T7 43 #[vr a1, vi p2, vr a3, vi p4, vr a5, vi x] [] _
        refine XS.iconst X7.here hx rfl (hb hby d32_43) ?_
        show SS p e below m T7 44 #[vr a1, vi p2, vr a3, vi p4, vr a5, vi x] [(.int (1 : Int32))] _
        refine XS.goto X7.here hx rfl (pc0 := 44) (pc' := 48) rfl (hb hby d32_44) (by decide) (by decide) ?_
        show SS p e below m T7 48 #[vr a1, vi p2, vr a3, vi p4, vr a5, vi x] [(.int (1 : Int32))] _
        exact retN X7 hx (t := .boolean) Bd.returns (by simp) (hb hby d32_48) hr
      · show Q_rm_at Z a1 p2 a3 p4 a5 t1 k1 z1 vs1 kb zb vsb t5 k5 z5 vs5 zc fm h0 n0 _ T7.heap _
        rw [e7]
        exact ⟨rfl, N7, rfl⟩
    · obtain ⟨hA, hB, u, hU, hV⟩ := hAb hc5_3 hc12_5
      obtain ⟨cq8, kq8, q8a, q8b, q8c⟩ := isOf hZ e1 E_a5
      obtain ⟨_, _, ⟨T8, L8, kz8, nz8⟩, -, X8, ⟨Lc8, hQ8, l8, y8, z8⟩, st8⟩ := X1.virtualBack hx (y := y_6) (z := y_6) hown (mvT hZ (ww hw 183 rfl)) (mvT hZ (ww hw 184 rfl)) (notFace_of_selects (args := #[]) (mvT hZ (ww hw 186 rfl))) (mvT hZ (ww hw 186 rfl)) (mvT hZ (ww hw 185 rfl)) (by decide) (backOf (W := 0) (rm_cha l Z a0 hw [] a5 (p2 - p4) t5 k5 z5 vs5 u zc fm h0 n0 (Nat.le_trans Z0 KC.1) O0 E_a5 F_value_a5 F_coder_a5 V_t5 S_CS hz S_FM hW_fm hA hB hV) hZ (ww hw 187 rfl) (ww hw 3 rfl) (by decide) (by decide)) q8a q8c (g := (mkF m 28 #[vr a1, vi p2, vr a3, vi p4, vr a5, un] [(.int (p2 - p4)), (.ref a5)])) rfl (by rw [hml]; rfl) (Steps.refl _) (argsL := [(.int (p2 - p4))]) (rest := []) (lenOf pd_22 rfl) rfl (by show 2 * 0 + _ ≤ _; exact Nat.le_of_eq rfl) (hb hby d32_28) (fun _ _ => ⟨rfl, e1, (by decide : 0 + 0 ≤ _), (by decide : 0 + 0 ≤ _)⟩)
      dsimp only [Pt.U, Pt.locs, Pt.cells, Pt.slots] at X8 l8 y8 z8 st8 hQ8
      subst l8 y8 z8
      obtain ⟨rfl, N8q, e8⟩ := hQ8
      have N8 := Fr.app N1 N8q
      obtain ⟨cq9, kq9, q9a, q9b, q9c⟩ := isOf hZ e8 E_a1
      obtain ⟨_, _, ⟨T9, L9, kz9, nz9⟩, -, X9, ⟨Lc9, hQ9, l9, y9, z9⟩, st9⟩ := X8.virtualBack hx (y := y_6) (z := y_6) hown (mvT hZ (ww hw 183 rfl)) (mvT hZ (ww hw 184 rfl)) (notFace_of_selects (args := #[]) (mvT hZ (ww hw 186 rfl))) (mvT hZ (ww hw 186 rfl)) (mvT hZ (ww hw 185 rfl)) (by decide) (backOf (W := 0) (rm_cha l Z a0 hw [] a1 p2 t1 k1 z1 vs1 u zc fm h0 n0 (Nat.le_trans Z0 KC.1) O0 E_a1 F_value_a1 F_coder_a1 V_t1 S_CS hz S_FM hW_fm hk0 hc5_3 hU) hZ (ww hw 187 rfl) (ww hw 3 rfl) (by decide) (by decide)) q9a q9c (g := (mkF m 35 #[vr a1, vi p2, vr a3, vi p4, vr a5, vi (u &&& (255 : Int32))] [(.int p2), (.ref a1)])) rfl (by rw [hml]; rfl) (Steps.refl _) (argsL := [(.int p2)]) (rest := []) (lenOf pd_22 rfl) rfl (by show 2 * 0 + _ ≤ _; exact Nat.le_of_eq rfl) (hb hby d32_35) (fun _ _ => ⟨rfl, e8, (by decide : 0 + 0 ≤ _), (by decide : 0 + 0 ≤ _)⟩)
      dsimp only [Pt.U, Pt.locs, Pt.cells, Pt.slots] at X9 l9 y9 z9 st9 hQ9
      subst l9 y9 z9
      obtain ⟨rfl, N9q, e9⟩ := hQ9
      have N9 := Fr.app N8 N9q
      obtain ⟨fs, hr, hrun, hended, hW, hsame⟩ := X9.leave (v := some (.int (1 : Int32))) (fun h => by rw [Bd.returns] at h; cases h)
      refine ⟨_, _, pre4 _ ?_, hrun, hended, _, _, rfl, ?_, ⟨_, rfl⟩, hW, hsame.mono (by decide) (by decide)⟩
      · show SS p e below m T1 12 #[vr a1, vi p2, vr a3, vi p4, vr a5, un] [(.int p4), (.int p2)] _
        refine XS.icmpYes X1.here hx rfl (pc0 := 12) (pc' := 23) rfl (hb hby d32_12) rfl (flt hc12_5).2.1 (by decide) (by decide) ?_
        show SS p e below m T1 23 #[vr a1, vi p2, vr a3, vi p4, vr a5, un] [] _
        refine XS.aload X1.here hx rfl (hb hby d32_23) rfl rfl ?_
        show SS p e below m T1 25 #[vr a1, vi p2, vr a3, vi p4, vr a5, un] [(.ref a5)] _
        refine XS.iloadN X1.here hx rfl (hb hby d32_25) rfl ?_
        show SS p e below m T1 26 #[vr a1, vi p2, vr a3, vi p4, vr a5, un] [(.int p2), (.ref a5)] _
        refine XS.iloadN X1.here hx rfl (hb hby d32_26) rfl ?_
        show SS p e below m T1 27 #[vr a1, vi p2, vr a3, vi p4, vr a5, un] [(.int p4), (.int p2), (.ref a5)] _
        refine XS.isub X1.here hx rfl (hb hby d32_27) rfl ?_
        show SS p e below m T1 28 #[vr a1, vi p2, vr a3, vi p4, vr a5, un] [(.int (p2 - p4)), (.ref a5)] _
        refine st8.trans ?_
        show SS p e below m T8 31 #[vr a1, vi p2, vr a3, vi p4, vr a5, un] [(.int (u &&& (255 : Int32)))] _
        refine XS.istore X8.here hx rfl (hb hby d32_31) rfl (l' := #[vr a1, vi p2, vr a3, vi p4, vr a5, vi (u &&& (255 : Int32))]) rfl ?_
        show SS p e below m T8 33 #[vr a1, vi p2, vr a3, vi p4, vr a5, vi (u &&& (255 : Int32))] [] _
        refine XS.aloadN X8.here hx rfl (hb hby d32_33) rfl rfl ?_
        show SS p e below m T8 34 #[vr a1, vi p2, vr a3, vi p4, vr a5, vi (u &&& (255 : Int32))] [(.ref a1)] _
        refine XS.iloadN X8.here hx rfl (hb hby d32_34) rfl ?_
        show SS p e below m T8 35 #[vr a1, vi p2, vr a3, vi p4, vr a5, vi (u &&& (255 : Int32))] [(.int p2), (.ref a1)] _
        refine st9.trans ?_
        show SS p e below m T9 38 #[vr a1, vi p2, vr a3, vi p4, vr a5, vi (u &&& (255 : Int32))] [(.int (u &&& (255 : Int32)))] _
        refine XS.iload X9.here hx rfl (hb hby d32_38) rfl ?_
        show SS p e below m T9 40 #[vr a1, vi p2, vr a3, vi p4, vr a5, vi (u &&& (255 : Int32))] [(.int (u &&& (255 : Int32))), (.int (u &&& (255 : Int32)))] _
        refine XS.icmpNo X9.here hx rfl (hb hby d32_40) rfl (teq rfl).2 ?_
        show SS p e below m T9 43 #[vr a1, vi p2, vr a3, vi p4, vr a5, vi (u &&& (255 : Int32))] [] _
        refine XS.iconst X9.here hx rfl (hb hby d32_43) ?_
        show SS p e below m T9 44 #[vr a1, vi p2, vr a3, vi p4, vr a5, vi (u &&& (255 : Int32))] [(.int (1 : Int32))] _
        refine XS.goto X9.here hx rfl (pc0 := 44) (pc' := 48) rfl (hb hby d32_44) (by decide) (by decide) ?_
        show SS p e below m T9 48 #[vr a1, vi p2, vr a3, vi p4, vr a5, vi (u &&& (255 : Int32))] [(.int (1 : Int32))] _
        exact retN X9 hx (t := .boolean) Bd.returns (by simp) (hb hby d32_48) hr
      · show Q_rm_at Z a1 p2 a3 p4 a5 t1 k1 z1 vs1 kb zb vsb t5 k5 z5 vs5 zc fm h0 n0 _ T9.heap _
        rw [e9]
        exact ⟨rfl, N9, rfl⟩
  · obtain ⟨fs, hr, hrun, hended, hW, hsame⟩ := X1.leave (v := some (.int (1 : Int32))) (fun h => by rw [Bd.returns] at h; cases h)
    refine ⟨_, _, pre2 _ ?_, hrun, hended, _, _, rfl, ?_, ⟨_, rfl⟩, hW, hsame.mono (by decide) (by decide)⟩
    · show SS p e below m T1 5 #[vr a1, vi p2, vr a3, vi p4, vr a5, un] [(.int z1), (.int p2)] _
      refine XS.icmpNo X1.here hx rfl (hb hby d32_5) rfl (flt hc5_3).1 ?_
      show SS p e below m T1 8 #[vr a1, vi p2, vr a3, vi p4, vr a5, un] [] _
      refine XS.iconst X1.here hx rfl (hb hby d32_8) ?_
      show SS p e below m T1 9 #[vr a1, vi p2, vr a3, vi p4, vr a5, un] [(.int (1 : Int32))] _
      exact retN X1 hx (t := .boolean) Bd.returns (by simp) (hb hby d32_9) hr
    · show Q_rm_at Z a1 p2 a3 p4 a5 t1 k1 z1 vs1 kb zb vsb t5 k5 z5 vs5 zc fm h0 n0 _ T1.heap _
      rw [e1]
      exact ⟨rfl, N1, rfl⟩
theorem pd_23 : parseMethodDescriptor "(Ljava/lang/String;I[CILjava/lang/String;)Z" = some ⟨[(.object "java/lang/String"), .int, (.array .char), .int, (.object "java/lang/String")], some .boolean⟩ := by decide +kernel
theorem d31_0 : decode method_4_code 0 = .ok (.aload_n 0, 1) := by decide +kernel
theorem d31_1 : decode method_4_code 1 = .ok (.ifnull 16, 3) := by decide +kernel
theorem d31_4 : decode method_4_code 4 = .ok (.aload_n 0, 1) := by decide +kernel
theorem d31_5 : decode method_4_code 5 = .ok (.invokevirtual 44, 3) := by decide +kernel
theorem d31_8 : decode method_4_code 8 = .ok (.iload_n 2, 1) := by decide +kernel
theorem d31_9 : decode method_4_code 9 = .ok (.aload_n 3, 1) := by decide +kernel
theorem d31_10 : decode method_4_code 10 = .ok (.invokevirtual 44, 3) := by decide +kernel
theorem d31_13 : decode method_4_code 13 = .ok (.iadd, 1) := by decide +kernel
theorem d31_14 : decode method_4_code 14 = .ok (.if_icmp .eq 5, 3) := by decide +kernel
theorem d31_19 : decode method_4_code 19 = .ok (.aload_n 0, 1) := by decide +kernel
theorem d31_20 : decode method_4_code 20 = .ok (.iconst 0, 1) := by decide +kernel
theorem d31_21 : decode method_4_code 21 = .ok (.aload_n 1, 1) := by decide +kernel
theorem d31_22 : decode method_4_code 22 = .ok (.iload_n 2, 1) := by decide +kernel
theorem d31_23 : decode method_4_code 23 = .ok (.aload_n 3, 1) := by decide +kernel
theorem d31_24 : decode method_4_code 24 = .ok (.invokestatic 48, 3) := by decide +kernel
theorem d31_27 : decode method_4_code 27 = .ok (.ifCond .eq 170, 3) := by decide +kernel
theorem d31_30 : decode method_4_code 30 = .ok (.aload_n 0, 1) := by decide +kernel
theorem d31_31 : decode method_4_code 31 = .ok (.iconst 1, 1) := by decide +kernel
theorem d31_32 : decode method_4_code 32 = .ok (.aload_n 1, 1) := by decide +kernel
theorem d31_33 : decode method_4_code 33 = .ok (.iload_n 2, 1) := by decide +kernel
theorem d31_34 : decode method_4_code 34 = .ok (.aload_n 3, 1) := by decide +kernel
theorem d31_35 : decode method_4_code 35 = .ok (.invokestatic 48, 3) := by decide +kernel
theorem d31_38 : decode method_4_code 38 = .ok (.ifCond .eq 159, 3) := by decide +kernel
theorem d31_41 : decode method_4_code 41 = .ok (.aload_n 0, 1) := by decide +kernel
theorem d31_42 : decode method_4_code 42 = .ok (.iconst 2, 1) := by decide +kernel
theorem d31_43 : decode method_4_code 43 = .ok (.aload_n 1, 1) := by decide +kernel
theorem d31_44 : decode method_4_code 44 = .ok (.iload_n 2, 1) := by decide +kernel
theorem d31_45 : decode method_4_code 45 = .ok (.aload_n 3, 1) := by decide +kernel
theorem d31_46 : decode method_4_code 46 = .ok (.invokestatic 48, 3) := by decide +kernel
theorem d31_49 : decode method_4_code 49 = .ok (.ifCond .eq 148, 3) := by decide +kernel
theorem d31_52 : decode method_4_code 52 = .ok (.aload_n 0, 1) := by decide +kernel
theorem d31_53 : decode method_4_code 53 = .ok (.iconst 3, 1) := by decide +kernel
theorem d31_54 : decode method_4_code 54 = .ok (.aload_n 1, 1) := by decide +kernel
theorem d31_55 : decode method_4_code 55 = .ok (.iload_n 2, 1) := by decide +kernel
theorem d31_56 : decode method_4_code 56 = .ok (.aload_n 3, 1) := by decide +kernel
theorem d31_57 : decode method_4_code 57 = .ok (.invokestatic 48, 3) := by decide +kernel
theorem d31_60 : decode method_4_code 60 = .ok (.ifCond .eq 137, 3) := by decide +kernel
theorem d31_63 : decode method_4_code 63 = .ok (.aload_n 0, 1) := by decide +kernel
theorem d31_64 : decode method_4_code 64 = .ok (.iconst 4, 1) := by decide +kernel
theorem d31_65 : decode method_4_code 65 = .ok (.aload_n 1, 1) := by decide +kernel
theorem d31_66 : decode method_4_code 66 = .ok (.iload_n 2, 1) := by decide +kernel
theorem d31_67 : decode method_4_code 67 = .ok (.aload_n 3, 1) := by decide +kernel
theorem d31_68 : decode method_4_code 68 = .ok (.invokestatic 48, 3) := by decide +kernel
theorem d31_71 : decode method_4_code 71 = .ok (.ifCond .eq 126, 3) := by decide +kernel
theorem d31_74 : decode method_4_code 74 = .ok (.aload_n 0, 1) := by decide +kernel
theorem d31_75 : decode method_4_code 75 = .ok (.iconst 5, 1) := by decide +kernel
theorem d31_76 : decode method_4_code 76 = .ok (.aload_n 1, 1) := by decide +kernel
theorem d31_77 : decode method_4_code 77 = .ok (.iload_n 2, 1) := by decide +kernel
theorem d31_78 : decode method_4_code 78 = .ok (.aload_n 3, 1) := by decide +kernel
theorem d31_79 : decode method_4_code 79 = .ok (.invokestatic 48, 3) := by decide +kernel
theorem d31_82 : decode method_4_code 82 = .ok (.ifCond .eq 115, 3) := by decide +kernel
theorem d31_85 : decode method_4_code 85 = .ok (.aload_n 0, 1) := by decide +kernel
theorem d31_86 : decode method_4_code 86 = .ok (.bipush 6, 2) := by decide +kernel
theorem d31_88 : decode method_4_code 88 = .ok (.aload_n 1, 1) := by decide +kernel
theorem d31_89 : decode method_4_code 89 = .ok (.iload_n 2, 1) := by decide +kernel
theorem d31_90 : decode method_4_code 90 = .ok (.aload_n 3, 1) := by decide +kernel
theorem d31_91 : decode method_4_code 91 = .ok (.invokestatic 48, 3) := by decide +kernel
theorem d31_94 : decode method_4_code 94 = .ok (.ifCond .eq 103, 3) := by decide +kernel
theorem d31_97 : decode method_4_code 97 = .ok (.aload_n 0, 1) := by decide +kernel
theorem d31_98 : decode method_4_code 98 = .ok (.bipush 7, 2) := by decide +kernel
theorem d31_100 : decode method_4_code 100 = .ok (.aload_n 1, 1) := by decide +kernel
theorem d31_101 : decode method_4_code 101 = .ok (.iload_n 2, 1) := by decide +kernel
theorem d31_102 : decode method_4_code 102 = .ok (.aload_n 3, 1) := by decide +kernel
theorem d31_103 : decode method_4_code 103 = .ok (.invokestatic 48, 3) := by decide +kernel
theorem d31_106 : decode method_4_code 106 = .ok (.ifCond .eq 91, 3) := by decide +kernel
theorem d31_109 : decode method_4_code 109 = .ok (.aload_n 0, 1) := by decide +kernel
theorem d31_110 : decode method_4_code 110 = .ok (.bipush 8, 2) := by decide +kernel
theorem d31_112 : decode method_4_code 112 = .ok (.aload_n 1, 1) := by decide +kernel
theorem d31_113 : decode method_4_code 113 = .ok (.iload_n 2, 1) := by decide +kernel
theorem d31_114 : decode method_4_code 114 = .ok (.aload_n 3, 1) := by decide +kernel
theorem d31_115 : decode method_4_code 115 = .ok (.invokestatic 48, 3) := by decide +kernel
theorem d31_118 : decode method_4_code 118 = .ok (.ifCond .eq 79, 3) := by decide +kernel
theorem d31_121 : decode method_4_code 121 = .ok (.aload_n 0, 1) := by decide +kernel
theorem d31_122 : decode method_4_code 122 = .ok (.bipush 9, 2) := by decide +kernel
theorem d31_124 : decode method_4_code 124 = .ok (.aload_n 1, 1) := by decide +kernel
theorem d31_125 : decode method_4_code 125 = .ok (.iload_n 2, 1) := by decide +kernel
theorem d31_126 : decode method_4_code 126 = .ok (.aload_n 3, 1) := by decide +kernel
theorem d31_127 : decode method_4_code 127 = .ok (.invokestatic 48, 3) := by decide +kernel
theorem d31_130 : decode method_4_code 130 = .ok (.ifCond .eq 67, 3) := by decide +kernel
theorem d31_133 : decode method_4_code 133 = .ok (.aload_n 0, 1) := by decide +kernel
theorem d31_134 : decode method_4_code 134 = .ok (.bipush 10, 2) := by decide +kernel
theorem d31_136 : decode method_4_code 136 = .ok (.aload_n 1, 1) := by decide +kernel
theorem d31_137 : decode method_4_code 137 = .ok (.iload_n 2, 1) := by decide +kernel
theorem d31_138 : decode method_4_code 138 = .ok (.aload_n 3, 1) := by decide +kernel
theorem d31_139 : decode method_4_code 139 = .ok (.invokestatic 48, 3) := by decide +kernel
theorem d31_142 : decode method_4_code 142 = .ok (.ifCond .eq 55, 3) := by decide +kernel
theorem d31_145 : decode method_4_code 145 = .ok (.aload_n 0, 1) := by decide +kernel
theorem d31_146 : decode method_4_code 146 = .ok (.bipush 11, 2) := by decide +kernel
theorem d31_148 : decode method_4_code 148 = .ok (.aload_n 1, 1) := by decide +kernel
theorem d31_149 : decode method_4_code 149 = .ok (.iload_n 2, 1) := by decide +kernel
theorem d31_150 : decode method_4_code 150 = .ok (.aload_n 3, 1) := by decide +kernel
theorem d31_151 : decode method_4_code 151 = .ok (.invokestatic 48, 3) := by decide +kernel
theorem d31_154 : decode method_4_code 154 = .ok (.ifCond .eq 43, 3) := by decide +kernel
theorem d31_157 : decode method_4_code 157 = .ok (.aload_n 0, 1) := by decide +kernel
theorem d31_158 : decode method_4_code 158 = .ok (.bipush 12, 2) := by decide +kernel
theorem d31_160 : decode method_4_code 160 = .ok (.aload_n 1, 1) := by decide +kernel
theorem d31_161 : decode method_4_code 161 = .ok (.iload_n 2, 1) := by decide +kernel
theorem d31_162 : decode method_4_code 162 = .ok (.aload_n 3, 1) := by decide +kernel
theorem d31_163 : decode method_4_code 163 = .ok (.invokestatic 48, 3) := by decide +kernel
theorem d31_166 : decode method_4_code 166 = .ok (.ifCond .eq 31, 3) := by decide +kernel
theorem d31_169 : decode method_4_code 169 = .ok (.aload_n 0, 1) := by decide +kernel
theorem d31_170 : decode method_4_code 170 = .ok (.bipush 13, 2) := by decide +kernel
theorem d31_172 : decode method_4_code 172 = .ok (.aload_n 1, 1) := by decide +kernel
theorem d31_173 : decode method_4_code 173 = .ok (.iload_n 2, 1) := by decide +kernel
theorem d31_174 : decode method_4_code 174 = .ok (.aload_n 3, 1) := by decide +kernel
theorem d31_175 : decode method_4_code 175 = .ok (.invokestatic 48, 3) := by decide +kernel
theorem d31_178 : decode method_4_code 178 = .ok (.ifCond .eq 19, 3) := by decide +kernel
theorem d31_181 : decode method_4_code 181 = .ok (.aload_n 0, 1) := by decide +kernel
theorem d31_182 : decode method_4_code 182 = .ok (.bipush 14, 2) := by decide +kernel
theorem d31_184 : decode method_4_code 184 = .ok (.aload_n 1, 1) := by decide +kernel
theorem d31_185 : decode method_4_code 185 = .ok (.iload_n 2, 1) := by decide +kernel
theorem d31_186 : decode method_4_code 186 = .ok (.aload_n 3, 1) := by decide +kernel
theorem d31_187 : decode method_4_code 187 = .ok (.invokestatic 48, 3) := by decide +kernel
theorem d31_190 : decode method_4_code 190 = .ok (.ifCond .eq 7, 3) := by decide +kernel
theorem d31_193 : decode method_4_code 193 = .ok (.iconst 1, 1) := by decide +kernel
theorem d31_194 : decode method_4_code 194 = .ok (.goto 4, 3) := by decide +kernel
theorem d31_198 : decode method_4_code 198 = .ok (.ireturn, 1) := by decide +kernel
theorem ef_rm_mat (m : MethodId) (x0 : Addr) (x1 : Addr) (x2 : Int32) (x3 : Addr) : entryFrame m #[(.ref x0), (.ref x1), (.int x2), (.ref x3)] 4 = mkF m 0 #[vr x0, vr x1, vi x2, vr x3] [] := by first | (simp [entryFrame, mkF, argsToLocals, Value.category]; done) | rfl
def Q_rm_mat (Z : State) (a1 : Addr) (a2 : Addr) (p3 : Int32) (a4 : Addr) (t1 : Addr) (k1 : ClassId) (z1 : Int32) (vs1 : List Value) (kb : ClassId) (zb : Int32) (vsb : List Value) (t5 : Addr) (k5 : ClassId) (z5 : Int32) (vs5 : List Value) (zc : Int32) (fm : Value) (h0 : Heap) (n0 : Nat) (v : Option Value) (h : Heap) (L : List Loc) : Prop := (v = some (.int (1 : Int32))) ∧ (Fr n0 L) ∧ (h = h0)
set_option maxRecDepth 65536 in
set_option maxHeartbeats 40000000 in
theorem rm_mat (l : Launch) (Z : State) (a0 : Array Value) (hw : ∀ d ∈ tables_1, d.before a0 Z = true) (ws : List Jvm.Cond) (a1 : Addr) (a2 : Addr) (p3 : Int32) (a4 : Addr) (t1 : Addr) (k1 : ClassId) (z1 : Int32) (vs1 : List Value) (kb : ClassId) (zb : Int32) (vsb : List Value) (t5 : Addr) (k5 : ClassId) (z5 : Int32) (vs5 : List Value) (zc : Int32) (fm : Value) (h0 : Heap) (n0 : Nat) (Z0 : n0 ≤ h0.size) (O0 : Old Z n0 h0) (E_a1 : Exa Z h0 a1 "java/lang/String") (F_value_a1 : Fld Z h0 a1 "java/lang/String" "value" "[B" (.ref t1)) (F_coder_a1 : Fld Z h0 a1 "java/lang/String" "coder" "B" (.int (0 : Int32))) (V_t1 : Arv Z h0 t1 k1 .byte z1 vs1 (.int (0 : Int32))) (V_a2 : Arv Z h0 a2 kb .char zb vsb (.int (0 : Int32))) (E_a4 : Exa Z h0 a4 "java/lang/String") (F_value_a4 : Fld Z h0 a4 "java/lang/String" "value" "[B" (.ref t5)) (F_coder_a4 : Fld Z h0 a4 "java/lang/String" "coder" "B" (.int (0 : Int32))) (V_t5 : Arv Z h0 t5 k5 .byte z5 vs5 (.int (0 : Int32))) (S_CS : Sta Z Z.heap "java/lang/String" "COMPACT_STRINGS" "Z" (.int zc)) (hz : ¬ zc = (0 : Int32)) (S_FM : Sta Z Z.heap "jdk/internal/util/Preconditions" "SIOOBE_FORMATTER" "Ljava/util/function/BiFunction;" fm) (hW_fm : fm.isRef = true) (hL : p3 + z5 = z1) (hMa : ∀ kk : Int32, ¬ kk < (0 : Int32) → kk < z1 → kk < p3 → kk < zb ∧ ∃ u x : Int32, vs1.getD kk.toNatClampNeg (.int (0 : Int32)) = .int u ∧ vsb.getD kk.toNatClampNeg (.int (0 : Int32)) = .int x ∧ (u &&& (255 : Int32)) = x) (hMb : ∀ kk : Int32, ¬ kk < (0 : Int32) → kk < z1 → ¬ kk < p3 → ¬ (kk - p3) < (0 : Int32) ∧ (kk - p3) < z5 ∧ ∃ u : Int32, vs1.getD kk.toNatClampNeg (.int (0 : Int32)) = .int u ∧ vs5.getD (kk - p3).toNatClampNeg (.int (0 : Int32)) = .int u) :
    MetFree l y_36 (head1 (Jvm.Cond.code y_36 method_4_code 4 (some .boolean) :: ws) ({ frames := 5, cells := 0, slots := 0, locals := 70 } : Room)) (fun a U => a = #[(.ref a1), (.ref a2), (.int p3), (.ref a4)] ∧ Z.Warmed39 U.vm ∧ U.heap = h0) (fun _ _ _ _ _ => True) (fun _ U o U' => ∃ v L, o = .returned v ∧ Q_rm_mat Z a1 a2 p3 a4 t1 k1 z1 vs1 kb zb vsb t5 k5 z5 vs5 zc fm h0 n0 v U'.heap L ∧ FrameEnd U o U' L ({ frames := 5, cells := 0, slots := 0, locals := 70 } : Room).cells ({ frames := 5, cells := 0, slots := 0, locals := 70 } : Room).slots) := by
  refine MetFree.of_bodySF (plainFor_of_name pn_9) hisR ?_
  intro p e s m args below meth c s₁ Bd hml0 hP hK
  obtain ⟨rfl, hZ, hh⟩ := hP
  have hx := Bd.exec
  have hby := Bd.bytes
  have hml : c.maxLocals = 4 := hml0
  have hown : s.vm.findClass "com/example/federant/federant/saml/HubEndpointsUnderPinLaw" = some m.cls := findClass_of_methodNamed Bd.named
  have hnm := (name_of_methodNamed Bd.named Bd.method).1
  have X0 : Stand p l e ({ frames := 5, cells := 0, slots := 0, locals := 70 } : Room) s m #[(.ref a1), (.ref a2), (.int p3), (.ref a4)] below meth c s₁ [] 0 0 := Stand.of_body Bd
  have e0 : s₁.heap = h0 := by rw [← hh, Bd.state]; rfl
  have N0 := Fr.nil n0
  have KC : Keep h0 h0 [] := Keep.refl h0 _
  have pre0 : ∀ t, Steps p.tables e below (s₁.setTop (mkF m 0 #[vr a1, vr a2, vi p3, vr a4] [])) t → Steps p.tables e below (s₁.setTop (entryFrame m #[(.ref a1), (.ref a2), (.int p3), (.ref a4)] 4)) t := fun t k => castTop (ef_rm_mat m a1 a2 p3 a4) k
  obtain ⟨cq1, kq1, q1a, q1b, q1c⟩ := isOf hZ e0 E_a1
  obtain ⟨_, _, ⟨T1, L1, kz1, nz1⟩, -, X1, ⟨Lc1, hQ1, l1, y1, z1⟩, st1⟩ := X0.virtualBack hx (y := y_1) (z := y_1) hown (mvT hZ (ww hw 179 rfl)) (mvT hZ (ww hw 33 rfl)) (notFace_of_selects (args := #[]) (mvT hZ (ww hw 35 rfl))) (mvT hZ (ww hw 35 rfl)) (mvT hZ (ww hw 34 rfl)) (by decide) (backOf (W := 0) (rm_length l Z a0 hw [] a1 t1 k1 z1 vs1 zc h0 n0 (Nat.le_trans Z0 KC.1) O0 E_a1 F_value_a1 F_coder_a1 V_t1 S_CS hz) hZ (ww hw 36 rfl) (ww hw 3 rfl) (by decide) (by decide)) q1a q1c (g := (mkF m 5 #[vr a1, vr a2, vi p3, vr a4] [(.ref a1)])) rfl (by rw [hml]; rfl) (Steps.refl _) (argsL := []) (rest := []) (lenOf pd_8 rfl) rfl (by show 2 * 0 + _ ≤ _; exact Nat.le_of_eq rfl) (hb hby d31_5) (fun _ _ => ⟨rfl, e0, (by decide : 0 + 0 ≤ _), (by decide : 0 + 0 ≤ _)⟩)
  dsimp only [Pt.U, Pt.locs, Pt.cells, Pt.slots] at X1 l1 y1 z1 st1 hQ1
  subst l1 y1 z1
  obtain ⟨rfl, N1q, e1⟩ := hQ1
  have N1 := Fr.app N0 N1q
  obtain ⟨cq2, kq2, q2a, q2b, q2c⟩ := isOf hZ e1 E_a4
  obtain ⟨_, _, ⟨T2, L2, kz2, nz2⟩, -, X2, ⟨Lc2, hQ2, l2, y2, z2⟩, st2⟩ := X1.virtualBack hx (y := y_1) (z := y_1) hown (mvT hZ (ww hw 179 rfl)) (mvT hZ (ww hw 33 rfl)) (notFace_of_selects (args := #[]) (mvT hZ (ww hw 35 rfl))) (mvT hZ (ww hw 35 rfl)) (mvT hZ (ww hw 34 rfl)) (by decide) (backOf (W := 2) (rm_length l Z a0 hw [] a4 t5 k5 z5 vs5 zc h0 n0 (Nat.le_trans Z0 KC.1) O0 E_a4 F_value_a4 F_coder_a4 V_t5 S_CS hz) hZ (ww hw 36 rfl) (ww hw 3 rfl) (by decide) (by decide)) q2a q2c (g := (mkF m 10 #[vr a1, vr a2, vi p3, vr a4] [(.ref a4), (.int p3), (.int z1)])) rfl (by rw [hml]; rfl) (Steps.refl _) (argsL := []) (rest := [(.int p3), (.int z1)]) (lenOf pd_8 rfl) rfl (by show 2 * 0 + _ ≤ _; exact Nat.le_of_eq rfl) (hb hby d31_10) (fun _ _ => ⟨rfl, e1, (by decide : 0 + 0 ≤ _), (by decide : 0 + 0 ≤ _)⟩)
  dsimp only [Pt.U, Pt.locs, Pt.cells, Pt.slots] at X2 l2 y2 z2 st2 hQ2
  subst l2 y2 z2
  obtain ⟨rfl, N2q, e2⟩ := hQ2
  have N2 := Fr.app N1 N2q
  obtain ⟨_, _, ⟨T3, L3, kz3, nz3⟩, -, X3, ⟨Lc3, hQ3, l3, y3, z3⟩, st3⟩ := Jvm.LawKit.callS X2 hx (y := y_35) hown (mvT hZ (ww hw 180 rfl)) (mvT hZ (ww hw 181 rfl)) (mvT hZ (ww hw 177 rfl)) (mvT hZ (ww hw 182 rfl)) (by decide) (backOf (W := 0) (rm_at l Z a0 hw [] a1 (0 : Int32) a2 p3 a4 t1 k1 z1 vs1 kb zb vsb t5 k5 z5 vs5 zc fm h0 n0 (Nat.le_trans Z0 KC.1) O0 E_a1 F_value_a1 F_coder_a1 V_t1 V_a2 E_a4 F_value_a4 F_coder_a4 V_t5 S_CS hz S_FM hW_fm (by decide) (hMa (0 : Int32) (by decide)) (hMb (0 : Int32) (by decide))) hZ (ww hw 182 rfl) (ww hw 177 rfl) (by decide) (by decide)) (g := (mkF m 24 #[vr a1, vr a2, vi p3, vr a4] [(.ref a4), (.int p3), (.ref a2), (.int (0 : Int32)), (.ref a1)])) rfl (by rw [hml]; rfl) (argsL := [(.ref a1), (.int (0 : Int32)), (.ref a2), (.int p3), (.ref a4)]) (rest := []) (lenOf pd_23 rfl) rfl (by show 2 * 0 + _ ≤ _; exact Nat.le_of_eq rfl) (hb hby d31_24) (fun _ _ => ⟨rfl, e2, (by decide : 0 + 0 ≤ _), (by decide : 0 + 0 ≤ _)⟩)
  dsimp only [Pt.U, Pt.locs, Pt.cells, Pt.slots] at X3 l3 y3 z3 st3 hQ3
  subst l3 y3 z3
  obtain ⟨rfl, N3q, e3⟩ := hQ3
  have N3 := Fr.app N2 N3q
  obtain ⟨_, _, ⟨T4, L4, kz4, nz4⟩, -, X4, ⟨Lc4, hQ4, l4, y4, z4⟩, st4⟩ := Jvm.LawKit.callS X3 hx (y := y_35) hown (mvT hZ (ww hw 180 rfl)) (mvT hZ (ww hw 181 rfl)) (mvT hZ (ww hw 177 rfl)) (mvT hZ (ww hw 182 rfl)) (by decide) (backOf (W := 0) (rm_at l Z a0 hw [] a1 (1 : Int32) a2 p3 a4 t1 k1 z1 vs1 kb zb vsb t5 k5 z5 vs5 zc fm h0 n0 (Nat.le_trans Z0 KC.1) O0 E_a1 F_value_a1 F_coder_a1 V_t1 V_a2 E_a4 F_value_a4 F_coder_a4 V_t5 S_CS hz S_FM hW_fm (by decide) (hMa (1 : Int32) (by decide)) (hMb (1 : Int32) (by decide))) hZ (ww hw 182 rfl) (ww hw 177 rfl) (by decide) (by decide)) (g := (mkF m 35 #[vr a1, vr a2, vi p3, vr a4] [(.ref a4), (.int p3), (.ref a2), (.int (1 : Int32)), (.ref a1)])) rfl (by rw [hml]; rfl) (argsL := [(.ref a1), (.int (1 : Int32)), (.ref a2), (.int p3), (.ref a4)]) (rest := []) (lenOf pd_23 rfl) rfl (by show 2 * 0 + _ ≤ _; exact Nat.le_of_eq rfl) (hb hby d31_35) (fun _ _ => ⟨rfl, e3, (by decide : 0 + 0 ≤ _), (by decide : 0 + 0 ≤ _)⟩)
  dsimp only [Pt.U, Pt.locs, Pt.cells, Pt.slots] at X4 l4 y4 z4 st4 hQ4
  subst l4 y4 z4
  obtain ⟨rfl, N4q, e4⟩ := hQ4
  have N4 := Fr.app N3 N4q
  obtain ⟨_, _, ⟨T5, L5, kz5, nz5⟩, -, X5, ⟨Lc5, hQ5, l5, y5, z5⟩, st5⟩ := Jvm.LawKit.callS X4 hx (y := y_35) hown (mvT hZ (ww hw 180 rfl)) (mvT hZ (ww hw 181 rfl)) (mvT hZ (ww hw 177 rfl)) (mvT hZ (ww hw 182 rfl)) (by decide) (backOf (W := 0) (rm_at l Z a0 hw [] a1 (2 : Int32) a2 p3 a4 t1 k1 z1 vs1 kb zb vsb t5 k5 z5 vs5 zc fm h0 n0 (Nat.le_trans Z0 KC.1) O0 E_a1 F_value_a1 F_coder_a1 V_t1 V_a2 E_a4 F_value_a4 F_coder_a4 V_t5 S_CS hz S_FM hW_fm (by decide) (hMa (2 : Int32) (by decide)) (hMb (2 : Int32) (by decide))) hZ (ww hw 182 rfl) (ww hw 177 rfl) (by decide) (by decide)) (g := (mkF m 46 #[vr a1, vr a2, vi p3, vr a4] [(.ref a4), (.int p3), (.ref a2), (.int (2 : Int32)), (.ref a1)])) rfl (by rw [hml]; rfl) (argsL := [(.ref a1), (.int (2 : Int32)), (.ref a2), (.int p3), (.ref a4)]) (rest := []) (lenOf pd_23 rfl) rfl (by show 2 * 0 + _ ≤ _; exact Nat.le_of_eq rfl) (hb hby d31_46) (fun _ _ => ⟨rfl, e4, (by decide : 0 + 0 ≤ _), (by decide : 0 + 0 ≤ _)⟩)
  dsimp only [Pt.U, Pt.locs, Pt.cells, Pt.slots] at X5 l5 y5 z5 st5 hQ5
  subst l5 y5 z5
  obtain ⟨rfl, N5q, e5⟩ := hQ5
  have N5 := Fr.app N4 N5q
  obtain ⟨_, _, ⟨T6, L6, kz6, nz6⟩, -, X6, ⟨Lc6, hQ6, l6, y6, z6⟩, st6⟩ := Jvm.LawKit.callS X5 hx (y := y_35) hown (mvT hZ (ww hw 180 rfl)) (mvT hZ (ww hw 181 rfl)) (mvT hZ (ww hw 177 rfl)) (mvT hZ (ww hw 182 rfl)) (by decide) (backOf (W := 0) (rm_at l Z a0 hw [] a1 (3 : Int32) a2 p3 a4 t1 k1 z1 vs1 kb zb vsb t5 k5 z5 vs5 zc fm h0 n0 (Nat.le_trans Z0 KC.1) O0 E_a1 F_value_a1 F_coder_a1 V_t1 V_a2 E_a4 F_value_a4 F_coder_a4 V_t5 S_CS hz S_FM hW_fm (by decide) (hMa (3 : Int32) (by decide)) (hMb (3 : Int32) (by decide))) hZ (ww hw 182 rfl) (ww hw 177 rfl) (by decide) (by decide)) (g := (mkF m 57 #[vr a1, vr a2, vi p3, vr a4] [(.ref a4), (.int p3), (.ref a2), (.int (3 : Int32)), (.ref a1)])) rfl (by rw [hml]; rfl) (argsL := [(.ref a1), (.int (3 : Int32)), (.ref a2), (.int p3), (.ref a4)]) (rest := []) (lenOf pd_23 rfl) rfl (by show 2 * 0 + _ ≤ _; exact Nat.le_of_eq rfl) (hb hby d31_57) (fun _ _ => ⟨rfl, e5, (by decide : 0 + 0 ≤ _), (by decide : 0 + 0 ≤ _)⟩)
  dsimp only [Pt.U, Pt.locs, Pt.cells, Pt.slots] at X6 l6 y6 z6 st6 hQ6
  subst l6 y6 z6
  obtain ⟨rfl, N6q, e6⟩ := hQ6
  have N6 := Fr.app N5 N6q
  obtain ⟨_, _, ⟨T7, L7, kz7, nz7⟩, -, X7, ⟨Lc7, hQ7, l7, y7, z7⟩, st7⟩ := Jvm.LawKit.callS X6 hx (y := y_35) hown (mvT hZ (ww hw 180 rfl)) (mvT hZ (ww hw 181 rfl)) (mvT hZ (ww hw 177 rfl)) (mvT hZ (ww hw 182 rfl)) (by decide) (backOf (W := 0) (rm_at l Z a0 hw [] a1 (4 : Int32) a2 p3 a4 t1 k1 z1 vs1 kb zb vsb t5 k5 z5 vs5 zc fm h0 n0 (Nat.le_trans Z0 KC.1) O0 E_a1 F_value_a1 F_coder_a1 V_t1 V_a2 E_a4 F_value_a4 F_coder_a4 V_t5 S_CS hz S_FM hW_fm (by decide) (hMa (4 : Int32) (by decide)) (hMb (4 : Int32) (by decide))) hZ (ww hw 182 rfl) (ww hw 177 rfl) (by decide) (by decide)) (g := (mkF m 68 #[vr a1, vr a2, vi p3, vr a4] [(.ref a4), (.int p3), (.ref a2), (.int (4 : Int32)), (.ref a1)])) rfl (by rw [hml]; rfl) (argsL := [(.ref a1), (.int (4 : Int32)), (.ref a2), (.int p3), (.ref a4)]) (rest := []) (lenOf pd_23 rfl) rfl (by show 2 * 0 + _ ≤ _; exact Nat.le_of_eq rfl) (hb hby d31_68) (fun _ _ => ⟨rfl, e6, (by decide : 0 + 0 ≤ _), (by decide : 0 + 0 ≤ _)⟩)
  dsimp only [Pt.U, Pt.locs, Pt.cells, Pt.slots] at X7 l7 y7 z7 st7 hQ7
  subst l7 y7 z7
  obtain ⟨rfl, N7q, e7⟩ := hQ7
  have N7 := Fr.app N6 N7q
  obtain ⟨_, _, ⟨T8, L8, kz8, nz8⟩, -, X8, ⟨Lc8, hQ8, l8, y8, z8⟩, st8⟩ := Jvm.LawKit.callS X7 hx (y := y_35) hown (mvT hZ (ww hw 180 rfl)) (mvT hZ (ww hw 181 rfl)) (mvT hZ (ww hw 177 rfl)) (mvT hZ (ww hw 182 rfl)) (by decide) (backOf (W := 0) (rm_at l Z a0 hw [] a1 (5 : Int32) a2 p3 a4 t1 k1 z1 vs1 kb zb vsb t5 k5 z5 vs5 zc fm h0 n0 (Nat.le_trans Z0 KC.1) O0 E_a1 F_value_a1 F_coder_a1 V_t1 V_a2 E_a4 F_value_a4 F_coder_a4 V_t5 S_CS hz S_FM hW_fm (by decide) (hMa (5 : Int32) (by decide)) (hMb (5 : Int32) (by decide))) hZ (ww hw 182 rfl) (ww hw 177 rfl) (by decide) (by decide)) (g := (mkF m 79 #[vr a1, vr a2, vi p3, vr a4] [(.ref a4), (.int p3), (.ref a2), (.int (5 : Int32)), (.ref a1)])) rfl (by rw [hml]; rfl) (argsL := [(.ref a1), (.int (5 : Int32)), (.ref a2), (.int p3), (.ref a4)]) (rest := []) (lenOf pd_23 rfl) rfl (by show 2 * 0 + _ ≤ _; exact Nat.le_of_eq rfl) (hb hby d31_79) (fun _ _ => ⟨rfl, e7, (by decide : 0 + 0 ≤ _), (by decide : 0 + 0 ≤ _)⟩)
  dsimp only [Pt.U, Pt.locs, Pt.cells, Pt.slots] at X8 l8 y8 z8 st8 hQ8
  subst l8 y8 z8
  obtain ⟨rfl, N8q, e8⟩ := hQ8
  have N8 := Fr.app N7 N8q
  obtain ⟨_, _, ⟨T9, L9, kz9, nz9⟩, -, X9, ⟨Lc9, hQ9, l9, y9, z9⟩, st9⟩ := Jvm.LawKit.callS X8 hx (y := y_35) hown (mvT hZ (ww hw 180 rfl)) (mvT hZ (ww hw 181 rfl)) (mvT hZ (ww hw 177 rfl)) (mvT hZ (ww hw 182 rfl)) (by decide) (backOf (W := 0) (rm_at l Z a0 hw [] a1 (6 : Int32) a2 p3 a4 t1 k1 z1 vs1 kb zb vsb t5 k5 z5 vs5 zc fm h0 n0 (Nat.le_trans Z0 KC.1) O0 E_a1 F_value_a1 F_coder_a1 V_t1 V_a2 E_a4 F_value_a4 F_coder_a4 V_t5 S_CS hz S_FM hW_fm (by decide) (hMa (6 : Int32) (by decide)) (hMb (6 : Int32) (by decide))) hZ (ww hw 182 rfl) (ww hw 177 rfl) (by decide) (by decide)) (g := (mkF m 91 #[vr a1, vr a2, vi p3, vr a4] [(.ref a4), (.int p3), (.ref a2), (.int (6 : Int32)), (.ref a1)])) rfl (by rw [hml]; rfl) (argsL := [(.ref a1), (.int (6 : Int32)), (.ref a2), (.int p3), (.ref a4)]) (rest := []) (lenOf pd_23 rfl) rfl (by show 2 * 0 + _ ≤ _; exact Nat.le_of_eq rfl) (hb hby d31_91) (fun _ _ => ⟨rfl, e8, (by decide : 0 + 0 ≤ _), (by decide : 0 + 0 ≤ _)⟩)
  dsimp only [Pt.U, Pt.locs, Pt.cells, Pt.slots] at X9 l9 y9 z9 st9 hQ9
  subst l9 y9 z9
  obtain ⟨rfl, N9q, e9⟩ := hQ9
  have N9 := Fr.app N8 N9q
  obtain ⟨_, _, ⟨T10, L10, kz10, nz10⟩, -, X10, ⟨Lc10, hQ10, l10, y10, z10⟩, st10⟩ := Jvm.LawKit.callS X9 hx (y := y_35) hown (mvT hZ (ww hw 180 rfl)) (mvT hZ (ww hw 181 rfl)) (mvT hZ (ww hw 177 rfl)) (mvT hZ (ww hw 182 rfl)) (by decide) (backOf (W := 0) (rm_at l Z a0 hw [] a1 (7 : Int32) a2 p3 a4 t1 k1 z1 vs1 kb zb vsb t5 k5 z5 vs5 zc fm h0 n0 (Nat.le_trans Z0 KC.1) O0 E_a1 F_value_a1 F_coder_a1 V_t1 V_a2 E_a4 F_value_a4 F_coder_a4 V_t5 S_CS hz S_FM hW_fm (by decide) (hMa (7 : Int32) (by decide)) (hMb (7 : Int32) (by decide))) hZ (ww hw 182 rfl) (ww hw 177 rfl) (by decide) (by decide)) (g := (mkF m 103 #[vr a1, vr a2, vi p3, vr a4] [(.ref a4), (.int p3), (.ref a2), (.int (7 : Int32)), (.ref a1)])) rfl (by rw [hml]; rfl) (argsL := [(.ref a1), (.int (7 : Int32)), (.ref a2), (.int p3), (.ref a4)]) (rest := []) (lenOf pd_23 rfl) rfl (by show 2 * 0 + _ ≤ _; exact Nat.le_of_eq rfl) (hb hby d31_103) (fun _ _ => ⟨rfl, e9, (by decide : 0 + 0 ≤ _), (by decide : 0 + 0 ≤ _)⟩)
  dsimp only [Pt.U, Pt.locs, Pt.cells, Pt.slots] at X10 l10 y10 z10 st10 hQ10
  subst l10 y10 z10
  obtain ⟨rfl, N10q, e10⟩ := hQ10
  have N10 := Fr.app N9 N10q
  obtain ⟨_, _, ⟨T11, L11, kz11, nz11⟩, -, X11, ⟨Lc11, hQ11, l11, y11, z11⟩, st11⟩ := Jvm.LawKit.callS X10 hx (y := y_35) hown (mvT hZ (ww hw 180 rfl)) (mvT hZ (ww hw 181 rfl)) (mvT hZ (ww hw 177 rfl)) (mvT hZ (ww hw 182 rfl)) (by decide) (backOf (W := 0) (rm_at l Z a0 hw [] a1 (8 : Int32) a2 p3 a4 t1 k1 z1 vs1 kb zb vsb t5 k5 z5 vs5 zc fm h0 n0 (Nat.le_trans Z0 KC.1) O0 E_a1 F_value_a1 F_coder_a1 V_t1 V_a2 E_a4 F_value_a4 F_coder_a4 V_t5 S_CS hz S_FM hW_fm (by decide) (hMa (8 : Int32) (by decide)) (hMb (8 : Int32) (by decide))) hZ (ww hw 182 rfl) (ww hw 177 rfl) (by decide) (by decide)) (g := (mkF m 115 #[vr a1, vr a2, vi p3, vr a4] [(.ref a4), (.int p3), (.ref a2), (.int (8 : Int32)), (.ref a1)])) rfl (by rw [hml]; rfl) (argsL := [(.ref a1), (.int (8 : Int32)), (.ref a2), (.int p3), (.ref a4)]) (rest := []) (lenOf pd_23 rfl) rfl (by show 2 * 0 + _ ≤ _; exact Nat.le_of_eq rfl) (hb hby d31_115) (fun _ _ => ⟨rfl, e10, (by decide : 0 + 0 ≤ _), (by decide : 0 + 0 ≤ _)⟩)
  dsimp only [Pt.U, Pt.locs, Pt.cells, Pt.slots] at X11 l11 y11 z11 st11 hQ11
  subst l11 y11 z11
  obtain ⟨rfl, N11q, e11⟩ := hQ11
  have N11 := Fr.app N10 N11q
  obtain ⟨_, _, ⟨T12, L12, kz12, nz12⟩, -, X12, ⟨Lc12, hQ12, l12, y12, z12⟩, st12⟩ := Jvm.LawKit.callS X11 hx (y := y_35) hown (mvT hZ (ww hw 180 rfl)) (mvT hZ (ww hw 181 rfl)) (mvT hZ (ww hw 177 rfl)) (mvT hZ (ww hw 182 rfl)) (by decide) (backOf (W := 0) (rm_at l Z a0 hw [] a1 (9 : Int32) a2 p3 a4 t1 k1 z1 vs1 kb zb vsb t5 k5 z5 vs5 zc fm h0 n0 (Nat.le_trans Z0 KC.1) O0 E_a1 F_value_a1 F_coder_a1 V_t1 V_a2 E_a4 F_value_a4 F_coder_a4 V_t5 S_CS hz S_FM hW_fm (by decide) (hMa (9 : Int32) (by decide)) (hMb (9 : Int32) (by decide))) hZ (ww hw 182 rfl) (ww hw 177 rfl) (by decide) (by decide)) (g := (mkF m 127 #[vr a1, vr a2, vi p3, vr a4] [(.ref a4), (.int p3), (.ref a2), (.int (9 : Int32)), (.ref a1)])) rfl (by rw [hml]; rfl) (argsL := [(.ref a1), (.int (9 : Int32)), (.ref a2), (.int p3), (.ref a4)]) (rest := []) (lenOf pd_23 rfl) rfl (by show 2 * 0 + _ ≤ _; exact Nat.le_of_eq rfl) (hb hby d31_127) (fun _ _ => ⟨rfl, e11, (by decide : 0 + 0 ≤ _), (by decide : 0 + 0 ≤ _)⟩)
  dsimp only [Pt.U, Pt.locs, Pt.cells, Pt.slots] at X12 l12 y12 z12 st12 hQ12
  subst l12 y12 z12
  obtain ⟨rfl, N12q, e12⟩ := hQ12
  have N12 := Fr.app N11 N12q
  obtain ⟨_, _, ⟨T13, L13, kz13, nz13⟩, -, X13, ⟨Lc13, hQ13, l13, y13, z13⟩, st13⟩ := Jvm.LawKit.callS X12 hx (y := y_35) hown (mvT hZ (ww hw 180 rfl)) (mvT hZ (ww hw 181 rfl)) (mvT hZ (ww hw 177 rfl)) (mvT hZ (ww hw 182 rfl)) (by decide) (backOf (W := 0) (rm_at l Z a0 hw [] a1 (10 : Int32) a2 p3 a4 t1 k1 z1 vs1 kb zb vsb t5 k5 z5 vs5 zc fm h0 n0 (Nat.le_trans Z0 KC.1) O0 E_a1 F_value_a1 F_coder_a1 V_t1 V_a2 E_a4 F_value_a4 F_coder_a4 V_t5 S_CS hz S_FM hW_fm (by decide) (hMa (10 : Int32) (by decide)) (hMb (10 : Int32) (by decide))) hZ (ww hw 182 rfl) (ww hw 177 rfl) (by decide) (by decide)) (g := (mkF m 139 #[vr a1, vr a2, vi p3, vr a4] [(.ref a4), (.int p3), (.ref a2), (.int (10 : Int32)), (.ref a1)])) rfl (by rw [hml]; rfl) (argsL := [(.ref a1), (.int (10 : Int32)), (.ref a2), (.int p3), (.ref a4)]) (rest := []) (lenOf pd_23 rfl) rfl (by show 2 * 0 + _ ≤ _; exact Nat.le_of_eq rfl) (hb hby d31_139) (fun _ _ => ⟨rfl, e12, (by decide : 0 + 0 ≤ _), (by decide : 0 + 0 ≤ _)⟩)
  dsimp only [Pt.U, Pt.locs, Pt.cells, Pt.slots] at X13 l13 y13 z13 st13 hQ13
  subst l13 y13 z13
  obtain ⟨rfl, N13q, e13⟩ := hQ13
  have N13 := Fr.app N12 N13q
  obtain ⟨_, _, ⟨T14, L14, kz14, nz14⟩, -, X14, ⟨Lc14, hQ14, l14, y14, z14⟩, st14⟩ := Jvm.LawKit.callS X13 hx (y := y_35) hown (mvT hZ (ww hw 180 rfl)) (mvT hZ (ww hw 181 rfl)) (mvT hZ (ww hw 177 rfl)) (mvT hZ (ww hw 182 rfl)) (by decide) (backOf (W := 0) (rm_at l Z a0 hw [] a1 (11 : Int32) a2 p3 a4 t1 k1 z1 vs1 kb zb vsb t5 k5 z5 vs5 zc fm h0 n0 (Nat.le_trans Z0 KC.1) O0 E_a1 F_value_a1 F_coder_a1 V_t1 V_a2 E_a4 F_value_a4 F_coder_a4 V_t5 S_CS hz S_FM hW_fm (by decide) (hMa (11 : Int32) (by decide)) (hMb (11 : Int32) (by decide))) hZ (ww hw 182 rfl) (ww hw 177 rfl) (by decide) (by decide)) (g := (mkF m 151 #[vr a1, vr a2, vi p3, vr a4] [(.ref a4), (.int p3), (.ref a2), (.int (11 : Int32)), (.ref a1)])) rfl (by rw [hml]; rfl) (argsL := [(.ref a1), (.int (11 : Int32)), (.ref a2), (.int p3), (.ref a4)]) (rest := []) (lenOf pd_23 rfl) rfl (by show 2 * 0 + _ ≤ _; exact Nat.le_of_eq rfl) (hb hby d31_151) (fun _ _ => ⟨rfl, e13, (by decide : 0 + 0 ≤ _), (by decide : 0 + 0 ≤ _)⟩)
  dsimp only [Pt.U, Pt.locs, Pt.cells, Pt.slots] at X14 l14 y14 z14 st14 hQ14
  subst l14 y14 z14
  obtain ⟨rfl, N14q, e14⟩ := hQ14
  have N14 := Fr.app N13 N14q
  obtain ⟨_, _, ⟨T15, L15, kz15, nz15⟩, -, X15, ⟨Lc15, hQ15, l15, y15, z15⟩, st15⟩ := Jvm.LawKit.callS X14 hx (y := y_35) hown (mvT hZ (ww hw 180 rfl)) (mvT hZ (ww hw 181 rfl)) (mvT hZ (ww hw 177 rfl)) (mvT hZ (ww hw 182 rfl)) (by decide) (backOf (W := 0) (rm_at l Z a0 hw [] a1 (12 : Int32) a2 p3 a4 t1 k1 z1 vs1 kb zb vsb t5 k5 z5 vs5 zc fm h0 n0 (Nat.le_trans Z0 KC.1) O0 E_a1 F_value_a1 F_coder_a1 V_t1 V_a2 E_a4 F_value_a4 F_coder_a4 V_t5 S_CS hz S_FM hW_fm (by decide) (hMa (12 : Int32) (by decide)) (hMb (12 : Int32) (by decide))) hZ (ww hw 182 rfl) (ww hw 177 rfl) (by decide) (by decide)) (g := (mkF m 163 #[vr a1, vr a2, vi p3, vr a4] [(.ref a4), (.int p3), (.ref a2), (.int (12 : Int32)), (.ref a1)])) rfl (by rw [hml]; rfl) (argsL := [(.ref a1), (.int (12 : Int32)), (.ref a2), (.int p3), (.ref a4)]) (rest := []) (lenOf pd_23 rfl) rfl (by show 2 * 0 + _ ≤ _; exact Nat.le_of_eq rfl) (hb hby d31_163) (fun _ _ => ⟨rfl, e14, (by decide : 0 + 0 ≤ _), (by decide : 0 + 0 ≤ _)⟩)
  dsimp only [Pt.U, Pt.locs, Pt.cells, Pt.slots] at X15 l15 y15 z15 st15 hQ15
  subst l15 y15 z15
  obtain ⟨rfl, N15q, e15⟩ := hQ15
  have N15 := Fr.app N14 N15q
  obtain ⟨_, _, ⟨T16, L16, kz16, nz16⟩, -, X16, ⟨Lc16, hQ16, l16, y16, z16⟩, st16⟩ := Jvm.LawKit.callS X15 hx (y := y_35) hown (mvT hZ (ww hw 180 rfl)) (mvT hZ (ww hw 181 rfl)) (mvT hZ (ww hw 177 rfl)) (mvT hZ (ww hw 182 rfl)) (by decide) (backOf (W := 0) (rm_at l Z a0 hw [] a1 (13 : Int32) a2 p3 a4 t1 k1 z1 vs1 kb zb vsb t5 k5 z5 vs5 zc fm h0 n0 (Nat.le_trans Z0 KC.1) O0 E_a1 F_value_a1 F_coder_a1 V_t1 V_a2 E_a4 F_value_a4 F_coder_a4 V_t5 S_CS hz S_FM hW_fm (by decide) (hMa (13 : Int32) (by decide)) (hMb (13 : Int32) (by decide))) hZ (ww hw 182 rfl) (ww hw 177 rfl) (by decide) (by decide)) (g := (mkF m 175 #[vr a1, vr a2, vi p3, vr a4] [(.ref a4), (.int p3), (.ref a2), (.int (13 : Int32)), (.ref a1)])) rfl (by rw [hml]; rfl) (argsL := [(.ref a1), (.int (13 : Int32)), (.ref a2), (.int p3), (.ref a4)]) (rest := []) (lenOf pd_23 rfl) rfl (by show 2 * 0 + _ ≤ _; exact Nat.le_of_eq rfl) (hb hby d31_175) (fun _ _ => ⟨rfl, e15, (by decide : 0 + 0 ≤ _), (by decide : 0 + 0 ≤ _)⟩)
  dsimp only [Pt.U, Pt.locs, Pt.cells, Pt.slots] at X16 l16 y16 z16 st16 hQ16
  subst l16 y16 z16
  obtain ⟨rfl, N16q, e16⟩ := hQ16
  have N16 := Fr.app N15 N16q
  obtain ⟨_, _, ⟨T17, L17, kz17, nz17⟩, -, X17, ⟨Lc17, hQ17, l17, y17, z17⟩, st17⟩ := Jvm.LawKit.callS X16 hx (y := y_35) hown (mvT hZ (ww hw 180 rfl)) (mvT hZ (ww hw 181 rfl)) (mvT hZ (ww hw 177 rfl)) (mvT hZ (ww hw 182 rfl)) (by decide) (backOf (W := 0) (rm_at l Z a0 hw [] a1 (14 : Int32) a2 p3 a4 t1 k1 z1 vs1 kb zb vsb t5 k5 z5 vs5 zc fm h0 n0 (Nat.le_trans Z0 KC.1) O0 E_a1 F_value_a1 F_coder_a1 V_t1 V_a2 E_a4 F_value_a4 F_coder_a4 V_t5 S_CS hz S_FM hW_fm (by decide) (hMa (14 : Int32) (by decide)) (hMb (14 : Int32) (by decide))) hZ (ww hw 182 rfl) (ww hw 177 rfl) (by decide) (by decide)) (g := (mkF m 187 #[vr a1, vr a2, vi p3, vr a4] [(.ref a4), (.int p3), (.ref a2), (.int (14 : Int32)), (.ref a1)])) rfl (by rw [hml]; rfl) (argsL := [(.ref a1), (.int (14 : Int32)), (.ref a2), (.int p3), (.ref a4)]) (rest := []) (lenOf pd_23 rfl) rfl (by show 2 * 0 + _ ≤ _; exact Nat.le_of_eq rfl) (hb hby d31_187) (fun _ _ => ⟨rfl, e16, (by decide : 0 + 0 ≤ _), (by decide : 0 + 0 ≤ _)⟩)
  dsimp only [Pt.U, Pt.locs, Pt.cells, Pt.slots] at X17 l17 y17 z17 st17 hQ17
  subst l17 y17 z17
  obtain ⟨rfl, N17q, e17⟩ := hQ17
  have N17 := Fr.app N16 N17q
  obtain ⟨fs, hr, hrun, hended, hW, hsame⟩ := X17.leave (v := some (.int (1 : Int32))) (fun h => by rw [Bd.returns] at h; cases h)
  refine ⟨_, _, pre0 _ ?_, hrun, hended, _, _, rfl, ?_, ⟨_, rfl⟩, hW, hsame.mono (by decide) (by decide)⟩
  · show SS p e below m s₁ 0 #[vr a1, vr a2, vi p3, vr a4] [] _
    refine XS.aloadN X0.here hx rfl (hb hby d31_0) rfl rfl ?_
    show SS p e below m s₁ 1 #[vr a1, vr a2, vi p3, vr a4] [(.ref a1)] _
    refine XS.ifnullNo X0.here hx rfl (hb hby d31_1) rfl ?_
    show SS p e below m s₁ 4 #[vr a1, vr a2, vi p3, vr a4] [] _
    refine XS.aloadN X0.here hx rfl (hb hby d31_4) rfl rfl ?_
    show SS p e below m s₁ 5 #[vr a1, vr a2, vi p3, vr a4] [(.ref a1)] _
    refine st1.trans ?_
    show SS p e below m T1 8 #[vr a1, vr a2, vi p3, vr a4] [(.int z1)] _
    refine XS.iloadN X1.here hx rfl (hb hby d31_8) rfl ?_
    show SS p e below m T1 9 #[vr a1, vr a2, vi p3, vr a4] [(.int p3), (.int z1)] _
    refine XS.aloadN X1.here hx rfl (hb hby d31_9) rfl rfl ?_
    show SS p e below m T1 10 #[vr a1, vr a2, vi p3, vr a4] [(.ref a4), (.int p3), (.int z1)] _
    refine st2.trans ?_
    show SS p e below m T2 13 #[vr a1, vr a2, vi p3, vr a4] [(.int z5), (.int p3), (.int z1)] _
    refine XS.iadd X2.here hx rfl (hb hby d31_13) rfl ?_
    show SS p e below m T2 14 #[vr a1, vr a2, vi p3, vr a4] [(.int (p3 + z5)), (.int z1)] _
    refine XS.icmpYes X2.here hx rfl (pc0 := 14) (pc' := 19) rfl (hb hby d31_14) rfl (teq hL.symm).1 (by decide) (by decide) ?_
    show SS p e below m T2 19 #[vr a1, vr a2, vi p3, vr a4] [] _
    refine XS.aloadN X2.here hx rfl (hb hby d31_19) rfl rfl ?_
    show SS p e below m T2 20 #[vr a1, vr a2, vi p3, vr a4] [(.ref a1)] _
    refine XS.iconst X2.here hx rfl (hb hby d31_20) ?_
    show SS p e below m T2 21 #[vr a1, vr a2, vi p3, vr a4] [(.int (0 : Int32)), (.ref a1)] _
    refine XS.aloadN X2.here hx rfl (hb hby d31_21) rfl rfl ?_
    show SS p e below m T2 22 #[vr a1, vr a2, vi p3, vr a4] [(.ref a2), (.int (0 : Int32)), (.ref a1)] _
    refine XS.iloadN X2.here hx rfl (hb hby d31_22) rfl ?_
    show SS p e below m T2 23 #[vr a1, vr a2, vi p3, vr a4] [(.int p3), (.ref a2), (.int (0 : Int32)), (.ref a1)] _
    refine XS.aloadN X2.here hx rfl (hb hby d31_23) rfl rfl ?_
    show SS p e below m T2 24 #[vr a1, vr a2, vi p3, vr a4] [(.ref a4), (.int p3), (.ref a2), (.int (0 : Int32)), (.ref a1)] _
    refine st3 _ ?_
    show SS p e below m T3 27 #[vr a1, vr a2, vi p3, vr a4] [(.int (1 : Int32))] _
    refine XS.ifNo X3.here hx rfl (hb hby d31_27) rfl ((if0 _ _).trans (feq (by decide)).1) ?_
    show SS p e below m T3 30 #[vr a1, vr a2, vi p3, vr a4] [] _
    refine XS.aloadN X3.here hx rfl (hb hby d31_30) rfl rfl ?_
    show SS p e below m T3 31 #[vr a1, vr a2, vi p3, vr a4] [(.ref a1)] _
    refine XS.iconst X3.here hx rfl (hb hby d31_31) ?_
    show SS p e below m T3 32 #[vr a1, vr a2, vi p3, vr a4] [(.int (1 : Int32)), (.ref a1)] _
    refine XS.aloadN X3.here hx rfl (hb hby d31_32) rfl rfl ?_
    show SS p e below m T3 33 #[vr a1, vr a2, vi p3, vr a4] [(.ref a2), (.int (1 : Int32)), (.ref a1)] _
    refine XS.iloadN X3.here hx rfl (hb hby d31_33) rfl ?_
    show SS p e below m T3 34 #[vr a1, vr a2, vi p3, vr a4] [(.int p3), (.ref a2), (.int (1 : Int32)), (.ref a1)] _
    refine XS.aloadN X3.here hx rfl (hb hby d31_34) rfl rfl ?_
    show SS p e below m T3 35 #[vr a1, vr a2, vi p3, vr a4] [(.ref a4), (.int p3), (.ref a2), (.int (1 : Int32)), (.ref a1)] _
    refine st4 _ ?_
    show SS p e below m T4 38 #[vr a1, vr a2, vi p3, vr a4] [(.int (1 : Int32))] _
    refine XS.ifNo X4.here hx rfl (hb hby d31_38) rfl ((if0 _ _).trans (feq (by decide)).1) ?_
    show SS p e below m T4 41 #[vr a1, vr a2, vi p3, vr a4] [] _
    refine XS.aloadN X4.here hx rfl (hb hby d31_41) rfl rfl ?_
    show SS p e below m T4 42 #[vr a1, vr a2, vi p3, vr a4] [(.ref a1)] _
    refine XS.iconst X4.here hx rfl (hb hby d31_42) ?_
    show SS p e below m T4 43 #[vr a1, vr a2, vi p3, vr a4] [(.int (2 : Int32)), (.ref a1)] _
    refine XS.aloadN X4.here hx rfl (hb hby d31_43) rfl rfl ?_
    show SS p e below m T4 44 #[vr a1, vr a2, vi p3, vr a4] [(.ref a2), (.int (2 : Int32)), (.ref a1)] _
    refine XS.iloadN X4.here hx rfl (hb hby d31_44) rfl ?_
    show SS p e below m T4 45 #[vr a1, vr a2, vi p3, vr a4] [(.int p3), (.ref a2), (.int (2 : Int32)), (.ref a1)] _
    refine XS.aloadN X4.here hx rfl (hb hby d31_45) rfl rfl ?_
    show SS p e below m T4 46 #[vr a1, vr a2, vi p3, vr a4] [(.ref a4), (.int p3), (.ref a2), (.int (2 : Int32)), (.ref a1)] _
    refine st5 _ ?_
    show SS p e below m T5 49 #[vr a1, vr a2, vi p3, vr a4] [(.int (1 : Int32))] _
    refine XS.ifNo X5.here hx rfl (hb hby d31_49) rfl ((if0 _ _).trans (feq (by decide)).1) ?_
    show SS p e below m T5 52 #[vr a1, vr a2, vi p3, vr a4] [] _
    refine XS.aloadN X5.here hx rfl (hb hby d31_52) rfl rfl ?_
    show SS p e below m T5 53 #[vr a1, vr a2, vi p3, vr a4] [(.ref a1)] _
    refine XS.iconst X5.here hx rfl (hb hby d31_53) ?_
    show SS p e below m T5 54 #[vr a1, vr a2, vi p3, vr a4] [(.int (3 : Int32)), (.ref a1)] _
    refine XS.aloadN X5.here hx rfl (hb hby d31_54) rfl rfl ?_
    show SS p e below m T5 55 #[vr a1, vr a2, vi p3, vr a4] [(.ref a2), (.int (3 : Int32)), (.ref a1)] _
    refine XS.iloadN X5.here hx rfl (hb hby d31_55) rfl ?_
    show SS p e below m T5 56 #[vr a1, vr a2, vi p3, vr a4] [(.int p3), (.ref a2), (.int (3 : Int32)), (.ref a1)] _
    refine XS.aloadN X5.here hx rfl (hb hby d31_56) rfl rfl ?_
    show SS p e below m T5 57 #[vr a1, vr a2, vi p3, vr a4] [(.ref a4), (.int p3), (.ref a2), (.int (3 : Int32)), (.ref a1)] _
    refine st6 _ ?_
    show SS p e below m T6 60 #[vr a1, vr a2, vi p3, vr a4] [(.int (1 : Int32))] _
    refine XS.ifNo X6.here hx rfl (hb hby d31_60) rfl ((if0 _ _).trans (feq (by decide)).1) ?_
    show SS p e below m T6 63 #[vr a1, vr a2, vi p3, vr a4] [] _
    refine XS.aloadN X6.here hx rfl (hb hby d31_63) rfl rfl ?_
    show SS p e below m T6 64 #[vr a1, vr a2, vi p3, vr a4] [(.ref a1)] _
    refine XS.iconst X6.here hx rfl (hb hby d31_64) ?_
    show SS p e below m T6 65 #[vr a1, vr a2, vi p3, vr a4] [(.int (4 : Int32)), (.ref a1)] _
    refine XS.aloadN X6.here hx rfl (hb hby d31_65) rfl rfl ?_
    show SS p e below m T6 66 #[vr a1, vr a2, vi p3, vr a4] [(.ref a2), (.int (4 : Int32)), (.ref a1)] _
    refine XS.iloadN X6.here hx rfl (hb hby d31_66) rfl ?_
    show SS p e below m T6 67 #[vr a1, vr a2, vi p3, vr a4] [(.int p3), (.ref a2), (.int (4 : Int32)), (.ref a1)] _
    refine XS.aloadN X6.here hx rfl (hb hby d31_67) rfl rfl ?_
    show SS p e below m T6 68 #[vr a1, vr a2, vi p3, vr a4] [(.ref a4), (.int p3), (.ref a2), (.int (4 : Int32)), (.ref a1)] _
    refine st7 _ ?_
    show SS p e below m T7 71 #[vr a1, vr a2, vi p3, vr a4] [(.int (1 : Int32))] _
    refine XS.ifNo X7.here hx rfl (hb hby d31_71) rfl ((if0 _ _).trans (feq (by decide)).1) ?_
    show SS p e below m T7 74 #[vr a1, vr a2, vi p3, vr a4] [] _
    refine XS.aloadN X7.here hx rfl (hb hby d31_74) rfl rfl ?_
    show SS p e below m T7 75 #[vr a1, vr a2, vi p3, vr a4] [(.ref a1)] _
    refine XS.iconst X7.here hx rfl (hb hby d31_75) ?_
    show SS p e below m T7 76 #[vr a1, vr a2, vi p3, vr a4] [(.int (5 : Int32)), (.ref a1)] _
    refine XS.aloadN X7.here hx rfl (hb hby d31_76) rfl rfl ?_
    show SS p e below m T7 77 #[vr a1, vr a2, vi p3, vr a4] [(.ref a2), (.int (5 : Int32)), (.ref a1)] _
    refine XS.iloadN X7.here hx rfl (hb hby d31_77) rfl ?_
    show SS p e below m T7 78 #[vr a1, vr a2, vi p3, vr a4] [(.int p3), (.ref a2), (.int (5 : Int32)), (.ref a1)] _
    refine XS.aloadN X7.here hx rfl (hb hby d31_78) rfl rfl ?_
    show SS p e below m T7 79 #[vr a1, vr a2, vi p3, vr a4] [(.ref a4), (.int p3), (.ref a2), (.int (5 : Int32)), (.ref a1)] _
    refine st8 _ ?_
    show SS p e below m T8 82 #[vr a1, vr a2, vi p3, vr a4] [(.int (1 : Int32))] _
    refine XS.ifNo X8.here hx rfl (hb hby d31_82) rfl ((if0 _ _).trans (feq (by decide)).1) ?_
    show SS p e below m T8 85 #[vr a1, vr a2, vi p3, vr a4] [] _
    refine XS.aloadN X8.here hx rfl (hb hby d31_85) rfl rfl ?_
    show SS p e below m T8 86 #[vr a1, vr a2, vi p3, vr a4] [(.ref a1)] _
    refine XS.bipush X8.here hx rfl (hb hby d31_86) ?_
    show SS p e below m T8 88 #[vr a1, vr a2, vi p3, vr a4] [(.int (6 : Int32)), (.ref a1)] _
    refine XS.aloadN X8.here hx rfl (hb hby d31_88) rfl rfl ?_
    show SS p e below m T8 89 #[vr a1, vr a2, vi p3, vr a4] [(.ref a2), (.int (6 : Int32)), (.ref a1)] _
    refine XS.iloadN X8.here hx rfl (hb hby d31_89) rfl ?_
    show SS p e below m T8 90 #[vr a1, vr a2, vi p3, vr a4] [(.int p3), (.ref a2), (.int (6 : Int32)), (.ref a1)] _
    refine XS.aloadN X8.here hx rfl (hb hby d31_90) rfl rfl ?_
    show SS p e below m T8 91 #[vr a1, vr a2, vi p3, vr a4] [(.ref a4), (.int p3), (.ref a2), (.int (6 : Int32)), (.ref a1)] _
    refine st9 _ ?_
    show SS p e below m T9 94 #[vr a1, vr a2, vi p3, vr a4] [(.int (1 : Int32))] _
    refine XS.ifNo X9.here hx rfl (hb hby d31_94) rfl ((if0 _ _).trans (feq (by decide)).1) ?_
    show SS p e below m T9 97 #[vr a1, vr a2, vi p3, vr a4] [] _
    refine XS.aloadN X9.here hx rfl (hb hby d31_97) rfl rfl ?_
    show SS p e below m T9 98 #[vr a1, vr a2, vi p3, vr a4] [(.ref a1)] _
    refine XS.bipush X9.here hx rfl (hb hby d31_98) ?_
    show SS p e below m T9 100 #[vr a1, vr a2, vi p3, vr a4] [(.int (7 : Int32)), (.ref a1)] _
    refine XS.aloadN X9.here hx rfl (hb hby d31_100) rfl rfl ?_
    show SS p e below m T9 101 #[vr a1, vr a2, vi p3, vr a4] [(.ref a2), (.int (7 : Int32)), (.ref a1)] _
    refine XS.iloadN X9.here hx rfl (hb hby d31_101) rfl ?_
    show SS p e below m T9 102 #[vr a1, vr a2, vi p3, vr a4] [(.int p3), (.ref a2), (.int (7 : Int32)), (.ref a1)] _
    refine XS.aloadN X9.here hx rfl (hb hby d31_102) rfl rfl ?_
    show SS p e below m T9 103 #[vr a1, vr a2, vi p3, vr a4] [(.ref a4), (.int p3), (.ref a2), (.int (7 : Int32)), (.ref a1)] _
    refine st10 _ ?_
    show SS p e below m T10 106 #[vr a1, vr a2, vi p3, vr a4] [(.int (1 : Int32))] _
    refine XS.ifNo X10.here hx rfl (hb hby d31_106) rfl ((if0 _ _).trans (feq (by decide)).1) ?_
    show SS p e below m T10 109 #[vr a1, vr a2, vi p3, vr a4] [] _
    refine XS.aloadN X10.here hx rfl (hb hby d31_109) rfl rfl ?_
    show SS p e below m T10 110 #[vr a1, vr a2, vi p3, vr a4] [(.ref a1)] _
    refine XS.bipush X10.here hx rfl (hb hby d31_110) ?_
    show SS p e below m T10 112 #[vr a1, vr a2, vi p3, vr a4] [(.int (8 : Int32)), (.ref a1)] _
    refine XS.aloadN X10.here hx rfl (hb hby d31_112) rfl rfl ?_
    show SS p e below m T10 113 #[vr a1, vr a2, vi p3, vr a4] [(.ref a2), (.int (8 : Int32)), (.ref a1)] _
    refine XS.iloadN X10.here hx rfl (hb hby d31_113) rfl ?_
    show SS p e below m T10 114 #[vr a1, vr a2, vi p3, vr a4] [(.int p3), (.ref a2), (.int (8 : Int32)), (.ref a1)] _
    refine XS.aloadN X10.here hx rfl (hb hby d31_114) rfl rfl ?_
    show SS p e below m T10 115 #[vr a1, vr a2, vi p3, vr a4] [(.ref a4), (.int p3), (.ref a2), (.int (8 : Int32)), (.ref a1)] _
    refine st11 _ ?_
    show SS p e below m T11 118 #[vr a1, vr a2, vi p3, vr a4] [(.int (1 : Int32))] _
    refine XS.ifNo X11.here hx rfl (hb hby d31_118) rfl ((if0 _ _).trans (feq (by decide)).1) ?_
    show SS p e below m T11 121 #[vr a1, vr a2, vi p3, vr a4] [] _
    refine XS.aloadN X11.here hx rfl (hb hby d31_121) rfl rfl ?_
    show SS p e below m T11 122 #[vr a1, vr a2, vi p3, vr a4] [(.ref a1)] _
    refine XS.bipush X11.here hx rfl (hb hby d31_122) ?_
    show SS p e below m T11 124 #[vr a1, vr a2, vi p3, vr a4] [(.int (9 : Int32)), (.ref a1)] _
    refine XS.aloadN X11.here hx rfl (hb hby d31_124) rfl rfl ?_
    show SS p e below m T11 125 #[vr a1, vr a2, vi p3, vr a4] [(.ref a2), (.int (9 : Int32)), (.ref a1)] _
    refine XS.iloadN X11.here hx rfl (hb hby d31_125) rfl ?_
    show SS p e below m T11 126 #[vr a1, vr a2, vi p3, vr a4] [(.int p3), (.ref a2), (.int (9 : Int32)), (.ref a1)] _
    refine XS.aloadN X11.here hx rfl (hb hby d31_126) rfl rfl ?_
    show SS p e below m T11 127 #[vr a1, vr a2, vi p3, vr a4] [(.ref a4), (.int p3), (.ref a2), (.int (9 : Int32)), (.ref a1)] _
    refine st12 _ ?_
    show SS p e below m T12 130 #[vr a1, vr a2, vi p3, vr a4] [(.int (1 : Int32))] _
    refine XS.ifNo X12.here hx rfl (hb hby d31_130) rfl ((if0 _ _).trans (feq (by decide)).1) ?_
    show SS p e below m T12 133 #[vr a1, vr a2, vi p3, vr a4] [] _
    refine XS.aloadN X12.here hx rfl (hb hby d31_133) rfl rfl ?_
    show SS p e below m T12 134 #[vr a1, vr a2, vi p3, vr a4] [(.ref a1)] _
    refine XS.bipush X12.here hx rfl (hb hby d31_134) ?_
    show SS p e below m T12 136 #[vr a1, vr a2, vi p3, vr a4] [(.int (10 : Int32)), (.ref a1)] _
    refine XS.aloadN X12.here hx rfl (hb hby d31_136) rfl rfl ?_
    show SS p e below m T12 137 #[vr a1, vr a2, vi p3, vr a4] [(.ref a2), (.int (10 : Int32)), (.ref a1)] _
    refine XS.iloadN X12.here hx rfl (hb hby d31_137) rfl ?_
    show SS p e below m T12 138 #[vr a1, vr a2, vi p3, vr a4] [(.int p3), (.ref a2), (.int (10 : Int32)), (.ref a1)] _
    refine XS.aloadN X12.here hx rfl (hb hby d31_138) rfl rfl ?_
    show SS p e below m T12 139 #[vr a1, vr a2, vi p3, vr a4] [(.ref a4), (.int p3), (.ref a2), (.int (10 : Int32)), (.ref a1)] _
    refine st13 _ ?_
    show SS p e below m T13 142 #[vr a1, vr a2, vi p3, vr a4] [(.int (1 : Int32))] _
    refine XS.ifNo X13.here hx rfl (hb hby d31_142) rfl ((if0 _ _).trans (feq (by decide)).1) ?_
    show SS p e below m T13 145 #[vr a1, vr a2, vi p3, vr a4] [] _
    refine XS.aloadN X13.here hx rfl (hb hby d31_145) rfl rfl ?_
    show SS p e below m T13 146 #[vr a1, vr a2, vi p3, vr a4] [(.ref a1)] _
    refine XS.bipush X13.here hx rfl (hb hby d31_146) ?_
    show SS p e below m T13 148 #[vr a1, vr a2, vi p3, vr a4] [(.int (11 : Int32)), (.ref a1)] _
    refine XS.aloadN X13.here hx rfl (hb hby d31_148) rfl rfl ?_
    show SS p e below m T13 149 #[vr a1, vr a2, vi p3, vr a4] [(.ref a2), (.int (11 : Int32)), (.ref a1)] _
    refine XS.iloadN X13.here hx rfl (hb hby d31_149) rfl ?_
    show SS p e below m T13 150 #[vr a1, vr a2, vi p3, vr a4] [(.int p3), (.ref a2), (.int (11 : Int32)), (.ref a1)] _
    refine XS.aloadN X13.here hx rfl (hb hby d31_150) rfl rfl ?_
    show SS p e below m T13 151 #[vr a1, vr a2, vi p3, vr a4] [(.ref a4), (.int p3), (.ref a2), (.int (11 : Int32)), (.ref a1)] _
    refine st14 _ ?_
    show SS p e below m T14 154 #[vr a1, vr a2, vi p3, vr a4] [(.int (1 : Int32))] _
    refine XS.ifNo X14.here hx rfl (hb hby d31_154) rfl ((if0 _ _).trans (feq (by decide)).1) ?_
    show SS p e below m T14 157 #[vr a1, vr a2, vi p3, vr a4] [] _
    refine XS.aloadN X14.here hx rfl (hb hby d31_157) rfl rfl ?_
    show SS p e below m T14 158 #[vr a1, vr a2, vi p3, vr a4] [(.ref a1)] _
    refine XS.bipush X14.here hx rfl (hb hby d31_158) ?_
    show SS p e below m T14 160 #[vr a1, vr a2, vi p3, vr a4] [(.int (12 : Int32)), (.ref a1)] _
    refine XS.aloadN X14.here hx rfl (hb hby d31_160) rfl rfl ?_
    show SS p e below m T14 161 #[vr a1, vr a2, vi p3, vr a4] [(.ref a2), (.int (12 : Int32)), (.ref a1)] _
    refine XS.iloadN X14.here hx rfl (hb hby d31_161) rfl ?_
    show SS p e below m T14 162 #[vr a1, vr a2, vi p3, vr a4] [(.int p3), (.ref a2), (.int (12 : Int32)), (.ref a1)] _
    refine XS.aloadN X14.here hx rfl (hb hby d31_162) rfl rfl ?_
    show SS p e below m T14 163 #[vr a1, vr a2, vi p3, vr a4] [(.ref a4), (.int p3), (.ref a2), (.int (12 : Int32)), (.ref a1)] _
    refine st15 _ ?_
    show SS p e below m T15 166 #[vr a1, vr a2, vi p3, vr a4] [(.int (1 : Int32))] _
    refine XS.ifNo X15.here hx rfl (hb hby d31_166) rfl ((if0 _ _).trans (feq (by decide)).1) ?_
    show SS p e below m T15 169 #[vr a1, vr a2, vi p3, vr a4] [] _
    refine XS.aloadN X15.here hx rfl (hb hby d31_169) rfl rfl ?_
    show SS p e below m T15 170 #[vr a1, vr a2, vi p3, vr a4] [(.ref a1)] _
    refine XS.bipush X15.here hx rfl (hb hby d31_170) ?_
    show SS p e below m T15 172 #[vr a1, vr a2, vi p3, vr a4] [(.int (13 : Int32)), (.ref a1)] _
    refine XS.aloadN X15.here hx rfl (hb hby d31_172) rfl rfl ?_
    show SS p e below m T15 173 #[vr a1, vr a2, vi p3, vr a4] [(.ref a2), (.int (13 : Int32)), (.ref a1)] _
    refine XS.iloadN X15.here hx rfl (hb hby d31_173) rfl ?_
    show SS p e below m T15 174 #[vr a1, vr a2, vi p3, vr a4] [(.int p3), (.ref a2), (.int (13 : Int32)), (.ref a1)] _
    refine XS.aloadN X15.here hx rfl (hb hby d31_174) rfl rfl ?_
    show SS p e below m T15 175 #[vr a1, vr a2, vi p3, vr a4] [(.ref a4), (.int p3), (.ref a2), (.int (13 : Int32)), (.ref a1)] _
    refine st16 _ ?_
    show SS p e below m T16 178 #[vr a1, vr a2, vi p3, vr a4] [(.int (1 : Int32))] _
    refine XS.ifNo X16.here hx rfl (hb hby d31_178) rfl ((if0 _ _).trans (feq (by decide)).1) ?_
    show SS p e below m T16 181 #[vr a1, vr a2, vi p3, vr a4] [] _
    refine XS.aloadN X16.here hx rfl (hb hby d31_181) rfl rfl ?_
    show SS p e below m T16 182 #[vr a1, vr a2, vi p3, vr a4] [(.ref a1)] _
    refine XS.bipush X16.here hx rfl (hb hby d31_182) ?_
    show SS p e below m T16 184 #[vr a1, vr a2, vi p3, vr a4] [(.int (14 : Int32)), (.ref a1)] _
    refine XS.aloadN X16.here hx rfl (hb hby d31_184) rfl rfl ?_
    show SS p e below m T16 185 #[vr a1, vr a2, vi p3, vr a4] [(.ref a2), (.int (14 : Int32)), (.ref a1)] _
    refine XS.iloadN X16.here hx rfl (hb hby d31_185) rfl ?_
    show SS p e below m T16 186 #[vr a1, vr a2, vi p3, vr a4] [(.int p3), (.ref a2), (.int (14 : Int32)), (.ref a1)] _
    refine XS.aloadN X16.here hx rfl (hb hby d31_186) rfl rfl ?_
    show SS p e below m T16 187 #[vr a1, vr a2, vi p3, vr a4] [(.ref a4), (.int p3), (.ref a2), (.int (14 : Int32)), (.ref a1)] _
    refine st17 _ ?_
    show SS p e below m T17 190 #[vr a1, vr a2, vi p3, vr a4] [(.int (1 : Int32))] _
    refine XS.ifNo X17.here hx rfl (hb hby d31_190) rfl ((if0 _ _).trans (feq (by decide)).1) ?_
    show SS p e below m T17 193 #[vr a1, vr a2, vi p3, vr a4] [] _
    refine XS.iconst X17.here hx rfl (hb hby d31_193) ?_
    show SS p e below m T17 194 #[vr a1, vr a2, vi p3, vr a4] [(.int (1 : Int32))] _
    refine XS.goto X17.here hx rfl (pc0 := 194) (pc' := 198) rfl (hb hby d31_194) (by decide) (by decide) ?_
    show SS p e below m T17 198 #[vr a1, vr a2, vi p3, vr a4] [(.int (1 : Int32))] _
    exact retN X17 hx (t := .boolean) Bd.returns (by simp) (hb hby d31_198) hr
  · show Q_rm_mat Z a1 a2 p3 a4 t1 k1 z1 vs1 kb zb vsb t5 k5 z5 vs5 zc fm h0 n0 _ T17.heap _
    rw [e17]
    exact ⟨rfl, N17, rfl⟩
theorem pd_24 : parseMethodDescriptor "()V" = some ⟨[], none⟩ := by decide +kernel
theorem d28_0 : decode prog_24_method_1_code 0 = .ok (.aload_n 0, 1) := by decide +kernel
theorem d28_1 : decode prog_24_method_1_code 1 = .ok (.invokespecial 1, 3) := by decide +kernel
theorem d28_4 : decode prog_24_method_1_code 4 = .ok (.aload_n 0, 1) := by decide +kernel
theorem d28_5 : decode prog_24_method_1_code 5 = .ok (.aload_n 1, 1) := by decide +kernel
theorem d28_6 : decode prog_24_method_1_code 6 = .ok (.putfield 7, 3) := by decide +kernel
theorem d28_9 : decode prog_24_method_1_code 9 = .ok (.aload_n 0, 1) := by decide +kernel
theorem d28_10 : decode prog_24_method_1_code 10 = .ok (.aload_n 2, 1) := by decide +kernel
theorem d28_11 : decode prog_24_method_1_code 11 = .ok (.putfield 13, 3) := by decide +kernel
theorem d28_14 : decode prog_24_method_1_code 14 = .ok (.aload_n 0, 1) := by decide +kernel
theorem d28_15 : decode prog_24_method_1_code 15 = .ok (.aload_n 3, 1) := by decide +kernel
theorem d28_16 : decode prog_24_method_1_code 16 = .ok (.putfield 16, 3) := by decide +kernel
theorem d28_19 : decode prog_24_method_1_code 19 = .ok (.return_, 1) := by decide +kernel
theorem pn_10 : plainName "com/example/federant/federant/saml/HubEndpoints" = true := by first | (simp [plainName, overriddenIn]; done) | decide +kernel
theorem ef_rm_idi (m : MethodId) (x0 : Addr) (x1 : Addr) (x2 : Addr) (x3 : Addr) : entryFrame m #[(.ref x0), (.ref x1), (.ref x2), (.ref x3)] 4 = mkF m 0 #[vr x0, vr x1, vr x2, vr x3] [] := by first | (simp [entryFrame, mkF, argsToLocals, Value.category]; done) | rfl
def Q_rm_idi (Z : State) (a1 : Addr) (a2 : Addr) (a3 : Addr) (a4 : Addr) (h0 : Heap) (n0 : Nat) (v : Option Value) (h : Heap) (L : List Loc) : Prop := (v = none) ∧ (Fr n0 L) ∧ (Keep h0 h [a1]) ∧ (Fld Z h a1 "com/example/federant/federant/saml/HubEndpoints" "entityId" "Ljava/lang/String;" (.ref a2)) ∧ (Fld Z h a1 "com/example/federant/federant/saml/HubEndpoints" "metadata" "Ljava/lang/String;" (.ref a3)) ∧ (Fld Z h a1 "com/example/federant/federant/saml/HubEndpoints" "assertionConsumer" "Ljava/lang/String;" (.ref a4))
set_option maxRecDepth 65536 in
set_option maxHeartbeats 40000000 in
theorem rm_idi (l : Launch) (Z : State) (a0 : Array Value) (hw : ∀ d ∈ tables_1, d.before a0 Z = true) (ws : List Jvm.Cond) (a1 : Addr) (a2 : Addr) (a3 : Addr) (a4 : Addr) (h0 : Heap) (n0 : Nat) (Z0 : n0 ≤ h0.size) (O0 : Old Z n0 h0) (F_entityId_a1 : Fld Z h0 a1 "com/example/federant/federant/saml/HubEndpoints" "entityId" "Ljava/lang/String;" .null) (F_metadata_a1 : Fld Z h0 a1 "com/example/federant/federant/saml/HubEndpoints" "metadata" "Ljava/lang/String;" .null) (F_assertionConsumer_a1 : Fld Z h0 a1 "com/example/federant/federant/saml/HubEndpoints" "assertionConsumer" "Ljava/lang/String;" .null) (E_a1 : Exa Z h0 a1 "com/example/federant/federant/saml/HubEndpoints") (g_a1 : n0 ≤ a1) :
    MetFree l y_37 (head1 (Jvm.Cond.code y_37 prog_24_method_1_code 4 none :: ws) ({ frames := 2, cells := 0, slots := 0, locals := 24 } : Room)) (fun a U => a = #[(.ref a1), (.ref a2), (.ref a3), (.ref a4)] ∧ Z.Warmed39 U.vm ∧ U.heap = h0) (fun _ _ _ _ _ => True) (fun _ U o U' => ∃ v L, o = .returned v ∧ Q_rm_idi Z a1 a2 a3 a4 h0 n0 v U'.heap L ∧ FrameEnd U o U' L ({ frames := 2, cells := 0, slots := 0, locals := 24 } : Room).cells ({ frames := 2, cells := 0, slots := 0, locals := 24 } : Room).slots) := by
  refine MetFree.of_bodySF (plainFor_of_name pn_10) hisR ?_
  intro p e s m args below meth c s₁ Bd hml0 hP hK
  obtain ⟨rfl, hZ, hh⟩ := hP
  have hx := Bd.exec
  have hby := Bd.bytes
  have hml : c.maxLocals = 4 := hml0
  have hown : s.vm.findClass "com/example/federant/federant/saml/HubEndpoints" = some m.cls := findClass_of_methodNamed Bd.named
  have hnm := (name_of_methodNamed Bd.named Bd.method).1
  have X0 : Stand p l e ({ frames := 2, cells := 0, slots := 0, locals := 24 } : Room) s m #[(.ref a1), (.ref a2), (.ref a3), (.ref a4)] below meth c s₁ [] 0 0 := Stand.of_body Bd
  have e0 : s₁.heap = h0 := by rw [← hh, Bd.state]; rfl
  have N0 := Fr.nil n0
  have KC : Keep h0 h0 [a1] := Keep.refl h0 _
  have pre0 : ∀ t, Steps p.tables e below (s₁.setTop (mkF m 0 #[vr a1, vr a2, vr a3, vr a4] [])) t → Steps p.tables e below (s₁.setTop (entryFrame m #[(.ref a1), (.ref a2), (.ref a3), (.ref a4)] 4)) t := fun t k => castTop (ef_rm_idi m a1 a2 a3 a4) k
  obtain ⟨_, _, ⟨T1, L1, kz1, nz1⟩, -, X1, ⟨Lc1, hQ1, l1, y1, z1⟩, st1⟩ := X0.specialBack hx (y := y_26) rfl hown (mvT hZ (ww hw 157 rfl)) (mvT hZ (ww hw 158 rfl)) (mvT hZ (ww hw 161 rfl)) (by decide) (backOf (W := 0) (rm_rec l Z a0 hw [] a1 h0 n0 (Nat.le_trans Z0 KC.1) O0 ) hZ (ww hw 161 rfl) (ww hw 160 rfl) (by decide) (by decide)) (g := (mkF m 1 #[vr a1, vr a2, vr a3, vr a4] [(.ref a1)])) rfl (by rw [hml]; rfl) (Steps.refl _) (a := a1) (argsL := []) (rest := []) (lenOf pd_24 rfl) rfl (by show 2 * 0 + _ ≤ _; exact Nat.le_of_eq rfl) (hb hby d28_1) (fun _ _ => ⟨rfl, e0, (by decide : 0 + 0 ≤ _), (by decide : 0 + 0 ≤ _)⟩)
  dsimp only [Pt.U, Pt.locs, Pt.cells, Pt.slots] at X1 l1 y1 z1 st1 hQ1
  subst l1 y1 z1
  obtain ⟨rfl, N1q, e1⟩ := hQ1
  have N1 := Fr.app N0 N1q
  obtain ⟨T2, h2, X2, e2, W2, st2⟩ := putF X1 hx hZ hown (host := "") (Or.inl (ww hw 163 rfl)) Via.refl e1 F_entityId_a1 E_a1 (Or.inr ⟨(ww hw 164 rfl), rfl, hnm⟩) (ww hw 49 rfl) (ty := (.object "java/lang/String")) (by decide) rfl rfl (g := (mkF m 6 #[vr a1, vr a2, vr a3, vr a4] [(.ref a2), (.ref a1)])) rfl rfl (hb hby d28_6)
  have N2 := Fr.snoc X2 N1 g_a1
  replace F_entityId_a1 := F_entityId_a1.same W2
  replace F_metadata_a1 := F_metadata_a1.other W2 (Or.inr (slot_ne (Or.inr (ww hw 166 rfl)) (Or.inr (ww hw 164 rfl)) (by decide) (t := (.object "java/lang/String")) (t' := (.object "java/lang/String")) (by decide) (by decide)))
  replace F_assertionConsumer_a1 := F_assertionConsumer_a1.other W2 (Or.inr (slot_ne (Or.inr (ww hw 168 rfl)) (Or.inr (ww hw 164 rfl)) (by decide) (t := (.object "java/lang/String")) (t' := (.object "java/lang/String")) (by decide) (by decide)))
  replace E_a1 := E_a1.wr W2
  replace O0 := O0.wr W2 g_a1
  replace KC := KC.wr W2 (Or.inl (List.mem_of_getElem? (i := 0) rfl))
  obtain ⟨T3, h3, X3, e3, W3, st3⟩ := putF X2 hx hZ hown (host := "") (Or.inl (ww hw 165 rfl)) Via.refl e2 F_metadata_a1 E_a1 (Or.inr ⟨(ww hw 166 rfl), rfl, hnm⟩) (ww hw 49 rfl) (ty := (.object "java/lang/String")) (by decide) rfl rfl (g := (mkF m 11 #[vr a1, vr a2, vr a3, vr a4] [(.ref a3), (.ref a1)])) rfl rfl (hb hby d28_11)
  have N3 := Fr.snoc X3 N2 g_a1
  replace F_metadata_a1 := F_metadata_a1.same W3
  replace F_entityId_a1 := F_entityId_a1.other W3 (Or.inr (slot_ne (Or.inr (ww hw 164 rfl)) (Or.inr (ww hw 166 rfl)) (by decide) (t := (.object "java/lang/String")) (t' := (.object "java/lang/String")) (by decide) (by decide)))
  replace F_assertionConsumer_a1 := F_assertionConsumer_a1.other W3 (Or.inr (slot_ne (Or.inr (ww hw 168 rfl)) (Or.inr (ww hw 166 rfl)) (by decide) (t := (.object "java/lang/String")) (t' := (.object "java/lang/String")) (by decide) (by decide)))
  replace E_a1 := E_a1.wr W3
  replace O0 := O0.wr W3 g_a1
  replace KC := KC.wr W3 (Or.inl (List.mem_of_getElem? (i := 0) rfl))
  obtain ⟨T4, h4, X4, e4, W4, st4⟩ := putF X3 hx hZ hown (host := "") (Or.inl (ww hw 167 rfl)) Via.refl e3 F_assertionConsumer_a1 E_a1 (Or.inr ⟨(ww hw 168 rfl), rfl, hnm⟩) (ww hw 49 rfl) (ty := (.object "java/lang/String")) (by decide) rfl rfl (g := (mkF m 16 #[vr a1, vr a2, vr a3, vr a4] [(.ref a4), (.ref a1)])) rfl rfl (hb hby d28_16)
  have N4 := Fr.snoc X4 N3 g_a1
  replace F_assertionConsumer_a1 := F_assertionConsumer_a1.same W4
  replace F_entityId_a1 := F_entityId_a1.other W4 (Or.inr (slot_ne (Or.inr (ww hw 164 rfl)) (Or.inr (ww hw 168 rfl)) (by decide) (t := (.object "java/lang/String")) (t' := (.object "java/lang/String")) (by decide) (by decide)))
  replace F_metadata_a1 := F_metadata_a1.other W4 (Or.inr (slot_ne (Or.inr (ww hw 166 rfl)) (Or.inr (ww hw 168 rfl)) (by decide) (t := (.object "java/lang/String")) (t' := (.object "java/lang/String")) (by decide) (by decide)))
  replace E_a1 := E_a1.wr W4
  replace O0 := O0.wr W4 g_a1
  replace KC := KC.wr W4 (Or.inl (List.mem_of_getElem? (i := 0) rfl))
  obtain ⟨fs, hr, hrun, hended, hW, hsame⟩ := X4.leave (v := none) (fun _ => rfl)
  refine ⟨_, _, pre0 _ ?_, hrun, hended, _, _, rfl, ?_, ⟨_, rfl⟩, hW, hsame.mono (by decide) (by decide)⟩
  · show SS p e below m s₁ 0 #[vr a1, vr a2, vr a3, vr a4] [] _
    refine XS.aloadN X0.here hx rfl (hb hby d28_0) rfl rfl ?_
    show SS p e below m s₁ 1 #[vr a1, vr a2, vr a3, vr a4] [(.ref a1)] _
    refine st1.trans ?_
    show SS p e below m T1 4 #[vr a1, vr a2, vr a3, vr a4] [] _
    refine XS.aloadN X1.here hx rfl (hb hby d28_4) rfl rfl ?_
    show SS p e below m T1 5 #[vr a1, vr a2, vr a3, vr a4] [(.ref a1)] _
    refine XS.aloadN X1.here hx rfl (hb hby d28_5) rfl rfl ?_
    show SS p e below m T1 6 #[vr a1, vr a2, vr a3, vr a4] [(.ref a2), (.ref a1)] _
    refine st2 _ ?_
    show SS p e below m T2 9 #[vr a1, vr a2, vr a3, vr a4] [] _
    refine XS.aloadN X2.here hx rfl (hb hby d28_9) rfl rfl ?_
    show SS p e below m T2 10 #[vr a1, vr a2, vr a3, vr a4] [(.ref a1)] _
    refine XS.aloadN X2.here hx rfl (hb hby d28_10) rfl rfl ?_
    show SS p e below m T2 11 #[vr a1, vr a2, vr a3, vr a4] [(.ref a3), (.ref a1)] _
    refine st3 _ ?_
    show SS p e below m T3 14 #[vr a1, vr a2, vr a3, vr a4] [] _
    refine XS.aloadN X3.here hx rfl (hb hby d28_14) rfl rfl ?_
    show SS p e below m T3 15 #[vr a1, vr a2, vr a3, vr a4] [(.ref a1)] _
    refine XS.aloadN X3.here hx rfl (hb hby d28_15) rfl rfl ?_
    show SS p e below m T3 16 #[vr a1, vr a2, vr a3, vr a4] [(.ref a4), (.ref a1)] _
    refine st4 _ ?_
    show SS p e below m T4 19 #[vr a1, vr a2, vr a3, vr a4] [] _
    exact X4.returnOut hx Bd.returns (hb hby d28_19) hr
  · show Q_rm_idi Z a1 a2 a3 a4 h0 n0 _ T4.heap _
    rw [e4]
    exact ⟨rfl, N4, KC, F_entityId_a1, F_metadata_a1, F_assertionConsumer_a1⟩
theorem d30_0 : decode prog_24_method_6_code 0 = .ok (.aload_n 0, 1) := by decide +kernel
theorem d30_1 : decode prog_24_method_6_code 1 = .ok (.getfield 7, 3) := by decide +kernel
theorem d30_4 : decode prog_24_method_6_code 4 = .ok (.areturn, 1) := by decide +kernel
theorem ef_rm_get_entityId (m : MethodId) (x0 : Addr) : entryFrame m #[(.ref x0)] 1 = mkF m 0 #[vr x0] [] := by first | (simp [entryFrame, mkF, argsToLocals, Value.category]; done) | rfl
def Q_rm_get_entityId (Z : State) (a1 : Addr) (sv : Addr) (h0 : Heap) (n0 : Nat) (v : Option Value) (h : Heap) (L : List Loc) : Prop := (v = some (.ref sv)) ∧ (Fr n0 L) ∧ (h = h0)
set_option maxRecDepth 65536 in
set_option maxHeartbeats 40000000 in
theorem rm_get_entityId (l : Launch) (Z : State) (a0 : Array Value) (hw : ∀ d ∈ tables_1, d.before a0 Z = true) (ws : List Jvm.Cond) (a1 : Addr) (sv : Addr) (h0 : Heap) (n0 : Nat) (Z0 : n0 ≤ h0.size) (O0 : Old Z n0 h0) (F_entityId_a1 : Fld Z h0 a1 "com/example/federant/federant/saml/HubEndpoints" "entityId" "Ljava/lang/String;" (.ref sv)) :
    MetFree l y_38 (head1 (Jvm.Cond.code y_38 prog_24_method_6_code 1 (some (.object "java/lang/String")) :: ws) ({ frames := 0, cells := 0, slots := 0, locals := 0 } : Room)) (fun a U => a = #[(.ref a1)] ∧ Z.Warmed39 U.vm ∧ U.heap = h0) (fun _ _ _ _ _ => True) (fun _ U o U' => ∃ v L, o = .returned v ∧ Q_rm_get_entityId Z a1 sv h0 n0 v U'.heap L ∧ FrameEnd U o U' L ({ frames := 0, cells := 0, slots := 0, locals := 0 } : Room).cells ({ frames := 0, cells := 0, slots := 0, locals := 0 } : Room).slots) := by
  refine MetFree.of_bodySF (plainFor_of_name pn_10) hisR ?_
  intro p e s m args below meth c s₁ Bd hml0 hP hK
  obtain ⟨rfl, hZ, hh⟩ := hP
  have hx := Bd.exec
  have hby := Bd.bytes
  have hml : c.maxLocals = 1 := hml0
  have hown : s.vm.findClass "com/example/federant/federant/saml/HubEndpoints" = some m.cls := findClass_of_methodNamed Bd.named
  have hnm := (name_of_methodNamed Bd.named Bd.method).1
  have X0 : Stand p l e ({ frames := 0, cells := 0, slots := 0, locals := 0 } : Room) s m #[(.ref a1)] below meth c s₁ [] 0 0 := Stand.of_body Bd
  have e0 : s₁.heap = h0 := by rw [← hh, Bd.state]; rfl
  have N0 := Fr.nil n0
  have KC : Keep h0 h0 [] := Keep.refl h0 _
  have pre0 : ∀ t, Steps p.tables e below (s₁.setTop (mkF m 0 #[vr a1] [])) t → Steps p.tables e below (s₁.setTop (entryFrame m #[(.ref a1)] 1)) t := fun t k => castTop (ef_rm_get_entityId m a1) k
  obtain ⟨T1, X1, e1, st1⟩ := getF X0 hx hZ hown (host := "") (Or.inl (ww hw 163 rfl)) Via.refl e0 F_entityId_a1 (g := (mkF m 1 #[vr a1] [(.ref a1)])) rfl rfl (hb hby d30_1)
  obtain ⟨fs, hr, hrun, hended, hW, hsame⟩ := X1.leave (v := some (.ref sv)) (fun h => by rw [Bd.returns] at h; cases h)
  refine ⟨_, _, pre0 _ ?_, hrun, hended, _, _, rfl, ?_, ⟨_, rfl⟩, hW, hsame.mono (by decide) (by decide)⟩
  · show SS p e below m s₁ 0 #[vr a1] [] _
    refine XS.aloadN X0.here hx rfl (hb hby d30_0) rfl rfl ?_
    show SS p e below m s₁ 1 #[vr a1] [(.ref a1)] _
    refine st1 _ ?_
    show SS p e below m T1 4 #[vr a1] [(.ref sv)] _
    jvm_step X1.here [X1.here.top, hx, (hb hby d30_4), X1.method', Bd.returns, Value.isRef, FieldType.isReference]
    first | (intro acts; rw [hr _ acts rfl rfl rfl]) | rw [hr _ _ rfl rfl rfl]
    exact Steps.refl _
  · show Q_rm_get_entityId Z a1 sv h0 n0 _ T1.heap _
    rw [e1]
    exact ⟨rfl, N0, rfl⟩
theorem d38_0 : decode prog_24_method_7_code 0 = .ok (.aload_n 0, 1) := by decide +kernel
theorem d38_1 : decode prog_24_method_7_code 1 = .ok (.getfield 13, 3) := by decide +kernel
theorem d38_4 : decode prog_24_method_7_code 4 = .ok (.areturn, 1) := by decide +kernel
theorem ef_rm_get_metadata (m : MethodId) (x0 : Addr) : entryFrame m #[(.ref x0)] 1 = mkF m 0 #[vr x0] [] := by first | (simp [entryFrame, mkF, argsToLocals, Value.category]; done) | rfl
def Q_rm_get_metadata (Z : State) (a1 : Addr) (sv : Addr) (h0 : Heap) (n0 : Nat) (v : Option Value) (h : Heap) (L : List Loc) : Prop := (v = some (.ref sv)) ∧ (Fr n0 L) ∧ (h = h0)
set_option maxRecDepth 65536 in
set_option maxHeartbeats 40000000 in
theorem rm_get_metadata (l : Launch) (Z : State) (a0 : Array Value) (hw : ∀ d ∈ tables_1, d.before a0 Z = true) (ws : List Jvm.Cond) (a1 : Addr) (sv : Addr) (h0 : Heap) (n0 : Nat) (Z0 : n0 ≤ h0.size) (O0 : Old Z n0 h0) (F_metadata_a1 : Fld Z h0 a1 "com/example/federant/federant/saml/HubEndpoints" "metadata" "Ljava/lang/String;" (.ref sv)) :
    MetFree l y_39 (head1 (Jvm.Cond.code y_39 prog_24_method_7_code 1 (some (.object "java/lang/String")) :: ws) ({ frames := 0, cells := 0, slots := 0, locals := 0 } : Room)) (fun a U => a = #[(.ref a1)] ∧ Z.Warmed39 U.vm ∧ U.heap = h0) (fun _ _ _ _ _ => True) (fun _ U o U' => ∃ v L, o = .returned v ∧ Q_rm_get_metadata Z a1 sv h0 n0 v U'.heap L ∧ FrameEnd U o U' L ({ frames := 0, cells := 0, slots := 0, locals := 0 } : Room).cells ({ frames := 0, cells := 0, slots := 0, locals := 0 } : Room).slots) := by
  refine MetFree.of_bodySF (plainFor_of_name pn_10) hisR ?_
  intro p e s m args below meth c s₁ Bd hml0 hP hK
  obtain ⟨rfl, hZ, hh⟩ := hP
  have hx := Bd.exec
  have hby := Bd.bytes
  have hml : c.maxLocals = 1 := hml0
  have hown : s.vm.findClass "com/example/federant/federant/saml/HubEndpoints" = some m.cls := findClass_of_methodNamed Bd.named
  have hnm := (name_of_methodNamed Bd.named Bd.method).1
  have X0 : Stand p l e ({ frames := 0, cells := 0, slots := 0, locals := 0 } : Room) s m #[(.ref a1)] below meth c s₁ [] 0 0 := Stand.of_body Bd
  have e0 : s₁.heap = h0 := by rw [← hh, Bd.state]; rfl
  have N0 := Fr.nil n0
  have KC : Keep h0 h0 [] := Keep.refl h0 _
  have pre0 : ∀ t, Steps p.tables e below (s₁.setTop (mkF m 0 #[vr a1] [])) t → Steps p.tables e below (s₁.setTop (entryFrame m #[(.ref a1)] 1)) t := fun t k => castTop (ef_rm_get_metadata m a1) k
  obtain ⟨T1, X1, e1, st1⟩ := getF X0 hx hZ hown (host := "") (Or.inl (ww hw 165 rfl)) Via.refl e0 F_metadata_a1 (g := (mkF m 1 #[vr a1] [(.ref a1)])) rfl rfl (hb hby d38_1)
  obtain ⟨fs, hr, hrun, hended, hW, hsame⟩ := X1.leave (v := some (.ref sv)) (fun h => by rw [Bd.returns] at h; cases h)
  refine ⟨_, _, pre0 _ ?_, hrun, hended, _, _, rfl, ?_, ⟨_, rfl⟩, hW, hsame.mono (by decide) (by decide)⟩
  · show SS p e below m s₁ 0 #[vr a1] [] _
    refine XS.aloadN X0.here hx rfl (hb hby d38_0) rfl rfl ?_
    show SS p e below m s₁ 1 #[vr a1] [(.ref a1)] _
    refine st1 _ ?_
    show SS p e below m T1 4 #[vr a1] [(.ref sv)] _
    jvm_step X1.here [X1.here.top, hx, (hb hby d38_4), X1.method', Bd.returns, Value.isRef, FieldType.isReference]
    first | (intro acts; rw [hr _ acts rfl rfl rfl]) | rw [hr _ _ rfl rfl rfl]
    exact Steps.refl _
  · show Q_rm_get_metadata Z a1 sv h0 n0 _ T1.heap _
    rw [e1]
    exact ⟨rfl, N0, rfl⟩
theorem d39_0 : decode prog_24_method_8_code 0 = .ok (.aload_n 0, 1) := by decide +kernel
theorem d39_1 : decode prog_24_method_8_code 1 = .ok (.getfield 16, 3) := by decide +kernel
theorem d39_4 : decode prog_24_method_8_code 4 = .ok (.areturn, 1) := by decide +kernel
theorem ef_rm_get_assertionConsumer (m : MethodId) (x0 : Addr) : entryFrame m #[(.ref x0)] 1 = mkF m 0 #[vr x0] [] := by first | (simp [entryFrame, mkF, argsToLocals, Value.category]; done) | rfl
def Q_rm_get_assertionConsumer (Z : State) (a1 : Addr) (sv : Addr) (h0 : Heap) (n0 : Nat) (v : Option Value) (h : Heap) (L : List Loc) : Prop := (v = some (.ref sv)) ∧ (Fr n0 L) ∧ (h = h0)
set_option maxRecDepth 65536 in
set_option maxHeartbeats 40000000 in
theorem rm_get_assertionConsumer (l : Launch) (Z : State) (a0 : Array Value) (hw : ∀ d ∈ tables_1, d.before a0 Z = true) (ws : List Jvm.Cond) (a1 : Addr) (sv : Addr) (h0 : Heap) (n0 : Nat) (Z0 : n0 ≤ h0.size) (O0 : Old Z n0 h0) (F_assertionConsumer_a1 : Fld Z h0 a1 "com/example/federant/federant/saml/HubEndpoints" "assertionConsumer" "Ljava/lang/String;" (.ref sv)) :
    MetFree l y_40 (head1 (Jvm.Cond.code y_40 prog_24_method_8_code 1 (some (.object "java/lang/String")) :: ws) ({ frames := 0, cells := 0, slots := 0, locals := 0 } : Room)) (fun a U => a = #[(.ref a1)] ∧ Z.Warmed39 U.vm ∧ U.heap = h0) (fun _ _ _ _ _ => True) (fun _ U o U' => ∃ v L, o = .returned v ∧ Q_rm_get_assertionConsumer Z a1 sv h0 n0 v U'.heap L ∧ FrameEnd U o U' L ({ frames := 0, cells := 0, slots := 0, locals := 0 } : Room).cells ({ frames := 0, cells := 0, slots := 0, locals := 0 } : Room).slots) := by
  refine MetFree.of_bodySF (plainFor_of_name pn_10) hisR ?_
  intro p e s m args below meth c s₁ Bd hml0 hP hK
  obtain ⟨rfl, hZ, hh⟩ := hP
  have hx := Bd.exec
  have hby := Bd.bytes
  have hml : c.maxLocals = 1 := hml0
  have hown : s.vm.findClass "com/example/federant/federant/saml/HubEndpoints" = some m.cls := findClass_of_methodNamed Bd.named
  have hnm := (name_of_methodNamed Bd.named Bd.method).1
  have X0 : Stand p l e ({ frames := 0, cells := 0, slots := 0, locals := 0 } : Room) s m #[(.ref a1)] below meth c s₁ [] 0 0 := Stand.of_body Bd
  have e0 : s₁.heap = h0 := by rw [← hh, Bd.state]; rfl
  have N0 := Fr.nil n0
  have KC : Keep h0 h0 [] := Keep.refl h0 _
  have pre0 : ∀ t, Steps p.tables e below (s₁.setTop (mkF m 0 #[vr a1] [])) t → Steps p.tables e below (s₁.setTop (entryFrame m #[(.ref a1)] 1)) t := fun t k => castTop (ef_rm_get_assertionConsumer m a1) k
  obtain ⟨T1, X1, e1, st1⟩ := getF X0 hx hZ hown (host := "") (Or.inl (ww hw 167 rfl)) Via.refl e0 F_assertionConsumer_a1 (g := (mkF m 1 #[vr a1] [(.ref a1)])) rfl rfl (hb hby d39_1)
  obtain ⟨fs, hr, hrun, hended, hW, hsame⟩ := X1.leave (v := some (.ref sv)) (fun h => by rw [Bd.returns] at h; cases h)
  refine ⟨_, _, pre0 _ ?_, hrun, hended, _, _, rfl, ?_, ⟨_, rfl⟩, hW, hsame.mono (by decide) (by decide)⟩
  · show SS p e below m s₁ 0 #[vr a1] [] _
    refine XS.aloadN X0.here hx rfl (hb hby d39_0) rfl rfl ?_
    show SS p e below m s₁ 1 #[vr a1] [(.ref a1)] _
    refine st1 _ ?_
    show SS p e below m T1 4 #[vr a1] [(.ref sv)] _
    jvm_step X1.here [X1.here.top, hx, (hb hby d39_4), X1.method', Bd.returns, Value.isRef, FieldType.isReference]
    first | (intro acts; rw [hr _ acts rfl rfl rfl]) | rw [hr _ _ rfl rfl rfl]
    exact Steps.refl _
  · show Q_rm_get_assertionConsumer Z a1 sv h0 n0 _ T1.heap _
    rw [e1]
    exact ⟨rfl, N0, rfl⟩
theorem pd_25 : parseMethodDescriptor "(Ljava/lang/String;)Z" = some ⟨[(.object "java/lang/String")], some .boolean⟩ := by decide +kernel
theorem pd_26 : parseMethodDescriptor "(Ljava/lang/String;)Ljava/lang/StringBuilder;" = some ⟨[(.object "java/lang/String")], some (.object "java/lang/StringBuilder")⟩ := by decide +kernel
theorem pd_27 : parseMethodDescriptor "()Ljava/lang/String;" = some ⟨[], some (.object "java/lang/String")⟩ := by decide +kernel
theorem pd_28 : parseMethodDescriptor "(Ljava/lang/String;Ljava/lang/String;Ljava/lang/String;)V" = some ⟨[(.object "java/lang/String"), (.object "java/lang/String"), (.object "java/lang/String")], none⟩ := by decide +kernel
theorem d4_0 : decode prog_24_method_2_code 0 = .ok (.aload_n 0, 1) := by decide +kernel
theorem d4_1 : decode prog_24_method_2_code 1 = .ok (.ldc 19, 2) := by decide +kernel
theorem d4_3 : decode prog_24_method_2_code 3 = .ok (.invokevirtual 21, 3) := by decide +kernel
theorem d4_6 : decode prog_24_method_2_code 6 = .ok (.ifCond .eq 30, 3) := by decide +kernel
theorem d4_36 : decode prog_24_method_2_code 36 = .ok (.new 8, 3) := by decide +kernel
theorem d4_39 : decode prog_24_method_2_code 39 = .ok (.dup, 1) := by decide +kernel
theorem d4_40 : decode prog_24_method_2_code 40 = .ok (.new 29, 3) := by decide +kernel
theorem d4_43 : decode prog_24_method_2_code 43 = .ok (.dup, 1) := by decide +kernel
theorem d4_44 : decode prog_24_method_2_code 44 = .ok (.invokespecial 31, 3) := by decide +kernel
theorem d4_47 : decode prog_24_method_2_code 47 = .ok (.aload_n 0, 1) := by decide +kernel
theorem d4_48 : decode prog_24_method_2_code 48 = .ok (.invokevirtual 34, 3) := by decide +kernel
theorem d4_51 : decode prog_24_method_2_code 51 = .ok (.ldc 45, 2) := by decide +kernel
theorem d4_53 : decode prog_24_method_2_code 53 = .ok (.invokevirtual 34, 3) := by decide +kernel
theorem d4_56 : decode prog_24_method_2_code 56 = .ok (.invokevirtual 38, 3) := by decide +kernel
theorem d4_59 : decode prog_24_method_2_code 59 = .ok (.new 29, 3) := by decide +kernel
theorem d4_62 : decode prog_24_method_2_code 62 = .ok (.dup, 1) := by decide +kernel
theorem d4_63 : decode prog_24_method_2_code 63 = .ok (.invokespecial 31, 3) := by decide +kernel
theorem d4_66 : decode prog_24_method_2_code 66 = .ok (.aload_n 0, 1) := by decide +kernel
theorem d4_67 : decode prog_24_method_2_code 67 = .ok (.invokevirtual 34, 3) := by decide +kernel
theorem d4_70 : decode prog_24_method_2_code 70 = .ok (.ldc 47, 2) := by decide +kernel
theorem d4_72 : decode prog_24_method_2_code 72 = .ok (.invokevirtual 34, 3) := by decide +kernel
theorem d4_75 : decode prog_24_method_2_code 75 = .ok (.invokevirtual 38, 3) := by decide +kernel
theorem d4_78 : decode prog_24_method_2_code 78 = .ok (.new 29, 3) := by decide +kernel
theorem d4_81 : decode prog_24_method_2_code 81 = .ok (.dup, 1) := by decide +kernel
theorem d4_82 : decode prog_24_method_2_code 82 = .ok (.invokespecial 31, 3) := by decide +kernel
theorem d4_85 : decode prog_24_method_2_code 85 = .ok (.aload_n 0, 1) := by decide +kernel
theorem d4_86 : decode prog_24_method_2_code 86 = .ok (.invokevirtual 34, 3) := by decide +kernel
theorem d4_89 : decode prog_24_method_2_code 89 = .ok (.ldc 49, 2) := by decide +kernel
theorem d4_91 : decode prog_24_method_2_code 91 = .ok (.invokevirtual 34, 3) := by decide +kernel
theorem d4_94 : decode prog_24_method_2_code 94 = .ok (.invokevirtual 38, 3) := by decide +kernel
theorem d4_97 : decode prog_24_method_2_code 97 = .ok (.invokespecial 51, 3) := by decide +kernel
theorem d4_100 : decode prog_24_method_2_code 100 = .ok (.areturn, 1) := by decide +kernel
theorem ef_rm_und (m : MethodId) (x0 : Addr) : entryFrame m #[(.ref x0)] 1 = mkF m 0 #[vr x0] [] := by first | (simp [entryFrame, mkF, argsToLocals, Value.category]; done) | rfl
def Q_rm_und (Z : State) (a1 : Addr) (ta : Addr) (k : ClassId) (z : Int32) (vs : List Value) (v1 : List Value) (wA : List Value) (mA : Int32) (uA : List Value) (wB : List Value) (mB : Int32) (uB : List Value) (wC : List Value) (mC : Int32) (uC : List Value) (zc : Int32) (h0 : Heap) (n0 : Nat) (v : Option Value) (h : Heap) (L : List Loc) : Prop := ∃ e0 : Addr, ∃ sA : Addr, ∃ tA : Addr, ∃ kA : ClassId, ∃ sB : Addr, ∃ tB : Addr, ∃ kB : ClassId, ∃ sC : Addr, ∃ tC : Addr, ∃ kC : ClassId, (v = some (.ref e0)) ∧ (Fr n0 L) ∧ (Keep h0 h []) ∧ (h0.size ≤ e0) ∧ (Exa Z h e0 "com/example/federant/federant/saml/HubEndpoints") ∧ (Fld Z h e0 "com/example/federant/federant/saml/HubEndpoints" "entityId" "Ljava/lang/String;" (.ref sA)) ∧ (Fld Z h e0 "com/example/federant/federant/saml/HubEndpoints" "metadata" "Ljava/lang/String;" (.ref sB)) ∧ (Fld Z h e0 "com/example/federant/federant/saml/HubEndpoints" "assertionConsumer" "Ljava/lang/String;" (.ref sC)) ∧ (Exa Z h sA "java/lang/String") ∧ (Fld Z h sA "java/lang/String" "value" "[B" (.ref tA)) ∧ (Fld Z h sA "java/lang/String" "coder" "B" (.int (0 : Int32))) ∧ (Arv Z h tA kA .byte mA uA (.int (0 : Int32))) ∧ (Exa Z h sB "java/lang/String") ∧ (Fld Z h sB "java/lang/String" "value" "[B" (.ref tB)) ∧ (Fld Z h sB "java/lang/String" "coder" "B" (.int (0 : Int32))) ∧ (Arv Z h tB kB .byte mB uB (.int (0 : Int32))) ∧ (Exa Z h sC "java/lang/String") ∧ (Fld Z h sC "java/lang/String" "value" "[B" (.ref tC)) ∧ (Fld Z h sC "java/lang/String" "coder" "B" (.int (0 : Int32))) ∧ (Arv Z h tC kC .byte mC uC (.int (0 : Int32)))
set_option maxRecDepth 65536 in
set_option maxHeartbeats 40000000 in
theorem rm_und (l : Launch) (Z : State) (a0 : Array Value) (hw : ∀ d ∈ tables_1, d.before a0 Z = true) (ws : List Jvm.Cond) (a1 : Addr) (ta : Addr) (k : ClassId) (z : Int32) (vs : List Value) (v1 : List Value) (wA : List Value) (mA : Int32) (uA : List Value) (wB : List Value) (mB : Int32) (uB : List Value) (wC : List Value) (mC : Int32) (uC : List Value) (zc : Int32) (h0 : Heap) (n0 : Nat) (Z0 : n0 ≤ h0.size) (O0 : Old Z n0 h0) (E_a1 : Exa Z h0 a1 "java/lang/String") (F_value_a1 : Fld Z h0 a1 "java/lang/String" "value" "[B" (.ref ta)) (F_coder_a1 : Fld Z h0 a1 "java/lang/String" "coder" "B" (.int (0 : Int32))) (V_ta : Arv Z h0 ta k .byte z vs (.int (0 : Int32))) (S_CS : Sta Z Z.heap "java/lang/String" "COMPACT_STRINGS" "Z" (.int zc)) (hz : ¬ zc = (0 : Int32)) (hD : (z = (0 : Int32)) ∨ (z = (1 : Int32) ∧ ∃ u : Int32, vs.getD (0 : Int32).toNatClampNeg (.int (0 : Int32)) = .int u ∧ ¬ u = (47 : Int32)) ∨ (z = (2 : Int32) ∧ ∃ u : Int32, vs.getD (1 : Int32).toNatClampNeg (.int (0 : Int32)) = .int u ∧ ¬ u = (47 : Int32)) ∨ (z = (3 : Int32) ∧ ∃ u : Int32, vs.getD (2 : Int32).toNatClampNeg (.int (0 : Int32)) = .int u ∧ ¬ u = (47 : Int32))) (hz0 : ¬ z < (0 : Int32)) (hf0 : (0 : Int32).toNatClampNeg + z.toNatClampNeg ≤ 16) (hv0 : ([(.int (0 : Int32)), (.int (0 : Int32)), (.int (0 : Int32)), (.int (0 : Int32)), (.int (0 : Int32)), (.int (0 : Int32)), (.int (0 : Int32)), (.int (0 : Int32)), (.int (0 : Int32)), (.int (0 : Int32)), (.int (0 : Int32)), (.int (0 : Int32)), (.int (0 : Int32)), (.int (0 : Int32)), (.int (0 : Int32)), (.int (0 : Int32))].take (0 : Int32).toNatClampNeg ++ ((List.range z.toNatClampNeg).map fun i => vs.getD ((0 : Int32).toNatClampNeg + i) (.int (0 : Int32))) ++ [(.int (0 : Int32)), (.int (0 : Int32)), (.int (0 : Int32)), (.int (0 : Int32)), (.int (0 : Int32)), (.int (0 : Int32)), (.int (0 : Int32)), (.int (0 : Int32)), (.int (0 : Int32)), (.int (0 : Int32)), (.int (0 : Int32)), (.int (0 : Int32)), (.int (0 : Int32)), (.int (0 : Int32)), (.int (0 : Int32)), (.int (0 : Int32))].drop ((0 : Int32).toNatClampNeg + z.toNatClampNeg)) = v1) (hl0 : ¬ (0 : Int32) < (((0 : Int32) + z) - (16 : Int32))) (hfA : z.toNatClampNeg + (3 : Int32).toNatClampNeg ≤ 16) (hnA : z.toNatClampNeg + (3 : Int32).toNatClampNeg ≤ v1.length) (hvA : (v1.take z.toNatClampNeg ++ ((List.range (3 : Int32).toNatClampNeg).map fun i => [(.int (47 : Int32)), (.int (115 : Int32)), (.int (112 : Int32))].getD ((0 : Int32).toNatClampNeg + i) (.int (0 : Int32))) ++ v1.drop (z.toNatClampNeg + (3 : Int32).toNatClampNeg)) = wA) (hlA : ¬ (0 : Int32) < ((z + (3 : Int32)) - (16 : Int32))) (hmA : z + (3 : Int32) = mA) (hpA : ¬ mA < (0 : Int32)) (htA : mA < (16 : Int32)) (hgA : mA.toNatClampNeg ≤ 16) (huA : ((List.replicate 16 (.int (0 : Int32))).take (0 : Int32).toNatClampNeg ++ ((List.range mA.toNatClampNeg).map fun i => wA.getD ((0 : Int32).toNatClampNeg + i) (.int (0 : Int32))) ++ (List.replicate 16 (.int (0 : Int32))).drop ((0 : Int32).toNatClampNeg + mA.toNatClampNeg)) = uA) (hfB : z.toNatClampNeg + (12 : Int32).toNatClampNeg ≤ 16) (hnB : z.toNatClampNeg + (12 : Int32).toNatClampNeg ≤ v1.length) (hvB : (v1.take z.toNatClampNeg ++ ((List.range (12 : Int32).toNatClampNeg).map fun i => [(.int (47 : Int32)), (.int (115 : Int32)), (.int (112 : Int32)), (.int (47 : Int32)), (.int (109 : Int32)), (.int (101 : Int32)), (.int (116 : Int32)), (.int (97 : Int32)), (.int (100 : Int32)), (.int (97 : Int32)), (.int (116 : Int32)), (.int (97 : Int32))].getD ((0 : Int32).toNatClampNeg + i) (.int (0 : Int32))) ++ v1.drop (z.toNatClampNeg + (12 : Int32).toNatClampNeg)) = wB) (hlB : ¬ (0 : Int32) < ((z + (12 : Int32)) - (16 : Int32))) (hmB : z + (12 : Int32) = mB) (hpB : ¬ mB < (0 : Int32)) (htB : mB < (16 : Int32)) (hgB : mB.toNatClampNeg ≤ 16) (huB : ((List.replicate 16 (.int (0 : Int32))).take (0 : Int32).toNatClampNeg ++ ((List.range mB.toNatClampNeg).map fun i => wB.getD ((0 : Int32).toNatClampNeg + i) (.int (0 : Int32))) ++ (List.replicate 16 (.int (0 : Int32))).drop ((0 : Int32).toNatClampNeg + mB.toNatClampNeg)) = uB) (hfC : z.toNatClampNeg + (7 : Int32).toNatClampNeg ≤ 16) (hnC : z.toNatClampNeg + (7 : Int32).toNatClampNeg ≤ v1.length) (hvC : (v1.take z.toNatClampNeg ++ ((List.range (7 : Int32).toNatClampNeg).map fun i => [(.int (47 : Int32)), (.int (115 : Int32)), (.int (112 : Int32)), (.int (47 : Int32)), (.int (97 : Int32)), (.int (99 : Int32)), (.int (115 : Int32))].getD ((0 : Int32).toNatClampNeg + i) (.int (0 : Int32))) ++ v1.drop (z.toNatClampNeg + (7 : Int32).toNatClampNeg)) = wC) (hlC : ¬ (0 : Int32) < ((z + (7 : Int32)) - (16 : Int32))) (hmC : z + (7 : Int32) = mC) (hpC : ¬ mC < (0 : Int32)) (htC : mC < (16 : Int32)) (hgC : mC.toNatClampNeg ≤ 16) (huC : ((List.replicate 16 (.int (0 : Int32))).take (0 : Int32).toNatClampNeg ++ ((List.range mC.toNatClampNeg).map fun i => wC.getD ((0 : Int32).toNatClampNeg + i) (.int (0 : Int32))) ++ (List.replicate 16 (.int (0 : Int32))).drop ((0 : Int32).toNatClampNeg + mC.toNatClampNeg)) = uC) :
    MetFree l y_41 (head1 (Jvm.Cond.code y_41 prog_24_method_2_code 1 (some (.object "com/example/federant/federant/saml/HubEndpoints")) :: ws) ({ frames := 6, cells := 21, slots := 231, locals := 95 } : Room)) (fun a U => a = #[(.ref a1)] ∧ Z.Warmed39 U.vm ∧ U.heap = h0 ∧ CHv Z EL U.vm h0) (fun _ _ _ _ _ => True) (fun _ U o U' => ∃ v L, o = .returned v ∧ Q_rm_und Z a1 ta k z vs v1 wA mA uA wB mB uB wC mC uC zc h0 n0 v U'.heap L ∧ CHr Z EL U.vm U.heap U'.vm U'.heap ∧ ReturnedEndW U o U' L ({ frames := 6, cells := 21, slots := 231, locals := 95 } : Room).cells ({ frames := 6, cells := 21, slots := 231, locals := 95 } : Room).slots) := by
  refine MetFree.of_bodySF (plainFor_of_name pn_10) hisR ?_
  intro p e s m args below meth c s₁ Bd hml0 hP hK
  obtain ⟨rfl, hZ0, hh, hC0⟩ := hP
  have hx := Bd.exec
  have hby := Bd.bytes
  have hml : c.maxLocals = 1 := hml0
  have hown : (s.setVm s.vm).vm.findClass "com/example/federant/federant/saml/HubEndpoints" = some m.cls := findClass_of_methodNamed Bd.named
  have hnm := (name_of_methodNamed Bd.named Bd.method).1
  have X0 : Stand p l e ({ frames := 6, cells := 21, slots := 231, locals := 95 } : Room) (s.setVm s.vm) m #[(.ref a1)] below meth c s₁ [] 0 0 := Stand.of_body Bd
  have e0 : s₁.heap = h0 := by rw [← hh, Bd.state]; rfl
  have N0 := Fr.nil n0
  have KC : Keep h0 h0 [] := Keep.refl h0 _
  have pre0 : ∀ t, Steps p.tables e below (s₁.setTop (mkF m 0 #[vr a1] [])) t → Steps p.tables e below (s₁.setTop (entryFrame m #[(.ref a1)] 1)) t := fun t k => castTop (ef_rm_und m a1) k
  have hZ : Z.Warmed39 (s.setVm s.vm).vm := hZ0
  have hEL := own_hEL hw
  have wS := own_wS hw
  have hS : s.Since s.vm 0 := (State.WarmedH.refl s).since 0
  have hk : 0 ≤ h0.size := Nat.zero_le _
  have hC : CHr Z EL s.vm h0 s.vm h0 := CHr.refl hC0
  obtain ⟨sa1, T1, h1, kx1, sb1, kc1, X1, e1, E1, hS1, hk1, hZ1, hown1, Ex1, Fc1, Fv1, Vv1, -, -, C1, -, nx1, st1⟩ := ldcCH X0 hx hZ hown (ww hw 26 rfl) wS e0 hS hk hEL (by decide) hC.1 (vs := [(.int (47 : Int32))]) (z := (1 : Int32)) ⟨by decide, by first | rfl | decide⟩ (by decide) (by first | rfl | decide) (g := (mkF m 1 #[vr a1] [(.ref a1)])) rfl (hb hby d4_1) (n := 4) (by decide) (by decide) (by decide) (by decide)
  replace E_a1 := E_a1.ext E1
  replace F_value_a1 := F_value_a1.ext E1
  replace F_coder_a1 := F_coder_a1.ext E1
  replace V_ta := V_ta.ext E1
  replace O0 := O0.ext E1
  replace KC := KC.ext E1
  replace hC := hC.trans C1
  replace hZ := hZ1
  replace hown := hown1
  replace hS := hS1
  replace hk := hk1
  obtain ⟨cq2, kq2, q2a, q2b, q2c⟩ := isOf hZ e1 E_a1
  obtain ⟨_, _, ⟨T2, L2, kz2, nz2⟩, -, X2, ⟨Lc2, hQ2, l2, y2, z2⟩, st2⟩ := X1.virtualBack hx (y := y_34) (z := y_34) hown (mvT hZ (ww hw 27 rfl)) (mvT hZ (ww hw 28 rfl)) (notFace_of_selects (args := #[]) (mvT hZ (ww hw 30 rfl))) (mvT hZ (ww hw 30 rfl)) (mvT hZ (ww hw 29 rfl)) (by decide) (backOf (W := 0) (rm_ew l Z a0 hw [] a1 sa1 ta k z vs sb1 kc1 (47 : Int32) zc h1 n0 (Nat.le_trans Z0 KC.1) O0 E_a1 F_value_a1 F_coder_a1 V_ta Ex1 Fv1 Fc1 Vv1 S_CS hz hD) hZ (ww hw 31 rfl) (ww hw 3 rfl) (by decide) (by decide)) q2a q2c (g := (mkF m 3 #[vr a1] [(.ref sa1), (.ref a1)])) rfl (by rw [hml]; rfl) (Steps.refl _) (argsL := [(.ref sa1)]) (rest := []) (lenOf pd_25 rfl) rfl (by show 2 * 0 + _ ≤ _; exact Nat.le_of_eq rfl) (hb hby d4_3) (fun _ _ => ⟨rfl, e1, (by decide : 2 + 0 ≤ _), (by decide : 8 + 0 ≤ _)⟩)
  dsimp only [Pt.U, Pt.locs, Pt.cells, Pt.slots] at X2 l2 y2 z2 st2 hQ2
  subst l2 y2 z2
  obtain ⟨rfl, N2q, e2⟩ := hQ2
  have N2 := Fr.app N0 N2q
  obtain ⟨T3, h3, X3, e3, E3, A3, D3, -, st3⟩ := newO X2 hx hZ hown (ww hw 48 rfl) (ww hw 49 rfl) (ww hw 24 rfl) e2 (g := (mkF m 36 #[vr a1] [])) rfl (hb hby d4_36) (by decide) (by decide)
  obtain ⟨b3, g3⟩ : ∃ z, z = h1.size := ⟨_, rfl⟩
  rw [← g3] at A3 D3 st3
  have ne_a1_b3 : a1 ≠ b3 := Nat.ne_of_lt (Nat.lt_of_lt_of_le E_a1.lt (Nat.le_of_eq g3.symm))
  have ne_ta_b3 : ta ≠ b3 := Nat.ne_of_lt (Nat.lt_of_lt_of_le V_ta.lt (Nat.le_of_eq g3.symm))
  have ne_sa1_b3 : sa1 ≠ b3 := Nat.ne_of_lt (Nat.lt_of_lt_of_le Ex1.lt (Nat.le_of_eq g3.symm))
  have ne_sb1_b3 : sb1 ≠ b3 := Nat.ne_of_lt (Nat.lt_of_lt_of_le Vv1.lt (Nat.le_of_eq g3.symm))
  have g_b3 : n0 ≤ b3 := Nat.le_trans (Nat.le_trans Z0 KC.1) (Nat.le_of_eq g3.symm)
  have sz_b3 : h0.size ≤ b3 := Nat.le_trans KC.1 (Nat.le_of_eq g3.symm)
  replace hk := Nat.le_trans hk E3.1
  replace hC := hC.trans (CHr.ext E3 hC.1)
  replace E_a1 := E_a1.ext E3
  replace F_value_a1 := F_value_a1.ext E3
  replace F_coder_a1 := F_coder_a1.ext E3
  replace V_ta := V_ta.ext E3
  replace Ex1 := Ex1.ext E3
  replace Fc1 := Fc1.ext E3
  replace Fv1 := Fv1.ext E3
  replace Vv1 := Vv1.ext E3
  replace O0 := O0.ext E3
  replace KC := KC.ext E3
  have F_entityId_b3 : Fld Z h3 b3 "com/example/federant/federant/saml/HubEndpoints" "entityId" "Ljava/lang/String;" .null := D3 (Or.inr (ww hw 164 rfl)) (ty := (.object "java/lang/String")) (by decide)
  have F_metadata_b3 : Fld Z h3 b3 "com/example/federant/federant/saml/HubEndpoints" "metadata" "Ljava/lang/String;" .null := D3 (Or.inr (ww hw 166 rfl)) (ty := (.object "java/lang/String")) (by decide)
  have F_assertionConsumer_b3 : Fld Z h3 b3 "com/example/federant/federant/saml/HubEndpoints" "assertionConsumer" "Ljava/lang/String;" .null := D3 (Or.inr (ww hw 168 rfl)) (ty := (.object "java/lang/String")) (by decide)
  obtain ⟨T4, h4, X4, e4, E4, A4, D4, -, st4⟩ := newO X3 hx hZ hown (ww hw 50 rfl) (ww hw 51 rfl) (ww hw 52 rfl) e3 (g := (mkF m 40 #[vr a1] [(.ref b3), (.ref b3)])) rfl (hb hby d4_40) (by decide) (by decide)
  obtain ⟨b4, g4⟩ : ∃ z, z = h3.size := ⟨_, rfl⟩
  rw [← g4] at A4 D4 st4
  have ne_a1_b4 : a1 ≠ b4 := Nat.ne_of_lt (Nat.lt_of_lt_of_le E_a1.lt (Nat.le_of_eq g4.symm))
  have ne_ta_b4 : ta ≠ b4 := Nat.ne_of_lt (Nat.lt_of_lt_of_le V_ta.lt (Nat.le_of_eq g4.symm))
  have ne_sa1_b4 : sa1 ≠ b4 := Nat.ne_of_lt (Nat.lt_of_lt_of_le Ex1.lt (Nat.le_of_eq g4.symm))
  have ne_sb1_b4 : sb1 ≠ b4 := Nat.ne_of_lt (Nat.lt_of_lt_of_le Vv1.lt (Nat.le_of_eq g4.symm))
  have ne_b3_b4 : b3 ≠ b4 := Nat.ne_of_lt (Nat.lt_of_lt_of_le A3.lt (Nat.le_of_eq g4.symm))
  have g_b4 : n0 ≤ b4 := Nat.le_trans (Nat.le_trans Z0 KC.1) (Nat.le_of_eq g4.symm)
  have sz_b4 : h0.size ≤ b4 := Nat.le_trans KC.1 (Nat.le_of_eq g4.symm)
  replace hk := Nat.le_trans hk E4.1
  replace hC := hC.trans (CHr.ext E4 hC.1)
  replace E_a1 := E_a1.ext E4
  replace F_value_a1 := F_value_a1.ext E4
  replace F_coder_a1 := F_coder_a1.ext E4
  replace V_ta := V_ta.ext E4
  replace Ex1 := Ex1.ext E4
  replace Fc1 := Fc1.ext E4
  replace Fv1 := Fv1.ext E4
  replace Vv1 := Vv1.ext E4
  replace A3 := A3.ext E4
  replace F_entityId_b3 := F_entityId_b3.ext E4
  replace F_metadata_b3 := F_metadata_b3.ext E4
  replace F_assertionConsumer_b3 := F_assertionConsumer_b3.ext E4
  replace O0 := O0.ext E4
  replace KC := KC.ext E4
  have F_value_b4 : Fld Z h4 b4 "java/lang/AbstractStringBuilder" "value" "[B" .null := D4 (Or.inl (ww hw 65 rfl)) (ty := (.array .byte)) (by decide)
  have F_coder_b4 : Fld Z h4 b4 "java/lang/AbstractStringBuilder" "coder" "B" (.int (0 : Int32)) := D4 (Or.inl (ww hw 67 rfl)) (ty := .byte) (by decide)
  have F_count_b4 : Fld Z h4 b4 "java/lang/AbstractStringBuilder" "count" "I" (.int (0 : Int32)) := D4 (Or.inl (ww hw 80 rfl)) (ty := .int) (by decide)
  obtain ⟨_, _, ⟨T5, L5, kz5, nz5⟩, -, X5, ⟨Lc5, hQ5, l5, y5, z5⟩, st5⟩ := X4.specialBack hx (y := y_9) rfl hown (mvT hZ (ww hw 53 rfl)) (mvT hZ (ww hw 54 rfl)) (mvT hZ (ww hw 55 rfl)) (by decide) (backOf (W := 3) (rm_sbi l Z a0 hw [] b4 zc h4 n0 (Nat.le_trans Z0 KC.1) O0 F_value_b4 F_coder_b4 F_count_b4 A4 g_b4 S_CS hz) hZ (ww hw 55 rfl) (ww hw 52 rfl) (by decide) (by decide)) (g := (mkF m 44 #[vr a1] [(.ref b4), (.ref b4), (.ref b3), (.ref b3)])) rfl (by rw [hml]; rfl) (Steps.refl _) (a := b4) (argsL := []) (rest := [(.ref b4), (.ref b3), (.ref b3)]) (lenOf pd_24 rfl) rfl (by show 2 * 0 + _ ≤ _; exact Nat.le_of_eq rfl) (hb hby d4_44) (fun _ _ => ⟨rfl, e4, (by decide : 4 + 1 ≤ _), (by decide : 15 + 16 ≤ _)⟩)
  dsimp only [Pt.U, Pt.locs, Pt.cells, Pt.slots] at X5 l5 y5 z5 st5 hQ5
  subst l5 y5 z5
  obtain ⟨b5_ta, k_5, rfl, N5q, K5, sz_b5_ta, F_value_a1_5, F_coder_a1_5, F_count_a1_5, V_ta_5⟩ := hQ5
  have N5 := Fr.app N2 N5q
  have Sf_b5_ta : Safe Z EL T1.vm h4 b5_ta := Safe.new sz_b5_ta
  have ne_a1_b5_ta : a1 ≠ b5_ta := Nat.ne_of_lt (Nat.lt_of_lt_of_le E_a1.lt sz_b5_ta)
  have ne_ta_b5_ta : ta ≠ b5_ta := Nat.ne_of_lt (Nat.lt_of_lt_of_le V_ta.lt sz_b5_ta)
  have ne_sa1_b5_ta : sa1 ≠ b5_ta := Nat.ne_of_lt (Nat.lt_of_lt_of_le Ex1.lt sz_b5_ta)
  have ne_sb1_b5_ta : sb1 ≠ b5_ta := Nat.ne_of_lt (Nat.lt_of_lt_of_le Vv1.lt sz_b5_ta)
  have ne_b3_b5_ta : b3 ≠ b5_ta := Nat.ne_of_lt (Nat.lt_of_lt_of_le A3.lt sz_b5_ta)
  have ne_b4_b5_ta : b4 ≠ b5_ta := Nat.ne_of_lt (Nat.lt_of_lt_of_le A4.lt sz_b5_ta)
  have g_b5_ta : n0 ≤ b5_ta := Nat.le_trans (Nat.le_trans Z0 KC.1) sz_b5_ta
  replace sz_b5_ta : h0.size ≤ b5_ta := Nat.le_trans KC.1 sz_b5_ta
  have hsf5 := (sfS (Safe.exa (EL := EL) hZ.alike A4 (by decide) (by decide)) sf0)
  replace Sf_b5_ta := Safe.keep K5 hsf5 hC.1 Sf_b5_ta
  replace hk := Nat.le_trans hk K5.1
  replace hC := hC.trans (CHr.keep K5 hsf5 hC.1)
  replace E_a1 := E_a1.keep K5
  replace F_value_a1 := F_value_a1.keep K5 (ninS ne_a1_b4 nin0)
  replace F_coder_a1 := F_coder_a1.keep K5 (ninS ne_a1_b4 nin0)
  replace V_ta := V_ta.keep K5 (ninS ne_ta_b4 nin0)
  replace Ex1 := Ex1.keep K5
  replace Fc1 := Fc1.keep K5 (ninS ne_sa1_b4 nin0)
  replace Fv1 := Fv1.keep K5 (ninS ne_sa1_b4 nin0)
  replace Vv1 := Vv1.keep K5 (ninS ne_sb1_b4 nin0)
  replace A3 := A3.keep K5
  replace F_entityId_b3 := F_entityId_b3.keep K5 (ninS ne_b3_b4 nin0)
  replace F_metadata_b3 := F_metadata_b3.keep K5 (ninS ne_b3_b4 nin0)
  replace F_assertionConsumer_b3 := F_assertionConsumer_b3.keep K5 (ninS ne_b3_b4 nin0)
  replace A4 := A4.keep K5
  replace O0 := O0.keep K5 (allS g_b4 all0)
  replace KC := KC.trans K5 (allS (Or.inr sz_b4) all0)
  obtain ⟨cq6, kq6, q6a, q6b, q6c⟩ := isOf hZ rfl A4
  obtain ⟨_, _, ⟨T6, L6, kz6, nz6⟩, -, X6, ⟨Lc6, hQ6, l6, y6, z6⟩, st6⟩ := X5.virtualBack hx (y := y_15) (z := y_15) hown (mvT hZ (ww hw 68 rfl)) (mvT hZ (ww hw 69 rfl)) (notFace_of_selects (args := #[]) (mvT hZ (ww hw 71 rfl))) (mvT hZ (ww hw 71 rfl)) (mvT hZ (ww hw 70 rfl)) (by decide) (backOf (W := 2) (rm_sap l Z a0 hw [] b4 a1 ta k z vs k_5 [(.int (0 : Int32)), (.int (0 : Int32)), (.int (0 : Int32)), (.int (0 : Int32)), (.int (0 : Int32)), (.int (0 : Int32)), (.int (0 : Int32)), (.int (0 : Int32)), (.int (0 : Int32)), (.int (0 : Int32)), (.int (0 : Int32)), (.int (0 : Int32)), (.int (0 : Int32)), (.int (0 : Int32)), (.int (0 : Int32)), (.int (0 : Int32))] v1 b5_ta (0 : Int32) z zc T5.heap n0 (Nat.le_trans Z0 KC.1) O0 F_value_a1_5 F_coder_a1_5 F_count_a1_5 A4 g_b4 E_a1 F_value_a1 F_coder_a1 V_ta V_ta_5 g_b5_ta ne_ta_b5_ta (Ne.symm ne_b4_b5_ta) ne_ta_b4 S_CS hz hl0 (by simp) (by decide) hz0 hf0 hf0 hv0) hZ (ww hw 72 rfl) (ww hw 52 rfl) (by decide) (by decide)) q6a q6c (g := (mkF m 48 #[vr a1] [(.ref a1), (.ref b4), (.ref b3), (.ref b3)])) rfl (by rw [hml]; rfl) (Steps.refl _) (argsL := [(.ref a1)]) (rest := [(.ref b3), (.ref b3)]) (lenOf pd_26 rfl) rfl (by show 2 * 0 + _ ≤ _; exact Nat.le_of_eq rfl) (hb hby d4_48) (fun _ _ => ⟨rfl, rfl, (by decide : 5 + 0 ≤ _), (by decide : 31 + 0 ≤ _)⟩)
  dsimp only [Pt.U, Pt.locs, Pt.cells, Pt.slots] at X6 l6 y6 z6 st6 hQ6
  subst l6 y6 z6
  obtain ⟨rfl, N6q, K6, F_value_a1_6, F_coder_a1_6, F_count_a1_6, V_tb_6⟩ := hQ6
  have N6 := Fr.app N5 N6q
  have hsf6 := (sfS (Safe.exa (EL := EL) hZ.alike A4 (by decide) (by decide)) (sfS Sf_b5_ta sf0))
  replace Sf_b5_ta := Safe.keep K6 hsf6 hC.1 Sf_b5_ta
  replace hk := Nat.le_trans hk K6.1
  replace hC := hC.trans (CHr.keep K6 hsf6 hC.1)
  replace E_a1 := E_a1.keep K6
  replace F_value_a1 := F_value_a1.keep K6 (ninS ne_a1_b4 (ninS ne_a1_b5_ta nin0))
  replace F_coder_a1 := F_coder_a1.keep K6 (ninS ne_a1_b4 (ninS ne_a1_b5_ta nin0))
  replace V_ta := V_ta.keep K6 (ninS ne_ta_b4 (ninS ne_ta_b5_ta nin0))
  replace Ex1 := Ex1.keep K6
  replace Fc1 := Fc1.keep K6 (ninS ne_sa1_b4 (ninS ne_sa1_b5_ta nin0))
  replace Fv1 := Fv1.keep K6 (ninS ne_sa1_b4 (ninS ne_sa1_b5_ta nin0))
  replace Vv1 := Vv1.keep K6 (ninS ne_sb1_b4 (ninS ne_sb1_b5_ta nin0))
  replace A3 := A3.keep K6
  replace F_entityId_b3 := F_entityId_b3.keep K6 (ninS ne_b3_b4 (ninS ne_b3_b5_ta nin0))
  replace F_metadata_b3 := F_metadata_b3.keep K6 (ninS ne_b3_b4 (ninS ne_b3_b5_ta nin0))
  replace F_assertionConsumer_b3 := F_assertionConsumer_b3.keep K6 (ninS ne_b3_b4 (ninS ne_b3_b5_ta nin0))
  replace A4 := A4.keep K6
  replace O0 := O0.keep K6 (allS g_b4 (allS g_b5_ta all0))
  replace KC := KC.trans K6 (allS (Or.inr sz_b4) (allS (Or.inr sz_b5_ta) all0))
  obtain ⟨sa7, T7, h7, kx7, sb7, kc7, X7, e7, E7, hS7, hk7, hZ7, hown7, Ex7, Fc7, Fv7, Vv7, -, -, C7, -, nx7, st7⟩ := ldcCH X6 hx hZ hown (ww hw 106 rfl) wS rfl hS hk hEL (by decide) hC.1 (vs := [(.int (47 : Int32)), (.int (115 : Int32)), (.int (112 : Int32))]) (z := (3 : Int32)) ⟨by decide, by first | rfl | decide⟩ (by decide) (by first | rfl | decide) (g := (mkF m 51 #[vr a1] [(.ref b4), (.ref b3), (.ref b3)])) rfl (hb hby d4_51) (n := 12) (by decide) (by decide) (by decide) (by decide)
  replace Sf_b5_ta := C7.safe V_tb_6.lt Sf_b5_ta
  replace E_a1 := E_a1.ext E7
  replace F_value_a1 := F_value_a1.ext E7
  replace F_coder_a1 := F_coder_a1.ext E7
  replace V_ta := V_ta.ext E7
  replace Ex1 := Ex1.ext E7
  replace Fc1 := Fc1.ext E7
  replace Fv1 := Fv1.ext E7
  replace Vv1 := Vv1.ext E7
  replace A3 := A3.ext E7
  replace F_entityId_b3 := F_entityId_b3.ext E7
  replace F_metadata_b3 := F_metadata_b3.ext E7
  replace F_assertionConsumer_b3 := F_assertionConsumer_b3.ext E7
  replace A4 := A4.ext E7
  replace F_value_a1_6 := F_value_a1_6.ext E7
  replace F_coder_a1_6 := F_coder_a1_6.ext E7
  replace F_count_a1_6 := F_count_a1_6.ext E7
  replace V_tb_6 := V_tb_6.ext E7
  replace O0 := O0.ext E7
  replace KC := KC.ext E7
  replace hC := hC.trans C7
  replace hZ := hZ7
  replace hown := hown7
  replace hS := hS7
  replace hk := hk7
  have nx7_b5_ta := nx7 _ Sf_b5_ta
  have nev_b4_sb7 : b4 ≠ sb7 := Exa.neArv A4 Vv7 (ww hw 51 rfl)
  obtain ⟨cq8, kq8, q8a, q8b, q8c⟩ := isOf hZ e7 A4
  obtain ⟨_, _, ⟨T8, L8, kz8, nz8⟩, -, X8, ⟨Lc8, hQ8, l8, y8, z8⟩, st8⟩ := X7.virtualBack hx (y := y_15) (z := y_15) hown (mvT hZ (ww hw 68 rfl)) (mvT hZ (ww hw 69 rfl)) (notFace_of_selects (args := #[]) (mvT hZ (ww hw 71 rfl))) (mvT hZ (ww hw 71 rfl)) (mvT hZ (ww hw 70 rfl)) (by decide) (backOf (W := 2) (rm_sap l Z a0 hw [] b4 sa7 sb7 kc7 (3 : Int32) [(.int (47 : Int32)), (.int (115 : Int32)), (.int (112 : Int32))] k_5 v1 wA b5_ta z mA zc h7 n0 (Nat.le_trans Z0 KC.1) O0 F_value_a1_6 F_coder_a1_6 F_count_a1_6 A4 g_b4 Ex7 Fv7 Fc7 Vv7 V_tb_6 g_b5_ta (Ne.symm nx7_b5_ta.2) (Ne.symm ne_b4_b5_ta) (Ne.symm nev_b4_sb7) S_CS hz hlA hmA hz0 (by decide) hfA hnA hvA) hZ (ww hw 72 rfl) (ww hw 52 rfl) (by decide) (by decide)) q8a q8c (g := (mkF m 53 #[vr a1] [(.ref sa7), (.ref b4), (.ref b3), (.ref b3)])) rfl (by rw [hml]; rfl) (Steps.refl _) (argsL := [(.ref sa7)]) (rest := [(.ref b3), (.ref b3)]) (lenOf pd_26 rfl) rfl (by show 2 * 0 + _ ≤ _; exact Nat.le_of_eq rfl) (hb hby d4_53) (fun _ _ => ⟨rfl, e7, (by decide : 7 + 0 ≤ _), (by decide : 47 + 0 ≤ _)⟩)
  dsimp only [Pt.U, Pt.locs, Pt.cells, Pt.slots] at X8 l8 y8 z8 st8 hQ8
  subst l8 y8 z8
  obtain ⟨rfl, N8q, K8, F_value_a1_8, F_coder_a1_8, F_count_a1_8, V_tb_8⟩ := hQ8
  have N8 := Fr.app N6 N8q
  have nec_sa7_b4 : sa7 ≠ b4 := Exa.ne Ex7 A4 (by decide)
  have hsf8 := (sfS (Safe.exa (EL := EL) hZ.alike A4 (by decide) (by decide)) (sfS Sf_b5_ta sf0))
  replace Sf_b5_ta := Safe.keep K8 hsf8 hC.1 Sf_b5_ta
  replace hk := Nat.le_trans hk K8.1
  replace hC := hC.trans (CHr.keep K8 hsf8 hC.1)
  replace E_a1 := E_a1.keep K8
  replace F_value_a1 := F_value_a1.keep K8 (ninS ne_a1_b4 (ninS ne_a1_b5_ta nin0))
  replace F_coder_a1 := F_coder_a1.keep K8 (ninS ne_a1_b4 (ninS ne_a1_b5_ta nin0))
  replace V_ta := V_ta.keep K8 (ninS ne_ta_b4 (ninS ne_ta_b5_ta nin0))
  replace Ex1 := Ex1.keep K8
  replace Fc1 := Fc1.keep K8 (ninS ne_sa1_b4 (ninS ne_sa1_b5_ta nin0))
  replace Fv1 := Fv1.keep K8 (ninS ne_sa1_b4 (ninS ne_sa1_b5_ta nin0))
  replace Vv1 := Vv1.keep K8 (ninS ne_sb1_b4 (ninS ne_sb1_b5_ta nin0))
  replace A3 := A3.keep K8
  replace F_entityId_b3 := F_entityId_b3.keep K8 (ninS ne_b3_b4 (ninS ne_b3_b5_ta nin0))
  replace F_metadata_b3 := F_metadata_b3.keep K8 (ninS ne_b3_b4 (ninS ne_b3_b5_ta nin0))
  replace F_assertionConsumer_b3 := F_assertionConsumer_b3.keep K8 (ninS ne_b3_b4 (ninS ne_b3_b5_ta nin0))
  replace A4 := A4.keep K8
  replace Ex7 := Ex7.keep K8
  replace Fc7 := Fc7.keep K8 (ninS nec_sa7_b4 (ninS (Ne.symm nx7_b5_ta.1) nin0))
  replace Fv7 := Fv7.keep K8 (ninS nec_sa7_b4 (ninS (Ne.symm nx7_b5_ta.1) nin0))
  replace Vv7 := Vv7.keep K8 (ninS (Ne.symm nev_b4_sb7) (ninS (Ne.symm nx7_b5_ta.2) nin0))
  replace O0 := O0.keep K8 (allS g_b4 (allS g_b5_ta all0))
  replace KC := KC.trans K8 (allS (Or.inr sz_b4) (allS (Or.inr sz_b5_ta) all0))
  obtain ⟨cq9, kq9, q9a, q9b, q9c⟩ := isOf hZ rfl A4
  obtain ⟨_, _, ⟨T9, L9, kz9, nz9⟩, -, X9, ⟨Lc9, hQ9, l9, y9, z9⟩, st9⟩ := X8.virtualBack hx (y := y_25) (z := y_25) hown (mvT hZ (ww hw 107 rfl)) (mvT hZ (ww hw 108 rfl)) (notFace_of_selects (args := #[]) (mvT hZ (ww hw 110 rfl))) (mvT hZ (ww hw 110 rfl)) (mvT hZ (ww hw 109 rfl)) (by decide) (backOf (W := 2) (rm_tos l Z a0 hw [] b4 b5_ta mA k_5 wA uA zc T8.heap n0 (Nat.le_trans Z0 KC.1) O0 F_value_a1_8 F_coder_a1_8 F_count_a1_8 A4 V_tb_8 S_CS hz hpA htA hgA huA) hZ (ww hw 111 rfl) (ww hw 52 rfl) (by decide) (by decide)) q9a q9c (g := (mkF m 56 #[vr a1] [(.ref b4), (.ref b3), (.ref b3)])) rfl (by rw [hml]; rfl) (Steps.refl _) (argsL := []) (rest := [(.ref b3), (.ref b3)]) (lenOf pd_27 rfl) rfl (by show 2 * 0 + _ ≤ _; exact Nat.le_of_eq rfl) (hb hby d4_56) (fun _ _ => ⟨rfl, rfl, (by decide : 7 + 2 ≤ _), (by decide : 47 + 20 ≤ _)⟩)
  dsimp only [Pt.U, Pt.locs, Pt.cells, Pt.slots] at X9 l9 y9 z9 st9 hQ9
  subst l9 y9 z9
  obtain ⟨b9_s0, b9_b, k2_9, rfl, N9q, K9, sz_b9_s0, sz_b9_b, E_s0_9, F_value_s0_9, F_coder_s0_9, V_b_9⟩ := hQ9
  have N9 := Fr.app N8 N9q
  have Sf_b9_s0 : Safe Z EL T7.vm T8.heap b9_s0 := Safe.new sz_b9_s0
  have Sf_b9_b : Safe Z EL T7.vm T8.heap b9_b := Safe.new sz_b9_b
  have ne_a1_b9_s0 : a1 ≠ b9_s0 := Nat.ne_of_lt (Nat.lt_of_lt_of_le E_a1.lt sz_b9_s0)
  have ne_ta_b9_s0 : ta ≠ b9_s0 := Nat.ne_of_lt (Nat.lt_of_lt_of_le V_ta.lt sz_b9_s0)
  have ne_sa1_b9_s0 : sa1 ≠ b9_s0 := Nat.ne_of_lt (Nat.lt_of_lt_of_le Ex1.lt sz_b9_s0)
  have ne_sb1_b9_s0 : sb1 ≠ b9_s0 := Nat.ne_of_lt (Nat.lt_of_lt_of_le Vv1.lt sz_b9_s0)
  have ne_b3_b9_s0 : b3 ≠ b9_s0 := Nat.ne_of_lt (Nat.lt_of_lt_of_le A3.lt sz_b9_s0)
  have ne_b4_b9_s0 : b4 ≠ b9_s0 := Nat.ne_of_lt (Nat.lt_of_lt_of_le A4.lt sz_b9_s0)
  have ne_sa7_b9_s0 : sa7 ≠ b9_s0 := Nat.ne_of_lt (Nat.lt_of_lt_of_le Ex7.lt sz_b9_s0)
  have ne_sb7_b9_s0 : sb7 ≠ b9_s0 := Nat.ne_of_lt (Nat.lt_of_lt_of_le Vv7.lt sz_b9_s0)
  have ne_b5_ta_b9_s0 : b5_ta ≠ b9_s0 := Nat.ne_of_lt (Nat.lt_of_lt_of_le V_tb_8.lt sz_b9_s0)
  have g_b9_s0 : n0 ≤ b9_s0 := Nat.le_trans (Nat.le_trans Z0 KC.1) sz_b9_s0
  replace sz_b9_s0 : h0.size ≤ b9_s0 := Nat.le_trans KC.1 sz_b9_s0
  have ne_a1_b9_b : a1 ≠ b9_b := Nat.ne_of_lt (Nat.lt_of_lt_of_le E_a1.lt sz_b9_b)
  have ne_ta_b9_b : ta ≠ b9_b := Nat.ne_of_lt (Nat.lt_of_lt_of_le V_ta.lt sz_b9_b)
  have ne_sa1_b9_b : sa1 ≠ b9_b := Nat.ne_of_lt (Nat.lt_of_lt_of_le Ex1.lt sz_b9_b)
  have ne_sb1_b9_b : sb1 ≠ b9_b := Nat.ne_of_lt (Nat.lt_of_lt_of_le Vv1.lt sz_b9_b)
  have ne_b3_b9_b : b3 ≠ b9_b := Nat.ne_of_lt (Nat.lt_of_lt_of_le A3.lt sz_b9_b)
  have ne_b4_b9_b : b4 ≠ b9_b := Nat.ne_of_lt (Nat.lt_of_lt_of_le A4.lt sz_b9_b)
  have ne_sa7_b9_b : sa7 ≠ b9_b := Nat.ne_of_lt (Nat.lt_of_lt_of_le Ex7.lt sz_b9_b)
  have ne_sb7_b9_b : sb7 ≠ b9_b := Nat.ne_of_lt (Nat.lt_of_lt_of_le Vv7.lt sz_b9_b)
  have ne_b5_ta_b9_b : b5_ta ≠ b9_b := Nat.ne_of_lt (Nat.lt_of_lt_of_le V_tb_8.lt sz_b9_b)
  have g_b9_b : n0 ≤ b9_b := Nat.le_trans (Nat.le_trans Z0 KC.1) sz_b9_b
  replace sz_b9_b : h0.size ≤ b9_b := Nat.le_trans KC.1 sz_b9_b
  replace Sf_b5_ta := Safe.keep K9 sf0 hC.1 Sf_b5_ta
  replace Sf_b9_s0 := Safe.keep K9 sf0 hC.1 Sf_b9_s0
  replace Sf_b9_b := Safe.keep K9 sf0 hC.1 Sf_b9_b
  replace hk := Nat.le_trans hk K9.1
  replace hC := hC.trans (CHr.keep K9 sf0 hC.1)
  replace E_a1 := E_a1.keep K9
  replace F_value_a1 := F_value_a1.keep K9 nin0
  replace F_coder_a1 := F_coder_a1.keep K9 nin0
  replace V_ta := V_ta.keep K9 nin0
  replace Ex1 := Ex1.keep K9
  replace Fc1 := Fc1.keep K9 nin0
  replace Fv1 := Fv1.keep K9 nin0
  replace Vv1 := Vv1.keep K9 nin0
  replace A3 := A3.keep K9
  replace F_entityId_b3 := F_entityId_b3.keep K9 nin0
  replace F_metadata_b3 := F_metadata_b3.keep K9 nin0
  replace F_assertionConsumer_b3 := F_assertionConsumer_b3.keep K9 nin0
  replace A4 := A4.keep K9
  replace Ex7 := Ex7.keep K9
  replace Fc7 := Fc7.keep K9 nin0
  replace Fv7 := Fv7.keep K9 nin0
  replace Vv7 := Vv7.keep K9 nin0
  replace F_value_a1_8 := F_value_a1_8.keep K9 nin0
  replace F_coder_a1_8 := F_coder_a1_8.keep K9 nin0
  replace F_count_a1_8 := F_count_a1_8.keep K9 nin0
  replace V_tb_8 := V_tb_8.keep K9 nin0
  replace O0 := O0.keep K9 all0
  replace KC := KC.trans K9 all0
  obtain ⟨T10, h10, X10, e10, E10, A10, D10, -, st10⟩ := newO X9 hx hZ hown (ww hw 50 rfl) (ww hw 51 rfl) (ww hw 52 rfl) rfl (g := (mkF m 59 #[vr a1] [(.ref b9_s0), (.ref b3), (.ref b3)])) rfl (hb hby d4_59) (by decide) (by decide)
  obtain ⟨b10, g10⟩ : ∃ z, z = T9.heap.size := ⟨_, rfl⟩
  rw [← g10] at A10 D10 st10
  have ne_a1_b10 : a1 ≠ b10 := Nat.ne_of_lt (Nat.lt_of_lt_of_le E_a1.lt (Nat.le_of_eq g10.symm))
  have ne_ta_b10 : ta ≠ b10 := Nat.ne_of_lt (Nat.lt_of_lt_of_le V_ta.lt (Nat.le_of_eq g10.symm))
  have ne_b3_b10 : b3 ≠ b10 := Nat.ne_of_lt (Nat.lt_of_lt_of_le A3.lt (Nat.le_of_eq g10.symm))
  have ne_b9_s0_b10 : b9_s0 ≠ b10 := Nat.ne_of_lt (Nat.lt_of_lt_of_le E_s0_9.lt (Nat.le_of_eq g10.symm))
  have ne_b9_b_b10 : b9_b ≠ b10 := Nat.ne_of_lt (Nat.lt_of_lt_of_le V_b_9.lt (Nat.le_of_eq g10.symm))
  have g_b10 : n0 ≤ b10 := Nat.le_trans (Nat.le_trans Z0 KC.1) (Nat.le_of_eq g10.symm)
  have sz_b10 : h0.size ≤ b10 := Nat.le_trans KC.1 (Nat.le_of_eq g10.symm)
  replace hk := Nat.le_trans hk E10.1
  replace hC := hC.trans (CHr.ext E10 hC.1)
  replace E_a1 := E_a1.ext E10
  replace F_value_a1 := F_value_a1.ext E10
  replace F_coder_a1 := F_coder_a1.ext E10
  replace V_ta := V_ta.ext E10
  replace A3 := A3.ext E10
  replace F_entityId_b3 := F_entityId_b3.ext E10
  replace F_metadata_b3 := F_metadata_b3.ext E10
  replace F_assertionConsumer_b3 := F_assertionConsumer_b3.ext E10
  replace E_s0_9 := E_s0_9.ext E10
  replace F_value_s0_9 := F_value_s0_9.ext E10
  replace F_coder_s0_9 := F_coder_s0_9.ext E10
  replace V_b_9 := V_b_9.ext E10
  replace O0 := O0.ext E10
  replace KC := KC.ext E10
  have F_value_b10 : Fld Z h10 b10 "java/lang/AbstractStringBuilder" "value" "[B" .null := D10 (Or.inl (ww hw 65 rfl)) (ty := (.array .byte)) (by decide)
  have F_coder_b10 : Fld Z h10 b10 "java/lang/AbstractStringBuilder" "coder" "B" (.int (0 : Int32)) := D10 (Or.inl (ww hw 67 rfl)) (ty := .byte) (by decide)
  have F_count_b10 : Fld Z h10 b10 "java/lang/AbstractStringBuilder" "count" "I" (.int (0 : Int32)) := D10 (Or.inl (ww hw 80 rfl)) (ty := .int) (by decide)
  obtain ⟨_, _, ⟨T11, L11, kz11, nz11⟩, -, X11, ⟨Lc11, hQ11, l11, y11, z11⟩, st11⟩ := X10.specialBack hx (y := y_9) rfl hown (mvT hZ (ww hw 53 rfl)) (mvT hZ (ww hw 54 rfl)) (mvT hZ (ww hw 55 rfl)) (by decide) (backOf (W := 4) (rm_sbi l Z a0 hw [] b10 zc h10 n0 (Nat.le_trans Z0 KC.1) O0 F_value_b10 F_coder_b10 F_count_b10 A10 g_b10 S_CS hz) hZ (ww hw 55 rfl) (ww hw 52 rfl) (by decide) (by decide)) (g := (mkF m 63 #[vr a1] [(.ref b10), (.ref b10), (.ref b9_s0), (.ref b3), (.ref b3)])) rfl (by rw [hml]; rfl) (Steps.refl _) (a := b10) (argsL := []) (rest := [(.ref b10), (.ref b9_s0), (.ref b3), (.ref b3)]) (lenOf pd_24 rfl) rfl (by show 2 * 0 + _ ≤ _; exact Nat.le_of_eq rfl) (hb hby d4_63) (fun _ _ => ⟨rfl, e10, (by decide : 10 + 1 ≤ _), (by decide : 71 + 16 ≤ _)⟩)
  dsimp only [Pt.U, Pt.locs, Pt.cells, Pt.slots] at X11 l11 y11 z11 st11 hQ11
  subst l11 y11 z11
  obtain ⟨b11_ta, k_11, rfl, N11q, K11, sz_b11_ta, F_value_a1_11, F_coder_a1_11, F_count_a1_11, V_ta_11⟩ := hQ11
  have N11 := Fr.app N9 N11q
  have Sf_b11_ta : Safe Z EL T7.vm h10 b11_ta := Safe.new sz_b11_ta
  have ne_a1_b11_ta : a1 ≠ b11_ta := Nat.ne_of_lt (Nat.lt_of_lt_of_le E_a1.lt sz_b11_ta)
  have ne_ta_b11_ta : ta ≠ b11_ta := Nat.ne_of_lt (Nat.lt_of_lt_of_le V_ta.lt sz_b11_ta)
  have ne_b3_b11_ta : b3 ≠ b11_ta := Nat.ne_of_lt (Nat.lt_of_lt_of_le A3.lt sz_b11_ta)
  have ne_b9_s0_b11_ta : b9_s0 ≠ b11_ta := Nat.ne_of_lt (Nat.lt_of_lt_of_le E_s0_9.lt sz_b11_ta)
  have ne_b9_b_b11_ta : b9_b ≠ b11_ta := Nat.ne_of_lt (Nat.lt_of_lt_of_le V_b_9.lt sz_b11_ta)
  have ne_b10_b11_ta : b10 ≠ b11_ta := Nat.ne_of_lt (Nat.lt_of_lt_of_le A10.lt sz_b11_ta)
  have g_b11_ta : n0 ≤ b11_ta := Nat.le_trans (Nat.le_trans Z0 KC.1) sz_b11_ta
  replace sz_b11_ta : h0.size ≤ b11_ta := Nat.le_trans KC.1 sz_b11_ta
  have hsf11 := (sfS (Safe.exa (EL := EL) hZ.alike A10 (by decide) (by decide)) sf0)
  replace Sf_b11_ta := Safe.keep K11 hsf11 hC.1 Sf_b11_ta
  replace hk := Nat.le_trans hk K11.1
  replace hC := hC.trans (CHr.keep K11 hsf11 hC.1)
  replace E_a1 := E_a1.keep K11
  replace F_value_a1 := F_value_a1.keep K11 (ninS ne_a1_b10 nin0)
  replace F_coder_a1 := F_coder_a1.keep K11 (ninS ne_a1_b10 nin0)
  replace V_ta := V_ta.keep K11 (ninS ne_ta_b10 nin0)
  replace A3 := A3.keep K11
  replace F_entityId_b3 := F_entityId_b3.keep K11 (ninS ne_b3_b10 nin0)
  replace F_metadata_b3 := F_metadata_b3.keep K11 (ninS ne_b3_b10 nin0)
  replace F_assertionConsumer_b3 := F_assertionConsumer_b3.keep K11 (ninS ne_b3_b10 nin0)
  replace E_s0_9 := E_s0_9.keep K11
  replace F_value_s0_9 := F_value_s0_9.keep K11 (ninS ne_b9_s0_b10 nin0)
  replace F_coder_s0_9 := F_coder_s0_9.keep K11 (ninS ne_b9_s0_b10 nin0)
  replace V_b_9 := V_b_9.keep K11 (ninS ne_b9_b_b10 nin0)
  replace A10 := A10.keep K11
  replace O0 := O0.keep K11 (allS g_b10 all0)
  replace KC := KC.trans K11 (allS (Or.inr sz_b10) all0)
  obtain ⟨cq12, kq12, q12a, q12b, q12c⟩ := isOf hZ rfl A10
  obtain ⟨_, _, ⟨T12, L12, kz12, nz12⟩, -, X12, ⟨Lc12, hQ12, l12, y12, z12⟩, st12⟩ := X11.virtualBack hx (y := y_15) (z := y_15) hown (mvT hZ (ww hw 68 rfl)) (mvT hZ (ww hw 69 rfl)) (notFace_of_selects (args := #[]) (mvT hZ (ww hw 71 rfl))) (mvT hZ (ww hw 71 rfl)) (mvT hZ (ww hw 70 rfl)) (by decide) (backOf (W := 3) (rm_sap l Z a0 hw [] b10 a1 ta k z vs k_11 [(.int (0 : Int32)), (.int (0 : Int32)), (.int (0 : Int32)), (.int (0 : Int32)), (.int (0 : Int32)), (.int (0 : Int32)), (.int (0 : Int32)), (.int (0 : Int32)), (.int (0 : Int32)), (.int (0 : Int32)), (.int (0 : Int32)), (.int (0 : Int32)), (.int (0 : Int32)), (.int (0 : Int32)), (.int (0 : Int32)), (.int (0 : Int32))] v1 b11_ta (0 : Int32) z zc T11.heap n0 (Nat.le_trans Z0 KC.1) O0 F_value_a1_11 F_coder_a1_11 F_count_a1_11 A10 g_b10 E_a1 F_value_a1 F_coder_a1 V_ta V_ta_11 g_b11_ta ne_ta_b11_ta (Ne.symm ne_b10_b11_ta) ne_ta_b10 S_CS hz hl0 (by simp) (by decide) hz0 hf0 hf0 hv0) hZ (ww hw 72 rfl) (ww hw 52 rfl) (by decide) (by decide)) q12a q12c (g := (mkF m 67 #[vr a1] [(.ref a1), (.ref b10), (.ref b9_s0), (.ref b3), (.ref b3)])) rfl (by rw [hml]; rfl) (Steps.refl _) (argsL := [(.ref a1)]) (rest := [(.ref b9_s0), (.ref b3), (.ref b3)]) (lenOf pd_26 rfl) rfl (by show 2 * 0 + _ ≤ _; exact Nat.le_of_eq rfl) (hb hby d4_67) (fun _ _ => ⟨rfl, rfl, (by decide : 11 + 0 ≤ _), (by decide : 87 + 0 ≤ _)⟩)
  dsimp only [Pt.U, Pt.locs, Pt.cells, Pt.slots] at X12 l12 y12 z12 st12 hQ12
  subst l12 y12 z12
  obtain ⟨rfl, N12q, K12, F_value_a1_12, F_coder_a1_12, F_count_a1_12, V_tb_12⟩ := hQ12
  have N12 := Fr.app N11 N12q
  have hsf12 := (sfS (Safe.exa (EL := EL) hZ.alike A10 (by decide) (by decide)) (sfS Sf_b11_ta sf0))
  replace Sf_b11_ta := Safe.keep K12 hsf12 hC.1 Sf_b11_ta
  replace hk := Nat.le_trans hk K12.1
  replace hC := hC.trans (CHr.keep K12 hsf12 hC.1)
  replace E_a1 := E_a1.keep K12
  replace F_value_a1 := F_value_a1.keep K12 (ninS ne_a1_b10 (ninS ne_a1_b11_ta nin0))
  replace F_coder_a1 := F_coder_a1.keep K12 (ninS ne_a1_b10 (ninS ne_a1_b11_ta nin0))
  replace V_ta := V_ta.keep K12 (ninS ne_ta_b10 (ninS ne_ta_b11_ta nin0))
  replace A3 := A3.keep K12
  replace F_entityId_b3 := F_entityId_b3.keep K12 (ninS ne_b3_b10 (ninS ne_b3_b11_ta nin0))
  replace F_metadata_b3 := F_metadata_b3.keep K12 (ninS ne_b3_b10 (ninS ne_b3_b11_ta nin0))
  replace F_assertionConsumer_b3 := F_assertionConsumer_b3.keep K12 (ninS ne_b3_b10 (ninS ne_b3_b11_ta nin0))
  replace E_s0_9 := E_s0_9.keep K12
  replace F_value_s0_9 := F_value_s0_9.keep K12 (ninS ne_b9_s0_b10 (ninS ne_b9_s0_b11_ta nin0))
  replace F_coder_s0_9 := F_coder_s0_9.keep K12 (ninS ne_b9_s0_b10 (ninS ne_b9_s0_b11_ta nin0))
  replace V_b_9 := V_b_9.keep K12 (ninS ne_b9_b_b10 (ninS ne_b9_b_b11_ta nin0))
  replace A10 := A10.keep K12
  replace O0 := O0.keep K12 (allS g_b10 (allS g_b11_ta all0))
  replace KC := KC.trans K12 (allS (Or.inr sz_b10) (allS (Or.inr sz_b11_ta) all0))
  obtain ⟨sa13, T13, h13, kx13, sb13, kc13, X13, e13, E13, hS13, hk13, hZ13, hown13, Ex13, Fc13, Fv13, Vv13, -, -, C13, -, nx13, st13⟩ := ldcCH X12 hx hZ hown (ww hw 152 rfl) wS rfl hS hk hEL (by decide) hC.1 (vs := [(.int (47 : Int32)), (.int (115 : Int32)), (.int (112 : Int32)), (.int (47 : Int32)), (.int (109 : Int32)), (.int (101 : Int32)), (.int (116 : Int32)), (.int (97 : Int32)), (.int (100 : Int32)), (.int (97 : Int32)), (.int (116 : Int32)), (.int (97 : Int32))]) (z := (12 : Int32)) ⟨by decide, by first | rfl | decide⟩ (by decide) (by first | rfl | decide) (g := (mkF m 70 #[vr a1] [(.ref b10), (.ref b9_s0), (.ref b3), (.ref b3)])) rfl (hb hby d4_70) (n := 48) (by decide) (by decide) (by decide) (by decide)
  replace Sf_b11_ta := C13.safe V_tb_12.lt Sf_b11_ta
  replace E_a1 := E_a1.ext E13
  replace F_value_a1 := F_value_a1.ext E13
  replace F_coder_a1 := F_coder_a1.ext E13
  replace V_ta := V_ta.ext E13
  replace A3 := A3.ext E13
  replace F_entityId_b3 := F_entityId_b3.ext E13
  replace F_metadata_b3 := F_metadata_b3.ext E13
  replace F_assertionConsumer_b3 := F_assertionConsumer_b3.ext E13
  replace E_s0_9 := E_s0_9.ext E13
  replace F_value_s0_9 := F_value_s0_9.ext E13
  replace F_coder_s0_9 := F_coder_s0_9.ext E13
  replace V_b_9 := V_b_9.ext E13
  replace A10 := A10.ext E13
  replace F_value_a1_12 := F_value_a1_12.ext E13
  replace F_coder_a1_12 := F_coder_a1_12.ext E13
  replace F_count_a1_12 := F_count_a1_12.ext E13
  replace V_tb_12 := V_tb_12.ext E13
  replace O0 := O0.ext E13
  replace KC := KC.ext E13
  replace hC := hC.trans C13
  replace hZ := hZ13
  replace hown := hown13
  replace hS := hS13
  replace hk := hk13
  have nx13_b11_ta := nx13 _ Sf_b11_ta
  have nev_b10_sb13 : b10 ≠ sb13 := Exa.neArv A10 Vv13 (ww hw 51 rfl)
  obtain ⟨cq14, kq14, q14a, q14b, q14c⟩ := isOf hZ e13 A10
  obtain ⟨_, _, ⟨T14, L14, kz14, nz14⟩, -, X14, ⟨Lc14, hQ14, l14, y14, z14⟩, st14⟩ := X13.virtualBack hx (y := y_15) (z := y_15) hown (mvT hZ (ww hw 68 rfl)) (mvT hZ (ww hw 69 rfl)) (notFace_of_selects (args := #[]) (mvT hZ (ww hw 71 rfl))) (mvT hZ (ww hw 71 rfl)) (mvT hZ (ww hw 70 rfl)) (by decide) (backOf (W := 3) (rm_sap l Z a0 hw [] b10 sa13 sb13 kc13 (12 : Int32) [(.int (47 : Int32)), (.int (115 : Int32)), (.int (112 : Int32)), (.int (47 : Int32)), (.int (109 : Int32)), (.int (101 : Int32)), (.int (116 : Int32)), (.int (97 : Int32)), (.int (100 : Int32)), (.int (97 : Int32)), (.int (116 : Int32)), (.int (97 : Int32))] k_11 v1 wB b11_ta z mB zc h13 n0 (Nat.le_trans Z0 KC.1) O0 F_value_a1_12 F_coder_a1_12 F_count_a1_12 A10 g_b10 Ex13 Fv13 Fc13 Vv13 V_tb_12 g_b11_ta (Ne.symm nx13_b11_ta.2) (Ne.symm ne_b10_b11_ta) (Ne.symm nev_b10_sb13) S_CS hz hlB hmB hz0 (by decide) hfB hnB hvB) hZ (ww hw 72 rfl) (ww hw 52 rfl) (by decide) (by decide)) q14a q14c (g := (mkF m 72 #[vr a1] [(.ref sa13), (.ref b10), (.ref b9_s0), (.ref b3), (.ref b3)])) rfl (by rw [hml]; rfl) (Steps.refl _) (argsL := [(.ref sa13)]) (rest := [(.ref b9_s0), (.ref b3), (.ref b3)]) (lenOf pd_26 rfl) rfl (by show 2 * 0 + _ ≤ _; exact Nat.le_of_eq rfl) (hb hby d4_72) (fun _ _ => ⟨rfl, e13, (by decide : 13 + 0 ≤ _), (by decide : 139 + 0 ≤ _)⟩)
  dsimp only [Pt.U, Pt.locs, Pt.cells, Pt.slots] at X14 l14 y14 z14 st14 hQ14
  subst l14 y14 z14
  obtain ⟨rfl, N14q, K14, F_value_a1_14, F_coder_a1_14, F_count_a1_14, V_tb_14⟩ := hQ14
  have N14 := Fr.app N12 N14q
  have nec_sa13_b10 : sa13 ≠ b10 := Exa.ne Ex13 A10 (by decide)
  have hsf14 := (sfS (Safe.exa (EL := EL) hZ.alike A10 (by decide) (by decide)) (sfS Sf_b11_ta sf0))
  replace Sf_b11_ta := Safe.keep K14 hsf14 hC.1 Sf_b11_ta
  replace hk := Nat.le_trans hk K14.1
  replace hC := hC.trans (CHr.keep K14 hsf14 hC.1)
  replace E_a1 := E_a1.keep K14
  replace F_value_a1 := F_value_a1.keep K14 (ninS ne_a1_b10 (ninS ne_a1_b11_ta nin0))
  replace F_coder_a1 := F_coder_a1.keep K14 (ninS ne_a1_b10 (ninS ne_a1_b11_ta nin0))
  replace V_ta := V_ta.keep K14 (ninS ne_ta_b10 (ninS ne_ta_b11_ta nin0))
  replace A3 := A3.keep K14
  replace F_entityId_b3 := F_entityId_b3.keep K14 (ninS ne_b3_b10 (ninS ne_b3_b11_ta nin0))
  replace F_metadata_b3 := F_metadata_b3.keep K14 (ninS ne_b3_b10 (ninS ne_b3_b11_ta nin0))
  replace F_assertionConsumer_b3 := F_assertionConsumer_b3.keep K14 (ninS ne_b3_b10 (ninS ne_b3_b11_ta nin0))
  replace E_s0_9 := E_s0_9.keep K14
  replace F_value_s0_9 := F_value_s0_9.keep K14 (ninS ne_b9_s0_b10 (ninS ne_b9_s0_b11_ta nin0))
  replace F_coder_s0_9 := F_coder_s0_9.keep K14 (ninS ne_b9_s0_b10 (ninS ne_b9_s0_b11_ta nin0))
  replace V_b_9 := V_b_9.keep K14 (ninS ne_b9_b_b10 (ninS ne_b9_b_b11_ta nin0))
  replace A10 := A10.keep K14
  replace Ex13 := Ex13.keep K14
  replace Fc13 := Fc13.keep K14 (ninS nec_sa13_b10 (ninS (Ne.symm nx13_b11_ta.1) nin0))
  replace Fv13 := Fv13.keep K14 (ninS nec_sa13_b10 (ninS (Ne.symm nx13_b11_ta.1) nin0))
  replace Vv13 := Vv13.keep K14 (ninS (Ne.symm nev_b10_sb13) (ninS (Ne.symm nx13_b11_ta.2) nin0))
  replace O0 := O0.keep K14 (allS g_b10 (allS g_b11_ta all0))
  replace KC := KC.trans K14 (allS (Or.inr sz_b10) (allS (Or.inr sz_b11_ta) all0))
  obtain ⟨cq15, kq15, q15a, q15b, q15c⟩ := isOf hZ rfl A10
  obtain ⟨_, _, ⟨T15, L15, kz15, nz15⟩, -, X15, ⟨Lc15, hQ15, l15, y15, z15⟩, st15⟩ := X14.virtualBack hx (y := y_25) (z := y_25) hown (mvT hZ (ww hw 107 rfl)) (mvT hZ (ww hw 108 rfl)) (notFace_of_selects (args := #[]) (mvT hZ (ww hw 110 rfl))) (mvT hZ (ww hw 110 rfl)) (mvT hZ (ww hw 109 rfl)) (by decide) (backOf (W := 3) (rm_tos l Z a0 hw [] b10 b11_ta mB k_11 wB uB zc T14.heap n0 (Nat.le_trans Z0 KC.1) O0 F_value_a1_14 F_coder_a1_14 F_count_a1_14 A10 V_tb_14 S_CS hz hpB htB hgB huB) hZ (ww hw 111 rfl) (ww hw 52 rfl) (by decide) (by decide)) q15a q15c (g := (mkF m 75 #[vr a1] [(.ref b10), (.ref b9_s0), (.ref b3), (.ref b3)])) rfl (by rw [hml]; rfl) (Steps.refl _) (argsL := []) (rest := [(.ref b9_s0), (.ref b3), (.ref b3)]) (lenOf pd_27 rfl) rfl (by show 2 * 0 + _ ≤ _; exact Nat.le_of_eq rfl) (hb hby d4_75) (fun _ _ => ⟨rfl, rfl, (by decide : 13 + 2 ≤ _), (by decide : 139 + 20 ≤ _)⟩)
  dsimp only [Pt.U, Pt.locs, Pt.cells, Pt.slots] at X15 l15 y15 z15 st15 hQ15
  subst l15 y15 z15
  obtain ⟨b15_s0, b15_b, k2_15, rfl, N15q, K15, sz_b15_s0, sz_b15_b, E_s0_15, F_value_s0_15, F_coder_s0_15, V_b_15⟩ := hQ15
  have N15 := Fr.app N14 N15q
  have Sf_b15_s0 : Safe Z EL T13.vm T14.heap b15_s0 := Safe.new sz_b15_s0
  have Sf_b15_b : Safe Z EL T13.vm T14.heap b15_b := Safe.new sz_b15_b
  have ne_a1_b15_s0 : a1 ≠ b15_s0 := Nat.ne_of_lt (Nat.lt_of_lt_of_le E_a1.lt sz_b15_s0)
  have ne_ta_b15_s0 : ta ≠ b15_s0 := Nat.ne_of_lt (Nat.lt_of_lt_of_le V_ta.lt sz_b15_s0)
  have ne_b3_b15_s0 : b3 ≠ b15_s0 := Nat.ne_of_lt (Nat.lt_of_lt_of_le A3.lt sz_b15_s0)
  have ne_b9_s0_b15_s0 : b9_s0 ≠ b15_s0 := Nat.ne_of_lt (Nat.lt_of_lt_of_le E_s0_9.lt sz_b15_s0)
  have ne_b9_b_b15_s0 : b9_b ≠ b15_s0 := Nat.ne_of_lt (Nat.lt_of_lt_of_le V_b_9.lt sz_b15_s0)
  have ne_b10_b15_s0 : b10 ≠ b15_s0 := Nat.ne_of_lt (Nat.lt_of_lt_of_le A10.lt sz_b15_s0)
  have ne_sa13_b15_s0 : sa13 ≠ b15_s0 := Nat.ne_of_lt (Nat.lt_of_lt_of_le Ex13.lt sz_b15_s0)
  have ne_sb13_b15_s0 : sb13 ≠ b15_s0 := Nat.ne_of_lt (Nat.lt_of_lt_of_le Vv13.lt sz_b15_s0)
  have ne_b11_ta_b15_s0 : b11_ta ≠ b15_s0 := Nat.ne_of_lt (Nat.lt_of_lt_of_le V_tb_14.lt sz_b15_s0)
  have g_b15_s0 : n0 ≤ b15_s0 := Nat.le_trans (Nat.le_trans Z0 KC.1) sz_b15_s0
  replace sz_b15_s0 : h0.size ≤ b15_s0 := Nat.le_trans KC.1 sz_b15_s0
  have ne_a1_b15_b : a1 ≠ b15_b := Nat.ne_of_lt (Nat.lt_of_lt_of_le E_a1.lt sz_b15_b)
  have ne_ta_b15_b : ta ≠ b15_b := Nat.ne_of_lt (Nat.lt_of_lt_of_le V_ta.lt sz_b15_b)
  have ne_b3_b15_b : b3 ≠ b15_b := Nat.ne_of_lt (Nat.lt_of_lt_of_le A3.lt sz_b15_b)
  have ne_b9_s0_b15_b : b9_s0 ≠ b15_b := Nat.ne_of_lt (Nat.lt_of_lt_of_le E_s0_9.lt sz_b15_b)
  have ne_b9_b_b15_b : b9_b ≠ b15_b := Nat.ne_of_lt (Nat.lt_of_lt_of_le V_b_9.lt sz_b15_b)
  have ne_b10_b15_b : b10 ≠ b15_b := Nat.ne_of_lt (Nat.lt_of_lt_of_le A10.lt sz_b15_b)
  have ne_sa13_b15_b : sa13 ≠ b15_b := Nat.ne_of_lt (Nat.lt_of_lt_of_le Ex13.lt sz_b15_b)
  have ne_sb13_b15_b : sb13 ≠ b15_b := Nat.ne_of_lt (Nat.lt_of_lt_of_le Vv13.lt sz_b15_b)
  have ne_b11_ta_b15_b : b11_ta ≠ b15_b := Nat.ne_of_lt (Nat.lt_of_lt_of_le V_tb_14.lt sz_b15_b)
  have g_b15_b : n0 ≤ b15_b := Nat.le_trans (Nat.le_trans Z0 KC.1) sz_b15_b
  replace sz_b15_b : h0.size ≤ b15_b := Nat.le_trans KC.1 sz_b15_b
  replace Sf_b11_ta := Safe.keep K15 sf0 hC.1 Sf_b11_ta
  replace Sf_b15_s0 := Safe.keep K15 sf0 hC.1 Sf_b15_s0
  replace Sf_b15_b := Safe.keep K15 sf0 hC.1 Sf_b15_b
  replace hk := Nat.le_trans hk K15.1
  replace hC := hC.trans (CHr.keep K15 sf0 hC.1)
  replace E_a1 := E_a1.keep K15
  replace F_value_a1 := F_value_a1.keep K15 nin0
  replace F_coder_a1 := F_coder_a1.keep K15 nin0
  replace V_ta := V_ta.keep K15 nin0
  replace A3 := A3.keep K15
  replace F_entityId_b3 := F_entityId_b3.keep K15 nin0
  replace F_metadata_b3 := F_metadata_b3.keep K15 nin0
  replace F_assertionConsumer_b3 := F_assertionConsumer_b3.keep K15 nin0
  replace E_s0_9 := E_s0_9.keep K15
  replace F_value_s0_9 := F_value_s0_9.keep K15 nin0
  replace F_coder_s0_9 := F_coder_s0_9.keep K15 nin0
  replace V_b_9 := V_b_9.keep K15 nin0
  replace A10 := A10.keep K15
  replace Ex13 := Ex13.keep K15
  replace Fc13 := Fc13.keep K15 nin0
  replace Fv13 := Fv13.keep K15 nin0
  replace Vv13 := Vv13.keep K15 nin0
  replace F_value_a1_14 := F_value_a1_14.keep K15 nin0
  replace F_coder_a1_14 := F_coder_a1_14.keep K15 nin0
  replace F_count_a1_14 := F_count_a1_14.keep K15 nin0
  replace V_tb_14 := V_tb_14.keep K15 nin0
  replace O0 := O0.keep K15 all0
  replace KC := KC.trans K15 all0
  obtain ⟨T16, h16, X16, e16, E16, A16, D16, -, st16⟩ := newO X15 hx hZ hown (ww hw 50 rfl) (ww hw 51 rfl) (ww hw 52 rfl) rfl (g := (mkF m 78 #[vr a1] [(.ref b15_s0), (.ref b9_s0), (.ref b3), (.ref b3)])) rfl (hb hby d4_78) (by decide) (by decide)
  obtain ⟨b16, g16⟩ : ∃ z, z = T15.heap.size := ⟨_, rfl⟩
  rw [← g16] at A16 D16 st16
  have ne_a1_b16 : a1 ≠ b16 := Nat.ne_of_lt (Nat.lt_of_lt_of_le E_a1.lt (Nat.le_of_eq g16.symm))
  have ne_ta_b16 : ta ≠ b16 := Nat.ne_of_lt (Nat.lt_of_lt_of_le V_ta.lt (Nat.le_of_eq g16.symm))
  have ne_b3_b16 : b3 ≠ b16 := Nat.ne_of_lt (Nat.lt_of_lt_of_le A3.lt (Nat.le_of_eq g16.symm))
  have ne_b9_s0_b16 : b9_s0 ≠ b16 := Nat.ne_of_lt (Nat.lt_of_lt_of_le E_s0_9.lt (Nat.le_of_eq g16.symm))
  have ne_b9_b_b16 : b9_b ≠ b16 := Nat.ne_of_lt (Nat.lt_of_lt_of_le V_b_9.lt (Nat.le_of_eq g16.symm))
  have ne_b15_s0_b16 : b15_s0 ≠ b16 := Nat.ne_of_lt (Nat.lt_of_lt_of_le E_s0_15.lt (Nat.le_of_eq g16.symm))
  have ne_b15_b_b16 : b15_b ≠ b16 := Nat.ne_of_lt (Nat.lt_of_lt_of_le V_b_15.lt (Nat.le_of_eq g16.symm))
  have g_b16 : n0 ≤ b16 := Nat.le_trans (Nat.le_trans Z0 KC.1) (Nat.le_of_eq g16.symm)
  have sz_b16 : h0.size ≤ b16 := Nat.le_trans KC.1 (Nat.le_of_eq g16.symm)
  replace hk := Nat.le_trans hk E16.1
  replace hC := hC.trans (CHr.ext E16 hC.1)
  replace E_a1 := E_a1.ext E16
  replace F_value_a1 := F_value_a1.ext E16
  replace F_coder_a1 := F_coder_a1.ext E16
  replace V_ta := V_ta.ext E16
  replace A3 := A3.ext E16
  replace F_entityId_b3 := F_entityId_b3.ext E16
  replace F_metadata_b3 := F_metadata_b3.ext E16
  replace F_assertionConsumer_b3 := F_assertionConsumer_b3.ext E16
  replace E_s0_9 := E_s0_9.ext E16
  replace F_value_s0_9 := F_value_s0_9.ext E16
  replace F_coder_s0_9 := F_coder_s0_9.ext E16
  replace V_b_9 := V_b_9.ext E16
  replace E_s0_15 := E_s0_15.ext E16
  replace F_value_s0_15 := F_value_s0_15.ext E16
  replace F_coder_s0_15 := F_coder_s0_15.ext E16
  replace V_b_15 := V_b_15.ext E16
  replace O0 := O0.ext E16
  replace KC := KC.ext E16
  have F_value_b16 : Fld Z h16 b16 "java/lang/AbstractStringBuilder" "value" "[B" .null := D16 (Or.inl (ww hw 65 rfl)) (ty := (.array .byte)) (by decide)
  have F_coder_b16 : Fld Z h16 b16 "java/lang/AbstractStringBuilder" "coder" "B" (.int (0 : Int32)) := D16 (Or.inl (ww hw 67 rfl)) (ty := .byte) (by decide)
  have F_count_b16 : Fld Z h16 b16 "java/lang/AbstractStringBuilder" "count" "I" (.int (0 : Int32)) := D16 (Or.inl (ww hw 80 rfl)) (ty := .int) (by decide)
  obtain ⟨_, _, ⟨T17, L17, kz17, nz17⟩, -, X17, ⟨Lc17, hQ17, l17, y17, z17⟩, st17⟩ := X16.specialBack hx (y := y_9) rfl hown (mvT hZ (ww hw 53 rfl)) (mvT hZ (ww hw 54 rfl)) (mvT hZ (ww hw 55 rfl)) (by decide) (backOf (W := 5) (rm_sbi l Z a0 hw [] b16 zc h16 n0 (Nat.le_trans Z0 KC.1) O0 F_value_b16 F_coder_b16 F_count_b16 A16 g_b16 S_CS hz) hZ (ww hw 55 rfl) (ww hw 52 rfl) (by decide) (by decide)) (g := (mkF m 82 #[vr a1] [(.ref b16), (.ref b16), (.ref b15_s0), (.ref b9_s0), (.ref b3), (.ref b3)])) rfl (by rw [hml]; rfl) (Steps.refl _) (a := b16) (argsL := []) (rest := [(.ref b16), (.ref b15_s0), (.ref b9_s0), (.ref b3), (.ref b3)]) (lenOf pd_24 rfl) rfl (by show 2 * 0 + _ ≤ _; exact Nat.le_of_eq rfl) (hb hby d4_82) (fun _ _ => ⟨rfl, e16, (by decide : 16 + 1 ≤ _), (by decide : 163 + 16 ≤ _)⟩)
  dsimp only [Pt.U, Pt.locs, Pt.cells, Pt.slots] at X17 l17 y17 z17 st17 hQ17
  subst l17 y17 z17
  obtain ⟨b17_ta, k_17, rfl, N17q, K17, sz_b17_ta, F_value_a1_17, F_coder_a1_17, F_count_a1_17, V_ta_17⟩ := hQ17
  have N17 := Fr.app N15 N17q
  have Sf_b17_ta : Safe Z EL T13.vm h16 b17_ta := Safe.new sz_b17_ta
  have ne_a1_b17_ta : a1 ≠ b17_ta := Nat.ne_of_lt (Nat.lt_of_lt_of_le E_a1.lt sz_b17_ta)
  have ne_ta_b17_ta : ta ≠ b17_ta := Nat.ne_of_lt (Nat.lt_of_lt_of_le V_ta.lt sz_b17_ta)
  have ne_b3_b17_ta : b3 ≠ b17_ta := Nat.ne_of_lt (Nat.lt_of_lt_of_le A3.lt sz_b17_ta)
  have ne_b9_s0_b17_ta : b9_s0 ≠ b17_ta := Nat.ne_of_lt (Nat.lt_of_lt_of_le E_s0_9.lt sz_b17_ta)
  have ne_b9_b_b17_ta : b9_b ≠ b17_ta := Nat.ne_of_lt (Nat.lt_of_lt_of_le V_b_9.lt sz_b17_ta)
  have ne_b15_s0_b17_ta : b15_s0 ≠ b17_ta := Nat.ne_of_lt (Nat.lt_of_lt_of_le E_s0_15.lt sz_b17_ta)
  have ne_b15_b_b17_ta : b15_b ≠ b17_ta := Nat.ne_of_lt (Nat.lt_of_lt_of_le V_b_15.lt sz_b17_ta)
  have ne_b16_b17_ta : b16 ≠ b17_ta := Nat.ne_of_lt (Nat.lt_of_lt_of_le A16.lt sz_b17_ta)
  have g_b17_ta : n0 ≤ b17_ta := Nat.le_trans (Nat.le_trans Z0 KC.1) sz_b17_ta
  replace sz_b17_ta : h0.size ≤ b17_ta := Nat.le_trans KC.1 sz_b17_ta
  have hsf17 := (sfS (Safe.exa (EL := EL) hZ.alike A16 (by decide) (by decide)) sf0)
  replace Sf_b17_ta := Safe.keep K17 hsf17 hC.1 Sf_b17_ta
  replace hk := Nat.le_trans hk K17.1
  replace hC := hC.trans (CHr.keep K17 hsf17 hC.1)
  replace E_a1 := E_a1.keep K17
  replace F_value_a1 := F_value_a1.keep K17 (ninS ne_a1_b16 nin0)
  replace F_coder_a1 := F_coder_a1.keep K17 (ninS ne_a1_b16 nin0)
  replace V_ta := V_ta.keep K17 (ninS ne_ta_b16 nin0)
  replace A3 := A3.keep K17
  replace F_entityId_b3 := F_entityId_b3.keep K17 (ninS ne_b3_b16 nin0)
  replace F_metadata_b3 := F_metadata_b3.keep K17 (ninS ne_b3_b16 nin0)
  replace F_assertionConsumer_b3 := F_assertionConsumer_b3.keep K17 (ninS ne_b3_b16 nin0)
  replace E_s0_9 := E_s0_9.keep K17
  replace F_value_s0_9 := F_value_s0_9.keep K17 (ninS ne_b9_s0_b16 nin0)
  replace F_coder_s0_9 := F_coder_s0_9.keep K17 (ninS ne_b9_s0_b16 nin0)
  replace V_b_9 := V_b_9.keep K17 (ninS ne_b9_b_b16 nin0)
  replace E_s0_15 := E_s0_15.keep K17
  replace F_value_s0_15 := F_value_s0_15.keep K17 (ninS ne_b15_s0_b16 nin0)
  replace F_coder_s0_15 := F_coder_s0_15.keep K17 (ninS ne_b15_s0_b16 nin0)
  replace V_b_15 := V_b_15.keep K17 (ninS ne_b15_b_b16 nin0)
  replace A16 := A16.keep K17
  replace O0 := O0.keep K17 (allS g_b16 all0)
  replace KC := KC.trans K17 (allS (Or.inr sz_b16) all0)
  obtain ⟨cq18, kq18, q18a, q18b, q18c⟩ := isOf hZ rfl A16
  obtain ⟨_, _, ⟨T18, L18, kz18, nz18⟩, -, X18, ⟨Lc18, hQ18, l18, y18, z18⟩, st18⟩ := X17.virtualBack hx (y := y_15) (z := y_15) hown (mvT hZ (ww hw 68 rfl)) (mvT hZ (ww hw 69 rfl)) (notFace_of_selects (args := #[]) (mvT hZ (ww hw 71 rfl))) (mvT hZ (ww hw 71 rfl)) (mvT hZ (ww hw 70 rfl)) (by decide) (backOf (W := 4) (rm_sap l Z a0 hw [] b16 a1 ta k z vs k_17 [(.int (0 : Int32)), (.int (0 : Int32)), (.int (0 : Int32)), (.int (0 : Int32)), (.int (0 : Int32)), (.int (0 : Int32)), (.int (0 : Int32)), (.int (0 : Int32)), (.int (0 : Int32)), (.int (0 : Int32)), (.int (0 : Int32)), (.int (0 : Int32)), (.int (0 : Int32)), (.int (0 : Int32)), (.int (0 : Int32)), (.int (0 : Int32))] v1 b17_ta (0 : Int32) z zc T17.heap n0 (Nat.le_trans Z0 KC.1) O0 F_value_a1_17 F_coder_a1_17 F_count_a1_17 A16 g_b16 E_a1 F_value_a1 F_coder_a1 V_ta V_ta_17 g_b17_ta ne_ta_b17_ta (Ne.symm ne_b16_b17_ta) ne_ta_b16 S_CS hz hl0 (by simp) (by decide) hz0 hf0 hf0 hv0) hZ (ww hw 72 rfl) (ww hw 52 rfl) (by decide) (by decide)) q18a q18c (g := (mkF m 86 #[vr a1] [(.ref a1), (.ref b16), (.ref b15_s0), (.ref b9_s0), (.ref b3), (.ref b3)])) rfl (by rw [hml]; rfl) (Steps.refl _) (argsL := [(.ref a1)]) (rest := [(.ref b15_s0), (.ref b9_s0), (.ref b3), (.ref b3)]) (lenOf pd_26 rfl) rfl (by show 2 * 0 + _ ≤ _; exact Nat.le_of_eq rfl) (hb hby d4_86) (fun _ _ => ⟨rfl, rfl, (by decide : 17 + 0 ≤ _), (by decide : 179 + 0 ≤ _)⟩)
  dsimp only [Pt.U, Pt.locs, Pt.cells, Pt.slots] at X18 l18 y18 z18 st18 hQ18
  subst l18 y18 z18
  obtain ⟨rfl, N18q, K18, F_value_a1_18, F_coder_a1_18, F_count_a1_18, V_tb_18⟩ := hQ18
  have N18 := Fr.app N17 N18q
  have hsf18 := (sfS (Safe.exa (EL := EL) hZ.alike A16 (by decide) (by decide)) (sfS Sf_b17_ta sf0))
  replace Sf_b17_ta := Safe.keep K18 hsf18 hC.1 Sf_b17_ta
  replace hk := Nat.le_trans hk K18.1
  replace hC := hC.trans (CHr.keep K18 hsf18 hC.1)
  replace E_a1 := E_a1.keep K18
  replace F_value_a1 := F_value_a1.keep K18 (ninS ne_a1_b16 (ninS ne_a1_b17_ta nin0))
  replace F_coder_a1 := F_coder_a1.keep K18 (ninS ne_a1_b16 (ninS ne_a1_b17_ta nin0))
  replace V_ta := V_ta.keep K18 (ninS ne_ta_b16 (ninS ne_ta_b17_ta nin0))
  replace A3 := A3.keep K18
  replace F_entityId_b3 := F_entityId_b3.keep K18 (ninS ne_b3_b16 (ninS ne_b3_b17_ta nin0))
  replace F_metadata_b3 := F_metadata_b3.keep K18 (ninS ne_b3_b16 (ninS ne_b3_b17_ta nin0))
  replace F_assertionConsumer_b3 := F_assertionConsumer_b3.keep K18 (ninS ne_b3_b16 (ninS ne_b3_b17_ta nin0))
  replace E_s0_9 := E_s0_9.keep K18
  replace F_value_s0_9 := F_value_s0_9.keep K18 (ninS ne_b9_s0_b16 (ninS ne_b9_s0_b17_ta nin0))
  replace F_coder_s0_9 := F_coder_s0_9.keep K18 (ninS ne_b9_s0_b16 (ninS ne_b9_s0_b17_ta nin0))
  replace V_b_9 := V_b_9.keep K18 (ninS ne_b9_b_b16 (ninS ne_b9_b_b17_ta nin0))
  replace E_s0_15 := E_s0_15.keep K18
  replace F_value_s0_15 := F_value_s0_15.keep K18 (ninS ne_b15_s0_b16 (ninS ne_b15_s0_b17_ta nin0))
  replace F_coder_s0_15 := F_coder_s0_15.keep K18 (ninS ne_b15_s0_b16 (ninS ne_b15_s0_b17_ta nin0))
  replace V_b_15 := V_b_15.keep K18 (ninS ne_b15_b_b16 (ninS ne_b15_b_b17_ta nin0))
  replace A16 := A16.keep K18
  replace O0 := O0.keep K18 (allS g_b16 (allS g_b17_ta all0))
  replace KC := KC.trans K18 (allS (Or.inr sz_b16) (allS (Or.inr sz_b17_ta) all0))
  obtain ⟨sa19, T19, h19, kx19, sb19, kc19, X19, e19, E19, hS19, hk19, hZ19, hown19, Ex19, Fc19, Fv19, Vv19, -, -, C19, -, nx19, st19⟩ := ldcCH X18 hx hZ hown (ww hw 153 rfl) wS rfl hS hk hEL (by decide) hC.1 (vs := [(.int (47 : Int32)), (.int (115 : Int32)), (.int (112 : Int32)), (.int (47 : Int32)), (.int (97 : Int32)), (.int (99 : Int32)), (.int (115 : Int32))]) (z := (7 : Int32)) ⟨by decide, by first | rfl | decide⟩ (by decide) (by first | rfl | decide) (g := (mkF m 89 #[vr a1] [(.ref b16), (.ref b15_s0), (.ref b9_s0), (.ref b3), (.ref b3)])) rfl (hb hby d4_89) (n := 28) (by decide) (by decide) (by decide) (by decide)
  replace Sf_b17_ta := C19.safe V_tb_18.lt Sf_b17_ta
  replace E_a1 := E_a1.ext E19
  replace F_value_a1 := F_value_a1.ext E19
  replace F_coder_a1 := F_coder_a1.ext E19
  replace V_ta := V_ta.ext E19
  replace A3 := A3.ext E19
  replace F_entityId_b3 := F_entityId_b3.ext E19
  replace F_metadata_b3 := F_metadata_b3.ext E19
  replace F_assertionConsumer_b3 := F_assertionConsumer_b3.ext E19
  replace E_s0_9 := E_s0_9.ext E19
  replace F_value_s0_9 := F_value_s0_9.ext E19
  replace F_coder_s0_9 := F_coder_s0_9.ext E19
  replace V_b_9 := V_b_9.ext E19
  replace E_s0_15 := E_s0_15.ext E19
  replace F_value_s0_15 := F_value_s0_15.ext E19
  replace F_coder_s0_15 := F_coder_s0_15.ext E19
  replace V_b_15 := V_b_15.ext E19
  replace A16 := A16.ext E19
  replace F_value_a1_18 := F_value_a1_18.ext E19
  replace F_coder_a1_18 := F_coder_a1_18.ext E19
  replace F_count_a1_18 := F_count_a1_18.ext E19
  replace V_tb_18 := V_tb_18.ext E19
  replace O0 := O0.ext E19
  replace KC := KC.ext E19
  replace hC := hC.trans C19
  replace hZ := hZ19
  replace hown := hown19
  replace hS := hS19
  replace hk := hk19
  have nx19_b17_ta := nx19 _ Sf_b17_ta
  have nev_b16_sb19 : b16 ≠ sb19 := Exa.neArv A16 Vv19 (ww hw 51 rfl)
  obtain ⟨cq20, kq20, q20a, q20b, q20c⟩ := isOf hZ e19 A16
  obtain ⟨_, _, ⟨T20, L20, kz20, nz20⟩, -, X20, ⟨Lc20, hQ20, l20, y20, z20⟩, st20⟩ := X19.virtualBack hx (y := y_15) (z := y_15) hown (mvT hZ (ww hw 68 rfl)) (mvT hZ (ww hw 69 rfl)) (notFace_of_selects (args := #[]) (mvT hZ (ww hw 71 rfl))) (mvT hZ (ww hw 71 rfl)) (mvT hZ (ww hw 70 rfl)) (by decide) (backOf (W := 4) (rm_sap l Z a0 hw [] b16 sa19 sb19 kc19 (7 : Int32) [(.int (47 : Int32)), (.int (115 : Int32)), (.int (112 : Int32)), (.int (47 : Int32)), (.int (97 : Int32)), (.int (99 : Int32)), (.int (115 : Int32))] k_17 v1 wC b17_ta z mC zc h19 n0 (Nat.le_trans Z0 KC.1) O0 F_value_a1_18 F_coder_a1_18 F_count_a1_18 A16 g_b16 Ex19 Fv19 Fc19 Vv19 V_tb_18 g_b17_ta (Ne.symm nx19_b17_ta.2) (Ne.symm ne_b16_b17_ta) (Ne.symm nev_b16_sb19) S_CS hz hlC hmC hz0 (by decide) hfC hnC hvC) hZ (ww hw 72 rfl) (ww hw 52 rfl) (by decide) (by decide)) q20a q20c (g := (mkF m 91 #[vr a1] [(.ref sa19), (.ref b16), (.ref b15_s0), (.ref b9_s0), (.ref b3), (.ref b3)])) rfl (by rw [hml]; rfl) (Steps.refl _) (argsL := [(.ref sa19)]) (rest := [(.ref b15_s0), (.ref b9_s0), (.ref b3), (.ref b3)]) (lenOf pd_26 rfl) rfl (by show 2 * 0 + _ ≤ _; exact Nat.le_of_eq rfl) (hb hby d4_91) (fun _ _ => ⟨rfl, e19, (by decide : 19 + 0 ≤ _), (by decide : 211 + 0 ≤ _)⟩)
  dsimp only [Pt.U, Pt.locs, Pt.cells, Pt.slots] at X20 l20 y20 z20 st20 hQ20
  subst l20 y20 z20
  obtain ⟨rfl, N20q, K20, F_value_a1_20, F_coder_a1_20, F_count_a1_20, V_tb_20⟩ := hQ20
  have N20 := Fr.app N18 N20q
  have nec_sa19_b16 : sa19 ≠ b16 := Exa.ne Ex19 A16 (by decide)
  have hsf20 := (sfS (Safe.exa (EL := EL) hZ.alike A16 (by decide) (by decide)) (sfS Sf_b17_ta sf0))
  replace Sf_b17_ta := Safe.keep K20 hsf20 hC.1 Sf_b17_ta
  replace hk := Nat.le_trans hk K20.1
  replace hC := hC.trans (CHr.keep K20 hsf20 hC.1)
  replace E_a1 := E_a1.keep K20
  replace F_value_a1 := F_value_a1.keep K20 (ninS ne_a1_b16 (ninS ne_a1_b17_ta nin0))
  replace F_coder_a1 := F_coder_a1.keep K20 (ninS ne_a1_b16 (ninS ne_a1_b17_ta nin0))
  replace V_ta := V_ta.keep K20 (ninS ne_ta_b16 (ninS ne_ta_b17_ta nin0))
  replace A3 := A3.keep K20
  replace F_entityId_b3 := F_entityId_b3.keep K20 (ninS ne_b3_b16 (ninS ne_b3_b17_ta nin0))
  replace F_metadata_b3 := F_metadata_b3.keep K20 (ninS ne_b3_b16 (ninS ne_b3_b17_ta nin0))
  replace F_assertionConsumer_b3 := F_assertionConsumer_b3.keep K20 (ninS ne_b3_b16 (ninS ne_b3_b17_ta nin0))
  replace E_s0_9 := E_s0_9.keep K20
  replace F_value_s0_9 := F_value_s0_9.keep K20 (ninS ne_b9_s0_b16 (ninS ne_b9_s0_b17_ta nin0))
  replace F_coder_s0_9 := F_coder_s0_9.keep K20 (ninS ne_b9_s0_b16 (ninS ne_b9_s0_b17_ta nin0))
  replace V_b_9 := V_b_9.keep K20 (ninS ne_b9_b_b16 (ninS ne_b9_b_b17_ta nin0))
  replace E_s0_15 := E_s0_15.keep K20
  replace F_value_s0_15 := F_value_s0_15.keep K20 (ninS ne_b15_s0_b16 (ninS ne_b15_s0_b17_ta nin0))
  replace F_coder_s0_15 := F_coder_s0_15.keep K20 (ninS ne_b15_s0_b16 (ninS ne_b15_s0_b17_ta nin0))
  replace V_b_15 := V_b_15.keep K20 (ninS ne_b15_b_b16 (ninS ne_b15_b_b17_ta nin0))
  replace A16 := A16.keep K20
  replace Ex19 := Ex19.keep K20
  replace Fc19 := Fc19.keep K20 (ninS nec_sa19_b16 (ninS (Ne.symm nx19_b17_ta.1) nin0))
  replace Fv19 := Fv19.keep K20 (ninS nec_sa19_b16 (ninS (Ne.symm nx19_b17_ta.1) nin0))
  replace Vv19 := Vv19.keep K20 (ninS (Ne.symm nev_b16_sb19) (ninS (Ne.symm nx19_b17_ta.2) nin0))
  replace O0 := O0.keep K20 (allS g_b16 (allS g_b17_ta all0))
  replace KC := KC.trans K20 (allS (Or.inr sz_b16) (allS (Or.inr sz_b17_ta) all0))
  obtain ⟨cq21, kq21, q21a, q21b, q21c⟩ := isOf hZ rfl A16
  obtain ⟨_, _, ⟨T21, L21, kz21, nz21⟩, -, X21, ⟨Lc21, hQ21, l21, y21, z21⟩, st21⟩ := X20.virtualBack hx (y := y_25) (z := y_25) hown (mvT hZ (ww hw 107 rfl)) (mvT hZ (ww hw 108 rfl)) (notFace_of_selects (args := #[]) (mvT hZ (ww hw 110 rfl))) (mvT hZ (ww hw 110 rfl)) (mvT hZ (ww hw 109 rfl)) (by decide) (backOf (W := 4) (rm_tos l Z a0 hw [] b16 b17_ta mC k_17 wC uC zc T20.heap n0 (Nat.le_trans Z0 KC.1) O0 F_value_a1_20 F_coder_a1_20 F_count_a1_20 A16 V_tb_20 S_CS hz hpC htC hgC huC) hZ (ww hw 111 rfl) (ww hw 52 rfl) (by decide) (by decide)) q21a q21c (g := (mkF m 94 #[vr a1] [(.ref b16), (.ref b15_s0), (.ref b9_s0), (.ref b3), (.ref b3)])) rfl (by rw [hml]; rfl) (Steps.refl _) (argsL := []) (rest := [(.ref b15_s0), (.ref b9_s0), (.ref b3), (.ref b3)]) (lenOf pd_27 rfl) rfl (by show 2 * 0 + _ ≤ _; exact Nat.le_of_eq rfl) (hb hby d4_94) (fun _ _ => ⟨rfl, rfl, (by decide : 19 + 2 ≤ _), (by decide : 211 + 20 ≤ _)⟩)
  dsimp only [Pt.U, Pt.locs, Pt.cells, Pt.slots] at X21 l21 y21 z21 st21 hQ21
  subst l21 y21 z21
  obtain ⟨b21_s0, b21_b, k2_21, rfl, N21q, K21, sz_b21_s0, sz_b21_b, E_s0_21, F_value_s0_21, F_coder_s0_21, V_b_21⟩ := hQ21
  have N21 := Fr.app N20 N21q
  have Sf_b21_s0 : Safe Z EL T19.vm T20.heap b21_s0 := Safe.new sz_b21_s0
  have Sf_b21_b : Safe Z EL T19.vm T20.heap b21_b := Safe.new sz_b21_b
  have ne_a1_b21_s0 : a1 ≠ b21_s0 := Nat.ne_of_lt (Nat.lt_of_lt_of_le E_a1.lt sz_b21_s0)
  have ne_ta_b21_s0 : ta ≠ b21_s0 := Nat.ne_of_lt (Nat.lt_of_lt_of_le V_ta.lt sz_b21_s0)
  have ne_b3_b21_s0 : b3 ≠ b21_s0 := Nat.ne_of_lt (Nat.lt_of_lt_of_le A3.lt sz_b21_s0)
  have ne_b9_s0_b21_s0 : b9_s0 ≠ b21_s0 := Nat.ne_of_lt (Nat.lt_of_lt_of_le E_s0_9.lt sz_b21_s0)
  have ne_b9_b_b21_s0 : b9_b ≠ b21_s0 := Nat.ne_of_lt (Nat.lt_of_lt_of_le V_b_9.lt sz_b21_s0)
  have ne_b15_s0_b21_s0 : b15_s0 ≠ b21_s0 := Nat.ne_of_lt (Nat.lt_of_lt_of_le E_s0_15.lt sz_b21_s0)
  have ne_b15_b_b21_s0 : b15_b ≠ b21_s0 := Nat.ne_of_lt (Nat.lt_of_lt_of_le V_b_15.lt sz_b21_s0)
  have ne_b16_b21_s0 : b16 ≠ b21_s0 := Nat.ne_of_lt (Nat.lt_of_lt_of_le A16.lt sz_b21_s0)
  have ne_sa19_b21_s0 : sa19 ≠ b21_s0 := Nat.ne_of_lt (Nat.lt_of_lt_of_le Ex19.lt sz_b21_s0)
  have ne_sb19_b21_s0 : sb19 ≠ b21_s0 := Nat.ne_of_lt (Nat.lt_of_lt_of_le Vv19.lt sz_b21_s0)
  have ne_b17_ta_b21_s0 : b17_ta ≠ b21_s0 := Nat.ne_of_lt (Nat.lt_of_lt_of_le V_tb_20.lt sz_b21_s0)
  have g_b21_s0 : n0 ≤ b21_s0 := Nat.le_trans (Nat.le_trans Z0 KC.1) sz_b21_s0
  replace sz_b21_s0 : h0.size ≤ b21_s0 := Nat.le_trans KC.1 sz_b21_s0
  have ne_a1_b21_b : a1 ≠ b21_b := Nat.ne_of_lt (Nat.lt_of_lt_of_le E_a1.lt sz_b21_b)
  have ne_ta_b21_b : ta ≠ b21_b := Nat.ne_of_lt (Nat.lt_of_lt_of_le V_ta.lt sz_b21_b)
  have ne_b3_b21_b : b3 ≠ b21_b := Nat.ne_of_lt (Nat.lt_of_lt_of_le A3.lt sz_b21_b)
  have ne_b9_s0_b21_b : b9_s0 ≠ b21_b := Nat.ne_of_lt (Nat.lt_of_lt_of_le E_s0_9.lt sz_b21_b)
  have ne_b9_b_b21_b : b9_b ≠ b21_b := Nat.ne_of_lt (Nat.lt_of_lt_of_le V_b_9.lt sz_b21_b)
  have ne_b15_s0_b21_b : b15_s0 ≠ b21_b := Nat.ne_of_lt (Nat.lt_of_lt_of_le E_s0_15.lt sz_b21_b)
  have ne_b15_b_b21_b : b15_b ≠ b21_b := Nat.ne_of_lt (Nat.lt_of_lt_of_le V_b_15.lt sz_b21_b)
  have ne_b16_b21_b : b16 ≠ b21_b := Nat.ne_of_lt (Nat.lt_of_lt_of_le A16.lt sz_b21_b)
  have ne_sa19_b21_b : sa19 ≠ b21_b := Nat.ne_of_lt (Nat.lt_of_lt_of_le Ex19.lt sz_b21_b)
  have ne_sb19_b21_b : sb19 ≠ b21_b := Nat.ne_of_lt (Nat.lt_of_lt_of_le Vv19.lt sz_b21_b)
  have ne_b17_ta_b21_b : b17_ta ≠ b21_b := Nat.ne_of_lt (Nat.lt_of_lt_of_le V_tb_20.lt sz_b21_b)
  have g_b21_b : n0 ≤ b21_b := Nat.le_trans (Nat.le_trans Z0 KC.1) sz_b21_b
  replace sz_b21_b : h0.size ≤ b21_b := Nat.le_trans KC.1 sz_b21_b
  replace Sf_b17_ta := Safe.keep K21 sf0 hC.1 Sf_b17_ta
  replace Sf_b21_s0 := Safe.keep K21 sf0 hC.1 Sf_b21_s0
  replace Sf_b21_b := Safe.keep K21 sf0 hC.1 Sf_b21_b
  replace hk := Nat.le_trans hk K21.1
  replace hC := hC.trans (CHr.keep K21 sf0 hC.1)
  replace E_a1 := E_a1.keep K21
  replace F_value_a1 := F_value_a1.keep K21 nin0
  replace F_coder_a1 := F_coder_a1.keep K21 nin0
  replace V_ta := V_ta.keep K21 nin0
  replace A3 := A3.keep K21
  replace F_entityId_b3 := F_entityId_b3.keep K21 nin0
  replace F_metadata_b3 := F_metadata_b3.keep K21 nin0
  replace F_assertionConsumer_b3 := F_assertionConsumer_b3.keep K21 nin0
  replace E_s0_9 := E_s0_9.keep K21
  replace F_value_s0_9 := F_value_s0_9.keep K21 nin0
  replace F_coder_s0_9 := F_coder_s0_9.keep K21 nin0
  replace V_b_9 := V_b_9.keep K21 nin0
  replace E_s0_15 := E_s0_15.keep K21
  replace F_value_s0_15 := F_value_s0_15.keep K21 nin0
  replace F_coder_s0_15 := F_coder_s0_15.keep K21 nin0
  replace V_b_15 := V_b_15.keep K21 nin0
  replace A16 := A16.keep K21
  replace Ex19 := Ex19.keep K21
  replace Fc19 := Fc19.keep K21 nin0
  replace Fv19 := Fv19.keep K21 nin0
  replace Vv19 := Vv19.keep K21 nin0
  replace F_value_a1_20 := F_value_a1_20.keep K21 nin0
  replace F_coder_a1_20 := F_coder_a1_20.keep K21 nin0
  replace F_count_a1_20 := F_count_a1_20.keep K21 nin0
  replace V_tb_20 := V_tb_20.keep K21 nin0
  replace O0 := O0.keep K21 all0
  replace KC := KC.trans K21 all0
  obtain ⟨_, _, ⟨T22, L22, kz22, nz22⟩, -, X22, ⟨Lc22, hQ22, l22, y22, z22⟩, st22⟩ := X21.specialBack hx (y := y_37) rfl hown (mvT hZ (ww hw 154 rfl)) (mvT hZ (ww hw 155 rfl)) (mvT hZ (ww hw 156 rfl)) (by decide) (backOf (W := 1) (rm_idi l Z a0 hw [] b3 b9_s0 b15_s0 b21_s0 T21.heap n0 (Nat.le_trans Z0 KC.1) O0 F_entityId_b3 F_metadata_b3 F_assertionConsumer_b3 A3 g_b3) hZ (ww hw 156 rfl) (ww hw 24 rfl) (by decide) (by decide)) (g := (mkF m 97 #[vr a1] [(.ref b21_s0), (.ref b15_s0), (.ref b9_s0), (.ref b3), (.ref b3)])) rfl (by rw [hml]; rfl) (Steps.refl _) (a := b3) (argsL := [(.ref b9_s0), (.ref b15_s0), (.ref b21_s0)]) (rest := [(.ref b3)]) (lenOf pd_28 rfl) rfl (by show 2 * 0 + _ ≤ _; exact Nat.le_of_eq rfl) (hb hby d4_97) (fun _ _ => ⟨rfl, rfl, (by decide : 21 + 0 ≤ _), (by decide : 231 + 0 ≤ _)⟩)
  dsimp only [Pt.U, Pt.locs, Pt.cells, Pt.slots] at X22 l22 y22 z22 st22 hQ22
  subst l22 y22 z22
  obtain ⟨rfl, N22q, K22, F_entityId_a1_22, F_metadata_a1_22, F_assertionConsumer_a1_22⟩ := hQ22
  have N22 := Fr.app N21 N22q
  replace hk := Nat.le_trans hk K22.1
  replace hC := hC.trans (CHr.keep K22 (sfS (Safe.exa (EL := EL) hZ.alike A3 (by decide) (by decide)) sf0) hC.1)
  replace E_a1 := E_a1.keep K22
  replace F_value_a1 := F_value_a1.keep K22 (ninS ne_a1_b3 nin0)
  replace F_coder_a1 := F_coder_a1.keep K22 (ninS ne_a1_b3 nin0)
  replace V_ta := V_ta.keep K22 (ninS ne_ta_b3 nin0)
  replace A3 := A3.keep K22
  replace E_s0_9 := E_s0_9.keep K22
  replace F_value_s0_9 := F_value_s0_9.keep K22 (ninS (Ne.symm ne_b3_b9_s0) nin0)
  replace F_coder_s0_9 := F_coder_s0_9.keep K22 (ninS (Ne.symm ne_b3_b9_s0) nin0)
  replace V_b_9 := V_b_9.keep K22 (ninS (Ne.symm ne_b3_b9_b) nin0)
  replace E_s0_15 := E_s0_15.keep K22
  replace F_value_s0_15 := F_value_s0_15.keep K22 (ninS (Ne.symm ne_b3_b15_s0) nin0)
  replace F_coder_s0_15 := F_coder_s0_15.keep K22 (ninS (Ne.symm ne_b3_b15_s0) nin0)
  replace V_b_15 := V_b_15.keep K22 (ninS (Ne.symm ne_b3_b15_b) nin0)
  replace E_s0_21 := E_s0_21.keep K22
  replace F_value_s0_21 := F_value_s0_21.keep K22 (ninS (Ne.symm ne_b3_b21_s0) nin0)
  replace F_coder_s0_21 := F_coder_s0_21.keep K22 (ninS (Ne.symm ne_b3_b21_s0) nin0)
  replace V_b_21 := V_b_21.keep K22 (ninS (Ne.symm ne_b3_b21_b) nin0)
  replace O0 := O0.keep K22 (allS g_b3 all0)
  replace KC := KC.trans K22 (allS (Or.inr sz_b3) all0)
  obtain ⟨fs, hr, hrun, hended, hRE⟩ := X22.leaveW hS hk (v := some (.ref b3)) (fun h => by rw [Bd.returns] at h; cases h)
  refine ⟨_, _, pre0 _ ?_, hrun, hended, _, _, rfl, ?_, ?_, hRE.1, hRE.2.1, hRE.2.2.1, hRE.2.2.2.mono (by decide) (by decide)⟩
  · show SS p e below m s₁ 0 #[vr a1] [] _
    refine XS.aloadN X0.here hx rfl (hb hby d4_0) rfl rfl ?_
    show SS p e below m s₁ 1 #[vr a1] [(.ref a1)] _
    refine st1 _ ?_
    show SS p e below m T1 3 #[vr a1] [(.ref sa1), (.ref a1)] _
    refine st2.trans ?_
    show SS p e below m T2 6 #[vr a1] [(.int (0 : Int32))] _
    refine XS.ifYes X2.here hx rfl (pc0 := 6) (pc' := 36) rfl (hb hby d4_6) rfl ((if0 _ _).trans (teq (by decide)).1) (by decide) (by decide) ?_
    show SS p e below m T2 36 #[vr a1] [] _
    refine st3 _ ?_
    show SS p e below m T3 39 #[vr a1] [(.ref b3)] _
    refine XS.dup X3.here hx rfl (hb hby d4_39) rfl rfl ?_
    show SS p e below m T3 40 #[vr a1] [(.ref b3), (.ref b3)] _
    refine st4 _ ?_
    show SS p e below m T4 43 #[vr a1] [(.ref b4), (.ref b3), (.ref b3)] _
    refine XS.dup X4.here hx rfl (hb hby d4_43) rfl rfl ?_
    show SS p e below m T4 44 #[vr a1] [(.ref b4), (.ref b4), (.ref b3), (.ref b3)] _
    refine st5.trans ?_
    show SS p e below m T5 47 #[vr a1] [(.ref b4), (.ref b3), (.ref b3)] _
    refine XS.aloadN X5.here hx rfl (hb hby d4_47) rfl rfl ?_
    show SS p e below m T5 48 #[vr a1] [(.ref a1), (.ref b4), (.ref b3), (.ref b3)] _
    refine st6.trans ?_
    show SS p e below m T6 51 #[vr a1] [(.ref b4), (.ref b3), (.ref b3)] _
    refine st7 _ ?_
    show SS p e below m T7 53 #[vr a1] [(.ref sa7), (.ref b4), (.ref b3), (.ref b3)] _
    refine st8.trans ?_
    show SS p e below m T8 56 #[vr a1] [(.ref b4), (.ref b3), (.ref b3)] _
    refine st9.trans ?_
    show SS p e below m T9 59 #[vr a1] [(.ref b9_s0), (.ref b3), (.ref b3)] _
    refine st10 _ ?_
    show SS p e below m T10 62 #[vr a1] [(.ref b10), (.ref b9_s0), (.ref b3), (.ref b3)] _
    refine XS.dup X10.here hx rfl (hb hby d4_62) rfl rfl ?_
    show SS p e below m T10 63 #[vr a1] [(.ref b10), (.ref b10), (.ref b9_s0), (.ref b3), (.ref b3)] _
    refine st11.trans ?_
    show SS p e below m T11 66 #[vr a1] [(.ref b10), (.ref b9_s0), (.ref b3), (.ref b3)] _
    refine XS.aloadN X11.here hx rfl (hb hby d4_66) rfl rfl ?_
    show SS p e below m T11 67 #[vr a1] [(.ref a1), (.ref b10), (.ref b9_s0), (.ref b3), (.ref b3)] _
    refine st12.trans ?_
    show SS p e below m T12 70 #[vr a1] [(.ref b10), (.ref b9_s0), (.ref b3), (.ref b3)] _
    refine st13 _ ?_
    show SS p e below m T13 72 #[vr a1] [(.ref sa13), (.ref b10), (.ref b9_s0), (.ref b3), (.ref b3)] _
    refine st14.trans ?_
    show SS p e below m T14 75 #[vr a1] [(.ref b10), (.ref b9_s0), (.ref b3), (.ref b3)] _
    refine st15.trans ?_
    show SS p e below m T15 78 #[vr a1] [(.ref b15_s0), (.ref b9_s0), (.ref b3), (.ref b3)] _
    refine st16 _ ?_
    show SS p e below m T16 81 #[vr a1] [(.ref b16), (.ref b15_s0), (.ref b9_s0), (.ref b3), (.ref b3)] _
    refine XS.dup X16.here hx rfl (hb hby d4_81) rfl rfl ?_
    show SS p e below m T16 82 #[vr a1] [(.ref b16), (.ref b16), (.ref b15_s0), (.ref b9_s0), (.ref b3), (.ref b3)] _
    refine st17.trans ?_
    show SS p e below m T17 85 #[vr a1] [(.ref b16), (.ref b15_s0), (.ref b9_s0), (.ref b3), (.ref b3)] _
    refine XS.aloadN X17.here hx rfl (hb hby d4_85) rfl rfl ?_
    show SS p e below m T17 86 #[vr a1] [(.ref a1), (.ref b16), (.ref b15_s0), (.ref b9_s0), (.ref b3), (.ref b3)] _
    refine st18.trans ?_
    show SS p e below m T18 89 #[vr a1] [(.ref b16), (.ref b15_s0), (.ref b9_s0), (.ref b3), (.ref b3)] _
    refine st19 _ ?_
    show SS p e below m T19 91 #[vr a1] [(.ref sa19), (.ref b16), (.ref b15_s0), (.ref b9_s0), (.ref b3), (.ref b3)] _
    refine st20.trans ?_
    show SS p e below m T20 94 #[vr a1] [(.ref b16), (.ref b15_s0), (.ref b9_s0), (.ref b3), (.ref b3)] _
    refine st21.trans ?_
    show SS p e below m T21 97 #[vr a1] [(.ref b21_s0), (.ref b15_s0), (.ref b9_s0), (.ref b3), (.ref b3)] _
    refine st22.trans ?_
    show SS p e below m T22 100 #[vr a1] [(.ref b3)] _
    jvm_step X22.here [X22.here.top, hx, (hb hby d4_100), X22.method', Bd.returns, Value.isRef, FieldType.isReference]
    first | (intro acts; rw [hr _ acts rfl rfl rfl]) | rw [hr _ _ rfl rfl rfl]
    exact Steps.refl _
  · show Q_rm_und Z a1 ta k z vs v1 wA mA uA wB mB uB wC mC uC zc h0 n0 _ T22.heap _
    exact ⟨b3, b9_s0, b9_b, k2_9, b15_s0, b15_b, k2_15, b21_s0, b21_b, k2_21, rfl, N22, KC, sz_b3, A3, F_entityId_a1_22, F_metadata_a1_22, F_assertionConsumer_a1_22, E_s0_9, F_value_s0_9, F_coder_s0_9, V_b_9, E_s0_15, F_value_s0_15, F_coder_s0_15, V_b_15, E_s0_21, F_value_s0_21, F_coder_s0_21, V_b_21⟩
  · show CHr Z EL s.vm s.heap T22.vm T22.heap
    rw [hh]
    exact hC.trans (CHv.at X22 hZ hEL hC.1)
theorem d40_0 : decode method_3_code 0 = .ok (.iload_n 0, 1) := by decide +kernel
theorem d40_1 : decode method_3_code 1 = .ok (.sipush 255, 3) := by decide +kernel
theorem d40_4 : decode method_3_code 4 = .ok (.iand, 1) := by decide +kernel
theorem d40_5 : decode method_3_code 5 = .ok (.sipush 255, 3) := by decide +kernel
theorem d40_8 : decode method_3_code 8 = .ok (.irem, 1) := by decide +kernel
theorem d40_9 : decode method_3_code 9 = .ok (.istore_n 1, 1) := by decide +kernel
theorem d40_10 : decode method_3_code 10 = .ok (.iload_n 1, 1) := by decide +kernel
theorem d40_11 : decode method_3_code 11 = .ok (.bipush 47, 2) := by decide +kernel
theorem d40_13 : decode method_3_code 13 = .ok (.if_icmp .lt 7, 3) := by decide +kernel
theorem d40_16 : decode method_3_code 16 = .ok (.iload_n 1, 1) := by decide +kernel
theorem d40_17 : decode method_3_code 17 = .ok (.iconst 1, 1) := by decide +kernel
theorem d40_18 : decode method_3_code 18 = .ok (.iadd, 1) := by decide +kernel
theorem d40_19 : decode method_3_code 19 = .ok (.istore_n 1, 1) := by decide +kernel
theorem d40_20 : decode method_3_code 20 = .ok (.iload_n 1, 1) := by decide +kernel
theorem d40_21 : decode method_3_code 21 = .ok (.i2c, 1) := by decide +kernel
theorem d40_22 : decode method_3_code 22 = .ok (.ireturn, 1) := by decide +kernel
theorem ef_rm_ns (m : MethodId) (x0 : Int32) : entryFrame m #[(.int x0)] 2 = mkF m 0 #[vi x0, .unset] [] := by first | (simp [entryFrame, mkF, argsToLocals, Value.category]; done) | rfl
def Q_rm_ns (Z : State) (p1 : Int32) (h0 : Heap) (n0 : Nat) (v : Option Value) (h : Heap) (L : List Loc) : Prop := ∃ y0 : Int32, (v = some (.int y0)) ∧ (Fr n0 L) ∧ (h = h0) ∧ (¬ (255 : Int32) < y0) ∧ (nar .char y0 = y0) ∧ (¬ own_b y0 = 47) ∧ ((own_b y0 &&& (255 : Int32)) = y0)
set_option maxRecDepth 65536 in
set_option maxHeartbeats 40000000 in
theorem rm_ns (l : Launch) (Z : State) (a0 : Array Value) (hw : ∀ d ∈ tables_1, d.before a0 Z = true) (ws : List Jvm.Cond) (p1 : Int32) (h0 : Heap) (n0 : Nat) (Z0 : n0 ≤ h0.size) (O0 : Old Z n0 h0) :
    MetFree l y_42 (head1 (Jvm.Cond.code y_42 method_3_code 2 (some .char) :: ws) ({ frames := 0, cells := 0, slots := 0, locals := 0 } : Room)) (fun a U => a = #[(.int p1)] ∧ Z.Warmed39 U.vm ∧ U.heap = h0) (fun _ _ _ _ _ => True) (fun _ U o U' => ∃ v L, o = .returned v ∧ Q_rm_ns Z p1 h0 n0 v U'.heap L ∧ FrameEnd U o U' L ({ frames := 0, cells := 0, slots := 0, locals := 0 } : Room).cells ({ frames := 0, cells := 0, slots := 0, locals := 0 } : Room).slots) := by
  refine MetFree.of_bodySF (plainFor_of_name pn_9) hisR ?_
  intro p e s m args below meth c s₁ Bd hml0 hP hK
  obtain ⟨rfl, hZ, hh⟩ := hP
  have hx := Bd.exec
  have hby := Bd.bytes
  have hml : c.maxLocals = 2 := hml0
  have hown : s.vm.findClass "com/example/federant/federant/saml/HubEndpointsUnderPinLaw" = some m.cls := findClass_of_methodNamed Bd.named
  have hnm := (name_of_methodNamed Bd.named Bd.method).1
  have X0 : Stand p l e ({ frames := 0, cells := 0, slots := 0, locals := 0 } : Room) s m #[(.int p1)] below meth c s₁ [] 0 0 := Stand.of_body Bd
  have e0 : s₁.heap = h0 := by rw [← hh, Bd.state]; rfl
  have N0 := Fr.nil n0
  have KC : Keep h0 h0 [] := Keep.refl h0 _
  have pre0 : ∀ t, Steps p.tables e below (s₁.setTop (mkF m 0 #[vi p1, un] [])) t → Steps p.tables e below (s₁.setTop (entryFrame m #[(.int p1)] 2)) t := fun t k => castTop (ef_rm_ns m p1) k
  have pre1 : ∀ t, Steps p.tables e below (s₁.setTop (mkF m 13 #[vi p1, vi ((p1 &&& (255 : Int32)) % (255 : Int32))] [(.int (47 : Int32)), (.int ((p1 &&& (255 : Int32)) % (255 : Int32)))])) t → Steps p.tables e below (s₁.setTop (entryFrame m #[(.int p1)] 2)) t := by
    intro t kt
    refine pre0 t ?_
    show SS p e below m s₁ 0 #[vi p1, un] [] _
    refine XS.iloadN X0.here hx rfl (hb hby d40_0) rfl ?_
    show SS p e below m s₁ 1 #[vi p1, un] [(.int p1)] _
    refine XS.sipush X0.here hx rfl (hb hby d40_1) ?_
    show SS p e below m s₁ 4 #[vi p1, un] [(.int (255 : Int32)), (.int p1)] _
    refine XS.iand X0.here hx rfl (hb hby d40_4) rfl ?_
    show SS p e below m s₁ 5 #[vi p1, un] [(.int (p1 &&& (255 : Int32)))] _
    refine XS.sipush X0.here hx rfl (hb hby d40_5) ?_
    show SS p e below m s₁ 8 #[vi p1, un] [(.int (255 : Int32)), (.int (p1 &&& (255 : Int32)))] _
    refine iremM X0 hx rfl (hb hby d40_8) rfl (by decide) ?_
    show SS p e below m s₁ 9 #[vi p1, un] [(.int ((p1 &&& (255 : Int32)) % (255 : Int32)))] _
    refine XS.istoreN X0.here hx rfl (hb hby d40_9) rfl (l' := #[vi p1, vi ((p1 &&& (255 : Int32)) % (255 : Int32))]) rfl ?_
    show SS p e below m s₁ 10 #[vi p1, vi ((p1 &&& (255 : Int32)) % (255 : Int32))] [] _
    refine XS.iloadN X0.here hx rfl (hb hby d40_10) rfl ?_
    show SS p e below m s₁ 11 #[vi p1, vi ((p1 &&& (255 : Int32)) % (255 : Int32))] [(.int ((p1 &&& (255 : Int32)) % (255 : Int32)))] _
    refine XS.bipush X0.here hx rfl (hb hby d40_11) ?_
    exact kt
  by_cases hc13_2 : ((p1 &&& (255 : Int32)) % (255 : Int32)) < (47 : Int32)
  · obtain ⟨fs, hr, hrun, hended, hW, hsame⟩ := X0.leave (v := some (.int (nar .char (((p1 &&& (255 : Int32)) % (255 : Int32)).toUInt32.toUInt16.toUInt32.toInt32)))) (fun h => by rw [Bd.returns] at h; cases h)
    refine ⟨_, _, pre1 _ ?_, hrun, hended, _, _, rfl, ?_, ⟨_, rfl⟩, hW, hsame.mono (by decide) (by decide)⟩
    · show SS p e below m s₁ 13 #[vi p1, vi ((p1 &&& (255 : Int32)) % (255 : Int32))] [(.int (47 : Int32)), (.int ((p1 &&& (255 : Int32)) % (255 : Int32)))] _
      refine XS.icmpYes X0.here hx rfl (pc0 := 13) (pc' := 20) rfl (hb hby d40_13) rfl (tlt hc13_2).1 (by decide) (by decide) ?_
      show SS p e below m s₁ 20 #[vi p1, vi ((p1 &&& (255 : Int32)) % (255 : Int32))] [] _
      refine XS.iloadN X0.here hx rfl (hb hby d40_20) rfl ?_
      show SS p e below m s₁ 21 #[vi p1, vi ((p1 &&& (255 : Int32)) % (255 : Int32))] [(.int ((p1 &&& (255 : Int32)) % (255 : Int32)))] _
      refine XS.i2c X0.here hx rfl (hb hby d40_21) rfl ?_
      show SS p e below m s₁ 22 #[vi p1, vi ((p1 &&& (255 : Int32)) % (255 : Int32))] [(.int (((p1 &&& (255 : Int32)) % (255 : Int32)).toUInt32.toUInt16.toUInt32.toInt32))] _
      exact retN X0 hx (t := .char) Bd.returns (by simp) (hb hby d40_22) hr
    · show Q_rm_ns Z p1 h0 n0 _ s₁.heap _
      rw [e0]
      exact ⟨(own_ns p1), (congrArg (fun z => some (Value.int z)) (own_ns1 hc13_2)), N0, rfl, (own_nsp p1).1, (own_nsp p1).2.1, (own_nsp p1).2.2.1, (own_nsp p1).2.2.2⟩
  · obtain ⟨fs, hr, hrun, hended, hW, hsame⟩ := X0.leave (v := some (.int (nar .char ((((p1 &&& (255 : Int32)) % (255 : Int32)) + (1 : Int32)).toUInt32.toUInt16.toUInt32.toInt32)))) (fun h => by rw [Bd.returns] at h; cases h)
    refine ⟨_, _, pre1 _ ?_, hrun, hended, _, _, rfl, ?_, ⟨_, rfl⟩, hW, hsame.mono (by decide) (by decide)⟩
    · show SS p e below m s₁ 13 #[vi p1, vi ((p1 &&& (255 : Int32)) % (255 : Int32))] [(.int (47 : Int32)), (.int ((p1 &&& (255 : Int32)) % (255 : Int32)))] _
      refine XS.icmpNo X0.here hx rfl (hb hby d40_13) rfl (flt hc13_2).1 ?_
      show SS p e below m s₁ 16 #[vi p1, vi ((p1 &&& (255 : Int32)) % (255 : Int32))] [] _
      refine XS.iloadN X0.here hx rfl (hb hby d40_16) rfl ?_
      show SS p e below m s₁ 17 #[vi p1, vi ((p1 &&& (255 : Int32)) % (255 : Int32))] [(.int ((p1 &&& (255 : Int32)) % (255 : Int32)))] _
      refine XS.iconst X0.here hx rfl (hb hby d40_17) ?_
      show SS p e below m s₁ 18 #[vi p1, vi ((p1 &&& (255 : Int32)) % (255 : Int32))] [(.int (1 : Int32)), (.int ((p1 &&& (255 : Int32)) % (255 : Int32)))] _
      refine XS.iadd X0.here hx rfl (hb hby d40_18) rfl ?_
      show SS p e below m s₁ 19 #[vi p1, vi ((p1 &&& (255 : Int32)) % (255 : Int32))] [(.int (((p1 &&& (255 : Int32)) % (255 : Int32)) + (1 : Int32)))] _
      refine XS.istoreN X0.here hx rfl (hb hby d40_19) rfl (l' := #[vi p1, vi (((p1 &&& (255 : Int32)) % (255 : Int32)) + (1 : Int32))]) rfl ?_
      show SS p e below m s₁ 20 #[vi p1, vi (((p1 &&& (255 : Int32)) % (255 : Int32)) + (1 : Int32))] [] _
      refine XS.iloadN X0.here hx rfl (hb hby d40_20) rfl ?_
      show SS p e below m s₁ 21 #[vi p1, vi (((p1 &&& (255 : Int32)) % (255 : Int32)) + (1 : Int32))] [(.int (((p1 &&& (255 : Int32)) % (255 : Int32)) + (1 : Int32)))] _
      refine XS.i2c X0.here hx rfl (hb hby d40_21) rfl ?_
      show SS p e below m s₁ 22 #[vi p1, vi (((p1 &&& (255 : Int32)) % (255 : Int32)) + (1 : Int32))] [(.int ((((p1 &&& (255 : Int32)) % (255 : Int32)) + (1 : Int32)).toUInt32.toUInt16.toUInt32.toInt32))] _
      exact retN X0 hx (t := .char) Bd.returns (by simp) (hb hby d40_22) hr
    · show Q_rm_ns Z p1 h0 n0 _ s₁.heap _
      rw [e0]
      exact ⟨(own_ns p1), (congrArg (fun z => some (Value.int z)) (own_ns2 hc13_2)), N0, rfl, (own_nsp p1).1, (own_nsp p1).2.1, (own_nsp p1).2.2.1, (own_nsp p1).2.2.2⟩
theorem pd_29 : parseMethodDescriptor "([C)V" = some ⟨[(.array .char)], none⟩ := by decide +kernel
theorem pd_30 : parseMethodDescriptor "(Ljava/lang/String;)Lcom/example/federant/federant/saml/HubEndpoints;" = some ⟨[(.object "java/lang/String")], some (.object "com/example/federant/federant/saml/HubEndpoints")⟩ := by decide +kernel
theorem pd_31 : parseMethodDescriptor "(Ljava/lang/String;[CILjava/lang/String;)Z" = some ⟨[(.object "java/lang/String"), (.array .char), .int, (.object "java/lang/String")], some .boolean⟩ := by decide +kernel
theorem ef_rm0 (m : MethodId) (x0 : Int32) (x1 : Int32) (x2 : Int32) (x3 : Int32) (x4 : Int32) : entryFrame m #[(.int x0), (.int x1), (.int x2), (.int x3), (.int x4)] maxLocals = mkF m 0 #[vi x0, vi x1, vi x2, vi x3, vi x4, .unset, .unset, .unset, .unset] [] := by first | (simp [entryFrame, mkF, argsToLocals, Value.category, maxLocals]; done) | rfl
def Q_rm0 (Z : State) (p1 : Int32) (p2 : Int32) (p3 : Int32) (p4 : Int32) (p5 : Int32) (zc : Int32) (fm : Value) (h0 : Heap) (n0 : Nat) (v : Option Value) (h : Heap) (L : List Loc) : Prop := (v = some (.int (1 : Int32))) ∧ (Fr n0 L) ∧ (Keep h0 h [])
set_option maxRecDepth 65536 in
set_option maxHeartbeats 40000000 in
theorem rm0 (l : Launch) (Z : State) (a0 : Array Value) (hw : ∀ d ∈ tables_1, d.before a0 Z = true) (ws : List Jvm.Cond) (p1 : Int32) (p2 : Int32) (p3 : Int32) (p4 : Int32) (p5 : Int32) (zc : Int32) (fm : Value) (h0 : Heap) (n0 : Nat) (Z0 : n0 ≤ h0.size) (O0 : Old Z n0 h0) (S_CS : Sta Z Z.heap "java/lang/String" "COMPACT_STRINGS" "Z" (.int zc)) (hz : ¬ zc = (0 : Int32)) (S_FM : Sta Z Z.heap "jdk/internal/util/Preconditions" "SIOOBE_FORMATTER" "Ljava/util/function/BiFunction;" fm) (hW_fm : fm.isRef = true) :
    MetFree l x (head1 (Jvm.Cond.code x code maxLocals ret :: ws) room_1) (fun a U => a = #[(.int p1), (.int p2), (.int p3), (.int p4), (.int p5)] ∧ Z.Warmed39 U.vm ∧ U.heap = h0 ∧ CHv Z EL U.vm h0) (fun _ _ _ _ _ => True) (fun _ U o U' => ∃ v L, o = .returned v ∧ Q_rm0 Z p1 p2 p3 p4 p5 zc fm h0 n0 v U'.heap L ∧ CHr Z EL U.vm U.heap U'.vm U'.heap ∧ ReturnedEndW U o U' L room_1.cells room_1.slots) := by
  refine MetFree.of_bodySF (plainFor_of_name pn_9) hisR ?_
  intro p e s m args below meth c s₁ Bd hml0 hP hK
  obtain ⟨rfl, hZ0, hh, hC0⟩ := hP
  have hx := Bd.exec
  have hby := Bd.bytes
  have hml : c.maxLocals = 9 := hml0
  have hown : (s.setVm s.vm).vm.findClass "com/example/federant/federant/saml/HubEndpointsUnderPinLaw" = some m.cls := findClass_of_methodNamed Bd.named
  have hnm := (name_of_methodNamed Bd.named Bd.method).1
  have X0 : Stand p l e room_1 (s.setVm s.vm) m #[(.int p1), (.int p2), (.int p3), (.int p4), (.int p5)] below meth c s₁ [] 0 0 := Stand.of_body Bd
  have e0 : s₁.heap = h0 := by rw [← hh, Bd.state]; rfl
  have N0 := Fr.nil n0
  have KC : Keep h0 h0 [] := Keep.refl h0 _
  have pre0 : ∀ t, Steps p.tables e below (s₁.setTop (mkF m 0 #[vi p1, vi p2, vi p3, vi p4, vi p5, un, un, un, un] [])) t → Steps p.tables e below (s₁.setTop (entryFrame m #[(.int p1), (.int p2), (.int p3), (.int p4), (.int p5)] maxLocals)) t := fun t k => castTop (ef_rm0 m p1 p2 p3 p4 p5) k
  have hZ : Z.Warmed39 (s.setVm s.vm).vm := hZ0
  have hEL := own_hEL hw
  have wS := own_wS hw
  have hS : s.Since s.vm 0 := (State.WarmedH.refl s).since 0
  have hk : 0 ≤ h0.size := Nat.zero_le _
  have hC : CHr Z EL s.vm h0 s.vm h0 := CHr.refl hC0
  have pre1 : ∀ t, Steps p.tables e below (s₁.setTop (mkF m 3 #[vi p1, vi p2, vi p3, vi p4, vi p5, un, un, un, un] [(.int (p1 &&& (3 : Int32)))])) t → Steps p.tables e below (s₁.setTop (entryFrame m #[(.int p1), (.int p2), (.int p3), (.int p4), (.int p5)] maxLocals)) t := by
    intro t kt
    refine pre0 t ?_
    show SS p e below m s₁ 0 #[vi p1, vi p2, vi p3, vi p4, vi p5, un, un, un, un] [] _
    refine XS.iloadN X0.here hx rfl (hb hby at_0) rfl ?_
    show SS p e below m s₁ 1 #[vi p1, vi p2, vi p3, vi p4, vi p5, un, un, un, un] [(.int p1)] _
    refine XS.iconst X0.here hx rfl (hb hby at_1) ?_
    show SS p e below m s₁ 2 #[vi p1, vi p2, vi p3, vi p4, vi p5, un, un, un, un] [(.int (3 : Int32)), (.int p1)] _
    refine XS.iand X0.here hx rfl (hb hby at_2) rfl ?_
    exact kt
  rcases own_n4 p1 with hc | hc | hc | hc
  · rw [hc] at pre1
    obtain ⟨T2, h2, k2, X2, e2, E2, A2, st2⟩ := newP X0 hx hZ (ww hw 0 rfl) e0 (g := (mkF m 6 #[vi p1, vi p2, vi p3, vi p4, vi p5, vi (0 : Int32), un, un, un] [(.int (3 : Int32))])) rfl (hb hby at_6) rfl (by decide) (cap := 3) (by decide) (by decide) (by decide) (by decide)
    obtain ⟨b2, g2⟩ : ∃ z, z = h0.size := ⟨_, rfl⟩
    rw [← g2] at A2 st2
    have g_b2 : n0 ≤ b2 := Nat.le_trans (Nat.le_trans Z0 KC.1) (Nat.le_of_eq g2.symm)
    have sz_b2 : h0.size ≤ b2 := Nat.le_trans KC.1 (Nat.le_of_eq g2.symm)
    replace hk := Nat.le_trans hk E2.1
    replace hC := hC.trans (CHr.ext E2 hC.1)
    replace O0 := O0.ext E2
    replace KC := KC.ext E2
    have V_b2 : Arv Z h2 b2 k2 .char (3 : Int32) [(.int (0 : Int32)), (.int (0 : Int32)), (.int (0 : Int32))] (.int (0 : Int32)) := (Arv.new A2 (by decide)).pad (pad_rep [] (.int (0 : Int32)) 3)
    obtain ⟨x0, ex0, hx0, nx0, hv0⟩ := own_x p2
    have pre3 : ∀ t, Steps p.tables e below (T2.setTop (mkF m 19 #[vi p1, vi p2, vi p3, vi p4, vi p5, vi (0 : Int32), vr b2, un, un] [(.int ((p2 &&& (255 : Int32)).toUInt32.toUInt16.toUInt32.toInt32)), (.int (0 : Int32)), (.ref b2)])) t → Steps p.tables e below (s₁.setTop (entryFrame m #[(.int p1), (.int p2), (.int p3), (.int p4), (.int p5)] maxLocals)) t := by
      intro t kt
      refine pre1 t ?_
      show SS p e below m s₁ 3 #[vi p1, vi p2, vi p3, vi p4, vi p5, un, un, un, un] [(.int (0 : Int32))] _
      refine XS.istore X0.here hx rfl (hb hby at_3) rfl (l' := #[vi p1, vi p2, vi p3, vi p4, vi p5, vi (0 : Int32), un, un, un]) rfl ?_
      show SS p e below m s₁ 5 #[vi p1, vi p2, vi p3, vi p4, vi p5, vi (0 : Int32), un, un, un] [] _
      refine XS.iconst X0.here hx rfl (hb hby at_5) ?_
      show SS p e below m s₁ 6 #[vi p1, vi p2, vi p3, vi p4, vi p5, vi (0 : Int32), un, un, un] [(.int (3 : Int32))] _
      refine st2 _ ?_
      show SS p e below m T2 8 #[vi p1, vi p2, vi p3, vi p4, vi p5, vi (0 : Int32), un, un, un] [(.ref b2)] _
      refine XS.astore X2.here hx rfl (hb hby at_8) rfl rfl (l' := #[vi p1, vi p2, vi p3, vi p4, vi p5, vi (0 : Int32), vr b2, un, un]) rfl ?_
      show SS p e below m T2 10 #[vi p1, vi p2, vi p3, vi p4, vi p5, vi (0 : Int32), vr b2, un, un] [] _
      refine XS.aload X2.here hx rfl (hb hby at_10) rfl rfl ?_
      show SS p e below m T2 12 #[vi p1, vi p2, vi p3, vi p4, vi p5, vi (0 : Int32), vr b2, un, un] [(.ref b2)] _
      refine XS.iconst X2.here hx rfl (hb hby at_12) ?_
      show SS p e below m T2 13 #[vi p1, vi p2, vi p3, vi p4, vi p5, vi (0 : Int32), vr b2, un, un] [(.int (0 : Int32)), (.ref b2)] _
      refine XS.iloadN X2.here hx rfl (hb hby at_13) rfl ?_
      show SS p e below m T2 14 #[vi p1, vi p2, vi p3, vi p4, vi p5, vi (0 : Int32), vr b2, un, un] [(.int p2), (.int (0 : Int32)), (.ref b2)] _
      refine XS.sipush X2.here hx rfl (hb hby at_14) ?_
      show SS p e below m T2 17 #[vi p1, vi p2, vi p3, vi p4, vi p5, vi (0 : Int32), vr b2, un, un] [(.int (255 : Int32)), (.int p2), (.int (0 : Int32)), (.ref b2)] _
      refine XS.iand X2.here hx rfl (hb hby at_17) rfl ?_
      show SS p e below m T2 18 #[vi p1, vi p2, vi p3, vi p4, vi p5, vi (0 : Int32), vr b2, un, un] [(.int (p2 &&& (255 : Int32))), (.int (0 : Int32)), (.ref b2)] _
      refine XS.i2c X2.here hx rfl (hb hby at_18) rfl ?_
      exact kt
    rw [ex0] at pre3
    have Vo4 := V_b2
    obtain ⟨cl4, Ar4, q4, Sz4, Nn4, Hh4, Gg4⟩ := Vo4
    have hin4 : ¬ ((0 : Int32) < 0 ∨ cl4.slots.size ≤ ((0 : Int32)).toNatClampNeg) := inb_of Sz4 ⟨by decide, by decide⟩
    obtain ⟨T5, h5, X5, e5, W5, st5⟩ := stC X2 hx hZ e2 Ar4 (j := (0 : Int32)) hin4 (g := (mkF m 19 #[vi p1, vi p2, vi p3, vi p4, vi p5, vi (0 : Int32), vr b2, un, un] [(.int x0), (.int (0 : Int32)), (.ref b2)])) rfl rfl (hb hby at_19)
    have Vn5 := Arv.set Ar4 q4 Sz4 Nn4 Hh4 Gg4 (fits_nar_char _) W5 (0) rfl (Nat.le_of_ble_eq_true rfl)
    have N5 := Fr.snoc X5 N0 g_b2
    have Vm5 : Arv Z h5 b2 k2 .char (3 : Int32) [(.int x0), (.int (0 : Int32)), (.int (0 : Int32))] (.int (0 : Int32)) := by have hh := Vn5; rw [nx0] at hh; exact hh
    have SfA5 := (Safe.arv (EL := EL) hZ.alike V_b2 (by decide))
    replace hk := Nat.le_trans hk (Keep.of_wr W5).1
    replace hC := hC.trans (CHr.wr W5 SfA5 hC.1)
    replace O0 := O0.wr W5 g_b2
    replace KC := KC.wr W5 (Or.inr sz_b2)
    obtain ⟨x1, ex1, hx1, nx1, hv1⟩ := own_x p3
    have pre6 : ∀ t, Steps p.tables e below (T5.setTop (mkF m 29 #[vi p1, vi p2, vi p3, vi p4, vi p5, vi (0 : Int32), vr b2, un, un] [(.int ((p3 &&& (255 : Int32)).toUInt32.toUInt16.toUInt32.toInt32)), (.int (1 : Int32)), (.ref b2)])) t → Steps p.tables e below (s₁.setTop (entryFrame m #[(.int p1), (.int p2), (.int p3), (.int p4), (.int p5)] maxLocals)) t := by
      intro t kt
      refine pre3 t ?_
      show SS p e below m T2 19 #[vi p1, vi p2, vi p3, vi p4, vi p5, vi (0 : Int32), vr b2, un, un] [(.int x0), (.int (0 : Int32)), (.ref b2)] _
      refine st5 _ ?_
      show SS p e below m T5 20 #[vi p1, vi p2, vi p3, vi p4, vi p5, vi (0 : Int32), vr b2, un, un] [] _
      refine XS.aload X5.here hx rfl (hb hby at_20) rfl rfl ?_
      show SS p e below m T5 22 #[vi p1, vi p2, vi p3, vi p4, vi p5, vi (0 : Int32), vr b2, un, un] [(.ref b2)] _
      refine XS.iconst X5.here hx rfl (hb hby at_22) ?_
      show SS p e below m T5 23 #[vi p1, vi p2, vi p3, vi p4, vi p5, vi (0 : Int32), vr b2, un, un] [(.int (1 : Int32)), (.ref b2)] _
      refine XS.iloadN X5.here hx rfl (hb hby at_23) rfl ?_
      show SS p e below m T5 24 #[vi p1, vi p2, vi p3, vi p4, vi p5, vi (0 : Int32), vr b2, un, un] [(.int p3), (.int (1 : Int32)), (.ref b2)] _
      refine XS.sipush X5.here hx rfl (hb hby at_24) ?_
      show SS p e below m T5 27 #[vi p1, vi p2, vi p3, vi p4, vi p5, vi (0 : Int32), vr b2, un, un] [(.int (255 : Int32)), (.int p3), (.int (1 : Int32)), (.ref b2)] _
      refine XS.iand X5.here hx rfl (hb hby at_27) rfl ?_
      show SS p e below m T5 28 #[vi p1, vi p2, vi p3, vi p4, vi p5, vi (0 : Int32), vr b2, un, un] [(.int (p3 &&& (255 : Int32))), (.int (1 : Int32)), (.ref b2)] _
      refine XS.i2c X5.here hx rfl (hb hby at_28) rfl ?_
      exact kt
    rw [ex1] at pre6
    have Vo7 := Vm5
    obtain ⟨cl7, Ar7, q7, Sz7, Nn7, Hh7, Gg7⟩ := Vo7
    have hin7 : ¬ ((1 : Int32) < 0 ∨ cl7.slots.size ≤ ((1 : Int32)).toNatClampNeg) := inb_of Sz7 ⟨by decide, by decide⟩
    obtain ⟨T8, h8, X8, e8, W8, st8⟩ := stC X5 hx hZ e5 Ar7 (j := (1 : Int32)) hin7 (g := (mkF m 29 #[vi p1, vi p2, vi p3, vi p4, vi p5, vi (0 : Int32), vr b2, un, un] [(.int x1), (.int (1 : Int32)), (.ref b2)])) rfl rfl (hb hby at_29)
    have Vn8 := Arv.set Ar7 q7 Sz7 Nn7 Hh7 Gg7 (fits_nar_char _) W8 (1) rfl (Nat.le_of_ble_eq_true rfl)
    have N8 := Fr.snoc X8 N5 g_b2
    have Vm8 : Arv Z h8 b2 k2 .char (3 : Int32) [(.int x0), (.int x1), (.int (0 : Int32))] (.int (0 : Int32)) := by have hh := Vn8; rw [nx1] at hh; exact hh
    have SfA8 := (Safe.arv (EL := EL) hZ.alike Vm5 (by decide))
    replace hk := Nat.le_trans hk (Keep.of_wr W8).1
    replace hC := hC.trans (CHr.wr W8 SfA8 hC.1)
    replace O0 := O0.wr W8 g_b2
    replace KC := KC.wr W8 (Or.inr sz_b2)
    obtain ⟨x2, ex2, hx2, nx2, hv2⟩ := own_x p4
    have pre9 : ∀ t, Steps p.tables e below (T8.setTop (mkF m 39 #[vi p1, vi p2, vi p3, vi p4, vi p5, vi (0 : Int32), vr b2, un, un] [(.int ((p4 &&& (255 : Int32)).toUInt32.toUInt16.toUInt32.toInt32)), (.int (2 : Int32)), (.ref b2)])) t → Steps p.tables e below (s₁.setTop (entryFrame m #[(.int p1), (.int p2), (.int p3), (.int p4), (.int p5)] maxLocals)) t := by
      intro t kt
      refine pre6 t ?_
      show SS p e below m T5 29 #[vi p1, vi p2, vi p3, vi p4, vi p5, vi (0 : Int32), vr b2, un, un] [(.int x1), (.int (1 : Int32)), (.ref b2)] _
      refine st8 _ ?_
      show SS p e below m T8 30 #[vi p1, vi p2, vi p3, vi p4, vi p5, vi (0 : Int32), vr b2, un, un] [] _
      refine XS.aload X8.here hx rfl (hb hby at_30) rfl rfl ?_
      show SS p e below m T8 32 #[vi p1, vi p2, vi p3, vi p4, vi p5, vi (0 : Int32), vr b2, un, un] [(.ref b2)] _
      refine XS.iconst X8.here hx rfl (hb hby at_32) ?_
      show SS p e below m T8 33 #[vi p1, vi p2, vi p3, vi p4, vi p5, vi (0 : Int32), vr b2, un, un] [(.int (2 : Int32)), (.ref b2)] _
      refine XS.iloadN X8.here hx rfl (hb hby at_33) rfl ?_
      show SS p e below m T8 34 #[vi p1, vi p2, vi p3, vi p4, vi p5, vi (0 : Int32), vr b2, un, un] [(.int p4), (.int (2 : Int32)), (.ref b2)] _
      refine XS.sipush X8.here hx rfl (hb hby at_34) ?_
      show SS p e below m T8 37 #[vi p1, vi p2, vi p3, vi p4, vi p5, vi (0 : Int32), vr b2, un, un] [(.int (255 : Int32)), (.int p4), (.int (2 : Int32)), (.ref b2)] _
      refine XS.iand X8.here hx rfl (hb hby at_37) rfl ?_
      show SS p e below m T8 38 #[vi p1, vi p2, vi p3, vi p4, vi p5, vi (0 : Int32), vr b2, un, un] [(.int (p4 &&& (255 : Int32))), (.int (2 : Int32)), (.ref b2)] _
      refine XS.i2c X8.here hx rfl (hb hby at_38) rfl ?_
      exact kt
    rw [ex2] at pre9
    have Vo10 := Vm8
    obtain ⟨cl10, Ar10, q10, Sz10, Nn10, Hh10, Gg10⟩ := Vo10
    have hin10 : ¬ ((2 : Int32) < 0 ∨ cl10.slots.size ≤ ((2 : Int32)).toNatClampNeg) := inb_of Sz10 ⟨by decide, by decide⟩
    obtain ⟨T11, h11, X11, e11, W11, st11⟩ := stC X8 hx hZ e8 Ar10 (j := (2 : Int32)) hin10 (g := (mkF m 39 #[vi p1, vi p2, vi p3, vi p4, vi p5, vi (0 : Int32), vr b2, un, un] [(.int x2), (.int (2 : Int32)), (.ref b2)])) rfl rfl (hb hby at_39)
    have Vn11 := Arv.set Ar10 q10 Sz10 Nn10 Hh10 Gg10 (fits_nar_char _) W11 (2) rfl (Nat.le_of_ble_eq_true rfl)
    have N11 := Fr.snoc X11 N8 g_b2
    have Vm11 : Arv Z h11 b2 k2 .char (3 : Int32) [(.int x0), (.int x1), (.int x2)] (.int (0 : Int32)) := by have hh := Vn11; rw [nx2] at hh; exact hh
    have SfA11 := (Safe.arv (EL := EL) hZ.alike Vm8 (by decide))
    replace hk := Nat.le_trans hk (Keep.of_wr W11).1
    replace hC := hC.trans (CHr.wr W11 SfA11 hC.1)
    replace O0 := O0.wr W11 g_b2
    replace KC := KC.wr W11 (Or.inr sz_b2)
    obtain ⟨T12, h12, X12, e12, E12, A12, D12, -, st12⟩ := newO X11 hx hZ hown (ww hw 1 rfl) (ww hw 2 rfl) (ww hw 3 rfl) e11 (g := (mkF m 62 #[vi p1, vi p2, vi p3, vi p4, vi p5, vi (0 : Int32), vr b2, un, un] [])) rfl (hb hby at_62) (by decide) (by decide)
    obtain ⟨b12, g12⟩ : ∃ z, z = h11.size := ⟨_, rfl⟩
    rw [← g12] at A12 D12 st12
    have ne_b2_b12 : b2 ≠ b12 := Nat.ne_of_lt (Nat.lt_of_lt_of_le Vm11.lt (Nat.le_of_eq g12.symm))
    have g_b12 : n0 ≤ b12 := Nat.le_trans (Nat.le_trans Z0 KC.1) (Nat.le_of_eq g12.symm)
    have sz_b12 : h0.size ≤ b12 := Nat.le_trans KC.1 (Nat.le_of_eq g12.symm)
    replace hk := Nat.le_trans hk E12.1
    replace hC := hC.trans (CHr.ext E12 hC.1)
    replace Vm11 := Vm11.ext E12
    replace O0 := O0.ext E12
    replace KC := KC.ext E12
    have F_value_b12 : Fld Z h12 b12 "java/lang/String" "value" "[B" .null := D12 (Or.inr (ww hw 16 rfl)) (ty := (.array .byte)) (by decide)
    have F_coder_b12 : Fld Z h12 b12 "java/lang/String" "coder" "B" (.int (0 : Int32)) := D12 (Or.inr (ww hw 17 rfl)) (ty := .byte) (by decide)
    obtain ⟨T13, h13, k13, X13, e13, E13, A13, st13⟩ := newP X12 hx hZ (ww hw 0 rfl) e12 (g := (mkF m 67 #[vi p1, vi p2, vi p3, vi p4, vi p5, vi (0 : Int32), vr b2, un, un] [(.int (0 : Int32)), (.ref b12), (.ref b12)])) rfl (hb hby at_67) rfl (by decide) (cap := 0) (by decide) (by decide) (by decide) (by decide)
    obtain ⟨b13, g13⟩ : ∃ z, z = h12.size := ⟨_, rfl⟩
    rw [← g13] at A13 st13
    have ne_b2_b13 : b2 ≠ b13 := Nat.ne_of_lt (Nat.lt_of_lt_of_le Vm11.lt (Nat.le_of_eq g13.symm))
    have ne_b12_b13 : b12 ≠ b13 := Nat.ne_of_lt (Nat.lt_of_lt_of_le A12.lt (Nat.le_of_eq g13.symm))
    have g_b13 : n0 ≤ b13 := Nat.le_trans (Nat.le_trans Z0 KC.1) (Nat.le_of_eq g13.symm)
    have sz_b13 : h0.size ≤ b13 := Nat.le_trans KC.1 (Nat.le_of_eq g13.symm)
    replace hk := Nat.le_trans hk E13.1
    replace hC := hC.trans (CHr.ext E13 hC.1)
    replace Vm11 := Vm11.ext E13
    replace A12 := A12.ext E13
    replace F_value_b12 := F_value_b12.ext E13
    replace F_coder_b12 := F_coder_b12.ext E13
    replace O0 := O0.ext E13
    replace KC := KC.ext E13
    have V_b13 : Arv Z h13 b13 k13 .char (0 : Int32) [] (.int (0 : Int32)) := Arv.new A13 (by decide)
    obtain ⟨_, _, ⟨T14, L14, kz14, nz14⟩, -, X14, hS14, gr14, ⟨Lc14, hQ14, l14, y14, z14, C14⟩, st14⟩ := X13.specialBackS hx (y := y_28) rfl hown (mvT hZ (ww hw 4 rfl)) (mvT hZ (ww hw 5 rfl)) (mvT hZ (ww hw 6 rfl)) (by decide) (backOfSH (W := 1) (rm_i10 l Z a0 hw [] b12 b13 k13 h13 n0 (Nat.le_trans Z0 KC.1) O0 F_value_b12 F_coder_b12 A12 g_b12 V_b13) hZ (ww hw 6 rfl) (ww hw 3 rfl) (by decide) (by decide) hEL hC.1) (g := (mkF m 69 #[vi p1, vi p2, vi p3, vi p4, vi p5, vi (0 : Int32), vr b2, un, un] [(.ref b13), (.ref b12), (.ref b12)])) rfl (by rw [hml]; rfl) (Steps.refl _) (a := b12) (argsL := [(.ref b13)]) (rest := [(.ref b12)]) (lenOf pd_29 rfl) rfl (by show 2 * 0 + _ ≤ _; exact Nat.le_of_eq rfl) (hb hby at_69) (fun _ _ => ⟨rfl, e13, (by decide : 3 + 4 ≤ _), (by decide : 7 + 8 ≤ _)⟩)
    dsimp only [Pt.U, Pt.locs, Pt.cells, Pt.slots] at X14 l14 y14 z14 st14 hQ14 hS14 gr14 C14
    subst l14 y14 z14
    rw [e13] at gr14
    obtain ⟨Xr14, hSr14, hZr14, hownr14⟩ := rebS hS hk X14 hS14 gr14 hZ hown
    replace hC := hC.trans C14
    replace hZ := hZr14
    replace hown := hownr14
    replace hS := hSr14
    replace hk : T14.heap.size ≤ T14.heap.size := Nat.le_refl _
    replace X14 := Xr14
    obtain ⟨tz_14, kb_14, rfl, N14q, K14, F_value_a1_14, F_coder_a1_14, V_tz_14⟩ := hQ14
    have N14 := Fr.app N11 N14q
    replace Vm11 := Vm11.keep K14 (ninS ne_b2_b12 nin0)
    replace A12 := A12.keep K14
    replace V_b13 := V_b13.keep K14 (ninS (Ne.symm ne_b12_b13) nin0)
    replace O0 := O0.keep K14 (allS g_b12 all0)
    replace KC := KC.trans K14 (allS (Or.inr sz_b12) all0)
    obtain ⟨_, _, ⟨T15, L15, kz15, nz15⟩, -, X15, hS15, gr15, ⟨Lc15, hQ15, l15, y15, z15, C15⟩, st15⟩ := callSS X14 hx (y := y_41) hown (mvT hZ (ww hw 22 rfl)) (mvT hZ (ww hw 23 rfl)) (mvT hZ (ww hw 24 rfl)) (mvT hZ (ww hw 25 rfl)) (by decide) (backOfSH (W := 0) (rm_und l Z a0 hw [] b12 tz_14 kb_14 (0 : Int32) [] [nO, nO, nO, nO, nO, nO, nO, nO, nO, nO, nO, nO, nO, nO, nO, nO] [(.int (47 : Int32)), (.int (115 : Int32)), (.int (112 : Int32)), nO, nO, nO, nO, nO, nO, nO, nO, nO, nO, nO, nO, nO] (3 : Int32) [(.int (47 : Int32)), (.int (115 : Int32)), (.int (112 : Int32)), nO, nO, nO, nO, nO, nO, nO, nO, nO, nO, nO, nO, nO] [(.int (47 : Int32)), (.int (115 : Int32)), (.int (112 : Int32)), (.int (47 : Int32)), (.int (109 : Int32)), (.int (101 : Int32)), (.int (116 : Int32)), (.int (97 : Int32)), (.int (100 : Int32)), (.int (97 : Int32)), (.int (116 : Int32)), (.int (97 : Int32)), nO, nO, nO, nO] (12 : Int32) [(.int (47 : Int32)), (.int (115 : Int32)), (.int (112 : Int32)), (.int (47 : Int32)), (.int (109 : Int32)), (.int (101 : Int32)), (.int (116 : Int32)), (.int (97 : Int32)), (.int (100 : Int32)), (.int (97 : Int32)), (.int (116 : Int32)), (.int (97 : Int32)), nO, nO, nO, nO] [(.int (47 : Int32)), (.int (115 : Int32)), (.int (112 : Int32)), (.int (47 : Int32)), (.int (97 : Int32)), (.int (99 : Int32)), (.int (115 : Int32)), nO, nO, nO, nO, nO, nO, nO, nO, nO] (7 : Int32) [(.int (47 : Int32)), (.int (115 : Int32)), (.int (112 : Int32)), (.int (47 : Int32)), (.int (97 : Int32)), (.int (99 : Int32)), (.int (115 : Int32)), nO, nO, nO, nO, nO, nO, nO, nO, nO] zc T14.heap n0 (Nat.le_trans Z0 KC.1) O0 A12 F_value_a1_14 F_coder_a1_14 V_tz_14 S_CS hz (Or.inl rfl) (by decide) (by decide) rfl (by decide) (by decide) (Nat.le_of_ble_eq_true rfl) rfl (by decide) (by decide) (by decide) (by decide) (by decide) rfl (by decide) (Nat.le_of_ble_eq_true rfl) rfl (by decide) (by decide) (by decide) (by decide) (by decide) rfl (by decide) (Nat.le_of_ble_eq_true rfl) rfl (by decide) (by decide) (by decide) (by decide) (by decide) rfl) hZ (ww hw 25 rfl) (ww hw 24 rfl) (by decide) (by decide) hEL hC.1) (g := (mkF m 175 #[vi p1, vi p2, vi p3, vi p4, vi p5, vi (0 : Int32), vr b2, vr b12, un] [(.ref b12)])) rfl (by rw [hml]; rfl) (argsL := [(.ref b12)]) (rest := []) (lenOf pd_30 rfl) rfl (by show 2 * 0 + _ ≤ _; exact Nat.le_of_eq rfl) (hb hby at_175) (fun _ _ => ⟨rfl, rfl, (by decide : 7 + 21 ≤ _), (by decide : 15 + 231 ≤ _)⟩)
    dsimp only [Pt.U, Pt.locs, Pt.cells, Pt.slots] at X15 l15 y15 z15 st15 hQ15 hS15 gr15 C15
    subst l15 y15 z15
    obtain ⟨Xr15, hSr15, hZr15, hownr15⟩ := rebS hS hk X15 hS15 gr15 hZ hown
    replace hC := hC.trans C15
    replace hZ := hZr15
    replace hown := hownr15
    replace hS := hSr15
    replace hk : T15.heap.size ≤ T15.heap.size := Nat.le_refl _
    replace X15 := Xr15
    obtain ⟨b15_e0, sA_15, tA_15, kA_15, sB_15, tB_15, kB_15, sC_15, tC_15, kC_15, rfl, N15q, K15, sz_b15_e0, E_e0_15, F_entityId_e0_15, F_metadata_e0_15, F_assertionConsumer_e0_15, E_sA_15, F_value_sA_15, F_coder_sA_15, V_tA_15, E_sB_15, F_value_sB_15, F_coder_sB_15, V_tB_15, E_sC_15, F_value_sC_15, F_coder_sC_15, V_tC_15⟩ := hQ15
    have N15 := Fr.app N14 N15q
    have ne_b2_b15_e0 : b2 ≠ b15_e0 := Nat.ne_of_lt (Nat.lt_of_lt_of_le Vm11.lt sz_b15_e0)
    have ne_b12_b15_e0 : b12 ≠ b15_e0 := Nat.ne_of_lt (Nat.lt_of_lt_of_le A12.lt sz_b15_e0)
    have ne_b13_b15_e0 : b13 ≠ b15_e0 := Nat.ne_of_lt (Nat.lt_of_lt_of_le V_b13.lt sz_b15_e0)
    have ne_tz_14_b15_e0 : tz_14 ≠ b15_e0 := Nat.ne_of_lt (Nat.lt_of_lt_of_le V_tz_14.lt sz_b15_e0)
    have g_b15_e0 : n0 ≤ b15_e0 := Nat.le_trans (Nat.le_trans Z0 KC.1) sz_b15_e0
    replace sz_b15_e0 : h0.size ≤ b15_e0 := Nat.le_trans KC.1 sz_b15_e0
    replace Vm11 := Vm11.keep K15 nin0
    replace A12 := A12.keep K15
    replace V_b13 := V_b13.keep K15 nin0
    replace F_value_a1_14 := F_value_a1_14.keep K15 nin0
    replace F_coder_a1_14 := F_coder_a1_14.keep K15 nin0
    replace V_tz_14 := V_tz_14.keep K15 nin0
    replace O0 := O0.keep K15 all0
    replace KC := KC.trans K15 all0
    obtain ⟨cq16, kq16, q16a, q16b, q16c⟩ := isOf hZ rfl E_e0_15
    obtain ⟨_, _, ⟨T16, L16, kz16, nz16⟩, -, X16, ⟨Lc16, hQ16, l16, y16, z16⟩, st16⟩ := X15.virtualBack hx (y := y_38) (z := y_38) hown (mvT hZ (ww hw 169 rfl)) (mvT hZ (ww hw 170 rfl)) (notFace_of_selects (args := #[]) (mvT hZ (ww hw 172 rfl))) (mvT hZ (ww hw 172 rfl)) (mvT hZ (ww hw 171 rfl)) (by decide) (backOf (W := 0) (rm_get_entityId l Z a0 hw [] b15_e0 sA_15 T15.heap n0 (Nat.le_trans Z0 KC.1) O0 F_entityId_e0_15) hZ (ww hw 173 rfl) (ww hw 24 rfl) (by decide) (by decide)) q16a q16c (g := (mkF m 182 #[vi p1, vi p2, vi p3, vi p4, vi p5, vi (0 : Int32), vr b2, vr b12, vr b15_e0] [(.ref b15_e0)])) rfl (by rw [hml]; rfl) (Steps.refl _) (argsL := []) (rest := []) (lenOf pd_27 rfl) rfl (by show 2 * 0 + _ ≤ _; exact Nat.le_of_eq rfl) (hb hby at_182) (fun _ _ => ⟨rfl, rfl, (by decide : 28 + 0 ≤ _), (by decide : 246 + 0 ≤ _)⟩)
    dsimp only [Pt.U, Pt.locs, Pt.cells, Pt.slots] at X16 l16 y16 z16 st16 hQ16
    subst l16 y16 z16
    obtain ⟨rfl, N16q, e16⟩ := hQ16
    have N16 := Fr.app N15 N16q
    obtain ⟨sa17, T17, h17, kx17, sb17, kc17, X17, e17, E17, hS17, hk17, hZ17, hown17, Ex17, Fc17, Fv17, Vv17, -, -, C17, -, nx17, st17⟩ := ldcCH X16 hx hZ hown (ww hw 174 rfl) wS e16 hS hk hEL (by decide) hC.1 (vs := [(.int (47 : Int32)), (.int (115 : Int32)), (.int (112 : Int32))]) (z := (3 : Int32)) ⟨by decide, by first | rfl | decide⟩ (by decide) (by first | rfl | decide) (g := (mkF m 189 #[vi p1, vi p2, vi p3, vi p4, vi p5, vi (0 : Int32), vr b2, vr b12, vr b15_e0] [(.int (0 : Int32)), (.ref b2), (.ref sA_15)])) rfl (hb hby at_189) (n := 12) (by decide) (by decide) (by decide) (by decide)
    replace Vm11 := Vm11.ext E17
    replace A12 := A12.ext E17
    replace V_b13 := V_b13.ext E17
    replace F_value_a1_14 := F_value_a1_14.ext E17
    replace F_coder_a1_14 := F_coder_a1_14.ext E17
    replace V_tz_14 := V_tz_14.ext E17
    replace E_e0_15 := E_e0_15.ext E17
    replace F_entityId_e0_15 := F_entityId_e0_15.ext E17
    replace F_metadata_e0_15 := F_metadata_e0_15.ext E17
    replace F_assertionConsumer_e0_15 := F_assertionConsumer_e0_15.ext E17
    replace E_sA_15 := E_sA_15.ext E17
    replace F_value_sA_15 := F_value_sA_15.ext E17
    replace F_coder_sA_15 := F_coder_sA_15.ext E17
    replace V_tA_15 := V_tA_15.ext E17
    replace E_sB_15 := E_sB_15.ext E17
    replace F_value_sB_15 := F_value_sB_15.ext E17
    replace F_coder_sB_15 := F_coder_sB_15.ext E17
    replace V_tB_15 := V_tB_15.ext E17
    replace E_sC_15 := E_sC_15.ext E17
    replace F_value_sC_15 := F_value_sC_15.ext E17
    replace F_coder_sC_15 := F_coder_sC_15.ext E17
    replace V_tC_15 := V_tC_15.ext E17
    replace O0 := O0.ext E17
    replace KC := KC.ext E17
    replace hC := hC.trans C17
    replace hZ := hZ17
    replace hown := hown17
    replace hS := hS17
    replace hk := hk17
    obtain ⟨_, _, ⟨T18, L18, kz18, nz18⟩, -, X18, ⟨Lc18, hQ18, l18, y18, z18⟩, st18⟩ := Jvm.LawKit.callS X17 hx (y := y_36) hown (mvT hZ (ww hw 175 rfl)) (mvT hZ (ww hw 176 rfl)) (mvT hZ (ww hw 177 rfl)) (mvT hZ (ww hw 178 rfl)) (by decide) (backOf (W := 0) (rm_mat l Z a0 hw [] sA_15 b2 (0 : Int32) sa17 tA_15 kA_15 (3 : Int32) [(.int (47 : Int32)), (.int (115 : Int32)), (.int (112 : Int32)), nO, nO, nO, nO, nO, nO, nO, nO, nO, nO, nO, nO, nO] k2 (3 : Int32) [(.int x0), (.int x1), (.int x2)] sb17 kc17 (3 : Int32) [(.int (47 : Int32)), (.int (115 : Int32)), (.int (112 : Int32))] zc fm h17 n0 (Nat.le_trans Z0 KC.1) O0 E_sA_15 F_value_sA_15 F_coder_sA_15 V_tA_15 Vm11 Ex17 Fv17 Fc17 Vv17 S_CS hz S_FM hW_fm (by decide) (fun kk q0 q1 q2 => own_f0 q0 q2) (fun kk q0 q1 q2 => by rcases own_f3 q0 q1 with rfl | rfl | rfl <;> first | exact absurd (by decide) q2 | exact ⟨by decide, by decide, _, rfl, rfl⟩)) hZ (ww hw 178 rfl) (ww hw 177 rfl) (by decide) (by decide)) (g := (mkF m 191 #[vi p1, vi p2, vi p3, vi p4, vi p5, vi (0 : Int32), vr b2, vr b12, vr b15_e0] [(.ref sa17), (.int (0 : Int32)), (.ref b2), (.ref sA_15)])) rfl (by rw [hml]; rfl) (argsL := [(.ref sA_15), (.ref b2), (.int (0 : Int32)), (.ref sa17)]) (rest := []) (lenOf pd_31 rfl) rfl (by show 2 * 0 + _ ≤ _; exact Nat.le_of_eq rfl) (hb hby at_191) (fun _ _ => ⟨rfl, e17, (by decide : 30 + 0 ≤ _), (by decide : 262 + 0 ≤ _)⟩)
    dsimp only [Pt.U, Pt.locs, Pt.cells, Pt.slots] at X18 l18 y18 z18 st18 hQ18
    subst l18 y18 z18
    obtain ⟨rfl, N18q, e18⟩ := hQ18
    have N18 := Fr.app N16 N18q
    obtain ⟨cq19, kq19, q19a, q19b, q19c⟩ := isOf hZ e18 E_e0_15
    obtain ⟨_, _, ⟨T19, L19, kz19, nz19⟩, -, X19, ⟨Lc19, hQ19, l19, y19, z19⟩, st19⟩ := X18.virtualBack hx (y := y_39) (z := y_39) hown (mvT hZ (ww hw 205 rfl)) (mvT hZ (ww hw 206 rfl)) (notFace_of_selects (args := #[]) (mvT hZ (ww hw 208 rfl))) (mvT hZ (ww hw 208 rfl)) (mvT hZ (ww hw 207 rfl)) (by decide) (backOf (W := 0) (rm_get_metadata l Z a0 hw [] b15_e0 sB_15 h17 n0 (Nat.le_trans Z0 KC.1) O0 F_metadata_e0_15) hZ (ww hw 209 rfl) (ww hw 24 rfl) (by decide) (by decide)) q19a q19c (g := (mkF m 199 #[vi p1, vi p2, vi p3, vi p4, vi p5, vi (0 : Int32), vr b2, vr b12, vr b15_e0] [(.ref b15_e0)])) rfl (by rw [hml]; rfl) (Steps.refl _) (argsL := []) (rest := []) (lenOf pd_27 rfl) rfl (by show 2 * 0 + _ ≤ _; exact Nat.le_of_eq rfl) (hb hby at_199) (fun _ _ => ⟨rfl, e18, (by decide : 30 + 0 ≤ _), (by decide : 262 + 0 ≤ _)⟩)
    dsimp only [Pt.U, Pt.locs, Pt.cells, Pt.slots] at X19 l19 y19 z19 st19 hQ19
    subst l19 y19 z19
    obtain ⟨rfl, N19q, e19⟩ := hQ19
    have N19 := Fr.app N18 N19q
    obtain ⟨sa20, T20, h20, kx20, sb20, kc20, X20, e20, E20, hS20, hk20, hZ20, hown20, Ex20, Fc20, Fv20, Vv20, -, -, C20, -, nx20, st20⟩ := ldcCH X19 hx hZ hown (ww hw 210 rfl) wS e19 hS hk hEL (by decide) hC.1 (vs := [(.int (47 : Int32)), (.int (115 : Int32)), (.int (112 : Int32)), (.int (47 : Int32)), (.int (109 : Int32)), (.int (101 : Int32)), (.int (116 : Int32)), (.int (97 : Int32)), (.int (100 : Int32)), (.int (97 : Int32)), (.int (116 : Int32)), (.int (97 : Int32))]) (z := (12 : Int32)) ⟨by decide, by first | rfl | decide⟩ (by decide) (by first | rfl | decide) (g := (mkF m 206 #[vi p1, vi p2, vi p3, vi p4, vi p5, vi (0 : Int32), vr b2, vr b12, vr b15_e0] [(.int (0 : Int32)), (.ref b2), (.ref sB_15)])) rfl (hb hby at_206) (n := 48) (by decide) (by decide) (by decide) (by decide)
    replace Vm11 := Vm11.ext E20
    replace A12 := A12.ext E20
    replace V_b13 := V_b13.ext E20
    replace F_value_a1_14 := F_value_a1_14.ext E20
    replace F_coder_a1_14 := F_coder_a1_14.ext E20
    replace V_tz_14 := V_tz_14.ext E20
    replace E_e0_15 := E_e0_15.ext E20
    replace F_entityId_e0_15 := F_entityId_e0_15.ext E20
    replace F_metadata_e0_15 := F_metadata_e0_15.ext E20
    replace F_assertionConsumer_e0_15 := F_assertionConsumer_e0_15.ext E20
    replace E_sA_15 := E_sA_15.ext E20
    replace F_value_sA_15 := F_value_sA_15.ext E20
    replace F_coder_sA_15 := F_coder_sA_15.ext E20
    replace V_tA_15 := V_tA_15.ext E20
    replace E_sB_15 := E_sB_15.ext E20
    replace F_value_sB_15 := F_value_sB_15.ext E20
    replace F_coder_sB_15 := F_coder_sB_15.ext E20
    replace V_tB_15 := V_tB_15.ext E20
    replace E_sC_15 := E_sC_15.ext E20
    replace F_value_sC_15 := F_value_sC_15.ext E20
    replace F_coder_sC_15 := F_coder_sC_15.ext E20
    replace V_tC_15 := V_tC_15.ext E20
    replace Ex17 := Ex17.ext E20
    replace Fc17 := Fc17.ext E20
    replace Fv17 := Fv17.ext E20
    replace Vv17 := Vv17.ext E20
    replace O0 := O0.ext E20
    replace KC := KC.ext E20
    replace hC := hC.trans C20
    replace hZ := hZ20
    replace hown := hown20
    replace hS := hS20
    replace hk := hk20
    obtain ⟨_, _, ⟨T21, L21, kz21, nz21⟩, -, X21, ⟨Lc21, hQ21, l21, y21, z21⟩, st21⟩ := Jvm.LawKit.callS X20 hx (y := y_36) hown (mvT hZ (ww hw 175 rfl)) (mvT hZ (ww hw 176 rfl)) (mvT hZ (ww hw 177 rfl)) (mvT hZ (ww hw 178 rfl)) (by decide) (backOf (W := 0) (rm_mat l Z a0 hw [] sB_15 b2 (0 : Int32) sa20 tB_15 kB_15 (12 : Int32) [(.int (47 : Int32)), (.int (115 : Int32)), (.int (112 : Int32)), (.int (47 : Int32)), (.int (109 : Int32)), (.int (101 : Int32)), (.int (116 : Int32)), (.int (97 : Int32)), (.int (100 : Int32)), (.int (97 : Int32)), (.int (116 : Int32)), (.int (97 : Int32)), nO, nO, nO, nO] k2 (3 : Int32) [(.int x0), (.int x1), (.int x2)] sb20 kc20 (12 : Int32) [(.int (47 : Int32)), (.int (115 : Int32)), (.int (112 : Int32)), (.int (47 : Int32)), (.int (109 : Int32)), (.int (101 : Int32)), (.int (116 : Int32)), (.int (97 : Int32)), (.int (100 : Int32)), (.int (97 : Int32)), (.int (116 : Int32)), (.int (97 : Int32))] zc fm h20 n0 (Nat.le_trans Z0 KC.1) O0 E_sB_15 F_value_sB_15 F_coder_sB_15 V_tB_15 Vm11 Ex20 Fv20 Fc20 Vv20 S_CS hz S_FM hW_fm (by decide) (fun kk q0 q1 q2 => own_f0 q0 q2) (fun kk q0 q1 q2 => by rcases own_f12 q0 q1 with rfl | rfl | rfl | rfl | rfl | rfl | rfl | rfl | rfl | rfl | rfl | rfl <;> first | exact absurd (by decide) q2 | exact ⟨by decide, by decide, _, rfl, rfl⟩)) hZ (ww hw 178 rfl) (ww hw 177 rfl) (by decide) (by decide)) (g := (mkF m 208 #[vi p1, vi p2, vi p3, vi p4, vi p5, vi (0 : Int32), vr b2, vr b12, vr b15_e0] [(.ref sa20), (.int (0 : Int32)), (.ref b2), (.ref sB_15)])) rfl (by rw [hml]; rfl) (argsL := [(.ref sB_15), (.ref b2), (.int (0 : Int32)), (.ref sa20)]) (rest := []) (lenOf pd_31 rfl) rfl (by show 2 * 0 + _ ≤ _; exact Nat.le_of_eq rfl) (hb hby at_208) (fun _ _ => ⟨rfl, e20, (by decide : 32 + 0 ≤ _), (by decide : 314 + 0 ≤ _)⟩)
    dsimp only [Pt.U, Pt.locs, Pt.cells, Pt.slots] at X21 l21 y21 z21 st21 hQ21
    subst l21 y21 z21
    obtain ⟨rfl, N21q, e21⟩ := hQ21
    have N21 := Fr.app N19 N21q
    obtain ⟨cq22, kq22, q22a, q22b, q22c⟩ := isOf hZ e21 E_e0_15
    obtain ⟨_, _, ⟨T22, L22, kz22, nz22⟩, -, X22, ⟨Lc22, hQ22, l22, y22, z22⟩, st22⟩ := X21.virtualBack hx (y := y_40) (z := y_40) hown (mvT hZ (ww hw 211 rfl)) (mvT hZ (ww hw 212 rfl)) (notFace_of_selects (args := #[]) (mvT hZ (ww hw 214 rfl))) (mvT hZ (ww hw 214 rfl)) (mvT hZ (ww hw 213 rfl)) (by decide) (backOf (W := 0) (rm_get_assertionConsumer l Z a0 hw [] b15_e0 sC_15 h20 n0 (Nat.le_trans Z0 KC.1) O0 F_assertionConsumer_e0_15) hZ (ww hw 215 rfl) (ww hw 24 rfl) (by decide) (by decide)) q22a q22c (g := (mkF m 216 #[vi p1, vi p2, vi p3, vi p4, vi p5, vi (0 : Int32), vr b2, vr b12, vr b15_e0] [(.ref b15_e0)])) rfl (by rw [hml]; rfl) (Steps.refl _) (argsL := []) (rest := []) (lenOf pd_27 rfl) rfl (by show 2 * 0 + _ ≤ _; exact Nat.le_of_eq rfl) (hb hby at_216) (fun _ _ => ⟨rfl, e21, (by decide : 32 + 0 ≤ _), (by decide : 314 + 0 ≤ _)⟩)
    dsimp only [Pt.U, Pt.locs, Pt.cells, Pt.slots] at X22 l22 y22 z22 st22 hQ22
    subst l22 y22 z22
    obtain ⟨rfl, N22q, e22⟩ := hQ22
    have N22 := Fr.app N21 N22q
    obtain ⟨sa23, T23, h23, kx23, sb23, kc23, X23, e23, E23, hS23, hk23, hZ23, hown23, Ex23, Fc23, Fv23, Vv23, -, -, C23, -, nx23, st23⟩ := ldcCH X22 hx hZ hown (ww hw 216 rfl) wS e22 hS hk hEL (by decide) hC.1 (vs := [(.int (47 : Int32)), (.int (115 : Int32)), (.int (112 : Int32)), (.int (47 : Int32)), (.int (97 : Int32)), (.int (99 : Int32)), (.int (115 : Int32))]) (z := (7 : Int32)) ⟨by decide, by first | rfl | decide⟩ (by decide) (by first | rfl | decide) (g := (mkF m 223 #[vi p1, vi p2, vi p3, vi p4, vi p5, vi (0 : Int32), vr b2, vr b12, vr b15_e0] [(.int (0 : Int32)), (.ref b2), (.ref sC_15)])) rfl (hb hby at_223) (n := 28) (by decide) (by decide) (by decide) (by decide)
    replace Vm11 := Vm11.ext E23
    replace A12 := A12.ext E23
    replace V_b13 := V_b13.ext E23
    replace F_value_a1_14 := F_value_a1_14.ext E23
    replace F_coder_a1_14 := F_coder_a1_14.ext E23
    replace V_tz_14 := V_tz_14.ext E23
    replace E_e0_15 := E_e0_15.ext E23
    replace F_entityId_e0_15 := F_entityId_e0_15.ext E23
    replace F_metadata_e0_15 := F_metadata_e0_15.ext E23
    replace F_assertionConsumer_e0_15 := F_assertionConsumer_e0_15.ext E23
    replace E_sA_15 := E_sA_15.ext E23
    replace F_value_sA_15 := F_value_sA_15.ext E23
    replace F_coder_sA_15 := F_coder_sA_15.ext E23
    replace V_tA_15 := V_tA_15.ext E23
    replace E_sB_15 := E_sB_15.ext E23
    replace F_value_sB_15 := F_value_sB_15.ext E23
    replace F_coder_sB_15 := F_coder_sB_15.ext E23
    replace V_tB_15 := V_tB_15.ext E23
    replace E_sC_15 := E_sC_15.ext E23
    replace F_value_sC_15 := F_value_sC_15.ext E23
    replace F_coder_sC_15 := F_coder_sC_15.ext E23
    replace V_tC_15 := V_tC_15.ext E23
    replace Ex17 := Ex17.ext E23
    replace Fc17 := Fc17.ext E23
    replace Fv17 := Fv17.ext E23
    replace Vv17 := Vv17.ext E23
    replace Ex20 := Ex20.ext E23
    replace Fc20 := Fc20.ext E23
    replace Fv20 := Fv20.ext E23
    replace Vv20 := Vv20.ext E23
    replace O0 := O0.ext E23
    replace KC := KC.ext E23
    replace hC := hC.trans C23
    replace hZ := hZ23
    replace hown := hown23
    replace hS := hS23
    replace hk := hk23
    obtain ⟨_, _, ⟨T24, L24, kz24, nz24⟩, -, X24, ⟨Lc24, hQ24, l24, y24, z24⟩, st24⟩ := Jvm.LawKit.callS X23 hx (y := y_36) hown (mvT hZ (ww hw 175 rfl)) (mvT hZ (ww hw 176 rfl)) (mvT hZ (ww hw 177 rfl)) (mvT hZ (ww hw 178 rfl)) (by decide) (backOf (W := 0) (rm_mat l Z a0 hw [] sC_15 b2 (0 : Int32) sa23 tC_15 kC_15 (7 : Int32) [(.int (47 : Int32)), (.int (115 : Int32)), (.int (112 : Int32)), (.int (47 : Int32)), (.int (97 : Int32)), (.int (99 : Int32)), (.int (115 : Int32)), nO, nO, nO, nO, nO, nO, nO, nO, nO] k2 (3 : Int32) [(.int x0), (.int x1), (.int x2)] sb23 kc23 (7 : Int32) [(.int (47 : Int32)), (.int (115 : Int32)), (.int (112 : Int32)), (.int (47 : Int32)), (.int (97 : Int32)), (.int (99 : Int32)), (.int (115 : Int32))] zc fm h23 n0 (Nat.le_trans Z0 KC.1) O0 E_sC_15 F_value_sC_15 F_coder_sC_15 V_tC_15 Vm11 Ex23 Fv23 Fc23 Vv23 S_CS hz S_FM hW_fm (by decide) (fun kk q0 q1 q2 => own_f0 q0 q2) (fun kk q0 q1 q2 => by rcases own_f7 q0 q1 with rfl | rfl | rfl | rfl | rfl | rfl | rfl <;> first | exact absurd (by decide) q2 | exact ⟨by decide, by decide, _, rfl, rfl⟩)) hZ (ww hw 178 rfl) (ww hw 177 rfl) (by decide) (by decide)) (g := (mkF m 225 #[vi p1, vi p2, vi p3, vi p4, vi p5, vi (0 : Int32), vr b2, vr b12, vr b15_e0] [(.ref sa23), (.int (0 : Int32)), (.ref b2), (.ref sC_15)])) rfl (by rw [hml]; rfl) (argsL := [(.ref sC_15), (.ref b2), (.int (0 : Int32)), (.ref sa23)]) (rest := []) (lenOf pd_31 rfl) rfl (by show 2 * 0 + _ ≤ _; exact Nat.le_of_eq rfl) (hb hby at_225) (fun _ _ => ⟨rfl, e23, (by decide : 34 + 0 ≤ _), (by decide : 346 + 0 ≤ _)⟩)
    dsimp only [Pt.U, Pt.locs, Pt.cells, Pt.slots] at X24 l24 y24 z24 st24 hQ24
    subst l24 y24 z24
    obtain ⟨rfl, N24q, e24⟩ := hQ24
    have N24 := Fr.app N22 N24q
    obtain ⟨fs, hr, hrun, hended, hRE⟩ := X24.leaveW hS (by rw [e24]; exact hk) (v := some (.int (1 : Int32))) (fun h => by rw [Bd.returns] at h; cases h)
    refine ⟨_, _, pre9 _ ?_, hrun, hended, _, _, rfl, ?_, ?_, hRE.1, hRE.2.1, hRE.2.2.1, hRE.2.2.2.mono (by decide) (by decide)⟩
    · show SS p e below m T8 39 #[vi p1, vi p2, vi p3, vi p4, vi p5, vi (0 : Int32), vr b2, un, un] [(.int x2), (.int (2 : Int32)), (.ref b2)] _
      refine st11 _ ?_
      show SS p e below m T11 40 #[vi p1, vi p2, vi p3, vi p4, vi p5, vi (0 : Int32), vr b2, un, un] [] _
      refine XS.iload X11.here hx rfl (hb hby at_40) rfl ?_
      show SS p e below m T11 42 #[vi p1, vi p2, vi p3, vi p4, vi p5, vi (0 : Int32), vr b2, un, un] [(.int (0 : Int32))] _
      refine XS.ifYes X11.here hx rfl (pc0 := 42) (pc' := 57) rfl (hb hby at_42) rfl ((if0 _ _).trans (flt (by decide)).2.2.2) (by decide) (by decide) ?_
      show SS p e below m T11 57 #[vi p1, vi p2, vi p3, vi p4, vi p5, vi (0 : Int32), vr b2, un, un] [] _
      refine XS.iload X11.here hx rfl (hb hby at_57) rfl ?_
      show SS p e below m T11 59 #[vi p1, vi p2, vi p3, vi p4, vi p5, vi (0 : Int32), vr b2, un, un] [(.int (0 : Int32))] _
      refine XS.ifNo X11.here hx rfl (hb hby at_59) rfl ((if0 _ _).trans (teq (by decide)).2) ?_
      show SS p e below m T11 62 #[vi p1, vi p2, vi p3, vi p4, vi p5, vi (0 : Int32), vr b2, un, un] [] _
      refine st12 _ ?_
      show SS p e below m T12 65 #[vi p1, vi p2, vi p3, vi p4, vi p5, vi (0 : Int32), vr b2, un, un] [(.ref b12)] _
      refine XS.dup X12.here hx rfl (hb hby at_65) rfl rfl ?_
      show SS p e below m T12 66 #[vi p1, vi p2, vi p3, vi p4, vi p5, vi (0 : Int32), vr b2, un, un] [(.ref b12), (.ref b12)] _
      refine XS.iconst X12.here hx rfl (hb hby at_66) ?_
      show SS p e below m T12 67 #[vi p1, vi p2, vi p3, vi p4, vi p5, vi (0 : Int32), vr b2, un, un] [(.int (0 : Int32)), (.ref b12), (.ref b12)] _
      refine st13 _ ?_
      show SS p e below m T13 69 #[vi p1, vi p2, vi p3, vi p4, vi p5, vi (0 : Int32), vr b2, un, un] [(.ref b13), (.ref b12), (.ref b12)] _
      refine st14.trans ?_
      show SS p e below m T14 72 #[vi p1, vi p2, vi p3, vi p4, vi p5, vi (0 : Int32), vr b2, un, un] [(.ref b12)] _
      refine XS.astore X14.here hx rfl (hb hby at_72) rfl rfl (l' := #[vi p1, vi p2, vi p3, vi p4, vi p5, vi (0 : Int32), vr b2, vr b12, un]) rfl ?_
      show SS p e below m T14 74 #[vi p1, vi p2, vi p3, vi p4, vi p5, vi (0 : Int32), vr b2, vr b12, un] [] _
      refine XS.goto X14.here hx rfl (pc0 := 74) (pc' := 173) rfl (hb hby at_74) (by decide) (by decide) ?_
      show SS p e below m T14 173 #[vi p1, vi p2, vi p3, vi p4, vi p5, vi (0 : Int32), vr b2, vr b12, un] [] _
      refine XS.aload X14.here hx rfl (hb hby at_173) rfl rfl ?_
      show SS p e below m T14 175 #[vi p1, vi p2, vi p3, vi p4, vi p5, vi (0 : Int32), vr b2, vr b12, un] [(.ref b12)] _
      refine st15.trans ?_
      show SS p e below m T15 178 #[vi p1, vi p2, vi p3, vi p4, vi p5, vi (0 : Int32), vr b2, vr b12, un] [(.ref b15_e0)] _
      refine XS.astore X15.here hx rfl (hb hby at_178) rfl rfl (l' := #[vi p1, vi p2, vi p3, vi p4, vi p5, vi (0 : Int32), vr b2, vr b12, vr b15_e0]) rfl ?_
      show SS p e below m T15 180 #[vi p1, vi p2, vi p3, vi p4, vi p5, vi (0 : Int32), vr b2, vr b12, vr b15_e0] [] _
      refine XS.aload X15.here hx rfl (hb hby at_180) rfl rfl ?_
      show SS p e below m T15 182 #[vi p1, vi p2, vi p3, vi p4, vi p5, vi (0 : Int32), vr b2, vr b12, vr b15_e0] [(.ref b15_e0)] _
      refine st16.trans ?_
      show SS p e below m T16 185 #[vi p1, vi p2, vi p3, vi p4, vi p5, vi (0 : Int32), vr b2, vr b12, vr b15_e0] [(.ref sA_15)] _
      refine XS.aload X16.here hx rfl (hb hby at_185) rfl rfl ?_
      show SS p e below m T16 187 #[vi p1, vi p2, vi p3, vi p4, vi p5, vi (0 : Int32), vr b2, vr b12, vr b15_e0] [(.ref b2), (.ref sA_15)] _
      refine XS.iload X16.here hx rfl (hb hby at_187) rfl ?_
      show SS p e below m T16 189 #[vi p1, vi p2, vi p3, vi p4, vi p5, vi (0 : Int32), vr b2, vr b12, vr b15_e0] [(.int (0 : Int32)), (.ref b2), (.ref sA_15)] _
      refine st17 _ ?_
      show SS p e below m T17 191 #[vi p1, vi p2, vi p3, vi p4, vi p5, vi (0 : Int32), vr b2, vr b12, vr b15_e0] [(.ref sa17), (.int (0 : Int32)), (.ref b2), (.ref sA_15)] _
      refine st18 _ ?_
      show SS p e below m T18 194 #[vi p1, vi p2, vi p3, vi p4, vi p5, vi (0 : Int32), vr b2, vr b12, vr b15_e0] [(.int (1 : Int32))] _
      refine XS.ifNo X18.here hx rfl (hb hby at_194) rfl ((if0 _ _).trans (feq (by decide)).1) ?_
      show SS p e below m T18 197 #[vi p1, vi p2, vi p3, vi p4, vi p5, vi (0 : Int32), vr b2, vr b12, vr b15_e0] [] _
      refine XS.aload X18.here hx rfl (hb hby at_197) rfl rfl ?_
      show SS p e below m T18 199 #[vi p1, vi p2, vi p3, vi p4, vi p5, vi (0 : Int32), vr b2, vr b12, vr b15_e0] [(.ref b15_e0)] _
      refine st19.trans ?_
      show SS p e below m T19 202 #[vi p1, vi p2, vi p3, vi p4, vi p5, vi (0 : Int32), vr b2, vr b12, vr b15_e0] [(.ref sB_15)] _
      refine XS.aload X19.here hx rfl (hb hby at_202) rfl rfl ?_
      show SS p e below m T19 204 #[vi p1, vi p2, vi p3, vi p4, vi p5, vi (0 : Int32), vr b2, vr b12, vr b15_e0] [(.ref b2), (.ref sB_15)] _
      refine XS.iload X19.here hx rfl (hb hby at_204) rfl ?_
      show SS p e below m T19 206 #[vi p1, vi p2, vi p3, vi p4, vi p5, vi (0 : Int32), vr b2, vr b12, vr b15_e0] [(.int (0 : Int32)), (.ref b2), (.ref sB_15)] _
      refine st20 _ ?_
      show SS p e below m T20 208 #[vi p1, vi p2, vi p3, vi p4, vi p5, vi (0 : Int32), vr b2, vr b12, vr b15_e0] [(.ref sa20), (.int (0 : Int32)), (.ref b2), (.ref sB_15)] _
      refine st21 _ ?_
      show SS p e below m T21 211 #[vi p1, vi p2, vi p3, vi p4, vi p5, vi (0 : Int32), vr b2, vr b12, vr b15_e0] [(.int (1 : Int32))] _
      refine XS.ifNo X21.here hx rfl (hb hby at_211) rfl ((if0 _ _).trans (feq (by decide)).1) ?_
      show SS p e below m T21 214 #[vi p1, vi p2, vi p3, vi p4, vi p5, vi (0 : Int32), vr b2, vr b12, vr b15_e0] [] _
      refine XS.aload X21.here hx rfl (hb hby at_214) rfl rfl ?_
      show SS p e below m T21 216 #[vi p1, vi p2, vi p3, vi p4, vi p5, vi (0 : Int32), vr b2, vr b12, vr b15_e0] [(.ref b15_e0)] _
      refine st22.trans ?_
      show SS p e below m T22 219 #[vi p1, vi p2, vi p3, vi p4, vi p5, vi (0 : Int32), vr b2, vr b12, vr b15_e0] [(.ref sC_15)] _
      refine XS.aload X22.here hx rfl (hb hby at_219) rfl rfl ?_
      show SS p e below m T22 221 #[vi p1, vi p2, vi p3, vi p4, vi p5, vi (0 : Int32), vr b2, vr b12, vr b15_e0] [(.ref b2), (.ref sC_15)] _
      refine XS.iload X22.here hx rfl (hb hby at_221) rfl ?_
      show SS p e below m T22 223 #[vi p1, vi p2, vi p3, vi p4, vi p5, vi (0 : Int32), vr b2, vr b12, vr b15_e0] [(.int (0 : Int32)), (.ref b2), (.ref sC_15)] _
      refine st23 _ ?_
      show SS p e below m T23 225 #[vi p1, vi p2, vi p3, vi p4, vi p5, vi (0 : Int32), vr b2, vr b12, vr b15_e0] [(.ref sa23), (.int (0 : Int32)), (.ref b2), (.ref sC_15)] _
      refine st24 _ ?_
      show SS p e below m T24 228 #[vi p1, vi p2, vi p3, vi p4, vi p5, vi (0 : Int32), vr b2, vr b12, vr b15_e0] [(.int (1 : Int32))] _
      refine XS.ifNo X24.here hx rfl (hb hby at_228) rfl ((if0 _ _).trans (feq (by decide)).1) ?_
      show SS p e below m T24 231 #[vi p1, vi p2, vi p3, vi p4, vi p5, vi (0 : Int32), vr b2, vr b12, vr b15_e0] [] _
      refine XS.iconst X24.here hx rfl (hb hby at_231) ?_
      show SS p e below m T24 232 #[vi p1, vi p2, vi p3, vi p4, vi p5, vi (0 : Int32), vr b2, vr b12, vr b15_e0] [(.int (1 : Int32))] _
      refine XS.goto X24.here hx rfl (pc0 := 232) (pc' := 236) rfl (hb hby at_232) (by decide) (by decide) ?_
      show SS p e below m T24 236 #[vi p1, vi p2, vi p3, vi p4, vi p5, vi (0 : Int32), vr b2, vr b12, vr b15_e0] [(.int (1 : Int32))] _
      exact retN X24 hx (t := .boolean) Bd.returns (by simp) (hb hby at_236) hr
    · show Q_rm0 Z p1 p2 p3 p4 p5 zc fm h0 n0 _ T24.heap _
      rw [e24]
      exact ⟨rfl, N24, KC⟩
    · show CHr Z EL s.vm s.heap T24.vm T24.heap
      rw [hh, e24]
      exact hC.trans (CHv.at X24 hZ hEL hC.1)
  · rw [hc] at pre1
    obtain ⟨T25, h25, k25, X25, e25, E25, A25, st25⟩ := newP X0 hx hZ (ww hw 0 rfl) e0 (g := (mkF m 6 #[vi p1, vi p2, vi p3, vi p4, vi p5, vi (1 : Int32), un, un, un] [(.int (3 : Int32))])) rfl (hb hby at_6) rfl (by decide) (cap := 3) (by decide) (by decide) (by decide) (by decide)
    obtain ⟨b25, g25⟩ : ∃ z, z = h0.size := ⟨_, rfl⟩
    rw [← g25] at A25 st25
    have g_b25 : n0 ≤ b25 := Nat.le_trans (Nat.le_trans Z0 KC.1) (Nat.le_of_eq g25.symm)
    have sz_b25 : h0.size ≤ b25 := Nat.le_trans KC.1 (Nat.le_of_eq g25.symm)
    replace hk := Nat.le_trans hk E25.1
    replace hC := hC.trans (CHr.ext E25 hC.1)
    replace O0 := O0.ext E25
    replace KC := KC.ext E25
    have V_b25 : Arv Z h25 b25 k25 .char (3 : Int32) [(.int (0 : Int32)), (.int (0 : Int32)), (.int (0 : Int32))] (.int (0 : Int32)) := (Arv.new A25 (by decide)).pad (pad_rep [] (.int (0 : Int32)) 3)
    obtain ⟨x0, ex0, hx0, nx0, hv0⟩ := own_x p2
    have pre26 : ∀ t, Steps p.tables e below (T25.setTop (mkF m 19 #[vi p1, vi p2, vi p3, vi p4, vi p5, vi (1 : Int32), vr b25, un, un] [(.int ((p2 &&& (255 : Int32)).toUInt32.toUInt16.toUInt32.toInt32)), (.int (0 : Int32)), (.ref b25)])) t → Steps p.tables e below (s₁.setTop (entryFrame m #[(.int p1), (.int p2), (.int p3), (.int p4), (.int p5)] maxLocals)) t := by
      intro t kt
      refine pre1 t ?_
      show SS p e below m s₁ 3 #[vi p1, vi p2, vi p3, vi p4, vi p5, un, un, un, un] [(.int (1 : Int32))] _
      refine XS.istore X0.here hx rfl (hb hby at_3) rfl (l' := #[vi p1, vi p2, vi p3, vi p4, vi p5, vi (1 : Int32), un, un, un]) rfl ?_
      show SS p e below m s₁ 5 #[vi p1, vi p2, vi p3, vi p4, vi p5, vi (1 : Int32), un, un, un] [] _
      refine XS.iconst X0.here hx rfl (hb hby at_5) ?_
      show SS p e below m s₁ 6 #[vi p1, vi p2, vi p3, vi p4, vi p5, vi (1 : Int32), un, un, un] [(.int (3 : Int32))] _
      refine st25 _ ?_
      show SS p e below m T25 8 #[vi p1, vi p2, vi p3, vi p4, vi p5, vi (1 : Int32), un, un, un] [(.ref b25)] _
      refine XS.astore X25.here hx rfl (hb hby at_8) rfl rfl (l' := #[vi p1, vi p2, vi p3, vi p4, vi p5, vi (1 : Int32), vr b25, un, un]) rfl ?_
      show SS p e below m T25 10 #[vi p1, vi p2, vi p3, vi p4, vi p5, vi (1 : Int32), vr b25, un, un] [] _
      refine XS.aload X25.here hx rfl (hb hby at_10) rfl rfl ?_
      show SS p e below m T25 12 #[vi p1, vi p2, vi p3, vi p4, vi p5, vi (1 : Int32), vr b25, un, un] [(.ref b25)] _
      refine XS.iconst X25.here hx rfl (hb hby at_12) ?_
      show SS p e below m T25 13 #[vi p1, vi p2, vi p3, vi p4, vi p5, vi (1 : Int32), vr b25, un, un] [(.int (0 : Int32)), (.ref b25)] _
      refine XS.iloadN X25.here hx rfl (hb hby at_13) rfl ?_
      show SS p e below m T25 14 #[vi p1, vi p2, vi p3, vi p4, vi p5, vi (1 : Int32), vr b25, un, un] [(.int p2), (.int (0 : Int32)), (.ref b25)] _
      refine XS.sipush X25.here hx rfl (hb hby at_14) ?_
      show SS p e below m T25 17 #[vi p1, vi p2, vi p3, vi p4, vi p5, vi (1 : Int32), vr b25, un, un] [(.int (255 : Int32)), (.int p2), (.int (0 : Int32)), (.ref b25)] _
      refine XS.iand X25.here hx rfl (hb hby at_17) rfl ?_
      show SS p e below m T25 18 #[vi p1, vi p2, vi p3, vi p4, vi p5, vi (1 : Int32), vr b25, un, un] [(.int (p2 &&& (255 : Int32))), (.int (0 : Int32)), (.ref b25)] _
      refine XS.i2c X25.here hx rfl (hb hby at_18) rfl ?_
      exact kt
    rw [ex0] at pre26
    have Vo27 := V_b25
    obtain ⟨cl27, Ar27, q27, Sz27, Nn27, Hh27, Gg27⟩ := Vo27
    have hin27 : ¬ ((0 : Int32) < 0 ∨ cl27.slots.size ≤ ((0 : Int32)).toNatClampNeg) := inb_of Sz27 ⟨by decide, by decide⟩
    obtain ⟨T28, h28, X28, e28, W28, st28⟩ := stC X25 hx hZ e25 Ar27 (j := (0 : Int32)) hin27 (g := (mkF m 19 #[vi p1, vi p2, vi p3, vi p4, vi p5, vi (1 : Int32), vr b25, un, un] [(.int x0), (.int (0 : Int32)), (.ref b25)])) rfl rfl (hb hby at_19)
    have Vn28 := Arv.set Ar27 q27 Sz27 Nn27 Hh27 Gg27 (fits_nar_char _) W28 (0) rfl (Nat.le_of_ble_eq_true rfl)
    have N28 := Fr.snoc X28 N0 g_b25
    have Vm28 : Arv Z h28 b25 k25 .char (3 : Int32) [(.int x0), (.int (0 : Int32)), (.int (0 : Int32))] (.int (0 : Int32)) := by have hh := Vn28; rw [nx0] at hh; exact hh
    have SfA28 := (Safe.arv (EL := EL) hZ.alike V_b25 (by decide))
    replace hk := Nat.le_trans hk (Keep.of_wr W28).1
    replace hC := hC.trans (CHr.wr W28 SfA28 hC.1)
    replace O0 := O0.wr W28 g_b25
    replace KC := KC.wr W28 (Or.inr sz_b25)
    obtain ⟨x1, ex1, hx1, nx1, hv1⟩ := own_x p3
    have pre29 : ∀ t, Steps p.tables e below (T28.setTop (mkF m 29 #[vi p1, vi p2, vi p3, vi p4, vi p5, vi (1 : Int32), vr b25, un, un] [(.int ((p3 &&& (255 : Int32)).toUInt32.toUInt16.toUInt32.toInt32)), (.int (1 : Int32)), (.ref b25)])) t → Steps p.tables e below (s₁.setTop (entryFrame m #[(.int p1), (.int p2), (.int p3), (.int p4), (.int p5)] maxLocals)) t := by
      intro t kt
      refine pre26 t ?_
      show SS p e below m T25 19 #[vi p1, vi p2, vi p3, vi p4, vi p5, vi (1 : Int32), vr b25, un, un] [(.int x0), (.int (0 : Int32)), (.ref b25)] _
      refine st28 _ ?_
      show SS p e below m T28 20 #[vi p1, vi p2, vi p3, vi p4, vi p5, vi (1 : Int32), vr b25, un, un] [] _
      refine XS.aload X28.here hx rfl (hb hby at_20) rfl rfl ?_
      show SS p e below m T28 22 #[vi p1, vi p2, vi p3, vi p4, vi p5, vi (1 : Int32), vr b25, un, un] [(.ref b25)] _
      refine XS.iconst X28.here hx rfl (hb hby at_22) ?_
      show SS p e below m T28 23 #[vi p1, vi p2, vi p3, vi p4, vi p5, vi (1 : Int32), vr b25, un, un] [(.int (1 : Int32)), (.ref b25)] _
      refine XS.iloadN X28.here hx rfl (hb hby at_23) rfl ?_
      show SS p e below m T28 24 #[vi p1, vi p2, vi p3, vi p4, vi p5, vi (1 : Int32), vr b25, un, un] [(.int p3), (.int (1 : Int32)), (.ref b25)] _
      refine XS.sipush X28.here hx rfl (hb hby at_24) ?_
      show SS p e below m T28 27 #[vi p1, vi p2, vi p3, vi p4, vi p5, vi (1 : Int32), vr b25, un, un] [(.int (255 : Int32)), (.int p3), (.int (1 : Int32)), (.ref b25)] _
      refine XS.iand X28.here hx rfl (hb hby at_27) rfl ?_
      show SS p e below m T28 28 #[vi p1, vi p2, vi p3, vi p4, vi p5, vi (1 : Int32), vr b25, un, un] [(.int (p3 &&& (255 : Int32))), (.int (1 : Int32)), (.ref b25)] _
      refine XS.i2c X28.here hx rfl (hb hby at_28) rfl ?_
      exact kt
    rw [ex1] at pre29
    have Vo30 := Vm28
    obtain ⟨cl30, Ar30, q30, Sz30, Nn30, Hh30, Gg30⟩ := Vo30
    have hin30 : ¬ ((1 : Int32) < 0 ∨ cl30.slots.size ≤ ((1 : Int32)).toNatClampNeg) := inb_of Sz30 ⟨by decide, by decide⟩
    obtain ⟨T31, h31, X31, e31, W31, st31⟩ := stC X28 hx hZ e28 Ar30 (j := (1 : Int32)) hin30 (g := (mkF m 29 #[vi p1, vi p2, vi p3, vi p4, vi p5, vi (1 : Int32), vr b25, un, un] [(.int x1), (.int (1 : Int32)), (.ref b25)])) rfl rfl (hb hby at_29)
    have Vn31 := Arv.set Ar30 q30 Sz30 Nn30 Hh30 Gg30 (fits_nar_char _) W31 (1) rfl (Nat.le_of_ble_eq_true rfl)
    have N31 := Fr.snoc X31 N28 g_b25
    have Vm31 : Arv Z h31 b25 k25 .char (3 : Int32) [(.int x0), (.int x1), (.int (0 : Int32))] (.int (0 : Int32)) := by have hh := Vn31; rw [nx1] at hh; exact hh
    have SfA31 := (Safe.arv (EL := EL) hZ.alike Vm28 (by decide))
    replace hk := Nat.le_trans hk (Keep.of_wr W31).1
    replace hC := hC.trans (CHr.wr W31 SfA31 hC.1)
    replace O0 := O0.wr W31 g_b25
    replace KC := KC.wr W31 (Or.inr sz_b25)
    obtain ⟨x2, ex2, hx2, nx2, hv2⟩ := own_x p4
    have pre32 : ∀ t, Steps p.tables e below (T31.setTop (mkF m 39 #[vi p1, vi p2, vi p3, vi p4, vi p5, vi (1 : Int32), vr b25, un, un] [(.int ((p4 &&& (255 : Int32)).toUInt32.toUInt16.toUInt32.toInt32)), (.int (2 : Int32)), (.ref b25)])) t → Steps p.tables e below (s₁.setTop (entryFrame m #[(.int p1), (.int p2), (.int p3), (.int p4), (.int p5)] maxLocals)) t := by
      intro t kt
      refine pre29 t ?_
      show SS p e below m T28 29 #[vi p1, vi p2, vi p3, vi p4, vi p5, vi (1 : Int32), vr b25, un, un] [(.int x1), (.int (1 : Int32)), (.ref b25)] _
      refine st31 _ ?_
      show SS p e below m T31 30 #[vi p1, vi p2, vi p3, vi p4, vi p5, vi (1 : Int32), vr b25, un, un] [] _
      refine XS.aload X31.here hx rfl (hb hby at_30) rfl rfl ?_
      show SS p e below m T31 32 #[vi p1, vi p2, vi p3, vi p4, vi p5, vi (1 : Int32), vr b25, un, un] [(.ref b25)] _
      refine XS.iconst X31.here hx rfl (hb hby at_32) ?_
      show SS p e below m T31 33 #[vi p1, vi p2, vi p3, vi p4, vi p5, vi (1 : Int32), vr b25, un, un] [(.int (2 : Int32)), (.ref b25)] _
      refine XS.iloadN X31.here hx rfl (hb hby at_33) rfl ?_
      show SS p e below m T31 34 #[vi p1, vi p2, vi p3, vi p4, vi p5, vi (1 : Int32), vr b25, un, un] [(.int p4), (.int (2 : Int32)), (.ref b25)] _
      refine XS.sipush X31.here hx rfl (hb hby at_34) ?_
      show SS p e below m T31 37 #[vi p1, vi p2, vi p3, vi p4, vi p5, vi (1 : Int32), vr b25, un, un] [(.int (255 : Int32)), (.int p4), (.int (2 : Int32)), (.ref b25)] _
      refine XS.iand X31.here hx rfl (hb hby at_37) rfl ?_
      show SS p e below m T31 38 #[vi p1, vi p2, vi p3, vi p4, vi p5, vi (1 : Int32), vr b25, un, un] [(.int (p4 &&& (255 : Int32))), (.int (2 : Int32)), (.ref b25)] _
      refine XS.i2c X31.here hx rfl (hb hby at_38) rfl ?_
      exact kt
    rw [ex2] at pre32
    have Vo33 := Vm31
    obtain ⟨cl33, Ar33, q33, Sz33, Nn33, Hh33, Gg33⟩ := Vo33
    have hin33 : ¬ ((2 : Int32) < 0 ∨ cl33.slots.size ≤ ((2 : Int32)).toNatClampNeg) := inb_of Sz33 ⟨by decide, by decide⟩
    obtain ⟨T34, h34, X34, e34, W34, st34⟩ := stC X31 hx hZ e31 Ar33 (j := (2 : Int32)) hin33 (g := (mkF m 39 #[vi p1, vi p2, vi p3, vi p4, vi p5, vi (1 : Int32), vr b25, un, un] [(.int x2), (.int (2 : Int32)), (.ref b25)])) rfl rfl (hb hby at_39)
    have Vn34 := Arv.set Ar33 q33 Sz33 Nn33 Hh33 Gg33 (fits_nar_char _) W34 (2) rfl (Nat.le_of_ble_eq_true rfl)
    have N34 := Fr.snoc X34 N31 g_b25
    have Vm34 : Arv Z h34 b25 k25 .char (3 : Int32) [(.int x0), (.int x1), (.int x2)] (.int (0 : Int32)) := by have hh := Vn34; rw [nx2] at hh; exact hh
    have SfA34 := (Safe.arv (EL := EL) hZ.alike Vm31 (by decide))
    replace hk := Nat.le_trans hk (Keep.of_wr W34).1
    replace hC := hC.trans (CHr.wr W34 SfA34 hC.1)
    replace O0 := O0.wr W34 g_b25
    replace KC := KC.wr W34 (Or.inr sz_b25)
    obtain ⟨_, _, ⟨T35, L35, kz35, nz35⟩, -, X35, ⟨Lc35, hQ35, l35, y35, z35⟩, st35⟩ := Jvm.LawKit.callS X34 hx (y := y_42) hown (mvT hZ (ww hw 217 rfl)) (mvT hZ (ww hw 218 rfl)) (mvT hZ (ww hw 177 rfl)) (mvT hZ (ww hw 219 rfl)) (by decide) (backOf (W := 2) (rm_ns l Z a0 hw [] p5 h34 n0 (Nat.le_trans Z0 KC.1) O0 ) hZ (ww hw 219 rfl) (ww hw 177 rfl) (by decide) (by decide)) (g := (mkF m 53 #[vi p1, vi p2, vi p3, vi p4, vi p5, vi (1 : Int32), vr b25, un, un] [(.int p5), (.int (0 : Int32)), (.ref b25)])) rfl (by rw [hml]; rfl) (argsL := [(.int p5)]) (rest := [(.int (0 : Int32)), (.ref b25)]) (lenOf pd_22 rfl) rfl (by show 2 * 0 + _ ≤ _; exact Nat.le_of_eq rfl) (hb hby at_53) (fun _ _ => ⟨rfl, e34, (by decide : 1 + 0 ≤ _), (by decide : 3 + 0 ≤ _)⟩)
    dsimp only [Pt.U, Pt.locs, Pt.cells, Pt.slots] at X35 l35 y35 z35 st35 hQ35
    subst l35 y35 z35
    obtain ⟨y0_35, rfl, N35q, e35, hq35_0, hq35_1, hq35_2, hq35_3⟩ := hQ35
    have N35 := Fr.app N34 N35q
    have Vo36 := Vm34
    obtain ⟨cl36, Ar36, q36, Sz36, Nn36, Hh36, Gg36⟩ := Vo36
    have hin36 : ¬ ((0 : Int32) < 0 ∨ cl36.slots.size ≤ ((0 : Int32)).toNatClampNeg) := inb_of Sz36 ⟨by decide, by decide⟩
    obtain ⟨T37, h37, X37, e37, W37, st37⟩ := stC X35 hx hZ e35 Ar36 (j := (0 : Int32)) hin36 (g := (mkF m 56 #[vi p1, vi p2, vi p3, vi p4, vi p5, vi (1 : Int32), vr b25, un, un] [(.int y0_35), (.int (0 : Int32)), (.ref b25)])) rfl rfl (hb hby at_56)
    have Vn37 := Arv.set Ar36 q36 Sz36 Nn36 Hh36 Gg36 (fits_nar_char _) W37 (0) rfl (Nat.le_of_ble_eq_true rfl)
    have N37 := Fr.snoc X37 N35 g_b25
    have Vm37 : Arv Z h37 b25 k25 .char (3 : Int32) [(.int y0_35), (.int x1), (.int x2)] (.int (0 : Int32)) := by have hh := Vn37; rw [hq35_1] at hh; exact hh
    have SfA37 := (Safe.arv (EL := EL) hZ.alike Vm34 (by decide))
    replace hk := Nat.le_trans hk (Keep.of_wr W37).1
    replace hC := hC.trans (CHr.wr W37 SfA37 hC.1)
    replace O0 := O0.wr W37 g_b25
    replace KC := KC.wr W37 (Or.inr sz_b25)
    obtain ⟨T38, h38, X38, e38, E38, A38, D38, -, st38⟩ := newO X37 hx hZ hown (ww hw 1 rfl) (ww hw 2 rfl) (ww hw 3 rfl) e37 (g := (mkF m 83 #[vi p1, vi p2, vi p3, vi p4, vi p5, vi (1 : Int32), vr b25, un, un] [])) rfl (hb hby at_83) (by decide) (by decide)
    obtain ⟨b38, g38⟩ : ∃ z, z = h37.size := ⟨_, rfl⟩
    rw [← g38] at A38 D38 st38
    have ne_b25_b38 : b25 ≠ b38 := Nat.ne_of_lt (Nat.lt_of_lt_of_le Vm37.lt (Nat.le_of_eq g38.symm))
    have g_b38 : n0 ≤ b38 := Nat.le_trans (Nat.le_trans Z0 KC.1) (Nat.le_of_eq g38.symm)
    have sz_b38 : h0.size ≤ b38 := Nat.le_trans KC.1 (Nat.le_of_eq g38.symm)
    replace hk := Nat.le_trans hk E38.1
    replace hC := hC.trans (CHr.ext E38 hC.1)
    replace Vm37 := Vm37.ext E38
    replace O0 := O0.ext E38
    replace KC := KC.ext E38
    have F_value_b38 : Fld Z h38 b38 "java/lang/String" "value" "[B" .null := D38 (Or.inr (ww hw 16 rfl)) (ty := (.array .byte)) (by decide)
    have F_coder_b38 : Fld Z h38 b38 "java/lang/String" "coder" "B" (.int (0 : Int32)) := D38 (Or.inr (ww hw 17 rfl)) (ty := .byte) (by decide)
    obtain ⟨T39, h39, k39, X39, e39, E39, A39, st39⟩ := newP X38 hx hZ (ww hw 0 rfl) e38 (g := (mkF m 88 #[vi p1, vi p2, vi p3, vi p4, vi p5, vi (1 : Int32), vr b25, un, un] [(.int (1 : Int32)), (.ref b38), (.ref b38)])) rfl (hb hby at_88) rfl (by decide) (cap := 1) (by decide) (by decide) (by decide) (by decide)
    obtain ⟨b39, g39⟩ : ∃ z, z = h38.size := ⟨_, rfl⟩
    rw [← g39] at A39 st39
    have ne_b25_b39 : b25 ≠ b39 := Nat.ne_of_lt (Nat.lt_of_lt_of_le Vm37.lt (Nat.le_of_eq g39.symm))
    have ne_b38_b39 : b38 ≠ b39 := Nat.ne_of_lt (Nat.lt_of_lt_of_le A38.lt (Nat.le_of_eq g39.symm))
    have g_b39 : n0 ≤ b39 := Nat.le_trans (Nat.le_trans Z0 KC.1) (Nat.le_of_eq g39.symm)
    have sz_b39 : h0.size ≤ b39 := Nat.le_trans KC.1 (Nat.le_of_eq g39.symm)
    replace hk := Nat.le_trans hk E39.1
    replace hC := hC.trans (CHr.ext E39 hC.1)
    replace Vm37 := Vm37.ext E39
    replace A38 := A38.ext E39
    replace F_value_b38 := F_value_b38.ext E39
    replace F_coder_b38 := F_coder_b38.ext E39
    replace O0 := O0.ext E39
    replace KC := KC.ext E39
    have V_b39 : Arv Z h39 b39 k39 .char (1 : Int32) [(.int (0 : Int32))] (.int (0 : Int32)) := (Arv.new A39 (by decide)).pad (pad_rep [] (.int (0 : Int32)) 1)
    have Vo40 := Vm37
    obtain ⟨cl40, Ar40, q40, Sz40, Nn40, Hh40, Gg40⟩ := Vo40
    have hin40 : ¬ ((0 : Int32) < 0 ∨ cl40.slots.size ≤ ((0 : Int32)).toNatClampNeg) := inb_of Sz40 ⟨by decide, by decide⟩
    have hat40 : cl40.slots[((0 : Int32)).toNatClampNeg]? = some (.int y0_35) := Has.at Hh40 hin40 rfl
    have ia40 := State.isArrayOf_alike hZ.alike Ar40.2.1
    have Vo41 := V_b39
    obtain ⟨cl41, Ar41, q41, Sz41, Nn41, Hh41, Gg41⟩ := Vo41
    have hin41 : ¬ ((0 : Int32) < 0 ∨ cl41.slots.size ≤ ((0 : Int32)).toNatClampNeg) := inb_of Sz41 ⟨by decide, by decide⟩
    obtain ⟨T42, h42, X42, e42, W42, st42⟩ := stC X39 hx hZ e39 Ar41 (j := (0 : Int32)) hin41 (g := (mkF m 96 #[vi p1, vi p2, vi p3, vi p4, vi p5, vi (1 : Int32), vr b25, un, un] [(.int y0_35), (.int (0 : Int32)), (.ref b39), (.ref b39), (.ref b38), (.ref b38)])) rfl rfl (hb hby at_96)
    have Vn42 := Arv.set Ar41 q41 Sz41 Nn41 Hh41 Gg41 (fits_nar_char _) W42 (0) rfl (Nat.le_of_ble_eq_true rfl)
    have N42 := Fr.snoc X42 N37 g_b39
    have Vm42 : Arv Z h42 b39 k39 .char (1 : Int32) [(.int y0_35)] (.int (0 : Int32)) := by have hh := Vn42; rw [hq35_1] at hh; exact hh
    have SfA42 := (Safe.arv (EL := EL) hZ.alike V_b39 (by decide))
    replace hk := Nat.le_trans hk (Keep.of_wr W42).1
    replace hC := hC.trans (CHr.wr W42 SfA42 hC.1)
    replace Vm37 := Vm37.other W42 ne_b25_b39
    replace A38 := A38.wr W42
    replace F_value_b38 := F_value_b38.other W42 (Or.inl ne_b38_b39)
    replace F_coder_b38 := F_coder_b38.other W42 (Or.inl ne_b38_b39)
    replace O0 := O0.wr W42 g_b39
    replace KC := KC.wr W42 (Or.inr sz_b39)
    obtain ⟨_, _, ⟨T43, L43, kz43, nz43⟩, -, X43, ⟨Lc43, hQ43, l43, y43, z43⟩, st43⟩ := X42.specialBack hx (y := y_28) rfl hown (mvT hZ (ww hw 4 rfl)) (mvT hZ (ww hw 5 rfl)) (mvT hZ (ww hw 6 rfl)) (by decide) (backOf (W := 1) (rm_i11 l Z a0 hw [] b38 b39 k39 y0_35 zc h42 n0 (Nat.le_trans Z0 KC.1) O0 F_value_b38 F_coder_b38 A38 g_b38 Vm42 S_CS hz hq35_0) hZ (ww hw 6 rfl) (ww hw 3 rfl) (by decide) (by decide)) (g := (mkF m 97 #[vi p1, vi p2, vi p3, vi p4, vi p5, vi (1 : Int32), vr b25, un, un] [(.ref b39), (.ref b38), (.ref b38)])) rfl (by rw [hml]; rfl) (Steps.refl _) (a := b38) (argsL := [(.ref b39)]) (rest := [(.ref b38)]) (lenOf pd_29 rfl) rfl (by show 2 * 0 + _ ≤ _; exact Nat.le_of_eq rfl) (hb hby at_97) (fun _ _ => ⟨rfl, e42, (by decide : 3 + 1 ≤ _), (by decide : 8 + 1 ≤ _)⟩)
    dsimp only [Pt.U, Pt.locs, Pt.cells, Pt.slots] at X43 l43 y43 z43 st43 hQ43
    subst l43 y43 z43
    obtain ⟨b43_tz, kb_43, rfl, N43q, K43, sz_b43_tz, F_value_a1_43, F_coder_a1_43, V_tz_43⟩ := hQ43
    have N43 := Fr.app N42 N43q
    have Sf_b43_tz : Safe Z EL s.vm h42 b43_tz := Safe.new sz_b43_tz
    have ne_b25_b43_tz : b25 ≠ b43_tz := Nat.ne_of_lt (Nat.lt_of_lt_of_le Vm37.lt sz_b43_tz)
    have ne_b38_b43_tz : b38 ≠ b43_tz := Nat.ne_of_lt (Nat.lt_of_lt_of_le A38.lt sz_b43_tz)
    have ne_b39_b43_tz : b39 ≠ b43_tz := Nat.ne_of_lt (Nat.lt_of_lt_of_le Vm42.lt sz_b43_tz)
    have g_b43_tz : n0 ≤ b43_tz := Nat.le_trans (Nat.le_trans Z0 KC.1) sz_b43_tz
    replace sz_b43_tz : h0.size ≤ b43_tz := Nat.le_trans KC.1 sz_b43_tz
    have hsf43 := (sfS (own_safe (EL := EL) hZ.alike A38 F_value_b38) sf0)
    replace Sf_b43_tz := Safe.keep K43 hsf43 hC.1 Sf_b43_tz
    replace hk := Nat.le_trans hk K43.1
    replace hC := hC.trans (CHr.keep K43 hsf43 hC.1)
    replace Vm37 := Vm37.keep K43 (ninS ne_b25_b38 nin0)
    replace A38 := A38.keep K43
    replace Vm42 := Vm42.keep K43 (ninS (Ne.symm ne_b38_b39) nin0)
    replace O0 := O0.keep K43 (allS g_b38 all0)
    replace KC := KC.trans K43 (allS (Or.inr sz_b38) all0)
    obtain ⟨_, _, ⟨T44, L44, kz44, nz44⟩, -, X44, hS44, gr44, ⟨Lc44, hQ44, l44, y44, z44, C44⟩, st44⟩ := callSS X43 hx (y := y_41) hown (mvT hZ (ww hw 22 rfl)) (mvT hZ (ww hw 23 rfl)) (mvT hZ (ww hw 24 rfl)) (mvT hZ (ww hw 25 rfl)) (by decide) (backOfSH (W := 0) (rm_und l Z a0 hw [] b38 b43_tz kb_43 (1 : Int32) [(.int (own_b y0_35))] [(.int (own_b y0_35)), nO, nO, nO, nO, nO, nO, nO, nO, nO, nO, nO, nO, nO, nO, nO] [(.int (own_b y0_35)), (.int (47 : Int32)), (.int (115 : Int32)), (.int (112 : Int32)), nO, nO, nO, nO, nO, nO, nO, nO, nO, nO, nO, nO] (4 : Int32) [(.int (own_b y0_35)), (.int (47 : Int32)), (.int (115 : Int32)), (.int (112 : Int32)), nO, nO, nO, nO, nO, nO, nO, nO, nO, nO, nO, nO] [(.int (own_b y0_35)), (.int (47 : Int32)), (.int (115 : Int32)), (.int (112 : Int32)), (.int (47 : Int32)), (.int (109 : Int32)), (.int (101 : Int32)), (.int (116 : Int32)), (.int (97 : Int32)), (.int (100 : Int32)), (.int (97 : Int32)), (.int (116 : Int32)), (.int (97 : Int32)), nO, nO, nO] (13 : Int32) [(.int (own_b y0_35)), (.int (47 : Int32)), (.int (115 : Int32)), (.int (112 : Int32)), (.int (47 : Int32)), (.int (109 : Int32)), (.int (101 : Int32)), (.int (116 : Int32)), (.int (97 : Int32)), (.int (100 : Int32)), (.int (97 : Int32)), (.int (116 : Int32)), (.int (97 : Int32)), nO, nO, nO] [(.int (own_b y0_35)), (.int (47 : Int32)), (.int (115 : Int32)), (.int (112 : Int32)), (.int (47 : Int32)), (.int (97 : Int32)), (.int (99 : Int32)), (.int (115 : Int32)), nO, nO, nO, nO, nO, nO, nO, nO] (8 : Int32) [(.int (own_b y0_35)), (.int (47 : Int32)), (.int (115 : Int32)), (.int (112 : Int32)), (.int (47 : Int32)), (.int (97 : Int32)), (.int (99 : Int32)), (.int (115 : Int32)), nO, nO, nO, nO, nO, nO, nO, nO] zc T43.heap n0 (Nat.le_trans Z0 KC.1) O0 A38 F_value_a1_43 F_coder_a1_43 V_tz_43 S_CS hz (Or.inr (Or.inl ⟨rfl, _, rfl, hq35_2⟩)) (by decide) (by decide) rfl (by decide) (by decide) (Nat.le_of_ble_eq_true rfl) rfl (by decide) (by decide) (by decide) (by decide) (by decide) rfl (by decide) (Nat.le_of_ble_eq_true rfl) rfl (by decide) (by decide) (by decide) (by decide) (by decide) rfl (by decide) (Nat.le_of_ble_eq_true rfl) rfl (by decide) (by decide) (by decide) (by decide) (by decide) rfl) hZ (ww hw 25 rfl) (ww hw 24 rfl) (by decide) (by decide) hEL hC.1) (g := (mkF m 175 #[vi p1, vi p2, vi p3, vi p4, vi p5, vi (1 : Int32), vr b25, vr b38, un] [(.ref b38)])) rfl (by rw [hml]; rfl) (argsL := [(.ref b38)]) (rest := []) (lenOf pd_30 rfl) rfl (by show 2 * 0 + _ ≤ _; exact Nat.le_of_eq rfl) (hb hby at_175) (fun _ _ => ⟨rfl, rfl, (by decide : 4 + 21 ≤ _), (by decide : 9 + 231 ≤ _)⟩)
    dsimp only [Pt.U, Pt.locs, Pt.cells, Pt.slots] at X44 l44 y44 z44 st44 hQ44 hS44 gr44 C44
    subst l44 y44 z44
    replace Sf_b43_tz := C44.safe V_tz_43.lt Sf_b43_tz
    obtain ⟨Xr44, hSr44, hZr44, hownr44⟩ := rebS hS hk X44 hS44 gr44 hZ hown
    replace hC := hC.trans C44
    replace hZ := hZr44
    replace hown := hownr44
    replace hS := hSr44
    replace hk : T44.heap.size ≤ T44.heap.size := Nat.le_refl _
    replace X44 := Xr44
    obtain ⟨b44_e0, sA_44, tA_44, kA_44, sB_44, tB_44, kB_44, sC_44, tC_44, kC_44, rfl, N44q, K44, sz_b44_e0, E_e0_44, F_entityId_e0_44, F_metadata_e0_44, F_assertionConsumer_e0_44, E_sA_44, F_value_sA_44, F_coder_sA_44, V_tA_44, E_sB_44, F_value_sB_44, F_coder_sB_44, V_tB_44, E_sC_44, F_value_sC_44, F_coder_sC_44, V_tC_44⟩ := hQ44
    have N44 := Fr.app N43 N44q
    have ne_b25_b44_e0 : b25 ≠ b44_e0 := Nat.ne_of_lt (Nat.lt_of_lt_of_le Vm37.lt sz_b44_e0)
    have ne_b38_b44_e0 : b38 ≠ b44_e0 := Nat.ne_of_lt (Nat.lt_of_lt_of_le A38.lt sz_b44_e0)
    have ne_b43_tz_b44_e0 : b43_tz ≠ b44_e0 := Nat.ne_of_lt (Nat.lt_of_lt_of_le V_tz_43.lt sz_b44_e0)
    have g_b44_e0 : n0 ≤ b44_e0 := Nat.le_trans (Nat.le_trans Z0 KC.1) sz_b44_e0
    replace sz_b44_e0 : h0.size ≤ b44_e0 := Nat.le_trans KC.1 sz_b44_e0
    replace Vm37 := Vm37.keep K44 nin0
    replace A38 := A38.keep K44
    replace F_value_a1_43 := F_value_a1_43.keep K44 nin0
    replace F_coder_a1_43 := F_coder_a1_43.keep K44 nin0
    replace V_tz_43 := V_tz_43.keep K44 nin0
    replace O0 := O0.keep K44 all0
    replace KC := KC.trans K44 all0
    obtain ⟨cq45, kq45, q45a, q45b, q45c⟩ := isOf hZ rfl E_e0_44
    obtain ⟨_, _, ⟨T45, L45, kz45, nz45⟩, -, X45, ⟨Lc45, hQ45, l45, y45, z45⟩, st45⟩ := X44.virtualBack hx (y := y_38) (z := y_38) hown (mvT hZ (ww hw 169 rfl)) (mvT hZ (ww hw 170 rfl)) (notFace_of_selects (args := #[]) (mvT hZ (ww hw 172 rfl))) (mvT hZ (ww hw 172 rfl)) (mvT hZ (ww hw 171 rfl)) (by decide) (backOf (W := 0) (rm_get_entityId l Z a0 hw [] b44_e0 sA_44 T44.heap n0 (Nat.le_trans Z0 KC.1) O0 F_entityId_e0_44) hZ (ww hw 173 rfl) (ww hw 24 rfl) (by decide) (by decide)) q45a q45c (g := (mkF m 182 #[vi p1, vi p2, vi p3, vi p4, vi p5, vi (1 : Int32), vr b25, vr b38, vr b44_e0] [(.ref b44_e0)])) rfl (by rw [hml]; rfl) (Steps.refl _) (argsL := []) (rest := []) (lenOf pd_27 rfl) rfl (by show 2 * 0 + _ ≤ _; exact Nat.le_of_eq rfl) (hb hby at_182) (fun _ _ => ⟨rfl, rfl, (by decide : 25 + 0 ≤ _), (by decide : 240 + 0 ≤ _)⟩)
    dsimp only [Pt.U, Pt.locs, Pt.cells, Pt.slots] at X45 l45 y45 z45 st45 hQ45
    subst l45 y45 z45
    obtain ⟨rfl, N45q, e45⟩ := hQ45
    have N45 := Fr.app N44 N45q
    obtain ⟨sa46, T46, h46, kx46, sb46, kc46, X46, e46, E46, hS46, hk46, hZ46, hown46, Ex46, Fc46, Fv46, Vv46, -, -, C46, -, nx46, st46⟩ := ldcCH X45 hx hZ hown (ww hw 174 rfl) wS e45 hS hk hEL (by decide) hC.1 (vs := [(.int (47 : Int32)), (.int (115 : Int32)), (.int (112 : Int32))]) (z := (3 : Int32)) ⟨by decide, by first | rfl | decide⟩ (by decide) (by first | rfl | decide) (g := (mkF m 189 #[vi p1, vi p2, vi p3, vi p4, vi p5, vi (1 : Int32), vr b25, vr b38, vr b44_e0] [(.int (1 : Int32)), (.ref b25), (.ref sA_44)])) rfl (hb hby at_189) (n := 12) (by decide) (by decide) (by decide) (by decide)
    replace Sf_b43_tz := C46.safe V_tz_43.lt Sf_b43_tz
    replace Vm37 := Vm37.ext E46
    replace A38 := A38.ext E46
    replace F_value_a1_43 := F_value_a1_43.ext E46
    replace F_coder_a1_43 := F_coder_a1_43.ext E46
    replace V_tz_43 := V_tz_43.ext E46
    replace E_e0_44 := E_e0_44.ext E46
    replace F_entityId_e0_44 := F_entityId_e0_44.ext E46
    replace F_metadata_e0_44 := F_metadata_e0_44.ext E46
    replace F_assertionConsumer_e0_44 := F_assertionConsumer_e0_44.ext E46
    replace E_sA_44 := E_sA_44.ext E46
    replace F_value_sA_44 := F_value_sA_44.ext E46
    replace F_coder_sA_44 := F_coder_sA_44.ext E46
    replace V_tA_44 := V_tA_44.ext E46
    replace E_sB_44 := E_sB_44.ext E46
    replace F_value_sB_44 := F_value_sB_44.ext E46
    replace F_coder_sB_44 := F_coder_sB_44.ext E46
    replace V_tB_44 := V_tB_44.ext E46
    replace E_sC_44 := E_sC_44.ext E46
    replace F_value_sC_44 := F_value_sC_44.ext E46
    replace F_coder_sC_44 := F_coder_sC_44.ext E46
    replace V_tC_44 := V_tC_44.ext E46
    replace O0 := O0.ext E46
    replace KC := KC.ext E46
    replace hC := hC.trans C46
    replace hZ := hZ46
    replace hown := hown46
    replace hS := hS46
    replace hk := hk46
    have nx46_b43_tz := nx46 _ Sf_b43_tz
    obtain ⟨_, _, ⟨T47, L47, kz47, nz47⟩, -, X47, ⟨Lc47, hQ47, l47, y47, z47⟩, st47⟩ := Jvm.LawKit.callS X46 hx (y := y_36) hown (mvT hZ (ww hw 175 rfl)) (mvT hZ (ww hw 176 rfl)) (mvT hZ (ww hw 177 rfl)) (mvT hZ (ww hw 178 rfl)) (by decide) (backOf (W := 0) (rm_mat l Z a0 hw [] sA_44 b25 (1 : Int32) sa46 tA_44 kA_44 (4 : Int32) [(.int (own_b y0_35)), (.int (47 : Int32)), (.int (115 : Int32)), (.int (112 : Int32)), nO, nO, nO, nO, nO, nO, nO, nO, nO, nO, nO, nO] k25 (3 : Int32) [(.int y0_35), (.int x1), (.int x2)] sb46 kc46 (3 : Int32) [(.int (47 : Int32)), (.int (115 : Int32)), (.int (112 : Int32))] zc fm h46 n0 (Nat.le_trans Z0 KC.1) O0 E_sA_44 F_value_sA_44 F_coder_sA_44 V_tA_44 Vm37 Ex46 Fv46 Fc46 Vv46 S_CS hz S_FM hW_fm (by decide) (fun kk q0 q1 q2 => by rcases own_f1 q0 q2 with rfl <;> first | exact ⟨by decide, _, _, rfl, rfl, hq35_3⟩) (fun kk q0 q1 q2 => by rcases own_f4 q0 q1 with rfl | rfl | rfl | rfl <;> first | exact absurd (by decide) q2 | exact ⟨by decide, by decide, _, rfl, rfl⟩)) hZ (ww hw 178 rfl) (ww hw 177 rfl) (by decide) (by decide)) (g := (mkF m 191 #[vi p1, vi p2, vi p3, vi p4, vi p5, vi (1 : Int32), vr b25, vr b38, vr b44_e0] [(.ref sa46), (.int (1 : Int32)), (.ref b25), (.ref sA_44)])) rfl (by rw [hml]; rfl) (argsL := [(.ref sA_44), (.ref b25), (.int (1 : Int32)), (.ref sa46)]) (rest := []) (lenOf pd_31 rfl) rfl (by show 2 * 0 + _ ≤ _; exact Nat.le_of_eq rfl) (hb hby at_191) (fun _ _ => ⟨rfl, e46, (by decide : 27 + 0 ≤ _), (by decide : 256 + 0 ≤ _)⟩)
    dsimp only [Pt.U, Pt.locs, Pt.cells, Pt.slots] at X47 l47 y47 z47 st47 hQ47
    subst l47 y47 z47
    obtain ⟨rfl, N47q, e47⟩ := hQ47
    have N47 := Fr.app N45 N47q
    obtain ⟨cq48, kq48, q48a, q48b, q48c⟩ := isOf hZ e47 E_e0_44
    obtain ⟨_, _, ⟨T48, L48, kz48, nz48⟩, -, X48, ⟨Lc48, hQ48, l48, y48, z48⟩, st48⟩ := X47.virtualBack hx (y := y_39) (z := y_39) hown (mvT hZ (ww hw 205 rfl)) (mvT hZ (ww hw 206 rfl)) (notFace_of_selects (args := #[]) (mvT hZ (ww hw 208 rfl))) (mvT hZ (ww hw 208 rfl)) (mvT hZ (ww hw 207 rfl)) (by decide) (backOf (W := 0) (rm_get_metadata l Z a0 hw [] b44_e0 sB_44 h46 n0 (Nat.le_trans Z0 KC.1) O0 F_metadata_e0_44) hZ (ww hw 209 rfl) (ww hw 24 rfl) (by decide) (by decide)) q48a q48c (g := (mkF m 199 #[vi p1, vi p2, vi p3, vi p4, vi p5, vi (1 : Int32), vr b25, vr b38, vr b44_e0] [(.ref b44_e0)])) rfl (by rw [hml]; rfl) (Steps.refl _) (argsL := []) (rest := []) (lenOf pd_27 rfl) rfl (by show 2 * 0 + _ ≤ _; exact Nat.le_of_eq rfl) (hb hby at_199) (fun _ _ => ⟨rfl, e47, (by decide : 27 + 0 ≤ _), (by decide : 256 + 0 ≤ _)⟩)
    dsimp only [Pt.U, Pt.locs, Pt.cells, Pt.slots] at X48 l48 y48 z48 st48 hQ48
    subst l48 y48 z48
    obtain ⟨rfl, N48q, e48⟩ := hQ48
    have N48 := Fr.app N47 N48q
    obtain ⟨sa49, T49, h49, kx49, sb49, kc49, X49, e49, E49, hS49, hk49, hZ49, hown49, Ex49, Fc49, Fv49, Vv49, -, -, C49, -, nx49, st49⟩ := ldcCH X48 hx hZ hown (ww hw 210 rfl) wS e48 hS hk hEL (by decide) hC.1 (vs := [(.int (47 : Int32)), (.int (115 : Int32)), (.int (112 : Int32)), (.int (47 : Int32)), (.int (109 : Int32)), (.int (101 : Int32)), (.int (116 : Int32)), (.int (97 : Int32)), (.int (100 : Int32)), (.int (97 : Int32)), (.int (116 : Int32)), (.int (97 : Int32))]) (z := (12 : Int32)) ⟨by decide, by first | rfl | decide⟩ (by decide) (by first | rfl | decide) (g := (mkF m 206 #[vi p1, vi p2, vi p3, vi p4, vi p5, vi (1 : Int32), vr b25, vr b38, vr b44_e0] [(.int (1 : Int32)), (.ref b25), (.ref sB_44)])) rfl (hb hby at_206) (n := 48) (by decide) (by decide) (by decide) (by decide)
    replace Sf_b43_tz := C49.safe V_tz_43.lt Sf_b43_tz
    replace Vm37 := Vm37.ext E49
    replace A38 := A38.ext E49
    replace F_value_a1_43 := F_value_a1_43.ext E49
    replace F_coder_a1_43 := F_coder_a1_43.ext E49
    replace V_tz_43 := V_tz_43.ext E49
    replace E_e0_44 := E_e0_44.ext E49
    replace F_entityId_e0_44 := F_entityId_e0_44.ext E49
    replace F_metadata_e0_44 := F_metadata_e0_44.ext E49
    replace F_assertionConsumer_e0_44 := F_assertionConsumer_e0_44.ext E49
    replace E_sA_44 := E_sA_44.ext E49
    replace F_value_sA_44 := F_value_sA_44.ext E49
    replace F_coder_sA_44 := F_coder_sA_44.ext E49
    replace V_tA_44 := V_tA_44.ext E49
    replace E_sB_44 := E_sB_44.ext E49
    replace F_value_sB_44 := F_value_sB_44.ext E49
    replace F_coder_sB_44 := F_coder_sB_44.ext E49
    replace V_tB_44 := V_tB_44.ext E49
    replace E_sC_44 := E_sC_44.ext E49
    replace F_value_sC_44 := F_value_sC_44.ext E49
    replace F_coder_sC_44 := F_coder_sC_44.ext E49
    replace V_tC_44 := V_tC_44.ext E49
    replace Ex46 := Ex46.ext E49
    replace Fc46 := Fc46.ext E49
    replace Fv46 := Fv46.ext E49
    replace Vv46 := Vv46.ext E49
    replace O0 := O0.ext E49
    replace KC := KC.ext E49
    replace hC := hC.trans C49
    replace hZ := hZ49
    replace hown := hown49
    replace hS := hS49
    replace hk := hk49
    have nx49_b43_tz := nx49 _ Sf_b43_tz
    obtain ⟨_, _, ⟨T50, L50, kz50, nz50⟩, -, X50, ⟨Lc50, hQ50, l50, y50, z50⟩, st50⟩ := Jvm.LawKit.callS X49 hx (y := y_36) hown (mvT hZ (ww hw 175 rfl)) (mvT hZ (ww hw 176 rfl)) (mvT hZ (ww hw 177 rfl)) (mvT hZ (ww hw 178 rfl)) (by decide) (backOf (W := 0) (rm_mat l Z a0 hw [] sB_44 b25 (1 : Int32) sa49 tB_44 kB_44 (13 : Int32) [(.int (own_b y0_35)), (.int (47 : Int32)), (.int (115 : Int32)), (.int (112 : Int32)), (.int (47 : Int32)), (.int (109 : Int32)), (.int (101 : Int32)), (.int (116 : Int32)), (.int (97 : Int32)), (.int (100 : Int32)), (.int (97 : Int32)), (.int (116 : Int32)), (.int (97 : Int32)), nO, nO, nO] k25 (3 : Int32) [(.int y0_35), (.int x1), (.int x2)] sb49 kc49 (12 : Int32) [(.int (47 : Int32)), (.int (115 : Int32)), (.int (112 : Int32)), (.int (47 : Int32)), (.int (109 : Int32)), (.int (101 : Int32)), (.int (116 : Int32)), (.int (97 : Int32)), (.int (100 : Int32)), (.int (97 : Int32)), (.int (116 : Int32)), (.int (97 : Int32))] zc fm h49 n0 (Nat.le_trans Z0 KC.1) O0 E_sB_44 F_value_sB_44 F_coder_sB_44 V_tB_44 Vm37 Ex49 Fv49 Fc49 Vv49 S_CS hz S_FM hW_fm (by decide) (fun kk q0 q1 q2 => by rcases own_f1 q0 q2 with rfl <;> first | exact ⟨by decide, _, _, rfl, rfl, hq35_3⟩) (fun kk q0 q1 q2 => by rcases own_f13 q0 q1 with rfl | rfl | rfl | rfl | rfl | rfl | rfl | rfl | rfl | rfl | rfl | rfl | rfl <;> first | exact absurd (by decide) q2 | exact ⟨by decide, by decide, _, rfl, rfl⟩)) hZ (ww hw 178 rfl) (ww hw 177 rfl) (by decide) (by decide)) (g := (mkF m 208 #[vi p1, vi p2, vi p3, vi p4, vi p5, vi (1 : Int32), vr b25, vr b38, vr b44_e0] [(.ref sa49), (.int (1 : Int32)), (.ref b25), (.ref sB_44)])) rfl (by rw [hml]; rfl) (argsL := [(.ref sB_44), (.ref b25), (.int (1 : Int32)), (.ref sa49)]) (rest := []) (lenOf pd_31 rfl) rfl (by show 2 * 0 + _ ≤ _; exact Nat.le_of_eq rfl) (hb hby at_208) (fun _ _ => ⟨rfl, e49, (by decide : 29 + 0 ≤ _), (by decide : 308 + 0 ≤ _)⟩)
    dsimp only [Pt.U, Pt.locs, Pt.cells, Pt.slots] at X50 l50 y50 z50 st50 hQ50
    subst l50 y50 z50
    obtain ⟨rfl, N50q, e50⟩ := hQ50
    have N50 := Fr.app N48 N50q
    obtain ⟨cq51, kq51, q51a, q51b, q51c⟩ := isOf hZ e50 E_e0_44
    obtain ⟨_, _, ⟨T51, L51, kz51, nz51⟩, -, X51, ⟨Lc51, hQ51, l51, y51, z51⟩, st51⟩ := X50.virtualBack hx (y := y_40) (z := y_40) hown (mvT hZ (ww hw 211 rfl)) (mvT hZ (ww hw 212 rfl)) (notFace_of_selects (args := #[]) (mvT hZ (ww hw 214 rfl))) (mvT hZ (ww hw 214 rfl)) (mvT hZ (ww hw 213 rfl)) (by decide) (backOf (W := 0) (rm_get_assertionConsumer l Z a0 hw [] b44_e0 sC_44 h49 n0 (Nat.le_trans Z0 KC.1) O0 F_assertionConsumer_e0_44) hZ (ww hw 215 rfl) (ww hw 24 rfl) (by decide) (by decide)) q51a q51c (g := (mkF m 216 #[vi p1, vi p2, vi p3, vi p4, vi p5, vi (1 : Int32), vr b25, vr b38, vr b44_e0] [(.ref b44_e0)])) rfl (by rw [hml]; rfl) (Steps.refl _) (argsL := []) (rest := []) (lenOf pd_27 rfl) rfl (by show 2 * 0 + _ ≤ _; exact Nat.le_of_eq rfl) (hb hby at_216) (fun _ _ => ⟨rfl, e50, (by decide : 29 + 0 ≤ _), (by decide : 308 + 0 ≤ _)⟩)
    dsimp only [Pt.U, Pt.locs, Pt.cells, Pt.slots] at X51 l51 y51 z51 st51 hQ51
    subst l51 y51 z51
    obtain ⟨rfl, N51q, e51⟩ := hQ51
    have N51 := Fr.app N50 N51q
    obtain ⟨sa52, T52, h52, kx52, sb52, kc52, X52, e52, E52, hS52, hk52, hZ52, hown52, Ex52, Fc52, Fv52, Vv52, -, -, C52, -, nx52, st52⟩ := ldcCH X51 hx hZ hown (ww hw 216 rfl) wS e51 hS hk hEL (by decide) hC.1 (vs := [(.int (47 : Int32)), (.int (115 : Int32)), (.int (112 : Int32)), (.int (47 : Int32)), (.int (97 : Int32)), (.int (99 : Int32)), (.int (115 : Int32))]) (z := (7 : Int32)) ⟨by decide, by first | rfl | decide⟩ (by decide) (by first | rfl | decide) (g := (mkF m 223 #[vi p1, vi p2, vi p3, vi p4, vi p5, vi (1 : Int32), vr b25, vr b38, vr b44_e0] [(.int (1 : Int32)), (.ref b25), (.ref sC_44)])) rfl (hb hby at_223) (n := 28) (by decide) (by decide) (by decide) (by decide)
    replace Sf_b43_tz := C52.safe V_tz_43.lt Sf_b43_tz
    replace Vm37 := Vm37.ext E52
    replace A38 := A38.ext E52
    replace F_value_a1_43 := F_value_a1_43.ext E52
    replace F_coder_a1_43 := F_coder_a1_43.ext E52
    replace V_tz_43 := V_tz_43.ext E52
    replace E_e0_44 := E_e0_44.ext E52
    replace F_entityId_e0_44 := F_entityId_e0_44.ext E52
    replace F_metadata_e0_44 := F_metadata_e0_44.ext E52
    replace F_assertionConsumer_e0_44 := F_assertionConsumer_e0_44.ext E52
    replace E_sA_44 := E_sA_44.ext E52
    replace F_value_sA_44 := F_value_sA_44.ext E52
    replace F_coder_sA_44 := F_coder_sA_44.ext E52
    replace V_tA_44 := V_tA_44.ext E52
    replace E_sB_44 := E_sB_44.ext E52
    replace F_value_sB_44 := F_value_sB_44.ext E52
    replace F_coder_sB_44 := F_coder_sB_44.ext E52
    replace V_tB_44 := V_tB_44.ext E52
    replace E_sC_44 := E_sC_44.ext E52
    replace F_value_sC_44 := F_value_sC_44.ext E52
    replace F_coder_sC_44 := F_coder_sC_44.ext E52
    replace V_tC_44 := V_tC_44.ext E52
    replace Ex46 := Ex46.ext E52
    replace Fc46 := Fc46.ext E52
    replace Fv46 := Fv46.ext E52
    replace Vv46 := Vv46.ext E52
    replace Ex49 := Ex49.ext E52
    replace Fc49 := Fc49.ext E52
    replace Fv49 := Fv49.ext E52
    replace Vv49 := Vv49.ext E52
    replace O0 := O0.ext E52
    replace KC := KC.ext E52
    replace hC := hC.trans C52
    replace hZ := hZ52
    replace hown := hown52
    replace hS := hS52
    replace hk := hk52
    have nx52_b43_tz := nx52 _ Sf_b43_tz
    obtain ⟨_, _, ⟨T53, L53, kz53, nz53⟩, -, X53, ⟨Lc53, hQ53, l53, y53, z53⟩, st53⟩ := Jvm.LawKit.callS X52 hx (y := y_36) hown (mvT hZ (ww hw 175 rfl)) (mvT hZ (ww hw 176 rfl)) (mvT hZ (ww hw 177 rfl)) (mvT hZ (ww hw 178 rfl)) (by decide) (backOf (W := 0) (rm_mat l Z a0 hw [] sC_44 b25 (1 : Int32) sa52 tC_44 kC_44 (8 : Int32) [(.int (own_b y0_35)), (.int (47 : Int32)), (.int (115 : Int32)), (.int (112 : Int32)), (.int (47 : Int32)), (.int (97 : Int32)), (.int (99 : Int32)), (.int (115 : Int32)), nO, nO, nO, nO, nO, nO, nO, nO] k25 (3 : Int32) [(.int y0_35), (.int x1), (.int x2)] sb52 kc52 (7 : Int32) [(.int (47 : Int32)), (.int (115 : Int32)), (.int (112 : Int32)), (.int (47 : Int32)), (.int (97 : Int32)), (.int (99 : Int32)), (.int (115 : Int32))] zc fm h52 n0 (Nat.le_trans Z0 KC.1) O0 E_sC_44 F_value_sC_44 F_coder_sC_44 V_tC_44 Vm37 Ex52 Fv52 Fc52 Vv52 S_CS hz S_FM hW_fm (by decide) (fun kk q0 q1 q2 => by rcases own_f1 q0 q2 with rfl <;> first | exact ⟨by decide, _, _, rfl, rfl, hq35_3⟩) (fun kk q0 q1 q2 => by rcases own_f8 q0 q1 with rfl | rfl | rfl | rfl | rfl | rfl | rfl | rfl <;> first | exact absurd (by decide) q2 | exact ⟨by decide, by decide, _, rfl, rfl⟩)) hZ (ww hw 178 rfl) (ww hw 177 rfl) (by decide) (by decide)) (g := (mkF m 225 #[vi p1, vi p2, vi p3, vi p4, vi p5, vi (1 : Int32), vr b25, vr b38, vr b44_e0] [(.ref sa52), (.int (1 : Int32)), (.ref b25), (.ref sC_44)])) rfl (by rw [hml]; rfl) (argsL := [(.ref sC_44), (.ref b25), (.int (1 : Int32)), (.ref sa52)]) (rest := []) (lenOf pd_31 rfl) rfl (by show 2 * 0 + _ ≤ _; exact Nat.le_of_eq rfl) (hb hby at_225) (fun _ _ => ⟨rfl, e52, (by decide : 31 + 0 ≤ _), (by decide : 340 + 0 ≤ _)⟩)
    dsimp only [Pt.U, Pt.locs, Pt.cells, Pt.slots] at X53 l53 y53 z53 st53 hQ53
    subst l53 y53 z53
    obtain ⟨rfl, N53q, e53⟩ := hQ53
    have N53 := Fr.app N51 N53q
    obtain ⟨fs, hr, hrun, hended, hRE⟩ := X53.leaveW hS (by rw [e53]; exact hk) (v := some (.int (1 : Int32))) (fun h => by rw [Bd.returns] at h; cases h)
    refine ⟨_, _, pre32 _ ?_, hrun, hended, _, _, rfl, ?_, ?_, hRE.1, hRE.2.1, hRE.2.2.1, hRE.2.2.2.mono (by decide) (by decide)⟩
    · show SS p e below m T31 39 #[vi p1, vi p2, vi p3, vi p4, vi p5, vi (1 : Int32), vr b25, un, un] [(.int x2), (.int (2 : Int32)), (.ref b25)] _
      refine st34 _ ?_
      show SS p e below m T34 40 #[vi p1, vi p2, vi p3, vi p4, vi p5, vi (1 : Int32), vr b25, un, un] [] _
      refine XS.iload X34.here hx rfl (hb hby at_40) rfl ?_
      show SS p e below m T34 42 #[vi p1, vi p2, vi p3, vi p4, vi p5, vi (1 : Int32), vr b25, un, un] [(.int (1 : Int32))] _
      refine XS.ifNo X34.here hx rfl (hb hby at_42) rfl ((if0 _ _).trans (tlt (by decide)).2.2.2) ?_
      show SS p e below m T34 45 #[vi p1, vi p2, vi p3, vi p4, vi p5, vi (1 : Int32), vr b25, un, un] [] _
      refine XS.aload X34.here hx rfl (hb hby at_45) rfl rfl ?_
      show SS p e below m T34 47 #[vi p1, vi p2, vi p3, vi p4, vi p5, vi (1 : Int32), vr b25, un, un] [(.ref b25)] _
      refine XS.iload X34.here hx rfl (hb hby at_47) rfl ?_
      show SS p e below m T34 49 #[vi p1, vi p2, vi p3, vi p4, vi p5, vi (1 : Int32), vr b25, un, un] [(.int (1 : Int32)), (.ref b25)] _
      refine XS.iconst X34.here hx rfl (hb hby at_49) ?_
      show SS p e below m T34 50 #[vi p1, vi p2, vi p3, vi p4, vi p5, vi (1 : Int32), vr b25, un, un] [(.int (1 : Int32)), (.int (1 : Int32)), (.ref b25)] _
      refine XS.isub X34.here hx rfl (hb hby at_50) rfl ?_
      show SS p e below m T34 51 #[vi p1, vi p2, vi p3, vi p4, vi p5, vi (1 : Int32), vr b25, un, un] [(.int (0 : Int32)), (.ref b25)] _
      refine XS.iload X34.here hx rfl (hb hby at_51) rfl ?_
      show SS p e below m T34 53 #[vi p1, vi p2, vi p3, vi p4, vi p5, vi (1 : Int32), vr b25, un, un] [(.int p5), (.int (0 : Int32)), (.ref b25)] _
      refine st35 _ ?_
      show SS p e below m T35 56 #[vi p1, vi p2, vi p3, vi p4, vi p5, vi (1 : Int32), vr b25, un, un] [(.int y0_35), (.int (0 : Int32)), (.ref b25)] _
      refine st37 _ ?_
      show SS p e below m T37 57 #[vi p1, vi p2, vi p3, vi p4, vi p5, vi (1 : Int32), vr b25, un, un] [] _
      refine XS.iload X37.here hx rfl (hb hby at_57) rfl ?_
      show SS p e below m T37 59 #[vi p1, vi p2, vi p3, vi p4, vi p5, vi (1 : Int32), vr b25, un, un] [(.int (1 : Int32))] _
      refine XS.ifYes X37.here hx rfl (pc0 := 59) (pc' := 77) rfl (hb hby at_59) rfl ((if0 _ _).trans (feq (by decide)).2) (by decide) (by decide) ?_
      show SS p e below m T37 77 #[vi p1, vi p2, vi p3, vi p4, vi p5, vi (1 : Int32), vr b25, un, un] [] _
      refine XS.iload X37.here hx rfl (hb hby at_77) rfl ?_
      show SS p e below m T37 79 #[vi p1, vi p2, vi p3, vi p4, vi p5, vi (1 : Int32), vr b25, un, un] [(.int (1 : Int32))] _
      refine XS.iconst X37.here hx rfl (hb hby at_79) ?_
      show SS p e below m T37 80 #[vi p1, vi p2, vi p3, vi p4, vi p5, vi (1 : Int32), vr b25, un, un] [(.int (1 : Int32)), (.int (1 : Int32))] _
      refine XS.icmpNo X37.here hx rfl (hb hby at_80) rfl (teq (by decide)).2 ?_
      show SS p e below m T37 83 #[vi p1, vi p2, vi p3, vi p4, vi p5, vi (1 : Int32), vr b25, un, un] [] _
      refine st38 _ ?_
      show SS p e below m T38 86 #[vi p1, vi p2, vi p3, vi p4, vi p5, vi (1 : Int32), vr b25, un, un] [(.ref b38)] _
      refine XS.dup X38.here hx rfl (hb hby at_86) rfl rfl ?_
      show SS p e below m T38 87 #[vi p1, vi p2, vi p3, vi p4, vi p5, vi (1 : Int32), vr b25, un, un] [(.ref b38), (.ref b38)] _
      refine XS.iconst X38.here hx rfl (hb hby at_87) ?_
      show SS p e below m T38 88 #[vi p1, vi p2, vi p3, vi p4, vi p5, vi (1 : Int32), vr b25, un, un] [(.int (1 : Int32)), (.ref b38), (.ref b38)] _
      refine st39 _ ?_
      show SS p e below m T39 90 #[vi p1, vi p2, vi p3, vi p4, vi p5, vi (1 : Int32), vr b25, un, un] [(.ref b39), (.ref b38), (.ref b38)] _
      refine XS.dup X39.here hx rfl (hb hby at_90) rfl rfl ?_
      show SS p e below m T39 91 #[vi p1, vi p2, vi p3, vi p4, vi p5, vi (1 : Int32), vr b25, un, un] [(.ref b39), (.ref b39), (.ref b38), (.ref b38)] _
      refine XS.iconst X39.here hx rfl (hb hby at_91) ?_
      show SS p e below m T39 92 #[vi p1, vi p2, vi p3, vi p4, vi p5, vi (1 : Int32), vr b25, un, un] [(.int (0 : Int32)), (.ref b39), (.ref b39), (.ref b38), (.ref b38)] _
      refine XS.aload X39.here hx rfl (hb hby at_92) rfl rfl ?_
      show SS p e below m T39 94 #[vi p1, vi p2, vi p3, vi p4, vi p5, vi (1 : Int32), vr b25, un, un] [(.ref b25), (.int (0 : Int32)), (.ref b39), (.ref b39), (.ref b38), (.ref b38)] _
      refine XS.iconst X39.here hx rfl (hb hby at_94) ?_
      show SS p e below m T39 95 #[vi p1, vi p2, vi p3, vi p4, vi p5, vi (1 : Int32), vr b25, un, un] [(.int (0 : Int32)), (.ref b25), (.int (0 : Int32)), (.ref b39), (.ref b39), (.ref b38), (.ref b38)] _
      refine X39.caload hx (j := (0 : Int32)) (v := (.int y0_35)) (by rw [e39]; exact Ar40.1) ia40 Ar40.2.2 hin40 hat40 (g := (mkF m 95 #[vi p1, vi p2, vi p3, vi p4, vi p5, vi (1 : Int32), vr b25, un, un] [(.int (0 : Int32)), (.ref b25), (.int (0 : Int32)), (.ref b39), (.ref b39), (.ref b38), (.ref b38)])) rfl rfl (hb hby at_95) _ ?_
      show SS p e below m T39 96 #[vi p1, vi p2, vi p3, vi p4, vi p5, vi (1 : Int32), vr b25, un, un] [(.int y0_35), (.int (0 : Int32)), (.ref b39), (.ref b39), (.ref b38), (.ref b38)] _
      refine st42 _ ?_
      show SS p e below m T42 97 #[vi p1, vi p2, vi p3, vi p4, vi p5, vi (1 : Int32), vr b25, un, un] [(.ref b39), (.ref b38), (.ref b38)] _
      refine st43.trans ?_
      show SS p e below m T43 100 #[vi p1, vi p2, vi p3, vi p4, vi p5, vi (1 : Int32), vr b25, un, un] [(.ref b38)] _
      refine XS.astore X43.here hx rfl (hb hby at_100) rfl rfl (l' := #[vi p1, vi p2, vi p3, vi p4, vi p5, vi (1 : Int32), vr b25, vr b38, un]) rfl ?_
      show SS p e below m T43 102 #[vi p1, vi p2, vi p3, vi p4, vi p5, vi (1 : Int32), vr b25, vr b38, un] [] _
      refine XS.goto X43.here hx rfl (pc0 := 102) (pc' := 173) rfl (hb hby at_102) (by decide) (by decide) ?_
      show SS p e below m T43 173 #[vi p1, vi p2, vi p3, vi p4, vi p5, vi (1 : Int32), vr b25, vr b38, un] [] _
      refine XS.aload X43.here hx rfl (hb hby at_173) rfl rfl ?_
      show SS p e below m T43 175 #[vi p1, vi p2, vi p3, vi p4, vi p5, vi (1 : Int32), vr b25, vr b38, un] [(.ref b38)] _
      refine st44.trans ?_
      show SS p e below m T44 178 #[vi p1, vi p2, vi p3, vi p4, vi p5, vi (1 : Int32), vr b25, vr b38, un] [(.ref b44_e0)] _
      refine XS.astore X44.here hx rfl (hb hby at_178) rfl rfl (l' := #[vi p1, vi p2, vi p3, vi p4, vi p5, vi (1 : Int32), vr b25, vr b38, vr b44_e0]) rfl ?_
      show SS p e below m T44 180 #[vi p1, vi p2, vi p3, vi p4, vi p5, vi (1 : Int32), vr b25, vr b38, vr b44_e0] [] _
      refine XS.aload X44.here hx rfl (hb hby at_180) rfl rfl ?_
      show SS p e below m T44 182 #[vi p1, vi p2, vi p3, vi p4, vi p5, vi (1 : Int32), vr b25, vr b38, vr b44_e0] [(.ref b44_e0)] _
      refine st45.trans ?_
      show SS p e below m T45 185 #[vi p1, vi p2, vi p3, vi p4, vi p5, vi (1 : Int32), vr b25, vr b38, vr b44_e0] [(.ref sA_44)] _
      refine XS.aload X45.here hx rfl (hb hby at_185) rfl rfl ?_
      show SS p e below m T45 187 #[vi p1, vi p2, vi p3, vi p4, vi p5, vi (1 : Int32), vr b25, vr b38, vr b44_e0] [(.ref b25), (.ref sA_44)] _
      refine XS.iload X45.here hx rfl (hb hby at_187) rfl ?_
      show SS p e below m T45 189 #[vi p1, vi p2, vi p3, vi p4, vi p5, vi (1 : Int32), vr b25, vr b38, vr b44_e0] [(.int (1 : Int32)), (.ref b25), (.ref sA_44)] _
      refine st46 _ ?_
      show SS p e below m T46 191 #[vi p1, vi p2, vi p3, vi p4, vi p5, vi (1 : Int32), vr b25, vr b38, vr b44_e0] [(.ref sa46), (.int (1 : Int32)), (.ref b25), (.ref sA_44)] _
      refine st47 _ ?_
      show SS p e below m T47 194 #[vi p1, vi p2, vi p3, vi p4, vi p5, vi (1 : Int32), vr b25, vr b38, vr b44_e0] [(.int (1 : Int32))] _
      refine XS.ifNo X47.here hx rfl (hb hby at_194) rfl ((if0 _ _).trans (feq (by decide)).1) ?_
      show SS p e below m T47 197 #[vi p1, vi p2, vi p3, vi p4, vi p5, vi (1 : Int32), vr b25, vr b38, vr b44_e0] [] _
      refine XS.aload X47.here hx rfl (hb hby at_197) rfl rfl ?_
      show SS p e below m T47 199 #[vi p1, vi p2, vi p3, vi p4, vi p5, vi (1 : Int32), vr b25, vr b38, vr b44_e0] [(.ref b44_e0)] _
      refine st48.trans ?_
      show SS p e below m T48 202 #[vi p1, vi p2, vi p3, vi p4, vi p5, vi (1 : Int32), vr b25, vr b38, vr b44_e0] [(.ref sB_44)] _
      refine XS.aload X48.here hx rfl (hb hby at_202) rfl rfl ?_
      show SS p e below m T48 204 #[vi p1, vi p2, vi p3, vi p4, vi p5, vi (1 : Int32), vr b25, vr b38, vr b44_e0] [(.ref b25), (.ref sB_44)] _
      refine XS.iload X48.here hx rfl (hb hby at_204) rfl ?_
      show SS p e below m T48 206 #[vi p1, vi p2, vi p3, vi p4, vi p5, vi (1 : Int32), vr b25, vr b38, vr b44_e0] [(.int (1 : Int32)), (.ref b25), (.ref sB_44)] _
      refine st49 _ ?_
      show SS p e below m T49 208 #[vi p1, vi p2, vi p3, vi p4, vi p5, vi (1 : Int32), vr b25, vr b38, vr b44_e0] [(.ref sa49), (.int (1 : Int32)), (.ref b25), (.ref sB_44)] _
      refine st50 _ ?_
      show SS p e below m T50 211 #[vi p1, vi p2, vi p3, vi p4, vi p5, vi (1 : Int32), vr b25, vr b38, vr b44_e0] [(.int (1 : Int32))] _
      refine XS.ifNo X50.here hx rfl (hb hby at_211) rfl ((if0 _ _).trans (feq (by decide)).1) ?_
      show SS p e below m T50 214 #[vi p1, vi p2, vi p3, vi p4, vi p5, vi (1 : Int32), vr b25, vr b38, vr b44_e0] [] _
      refine XS.aload X50.here hx rfl (hb hby at_214) rfl rfl ?_
      show SS p e below m T50 216 #[vi p1, vi p2, vi p3, vi p4, vi p5, vi (1 : Int32), vr b25, vr b38, vr b44_e0] [(.ref b44_e0)] _
      refine st51.trans ?_
      show SS p e below m T51 219 #[vi p1, vi p2, vi p3, vi p4, vi p5, vi (1 : Int32), vr b25, vr b38, vr b44_e0] [(.ref sC_44)] _
      refine XS.aload X51.here hx rfl (hb hby at_219) rfl rfl ?_
      show SS p e below m T51 221 #[vi p1, vi p2, vi p3, vi p4, vi p5, vi (1 : Int32), vr b25, vr b38, vr b44_e0] [(.ref b25), (.ref sC_44)] _
      refine XS.iload X51.here hx rfl (hb hby at_221) rfl ?_
      show SS p e below m T51 223 #[vi p1, vi p2, vi p3, vi p4, vi p5, vi (1 : Int32), vr b25, vr b38, vr b44_e0] [(.int (1 : Int32)), (.ref b25), (.ref sC_44)] _
      refine st52 _ ?_
      show SS p e below m T52 225 #[vi p1, vi p2, vi p3, vi p4, vi p5, vi (1 : Int32), vr b25, vr b38, vr b44_e0] [(.ref sa52), (.int (1 : Int32)), (.ref b25), (.ref sC_44)] _
      refine st53 _ ?_
      show SS p e below m T53 228 #[vi p1, vi p2, vi p3, vi p4, vi p5, vi (1 : Int32), vr b25, vr b38, vr b44_e0] [(.int (1 : Int32))] _
      refine XS.ifNo X53.here hx rfl (hb hby at_228) rfl ((if0 _ _).trans (feq (by decide)).1) ?_
      show SS p e below m T53 231 #[vi p1, vi p2, vi p3, vi p4, vi p5, vi (1 : Int32), vr b25, vr b38, vr b44_e0] [] _
      refine XS.iconst X53.here hx rfl (hb hby at_231) ?_
      show SS p e below m T53 232 #[vi p1, vi p2, vi p3, vi p4, vi p5, vi (1 : Int32), vr b25, vr b38, vr b44_e0] [(.int (1 : Int32))] _
      refine XS.goto X53.here hx rfl (pc0 := 232) (pc' := 236) rfl (hb hby at_232) (by decide) (by decide) ?_
      show SS p e below m T53 236 #[vi p1, vi p2, vi p3, vi p4, vi p5, vi (1 : Int32), vr b25, vr b38, vr b44_e0] [(.int (1 : Int32))] _
      exact retN X53 hx (t := .boolean) Bd.returns (by simp) (hb hby at_236) hr
    · show Q_rm0 Z p1 p2 p3 p4 p5 zc fm h0 n0 _ T53.heap _
      rw [e53]
      exact ⟨rfl, N53, KC⟩
    · show CHr Z EL s.vm s.heap T53.vm T53.heap
      rw [hh, e53]
      exact hC.trans (CHv.at X53 hZ hEL hC.1)
  · rw [hc] at pre1
    obtain ⟨T54, h54, k54, X54, e54, E54, A54, st54⟩ := newP X0 hx hZ (ww hw 0 rfl) e0 (g := (mkF m 6 #[vi p1, vi p2, vi p3, vi p4, vi p5, vi (2 : Int32), un, un, un] [(.int (3 : Int32))])) rfl (hb hby at_6) rfl (by decide) (cap := 3) (by decide) (by decide) (by decide) (by decide)
    obtain ⟨b54, g54⟩ : ∃ z, z = h0.size := ⟨_, rfl⟩
    rw [← g54] at A54 st54
    have g_b54 : n0 ≤ b54 := Nat.le_trans (Nat.le_trans Z0 KC.1) (Nat.le_of_eq g54.symm)
    have sz_b54 : h0.size ≤ b54 := Nat.le_trans KC.1 (Nat.le_of_eq g54.symm)
    replace hk := Nat.le_trans hk E54.1
    replace hC := hC.trans (CHr.ext E54 hC.1)
    replace O0 := O0.ext E54
    replace KC := KC.ext E54
    have V_b54 : Arv Z h54 b54 k54 .char (3 : Int32) [(.int (0 : Int32)), (.int (0 : Int32)), (.int (0 : Int32))] (.int (0 : Int32)) := (Arv.new A54 (by decide)).pad (pad_rep [] (.int (0 : Int32)) 3)
    obtain ⟨x0, ex0, hx0, nx0, hv0⟩ := own_x p2
    have pre55 : ∀ t, Steps p.tables e below (T54.setTop (mkF m 19 #[vi p1, vi p2, vi p3, vi p4, vi p5, vi (2 : Int32), vr b54, un, un] [(.int ((p2 &&& (255 : Int32)).toUInt32.toUInt16.toUInt32.toInt32)), (.int (0 : Int32)), (.ref b54)])) t → Steps p.tables e below (s₁.setTop (entryFrame m #[(.int p1), (.int p2), (.int p3), (.int p4), (.int p5)] maxLocals)) t := by
      intro t kt
      refine pre1 t ?_
      show SS p e below m s₁ 3 #[vi p1, vi p2, vi p3, vi p4, vi p5, un, un, un, un] [(.int (2 : Int32))] _
      refine XS.istore X0.here hx rfl (hb hby at_3) rfl (l' := #[vi p1, vi p2, vi p3, vi p4, vi p5, vi (2 : Int32), un, un, un]) rfl ?_
      show SS p e below m s₁ 5 #[vi p1, vi p2, vi p3, vi p4, vi p5, vi (2 : Int32), un, un, un] [] _
      refine XS.iconst X0.here hx rfl (hb hby at_5) ?_
      show SS p e below m s₁ 6 #[vi p1, vi p2, vi p3, vi p4, vi p5, vi (2 : Int32), un, un, un] [(.int (3 : Int32))] _
      refine st54 _ ?_
      show SS p e below m T54 8 #[vi p1, vi p2, vi p3, vi p4, vi p5, vi (2 : Int32), un, un, un] [(.ref b54)] _
      refine XS.astore X54.here hx rfl (hb hby at_8) rfl rfl (l' := #[vi p1, vi p2, vi p3, vi p4, vi p5, vi (2 : Int32), vr b54, un, un]) rfl ?_
      show SS p e below m T54 10 #[vi p1, vi p2, vi p3, vi p4, vi p5, vi (2 : Int32), vr b54, un, un] [] _
      refine XS.aload X54.here hx rfl (hb hby at_10) rfl rfl ?_
      show SS p e below m T54 12 #[vi p1, vi p2, vi p3, vi p4, vi p5, vi (2 : Int32), vr b54, un, un] [(.ref b54)] _
      refine XS.iconst X54.here hx rfl (hb hby at_12) ?_
      show SS p e below m T54 13 #[vi p1, vi p2, vi p3, vi p4, vi p5, vi (2 : Int32), vr b54, un, un] [(.int (0 : Int32)), (.ref b54)] _
      refine XS.iloadN X54.here hx rfl (hb hby at_13) rfl ?_
      show SS p e below m T54 14 #[vi p1, vi p2, vi p3, vi p4, vi p5, vi (2 : Int32), vr b54, un, un] [(.int p2), (.int (0 : Int32)), (.ref b54)] _
      refine XS.sipush X54.here hx rfl (hb hby at_14) ?_
      show SS p e below m T54 17 #[vi p1, vi p2, vi p3, vi p4, vi p5, vi (2 : Int32), vr b54, un, un] [(.int (255 : Int32)), (.int p2), (.int (0 : Int32)), (.ref b54)] _
      refine XS.iand X54.here hx rfl (hb hby at_17) rfl ?_
      show SS p e below m T54 18 #[vi p1, vi p2, vi p3, vi p4, vi p5, vi (2 : Int32), vr b54, un, un] [(.int (p2 &&& (255 : Int32))), (.int (0 : Int32)), (.ref b54)] _
      refine XS.i2c X54.here hx rfl (hb hby at_18) rfl ?_
      exact kt
    rw [ex0] at pre55
    have Vo56 := V_b54
    obtain ⟨cl56, Ar56, q56, Sz56, Nn56, Hh56, Gg56⟩ := Vo56
    have hin56 : ¬ ((0 : Int32) < 0 ∨ cl56.slots.size ≤ ((0 : Int32)).toNatClampNeg) := inb_of Sz56 ⟨by decide, by decide⟩
    obtain ⟨T57, h57, X57, e57, W57, st57⟩ := stC X54 hx hZ e54 Ar56 (j := (0 : Int32)) hin56 (g := (mkF m 19 #[vi p1, vi p2, vi p3, vi p4, vi p5, vi (2 : Int32), vr b54, un, un] [(.int x0), (.int (0 : Int32)), (.ref b54)])) rfl rfl (hb hby at_19)
    have Vn57 := Arv.set Ar56 q56 Sz56 Nn56 Hh56 Gg56 (fits_nar_char _) W57 (0) rfl (Nat.le_of_ble_eq_true rfl)
    have N57 := Fr.snoc X57 N0 g_b54
    have Vm57 : Arv Z h57 b54 k54 .char (3 : Int32) [(.int x0), (.int (0 : Int32)), (.int (0 : Int32))] (.int (0 : Int32)) := by have hh := Vn57; rw [nx0] at hh; exact hh
    have SfA57 := (Safe.arv (EL := EL) hZ.alike V_b54 (by decide))
    replace hk := Nat.le_trans hk (Keep.of_wr W57).1
    replace hC := hC.trans (CHr.wr W57 SfA57 hC.1)
    replace O0 := O0.wr W57 g_b54
    replace KC := KC.wr W57 (Or.inr sz_b54)
    obtain ⟨x1, ex1, hx1, nx1, hv1⟩ := own_x p3
    have pre58 : ∀ t, Steps p.tables e below (T57.setTop (mkF m 29 #[vi p1, vi p2, vi p3, vi p4, vi p5, vi (2 : Int32), vr b54, un, un] [(.int ((p3 &&& (255 : Int32)).toUInt32.toUInt16.toUInt32.toInt32)), (.int (1 : Int32)), (.ref b54)])) t → Steps p.tables e below (s₁.setTop (entryFrame m #[(.int p1), (.int p2), (.int p3), (.int p4), (.int p5)] maxLocals)) t := by
      intro t kt
      refine pre55 t ?_
      show SS p e below m T54 19 #[vi p1, vi p2, vi p3, vi p4, vi p5, vi (2 : Int32), vr b54, un, un] [(.int x0), (.int (0 : Int32)), (.ref b54)] _
      refine st57 _ ?_
      show SS p e below m T57 20 #[vi p1, vi p2, vi p3, vi p4, vi p5, vi (2 : Int32), vr b54, un, un] [] _
      refine XS.aload X57.here hx rfl (hb hby at_20) rfl rfl ?_
      show SS p e below m T57 22 #[vi p1, vi p2, vi p3, vi p4, vi p5, vi (2 : Int32), vr b54, un, un] [(.ref b54)] _
      refine XS.iconst X57.here hx rfl (hb hby at_22) ?_
      show SS p e below m T57 23 #[vi p1, vi p2, vi p3, vi p4, vi p5, vi (2 : Int32), vr b54, un, un] [(.int (1 : Int32)), (.ref b54)] _
      refine XS.iloadN X57.here hx rfl (hb hby at_23) rfl ?_
      show SS p e below m T57 24 #[vi p1, vi p2, vi p3, vi p4, vi p5, vi (2 : Int32), vr b54, un, un] [(.int p3), (.int (1 : Int32)), (.ref b54)] _
      refine XS.sipush X57.here hx rfl (hb hby at_24) ?_
      show SS p e below m T57 27 #[vi p1, vi p2, vi p3, vi p4, vi p5, vi (2 : Int32), vr b54, un, un] [(.int (255 : Int32)), (.int p3), (.int (1 : Int32)), (.ref b54)] _
      refine XS.iand X57.here hx rfl (hb hby at_27) rfl ?_
      show SS p e below m T57 28 #[vi p1, vi p2, vi p3, vi p4, vi p5, vi (2 : Int32), vr b54, un, un] [(.int (p3 &&& (255 : Int32))), (.int (1 : Int32)), (.ref b54)] _
      refine XS.i2c X57.here hx rfl (hb hby at_28) rfl ?_
      exact kt
    rw [ex1] at pre58
    have Vo59 := Vm57
    obtain ⟨cl59, Ar59, q59, Sz59, Nn59, Hh59, Gg59⟩ := Vo59
    have hin59 : ¬ ((1 : Int32) < 0 ∨ cl59.slots.size ≤ ((1 : Int32)).toNatClampNeg) := inb_of Sz59 ⟨by decide, by decide⟩
    obtain ⟨T60, h60, X60, e60, W60, st60⟩ := stC X57 hx hZ e57 Ar59 (j := (1 : Int32)) hin59 (g := (mkF m 29 #[vi p1, vi p2, vi p3, vi p4, vi p5, vi (2 : Int32), vr b54, un, un] [(.int x1), (.int (1 : Int32)), (.ref b54)])) rfl rfl (hb hby at_29)
    have Vn60 := Arv.set Ar59 q59 Sz59 Nn59 Hh59 Gg59 (fits_nar_char _) W60 (1) rfl (Nat.le_of_ble_eq_true rfl)
    have N60 := Fr.snoc X60 N57 g_b54
    have Vm60 : Arv Z h60 b54 k54 .char (3 : Int32) [(.int x0), (.int x1), (.int (0 : Int32))] (.int (0 : Int32)) := by have hh := Vn60; rw [nx1] at hh; exact hh
    have SfA60 := (Safe.arv (EL := EL) hZ.alike Vm57 (by decide))
    replace hk := Nat.le_trans hk (Keep.of_wr W60).1
    replace hC := hC.trans (CHr.wr W60 SfA60 hC.1)
    replace O0 := O0.wr W60 g_b54
    replace KC := KC.wr W60 (Or.inr sz_b54)
    obtain ⟨x2, ex2, hx2, nx2, hv2⟩ := own_x p4
    have pre61 : ∀ t, Steps p.tables e below (T60.setTop (mkF m 39 #[vi p1, vi p2, vi p3, vi p4, vi p5, vi (2 : Int32), vr b54, un, un] [(.int ((p4 &&& (255 : Int32)).toUInt32.toUInt16.toUInt32.toInt32)), (.int (2 : Int32)), (.ref b54)])) t → Steps p.tables e below (s₁.setTop (entryFrame m #[(.int p1), (.int p2), (.int p3), (.int p4), (.int p5)] maxLocals)) t := by
      intro t kt
      refine pre58 t ?_
      show SS p e below m T57 29 #[vi p1, vi p2, vi p3, vi p4, vi p5, vi (2 : Int32), vr b54, un, un] [(.int x1), (.int (1 : Int32)), (.ref b54)] _
      refine st60 _ ?_
      show SS p e below m T60 30 #[vi p1, vi p2, vi p3, vi p4, vi p5, vi (2 : Int32), vr b54, un, un] [] _
      refine XS.aload X60.here hx rfl (hb hby at_30) rfl rfl ?_
      show SS p e below m T60 32 #[vi p1, vi p2, vi p3, vi p4, vi p5, vi (2 : Int32), vr b54, un, un] [(.ref b54)] _
      refine XS.iconst X60.here hx rfl (hb hby at_32) ?_
      show SS p e below m T60 33 #[vi p1, vi p2, vi p3, vi p4, vi p5, vi (2 : Int32), vr b54, un, un] [(.int (2 : Int32)), (.ref b54)] _
      refine XS.iloadN X60.here hx rfl (hb hby at_33) rfl ?_
      show SS p e below m T60 34 #[vi p1, vi p2, vi p3, vi p4, vi p5, vi (2 : Int32), vr b54, un, un] [(.int p4), (.int (2 : Int32)), (.ref b54)] _
      refine XS.sipush X60.here hx rfl (hb hby at_34) ?_
      show SS p e below m T60 37 #[vi p1, vi p2, vi p3, vi p4, vi p5, vi (2 : Int32), vr b54, un, un] [(.int (255 : Int32)), (.int p4), (.int (2 : Int32)), (.ref b54)] _
      refine XS.iand X60.here hx rfl (hb hby at_37) rfl ?_
      show SS p e below m T60 38 #[vi p1, vi p2, vi p3, vi p4, vi p5, vi (2 : Int32), vr b54, un, un] [(.int (p4 &&& (255 : Int32))), (.int (2 : Int32)), (.ref b54)] _
      refine XS.i2c X60.here hx rfl (hb hby at_38) rfl ?_
      exact kt
    rw [ex2] at pre61
    have Vo62 := Vm60
    obtain ⟨cl62, Ar62, q62, Sz62, Nn62, Hh62, Gg62⟩ := Vo62
    have hin62 : ¬ ((2 : Int32) < 0 ∨ cl62.slots.size ≤ ((2 : Int32)).toNatClampNeg) := inb_of Sz62 ⟨by decide, by decide⟩
    obtain ⟨T63, h63, X63, e63, W63, st63⟩ := stC X60 hx hZ e60 Ar62 (j := (2 : Int32)) hin62 (g := (mkF m 39 #[vi p1, vi p2, vi p3, vi p4, vi p5, vi (2 : Int32), vr b54, un, un] [(.int x2), (.int (2 : Int32)), (.ref b54)])) rfl rfl (hb hby at_39)
    have Vn63 := Arv.set Ar62 q62 Sz62 Nn62 Hh62 Gg62 (fits_nar_char _) W63 (2) rfl (Nat.le_of_ble_eq_true rfl)
    have N63 := Fr.snoc X63 N60 g_b54
    have Vm63 : Arv Z h63 b54 k54 .char (3 : Int32) [(.int x0), (.int x1), (.int x2)] (.int (0 : Int32)) := by have hh := Vn63; rw [nx2] at hh; exact hh
    have SfA63 := (Safe.arv (EL := EL) hZ.alike Vm60 (by decide))
    replace hk := Nat.le_trans hk (Keep.of_wr W63).1
    replace hC := hC.trans (CHr.wr W63 SfA63 hC.1)
    replace O0 := O0.wr W63 g_b54
    replace KC := KC.wr W63 (Or.inr sz_b54)
    obtain ⟨_, _, ⟨T64, L64, kz64, nz64⟩, -, X64, ⟨Lc64, hQ64, l64, y64, z64⟩, st64⟩ := Jvm.LawKit.callS X63 hx (y := y_42) hown (mvT hZ (ww hw 217 rfl)) (mvT hZ (ww hw 218 rfl)) (mvT hZ (ww hw 177 rfl)) (mvT hZ (ww hw 219 rfl)) (by decide) (backOf (W := 2) (rm_ns l Z a0 hw [] p5 h63 n0 (Nat.le_trans Z0 KC.1) O0 ) hZ (ww hw 219 rfl) (ww hw 177 rfl) (by decide) (by decide)) (g := (mkF m 53 #[vi p1, vi p2, vi p3, vi p4, vi p5, vi (2 : Int32), vr b54, un, un] [(.int p5), (.int (1 : Int32)), (.ref b54)])) rfl (by rw [hml]; rfl) (argsL := [(.int p5)]) (rest := [(.int (1 : Int32)), (.ref b54)]) (lenOf pd_22 rfl) rfl (by show 2 * 0 + _ ≤ _; exact Nat.le_of_eq rfl) (hb hby at_53) (fun _ _ => ⟨rfl, e63, (by decide : 1 + 0 ≤ _), (by decide : 3 + 0 ≤ _)⟩)
    dsimp only [Pt.U, Pt.locs, Pt.cells, Pt.slots] at X64 l64 y64 z64 st64 hQ64
    subst l64 y64 z64
    obtain ⟨y0_64, rfl, N64q, e64, hq64_0, hq64_1, hq64_2, hq64_3⟩ := hQ64
    have N64 := Fr.app N63 N64q
    have Vo65 := Vm63
    obtain ⟨cl65, Ar65, q65, Sz65, Nn65, Hh65, Gg65⟩ := Vo65
    have hin65 : ¬ ((1 : Int32) < 0 ∨ cl65.slots.size ≤ ((1 : Int32)).toNatClampNeg) := inb_of Sz65 ⟨by decide, by decide⟩
    obtain ⟨T66, h66, X66, e66, W66, st66⟩ := stC X64 hx hZ e64 Ar65 (j := (1 : Int32)) hin65 (g := (mkF m 56 #[vi p1, vi p2, vi p3, vi p4, vi p5, vi (2 : Int32), vr b54, un, un] [(.int y0_64), (.int (1 : Int32)), (.ref b54)])) rfl rfl (hb hby at_56)
    have Vn66 := Arv.set Ar65 q65 Sz65 Nn65 Hh65 Gg65 (fits_nar_char _) W66 (1) rfl (Nat.le_of_ble_eq_true rfl)
    have N66 := Fr.snoc X66 N64 g_b54
    have Vm66 : Arv Z h66 b54 k54 .char (3 : Int32) [(.int x0), (.int y0_64), (.int x2)] (.int (0 : Int32)) := by have hh := Vn66; rw [hq64_1] at hh; exact hh
    have SfA66 := (Safe.arv (EL := EL) hZ.alike Vm63 (by decide))
    replace hk := Nat.le_trans hk (Keep.of_wr W66).1
    replace hC := hC.trans (CHr.wr W66 SfA66 hC.1)
    replace O0 := O0.wr W66 g_b54
    replace KC := KC.wr W66 (Or.inr sz_b54)
    obtain ⟨T67, h67, X67, e67, E67, A67, D67, -, st67⟩ := newO X66 hx hZ hown (ww hw 1 rfl) (ww hw 2 rfl) (ww hw 3 rfl) e66 (g := (mkF m 111 #[vi p1, vi p2, vi p3, vi p4, vi p5, vi (2 : Int32), vr b54, un, un] [])) rfl (hb hby at_111) (by decide) (by decide)
    obtain ⟨b67, g67⟩ : ∃ z, z = h66.size := ⟨_, rfl⟩
    rw [← g67] at A67 D67 st67
    have ne_b54_b67 : b54 ≠ b67 := Nat.ne_of_lt (Nat.lt_of_lt_of_le Vm66.lt (Nat.le_of_eq g67.symm))
    have g_b67 : n0 ≤ b67 := Nat.le_trans (Nat.le_trans Z0 KC.1) (Nat.le_of_eq g67.symm)
    have sz_b67 : h0.size ≤ b67 := Nat.le_trans KC.1 (Nat.le_of_eq g67.symm)
    replace hk := Nat.le_trans hk E67.1
    replace hC := hC.trans (CHr.ext E67 hC.1)
    replace Vm66 := Vm66.ext E67
    replace O0 := O0.ext E67
    replace KC := KC.ext E67
    have F_value_b67 : Fld Z h67 b67 "java/lang/String" "value" "[B" .null := D67 (Or.inr (ww hw 16 rfl)) (ty := (.array .byte)) (by decide)
    have F_coder_b67 : Fld Z h67 b67 "java/lang/String" "coder" "B" (.int (0 : Int32)) := D67 (Or.inr (ww hw 17 rfl)) (ty := .byte) (by decide)
    obtain ⟨T68, h68, k68, X68, e68, E68, A68, st68⟩ := newP X67 hx hZ (ww hw 0 rfl) e67 (g := (mkF m 116 #[vi p1, vi p2, vi p3, vi p4, vi p5, vi (2 : Int32), vr b54, un, un] [(.int (2 : Int32)), (.ref b67), (.ref b67)])) rfl (hb hby at_116) rfl (by decide) (cap := 2) (by decide) (by decide) (by decide) (by decide)
    obtain ⟨b68, g68⟩ : ∃ z, z = h67.size := ⟨_, rfl⟩
    rw [← g68] at A68 st68
    have ne_b54_b68 : b54 ≠ b68 := Nat.ne_of_lt (Nat.lt_of_lt_of_le Vm66.lt (Nat.le_of_eq g68.symm))
    have ne_b67_b68 : b67 ≠ b68 := Nat.ne_of_lt (Nat.lt_of_lt_of_le A67.lt (Nat.le_of_eq g68.symm))
    have g_b68 : n0 ≤ b68 := Nat.le_trans (Nat.le_trans Z0 KC.1) (Nat.le_of_eq g68.symm)
    have sz_b68 : h0.size ≤ b68 := Nat.le_trans KC.1 (Nat.le_of_eq g68.symm)
    replace hk := Nat.le_trans hk E68.1
    replace hC := hC.trans (CHr.ext E68 hC.1)
    replace Vm66 := Vm66.ext E68
    replace A67 := A67.ext E68
    replace F_value_b67 := F_value_b67.ext E68
    replace F_coder_b67 := F_coder_b67.ext E68
    replace O0 := O0.ext E68
    replace KC := KC.ext E68
    have V_b68 : Arv Z h68 b68 k68 .char (2 : Int32) [(.int (0 : Int32)), (.int (0 : Int32))] (.int (0 : Int32)) := (Arv.new A68 (by decide)).pad (pad_rep [] (.int (0 : Int32)) 2)
    have Vo69 := Vm66
    obtain ⟨cl69, Ar69, q69, Sz69, Nn69, Hh69, Gg69⟩ := Vo69
    have hin69 : ¬ ((0 : Int32) < 0 ∨ cl69.slots.size ≤ ((0 : Int32)).toNatClampNeg) := inb_of Sz69 ⟨by decide, by decide⟩
    have hat69 : cl69.slots[((0 : Int32)).toNatClampNeg]? = some (.int x0) := Has.at Hh69 hin69 rfl
    have ia69 := State.isArrayOf_alike hZ.alike Ar69.2.1
    have Vo70 := V_b68
    obtain ⟨cl70, Ar70, q70, Sz70, Nn70, Hh70, Gg70⟩ := Vo70
    have hin70 : ¬ ((0 : Int32) < 0 ∨ cl70.slots.size ≤ ((0 : Int32)).toNatClampNeg) := inb_of Sz70 ⟨by decide, by decide⟩
    obtain ⟨T71, h71, X71, e71, W71, st71⟩ := stC X68 hx hZ e68 Ar70 (j := (0 : Int32)) hin70 (g := (mkF m 124 #[vi p1, vi p2, vi p3, vi p4, vi p5, vi (2 : Int32), vr b54, un, un] [(.int x0), (.int (0 : Int32)), (.ref b68), (.ref b68), (.ref b67), (.ref b67)])) rfl rfl (hb hby at_124)
    have Vn71 := Arv.set Ar70 q70 Sz70 Nn70 Hh70 Gg70 (fits_nar_char _) W71 (0) rfl (Nat.le_of_ble_eq_true rfl)
    have N71 := Fr.snoc X71 N66 g_b68
    have Vm71 : Arv Z h71 b68 k68 .char (2 : Int32) [(.int x0), (.int (0 : Int32))] (.int (0 : Int32)) := by have hh := Vn71; rw [nx0] at hh; exact hh
    have SfA71 := (Safe.arv (EL := EL) hZ.alike V_b68 (by decide))
    replace hk := Nat.le_trans hk (Keep.of_wr W71).1
    replace hC := hC.trans (CHr.wr W71 SfA71 hC.1)
    replace Vm66 := Vm66.other W71 ne_b54_b68
    replace A67 := A67.wr W71
    replace F_value_b67 := F_value_b67.other W71 (Or.inl ne_b67_b68)
    replace F_coder_b67 := F_coder_b67.other W71 (Or.inl ne_b67_b68)
    replace O0 := O0.wr W71 g_b68
    replace KC := KC.wr W71 (Or.inr sz_b68)
    have Vo72 := Vm66
    obtain ⟨cl72, Ar72, q72, Sz72, Nn72, Hh72, Gg72⟩ := Vo72
    have hin72 : ¬ ((1 : Int32) < 0 ∨ cl72.slots.size ≤ ((1 : Int32)).toNatClampNeg) := inb_of Sz72 ⟨by decide, by decide⟩
    have hat72 : cl72.slots[((1 : Int32)).toNatClampNeg]? = some (.int y0_64) := Has.at Hh72 hin72 rfl
    have ia72 := State.isArrayOf_alike hZ.alike Ar72.2.1
    have Vo73 := Vm71
    obtain ⟨cl73, Ar73, q73, Sz73, Nn73, Hh73, Gg73⟩ := Vo73
    have hin73 : ¬ ((1 : Int32) < 0 ∨ cl73.slots.size ≤ ((1 : Int32)).toNatClampNeg) := inb_of Sz73 ⟨by decide, by decide⟩
    obtain ⟨T74, h74, X74, e74, W74, st74⟩ := stC X71 hx hZ e71 Ar73 (j := (1 : Int32)) hin73 (g := (mkF m 131 #[vi p1, vi p2, vi p3, vi p4, vi p5, vi (2 : Int32), vr b54, un, un] [(.int y0_64), (.int (1 : Int32)), (.ref b68), (.ref b68), (.ref b67), (.ref b67)])) rfl rfl (hb hby at_131)
    have Vn74 := Arv.set Ar73 q73 Sz73 Nn73 Hh73 Gg73 (fits_nar_char _) W74 (1) rfl (Nat.le_of_ble_eq_true rfl)
    have N74 := Fr.snoc X74 N71 g_b68
    have Vm74 : Arv Z h74 b68 k68 .char (2 : Int32) [(.int x0), (.int y0_64)] (.int (0 : Int32)) := by have hh := Vn74; rw [hq64_1] at hh; exact hh
    have SfA74 := (Safe.arv (EL := EL) hZ.alike Vm71 (by decide))
    replace hk := Nat.le_trans hk (Keep.of_wr W74).1
    replace hC := hC.trans (CHr.wr W74 SfA74 hC.1)
    replace Vm66 := Vm66.other W74 ne_b54_b68
    replace A67 := A67.wr W74
    replace F_value_b67 := F_value_b67.other W74 (Or.inl ne_b67_b68)
    replace F_coder_b67 := F_coder_b67.other W74 (Or.inl ne_b67_b68)
    replace O0 := O0.wr W74 g_b68
    replace KC := KC.wr W74 (Or.inr sz_b68)
    obtain ⟨_, _, ⟨T75, L75, kz75, nz75⟩, -, X75, ⟨Lc75, hQ75, l75, y75, z75⟩, st75⟩ := X74.specialBack hx (y := y_28) rfl hown (mvT hZ (ww hw 4 rfl)) (mvT hZ (ww hw 5 rfl)) (mvT hZ (ww hw 6 rfl)) (by decide) (backOf (W := 1) (rm_i12 l Z a0 hw [] b67 b68 k68 x0 y0_64 zc h74 n0 (Nat.le_trans Z0 KC.1) O0 F_value_b67 F_coder_b67 A67 g_b67 Vm74 S_CS hz hx0 hq64_0) hZ (ww hw 6 rfl) (ww hw 3 rfl) (by decide) (by decide)) (g := (mkF m 132 #[vi p1, vi p2, vi p3, vi p4, vi p5, vi (2 : Int32), vr b54, un, un] [(.ref b68), (.ref b67), (.ref b67)])) rfl (by rw [hml]; rfl) (Steps.refl _) (a := b67) (argsL := [(.ref b68)]) (rest := [(.ref b67)]) (lenOf pd_29 rfl) rfl (by show 2 * 0 + _ ≤ _; exact Nat.le_of_eq rfl) (hb hby at_132) (fun _ _ => ⟨rfl, e74, (by decide : 3 + 1 ≤ _), (by decide : 9 + 2 ≤ _)⟩)
    dsimp only [Pt.U, Pt.locs, Pt.cells, Pt.slots] at X75 l75 y75 z75 st75 hQ75
    subst l75 y75 z75
    obtain ⟨b75_tz, kb_75, rfl, N75q, K75, sz_b75_tz, F_value_a1_75, F_coder_a1_75, V_tz_75⟩ := hQ75
    have N75 := Fr.app N74 N75q
    have Sf_b75_tz : Safe Z EL s.vm h74 b75_tz := Safe.new sz_b75_tz
    have ne_b54_b75_tz : b54 ≠ b75_tz := Nat.ne_of_lt (Nat.lt_of_lt_of_le Vm66.lt sz_b75_tz)
    have ne_b67_b75_tz : b67 ≠ b75_tz := Nat.ne_of_lt (Nat.lt_of_lt_of_le A67.lt sz_b75_tz)
    have ne_b68_b75_tz : b68 ≠ b75_tz := Nat.ne_of_lt (Nat.lt_of_lt_of_le Vm74.lt sz_b75_tz)
    have g_b75_tz : n0 ≤ b75_tz := Nat.le_trans (Nat.le_trans Z0 KC.1) sz_b75_tz
    replace sz_b75_tz : h0.size ≤ b75_tz := Nat.le_trans KC.1 sz_b75_tz
    have hsf75 := (sfS (own_safe (EL := EL) hZ.alike A67 F_value_b67) sf0)
    replace Sf_b75_tz := Safe.keep K75 hsf75 hC.1 Sf_b75_tz
    replace hk := Nat.le_trans hk K75.1
    replace hC := hC.trans (CHr.keep K75 hsf75 hC.1)
    replace Vm66 := Vm66.keep K75 (ninS ne_b54_b67 nin0)
    replace A67 := A67.keep K75
    replace Vm74 := Vm74.keep K75 (ninS (Ne.symm ne_b67_b68) nin0)
    replace O0 := O0.keep K75 (allS g_b67 all0)
    replace KC := KC.trans K75 (allS (Or.inr sz_b67) all0)
    obtain ⟨_, _, ⟨T76, L76, kz76, nz76⟩, -, X76, hS76, gr76, ⟨Lc76, hQ76, l76, y76, z76, C76⟩, st76⟩ := callSS X75 hx (y := y_41) hown (mvT hZ (ww hw 22 rfl)) (mvT hZ (ww hw 23 rfl)) (mvT hZ (ww hw 24 rfl)) (mvT hZ (ww hw 25 rfl)) (by decide) (backOfSH (W := 0) (rm_und l Z a0 hw [] b67 b75_tz kb_75 (2 : Int32) [(.int (own_b x0)), (.int (own_b y0_64))] [(.int (own_b x0)), (.int (own_b y0_64)), nO, nO, nO, nO, nO, nO, nO, nO, nO, nO, nO, nO, nO, nO] [(.int (own_b x0)), (.int (own_b y0_64)), (.int (47 : Int32)), (.int (115 : Int32)), (.int (112 : Int32)), nO, nO, nO, nO, nO, nO, nO, nO, nO, nO, nO] (5 : Int32) [(.int (own_b x0)), (.int (own_b y0_64)), (.int (47 : Int32)), (.int (115 : Int32)), (.int (112 : Int32)), nO, nO, nO, nO, nO, nO, nO, nO, nO, nO, nO] [(.int (own_b x0)), (.int (own_b y0_64)), (.int (47 : Int32)), (.int (115 : Int32)), (.int (112 : Int32)), (.int (47 : Int32)), (.int (109 : Int32)), (.int (101 : Int32)), (.int (116 : Int32)), (.int (97 : Int32)), (.int (100 : Int32)), (.int (97 : Int32)), (.int (116 : Int32)), (.int (97 : Int32)), nO, nO] (14 : Int32) [(.int (own_b x0)), (.int (own_b y0_64)), (.int (47 : Int32)), (.int (115 : Int32)), (.int (112 : Int32)), (.int (47 : Int32)), (.int (109 : Int32)), (.int (101 : Int32)), (.int (116 : Int32)), (.int (97 : Int32)), (.int (100 : Int32)), (.int (97 : Int32)), (.int (116 : Int32)), (.int (97 : Int32)), nO, nO] [(.int (own_b x0)), (.int (own_b y0_64)), (.int (47 : Int32)), (.int (115 : Int32)), (.int (112 : Int32)), (.int (47 : Int32)), (.int (97 : Int32)), (.int (99 : Int32)), (.int (115 : Int32)), nO, nO, nO, nO, nO, nO, nO] (9 : Int32) [(.int (own_b x0)), (.int (own_b y0_64)), (.int (47 : Int32)), (.int (115 : Int32)), (.int (112 : Int32)), (.int (47 : Int32)), (.int (97 : Int32)), (.int (99 : Int32)), (.int (115 : Int32)), nO, nO, nO, nO, nO, nO, nO] zc T75.heap n0 (Nat.le_trans Z0 KC.1) O0 A67 F_value_a1_75 F_coder_a1_75 V_tz_75 S_CS hz (Or.inr (Or.inr (Or.inl ⟨rfl, _, rfl, hq64_2⟩))) (by decide) (by decide) rfl (by decide) (by decide) (Nat.le_of_ble_eq_true rfl) rfl (by decide) (by decide) (by decide) (by decide) (by decide) rfl (by decide) (Nat.le_of_ble_eq_true rfl) rfl (by decide) (by decide) (by decide) (by decide) (by decide) rfl (by decide) (Nat.le_of_ble_eq_true rfl) rfl (by decide) (by decide) (by decide) (by decide) (by decide) rfl) hZ (ww hw 25 rfl) (ww hw 24 rfl) (by decide) (by decide) hEL hC.1) (g := (mkF m 175 #[vi p1, vi p2, vi p3, vi p4, vi p5, vi (2 : Int32), vr b54, vr b67, un] [(.ref b67)])) rfl (by rw [hml]; rfl) (argsL := [(.ref b67)]) (rest := []) (lenOf pd_30 rfl) rfl (by show 2 * 0 + _ ≤ _; exact Nat.le_of_eq rfl) (hb hby at_175) (fun _ _ => ⟨rfl, rfl, (by decide : 4 + 21 ≤ _), (by decide : 11 + 231 ≤ _)⟩)
    dsimp only [Pt.U, Pt.locs, Pt.cells, Pt.slots] at X76 l76 y76 z76 st76 hQ76 hS76 gr76 C76
    subst l76 y76 z76
    replace Sf_b75_tz := C76.safe V_tz_75.lt Sf_b75_tz
    obtain ⟨Xr76, hSr76, hZr76, hownr76⟩ := rebS hS hk X76 hS76 gr76 hZ hown
    replace hC := hC.trans C76
    replace hZ := hZr76
    replace hown := hownr76
    replace hS := hSr76
    replace hk : T76.heap.size ≤ T76.heap.size := Nat.le_refl _
    replace X76 := Xr76
    obtain ⟨b76_e0, sA_76, tA_76, kA_76, sB_76, tB_76, kB_76, sC_76, tC_76, kC_76, rfl, N76q, K76, sz_b76_e0, E_e0_76, F_entityId_e0_76, F_metadata_e0_76, F_assertionConsumer_e0_76, E_sA_76, F_value_sA_76, F_coder_sA_76, V_tA_76, E_sB_76, F_value_sB_76, F_coder_sB_76, V_tB_76, E_sC_76, F_value_sC_76, F_coder_sC_76, V_tC_76⟩ := hQ76
    have N76 := Fr.app N75 N76q
    have ne_b54_b76_e0 : b54 ≠ b76_e0 := Nat.ne_of_lt (Nat.lt_of_lt_of_le Vm66.lt sz_b76_e0)
    have ne_b67_b76_e0 : b67 ≠ b76_e0 := Nat.ne_of_lt (Nat.lt_of_lt_of_le A67.lt sz_b76_e0)
    have ne_b75_tz_b76_e0 : b75_tz ≠ b76_e0 := Nat.ne_of_lt (Nat.lt_of_lt_of_le V_tz_75.lt sz_b76_e0)
    have g_b76_e0 : n0 ≤ b76_e0 := Nat.le_trans (Nat.le_trans Z0 KC.1) sz_b76_e0
    replace sz_b76_e0 : h0.size ≤ b76_e0 := Nat.le_trans KC.1 sz_b76_e0
    replace Vm66 := Vm66.keep K76 nin0
    replace A67 := A67.keep K76
    replace F_value_a1_75 := F_value_a1_75.keep K76 nin0
    replace F_coder_a1_75 := F_coder_a1_75.keep K76 nin0
    replace V_tz_75 := V_tz_75.keep K76 nin0
    replace O0 := O0.keep K76 all0
    replace KC := KC.trans K76 all0
    obtain ⟨cq77, kq77, q77a, q77b, q77c⟩ := isOf hZ rfl E_e0_76
    obtain ⟨_, _, ⟨T77, L77, kz77, nz77⟩, -, X77, ⟨Lc77, hQ77, l77, y77, z77⟩, st77⟩ := X76.virtualBack hx (y := y_38) (z := y_38) hown (mvT hZ (ww hw 169 rfl)) (mvT hZ (ww hw 170 rfl)) (notFace_of_selects (args := #[]) (mvT hZ (ww hw 172 rfl))) (mvT hZ (ww hw 172 rfl)) (mvT hZ (ww hw 171 rfl)) (by decide) (backOf (W := 0) (rm_get_entityId l Z a0 hw [] b76_e0 sA_76 T76.heap n0 (Nat.le_trans Z0 KC.1) O0 F_entityId_e0_76) hZ (ww hw 173 rfl) (ww hw 24 rfl) (by decide) (by decide)) q77a q77c (g := (mkF m 182 #[vi p1, vi p2, vi p3, vi p4, vi p5, vi (2 : Int32), vr b54, vr b67, vr b76_e0] [(.ref b76_e0)])) rfl (by rw [hml]; rfl) (Steps.refl _) (argsL := []) (rest := []) (lenOf pd_27 rfl) rfl (by show 2 * 0 + _ ≤ _; exact Nat.le_of_eq rfl) (hb hby at_182) (fun _ _ => ⟨rfl, rfl, (by decide : 25 + 0 ≤ _), (by decide : 242 + 0 ≤ _)⟩)
    dsimp only [Pt.U, Pt.locs, Pt.cells, Pt.slots] at X77 l77 y77 z77 st77 hQ77
    subst l77 y77 z77
    obtain ⟨rfl, N77q, e77⟩ := hQ77
    have N77 := Fr.app N76 N77q
    obtain ⟨sa78, T78, h78, kx78, sb78, kc78, X78, e78, E78, hS78, hk78, hZ78, hown78, Ex78, Fc78, Fv78, Vv78, -, -, C78, -, nx78, st78⟩ := ldcCH X77 hx hZ hown (ww hw 174 rfl) wS e77 hS hk hEL (by decide) hC.1 (vs := [(.int (47 : Int32)), (.int (115 : Int32)), (.int (112 : Int32))]) (z := (3 : Int32)) ⟨by decide, by first | rfl | decide⟩ (by decide) (by first | rfl | decide) (g := (mkF m 189 #[vi p1, vi p2, vi p3, vi p4, vi p5, vi (2 : Int32), vr b54, vr b67, vr b76_e0] [(.int (2 : Int32)), (.ref b54), (.ref sA_76)])) rfl (hb hby at_189) (n := 12) (by decide) (by decide) (by decide) (by decide)
    replace Sf_b75_tz := C78.safe V_tz_75.lt Sf_b75_tz
    replace Vm66 := Vm66.ext E78
    replace A67 := A67.ext E78
    replace F_value_a1_75 := F_value_a1_75.ext E78
    replace F_coder_a1_75 := F_coder_a1_75.ext E78
    replace V_tz_75 := V_tz_75.ext E78
    replace E_e0_76 := E_e0_76.ext E78
    replace F_entityId_e0_76 := F_entityId_e0_76.ext E78
    replace F_metadata_e0_76 := F_metadata_e0_76.ext E78
    replace F_assertionConsumer_e0_76 := F_assertionConsumer_e0_76.ext E78
    replace E_sA_76 := E_sA_76.ext E78
    replace F_value_sA_76 := F_value_sA_76.ext E78
    replace F_coder_sA_76 := F_coder_sA_76.ext E78
    replace V_tA_76 := V_tA_76.ext E78
    replace E_sB_76 := E_sB_76.ext E78
    replace F_value_sB_76 := F_value_sB_76.ext E78
    replace F_coder_sB_76 := F_coder_sB_76.ext E78
    replace V_tB_76 := V_tB_76.ext E78
    replace E_sC_76 := E_sC_76.ext E78
    replace F_value_sC_76 := F_value_sC_76.ext E78
    replace F_coder_sC_76 := F_coder_sC_76.ext E78
    replace V_tC_76 := V_tC_76.ext E78
    replace O0 := O0.ext E78
    replace KC := KC.ext E78
    replace hC := hC.trans C78
    replace hZ := hZ78
    replace hown := hown78
    replace hS := hS78
    replace hk := hk78
    have nx78_b75_tz := nx78 _ Sf_b75_tz
    obtain ⟨_, _, ⟨T79, L79, kz79, nz79⟩, -, X79, ⟨Lc79, hQ79, l79, y79, z79⟩, st79⟩ := Jvm.LawKit.callS X78 hx (y := y_36) hown (mvT hZ (ww hw 175 rfl)) (mvT hZ (ww hw 176 rfl)) (mvT hZ (ww hw 177 rfl)) (mvT hZ (ww hw 178 rfl)) (by decide) (backOf (W := 0) (rm_mat l Z a0 hw [] sA_76 b54 (2 : Int32) sa78 tA_76 kA_76 (5 : Int32) [(.int (own_b x0)), (.int (own_b y0_64)), (.int (47 : Int32)), (.int (115 : Int32)), (.int (112 : Int32)), nO, nO, nO, nO, nO, nO, nO, nO, nO, nO, nO] k54 (3 : Int32) [(.int x0), (.int y0_64), (.int x2)] sb78 kc78 (3 : Int32) [(.int (47 : Int32)), (.int (115 : Int32)), (.int (112 : Int32))] zc fm h78 n0 (Nat.le_trans Z0 KC.1) O0 E_sA_76 F_value_sA_76 F_coder_sA_76 V_tA_76 Vm66 Ex78 Fv78 Fc78 Vv78 S_CS hz S_FM hW_fm (by decide) (fun kk q0 q1 q2 => by rcases own_f2 q0 q2 with rfl | rfl <;> first | exact ⟨by decide, _, _, rfl, rfl, hv0⟩ | exact ⟨by decide, _, _, rfl, rfl, hq64_3⟩) (fun kk q0 q1 q2 => by rcases own_f5 q0 q1 with rfl | rfl | rfl | rfl | rfl <;> first | exact absurd (by decide) q2 | exact ⟨by decide, by decide, _, rfl, rfl⟩)) hZ (ww hw 178 rfl) (ww hw 177 rfl) (by decide) (by decide)) (g := (mkF m 191 #[vi p1, vi p2, vi p3, vi p4, vi p5, vi (2 : Int32), vr b54, vr b67, vr b76_e0] [(.ref sa78), (.int (2 : Int32)), (.ref b54), (.ref sA_76)])) rfl (by rw [hml]; rfl) (argsL := [(.ref sA_76), (.ref b54), (.int (2 : Int32)), (.ref sa78)]) (rest := []) (lenOf pd_31 rfl) rfl (by show 2 * 0 + _ ≤ _; exact Nat.le_of_eq rfl) (hb hby at_191) (fun _ _ => ⟨rfl, e78, (by decide : 27 + 0 ≤ _), (by decide : 258 + 0 ≤ _)⟩)
    dsimp only [Pt.U, Pt.locs, Pt.cells, Pt.slots] at X79 l79 y79 z79 st79 hQ79
    subst l79 y79 z79
    obtain ⟨rfl, N79q, e79⟩ := hQ79
    have N79 := Fr.app N77 N79q
    obtain ⟨cq80, kq80, q80a, q80b, q80c⟩ := isOf hZ e79 E_e0_76
    obtain ⟨_, _, ⟨T80, L80, kz80, nz80⟩, -, X80, ⟨Lc80, hQ80, l80, y80, z80⟩, st80⟩ := X79.virtualBack hx (y := y_39) (z := y_39) hown (mvT hZ (ww hw 205 rfl)) (mvT hZ (ww hw 206 rfl)) (notFace_of_selects (args := #[]) (mvT hZ (ww hw 208 rfl))) (mvT hZ (ww hw 208 rfl)) (mvT hZ (ww hw 207 rfl)) (by decide) (backOf (W := 0) (rm_get_metadata l Z a0 hw [] b76_e0 sB_76 h78 n0 (Nat.le_trans Z0 KC.1) O0 F_metadata_e0_76) hZ (ww hw 209 rfl) (ww hw 24 rfl) (by decide) (by decide)) q80a q80c (g := (mkF m 199 #[vi p1, vi p2, vi p3, vi p4, vi p5, vi (2 : Int32), vr b54, vr b67, vr b76_e0] [(.ref b76_e0)])) rfl (by rw [hml]; rfl) (Steps.refl _) (argsL := []) (rest := []) (lenOf pd_27 rfl) rfl (by show 2 * 0 + _ ≤ _; exact Nat.le_of_eq rfl) (hb hby at_199) (fun _ _ => ⟨rfl, e79, (by decide : 27 + 0 ≤ _), (by decide : 258 + 0 ≤ _)⟩)
    dsimp only [Pt.U, Pt.locs, Pt.cells, Pt.slots] at X80 l80 y80 z80 st80 hQ80
    subst l80 y80 z80
    obtain ⟨rfl, N80q, e80⟩ := hQ80
    have N80 := Fr.app N79 N80q
    obtain ⟨sa81, T81, h81, kx81, sb81, kc81, X81, e81, E81, hS81, hk81, hZ81, hown81, Ex81, Fc81, Fv81, Vv81, -, -, C81, -, nx81, st81⟩ := ldcCH X80 hx hZ hown (ww hw 210 rfl) wS e80 hS hk hEL (by decide) hC.1 (vs := [(.int (47 : Int32)), (.int (115 : Int32)), (.int (112 : Int32)), (.int (47 : Int32)), (.int (109 : Int32)), (.int (101 : Int32)), (.int (116 : Int32)), (.int (97 : Int32)), (.int (100 : Int32)), (.int (97 : Int32)), (.int (116 : Int32)), (.int (97 : Int32))]) (z := (12 : Int32)) ⟨by decide, by first | rfl | decide⟩ (by decide) (by first | rfl | decide) (g := (mkF m 206 #[vi p1, vi p2, vi p3, vi p4, vi p5, vi (2 : Int32), vr b54, vr b67, vr b76_e0] [(.int (2 : Int32)), (.ref b54), (.ref sB_76)])) rfl (hb hby at_206) (n := 48) (by decide) (by decide) (by decide) (by decide)
    replace Sf_b75_tz := C81.safe V_tz_75.lt Sf_b75_tz
    replace Vm66 := Vm66.ext E81
    replace A67 := A67.ext E81
    replace F_value_a1_75 := F_value_a1_75.ext E81
    replace F_coder_a1_75 := F_coder_a1_75.ext E81
    replace V_tz_75 := V_tz_75.ext E81
    replace E_e0_76 := E_e0_76.ext E81
    replace F_entityId_e0_76 := F_entityId_e0_76.ext E81
    replace F_metadata_e0_76 := F_metadata_e0_76.ext E81
    replace F_assertionConsumer_e0_76 := F_assertionConsumer_e0_76.ext E81
    replace E_sA_76 := E_sA_76.ext E81
    replace F_value_sA_76 := F_value_sA_76.ext E81
    replace F_coder_sA_76 := F_coder_sA_76.ext E81
    replace V_tA_76 := V_tA_76.ext E81
    replace E_sB_76 := E_sB_76.ext E81
    replace F_value_sB_76 := F_value_sB_76.ext E81
    replace F_coder_sB_76 := F_coder_sB_76.ext E81
    replace V_tB_76 := V_tB_76.ext E81
    replace E_sC_76 := E_sC_76.ext E81
    replace F_value_sC_76 := F_value_sC_76.ext E81
    replace F_coder_sC_76 := F_coder_sC_76.ext E81
    replace V_tC_76 := V_tC_76.ext E81
    replace Ex78 := Ex78.ext E81
    replace Fc78 := Fc78.ext E81
    replace Fv78 := Fv78.ext E81
    replace Vv78 := Vv78.ext E81
    replace O0 := O0.ext E81
    replace KC := KC.ext E81
    replace hC := hC.trans C81
    replace hZ := hZ81
    replace hown := hown81
    replace hS := hS81
    replace hk := hk81
    have nx81_b75_tz := nx81 _ Sf_b75_tz
    obtain ⟨_, _, ⟨T82, L82, kz82, nz82⟩, -, X82, ⟨Lc82, hQ82, l82, y82, z82⟩, st82⟩ := Jvm.LawKit.callS X81 hx (y := y_36) hown (mvT hZ (ww hw 175 rfl)) (mvT hZ (ww hw 176 rfl)) (mvT hZ (ww hw 177 rfl)) (mvT hZ (ww hw 178 rfl)) (by decide) (backOf (W := 0) (rm_mat l Z a0 hw [] sB_76 b54 (2 : Int32) sa81 tB_76 kB_76 (14 : Int32) [(.int (own_b x0)), (.int (own_b y0_64)), (.int (47 : Int32)), (.int (115 : Int32)), (.int (112 : Int32)), (.int (47 : Int32)), (.int (109 : Int32)), (.int (101 : Int32)), (.int (116 : Int32)), (.int (97 : Int32)), (.int (100 : Int32)), (.int (97 : Int32)), (.int (116 : Int32)), (.int (97 : Int32)), nO, nO] k54 (3 : Int32) [(.int x0), (.int y0_64), (.int x2)] sb81 kc81 (12 : Int32) [(.int (47 : Int32)), (.int (115 : Int32)), (.int (112 : Int32)), (.int (47 : Int32)), (.int (109 : Int32)), (.int (101 : Int32)), (.int (116 : Int32)), (.int (97 : Int32)), (.int (100 : Int32)), (.int (97 : Int32)), (.int (116 : Int32)), (.int (97 : Int32))] zc fm h81 n0 (Nat.le_trans Z0 KC.1) O0 E_sB_76 F_value_sB_76 F_coder_sB_76 V_tB_76 Vm66 Ex81 Fv81 Fc81 Vv81 S_CS hz S_FM hW_fm (by decide) (fun kk q0 q1 q2 => by rcases own_f2 q0 q2 with rfl | rfl <;> first | exact ⟨by decide, _, _, rfl, rfl, hv0⟩ | exact ⟨by decide, _, _, rfl, rfl, hq64_3⟩) (fun kk q0 q1 q2 => by rcases own_f14 q0 q1 with rfl | rfl | rfl | rfl | rfl | rfl | rfl | rfl | rfl | rfl | rfl | rfl | rfl | rfl <;> first | exact absurd (by decide) q2 | exact ⟨by decide, by decide, _, rfl, rfl⟩)) hZ (ww hw 178 rfl) (ww hw 177 rfl) (by decide) (by decide)) (g := (mkF m 208 #[vi p1, vi p2, vi p3, vi p4, vi p5, vi (2 : Int32), vr b54, vr b67, vr b76_e0] [(.ref sa81), (.int (2 : Int32)), (.ref b54), (.ref sB_76)])) rfl (by rw [hml]; rfl) (argsL := [(.ref sB_76), (.ref b54), (.int (2 : Int32)), (.ref sa81)]) (rest := []) (lenOf pd_31 rfl) rfl (by show 2 * 0 + _ ≤ _; exact Nat.le_of_eq rfl) (hb hby at_208) (fun _ _ => ⟨rfl, e81, (by decide : 29 + 0 ≤ _), (by decide : 310 + 0 ≤ _)⟩)
    dsimp only [Pt.U, Pt.locs, Pt.cells, Pt.slots] at X82 l82 y82 z82 st82 hQ82
    subst l82 y82 z82
    obtain ⟨rfl, N82q, e82⟩ := hQ82
    have N82 := Fr.app N80 N82q
    obtain ⟨cq83, kq83, q83a, q83b, q83c⟩ := isOf hZ e82 E_e0_76
    obtain ⟨_, _, ⟨T83, L83, kz83, nz83⟩, -, X83, ⟨Lc83, hQ83, l83, y83, z83⟩, st83⟩ := X82.virtualBack hx (y := y_40) (z := y_40) hown (mvT hZ (ww hw 211 rfl)) (mvT hZ (ww hw 212 rfl)) (notFace_of_selects (args := #[]) (mvT hZ (ww hw 214 rfl))) (mvT hZ (ww hw 214 rfl)) (mvT hZ (ww hw 213 rfl)) (by decide) (backOf (W := 0) (rm_get_assertionConsumer l Z a0 hw [] b76_e0 sC_76 h81 n0 (Nat.le_trans Z0 KC.1) O0 F_assertionConsumer_e0_76) hZ (ww hw 215 rfl) (ww hw 24 rfl) (by decide) (by decide)) q83a q83c (g := (mkF m 216 #[vi p1, vi p2, vi p3, vi p4, vi p5, vi (2 : Int32), vr b54, vr b67, vr b76_e0] [(.ref b76_e0)])) rfl (by rw [hml]; rfl) (Steps.refl _) (argsL := []) (rest := []) (lenOf pd_27 rfl) rfl (by show 2 * 0 + _ ≤ _; exact Nat.le_of_eq rfl) (hb hby at_216) (fun _ _ => ⟨rfl, e82, (by decide : 29 + 0 ≤ _), (by decide : 310 + 0 ≤ _)⟩)
    dsimp only [Pt.U, Pt.locs, Pt.cells, Pt.slots] at X83 l83 y83 z83 st83 hQ83
    subst l83 y83 z83
    obtain ⟨rfl, N83q, e83⟩ := hQ83
    have N83 := Fr.app N82 N83q
    obtain ⟨sa84, T84, h84, kx84, sb84, kc84, X84, e84, E84, hS84, hk84, hZ84, hown84, Ex84, Fc84, Fv84, Vv84, -, -, C84, -, nx84, st84⟩ := ldcCH X83 hx hZ hown (ww hw 216 rfl) wS e83 hS hk hEL (by decide) hC.1 (vs := [(.int (47 : Int32)), (.int (115 : Int32)), (.int (112 : Int32)), (.int (47 : Int32)), (.int (97 : Int32)), (.int (99 : Int32)), (.int (115 : Int32))]) (z := (7 : Int32)) ⟨by decide, by first | rfl | decide⟩ (by decide) (by first | rfl | decide) (g := (mkF m 223 #[vi p1, vi p2, vi p3, vi p4, vi p5, vi (2 : Int32), vr b54, vr b67, vr b76_e0] [(.int (2 : Int32)), (.ref b54), (.ref sC_76)])) rfl (hb hby at_223) (n := 28) (by decide) (by decide) (by decide) (by decide)
    replace Sf_b75_tz := C84.safe V_tz_75.lt Sf_b75_tz
    replace Vm66 := Vm66.ext E84
    replace A67 := A67.ext E84
    replace F_value_a1_75 := F_value_a1_75.ext E84
    replace F_coder_a1_75 := F_coder_a1_75.ext E84
    replace V_tz_75 := V_tz_75.ext E84
    replace E_e0_76 := E_e0_76.ext E84
    replace F_entityId_e0_76 := F_entityId_e0_76.ext E84
    replace F_metadata_e0_76 := F_metadata_e0_76.ext E84
    replace F_assertionConsumer_e0_76 := F_assertionConsumer_e0_76.ext E84
    replace E_sA_76 := E_sA_76.ext E84
    replace F_value_sA_76 := F_value_sA_76.ext E84
    replace F_coder_sA_76 := F_coder_sA_76.ext E84
    replace V_tA_76 := V_tA_76.ext E84
    replace E_sB_76 := E_sB_76.ext E84
    replace F_value_sB_76 := F_value_sB_76.ext E84
    replace F_coder_sB_76 := F_coder_sB_76.ext E84
    replace V_tB_76 := V_tB_76.ext E84
    replace E_sC_76 := E_sC_76.ext E84
    replace F_value_sC_76 := F_value_sC_76.ext E84
    replace F_coder_sC_76 := F_coder_sC_76.ext E84
    replace V_tC_76 := V_tC_76.ext E84
    replace Ex78 := Ex78.ext E84
    replace Fc78 := Fc78.ext E84
    replace Fv78 := Fv78.ext E84
    replace Vv78 := Vv78.ext E84
    replace Ex81 := Ex81.ext E84
    replace Fc81 := Fc81.ext E84
    replace Fv81 := Fv81.ext E84
    replace Vv81 := Vv81.ext E84
    replace O0 := O0.ext E84
    replace KC := KC.ext E84
    replace hC := hC.trans C84
    replace hZ := hZ84
    replace hown := hown84
    replace hS := hS84
    replace hk := hk84
    have nx84_b75_tz := nx84 _ Sf_b75_tz
    obtain ⟨_, _, ⟨T85, L85, kz85, nz85⟩, -, X85, ⟨Lc85, hQ85, l85, y85, z85⟩, st85⟩ := Jvm.LawKit.callS X84 hx (y := y_36) hown (mvT hZ (ww hw 175 rfl)) (mvT hZ (ww hw 176 rfl)) (mvT hZ (ww hw 177 rfl)) (mvT hZ (ww hw 178 rfl)) (by decide) (backOf (W := 0) (rm_mat l Z a0 hw [] sC_76 b54 (2 : Int32) sa84 tC_76 kC_76 (9 : Int32) [(.int (own_b x0)), (.int (own_b y0_64)), (.int (47 : Int32)), (.int (115 : Int32)), (.int (112 : Int32)), (.int (47 : Int32)), (.int (97 : Int32)), (.int (99 : Int32)), (.int (115 : Int32)), nO, nO, nO, nO, nO, nO, nO] k54 (3 : Int32) [(.int x0), (.int y0_64), (.int x2)] sb84 kc84 (7 : Int32) [(.int (47 : Int32)), (.int (115 : Int32)), (.int (112 : Int32)), (.int (47 : Int32)), (.int (97 : Int32)), (.int (99 : Int32)), (.int (115 : Int32))] zc fm h84 n0 (Nat.le_trans Z0 KC.1) O0 E_sC_76 F_value_sC_76 F_coder_sC_76 V_tC_76 Vm66 Ex84 Fv84 Fc84 Vv84 S_CS hz S_FM hW_fm (by decide) (fun kk q0 q1 q2 => by rcases own_f2 q0 q2 with rfl | rfl <;> first | exact ⟨by decide, _, _, rfl, rfl, hv0⟩ | exact ⟨by decide, _, _, rfl, rfl, hq64_3⟩) (fun kk q0 q1 q2 => by rcases own_f9 q0 q1 with rfl | rfl | rfl | rfl | rfl | rfl | rfl | rfl | rfl <;> first | exact absurd (by decide) q2 | exact ⟨by decide, by decide, _, rfl, rfl⟩)) hZ (ww hw 178 rfl) (ww hw 177 rfl) (by decide) (by decide)) (g := (mkF m 225 #[vi p1, vi p2, vi p3, vi p4, vi p5, vi (2 : Int32), vr b54, vr b67, vr b76_e0] [(.ref sa84), (.int (2 : Int32)), (.ref b54), (.ref sC_76)])) rfl (by rw [hml]; rfl) (argsL := [(.ref sC_76), (.ref b54), (.int (2 : Int32)), (.ref sa84)]) (rest := []) (lenOf pd_31 rfl) rfl (by show 2 * 0 + _ ≤ _; exact Nat.le_of_eq rfl) (hb hby at_225) (fun _ _ => ⟨rfl, e84, (by decide : 31 + 0 ≤ _), (by decide : 342 + 0 ≤ _)⟩)
    dsimp only [Pt.U, Pt.locs, Pt.cells, Pt.slots] at X85 l85 y85 z85 st85 hQ85
    subst l85 y85 z85
    obtain ⟨rfl, N85q, e85⟩ := hQ85
    have N85 := Fr.app N83 N85q
    obtain ⟨fs, hr, hrun, hended, hRE⟩ := X85.leaveW hS (by rw [e85]; exact hk) (v := some (.int (1 : Int32))) (fun h => by rw [Bd.returns] at h; cases h)
    refine ⟨_, _, pre61 _ ?_, hrun, hended, _, _, rfl, ?_, ?_, hRE.1, hRE.2.1, hRE.2.2.1, hRE.2.2.2.mono (by decide) (by decide)⟩
    · show SS p e below m T60 39 #[vi p1, vi p2, vi p3, vi p4, vi p5, vi (2 : Int32), vr b54, un, un] [(.int x2), (.int (2 : Int32)), (.ref b54)] _
      refine st63 _ ?_
      show SS p e below m T63 40 #[vi p1, vi p2, vi p3, vi p4, vi p5, vi (2 : Int32), vr b54, un, un] [] _
      refine XS.iload X63.here hx rfl (hb hby at_40) rfl ?_
      show SS p e below m T63 42 #[vi p1, vi p2, vi p3, vi p4, vi p5, vi (2 : Int32), vr b54, un, un] [(.int (2 : Int32))] _
      refine XS.ifNo X63.here hx rfl (hb hby at_42) rfl ((if0 _ _).trans (tlt (by decide)).2.2.2) ?_
      show SS p e below m T63 45 #[vi p1, vi p2, vi p3, vi p4, vi p5, vi (2 : Int32), vr b54, un, un] [] _
      refine XS.aload X63.here hx rfl (hb hby at_45) rfl rfl ?_
      show SS p e below m T63 47 #[vi p1, vi p2, vi p3, vi p4, vi p5, vi (2 : Int32), vr b54, un, un] [(.ref b54)] _
      refine XS.iload X63.here hx rfl (hb hby at_47) rfl ?_
      show SS p e below m T63 49 #[vi p1, vi p2, vi p3, vi p4, vi p5, vi (2 : Int32), vr b54, un, un] [(.int (2 : Int32)), (.ref b54)] _
      refine XS.iconst X63.here hx rfl (hb hby at_49) ?_
      show SS p e below m T63 50 #[vi p1, vi p2, vi p3, vi p4, vi p5, vi (2 : Int32), vr b54, un, un] [(.int (1 : Int32)), (.int (2 : Int32)), (.ref b54)] _
      refine XS.isub X63.here hx rfl (hb hby at_50) rfl ?_
      show SS p e below m T63 51 #[vi p1, vi p2, vi p3, vi p4, vi p5, vi (2 : Int32), vr b54, un, un] [(.int (1 : Int32)), (.ref b54)] _
      refine XS.iload X63.here hx rfl (hb hby at_51) rfl ?_
      show SS p e below m T63 53 #[vi p1, vi p2, vi p3, vi p4, vi p5, vi (2 : Int32), vr b54, un, un] [(.int p5), (.int (1 : Int32)), (.ref b54)] _
      refine st64 _ ?_
      show SS p e below m T64 56 #[vi p1, vi p2, vi p3, vi p4, vi p5, vi (2 : Int32), vr b54, un, un] [(.int y0_64), (.int (1 : Int32)), (.ref b54)] _
      refine st66 _ ?_
      show SS p e below m T66 57 #[vi p1, vi p2, vi p3, vi p4, vi p5, vi (2 : Int32), vr b54, un, un] [] _
      refine XS.iload X66.here hx rfl (hb hby at_57) rfl ?_
      show SS p e below m T66 59 #[vi p1, vi p2, vi p3, vi p4, vi p5, vi (2 : Int32), vr b54, un, un] [(.int (2 : Int32))] _
      refine XS.ifYes X66.here hx rfl (pc0 := 59) (pc' := 77) rfl (hb hby at_59) rfl ((if0 _ _).trans (feq (by decide)).2) (by decide) (by decide) ?_
      show SS p e below m T66 77 #[vi p1, vi p2, vi p3, vi p4, vi p5, vi (2 : Int32), vr b54, un, un] [] _
      refine XS.iload X66.here hx rfl (hb hby at_77) rfl ?_
      show SS p e below m T66 79 #[vi p1, vi p2, vi p3, vi p4, vi p5, vi (2 : Int32), vr b54, un, un] [(.int (2 : Int32))] _
      refine XS.iconst X66.here hx rfl (hb hby at_79) ?_
      show SS p e below m T66 80 #[vi p1, vi p2, vi p3, vi p4, vi p5, vi (2 : Int32), vr b54, un, un] [(.int (1 : Int32)), (.int (2 : Int32))] _
      refine XS.icmpYes X66.here hx rfl (pc0 := 80) (pc' := 105) rfl (hb hby at_80) rfl (feq (by decide)).2 (by decide) (by decide) ?_
      show SS p e below m T66 105 #[vi p1, vi p2, vi p3, vi p4, vi p5, vi (2 : Int32), vr b54, un, un] [] _
      refine XS.iload X66.here hx rfl (hb hby at_105) rfl ?_
      show SS p e below m T66 107 #[vi p1, vi p2, vi p3, vi p4, vi p5, vi (2 : Int32), vr b54, un, un] [(.int (2 : Int32))] _
      refine XS.iconst X66.here hx rfl (hb hby at_107) ?_
      show SS p e below m T66 108 #[vi p1, vi p2, vi p3, vi p4, vi p5, vi (2 : Int32), vr b54, un, un] [(.int (2 : Int32)), (.int (2 : Int32))] _
      refine XS.icmpNo X66.here hx rfl (hb hby at_108) rfl (teq (by decide)).2 ?_
      show SS p e below m T66 111 #[vi p1, vi p2, vi p3, vi p4, vi p5, vi (2 : Int32), vr b54, un, un] [] _
      refine st67 _ ?_
      show SS p e below m T67 114 #[vi p1, vi p2, vi p3, vi p4, vi p5, vi (2 : Int32), vr b54, un, un] [(.ref b67)] _
      refine XS.dup X67.here hx rfl (hb hby at_114) rfl rfl ?_
      show SS p e below m T67 115 #[vi p1, vi p2, vi p3, vi p4, vi p5, vi (2 : Int32), vr b54, un, un] [(.ref b67), (.ref b67)] _
      refine XS.iconst X67.here hx rfl (hb hby at_115) ?_
      show SS p e below m T67 116 #[vi p1, vi p2, vi p3, vi p4, vi p5, vi (2 : Int32), vr b54, un, un] [(.int (2 : Int32)), (.ref b67), (.ref b67)] _
      refine st68 _ ?_
      show SS p e below m T68 118 #[vi p1, vi p2, vi p3, vi p4, vi p5, vi (2 : Int32), vr b54, un, un] [(.ref b68), (.ref b67), (.ref b67)] _
      refine XS.dup X68.here hx rfl (hb hby at_118) rfl rfl ?_
      show SS p e below m T68 119 #[vi p1, vi p2, vi p3, vi p4, vi p5, vi (2 : Int32), vr b54, un, un] [(.ref b68), (.ref b68), (.ref b67), (.ref b67)] _
      refine XS.iconst X68.here hx rfl (hb hby at_119) ?_
      show SS p e below m T68 120 #[vi p1, vi p2, vi p3, vi p4, vi p5, vi (2 : Int32), vr b54, un, un] [(.int (0 : Int32)), (.ref b68), (.ref b68), (.ref b67), (.ref b67)] _
      refine XS.aload X68.here hx rfl (hb hby at_120) rfl rfl ?_
      show SS p e below m T68 122 #[vi p1, vi p2, vi p3, vi p4, vi p5, vi (2 : Int32), vr b54, un, un] [(.ref b54), (.int (0 : Int32)), (.ref b68), (.ref b68), (.ref b67), (.ref b67)] _
      refine XS.iconst X68.here hx rfl (hb hby at_122) ?_
      show SS p e below m T68 123 #[vi p1, vi p2, vi p3, vi p4, vi p5, vi (2 : Int32), vr b54, un, un] [(.int (0 : Int32)), (.ref b54), (.int (0 : Int32)), (.ref b68), (.ref b68), (.ref b67), (.ref b67)] _
      refine X68.caload hx (j := (0 : Int32)) (v := (.int x0)) (by rw [e68]; exact Ar69.1) ia69 Ar69.2.2 hin69 hat69 (g := (mkF m 123 #[vi p1, vi p2, vi p3, vi p4, vi p5, vi (2 : Int32), vr b54, un, un] [(.int (0 : Int32)), (.ref b54), (.int (0 : Int32)), (.ref b68), (.ref b68), (.ref b67), (.ref b67)])) rfl rfl (hb hby at_123) _ ?_
      show SS p e below m T68 124 #[vi p1, vi p2, vi p3, vi p4, vi p5, vi (2 : Int32), vr b54, un, un] [(.int x0), (.int (0 : Int32)), (.ref b68), (.ref b68), (.ref b67), (.ref b67)] _
      refine st71 _ ?_
      show SS p e below m T71 125 #[vi p1, vi p2, vi p3, vi p4, vi p5, vi (2 : Int32), vr b54, un, un] [(.ref b68), (.ref b67), (.ref b67)] _
      refine XS.dup X71.here hx rfl (hb hby at_125) rfl rfl ?_
      show SS p e below m T71 126 #[vi p1, vi p2, vi p3, vi p4, vi p5, vi (2 : Int32), vr b54, un, un] [(.ref b68), (.ref b68), (.ref b67), (.ref b67)] _
      refine XS.iconst X71.here hx rfl (hb hby at_126) ?_
      show SS p e below m T71 127 #[vi p1, vi p2, vi p3, vi p4, vi p5, vi (2 : Int32), vr b54, un, un] [(.int (1 : Int32)), (.ref b68), (.ref b68), (.ref b67), (.ref b67)] _
      refine XS.aload X71.here hx rfl (hb hby at_127) rfl rfl ?_
      show SS p e below m T71 129 #[vi p1, vi p2, vi p3, vi p4, vi p5, vi (2 : Int32), vr b54, un, un] [(.ref b54), (.int (1 : Int32)), (.ref b68), (.ref b68), (.ref b67), (.ref b67)] _
      refine XS.iconst X71.here hx rfl (hb hby at_129) ?_
      show SS p e below m T71 130 #[vi p1, vi p2, vi p3, vi p4, vi p5, vi (2 : Int32), vr b54, un, un] [(.int (1 : Int32)), (.ref b54), (.int (1 : Int32)), (.ref b68), (.ref b68), (.ref b67), (.ref b67)] _
      refine X71.caload hx (j := (1 : Int32)) (v := (.int y0_64)) (by rw [e71]; exact Ar72.1) ia72 Ar72.2.2 hin72 hat72 (g := (mkF m 130 #[vi p1, vi p2, vi p3, vi p4, vi p5, vi (2 : Int32), vr b54, un, un] [(.int (1 : Int32)), (.ref b54), (.int (1 : Int32)), (.ref b68), (.ref b68), (.ref b67), (.ref b67)])) rfl rfl (hb hby at_130) _ ?_
      show SS p e below m T71 131 #[vi p1, vi p2, vi p3, vi p4, vi p5, vi (2 : Int32), vr b54, un, un] [(.int y0_64), (.int (1 : Int32)), (.ref b68), (.ref b68), (.ref b67), (.ref b67)] _
      refine st74 _ ?_
      show SS p e below m T74 132 #[vi p1, vi p2, vi p3, vi p4, vi p5, vi (2 : Int32), vr b54, un, un] [(.ref b68), (.ref b67), (.ref b67)] _
      refine st75.trans ?_
      show SS p e below m T75 135 #[vi p1, vi p2, vi p3, vi p4, vi p5, vi (2 : Int32), vr b54, un, un] [(.ref b67)] _
      refine XS.astore X75.here hx rfl (hb hby at_135) rfl rfl (l' := #[vi p1, vi p2, vi p3, vi p4, vi p5, vi (2 : Int32), vr b54, vr b67, un]) rfl ?_
      show SS p e below m T75 137 #[vi p1, vi p2, vi p3, vi p4, vi p5, vi (2 : Int32), vr b54, vr b67, un] [] _
      refine XS.goto X75.here hx rfl (pc0 := 137) (pc' := 173) rfl (hb hby at_137) (by decide) (by decide) ?_
      show SS p e below m T75 173 #[vi p1, vi p2, vi p3, vi p4, vi p5, vi (2 : Int32), vr b54, vr b67, un] [] _
      refine XS.aload X75.here hx rfl (hb hby at_173) rfl rfl ?_
      show SS p e below m T75 175 #[vi p1, vi p2, vi p3, vi p4, vi p5, vi (2 : Int32), vr b54, vr b67, un] [(.ref b67)] _
      refine st76.trans ?_
      show SS p e below m T76 178 #[vi p1, vi p2, vi p3, vi p4, vi p5, vi (2 : Int32), vr b54, vr b67, un] [(.ref b76_e0)] _
      refine XS.astore X76.here hx rfl (hb hby at_178) rfl rfl (l' := #[vi p1, vi p2, vi p3, vi p4, vi p5, vi (2 : Int32), vr b54, vr b67, vr b76_e0]) rfl ?_
      show SS p e below m T76 180 #[vi p1, vi p2, vi p3, vi p4, vi p5, vi (2 : Int32), vr b54, vr b67, vr b76_e0] [] _
      refine XS.aload X76.here hx rfl (hb hby at_180) rfl rfl ?_
      show SS p e below m T76 182 #[vi p1, vi p2, vi p3, vi p4, vi p5, vi (2 : Int32), vr b54, vr b67, vr b76_e0] [(.ref b76_e0)] _
      refine st77.trans ?_
      show SS p e below m T77 185 #[vi p1, vi p2, vi p3, vi p4, vi p5, vi (2 : Int32), vr b54, vr b67, vr b76_e0] [(.ref sA_76)] _
      refine XS.aload X77.here hx rfl (hb hby at_185) rfl rfl ?_
      show SS p e below m T77 187 #[vi p1, vi p2, vi p3, vi p4, vi p5, vi (2 : Int32), vr b54, vr b67, vr b76_e0] [(.ref b54), (.ref sA_76)] _
      refine XS.iload X77.here hx rfl (hb hby at_187) rfl ?_
      show SS p e below m T77 189 #[vi p1, vi p2, vi p3, vi p4, vi p5, vi (2 : Int32), vr b54, vr b67, vr b76_e0] [(.int (2 : Int32)), (.ref b54), (.ref sA_76)] _
      refine st78 _ ?_
      show SS p e below m T78 191 #[vi p1, vi p2, vi p3, vi p4, vi p5, vi (2 : Int32), vr b54, vr b67, vr b76_e0] [(.ref sa78), (.int (2 : Int32)), (.ref b54), (.ref sA_76)] _
      refine st79 _ ?_
      show SS p e below m T79 194 #[vi p1, vi p2, vi p3, vi p4, vi p5, vi (2 : Int32), vr b54, vr b67, vr b76_e0] [(.int (1 : Int32))] _
      refine XS.ifNo X79.here hx rfl (hb hby at_194) rfl ((if0 _ _).trans (feq (by decide)).1) ?_
      show SS p e below m T79 197 #[vi p1, vi p2, vi p3, vi p4, vi p5, vi (2 : Int32), vr b54, vr b67, vr b76_e0] [] _
      refine XS.aload X79.here hx rfl (hb hby at_197) rfl rfl ?_
      show SS p e below m T79 199 #[vi p1, vi p2, vi p3, vi p4, vi p5, vi (2 : Int32), vr b54, vr b67, vr b76_e0] [(.ref b76_e0)] _
      refine st80.trans ?_
      show SS p e below m T80 202 #[vi p1, vi p2, vi p3, vi p4, vi p5, vi (2 : Int32), vr b54, vr b67, vr b76_e0] [(.ref sB_76)] _
      refine XS.aload X80.here hx rfl (hb hby at_202) rfl rfl ?_
      show SS p e below m T80 204 #[vi p1, vi p2, vi p3, vi p4, vi p5, vi (2 : Int32), vr b54, vr b67, vr b76_e0] [(.ref b54), (.ref sB_76)] _
      refine XS.iload X80.here hx rfl (hb hby at_204) rfl ?_
      show SS p e below m T80 206 #[vi p1, vi p2, vi p3, vi p4, vi p5, vi (2 : Int32), vr b54, vr b67, vr b76_e0] [(.int (2 : Int32)), (.ref b54), (.ref sB_76)] _
      refine st81 _ ?_
      show SS p e below m T81 208 #[vi p1, vi p2, vi p3, vi p4, vi p5, vi (2 : Int32), vr b54, vr b67, vr b76_e0] [(.ref sa81), (.int (2 : Int32)), (.ref b54), (.ref sB_76)] _
      refine st82 _ ?_
      show SS p e below m T82 211 #[vi p1, vi p2, vi p3, vi p4, vi p5, vi (2 : Int32), vr b54, vr b67, vr b76_e0] [(.int (1 : Int32))] _
      refine XS.ifNo X82.here hx rfl (hb hby at_211) rfl ((if0 _ _).trans (feq (by decide)).1) ?_
      show SS p e below m T82 214 #[vi p1, vi p2, vi p3, vi p4, vi p5, vi (2 : Int32), vr b54, vr b67, vr b76_e0] [] _
      refine XS.aload X82.here hx rfl (hb hby at_214) rfl rfl ?_
      show SS p e below m T82 216 #[vi p1, vi p2, vi p3, vi p4, vi p5, vi (2 : Int32), vr b54, vr b67, vr b76_e0] [(.ref b76_e0)] _
      refine st83.trans ?_
      show SS p e below m T83 219 #[vi p1, vi p2, vi p3, vi p4, vi p5, vi (2 : Int32), vr b54, vr b67, vr b76_e0] [(.ref sC_76)] _
      refine XS.aload X83.here hx rfl (hb hby at_219) rfl rfl ?_
      show SS p e below m T83 221 #[vi p1, vi p2, vi p3, vi p4, vi p5, vi (2 : Int32), vr b54, vr b67, vr b76_e0] [(.ref b54), (.ref sC_76)] _
      refine XS.iload X83.here hx rfl (hb hby at_221) rfl ?_
      show SS p e below m T83 223 #[vi p1, vi p2, vi p3, vi p4, vi p5, vi (2 : Int32), vr b54, vr b67, vr b76_e0] [(.int (2 : Int32)), (.ref b54), (.ref sC_76)] _
      refine st84 _ ?_
      show SS p e below m T84 225 #[vi p1, vi p2, vi p3, vi p4, vi p5, vi (2 : Int32), vr b54, vr b67, vr b76_e0] [(.ref sa84), (.int (2 : Int32)), (.ref b54), (.ref sC_76)] _
      refine st85 _ ?_
      show SS p e below m T85 228 #[vi p1, vi p2, vi p3, vi p4, vi p5, vi (2 : Int32), vr b54, vr b67, vr b76_e0] [(.int (1 : Int32))] _
      refine XS.ifNo X85.here hx rfl (hb hby at_228) rfl ((if0 _ _).trans (feq (by decide)).1) ?_
      show SS p e below m T85 231 #[vi p1, vi p2, vi p3, vi p4, vi p5, vi (2 : Int32), vr b54, vr b67, vr b76_e0] [] _
      refine XS.iconst X85.here hx rfl (hb hby at_231) ?_
      show SS p e below m T85 232 #[vi p1, vi p2, vi p3, vi p4, vi p5, vi (2 : Int32), vr b54, vr b67, vr b76_e0] [(.int (1 : Int32))] _
      refine XS.goto X85.here hx rfl (pc0 := 232) (pc' := 236) rfl (hb hby at_232) (by decide) (by decide) ?_
      show SS p e below m T85 236 #[vi p1, vi p2, vi p3, vi p4, vi p5, vi (2 : Int32), vr b54, vr b67, vr b76_e0] [(.int (1 : Int32))] _
      exact retN X85 hx (t := .boolean) Bd.returns (by simp) (hb hby at_236) hr
    · show Q_rm0 Z p1 p2 p3 p4 p5 zc fm h0 n0 _ T85.heap _
      rw [e85]
      exact ⟨rfl, N85, KC⟩
    · show CHr Z EL s.vm s.heap T85.vm T85.heap
      rw [hh, e85]
      exact hC.trans (CHv.at X85 hZ hEL hC.1)
  · rw [hc] at pre1
    obtain ⟨T86, h86, k86, X86, e86, E86, A86, st86⟩ := newP X0 hx hZ (ww hw 0 rfl) e0 (g := (mkF m 6 #[vi p1, vi p2, vi p3, vi p4, vi p5, vi (3 : Int32), un, un, un] [(.int (3 : Int32))])) rfl (hb hby at_6) rfl (by decide) (cap := 3) (by decide) (by decide) (by decide) (by decide)
    obtain ⟨b86, g86⟩ : ∃ z, z = h0.size := ⟨_, rfl⟩
    rw [← g86] at A86 st86
    have g_b86 : n0 ≤ b86 := Nat.le_trans (Nat.le_trans Z0 KC.1) (Nat.le_of_eq g86.symm)
    have sz_b86 : h0.size ≤ b86 := Nat.le_trans KC.1 (Nat.le_of_eq g86.symm)
    replace hk := Nat.le_trans hk E86.1
    replace hC := hC.trans (CHr.ext E86 hC.1)
    replace O0 := O0.ext E86
    replace KC := KC.ext E86
    have V_b86 : Arv Z h86 b86 k86 .char (3 : Int32) [(.int (0 : Int32)), (.int (0 : Int32)), (.int (0 : Int32))] (.int (0 : Int32)) := (Arv.new A86 (by decide)).pad (pad_rep [] (.int (0 : Int32)) 3)
    obtain ⟨x0, ex0, hx0, nx0, hv0⟩ := own_x p2
    have pre87 : ∀ t, Steps p.tables e below (T86.setTop (mkF m 19 #[vi p1, vi p2, vi p3, vi p4, vi p5, vi (3 : Int32), vr b86, un, un] [(.int ((p2 &&& (255 : Int32)).toUInt32.toUInt16.toUInt32.toInt32)), (.int (0 : Int32)), (.ref b86)])) t → Steps p.tables e below (s₁.setTop (entryFrame m #[(.int p1), (.int p2), (.int p3), (.int p4), (.int p5)] maxLocals)) t := by
      intro t kt
      refine pre1 t ?_
      show SS p e below m s₁ 3 #[vi p1, vi p2, vi p3, vi p4, vi p5, un, un, un, un] [(.int (3 : Int32))] _
      refine XS.istore X0.here hx rfl (hb hby at_3) rfl (l' := #[vi p1, vi p2, vi p3, vi p4, vi p5, vi (3 : Int32), un, un, un]) rfl ?_
      show SS p e below m s₁ 5 #[vi p1, vi p2, vi p3, vi p4, vi p5, vi (3 : Int32), un, un, un] [] _
      refine XS.iconst X0.here hx rfl (hb hby at_5) ?_
      show SS p e below m s₁ 6 #[vi p1, vi p2, vi p3, vi p4, vi p5, vi (3 : Int32), un, un, un] [(.int (3 : Int32))] _
      refine st86 _ ?_
      show SS p e below m T86 8 #[vi p1, vi p2, vi p3, vi p4, vi p5, vi (3 : Int32), un, un, un] [(.ref b86)] _
      refine XS.astore X86.here hx rfl (hb hby at_8) rfl rfl (l' := #[vi p1, vi p2, vi p3, vi p4, vi p5, vi (3 : Int32), vr b86, un, un]) rfl ?_
      show SS p e below m T86 10 #[vi p1, vi p2, vi p3, vi p4, vi p5, vi (3 : Int32), vr b86, un, un] [] _
      refine XS.aload X86.here hx rfl (hb hby at_10) rfl rfl ?_
      show SS p e below m T86 12 #[vi p1, vi p2, vi p3, vi p4, vi p5, vi (3 : Int32), vr b86, un, un] [(.ref b86)] _
      refine XS.iconst X86.here hx rfl (hb hby at_12) ?_
      show SS p e below m T86 13 #[vi p1, vi p2, vi p3, vi p4, vi p5, vi (3 : Int32), vr b86, un, un] [(.int (0 : Int32)), (.ref b86)] _
      refine XS.iloadN X86.here hx rfl (hb hby at_13) rfl ?_
      show SS p e below m T86 14 #[vi p1, vi p2, vi p3, vi p4, vi p5, vi (3 : Int32), vr b86, un, un] [(.int p2), (.int (0 : Int32)), (.ref b86)] _
      refine XS.sipush X86.here hx rfl (hb hby at_14) ?_
      show SS p e below m T86 17 #[vi p1, vi p2, vi p3, vi p4, vi p5, vi (3 : Int32), vr b86, un, un] [(.int (255 : Int32)), (.int p2), (.int (0 : Int32)), (.ref b86)] _
      refine XS.iand X86.here hx rfl (hb hby at_17) rfl ?_
      show SS p e below m T86 18 #[vi p1, vi p2, vi p3, vi p4, vi p5, vi (3 : Int32), vr b86, un, un] [(.int (p2 &&& (255 : Int32))), (.int (0 : Int32)), (.ref b86)] _
      refine XS.i2c X86.here hx rfl (hb hby at_18) rfl ?_
      exact kt
    rw [ex0] at pre87
    have Vo88 := V_b86
    obtain ⟨cl88, Ar88, q88, Sz88, Nn88, Hh88, Gg88⟩ := Vo88
    have hin88 : ¬ ((0 : Int32) < 0 ∨ cl88.slots.size ≤ ((0 : Int32)).toNatClampNeg) := inb_of Sz88 ⟨by decide, by decide⟩
    obtain ⟨T89, h89, X89, e89, W89, st89⟩ := stC X86 hx hZ e86 Ar88 (j := (0 : Int32)) hin88 (g := (mkF m 19 #[vi p1, vi p2, vi p3, vi p4, vi p5, vi (3 : Int32), vr b86, un, un] [(.int x0), (.int (0 : Int32)), (.ref b86)])) rfl rfl (hb hby at_19)
    have Vn89 := Arv.set Ar88 q88 Sz88 Nn88 Hh88 Gg88 (fits_nar_char _) W89 (0) rfl (Nat.le_of_ble_eq_true rfl)
    have N89 := Fr.snoc X89 N0 g_b86
    have Vm89 : Arv Z h89 b86 k86 .char (3 : Int32) [(.int x0), (.int (0 : Int32)), (.int (0 : Int32))] (.int (0 : Int32)) := by have hh := Vn89; rw [nx0] at hh; exact hh
    have SfA89 := (Safe.arv (EL := EL) hZ.alike V_b86 (by decide))
    replace hk := Nat.le_trans hk (Keep.of_wr W89).1
    replace hC := hC.trans (CHr.wr W89 SfA89 hC.1)
    replace O0 := O0.wr W89 g_b86
    replace KC := KC.wr W89 (Or.inr sz_b86)
    obtain ⟨x1, ex1, hx1, nx1, hv1⟩ := own_x p3
    have pre90 : ∀ t, Steps p.tables e below (T89.setTop (mkF m 29 #[vi p1, vi p2, vi p3, vi p4, vi p5, vi (3 : Int32), vr b86, un, un] [(.int ((p3 &&& (255 : Int32)).toUInt32.toUInt16.toUInt32.toInt32)), (.int (1 : Int32)), (.ref b86)])) t → Steps p.tables e below (s₁.setTop (entryFrame m #[(.int p1), (.int p2), (.int p3), (.int p4), (.int p5)] maxLocals)) t := by
      intro t kt
      refine pre87 t ?_
      show SS p e below m T86 19 #[vi p1, vi p2, vi p3, vi p4, vi p5, vi (3 : Int32), vr b86, un, un] [(.int x0), (.int (0 : Int32)), (.ref b86)] _
      refine st89 _ ?_
      show SS p e below m T89 20 #[vi p1, vi p2, vi p3, vi p4, vi p5, vi (3 : Int32), vr b86, un, un] [] _
      refine XS.aload X89.here hx rfl (hb hby at_20) rfl rfl ?_
      show SS p e below m T89 22 #[vi p1, vi p2, vi p3, vi p4, vi p5, vi (3 : Int32), vr b86, un, un] [(.ref b86)] _
      refine XS.iconst X89.here hx rfl (hb hby at_22) ?_
      show SS p e below m T89 23 #[vi p1, vi p2, vi p3, vi p4, vi p5, vi (3 : Int32), vr b86, un, un] [(.int (1 : Int32)), (.ref b86)] _
      refine XS.iloadN X89.here hx rfl (hb hby at_23) rfl ?_
      show SS p e below m T89 24 #[vi p1, vi p2, vi p3, vi p4, vi p5, vi (3 : Int32), vr b86, un, un] [(.int p3), (.int (1 : Int32)), (.ref b86)] _
      refine XS.sipush X89.here hx rfl (hb hby at_24) ?_
      show SS p e below m T89 27 #[vi p1, vi p2, vi p3, vi p4, vi p5, vi (3 : Int32), vr b86, un, un] [(.int (255 : Int32)), (.int p3), (.int (1 : Int32)), (.ref b86)] _
      refine XS.iand X89.here hx rfl (hb hby at_27) rfl ?_
      show SS p e below m T89 28 #[vi p1, vi p2, vi p3, vi p4, vi p5, vi (3 : Int32), vr b86, un, un] [(.int (p3 &&& (255 : Int32))), (.int (1 : Int32)), (.ref b86)] _
      refine XS.i2c X89.here hx rfl (hb hby at_28) rfl ?_
      exact kt
    rw [ex1] at pre90
    have Vo91 := Vm89
    obtain ⟨cl91, Ar91, q91, Sz91, Nn91, Hh91, Gg91⟩ := Vo91
    have hin91 : ¬ ((1 : Int32) < 0 ∨ cl91.slots.size ≤ ((1 : Int32)).toNatClampNeg) := inb_of Sz91 ⟨by decide, by decide⟩
    obtain ⟨T92, h92, X92, e92, W92, st92⟩ := stC X89 hx hZ e89 Ar91 (j := (1 : Int32)) hin91 (g := (mkF m 29 #[vi p1, vi p2, vi p3, vi p4, vi p5, vi (3 : Int32), vr b86, un, un] [(.int x1), (.int (1 : Int32)), (.ref b86)])) rfl rfl (hb hby at_29)
    have Vn92 := Arv.set Ar91 q91 Sz91 Nn91 Hh91 Gg91 (fits_nar_char _) W92 (1) rfl (Nat.le_of_ble_eq_true rfl)
    have N92 := Fr.snoc X92 N89 g_b86
    have Vm92 : Arv Z h92 b86 k86 .char (3 : Int32) [(.int x0), (.int x1), (.int (0 : Int32))] (.int (0 : Int32)) := by have hh := Vn92; rw [nx1] at hh; exact hh
    have SfA92 := (Safe.arv (EL := EL) hZ.alike Vm89 (by decide))
    replace hk := Nat.le_trans hk (Keep.of_wr W92).1
    replace hC := hC.trans (CHr.wr W92 SfA92 hC.1)
    replace O0 := O0.wr W92 g_b86
    replace KC := KC.wr W92 (Or.inr sz_b86)
    obtain ⟨x2, ex2, hx2, nx2, hv2⟩ := own_x p4
    have pre93 : ∀ t, Steps p.tables e below (T92.setTop (mkF m 39 #[vi p1, vi p2, vi p3, vi p4, vi p5, vi (3 : Int32), vr b86, un, un] [(.int ((p4 &&& (255 : Int32)).toUInt32.toUInt16.toUInt32.toInt32)), (.int (2 : Int32)), (.ref b86)])) t → Steps p.tables e below (s₁.setTop (entryFrame m #[(.int p1), (.int p2), (.int p3), (.int p4), (.int p5)] maxLocals)) t := by
      intro t kt
      refine pre90 t ?_
      show SS p e below m T89 29 #[vi p1, vi p2, vi p3, vi p4, vi p5, vi (3 : Int32), vr b86, un, un] [(.int x1), (.int (1 : Int32)), (.ref b86)] _
      refine st92 _ ?_
      show SS p e below m T92 30 #[vi p1, vi p2, vi p3, vi p4, vi p5, vi (3 : Int32), vr b86, un, un] [] _
      refine XS.aload X92.here hx rfl (hb hby at_30) rfl rfl ?_
      show SS p e below m T92 32 #[vi p1, vi p2, vi p3, vi p4, vi p5, vi (3 : Int32), vr b86, un, un] [(.ref b86)] _
      refine XS.iconst X92.here hx rfl (hb hby at_32) ?_
      show SS p e below m T92 33 #[vi p1, vi p2, vi p3, vi p4, vi p5, vi (3 : Int32), vr b86, un, un] [(.int (2 : Int32)), (.ref b86)] _
      refine XS.iloadN X92.here hx rfl (hb hby at_33) rfl ?_
      show SS p e below m T92 34 #[vi p1, vi p2, vi p3, vi p4, vi p5, vi (3 : Int32), vr b86, un, un] [(.int p4), (.int (2 : Int32)), (.ref b86)] _
      refine XS.sipush X92.here hx rfl (hb hby at_34) ?_
      show SS p e below m T92 37 #[vi p1, vi p2, vi p3, vi p4, vi p5, vi (3 : Int32), vr b86, un, un] [(.int (255 : Int32)), (.int p4), (.int (2 : Int32)), (.ref b86)] _
      refine XS.iand X92.here hx rfl (hb hby at_37) rfl ?_
      show SS p e below m T92 38 #[vi p1, vi p2, vi p3, vi p4, vi p5, vi (3 : Int32), vr b86, un, un] [(.int (p4 &&& (255 : Int32))), (.int (2 : Int32)), (.ref b86)] _
      refine XS.i2c X92.here hx rfl (hb hby at_38) rfl ?_
      exact kt
    rw [ex2] at pre93
    have Vo94 := Vm92
    obtain ⟨cl94, Ar94, q94, Sz94, Nn94, Hh94, Gg94⟩ := Vo94
    have hin94 : ¬ ((2 : Int32) < 0 ∨ cl94.slots.size ≤ ((2 : Int32)).toNatClampNeg) := inb_of Sz94 ⟨by decide, by decide⟩
    obtain ⟨T95, h95, X95, e95, W95, st95⟩ := stC X92 hx hZ e92 Ar94 (j := (2 : Int32)) hin94 (g := (mkF m 39 #[vi p1, vi p2, vi p3, vi p4, vi p5, vi (3 : Int32), vr b86, un, un] [(.int x2), (.int (2 : Int32)), (.ref b86)])) rfl rfl (hb hby at_39)
    have Vn95 := Arv.set Ar94 q94 Sz94 Nn94 Hh94 Gg94 (fits_nar_char _) W95 (2) rfl (Nat.le_of_ble_eq_true rfl)
    have N95 := Fr.snoc X95 N92 g_b86
    have Vm95 : Arv Z h95 b86 k86 .char (3 : Int32) [(.int x0), (.int x1), (.int x2)] (.int (0 : Int32)) := by have hh := Vn95; rw [nx2] at hh; exact hh
    have SfA95 := (Safe.arv (EL := EL) hZ.alike Vm92 (by decide))
    replace hk := Nat.le_trans hk (Keep.of_wr W95).1
    replace hC := hC.trans (CHr.wr W95 SfA95 hC.1)
    replace O0 := O0.wr W95 g_b86
    replace KC := KC.wr W95 (Or.inr sz_b86)
    obtain ⟨_, _, ⟨T96, L96, kz96, nz96⟩, -, X96, ⟨Lc96, hQ96, l96, y96, z96⟩, st96⟩ := Jvm.LawKit.callS X95 hx (y := y_42) hown (mvT hZ (ww hw 217 rfl)) (mvT hZ (ww hw 218 rfl)) (mvT hZ (ww hw 177 rfl)) (mvT hZ (ww hw 219 rfl)) (by decide) (backOf (W := 2) (rm_ns l Z a0 hw [] p5 h95 n0 (Nat.le_trans Z0 KC.1) O0 ) hZ (ww hw 219 rfl) (ww hw 177 rfl) (by decide) (by decide)) (g := (mkF m 53 #[vi p1, vi p2, vi p3, vi p4, vi p5, vi (3 : Int32), vr b86, un, un] [(.int p5), (.int (2 : Int32)), (.ref b86)])) rfl (by rw [hml]; rfl) (argsL := [(.int p5)]) (rest := [(.int (2 : Int32)), (.ref b86)]) (lenOf pd_22 rfl) rfl (by show 2 * 0 + _ ≤ _; exact Nat.le_of_eq rfl) (hb hby at_53) (fun _ _ => ⟨rfl, e95, (by decide : 1 + 0 ≤ _), (by decide : 3 + 0 ≤ _)⟩)
    dsimp only [Pt.U, Pt.locs, Pt.cells, Pt.slots] at X96 l96 y96 z96 st96 hQ96
    subst l96 y96 z96
    obtain ⟨y0_96, rfl, N96q, e96, hq96_0, hq96_1, hq96_2, hq96_3⟩ := hQ96
    have N96 := Fr.app N95 N96q
    have Vo97 := Vm95
    obtain ⟨cl97, Ar97, q97, Sz97, Nn97, Hh97, Gg97⟩ := Vo97
    have hin97 : ¬ ((2 : Int32) < 0 ∨ cl97.slots.size ≤ ((2 : Int32)).toNatClampNeg) := inb_of Sz97 ⟨by decide, by decide⟩
    obtain ⟨T98, h98, X98, e98, W98, st98⟩ := stC X96 hx hZ e96 Ar97 (j := (2 : Int32)) hin97 (g := (mkF m 56 #[vi p1, vi p2, vi p3, vi p4, vi p5, vi (3 : Int32), vr b86, un, un] [(.int y0_96), (.int (2 : Int32)), (.ref b86)])) rfl rfl (hb hby at_56)
    have Vn98 := Arv.set Ar97 q97 Sz97 Nn97 Hh97 Gg97 (fits_nar_char _) W98 (2) rfl (Nat.le_of_ble_eq_true rfl)
    have N98 := Fr.snoc X98 N96 g_b86
    have Vm98 : Arv Z h98 b86 k86 .char (3 : Int32) [(.int x0), (.int x1), (.int y0_96)] (.int (0 : Int32)) := by have hh := Vn98; rw [hq96_1] at hh; exact hh
    have SfA98 := (Safe.arv (EL := EL) hZ.alike Vm95 (by decide))
    replace hk := Nat.le_trans hk (Keep.of_wr W98).1
    replace hC := hC.trans (CHr.wr W98 SfA98 hC.1)
    replace O0 := O0.wr W98 g_b86
    replace KC := KC.wr W98 (Or.inr sz_b86)
    obtain ⟨T99, h99, X99, e99, E99, A99, D99, -, st99⟩ := newO X98 hx hZ hown (ww hw 1 rfl) (ww hw 2 rfl) (ww hw 3 rfl) e98 (g := (mkF m 140 #[vi p1, vi p2, vi p3, vi p4, vi p5, vi (3 : Int32), vr b86, un, un] [])) rfl (hb hby at_140) (by decide) (by decide)
    obtain ⟨b99, g99⟩ : ∃ z, z = h98.size := ⟨_, rfl⟩
    rw [← g99] at A99 D99 st99
    have ne_b86_b99 : b86 ≠ b99 := Nat.ne_of_lt (Nat.lt_of_lt_of_le Vm98.lt (Nat.le_of_eq g99.symm))
    have g_b99 : n0 ≤ b99 := Nat.le_trans (Nat.le_trans Z0 KC.1) (Nat.le_of_eq g99.symm)
    have sz_b99 : h0.size ≤ b99 := Nat.le_trans KC.1 (Nat.le_of_eq g99.symm)
    replace hk := Nat.le_trans hk E99.1
    replace hC := hC.trans (CHr.ext E99 hC.1)
    replace Vm98 := Vm98.ext E99
    replace O0 := O0.ext E99
    replace KC := KC.ext E99
    have F_value_b99 : Fld Z h99 b99 "java/lang/String" "value" "[B" .null := D99 (Or.inr (ww hw 16 rfl)) (ty := (.array .byte)) (by decide)
    have F_coder_b99 : Fld Z h99 b99 "java/lang/String" "coder" "B" (.int (0 : Int32)) := D99 (Or.inr (ww hw 17 rfl)) (ty := .byte) (by decide)
    obtain ⟨T100, h100, k100, X100, e100, E100, A100, st100⟩ := newP X99 hx hZ (ww hw 0 rfl) e99 (g := (mkF m 145 #[vi p1, vi p2, vi p3, vi p4, vi p5, vi (3 : Int32), vr b86, un, un] [(.int (3 : Int32)), (.ref b99), (.ref b99)])) rfl (hb hby at_145) rfl (by decide) (cap := 3) (by decide) (by decide) (by decide) (by decide)
    obtain ⟨b100, g100⟩ : ∃ z, z = h99.size := ⟨_, rfl⟩
    rw [← g100] at A100 st100
    have ne_b86_b100 : b86 ≠ b100 := Nat.ne_of_lt (Nat.lt_of_lt_of_le Vm98.lt (Nat.le_of_eq g100.symm))
    have ne_b99_b100 : b99 ≠ b100 := Nat.ne_of_lt (Nat.lt_of_lt_of_le A99.lt (Nat.le_of_eq g100.symm))
    have g_b100 : n0 ≤ b100 := Nat.le_trans (Nat.le_trans Z0 KC.1) (Nat.le_of_eq g100.symm)
    have sz_b100 : h0.size ≤ b100 := Nat.le_trans KC.1 (Nat.le_of_eq g100.symm)
    replace hk := Nat.le_trans hk E100.1
    replace hC := hC.trans (CHr.ext E100 hC.1)
    replace Vm98 := Vm98.ext E100
    replace A99 := A99.ext E100
    replace F_value_b99 := F_value_b99.ext E100
    replace F_coder_b99 := F_coder_b99.ext E100
    replace O0 := O0.ext E100
    replace KC := KC.ext E100
    have V_b100 : Arv Z h100 b100 k100 .char (3 : Int32) [(.int (0 : Int32)), (.int (0 : Int32)), (.int (0 : Int32))] (.int (0 : Int32)) := (Arv.new A100 (by decide)).pad (pad_rep [] (.int (0 : Int32)) 3)
    have Vo101 := Vm98
    obtain ⟨cl101, Ar101, q101, Sz101, Nn101, Hh101, Gg101⟩ := Vo101
    have hin101 : ¬ ((0 : Int32) < 0 ∨ cl101.slots.size ≤ ((0 : Int32)).toNatClampNeg) := inb_of Sz101 ⟨by decide, by decide⟩
    have hat101 : cl101.slots[((0 : Int32)).toNatClampNeg]? = some (.int x0) := Has.at Hh101 hin101 rfl
    have ia101 := State.isArrayOf_alike hZ.alike Ar101.2.1
    have Vo102 := V_b100
    obtain ⟨cl102, Ar102, q102, Sz102, Nn102, Hh102, Gg102⟩ := Vo102
    have hin102 : ¬ ((0 : Int32) < 0 ∨ cl102.slots.size ≤ ((0 : Int32)).toNatClampNeg) := inb_of Sz102 ⟨by decide, by decide⟩
    obtain ⟨T103, h103, X103, e103, W103, st103⟩ := stC X100 hx hZ e100 Ar102 (j := (0 : Int32)) hin102 (g := (mkF m 153 #[vi p1, vi p2, vi p3, vi p4, vi p5, vi (3 : Int32), vr b86, un, un] [(.int x0), (.int (0 : Int32)), (.ref b100), (.ref b100), (.ref b99), (.ref b99)])) rfl rfl (hb hby at_153)
    have Vn103 := Arv.set Ar102 q102 Sz102 Nn102 Hh102 Gg102 (fits_nar_char _) W103 (0) rfl (Nat.le_of_ble_eq_true rfl)
    have N103 := Fr.snoc X103 N98 g_b100
    have Vm103 : Arv Z h103 b100 k100 .char (3 : Int32) [(.int x0), (.int (0 : Int32)), (.int (0 : Int32))] (.int (0 : Int32)) := by have hh := Vn103; rw [nx0] at hh; exact hh
    have SfA103 := (Safe.arv (EL := EL) hZ.alike V_b100 (by decide))
    replace hk := Nat.le_trans hk (Keep.of_wr W103).1
    replace hC := hC.trans (CHr.wr W103 SfA103 hC.1)
    replace Vm98 := Vm98.other W103 ne_b86_b100
    replace A99 := A99.wr W103
    replace F_value_b99 := F_value_b99.other W103 (Or.inl ne_b99_b100)
    replace F_coder_b99 := F_coder_b99.other W103 (Or.inl ne_b99_b100)
    replace O0 := O0.wr W103 g_b100
    replace KC := KC.wr W103 (Or.inr sz_b100)
    have Vo104 := Vm98
    obtain ⟨cl104, Ar104, q104, Sz104, Nn104, Hh104, Gg104⟩ := Vo104
    have hin104 : ¬ ((1 : Int32) < 0 ∨ cl104.slots.size ≤ ((1 : Int32)).toNatClampNeg) := inb_of Sz104 ⟨by decide, by decide⟩
    have hat104 : cl104.slots[((1 : Int32)).toNatClampNeg]? = some (.int x1) := Has.at Hh104 hin104 rfl
    have ia104 := State.isArrayOf_alike hZ.alike Ar104.2.1
    have Vo105 := Vm103
    obtain ⟨cl105, Ar105, q105, Sz105, Nn105, Hh105, Gg105⟩ := Vo105
    have hin105 : ¬ ((1 : Int32) < 0 ∨ cl105.slots.size ≤ ((1 : Int32)).toNatClampNeg) := inb_of Sz105 ⟨by decide, by decide⟩
    obtain ⟨T106, h106, X106, e106, W106, st106⟩ := stC X103 hx hZ e103 Ar105 (j := (1 : Int32)) hin105 (g := (mkF m 160 #[vi p1, vi p2, vi p3, vi p4, vi p5, vi (3 : Int32), vr b86, un, un] [(.int x1), (.int (1 : Int32)), (.ref b100), (.ref b100), (.ref b99), (.ref b99)])) rfl rfl (hb hby at_160)
    have Vn106 := Arv.set Ar105 q105 Sz105 Nn105 Hh105 Gg105 (fits_nar_char _) W106 (1) rfl (Nat.le_of_ble_eq_true rfl)
    have N106 := Fr.snoc X106 N103 g_b100
    have Vm106 : Arv Z h106 b100 k100 .char (3 : Int32) [(.int x0), (.int x1), (.int (0 : Int32))] (.int (0 : Int32)) := by have hh := Vn106; rw [nx1] at hh; exact hh
    have SfA106 := (Safe.arv (EL := EL) hZ.alike Vm103 (by decide))
    replace hk := Nat.le_trans hk (Keep.of_wr W106).1
    replace hC := hC.trans (CHr.wr W106 SfA106 hC.1)
    replace Vm98 := Vm98.other W106 ne_b86_b100
    replace A99 := A99.wr W106
    replace F_value_b99 := F_value_b99.other W106 (Or.inl ne_b99_b100)
    replace F_coder_b99 := F_coder_b99.other W106 (Or.inl ne_b99_b100)
    replace O0 := O0.wr W106 g_b100
    replace KC := KC.wr W106 (Or.inr sz_b100)
    have Vo107 := Vm98
    obtain ⟨cl107, Ar107, q107, Sz107, Nn107, Hh107, Gg107⟩ := Vo107
    have hin107 : ¬ ((2 : Int32) < 0 ∨ cl107.slots.size ≤ ((2 : Int32)).toNatClampNeg) := inb_of Sz107 ⟨by decide, by decide⟩
    have hat107 : cl107.slots[((2 : Int32)).toNatClampNeg]? = some (.int y0_96) := Has.at Hh107 hin107 rfl
    have ia107 := State.isArrayOf_alike hZ.alike Ar107.2.1
    have Vo108 := Vm106
    obtain ⟨cl108, Ar108, q108, Sz108, Nn108, Hh108, Gg108⟩ := Vo108
    have hin108 : ¬ ((2 : Int32) < 0 ∨ cl108.slots.size ≤ ((2 : Int32)).toNatClampNeg) := inb_of Sz108 ⟨by decide, by decide⟩
    obtain ⟨T109, h109, X109, e109, W109, st109⟩ := stC X106 hx hZ e106 Ar108 (j := (2 : Int32)) hin108 (g := (mkF m 167 #[vi p1, vi p2, vi p3, vi p4, vi p5, vi (3 : Int32), vr b86, un, un] [(.int y0_96), (.int (2 : Int32)), (.ref b100), (.ref b100), (.ref b99), (.ref b99)])) rfl rfl (hb hby at_167)
    have Vn109 := Arv.set Ar108 q108 Sz108 Nn108 Hh108 Gg108 (fits_nar_char _) W109 (2) rfl (Nat.le_of_ble_eq_true rfl)
    have N109 := Fr.snoc X109 N106 g_b100
    have Vm109 : Arv Z h109 b100 k100 .char (3 : Int32) [(.int x0), (.int x1), (.int y0_96)] (.int (0 : Int32)) := by have hh := Vn109; rw [hq96_1] at hh; exact hh
    have SfA109 := (Safe.arv (EL := EL) hZ.alike Vm106 (by decide))
    replace hk := Nat.le_trans hk (Keep.of_wr W109).1
    replace hC := hC.trans (CHr.wr W109 SfA109 hC.1)
    replace Vm98 := Vm98.other W109 ne_b86_b100
    replace A99 := A99.wr W109
    replace F_value_b99 := F_value_b99.other W109 (Or.inl ne_b99_b100)
    replace F_coder_b99 := F_coder_b99.other W109 (Or.inl ne_b99_b100)
    replace O0 := O0.wr W109 g_b100
    replace KC := KC.wr W109 (Or.inr sz_b100)
    obtain ⟨_, _, ⟨T110, L110, kz110, nz110⟩, -, X110, ⟨Lc110, hQ110, l110, y110, z110⟩, st110⟩ := X109.specialBack hx (y := y_28) rfl hown (mvT hZ (ww hw 4 rfl)) (mvT hZ (ww hw 5 rfl)) (mvT hZ (ww hw 6 rfl)) (by decide) (backOf (W := 1) (rm_i13 l Z a0 hw [] b99 b100 k100 x0 x1 y0_96 zc h109 n0 (Nat.le_trans Z0 KC.1) O0 F_value_b99 F_coder_b99 A99 g_b99 Vm109 S_CS hz hx0 hx1 hq96_0) hZ (ww hw 6 rfl) (ww hw 3 rfl) (by decide) (by decide)) (g := (mkF m 168 #[vi p1, vi p2, vi p3, vi p4, vi p5, vi (3 : Int32), vr b86, un, un] [(.ref b100), (.ref b99), (.ref b99)])) rfl (by rw [hml]; rfl) (Steps.refl _) (a := b99) (argsL := [(.ref b100)]) (rest := [(.ref b99)]) (lenOf pd_29 rfl) rfl (by show 2 * 0 + _ ≤ _; exact Nat.le_of_eq rfl) (hb hby at_168) (fun _ _ => ⟨rfl, e109, (by decide : 3 + 1 ≤ _), (by decide : 10 + 3 ≤ _)⟩)
    dsimp only [Pt.U, Pt.locs, Pt.cells, Pt.slots] at X110 l110 y110 z110 st110 hQ110
    subst l110 y110 z110
    obtain ⟨b110_tz, kb_110, rfl, N110q, K110, sz_b110_tz, F_value_a1_110, F_coder_a1_110, V_tz_110⟩ := hQ110
    have N110 := Fr.app N109 N110q
    have Sf_b110_tz : Safe Z EL s.vm h109 b110_tz := Safe.new sz_b110_tz
    have ne_b86_b110_tz : b86 ≠ b110_tz := Nat.ne_of_lt (Nat.lt_of_lt_of_le Vm98.lt sz_b110_tz)
    have ne_b99_b110_tz : b99 ≠ b110_tz := Nat.ne_of_lt (Nat.lt_of_lt_of_le A99.lt sz_b110_tz)
    have ne_b100_b110_tz : b100 ≠ b110_tz := Nat.ne_of_lt (Nat.lt_of_lt_of_le Vm109.lt sz_b110_tz)
    have g_b110_tz : n0 ≤ b110_tz := Nat.le_trans (Nat.le_trans Z0 KC.1) sz_b110_tz
    replace sz_b110_tz : h0.size ≤ b110_tz := Nat.le_trans KC.1 sz_b110_tz
    have hsf110 := (sfS (own_safe (EL := EL) hZ.alike A99 F_value_b99) sf0)
    replace Sf_b110_tz := Safe.keep K110 hsf110 hC.1 Sf_b110_tz
    replace hk := Nat.le_trans hk K110.1
    replace hC := hC.trans (CHr.keep K110 hsf110 hC.1)
    replace Vm98 := Vm98.keep K110 (ninS ne_b86_b99 nin0)
    replace A99 := A99.keep K110
    replace Vm109 := Vm109.keep K110 (ninS (Ne.symm ne_b99_b100) nin0)
    replace O0 := O0.keep K110 (allS g_b99 all0)
    replace KC := KC.trans K110 (allS (Or.inr sz_b99) all0)
    obtain ⟨_, _, ⟨T111, L111, kz111, nz111⟩, -, X111, hS111, gr111, ⟨Lc111, hQ111, l111, y111, z111, C111⟩, st111⟩ := callSS X110 hx (y := y_41) hown (mvT hZ (ww hw 22 rfl)) (mvT hZ (ww hw 23 rfl)) (mvT hZ (ww hw 24 rfl)) (mvT hZ (ww hw 25 rfl)) (by decide) (backOfSH (W := 0) (rm_und l Z a0 hw [] b99 b110_tz kb_110 (3 : Int32) [(.int (own_b x0)), (.int (own_b x1)), (.int (own_b y0_96))] [(.int (own_b x0)), (.int (own_b x1)), (.int (own_b y0_96)), nO, nO, nO, nO, nO, nO, nO, nO, nO, nO, nO, nO, nO] [(.int (own_b x0)), (.int (own_b x1)), (.int (own_b y0_96)), (.int (47 : Int32)), (.int (115 : Int32)), (.int (112 : Int32)), nO, nO, nO, nO, nO, nO, nO, nO, nO, nO] (6 : Int32) [(.int (own_b x0)), (.int (own_b x1)), (.int (own_b y0_96)), (.int (47 : Int32)), (.int (115 : Int32)), (.int (112 : Int32)), nO, nO, nO, nO, nO, nO, nO, nO, nO, nO] [(.int (own_b x0)), (.int (own_b x1)), (.int (own_b y0_96)), (.int (47 : Int32)), (.int (115 : Int32)), (.int (112 : Int32)), (.int (47 : Int32)), (.int (109 : Int32)), (.int (101 : Int32)), (.int (116 : Int32)), (.int (97 : Int32)), (.int (100 : Int32)), (.int (97 : Int32)), (.int (116 : Int32)), (.int (97 : Int32)), nO] (15 : Int32) [(.int (own_b x0)), (.int (own_b x1)), (.int (own_b y0_96)), (.int (47 : Int32)), (.int (115 : Int32)), (.int (112 : Int32)), (.int (47 : Int32)), (.int (109 : Int32)), (.int (101 : Int32)), (.int (116 : Int32)), (.int (97 : Int32)), (.int (100 : Int32)), (.int (97 : Int32)), (.int (116 : Int32)), (.int (97 : Int32)), nO] [(.int (own_b x0)), (.int (own_b x1)), (.int (own_b y0_96)), (.int (47 : Int32)), (.int (115 : Int32)), (.int (112 : Int32)), (.int (47 : Int32)), (.int (97 : Int32)), (.int (99 : Int32)), (.int (115 : Int32)), nO, nO, nO, nO, nO, nO] (10 : Int32) [(.int (own_b x0)), (.int (own_b x1)), (.int (own_b y0_96)), (.int (47 : Int32)), (.int (115 : Int32)), (.int (112 : Int32)), (.int (47 : Int32)), (.int (97 : Int32)), (.int (99 : Int32)), (.int (115 : Int32)), nO, nO, nO, nO, nO, nO] zc T110.heap n0 (Nat.le_trans Z0 KC.1) O0 A99 F_value_a1_110 F_coder_a1_110 V_tz_110 S_CS hz (Or.inr (Or.inr (Or.inr ⟨rfl, _, rfl, hq96_2⟩))) (by decide) (by decide) rfl (by decide) (by decide) (Nat.le_of_ble_eq_true rfl) rfl (by decide) (by decide) (by decide) (by decide) (by decide) rfl (by decide) (Nat.le_of_ble_eq_true rfl) rfl (by decide) (by decide) (by decide) (by decide) (by decide) rfl (by decide) (Nat.le_of_ble_eq_true rfl) rfl (by decide) (by decide) (by decide) (by decide) (by decide) rfl) hZ (ww hw 25 rfl) (ww hw 24 rfl) (by decide) (by decide) hEL hC.1) (g := (mkF m 175 #[vi p1, vi p2, vi p3, vi p4, vi p5, vi (3 : Int32), vr b86, vr b99, un] [(.ref b99)])) rfl (by rw [hml]; rfl) (argsL := [(.ref b99)]) (rest := []) (lenOf pd_30 rfl) rfl (by show 2 * 0 + _ ≤ _; exact Nat.le_of_eq rfl) (hb hby at_175) (fun _ _ => ⟨rfl, rfl, (by decide : 4 + 21 ≤ _), (by decide : 13 + 231 ≤ _)⟩)
    dsimp only [Pt.U, Pt.locs, Pt.cells, Pt.slots] at X111 l111 y111 z111 st111 hQ111 hS111 gr111 C111
    subst l111 y111 z111
    replace Sf_b110_tz := C111.safe V_tz_110.lt Sf_b110_tz
    obtain ⟨Xr111, hSr111, hZr111, hownr111⟩ := rebS hS hk X111 hS111 gr111 hZ hown
    replace hC := hC.trans C111
    replace hZ := hZr111
    replace hown := hownr111
    replace hS := hSr111
    replace hk : T111.heap.size ≤ T111.heap.size := Nat.le_refl _
    replace X111 := Xr111
    obtain ⟨b111_e0, sA_111, tA_111, kA_111, sB_111, tB_111, kB_111, sC_111, tC_111, kC_111, rfl, N111q, K111, sz_b111_e0, E_e0_111, F_entityId_e0_111, F_metadata_e0_111, F_assertionConsumer_e0_111, E_sA_111, F_value_sA_111, F_coder_sA_111, V_tA_111, E_sB_111, F_value_sB_111, F_coder_sB_111, V_tB_111, E_sC_111, F_value_sC_111, F_coder_sC_111, V_tC_111⟩ := hQ111
    have N111 := Fr.app N110 N111q
    have ne_b86_b111_e0 : b86 ≠ b111_e0 := Nat.ne_of_lt (Nat.lt_of_lt_of_le Vm98.lt sz_b111_e0)
    have ne_b99_b111_e0 : b99 ≠ b111_e0 := Nat.ne_of_lt (Nat.lt_of_lt_of_le A99.lt sz_b111_e0)
    have ne_b110_tz_b111_e0 : b110_tz ≠ b111_e0 := Nat.ne_of_lt (Nat.lt_of_lt_of_le V_tz_110.lt sz_b111_e0)
    have g_b111_e0 : n0 ≤ b111_e0 := Nat.le_trans (Nat.le_trans Z0 KC.1) sz_b111_e0
    replace sz_b111_e0 : h0.size ≤ b111_e0 := Nat.le_trans KC.1 sz_b111_e0
    replace Vm98 := Vm98.keep K111 nin0
    replace A99 := A99.keep K111
    replace F_value_a1_110 := F_value_a1_110.keep K111 nin0
    replace F_coder_a1_110 := F_coder_a1_110.keep K111 nin0
    replace V_tz_110 := V_tz_110.keep K111 nin0
    replace O0 := O0.keep K111 all0
    replace KC := KC.trans K111 all0
    obtain ⟨cq112, kq112, q112a, q112b, q112c⟩ := isOf hZ rfl E_e0_111
    obtain ⟨_, _, ⟨T112, L112, kz112, nz112⟩, -, X112, ⟨Lc112, hQ112, l112, y112, z112⟩, st112⟩ := X111.virtualBack hx (y := y_38) (z := y_38) hown (mvT hZ (ww hw 169 rfl)) (mvT hZ (ww hw 170 rfl)) (notFace_of_selects (args := #[]) (mvT hZ (ww hw 172 rfl))) (mvT hZ (ww hw 172 rfl)) (mvT hZ (ww hw 171 rfl)) (by decide) (backOf (W := 0) (rm_get_entityId l Z a0 hw [] b111_e0 sA_111 T111.heap n0 (Nat.le_trans Z0 KC.1) O0 F_entityId_e0_111) hZ (ww hw 173 rfl) (ww hw 24 rfl) (by decide) (by decide)) q112a q112c (g := (mkF m 182 #[vi p1, vi p2, vi p3, vi p4, vi p5, vi (3 : Int32), vr b86, vr b99, vr b111_e0] [(.ref b111_e0)])) rfl (by rw [hml]; rfl) (Steps.refl _) (argsL := []) (rest := []) (lenOf pd_27 rfl) rfl (by show 2 * 0 + _ ≤ _; exact Nat.le_of_eq rfl) (hb hby at_182) (fun _ _ => ⟨rfl, rfl, (by decide : 25 + 0 ≤ _), (by decide : 244 + 0 ≤ _)⟩)
    dsimp only [Pt.U, Pt.locs, Pt.cells, Pt.slots] at X112 l112 y112 z112 st112 hQ112
    subst l112 y112 z112
    obtain ⟨rfl, N112q, e112⟩ := hQ112
    have N112 := Fr.app N111 N112q
    obtain ⟨sa113, T113, h113, kx113, sb113, kc113, X113, e113, E113, hS113, hk113, hZ113, hown113, Ex113, Fc113, Fv113, Vv113, -, -, C113, -, nx113, st113⟩ := ldcCH X112 hx hZ hown (ww hw 174 rfl) wS e112 hS hk hEL (by decide) hC.1 (vs := [(.int (47 : Int32)), (.int (115 : Int32)), (.int (112 : Int32))]) (z := (3 : Int32)) ⟨by decide, by first | rfl | decide⟩ (by decide) (by first | rfl | decide) (g := (mkF m 189 #[vi p1, vi p2, vi p3, vi p4, vi p5, vi (3 : Int32), vr b86, vr b99, vr b111_e0] [(.int (3 : Int32)), (.ref b86), (.ref sA_111)])) rfl (hb hby at_189) (n := 12) (by decide) (by decide) (by decide) (by decide)
    replace Sf_b110_tz := C113.safe V_tz_110.lt Sf_b110_tz
    replace Vm98 := Vm98.ext E113
    replace A99 := A99.ext E113
    replace F_value_a1_110 := F_value_a1_110.ext E113
    replace F_coder_a1_110 := F_coder_a1_110.ext E113
    replace V_tz_110 := V_tz_110.ext E113
    replace E_e0_111 := E_e0_111.ext E113
    replace F_entityId_e0_111 := F_entityId_e0_111.ext E113
    replace F_metadata_e0_111 := F_metadata_e0_111.ext E113
    replace F_assertionConsumer_e0_111 := F_assertionConsumer_e0_111.ext E113
    replace E_sA_111 := E_sA_111.ext E113
    replace F_value_sA_111 := F_value_sA_111.ext E113
    replace F_coder_sA_111 := F_coder_sA_111.ext E113
    replace V_tA_111 := V_tA_111.ext E113
    replace E_sB_111 := E_sB_111.ext E113
    replace F_value_sB_111 := F_value_sB_111.ext E113
    replace F_coder_sB_111 := F_coder_sB_111.ext E113
    replace V_tB_111 := V_tB_111.ext E113
    replace E_sC_111 := E_sC_111.ext E113
    replace F_value_sC_111 := F_value_sC_111.ext E113
    replace F_coder_sC_111 := F_coder_sC_111.ext E113
    replace V_tC_111 := V_tC_111.ext E113
    replace O0 := O0.ext E113
    replace KC := KC.ext E113
    replace hC := hC.trans C113
    replace hZ := hZ113
    replace hown := hown113
    replace hS := hS113
    replace hk := hk113
    have nx113_b110_tz := nx113 _ Sf_b110_tz
    obtain ⟨_, _, ⟨T114, L114, kz114, nz114⟩, -, X114, ⟨Lc114, hQ114, l114, y114, z114⟩, st114⟩ := Jvm.LawKit.callS X113 hx (y := y_36) hown (mvT hZ (ww hw 175 rfl)) (mvT hZ (ww hw 176 rfl)) (mvT hZ (ww hw 177 rfl)) (mvT hZ (ww hw 178 rfl)) (by decide) (backOf (W := 0) (rm_mat l Z a0 hw [] sA_111 b86 (3 : Int32) sa113 tA_111 kA_111 (6 : Int32) [(.int (own_b x0)), (.int (own_b x1)), (.int (own_b y0_96)), (.int (47 : Int32)), (.int (115 : Int32)), (.int (112 : Int32)), nO, nO, nO, nO, nO, nO, nO, nO, nO, nO] k86 (3 : Int32) [(.int x0), (.int x1), (.int y0_96)] sb113 kc113 (3 : Int32) [(.int (47 : Int32)), (.int (115 : Int32)), (.int (112 : Int32))] zc fm h113 n0 (Nat.le_trans Z0 KC.1) O0 E_sA_111 F_value_sA_111 F_coder_sA_111 V_tA_111 Vm98 Ex113 Fv113 Fc113 Vv113 S_CS hz S_FM hW_fm (by decide) (fun kk q0 q1 q2 => by rcases own_f3 q0 q2 with rfl | rfl | rfl <;> first | exact ⟨by decide, _, _, rfl, rfl, hv0⟩ | exact ⟨by decide, _, _, rfl, rfl, hv1⟩ | exact ⟨by decide, _, _, rfl, rfl, hq96_3⟩) (fun kk q0 q1 q2 => by rcases own_f6 q0 q1 with rfl | rfl | rfl | rfl | rfl | rfl <;> first | exact absurd (by decide) q2 | exact ⟨by decide, by decide, _, rfl, rfl⟩)) hZ (ww hw 178 rfl) (ww hw 177 rfl) (by decide) (by decide)) (g := (mkF m 191 #[vi p1, vi p2, vi p3, vi p4, vi p5, vi (3 : Int32), vr b86, vr b99, vr b111_e0] [(.ref sa113), (.int (3 : Int32)), (.ref b86), (.ref sA_111)])) rfl (by rw [hml]; rfl) (argsL := [(.ref sA_111), (.ref b86), (.int (3 : Int32)), (.ref sa113)]) (rest := []) (lenOf pd_31 rfl) rfl (by show 2 * 0 + _ ≤ _; exact Nat.le_of_eq rfl) (hb hby at_191) (fun _ _ => ⟨rfl, e113, (by decide : 27 + 0 ≤ _), (by decide : 260 + 0 ≤ _)⟩)
    dsimp only [Pt.U, Pt.locs, Pt.cells, Pt.slots] at X114 l114 y114 z114 st114 hQ114
    subst l114 y114 z114
    obtain ⟨rfl, N114q, e114⟩ := hQ114
    have N114 := Fr.app N112 N114q
    obtain ⟨cq115, kq115, q115a, q115b, q115c⟩ := isOf hZ e114 E_e0_111
    obtain ⟨_, _, ⟨T115, L115, kz115, nz115⟩, -, X115, ⟨Lc115, hQ115, l115, y115, z115⟩, st115⟩ := X114.virtualBack hx (y := y_39) (z := y_39) hown (mvT hZ (ww hw 205 rfl)) (mvT hZ (ww hw 206 rfl)) (notFace_of_selects (args := #[]) (mvT hZ (ww hw 208 rfl))) (mvT hZ (ww hw 208 rfl)) (mvT hZ (ww hw 207 rfl)) (by decide) (backOf (W := 0) (rm_get_metadata l Z a0 hw [] b111_e0 sB_111 h113 n0 (Nat.le_trans Z0 KC.1) O0 F_metadata_e0_111) hZ (ww hw 209 rfl) (ww hw 24 rfl) (by decide) (by decide)) q115a q115c (g := (mkF m 199 #[vi p1, vi p2, vi p3, vi p4, vi p5, vi (3 : Int32), vr b86, vr b99, vr b111_e0] [(.ref b111_e0)])) rfl (by rw [hml]; rfl) (Steps.refl _) (argsL := []) (rest := []) (lenOf pd_27 rfl) rfl (by show 2 * 0 + _ ≤ _; exact Nat.le_of_eq rfl) (hb hby at_199) (fun _ _ => ⟨rfl, e114, (by decide : 27 + 0 ≤ _), (by decide : 260 + 0 ≤ _)⟩)
    dsimp only [Pt.U, Pt.locs, Pt.cells, Pt.slots] at X115 l115 y115 z115 st115 hQ115
    subst l115 y115 z115
    obtain ⟨rfl, N115q, e115⟩ := hQ115
    have N115 := Fr.app N114 N115q
    obtain ⟨sa116, T116, h116, kx116, sb116, kc116, X116, e116, E116, hS116, hk116, hZ116, hown116, Ex116, Fc116, Fv116, Vv116, -, -, C116, -, nx116, st116⟩ := ldcCH X115 hx hZ hown (ww hw 210 rfl) wS e115 hS hk hEL (by decide) hC.1 (vs := [(.int (47 : Int32)), (.int (115 : Int32)), (.int (112 : Int32)), (.int (47 : Int32)), (.int (109 : Int32)), (.int (101 : Int32)), (.int (116 : Int32)), (.int (97 : Int32)), (.int (100 : Int32)), (.int (97 : Int32)), (.int (116 : Int32)), (.int (97 : Int32))]) (z := (12 : Int32)) ⟨by decide, by first | rfl | decide⟩ (by decide) (by first | rfl | decide) (g := (mkF m 206 #[vi p1, vi p2, vi p3, vi p4, vi p5, vi (3 : Int32), vr b86, vr b99, vr b111_e0] [(.int (3 : Int32)), (.ref b86), (.ref sB_111)])) rfl (hb hby at_206) (n := 48) (by decide) (by decide) (by decide) (by decide)
    replace Sf_b110_tz := C116.safe V_tz_110.lt Sf_b110_tz
    replace Vm98 := Vm98.ext E116
    replace A99 := A99.ext E116
    replace F_value_a1_110 := F_value_a1_110.ext E116
    replace F_coder_a1_110 := F_coder_a1_110.ext E116
    replace V_tz_110 := V_tz_110.ext E116
    replace E_e0_111 := E_e0_111.ext E116
    replace F_entityId_e0_111 := F_entityId_e0_111.ext E116
    replace F_metadata_e0_111 := F_metadata_e0_111.ext E116
    replace F_assertionConsumer_e0_111 := F_assertionConsumer_e0_111.ext E116
    replace E_sA_111 := E_sA_111.ext E116
    replace F_value_sA_111 := F_value_sA_111.ext E116
    replace F_coder_sA_111 := F_coder_sA_111.ext E116
    replace V_tA_111 := V_tA_111.ext E116
    replace E_sB_111 := E_sB_111.ext E116
    replace F_value_sB_111 := F_value_sB_111.ext E116
    replace F_coder_sB_111 := F_coder_sB_111.ext E116
    replace V_tB_111 := V_tB_111.ext E116
    replace E_sC_111 := E_sC_111.ext E116
    replace F_value_sC_111 := F_value_sC_111.ext E116
    replace F_coder_sC_111 := F_coder_sC_111.ext E116
    replace V_tC_111 := V_tC_111.ext E116
    replace Ex113 := Ex113.ext E116
    replace Fc113 := Fc113.ext E116
    replace Fv113 := Fv113.ext E116
    replace Vv113 := Vv113.ext E116
    replace O0 := O0.ext E116
    replace KC := KC.ext E116
    replace hC := hC.trans C116
    replace hZ := hZ116
    replace hown := hown116
    replace hS := hS116
    replace hk := hk116
    have nx116_b110_tz := nx116 _ Sf_b110_tz
    obtain ⟨_, _, ⟨T117, L117, kz117, nz117⟩, -, X117, ⟨Lc117, hQ117, l117, y117, z117⟩, st117⟩ := Jvm.LawKit.callS X116 hx (y := y_36) hown (mvT hZ (ww hw 175 rfl)) (mvT hZ (ww hw 176 rfl)) (mvT hZ (ww hw 177 rfl)) (mvT hZ (ww hw 178 rfl)) (by decide) (backOf (W := 0) (rm_mat l Z a0 hw [] sB_111 b86 (3 : Int32) sa116 tB_111 kB_111 (15 : Int32) [(.int (own_b x0)), (.int (own_b x1)), (.int (own_b y0_96)), (.int (47 : Int32)), (.int (115 : Int32)), (.int (112 : Int32)), (.int (47 : Int32)), (.int (109 : Int32)), (.int (101 : Int32)), (.int (116 : Int32)), (.int (97 : Int32)), (.int (100 : Int32)), (.int (97 : Int32)), (.int (116 : Int32)), (.int (97 : Int32)), nO] k86 (3 : Int32) [(.int x0), (.int x1), (.int y0_96)] sb116 kc116 (12 : Int32) [(.int (47 : Int32)), (.int (115 : Int32)), (.int (112 : Int32)), (.int (47 : Int32)), (.int (109 : Int32)), (.int (101 : Int32)), (.int (116 : Int32)), (.int (97 : Int32)), (.int (100 : Int32)), (.int (97 : Int32)), (.int (116 : Int32)), (.int (97 : Int32))] zc fm h116 n0 (Nat.le_trans Z0 KC.1) O0 E_sB_111 F_value_sB_111 F_coder_sB_111 V_tB_111 Vm98 Ex116 Fv116 Fc116 Vv116 S_CS hz S_FM hW_fm (by decide) (fun kk q0 q1 q2 => by rcases own_f3 q0 q2 with rfl | rfl | rfl <;> first | exact ⟨by decide, _, _, rfl, rfl, hv0⟩ | exact ⟨by decide, _, _, rfl, rfl, hv1⟩ | exact ⟨by decide, _, _, rfl, rfl, hq96_3⟩) (fun kk q0 q1 q2 => by rcases own_f15 q0 q1 with rfl | rfl | rfl | rfl | rfl | rfl | rfl | rfl | rfl | rfl | rfl | rfl | rfl | rfl | rfl <;> first | exact absurd (by decide) q2 | exact ⟨by decide, by decide, _, rfl, rfl⟩)) hZ (ww hw 178 rfl) (ww hw 177 rfl) (by decide) (by decide)) (g := (mkF m 208 #[vi p1, vi p2, vi p3, vi p4, vi p5, vi (3 : Int32), vr b86, vr b99, vr b111_e0] [(.ref sa116), (.int (3 : Int32)), (.ref b86), (.ref sB_111)])) rfl (by rw [hml]; rfl) (argsL := [(.ref sB_111), (.ref b86), (.int (3 : Int32)), (.ref sa116)]) (rest := []) (lenOf pd_31 rfl) rfl (by show 2 * 0 + _ ≤ _; exact Nat.le_of_eq rfl) (hb hby at_208) (fun _ _ => ⟨rfl, e116, (by decide : 29 + 0 ≤ _), (by decide : 312 + 0 ≤ _)⟩)
    dsimp only [Pt.U, Pt.locs, Pt.cells, Pt.slots] at X117 l117 y117 z117 st117 hQ117
    subst l117 y117 z117
    obtain ⟨rfl, N117q, e117⟩ := hQ117
    have N117 := Fr.app N115 N117q
    obtain ⟨cq118, kq118, q118a, q118b, q118c⟩ := isOf hZ e117 E_e0_111
    obtain ⟨_, _, ⟨T118, L118, kz118, nz118⟩, -, X118, ⟨Lc118, hQ118, l118, y118, z118⟩, st118⟩ := X117.virtualBack hx (y := y_40) (z := y_40) hown (mvT hZ (ww hw 211 rfl)) (mvT hZ (ww hw 212 rfl)) (notFace_of_selects (args := #[]) (mvT hZ (ww hw 214 rfl))) (mvT hZ (ww hw 214 rfl)) (mvT hZ (ww hw 213 rfl)) (by decide) (backOf (W := 0) (rm_get_assertionConsumer l Z a0 hw [] b111_e0 sC_111 h116 n0 (Nat.le_trans Z0 KC.1) O0 F_assertionConsumer_e0_111) hZ (ww hw 215 rfl) (ww hw 24 rfl) (by decide) (by decide)) q118a q118c (g := (mkF m 216 #[vi p1, vi p2, vi p3, vi p4, vi p5, vi (3 : Int32), vr b86, vr b99, vr b111_e0] [(.ref b111_e0)])) rfl (by rw [hml]; rfl) (Steps.refl _) (argsL := []) (rest := []) (lenOf pd_27 rfl) rfl (by show 2 * 0 + _ ≤ _; exact Nat.le_of_eq rfl) (hb hby at_216) (fun _ _ => ⟨rfl, e117, (by decide : 29 + 0 ≤ _), (by decide : 312 + 0 ≤ _)⟩)
    dsimp only [Pt.U, Pt.locs, Pt.cells, Pt.slots] at X118 l118 y118 z118 st118 hQ118
    subst l118 y118 z118
    obtain ⟨rfl, N118q, e118⟩ := hQ118
    have N118 := Fr.app N117 N118q
    obtain ⟨sa119, T119, h119, kx119, sb119, kc119, X119, e119, E119, hS119, hk119, hZ119, hown119, Ex119, Fc119, Fv119, Vv119, -, -, C119, -, nx119, st119⟩ := ldcCH X118 hx hZ hown (ww hw 216 rfl) wS e118 hS hk hEL (by decide) hC.1 (vs := [(.int (47 : Int32)), (.int (115 : Int32)), (.int (112 : Int32)), (.int (47 : Int32)), (.int (97 : Int32)), (.int (99 : Int32)), (.int (115 : Int32))]) (z := (7 : Int32)) ⟨by decide, by first | rfl | decide⟩ (by decide) (by first | rfl | decide) (g := (mkF m 223 #[vi p1, vi p2, vi p3, vi p4, vi p5, vi (3 : Int32), vr b86, vr b99, vr b111_e0] [(.int (3 : Int32)), (.ref b86), (.ref sC_111)])) rfl (hb hby at_223) (n := 28) (by decide) (by decide) (by decide) (by decide)
    replace Sf_b110_tz := C119.safe V_tz_110.lt Sf_b110_tz
    replace Vm98 := Vm98.ext E119
    replace A99 := A99.ext E119
    replace F_value_a1_110 := F_value_a1_110.ext E119
    replace F_coder_a1_110 := F_coder_a1_110.ext E119
    replace V_tz_110 := V_tz_110.ext E119
    replace E_e0_111 := E_e0_111.ext E119
    replace F_entityId_e0_111 := F_entityId_e0_111.ext E119
    replace F_metadata_e0_111 := F_metadata_e0_111.ext E119
    replace F_assertionConsumer_e0_111 := F_assertionConsumer_e0_111.ext E119
    replace E_sA_111 := E_sA_111.ext E119
    replace F_value_sA_111 := F_value_sA_111.ext E119
    replace F_coder_sA_111 := F_coder_sA_111.ext E119
    replace V_tA_111 := V_tA_111.ext E119
    replace E_sB_111 := E_sB_111.ext E119
    replace F_value_sB_111 := F_value_sB_111.ext E119
    replace F_coder_sB_111 := F_coder_sB_111.ext E119
    replace V_tB_111 := V_tB_111.ext E119
    replace E_sC_111 := E_sC_111.ext E119
    replace F_value_sC_111 := F_value_sC_111.ext E119
    replace F_coder_sC_111 := F_coder_sC_111.ext E119
    replace V_tC_111 := V_tC_111.ext E119
    replace Ex113 := Ex113.ext E119
    replace Fc113 := Fc113.ext E119
    replace Fv113 := Fv113.ext E119
    replace Vv113 := Vv113.ext E119
    replace Ex116 := Ex116.ext E119
    replace Fc116 := Fc116.ext E119
    replace Fv116 := Fv116.ext E119
    replace Vv116 := Vv116.ext E119
    replace O0 := O0.ext E119
    replace KC := KC.ext E119
    replace hC := hC.trans C119
    replace hZ := hZ119
    replace hown := hown119
    replace hS := hS119
    replace hk := hk119
    have nx119_b110_tz := nx119 _ Sf_b110_tz
    obtain ⟨_, _, ⟨T120, L120, kz120, nz120⟩, -, X120, ⟨Lc120, hQ120, l120, y120, z120⟩, st120⟩ := Jvm.LawKit.callS X119 hx (y := y_36) hown (mvT hZ (ww hw 175 rfl)) (mvT hZ (ww hw 176 rfl)) (mvT hZ (ww hw 177 rfl)) (mvT hZ (ww hw 178 rfl)) (by decide) (backOf (W := 0) (rm_mat l Z a0 hw [] sC_111 b86 (3 : Int32) sa119 tC_111 kC_111 (10 : Int32) [(.int (own_b x0)), (.int (own_b x1)), (.int (own_b y0_96)), (.int (47 : Int32)), (.int (115 : Int32)), (.int (112 : Int32)), (.int (47 : Int32)), (.int (97 : Int32)), (.int (99 : Int32)), (.int (115 : Int32)), nO, nO, nO, nO, nO, nO] k86 (3 : Int32) [(.int x0), (.int x1), (.int y0_96)] sb119 kc119 (7 : Int32) [(.int (47 : Int32)), (.int (115 : Int32)), (.int (112 : Int32)), (.int (47 : Int32)), (.int (97 : Int32)), (.int (99 : Int32)), (.int (115 : Int32))] zc fm h119 n0 (Nat.le_trans Z0 KC.1) O0 E_sC_111 F_value_sC_111 F_coder_sC_111 V_tC_111 Vm98 Ex119 Fv119 Fc119 Vv119 S_CS hz S_FM hW_fm (by decide) (fun kk q0 q1 q2 => by rcases own_f3 q0 q2 with rfl | rfl | rfl <;> first | exact ⟨by decide, _, _, rfl, rfl, hv0⟩ | exact ⟨by decide, _, _, rfl, rfl, hv1⟩ | exact ⟨by decide, _, _, rfl, rfl, hq96_3⟩) (fun kk q0 q1 q2 => by rcases own_f10 q0 q1 with rfl | rfl | rfl | rfl | rfl | rfl | rfl | rfl | rfl | rfl <;> first | exact absurd (by decide) q2 | exact ⟨by decide, by decide, _, rfl, rfl⟩)) hZ (ww hw 178 rfl) (ww hw 177 rfl) (by decide) (by decide)) (g := (mkF m 225 #[vi p1, vi p2, vi p3, vi p4, vi p5, vi (3 : Int32), vr b86, vr b99, vr b111_e0] [(.ref sa119), (.int (3 : Int32)), (.ref b86), (.ref sC_111)])) rfl (by rw [hml]; rfl) (argsL := [(.ref sC_111), (.ref b86), (.int (3 : Int32)), (.ref sa119)]) (rest := []) (lenOf pd_31 rfl) rfl (by show 2 * 0 + _ ≤ _; exact Nat.le_of_eq rfl) (hb hby at_225) (fun _ _ => ⟨rfl, e119, (by decide : 31 + 0 ≤ _), (by decide : 344 + 0 ≤ _)⟩)
    dsimp only [Pt.U, Pt.locs, Pt.cells, Pt.slots] at X120 l120 y120 z120 st120 hQ120
    subst l120 y120 z120
    obtain ⟨rfl, N120q, e120⟩ := hQ120
    have N120 := Fr.app N118 N120q
    obtain ⟨fs, hr, hrun, hended, hRE⟩ := X120.leaveW hS (by rw [e120]; exact hk) (v := some (.int (1 : Int32))) (fun h => by rw [Bd.returns] at h; cases h)
    refine ⟨_, _, pre93 _ ?_, hrun, hended, _, _, rfl, ?_, ?_, hRE.1, hRE.2.1, hRE.2.2.1, hRE.2.2.2.mono (by decide) (by decide)⟩
    · show SS p e below m T92 39 #[vi p1, vi p2, vi p3, vi p4, vi p5, vi (3 : Int32), vr b86, un, un] [(.int x2), (.int (2 : Int32)), (.ref b86)] _
      refine st95 _ ?_
      show SS p e below m T95 40 #[vi p1, vi p2, vi p3, vi p4, vi p5, vi (3 : Int32), vr b86, un, un] [] _
      refine XS.iload X95.here hx rfl (hb hby at_40) rfl ?_
      show SS p e below m T95 42 #[vi p1, vi p2, vi p3, vi p4, vi p5, vi (3 : Int32), vr b86, un, un] [(.int (3 : Int32))] _
      refine XS.ifNo X95.here hx rfl (hb hby at_42) rfl ((if0 _ _).trans (tlt (by decide)).2.2.2) ?_
      show SS p e below m T95 45 #[vi p1, vi p2, vi p3, vi p4, vi p5, vi (3 : Int32), vr b86, un, un] [] _
      refine XS.aload X95.here hx rfl (hb hby at_45) rfl rfl ?_
      show SS p e below m T95 47 #[vi p1, vi p2, vi p3, vi p4, vi p5, vi (3 : Int32), vr b86, un, un] [(.ref b86)] _
      refine XS.iload X95.here hx rfl (hb hby at_47) rfl ?_
      show SS p e below m T95 49 #[vi p1, vi p2, vi p3, vi p4, vi p5, vi (3 : Int32), vr b86, un, un] [(.int (3 : Int32)), (.ref b86)] _
      refine XS.iconst X95.here hx rfl (hb hby at_49) ?_
      show SS p e below m T95 50 #[vi p1, vi p2, vi p3, vi p4, vi p5, vi (3 : Int32), vr b86, un, un] [(.int (1 : Int32)), (.int (3 : Int32)), (.ref b86)] _
      refine XS.isub X95.here hx rfl (hb hby at_50) rfl ?_
      show SS p e below m T95 51 #[vi p1, vi p2, vi p3, vi p4, vi p5, vi (3 : Int32), vr b86, un, un] [(.int (2 : Int32)), (.ref b86)] _
      refine XS.iload X95.here hx rfl (hb hby at_51) rfl ?_
      show SS p e below m T95 53 #[vi p1, vi p2, vi p3, vi p4, vi p5, vi (3 : Int32), vr b86, un, un] [(.int p5), (.int (2 : Int32)), (.ref b86)] _
      refine st96 _ ?_
      show SS p e below m T96 56 #[vi p1, vi p2, vi p3, vi p4, vi p5, vi (3 : Int32), vr b86, un, un] [(.int y0_96), (.int (2 : Int32)), (.ref b86)] _
      refine st98 _ ?_
      show SS p e below m T98 57 #[vi p1, vi p2, vi p3, vi p4, vi p5, vi (3 : Int32), vr b86, un, un] [] _
      refine XS.iload X98.here hx rfl (hb hby at_57) rfl ?_
      show SS p e below m T98 59 #[vi p1, vi p2, vi p3, vi p4, vi p5, vi (3 : Int32), vr b86, un, un] [(.int (3 : Int32))] _
      refine XS.ifYes X98.here hx rfl (pc0 := 59) (pc' := 77) rfl (hb hby at_59) rfl ((if0 _ _).trans (feq (by decide)).2) (by decide) (by decide) ?_
      show SS p e below m T98 77 #[vi p1, vi p2, vi p3, vi p4, vi p5, vi (3 : Int32), vr b86, un, un] [] _
      refine XS.iload X98.here hx rfl (hb hby at_77) rfl ?_
      show SS p e below m T98 79 #[vi p1, vi p2, vi p3, vi p4, vi p5, vi (3 : Int32), vr b86, un, un] [(.int (3 : Int32))] _
      refine XS.iconst X98.here hx rfl (hb hby at_79) ?_
      show SS p e below m T98 80 #[vi p1, vi p2, vi p3, vi p4, vi p5, vi (3 : Int32), vr b86, un, un] [(.int (1 : Int32)), (.int (3 : Int32))] _
      refine XS.icmpYes X98.here hx rfl (pc0 := 80) (pc' := 105) rfl (hb hby at_80) rfl (feq (by decide)).2 (by decide) (by decide) ?_
      show SS p e below m T98 105 #[vi p1, vi p2, vi p3, vi p4, vi p5, vi (3 : Int32), vr b86, un, un] [] _
      refine XS.iload X98.here hx rfl (hb hby at_105) rfl ?_
      show SS p e below m T98 107 #[vi p1, vi p2, vi p3, vi p4, vi p5, vi (3 : Int32), vr b86, un, un] [(.int (3 : Int32))] _
      refine XS.iconst X98.here hx rfl (hb hby at_107) ?_
      show SS p e below m T98 108 #[vi p1, vi p2, vi p3, vi p4, vi p5, vi (3 : Int32), vr b86, un, un] [(.int (2 : Int32)), (.int (3 : Int32))] _
      refine XS.icmpYes X98.here hx rfl (pc0 := 108) (pc' := 140) rfl (hb hby at_108) rfl (feq (by decide)).2 (by decide) (by decide) ?_
      show SS p e below m T98 140 #[vi p1, vi p2, vi p3, vi p4, vi p5, vi (3 : Int32), vr b86, un, un] [] _
      refine st99 _ ?_
      show SS p e below m T99 143 #[vi p1, vi p2, vi p3, vi p4, vi p5, vi (3 : Int32), vr b86, un, un] [(.ref b99)] _
      refine XS.dup X99.here hx rfl (hb hby at_143) rfl rfl ?_
      show SS p e below m T99 144 #[vi p1, vi p2, vi p3, vi p4, vi p5, vi (3 : Int32), vr b86, un, un] [(.ref b99), (.ref b99)] _
      refine XS.iconst X99.here hx rfl (hb hby at_144) ?_
      show SS p e below m T99 145 #[vi p1, vi p2, vi p3, vi p4, vi p5, vi (3 : Int32), vr b86, un, un] [(.int (3 : Int32)), (.ref b99), (.ref b99)] _
      refine st100 _ ?_
      show SS p e below m T100 147 #[vi p1, vi p2, vi p3, vi p4, vi p5, vi (3 : Int32), vr b86, un, un] [(.ref b100), (.ref b99), (.ref b99)] _
      refine XS.dup X100.here hx rfl (hb hby at_147) rfl rfl ?_
      show SS p e below m T100 148 #[vi p1, vi p2, vi p3, vi p4, vi p5, vi (3 : Int32), vr b86, un, un] [(.ref b100), (.ref b100), (.ref b99), (.ref b99)] _
      refine XS.iconst X100.here hx rfl (hb hby at_148) ?_
      show SS p e below m T100 149 #[vi p1, vi p2, vi p3, vi p4, vi p5, vi (3 : Int32), vr b86, un, un] [(.int (0 : Int32)), (.ref b100), (.ref b100), (.ref b99), (.ref b99)] _
      refine XS.aload X100.here hx rfl (hb hby at_149) rfl rfl ?_
      show SS p e below m T100 151 #[vi p1, vi p2, vi p3, vi p4, vi p5, vi (3 : Int32), vr b86, un, un] [(.ref b86), (.int (0 : Int32)), (.ref b100), (.ref b100), (.ref b99), (.ref b99)] _
      refine XS.iconst X100.here hx rfl (hb hby at_151) ?_
      show SS p e below m T100 152 #[vi p1, vi p2, vi p3, vi p4, vi p5, vi (3 : Int32), vr b86, un, un] [(.int (0 : Int32)), (.ref b86), (.int (0 : Int32)), (.ref b100), (.ref b100), (.ref b99), (.ref b99)] _
      refine X100.caload hx (j := (0 : Int32)) (v := (.int x0)) (by rw [e100]; exact Ar101.1) ia101 Ar101.2.2 hin101 hat101 (g := (mkF m 152 #[vi p1, vi p2, vi p3, vi p4, vi p5, vi (3 : Int32), vr b86, un, un] [(.int (0 : Int32)), (.ref b86), (.int (0 : Int32)), (.ref b100), (.ref b100), (.ref b99), (.ref b99)])) rfl rfl (hb hby at_152) _ ?_
      show SS p e below m T100 153 #[vi p1, vi p2, vi p3, vi p4, vi p5, vi (3 : Int32), vr b86, un, un] [(.int x0), (.int (0 : Int32)), (.ref b100), (.ref b100), (.ref b99), (.ref b99)] _
      refine st103 _ ?_
      show SS p e below m T103 154 #[vi p1, vi p2, vi p3, vi p4, vi p5, vi (3 : Int32), vr b86, un, un] [(.ref b100), (.ref b99), (.ref b99)] _
      refine XS.dup X103.here hx rfl (hb hby at_154) rfl rfl ?_
      show SS p e below m T103 155 #[vi p1, vi p2, vi p3, vi p4, vi p5, vi (3 : Int32), vr b86, un, un] [(.ref b100), (.ref b100), (.ref b99), (.ref b99)] _
      refine XS.iconst X103.here hx rfl (hb hby at_155) ?_
      show SS p e below m T103 156 #[vi p1, vi p2, vi p3, vi p4, vi p5, vi (3 : Int32), vr b86, un, un] [(.int (1 : Int32)), (.ref b100), (.ref b100), (.ref b99), (.ref b99)] _
      refine XS.aload X103.here hx rfl (hb hby at_156) rfl rfl ?_
      show SS p e below m T103 158 #[vi p1, vi p2, vi p3, vi p4, vi p5, vi (3 : Int32), vr b86, un, un] [(.ref b86), (.int (1 : Int32)), (.ref b100), (.ref b100), (.ref b99), (.ref b99)] _
      refine XS.iconst X103.here hx rfl (hb hby at_158) ?_
      show SS p e below m T103 159 #[vi p1, vi p2, vi p3, vi p4, vi p5, vi (3 : Int32), vr b86, un, un] [(.int (1 : Int32)), (.ref b86), (.int (1 : Int32)), (.ref b100), (.ref b100), (.ref b99), (.ref b99)] _
      refine X103.caload hx (j := (1 : Int32)) (v := (.int x1)) (by rw [e103]; exact Ar104.1) ia104 Ar104.2.2 hin104 hat104 (g := (mkF m 159 #[vi p1, vi p2, vi p3, vi p4, vi p5, vi (3 : Int32), vr b86, un, un] [(.int (1 : Int32)), (.ref b86), (.int (1 : Int32)), (.ref b100), (.ref b100), (.ref b99), (.ref b99)])) rfl rfl (hb hby at_159) _ ?_
      show SS p e below m T103 160 #[vi p1, vi p2, vi p3, vi p4, vi p5, vi (3 : Int32), vr b86, un, un] [(.int x1), (.int (1 : Int32)), (.ref b100), (.ref b100), (.ref b99), (.ref b99)] _
      refine st106 _ ?_
      show SS p e below m T106 161 #[vi p1, vi p2, vi p3, vi p4, vi p5, vi (3 : Int32), vr b86, un, un] [(.ref b100), (.ref b99), (.ref b99)] _
      refine XS.dup X106.here hx rfl (hb hby at_161) rfl rfl ?_
      show SS p e below m T106 162 #[vi p1, vi p2, vi p3, vi p4, vi p5, vi (3 : Int32), vr b86, un, un] [(.ref b100), (.ref b100), (.ref b99), (.ref b99)] _
      refine XS.iconst X106.here hx rfl (hb hby at_162) ?_
      show SS p e below m T106 163 #[vi p1, vi p2, vi p3, vi p4, vi p5, vi (3 : Int32), vr b86, un, un] [(.int (2 : Int32)), (.ref b100), (.ref b100), (.ref b99), (.ref b99)] _
      refine XS.aload X106.here hx rfl (hb hby at_163) rfl rfl ?_
      show SS p e below m T106 165 #[vi p1, vi p2, vi p3, vi p4, vi p5, vi (3 : Int32), vr b86, un, un] [(.ref b86), (.int (2 : Int32)), (.ref b100), (.ref b100), (.ref b99), (.ref b99)] _
      refine XS.iconst X106.here hx rfl (hb hby at_165) ?_
      show SS p e below m T106 166 #[vi p1, vi p2, vi p3, vi p4, vi p5, vi (3 : Int32), vr b86, un, un] [(.int (2 : Int32)), (.ref b86), (.int (2 : Int32)), (.ref b100), (.ref b100), (.ref b99), (.ref b99)] _
      refine X106.caload hx (j := (2 : Int32)) (v := (.int y0_96)) (by rw [e106]; exact Ar107.1) ia107 Ar107.2.2 hin107 hat107 (g := (mkF m 166 #[vi p1, vi p2, vi p3, vi p4, vi p5, vi (3 : Int32), vr b86, un, un] [(.int (2 : Int32)), (.ref b86), (.int (2 : Int32)), (.ref b100), (.ref b100), (.ref b99), (.ref b99)])) rfl rfl (hb hby at_166) _ ?_
      show SS p e below m T106 167 #[vi p1, vi p2, vi p3, vi p4, vi p5, vi (3 : Int32), vr b86, un, un] [(.int y0_96), (.int (2 : Int32)), (.ref b100), (.ref b100), (.ref b99), (.ref b99)] _
      refine st109 _ ?_
      show SS p e below m T109 168 #[vi p1, vi p2, vi p3, vi p4, vi p5, vi (3 : Int32), vr b86, un, un] [(.ref b100), (.ref b99), (.ref b99)] _
      refine st110.trans ?_
      show SS p e below m T110 171 #[vi p1, vi p2, vi p3, vi p4, vi p5, vi (3 : Int32), vr b86, un, un] [(.ref b99)] _
      refine XS.astore X110.here hx rfl (hb hby at_171) rfl rfl (l' := #[vi p1, vi p2, vi p3, vi p4, vi p5, vi (3 : Int32), vr b86, vr b99, un]) rfl ?_
      show SS p e below m T110 173 #[vi p1, vi p2, vi p3, vi p4, vi p5, vi (3 : Int32), vr b86, vr b99, un] [] _
      refine XS.aload X110.here hx rfl (hb hby at_173) rfl rfl ?_
      show SS p e below m T110 175 #[vi p1, vi p2, vi p3, vi p4, vi p5, vi (3 : Int32), vr b86, vr b99, un] [(.ref b99)] _
      refine st111.trans ?_
      show SS p e below m T111 178 #[vi p1, vi p2, vi p3, vi p4, vi p5, vi (3 : Int32), vr b86, vr b99, un] [(.ref b111_e0)] _
      refine XS.astore X111.here hx rfl (hb hby at_178) rfl rfl (l' := #[vi p1, vi p2, vi p3, vi p4, vi p5, vi (3 : Int32), vr b86, vr b99, vr b111_e0]) rfl ?_
      show SS p e below m T111 180 #[vi p1, vi p2, vi p3, vi p4, vi p5, vi (3 : Int32), vr b86, vr b99, vr b111_e0] [] _
      refine XS.aload X111.here hx rfl (hb hby at_180) rfl rfl ?_
      show SS p e below m T111 182 #[vi p1, vi p2, vi p3, vi p4, vi p5, vi (3 : Int32), vr b86, vr b99, vr b111_e0] [(.ref b111_e0)] _
      refine st112.trans ?_
      show SS p e below m T112 185 #[vi p1, vi p2, vi p3, vi p4, vi p5, vi (3 : Int32), vr b86, vr b99, vr b111_e0] [(.ref sA_111)] _
      refine XS.aload X112.here hx rfl (hb hby at_185) rfl rfl ?_
      show SS p e below m T112 187 #[vi p1, vi p2, vi p3, vi p4, vi p5, vi (3 : Int32), vr b86, vr b99, vr b111_e0] [(.ref b86), (.ref sA_111)] _
      refine XS.iload X112.here hx rfl (hb hby at_187) rfl ?_
      show SS p e below m T112 189 #[vi p1, vi p2, vi p3, vi p4, vi p5, vi (3 : Int32), vr b86, vr b99, vr b111_e0] [(.int (3 : Int32)), (.ref b86), (.ref sA_111)] _
      refine st113 _ ?_
      show SS p e below m T113 191 #[vi p1, vi p2, vi p3, vi p4, vi p5, vi (3 : Int32), vr b86, vr b99, vr b111_e0] [(.ref sa113), (.int (3 : Int32)), (.ref b86), (.ref sA_111)] _
      refine st114 _ ?_
      show SS p e below m T114 194 #[vi p1, vi p2, vi p3, vi p4, vi p5, vi (3 : Int32), vr b86, vr b99, vr b111_e0] [(.int (1 : Int32))] _
      refine XS.ifNo X114.here hx rfl (hb hby at_194) rfl ((if0 _ _).trans (feq (by decide)).1) ?_
      show SS p e below m T114 197 #[vi p1, vi p2, vi p3, vi p4, vi p5, vi (3 : Int32), vr b86, vr b99, vr b111_e0] [] _
      refine XS.aload X114.here hx rfl (hb hby at_197) rfl rfl ?_
      show SS p e below m T114 199 #[vi p1, vi p2, vi p3, vi p4, vi p5, vi (3 : Int32), vr b86, vr b99, vr b111_e0] [(.ref b111_e0)] _
      refine st115.trans ?_
      show SS p e below m T115 202 #[vi p1, vi p2, vi p3, vi p4, vi p5, vi (3 : Int32), vr b86, vr b99, vr b111_e0] [(.ref sB_111)] _
      refine XS.aload X115.here hx rfl (hb hby at_202) rfl rfl ?_
      show SS p e below m T115 204 #[vi p1, vi p2, vi p3, vi p4, vi p5, vi (3 : Int32), vr b86, vr b99, vr b111_e0] [(.ref b86), (.ref sB_111)] _
      refine XS.iload X115.here hx rfl (hb hby at_204) rfl ?_
      show SS p e below m T115 206 #[vi p1, vi p2, vi p3, vi p4, vi p5, vi (3 : Int32), vr b86, vr b99, vr b111_e0] [(.int (3 : Int32)), (.ref b86), (.ref sB_111)] _
      refine st116 _ ?_
      show SS p e below m T116 208 #[vi p1, vi p2, vi p3, vi p4, vi p5, vi (3 : Int32), vr b86, vr b99, vr b111_e0] [(.ref sa116), (.int (3 : Int32)), (.ref b86), (.ref sB_111)] _
      refine st117 _ ?_
      show SS p e below m T117 211 #[vi p1, vi p2, vi p3, vi p4, vi p5, vi (3 : Int32), vr b86, vr b99, vr b111_e0] [(.int (1 : Int32))] _
      refine XS.ifNo X117.here hx rfl (hb hby at_211) rfl ((if0 _ _).trans (feq (by decide)).1) ?_
      show SS p e below m T117 214 #[vi p1, vi p2, vi p3, vi p4, vi p5, vi (3 : Int32), vr b86, vr b99, vr b111_e0] [] _
      refine XS.aload X117.here hx rfl (hb hby at_214) rfl rfl ?_
      show SS p e below m T117 216 #[vi p1, vi p2, vi p3, vi p4, vi p5, vi (3 : Int32), vr b86, vr b99, vr b111_e0] [(.ref b111_e0)] _
      refine st118.trans ?_
      show SS p e below m T118 219 #[vi p1, vi p2, vi p3, vi p4, vi p5, vi (3 : Int32), vr b86, vr b99, vr b111_e0] [(.ref sC_111)] _
      refine XS.aload X118.here hx rfl (hb hby at_219) rfl rfl ?_
      show SS p e below m T118 221 #[vi p1, vi p2, vi p3, vi p4, vi p5, vi (3 : Int32), vr b86, vr b99, vr b111_e0] [(.ref b86), (.ref sC_111)] _
      refine XS.iload X118.here hx rfl (hb hby at_221) rfl ?_
      show SS p e below m T118 223 #[vi p1, vi p2, vi p3, vi p4, vi p5, vi (3 : Int32), vr b86, vr b99, vr b111_e0] [(.int (3 : Int32)), (.ref b86), (.ref sC_111)] _
      refine st119 _ ?_
      show SS p e below m T119 225 #[vi p1, vi p2, vi p3, vi p4, vi p5, vi (3 : Int32), vr b86, vr b99, vr b111_e0] [(.ref sa119), (.int (3 : Int32)), (.ref b86), (.ref sC_111)] _
      refine st120 _ ?_
      show SS p e below m T120 228 #[vi p1, vi p2, vi p3, vi p4, vi p5, vi (3 : Int32), vr b86, vr b99, vr b111_e0] [(.int (1 : Int32))] _
      refine XS.ifNo X120.here hx rfl (hb hby at_228) rfl ((if0 _ _).trans (feq (by decide)).1) ?_
      show SS p e below m T120 231 #[vi p1, vi p2, vi p3, vi p4, vi p5, vi (3 : Int32), vr b86, vr b99, vr b111_e0] [] _
      refine XS.iconst X120.here hx rfl (hb hby at_231) ?_
      show SS p e below m T120 232 #[vi p1, vi p2, vi p3, vi p4, vi p5, vi (3 : Int32), vr b86, vr b99, vr b111_e0] [(.int (1 : Int32))] _
      refine XS.goto X120.here hx rfl (pc0 := 232) (pc' := 236) rfl (hb hby at_232) (by decide) (by decide) ?_
      show SS p e below m T120 236 #[vi p1, vi p2, vi p3, vi p4, vi p5, vi (3 : Int32), vr b86, vr b99, vr b111_e0] [(.int (1 : Int32))] _
      exact retN X120 hx (t := .boolean) Bd.returns (by simp) (hb hby at_236) hr
    · show Q_rm0 Z p1 p2 p3 p4 p5 zc fm h0 n0 _ T120.heap _
      rw [e120]
      exact ⟨rfl, N120, KC⟩
    · show CHr Z EL s.vm s.heap T120.vm T120.heap
      rw [hh, e120]
      exact hC.trans (CHv.at X120 hZ hEL hC.1)
set_option maxRecDepth 65536 in
set_option maxHeartbeats 40000000 in
theorem comes_1 {Post : Tables → Env → Array Value → State → Outcome → State → Prop} (hpost : ∀ tb e args s v u, (limb_1_1.after args s (.returned v) u = true ∧ limb_1_2.after args s (.returned v) u = true ∧ True) → ReturnedEndW s (.returned v) u (Jvm.fieldLocs frame_1_writes args s ++ Jvm.arrayLocs frame_1_arrays args s ++ Jvm.staticLocs frame_1_statics s) 64 8576 → Post tb e args s (.returned v) u) :
    ArmFor flags0 classFile x code maxLocals ret World_1 tables_1 room_1 Calls_1 rest_1 Pre_1 Post := by
  intro l hfl _ _ p e ha hc hk s m args below hf hA hF happ hP
  obtain ⟨hcalls, hrest, hpre⟩ := hP
  obtain ⟨-, -, -, hnamed, -, -, -, hat⟩ := (Spec.applies_iff hf).mp happ
  obtain ⟨hg, hn⟩ := and_e (Cond.before_iff.mp (show (Jvm.Cond.and given_1 narrow_1).before args s = true from hpre))
  obtain ⟨nw1, nv1⟩ := and_e hg
  obtain ⟨nw2, nv2⟩ := and_e nv1
  obtain ⟨nw3, nv3⟩ := and_e nv2
  obtain ⟨nw4, nv4⟩ := and_e nv3
  obtain ⟨nw5, nv5⟩ := and_e nv4
  obtain ⟨w0, w1, w2, w3, w4, rfl⟩ : ∃ w0 w1 w2 w3 w4 : Value, args = #[w0, w1, w2, w3, w4] := by
    have hs : args.size = 5 := by simpa [Cond.value, given_1] using nw1
    obtain ⟨L⟩ := args
    match L, hs with
    | [w0, w1, w2, w3, w4], _ => exact ⟨w0, w1, w2, w3, w4, rfl⟩
  have hw := fun d (hd : d ∈ tables_1) => atoms_spec (ws := Jvm.Cond.code x code maxLocals ret :: tables_1) hat d (List.mem_cons_of_mem _ hd)
  have hfit : Fit s := fun {y c} hc i hi => by
    obtain ⟨ha, rfl⟩ := Array.getElem?_eq_some_iff.mp hc
    have q := List.all_eq_true.mp ((Array.all_eq_true_iff_forall_mem.mp hF) _ (Array.getElem_mem ha)) i (List.mem_range.mpr hi)
    simpa [Array.getElem?_eq_getElem hi] using q
  obtain ⟨hsets, hown0⟩ := atoms_of _ (rest_1_c_eq ▸ (show rest_1_c.before _ s = true from hrest))
  have hr0 := Cond.before_iff.mp hown0
  obtain ⟨i0, ei0⟩ := is_v nw2
  obtain rfl : w0 = (.int i0) := Option.some.inj ei0
  obtain ⟨i1, ei1⟩ := is_v nw3
  obtain rfl : w1 = (.int i1) := Option.some.inj ei1
  obtain ⟨i2, ei2⟩ := is_v nw4
  obtain rfl : w2 = (.int i2) := Option.some.inj ei2
  obtain ⟨i3, ei3⟩ := is_v nw5
  obtain rfl : w3 = (.int i3) := Option.some.inj ei3
  obtain ⟨i4, ei4⟩ := is_v nv5
  obtain rfl : w4 = (.int i4) := Option.some.inj ei4
  obtain ⟨zc, evz⟩ := is_v (Cond.before_iff.mp (hsets _ (List.mem_of_getElem? (i := 1) rfl)))
  have S_CS := Sta.start evz (Or.inl (hsets _ (List.mem_of_getElem? (i := 0) rfl)))
  have hz : ¬ zc = (0 : Int32) := fun q => by
    have r := not_v (Cond.before_iff.mp (hsets _ (List.mem_of_getElem? (i := 2) rfl)))
    rw [Cond.eq_ints evz (Term.int_eval (0 : Int32)), q] at r; simp at r
  obtain ⟨fm, evf, hW_fm⟩ := isR_v (Cond.before_iff.mp (hsets _ (List.mem_of_getElem? (i := 8) rfl)))
  have S_FM := Sta.start evf (Or.inl (hsets _ (List.mem_of_getElem? (i := 7) rfl)))
  have hCH : CHv s EL s.vm s.heap := CHv.start (own_hEL hw) hcalls.1 (hsets _ (List.mem_of_getElem? (i := 2) rfl)) (ww hw 15 rfl) (ww hw 2 rfl)
  obtain ⟨n, o, h1, h2, h3, _, L, rfl, ⟨rfl, N, -⟩, -, hq⟩ := rm0 l s _ hw tables_1 i0 i1 i2 i3 i4 zc fm s.heap s.heap.size (Nat.le_refl _) (Old.start s) S_CS hz S_FM hW_fm p e ha hc hk s m _ below hf ((Spec.applies_iff_loose hf).mp happ).1 ⟨rfl, State.Warmed39.refl s, rfl, hCH⟩ trivial
  refine ⟨n, _, h1, h2, h3, hpost _ _ _ _ _ _ ⟨Cond.after_iff.mpr rfl, Cond.after_iff.mpr (eq_i res_at (Term.int_eval (1)) rfl), trivial⟩ ⟨hq.1, hq.2.1, hq.2.2.1, (hq.2.2.2.sift fun y hy => Or.inr (N y hy)).mono (by decide) (by decide)⟩⟩
theorem main_1_1 : Claimed_1_1 := comes_1 fun _ _ _ _ _ _ h hF => ⟨h.1, hF⟩
theorem main_1_2 : Claimed_1_2 := comes_1 fun _ _ _ _ _ _ h hF => ⟨h.2.1, hF⟩
end Jvm.Pilot.@@N@@
namespace Jvm.Pilot.@@N@@
open Jvm Jvm.ClassFile Sem Op Lib Jvm.Free Jvm.Stand Jvm.Pilot.@@N@@.Jvm.D
/-! MADE BY PROGRAM (witnessworld.py) out of the Statement's table words and the real class files: 27 classes; the members and pool entries that the words name. The judged class is class 1, her method 1. -/
namespace start1
open Jvm.ClassFile
def u (s : String) : CpInfo := .utf8 (stringToUtf16 s)
/-- a pool by its gaps: so many unusable entries, then the entry; so many at the end -/
def gap : Nat → List CpInfo → List CpInfo
  | 0, r => r
  | n + 1, r => .unusable :: gap n r
def poolList (es : List (Nat × CpInfo)) (last : Nat) : List CpInfo := es.foldr (fun e r => gap e.1 (e.2 :: r)) (gap last [])
def pool (es : List (Nat × CpInfo)) (last : Nat) : Array CpInfo := ⟨poolList es last⟩
def fileOf (pool : Array CpInfo) (this : Nat) (attrs : Array Attribute := #[]) (ms : Array MethodInfo := #[]) (fl : Nat := 33) (sup : Nat := 0) (ifs : Array Nat := #[]) (fds : Array FieldInfo := #[]) : ClassFile where
  minorVersion := 0
  majorVersion := 65
  constantPool := pool
  accessFlags := fl
  thisClass := this
  superClass := sup
  interfaces := ifs
  fields := fds
  methods := ms
  attributes := attrs
def plain (name : String) (sup : Option ClassId) : Class where
  name := name
  kind := .ordinary
  loader := none
  accessFlags := 33
  super := sup
  interfaces := #[]
  cf := none
  fields := #[]
  methods := #[]
  instanceTypes := #[]
  staticTypes := #[]
  resolved := #[]
  callSites := []
  init := .initialized
  statics := none
  mirror := none

def pool0 : Array CpInfo := pool [(5, u "<init>"), (0, u "()V"), (1, .class_ 10), (1, u "java/lang/Object")] 113

def k0c0 : Code := { maxStack := 0, maxLocals := 1, code := object_method_1_code, exceptionTable := #[], attributes := #[] }
def k0m0 : Method := { name := "<init>", desc := "()V", sig := { parameters := [], returnType := none }, accessFlags := 1, code := some k0c0 }
/-- java/lang/Object -/
def k0 : Class := { plain "java/lang/Object" none with
  accessFlags := 33
  interfaces := #[]
  cf := some (fileOf pool0 8 #[] #[{ accessFlags := 1, nameIndex := 5, descriptorIndex := 6, attributes := #[] }] 33 0 #[] #[])
  fields := #[]
  methods := #[k0m0]
  instanceTypes := #[]
  staticTypes := #[]
  resolved := Array.replicate 124 none
  statics := none }

def pool1 : Array CpInfo := pool [(2, .class_ 4), (1, u "java/lang/Object"), (0, u "<init>"), (0, u "()V"), (0, .methodref 8 9), (0, .class_ 10), (0, .nameAndType 11 12), (0, u "com/example/federant/federant/saml/HubEndpointsUnderPinLaw"), (0, u "noSlash"), (0, u "(I)C"), (0, .class_ 14), (0, u "java/lang/String"), (0, .methodref 13 16), (0, .nameAndType 5 17), (0, u "([C)V"), (0, .methodref 19 20), (0, .class_ 21), (0, .nameAndType 22 23), (0, u "com/example/federant/federant/saml/HubEndpoints"), (0, u "under"), (0, u "(Ljava/lang/String;)Lcom/example/federant/federant/saml/HubEndpoints;"), (0, .methodref 19 25), (0, .nameAndType 26 27), (0, u "entityId"), (0, u "()Ljava/lang/String;"), (0, .string 29), (0, u "/sp"), (0, .methodref 8 31), (0, .nameAndType 32 33), (0, u "matches"), (0, u "(Ljava/lang/String;[CILjava/lang/String;)Z"), (0, .methodref 19 35), (0, .nameAndType 36 27), (0, u "metadata"), (0, .string 38), (0, u "/sp/metadata"), (0, .methodref 19 40), (0, .nameAndType 41 27), (0, u "assertionConsumer"), (0, .string 43), (0, u "/sp/acs"), (0, .methodref 13 45), (0, .nameAndType 46 47), (0, u "length"), (0, u "()I"), (0, .methodref 8 49), (0, .nameAndType 50 51), (0, u "at"), (0, u "(Ljava/lang/String;I[CILjava/lang/String;)Z"), (0, .methodref 13 53), (0, .nameAndType 54 12), (0, u "charAt"), (2, u "law"), (0, u "(IIIII)Z")] 5

def k1m0 : Method := { name := "<init>", desc := "()V", sig := { parameters := [], returnType := none }, accessFlags := 1, code := none }
def k1c1 : Code := { maxStack := 7, maxLocals := 9, code := code, exceptionTable := #[], attributes := #[] }
def k1m1 : Method := { name := "law", desc := "(IIIII)Z", sig := { parameters := [.int, .int, .int, .int, .int], returnType := some .boolean }, accessFlags := 9, code := some k1c1 }
def k1c2 : Code := { maxStack := 2, maxLocals := 2, code := method_3_code, exceptionTable := #[], attributes := #[] }
def k1m2 : Method := { name := "noSlash", desc := "(I)C", sig := { parameters := [.int], returnType := some .char }, accessFlags := 10, code := some k1c2 }
def k1c3 : Code := { maxStack := 5, maxLocals := 4, code := method_4_code, exceptionTable := #[], attributes := #[] }
def k1m3 : Method := { name := "matches", desc := "(Ljava/lang/String;[CILjava/lang/String;)Z", sig := { parameters := [(.object "java/lang/String"), (.array .char), .int, (.object "java/lang/String")], returnType := some .boolean }, accessFlags := 10, code := some k1c3 }
def k1c4 : Code := { maxStack := 3, maxLocals := 6, code := method_5_code, exceptionTable := #[], attributes := #[] }
def k1m4 : Method := { name := "at", desc := "(Ljava/lang/String;I[CILjava/lang/String;)Z", sig := { parameters := [(.object "java/lang/String"), .int, (.array .char), .int, (.object "java/lang/String")], returnType := some .boolean }, accessFlags := 10, code := some k1c4 }
/-- com/example/federant/federant/saml/HubEndpointsUnderPinLaw -/
def k1 : Class := { plain "com/example/federant/federant/saml/HubEndpointsUnderPinLaw" (some 0) with
  accessFlags := 49
  interfaces := #[]
  cf := some (fileOf pool1 8 #[] #[{ accessFlags := 1, nameIndex := 5, descriptorIndex := 6, attributes := #[] }, { accessFlags := 9, nameIndex := 57, descriptorIndex := 58, attributes := #[] }, { accessFlags := 10, nameIndex := 11, descriptorIndex := 12, attributes := #[] }, { accessFlags := 10, nameIndex := 32, descriptorIndex := 33, attributes := #[] }, { accessFlags := 10, nameIndex := 50, descriptorIndex := 51, attributes := #[] }] 49 2 #[] #[])
  fields := #[]
  methods := #[k1m0, k1m1, k1m2, k1m3, k1m4]
  instanceTypes := #[]
  staticTypes := #[]
  resolved := Array.replicate 64 none
  statics := none }

def pool2 : Array CpInfo := pool [(1, .class_ 2), (0, u "java/io/Serializable"), (0, .class_ 4), (0, u "java/lang/Object")] 2

/-- java/io/Serializable -/
def k2 : Class := { plain "java/io/Serializable" (some 0) with
  accessFlags := 1537
  interfaces := #[]
  cf := some (fileOf pool2 1 #[] #[] 1537 3 #[] #[])
  fields := #[]
  methods := #[]
  instanceTypes := #[]
  staticTypes := #[]
  resolved := Array.replicate 7 none
  statics := none }

def pool3 : Array CpInfo := pool [(1, .class_ 2), (0, u "java/lang/Comparable"), (0, .class_ 4), (0, u "java/lang/Object")] 7

/-- java/lang/Comparable -/
def k3 : Class := { plain "java/lang/Comparable" (some 0) with
  accessFlags := 1537
  interfaces := #[]
  cf := some (fileOf pool3 1 #[] #[] 1537 3 #[] #[])
  fields := #[]
  methods := #[]
  instanceTypes := #[]
  staticTypes := #[]
  resolved := Array.replicate 12 none
  statics := none }

def pool4 : Array CpInfo := pool [(2, .class_ 4), (1, u "java/lang/CharSequence"), (42, .class_ 48), (0, u "java/lang/CharSequence$1CodePointIterator"), (10, .class_ 60), (0, u "java/lang/CharSequence$1CharIterator"), (5, .class_ 67), (0, u "java/lang/Object")] 63

/-- java/lang/CharSequence -/
def k4 : Class := { plain "java/lang/CharSequence" (some 0) with
  accessFlags := 1537
  interfaces := #[]
  cf := some (fileOf pool4 2 #[.nestMembers #[47, 59]] #[] 1537 66 #[] #[])
  fields := #[]
  methods := #[]
  instanceTypes := #[]
  staticTypes := #[]
  resolved := Array.replicate 131 none
  statics := none }

def pool5 : Array CpInfo := pool [(1, .class_ 2), (0, u "java/lang/constant/Constable"), (0, .class_ 4), (0, u "java/lang/Object")] 6

/-- java/lang/constant/Constable -/
def k5 : Class := { plain "java/lang/constant/Constable" (some 0) with
  accessFlags := 1537
  interfaces := #[]
  cf := some (fileOf pool5 1 #[] #[] 1537 3 #[] #[])
  fields := #[]
  methods := #[]
  instanceTypes := #[]
  staticTypes := #[]
  resolved := Array.replicate 11 none
  statics := none }

def pool6 : Array CpInfo := pool [(1, .class_ 2), (0, u "java/lang/constant/ConstantDesc"), (0, .class_ 4), (0, u "java/lang/Object")] 32

/-- java/lang/constant/ConstantDesc -/
def k6 : Class := { plain "java/lang/constant/ConstantDesc" (some 0) with
  accessFlags := 1537
  interfaces := #[]
  cf := some (fileOf pool6 1 #[] #[] 1537 3 #[] #[])
  fields := #[]
  methods := #[]
  instanceTypes := #[]
  staticTypes := #[]
  resolved := Array.replicate 37 none
  statics := none }

def pool7 : Array CpInfo := pool [(1, .methodref 2 3), (0, .class_ 4), (0, .nameAndType 5 6), (0, u "java/lang/Object"), (0, u "<init>"), (0, u "()V"), (0, .string 8), (0, u ""), (0, .fieldref 10 11), (0, .class_ 12), (0, .nameAndType 13 14), (0, u "java/lang/String"), (0, u "value"), (0, u "[B"), (0, .fieldref 10 16), (0, .nameAndType 17 18), (0, u "coder"), (0, u "B"), (2, u "hash"), (0, u "I"), (2, u "hashIsZero"), (0, u "Z"), (0, .methodref 10 28), (0, .nameAndType 5 29), (0, u "([CIILjava/lang/Void;)V"), (8, .fieldref 10 39), (0, .nameAndType 40 26), (0, u "COMPACT_STRINGS"), (1, .class_ 44), (1, u "java/lang/StringUTF16"), (0, u "compress"), (1, .methodref 42 48), (0, .nameAndType 49 50), (0, u "coderFromArrayLen"), (0, u "([BI)B"), (3, .methodref 55 56), (0, .class_ 57), (0, .nameAndType 58 59), (0, u "java/util/Arrays"), (0, u "copyOfRange"), (0, u "([BII)[B"), (47, .class_ 109), (1, u "java/lang/StringLatin1"), (32, u "()Z"), (34, .methodref 42 178), (0, .nameAndType 45 179), (0, u "([CII)[B"), (13, .class_ 195), (1, u "java/lang/System"), (16, .methodref 193 213), (0, .nameAndType 214 215), (0, u "arraycopy"), (0, u "(Ljava/lang/Object;ILjava/lang/Object;II)V"), (118, u "()I"), (0, .methodref 10 336), (0, .nameAndType 17 337), (0, u "()B"), (2, u "()[B"), (22, u "([BI)C"), (12, u "([BI[BII)I"), (14, u "(II)V"), (35, u "(I)C"), (61, .methodref 10 490), (0, .nameAndType 5 491), (0, u "(Ljava/lang/AbstractStringBuilder;Ljava/lang/Void;)V"), (0, .methodref 10 493), (0, .nameAndType 494 142), (0, u "isLatin1"), (0, .methodref 107 496), (0, .nameAndType 497 363), (0, u "charAt"), (3, u "checkIndex"), (3, .methodref 10 506), (0, .nameAndType 507 334), (0, u "length"), (24, u "getBytes"), (16, .methodref 550 506), (0, .class_ 551), (0, u "java/lang/AbstractStringBuilder"), (0, .methodref 550 553), (0, .nameAndType 554 340), (0, u "getValue"), (4, .class_ 561), (1, u "jdk/internal/util/ArraysSupport"), (0, u "mismatch"), (12, .class_ 576), (0, u "java/lang/CharSequence"), (22, u "CASE_INSENSITIVE_ORDER"), (0, u "Ljava/util/Comparator;"), (6, .methodref 559 608), (0, .nameAndType 562 376), (15, .methodref 10 625), (0, .nameAndType 626 627), (0, u "startsWith"), (0, u "(Ljava/lang/String;I)Z"), (193, u "([BIB)V"), (188, u "([C)V"), (36, .methodref 550 493), (5, .fieldref 1054 1055), (0, .class_ 1056), (0, .nameAndType 1057 1058), (0, u "jdk/internal/util/Preconditions"), (0, u "SIOOBE_FORMATTER"), (0, u "Ljava/util/function/BiFunction;"), (0, .methodref 1054 1060), (0, .nameAndType 501 1061), (0, u "(IILjava/util/function/BiFunction;)I"), (39, u "serialPersistentFields"), (0, u "[Ljava/io/ObjectStreamField;"), (0, .class_ 1104), (0, u "java/lang/String$CaseInsensitiveComparator"), (1, .class_ 1107), (0, u "java/io/Serializable"), (0, .class_ 1109), (0, u "java/lang/Comparable"), (0, .class_ 1111), (0, u "java/lang/constant/Constable"), (0, .class_ 1113), (0, u "java/lang/constant/ConstantDesc"), (2, u "serialVersionUID"), (0, u "J"), (3, u "REPL"), (0, u "C"), (2, u "LATIN1"), (1, u "UTF16"), (105, u "(Ljava/lang/StringBuilder;)V"), (23, u "(Ljava/lang/String;)Z"), (14, u "endsWith")] 178

def k7m0 : Method := { name := "<init>", desc := "()V", sig := { parameters := [], returnType := none }, accessFlags := 1, code := none }
def k7c1 : Code := { maxStack := 5, maxLocals := 2, code := jdk_42_method_3_code, exceptionTable := #[], attributes := #[] }
def k7m1 : Method := { name := "<init>", desc := "([C)V", sig := { parameters := [(.array .char)], returnType := none }, accessFlags := 1, code := some k7c1 }
def k7c2 : Code := { maxStack := 3, maxLocals := 2, code := jdk_42_method_53_code, exceptionTable := #[], attributes := #[] }
def k7m2 : Method := { name := "<init>", desc := "(Ljava/lang/StringBuilder;)V", sig := { parameters := [(.object "java/lang/StringBuilder")], returnType := none }, accessFlags := 1, code := some k7c2 }
def k7c3 : Code := { maxStack := 2, maxLocals := 1, code := jdk_42_method_54_code, exceptionTable := #[], attributes := #[] }
def k7m3 : Method := { name := "length", desc := "()I", sig := { parameters := [], returnType := some .int }, accessFlags := 1, code := some k7c3 }
def k7c4 : Code := { maxStack := 2, maxLocals := 2, code := jdk_42_method_56_code, exceptionTable := #[], attributes := #[] }
def k7m4 : Method := { name := "charAt", desc := "(I)C", sig := { parameters := [.int], returnType := some .char }, accessFlags := 1, code := some k7c4 }
def k7c5 : Code := { maxStack := 5, maxLocals := 8, code := jdk_42_method_75_code, exceptionTable := #[], attributes := #[] }
def k7m5 : Method := { name := "startsWith", desc := "(Ljava/lang/String;I)Z", sig := { parameters := [(.object "java/lang/String"), .int], returnType := some .boolean }, accessFlags := 1, code := some k7c5 }
def k7c6 : Code := { maxStack := 4, maxLocals := 2, code := jdk_42_method_77_code, exceptionTable := #[], attributes := #[] }
def k7m6 : Method := { name := "endsWith", desc := "(Ljava/lang/String;)Z", sig := { parameters := [(.object "java/lang/String")], returnType := some .boolean }, accessFlags := 1, code := some k7c6 }
def k7c7 : Code := { maxStack := 5, maxLocals := 4, code := jdk_42_method_147_code, exceptionTable := #[], attributes := #[] }
def k7m7 : Method := { name := "getBytes", desc := "([BIB)V", sig := { parameters := [(.array .byte), .int, .byte], returnType := none }, accessFlags := 0, code := some k7c7 }
def k7c8 : Code := { maxStack := 4, maxLocals := 6, code := jdk_42_method_149_code, exceptionTable := #[], attributes := #[] }
def k7m8 : Method := { name := "<init>", desc := "([CIILjava/lang/Void;)V", sig := { parameters := [(.array .char), .int, .int, (.object "java/lang/Void")], returnType := none }, accessFlags := 2, code := some k7c8 }
def k7c9 : Code := { maxStack := 5, maxLocals := 5, code := jdk_42_method_150_code, exceptionTable := #[], attributes := #[] }
def k7m9 : Method := { name := "<init>", desc := "(Ljava/lang/AbstractStringBuilder;Ljava/lang/Void;)V", sig := { parameters := [(.object "java/lang/AbstractStringBuilder"), (.object "java/lang/Void")], returnType := none }, accessFlags := 0, code := some k7c9 }
def k7c10 : Code := { maxStack := 1, maxLocals := 1, code := jdk_42_method_152_code, exceptionTable := #[], attributes := #[] }
def k7m10 : Method := { name := "coder", desc := "()B", sig := { parameters := [], returnType := some .byte }, accessFlags := 0, code := some k7c10 }
def k7c11 : Code := { maxStack := 1, maxLocals := 1, code := jdk_42_method_154_code, exceptionTable := #[], attributes := #[] }
def k7m11 : Method := { name := "isLatin1", desc := "()Z", sig := { parameters := [], returnType := some .boolean }, accessFlags := 0, code := some k7c11 }
def k7c12 : Code := { maxStack := 3, maxLocals := 2, code := jdk_42_method_155_code, exceptionTable := #[], attributes := #[] }
def k7m12 : Method := { name := "checkIndex", desc := "(II)V", sig := { parameters := [.int, .int], returnType := none }, accessFlags := 8, code := some k7c12 }
/-- java/lang/String -/
def k7 : Class := { plain "java/lang/String" (some 0) with
  accessFlags := 49
  interfaces := #[2, 3, 4, 5, 6]
  cf := some (fileOf pool7 10 #[.nestMembers #[1103]] #[{ accessFlags := 1, nameIndex := 5, descriptorIndex := 6, attributes := #[] }, { accessFlags := 1, nameIndex := 5, descriptorIndex := 1010, attributes := #[] }, { accessFlags := 1, nameIndex := 5, descriptorIndex := 1233, attributes := #[] }, { accessFlags := 1, nameIndex := 507, descriptorIndex := 334, attributes := #[] }, { accessFlags := 1, nameIndex := 497, descriptorIndex := 427, attributes := #[] }, { accessFlags := 1, nameIndex := 626, descriptorIndex := 627, attributes := #[] }, { accessFlags := 1, nameIndex := 1272, descriptorIndex := 1257, attributes := #[] }, { accessFlags := 0, nameIndex := 532, descriptorIndex := 821, attributes := #[] }, { accessFlags := 2, nameIndex := 5, descriptorIndex := 29, attributes := #[] }, { accessFlags := 0, nameIndex := 5, descriptorIndex := 491, attributes := #[] }, { accessFlags := 0, nameIndex := 17, descriptorIndex := 337, attributes := #[] }, { accessFlags := 0, nameIndex := 494, descriptorIndex := 142, attributes := #[] }, { accessFlags := 8, nameIndex := 501, descriptorIndex := 391, attributes := #[] }] 49 2 #[1106, 1108, 575, 1110, 1112] #[{ accessFlags := 18, nameIndex := 13, descriptorIndex := 14, attributes := #[] }, { accessFlags := 18, nameIndex := 17, descriptorIndex := 18, attributes := #[] }, { accessFlags := 2, nameIndex := 21, descriptorIndex := 22, attributes := #[] }, { accessFlags := 2, nameIndex := 25, descriptorIndex := 26, attributes := #[] }, { accessFlags := 26, nameIndex := 1116, descriptorIndex := 1117, attributes := #[] }, { accessFlags := 24, nameIndex := 40, descriptorIndex := 26, attributes := #[] }, { accessFlags := 26, nameIndex := 1101, descriptorIndex := 1102, attributes := #[] }, { accessFlags := 26, nameIndex := 1121, descriptorIndex := 1122, attributes := #[] }, { accessFlags := 25, nameIndex := 599, descriptorIndex := 600, attributes := #[] }, { accessFlags := 24, nameIndex := 1125, descriptorIndex := 18, attributes := #[] }, { accessFlags := 24, nameIndex := 1127, descriptorIndex := 18, attributes := #[] }])
  fields := #[{ name := "value", type := (.array .byte), accessFlags := 18, slot := 0, constantValue := 0 }, { name := "coder", type := .byte, accessFlags := 18, slot := 1, constantValue := 0 }, { name := "hash", type := .int, accessFlags := 2, slot := 2, constantValue := 0 }, { name := "hashIsZero", type := .boolean, accessFlags := 2, slot := 3, constantValue := 0 }, { name := "serialVersionUID", type := .long, accessFlags := 26, slot := 0, constantValue := 0 }, { name := "COMPACT_STRINGS", type := .boolean, accessFlags := 24, slot := 1, constantValue := 0 }, { name := "serialPersistentFields", type := (.array (.object "java/io/ObjectStreamField")), accessFlags := 26, slot := 2, constantValue := 0 }, { name := "REPL", type := .char, accessFlags := 26, slot := 3, constantValue := 0 }, { name := "CASE_INSENSITIVE_ORDER", type := (.object "java/util/Comparator"), accessFlags := 25, slot := 4, constantValue := 0 }, { name := "LATIN1", type := .byte, accessFlags := 24, slot := 5, constantValue := 0 }, { name := "UTF16", type := .byte, accessFlags := 24, slot := 6, constantValue := 0 }]
  methods := #[k7m0, k7m1, k7m2, k7m3, k7m4, k7m5, k7m6, k7m7, k7m8, k7m9, k7m10, k7m11, k7m12]
  instanceTypes := #[(.array .byte), .byte, .int, .boolean]
  staticTypes := #[.long, .boolean, (.array (.object "java/io/ObjectStreamField")), .char, (.object "java/util/Comparator"), .byte, .byte]
  resolved := Array.replicate 1451 none
  statics := some 0 }

def pool8 : Array CpInfo := pool [(1, .methodref 2 3), (0, .class_ 4), (0, .nameAndType 5 6), (0, u "java/lang/Object"), (0, u "<init>"), (0, u "()V"), (0, .class_ 8), (0, u "java/lang/Record")] 13

def k8c0 : Code := { maxStack := 1, maxLocals := 1, code := jdk_30_method_1_code, exceptionTable := #[], attributes := #[] }
def k8m0 : Method := { name := "<init>", desc := "()V", sig := { parameters := [], returnType := none }, accessFlags := 4, code := some k8c0 }
/-- java/lang/Record -/
def k8 : Class := { plain "java/lang/Record" (some 0) with
  accessFlags := 1057
  interfaces := #[]
  cf := some (fileOf pool8 7 #[] #[{ accessFlags := 4, nameIndex := 5, descriptorIndex := 6, attributes := #[] }] 1057 2 #[] #[])
  fields := #[]
  methods := #[k8m0]
  instanceTypes := #[]
  staticTypes := #[]
  resolved := Array.replicate 22 none
  statics := none }

def pool9 : Array CpInfo := pool [(1, .methodref 2 3), (0, .class_ 4), (0, .nameAndType 5 6), (0, u "java/lang/Record"), (0, u "<init>"), (0, u "()V"), (0, .fieldref 8 9), (0, .class_ 10), (0, .nameAndType 11 12), (0, u "com/example/federant/federant/saml/HubEndpoints"), (0, u "entityId"), (0, u "Ljava/lang/String;"), (0, .fieldref 8 14), (0, .nameAndType 15 12), (0, u "metadata"), (0, .fieldref 8 17), (0, .nameAndType 18 12), (0, u "assertionConsumer"), (0, .string 20), (0, u "/"), (0, .methodref 22 23), (0, .class_ 24), (0, .nameAndType 25 26), (0, u "java/lang/String"), (0, u "endsWith"), (0, u "(Ljava/lang/String;)Z"), (2, .class_ 30), (0, u "java/lang/StringBuilder"), (0, .methodref 29 3), (2, .methodref 29 35), (0, .nameAndType 36 37), (0, u "append"), (0, u "(Ljava/lang/String;)Ljava/lang/StringBuilder;"), (0, .methodref 29 39), (0, .nameAndType 40 41), (0, u "toString"), (0, u "()Ljava/lang/String;"), (3, .string 46), (0, u "/sp"), (0, .string 48), (0, u "/sp/metadata"), (0, .string 50), (0, u "/sp/acs"), (0, .methodref 8 52), (0, .nameAndType 5 53), (0, u "(Ljava/lang/String;Ljava/lang/String;Ljava/lang/String;)V"), (14, u "under"), (0, u "(Ljava/lang/String;)Lcom/example/federant/federant/saml/HubEndpoints;")] 25

def k9c0 : Code := { maxStack := 2, maxLocals := 4, code := prog_24_method_1_code, exceptionTable := #[], attributes := #[] }
def k9m0 : Method := { name := "<init>", desc := "(Ljava/lang/String;Ljava/lang/String;Ljava/lang/String;)V", sig := { parameters := [(.object "java/lang/String"), (.object "java/lang/String"), (.object "java/lang/String")], returnType := none }, accessFlags := 1, code := some k9c0 }
def k9c1 : Code := { maxStack := 6, maxLocals := 1, code := prog_24_method_2_code, exceptionTable := #[], attributes := #[] }
def k9m1 : Method := { name := "under", desc := "(Ljava/lang/String;)Lcom/example/federant/federant/saml/HubEndpoints;", sig := { parameters := [(.object "java/lang/String")], returnType := some (.object "com/example/federant/federant/saml/HubEndpoints") }, accessFlags := 9, code := some k9c1 }
def k9c2 : Code := { maxStack := 1, maxLocals := 1, code := prog_24_method_6_code, exceptionTable := #[], attributes := #[] }
def k9m2 : Method := { name := "entityId", desc := "()Ljava/lang/String;", sig := { parameters := [], returnType := some (.object "java/lang/String") }, accessFlags := 1, code := some k9c2 }
def k9c3 : Code := { maxStack := 1, maxLocals := 1, code := prog_24_method_7_code, exceptionTable := #[], attributes := #[] }
def k9m3 : Method := { name := "metadata", desc := "()Ljava/lang/String;", sig := { parameters := [], returnType := some (.object "java/lang/String") }, accessFlags := 1, code := some k9c3 }
def k9c4 : Code := { maxStack := 1, maxLocals := 1, code := prog_24_method_8_code, exceptionTable := #[], attributes := #[] }
def k9m4 : Method := { name := "assertionConsumer", desc := "()Ljava/lang/String;", sig := { parameters := [], returnType := some (.object "java/lang/String") }, accessFlags := 1, code := some k9c4 }
/-- com/example/federant/federant/saml/HubEndpoints -/
def k9 : Class := { plain "com/example/federant/federant/saml/HubEndpoints" (some 8) with
  accessFlags := 49
  interfaces := #[]
  cf := some (fileOf pool9 8 #[] #[{ accessFlags := 1, nameIndex := 5, descriptorIndex := 53, attributes := #[] }, { accessFlags := 9, nameIndex := 68, descriptorIndex := 69, attributes := #[] }, { accessFlags := 1, nameIndex := 11, descriptorIndex := 41, attributes := #[] }, { accessFlags := 1, nameIndex := 15, descriptorIndex := 41, attributes := #[] }, { accessFlags := 1, nameIndex := 18, descriptorIndex := 41, attributes := #[] }] 49 2 #[] #[{ accessFlags := 18, nameIndex := 11, descriptorIndex := 12, attributes := #[] }, { accessFlags := 18, nameIndex := 15, descriptorIndex := 12, attributes := #[] }, { accessFlags := 18, nameIndex := 18, descriptorIndex := 12, attributes := #[] }])
  fields := #[{ name := "entityId", type := (.object "java/lang/String"), accessFlags := 18, slot := 0, constantValue := 0 }, { name := "metadata", type := (.object "java/lang/String"), accessFlags := 18, slot := 1, constantValue := 0 }, { name := "assertionConsumer", type := (.object "java/lang/String"), accessFlags := 18, slot := 2, constantValue := 0 }]
  methods := #[k9m0, k9m1, k9m2, k9m3, k9m4]
  instanceTypes := #[(.object "java/lang/String"), (.object "java/lang/String"), (.object "java/lang/String")]
  staticTypes := #[]
  resolved := Array.replicate 95 none
  statics := none }

def pool10 : Array CpInfo := pool [(1, .class_ 2), (0, u "java/lang/Appendable"), (0, .class_ 4), (0, u "java/lang/Object")] 9

/-- java/lang/Appendable -/
def k10 : Class := { plain "java/lang/Appendable" (some 0) with
  accessFlags := 1537
  interfaces := #[]
  cf := some (fileOf pool10 1 #[] #[] 1537 3 #[] #[])
  fields := #[]
  methods := #[]
  instanceTypes := #[]
  staticTypes := #[]
  resolved := Array.replicate 14 none
  statics := none }

def pool11 : Array CpInfo := pool [(1, .class_ 2), (0, u "java/lang/String"), (0, .methodref 4 5), (0, .class_ 6), (0, .nameAndType 7 8), (0, u "java/lang/Object"), (0, u "<init>"), (0, u "()V"), (1, .class_ 12), (1, u "java/lang/AbstractStringBuilder"), (0, u "EMPTYVALUE"), (0, u "[B"), (0, .fieldref 10 16), (0, .nameAndType 17 14), (0, u "value"), (0, .fieldref 1 19), (0, .nameAndType 20 21), (0, u "COMPACT_STRINGS"), (0, u "Z"), (0, .fieldref 10 23), (0, .nameAndType 24 25), (0, u "coder"), (0, u "B"), (6, .methodref 1 33), (0, .nameAndType 34 35), (0, u "length"), (0, u "()I"), (4, .methodref 1 41), (0, .nameAndType 24 42), (0, u "()B"), (2, u "append"), (0, u "(Ljava/lang/String;)Ljava/lang/AbstractStringBuilder;"), (1, .class_ 49), (0, u "java/lang/CharSequence"), (19, u "(Ljava/lang/String;)V"), (5, u "maybeLatin1"), (3, .fieldref 10 80), (0, .nameAndType 81 82), (0, u "count"), (0, u "I"), (2, u "isLatin1"), (0, u "()Z"), (13, .methodref 10 101), (0, .nameAndType 102 103), (0, u "ensureCapacityInternal"), (0, u "(I)V"), (104, .methodref 10 209), (0, .nameAndType 210 211), (0, u "putStringAt"), (0, u "(ILjava/lang/String;)V"), (5, u "inflateIfNeededFor"), (2, .nameAndType 221 222), (0, u "getBytes"), (0, u "([BIB)V"), (174, .methodref 10 398), (0, .nameAndType 217 69), (0, .methodref 1 220), (3, u "()[B"), (40, .class_ 445), (0, u "java/lang/Appendable"), (106, u "getValue")] 56

def k11m0 : Method := { name := "<init>", desc := "()V", sig := { parameters := [], returnType := none }, accessFlags := 0, code := none }
def k11c1 : Code := { maxStack := 2, maxLocals := 2, code := jdk_68_method_2_code, exceptionTable := #[], attributes := #[] }
def k11m1 : Method := { name := "<init>", desc := "(I)V", sig := { parameters := [.int], returnType := none }, accessFlags := 0, code := some k11c1 }
def k11c2 : Code := { maxStack := 1, maxLocals := 1, code := jdk_68_method_6_code, exceptionTable := #[], attributes := #[] }
def k11m2 : Method := { name := "length", desc := "()I", sig := { parameters := [], returnType := some .int }, accessFlags := 1, code := some k11c2 }
def k11c3 : Code := { maxStack := 4, maxLocals := 3, code := jdk_68_method_9_code, exceptionTable := #[], attributes := #[] }
def k11m3 : Method := { name := "ensureCapacityInternal", desc := "(I)V", sig := { parameters := [.int], returnType := none }, accessFlags := 2, code := some k11c3 }
def k11c4 : Code := { maxStack := 3, maxLocals := 3, code := jdk_68_method_22_code, exceptionTable := #[], attributes := #[] }
def k11m4 : Method := { name := "append", desc := "(Ljava/lang/String;)Ljava/lang/AbstractStringBuilder;", sig := { parameters := [(.object "java/lang/String")], returnType := some (.object "java/lang/AbstractStringBuilder") }, accessFlags := 1, code := some k11c4 }
def k11c5 : Code := { maxStack := 1, maxLocals := 1, code := jdk_68_method_64_code, exceptionTable := #[], attributes := #[] }
def k11m5 : Method := { name := "getValue", desc := "()[B", sig := { parameters := [], returnType := some (.array .byte) }, accessFlags := 16, code := some k11c5 }
def k11c6 : Code := { maxStack := 1, maxLocals := 1, code := jdk_68_method_68_code, exceptionTable := #[], attributes := #[] }
def k11m6 : Method := { name := "isLatin1", desc := "()Z", sig := { parameters := [], returnType := some .boolean }, accessFlags := 16, code := some k11c6 }
def k11c7 : Code := { maxStack := 2, maxLocals := 2, code := jdk_68_method_71_code, exceptionTable := #[], attributes := #[] }
def k11m7 : Method := { name := "inflateIfNeededFor", desc := "(Ljava/lang/String;)V", sig := { parameters := [(.object "java/lang/String")], returnType := none }, accessFlags := 2, code := some k11c7 }
def k11c8 : Code := { maxStack := 4, maxLocals := 3, code := jdk_68_method_73_code, exceptionTable := #[], attributes := #[] }
def k11m8 : Method := { name := "putStringAt", desc := "(ILjava/lang/String;)V", sig := { parameters := [.int, (.object "java/lang/String")], returnType := none }, accessFlags := 2, code := some k11c8 }
/-- java/lang/AbstractStringBuilder -/
def k11 : Class := { plain "java/lang/AbstractStringBuilder" (some 0) with
  accessFlags := 1056
  interfaces := #[10, 4]
  cf := some (fileOf pool11 10 #[] #[{ accessFlags := 0, nameIndex := 7, descriptorIndex := 8, attributes := #[] }, { accessFlags := 0, nameIndex := 7, descriptorIndex := 103, attributes := #[] }, { accessFlags := 1, nameIndex := 34, descriptorIndex := 35, attributes := #[] }, { accessFlags := 2, nameIndex := 102, descriptorIndex := 103, attributes := #[] }, { accessFlags := 1, nameIndex := 45, descriptorIndex := 46, attributes := #[] }, { accessFlags := 16, nameIndex := 552, descriptorIndex := 403, attributes := #[] }, { accessFlags := 16, nameIndex := 85, descriptorIndex := 86, attributes := #[] }, { accessFlags := 2, nameIndex := 217, descriptorIndex := 69, attributes := #[] }, { accessFlags := 2, nameIndex := 210, descriptorIndex := 211, attributes := #[] }] 1056 4 #[444, 48] #[{ accessFlags := 0, nameIndex := 17, descriptorIndex := 14, attributes := #[] }, { accessFlags := 0, nameIndex := 24, descriptorIndex := 25, attributes := #[] }, { accessFlags := 0, nameIndex := 75, descriptorIndex := 21, attributes := #[] }, { accessFlags := 0, nameIndex := 81, descriptorIndex := 82, attributes := #[] }, { accessFlags := 26, nameIndex := 13, descriptorIndex := 14, attributes := #[] }])
  fields := #[{ name := "value", type := (.array .byte), accessFlags := 0, slot := 0, constantValue := 0 }, { name := "coder", type := .byte, accessFlags := 0, slot := 1, constantValue := 0 }, { name := "maybeLatin1", type := .boolean, accessFlags := 0, slot := 2, constantValue := 0 }, { name := "count", type := .int, accessFlags := 0, slot := 3, constantValue := 0 }, { name := "EMPTYVALUE", type := (.array .byte), accessFlags := 26, slot := 0, constantValue := 0 }]
  methods := #[k11m0, k11m1, k11m2, k11m3, k11m4, k11m5, k11m6, k11m7, k11m8]
  instanceTypes := #[(.array .byte), .byte, .boolean, .int]
  staticTypes := #[(.array .byte)]
  resolved := Array.replicate 609 none
  statics := none }

def pool12 : Array CpInfo := pool [(1, .methodref 2 3), (0, .class_ 4), (0, .nameAndType 5 6), (0, u "java/lang/AbstractStringBuilder"), (0, u "<init>"), (0, u "(I)V"), (11, .class_ 20), (1, u "java/lang/String"), (3, .class_ 26), (1, u "java/lang/StringBuilder"), (0, u "append"), (0, u "(Ljava/lang/String;)Ljava/lang/StringBuilder;"), (0, .methodref 2 30), (0, .nameAndType 27 31), (0, u "(Ljava/lang/String;)Ljava/lang/AbstractStringBuilder;"), (105, .methodref 18 138), (0, .nameAndType 5 139), (0, u "(Ljava/lang/StringBuilder;)V"), (5, u "()V"), (10, u "()I"), (186, .methodref 2 344), (0, .nameAndType 345 156), (0, u "length"), (3, .class_ 350), (0, u "java/lang/Appendable"), (0, .class_ 352), (0, u "java/io/Serializable"), (0, .class_ 354), (0, u "java/lang/Comparable"), (0, .class_ 356), (0, u "java/lang/CharSequence"), (0, u "serialVersionUID"), (0, u "J"), (40, u "toString"), (0, u "()Ljava/lang/String;")] 21

def k12c0 : Code := { maxStack := 2, maxLocals := 1, code := jdk_67_method_1_code, exceptionTable := #[], attributes := #[] }
def k12m0 : Method := { name := "<init>", desc := "()V", sig := { parameters := [], returnType := none }, accessFlags := 1, code := some k12c0 }
def k12c1 : Code := { maxStack := 2, maxLocals := 2, code := jdk_67_method_7_code, exceptionTable := #[], attributes := #[] }
def k12m1 : Method := { name := "append", desc := "(Ljava/lang/String;)Ljava/lang/StringBuilder;", sig := { parameters := [(.object "java/lang/String")], returnType := some (.object "java/lang/StringBuilder") }, accessFlags := 1, code := some k12c1 }
def k12c2 : Code := { maxStack := 3, maxLocals := 1, code := jdk_67_method_42_code, exceptionTable := #[], attributes := #[] }
def k12m2 : Method := { name := "toString", desc := "()Ljava/lang/String;", sig := { parameters := [], returnType := some (.object "java/lang/String") }, accessFlags := 1, code := some k12c2 }
def k12c3 : Code := { maxStack := 1, maxLocals := 1, code := jdk_67_method_93_code, exceptionTable := #[], attributes := #[] }
def k12m3 : Method := { name := "length", desc := "()I", sig := { parameters := [], returnType := some .int }, accessFlags := 4161, code := some k12c3 }
/-- java/lang/StringBuilder -/
def k12 : Class := { plain "java/lang/StringBuilder" (some 11) with
  accessFlags := 49
  interfaces := #[10, 2, 3, 4]
  cf := some (fileOf pool12 24 #[] #[{ accessFlags := 1, nameIndex := 5, descriptorIndex := 145, attributes := #[] }, { accessFlags := 1, nameIndex := 27, descriptorIndex := 28, attributes := #[] }, { accessFlags := 1, nameIndex := 399, descriptorIndex := 400, attributes := #[] }, { accessFlags := 4161, nameIndex := 345, descriptorIndex := 156, attributes := #[] }] 49 2 #[349, 351, 353, 355] #[{ accessFlags := 24, nameIndex := 357, descriptorIndex := 358, attributes := #[] }])
  fields := #[{ name := "serialVersionUID", type := .long, accessFlags := 24, slot := 0, constantValue := 0 }]
  methods := #[k12m0, k12m1, k12m2, k12m3]
  instanceTypes := #[(.array .byte), .byte, .boolean, .int]
  staticTypes := #[.long]
  resolved := Array.replicate 422 none
  statics := none }

def pool13 : Array CpInfo := pool [(2, .class_ 4), (1, u "java/lang/Object"), (0, u "<init>"), (0, u "()V"), (1, .class_ 10), (1, u "java/lang/System"), (0, u "allowSecurityManager"), (0, u "I"), (16, u "cons"), (0, u "Ljava/io/Console;"), (77, .class_ 110), (1, u "java/lang/System$CallersHolder"), (43, u "initialErrStream"), (0, u "Ljava/io/PrintStream;"), (19, u "security"), (0, u "Ljava/lang/SecurityManager;"), (31, .class_ 209), (0, u "java/lang/System$1"), (7, u "props"), (0, u "Ljava/util/Properties;"), (2, u "lineSeparator"), (0, u "Ljava/lang/String;"), (96, .class_ 321), (1, u "java/lang/System$LoggerFinder"), (5, .class_ 328), (0, u "java/lang/System$Logger"), (67, u "err"), (2, u "out"), (91, u "notSupportedJnuEncoding"), (15, u "in"), (17, u "initialIn"), (0, u "Ljava/io/InputStream;"), (35, u "bootLayer"), (0, u "Ljava/lang/ModuleLayer;"), (99, .class_ 664), (0, u "java/lang/System$2"), (9, u "NEVER"), (2, u "MAYBE"), (49, u "arraycopy"), (0, u "(Ljava/lang/Object;ILjava/lang/Object;II)V"), (72, .class_ 802), (0, u "java/lang/System$Logger$Level")] 31

def k13m0 : Method := { name := "<init>", desc := "()V", sig := { parameters := [], returnType := none }, accessFlags := 2, code := none }
def k13m1 : Method := { name := "arraycopy", desc := "(Ljava/lang/Object;ILjava/lang/Object;II)V", sig := { parameters := [(.object "java/lang/Object"), .int, (.object "java/lang/Object"), .int, .int], returnType := none }, accessFlags := 265, code := none }
/-- java/lang/System -/
def k13 : Class := { plain "java/lang/System" (some 0) with
  accessFlags := 49
  interfaces := #[]
  cf := some (fileOf pool13 8 #[.nestMembers #[319, 327, 801, 108, 663, 208]] #[{ accessFlags := 2, nameIndex := 5, descriptorIndex := 6, attributes := #[] }, { accessFlags := 265, nameIndex := 727, descriptorIndex := 728, attributes := #[] }] 49 2 #[] #[{ accessFlags := 25, nameIndex := 507, descriptorIndex := 526, attributes := #[] }, { accessFlags := 25, nameIndex := 399, descriptorIndex := 155, attributes := #[] }, { accessFlags := 25, nameIndex := 396, descriptorIndex := 155, attributes := #[] }, { accessFlags := 10, nameIndex := 525, descriptorIndex := 526, attributes := #[] }, { accessFlags := 26, nameIndex := 674, descriptorIndex := 12, attributes := #[] }, { accessFlags := 26, nameIndex := 677, descriptorIndex := 12, attributes := #[] }, { accessFlags := 10, nameIndex := 11, descriptorIndex := 12, attributes := #[] }, { accessFlags := 74, nameIndex := 175, descriptorIndex := 176, attributes := #[] }, { accessFlags := 10, nameIndex := 491, descriptorIndex := 222, attributes := #[] }, { accessFlags := 74, nameIndex := 29, descriptorIndex := 30, attributes := #[] }, { accessFlags := 74, nameIndex := 154, descriptorIndex := 155, attributes := #[] }, { accessFlags := 10, nameIndex := 217, descriptorIndex := 218, attributes := #[] }, { accessFlags := 10, nameIndex := 221, descriptorIndex := 222, attributes := #[] }, { accessFlags := 8, nameIndex := 562, descriptorIndex := 563, attributes := #[] }])
  fields := #[{ name := "in", type := (.object "java/io/InputStream"), accessFlags := 25, slot := 0, constantValue := 0 }, { name := "out", type := (.object "java/io/PrintStream"), accessFlags := 25, slot := 1, constantValue := 0 }, { name := "err", type := (.object "java/io/PrintStream"), accessFlags := 25, slot := 2, constantValue := 0 }, { name := "initialIn", type := (.object "java/io/InputStream"), accessFlags := 10, slot := 3, constantValue := 0 }, { name := "NEVER", type := .int, accessFlags := 26, slot := 4, constantValue := 0 }, { name := "MAYBE", type := .int, accessFlags := 26, slot := 5, constantValue := 0 }, { name := "allowSecurityManager", type := .int, accessFlags := 10, slot := 6, constantValue := 0 }, { name := "security", type := (.object "java/lang/SecurityManager"), accessFlags := 74, slot := 7, constantValue := 0 }, { name := "notSupportedJnuEncoding", type := (.object "java/lang/String"), accessFlags := 10, slot := 8, constantValue := 0 }, { name := "cons", type := (.object "java/io/Console"), accessFlags := 74, slot := 9, constantValue := 0 }, { name := "initialErrStream", type := (.object "java/io/PrintStream"), accessFlags := 74, slot := 10, constantValue := 0 }, { name := "props", type := (.object "java/util/Properties"), accessFlags := 10, slot := 11, constantValue := 0 }, { name := "lineSeparator", type := (.object "java/lang/String"), accessFlags := 10, slot := 12, constantValue := 0 }, { name := "bootLayer", type := (.object "java/lang/ModuleLayer"), accessFlags := 8, slot := 13, constantValue := 0 }]
  methods := #[k13m0, k13m1]
  instanceTypes := #[]
  staticTypes := #[(.object "java/io/InputStream"), (.object "java/io/PrintStream"), (.object "java/io/PrintStream"), (.object "java/io/InputStream"), .int, .int, .int, (.object "java/lang/SecurityManager"), (.object "java/lang/String"), (.object "java/io/Console"), (.object "java/io/PrintStream"), (.object "java/util/Properties"), (.object "java/lang/String"), (.object "java/lang/ModuleLayer")]
  resolved := Array.replicate 834 none
  statics := none }

def pool14 : Array CpInfo := pool [(2, .class_ 4), (1, u "java/lang/Object"), (0, u "<init>"), (0, u "()V"), (7, .class_ 16), (1, u "java/util/Arrays"), (57, .class_ 76), (1, u "java/util/Arrays$NaturalOrder"), (36, .class_ 115), (1, u "java/util/Arrays$LegacyMergeSort"), (1, u "Z"), (21, u "copyOfRange"), (10, .methodref 151 152), (0, .class_ 153), (0, .nameAndType 154 155), (0, u "java/lang/System"), (0, u "arraycopy"), (0, u "(Ljava/lang/Object;ILjava/lang/Object;II)V"), (148, .methodref 305 306), (0, .class_ 307), (0, .nameAndType 308 309), (0, u "java/lang/Math"), (0, u "min"), (0, u "(II)I"), (29, .methodref 14 340), (0, .nameAndType 341 342), (0, u "copyOfRangeByte"), (0, u "([BII)[B"), (0, .methodref 14 344), (0, .nameAndType 345 346), (0, u "checkLength"), (0, u "(II)V"), (28, .class_ 376), (0, u "java/util/Arrays$ArrayList"), (68, u "$assertionsDisabled"), (269, u "MIN_ARRAY_SORT_GRAN"), (0, u "I"), (2, u "INSERTIONSORT_THRESHOLD"), (255, .class_ 976), (0, u "java/util/Arrays$ArrayItr")] 52

def k14m0 : Method := { name := "<init>", desc := "()V", sig := { parameters := [], returnType := none }, accessFlags := 2, code := none }
def k14c1 : Code := { maxStack := 4, maxLocals := 2, code := jdk_65_method_131_code, exceptionTable := #[], attributes := #[] }
def k14m1 : Method := { name := "checkLength", desc := "(II)V", sig := { parameters := [.int, .int], returnType := none }, accessFlags := 10, code := some k14c1 }
def k14c2 : Code := { maxStack := 3, maxLocals := 3, code := jdk_65_method_132_code, exceptionTable := #[], attributes := #[] }
def k14m2 : Method := { name := "copyOfRange", desc := "([BII)[B", sig := { parameters := [(.array .byte), .int, .int], returnType := some (.array .byte) }, accessFlags := 9, code := some k14c2 }
def k14c3 : Code := { maxStack := 6, maxLocals := 5, code := jdk_65_method_133_code, exceptionTable := #[], attributes := #[] }
def k14m3 : Method := { name := "copyOfRangeByte", desc := "([BII)[B", sig := { parameters := [(.array .byte), .int, .int], returnType := some (.array .byte) }, accessFlags := 10, code := some k14c3 }
/-- java/util/Arrays -/
def k14 : Class := { plain "java/util/Arrays" (some 0) with
  accessFlags := 49
  interfaces := #[]
  cf := some (fileOf pool14 14 #[.nestMembers #[975, 375, 113, 74]] #[{ accessFlags := 2, nameIndex := 5, descriptorIndex := 6, attributes := #[] }, { accessFlags := 10, nameIndex := 345, descriptorIndex := 346, attributes := #[] }, { accessFlags := 9, nameIndex := 139, descriptorIndex := 342, attributes := #[] }, { accessFlags := 10, nameIndex := 341, descriptorIndex := 342, attributes := #[] }] 49 2 #[] #[{ accessFlags := 26, nameIndex := 715, descriptorIndex := 716, attributes := #[] }, { accessFlags := 26, nameIndex := 719, descriptorIndex := 716, attributes := #[] }, { accessFlags := 4120, nameIndex := 445, descriptorIndex := 117, attributes := #[] }])
  fields := #[{ name := "MIN_ARRAY_SORT_GRAN", type := .int, accessFlags := 26, slot := 0, constantValue := 0 }, { name := "INSERTIONSORT_THRESHOLD", type := .int, accessFlags := 26, slot := 1, constantValue := 0 }, { name := "$assertionsDisabled", type := .boolean, accessFlags := 4120, slot := 2, constantValue := 0 }]
  methods := #[k14m0, k14m1, k14m2, k14m3]
  instanceTypes := #[]
  staticTypes := #[.int, .int, .boolean]
  resolved := Array.replicate 1029 none
  statics := none }

def pool15 : Array CpInfo := pool [(1, .class_ 2), (0, u "java/lang/Math"), (1, .class_ 6), (1, u "java/lang/Object"), (0, u "<init>"), (0, u "()V"), (89, .class_ 100), (1, u "java/lang/Math$RandomNumberGeneratorHolder"), (71, u "negativeZeroFloatBits"), (0, u "J"), (2, u "negativeZeroDoubleBits"), (24, u "min"), (43, u "$assertionsDisabled"), (0, u "Z"), (88, u "(II)I"), (2, u "twoToTheDoubleScaleDown"), (0, u "D"), (4, u "twoToTheDoubleScaleUp"), (9, u "E"), (3, u "PI"), (2, u "TAU"), (2, u "DEGREES_TO_RADIANS"), (0, u "RADIANS_TO_DEGREES")] 94

def k15m0 : Method := { name := "<init>", desc := "()V", sig := { parameters := [], returnType := none }, accessFlags := 2, code := none }
def k15c1 : Code := { maxStack := 2, maxLocals := 2, code := jdk_29_method_69_code, exceptionTable := #[], attributes := #[] }
def k15m1 : Method := { name := "min", desc := "(II)I", sig := { parameters := [.int, .int], returnType := some .int }, accessFlags := 9, code := some k15c1 }
/-- java/lang/Math -/
def k15 : Class := { plain "java/lang/Math" (some 0) with
  accessFlags := 49
  interfaces := #[]
  cf := some (fileOf pool15 1 #[.nestMembers #[98]] #[{ accessFlags := 2, nameIndex := 7, descriptorIndex := 8, attributes := #[] }, { accessFlags := 9, nameIndex := 201, descriptorIndex := 335, attributes := #[] }] 49 4 #[] #[{ accessFlags := 25, nameIndex := 354, descriptorIndex := 339, attributes := #[] }, { accessFlags := 25, nameIndex := 358, descriptorIndex := 339, attributes := #[] }, { accessFlags := 25, nameIndex := 361, descriptorIndex := 339, attributes := #[] }, { accessFlags := 26, nameIndex := 364, descriptorIndex := 339, attributes := #[] }, { accessFlags := 26, nameIndex := 365, descriptorIndex := 339, attributes := #[] }, { accessFlags := 26, nameIndex := 172, descriptorIndex := 173, attributes := #[] }, { accessFlags := 26, nameIndex := 176, descriptorIndex := 173, attributes := #[] }, { accessFlags := 8, nameIndex := 344, descriptorIndex := 339, attributes := #[] }, { accessFlags := 8, nameIndex := 338, descriptorIndex := 339, attributes := #[] }, { accessFlags := 4120, nameIndex := 245, descriptorIndex := 246, attributes := #[] }])
  fields := #[{ name := "E", type := .double, accessFlags := 25, slot := 0, constantValue := 0 }, { name := "PI", type := .double, accessFlags := 25, slot := 1, constantValue := 0 }, { name := "TAU", type := .double, accessFlags := 25, slot := 2, constantValue := 0 }, { name := "DEGREES_TO_RADIANS", type := .double, accessFlags := 26, slot := 3, constantValue := 0 }, { name := "RADIANS_TO_DEGREES", type := .double, accessFlags := 26, slot := 4, constantValue := 0 }, { name := "negativeZeroFloatBits", type := .long, accessFlags := 26, slot := 5, constantValue := 0 }, { name := "negativeZeroDoubleBits", type := .long, accessFlags := 26, slot := 6, constantValue := 0 }, { name := "twoToTheDoubleScaleUp", type := .double, accessFlags := 8, slot := 7, constantValue := 0 }, { name := "twoToTheDoubleScaleDown", type := .double, accessFlags := 8, slot := 8, constantValue := 0 }, { name := "$assertionsDisabled", type := .boolean, accessFlags := 4120, slot := 9, constantValue := 0 }]
  methods := #[k15m0, k15m1]
  instanceTypes := #[]
  staticTypes := #[.double, .double, .double, .double, .double, .long, .long, .double, .double, .boolean]
  resolved := Array.replicate 460 none
  statics := none }

def pool16 : Array CpInfo := pool [(1, .class_ 2), (0, u "java/lang/String"), (1, .class_ 6), (1, u "java/lang/Object"), (0, u "<init>"), (0, u "()V"), (0, .methodref 1 10), (0, .nameAndType 11 12), (0, u "checkIndex"), (0, u "(II)V"), (1, .class_ 16), (1, u "java/lang/StringLatin1"), (36, u "([BI)C"), (67, u "$assertionsDisabled"), (0, u "Z"), (98, .class_ 223), (1, u "java/lang/StringLatin1$LinesSpliterator"), (28, u "charAt"), (137, .class_ 391), (0, u "java/lang/StringLatin1$CharsSpliterator")] 3

def k16m0 : Method := { name := "<init>", desc := "()V", sig := { parameters := [], returnType := none }, accessFlags := 0, code := none }
def k16c1 : Code := { maxStack := 2, maxLocals := 2, code := jdk_43_method_2_code, exceptionTable := #[], attributes := #[] }
def k16m1 : Method := { name := "charAt", desc := "([BI)C", sig := { parameters := [(.array .byte), .int], returnType := some .char }, accessFlags := 9, code := some k16c1 }
/-- java/lang/StringLatin1 -/
def k16 : Class := { plain "java/lang/StringLatin1" (some 0) with
  accessFlags := 48
  interfaces := #[]
  cf := some (fileOf pool16 14 #[.nestMembers #[390, 221]] #[{ accessFlags := 0, nameIndex := 7, descriptorIndex := 8, attributes := #[] }, { accessFlags := 9, nameIndex := 252, descriptorIndex := 53, attributes := #[] }] 48 4 #[] #[{ accessFlags := 4120, nameIndex := 121, descriptorIndex := 122, attributes := #[] }])
  fields := #[{ name := "$assertionsDisabled", type := .boolean, accessFlags := 4120, slot := 0, constantValue := 0 }]
  methods := #[k16m0, k16m1]
  instanceTypes := #[]
  staticTypes := #[.boolean]
  resolved := Array.replicate 395 none
  statics := none }

def pool17 : Array CpInfo := pool [(2, .class_ 4), (1, u "java/lang/Object"), (0, u "<init>"), (0, u "()V"), (17, .class_ 26), (1, u "jdk/internal/util/Preconditions"), (6, u "checkIndex"), (21, .class_ 56), (0, u "jdk/internal/util/Preconditions$4"), (57, .class_ 115), (0, u "jdk/internal/util/Preconditions$1"), (7, u "SIOOBE_FORMATTER"), (0, u "Ljava/util/function/BiFunction;"), (0, .class_ 126), (0, u "jdk/internal/util/Preconditions$2"), (3, u "AIOOBE_FORMATTER"), (0, .class_ 132), (0, u "jdk/internal/util/Preconditions$3"), (3, u "IOOBE_FORMATTER"), (41, u "(IILjava/util/function/BiFunction;)I")] 15

def k17m0 : Method := { name := "<init>", desc := "()V", sig := { parameters := [], returnType := none }, accessFlags := 1, code := none }
def k17c1 : Code := { maxStack := 3, maxLocals := 3, code := jdk_41_method_11_code, exceptionTable := #[], attributes := #[] }
def k17m1 : Method := { name := "checkIndex", desc := "(IILjava/util/function/BiFunction;)I", sig := { parameters := [.int, .int, (.object "java/util/function/BiFunction")], returnType := some .int }, accessFlags := 9, code := some k17c1 }
/-- jdk/internal/util/Preconditions -/
def k17 : Class := { plain "jdk/internal/util/Preconditions" (some 0) with
  accessFlags := 33
  interfaces := #[]
  cf := some (fileOf pool17 24 #[.nestMembers #[55, 131, 125, 114]] #[{ accessFlags := 1, nameIndex := 5, descriptorIndex := 6, attributes := #[] }, { accessFlags := 9, nameIndex := 33, descriptorIndex := 178, attributes := #[] }] 33 2 #[] #[{ accessFlags := 25, nameIndex := 123, descriptorIndex := 124, attributes := #[] }, { accessFlags := 25, nameIndex := 130, descriptorIndex := 124, attributes := #[] }, { accessFlags := 25, nameIndex := 136, descriptorIndex := 124, attributes := #[] }])
  fields := #[{ name := "SIOOBE_FORMATTER", type := (.object "java/util/function/BiFunction"), accessFlags := 25, slot := 0, constantValue := 0 }, { name := "AIOOBE_FORMATTER", type := (.object "java/util/function/BiFunction"), accessFlags := 25, slot := 1, constantValue := 0 }, { name := "IOOBE_FORMATTER", type := (.object "java/util/function/BiFunction"), accessFlags := 25, slot := 2, constantValue := 0 }]
  methods := #[k17m0, k17m1]
  instanceTypes := #[]
  staticTypes := #[(.object "java/util/function/BiFunction"), (.object "java/util/function/BiFunction"), (.object "java/util/function/BiFunction")]
  resolved := Array.replicate 194 none
  statics := some 1 }

def pool18 : Array CpInfo := pool [(6, .class_ 8), (1, u "java/lang/Object"), (0, u "<init>"), (0, u "()V"), (1, .class_ 14), (1, u "java/lang/StringUTF16"), (31, u "$assertionsDisabled"), (0, u "Z"), (13, u "HI_BYTE_SHIFT"), (0, u "I"), (2, u "LO_BYTE_SHIFT"), (49, .methodref 12 116), (0, .nameAndType 117 118), (0, u "compress"), (0, u "([CI[BII)I"), (3, u "([CII)[B"), (138, u "coderFromArrayLen"), (0, u "([BI)B"), (106, .class_ 371), (1, u "java/lang/StringUTF16$LinesSpliterator"), (58, u "MAX_LENGTH"), (196, .class_ 628), (0, u "java/lang/StringUTF16$CodePointsSpliterator"), (0, .class_ 630), (0, u "java/lang/StringUTF16$CharsSpliterator")] 4

def k18m0 : Method := { name := "<init>", desc := "()V", sig := { parameters := [], returnType := none }, accessFlags := 0, code := none }
def k18c1 : Code := { maxStack := 2, maxLocals := 2, code := jdk_52_method_15_code, exceptionTable := #[], attributes := #[] }
def k18m1 : Method := { name := "coderFromArrayLen", desc := "([BI)B", sig := { parameters := [(.array .byte), .int], returnType := some .byte }, accessFlags := 8, code := some k18c1 }
def k18c2 : Code := { maxStack := 5, maxLocals := 6, code := jdk_52_method_16_code, exceptionTable := #[], attributes := #[] }
def k18m2 : Method := { name := "compress", desc := "([CII)[B", sig := { parameters := [(.array .char), .int, .int], returnType := some (.array .byte) }, accessFlags := 9, code := some k18c2 }
def k18c3 : Code := { maxStack := 3, maxLocals := 7, code := jdk_52_method_21_code, exceptionTable := #[], attributes := #[] }
def k18m3 : Method := { name := "compress", desc := "([CI[BII)I", sig := { parameters := [(.array .char), .int, (.array .byte), .int, .int], returnType := some .int }, accessFlags := 9, code := some k18c3 }
/-- java/lang/StringUTF16 -/
def k18 : Class := { plain "java/lang/StringUTF16" (some 0) with
  accessFlags := 48
  interfaces := #[]
  cf := some (fileOf pool18 12 #[.nestMembers #[627, 629, 369]] #[{ accessFlags := 0, nameIndex := 9, descriptorIndex := 10, attributes := #[] }, { accessFlags := 8, nameIndex := 261, descriptorIndex := 262, attributes := #[] }, { accessFlags := 9, nameIndex := 117, descriptorIndex := 122, attributes := #[] }, { accessFlags := 9, nameIndex := 117, descriptorIndex := 118, attributes := #[] }] 48 6 #[] #[{ accessFlags := 26, nameIndex := 61, descriptorIndex := 62, attributes := #[] }, { accessFlags := 26, nameIndex := 65, descriptorIndex := 62, attributes := #[] }, { accessFlags := 24, nameIndex := 430, descriptorIndex := 62, attributes := #[] }, { accessFlags := 4120, nameIndex := 46, descriptorIndex := 47, attributes := #[] }])
  fields := #[{ name := "HI_BYTE_SHIFT", type := .int, accessFlags := 26, slot := 0, constantValue := 0 }, { name := "LO_BYTE_SHIFT", type := .int, accessFlags := 26, slot := 1, constantValue := 0 }, { name := "MAX_LENGTH", type := .int, accessFlags := 24, slot := 2, constantValue := 0 }, { name := "$assertionsDisabled", type := .boolean, accessFlags := 4120, slot := 3, constantValue := 0 }]
  methods := #[k18m0, k18m1, k18m2, k18m3]
  instanceTypes := #[]
  staticTypes := #[.int, .int, .int, .boolean]
  resolved := Array.replicate 635 none
  statics := none }

def pool19 : Array CpInfo := pool [(9, u "<init>"), (6, .class_ 18), (1, u "java/lang/Object"), (0, u "()V"), (1, .class_ 23), (1, u "jdk/internal/util/ArraysSupport"), (0, u "LOG2_ARRAY_LONG_INDEX_SCALE"), (0, u "I"), (2, u "U"), (0, u "Ljdk/internal/misc/Unsafe;"), (8, u "BIG_ENDIAN"), (0, u "Z"), (8, u "LOG2_BYTE_BIT_SIZE"), (4, u "LOG2_ARRAY_INT_INDEX_SCALE"), (54, u "JLA"), (0, u "Ljdk/internal/access/JavaLangAccess;"), (11, u "LOG2_ARRAY_BOOLEAN_INDEX_SCALE"), (9, u "LOG2_ARRAY_BYTE_INDEX_SCALE"), (5, u "LOG2_ARRAY_CHAR_INDEX_SCALE"), (5, u "LOG2_ARRAY_SHORT_INDEX_SCALE"), (5, u "mismatch"), (12, u "LOG2_ARRAY_FLOAT_INDEX_SCALE"), (24, u "LOG2_ARRAY_DOUBLE_INDEX_SCALE"), (89, u "T_BOOLEAN"), (2, u "T_CHAR"), (1, u "T_FLOAT"), (1, u "T_DOUBLE"), (1, u "T_BYTE"), (1, u "T_SHORT"), (1, u "T_INT"), (1, u "T_LONG"), (1, u "SOFT_MAX_ARRAY_LENGTH"), (42, u "([BI[BII)I")] 40

def k19m0 : Method := { name := "<init>", desc := "()V", sig := { parameters := [], returnType := none }, accessFlags := 2, code := none }
def k19c1 : Code := { maxStack := 8, maxLocals := 8, code := jdk_48_method_14_code, exceptionTable := #[], attributes := #[] }
def k19m1 : Method := { name := "mismatch", desc := "([BI[BII)I", sig := { parameters := [(.array .byte), .int, (.array .byte), .int, .int], returnType := some .int }, accessFlags := 9, code := some k19c1 }
/-- jdk/internal/util/ArraysSupport -/
def k19 : Class := { plain "jdk/internal/util/ArraysSupport" (some 0) with
  accessFlags := 33
  interfaces := #[]
  cf := some (fileOf pool19 21 #[] #[{ accessFlags := 2, nameIndex := 9, descriptorIndex := 19, attributes := #[] }, { accessFlags := 9, nameIndex := 149, descriptorIndex := 337, attributes := #[] }] 33 16 #[] #[{ accessFlags := 24, nameIndex := 28, descriptorIndex := 29, attributes := #[] }, { accessFlags := 26, nameIndex := 38, descriptorIndex := 39, attributes := #[] }, { accessFlags := 25, nameIndex := 121, descriptorIndex := 25, attributes := #[] }, { accessFlags := 25, nameIndex := 131, descriptorIndex := 25, attributes := #[] }, { accessFlags := 25, nameIndex := 137, descriptorIndex := 25, attributes := #[] }, { accessFlags := 25, nameIndex := 143, descriptorIndex := 25, attributes := #[] }, { accessFlags := 25, nameIndex := 53, descriptorIndex := 25, attributes := #[] }, { accessFlags := 25, nameIndex := 24, descriptorIndex := 25, attributes := #[] }, { accessFlags := 25, nameIndex := 162, descriptorIndex := 25, attributes := #[] }, { accessFlags := 25, nameIndex := 187, descriptorIndex := 25, attributes := #[] }, { accessFlags := 26, nameIndex := 48, descriptorIndex := 25, attributes := #[] }, { accessFlags := 25, nameIndex := 277, descriptorIndex := 25, attributes := #[] }, { accessFlags := 25, nameIndex := 280, descriptorIndex := 25, attributes := #[] }, { accessFlags := 25, nameIndex := 282, descriptorIndex := 25, attributes := #[] }, { accessFlags := 25, nameIndex := 284, descriptorIndex := 25, attributes := #[] }, { accessFlags := 25, nameIndex := 286, descriptorIndex := 25, attributes := #[] }, { accessFlags := 25, nameIndex := 288, descriptorIndex := 25, attributes := #[] }, { accessFlags := 25, nameIndex := 290, descriptorIndex := 25, attributes := #[] }, { accessFlags := 25, nameIndex := 292, descriptorIndex := 25, attributes := #[] }, { accessFlags := 26, nameIndex := 108, descriptorIndex := 109, attributes := #[] }, { accessFlags := 25, nameIndex := 294, descriptorIndex := 25, attributes := #[] }])
  fields := #[{ name := "U", type := (.object "jdk/internal/misc/Unsafe"), accessFlags := 24, slot := 0, constantValue := 0 }, { name := "BIG_ENDIAN", type := .boolean, accessFlags := 26, slot := 1, constantValue := 0 }, { name := "LOG2_ARRAY_BOOLEAN_INDEX_SCALE", type := .int, accessFlags := 25, slot := 2, constantValue := 0 }, { name := "LOG2_ARRAY_BYTE_INDEX_SCALE", type := .int, accessFlags := 25, slot := 3, constantValue := 0 }, { name := "LOG2_ARRAY_CHAR_INDEX_SCALE", type := .int, accessFlags := 25, slot := 4, constantValue := 0 }, { name := "LOG2_ARRAY_SHORT_INDEX_SCALE", type := .int, accessFlags := 25, slot := 5, constantValue := 0 }, { name := "LOG2_ARRAY_INT_INDEX_SCALE", type := .int, accessFlags := 25, slot := 6, constantValue := 0 }, { name := "LOG2_ARRAY_LONG_INDEX_SCALE", type := .int, accessFlags := 25, slot := 7, constantValue := 0 }, { name := "LOG2_ARRAY_FLOAT_INDEX_SCALE", type := .int, accessFlags := 25, slot := 8, constantValue := 0 }, { name := "LOG2_ARRAY_DOUBLE_INDEX_SCALE", type := .int, accessFlags := 25, slot := 9, constantValue := 0 }, { name := "LOG2_BYTE_BIT_SIZE", type := .int, accessFlags := 26, slot := 10, constantValue := 0 }, { name := "T_BOOLEAN", type := .int, accessFlags := 25, slot := 11, constantValue := 0 }, { name := "T_CHAR", type := .int, accessFlags := 25, slot := 12, constantValue := 0 }, { name := "T_FLOAT", type := .int, accessFlags := 25, slot := 13, constantValue := 0 }, { name := "T_DOUBLE", type := .int, accessFlags := 25, slot := 14, constantValue := 0 }, { name := "T_BYTE", type := .int, accessFlags := 25, slot := 15, constantValue := 0 }, { name := "T_SHORT", type := .int, accessFlags := 25, slot := 16, constantValue := 0 }, { name := "T_INT", type := .int, accessFlags := 25, slot := 17, constantValue := 0 }, { name := "T_LONG", type := .int, accessFlags := 25, slot := 18, constantValue := 0 }, { name := "JLA", type := (.object "jdk/internal/access/JavaLangAccess"), accessFlags := 26, slot := 19, constantValue := 0 }, { name := "SOFT_MAX_ARRAY_LENGTH", type := .int, accessFlags := 25, slot := 20, constantValue := 0 }]
  methods := #[k19m0, k19m1]
  instanceTypes := #[]
  staticTypes := #[(.object "jdk/internal/misc/Unsafe"), .boolean, .int, .int, .int, .int, .int, .int, .int, .int, .int, .int, .int, .int, .int, .int, .int, .int, .int, (.object "jdk/internal/access/JavaLangAccess"), .int]
  resolved := Array.replicate 378 none
  statics := none }

def pool20 : Array CpInfo := pool [(1, u "java/lang/Cloneable"), (0, .class_ 1), (0, u "java/lang/Object"), (0, .class_ 3)] 3

/-- java/lang/Cloneable -/
def k20 : Class := { plain "java/lang/Cloneable" (some 0) with
  accessFlags := 1537
  interfaces := #[]
  cf := some (fileOf pool20 2 #[] #[] 1537 4 #[] #[])
  fields := #[]
  methods := #[]
  instanceTypes := #[]
  staticTypes := #[]
  resolved := Array.replicate 8 none
  statics := none }

/-- the primitive byte -/
def k21 : Class := { plain "byte" none with kind := .primitive 'B', accessFlags := 0x411 }
/-- [B -/
def k22 : Class := { plain "[B" (some 0) with kind := .array 21 .byte, interfaces := #[20, 2], accessFlags := 1041 }

/-- the primitive char -/
def k23 : Class := { plain "char" none with kind := .primitive 'C', accessFlags := 0x411 }
/-- [C -/
def k24 : Class := { plain "[C" (some 0) with kind := .array 23 .char, interfaces := #[20, 2], accessFlags := 1041 }

/-- the primitive int -/
def k25 : Class := { plain "int" none with kind := .primitive 'I', accessFlags := 0x411 }
/-- [I -/
def k26 : Class := { plain "[I" (some 0) with kind := .array 25 .int, interfaces := #[20, 2], accessFlags := 1041 }

def heap : Heap := #[{ cls := 7, slots := #[.long 0, .int 1, .null, .int 0, .null, .int 0, .int 0], vm := .statics 7 },
  { cls := 17, slots := #[.null, .null, .null], vm := .statics 17 }]
def classes : Array Class := #[k0, k1, k2, k3, k4, k5, k6, k7, k8, k9, k10, k11, k12, k13, k14, k15, k16, k17, k18, k19, k20, k21, k22, k23, k24, k25, k26]
def interned : List (Array UInt16 × Addr) := []
def slotsUsed : Nat := 10
def theMethod : MethodId := ⟨1, 1⟩
def args0 : Array Value := #[.int 5, .int 6, .int 7, .int 8, .int 9]
def aboutOver (below : List Frame) : State where
  vm := { classes := classes, interned := interned.toArray }
  heap := heap
  slotsUsed := slotsUsed
  threads := #[{ frames := .invoking theMethod args0 :: below }]
def below0 : List Frame := [.native { method := ⟨0, 0⟩, args := #[] }]
def about1 : State := aboutOver below0
def p0 : Program := .bare "" "" ""
def e0 : Env := launch0.env 0 0 0
theorem w_frames : about1.frames = Frame.invoking theMethod args0 :: below0 := rfl
set_option maxRecDepth 65536 in
theorem w_args : argsFit about1.vm theMethod args0 = true := by decide +kernel
set_option maxRecDepth 65536 in
theorem w_heap : heapFits about1 = true := by decide +kernel
set_option maxRecDepth 65536 in
theorem w_runnable : about1.curStatus? = some .runnable := by decide +kernel
set_option maxRecDepth 65536 in
theorem w_alone : about1.alone = true := by decide +kernel
set_option maxRecDepth 65536 in
theorem w_named : about1.methodNamed? x = some theMethod := by decide +kernel
set_option maxRecDepth 65536 in
theorem w_hears : about1.hears theMethod below0 = true := by decide +kernel
set_option maxRecDepth 65536 in
theorem w_ripe : about1.ripe theMethod args0 below0 = true := by decide +kernel
theorem w_running : about1.status = .running := rfl
set_option maxRecDepth 65536 in
theorem w_room : about1.hasRoom e0.platform room_1 = true :=
  launch0.hasRoom_least _ room_1 (by decide +kernel) (by decide +kernel) (by decide +kernel) (by decide +kernel) (by decide +kernel) (by decide +kernel)
theorem allAtoms_all (ts : List Jvm.Cond) (a : Array Jvm.Value) (st : Jvm.State) : (allAtoms ts).before a st = ts.all (fun c => c.before a st) := by
  induction ts with
  | nil => rfl
  | cons c t ih =>
    show (Jvm.Cond.and c (allAtoms t)).before a st = _
    rw [Jvm.Cond.before_and, ih, List.all_cons]
def words1 : List Jvm.Cond := Jvm.Cond.code x code maxLocals ret :: tables_1
/-- a 'code' word, met by the world's own term for the bytes: nothing is compared byte by byte -/
theorem code_word {y : MethodName} {bytes : ByteArray} {mx : Nat} {rt : Option FieldType} {a : Array Value} {s : State} {m : MethodId} {meth : Method} {c : Code} (h1 : s.methodNamed? y = some m) (h2 : s.vm.method? m = some meth) (h3 : meth.code = some c) (h4 : c.code = bytes)
    (h5 : (c.maxLocals == mx && c.exceptionTable.isEmpty && decide (c.maxStack ≤ mostOperands) && decide (meth.sig.returnType = rt) && !meth.locks && decide (parseMethodDescriptor y.desc = some meth.sig)) = true) : (Jvm.Cond.code y bytes mx rt).before a s = true := by
  simp only [Bool.and_eq_true, beq_iff_eq, Bool.not_eq_true', decide_eq_true_eq] at h5
  obtain ⟨⟨⟨⟨⟨g1, g2⟩, g3⟩, g4⟩, g5⟩, g6⟩ := h5
  simp [Cond.before, Cond.holds, Cond.value, h1, h2, h3, h4, g1, g2, g3, g4, g5, g6]
def isCode : Jvm.Cond → Bool
  | .code _ _ _ _ => true
  | _ => false
theorem all_split {L : List Jvm.Cond} {P : Jvm.Cond → Bool} (h1 : L.all (fun c => isCode c || P c) = true) (h2 : ∀ c ∈ L.filter isCode, P c = true) : L.all P = true := by
  refine List.all_eq_true.mpr fun c hc => ?_
  have h := List.all_eq_true.mp h1 c hc
  rcases Bool.eq_false_or_eq_true (isCode c) with hi | hi
  · exact h2 c (List.mem_filter.mpr ⟨hc, hi⟩)
  · simpa [hi] using h
set_option maxRecDepth 65536 in
theorem w_c0 : (Jvm.Cond.code x code maxLocals ret).before args0 about1 = true := code_word (m := ⟨1, 1⟩) (meth := k1m1) (c := k1c1) (by decide +kernel) rfl rfl rfl (by decide +kernel)
set_option maxRecDepth 65536 in
theorem w_c1 : (Jvm.Cond.code ({ cls := "java/lang/String", name := "<init>", desc := "([C)V" } : Jvm.MethodName) jdk_42_method_3_code (2 : Nat) (Option.none : Option Jvm.ClassFile.FieldType)).before args0 about1 = true := code_word (m := ⟨7, 1⟩) (meth := k7m1) (c := k7c1) (by decide +kernel) rfl rfl rfl (by decide +kernel)
set_option maxRecDepth 65536 in
theorem w_c2 : (Jvm.Cond.code ({ cls := "java/lang/String", name := "<init>", desc := "([CIILjava/lang/Void;)V" } : Jvm.MethodName) jdk_42_method_149_code (6 : Nat) (Option.none : Option Jvm.ClassFile.FieldType)).before args0 about1 = true := code_word (m := ⟨7, 8⟩) (meth := k7m8) (c := k7c8) (by decide +kernel) rfl rfl rfl (by decide +kernel)
set_option maxRecDepth 65536 in
theorem w_c3 : (Jvm.Cond.code ({ cls := "java/lang/Object", name := "<init>", desc := "()V" } : Jvm.MethodName) object_method_1_code (1 : Nat) (Option.none : Option Jvm.ClassFile.FieldType)).before args0 about1 = true := code_word (m := ⟨0, 0⟩) (meth := k0m0) (c := k0c0) (by decide +kernel) rfl rfl rfl (by decide +kernel)
set_option maxRecDepth 65536 in
theorem w_c4 : (Jvm.Cond.code ({ cls := "com/example/federant/federant/saml/HubEndpoints", name := "under", desc := "(Ljava/lang/String;)Lcom/example/federant/federant/saml/HubEndpoints;" } : Jvm.MethodName) prog_24_method_2_code (1 : Nat) (Option.some (Jvm.ClassFile.FieldType.object "com/example/federant/federant/saml/HubEndpoints"))).before args0 about1 = true := code_word (m := ⟨9, 1⟩) (meth := k9m1) (c := k9c1) (by decide +kernel) rfl rfl rfl (by decide +kernel)
set_option maxRecDepth 65536 in
theorem w_c5 : (Jvm.Cond.code ({ cls := "java/lang/String", name := "endsWith", desc := "(Ljava/lang/String;)Z" } : Jvm.MethodName) jdk_42_method_77_code (2 : Nat) (Option.some Jvm.ClassFile.FieldType.boolean)).before args0 about1 = true := code_word (m := ⟨7, 6⟩) (meth := k7m6) (c := k7c6) (by decide +kernel) rfl rfl rfl (by decide +kernel)
set_option maxRecDepth 65536 in
theorem w_c6 : (Jvm.Cond.code ({ cls := "java/lang/String", name := "length", desc := "()I" } : Jvm.MethodName) jdk_42_method_54_code (1 : Nat) (Option.some Jvm.ClassFile.FieldType.int)).before args0 about1 = true := code_word (m := ⟨7, 3⟩) (meth := k7m3) (c := k7c3) (by decide +kernel) rfl rfl rfl (by decide +kernel)
set_option maxRecDepth 65536 in
theorem w_c7 : (Jvm.Cond.code ({ cls := "java/lang/String", name := "coder", desc := "()B" } : Jvm.MethodName) jdk_42_method_152_code (1 : Nat) (Option.some Jvm.ClassFile.FieldType.byte)).before args0 about1 = true := code_word (m := ⟨7, 10⟩) (meth := k7m10) (c := k7c10) (by decide +kernel) rfl rfl rfl (by decide +kernel)
set_option maxRecDepth 65536 in
theorem w_c8 : (Jvm.Cond.code ({ cls := "java/lang/String", name := "startsWith", desc := "(Ljava/lang/String;I)Z" } : Jvm.MethodName) jdk_42_method_75_code (8 : Nat) (Option.some Jvm.ClassFile.FieldType.boolean)).before args0 about1 = true := code_word (m := ⟨7, 5⟩) (meth := k7m5) (c := k7c5) (by decide +kernel) rfl rfl rfl (by decide +kernel)
set_option maxRecDepth 65536 in
theorem w_c9 : (Jvm.Cond.code ({ cls := "java/lang/StringBuilder", name := "<init>", desc := "()V" } : Jvm.MethodName) jdk_67_method_1_code (1 : Nat) (Option.none : Option Jvm.ClassFile.FieldType)).before args0 about1 = true := code_word (m := ⟨12, 0⟩) (meth := k12m0) (c := k12c0) (by decide +kernel) rfl rfl rfl (by decide +kernel)
set_option maxRecDepth 65536 in
theorem w_c10 : (Jvm.Cond.code ({ cls := "java/lang/AbstractStringBuilder", name := "<init>", desc := "(I)V" } : Jvm.MethodName) jdk_68_method_2_code (2 : Nat) (Option.none : Option Jvm.ClassFile.FieldType)).before args0 about1 = true := code_word (m := ⟨11, 1⟩) (meth := k11m1) (c := k11c1) (by decide +kernel) rfl rfl rfl (by decide +kernel)
set_option maxRecDepth 65536 in
theorem w_c11 : (Jvm.Cond.code ({ cls := "java/lang/StringBuilder", name := "append", desc := "(Ljava/lang/String;)Ljava/lang/StringBuilder;" } : Jvm.MethodName) jdk_67_method_7_code (2 : Nat) (Option.some (Jvm.ClassFile.FieldType.object "java/lang/StringBuilder"))).before args0 about1 = true := code_word (m := ⟨12, 1⟩) (meth := k12m1) (c := k12c1) (by decide +kernel) rfl rfl rfl (by decide +kernel)
set_option maxRecDepth 65536 in
theorem w_c12 : (Jvm.Cond.code ({ cls := "java/lang/AbstractStringBuilder", name := "append", desc := "(Ljava/lang/String;)Ljava/lang/AbstractStringBuilder;" } : Jvm.MethodName) jdk_68_method_22_code (3 : Nat) (Option.some (Jvm.ClassFile.FieldType.object "java/lang/AbstractStringBuilder"))).before args0 about1 = true := code_word (m := ⟨11, 4⟩) (meth := k11m4) (c := k11c4) (by decide +kernel) rfl rfl rfl (by decide +kernel)
set_option maxRecDepth 65536 in
theorem w_c13 : (Jvm.Cond.code ({ cls := "java/lang/AbstractStringBuilder", name := "ensureCapacityInternal", desc := "(I)V" } : Jvm.MethodName) jdk_68_method_9_code (3 : Nat) (Option.none : Option Jvm.ClassFile.FieldType)).before args0 about1 = true := code_word (m := ⟨11, 3⟩) (meth := k11m3) (c := k11c3) (by decide +kernel) rfl rfl rfl (by decide +kernel)
set_option maxRecDepth 65536 in
theorem w_c14 : (Jvm.Cond.code ({ cls := "java/lang/AbstractStringBuilder", name := "putStringAt", desc := "(ILjava/lang/String;)V" } : Jvm.MethodName) jdk_68_method_73_code (3 : Nat) (Option.none : Option Jvm.ClassFile.FieldType)).before args0 about1 = true := code_word (m := ⟨11, 8⟩) (meth := k11m8) (c := k11c8) (by decide +kernel) rfl rfl rfl (by decide +kernel)
set_option maxRecDepth 65536 in
theorem w_c15 : (Jvm.Cond.code ({ cls := "java/lang/AbstractStringBuilder", name := "inflateIfNeededFor", desc := "(Ljava/lang/String;)V" } : Jvm.MethodName) jdk_68_method_71_code (2 : Nat) (Option.none : Option Jvm.ClassFile.FieldType)).before args0 about1 = true := code_word (m := ⟨11, 7⟩) (meth := k11m7) (c := k11c7) (by decide +kernel) rfl rfl rfl (by decide +kernel)
set_option maxRecDepth 65536 in
theorem w_c16 : (Jvm.Cond.code ({ cls := "java/lang/String", name := "getBytes", desc := "([BIB)V" } : Jvm.MethodName) jdk_42_method_147_code (4 : Nat) (Option.none : Option Jvm.ClassFile.FieldType)).before args0 about1 = true := code_word (m := ⟨7, 7⟩) (meth := k7m7) (c := k7c7) (by decide +kernel) rfl rfl rfl (by decide +kernel)
set_option maxRecDepth 65536 in
theorem w_c17 : (Jvm.Cond.code ({ cls := "java/lang/StringBuilder", name := "toString", desc := "()Ljava/lang/String;" } : Jvm.MethodName) jdk_67_method_42_code (1 : Nat) (Option.some (Jvm.ClassFile.FieldType.object "java/lang/String"))).before args0 about1 = true := code_word (m := ⟨12, 2⟩) (meth := k12m2) (c := k12c2) (by decide +kernel) rfl rfl rfl (by decide +kernel)
set_option maxRecDepth 65536 in
theorem w_c18 : (Jvm.Cond.code ({ cls := "java/lang/String", name := "<init>", desc := "(Ljava/lang/StringBuilder;)V" } : Jvm.MethodName) jdk_42_method_53_code (2 : Nat) (Option.none : Option Jvm.ClassFile.FieldType)).before args0 about1 = true := code_word (m := ⟨7, 2⟩) (meth := k7m2) (c := k7c2) (by decide +kernel) rfl rfl rfl (by decide +kernel)
set_option maxRecDepth 65536 in
theorem w_c19 : (Jvm.Cond.code ({ cls := "java/lang/String", name := "<init>", desc := "(Ljava/lang/AbstractStringBuilder;Ljava/lang/Void;)V" } : Jvm.MethodName) jdk_42_method_150_code (5 : Nat) (Option.none : Option Jvm.ClassFile.FieldType)).before args0 about1 = true := code_word (m := ⟨7, 9⟩) (meth := k7m9) (c := k7c9) (by decide +kernel) rfl rfl rfl (by decide +kernel)
set_option maxRecDepth 65536 in
theorem w_c20 : (Jvm.Cond.code ({ cls := "java/lang/AbstractStringBuilder", name := "getValue", desc := "()[B" } : Jvm.MethodName) jdk_68_method_64_code (1 : Nat) (Option.some (Jvm.ClassFile.FieldType.array Jvm.ClassFile.FieldType.byte))).before args0 about1 = true := code_word (m := ⟨11, 5⟩) (meth := k11m5) (c := k11c5) (by decide +kernel) rfl rfl rfl (by decide +kernel)
set_option maxRecDepth 65536 in
theorem w_c21 : (Jvm.Cond.code ({ cls := "java/lang/StringBuilder", name := "length", desc := "()I" } : Jvm.MethodName) jdk_67_method_93_code (1 : Nat) (Option.some Jvm.ClassFile.FieldType.int)).before args0 about1 = true := code_word (m := ⟨12, 3⟩) (meth := k12m3) (c := k12c3) (by decide +kernel) rfl rfl rfl (by decide +kernel)
set_option maxRecDepth 65536 in
theorem w_c22 : (Jvm.Cond.code ({ cls := "java/lang/AbstractStringBuilder", name := "length", desc := "()I" } : Jvm.MethodName) jdk_68_method_6_code (1 : Nat) (Option.some Jvm.ClassFile.FieldType.int)).before args0 about1 = true := code_word (m := ⟨11, 2⟩) (meth := k11m2) (c := k11c2) (by decide +kernel) rfl rfl rfl (by decide +kernel)
set_option maxRecDepth 65536 in
theorem w_c23 : (Jvm.Cond.code ({ cls := "java/lang/AbstractStringBuilder", name := "isLatin1", desc := "()Z" } : Jvm.MethodName) jdk_68_method_68_code (1 : Nat) (Option.some Jvm.ClassFile.FieldType.boolean)).before args0 about1 = true := code_word (m := ⟨11, 6⟩) (meth := k11m6) (c := k11c6) (by decide +kernel) rfl rfl rfl (by decide +kernel)
set_option maxRecDepth 65536 in
theorem w_c24 : (Jvm.Cond.code ({ cls := "java/util/Arrays", name := "copyOfRange", desc := "([BII)[B" } : Jvm.MethodName) jdk_65_method_132_code (3 : Nat) (Option.some (Jvm.ClassFile.FieldType.array Jvm.ClassFile.FieldType.byte))).before args0 about1 = true := code_word (m := ⟨14, 2⟩) (meth := k14m2) (c := k14c2) (by decide +kernel) rfl rfl rfl (by decide +kernel)
set_option maxRecDepth 65536 in
theorem w_c25 : (Jvm.Cond.code ({ cls := "java/util/Arrays", name := "copyOfRangeByte", desc := "([BII)[B" } : Jvm.MethodName) jdk_65_method_133_code (5 : Nat) (Option.some (Jvm.ClassFile.FieldType.array Jvm.ClassFile.FieldType.byte))).before args0 about1 = true := code_word (m := ⟨14, 3⟩) (meth := k14m3) (c := k14c3) (by decide +kernel) rfl rfl rfl (by decide +kernel)
set_option maxRecDepth 65536 in
theorem w_c26 : (Jvm.Cond.code ({ cls := "java/util/Arrays", name := "checkLength", desc := "(II)V" } : Jvm.MethodName) jdk_65_method_131_code (2 : Nat) (Option.none : Option Jvm.ClassFile.FieldType)).before args0 about1 = true := code_word (m := ⟨14, 1⟩) (meth := k14m1) (c := k14c1) (by decide +kernel) rfl rfl rfl (by decide +kernel)
set_option maxRecDepth 65536 in
theorem w_c27 : (Jvm.Cond.code ({ cls := "java/lang/Math", name := "min", desc := "(II)I" } : Jvm.MethodName) jdk_29_method_69_code (2 : Nat) (Option.some Jvm.ClassFile.FieldType.int)).before args0 about1 = true := code_word (m := ⟨15, 1⟩) (meth := k15m1) (c := k15c1) (by decide +kernel) rfl rfl rfl (by decide +kernel)
set_option maxRecDepth 65536 in
theorem w_c28 : (Jvm.Cond.code ({ cls := "com/example/federant/federant/saml/HubEndpoints", name := "<init>", desc := "(Ljava/lang/String;Ljava/lang/String;Ljava/lang/String;)V" } : Jvm.MethodName) prog_24_method_1_code (4 : Nat) (Option.none : Option Jvm.ClassFile.FieldType)).before args0 about1 = true := code_word (m := ⟨9, 0⟩) (meth := k9m0) (c := k9c0) (by decide +kernel) rfl rfl rfl (by decide +kernel)
set_option maxRecDepth 65536 in
theorem w_c29 : (Jvm.Cond.code ({ cls := "java/lang/Record", name := "<init>", desc := "()V" } : Jvm.MethodName) jdk_30_method_1_code (1 : Nat) (Option.none : Option Jvm.ClassFile.FieldType)).before args0 about1 = true := code_word (m := ⟨8, 0⟩) (meth := k8m0) (c := k8c0) (by decide +kernel) rfl rfl rfl (by decide +kernel)
set_option maxRecDepth 65536 in
theorem w_c30 : (Jvm.Cond.code ({ cls := "com/example/federant/federant/saml/HubEndpoints", name := "entityId", desc := "()Ljava/lang/String;" } : Jvm.MethodName) prog_24_method_6_code (1 : Nat) (Option.some (Jvm.ClassFile.FieldType.object "java/lang/String"))).before args0 about1 = true := code_word (m := ⟨9, 2⟩) (meth := k9m2) (c := k9c2) (by decide +kernel) rfl rfl rfl (by decide +kernel)
set_option maxRecDepth 65536 in
theorem w_c31 : (Jvm.Cond.code ({ cls := "com/example/federant/federant/saml/HubEndpointsUnderPinLaw", name := "matches", desc := "(Ljava/lang/String;[CILjava/lang/String;)Z" } : Jvm.MethodName) method_4_code (4 : Nat) (Option.some Jvm.ClassFile.FieldType.boolean)).before args0 about1 = true := code_word (m := ⟨1, 3⟩) (meth := k1m3) (c := k1c3) (by decide +kernel) rfl rfl rfl (by decide +kernel)
set_option maxRecDepth 65536 in
theorem w_c32 : (Jvm.Cond.code ({ cls := "com/example/federant/federant/saml/HubEndpointsUnderPinLaw", name := "at", desc := "(Ljava/lang/String;I[CILjava/lang/String;)Z" } : Jvm.MethodName) method_5_code (6 : Nat) (Option.some Jvm.ClassFile.FieldType.boolean)).before args0 about1 = true := code_word (m := ⟨1, 4⟩) (meth := k1m4) (c := k1c4) (by decide +kernel) rfl rfl rfl (by decide +kernel)
set_option maxRecDepth 65536 in
theorem w_c33 : (Jvm.Cond.code ({ cls := "java/lang/String", name := "charAt", desc := "(I)C" } : Jvm.MethodName) jdk_42_method_56_code (2 : Nat) (Option.some Jvm.ClassFile.FieldType.char)).before args0 about1 = true := code_word (m := ⟨7, 4⟩) (meth := k7m4) (c := k7c4) (by decide +kernel) rfl rfl rfl (by decide +kernel)
set_option maxRecDepth 65536 in
theorem w_c34 : (Jvm.Cond.code ({ cls := "java/lang/String", name := "isLatin1", desc := "()Z" } : Jvm.MethodName) jdk_42_method_154_code (1 : Nat) (Option.some Jvm.ClassFile.FieldType.boolean)).before args0 about1 = true := code_word (m := ⟨7, 11⟩) (meth := k7m11) (c := k7c11) (by decide +kernel) rfl rfl rfl (by decide +kernel)
set_option maxRecDepth 65536 in
theorem w_c35 : (Jvm.Cond.code ({ cls := "java/lang/StringLatin1", name := "charAt", desc := "([BI)C" } : Jvm.MethodName) jdk_43_method_2_code (2 : Nat) (Option.some Jvm.ClassFile.FieldType.char)).before args0 about1 = true := code_word (m := ⟨16, 1⟩) (meth := k16m1) (c := k16c1) (by decide +kernel) rfl rfl rfl (by decide +kernel)
set_option maxRecDepth 65536 in
theorem w_c36 : (Jvm.Cond.code ({ cls := "java/lang/String", name := "checkIndex", desc := "(II)V" } : Jvm.MethodName) jdk_42_method_155_code (2 : Nat) (Option.none : Option Jvm.ClassFile.FieldType)).before args0 about1 = true := code_word (m := ⟨7, 12⟩) (meth := k7m12) (c := k7c12) (by decide +kernel) rfl rfl rfl (by decide +kernel)
set_option maxRecDepth 65536 in
theorem w_c37 : (Jvm.Cond.code ({ cls := "jdk/internal/util/Preconditions", name := "checkIndex", desc := "(IILjava/util/function/BiFunction;)I" } : Jvm.MethodName) jdk_41_method_11_code (3 : Nat) (Option.some Jvm.ClassFile.FieldType.int)).before args0 about1 = true := code_word (m := ⟨17, 1⟩) (meth := k17m1) (c := k17c1) (by decide +kernel) rfl rfl rfl (by decide +kernel)
set_option maxRecDepth 65536 in
theorem w_c38 : (Jvm.Cond.code ({ cls := "com/example/federant/federant/saml/HubEndpoints", name := "metadata", desc := "()Ljava/lang/String;" } : Jvm.MethodName) prog_24_method_7_code (1 : Nat) (Option.some (Jvm.ClassFile.FieldType.object "java/lang/String"))).before args0 about1 = true := code_word (m := ⟨9, 3⟩) (meth := k9m3) (c := k9c3) (by decide +kernel) rfl rfl rfl (by decide +kernel)
set_option maxRecDepth 65536 in
theorem w_c39 : (Jvm.Cond.code ({ cls := "com/example/federant/federant/saml/HubEndpoints", name := "assertionConsumer", desc := "()Ljava/lang/String;" } : Jvm.MethodName) prog_24_method_8_code (1 : Nat) (Option.some (Jvm.ClassFile.FieldType.object "java/lang/String"))).before args0 about1 = true := code_word (m := ⟨9, 4⟩) (meth := k9m4) (c := k9c4) (by decide +kernel) rfl rfl rfl (by decide +kernel)
set_option maxRecDepth 65536 in
theorem w_c40 : (Jvm.Cond.code ({ cls := "com/example/federant/federant/saml/HubEndpointsUnderPinLaw", name := "noSlash", desc := "(I)C" } : Jvm.MethodName) method_3_code (2 : Nat) (Option.some Jvm.ClassFile.FieldType.char)).before args0 about1 = true := code_word (m := ⟨1, 2⟩) (meth := k1m2) (c := k1c2) (by decide +kernel) rfl rfl rfl (by decide +kernel)
set_option maxRecDepth 65536 in
theorem w_c41 : (Jvm.Cond.code ({ cls := "java/lang/StringUTF16", name := "compress", desc := "([CII)[B" } : Jvm.MethodName) jdk_52_method_16_code (6 : Nat) (Option.some (Jvm.ClassFile.FieldType.array Jvm.ClassFile.FieldType.byte))).before args0 about1 = true := code_word (m := ⟨18, 2⟩) (meth := k18m2) (c := k18c2) (by decide +kernel) rfl rfl rfl (by decide +kernel)
set_option maxRecDepth 65536 in
theorem w_c42 : (Jvm.Cond.code ({ cls := "java/lang/StringUTF16", name := "compress", desc := "([CI[BII)I" } : Jvm.MethodName) jdk_52_method_21_code (7 : Nat) (Option.some Jvm.ClassFile.FieldType.int)).before args0 about1 = true := code_word (m := ⟨18, 3⟩) (meth := k18m3) (c := k18c3) (by decide +kernel) rfl rfl rfl (by decide +kernel)
set_option maxRecDepth 65536 in
theorem w_c43 : (Jvm.Cond.code ({ cls := "java/lang/StringUTF16", name := "coderFromArrayLen", desc := "([BI)B" } : Jvm.MethodName) jdk_52_method_15_code (2 : Nat) (Option.some Jvm.ClassFile.FieldType.byte)).before args0 about1 = true := code_word (m := ⟨18, 1⟩) (meth := k18m1) (c := k18c1) (by decide +kernel) rfl rfl rfl (by decide +kernel)
set_option maxRecDepth 65536 in
theorem w_c44 : (Jvm.Cond.code ({ cls := "jdk/internal/util/ArraysSupport", name := "mismatch", desc := "([BI[BII)I" } : Jvm.MethodName) jdk_48_method_14_code (8 : Nat) (Option.some Jvm.ClassFile.FieldType.int)).before args0 about1 = true := code_word (m := ⟨19, 1⟩) (meth := k19m1) (c := k19c1) (by decide +kernel) rfl rfl rfl (by decide +kernel)
def codes1 : List Jvm.Cond := [Jvm.Cond.code x code maxLocals ret, Jvm.Cond.code ({ cls := "java/lang/String", name := "<init>", desc := "([C)V" } : Jvm.MethodName) jdk_42_method_3_code (2 : Nat) (Option.none : Option Jvm.ClassFile.FieldType), Jvm.Cond.code ({ cls := "java/lang/String", name := "<init>", desc := "([CIILjava/lang/Void;)V" } : Jvm.MethodName) jdk_42_method_149_code (6 : Nat) (Option.none : Option Jvm.ClassFile.FieldType), Jvm.Cond.code ({ cls := "java/lang/Object", name := "<init>", desc := "()V" } : Jvm.MethodName) object_method_1_code (1 : Nat) (Option.none : Option Jvm.ClassFile.FieldType), Jvm.Cond.code ({ cls := "com/example/federant/federant/saml/HubEndpoints", name := "under", desc := "(Ljava/lang/String;)Lcom/example/federant/federant/saml/HubEndpoints;" } : Jvm.MethodName) prog_24_method_2_code (1 : Nat) (Option.some (Jvm.ClassFile.FieldType.object "com/example/federant/federant/saml/HubEndpoints")), Jvm.Cond.code ({ cls := "java/lang/String", name := "endsWith", desc := "(Ljava/lang/String;)Z" } : Jvm.MethodName) jdk_42_method_77_code (2 : Nat) (Option.some Jvm.ClassFile.FieldType.boolean), Jvm.Cond.code ({ cls := "java/lang/String", name := "length", desc := "()I" } : Jvm.MethodName) jdk_42_method_54_code (1 : Nat) (Option.some Jvm.ClassFile.FieldType.int), Jvm.Cond.code ({ cls := "java/lang/String", name := "coder", desc := "()B" } : Jvm.MethodName) jdk_42_method_152_code (1 : Nat) (Option.some Jvm.ClassFile.FieldType.byte), Jvm.Cond.code ({ cls := "java/lang/String", name := "startsWith", desc := "(Ljava/lang/String;I)Z" } : Jvm.MethodName) jdk_42_method_75_code (8 : Nat) (Option.some Jvm.ClassFile.FieldType.boolean), Jvm.Cond.code ({ cls := "java/lang/StringBuilder", name := "<init>", desc := "()V" } : Jvm.MethodName) jdk_67_method_1_code (1 : Nat) (Option.none : Option Jvm.ClassFile.FieldType), Jvm.Cond.code ({ cls := "java/lang/AbstractStringBuilder", name := "<init>", desc := "(I)V" } : Jvm.MethodName) jdk_68_method_2_code (2 : Nat) (Option.none : Option Jvm.ClassFile.FieldType), Jvm.Cond.code ({ cls := "java/lang/StringBuilder", name := "append", desc := "(Ljava/lang/String;)Ljava/lang/StringBuilder;" } : Jvm.MethodName) jdk_67_method_7_code (2 : Nat) (Option.some (Jvm.ClassFile.FieldType.object "java/lang/StringBuilder")), Jvm.Cond.code ({ cls := "java/lang/AbstractStringBuilder", name := "append", desc := "(Ljava/lang/String;)Ljava/lang/AbstractStringBuilder;" } : Jvm.MethodName) jdk_68_method_22_code (3 : Nat) (Option.some (Jvm.ClassFile.FieldType.object "java/lang/AbstractStringBuilder")), Jvm.Cond.code ({ cls := "java/lang/AbstractStringBuilder", name := "ensureCapacityInternal", desc := "(I)V" } : Jvm.MethodName) jdk_68_method_9_code (3 : Nat) (Option.none : Option Jvm.ClassFile.FieldType), Jvm.Cond.code ({ cls := "java/lang/AbstractStringBuilder", name := "putStringAt", desc := "(ILjava/lang/String;)V" } : Jvm.MethodName) jdk_68_method_73_code (3 : Nat) (Option.none : Option Jvm.ClassFile.FieldType), Jvm.Cond.code ({ cls := "java/lang/AbstractStringBuilder", name := "inflateIfNeededFor", desc := "(Ljava/lang/String;)V" } : Jvm.MethodName) jdk_68_method_71_code (2 : Nat) (Option.none : Option Jvm.ClassFile.FieldType), Jvm.Cond.code ({ cls := "java/lang/String", name := "getBytes", desc := "([BIB)V" } : Jvm.MethodName) jdk_42_method_147_code (4 : Nat) (Option.none : Option Jvm.ClassFile.FieldType), Jvm.Cond.code ({ cls := "java/lang/StringBuilder", name := "toString", desc := "()Ljava/lang/String;" } : Jvm.MethodName) jdk_67_method_42_code (1 : Nat) (Option.some (Jvm.ClassFile.FieldType.object "java/lang/String")), Jvm.Cond.code ({ cls := "java/lang/String", name := "<init>", desc := "(Ljava/lang/StringBuilder;)V" } : Jvm.MethodName) jdk_42_method_53_code (2 : Nat) (Option.none : Option Jvm.ClassFile.FieldType), Jvm.Cond.code ({ cls := "java/lang/String", name := "<init>", desc := "(Ljava/lang/AbstractStringBuilder;Ljava/lang/Void;)V" } : Jvm.MethodName) jdk_42_method_150_code (5 : Nat) (Option.none : Option Jvm.ClassFile.FieldType), Jvm.Cond.code ({ cls := "java/lang/AbstractStringBuilder", name := "getValue", desc := "()[B" } : Jvm.MethodName) jdk_68_method_64_code (1 : Nat) (Option.some (Jvm.ClassFile.FieldType.array Jvm.ClassFile.FieldType.byte)), Jvm.Cond.code ({ cls := "java/lang/StringBuilder", name := "length", desc := "()I" } : Jvm.MethodName) jdk_67_method_93_code (1 : Nat) (Option.some Jvm.ClassFile.FieldType.int), Jvm.Cond.code ({ cls := "java/lang/AbstractStringBuilder", name := "length", desc := "()I" } : Jvm.MethodName) jdk_68_method_6_code (1 : Nat) (Option.some Jvm.ClassFile.FieldType.int), Jvm.Cond.code ({ cls := "java/lang/AbstractStringBuilder", name := "isLatin1", desc := "()Z" } : Jvm.MethodName) jdk_68_method_68_code (1 : Nat) (Option.some Jvm.ClassFile.FieldType.boolean), Jvm.Cond.code ({ cls := "java/util/Arrays", name := "copyOfRange", desc := "([BII)[B" } : Jvm.MethodName) jdk_65_method_132_code (3 : Nat) (Option.some (Jvm.ClassFile.FieldType.array Jvm.ClassFile.FieldType.byte)), Jvm.Cond.code ({ cls := "java/util/Arrays", name := "copyOfRangeByte", desc := "([BII)[B" } : Jvm.MethodName) jdk_65_method_133_code (5 : Nat) (Option.some (Jvm.ClassFile.FieldType.array Jvm.ClassFile.FieldType.byte)), Jvm.Cond.code ({ cls := "java/util/Arrays", name := "checkLength", desc := "(II)V" } : Jvm.MethodName) jdk_65_method_131_code (2 : Nat) (Option.none : Option Jvm.ClassFile.FieldType), Jvm.Cond.code ({ cls := "java/lang/Math", name := "min", desc := "(II)I" } : Jvm.MethodName) jdk_29_method_69_code (2 : Nat) (Option.some Jvm.ClassFile.FieldType.int), Jvm.Cond.code ({ cls := "com/example/federant/federant/saml/HubEndpoints", name := "<init>", desc := "(Ljava/lang/String;Ljava/lang/String;Ljava/lang/String;)V" } : Jvm.MethodName) prog_24_method_1_code (4 : Nat) (Option.none : Option Jvm.ClassFile.FieldType), Jvm.Cond.code ({ cls := "java/lang/Record", name := "<init>", desc := "()V" } : Jvm.MethodName) jdk_30_method_1_code (1 : Nat) (Option.none : Option Jvm.ClassFile.FieldType), Jvm.Cond.code ({ cls := "com/example/federant/federant/saml/HubEndpoints", name := "entityId", desc := "()Ljava/lang/String;" } : Jvm.MethodName) prog_24_method_6_code (1 : Nat) (Option.some (Jvm.ClassFile.FieldType.object "java/lang/String")), Jvm.Cond.code ({ cls := "com/example/federant/federant/saml/HubEndpointsUnderPinLaw", name := "matches", desc := "(Ljava/lang/String;[CILjava/lang/String;)Z" } : Jvm.MethodName) method_4_code (4 : Nat) (Option.some Jvm.ClassFile.FieldType.boolean), Jvm.Cond.code ({ cls := "com/example/federant/federant/saml/HubEndpointsUnderPinLaw", name := "at", desc := "(Ljava/lang/String;I[CILjava/lang/String;)Z" } : Jvm.MethodName) method_5_code (6 : Nat) (Option.some Jvm.ClassFile.FieldType.boolean), Jvm.Cond.code ({ cls := "java/lang/String", name := "charAt", desc := "(I)C" } : Jvm.MethodName) jdk_42_method_56_code (2 : Nat) (Option.some Jvm.ClassFile.FieldType.char), Jvm.Cond.code ({ cls := "java/lang/String", name := "isLatin1", desc := "()Z" } : Jvm.MethodName) jdk_42_method_154_code (1 : Nat) (Option.some Jvm.ClassFile.FieldType.boolean), Jvm.Cond.code ({ cls := "java/lang/StringLatin1", name := "charAt", desc := "([BI)C" } : Jvm.MethodName) jdk_43_method_2_code (2 : Nat) (Option.some Jvm.ClassFile.FieldType.char), Jvm.Cond.code ({ cls := "java/lang/String", name := "checkIndex", desc := "(II)V" } : Jvm.MethodName) jdk_42_method_155_code (2 : Nat) (Option.none : Option Jvm.ClassFile.FieldType), Jvm.Cond.code ({ cls := "jdk/internal/util/Preconditions", name := "checkIndex", desc := "(IILjava/util/function/BiFunction;)I" } : Jvm.MethodName) jdk_41_method_11_code (3 : Nat) (Option.some Jvm.ClassFile.FieldType.int), Jvm.Cond.code ({ cls := "com/example/federant/federant/saml/HubEndpoints", name := "metadata", desc := "()Ljava/lang/String;" } : Jvm.MethodName) prog_24_method_7_code (1 : Nat) (Option.some (Jvm.ClassFile.FieldType.object "java/lang/String")), Jvm.Cond.code ({ cls := "com/example/federant/federant/saml/HubEndpoints", name := "assertionConsumer", desc := "()Ljava/lang/String;" } : Jvm.MethodName) prog_24_method_8_code (1 : Nat) (Option.some (Jvm.ClassFile.FieldType.object "java/lang/String")), Jvm.Cond.code ({ cls := "com/example/federant/federant/saml/HubEndpointsUnderPinLaw", name := "noSlash", desc := "(I)C" } : Jvm.MethodName) method_3_code (2 : Nat) (Option.some Jvm.ClassFile.FieldType.char), Jvm.Cond.code ({ cls := "java/lang/StringUTF16", name := "compress", desc := "([CII)[B" } : Jvm.MethodName) jdk_52_method_16_code (6 : Nat) (Option.some (Jvm.ClassFile.FieldType.array Jvm.ClassFile.FieldType.byte)), Jvm.Cond.code ({ cls := "java/lang/StringUTF16", name := "compress", desc := "([CI[BII)I" } : Jvm.MethodName) jdk_52_method_21_code (7 : Nat) (Option.some Jvm.ClassFile.FieldType.int), Jvm.Cond.code ({ cls := "java/lang/StringUTF16", name := "coderFromArrayLen", desc := "([BI)B" } : Jvm.MethodName) jdk_52_method_15_code (2 : Nat) (Option.some Jvm.ClassFile.FieldType.byte), Jvm.Cond.code ({ cls := "jdk/internal/util/ArraysSupport", name := "mismatch", desc := "([BI[BII)I" } : Jvm.MethodName) jdk_48_method_14_code (8 : Nat) (Option.some Jvm.ClassFile.FieldType.int)]
set_option maxRecDepth 65536 in
theorem codes_eq : words1.filter isCode = codes1 := rfl
theorem w_codes : ∀ c ∈ words1.filter isCode, c.before args0 about1 = true := by
  rw [codes_eq]
  intro c hc
  simp only [codes1, List.mem_cons, List.not_mem_nil, or_false] at hc
  rcases hc with rfl | rfl | rfl | rfl | rfl | rfl | rfl | rfl | rfl | rfl | rfl | rfl | rfl | rfl | rfl | rfl | rfl | rfl | rfl | rfl | rfl | rfl | rfl | rfl | rfl | rfl | rfl | rfl | rfl | rfl | rfl | rfl | rfl | rfl | rfl | rfl | rfl | rfl | rfl | rfl | rfl | rfl | rfl | rfl | rfl
  · exact w_c0
  · exact w_c1
  · exact w_c2
  · exact w_c3
  · exact w_c4
  · exact w_c5
  · exact w_c6
  · exact w_c7
  · exact w_c8
  · exact w_c9
  · exact w_c10
  · exact w_c11
  · exact w_c12
  · exact w_c13
  · exact w_c14
  · exact w_c15
  · exact w_c16
  · exact w_c17
  · exact w_c18
  · exact w_c19
  · exact w_c20
  · exact w_c21
  · exact w_c22
  · exact w_c23
  · exact w_c24
  · exact w_c25
  · exact w_c26
  · exact w_c27
  · exact w_c28
  · exact w_c29
  · exact w_c30
  · exact w_c31
  · exact w_c32
  · exact w_c33
  · exact w_c34
  · exact w_c35
  · exact w_c36
  · exact w_c37
  · exact w_c38
  · exact w_c39
  · exact w_c40
  · exact w_c41
  · exact w_c42
  · exact w_c43
  · exact w_c44
set_option maxRecDepth 65536 in
theorem w_t1 : (words1.take 24).all (fun c => isCode c || c.before args0 about1) = true := by decide +kernel
set_option maxRecDepth 65536 in
theorem w_t2 : ((words1.drop 24).take 24).all (fun c => isCode c || c.before args0 about1) = true := by decide +kernel
set_option maxRecDepth 65536 in
theorem w_t3 : (((words1.drop 24).drop 24).take 24).all (fun c => isCode c || c.before args0 about1) = true := by decide +kernel
set_option maxRecDepth 65536 in
theorem w_t4 : ((((words1.drop 24).drop 24).drop 24).take 24).all (fun c => isCode c || c.before args0 about1) = true := by decide +kernel
set_option maxRecDepth 65536 in
theorem w_t5 : (((((words1.drop 24).drop 24).drop 24).drop 24).take 24).all (fun c => isCode c || c.before args0 about1) = true := by decide +kernel
set_option maxRecDepth 65536 in
theorem w_t6 : ((((((words1.drop 24).drop 24).drop 24).drop 24).drop 24).take 24).all (fun c => isCode c || c.before args0 about1) = true := by decide +kernel
set_option maxRecDepth 65536 in
theorem w_t7 : (((((((words1.drop 24).drop 24).drop 24).drop 24).drop 24).drop 24).take 24).all (fun c => isCode c || c.before args0 about1) = true := by decide +kernel
set_option maxRecDepth 65536 in
theorem w_t8 : ((((((((words1.drop 24).drop 24).drop 24).drop 24).drop 24).drop 24).drop 24).take 24).all (fun c => isCode c || c.before args0 about1) = true := by decide +kernel
set_option maxRecDepth 65536 in
theorem w_t9 : (((((((((words1.drop 24).drop 24).drop 24).drop 24).drop 24).drop 24).drop 24).drop 24).take 24).all (fun c => isCode c || c.before args0 about1) = true := by decide +kernel
set_option maxRecDepth 65536 in
theorem w_t10 : (((((((((words1.drop 24).drop 24).drop 24).drop 24).drop 24).drop 24).drop 24).drop 24).drop 24).all (fun c => isCode c || c.before args0 about1) = true := by decide +kernel
theorem w_tables : (allAtoms (Jvm.Cond.code x code maxLocals ret :: tables_1)).before args0 about1 = true := by
  rw [allAtoms_all]
  show words1.all (fun c => c.before args0 about1) = true
  refine all_split ?_ w_codes
  rw [← List.take_append_drop 24 words1, List.all_append, w_t1, ← List.take_append_drop 24 (words1.drop 24), List.all_append, w_t2, ← List.take_append_drop 24 ((words1.drop 24).drop 24), List.all_append, w_t3, ← List.take_append_drop 24 (((words1.drop 24).drop 24).drop 24), List.all_append, w_t4, ← List.take_append_drop 24 ((((words1.drop 24).drop 24).drop 24).drop 24), List.all_append, w_t5, ← List.take_append_drop 24 (((((words1.drop 24).drop 24).drop 24).drop 24).drop 24), List.all_append, w_t6, ← List.take_append_drop 24 ((((((words1.drop 24).drop 24).drop 24).drop 24).drop 24).drop 24), List.all_append, w_t7, ← List.take_append_drop 24 (((((((words1.drop 24).drop 24).drop 24).drop 24).drop 24).drop 24).drop 24), List.all_append, w_t8, ← List.take_append_drop 24 ((((((((words1.drop 24).drop 24).drop 24).drop 24).drop 24).drop 24).drop 24).drop 24), List.all_append, w_t9, w_t10]
  rfl
set_option maxRecDepth 65536 in
theorem w_rest : rest_1_c.before args0 about1 = true := by decide +kernel
set_option maxRecDepth 65536 in
theorem w_case : (Jvm.Cond.and given_1 narrow_1).before args0 about1 = true := by decide +kernel
set_option maxRecDepth 65536 in
theorem w_consts : constsHeld consts_1 about1 := Jvm.Lit.constsHeldB_iff.mp (by decide +kernel)
theorem w_applies : (headSpec (Jvm.Cond.code x code maxLocals ret :: tables_1) room_1).applies x e0.platform about1 = true :=
  (Spec.applies_iff w_frames).mpr ⟨w_running, w_runnable, w_alone, w_named, w_hears, w_ripe, w_room, w_tables⟩
set_option maxRecDepth 65536 in
theorem atStart : AtStart classFile x code maxLocals ret World_1 tables_1 room_1 Calls_1 rest_1 Pre_1 launch0 p0 e0 about1 theMethod args0 below0 :=
  ⟨lists_1, trivial, launch0.admits_env _ _ _, launch0.least_env, fairChoices_fair.cas, fairChoices_fair.clock, w_frames, w_args, w_heap, w_applies, ⟨w_consts, trivial⟩, w_rest, w_case⟩
end start1
theorem witness_1 : WitnessClaimed_1 := ⟨start1.p0, start1.e0, start1.about1, start1.theMethod, start1.args0, start1.below0, start1.atStart⟩
end Jvm.Pilot.@@N@@
